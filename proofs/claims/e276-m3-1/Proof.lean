import JvmDerived
import JvmDerived.Pilot.@@N@@Statement
import JvmDerived.Pilot.@@N@@Code
set_option linter.unusedVariables false
set_option linter.unusedSimpArgs false
namespace Jvm.RoadKit
open Sem ClassFile Op Lib Jvm.Stand Jvm.Free Jvm.LawKit
section New
variable {p : Program} {l : Launch} {e : Env} {R : Room} {s : State} {m : MethodId} {args : Array Value} {below : List Frame} {meth : Method} {c : Code} {T : State} {locs : List Loc} {cells slots : Nat}
theorem retI (X : Stand p l e R s m args below meth c T locs cells slots) (hx : p.tables.exec = Jvm.exec) {pc : Nat} {Ls : Array Slot} {z : Int32} {rest : List Value} (hret : meth.sig.returnType = some .int) (hd : decode c.code pc = .ok (.ireturn, 1)) {fs : List Frame}
    (hl : ∀ (f : JFrame) (acts : List Action), f.method = m → f.locked = none → f.entered = [] → (doReturn e (T.setTop f) acts (some (.int z))).1 = T.setFrames fs) : Steps p.tables e below (T.setTop (mkF m pc Ls (.int z :: rest))) (T.setFrames fs) := by
  have hm' : T.vm.method? m = some meth := X.method'
  have hn : narrow .int (.int z) = .int z := rfl
  show Steps p.tables e below (T.setTop { method := m, pc := pc, locals := Ls, stack := _ :: rest, locked := none }) _
  jvm_step X.here [X.here.top, hx, hd, hm', hret, hn]
  first | (intro acts; rw [hl _ acts rfl rfl rfl]) | rw [hl _ _ rfl rfl rfl]
  exact Steps.refl _
end New
end Jvm.RoadKit
namespace Jvm.Pilot.@@N@@
open Jvm Jvm.ClassFile Sem Op Lib Jvm.Free Jvm.Stand Jvm.LawKit Jvm.RoadKit Bundle Jvm.Pilot.@@N@@.Jvm.D
theorem wd {Z : State} {a0 : Array Value} (hw : ∀ d ∈ tables_1, d.before a0 Z = true) (i : Nat) {d : Jvm.Cond} (h : tables_1[i]? = some d) : d.before a0 Z = true := hw _ (List.mem_of_getElem? h)
abbrev jv (x : Int64) : Slot := .val (.long x)
/-- from A the run comes to an end that R speaks of -/
abbrev own_Go (tb : Tables) (e : Env) (below : List Frame) (A : State) (R : State → Outcome → Prop) : Prop := ∃ s₂ o, Steps tb e below A s₂ ∧ R s₂ o
theorem own_go {tb : Tables} {e : Env} {below : List Frame} {A : State} {R : State → Outcome → Prop} (h : own_Go tb e below A R) : ∃ s₂ o, Steps tb e below A s₂ ∧ R s₂ o := h
theorem own_lift {tb : Tables} {e : Env} {below : List Frame} {A B : State} {R : State → Outcome → Prop} (h : ∀ t, Steps tb e below A t → Steps tb e below B t) (k : own_Go tb e below A R) : own_Go tb e below B R := by
  obtain ⟨t, o, k1, k2⟩ := k
  exact ⟨t, o, h t k1, k2⟩
theorem own_plain {Z : State} {h : Heap} {a : Addr} {C : String} (F : Exa Z h a C) : ∃ c : Cell, h[a]? = some c ∧ c.vm.isStatics = false := by
  obtain ⟨c, _, h1, -, -, h4, -⟩ := F
  exact ⟨c, h1, h4⟩
theorem own_Arr_keep {Z : State} {h h' : Heap} {a : Addr} {c : Cell} {ty : FieldType} {ws : List Addr} (F : Arr Z h a c ty) (K : Keep h h' ws) (q : a ∉ ws) : Arr Z h' a c ty := ⟨K.2.1 a c F.1 q, F.2⟩
theorem own_asymm {a b : Int32} (h : a < b) : ¬ b < a := Int32.not_lt.mpr (Int32.le_of_lt h)
theorem own_Sta_keep {Z : State} {h h' : Heap} {C n d : String} {v : Value} {ws : List Addr} (F : Sta Z h C n d v) (K : Keep h h' ws) (q : ∀ x ∈ ws, ∃ c : Cell, h[x]? = some c ∧ c.vm.isStatics = false) : Sta Z h' C n d v := by
  obtain ⟨cf, i, k, f, st, cell, h1, h2, h3, h4, h5, h6, h7⟩ := F
  refine ⟨cf, i, k, f, st, cell, h1, h2, h3, h4, K.2.1 st cell h5 fun z => ?_, h6, h7⟩
  obtain ⟨c, g1, g2⟩ := q st z
  cases h5.symm.trans g1
  rw [h6] at g2
  cases g2
def own_pos (x : Int32) : Int32 := if (1 : Int32) < (x &&& (2147483647 : Int32)) then (x &&& (2147483647 : Int32)) else 1
theorem own_pos_ge (x : Int32) : ¬ (own_pos x < (1 : Int32)) := by
  rw [own_pos]
  split
  · rename_i h; exact own_asymm h
  · decide
theorem pn_0 : plainName "com/example/allsome/allsome/cypher/InputPosition" = true := by first | (simp [plainName, overriddenIn]; done) | decide +kernel
theorem d1_0 : decode prog_84_method_1_code 0 = .ok (.aload_n 0, 1) := by decide +kernel
theorem d1_1 : decode prog_84_method_1_code 1 = .ok (.invokespecial 1, 3) := by decide +kernel
theorem d1_4 : decode prog_84_method_1_code 4 = .ok (.iload_n 1, 1) := by decide +kernel
theorem d1_5 : decode prog_84_method_1_code 5 = .ok (.iconst 1, 1) := by decide +kernel
theorem d1_6 : decode prog_84_method_1_code 6 = .ok (.if_icmp .lt 8, 3) := by decide +kernel
theorem d1_9 : decode prog_84_method_1_code 9 = .ok (.iload_n 2, 1) := by decide +kernel
theorem d1_10 : decode prog_84_method_1_code 10 = .ok (.iconst 1, 1) := by decide +kernel
theorem d1_11 : decode prog_84_method_1_code 11 = .ok (.if_icmp .ge 18, 3) := by decide +kernel
theorem d1_29 : decode prog_84_method_1_code 29 = .ok (.aload_n 0, 1) := by decide +kernel
theorem d1_30 : decode prog_84_method_1_code 30 = .ok (.iload_n 1, 1) := by decide +kernel
theorem d1_31 : decode prog_84_method_1_code 31 = .ok (.putfield 16, 3) := by decide +kernel
theorem d1_34 : decode prog_84_method_1_code 34 = .ok (.aload_n 0, 1) := by decide +kernel
theorem d1_35 : decode prog_84_method_1_code 35 = .ok (.iload_n 2, 1) := by decide +kernel
theorem d1_36 : decode prog_84_method_1_code 36 = .ok (.putfield 22, 3) := by decide +kernel
theorem d1_39 : decode prog_84_method_1_code 39 = .ok (.return_, 1) := by decide +kernel
def Q_rmInit (Z : State) (a1 : Addr) (p1 : Int32) (p2 : Int32) (h0 : Heap) (n0 : Nat) (v : Option Value) (h : Heap) (L : List Loc) : Prop := v = none ∧ Fr n0 L ∧ Keep h0 h [a1] ∧ Exa Z h a1 "com/example/allsome/allsome/cypher/InputPosition" ∧ Fld Z h a1 "com/example/allsome/allsome/cypher/InputPosition" "line" "I" (.int p1) ∧ Fld Z h a1 "com/example/allsome/allsome/cypher/InputPosition" "column" "I" (.int p2)
theorem ef_rmInit (m : MethodId) (x0 : Addr) (x1 : Int32) (x2 : Int32) : entryFrame m #[(.ref x0), (.int x1), (.int x2)] 3 = mkF m 0 #[.val (.ref x0), .val (.int x1), .val (.int x2)] [] := by first | (simp [entryFrame, mkF, argsToLocals, Value.category]; done) | rfl
set_option maxRecDepth 65536 in
set_option maxHeartbeats 40000000 in
theorem rmInit (l : Launch) (Z : State) (a0 : Array Value) (hw : ∀ d ∈ tables_1, d.before a0 Z = true) (ws : List Jvm.Cond) (a1 : Addr) (p1 : Int32) (p2 : Int32) (h0 : Heap) (n0 : Nat) (Z0 : n0 ≤ h0.size) (F1 : Fld Z h0 a1 "com/example/allsome/allsome/cypher/InputPosition" "line" "I" (.int 0)) (F2 : Fld Z h0 a1 "com/example/allsome/allsome/cypher/InputPosition" "column" "I" (.int 0)) (E1 : Exa Z h0 a1 "com/example/allsome/allsome/cypher/InputPosition") (G1 : n0 ≤ a1) (c1 : ¬ (p1 < (1 : Int32))) (c2 : ¬ (p2 < (1 : Int32))) :
    MetFree l (⟨"com/example/allsome/allsome/cypher/InputPosition", "<init>", "(II)V"⟩ : MethodName) (head1 (Jvm.Cond.code (⟨"com/example/allsome/allsome/cypher/InputPosition", "<init>", "(II)V"⟩ : MethodName) prog_84_method_1_code 3 none :: ws) ({ frames := 1, cells := 0, slots := 0, locals := 12 } : Room)) (fun a U => a = #[(.ref a1), (.int p1), (.int p2)] ∧ Z.Warmed39 U.vm ∧ U.heap = h0) (fun _ _ _ _ _ => True) (fun _ U o U' => ∃ v L, o = .returned v ∧ Q_rmInit Z a1 p1 p2 h0 n0 v U'.heap L ∧ FrameEnd U o U' L ({ frames := 1, cells := 0, slots := 0, locals := 12 } : Room).cells ({ frames := 1, cells := 0, slots := 0, locals := 12 } : Room).slots) := by
  refine MetFree.of_bodySF (plainFor_of_name pn_0) hisR ?_
  intro p e s m args below meth c s₁ Bd hml0 hP hK
  obtain ⟨rfl, hZ, hh⟩ := hP
  have hx := Bd.exec
  have hby := Bd.bytes
  have hml : c.maxLocals = 3 := hml0
  have hown : s.vm.findClass "com/example/allsome/allsome/cypher/InputPosition" = some m.cls := findClass_of_methodNamed Bd.named
  have hnm := (name_of_methodNamed Bd.named Bd.method).1
  have X0 : Stand p l e ({ frames := 1, cells := 0, slots := 0, locals := 12 } : Room) s m #[(.ref a1), (.int p1), (.int p2)] below meth c s₁ [] 0 0 := Stand.of_body Bd
  have e0 : s₁.heap = h0 := by rw [← hh, Bd.state]; rfl
  have N0 := Fr.nil n0
  refine own_go (own_lift (fun t k => castTop (ef_rmInit m a1 p1 p2) k) ?_)
  show own_Go p.tables e below (s₁.setTop (mkF m 0 #[rv a1, iv p1, iv p2] [])) _
  have sg1 : ∀ t, Steps p.tables e below (s₁.setTop (mkF m 1 #[rv a1, iv p1, iv p2] [(.ref a1)])) t → Steps p.tables e below (s₁.setTop (mkF m 0 #[rv a1, iv p1, iv p2] [])) t := by
    intro t k
    refine XS.aloadN X0.here hx rfl (hb hby d1_0) rfl rfl ?_
    show Steps p.tables e below (s₁.setTop (mkF m 1 #[rv a1, iv p1, iv p2] [(.ref a1)])) _
    exact k
  refine own_lift sg1 ?_
  show own_Go p.tables e below (s₁.setTop (mkF m 1 #[rv a1, iv p1, iv p2] [(.ref a1)])) _
  obtain ⟨T2, X2, e2, st2⟩ := initO X0 hx hZ hown (wd hw 15 rfl) (wd hw 16 rfl) (wd hw 17 rfl) e0 (g := (mkF m 1 #[rv a1, iv p1, iv p2] [(.ref a1)])) rfl (by rw [hml]; rfl) rfl (hb hby d1_1) (by decide) (W := 0) (by show 2 * 0 + _ ≤ _; exact Nat.le_of_eq rfl) (by decide)
  refine own_lift st2 ?_
  show own_Go p.tables e below (T2.setTop (mkF m 4 #[rv a1, iv p1, iv p2] [])) _
  have sg3 : ∀ t, Steps p.tables e below (T2.setTop (mkF m 31 #[rv a1, iv p1, iv p2] [(.int p1), (.ref a1)])) t → Steps p.tables e below (T2.setTop (mkF m 4 #[rv a1, iv p1, iv p2] [])) t := by
    intro t k
    refine XS.iloadN X2.here hx rfl (hb hby d1_4) rfl ?_
    show Steps p.tables e below (T2.setTop (mkF m 5 #[rv a1, iv p1, iv p2] [(.int p1)])) _
    refine XS.iconst X2.here hx rfl (hb hby d1_5) ?_
    show Steps p.tables e below (T2.setTop (mkF m 6 #[rv a1, iv p1, iv p2] [(.int 1), (.int p1)])) _
    refine XS.icmpNo X2.here hx rfl (hb hby d1_6) rfl (flt c1).1 ?_
    show Steps p.tables e below (T2.setTop (mkF m 9 #[rv a1, iv p1, iv p2] [])) _
    refine XS.iloadN X2.here hx rfl (hb hby d1_9) rfl ?_
    show Steps p.tables e below (T2.setTop (mkF m 10 #[rv a1, iv p1, iv p2] [(.int p2)])) _
    refine XS.iconst X2.here hx rfl (hb hby d1_10) ?_
    show Steps p.tables e below (T2.setTop (mkF m 11 #[rv a1, iv p1, iv p2] [(.int 1), (.int p2)])) _
    refine XS.icmpYes X2.here hx rfl (pc0 := 11) (pc' := 29) rfl (hb hby d1_11) rfl (flt c2).2.1 (by decide) (by decide) ?_
    show Steps p.tables e below (T2.setTop (mkF m 29 #[rv a1, iv p1, iv p2] [])) _
    refine XS.aloadN X2.here hx rfl (hb hby d1_29) rfl rfl ?_
    show Steps p.tables e below (T2.setTop (mkF m 30 #[rv a1, iv p1, iv p2] [(.ref a1)])) _
    refine XS.iloadN X2.here hx rfl (hb hby d1_30) rfl ?_
    show Steps p.tables e below (T2.setTop (mkF m 31 #[rv a1, iv p1, iv p2] [(.int p1), (.ref a1)])) _
    exact k
  refine own_lift sg3 ?_
  show own_Go p.tables e below (T2.setTop (mkF m 31 #[rv a1, iv p1, iv p2] [(.int p1), (.ref a1)])) _
  obtain ⟨T4, h4, X4, e4, W4, st4⟩ := putF X2 hx hZ hown (host := "") (Or.inl (wd hw 18 rfl)) Via.refl e2 F1 E1 (Or.inr ⟨(wd hw 19 rfl), rfl, hnm⟩) (wd hw 10 rfl) (ty := .int) (by decide) rfl rfl (g := (mkF m 31 #[rv a1, iv p1, iv p2] [(.int p1), (.ref a1)])) rfl rfl (hb hby d1_31)
  have N4 := Fr.snoc X4 N0 G1
  have Z4 : n0 ≤ h4.size := Nat.le_trans Z0 (Nat.le_of_eq W4.size.symm)
  have K4 : Keep h0 h4 [a1] := (Keep.refl h0 [a1]).wr W4 (Or.inl (List.mem_of_getElem? (i := 0) rfl))
  have Fw4 : Fld Z h4 a1 "com/example/allsome/allsome/cypher/InputPosition" "line" "I" (.int p1) := F1.same W4
  refine own_lift st4 ?_
  show own_Go p.tables e below (T4.setTop (mkF m 34 #[rv a1, iv p1, iv p2] [])) _
  have sg5 : ∀ t, Steps p.tables e below (T4.setTop (mkF m 36 #[rv a1, iv p1, iv p2] [(.int p2), (.ref a1)])) t → Steps p.tables e below (T4.setTop (mkF m 34 #[rv a1, iv p1, iv p2] [])) t := by
    intro t k
    refine XS.aloadN X4.here hx rfl (hb hby d1_34) rfl rfl ?_
    show Steps p.tables e below (T4.setTop (mkF m 35 #[rv a1, iv p1, iv p2] [(.ref a1)])) _
    refine XS.iloadN X4.here hx rfl (hb hby d1_35) rfl ?_
    show Steps p.tables e below (T4.setTop (mkF m 36 #[rv a1, iv p1, iv p2] [(.int p2), (.ref a1)])) _
    exact k
  refine own_lift sg5 ?_
  show own_Go p.tables e below (T4.setTop (mkF m 36 #[rv a1, iv p1, iv p2] [(.int p2), (.ref a1)])) _
  have Fc6 : Fld Z h4 a1 "com/example/allsome/allsome/cypher/InputPosition" "column" "I" (.int 0) := (F2.other W4 (Or.inr (slot_ne (Or.inr (wd hw 21 rfl)) (Or.inr (wd hw 19 rfl)) (by decide) (t := .int) (t' := .int) (by decide) (by decide))))
  have Fc7 : Exa Z h4 a1 "com/example/allsome/allsome/cypher/InputPosition" := (E1.wr W4)
  obtain ⟨T8, h8, X8, e8, W8, st8⟩ := putF X4 hx hZ hown (host := "") (Or.inl (wd hw 20 rfl)) Via.refl e4 Fc6 Fc7 (Or.inr ⟨(wd hw 21 rfl), rfl, hnm⟩) (wd hw 10 rfl) (ty := .int) (by decide) rfl rfl (g := (mkF m 36 #[rv a1, iv p1, iv p2] [(.int p2), (.ref a1)])) rfl rfl (hb hby d1_36)
  have N8 := Fr.snoc X8 N4 G1
  have Z8 : n0 ≤ h8.size := Nat.le_trans Z4 (Nat.le_of_eq W8.size.symm)
  have K8 : Keep h0 h8 [a1] := K4.wr W8 (Or.inl (List.mem_of_getElem? (i := 0) rfl))
  have Fw8 : Fld Z h8 a1 "com/example/allsome/allsome/cypher/InputPosition" "column" "I" (.int p2) := Fc6.same W8
  refine own_lift st8 ?_
  show own_Go p.tables e below (T8.setTop (mkF m 39 #[rv a1, iv p1, iv p2] [])) _
  obtain ⟨fs, hr, hrun, hended, hW, hsame⟩ := X8.leave (v := none) (fun _ => rfl)
  have Fc9 : Exa Z h8 a1 "com/example/allsome/allsome/cypher/InputPosition" := (Fc7.wr W8)
  have Fc10 : Fld Z h8 a1 "com/example/allsome/allsome/cypher/InputPosition" "line" "I" (.int p1) := (Fw4.other W8 (Or.inr (slot_ne (Or.inr (wd hw 19 rfl)) (Or.inr (wd hw 21 rfl)) (by decide) (t := .int) (t' := .int) (by decide) (by decide))))
  refine ⟨_, _, ?_, hrun, hended, _, _, rfl, ?_, ⟨_, rfl⟩, hW, hsame.mono (by decide) (by decide)⟩
  · exact X8.returnOut hx Bd.returns (hb hby d1_39) hr
  · show Q_rmInit Z a1 p1 p2 h0 n0 _ T8.heap _
    rw [e8]
    exact ⟨rfl, N8, K8, Fc9, Fc10, Fw8⟩
theorem d2_0 : decode prog_84_method_5_code 0 = .ok (.aload_n 1, 1) := by decide +kernel
theorem d2_1 : decode prog_84_method_5_code 1 = .ok (.instanceof 17, 3) := by decide +kernel
theorem d2_4 : decode prog_84_method_5_code 4 = .ok (.ifCond .eq 35, 3) := by decide +kernel
theorem d2_7 : decode prog_84_method_5_code 7 = .ok (.aload_n 0, 1) := by decide +kernel
theorem d2_8 : decode prog_84_method_5_code 8 = .ok (.getfield 16, 3) := by decide +kernel
theorem d2_11 : decode prog_84_method_5_code 11 = .ok (.aload_n 1, 1) := by decide +kernel
theorem d2_12 : decode prog_84_method_5_code 12 = .ok (.checkcast 17, 3) := by decide +kernel
theorem d2_15 : decode prog_84_method_5_code 15 = .ok (.getfield 16, 3) := by decide +kernel
theorem d2_18 : decode prog_84_method_5_code 18 = .ok (.if_icmp .ne 21, 3) := by decide +kernel
theorem d2_21 : decode prog_84_method_5_code 21 = .ok (.aload_n 0, 1) := by decide +kernel
theorem d2_22 : decode prog_84_method_5_code 22 = .ok (.getfield 22, 3) := by decide +kernel
theorem d2_25 : decode prog_84_method_5_code 25 = .ok (.aload_n 1, 1) := by decide +kernel
theorem d2_26 : decode prog_84_method_5_code 26 = .ok (.checkcast 17, 3) := by decide +kernel
theorem d2_29 : decode prog_84_method_5_code 29 = .ok (.getfield 22, 3) := by decide +kernel
theorem d2_32 : decode prog_84_method_5_code 32 = .ok (.if_icmp .ne 7, 3) := by decide +kernel
theorem d2_35 : decode prog_84_method_5_code 35 = .ok (.iconst 1, 1) := by decide +kernel
theorem d2_36 : decode prog_84_method_5_code 36 = .ok (.goto 4, 3) := by decide +kernel
theorem d2_40 : decode prog_84_method_5_code 40 = .ok (.ireturn, 1) := by decide +kernel
def Q_rmEqY (Z : State) (a1 : Addr) (a2 : Addr) (w1 : Int32) (w2 : Int32) (w3 : Int32) (w4 : Int32) (h0 : Heap) (n0 : Nat) (v : Option Value) (h : Heap) (L : List Loc) : Prop := v = some (.int 1) ∧ Fr n0 L ∧ h = h0
theorem ef_rmEqY (m : MethodId) (x0 : Addr) (x1 : Addr) : entryFrame m #[(.ref x0), (.ref x1)] 2 = mkF m 0 #[.val (.ref x0), .val (.ref x1)] [] := by first | (simp [entryFrame, mkF, argsToLocals, Value.category]; done) | rfl
set_option maxRecDepth 65536 in
set_option maxHeartbeats 40000000 in
theorem rmEqY (l : Launch) (Z : State) (a0 : Array Value) (hw : ∀ d ∈ tables_1, d.before a0 Z = true) (ws : List Jvm.Cond) (a1 : Addr) (a2 : Addr) (w1 : Int32) (w2 : Int32) (w3 : Int32) (w4 : Int32) (h0 : Heap) (n0 : Nat) (Z0 : n0 ≤ h0.size) (F1 : Fld Z h0 a1 "com/example/allsome/allsome/cypher/InputPosition" "line" "I" (.int w1)) (F2 : Fld Z h0 a1 "com/example/allsome/allsome/cypher/InputPosition" "column" "I" (.int w2)) (F3 : Fld Z h0 a2 "com/example/allsome/allsome/cypher/InputPosition" "line" "I" (.int w3)) (F4 : Fld Z h0 a2 "com/example/allsome/allsome/cypher/InputPosition" "column" "I" (.int w4)) (E2 : Exa Z h0 a2 "com/example/allsome/allsome/cypher/InputPosition") (c1 : w1 = w3) (c2 : w2 = w4) :
    MetFree l (⟨"com/example/allsome/allsome/cypher/InputPosition", "equals", "(Ljava/lang/Object;)Z"⟩ : MethodName) (head1 (Jvm.Cond.code (⟨"com/example/allsome/allsome/cypher/InputPosition", "equals", "(Ljava/lang/Object;)Z"⟩ : MethodName) prog_84_method_5_code 2 (some .boolean) :: ws) ({ frames := 0, cells := 0, slots := 0, locals := 0 } : Room)) (fun a U => a = #[(.ref a1), (.ref a2)] ∧ Z.Warmed39 U.vm ∧ U.heap = h0) (fun _ _ _ _ _ => True) (fun _ U o U' => ∃ v L, o = .returned v ∧ Q_rmEqY Z a1 a2 w1 w2 w3 w4 h0 n0 v U'.heap L ∧ FrameEnd U o U' L ({ frames := 0, cells := 0, slots := 0, locals := 0 } : Room).cells ({ frames := 0, cells := 0, slots := 0, locals := 0 } : Room).slots) := by
  refine MetFree.of_bodySF (plainFor_of_name pn_0) hisR ?_
  intro p e s m args below meth c s₁ Bd hml0 hP hK
  obtain ⟨rfl, hZ, hh⟩ := hP
  have hx := Bd.exec
  have hby := Bd.bytes
  have hml : c.maxLocals = 2 := hml0
  have hown : s.vm.findClass "com/example/allsome/allsome/cypher/InputPosition" = some m.cls := findClass_of_methodNamed Bd.named
  have hnm := (name_of_methodNamed Bd.named Bd.method).1
  have X0 : Stand p l e ({ frames := 0, cells := 0, slots := 0, locals := 0 } : Room) s m #[(.ref a1), (.ref a2)] below meth c s₁ [] 0 0 := Stand.of_body Bd
  have e0 : s₁.heap = h0 := by rw [← hh, Bd.state]; rfl
  have N0 := Fr.nil n0
  refine own_go (own_lift (fun t k => castTop (ef_rmEqY m a1 a2) k) ?_)
  show own_Go p.tables e below (s₁.setTop (mkF m 0 #[rv a1, rv a2] [])) _
  have sg1 : ∀ t, Steps p.tables e below (s₁.setTop (mkF m 1 #[rv a1, rv a2] [(.ref a2)])) t → Steps p.tables e below (s₁.setTop (mkF m 0 #[rv a1, rv a2] [])) t := by
    intro t k
    refine XS.aloadN X0.here hx rfl (hb hby d2_0) rfl rfl ?_
    show Steps p.tables e below (s₁.setTop (mkF m 1 #[rv a1, rv a2] [(.ref a2)])) _
    exact k
  refine own_lift sg1 ?_
  show own_Go p.tables e below (s₁.setTop (mkF m 1 #[rv a1, rv a2] [(.ref a2)])) _
  obtain ⟨T2, X2, e2, st2⟩ := instY X0 hx hZ hown (wd hw 32 rfl) e0 (Ins.self E2) (g := (mkF m 1 #[rv a1, rv a2] [(.ref a2)])) rfl rfl (hb hby d2_1)
  refine own_lift st2 ?_
  show own_Go p.tables e below (T2.setTop (mkF m 4 #[rv a1, rv a2] [(.int 1)])) _
  have sg3 : ∀ t, Steps p.tables e below (T2.setTop (mkF m 8 #[rv a1, rv a2] [(.ref a1)])) t → Steps p.tables e below (T2.setTop (mkF m 4 #[rv a1, rv a2] [(.int 1)])) t := by
    intro t k
    refine XS.ifNo X2.here hx rfl (hb hby d2_4) rfl ((if0 _ _).trans (feq (by decide : ¬ ((1 : Int32) = (0 : Int32)))).1) ?_
    show Steps p.tables e below (T2.setTop (mkF m 7 #[rv a1, rv a2] [])) _
    refine XS.aloadN X2.here hx rfl (hb hby d2_7) rfl rfl ?_
    show Steps p.tables e below (T2.setTop (mkF m 8 #[rv a1, rv a2] [(.ref a1)])) _
    exact k
  refine own_lift sg3 ?_
  show own_Go p.tables e below (T2.setTop (mkF m 8 #[rv a1, rv a2] [(.ref a1)])) _
  obtain ⟨T4, X4, e4, st4⟩ := getF X2 hx hZ hown (host := "") (Or.inl (wd hw 18 rfl)) Via.refl e2 F1 (g := (mkF m 8 #[rv a1, rv a2] [(.ref a1)])) rfl rfl (hb hby d2_8)
  refine own_lift st4 ?_
  show own_Go p.tables e below (T4.setTop (mkF m 11 #[rv a1, rv a2] [(.int w1)])) _
  have sg5 : ∀ t, Steps p.tables e below (T4.setTop (mkF m 12 #[rv a1, rv a2] [(.ref a2), (.int w1)])) t → Steps p.tables e below (T4.setTop (mkF m 11 #[rv a1, rv a2] [(.int w1)])) t := by
    intro t k
    refine XS.aloadN X4.here hx rfl (hb hby d2_11) rfl rfl ?_
    show Steps p.tables e below (T4.setTop (mkF m 12 #[rv a1, rv a2] [(.ref a2), (.int w1)])) _
    exact k
  refine own_lift sg5 ?_
  show own_Go p.tables e below (T4.setTop (mkF m 12 #[rv a1, rv a2] [(.ref a2), (.int w1)])) _
  obtain ⟨T6, X6, e6, st6⟩ := castY X4 hx hZ hown (wd hw 32 rfl) e4 (Ins.self E2) (g := (mkF m 12 #[rv a1, rv a2] [(.ref a2), (.int w1)])) rfl rfl (hb hby d2_12)
  refine own_lift st6 ?_
  show own_Go p.tables e below (T6.setTop (mkF m 15 #[rv a1, rv a2] [(.ref a2), (.int w1)])) _
  obtain ⟨T7, X7, e7, st7⟩ := getF X6 hx hZ hown (host := "") (Or.inl (wd hw 18 rfl)) Via.refl e6 F3 (g := (mkF m 15 #[rv a1, rv a2] [(.ref a2), (.int w1)])) rfl rfl (hb hby d2_15)
  refine own_lift st7 ?_
  show own_Go p.tables e below (T7.setTop (mkF m 18 #[rv a1, rv a2] [(.int w3), (.int w1)])) _
  have sg8 : ∀ t, Steps p.tables e below (T7.setTop (mkF m 22 #[rv a1, rv a2] [(.ref a1)])) t → Steps p.tables e below (T7.setTop (mkF m 18 #[rv a1, rv a2] [(.int w3), (.int w1)])) t := by
    intro t k
    refine XS.icmpNo X7.here hx rfl (hb hby d2_18) rfl (teq c1).2 ?_
    show Steps p.tables e below (T7.setTop (mkF m 21 #[rv a1, rv a2] [])) _
    refine XS.aloadN X7.here hx rfl (hb hby d2_21) rfl rfl ?_
    show Steps p.tables e below (T7.setTop (mkF m 22 #[rv a1, rv a2] [(.ref a1)])) _
    exact k
  refine own_lift sg8 ?_
  show own_Go p.tables e below (T7.setTop (mkF m 22 #[rv a1, rv a2] [(.ref a1)])) _
  obtain ⟨T9, X9, e9, st9⟩ := getF X7 hx hZ hown (host := "") (Or.inl (wd hw 20 rfl)) Via.refl e7 F2 (g := (mkF m 22 #[rv a1, rv a2] [(.ref a1)])) rfl rfl (hb hby d2_22)
  refine own_lift st9 ?_
  show own_Go p.tables e below (T9.setTop (mkF m 25 #[rv a1, rv a2] [(.int w2)])) _
  have sg10 : ∀ t, Steps p.tables e below (T9.setTop (mkF m 26 #[rv a1, rv a2] [(.ref a2), (.int w2)])) t → Steps p.tables e below (T9.setTop (mkF m 25 #[rv a1, rv a2] [(.int w2)])) t := by
    intro t k
    refine XS.aloadN X9.here hx rfl (hb hby d2_25) rfl rfl ?_
    show Steps p.tables e below (T9.setTop (mkF m 26 #[rv a1, rv a2] [(.ref a2), (.int w2)])) _
    exact k
  refine own_lift sg10 ?_
  show own_Go p.tables e below (T9.setTop (mkF m 26 #[rv a1, rv a2] [(.ref a2), (.int w2)])) _
  obtain ⟨T11, X11, e11, st11⟩ := castY X9 hx hZ hown (wd hw 32 rfl) e9 (Ins.self E2) (g := (mkF m 26 #[rv a1, rv a2] [(.ref a2), (.int w2)])) rfl rfl (hb hby d2_26)
  refine own_lift st11 ?_
  show own_Go p.tables e below (T11.setTop (mkF m 29 #[rv a1, rv a2] [(.ref a2), (.int w2)])) _
  obtain ⟨T12, X12, e12, st12⟩ := getF X11 hx hZ hown (host := "") (Or.inl (wd hw 20 rfl)) Via.refl e11 F4 (g := (mkF m 29 #[rv a1, rv a2] [(.ref a2), (.int w2)])) rfl rfl (hb hby d2_29)
  refine own_lift st12 ?_
  show own_Go p.tables e below (T12.setTop (mkF m 32 #[rv a1, rv a2] [(.int w4), (.int w2)])) _
  have sg13 : ∀ t, Steps p.tables e below (T12.setTop (mkF m 40 #[rv a1, rv a2] [(.int 1)])) t → Steps p.tables e below (T12.setTop (mkF m 32 #[rv a1, rv a2] [(.int w4), (.int w2)])) t := by
    intro t k
    refine XS.icmpNo X12.here hx rfl (hb hby d2_32) rfl (teq c2).2 ?_
    show Steps p.tables e below (T12.setTop (mkF m 35 #[rv a1, rv a2] [])) _
    refine XS.iconst X12.here hx rfl (hb hby d2_35) ?_
    show Steps p.tables e below (T12.setTop (mkF m 36 #[rv a1, rv a2] [(.int 1)])) _
    refine XS.goto X12.here hx rfl (pc0 := 36) (pc' := 40) rfl (hb hby d2_36) (by decide) (by decide) ?_
    show Steps p.tables e below (T12.setTop (mkF m 40 #[rv a1, rv a2] [(.int 1)])) _
    exact k
  refine own_lift sg13 ?_
  show own_Go p.tables e below (T12.setTop (mkF m 40 #[rv a1, rv a2] [(.int 1)])) _
  obtain ⟨fs, hr, hrun, hended, hW, hsame⟩ := X12.leave (v := some (.int 1)) (fun h => by rw [Bd.returns] at h; cases h)
  refine ⟨_, _, ?_, hrun, hended, _, _, rfl, ?_, ⟨_, rfl⟩, hW, hsame.mono (by decide) (by decide)⟩
  · exact retN X12 hx (t := .boolean) Bd.returns (by simp) (hb hby d2_40) hr
  · show Q_rmEqY Z a1 a2 w1 w2 w3 w4 h0 n0 _ T12.heap _
    rw [e12]
    exact ⟨rfl, N0, rfl⟩
theorem d2_39 : decode prog_84_method_5_code 39 = .ok (.iconst 0, 1) := by decide +kernel
def Q_rmEqL (Z : State) (a1 : Addr) (a2 : Addr) (w1 : Int32) (w2 : Int32) (w3 : Int32) (w4 : Int32) (h0 : Heap) (n0 : Nat) (v : Option Value) (h : Heap) (L : List Loc) : Prop := v = some (.int 0) ∧ Fr n0 L ∧ h = h0
theorem ef_rmEqL (m : MethodId) (x0 : Addr) (x1 : Addr) : entryFrame m #[(.ref x0), (.ref x1)] 2 = mkF m 0 #[.val (.ref x0), .val (.ref x1)] [] := by first | (simp [entryFrame, mkF, argsToLocals, Value.category]; done) | rfl
set_option maxRecDepth 65536 in
set_option maxHeartbeats 40000000 in
theorem rmEqL (l : Launch) (Z : State) (a0 : Array Value) (hw : ∀ d ∈ tables_1, d.before a0 Z = true) (ws : List Jvm.Cond) (a1 : Addr) (a2 : Addr) (w1 : Int32) (w2 : Int32) (w3 : Int32) (w4 : Int32) (h0 : Heap) (n0 : Nat) (Z0 : n0 ≤ h0.size) (F1 : Fld Z h0 a1 "com/example/allsome/allsome/cypher/InputPosition" "line" "I" (.int w1)) (F2 : Fld Z h0 a1 "com/example/allsome/allsome/cypher/InputPosition" "column" "I" (.int w2)) (F3 : Fld Z h0 a2 "com/example/allsome/allsome/cypher/InputPosition" "line" "I" (.int w3)) (F4 : Fld Z h0 a2 "com/example/allsome/allsome/cypher/InputPosition" "column" "I" (.int w4)) (E2 : Exa Z h0 a2 "com/example/allsome/allsome/cypher/InputPosition") (c1 : ¬ (w1 = w3)) :
    MetFree l (⟨"com/example/allsome/allsome/cypher/InputPosition", "equals", "(Ljava/lang/Object;)Z"⟩ : MethodName) (head1 (Jvm.Cond.code (⟨"com/example/allsome/allsome/cypher/InputPosition", "equals", "(Ljava/lang/Object;)Z"⟩ : MethodName) prog_84_method_5_code 2 (some .boolean) :: ws) ({ frames := 0, cells := 0, slots := 0, locals := 0 } : Room)) (fun a U => a = #[(.ref a1), (.ref a2)] ∧ Z.Warmed39 U.vm ∧ U.heap = h0) (fun _ _ _ _ _ => True) (fun _ U o U' => ∃ v L, o = .returned v ∧ Q_rmEqL Z a1 a2 w1 w2 w3 w4 h0 n0 v U'.heap L ∧ FrameEnd U o U' L ({ frames := 0, cells := 0, slots := 0, locals := 0 } : Room).cells ({ frames := 0, cells := 0, slots := 0, locals := 0 } : Room).slots) := by
  refine MetFree.of_bodySF (plainFor_of_name pn_0) hisR ?_
  intro p e s m args below meth c s₁ Bd hml0 hP hK
  obtain ⟨rfl, hZ, hh⟩ := hP
  have hx := Bd.exec
  have hby := Bd.bytes
  have hml : c.maxLocals = 2 := hml0
  have hown : s.vm.findClass "com/example/allsome/allsome/cypher/InputPosition" = some m.cls := findClass_of_methodNamed Bd.named
  have hnm := (name_of_methodNamed Bd.named Bd.method).1
  have X0 : Stand p l e ({ frames := 0, cells := 0, slots := 0, locals := 0 } : Room) s m #[(.ref a1), (.ref a2)] below meth c s₁ [] 0 0 := Stand.of_body Bd
  have e0 : s₁.heap = h0 := by rw [← hh, Bd.state]; rfl
  have N0 := Fr.nil n0
  refine own_go (own_lift (fun t k => castTop (ef_rmEqL m a1 a2) k) ?_)
  show own_Go p.tables e below (s₁.setTop (mkF m 0 #[rv a1, rv a2] [])) _
  have sg1 : ∀ t, Steps p.tables e below (s₁.setTop (mkF m 1 #[rv a1, rv a2] [(.ref a2)])) t → Steps p.tables e below (s₁.setTop (mkF m 0 #[rv a1, rv a2] [])) t := by
    intro t k
    refine XS.aloadN X0.here hx rfl (hb hby d2_0) rfl rfl ?_
    show Steps p.tables e below (s₁.setTop (mkF m 1 #[rv a1, rv a2] [(.ref a2)])) _
    exact k
  refine own_lift sg1 ?_
  show own_Go p.tables e below (s₁.setTop (mkF m 1 #[rv a1, rv a2] [(.ref a2)])) _
  obtain ⟨T2, X2, e2, st2⟩ := instY X0 hx hZ hown (wd hw 32 rfl) e0 (Ins.self E2) (g := (mkF m 1 #[rv a1, rv a2] [(.ref a2)])) rfl rfl (hb hby d2_1)
  refine own_lift st2 ?_
  show own_Go p.tables e below (T2.setTop (mkF m 4 #[rv a1, rv a2] [(.int 1)])) _
  have sg3 : ∀ t, Steps p.tables e below (T2.setTop (mkF m 8 #[rv a1, rv a2] [(.ref a1)])) t → Steps p.tables e below (T2.setTop (mkF m 4 #[rv a1, rv a2] [(.int 1)])) t := by
    intro t k
    refine XS.ifNo X2.here hx rfl (hb hby d2_4) rfl ((if0 _ _).trans (feq (by decide : ¬ ((1 : Int32) = (0 : Int32)))).1) ?_
    show Steps p.tables e below (T2.setTop (mkF m 7 #[rv a1, rv a2] [])) _
    refine XS.aloadN X2.here hx rfl (hb hby d2_7) rfl rfl ?_
    show Steps p.tables e below (T2.setTop (mkF m 8 #[rv a1, rv a2] [(.ref a1)])) _
    exact k
  refine own_lift sg3 ?_
  show own_Go p.tables e below (T2.setTop (mkF m 8 #[rv a1, rv a2] [(.ref a1)])) _
  obtain ⟨T4, X4, e4, st4⟩ := getF X2 hx hZ hown (host := "") (Or.inl (wd hw 18 rfl)) Via.refl e2 F1 (g := (mkF m 8 #[rv a1, rv a2] [(.ref a1)])) rfl rfl (hb hby d2_8)
  refine own_lift st4 ?_
  show own_Go p.tables e below (T4.setTop (mkF m 11 #[rv a1, rv a2] [(.int w1)])) _
  have sg5 : ∀ t, Steps p.tables e below (T4.setTop (mkF m 12 #[rv a1, rv a2] [(.ref a2), (.int w1)])) t → Steps p.tables e below (T4.setTop (mkF m 11 #[rv a1, rv a2] [(.int w1)])) t := by
    intro t k
    refine XS.aloadN X4.here hx rfl (hb hby d2_11) rfl rfl ?_
    show Steps p.tables e below (T4.setTop (mkF m 12 #[rv a1, rv a2] [(.ref a2), (.int w1)])) _
    exact k
  refine own_lift sg5 ?_
  show own_Go p.tables e below (T4.setTop (mkF m 12 #[rv a1, rv a2] [(.ref a2), (.int w1)])) _
  obtain ⟨T6, X6, e6, st6⟩ := castY X4 hx hZ hown (wd hw 32 rfl) e4 (Ins.self E2) (g := (mkF m 12 #[rv a1, rv a2] [(.ref a2), (.int w1)])) rfl rfl (hb hby d2_12)
  refine own_lift st6 ?_
  show own_Go p.tables e below (T6.setTop (mkF m 15 #[rv a1, rv a2] [(.ref a2), (.int w1)])) _
  obtain ⟨T7, X7, e7, st7⟩ := getF X6 hx hZ hown (host := "") (Or.inl (wd hw 18 rfl)) Via.refl e6 F3 (g := (mkF m 15 #[rv a1, rv a2] [(.ref a2), (.int w1)])) rfl rfl (hb hby d2_15)
  refine own_lift st7 ?_
  show own_Go p.tables e below (T7.setTop (mkF m 18 #[rv a1, rv a2] [(.int w3), (.int w1)])) _
  have sg8 : ∀ t, Steps p.tables e below (T7.setTop (mkF m 40 #[rv a1, rv a2] [(.int 0)])) t → Steps p.tables e below (T7.setTop (mkF m 18 #[rv a1, rv a2] [(.int w3), (.int w1)])) t := by
    intro t k
    refine XS.icmpYes X7.here hx rfl (pc0 := 18) (pc' := 39) rfl (hb hby d2_18) rfl (feq c1).2 (by decide) (by decide) ?_
    show Steps p.tables e below (T7.setTop (mkF m 39 #[rv a1, rv a2] [])) _
    refine XS.iconst X7.here hx rfl (hb hby d2_39) ?_
    show Steps p.tables e below (T7.setTop (mkF m 40 #[rv a1, rv a2] [(.int 0)])) _
    exact k
  refine own_lift sg8 ?_
  show own_Go p.tables e below (T7.setTop (mkF m 40 #[rv a1, rv a2] [(.int 0)])) _
  obtain ⟨fs, hr, hrun, hended, hW, hsame⟩ := X7.leave (v := some (.int 0)) (fun h => by rw [Bd.returns] at h; cases h)
  refine ⟨_, _, ?_, hrun, hended, _, _, rfl, ?_, ⟨_, rfl⟩, hW, hsame.mono (by decide) (by decide)⟩
  · exact retN X7 hx (t := .boolean) Bd.returns (by simp) (hb hby d2_40) hr
  · show Q_rmEqL Z a1 a2 w1 w2 w3 w4 h0 n0 _ T7.heap _
    rw [e7]
    exact ⟨rfl, N0, rfl⟩
def Q_rmEqC (Z : State) (a1 : Addr) (a2 : Addr) (w1 : Int32) (w2 : Int32) (w3 : Int32) (w4 : Int32) (h0 : Heap) (n0 : Nat) (v : Option Value) (h : Heap) (L : List Loc) : Prop := v = some (.int 0) ∧ Fr n0 L ∧ h = h0
theorem ef_rmEqC (m : MethodId) (x0 : Addr) (x1 : Addr) : entryFrame m #[(.ref x0), (.ref x1)] 2 = mkF m 0 #[.val (.ref x0), .val (.ref x1)] [] := by first | (simp [entryFrame, mkF, argsToLocals, Value.category]; done) | rfl
set_option maxRecDepth 65536 in
set_option maxHeartbeats 40000000 in
theorem rmEqC (l : Launch) (Z : State) (a0 : Array Value) (hw : ∀ d ∈ tables_1, d.before a0 Z = true) (ws : List Jvm.Cond) (a1 : Addr) (a2 : Addr) (w1 : Int32) (w2 : Int32) (w3 : Int32) (w4 : Int32) (h0 : Heap) (n0 : Nat) (Z0 : n0 ≤ h0.size) (F1 : Fld Z h0 a1 "com/example/allsome/allsome/cypher/InputPosition" "line" "I" (.int w1)) (F2 : Fld Z h0 a1 "com/example/allsome/allsome/cypher/InputPosition" "column" "I" (.int w2)) (F3 : Fld Z h0 a2 "com/example/allsome/allsome/cypher/InputPosition" "line" "I" (.int w3)) (F4 : Fld Z h0 a2 "com/example/allsome/allsome/cypher/InputPosition" "column" "I" (.int w4)) (E2 : Exa Z h0 a2 "com/example/allsome/allsome/cypher/InputPosition") (c1 : w1 = w3) (c2 : ¬ (w2 = w4)) :
    MetFree l (⟨"com/example/allsome/allsome/cypher/InputPosition", "equals", "(Ljava/lang/Object;)Z"⟩ : MethodName) (head1 (Jvm.Cond.code (⟨"com/example/allsome/allsome/cypher/InputPosition", "equals", "(Ljava/lang/Object;)Z"⟩ : MethodName) prog_84_method_5_code 2 (some .boolean) :: ws) ({ frames := 0, cells := 0, slots := 0, locals := 0 } : Room)) (fun a U => a = #[(.ref a1), (.ref a2)] ∧ Z.Warmed39 U.vm ∧ U.heap = h0) (fun _ _ _ _ _ => True) (fun _ U o U' => ∃ v L, o = .returned v ∧ Q_rmEqC Z a1 a2 w1 w2 w3 w4 h0 n0 v U'.heap L ∧ FrameEnd U o U' L ({ frames := 0, cells := 0, slots := 0, locals := 0 } : Room).cells ({ frames := 0, cells := 0, slots := 0, locals := 0 } : Room).slots) := by
  refine MetFree.of_bodySF (plainFor_of_name pn_0) hisR ?_
  intro p e s m args below meth c s₁ Bd hml0 hP hK
  obtain ⟨rfl, hZ, hh⟩ := hP
  have hx := Bd.exec
  have hby := Bd.bytes
  have hml : c.maxLocals = 2 := hml0
  have hown : s.vm.findClass "com/example/allsome/allsome/cypher/InputPosition" = some m.cls := findClass_of_methodNamed Bd.named
  have hnm := (name_of_methodNamed Bd.named Bd.method).1
  have X0 : Stand p l e ({ frames := 0, cells := 0, slots := 0, locals := 0 } : Room) s m #[(.ref a1), (.ref a2)] below meth c s₁ [] 0 0 := Stand.of_body Bd
  have e0 : s₁.heap = h0 := by rw [← hh, Bd.state]; rfl
  have N0 := Fr.nil n0
  refine own_go (own_lift (fun t k => castTop (ef_rmEqC m a1 a2) k) ?_)
  show own_Go p.tables e below (s₁.setTop (mkF m 0 #[rv a1, rv a2] [])) _
  have sg1 : ∀ t, Steps p.tables e below (s₁.setTop (mkF m 1 #[rv a1, rv a2] [(.ref a2)])) t → Steps p.tables e below (s₁.setTop (mkF m 0 #[rv a1, rv a2] [])) t := by
    intro t k
    refine XS.aloadN X0.here hx rfl (hb hby d2_0) rfl rfl ?_
    show Steps p.tables e below (s₁.setTop (mkF m 1 #[rv a1, rv a2] [(.ref a2)])) _
    exact k
  refine own_lift sg1 ?_
  show own_Go p.tables e below (s₁.setTop (mkF m 1 #[rv a1, rv a2] [(.ref a2)])) _
  obtain ⟨T2, X2, e2, st2⟩ := instY X0 hx hZ hown (wd hw 32 rfl) e0 (Ins.self E2) (g := (mkF m 1 #[rv a1, rv a2] [(.ref a2)])) rfl rfl (hb hby d2_1)
  refine own_lift st2 ?_
  show own_Go p.tables e below (T2.setTop (mkF m 4 #[rv a1, rv a2] [(.int 1)])) _
  have sg3 : ∀ t, Steps p.tables e below (T2.setTop (mkF m 8 #[rv a1, rv a2] [(.ref a1)])) t → Steps p.tables e below (T2.setTop (mkF m 4 #[rv a1, rv a2] [(.int 1)])) t := by
    intro t k
    refine XS.ifNo X2.here hx rfl (hb hby d2_4) rfl ((if0 _ _).trans (feq (by decide : ¬ ((1 : Int32) = (0 : Int32)))).1) ?_
    show Steps p.tables e below (T2.setTop (mkF m 7 #[rv a1, rv a2] [])) _
    refine XS.aloadN X2.here hx rfl (hb hby d2_7) rfl rfl ?_
    show Steps p.tables e below (T2.setTop (mkF m 8 #[rv a1, rv a2] [(.ref a1)])) _
    exact k
  refine own_lift sg3 ?_
  show own_Go p.tables e below (T2.setTop (mkF m 8 #[rv a1, rv a2] [(.ref a1)])) _
  obtain ⟨T4, X4, e4, st4⟩ := getF X2 hx hZ hown (host := "") (Or.inl (wd hw 18 rfl)) Via.refl e2 F1 (g := (mkF m 8 #[rv a1, rv a2] [(.ref a1)])) rfl rfl (hb hby d2_8)
  refine own_lift st4 ?_
  show own_Go p.tables e below (T4.setTop (mkF m 11 #[rv a1, rv a2] [(.int w1)])) _
  have sg5 : ∀ t, Steps p.tables e below (T4.setTop (mkF m 12 #[rv a1, rv a2] [(.ref a2), (.int w1)])) t → Steps p.tables e below (T4.setTop (mkF m 11 #[rv a1, rv a2] [(.int w1)])) t := by
    intro t k
    refine XS.aloadN X4.here hx rfl (hb hby d2_11) rfl rfl ?_
    show Steps p.tables e below (T4.setTop (mkF m 12 #[rv a1, rv a2] [(.ref a2), (.int w1)])) _
    exact k
  refine own_lift sg5 ?_
  show own_Go p.tables e below (T4.setTop (mkF m 12 #[rv a1, rv a2] [(.ref a2), (.int w1)])) _
  obtain ⟨T6, X6, e6, st6⟩ := castY X4 hx hZ hown (wd hw 32 rfl) e4 (Ins.self E2) (g := (mkF m 12 #[rv a1, rv a2] [(.ref a2), (.int w1)])) rfl rfl (hb hby d2_12)
  refine own_lift st6 ?_
  show own_Go p.tables e below (T6.setTop (mkF m 15 #[rv a1, rv a2] [(.ref a2), (.int w1)])) _
  obtain ⟨T7, X7, e7, st7⟩ := getF X6 hx hZ hown (host := "") (Or.inl (wd hw 18 rfl)) Via.refl e6 F3 (g := (mkF m 15 #[rv a1, rv a2] [(.ref a2), (.int w1)])) rfl rfl (hb hby d2_15)
  refine own_lift st7 ?_
  show own_Go p.tables e below (T7.setTop (mkF m 18 #[rv a1, rv a2] [(.int w3), (.int w1)])) _
  have sg8 : ∀ t, Steps p.tables e below (T7.setTop (mkF m 22 #[rv a1, rv a2] [(.ref a1)])) t → Steps p.tables e below (T7.setTop (mkF m 18 #[rv a1, rv a2] [(.int w3), (.int w1)])) t := by
    intro t k
    refine XS.icmpNo X7.here hx rfl (hb hby d2_18) rfl (teq c1).2 ?_
    show Steps p.tables e below (T7.setTop (mkF m 21 #[rv a1, rv a2] [])) _
    refine XS.aloadN X7.here hx rfl (hb hby d2_21) rfl rfl ?_
    show Steps p.tables e below (T7.setTop (mkF m 22 #[rv a1, rv a2] [(.ref a1)])) _
    exact k
  refine own_lift sg8 ?_
  show own_Go p.tables e below (T7.setTop (mkF m 22 #[rv a1, rv a2] [(.ref a1)])) _
  obtain ⟨T9, X9, e9, st9⟩ := getF X7 hx hZ hown (host := "") (Or.inl (wd hw 20 rfl)) Via.refl e7 F2 (g := (mkF m 22 #[rv a1, rv a2] [(.ref a1)])) rfl rfl (hb hby d2_22)
  refine own_lift st9 ?_
  show own_Go p.tables e below (T9.setTop (mkF m 25 #[rv a1, rv a2] [(.int w2)])) _
  have sg10 : ∀ t, Steps p.tables e below (T9.setTop (mkF m 26 #[rv a1, rv a2] [(.ref a2), (.int w2)])) t → Steps p.tables e below (T9.setTop (mkF m 25 #[rv a1, rv a2] [(.int w2)])) t := by
    intro t k
    refine XS.aloadN X9.here hx rfl (hb hby d2_25) rfl rfl ?_
    show Steps p.tables e below (T9.setTop (mkF m 26 #[rv a1, rv a2] [(.ref a2), (.int w2)])) _
    exact k
  refine own_lift sg10 ?_
  show own_Go p.tables e below (T9.setTop (mkF m 26 #[rv a1, rv a2] [(.ref a2), (.int w2)])) _
  obtain ⟨T11, X11, e11, st11⟩ := castY X9 hx hZ hown (wd hw 32 rfl) e9 (Ins.self E2) (g := (mkF m 26 #[rv a1, rv a2] [(.ref a2), (.int w2)])) rfl rfl (hb hby d2_26)
  refine own_lift st11 ?_
  show own_Go p.tables e below (T11.setTop (mkF m 29 #[rv a1, rv a2] [(.ref a2), (.int w2)])) _
  obtain ⟨T12, X12, e12, st12⟩ := getF X11 hx hZ hown (host := "") (Or.inl (wd hw 20 rfl)) Via.refl e11 F4 (g := (mkF m 29 #[rv a1, rv a2] [(.ref a2), (.int w2)])) rfl rfl (hb hby d2_29)
  refine own_lift st12 ?_
  show own_Go p.tables e below (T12.setTop (mkF m 32 #[rv a1, rv a2] [(.int w4), (.int w2)])) _
  have sg13 : ∀ t, Steps p.tables e below (T12.setTop (mkF m 40 #[rv a1, rv a2] [(.int 0)])) t → Steps p.tables e below (T12.setTop (mkF m 32 #[rv a1, rv a2] [(.int w4), (.int w2)])) t := by
    intro t k
    refine XS.icmpYes X12.here hx rfl (pc0 := 32) (pc' := 39) rfl (hb hby d2_32) rfl (feq c2).2 (by decide) (by decide) ?_
    show Steps p.tables e below (T12.setTop (mkF m 39 #[rv a1, rv a2] [])) _
    refine XS.iconst X12.here hx rfl (hb hby d2_39) ?_
    show Steps p.tables e below (T12.setTop (mkF m 40 #[rv a1, rv a2] [(.int 0)])) _
    exact k
  refine own_lift sg13 ?_
  show own_Go p.tables e below (T12.setTop (mkF m 40 #[rv a1, rv a2] [(.int 0)])) _
  obtain ⟨fs, hr, hrun, hended, hW, hsame⟩ := X12.leave (v := some (.int 0)) (fun h => by rw [Bd.returns] at h; cases h)
  refine ⟨_, _, ?_, hrun, hended, _, _, rfl, ?_, ⟨_, rfl⟩, hW, hsame.mono (by decide) (by decide)⟩
  · exact retN X12 hx (t := .boolean) Bd.returns (by simp) (hb hby d2_40) hr
  · show Q_rmEqC Z a1 a2 w1 w2 w3 w4 h0 n0 _ T12.heap _
    rw [e12]
    exact ⟨rfl, N0, rfl⟩
theorem d3_0 : decode jdk_29_method_65_code 0 = .ok (.iload_n 0, 1) := by decide +kernel
theorem d3_1 : decode jdk_29_method_65_code 1 = .ok (.iload_n 1, 1) := by decide +kernel
theorem d3_2 : decode jdk_29_method_65_code 2 = .ok (.if_icmp .lt 7, 3) := by decide +kernel
theorem d3_9 : decode jdk_29_method_65_code 9 = .ok (.iload_n 1, 1) := by decide +kernel
theorem d3_10 : decode jdk_29_method_65_code 10 = .ok (.ireturn, 1) := by decide +kernel
def Q_rmMaxL (Z : State) (p1 : Int32) (p2 : Int32) (h0 : Heap) (n0 : Nat) (v : Option Value) (h : Heap) (L : List Loc) : Prop := v = some (.int p2) ∧ Fr n0 L ∧ h = h0
theorem ef_rmMaxL (m : MethodId) (x0 : Int32) (x1 : Int32) : entryFrame m #[(.int x0), (.int x1)] 2 = mkF m 0 #[.val (.int x0), .val (.int x1)] [] := by first | (simp [entryFrame, mkF, argsToLocals, Value.category]; done) | rfl
set_option maxRecDepth 65536 in
set_option maxHeartbeats 40000000 in
theorem rmMaxL (l : Launch) (Z : State) (a0 : Array Value) (hw : ∀ d ∈ tables_1, d.before a0 Z = true) (ws : List Jvm.Cond) (p1 : Int32) (p2 : Int32) (h0 : Heap) (n0 : Nat) (Z0 : n0 ≤ h0.size)  (c1 : p1 < p2) :
    MetFree l (⟨"java/lang/Math", "max", "(II)I"⟩ : MethodName) (head1 (Jvm.Cond.code (⟨"java/lang/Math", "max", "(II)I"⟩ : MethodName) jdk_29_method_65_code 2 (some .int) :: ws) ({ frames := 0, cells := 0, slots := 0, locals := 0 } : Room)) (fun a U => a = #[(.int p1), (.int p2)] ∧ Z.Warmed39 U.vm ∧ U.heap = h0) (fun _ _ _ _ _ => True) (fun _ U o U' => ∃ v L, o = .returned v ∧ Q_rmMaxL Z p1 p2 h0 n0 v U'.heap L ∧ FrameEnd U o U' L ({ frames := 0, cells := 0, slots := 0, locals := 0 } : Room).cells ({ frames := 0, cells := 0, slots := 0, locals := 0 } : Room).slots) := by
  refine MetFree.of_bodySF (Jvm.Free.JP.mathPlain rfl (by decide +kernel)) hisR ?_
  intro p e s m args below meth c s₁ Bd hml0 hP hK
  obtain ⟨rfl, hZ, hh⟩ := hP
  have hx := Bd.exec
  have hby := Bd.bytes
  have hml : c.maxLocals = 2 := hml0
  have hown : s.vm.findClass "java/lang/Math" = some m.cls := findClass_of_methodNamed Bd.named
  have hnm := (name_of_methodNamed Bd.named Bd.method).1
  have X0 : Stand p l e ({ frames := 0, cells := 0, slots := 0, locals := 0 } : Room) s m #[(.int p1), (.int p2)] below meth c s₁ [] 0 0 := Stand.of_body Bd
  have e0 : s₁.heap = h0 := by rw [← hh, Bd.state]; rfl
  have N0 := Fr.nil n0
  refine own_go (own_lift (fun t k => castTop (ef_rmMaxL m p1 p2) k) ?_)
  show own_Go p.tables e below (s₁.setTop (mkF m 0 #[iv p1, iv p2] [])) _
  have sg1 : ∀ t, Steps p.tables e below (s₁.setTop (mkF m 10 #[iv p1, iv p2] [(.int p2)])) t → Steps p.tables e below (s₁.setTop (mkF m 0 #[iv p1, iv p2] [])) t := by
    intro t k
    refine XS.iloadN X0.here hx rfl (hb hby d3_0) rfl ?_
    show Steps p.tables e below (s₁.setTop (mkF m 1 #[iv p1, iv p2] [(.int p1)])) _
    refine XS.iloadN X0.here hx rfl (hb hby d3_1) rfl ?_
    show Steps p.tables e below (s₁.setTop (mkF m 2 #[iv p1, iv p2] [(.int p2), (.int p1)])) _
    refine XS.icmpYes X0.here hx rfl (pc0 := 2) (pc' := 9) rfl (hb hby d3_2) rfl (tlt c1).1 (by decide) (by decide) ?_
    show Steps p.tables e below (s₁.setTop (mkF m 9 #[iv p1, iv p2] [])) _
    refine XS.iloadN X0.here hx rfl (hb hby d3_9) rfl ?_
    show Steps p.tables e below (s₁.setTop (mkF m 10 #[iv p1, iv p2] [(.int p2)])) _
    exact k
  refine own_lift sg1 ?_
  show own_Go p.tables e below (s₁.setTop (mkF m 10 #[iv p1, iv p2] [(.int p2)])) _
  obtain ⟨fs, hr, hrun, hended, hW, hsame⟩ := X0.leave (v := some (.int p2)) (fun h => by rw [Bd.returns] at h; cases h)
  refine ⟨_, _, ?_, hrun, hended, _, _, rfl, ?_, ⟨_, rfl⟩, hW, hsame.mono (by decide) (by decide)⟩
  · exact retI X0 hx Bd.returns (hb hby d3_10) hr
  · show Q_rmMaxL Z p1 p2 h0 n0 _ s₁.heap _
    rw [e0]
    exact ⟨rfl, N0, rfl⟩
theorem d3_5 : decode jdk_29_method_65_code 5 = .ok (.iload_n 0, 1) := by decide +kernel
theorem d3_6 : decode jdk_29_method_65_code 6 = .ok (.goto 4, 3) := by decide +kernel
def Q_rmMaxG (Z : State) (p1 : Int32) (p2 : Int32) (h0 : Heap) (n0 : Nat) (v : Option Value) (h : Heap) (L : List Loc) : Prop := v = some (.int p1) ∧ Fr n0 L ∧ h = h0
theorem ef_rmMaxG (m : MethodId) (x0 : Int32) (x1 : Int32) : entryFrame m #[(.int x0), (.int x1)] 2 = mkF m 0 #[.val (.int x0), .val (.int x1)] [] := by first | (simp [entryFrame, mkF, argsToLocals, Value.category]; done) | rfl
set_option maxRecDepth 65536 in
set_option maxHeartbeats 40000000 in
theorem rmMaxG (l : Launch) (Z : State) (a0 : Array Value) (hw : ∀ d ∈ tables_1, d.before a0 Z = true) (ws : List Jvm.Cond) (p1 : Int32) (p2 : Int32) (h0 : Heap) (n0 : Nat) (Z0 : n0 ≤ h0.size)  (c1 : ¬ (p1 < p2)) :
    MetFree l (⟨"java/lang/Math", "max", "(II)I"⟩ : MethodName) (head1 (Jvm.Cond.code (⟨"java/lang/Math", "max", "(II)I"⟩ : MethodName) jdk_29_method_65_code 2 (some .int) :: ws) ({ frames := 0, cells := 0, slots := 0, locals := 0 } : Room)) (fun a U => a = #[(.int p1), (.int p2)] ∧ Z.Warmed39 U.vm ∧ U.heap = h0) (fun _ _ _ _ _ => True) (fun _ U o U' => ∃ v L, o = .returned v ∧ Q_rmMaxG Z p1 p2 h0 n0 v U'.heap L ∧ FrameEnd U o U' L ({ frames := 0, cells := 0, slots := 0, locals := 0 } : Room).cells ({ frames := 0, cells := 0, slots := 0, locals := 0 } : Room).slots) := by
  refine MetFree.of_bodySF (Jvm.Free.JP.mathPlain rfl (by decide +kernel)) hisR ?_
  intro p e s m args below meth c s₁ Bd hml0 hP hK
  obtain ⟨rfl, hZ, hh⟩ := hP
  have hx := Bd.exec
  have hby := Bd.bytes
  have hml : c.maxLocals = 2 := hml0
  have hown : s.vm.findClass "java/lang/Math" = some m.cls := findClass_of_methodNamed Bd.named
  have hnm := (name_of_methodNamed Bd.named Bd.method).1
  have X0 : Stand p l e ({ frames := 0, cells := 0, slots := 0, locals := 0 } : Room) s m #[(.int p1), (.int p2)] below meth c s₁ [] 0 0 := Stand.of_body Bd
  have e0 : s₁.heap = h0 := by rw [← hh, Bd.state]; rfl
  have N0 := Fr.nil n0
  refine own_go (own_lift (fun t k => castTop (ef_rmMaxG m p1 p2) k) ?_)
  show own_Go p.tables e below (s₁.setTop (mkF m 0 #[iv p1, iv p2] [])) _
  have sg1 : ∀ t, Steps p.tables e below (s₁.setTop (mkF m 10 #[iv p1, iv p2] [(.int p1)])) t → Steps p.tables e below (s₁.setTop (mkF m 0 #[iv p1, iv p2] [])) t := by
    intro t k
    refine XS.iloadN X0.here hx rfl (hb hby d3_0) rfl ?_
    show Steps p.tables e below (s₁.setTop (mkF m 1 #[iv p1, iv p2] [(.int p1)])) _
    refine XS.iloadN X0.here hx rfl (hb hby d3_1) rfl ?_
    show Steps p.tables e below (s₁.setTop (mkF m 2 #[iv p1, iv p2] [(.int p2), (.int p1)])) _
    refine XS.icmpNo X0.here hx rfl (hb hby d3_2) rfl (flt c1).1 ?_
    show Steps p.tables e below (s₁.setTop (mkF m 5 #[iv p1, iv p2] [])) _
    refine XS.iloadN X0.here hx rfl (hb hby d3_5) rfl ?_
    show Steps p.tables e below (s₁.setTop (mkF m 6 #[iv p1, iv p2] [(.int p1)])) _
    refine XS.goto X0.here hx rfl (pc0 := 6) (pc' := 10) rfl (hb hby d3_6) (by decide) (by decide) ?_
    show Steps p.tables e below (s₁.setTop (mkF m 10 #[iv p1, iv p2] [(.int p1)])) _
    exact k
  refine own_lift sg1 ?_
  show own_Go p.tables e below (s₁.setTop (mkF m 10 #[iv p1, iv p2] [(.int p1)])) _
  obtain ⟨fs, hr, hrun, hended, hW, hsame⟩ := X0.leave (v := some (.int p1)) (fun h => by rw [Bd.returns] at h; cases h)
  refine ⟨_, _, ?_, hrun, hended, _, _, rfl, ?_, ⟨_, rfl⟩, hW, hsame.mono (by decide) (by decide)⟩
  · exact retI X0 hx Bd.returns (hb hby d3_10) hr
  · show Q_rmMaxG Z p1 p2 h0 n0 _ s₁.heap _
    rw [e0]
    exact ⟨rfl, N0, rfl⟩
theorem pn_1 : plainName "com/example/allsome/allsome/cypher/InputPositionHashCodePinLaw" = true := by first | (simp [plainName, overriddenIn]; done) | decide +kernel
theorem d4_0 : decode method_2_code 0 = .ok (.iconst 1, 1) := by decide +kernel
theorem d4_1 : decode method_2_code 1 = .ok (.iload_n 0, 1) := by decide +kernel
theorem d4_2 : decode method_2_code 2 = .ok (.ldc 7, 2) := by decide +kernel
theorem d4_4 : decode method_2_code 4 = .ok (.iand, 1) := by decide +kernel
theorem d4_5 : decode method_2_code 5 = .ok (.invokestatic 8, 3) := by decide +kernel
theorem pd_0 : parseMethodDescriptor "(II)I" = some ⟨[.int, .int], some .int⟩ := by decide +kernel
theorem d4_8 : decode method_2_code 8 = .ok (.ireturn, 1) := by decide +kernel
def Q_rmPos (Z : State) (p1 : Int32) (h0 : Heap) (n0 : Nat) (v : Option Value) (h : Heap) (L : List Loc) : Prop := v = some (.int (own_pos p1)) ∧ Fr n0 L ∧ h = h0
theorem ef_rmPos1 (m : MethodId) (x0 : Int32) : entryFrame m #[(.int x0)] 1 = mkF m 0 #[.val (.int x0)] [] := by first | (simp [entryFrame, mkF, argsToLocals, Value.category]; done) | rfl
set_option maxRecDepth 65536 in
set_option maxHeartbeats 40000000 in
theorem rmPos1 (l : Launch) (Z : State) (a0 : Array Value) (hw : ∀ d ∈ tables_1, d.before a0 Z = true) (ws : List Jvm.Cond) (p1 : Int32) (h0 : Heap) (n0 : Nat) (Z0 : n0 ≤ h0.size)  (c1 : (1 : Int32) < (p1 &&& (2147483647 : Int32))) :
    MetFree l (⟨"com/example/allsome/allsome/cypher/InputPositionHashCodePinLaw", "pos", "(I)I"⟩ : MethodName) (head1 (Jvm.Cond.code (⟨"com/example/allsome/allsome/cypher/InputPositionHashCodePinLaw", "pos", "(I)I"⟩ : MethodName) method_2_code 1 (some .int) :: ws) ({ frames := 1, cells := 0, slots := 0, locals := 13 } : Room)) (fun a U => a = #[(.int p1)] ∧ Z.Warmed39 U.vm ∧ U.heap = h0) (fun _ _ _ _ _ => True) (fun _ U o U' => ∃ v L, o = .returned v ∧ Q_rmPos Z p1 h0 n0 v U'.heap L ∧ FrameEnd U o U' L ({ frames := 1, cells := 0, slots := 0, locals := 13 } : Room).cells ({ frames := 1, cells := 0, slots := 0, locals := 13 } : Room).slots) := by
  refine MetFree.of_bodySF (plainFor_of_name pn_1) hisR ?_
  intro p e s m args below meth c s₁ Bd hml0 hP hK
  obtain ⟨rfl, hZ, hh⟩ := hP
  have hx := Bd.exec
  have hby := Bd.bytes
  have hml : c.maxLocals = 1 := hml0
  have hown : s.vm.findClass "com/example/allsome/allsome/cypher/InputPositionHashCodePinLaw" = some m.cls := findClass_of_methodNamed Bd.named
  have hnm := (name_of_methodNamed Bd.named Bd.method).1
  have X0 : Stand p l e ({ frames := 1, cells := 0, slots := 0, locals := 13 } : Room) s m #[(.int p1)] below meth c s₁ [] 0 0 := Stand.of_body Bd
  have e0 : s₁.heap = h0 := by rw [← hh, Bd.state]; rfl
  have N0 := Fr.nil n0
  refine own_go (own_lift (fun t k => castTop (ef_rmPos1 m p1) k) ?_)
  show own_Go p.tables e below (s₁.setTop (mkF m 0 #[iv p1] [])) _
  have sg1 : ∀ t, Steps p.tables e below (s₁.setTop (mkF m 5 #[iv p1] [(.int (p1 &&& (2147483647 : Int32))), (.int 1)])) t → Steps p.tables e below (s₁.setTop (mkF m 0 #[iv p1] [])) t := by
    intro t k
    refine XS.iconst X0.here hx rfl (hb hby d4_0) ?_
    show Steps p.tables e below (s₁.setTop (mkF m 1 #[iv p1] [(.int 1)])) _
    refine XS.iloadN X0.here hx rfl (hb hby d4_1) rfl ?_
    show Steps p.tables e below (s₁.setTop (mkF m 2 #[iv p1] [(.int p1), (.int 1)])) _
    refine X0.ldcInt hx hown (mvT hZ (wd hw 4 rfl)) (g := (mkF m 2 #[iv p1] [(.int p1), (.int 1)])) rfl (hb hby d4_2) _ ?_
    show Steps p.tables e below (s₁.setTop (mkF m 4 #[iv p1] [(.int 2147483647), (.int p1), (.int 1)])) _
    refine XS.iand X0.here hx rfl (hb hby d4_4) rfl ?_
    show Steps p.tables e below (s₁.setTop (mkF m 5 #[iv p1] [(.int (p1 &&& (2147483647 : Int32))), (.int 1)])) _
    exact k
  refine own_lift sg1 ?_
  show own_Go p.tables e below (s₁.setTop (mkF m 5 #[iv p1] [(.int (p1 &&& (2147483647 : Int32))), (.int 1)])) _
  obtain ⟨_, _, ⟨T2, Lx2, kx2, nx2⟩, -, X2, ⟨Lc2, hQ2, lx2, yx2, zx2⟩, st2⟩ := Jvm.LawKit.callS X0 hx (y := (⟨"java/lang/Math", "max", "(II)I"⟩ : MethodName)) hown (mvT hZ (wd hw 5 rfl)) (mvT hZ (wd hw 6 rfl)) (mvT hZ (wd hw 7 rfl)) (mvT hZ (wd hw 8 rfl)) (by decide) (backOf (W := 0) (rmMaxL l Z a0 hw [] (1 : Int32) (p1 &&& (2147483647 : Int32)) h0 n0 Z0 c1) hZ (wd hw 8 rfl) (wd hw 7 rfl) (by decide) (by decide)) (g := (mkF m 5 #[iv p1] [(.int (p1 &&& (2147483647 : Int32))), (.int 1)])) rfl (by rw [hml]; rfl) (argsL := [(.int 1), (.int (p1 &&& (2147483647 : Int32)))]) (rest := []) (lenOf pd_0 rfl) rfl (by show 2 * 0 + _ ≤ _; exact Nat.le_of_eq rfl) (hb hby d4_5) (fun _ _ => ⟨rfl, e0, (by decide : 0 + 0 ≤ _), (by decide : 0 + 0 ≤ _)⟩)
  dsimp only [Pt.U, Pt.locs, Pt.cells, Pt.slots] at X2 lx2 yx2 zx2 st2 hQ2
  subst lx2 yx2 zx2
  obtain ⟨rfl, N2q, e2⟩ := hQ2
  have N2 := Fr.app N0 N2q
  refine own_lift st2 ?_
  show own_Go p.tables e below (T2.setTop (mkF m 8 #[iv p1] [(.int (p1 &&& (2147483647 : Int32)))])) _
  obtain ⟨fs, hr, hrun, hended, hW, hsame⟩ := X2.leave (v := some (.int (p1 &&& (2147483647 : Int32)))) (fun h => by rw [Bd.returns] at h; cases h)
  refine ⟨_, _, ?_, hrun, hended, _, _, rfl, ?_, ⟨_, rfl⟩, hW, hsame.mono (by decide) (by decide)⟩
  · exact retI X2 hx Bd.returns (hb hby d4_8) hr
  · show Q_rmPos Z p1 h0 n0 _ T2.heap _
    rw [e2]
    exact ⟨(by rw [own_pos, if_pos c1]), N2, rfl⟩
theorem ef_rmPos2 (m : MethodId) (x0 : Int32) : entryFrame m #[(.int x0)] 1 = mkF m 0 #[.val (.int x0)] [] := by first | (simp [entryFrame, mkF, argsToLocals, Value.category]; done) | rfl
set_option maxRecDepth 65536 in
set_option maxHeartbeats 40000000 in
theorem rmPos2 (l : Launch) (Z : State) (a0 : Array Value) (hw : ∀ d ∈ tables_1, d.before a0 Z = true) (ws : List Jvm.Cond) (p1 : Int32) (h0 : Heap) (n0 : Nat) (Z0 : n0 ≤ h0.size)  (c1 : ¬ ((1 : Int32) < (p1 &&& (2147483647 : Int32)))) :
    MetFree l (⟨"com/example/allsome/allsome/cypher/InputPositionHashCodePinLaw", "pos", "(I)I"⟩ : MethodName) (head1 (Jvm.Cond.code (⟨"com/example/allsome/allsome/cypher/InputPositionHashCodePinLaw", "pos", "(I)I"⟩ : MethodName) method_2_code 1 (some .int) :: ws) ({ frames := 1, cells := 0, slots := 0, locals := 13 } : Room)) (fun a U => a = #[(.int p1)] ∧ Z.Warmed39 U.vm ∧ U.heap = h0) (fun _ _ _ _ _ => True) (fun _ U o U' => ∃ v L, o = .returned v ∧ Q_rmPos Z p1 h0 n0 v U'.heap L ∧ FrameEnd U o U' L ({ frames := 1, cells := 0, slots := 0, locals := 13 } : Room).cells ({ frames := 1, cells := 0, slots := 0, locals := 13 } : Room).slots) := by
  refine MetFree.of_bodySF (plainFor_of_name pn_1) hisR ?_
  intro p e s m args below meth c s₁ Bd hml0 hP hK
  obtain ⟨rfl, hZ, hh⟩ := hP
  have hx := Bd.exec
  have hby := Bd.bytes
  have hml : c.maxLocals = 1 := hml0
  have hown : s.vm.findClass "com/example/allsome/allsome/cypher/InputPositionHashCodePinLaw" = some m.cls := findClass_of_methodNamed Bd.named
  have hnm := (name_of_methodNamed Bd.named Bd.method).1
  have X0 : Stand p l e ({ frames := 1, cells := 0, slots := 0, locals := 13 } : Room) s m #[(.int p1)] below meth c s₁ [] 0 0 := Stand.of_body Bd
  have e0 : s₁.heap = h0 := by rw [← hh, Bd.state]; rfl
  have N0 := Fr.nil n0
  refine own_go (own_lift (fun t k => castTop (ef_rmPos2 m p1) k) ?_)
  show own_Go p.tables e below (s₁.setTop (mkF m 0 #[iv p1] [])) _
  have sg1 : ∀ t, Steps p.tables e below (s₁.setTop (mkF m 5 #[iv p1] [(.int (p1 &&& (2147483647 : Int32))), (.int 1)])) t → Steps p.tables e below (s₁.setTop (mkF m 0 #[iv p1] [])) t := by
    intro t k
    refine XS.iconst X0.here hx rfl (hb hby d4_0) ?_
    show Steps p.tables e below (s₁.setTop (mkF m 1 #[iv p1] [(.int 1)])) _
    refine XS.iloadN X0.here hx rfl (hb hby d4_1) rfl ?_
    show Steps p.tables e below (s₁.setTop (mkF m 2 #[iv p1] [(.int p1), (.int 1)])) _
    refine X0.ldcInt hx hown (mvT hZ (wd hw 4 rfl)) (g := (mkF m 2 #[iv p1] [(.int p1), (.int 1)])) rfl (hb hby d4_2) _ ?_
    show Steps p.tables e below (s₁.setTop (mkF m 4 #[iv p1] [(.int 2147483647), (.int p1), (.int 1)])) _
    refine XS.iand X0.here hx rfl (hb hby d4_4) rfl ?_
    show Steps p.tables e below (s₁.setTop (mkF m 5 #[iv p1] [(.int (p1 &&& (2147483647 : Int32))), (.int 1)])) _
    exact k
  refine own_lift sg1 ?_
  show own_Go p.tables e below (s₁.setTop (mkF m 5 #[iv p1] [(.int (p1 &&& (2147483647 : Int32))), (.int 1)])) _
  obtain ⟨_, _, ⟨T2, Lx2, kx2, nx2⟩, -, X2, ⟨Lc2, hQ2, lx2, yx2, zx2⟩, st2⟩ := Jvm.LawKit.callS X0 hx (y := (⟨"java/lang/Math", "max", "(II)I"⟩ : MethodName)) hown (mvT hZ (wd hw 5 rfl)) (mvT hZ (wd hw 6 rfl)) (mvT hZ (wd hw 7 rfl)) (mvT hZ (wd hw 8 rfl)) (by decide) (backOf (W := 0) (rmMaxG l Z a0 hw [] (1 : Int32) (p1 &&& (2147483647 : Int32)) h0 n0 Z0 c1) hZ (wd hw 8 rfl) (wd hw 7 rfl) (by decide) (by decide)) (g := (mkF m 5 #[iv p1] [(.int (p1 &&& (2147483647 : Int32))), (.int 1)])) rfl (by rw [hml]; rfl) (argsL := [(.int 1), (.int (p1 &&& (2147483647 : Int32)))]) (rest := []) (lenOf pd_0 rfl) rfl (by show 2 * 0 + _ ≤ _; exact Nat.le_of_eq rfl) (hb hby d4_5) (fun _ _ => ⟨rfl, e0, (by decide : 0 + 0 ≤ _), (by decide : 0 + 0 ≤ _)⟩)
  dsimp only [Pt.U, Pt.locs, Pt.cells, Pt.slots] at X2 lx2 yx2 zx2 st2 hQ2
  subst lx2 yx2 zx2
  obtain ⟨rfl, N2q, e2⟩ := hQ2
  have N2 := Fr.app N0 N2q
  refine own_lift st2 ?_
  show own_Go p.tables e below (T2.setTop (mkF m 8 #[iv p1] [(.int 1)])) _
  obtain ⟨fs, hr, hrun, hended, hW, hsame⟩ := X2.leave (v := some (.int 1)) (fun h => by rw [Bd.returns] at h; cases h)
  refine ⟨_, _, ?_, hrun, hended, _, _, rfl, ?_, ⟨_, rfl⟩, hW, hsame.mono (by decide) (by decide)⟩
  · exact retI X2 hx Bd.returns (hb hby d4_8) hr
  · show Q_rmPos Z p1 h0 n0 _ T2.heap _
    rw [e2]
    exact ⟨(by rw [own_pos, if_neg c1]), N2, rfl⟩
set_option maxRecDepth 65536 in
theorem rmPos (l : Launch) (Z : State) (a0 : Array Value) (hw : ∀ d ∈ tables_1, d.before a0 Z = true) (ws : List Jvm.Cond) (p1 : Int32) (h0 : Heap) (n0 : Nat) (Z0 : n0 ≤ h0.size)   :
    MetFree l (⟨"com/example/allsome/allsome/cypher/InputPositionHashCodePinLaw", "pos", "(I)I"⟩ : MethodName) (head1 (Jvm.Cond.code (⟨"com/example/allsome/allsome/cypher/InputPositionHashCodePinLaw", "pos", "(I)I"⟩ : MethodName) method_2_code 1 (some .int) :: ws) ({ frames := 1, cells := 0, slots := 0, locals := 13 } : Room)) (fun a U => a = #[(.int p1)] ∧ Z.Warmed39 U.vm ∧ U.heap = h0) (fun _ _ _ _ _ => True) (fun _ U o U' => ∃ v L, o = .returned v ∧ Q_rmPos Z p1 h0 n0 v U'.heap L ∧ FrameEnd U o U' L ({ frames := 1, cells := 0, slots := 0, locals := 13 } : Room).cells ({ frames := 1, cells := 0, slots := 0, locals := 13 } : Room).slots) := by
  by_cases c1 : (1 : Int32) < (p1 &&& (2147483647 : Int32))
  · exact rmPos1 l Z a0 hw ws p1 h0 n0 Z0  c1
  · exact rmPos2 l Z a0 hw ws p1 h0 n0 Z0  c1
theorem d5_0 : decode prog_84_method_6_code 0 = .ok (.bipush 31, 2) := by decide +kernel
theorem d5_2 : decode prog_84_method_6_code 2 = .ok (.aload_n 0, 1) := by decide +kernel
theorem d5_3 : decode prog_84_method_6_code 3 = .ok (.getfield 16, 3) := by decide +kernel
theorem d5_6 : decode prog_84_method_6_code 6 = .ok (.imul, 1) := by decide +kernel
theorem d5_7 : decode prog_84_method_6_code 7 = .ok (.aload_n 0, 1) := by decide +kernel
theorem d5_8 : decode prog_84_method_6_code 8 = .ok (.getfield 22, 3) := by decide +kernel
theorem d5_11 : decode prog_84_method_6_code 11 = .ok (.iadd, 1) := by decide +kernel
theorem d5_12 : decode prog_84_method_6_code 12 = .ok (.ireturn, 1) := by decide +kernel
def Q_rmHash (Z : State) (a1 : Addr) (w1 : Int32) (w2 : Int32) (h0 : Heap) (n0 : Nat) (v : Option Value) (h : Heap) (L : List Loc) : Prop := v = some (.int (((31 : Int32) * w1) + w2)) ∧ Fr n0 L ∧ h = h0
theorem ef_rmHash (m : MethodId) (x0 : Addr) : entryFrame m #[(.ref x0)] 1 = mkF m 0 #[.val (.ref x0)] [] := by first | (simp [entryFrame, mkF, argsToLocals, Value.category]; done) | rfl
set_option maxRecDepth 65536 in
set_option maxHeartbeats 40000000 in
theorem rmHash (l : Launch) (Z : State) (a0 : Array Value) (hw : ∀ d ∈ tables_1, d.before a0 Z = true) (ws : List Jvm.Cond) (a1 : Addr) (w1 : Int32) (w2 : Int32) (h0 : Heap) (n0 : Nat) (Z0 : n0 ≤ h0.size) (F1 : Fld Z h0 a1 "com/example/allsome/allsome/cypher/InputPosition" "line" "I" (.int w1)) (F2 : Fld Z h0 a1 "com/example/allsome/allsome/cypher/InputPosition" "column" "I" (.int w2))  :
    MetFree l (⟨"com/example/allsome/allsome/cypher/InputPosition", "hashCode", "()I"⟩ : MethodName) (head1 (Jvm.Cond.code (⟨"com/example/allsome/allsome/cypher/InputPosition", "hashCode", "()I"⟩ : MethodName) prog_84_method_6_code 1 (some .int) :: ws) ({ frames := 0, cells := 0, slots := 0, locals := 0 } : Room)) (fun a U => a = #[(.ref a1)] ∧ Z.Warmed39 U.vm ∧ U.heap = h0) (fun _ _ _ _ _ => True) (fun _ U o U' => ∃ v L, o = .returned v ∧ Q_rmHash Z a1 w1 w2 h0 n0 v U'.heap L ∧ FrameEnd U o U' L ({ frames := 0, cells := 0, slots := 0, locals := 0 } : Room).cells ({ frames := 0, cells := 0, slots := 0, locals := 0 } : Room).slots) := by
  refine MetFree.of_bodySF (plainFor_of_name pn_0) hisR ?_
  intro p e s m args below meth c s₁ Bd hml0 hP hK
  obtain ⟨rfl, hZ, hh⟩ := hP
  have hx := Bd.exec
  have hby := Bd.bytes
  have hml : c.maxLocals = 1 := hml0
  have hown : s.vm.findClass "com/example/allsome/allsome/cypher/InputPosition" = some m.cls := findClass_of_methodNamed Bd.named
  have hnm := (name_of_methodNamed Bd.named Bd.method).1
  have X0 : Stand p l e ({ frames := 0, cells := 0, slots := 0, locals := 0 } : Room) s m #[(.ref a1)] below meth c s₁ [] 0 0 := Stand.of_body Bd
  have e0 : s₁.heap = h0 := by rw [← hh, Bd.state]; rfl
  have N0 := Fr.nil n0
  refine own_go (own_lift (fun t k => castTop (ef_rmHash m a1) k) ?_)
  show own_Go p.tables e below (s₁.setTop (mkF m 0 #[rv a1] [])) _
  have sg1 : ∀ t, Steps p.tables e below (s₁.setTop (mkF m 3 #[rv a1] [(.ref a1), (.int 31)])) t → Steps p.tables e below (s₁.setTop (mkF m 0 #[rv a1] [])) t := by
    intro t k
    refine XS.bipush X0.here hx rfl (hb hby d5_0) ?_
    show Steps p.tables e below (s₁.setTop (mkF m 2 #[rv a1] [(.int 31)])) _
    refine XS.aloadN X0.here hx rfl (hb hby d5_2) rfl rfl ?_
    show Steps p.tables e below (s₁.setTop (mkF m 3 #[rv a1] [(.ref a1), (.int 31)])) _
    exact k
  refine own_lift sg1 ?_
  show own_Go p.tables e below (s₁.setTop (mkF m 3 #[rv a1] [(.ref a1), (.int 31)])) _
  obtain ⟨T2, X2, e2, st2⟩ := getF X0 hx hZ hown (host := "") (Or.inl (wd hw 18 rfl)) Via.refl e0 F1 (g := (mkF m 3 #[rv a1] [(.ref a1), (.int 31)])) rfl rfl (hb hby d5_3)
  refine own_lift st2 ?_
  show own_Go p.tables e below (T2.setTop (mkF m 6 #[rv a1] [(.int w1), (.int 31)])) _
  have sg3 : ∀ t, Steps p.tables e below (T2.setTop (mkF m 8 #[rv a1] [(.ref a1), (.int ((31 : Int32) * w1))])) t → Steps p.tables e below (T2.setTop (mkF m 6 #[rv a1] [(.int w1), (.int 31)])) t := by
    intro t k
    refine XS.imul X2.here hx rfl (hb hby d5_6) rfl ?_
    show Steps p.tables e below (T2.setTop (mkF m 7 #[rv a1] [(.int ((31 : Int32) * w1))])) _
    refine XS.aloadN X2.here hx rfl (hb hby d5_7) rfl rfl ?_
    show Steps p.tables e below (T2.setTop (mkF m 8 #[rv a1] [(.ref a1), (.int ((31 : Int32) * w1))])) _
    exact k
  refine own_lift sg3 ?_
  show own_Go p.tables e below (T2.setTop (mkF m 8 #[rv a1] [(.ref a1), (.int ((31 : Int32) * w1))])) _
  obtain ⟨T4, X4, e4, st4⟩ := getF X2 hx hZ hown (host := "") (Or.inl (wd hw 20 rfl)) Via.refl e2 F2 (g := (mkF m 8 #[rv a1] [(.ref a1), (.int ((31 : Int32) * w1))])) rfl rfl (hb hby d5_8)
  refine own_lift st4 ?_
  show own_Go p.tables e below (T4.setTop (mkF m 11 #[rv a1] [(.int w2), (.int ((31 : Int32) * w1))])) _
  have sg5 : ∀ t, Steps p.tables e below (T4.setTop (mkF m 12 #[rv a1] [(.int (((31 : Int32) * w1) + w2))])) t → Steps p.tables e below (T4.setTop (mkF m 11 #[rv a1] [(.int w2), (.int ((31 : Int32) * w1))])) t := by
    intro t k
    refine XS.iadd X4.here hx rfl (hb hby d5_11) rfl ?_
    show Steps p.tables e below (T4.setTop (mkF m 12 #[rv a1] [(.int (((31 : Int32) * w1) + w2))])) _
    exact k
  refine own_lift sg5 ?_
  show own_Go p.tables e below (T4.setTop (mkF m 12 #[rv a1] [(.int (((31 : Int32) * w1) + w2))])) _
  obtain ⟨fs, hr, hrun, hended, hW, hsame⟩ := X4.leave (v := some (.int (((31 : Int32) * w1) + w2))) (fun h => by rw [Bd.returns] at h; cases h)
  refine ⟨_, _, ?_, hrun, hended, _, _, rfl, ?_, ⟨_, rfl⟩, hW, hsame.mono (by decide) (by decide)⟩
  · exact retI X4 hx Bd.returns (hb hby d5_12) hr
  · show Q_rmHash Z a1 w1 w2 h0 n0 _ T4.heap _
    rw [e4]
    exact ⟨rfl, N0, rfl⟩
theorem pd_1 : parseMethodDescriptor "(I)I" = some ⟨[.int], some .int⟩ := by decide +kernel
theorem pd_2 : parseMethodDescriptor "(II)V" = some ⟨[.int, .int], none⟩ := by decide +kernel
theorem pd_3 : parseMethodDescriptor "()I" = some ⟨[], some .int⟩ := by decide +kernel
theorem pd_4 : parseMethodDescriptor "(Ljava/lang/Object;)Z" = some ⟨[(.object "java/lang/Object")], some .boolean⟩ := by decide +kernel
def Q0 (Z : State)  (h0 : Heap) (n0 : Nat) (v : Option Value) (h : Heap) (L : List Loc) : Prop := v = some (.int 1) ∧ Fr n0 L
theorem ef_rm0_0 (m : MethodId) (x0 : Int32) (x1 : Int32) (x2 : Int32) (x3 : Int32) (x4 : Int32) : entryFrame m #[(.int x0), (.int x1), (.int x2), (.int x3), (.int x4)] maxLocals = mkF m 0 #[.val (.int x0), .val (.int x1), .val (.int x2), .val (.int x3), .val (.int x4), .unset, .unset, .unset, .unset, .unset, .unset, .unset, .unset, .unset, .unset] [] := by first | (simp [entryFrame, mkF, argsToLocals, Value.category, maxLocals]; done) | rfl
set_option maxRecDepth 65536 in
set_option maxHeartbeats 40000000 in
theorem rm0_0 (l : Launch) (Z : State) (a0 : Array Value) (hw : ∀ d ∈ tables_1, d.before a0 Z = true) (ws : List Jvm.Cond) (p0 : Int32) (p1 : Int32) (p2 : Int32) (p3 : Int32) (p4 : Int32) (h0 : Heap) (n0 : Nat) (Z0 : n0 ≤ h0.size)  (m0 : (p4 &&& (3 : Int32)) = (0 : Int32)) :
    MetFree l x (head1 (Jvm.Cond.code x code maxLocals ret :: ws) room_1) (fun a U => a = #[(.int p0), (.int p1), (.int p2), (.int p3), (.int p4)] ∧ Z.Warmed39 U.vm ∧ U.heap = h0) (fun _ _ _ _ _ => True) (fun _ U o U' => ∃ v L, o = .returned v ∧ Q0 Z  h0 n0 v U'.heap L ∧ FrameEnd U o U' L 16 128) := by
  refine MetFree.of_bodySF (plainFor_of_name pn_1) hisR ?_
  intro p e s m args below meth c s₁ Bd hml0 hP hK
  obtain ⟨rfl, hZ, hh⟩ := hP
  have hx := Bd.exec
  have hby := Bd.bytes
  have hml : c.maxLocals = 15 := hml0
  have hown : s.vm.findClass "com/example/allsome/allsome/cypher/InputPositionHashCodePinLaw" = some m.cls := findClass_of_methodNamed Bd.named
  have hnm := (name_of_methodNamed Bd.named Bd.method).1
  have X0 : Stand p l e room_1 s m #[(.int p0), (.int p1), (.int p2), (.int p3), (.int p4)] below meth c s₁ [] 0 0 := Stand.of_body Bd
  have e0 : s₁.heap = h0 := by rw [← hh, Bd.state]; rfl
  have N0 := Fr.nil n0
  refine own_go (own_lift (fun t k => castTop (ef_rm0_0 m p0 p1 p2 p3 p4) k) ?_)
  show own_Go p.tables e below (s₁.setTop (mkF m 0 #[iv p0, iv p1, iv p2, iv p3, iv p4, .unset, .unset, .unset, .unset, .unset, .unset, .unset, .unset, .unset, .unset] [])) _
  have sg1 : ∀ t, Steps p.tables e below (s₁.setTop (mkF m 1 #[iv p0, iv p1, iv p2, iv p3, iv p4, .unset, .unset, .unset, .unset, .unset, .unset, .unset, .unset, .unset, .unset] [(.int p0)])) t → Steps p.tables e below (s₁.setTop (mkF m 0 #[iv p0, iv p1, iv p2, iv p3, iv p4, .unset, .unset, .unset, .unset, .unset, .unset, .unset, .unset, .unset, .unset] [])) t := by
    intro t k
    refine XS.iloadN X0.here hx rfl (hb hby at_0) rfl ?_
    show Steps p.tables e below (s₁.setTop (mkF m 1 #[iv p0, iv p1, iv p2, iv p3, iv p4, .unset, .unset, .unset, .unset, .unset, .unset, .unset, .unset, .unset, .unset] [(.int p0)])) _
    exact k
  refine own_lift sg1 ?_
  show own_Go p.tables e below (s₁.setTop (mkF m 1 #[iv p0, iv p1, iv p2, iv p3, iv p4, .unset, .unset, .unset, .unset, .unset, .unset, .unset, .unset, .unset, .unset] [(.int p0)])) _
  obtain ⟨_, _, ⟨T2, Lx2, kx2, nx2⟩, -, X2, ⟨Lc2, hQ2, lx2, yx2, zx2⟩, st2⟩ := Jvm.LawKit.callS X0 hx (y := (⟨"com/example/allsome/allsome/cypher/InputPositionHashCodePinLaw", "pos", "(I)I"⟩ : MethodName)) hown (mvT hZ (wd hw 0 rfl)) (mvT hZ (wd hw 1 rfl)) (mvT hZ (wd hw 2 rfl)) (mvT hZ (wd hw 3 rfl)) (by decide) (backOf (W := 0) (rmPos l Z a0 hw [] p0 h0 n0 Z0 ) hZ (wd hw 3 rfl) (wd hw 2 rfl) (by decide) (by decide)) (g := (mkF m 1 #[iv p0, iv p1, iv p2, iv p3, iv p4, .unset, .unset, .unset, .unset, .unset, .unset, .unset, .unset, .unset, .unset] [(.int p0)])) rfl (by rw [hml]; rfl) (argsL := [(.int p0)]) (rest := []) (lenOf pd_1 rfl) rfl (by show 2 * 0 + _ ≤ _; exact Nat.le_of_eq rfl) (hb hby at_1) (fun _ _ => ⟨rfl, e0, (by decide : 0 + 0 ≤ _), (by decide : 0 + 0 ≤ _)⟩)
  dsimp only [Pt.U, Pt.locs, Pt.cells, Pt.slots] at X2 lx2 yx2 zx2 st2 hQ2
  subst lx2 yx2 zx2
  obtain ⟨rfl, N2q, e2⟩ := hQ2
  have N2 := Fr.app N0 N2q
  refine own_lift st2 ?_
  show own_Go p.tables e below (T2.setTop (mkF m 4 #[iv p0, iv p1, iv p2, iv p3, iv p4, .unset, .unset, .unset, .unset, .unset, .unset, .unset, .unset, .unset, .unset] [(.int (own_pos p0))])) _
  have sg3 : ∀ t, Steps p.tables e below (T2.setTop (mkF m 7 #[iv p0, iv p1, iv p2, iv p3, iv p4, iv (own_pos p0), .unset, .unset, .unset, .unset, .unset, .unset, .unset, .unset, .unset] [(.int p1)])) t → Steps p.tables e below (T2.setTop (mkF m 4 #[iv p0, iv p1, iv p2, iv p3, iv p4, .unset, .unset, .unset, .unset, .unset, .unset, .unset, .unset, .unset, .unset] [(.int (own_pos p0))])) t := by
    intro t k
    refine XS.istore X2.here hx rfl (hb hby at_4) rfl (l' := #[iv p0, iv p1, iv p2, iv p3, iv p4, iv (own_pos p0), .unset, .unset, .unset, .unset, .unset, .unset, .unset, .unset, .unset]) rfl ?_
    show Steps p.tables e below (T2.setTop (mkF m 6 #[iv p0, iv p1, iv p2, iv p3, iv p4, iv (own_pos p0), .unset, .unset, .unset, .unset, .unset, .unset, .unset, .unset, .unset] [])) _
    refine XS.iloadN X2.here hx rfl (hb hby at_6) rfl ?_
    show Steps p.tables e below (T2.setTop (mkF m 7 #[iv p0, iv p1, iv p2, iv p3, iv p4, iv (own_pos p0), .unset, .unset, .unset, .unset, .unset, .unset, .unset, .unset, .unset] [(.int p1)])) _
    exact k
  refine own_lift sg3 ?_
  show own_Go p.tables e below (T2.setTop (mkF m 7 #[iv p0, iv p1, iv p2, iv p3, iv p4, iv (own_pos p0), .unset, .unset, .unset, .unset, .unset, .unset, .unset, .unset, .unset] [(.int p1)])) _
  obtain ⟨_, _, ⟨T4, Lx4, kx4, nx4⟩, -, X4, ⟨Lc4, hQ4, lx4, yx4, zx4⟩, st4⟩ := Jvm.LawKit.callS X2 hx (y := (⟨"com/example/allsome/allsome/cypher/InputPositionHashCodePinLaw", "pos", "(I)I"⟩ : MethodName)) hown (mvT hZ (wd hw 0 rfl)) (mvT hZ (wd hw 1 rfl)) (mvT hZ (wd hw 2 rfl)) (mvT hZ (wd hw 3 rfl)) (by decide) (backOf (W := 0) (rmPos l Z a0 hw [] p1 h0 n0 Z0 ) hZ (wd hw 3 rfl) (wd hw 2 rfl) (by decide) (by decide)) (g := (mkF m 7 #[iv p0, iv p1, iv p2, iv p3, iv p4, iv (own_pos p0), .unset, .unset, .unset, .unset, .unset, .unset, .unset, .unset, .unset] [(.int p1)])) rfl (by rw [hml]; rfl) (argsL := [(.int p1)]) (rest := []) (lenOf pd_1 rfl) rfl (by show 2 * 0 + _ ≤ _; exact Nat.le_of_eq rfl) (hb hby at_7) (fun _ _ => ⟨rfl, e2, (by decide : 0 + 0 ≤ _), (by decide : 0 + 0 ≤ _)⟩)
  dsimp only [Pt.U, Pt.locs, Pt.cells, Pt.slots] at X4 lx4 yx4 zx4 st4 hQ4
  subst lx4 yx4 zx4
  obtain ⟨rfl, N4q, e4⟩ := hQ4
  have N4 := Fr.app N2 N4q
  refine own_lift st4 ?_
  show own_Go p.tables e below (T4.setTop (mkF m 10 #[iv p0, iv p1, iv p2, iv p3, iv p4, iv (own_pos p0), .unset, .unset, .unset, .unset, .unset, .unset, .unset, .unset, .unset] [(.int (own_pos p1))])) _
  have sg5 : ∀ t, Steps p.tables e below (T4.setTop (mkF m 13 #[iv p0, iv p1, iv p2, iv p3, iv p4, iv (own_pos p0), iv (own_pos p1), .unset, .unset, .unset, .unset, .unset, .unset, .unset, .unset] [(.int p2)])) t → Steps p.tables e below (T4.setTop (mkF m 10 #[iv p0, iv p1, iv p2, iv p3, iv p4, iv (own_pos p0), .unset, .unset, .unset, .unset, .unset, .unset, .unset, .unset, .unset] [(.int (own_pos p1))])) t := by
    intro t k
    refine XS.istore X4.here hx rfl (hb hby at_10) rfl (l' := #[iv p0, iv p1, iv p2, iv p3, iv p4, iv (own_pos p0), iv (own_pos p1), .unset, .unset, .unset, .unset, .unset, .unset, .unset, .unset]) rfl ?_
    show Steps p.tables e below (T4.setTop (mkF m 12 #[iv p0, iv p1, iv p2, iv p3, iv p4, iv (own_pos p0), iv (own_pos p1), .unset, .unset, .unset, .unset, .unset, .unset, .unset, .unset] [])) _
    refine XS.iloadN X4.here hx rfl (hb hby at_12) rfl ?_
    show Steps p.tables e below (T4.setTop (mkF m 13 #[iv p0, iv p1, iv p2, iv p3, iv p4, iv (own_pos p0), iv (own_pos p1), .unset, .unset, .unset, .unset, .unset, .unset, .unset, .unset] [(.int p2)])) _
    exact k
  refine own_lift sg5 ?_
  show own_Go p.tables e below (T4.setTop (mkF m 13 #[iv p0, iv p1, iv p2, iv p3, iv p4, iv (own_pos p0), iv (own_pos p1), .unset, .unset, .unset, .unset, .unset, .unset, .unset, .unset] [(.int p2)])) _
  obtain ⟨_, _, ⟨T6, Lx6, kx6, nx6⟩, -, X6, ⟨Lc6, hQ6, lx6, yx6, zx6⟩, st6⟩ := Jvm.LawKit.callS X4 hx (y := (⟨"com/example/allsome/allsome/cypher/InputPositionHashCodePinLaw", "pos", "(I)I"⟩ : MethodName)) hown (mvT hZ (wd hw 0 rfl)) (mvT hZ (wd hw 1 rfl)) (mvT hZ (wd hw 2 rfl)) (mvT hZ (wd hw 3 rfl)) (by decide) (backOf (W := 0) (rmPos l Z a0 hw [] p2 h0 n0 Z0 ) hZ (wd hw 3 rfl) (wd hw 2 rfl) (by decide) (by decide)) (g := (mkF m 13 #[iv p0, iv p1, iv p2, iv p3, iv p4, iv (own_pos p0), iv (own_pos p1), .unset, .unset, .unset, .unset, .unset, .unset, .unset, .unset] [(.int p2)])) rfl (by rw [hml]; rfl) (argsL := [(.int p2)]) (rest := []) (lenOf pd_1 rfl) rfl (by show 2 * 0 + _ ≤ _; exact Nat.le_of_eq rfl) (hb hby at_13) (fun _ _ => ⟨rfl, e4, (by decide : 0 + 0 ≤ _), (by decide : 0 + 0 ≤ _)⟩)
  dsimp only [Pt.U, Pt.locs, Pt.cells, Pt.slots] at X6 lx6 yx6 zx6 st6 hQ6
  subst lx6 yx6 zx6
  obtain ⟨rfl, N6q, e6⟩ := hQ6
  have N6 := Fr.app N4 N6q
  refine own_lift st6 ?_
  show own_Go p.tables e below (T6.setTop (mkF m 16 #[iv p0, iv p1, iv p2, iv p3, iv p4, iv (own_pos p0), iv (own_pos p1), .unset, .unset, .unset, .unset, .unset, .unset, .unset, .unset] [(.int (own_pos p2))])) _
  have sg7 : ∀ t, Steps p.tables e below (T6.setTop (mkF m 19 #[iv p0, iv p1, iv p2, iv p3, iv p4, iv (own_pos p0), iv (own_pos p1), iv (own_pos p2), .unset, .unset, .unset, .unset, .unset, .unset, .unset] [(.int p3)])) t → Steps p.tables e below (T6.setTop (mkF m 16 #[iv p0, iv p1, iv p2, iv p3, iv p4, iv (own_pos p0), iv (own_pos p1), .unset, .unset, .unset, .unset, .unset, .unset, .unset, .unset] [(.int (own_pos p2))])) t := by
    intro t k
    refine XS.istore X6.here hx rfl (hb hby at_16) rfl (l' := #[iv p0, iv p1, iv p2, iv p3, iv p4, iv (own_pos p0), iv (own_pos p1), iv (own_pos p2), .unset, .unset, .unset, .unset, .unset, .unset, .unset]) rfl ?_
    show Steps p.tables e below (T6.setTop (mkF m 18 #[iv p0, iv p1, iv p2, iv p3, iv p4, iv (own_pos p0), iv (own_pos p1), iv (own_pos p2), .unset, .unset, .unset, .unset, .unset, .unset, .unset] [])) _
    refine XS.iloadN X6.here hx rfl (hb hby at_18) rfl ?_
    show Steps p.tables e below (T6.setTop (mkF m 19 #[iv p0, iv p1, iv p2, iv p3, iv p4, iv (own_pos p0), iv (own_pos p1), iv (own_pos p2), .unset, .unset, .unset, .unset, .unset, .unset, .unset] [(.int p3)])) _
    exact k
  refine own_lift sg7 ?_
  show own_Go p.tables e below (T6.setTop (mkF m 19 #[iv p0, iv p1, iv p2, iv p3, iv p4, iv (own_pos p0), iv (own_pos p1), iv (own_pos p2), .unset, .unset, .unset, .unset, .unset, .unset, .unset] [(.int p3)])) _
  obtain ⟨_, _, ⟨T8, Lx8, kx8, nx8⟩, -, X8, ⟨Lc8, hQ8, lx8, yx8, zx8⟩, st8⟩ := Jvm.LawKit.callS X6 hx (y := (⟨"com/example/allsome/allsome/cypher/InputPositionHashCodePinLaw", "pos", "(I)I"⟩ : MethodName)) hown (mvT hZ (wd hw 0 rfl)) (mvT hZ (wd hw 1 rfl)) (mvT hZ (wd hw 2 rfl)) (mvT hZ (wd hw 3 rfl)) (by decide) (backOf (W := 0) (rmPos l Z a0 hw [] p3 h0 n0 Z0 ) hZ (wd hw 3 rfl) (wd hw 2 rfl) (by decide) (by decide)) (g := (mkF m 19 #[iv p0, iv p1, iv p2, iv p3, iv p4, iv (own_pos p0), iv (own_pos p1), iv (own_pos p2), .unset, .unset, .unset, .unset, .unset, .unset, .unset] [(.int p3)])) rfl (by rw [hml]; rfl) (argsL := [(.int p3)]) (rest := []) (lenOf pd_1 rfl) rfl (by show 2 * 0 + _ ≤ _; exact Nat.le_of_eq rfl) (hb hby at_19) (fun _ _ => ⟨rfl, e6, (by decide : 0 + 0 ≤ _), (by decide : 0 + 0 ≤ _)⟩)
  dsimp only [Pt.U, Pt.locs, Pt.cells, Pt.slots] at X8 lx8 yx8 zx8 st8 hQ8
  subst lx8 yx8 zx8
  obtain ⟨rfl, N8q, e8⟩ := hQ8
  have N8 := Fr.app N6 N8q
  refine own_lift st8 ?_
  show own_Go p.tables e below (T8.setTop (mkF m 22 #[iv p0, iv p1, iv p2, iv p3, iv p4, iv (own_pos p0), iv (own_pos p1), iv (own_pos p2), .unset, .unset, .unset, .unset, .unset, .unset, .unset] [(.int (own_pos p3))])) _
  have sg9 : ∀ t, Steps p.tables e below (T8.setTop (mkF m 69 #[iv p0, iv p1, iv p2, iv p3, iv p4, iv (own_pos p0), iv (own_pos p1), iv (own_pos p0), iv (own_pos p1), iv (p4 &&& (3 : Int32)), .unset, .unset, .unset, .unset, .unset] [])) t → Steps p.tables e below (T8.setTop (mkF m 22 #[iv p0, iv p1, iv p2, iv p3, iv p4, iv (own_pos p0), iv (own_pos p1), iv (own_pos p2), .unset, .unset, .unset, .unset, .unset, .unset, .unset] [(.int (own_pos p3))])) t := by
    intro t k
    refine XS.istore X8.here hx rfl (hb hby at_22) rfl (l' := #[iv p0, iv p1, iv p2, iv p3, iv p4, iv (own_pos p0), iv (own_pos p1), iv (own_pos p2), iv (own_pos p3), .unset, .unset, .unset, .unset, .unset, .unset]) rfl ?_
    show Steps p.tables e below (T8.setTop (mkF m 24 #[iv p0, iv p1, iv p2, iv p3, iv p4, iv (own_pos p0), iv (own_pos p1), iv (own_pos p2), iv (own_pos p3), .unset, .unset, .unset, .unset, .unset, .unset] [])) _
    refine XS.iload X8.here hx rfl (hb hby at_24) rfl ?_
    show Steps p.tables e below (T8.setTop (mkF m 26 #[iv p0, iv p1, iv p2, iv p3, iv p4, iv (own_pos p0), iv (own_pos p1), iv (own_pos p2), iv (own_pos p3), .unset, .unset, .unset, .unset, .unset, .unset] [(.int p4)])) _
    refine XS.iconst X8.here hx rfl (hb hby at_26) ?_
    show Steps p.tables e below (T8.setTop (mkF m 27 #[iv p0, iv p1, iv p2, iv p3, iv p4, iv (own_pos p0), iv (own_pos p1), iv (own_pos p2), iv (own_pos p3), .unset, .unset, .unset, .unset, .unset, .unset] [(.int 3), (.int p4)])) _
    refine XS.iand X8.here hx rfl (hb hby at_27) rfl ?_
    show Steps p.tables e below (T8.setTop (mkF m 28 #[iv p0, iv p1, iv p2, iv p3, iv p4, iv (own_pos p0), iv (own_pos p1), iv (own_pos p2), iv (own_pos p3), .unset, .unset, .unset, .unset, .unset, .unset] [(.int (p4 &&& (3 : Int32)))])) _
    refine XS.istore X8.here hx rfl (hb hby at_28) rfl (l' := #[iv p0, iv p1, iv p2, iv p3, iv p4, iv (own_pos p0), iv (own_pos p1), iv (own_pos p2), iv (own_pos p3), iv (p4 &&& (3 : Int32)), .unset, .unset, .unset, .unset, .unset]) rfl ?_
    show Steps p.tables e below (T8.setTop (mkF m 30 #[iv p0, iv p1, iv p2, iv p3, iv p4, iv (own_pos p0), iv (own_pos p1), iv (own_pos p2), iv (own_pos p3), iv (p4 &&& (3 : Int32)), .unset, .unset, .unset, .unset, .unset] [])) _
    refine XS.iload X8.here hx rfl (hb hby at_30) rfl ?_
    show Steps p.tables e below (T8.setTop (mkF m 32 #[iv p0, iv p1, iv p2, iv p3, iv p4, iv (own_pos p0), iv (own_pos p1), iv (own_pos p2), iv (own_pos p3), iv (p4 &&& (3 : Int32)), .unset, .unset, .unset, .unset, .unset] [(.int (p4 &&& (3 : Int32)))])) _
    refine XS.ifNo X8.here hx rfl (hb hby at_32) rfl ((if0 _ _).trans (teq m0).2) ?_
    show Steps p.tables e below (T8.setTop (mkF m 35 #[iv p0, iv p1, iv p2, iv p3, iv p4, iv (own_pos p0), iv (own_pos p1), iv (own_pos p2), iv (own_pos p3), iv (p4 &&& (3 : Int32)), .unset, .unset, .unset, .unset, .unset] [])) _
    refine XS.iload X8.here hx rfl (hb hby at_35) rfl ?_
    show Steps p.tables e below (T8.setTop (mkF m 37 #[iv p0, iv p1, iv p2, iv p3, iv p4, iv (own_pos p0), iv (own_pos p1), iv (own_pos p2), iv (own_pos p3), iv (p4 &&& (3 : Int32)), .unset, .unset, .unset, .unset, .unset] [(.int (own_pos p0))])) _
    refine XS.istore X8.here hx rfl (hb hby at_37) rfl (l' := #[iv p0, iv p1, iv p2, iv p3, iv p4, iv (own_pos p0), iv (own_pos p1), iv (own_pos p0), iv (own_pos p3), iv (p4 &&& (3 : Int32)), .unset, .unset, .unset, .unset, .unset]) rfl ?_
    show Steps p.tables e below (T8.setTop (mkF m 39 #[iv p0, iv p1, iv p2, iv p3, iv p4, iv (own_pos p0), iv (own_pos p1), iv (own_pos p0), iv (own_pos p3), iv (p4 &&& (3 : Int32)), .unset, .unset, .unset, .unset, .unset] [])) _
    refine XS.iload X8.here hx rfl (hb hby at_39) rfl ?_
    show Steps p.tables e below (T8.setTop (mkF m 41 #[iv p0, iv p1, iv p2, iv p3, iv p4, iv (own_pos p0), iv (own_pos p1), iv (own_pos p0), iv (own_pos p3), iv (p4 &&& (3 : Int32)), .unset, .unset, .unset, .unset, .unset] [(.int (own_pos p1))])) _
    refine XS.istore X8.here hx rfl (hb hby at_41) rfl (l' := #[iv p0, iv p1, iv p2, iv p3, iv p4, iv (own_pos p0), iv (own_pos p1), iv (own_pos p0), iv (own_pos p1), iv (p4 &&& (3 : Int32)), .unset, .unset, .unset, .unset, .unset]) rfl ?_
    show Steps p.tables e below (T8.setTop (mkF m 43 #[iv p0, iv p1, iv p2, iv p3, iv p4, iv (own_pos p0), iv (own_pos p1), iv (own_pos p0), iv (own_pos p1), iv (p4 &&& (3 : Int32)), .unset, .unset, .unset, .unset, .unset] [])) _
    refine XS.goto X8.here hx rfl (pc0 := 43) (pc' := 69) rfl (hb hby at_43) (by decide) (by decide) ?_
    show Steps p.tables e below (T8.setTop (mkF m 69 #[iv p0, iv p1, iv p2, iv p3, iv p4, iv (own_pos p0), iv (own_pos p1), iv (own_pos p0), iv (own_pos p1), iv (p4 &&& (3 : Int32)), .unset, .unset, .unset, .unset, .unset] [])) _
    exact k
  refine own_lift sg9 ?_
  show own_Go p.tables e below (T8.setTop (mkF m 69 #[iv p0, iv p1, iv p2, iv p3, iv p4, iv (own_pos p0), iv (own_pos p1), iv (own_pos p0), iv (own_pos p1), iv (p4 &&& (3 : Int32)), .unset, .unset, .unset, .unset, .unset] [])) _
  obtain ⟨T10, h10, X10, e10, Ex10, Ax10, Dx10, Ux10, st10⟩ := newO X8 hx hZ hown (wd hw 9 rfl) (wd hw 10 rfl) (wd hw 11 rfl) e8 (g := (mkF m 69 #[iv p0, iv p1, iv p2, iv p3, iv p4, iv (own_pos p0), iv (own_pos p1), iv (own_pos p0), iv (own_pos p1), iv (p4 &&& (3 : Int32)), .unset, .unset, .unset, .unset, .unset] [])) rfl (hb hby at_69) (by decide) (by decide)
  obtain ⟨ob10, g10⟩ : ∃ z, z = h0.size := ⟨_, rfl⟩
  rw [← g10] at Ax10 Dx10 Ux10 st10
  have Z10 : n0 ≤ h10.size := Nat.le_trans Z0 Ex10.1
  have ge10 : n0 ≤ ob10 := Nat.le_trans Z0 (Nat.le_of_eq g10.symm)
  have Fn10_19 : Fld Z h10 ob10 "com/example/allsome/allsome/cypher/InputPosition" "line" "I" (.int 0) := Dx10 (Or.inr (wd hw 19 rfl)) (ty := .int) (by decide)
  have Fn10_21 : Fld Z h10 ob10 "com/example/allsome/allsome/cypher/InputPosition" "column" "I" (.int 0) := Dx10 (Or.inr (wd hw 21 rfl)) (ty := .int) (by decide)
  refine own_lift st10 ?_
  show own_Go p.tables e below (T10.setTop (mkF m 72 #[iv p0, iv p1, iv p2, iv p3, iv p4, iv (own_pos p0), iv (own_pos p1), iv (own_pos p0), iv (own_pos p1), iv (p4 &&& (3 : Int32)), .unset, .unset, .unset, .unset, .unset] [(.ref ob10)])) _
  have sg11 : ∀ t, Steps p.tables e below (T10.setTop (mkF m 77 #[iv p0, iv p1, iv p2, iv p3, iv p4, iv (own_pos p0), iv (own_pos p1), iv (own_pos p0), iv (own_pos p1), iv (p4 &&& (3 : Int32)), .unset, .unset, .unset, .unset, .unset] [(.int (own_pos p1)), (.int (own_pos p0)), (.ref ob10), (.ref ob10)])) t → Steps p.tables e below (T10.setTop (mkF m 72 #[iv p0, iv p1, iv p2, iv p3, iv p4, iv (own_pos p0), iv (own_pos p1), iv (own_pos p0), iv (own_pos p1), iv (p4 &&& (3 : Int32)), .unset, .unset, .unset, .unset, .unset] [(.ref ob10)])) t := by
    intro t k
    refine XS.dup X10.here hx rfl (hb hby at_72) rfl rfl ?_
    show Steps p.tables e below (T10.setTop (mkF m 73 #[iv p0, iv p1, iv p2, iv p3, iv p4, iv (own_pos p0), iv (own_pos p1), iv (own_pos p0), iv (own_pos p1), iv (p4 &&& (3 : Int32)), .unset, .unset, .unset, .unset, .unset] [(.ref ob10), (.ref ob10)])) _
    refine XS.iload X10.here hx rfl (hb hby at_73) rfl ?_
    show Steps p.tables e below (T10.setTop (mkF m 75 #[iv p0, iv p1, iv p2, iv p3, iv p4, iv (own_pos p0), iv (own_pos p1), iv (own_pos p0), iv (own_pos p1), iv (p4 &&& (3 : Int32)), .unset, .unset, .unset, .unset, .unset] [(.int (own_pos p0)), (.ref ob10), (.ref ob10)])) _
    refine XS.iload X10.here hx rfl (hb hby at_75) rfl ?_
    show Steps p.tables e below (T10.setTop (mkF m 77 #[iv p0, iv p1, iv p2, iv p3, iv p4, iv (own_pos p0), iv (own_pos p1), iv (own_pos p0), iv (own_pos p1), iv (p4 &&& (3 : Int32)), .unset, .unset, .unset, .unset, .unset] [(.int (own_pos p1)), (.int (own_pos p0)), (.ref ob10), (.ref ob10)])) _
    exact k
  refine own_lift sg11 ?_
  show own_Go p.tables e below (T10.setTop (mkF m 77 #[iv p0, iv p1, iv p2, iv p3, iv p4, iv (own_pos p0), iv (own_pos p1), iv (own_pos p0), iv (own_pos p1), iv (p4 &&& (3 : Int32)), .unset, .unset, .unset, .unset, .unset] [(.int (own_pos p1)), (.int (own_pos p0)), (.ref ob10), (.ref ob10)])) _
  obtain ⟨_, _, ⟨T12, Lx12, kx12, nx12⟩, -, X12, ⟨Lc12, hQ12, lx12, yx12, zx12⟩, st12⟩ := X10.specialBack hx (y := (⟨"com/example/allsome/allsome/cypher/InputPosition", "<init>", "(II)V"⟩ : MethodName)) rfl hown (mvT hZ (wd hw 12 rfl)) (mvT hZ (wd hw 13 rfl)) (mvT hZ (wd hw 14 rfl)) (by decide) (backOf (W := 1) (rmInit l Z a0 hw [] ob10 (own_pos p0) (own_pos p1) h10 n0 Z10 Fn10_19 Fn10_21 Ax10 ge10 (own_pos_ge p0) (own_pos_ge p1)) hZ (wd hw 14 rfl) (wd hw 11 rfl) (by decide) (by decide)) (g := (mkF m 77 #[iv p0, iv p1, iv p2, iv p3, iv p4, iv (own_pos p0), iv (own_pos p1), iv (own_pos p0), iv (own_pos p1), iv (p4 &&& (3 : Int32)), .unset, .unset, .unset, .unset, .unset] [(.int (own_pos p1)), (.int (own_pos p0)), (.ref ob10), (.ref ob10)])) rfl (by rw [hml]; rfl) (Steps.refl _) (a := ob10) (argsL := [(.int (own_pos p0)), (.int (own_pos p1))]) (rest := [(.ref ob10)]) (lenOf pd_2 rfl) rfl (by show 2 * 0 + _ ≤ _; exact Nat.le_of_eq rfl) (hb hby at_77) (fun _ _ => ⟨rfl, e10, (by decide : 1 + 0 ≤ _), (by decide : 2 + 0 ≤ _)⟩)
  dsimp only [Pt.U, Pt.locs, Pt.cells, Pt.slots] at X12 lx12 yx12 zx12 st12 hQ12
  subst lx12 yx12 zx12
  obtain ⟨rfl, N12q, p12_0, p12_1, p12_2, p12_3⟩ := hQ12
  have N12 := Fr.app N8 N12q
  have Z12 : n0 ≤ T12.heap.size := Nat.le_trans Z10 p12_0.1
  refine own_lift (fun t k => st12.trans k) ?_
  show own_Go p.tables e below (T12.setTop (mkF m 80 #[iv p0, iv p1, iv p2, iv p3, iv p4, iv (own_pos p0), iv (own_pos p1), iv (own_pos p0), iv (own_pos p1), iv (p4 &&& (3 : Int32)), .unset, .unset, .unset, .unset, .unset] [(.ref ob10)])) _
  have sg13 : ∀ t, Steps p.tables e below (T12.setTop (mkF m 82 #[iv p0, iv p1, iv p2, iv p3, iv p4, iv (own_pos p0), iv (own_pos p1), iv (own_pos p0), iv (own_pos p1), iv (p4 &&& (3 : Int32)), rv ob10, .unset, .unset, .unset, .unset] [])) t → Steps p.tables e below (T12.setTop (mkF m 80 #[iv p0, iv p1, iv p2, iv p3, iv p4, iv (own_pos p0), iv (own_pos p1), iv (own_pos p0), iv (own_pos p1), iv (p4 &&& (3 : Int32)), .unset, .unset, .unset, .unset, .unset] [(.ref ob10)])) t := by
    intro t k
    refine XS.astore X12.here hx rfl (hb hby at_80) rfl rfl (l' := #[iv p0, iv p1, iv p2, iv p3, iv p4, iv (own_pos p0), iv (own_pos p1), iv (own_pos p0), iv (own_pos p1), iv (p4 &&& (3 : Int32)), rv ob10, .unset, .unset, .unset, .unset]) rfl ?_
    show Steps p.tables e below (T12.setTop (mkF m 82 #[iv p0, iv p1, iv p2, iv p3, iv p4, iv (own_pos p0), iv (own_pos p1), iv (own_pos p0), iv (own_pos p1), iv (p4 &&& (3 : Int32)), rv ob10, .unset, .unset, .unset, .unset] [])) _
    exact k
  refine own_lift sg13 ?_
  show own_Go p.tables e below (T12.setTop (mkF m 82 #[iv p0, iv p1, iv p2, iv p3, iv p4, iv (own_pos p0), iv (own_pos p1), iv (own_pos p0), iv (own_pos p1), iv (p4 &&& (3 : Int32)), rv ob10, .unset, .unset, .unset, .unset] [])) _
  obtain ⟨T14, h14, X14, e14, Ex14, Ax14, Dx14, Ux14, st14⟩ := newO X12 hx hZ hown (wd hw 9 rfl) (wd hw 10 rfl) (wd hw 11 rfl) rfl (g := (mkF m 82 #[iv p0, iv p1, iv p2, iv p3, iv p4, iv (own_pos p0), iv (own_pos p1), iv (own_pos p0), iv (own_pos p1), iv (p4 &&& (3 : Int32)), rv ob10, .unset, .unset, .unset, .unset] [])) rfl (hb hby at_82) (by decide) (by decide)
  obtain ⟨ob14, g14⟩ : ∃ z, z = T12.heap.size := ⟨_, rfl⟩
  rw [← g14] at Ax14 Dx14 Ux14 st14
  have ne15 : ob10 ≠ ob14 := Nat.ne_of_lt (Nat.lt_of_lt_of_le p12_1.lt (Nat.le_of_eq g14.symm))
  have Z14 : n0 ≤ h14.size := Nat.le_trans Z12 Ex14.1
  have ge14 : n0 ≤ ob14 := Nat.le_trans Z12 (Nat.le_of_eq g14.symm)
  have Fn14_19 : Fld Z h14 ob14 "com/example/allsome/allsome/cypher/InputPosition" "line" "I" (.int 0) := Dx14 (Or.inr (wd hw 19 rfl)) (ty := .int) (by decide)
  have Fn14_21 : Fld Z h14 ob14 "com/example/allsome/allsome/cypher/InputPosition" "column" "I" (.int 0) := Dx14 (Or.inr (wd hw 21 rfl)) (ty := .int) (by decide)
  refine own_lift st14 ?_
  show own_Go p.tables e below (T14.setTop (mkF m 85 #[iv p0, iv p1, iv p2, iv p3, iv p4, iv (own_pos p0), iv (own_pos p1), iv (own_pos p0), iv (own_pos p1), iv (p4 &&& (3 : Int32)), rv ob10, .unset, .unset, .unset, .unset] [(.ref ob14)])) _
  have sg16 : ∀ t, Steps p.tables e below (T14.setTop (mkF m 90 #[iv p0, iv p1, iv p2, iv p3, iv p4, iv (own_pos p0), iv (own_pos p1), iv (own_pos p0), iv (own_pos p1), iv (p4 &&& (3 : Int32)), rv ob10, .unset, .unset, .unset, .unset] [(.int (own_pos p1)), (.int (own_pos p0)), (.ref ob14), (.ref ob14)])) t → Steps p.tables e below (T14.setTop (mkF m 85 #[iv p0, iv p1, iv p2, iv p3, iv p4, iv (own_pos p0), iv (own_pos p1), iv (own_pos p0), iv (own_pos p1), iv (p4 &&& (3 : Int32)), rv ob10, .unset, .unset, .unset, .unset] [(.ref ob14)])) t := by
    intro t k
    refine XS.dup X14.here hx rfl (hb hby at_85) rfl rfl ?_
    show Steps p.tables e below (T14.setTop (mkF m 86 #[iv p0, iv p1, iv p2, iv p3, iv p4, iv (own_pos p0), iv (own_pos p1), iv (own_pos p0), iv (own_pos p1), iv (p4 &&& (3 : Int32)), rv ob10, .unset, .unset, .unset, .unset] [(.ref ob14), (.ref ob14)])) _
    refine XS.iload X14.here hx rfl (hb hby at_86) rfl ?_
    show Steps p.tables e below (T14.setTop (mkF m 88 #[iv p0, iv p1, iv p2, iv p3, iv p4, iv (own_pos p0), iv (own_pos p1), iv (own_pos p0), iv (own_pos p1), iv (p4 &&& (3 : Int32)), rv ob10, .unset, .unset, .unset, .unset] [(.int (own_pos p0)), (.ref ob14), (.ref ob14)])) _
    refine XS.iload X14.here hx rfl (hb hby at_88) rfl ?_
    show Steps p.tables e below (T14.setTop (mkF m 90 #[iv p0, iv p1, iv p2, iv p3, iv p4, iv (own_pos p0), iv (own_pos p1), iv (own_pos p0), iv (own_pos p1), iv (p4 &&& (3 : Int32)), rv ob10, .unset, .unset, .unset, .unset] [(.int (own_pos p1)), (.int (own_pos p0)), (.ref ob14), (.ref ob14)])) _
    exact k
  refine own_lift sg16 ?_
  show own_Go p.tables e below (T14.setTop (mkF m 90 #[iv p0, iv p1, iv p2, iv p3, iv p4, iv (own_pos p0), iv (own_pos p1), iv (own_pos p0), iv (own_pos p1), iv (p4 &&& (3 : Int32)), rv ob10, .unset, .unset, .unset, .unset] [(.int (own_pos p1)), (.int (own_pos p0)), (.ref ob14), (.ref ob14)])) _
  obtain ⟨_, _, ⟨T17, Lx17, kx17, nx17⟩, -, X17, ⟨Lc17, hQ17, lx17, yx17, zx17⟩, st17⟩ := X14.specialBack hx (y := (⟨"com/example/allsome/allsome/cypher/InputPosition", "<init>", "(II)V"⟩ : MethodName)) rfl hown (mvT hZ (wd hw 12 rfl)) (mvT hZ (wd hw 13 rfl)) (mvT hZ (wd hw 14 rfl)) (by decide) (backOf (W := 1) (rmInit l Z a0 hw [] ob14 (own_pos p0) (own_pos p1) h14 n0 Z14 Fn14_19 Fn14_21 Ax14 ge14 (own_pos_ge p0) (own_pos_ge p1)) hZ (wd hw 14 rfl) (wd hw 11 rfl) (by decide) (by decide)) (g := (mkF m 90 #[iv p0, iv p1, iv p2, iv p3, iv p4, iv (own_pos p0), iv (own_pos p1), iv (own_pos p0), iv (own_pos p1), iv (p4 &&& (3 : Int32)), rv ob10, .unset, .unset, .unset, .unset] [(.int (own_pos p1)), (.int (own_pos p0)), (.ref ob14), (.ref ob14)])) rfl (by rw [hml]; rfl) (Steps.refl _) (a := ob14) (argsL := [(.int (own_pos p0)), (.int (own_pos p1))]) (rest := [(.ref ob14)]) (lenOf pd_2 rfl) rfl (by show 2 * 0 + _ ≤ _; exact Nat.le_of_eq rfl) (hb hby at_90) (fun _ _ => ⟨rfl, e14, (by decide : 2 + 0 ≤ _), (by decide : 4 + 0 ≤ _)⟩)
  dsimp only [Pt.U, Pt.locs, Pt.cells, Pt.slots] at X17 lx17 yx17 zx17 st17 hQ17
  subst lx17 yx17 zx17
  obtain ⟨rfl, N17q, p17_0, p17_1, p17_2, p17_3⟩ := hQ17
  have N17 := Fr.app N12 N17q
  have Z17 : n0 ≤ T17.heap.size := Nat.le_trans Z14 p17_0.1
  refine own_lift (fun t k => st17.trans k) ?_
  show own_Go p.tables e below (T17.setTop (mkF m 93 #[iv p0, iv p1, iv p2, iv p3, iv p4, iv (own_pos p0), iv (own_pos p1), iv (own_pos p0), iv (own_pos p1), iv (p4 &&& (3 : Int32)), rv ob10, .unset, .unset, .unset, .unset] [(.ref ob14)])) _
  have sg18 : ∀ t, Steps p.tables e below (T17.setTop (mkF m 97 #[iv p0, iv p1, iv p2, iv p3, iv p4, iv (own_pos p0), iv (own_pos p1), iv (own_pos p0), iv (own_pos p1), iv (p4 &&& (3 : Int32)), rv ob10, rv ob14, .unset, .unset, .unset] [(.ref ob10)])) t → Steps p.tables e below (T17.setTop (mkF m 93 #[iv p0, iv p1, iv p2, iv p3, iv p4, iv (own_pos p0), iv (own_pos p1), iv (own_pos p0), iv (own_pos p1), iv (p4 &&& (3 : Int32)), rv ob10, .unset, .unset, .unset, .unset] [(.ref ob14)])) t := by
    intro t k
    refine XS.astore X17.here hx rfl (hb hby at_93) rfl rfl (l' := #[iv p0, iv p1, iv p2, iv p3, iv p4, iv (own_pos p0), iv (own_pos p1), iv (own_pos p0), iv (own_pos p1), iv (p4 &&& (3 : Int32)), rv ob10, rv ob14, .unset, .unset, .unset]) rfl ?_
    show Steps p.tables e below (T17.setTop (mkF m 95 #[iv p0, iv p1, iv p2, iv p3, iv p4, iv (own_pos p0), iv (own_pos p1), iv (own_pos p0), iv (own_pos p1), iv (p4 &&& (3 : Int32)), rv ob10, rv ob14, .unset, .unset, .unset] [])) _
    refine XS.aload X17.here hx rfl (hb hby at_95) rfl rfl ?_
    show Steps p.tables e below (T17.setTop (mkF m 97 #[iv p0, iv p1, iv p2, iv p3, iv p4, iv (own_pos p0), iv (own_pos p1), iv (own_pos p0), iv (own_pos p1), iv (p4 &&& (3 : Int32)), rv ob10, rv ob14, .unset, .unset, .unset] [(.ref ob10)])) _
    exact k
  refine own_lift sg18 ?_
  show own_Go p.tables e below (T17.setTop (mkF m 97 #[iv p0, iv p1, iv p2, iv p3, iv p4, iv (own_pos p0), iv (own_pos p1), iv (own_pos p0), iv (own_pos p1), iv (p4 &&& (3 : Int32)), rv ob10, rv ob14, .unset, .unset, .unset] [(.ref ob10)])) _
  have Fc19 : Fld Z T17.heap ob10 "com/example/allsome/allsome/cypher/InputPosition" "line" "I" (.int (own_pos p0)) := ((p12_2.ext Ex14).keep p17_0 (ninS ne15 nin0))
  have Fc20 : Fld Z T17.heap ob10 "com/example/allsome/allsome/cypher/InputPosition" "column" "I" (.int (own_pos p1)) := ((p12_3.ext Ex14).keep p17_0 (ninS ne15 nin0))
  have Fc22 : Exa Z T17.heap ob10 "com/example/allsome/allsome/cypher/InputPosition" := ((p12_1.ext Ex14).keep p17_0)
  obtain ⟨cq21, kq21, q21a, q21b, q21c⟩ := isOf hZ rfl Fc22
  obtain ⟨_, _, ⟨T21, Lx21, kx21, nx21⟩, -, X21, ⟨Lc21, hQ21, lx21, yx21, zx21⟩, st21⟩ := X17.virtualBack hx (y := (⟨"com/example/allsome/allsome/cypher/InputPosition", "hashCode", "()I"⟩ : MethodName)) (z := (⟨"com/example/allsome/allsome/cypher/InputPosition", "hashCode", "()I"⟩ : MethodName)) hown (mvT hZ (wd hw 22 rfl)) (mvT hZ (wd hw 23 rfl)) (notFace_of_selects (args := #[]) (mvT hZ (wd hw 25 rfl))) (mvT hZ (wd hw 25 rfl)) (mvT hZ (wd hw 24 rfl)) (by decide) (backOf (W := 0) (rmHash l Z a0 hw [] ob10 (own_pos p0) (own_pos p1) T17.heap n0 Z17 Fc19 Fc20) hZ (wd hw 26 rfl) (wd hw 11 rfl) (by decide) (by decide)) q21a q21c (g := (mkF m 97 #[iv p0, iv p1, iv p2, iv p3, iv p4, iv (own_pos p0), iv (own_pos p1), iv (own_pos p0), iv (own_pos p1), iv (p4 &&& (3 : Int32)), rv ob10, rv ob14, .unset, .unset, .unset] [(.ref ob10)])) rfl (by rw [hml]; rfl) (Steps.refl _) (argsL := []) (rest := []) (lenOf pd_3 rfl) rfl (by show 2 * 0 + _ ≤ _; exact Nat.le_of_eq rfl) (hb hby at_97) (fun _ _ => ⟨rfl, rfl, (by decide : 2 + 0 ≤ _), (by decide : 4 + 0 ≤ _)⟩)
  dsimp only [Pt.U, Pt.locs, Pt.cells, Pt.slots] at X21 lx21 yx21 zx21 st21 hQ21
  subst lx21 yx21 zx21
  obtain ⟨rfl, N21q, e21⟩ := hQ21
  have N21 := Fr.app N17 N21q
  refine own_lift (fun t k => st21.trans k) ?_
  show own_Go p.tables e below (T21.setTop (mkF m 100 #[iv p0, iv p1, iv p2, iv p3, iv p4, iv (own_pos p0), iv (own_pos p1), iv (own_pos p0), iv (own_pos p1), iv (p4 &&& (3 : Int32)), rv ob10, rv ob14, .unset, .unset, .unset] [(.int (((31 : Int32) * (own_pos p0)) + (own_pos p1)))])) _
  have sg23 : ∀ t, Steps p.tables e below (T21.setTop (mkF m 104 #[iv p0, iv p1, iv p2, iv p3, iv p4, iv (own_pos p0), iv (own_pos p1), iv (own_pos p0), iv (own_pos p1), iv (p4 &&& (3 : Int32)), rv ob10, rv ob14, iv (((31 : Int32) * (own_pos p0)) + (own_pos p1)), .unset, .unset] [(.ref ob10)])) t → Steps p.tables e below (T21.setTop (mkF m 100 #[iv p0, iv p1, iv p2, iv p3, iv p4, iv (own_pos p0), iv (own_pos p1), iv (own_pos p0), iv (own_pos p1), iv (p4 &&& (3 : Int32)), rv ob10, rv ob14, .unset, .unset, .unset] [(.int (((31 : Int32) * (own_pos p0)) + (own_pos p1)))])) t := by
    intro t k
    refine XS.istore X21.here hx rfl (hb hby at_100) rfl (l' := #[iv p0, iv p1, iv p2, iv p3, iv p4, iv (own_pos p0), iv (own_pos p1), iv (own_pos p0), iv (own_pos p1), iv (p4 &&& (3 : Int32)), rv ob10, rv ob14, iv (((31 : Int32) * (own_pos p0)) + (own_pos p1)), .unset, .unset]) rfl ?_
    show Steps p.tables e below (T21.setTop (mkF m 102 #[iv p0, iv p1, iv p2, iv p3, iv p4, iv (own_pos p0), iv (own_pos p1), iv (own_pos p0), iv (own_pos p1), iv (p4 &&& (3 : Int32)), rv ob10, rv ob14, iv (((31 : Int32) * (own_pos p0)) + (own_pos p1)), .unset, .unset] [])) _
    refine XS.aload X21.here hx rfl (hb hby at_102) rfl rfl ?_
    show Steps p.tables e below (T21.setTop (mkF m 104 #[iv p0, iv p1, iv p2, iv p3, iv p4, iv (own_pos p0), iv (own_pos p1), iv (own_pos p0), iv (own_pos p1), iv (p4 &&& (3 : Int32)), rv ob10, rv ob14, iv (((31 : Int32) * (own_pos p0)) + (own_pos p1)), .unset, .unset] [(.ref ob10)])) _
    exact k
  refine own_lift sg23 ?_
  show own_Go p.tables e below (T21.setTop (mkF m 104 #[iv p0, iv p1, iv p2, iv p3, iv p4, iv (own_pos p0), iv (own_pos p1), iv (own_pos p0), iv (own_pos p1), iv (p4 &&& (3 : Int32)), rv ob10, rv ob14, iv (((31 : Int32) * (own_pos p0)) + (own_pos p1)), .unset, .unset] [(.ref ob10)])) _
  obtain ⟨cq24, kq24, q24a, q24b, q24c⟩ := isOf hZ e21 Fc22
  obtain ⟨_, _, ⟨T24, Lx24, kx24, nx24⟩, -, X24, ⟨Lc24, hQ24, lx24, yx24, zx24⟩, st24⟩ := X21.virtualBack hx (y := (⟨"com/example/allsome/allsome/cypher/InputPosition", "hashCode", "()I"⟩ : MethodName)) (z := (⟨"com/example/allsome/allsome/cypher/InputPosition", "hashCode", "()I"⟩ : MethodName)) hown (mvT hZ (wd hw 22 rfl)) (mvT hZ (wd hw 23 rfl)) (notFace_of_selects (args := #[]) (mvT hZ (wd hw 25 rfl))) (mvT hZ (wd hw 25 rfl)) (mvT hZ (wd hw 24 rfl)) (by decide) (backOf (W := 0) (rmHash l Z a0 hw [] ob10 (own_pos p0) (own_pos p1) T17.heap n0 Z17 Fc19 Fc20) hZ (wd hw 26 rfl) (wd hw 11 rfl) (by decide) (by decide)) q24a q24c (g := (mkF m 104 #[iv p0, iv p1, iv p2, iv p3, iv p4, iv (own_pos p0), iv (own_pos p1), iv (own_pos p0), iv (own_pos p1), iv (p4 &&& (3 : Int32)), rv ob10, rv ob14, iv (((31 : Int32) * (own_pos p0)) + (own_pos p1)), .unset, .unset] [(.ref ob10)])) rfl (by rw [hml]; rfl) (Steps.refl _) (argsL := []) (rest := []) (lenOf pd_3 rfl) rfl (by show 2 * 0 + _ ≤ _; exact Nat.le_of_eq rfl) (hb hby at_104) (fun _ _ => ⟨rfl, e21, (by decide : 2 + 0 ≤ _), (by decide : 4 + 0 ≤ _)⟩)
  dsimp only [Pt.U, Pt.locs, Pt.cells, Pt.slots] at X24 lx24 yx24 zx24 st24 hQ24
  subst lx24 yx24 zx24
  obtain ⟨rfl, N24q, e24⟩ := hQ24
  have N24 := Fr.app N21 N24q
  refine own_lift (fun t k => st24.trans k) ?_
  show own_Go p.tables e below (T24.setTop (mkF m 107 #[iv p0, iv p1, iv p2, iv p3, iv p4, iv (own_pos p0), iv (own_pos p1), iv (own_pos p0), iv (own_pos p1), iv (p4 &&& (3 : Int32)), rv ob10, rv ob14, iv (((31 : Int32) * (own_pos p0)) + (own_pos p1)), .unset, .unset] [(.int (((31 : Int32) * (own_pos p0)) + (own_pos p1)))])) _
  have sg25 : ∀ t, Steps p.tables e below (T24.setTop (mkF m 111 #[iv p0, iv p1, iv p2, iv p3, iv p4, iv (own_pos p0), iv (own_pos p1), iv (own_pos p0), iv (own_pos p1), iv (p4 &&& (3 : Int32)), rv ob10, rv ob14, iv (((31 : Int32) * (own_pos p0)) + (own_pos p1)), iv (((31 : Int32) * (own_pos p0)) + (own_pos p1)), .unset] [(.ref ob14)])) t → Steps p.tables e below (T24.setTop (mkF m 107 #[iv p0, iv p1, iv p2, iv p3, iv p4, iv (own_pos p0), iv (own_pos p1), iv (own_pos p0), iv (own_pos p1), iv (p4 &&& (3 : Int32)), rv ob10, rv ob14, iv (((31 : Int32) * (own_pos p0)) + (own_pos p1)), .unset, .unset] [(.int (((31 : Int32) * (own_pos p0)) + (own_pos p1)))])) t := by
    intro t k
    refine XS.istore X24.here hx rfl (hb hby at_107) rfl (l' := #[iv p0, iv p1, iv p2, iv p3, iv p4, iv (own_pos p0), iv (own_pos p1), iv (own_pos p0), iv (own_pos p1), iv (p4 &&& (3 : Int32)), rv ob10, rv ob14, iv (((31 : Int32) * (own_pos p0)) + (own_pos p1)), iv (((31 : Int32) * (own_pos p0)) + (own_pos p1)), .unset]) rfl ?_
    show Steps p.tables e below (T24.setTop (mkF m 109 #[iv p0, iv p1, iv p2, iv p3, iv p4, iv (own_pos p0), iv (own_pos p1), iv (own_pos p0), iv (own_pos p1), iv (p4 &&& (3 : Int32)), rv ob10, rv ob14, iv (((31 : Int32) * (own_pos p0)) + (own_pos p1)), iv (((31 : Int32) * (own_pos p0)) + (own_pos p1)), .unset] [])) _
    refine XS.aload X24.here hx rfl (hb hby at_109) rfl rfl ?_
    show Steps p.tables e below (T24.setTop (mkF m 111 #[iv p0, iv p1, iv p2, iv p3, iv p4, iv (own_pos p0), iv (own_pos p1), iv (own_pos p0), iv (own_pos p1), iv (p4 &&& (3 : Int32)), rv ob10, rv ob14, iv (((31 : Int32) * (own_pos p0)) + (own_pos p1)), iv (((31 : Int32) * (own_pos p0)) + (own_pos p1)), .unset] [(.ref ob14)])) _
    exact k
  refine own_lift sg25 ?_
  show own_Go p.tables e below (T24.setTop (mkF m 111 #[iv p0, iv p1, iv p2, iv p3, iv p4, iv (own_pos p0), iv (own_pos p1), iv (own_pos p0), iv (own_pos p1), iv (p4 &&& (3 : Int32)), rv ob10, rv ob14, iv (((31 : Int32) * (own_pos p0)) + (own_pos p1)), iv (((31 : Int32) * (own_pos p0)) + (own_pos p1)), .unset] [(.ref ob14)])) _
  obtain ⟨cq26, kq26, q26a, q26b, q26c⟩ := isOf hZ e24 p17_1
  obtain ⟨_, _, ⟨T26, Lx26, kx26, nx26⟩, -, X26, ⟨Lc26, hQ26, lx26, yx26, zx26⟩, st26⟩ := X24.virtualBack hx (y := (⟨"com/example/allsome/allsome/cypher/InputPosition", "hashCode", "()I"⟩ : MethodName)) (z := (⟨"com/example/allsome/allsome/cypher/InputPosition", "hashCode", "()I"⟩ : MethodName)) hown (mvT hZ (wd hw 22 rfl)) (mvT hZ (wd hw 23 rfl)) (notFace_of_selects (args := #[]) (mvT hZ (wd hw 25 rfl))) (mvT hZ (wd hw 25 rfl)) (mvT hZ (wd hw 24 rfl)) (by decide) (backOf (W := 0) (rmHash l Z a0 hw [] ob14 (own_pos p0) (own_pos p1) T17.heap n0 Z17 p17_2 p17_3) hZ (wd hw 26 rfl) (wd hw 11 rfl) (by decide) (by decide)) q26a q26c (g := (mkF m 111 #[iv p0, iv p1, iv p2, iv p3, iv p4, iv (own_pos p0), iv (own_pos p1), iv (own_pos p0), iv (own_pos p1), iv (p4 &&& (3 : Int32)), rv ob10, rv ob14, iv (((31 : Int32) * (own_pos p0)) + (own_pos p1)), iv (((31 : Int32) * (own_pos p0)) + (own_pos p1)), .unset] [(.ref ob14)])) rfl (by rw [hml]; rfl) (Steps.refl _) (argsL := []) (rest := []) (lenOf pd_3 rfl) rfl (by show 2 * 0 + _ ≤ _; exact Nat.le_of_eq rfl) (hb hby at_111) (fun _ _ => ⟨rfl, e24, (by decide : 2 + 0 ≤ _), (by decide : 4 + 0 ≤ _)⟩)
  dsimp only [Pt.U, Pt.locs, Pt.cells, Pt.slots] at X26 lx26 yx26 zx26 st26 hQ26
  subst lx26 yx26 zx26
  obtain ⟨rfl, N26q, e26⟩ := hQ26
  have N26 := Fr.app N24 N26q
  refine own_lift (fun t k => st26.trans k) ?_
  show own_Go p.tables e below (T26.setTop (mkF m 114 #[iv p0, iv p1, iv p2, iv p3, iv p4, iv (own_pos p0), iv (own_pos p1), iv (own_pos p0), iv (own_pos p1), iv (p4 &&& (3 : Int32)), rv ob10, rv ob14, iv (((31 : Int32) * (own_pos p0)) + (own_pos p1)), iv (((31 : Int32) * (own_pos p0)) + (own_pos p1)), .unset] [(.int (((31 : Int32) * (own_pos p0)) + (own_pos p1)))])) _
  have sg27 : ∀ t, Steps p.tables e below (T26.setTop (mkF m 129 #[iv p0, iv p1, iv p2, iv p3, iv p4, iv (own_pos p0), iv (own_pos p1), iv (own_pos p0), iv (own_pos p1), iv (p4 &&& (3 : Int32)), rv ob10, rv ob14, iv (((31 : Int32) * (own_pos p0)) + (own_pos p1)), iv (((31 : Int32) * (own_pos p0)) + (own_pos p1)), iv (((31 : Int32) * (own_pos p0)) + (own_pos p1))] [(.ref ob14), (.ref ob10)])) t → Steps p.tables e below (T26.setTop (mkF m 114 #[iv p0, iv p1, iv p2, iv p3, iv p4, iv (own_pos p0), iv (own_pos p1), iv (own_pos p0), iv (own_pos p1), iv (p4 &&& (3 : Int32)), rv ob10, rv ob14, iv (((31 : Int32) * (own_pos p0)) + (own_pos p1)), iv (((31 : Int32) * (own_pos p0)) + (own_pos p1)), .unset] [(.int (((31 : Int32) * (own_pos p0)) + (own_pos p1)))])) t := by
    intro t k
    refine XS.istore X26.here hx rfl (hb hby at_114) rfl (l' := #[iv p0, iv p1, iv p2, iv p3, iv p4, iv (own_pos p0), iv (own_pos p1), iv (own_pos p0), iv (own_pos p1), iv (p4 &&& (3 : Int32)), rv ob10, rv ob14, iv (((31 : Int32) * (own_pos p0)) + (own_pos p1)), iv (((31 : Int32) * (own_pos p0)) + (own_pos p1)), iv (((31 : Int32) * (own_pos p0)) + (own_pos p1))]) rfl ?_
    show Steps p.tables e below (T26.setTop (mkF m 116 #[iv p0, iv p1, iv p2, iv p3, iv p4, iv (own_pos p0), iv (own_pos p1), iv (own_pos p0), iv (own_pos p1), iv (p4 &&& (3 : Int32)), rv ob10, rv ob14, iv (((31 : Int32) * (own_pos p0)) + (own_pos p1)), iv (((31 : Int32) * (own_pos p0)) + (own_pos p1)), iv (((31 : Int32) * (own_pos p0)) + (own_pos p1))] [])) _
    refine XS.iload X26.here hx rfl (hb hby at_116) rfl ?_
    show Steps p.tables e below (T26.setTop (mkF m 118 #[iv p0, iv p1, iv p2, iv p3, iv p4, iv (own_pos p0), iv (own_pos p1), iv (own_pos p0), iv (own_pos p1), iv (p4 &&& (3 : Int32)), rv ob10, rv ob14, iv (((31 : Int32) * (own_pos p0)) + (own_pos p1)), iv (((31 : Int32) * (own_pos p0)) + (own_pos p1)), iv (((31 : Int32) * (own_pos p0)) + (own_pos p1))] [(.int (((31 : Int32) * (own_pos p0)) + (own_pos p1)))])) _
    refine XS.iload X26.here hx rfl (hb hby at_118) rfl ?_
    show Steps p.tables e below (T26.setTop (mkF m 120 #[iv p0, iv p1, iv p2, iv p3, iv p4, iv (own_pos p0), iv (own_pos p1), iv (own_pos p0), iv (own_pos p1), iv (p4 &&& (3 : Int32)), rv ob10, rv ob14, iv (((31 : Int32) * (own_pos p0)) + (own_pos p1)), iv (((31 : Int32) * (own_pos p0)) + (own_pos p1)), iv (((31 : Int32) * (own_pos p0)) + (own_pos p1))] [(.int (((31 : Int32) * (own_pos p0)) + (own_pos p1))), (.int (((31 : Int32) * (own_pos p0)) + (own_pos p1)))])) _
    refine XS.icmpYes X26.here hx rfl (pc0 := 120) (pc' := 125) rfl (hb hby at_120) rfl (teq (rfl : (((31 : Int32) * (own_pos p0)) + (own_pos p1)) = (((31 : Int32) * (own_pos p0)) + (own_pos p1)))).1 (by decide) (by decide) ?_
    show Steps p.tables e below (T26.setTop (mkF m 125 #[iv p0, iv p1, iv p2, iv p3, iv p4, iv (own_pos p0), iv (own_pos p1), iv (own_pos p0), iv (own_pos p1), iv (p4 &&& (3 : Int32)), rv ob10, rv ob14, iv (((31 : Int32) * (own_pos p0)) + (own_pos p1)), iv (((31 : Int32) * (own_pos p0)) + (own_pos p1)), iv (((31 : Int32) * (own_pos p0)) + (own_pos p1))] [])) _
    refine XS.aload X26.here hx rfl (hb hby at_125) rfl rfl ?_
    show Steps p.tables e below (T26.setTop (mkF m 127 #[iv p0, iv p1, iv p2, iv p3, iv p4, iv (own_pos p0), iv (own_pos p1), iv (own_pos p0), iv (own_pos p1), iv (p4 &&& (3 : Int32)), rv ob10, rv ob14, iv (((31 : Int32) * (own_pos p0)) + (own_pos p1)), iv (((31 : Int32) * (own_pos p0)) + (own_pos p1)), iv (((31 : Int32) * (own_pos p0)) + (own_pos p1))] [(.ref ob10)])) _
    refine XS.aload X26.here hx rfl (hb hby at_127) rfl rfl ?_
    show Steps p.tables e below (T26.setTop (mkF m 129 #[iv p0, iv p1, iv p2, iv p3, iv p4, iv (own_pos p0), iv (own_pos p1), iv (own_pos p0), iv (own_pos p1), iv (p4 &&& (3 : Int32)), rv ob10, rv ob14, iv (((31 : Int32) * (own_pos p0)) + (own_pos p1)), iv (((31 : Int32) * (own_pos p0)) + (own_pos p1)), iv (((31 : Int32) * (own_pos p0)) + (own_pos p1))] [(.ref ob14), (.ref ob10)])) _
    exact k
  refine own_lift sg27 ?_
  show own_Go p.tables e below (T26.setTop (mkF m 129 #[iv p0, iv p1, iv p2, iv p3, iv p4, iv (own_pos p0), iv (own_pos p1), iv (own_pos p0), iv (own_pos p1), iv (p4 &&& (3 : Int32)), rv ob10, rv ob14, iv (((31 : Int32) * (own_pos p0)) + (own_pos p1)), iv (((31 : Int32) * (own_pos p0)) + (own_pos p1)), iv (((31 : Int32) * (own_pos p0)) + (own_pos p1))] [(.ref ob14), (.ref ob10)])) _
  obtain ⟨cq28, kq28, q28a, q28b, q28c⟩ := isOf hZ e26 Fc22
  obtain ⟨_, _, ⟨T28, Lx28, kx28, nx28⟩, -, X28, ⟨Lc28, hQ28, lx28, yx28, zx28⟩, st28⟩ := X26.virtualBack hx (y := (⟨"com/example/allsome/allsome/cypher/InputPosition", "equals", "(Ljava/lang/Object;)Z"⟩ : MethodName)) (z := (⟨"com/example/allsome/allsome/cypher/InputPosition", "equals", "(Ljava/lang/Object;)Z"⟩ : MethodName)) hown (mvT hZ (wd hw 27 rfl)) (mvT hZ (wd hw 28 rfl)) (notFace_of_selects (args := #[]) (mvT hZ (wd hw 30 rfl))) (mvT hZ (wd hw 30 rfl)) (mvT hZ (wd hw 29 rfl)) (by decide) (backOf (W := 0) (rmEqY l Z a0 hw [] ob10 ob14 (own_pos p0) (own_pos p1) (own_pos p0) (own_pos p1) T17.heap n0 Z17 Fc19 Fc20 p17_2 p17_3 p17_1 (rfl : (own_pos p0) = (own_pos p0)) (rfl : (own_pos p1) = (own_pos p1))) hZ (wd hw 31 rfl) (wd hw 11 rfl) (by decide) (by decide)) q28a q28c (g := (mkF m 129 #[iv p0, iv p1, iv p2, iv p3, iv p4, iv (own_pos p0), iv (own_pos p1), iv (own_pos p0), iv (own_pos p1), iv (p4 &&& (3 : Int32)), rv ob10, rv ob14, iv (((31 : Int32) * (own_pos p0)) + (own_pos p1)), iv (((31 : Int32) * (own_pos p0)) + (own_pos p1)), iv (((31 : Int32) * (own_pos p0)) + (own_pos p1))] [(.ref ob14), (.ref ob10)])) rfl (by rw [hml]; rfl) (Steps.refl _) (argsL := [(.ref ob14)]) (rest := []) (lenOf pd_4 rfl) rfl (by show 2 * 0 + _ ≤ _; exact Nat.le_of_eq rfl) (hb hby at_129) (fun _ _ => ⟨rfl, e26, (by decide : 2 + 0 ≤ _), (by decide : 4 + 0 ≤ _)⟩)
  dsimp only [Pt.U, Pt.locs, Pt.cells, Pt.slots] at X28 lx28 yx28 zx28 st28 hQ28
  subst lx28 yx28 zx28
  obtain ⟨rfl, N28q, e28⟩ := hQ28
  have N28 := Fr.app N26 N28q
  refine own_lift (fun t k => st28.trans k) ?_
  show own_Go p.tables e below (T28.setTop (mkF m 132 #[iv p0, iv p1, iv p2, iv p3, iv p4, iv (own_pos p0), iv (own_pos p1), iv (own_pos p0), iv (own_pos p1), iv (p4 &&& (3 : Int32)), rv ob10, rv ob14, iv (((31 : Int32) * (own_pos p0)) + (own_pos p1)), iv (((31 : Int32) * (own_pos p0)) + (own_pos p1)), iv (((31 : Int32) * (own_pos p0)) + (own_pos p1))] [(.int 1)])) _
  have sg29 : ∀ t, Steps p.tables e below (T28.setTop (mkF m 145 #[iv p0, iv p1, iv p2, iv p3, iv p4, iv (own_pos p0), iv (own_pos p1), iv (own_pos p0), iv (own_pos p1), iv (p4 &&& (3 : Int32)), rv ob10, rv ob14, iv (((31 : Int32) * (own_pos p0)) + (own_pos p1)), iv (((31 : Int32) * (own_pos p0)) + (own_pos p1)), iv (((31 : Int32) * (own_pos p0)) + (own_pos p1))] [(.int 1)])) t → Steps p.tables e below (T28.setTop (mkF m 132 #[iv p0, iv p1, iv p2, iv p3, iv p4, iv (own_pos p0), iv (own_pos p1), iv (own_pos p0), iv (own_pos p1), iv (p4 &&& (3 : Int32)), rv ob10, rv ob14, iv (((31 : Int32) * (own_pos p0)) + (own_pos p1)), iv (((31 : Int32) * (own_pos p0)) + (own_pos p1)), iv (((31 : Int32) * (own_pos p0)) + (own_pos p1))] [(.int 1)])) t := by
    intro t k
    refine XS.ifNo X28.here hx rfl (hb hby at_132) rfl ((if0 _ _).trans (feq (by decide : ¬ ((1 : Int32) = (0 : Int32)))).1) ?_
    show Steps p.tables e below (T28.setTop (mkF m 135 #[iv p0, iv p1, iv p2, iv p3, iv p4, iv (own_pos p0), iv (own_pos p1), iv (own_pos p0), iv (own_pos p1), iv (p4 &&& (3 : Int32)), rv ob10, rv ob14, iv (((31 : Int32) * (own_pos p0)) + (own_pos p1)), iv (((31 : Int32) * (own_pos p0)) + (own_pos p1)), iv (((31 : Int32) * (own_pos p0)) + (own_pos p1))] [])) _
    refine XS.iload X28.here hx rfl (hb hby at_135) rfl ?_
    show Steps p.tables e below (T28.setTop (mkF m 137 #[iv p0, iv p1, iv p2, iv p3, iv p4, iv (own_pos p0), iv (own_pos p1), iv (own_pos p0), iv (own_pos p1), iv (p4 &&& (3 : Int32)), rv ob10, rv ob14, iv (((31 : Int32) * (own_pos p0)) + (own_pos p1)), iv (((31 : Int32) * (own_pos p0)) + (own_pos p1)), iv (((31 : Int32) * (own_pos p0)) + (own_pos p1))] [(.int (((31 : Int32) * (own_pos p0)) + (own_pos p1)))])) _
    refine XS.iload X28.here hx rfl (hb hby at_137) rfl ?_
    show Steps p.tables e below (T28.setTop (mkF m 139 #[iv p0, iv p1, iv p2, iv p3, iv p4, iv (own_pos p0), iv (own_pos p1), iv (own_pos p0), iv (own_pos p1), iv (p4 &&& (3 : Int32)), rv ob10, rv ob14, iv (((31 : Int32) * (own_pos p0)) + (own_pos p1)), iv (((31 : Int32) * (own_pos p0)) + (own_pos p1)), iv (((31 : Int32) * (own_pos p0)) + (own_pos p1))] [(.int (((31 : Int32) * (own_pos p0)) + (own_pos p1))), (.int (((31 : Int32) * (own_pos p0)) + (own_pos p1)))])) _
    refine XS.icmpYes X28.here hx rfl (pc0 := 139) (pc' := 144) rfl (hb hby at_139) rfl (teq (rfl : (((31 : Int32) * (own_pos p0)) + (own_pos p1)) = (((31 : Int32) * (own_pos p0)) + (own_pos p1)))).1 (by decide) (by decide) ?_
    show Steps p.tables e below (T28.setTop (mkF m 144 #[iv p0, iv p1, iv p2, iv p3, iv p4, iv (own_pos p0), iv (own_pos p1), iv (own_pos p0), iv (own_pos p1), iv (p4 &&& (3 : Int32)), rv ob10, rv ob14, iv (((31 : Int32) * (own_pos p0)) + (own_pos p1)), iv (((31 : Int32) * (own_pos p0)) + (own_pos p1)), iv (((31 : Int32) * (own_pos p0)) + (own_pos p1))] [])) _
    refine XS.iconst X28.here hx rfl (hb hby at_144) ?_
    show Steps p.tables e below (T28.setTop (mkF m 145 #[iv p0, iv p1, iv p2, iv p3, iv p4, iv (own_pos p0), iv (own_pos p1), iv (own_pos p0), iv (own_pos p1), iv (p4 &&& (3 : Int32)), rv ob10, rv ob14, iv (((31 : Int32) * (own_pos p0)) + (own_pos p1)), iv (((31 : Int32) * (own_pos p0)) + (own_pos p1)), iv (((31 : Int32) * (own_pos p0)) + (own_pos p1))] [(.int 1)])) _
    exact k
  refine own_lift sg29 ?_
  show own_Go p.tables e below (T28.setTop (mkF m 145 #[iv p0, iv p1, iv p2, iv p3, iv p4, iv (own_pos p0), iv (own_pos p1), iv (own_pos p0), iv (own_pos p1), iv (p4 &&& (3 : Int32)), rv ob10, rv ob14, iv (((31 : Int32) * (own_pos p0)) + (own_pos p1)), iv (((31 : Int32) * (own_pos p0)) + (own_pos p1)), iv (((31 : Int32) * (own_pos p0)) + (own_pos p1))] [(.int 1)])) _
  obtain ⟨fs, hr, hrun, hended, hW, hsame⟩ := X28.leave (v := some (.int 1)) (fun h => by rw [Bd.returns] at h; cases h)
  refine ⟨_, _, ?_, hrun, hended, _, _, rfl, ?_, ⟨_, rfl⟩, hW, hsame.mono (by decide) (by decide)⟩
  · exact retN X28 hx (t := .boolean) Bd.returns (by simp) (hb hby at_145) hr
  · show Q0 Z  h0 n0 _ T28.heap _
    rw [e28]
    exact ⟨rfl, N28⟩
theorem ef_rm0_1e (m : MethodId) (x0 : Int32) (x1 : Int32) (x2 : Int32) (x3 : Int32) (x4 : Int32) : entryFrame m #[(.int x0), (.int x1), (.int x2), (.int x3), (.int x4)] maxLocals = mkF m 0 #[.val (.int x0), .val (.int x1), .val (.int x2), .val (.int x3), .val (.int x4), .unset, .unset, .unset, .unset, .unset, .unset, .unset, .unset, .unset, .unset] [] := by first | (simp [entryFrame, mkF, argsToLocals, Value.category, maxLocals]; done) | rfl
set_option maxRecDepth 65536 in
set_option maxHeartbeats 40000000 in
theorem rm0_1e (l : Launch) (Z : State) (a0 : Array Value) (hw : ∀ d ∈ tables_1, d.before a0 Z = true) (ws : List Jvm.Cond) (p0 : Int32) (p1 : Int32) (p2 : Int32) (p3 : Int32) (p4 : Int32) (h0 : Heap) (n0 : Nat) (Z0 : n0 ≤ h0.size)  (m0 : ¬ ((p4 &&& (3 : Int32)) = (0 : Int32))) (m1 : (p4 &&& (3 : Int32)) = (1 : Int32)) (hc : (own_pos p1) = (own_pos p3)) :
    MetFree l x (head1 (Jvm.Cond.code x code maxLocals ret :: ws) room_1) (fun a U => a = #[(.int p0), (.int p1), (.int p2), (.int p3), (.int p4)] ∧ Z.Warmed39 U.vm ∧ U.heap = h0) (fun _ _ _ _ _ => True) (fun _ U o U' => ∃ v L, o = .returned v ∧ Q0 Z  h0 n0 v U'.heap L ∧ FrameEnd U o U' L 16 128) := by
  refine MetFree.of_bodySF (plainFor_of_name pn_1) hisR ?_
  intro p e s m args below meth c s₁ Bd hml0 hP hK
  obtain ⟨rfl, hZ, hh⟩ := hP
  have hx := Bd.exec
  have hby := Bd.bytes
  have hml : c.maxLocals = 15 := hml0
  have hown : s.vm.findClass "com/example/allsome/allsome/cypher/InputPositionHashCodePinLaw" = some m.cls := findClass_of_methodNamed Bd.named
  have hnm := (name_of_methodNamed Bd.named Bd.method).1
  have X0 : Stand p l e room_1 s m #[(.int p0), (.int p1), (.int p2), (.int p3), (.int p4)] below meth c s₁ [] 0 0 := Stand.of_body Bd
  have e0 : s₁.heap = h0 := by rw [← hh, Bd.state]; rfl
  have N0 := Fr.nil n0
  refine own_go (own_lift (fun t k => castTop (ef_rm0_1e m p0 p1 p2 p3 p4) k) ?_)
  show own_Go p.tables e below (s₁.setTop (mkF m 0 #[iv p0, iv p1, iv p2, iv p3, iv p4, .unset, .unset, .unset, .unset, .unset, .unset, .unset, .unset, .unset, .unset] [])) _
  have sg1 : ∀ t, Steps p.tables e below (s₁.setTop (mkF m 1 #[iv p0, iv p1, iv p2, iv p3, iv p4, .unset, .unset, .unset, .unset, .unset, .unset, .unset, .unset, .unset, .unset] [(.int p0)])) t → Steps p.tables e below (s₁.setTop (mkF m 0 #[iv p0, iv p1, iv p2, iv p3, iv p4, .unset, .unset, .unset, .unset, .unset, .unset, .unset, .unset, .unset, .unset] [])) t := by
    intro t k
    refine XS.iloadN X0.here hx rfl (hb hby at_0) rfl ?_
    show Steps p.tables e below (s₁.setTop (mkF m 1 #[iv p0, iv p1, iv p2, iv p3, iv p4, .unset, .unset, .unset, .unset, .unset, .unset, .unset, .unset, .unset, .unset] [(.int p0)])) _
    exact k
  refine own_lift sg1 ?_
  show own_Go p.tables e below (s₁.setTop (mkF m 1 #[iv p0, iv p1, iv p2, iv p3, iv p4, .unset, .unset, .unset, .unset, .unset, .unset, .unset, .unset, .unset, .unset] [(.int p0)])) _
  obtain ⟨_, _, ⟨T2, Lx2, kx2, nx2⟩, -, X2, ⟨Lc2, hQ2, lx2, yx2, zx2⟩, st2⟩ := Jvm.LawKit.callS X0 hx (y := (⟨"com/example/allsome/allsome/cypher/InputPositionHashCodePinLaw", "pos", "(I)I"⟩ : MethodName)) hown (mvT hZ (wd hw 0 rfl)) (mvT hZ (wd hw 1 rfl)) (mvT hZ (wd hw 2 rfl)) (mvT hZ (wd hw 3 rfl)) (by decide) (backOf (W := 0) (rmPos l Z a0 hw [] p0 h0 n0 Z0 ) hZ (wd hw 3 rfl) (wd hw 2 rfl) (by decide) (by decide)) (g := (mkF m 1 #[iv p0, iv p1, iv p2, iv p3, iv p4, .unset, .unset, .unset, .unset, .unset, .unset, .unset, .unset, .unset, .unset] [(.int p0)])) rfl (by rw [hml]; rfl) (argsL := [(.int p0)]) (rest := []) (lenOf pd_1 rfl) rfl (by show 2 * 0 + _ ≤ _; exact Nat.le_of_eq rfl) (hb hby at_1) (fun _ _ => ⟨rfl, e0, (by decide : 0 + 0 ≤ _), (by decide : 0 + 0 ≤ _)⟩)
  dsimp only [Pt.U, Pt.locs, Pt.cells, Pt.slots] at X2 lx2 yx2 zx2 st2 hQ2
  subst lx2 yx2 zx2
  obtain ⟨rfl, N2q, e2⟩ := hQ2
  have N2 := Fr.app N0 N2q
  refine own_lift st2 ?_
  show own_Go p.tables e below (T2.setTop (mkF m 4 #[iv p0, iv p1, iv p2, iv p3, iv p4, .unset, .unset, .unset, .unset, .unset, .unset, .unset, .unset, .unset, .unset] [(.int (own_pos p0))])) _
  have sg3 : ∀ t, Steps p.tables e below (T2.setTop (mkF m 7 #[iv p0, iv p1, iv p2, iv p3, iv p4, iv (own_pos p0), .unset, .unset, .unset, .unset, .unset, .unset, .unset, .unset, .unset] [(.int p1)])) t → Steps p.tables e below (T2.setTop (mkF m 4 #[iv p0, iv p1, iv p2, iv p3, iv p4, .unset, .unset, .unset, .unset, .unset, .unset, .unset, .unset, .unset, .unset] [(.int (own_pos p0))])) t := by
    intro t k
    refine XS.istore X2.here hx rfl (hb hby at_4) rfl (l' := #[iv p0, iv p1, iv p2, iv p3, iv p4, iv (own_pos p0), .unset, .unset, .unset, .unset, .unset, .unset, .unset, .unset, .unset]) rfl ?_
    show Steps p.tables e below (T2.setTop (mkF m 6 #[iv p0, iv p1, iv p2, iv p3, iv p4, iv (own_pos p0), .unset, .unset, .unset, .unset, .unset, .unset, .unset, .unset, .unset] [])) _
    refine XS.iloadN X2.here hx rfl (hb hby at_6) rfl ?_
    show Steps p.tables e below (T2.setTop (mkF m 7 #[iv p0, iv p1, iv p2, iv p3, iv p4, iv (own_pos p0), .unset, .unset, .unset, .unset, .unset, .unset, .unset, .unset, .unset] [(.int p1)])) _
    exact k
  refine own_lift sg3 ?_
  show own_Go p.tables e below (T2.setTop (mkF m 7 #[iv p0, iv p1, iv p2, iv p3, iv p4, iv (own_pos p0), .unset, .unset, .unset, .unset, .unset, .unset, .unset, .unset, .unset] [(.int p1)])) _
  obtain ⟨_, _, ⟨T4, Lx4, kx4, nx4⟩, -, X4, ⟨Lc4, hQ4, lx4, yx4, zx4⟩, st4⟩ := Jvm.LawKit.callS X2 hx (y := (⟨"com/example/allsome/allsome/cypher/InputPositionHashCodePinLaw", "pos", "(I)I"⟩ : MethodName)) hown (mvT hZ (wd hw 0 rfl)) (mvT hZ (wd hw 1 rfl)) (mvT hZ (wd hw 2 rfl)) (mvT hZ (wd hw 3 rfl)) (by decide) (backOf (W := 0) (rmPos l Z a0 hw [] p1 h0 n0 Z0 ) hZ (wd hw 3 rfl) (wd hw 2 rfl) (by decide) (by decide)) (g := (mkF m 7 #[iv p0, iv p1, iv p2, iv p3, iv p4, iv (own_pos p0), .unset, .unset, .unset, .unset, .unset, .unset, .unset, .unset, .unset] [(.int p1)])) rfl (by rw [hml]; rfl) (argsL := [(.int p1)]) (rest := []) (lenOf pd_1 rfl) rfl (by show 2 * 0 + _ ≤ _; exact Nat.le_of_eq rfl) (hb hby at_7) (fun _ _ => ⟨rfl, e2, (by decide : 0 + 0 ≤ _), (by decide : 0 + 0 ≤ _)⟩)
  dsimp only [Pt.U, Pt.locs, Pt.cells, Pt.slots] at X4 lx4 yx4 zx4 st4 hQ4
  subst lx4 yx4 zx4
  obtain ⟨rfl, N4q, e4⟩ := hQ4
  have N4 := Fr.app N2 N4q
  refine own_lift st4 ?_
  show own_Go p.tables e below (T4.setTop (mkF m 10 #[iv p0, iv p1, iv p2, iv p3, iv p4, iv (own_pos p0), .unset, .unset, .unset, .unset, .unset, .unset, .unset, .unset, .unset] [(.int (own_pos p1))])) _
  have sg5 : ∀ t, Steps p.tables e below (T4.setTop (mkF m 13 #[iv p0, iv p1, iv p2, iv p3, iv p4, iv (own_pos p0), iv (own_pos p1), .unset, .unset, .unset, .unset, .unset, .unset, .unset, .unset] [(.int p2)])) t → Steps p.tables e below (T4.setTop (mkF m 10 #[iv p0, iv p1, iv p2, iv p3, iv p4, iv (own_pos p0), .unset, .unset, .unset, .unset, .unset, .unset, .unset, .unset, .unset] [(.int (own_pos p1))])) t := by
    intro t k
    refine XS.istore X4.here hx rfl (hb hby at_10) rfl (l' := #[iv p0, iv p1, iv p2, iv p3, iv p4, iv (own_pos p0), iv (own_pos p1), .unset, .unset, .unset, .unset, .unset, .unset, .unset, .unset]) rfl ?_
    show Steps p.tables e below (T4.setTop (mkF m 12 #[iv p0, iv p1, iv p2, iv p3, iv p4, iv (own_pos p0), iv (own_pos p1), .unset, .unset, .unset, .unset, .unset, .unset, .unset, .unset] [])) _
    refine XS.iloadN X4.here hx rfl (hb hby at_12) rfl ?_
    show Steps p.tables e below (T4.setTop (mkF m 13 #[iv p0, iv p1, iv p2, iv p3, iv p4, iv (own_pos p0), iv (own_pos p1), .unset, .unset, .unset, .unset, .unset, .unset, .unset, .unset] [(.int p2)])) _
    exact k
  refine own_lift sg5 ?_
  show own_Go p.tables e below (T4.setTop (mkF m 13 #[iv p0, iv p1, iv p2, iv p3, iv p4, iv (own_pos p0), iv (own_pos p1), .unset, .unset, .unset, .unset, .unset, .unset, .unset, .unset] [(.int p2)])) _
  obtain ⟨_, _, ⟨T6, Lx6, kx6, nx6⟩, -, X6, ⟨Lc6, hQ6, lx6, yx6, zx6⟩, st6⟩ := Jvm.LawKit.callS X4 hx (y := (⟨"com/example/allsome/allsome/cypher/InputPositionHashCodePinLaw", "pos", "(I)I"⟩ : MethodName)) hown (mvT hZ (wd hw 0 rfl)) (mvT hZ (wd hw 1 rfl)) (mvT hZ (wd hw 2 rfl)) (mvT hZ (wd hw 3 rfl)) (by decide) (backOf (W := 0) (rmPos l Z a0 hw [] p2 h0 n0 Z0 ) hZ (wd hw 3 rfl) (wd hw 2 rfl) (by decide) (by decide)) (g := (mkF m 13 #[iv p0, iv p1, iv p2, iv p3, iv p4, iv (own_pos p0), iv (own_pos p1), .unset, .unset, .unset, .unset, .unset, .unset, .unset, .unset] [(.int p2)])) rfl (by rw [hml]; rfl) (argsL := [(.int p2)]) (rest := []) (lenOf pd_1 rfl) rfl (by show 2 * 0 + _ ≤ _; exact Nat.le_of_eq rfl) (hb hby at_13) (fun _ _ => ⟨rfl, e4, (by decide : 0 + 0 ≤ _), (by decide : 0 + 0 ≤ _)⟩)
  dsimp only [Pt.U, Pt.locs, Pt.cells, Pt.slots] at X6 lx6 yx6 zx6 st6 hQ6
  subst lx6 yx6 zx6
  obtain ⟨rfl, N6q, e6⟩ := hQ6
  have N6 := Fr.app N4 N6q
  refine own_lift st6 ?_
  show own_Go p.tables e below (T6.setTop (mkF m 16 #[iv p0, iv p1, iv p2, iv p3, iv p4, iv (own_pos p0), iv (own_pos p1), .unset, .unset, .unset, .unset, .unset, .unset, .unset, .unset] [(.int (own_pos p2))])) _
  have sg7 : ∀ t, Steps p.tables e below (T6.setTop (mkF m 19 #[iv p0, iv p1, iv p2, iv p3, iv p4, iv (own_pos p0), iv (own_pos p1), iv (own_pos p2), .unset, .unset, .unset, .unset, .unset, .unset, .unset] [(.int p3)])) t → Steps p.tables e below (T6.setTop (mkF m 16 #[iv p0, iv p1, iv p2, iv p3, iv p4, iv (own_pos p0), iv (own_pos p1), .unset, .unset, .unset, .unset, .unset, .unset, .unset, .unset] [(.int (own_pos p2))])) t := by
    intro t k
    refine XS.istore X6.here hx rfl (hb hby at_16) rfl (l' := #[iv p0, iv p1, iv p2, iv p3, iv p4, iv (own_pos p0), iv (own_pos p1), iv (own_pos p2), .unset, .unset, .unset, .unset, .unset, .unset, .unset]) rfl ?_
    show Steps p.tables e below (T6.setTop (mkF m 18 #[iv p0, iv p1, iv p2, iv p3, iv p4, iv (own_pos p0), iv (own_pos p1), iv (own_pos p2), .unset, .unset, .unset, .unset, .unset, .unset, .unset] [])) _
    refine XS.iloadN X6.here hx rfl (hb hby at_18) rfl ?_
    show Steps p.tables e below (T6.setTop (mkF m 19 #[iv p0, iv p1, iv p2, iv p3, iv p4, iv (own_pos p0), iv (own_pos p1), iv (own_pos p2), .unset, .unset, .unset, .unset, .unset, .unset, .unset] [(.int p3)])) _
    exact k
  refine own_lift sg7 ?_
  show own_Go p.tables e below (T6.setTop (mkF m 19 #[iv p0, iv p1, iv p2, iv p3, iv p4, iv (own_pos p0), iv (own_pos p1), iv (own_pos p2), .unset, .unset, .unset, .unset, .unset, .unset, .unset] [(.int p3)])) _
  obtain ⟨_, _, ⟨T8, Lx8, kx8, nx8⟩, -, X8, ⟨Lc8, hQ8, lx8, yx8, zx8⟩, st8⟩ := Jvm.LawKit.callS X6 hx (y := (⟨"com/example/allsome/allsome/cypher/InputPositionHashCodePinLaw", "pos", "(I)I"⟩ : MethodName)) hown (mvT hZ (wd hw 0 rfl)) (mvT hZ (wd hw 1 rfl)) (mvT hZ (wd hw 2 rfl)) (mvT hZ (wd hw 3 rfl)) (by decide) (backOf (W := 0) (rmPos l Z a0 hw [] p3 h0 n0 Z0 ) hZ (wd hw 3 rfl) (wd hw 2 rfl) (by decide) (by decide)) (g := (mkF m 19 #[iv p0, iv p1, iv p2, iv p3, iv p4, iv (own_pos p0), iv (own_pos p1), iv (own_pos p2), .unset, .unset, .unset, .unset, .unset, .unset, .unset] [(.int p3)])) rfl (by rw [hml]; rfl) (argsL := [(.int p3)]) (rest := []) (lenOf pd_1 rfl) rfl (by show 2 * 0 + _ ≤ _; exact Nat.le_of_eq rfl) (hb hby at_19) (fun _ _ => ⟨rfl, e6, (by decide : 0 + 0 ≤ _), (by decide : 0 + 0 ≤ _)⟩)
  dsimp only [Pt.U, Pt.locs, Pt.cells, Pt.slots] at X8 lx8 yx8 zx8 st8 hQ8
  subst lx8 yx8 zx8
  obtain ⟨rfl, N8q, e8⟩ := hQ8
  have N8 := Fr.app N6 N8q
  refine own_lift st8 ?_
  show own_Go p.tables e below (T8.setTop (mkF m 22 #[iv p0, iv p1, iv p2, iv p3, iv p4, iv (own_pos p0), iv (own_pos p1), iv (own_pos p2), .unset, .unset, .unset, .unset, .unset, .unset, .unset] [(.int (own_pos p3))])) _
  have sg9 : ∀ t, Steps p.tables e below (T8.setTop (mkF m 69 #[iv p0, iv p1, iv p2, iv p3, iv p4, iv (own_pos p0), iv (own_pos p1), iv (own_pos p0), iv (own_pos p3), iv (p4 &&& (3 : Int32)), .unset, .unset, .unset, .unset, .unset] [])) t → Steps p.tables e below (T8.setTop (mkF m 22 #[iv p0, iv p1, iv p2, iv p3, iv p4, iv (own_pos p0), iv (own_pos p1), iv (own_pos p2), .unset, .unset, .unset, .unset, .unset, .unset, .unset] [(.int (own_pos p3))])) t := by
    intro t k
    refine XS.istore X8.here hx rfl (hb hby at_22) rfl (l' := #[iv p0, iv p1, iv p2, iv p3, iv p4, iv (own_pos p0), iv (own_pos p1), iv (own_pos p2), iv (own_pos p3), .unset, .unset, .unset, .unset, .unset, .unset]) rfl ?_
    show Steps p.tables e below (T8.setTop (mkF m 24 #[iv p0, iv p1, iv p2, iv p3, iv p4, iv (own_pos p0), iv (own_pos p1), iv (own_pos p2), iv (own_pos p3), .unset, .unset, .unset, .unset, .unset, .unset] [])) _
    refine XS.iload X8.here hx rfl (hb hby at_24) rfl ?_
    show Steps p.tables e below (T8.setTop (mkF m 26 #[iv p0, iv p1, iv p2, iv p3, iv p4, iv (own_pos p0), iv (own_pos p1), iv (own_pos p2), iv (own_pos p3), .unset, .unset, .unset, .unset, .unset, .unset] [(.int p4)])) _
    refine XS.iconst X8.here hx rfl (hb hby at_26) ?_
    show Steps p.tables e below (T8.setTop (mkF m 27 #[iv p0, iv p1, iv p2, iv p3, iv p4, iv (own_pos p0), iv (own_pos p1), iv (own_pos p2), iv (own_pos p3), .unset, .unset, .unset, .unset, .unset, .unset] [(.int 3), (.int p4)])) _
    refine XS.iand X8.here hx rfl (hb hby at_27) rfl ?_
    show Steps p.tables e below (T8.setTop (mkF m 28 #[iv p0, iv p1, iv p2, iv p3, iv p4, iv (own_pos p0), iv (own_pos p1), iv (own_pos p2), iv (own_pos p3), .unset, .unset, .unset, .unset, .unset, .unset] [(.int (p4 &&& (3 : Int32)))])) _
    refine XS.istore X8.here hx rfl (hb hby at_28) rfl (l' := #[iv p0, iv p1, iv p2, iv p3, iv p4, iv (own_pos p0), iv (own_pos p1), iv (own_pos p2), iv (own_pos p3), iv (p4 &&& (3 : Int32)), .unset, .unset, .unset, .unset, .unset]) rfl ?_
    show Steps p.tables e below (T8.setTop (mkF m 30 #[iv p0, iv p1, iv p2, iv p3, iv p4, iv (own_pos p0), iv (own_pos p1), iv (own_pos p2), iv (own_pos p3), iv (p4 &&& (3 : Int32)), .unset, .unset, .unset, .unset, .unset] [])) _
    refine XS.iload X8.here hx rfl (hb hby at_30) rfl ?_
    show Steps p.tables e below (T8.setTop (mkF m 32 #[iv p0, iv p1, iv p2, iv p3, iv p4, iv (own_pos p0), iv (own_pos p1), iv (own_pos p2), iv (own_pos p3), iv (p4 &&& (3 : Int32)), .unset, .unset, .unset, .unset, .unset] [(.int (p4 &&& (3 : Int32)))])) _
    refine XS.ifYes X8.here hx rfl (pc0 := 32) (pc' := 46) rfl (hb hby at_32) rfl ((if0 _ _).trans (feq m0).2) (by decide) (by decide) ?_
    show Steps p.tables e below (T8.setTop (mkF m 46 #[iv p0, iv p1, iv p2, iv p3, iv p4, iv (own_pos p0), iv (own_pos p1), iv (own_pos p2), iv (own_pos p3), iv (p4 &&& (3 : Int32)), .unset, .unset, .unset, .unset, .unset] [])) _
    refine XS.iload X8.here hx rfl (hb hby at_46) rfl ?_
    show Steps p.tables e below (T8.setTop (mkF m 48 #[iv p0, iv p1, iv p2, iv p3, iv p4, iv (own_pos p0), iv (own_pos p1), iv (own_pos p2), iv (own_pos p3), iv (p4 &&& (3 : Int32)), .unset, .unset, .unset, .unset, .unset] [(.int (p4 &&& (3 : Int32)))])) _
    refine XS.iconst X8.here hx rfl (hb hby at_48) ?_
    show Steps p.tables e below (T8.setTop (mkF m 49 #[iv p0, iv p1, iv p2, iv p3, iv p4, iv (own_pos p0), iv (own_pos p1), iv (own_pos p2), iv (own_pos p3), iv (p4 &&& (3 : Int32)), .unset, .unset, .unset, .unset, .unset] [(.int 1), (.int (p4 &&& (3 : Int32)))])) _
    refine XS.icmpNo X8.here hx rfl (hb hby at_49) rfl (teq m1).2 ?_
    show Steps p.tables e below (T8.setTop (mkF m 52 #[iv p0, iv p1, iv p2, iv p3, iv p4, iv (own_pos p0), iv (own_pos p1), iv (own_pos p2), iv (own_pos p3), iv (p4 &&& (3 : Int32)), .unset, .unset, .unset, .unset, .unset] [])) _
    refine XS.iload X8.here hx rfl (hb hby at_52) rfl ?_
    show Steps p.tables e below (T8.setTop (mkF m 54 #[iv p0, iv p1, iv p2, iv p3, iv p4, iv (own_pos p0), iv (own_pos p1), iv (own_pos p2), iv (own_pos p3), iv (p4 &&& (3 : Int32)), .unset, .unset, .unset, .unset, .unset] [(.int (own_pos p0))])) _
    refine XS.istore X8.here hx rfl (hb hby at_54) rfl (l' := #[iv p0, iv p1, iv p2, iv p3, iv p4, iv (own_pos p0), iv (own_pos p1), iv (own_pos p0), iv (own_pos p3), iv (p4 &&& (3 : Int32)), .unset, .unset, .unset, .unset, .unset]) rfl ?_
    show Steps p.tables e below (T8.setTop (mkF m 56 #[iv p0, iv p1, iv p2, iv p3, iv p4, iv (own_pos p0), iv (own_pos p1), iv (own_pos p0), iv (own_pos p3), iv (p4 &&& (3 : Int32)), .unset, .unset, .unset, .unset, .unset] [])) _
    refine XS.goto X8.here hx rfl (pc0 := 56) (pc' := 69) rfl (hb hby at_56) (by decide) (by decide) ?_
    show Steps p.tables e below (T8.setTop (mkF m 69 #[iv p0, iv p1, iv p2, iv p3, iv p4, iv (own_pos p0), iv (own_pos p1), iv (own_pos p0), iv (own_pos p3), iv (p4 &&& (3 : Int32)), .unset, .unset, .unset, .unset, .unset] [])) _
    exact k
  refine own_lift sg9 ?_
  show own_Go p.tables e below (T8.setTop (mkF m 69 #[iv p0, iv p1, iv p2, iv p3, iv p4, iv (own_pos p0), iv (own_pos p1), iv (own_pos p0), iv (own_pos p3), iv (p4 &&& (3 : Int32)), .unset, .unset, .unset, .unset, .unset] [])) _
  obtain ⟨T10, h10, X10, e10, Ex10, Ax10, Dx10, Ux10, st10⟩ := newO X8 hx hZ hown (wd hw 9 rfl) (wd hw 10 rfl) (wd hw 11 rfl) e8 (g := (mkF m 69 #[iv p0, iv p1, iv p2, iv p3, iv p4, iv (own_pos p0), iv (own_pos p1), iv (own_pos p0), iv (own_pos p3), iv (p4 &&& (3 : Int32)), .unset, .unset, .unset, .unset, .unset] [])) rfl (hb hby at_69) (by decide) (by decide)
  obtain ⟨ob10, g10⟩ : ∃ z, z = h0.size := ⟨_, rfl⟩
  rw [← g10] at Ax10 Dx10 Ux10 st10
  have Z10 : n0 ≤ h10.size := Nat.le_trans Z0 Ex10.1
  have ge10 : n0 ≤ ob10 := Nat.le_trans Z0 (Nat.le_of_eq g10.symm)
  have Fn10_19 : Fld Z h10 ob10 "com/example/allsome/allsome/cypher/InputPosition" "line" "I" (.int 0) := Dx10 (Or.inr (wd hw 19 rfl)) (ty := .int) (by decide)
  have Fn10_21 : Fld Z h10 ob10 "com/example/allsome/allsome/cypher/InputPosition" "column" "I" (.int 0) := Dx10 (Or.inr (wd hw 21 rfl)) (ty := .int) (by decide)
  refine own_lift st10 ?_
  show own_Go p.tables e below (T10.setTop (mkF m 72 #[iv p0, iv p1, iv p2, iv p3, iv p4, iv (own_pos p0), iv (own_pos p1), iv (own_pos p0), iv (own_pos p3), iv (p4 &&& (3 : Int32)), .unset, .unset, .unset, .unset, .unset] [(.ref ob10)])) _
  have sg11 : ∀ t, Steps p.tables e below (T10.setTop (mkF m 77 #[iv p0, iv p1, iv p2, iv p3, iv p4, iv (own_pos p0), iv (own_pos p1), iv (own_pos p0), iv (own_pos p3), iv (p4 &&& (3 : Int32)), .unset, .unset, .unset, .unset, .unset] [(.int (own_pos p1)), (.int (own_pos p0)), (.ref ob10), (.ref ob10)])) t → Steps p.tables e below (T10.setTop (mkF m 72 #[iv p0, iv p1, iv p2, iv p3, iv p4, iv (own_pos p0), iv (own_pos p1), iv (own_pos p0), iv (own_pos p3), iv (p4 &&& (3 : Int32)), .unset, .unset, .unset, .unset, .unset] [(.ref ob10)])) t := by
    intro t k
    refine XS.dup X10.here hx rfl (hb hby at_72) rfl rfl ?_
    show Steps p.tables e below (T10.setTop (mkF m 73 #[iv p0, iv p1, iv p2, iv p3, iv p4, iv (own_pos p0), iv (own_pos p1), iv (own_pos p0), iv (own_pos p3), iv (p4 &&& (3 : Int32)), .unset, .unset, .unset, .unset, .unset] [(.ref ob10), (.ref ob10)])) _
    refine XS.iload X10.here hx rfl (hb hby at_73) rfl ?_
    show Steps p.tables e below (T10.setTop (mkF m 75 #[iv p0, iv p1, iv p2, iv p3, iv p4, iv (own_pos p0), iv (own_pos p1), iv (own_pos p0), iv (own_pos p3), iv (p4 &&& (3 : Int32)), .unset, .unset, .unset, .unset, .unset] [(.int (own_pos p0)), (.ref ob10), (.ref ob10)])) _
    refine XS.iload X10.here hx rfl (hb hby at_75) rfl ?_
    show Steps p.tables e below (T10.setTop (mkF m 77 #[iv p0, iv p1, iv p2, iv p3, iv p4, iv (own_pos p0), iv (own_pos p1), iv (own_pos p0), iv (own_pos p3), iv (p4 &&& (3 : Int32)), .unset, .unset, .unset, .unset, .unset] [(.int (own_pos p1)), (.int (own_pos p0)), (.ref ob10), (.ref ob10)])) _
    exact k
  refine own_lift sg11 ?_
  show own_Go p.tables e below (T10.setTop (mkF m 77 #[iv p0, iv p1, iv p2, iv p3, iv p4, iv (own_pos p0), iv (own_pos p1), iv (own_pos p0), iv (own_pos p3), iv (p4 &&& (3 : Int32)), .unset, .unset, .unset, .unset, .unset] [(.int (own_pos p1)), (.int (own_pos p0)), (.ref ob10), (.ref ob10)])) _
  obtain ⟨_, _, ⟨T12, Lx12, kx12, nx12⟩, -, X12, ⟨Lc12, hQ12, lx12, yx12, zx12⟩, st12⟩ := X10.specialBack hx (y := (⟨"com/example/allsome/allsome/cypher/InputPosition", "<init>", "(II)V"⟩ : MethodName)) rfl hown (mvT hZ (wd hw 12 rfl)) (mvT hZ (wd hw 13 rfl)) (mvT hZ (wd hw 14 rfl)) (by decide) (backOf (W := 1) (rmInit l Z a0 hw [] ob10 (own_pos p0) (own_pos p1) h10 n0 Z10 Fn10_19 Fn10_21 Ax10 ge10 (own_pos_ge p0) (own_pos_ge p1)) hZ (wd hw 14 rfl) (wd hw 11 rfl) (by decide) (by decide)) (g := (mkF m 77 #[iv p0, iv p1, iv p2, iv p3, iv p4, iv (own_pos p0), iv (own_pos p1), iv (own_pos p0), iv (own_pos p3), iv (p4 &&& (3 : Int32)), .unset, .unset, .unset, .unset, .unset] [(.int (own_pos p1)), (.int (own_pos p0)), (.ref ob10), (.ref ob10)])) rfl (by rw [hml]; rfl) (Steps.refl _) (a := ob10) (argsL := [(.int (own_pos p0)), (.int (own_pos p1))]) (rest := [(.ref ob10)]) (lenOf pd_2 rfl) rfl (by show 2 * 0 + _ ≤ _; exact Nat.le_of_eq rfl) (hb hby at_77) (fun _ _ => ⟨rfl, e10, (by decide : 1 + 0 ≤ _), (by decide : 2 + 0 ≤ _)⟩)
  dsimp only [Pt.U, Pt.locs, Pt.cells, Pt.slots] at X12 lx12 yx12 zx12 st12 hQ12
  subst lx12 yx12 zx12
  obtain ⟨rfl, N12q, p12_0, p12_1, p12_2, p12_3⟩ := hQ12
  have N12 := Fr.app N8 N12q
  have Z12 : n0 ≤ T12.heap.size := Nat.le_trans Z10 p12_0.1
  refine own_lift (fun t k => st12.trans k) ?_
  show own_Go p.tables e below (T12.setTop (mkF m 80 #[iv p0, iv p1, iv p2, iv p3, iv p4, iv (own_pos p0), iv (own_pos p1), iv (own_pos p0), iv (own_pos p3), iv (p4 &&& (3 : Int32)), .unset, .unset, .unset, .unset, .unset] [(.ref ob10)])) _
  have sg13 : ∀ t, Steps p.tables e below (T12.setTop (mkF m 82 #[iv p0, iv p1, iv p2, iv p3, iv p4, iv (own_pos p0), iv (own_pos p1), iv (own_pos p0), iv (own_pos p3), iv (p4 &&& (3 : Int32)), rv ob10, .unset, .unset, .unset, .unset] [])) t → Steps p.tables e below (T12.setTop (mkF m 80 #[iv p0, iv p1, iv p2, iv p3, iv p4, iv (own_pos p0), iv (own_pos p1), iv (own_pos p0), iv (own_pos p3), iv (p4 &&& (3 : Int32)), .unset, .unset, .unset, .unset, .unset] [(.ref ob10)])) t := by
    intro t k
    refine XS.astore X12.here hx rfl (hb hby at_80) rfl rfl (l' := #[iv p0, iv p1, iv p2, iv p3, iv p4, iv (own_pos p0), iv (own_pos p1), iv (own_pos p0), iv (own_pos p3), iv (p4 &&& (3 : Int32)), rv ob10, .unset, .unset, .unset, .unset]) rfl ?_
    show Steps p.tables e below (T12.setTop (mkF m 82 #[iv p0, iv p1, iv p2, iv p3, iv p4, iv (own_pos p0), iv (own_pos p1), iv (own_pos p0), iv (own_pos p3), iv (p4 &&& (3 : Int32)), rv ob10, .unset, .unset, .unset, .unset] [])) _
    exact k
  refine own_lift sg13 ?_
  show own_Go p.tables e below (T12.setTop (mkF m 82 #[iv p0, iv p1, iv p2, iv p3, iv p4, iv (own_pos p0), iv (own_pos p1), iv (own_pos p0), iv (own_pos p3), iv (p4 &&& (3 : Int32)), rv ob10, .unset, .unset, .unset, .unset] [])) _
  obtain ⟨T14, h14, X14, e14, Ex14, Ax14, Dx14, Ux14, st14⟩ := newO X12 hx hZ hown (wd hw 9 rfl) (wd hw 10 rfl) (wd hw 11 rfl) rfl (g := (mkF m 82 #[iv p0, iv p1, iv p2, iv p3, iv p4, iv (own_pos p0), iv (own_pos p1), iv (own_pos p0), iv (own_pos p3), iv (p4 &&& (3 : Int32)), rv ob10, .unset, .unset, .unset, .unset] [])) rfl (hb hby at_82) (by decide) (by decide)
  obtain ⟨ob14, g14⟩ : ∃ z, z = T12.heap.size := ⟨_, rfl⟩
  rw [← g14] at Ax14 Dx14 Ux14 st14
  have ne15 : ob10 ≠ ob14 := Nat.ne_of_lt (Nat.lt_of_lt_of_le p12_1.lt (Nat.le_of_eq g14.symm))
  have Z14 : n0 ≤ h14.size := Nat.le_trans Z12 Ex14.1
  have ge14 : n0 ≤ ob14 := Nat.le_trans Z12 (Nat.le_of_eq g14.symm)
  have Fn14_19 : Fld Z h14 ob14 "com/example/allsome/allsome/cypher/InputPosition" "line" "I" (.int 0) := Dx14 (Or.inr (wd hw 19 rfl)) (ty := .int) (by decide)
  have Fn14_21 : Fld Z h14 ob14 "com/example/allsome/allsome/cypher/InputPosition" "column" "I" (.int 0) := Dx14 (Or.inr (wd hw 21 rfl)) (ty := .int) (by decide)
  refine own_lift st14 ?_
  show own_Go p.tables e below (T14.setTop (mkF m 85 #[iv p0, iv p1, iv p2, iv p3, iv p4, iv (own_pos p0), iv (own_pos p1), iv (own_pos p0), iv (own_pos p3), iv (p4 &&& (3 : Int32)), rv ob10, .unset, .unset, .unset, .unset] [(.ref ob14)])) _
  have sg16 : ∀ t, Steps p.tables e below (T14.setTop (mkF m 90 #[iv p0, iv p1, iv p2, iv p3, iv p4, iv (own_pos p0), iv (own_pos p1), iv (own_pos p0), iv (own_pos p3), iv (p4 &&& (3 : Int32)), rv ob10, .unset, .unset, .unset, .unset] [(.int (own_pos p3)), (.int (own_pos p0)), (.ref ob14), (.ref ob14)])) t → Steps p.tables e below (T14.setTop (mkF m 85 #[iv p0, iv p1, iv p2, iv p3, iv p4, iv (own_pos p0), iv (own_pos p1), iv (own_pos p0), iv (own_pos p3), iv (p4 &&& (3 : Int32)), rv ob10, .unset, .unset, .unset, .unset] [(.ref ob14)])) t := by
    intro t k
    refine XS.dup X14.here hx rfl (hb hby at_85) rfl rfl ?_
    show Steps p.tables e below (T14.setTop (mkF m 86 #[iv p0, iv p1, iv p2, iv p3, iv p4, iv (own_pos p0), iv (own_pos p1), iv (own_pos p0), iv (own_pos p3), iv (p4 &&& (3 : Int32)), rv ob10, .unset, .unset, .unset, .unset] [(.ref ob14), (.ref ob14)])) _
    refine XS.iload X14.here hx rfl (hb hby at_86) rfl ?_
    show Steps p.tables e below (T14.setTop (mkF m 88 #[iv p0, iv p1, iv p2, iv p3, iv p4, iv (own_pos p0), iv (own_pos p1), iv (own_pos p0), iv (own_pos p3), iv (p4 &&& (3 : Int32)), rv ob10, .unset, .unset, .unset, .unset] [(.int (own_pos p0)), (.ref ob14), (.ref ob14)])) _
    refine XS.iload X14.here hx rfl (hb hby at_88) rfl ?_
    show Steps p.tables e below (T14.setTop (mkF m 90 #[iv p0, iv p1, iv p2, iv p3, iv p4, iv (own_pos p0), iv (own_pos p1), iv (own_pos p0), iv (own_pos p3), iv (p4 &&& (3 : Int32)), rv ob10, .unset, .unset, .unset, .unset] [(.int (own_pos p3)), (.int (own_pos p0)), (.ref ob14), (.ref ob14)])) _
    exact k
  refine own_lift sg16 ?_
  show own_Go p.tables e below (T14.setTop (mkF m 90 #[iv p0, iv p1, iv p2, iv p3, iv p4, iv (own_pos p0), iv (own_pos p1), iv (own_pos p0), iv (own_pos p3), iv (p4 &&& (3 : Int32)), rv ob10, .unset, .unset, .unset, .unset] [(.int (own_pos p3)), (.int (own_pos p0)), (.ref ob14), (.ref ob14)])) _
  obtain ⟨_, _, ⟨T17, Lx17, kx17, nx17⟩, -, X17, ⟨Lc17, hQ17, lx17, yx17, zx17⟩, st17⟩ := X14.specialBack hx (y := (⟨"com/example/allsome/allsome/cypher/InputPosition", "<init>", "(II)V"⟩ : MethodName)) rfl hown (mvT hZ (wd hw 12 rfl)) (mvT hZ (wd hw 13 rfl)) (mvT hZ (wd hw 14 rfl)) (by decide) (backOf (W := 1) (rmInit l Z a0 hw [] ob14 (own_pos p0) (own_pos p3) h14 n0 Z14 Fn14_19 Fn14_21 Ax14 ge14 (own_pos_ge p0) (own_pos_ge p3)) hZ (wd hw 14 rfl) (wd hw 11 rfl) (by decide) (by decide)) (g := (mkF m 90 #[iv p0, iv p1, iv p2, iv p3, iv p4, iv (own_pos p0), iv (own_pos p1), iv (own_pos p0), iv (own_pos p3), iv (p4 &&& (3 : Int32)), rv ob10, .unset, .unset, .unset, .unset] [(.int (own_pos p3)), (.int (own_pos p0)), (.ref ob14), (.ref ob14)])) rfl (by rw [hml]; rfl) (Steps.refl _) (a := ob14) (argsL := [(.int (own_pos p0)), (.int (own_pos p3))]) (rest := [(.ref ob14)]) (lenOf pd_2 rfl) rfl (by show 2 * 0 + _ ≤ _; exact Nat.le_of_eq rfl) (hb hby at_90) (fun _ _ => ⟨rfl, e14, (by decide : 2 + 0 ≤ _), (by decide : 4 + 0 ≤ _)⟩)
  dsimp only [Pt.U, Pt.locs, Pt.cells, Pt.slots] at X17 lx17 yx17 zx17 st17 hQ17
  subst lx17 yx17 zx17
  obtain ⟨rfl, N17q, p17_0, p17_1, p17_2, p17_3⟩ := hQ17
  have N17 := Fr.app N12 N17q
  have Z17 : n0 ≤ T17.heap.size := Nat.le_trans Z14 p17_0.1
  refine own_lift (fun t k => st17.trans k) ?_
  show own_Go p.tables e below (T17.setTop (mkF m 93 #[iv p0, iv p1, iv p2, iv p3, iv p4, iv (own_pos p0), iv (own_pos p1), iv (own_pos p0), iv (own_pos p3), iv (p4 &&& (3 : Int32)), rv ob10, .unset, .unset, .unset, .unset] [(.ref ob14)])) _
  have sg18 : ∀ t, Steps p.tables e below (T17.setTop (mkF m 97 #[iv p0, iv p1, iv p2, iv p3, iv p4, iv (own_pos p0), iv (own_pos p1), iv (own_pos p0), iv (own_pos p3), iv (p4 &&& (3 : Int32)), rv ob10, rv ob14, .unset, .unset, .unset] [(.ref ob10)])) t → Steps p.tables e below (T17.setTop (mkF m 93 #[iv p0, iv p1, iv p2, iv p3, iv p4, iv (own_pos p0), iv (own_pos p1), iv (own_pos p0), iv (own_pos p3), iv (p4 &&& (3 : Int32)), rv ob10, .unset, .unset, .unset, .unset] [(.ref ob14)])) t := by
    intro t k
    refine XS.astore X17.here hx rfl (hb hby at_93) rfl rfl (l' := #[iv p0, iv p1, iv p2, iv p3, iv p4, iv (own_pos p0), iv (own_pos p1), iv (own_pos p0), iv (own_pos p3), iv (p4 &&& (3 : Int32)), rv ob10, rv ob14, .unset, .unset, .unset]) rfl ?_
    show Steps p.tables e below (T17.setTop (mkF m 95 #[iv p0, iv p1, iv p2, iv p3, iv p4, iv (own_pos p0), iv (own_pos p1), iv (own_pos p0), iv (own_pos p3), iv (p4 &&& (3 : Int32)), rv ob10, rv ob14, .unset, .unset, .unset] [])) _
    refine XS.aload X17.here hx rfl (hb hby at_95) rfl rfl ?_
    show Steps p.tables e below (T17.setTop (mkF m 97 #[iv p0, iv p1, iv p2, iv p3, iv p4, iv (own_pos p0), iv (own_pos p1), iv (own_pos p0), iv (own_pos p3), iv (p4 &&& (3 : Int32)), rv ob10, rv ob14, .unset, .unset, .unset] [(.ref ob10)])) _
    exact k
  refine own_lift sg18 ?_
  show own_Go p.tables e below (T17.setTop (mkF m 97 #[iv p0, iv p1, iv p2, iv p3, iv p4, iv (own_pos p0), iv (own_pos p1), iv (own_pos p0), iv (own_pos p3), iv (p4 &&& (3 : Int32)), rv ob10, rv ob14, .unset, .unset, .unset] [(.ref ob10)])) _
  have Fc19 : Fld Z T17.heap ob10 "com/example/allsome/allsome/cypher/InputPosition" "line" "I" (.int (own_pos p0)) := ((p12_2.ext Ex14).keep p17_0 (ninS ne15 nin0))
  have Fc20 : Fld Z T17.heap ob10 "com/example/allsome/allsome/cypher/InputPosition" "column" "I" (.int (own_pos p1)) := ((p12_3.ext Ex14).keep p17_0 (ninS ne15 nin0))
  have Fc22 : Exa Z T17.heap ob10 "com/example/allsome/allsome/cypher/InputPosition" := ((p12_1.ext Ex14).keep p17_0)
  obtain ⟨cq21, kq21, q21a, q21b, q21c⟩ := isOf hZ rfl Fc22
  obtain ⟨_, _, ⟨T21, Lx21, kx21, nx21⟩, -, X21, ⟨Lc21, hQ21, lx21, yx21, zx21⟩, st21⟩ := X17.virtualBack hx (y := (⟨"com/example/allsome/allsome/cypher/InputPosition", "hashCode", "()I"⟩ : MethodName)) (z := (⟨"com/example/allsome/allsome/cypher/InputPosition", "hashCode", "()I"⟩ : MethodName)) hown (mvT hZ (wd hw 22 rfl)) (mvT hZ (wd hw 23 rfl)) (notFace_of_selects (args := #[]) (mvT hZ (wd hw 25 rfl))) (mvT hZ (wd hw 25 rfl)) (mvT hZ (wd hw 24 rfl)) (by decide) (backOf (W := 0) (rmHash l Z a0 hw [] ob10 (own_pos p0) (own_pos p1) T17.heap n0 Z17 Fc19 Fc20) hZ (wd hw 26 rfl) (wd hw 11 rfl) (by decide) (by decide)) q21a q21c (g := (mkF m 97 #[iv p0, iv p1, iv p2, iv p3, iv p4, iv (own_pos p0), iv (own_pos p1), iv (own_pos p0), iv (own_pos p3), iv (p4 &&& (3 : Int32)), rv ob10, rv ob14, .unset, .unset, .unset] [(.ref ob10)])) rfl (by rw [hml]; rfl) (Steps.refl _) (argsL := []) (rest := []) (lenOf pd_3 rfl) rfl (by show 2 * 0 + _ ≤ _; exact Nat.le_of_eq rfl) (hb hby at_97) (fun _ _ => ⟨rfl, rfl, (by decide : 2 + 0 ≤ _), (by decide : 4 + 0 ≤ _)⟩)
  dsimp only [Pt.U, Pt.locs, Pt.cells, Pt.slots] at X21 lx21 yx21 zx21 st21 hQ21
  subst lx21 yx21 zx21
  obtain ⟨rfl, N21q, e21⟩ := hQ21
  have N21 := Fr.app N17 N21q
  refine own_lift (fun t k => st21.trans k) ?_
  show own_Go p.tables e below (T21.setTop (mkF m 100 #[iv p0, iv p1, iv p2, iv p3, iv p4, iv (own_pos p0), iv (own_pos p1), iv (own_pos p0), iv (own_pos p3), iv (p4 &&& (3 : Int32)), rv ob10, rv ob14, .unset, .unset, .unset] [(.int (((31 : Int32) * (own_pos p0)) + (own_pos p1)))])) _
  have sg23 : ∀ t, Steps p.tables e below (T21.setTop (mkF m 104 #[iv p0, iv p1, iv p2, iv p3, iv p4, iv (own_pos p0), iv (own_pos p1), iv (own_pos p0), iv (own_pos p3), iv (p4 &&& (3 : Int32)), rv ob10, rv ob14, iv (((31 : Int32) * (own_pos p0)) + (own_pos p1)), .unset, .unset] [(.ref ob10)])) t → Steps p.tables e below (T21.setTop (mkF m 100 #[iv p0, iv p1, iv p2, iv p3, iv p4, iv (own_pos p0), iv (own_pos p1), iv (own_pos p0), iv (own_pos p3), iv (p4 &&& (3 : Int32)), rv ob10, rv ob14, .unset, .unset, .unset] [(.int (((31 : Int32) * (own_pos p0)) + (own_pos p1)))])) t := by
    intro t k
    refine XS.istore X21.here hx rfl (hb hby at_100) rfl (l' := #[iv p0, iv p1, iv p2, iv p3, iv p4, iv (own_pos p0), iv (own_pos p1), iv (own_pos p0), iv (own_pos p3), iv (p4 &&& (3 : Int32)), rv ob10, rv ob14, iv (((31 : Int32) * (own_pos p0)) + (own_pos p1)), .unset, .unset]) rfl ?_
    show Steps p.tables e below (T21.setTop (mkF m 102 #[iv p0, iv p1, iv p2, iv p3, iv p4, iv (own_pos p0), iv (own_pos p1), iv (own_pos p0), iv (own_pos p3), iv (p4 &&& (3 : Int32)), rv ob10, rv ob14, iv (((31 : Int32) * (own_pos p0)) + (own_pos p1)), .unset, .unset] [])) _
    refine XS.aload X21.here hx rfl (hb hby at_102) rfl rfl ?_
    show Steps p.tables e below (T21.setTop (mkF m 104 #[iv p0, iv p1, iv p2, iv p3, iv p4, iv (own_pos p0), iv (own_pos p1), iv (own_pos p0), iv (own_pos p3), iv (p4 &&& (3 : Int32)), rv ob10, rv ob14, iv (((31 : Int32) * (own_pos p0)) + (own_pos p1)), .unset, .unset] [(.ref ob10)])) _
    exact k
  refine own_lift sg23 ?_
  show own_Go p.tables e below (T21.setTop (mkF m 104 #[iv p0, iv p1, iv p2, iv p3, iv p4, iv (own_pos p0), iv (own_pos p1), iv (own_pos p0), iv (own_pos p3), iv (p4 &&& (3 : Int32)), rv ob10, rv ob14, iv (((31 : Int32) * (own_pos p0)) + (own_pos p1)), .unset, .unset] [(.ref ob10)])) _
  obtain ⟨cq24, kq24, q24a, q24b, q24c⟩ := isOf hZ e21 Fc22
  obtain ⟨_, _, ⟨T24, Lx24, kx24, nx24⟩, -, X24, ⟨Lc24, hQ24, lx24, yx24, zx24⟩, st24⟩ := X21.virtualBack hx (y := (⟨"com/example/allsome/allsome/cypher/InputPosition", "hashCode", "()I"⟩ : MethodName)) (z := (⟨"com/example/allsome/allsome/cypher/InputPosition", "hashCode", "()I"⟩ : MethodName)) hown (mvT hZ (wd hw 22 rfl)) (mvT hZ (wd hw 23 rfl)) (notFace_of_selects (args := #[]) (mvT hZ (wd hw 25 rfl))) (mvT hZ (wd hw 25 rfl)) (mvT hZ (wd hw 24 rfl)) (by decide) (backOf (W := 0) (rmHash l Z a0 hw [] ob10 (own_pos p0) (own_pos p1) T17.heap n0 Z17 Fc19 Fc20) hZ (wd hw 26 rfl) (wd hw 11 rfl) (by decide) (by decide)) q24a q24c (g := (mkF m 104 #[iv p0, iv p1, iv p2, iv p3, iv p4, iv (own_pos p0), iv (own_pos p1), iv (own_pos p0), iv (own_pos p3), iv (p4 &&& (3 : Int32)), rv ob10, rv ob14, iv (((31 : Int32) * (own_pos p0)) + (own_pos p1)), .unset, .unset] [(.ref ob10)])) rfl (by rw [hml]; rfl) (Steps.refl _) (argsL := []) (rest := []) (lenOf pd_3 rfl) rfl (by show 2 * 0 + _ ≤ _; exact Nat.le_of_eq rfl) (hb hby at_104) (fun _ _ => ⟨rfl, e21, (by decide : 2 + 0 ≤ _), (by decide : 4 + 0 ≤ _)⟩)
  dsimp only [Pt.U, Pt.locs, Pt.cells, Pt.slots] at X24 lx24 yx24 zx24 st24 hQ24
  subst lx24 yx24 zx24
  obtain ⟨rfl, N24q, e24⟩ := hQ24
  have N24 := Fr.app N21 N24q
  refine own_lift (fun t k => st24.trans k) ?_
  show own_Go p.tables e below (T24.setTop (mkF m 107 #[iv p0, iv p1, iv p2, iv p3, iv p4, iv (own_pos p0), iv (own_pos p1), iv (own_pos p0), iv (own_pos p3), iv (p4 &&& (3 : Int32)), rv ob10, rv ob14, iv (((31 : Int32) * (own_pos p0)) + (own_pos p1)), .unset, .unset] [(.int (((31 : Int32) * (own_pos p0)) + (own_pos p1)))])) _
  have sg25 : ∀ t, Steps p.tables e below (T24.setTop (mkF m 111 #[iv p0, iv p1, iv p2, iv p3, iv p4, iv (own_pos p0), iv (own_pos p1), iv (own_pos p0), iv (own_pos p3), iv (p4 &&& (3 : Int32)), rv ob10, rv ob14, iv (((31 : Int32) * (own_pos p0)) + (own_pos p1)), iv (((31 : Int32) * (own_pos p0)) + (own_pos p1)), .unset] [(.ref ob14)])) t → Steps p.tables e below (T24.setTop (mkF m 107 #[iv p0, iv p1, iv p2, iv p3, iv p4, iv (own_pos p0), iv (own_pos p1), iv (own_pos p0), iv (own_pos p3), iv (p4 &&& (3 : Int32)), rv ob10, rv ob14, iv (((31 : Int32) * (own_pos p0)) + (own_pos p1)), .unset, .unset] [(.int (((31 : Int32) * (own_pos p0)) + (own_pos p1)))])) t := by
    intro t k
    refine XS.istore X24.here hx rfl (hb hby at_107) rfl (l' := #[iv p0, iv p1, iv p2, iv p3, iv p4, iv (own_pos p0), iv (own_pos p1), iv (own_pos p0), iv (own_pos p3), iv (p4 &&& (3 : Int32)), rv ob10, rv ob14, iv (((31 : Int32) * (own_pos p0)) + (own_pos p1)), iv (((31 : Int32) * (own_pos p0)) + (own_pos p1)), .unset]) rfl ?_
    show Steps p.tables e below (T24.setTop (mkF m 109 #[iv p0, iv p1, iv p2, iv p3, iv p4, iv (own_pos p0), iv (own_pos p1), iv (own_pos p0), iv (own_pos p3), iv (p4 &&& (3 : Int32)), rv ob10, rv ob14, iv (((31 : Int32) * (own_pos p0)) + (own_pos p1)), iv (((31 : Int32) * (own_pos p0)) + (own_pos p1)), .unset] [])) _
    refine XS.aload X24.here hx rfl (hb hby at_109) rfl rfl ?_
    show Steps p.tables e below (T24.setTop (mkF m 111 #[iv p0, iv p1, iv p2, iv p3, iv p4, iv (own_pos p0), iv (own_pos p1), iv (own_pos p0), iv (own_pos p3), iv (p4 &&& (3 : Int32)), rv ob10, rv ob14, iv (((31 : Int32) * (own_pos p0)) + (own_pos p1)), iv (((31 : Int32) * (own_pos p0)) + (own_pos p1)), .unset] [(.ref ob14)])) _
    exact k
  refine own_lift sg25 ?_
  show own_Go p.tables e below (T24.setTop (mkF m 111 #[iv p0, iv p1, iv p2, iv p3, iv p4, iv (own_pos p0), iv (own_pos p1), iv (own_pos p0), iv (own_pos p3), iv (p4 &&& (3 : Int32)), rv ob10, rv ob14, iv (((31 : Int32) * (own_pos p0)) + (own_pos p1)), iv (((31 : Int32) * (own_pos p0)) + (own_pos p1)), .unset] [(.ref ob14)])) _
  obtain ⟨cq26, kq26, q26a, q26b, q26c⟩ := isOf hZ e24 p17_1
  obtain ⟨_, _, ⟨T26, Lx26, kx26, nx26⟩, -, X26, ⟨Lc26, hQ26, lx26, yx26, zx26⟩, st26⟩ := X24.virtualBack hx (y := (⟨"com/example/allsome/allsome/cypher/InputPosition", "hashCode", "()I"⟩ : MethodName)) (z := (⟨"com/example/allsome/allsome/cypher/InputPosition", "hashCode", "()I"⟩ : MethodName)) hown (mvT hZ (wd hw 22 rfl)) (mvT hZ (wd hw 23 rfl)) (notFace_of_selects (args := #[]) (mvT hZ (wd hw 25 rfl))) (mvT hZ (wd hw 25 rfl)) (mvT hZ (wd hw 24 rfl)) (by decide) (backOf (W := 0) (rmHash l Z a0 hw [] ob14 (own_pos p0) (own_pos p3) T17.heap n0 Z17 p17_2 p17_3) hZ (wd hw 26 rfl) (wd hw 11 rfl) (by decide) (by decide)) q26a q26c (g := (mkF m 111 #[iv p0, iv p1, iv p2, iv p3, iv p4, iv (own_pos p0), iv (own_pos p1), iv (own_pos p0), iv (own_pos p3), iv (p4 &&& (3 : Int32)), rv ob10, rv ob14, iv (((31 : Int32) * (own_pos p0)) + (own_pos p1)), iv (((31 : Int32) * (own_pos p0)) + (own_pos p1)), .unset] [(.ref ob14)])) rfl (by rw [hml]; rfl) (Steps.refl _) (argsL := []) (rest := []) (lenOf pd_3 rfl) rfl (by show 2 * 0 + _ ≤ _; exact Nat.le_of_eq rfl) (hb hby at_111) (fun _ _ => ⟨rfl, e24, (by decide : 2 + 0 ≤ _), (by decide : 4 + 0 ≤ _)⟩)
  dsimp only [Pt.U, Pt.locs, Pt.cells, Pt.slots] at X26 lx26 yx26 zx26 st26 hQ26
  subst lx26 yx26 zx26
  obtain ⟨rfl, N26q, e26⟩ := hQ26
  have N26 := Fr.app N24 N26q
  refine own_lift (fun t k => st26.trans k) ?_
  show own_Go p.tables e below (T26.setTop (mkF m 114 #[iv p0, iv p1, iv p2, iv p3, iv p4, iv (own_pos p0), iv (own_pos p1), iv (own_pos p0), iv (own_pos p3), iv (p4 &&& (3 : Int32)), rv ob10, rv ob14, iv (((31 : Int32) * (own_pos p0)) + (own_pos p1)), iv (((31 : Int32) * (own_pos p0)) + (own_pos p1)), .unset] [(.int (((31 : Int32) * (own_pos p0)) + (own_pos p3)))])) _
  have sg27 : ∀ t, Steps p.tables e below (T26.setTop (mkF m 129 #[iv p0, iv p1, iv p2, iv p3, iv p4, iv (own_pos p0), iv (own_pos p1), iv (own_pos p0), iv (own_pos p3), iv (p4 &&& (3 : Int32)), rv ob10, rv ob14, iv (((31 : Int32) * (own_pos p0)) + (own_pos p1)), iv (((31 : Int32) * (own_pos p0)) + (own_pos p1)), iv (((31 : Int32) * (own_pos p0)) + (own_pos p3))] [(.ref ob14), (.ref ob10)])) t → Steps p.tables e below (T26.setTop (mkF m 114 #[iv p0, iv p1, iv p2, iv p3, iv p4, iv (own_pos p0), iv (own_pos p1), iv (own_pos p0), iv (own_pos p3), iv (p4 &&& (3 : Int32)), rv ob10, rv ob14, iv (((31 : Int32) * (own_pos p0)) + (own_pos p1)), iv (((31 : Int32) * (own_pos p0)) + (own_pos p1)), .unset] [(.int (((31 : Int32) * (own_pos p0)) + (own_pos p3)))])) t := by
    intro t k
    refine XS.istore X26.here hx rfl (hb hby at_114) rfl (l' := #[iv p0, iv p1, iv p2, iv p3, iv p4, iv (own_pos p0), iv (own_pos p1), iv (own_pos p0), iv (own_pos p3), iv (p4 &&& (3 : Int32)), rv ob10, rv ob14, iv (((31 : Int32) * (own_pos p0)) + (own_pos p1)), iv (((31 : Int32) * (own_pos p0)) + (own_pos p1)), iv (((31 : Int32) * (own_pos p0)) + (own_pos p3))]) rfl ?_
    show Steps p.tables e below (T26.setTop (mkF m 116 #[iv p0, iv p1, iv p2, iv p3, iv p4, iv (own_pos p0), iv (own_pos p1), iv (own_pos p0), iv (own_pos p3), iv (p4 &&& (3 : Int32)), rv ob10, rv ob14, iv (((31 : Int32) * (own_pos p0)) + (own_pos p1)), iv (((31 : Int32) * (own_pos p0)) + (own_pos p1)), iv (((31 : Int32) * (own_pos p0)) + (own_pos p3))] [])) _
    refine XS.iload X26.here hx rfl (hb hby at_116) rfl ?_
    show Steps p.tables e below (T26.setTop (mkF m 118 #[iv p0, iv p1, iv p2, iv p3, iv p4, iv (own_pos p0), iv (own_pos p1), iv (own_pos p0), iv (own_pos p3), iv (p4 &&& (3 : Int32)), rv ob10, rv ob14, iv (((31 : Int32) * (own_pos p0)) + (own_pos p1)), iv (((31 : Int32) * (own_pos p0)) + (own_pos p1)), iv (((31 : Int32) * (own_pos p0)) + (own_pos p3))] [(.int (((31 : Int32) * (own_pos p0)) + (own_pos p1)))])) _
    refine XS.iload X26.here hx rfl (hb hby at_118) rfl ?_
    show Steps p.tables e below (T26.setTop (mkF m 120 #[iv p0, iv p1, iv p2, iv p3, iv p4, iv (own_pos p0), iv (own_pos p1), iv (own_pos p0), iv (own_pos p3), iv (p4 &&& (3 : Int32)), rv ob10, rv ob14, iv (((31 : Int32) * (own_pos p0)) + (own_pos p1)), iv (((31 : Int32) * (own_pos p0)) + (own_pos p1)), iv (((31 : Int32) * (own_pos p0)) + (own_pos p3))] [(.int (((31 : Int32) * (own_pos p0)) + (own_pos p1))), (.int (((31 : Int32) * (own_pos p0)) + (own_pos p1)))])) _
    refine XS.icmpYes X26.here hx rfl (pc0 := 120) (pc' := 125) rfl (hb hby at_120) rfl (teq (rfl : (((31 : Int32) * (own_pos p0)) + (own_pos p1)) = (((31 : Int32) * (own_pos p0)) + (own_pos p1)))).1 (by decide) (by decide) ?_
    show Steps p.tables e below (T26.setTop (mkF m 125 #[iv p0, iv p1, iv p2, iv p3, iv p4, iv (own_pos p0), iv (own_pos p1), iv (own_pos p0), iv (own_pos p3), iv (p4 &&& (3 : Int32)), rv ob10, rv ob14, iv (((31 : Int32) * (own_pos p0)) + (own_pos p1)), iv (((31 : Int32) * (own_pos p0)) + (own_pos p1)), iv (((31 : Int32) * (own_pos p0)) + (own_pos p3))] [])) _
    refine XS.aload X26.here hx rfl (hb hby at_125) rfl rfl ?_
    show Steps p.tables e below (T26.setTop (mkF m 127 #[iv p0, iv p1, iv p2, iv p3, iv p4, iv (own_pos p0), iv (own_pos p1), iv (own_pos p0), iv (own_pos p3), iv (p4 &&& (3 : Int32)), rv ob10, rv ob14, iv (((31 : Int32) * (own_pos p0)) + (own_pos p1)), iv (((31 : Int32) * (own_pos p0)) + (own_pos p1)), iv (((31 : Int32) * (own_pos p0)) + (own_pos p3))] [(.ref ob10)])) _
    refine XS.aload X26.here hx rfl (hb hby at_127) rfl rfl ?_
    show Steps p.tables e below (T26.setTop (mkF m 129 #[iv p0, iv p1, iv p2, iv p3, iv p4, iv (own_pos p0), iv (own_pos p1), iv (own_pos p0), iv (own_pos p3), iv (p4 &&& (3 : Int32)), rv ob10, rv ob14, iv (((31 : Int32) * (own_pos p0)) + (own_pos p1)), iv (((31 : Int32) * (own_pos p0)) + (own_pos p1)), iv (((31 : Int32) * (own_pos p0)) + (own_pos p3))] [(.ref ob14), (.ref ob10)])) _
    exact k
  refine own_lift sg27 ?_
  show own_Go p.tables e below (T26.setTop (mkF m 129 #[iv p0, iv p1, iv p2, iv p3, iv p4, iv (own_pos p0), iv (own_pos p1), iv (own_pos p0), iv (own_pos p3), iv (p4 &&& (3 : Int32)), rv ob10, rv ob14, iv (((31 : Int32) * (own_pos p0)) + (own_pos p1)), iv (((31 : Int32) * (own_pos p0)) + (own_pos p1)), iv (((31 : Int32) * (own_pos p0)) + (own_pos p3))] [(.ref ob14), (.ref ob10)])) _
  obtain ⟨cq28, kq28, q28a, q28b, q28c⟩ := isOf hZ e26 Fc22
  obtain ⟨_, _, ⟨T28, Lx28, kx28, nx28⟩, -, X28, ⟨Lc28, hQ28, lx28, yx28, zx28⟩, st28⟩ := X26.virtualBack hx (y := (⟨"com/example/allsome/allsome/cypher/InputPosition", "equals", "(Ljava/lang/Object;)Z"⟩ : MethodName)) (z := (⟨"com/example/allsome/allsome/cypher/InputPosition", "equals", "(Ljava/lang/Object;)Z"⟩ : MethodName)) hown (mvT hZ (wd hw 27 rfl)) (mvT hZ (wd hw 28 rfl)) (notFace_of_selects (args := #[]) (mvT hZ (wd hw 30 rfl))) (mvT hZ (wd hw 30 rfl)) (mvT hZ (wd hw 29 rfl)) (by decide) (backOf (W := 0) (rmEqY l Z a0 hw [] ob10 ob14 (own_pos p0) (own_pos p1) (own_pos p0) (own_pos p3) T17.heap n0 Z17 Fc19 Fc20 p17_2 p17_3 p17_1 (rfl : (own_pos p0) = (own_pos p0)) hc) hZ (wd hw 31 rfl) (wd hw 11 rfl) (by decide) (by decide)) q28a q28c (g := (mkF m 129 #[iv p0, iv p1, iv p2, iv p3, iv p4, iv (own_pos p0), iv (own_pos p1), iv (own_pos p0), iv (own_pos p3), iv (p4 &&& (3 : Int32)), rv ob10, rv ob14, iv (((31 : Int32) * (own_pos p0)) + (own_pos p1)), iv (((31 : Int32) * (own_pos p0)) + (own_pos p1)), iv (((31 : Int32) * (own_pos p0)) + (own_pos p3))] [(.ref ob14), (.ref ob10)])) rfl (by rw [hml]; rfl) (Steps.refl _) (argsL := [(.ref ob14)]) (rest := []) (lenOf pd_4 rfl) rfl (by show 2 * 0 + _ ≤ _; exact Nat.le_of_eq rfl) (hb hby at_129) (fun _ _ => ⟨rfl, e26, (by decide : 2 + 0 ≤ _), (by decide : 4 + 0 ≤ _)⟩)
  dsimp only [Pt.U, Pt.locs, Pt.cells, Pt.slots] at X28 lx28 yx28 zx28 st28 hQ28
  subst lx28 yx28 zx28
  obtain ⟨rfl, N28q, e28⟩ := hQ28
  have N28 := Fr.app N26 N28q
  refine own_lift (fun t k => st28.trans k) ?_
  show own_Go p.tables e below (T28.setTop (mkF m 132 #[iv p0, iv p1, iv p2, iv p3, iv p4, iv (own_pos p0), iv (own_pos p1), iv (own_pos p0), iv (own_pos p3), iv (p4 &&& (3 : Int32)), rv ob10, rv ob14, iv (((31 : Int32) * (own_pos p0)) + (own_pos p1)), iv (((31 : Int32) * (own_pos p0)) + (own_pos p1)), iv (((31 : Int32) * (own_pos p0)) + (own_pos p3))] [(.int 1)])) _
  have sg29 : ∀ t, Steps p.tables e below (T28.setTop (mkF m 145 #[iv p0, iv p1, iv p2, iv p3, iv p4, iv (own_pos p0), iv (own_pos p1), iv (own_pos p0), iv (own_pos p3), iv (p4 &&& (3 : Int32)), rv ob10, rv ob14, iv (((31 : Int32) * (own_pos p0)) + (own_pos p1)), iv (((31 : Int32) * (own_pos p0)) + (own_pos p1)), iv (((31 : Int32) * (own_pos p0)) + (own_pos p3))] [(.int 1)])) t → Steps p.tables e below (T28.setTop (mkF m 132 #[iv p0, iv p1, iv p2, iv p3, iv p4, iv (own_pos p0), iv (own_pos p1), iv (own_pos p0), iv (own_pos p3), iv (p4 &&& (3 : Int32)), rv ob10, rv ob14, iv (((31 : Int32) * (own_pos p0)) + (own_pos p1)), iv (((31 : Int32) * (own_pos p0)) + (own_pos p1)), iv (((31 : Int32) * (own_pos p0)) + (own_pos p3))] [(.int 1)])) t := by
    intro t k
    refine XS.ifNo X28.here hx rfl (hb hby at_132) rfl ((if0 _ _).trans (feq (by decide : ¬ ((1 : Int32) = (0 : Int32)))).1) ?_
    show Steps p.tables e below (T28.setTop (mkF m 135 #[iv p0, iv p1, iv p2, iv p3, iv p4, iv (own_pos p0), iv (own_pos p1), iv (own_pos p0), iv (own_pos p3), iv (p4 &&& (3 : Int32)), rv ob10, rv ob14, iv (((31 : Int32) * (own_pos p0)) + (own_pos p1)), iv (((31 : Int32) * (own_pos p0)) + (own_pos p1)), iv (((31 : Int32) * (own_pos p0)) + (own_pos p3))] [])) _
    refine XS.iload X28.here hx rfl (hb hby at_135) rfl ?_
    show Steps p.tables e below (T28.setTop (mkF m 137 #[iv p0, iv p1, iv p2, iv p3, iv p4, iv (own_pos p0), iv (own_pos p1), iv (own_pos p0), iv (own_pos p3), iv (p4 &&& (3 : Int32)), rv ob10, rv ob14, iv (((31 : Int32) * (own_pos p0)) + (own_pos p1)), iv (((31 : Int32) * (own_pos p0)) + (own_pos p1)), iv (((31 : Int32) * (own_pos p0)) + (own_pos p3))] [(.int (((31 : Int32) * (own_pos p0)) + (own_pos p1)))])) _
    refine XS.iload X28.here hx rfl (hb hby at_137) rfl ?_
    show Steps p.tables e below (T28.setTop (mkF m 139 #[iv p0, iv p1, iv p2, iv p3, iv p4, iv (own_pos p0), iv (own_pos p1), iv (own_pos p0), iv (own_pos p3), iv (p4 &&& (3 : Int32)), rv ob10, rv ob14, iv (((31 : Int32) * (own_pos p0)) + (own_pos p1)), iv (((31 : Int32) * (own_pos p0)) + (own_pos p1)), iv (((31 : Int32) * (own_pos p0)) + (own_pos p3))] [(.int (((31 : Int32) * (own_pos p0)) + (own_pos p3))), (.int (((31 : Int32) * (own_pos p0)) + (own_pos p1)))])) _
    refine XS.icmpYes X28.here hx rfl (pc0 := 139) (pc' := 144) rfl (hb hby at_139) rfl (teq (show (((31 : Int32) * (own_pos p0)) + (own_pos p1)) = (((31 : Int32) * (own_pos p0)) + (own_pos p3)) by rw [hc])).1 (by decide) (by decide) ?_
    show Steps p.tables e below (T28.setTop (mkF m 144 #[iv p0, iv p1, iv p2, iv p3, iv p4, iv (own_pos p0), iv (own_pos p1), iv (own_pos p0), iv (own_pos p3), iv (p4 &&& (3 : Int32)), rv ob10, rv ob14, iv (((31 : Int32) * (own_pos p0)) + (own_pos p1)), iv (((31 : Int32) * (own_pos p0)) + (own_pos p1)), iv (((31 : Int32) * (own_pos p0)) + (own_pos p3))] [])) _
    refine XS.iconst X28.here hx rfl (hb hby at_144) ?_
    show Steps p.tables e below (T28.setTop (mkF m 145 #[iv p0, iv p1, iv p2, iv p3, iv p4, iv (own_pos p0), iv (own_pos p1), iv (own_pos p0), iv (own_pos p3), iv (p4 &&& (3 : Int32)), rv ob10, rv ob14, iv (((31 : Int32) * (own_pos p0)) + (own_pos p1)), iv (((31 : Int32) * (own_pos p0)) + (own_pos p1)), iv (((31 : Int32) * (own_pos p0)) + (own_pos p3))] [(.int 1)])) _
    exact k
  refine own_lift sg29 ?_
  show own_Go p.tables e below (T28.setTop (mkF m 145 #[iv p0, iv p1, iv p2, iv p3, iv p4, iv (own_pos p0), iv (own_pos p1), iv (own_pos p0), iv (own_pos p3), iv (p4 &&& (3 : Int32)), rv ob10, rv ob14, iv (((31 : Int32) * (own_pos p0)) + (own_pos p1)), iv (((31 : Int32) * (own_pos p0)) + (own_pos p1)), iv (((31 : Int32) * (own_pos p0)) + (own_pos p3))] [(.int 1)])) _
  obtain ⟨fs, hr, hrun, hended, hW, hsame⟩ := X28.leave (v := some (.int 1)) (fun h => by rw [Bd.returns] at h; cases h)
  refine ⟨_, _, ?_, hrun, hended, _, _, rfl, ?_, ⟨_, rfl⟩, hW, hsame.mono (by decide) (by decide)⟩
  · exact retN X28 hx (t := .boolean) Bd.returns (by simp) (hb hby at_145) hr
  · show Q0 Z  h0 n0 _ T28.heap _
    rw [e28]
    exact ⟨rfl, N28⟩
theorem ef_rm0_1n (m : MethodId) (x0 : Int32) (x1 : Int32) (x2 : Int32) (x3 : Int32) (x4 : Int32) : entryFrame m #[(.int x0), (.int x1), (.int x2), (.int x3), (.int x4)] maxLocals = mkF m 0 #[.val (.int x0), .val (.int x1), .val (.int x2), .val (.int x3), .val (.int x4), .unset, .unset, .unset, .unset, .unset, .unset, .unset, .unset, .unset, .unset] [] := by first | (simp [entryFrame, mkF, argsToLocals, Value.category, maxLocals]; done) | rfl
set_option maxRecDepth 65536 in
set_option maxHeartbeats 40000000 in
theorem rm0_1n (l : Launch) (Z : State) (a0 : Array Value) (hw : ∀ d ∈ tables_1, d.before a0 Z = true) (ws : List Jvm.Cond) (p0 : Int32) (p1 : Int32) (p2 : Int32) (p3 : Int32) (p4 : Int32) (h0 : Heap) (n0 : Nat) (Z0 : n0 ≤ h0.size)  (m0 : ¬ ((p4 &&& (3 : Int32)) = (0 : Int32))) (m1 : (p4 &&& (3 : Int32)) = (1 : Int32)) (hc : ¬ ((own_pos p1) = (own_pos p3))) :
    MetFree l x (head1 (Jvm.Cond.code x code maxLocals ret :: ws) room_1) (fun a U => a = #[(.int p0), (.int p1), (.int p2), (.int p3), (.int p4)] ∧ Z.Warmed39 U.vm ∧ U.heap = h0) (fun _ _ _ _ _ => True) (fun _ U o U' => ∃ v L, o = .returned v ∧ Q0 Z  h0 n0 v U'.heap L ∧ FrameEnd U o U' L 16 128) := by
  refine MetFree.of_bodySF (plainFor_of_name pn_1) hisR ?_
  intro p e s m args below meth c s₁ Bd hml0 hP hK
  obtain ⟨rfl, hZ, hh⟩ := hP
  have hx := Bd.exec
  have hby := Bd.bytes
  have hml : c.maxLocals = 15 := hml0
  have hown : s.vm.findClass "com/example/allsome/allsome/cypher/InputPositionHashCodePinLaw" = some m.cls := findClass_of_methodNamed Bd.named
  have hnm := (name_of_methodNamed Bd.named Bd.method).1
  have X0 : Stand p l e room_1 s m #[(.int p0), (.int p1), (.int p2), (.int p3), (.int p4)] below meth c s₁ [] 0 0 := Stand.of_body Bd
  have e0 : s₁.heap = h0 := by rw [← hh, Bd.state]; rfl
  have N0 := Fr.nil n0
  refine own_go (own_lift (fun t k => castTop (ef_rm0_1n m p0 p1 p2 p3 p4) k) ?_)
  show own_Go p.tables e below (s₁.setTop (mkF m 0 #[iv p0, iv p1, iv p2, iv p3, iv p4, .unset, .unset, .unset, .unset, .unset, .unset, .unset, .unset, .unset, .unset] [])) _
  have sg1 : ∀ t, Steps p.tables e below (s₁.setTop (mkF m 1 #[iv p0, iv p1, iv p2, iv p3, iv p4, .unset, .unset, .unset, .unset, .unset, .unset, .unset, .unset, .unset, .unset] [(.int p0)])) t → Steps p.tables e below (s₁.setTop (mkF m 0 #[iv p0, iv p1, iv p2, iv p3, iv p4, .unset, .unset, .unset, .unset, .unset, .unset, .unset, .unset, .unset, .unset] [])) t := by
    intro t k
    refine XS.iloadN X0.here hx rfl (hb hby at_0) rfl ?_
    show Steps p.tables e below (s₁.setTop (mkF m 1 #[iv p0, iv p1, iv p2, iv p3, iv p4, .unset, .unset, .unset, .unset, .unset, .unset, .unset, .unset, .unset, .unset] [(.int p0)])) _
    exact k
  refine own_lift sg1 ?_
  show own_Go p.tables e below (s₁.setTop (mkF m 1 #[iv p0, iv p1, iv p2, iv p3, iv p4, .unset, .unset, .unset, .unset, .unset, .unset, .unset, .unset, .unset, .unset] [(.int p0)])) _
  obtain ⟨_, _, ⟨T2, Lx2, kx2, nx2⟩, -, X2, ⟨Lc2, hQ2, lx2, yx2, zx2⟩, st2⟩ := Jvm.LawKit.callS X0 hx (y := (⟨"com/example/allsome/allsome/cypher/InputPositionHashCodePinLaw", "pos", "(I)I"⟩ : MethodName)) hown (mvT hZ (wd hw 0 rfl)) (mvT hZ (wd hw 1 rfl)) (mvT hZ (wd hw 2 rfl)) (mvT hZ (wd hw 3 rfl)) (by decide) (backOf (W := 0) (rmPos l Z a0 hw [] p0 h0 n0 Z0 ) hZ (wd hw 3 rfl) (wd hw 2 rfl) (by decide) (by decide)) (g := (mkF m 1 #[iv p0, iv p1, iv p2, iv p3, iv p4, .unset, .unset, .unset, .unset, .unset, .unset, .unset, .unset, .unset, .unset] [(.int p0)])) rfl (by rw [hml]; rfl) (argsL := [(.int p0)]) (rest := []) (lenOf pd_1 rfl) rfl (by show 2 * 0 + _ ≤ _; exact Nat.le_of_eq rfl) (hb hby at_1) (fun _ _ => ⟨rfl, e0, (by decide : 0 + 0 ≤ _), (by decide : 0 + 0 ≤ _)⟩)
  dsimp only [Pt.U, Pt.locs, Pt.cells, Pt.slots] at X2 lx2 yx2 zx2 st2 hQ2
  subst lx2 yx2 zx2
  obtain ⟨rfl, N2q, e2⟩ := hQ2
  have N2 := Fr.app N0 N2q
  refine own_lift st2 ?_
  show own_Go p.tables e below (T2.setTop (mkF m 4 #[iv p0, iv p1, iv p2, iv p3, iv p4, .unset, .unset, .unset, .unset, .unset, .unset, .unset, .unset, .unset, .unset] [(.int (own_pos p0))])) _
  have sg3 : ∀ t, Steps p.tables e below (T2.setTop (mkF m 7 #[iv p0, iv p1, iv p2, iv p3, iv p4, iv (own_pos p0), .unset, .unset, .unset, .unset, .unset, .unset, .unset, .unset, .unset] [(.int p1)])) t → Steps p.tables e below (T2.setTop (mkF m 4 #[iv p0, iv p1, iv p2, iv p3, iv p4, .unset, .unset, .unset, .unset, .unset, .unset, .unset, .unset, .unset, .unset] [(.int (own_pos p0))])) t := by
    intro t k
    refine XS.istore X2.here hx rfl (hb hby at_4) rfl (l' := #[iv p0, iv p1, iv p2, iv p3, iv p4, iv (own_pos p0), .unset, .unset, .unset, .unset, .unset, .unset, .unset, .unset, .unset]) rfl ?_
    show Steps p.tables e below (T2.setTop (mkF m 6 #[iv p0, iv p1, iv p2, iv p3, iv p4, iv (own_pos p0), .unset, .unset, .unset, .unset, .unset, .unset, .unset, .unset, .unset] [])) _
    refine XS.iloadN X2.here hx rfl (hb hby at_6) rfl ?_
    show Steps p.tables e below (T2.setTop (mkF m 7 #[iv p0, iv p1, iv p2, iv p3, iv p4, iv (own_pos p0), .unset, .unset, .unset, .unset, .unset, .unset, .unset, .unset, .unset] [(.int p1)])) _
    exact k
  refine own_lift sg3 ?_
  show own_Go p.tables e below (T2.setTop (mkF m 7 #[iv p0, iv p1, iv p2, iv p3, iv p4, iv (own_pos p0), .unset, .unset, .unset, .unset, .unset, .unset, .unset, .unset, .unset] [(.int p1)])) _
  obtain ⟨_, _, ⟨T4, Lx4, kx4, nx4⟩, -, X4, ⟨Lc4, hQ4, lx4, yx4, zx4⟩, st4⟩ := Jvm.LawKit.callS X2 hx (y := (⟨"com/example/allsome/allsome/cypher/InputPositionHashCodePinLaw", "pos", "(I)I"⟩ : MethodName)) hown (mvT hZ (wd hw 0 rfl)) (mvT hZ (wd hw 1 rfl)) (mvT hZ (wd hw 2 rfl)) (mvT hZ (wd hw 3 rfl)) (by decide) (backOf (W := 0) (rmPos l Z a0 hw [] p1 h0 n0 Z0 ) hZ (wd hw 3 rfl) (wd hw 2 rfl) (by decide) (by decide)) (g := (mkF m 7 #[iv p0, iv p1, iv p2, iv p3, iv p4, iv (own_pos p0), .unset, .unset, .unset, .unset, .unset, .unset, .unset, .unset, .unset] [(.int p1)])) rfl (by rw [hml]; rfl) (argsL := [(.int p1)]) (rest := []) (lenOf pd_1 rfl) rfl (by show 2 * 0 + _ ≤ _; exact Nat.le_of_eq rfl) (hb hby at_7) (fun _ _ => ⟨rfl, e2, (by decide : 0 + 0 ≤ _), (by decide : 0 + 0 ≤ _)⟩)
  dsimp only [Pt.U, Pt.locs, Pt.cells, Pt.slots] at X4 lx4 yx4 zx4 st4 hQ4
  subst lx4 yx4 zx4
  obtain ⟨rfl, N4q, e4⟩ := hQ4
  have N4 := Fr.app N2 N4q
  refine own_lift st4 ?_
  show own_Go p.tables e below (T4.setTop (mkF m 10 #[iv p0, iv p1, iv p2, iv p3, iv p4, iv (own_pos p0), .unset, .unset, .unset, .unset, .unset, .unset, .unset, .unset, .unset] [(.int (own_pos p1))])) _
  have sg5 : ∀ t, Steps p.tables e below (T4.setTop (mkF m 13 #[iv p0, iv p1, iv p2, iv p3, iv p4, iv (own_pos p0), iv (own_pos p1), .unset, .unset, .unset, .unset, .unset, .unset, .unset, .unset] [(.int p2)])) t → Steps p.tables e below (T4.setTop (mkF m 10 #[iv p0, iv p1, iv p2, iv p3, iv p4, iv (own_pos p0), .unset, .unset, .unset, .unset, .unset, .unset, .unset, .unset, .unset] [(.int (own_pos p1))])) t := by
    intro t k
    refine XS.istore X4.here hx rfl (hb hby at_10) rfl (l' := #[iv p0, iv p1, iv p2, iv p3, iv p4, iv (own_pos p0), iv (own_pos p1), .unset, .unset, .unset, .unset, .unset, .unset, .unset, .unset]) rfl ?_
    show Steps p.tables e below (T4.setTop (mkF m 12 #[iv p0, iv p1, iv p2, iv p3, iv p4, iv (own_pos p0), iv (own_pos p1), .unset, .unset, .unset, .unset, .unset, .unset, .unset, .unset] [])) _
    refine XS.iloadN X4.here hx rfl (hb hby at_12) rfl ?_
    show Steps p.tables e below (T4.setTop (mkF m 13 #[iv p0, iv p1, iv p2, iv p3, iv p4, iv (own_pos p0), iv (own_pos p1), .unset, .unset, .unset, .unset, .unset, .unset, .unset, .unset] [(.int p2)])) _
    exact k
  refine own_lift sg5 ?_
  show own_Go p.tables e below (T4.setTop (mkF m 13 #[iv p0, iv p1, iv p2, iv p3, iv p4, iv (own_pos p0), iv (own_pos p1), .unset, .unset, .unset, .unset, .unset, .unset, .unset, .unset] [(.int p2)])) _
  obtain ⟨_, _, ⟨T6, Lx6, kx6, nx6⟩, -, X6, ⟨Lc6, hQ6, lx6, yx6, zx6⟩, st6⟩ := Jvm.LawKit.callS X4 hx (y := (⟨"com/example/allsome/allsome/cypher/InputPositionHashCodePinLaw", "pos", "(I)I"⟩ : MethodName)) hown (mvT hZ (wd hw 0 rfl)) (mvT hZ (wd hw 1 rfl)) (mvT hZ (wd hw 2 rfl)) (mvT hZ (wd hw 3 rfl)) (by decide) (backOf (W := 0) (rmPos l Z a0 hw [] p2 h0 n0 Z0 ) hZ (wd hw 3 rfl) (wd hw 2 rfl) (by decide) (by decide)) (g := (mkF m 13 #[iv p0, iv p1, iv p2, iv p3, iv p4, iv (own_pos p0), iv (own_pos p1), .unset, .unset, .unset, .unset, .unset, .unset, .unset, .unset] [(.int p2)])) rfl (by rw [hml]; rfl) (argsL := [(.int p2)]) (rest := []) (lenOf pd_1 rfl) rfl (by show 2 * 0 + _ ≤ _; exact Nat.le_of_eq rfl) (hb hby at_13) (fun _ _ => ⟨rfl, e4, (by decide : 0 + 0 ≤ _), (by decide : 0 + 0 ≤ _)⟩)
  dsimp only [Pt.U, Pt.locs, Pt.cells, Pt.slots] at X6 lx6 yx6 zx6 st6 hQ6
  subst lx6 yx6 zx6
  obtain ⟨rfl, N6q, e6⟩ := hQ6
  have N6 := Fr.app N4 N6q
  refine own_lift st6 ?_
  show own_Go p.tables e below (T6.setTop (mkF m 16 #[iv p0, iv p1, iv p2, iv p3, iv p4, iv (own_pos p0), iv (own_pos p1), .unset, .unset, .unset, .unset, .unset, .unset, .unset, .unset] [(.int (own_pos p2))])) _
  have sg7 : ∀ t, Steps p.tables e below (T6.setTop (mkF m 19 #[iv p0, iv p1, iv p2, iv p3, iv p4, iv (own_pos p0), iv (own_pos p1), iv (own_pos p2), .unset, .unset, .unset, .unset, .unset, .unset, .unset] [(.int p3)])) t → Steps p.tables e below (T6.setTop (mkF m 16 #[iv p0, iv p1, iv p2, iv p3, iv p4, iv (own_pos p0), iv (own_pos p1), .unset, .unset, .unset, .unset, .unset, .unset, .unset, .unset] [(.int (own_pos p2))])) t := by
    intro t k
    refine XS.istore X6.here hx rfl (hb hby at_16) rfl (l' := #[iv p0, iv p1, iv p2, iv p3, iv p4, iv (own_pos p0), iv (own_pos p1), iv (own_pos p2), .unset, .unset, .unset, .unset, .unset, .unset, .unset]) rfl ?_
    show Steps p.tables e below (T6.setTop (mkF m 18 #[iv p0, iv p1, iv p2, iv p3, iv p4, iv (own_pos p0), iv (own_pos p1), iv (own_pos p2), .unset, .unset, .unset, .unset, .unset, .unset, .unset] [])) _
    refine XS.iloadN X6.here hx rfl (hb hby at_18) rfl ?_
    show Steps p.tables e below (T6.setTop (mkF m 19 #[iv p0, iv p1, iv p2, iv p3, iv p4, iv (own_pos p0), iv (own_pos p1), iv (own_pos p2), .unset, .unset, .unset, .unset, .unset, .unset, .unset] [(.int p3)])) _
    exact k
  refine own_lift sg7 ?_
  show own_Go p.tables e below (T6.setTop (mkF m 19 #[iv p0, iv p1, iv p2, iv p3, iv p4, iv (own_pos p0), iv (own_pos p1), iv (own_pos p2), .unset, .unset, .unset, .unset, .unset, .unset, .unset] [(.int p3)])) _
  obtain ⟨_, _, ⟨T8, Lx8, kx8, nx8⟩, -, X8, ⟨Lc8, hQ8, lx8, yx8, zx8⟩, st8⟩ := Jvm.LawKit.callS X6 hx (y := (⟨"com/example/allsome/allsome/cypher/InputPositionHashCodePinLaw", "pos", "(I)I"⟩ : MethodName)) hown (mvT hZ (wd hw 0 rfl)) (mvT hZ (wd hw 1 rfl)) (mvT hZ (wd hw 2 rfl)) (mvT hZ (wd hw 3 rfl)) (by decide) (backOf (W := 0) (rmPos l Z a0 hw [] p3 h0 n0 Z0 ) hZ (wd hw 3 rfl) (wd hw 2 rfl) (by decide) (by decide)) (g := (mkF m 19 #[iv p0, iv p1, iv p2, iv p3, iv p4, iv (own_pos p0), iv (own_pos p1), iv (own_pos p2), .unset, .unset, .unset, .unset, .unset, .unset, .unset] [(.int p3)])) rfl (by rw [hml]; rfl) (argsL := [(.int p3)]) (rest := []) (lenOf pd_1 rfl) rfl (by show 2 * 0 + _ ≤ _; exact Nat.le_of_eq rfl) (hb hby at_19) (fun _ _ => ⟨rfl, e6, (by decide : 0 + 0 ≤ _), (by decide : 0 + 0 ≤ _)⟩)
  dsimp only [Pt.U, Pt.locs, Pt.cells, Pt.slots] at X8 lx8 yx8 zx8 st8 hQ8
  subst lx8 yx8 zx8
  obtain ⟨rfl, N8q, e8⟩ := hQ8
  have N8 := Fr.app N6 N8q
  refine own_lift st8 ?_
  show own_Go p.tables e below (T8.setTop (mkF m 22 #[iv p0, iv p1, iv p2, iv p3, iv p4, iv (own_pos p0), iv (own_pos p1), iv (own_pos p2), .unset, .unset, .unset, .unset, .unset, .unset, .unset] [(.int (own_pos p3))])) _
  have sg9 : ∀ t, Steps p.tables e below (T8.setTop (mkF m 69 #[iv p0, iv p1, iv p2, iv p3, iv p4, iv (own_pos p0), iv (own_pos p1), iv (own_pos p0), iv (own_pos p3), iv (p4 &&& (3 : Int32)), .unset, .unset, .unset, .unset, .unset] [])) t → Steps p.tables e below (T8.setTop (mkF m 22 #[iv p0, iv p1, iv p2, iv p3, iv p4, iv (own_pos p0), iv (own_pos p1), iv (own_pos p2), .unset, .unset, .unset, .unset, .unset, .unset, .unset] [(.int (own_pos p3))])) t := by
    intro t k
    refine XS.istore X8.here hx rfl (hb hby at_22) rfl (l' := #[iv p0, iv p1, iv p2, iv p3, iv p4, iv (own_pos p0), iv (own_pos p1), iv (own_pos p2), iv (own_pos p3), .unset, .unset, .unset, .unset, .unset, .unset]) rfl ?_
    show Steps p.tables e below (T8.setTop (mkF m 24 #[iv p0, iv p1, iv p2, iv p3, iv p4, iv (own_pos p0), iv (own_pos p1), iv (own_pos p2), iv (own_pos p3), .unset, .unset, .unset, .unset, .unset, .unset] [])) _
    refine XS.iload X8.here hx rfl (hb hby at_24) rfl ?_
    show Steps p.tables e below (T8.setTop (mkF m 26 #[iv p0, iv p1, iv p2, iv p3, iv p4, iv (own_pos p0), iv (own_pos p1), iv (own_pos p2), iv (own_pos p3), .unset, .unset, .unset, .unset, .unset, .unset] [(.int p4)])) _
    refine XS.iconst X8.here hx rfl (hb hby at_26) ?_
    show Steps p.tables e below (T8.setTop (mkF m 27 #[iv p0, iv p1, iv p2, iv p3, iv p4, iv (own_pos p0), iv (own_pos p1), iv (own_pos p2), iv (own_pos p3), .unset, .unset, .unset, .unset, .unset, .unset] [(.int 3), (.int p4)])) _
    refine XS.iand X8.here hx rfl (hb hby at_27) rfl ?_
    show Steps p.tables e below (T8.setTop (mkF m 28 #[iv p0, iv p1, iv p2, iv p3, iv p4, iv (own_pos p0), iv (own_pos p1), iv (own_pos p2), iv (own_pos p3), .unset, .unset, .unset, .unset, .unset, .unset] [(.int (p4 &&& (3 : Int32)))])) _
    refine XS.istore X8.here hx rfl (hb hby at_28) rfl (l' := #[iv p0, iv p1, iv p2, iv p3, iv p4, iv (own_pos p0), iv (own_pos p1), iv (own_pos p2), iv (own_pos p3), iv (p4 &&& (3 : Int32)), .unset, .unset, .unset, .unset, .unset]) rfl ?_
    show Steps p.tables e below (T8.setTop (mkF m 30 #[iv p0, iv p1, iv p2, iv p3, iv p4, iv (own_pos p0), iv (own_pos p1), iv (own_pos p2), iv (own_pos p3), iv (p4 &&& (3 : Int32)), .unset, .unset, .unset, .unset, .unset] [])) _
    refine XS.iload X8.here hx rfl (hb hby at_30) rfl ?_
    show Steps p.tables e below (T8.setTop (mkF m 32 #[iv p0, iv p1, iv p2, iv p3, iv p4, iv (own_pos p0), iv (own_pos p1), iv (own_pos p2), iv (own_pos p3), iv (p4 &&& (3 : Int32)), .unset, .unset, .unset, .unset, .unset] [(.int (p4 &&& (3 : Int32)))])) _
    refine XS.ifYes X8.here hx rfl (pc0 := 32) (pc' := 46) rfl (hb hby at_32) rfl ((if0 _ _).trans (feq m0).2) (by decide) (by decide) ?_
    show Steps p.tables e below (T8.setTop (mkF m 46 #[iv p0, iv p1, iv p2, iv p3, iv p4, iv (own_pos p0), iv (own_pos p1), iv (own_pos p2), iv (own_pos p3), iv (p4 &&& (3 : Int32)), .unset, .unset, .unset, .unset, .unset] [])) _
    refine XS.iload X8.here hx rfl (hb hby at_46) rfl ?_
    show Steps p.tables e below (T8.setTop (mkF m 48 #[iv p0, iv p1, iv p2, iv p3, iv p4, iv (own_pos p0), iv (own_pos p1), iv (own_pos p2), iv (own_pos p3), iv (p4 &&& (3 : Int32)), .unset, .unset, .unset, .unset, .unset] [(.int (p4 &&& (3 : Int32)))])) _
    refine XS.iconst X8.here hx rfl (hb hby at_48) ?_
    show Steps p.tables e below (T8.setTop (mkF m 49 #[iv p0, iv p1, iv p2, iv p3, iv p4, iv (own_pos p0), iv (own_pos p1), iv (own_pos p2), iv (own_pos p3), iv (p4 &&& (3 : Int32)), .unset, .unset, .unset, .unset, .unset] [(.int 1), (.int (p4 &&& (3 : Int32)))])) _
    refine XS.icmpNo X8.here hx rfl (hb hby at_49) rfl (teq m1).2 ?_
    show Steps p.tables e below (T8.setTop (mkF m 52 #[iv p0, iv p1, iv p2, iv p3, iv p4, iv (own_pos p0), iv (own_pos p1), iv (own_pos p2), iv (own_pos p3), iv (p4 &&& (3 : Int32)), .unset, .unset, .unset, .unset, .unset] [])) _
    refine XS.iload X8.here hx rfl (hb hby at_52) rfl ?_
    show Steps p.tables e below (T8.setTop (mkF m 54 #[iv p0, iv p1, iv p2, iv p3, iv p4, iv (own_pos p0), iv (own_pos p1), iv (own_pos p2), iv (own_pos p3), iv (p4 &&& (3 : Int32)), .unset, .unset, .unset, .unset, .unset] [(.int (own_pos p0))])) _
    refine XS.istore X8.here hx rfl (hb hby at_54) rfl (l' := #[iv p0, iv p1, iv p2, iv p3, iv p4, iv (own_pos p0), iv (own_pos p1), iv (own_pos p0), iv (own_pos p3), iv (p4 &&& (3 : Int32)), .unset, .unset, .unset, .unset, .unset]) rfl ?_
    show Steps p.tables e below (T8.setTop (mkF m 56 #[iv p0, iv p1, iv p2, iv p3, iv p4, iv (own_pos p0), iv (own_pos p1), iv (own_pos p0), iv (own_pos p3), iv (p4 &&& (3 : Int32)), .unset, .unset, .unset, .unset, .unset] [])) _
    refine XS.goto X8.here hx rfl (pc0 := 56) (pc' := 69) rfl (hb hby at_56) (by decide) (by decide) ?_
    show Steps p.tables e below (T8.setTop (mkF m 69 #[iv p0, iv p1, iv p2, iv p3, iv p4, iv (own_pos p0), iv (own_pos p1), iv (own_pos p0), iv (own_pos p3), iv (p4 &&& (3 : Int32)), .unset, .unset, .unset, .unset, .unset] [])) _
    exact k
  refine own_lift sg9 ?_
  show own_Go p.tables e below (T8.setTop (mkF m 69 #[iv p0, iv p1, iv p2, iv p3, iv p4, iv (own_pos p0), iv (own_pos p1), iv (own_pos p0), iv (own_pos p3), iv (p4 &&& (3 : Int32)), .unset, .unset, .unset, .unset, .unset] [])) _
  obtain ⟨T10, h10, X10, e10, Ex10, Ax10, Dx10, Ux10, st10⟩ := newO X8 hx hZ hown (wd hw 9 rfl) (wd hw 10 rfl) (wd hw 11 rfl) e8 (g := (mkF m 69 #[iv p0, iv p1, iv p2, iv p3, iv p4, iv (own_pos p0), iv (own_pos p1), iv (own_pos p0), iv (own_pos p3), iv (p4 &&& (3 : Int32)), .unset, .unset, .unset, .unset, .unset] [])) rfl (hb hby at_69) (by decide) (by decide)
  obtain ⟨ob10, g10⟩ : ∃ z, z = h0.size := ⟨_, rfl⟩
  rw [← g10] at Ax10 Dx10 Ux10 st10
  have Z10 : n0 ≤ h10.size := Nat.le_trans Z0 Ex10.1
  have ge10 : n0 ≤ ob10 := Nat.le_trans Z0 (Nat.le_of_eq g10.symm)
  have Fn10_19 : Fld Z h10 ob10 "com/example/allsome/allsome/cypher/InputPosition" "line" "I" (.int 0) := Dx10 (Or.inr (wd hw 19 rfl)) (ty := .int) (by decide)
  have Fn10_21 : Fld Z h10 ob10 "com/example/allsome/allsome/cypher/InputPosition" "column" "I" (.int 0) := Dx10 (Or.inr (wd hw 21 rfl)) (ty := .int) (by decide)
  refine own_lift st10 ?_
  show own_Go p.tables e below (T10.setTop (mkF m 72 #[iv p0, iv p1, iv p2, iv p3, iv p4, iv (own_pos p0), iv (own_pos p1), iv (own_pos p0), iv (own_pos p3), iv (p4 &&& (3 : Int32)), .unset, .unset, .unset, .unset, .unset] [(.ref ob10)])) _
  have sg11 : ∀ t, Steps p.tables e below (T10.setTop (mkF m 77 #[iv p0, iv p1, iv p2, iv p3, iv p4, iv (own_pos p0), iv (own_pos p1), iv (own_pos p0), iv (own_pos p3), iv (p4 &&& (3 : Int32)), .unset, .unset, .unset, .unset, .unset] [(.int (own_pos p1)), (.int (own_pos p0)), (.ref ob10), (.ref ob10)])) t → Steps p.tables e below (T10.setTop (mkF m 72 #[iv p0, iv p1, iv p2, iv p3, iv p4, iv (own_pos p0), iv (own_pos p1), iv (own_pos p0), iv (own_pos p3), iv (p4 &&& (3 : Int32)), .unset, .unset, .unset, .unset, .unset] [(.ref ob10)])) t := by
    intro t k
    refine XS.dup X10.here hx rfl (hb hby at_72) rfl rfl ?_
    show Steps p.tables e below (T10.setTop (mkF m 73 #[iv p0, iv p1, iv p2, iv p3, iv p4, iv (own_pos p0), iv (own_pos p1), iv (own_pos p0), iv (own_pos p3), iv (p4 &&& (3 : Int32)), .unset, .unset, .unset, .unset, .unset] [(.ref ob10), (.ref ob10)])) _
    refine XS.iload X10.here hx rfl (hb hby at_73) rfl ?_
    show Steps p.tables e below (T10.setTop (mkF m 75 #[iv p0, iv p1, iv p2, iv p3, iv p4, iv (own_pos p0), iv (own_pos p1), iv (own_pos p0), iv (own_pos p3), iv (p4 &&& (3 : Int32)), .unset, .unset, .unset, .unset, .unset] [(.int (own_pos p0)), (.ref ob10), (.ref ob10)])) _
    refine XS.iload X10.here hx rfl (hb hby at_75) rfl ?_
    show Steps p.tables e below (T10.setTop (mkF m 77 #[iv p0, iv p1, iv p2, iv p3, iv p4, iv (own_pos p0), iv (own_pos p1), iv (own_pos p0), iv (own_pos p3), iv (p4 &&& (3 : Int32)), .unset, .unset, .unset, .unset, .unset] [(.int (own_pos p1)), (.int (own_pos p0)), (.ref ob10), (.ref ob10)])) _
    exact k
  refine own_lift sg11 ?_
  show own_Go p.tables e below (T10.setTop (mkF m 77 #[iv p0, iv p1, iv p2, iv p3, iv p4, iv (own_pos p0), iv (own_pos p1), iv (own_pos p0), iv (own_pos p3), iv (p4 &&& (3 : Int32)), .unset, .unset, .unset, .unset, .unset] [(.int (own_pos p1)), (.int (own_pos p0)), (.ref ob10), (.ref ob10)])) _
  obtain ⟨_, _, ⟨T12, Lx12, kx12, nx12⟩, -, X12, ⟨Lc12, hQ12, lx12, yx12, zx12⟩, st12⟩ := X10.specialBack hx (y := (⟨"com/example/allsome/allsome/cypher/InputPosition", "<init>", "(II)V"⟩ : MethodName)) rfl hown (mvT hZ (wd hw 12 rfl)) (mvT hZ (wd hw 13 rfl)) (mvT hZ (wd hw 14 rfl)) (by decide) (backOf (W := 1) (rmInit l Z a0 hw [] ob10 (own_pos p0) (own_pos p1) h10 n0 Z10 Fn10_19 Fn10_21 Ax10 ge10 (own_pos_ge p0) (own_pos_ge p1)) hZ (wd hw 14 rfl) (wd hw 11 rfl) (by decide) (by decide)) (g := (mkF m 77 #[iv p0, iv p1, iv p2, iv p3, iv p4, iv (own_pos p0), iv (own_pos p1), iv (own_pos p0), iv (own_pos p3), iv (p4 &&& (3 : Int32)), .unset, .unset, .unset, .unset, .unset] [(.int (own_pos p1)), (.int (own_pos p0)), (.ref ob10), (.ref ob10)])) rfl (by rw [hml]; rfl) (Steps.refl _) (a := ob10) (argsL := [(.int (own_pos p0)), (.int (own_pos p1))]) (rest := [(.ref ob10)]) (lenOf pd_2 rfl) rfl (by show 2 * 0 + _ ≤ _; exact Nat.le_of_eq rfl) (hb hby at_77) (fun _ _ => ⟨rfl, e10, (by decide : 1 + 0 ≤ _), (by decide : 2 + 0 ≤ _)⟩)
  dsimp only [Pt.U, Pt.locs, Pt.cells, Pt.slots] at X12 lx12 yx12 zx12 st12 hQ12
  subst lx12 yx12 zx12
  obtain ⟨rfl, N12q, p12_0, p12_1, p12_2, p12_3⟩ := hQ12
  have N12 := Fr.app N8 N12q
  have Z12 : n0 ≤ T12.heap.size := Nat.le_trans Z10 p12_0.1
  refine own_lift (fun t k => st12.trans k) ?_
  show own_Go p.tables e below (T12.setTop (mkF m 80 #[iv p0, iv p1, iv p2, iv p3, iv p4, iv (own_pos p0), iv (own_pos p1), iv (own_pos p0), iv (own_pos p3), iv (p4 &&& (3 : Int32)), .unset, .unset, .unset, .unset, .unset] [(.ref ob10)])) _
  have sg13 : ∀ t, Steps p.tables e below (T12.setTop (mkF m 82 #[iv p0, iv p1, iv p2, iv p3, iv p4, iv (own_pos p0), iv (own_pos p1), iv (own_pos p0), iv (own_pos p3), iv (p4 &&& (3 : Int32)), rv ob10, .unset, .unset, .unset, .unset] [])) t → Steps p.tables e below (T12.setTop (mkF m 80 #[iv p0, iv p1, iv p2, iv p3, iv p4, iv (own_pos p0), iv (own_pos p1), iv (own_pos p0), iv (own_pos p3), iv (p4 &&& (3 : Int32)), .unset, .unset, .unset, .unset, .unset] [(.ref ob10)])) t := by
    intro t k
    refine XS.astore X12.here hx rfl (hb hby at_80) rfl rfl (l' := #[iv p0, iv p1, iv p2, iv p3, iv p4, iv (own_pos p0), iv (own_pos p1), iv (own_pos p0), iv (own_pos p3), iv (p4 &&& (3 : Int32)), rv ob10, .unset, .unset, .unset, .unset]) rfl ?_
    show Steps p.tables e below (T12.setTop (mkF m 82 #[iv p0, iv p1, iv p2, iv p3, iv p4, iv (own_pos p0), iv (own_pos p1), iv (own_pos p0), iv (own_pos p3), iv (p4 &&& (3 : Int32)), rv ob10, .unset, .unset, .unset, .unset] [])) _
    exact k
  refine own_lift sg13 ?_
  show own_Go p.tables e below (T12.setTop (mkF m 82 #[iv p0, iv p1, iv p2, iv p3, iv p4, iv (own_pos p0), iv (own_pos p1), iv (own_pos p0), iv (own_pos p3), iv (p4 &&& (3 : Int32)), rv ob10, .unset, .unset, .unset, .unset] [])) _
  obtain ⟨T14, h14, X14, e14, Ex14, Ax14, Dx14, Ux14, st14⟩ := newO X12 hx hZ hown (wd hw 9 rfl) (wd hw 10 rfl) (wd hw 11 rfl) rfl (g := (mkF m 82 #[iv p0, iv p1, iv p2, iv p3, iv p4, iv (own_pos p0), iv (own_pos p1), iv (own_pos p0), iv (own_pos p3), iv (p4 &&& (3 : Int32)), rv ob10, .unset, .unset, .unset, .unset] [])) rfl (hb hby at_82) (by decide) (by decide)
  obtain ⟨ob14, g14⟩ : ∃ z, z = T12.heap.size := ⟨_, rfl⟩
  rw [← g14] at Ax14 Dx14 Ux14 st14
  have ne15 : ob10 ≠ ob14 := Nat.ne_of_lt (Nat.lt_of_lt_of_le p12_1.lt (Nat.le_of_eq g14.symm))
  have Z14 : n0 ≤ h14.size := Nat.le_trans Z12 Ex14.1
  have ge14 : n0 ≤ ob14 := Nat.le_trans Z12 (Nat.le_of_eq g14.symm)
  have Fn14_19 : Fld Z h14 ob14 "com/example/allsome/allsome/cypher/InputPosition" "line" "I" (.int 0) := Dx14 (Or.inr (wd hw 19 rfl)) (ty := .int) (by decide)
  have Fn14_21 : Fld Z h14 ob14 "com/example/allsome/allsome/cypher/InputPosition" "column" "I" (.int 0) := Dx14 (Or.inr (wd hw 21 rfl)) (ty := .int) (by decide)
  refine own_lift st14 ?_
  show own_Go p.tables e below (T14.setTop (mkF m 85 #[iv p0, iv p1, iv p2, iv p3, iv p4, iv (own_pos p0), iv (own_pos p1), iv (own_pos p0), iv (own_pos p3), iv (p4 &&& (3 : Int32)), rv ob10, .unset, .unset, .unset, .unset] [(.ref ob14)])) _
  have sg16 : ∀ t, Steps p.tables e below (T14.setTop (mkF m 90 #[iv p0, iv p1, iv p2, iv p3, iv p4, iv (own_pos p0), iv (own_pos p1), iv (own_pos p0), iv (own_pos p3), iv (p4 &&& (3 : Int32)), rv ob10, .unset, .unset, .unset, .unset] [(.int (own_pos p3)), (.int (own_pos p0)), (.ref ob14), (.ref ob14)])) t → Steps p.tables e below (T14.setTop (mkF m 85 #[iv p0, iv p1, iv p2, iv p3, iv p4, iv (own_pos p0), iv (own_pos p1), iv (own_pos p0), iv (own_pos p3), iv (p4 &&& (3 : Int32)), rv ob10, .unset, .unset, .unset, .unset] [(.ref ob14)])) t := by
    intro t k
    refine XS.dup X14.here hx rfl (hb hby at_85) rfl rfl ?_
    show Steps p.tables e below (T14.setTop (mkF m 86 #[iv p0, iv p1, iv p2, iv p3, iv p4, iv (own_pos p0), iv (own_pos p1), iv (own_pos p0), iv (own_pos p3), iv (p4 &&& (3 : Int32)), rv ob10, .unset, .unset, .unset, .unset] [(.ref ob14), (.ref ob14)])) _
    refine XS.iload X14.here hx rfl (hb hby at_86) rfl ?_
    show Steps p.tables e below (T14.setTop (mkF m 88 #[iv p0, iv p1, iv p2, iv p3, iv p4, iv (own_pos p0), iv (own_pos p1), iv (own_pos p0), iv (own_pos p3), iv (p4 &&& (3 : Int32)), rv ob10, .unset, .unset, .unset, .unset] [(.int (own_pos p0)), (.ref ob14), (.ref ob14)])) _
    refine XS.iload X14.here hx rfl (hb hby at_88) rfl ?_
    show Steps p.tables e below (T14.setTop (mkF m 90 #[iv p0, iv p1, iv p2, iv p3, iv p4, iv (own_pos p0), iv (own_pos p1), iv (own_pos p0), iv (own_pos p3), iv (p4 &&& (3 : Int32)), rv ob10, .unset, .unset, .unset, .unset] [(.int (own_pos p3)), (.int (own_pos p0)), (.ref ob14), (.ref ob14)])) _
    exact k
  refine own_lift sg16 ?_
  show own_Go p.tables e below (T14.setTop (mkF m 90 #[iv p0, iv p1, iv p2, iv p3, iv p4, iv (own_pos p0), iv (own_pos p1), iv (own_pos p0), iv (own_pos p3), iv (p4 &&& (3 : Int32)), rv ob10, .unset, .unset, .unset, .unset] [(.int (own_pos p3)), (.int (own_pos p0)), (.ref ob14), (.ref ob14)])) _
  obtain ⟨_, _, ⟨T17, Lx17, kx17, nx17⟩, -, X17, ⟨Lc17, hQ17, lx17, yx17, zx17⟩, st17⟩ := X14.specialBack hx (y := (⟨"com/example/allsome/allsome/cypher/InputPosition", "<init>", "(II)V"⟩ : MethodName)) rfl hown (mvT hZ (wd hw 12 rfl)) (mvT hZ (wd hw 13 rfl)) (mvT hZ (wd hw 14 rfl)) (by decide) (backOf (W := 1) (rmInit l Z a0 hw [] ob14 (own_pos p0) (own_pos p3) h14 n0 Z14 Fn14_19 Fn14_21 Ax14 ge14 (own_pos_ge p0) (own_pos_ge p3)) hZ (wd hw 14 rfl) (wd hw 11 rfl) (by decide) (by decide)) (g := (mkF m 90 #[iv p0, iv p1, iv p2, iv p3, iv p4, iv (own_pos p0), iv (own_pos p1), iv (own_pos p0), iv (own_pos p3), iv (p4 &&& (3 : Int32)), rv ob10, .unset, .unset, .unset, .unset] [(.int (own_pos p3)), (.int (own_pos p0)), (.ref ob14), (.ref ob14)])) rfl (by rw [hml]; rfl) (Steps.refl _) (a := ob14) (argsL := [(.int (own_pos p0)), (.int (own_pos p3))]) (rest := [(.ref ob14)]) (lenOf pd_2 rfl) rfl (by show 2 * 0 + _ ≤ _; exact Nat.le_of_eq rfl) (hb hby at_90) (fun _ _ => ⟨rfl, e14, (by decide : 2 + 0 ≤ _), (by decide : 4 + 0 ≤ _)⟩)
  dsimp only [Pt.U, Pt.locs, Pt.cells, Pt.slots] at X17 lx17 yx17 zx17 st17 hQ17
  subst lx17 yx17 zx17
  obtain ⟨rfl, N17q, p17_0, p17_1, p17_2, p17_3⟩ := hQ17
  have N17 := Fr.app N12 N17q
  have Z17 : n0 ≤ T17.heap.size := Nat.le_trans Z14 p17_0.1
  refine own_lift (fun t k => st17.trans k) ?_
  show own_Go p.tables e below (T17.setTop (mkF m 93 #[iv p0, iv p1, iv p2, iv p3, iv p4, iv (own_pos p0), iv (own_pos p1), iv (own_pos p0), iv (own_pos p3), iv (p4 &&& (3 : Int32)), rv ob10, .unset, .unset, .unset, .unset] [(.ref ob14)])) _
  have sg18 : ∀ t, Steps p.tables e below (T17.setTop (mkF m 97 #[iv p0, iv p1, iv p2, iv p3, iv p4, iv (own_pos p0), iv (own_pos p1), iv (own_pos p0), iv (own_pos p3), iv (p4 &&& (3 : Int32)), rv ob10, rv ob14, .unset, .unset, .unset] [(.ref ob10)])) t → Steps p.tables e below (T17.setTop (mkF m 93 #[iv p0, iv p1, iv p2, iv p3, iv p4, iv (own_pos p0), iv (own_pos p1), iv (own_pos p0), iv (own_pos p3), iv (p4 &&& (3 : Int32)), rv ob10, .unset, .unset, .unset, .unset] [(.ref ob14)])) t := by
    intro t k
    refine XS.astore X17.here hx rfl (hb hby at_93) rfl rfl (l' := #[iv p0, iv p1, iv p2, iv p3, iv p4, iv (own_pos p0), iv (own_pos p1), iv (own_pos p0), iv (own_pos p3), iv (p4 &&& (3 : Int32)), rv ob10, rv ob14, .unset, .unset, .unset]) rfl ?_
    show Steps p.tables e below (T17.setTop (mkF m 95 #[iv p0, iv p1, iv p2, iv p3, iv p4, iv (own_pos p0), iv (own_pos p1), iv (own_pos p0), iv (own_pos p3), iv (p4 &&& (3 : Int32)), rv ob10, rv ob14, .unset, .unset, .unset] [])) _
    refine XS.aload X17.here hx rfl (hb hby at_95) rfl rfl ?_
    show Steps p.tables e below (T17.setTop (mkF m 97 #[iv p0, iv p1, iv p2, iv p3, iv p4, iv (own_pos p0), iv (own_pos p1), iv (own_pos p0), iv (own_pos p3), iv (p4 &&& (3 : Int32)), rv ob10, rv ob14, .unset, .unset, .unset] [(.ref ob10)])) _
    exact k
  refine own_lift sg18 ?_
  show own_Go p.tables e below (T17.setTop (mkF m 97 #[iv p0, iv p1, iv p2, iv p3, iv p4, iv (own_pos p0), iv (own_pos p1), iv (own_pos p0), iv (own_pos p3), iv (p4 &&& (3 : Int32)), rv ob10, rv ob14, .unset, .unset, .unset] [(.ref ob10)])) _
  have Fc19 : Fld Z T17.heap ob10 "com/example/allsome/allsome/cypher/InputPosition" "line" "I" (.int (own_pos p0)) := ((p12_2.ext Ex14).keep p17_0 (ninS ne15 nin0))
  have Fc20 : Fld Z T17.heap ob10 "com/example/allsome/allsome/cypher/InputPosition" "column" "I" (.int (own_pos p1)) := ((p12_3.ext Ex14).keep p17_0 (ninS ne15 nin0))
  have Fc22 : Exa Z T17.heap ob10 "com/example/allsome/allsome/cypher/InputPosition" := ((p12_1.ext Ex14).keep p17_0)
  obtain ⟨cq21, kq21, q21a, q21b, q21c⟩ := isOf hZ rfl Fc22
  obtain ⟨_, _, ⟨T21, Lx21, kx21, nx21⟩, -, X21, ⟨Lc21, hQ21, lx21, yx21, zx21⟩, st21⟩ := X17.virtualBack hx (y := (⟨"com/example/allsome/allsome/cypher/InputPosition", "hashCode", "()I"⟩ : MethodName)) (z := (⟨"com/example/allsome/allsome/cypher/InputPosition", "hashCode", "()I"⟩ : MethodName)) hown (mvT hZ (wd hw 22 rfl)) (mvT hZ (wd hw 23 rfl)) (notFace_of_selects (args := #[]) (mvT hZ (wd hw 25 rfl))) (mvT hZ (wd hw 25 rfl)) (mvT hZ (wd hw 24 rfl)) (by decide) (backOf (W := 0) (rmHash l Z a0 hw [] ob10 (own_pos p0) (own_pos p1) T17.heap n0 Z17 Fc19 Fc20) hZ (wd hw 26 rfl) (wd hw 11 rfl) (by decide) (by decide)) q21a q21c (g := (mkF m 97 #[iv p0, iv p1, iv p2, iv p3, iv p4, iv (own_pos p0), iv (own_pos p1), iv (own_pos p0), iv (own_pos p3), iv (p4 &&& (3 : Int32)), rv ob10, rv ob14, .unset, .unset, .unset] [(.ref ob10)])) rfl (by rw [hml]; rfl) (Steps.refl _) (argsL := []) (rest := []) (lenOf pd_3 rfl) rfl (by show 2 * 0 + _ ≤ _; exact Nat.le_of_eq rfl) (hb hby at_97) (fun _ _ => ⟨rfl, rfl, (by decide : 2 + 0 ≤ _), (by decide : 4 + 0 ≤ _)⟩)
  dsimp only [Pt.U, Pt.locs, Pt.cells, Pt.slots] at X21 lx21 yx21 zx21 st21 hQ21
  subst lx21 yx21 zx21
  obtain ⟨rfl, N21q, e21⟩ := hQ21
  have N21 := Fr.app N17 N21q
  refine own_lift (fun t k => st21.trans k) ?_
  show own_Go p.tables e below (T21.setTop (mkF m 100 #[iv p0, iv p1, iv p2, iv p3, iv p4, iv (own_pos p0), iv (own_pos p1), iv (own_pos p0), iv (own_pos p3), iv (p4 &&& (3 : Int32)), rv ob10, rv ob14, .unset, .unset, .unset] [(.int (((31 : Int32) * (own_pos p0)) + (own_pos p1)))])) _
  have sg23 : ∀ t, Steps p.tables e below (T21.setTop (mkF m 104 #[iv p0, iv p1, iv p2, iv p3, iv p4, iv (own_pos p0), iv (own_pos p1), iv (own_pos p0), iv (own_pos p3), iv (p4 &&& (3 : Int32)), rv ob10, rv ob14, iv (((31 : Int32) * (own_pos p0)) + (own_pos p1)), .unset, .unset] [(.ref ob10)])) t → Steps p.tables e below (T21.setTop (mkF m 100 #[iv p0, iv p1, iv p2, iv p3, iv p4, iv (own_pos p0), iv (own_pos p1), iv (own_pos p0), iv (own_pos p3), iv (p4 &&& (3 : Int32)), rv ob10, rv ob14, .unset, .unset, .unset] [(.int (((31 : Int32) * (own_pos p0)) + (own_pos p1)))])) t := by
    intro t k
    refine XS.istore X21.here hx rfl (hb hby at_100) rfl (l' := #[iv p0, iv p1, iv p2, iv p3, iv p4, iv (own_pos p0), iv (own_pos p1), iv (own_pos p0), iv (own_pos p3), iv (p4 &&& (3 : Int32)), rv ob10, rv ob14, iv (((31 : Int32) * (own_pos p0)) + (own_pos p1)), .unset, .unset]) rfl ?_
    show Steps p.tables e below (T21.setTop (mkF m 102 #[iv p0, iv p1, iv p2, iv p3, iv p4, iv (own_pos p0), iv (own_pos p1), iv (own_pos p0), iv (own_pos p3), iv (p4 &&& (3 : Int32)), rv ob10, rv ob14, iv (((31 : Int32) * (own_pos p0)) + (own_pos p1)), .unset, .unset] [])) _
    refine XS.aload X21.here hx rfl (hb hby at_102) rfl rfl ?_
    show Steps p.tables e below (T21.setTop (mkF m 104 #[iv p0, iv p1, iv p2, iv p3, iv p4, iv (own_pos p0), iv (own_pos p1), iv (own_pos p0), iv (own_pos p3), iv (p4 &&& (3 : Int32)), rv ob10, rv ob14, iv (((31 : Int32) * (own_pos p0)) + (own_pos p1)), .unset, .unset] [(.ref ob10)])) _
    exact k
  refine own_lift sg23 ?_
  show own_Go p.tables e below (T21.setTop (mkF m 104 #[iv p0, iv p1, iv p2, iv p3, iv p4, iv (own_pos p0), iv (own_pos p1), iv (own_pos p0), iv (own_pos p3), iv (p4 &&& (3 : Int32)), rv ob10, rv ob14, iv (((31 : Int32) * (own_pos p0)) + (own_pos p1)), .unset, .unset] [(.ref ob10)])) _
  obtain ⟨cq24, kq24, q24a, q24b, q24c⟩ := isOf hZ e21 Fc22
  obtain ⟨_, _, ⟨T24, Lx24, kx24, nx24⟩, -, X24, ⟨Lc24, hQ24, lx24, yx24, zx24⟩, st24⟩ := X21.virtualBack hx (y := (⟨"com/example/allsome/allsome/cypher/InputPosition", "hashCode", "()I"⟩ : MethodName)) (z := (⟨"com/example/allsome/allsome/cypher/InputPosition", "hashCode", "()I"⟩ : MethodName)) hown (mvT hZ (wd hw 22 rfl)) (mvT hZ (wd hw 23 rfl)) (notFace_of_selects (args := #[]) (mvT hZ (wd hw 25 rfl))) (mvT hZ (wd hw 25 rfl)) (mvT hZ (wd hw 24 rfl)) (by decide) (backOf (W := 0) (rmHash l Z a0 hw [] ob10 (own_pos p0) (own_pos p1) T17.heap n0 Z17 Fc19 Fc20) hZ (wd hw 26 rfl) (wd hw 11 rfl) (by decide) (by decide)) q24a q24c (g := (mkF m 104 #[iv p0, iv p1, iv p2, iv p3, iv p4, iv (own_pos p0), iv (own_pos p1), iv (own_pos p0), iv (own_pos p3), iv (p4 &&& (3 : Int32)), rv ob10, rv ob14, iv (((31 : Int32) * (own_pos p0)) + (own_pos p1)), .unset, .unset] [(.ref ob10)])) rfl (by rw [hml]; rfl) (Steps.refl _) (argsL := []) (rest := []) (lenOf pd_3 rfl) rfl (by show 2 * 0 + _ ≤ _; exact Nat.le_of_eq rfl) (hb hby at_104) (fun _ _ => ⟨rfl, e21, (by decide : 2 + 0 ≤ _), (by decide : 4 + 0 ≤ _)⟩)
  dsimp only [Pt.U, Pt.locs, Pt.cells, Pt.slots] at X24 lx24 yx24 zx24 st24 hQ24
  subst lx24 yx24 zx24
  obtain ⟨rfl, N24q, e24⟩ := hQ24
  have N24 := Fr.app N21 N24q
  refine own_lift (fun t k => st24.trans k) ?_
  show own_Go p.tables e below (T24.setTop (mkF m 107 #[iv p0, iv p1, iv p2, iv p3, iv p4, iv (own_pos p0), iv (own_pos p1), iv (own_pos p0), iv (own_pos p3), iv (p4 &&& (3 : Int32)), rv ob10, rv ob14, iv (((31 : Int32) * (own_pos p0)) + (own_pos p1)), .unset, .unset] [(.int (((31 : Int32) * (own_pos p0)) + (own_pos p1)))])) _
  have sg25 : ∀ t, Steps p.tables e below (T24.setTop (mkF m 111 #[iv p0, iv p1, iv p2, iv p3, iv p4, iv (own_pos p0), iv (own_pos p1), iv (own_pos p0), iv (own_pos p3), iv (p4 &&& (3 : Int32)), rv ob10, rv ob14, iv (((31 : Int32) * (own_pos p0)) + (own_pos p1)), iv (((31 : Int32) * (own_pos p0)) + (own_pos p1)), .unset] [(.ref ob14)])) t → Steps p.tables e below (T24.setTop (mkF m 107 #[iv p0, iv p1, iv p2, iv p3, iv p4, iv (own_pos p0), iv (own_pos p1), iv (own_pos p0), iv (own_pos p3), iv (p4 &&& (3 : Int32)), rv ob10, rv ob14, iv (((31 : Int32) * (own_pos p0)) + (own_pos p1)), .unset, .unset] [(.int (((31 : Int32) * (own_pos p0)) + (own_pos p1)))])) t := by
    intro t k
    refine XS.istore X24.here hx rfl (hb hby at_107) rfl (l' := #[iv p0, iv p1, iv p2, iv p3, iv p4, iv (own_pos p0), iv (own_pos p1), iv (own_pos p0), iv (own_pos p3), iv (p4 &&& (3 : Int32)), rv ob10, rv ob14, iv (((31 : Int32) * (own_pos p0)) + (own_pos p1)), iv (((31 : Int32) * (own_pos p0)) + (own_pos p1)), .unset]) rfl ?_
    show Steps p.tables e below (T24.setTop (mkF m 109 #[iv p0, iv p1, iv p2, iv p3, iv p4, iv (own_pos p0), iv (own_pos p1), iv (own_pos p0), iv (own_pos p3), iv (p4 &&& (3 : Int32)), rv ob10, rv ob14, iv (((31 : Int32) * (own_pos p0)) + (own_pos p1)), iv (((31 : Int32) * (own_pos p0)) + (own_pos p1)), .unset] [])) _
    refine XS.aload X24.here hx rfl (hb hby at_109) rfl rfl ?_
    show Steps p.tables e below (T24.setTop (mkF m 111 #[iv p0, iv p1, iv p2, iv p3, iv p4, iv (own_pos p0), iv (own_pos p1), iv (own_pos p0), iv (own_pos p3), iv (p4 &&& (3 : Int32)), rv ob10, rv ob14, iv (((31 : Int32) * (own_pos p0)) + (own_pos p1)), iv (((31 : Int32) * (own_pos p0)) + (own_pos p1)), .unset] [(.ref ob14)])) _
    exact k
  refine own_lift sg25 ?_
  show own_Go p.tables e below (T24.setTop (mkF m 111 #[iv p0, iv p1, iv p2, iv p3, iv p4, iv (own_pos p0), iv (own_pos p1), iv (own_pos p0), iv (own_pos p3), iv (p4 &&& (3 : Int32)), rv ob10, rv ob14, iv (((31 : Int32) * (own_pos p0)) + (own_pos p1)), iv (((31 : Int32) * (own_pos p0)) + (own_pos p1)), .unset] [(.ref ob14)])) _
  obtain ⟨cq26, kq26, q26a, q26b, q26c⟩ := isOf hZ e24 p17_1
  obtain ⟨_, _, ⟨T26, Lx26, kx26, nx26⟩, -, X26, ⟨Lc26, hQ26, lx26, yx26, zx26⟩, st26⟩ := X24.virtualBack hx (y := (⟨"com/example/allsome/allsome/cypher/InputPosition", "hashCode", "()I"⟩ : MethodName)) (z := (⟨"com/example/allsome/allsome/cypher/InputPosition", "hashCode", "()I"⟩ : MethodName)) hown (mvT hZ (wd hw 22 rfl)) (mvT hZ (wd hw 23 rfl)) (notFace_of_selects (args := #[]) (mvT hZ (wd hw 25 rfl))) (mvT hZ (wd hw 25 rfl)) (mvT hZ (wd hw 24 rfl)) (by decide) (backOf (W := 0) (rmHash l Z a0 hw [] ob14 (own_pos p0) (own_pos p3) T17.heap n0 Z17 p17_2 p17_3) hZ (wd hw 26 rfl) (wd hw 11 rfl) (by decide) (by decide)) q26a q26c (g := (mkF m 111 #[iv p0, iv p1, iv p2, iv p3, iv p4, iv (own_pos p0), iv (own_pos p1), iv (own_pos p0), iv (own_pos p3), iv (p4 &&& (3 : Int32)), rv ob10, rv ob14, iv (((31 : Int32) * (own_pos p0)) + (own_pos p1)), iv (((31 : Int32) * (own_pos p0)) + (own_pos p1)), .unset] [(.ref ob14)])) rfl (by rw [hml]; rfl) (Steps.refl _) (argsL := []) (rest := []) (lenOf pd_3 rfl) rfl (by show 2 * 0 + _ ≤ _; exact Nat.le_of_eq rfl) (hb hby at_111) (fun _ _ => ⟨rfl, e24, (by decide : 2 + 0 ≤ _), (by decide : 4 + 0 ≤ _)⟩)
  dsimp only [Pt.U, Pt.locs, Pt.cells, Pt.slots] at X26 lx26 yx26 zx26 st26 hQ26
  subst lx26 yx26 zx26
  obtain ⟨rfl, N26q, e26⟩ := hQ26
  have N26 := Fr.app N24 N26q
  refine own_lift (fun t k => st26.trans k) ?_
  show own_Go p.tables e below (T26.setTop (mkF m 114 #[iv p0, iv p1, iv p2, iv p3, iv p4, iv (own_pos p0), iv (own_pos p1), iv (own_pos p0), iv (own_pos p3), iv (p4 &&& (3 : Int32)), rv ob10, rv ob14, iv (((31 : Int32) * (own_pos p0)) + (own_pos p1)), iv (((31 : Int32) * (own_pos p0)) + (own_pos p1)), .unset] [(.int (((31 : Int32) * (own_pos p0)) + (own_pos p3)))])) _
  have sg27 : ∀ t, Steps p.tables e below (T26.setTop (mkF m 129 #[iv p0, iv p1, iv p2, iv p3, iv p4, iv (own_pos p0), iv (own_pos p1), iv (own_pos p0), iv (own_pos p3), iv (p4 &&& (3 : Int32)), rv ob10, rv ob14, iv (((31 : Int32) * (own_pos p0)) + (own_pos p1)), iv (((31 : Int32) * (own_pos p0)) + (own_pos p1)), iv (((31 : Int32) * (own_pos p0)) + (own_pos p3))] [(.ref ob14), (.ref ob10)])) t → Steps p.tables e below (T26.setTop (mkF m 114 #[iv p0, iv p1, iv p2, iv p3, iv p4, iv (own_pos p0), iv (own_pos p1), iv (own_pos p0), iv (own_pos p3), iv (p4 &&& (3 : Int32)), rv ob10, rv ob14, iv (((31 : Int32) * (own_pos p0)) + (own_pos p1)), iv (((31 : Int32) * (own_pos p0)) + (own_pos p1)), .unset] [(.int (((31 : Int32) * (own_pos p0)) + (own_pos p3)))])) t := by
    intro t k
    refine XS.istore X26.here hx rfl (hb hby at_114) rfl (l' := #[iv p0, iv p1, iv p2, iv p3, iv p4, iv (own_pos p0), iv (own_pos p1), iv (own_pos p0), iv (own_pos p3), iv (p4 &&& (3 : Int32)), rv ob10, rv ob14, iv (((31 : Int32) * (own_pos p0)) + (own_pos p1)), iv (((31 : Int32) * (own_pos p0)) + (own_pos p1)), iv (((31 : Int32) * (own_pos p0)) + (own_pos p3))]) rfl ?_
    show Steps p.tables e below (T26.setTop (mkF m 116 #[iv p0, iv p1, iv p2, iv p3, iv p4, iv (own_pos p0), iv (own_pos p1), iv (own_pos p0), iv (own_pos p3), iv (p4 &&& (3 : Int32)), rv ob10, rv ob14, iv (((31 : Int32) * (own_pos p0)) + (own_pos p1)), iv (((31 : Int32) * (own_pos p0)) + (own_pos p1)), iv (((31 : Int32) * (own_pos p0)) + (own_pos p3))] [])) _
    refine XS.iload X26.here hx rfl (hb hby at_116) rfl ?_
    show Steps p.tables e below (T26.setTop (mkF m 118 #[iv p0, iv p1, iv p2, iv p3, iv p4, iv (own_pos p0), iv (own_pos p1), iv (own_pos p0), iv (own_pos p3), iv (p4 &&& (3 : Int32)), rv ob10, rv ob14, iv (((31 : Int32) * (own_pos p0)) + (own_pos p1)), iv (((31 : Int32) * (own_pos p0)) + (own_pos p1)), iv (((31 : Int32) * (own_pos p0)) + (own_pos p3))] [(.int (((31 : Int32) * (own_pos p0)) + (own_pos p1)))])) _
    refine XS.iload X26.here hx rfl (hb hby at_118) rfl ?_
    show Steps p.tables e below (T26.setTop (mkF m 120 #[iv p0, iv p1, iv p2, iv p3, iv p4, iv (own_pos p0), iv (own_pos p1), iv (own_pos p0), iv (own_pos p3), iv (p4 &&& (3 : Int32)), rv ob10, rv ob14, iv (((31 : Int32) * (own_pos p0)) + (own_pos p1)), iv (((31 : Int32) * (own_pos p0)) + (own_pos p1)), iv (((31 : Int32) * (own_pos p0)) + (own_pos p3))] [(.int (((31 : Int32) * (own_pos p0)) + (own_pos p1))), (.int (((31 : Int32) * (own_pos p0)) + (own_pos p1)))])) _
    refine XS.icmpYes X26.here hx rfl (pc0 := 120) (pc' := 125) rfl (hb hby at_120) rfl (teq (rfl : (((31 : Int32) * (own_pos p0)) + (own_pos p1)) = (((31 : Int32) * (own_pos p0)) + (own_pos p1)))).1 (by decide) (by decide) ?_
    show Steps p.tables e below (T26.setTop (mkF m 125 #[iv p0, iv p1, iv p2, iv p3, iv p4, iv (own_pos p0), iv (own_pos p1), iv (own_pos p0), iv (own_pos p3), iv (p4 &&& (3 : Int32)), rv ob10, rv ob14, iv (((31 : Int32) * (own_pos p0)) + (own_pos p1)), iv (((31 : Int32) * (own_pos p0)) + (own_pos p1)), iv (((31 : Int32) * (own_pos p0)) + (own_pos p3))] [])) _
    refine XS.aload X26.here hx rfl (hb hby at_125) rfl rfl ?_
    show Steps p.tables e below (T26.setTop (mkF m 127 #[iv p0, iv p1, iv p2, iv p3, iv p4, iv (own_pos p0), iv (own_pos p1), iv (own_pos p0), iv (own_pos p3), iv (p4 &&& (3 : Int32)), rv ob10, rv ob14, iv (((31 : Int32) * (own_pos p0)) + (own_pos p1)), iv (((31 : Int32) * (own_pos p0)) + (own_pos p1)), iv (((31 : Int32) * (own_pos p0)) + (own_pos p3))] [(.ref ob10)])) _
    refine XS.aload X26.here hx rfl (hb hby at_127) rfl rfl ?_
    show Steps p.tables e below (T26.setTop (mkF m 129 #[iv p0, iv p1, iv p2, iv p3, iv p4, iv (own_pos p0), iv (own_pos p1), iv (own_pos p0), iv (own_pos p3), iv (p4 &&& (3 : Int32)), rv ob10, rv ob14, iv (((31 : Int32) * (own_pos p0)) + (own_pos p1)), iv (((31 : Int32) * (own_pos p0)) + (own_pos p1)), iv (((31 : Int32) * (own_pos p0)) + (own_pos p3))] [(.ref ob14), (.ref ob10)])) _
    exact k
  refine own_lift sg27 ?_
  show own_Go p.tables e below (T26.setTop (mkF m 129 #[iv p0, iv p1, iv p2, iv p3, iv p4, iv (own_pos p0), iv (own_pos p1), iv (own_pos p0), iv (own_pos p3), iv (p4 &&& (3 : Int32)), rv ob10, rv ob14, iv (((31 : Int32) * (own_pos p0)) + (own_pos p1)), iv (((31 : Int32) * (own_pos p0)) + (own_pos p1)), iv (((31 : Int32) * (own_pos p0)) + (own_pos p3))] [(.ref ob14), (.ref ob10)])) _
  obtain ⟨cq28, kq28, q28a, q28b, q28c⟩ := isOf hZ e26 Fc22
  obtain ⟨_, _, ⟨T28, Lx28, kx28, nx28⟩, -, X28, ⟨Lc28, hQ28, lx28, yx28, zx28⟩, st28⟩ := X26.virtualBack hx (y := (⟨"com/example/allsome/allsome/cypher/InputPosition", "equals", "(Ljava/lang/Object;)Z"⟩ : MethodName)) (z := (⟨"com/example/allsome/allsome/cypher/InputPosition", "equals", "(Ljava/lang/Object;)Z"⟩ : MethodName)) hown (mvT hZ (wd hw 27 rfl)) (mvT hZ (wd hw 28 rfl)) (notFace_of_selects (args := #[]) (mvT hZ (wd hw 30 rfl))) (mvT hZ (wd hw 30 rfl)) (mvT hZ (wd hw 29 rfl)) (by decide) (backOf (W := 0) (rmEqC l Z a0 hw [] ob10 ob14 (own_pos p0) (own_pos p1) (own_pos p0) (own_pos p3) T17.heap n0 Z17 Fc19 Fc20 p17_2 p17_3 p17_1 (rfl : (own_pos p0) = (own_pos p0)) hc) hZ (wd hw 31 rfl) (wd hw 11 rfl) (by decide) (by decide)) q28a q28c (g := (mkF m 129 #[iv p0, iv p1, iv p2, iv p3, iv p4, iv (own_pos p0), iv (own_pos p1), iv (own_pos p0), iv (own_pos p3), iv (p4 &&& (3 : Int32)), rv ob10, rv ob14, iv (((31 : Int32) * (own_pos p0)) + (own_pos p1)), iv (((31 : Int32) * (own_pos p0)) + (own_pos p1)), iv (((31 : Int32) * (own_pos p0)) + (own_pos p3))] [(.ref ob14), (.ref ob10)])) rfl (by rw [hml]; rfl) (Steps.refl _) (argsL := [(.ref ob14)]) (rest := []) (lenOf pd_4 rfl) rfl (by show 2 * 0 + _ ≤ _; exact Nat.le_of_eq rfl) (hb hby at_129) (fun _ _ => ⟨rfl, e26, (by decide : 2 + 0 ≤ _), (by decide : 4 + 0 ≤ _)⟩)
  dsimp only [Pt.U, Pt.locs, Pt.cells, Pt.slots] at X28 lx28 yx28 zx28 st28 hQ28
  subst lx28 yx28 zx28
  obtain ⟨rfl, N28q, e28⟩ := hQ28
  have N28 := Fr.app N26 N28q
  refine own_lift (fun t k => st28.trans k) ?_
  show own_Go p.tables e below (T28.setTop (mkF m 132 #[iv p0, iv p1, iv p2, iv p3, iv p4, iv (own_pos p0), iv (own_pos p1), iv (own_pos p0), iv (own_pos p3), iv (p4 &&& (3 : Int32)), rv ob10, rv ob14, iv (((31 : Int32) * (own_pos p0)) + (own_pos p1)), iv (((31 : Int32) * (own_pos p0)) + (own_pos p1)), iv (((31 : Int32) * (own_pos p0)) + (own_pos p3))] [(.int 0)])) _
  have sg29 : ∀ t, Steps p.tables e below (T28.setTop (mkF m 145 #[iv p0, iv p1, iv p2, iv p3, iv p4, iv (own_pos p0), iv (own_pos p1), iv (own_pos p0), iv (own_pos p3), iv (p4 &&& (3 : Int32)), rv ob10, rv ob14, iv (((31 : Int32) * (own_pos p0)) + (own_pos p1)), iv (((31 : Int32) * (own_pos p0)) + (own_pos p1)), iv (((31 : Int32) * (own_pos p0)) + (own_pos p3))] [(.int 1)])) t → Steps p.tables e below (T28.setTop (mkF m 132 #[iv p0, iv p1, iv p2, iv p3, iv p4, iv (own_pos p0), iv (own_pos p1), iv (own_pos p0), iv (own_pos p3), iv (p4 &&& (3 : Int32)), rv ob10, rv ob14, iv (((31 : Int32) * (own_pos p0)) + (own_pos p1)), iv (((31 : Int32) * (own_pos p0)) + (own_pos p1)), iv (((31 : Int32) * (own_pos p0)) + (own_pos p3))] [(.int 0)])) t := by
    intro t k
    refine XS.ifYes X28.here hx rfl (pc0 := 132) (pc' := 144) rfl (hb hby at_132) rfl ((if0 _ _).trans (teq (by decide : (0 : Int32) = (0 : Int32))).1) (by decide) (by decide) ?_
    show Steps p.tables e below (T28.setTop (mkF m 144 #[iv p0, iv p1, iv p2, iv p3, iv p4, iv (own_pos p0), iv (own_pos p1), iv (own_pos p0), iv (own_pos p3), iv (p4 &&& (3 : Int32)), rv ob10, rv ob14, iv (((31 : Int32) * (own_pos p0)) + (own_pos p1)), iv (((31 : Int32) * (own_pos p0)) + (own_pos p1)), iv (((31 : Int32) * (own_pos p0)) + (own_pos p3))] [])) _
    refine XS.iconst X28.here hx rfl (hb hby at_144) ?_
    show Steps p.tables e below (T28.setTop (mkF m 145 #[iv p0, iv p1, iv p2, iv p3, iv p4, iv (own_pos p0), iv (own_pos p1), iv (own_pos p0), iv (own_pos p3), iv (p4 &&& (3 : Int32)), rv ob10, rv ob14, iv (((31 : Int32) * (own_pos p0)) + (own_pos p1)), iv (((31 : Int32) * (own_pos p0)) + (own_pos p1)), iv (((31 : Int32) * (own_pos p0)) + (own_pos p3))] [(.int 1)])) _
    exact k
  refine own_lift sg29 ?_
  show own_Go p.tables e below (T28.setTop (mkF m 145 #[iv p0, iv p1, iv p2, iv p3, iv p4, iv (own_pos p0), iv (own_pos p1), iv (own_pos p0), iv (own_pos p3), iv (p4 &&& (3 : Int32)), rv ob10, rv ob14, iv (((31 : Int32) * (own_pos p0)) + (own_pos p1)), iv (((31 : Int32) * (own_pos p0)) + (own_pos p1)), iv (((31 : Int32) * (own_pos p0)) + (own_pos p3))] [(.int 1)])) _
  obtain ⟨fs, hr, hrun, hended, hW, hsame⟩ := X28.leave (v := some (.int 1)) (fun h => by rw [Bd.returns] at h; cases h)
  refine ⟨_, _, ?_, hrun, hended, _, _, rfl, ?_, ⟨_, rfl⟩, hW, hsame.mono (by decide) (by decide)⟩
  · exact retN X28 hx (t := .boolean) Bd.returns (by simp) (hb hby at_145) hr
  · show Q0 Z  h0 n0 _ T28.heap _
    rw [e28]
    exact ⟨rfl, N28⟩
theorem ef_rm0_2e (m : MethodId) (x0 : Int32) (x1 : Int32) (x2 : Int32) (x3 : Int32) (x4 : Int32) : entryFrame m #[(.int x0), (.int x1), (.int x2), (.int x3), (.int x4)] maxLocals = mkF m 0 #[.val (.int x0), .val (.int x1), .val (.int x2), .val (.int x3), .val (.int x4), .unset, .unset, .unset, .unset, .unset, .unset, .unset, .unset, .unset, .unset] [] := by first | (simp [entryFrame, mkF, argsToLocals, Value.category, maxLocals]; done) | rfl
set_option maxRecDepth 65536 in
set_option maxHeartbeats 40000000 in
theorem rm0_2e (l : Launch) (Z : State) (a0 : Array Value) (hw : ∀ d ∈ tables_1, d.before a0 Z = true) (ws : List Jvm.Cond) (p0 : Int32) (p1 : Int32) (p2 : Int32) (p3 : Int32) (p4 : Int32) (h0 : Heap) (n0 : Nat) (Z0 : n0 ≤ h0.size)  (m0 : ¬ ((p4 &&& (3 : Int32)) = (0 : Int32))) (m1 : ¬ ((p4 &&& (3 : Int32)) = (1 : Int32))) (m2 : (p4 &&& (3 : Int32)) = (2 : Int32)) (hl : (own_pos p0) = (own_pos p2)) :
    MetFree l x (head1 (Jvm.Cond.code x code maxLocals ret :: ws) room_1) (fun a U => a = #[(.int p0), (.int p1), (.int p2), (.int p3), (.int p4)] ∧ Z.Warmed39 U.vm ∧ U.heap = h0) (fun _ _ _ _ _ => True) (fun _ U o U' => ∃ v L, o = .returned v ∧ Q0 Z  h0 n0 v U'.heap L ∧ FrameEnd U o U' L 16 128) := by
  refine MetFree.of_bodySF (plainFor_of_name pn_1) hisR ?_
  intro p e s m args below meth c s₁ Bd hml0 hP hK
  obtain ⟨rfl, hZ, hh⟩ := hP
  have hx := Bd.exec
  have hby := Bd.bytes
  have hml : c.maxLocals = 15 := hml0
  have hown : s.vm.findClass "com/example/allsome/allsome/cypher/InputPositionHashCodePinLaw" = some m.cls := findClass_of_methodNamed Bd.named
  have hnm := (name_of_methodNamed Bd.named Bd.method).1
  have X0 : Stand p l e room_1 s m #[(.int p0), (.int p1), (.int p2), (.int p3), (.int p4)] below meth c s₁ [] 0 0 := Stand.of_body Bd
  have e0 : s₁.heap = h0 := by rw [← hh, Bd.state]; rfl
  have N0 := Fr.nil n0
  refine own_go (own_lift (fun t k => castTop (ef_rm0_2e m p0 p1 p2 p3 p4) k) ?_)
  show own_Go p.tables e below (s₁.setTop (mkF m 0 #[iv p0, iv p1, iv p2, iv p3, iv p4, .unset, .unset, .unset, .unset, .unset, .unset, .unset, .unset, .unset, .unset] [])) _
  have sg1 : ∀ t, Steps p.tables e below (s₁.setTop (mkF m 1 #[iv p0, iv p1, iv p2, iv p3, iv p4, .unset, .unset, .unset, .unset, .unset, .unset, .unset, .unset, .unset, .unset] [(.int p0)])) t → Steps p.tables e below (s₁.setTop (mkF m 0 #[iv p0, iv p1, iv p2, iv p3, iv p4, .unset, .unset, .unset, .unset, .unset, .unset, .unset, .unset, .unset, .unset] [])) t := by
    intro t k
    refine XS.iloadN X0.here hx rfl (hb hby at_0) rfl ?_
    show Steps p.tables e below (s₁.setTop (mkF m 1 #[iv p0, iv p1, iv p2, iv p3, iv p4, .unset, .unset, .unset, .unset, .unset, .unset, .unset, .unset, .unset, .unset] [(.int p0)])) _
    exact k
  refine own_lift sg1 ?_
  show own_Go p.tables e below (s₁.setTop (mkF m 1 #[iv p0, iv p1, iv p2, iv p3, iv p4, .unset, .unset, .unset, .unset, .unset, .unset, .unset, .unset, .unset, .unset] [(.int p0)])) _
  obtain ⟨_, _, ⟨T2, Lx2, kx2, nx2⟩, -, X2, ⟨Lc2, hQ2, lx2, yx2, zx2⟩, st2⟩ := Jvm.LawKit.callS X0 hx (y := (⟨"com/example/allsome/allsome/cypher/InputPositionHashCodePinLaw", "pos", "(I)I"⟩ : MethodName)) hown (mvT hZ (wd hw 0 rfl)) (mvT hZ (wd hw 1 rfl)) (mvT hZ (wd hw 2 rfl)) (mvT hZ (wd hw 3 rfl)) (by decide) (backOf (W := 0) (rmPos l Z a0 hw [] p0 h0 n0 Z0 ) hZ (wd hw 3 rfl) (wd hw 2 rfl) (by decide) (by decide)) (g := (mkF m 1 #[iv p0, iv p1, iv p2, iv p3, iv p4, .unset, .unset, .unset, .unset, .unset, .unset, .unset, .unset, .unset, .unset] [(.int p0)])) rfl (by rw [hml]; rfl) (argsL := [(.int p0)]) (rest := []) (lenOf pd_1 rfl) rfl (by show 2 * 0 + _ ≤ _; exact Nat.le_of_eq rfl) (hb hby at_1) (fun _ _ => ⟨rfl, e0, (by decide : 0 + 0 ≤ _), (by decide : 0 + 0 ≤ _)⟩)
  dsimp only [Pt.U, Pt.locs, Pt.cells, Pt.slots] at X2 lx2 yx2 zx2 st2 hQ2
  subst lx2 yx2 zx2
  obtain ⟨rfl, N2q, e2⟩ := hQ2
  have N2 := Fr.app N0 N2q
  refine own_lift st2 ?_
  show own_Go p.tables e below (T2.setTop (mkF m 4 #[iv p0, iv p1, iv p2, iv p3, iv p4, .unset, .unset, .unset, .unset, .unset, .unset, .unset, .unset, .unset, .unset] [(.int (own_pos p0))])) _
  have sg3 : ∀ t, Steps p.tables e below (T2.setTop (mkF m 7 #[iv p0, iv p1, iv p2, iv p3, iv p4, iv (own_pos p0), .unset, .unset, .unset, .unset, .unset, .unset, .unset, .unset, .unset] [(.int p1)])) t → Steps p.tables e below (T2.setTop (mkF m 4 #[iv p0, iv p1, iv p2, iv p3, iv p4, .unset, .unset, .unset, .unset, .unset, .unset, .unset, .unset, .unset, .unset] [(.int (own_pos p0))])) t := by
    intro t k
    refine XS.istore X2.here hx rfl (hb hby at_4) rfl (l' := #[iv p0, iv p1, iv p2, iv p3, iv p4, iv (own_pos p0), .unset, .unset, .unset, .unset, .unset, .unset, .unset, .unset, .unset]) rfl ?_
    show Steps p.tables e below (T2.setTop (mkF m 6 #[iv p0, iv p1, iv p2, iv p3, iv p4, iv (own_pos p0), .unset, .unset, .unset, .unset, .unset, .unset, .unset, .unset, .unset] [])) _
    refine XS.iloadN X2.here hx rfl (hb hby at_6) rfl ?_
    show Steps p.tables e below (T2.setTop (mkF m 7 #[iv p0, iv p1, iv p2, iv p3, iv p4, iv (own_pos p0), .unset, .unset, .unset, .unset, .unset, .unset, .unset, .unset, .unset] [(.int p1)])) _
    exact k
  refine own_lift sg3 ?_
  show own_Go p.tables e below (T2.setTop (mkF m 7 #[iv p0, iv p1, iv p2, iv p3, iv p4, iv (own_pos p0), .unset, .unset, .unset, .unset, .unset, .unset, .unset, .unset, .unset] [(.int p1)])) _
  obtain ⟨_, _, ⟨T4, Lx4, kx4, nx4⟩, -, X4, ⟨Lc4, hQ4, lx4, yx4, zx4⟩, st4⟩ := Jvm.LawKit.callS X2 hx (y := (⟨"com/example/allsome/allsome/cypher/InputPositionHashCodePinLaw", "pos", "(I)I"⟩ : MethodName)) hown (mvT hZ (wd hw 0 rfl)) (mvT hZ (wd hw 1 rfl)) (mvT hZ (wd hw 2 rfl)) (mvT hZ (wd hw 3 rfl)) (by decide) (backOf (W := 0) (rmPos l Z a0 hw [] p1 h0 n0 Z0 ) hZ (wd hw 3 rfl) (wd hw 2 rfl) (by decide) (by decide)) (g := (mkF m 7 #[iv p0, iv p1, iv p2, iv p3, iv p4, iv (own_pos p0), .unset, .unset, .unset, .unset, .unset, .unset, .unset, .unset, .unset] [(.int p1)])) rfl (by rw [hml]; rfl) (argsL := [(.int p1)]) (rest := []) (lenOf pd_1 rfl) rfl (by show 2 * 0 + _ ≤ _; exact Nat.le_of_eq rfl) (hb hby at_7) (fun _ _ => ⟨rfl, e2, (by decide : 0 + 0 ≤ _), (by decide : 0 + 0 ≤ _)⟩)
  dsimp only [Pt.U, Pt.locs, Pt.cells, Pt.slots] at X4 lx4 yx4 zx4 st4 hQ4
  subst lx4 yx4 zx4
  obtain ⟨rfl, N4q, e4⟩ := hQ4
  have N4 := Fr.app N2 N4q
  refine own_lift st4 ?_
  show own_Go p.tables e below (T4.setTop (mkF m 10 #[iv p0, iv p1, iv p2, iv p3, iv p4, iv (own_pos p0), .unset, .unset, .unset, .unset, .unset, .unset, .unset, .unset, .unset] [(.int (own_pos p1))])) _
  have sg5 : ∀ t, Steps p.tables e below (T4.setTop (mkF m 13 #[iv p0, iv p1, iv p2, iv p3, iv p4, iv (own_pos p0), iv (own_pos p1), .unset, .unset, .unset, .unset, .unset, .unset, .unset, .unset] [(.int p2)])) t → Steps p.tables e below (T4.setTop (mkF m 10 #[iv p0, iv p1, iv p2, iv p3, iv p4, iv (own_pos p0), .unset, .unset, .unset, .unset, .unset, .unset, .unset, .unset, .unset] [(.int (own_pos p1))])) t := by
    intro t k
    refine XS.istore X4.here hx rfl (hb hby at_10) rfl (l' := #[iv p0, iv p1, iv p2, iv p3, iv p4, iv (own_pos p0), iv (own_pos p1), .unset, .unset, .unset, .unset, .unset, .unset, .unset, .unset]) rfl ?_
    show Steps p.tables e below (T4.setTop (mkF m 12 #[iv p0, iv p1, iv p2, iv p3, iv p4, iv (own_pos p0), iv (own_pos p1), .unset, .unset, .unset, .unset, .unset, .unset, .unset, .unset] [])) _
    refine XS.iloadN X4.here hx rfl (hb hby at_12) rfl ?_
    show Steps p.tables e below (T4.setTop (mkF m 13 #[iv p0, iv p1, iv p2, iv p3, iv p4, iv (own_pos p0), iv (own_pos p1), .unset, .unset, .unset, .unset, .unset, .unset, .unset, .unset] [(.int p2)])) _
    exact k
  refine own_lift sg5 ?_
  show own_Go p.tables e below (T4.setTop (mkF m 13 #[iv p0, iv p1, iv p2, iv p3, iv p4, iv (own_pos p0), iv (own_pos p1), .unset, .unset, .unset, .unset, .unset, .unset, .unset, .unset] [(.int p2)])) _
  obtain ⟨_, _, ⟨T6, Lx6, kx6, nx6⟩, -, X6, ⟨Lc6, hQ6, lx6, yx6, zx6⟩, st6⟩ := Jvm.LawKit.callS X4 hx (y := (⟨"com/example/allsome/allsome/cypher/InputPositionHashCodePinLaw", "pos", "(I)I"⟩ : MethodName)) hown (mvT hZ (wd hw 0 rfl)) (mvT hZ (wd hw 1 rfl)) (mvT hZ (wd hw 2 rfl)) (mvT hZ (wd hw 3 rfl)) (by decide) (backOf (W := 0) (rmPos l Z a0 hw [] p2 h0 n0 Z0 ) hZ (wd hw 3 rfl) (wd hw 2 rfl) (by decide) (by decide)) (g := (mkF m 13 #[iv p0, iv p1, iv p2, iv p3, iv p4, iv (own_pos p0), iv (own_pos p1), .unset, .unset, .unset, .unset, .unset, .unset, .unset, .unset] [(.int p2)])) rfl (by rw [hml]; rfl) (argsL := [(.int p2)]) (rest := []) (lenOf pd_1 rfl) rfl (by show 2 * 0 + _ ≤ _; exact Nat.le_of_eq rfl) (hb hby at_13) (fun _ _ => ⟨rfl, e4, (by decide : 0 + 0 ≤ _), (by decide : 0 + 0 ≤ _)⟩)
  dsimp only [Pt.U, Pt.locs, Pt.cells, Pt.slots] at X6 lx6 yx6 zx6 st6 hQ6
  subst lx6 yx6 zx6
  obtain ⟨rfl, N6q, e6⟩ := hQ6
  have N6 := Fr.app N4 N6q
  refine own_lift st6 ?_
  show own_Go p.tables e below (T6.setTop (mkF m 16 #[iv p0, iv p1, iv p2, iv p3, iv p4, iv (own_pos p0), iv (own_pos p1), .unset, .unset, .unset, .unset, .unset, .unset, .unset, .unset] [(.int (own_pos p2))])) _
  have sg7 : ∀ t, Steps p.tables e below (T6.setTop (mkF m 19 #[iv p0, iv p1, iv p2, iv p3, iv p4, iv (own_pos p0), iv (own_pos p1), iv (own_pos p2), .unset, .unset, .unset, .unset, .unset, .unset, .unset] [(.int p3)])) t → Steps p.tables e below (T6.setTop (mkF m 16 #[iv p0, iv p1, iv p2, iv p3, iv p4, iv (own_pos p0), iv (own_pos p1), .unset, .unset, .unset, .unset, .unset, .unset, .unset, .unset] [(.int (own_pos p2))])) t := by
    intro t k
    refine XS.istore X6.here hx rfl (hb hby at_16) rfl (l' := #[iv p0, iv p1, iv p2, iv p3, iv p4, iv (own_pos p0), iv (own_pos p1), iv (own_pos p2), .unset, .unset, .unset, .unset, .unset, .unset, .unset]) rfl ?_
    show Steps p.tables e below (T6.setTop (mkF m 18 #[iv p0, iv p1, iv p2, iv p3, iv p4, iv (own_pos p0), iv (own_pos p1), iv (own_pos p2), .unset, .unset, .unset, .unset, .unset, .unset, .unset] [])) _
    refine XS.iloadN X6.here hx rfl (hb hby at_18) rfl ?_
    show Steps p.tables e below (T6.setTop (mkF m 19 #[iv p0, iv p1, iv p2, iv p3, iv p4, iv (own_pos p0), iv (own_pos p1), iv (own_pos p2), .unset, .unset, .unset, .unset, .unset, .unset, .unset] [(.int p3)])) _
    exact k
  refine own_lift sg7 ?_
  show own_Go p.tables e below (T6.setTop (mkF m 19 #[iv p0, iv p1, iv p2, iv p3, iv p4, iv (own_pos p0), iv (own_pos p1), iv (own_pos p2), .unset, .unset, .unset, .unset, .unset, .unset, .unset] [(.int p3)])) _
  obtain ⟨_, _, ⟨T8, Lx8, kx8, nx8⟩, -, X8, ⟨Lc8, hQ8, lx8, yx8, zx8⟩, st8⟩ := Jvm.LawKit.callS X6 hx (y := (⟨"com/example/allsome/allsome/cypher/InputPositionHashCodePinLaw", "pos", "(I)I"⟩ : MethodName)) hown (mvT hZ (wd hw 0 rfl)) (mvT hZ (wd hw 1 rfl)) (mvT hZ (wd hw 2 rfl)) (mvT hZ (wd hw 3 rfl)) (by decide) (backOf (W := 0) (rmPos l Z a0 hw [] p3 h0 n0 Z0 ) hZ (wd hw 3 rfl) (wd hw 2 rfl) (by decide) (by decide)) (g := (mkF m 19 #[iv p0, iv p1, iv p2, iv p3, iv p4, iv (own_pos p0), iv (own_pos p1), iv (own_pos p2), .unset, .unset, .unset, .unset, .unset, .unset, .unset] [(.int p3)])) rfl (by rw [hml]; rfl) (argsL := [(.int p3)]) (rest := []) (lenOf pd_1 rfl) rfl (by show 2 * 0 + _ ≤ _; exact Nat.le_of_eq rfl) (hb hby at_19) (fun _ _ => ⟨rfl, e6, (by decide : 0 + 0 ≤ _), (by decide : 0 + 0 ≤ _)⟩)
  dsimp only [Pt.U, Pt.locs, Pt.cells, Pt.slots] at X8 lx8 yx8 zx8 st8 hQ8
  subst lx8 yx8 zx8
  obtain ⟨rfl, N8q, e8⟩ := hQ8
  have N8 := Fr.app N6 N8q
  refine own_lift st8 ?_
  show own_Go p.tables e below (T8.setTop (mkF m 22 #[iv p0, iv p1, iv p2, iv p3, iv p4, iv (own_pos p0), iv (own_pos p1), iv (own_pos p2), .unset, .unset, .unset, .unset, .unset, .unset, .unset] [(.int (own_pos p3))])) _
  have sg9 : ∀ t, Steps p.tables e below (T8.setTop (mkF m 69 #[iv p0, iv p1, iv p2, iv p3, iv p4, iv (own_pos p0), iv (own_pos p1), iv (own_pos p2), iv (own_pos p1), iv (p4 &&& (3 : Int32)), .unset, .unset, .unset, .unset, .unset] [])) t → Steps p.tables e below (T8.setTop (mkF m 22 #[iv p0, iv p1, iv p2, iv p3, iv p4, iv (own_pos p0), iv (own_pos p1), iv (own_pos p2), .unset, .unset, .unset, .unset, .unset, .unset, .unset] [(.int (own_pos p3))])) t := by
    intro t k
    refine XS.istore X8.here hx rfl (hb hby at_22) rfl (l' := #[iv p0, iv p1, iv p2, iv p3, iv p4, iv (own_pos p0), iv (own_pos p1), iv (own_pos p2), iv (own_pos p3), .unset, .unset, .unset, .unset, .unset, .unset]) rfl ?_
    show Steps p.tables e below (T8.setTop (mkF m 24 #[iv p0, iv p1, iv p2, iv p3, iv p4, iv (own_pos p0), iv (own_pos p1), iv (own_pos p2), iv (own_pos p3), .unset, .unset, .unset, .unset, .unset, .unset] [])) _
    refine XS.iload X8.here hx rfl (hb hby at_24) rfl ?_
    show Steps p.tables e below (T8.setTop (mkF m 26 #[iv p0, iv p1, iv p2, iv p3, iv p4, iv (own_pos p0), iv (own_pos p1), iv (own_pos p2), iv (own_pos p3), .unset, .unset, .unset, .unset, .unset, .unset] [(.int p4)])) _
    refine XS.iconst X8.here hx rfl (hb hby at_26) ?_
    show Steps p.tables e below (T8.setTop (mkF m 27 #[iv p0, iv p1, iv p2, iv p3, iv p4, iv (own_pos p0), iv (own_pos p1), iv (own_pos p2), iv (own_pos p3), .unset, .unset, .unset, .unset, .unset, .unset] [(.int 3), (.int p4)])) _
    refine XS.iand X8.here hx rfl (hb hby at_27) rfl ?_
    show Steps p.tables e below (T8.setTop (mkF m 28 #[iv p0, iv p1, iv p2, iv p3, iv p4, iv (own_pos p0), iv (own_pos p1), iv (own_pos p2), iv (own_pos p3), .unset, .unset, .unset, .unset, .unset, .unset] [(.int (p4 &&& (3 : Int32)))])) _
    refine XS.istore X8.here hx rfl (hb hby at_28) rfl (l' := #[iv p0, iv p1, iv p2, iv p3, iv p4, iv (own_pos p0), iv (own_pos p1), iv (own_pos p2), iv (own_pos p3), iv (p4 &&& (3 : Int32)), .unset, .unset, .unset, .unset, .unset]) rfl ?_
    show Steps p.tables e below (T8.setTop (mkF m 30 #[iv p0, iv p1, iv p2, iv p3, iv p4, iv (own_pos p0), iv (own_pos p1), iv (own_pos p2), iv (own_pos p3), iv (p4 &&& (3 : Int32)), .unset, .unset, .unset, .unset, .unset] [])) _
    refine XS.iload X8.here hx rfl (hb hby at_30) rfl ?_
    show Steps p.tables e below (T8.setTop (mkF m 32 #[iv p0, iv p1, iv p2, iv p3, iv p4, iv (own_pos p0), iv (own_pos p1), iv (own_pos p2), iv (own_pos p3), iv (p4 &&& (3 : Int32)), .unset, .unset, .unset, .unset, .unset] [(.int (p4 &&& (3 : Int32)))])) _
    refine XS.ifYes X8.here hx rfl (pc0 := 32) (pc' := 46) rfl (hb hby at_32) rfl ((if0 _ _).trans (feq m0).2) (by decide) (by decide) ?_
    show Steps p.tables e below (T8.setTop (mkF m 46 #[iv p0, iv p1, iv p2, iv p3, iv p4, iv (own_pos p0), iv (own_pos p1), iv (own_pos p2), iv (own_pos p3), iv (p4 &&& (3 : Int32)), .unset, .unset, .unset, .unset, .unset] [])) _
    refine XS.iload X8.here hx rfl (hb hby at_46) rfl ?_
    show Steps p.tables e below (T8.setTop (mkF m 48 #[iv p0, iv p1, iv p2, iv p3, iv p4, iv (own_pos p0), iv (own_pos p1), iv (own_pos p2), iv (own_pos p3), iv (p4 &&& (3 : Int32)), .unset, .unset, .unset, .unset, .unset] [(.int (p4 &&& (3 : Int32)))])) _
    refine XS.iconst X8.here hx rfl (hb hby at_48) ?_
    show Steps p.tables e below (T8.setTop (mkF m 49 #[iv p0, iv p1, iv p2, iv p3, iv p4, iv (own_pos p0), iv (own_pos p1), iv (own_pos p2), iv (own_pos p3), iv (p4 &&& (3 : Int32)), .unset, .unset, .unset, .unset, .unset] [(.int 1), (.int (p4 &&& (3 : Int32)))])) _
    refine XS.icmpYes X8.here hx rfl (pc0 := 49) (pc' := 59) rfl (hb hby at_49) rfl (feq m1).2 (by decide) (by decide) ?_
    show Steps p.tables e below (T8.setTop (mkF m 59 #[iv p0, iv p1, iv p2, iv p3, iv p4, iv (own_pos p0), iv (own_pos p1), iv (own_pos p2), iv (own_pos p3), iv (p4 &&& (3 : Int32)), .unset, .unset, .unset, .unset, .unset] [])) _
    refine XS.iload X8.here hx rfl (hb hby at_59) rfl ?_
    show Steps p.tables e below (T8.setTop (mkF m 61 #[iv p0, iv p1, iv p2, iv p3, iv p4, iv (own_pos p0), iv (own_pos p1), iv (own_pos p2), iv (own_pos p3), iv (p4 &&& (3 : Int32)), .unset, .unset, .unset, .unset, .unset] [(.int (p4 &&& (3 : Int32)))])) _
    refine XS.iconst X8.here hx rfl (hb hby at_61) ?_
    show Steps p.tables e below (T8.setTop (mkF m 62 #[iv p0, iv p1, iv p2, iv p3, iv p4, iv (own_pos p0), iv (own_pos p1), iv (own_pos p2), iv (own_pos p3), iv (p4 &&& (3 : Int32)), .unset, .unset, .unset, .unset, .unset] [(.int 2), (.int (p4 &&& (3 : Int32)))])) _
    refine XS.icmpNo X8.here hx rfl (hb hby at_62) rfl (teq m2).2 ?_
    show Steps p.tables e below (T8.setTop (mkF m 65 #[iv p0, iv p1, iv p2, iv p3, iv p4, iv (own_pos p0), iv (own_pos p1), iv (own_pos p2), iv (own_pos p3), iv (p4 &&& (3 : Int32)), .unset, .unset, .unset, .unset, .unset] [])) _
    refine XS.iload X8.here hx rfl (hb hby at_65) rfl ?_
    show Steps p.tables e below (T8.setTop (mkF m 67 #[iv p0, iv p1, iv p2, iv p3, iv p4, iv (own_pos p0), iv (own_pos p1), iv (own_pos p2), iv (own_pos p3), iv (p4 &&& (3 : Int32)), .unset, .unset, .unset, .unset, .unset] [(.int (own_pos p1))])) _
    refine XS.istore X8.here hx rfl (hb hby at_67) rfl (l' := #[iv p0, iv p1, iv p2, iv p3, iv p4, iv (own_pos p0), iv (own_pos p1), iv (own_pos p2), iv (own_pos p1), iv (p4 &&& (3 : Int32)), .unset, .unset, .unset, .unset, .unset]) rfl ?_
    show Steps p.tables e below (T8.setTop (mkF m 69 #[iv p0, iv p1, iv p2, iv p3, iv p4, iv (own_pos p0), iv (own_pos p1), iv (own_pos p2), iv (own_pos p1), iv (p4 &&& (3 : Int32)), .unset, .unset, .unset, .unset, .unset] [])) _
    exact k
  refine own_lift sg9 ?_
  show own_Go p.tables e below (T8.setTop (mkF m 69 #[iv p0, iv p1, iv p2, iv p3, iv p4, iv (own_pos p0), iv (own_pos p1), iv (own_pos p2), iv (own_pos p1), iv (p4 &&& (3 : Int32)), .unset, .unset, .unset, .unset, .unset] [])) _
  obtain ⟨T10, h10, X10, e10, Ex10, Ax10, Dx10, Ux10, st10⟩ := newO X8 hx hZ hown (wd hw 9 rfl) (wd hw 10 rfl) (wd hw 11 rfl) e8 (g := (mkF m 69 #[iv p0, iv p1, iv p2, iv p3, iv p4, iv (own_pos p0), iv (own_pos p1), iv (own_pos p2), iv (own_pos p1), iv (p4 &&& (3 : Int32)), .unset, .unset, .unset, .unset, .unset] [])) rfl (hb hby at_69) (by decide) (by decide)
  obtain ⟨ob10, g10⟩ : ∃ z, z = h0.size := ⟨_, rfl⟩
  rw [← g10] at Ax10 Dx10 Ux10 st10
  have Z10 : n0 ≤ h10.size := Nat.le_trans Z0 Ex10.1
  have ge10 : n0 ≤ ob10 := Nat.le_trans Z0 (Nat.le_of_eq g10.symm)
  have Fn10_19 : Fld Z h10 ob10 "com/example/allsome/allsome/cypher/InputPosition" "line" "I" (.int 0) := Dx10 (Or.inr (wd hw 19 rfl)) (ty := .int) (by decide)
  have Fn10_21 : Fld Z h10 ob10 "com/example/allsome/allsome/cypher/InputPosition" "column" "I" (.int 0) := Dx10 (Or.inr (wd hw 21 rfl)) (ty := .int) (by decide)
  refine own_lift st10 ?_
  show own_Go p.tables e below (T10.setTop (mkF m 72 #[iv p0, iv p1, iv p2, iv p3, iv p4, iv (own_pos p0), iv (own_pos p1), iv (own_pos p2), iv (own_pos p1), iv (p4 &&& (3 : Int32)), .unset, .unset, .unset, .unset, .unset] [(.ref ob10)])) _
  have sg11 : ∀ t, Steps p.tables e below (T10.setTop (mkF m 77 #[iv p0, iv p1, iv p2, iv p3, iv p4, iv (own_pos p0), iv (own_pos p1), iv (own_pos p2), iv (own_pos p1), iv (p4 &&& (3 : Int32)), .unset, .unset, .unset, .unset, .unset] [(.int (own_pos p1)), (.int (own_pos p0)), (.ref ob10), (.ref ob10)])) t → Steps p.tables e below (T10.setTop (mkF m 72 #[iv p0, iv p1, iv p2, iv p3, iv p4, iv (own_pos p0), iv (own_pos p1), iv (own_pos p2), iv (own_pos p1), iv (p4 &&& (3 : Int32)), .unset, .unset, .unset, .unset, .unset] [(.ref ob10)])) t := by
    intro t k
    refine XS.dup X10.here hx rfl (hb hby at_72) rfl rfl ?_
    show Steps p.tables e below (T10.setTop (mkF m 73 #[iv p0, iv p1, iv p2, iv p3, iv p4, iv (own_pos p0), iv (own_pos p1), iv (own_pos p2), iv (own_pos p1), iv (p4 &&& (3 : Int32)), .unset, .unset, .unset, .unset, .unset] [(.ref ob10), (.ref ob10)])) _
    refine XS.iload X10.here hx rfl (hb hby at_73) rfl ?_
    show Steps p.tables e below (T10.setTop (mkF m 75 #[iv p0, iv p1, iv p2, iv p3, iv p4, iv (own_pos p0), iv (own_pos p1), iv (own_pos p2), iv (own_pos p1), iv (p4 &&& (3 : Int32)), .unset, .unset, .unset, .unset, .unset] [(.int (own_pos p0)), (.ref ob10), (.ref ob10)])) _
    refine XS.iload X10.here hx rfl (hb hby at_75) rfl ?_
    show Steps p.tables e below (T10.setTop (mkF m 77 #[iv p0, iv p1, iv p2, iv p3, iv p4, iv (own_pos p0), iv (own_pos p1), iv (own_pos p2), iv (own_pos p1), iv (p4 &&& (3 : Int32)), .unset, .unset, .unset, .unset, .unset] [(.int (own_pos p1)), (.int (own_pos p0)), (.ref ob10), (.ref ob10)])) _
    exact k
  refine own_lift sg11 ?_
  show own_Go p.tables e below (T10.setTop (mkF m 77 #[iv p0, iv p1, iv p2, iv p3, iv p4, iv (own_pos p0), iv (own_pos p1), iv (own_pos p2), iv (own_pos p1), iv (p4 &&& (3 : Int32)), .unset, .unset, .unset, .unset, .unset] [(.int (own_pos p1)), (.int (own_pos p0)), (.ref ob10), (.ref ob10)])) _
  obtain ⟨_, _, ⟨T12, Lx12, kx12, nx12⟩, -, X12, ⟨Lc12, hQ12, lx12, yx12, zx12⟩, st12⟩ := X10.specialBack hx (y := (⟨"com/example/allsome/allsome/cypher/InputPosition", "<init>", "(II)V"⟩ : MethodName)) rfl hown (mvT hZ (wd hw 12 rfl)) (mvT hZ (wd hw 13 rfl)) (mvT hZ (wd hw 14 rfl)) (by decide) (backOf (W := 1) (rmInit l Z a0 hw [] ob10 (own_pos p0) (own_pos p1) h10 n0 Z10 Fn10_19 Fn10_21 Ax10 ge10 (own_pos_ge p0) (own_pos_ge p1)) hZ (wd hw 14 rfl) (wd hw 11 rfl) (by decide) (by decide)) (g := (mkF m 77 #[iv p0, iv p1, iv p2, iv p3, iv p4, iv (own_pos p0), iv (own_pos p1), iv (own_pos p2), iv (own_pos p1), iv (p4 &&& (3 : Int32)), .unset, .unset, .unset, .unset, .unset] [(.int (own_pos p1)), (.int (own_pos p0)), (.ref ob10), (.ref ob10)])) rfl (by rw [hml]; rfl) (Steps.refl _) (a := ob10) (argsL := [(.int (own_pos p0)), (.int (own_pos p1))]) (rest := [(.ref ob10)]) (lenOf pd_2 rfl) rfl (by show 2 * 0 + _ ≤ _; exact Nat.le_of_eq rfl) (hb hby at_77) (fun _ _ => ⟨rfl, e10, (by decide : 1 + 0 ≤ _), (by decide : 2 + 0 ≤ _)⟩)
  dsimp only [Pt.U, Pt.locs, Pt.cells, Pt.slots] at X12 lx12 yx12 zx12 st12 hQ12
  subst lx12 yx12 zx12
  obtain ⟨rfl, N12q, p12_0, p12_1, p12_2, p12_3⟩ := hQ12
  have N12 := Fr.app N8 N12q
  have Z12 : n0 ≤ T12.heap.size := Nat.le_trans Z10 p12_0.1
  refine own_lift (fun t k => st12.trans k) ?_
  show own_Go p.tables e below (T12.setTop (mkF m 80 #[iv p0, iv p1, iv p2, iv p3, iv p4, iv (own_pos p0), iv (own_pos p1), iv (own_pos p2), iv (own_pos p1), iv (p4 &&& (3 : Int32)), .unset, .unset, .unset, .unset, .unset] [(.ref ob10)])) _
  have sg13 : ∀ t, Steps p.tables e below (T12.setTop (mkF m 82 #[iv p0, iv p1, iv p2, iv p3, iv p4, iv (own_pos p0), iv (own_pos p1), iv (own_pos p2), iv (own_pos p1), iv (p4 &&& (3 : Int32)), rv ob10, .unset, .unset, .unset, .unset] [])) t → Steps p.tables e below (T12.setTop (mkF m 80 #[iv p0, iv p1, iv p2, iv p3, iv p4, iv (own_pos p0), iv (own_pos p1), iv (own_pos p2), iv (own_pos p1), iv (p4 &&& (3 : Int32)), .unset, .unset, .unset, .unset, .unset] [(.ref ob10)])) t := by
    intro t k
    refine XS.astore X12.here hx rfl (hb hby at_80) rfl rfl (l' := #[iv p0, iv p1, iv p2, iv p3, iv p4, iv (own_pos p0), iv (own_pos p1), iv (own_pos p2), iv (own_pos p1), iv (p4 &&& (3 : Int32)), rv ob10, .unset, .unset, .unset, .unset]) rfl ?_
    show Steps p.tables e below (T12.setTop (mkF m 82 #[iv p0, iv p1, iv p2, iv p3, iv p4, iv (own_pos p0), iv (own_pos p1), iv (own_pos p2), iv (own_pos p1), iv (p4 &&& (3 : Int32)), rv ob10, .unset, .unset, .unset, .unset] [])) _
    exact k
  refine own_lift sg13 ?_
  show own_Go p.tables e below (T12.setTop (mkF m 82 #[iv p0, iv p1, iv p2, iv p3, iv p4, iv (own_pos p0), iv (own_pos p1), iv (own_pos p2), iv (own_pos p1), iv (p4 &&& (3 : Int32)), rv ob10, .unset, .unset, .unset, .unset] [])) _
  obtain ⟨T14, h14, X14, e14, Ex14, Ax14, Dx14, Ux14, st14⟩ := newO X12 hx hZ hown (wd hw 9 rfl) (wd hw 10 rfl) (wd hw 11 rfl) rfl (g := (mkF m 82 #[iv p0, iv p1, iv p2, iv p3, iv p4, iv (own_pos p0), iv (own_pos p1), iv (own_pos p2), iv (own_pos p1), iv (p4 &&& (3 : Int32)), rv ob10, .unset, .unset, .unset, .unset] [])) rfl (hb hby at_82) (by decide) (by decide)
  obtain ⟨ob14, g14⟩ : ∃ z, z = T12.heap.size := ⟨_, rfl⟩
  rw [← g14] at Ax14 Dx14 Ux14 st14
  have ne15 : ob10 ≠ ob14 := Nat.ne_of_lt (Nat.lt_of_lt_of_le p12_1.lt (Nat.le_of_eq g14.symm))
  have Z14 : n0 ≤ h14.size := Nat.le_trans Z12 Ex14.1
  have ge14 : n0 ≤ ob14 := Nat.le_trans Z12 (Nat.le_of_eq g14.symm)
  have Fn14_19 : Fld Z h14 ob14 "com/example/allsome/allsome/cypher/InputPosition" "line" "I" (.int 0) := Dx14 (Or.inr (wd hw 19 rfl)) (ty := .int) (by decide)
  have Fn14_21 : Fld Z h14 ob14 "com/example/allsome/allsome/cypher/InputPosition" "column" "I" (.int 0) := Dx14 (Or.inr (wd hw 21 rfl)) (ty := .int) (by decide)
  refine own_lift st14 ?_
  show own_Go p.tables e below (T14.setTop (mkF m 85 #[iv p0, iv p1, iv p2, iv p3, iv p4, iv (own_pos p0), iv (own_pos p1), iv (own_pos p2), iv (own_pos p1), iv (p4 &&& (3 : Int32)), rv ob10, .unset, .unset, .unset, .unset] [(.ref ob14)])) _
  have sg16 : ∀ t, Steps p.tables e below (T14.setTop (mkF m 90 #[iv p0, iv p1, iv p2, iv p3, iv p4, iv (own_pos p0), iv (own_pos p1), iv (own_pos p2), iv (own_pos p1), iv (p4 &&& (3 : Int32)), rv ob10, .unset, .unset, .unset, .unset] [(.int (own_pos p1)), (.int (own_pos p2)), (.ref ob14), (.ref ob14)])) t → Steps p.tables e below (T14.setTop (mkF m 85 #[iv p0, iv p1, iv p2, iv p3, iv p4, iv (own_pos p0), iv (own_pos p1), iv (own_pos p2), iv (own_pos p1), iv (p4 &&& (3 : Int32)), rv ob10, .unset, .unset, .unset, .unset] [(.ref ob14)])) t := by
    intro t k
    refine XS.dup X14.here hx rfl (hb hby at_85) rfl rfl ?_
    show Steps p.tables e below (T14.setTop (mkF m 86 #[iv p0, iv p1, iv p2, iv p3, iv p4, iv (own_pos p0), iv (own_pos p1), iv (own_pos p2), iv (own_pos p1), iv (p4 &&& (3 : Int32)), rv ob10, .unset, .unset, .unset, .unset] [(.ref ob14), (.ref ob14)])) _
    refine XS.iload X14.here hx rfl (hb hby at_86) rfl ?_
    show Steps p.tables e below (T14.setTop (mkF m 88 #[iv p0, iv p1, iv p2, iv p3, iv p4, iv (own_pos p0), iv (own_pos p1), iv (own_pos p2), iv (own_pos p1), iv (p4 &&& (3 : Int32)), rv ob10, .unset, .unset, .unset, .unset] [(.int (own_pos p2)), (.ref ob14), (.ref ob14)])) _
    refine XS.iload X14.here hx rfl (hb hby at_88) rfl ?_
    show Steps p.tables e below (T14.setTop (mkF m 90 #[iv p0, iv p1, iv p2, iv p3, iv p4, iv (own_pos p0), iv (own_pos p1), iv (own_pos p2), iv (own_pos p1), iv (p4 &&& (3 : Int32)), rv ob10, .unset, .unset, .unset, .unset] [(.int (own_pos p1)), (.int (own_pos p2)), (.ref ob14), (.ref ob14)])) _
    exact k
  refine own_lift sg16 ?_
  show own_Go p.tables e below (T14.setTop (mkF m 90 #[iv p0, iv p1, iv p2, iv p3, iv p4, iv (own_pos p0), iv (own_pos p1), iv (own_pos p2), iv (own_pos p1), iv (p4 &&& (3 : Int32)), rv ob10, .unset, .unset, .unset, .unset] [(.int (own_pos p1)), (.int (own_pos p2)), (.ref ob14), (.ref ob14)])) _
  obtain ⟨_, _, ⟨T17, Lx17, kx17, nx17⟩, -, X17, ⟨Lc17, hQ17, lx17, yx17, zx17⟩, st17⟩ := X14.specialBack hx (y := (⟨"com/example/allsome/allsome/cypher/InputPosition", "<init>", "(II)V"⟩ : MethodName)) rfl hown (mvT hZ (wd hw 12 rfl)) (mvT hZ (wd hw 13 rfl)) (mvT hZ (wd hw 14 rfl)) (by decide) (backOf (W := 1) (rmInit l Z a0 hw [] ob14 (own_pos p2) (own_pos p1) h14 n0 Z14 Fn14_19 Fn14_21 Ax14 ge14 (own_pos_ge p2) (own_pos_ge p1)) hZ (wd hw 14 rfl) (wd hw 11 rfl) (by decide) (by decide)) (g := (mkF m 90 #[iv p0, iv p1, iv p2, iv p3, iv p4, iv (own_pos p0), iv (own_pos p1), iv (own_pos p2), iv (own_pos p1), iv (p4 &&& (3 : Int32)), rv ob10, .unset, .unset, .unset, .unset] [(.int (own_pos p1)), (.int (own_pos p2)), (.ref ob14), (.ref ob14)])) rfl (by rw [hml]; rfl) (Steps.refl _) (a := ob14) (argsL := [(.int (own_pos p2)), (.int (own_pos p1))]) (rest := [(.ref ob14)]) (lenOf pd_2 rfl) rfl (by show 2 * 0 + _ ≤ _; exact Nat.le_of_eq rfl) (hb hby at_90) (fun _ _ => ⟨rfl, e14, (by decide : 2 + 0 ≤ _), (by decide : 4 + 0 ≤ _)⟩)
  dsimp only [Pt.U, Pt.locs, Pt.cells, Pt.slots] at X17 lx17 yx17 zx17 st17 hQ17
  subst lx17 yx17 zx17
  obtain ⟨rfl, N17q, p17_0, p17_1, p17_2, p17_3⟩ := hQ17
  have N17 := Fr.app N12 N17q
  have Z17 : n0 ≤ T17.heap.size := Nat.le_trans Z14 p17_0.1
  refine own_lift (fun t k => st17.trans k) ?_
  show own_Go p.tables e below (T17.setTop (mkF m 93 #[iv p0, iv p1, iv p2, iv p3, iv p4, iv (own_pos p0), iv (own_pos p1), iv (own_pos p2), iv (own_pos p1), iv (p4 &&& (3 : Int32)), rv ob10, .unset, .unset, .unset, .unset] [(.ref ob14)])) _
  have sg18 : ∀ t, Steps p.tables e below (T17.setTop (mkF m 97 #[iv p0, iv p1, iv p2, iv p3, iv p4, iv (own_pos p0), iv (own_pos p1), iv (own_pos p2), iv (own_pos p1), iv (p4 &&& (3 : Int32)), rv ob10, rv ob14, .unset, .unset, .unset] [(.ref ob10)])) t → Steps p.tables e below (T17.setTop (mkF m 93 #[iv p0, iv p1, iv p2, iv p3, iv p4, iv (own_pos p0), iv (own_pos p1), iv (own_pos p2), iv (own_pos p1), iv (p4 &&& (3 : Int32)), rv ob10, .unset, .unset, .unset, .unset] [(.ref ob14)])) t := by
    intro t k
    refine XS.astore X17.here hx rfl (hb hby at_93) rfl rfl (l' := #[iv p0, iv p1, iv p2, iv p3, iv p4, iv (own_pos p0), iv (own_pos p1), iv (own_pos p2), iv (own_pos p1), iv (p4 &&& (3 : Int32)), rv ob10, rv ob14, .unset, .unset, .unset]) rfl ?_
    show Steps p.tables e below (T17.setTop (mkF m 95 #[iv p0, iv p1, iv p2, iv p3, iv p4, iv (own_pos p0), iv (own_pos p1), iv (own_pos p2), iv (own_pos p1), iv (p4 &&& (3 : Int32)), rv ob10, rv ob14, .unset, .unset, .unset] [])) _
    refine XS.aload X17.here hx rfl (hb hby at_95) rfl rfl ?_
    show Steps p.tables e below (T17.setTop (mkF m 97 #[iv p0, iv p1, iv p2, iv p3, iv p4, iv (own_pos p0), iv (own_pos p1), iv (own_pos p2), iv (own_pos p1), iv (p4 &&& (3 : Int32)), rv ob10, rv ob14, .unset, .unset, .unset] [(.ref ob10)])) _
    exact k
  refine own_lift sg18 ?_
  show own_Go p.tables e below (T17.setTop (mkF m 97 #[iv p0, iv p1, iv p2, iv p3, iv p4, iv (own_pos p0), iv (own_pos p1), iv (own_pos p2), iv (own_pos p1), iv (p4 &&& (3 : Int32)), rv ob10, rv ob14, .unset, .unset, .unset] [(.ref ob10)])) _
  have Fc19 : Fld Z T17.heap ob10 "com/example/allsome/allsome/cypher/InputPosition" "line" "I" (.int (own_pos p0)) := ((p12_2.ext Ex14).keep p17_0 (ninS ne15 nin0))
  have Fc20 : Fld Z T17.heap ob10 "com/example/allsome/allsome/cypher/InputPosition" "column" "I" (.int (own_pos p1)) := ((p12_3.ext Ex14).keep p17_0 (ninS ne15 nin0))
  have Fc22 : Exa Z T17.heap ob10 "com/example/allsome/allsome/cypher/InputPosition" := ((p12_1.ext Ex14).keep p17_0)
  obtain ⟨cq21, kq21, q21a, q21b, q21c⟩ := isOf hZ rfl Fc22
  obtain ⟨_, _, ⟨T21, Lx21, kx21, nx21⟩, -, X21, ⟨Lc21, hQ21, lx21, yx21, zx21⟩, st21⟩ := X17.virtualBack hx (y := (⟨"com/example/allsome/allsome/cypher/InputPosition", "hashCode", "()I"⟩ : MethodName)) (z := (⟨"com/example/allsome/allsome/cypher/InputPosition", "hashCode", "()I"⟩ : MethodName)) hown (mvT hZ (wd hw 22 rfl)) (mvT hZ (wd hw 23 rfl)) (notFace_of_selects (args := #[]) (mvT hZ (wd hw 25 rfl))) (mvT hZ (wd hw 25 rfl)) (mvT hZ (wd hw 24 rfl)) (by decide) (backOf (W := 0) (rmHash l Z a0 hw [] ob10 (own_pos p0) (own_pos p1) T17.heap n0 Z17 Fc19 Fc20) hZ (wd hw 26 rfl) (wd hw 11 rfl) (by decide) (by decide)) q21a q21c (g := (mkF m 97 #[iv p0, iv p1, iv p2, iv p3, iv p4, iv (own_pos p0), iv (own_pos p1), iv (own_pos p2), iv (own_pos p1), iv (p4 &&& (3 : Int32)), rv ob10, rv ob14, .unset, .unset, .unset] [(.ref ob10)])) rfl (by rw [hml]; rfl) (Steps.refl _) (argsL := []) (rest := []) (lenOf pd_3 rfl) rfl (by show 2 * 0 + _ ≤ _; exact Nat.le_of_eq rfl) (hb hby at_97) (fun _ _ => ⟨rfl, rfl, (by decide : 2 + 0 ≤ _), (by decide : 4 + 0 ≤ _)⟩)
  dsimp only [Pt.U, Pt.locs, Pt.cells, Pt.slots] at X21 lx21 yx21 zx21 st21 hQ21
  subst lx21 yx21 zx21
  obtain ⟨rfl, N21q, e21⟩ := hQ21
  have N21 := Fr.app N17 N21q
  refine own_lift (fun t k => st21.trans k) ?_
  show own_Go p.tables e below (T21.setTop (mkF m 100 #[iv p0, iv p1, iv p2, iv p3, iv p4, iv (own_pos p0), iv (own_pos p1), iv (own_pos p2), iv (own_pos p1), iv (p4 &&& (3 : Int32)), rv ob10, rv ob14, .unset, .unset, .unset] [(.int (((31 : Int32) * (own_pos p0)) + (own_pos p1)))])) _
  have sg23 : ∀ t, Steps p.tables e below (T21.setTop (mkF m 104 #[iv p0, iv p1, iv p2, iv p3, iv p4, iv (own_pos p0), iv (own_pos p1), iv (own_pos p2), iv (own_pos p1), iv (p4 &&& (3 : Int32)), rv ob10, rv ob14, iv (((31 : Int32) * (own_pos p0)) + (own_pos p1)), .unset, .unset] [(.ref ob10)])) t → Steps p.tables e below (T21.setTop (mkF m 100 #[iv p0, iv p1, iv p2, iv p3, iv p4, iv (own_pos p0), iv (own_pos p1), iv (own_pos p2), iv (own_pos p1), iv (p4 &&& (3 : Int32)), rv ob10, rv ob14, .unset, .unset, .unset] [(.int (((31 : Int32) * (own_pos p0)) + (own_pos p1)))])) t := by
    intro t k
    refine XS.istore X21.here hx rfl (hb hby at_100) rfl (l' := #[iv p0, iv p1, iv p2, iv p3, iv p4, iv (own_pos p0), iv (own_pos p1), iv (own_pos p2), iv (own_pos p1), iv (p4 &&& (3 : Int32)), rv ob10, rv ob14, iv (((31 : Int32) * (own_pos p0)) + (own_pos p1)), .unset, .unset]) rfl ?_
    show Steps p.tables e below (T21.setTop (mkF m 102 #[iv p0, iv p1, iv p2, iv p3, iv p4, iv (own_pos p0), iv (own_pos p1), iv (own_pos p2), iv (own_pos p1), iv (p4 &&& (3 : Int32)), rv ob10, rv ob14, iv (((31 : Int32) * (own_pos p0)) + (own_pos p1)), .unset, .unset] [])) _
    refine XS.aload X21.here hx rfl (hb hby at_102) rfl rfl ?_
    show Steps p.tables e below (T21.setTop (mkF m 104 #[iv p0, iv p1, iv p2, iv p3, iv p4, iv (own_pos p0), iv (own_pos p1), iv (own_pos p2), iv (own_pos p1), iv (p4 &&& (3 : Int32)), rv ob10, rv ob14, iv (((31 : Int32) * (own_pos p0)) + (own_pos p1)), .unset, .unset] [(.ref ob10)])) _
    exact k
  refine own_lift sg23 ?_
  show own_Go p.tables e below (T21.setTop (mkF m 104 #[iv p0, iv p1, iv p2, iv p3, iv p4, iv (own_pos p0), iv (own_pos p1), iv (own_pos p2), iv (own_pos p1), iv (p4 &&& (3 : Int32)), rv ob10, rv ob14, iv (((31 : Int32) * (own_pos p0)) + (own_pos p1)), .unset, .unset] [(.ref ob10)])) _
  obtain ⟨cq24, kq24, q24a, q24b, q24c⟩ := isOf hZ e21 Fc22
  obtain ⟨_, _, ⟨T24, Lx24, kx24, nx24⟩, -, X24, ⟨Lc24, hQ24, lx24, yx24, zx24⟩, st24⟩ := X21.virtualBack hx (y := (⟨"com/example/allsome/allsome/cypher/InputPosition", "hashCode", "()I"⟩ : MethodName)) (z := (⟨"com/example/allsome/allsome/cypher/InputPosition", "hashCode", "()I"⟩ : MethodName)) hown (mvT hZ (wd hw 22 rfl)) (mvT hZ (wd hw 23 rfl)) (notFace_of_selects (args := #[]) (mvT hZ (wd hw 25 rfl))) (mvT hZ (wd hw 25 rfl)) (mvT hZ (wd hw 24 rfl)) (by decide) (backOf (W := 0) (rmHash l Z a0 hw [] ob10 (own_pos p0) (own_pos p1) T17.heap n0 Z17 Fc19 Fc20) hZ (wd hw 26 rfl) (wd hw 11 rfl) (by decide) (by decide)) q24a q24c (g := (mkF m 104 #[iv p0, iv p1, iv p2, iv p3, iv p4, iv (own_pos p0), iv (own_pos p1), iv (own_pos p2), iv (own_pos p1), iv (p4 &&& (3 : Int32)), rv ob10, rv ob14, iv (((31 : Int32) * (own_pos p0)) + (own_pos p1)), .unset, .unset] [(.ref ob10)])) rfl (by rw [hml]; rfl) (Steps.refl _) (argsL := []) (rest := []) (lenOf pd_3 rfl) rfl (by show 2 * 0 + _ ≤ _; exact Nat.le_of_eq rfl) (hb hby at_104) (fun _ _ => ⟨rfl, e21, (by decide : 2 + 0 ≤ _), (by decide : 4 + 0 ≤ _)⟩)
  dsimp only [Pt.U, Pt.locs, Pt.cells, Pt.slots] at X24 lx24 yx24 zx24 st24 hQ24
  subst lx24 yx24 zx24
  obtain ⟨rfl, N24q, e24⟩ := hQ24
  have N24 := Fr.app N21 N24q
  refine own_lift (fun t k => st24.trans k) ?_
  show own_Go p.tables e below (T24.setTop (mkF m 107 #[iv p0, iv p1, iv p2, iv p3, iv p4, iv (own_pos p0), iv (own_pos p1), iv (own_pos p2), iv (own_pos p1), iv (p4 &&& (3 : Int32)), rv ob10, rv ob14, iv (((31 : Int32) * (own_pos p0)) + (own_pos p1)), .unset, .unset] [(.int (((31 : Int32) * (own_pos p0)) + (own_pos p1)))])) _
  have sg25 : ∀ t, Steps p.tables e below (T24.setTop (mkF m 111 #[iv p0, iv p1, iv p2, iv p3, iv p4, iv (own_pos p0), iv (own_pos p1), iv (own_pos p2), iv (own_pos p1), iv (p4 &&& (3 : Int32)), rv ob10, rv ob14, iv (((31 : Int32) * (own_pos p0)) + (own_pos p1)), iv (((31 : Int32) * (own_pos p0)) + (own_pos p1)), .unset] [(.ref ob14)])) t → Steps p.tables e below (T24.setTop (mkF m 107 #[iv p0, iv p1, iv p2, iv p3, iv p4, iv (own_pos p0), iv (own_pos p1), iv (own_pos p2), iv (own_pos p1), iv (p4 &&& (3 : Int32)), rv ob10, rv ob14, iv (((31 : Int32) * (own_pos p0)) + (own_pos p1)), .unset, .unset] [(.int (((31 : Int32) * (own_pos p0)) + (own_pos p1)))])) t := by
    intro t k
    refine XS.istore X24.here hx rfl (hb hby at_107) rfl (l' := #[iv p0, iv p1, iv p2, iv p3, iv p4, iv (own_pos p0), iv (own_pos p1), iv (own_pos p2), iv (own_pos p1), iv (p4 &&& (3 : Int32)), rv ob10, rv ob14, iv (((31 : Int32) * (own_pos p0)) + (own_pos p1)), iv (((31 : Int32) * (own_pos p0)) + (own_pos p1)), .unset]) rfl ?_
    show Steps p.tables e below (T24.setTop (mkF m 109 #[iv p0, iv p1, iv p2, iv p3, iv p4, iv (own_pos p0), iv (own_pos p1), iv (own_pos p2), iv (own_pos p1), iv (p4 &&& (3 : Int32)), rv ob10, rv ob14, iv (((31 : Int32) * (own_pos p0)) + (own_pos p1)), iv (((31 : Int32) * (own_pos p0)) + (own_pos p1)), .unset] [])) _
    refine XS.aload X24.here hx rfl (hb hby at_109) rfl rfl ?_
    show Steps p.tables e below (T24.setTop (mkF m 111 #[iv p0, iv p1, iv p2, iv p3, iv p4, iv (own_pos p0), iv (own_pos p1), iv (own_pos p2), iv (own_pos p1), iv (p4 &&& (3 : Int32)), rv ob10, rv ob14, iv (((31 : Int32) * (own_pos p0)) + (own_pos p1)), iv (((31 : Int32) * (own_pos p0)) + (own_pos p1)), .unset] [(.ref ob14)])) _
    exact k
  refine own_lift sg25 ?_
  show own_Go p.tables e below (T24.setTop (mkF m 111 #[iv p0, iv p1, iv p2, iv p3, iv p4, iv (own_pos p0), iv (own_pos p1), iv (own_pos p2), iv (own_pos p1), iv (p4 &&& (3 : Int32)), rv ob10, rv ob14, iv (((31 : Int32) * (own_pos p0)) + (own_pos p1)), iv (((31 : Int32) * (own_pos p0)) + (own_pos p1)), .unset] [(.ref ob14)])) _
  obtain ⟨cq26, kq26, q26a, q26b, q26c⟩ := isOf hZ e24 p17_1
  obtain ⟨_, _, ⟨T26, Lx26, kx26, nx26⟩, -, X26, ⟨Lc26, hQ26, lx26, yx26, zx26⟩, st26⟩ := X24.virtualBack hx (y := (⟨"com/example/allsome/allsome/cypher/InputPosition", "hashCode", "()I"⟩ : MethodName)) (z := (⟨"com/example/allsome/allsome/cypher/InputPosition", "hashCode", "()I"⟩ : MethodName)) hown (mvT hZ (wd hw 22 rfl)) (mvT hZ (wd hw 23 rfl)) (notFace_of_selects (args := #[]) (mvT hZ (wd hw 25 rfl))) (mvT hZ (wd hw 25 rfl)) (mvT hZ (wd hw 24 rfl)) (by decide) (backOf (W := 0) (rmHash l Z a0 hw [] ob14 (own_pos p2) (own_pos p1) T17.heap n0 Z17 p17_2 p17_3) hZ (wd hw 26 rfl) (wd hw 11 rfl) (by decide) (by decide)) q26a q26c (g := (mkF m 111 #[iv p0, iv p1, iv p2, iv p3, iv p4, iv (own_pos p0), iv (own_pos p1), iv (own_pos p2), iv (own_pos p1), iv (p4 &&& (3 : Int32)), rv ob10, rv ob14, iv (((31 : Int32) * (own_pos p0)) + (own_pos p1)), iv (((31 : Int32) * (own_pos p0)) + (own_pos p1)), .unset] [(.ref ob14)])) rfl (by rw [hml]; rfl) (Steps.refl _) (argsL := []) (rest := []) (lenOf pd_3 rfl) rfl (by show 2 * 0 + _ ≤ _; exact Nat.le_of_eq rfl) (hb hby at_111) (fun _ _ => ⟨rfl, e24, (by decide : 2 + 0 ≤ _), (by decide : 4 + 0 ≤ _)⟩)
  dsimp only [Pt.U, Pt.locs, Pt.cells, Pt.slots] at X26 lx26 yx26 zx26 st26 hQ26
  subst lx26 yx26 zx26
  obtain ⟨rfl, N26q, e26⟩ := hQ26
  have N26 := Fr.app N24 N26q
  refine own_lift (fun t k => st26.trans k) ?_
  show own_Go p.tables e below (T26.setTop (mkF m 114 #[iv p0, iv p1, iv p2, iv p3, iv p4, iv (own_pos p0), iv (own_pos p1), iv (own_pos p2), iv (own_pos p1), iv (p4 &&& (3 : Int32)), rv ob10, rv ob14, iv (((31 : Int32) * (own_pos p0)) + (own_pos p1)), iv (((31 : Int32) * (own_pos p0)) + (own_pos p1)), .unset] [(.int (((31 : Int32) * (own_pos p2)) + (own_pos p1)))])) _
  have sg27 : ∀ t, Steps p.tables e below (T26.setTop (mkF m 129 #[iv p0, iv p1, iv p2, iv p3, iv p4, iv (own_pos p0), iv (own_pos p1), iv (own_pos p2), iv (own_pos p1), iv (p4 &&& (3 : Int32)), rv ob10, rv ob14, iv (((31 : Int32) * (own_pos p0)) + (own_pos p1)), iv (((31 : Int32) * (own_pos p0)) + (own_pos p1)), iv (((31 : Int32) * (own_pos p2)) + (own_pos p1))] [(.ref ob14), (.ref ob10)])) t → Steps p.tables e below (T26.setTop (mkF m 114 #[iv p0, iv p1, iv p2, iv p3, iv p4, iv (own_pos p0), iv (own_pos p1), iv (own_pos p2), iv (own_pos p1), iv (p4 &&& (3 : Int32)), rv ob10, rv ob14, iv (((31 : Int32) * (own_pos p0)) + (own_pos p1)), iv (((31 : Int32) * (own_pos p0)) + (own_pos p1)), .unset] [(.int (((31 : Int32) * (own_pos p2)) + (own_pos p1)))])) t := by
    intro t k
    refine XS.istore X26.here hx rfl (hb hby at_114) rfl (l' := #[iv p0, iv p1, iv p2, iv p3, iv p4, iv (own_pos p0), iv (own_pos p1), iv (own_pos p2), iv (own_pos p1), iv (p4 &&& (3 : Int32)), rv ob10, rv ob14, iv (((31 : Int32) * (own_pos p0)) + (own_pos p1)), iv (((31 : Int32) * (own_pos p0)) + (own_pos p1)), iv (((31 : Int32) * (own_pos p2)) + (own_pos p1))]) rfl ?_
    show Steps p.tables e below (T26.setTop (mkF m 116 #[iv p0, iv p1, iv p2, iv p3, iv p4, iv (own_pos p0), iv (own_pos p1), iv (own_pos p2), iv (own_pos p1), iv (p4 &&& (3 : Int32)), rv ob10, rv ob14, iv (((31 : Int32) * (own_pos p0)) + (own_pos p1)), iv (((31 : Int32) * (own_pos p0)) + (own_pos p1)), iv (((31 : Int32) * (own_pos p2)) + (own_pos p1))] [])) _
    refine XS.iload X26.here hx rfl (hb hby at_116) rfl ?_
    show Steps p.tables e below (T26.setTop (mkF m 118 #[iv p0, iv p1, iv p2, iv p3, iv p4, iv (own_pos p0), iv (own_pos p1), iv (own_pos p2), iv (own_pos p1), iv (p4 &&& (3 : Int32)), rv ob10, rv ob14, iv (((31 : Int32) * (own_pos p0)) + (own_pos p1)), iv (((31 : Int32) * (own_pos p0)) + (own_pos p1)), iv (((31 : Int32) * (own_pos p2)) + (own_pos p1))] [(.int (((31 : Int32) * (own_pos p0)) + (own_pos p1)))])) _
    refine XS.iload X26.here hx rfl (hb hby at_118) rfl ?_
    show Steps p.tables e below (T26.setTop (mkF m 120 #[iv p0, iv p1, iv p2, iv p3, iv p4, iv (own_pos p0), iv (own_pos p1), iv (own_pos p2), iv (own_pos p1), iv (p4 &&& (3 : Int32)), rv ob10, rv ob14, iv (((31 : Int32) * (own_pos p0)) + (own_pos p1)), iv (((31 : Int32) * (own_pos p0)) + (own_pos p1)), iv (((31 : Int32) * (own_pos p2)) + (own_pos p1))] [(.int (((31 : Int32) * (own_pos p0)) + (own_pos p1))), (.int (((31 : Int32) * (own_pos p0)) + (own_pos p1)))])) _
    refine XS.icmpYes X26.here hx rfl (pc0 := 120) (pc' := 125) rfl (hb hby at_120) rfl (teq (rfl : (((31 : Int32) * (own_pos p0)) + (own_pos p1)) = (((31 : Int32) * (own_pos p0)) + (own_pos p1)))).1 (by decide) (by decide) ?_
    show Steps p.tables e below (T26.setTop (mkF m 125 #[iv p0, iv p1, iv p2, iv p3, iv p4, iv (own_pos p0), iv (own_pos p1), iv (own_pos p2), iv (own_pos p1), iv (p4 &&& (3 : Int32)), rv ob10, rv ob14, iv (((31 : Int32) * (own_pos p0)) + (own_pos p1)), iv (((31 : Int32) * (own_pos p0)) + (own_pos p1)), iv (((31 : Int32) * (own_pos p2)) + (own_pos p1))] [])) _
    refine XS.aload X26.here hx rfl (hb hby at_125) rfl rfl ?_
    show Steps p.tables e below (T26.setTop (mkF m 127 #[iv p0, iv p1, iv p2, iv p3, iv p4, iv (own_pos p0), iv (own_pos p1), iv (own_pos p2), iv (own_pos p1), iv (p4 &&& (3 : Int32)), rv ob10, rv ob14, iv (((31 : Int32) * (own_pos p0)) + (own_pos p1)), iv (((31 : Int32) * (own_pos p0)) + (own_pos p1)), iv (((31 : Int32) * (own_pos p2)) + (own_pos p1))] [(.ref ob10)])) _
    refine XS.aload X26.here hx rfl (hb hby at_127) rfl rfl ?_
    show Steps p.tables e below (T26.setTop (mkF m 129 #[iv p0, iv p1, iv p2, iv p3, iv p4, iv (own_pos p0), iv (own_pos p1), iv (own_pos p2), iv (own_pos p1), iv (p4 &&& (3 : Int32)), rv ob10, rv ob14, iv (((31 : Int32) * (own_pos p0)) + (own_pos p1)), iv (((31 : Int32) * (own_pos p0)) + (own_pos p1)), iv (((31 : Int32) * (own_pos p2)) + (own_pos p1))] [(.ref ob14), (.ref ob10)])) _
    exact k
  refine own_lift sg27 ?_
  show own_Go p.tables e below (T26.setTop (mkF m 129 #[iv p0, iv p1, iv p2, iv p3, iv p4, iv (own_pos p0), iv (own_pos p1), iv (own_pos p2), iv (own_pos p1), iv (p4 &&& (3 : Int32)), rv ob10, rv ob14, iv (((31 : Int32) * (own_pos p0)) + (own_pos p1)), iv (((31 : Int32) * (own_pos p0)) + (own_pos p1)), iv (((31 : Int32) * (own_pos p2)) + (own_pos p1))] [(.ref ob14), (.ref ob10)])) _
  obtain ⟨cq28, kq28, q28a, q28b, q28c⟩ := isOf hZ e26 Fc22
  obtain ⟨_, _, ⟨T28, Lx28, kx28, nx28⟩, -, X28, ⟨Lc28, hQ28, lx28, yx28, zx28⟩, st28⟩ := X26.virtualBack hx (y := (⟨"com/example/allsome/allsome/cypher/InputPosition", "equals", "(Ljava/lang/Object;)Z"⟩ : MethodName)) (z := (⟨"com/example/allsome/allsome/cypher/InputPosition", "equals", "(Ljava/lang/Object;)Z"⟩ : MethodName)) hown (mvT hZ (wd hw 27 rfl)) (mvT hZ (wd hw 28 rfl)) (notFace_of_selects (args := #[]) (mvT hZ (wd hw 30 rfl))) (mvT hZ (wd hw 30 rfl)) (mvT hZ (wd hw 29 rfl)) (by decide) (backOf (W := 0) (rmEqY l Z a0 hw [] ob10 ob14 (own_pos p0) (own_pos p1) (own_pos p2) (own_pos p1) T17.heap n0 Z17 Fc19 Fc20 p17_2 p17_3 p17_1 hl (rfl : (own_pos p1) = (own_pos p1))) hZ (wd hw 31 rfl) (wd hw 11 rfl) (by decide) (by decide)) q28a q28c (g := (mkF m 129 #[iv p0, iv p1, iv p2, iv p3, iv p4, iv (own_pos p0), iv (own_pos p1), iv (own_pos p2), iv (own_pos p1), iv (p4 &&& (3 : Int32)), rv ob10, rv ob14, iv (((31 : Int32) * (own_pos p0)) + (own_pos p1)), iv (((31 : Int32) * (own_pos p0)) + (own_pos p1)), iv (((31 : Int32) * (own_pos p2)) + (own_pos p1))] [(.ref ob14), (.ref ob10)])) rfl (by rw [hml]; rfl) (Steps.refl _) (argsL := [(.ref ob14)]) (rest := []) (lenOf pd_4 rfl) rfl (by show 2 * 0 + _ ≤ _; exact Nat.le_of_eq rfl) (hb hby at_129) (fun _ _ => ⟨rfl, e26, (by decide : 2 + 0 ≤ _), (by decide : 4 + 0 ≤ _)⟩)
  dsimp only [Pt.U, Pt.locs, Pt.cells, Pt.slots] at X28 lx28 yx28 zx28 st28 hQ28
  subst lx28 yx28 zx28
  obtain ⟨rfl, N28q, e28⟩ := hQ28
  have N28 := Fr.app N26 N28q
  refine own_lift (fun t k => st28.trans k) ?_
  show own_Go p.tables e below (T28.setTop (mkF m 132 #[iv p0, iv p1, iv p2, iv p3, iv p4, iv (own_pos p0), iv (own_pos p1), iv (own_pos p2), iv (own_pos p1), iv (p4 &&& (3 : Int32)), rv ob10, rv ob14, iv (((31 : Int32) * (own_pos p0)) + (own_pos p1)), iv (((31 : Int32) * (own_pos p0)) + (own_pos p1)), iv (((31 : Int32) * (own_pos p2)) + (own_pos p1))] [(.int 1)])) _
  have sg29 : ∀ t, Steps p.tables e below (T28.setTop (mkF m 145 #[iv p0, iv p1, iv p2, iv p3, iv p4, iv (own_pos p0), iv (own_pos p1), iv (own_pos p2), iv (own_pos p1), iv (p4 &&& (3 : Int32)), rv ob10, rv ob14, iv (((31 : Int32) * (own_pos p0)) + (own_pos p1)), iv (((31 : Int32) * (own_pos p0)) + (own_pos p1)), iv (((31 : Int32) * (own_pos p2)) + (own_pos p1))] [(.int 1)])) t → Steps p.tables e below (T28.setTop (mkF m 132 #[iv p0, iv p1, iv p2, iv p3, iv p4, iv (own_pos p0), iv (own_pos p1), iv (own_pos p2), iv (own_pos p1), iv (p4 &&& (3 : Int32)), rv ob10, rv ob14, iv (((31 : Int32) * (own_pos p0)) + (own_pos p1)), iv (((31 : Int32) * (own_pos p0)) + (own_pos p1)), iv (((31 : Int32) * (own_pos p2)) + (own_pos p1))] [(.int 1)])) t := by
    intro t k
    refine XS.ifNo X28.here hx rfl (hb hby at_132) rfl ((if0 _ _).trans (feq (by decide : ¬ ((1 : Int32) = (0 : Int32)))).1) ?_
    show Steps p.tables e below (T28.setTop (mkF m 135 #[iv p0, iv p1, iv p2, iv p3, iv p4, iv (own_pos p0), iv (own_pos p1), iv (own_pos p2), iv (own_pos p1), iv (p4 &&& (3 : Int32)), rv ob10, rv ob14, iv (((31 : Int32) * (own_pos p0)) + (own_pos p1)), iv (((31 : Int32) * (own_pos p0)) + (own_pos p1)), iv (((31 : Int32) * (own_pos p2)) + (own_pos p1))] [])) _
    refine XS.iload X28.here hx rfl (hb hby at_135) rfl ?_
    show Steps p.tables e below (T28.setTop (mkF m 137 #[iv p0, iv p1, iv p2, iv p3, iv p4, iv (own_pos p0), iv (own_pos p1), iv (own_pos p2), iv (own_pos p1), iv (p4 &&& (3 : Int32)), rv ob10, rv ob14, iv (((31 : Int32) * (own_pos p0)) + (own_pos p1)), iv (((31 : Int32) * (own_pos p0)) + (own_pos p1)), iv (((31 : Int32) * (own_pos p2)) + (own_pos p1))] [(.int (((31 : Int32) * (own_pos p0)) + (own_pos p1)))])) _
    refine XS.iload X28.here hx rfl (hb hby at_137) rfl ?_
    show Steps p.tables e below (T28.setTop (mkF m 139 #[iv p0, iv p1, iv p2, iv p3, iv p4, iv (own_pos p0), iv (own_pos p1), iv (own_pos p2), iv (own_pos p1), iv (p4 &&& (3 : Int32)), rv ob10, rv ob14, iv (((31 : Int32) * (own_pos p0)) + (own_pos p1)), iv (((31 : Int32) * (own_pos p0)) + (own_pos p1)), iv (((31 : Int32) * (own_pos p2)) + (own_pos p1))] [(.int (((31 : Int32) * (own_pos p2)) + (own_pos p1))), (.int (((31 : Int32) * (own_pos p0)) + (own_pos p1)))])) _
    refine XS.icmpYes X28.here hx rfl (pc0 := 139) (pc' := 144) rfl (hb hby at_139) rfl (teq (show (((31 : Int32) * (own_pos p0)) + (own_pos p1)) = (((31 : Int32) * (own_pos p2)) + (own_pos p1)) by rw [hl])).1 (by decide) (by decide) ?_
    show Steps p.tables e below (T28.setTop (mkF m 144 #[iv p0, iv p1, iv p2, iv p3, iv p4, iv (own_pos p0), iv (own_pos p1), iv (own_pos p2), iv (own_pos p1), iv (p4 &&& (3 : Int32)), rv ob10, rv ob14, iv (((31 : Int32) * (own_pos p0)) + (own_pos p1)), iv (((31 : Int32) * (own_pos p0)) + (own_pos p1)), iv (((31 : Int32) * (own_pos p2)) + (own_pos p1))] [])) _
    refine XS.iconst X28.here hx rfl (hb hby at_144) ?_
    show Steps p.tables e below (T28.setTop (mkF m 145 #[iv p0, iv p1, iv p2, iv p3, iv p4, iv (own_pos p0), iv (own_pos p1), iv (own_pos p2), iv (own_pos p1), iv (p4 &&& (3 : Int32)), rv ob10, rv ob14, iv (((31 : Int32) * (own_pos p0)) + (own_pos p1)), iv (((31 : Int32) * (own_pos p0)) + (own_pos p1)), iv (((31 : Int32) * (own_pos p2)) + (own_pos p1))] [(.int 1)])) _
    exact k
  refine own_lift sg29 ?_
  show own_Go p.tables e below (T28.setTop (mkF m 145 #[iv p0, iv p1, iv p2, iv p3, iv p4, iv (own_pos p0), iv (own_pos p1), iv (own_pos p2), iv (own_pos p1), iv (p4 &&& (3 : Int32)), rv ob10, rv ob14, iv (((31 : Int32) * (own_pos p0)) + (own_pos p1)), iv (((31 : Int32) * (own_pos p0)) + (own_pos p1)), iv (((31 : Int32) * (own_pos p2)) + (own_pos p1))] [(.int 1)])) _
  obtain ⟨fs, hr, hrun, hended, hW, hsame⟩ := X28.leave (v := some (.int 1)) (fun h => by rw [Bd.returns] at h; cases h)
  refine ⟨_, _, ?_, hrun, hended, _, _, rfl, ?_, ⟨_, rfl⟩, hW, hsame.mono (by decide) (by decide)⟩
  · exact retN X28 hx (t := .boolean) Bd.returns (by simp) (hb hby at_145) hr
  · show Q0 Z  h0 n0 _ T28.heap _
    rw [e28]
    exact ⟨rfl, N28⟩
theorem ef_rm0_2n (m : MethodId) (x0 : Int32) (x1 : Int32) (x2 : Int32) (x3 : Int32) (x4 : Int32) : entryFrame m #[(.int x0), (.int x1), (.int x2), (.int x3), (.int x4)] maxLocals = mkF m 0 #[.val (.int x0), .val (.int x1), .val (.int x2), .val (.int x3), .val (.int x4), .unset, .unset, .unset, .unset, .unset, .unset, .unset, .unset, .unset, .unset] [] := by first | (simp [entryFrame, mkF, argsToLocals, Value.category, maxLocals]; done) | rfl
set_option maxRecDepth 65536 in
set_option maxHeartbeats 40000000 in
theorem rm0_2n (l : Launch) (Z : State) (a0 : Array Value) (hw : ∀ d ∈ tables_1, d.before a0 Z = true) (ws : List Jvm.Cond) (p0 : Int32) (p1 : Int32) (p2 : Int32) (p3 : Int32) (p4 : Int32) (h0 : Heap) (n0 : Nat) (Z0 : n0 ≤ h0.size)  (m0 : ¬ ((p4 &&& (3 : Int32)) = (0 : Int32))) (m1 : ¬ ((p4 &&& (3 : Int32)) = (1 : Int32))) (m2 : (p4 &&& (3 : Int32)) = (2 : Int32)) (hl : ¬ ((own_pos p0) = (own_pos p2))) :
    MetFree l x (head1 (Jvm.Cond.code x code maxLocals ret :: ws) room_1) (fun a U => a = #[(.int p0), (.int p1), (.int p2), (.int p3), (.int p4)] ∧ Z.Warmed39 U.vm ∧ U.heap = h0) (fun _ _ _ _ _ => True) (fun _ U o U' => ∃ v L, o = .returned v ∧ Q0 Z  h0 n0 v U'.heap L ∧ FrameEnd U o U' L 16 128) := by
  refine MetFree.of_bodySF (plainFor_of_name pn_1) hisR ?_
  intro p e s m args below meth c s₁ Bd hml0 hP hK
  obtain ⟨rfl, hZ, hh⟩ := hP
  have hx := Bd.exec
  have hby := Bd.bytes
  have hml : c.maxLocals = 15 := hml0
  have hown : s.vm.findClass "com/example/allsome/allsome/cypher/InputPositionHashCodePinLaw" = some m.cls := findClass_of_methodNamed Bd.named
  have hnm := (name_of_methodNamed Bd.named Bd.method).1
  have X0 : Stand p l e room_1 s m #[(.int p0), (.int p1), (.int p2), (.int p3), (.int p4)] below meth c s₁ [] 0 0 := Stand.of_body Bd
  have e0 : s₁.heap = h0 := by rw [← hh, Bd.state]; rfl
  have N0 := Fr.nil n0
  refine own_go (own_lift (fun t k => castTop (ef_rm0_2n m p0 p1 p2 p3 p4) k) ?_)
  show own_Go p.tables e below (s₁.setTop (mkF m 0 #[iv p0, iv p1, iv p2, iv p3, iv p4, .unset, .unset, .unset, .unset, .unset, .unset, .unset, .unset, .unset, .unset] [])) _
  have sg1 : ∀ t, Steps p.tables e below (s₁.setTop (mkF m 1 #[iv p0, iv p1, iv p2, iv p3, iv p4, .unset, .unset, .unset, .unset, .unset, .unset, .unset, .unset, .unset, .unset] [(.int p0)])) t → Steps p.tables e below (s₁.setTop (mkF m 0 #[iv p0, iv p1, iv p2, iv p3, iv p4, .unset, .unset, .unset, .unset, .unset, .unset, .unset, .unset, .unset, .unset] [])) t := by
    intro t k
    refine XS.iloadN X0.here hx rfl (hb hby at_0) rfl ?_
    show Steps p.tables e below (s₁.setTop (mkF m 1 #[iv p0, iv p1, iv p2, iv p3, iv p4, .unset, .unset, .unset, .unset, .unset, .unset, .unset, .unset, .unset, .unset] [(.int p0)])) _
    exact k
  refine own_lift sg1 ?_
  show own_Go p.tables e below (s₁.setTop (mkF m 1 #[iv p0, iv p1, iv p2, iv p3, iv p4, .unset, .unset, .unset, .unset, .unset, .unset, .unset, .unset, .unset, .unset] [(.int p0)])) _
  obtain ⟨_, _, ⟨T2, Lx2, kx2, nx2⟩, -, X2, ⟨Lc2, hQ2, lx2, yx2, zx2⟩, st2⟩ := Jvm.LawKit.callS X0 hx (y := (⟨"com/example/allsome/allsome/cypher/InputPositionHashCodePinLaw", "pos", "(I)I"⟩ : MethodName)) hown (mvT hZ (wd hw 0 rfl)) (mvT hZ (wd hw 1 rfl)) (mvT hZ (wd hw 2 rfl)) (mvT hZ (wd hw 3 rfl)) (by decide) (backOf (W := 0) (rmPos l Z a0 hw [] p0 h0 n0 Z0 ) hZ (wd hw 3 rfl) (wd hw 2 rfl) (by decide) (by decide)) (g := (mkF m 1 #[iv p0, iv p1, iv p2, iv p3, iv p4, .unset, .unset, .unset, .unset, .unset, .unset, .unset, .unset, .unset, .unset] [(.int p0)])) rfl (by rw [hml]; rfl) (argsL := [(.int p0)]) (rest := []) (lenOf pd_1 rfl) rfl (by show 2 * 0 + _ ≤ _; exact Nat.le_of_eq rfl) (hb hby at_1) (fun _ _ => ⟨rfl, e0, (by decide : 0 + 0 ≤ _), (by decide : 0 + 0 ≤ _)⟩)
  dsimp only [Pt.U, Pt.locs, Pt.cells, Pt.slots] at X2 lx2 yx2 zx2 st2 hQ2
  subst lx2 yx2 zx2
  obtain ⟨rfl, N2q, e2⟩ := hQ2
  have N2 := Fr.app N0 N2q
  refine own_lift st2 ?_
  show own_Go p.tables e below (T2.setTop (mkF m 4 #[iv p0, iv p1, iv p2, iv p3, iv p4, .unset, .unset, .unset, .unset, .unset, .unset, .unset, .unset, .unset, .unset] [(.int (own_pos p0))])) _
  have sg3 : ∀ t, Steps p.tables e below (T2.setTop (mkF m 7 #[iv p0, iv p1, iv p2, iv p3, iv p4, iv (own_pos p0), .unset, .unset, .unset, .unset, .unset, .unset, .unset, .unset, .unset] [(.int p1)])) t → Steps p.tables e below (T2.setTop (mkF m 4 #[iv p0, iv p1, iv p2, iv p3, iv p4, .unset, .unset, .unset, .unset, .unset, .unset, .unset, .unset, .unset, .unset] [(.int (own_pos p0))])) t := by
    intro t k
    refine XS.istore X2.here hx rfl (hb hby at_4) rfl (l' := #[iv p0, iv p1, iv p2, iv p3, iv p4, iv (own_pos p0), .unset, .unset, .unset, .unset, .unset, .unset, .unset, .unset, .unset]) rfl ?_
    show Steps p.tables e below (T2.setTop (mkF m 6 #[iv p0, iv p1, iv p2, iv p3, iv p4, iv (own_pos p0), .unset, .unset, .unset, .unset, .unset, .unset, .unset, .unset, .unset] [])) _
    refine XS.iloadN X2.here hx rfl (hb hby at_6) rfl ?_
    show Steps p.tables e below (T2.setTop (mkF m 7 #[iv p0, iv p1, iv p2, iv p3, iv p4, iv (own_pos p0), .unset, .unset, .unset, .unset, .unset, .unset, .unset, .unset, .unset] [(.int p1)])) _
    exact k
  refine own_lift sg3 ?_
  show own_Go p.tables e below (T2.setTop (mkF m 7 #[iv p0, iv p1, iv p2, iv p3, iv p4, iv (own_pos p0), .unset, .unset, .unset, .unset, .unset, .unset, .unset, .unset, .unset] [(.int p1)])) _
  obtain ⟨_, _, ⟨T4, Lx4, kx4, nx4⟩, -, X4, ⟨Lc4, hQ4, lx4, yx4, zx4⟩, st4⟩ := Jvm.LawKit.callS X2 hx (y := (⟨"com/example/allsome/allsome/cypher/InputPositionHashCodePinLaw", "pos", "(I)I"⟩ : MethodName)) hown (mvT hZ (wd hw 0 rfl)) (mvT hZ (wd hw 1 rfl)) (mvT hZ (wd hw 2 rfl)) (mvT hZ (wd hw 3 rfl)) (by decide) (backOf (W := 0) (rmPos l Z a0 hw [] p1 h0 n0 Z0 ) hZ (wd hw 3 rfl) (wd hw 2 rfl) (by decide) (by decide)) (g := (mkF m 7 #[iv p0, iv p1, iv p2, iv p3, iv p4, iv (own_pos p0), .unset, .unset, .unset, .unset, .unset, .unset, .unset, .unset, .unset] [(.int p1)])) rfl (by rw [hml]; rfl) (argsL := [(.int p1)]) (rest := []) (lenOf pd_1 rfl) rfl (by show 2 * 0 + _ ≤ _; exact Nat.le_of_eq rfl) (hb hby at_7) (fun _ _ => ⟨rfl, e2, (by decide : 0 + 0 ≤ _), (by decide : 0 + 0 ≤ _)⟩)
  dsimp only [Pt.U, Pt.locs, Pt.cells, Pt.slots] at X4 lx4 yx4 zx4 st4 hQ4
  subst lx4 yx4 zx4
  obtain ⟨rfl, N4q, e4⟩ := hQ4
  have N4 := Fr.app N2 N4q
  refine own_lift st4 ?_
  show own_Go p.tables e below (T4.setTop (mkF m 10 #[iv p0, iv p1, iv p2, iv p3, iv p4, iv (own_pos p0), .unset, .unset, .unset, .unset, .unset, .unset, .unset, .unset, .unset] [(.int (own_pos p1))])) _
  have sg5 : ∀ t, Steps p.tables e below (T4.setTop (mkF m 13 #[iv p0, iv p1, iv p2, iv p3, iv p4, iv (own_pos p0), iv (own_pos p1), .unset, .unset, .unset, .unset, .unset, .unset, .unset, .unset] [(.int p2)])) t → Steps p.tables e below (T4.setTop (mkF m 10 #[iv p0, iv p1, iv p2, iv p3, iv p4, iv (own_pos p0), .unset, .unset, .unset, .unset, .unset, .unset, .unset, .unset, .unset] [(.int (own_pos p1))])) t := by
    intro t k
    refine XS.istore X4.here hx rfl (hb hby at_10) rfl (l' := #[iv p0, iv p1, iv p2, iv p3, iv p4, iv (own_pos p0), iv (own_pos p1), .unset, .unset, .unset, .unset, .unset, .unset, .unset, .unset]) rfl ?_
    show Steps p.tables e below (T4.setTop (mkF m 12 #[iv p0, iv p1, iv p2, iv p3, iv p4, iv (own_pos p0), iv (own_pos p1), .unset, .unset, .unset, .unset, .unset, .unset, .unset, .unset] [])) _
    refine XS.iloadN X4.here hx rfl (hb hby at_12) rfl ?_
    show Steps p.tables e below (T4.setTop (mkF m 13 #[iv p0, iv p1, iv p2, iv p3, iv p4, iv (own_pos p0), iv (own_pos p1), .unset, .unset, .unset, .unset, .unset, .unset, .unset, .unset] [(.int p2)])) _
    exact k
  refine own_lift sg5 ?_
  show own_Go p.tables e below (T4.setTop (mkF m 13 #[iv p0, iv p1, iv p2, iv p3, iv p4, iv (own_pos p0), iv (own_pos p1), .unset, .unset, .unset, .unset, .unset, .unset, .unset, .unset] [(.int p2)])) _
  obtain ⟨_, _, ⟨T6, Lx6, kx6, nx6⟩, -, X6, ⟨Lc6, hQ6, lx6, yx6, zx6⟩, st6⟩ := Jvm.LawKit.callS X4 hx (y := (⟨"com/example/allsome/allsome/cypher/InputPositionHashCodePinLaw", "pos", "(I)I"⟩ : MethodName)) hown (mvT hZ (wd hw 0 rfl)) (mvT hZ (wd hw 1 rfl)) (mvT hZ (wd hw 2 rfl)) (mvT hZ (wd hw 3 rfl)) (by decide) (backOf (W := 0) (rmPos l Z a0 hw [] p2 h0 n0 Z0 ) hZ (wd hw 3 rfl) (wd hw 2 rfl) (by decide) (by decide)) (g := (mkF m 13 #[iv p0, iv p1, iv p2, iv p3, iv p4, iv (own_pos p0), iv (own_pos p1), .unset, .unset, .unset, .unset, .unset, .unset, .unset, .unset] [(.int p2)])) rfl (by rw [hml]; rfl) (argsL := [(.int p2)]) (rest := []) (lenOf pd_1 rfl) rfl (by show 2 * 0 + _ ≤ _; exact Nat.le_of_eq rfl) (hb hby at_13) (fun _ _ => ⟨rfl, e4, (by decide : 0 + 0 ≤ _), (by decide : 0 + 0 ≤ _)⟩)
  dsimp only [Pt.U, Pt.locs, Pt.cells, Pt.slots] at X6 lx6 yx6 zx6 st6 hQ6
  subst lx6 yx6 zx6
  obtain ⟨rfl, N6q, e6⟩ := hQ6
  have N6 := Fr.app N4 N6q
  refine own_lift st6 ?_
  show own_Go p.tables e below (T6.setTop (mkF m 16 #[iv p0, iv p1, iv p2, iv p3, iv p4, iv (own_pos p0), iv (own_pos p1), .unset, .unset, .unset, .unset, .unset, .unset, .unset, .unset] [(.int (own_pos p2))])) _
  have sg7 : ∀ t, Steps p.tables e below (T6.setTop (mkF m 19 #[iv p0, iv p1, iv p2, iv p3, iv p4, iv (own_pos p0), iv (own_pos p1), iv (own_pos p2), .unset, .unset, .unset, .unset, .unset, .unset, .unset] [(.int p3)])) t → Steps p.tables e below (T6.setTop (mkF m 16 #[iv p0, iv p1, iv p2, iv p3, iv p4, iv (own_pos p0), iv (own_pos p1), .unset, .unset, .unset, .unset, .unset, .unset, .unset, .unset] [(.int (own_pos p2))])) t := by
    intro t k
    refine XS.istore X6.here hx rfl (hb hby at_16) rfl (l' := #[iv p0, iv p1, iv p2, iv p3, iv p4, iv (own_pos p0), iv (own_pos p1), iv (own_pos p2), .unset, .unset, .unset, .unset, .unset, .unset, .unset]) rfl ?_
    show Steps p.tables e below (T6.setTop (mkF m 18 #[iv p0, iv p1, iv p2, iv p3, iv p4, iv (own_pos p0), iv (own_pos p1), iv (own_pos p2), .unset, .unset, .unset, .unset, .unset, .unset, .unset] [])) _
    refine XS.iloadN X6.here hx rfl (hb hby at_18) rfl ?_
    show Steps p.tables e below (T6.setTop (mkF m 19 #[iv p0, iv p1, iv p2, iv p3, iv p4, iv (own_pos p0), iv (own_pos p1), iv (own_pos p2), .unset, .unset, .unset, .unset, .unset, .unset, .unset] [(.int p3)])) _
    exact k
  refine own_lift sg7 ?_
  show own_Go p.tables e below (T6.setTop (mkF m 19 #[iv p0, iv p1, iv p2, iv p3, iv p4, iv (own_pos p0), iv (own_pos p1), iv (own_pos p2), .unset, .unset, .unset, .unset, .unset, .unset, .unset] [(.int p3)])) _
  obtain ⟨_, _, ⟨T8, Lx8, kx8, nx8⟩, -, X8, ⟨Lc8, hQ8, lx8, yx8, zx8⟩, st8⟩ := Jvm.LawKit.callS X6 hx (y := (⟨"com/example/allsome/allsome/cypher/InputPositionHashCodePinLaw", "pos", "(I)I"⟩ : MethodName)) hown (mvT hZ (wd hw 0 rfl)) (mvT hZ (wd hw 1 rfl)) (mvT hZ (wd hw 2 rfl)) (mvT hZ (wd hw 3 rfl)) (by decide) (backOf (W := 0) (rmPos l Z a0 hw [] p3 h0 n0 Z0 ) hZ (wd hw 3 rfl) (wd hw 2 rfl) (by decide) (by decide)) (g := (mkF m 19 #[iv p0, iv p1, iv p2, iv p3, iv p4, iv (own_pos p0), iv (own_pos p1), iv (own_pos p2), .unset, .unset, .unset, .unset, .unset, .unset, .unset] [(.int p3)])) rfl (by rw [hml]; rfl) (argsL := [(.int p3)]) (rest := []) (lenOf pd_1 rfl) rfl (by show 2 * 0 + _ ≤ _; exact Nat.le_of_eq rfl) (hb hby at_19) (fun _ _ => ⟨rfl, e6, (by decide : 0 + 0 ≤ _), (by decide : 0 + 0 ≤ _)⟩)
  dsimp only [Pt.U, Pt.locs, Pt.cells, Pt.slots] at X8 lx8 yx8 zx8 st8 hQ8
  subst lx8 yx8 zx8
  obtain ⟨rfl, N8q, e8⟩ := hQ8
  have N8 := Fr.app N6 N8q
  refine own_lift st8 ?_
  show own_Go p.tables e below (T8.setTop (mkF m 22 #[iv p0, iv p1, iv p2, iv p3, iv p4, iv (own_pos p0), iv (own_pos p1), iv (own_pos p2), .unset, .unset, .unset, .unset, .unset, .unset, .unset] [(.int (own_pos p3))])) _
  have sg9 : ∀ t, Steps p.tables e below (T8.setTop (mkF m 69 #[iv p0, iv p1, iv p2, iv p3, iv p4, iv (own_pos p0), iv (own_pos p1), iv (own_pos p2), iv (own_pos p1), iv (p4 &&& (3 : Int32)), .unset, .unset, .unset, .unset, .unset] [])) t → Steps p.tables e below (T8.setTop (mkF m 22 #[iv p0, iv p1, iv p2, iv p3, iv p4, iv (own_pos p0), iv (own_pos p1), iv (own_pos p2), .unset, .unset, .unset, .unset, .unset, .unset, .unset] [(.int (own_pos p3))])) t := by
    intro t k
    refine XS.istore X8.here hx rfl (hb hby at_22) rfl (l' := #[iv p0, iv p1, iv p2, iv p3, iv p4, iv (own_pos p0), iv (own_pos p1), iv (own_pos p2), iv (own_pos p3), .unset, .unset, .unset, .unset, .unset, .unset]) rfl ?_
    show Steps p.tables e below (T8.setTop (mkF m 24 #[iv p0, iv p1, iv p2, iv p3, iv p4, iv (own_pos p0), iv (own_pos p1), iv (own_pos p2), iv (own_pos p3), .unset, .unset, .unset, .unset, .unset, .unset] [])) _
    refine XS.iload X8.here hx rfl (hb hby at_24) rfl ?_
    show Steps p.tables e below (T8.setTop (mkF m 26 #[iv p0, iv p1, iv p2, iv p3, iv p4, iv (own_pos p0), iv (own_pos p1), iv (own_pos p2), iv (own_pos p3), .unset, .unset, .unset, .unset, .unset, .unset] [(.int p4)])) _
    refine XS.iconst X8.here hx rfl (hb hby at_26) ?_
    show Steps p.tables e below (T8.setTop (mkF m 27 #[iv p0, iv p1, iv p2, iv p3, iv p4, iv (own_pos p0), iv (own_pos p1), iv (own_pos p2), iv (own_pos p3), .unset, .unset, .unset, .unset, .unset, .unset] [(.int 3), (.int p4)])) _
    refine XS.iand X8.here hx rfl (hb hby at_27) rfl ?_
    show Steps p.tables e below (T8.setTop (mkF m 28 #[iv p0, iv p1, iv p2, iv p3, iv p4, iv (own_pos p0), iv (own_pos p1), iv (own_pos p2), iv (own_pos p3), .unset, .unset, .unset, .unset, .unset, .unset] [(.int (p4 &&& (3 : Int32)))])) _
    refine XS.istore X8.here hx rfl (hb hby at_28) rfl (l' := #[iv p0, iv p1, iv p2, iv p3, iv p4, iv (own_pos p0), iv (own_pos p1), iv (own_pos p2), iv (own_pos p3), iv (p4 &&& (3 : Int32)), .unset, .unset, .unset, .unset, .unset]) rfl ?_
    show Steps p.tables e below (T8.setTop (mkF m 30 #[iv p0, iv p1, iv p2, iv p3, iv p4, iv (own_pos p0), iv (own_pos p1), iv (own_pos p2), iv (own_pos p3), iv (p4 &&& (3 : Int32)), .unset, .unset, .unset, .unset, .unset] [])) _
    refine XS.iload X8.here hx rfl (hb hby at_30) rfl ?_
    show Steps p.tables e below (T8.setTop (mkF m 32 #[iv p0, iv p1, iv p2, iv p3, iv p4, iv (own_pos p0), iv (own_pos p1), iv (own_pos p2), iv (own_pos p3), iv (p4 &&& (3 : Int32)), .unset, .unset, .unset, .unset, .unset] [(.int (p4 &&& (3 : Int32)))])) _
    refine XS.ifYes X8.here hx rfl (pc0 := 32) (pc' := 46) rfl (hb hby at_32) rfl ((if0 _ _).trans (feq m0).2) (by decide) (by decide) ?_
    show Steps p.tables e below (T8.setTop (mkF m 46 #[iv p0, iv p1, iv p2, iv p3, iv p4, iv (own_pos p0), iv (own_pos p1), iv (own_pos p2), iv (own_pos p3), iv (p4 &&& (3 : Int32)), .unset, .unset, .unset, .unset, .unset] [])) _
    refine XS.iload X8.here hx rfl (hb hby at_46) rfl ?_
    show Steps p.tables e below (T8.setTop (mkF m 48 #[iv p0, iv p1, iv p2, iv p3, iv p4, iv (own_pos p0), iv (own_pos p1), iv (own_pos p2), iv (own_pos p3), iv (p4 &&& (3 : Int32)), .unset, .unset, .unset, .unset, .unset] [(.int (p4 &&& (3 : Int32)))])) _
    refine XS.iconst X8.here hx rfl (hb hby at_48) ?_
    show Steps p.tables e below (T8.setTop (mkF m 49 #[iv p0, iv p1, iv p2, iv p3, iv p4, iv (own_pos p0), iv (own_pos p1), iv (own_pos p2), iv (own_pos p3), iv (p4 &&& (3 : Int32)), .unset, .unset, .unset, .unset, .unset] [(.int 1), (.int (p4 &&& (3 : Int32)))])) _
    refine XS.icmpYes X8.here hx rfl (pc0 := 49) (pc' := 59) rfl (hb hby at_49) rfl (feq m1).2 (by decide) (by decide) ?_
    show Steps p.tables e below (T8.setTop (mkF m 59 #[iv p0, iv p1, iv p2, iv p3, iv p4, iv (own_pos p0), iv (own_pos p1), iv (own_pos p2), iv (own_pos p3), iv (p4 &&& (3 : Int32)), .unset, .unset, .unset, .unset, .unset] [])) _
    refine XS.iload X8.here hx rfl (hb hby at_59) rfl ?_
    show Steps p.tables e below (T8.setTop (mkF m 61 #[iv p0, iv p1, iv p2, iv p3, iv p4, iv (own_pos p0), iv (own_pos p1), iv (own_pos p2), iv (own_pos p3), iv (p4 &&& (3 : Int32)), .unset, .unset, .unset, .unset, .unset] [(.int (p4 &&& (3 : Int32)))])) _
    refine XS.iconst X8.here hx rfl (hb hby at_61) ?_
    show Steps p.tables e below (T8.setTop (mkF m 62 #[iv p0, iv p1, iv p2, iv p3, iv p4, iv (own_pos p0), iv (own_pos p1), iv (own_pos p2), iv (own_pos p3), iv (p4 &&& (3 : Int32)), .unset, .unset, .unset, .unset, .unset] [(.int 2), (.int (p4 &&& (3 : Int32)))])) _
    refine XS.icmpNo X8.here hx rfl (hb hby at_62) rfl (teq m2).2 ?_
    show Steps p.tables e below (T8.setTop (mkF m 65 #[iv p0, iv p1, iv p2, iv p3, iv p4, iv (own_pos p0), iv (own_pos p1), iv (own_pos p2), iv (own_pos p3), iv (p4 &&& (3 : Int32)), .unset, .unset, .unset, .unset, .unset] [])) _
    refine XS.iload X8.here hx rfl (hb hby at_65) rfl ?_
    show Steps p.tables e below (T8.setTop (mkF m 67 #[iv p0, iv p1, iv p2, iv p3, iv p4, iv (own_pos p0), iv (own_pos p1), iv (own_pos p2), iv (own_pos p3), iv (p4 &&& (3 : Int32)), .unset, .unset, .unset, .unset, .unset] [(.int (own_pos p1))])) _
    refine XS.istore X8.here hx rfl (hb hby at_67) rfl (l' := #[iv p0, iv p1, iv p2, iv p3, iv p4, iv (own_pos p0), iv (own_pos p1), iv (own_pos p2), iv (own_pos p1), iv (p4 &&& (3 : Int32)), .unset, .unset, .unset, .unset, .unset]) rfl ?_
    show Steps p.tables e below (T8.setTop (mkF m 69 #[iv p0, iv p1, iv p2, iv p3, iv p4, iv (own_pos p0), iv (own_pos p1), iv (own_pos p2), iv (own_pos p1), iv (p4 &&& (3 : Int32)), .unset, .unset, .unset, .unset, .unset] [])) _
    exact k
  refine own_lift sg9 ?_
  show own_Go p.tables e below (T8.setTop (mkF m 69 #[iv p0, iv p1, iv p2, iv p3, iv p4, iv (own_pos p0), iv (own_pos p1), iv (own_pos p2), iv (own_pos p1), iv (p4 &&& (3 : Int32)), .unset, .unset, .unset, .unset, .unset] [])) _
  obtain ⟨T10, h10, X10, e10, Ex10, Ax10, Dx10, Ux10, st10⟩ := newO X8 hx hZ hown (wd hw 9 rfl) (wd hw 10 rfl) (wd hw 11 rfl) e8 (g := (mkF m 69 #[iv p0, iv p1, iv p2, iv p3, iv p4, iv (own_pos p0), iv (own_pos p1), iv (own_pos p2), iv (own_pos p1), iv (p4 &&& (3 : Int32)), .unset, .unset, .unset, .unset, .unset] [])) rfl (hb hby at_69) (by decide) (by decide)
  obtain ⟨ob10, g10⟩ : ∃ z, z = h0.size := ⟨_, rfl⟩
  rw [← g10] at Ax10 Dx10 Ux10 st10
  have Z10 : n0 ≤ h10.size := Nat.le_trans Z0 Ex10.1
  have ge10 : n0 ≤ ob10 := Nat.le_trans Z0 (Nat.le_of_eq g10.symm)
  have Fn10_19 : Fld Z h10 ob10 "com/example/allsome/allsome/cypher/InputPosition" "line" "I" (.int 0) := Dx10 (Or.inr (wd hw 19 rfl)) (ty := .int) (by decide)
  have Fn10_21 : Fld Z h10 ob10 "com/example/allsome/allsome/cypher/InputPosition" "column" "I" (.int 0) := Dx10 (Or.inr (wd hw 21 rfl)) (ty := .int) (by decide)
  refine own_lift st10 ?_
  show own_Go p.tables e below (T10.setTop (mkF m 72 #[iv p0, iv p1, iv p2, iv p3, iv p4, iv (own_pos p0), iv (own_pos p1), iv (own_pos p2), iv (own_pos p1), iv (p4 &&& (3 : Int32)), .unset, .unset, .unset, .unset, .unset] [(.ref ob10)])) _
  have sg11 : ∀ t, Steps p.tables e below (T10.setTop (mkF m 77 #[iv p0, iv p1, iv p2, iv p3, iv p4, iv (own_pos p0), iv (own_pos p1), iv (own_pos p2), iv (own_pos p1), iv (p4 &&& (3 : Int32)), .unset, .unset, .unset, .unset, .unset] [(.int (own_pos p1)), (.int (own_pos p0)), (.ref ob10), (.ref ob10)])) t → Steps p.tables e below (T10.setTop (mkF m 72 #[iv p0, iv p1, iv p2, iv p3, iv p4, iv (own_pos p0), iv (own_pos p1), iv (own_pos p2), iv (own_pos p1), iv (p4 &&& (3 : Int32)), .unset, .unset, .unset, .unset, .unset] [(.ref ob10)])) t := by
    intro t k
    refine XS.dup X10.here hx rfl (hb hby at_72) rfl rfl ?_
    show Steps p.tables e below (T10.setTop (mkF m 73 #[iv p0, iv p1, iv p2, iv p3, iv p4, iv (own_pos p0), iv (own_pos p1), iv (own_pos p2), iv (own_pos p1), iv (p4 &&& (3 : Int32)), .unset, .unset, .unset, .unset, .unset] [(.ref ob10), (.ref ob10)])) _
    refine XS.iload X10.here hx rfl (hb hby at_73) rfl ?_
    show Steps p.tables e below (T10.setTop (mkF m 75 #[iv p0, iv p1, iv p2, iv p3, iv p4, iv (own_pos p0), iv (own_pos p1), iv (own_pos p2), iv (own_pos p1), iv (p4 &&& (3 : Int32)), .unset, .unset, .unset, .unset, .unset] [(.int (own_pos p0)), (.ref ob10), (.ref ob10)])) _
    refine XS.iload X10.here hx rfl (hb hby at_75) rfl ?_
    show Steps p.tables e below (T10.setTop (mkF m 77 #[iv p0, iv p1, iv p2, iv p3, iv p4, iv (own_pos p0), iv (own_pos p1), iv (own_pos p2), iv (own_pos p1), iv (p4 &&& (3 : Int32)), .unset, .unset, .unset, .unset, .unset] [(.int (own_pos p1)), (.int (own_pos p0)), (.ref ob10), (.ref ob10)])) _
    exact k
  refine own_lift sg11 ?_
  show own_Go p.tables e below (T10.setTop (mkF m 77 #[iv p0, iv p1, iv p2, iv p3, iv p4, iv (own_pos p0), iv (own_pos p1), iv (own_pos p2), iv (own_pos p1), iv (p4 &&& (3 : Int32)), .unset, .unset, .unset, .unset, .unset] [(.int (own_pos p1)), (.int (own_pos p0)), (.ref ob10), (.ref ob10)])) _
  obtain ⟨_, _, ⟨T12, Lx12, kx12, nx12⟩, -, X12, ⟨Lc12, hQ12, lx12, yx12, zx12⟩, st12⟩ := X10.specialBack hx (y := (⟨"com/example/allsome/allsome/cypher/InputPosition", "<init>", "(II)V"⟩ : MethodName)) rfl hown (mvT hZ (wd hw 12 rfl)) (mvT hZ (wd hw 13 rfl)) (mvT hZ (wd hw 14 rfl)) (by decide) (backOf (W := 1) (rmInit l Z a0 hw [] ob10 (own_pos p0) (own_pos p1) h10 n0 Z10 Fn10_19 Fn10_21 Ax10 ge10 (own_pos_ge p0) (own_pos_ge p1)) hZ (wd hw 14 rfl) (wd hw 11 rfl) (by decide) (by decide)) (g := (mkF m 77 #[iv p0, iv p1, iv p2, iv p3, iv p4, iv (own_pos p0), iv (own_pos p1), iv (own_pos p2), iv (own_pos p1), iv (p4 &&& (3 : Int32)), .unset, .unset, .unset, .unset, .unset] [(.int (own_pos p1)), (.int (own_pos p0)), (.ref ob10), (.ref ob10)])) rfl (by rw [hml]; rfl) (Steps.refl _) (a := ob10) (argsL := [(.int (own_pos p0)), (.int (own_pos p1))]) (rest := [(.ref ob10)]) (lenOf pd_2 rfl) rfl (by show 2 * 0 + _ ≤ _; exact Nat.le_of_eq rfl) (hb hby at_77) (fun _ _ => ⟨rfl, e10, (by decide : 1 + 0 ≤ _), (by decide : 2 + 0 ≤ _)⟩)
  dsimp only [Pt.U, Pt.locs, Pt.cells, Pt.slots] at X12 lx12 yx12 zx12 st12 hQ12
  subst lx12 yx12 zx12
  obtain ⟨rfl, N12q, p12_0, p12_1, p12_2, p12_3⟩ := hQ12
  have N12 := Fr.app N8 N12q
  have Z12 : n0 ≤ T12.heap.size := Nat.le_trans Z10 p12_0.1
  refine own_lift (fun t k => st12.trans k) ?_
  show own_Go p.tables e below (T12.setTop (mkF m 80 #[iv p0, iv p1, iv p2, iv p3, iv p4, iv (own_pos p0), iv (own_pos p1), iv (own_pos p2), iv (own_pos p1), iv (p4 &&& (3 : Int32)), .unset, .unset, .unset, .unset, .unset] [(.ref ob10)])) _
  have sg13 : ∀ t, Steps p.tables e below (T12.setTop (mkF m 82 #[iv p0, iv p1, iv p2, iv p3, iv p4, iv (own_pos p0), iv (own_pos p1), iv (own_pos p2), iv (own_pos p1), iv (p4 &&& (3 : Int32)), rv ob10, .unset, .unset, .unset, .unset] [])) t → Steps p.tables e below (T12.setTop (mkF m 80 #[iv p0, iv p1, iv p2, iv p3, iv p4, iv (own_pos p0), iv (own_pos p1), iv (own_pos p2), iv (own_pos p1), iv (p4 &&& (3 : Int32)), .unset, .unset, .unset, .unset, .unset] [(.ref ob10)])) t := by
    intro t k
    refine XS.astore X12.here hx rfl (hb hby at_80) rfl rfl (l' := #[iv p0, iv p1, iv p2, iv p3, iv p4, iv (own_pos p0), iv (own_pos p1), iv (own_pos p2), iv (own_pos p1), iv (p4 &&& (3 : Int32)), rv ob10, .unset, .unset, .unset, .unset]) rfl ?_
    show Steps p.tables e below (T12.setTop (mkF m 82 #[iv p0, iv p1, iv p2, iv p3, iv p4, iv (own_pos p0), iv (own_pos p1), iv (own_pos p2), iv (own_pos p1), iv (p4 &&& (3 : Int32)), rv ob10, .unset, .unset, .unset, .unset] [])) _
    exact k
  refine own_lift sg13 ?_
  show own_Go p.tables e below (T12.setTop (mkF m 82 #[iv p0, iv p1, iv p2, iv p3, iv p4, iv (own_pos p0), iv (own_pos p1), iv (own_pos p2), iv (own_pos p1), iv (p4 &&& (3 : Int32)), rv ob10, .unset, .unset, .unset, .unset] [])) _
  obtain ⟨T14, h14, X14, e14, Ex14, Ax14, Dx14, Ux14, st14⟩ := newO X12 hx hZ hown (wd hw 9 rfl) (wd hw 10 rfl) (wd hw 11 rfl) rfl (g := (mkF m 82 #[iv p0, iv p1, iv p2, iv p3, iv p4, iv (own_pos p0), iv (own_pos p1), iv (own_pos p2), iv (own_pos p1), iv (p4 &&& (3 : Int32)), rv ob10, .unset, .unset, .unset, .unset] [])) rfl (hb hby at_82) (by decide) (by decide)
  obtain ⟨ob14, g14⟩ : ∃ z, z = T12.heap.size := ⟨_, rfl⟩
  rw [← g14] at Ax14 Dx14 Ux14 st14
  have ne15 : ob10 ≠ ob14 := Nat.ne_of_lt (Nat.lt_of_lt_of_le p12_1.lt (Nat.le_of_eq g14.symm))
  have Z14 : n0 ≤ h14.size := Nat.le_trans Z12 Ex14.1
  have ge14 : n0 ≤ ob14 := Nat.le_trans Z12 (Nat.le_of_eq g14.symm)
  have Fn14_19 : Fld Z h14 ob14 "com/example/allsome/allsome/cypher/InputPosition" "line" "I" (.int 0) := Dx14 (Or.inr (wd hw 19 rfl)) (ty := .int) (by decide)
  have Fn14_21 : Fld Z h14 ob14 "com/example/allsome/allsome/cypher/InputPosition" "column" "I" (.int 0) := Dx14 (Or.inr (wd hw 21 rfl)) (ty := .int) (by decide)
  refine own_lift st14 ?_
  show own_Go p.tables e below (T14.setTop (mkF m 85 #[iv p0, iv p1, iv p2, iv p3, iv p4, iv (own_pos p0), iv (own_pos p1), iv (own_pos p2), iv (own_pos p1), iv (p4 &&& (3 : Int32)), rv ob10, .unset, .unset, .unset, .unset] [(.ref ob14)])) _
  have sg16 : ∀ t, Steps p.tables e below (T14.setTop (mkF m 90 #[iv p0, iv p1, iv p2, iv p3, iv p4, iv (own_pos p0), iv (own_pos p1), iv (own_pos p2), iv (own_pos p1), iv (p4 &&& (3 : Int32)), rv ob10, .unset, .unset, .unset, .unset] [(.int (own_pos p1)), (.int (own_pos p2)), (.ref ob14), (.ref ob14)])) t → Steps p.tables e below (T14.setTop (mkF m 85 #[iv p0, iv p1, iv p2, iv p3, iv p4, iv (own_pos p0), iv (own_pos p1), iv (own_pos p2), iv (own_pos p1), iv (p4 &&& (3 : Int32)), rv ob10, .unset, .unset, .unset, .unset] [(.ref ob14)])) t := by
    intro t k
    refine XS.dup X14.here hx rfl (hb hby at_85) rfl rfl ?_
    show Steps p.tables e below (T14.setTop (mkF m 86 #[iv p0, iv p1, iv p2, iv p3, iv p4, iv (own_pos p0), iv (own_pos p1), iv (own_pos p2), iv (own_pos p1), iv (p4 &&& (3 : Int32)), rv ob10, .unset, .unset, .unset, .unset] [(.ref ob14), (.ref ob14)])) _
    refine XS.iload X14.here hx rfl (hb hby at_86) rfl ?_
    show Steps p.tables e below (T14.setTop (mkF m 88 #[iv p0, iv p1, iv p2, iv p3, iv p4, iv (own_pos p0), iv (own_pos p1), iv (own_pos p2), iv (own_pos p1), iv (p4 &&& (3 : Int32)), rv ob10, .unset, .unset, .unset, .unset] [(.int (own_pos p2)), (.ref ob14), (.ref ob14)])) _
    refine XS.iload X14.here hx rfl (hb hby at_88) rfl ?_
    show Steps p.tables e below (T14.setTop (mkF m 90 #[iv p0, iv p1, iv p2, iv p3, iv p4, iv (own_pos p0), iv (own_pos p1), iv (own_pos p2), iv (own_pos p1), iv (p4 &&& (3 : Int32)), rv ob10, .unset, .unset, .unset, .unset] [(.int (own_pos p1)), (.int (own_pos p2)), (.ref ob14), (.ref ob14)])) _
    exact k
  refine own_lift sg16 ?_
  show own_Go p.tables e below (T14.setTop (mkF m 90 #[iv p0, iv p1, iv p2, iv p3, iv p4, iv (own_pos p0), iv (own_pos p1), iv (own_pos p2), iv (own_pos p1), iv (p4 &&& (3 : Int32)), rv ob10, .unset, .unset, .unset, .unset] [(.int (own_pos p1)), (.int (own_pos p2)), (.ref ob14), (.ref ob14)])) _
  obtain ⟨_, _, ⟨T17, Lx17, kx17, nx17⟩, -, X17, ⟨Lc17, hQ17, lx17, yx17, zx17⟩, st17⟩ := X14.specialBack hx (y := (⟨"com/example/allsome/allsome/cypher/InputPosition", "<init>", "(II)V"⟩ : MethodName)) rfl hown (mvT hZ (wd hw 12 rfl)) (mvT hZ (wd hw 13 rfl)) (mvT hZ (wd hw 14 rfl)) (by decide) (backOf (W := 1) (rmInit l Z a0 hw [] ob14 (own_pos p2) (own_pos p1) h14 n0 Z14 Fn14_19 Fn14_21 Ax14 ge14 (own_pos_ge p2) (own_pos_ge p1)) hZ (wd hw 14 rfl) (wd hw 11 rfl) (by decide) (by decide)) (g := (mkF m 90 #[iv p0, iv p1, iv p2, iv p3, iv p4, iv (own_pos p0), iv (own_pos p1), iv (own_pos p2), iv (own_pos p1), iv (p4 &&& (3 : Int32)), rv ob10, .unset, .unset, .unset, .unset] [(.int (own_pos p1)), (.int (own_pos p2)), (.ref ob14), (.ref ob14)])) rfl (by rw [hml]; rfl) (Steps.refl _) (a := ob14) (argsL := [(.int (own_pos p2)), (.int (own_pos p1))]) (rest := [(.ref ob14)]) (lenOf pd_2 rfl) rfl (by show 2 * 0 + _ ≤ _; exact Nat.le_of_eq rfl) (hb hby at_90) (fun _ _ => ⟨rfl, e14, (by decide : 2 + 0 ≤ _), (by decide : 4 + 0 ≤ _)⟩)
  dsimp only [Pt.U, Pt.locs, Pt.cells, Pt.slots] at X17 lx17 yx17 zx17 st17 hQ17
  subst lx17 yx17 zx17
  obtain ⟨rfl, N17q, p17_0, p17_1, p17_2, p17_3⟩ := hQ17
  have N17 := Fr.app N12 N17q
  have Z17 : n0 ≤ T17.heap.size := Nat.le_trans Z14 p17_0.1
  refine own_lift (fun t k => st17.trans k) ?_
  show own_Go p.tables e below (T17.setTop (mkF m 93 #[iv p0, iv p1, iv p2, iv p3, iv p4, iv (own_pos p0), iv (own_pos p1), iv (own_pos p2), iv (own_pos p1), iv (p4 &&& (3 : Int32)), rv ob10, .unset, .unset, .unset, .unset] [(.ref ob14)])) _
  have sg18 : ∀ t, Steps p.tables e below (T17.setTop (mkF m 97 #[iv p0, iv p1, iv p2, iv p3, iv p4, iv (own_pos p0), iv (own_pos p1), iv (own_pos p2), iv (own_pos p1), iv (p4 &&& (3 : Int32)), rv ob10, rv ob14, .unset, .unset, .unset] [(.ref ob10)])) t → Steps p.tables e below (T17.setTop (mkF m 93 #[iv p0, iv p1, iv p2, iv p3, iv p4, iv (own_pos p0), iv (own_pos p1), iv (own_pos p2), iv (own_pos p1), iv (p4 &&& (3 : Int32)), rv ob10, .unset, .unset, .unset, .unset] [(.ref ob14)])) t := by
    intro t k
    refine XS.astore X17.here hx rfl (hb hby at_93) rfl rfl (l' := #[iv p0, iv p1, iv p2, iv p3, iv p4, iv (own_pos p0), iv (own_pos p1), iv (own_pos p2), iv (own_pos p1), iv (p4 &&& (3 : Int32)), rv ob10, rv ob14, .unset, .unset, .unset]) rfl ?_
    show Steps p.tables e below (T17.setTop (mkF m 95 #[iv p0, iv p1, iv p2, iv p3, iv p4, iv (own_pos p0), iv (own_pos p1), iv (own_pos p2), iv (own_pos p1), iv (p4 &&& (3 : Int32)), rv ob10, rv ob14, .unset, .unset, .unset] [])) _
    refine XS.aload X17.here hx rfl (hb hby at_95) rfl rfl ?_
    show Steps p.tables e below (T17.setTop (mkF m 97 #[iv p0, iv p1, iv p2, iv p3, iv p4, iv (own_pos p0), iv (own_pos p1), iv (own_pos p2), iv (own_pos p1), iv (p4 &&& (3 : Int32)), rv ob10, rv ob14, .unset, .unset, .unset] [(.ref ob10)])) _
    exact k
  refine own_lift sg18 ?_
  show own_Go p.tables e below (T17.setTop (mkF m 97 #[iv p0, iv p1, iv p2, iv p3, iv p4, iv (own_pos p0), iv (own_pos p1), iv (own_pos p2), iv (own_pos p1), iv (p4 &&& (3 : Int32)), rv ob10, rv ob14, .unset, .unset, .unset] [(.ref ob10)])) _
  have Fc19 : Fld Z T17.heap ob10 "com/example/allsome/allsome/cypher/InputPosition" "line" "I" (.int (own_pos p0)) := ((p12_2.ext Ex14).keep p17_0 (ninS ne15 nin0))
  have Fc20 : Fld Z T17.heap ob10 "com/example/allsome/allsome/cypher/InputPosition" "column" "I" (.int (own_pos p1)) := ((p12_3.ext Ex14).keep p17_0 (ninS ne15 nin0))
  have Fc22 : Exa Z T17.heap ob10 "com/example/allsome/allsome/cypher/InputPosition" := ((p12_1.ext Ex14).keep p17_0)
  obtain ⟨cq21, kq21, q21a, q21b, q21c⟩ := isOf hZ rfl Fc22
  obtain ⟨_, _, ⟨T21, Lx21, kx21, nx21⟩, -, X21, ⟨Lc21, hQ21, lx21, yx21, zx21⟩, st21⟩ := X17.virtualBack hx (y := (⟨"com/example/allsome/allsome/cypher/InputPosition", "hashCode", "()I"⟩ : MethodName)) (z := (⟨"com/example/allsome/allsome/cypher/InputPosition", "hashCode", "()I"⟩ : MethodName)) hown (mvT hZ (wd hw 22 rfl)) (mvT hZ (wd hw 23 rfl)) (notFace_of_selects (args := #[]) (mvT hZ (wd hw 25 rfl))) (mvT hZ (wd hw 25 rfl)) (mvT hZ (wd hw 24 rfl)) (by decide) (backOf (W := 0) (rmHash l Z a0 hw [] ob10 (own_pos p0) (own_pos p1) T17.heap n0 Z17 Fc19 Fc20) hZ (wd hw 26 rfl) (wd hw 11 rfl) (by decide) (by decide)) q21a q21c (g := (mkF m 97 #[iv p0, iv p1, iv p2, iv p3, iv p4, iv (own_pos p0), iv (own_pos p1), iv (own_pos p2), iv (own_pos p1), iv (p4 &&& (3 : Int32)), rv ob10, rv ob14, .unset, .unset, .unset] [(.ref ob10)])) rfl (by rw [hml]; rfl) (Steps.refl _) (argsL := []) (rest := []) (lenOf pd_3 rfl) rfl (by show 2 * 0 + _ ≤ _; exact Nat.le_of_eq rfl) (hb hby at_97) (fun _ _ => ⟨rfl, rfl, (by decide : 2 + 0 ≤ _), (by decide : 4 + 0 ≤ _)⟩)
  dsimp only [Pt.U, Pt.locs, Pt.cells, Pt.slots] at X21 lx21 yx21 zx21 st21 hQ21
  subst lx21 yx21 zx21
  obtain ⟨rfl, N21q, e21⟩ := hQ21
  have N21 := Fr.app N17 N21q
  refine own_lift (fun t k => st21.trans k) ?_
  show own_Go p.tables e below (T21.setTop (mkF m 100 #[iv p0, iv p1, iv p2, iv p3, iv p4, iv (own_pos p0), iv (own_pos p1), iv (own_pos p2), iv (own_pos p1), iv (p4 &&& (3 : Int32)), rv ob10, rv ob14, .unset, .unset, .unset] [(.int (((31 : Int32) * (own_pos p0)) + (own_pos p1)))])) _
  have sg23 : ∀ t, Steps p.tables e below (T21.setTop (mkF m 104 #[iv p0, iv p1, iv p2, iv p3, iv p4, iv (own_pos p0), iv (own_pos p1), iv (own_pos p2), iv (own_pos p1), iv (p4 &&& (3 : Int32)), rv ob10, rv ob14, iv (((31 : Int32) * (own_pos p0)) + (own_pos p1)), .unset, .unset] [(.ref ob10)])) t → Steps p.tables e below (T21.setTop (mkF m 100 #[iv p0, iv p1, iv p2, iv p3, iv p4, iv (own_pos p0), iv (own_pos p1), iv (own_pos p2), iv (own_pos p1), iv (p4 &&& (3 : Int32)), rv ob10, rv ob14, .unset, .unset, .unset] [(.int (((31 : Int32) * (own_pos p0)) + (own_pos p1)))])) t := by
    intro t k
    refine XS.istore X21.here hx rfl (hb hby at_100) rfl (l' := #[iv p0, iv p1, iv p2, iv p3, iv p4, iv (own_pos p0), iv (own_pos p1), iv (own_pos p2), iv (own_pos p1), iv (p4 &&& (3 : Int32)), rv ob10, rv ob14, iv (((31 : Int32) * (own_pos p0)) + (own_pos p1)), .unset, .unset]) rfl ?_
    show Steps p.tables e below (T21.setTop (mkF m 102 #[iv p0, iv p1, iv p2, iv p3, iv p4, iv (own_pos p0), iv (own_pos p1), iv (own_pos p2), iv (own_pos p1), iv (p4 &&& (3 : Int32)), rv ob10, rv ob14, iv (((31 : Int32) * (own_pos p0)) + (own_pos p1)), .unset, .unset] [])) _
    refine XS.aload X21.here hx rfl (hb hby at_102) rfl rfl ?_
    show Steps p.tables e below (T21.setTop (mkF m 104 #[iv p0, iv p1, iv p2, iv p3, iv p4, iv (own_pos p0), iv (own_pos p1), iv (own_pos p2), iv (own_pos p1), iv (p4 &&& (3 : Int32)), rv ob10, rv ob14, iv (((31 : Int32) * (own_pos p0)) + (own_pos p1)), .unset, .unset] [(.ref ob10)])) _
    exact k
  refine own_lift sg23 ?_
  show own_Go p.tables e below (T21.setTop (mkF m 104 #[iv p0, iv p1, iv p2, iv p3, iv p4, iv (own_pos p0), iv (own_pos p1), iv (own_pos p2), iv (own_pos p1), iv (p4 &&& (3 : Int32)), rv ob10, rv ob14, iv (((31 : Int32) * (own_pos p0)) + (own_pos p1)), .unset, .unset] [(.ref ob10)])) _
  obtain ⟨cq24, kq24, q24a, q24b, q24c⟩ := isOf hZ e21 Fc22
  obtain ⟨_, _, ⟨T24, Lx24, kx24, nx24⟩, -, X24, ⟨Lc24, hQ24, lx24, yx24, zx24⟩, st24⟩ := X21.virtualBack hx (y := (⟨"com/example/allsome/allsome/cypher/InputPosition", "hashCode", "()I"⟩ : MethodName)) (z := (⟨"com/example/allsome/allsome/cypher/InputPosition", "hashCode", "()I"⟩ : MethodName)) hown (mvT hZ (wd hw 22 rfl)) (mvT hZ (wd hw 23 rfl)) (notFace_of_selects (args := #[]) (mvT hZ (wd hw 25 rfl))) (mvT hZ (wd hw 25 rfl)) (mvT hZ (wd hw 24 rfl)) (by decide) (backOf (W := 0) (rmHash l Z a0 hw [] ob10 (own_pos p0) (own_pos p1) T17.heap n0 Z17 Fc19 Fc20) hZ (wd hw 26 rfl) (wd hw 11 rfl) (by decide) (by decide)) q24a q24c (g := (mkF m 104 #[iv p0, iv p1, iv p2, iv p3, iv p4, iv (own_pos p0), iv (own_pos p1), iv (own_pos p2), iv (own_pos p1), iv (p4 &&& (3 : Int32)), rv ob10, rv ob14, iv (((31 : Int32) * (own_pos p0)) + (own_pos p1)), .unset, .unset] [(.ref ob10)])) rfl (by rw [hml]; rfl) (Steps.refl _) (argsL := []) (rest := []) (lenOf pd_3 rfl) rfl (by show 2 * 0 + _ ≤ _; exact Nat.le_of_eq rfl) (hb hby at_104) (fun _ _ => ⟨rfl, e21, (by decide : 2 + 0 ≤ _), (by decide : 4 + 0 ≤ _)⟩)
  dsimp only [Pt.U, Pt.locs, Pt.cells, Pt.slots] at X24 lx24 yx24 zx24 st24 hQ24
  subst lx24 yx24 zx24
  obtain ⟨rfl, N24q, e24⟩ := hQ24
  have N24 := Fr.app N21 N24q
  refine own_lift (fun t k => st24.trans k) ?_
  show own_Go p.tables e below (T24.setTop (mkF m 107 #[iv p0, iv p1, iv p2, iv p3, iv p4, iv (own_pos p0), iv (own_pos p1), iv (own_pos p2), iv (own_pos p1), iv (p4 &&& (3 : Int32)), rv ob10, rv ob14, iv (((31 : Int32) * (own_pos p0)) + (own_pos p1)), .unset, .unset] [(.int (((31 : Int32) * (own_pos p0)) + (own_pos p1)))])) _
  have sg25 : ∀ t, Steps p.tables e below (T24.setTop (mkF m 111 #[iv p0, iv p1, iv p2, iv p3, iv p4, iv (own_pos p0), iv (own_pos p1), iv (own_pos p2), iv (own_pos p1), iv (p4 &&& (3 : Int32)), rv ob10, rv ob14, iv (((31 : Int32) * (own_pos p0)) + (own_pos p1)), iv (((31 : Int32) * (own_pos p0)) + (own_pos p1)), .unset] [(.ref ob14)])) t → Steps p.tables e below (T24.setTop (mkF m 107 #[iv p0, iv p1, iv p2, iv p3, iv p4, iv (own_pos p0), iv (own_pos p1), iv (own_pos p2), iv (own_pos p1), iv (p4 &&& (3 : Int32)), rv ob10, rv ob14, iv (((31 : Int32) * (own_pos p0)) + (own_pos p1)), .unset, .unset] [(.int (((31 : Int32) * (own_pos p0)) + (own_pos p1)))])) t := by
    intro t k
    refine XS.istore X24.here hx rfl (hb hby at_107) rfl (l' := #[iv p0, iv p1, iv p2, iv p3, iv p4, iv (own_pos p0), iv (own_pos p1), iv (own_pos p2), iv (own_pos p1), iv (p4 &&& (3 : Int32)), rv ob10, rv ob14, iv (((31 : Int32) * (own_pos p0)) + (own_pos p1)), iv (((31 : Int32) * (own_pos p0)) + (own_pos p1)), .unset]) rfl ?_
    show Steps p.tables e below (T24.setTop (mkF m 109 #[iv p0, iv p1, iv p2, iv p3, iv p4, iv (own_pos p0), iv (own_pos p1), iv (own_pos p2), iv (own_pos p1), iv (p4 &&& (3 : Int32)), rv ob10, rv ob14, iv (((31 : Int32) * (own_pos p0)) + (own_pos p1)), iv (((31 : Int32) * (own_pos p0)) + (own_pos p1)), .unset] [])) _
    refine XS.aload X24.here hx rfl (hb hby at_109) rfl rfl ?_
    show Steps p.tables e below (T24.setTop (mkF m 111 #[iv p0, iv p1, iv p2, iv p3, iv p4, iv (own_pos p0), iv (own_pos p1), iv (own_pos p2), iv (own_pos p1), iv (p4 &&& (3 : Int32)), rv ob10, rv ob14, iv (((31 : Int32) * (own_pos p0)) + (own_pos p1)), iv (((31 : Int32) * (own_pos p0)) + (own_pos p1)), .unset] [(.ref ob14)])) _
    exact k
  refine own_lift sg25 ?_
  show own_Go p.tables e below (T24.setTop (mkF m 111 #[iv p0, iv p1, iv p2, iv p3, iv p4, iv (own_pos p0), iv (own_pos p1), iv (own_pos p2), iv (own_pos p1), iv (p4 &&& (3 : Int32)), rv ob10, rv ob14, iv (((31 : Int32) * (own_pos p0)) + (own_pos p1)), iv (((31 : Int32) * (own_pos p0)) + (own_pos p1)), .unset] [(.ref ob14)])) _
  obtain ⟨cq26, kq26, q26a, q26b, q26c⟩ := isOf hZ e24 p17_1
  obtain ⟨_, _, ⟨T26, Lx26, kx26, nx26⟩, -, X26, ⟨Lc26, hQ26, lx26, yx26, zx26⟩, st26⟩ := X24.virtualBack hx (y := (⟨"com/example/allsome/allsome/cypher/InputPosition", "hashCode", "()I"⟩ : MethodName)) (z := (⟨"com/example/allsome/allsome/cypher/InputPosition", "hashCode", "()I"⟩ : MethodName)) hown (mvT hZ (wd hw 22 rfl)) (mvT hZ (wd hw 23 rfl)) (notFace_of_selects (args := #[]) (mvT hZ (wd hw 25 rfl))) (mvT hZ (wd hw 25 rfl)) (mvT hZ (wd hw 24 rfl)) (by decide) (backOf (W := 0) (rmHash l Z a0 hw [] ob14 (own_pos p2) (own_pos p1) T17.heap n0 Z17 p17_2 p17_3) hZ (wd hw 26 rfl) (wd hw 11 rfl) (by decide) (by decide)) q26a q26c (g := (mkF m 111 #[iv p0, iv p1, iv p2, iv p3, iv p4, iv (own_pos p0), iv (own_pos p1), iv (own_pos p2), iv (own_pos p1), iv (p4 &&& (3 : Int32)), rv ob10, rv ob14, iv (((31 : Int32) * (own_pos p0)) + (own_pos p1)), iv (((31 : Int32) * (own_pos p0)) + (own_pos p1)), .unset] [(.ref ob14)])) rfl (by rw [hml]; rfl) (Steps.refl _) (argsL := []) (rest := []) (lenOf pd_3 rfl) rfl (by show 2 * 0 + _ ≤ _; exact Nat.le_of_eq rfl) (hb hby at_111) (fun _ _ => ⟨rfl, e24, (by decide : 2 + 0 ≤ _), (by decide : 4 + 0 ≤ _)⟩)
  dsimp only [Pt.U, Pt.locs, Pt.cells, Pt.slots] at X26 lx26 yx26 zx26 st26 hQ26
  subst lx26 yx26 zx26
  obtain ⟨rfl, N26q, e26⟩ := hQ26
  have N26 := Fr.app N24 N26q
  refine own_lift (fun t k => st26.trans k) ?_
  show own_Go p.tables e below (T26.setTop (mkF m 114 #[iv p0, iv p1, iv p2, iv p3, iv p4, iv (own_pos p0), iv (own_pos p1), iv (own_pos p2), iv (own_pos p1), iv (p4 &&& (3 : Int32)), rv ob10, rv ob14, iv (((31 : Int32) * (own_pos p0)) + (own_pos p1)), iv (((31 : Int32) * (own_pos p0)) + (own_pos p1)), .unset] [(.int (((31 : Int32) * (own_pos p2)) + (own_pos p1)))])) _
  have sg27 : ∀ t, Steps p.tables e below (T26.setTop (mkF m 129 #[iv p0, iv p1, iv p2, iv p3, iv p4, iv (own_pos p0), iv (own_pos p1), iv (own_pos p2), iv (own_pos p1), iv (p4 &&& (3 : Int32)), rv ob10, rv ob14, iv (((31 : Int32) * (own_pos p0)) + (own_pos p1)), iv (((31 : Int32) * (own_pos p0)) + (own_pos p1)), iv (((31 : Int32) * (own_pos p2)) + (own_pos p1))] [(.ref ob14), (.ref ob10)])) t → Steps p.tables e below (T26.setTop (mkF m 114 #[iv p0, iv p1, iv p2, iv p3, iv p4, iv (own_pos p0), iv (own_pos p1), iv (own_pos p2), iv (own_pos p1), iv (p4 &&& (3 : Int32)), rv ob10, rv ob14, iv (((31 : Int32) * (own_pos p0)) + (own_pos p1)), iv (((31 : Int32) * (own_pos p0)) + (own_pos p1)), .unset] [(.int (((31 : Int32) * (own_pos p2)) + (own_pos p1)))])) t := by
    intro t k
    refine XS.istore X26.here hx rfl (hb hby at_114) rfl (l' := #[iv p0, iv p1, iv p2, iv p3, iv p4, iv (own_pos p0), iv (own_pos p1), iv (own_pos p2), iv (own_pos p1), iv (p4 &&& (3 : Int32)), rv ob10, rv ob14, iv (((31 : Int32) * (own_pos p0)) + (own_pos p1)), iv (((31 : Int32) * (own_pos p0)) + (own_pos p1)), iv (((31 : Int32) * (own_pos p2)) + (own_pos p1))]) rfl ?_
    show Steps p.tables e below (T26.setTop (mkF m 116 #[iv p0, iv p1, iv p2, iv p3, iv p4, iv (own_pos p0), iv (own_pos p1), iv (own_pos p2), iv (own_pos p1), iv (p4 &&& (3 : Int32)), rv ob10, rv ob14, iv (((31 : Int32) * (own_pos p0)) + (own_pos p1)), iv (((31 : Int32) * (own_pos p0)) + (own_pos p1)), iv (((31 : Int32) * (own_pos p2)) + (own_pos p1))] [])) _
    refine XS.iload X26.here hx rfl (hb hby at_116) rfl ?_
    show Steps p.tables e below (T26.setTop (mkF m 118 #[iv p0, iv p1, iv p2, iv p3, iv p4, iv (own_pos p0), iv (own_pos p1), iv (own_pos p2), iv (own_pos p1), iv (p4 &&& (3 : Int32)), rv ob10, rv ob14, iv (((31 : Int32) * (own_pos p0)) + (own_pos p1)), iv (((31 : Int32) * (own_pos p0)) + (own_pos p1)), iv (((31 : Int32) * (own_pos p2)) + (own_pos p1))] [(.int (((31 : Int32) * (own_pos p0)) + (own_pos p1)))])) _
    refine XS.iload X26.here hx rfl (hb hby at_118) rfl ?_
    show Steps p.tables e below (T26.setTop (mkF m 120 #[iv p0, iv p1, iv p2, iv p3, iv p4, iv (own_pos p0), iv (own_pos p1), iv (own_pos p2), iv (own_pos p1), iv (p4 &&& (3 : Int32)), rv ob10, rv ob14, iv (((31 : Int32) * (own_pos p0)) + (own_pos p1)), iv (((31 : Int32) * (own_pos p0)) + (own_pos p1)), iv (((31 : Int32) * (own_pos p2)) + (own_pos p1))] [(.int (((31 : Int32) * (own_pos p0)) + (own_pos p1))), (.int (((31 : Int32) * (own_pos p0)) + (own_pos p1)))])) _
    refine XS.icmpYes X26.here hx rfl (pc0 := 120) (pc' := 125) rfl (hb hby at_120) rfl (teq (rfl : (((31 : Int32) * (own_pos p0)) + (own_pos p1)) = (((31 : Int32) * (own_pos p0)) + (own_pos p1)))).1 (by decide) (by decide) ?_
    show Steps p.tables e below (T26.setTop (mkF m 125 #[iv p0, iv p1, iv p2, iv p3, iv p4, iv (own_pos p0), iv (own_pos p1), iv (own_pos p2), iv (own_pos p1), iv (p4 &&& (3 : Int32)), rv ob10, rv ob14, iv (((31 : Int32) * (own_pos p0)) + (own_pos p1)), iv (((31 : Int32) * (own_pos p0)) + (own_pos p1)), iv (((31 : Int32) * (own_pos p2)) + (own_pos p1))] [])) _
    refine XS.aload X26.here hx rfl (hb hby at_125) rfl rfl ?_
    show Steps p.tables e below (T26.setTop (mkF m 127 #[iv p0, iv p1, iv p2, iv p3, iv p4, iv (own_pos p0), iv (own_pos p1), iv (own_pos p2), iv (own_pos p1), iv (p4 &&& (3 : Int32)), rv ob10, rv ob14, iv (((31 : Int32) * (own_pos p0)) + (own_pos p1)), iv (((31 : Int32) * (own_pos p0)) + (own_pos p1)), iv (((31 : Int32) * (own_pos p2)) + (own_pos p1))] [(.ref ob10)])) _
    refine XS.aload X26.here hx rfl (hb hby at_127) rfl rfl ?_
    show Steps p.tables e below (T26.setTop (mkF m 129 #[iv p0, iv p1, iv p2, iv p3, iv p4, iv (own_pos p0), iv (own_pos p1), iv (own_pos p2), iv (own_pos p1), iv (p4 &&& (3 : Int32)), rv ob10, rv ob14, iv (((31 : Int32) * (own_pos p0)) + (own_pos p1)), iv (((31 : Int32) * (own_pos p0)) + (own_pos p1)), iv (((31 : Int32) * (own_pos p2)) + (own_pos p1))] [(.ref ob14), (.ref ob10)])) _
    exact k
  refine own_lift sg27 ?_
  show own_Go p.tables e below (T26.setTop (mkF m 129 #[iv p0, iv p1, iv p2, iv p3, iv p4, iv (own_pos p0), iv (own_pos p1), iv (own_pos p2), iv (own_pos p1), iv (p4 &&& (3 : Int32)), rv ob10, rv ob14, iv (((31 : Int32) * (own_pos p0)) + (own_pos p1)), iv (((31 : Int32) * (own_pos p0)) + (own_pos p1)), iv (((31 : Int32) * (own_pos p2)) + (own_pos p1))] [(.ref ob14), (.ref ob10)])) _
  obtain ⟨cq28, kq28, q28a, q28b, q28c⟩ := isOf hZ e26 Fc22
  obtain ⟨_, _, ⟨T28, Lx28, kx28, nx28⟩, -, X28, ⟨Lc28, hQ28, lx28, yx28, zx28⟩, st28⟩ := X26.virtualBack hx (y := (⟨"com/example/allsome/allsome/cypher/InputPosition", "equals", "(Ljava/lang/Object;)Z"⟩ : MethodName)) (z := (⟨"com/example/allsome/allsome/cypher/InputPosition", "equals", "(Ljava/lang/Object;)Z"⟩ : MethodName)) hown (mvT hZ (wd hw 27 rfl)) (mvT hZ (wd hw 28 rfl)) (notFace_of_selects (args := #[]) (mvT hZ (wd hw 30 rfl))) (mvT hZ (wd hw 30 rfl)) (mvT hZ (wd hw 29 rfl)) (by decide) (backOf (W := 0) (rmEqL l Z a0 hw [] ob10 ob14 (own_pos p0) (own_pos p1) (own_pos p2) (own_pos p1) T17.heap n0 Z17 Fc19 Fc20 p17_2 p17_3 p17_1 hl) hZ (wd hw 31 rfl) (wd hw 11 rfl) (by decide) (by decide)) q28a q28c (g := (mkF m 129 #[iv p0, iv p1, iv p2, iv p3, iv p4, iv (own_pos p0), iv (own_pos p1), iv (own_pos p2), iv (own_pos p1), iv (p4 &&& (3 : Int32)), rv ob10, rv ob14, iv (((31 : Int32) * (own_pos p0)) + (own_pos p1)), iv (((31 : Int32) * (own_pos p0)) + (own_pos p1)), iv (((31 : Int32) * (own_pos p2)) + (own_pos p1))] [(.ref ob14), (.ref ob10)])) rfl (by rw [hml]; rfl) (Steps.refl _) (argsL := [(.ref ob14)]) (rest := []) (lenOf pd_4 rfl) rfl (by show 2 * 0 + _ ≤ _; exact Nat.le_of_eq rfl) (hb hby at_129) (fun _ _ => ⟨rfl, e26, (by decide : 2 + 0 ≤ _), (by decide : 4 + 0 ≤ _)⟩)
  dsimp only [Pt.U, Pt.locs, Pt.cells, Pt.slots] at X28 lx28 yx28 zx28 st28 hQ28
  subst lx28 yx28 zx28
  obtain ⟨rfl, N28q, e28⟩ := hQ28
  have N28 := Fr.app N26 N28q
  refine own_lift (fun t k => st28.trans k) ?_
  show own_Go p.tables e below (T28.setTop (mkF m 132 #[iv p0, iv p1, iv p2, iv p3, iv p4, iv (own_pos p0), iv (own_pos p1), iv (own_pos p2), iv (own_pos p1), iv (p4 &&& (3 : Int32)), rv ob10, rv ob14, iv (((31 : Int32) * (own_pos p0)) + (own_pos p1)), iv (((31 : Int32) * (own_pos p0)) + (own_pos p1)), iv (((31 : Int32) * (own_pos p2)) + (own_pos p1))] [(.int 0)])) _
  have sg29 : ∀ t, Steps p.tables e below (T28.setTop (mkF m 145 #[iv p0, iv p1, iv p2, iv p3, iv p4, iv (own_pos p0), iv (own_pos p1), iv (own_pos p2), iv (own_pos p1), iv (p4 &&& (3 : Int32)), rv ob10, rv ob14, iv (((31 : Int32) * (own_pos p0)) + (own_pos p1)), iv (((31 : Int32) * (own_pos p0)) + (own_pos p1)), iv (((31 : Int32) * (own_pos p2)) + (own_pos p1))] [(.int 1)])) t → Steps p.tables e below (T28.setTop (mkF m 132 #[iv p0, iv p1, iv p2, iv p3, iv p4, iv (own_pos p0), iv (own_pos p1), iv (own_pos p2), iv (own_pos p1), iv (p4 &&& (3 : Int32)), rv ob10, rv ob14, iv (((31 : Int32) * (own_pos p0)) + (own_pos p1)), iv (((31 : Int32) * (own_pos p0)) + (own_pos p1)), iv (((31 : Int32) * (own_pos p2)) + (own_pos p1))] [(.int 0)])) t := by
    intro t k
    refine XS.ifYes X28.here hx rfl (pc0 := 132) (pc' := 144) rfl (hb hby at_132) rfl ((if0 _ _).trans (teq (by decide : (0 : Int32) = (0 : Int32))).1) (by decide) (by decide) ?_
    show Steps p.tables e below (T28.setTop (mkF m 144 #[iv p0, iv p1, iv p2, iv p3, iv p4, iv (own_pos p0), iv (own_pos p1), iv (own_pos p2), iv (own_pos p1), iv (p4 &&& (3 : Int32)), rv ob10, rv ob14, iv (((31 : Int32) * (own_pos p0)) + (own_pos p1)), iv (((31 : Int32) * (own_pos p0)) + (own_pos p1)), iv (((31 : Int32) * (own_pos p2)) + (own_pos p1))] [])) _
    refine XS.iconst X28.here hx rfl (hb hby at_144) ?_
    show Steps p.tables e below (T28.setTop (mkF m 145 #[iv p0, iv p1, iv p2, iv p3, iv p4, iv (own_pos p0), iv (own_pos p1), iv (own_pos p2), iv (own_pos p1), iv (p4 &&& (3 : Int32)), rv ob10, rv ob14, iv (((31 : Int32) * (own_pos p0)) + (own_pos p1)), iv (((31 : Int32) * (own_pos p0)) + (own_pos p1)), iv (((31 : Int32) * (own_pos p2)) + (own_pos p1))] [(.int 1)])) _
    exact k
  refine own_lift sg29 ?_
  show own_Go p.tables e below (T28.setTop (mkF m 145 #[iv p0, iv p1, iv p2, iv p3, iv p4, iv (own_pos p0), iv (own_pos p1), iv (own_pos p2), iv (own_pos p1), iv (p4 &&& (3 : Int32)), rv ob10, rv ob14, iv (((31 : Int32) * (own_pos p0)) + (own_pos p1)), iv (((31 : Int32) * (own_pos p0)) + (own_pos p1)), iv (((31 : Int32) * (own_pos p2)) + (own_pos p1))] [(.int 1)])) _
  obtain ⟨fs, hr, hrun, hended, hW, hsame⟩ := X28.leave (v := some (.int 1)) (fun h => by rw [Bd.returns] at h; cases h)
  refine ⟨_, _, ?_, hrun, hended, _, _, rfl, ?_, ⟨_, rfl⟩, hW, hsame.mono (by decide) (by decide)⟩
  · exact retN X28 hx (t := .boolean) Bd.returns (by simp) (hb hby at_145) hr
  · show Q0 Z  h0 n0 _ T28.heap _
    rw [e28]
    exact ⟨rfl, N28⟩
theorem ef_rm0_3e (m : MethodId) (x0 : Int32) (x1 : Int32) (x2 : Int32) (x3 : Int32) (x4 : Int32) : entryFrame m #[(.int x0), (.int x1), (.int x2), (.int x3), (.int x4)] maxLocals = mkF m 0 #[.val (.int x0), .val (.int x1), .val (.int x2), .val (.int x3), .val (.int x4), .unset, .unset, .unset, .unset, .unset, .unset, .unset, .unset, .unset, .unset] [] := by first | (simp [entryFrame, mkF, argsToLocals, Value.category, maxLocals]; done) | rfl
set_option maxRecDepth 65536 in
set_option maxHeartbeats 40000000 in
theorem rm0_3e (l : Launch) (Z : State) (a0 : Array Value) (hw : ∀ d ∈ tables_1, d.before a0 Z = true) (ws : List Jvm.Cond) (p0 : Int32) (p1 : Int32) (p2 : Int32) (p3 : Int32) (p4 : Int32) (h0 : Heap) (n0 : Nat) (Z0 : n0 ≤ h0.size)  (m0 : ¬ ((p4 &&& (3 : Int32)) = (0 : Int32))) (m1 : ¬ ((p4 &&& (3 : Int32)) = (1 : Int32))) (m2 : ¬ ((p4 &&& (3 : Int32)) = (2 : Int32))) (hl : (own_pos p0) = (own_pos p2)) (hc : (own_pos p1) = (own_pos p3)) :
    MetFree l x (head1 (Jvm.Cond.code x code maxLocals ret :: ws) room_1) (fun a U => a = #[(.int p0), (.int p1), (.int p2), (.int p3), (.int p4)] ∧ Z.Warmed39 U.vm ∧ U.heap = h0) (fun _ _ _ _ _ => True) (fun _ U o U' => ∃ v L, o = .returned v ∧ Q0 Z  h0 n0 v U'.heap L ∧ FrameEnd U o U' L 16 128) := by
  refine MetFree.of_bodySF (plainFor_of_name pn_1) hisR ?_
  intro p e s m args below meth c s₁ Bd hml0 hP hK
  obtain ⟨rfl, hZ, hh⟩ := hP
  have hx := Bd.exec
  have hby := Bd.bytes
  have hml : c.maxLocals = 15 := hml0
  have hown : s.vm.findClass "com/example/allsome/allsome/cypher/InputPositionHashCodePinLaw" = some m.cls := findClass_of_methodNamed Bd.named
  have hnm := (name_of_methodNamed Bd.named Bd.method).1
  have X0 : Stand p l e room_1 s m #[(.int p0), (.int p1), (.int p2), (.int p3), (.int p4)] below meth c s₁ [] 0 0 := Stand.of_body Bd
  have e0 : s₁.heap = h0 := by rw [← hh, Bd.state]; rfl
  have N0 := Fr.nil n0
  refine own_go (own_lift (fun t k => castTop (ef_rm0_3e m p0 p1 p2 p3 p4) k) ?_)
  show own_Go p.tables e below (s₁.setTop (mkF m 0 #[iv p0, iv p1, iv p2, iv p3, iv p4, .unset, .unset, .unset, .unset, .unset, .unset, .unset, .unset, .unset, .unset] [])) _
  have sg1 : ∀ t, Steps p.tables e below (s₁.setTop (mkF m 1 #[iv p0, iv p1, iv p2, iv p3, iv p4, .unset, .unset, .unset, .unset, .unset, .unset, .unset, .unset, .unset, .unset] [(.int p0)])) t → Steps p.tables e below (s₁.setTop (mkF m 0 #[iv p0, iv p1, iv p2, iv p3, iv p4, .unset, .unset, .unset, .unset, .unset, .unset, .unset, .unset, .unset, .unset] [])) t := by
    intro t k
    refine XS.iloadN X0.here hx rfl (hb hby at_0) rfl ?_
    show Steps p.tables e below (s₁.setTop (mkF m 1 #[iv p0, iv p1, iv p2, iv p3, iv p4, .unset, .unset, .unset, .unset, .unset, .unset, .unset, .unset, .unset, .unset] [(.int p0)])) _
    exact k
  refine own_lift sg1 ?_
  show own_Go p.tables e below (s₁.setTop (mkF m 1 #[iv p0, iv p1, iv p2, iv p3, iv p4, .unset, .unset, .unset, .unset, .unset, .unset, .unset, .unset, .unset, .unset] [(.int p0)])) _
  obtain ⟨_, _, ⟨T2, Lx2, kx2, nx2⟩, -, X2, ⟨Lc2, hQ2, lx2, yx2, zx2⟩, st2⟩ := Jvm.LawKit.callS X0 hx (y := (⟨"com/example/allsome/allsome/cypher/InputPositionHashCodePinLaw", "pos", "(I)I"⟩ : MethodName)) hown (mvT hZ (wd hw 0 rfl)) (mvT hZ (wd hw 1 rfl)) (mvT hZ (wd hw 2 rfl)) (mvT hZ (wd hw 3 rfl)) (by decide) (backOf (W := 0) (rmPos l Z a0 hw [] p0 h0 n0 Z0 ) hZ (wd hw 3 rfl) (wd hw 2 rfl) (by decide) (by decide)) (g := (mkF m 1 #[iv p0, iv p1, iv p2, iv p3, iv p4, .unset, .unset, .unset, .unset, .unset, .unset, .unset, .unset, .unset, .unset] [(.int p0)])) rfl (by rw [hml]; rfl) (argsL := [(.int p0)]) (rest := []) (lenOf pd_1 rfl) rfl (by show 2 * 0 + _ ≤ _; exact Nat.le_of_eq rfl) (hb hby at_1) (fun _ _ => ⟨rfl, e0, (by decide : 0 + 0 ≤ _), (by decide : 0 + 0 ≤ _)⟩)
  dsimp only [Pt.U, Pt.locs, Pt.cells, Pt.slots] at X2 lx2 yx2 zx2 st2 hQ2
  subst lx2 yx2 zx2
  obtain ⟨rfl, N2q, e2⟩ := hQ2
  have N2 := Fr.app N0 N2q
  refine own_lift st2 ?_
  show own_Go p.tables e below (T2.setTop (mkF m 4 #[iv p0, iv p1, iv p2, iv p3, iv p4, .unset, .unset, .unset, .unset, .unset, .unset, .unset, .unset, .unset, .unset] [(.int (own_pos p0))])) _
  have sg3 : ∀ t, Steps p.tables e below (T2.setTop (mkF m 7 #[iv p0, iv p1, iv p2, iv p3, iv p4, iv (own_pos p0), .unset, .unset, .unset, .unset, .unset, .unset, .unset, .unset, .unset] [(.int p1)])) t → Steps p.tables e below (T2.setTop (mkF m 4 #[iv p0, iv p1, iv p2, iv p3, iv p4, .unset, .unset, .unset, .unset, .unset, .unset, .unset, .unset, .unset, .unset] [(.int (own_pos p0))])) t := by
    intro t k
    refine XS.istore X2.here hx rfl (hb hby at_4) rfl (l' := #[iv p0, iv p1, iv p2, iv p3, iv p4, iv (own_pos p0), .unset, .unset, .unset, .unset, .unset, .unset, .unset, .unset, .unset]) rfl ?_
    show Steps p.tables e below (T2.setTop (mkF m 6 #[iv p0, iv p1, iv p2, iv p3, iv p4, iv (own_pos p0), .unset, .unset, .unset, .unset, .unset, .unset, .unset, .unset, .unset] [])) _
    refine XS.iloadN X2.here hx rfl (hb hby at_6) rfl ?_
    show Steps p.tables e below (T2.setTop (mkF m 7 #[iv p0, iv p1, iv p2, iv p3, iv p4, iv (own_pos p0), .unset, .unset, .unset, .unset, .unset, .unset, .unset, .unset, .unset] [(.int p1)])) _
    exact k
  refine own_lift sg3 ?_
  show own_Go p.tables e below (T2.setTop (mkF m 7 #[iv p0, iv p1, iv p2, iv p3, iv p4, iv (own_pos p0), .unset, .unset, .unset, .unset, .unset, .unset, .unset, .unset, .unset] [(.int p1)])) _
  obtain ⟨_, _, ⟨T4, Lx4, kx4, nx4⟩, -, X4, ⟨Lc4, hQ4, lx4, yx4, zx4⟩, st4⟩ := Jvm.LawKit.callS X2 hx (y := (⟨"com/example/allsome/allsome/cypher/InputPositionHashCodePinLaw", "pos", "(I)I"⟩ : MethodName)) hown (mvT hZ (wd hw 0 rfl)) (mvT hZ (wd hw 1 rfl)) (mvT hZ (wd hw 2 rfl)) (mvT hZ (wd hw 3 rfl)) (by decide) (backOf (W := 0) (rmPos l Z a0 hw [] p1 h0 n0 Z0 ) hZ (wd hw 3 rfl) (wd hw 2 rfl) (by decide) (by decide)) (g := (mkF m 7 #[iv p0, iv p1, iv p2, iv p3, iv p4, iv (own_pos p0), .unset, .unset, .unset, .unset, .unset, .unset, .unset, .unset, .unset] [(.int p1)])) rfl (by rw [hml]; rfl) (argsL := [(.int p1)]) (rest := []) (lenOf pd_1 rfl) rfl (by show 2 * 0 + _ ≤ _; exact Nat.le_of_eq rfl) (hb hby at_7) (fun _ _ => ⟨rfl, e2, (by decide : 0 + 0 ≤ _), (by decide : 0 + 0 ≤ _)⟩)
  dsimp only [Pt.U, Pt.locs, Pt.cells, Pt.slots] at X4 lx4 yx4 zx4 st4 hQ4
  subst lx4 yx4 zx4
  obtain ⟨rfl, N4q, e4⟩ := hQ4
  have N4 := Fr.app N2 N4q
  refine own_lift st4 ?_
  show own_Go p.tables e below (T4.setTop (mkF m 10 #[iv p0, iv p1, iv p2, iv p3, iv p4, iv (own_pos p0), .unset, .unset, .unset, .unset, .unset, .unset, .unset, .unset, .unset] [(.int (own_pos p1))])) _
  have sg5 : ∀ t, Steps p.tables e below (T4.setTop (mkF m 13 #[iv p0, iv p1, iv p2, iv p3, iv p4, iv (own_pos p0), iv (own_pos p1), .unset, .unset, .unset, .unset, .unset, .unset, .unset, .unset] [(.int p2)])) t → Steps p.tables e below (T4.setTop (mkF m 10 #[iv p0, iv p1, iv p2, iv p3, iv p4, iv (own_pos p0), .unset, .unset, .unset, .unset, .unset, .unset, .unset, .unset, .unset] [(.int (own_pos p1))])) t := by
    intro t k
    refine XS.istore X4.here hx rfl (hb hby at_10) rfl (l' := #[iv p0, iv p1, iv p2, iv p3, iv p4, iv (own_pos p0), iv (own_pos p1), .unset, .unset, .unset, .unset, .unset, .unset, .unset, .unset]) rfl ?_
    show Steps p.tables e below (T4.setTop (mkF m 12 #[iv p0, iv p1, iv p2, iv p3, iv p4, iv (own_pos p0), iv (own_pos p1), .unset, .unset, .unset, .unset, .unset, .unset, .unset, .unset] [])) _
    refine XS.iloadN X4.here hx rfl (hb hby at_12) rfl ?_
    show Steps p.tables e below (T4.setTop (mkF m 13 #[iv p0, iv p1, iv p2, iv p3, iv p4, iv (own_pos p0), iv (own_pos p1), .unset, .unset, .unset, .unset, .unset, .unset, .unset, .unset] [(.int p2)])) _
    exact k
  refine own_lift sg5 ?_
  show own_Go p.tables e below (T4.setTop (mkF m 13 #[iv p0, iv p1, iv p2, iv p3, iv p4, iv (own_pos p0), iv (own_pos p1), .unset, .unset, .unset, .unset, .unset, .unset, .unset, .unset] [(.int p2)])) _
  obtain ⟨_, _, ⟨T6, Lx6, kx6, nx6⟩, -, X6, ⟨Lc6, hQ6, lx6, yx6, zx6⟩, st6⟩ := Jvm.LawKit.callS X4 hx (y := (⟨"com/example/allsome/allsome/cypher/InputPositionHashCodePinLaw", "pos", "(I)I"⟩ : MethodName)) hown (mvT hZ (wd hw 0 rfl)) (mvT hZ (wd hw 1 rfl)) (mvT hZ (wd hw 2 rfl)) (mvT hZ (wd hw 3 rfl)) (by decide) (backOf (W := 0) (rmPos l Z a0 hw [] p2 h0 n0 Z0 ) hZ (wd hw 3 rfl) (wd hw 2 rfl) (by decide) (by decide)) (g := (mkF m 13 #[iv p0, iv p1, iv p2, iv p3, iv p4, iv (own_pos p0), iv (own_pos p1), .unset, .unset, .unset, .unset, .unset, .unset, .unset, .unset] [(.int p2)])) rfl (by rw [hml]; rfl) (argsL := [(.int p2)]) (rest := []) (lenOf pd_1 rfl) rfl (by show 2 * 0 + _ ≤ _; exact Nat.le_of_eq rfl) (hb hby at_13) (fun _ _ => ⟨rfl, e4, (by decide : 0 + 0 ≤ _), (by decide : 0 + 0 ≤ _)⟩)
  dsimp only [Pt.U, Pt.locs, Pt.cells, Pt.slots] at X6 lx6 yx6 zx6 st6 hQ6
  subst lx6 yx6 zx6
  obtain ⟨rfl, N6q, e6⟩ := hQ6
  have N6 := Fr.app N4 N6q
  refine own_lift st6 ?_
  show own_Go p.tables e below (T6.setTop (mkF m 16 #[iv p0, iv p1, iv p2, iv p3, iv p4, iv (own_pos p0), iv (own_pos p1), .unset, .unset, .unset, .unset, .unset, .unset, .unset, .unset] [(.int (own_pos p2))])) _
  have sg7 : ∀ t, Steps p.tables e below (T6.setTop (mkF m 19 #[iv p0, iv p1, iv p2, iv p3, iv p4, iv (own_pos p0), iv (own_pos p1), iv (own_pos p2), .unset, .unset, .unset, .unset, .unset, .unset, .unset] [(.int p3)])) t → Steps p.tables e below (T6.setTop (mkF m 16 #[iv p0, iv p1, iv p2, iv p3, iv p4, iv (own_pos p0), iv (own_pos p1), .unset, .unset, .unset, .unset, .unset, .unset, .unset, .unset] [(.int (own_pos p2))])) t := by
    intro t k
    refine XS.istore X6.here hx rfl (hb hby at_16) rfl (l' := #[iv p0, iv p1, iv p2, iv p3, iv p4, iv (own_pos p0), iv (own_pos p1), iv (own_pos p2), .unset, .unset, .unset, .unset, .unset, .unset, .unset]) rfl ?_
    show Steps p.tables e below (T6.setTop (mkF m 18 #[iv p0, iv p1, iv p2, iv p3, iv p4, iv (own_pos p0), iv (own_pos p1), iv (own_pos p2), .unset, .unset, .unset, .unset, .unset, .unset, .unset] [])) _
    refine XS.iloadN X6.here hx rfl (hb hby at_18) rfl ?_
    show Steps p.tables e below (T6.setTop (mkF m 19 #[iv p0, iv p1, iv p2, iv p3, iv p4, iv (own_pos p0), iv (own_pos p1), iv (own_pos p2), .unset, .unset, .unset, .unset, .unset, .unset, .unset] [(.int p3)])) _
    exact k
  refine own_lift sg7 ?_
  show own_Go p.tables e below (T6.setTop (mkF m 19 #[iv p0, iv p1, iv p2, iv p3, iv p4, iv (own_pos p0), iv (own_pos p1), iv (own_pos p2), .unset, .unset, .unset, .unset, .unset, .unset, .unset] [(.int p3)])) _
  obtain ⟨_, _, ⟨T8, Lx8, kx8, nx8⟩, -, X8, ⟨Lc8, hQ8, lx8, yx8, zx8⟩, st8⟩ := Jvm.LawKit.callS X6 hx (y := (⟨"com/example/allsome/allsome/cypher/InputPositionHashCodePinLaw", "pos", "(I)I"⟩ : MethodName)) hown (mvT hZ (wd hw 0 rfl)) (mvT hZ (wd hw 1 rfl)) (mvT hZ (wd hw 2 rfl)) (mvT hZ (wd hw 3 rfl)) (by decide) (backOf (W := 0) (rmPos l Z a0 hw [] p3 h0 n0 Z0 ) hZ (wd hw 3 rfl) (wd hw 2 rfl) (by decide) (by decide)) (g := (mkF m 19 #[iv p0, iv p1, iv p2, iv p3, iv p4, iv (own_pos p0), iv (own_pos p1), iv (own_pos p2), .unset, .unset, .unset, .unset, .unset, .unset, .unset] [(.int p3)])) rfl (by rw [hml]; rfl) (argsL := [(.int p3)]) (rest := []) (lenOf pd_1 rfl) rfl (by show 2 * 0 + _ ≤ _; exact Nat.le_of_eq rfl) (hb hby at_19) (fun _ _ => ⟨rfl, e6, (by decide : 0 + 0 ≤ _), (by decide : 0 + 0 ≤ _)⟩)
  dsimp only [Pt.U, Pt.locs, Pt.cells, Pt.slots] at X8 lx8 yx8 zx8 st8 hQ8
  subst lx8 yx8 zx8
  obtain ⟨rfl, N8q, e8⟩ := hQ8
  have N8 := Fr.app N6 N8q
  refine own_lift st8 ?_
  show own_Go p.tables e below (T8.setTop (mkF m 22 #[iv p0, iv p1, iv p2, iv p3, iv p4, iv (own_pos p0), iv (own_pos p1), iv (own_pos p2), .unset, .unset, .unset, .unset, .unset, .unset, .unset] [(.int (own_pos p3))])) _
  have sg9 : ∀ t, Steps p.tables e below (T8.setTop (mkF m 69 #[iv p0, iv p1, iv p2, iv p3, iv p4, iv (own_pos p0), iv (own_pos p1), iv (own_pos p2), iv (own_pos p3), iv (p4 &&& (3 : Int32)), .unset, .unset, .unset, .unset, .unset] [])) t → Steps p.tables e below (T8.setTop (mkF m 22 #[iv p0, iv p1, iv p2, iv p3, iv p4, iv (own_pos p0), iv (own_pos p1), iv (own_pos p2), .unset, .unset, .unset, .unset, .unset, .unset, .unset] [(.int (own_pos p3))])) t := by
    intro t k
    refine XS.istore X8.here hx rfl (hb hby at_22) rfl (l' := #[iv p0, iv p1, iv p2, iv p3, iv p4, iv (own_pos p0), iv (own_pos p1), iv (own_pos p2), iv (own_pos p3), .unset, .unset, .unset, .unset, .unset, .unset]) rfl ?_
    show Steps p.tables e below (T8.setTop (mkF m 24 #[iv p0, iv p1, iv p2, iv p3, iv p4, iv (own_pos p0), iv (own_pos p1), iv (own_pos p2), iv (own_pos p3), .unset, .unset, .unset, .unset, .unset, .unset] [])) _
    refine XS.iload X8.here hx rfl (hb hby at_24) rfl ?_
    show Steps p.tables e below (T8.setTop (mkF m 26 #[iv p0, iv p1, iv p2, iv p3, iv p4, iv (own_pos p0), iv (own_pos p1), iv (own_pos p2), iv (own_pos p3), .unset, .unset, .unset, .unset, .unset, .unset] [(.int p4)])) _
    refine XS.iconst X8.here hx rfl (hb hby at_26) ?_
    show Steps p.tables e below (T8.setTop (mkF m 27 #[iv p0, iv p1, iv p2, iv p3, iv p4, iv (own_pos p0), iv (own_pos p1), iv (own_pos p2), iv (own_pos p3), .unset, .unset, .unset, .unset, .unset, .unset] [(.int 3), (.int p4)])) _
    refine XS.iand X8.here hx rfl (hb hby at_27) rfl ?_
    show Steps p.tables e below (T8.setTop (mkF m 28 #[iv p0, iv p1, iv p2, iv p3, iv p4, iv (own_pos p0), iv (own_pos p1), iv (own_pos p2), iv (own_pos p3), .unset, .unset, .unset, .unset, .unset, .unset] [(.int (p4 &&& (3 : Int32)))])) _
    refine XS.istore X8.here hx rfl (hb hby at_28) rfl (l' := #[iv p0, iv p1, iv p2, iv p3, iv p4, iv (own_pos p0), iv (own_pos p1), iv (own_pos p2), iv (own_pos p3), iv (p4 &&& (3 : Int32)), .unset, .unset, .unset, .unset, .unset]) rfl ?_
    show Steps p.tables e below (T8.setTop (mkF m 30 #[iv p0, iv p1, iv p2, iv p3, iv p4, iv (own_pos p0), iv (own_pos p1), iv (own_pos p2), iv (own_pos p3), iv (p4 &&& (3 : Int32)), .unset, .unset, .unset, .unset, .unset] [])) _
    refine XS.iload X8.here hx rfl (hb hby at_30) rfl ?_
    show Steps p.tables e below (T8.setTop (mkF m 32 #[iv p0, iv p1, iv p2, iv p3, iv p4, iv (own_pos p0), iv (own_pos p1), iv (own_pos p2), iv (own_pos p3), iv (p4 &&& (3 : Int32)), .unset, .unset, .unset, .unset, .unset] [(.int (p4 &&& (3 : Int32)))])) _
    refine XS.ifYes X8.here hx rfl (pc0 := 32) (pc' := 46) rfl (hb hby at_32) rfl ((if0 _ _).trans (feq m0).2) (by decide) (by decide) ?_
    show Steps p.tables e below (T8.setTop (mkF m 46 #[iv p0, iv p1, iv p2, iv p3, iv p4, iv (own_pos p0), iv (own_pos p1), iv (own_pos p2), iv (own_pos p3), iv (p4 &&& (3 : Int32)), .unset, .unset, .unset, .unset, .unset] [])) _
    refine XS.iload X8.here hx rfl (hb hby at_46) rfl ?_
    show Steps p.tables e below (T8.setTop (mkF m 48 #[iv p0, iv p1, iv p2, iv p3, iv p4, iv (own_pos p0), iv (own_pos p1), iv (own_pos p2), iv (own_pos p3), iv (p4 &&& (3 : Int32)), .unset, .unset, .unset, .unset, .unset] [(.int (p4 &&& (3 : Int32)))])) _
    refine XS.iconst X8.here hx rfl (hb hby at_48) ?_
    show Steps p.tables e below (T8.setTop (mkF m 49 #[iv p0, iv p1, iv p2, iv p3, iv p4, iv (own_pos p0), iv (own_pos p1), iv (own_pos p2), iv (own_pos p3), iv (p4 &&& (3 : Int32)), .unset, .unset, .unset, .unset, .unset] [(.int 1), (.int (p4 &&& (3 : Int32)))])) _
    refine XS.icmpYes X8.here hx rfl (pc0 := 49) (pc' := 59) rfl (hb hby at_49) rfl (feq m1).2 (by decide) (by decide) ?_
    show Steps p.tables e below (T8.setTop (mkF m 59 #[iv p0, iv p1, iv p2, iv p3, iv p4, iv (own_pos p0), iv (own_pos p1), iv (own_pos p2), iv (own_pos p3), iv (p4 &&& (3 : Int32)), .unset, .unset, .unset, .unset, .unset] [])) _
    refine XS.iload X8.here hx rfl (hb hby at_59) rfl ?_
    show Steps p.tables e below (T8.setTop (mkF m 61 #[iv p0, iv p1, iv p2, iv p3, iv p4, iv (own_pos p0), iv (own_pos p1), iv (own_pos p2), iv (own_pos p3), iv (p4 &&& (3 : Int32)), .unset, .unset, .unset, .unset, .unset] [(.int (p4 &&& (3 : Int32)))])) _
    refine XS.iconst X8.here hx rfl (hb hby at_61) ?_
    show Steps p.tables e below (T8.setTop (mkF m 62 #[iv p0, iv p1, iv p2, iv p3, iv p4, iv (own_pos p0), iv (own_pos p1), iv (own_pos p2), iv (own_pos p3), iv (p4 &&& (3 : Int32)), .unset, .unset, .unset, .unset, .unset] [(.int 2), (.int (p4 &&& (3 : Int32)))])) _
    refine XS.icmpYes X8.here hx rfl (pc0 := 62) (pc' := 69) rfl (hb hby at_62) rfl (feq m2).2 (by decide) (by decide) ?_
    show Steps p.tables e below (T8.setTop (mkF m 69 #[iv p0, iv p1, iv p2, iv p3, iv p4, iv (own_pos p0), iv (own_pos p1), iv (own_pos p2), iv (own_pos p3), iv (p4 &&& (3 : Int32)), .unset, .unset, .unset, .unset, .unset] [])) _
    exact k
  refine own_lift sg9 ?_
  show own_Go p.tables e below (T8.setTop (mkF m 69 #[iv p0, iv p1, iv p2, iv p3, iv p4, iv (own_pos p0), iv (own_pos p1), iv (own_pos p2), iv (own_pos p3), iv (p4 &&& (3 : Int32)), .unset, .unset, .unset, .unset, .unset] [])) _
  obtain ⟨T10, h10, X10, e10, Ex10, Ax10, Dx10, Ux10, st10⟩ := newO X8 hx hZ hown (wd hw 9 rfl) (wd hw 10 rfl) (wd hw 11 rfl) e8 (g := (mkF m 69 #[iv p0, iv p1, iv p2, iv p3, iv p4, iv (own_pos p0), iv (own_pos p1), iv (own_pos p2), iv (own_pos p3), iv (p4 &&& (3 : Int32)), .unset, .unset, .unset, .unset, .unset] [])) rfl (hb hby at_69) (by decide) (by decide)
  obtain ⟨ob10, g10⟩ : ∃ z, z = h0.size := ⟨_, rfl⟩
  rw [← g10] at Ax10 Dx10 Ux10 st10
  have Z10 : n0 ≤ h10.size := Nat.le_trans Z0 Ex10.1
  have ge10 : n0 ≤ ob10 := Nat.le_trans Z0 (Nat.le_of_eq g10.symm)
  have Fn10_19 : Fld Z h10 ob10 "com/example/allsome/allsome/cypher/InputPosition" "line" "I" (.int 0) := Dx10 (Or.inr (wd hw 19 rfl)) (ty := .int) (by decide)
  have Fn10_21 : Fld Z h10 ob10 "com/example/allsome/allsome/cypher/InputPosition" "column" "I" (.int 0) := Dx10 (Or.inr (wd hw 21 rfl)) (ty := .int) (by decide)
  refine own_lift st10 ?_
  show own_Go p.tables e below (T10.setTop (mkF m 72 #[iv p0, iv p1, iv p2, iv p3, iv p4, iv (own_pos p0), iv (own_pos p1), iv (own_pos p2), iv (own_pos p3), iv (p4 &&& (3 : Int32)), .unset, .unset, .unset, .unset, .unset] [(.ref ob10)])) _
  have sg11 : ∀ t, Steps p.tables e below (T10.setTop (mkF m 77 #[iv p0, iv p1, iv p2, iv p3, iv p4, iv (own_pos p0), iv (own_pos p1), iv (own_pos p2), iv (own_pos p3), iv (p4 &&& (3 : Int32)), .unset, .unset, .unset, .unset, .unset] [(.int (own_pos p1)), (.int (own_pos p0)), (.ref ob10), (.ref ob10)])) t → Steps p.tables e below (T10.setTop (mkF m 72 #[iv p0, iv p1, iv p2, iv p3, iv p4, iv (own_pos p0), iv (own_pos p1), iv (own_pos p2), iv (own_pos p3), iv (p4 &&& (3 : Int32)), .unset, .unset, .unset, .unset, .unset] [(.ref ob10)])) t := by
    intro t k
    refine XS.dup X10.here hx rfl (hb hby at_72) rfl rfl ?_
    show Steps p.tables e below (T10.setTop (mkF m 73 #[iv p0, iv p1, iv p2, iv p3, iv p4, iv (own_pos p0), iv (own_pos p1), iv (own_pos p2), iv (own_pos p3), iv (p4 &&& (3 : Int32)), .unset, .unset, .unset, .unset, .unset] [(.ref ob10), (.ref ob10)])) _
    refine XS.iload X10.here hx rfl (hb hby at_73) rfl ?_
    show Steps p.tables e below (T10.setTop (mkF m 75 #[iv p0, iv p1, iv p2, iv p3, iv p4, iv (own_pos p0), iv (own_pos p1), iv (own_pos p2), iv (own_pos p3), iv (p4 &&& (3 : Int32)), .unset, .unset, .unset, .unset, .unset] [(.int (own_pos p0)), (.ref ob10), (.ref ob10)])) _
    refine XS.iload X10.here hx rfl (hb hby at_75) rfl ?_
    show Steps p.tables e below (T10.setTop (mkF m 77 #[iv p0, iv p1, iv p2, iv p3, iv p4, iv (own_pos p0), iv (own_pos p1), iv (own_pos p2), iv (own_pos p3), iv (p4 &&& (3 : Int32)), .unset, .unset, .unset, .unset, .unset] [(.int (own_pos p1)), (.int (own_pos p0)), (.ref ob10), (.ref ob10)])) _
    exact k
  refine own_lift sg11 ?_
  show own_Go p.tables e below (T10.setTop (mkF m 77 #[iv p0, iv p1, iv p2, iv p3, iv p4, iv (own_pos p0), iv (own_pos p1), iv (own_pos p2), iv (own_pos p3), iv (p4 &&& (3 : Int32)), .unset, .unset, .unset, .unset, .unset] [(.int (own_pos p1)), (.int (own_pos p0)), (.ref ob10), (.ref ob10)])) _
  obtain ⟨_, _, ⟨T12, Lx12, kx12, nx12⟩, -, X12, ⟨Lc12, hQ12, lx12, yx12, zx12⟩, st12⟩ := X10.specialBack hx (y := (⟨"com/example/allsome/allsome/cypher/InputPosition", "<init>", "(II)V"⟩ : MethodName)) rfl hown (mvT hZ (wd hw 12 rfl)) (mvT hZ (wd hw 13 rfl)) (mvT hZ (wd hw 14 rfl)) (by decide) (backOf (W := 1) (rmInit l Z a0 hw [] ob10 (own_pos p0) (own_pos p1) h10 n0 Z10 Fn10_19 Fn10_21 Ax10 ge10 (own_pos_ge p0) (own_pos_ge p1)) hZ (wd hw 14 rfl) (wd hw 11 rfl) (by decide) (by decide)) (g := (mkF m 77 #[iv p0, iv p1, iv p2, iv p3, iv p4, iv (own_pos p0), iv (own_pos p1), iv (own_pos p2), iv (own_pos p3), iv (p4 &&& (3 : Int32)), .unset, .unset, .unset, .unset, .unset] [(.int (own_pos p1)), (.int (own_pos p0)), (.ref ob10), (.ref ob10)])) rfl (by rw [hml]; rfl) (Steps.refl _) (a := ob10) (argsL := [(.int (own_pos p0)), (.int (own_pos p1))]) (rest := [(.ref ob10)]) (lenOf pd_2 rfl) rfl (by show 2 * 0 + _ ≤ _; exact Nat.le_of_eq rfl) (hb hby at_77) (fun _ _ => ⟨rfl, e10, (by decide : 1 + 0 ≤ _), (by decide : 2 + 0 ≤ _)⟩)
  dsimp only [Pt.U, Pt.locs, Pt.cells, Pt.slots] at X12 lx12 yx12 zx12 st12 hQ12
  subst lx12 yx12 zx12
  obtain ⟨rfl, N12q, p12_0, p12_1, p12_2, p12_3⟩ := hQ12
  have N12 := Fr.app N8 N12q
  have Z12 : n0 ≤ T12.heap.size := Nat.le_trans Z10 p12_0.1
  refine own_lift (fun t k => st12.trans k) ?_
  show own_Go p.tables e below (T12.setTop (mkF m 80 #[iv p0, iv p1, iv p2, iv p3, iv p4, iv (own_pos p0), iv (own_pos p1), iv (own_pos p2), iv (own_pos p3), iv (p4 &&& (3 : Int32)), .unset, .unset, .unset, .unset, .unset] [(.ref ob10)])) _
  have sg13 : ∀ t, Steps p.tables e below (T12.setTop (mkF m 82 #[iv p0, iv p1, iv p2, iv p3, iv p4, iv (own_pos p0), iv (own_pos p1), iv (own_pos p2), iv (own_pos p3), iv (p4 &&& (3 : Int32)), rv ob10, .unset, .unset, .unset, .unset] [])) t → Steps p.tables e below (T12.setTop (mkF m 80 #[iv p0, iv p1, iv p2, iv p3, iv p4, iv (own_pos p0), iv (own_pos p1), iv (own_pos p2), iv (own_pos p3), iv (p4 &&& (3 : Int32)), .unset, .unset, .unset, .unset, .unset] [(.ref ob10)])) t := by
    intro t k
    refine XS.astore X12.here hx rfl (hb hby at_80) rfl rfl (l' := #[iv p0, iv p1, iv p2, iv p3, iv p4, iv (own_pos p0), iv (own_pos p1), iv (own_pos p2), iv (own_pos p3), iv (p4 &&& (3 : Int32)), rv ob10, .unset, .unset, .unset, .unset]) rfl ?_
    show Steps p.tables e below (T12.setTop (mkF m 82 #[iv p0, iv p1, iv p2, iv p3, iv p4, iv (own_pos p0), iv (own_pos p1), iv (own_pos p2), iv (own_pos p3), iv (p4 &&& (3 : Int32)), rv ob10, .unset, .unset, .unset, .unset] [])) _
    exact k
  refine own_lift sg13 ?_
  show own_Go p.tables e below (T12.setTop (mkF m 82 #[iv p0, iv p1, iv p2, iv p3, iv p4, iv (own_pos p0), iv (own_pos p1), iv (own_pos p2), iv (own_pos p3), iv (p4 &&& (3 : Int32)), rv ob10, .unset, .unset, .unset, .unset] [])) _
  obtain ⟨T14, h14, X14, e14, Ex14, Ax14, Dx14, Ux14, st14⟩ := newO X12 hx hZ hown (wd hw 9 rfl) (wd hw 10 rfl) (wd hw 11 rfl) rfl (g := (mkF m 82 #[iv p0, iv p1, iv p2, iv p3, iv p4, iv (own_pos p0), iv (own_pos p1), iv (own_pos p2), iv (own_pos p3), iv (p4 &&& (3 : Int32)), rv ob10, .unset, .unset, .unset, .unset] [])) rfl (hb hby at_82) (by decide) (by decide)
  obtain ⟨ob14, g14⟩ : ∃ z, z = T12.heap.size := ⟨_, rfl⟩
  rw [← g14] at Ax14 Dx14 Ux14 st14
  have ne15 : ob10 ≠ ob14 := Nat.ne_of_lt (Nat.lt_of_lt_of_le p12_1.lt (Nat.le_of_eq g14.symm))
  have Z14 : n0 ≤ h14.size := Nat.le_trans Z12 Ex14.1
  have ge14 : n0 ≤ ob14 := Nat.le_trans Z12 (Nat.le_of_eq g14.symm)
  have Fn14_19 : Fld Z h14 ob14 "com/example/allsome/allsome/cypher/InputPosition" "line" "I" (.int 0) := Dx14 (Or.inr (wd hw 19 rfl)) (ty := .int) (by decide)
  have Fn14_21 : Fld Z h14 ob14 "com/example/allsome/allsome/cypher/InputPosition" "column" "I" (.int 0) := Dx14 (Or.inr (wd hw 21 rfl)) (ty := .int) (by decide)
  refine own_lift st14 ?_
  show own_Go p.tables e below (T14.setTop (mkF m 85 #[iv p0, iv p1, iv p2, iv p3, iv p4, iv (own_pos p0), iv (own_pos p1), iv (own_pos p2), iv (own_pos p3), iv (p4 &&& (3 : Int32)), rv ob10, .unset, .unset, .unset, .unset] [(.ref ob14)])) _
  have sg16 : ∀ t, Steps p.tables e below (T14.setTop (mkF m 90 #[iv p0, iv p1, iv p2, iv p3, iv p4, iv (own_pos p0), iv (own_pos p1), iv (own_pos p2), iv (own_pos p3), iv (p4 &&& (3 : Int32)), rv ob10, .unset, .unset, .unset, .unset] [(.int (own_pos p3)), (.int (own_pos p2)), (.ref ob14), (.ref ob14)])) t → Steps p.tables e below (T14.setTop (mkF m 85 #[iv p0, iv p1, iv p2, iv p3, iv p4, iv (own_pos p0), iv (own_pos p1), iv (own_pos p2), iv (own_pos p3), iv (p4 &&& (3 : Int32)), rv ob10, .unset, .unset, .unset, .unset] [(.ref ob14)])) t := by
    intro t k
    refine XS.dup X14.here hx rfl (hb hby at_85) rfl rfl ?_
    show Steps p.tables e below (T14.setTop (mkF m 86 #[iv p0, iv p1, iv p2, iv p3, iv p4, iv (own_pos p0), iv (own_pos p1), iv (own_pos p2), iv (own_pos p3), iv (p4 &&& (3 : Int32)), rv ob10, .unset, .unset, .unset, .unset] [(.ref ob14), (.ref ob14)])) _
    refine XS.iload X14.here hx rfl (hb hby at_86) rfl ?_
    show Steps p.tables e below (T14.setTop (mkF m 88 #[iv p0, iv p1, iv p2, iv p3, iv p4, iv (own_pos p0), iv (own_pos p1), iv (own_pos p2), iv (own_pos p3), iv (p4 &&& (3 : Int32)), rv ob10, .unset, .unset, .unset, .unset] [(.int (own_pos p2)), (.ref ob14), (.ref ob14)])) _
    refine XS.iload X14.here hx rfl (hb hby at_88) rfl ?_
    show Steps p.tables e below (T14.setTop (mkF m 90 #[iv p0, iv p1, iv p2, iv p3, iv p4, iv (own_pos p0), iv (own_pos p1), iv (own_pos p2), iv (own_pos p3), iv (p4 &&& (3 : Int32)), rv ob10, .unset, .unset, .unset, .unset] [(.int (own_pos p3)), (.int (own_pos p2)), (.ref ob14), (.ref ob14)])) _
    exact k
  refine own_lift sg16 ?_
  show own_Go p.tables e below (T14.setTop (mkF m 90 #[iv p0, iv p1, iv p2, iv p3, iv p4, iv (own_pos p0), iv (own_pos p1), iv (own_pos p2), iv (own_pos p3), iv (p4 &&& (3 : Int32)), rv ob10, .unset, .unset, .unset, .unset] [(.int (own_pos p3)), (.int (own_pos p2)), (.ref ob14), (.ref ob14)])) _
  obtain ⟨_, _, ⟨T17, Lx17, kx17, nx17⟩, -, X17, ⟨Lc17, hQ17, lx17, yx17, zx17⟩, st17⟩ := X14.specialBack hx (y := (⟨"com/example/allsome/allsome/cypher/InputPosition", "<init>", "(II)V"⟩ : MethodName)) rfl hown (mvT hZ (wd hw 12 rfl)) (mvT hZ (wd hw 13 rfl)) (mvT hZ (wd hw 14 rfl)) (by decide) (backOf (W := 1) (rmInit l Z a0 hw [] ob14 (own_pos p2) (own_pos p3) h14 n0 Z14 Fn14_19 Fn14_21 Ax14 ge14 (own_pos_ge p2) (own_pos_ge p3)) hZ (wd hw 14 rfl) (wd hw 11 rfl) (by decide) (by decide)) (g := (mkF m 90 #[iv p0, iv p1, iv p2, iv p3, iv p4, iv (own_pos p0), iv (own_pos p1), iv (own_pos p2), iv (own_pos p3), iv (p4 &&& (3 : Int32)), rv ob10, .unset, .unset, .unset, .unset] [(.int (own_pos p3)), (.int (own_pos p2)), (.ref ob14), (.ref ob14)])) rfl (by rw [hml]; rfl) (Steps.refl _) (a := ob14) (argsL := [(.int (own_pos p2)), (.int (own_pos p3))]) (rest := [(.ref ob14)]) (lenOf pd_2 rfl) rfl (by show 2 * 0 + _ ≤ _; exact Nat.le_of_eq rfl) (hb hby at_90) (fun _ _ => ⟨rfl, e14, (by decide : 2 + 0 ≤ _), (by decide : 4 + 0 ≤ _)⟩)
  dsimp only [Pt.U, Pt.locs, Pt.cells, Pt.slots] at X17 lx17 yx17 zx17 st17 hQ17
  subst lx17 yx17 zx17
  obtain ⟨rfl, N17q, p17_0, p17_1, p17_2, p17_3⟩ := hQ17
  have N17 := Fr.app N12 N17q
  have Z17 : n0 ≤ T17.heap.size := Nat.le_trans Z14 p17_0.1
  refine own_lift (fun t k => st17.trans k) ?_
  show own_Go p.tables e below (T17.setTop (mkF m 93 #[iv p0, iv p1, iv p2, iv p3, iv p4, iv (own_pos p0), iv (own_pos p1), iv (own_pos p2), iv (own_pos p3), iv (p4 &&& (3 : Int32)), rv ob10, .unset, .unset, .unset, .unset] [(.ref ob14)])) _
  have sg18 : ∀ t, Steps p.tables e below (T17.setTop (mkF m 97 #[iv p0, iv p1, iv p2, iv p3, iv p4, iv (own_pos p0), iv (own_pos p1), iv (own_pos p2), iv (own_pos p3), iv (p4 &&& (3 : Int32)), rv ob10, rv ob14, .unset, .unset, .unset] [(.ref ob10)])) t → Steps p.tables e below (T17.setTop (mkF m 93 #[iv p0, iv p1, iv p2, iv p3, iv p4, iv (own_pos p0), iv (own_pos p1), iv (own_pos p2), iv (own_pos p3), iv (p4 &&& (3 : Int32)), rv ob10, .unset, .unset, .unset, .unset] [(.ref ob14)])) t := by
    intro t k
    refine XS.astore X17.here hx rfl (hb hby at_93) rfl rfl (l' := #[iv p0, iv p1, iv p2, iv p3, iv p4, iv (own_pos p0), iv (own_pos p1), iv (own_pos p2), iv (own_pos p3), iv (p4 &&& (3 : Int32)), rv ob10, rv ob14, .unset, .unset, .unset]) rfl ?_
    show Steps p.tables e below (T17.setTop (mkF m 95 #[iv p0, iv p1, iv p2, iv p3, iv p4, iv (own_pos p0), iv (own_pos p1), iv (own_pos p2), iv (own_pos p3), iv (p4 &&& (3 : Int32)), rv ob10, rv ob14, .unset, .unset, .unset] [])) _
    refine XS.aload X17.here hx rfl (hb hby at_95) rfl rfl ?_
    show Steps p.tables e below (T17.setTop (mkF m 97 #[iv p0, iv p1, iv p2, iv p3, iv p4, iv (own_pos p0), iv (own_pos p1), iv (own_pos p2), iv (own_pos p3), iv (p4 &&& (3 : Int32)), rv ob10, rv ob14, .unset, .unset, .unset] [(.ref ob10)])) _
    exact k
  refine own_lift sg18 ?_
  show own_Go p.tables e below (T17.setTop (mkF m 97 #[iv p0, iv p1, iv p2, iv p3, iv p4, iv (own_pos p0), iv (own_pos p1), iv (own_pos p2), iv (own_pos p3), iv (p4 &&& (3 : Int32)), rv ob10, rv ob14, .unset, .unset, .unset] [(.ref ob10)])) _
  have Fc19 : Fld Z T17.heap ob10 "com/example/allsome/allsome/cypher/InputPosition" "line" "I" (.int (own_pos p0)) := ((p12_2.ext Ex14).keep p17_0 (ninS ne15 nin0))
  have Fc20 : Fld Z T17.heap ob10 "com/example/allsome/allsome/cypher/InputPosition" "column" "I" (.int (own_pos p1)) := ((p12_3.ext Ex14).keep p17_0 (ninS ne15 nin0))
  have Fc22 : Exa Z T17.heap ob10 "com/example/allsome/allsome/cypher/InputPosition" := ((p12_1.ext Ex14).keep p17_0)
  obtain ⟨cq21, kq21, q21a, q21b, q21c⟩ := isOf hZ rfl Fc22
  obtain ⟨_, _, ⟨T21, Lx21, kx21, nx21⟩, -, X21, ⟨Lc21, hQ21, lx21, yx21, zx21⟩, st21⟩ := X17.virtualBack hx (y := (⟨"com/example/allsome/allsome/cypher/InputPosition", "hashCode", "()I"⟩ : MethodName)) (z := (⟨"com/example/allsome/allsome/cypher/InputPosition", "hashCode", "()I"⟩ : MethodName)) hown (mvT hZ (wd hw 22 rfl)) (mvT hZ (wd hw 23 rfl)) (notFace_of_selects (args := #[]) (mvT hZ (wd hw 25 rfl))) (mvT hZ (wd hw 25 rfl)) (mvT hZ (wd hw 24 rfl)) (by decide) (backOf (W := 0) (rmHash l Z a0 hw [] ob10 (own_pos p0) (own_pos p1) T17.heap n0 Z17 Fc19 Fc20) hZ (wd hw 26 rfl) (wd hw 11 rfl) (by decide) (by decide)) q21a q21c (g := (mkF m 97 #[iv p0, iv p1, iv p2, iv p3, iv p4, iv (own_pos p0), iv (own_pos p1), iv (own_pos p2), iv (own_pos p3), iv (p4 &&& (3 : Int32)), rv ob10, rv ob14, .unset, .unset, .unset] [(.ref ob10)])) rfl (by rw [hml]; rfl) (Steps.refl _) (argsL := []) (rest := []) (lenOf pd_3 rfl) rfl (by show 2 * 0 + _ ≤ _; exact Nat.le_of_eq rfl) (hb hby at_97) (fun _ _ => ⟨rfl, rfl, (by decide : 2 + 0 ≤ _), (by decide : 4 + 0 ≤ _)⟩)
  dsimp only [Pt.U, Pt.locs, Pt.cells, Pt.slots] at X21 lx21 yx21 zx21 st21 hQ21
  subst lx21 yx21 zx21
  obtain ⟨rfl, N21q, e21⟩ := hQ21
  have N21 := Fr.app N17 N21q
  refine own_lift (fun t k => st21.trans k) ?_
  show own_Go p.tables e below (T21.setTop (mkF m 100 #[iv p0, iv p1, iv p2, iv p3, iv p4, iv (own_pos p0), iv (own_pos p1), iv (own_pos p2), iv (own_pos p3), iv (p4 &&& (3 : Int32)), rv ob10, rv ob14, .unset, .unset, .unset] [(.int (((31 : Int32) * (own_pos p0)) + (own_pos p1)))])) _
  have sg23 : ∀ t, Steps p.tables e below (T21.setTop (mkF m 104 #[iv p0, iv p1, iv p2, iv p3, iv p4, iv (own_pos p0), iv (own_pos p1), iv (own_pos p2), iv (own_pos p3), iv (p4 &&& (3 : Int32)), rv ob10, rv ob14, iv (((31 : Int32) * (own_pos p0)) + (own_pos p1)), .unset, .unset] [(.ref ob10)])) t → Steps p.tables e below (T21.setTop (mkF m 100 #[iv p0, iv p1, iv p2, iv p3, iv p4, iv (own_pos p0), iv (own_pos p1), iv (own_pos p2), iv (own_pos p3), iv (p4 &&& (3 : Int32)), rv ob10, rv ob14, .unset, .unset, .unset] [(.int (((31 : Int32) * (own_pos p0)) + (own_pos p1)))])) t := by
    intro t k
    refine XS.istore X21.here hx rfl (hb hby at_100) rfl (l' := #[iv p0, iv p1, iv p2, iv p3, iv p4, iv (own_pos p0), iv (own_pos p1), iv (own_pos p2), iv (own_pos p3), iv (p4 &&& (3 : Int32)), rv ob10, rv ob14, iv (((31 : Int32) * (own_pos p0)) + (own_pos p1)), .unset, .unset]) rfl ?_
    show Steps p.tables e below (T21.setTop (mkF m 102 #[iv p0, iv p1, iv p2, iv p3, iv p4, iv (own_pos p0), iv (own_pos p1), iv (own_pos p2), iv (own_pos p3), iv (p4 &&& (3 : Int32)), rv ob10, rv ob14, iv (((31 : Int32) * (own_pos p0)) + (own_pos p1)), .unset, .unset] [])) _
    refine XS.aload X21.here hx rfl (hb hby at_102) rfl rfl ?_
    show Steps p.tables e below (T21.setTop (mkF m 104 #[iv p0, iv p1, iv p2, iv p3, iv p4, iv (own_pos p0), iv (own_pos p1), iv (own_pos p2), iv (own_pos p3), iv (p4 &&& (3 : Int32)), rv ob10, rv ob14, iv (((31 : Int32) * (own_pos p0)) + (own_pos p1)), .unset, .unset] [(.ref ob10)])) _
    exact k
  refine own_lift sg23 ?_
  show own_Go p.tables e below (T21.setTop (mkF m 104 #[iv p0, iv p1, iv p2, iv p3, iv p4, iv (own_pos p0), iv (own_pos p1), iv (own_pos p2), iv (own_pos p3), iv (p4 &&& (3 : Int32)), rv ob10, rv ob14, iv (((31 : Int32) * (own_pos p0)) + (own_pos p1)), .unset, .unset] [(.ref ob10)])) _
  obtain ⟨cq24, kq24, q24a, q24b, q24c⟩ := isOf hZ e21 Fc22
  obtain ⟨_, _, ⟨T24, Lx24, kx24, nx24⟩, -, X24, ⟨Lc24, hQ24, lx24, yx24, zx24⟩, st24⟩ := X21.virtualBack hx (y := (⟨"com/example/allsome/allsome/cypher/InputPosition", "hashCode", "()I"⟩ : MethodName)) (z := (⟨"com/example/allsome/allsome/cypher/InputPosition", "hashCode", "()I"⟩ : MethodName)) hown (mvT hZ (wd hw 22 rfl)) (mvT hZ (wd hw 23 rfl)) (notFace_of_selects (args := #[]) (mvT hZ (wd hw 25 rfl))) (mvT hZ (wd hw 25 rfl)) (mvT hZ (wd hw 24 rfl)) (by decide) (backOf (W := 0) (rmHash l Z a0 hw [] ob10 (own_pos p0) (own_pos p1) T17.heap n0 Z17 Fc19 Fc20) hZ (wd hw 26 rfl) (wd hw 11 rfl) (by decide) (by decide)) q24a q24c (g := (mkF m 104 #[iv p0, iv p1, iv p2, iv p3, iv p4, iv (own_pos p0), iv (own_pos p1), iv (own_pos p2), iv (own_pos p3), iv (p4 &&& (3 : Int32)), rv ob10, rv ob14, iv (((31 : Int32) * (own_pos p0)) + (own_pos p1)), .unset, .unset] [(.ref ob10)])) rfl (by rw [hml]; rfl) (Steps.refl _) (argsL := []) (rest := []) (lenOf pd_3 rfl) rfl (by show 2 * 0 + _ ≤ _; exact Nat.le_of_eq rfl) (hb hby at_104) (fun _ _ => ⟨rfl, e21, (by decide : 2 + 0 ≤ _), (by decide : 4 + 0 ≤ _)⟩)
  dsimp only [Pt.U, Pt.locs, Pt.cells, Pt.slots] at X24 lx24 yx24 zx24 st24 hQ24
  subst lx24 yx24 zx24
  obtain ⟨rfl, N24q, e24⟩ := hQ24
  have N24 := Fr.app N21 N24q
  refine own_lift (fun t k => st24.trans k) ?_
  show own_Go p.tables e below (T24.setTop (mkF m 107 #[iv p0, iv p1, iv p2, iv p3, iv p4, iv (own_pos p0), iv (own_pos p1), iv (own_pos p2), iv (own_pos p3), iv (p4 &&& (3 : Int32)), rv ob10, rv ob14, iv (((31 : Int32) * (own_pos p0)) + (own_pos p1)), .unset, .unset] [(.int (((31 : Int32) * (own_pos p0)) + (own_pos p1)))])) _
  have sg25 : ∀ t, Steps p.tables e below (T24.setTop (mkF m 111 #[iv p0, iv p1, iv p2, iv p3, iv p4, iv (own_pos p0), iv (own_pos p1), iv (own_pos p2), iv (own_pos p3), iv (p4 &&& (3 : Int32)), rv ob10, rv ob14, iv (((31 : Int32) * (own_pos p0)) + (own_pos p1)), iv (((31 : Int32) * (own_pos p0)) + (own_pos p1)), .unset] [(.ref ob14)])) t → Steps p.tables e below (T24.setTop (mkF m 107 #[iv p0, iv p1, iv p2, iv p3, iv p4, iv (own_pos p0), iv (own_pos p1), iv (own_pos p2), iv (own_pos p3), iv (p4 &&& (3 : Int32)), rv ob10, rv ob14, iv (((31 : Int32) * (own_pos p0)) + (own_pos p1)), .unset, .unset] [(.int (((31 : Int32) * (own_pos p0)) + (own_pos p1)))])) t := by
    intro t k
    refine XS.istore X24.here hx rfl (hb hby at_107) rfl (l' := #[iv p0, iv p1, iv p2, iv p3, iv p4, iv (own_pos p0), iv (own_pos p1), iv (own_pos p2), iv (own_pos p3), iv (p4 &&& (3 : Int32)), rv ob10, rv ob14, iv (((31 : Int32) * (own_pos p0)) + (own_pos p1)), iv (((31 : Int32) * (own_pos p0)) + (own_pos p1)), .unset]) rfl ?_
    show Steps p.tables e below (T24.setTop (mkF m 109 #[iv p0, iv p1, iv p2, iv p3, iv p4, iv (own_pos p0), iv (own_pos p1), iv (own_pos p2), iv (own_pos p3), iv (p4 &&& (3 : Int32)), rv ob10, rv ob14, iv (((31 : Int32) * (own_pos p0)) + (own_pos p1)), iv (((31 : Int32) * (own_pos p0)) + (own_pos p1)), .unset] [])) _
    refine XS.aload X24.here hx rfl (hb hby at_109) rfl rfl ?_
    show Steps p.tables e below (T24.setTop (mkF m 111 #[iv p0, iv p1, iv p2, iv p3, iv p4, iv (own_pos p0), iv (own_pos p1), iv (own_pos p2), iv (own_pos p3), iv (p4 &&& (3 : Int32)), rv ob10, rv ob14, iv (((31 : Int32) * (own_pos p0)) + (own_pos p1)), iv (((31 : Int32) * (own_pos p0)) + (own_pos p1)), .unset] [(.ref ob14)])) _
    exact k
  refine own_lift sg25 ?_
  show own_Go p.tables e below (T24.setTop (mkF m 111 #[iv p0, iv p1, iv p2, iv p3, iv p4, iv (own_pos p0), iv (own_pos p1), iv (own_pos p2), iv (own_pos p3), iv (p4 &&& (3 : Int32)), rv ob10, rv ob14, iv (((31 : Int32) * (own_pos p0)) + (own_pos p1)), iv (((31 : Int32) * (own_pos p0)) + (own_pos p1)), .unset] [(.ref ob14)])) _
  obtain ⟨cq26, kq26, q26a, q26b, q26c⟩ := isOf hZ e24 p17_1
  obtain ⟨_, _, ⟨T26, Lx26, kx26, nx26⟩, -, X26, ⟨Lc26, hQ26, lx26, yx26, zx26⟩, st26⟩ := X24.virtualBack hx (y := (⟨"com/example/allsome/allsome/cypher/InputPosition", "hashCode", "()I"⟩ : MethodName)) (z := (⟨"com/example/allsome/allsome/cypher/InputPosition", "hashCode", "()I"⟩ : MethodName)) hown (mvT hZ (wd hw 22 rfl)) (mvT hZ (wd hw 23 rfl)) (notFace_of_selects (args := #[]) (mvT hZ (wd hw 25 rfl))) (mvT hZ (wd hw 25 rfl)) (mvT hZ (wd hw 24 rfl)) (by decide) (backOf (W := 0) (rmHash l Z a0 hw [] ob14 (own_pos p2) (own_pos p3) T17.heap n0 Z17 p17_2 p17_3) hZ (wd hw 26 rfl) (wd hw 11 rfl) (by decide) (by decide)) q26a q26c (g := (mkF m 111 #[iv p0, iv p1, iv p2, iv p3, iv p4, iv (own_pos p0), iv (own_pos p1), iv (own_pos p2), iv (own_pos p3), iv (p4 &&& (3 : Int32)), rv ob10, rv ob14, iv (((31 : Int32) * (own_pos p0)) + (own_pos p1)), iv (((31 : Int32) * (own_pos p0)) + (own_pos p1)), .unset] [(.ref ob14)])) rfl (by rw [hml]; rfl) (Steps.refl _) (argsL := []) (rest := []) (lenOf pd_3 rfl) rfl (by show 2 * 0 + _ ≤ _; exact Nat.le_of_eq rfl) (hb hby at_111) (fun _ _ => ⟨rfl, e24, (by decide : 2 + 0 ≤ _), (by decide : 4 + 0 ≤ _)⟩)
  dsimp only [Pt.U, Pt.locs, Pt.cells, Pt.slots] at X26 lx26 yx26 zx26 st26 hQ26
  subst lx26 yx26 zx26
  obtain ⟨rfl, N26q, e26⟩ := hQ26
  have N26 := Fr.app N24 N26q
  refine own_lift (fun t k => st26.trans k) ?_
  show own_Go p.tables e below (T26.setTop (mkF m 114 #[iv p0, iv p1, iv p2, iv p3, iv p4, iv (own_pos p0), iv (own_pos p1), iv (own_pos p2), iv (own_pos p3), iv (p4 &&& (3 : Int32)), rv ob10, rv ob14, iv (((31 : Int32) * (own_pos p0)) + (own_pos p1)), iv (((31 : Int32) * (own_pos p0)) + (own_pos p1)), .unset] [(.int (((31 : Int32) * (own_pos p2)) + (own_pos p3)))])) _
  have sg27 : ∀ t, Steps p.tables e below (T26.setTop (mkF m 129 #[iv p0, iv p1, iv p2, iv p3, iv p4, iv (own_pos p0), iv (own_pos p1), iv (own_pos p2), iv (own_pos p3), iv (p4 &&& (3 : Int32)), rv ob10, rv ob14, iv (((31 : Int32) * (own_pos p0)) + (own_pos p1)), iv (((31 : Int32) * (own_pos p0)) + (own_pos p1)), iv (((31 : Int32) * (own_pos p2)) + (own_pos p3))] [(.ref ob14), (.ref ob10)])) t → Steps p.tables e below (T26.setTop (mkF m 114 #[iv p0, iv p1, iv p2, iv p3, iv p4, iv (own_pos p0), iv (own_pos p1), iv (own_pos p2), iv (own_pos p3), iv (p4 &&& (3 : Int32)), rv ob10, rv ob14, iv (((31 : Int32) * (own_pos p0)) + (own_pos p1)), iv (((31 : Int32) * (own_pos p0)) + (own_pos p1)), .unset] [(.int (((31 : Int32) * (own_pos p2)) + (own_pos p3)))])) t := by
    intro t k
    refine XS.istore X26.here hx rfl (hb hby at_114) rfl (l' := #[iv p0, iv p1, iv p2, iv p3, iv p4, iv (own_pos p0), iv (own_pos p1), iv (own_pos p2), iv (own_pos p3), iv (p4 &&& (3 : Int32)), rv ob10, rv ob14, iv (((31 : Int32) * (own_pos p0)) + (own_pos p1)), iv (((31 : Int32) * (own_pos p0)) + (own_pos p1)), iv (((31 : Int32) * (own_pos p2)) + (own_pos p3))]) rfl ?_
    show Steps p.tables e below (T26.setTop (mkF m 116 #[iv p0, iv p1, iv p2, iv p3, iv p4, iv (own_pos p0), iv (own_pos p1), iv (own_pos p2), iv (own_pos p3), iv (p4 &&& (3 : Int32)), rv ob10, rv ob14, iv (((31 : Int32) * (own_pos p0)) + (own_pos p1)), iv (((31 : Int32) * (own_pos p0)) + (own_pos p1)), iv (((31 : Int32) * (own_pos p2)) + (own_pos p3))] [])) _
    refine XS.iload X26.here hx rfl (hb hby at_116) rfl ?_
    show Steps p.tables e below (T26.setTop (mkF m 118 #[iv p0, iv p1, iv p2, iv p3, iv p4, iv (own_pos p0), iv (own_pos p1), iv (own_pos p2), iv (own_pos p3), iv (p4 &&& (3 : Int32)), rv ob10, rv ob14, iv (((31 : Int32) * (own_pos p0)) + (own_pos p1)), iv (((31 : Int32) * (own_pos p0)) + (own_pos p1)), iv (((31 : Int32) * (own_pos p2)) + (own_pos p3))] [(.int (((31 : Int32) * (own_pos p0)) + (own_pos p1)))])) _
    refine XS.iload X26.here hx rfl (hb hby at_118) rfl ?_
    show Steps p.tables e below (T26.setTop (mkF m 120 #[iv p0, iv p1, iv p2, iv p3, iv p4, iv (own_pos p0), iv (own_pos p1), iv (own_pos p2), iv (own_pos p3), iv (p4 &&& (3 : Int32)), rv ob10, rv ob14, iv (((31 : Int32) * (own_pos p0)) + (own_pos p1)), iv (((31 : Int32) * (own_pos p0)) + (own_pos p1)), iv (((31 : Int32) * (own_pos p2)) + (own_pos p3))] [(.int (((31 : Int32) * (own_pos p0)) + (own_pos p1))), (.int (((31 : Int32) * (own_pos p0)) + (own_pos p1)))])) _
    refine XS.icmpYes X26.here hx rfl (pc0 := 120) (pc' := 125) rfl (hb hby at_120) rfl (teq (rfl : (((31 : Int32) * (own_pos p0)) + (own_pos p1)) = (((31 : Int32) * (own_pos p0)) + (own_pos p1)))).1 (by decide) (by decide) ?_
    show Steps p.tables e below (T26.setTop (mkF m 125 #[iv p0, iv p1, iv p2, iv p3, iv p4, iv (own_pos p0), iv (own_pos p1), iv (own_pos p2), iv (own_pos p3), iv (p4 &&& (3 : Int32)), rv ob10, rv ob14, iv (((31 : Int32) * (own_pos p0)) + (own_pos p1)), iv (((31 : Int32) * (own_pos p0)) + (own_pos p1)), iv (((31 : Int32) * (own_pos p2)) + (own_pos p3))] [])) _
    refine XS.aload X26.here hx rfl (hb hby at_125) rfl rfl ?_
    show Steps p.tables e below (T26.setTop (mkF m 127 #[iv p0, iv p1, iv p2, iv p3, iv p4, iv (own_pos p0), iv (own_pos p1), iv (own_pos p2), iv (own_pos p3), iv (p4 &&& (3 : Int32)), rv ob10, rv ob14, iv (((31 : Int32) * (own_pos p0)) + (own_pos p1)), iv (((31 : Int32) * (own_pos p0)) + (own_pos p1)), iv (((31 : Int32) * (own_pos p2)) + (own_pos p3))] [(.ref ob10)])) _
    refine XS.aload X26.here hx rfl (hb hby at_127) rfl rfl ?_
    show Steps p.tables e below (T26.setTop (mkF m 129 #[iv p0, iv p1, iv p2, iv p3, iv p4, iv (own_pos p0), iv (own_pos p1), iv (own_pos p2), iv (own_pos p3), iv (p4 &&& (3 : Int32)), rv ob10, rv ob14, iv (((31 : Int32) * (own_pos p0)) + (own_pos p1)), iv (((31 : Int32) * (own_pos p0)) + (own_pos p1)), iv (((31 : Int32) * (own_pos p2)) + (own_pos p3))] [(.ref ob14), (.ref ob10)])) _
    exact k
  refine own_lift sg27 ?_
  show own_Go p.tables e below (T26.setTop (mkF m 129 #[iv p0, iv p1, iv p2, iv p3, iv p4, iv (own_pos p0), iv (own_pos p1), iv (own_pos p2), iv (own_pos p3), iv (p4 &&& (3 : Int32)), rv ob10, rv ob14, iv (((31 : Int32) * (own_pos p0)) + (own_pos p1)), iv (((31 : Int32) * (own_pos p0)) + (own_pos p1)), iv (((31 : Int32) * (own_pos p2)) + (own_pos p3))] [(.ref ob14), (.ref ob10)])) _
  obtain ⟨cq28, kq28, q28a, q28b, q28c⟩ := isOf hZ e26 Fc22
  obtain ⟨_, _, ⟨T28, Lx28, kx28, nx28⟩, -, X28, ⟨Lc28, hQ28, lx28, yx28, zx28⟩, st28⟩ := X26.virtualBack hx (y := (⟨"com/example/allsome/allsome/cypher/InputPosition", "equals", "(Ljava/lang/Object;)Z"⟩ : MethodName)) (z := (⟨"com/example/allsome/allsome/cypher/InputPosition", "equals", "(Ljava/lang/Object;)Z"⟩ : MethodName)) hown (mvT hZ (wd hw 27 rfl)) (mvT hZ (wd hw 28 rfl)) (notFace_of_selects (args := #[]) (mvT hZ (wd hw 30 rfl))) (mvT hZ (wd hw 30 rfl)) (mvT hZ (wd hw 29 rfl)) (by decide) (backOf (W := 0) (rmEqY l Z a0 hw [] ob10 ob14 (own_pos p0) (own_pos p1) (own_pos p2) (own_pos p3) T17.heap n0 Z17 Fc19 Fc20 p17_2 p17_3 p17_1 hl hc) hZ (wd hw 31 rfl) (wd hw 11 rfl) (by decide) (by decide)) q28a q28c (g := (mkF m 129 #[iv p0, iv p1, iv p2, iv p3, iv p4, iv (own_pos p0), iv (own_pos p1), iv (own_pos p2), iv (own_pos p3), iv (p4 &&& (3 : Int32)), rv ob10, rv ob14, iv (((31 : Int32) * (own_pos p0)) + (own_pos p1)), iv (((31 : Int32) * (own_pos p0)) + (own_pos p1)), iv (((31 : Int32) * (own_pos p2)) + (own_pos p3))] [(.ref ob14), (.ref ob10)])) rfl (by rw [hml]; rfl) (Steps.refl _) (argsL := [(.ref ob14)]) (rest := []) (lenOf pd_4 rfl) rfl (by show 2 * 0 + _ ≤ _; exact Nat.le_of_eq rfl) (hb hby at_129) (fun _ _ => ⟨rfl, e26, (by decide : 2 + 0 ≤ _), (by decide : 4 + 0 ≤ _)⟩)
  dsimp only [Pt.U, Pt.locs, Pt.cells, Pt.slots] at X28 lx28 yx28 zx28 st28 hQ28
  subst lx28 yx28 zx28
  obtain ⟨rfl, N28q, e28⟩ := hQ28
  have N28 := Fr.app N26 N28q
  refine own_lift (fun t k => st28.trans k) ?_
  show own_Go p.tables e below (T28.setTop (mkF m 132 #[iv p0, iv p1, iv p2, iv p3, iv p4, iv (own_pos p0), iv (own_pos p1), iv (own_pos p2), iv (own_pos p3), iv (p4 &&& (3 : Int32)), rv ob10, rv ob14, iv (((31 : Int32) * (own_pos p0)) + (own_pos p1)), iv (((31 : Int32) * (own_pos p0)) + (own_pos p1)), iv (((31 : Int32) * (own_pos p2)) + (own_pos p3))] [(.int 1)])) _
  have sg29 : ∀ t, Steps p.tables e below (T28.setTop (mkF m 145 #[iv p0, iv p1, iv p2, iv p3, iv p4, iv (own_pos p0), iv (own_pos p1), iv (own_pos p2), iv (own_pos p3), iv (p4 &&& (3 : Int32)), rv ob10, rv ob14, iv (((31 : Int32) * (own_pos p0)) + (own_pos p1)), iv (((31 : Int32) * (own_pos p0)) + (own_pos p1)), iv (((31 : Int32) * (own_pos p2)) + (own_pos p3))] [(.int 1)])) t → Steps p.tables e below (T28.setTop (mkF m 132 #[iv p0, iv p1, iv p2, iv p3, iv p4, iv (own_pos p0), iv (own_pos p1), iv (own_pos p2), iv (own_pos p3), iv (p4 &&& (3 : Int32)), rv ob10, rv ob14, iv (((31 : Int32) * (own_pos p0)) + (own_pos p1)), iv (((31 : Int32) * (own_pos p0)) + (own_pos p1)), iv (((31 : Int32) * (own_pos p2)) + (own_pos p3))] [(.int 1)])) t := by
    intro t k
    refine XS.ifNo X28.here hx rfl (hb hby at_132) rfl ((if0 _ _).trans (feq (by decide : ¬ ((1 : Int32) = (0 : Int32)))).1) ?_
    show Steps p.tables e below (T28.setTop (mkF m 135 #[iv p0, iv p1, iv p2, iv p3, iv p4, iv (own_pos p0), iv (own_pos p1), iv (own_pos p2), iv (own_pos p3), iv (p4 &&& (3 : Int32)), rv ob10, rv ob14, iv (((31 : Int32) * (own_pos p0)) + (own_pos p1)), iv (((31 : Int32) * (own_pos p0)) + (own_pos p1)), iv (((31 : Int32) * (own_pos p2)) + (own_pos p3))] [])) _
    refine XS.iload X28.here hx rfl (hb hby at_135) rfl ?_
    show Steps p.tables e below (T28.setTop (mkF m 137 #[iv p0, iv p1, iv p2, iv p3, iv p4, iv (own_pos p0), iv (own_pos p1), iv (own_pos p2), iv (own_pos p3), iv (p4 &&& (3 : Int32)), rv ob10, rv ob14, iv (((31 : Int32) * (own_pos p0)) + (own_pos p1)), iv (((31 : Int32) * (own_pos p0)) + (own_pos p1)), iv (((31 : Int32) * (own_pos p2)) + (own_pos p3))] [(.int (((31 : Int32) * (own_pos p0)) + (own_pos p1)))])) _
    refine XS.iload X28.here hx rfl (hb hby at_137) rfl ?_
    show Steps p.tables e below (T28.setTop (mkF m 139 #[iv p0, iv p1, iv p2, iv p3, iv p4, iv (own_pos p0), iv (own_pos p1), iv (own_pos p2), iv (own_pos p3), iv (p4 &&& (3 : Int32)), rv ob10, rv ob14, iv (((31 : Int32) * (own_pos p0)) + (own_pos p1)), iv (((31 : Int32) * (own_pos p0)) + (own_pos p1)), iv (((31 : Int32) * (own_pos p2)) + (own_pos p3))] [(.int (((31 : Int32) * (own_pos p2)) + (own_pos p3))), (.int (((31 : Int32) * (own_pos p0)) + (own_pos p1)))])) _
    refine XS.icmpYes X28.here hx rfl (pc0 := 139) (pc' := 144) rfl (hb hby at_139) rfl (teq (show (((31 : Int32) * (own_pos p0)) + (own_pos p1)) = (((31 : Int32) * (own_pos p2)) + (own_pos p3)) by rw [hl, hc])).1 (by decide) (by decide) ?_
    show Steps p.tables e below (T28.setTop (mkF m 144 #[iv p0, iv p1, iv p2, iv p3, iv p4, iv (own_pos p0), iv (own_pos p1), iv (own_pos p2), iv (own_pos p3), iv (p4 &&& (3 : Int32)), rv ob10, rv ob14, iv (((31 : Int32) * (own_pos p0)) + (own_pos p1)), iv (((31 : Int32) * (own_pos p0)) + (own_pos p1)), iv (((31 : Int32) * (own_pos p2)) + (own_pos p3))] [])) _
    refine XS.iconst X28.here hx rfl (hb hby at_144) ?_
    show Steps p.tables e below (T28.setTop (mkF m 145 #[iv p0, iv p1, iv p2, iv p3, iv p4, iv (own_pos p0), iv (own_pos p1), iv (own_pos p2), iv (own_pos p3), iv (p4 &&& (3 : Int32)), rv ob10, rv ob14, iv (((31 : Int32) * (own_pos p0)) + (own_pos p1)), iv (((31 : Int32) * (own_pos p0)) + (own_pos p1)), iv (((31 : Int32) * (own_pos p2)) + (own_pos p3))] [(.int 1)])) _
    exact k
  refine own_lift sg29 ?_
  show own_Go p.tables e below (T28.setTop (mkF m 145 #[iv p0, iv p1, iv p2, iv p3, iv p4, iv (own_pos p0), iv (own_pos p1), iv (own_pos p2), iv (own_pos p3), iv (p4 &&& (3 : Int32)), rv ob10, rv ob14, iv (((31 : Int32) * (own_pos p0)) + (own_pos p1)), iv (((31 : Int32) * (own_pos p0)) + (own_pos p1)), iv (((31 : Int32) * (own_pos p2)) + (own_pos p3))] [(.int 1)])) _
  obtain ⟨fs, hr, hrun, hended, hW, hsame⟩ := X28.leave (v := some (.int 1)) (fun h => by rw [Bd.returns] at h; cases h)
  refine ⟨_, _, ?_, hrun, hended, _, _, rfl, ?_, ⟨_, rfl⟩, hW, hsame.mono (by decide) (by decide)⟩
  · exact retN X28 hx (t := .boolean) Bd.returns (by simp) (hb hby at_145) hr
  · show Q0 Z  h0 n0 _ T28.heap _
    rw [e28]
    exact ⟨rfl, N28⟩
theorem ef_rm0_3c (m : MethodId) (x0 : Int32) (x1 : Int32) (x2 : Int32) (x3 : Int32) (x4 : Int32) : entryFrame m #[(.int x0), (.int x1), (.int x2), (.int x3), (.int x4)] maxLocals = mkF m 0 #[.val (.int x0), .val (.int x1), .val (.int x2), .val (.int x3), .val (.int x4), .unset, .unset, .unset, .unset, .unset, .unset, .unset, .unset, .unset, .unset] [] := by first | (simp [entryFrame, mkF, argsToLocals, Value.category, maxLocals]; done) | rfl
set_option maxRecDepth 65536 in
set_option maxHeartbeats 40000000 in
theorem rm0_3c (l : Launch) (Z : State) (a0 : Array Value) (hw : ∀ d ∈ tables_1, d.before a0 Z = true) (ws : List Jvm.Cond) (p0 : Int32) (p1 : Int32) (p2 : Int32) (p3 : Int32) (p4 : Int32) (h0 : Heap) (n0 : Nat) (Z0 : n0 ≤ h0.size)  (m0 : ¬ ((p4 &&& (3 : Int32)) = (0 : Int32))) (m1 : ¬ ((p4 &&& (3 : Int32)) = (1 : Int32))) (m2 : ¬ ((p4 &&& (3 : Int32)) = (2 : Int32))) (hl : (own_pos p0) = (own_pos p2)) (hc : ¬ ((own_pos p1) = (own_pos p3))) :
    MetFree l x (head1 (Jvm.Cond.code x code maxLocals ret :: ws) room_1) (fun a U => a = #[(.int p0), (.int p1), (.int p2), (.int p3), (.int p4)] ∧ Z.Warmed39 U.vm ∧ U.heap = h0) (fun _ _ _ _ _ => True) (fun _ U o U' => ∃ v L, o = .returned v ∧ Q0 Z  h0 n0 v U'.heap L ∧ FrameEnd U o U' L 16 128) := by
  refine MetFree.of_bodySF (plainFor_of_name pn_1) hisR ?_
  intro p e s m args below meth c s₁ Bd hml0 hP hK
  obtain ⟨rfl, hZ, hh⟩ := hP
  have hx := Bd.exec
  have hby := Bd.bytes
  have hml : c.maxLocals = 15 := hml0
  have hown : s.vm.findClass "com/example/allsome/allsome/cypher/InputPositionHashCodePinLaw" = some m.cls := findClass_of_methodNamed Bd.named
  have hnm := (name_of_methodNamed Bd.named Bd.method).1
  have X0 : Stand p l e room_1 s m #[(.int p0), (.int p1), (.int p2), (.int p3), (.int p4)] below meth c s₁ [] 0 0 := Stand.of_body Bd
  have e0 : s₁.heap = h0 := by rw [← hh, Bd.state]; rfl
  have N0 := Fr.nil n0
  refine own_go (own_lift (fun t k => castTop (ef_rm0_3c m p0 p1 p2 p3 p4) k) ?_)
  show own_Go p.tables e below (s₁.setTop (mkF m 0 #[iv p0, iv p1, iv p2, iv p3, iv p4, .unset, .unset, .unset, .unset, .unset, .unset, .unset, .unset, .unset, .unset] [])) _
  have sg1 : ∀ t, Steps p.tables e below (s₁.setTop (mkF m 1 #[iv p0, iv p1, iv p2, iv p3, iv p4, .unset, .unset, .unset, .unset, .unset, .unset, .unset, .unset, .unset, .unset] [(.int p0)])) t → Steps p.tables e below (s₁.setTop (mkF m 0 #[iv p0, iv p1, iv p2, iv p3, iv p4, .unset, .unset, .unset, .unset, .unset, .unset, .unset, .unset, .unset, .unset] [])) t := by
    intro t k
    refine XS.iloadN X0.here hx rfl (hb hby at_0) rfl ?_
    show Steps p.tables e below (s₁.setTop (mkF m 1 #[iv p0, iv p1, iv p2, iv p3, iv p4, .unset, .unset, .unset, .unset, .unset, .unset, .unset, .unset, .unset, .unset] [(.int p0)])) _
    exact k
  refine own_lift sg1 ?_
  show own_Go p.tables e below (s₁.setTop (mkF m 1 #[iv p0, iv p1, iv p2, iv p3, iv p4, .unset, .unset, .unset, .unset, .unset, .unset, .unset, .unset, .unset, .unset] [(.int p0)])) _
  obtain ⟨_, _, ⟨T2, Lx2, kx2, nx2⟩, -, X2, ⟨Lc2, hQ2, lx2, yx2, zx2⟩, st2⟩ := Jvm.LawKit.callS X0 hx (y := (⟨"com/example/allsome/allsome/cypher/InputPositionHashCodePinLaw", "pos", "(I)I"⟩ : MethodName)) hown (mvT hZ (wd hw 0 rfl)) (mvT hZ (wd hw 1 rfl)) (mvT hZ (wd hw 2 rfl)) (mvT hZ (wd hw 3 rfl)) (by decide) (backOf (W := 0) (rmPos l Z a0 hw [] p0 h0 n0 Z0 ) hZ (wd hw 3 rfl) (wd hw 2 rfl) (by decide) (by decide)) (g := (mkF m 1 #[iv p0, iv p1, iv p2, iv p3, iv p4, .unset, .unset, .unset, .unset, .unset, .unset, .unset, .unset, .unset, .unset] [(.int p0)])) rfl (by rw [hml]; rfl) (argsL := [(.int p0)]) (rest := []) (lenOf pd_1 rfl) rfl (by show 2 * 0 + _ ≤ _; exact Nat.le_of_eq rfl) (hb hby at_1) (fun _ _ => ⟨rfl, e0, (by decide : 0 + 0 ≤ _), (by decide : 0 + 0 ≤ _)⟩)
  dsimp only [Pt.U, Pt.locs, Pt.cells, Pt.slots] at X2 lx2 yx2 zx2 st2 hQ2
  subst lx2 yx2 zx2
  obtain ⟨rfl, N2q, e2⟩ := hQ2
  have N2 := Fr.app N0 N2q
  refine own_lift st2 ?_
  show own_Go p.tables e below (T2.setTop (mkF m 4 #[iv p0, iv p1, iv p2, iv p3, iv p4, .unset, .unset, .unset, .unset, .unset, .unset, .unset, .unset, .unset, .unset] [(.int (own_pos p0))])) _
  have sg3 : ∀ t, Steps p.tables e below (T2.setTop (mkF m 7 #[iv p0, iv p1, iv p2, iv p3, iv p4, iv (own_pos p0), .unset, .unset, .unset, .unset, .unset, .unset, .unset, .unset, .unset] [(.int p1)])) t → Steps p.tables e below (T2.setTop (mkF m 4 #[iv p0, iv p1, iv p2, iv p3, iv p4, .unset, .unset, .unset, .unset, .unset, .unset, .unset, .unset, .unset, .unset] [(.int (own_pos p0))])) t := by
    intro t k
    refine XS.istore X2.here hx rfl (hb hby at_4) rfl (l' := #[iv p0, iv p1, iv p2, iv p3, iv p4, iv (own_pos p0), .unset, .unset, .unset, .unset, .unset, .unset, .unset, .unset, .unset]) rfl ?_
    show Steps p.tables e below (T2.setTop (mkF m 6 #[iv p0, iv p1, iv p2, iv p3, iv p4, iv (own_pos p0), .unset, .unset, .unset, .unset, .unset, .unset, .unset, .unset, .unset] [])) _
    refine XS.iloadN X2.here hx rfl (hb hby at_6) rfl ?_
    show Steps p.tables e below (T2.setTop (mkF m 7 #[iv p0, iv p1, iv p2, iv p3, iv p4, iv (own_pos p0), .unset, .unset, .unset, .unset, .unset, .unset, .unset, .unset, .unset] [(.int p1)])) _
    exact k
  refine own_lift sg3 ?_
  show own_Go p.tables e below (T2.setTop (mkF m 7 #[iv p0, iv p1, iv p2, iv p3, iv p4, iv (own_pos p0), .unset, .unset, .unset, .unset, .unset, .unset, .unset, .unset, .unset] [(.int p1)])) _
  obtain ⟨_, _, ⟨T4, Lx4, kx4, nx4⟩, -, X4, ⟨Lc4, hQ4, lx4, yx4, zx4⟩, st4⟩ := Jvm.LawKit.callS X2 hx (y := (⟨"com/example/allsome/allsome/cypher/InputPositionHashCodePinLaw", "pos", "(I)I"⟩ : MethodName)) hown (mvT hZ (wd hw 0 rfl)) (mvT hZ (wd hw 1 rfl)) (mvT hZ (wd hw 2 rfl)) (mvT hZ (wd hw 3 rfl)) (by decide) (backOf (W := 0) (rmPos l Z a0 hw [] p1 h0 n0 Z0 ) hZ (wd hw 3 rfl) (wd hw 2 rfl) (by decide) (by decide)) (g := (mkF m 7 #[iv p0, iv p1, iv p2, iv p3, iv p4, iv (own_pos p0), .unset, .unset, .unset, .unset, .unset, .unset, .unset, .unset, .unset] [(.int p1)])) rfl (by rw [hml]; rfl) (argsL := [(.int p1)]) (rest := []) (lenOf pd_1 rfl) rfl (by show 2 * 0 + _ ≤ _; exact Nat.le_of_eq rfl) (hb hby at_7) (fun _ _ => ⟨rfl, e2, (by decide : 0 + 0 ≤ _), (by decide : 0 + 0 ≤ _)⟩)
  dsimp only [Pt.U, Pt.locs, Pt.cells, Pt.slots] at X4 lx4 yx4 zx4 st4 hQ4
  subst lx4 yx4 zx4
  obtain ⟨rfl, N4q, e4⟩ := hQ4
  have N4 := Fr.app N2 N4q
  refine own_lift st4 ?_
  show own_Go p.tables e below (T4.setTop (mkF m 10 #[iv p0, iv p1, iv p2, iv p3, iv p4, iv (own_pos p0), .unset, .unset, .unset, .unset, .unset, .unset, .unset, .unset, .unset] [(.int (own_pos p1))])) _
  have sg5 : ∀ t, Steps p.tables e below (T4.setTop (mkF m 13 #[iv p0, iv p1, iv p2, iv p3, iv p4, iv (own_pos p0), iv (own_pos p1), .unset, .unset, .unset, .unset, .unset, .unset, .unset, .unset] [(.int p2)])) t → Steps p.tables e below (T4.setTop (mkF m 10 #[iv p0, iv p1, iv p2, iv p3, iv p4, iv (own_pos p0), .unset, .unset, .unset, .unset, .unset, .unset, .unset, .unset, .unset] [(.int (own_pos p1))])) t := by
    intro t k
    refine XS.istore X4.here hx rfl (hb hby at_10) rfl (l' := #[iv p0, iv p1, iv p2, iv p3, iv p4, iv (own_pos p0), iv (own_pos p1), .unset, .unset, .unset, .unset, .unset, .unset, .unset, .unset]) rfl ?_
    show Steps p.tables e below (T4.setTop (mkF m 12 #[iv p0, iv p1, iv p2, iv p3, iv p4, iv (own_pos p0), iv (own_pos p1), .unset, .unset, .unset, .unset, .unset, .unset, .unset, .unset] [])) _
    refine XS.iloadN X4.here hx rfl (hb hby at_12) rfl ?_
    show Steps p.tables e below (T4.setTop (mkF m 13 #[iv p0, iv p1, iv p2, iv p3, iv p4, iv (own_pos p0), iv (own_pos p1), .unset, .unset, .unset, .unset, .unset, .unset, .unset, .unset] [(.int p2)])) _
    exact k
  refine own_lift sg5 ?_
  show own_Go p.tables e below (T4.setTop (mkF m 13 #[iv p0, iv p1, iv p2, iv p3, iv p4, iv (own_pos p0), iv (own_pos p1), .unset, .unset, .unset, .unset, .unset, .unset, .unset, .unset] [(.int p2)])) _
  obtain ⟨_, _, ⟨T6, Lx6, kx6, nx6⟩, -, X6, ⟨Lc6, hQ6, lx6, yx6, zx6⟩, st6⟩ := Jvm.LawKit.callS X4 hx (y := (⟨"com/example/allsome/allsome/cypher/InputPositionHashCodePinLaw", "pos", "(I)I"⟩ : MethodName)) hown (mvT hZ (wd hw 0 rfl)) (mvT hZ (wd hw 1 rfl)) (mvT hZ (wd hw 2 rfl)) (mvT hZ (wd hw 3 rfl)) (by decide) (backOf (W := 0) (rmPos l Z a0 hw [] p2 h0 n0 Z0 ) hZ (wd hw 3 rfl) (wd hw 2 rfl) (by decide) (by decide)) (g := (mkF m 13 #[iv p0, iv p1, iv p2, iv p3, iv p4, iv (own_pos p0), iv (own_pos p1), .unset, .unset, .unset, .unset, .unset, .unset, .unset, .unset] [(.int p2)])) rfl (by rw [hml]; rfl) (argsL := [(.int p2)]) (rest := []) (lenOf pd_1 rfl) rfl (by show 2 * 0 + _ ≤ _; exact Nat.le_of_eq rfl) (hb hby at_13) (fun _ _ => ⟨rfl, e4, (by decide : 0 + 0 ≤ _), (by decide : 0 + 0 ≤ _)⟩)
  dsimp only [Pt.U, Pt.locs, Pt.cells, Pt.slots] at X6 lx6 yx6 zx6 st6 hQ6
  subst lx6 yx6 zx6
  obtain ⟨rfl, N6q, e6⟩ := hQ6
  have N6 := Fr.app N4 N6q
  refine own_lift st6 ?_
  show own_Go p.tables e below (T6.setTop (mkF m 16 #[iv p0, iv p1, iv p2, iv p3, iv p4, iv (own_pos p0), iv (own_pos p1), .unset, .unset, .unset, .unset, .unset, .unset, .unset, .unset] [(.int (own_pos p2))])) _
  have sg7 : ∀ t, Steps p.tables e below (T6.setTop (mkF m 19 #[iv p0, iv p1, iv p2, iv p3, iv p4, iv (own_pos p0), iv (own_pos p1), iv (own_pos p2), .unset, .unset, .unset, .unset, .unset, .unset, .unset] [(.int p3)])) t → Steps p.tables e below (T6.setTop (mkF m 16 #[iv p0, iv p1, iv p2, iv p3, iv p4, iv (own_pos p0), iv (own_pos p1), .unset, .unset, .unset, .unset, .unset, .unset, .unset, .unset] [(.int (own_pos p2))])) t := by
    intro t k
    refine XS.istore X6.here hx rfl (hb hby at_16) rfl (l' := #[iv p0, iv p1, iv p2, iv p3, iv p4, iv (own_pos p0), iv (own_pos p1), iv (own_pos p2), .unset, .unset, .unset, .unset, .unset, .unset, .unset]) rfl ?_
    show Steps p.tables e below (T6.setTop (mkF m 18 #[iv p0, iv p1, iv p2, iv p3, iv p4, iv (own_pos p0), iv (own_pos p1), iv (own_pos p2), .unset, .unset, .unset, .unset, .unset, .unset, .unset] [])) _
    refine XS.iloadN X6.here hx rfl (hb hby at_18) rfl ?_
    show Steps p.tables e below (T6.setTop (mkF m 19 #[iv p0, iv p1, iv p2, iv p3, iv p4, iv (own_pos p0), iv (own_pos p1), iv (own_pos p2), .unset, .unset, .unset, .unset, .unset, .unset, .unset] [(.int p3)])) _
    exact k
  refine own_lift sg7 ?_
  show own_Go p.tables e below (T6.setTop (mkF m 19 #[iv p0, iv p1, iv p2, iv p3, iv p4, iv (own_pos p0), iv (own_pos p1), iv (own_pos p2), .unset, .unset, .unset, .unset, .unset, .unset, .unset] [(.int p3)])) _
  obtain ⟨_, _, ⟨T8, Lx8, kx8, nx8⟩, -, X8, ⟨Lc8, hQ8, lx8, yx8, zx8⟩, st8⟩ := Jvm.LawKit.callS X6 hx (y := (⟨"com/example/allsome/allsome/cypher/InputPositionHashCodePinLaw", "pos", "(I)I"⟩ : MethodName)) hown (mvT hZ (wd hw 0 rfl)) (mvT hZ (wd hw 1 rfl)) (mvT hZ (wd hw 2 rfl)) (mvT hZ (wd hw 3 rfl)) (by decide) (backOf (W := 0) (rmPos l Z a0 hw [] p3 h0 n0 Z0 ) hZ (wd hw 3 rfl) (wd hw 2 rfl) (by decide) (by decide)) (g := (mkF m 19 #[iv p0, iv p1, iv p2, iv p3, iv p4, iv (own_pos p0), iv (own_pos p1), iv (own_pos p2), .unset, .unset, .unset, .unset, .unset, .unset, .unset] [(.int p3)])) rfl (by rw [hml]; rfl) (argsL := [(.int p3)]) (rest := []) (lenOf pd_1 rfl) rfl (by show 2 * 0 + _ ≤ _; exact Nat.le_of_eq rfl) (hb hby at_19) (fun _ _ => ⟨rfl, e6, (by decide : 0 + 0 ≤ _), (by decide : 0 + 0 ≤ _)⟩)
  dsimp only [Pt.U, Pt.locs, Pt.cells, Pt.slots] at X8 lx8 yx8 zx8 st8 hQ8
  subst lx8 yx8 zx8
  obtain ⟨rfl, N8q, e8⟩ := hQ8
  have N8 := Fr.app N6 N8q
  refine own_lift st8 ?_
  show own_Go p.tables e below (T8.setTop (mkF m 22 #[iv p0, iv p1, iv p2, iv p3, iv p4, iv (own_pos p0), iv (own_pos p1), iv (own_pos p2), .unset, .unset, .unset, .unset, .unset, .unset, .unset] [(.int (own_pos p3))])) _
  have sg9 : ∀ t, Steps p.tables e below (T8.setTop (mkF m 69 #[iv p0, iv p1, iv p2, iv p3, iv p4, iv (own_pos p0), iv (own_pos p1), iv (own_pos p2), iv (own_pos p3), iv (p4 &&& (3 : Int32)), .unset, .unset, .unset, .unset, .unset] [])) t → Steps p.tables e below (T8.setTop (mkF m 22 #[iv p0, iv p1, iv p2, iv p3, iv p4, iv (own_pos p0), iv (own_pos p1), iv (own_pos p2), .unset, .unset, .unset, .unset, .unset, .unset, .unset] [(.int (own_pos p3))])) t := by
    intro t k
    refine XS.istore X8.here hx rfl (hb hby at_22) rfl (l' := #[iv p0, iv p1, iv p2, iv p3, iv p4, iv (own_pos p0), iv (own_pos p1), iv (own_pos p2), iv (own_pos p3), .unset, .unset, .unset, .unset, .unset, .unset]) rfl ?_
    show Steps p.tables e below (T8.setTop (mkF m 24 #[iv p0, iv p1, iv p2, iv p3, iv p4, iv (own_pos p0), iv (own_pos p1), iv (own_pos p2), iv (own_pos p3), .unset, .unset, .unset, .unset, .unset, .unset] [])) _
    refine XS.iload X8.here hx rfl (hb hby at_24) rfl ?_
    show Steps p.tables e below (T8.setTop (mkF m 26 #[iv p0, iv p1, iv p2, iv p3, iv p4, iv (own_pos p0), iv (own_pos p1), iv (own_pos p2), iv (own_pos p3), .unset, .unset, .unset, .unset, .unset, .unset] [(.int p4)])) _
    refine XS.iconst X8.here hx rfl (hb hby at_26) ?_
    show Steps p.tables e below (T8.setTop (mkF m 27 #[iv p0, iv p1, iv p2, iv p3, iv p4, iv (own_pos p0), iv (own_pos p1), iv (own_pos p2), iv (own_pos p3), .unset, .unset, .unset, .unset, .unset, .unset] [(.int 3), (.int p4)])) _
    refine XS.iand X8.here hx rfl (hb hby at_27) rfl ?_
    show Steps p.tables e below (T8.setTop (mkF m 28 #[iv p0, iv p1, iv p2, iv p3, iv p4, iv (own_pos p0), iv (own_pos p1), iv (own_pos p2), iv (own_pos p3), .unset, .unset, .unset, .unset, .unset, .unset] [(.int (p4 &&& (3 : Int32)))])) _
    refine XS.istore X8.here hx rfl (hb hby at_28) rfl (l' := #[iv p0, iv p1, iv p2, iv p3, iv p4, iv (own_pos p0), iv (own_pos p1), iv (own_pos p2), iv (own_pos p3), iv (p4 &&& (3 : Int32)), .unset, .unset, .unset, .unset, .unset]) rfl ?_
    show Steps p.tables e below (T8.setTop (mkF m 30 #[iv p0, iv p1, iv p2, iv p3, iv p4, iv (own_pos p0), iv (own_pos p1), iv (own_pos p2), iv (own_pos p3), iv (p4 &&& (3 : Int32)), .unset, .unset, .unset, .unset, .unset] [])) _
    refine XS.iload X8.here hx rfl (hb hby at_30) rfl ?_
    show Steps p.tables e below (T8.setTop (mkF m 32 #[iv p0, iv p1, iv p2, iv p3, iv p4, iv (own_pos p0), iv (own_pos p1), iv (own_pos p2), iv (own_pos p3), iv (p4 &&& (3 : Int32)), .unset, .unset, .unset, .unset, .unset] [(.int (p4 &&& (3 : Int32)))])) _
    refine XS.ifYes X8.here hx rfl (pc0 := 32) (pc' := 46) rfl (hb hby at_32) rfl ((if0 _ _).trans (feq m0).2) (by decide) (by decide) ?_
    show Steps p.tables e below (T8.setTop (mkF m 46 #[iv p0, iv p1, iv p2, iv p3, iv p4, iv (own_pos p0), iv (own_pos p1), iv (own_pos p2), iv (own_pos p3), iv (p4 &&& (3 : Int32)), .unset, .unset, .unset, .unset, .unset] [])) _
    refine XS.iload X8.here hx rfl (hb hby at_46) rfl ?_
    show Steps p.tables e below (T8.setTop (mkF m 48 #[iv p0, iv p1, iv p2, iv p3, iv p4, iv (own_pos p0), iv (own_pos p1), iv (own_pos p2), iv (own_pos p3), iv (p4 &&& (3 : Int32)), .unset, .unset, .unset, .unset, .unset] [(.int (p4 &&& (3 : Int32)))])) _
    refine XS.iconst X8.here hx rfl (hb hby at_48) ?_
    show Steps p.tables e below (T8.setTop (mkF m 49 #[iv p0, iv p1, iv p2, iv p3, iv p4, iv (own_pos p0), iv (own_pos p1), iv (own_pos p2), iv (own_pos p3), iv (p4 &&& (3 : Int32)), .unset, .unset, .unset, .unset, .unset] [(.int 1), (.int (p4 &&& (3 : Int32)))])) _
    refine XS.icmpYes X8.here hx rfl (pc0 := 49) (pc' := 59) rfl (hb hby at_49) rfl (feq m1).2 (by decide) (by decide) ?_
    show Steps p.tables e below (T8.setTop (mkF m 59 #[iv p0, iv p1, iv p2, iv p3, iv p4, iv (own_pos p0), iv (own_pos p1), iv (own_pos p2), iv (own_pos p3), iv (p4 &&& (3 : Int32)), .unset, .unset, .unset, .unset, .unset] [])) _
    refine XS.iload X8.here hx rfl (hb hby at_59) rfl ?_
    show Steps p.tables e below (T8.setTop (mkF m 61 #[iv p0, iv p1, iv p2, iv p3, iv p4, iv (own_pos p0), iv (own_pos p1), iv (own_pos p2), iv (own_pos p3), iv (p4 &&& (3 : Int32)), .unset, .unset, .unset, .unset, .unset] [(.int (p4 &&& (3 : Int32)))])) _
    refine XS.iconst X8.here hx rfl (hb hby at_61) ?_
    show Steps p.tables e below (T8.setTop (mkF m 62 #[iv p0, iv p1, iv p2, iv p3, iv p4, iv (own_pos p0), iv (own_pos p1), iv (own_pos p2), iv (own_pos p3), iv (p4 &&& (3 : Int32)), .unset, .unset, .unset, .unset, .unset] [(.int 2), (.int (p4 &&& (3 : Int32)))])) _
    refine XS.icmpYes X8.here hx rfl (pc0 := 62) (pc' := 69) rfl (hb hby at_62) rfl (feq m2).2 (by decide) (by decide) ?_
    show Steps p.tables e below (T8.setTop (mkF m 69 #[iv p0, iv p1, iv p2, iv p3, iv p4, iv (own_pos p0), iv (own_pos p1), iv (own_pos p2), iv (own_pos p3), iv (p4 &&& (3 : Int32)), .unset, .unset, .unset, .unset, .unset] [])) _
    exact k
  refine own_lift sg9 ?_
  show own_Go p.tables e below (T8.setTop (mkF m 69 #[iv p0, iv p1, iv p2, iv p3, iv p4, iv (own_pos p0), iv (own_pos p1), iv (own_pos p2), iv (own_pos p3), iv (p4 &&& (3 : Int32)), .unset, .unset, .unset, .unset, .unset] [])) _
  obtain ⟨T10, h10, X10, e10, Ex10, Ax10, Dx10, Ux10, st10⟩ := newO X8 hx hZ hown (wd hw 9 rfl) (wd hw 10 rfl) (wd hw 11 rfl) e8 (g := (mkF m 69 #[iv p0, iv p1, iv p2, iv p3, iv p4, iv (own_pos p0), iv (own_pos p1), iv (own_pos p2), iv (own_pos p3), iv (p4 &&& (3 : Int32)), .unset, .unset, .unset, .unset, .unset] [])) rfl (hb hby at_69) (by decide) (by decide)
  obtain ⟨ob10, g10⟩ : ∃ z, z = h0.size := ⟨_, rfl⟩
  rw [← g10] at Ax10 Dx10 Ux10 st10
  have Z10 : n0 ≤ h10.size := Nat.le_trans Z0 Ex10.1
  have ge10 : n0 ≤ ob10 := Nat.le_trans Z0 (Nat.le_of_eq g10.symm)
  have Fn10_19 : Fld Z h10 ob10 "com/example/allsome/allsome/cypher/InputPosition" "line" "I" (.int 0) := Dx10 (Or.inr (wd hw 19 rfl)) (ty := .int) (by decide)
  have Fn10_21 : Fld Z h10 ob10 "com/example/allsome/allsome/cypher/InputPosition" "column" "I" (.int 0) := Dx10 (Or.inr (wd hw 21 rfl)) (ty := .int) (by decide)
  refine own_lift st10 ?_
  show own_Go p.tables e below (T10.setTop (mkF m 72 #[iv p0, iv p1, iv p2, iv p3, iv p4, iv (own_pos p0), iv (own_pos p1), iv (own_pos p2), iv (own_pos p3), iv (p4 &&& (3 : Int32)), .unset, .unset, .unset, .unset, .unset] [(.ref ob10)])) _
  have sg11 : ∀ t, Steps p.tables e below (T10.setTop (mkF m 77 #[iv p0, iv p1, iv p2, iv p3, iv p4, iv (own_pos p0), iv (own_pos p1), iv (own_pos p2), iv (own_pos p3), iv (p4 &&& (3 : Int32)), .unset, .unset, .unset, .unset, .unset] [(.int (own_pos p1)), (.int (own_pos p0)), (.ref ob10), (.ref ob10)])) t → Steps p.tables e below (T10.setTop (mkF m 72 #[iv p0, iv p1, iv p2, iv p3, iv p4, iv (own_pos p0), iv (own_pos p1), iv (own_pos p2), iv (own_pos p3), iv (p4 &&& (3 : Int32)), .unset, .unset, .unset, .unset, .unset] [(.ref ob10)])) t := by
    intro t k
    refine XS.dup X10.here hx rfl (hb hby at_72) rfl rfl ?_
    show Steps p.tables e below (T10.setTop (mkF m 73 #[iv p0, iv p1, iv p2, iv p3, iv p4, iv (own_pos p0), iv (own_pos p1), iv (own_pos p2), iv (own_pos p3), iv (p4 &&& (3 : Int32)), .unset, .unset, .unset, .unset, .unset] [(.ref ob10), (.ref ob10)])) _
    refine XS.iload X10.here hx rfl (hb hby at_73) rfl ?_
    show Steps p.tables e below (T10.setTop (mkF m 75 #[iv p0, iv p1, iv p2, iv p3, iv p4, iv (own_pos p0), iv (own_pos p1), iv (own_pos p2), iv (own_pos p3), iv (p4 &&& (3 : Int32)), .unset, .unset, .unset, .unset, .unset] [(.int (own_pos p0)), (.ref ob10), (.ref ob10)])) _
    refine XS.iload X10.here hx rfl (hb hby at_75) rfl ?_
    show Steps p.tables e below (T10.setTop (mkF m 77 #[iv p0, iv p1, iv p2, iv p3, iv p4, iv (own_pos p0), iv (own_pos p1), iv (own_pos p2), iv (own_pos p3), iv (p4 &&& (3 : Int32)), .unset, .unset, .unset, .unset, .unset] [(.int (own_pos p1)), (.int (own_pos p0)), (.ref ob10), (.ref ob10)])) _
    exact k
  refine own_lift sg11 ?_
  show own_Go p.tables e below (T10.setTop (mkF m 77 #[iv p0, iv p1, iv p2, iv p3, iv p4, iv (own_pos p0), iv (own_pos p1), iv (own_pos p2), iv (own_pos p3), iv (p4 &&& (3 : Int32)), .unset, .unset, .unset, .unset, .unset] [(.int (own_pos p1)), (.int (own_pos p0)), (.ref ob10), (.ref ob10)])) _
  obtain ⟨_, _, ⟨T12, Lx12, kx12, nx12⟩, -, X12, ⟨Lc12, hQ12, lx12, yx12, zx12⟩, st12⟩ := X10.specialBack hx (y := (⟨"com/example/allsome/allsome/cypher/InputPosition", "<init>", "(II)V"⟩ : MethodName)) rfl hown (mvT hZ (wd hw 12 rfl)) (mvT hZ (wd hw 13 rfl)) (mvT hZ (wd hw 14 rfl)) (by decide) (backOf (W := 1) (rmInit l Z a0 hw [] ob10 (own_pos p0) (own_pos p1) h10 n0 Z10 Fn10_19 Fn10_21 Ax10 ge10 (own_pos_ge p0) (own_pos_ge p1)) hZ (wd hw 14 rfl) (wd hw 11 rfl) (by decide) (by decide)) (g := (mkF m 77 #[iv p0, iv p1, iv p2, iv p3, iv p4, iv (own_pos p0), iv (own_pos p1), iv (own_pos p2), iv (own_pos p3), iv (p4 &&& (3 : Int32)), .unset, .unset, .unset, .unset, .unset] [(.int (own_pos p1)), (.int (own_pos p0)), (.ref ob10), (.ref ob10)])) rfl (by rw [hml]; rfl) (Steps.refl _) (a := ob10) (argsL := [(.int (own_pos p0)), (.int (own_pos p1))]) (rest := [(.ref ob10)]) (lenOf pd_2 rfl) rfl (by show 2 * 0 + _ ≤ _; exact Nat.le_of_eq rfl) (hb hby at_77) (fun _ _ => ⟨rfl, e10, (by decide : 1 + 0 ≤ _), (by decide : 2 + 0 ≤ _)⟩)
  dsimp only [Pt.U, Pt.locs, Pt.cells, Pt.slots] at X12 lx12 yx12 zx12 st12 hQ12
  subst lx12 yx12 zx12
  obtain ⟨rfl, N12q, p12_0, p12_1, p12_2, p12_3⟩ := hQ12
  have N12 := Fr.app N8 N12q
  have Z12 : n0 ≤ T12.heap.size := Nat.le_trans Z10 p12_0.1
  refine own_lift (fun t k => st12.trans k) ?_
  show own_Go p.tables e below (T12.setTop (mkF m 80 #[iv p0, iv p1, iv p2, iv p3, iv p4, iv (own_pos p0), iv (own_pos p1), iv (own_pos p2), iv (own_pos p3), iv (p4 &&& (3 : Int32)), .unset, .unset, .unset, .unset, .unset] [(.ref ob10)])) _
  have sg13 : ∀ t, Steps p.tables e below (T12.setTop (mkF m 82 #[iv p0, iv p1, iv p2, iv p3, iv p4, iv (own_pos p0), iv (own_pos p1), iv (own_pos p2), iv (own_pos p3), iv (p4 &&& (3 : Int32)), rv ob10, .unset, .unset, .unset, .unset] [])) t → Steps p.tables e below (T12.setTop (mkF m 80 #[iv p0, iv p1, iv p2, iv p3, iv p4, iv (own_pos p0), iv (own_pos p1), iv (own_pos p2), iv (own_pos p3), iv (p4 &&& (3 : Int32)), .unset, .unset, .unset, .unset, .unset] [(.ref ob10)])) t := by
    intro t k
    refine XS.astore X12.here hx rfl (hb hby at_80) rfl rfl (l' := #[iv p0, iv p1, iv p2, iv p3, iv p4, iv (own_pos p0), iv (own_pos p1), iv (own_pos p2), iv (own_pos p3), iv (p4 &&& (3 : Int32)), rv ob10, .unset, .unset, .unset, .unset]) rfl ?_
    show Steps p.tables e below (T12.setTop (mkF m 82 #[iv p0, iv p1, iv p2, iv p3, iv p4, iv (own_pos p0), iv (own_pos p1), iv (own_pos p2), iv (own_pos p3), iv (p4 &&& (3 : Int32)), rv ob10, .unset, .unset, .unset, .unset] [])) _
    exact k
  refine own_lift sg13 ?_
  show own_Go p.tables e below (T12.setTop (mkF m 82 #[iv p0, iv p1, iv p2, iv p3, iv p4, iv (own_pos p0), iv (own_pos p1), iv (own_pos p2), iv (own_pos p3), iv (p4 &&& (3 : Int32)), rv ob10, .unset, .unset, .unset, .unset] [])) _
  obtain ⟨T14, h14, X14, e14, Ex14, Ax14, Dx14, Ux14, st14⟩ := newO X12 hx hZ hown (wd hw 9 rfl) (wd hw 10 rfl) (wd hw 11 rfl) rfl (g := (mkF m 82 #[iv p0, iv p1, iv p2, iv p3, iv p4, iv (own_pos p0), iv (own_pos p1), iv (own_pos p2), iv (own_pos p3), iv (p4 &&& (3 : Int32)), rv ob10, .unset, .unset, .unset, .unset] [])) rfl (hb hby at_82) (by decide) (by decide)
  obtain ⟨ob14, g14⟩ : ∃ z, z = T12.heap.size := ⟨_, rfl⟩
  rw [← g14] at Ax14 Dx14 Ux14 st14
  have ne15 : ob10 ≠ ob14 := Nat.ne_of_lt (Nat.lt_of_lt_of_le p12_1.lt (Nat.le_of_eq g14.symm))
  have Z14 : n0 ≤ h14.size := Nat.le_trans Z12 Ex14.1
  have ge14 : n0 ≤ ob14 := Nat.le_trans Z12 (Nat.le_of_eq g14.symm)
  have Fn14_19 : Fld Z h14 ob14 "com/example/allsome/allsome/cypher/InputPosition" "line" "I" (.int 0) := Dx14 (Or.inr (wd hw 19 rfl)) (ty := .int) (by decide)
  have Fn14_21 : Fld Z h14 ob14 "com/example/allsome/allsome/cypher/InputPosition" "column" "I" (.int 0) := Dx14 (Or.inr (wd hw 21 rfl)) (ty := .int) (by decide)
  refine own_lift st14 ?_
  show own_Go p.tables e below (T14.setTop (mkF m 85 #[iv p0, iv p1, iv p2, iv p3, iv p4, iv (own_pos p0), iv (own_pos p1), iv (own_pos p2), iv (own_pos p3), iv (p4 &&& (3 : Int32)), rv ob10, .unset, .unset, .unset, .unset] [(.ref ob14)])) _
  have sg16 : ∀ t, Steps p.tables e below (T14.setTop (mkF m 90 #[iv p0, iv p1, iv p2, iv p3, iv p4, iv (own_pos p0), iv (own_pos p1), iv (own_pos p2), iv (own_pos p3), iv (p4 &&& (3 : Int32)), rv ob10, .unset, .unset, .unset, .unset] [(.int (own_pos p3)), (.int (own_pos p2)), (.ref ob14), (.ref ob14)])) t → Steps p.tables e below (T14.setTop (mkF m 85 #[iv p0, iv p1, iv p2, iv p3, iv p4, iv (own_pos p0), iv (own_pos p1), iv (own_pos p2), iv (own_pos p3), iv (p4 &&& (3 : Int32)), rv ob10, .unset, .unset, .unset, .unset] [(.ref ob14)])) t := by
    intro t k
    refine XS.dup X14.here hx rfl (hb hby at_85) rfl rfl ?_
    show Steps p.tables e below (T14.setTop (mkF m 86 #[iv p0, iv p1, iv p2, iv p3, iv p4, iv (own_pos p0), iv (own_pos p1), iv (own_pos p2), iv (own_pos p3), iv (p4 &&& (3 : Int32)), rv ob10, .unset, .unset, .unset, .unset] [(.ref ob14), (.ref ob14)])) _
    refine XS.iload X14.here hx rfl (hb hby at_86) rfl ?_
    show Steps p.tables e below (T14.setTop (mkF m 88 #[iv p0, iv p1, iv p2, iv p3, iv p4, iv (own_pos p0), iv (own_pos p1), iv (own_pos p2), iv (own_pos p3), iv (p4 &&& (3 : Int32)), rv ob10, .unset, .unset, .unset, .unset] [(.int (own_pos p2)), (.ref ob14), (.ref ob14)])) _
    refine XS.iload X14.here hx rfl (hb hby at_88) rfl ?_
    show Steps p.tables e below (T14.setTop (mkF m 90 #[iv p0, iv p1, iv p2, iv p3, iv p4, iv (own_pos p0), iv (own_pos p1), iv (own_pos p2), iv (own_pos p3), iv (p4 &&& (3 : Int32)), rv ob10, .unset, .unset, .unset, .unset] [(.int (own_pos p3)), (.int (own_pos p2)), (.ref ob14), (.ref ob14)])) _
    exact k
  refine own_lift sg16 ?_
  show own_Go p.tables e below (T14.setTop (mkF m 90 #[iv p0, iv p1, iv p2, iv p3, iv p4, iv (own_pos p0), iv (own_pos p1), iv (own_pos p2), iv (own_pos p3), iv (p4 &&& (3 : Int32)), rv ob10, .unset, .unset, .unset, .unset] [(.int (own_pos p3)), (.int (own_pos p2)), (.ref ob14), (.ref ob14)])) _
  obtain ⟨_, _, ⟨T17, Lx17, kx17, nx17⟩, -, X17, ⟨Lc17, hQ17, lx17, yx17, zx17⟩, st17⟩ := X14.specialBack hx (y := (⟨"com/example/allsome/allsome/cypher/InputPosition", "<init>", "(II)V"⟩ : MethodName)) rfl hown (mvT hZ (wd hw 12 rfl)) (mvT hZ (wd hw 13 rfl)) (mvT hZ (wd hw 14 rfl)) (by decide) (backOf (W := 1) (rmInit l Z a0 hw [] ob14 (own_pos p2) (own_pos p3) h14 n0 Z14 Fn14_19 Fn14_21 Ax14 ge14 (own_pos_ge p2) (own_pos_ge p3)) hZ (wd hw 14 rfl) (wd hw 11 rfl) (by decide) (by decide)) (g := (mkF m 90 #[iv p0, iv p1, iv p2, iv p3, iv p4, iv (own_pos p0), iv (own_pos p1), iv (own_pos p2), iv (own_pos p3), iv (p4 &&& (3 : Int32)), rv ob10, .unset, .unset, .unset, .unset] [(.int (own_pos p3)), (.int (own_pos p2)), (.ref ob14), (.ref ob14)])) rfl (by rw [hml]; rfl) (Steps.refl _) (a := ob14) (argsL := [(.int (own_pos p2)), (.int (own_pos p3))]) (rest := [(.ref ob14)]) (lenOf pd_2 rfl) rfl (by show 2 * 0 + _ ≤ _; exact Nat.le_of_eq rfl) (hb hby at_90) (fun _ _ => ⟨rfl, e14, (by decide : 2 + 0 ≤ _), (by decide : 4 + 0 ≤ _)⟩)
  dsimp only [Pt.U, Pt.locs, Pt.cells, Pt.slots] at X17 lx17 yx17 zx17 st17 hQ17
  subst lx17 yx17 zx17
  obtain ⟨rfl, N17q, p17_0, p17_1, p17_2, p17_3⟩ := hQ17
  have N17 := Fr.app N12 N17q
  have Z17 : n0 ≤ T17.heap.size := Nat.le_trans Z14 p17_0.1
  refine own_lift (fun t k => st17.trans k) ?_
  show own_Go p.tables e below (T17.setTop (mkF m 93 #[iv p0, iv p1, iv p2, iv p3, iv p4, iv (own_pos p0), iv (own_pos p1), iv (own_pos p2), iv (own_pos p3), iv (p4 &&& (3 : Int32)), rv ob10, .unset, .unset, .unset, .unset] [(.ref ob14)])) _
  have sg18 : ∀ t, Steps p.tables e below (T17.setTop (mkF m 97 #[iv p0, iv p1, iv p2, iv p3, iv p4, iv (own_pos p0), iv (own_pos p1), iv (own_pos p2), iv (own_pos p3), iv (p4 &&& (3 : Int32)), rv ob10, rv ob14, .unset, .unset, .unset] [(.ref ob10)])) t → Steps p.tables e below (T17.setTop (mkF m 93 #[iv p0, iv p1, iv p2, iv p3, iv p4, iv (own_pos p0), iv (own_pos p1), iv (own_pos p2), iv (own_pos p3), iv (p4 &&& (3 : Int32)), rv ob10, .unset, .unset, .unset, .unset] [(.ref ob14)])) t := by
    intro t k
    refine XS.astore X17.here hx rfl (hb hby at_93) rfl rfl (l' := #[iv p0, iv p1, iv p2, iv p3, iv p4, iv (own_pos p0), iv (own_pos p1), iv (own_pos p2), iv (own_pos p3), iv (p4 &&& (3 : Int32)), rv ob10, rv ob14, .unset, .unset, .unset]) rfl ?_
    show Steps p.tables e below (T17.setTop (mkF m 95 #[iv p0, iv p1, iv p2, iv p3, iv p4, iv (own_pos p0), iv (own_pos p1), iv (own_pos p2), iv (own_pos p3), iv (p4 &&& (3 : Int32)), rv ob10, rv ob14, .unset, .unset, .unset] [])) _
    refine XS.aload X17.here hx rfl (hb hby at_95) rfl rfl ?_
    show Steps p.tables e below (T17.setTop (mkF m 97 #[iv p0, iv p1, iv p2, iv p3, iv p4, iv (own_pos p0), iv (own_pos p1), iv (own_pos p2), iv (own_pos p3), iv (p4 &&& (3 : Int32)), rv ob10, rv ob14, .unset, .unset, .unset] [(.ref ob10)])) _
    exact k
  refine own_lift sg18 ?_
  show own_Go p.tables e below (T17.setTop (mkF m 97 #[iv p0, iv p1, iv p2, iv p3, iv p4, iv (own_pos p0), iv (own_pos p1), iv (own_pos p2), iv (own_pos p3), iv (p4 &&& (3 : Int32)), rv ob10, rv ob14, .unset, .unset, .unset] [(.ref ob10)])) _
  have Fc19 : Fld Z T17.heap ob10 "com/example/allsome/allsome/cypher/InputPosition" "line" "I" (.int (own_pos p0)) := ((p12_2.ext Ex14).keep p17_0 (ninS ne15 nin0))
  have Fc20 : Fld Z T17.heap ob10 "com/example/allsome/allsome/cypher/InputPosition" "column" "I" (.int (own_pos p1)) := ((p12_3.ext Ex14).keep p17_0 (ninS ne15 nin0))
  have Fc22 : Exa Z T17.heap ob10 "com/example/allsome/allsome/cypher/InputPosition" := ((p12_1.ext Ex14).keep p17_0)
  obtain ⟨cq21, kq21, q21a, q21b, q21c⟩ := isOf hZ rfl Fc22
  obtain ⟨_, _, ⟨T21, Lx21, kx21, nx21⟩, -, X21, ⟨Lc21, hQ21, lx21, yx21, zx21⟩, st21⟩ := X17.virtualBack hx (y := (⟨"com/example/allsome/allsome/cypher/InputPosition", "hashCode", "()I"⟩ : MethodName)) (z := (⟨"com/example/allsome/allsome/cypher/InputPosition", "hashCode", "()I"⟩ : MethodName)) hown (mvT hZ (wd hw 22 rfl)) (mvT hZ (wd hw 23 rfl)) (notFace_of_selects (args := #[]) (mvT hZ (wd hw 25 rfl))) (mvT hZ (wd hw 25 rfl)) (mvT hZ (wd hw 24 rfl)) (by decide) (backOf (W := 0) (rmHash l Z a0 hw [] ob10 (own_pos p0) (own_pos p1) T17.heap n0 Z17 Fc19 Fc20) hZ (wd hw 26 rfl) (wd hw 11 rfl) (by decide) (by decide)) q21a q21c (g := (mkF m 97 #[iv p0, iv p1, iv p2, iv p3, iv p4, iv (own_pos p0), iv (own_pos p1), iv (own_pos p2), iv (own_pos p3), iv (p4 &&& (3 : Int32)), rv ob10, rv ob14, .unset, .unset, .unset] [(.ref ob10)])) rfl (by rw [hml]; rfl) (Steps.refl _) (argsL := []) (rest := []) (lenOf pd_3 rfl) rfl (by show 2 * 0 + _ ≤ _; exact Nat.le_of_eq rfl) (hb hby at_97) (fun _ _ => ⟨rfl, rfl, (by decide : 2 + 0 ≤ _), (by decide : 4 + 0 ≤ _)⟩)
  dsimp only [Pt.U, Pt.locs, Pt.cells, Pt.slots] at X21 lx21 yx21 zx21 st21 hQ21
  subst lx21 yx21 zx21
  obtain ⟨rfl, N21q, e21⟩ := hQ21
  have N21 := Fr.app N17 N21q
  refine own_lift (fun t k => st21.trans k) ?_
  show own_Go p.tables e below (T21.setTop (mkF m 100 #[iv p0, iv p1, iv p2, iv p3, iv p4, iv (own_pos p0), iv (own_pos p1), iv (own_pos p2), iv (own_pos p3), iv (p4 &&& (3 : Int32)), rv ob10, rv ob14, .unset, .unset, .unset] [(.int (((31 : Int32) * (own_pos p0)) + (own_pos p1)))])) _
  have sg23 : ∀ t, Steps p.tables e below (T21.setTop (mkF m 104 #[iv p0, iv p1, iv p2, iv p3, iv p4, iv (own_pos p0), iv (own_pos p1), iv (own_pos p2), iv (own_pos p3), iv (p4 &&& (3 : Int32)), rv ob10, rv ob14, iv (((31 : Int32) * (own_pos p0)) + (own_pos p1)), .unset, .unset] [(.ref ob10)])) t → Steps p.tables e below (T21.setTop (mkF m 100 #[iv p0, iv p1, iv p2, iv p3, iv p4, iv (own_pos p0), iv (own_pos p1), iv (own_pos p2), iv (own_pos p3), iv (p4 &&& (3 : Int32)), rv ob10, rv ob14, .unset, .unset, .unset] [(.int (((31 : Int32) * (own_pos p0)) + (own_pos p1)))])) t := by
    intro t k
    refine XS.istore X21.here hx rfl (hb hby at_100) rfl (l' := #[iv p0, iv p1, iv p2, iv p3, iv p4, iv (own_pos p0), iv (own_pos p1), iv (own_pos p2), iv (own_pos p3), iv (p4 &&& (3 : Int32)), rv ob10, rv ob14, iv (((31 : Int32) * (own_pos p0)) + (own_pos p1)), .unset, .unset]) rfl ?_
    show Steps p.tables e below (T21.setTop (mkF m 102 #[iv p0, iv p1, iv p2, iv p3, iv p4, iv (own_pos p0), iv (own_pos p1), iv (own_pos p2), iv (own_pos p3), iv (p4 &&& (3 : Int32)), rv ob10, rv ob14, iv (((31 : Int32) * (own_pos p0)) + (own_pos p1)), .unset, .unset] [])) _
    refine XS.aload X21.here hx rfl (hb hby at_102) rfl rfl ?_
    show Steps p.tables e below (T21.setTop (mkF m 104 #[iv p0, iv p1, iv p2, iv p3, iv p4, iv (own_pos p0), iv (own_pos p1), iv (own_pos p2), iv (own_pos p3), iv (p4 &&& (3 : Int32)), rv ob10, rv ob14, iv (((31 : Int32) * (own_pos p0)) + (own_pos p1)), .unset, .unset] [(.ref ob10)])) _
    exact k
  refine own_lift sg23 ?_
  show own_Go p.tables e below (T21.setTop (mkF m 104 #[iv p0, iv p1, iv p2, iv p3, iv p4, iv (own_pos p0), iv (own_pos p1), iv (own_pos p2), iv (own_pos p3), iv (p4 &&& (3 : Int32)), rv ob10, rv ob14, iv (((31 : Int32) * (own_pos p0)) + (own_pos p1)), .unset, .unset] [(.ref ob10)])) _
  obtain ⟨cq24, kq24, q24a, q24b, q24c⟩ := isOf hZ e21 Fc22
  obtain ⟨_, _, ⟨T24, Lx24, kx24, nx24⟩, -, X24, ⟨Lc24, hQ24, lx24, yx24, zx24⟩, st24⟩ := X21.virtualBack hx (y := (⟨"com/example/allsome/allsome/cypher/InputPosition", "hashCode", "()I"⟩ : MethodName)) (z := (⟨"com/example/allsome/allsome/cypher/InputPosition", "hashCode", "()I"⟩ : MethodName)) hown (mvT hZ (wd hw 22 rfl)) (mvT hZ (wd hw 23 rfl)) (notFace_of_selects (args := #[]) (mvT hZ (wd hw 25 rfl))) (mvT hZ (wd hw 25 rfl)) (mvT hZ (wd hw 24 rfl)) (by decide) (backOf (W := 0) (rmHash l Z a0 hw [] ob10 (own_pos p0) (own_pos p1) T17.heap n0 Z17 Fc19 Fc20) hZ (wd hw 26 rfl) (wd hw 11 rfl) (by decide) (by decide)) q24a q24c (g := (mkF m 104 #[iv p0, iv p1, iv p2, iv p3, iv p4, iv (own_pos p0), iv (own_pos p1), iv (own_pos p2), iv (own_pos p3), iv (p4 &&& (3 : Int32)), rv ob10, rv ob14, iv (((31 : Int32) * (own_pos p0)) + (own_pos p1)), .unset, .unset] [(.ref ob10)])) rfl (by rw [hml]; rfl) (Steps.refl _) (argsL := []) (rest := []) (lenOf pd_3 rfl) rfl (by show 2 * 0 + _ ≤ _; exact Nat.le_of_eq rfl) (hb hby at_104) (fun _ _ => ⟨rfl, e21, (by decide : 2 + 0 ≤ _), (by decide : 4 + 0 ≤ _)⟩)
  dsimp only [Pt.U, Pt.locs, Pt.cells, Pt.slots] at X24 lx24 yx24 zx24 st24 hQ24
  subst lx24 yx24 zx24
  obtain ⟨rfl, N24q, e24⟩ := hQ24
  have N24 := Fr.app N21 N24q
  refine own_lift (fun t k => st24.trans k) ?_
  show own_Go p.tables e below (T24.setTop (mkF m 107 #[iv p0, iv p1, iv p2, iv p3, iv p4, iv (own_pos p0), iv (own_pos p1), iv (own_pos p2), iv (own_pos p3), iv (p4 &&& (3 : Int32)), rv ob10, rv ob14, iv (((31 : Int32) * (own_pos p0)) + (own_pos p1)), .unset, .unset] [(.int (((31 : Int32) * (own_pos p0)) + (own_pos p1)))])) _
  have sg25 : ∀ t, Steps p.tables e below (T24.setTop (mkF m 111 #[iv p0, iv p1, iv p2, iv p3, iv p4, iv (own_pos p0), iv (own_pos p1), iv (own_pos p2), iv (own_pos p3), iv (p4 &&& (3 : Int32)), rv ob10, rv ob14, iv (((31 : Int32) * (own_pos p0)) + (own_pos p1)), iv (((31 : Int32) * (own_pos p0)) + (own_pos p1)), .unset] [(.ref ob14)])) t → Steps p.tables e below (T24.setTop (mkF m 107 #[iv p0, iv p1, iv p2, iv p3, iv p4, iv (own_pos p0), iv (own_pos p1), iv (own_pos p2), iv (own_pos p3), iv (p4 &&& (3 : Int32)), rv ob10, rv ob14, iv (((31 : Int32) * (own_pos p0)) + (own_pos p1)), .unset, .unset] [(.int (((31 : Int32) * (own_pos p0)) + (own_pos p1)))])) t := by
    intro t k
    refine XS.istore X24.here hx rfl (hb hby at_107) rfl (l' := #[iv p0, iv p1, iv p2, iv p3, iv p4, iv (own_pos p0), iv (own_pos p1), iv (own_pos p2), iv (own_pos p3), iv (p4 &&& (3 : Int32)), rv ob10, rv ob14, iv (((31 : Int32) * (own_pos p0)) + (own_pos p1)), iv (((31 : Int32) * (own_pos p0)) + (own_pos p1)), .unset]) rfl ?_
    show Steps p.tables e below (T24.setTop (mkF m 109 #[iv p0, iv p1, iv p2, iv p3, iv p4, iv (own_pos p0), iv (own_pos p1), iv (own_pos p2), iv (own_pos p3), iv (p4 &&& (3 : Int32)), rv ob10, rv ob14, iv (((31 : Int32) * (own_pos p0)) + (own_pos p1)), iv (((31 : Int32) * (own_pos p0)) + (own_pos p1)), .unset] [])) _
    refine XS.aload X24.here hx rfl (hb hby at_109) rfl rfl ?_
    show Steps p.tables e below (T24.setTop (mkF m 111 #[iv p0, iv p1, iv p2, iv p3, iv p4, iv (own_pos p0), iv (own_pos p1), iv (own_pos p2), iv (own_pos p3), iv (p4 &&& (3 : Int32)), rv ob10, rv ob14, iv (((31 : Int32) * (own_pos p0)) + (own_pos p1)), iv (((31 : Int32) * (own_pos p0)) + (own_pos p1)), .unset] [(.ref ob14)])) _
    exact k
  refine own_lift sg25 ?_
  show own_Go p.tables e below (T24.setTop (mkF m 111 #[iv p0, iv p1, iv p2, iv p3, iv p4, iv (own_pos p0), iv (own_pos p1), iv (own_pos p2), iv (own_pos p3), iv (p4 &&& (3 : Int32)), rv ob10, rv ob14, iv (((31 : Int32) * (own_pos p0)) + (own_pos p1)), iv (((31 : Int32) * (own_pos p0)) + (own_pos p1)), .unset] [(.ref ob14)])) _
  obtain ⟨cq26, kq26, q26a, q26b, q26c⟩ := isOf hZ e24 p17_1
  obtain ⟨_, _, ⟨T26, Lx26, kx26, nx26⟩, -, X26, ⟨Lc26, hQ26, lx26, yx26, zx26⟩, st26⟩ := X24.virtualBack hx (y := (⟨"com/example/allsome/allsome/cypher/InputPosition", "hashCode", "()I"⟩ : MethodName)) (z := (⟨"com/example/allsome/allsome/cypher/InputPosition", "hashCode", "()I"⟩ : MethodName)) hown (mvT hZ (wd hw 22 rfl)) (mvT hZ (wd hw 23 rfl)) (notFace_of_selects (args := #[]) (mvT hZ (wd hw 25 rfl))) (mvT hZ (wd hw 25 rfl)) (mvT hZ (wd hw 24 rfl)) (by decide) (backOf (W := 0) (rmHash l Z a0 hw [] ob14 (own_pos p2) (own_pos p3) T17.heap n0 Z17 p17_2 p17_3) hZ (wd hw 26 rfl) (wd hw 11 rfl) (by decide) (by decide)) q26a q26c (g := (mkF m 111 #[iv p0, iv p1, iv p2, iv p3, iv p4, iv (own_pos p0), iv (own_pos p1), iv (own_pos p2), iv (own_pos p3), iv (p4 &&& (3 : Int32)), rv ob10, rv ob14, iv (((31 : Int32) * (own_pos p0)) + (own_pos p1)), iv (((31 : Int32) * (own_pos p0)) + (own_pos p1)), .unset] [(.ref ob14)])) rfl (by rw [hml]; rfl) (Steps.refl _) (argsL := []) (rest := []) (lenOf pd_3 rfl) rfl (by show 2 * 0 + _ ≤ _; exact Nat.le_of_eq rfl) (hb hby at_111) (fun _ _ => ⟨rfl, e24, (by decide : 2 + 0 ≤ _), (by decide : 4 + 0 ≤ _)⟩)
  dsimp only [Pt.U, Pt.locs, Pt.cells, Pt.slots] at X26 lx26 yx26 zx26 st26 hQ26
  subst lx26 yx26 zx26
  obtain ⟨rfl, N26q, e26⟩ := hQ26
  have N26 := Fr.app N24 N26q
  refine own_lift (fun t k => st26.trans k) ?_
  show own_Go p.tables e below (T26.setTop (mkF m 114 #[iv p0, iv p1, iv p2, iv p3, iv p4, iv (own_pos p0), iv (own_pos p1), iv (own_pos p2), iv (own_pos p3), iv (p4 &&& (3 : Int32)), rv ob10, rv ob14, iv (((31 : Int32) * (own_pos p0)) + (own_pos p1)), iv (((31 : Int32) * (own_pos p0)) + (own_pos p1)), .unset] [(.int (((31 : Int32) * (own_pos p2)) + (own_pos p3)))])) _
  have sg27 : ∀ t, Steps p.tables e below (T26.setTop (mkF m 129 #[iv p0, iv p1, iv p2, iv p3, iv p4, iv (own_pos p0), iv (own_pos p1), iv (own_pos p2), iv (own_pos p3), iv (p4 &&& (3 : Int32)), rv ob10, rv ob14, iv (((31 : Int32) * (own_pos p0)) + (own_pos p1)), iv (((31 : Int32) * (own_pos p0)) + (own_pos p1)), iv (((31 : Int32) * (own_pos p2)) + (own_pos p3))] [(.ref ob14), (.ref ob10)])) t → Steps p.tables e below (T26.setTop (mkF m 114 #[iv p0, iv p1, iv p2, iv p3, iv p4, iv (own_pos p0), iv (own_pos p1), iv (own_pos p2), iv (own_pos p3), iv (p4 &&& (3 : Int32)), rv ob10, rv ob14, iv (((31 : Int32) * (own_pos p0)) + (own_pos p1)), iv (((31 : Int32) * (own_pos p0)) + (own_pos p1)), .unset] [(.int (((31 : Int32) * (own_pos p2)) + (own_pos p3)))])) t := by
    intro t k
    refine XS.istore X26.here hx rfl (hb hby at_114) rfl (l' := #[iv p0, iv p1, iv p2, iv p3, iv p4, iv (own_pos p0), iv (own_pos p1), iv (own_pos p2), iv (own_pos p3), iv (p4 &&& (3 : Int32)), rv ob10, rv ob14, iv (((31 : Int32) * (own_pos p0)) + (own_pos p1)), iv (((31 : Int32) * (own_pos p0)) + (own_pos p1)), iv (((31 : Int32) * (own_pos p2)) + (own_pos p3))]) rfl ?_
    show Steps p.tables e below (T26.setTop (mkF m 116 #[iv p0, iv p1, iv p2, iv p3, iv p4, iv (own_pos p0), iv (own_pos p1), iv (own_pos p2), iv (own_pos p3), iv (p4 &&& (3 : Int32)), rv ob10, rv ob14, iv (((31 : Int32) * (own_pos p0)) + (own_pos p1)), iv (((31 : Int32) * (own_pos p0)) + (own_pos p1)), iv (((31 : Int32) * (own_pos p2)) + (own_pos p3))] [])) _
    refine XS.iload X26.here hx rfl (hb hby at_116) rfl ?_
    show Steps p.tables e below (T26.setTop (mkF m 118 #[iv p0, iv p1, iv p2, iv p3, iv p4, iv (own_pos p0), iv (own_pos p1), iv (own_pos p2), iv (own_pos p3), iv (p4 &&& (3 : Int32)), rv ob10, rv ob14, iv (((31 : Int32) * (own_pos p0)) + (own_pos p1)), iv (((31 : Int32) * (own_pos p0)) + (own_pos p1)), iv (((31 : Int32) * (own_pos p2)) + (own_pos p3))] [(.int (((31 : Int32) * (own_pos p0)) + (own_pos p1)))])) _
    refine XS.iload X26.here hx rfl (hb hby at_118) rfl ?_
    show Steps p.tables e below (T26.setTop (mkF m 120 #[iv p0, iv p1, iv p2, iv p3, iv p4, iv (own_pos p0), iv (own_pos p1), iv (own_pos p2), iv (own_pos p3), iv (p4 &&& (3 : Int32)), rv ob10, rv ob14, iv (((31 : Int32) * (own_pos p0)) + (own_pos p1)), iv (((31 : Int32) * (own_pos p0)) + (own_pos p1)), iv (((31 : Int32) * (own_pos p2)) + (own_pos p3))] [(.int (((31 : Int32) * (own_pos p0)) + (own_pos p1))), (.int (((31 : Int32) * (own_pos p0)) + (own_pos p1)))])) _
    refine XS.icmpYes X26.here hx rfl (pc0 := 120) (pc' := 125) rfl (hb hby at_120) rfl (teq (rfl : (((31 : Int32) * (own_pos p0)) + (own_pos p1)) = (((31 : Int32) * (own_pos p0)) + (own_pos p1)))).1 (by decide) (by decide) ?_
    show Steps p.tables e below (T26.setTop (mkF m 125 #[iv p0, iv p1, iv p2, iv p3, iv p4, iv (own_pos p0), iv (own_pos p1), iv (own_pos p2), iv (own_pos p3), iv (p4 &&& (3 : Int32)), rv ob10, rv ob14, iv (((31 : Int32) * (own_pos p0)) + (own_pos p1)), iv (((31 : Int32) * (own_pos p0)) + (own_pos p1)), iv (((31 : Int32) * (own_pos p2)) + (own_pos p3))] [])) _
    refine XS.aload X26.here hx rfl (hb hby at_125) rfl rfl ?_
    show Steps p.tables e below (T26.setTop (mkF m 127 #[iv p0, iv p1, iv p2, iv p3, iv p4, iv (own_pos p0), iv (own_pos p1), iv (own_pos p2), iv (own_pos p3), iv (p4 &&& (3 : Int32)), rv ob10, rv ob14, iv (((31 : Int32) * (own_pos p0)) + (own_pos p1)), iv (((31 : Int32) * (own_pos p0)) + (own_pos p1)), iv (((31 : Int32) * (own_pos p2)) + (own_pos p3))] [(.ref ob10)])) _
    refine XS.aload X26.here hx rfl (hb hby at_127) rfl rfl ?_
    show Steps p.tables e below (T26.setTop (mkF m 129 #[iv p0, iv p1, iv p2, iv p3, iv p4, iv (own_pos p0), iv (own_pos p1), iv (own_pos p2), iv (own_pos p3), iv (p4 &&& (3 : Int32)), rv ob10, rv ob14, iv (((31 : Int32) * (own_pos p0)) + (own_pos p1)), iv (((31 : Int32) * (own_pos p0)) + (own_pos p1)), iv (((31 : Int32) * (own_pos p2)) + (own_pos p3))] [(.ref ob14), (.ref ob10)])) _
    exact k
  refine own_lift sg27 ?_
  show own_Go p.tables e below (T26.setTop (mkF m 129 #[iv p0, iv p1, iv p2, iv p3, iv p4, iv (own_pos p0), iv (own_pos p1), iv (own_pos p2), iv (own_pos p3), iv (p4 &&& (3 : Int32)), rv ob10, rv ob14, iv (((31 : Int32) * (own_pos p0)) + (own_pos p1)), iv (((31 : Int32) * (own_pos p0)) + (own_pos p1)), iv (((31 : Int32) * (own_pos p2)) + (own_pos p3))] [(.ref ob14), (.ref ob10)])) _
  obtain ⟨cq28, kq28, q28a, q28b, q28c⟩ := isOf hZ e26 Fc22
  obtain ⟨_, _, ⟨T28, Lx28, kx28, nx28⟩, -, X28, ⟨Lc28, hQ28, lx28, yx28, zx28⟩, st28⟩ := X26.virtualBack hx (y := (⟨"com/example/allsome/allsome/cypher/InputPosition", "equals", "(Ljava/lang/Object;)Z"⟩ : MethodName)) (z := (⟨"com/example/allsome/allsome/cypher/InputPosition", "equals", "(Ljava/lang/Object;)Z"⟩ : MethodName)) hown (mvT hZ (wd hw 27 rfl)) (mvT hZ (wd hw 28 rfl)) (notFace_of_selects (args := #[]) (mvT hZ (wd hw 30 rfl))) (mvT hZ (wd hw 30 rfl)) (mvT hZ (wd hw 29 rfl)) (by decide) (backOf (W := 0) (rmEqC l Z a0 hw [] ob10 ob14 (own_pos p0) (own_pos p1) (own_pos p2) (own_pos p3) T17.heap n0 Z17 Fc19 Fc20 p17_2 p17_3 p17_1 hl hc) hZ (wd hw 31 rfl) (wd hw 11 rfl) (by decide) (by decide)) q28a q28c (g := (mkF m 129 #[iv p0, iv p1, iv p2, iv p3, iv p4, iv (own_pos p0), iv (own_pos p1), iv (own_pos p2), iv (own_pos p3), iv (p4 &&& (3 : Int32)), rv ob10, rv ob14, iv (((31 : Int32) * (own_pos p0)) + (own_pos p1)), iv (((31 : Int32) * (own_pos p0)) + (own_pos p1)), iv (((31 : Int32) * (own_pos p2)) + (own_pos p3))] [(.ref ob14), (.ref ob10)])) rfl (by rw [hml]; rfl) (Steps.refl _) (argsL := [(.ref ob14)]) (rest := []) (lenOf pd_4 rfl) rfl (by show 2 * 0 + _ ≤ _; exact Nat.le_of_eq rfl) (hb hby at_129) (fun _ _ => ⟨rfl, e26, (by decide : 2 + 0 ≤ _), (by decide : 4 + 0 ≤ _)⟩)
  dsimp only [Pt.U, Pt.locs, Pt.cells, Pt.slots] at X28 lx28 yx28 zx28 st28 hQ28
  subst lx28 yx28 zx28
  obtain ⟨rfl, N28q, e28⟩ := hQ28
  have N28 := Fr.app N26 N28q
  refine own_lift (fun t k => st28.trans k) ?_
  show own_Go p.tables e below (T28.setTop (mkF m 132 #[iv p0, iv p1, iv p2, iv p3, iv p4, iv (own_pos p0), iv (own_pos p1), iv (own_pos p2), iv (own_pos p3), iv (p4 &&& (3 : Int32)), rv ob10, rv ob14, iv (((31 : Int32) * (own_pos p0)) + (own_pos p1)), iv (((31 : Int32) * (own_pos p0)) + (own_pos p1)), iv (((31 : Int32) * (own_pos p2)) + (own_pos p3))] [(.int 0)])) _
  have sg29 : ∀ t, Steps p.tables e below (T28.setTop (mkF m 145 #[iv p0, iv p1, iv p2, iv p3, iv p4, iv (own_pos p0), iv (own_pos p1), iv (own_pos p2), iv (own_pos p3), iv (p4 &&& (3 : Int32)), rv ob10, rv ob14, iv (((31 : Int32) * (own_pos p0)) + (own_pos p1)), iv (((31 : Int32) * (own_pos p0)) + (own_pos p1)), iv (((31 : Int32) * (own_pos p2)) + (own_pos p3))] [(.int 1)])) t → Steps p.tables e below (T28.setTop (mkF m 132 #[iv p0, iv p1, iv p2, iv p3, iv p4, iv (own_pos p0), iv (own_pos p1), iv (own_pos p2), iv (own_pos p3), iv (p4 &&& (3 : Int32)), rv ob10, rv ob14, iv (((31 : Int32) * (own_pos p0)) + (own_pos p1)), iv (((31 : Int32) * (own_pos p0)) + (own_pos p1)), iv (((31 : Int32) * (own_pos p2)) + (own_pos p3))] [(.int 0)])) t := by
    intro t k
    refine XS.ifYes X28.here hx rfl (pc0 := 132) (pc' := 144) rfl (hb hby at_132) rfl ((if0 _ _).trans (teq (by decide : (0 : Int32) = (0 : Int32))).1) (by decide) (by decide) ?_
    show Steps p.tables e below (T28.setTop (mkF m 144 #[iv p0, iv p1, iv p2, iv p3, iv p4, iv (own_pos p0), iv (own_pos p1), iv (own_pos p2), iv (own_pos p3), iv (p4 &&& (3 : Int32)), rv ob10, rv ob14, iv (((31 : Int32) * (own_pos p0)) + (own_pos p1)), iv (((31 : Int32) * (own_pos p0)) + (own_pos p1)), iv (((31 : Int32) * (own_pos p2)) + (own_pos p3))] [])) _
    refine XS.iconst X28.here hx rfl (hb hby at_144) ?_
    show Steps p.tables e below (T28.setTop (mkF m 145 #[iv p0, iv p1, iv p2, iv p3, iv p4, iv (own_pos p0), iv (own_pos p1), iv (own_pos p2), iv (own_pos p3), iv (p4 &&& (3 : Int32)), rv ob10, rv ob14, iv (((31 : Int32) * (own_pos p0)) + (own_pos p1)), iv (((31 : Int32) * (own_pos p0)) + (own_pos p1)), iv (((31 : Int32) * (own_pos p2)) + (own_pos p3))] [(.int 1)])) _
    exact k
  refine own_lift sg29 ?_
  show own_Go p.tables e below (T28.setTop (mkF m 145 #[iv p0, iv p1, iv p2, iv p3, iv p4, iv (own_pos p0), iv (own_pos p1), iv (own_pos p2), iv (own_pos p3), iv (p4 &&& (3 : Int32)), rv ob10, rv ob14, iv (((31 : Int32) * (own_pos p0)) + (own_pos p1)), iv (((31 : Int32) * (own_pos p0)) + (own_pos p1)), iv (((31 : Int32) * (own_pos p2)) + (own_pos p3))] [(.int 1)])) _
  obtain ⟨fs, hr, hrun, hended, hW, hsame⟩ := X28.leave (v := some (.int 1)) (fun h => by rw [Bd.returns] at h; cases h)
  refine ⟨_, _, ?_, hrun, hended, _, _, rfl, ?_, ⟨_, rfl⟩, hW, hsame.mono (by decide) (by decide)⟩
  · exact retN X28 hx (t := .boolean) Bd.returns (by simp) (hb hby at_145) hr
  · show Q0 Z  h0 n0 _ T28.heap _
    rw [e28]
    exact ⟨rfl, N28⟩
theorem ef_rm0_3n (m : MethodId) (x0 : Int32) (x1 : Int32) (x2 : Int32) (x3 : Int32) (x4 : Int32) : entryFrame m #[(.int x0), (.int x1), (.int x2), (.int x3), (.int x4)] maxLocals = mkF m 0 #[.val (.int x0), .val (.int x1), .val (.int x2), .val (.int x3), .val (.int x4), .unset, .unset, .unset, .unset, .unset, .unset, .unset, .unset, .unset, .unset] [] := by first | (simp [entryFrame, mkF, argsToLocals, Value.category, maxLocals]; done) | rfl
set_option maxRecDepth 65536 in
set_option maxHeartbeats 40000000 in
theorem rm0_3n (l : Launch) (Z : State) (a0 : Array Value) (hw : ∀ d ∈ tables_1, d.before a0 Z = true) (ws : List Jvm.Cond) (p0 : Int32) (p1 : Int32) (p2 : Int32) (p3 : Int32) (p4 : Int32) (h0 : Heap) (n0 : Nat) (Z0 : n0 ≤ h0.size)  (m0 : ¬ ((p4 &&& (3 : Int32)) = (0 : Int32))) (m1 : ¬ ((p4 &&& (3 : Int32)) = (1 : Int32))) (m2 : ¬ ((p4 &&& (3 : Int32)) = (2 : Int32))) (hl : ¬ ((own_pos p0) = (own_pos p2))) :
    MetFree l x (head1 (Jvm.Cond.code x code maxLocals ret :: ws) room_1) (fun a U => a = #[(.int p0), (.int p1), (.int p2), (.int p3), (.int p4)] ∧ Z.Warmed39 U.vm ∧ U.heap = h0) (fun _ _ _ _ _ => True) (fun _ U o U' => ∃ v L, o = .returned v ∧ Q0 Z  h0 n0 v U'.heap L ∧ FrameEnd U o U' L 16 128) := by
  refine MetFree.of_bodySF (plainFor_of_name pn_1) hisR ?_
  intro p e s m args below meth c s₁ Bd hml0 hP hK
  obtain ⟨rfl, hZ, hh⟩ := hP
  have hx := Bd.exec
  have hby := Bd.bytes
  have hml : c.maxLocals = 15 := hml0
  have hown : s.vm.findClass "com/example/allsome/allsome/cypher/InputPositionHashCodePinLaw" = some m.cls := findClass_of_methodNamed Bd.named
  have hnm := (name_of_methodNamed Bd.named Bd.method).1
  have X0 : Stand p l e room_1 s m #[(.int p0), (.int p1), (.int p2), (.int p3), (.int p4)] below meth c s₁ [] 0 0 := Stand.of_body Bd
  have e0 : s₁.heap = h0 := by rw [← hh, Bd.state]; rfl
  have N0 := Fr.nil n0
  refine own_go (own_lift (fun t k => castTop (ef_rm0_3n m p0 p1 p2 p3 p4) k) ?_)
  show own_Go p.tables e below (s₁.setTop (mkF m 0 #[iv p0, iv p1, iv p2, iv p3, iv p4, .unset, .unset, .unset, .unset, .unset, .unset, .unset, .unset, .unset, .unset] [])) _
  have sg1 : ∀ t, Steps p.tables e below (s₁.setTop (mkF m 1 #[iv p0, iv p1, iv p2, iv p3, iv p4, .unset, .unset, .unset, .unset, .unset, .unset, .unset, .unset, .unset, .unset] [(.int p0)])) t → Steps p.tables e below (s₁.setTop (mkF m 0 #[iv p0, iv p1, iv p2, iv p3, iv p4, .unset, .unset, .unset, .unset, .unset, .unset, .unset, .unset, .unset, .unset] [])) t := by
    intro t k
    refine XS.iloadN X0.here hx rfl (hb hby at_0) rfl ?_
    show Steps p.tables e below (s₁.setTop (mkF m 1 #[iv p0, iv p1, iv p2, iv p3, iv p4, .unset, .unset, .unset, .unset, .unset, .unset, .unset, .unset, .unset, .unset] [(.int p0)])) _
    exact k
  refine own_lift sg1 ?_
  show own_Go p.tables e below (s₁.setTop (mkF m 1 #[iv p0, iv p1, iv p2, iv p3, iv p4, .unset, .unset, .unset, .unset, .unset, .unset, .unset, .unset, .unset, .unset] [(.int p0)])) _
  obtain ⟨_, _, ⟨T2, Lx2, kx2, nx2⟩, -, X2, ⟨Lc2, hQ2, lx2, yx2, zx2⟩, st2⟩ := Jvm.LawKit.callS X0 hx (y := (⟨"com/example/allsome/allsome/cypher/InputPositionHashCodePinLaw", "pos", "(I)I"⟩ : MethodName)) hown (mvT hZ (wd hw 0 rfl)) (mvT hZ (wd hw 1 rfl)) (mvT hZ (wd hw 2 rfl)) (mvT hZ (wd hw 3 rfl)) (by decide) (backOf (W := 0) (rmPos l Z a0 hw [] p0 h0 n0 Z0 ) hZ (wd hw 3 rfl) (wd hw 2 rfl) (by decide) (by decide)) (g := (mkF m 1 #[iv p0, iv p1, iv p2, iv p3, iv p4, .unset, .unset, .unset, .unset, .unset, .unset, .unset, .unset, .unset, .unset] [(.int p0)])) rfl (by rw [hml]; rfl) (argsL := [(.int p0)]) (rest := []) (lenOf pd_1 rfl) rfl (by show 2 * 0 + _ ≤ _; exact Nat.le_of_eq rfl) (hb hby at_1) (fun _ _ => ⟨rfl, e0, (by decide : 0 + 0 ≤ _), (by decide : 0 + 0 ≤ _)⟩)
  dsimp only [Pt.U, Pt.locs, Pt.cells, Pt.slots] at X2 lx2 yx2 zx2 st2 hQ2
  subst lx2 yx2 zx2
  obtain ⟨rfl, N2q, e2⟩ := hQ2
  have N2 := Fr.app N0 N2q
  refine own_lift st2 ?_
  show own_Go p.tables e below (T2.setTop (mkF m 4 #[iv p0, iv p1, iv p2, iv p3, iv p4, .unset, .unset, .unset, .unset, .unset, .unset, .unset, .unset, .unset, .unset] [(.int (own_pos p0))])) _
  have sg3 : ∀ t, Steps p.tables e below (T2.setTop (mkF m 7 #[iv p0, iv p1, iv p2, iv p3, iv p4, iv (own_pos p0), .unset, .unset, .unset, .unset, .unset, .unset, .unset, .unset, .unset] [(.int p1)])) t → Steps p.tables e below (T2.setTop (mkF m 4 #[iv p0, iv p1, iv p2, iv p3, iv p4, .unset, .unset, .unset, .unset, .unset, .unset, .unset, .unset, .unset, .unset] [(.int (own_pos p0))])) t := by
    intro t k
    refine XS.istore X2.here hx rfl (hb hby at_4) rfl (l' := #[iv p0, iv p1, iv p2, iv p3, iv p4, iv (own_pos p0), .unset, .unset, .unset, .unset, .unset, .unset, .unset, .unset, .unset]) rfl ?_
    show Steps p.tables e below (T2.setTop (mkF m 6 #[iv p0, iv p1, iv p2, iv p3, iv p4, iv (own_pos p0), .unset, .unset, .unset, .unset, .unset, .unset, .unset, .unset, .unset] [])) _
    refine XS.iloadN X2.here hx rfl (hb hby at_6) rfl ?_
    show Steps p.tables e below (T2.setTop (mkF m 7 #[iv p0, iv p1, iv p2, iv p3, iv p4, iv (own_pos p0), .unset, .unset, .unset, .unset, .unset, .unset, .unset, .unset, .unset] [(.int p1)])) _
    exact k
  refine own_lift sg3 ?_
  show own_Go p.tables e below (T2.setTop (mkF m 7 #[iv p0, iv p1, iv p2, iv p3, iv p4, iv (own_pos p0), .unset, .unset, .unset, .unset, .unset, .unset, .unset, .unset, .unset] [(.int p1)])) _
  obtain ⟨_, _, ⟨T4, Lx4, kx4, nx4⟩, -, X4, ⟨Lc4, hQ4, lx4, yx4, zx4⟩, st4⟩ := Jvm.LawKit.callS X2 hx (y := (⟨"com/example/allsome/allsome/cypher/InputPositionHashCodePinLaw", "pos", "(I)I"⟩ : MethodName)) hown (mvT hZ (wd hw 0 rfl)) (mvT hZ (wd hw 1 rfl)) (mvT hZ (wd hw 2 rfl)) (mvT hZ (wd hw 3 rfl)) (by decide) (backOf (W := 0) (rmPos l Z a0 hw [] p1 h0 n0 Z0 ) hZ (wd hw 3 rfl) (wd hw 2 rfl) (by decide) (by decide)) (g := (mkF m 7 #[iv p0, iv p1, iv p2, iv p3, iv p4, iv (own_pos p0), .unset, .unset, .unset, .unset, .unset, .unset, .unset, .unset, .unset] [(.int p1)])) rfl (by rw [hml]; rfl) (argsL := [(.int p1)]) (rest := []) (lenOf pd_1 rfl) rfl (by show 2 * 0 + _ ≤ _; exact Nat.le_of_eq rfl) (hb hby at_7) (fun _ _ => ⟨rfl, e2, (by decide : 0 + 0 ≤ _), (by decide : 0 + 0 ≤ _)⟩)
  dsimp only [Pt.U, Pt.locs, Pt.cells, Pt.slots] at X4 lx4 yx4 zx4 st4 hQ4
  subst lx4 yx4 zx4
  obtain ⟨rfl, N4q, e4⟩ := hQ4
  have N4 := Fr.app N2 N4q
  refine own_lift st4 ?_
  show own_Go p.tables e below (T4.setTop (mkF m 10 #[iv p0, iv p1, iv p2, iv p3, iv p4, iv (own_pos p0), .unset, .unset, .unset, .unset, .unset, .unset, .unset, .unset, .unset] [(.int (own_pos p1))])) _
  have sg5 : ∀ t, Steps p.tables e below (T4.setTop (mkF m 13 #[iv p0, iv p1, iv p2, iv p3, iv p4, iv (own_pos p0), iv (own_pos p1), .unset, .unset, .unset, .unset, .unset, .unset, .unset, .unset] [(.int p2)])) t → Steps p.tables e below (T4.setTop (mkF m 10 #[iv p0, iv p1, iv p2, iv p3, iv p4, iv (own_pos p0), .unset, .unset, .unset, .unset, .unset, .unset, .unset, .unset, .unset] [(.int (own_pos p1))])) t := by
    intro t k
    refine XS.istore X4.here hx rfl (hb hby at_10) rfl (l' := #[iv p0, iv p1, iv p2, iv p3, iv p4, iv (own_pos p0), iv (own_pos p1), .unset, .unset, .unset, .unset, .unset, .unset, .unset, .unset]) rfl ?_
    show Steps p.tables e below (T4.setTop (mkF m 12 #[iv p0, iv p1, iv p2, iv p3, iv p4, iv (own_pos p0), iv (own_pos p1), .unset, .unset, .unset, .unset, .unset, .unset, .unset, .unset] [])) _
    refine XS.iloadN X4.here hx rfl (hb hby at_12) rfl ?_
    show Steps p.tables e below (T4.setTop (mkF m 13 #[iv p0, iv p1, iv p2, iv p3, iv p4, iv (own_pos p0), iv (own_pos p1), .unset, .unset, .unset, .unset, .unset, .unset, .unset, .unset] [(.int p2)])) _
    exact k
  refine own_lift sg5 ?_
  show own_Go p.tables e below (T4.setTop (mkF m 13 #[iv p0, iv p1, iv p2, iv p3, iv p4, iv (own_pos p0), iv (own_pos p1), .unset, .unset, .unset, .unset, .unset, .unset, .unset, .unset] [(.int p2)])) _
  obtain ⟨_, _, ⟨T6, Lx6, kx6, nx6⟩, -, X6, ⟨Lc6, hQ6, lx6, yx6, zx6⟩, st6⟩ := Jvm.LawKit.callS X4 hx (y := (⟨"com/example/allsome/allsome/cypher/InputPositionHashCodePinLaw", "pos", "(I)I"⟩ : MethodName)) hown (mvT hZ (wd hw 0 rfl)) (mvT hZ (wd hw 1 rfl)) (mvT hZ (wd hw 2 rfl)) (mvT hZ (wd hw 3 rfl)) (by decide) (backOf (W := 0) (rmPos l Z a0 hw [] p2 h0 n0 Z0 ) hZ (wd hw 3 rfl) (wd hw 2 rfl) (by decide) (by decide)) (g := (mkF m 13 #[iv p0, iv p1, iv p2, iv p3, iv p4, iv (own_pos p0), iv (own_pos p1), .unset, .unset, .unset, .unset, .unset, .unset, .unset, .unset] [(.int p2)])) rfl (by rw [hml]; rfl) (argsL := [(.int p2)]) (rest := []) (lenOf pd_1 rfl) rfl (by show 2 * 0 + _ ≤ _; exact Nat.le_of_eq rfl) (hb hby at_13) (fun _ _ => ⟨rfl, e4, (by decide : 0 + 0 ≤ _), (by decide : 0 + 0 ≤ _)⟩)
  dsimp only [Pt.U, Pt.locs, Pt.cells, Pt.slots] at X6 lx6 yx6 zx6 st6 hQ6
  subst lx6 yx6 zx6
  obtain ⟨rfl, N6q, e6⟩ := hQ6
  have N6 := Fr.app N4 N6q
  refine own_lift st6 ?_
  show own_Go p.tables e below (T6.setTop (mkF m 16 #[iv p0, iv p1, iv p2, iv p3, iv p4, iv (own_pos p0), iv (own_pos p1), .unset, .unset, .unset, .unset, .unset, .unset, .unset, .unset] [(.int (own_pos p2))])) _
  have sg7 : ∀ t, Steps p.tables e below (T6.setTop (mkF m 19 #[iv p0, iv p1, iv p2, iv p3, iv p4, iv (own_pos p0), iv (own_pos p1), iv (own_pos p2), .unset, .unset, .unset, .unset, .unset, .unset, .unset] [(.int p3)])) t → Steps p.tables e below (T6.setTop (mkF m 16 #[iv p0, iv p1, iv p2, iv p3, iv p4, iv (own_pos p0), iv (own_pos p1), .unset, .unset, .unset, .unset, .unset, .unset, .unset, .unset] [(.int (own_pos p2))])) t := by
    intro t k
    refine XS.istore X6.here hx rfl (hb hby at_16) rfl (l' := #[iv p0, iv p1, iv p2, iv p3, iv p4, iv (own_pos p0), iv (own_pos p1), iv (own_pos p2), .unset, .unset, .unset, .unset, .unset, .unset, .unset]) rfl ?_
    show Steps p.tables e below (T6.setTop (mkF m 18 #[iv p0, iv p1, iv p2, iv p3, iv p4, iv (own_pos p0), iv (own_pos p1), iv (own_pos p2), .unset, .unset, .unset, .unset, .unset, .unset, .unset] [])) _
    refine XS.iloadN X6.here hx rfl (hb hby at_18) rfl ?_
    show Steps p.tables e below (T6.setTop (mkF m 19 #[iv p0, iv p1, iv p2, iv p3, iv p4, iv (own_pos p0), iv (own_pos p1), iv (own_pos p2), .unset, .unset, .unset, .unset, .unset, .unset, .unset] [(.int p3)])) _
    exact k
  refine own_lift sg7 ?_
  show own_Go p.tables e below (T6.setTop (mkF m 19 #[iv p0, iv p1, iv p2, iv p3, iv p4, iv (own_pos p0), iv (own_pos p1), iv (own_pos p2), .unset, .unset, .unset, .unset, .unset, .unset, .unset] [(.int p3)])) _
  obtain ⟨_, _, ⟨T8, Lx8, kx8, nx8⟩, -, X8, ⟨Lc8, hQ8, lx8, yx8, zx8⟩, st8⟩ := Jvm.LawKit.callS X6 hx (y := (⟨"com/example/allsome/allsome/cypher/InputPositionHashCodePinLaw", "pos", "(I)I"⟩ : MethodName)) hown (mvT hZ (wd hw 0 rfl)) (mvT hZ (wd hw 1 rfl)) (mvT hZ (wd hw 2 rfl)) (mvT hZ (wd hw 3 rfl)) (by decide) (backOf (W := 0) (rmPos l Z a0 hw [] p3 h0 n0 Z0 ) hZ (wd hw 3 rfl) (wd hw 2 rfl) (by decide) (by decide)) (g := (mkF m 19 #[iv p0, iv p1, iv p2, iv p3, iv p4, iv (own_pos p0), iv (own_pos p1), iv (own_pos p2), .unset, .unset, .unset, .unset, .unset, .unset, .unset] [(.int p3)])) rfl (by rw [hml]; rfl) (argsL := [(.int p3)]) (rest := []) (lenOf pd_1 rfl) rfl (by show 2 * 0 + _ ≤ _; exact Nat.le_of_eq rfl) (hb hby at_19) (fun _ _ => ⟨rfl, e6, (by decide : 0 + 0 ≤ _), (by decide : 0 + 0 ≤ _)⟩)
  dsimp only [Pt.U, Pt.locs, Pt.cells, Pt.slots] at X8 lx8 yx8 zx8 st8 hQ8
  subst lx8 yx8 zx8
  obtain ⟨rfl, N8q, e8⟩ := hQ8
  have N8 := Fr.app N6 N8q
  refine own_lift st8 ?_
  show own_Go p.tables e below (T8.setTop (mkF m 22 #[iv p0, iv p1, iv p2, iv p3, iv p4, iv (own_pos p0), iv (own_pos p1), iv (own_pos p2), .unset, .unset, .unset, .unset, .unset, .unset, .unset] [(.int (own_pos p3))])) _
  have sg9 : ∀ t, Steps p.tables e below (T8.setTop (mkF m 69 #[iv p0, iv p1, iv p2, iv p3, iv p4, iv (own_pos p0), iv (own_pos p1), iv (own_pos p2), iv (own_pos p3), iv (p4 &&& (3 : Int32)), .unset, .unset, .unset, .unset, .unset] [])) t → Steps p.tables e below (T8.setTop (mkF m 22 #[iv p0, iv p1, iv p2, iv p3, iv p4, iv (own_pos p0), iv (own_pos p1), iv (own_pos p2), .unset, .unset, .unset, .unset, .unset, .unset, .unset] [(.int (own_pos p3))])) t := by
    intro t k
    refine XS.istore X8.here hx rfl (hb hby at_22) rfl (l' := #[iv p0, iv p1, iv p2, iv p3, iv p4, iv (own_pos p0), iv (own_pos p1), iv (own_pos p2), iv (own_pos p3), .unset, .unset, .unset, .unset, .unset, .unset]) rfl ?_
    show Steps p.tables e below (T8.setTop (mkF m 24 #[iv p0, iv p1, iv p2, iv p3, iv p4, iv (own_pos p0), iv (own_pos p1), iv (own_pos p2), iv (own_pos p3), .unset, .unset, .unset, .unset, .unset, .unset] [])) _
    refine XS.iload X8.here hx rfl (hb hby at_24) rfl ?_
    show Steps p.tables e below (T8.setTop (mkF m 26 #[iv p0, iv p1, iv p2, iv p3, iv p4, iv (own_pos p0), iv (own_pos p1), iv (own_pos p2), iv (own_pos p3), .unset, .unset, .unset, .unset, .unset, .unset] [(.int p4)])) _
    refine XS.iconst X8.here hx rfl (hb hby at_26) ?_
    show Steps p.tables e below (T8.setTop (mkF m 27 #[iv p0, iv p1, iv p2, iv p3, iv p4, iv (own_pos p0), iv (own_pos p1), iv (own_pos p2), iv (own_pos p3), .unset, .unset, .unset, .unset, .unset, .unset] [(.int 3), (.int p4)])) _
    refine XS.iand X8.here hx rfl (hb hby at_27) rfl ?_
    show Steps p.tables e below (T8.setTop (mkF m 28 #[iv p0, iv p1, iv p2, iv p3, iv p4, iv (own_pos p0), iv (own_pos p1), iv (own_pos p2), iv (own_pos p3), .unset, .unset, .unset, .unset, .unset, .unset] [(.int (p4 &&& (3 : Int32)))])) _
    refine XS.istore X8.here hx rfl (hb hby at_28) rfl (l' := #[iv p0, iv p1, iv p2, iv p3, iv p4, iv (own_pos p0), iv (own_pos p1), iv (own_pos p2), iv (own_pos p3), iv (p4 &&& (3 : Int32)), .unset, .unset, .unset, .unset, .unset]) rfl ?_
    show Steps p.tables e below (T8.setTop (mkF m 30 #[iv p0, iv p1, iv p2, iv p3, iv p4, iv (own_pos p0), iv (own_pos p1), iv (own_pos p2), iv (own_pos p3), iv (p4 &&& (3 : Int32)), .unset, .unset, .unset, .unset, .unset] [])) _
    refine XS.iload X8.here hx rfl (hb hby at_30) rfl ?_
    show Steps p.tables e below (T8.setTop (mkF m 32 #[iv p0, iv p1, iv p2, iv p3, iv p4, iv (own_pos p0), iv (own_pos p1), iv (own_pos p2), iv (own_pos p3), iv (p4 &&& (3 : Int32)), .unset, .unset, .unset, .unset, .unset] [(.int (p4 &&& (3 : Int32)))])) _
    refine XS.ifYes X8.here hx rfl (pc0 := 32) (pc' := 46) rfl (hb hby at_32) rfl ((if0 _ _).trans (feq m0).2) (by decide) (by decide) ?_
    show Steps p.tables e below (T8.setTop (mkF m 46 #[iv p0, iv p1, iv p2, iv p3, iv p4, iv (own_pos p0), iv (own_pos p1), iv (own_pos p2), iv (own_pos p3), iv (p4 &&& (3 : Int32)), .unset, .unset, .unset, .unset, .unset] [])) _
    refine XS.iload X8.here hx rfl (hb hby at_46) rfl ?_
    show Steps p.tables e below (T8.setTop (mkF m 48 #[iv p0, iv p1, iv p2, iv p3, iv p4, iv (own_pos p0), iv (own_pos p1), iv (own_pos p2), iv (own_pos p3), iv (p4 &&& (3 : Int32)), .unset, .unset, .unset, .unset, .unset] [(.int (p4 &&& (3 : Int32)))])) _
    refine XS.iconst X8.here hx rfl (hb hby at_48) ?_
    show Steps p.tables e below (T8.setTop (mkF m 49 #[iv p0, iv p1, iv p2, iv p3, iv p4, iv (own_pos p0), iv (own_pos p1), iv (own_pos p2), iv (own_pos p3), iv (p4 &&& (3 : Int32)), .unset, .unset, .unset, .unset, .unset] [(.int 1), (.int (p4 &&& (3 : Int32)))])) _
    refine XS.icmpYes X8.here hx rfl (pc0 := 49) (pc' := 59) rfl (hb hby at_49) rfl (feq m1).2 (by decide) (by decide) ?_
    show Steps p.tables e below (T8.setTop (mkF m 59 #[iv p0, iv p1, iv p2, iv p3, iv p4, iv (own_pos p0), iv (own_pos p1), iv (own_pos p2), iv (own_pos p3), iv (p4 &&& (3 : Int32)), .unset, .unset, .unset, .unset, .unset] [])) _
    refine XS.iload X8.here hx rfl (hb hby at_59) rfl ?_
    show Steps p.tables e below (T8.setTop (mkF m 61 #[iv p0, iv p1, iv p2, iv p3, iv p4, iv (own_pos p0), iv (own_pos p1), iv (own_pos p2), iv (own_pos p3), iv (p4 &&& (3 : Int32)), .unset, .unset, .unset, .unset, .unset] [(.int (p4 &&& (3 : Int32)))])) _
    refine XS.iconst X8.here hx rfl (hb hby at_61) ?_
    show Steps p.tables e below (T8.setTop (mkF m 62 #[iv p0, iv p1, iv p2, iv p3, iv p4, iv (own_pos p0), iv (own_pos p1), iv (own_pos p2), iv (own_pos p3), iv (p4 &&& (3 : Int32)), .unset, .unset, .unset, .unset, .unset] [(.int 2), (.int (p4 &&& (3 : Int32)))])) _
    refine XS.icmpYes X8.here hx rfl (pc0 := 62) (pc' := 69) rfl (hb hby at_62) rfl (feq m2).2 (by decide) (by decide) ?_
    show Steps p.tables e below (T8.setTop (mkF m 69 #[iv p0, iv p1, iv p2, iv p3, iv p4, iv (own_pos p0), iv (own_pos p1), iv (own_pos p2), iv (own_pos p3), iv (p4 &&& (3 : Int32)), .unset, .unset, .unset, .unset, .unset] [])) _
    exact k
  refine own_lift sg9 ?_
  show own_Go p.tables e below (T8.setTop (mkF m 69 #[iv p0, iv p1, iv p2, iv p3, iv p4, iv (own_pos p0), iv (own_pos p1), iv (own_pos p2), iv (own_pos p3), iv (p4 &&& (3 : Int32)), .unset, .unset, .unset, .unset, .unset] [])) _
  obtain ⟨T10, h10, X10, e10, Ex10, Ax10, Dx10, Ux10, st10⟩ := newO X8 hx hZ hown (wd hw 9 rfl) (wd hw 10 rfl) (wd hw 11 rfl) e8 (g := (mkF m 69 #[iv p0, iv p1, iv p2, iv p3, iv p4, iv (own_pos p0), iv (own_pos p1), iv (own_pos p2), iv (own_pos p3), iv (p4 &&& (3 : Int32)), .unset, .unset, .unset, .unset, .unset] [])) rfl (hb hby at_69) (by decide) (by decide)
  obtain ⟨ob10, g10⟩ : ∃ z, z = h0.size := ⟨_, rfl⟩
  rw [← g10] at Ax10 Dx10 Ux10 st10
  have Z10 : n0 ≤ h10.size := Nat.le_trans Z0 Ex10.1
  have ge10 : n0 ≤ ob10 := Nat.le_trans Z0 (Nat.le_of_eq g10.symm)
  have Fn10_19 : Fld Z h10 ob10 "com/example/allsome/allsome/cypher/InputPosition" "line" "I" (.int 0) := Dx10 (Or.inr (wd hw 19 rfl)) (ty := .int) (by decide)
  have Fn10_21 : Fld Z h10 ob10 "com/example/allsome/allsome/cypher/InputPosition" "column" "I" (.int 0) := Dx10 (Or.inr (wd hw 21 rfl)) (ty := .int) (by decide)
  refine own_lift st10 ?_
  show own_Go p.tables e below (T10.setTop (mkF m 72 #[iv p0, iv p1, iv p2, iv p3, iv p4, iv (own_pos p0), iv (own_pos p1), iv (own_pos p2), iv (own_pos p3), iv (p4 &&& (3 : Int32)), .unset, .unset, .unset, .unset, .unset] [(.ref ob10)])) _
  have sg11 : ∀ t, Steps p.tables e below (T10.setTop (mkF m 77 #[iv p0, iv p1, iv p2, iv p3, iv p4, iv (own_pos p0), iv (own_pos p1), iv (own_pos p2), iv (own_pos p3), iv (p4 &&& (3 : Int32)), .unset, .unset, .unset, .unset, .unset] [(.int (own_pos p1)), (.int (own_pos p0)), (.ref ob10), (.ref ob10)])) t → Steps p.tables e below (T10.setTop (mkF m 72 #[iv p0, iv p1, iv p2, iv p3, iv p4, iv (own_pos p0), iv (own_pos p1), iv (own_pos p2), iv (own_pos p3), iv (p4 &&& (3 : Int32)), .unset, .unset, .unset, .unset, .unset] [(.ref ob10)])) t := by
    intro t k
    refine XS.dup X10.here hx rfl (hb hby at_72) rfl rfl ?_
    show Steps p.tables e below (T10.setTop (mkF m 73 #[iv p0, iv p1, iv p2, iv p3, iv p4, iv (own_pos p0), iv (own_pos p1), iv (own_pos p2), iv (own_pos p3), iv (p4 &&& (3 : Int32)), .unset, .unset, .unset, .unset, .unset] [(.ref ob10), (.ref ob10)])) _
    refine XS.iload X10.here hx rfl (hb hby at_73) rfl ?_
    show Steps p.tables e below (T10.setTop (mkF m 75 #[iv p0, iv p1, iv p2, iv p3, iv p4, iv (own_pos p0), iv (own_pos p1), iv (own_pos p2), iv (own_pos p3), iv (p4 &&& (3 : Int32)), .unset, .unset, .unset, .unset, .unset] [(.int (own_pos p0)), (.ref ob10), (.ref ob10)])) _
    refine XS.iload X10.here hx rfl (hb hby at_75) rfl ?_
    show Steps p.tables e below (T10.setTop (mkF m 77 #[iv p0, iv p1, iv p2, iv p3, iv p4, iv (own_pos p0), iv (own_pos p1), iv (own_pos p2), iv (own_pos p3), iv (p4 &&& (3 : Int32)), .unset, .unset, .unset, .unset, .unset] [(.int (own_pos p1)), (.int (own_pos p0)), (.ref ob10), (.ref ob10)])) _
    exact k
  refine own_lift sg11 ?_
  show own_Go p.tables e below (T10.setTop (mkF m 77 #[iv p0, iv p1, iv p2, iv p3, iv p4, iv (own_pos p0), iv (own_pos p1), iv (own_pos p2), iv (own_pos p3), iv (p4 &&& (3 : Int32)), .unset, .unset, .unset, .unset, .unset] [(.int (own_pos p1)), (.int (own_pos p0)), (.ref ob10), (.ref ob10)])) _
  obtain ⟨_, _, ⟨T12, Lx12, kx12, nx12⟩, -, X12, ⟨Lc12, hQ12, lx12, yx12, zx12⟩, st12⟩ := X10.specialBack hx (y := (⟨"com/example/allsome/allsome/cypher/InputPosition", "<init>", "(II)V"⟩ : MethodName)) rfl hown (mvT hZ (wd hw 12 rfl)) (mvT hZ (wd hw 13 rfl)) (mvT hZ (wd hw 14 rfl)) (by decide) (backOf (W := 1) (rmInit l Z a0 hw [] ob10 (own_pos p0) (own_pos p1) h10 n0 Z10 Fn10_19 Fn10_21 Ax10 ge10 (own_pos_ge p0) (own_pos_ge p1)) hZ (wd hw 14 rfl) (wd hw 11 rfl) (by decide) (by decide)) (g := (mkF m 77 #[iv p0, iv p1, iv p2, iv p3, iv p4, iv (own_pos p0), iv (own_pos p1), iv (own_pos p2), iv (own_pos p3), iv (p4 &&& (3 : Int32)), .unset, .unset, .unset, .unset, .unset] [(.int (own_pos p1)), (.int (own_pos p0)), (.ref ob10), (.ref ob10)])) rfl (by rw [hml]; rfl) (Steps.refl _) (a := ob10) (argsL := [(.int (own_pos p0)), (.int (own_pos p1))]) (rest := [(.ref ob10)]) (lenOf pd_2 rfl) rfl (by show 2 * 0 + _ ≤ _; exact Nat.le_of_eq rfl) (hb hby at_77) (fun _ _ => ⟨rfl, e10, (by decide : 1 + 0 ≤ _), (by decide : 2 + 0 ≤ _)⟩)
  dsimp only [Pt.U, Pt.locs, Pt.cells, Pt.slots] at X12 lx12 yx12 zx12 st12 hQ12
  subst lx12 yx12 zx12
  obtain ⟨rfl, N12q, p12_0, p12_1, p12_2, p12_3⟩ := hQ12
  have N12 := Fr.app N8 N12q
  have Z12 : n0 ≤ T12.heap.size := Nat.le_trans Z10 p12_0.1
  refine own_lift (fun t k => st12.trans k) ?_
  show own_Go p.tables e below (T12.setTop (mkF m 80 #[iv p0, iv p1, iv p2, iv p3, iv p4, iv (own_pos p0), iv (own_pos p1), iv (own_pos p2), iv (own_pos p3), iv (p4 &&& (3 : Int32)), .unset, .unset, .unset, .unset, .unset] [(.ref ob10)])) _
  have sg13 : ∀ t, Steps p.tables e below (T12.setTop (mkF m 82 #[iv p0, iv p1, iv p2, iv p3, iv p4, iv (own_pos p0), iv (own_pos p1), iv (own_pos p2), iv (own_pos p3), iv (p4 &&& (3 : Int32)), rv ob10, .unset, .unset, .unset, .unset] [])) t → Steps p.tables e below (T12.setTop (mkF m 80 #[iv p0, iv p1, iv p2, iv p3, iv p4, iv (own_pos p0), iv (own_pos p1), iv (own_pos p2), iv (own_pos p3), iv (p4 &&& (3 : Int32)), .unset, .unset, .unset, .unset, .unset] [(.ref ob10)])) t := by
    intro t k
    refine XS.astore X12.here hx rfl (hb hby at_80) rfl rfl (l' := #[iv p0, iv p1, iv p2, iv p3, iv p4, iv (own_pos p0), iv (own_pos p1), iv (own_pos p2), iv (own_pos p3), iv (p4 &&& (3 : Int32)), rv ob10, .unset, .unset, .unset, .unset]) rfl ?_
    show Steps p.tables e below (T12.setTop (mkF m 82 #[iv p0, iv p1, iv p2, iv p3, iv p4, iv (own_pos p0), iv (own_pos p1), iv (own_pos p2), iv (own_pos p3), iv (p4 &&& (3 : Int32)), rv ob10, .unset, .unset, .unset, .unset] [])) _
    exact k
  refine own_lift sg13 ?_
  show own_Go p.tables e below (T12.setTop (mkF m 82 #[iv p0, iv p1, iv p2, iv p3, iv p4, iv (own_pos p0), iv (own_pos p1), iv (own_pos p2), iv (own_pos p3), iv (p4 &&& (3 : Int32)), rv ob10, .unset, .unset, .unset, .unset] [])) _
  obtain ⟨T14, h14, X14, e14, Ex14, Ax14, Dx14, Ux14, st14⟩ := newO X12 hx hZ hown (wd hw 9 rfl) (wd hw 10 rfl) (wd hw 11 rfl) rfl (g := (mkF m 82 #[iv p0, iv p1, iv p2, iv p3, iv p4, iv (own_pos p0), iv (own_pos p1), iv (own_pos p2), iv (own_pos p3), iv (p4 &&& (3 : Int32)), rv ob10, .unset, .unset, .unset, .unset] [])) rfl (hb hby at_82) (by decide) (by decide)
  obtain ⟨ob14, g14⟩ : ∃ z, z = T12.heap.size := ⟨_, rfl⟩
  rw [← g14] at Ax14 Dx14 Ux14 st14
  have ne15 : ob10 ≠ ob14 := Nat.ne_of_lt (Nat.lt_of_lt_of_le p12_1.lt (Nat.le_of_eq g14.symm))
  have Z14 : n0 ≤ h14.size := Nat.le_trans Z12 Ex14.1
  have ge14 : n0 ≤ ob14 := Nat.le_trans Z12 (Nat.le_of_eq g14.symm)
  have Fn14_19 : Fld Z h14 ob14 "com/example/allsome/allsome/cypher/InputPosition" "line" "I" (.int 0) := Dx14 (Or.inr (wd hw 19 rfl)) (ty := .int) (by decide)
  have Fn14_21 : Fld Z h14 ob14 "com/example/allsome/allsome/cypher/InputPosition" "column" "I" (.int 0) := Dx14 (Or.inr (wd hw 21 rfl)) (ty := .int) (by decide)
  refine own_lift st14 ?_
  show own_Go p.tables e below (T14.setTop (mkF m 85 #[iv p0, iv p1, iv p2, iv p3, iv p4, iv (own_pos p0), iv (own_pos p1), iv (own_pos p2), iv (own_pos p3), iv (p4 &&& (3 : Int32)), rv ob10, .unset, .unset, .unset, .unset] [(.ref ob14)])) _
  have sg16 : ∀ t, Steps p.tables e below (T14.setTop (mkF m 90 #[iv p0, iv p1, iv p2, iv p3, iv p4, iv (own_pos p0), iv (own_pos p1), iv (own_pos p2), iv (own_pos p3), iv (p4 &&& (3 : Int32)), rv ob10, .unset, .unset, .unset, .unset] [(.int (own_pos p3)), (.int (own_pos p2)), (.ref ob14), (.ref ob14)])) t → Steps p.tables e below (T14.setTop (mkF m 85 #[iv p0, iv p1, iv p2, iv p3, iv p4, iv (own_pos p0), iv (own_pos p1), iv (own_pos p2), iv (own_pos p3), iv (p4 &&& (3 : Int32)), rv ob10, .unset, .unset, .unset, .unset] [(.ref ob14)])) t := by
    intro t k
    refine XS.dup X14.here hx rfl (hb hby at_85) rfl rfl ?_
    show Steps p.tables e below (T14.setTop (mkF m 86 #[iv p0, iv p1, iv p2, iv p3, iv p4, iv (own_pos p0), iv (own_pos p1), iv (own_pos p2), iv (own_pos p3), iv (p4 &&& (3 : Int32)), rv ob10, .unset, .unset, .unset, .unset] [(.ref ob14), (.ref ob14)])) _
    refine XS.iload X14.here hx rfl (hb hby at_86) rfl ?_
    show Steps p.tables e below (T14.setTop (mkF m 88 #[iv p0, iv p1, iv p2, iv p3, iv p4, iv (own_pos p0), iv (own_pos p1), iv (own_pos p2), iv (own_pos p3), iv (p4 &&& (3 : Int32)), rv ob10, .unset, .unset, .unset, .unset] [(.int (own_pos p2)), (.ref ob14), (.ref ob14)])) _
    refine XS.iload X14.here hx rfl (hb hby at_88) rfl ?_
    show Steps p.tables e below (T14.setTop (mkF m 90 #[iv p0, iv p1, iv p2, iv p3, iv p4, iv (own_pos p0), iv (own_pos p1), iv (own_pos p2), iv (own_pos p3), iv (p4 &&& (3 : Int32)), rv ob10, .unset, .unset, .unset, .unset] [(.int (own_pos p3)), (.int (own_pos p2)), (.ref ob14), (.ref ob14)])) _
    exact k
  refine own_lift sg16 ?_
  show own_Go p.tables e below (T14.setTop (mkF m 90 #[iv p0, iv p1, iv p2, iv p3, iv p4, iv (own_pos p0), iv (own_pos p1), iv (own_pos p2), iv (own_pos p3), iv (p4 &&& (3 : Int32)), rv ob10, .unset, .unset, .unset, .unset] [(.int (own_pos p3)), (.int (own_pos p2)), (.ref ob14), (.ref ob14)])) _
  obtain ⟨_, _, ⟨T17, Lx17, kx17, nx17⟩, -, X17, ⟨Lc17, hQ17, lx17, yx17, zx17⟩, st17⟩ := X14.specialBack hx (y := (⟨"com/example/allsome/allsome/cypher/InputPosition", "<init>", "(II)V"⟩ : MethodName)) rfl hown (mvT hZ (wd hw 12 rfl)) (mvT hZ (wd hw 13 rfl)) (mvT hZ (wd hw 14 rfl)) (by decide) (backOf (W := 1) (rmInit l Z a0 hw [] ob14 (own_pos p2) (own_pos p3) h14 n0 Z14 Fn14_19 Fn14_21 Ax14 ge14 (own_pos_ge p2) (own_pos_ge p3)) hZ (wd hw 14 rfl) (wd hw 11 rfl) (by decide) (by decide)) (g := (mkF m 90 #[iv p0, iv p1, iv p2, iv p3, iv p4, iv (own_pos p0), iv (own_pos p1), iv (own_pos p2), iv (own_pos p3), iv (p4 &&& (3 : Int32)), rv ob10, .unset, .unset, .unset, .unset] [(.int (own_pos p3)), (.int (own_pos p2)), (.ref ob14), (.ref ob14)])) rfl (by rw [hml]; rfl) (Steps.refl _) (a := ob14) (argsL := [(.int (own_pos p2)), (.int (own_pos p3))]) (rest := [(.ref ob14)]) (lenOf pd_2 rfl) rfl (by show 2 * 0 + _ ≤ _; exact Nat.le_of_eq rfl) (hb hby at_90) (fun _ _ => ⟨rfl, e14, (by decide : 2 + 0 ≤ _), (by decide : 4 + 0 ≤ _)⟩)
  dsimp only [Pt.U, Pt.locs, Pt.cells, Pt.slots] at X17 lx17 yx17 zx17 st17 hQ17
  subst lx17 yx17 zx17
  obtain ⟨rfl, N17q, p17_0, p17_1, p17_2, p17_3⟩ := hQ17
  have N17 := Fr.app N12 N17q
  have Z17 : n0 ≤ T17.heap.size := Nat.le_trans Z14 p17_0.1
  refine own_lift (fun t k => st17.trans k) ?_
  show own_Go p.tables e below (T17.setTop (mkF m 93 #[iv p0, iv p1, iv p2, iv p3, iv p4, iv (own_pos p0), iv (own_pos p1), iv (own_pos p2), iv (own_pos p3), iv (p4 &&& (3 : Int32)), rv ob10, .unset, .unset, .unset, .unset] [(.ref ob14)])) _
  have sg18 : ∀ t, Steps p.tables e below (T17.setTop (mkF m 97 #[iv p0, iv p1, iv p2, iv p3, iv p4, iv (own_pos p0), iv (own_pos p1), iv (own_pos p2), iv (own_pos p3), iv (p4 &&& (3 : Int32)), rv ob10, rv ob14, .unset, .unset, .unset] [(.ref ob10)])) t → Steps p.tables e below (T17.setTop (mkF m 93 #[iv p0, iv p1, iv p2, iv p3, iv p4, iv (own_pos p0), iv (own_pos p1), iv (own_pos p2), iv (own_pos p3), iv (p4 &&& (3 : Int32)), rv ob10, .unset, .unset, .unset, .unset] [(.ref ob14)])) t := by
    intro t k
    refine XS.astore X17.here hx rfl (hb hby at_93) rfl rfl (l' := #[iv p0, iv p1, iv p2, iv p3, iv p4, iv (own_pos p0), iv (own_pos p1), iv (own_pos p2), iv (own_pos p3), iv (p4 &&& (3 : Int32)), rv ob10, rv ob14, .unset, .unset, .unset]) rfl ?_
    show Steps p.tables e below (T17.setTop (mkF m 95 #[iv p0, iv p1, iv p2, iv p3, iv p4, iv (own_pos p0), iv (own_pos p1), iv (own_pos p2), iv (own_pos p3), iv (p4 &&& (3 : Int32)), rv ob10, rv ob14, .unset, .unset, .unset] [])) _
    refine XS.aload X17.here hx rfl (hb hby at_95) rfl rfl ?_
    show Steps p.tables e below (T17.setTop (mkF m 97 #[iv p0, iv p1, iv p2, iv p3, iv p4, iv (own_pos p0), iv (own_pos p1), iv (own_pos p2), iv (own_pos p3), iv (p4 &&& (3 : Int32)), rv ob10, rv ob14, .unset, .unset, .unset] [(.ref ob10)])) _
    exact k
  refine own_lift sg18 ?_
  show own_Go p.tables e below (T17.setTop (mkF m 97 #[iv p0, iv p1, iv p2, iv p3, iv p4, iv (own_pos p0), iv (own_pos p1), iv (own_pos p2), iv (own_pos p3), iv (p4 &&& (3 : Int32)), rv ob10, rv ob14, .unset, .unset, .unset] [(.ref ob10)])) _
  have Fc19 : Fld Z T17.heap ob10 "com/example/allsome/allsome/cypher/InputPosition" "line" "I" (.int (own_pos p0)) := ((p12_2.ext Ex14).keep p17_0 (ninS ne15 nin0))
  have Fc20 : Fld Z T17.heap ob10 "com/example/allsome/allsome/cypher/InputPosition" "column" "I" (.int (own_pos p1)) := ((p12_3.ext Ex14).keep p17_0 (ninS ne15 nin0))
  have Fc22 : Exa Z T17.heap ob10 "com/example/allsome/allsome/cypher/InputPosition" := ((p12_1.ext Ex14).keep p17_0)
  obtain ⟨cq21, kq21, q21a, q21b, q21c⟩ := isOf hZ rfl Fc22
  obtain ⟨_, _, ⟨T21, Lx21, kx21, nx21⟩, -, X21, ⟨Lc21, hQ21, lx21, yx21, zx21⟩, st21⟩ := X17.virtualBack hx (y := (⟨"com/example/allsome/allsome/cypher/InputPosition", "hashCode", "()I"⟩ : MethodName)) (z := (⟨"com/example/allsome/allsome/cypher/InputPosition", "hashCode", "()I"⟩ : MethodName)) hown (mvT hZ (wd hw 22 rfl)) (mvT hZ (wd hw 23 rfl)) (notFace_of_selects (args := #[]) (mvT hZ (wd hw 25 rfl))) (mvT hZ (wd hw 25 rfl)) (mvT hZ (wd hw 24 rfl)) (by decide) (backOf (W := 0) (rmHash l Z a0 hw [] ob10 (own_pos p0) (own_pos p1) T17.heap n0 Z17 Fc19 Fc20) hZ (wd hw 26 rfl) (wd hw 11 rfl) (by decide) (by decide)) q21a q21c (g := (mkF m 97 #[iv p0, iv p1, iv p2, iv p3, iv p4, iv (own_pos p0), iv (own_pos p1), iv (own_pos p2), iv (own_pos p3), iv (p4 &&& (3 : Int32)), rv ob10, rv ob14, .unset, .unset, .unset] [(.ref ob10)])) rfl (by rw [hml]; rfl) (Steps.refl _) (argsL := []) (rest := []) (lenOf pd_3 rfl) rfl (by show 2 * 0 + _ ≤ _; exact Nat.le_of_eq rfl) (hb hby at_97) (fun _ _ => ⟨rfl, rfl, (by decide : 2 + 0 ≤ _), (by decide : 4 + 0 ≤ _)⟩)
  dsimp only [Pt.U, Pt.locs, Pt.cells, Pt.slots] at X21 lx21 yx21 zx21 st21 hQ21
  subst lx21 yx21 zx21
  obtain ⟨rfl, N21q, e21⟩ := hQ21
  have N21 := Fr.app N17 N21q
  refine own_lift (fun t k => st21.trans k) ?_
  show own_Go p.tables e below (T21.setTop (mkF m 100 #[iv p0, iv p1, iv p2, iv p3, iv p4, iv (own_pos p0), iv (own_pos p1), iv (own_pos p2), iv (own_pos p3), iv (p4 &&& (3 : Int32)), rv ob10, rv ob14, .unset, .unset, .unset] [(.int (((31 : Int32) * (own_pos p0)) + (own_pos p1)))])) _
  have sg23 : ∀ t, Steps p.tables e below (T21.setTop (mkF m 104 #[iv p0, iv p1, iv p2, iv p3, iv p4, iv (own_pos p0), iv (own_pos p1), iv (own_pos p2), iv (own_pos p3), iv (p4 &&& (3 : Int32)), rv ob10, rv ob14, iv (((31 : Int32) * (own_pos p0)) + (own_pos p1)), .unset, .unset] [(.ref ob10)])) t → Steps p.tables e below (T21.setTop (mkF m 100 #[iv p0, iv p1, iv p2, iv p3, iv p4, iv (own_pos p0), iv (own_pos p1), iv (own_pos p2), iv (own_pos p3), iv (p4 &&& (3 : Int32)), rv ob10, rv ob14, .unset, .unset, .unset] [(.int (((31 : Int32) * (own_pos p0)) + (own_pos p1)))])) t := by
    intro t k
    refine XS.istore X21.here hx rfl (hb hby at_100) rfl (l' := #[iv p0, iv p1, iv p2, iv p3, iv p4, iv (own_pos p0), iv (own_pos p1), iv (own_pos p2), iv (own_pos p3), iv (p4 &&& (3 : Int32)), rv ob10, rv ob14, iv (((31 : Int32) * (own_pos p0)) + (own_pos p1)), .unset, .unset]) rfl ?_
    show Steps p.tables e below (T21.setTop (mkF m 102 #[iv p0, iv p1, iv p2, iv p3, iv p4, iv (own_pos p0), iv (own_pos p1), iv (own_pos p2), iv (own_pos p3), iv (p4 &&& (3 : Int32)), rv ob10, rv ob14, iv (((31 : Int32) * (own_pos p0)) + (own_pos p1)), .unset, .unset] [])) _
    refine XS.aload X21.here hx rfl (hb hby at_102) rfl rfl ?_
    show Steps p.tables e below (T21.setTop (mkF m 104 #[iv p0, iv p1, iv p2, iv p3, iv p4, iv (own_pos p0), iv (own_pos p1), iv (own_pos p2), iv (own_pos p3), iv (p4 &&& (3 : Int32)), rv ob10, rv ob14, iv (((31 : Int32) * (own_pos p0)) + (own_pos p1)), .unset, .unset] [(.ref ob10)])) _
    exact k
  refine own_lift sg23 ?_
  show own_Go p.tables e below (T21.setTop (mkF m 104 #[iv p0, iv p1, iv p2, iv p3, iv p4, iv (own_pos p0), iv (own_pos p1), iv (own_pos p2), iv (own_pos p3), iv (p4 &&& (3 : Int32)), rv ob10, rv ob14, iv (((31 : Int32) * (own_pos p0)) + (own_pos p1)), .unset, .unset] [(.ref ob10)])) _
  obtain ⟨cq24, kq24, q24a, q24b, q24c⟩ := isOf hZ e21 Fc22
  obtain ⟨_, _, ⟨T24, Lx24, kx24, nx24⟩, -, X24, ⟨Lc24, hQ24, lx24, yx24, zx24⟩, st24⟩ := X21.virtualBack hx (y := (⟨"com/example/allsome/allsome/cypher/InputPosition", "hashCode", "()I"⟩ : MethodName)) (z := (⟨"com/example/allsome/allsome/cypher/InputPosition", "hashCode", "()I"⟩ : MethodName)) hown (mvT hZ (wd hw 22 rfl)) (mvT hZ (wd hw 23 rfl)) (notFace_of_selects (args := #[]) (mvT hZ (wd hw 25 rfl))) (mvT hZ (wd hw 25 rfl)) (mvT hZ (wd hw 24 rfl)) (by decide) (backOf (W := 0) (rmHash l Z a0 hw [] ob10 (own_pos p0) (own_pos p1) T17.heap n0 Z17 Fc19 Fc20) hZ (wd hw 26 rfl) (wd hw 11 rfl) (by decide) (by decide)) q24a q24c (g := (mkF m 104 #[iv p0, iv p1, iv p2, iv p3, iv p4, iv (own_pos p0), iv (own_pos p1), iv (own_pos p2), iv (own_pos p3), iv (p4 &&& (3 : Int32)), rv ob10, rv ob14, iv (((31 : Int32) * (own_pos p0)) + (own_pos p1)), .unset, .unset] [(.ref ob10)])) rfl (by rw [hml]; rfl) (Steps.refl _) (argsL := []) (rest := []) (lenOf pd_3 rfl) rfl (by show 2 * 0 + _ ≤ _; exact Nat.le_of_eq rfl) (hb hby at_104) (fun _ _ => ⟨rfl, e21, (by decide : 2 + 0 ≤ _), (by decide : 4 + 0 ≤ _)⟩)
  dsimp only [Pt.U, Pt.locs, Pt.cells, Pt.slots] at X24 lx24 yx24 zx24 st24 hQ24
  subst lx24 yx24 zx24
  obtain ⟨rfl, N24q, e24⟩ := hQ24
  have N24 := Fr.app N21 N24q
  refine own_lift (fun t k => st24.trans k) ?_
  show own_Go p.tables e below (T24.setTop (mkF m 107 #[iv p0, iv p1, iv p2, iv p3, iv p4, iv (own_pos p0), iv (own_pos p1), iv (own_pos p2), iv (own_pos p3), iv (p4 &&& (3 : Int32)), rv ob10, rv ob14, iv (((31 : Int32) * (own_pos p0)) + (own_pos p1)), .unset, .unset] [(.int (((31 : Int32) * (own_pos p0)) + (own_pos p1)))])) _
  have sg25 : ∀ t, Steps p.tables e below (T24.setTop (mkF m 111 #[iv p0, iv p1, iv p2, iv p3, iv p4, iv (own_pos p0), iv (own_pos p1), iv (own_pos p2), iv (own_pos p3), iv (p4 &&& (3 : Int32)), rv ob10, rv ob14, iv (((31 : Int32) * (own_pos p0)) + (own_pos p1)), iv (((31 : Int32) * (own_pos p0)) + (own_pos p1)), .unset] [(.ref ob14)])) t → Steps p.tables e below (T24.setTop (mkF m 107 #[iv p0, iv p1, iv p2, iv p3, iv p4, iv (own_pos p0), iv (own_pos p1), iv (own_pos p2), iv (own_pos p3), iv (p4 &&& (3 : Int32)), rv ob10, rv ob14, iv (((31 : Int32) * (own_pos p0)) + (own_pos p1)), .unset, .unset] [(.int (((31 : Int32) * (own_pos p0)) + (own_pos p1)))])) t := by
    intro t k
    refine XS.istore X24.here hx rfl (hb hby at_107) rfl (l' := #[iv p0, iv p1, iv p2, iv p3, iv p4, iv (own_pos p0), iv (own_pos p1), iv (own_pos p2), iv (own_pos p3), iv (p4 &&& (3 : Int32)), rv ob10, rv ob14, iv (((31 : Int32) * (own_pos p0)) + (own_pos p1)), iv (((31 : Int32) * (own_pos p0)) + (own_pos p1)), .unset]) rfl ?_
    show Steps p.tables e below (T24.setTop (mkF m 109 #[iv p0, iv p1, iv p2, iv p3, iv p4, iv (own_pos p0), iv (own_pos p1), iv (own_pos p2), iv (own_pos p3), iv (p4 &&& (3 : Int32)), rv ob10, rv ob14, iv (((31 : Int32) * (own_pos p0)) + (own_pos p1)), iv (((31 : Int32) * (own_pos p0)) + (own_pos p1)), .unset] [])) _
    refine XS.aload X24.here hx rfl (hb hby at_109) rfl rfl ?_
    show Steps p.tables e below (T24.setTop (mkF m 111 #[iv p0, iv p1, iv p2, iv p3, iv p4, iv (own_pos p0), iv (own_pos p1), iv (own_pos p2), iv (own_pos p3), iv (p4 &&& (3 : Int32)), rv ob10, rv ob14, iv (((31 : Int32) * (own_pos p0)) + (own_pos p1)), iv (((31 : Int32) * (own_pos p0)) + (own_pos p1)), .unset] [(.ref ob14)])) _
    exact k
  refine own_lift sg25 ?_
  show own_Go p.tables e below (T24.setTop (mkF m 111 #[iv p0, iv p1, iv p2, iv p3, iv p4, iv (own_pos p0), iv (own_pos p1), iv (own_pos p2), iv (own_pos p3), iv (p4 &&& (3 : Int32)), rv ob10, rv ob14, iv (((31 : Int32) * (own_pos p0)) + (own_pos p1)), iv (((31 : Int32) * (own_pos p0)) + (own_pos p1)), .unset] [(.ref ob14)])) _
  obtain ⟨cq26, kq26, q26a, q26b, q26c⟩ := isOf hZ e24 p17_1
  obtain ⟨_, _, ⟨T26, Lx26, kx26, nx26⟩, -, X26, ⟨Lc26, hQ26, lx26, yx26, zx26⟩, st26⟩ := X24.virtualBack hx (y := (⟨"com/example/allsome/allsome/cypher/InputPosition", "hashCode", "()I"⟩ : MethodName)) (z := (⟨"com/example/allsome/allsome/cypher/InputPosition", "hashCode", "()I"⟩ : MethodName)) hown (mvT hZ (wd hw 22 rfl)) (mvT hZ (wd hw 23 rfl)) (notFace_of_selects (args := #[]) (mvT hZ (wd hw 25 rfl))) (mvT hZ (wd hw 25 rfl)) (mvT hZ (wd hw 24 rfl)) (by decide) (backOf (W := 0) (rmHash l Z a0 hw [] ob14 (own_pos p2) (own_pos p3) T17.heap n0 Z17 p17_2 p17_3) hZ (wd hw 26 rfl) (wd hw 11 rfl) (by decide) (by decide)) q26a q26c (g := (mkF m 111 #[iv p0, iv p1, iv p2, iv p3, iv p4, iv (own_pos p0), iv (own_pos p1), iv (own_pos p2), iv (own_pos p3), iv (p4 &&& (3 : Int32)), rv ob10, rv ob14, iv (((31 : Int32) * (own_pos p0)) + (own_pos p1)), iv (((31 : Int32) * (own_pos p0)) + (own_pos p1)), .unset] [(.ref ob14)])) rfl (by rw [hml]; rfl) (Steps.refl _) (argsL := []) (rest := []) (lenOf pd_3 rfl) rfl (by show 2 * 0 + _ ≤ _; exact Nat.le_of_eq rfl) (hb hby at_111) (fun _ _ => ⟨rfl, e24, (by decide : 2 + 0 ≤ _), (by decide : 4 + 0 ≤ _)⟩)
  dsimp only [Pt.U, Pt.locs, Pt.cells, Pt.slots] at X26 lx26 yx26 zx26 st26 hQ26
  subst lx26 yx26 zx26
  obtain ⟨rfl, N26q, e26⟩ := hQ26
  have N26 := Fr.app N24 N26q
  refine own_lift (fun t k => st26.trans k) ?_
  show own_Go p.tables e below (T26.setTop (mkF m 114 #[iv p0, iv p1, iv p2, iv p3, iv p4, iv (own_pos p0), iv (own_pos p1), iv (own_pos p2), iv (own_pos p3), iv (p4 &&& (3 : Int32)), rv ob10, rv ob14, iv (((31 : Int32) * (own_pos p0)) + (own_pos p1)), iv (((31 : Int32) * (own_pos p0)) + (own_pos p1)), .unset] [(.int (((31 : Int32) * (own_pos p2)) + (own_pos p3)))])) _
  have sg27 : ∀ t, Steps p.tables e below (T26.setTop (mkF m 129 #[iv p0, iv p1, iv p2, iv p3, iv p4, iv (own_pos p0), iv (own_pos p1), iv (own_pos p2), iv (own_pos p3), iv (p4 &&& (3 : Int32)), rv ob10, rv ob14, iv (((31 : Int32) * (own_pos p0)) + (own_pos p1)), iv (((31 : Int32) * (own_pos p0)) + (own_pos p1)), iv (((31 : Int32) * (own_pos p2)) + (own_pos p3))] [(.ref ob14), (.ref ob10)])) t → Steps p.tables e below (T26.setTop (mkF m 114 #[iv p0, iv p1, iv p2, iv p3, iv p4, iv (own_pos p0), iv (own_pos p1), iv (own_pos p2), iv (own_pos p3), iv (p4 &&& (3 : Int32)), rv ob10, rv ob14, iv (((31 : Int32) * (own_pos p0)) + (own_pos p1)), iv (((31 : Int32) * (own_pos p0)) + (own_pos p1)), .unset] [(.int (((31 : Int32) * (own_pos p2)) + (own_pos p3)))])) t := by
    intro t k
    refine XS.istore X26.here hx rfl (hb hby at_114) rfl (l' := #[iv p0, iv p1, iv p2, iv p3, iv p4, iv (own_pos p0), iv (own_pos p1), iv (own_pos p2), iv (own_pos p3), iv (p4 &&& (3 : Int32)), rv ob10, rv ob14, iv (((31 : Int32) * (own_pos p0)) + (own_pos p1)), iv (((31 : Int32) * (own_pos p0)) + (own_pos p1)), iv (((31 : Int32) * (own_pos p2)) + (own_pos p3))]) rfl ?_
    show Steps p.tables e below (T26.setTop (mkF m 116 #[iv p0, iv p1, iv p2, iv p3, iv p4, iv (own_pos p0), iv (own_pos p1), iv (own_pos p2), iv (own_pos p3), iv (p4 &&& (3 : Int32)), rv ob10, rv ob14, iv (((31 : Int32) * (own_pos p0)) + (own_pos p1)), iv (((31 : Int32) * (own_pos p0)) + (own_pos p1)), iv (((31 : Int32) * (own_pos p2)) + (own_pos p3))] [])) _
    refine XS.iload X26.here hx rfl (hb hby at_116) rfl ?_
    show Steps p.tables e below (T26.setTop (mkF m 118 #[iv p0, iv p1, iv p2, iv p3, iv p4, iv (own_pos p0), iv (own_pos p1), iv (own_pos p2), iv (own_pos p3), iv (p4 &&& (3 : Int32)), rv ob10, rv ob14, iv (((31 : Int32) * (own_pos p0)) + (own_pos p1)), iv (((31 : Int32) * (own_pos p0)) + (own_pos p1)), iv (((31 : Int32) * (own_pos p2)) + (own_pos p3))] [(.int (((31 : Int32) * (own_pos p0)) + (own_pos p1)))])) _
    refine XS.iload X26.here hx rfl (hb hby at_118) rfl ?_
    show Steps p.tables e below (T26.setTop (mkF m 120 #[iv p0, iv p1, iv p2, iv p3, iv p4, iv (own_pos p0), iv (own_pos p1), iv (own_pos p2), iv (own_pos p3), iv (p4 &&& (3 : Int32)), rv ob10, rv ob14, iv (((31 : Int32) * (own_pos p0)) + (own_pos p1)), iv (((31 : Int32) * (own_pos p0)) + (own_pos p1)), iv (((31 : Int32) * (own_pos p2)) + (own_pos p3))] [(.int (((31 : Int32) * (own_pos p0)) + (own_pos p1))), (.int (((31 : Int32) * (own_pos p0)) + (own_pos p1)))])) _
    refine XS.icmpYes X26.here hx rfl (pc0 := 120) (pc' := 125) rfl (hb hby at_120) rfl (teq (rfl : (((31 : Int32) * (own_pos p0)) + (own_pos p1)) = (((31 : Int32) * (own_pos p0)) + (own_pos p1)))).1 (by decide) (by decide) ?_
    show Steps p.tables e below (T26.setTop (mkF m 125 #[iv p0, iv p1, iv p2, iv p3, iv p4, iv (own_pos p0), iv (own_pos p1), iv (own_pos p2), iv (own_pos p3), iv (p4 &&& (3 : Int32)), rv ob10, rv ob14, iv (((31 : Int32) * (own_pos p0)) + (own_pos p1)), iv (((31 : Int32) * (own_pos p0)) + (own_pos p1)), iv (((31 : Int32) * (own_pos p2)) + (own_pos p3))] [])) _
    refine XS.aload X26.here hx rfl (hb hby at_125) rfl rfl ?_
    show Steps p.tables e below (T26.setTop (mkF m 127 #[iv p0, iv p1, iv p2, iv p3, iv p4, iv (own_pos p0), iv (own_pos p1), iv (own_pos p2), iv (own_pos p3), iv (p4 &&& (3 : Int32)), rv ob10, rv ob14, iv (((31 : Int32) * (own_pos p0)) + (own_pos p1)), iv (((31 : Int32) * (own_pos p0)) + (own_pos p1)), iv (((31 : Int32) * (own_pos p2)) + (own_pos p3))] [(.ref ob10)])) _
    refine XS.aload X26.here hx rfl (hb hby at_127) rfl rfl ?_
    show Steps p.tables e below (T26.setTop (mkF m 129 #[iv p0, iv p1, iv p2, iv p3, iv p4, iv (own_pos p0), iv (own_pos p1), iv (own_pos p2), iv (own_pos p3), iv (p4 &&& (3 : Int32)), rv ob10, rv ob14, iv (((31 : Int32) * (own_pos p0)) + (own_pos p1)), iv (((31 : Int32) * (own_pos p0)) + (own_pos p1)), iv (((31 : Int32) * (own_pos p2)) + (own_pos p3))] [(.ref ob14), (.ref ob10)])) _
    exact k
  refine own_lift sg27 ?_
  show own_Go p.tables e below (T26.setTop (mkF m 129 #[iv p0, iv p1, iv p2, iv p3, iv p4, iv (own_pos p0), iv (own_pos p1), iv (own_pos p2), iv (own_pos p3), iv (p4 &&& (3 : Int32)), rv ob10, rv ob14, iv (((31 : Int32) * (own_pos p0)) + (own_pos p1)), iv (((31 : Int32) * (own_pos p0)) + (own_pos p1)), iv (((31 : Int32) * (own_pos p2)) + (own_pos p3))] [(.ref ob14), (.ref ob10)])) _
  obtain ⟨cq28, kq28, q28a, q28b, q28c⟩ := isOf hZ e26 Fc22
  obtain ⟨_, _, ⟨T28, Lx28, kx28, nx28⟩, -, X28, ⟨Lc28, hQ28, lx28, yx28, zx28⟩, st28⟩ := X26.virtualBack hx (y := (⟨"com/example/allsome/allsome/cypher/InputPosition", "equals", "(Ljava/lang/Object;)Z"⟩ : MethodName)) (z := (⟨"com/example/allsome/allsome/cypher/InputPosition", "equals", "(Ljava/lang/Object;)Z"⟩ : MethodName)) hown (mvT hZ (wd hw 27 rfl)) (mvT hZ (wd hw 28 rfl)) (notFace_of_selects (args := #[]) (mvT hZ (wd hw 30 rfl))) (mvT hZ (wd hw 30 rfl)) (mvT hZ (wd hw 29 rfl)) (by decide) (backOf (W := 0) (rmEqL l Z a0 hw [] ob10 ob14 (own_pos p0) (own_pos p1) (own_pos p2) (own_pos p3) T17.heap n0 Z17 Fc19 Fc20 p17_2 p17_3 p17_1 hl) hZ (wd hw 31 rfl) (wd hw 11 rfl) (by decide) (by decide)) q28a q28c (g := (mkF m 129 #[iv p0, iv p1, iv p2, iv p3, iv p4, iv (own_pos p0), iv (own_pos p1), iv (own_pos p2), iv (own_pos p3), iv (p4 &&& (3 : Int32)), rv ob10, rv ob14, iv (((31 : Int32) * (own_pos p0)) + (own_pos p1)), iv (((31 : Int32) * (own_pos p0)) + (own_pos p1)), iv (((31 : Int32) * (own_pos p2)) + (own_pos p3))] [(.ref ob14), (.ref ob10)])) rfl (by rw [hml]; rfl) (Steps.refl _) (argsL := [(.ref ob14)]) (rest := []) (lenOf pd_4 rfl) rfl (by show 2 * 0 + _ ≤ _; exact Nat.le_of_eq rfl) (hb hby at_129) (fun _ _ => ⟨rfl, e26, (by decide : 2 + 0 ≤ _), (by decide : 4 + 0 ≤ _)⟩)
  dsimp only [Pt.U, Pt.locs, Pt.cells, Pt.slots] at X28 lx28 yx28 zx28 st28 hQ28
  subst lx28 yx28 zx28
  obtain ⟨rfl, N28q, e28⟩ := hQ28
  have N28 := Fr.app N26 N28q
  refine own_lift (fun t k => st28.trans k) ?_
  show own_Go p.tables e below (T28.setTop (mkF m 132 #[iv p0, iv p1, iv p2, iv p3, iv p4, iv (own_pos p0), iv (own_pos p1), iv (own_pos p2), iv (own_pos p3), iv (p4 &&& (3 : Int32)), rv ob10, rv ob14, iv (((31 : Int32) * (own_pos p0)) + (own_pos p1)), iv (((31 : Int32) * (own_pos p0)) + (own_pos p1)), iv (((31 : Int32) * (own_pos p2)) + (own_pos p3))] [(.int 0)])) _
  have sg29 : ∀ t, Steps p.tables e below (T28.setTop (mkF m 145 #[iv p0, iv p1, iv p2, iv p3, iv p4, iv (own_pos p0), iv (own_pos p1), iv (own_pos p2), iv (own_pos p3), iv (p4 &&& (3 : Int32)), rv ob10, rv ob14, iv (((31 : Int32) * (own_pos p0)) + (own_pos p1)), iv (((31 : Int32) * (own_pos p0)) + (own_pos p1)), iv (((31 : Int32) * (own_pos p2)) + (own_pos p3))] [(.int 1)])) t → Steps p.tables e below (T28.setTop (mkF m 132 #[iv p0, iv p1, iv p2, iv p3, iv p4, iv (own_pos p0), iv (own_pos p1), iv (own_pos p2), iv (own_pos p3), iv (p4 &&& (3 : Int32)), rv ob10, rv ob14, iv (((31 : Int32) * (own_pos p0)) + (own_pos p1)), iv (((31 : Int32) * (own_pos p0)) + (own_pos p1)), iv (((31 : Int32) * (own_pos p2)) + (own_pos p3))] [(.int 0)])) t := by
    intro t k
    refine XS.ifYes X28.here hx rfl (pc0 := 132) (pc' := 144) rfl (hb hby at_132) rfl ((if0 _ _).trans (teq (by decide : (0 : Int32) = (0 : Int32))).1) (by decide) (by decide) ?_
    show Steps p.tables e below (T28.setTop (mkF m 144 #[iv p0, iv p1, iv p2, iv p3, iv p4, iv (own_pos p0), iv (own_pos p1), iv (own_pos p2), iv (own_pos p3), iv (p4 &&& (3 : Int32)), rv ob10, rv ob14, iv (((31 : Int32) * (own_pos p0)) + (own_pos p1)), iv (((31 : Int32) * (own_pos p0)) + (own_pos p1)), iv (((31 : Int32) * (own_pos p2)) + (own_pos p3))] [])) _
    refine XS.iconst X28.here hx rfl (hb hby at_144) ?_
    show Steps p.tables e below (T28.setTop (mkF m 145 #[iv p0, iv p1, iv p2, iv p3, iv p4, iv (own_pos p0), iv (own_pos p1), iv (own_pos p2), iv (own_pos p3), iv (p4 &&& (3 : Int32)), rv ob10, rv ob14, iv (((31 : Int32) * (own_pos p0)) + (own_pos p1)), iv (((31 : Int32) * (own_pos p0)) + (own_pos p1)), iv (((31 : Int32) * (own_pos p2)) + (own_pos p3))] [(.int 1)])) _
    exact k
  refine own_lift sg29 ?_
  show own_Go p.tables e below (T28.setTop (mkF m 145 #[iv p0, iv p1, iv p2, iv p3, iv p4, iv (own_pos p0), iv (own_pos p1), iv (own_pos p2), iv (own_pos p3), iv (p4 &&& (3 : Int32)), rv ob10, rv ob14, iv (((31 : Int32) * (own_pos p0)) + (own_pos p1)), iv (((31 : Int32) * (own_pos p0)) + (own_pos p1)), iv (((31 : Int32) * (own_pos p2)) + (own_pos p3))] [(.int 1)])) _
  obtain ⟨fs, hr, hrun, hended, hW, hsame⟩ := X28.leave (v := some (.int 1)) (fun h => by rw [Bd.returns] at h; cases h)
  refine ⟨_, _, ?_, hrun, hended, _, _, rfl, ?_, ⟨_, rfl⟩, hW, hsame.mono (by decide) (by decide)⟩
  · exact retN X28 hx (t := .boolean) Bd.returns (by simp) (hb hby at_145) hr
  · show Q0 Z  h0 n0 _ T28.heap _
    rw [e28]
    exact ⟨rfl, N28⟩
set_option maxRecDepth 65536 in
theorem rm0 (l : Launch) (Z : State) (a0 : Array Value) (hw : ∀ d ∈ tables_1, d.before a0 Z = true) (ws : List Jvm.Cond) (p0 : Int32) (p1 : Int32) (p2 : Int32) (p3 : Int32) (p4 : Int32) (h0 : Heap) (n0 : Nat) (Z0 : n0 ≤ h0.size)   :
    MetFree l x (head1 (Jvm.Cond.code x code maxLocals ret :: ws) room_1) (fun a U => a = #[(.int p0), (.int p1), (.int p2), (.int p3), (.int p4)] ∧ Z.Warmed39 U.vm ∧ U.heap = h0) (fun _ _ _ _ _ => True) (fun _ U o U' => ∃ v L, o = .returned v ∧ Q0 Z h0 n0 v U'.heap L ∧ FrameEnd U o U' L 16 128) := by
  by_cases m0 : (p4 &&& (3 : Int32)) = (0 : Int32)
  · exact rm0_0 l Z a0 hw ws p0 p1 p2 p3 p4  h0 n0 Z0  m0
  · by_cases m1 : (p4 &&& (3 : Int32)) = (1 : Int32)
    · by_cases hc : (own_pos p1) = (own_pos p3)
      · exact rm0_1e l Z a0 hw ws p0 p1 p2 p3 p4  h0 n0 Z0  m0 m1 hc
      · exact rm0_1n l Z a0 hw ws p0 p1 p2 p3 p4  h0 n0 Z0  m0 m1 hc
    · by_cases m2 : (p4 &&& (3 : Int32)) = (2 : Int32)
      · by_cases hl : (own_pos p0) = (own_pos p2)
        · exact rm0_2e l Z a0 hw ws p0 p1 p2 p3 p4  h0 n0 Z0  m0 m1 m2 hl
        · exact rm0_2n l Z a0 hw ws p0 p1 p2 p3 p4  h0 n0 Z0  m0 m1 m2 hl
      · by_cases hl : (own_pos p0) = (own_pos p2)
        · by_cases hc : (own_pos p1) = (own_pos p3)
          · exact rm0_3e l Z a0 hw ws p0 p1 p2 p3 p4  h0 n0 Z0  m0 m1 m2 hl hc
          · exact rm0_3c l Z a0 hw ws p0 p1 p2 p3 p4  h0 n0 Z0  m0 m1 m2 hl hc
        · exact rm0_3n l Z a0 hw ws p0 p1 p2 p3 p4  h0 n0 Z0  m0 m1 m2 hl
set_option maxRecDepth 65536 in
set_option maxHeartbeats 40000000 in
theorem comes_1 {Post : Tables → Env → Array Value → State → Outcome → State → Prop} (hpost : ∀ tb e args s v u, (limb_1_1.after args s (.returned v) u = true ∧ limb_1_2.after args s (.returned v) u = true ∧ True) → FrameEnd s (.returned v) u (Jvm.fieldLocs frame_1_writes args s ++ Jvm.arrayLocs frame_1_arrays args s ++ Jvm.staticLocs frame_1_statics s) 16 128 → Post tb e args s (.returned v) u) :
    ArmFor flags0 classFile x code maxLocals ret World_1 tables_1 room_1 Calls_1 rest_1 Pre_1 Post := by
  intro l hfl _ _ p e ha hc hk s m args below hf hA hF happ hP
  obtain ⟨hcalls, hrest, hpre⟩ := hP
  obtain ⟨-, -, -, hnamed, -, -, -, hat⟩ := (Spec.applies_iff hf).mp happ
  obtain ⟨hg, hn⟩ := and_e (Cond.before_iff.mp (show (Jvm.Cond.and given_1 narrow_1).before args s = true from hpre))
  obtain ⟨gv0, gr0⟩ := and_e hg
  obtain ⟨gv1, gr1⟩ := and_e gr0
  obtain ⟨gv2, gr2⟩ := and_e gr1
  obtain ⟨gv3, gr3⟩ := and_e gr2
  obtain ⟨gv4, gr4⟩ := and_e gr3
  obtain ⟨w0, w1, w2, w3, w4, rfl⟩ : ∃ w0 w1 w2 w3 w4 : Value, args = #[w0, w1, w2, w3, w4] := by
    have hs : args.size = 5 := by simpa [Cond.value, given_1] using gv0
    obtain ⟨L⟩ := args
    match L, hs with
    | [w0, w1, w2, w3, w4], _ => exact ⟨w0, w1, w2, w3, w4, rfl⟩
  have hw := fun d (hd : d ∈ tables_1) => atoms_spec (ws := Jvm.Cond.code x code maxLocals ret :: tables_1) hat d (List.mem_cons_of_mem _ hd)
  have hfit : Fit s := fun {y c} hc i hi => by
    obtain ⟨ha, rfl⟩ := Array.getElem?_eq_some_iff.mp hc
    have q := List.all_eq_true.mp ((Array.all_eq_true_iff_forall_mem.mp hF) _ (Array.getElem_mem ha)) i (List.mem_range.mpr hi)
    simpa [Array.getElem?_eq_getElem hi] using q
  obtain ⟨i0, ei0⟩ := is_v gv1
  obtain rfl : w0 = (.int i0) := Option.some.inj ei0
  obtain ⟨i1, ei1⟩ := is_v gv2
  obtain rfl : w1 = (.int i1) := Option.some.inj ei1
  obtain ⟨i2, ei2⟩ := is_v gv3
  obtain rfl : w2 = (.int i2) := Option.some.inj ei2
  obtain ⟨i3, ei3⟩ := is_v gv4
  obtain rfl : w3 = (.int i3) := Option.some.inj ei3
  obtain ⟨i4, ei4⟩ := is_v gr4
  obtain rfl : w4 = (.int i4) := Option.some.inj ei4
  obtain ⟨n, o, h1, h2, h3, _, L, rfl, ⟨rfl, N⟩, hq⟩ := rm0 l s _ hw tables_1 i0 i1 i2 i3 i4  s.heap s.heap.size (Nat.le_refl _)  p e ha hc hk s m _ below hf ((Spec.applies_iff_loose hf).mp happ).1 ⟨rfl, State.Warmed39.refl s, rfl⟩ trivial
  refine ⟨n, _, h1, h2, h3, hpost _ _ _ _ _ _ ⟨Cond.after_iff.mpr rfl, Cond.after_iff.mpr (eq_i res_at (Term.int_eval (1)) rfl), trivial⟩ ⟨hq.1, hq.2.1, (hq.2.2.sift fun y hy => Or.inr (N y hy)).mono (by decide) (by decide)⟩⟩
theorem main_1_1 : Claimed_1_1 := comes_1 fun _ _ _ _ _ _ h hF => ⟨h.1, hF⟩
theorem main_1_2 : Claimed_1_2 := comes_1 fun _ _ _ _ _ _ h hF => ⟨h.2.1, hF⟩
end Jvm.Pilot.@@N@@
namespace Jvm.Pilot.@@N@@
open Jvm Jvm.ClassFile Sem Op Lib Jvm.Free Jvm.Stand Jvm.Pilot.@@N@@.Jvm.D
/-! MADE BY PROGRAM (witnessworld.py) out of the Statement's table words and the real class files: 8 classes; the members and pool entries that the words name. The judged class is class 1, her method 2. -/
namespace start1
open Jvm.ClassFile
def u (s : String) : CpInfo := .utf8 (stringToUtf16 s)
/-- a pool by its gaps: so many unusable entries, then the entry; so many at the end -/
def gap : Nat → List CpInfo → List CpInfo
  | 0, r => r
  | n + 1, r => .unusable :: gap n r
def poolList (es : List (Nat × CpInfo)) (last : Nat) : List CpInfo := es.foldr (fun e r => gap e.1 (e.2 :: r)) (gap last [])
def pool (es : List (Nat × CpInfo)) (last : Nat) : Array CpInfo := ⟨poolList es last⟩
def fileOf (pool : Array CpInfo) (this : Nat) (attrs : Array Attribute := #[]) (ms : Array MethodInfo := #[]) (fl : Nat := 33) (sup : Nat := 0) (ifs : Array Nat := #[]) (fds : Array FieldInfo := #[]) : ClassFile where
  minorVersion := 0
  majorVersion := 65
  constantPool := pool
  accessFlags := fl
  thisClass := this
  superClass := sup
  interfaces := ifs
  fields := fds
  methods := ms
  attributes := attrs
def plain (name : String) (sup : Option ClassId) : Class where
  name := name
  kind := .ordinary
  loader := none
  accessFlags := 33
  super := sup
  interfaces := #[]
  cf := none
  fields := #[]
  methods := #[]
  instanceTypes := #[]
  staticTypes := #[]
  resolved := #[]
  callSites := []
  init := .initialized
  statics := none
  mirror := none

def pool0 : Array CpInfo := pool [(5, u "<init>"), (0, u "()V"), (1, .class_ 10), (1, u "java/lang/Object")] 113

def k0c0 : Code := { maxStack := 0, maxLocals := 1, code := object_method_1_code, exceptionTable := #[], attributes := #[] }
def k0m0 : Method := { name := "<init>", desc := "()V", sig := { parameters := [], returnType := none }, accessFlags := 1, code := some k0c0 }
/-- java/lang/Object -/
def k0 : Class := { plain "java/lang/Object" none with
  accessFlags := 33
  interfaces := #[]
  cf := some (fileOf pool0 8 #[] #[{ accessFlags := 1, nameIndex := 5, descriptorIndex := 6, attributes := #[] }] 33 0 #[] #[])
  fields := #[]
  methods := #[k0m0]
  instanceTypes := #[]
  staticTypes := #[]
  resolved := Array.replicate 124 none
  statics := none }

def pool1 : Array CpInfo := pool [(2, .class_ 4), (1, u "java/lang/Object"), (0, u "<init>"), (0, u "()V"), (0, .integer 2147483647), (0, .methodref 9 10), (0, .class_ 11), (0, .nameAndType 12 13), (0, u "java/lang/Math"), (0, u "max"), (0, u "(II)I"), (0, .methodref 15 16), (0, .class_ 17), (0, .nameAndType 18 19), (0, u "com/example/allsome/allsome/cypher/InputPositionHashCodePinLaw"), (0, u "pos"), (0, u "(I)I"), (0, .class_ 21), (0, u "com/example/allsome/allsome/cypher/InputPosition"), (0, .methodref 20 23), (0, .nameAndType 5 24), (0, u "(II)V"), (0, .methodref 20 26), (0, .nameAndType 27 28), (0, u "hashCode"), (0, u "()I"), (0, .methodref 20 30), (0, .nameAndType 31 32), (0, u "equals"), (0, u "(Ljava/lang/Object;)Z"), (2, u "law"), (0, u "(IIIII)Z")] 3

def k1m0 : Method := { name := "<init>", desc := "()V", sig := { parameters := [], returnType := none }, accessFlags := 1, code := none }
def k1c1 : Code := { maxStack := 3, maxLocals := 1, code := method_2_code, exceptionTable := #[], attributes := #[] }
def k1m1 : Method := { name := "pos", desc := "(I)I", sig := { parameters := [.int], returnType := some .int }, accessFlags := 10, code := some k1c1 }
def k1c2 : Code := { maxStack := 4, maxLocals := 15, code := code, exceptionTable := #[], attributes := #[] }
def k1m2 : Method := { name := "law", desc := "(IIIII)Z", sig := { parameters := [.int, .int, .int, .int, .int], returnType := some .boolean }, accessFlags := 9, code := some k1c2 }
/-- com/example/allsome/allsome/cypher/InputPositionHashCodePinLaw -/
def k1 : Class := { plain "com/example/allsome/allsome/cypher/InputPositionHashCodePinLaw" (some 0) with
  accessFlags := 49
  interfaces := #[]
  cf := some (fileOf pool1 15 #[] #[{ accessFlags := 1, nameIndex := 5, descriptorIndex := 6, attributes := #[] }, { accessFlags := 10, nameIndex := 18, descriptorIndex := 19, attributes := #[] }, { accessFlags := 9, nameIndex := 35, descriptorIndex := 36, attributes := #[] }] 49 2 #[] #[])
  fields := #[]
  methods := #[k1m0, k1m1, k1m2]
  instanceTypes := #[]
  staticTypes := #[]
  resolved := Array.replicate 40 none
  statics := none }

def pool2 : Array CpInfo := pool [(1, .class_ 2), (0, u "java/lang/Math"), (1, .class_ 6), (1, u "java/lang/Object"), (0, u "<init>"), (0, u "()V"), (89, .class_ 100), (1, u "java/lang/Math$RandomNumberGeneratorHolder"), (71, u "negativeZeroFloatBits"), (0, u "J"), (2, u "negativeZeroDoubleBits"), (21, u "max"), (46, u "$assertionsDisabled"), (0, u "Z"), (88, u "(II)I"), (2, u "twoToTheDoubleScaleDown"), (0, u "D"), (4, u "twoToTheDoubleScaleUp"), (9, u "E"), (3, u "PI"), (2, u "TAU"), (2, u "DEGREES_TO_RADIANS"), (0, u "RADIANS_TO_DEGREES")] 94

def k2m0 : Method := { name := "<init>", desc := "()V", sig := { parameters := [], returnType := none }, accessFlags := 2, code := none }
def k2c1 : Code := { maxStack := 2, maxLocals := 2, code := jdk_29_method_65_code, exceptionTable := #[], attributes := #[] }
def k2m1 : Method := { name := "max", desc := "(II)I", sig := { parameters := [.int, .int], returnType := some .int }, accessFlags := 9, code := some k2c1 }
/-- java/lang/Math -/
def k2 : Class := { plain "java/lang/Math" (some 0) with
  accessFlags := 49
  interfaces := #[]
  cf := some (fileOf pool2 1 #[.nestMembers #[98]] #[{ accessFlags := 2, nameIndex := 7, descriptorIndex := 8, attributes := #[] }, { accessFlags := 9, nameIndex := 198, descriptorIndex := 335, attributes := #[] }] 49 4 #[] #[{ accessFlags := 25, nameIndex := 354, descriptorIndex := 339, attributes := #[] }, { accessFlags := 25, nameIndex := 358, descriptorIndex := 339, attributes := #[] }, { accessFlags := 25, nameIndex := 361, descriptorIndex := 339, attributes := #[] }, { accessFlags := 26, nameIndex := 364, descriptorIndex := 339, attributes := #[] }, { accessFlags := 26, nameIndex := 365, descriptorIndex := 339, attributes := #[] }, { accessFlags := 26, nameIndex := 172, descriptorIndex := 173, attributes := #[] }, { accessFlags := 26, nameIndex := 176, descriptorIndex := 173, attributes := #[] }, { accessFlags := 8, nameIndex := 344, descriptorIndex := 339, attributes := #[] }, { accessFlags := 8, nameIndex := 338, descriptorIndex := 339, attributes := #[] }, { accessFlags := 4120, nameIndex := 245, descriptorIndex := 246, attributes := #[] }])
  fields := #[{ name := "E", type := .double, accessFlags := 25, slot := 0, constantValue := 0 }, { name := "PI", type := .double, accessFlags := 25, slot := 1, constantValue := 0 }, { name := "TAU", type := .double, accessFlags := 25, slot := 2, constantValue := 0 }, { name := "DEGREES_TO_RADIANS", type := .double, accessFlags := 26, slot := 3, constantValue := 0 }, { name := "RADIANS_TO_DEGREES", type := .double, accessFlags := 26, slot := 4, constantValue := 0 }, { name := "negativeZeroFloatBits", type := .long, accessFlags := 26, slot := 5, constantValue := 0 }, { name := "negativeZeroDoubleBits", type := .long, accessFlags := 26, slot := 6, constantValue := 0 }, { name := "twoToTheDoubleScaleUp", type := .double, accessFlags := 8, slot := 7, constantValue := 0 }, { name := "twoToTheDoubleScaleDown", type := .double, accessFlags := 8, slot := 8, constantValue := 0 }, { name := "$assertionsDisabled", type := .boolean, accessFlags := 4120, slot := 9, constantValue := 0 }]
  methods := #[k2m0, k2m1]
  instanceTypes := #[]
  staticTypes := #[.double, .double, .double, .double, .double, .long, .long, .double, .double, .boolean]
  resolved := Array.replicate 460 none
  statics := none }

def pool3 : Array CpInfo := pool [(1, .methodref 2 3), (0, .class_ 4), (0, .nameAndType 5 6), (0, u "java/lang/Object"), (0, u "<init>"), (0, u "()V"), (9, .fieldref 17 18), (0, .class_ 19), (0, .nameAndType 20 21), (0, u "com/example/allsome/allsome/cypher/InputPosition"), (0, u "line"), (0, u "I"), (0, .fieldref 17 23), (0, .nameAndType 24 21), (0, u "column"), (2, u "(II)V"), (3, u "()I"), (2, u "equals"), (0, u "(Ljava/lang/Object;)Z"), (0, u "hashCode")] 19

def k3c0 : Code := { maxStack := 4, maxLocals := 3, code := prog_84_method_1_code, exceptionTable := #[], attributes := #[] }
def k3m0 : Method := { name := "<init>", desc := "(II)V", sig := { parameters := [.int, .int], returnType := none }, accessFlags := 1, code := some k3c0 }
def k3c1 : Code := { maxStack := 2, maxLocals := 2, code := prog_84_method_5_code, exceptionTable := #[], attributes := #[] }
def k3m1 : Method := { name := "equals", desc := "(Ljava/lang/Object;)Z", sig := { parameters := [(.object "java/lang/Object")], returnType := some .boolean }, accessFlags := 1, code := some k3c1 }
def k3c2 : Code := { maxStack := 2, maxLocals := 1, code := prog_84_method_6_code, exceptionTable := #[], attributes := #[] }
def k3m2 : Method := { name := "hashCode", desc := "()I", sig := { parameters := [], returnType := some .int }, accessFlags := 1, code := some k3c2 }
/-- com/example/allsome/allsome/cypher/InputPosition -/
def k3 : Class := { plain "com/example/allsome/allsome/cypher/InputPosition" (some 0) with
  accessFlags := 49
  interfaces := #[]
  cf := some (fileOf pool3 17 #[] #[{ accessFlags := 1, nameIndex := 5, descriptorIndex := 27, attributes := #[] }, { accessFlags := 1, nameIndex := 34, descriptorIndex := 35, attributes := #[] }, { accessFlags := 1, nameIndex := 36, descriptorIndex := 31, attributes := #[] }] 49 2 #[] #[{ accessFlags := 18, nameIndex := 20, descriptorIndex := 21, attributes := #[] }, { accessFlags := 18, nameIndex := 24, descriptorIndex := 21, attributes := #[] }])
  fields := #[{ name := "line", type := .int, accessFlags := 18, slot := 0, constantValue := 0 }, { name := "column", type := .int, accessFlags := 18, slot := 1, constantValue := 0 }]
  methods := #[k3m0, k3m1, k3m2]
  instanceTypes := #[.int, .int]
  staticTypes := #[]
  resolved := Array.replicate 56 none
  statics := none }

def pool4 : Array CpInfo := pool [(1, u "java/lang/Cloneable"), (0, .class_ 1), (0, u "java/lang/Object"), (0, .class_ 3)] 3

/-- java/lang/Cloneable -/
def k4 : Class := { plain "java/lang/Cloneable" (some 0) with
  accessFlags := 1537
  interfaces := #[]
  cf := some (fileOf pool4 2 #[] #[] 1537 4 #[] #[])
  fields := #[]
  methods := #[]
  instanceTypes := #[]
  staticTypes := #[]
  resolved := Array.replicate 8 none
  statics := none }

def pool5 : Array CpInfo := pool [(1, u "java/io/Serializable"), (0, .class_ 1), (0, u "java/lang/Object"), (0, .class_ 3)] 3

/-- java/io/Serializable -/
def k5 : Class := { plain "java/io/Serializable" (some 0) with
  accessFlags := 1537
  interfaces := #[]
  cf := some (fileOf pool5 2 #[] #[] 1537 4 #[] #[])
  fields := #[]
  methods := #[]
  instanceTypes := #[]
  staticTypes := #[]
  resolved := Array.replicate 8 none
  statics := none }

/-- the primitive byte -/
def k6 : Class := { plain "byte" none with kind := .primitive 'B', accessFlags := 0x411 }
/-- [B -/
def k7 : Class := { plain "[B" (some 0) with kind := .array 6 .byte, interfaces := #[4, 5], accessFlags := 1041 }

def heap : Heap := #[]
def classes : Array Class := #[k0, k1, k2, k3, k4, k5, k6, k7]
def interned : List (Array UInt16 × Addr) := []
def slotsUsed : Nat := 0
def theMethod : MethodId := ⟨1, 2⟩
def args0 : Array Value := #[.int 5, .int 5, .int 5, .int 5, .int 5]
def aboutOver (below : List Frame) : State where
  vm := { classes := classes, interned := interned.toArray }
  heap := heap
  slotsUsed := slotsUsed
  threads := #[{ frames := .invoking theMethod args0 :: below }]
def below0 : List Frame := [.native { method := ⟨0, 0⟩, args := #[] }]
def about1 : State := aboutOver below0
def p0 : Program := .bare "" "" ""
def e0 : Env := launch0.env 0 0 0
theorem w_frames : about1.frames = Frame.invoking theMethod args0 :: below0 := rfl
set_option maxRecDepth 65536 in
theorem w_args : argsFit about1.vm theMethod args0 = true := by decide +kernel
set_option maxRecDepth 65536 in
theorem w_heap : heapFits about1 = true := by decide +kernel
set_option maxRecDepth 65536 in
theorem w_runnable : about1.curStatus? = some .runnable := by decide +kernel
set_option maxRecDepth 65536 in
theorem w_alone : about1.alone = true := by decide +kernel
set_option maxRecDepth 65536 in
theorem w_named : about1.methodNamed? x = some theMethod := by decide +kernel
set_option maxRecDepth 65536 in
theorem w_hears : about1.hears theMethod below0 = true := by decide +kernel
set_option maxRecDepth 65536 in
theorem w_ripe : about1.ripe theMethod args0 below0 = true := by decide +kernel
theorem w_running : about1.status = .running := rfl
set_option maxRecDepth 65536 in
theorem w_room : about1.hasRoom e0.platform room_1 = true :=
  launch0.hasRoom_least _ room_1 (by decide +kernel) (by decide +kernel) (by decide +kernel) (by decide +kernel) (by decide +kernel) (by decide +kernel)
theorem allAtoms_all (ts : List Jvm.Cond) (a : Array Jvm.Value) (st : Jvm.State) : (allAtoms ts).before a st = ts.all (fun c => c.before a st) := by
  induction ts with
  | nil => rfl
  | cons c t ih =>
    show (Jvm.Cond.and c (allAtoms t)).before a st = _
    rw [Jvm.Cond.before_and, ih, List.all_cons]
def words1 : List Jvm.Cond := Jvm.Cond.code x code maxLocals ret :: tables_1
/-- a 'code' word, met by the world's own term for the bytes: nothing is compared byte by byte -/
theorem code_word {y : MethodName} {bytes : ByteArray} {mx : Nat} {rt : Option FieldType} {a : Array Value} {s : State} {m : MethodId} {meth : Method} {c : Code} (h1 : s.methodNamed? y = some m) (h2 : s.vm.method? m = some meth) (h3 : meth.code = some c) (h4 : c.code = bytes)
    (h5 : (c.maxLocals == mx && c.exceptionTable.isEmpty && decide (c.maxStack ≤ mostOperands) && decide (meth.sig.returnType = rt) && !meth.locks && decide (parseMethodDescriptor y.desc = some meth.sig)) = true) : (Jvm.Cond.code y bytes mx rt).before a s = true := by
  simp only [Bool.and_eq_true, beq_iff_eq, Bool.not_eq_true', decide_eq_true_eq] at h5
  obtain ⟨⟨⟨⟨⟨g1, g2⟩, g3⟩, g4⟩, g5⟩, g6⟩ := h5
  simp [Cond.before, Cond.holds, Cond.value, h1, h2, h3, h4, g1, g2, g3, g4, g5, g6]
def isCode : Jvm.Cond → Bool
  | .code _ _ _ _ => true
  | _ => false
theorem all_split {L : List Jvm.Cond} {P : Jvm.Cond → Bool} (h1 : L.all (fun c => isCode c || P c) = true) (h2 : ∀ c ∈ L.filter isCode, P c = true) : L.all P = true := by
  refine List.all_eq_true.mpr fun c hc => ?_
  have h := List.all_eq_true.mp h1 c hc
  rcases Bool.eq_false_or_eq_true (isCode c) with hi | hi
  · exact h2 c (List.mem_filter.mpr ⟨hc, hi⟩)
  · simpa [hi] using h
set_option maxRecDepth 65536 in
theorem w_c0 : (Jvm.Cond.code x code maxLocals ret).before args0 about1 = true := code_word (m := ⟨1, 2⟩) (meth := k1m2) (c := k1c2) (by decide +kernel) rfl rfl rfl (by decide +kernel)
set_option maxRecDepth 65536 in
theorem w_c1 : (Jvm.Cond.code ({ cls := "com/example/allsome/allsome/cypher/InputPositionHashCodePinLaw", name := "pos", desc := "(I)I" } : Jvm.MethodName) method_2_code (1 : Nat) (Option.some Jvm.ClassFile.FieldType.int)).before args0 about1 = true := code_word (m := ⟨1, 1⟩) (meth := k1m1) (c := k1c1) (by decide +kernel) rfl rfl rfl (by decide +kernel)
set_option maxRecDepth 65536 in
theorem w_c2 : (Jvm.Cond.code ({ cls := "java/lang/Math", name := "max", desc := "(II)I" } : Jvm.MethodName) jdk_29_method_65_code (2 : Nat) (Option.some Jvm.ClassFile.FieldType.int)).before args0 about1 = true := code_word (m := ⟨2, 1⟩) (meth := k2m1) (c := k2c1) (by decide +kernel) rfl rfl rfl (by decide +kernel)
set_option maxRecDepth 65536 in
theorem w_c3 : (Jvm.Cond.code ({ cls := "com/example/allsome/allsome/cypher/InputPosition", name := "<init>", desc := "(II)V" } : Jvm.MethodName) prog_84_method_1_code (3 : Nat) (Option.none : Option Jvm.ClassFile.FieldType)).before args0 about1 = true := code_word (m := ⟨3, 0⟩) (meth := k3m0) (c := k3c0) (by decide +kernel) rfl rfl rfl (by decide +kernel)
set_option maxRecDepth 65536 in
theorem w_c4 : (Jvm.Cond.code ({ cls := "java/lang/Object", name := "<init>", desc := "()V" } : Jvm.MethodName) object_method_1_code (1 : Nat) (Option.none : Option Jvm.ClassFile.FieldType)).before args0 about1 = true := code_word (m := ⟨0, 0⟩) (meth := k0m0) (c := k0c0) (by decide +kernel) rfl rfl rfl (by decide +kernel)
set_option maxRecDepth 65536 in
theorem w_c5 : (Jvm.Cond.code ({ cls := "com/example/allsome/allsome/cypher/InputPosition", name := "hashCode", desc := "()I" } : Jvm.MethodName) prog_84_method_6_code (1 : Nat) (Option.some Jvm.ClassFile.FieldType.int)).before args0 about1 = true := code_word (m := ⟨3, 2⟩) (meth := k3m2) (c := k3c2) (by decide +kernel) rfl rfl rfl (by decide +kernel)
set_option maxRecDepth 65536 in
theorem w_c6 : (Jvm.Cond.code ({ cls := "com/example/allsome/allsome/cypher/InputPosition", name := "equals", desc := "(Ljava/lang/Object;)Z" } : Jvm.MethodName) prog_84_method_5_code (2 : Nat) (Option.some Jvm.ClassFile.FieldType.boolean)).before args0 about1 = true := code_word (m := ⟨3, 1⟩) (meth := k3m1) (c := k3c1) (by decide +kernel) rfl rfl rfl (by decide +kernel)
def codes1 : List Jvm.Cond := [Jvm.Cond.code x code maxLocals ret, Jvm.Cond.code ({ cls := "com/example/allsome/allsome/cypher/InputPositionHashCodePinLaw", name := "pos", desc := "(I)I" } : Jvm.MethodName) method_2_code (1 : Nat) (Option.some Jvm.ClassFile.FieldType.int), Jvm.Cond.code ({ cls := "java/lang/Math", name := "max", desc := "(II)I" } : Jvm.MethodName) jdk_29_method_65_code (2 : Nat) (Option.some Jvm.ClassFile.FieldType.int), Jvm.Cond.code ({ cls := "com/example/allsome/allsome/cypher/InputPosition", name := "<init>", desc := "(II)V" } : Jvm.MethodName) prog_84_method_1_code (3 : Nat) (Option.none : Option Jvm.ClassFile.FieldType), Jvm.Cond.code ({ cls := "java/lang/Object", name := "<init>", desc := "()V" } : Jvm.MethodName) object_method_1_code (1 : Nat) (Option.none : Option Jvm.ClassFile.FieldType), Jvm.Cond.code ({ cls := "com/example/allsome/allsome/cypher/InputPosition", name := "hashCode", desc := "()I" } : Jvm.MethodName) prog_84_method_6_code (1 : Nat) (Option.some Jvm.ClassFile.FieldType.int), Jvm.Cond.code ({ cls := "com/example/allsome/allsome/cypher/InputPosition", name := "equals", desc := "(Ljava/lang/Object;)Z" } : Jvm.MethodName) prog_84_method_5_code (2 : Nat) (Option.some Jvm.ClassFile.FieldType.boolean)]
set_option maxRecDepth 65536 in
theorem codes_eq : words1.filter isCode = codes1 := rfl
theorem w_codes : ∀ c ∈ words1.filter isCode, c.before args0 about1 = true := by
  rw [codes_eq]
  intro c hc
  simp only [codes1, List.mem_cons, List.not_mem_nil, or_false] at hc
  rcases hc with rfl | rfl | rfl | rfl | rfl | rfl | rfl
  · exact w_c0
  · exact w_c1
  · exact w_c2
  · exact w_c3
  · exact w_c4
  · exact w_c5
  · exact w_c6
set_option maxRecDepth 65536 in
theorem w_t1 : (words1.take 24).all (fun c => isCode c || c.before args0 about1) = true := by decide +kernel
set_option maxRecDepth 65536 in
theorem w_t2 : (words1.drop 24).all (fun c => isCode c || c.before args0 about1) = true := by decide +kernel
theorem w_tables : (allAtoms (Jvm.Cond.code x code maxLocals ret :: tables_1)).before args0 about1 = true := by
  rw [allAtoms_all]
  show words1.all (fun c => c.before args0 about1) = true
  refine all_split ?_ w_codes
  rw [← List.take_append_drop 24 words1, List.all_append, w_t1, w_t2]
  rfl
set_option maxRecDepth 65536 in
theorem w_case : (Jvm.Cond.and given_1 narrow_1).before args0 about1 = true := by decide +kernel
theorem w_applies : (headSpec (Jvm.Cond.code x code maxLocals ret :: tables_1) room_1).applies x e0.platform about1 = true :=
  (Spec.applies_iff w_frames).mpr ⟨w_running, w_runnable, w_alone, w_named, w_hears, w_ripe, w_room, w_tables⟩
theorem atStart : AtStart classFile x code maxLocals ret World_1 tables_1 room_1 Calls_1 rest_1 Pre_1 launch0 p0 e0 about1 theMethod args0 below0 :=
  ⟨lists_1, trivial, launch0.admits_env _ _ _, launch0.least_env, fairChoices_fair.cas, fairChoices_fair.clock, w_frames, w_args, w_heap, w_applies, trivial, trivial, w_case⟩
end start1
theorem witness_1 : WitnessClaimed_1 := ⟨start1.p0, start1.e0, start1.about1, start1.theMethod, start1.args0, start1.below0, start1.atStart⟩
end Jvm.Pilot.@@N@@
