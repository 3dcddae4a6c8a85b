import JvmDerived
import JvmDerived.Pilot.@@N@@Statement
import JvmDerived.Pilot.@@N@@Code
set_option linter.unusedVariables false
set_option linter.unusedSimpArgs false
@@BLOCK:NumsL.lean.txt@@
namespace Jvm.RoadKit
open Sem ClassFile Op Lib Jvm.Stand Jvm.Free Jvm.LawKit
section New
variable {p : Program} {l : Launch} {e : Env} {R : Room} {s : State} {m : MethodId} {args : Array Value} {below : List Frame} {meth : Method} {c : Code} {T : State} {locs : List Loc} {cells slots : Nat}
theorem retI (X : Stand p l e R s m args below meth c T locs cells slots) (hx : p.tables.exec = Jvm.exec) {pc : Nat} {Ls : Array Slot} {z : Int32} {rest : List Value} (hret : meth.sig.returnType = some .int) (hd : decode c.code pc = .ok (.ireturn, 1)) {fs : List Frame}
    (hl : ∀ (f : JFrame) (acts : List Action), f.method = m → f.locked = none → f.entered = [] → (doReturn e (T.setTop f) acts (some (.int z))).1 = T.setFrames fs) : Steps p.tables e below (T.setTop (mkF m pc Ls (.int z :: rest))) (T.setFrames fs) := by
  have hm' : T.vm.method? m = some meth := X.method'
  have hn : narrow .int (.int z) = .int z := rfl
  show Steps p.tables e below (T.setTop { method := m, pc := pc, locals := Ls, stack := _ :: rest, locked := none }) _
  jvm_step X.here [X.here.top, hx, hd, hm', hret, hn]
  first | (intro acts; rw [hl _ acts rfl rfl rfl]) | rw [hl _ _ rfl rfl rfl]
  exact Steps.refl _
end New
end Jvm.RoadKit
namespace Jvm.Pilot.@@N@@
open Jvm Jvm.ClassFile Sem Op Lib Jvm.Free Jvm.Stand Jvm.LawKit Jvm.RoadKit Bundle Jvm.Pilot.@@N@@.Jvm.D
theorem wd {Z : State} {a0 : Array Value} (hw : ∀ d ∈ tables_1, d.before a0 Z = true) (i : Nat) {d : Jvm.Cond} (h : tables_1[i]? = some d) : d.before a0 Z = true := hw _ (List.mem_of_getElem? h)
abbrev jv (x : Int64) : Slot := .val (.long x)
/-- from A the run comes to an end that R speaks of -/
abbrev own_Go (tb : Tables) (e : Env) (below : List Frame) (A : State) (R : State → Outcome → Prop) : Prop := ∃ s₂ o, Steps tb e below A s₂ ∧ R s₂ o
theorem own_go {tb : Tables} {e : Env} {below : List Frame} {A : State} {R : State → Outcome → Prop} (h : own_Go tb e below A R) : ∃ s₂ o, Steps tb e below A s₂ ∧ R s₂ o := h
theorem own_lift {tb : Tables} {e : Env} {below : List Frame} {A B : State} {R : State → Outcome → Prop} (h : ∀ t, Steps tb e below A t → Steps tb e below B t) (k : own_Go tb e below A R) : own_Go tb e below B R := by
  obtain ⟨t, o, k1, k2⟩ := k
  exact ⟨t, o, h t k1, k2⟩
theorem own_plain {Z : State} {h : Heap} {a : Addr} {C : String} (F : Exa Z h a C) : ∃ c : Cell, h[a]? = some c ∧ c.vm.isStatics = false := by
  obtain ⟨c, _, h1, -, -, h4, -⟩ := F
  exact ⟨c, h1, h4⟩
theorem own_Arr_keep {Z : State} {h h' : Heap} {a : Addr} {c : Cell} {ty : FieldType} {ws : List Addr} (F : Arr Z h a c ty) (K : Keep h h' ws) (q : a ∉ ws) : Arr Z h' a c ty := ⟨K.2.1 a c F.1 q, F.2⟩
theorem own_asymm {a b : Int32} (h : a < b) : ¬ b < a := Int32.not_lt.mpr (Int32.le_of_lt h)
theorem own_Sta_keep {Z : State} {h h' : Heap} {C n d : String} {v : Value} {ws : List Addr} (F : Sta Z h C n d v) (K : Keep h h' ws) (q : ∀ x ∈ ws, ∃ c : Cell, h[x]? = some c ∧ c.vm.isStatics = false) : Sta Z h' C n d v := by
  obtain ⟨cf, i, k, f, st, cell, h1, h2, h3, h4, h5, h6, h7⟩ := F
  refine ⟨cf, i, k, f, st, cell, h1, h2, h3, h4, K.2.1 st cell h5 fun z => ?_, h6, h7⟩
  obtain ⟨c, g1, g2⟩ := q st z
  cases h5.symm.trans g1
  rw [h6] at g2
  cases g2
theorem own_root {Z : State} {a0 : Array Value} {O K : String} {n : Nat} (w : (Cond.noSuperclass O).before a0 Z = true) (wk : (Cond.instantiable K n).before a0 Z = true) (hn : O ≠ K) : NS Z O K := by
  obtain ⟨c, k, h1, h2, h3, -, -⟩ := Cond.noSuperclass_spec w
  obtain ⟨t, k', g1, -⟩ := Cond.instantiable_spec wk
  have ne := ids_ne h1 g1 hn
  refine ⟨c, t, h1, g1, fun fuel => ?_⟩
  cases fuel with
  | zero => rfl
  | succ f => simp [Vm.isSubclassAux, ne, h2, h3]
theorem own_no {Z : State} {a0 : Array Value} {C S K : String} {n : Nat} (w : (Cond.superclass C S).before a0 Z = true) (wk : (Cond.instantiable K n).before a0 Z = true) (nst : NS Z C K) (hn : C ≠ K) : ∃ c t, Z.vm.findClass C = some c ∧ Z.vm.findClass K = some t ∧ Z.vm.assignable c t = false := by
  obtain ⟨c, t, h0, g0, n3⟩ := nst
  obtain ⟨p, k, kp, h1, h2, h3, h4, h5, -, h7⟩ := Cond.superclass_spec h0 w
  obtain ⟨t', k', g1, g2, g3, g4, -⟩ := Cond.instantiable_spec wk
  cases g0.symm.trans g1
  have g7 : k'.isInterface = false := (Bool.or_eq_false_iff.mp g4).1
  have ne := ids_ne h0 g0 hn
  refine ⟨c, t, h0, g0, ?_⟩
  show Z.vm.assignableAux (255 + 1) c t = false
  simp [Vm.assignableAux, ne, h2, g2, h5, g3, g7, Vm.isSubclass, n3]
theorem own_eqint {args : Array Value} {s : State} {t : Term} {k : Int32} (h : (Cond.eq t (.int k)).value args s none s [] = some true) : t.eval args s none [] s = some (.int k) := by
  obtain ⟨x, y, hx, hy, -, hk⟩ := cmp_v (Or.inl h)
  obtain rfl : y = .int k := (Option.some.inj ((Term.int_eval k).symm.trans hy)).symm
  obtain ⟨z, rfl⟩ := hk
  have q : z = k := gotT (Cond.eq_ints hx hy) h
  subst q
  exact hx
theorem own_cache {args : Array Value} {s : State} {t : Term} {K : String} {X : Cond} {a : Addr} {cell : Cell} (A : Arr s s.heap a cell (.object K)) (ev : ∀ idx, t.eval args s none idx s = some (.ref a)) (hlen : cell.slots.size = 256)
    (hall : (Cond.all t (.and (.exactly (.elem t (.index 0)) K) X)).value args s none s [] = some true) {j : Int32} (h1 : ¬ j < 0) (h2 : j < 256) :
    ∃ b, ¬ (j < 0 ∨ cell.slots.size ≤ j.toNatClampNeg) ∧ cell.slots[j.toNatClampNeg]? = some (.ref b) ∧ Exa s s.heap b K := by
  have hat : s.arrayAt? a = some cell := A.fin (Vm.Alike.refl _)
  have hn := nat_of h1
  have hlt : j.toNatClampNeg < cell.slots.size := by
    rw [Int32.lt_iff_toInt_lt] at h2
    have e : (256 : Int32).toInt = 256 := rfl
    rw [e] at h2
    omega
  have q := Cond.all_elim (ev []) hat hall j.toNatClampNeg hlt
  obtain ⟨q1, -⟩ := and_e q
  obtain ⟨b, evb⟩ := exa_v q1
  obtain ⟨r1, r2⟩ := elem_in evb (ev _) (idx_at h1) A.1
  exact ⟨b, r1, r2, exa_at evb q1⟩
theorem own_size {n : Nat} (h1 : n < 2 ^ 31) (h2 : n.toInt32 = 256) : n = 256 := by
  have e := len_toInt h1
  rw [h2] at e
  have q : (256 : Int32).toInt = 256 := rfl
  omega
def own_pos (x : Int32) : Int32 := if (x &&& (2147483647 : Int32)) = 0 then 1 else (x &&& (2147483647 : Int32))
theorem own_pos_int (x : Int32) : 1 ≤ (own_pos x).toInt := by
  have m := Jvm.Kit.i32_mask x (2147483647 : Int32) (k := 31) (by decide) (by decide)
  rw [own_pos]
  split
  · decide
  · rename_i h
    have h' : (x &&& (2147483647 : Int32)).toInt ≠ (0 : Int32).toInt := fun q => h (Int32.toInt_inj.mp q)
    have z0 : (0 : Int32).toInt = 0 := rfl
    omega
theorem own_pos_ge (x : Int32) : ¬ (own_pos x < (1 : Int32)) := by
  have h := own_pos_int x
  rw [Int32.lt_iff_toInt_lt]
  have e : (1 : Int32).toInt = 1 := rfl
  omega
def own_sel (m k a b : Int32) : Int32 := if (m &&& k) = 0 then own_pos a else own_pos b
theorem own_sel_ge (m k a b : Int32) : ¬ (own_sel m k a b < (1 : Int32)) := by
  rw [own_sel]
  split
  · exact own_pos_ge a
  · exact own_pos_ge b
theorem own_pos_lo (x : Int32) : ¬ (own_pos x < (-128 : Int32)) := by
  have h := own_pos_int x
  rw [Int32.lt_iff_toInt_lt]
  have e : (-128 : Int32).toInt = -128 := rfl
  omega
theorem own_j {x : Int32} (hb : ¬ ((127 : Int32) < own_pos x)) : ¬ (own_pos x + (128 : Int32) < 0) ∧ own_pos x + (128 : Int32) < 256 := by
  have h := own_pos_int x
  rw [Int32.lt_iff_toInt_lt] at hb
  have e : (127 : Int32).toInt = 127 := rfl
  have e2 : (128 : Int32).toInt = 128 := rfl
  have e3 : (256 : Int32).toInt = 256 := rfl
  have z0 : (0 : Int32).toInt = 0 := rfl
  have s : (own_pos x + (128 : Int32)).toInt = (own_pos x).toInt + (128 : Int32).toInt := Jvm.Kit.i32_add (by omega) (by omega)
  rw [Int32.lt_iff_toInt_lt, Int32.lt_iff_toInt_lt]
  omega
theorem pn_0 : plainName "com/example/allsome/allsome/cypher/InputPosition" = true := by first | (simp [plainName, overriddenIn]; done) | decide +kernel
theorem d1_0 : decode prog_84_method_1_code 0 = .ok (.aload_n 0, 1) := by decide +kernel
theorem d1_1 : decode prog_84_method_1_code 1 = .ok (.invokespecial 1, 3) := by decide +kernel
theorem d1_4 : decode prog_84_method_1_code 4 = .ok (.iload_n 1, 1) := by decide +kernel
theorem d1_5 : decode prog_84_method_1_code 5 = .ok (.iconst 1, 1) := by decide +kernel
theorem d1_6 : decode prog_84_method_1_code 6 = .ok (.if_icmp .lt 8, 3) := by decide +kernel
theorem d1_9 : decode prog_84_method_1_code 9 = .ok (.iload_n 2, 1) := by decide +kernel
theorem d1_10 : decode prog_84_method_1_code 10 = .ok (.iconst 1, 1) := by decide +kernel
theorem d1_11 : decode prog_84_method_1_code 11 = .ok (.if_icmp .ge 18, 3) := by decide +kernel
theorem d1_29 : decode prog_84_method_1_code 29 = .ok (.aload_n 0, 1) := by decide +kernel
theorem d1_30 : decode prog_84_method_1_code 30 = .ok (.iload_n 1, 1) := by decide +kernel
theorem d1_31 : decode prog_84_method_1_code 31 = .ok (.putfield 16, 3) := by decide +kernel
theorem d1_34 : decode prog_84_method_1_code 34 = .ok (.aload_n 0, 1) := by decide +kernel
theorem d1_35 : decode prog_84_method_1_code 35 = .ok (.iload_n 2, 1) := by decide +kernel
theorem d1_36 : decode prog_84_method_1_code 36 = .ok (.putfield 22, 3) := by decide +kernel
theorem d1_39 : decode prog_84_method_1_code 39 = .ok (.return_, 1) := by decide +kernel
def Q_rmInit (Z : State) (a1 : Addr) (p1 : Int32) (p2 : Int32) (h0 : Heap) (n0 : Nat) (v : Option Value) (h : Heap) (L : List Loc) : Prop := v = none ∧ Fr n0 L ∧ Keep h0 h [a1] ∧ Exa Z h a1 "com/example/allsome/allsome/cypher/InputPosition" ∧ Fld Z h a1 "com/example/allsome/allsome/cypher/InputPosition" "line" "I" (.int p1) ∧ Fld Z h a1 "com/example/allsome/allsome/cypher/InputPosition" "column" "I" (.int p2)
theorem ef_rmInit (m : MethodId) (x0 : Addr) (x1 : Int32) (x2 : Int32) : entryFrame m #[(.ref x0), (.int x1), (.int x2)] 3 = mkF m 0 #[.val (.ref x0), .val (.int x1), .val (.int x2)] [] := by first | (simp [entryFrame, mkF, argsToLocals, Value.category]; done) | rfl
set_option maxRecDepth 65536 in
set_option maxHeartbeats 40000000 in
theorem rmInit (l : Launch) (Z : State) (a0 : Array Value) (hw : ∀ d ∈ tables_1, d.before a0 Z = true) (ws : List Jvm.Cond) (a1 : Addr) (p1 : Int32) (p2 : Int32) (h0 : Heap) (n0 : Nat) (Z0 : n0 ≤ h0.size) (F1 : Fld Z h0 a1 "com/example/allsome/allsome/cypher/InputPosition" "line" "I" (.int 0)) (F2 : Fld Z h0 a1 "com/example/allsome/allsome/cypher/InputPosition" "column" "I" (.int 0)) (E1 : Exa Z h0 a1 "com/example/allsome/allsome/cypher/InputPosition") (G1 : n0 ≤ a1) (c1 : ¬ (p1 < (1 : Int32))) (c2 : ¬ (p2 < (1 : Int32))) :
    MetFree l (⟨"com/example/allsome/allsome/cypher/InputPosition", "<init>", "(II)V"⟩ : MethodName) (head1 (Jvm.Cond.code (⟨"com/example/allsome/allsome/cypher/InputPosition", "<init>", "(II)V"⟩ : MethodName) prog_84_method_1_code 3 none :: ws) ({ frames := 1, cells := 0, slots := 0, locals := 12 } : Room)) (fun a U => a = #[(.ref a1), (.int p1), (.int p2)] ∧ Z.Warmed39 U.vm ∧ U.heap = h0) (fun _ _ _ _ _ => True) (fun _ U o U' => ∃ v L, o = .returned v ∧ Q_rmInit Z a1 p1 p2 h0 n0 v U'.heap L ∧ FrameEnd U o U' L ({ frames := 1, cells := 0, slots := 0, locals := 12 } : Room).cells ({ frames := 1, cells := 0, slots := 0, locals := 12 } : Room).slots) := by
  refine MetFree.of_bodySF (plainFor_of_name pn_0) hisR ?_
  intro p e s m args below meth c s₁ Bd hml0 hP hK
  obtain ⟨rfl, hZ, hh⟩ := hP
  have hx := Bd.exec
  have hby := Bd.bytes
  have hml : c.maxLocals = 3 := hml0
  have hown : s.vm.findClass "com/example/allsome/allsome/cypher/InputPosition" = some m.cls := findClass_of_methodNamed Bd.named
  have hnm := (name_of_methodNamed Bd.named Bd.method).1
  have X0 : Stand p l e ({ frames := 1, cells := 0, slots := 0, locals := 12 } : Room) s m #[(.ref a1), (.int p1), (.int p2)] below meth c s₁ [] 0 0 := Stand.of_body Bd
  have e0 : s₁.heap = h0 := by rw [← hh, Bd.state]; rfl
  have N0 := Fr.nil n0
  refine own_go (own_lift (fun t k => castTop (ef_rmInit m a1 p1 p2) k) ?_)
  show own_Go p.tables e below (s₁.setTop (mkF m 0 #[rv a1, iv p1, iv p2] [])) _
  have sg1 : ∀ t, Steps p.tables e below (s₁.setTop (mkF m 1 #[rv a1, iv p1, iv p2] [(.ref a1)])) t → Steps p.tables e below (s₁.setTop (mkF m 0 #[rv a1, iv p1, iv p2] [])) t := by
    intro t k
    refine XS.aloadN X0.here hx rfl (hb hby d1_0) rfl rfl ?_
    show Steps p.tables e below (s₁.setTop (mkF m 1 #[rv a1, iv p1, iv p2] [(.ref a1)])) _
    exact k
  refine own_lift sg1 ?_
  show own_Go p.tables e below (s₁.setTop (mkF m 1 #[rv a1, iv p1, iv p2] [(.ref a1)])) _
  obtain ⟨T2, X2, e2, st2⟩ := initO X0 hx hZ hown (wd hw 11 rfl) (wd hw 12 rfl) (wd hw 13 rfl) e0 (g := (mkF m 1 #[rv a1, iv p1, iv p2] [(.ref a1)])) rfl (by rw [hml]; rfl) rfl (hb hby d1_1) (by decide) (W := 0) (by show 2 * 0 + _ ≤ _; exact Nat.le_of_eq rfl) (by decide)
  refine own_lift st2 ?_
  show own_Go p.tables e below (T2.setTop (mkF m 4 #[rv a1, iv p1, iv p2] [])) _
  have sg3 : ∀ t, Steps p.tables e below (T2.setTop (mkF m 31 #[rv a1, iv p1, iv p2] [(.int p1), (.ref a1)])) t → Steps p.tables e below (T2.setTop (mkF m 4 #[rv a1, iv p1, iv p2] [])) t := by
    intro t k
    refine XS.iloadN X2.here hx rfl (hb hby d1_4) rfl ?_
    show Steps p.tables e below (T2.setTop (mkF m 5 #[rv a1, iv p1, iv p2] [(.int p1)])) _
    refine XS.iconst X2.here hx rfl (hb hby d1_5) ?_
    show Steps p.tables e below (T2.setTop (mkF m 6 #[rv a1, iv p1, iv p2] [(.int 1), (.int p1)])) _
    refine XS.icmpNo X2.here hx rfl (hb hby d1_6) rfl (flt c1).1 ?_
    show Steps p.tables e below (T2.setTop (mkF m 9 #[rv a1, iv p1, iv p2] [])) _
    refine XS.iloadN X2.here hx rfl (hb hby d1_9) rfl ?_
    show Steps p.tables e below (T2.setTop (mkF m 10 #[rv a1, iv p1, iv p2] [(.int p2)])) _
    refine XS.iconst X2.here hx rfl (hb hby d1_10) ?_
    show Steps p.tables e below (T2.setTop (mkF m 11 #[rv a1, iv p1, iv p2] [(.int 1), (.int p2)])) _
    refine XS.icmpYes X2.here hx rfl (pc0 := 11) (pc' := 29) rfl (hb hby d1_11) rfl (flt c2).2.1 (by decide) (by decide) ?_
    show Steps p.tables e below (T2.setTop (mkF m 29 #[rv a1, iv p1, iv p2] [])) _
    refine XS.aloadN X2.here hx rfl (hb hby d1_29) rfl rfl ?_
    show Steps p.tables e below (T2.setTop (mkF m 30 #[rv a1, iv p1, iv p2] [(.ref a1)])) _
    refine XS.iloadN X2.here hx rfl (hb hby d1_30) rfl ?_
    show Steps p.tables e below (T2.setTop (mkF m 31 #[rv a1, iv p1, iv p2] [(.int p1), (.ref a1)])) _
    exact k
  refine own_lift sg3 ?_
  show own_Go p.tables e below (T2.setTop (mkF m 31 #[rv a1, iv p1, iv p2] [(.int p1), (.ref a1)])) _
  obtain ⟨T4, h4, X4, e4, W4, st4⟩ := putF X2 hx hZ hown (host := "") (Or.inl (wd hw 14 rfl)) Via.refl e2 F1 E1 (Or.inr ⟨(wd hw 15 rfl), rfl, hnm⟩) (wd hw 6 rfl) (ty := .int) (by decide) rfl rfl (g := (mkF m 31 #[rv a1, iv p1, iv p2] [(.int p1), (.ref a1)])) rfl rfl (hb hby d1_31)
  have N4 := Fr.snoc X4 N0 G1
  have Z4 : n0 ≤ h4.size := Nat.le_trans Z0 (Nat.le_of_eq W4.size.symm)
  have K4 : Keep h0 h4 [a1] := (Keep.refl h0 [a1]).wr W4 (Or.inl (List.mem_of_getElem? (i := 0) rfl))
  have Fw4 : Fld Z h4 a1 "com/example/allsome/allsome/cypher/InputPosition" "line" "I" (.int p1) := F1.same W4
  refine own_lift st4 ?_
  show own_Go p.tables e below (T4.setTop (mkF m 34 #[rv a1, iv p1, iv p2] [])) _
  have sg5 : ∀ t, Steps p.tables e below (T4.setTop (mkF m 36 #[rv a1, iv p1, iv p2] [(.int p2), (.ref a1)])) t → Steps p.tables e below (T4.setTop (mkF m 34 #[rv a1, iv p1, iv p2] [])) t := by
    intro t k
    refine XS.aloadN X4.here hx rfl (hb hby d1_34) rfl rfl ?_
    show Steps p.tables e below (T4.setTop (mkF m 35 #[rv a1, iv p1, iv p2] [(.ref a1)])) _
    refine XS.iloadN X4.here hx rfl (hb hby d1_35) rfl ?_
    show Steps p.tables e below (T4.setTop (mkF m 36 #[rv a1, iv p1, iv p2] [(.int p2), (.ref a1)])) _
    exact k
  refine own_lift sg5 ?_
  show own_Go p.tables e below (T4.setTop (mkF m 36 #[rv a1, iv p1, iv p2] [(.int p2), (.ref a1)])) _
  have Fc6 : Fld Z h4 a1 "com/example/allsome/allsome/cypher/InputPosition" "column" "I" (.int 0) := (F2.other W4 (Or.inr (slot_ne (Or.inr (wd hw 17 rfl)) (Or.inr (wd hw 15 rfl)) (by decide) (t := .int) (t' := .int) (by decide) (by decide))))
  have Fc7 : Exa Z h4 a1 "com/example/allsome/allsome/cypher/InputPosition" := (E1.wr W4)
  obtain ⟨T8, h8, X8, e8, W8, st8⟩ := putF X4 hx hZ hown (host := "") (Or.inl (wd hw 16 rfl)) Via.refl e4 Fc6 Fc7 (Or.inr ⟨(wd hw 17 rfl), rfl, hnm⟩) (wd hw 6 rfl) (ty := .int) (by decide) rfl rfl (g := (mkF m 36 #[rv a1, iv p1, iv p2] [(.int p2), (.ref a1)])) rfl rfl (hb hby d1_36)
  have N8 := Fr.snoc X8 N4 G1
  have Z8 : n0 ≤ h8.size := Nat.le_trans Z4 (Nat.le_of_eq W8.size.symm)
  have K8 : Keep h0 h8 [a1] := K4.wr W8 (Or.inl (List.mem_of_getElem? (i := 0) rfl))
  have Fw8 : Fld Z h8 a1 "com/example/allsome/allsome/cypher/InputPosition" "column" "I" (.int p2) := Fc6.same W8
  refine own_lift st8 ?_
  show own_Go p.tables e below (T8.setTop (mkF m 39 #[rv a1, iv p1, iv p2] [])) _
  obtain ⟨fs, hr, hrun, hended, hW, hsame⟩ := X8.leave (v := none) (fun _ => rfl)
  have Fc9 : Exa Z h8 a1 "com/example/allsome/allsome/cypher/InputPosition" := (Fc7.wr W8)
  have Fc10 : Fld Z h8 a1 "com/example/allsome/allsome/cypher/InputPosition" "line" "I" (.int p1) := (Fw4.other W8 (Or.inr (slot_ne (Or.inr (wd hw 15 rfl)) (Or.inr (wd hw 17 rfl)) (by decide) (t := .int) (t' := .int) (by decide) (by decide))))
  refine ⟨_, _, ?_, hrun, hended, _, _, rfl, ?_, ⟨_, rfl⟩, hW, hsame.mono (by decide) (by decide)⟩
  · exact X8.returnOut hx Bd.returns (hb hby d1_39) hr
  · show Q_rmInit Z a1 p1 p2 h0 n0 _ T8.heap _
    rw [e8]
    exact ⟨rfl, N8, K8, Fc9, Fc10, Fw8⟩
theorem d2_0 : decode prog_84_method_5_code 0 = .ok (.aload_n 1, 1) := by decide +kernel
theorem d2_1 : decode prog_84_method_5_code 1 = .ok (.instanceof 17, 3) := by decide +kernel
theorem d2_4 : decode prog_84_method_5_code 4 = .ok (.ifCond .eq 35, 3) := by decide +kernel
theorem d2_7 : decode prog_84_method_5_code 7 = .ok (.aload_n 0, 1) := by decide +kernel
theorem d2_8 : decode prog_84_method_5_code 8 = .ok (.getfield 16, 3) := by decide +kernel
theorem d2_11 : decode prog_84_method_5_code 11 = .ok (.aload_n 1, 1) := by decide +kernel
theorem d2_12 : decode prog_84_method_5_code 12 = .ok (.checkcast 17, 3) := by decide +kernel
theorem d2_15 : decode prog_84_method_5_code 15 = .ok (.getfield 16, 3) := by decide +kernel
theorem d2_18 : decode prog_84_method_5_code 18 = .ok (.if_icmp .ne 21, 3) := by decide +kernel
theorem d2_21 : decode prog_84_method_5_code 21 = .ok (.aload_n 0, 1) := by decide +kernel
theorem d2_22 : decode prog_84_method_5_code 22 = .ok (.getfield 22, 3) := by decide +kernel
theorem d2_25 : decode prog_84_method_5_code 25 = .ok (.aload_n 1, 1) := by decide +kernel
theorem d2_26 : decode prog_84_method_5_code 26 = .ok (.checkcast 17, 3) := by decide +kernel
theorem d2_29 : decode prog_84_method_5_code 29 = .ok (.getfield 22, 3) := by decide +kernel
theorem d2_32 : decode prog_84_method_5_code 32 = .ok (.if_icmp .ne 7, 3) := by decide +kernel
theorem d2_35 : decode prog_84_method_5_code 35 = .ok (.iconst 1, 1) := by decide +kernel
theorem d2_36 : decode prog_84_method_5_code 36 = .ok (.goto 4, 3) := by decide +kernel
theorem d2_40 : decode prog_84_method_5_code 40 = .ok (.ireturn, 1) := by decide +kernel
def Q_rmEqY (Z : State) (a1 : Addr) (a2 : Addr) (w1 : Int32) (w2 : Int32) (w3 : Int32) (w4 : Int32) (h0 : Heap) (n0 : Nat) (v : Option Value) (h : Heap) (L : List Loc) : Prop := v = some (.int 1) ∧ Fr n0 L ∧ h = h0
theorem ef_rmEqY (m : MethodId) (x0 : Addr) (x1 : Addr) : entryFrame m #[(.ref x0), (.ref x1)] 2 = mkF m 0 #[.val (.ref x0), .val (.ref x1)] [] := by first | (simp [entryFrame, mkF, argsToLocals, Value.category]; done) | rfl
set_option maxRecDepth 65536 in
set_option maxHeartbeats 40000000 in
theorem rmEqY (l : Launch) (Z : State) (a0 : Array Value) (hw : ∀ d ∈ tables_1, d.before a0 Z = true) (ws : List Jvm.Cond) (a1 : Addr) (a2 : Addr) (w1 : Int32) (w2 : Int32) (w3 : Int32) (w4 : Int32) (h0 : Heap) (n0 : Nat) (Z0 : n0 ≤ h0.size) (F1 : Fld Z h0 a1 "com/example/allsome/allsome/cypher/InputPosition" "line" "I" (.int w1)) (F2 : Fld Z h0 a1 "com/example/allsome/allsome/cypher/InputPosition" "column" "I" (.int w2)) (F3 : Fld Z h0 a2 "com/example/allsome/allsome/cypher/InputPosition" "line" "I" (.int w3)) (F4 : Fld Z h0 a2 "com/example/allsome/allsome/cypher/InputPosition" "column" "I" (.int w4)) (E2 : Exa Z h0 a2 "com/example/allsome/allsome/cypher/InputPosition") (c1 : w1 = w3) (c2 : w2 = w4) :
    MetFree l (⟨"com/example/allsome/allsome/cypher/InputPosition", "equals", "(Ljava/lang/Object;)Z"⟩ : MethodName) (head1 (Jvm.Cond.code (⟨"com/example/allsome/allsome/cypher/InputPosition", "equals", "(Ljava/lang/Object;)Z"⟩ : MethodName) prog_84_method_5_code 2 (some .boolean) :: ws) ({ frames := 0, cells := 0, slots := 0, locals := 0 } : Room)) (fun a U => a = #[(.ref a1), (.ref a2)] ∧ Z.Warmed39 U.vm ∧ U.heap = h0) (fun _ _ _ _ _ => True) (fun _ U o U' => ∃ v L, o = .returned v ∧ Q_rmEqY Z a1 a2 w1 w2 w3 w4 h0 n0 v U'.heap L ∧ FrameEnd U o U' L ({ frames := 0, cells := 0, slots := 0, locals := 0 } : Room).cells ({ frames := 0, cells := 0, slots := 0, locals := 0 } : Room).slots) := by
  refine MetFree.of_bodySF (plainFor_of_name pn_0) hisR ?_
  intro p e s m args below meth c s₁ Bd hml0 hP hK
  obtain ⟨rfl, hZ, hh⟩ := hP
  have hx := Bd.exec
  have hby := Bd.bytes
  have hml : c.maxLocals = 2 := hml0
  have hown : s.vm.findClass "com/example/allsome/allsome/cypher/InputPosition" = some m.cls := findClass_of_methodNamed Bd.named
  have hnm := (name_of_methodNamed Bd.named Bd.method).1
  have X0 : Stand p l e ({ frames := 0, cells := 0, slots := 0, locals := 0 } : Room) s m #[(.ref a1), (.ref a2)] below meth c s₁ [] 0 0 := Stand.of_body Bd
  have e0 : s₁.heap = h0 := by rw [← hh, Bd.state]; rfl
  have N0 := Fr.nil n0
  refine own_go (own_lift (fun t k => castTop (ef_rmEqY m a1 a2) k) ?_)
  show own_Go p.tables e below (s₁.setTop (mkF m 0 #[rv a1, rv a2] [])) _
  have sg1 : ∀ t, Steps p.tables e below (s₁.setTop (mkF m 1 #[rv a1, rv a2] [(.ref a2)])) t → Steps p.tables e below (s₁.setTop (mkF m 0 #[rv a1, rv a2] [])) t := by
    intro t k
    refine XS.aloadN X0.here hx rfl (hb hby d2_0) rfl rfl ?_
    show Steps p.tables e below (s₁.setTop (mkF m 1 #[rv a1, rv a2] [(.ref a2)])) _
    exact k
  refine own_lift sg1 ?_
  show own_Go p.tables e below (s₁.setTop (mkF m 1 #[rv a1, rv a2] [(.ref a2)])) _
  obtain ⟨T2, X2, e2, st2⟩ := instY X0 hx hZ hown (wd hw 23 rfl) e0 (Ins.self E2) (g := (mkF m 1 #[rv a1, rv a2] [(.ref a2)])) rfl rfl (hb hby d2_1)
  refine own_lift st2 ?_
  show own_Go p.tables e below (T2.setTop (mkF m 4 #[rv a1, rv a2] [(.int 1)])) _
  have sg3 : ∀ t, Steps p.tables e below (T2.setTop (mkF m 8 #[rv a1, rv a2] [(.ref a1)])) t → Steps p.tables e below (T2.setTop (mkF m 4 #[rv a1, rv a2] [(.int 1)])) t := by
    intro t k
    refine XS.ifNo X2.here hx rfl (hb hby d2_4) rfl ((if0 _ _).trans (feq (by decide : ¬ ((1 : Int32) = (0 : Int32)))).1) ?_
    show Steps p.tables e below (T2.setTop (mkF m 7 #[rv a1, rv a2] [])) _
    refine XS.aloadN X2.here hx rfl (hb hby d2_7) rfl rfl ?_
    show Steps p.tables e below (T2.setTop (mkF m 8 #[rv a1, rv a2] [(.ref a1)])) _
    exact k
  refine own_lift sg3 ?_
  show own_Go p.tables e below (T2.setTop (mkF m 8 #[rv a1, rv a2] [(.ref a1)])) _
  obtain ⟨T4, X4, e4, st4⟩ := getF X2 hx hZ hown (host := "") (Or.inl (wd hw 14 rfl)) Via.refl e2 F1 (g := (mkF m 8 #[rv a1, rv a2] [(.ref a1)])) rfl rfl (hb hby d2_8)
  refine own_lift st4 ?_
  show own_Go p.tables e below (T4.setTop (mkF m 11 #[rv a1, rv a2] [(.int w1)])) _
  have sg5 : ∀ t, Steps p.tables e below (T4.setTop (mkF m 12 #[rv a1, rv a2] [(.ref a2), (.int w1)])) t → Steps p.tables e below (T4.setTop (mkF m 11 #[rv a1, rv a2] [(.int w1)])) t := by
    intro t k
    refine XS.aloadN X4.here hx rfl (hb hby d2_11) rfl rfl ?_
    show Steps p.tables e below (T4.setTop (mkF m 12 #[rv a1, rv a2] [(.ref a2), (.int w1)])) _
    exact k
  refine own_lift sg5 ?_
  show own_Go p.tables e below (T4.setTop (mkF m 12 #[rv a1, rv a2] [(.ref a2), (.int w1)])) _
  obtain ⟨T6, X6, e6, st6⟩ := castY X4 hx hZ hown (wd hw 23 rfl) e4 (Ins.self E2) (g := (mkF m 12 #[rv a1, rv a2] [(.ref a2), (.int w1)])) rfl rfl (hb hby d2_12)
  refine own_lift st6 ?_
  show own_Go p.tables e below (T6.setTop (mkF m 15 #[rv a1, rv a2] [(.ref a2), (.int w1)])) _
  obtain ⟨T7, X7, e7, st7⟩ := getF X6 hx hZ hown (host := "") (Or.inl (wd hw 14 rfl)) Via.refl e6 F3 (g := (mkF m 15 #[rv a1, rv a2] [(.ref a2), (.int w1)])) rfl rfl (hb hby d2_15)
  refine own_lift st7 ?_
  show own_Go p.tables e below (T7.setTop (mkF m 18 #[rv a1, rv a2] [(.int w3), (.int w1)])) _
  have sg8 : ∀ t, Steps p.tables e below (T7.setTop (mkF m 22 #[rv a1, rv a2] [(.ref a1)])) t → Steps p.tables e below (T7.setTop (mkF m 18 #[rv a1, rv a2] [(.int w3), (.int w1)])) t := by
    intro t k
    refine XS.icmpNo X7.here hx rfl (hb hby d2_18) rfl (teq c1).2 ?_
    show Steps p.tables e below (T7.setTop (mkF m 21 #[rv a1, rv a2] [])) _
    refine XS.aloadN X7.here hx rfl (hb hby d2_21) rfl rfl ?_
    show Steps p.tables e below (T7.setTop (mkF m 22 #[rv a1, rv a2] [(.ref a1)])) _
    exact k
  refine own_lift sg8 ?_
  show own_Go p.tables e below (T7.setTop (mkF m 22 #[rv a1, rv a2] [(.ref a1)])) _
  obtain ⟨T9, X9, e9, st9⟩ := getF X7 hx hZ hown (host := "") (Or.inl (wd hw 16 rfl)) Via.refl e7 F2 (g := (mkF m 22 #[rv a1, rv a2] [(.ref a1)])) rfl rfl (hb hby d2_22)
  refine own_lift st9 ?_
  show own_Go p.tables e below (T9.setTop (mkF m 25 #[rv a1, rv a2] [(.int w2)])) _
  have sg10 : ∀ t, Steps p.tables e below (T9.setTop (mkF m 26 #[rv a1, rv a2] [(.ref a2), (.int w2)])) t → Steps p.tables e below (T9.setTop (mkF m 25 #[rv a1, rv a2] [(.int w2)])) t := by
    intro t k
    refine XS.aloadN X9.here hx rfl (hb hby d2_25) rfl rfl ?_
    show Steps p.tables e below (T9.setTop (mkF m 26 #[rv a1, rv a2] [(.ref a2), (.int w2)])) _
    exact k
  refine own_lift sg10 ?_
  show own_Go p.tables e below (T9.setTop (mkF m 26 #[rv a1, rv a2] [(.ref a2), (.int w2)])) _
  obtain ⟨T11, X11, e11, st11⟩ := castY X9 hx hZ hown (wd hw 23 rfl) e9 (Ins.self E2) (g := (mkF m 26 #[rv a1, rv a2] [(.ref a2), (.int w2)])) rfl rfl (hb hby d2_26)
  refine own_lift st11 ?_
  show own_Go p.tables e below (T11.setTop (mkF m 29 #[rv a1, rv a2] [(.ref a2), (.int w2)])) _
  obtain ⟨T12, X12, e12, st12⟩ := getF X11 hx hZ hown (host := "") (Or.inl (wd hw 16 rfl)) Via.refl e11 F4 (g := (mkF m 29 #[rv a1, rv a2] [(.ref a2), (.int w2)])) rfl rfl (hb hby d2_29)
  refine own_lift st12 ?_
  show own_Go p.tables e below (T12.setTop (mkF m 32 #[rv a1, rv a2] [(.int w4), (.int w2)])) _
  have sg13 : ∀ t, Steps p.tables e below (T12.setTop (mkF m 40 #[rv a1, rv a2] [(.int 1)])) t → Steps p.tables e below (T12.setTop (mkF m 32 #[rv a1, rv a2] [(.int w4), (.int w2)])) t := by
    intro t k
    refine XS.icmpNo X12.here hx rfl (hb hby d2_32) rfl (teq c2).2 ?_
    show Steps p.tables e below (T12.setTop (mkF m 35 #[rv a1, rv a2] [])) _
    refine XS.iconst X12.here hx rfl (hb hby d2_35) ?_
    show Steps p.tables e below (T12.setTop (mkF m 36 #[rv a1, rv a2] [(.int 1)])) _
    refine XS.goto X12.here hx rfl (pc0 := 36) (pc' := 40) rfl (hb hby d2_36) (by decide) (by decide) ?_
    show Steps p.tables e below (T12.setTop (mkF m 40 #[rv a1, rv a2] [(.int 1)])) _
    exact k
  refine own_lift sg13 ?_
  show own_Go p.tables e below (T12.setTop (mkF m 40 #[rv a1, rv a2] [(.int 1)])) _
  obtain ⟨fs, hr, hrun, hended, hW, hsame⟩ := X12.leave (v := some (.int 1)) (fun h => by rw [Bd.returns] at h; cases h)
  refine ⟨_, _, ?_, hrun, hended, _, _, rfl, ?_, ⟨_, rfl⟩, hW, hsame.mono (by decide) (by decide)⟩
  · exact retN X12 hx (t := .boolean) Bd.returns (by simp) (hb hby d2_40) hr
  · show Q_rmEqY Z a1 a2 w1 w2 w3 w4 h0 n0 _ T12.heap _
    rw [e12]
    exact ⟨rfl, N0, rfl⟩
theorem d2_39 : decode prog_84_method_5_code 39 = .ok (.iconst 0, 1) := by decide +kernel
def Q_rmEqL (Z : State) (a1 : Addr) (a2 : Addr) (w1 : Int32) (w2 : Int32) (w3 : Int32) (w4 : Int32) (h0 : Heap) (n0 : Nat) (v : Option Value) (h : Heap) (L : List Loc) : Prop := v = some (.int 0) ∧ Fr n0 L ∧ h = h0
theorem ef_rmEqL (m : MethodId) (x0 : Addr) (x1 : Addr) : entryFrame m #[(.ref x0), (.ref x1)] 2 = mkF m 0 #[.val (.ref x0), .val (.ref x1)] [] := by first | (simp [entryFrame, mkF, argsToLocals, Value.category]; done) | rfl
set_option maxRecDepth 65536 in
set_option maxHeartbeats 40000000 in
theorem rmEqL (l : Launch) (Z : State) (a0 : Array Value) (hw : ∀ d ∈ tables_1, d.before a0 Z = true) (ws : List Jvm.Cond) (a1 : Addr) (a2 : Addr) (w1 : Int32) (w2 : Int32) (w3 : Int32) (w4 : Int32) (h0 : Heap) (n0 : Nat) (Z0 : n0 ≤ h0.size) (F1 : Fld Z h0 a1 "com/example/allsome/allsome/cypher/InputPosition" "line" "I" (.int w1)) (F2 : Fld Z h0 a1 "com/example/allsome/allsome/cypher/InputPosition" "column" "I" (.int w2)) (F3 : Fld Z h0 a2 "com/example/allsome/allsome/cypher/InputPosition" "line" "I" (.int w3)) (F4 : Fld Z h0 a2 "com/example/allsome/allsome/cypher/InputPosition" "column" "I" (.int w4)) (E2 : Exa Z h0 a2 "com/example/allsome/allsome/cypher/InputPosition") (c1 : ¬ (w1 = w3)) :
    MetFree l (⟨"com/example/allsome/allsome/cypher/InputPosition", "equals", "(Ljava/lang/Object;)Z"⟩ : MethodName) (head1 (Jvm.Cond.code (⟨"com/example/allsome/allsome/cypher/InputPosition", "equals", "(Ljava/lang/Object;)Z"⟩ : MethodName) prog_84_method_5_code 2 (some .boolean) :: ws) ({ frames := 0, cells := 0, slots := 0, locals := 0 } : Room)) (fun a U => a = #[(.ref a1), (.ref a2)] ∧ Z.Warmed39 U.vm ∧ U.heap = h0) (fun _ _ _ _ _ => True) (fun _ U o U' => ∃ v L, o = .returned v ∧ Q_rmEqL Z a1 a2 w1 w2 w3 w4 h0 n0 v U'.heap L ∧ FrameEnd U o U' L ({ frames := 0, cells := 0, slots := 0, locals := 0 } : Room).cells ({ frames := 0, cells := 0, slots := 0, locals := 0 } : Room).slots) := by
  refine MetFree.of_bodySF (plainFor_of_name pn_0) hisR ?_
  intro p e s m args below meth c s₁ Bd hml0 hP hK
  obtain ⟨rfl, hZ, hh⟩ := hP
  have hx := Bd.exec
  have hby := Bd.bytes
  have hml : c.maxLocals = 2 := hml0
  have hown : s.vm.findClass "com/example/allsome/allsome/cypher/InputPosition" = some m.cls := findClass_of_methodNamed Bd.named
  have hnm := (name_of_methodNamed Bd.named Bd.method).1
  have X0 : Stand p l e ({ frames := 0, cells := 0, slots := 0, locals := 0 } : Room) s m #[(.ref a1), (.ref a2)] below meth c s₁ [] 0 0 := Stand.of_body Bd
  have e0 : s₁.heap = h0 := by rw [← hh, Bd.state]; rfl
  have N0 := Fr.nil n0
  refine own_go (own_lift (fun t k => castTop (ef_rmEqL m a1 a2) k) ?_)
  show own_Go p.tables e below (s₁.setTop (mkF m 0 #[rv a1, rv a2] [])) _
  have sg1 : ∀ t, Steps p.tables e below (s₁.setTop (mkF m 1 #[rv a1, rv a2] [(.ref a2)])) t → Steps p.tables e below (s₁.setTop (mkF m 0 #[rv a1, rv a2] [])) t := by
    intro t k
    refine XS.aloadN X0.here hx rfl (hb hby d2_0) rfl rfl ?_
    show Steps p.tables e below (s₁.setTop (mkF m 1 #[rv a1, rv a2] [(.ref a2)])) _
    exact k
  refine own_lift sg1 ?_
  show own_Go p.tables e below (s₁.setTop (mkF m 1 #[rv a1, rv a2] [(.ref a2)])) _
  obtain ⟨T2, X2, e2, st2⟩ := instY X0 hx hZ hown (wd hw 23 rfl) e0 (Ins.self E2) (g := (mkF m 1 #[rv a1, rv a2] [(.ref a2)])) rfl rfl (hb hby d2_1)
  refine own_lift st2 ?_
  show own_Go p.tables e below (T2.setTop (mkF m 4 #[rv a1, rv a2] [(.int 1)])) _
  have sg3 : ∀ t, Steps p.tables e below (T2.setTop (mkF m 8 #[rv a1, rv a2] [(.ref a1)])) t → Steps p.tables e below (T2.setTop (mkF m 4 #[rv a1, rv a2] [(.int 1)])) t := by
    intro t k
    refine XS.ifNo X2.here hx rfl (hb hby d2_4) rfl ((if0 _ _).trans (feq (by decide : ¬ ((1 : Int32) = (0 : Int32)))).1) ?_
    show Steps p.tables e below (T2.setTop (mkF m 7 #[rv a1, rv a2] [])) _
    refine XS.aloadN X2.here hx rfl (hb hby d2_7) rfl rfl ?_
    show Steps p.tables e below (T2.setTop (mkF m 8 #[rv a1, rv a2] [(.ref a1)])) _
    exact k
  refine own_lift sg3 ?_
  show own_Go p.tables e below (T2.setTop (mkF m 8 #[rv a1, rv a2] [(.ref a1)])) _
  obtain ⟨T4, X4, e4, st4⟩ := getF X2 hx hZ hown (host := "") (Or.inl (wd hw 14 rfl)) Via.refl e2 F1 (g := (mkF m 8 #[rv a1, rv a2] [(.ref a1)])) rfl rfl (hb hby d2_8)
  refine own_lift st4 ?_
  show own_Go p.tables e below (T4.setTop (mkF m 11 #[rv a1, rv a2] [(.int w1)])) _
  have sg5 : ∀ t, Steps p.tables e below (T4.setTop (mkF m 12 #[rv a1, rv a2] [(.ref a2), (.int w1)])) t → Steps p.tables e below (T4.setTop (mkF m 11 #[rv a1, rv a2] [(.int w1)])) t := by
    intro t k
    refine XS.aloadN X4.here hx rfl (hb hby d2_11) rfl rfl ?_
    show Steps p.tables e below (T4.setTop (mkF m 12 #[rv a1, rv a2] [(.ref a2), (.int w1)])) _
    exact k
  refine own_lift sg5 ?_
  show own_Go p.tables e below (T4.setTop (mkF m 12 #[rv a1, rv a2] [(.ref a2), (.int w1)])) _
  obtain ⟨T6, X6, e6, st6⟩ := castY X4 hx hZ hown (wd hw 23 rfl) e4 (Ins.self E2) (g := (mkF m 12 #[rv a1, rv a2] [(.ref a2), (.int w1)])) rfl rfl (hb hby d2_12)
  refine own_lift st6 ?_
  show own_Go p.tables e below (T6.setTop (mkF m 15 #[rv a1, rv a2] [(.ref a2), (.int w1)])) _
  obtain ⟨T7, X7, e7, st7⟩ := getF X6 hx hZ hown (host := "") (Or.inl (wd hw 14 rfl)) Via.refl e6 F3 (g := (mkF m 15 #[rv a1, rv a2] [(.ref a2), (.int w1)])) rfl rfl (hb hby d2_15)
  refine own_lift st7 ?_
  show own_Go p.tables e below (T7.setTop (mkF m 18 #[rv a1, rv a2] [(.int w3), (.int w1)])) _
  have sg8 : ∀ t, Steps p.tables e below (T7.setTop (mkF m 40 #[rv a1, rv a2] [(.int 0)])) t → Steps p.tables e below (T7.setTop (mkF m 18 #[rv a1, rv a2] [(.int w3), (.int w1)])) t := by
    intro t k
    refine XS.icmpYes X7.here hx rfl (pc0 := 18) (pc' := 39) rfl (hb hby d2_18) rfl (feq c1).2 (by decide) (by decide) ?_
    show Steps p.tables e below (T7.setTop (mkF m 39 #[rv a1, rv a2] [])) _
    refine XS.iconst X7.here hx rfl (hb hby d2_39) ?_
    show Steps p.tables e below (T7.setTop (mkF m 40 #[rv a1, rv a2] [(.int 0)])) _
    exact k
  refine own_lift sg8 ?_
  show own_Go p.tables e below (T7.setTop (mkF m 40 #[rv a1, rv a2] [(.int 0)])) _
  obtain ⟨fs, hr, hrun, hended, hW, hsame⟩ := X7.leave (v := some (.int 0)) (fun h => by rw [Bd.returns] at h; cases h)
  refine ⟨_, _, ?_, hrun, hended, _, _, rfl, ?_, ⟨_, rfl⟩, hW, hsame.mono (by decide) (by decide)⟩
  · exact retN X7 hx (t := .boolean) Bd.returns (by simp) (hb hby d2_40) hr
  · show Q_rmEqL Z a1 a2 w1 w2 w3 w4 h0 n0 _ T7.heap _
    rw [e7]
    exact ⟨rfl, N0, rfl⟩
def Q_rmEqC (Z : State) (a1 : Addr) (a2 : Addr) (w1 : Int32) (w2 : Int32) (w3 : Int32) (w4 : Int32) (h0 : Heap) (n0 : Nat) (v : Option Value) (h : Heap) (L : List Loc) : Prop := v = some (.int 0) ∧ Fr n0 L ∧ h = h0
theorem ef_rmEqC (m : MethodId) (x0 : Addr) (x1 : Addr) : entryFrame m #[(.ref x0), (.ref x1)] 2 = mkF m 0 #[.val (.ref x0), .val (.ref x1)] [] := by first | (simp [entryFrame, mkF, argsToLocals, Value.category]; done) | rfl
set_option maxRecDepth 65536 in
set_option maxHeartbeats 40000000 in
theorem rmEqC (l : Launch) (Z : State) (a0 : Array Value) (hw : ∀ d ∈ tables_1, d.before a0 Z = true) (ws : List Jvm.Cond) (a1 : Addr) (a2 : Addr) (w1 : Int32) (w2 : Int32) (w3 : Int32) (w4 : Int32) (h0 : Heap) (n0 : Nat) (Z0 : n0 ≤ h0.size) (F1 : Fld Z h0 a1 "com/example/allsome/allsome/cypher/InputPosition" "line" "I" (.int w1)) (F2 : Fld Z h0 a1 "com/example/allsome/allsome/cypher/InputPosition" "column" "I" (.int w2)) (F3 : Fld Z h0 a2 "com/example/allsome/allsome/cypher/InputPosition" "line" "I" (.int w3)) (F4 : Fld Z h0 a2 "com/example/allsome/allsome/cypher/InputPosition" "column" "I" (.int w4)) (E2 : Exa Z h0 a2 "com/example/allsome/allsome/cypher/InputPosition") (c1 : w1 = w3) (c2 : ¬ (w2 = w4)) :
    MetFree l (⟨"com/example/allsome/allsome/cypher/InputPosition", "equals", "(Ljava/lang/Object;)Z"⟩ : MethodName) (head1 (Jvm.Cond.code (⟨"com/example/allsome/allsome/cypher/InputPosition", "equals", "(Ljava/lang/Object;)Z"⟩ : MethodName) prog_84_method_5_code 2 (some .boolean) :: ws) ({ frames := 0, cells := 0, slots := 0, locals := 0 } : Room)) (fun a U => a = #[(.ref a1), (.ref a2)] ∧ Z.Warmed39 U.vm ∧ U.heap = h0) (fun _ _ _ _ _ => True) (fun _ U o U' => ∃ v L, o = .returned v ∧ Q_rmEqC Z a1 a2 w1 w2 w3 w4 h0 n0 v U'.heap L ∧ FrameEnd U o U' L ({ frames := 0, cells := 0, slots := 0, locals := 0 } : Room).cells ({ frames := 0, cells := 0, slots := 0, locals := 0 } : Room).slots) := by
  refine MetFree.of_bodySF (plainFor_of_name pn_0) hisR ?_
  intro p e s m args below meth c s₁ Bd hml0 hP hK
  obtain ⟨rfl, hZ, hh⟩ := hP
  have hx := Bd.exec
  have hby := Bd.bytes
  have hml : c.maxLocals = 2 := hml0
  have hown : s.vm.findClass "com/example/allsome/allsome/cypher/InputPosition" = some m.cls := findClass_of_methodNamed Bd.named
  have hnm := (name_of_methodNamed Bd.named Bd.method).1
  have X0 : Stand p l e ({ frames := 0, cells := 0, slots := 0, locals := 0 } : Room) s m #[(.ref a1), (.ref a2)] below meth c s₁ [] 0 0 := Stand.of_body Bd
  have e0 : s₁.heap = h0 := by rw [← hh, Bd.state]; rfl
  have N0 := Fr.nil n0
  refine own_go (own_lift (fun t k => castTop (ef_rmEqC m a1 a2) k) ?_)
  show own_Go p.tables e below (s₁.setTop (mkF m 0 #[rv a1, rv a2] [])) _
  have sg1 : ∀ t, Steps p.tables e below (s₁.setTop (mkF m 1 #[rv a1, rv a2] [(.ref a2)])) t → Steps p.tables e below (s₁.setTop (mkF m 0 #[rv a1, rv a2] [])) t := by
    intro t k
    refine XS.aloadN X0.here hx rfl (hb hby d2_0) rfl rfl ?_
    show Steps p.tables e below (s₁.setTop (mkF m 1 #[rv a1, rv a2] [(.ref a2)])) _
    exact k
  refine own_lift sg1 ?_
  show own_Go p.tables e below (s₁.setTop (mkF m 1 #[rv a1, rv a2] [(.ref a2)])) _
  obtain ⟨T2, X2, e2, st2⟩ := instY X0 hx hZ hown (wd hw 23 rfl) e0 (Ins.self E2) (g := (mkF m 1 #[rv a1, rv a2] [(.ref a2)])) rfl rfl (hb hby d2_1)
  refine own_lift st2 ?_
  show own_Go p.tables e below (T2.setTop (mkF m 4 #[rv a1, rv a2] [(.int 1)])) _
  have sg3 : ∀ t, Steps p.tables e below (T2.setTop (mkF m 8 #[rv a1, rv a2] [(.ref a1)])) t → Steps p.tables e below (T2.setTop (mkF m 4 #[rv a1, rv a2] [(.int 1)])) t := by
    intro t k
    refine XS.ifNo X2.here hx rfl (hb hby d2_4) rfl ((if0 _ _).trans (feq (by decide : ¬ ((1 : Int32) = (0 : Int32)))).1) ?_
    show Steps p.tables e below (T2.setTop (mkF m 7 #[rv a1, rv a2] [])) _
    refine XS.aloadN X2.here hx rfl (hb hby d2_7) rfl rfl ?_
    show Steps p.tables e below (T2.setTop (mkF m 8 #[rv a1, rv a2] [(.ref a1)])) _
    exact k
  refine own_lift sg3 ?_
  show own_Go p.tables e below (T2.setTop (mkF m 8 #[rv a1, rv a2] [(.ref a1)])) _
  obtain ⟨T4, X4, e4, st4⟩ := getF X2 hx hZ hown (host := "") (Or.inl (wd hw 14 rfl)) Via.refl e2 F1 (g := (mkF m 8 #[rv a1, rv a2] [(.ref a1)])) rfl rfl (hb hby d2_8)
  refine own_lift st4 ?_
  show own_Go p.tables e below (T4.setTop (mkF m 11 #[rv a1, rv a2] [(.int w1)])) _
  have sg5 : ∀ t, Steps p.tables e below (T4.setTop (mkF m 12 #[rv a1, rv a2] [(.ref a2), (.int w1)])) t → Steps p.tables e below (T4.setTop (mkF m 11 #[rv a1, rv a2] [(.int w1)])) t := by
    intro t k
    refine XS.aloadN X4.here hx rfl (hb hby d2_11) rfl rfl ?_
    show Steps p.tables e below (T4.setTop (mkF m 12 #[rv a1, rv a2] [(.ref a2), (.int w1)])) _
    exact k
  refine own_lift sg5 ?_
  show own_Go p.tables e below (T4.setTop (mkF m 12 #[rv a1, rv a2] [(.ref a2), (.int w1)])) _
  obtain ⟨T6, X6, e6, st6⟩ := castY X4 hx hZ hown (wd hw 23 rfl) e4 (Ins.self E2) (g := (mkF m 12 #[rv a1, rv a2] [(.ref a2), (.int w1)])) rfl rfl (hb hby d2_12)
  refine own_lift st6 ?_
  show own_Go p.tables e below (T6.setTop (mkF m 15 #[rv a1, rv a2] [(.ref a2), (.int w1)])) _
  obtain ⟨T7, X7, e7, st7⟩ := getF X6 hx hZ hown (host := "") (Or.inl (wd hw 14 rfl)) Via.refl e6 F3 (g := (mkF m 15 #[rv a1, rv a2] [(.ref a2), (.int w1)])) rfl rfl (hb hby d2_15)
  refine own_lift st7 ?_
  show own_Go p.tables e below (T7.setTop (mkF m 18 #[rv a1, rv a2] [(.int w3), (.int w1)])) _
  have sg8 : ∀ t, Steps p.tables e below (T7.setTop (mkF m 22 #[rv a1, rv a2] [(.ref a1)])) t → Steps p.tables e below (T7.setTop (mkF m 18 #[rv a1, rv a2] [(.int w3), (.int w1)])) t := by
    intro t k
    refine XS.icmpNo X7.here hx rfl (hb hby d2_18) rfl (teq c1).2 ?_
    show Steps p.tables e below (T7.setTop (mkF m 21 #[rv a1, rv a2] [])) _
    refine XS.aloadN X7.here hx rfl (hb hby d2_21) rfl rfl ?_
    show Steps p.tables e below (T7.setTop (mkF m 22 #[rv a1, rv a2] [(.ref a1)])) _
    exact k
  refine own_lift sg8 ?_
  show own_Go p.tables e below (T7.setTop (mkF m 22 #[rv a1, rv a2] [(.ref a1)])) _
  obtain ⟨T9, X9, e9, st9⟩ := getF X7 hx hZ hown (host := "") (Or.inl (wd hw 16 rfl)) Via.refl e7 F2 (g := (mkF m 22 #[rv a1, rv a2] [(.ref a1)])) rfl rfl (hb hby d2_22)
  refine own_lift st9 ?_
  show own_Go p.tables e below (T9.setTop (mkF m 25 #[rv a1, rv a2] [(.int w2)])) _
  have sg10 : ∀ t, Steps p.tables e below (T9.setTop (mkF m 26 #[rv a1, rv a2] [(.ref a2), (.int w2)])) t → Steps p.tables e below (T9.setTop (mkF m 25 #[rv a1, rv a2] [(.int w2)])) t := by
    intro t k
    refine XS.aloadN X9.here hx rfl (hb hby d2_25) rfl rfl ?_
    show Steps p.tables e below (T9.setTop (mkF m 26 #[rv a1, rv a2] [(.ref a2), (.int w2)])) _
    exact k
  refine own_lift sg10 ?_
  show own_Go p.tables e below (T9.setTop (mkF m 26 #[rv a1, rv a2] [(.ref a2), (.int w2)])) _
  obtain ⟨T11, X11, e11, st11⟩ := castY X9 hx hZ hown (wd hw 23 rfl) e9 (Ins.self E2) (g := (mkF m 26 #[rv a1, rv a2] [(.ref a2), (.int w2)])) rfl rfl (hb hby d2_26)
  refine own_lift st11 ?_
  show own_Go p.tables e below (T11.setTop (mkF m 29 #[rv a1, rv a2] [(.ref a2), (.int w2)])) _
  obtain ⟨T12, X12, e12, st12⟩ := getF X11 hx hZ hown (host := "") (Or.inl (wd hw 16 rfl)) Via.refl e11 F4 (g := (mkF m 29 #[rv a1, rv a2] [(.ref a2), (.int w2)])) rfl rfl (hb hby d2_29)
  refine own_lift st12 ?_
  show own_Go p.tables e below (T12.setTop (mkF m 32 #[rv a1, rv a2] [(.int w4), (.int w2)])) _
  have sg13 : ∀ t, Steps p.tables e below (T12.setTop (mkF m 40 #[rv a1, rv a2] [(.int 0)])) t → Steps p.tables e below (T12.setTop (mkF m 32 #[rv a1, rv a2] [(.int w4), (.int w2)])) t := by
    intro t k
    refine XS.icmpYes X12.here hx rfl (pc0 := 32) (pc' := 39) rfl (hb hby d2_32) rfl (feq c2).2 (by decide) (by decide) ?_
    show Steps p.tables e below (T12.setTop (mkF m 39 #[rv a1, rv a2] [])) _
    refine XS.iconst X12.here hx rfl (hb hby d2_39) ?_
    show Steps p.tables e below (T12.setTop (mkF m 40 #[rv a1, rv a2] [(.int 0)])) _
    exact k
  refine own_lift sg13 ?_
  show own_Go p.tables e below (T12.setTop (mkF m 40 #[rv a1, rv a2] [(.int 0)])) _
  obtain ⟨fs, hr, hrun, hended, hW, hsame⟩ := X12.leave (v := some (.int 0)) (fun h => by rw [Bd.returns] at h; cases h)
  refine ⟨_, _, ?_, hrun, hended, _, _, rfl, ?_, ⟨_, rfl⟩, hW, hsame.mono (by decide) (by decide)⟩
  · exact retN X12 hx (t := .boolean) Bd.returns (by simp) (hb hby d2_40) hr
  · show Q_rmEqC Z a1 a2 w1 w2 w3 w4 h0 n0 _ T12.heap _
    rw [e12]
    exact ⟨rfl, N0, rfl⟩
theorem pn_1 : plainName "com/example/allsome/allsome/cypher/InputPositionEqualsPinLaw" = true := by first | (simp [plainName, overriddenIn]; done) | decide +kernel
theorem d3_0 : decode method_2_code 0 = .ok (.iload_n 0, 1) := by decide +kernel
theorem d3_1 : decode method_2_code 1 = .ok (.ldc 7, 2) := by decide +kernel
theorem d3_3 : decode method_2_code 3 = .ok (.iand, 1) := by decide +kernel
theorem d3_4 : decode method_2_code 4 = .ok (.istore_n 1, 1) := by decide +kernel
theorem d3_5 : decode method_2_code 5 = .ok (.iload_n 1, 1) := by decide +kernel
theorem d3_6 : decode method_2_code 6 = .ok (.ifCond .ne 7, 3) := by decide +kernel
theorem d3_9 : decode method_2_code 9 = .ok (.iconst 1, 1) := by decide +kernel
theorem d3_10 : decode method_2_code 10 = .ok (.goto 4, 3) := by decide +kernel
theorem d3_14 : decode method_2_code 14 = .ok (.ireturn, 1) := by decide +kernel
def Q_rmPos (Z : State) (p1 : Int32) (h0 : Heap) (n0 : Nat) (v : Option Value) (h : Heap) (L : List Loc) : Prop := v = some (.int (own_pos p1)) ∧ Fr n0 L ∧ h = h0
theorem ef_rmPos1 (m : MethodId) (x0 : Int32) : entryFrame m #[(.int x0)] 2 = mkF m 0 #[.val (.int x0), .unset] [] := by first | (simp [entryFrame, mkF, argsToLocals, Value.category]; done) | rfl
set_option maxRecDepth 65536 in
set_option maxHeartbeats 40000000 in
theorem rmPos1 (l : Launch) (Z : State) (a0 : Array Value) (hw : ∀ d ∈ tables_1, d.before a0 Z = true) (ws : List Jvm.Cond) (p1 : Int32) (h0 : Heap) (n0 : Nat) (Z0 : n0 ≤ h0.size)  (c1 : (p1 &&& (2147483647 : Int32)) = (0 : Int32)) :
    MetFree l (⟨"com/example/allsome/allsome/cypher/InputPositionEqualsPinLaw", "pos", "(I)I"⟩ : MethodName) (head1 (Jvm.Cond.code (⟨"com/example/allsome/allsome/cypher/InputPositionEqualsPinLaw", "pos", "(I)I"⟩ : MethodName) method_2_code 2 (some .int) :: ws) ({ frames := 0, cells := 0, slots := 0, locals := 0 } : Room)) (fun a U => a = #[(.int p1)] ∧ Z.Warmed39 U.vm ∧ U.heap = h0) (fun _ _ _ _ _ => True) (fun _ U o U' => ∃ v L, o = .returned v ∧ Q_rmPos Z p1 h0 n0 v U'.heap L ∧ FrameEnd U o U' L ({ frames := 0, cells := 0, slots := 0, locals := 0 } : Room).cells ({ frames := 0, cells := 0, slots := 0, locals := 0 } : Room).slots) := by
  refine MetFree.of_bodySF (plainFor_of_name pn_1) hisR ?_
  intro p e s m args below meth c s₁ Bd hml0 hP hK
  obtain ⟨rfl, hZ, hh⟩ := hP
  have hx := Bd.exec
  have hby := Bd.bytes
  have hml : c.maxLocals = 2 := hml0
  have hown : s.vm.findClass "com/example/allsome/allsome/cypher/InputPositionEqualsPinLaw" = some m.cls := findClass_of_methodNamed Bd.named
  have hnm := (name_of_methodNamed Bd.named Bd.method).1
  have X0 : Stand p l e ({ frames := 0, cells := 0, slots := 0, locals := 0 } : Room) s m #[(.int p1)] below meth c s₁ [] 0 0 := Stand.of_body Bd
  have e0 : s₁.heap = h0 := by rw [← hh, Bd.state]; rfl
  have N0 := Fr.nil n0
  refine own_go (own_lift (fun t k => castTop (ef_rmPos1 m p1) k) ?_)
  show own_Go p.tables e below (s₁.setTop (mkF m 0 #[iv p1, .unset] [])) _
  have sg1 : ∀ t, Steps p.tables e below (s₁.setTop (mkF m 14 #[iv p1, iv (p1 &&& (2147483647 : Int32))] [(.int 1)])) t → Steps p.tables e below (s₁.setTop (mkF m 0 #[iv p1, .unset] [])) t := by
    intro t k
    refine XS.iloadN X0.here hx rfl (hb hby d3_0) rfl ?_
    show Steps p.tables e below (s₁.setTop (mkF m 1 #[iv p1, .unset] [(.int p1)])) _
    refine X0.ldcInt hx hown (mvT hZ (wd hw 4 rfl)) (g := (mkF m 1 #[iv p1, .unset] [(.int p1)])) rfl (hb hby d3_1) _ ?_
    show Steps p.tables e below (s₁.setTop (mkF m 3 #[iv p1, .unset] [(.int 2147483647), (.int p1)])) _
    refine XS.iand X0.here hx rfl (hb hby d3_3) rfl ?_
    show Steps p.tables e below (s₁.setTop (mkF m 4 #[iv p1, .unset] [(.int (p1 &&& (2147483647 : Int32)))])) _
    refine XS.istoreN X0.here hx rfl (hb hby d3_4) rfl (l' := #[iv p1, iv (p1 &&& (2147483647 : Int32))]) rfl ?_
    show Steps p.tables e below (s₁.setTop (mkF m 5 #[iv p1, iv (p1 &&& (2147483647 : Int32))] [])) _
    refine XS.iloadN X0.here hx rfl (hb hby d3_5) rfl ?_
    show Steps p.tables e below (s₁.setTop (mkF m 6 #[iv p1, iv (p1 &&& (2147483647 : Int32))] [(.int (p1 &&& (2147483647 : Int32)))])) _
    refine XS.ifNo X0.here hx rfl (hb hby d3_6) rfl ((if0 _ _).trans (teq c1).2) ?_
    show Steps p.tables e below (s₁.setTop (mkF m 9 #[iv p1, iv (p1 &&& (2147483647 : Int32))] [])) _
    refine XS.iconst X0.here hx rfl (hb hby d3_9) ?_
    show Steps p.tables e below (s₁.setTop (mkF m 10 #[iv p1, iv (p1 &&& (2147483647 : Int32))] [(.int 1)])) _
    refine XS.goto X0.here hx rfl (pc0 := 10) (pc' := 14) rfl (hb hby d3_10) (by decide) (by decide) ?_
    show Steps p.tables e below (s₁.setTop (mkF m 14 #[iv p1, iv (p1 &&& (2147483647 : Int32))] [(.int 1)])) _
    exact k
  refine own_lift sg1 ?_
  show own_Go p.tables e below (s₁.setTop (mkF m 14 #[iv p1, iv (p1 &&& (2147483647 : Int32))] [(.int 1)])) _
  obtain ⟨fs, hr, hrun, hended, hW, hsame⟩ := X0.leave (v := some (.int 1)) (fun h => by rw [Bd.returns] at h; cases h)
  refine ⟨_, _, ?_, hrun, hended, _, _, rfl, ?_, ⟨_, rfl⟩, hW, hsame.mono (by decide) (by decide)⟩
  · exact retI X0 hx Bd.returns (hb hby d3_14) hr
  · show Q_rmPos Z p1 h0 n0 _ s₁.heap _
    rw [e0]
    exact ⟨(by rw [own_pos, if_pos c1]), N0, rfl⟩
theorem d3_13 : decode method_2_code 13 = .ok (.iload_n 1, 1) := by decide +kernel
theorem ef_rmPos2 (m : MethodId) (x0 : Int32) : entryFrame m #[(.int x0)] 2 = mkF m 0 #[.val (.int x0), .unset] [] := by first | (simp [entryFrame, mkF, argsToLocals, Value.category]; done) | rfl
set_option maxRecDepth 65536 in
set_option maxHeartbeats 40000000 in
theorem rmPos2 (l : Launch) (Z : State) (a0 : Array Value) (hw : ∀ d ∈ tables_1, d.before a0 Z = true) (ws : List Jvm.Cond) (p1 : Int32) (h0 : Heap) (n0 : Nat) (Z0 : n0 ≤ h0.size)  (c1 : ¬ ((p1 &&& (2147483647 : Int32)) = (0 : Int32))) :
    MetFree l (⟨"com/example/allsome/allsome/cypher/InputPositionEqualsPinLaw", "pos", "(I)I"⟩ : MethodName) (head1 (Jvm.Cond.code (⟨"com/example/allsome/allsome/cypher/InputPositionEqualsPinLaw", "pos", "(I)I"⟩ : MethodName) method_2_code 2 (some .int) :: ws) ({ frames := 0, cells := 0, slots := 0, locals := 0 } : Room)) (fun a U => a = #[(.int p1)] ∧ Z.Warmed39 U.vm ∧ U.heap = h0) (fun _ _ _ _ _ => True) (fun _ U o U' => ∃ v L, o = .returned v ∧ Q_rmPos Z p1 h0 n0 v U'.heap L ∧ FrameEnd U o U' L ({ frames := 0, cells := 0, slots := 0, locals := 0 } : Room).cells ({ frames := 0, cells := 0, slots := 0, locals := 0 } : Room).slots) := by
  refine MetFree.of_bodySF (plainFor_of_name pn_1) hisR ?_
  intro p e s m args below meth c s₁ Bd hml0 hP hK
  obtain ⟨rfl, hZ, hh⟩ := hP
  have hx := Bd.exec
  have hby := Bd.bytes
  have hml : c.maxLocals = 2 := hml0
  have hown : s.vm.findClass "com/example/allsome/allsome/cypher/InputPositionEqualsPinLaw" = some m.cls := findClass_of_methodNamed Bd.named
  have hnm := (name_of_methodNamed Bd.named Bd.method).1
  have X0 : Stand p l e ({ frames := 0, cells := 0, slots := 0, locals := 0 } : Room) s m #[(.int p1)] below meth c s₁ [] 0 0 := Stand.of_body Bd
  have e0 : s₁.heap = h0 := by rw [← hh, Bd.state]; rfl
  have N0 := Fr.nil n0
  refine own_go (own_lift (fun t k => castTop (ef_rmPos2 m p1) k) ?_)
  show own_Go p.tables e below (s₁.setTop (mkF m 0 #[iv p1, .unset] [])) _
  have sg1 : ∀ t, Steps p.tables e below (s₁.setTop (mkF m 14 #[iv p1, iv (p1 &&& (2147483647 : Int32))] [(.int (p1 &&& (2147483647 : Int32)))])) t → Steps p.tables e below (s₁.setTop (mkF m 0 #[iv p1, .unset] [])) t := by
    intro t k
    refine XS.iloadN X0.here hx rfl (hb hby d3_0) rfl ?_
    show Steps p.tables e below (s₁.setTop (mkF m 1 #[iv p1, .unset] [(.int p1)])) _
    refine X0.ldcInt hx hown (mvT hZ (wd hw 4 rfl)) (g := (mkF m 1 #[iv p1, .unset] [(.int p1)])) rfl (hb hby d3_1) _ ?_
    show Steps p.tables e below (s₁.setTop (mkF m 3 #[iv p1, .unset] [(.int 2147483647), (.int p1)])) _
    refine XS.iand X0.here hx rfl (hb hby d3_3) rfl ?_
    show Steps p.tables e below (s₁.setTop (mkF m 4 #[iv p1, .unset] [(.int (p1 &&& (2147483647 : Int32)))])) _
    refine XS.istoreN X0.here hx rfl (hb hby d3_4) rfl (l' := #[iv p1, iv (p1 &&& (2147483647 : Int32))]) rfl ?_
    show Steps p.tables e below (s₁.setTop (mkF m 5 #[iv p1, iv (p1 &&& (2147483647 : Int32))] [])) _
    refine XS.iloadN X0.here hx rfl (hb hby d3_5) rfl ?_
    show Steps p.tables e below (s₁.setTop (mkF m 6 #[iv p1, iv (p1 &&& (2147483647 : Int32))] [(.int (p1 &&& (2147483647 : Int32)))])) _
    refine XS.ifYes X0.here hx rfl (pc0 := 6) (pc' := 13) rfl (hb hby d3_6) rfl ((if0 _ _).trans (feq c1).2) (by decide) (by decide) ?_
    show Steps p.tables e below (s₁.setTop (mkF m 13 #[iv p1, iv (p1 &&& (2147483647 : Int32))] [])) _
    refine XS.iloadN X0.here hx rfl (hb hby d3_13) rfl ?_
    show Steps p.tables e below (s₁.setTop (mkF m 14 #[iv p1, iv (p1 &&& (2147483647 : Int32))] [(.int (p1 &&& (2147483647 : Int32)))])) _
    exact k
  refine own_lift sg1 ?_
  show own_Go p.tables e below (s₁.setTop (mkF m 14 #[iv p1, iv (p1 &&& (2147483647 : Int32))] [(.int (p1 &&& (2147483647 : Int32)))])) _
  obtain ⟨fs, hr, hrun, hended, hW, hsame⟩ := X0.leave (v := some (.int (p1 &&& (2147483647 : Int32)))) (fun h => by rw [Bd.returns] at h; cases h)
  refine ⟨_, _, ?_, hrun, hended, _, _, rfl, ?_, ⟨_, rfl⟩, hW, hsame.mono (by decide) (by decide)⟩
  · exact retI X0 hx Bd.returns (hb hby d3_14) hr
  · show Q_rmPos Z p1 h0 n0 _ s₁.heap _
    rw [e0]
    exact ⟨(by rw [own_pos, if_neg c1]), N0, rfl⟩
set_option maxRecDepth 65536 in
theorem rmPos (l : Launch) (Z : State) (a0 : Array Value) (hw : ∀ d ∈ tables_1, d.before a0 Z = true) (ws : List Jvm.Cond) (p1 : Int32) (h0 : Heap) (n0 : Nat) (Z0 : n0 ≤ h0.size)   :
    MetFree l (⟨"com/example/allsome/allsome/cypher/InputPositionEqualsPinLaw", "pos", "(I)I"⟩ : MethodName) (head1 (Jvm.Cond.code (⟨"com/example/allsome/allsome/cypher/InputPositionEqualsPinLaw", "pos", "(I)I"⟩ : MethodName) method_2_code 2 (some .int) :: ws) ({ frames := 0, cells := 0, slots := 0, locals := 0 } : Room)) (fun a U => a = #[(.int p1)] ∧ Z.Warmed39 U.vm ∧ U.heap = h0) (fun _ _ _ _ _ => True) (fun _ U o U' => ∃ v L, o = .returned v ∧ Q_rmPos Z p1 h0 n0 v U'.heap L ∧ FrameEnd U o U' L ({ frames := 0, cells := 0, slots := 0, locals := 0 } : Room).cells ({ frames := 0, cells := 0, slots := 0, locals := 0 } : Room).slots) := by
  by_cases c1 : (p1 &&& (2147483647 : Int32)) = (0 : Int32)
  · exact rmPos1 l Z a0 hw ws p1 h0 n0 Z0  c1
  · exact rmPos2 l Z a0 hw ws p1 h0 n0 Z0  c1
def Q_rmEqNull (Z : State) (a1 : Addr) (h0 : Heap) (n0 : Nat) (v : Option Value) (h : Heap) (L : List Loc) : Prop := v = some (.int 0) ∧ Fr n0 L ∧ h = h0
theorem ef_rmEqNull (m : MethodId) (x0 : Addr) : entryFrame m #[(.ref x0), .null] 2 = mkF m 0 #[.val (.ref x0), .val .null] [] := by first | (simp [entryFrame, mkF, argsToLocals, Value.category]; done) | rfl
set_option maxRecDepth 65536 in
set_option maxHeartbeats 40000000 in
theorem rmEqNull (l : Launch) (Z : State) (a0 : Array Value) (hw : ∀ d ∈ tables_1, d.before a0 Z = true) (ws : List Jvm.Cond) (a1 : Addr) (h0 : Heap) (n0 : Nat) (Z0 : n0 ≤ h0.size)   :
    MetFree l (⟨"com/example/allsome/allsome/cypher/InputPosition", "equals", "(Ljava/lang/Object;)Z"⟩ : MethodName) (head1 (Jvm.Cond.code (⟨"com/example/allsome/allsome/cypher/InputPosition", "equals", "(Ljava/lang/Object;)Z"⟩ : MethodName) prog_84_method_5_code 2 (some .boolean) :: ws) ({ frames := 0, cells := 0, slots := 0, locals := 0 } : Room)) (fun a U => a = #[(.ref a1), .null] ∧ Z.Warmed39 U.vm ∧ U.heap = h0) (fun _ _ _ _ _ => True) (fun _ U o U' => ∃ v L, o = .returned v ∧ Q_rmEqNull Z a1 h0 n0 v U'.heap L ∧ FrameEnd U o U' L ({ frames := 0, cells := 0, slots := 0, locals := 0 } : Room).cells ({ frames := 0, cells := 0, slots := 0, locals := 0 } : Room).slots) := by
  refine MetFree.of_bodySF (plainFor_of_name pn_0) hisR ?_
  intro p e s m args below meth c s₁ Bd hml0 hP hK
  obtain ⟨rfl, hZ, hh⟩ := hP
  have hx := Bd.exec
  have hby := Bd.bytes
  have hml : c.maxLocals = 2 := hml0
  have hown : s.vm.findClass "com/example/allsome/allsome/cypher/InputPosition" = some m.cls := findClass_of_methodNamed Bd.named
  have hnm := (name_of_methodNamed Bd.named Bd.method).1
  have X0 : Stand p l e ({ frames := 0, cells := 0, slots := 0, locals := 0 } : Room) s m #[(.ref a1), .null] below meth c s₁ [] 0 0 := Stand.of_body Bd
  have e0 : s₁.heap = h0 := by rw [← hh, Bd.state]; rfl
  have N0 := Fr.nil n0
  refine own_go (own_lift (fun t k => castTop (ef_rmEqNull m a1) k) ?_)
  show own_Go p.tables e below (s₁.setTop (mkF m 0 #[rv a1, .val .null] [])) _
  have sg1 : ∀ t, Steps p.tables e below (s₁.setTop (mkF m 40 #[rv a1, .val .null] [(.int 0)])) t → Steps p.tables e below (s₁.setTop (mkF m 0 #[rv a1, .val .null] [])) t := by
    intro t k
    refine XS.aloadN X0.here hx rfl (hb hby d2_0) rfl rfl ?_
    show Steps p.tables e below (s₁.setTop (mkF m 1 #[rv a1, .val .null] [.null])) _
    refine X0.instanceofNull hx (g := (mkF m 1 #[rv a1, .val .null] [.null])) rfl rfl (hb hby d2_1) _ ?_
    show Steps p.tables e below (s₁.setTop (mkF m 4 #[rv a1, .val .null] [(.int 0)])) _
    refine XS.ifYes X0.here hx rfl (pc0 := 4) (pc' := 39) rfl (hb hby d2_4) rfl ((if0 _ _).trans (teq (by decide : (0 : Int32) = (0 : Int32))).1) (by decide) (by decide) ?_
    show Steps p.tables e below (s₁.setTop (mkF m 39 #[rv a1, .val .null] [])) _
    refine XS.iconst X0.here hx rfl (hb hby d2_39) ?_
    show Steps p.tables e below (s₁.setTop (mkF m 40 #[rv a1, .val .null] [(.int 0)])) _
    exact k
  refine own_lift sg1 ?_
  show own_Go p.tables e below (s₁.setTop (mkF m 40 #[rv a1, .val .null] [(.int 0)])) _
  obtain ⟨fs, hr, hrun, hended, hW, hsame⟩ := X0.leave (v := some (.int 0)) (fun h => by rw [Bd.returns] at h; cases h)
  refine ⟨_, _, ?_, hrun, hended, _, _, rfl, ?_, ⟨_, rfl⟩, hW, hsame.mono (by decide) (by decide)⟩
  · exact retN X0 hx (t := .boolean) Bd.returns (by simp) (hb hby d2_40) hr
  · show Q_rmEqNull Z a1 h0 n0 _ s₁.heap _
    rw [e0]
    exact ⟨rfl, N0, rfl⟩
def Q_rmEqInt (Z : State) (a1 : Addr) (a2 : Addr) (h0 : Heap) (n0 : Nat) (v : Option Value) (h : Heap) (L : List Loc) : Prop := v = some (.int 0) ∧ Fr n0 L ∧ h = h0
theorem ef_rmEqInt (m : MethodId) (x0 : Addr) (x1 : Addr) : entryFrame m #[(.ref x0), (.ref x1)] 2 = mkF m 0 #[.val (.ref x0), .val (.ref x1)] [] := by first | (simp [entryFrame, mkF, argsToLocals, Value.category]; done) | rfl
set_option maxRecDepth 65536 in
set_option maxHeartbeats 40000000 in
theorem rmEqInt (l : Launch) (Z : State) (a0 : Array Value) (hw : ∀ d ∈ tables_1, d.before a0 Z = true) (ws : List Jvm.Cond) (a1 : Addr) (a2 : Addr) (h0 : Heap) (n0 : Nat) (Z0 : n0 ≤ h0.size) (E2 : Exa Z h0 a2 "java/lang/Integer")  :
    MetFree l (⟨"com/example/allsome/allsome/cypher/InputPosition", "equals", "(Ljava/lang/Object;)Z"⟩ : MethodName) (head1 (Jvm.Cond.code (⟨"com/example/allsome/allsome/cypher/InputPosition", "equals", "(Ljava/lang/Object;)Z"⟩ : MethodName) prog_84_method_5_code 2 (some .boolean) :: ws) ({ frames := 0, cells := 0, slots := 0, locals := 0 } : Room)) (fun a U => a = #[(.ref a1), (.ref a2)] ∧ Z.Warmed39 U.vm ∧ U.heap = h0) (fun _ _ _ _ _ => True) (fun _ U o U' => ∃ v L, o = .returned v ∧ Q_rmEqInt Z a1 a2 h0 n0 v U'.heap L ∧ FrameEnd U o U' L ({ frames := 0, cells := 0, slots := 0, locals := 0 } : Room).cells ({ frames := 0, cells := 0, slots := 0, locals := 0 } : Room).slots) := by
  refine MetFree.of_bodySF (plainFor_of_name pn_0) hisR ?_
  intro p e s m args below meth c s₁ Bd hml0 hP hK
  obtain ⟨rfl, hZ, hh⟩ := hP
  have hx := Bd.exec
  have hby := Bd.bytes
  have hml : c.maxLocals = 2 := hml0
  have hown : s.vm.findClass "com/example/allsome/allsome/cypher/InputPosition" = some m.cls := findClass_of_methodNamed Bd.named
  have hnm := (name_of_methodNamed Bd.named Bd.method).1
  have X0 : Stand p l e ({ frames := 0, cells := 0, slots := 0, locals := 0 } : Room) s m #[(.ref a1), (.ref a2)] below meth c s₁ [] 0 0 := Stand.of_body Bd
  have e0 : s₁.heap = h0 := by rw [← hh, Bd.state]; rfl
  have N0 := Fr.nil n0
  refine own_go (own_lift (fun t k => castTop (ef_rmEqInt m a1 a2) k) ?_)
  show own_Go p.tables e below (s₁.setTop (mkF m 0 #[rv a1, rv a2] [])) _
  have sg1 : ∀ t, Steps p.tables e below (s₁.setTop (mkF m 1 #[rv a1, rv a2] [(.ref a2)])) t → Steps p.tables e below (s₁.setTop (mkF m 0 #[rv a1, rv a2] [])) t := by
    intro t k
    refine XS.aloadN X0.here hx rfl (hb hby d2_0) rfl rfl ?_
    show Steps p.tables e below (s₁.setTop (mkF m 1 #[rv a1, rv a2] [(.ref a2)])) _
    exact k
  refine own_lift sg1 ?_
  show own_Go p.tables e below (s₁.setTop (mkF m 1 #[rv a1, rv a2] [(.ref a2)])) _
  obtain ⟨T2, X2, e2, st2⟩ := instNo X0 hx hZ hown (wd hw 23 rfl) e0 E2 (own_no (wd hw 46 rfl) (wd hw 6 rfl) (NS.step (wd hw 46 rfl) (NS.step (wd hw 47 rfl) (own_root (wd hw 48 rfl) (wd hw 6 rfl) (by decide)) (by decide)) (by decide)) (by decide)) (g := (mkF m 1 #[rv a1, rv a2] [(.ref a2)])) rfl rfl (hb hby d2_1)
  refine own_lift st2 ?_
  show own_Go p.tables e below (T2.setTop (mkF m 4 #[rv a1, rv a2] [(.int 0)])) _
  have sg3 : ∀ t, Steps p.tables e below (T2.setTop (mkF m 40 #[rv a1, rv a2] [(.int 0)])) t → Steps p.tables e below (T2.setTop (mkF m 4 #[rv a1, rv a2] [(.int 0)])) t := by
    intro t k
    refine XS.ifYes X2.here hx rfl (pc0 := 4) (pc' := 39) rfl (hb hby d2_4) rfl ((if0 _ _).trans (teq (by decide : (0 : Int32) = (0 : Int32))).1) (by decide) (by decide) ?_
    show Steps p.tables e below (T2.setTop (mkF m 39 #[rv a1, rv a2] [])) _
    refine XS.iconst X2.here hx rfl (hb hby d2_39) ?_
    show Steps p.tables e below (T2.setTop (mkF m 40 #[rv a1, rv a2] [(.int 0)])) _
    exact k
  refine own_lift sg3 ?_
  show own_Go p.tables e below (T2.setTop (mkF m 40 #[rv a1, rv a2] [(.int 0)])) _
  obtain ⟨fs, hr, hrun, hended, hW, hsame⟩ := X2.leave (v := some (.int 0)) (fun h => by rw [Bd.returns] at h; cases h)
  refine ⟨_, _, ?_, hrun, hended, _, _, rfl, ?_, ⟨_, rfl⟩, hW, hsame.mono (by decide) (by decide)⟩
  · exact retN X2 hx (t := .boolean) Bd.returns (by simp) (hb hby d2_40) hr
  · show Q_rmEqInt Z a1 a2 h0 n0 _ T2.heap _
    rw [e2]
    exact ⟨rfl, N0, rfl⟩
theorem pn_2 : plainName "java/lang/Number" = true := by first | (simp [plainName, overriddenIn]; done) | decide +kernel
theorem d4_0 : decode jdk_18_method_1_code 0 = .ok (.aload_n 0, 1) := by decide +kernel
theorem d4_1 : decode jdk_18_method_1_code 1 = .ok (.invokespecial 1, 3) := by decide +kernel
theorem d4_4 : decode jdk_18_method_1_code 4 = .ok (.return_, 1) := by decide +kernel
def Q_rmNum (Z : State) (a1 : Addr) (h0 : Heap) (n0 : Nat) (v : Option Value) (h : Heap) (L : List Loc) : Prop := v = none ∧ Fr n0 L ∧ h = h0
theorem ef_rmNum (m : MethodId) (x0 : Addr) : entryFrame m #[(.ref x0)] 1 = mkF m 0 #[.val (.ref x0)] [] := by first | (simp [entryFrame, mkF, argsToLocals, Value.category]; done) | rfl
set_option maxRecDepth 65536 in
set_option maxHeartbeats 40000000 in
theorem rmNum (l : Launch) (Z : State) (a0 : Array Value) (hw : ∀ d ∈ tables_1, d.before a0 Z = true) (ws : List Jvm.Cond) (a1 : Addr) (h0 : Heap) (n0 : Nat) (Z0 : n0 ≤ h0.size)   :
    MetFree l (⟨"java/lang/Number", "<init>", "()V"⟩ : MethodName) (head1 (Jvm.Cond.code (⟨"java/lang/Number", "<init>", "()V"⟩ : MethodName) jdk_18_method_1_code 1 none :: ws) ({ frames := 1, cells := 0, slots := 0, locals := 12 } : Room)) (fun a U => a = #[(.ref a1)] ∧ Z.Warmed39 U.vm ∧ U.heap = h0) (fun _ _ _ _ _ => True) (fun _ U o U' => ∃ v L, o = .returned v ∧ Q_rmNum Z a1 h0 n0 v U'.heap L ∧ FrameEnd U o U' L ({ frames := 1, cells := 0, slots := 0, locals := 12 } : Room).cells ({ frames := 1, cells := 0, slots := 0, locals := 12 } : Room).slots) := by
  refine MetFree.of_bodySF (plainFor_of_name pn_2) hisR ?_
  intro p e s m args below meth c s₁ Bd hml0 hP hK
  obtain ⟨rfl, hZ, hh⟩ := hP
  have hx := Bd.exec
  have hby := Bd.bytes
  have hml : c.maxLocals = 1 := hml0
  have hown : s.vm.findClass "java/lang/Number" = some m.cls := findClass_of_methodNamed Bd.named
  have hnm := (name_of_methodNamed Bd.named Bd.method).1
  have X0 : Stand p l e ({ frames := 1, cells := 0, slots := 0, locals := 12 } : Room) s m #[(.ref a1)] below meth c s₁ [] 0 0 := Stand.of_body Bd
  have e0 : s₁.heap = h0 := by rw [← hh, Bd.state]; rfl
  have N0 := Fr.nil n0
  refine own_go (own_lift (fun t k => castTop (ef_rmNum m a1) k) ?_)
  show own_Go p.tables e below (s₁.setTop (mkF m 0 #[rv a1] [])) _
  have sg1 : ∀ t, Steps p.tables e below (s₁.setTop (mkF m 1 #[rv a1] [(.ref a1)])) t → Steps p.tables e below (s₁.setTop (mkF m 0 #[rv a1] [])) t := by
    intro t k
    refine XS.aloadN X0.here hx rfl (hb hby d4_0) rfl rfl ?_
    show Steps p.tables e below (s₁.setTop (mkF m 1 #[rv a1] [(.ref a1)])) _
    exact k
  refine own_lift sg1 ?_
  show own_Go p.tables e below (s₁.setTop (mkF m 1 #[rv a1] [(.ref a1)])) _
  obtain ⟨T2, X2, e2, st2⟩ := initO X0 hx hZ hown (wd hw 43 rfl) (wd hw 12 rfl) (wd hw 13 rfl) e0 (g := (mkF m 1 #[rv a1] [(.ref a1)])) rfl (by rw [hml]; rfl) rfl (hb hby d4_1) (by decide) (W := 0) (by show 2 * 0 + _ ≤ _; exact Nat.le_of_eq rfl) (by decide)
  refine own_lift st2 ?_
  show own_Go p.tables e below (T2.setTop (mkF m 4 #[rv a1] [])) _
  obtain ⟨fs, hr, hrun, hended, hW, hsame⟩ := X2.leave (v := none) (fun _ => rfl)
  refine ⟨_, _, ?_, hrun, hended, _, _, rfl, ?_, ⟨_, rfl⟩, hW, hsame.mono (by decide) (by decide)⟩
  · exact X2.returnOut hx Bd.returns (hb hby d4_4) hr
  · show Q_rmNum Z a1 h0 n0 _ T2.heap _
    rw [e2]
    exact ⟨rfl, N0, rfl⟩
theorem pn_3 : plainName "java/lang/Integer" = true := by first | (simp [plainName, overriddenIn]; done) | decide +kernel
theorem d5_0 : decode jdk_33_method_23_code 0 = .ok (.aload_n 0, 1) := by decide +kernel
theorem d5_1 : decode jdk_33_method_23_code 1 = .ok (.invokespecial 202, 3) := by decide +kernel
theorem pd_0 : parseMethodDescriptor "()V" = some ⟨[], none⟩ := by decide +kernel
theorem d5_4 : decode jdk_33_method_23_code 4 = .ok (.aload_n 0, 1) := by decide +kernel
theorem d5_5 : decode jdk_33_method_23_code 5 = .ok (.iload_n 1, 1) := by decide +kernel
theorem d5_6 : decode jdk_33_method_23_code 6 = .ok (.putfield 205, 3) := by decide +kernel
theorem d5_9 : decode jdk_33_method_23_code 9 = .ok (.return_, 1) := by decide +kernel
def Q_rmIInit (Z : State) (a1 : Addr) (p1 : Int32) (h0 : Heap) (n0 : Nat) (v : Option Value) (h : Heap) (L : List Loc) : Prop := v = none ∧ Fr n0 L ∧ Keep h0 h [a1] ∧ Exa Z h a1 "java/lang/Integer" ∧ Fld Z h a1 "java/lang/Integer" "value" "I" (.int p1)
theorem ef_rmIInit (m : MethodId) (x0 : Addr) (x1 : Int32) : entryFrame m #[(.ref x0), (.int x1)] 2 = mkF m 0 #[.val (.ref x0), .val (.int x1)] [] := by first | (simp [entryFrame, mkF, argsToLocals, Value.category]; done) | rfl
set_option maxRecDepth 65536 in
set_option maxHeartbeats 40000000 in
theorem rmIInit (l : Launch) (Z : State) (a0 : Array Value) (hw : ∀ d ∈ tables_1, d.before a0 Z = true) (ws : List Jvm.Cond) (a1 : Addr) (p1 : Int32) (h0 : Heap) (n0 : Nat) (Z0 : n0 ≤ h0.size) (F1 : Fld Z h0 a1 "java/lang/Integer" "value" "I" (.int 0)) (E1 : Exa Z h0 a1 "java/lang/Integer") (G1 : n0 ≤ a1)  :
    MetFree l (⟨"java/lang/Integer", "<init>", "(I)V"⟩ : MethodName) (head1 (Jvm.Cond.code (⟨"java/lang/Integer", "<init>", "(I)V"⟩ : MethodName) jdk_33_method_23_code 2 none :: ws) ({ frames := 2, cells := 0, slots := 0, locals := 24 } : Room)) (fun a U => a = #[(.ref a1), (.int p1)] ∧ Z.Warmed39 U.vm ∧ U.heap = h0) (fun _ _ _ _ _ => True) (fun _ U o U' => ∃ v L, o = .returned v ∧ Q_rmIInit Z a1 p1 h0 n0 v U'.heap L ∧ FrameEnd U o U' L ({ frames := 2, cells := 0, slots := 0, locals := 24 } : Room).cells ({ frames := 2, cells := 0, slots := 0, locals := 24 } : Room).slots) := by
  refine MetFree.of_bodySF (plainFor_of_name pn_3) hisR ?_
  intro p e s m args below meth c s₁ Bd hml0 hP hK
  obtain ⟨rfl, hZ, hh⟩ := hP
  have hx := Bd.exec
  have hby := Bd.bytes
  have hml : c.maxLocals = 2 := hml0
  have hown : s.vm.findClass "java/lang/Integer" = some m.cls := findClass_of_methodNamed Bd.named
  have hnm := (name_of_methodNamed Bd.named Bd.method).1
  have X0 : Stand p l e ({ frames := 2, cells := 0, slots := 0, locals := 24 } : Room) s m #[(.ref a1), (.int p1)] below meth c s₁ [] 0 0 := Stand.of_body Bd
  have e0 : s₁.heap = h0 := by rw [← hh, Bd.state]; rfl
  have N0 := Fr.nil n0
  refine own_go (own_lift (fun t k => castTop (ef_rmIInit m a1 p1) k) ?_)
  show own_Go p.tables e below (s₁.setTop (mkF m 0 #[rv a1, iv p1] [])) _
  have sg1 : ∀ t, Steps p.tables e below (s₁.setTop (mkF m 1 #[rv a1, iv p1] [(.ref a1)])) t → Steps p.tables e below (s₁.setTop (mkF m 0 #[rv a1, iv p1] [])) t := by
    intro t k
    refine XS.aloadN X0.here hx rfl (hb hby d5_0) rfl rfl ?_
    show Steps p.tables e below (s₁.setTop (mkF m 1 #[rv a1, iv p1] [(.ref a1)])) _
    exact k
  refine own_lift sg1 ?_
  show own_Go p.tables e below (s₁.setTop (mkF m 1 #[rv a1, iv p1] [(.ref a1)])) _
  obtain ⟨_, _, ⟨T2, Lx2, kx2, nx2⟩, -, X2, ⟨Lc2, hQ2, lx2, yx2, zx2⟩, st2⟩ := X0.specialBack hx (y := (⟨"java/lang/Number", "<init>", "()V"⟩ : MethodName)) rfl hown (mvT hZ (wd hw 37 rfl)) (mvT hZ (wd hw 38 rfl)) (mvT hZ (wd hw 42 rfl)) (by decide) (backOf (W := 0) (rmNum l Z a0 hw [] a1 h0 n0 Z0 ) hZ (wd hw 42 rfl) (wd hw 41 rfl) (by decide) (by decide)) (g := (mkF m 1 #[rv a1, iv p1] [(.ref a1)])) rfl (by rw [hml]; rfl) (Steps.refl _) (a := a1) (argsL := []) (rest := []) (lenOf pd_0 rfl) rfl (by show 2 * 0 + _ ≤ _; exact Nat.le_of_eq rfl) (hb hby d5_1) (fun _ _ => ⟨rfl, e0, (by decide : 0 + 0 ≤ _), (by decide : 0 + 0 ≤ _)⟩)
  dsimp only [Pt.U, Pt.locs, Pt.cells, Pt.slots] at X2 lx2 yx2 zx2 st2 hQ2
  subst lx2 yx2 zx2
  obtain ⟨rfl, N2q, e2⟩ := hQ2
  have N2 := Fr.app N0 N2q
  refine own_lift (fun t k => st2.trans k) ?_
  show own_Go p.tables e below (T2.setTop (mkF m 4 #[rv a1, iv p1] [])) _
  have sg3 : ∀ t, Steps p.tables e below (T2.setTop (mkF m 6 #[rv a1, iv p1] [(.int p1), (.ref a1)])) t → Steps p.tables e below (T2.setTop (mkF m 4 #[rv a1, iv p1] [])) t := by
    intro t k
    refine XS.aloadN X2.here hx rfl (hb hby d5_4) rfl rfl ?_
    show Steps p.tables e below (T2.setTop (mkF m 5 #[rv a1, iv p1] [(.ref a1)])) _
    refine XS.iloadN X2.here hx rfl (hb hby d5_5) rfl ?_
    show Steps p.tables e below (T2.setTop (mkF m 6 #[rv a1, iv p1] [(.int p1), (.ref a1)])) _
    exact k
  refine own_lift sg3 ?_
  show own_Go p.tables e below (T2.setTop (mkF m 6 #[rv a1, iv p1] [(.int p1), (.ref a1)])) _
  obtain ⟨T4, h4, X4, e4, W4, st4⟩ := putF X2 hx hZ hown (host := "") (Or.inl (wd hw 44 rfl)) Via.refl e2 F1 E1 (Or.inr ⟨(wd hw 45 rfl), rfl, hnm⟩) (wd hw 32 rfl) (ty := .int) (by decide) rfl rfl (g := (mkF m 6 #[rv a1, iv p1] [(.int p1), (.ref a1)])) rfl rfl (hb hby d5_6)
  have N4 := Fr.snoc X4 N2 G1
  have Z4 : n0 ≤ h4.size := Nat.le_trans Z0 (Nat.le_of_eq W4.size.symm)
  have K4 : Keep h0 h4 [a1] := (Keep.refl h0 [a1]).wr W4 (Or.inl (List.mem_of_getElem? (i := 0) rfl))
  have Fw4 : Fld Z h4 a1 "java/lang/Integer" "value" "I" (.int p1) := F1.same W4
  refine own_lift st4 ?_
  show own_Go p.tables e below (T4.setTop (mkF m 9 #[rv a1, iv p1] [])) _
  obtain ⟨fs, hr, hrun, hended, hW, hsame⟩ := X4.leave (v := none) (fun _ => rfl)
  have Fc5 : Exa Z h4 a1 "java/lang/Integer" := (E1.wr W4)
  refine ⟨_, _, ?_, hrun, hended, _, _, rfl, ?_, ⟨_, rfl⟩, hW, hsame.mono (by decide) (by decide)⟩
  · exact X4.returnOut hx Bd.returns (hb hby d5_9) hr
  · show Q_rmIInit Z a1 p1 h0 n0 _ T4.heap _
    rw [e4]
    exact ⟨rfl, N4, K4, Fc5, Fw4⟩
theorem d6_0 : decode jdk_33_method_22_code 0 = .ok (.iload_n 0, 1) := by decide +kernel
theorem d6_1 : decode jdk_33_method_22_code 1 = .ok (.bipush (-128), 2) := by decide +kernel
theorem d6_3 : decode jdk_33_method_22_code 3 = .ok (.if_icmp .lt 20, 3) := by decide +kernel
theorem d6_6 : decode jdk_33_method_22_code 6 = .ok (.iload_n 0, 1) := by decide +kernel
theorem d6_7 : decode jdk_33_method_22_code 7 = .ok (.getstatic 191, 3) := by decide +kernel
theorem d6_10 : decode jdk_33_method_22_code 10 = .ok (.if_icmp .gt 13, 3) := by decide +kernel
theorem d6_23 : decode jdk_33_method_22_code 23 = .ok (.new 1, 3) := by decide +kernel
theorem d6_26 : decode jdk_33_method_22_code 26 = .ok (.dup, 1) := by decide +kernel
theorem d6_27 : decode jdk_33_method_22_code 27 = .ok (.iload_n 0, 1) := by decide +kernel
theorem d6_28 : decode jdk_33_method_22_code 28 = .ok (.invokespecial 199, 3) := by decide +kernel
theorem pd_1 : parseMethodDescriptor "(I)V" = some ⟨[.int], none⟩ := by decide +kernel
theorem d6_31 : decode jdk_33_method_22_code 31 = .ok (.areturn, 1) := by decide +kernel
def Q_rmValN (Z : State) (p1 : Int32) (h0 : Heap) (n0 : Nat) (v : Option Value) (h : Heap) (L : List Loc) : Prop := ∃ b : Addr, v = some (.ref b) ∧ Fr n0 L ∧ Keep h0 h [] ∧ Exa Z h b "java/lang/Integer"
theorem ef_rmValN (m : MethodId) (x0 : Int32) : entryFrame m #[(.int x0)] 1 = mkF m 0 #[.val (.int x0)] [] := by first | (simp [entryFrame, mkF, argsToLocals, Value.category]; done) | rfl
set_option maxRecDepth 65536 in
set_option maxHeartbeats 40000000 in
theorem rmValN (l : Launch) (Z : State) (a0 : Array Value) (hw : ∀ d ∈ tables_1, d.before a0 Z = true) (ws : List Jvm.Cond) (p1 : Int32) (h0 : Heap) (n0 : Nat) (Z0 : n0 ≤ h0.size) (S1 : Sta Z h0 "java/lang/Integer$IntegerCache" "high" "I" (.int 127)) (c1 : ¬ (p1 < (-128 : Int32))) (c2 : (127 : Int32) < p1) :
    MetFree l (⟨"java/lang/Integer", "valueOf", "(I)Ljava/lang/Integer;"⟩ : MethodName) (head1 (Jvm.Cond.code (⟨"java/lang/Integer", "valueOf", "(I)Ljava/lang/Integer;"⟩ : MethodName) jdk_33_method_22_code 1 (some (.object "java/lang/Integer")) :: ws) ({ frames := 3, cells := 1, slots := 1, locals := 38 } : Room)) (fun a U => a = #[(.int p1)] ∧ Z.Warmed39 U.vm ∧ U.heap = h0) (fun _ _ _ _ _ => True) (fun _ U o U' => ∃ v L, o = .returned v ∧ Q_rmValN Z p1 h0 n0 v U'.heap L ∧ FrameEnd U o U' L ({ frames := 3, cells := 1, slots := 1, locals := 38 } : Room).cells ({ frames := 3, cells := 1, slots := 1, locals := 38 } : Room).slots) := by
  refine MetFree.of_bodySF (plainFor_of_name pn_3) hisR ?_
  intro p e s m args below meth c s₁ Bd hml0 hP hK
  obtain ⟨rfl, hZ, hh⟩ := hP
  have hx := Bd.exec
  have hby := Bd.bytes
  have hml : c.maxLocals = 1 := hml0
  have hown : s.vm.findClass "java/lang/Integer" = some m.cls := findClass_of_methodNamed Bd.named
  have hnm := (name_of_methodNamed Bd.named Bd.method).1
  have X0 : Stand p l e ({ frames := 3, cells := 1, slots := 1, locals := 38 } : Room) s m #[(.int p1)] below meth c s₁ [] 0 0 := Stand.of_body Bd
  have e0 : s₁.heap = h0 := by rw [← hh, Bd.state]; rfl
  have N0 := Fr.nil n0
  refine own_go (own_lift (fun t k => castTop (ef_rmValN m p1) k) ?_)
  show own_Go p.tables e below (s₁.setTop (mkF m 0 #[iv p1] [])) _
  have sg1 : ∀ t, Steps p.tables e below (s₁.setTop (mkF m 7 #[iv p1] [(.int p1)])) t → Steps p.tables e below (s₁.setTop (mkF m 0 #[iv p1] [])) t := by
    intro t k
    refine XS.iloadN X0.here hx rfl (hb hby d6_0) rfl ?_
    show Steps p.tables e below (s₁.setTop (mkF m 1 #[iv p1] [(.int p1)])) _
    refine XS.bipush X0.here hx rfl (hb hby d6_1) ?_
    show Steps p.tables e below (s₁.setTop (mkF m 3 #[iv p1] [(.int (-128)), (.int p1)])) _
    refine XS.icmpNo X0.here hx rfl (hb hby d6_3) rfl (flt c1).1 ?_
    show Steps p.tables e below (s₁.setTop (mkF m 6 #[iv p1] [])) _
    refine XS.iloadN X0.here hx rfl (hb hby d6_6) rfl ?_
    show Steps p.tables e below (s₁.setTop (mkF m 7 #[iv p1] [(.int p1)])) _
    exact k
  refine own_lift sg1 ?_
  show own_Go p.tables e below (s₁.setTop (mkF m 7 #[iv p1] [(.int p1)])) _
  obtain ⟨T2, X2, e2, st2⟩ := getS X0 hx hZ hown (host := "") (wd hw 29 rfl) Via.refl e0 S1 (g := (mkF m 7 #[iv p1] [(.int p1)])) rfl (hb hby d6_7)
  refine own_lift st2 ?_
  show own_Go p.tables e below (T2.setTop (mkF m 10 #[iv p1] [(.int 127), (.int p1)])) _
  have sg3 : ∀ t, Steps p.tables e below (T2.setTop (mkF m 23 #[iv p1] [])) t → Steps p.tables e below (T2.setTop (mkF m 10 #[iv p1] [(.int 127), (.int p1)])) t := by
    intro t k
    refine XS.icmpYes X2.here hx rfl (pc0 := 10) (pc' := 23) rfl (hb hby d6_10) rfl (tlt c2).2.2.1 (by decide) (by decide) ?_
    show Steps p.tables e below (T2.setTop (mkF m 23 #[iv p1] [])) _
    exact k
  refine own_lift sg3 ?_
  show own_Go p.tables e below (T2.setTop (mkF m 23 #[iv p1] [])) _
  obtain ⟨T4, h4, X4, e4, Ex4, Ax4, Dx4, Ux4, st4⟩ := newO X2 hx hZ hown (wd hw 31 rfl) (wd hw 32 rfl) (wd hw 27 rfl) e2 (g := (mkF m 23 #[iv p1] [])) rfl (hb hby d6_23) (by decide) (by decide)
  obtain ⟨ob4, g4⟩ : ∃ z, z = h0.size := ⟨_, rfl⟩
  rw [← g4] at Ax4 Dx4 Ux4 st4
  have Z4 : n0 ≤ h4.size := Nat.le_trans Z0 Ex4.1
  have ge4 : n0 ≤ ob4 := Nat.le_trans Z0 (Nat.le_of_eq g4.symm)
  have gh4 : h0.size ≤ ob4 := Nat.le_trans (Keep.refl h0 []).1 (Nat.le_of_eq g4.symm)
  have K4 : Keep h0 h4 [] := (Keep.refl h0 []).ext Ex4
  have Fn4_45 : Fld Z h4 ob4 "java/lang/Integer" "value" "I" (.int 0) := Dx4 (Or.inr (wd hw 45 rfl)) (ty := .int) (by decide)
  refine own_lift st4 ?_
  show own_Go p.tables e below (T4.setTop (mkF m 26 #[iv p1] [(.ref ob4)])) _
  have sg5 : ∀ t, Steps p.tables e below (T4.setTop (mkF m 28 #[iv p1] [(.int p1), (.ref ob4), (.ref ob4)])) t → Steps p.tables e below (T4.setTop (mkF m 26 #[iv p1] [(.ref ob4)])) t := by
    intro t k
    refine XS.dup X4.here hx rfl (hb hby d6_26) rfl rfl ?_
    show Steps p.tables e below (T4.setTop (mkF m 27 #[iv p1] [(.ref ob4), (.ref ob4)])) _
    refine XS.iloadN X4.here hx rfl (hb hby d6_27) rfl ?_
    show Steps p.tables e below (T4.setTop (mkF m 28 #[iv p1] [(.int p1), (.ref ob4), (.ref ob4)])) _
    exact k
  refine own_lift sg5 ?_
  show own_Go p.tables e below (T4.setTop (mkF m 28 #[iv p1] [(.int p1), (.ref ob4), (.ref ob4)])) _
  obtain ⟨_, _, ⟨T6, Lx6, kx6, nx6⟩, -, X6, ⟨Lc6, hQ6, lx6, yx6, zx6⟩, st6⟩ := X4.specialBack hx (y := (⟨"java/lang/Integer", "<init>", "(I)V"⟩ : MethodName)) rfl hown (mvT hZ (wd hw 33 rfl)) (mvT hZ (wd hw 34 rfl)) (mvT hZ (wd hw 36 rfl)) (by decide) (backOf (W := 1) (rmIInit l Z a0 hw [] ob4 p1 h4 n0 Z4 Fn4_45 Ax4 ge4) hZ (wd hw 36 rfl) (wd hw 27 rfl) (by decide) (by decide)) (g := (mkF m 28 #[iv p1] [(.int p1), (.ref ob4), (.ref ob4)])) rfl (by rw [hml]; rfl) (Steps.refl _) (a := ob4) (argsL := [(.int p1)]) (rest := [(.ref ob4)]) (lenOf pd_1 rfl) rfl (by show 2 * 0 + _ ≤ _; exact Nat.le_of_eq rfl) (hb hby d6_28) (fun _ _ => ⟨rfl, e4, (by decide : 1 + 0 ≤ _), (by decide : 1 + 0 ≤ _)⟩)
  dsimp only [Pt.U, Pt.locs, Pt.cells, Pt.slots] at X6 lx6 yx6 zx6 st6 hQ6
  subst lx6 yx6 zx6
  obtain ⟨rfl, N6q, p6_0, p6_1, p6_2⟩ := hQ6
  have N6 := Fr.app N0 N6q
  have Z6 : n0 ≤ T6.heap.size := Nat.le_trans Z4 p6_0.1
  have K6 : Keep h0 T6.heap [] := K4.trans p6_0 (allS (Or.inr gh4) all0)
  refine own_lift (fun t k => st6.trans k) ?_
  show own_Go p.tables e below (T6.setTop (mkF m 31 #[iv p1] [(.ref ob4)])) _
  obtain ⟨fs, hr, hrun, hended, hW, hsame⟩ := X6.leave (v := some (.ref ob4)) (fun h => by rw [Bd.returns] at h; cases h)
  refine ⟨_, _, ?_, hrun, hended, _, _, rfl, ?_, ⟨_, rfl⟩, hW, hsame.mono (by decide) (by decide)⟩
  · exact retOut X6 hx Bd.returns rfl (Or.inr (Or.inr (Or.inr (Or.inr ⟨rfl, rfl, rfl⟩)))) (hb hby d6_31) hr
  · show Q_rmValN Z p1 h0 n0 _ T6.heap _
    exact ⟨ob4, rfl, N6, K6, p6_1⟩
theorem d6_13 : decode jdk_33_method_22_code 13 = .ok (.getstatic 195, 3) := by decide +kernel
theorem d6_16 : decode jdk_33_method_22_code 16 = .ok (.iload_n 0, 1) := by decide +kernel
theorem d6_17 : decode jdk_33_method_22_code 17 = .ok (.sipush 128, 3) := by decide +kernel
theorem d6_20 : decode jdk_33_method_22_code 20 = .ok (.iadd, 1) := by decide +kernel
theorem d6_21 : decode jdk_33_method_22_code 21 = .ok (.aaload, 1) := by decide +kernel
theorem d6_22 : decode jdk_33_method_22_code 22 = .ok (.areturn, 1) := by decide +kernel
def Q_rmValC (Z : State) (p1 : Int32) (ca : Addr) (cc : Cell) (bx : Addr) (h0 : Heap) (n0 : Nat) (v : Option Value) (h : Heap) (L : List Loc) : Prop := ∃ b : Addr, v = some (.ref b) ∧ Fr n0 L ∧ Keep h0 h [] ∧ Exa Z h b "java/lang/Integer"
theorem ef_rmValC (m : MethodId) (x0 : Int32) : entryFrame m #[(.int x0)] 1 = mkF m 0 #[.val (.int x0)] [] := by first | (simp [entryFrame, mkF, argsToLocals, Value.category]; done) | rfl
set_option maxRecDepth 65536 in
set_option maxHeartbeats 40000000 in
theorem rmValC (l : Launch) (Z : State) (a0 : Array Value) (hw : ∀ d ∈ tables_1, d.before a0 Z = true) (ws : List Jvm.Cond) (p1 : Int32) (ca : Addr) (cc : Cell) (bx : Addr) (h0 : Heap) (n0 : Nat) (Z0 : n0 ≤ h0.size) (S1 : Sta Z h0 "java/lang/Integer$IntegerCache" "high" "I" (.int 127)) (S2 : Sta Z h0 "java/lang/Integer$IntegerCache" "cache" "[Ljava/lang/Integer;" (.ref ca)) (A1 : Arr Z h0 ca cc (.object "java/lang/Integer")) (E1 : Exa Z h0 bx "java/lang/Integer") (c1 : ¬ (p1 < (-128 : Int32))) (c2 : ¬ ((127 : Int32) < p1)) (hin : ¬ ((p1 + (128 : Int32)) < 0 ∨ cc.slots.size ≤ ((p1 + (128 : Int32))).toNatClampNeg)) (hat : cc.slots[((p1 + (128 : Int32))).toNatClampNeg]? = some (.ref bx)) :
    MetFree l (⟨"java/lang/Integer", "valueOf", "(I)Ljava/lang/Integer;"⟩ : MethodName) (head1 (Jvm.Cond.code (⟨"java/lang/Integer", "valueOf", "(I)Ljava/lang/Integer;"⟩ : MethodName) jdk_33_method_22_code 1 (some (.object "java/lang/Integer")) :: ws) ({ frames := 0, cells := 0, slots := 0, locals := 0 } : Room)) (fun a U => a = #[(.int p1)] ∧ Z.Warmed39 U.vm ∧ U.heap = h0) (fun _ _ _ _ _ => True) (fun _ U o U' => ∃ v L, o = .returned v ∧ Q_rmValC Z p1 ca cc bx h0 n0 v U'.heap L ∧ FrameEnd U o U' L ({ frames := 0, cells := 0, slots := 0, locals := 0 } : Room).cells ({ frames := 0, cells := 0, slots := 0, locals := 0 } : Room).slots) := by
  refine MetFree.of_bodySF (plainFor_of_name pn_3) hisR ?_
  intro p e s m args below meth c s₁ Bd hml0 hP hK
  obtain ⟨rfl, hZ, hh⟩ := hP
  have hx := Bd.exec
  have hby := Bd.bytes
  have hml : c.maxLocals = 1 := hml0
  have hown : s.vm.findClass "java/lang/Integer" = some m.cls := findClass_of_methodNamed Bd.named
  have hnm := (name_of_methodNamed Bd.named Bd.method).1
  have X0 : Stand p l e ({ frames := 0, cells := 0, slots := 0, locals := 0 } : Room) s m #[(.int p1)] below meth c s₁ [] 0 0 := Stand.of_body Bd
  have e0 : s₁.heap = h0 := by rw [← hh, Bd.state]; rfl
  have N0 := Fr.nil n0
  refine own_go (own_lift (fun t k => castTop (ef_rmValC m p1) k) ?_)
  show own_Go p.tables e below (s₁.setTop (mkF m 0 #[iv p1] [])) _
  have sg1 : ∀ t, Steps p.tables e below (s₁.setTop (mkF m 7 #[iv p1] [(.int p1)])) t → Steps p.tables e below (s₁.setTop (mkF m 0 #[iv p1] [])) t := by
    intro t k
    refine XS.iloadN X0.here hx rfl (hb hby d6_0) rfl ?_
    show Steps p.tables e below (s₁.setTop (mkF m 1 #[iv p1] [(.int p1)])) _
    refine XS.bipush X0.here hx rfl (hb hby d6_1) ?_
    show Steps p.tables e below (s₁.setTop (mkF m 3 #[iv p1] [(.int (-128)), (.int p1)])) _
    refine XS.icmpNo X0.here hx rfl (hb hby d6_3) rfl (flt c1).1 ?_
    show Steps p.tables e below (s₁.setTop (mkF m 6 #[iv p1] [])) _
    refine XS.iloadN X0.here hx rfl (hb hby d6_6) rfl ?_
    show Steps p.tables e below (s₁.setTop (mkF m 7 #[iv p1] [(.int p1)])) _
    exact k
  refine own_lift sg1 ?_
  show own_Go p.tables e below (s₁.setTop (mkF m 7 #[iv p1] [(.int p1)])) _
  obtain ⟨T2, X2, e2, st2⟩ := getS X0 hx hZ hown (host := "") (wd hw 29 rfl) Via.refl e0 S1 (g := (mkF m 7 #[iv p1] [(.int p1)])) rfl (hb hby d6_7)
  refine own_lift st2 ?_
  show own_Go p.tables e below (T2.setTop (mkF m 10 #[iv p1] [(.int 127), (.int p1)])) _
  have sg3 : ∀ t, Steps p.tables e below (T2.setTop (mkF m 13 #[iv p1] [])) t → Steps p.tables e below (T2.setTop (mkF m 10 #[iv p1] [(.int 127), (.int p1)])) t := by
    intro t k
    refine XS.icmpNo X2.here hx rfl (hb hby d6_10) rfl (flt c2).2.2.1 ?_
    show Steps p.tables e below (T2.setTop (mkF m 13 #[iv p1] [])) _
    exact k
  refine own_lift sg3 ?_
  show own_Go p.tables e below (T2.setTop (mkF m 13 #[iv p1] [])) _
  obtain ⟨T4, X4, e4, st4⟩ := getS X2 hx hZ hown (host := "") (wd hw 49 rfl) Via.refl e2 S2 (g := (mkF m 13 #[iv p1] [])) rfl (hb hby d6_13)
  refine own_lift st4 ?_
  show own_Go p.tables e below (T4.setTop (mkF m 16 #[iv p1] [(.ref ca)])) _
  have sg5 : ∀ t, Steps p.tables e below (T4.setTop (mkF m 21 #[iv p1] [(.int (p1 + (128 : Int32))), (.ref ca)])) t → Steps p.tables e below (T4.setTop (mkF m 16 #[iv p1] [(.ref ca)])) t := by
    intro t k
    refine XS.iloadN X4.here hx rfl (hb hby d6_16) rfl ?_
    show Steps p.tables e below (T4.setTop (mkF m 17 #[iv p1] [(.int p1), (.ref ca)])) _
    refine XS.sipush X4.here hx rfl (hb hby d6_17) ?_
    show Steps p.tables e below (T4.setTop (mkF m 20 #[iv p1] [(.int 128), (.int p1), (.ref ca)])) _
    refine XS.iadd X4.here hx rfl (hb hby d6_20) rfl ?_
    show Steps p.tables e below (T4.setTop (mkF m 21 #[iv p1] [(.int (p1 + (128 : Int32))), (.ref ca)])) _
    exact k
  refine own_lift sg5 ?_
  show own_Go p.tables e below (T4.setTop (mkF m 21 #[iv p1] [(.int (p1 + (128 : Int32))), (.ref ca)])) _
  have sg6 : ∀ t, Steps p.tables e below (T4.setTop (mkF m 22 #[iv p1] [(.ref bx)])) t → Steps p.tables e below (T4.setTop (mkF m 21 #[iv p1] [(.int (p1 + (128 : Int32))), (.ref ca)])) t := by
    intro t k
    refine X4.aaload hx (j := (p1 + (128 : Int32))) (v := (.ref bx)) (by rw [e4]; exact A1.1) (State.isArrayOf_alike hZ.alike A1.2.1) rfl A1.2.2 hin hat (g := (mkF m 21 #[iv p1] [(.int (p1 + (128 : Int32))), (.ref ca)])) rfl rfl (hb hby d6_21) _ ?_
    show Steps p.tables e below (T4.setTop (mkF m 22 #[iv p1] [(.ref bx)])) _
    exact k
  refine own_lift sg6 ?_
  show own_Go p.tables e below (T4.setTop (mkF m 22 #[iv p1] [(.ref bx)])) _
  obtain ⟨fs, hr, hrun, hended, hW, hsame⟩ := X4.leave (v := some (.ref bx)) (fun h => by rw [Bd.returns] at h; cases h)
  refine ⟨_, _, ?_, hrun, hended, _, _, rfl, ?_, ⟨_, rfl⟩, hW, hsame.mono (by decide) (by decide)⟩
  · exact retOut X4 hx Bd.returns rfl (Or.inr (Or.inr (Or.inr (Or.inr ⟨rfl, rfl, rfl⟩)))) (hb hby d6_22) hr
  · show Q_rmValC Z p1 ca cc bx h0 n0 _ T4.heap _
    rw [e4]
    exact ⟨bx, rfl, N0, (Keep.refl h0 []), E1⟩
theorem pd_2 : parseMethodDescriptor "(I)I" = some ⟨[.int], some .int⟩ := by decide +kernel
theorem pd_3 : parseMethodDescriptor "(II)V" = some ⟨[.int, .int], none⟩ := by decide +kernel
theorem pd_4 : parseMethodDescriptor "(Ljava/lang/Object;)Z" = some ⟨[(.object "java/lang/Object")], some .boolean⟩ := by decide +kernel
def Q0 (Z : State)  (h0 : Heap) (n0 : Nat) (v : Option Value) (h : Heap) (L : List Loc) : Prop := v = some (.int 1) ∧ Fr n0 L
theorem ef_rm0_0LC (m : MethodId) (x0 : Int32) (x1 : Int32) (x2 : Int32) (x3 : Int32) (x4 : Int32) : entryFrame m #[(.int x0), (.int x1), (.int x2), (.int x3), (.int x4)] maxLocals = mkF m 0 #[.val (.int x0), .val (.int x1), .val (.int x2), .val (.int x3), .val (.int x4), .unset, .unset, .unset, .unset, .unset, .unset, .unset, .unset] [] := by first | (simp [entryFrame, mkF, argsToLocals, Value.category, maxLocals]; done) | rfl
set_option maxRecDepth 65536 in
set_option maxHeartbeats 40000000 in
theorem rm0_0LC (l : Launch) (Z : State) (a0 : Array Value) (hw : ∀ d ∈ tables_1, d.before a0 Z = true) (ws : List Jvm.Cond) (p0 : Int32) (p1 : Int32) (p2 : Int32) (p3 : Int32) (p4 : Int32) (ca : Addr) (cc : Cell) (h0 : Heap) (n0 : Nat) (Z0 : n0 ≤ h0.size) (S1 : Sta Z h0 "java/lang/Integer$IntegerCache" "high" "I" (.int 127)) (S2 : Sta Z h0 "java/lang/Integer$IntegerCache" "cache" "[Ljava/lang/Integer;" (.ref ca)) (A1 : Arr Z h0 ca cc (.object "java/lang/Integer")) (k0 : (((p4.toUInt32 >>> ((2 : Int32) &&& 31).toUInt32).toInt32) &&& (3 : Int32)) = (0 : Int32)) (hl : (own_pos p0) = (own_sel p4 1 p2 p0)) (hc : (own_pos p1) = (own_sel p4 2 p3 p1)) :
    MetFree l x (head1 (Jvm.Cond.code x code maxLocals ret :: ws) room_1) (fun a U => a = #[(.int p0), (.int p1), (.int p2), (.int p3), (.int p4)] ∧ Z.Warmed39 U.vm ∧ U.heap = h0) (fun _ _ _ _ _ => True) (fun _ U o U' => ∃ v L, o = .returned v ∧ Q0 Z  h0 n0 v U'.heap L ∧ FrameEnd U o U' L 16 128) := by
  refine MetFree.of_bodySF (plainFor_of_name pn_1) hisR ?_
  intro p e s m args below meth c s₁ Bd hml0 hP hK
  obtain ⟨rfl, hZ, hh⟩ := hP
  have hx := Bd.exec
  have hby := Bd.bytes
  have hml : c.maxLocals = 13 := hml0
  have hown : s.vm.findClass "com/example/allsome/allsome/cypher/InputPositionEqualsPinLaw" = some m.cls := findClass_of_methodNamed Bd.named
  have hnm := (name_of_methodNamed Bd.named Bd.method).1
  have X0 : Stand p l e room_1 s m #[(.int p0), (.int p1), (.int p2), (.int p3), (.int p4)] below meth c s₁ [] 0 0 := Stand.of_body Bd
  have e0 : s₁.heap = h0 := by rw [← hh, Bd.state]; rfl
  have N0 := Fr.nil n0
  refine own_go (own_lift (fun t k => castTop (ef_rm0_0LC m p0 p1 p2 p3 p4) k) ?_)
  show own_Go p.tables e below (s₁.setTop (mkF m 0 #[iv p0, iv p1, iv p2, iv p3, iv p4, .unset, .unset, .unset, .unset, .unset, .unset, .unset, .unset] [])) _
  have sg1 : ∀ t, Steps p.tables e below (s₁.setTop (mkF m 1 #[iv p0, iv p1, iv p2, iv p3, iv p4, .unset, .unset, .unset, .unset, .unset, .unset, .unset, .unset] [(.int p0)])) t → Steps p.tables e below (s₁.setTop (mkF m 0 #[iv p0, iv p1, iv p2, iv p3, iv p4, .unset, .unset, .unset, .unset, .unset, .unset, .unset, .unset] [])) t := by
    intro t k
    refine XS.iloadN X0.here hx rfl (hb hby at_0) rfl ?_
    show Steps p.tables e below (s₁.setTop (mkF m 1 #[iv p0, iv p1, iv p2, iv p3, iv p4, .unset, .unset, .unset, .unset, .unset, .unset, .unset, .unset] [(.int p0)])) _
    exact k
  refine own_lift sg1 ?_
  show own_Go p.tables e below (s₁.setTop (mkF m 1 #[iv p0, iv p1, iv p2, iv p3, iv p4, .unset, .unset, .unset, .unset, .unset, .unset, .unset, .unset] [(.int p0)])) _
  obtain ⟨_, _, ⟨T2, Lx2, kx2, nx2⟩, -, X2, ⟨Lc2, hQ2, lx2, yx2, zx2⟩, st2⟩ := Jvm.LawKit.callS X0 hx (y := (⟨"com/example/allsome/allsome/cypher/InputPositionEqualsPinLaw", "pos", "(I)I"⟩ : MethodName)) hown (mvT hZ (wd hw 0 rfl)) (mvT hZ (wd hw 1 rfl)) (mvT hZ (wd hw 2 rfl)) (mvT hZ (wd hw 3 rfl)) (by decide) (backOf (W := 0) (rmPos l Z a0 hw [] p0 h0 n0 Z0 ) hZ (wd hw 3 rfl) (wd hw 2 rfl) (by decide) (by decide)) (g := (mkF m 1 #[iv p0, iv p1, iv p2, iv p3, iv p4, .unset, .unset, .unset, .unset, .unset, .unset, .unset, .unset] [(.int p0)])) rfl (by rw [hml]; rfl) (argsL := [(.int p0)]) (rest := []) (lenOf pd_2 rfl) rfl (by show 2 * 0 + _ ≤ _; exact Nat.le_of_eq rfl) (hb hby at_1) (fun _ _ => ⟨rfl, e0, (by decide : 0 + 0 ≤ _), (by decide : 0 + 0 ≤ _)⟩)
  dsimp only [Pt.U, Pt.locs, Pt.cells, Pt.slots] at X2 lx2 yx2 zx2 st2 hQ2
  subst lx2 yx2 zx2
  obtain ⟨rfl, N2q, e2⟩ := hQ2
  have N2 := Fr.app N0 N2q
  refine own_lift st2 ?_
  show own_Go p.tables e below (T2.setTop (mkF m 4 #[iv p0, iv p1, iv p2, iv p3, iv p4, .unset, .unset, .unset, .unset, .unset, .unset, .unset, .unset] [(.int (own_pos p0))])) _
  have sg3 : ∀ t, Steps p.tables e below (T2.setTop (mkF m 7 #[iv p0, iv p1, iv p2, iv p3, iv p4, iv (own_pos p0), .unset, .unset, .unset, .unset, .unset, .unset, .unset] [(.int p1)])) t → Steps p.tables e below (T2.setTop (mkF m 4 #[iv p0, iv p1, iv p2, iv p3, iv p4, .unset, .unset, .unset, .unset, .unset, .unset, .unset, .unset] [(.int (own_pos p0))])) t := by
    intro t k
    refine XS.istore X2.here hx rfl (hb hby at_4) rfl (l' := #[iv p0, iv p1, iv p2, iv p3, iv p4, iv (own_pos p0), .unset, .unset, .unset, .unset, .unset, .unset, .unset]) rfl ?_
    show Steps p.tables e below (T2.setTop (mkF m 6 #[iv p0, iv p1, iv p2, iv p3, iv p4, iv (own_pos p0), .unset, .unset, .unset, .unset, .unset, .unset, .unset] [])) _
    refine XS.iloadN X2.here hx rfl (hb hby at_6) rfl ?_
    show Steps p.tables e below (T2.setTop (mkF m 7 #[iv p0, iv p1, iv p2, iv p3, iv p4, iv (own_pos p0), .unset, .unset, .unset, .unset, .unset, .unset, .unset] [(.int p1)])) _
    exact k
  refine own_lift sg3 ?_
  show own_Go p.tables e below (T2.setTop (mkF m 7 #[iv p0, iv p1, iv p2, iv p3, iv p4, iv (own_pos p0), .unset, .unset, .unset, .unset, .unset, .unset, .unset] [(.int p1)])) _
  obtain ⟨_, _, ⟨T4, Lx4, kx4, nx4⟩, -, X4, ⟨Lc4, hQ4, lx4, yx4, zx4⟩, st4⟩ := Jvm.LawKit.callS X2 hx (y := (⟨"com/example/allsome/allsome/cypher/InputPositionEqualsPinLaw", "pos", "(I)I"⟩ : MethodName)) hown (mvT hZ (wd hw 0 rfl)) (mvT hZ (wd hw 1 rfl)) (mvT hZ (wd hw 2 rfl)) (mvT hZ (wd hw 3 rfl)) (by decide) (backOf (W := 0) (rmPos l Z a0 hw [] p1 h0 n0 Z0 ) hZ (wd hw 3 rfl) (wd hw 2 rfl) (by decide) (by decide)) (g := (mkF m 7 #[iv p0, iv p1, iv p2, iv p3, iv p4, iv (own_pos p0), .unset, .unset, .unset, .unset, .unset, .unset, .unset] [(.int p1)])) rfl (by rw [hml]; rfl) (argsL := [(.int p1)]) (rest := []) (lenOf pd_2 rfl) rfl (by show 2 * 0 + _ ≤ _; exact Nat.le_of_eq rfl) (hb hby at_7) (fun _ _ => ⟨rfl, e2, (by decide : 0 + 0 ≤ _), (by decide : 0 + 0 ≤ _)⟩)
  dsimp only [Pt.U, Pt.locs, Pt.cells, Pt.slots] at X4 lx4 yx4 zx4 st4 hQ4
  subst lx4 yx4 zx4
  obtain ⟨rfl, N4q, e4⟩ := hQ4
  have N4 := Fr.app N2 N4q
  refine own_lift st4 ?_
  show own_Go p.tables e below (T4.setTop (mkF m 10 #[iv p0, iv p1, iv p2, iv p3, iv p4, iv (own_pos p0), .unset, .unset, .unset, .unset, .unset, .unset, .unset] [(.int (own_pos p1))])) _
  have sg5 : ∀ t, Steps p.tables e below (T4.setTop (mkF m 12 #[iv p0, iv p1, iv p2, iv p3, iv p4, iv (own_pos p0), iv (own_pos p1), .unset, .unset, .unset, .unset, .unset, .unset] [])) t → Steps p.tables e below (T4.setTop (mkF m 10 #[iv p0, iv p1, iv p2, iv p3, iv p4, iv (own_pos p0), .unset, .unset, .unset, .unset, .unset, .unset, .unset] [(.int (own_pos p1))])) t := by
    intro t k
    refine XS.istore X4.here hx rfl (hb hby at_10) rfl (l' := #[iv p0, iv p1, iv p2, iv p3, iv p4, iv (own_pos p0), iv (own_pos p1), .unset, .unset, .unset, .unset, .unset, .unset]) rfl ?_
    show Steps p.tables e below (T4.setTop (mkF m 12 #[iv p0, iv p1, iv p2, iv p3, iv p4, iv (own_pos p0), iv (own_pos p1), .unset, .unset, .unset, .unset, .unset, .unset] [])) _
    exact k
  refine own_lift sg5 ?_
  show own_Go p.tables e below (T4.setTop (mkF m 12 #[iv p0, iv p1, iv p2, iv p3, iv p4, iv (own_pos p0), iv (own_pos p1), .unset, .unset, .unset, .unset, .unset, .unset] [])) _
  have join6 : ∀ (T6 : State) (locs6 : List Loc), Stand p l e room_1 s m #[(.int p0), (.int p1), (.int p2), (.int p3), (.int p4)] below meth c T6 locs6 0 0 → T6.heap = h0 → Fr n0 locs6 → own_Go p.tables e below (T6.setTop (mkF m 28 #[iv p0, iv p1, iv p2, iv p3, iv p4, iv (own_pos p0), iv (own_pos p1), .unset, .unset, .unset, .unset, .unset, .unset] [(.int (own_sel p4 1 p2 p0))])) (fun s₂ o => s₂.status = .running ∧ Ended s₂ below o ∧ ∃ v L, o = .returned v ∧ Q0 Z  h0 n0 v s₂.heap L ∧ FrameEnd s o s₂ L 16 128) := by
    intro T6 locs6 X6 e6 N6
    have sg7 : ∀ t, Steps p.tables e below (T6.setTop (mkF m 30 #[iv p0, iv p1, iv p2, iv p3, iv p4, iv (own_pos p0), iv (own_pos p1), iv (own_sel p4 1 p2 p0), .unset, .unset, .unset, .unset, .unset] [])) t → Steps p.tables e below (T6.setTop (mkF m 28 #[iv p0, iv p1, iv p2, iv p3, iv p4, iv (own_pos p0), iv (own_pos p1), .unset, .unset, .unset, .unset, .unset, .unset] [(.int (own_sel p4 1 p2 p0))])) t := by
      intro t k
      refine XS.istore X6.here hx rfl (hb hby at_28) rfl (l' := #[iv p0, iv p1, iv p2, iv p3, iv p4, iv (own_pos p0), iv (own_pos p1), iv (own_sel p4 1 p2 p0), .unset, .unset, .unset, .unset, .unset]) rfl ?_
      show Steps p.tables e below (T6.setTop (mkF m 30 #[iv p0, iv p1, iv p2, iv p3, iv p4, iv (own_pos p0), iv (own_pos p1), iv (own_sel p4 1 p2 p0), .unset, .unset, .unset, .unset, .unset] [])) _
      exact k
    refine own_lift sg7 ?_
    show own_Go p.tables e below (T6.setTop (mkF m 30 #[iv p0, iv p1, iv p2, iv p3, iv p4, iv (own_pos p0), iv (own_pos p1), iv (own_sel p4 1 p2 p0), .unset, .unset, .unset, .unset, .unset] [])) _
    have join8 : ∀ (T8 : State) (locs8 : List Loc), Stand p l e room_1 s m #[(.int p0), (.int p1), (.int p2), (.int p3), (.int p4)] below meth c T8 locs8 0 0 → T8.heap = h0 → Fr n0 locs8 → own_Go p.tables e below (T8.setTop (mkF m 46 #[iv p0, iv p1, iv p2, iv p3, iv p4, iv (own_pos p0), iv (own_pos p1), iv (own_sel p4 1 p2 p0), .unset, .unset, .unset, .unset, .unset] [(.int (own_sel p4 2 p3 p1))])) (fun s₂ o => s₂.status = .running ∧ Ended s₂ below o ∧ ∃ v L, o = .returned v ∧ Q0 Z  h0 n0 v s₂.heap L ∧ FrameEnd s o s₂ L 16 128) := by
      intro T8 locs8 X8 e8 N8
      have sg9 : ∀ t, Steps p.tables e below (T8.setTop (mkF m 48 #[iv p0, iv p1, iv p2, iv p3, iv p4, iv (own_pos p0), iv (own_pos p1), iv (own_sel p4 1 p2 p0), iv (own_sel p4 2 p3 p1), .unset, .unset, .unset, .unset] [])) t → Steps p.tables e below (T8.setTop (mkF m 46 #[iv p0, iv p1, iv p2, iv p3, iv p4, iv (own_pos p0), iv (own_pos p1), iv (own_sel p4 1 p2 p0), .unset, .unset, .unset, .unset, .unset] [(.int (own_sel p4 2 p3 p1))])) t := by
        intro t k
        refine XS.istore X8.here hx rfl (hb hby at_46) rfl (l' := #[iv p0, iv p1, iv p2, iv p3, iv p4, iv (own_pos p0), iv (own_pos p1), iv (own_sel p4 1 p2 p0), iv (own_sel p4 2 p3 p1), .unset, .unset, .unset, .unset]) rfl ?_
        show Steps p.tables e below (T8.setTop (mkF m 48 #[iv p0, iv p1, iv p2, iv p3, iv p4, iv (own_pos p0), iv (own_pos p1), iv (own_sel p4 1 p2 p0), iv (own_sel p4 2 p3 p1), .unset, .unset, .unset, .unset] [])) _
        exact k
      refine own_lift sg9 ?_
      show own_Go p.tables e below (T8.setTop (mkF m 48 #[iv p0, iv p1, iv p2, iv p3, iv p4, iv (own_pos p0), iv (own_pos p1), iv (own_sel p4 1 p2 p0), iv (own_sel p4 2 p3 p1), .unset, .unset, .unset, .unset] [])) _
      obtain ⟨T10, h10, X10, e10, Ex10, Ax10, Dx10, Ux10, st10⟩ := newO X8 hx hZ hown (wd hw 5 rfl) (wd hw 6 rfl) (wd hw 7 rfl) e8 (g := (mkF m 48 #[iv p0, iv p1, iv p2, iv p3, iv p4, iv (own_pos p0), iv (own_pos p1), iv (own_sel p4 1 p2 p0), iv (own_sel p4 2 p3 p1), .unset, .unset, .unset, .unset] [])) rfl (hb hby at_48) (by decide) (by decide)
      obtain ⟨ob10, g10⟩ : ∃ z, z = h0.size := ⟨_, rfl⟩
      rw [← g10] at Ax10 Dx10 Ux10 st10
      have ne11 : ca ≠ ob10 := Nat.ne_of_lt (Nat.lt_of_lt_of_le A1.lt (Nat.le_of_eq g10.symm))
      have Z10 : n0 ≤ h10.size := Nat.le_trans Z0 Ex10.1
      have ge10 : n0 ≤ ob10 := Nat.le_trans Z0 (Nat.le_of_eq g10.symm)
      have Fn10_15 : Fld Z h10 ob10 "com/example/allsome/allsome/cypher/InputPosition" "line" "I" (.int 0) := Dx10 (Or.inr (wd hw 15 rfl)) (ty := .int) (by decide)
      have Fn10_17 : Fld Z h10 ob10 "com/example/allsome/allsome/cypher/InputPosition" "column" "I" (.int 0) := Dx10 (Or.inr (wd hw 17 rfl)) (ty := .int) (by decide)
      refine own_lift st10 ?_
      show own_Go p.tables e below (T10.setTop (mkF m 51 #[iv p0, iv p1, iv p2, iv p3, iv p4, iv (own_pos p0), iv (own_pos p1), iv (own_sel p4 1 p2 p0), iv (own_sel p4 2 p3 p1), .unset, .unset, .unset, .unset] [(.ref ob10)])) _
      have sg12 : ∀ t, Steps p.tables e below (T10.setTop (mkF m 56 #[iv p0, iv p1, iv p2, iv p3, iv p4, iv (own_pos p0), iv (own_pos p1), iv (own_sel p4 1 p2 p0), iv (own_sel p4 2 p3 p1), .unset, .unset, .unset, .unset] [(.int (own_pos p1)), (.int (own_pos p0)), (.ref ob10), (.ref ob10)])) t → Steps p.tables e below (T10.setTop (mkF m 51 #[iv p0, iv p1, iv p2, iv p3, iv p4, iv (own_pos p0), iv (own_pos p1), iv (own_sel p4 1 p2 p0), iv (own_sel p4 2 p3 p1), .unset, .unset, .unset, .unset] [(.ref ob10)])) t := by
        intro t k
        refine XS.dup X10.here hx rfl (hb hby at_51) rfl rfl ?_
        show Steps p.tables e below (T10.setTop (mkF m 52 #[iv p0, iv p1, iv p2, iv p3, iv p4, iv (own_pos p0), iv (own_pos p1), iv (own_sel p4 1 p2 p0), iv (own_sel p4 2 p3 p1), .unset, .unset, .unset, .unset] [(.ref ob10), (.ref ob10)])) _
        refine XS.iload X10.here hx rfl (hb hby at_52) rfl ?_
        show Steps p.tables e below (T10.setTop (mkF m 54 #[iv p0, iv p1, iv p2, iv p3, iv p4, iv (own_pos p0), iv (own_pos p1), iv (own_sel p4 1 p2 p0), iv (own_sel p4 2 p3 p1), .unset, .unset, .unset, .unset] [(.int (own_pos p0)), (.ref ob10), (.ref ob10)])) _
        refine XS.iload X10.here hx rfl (hb hby at_54) rfl ?_
        show Steps p.tables e below (T10.setTop (mkF m 56 #[iv p0, iv p1, iv p2, iv p3, iv p4, iv (own_pos p0), iv (own_pos p1), iv (own_sel p4 1 p2 p0), iv (own_sel p4 2 p3 p1), .unset, .unset, .unset, .unset] [(.int (own_pos p1)), (.int (own_pos p0)), (.ref ob10), (.ref ob10)])) _
        exact k
      refine own_lift sg12 ?_
      show own_Go p.tables e below (T10.setTop (mkF m 56 #[iv p0, iv p1, iv p2, iv p3, iv p4, iv (own_pos p0), iv (own_pos p1), iv (own_sel p4 1 p2 p0), iv (own_sel p4 2 p3 p1), .unset, .unset, .unset, .unset] [(.int (own_pos p1)), (.int (own_pos p0)), (.ref ob10), (.ref ob10)])) _
      obtain ⟨_, _, ⟨T13, Lx13, kx13, nx13⟩, -, X13, ⟨Lc13, hQ13, lx13, yx13, zx13⟩, st13⟩ := X10.specialBack hx (y := (⟨"com/example/allsome/allsome/cypher/InputPosition", "<init>", "(II)V"⟩ : MethodName)) rfl hown (mvT hZ (wd hw 8 rfl)) (mvT hZ (wd hw 9 rfl)) (mvT hZ (wd hw 10 rfl)) (by decide) (backOf (W := 1) (rmInit l Z a0 hw [] ob10 (own_pos p0) (own_pos p1) h10 n0 Z10 Fn10_15 Fn10_17 Ax10 ge10 (own_pos_ge p0) (own_pos_ge p1)) hZ (wd hw 10 rfl) (wd hw 7 rfl) (by decide) (by decide)) (g := (mkF m 56 #[iv p0, iv p1, iv p2, iv p3, iv p4, iv (own_pos p0), iv (own_pos p1), iv (own_sel p4 1 p2 p0), iv (own_sel p4 2 p3 p1), .unset, .unset, .unset, .unset] [(.int (own_pos p1)), (.int (own_pos p0)), (.ref ob10), (.ref ob10)])) rfl (by rw [hml]; rfl) (Steps.refl _) (a := ob10) (argsL := [(.int (own_pos p0)), (.int (own_pos p1))]) (rest := [(.ref ob10)]) (lenOf pd_3 rfl) rfl (by show 2 * 0 + _ ≤ _; exact Nat.le_of_eq rfl) (hb hby at_56) (fun _ _ => ⟨rfl, e10, (by decide : 1 + 0 ≤ _), (by decide : 2 + 0 ≤ _)⟩)
      dsimp only [Pt.U, Pt.locs, Pt.cells, Pt.slots] at X13 lx13 yx13 zx13 st13 hQ13
      subst lx13 yx13 zx13
      obtain ⟨rfl, N13q, p13_0, p13_1, p13_2, p13_3⟩ := hQ13
      have N13 := Fr.app N8 N13q
      have Z13 : n0 ≤ T13.heap.size := Nat.le_trans Z10 p13_0.1
      refine own_lift (fun t k => st13.trans k) ?_
      show own_Go p.tables e below (T13.setTop (mkF m 59 #[iv p0, iv p1, iv p2, iv p3, iv p4, iv (own_pos p0), iv (own_pos p1), iv (own_sel p4 1 p2 p0), iv (own_sel p4 2 p3 p1), .unset, .unset, .unset, .unset] [(.ref ob10)])) _
      have sg14 : ∀ t, Steps p.tables e below (T13.setTop (mkF m 61 #[iv p0, iv p1, iv p2, iv p3, iv p4, iv (own_pos p0), iv (own_pos p1), iv (own_sel p4 1 p2 p0), iv (own_sel p4 2 p3 p1), rv ob10, .unset, .unset, .unset] [])) t → Steps p.tables e below (T13.setTop (mkF m 59 #[iv p0, iv p1, iv p2, iv p3, iv p4, iv (own_pos p0), iv (own_pos p1), iv (own_sel p4 1 p2 p0), iv (own_sel p4 2 p3 p1), .unset, .unset, .unset, .unset] [(.ref ob10)])) t := by
        intro t k
        refine XS.astore X13.here hx rfl (hb hby at_59) rfl rfl (l' := #[iv p0, iv p1, iv p2, iv p3, iv p4, iv (own_pos p0), iv (own_pos p1), iv (own_sel p4 1 p2 p0), iv (own_sel p4 2 p3 p1), rv ob10, .unset, .unset, .unset]) rfl ?_
        show Steps p.tables e below (T13.setTop (mkF m 61 #[iv p0, iv p1, iv p2, iv p3, iv p4, iv (own_pos p0), iv (own_pos p1), iv (own_sel p4 1 p2 p0), iv (own_sel p4 2 p3 p1), rv ob10, .unset, .unset, .unset] [])) _
        exact k
      refine own_lift sg14 ?_
      show own_Go p.tables e below (T13.setTop (mkF m 61 #[iv p0, iv p1, iv p2, iv p3, iv p4, iv (own_pos p0), iv (own_pos p1), iv (own_sel p4 1 p2 p0), iv (own_sel p4 2 p3 p1), rv ob10, .unset, .unset, .unset] [])) _
      obtain ⟨T15, h15, X15, e15, Ex15, Ax15, Dx15, Ux15, st15⟩ := newO X13 hx hZ hown (wd hw 5 rfl) (wd hw 6 rfl) (wd hw 7 rfl) rfl (g := (mkF m 61 #[iv p0, iv p1, iv p2, iv p3, iv p4, iv (own_pos p0), iv (own_pos p1), iv (own_sel p4 1 p2 p0), iv (own_sel p4 2 p3 p1), rv ob10, .unset, .unset, .unset] [])) rfl (hb hby at_61) (by decide) (by decide)
      obtain ⟨ob15, g15⟩ : ∃ z, z = T13.heap.size := ⟨_, rfl⟩
      rw [← g15] at Ax15 Dx15 Ux15 st15
      have Fc16 : Arr Z T13.heap ca cc (.object "java/lang/Integer") := (own_Arr_keep (A1.ext Ex10) p13_0 (ninS ne11 nin0))
      have ne17 : ca ≠ ob15 := Nat.ne_of_lt (Nat.lt_of_lt_of_le Fc16.lt (Nat.le_of_eq g15.symm))
      have ne18 : ob10 ≠ ob15 := Nat.ne_of_lt (Nat.lt_of_lt_of_le p13_1.lt (Nat.le_of_eq g15.symm))
      have Z15 : n0 ≤ h15.size := Nat.le_trans Z13 Ex15.1
      have ge15 : n0 ≤ ob15 := Nat.le_trans Z13 (Nat.le_of_eq g15.symm)
      have Fn15_15 : Fld Z h15 ob15 "com/example/allsome/allsome/cypher/InputPosition" "line" "I" (.int 0) := Dx15 (Or.inr (wd hw 15 rfl)) (ty := .int) (by decide)
      have Fn15_17 : Fld Z h15 ob15 "com/example/allsome/allsome/cypher/InputPosition" "column" "I" (.int 0) := Dx15 (Or.inr (wd hw 17 rfl)) (ty := .int) (by decide)
      refine own_lift st15 ?_
      show own_Go p.tables e below (T15.setTop (mkF m 64 #[iv p0, iv p1, iv p2, iv p3, iv p4, iv (own_pos p0), iv (own_pos p1), iv (own_sel p4 1 p2 p0), iv (own_sel p4 2 p3 p1), rv ob10, .unset, .unset, .unset] [(.ref ob15)])) _
      have sg19 : ∀ t, Steps p.tables e below (T15.setTop (mkF m 69 #[iv p0, iv p1, iv p2, iv p3, iv p4, iv (own_pos p0), iv (own_pos p1), iv (own_sel p4 1 p2 p0), iv (own_sel p4 2 p3 p1), rv ob10, .unset, .unset, .unset] [(.int (own_sel p4 2 p3 p1)), (.int (own_sel p4 1 p2 p0)), (.ref ob15), (.ref ob15)])) t → Steps p.tables e below (T15.setTop (mkF m 64 #[iv p0, iv p1, iv p2, iv p3, iv p4, iv (own_pos p0), iv (own_pos p1), iv (own_sel p4 1 p2 p0), iv (own_sel p4 2 p3 p1), rv ob10, .unset, .unset, .unset] [(.ref ob15)])) t := by
        intro t k
        refine XS.dup X15.here hx rfl (hb hby at_64) rfl rfl ?_
        show Steps p.tables e below (T15.setTop (mkF m 65 #[iv p0, iv p1, iv p2, iv p3, iv p4, iv (own_pos p0), iv (own_pos p1), iv (own_sel p4 1 p2 p0), iv (own_sel p4 2 p3 p1), rv ob10, .unset, .unset, .unset] [(.ref ob15), (.ref ob15)])) _
        refine XS.iload X15.here hx rfl (hb hby at_65) rfl ?_
        show Steps p.tables e below (T15.setTop (mkF m 67 #[iv p0, iv p1, iv p2, iv p3, iv p4, iv (own_pos p0), iv (own_pos p1), iv (own_sel p4 1 p2 p0), iv (own_sel p4 2 p3 p1), rv ob10, .unset, .unset, .unset] [(.int (own_sel p4 1 p2 p0)), (.ref ob15), (.ref ob15)])) _
        refine XS.iload X15.here hx rfl (hb hby at_67) rfl ?_
        show Steps p.tables e below (T15.setTop (mkF m 69 #[iv p0, iv p1, iv p2, iv p3, iv p4, iv (own_pos p0), iv (own_pos p1), iv (own_sel p4 1 p2 p0), iv (own_sel p4 2 p3 p1), rv ob10, .unset, .unset, .unset] [(.int (own_sel p4 2 p3 p1)), (.int (own_sel p4 1 p2 p0)), (.ref ob15), (.ref ob15)])) _
        exact k
      refine own_lift sg19 ?_
      show own_Go p.tables e below (T15.setTop (mkF m 69 #[iv p0, iv p1, iv p2, iv p3, iv p4, iv (own_pos p0), iv (own_pos p1), iv (own_sel p4 1 p2 p0), iv (own_sel p4 2 p3 p1), rv ob10, .unset, .unset, .unset] [(.int (own_sel p4 2 p3 p1)), (.int (own_sel p4 1 p2 p0)), (.ref ob15), (.ref ob15)])) _
      obtain ⟨_, _, ⟨T20, Lx20, kx20, nx20⟩, -, X20, ⟨Lc20, hQ20, lx20, yx20, zx20⟩, st20⟩ := X15.specialBack hx (y := (⟨"com/example/allsome/allsome/cypher/InputPosition", "<init>", "(II)V"⟩ : MethodName)) rfl hown (mvT hZ (wd hw 8 rfl)) (mvT hZ (wd hw 9 rfl)) (mvT hZ (wd hw 10 rfl)) (by decide) (backOf (W := 1) (rmInit l Z a0 hw [] ob15 (own_sel p4 1 p2 p0) (own_sel p4 2 p3 p1) h15 n0 Z15 Fn15_15 Fn15_17 Ax15 ge15 (own_sel_ge _ _ _ _) (own_sel_ge _ _ _ _)) hZ (wd hw 10 rfl) (wd hw 7 rfl) (by decide) (by decide)) (g := (mkF m 69 #[iv p0, iv p1, iv p2, iv p3, iv p4, iv (own_pos p0), iv (own_pos p1), iv (own_sel p4 1 p2 p0), iv (own_sel p4 2 p3 p1), rv ob10, .unset, .unset, .unset] [(.int (own_sel p4 2 p3 p1)), (.int (own_sel p4 1 p2 p0)), (.ref ob15), (.ref ob15)])) rfl (by rw [hml]; rfl) (Steps.refl _) (a := ob15) (argsL := [(.int (own_sel p4 1 p2 p0)), (.int (own_sel p4 2 p3 p1))]) (rest := [(.ref ob15)]) (lenOf pd_3 rfl) rfl (by show 2 * 0 + _ ≤ _; exact Nat.le_of_eq rfl) (hb hby at_69) (fun _ _ => ⟨rfl, e15, (by decide : 2 + 0 ≤ _), (by decide : 4 + 0 ≤ _)⟩)
      dsimp only [Pt.U, Pt.locs, Pt.cells, Pt.slots] at X20 lx20 yx20 zx20 st20 hQ20
      subst lx20 yx20 zx20
      obtain ⟨rfl, N20q, p20_0, p20_1, p20_2, p20_3⟩ := hQ20
      have N20 := Fr.app N13 N20q
      have Z20 : n0 ≤ T20.heap.size := Nat.le_trans Z15 p20_0.1
      refine own_lift (fun t k => st20.trans k) ?_
      show own_Go p.tables e below (T20.setTop (mkF m 72 #[iv p0, iv p1, iv p2, iv p3, iv p4, iv (own_pos p0), iv (own_pos p1), iv (own_sel p4 1 p2 p0), iv (own_sel p4 2 p3 p1), rv ob10, .unset, .unset, .unset] [(.ref ob15)])) _
      have sg21 : ∀ t, Steps p.tables e below (T20.setTop (mkF m 112 #[iv p0, iv p1, iv p2, iv p3, iv p4, iv (own_pos p0), iv (own_pos p1), iv (own_sel p4 1 p2 p0), iv (own_sel p4 2 p3 p1), rv ob10, rv ob15, iv (((p4.toUInt32 >>> ((2 : Int32) &&& 31).toUInt32).toInt32) &&& (3 : Int32)), iv 1] [(.ref ob15), (.ref ob10)])) t → Steps p.tables e below (T20.setTop (mkF m 72 #[iv p0, iv p1, iv p2, iv p3, iv p4, iv (own_pos p0), iv (own_pos p1), iv (own_sel p4 1 p2 p0), iv (own_sel p4 2 p3 p1), rv ob10, .unset, .unset, .unset] [(.ref ob15)])) t := by
        intro t k
        refine XS.astore X20.here hx rfl (hb hby at_72) rfl rfl (l' := #[iv p0, iv p1, iv p2, iv p3, iv p4, iv (own_pos p0), iv (own_pos p1), iv (own_sel p4 1 p2 p0), iv (own_sel p4 2 p3 p1), rv ob10, rv ob15, .unset, .unset]) rfl ?_
        show Steps p.tables e below (T20.setTop (mkF m 74 #[iv p0, iv p1, iv p2, iv p3, iv p4, iv (own_pos p0), iv (own_pos p1), iv (own_sel p4 1 p2 p0), iv (own_sel p4 2 p3 p1), rv ob10, rv ob15, .unset, .unset] [])) _
        refine XS.iload X20.here hx rfl (hb hby at_74) rfl ?_
        show Steps p.tables e below (T20.setTop (mkF m 76 #[iv p0, iv p1, iv p2, iv p3, iv p4, iv (own_pos p0), iv (own_pos p1), iv (own_sel p4 1 p2 p0), iv (own_sel p4 2 p3 p1), rv ob10, rv ob15, .unset, .unset] [(.int p4)])) _
        refine XS.iconst X20.here hx rfl (hb hby at_76) ?_
        show Steps p.tables e below (T20.setTop (mkF m 77 #[iv p0, iv p1, iv p2, iv p3, iv p4, iv (own_pos p0), iv (own_pos p1), iv (own_sel p4 1 p2 p0), iv (own_sel p4 2 p3 p1), rv ob10, rv ob15, .unset, .unset] [(.int 2), (.int p4)])) _
        refine XS.iushr X20.here hx rfl (hb hby at_77) rfl ?_
        show Steps p.tables e below (T20.setTop (mkF m 78 #[iv p0, iv p1, iv p2, iv p3, iv p4, iv (own_pos p0), iv (own_pos p1), iv (own_sel p4 1 p2 p0), iv (own_sel p4 2 p3 p1), rv ob10, rv ob15, .unset, .unset] [(.int ((p4.toUInt32 >>> ((2 : Int32) &&& 31).toUInt32).toInt32))])) _
        refine XS.iconst X20.here hx rfl (hb hby at_78) ?_
        show Steps p.tables e below (T20.setTop (mkF m 79 #[iv p0, iv p1, iv p2, iv p3, iv p4, iv (own_pos p0), iv (own_pos p1), iv (own_sel p4 1 p2 p0), iv (own_sel p4 2 p3 p1), rv ob10, rv ob15, .unset, .unset] [(.int 3), (.int ((p4.toUInt32 >>> ((2 : Int32) &&& 31).toUInt32).toInt32))])) _
        refine XS.iand X20.here hx rfl (hb hby at_79) rfl ?_
        show Steps p.tables e below (T20.setTop (mkF m 80 #[iv p0, iv p1, iv p2, iv p3, iv p4, iv (own_pos p0), iv (own_pos p1), iv (own_sel p4 1 p2 p0), iv (own_sel p4 2 p3 p1), rv ob10, rv ob15, .unset, .unset] [(.int (((p4.toUInt32 >>> ((2 : Int32) &&& 31).toUInt32).toInt32) &&& (3 : Int32)))])) _
        refine XS.istore X20.here hx rfl (hb hby at_80) rfl (l' := #[iv p0, iv p1, iv p2, iv p3, iv p4, iv (own_pos p0), iv (own_pos p1), iv (own_sel p4 1 p2 p0), iv (own_sel p4 2 p3 p1), rv ob10, rv ob15, iv (((p4.toUInt32 >>> ((2 : Int32) &&& 31).toUInt32).toInt32) &&& (3 : Int32)), .unset]) rfl ?_
        show Steps p.tables e below (T20.setTop (mkF m 82 #[iv p0, iv p1, iv p2, iv p3, iv p4, iv (own_pos p0), iv (own_pos p1), iv (own_sel p4 1 p2 p0), iv (own_sel p4 2 p3 p1), rv ob10, rv ob15, iv (((p4.toUInt32 >>> ((2 : Int32) &&& 31).toUInt32).toInt32) &&& (3 : Int32)), .unset] [])) _
        refine XS.iload X20.here hx rfl (hb hby at_82) rfl ?_
        show Steps p.tables e below (T20.setTop (mkF m 84 #[iv p0, iv p1, iv p2, iv p3, iv p4, iv (own_pos p0), iv (own_pos p1), iv (own_sel p4 1 p2 p0), iv (own_sel p4 2 p3 p1), rv ob10, rv ob15, iv (((p4.toUInt32 >>> ((2 : Int32) &&& 31).toUInt32).toInt32) &&& (3 : Int32)), .unset] [(.int (((p4.toUInt32 >>> ((2 : Int32) &&& 31).toUInt32).toInt32) &&& (3 : Int32)))])) _
        refine XS.ifNo X20.here hx rfl (hb hby at_84) rfl ((if0 _ _).trans (teq k0).2) ?_
        show Steps p.tables e below (T20.setTop (mkF m 87 #[iv p0, iv p1, iv p2, iv p3, iv p4, iv (own_pos p0), iv (own_pos p1), iv (own_sel p4 1 p2 p0), iv (own_sel p4 2 p3 p1), rv ob10, rv ob15, iv (((p4.toUInt32 >>> ((2 : Int32) &&& 31).toUInt32).toInt32) &&& (3 : Int32)), .unset] [])) _
        refine XS.iload X20.here hx rfl (hb hby at_87) rfl ?_
        show Steps p.tables e below (T20.setTop (mkF m 89 #[iv p0, iv p1, iv p2, iv p3, iv p4, iv (own_pos p0), iv (own_pos p1), iv (own_sel p4 1 p2 p0), iv (own_sel p4 2 p3 p1), rv ob10, rv ob15, iv (((p4.toUInt32 >>> ((2 : Int32) &&& 31).toUInt32).toInt32) &&& (3 : Int32)), .unset] [(.int (own_pos p0))])) _
        refine XS.iload X20.here hx rfl (hb hby at_89) rfl ?_
        show Steps p.tables e below (T20.setTop (mkF m 91 #[iv p0, iv p1, iv p2, iv p3, iv p4, iv (own_pos p0), iv (own_pos p1), iv (own_sel p4 1 p2 p0), iv (own_sel p4 2 p3 p1), rv ob10, rv ob15, iv (((p4.toUInt32 >>> ((2 : Int32) &&& 31).toUInt32).toInt32) &&& (3 : Int32)), .unset] [(.int (own_sel p4 1 p2 p0)), (.int (own_pos p0))])) _
        refine XS.icmpNo X20.here hx rfl (hb hby at_91) rfl (teq hl).2 ?_
        show Steps p.tables e below (T20.setTop (mkF m 94 #[iv p0, iv p1, iv p2, iv p3, iv p4, iv (own_pos p0), iv (own_pos p1), iv (own_sel p4 1 p2 p0), iv (own_sel p4 2 p3 p1), rv ob10, rv ob15, iv (((p4.toUInt32 >>> ((2 : Int32) &&& 31).toUInt32).toInt32) &&& (3 : Int32)), .unset] [])) _
        refine XS.iload X20.here hx rfl (hb hby at_94) rfl ?_
        show Steps p.tables e below (T20.setTop (mkF m 96 #[iv p0, iv p1, iv p2, iv p3, iv p4, iv (own_pos p0), iv (own_pos p1), iv (own_sel p4 1 p2 p0), iv (own_sel p4 2 p3 p1), rv ob10, rv ob15, iv (((p4.toUInt32 >>> ((2 : Int32) &&& 31).toUInt32).toInt32) &&& (3 : Int32)), .unset] [(.int (own_pos p1))])) _
        refine XS.iload X20.here hx rfl (hb hby at_96) rfl ?_
        show Steps p.tables e below (T20.setTop (mkF m 98 #[iv p0, iv p1, iv p2, iv p3, iv p4, iv (own_pos p0), iv (own_pos p1), iv (own_sel p4 1 p2 p0), iv (own_sel p4 2 p3 p1), rv ob10, rv ob15, iv (((p4.toUInt32 >>> ((2 : Int32) &&& 31).toUInt32).toInt32) &&& (3 : Int32)), .unset] [(.int (own_sel p4 2 p3 p1)), (.int (own_pos p1))])) _
        refine XS.icmpNo X20.here hx rfl (hb hby at_98) rfl (teq hc).2 ?_
        show Steps p.tables e below (T20.setTop (mkF m 101 #[iv p0, iv p1, iv p2, iv p3, iv p4, iv (own_pos p0), iv (own_pos p1), iv (own_sel p4 1 p2 p0), iv (own_sel p4 2 p3 p1), rv ob10, rv ob15, iv (((p4.toUInt32 >>> ((2 : Int32) &&& 31).toUInt32).toInt32) &&& (3 : Int32)), .unset] [])) _
        refine XS.iconst X20.here hx rfl (hb hby at_101) ?_
        show Steps p.tables e below (T20.setTop (mkF m 102 #[iv p0, iv p1, iv p2, iv p3, iv p4, iv (own_pos p0), iv (own_pos p1), iv (own_sel p4 1 p2 p0), iv (own_sel p4 2 p3 p1), rv ob10, rv ob15, iv (((p4.toUInt32 >>> ((2 : Int32) &&& 31).toUInt32).toInt32) &&& (3 : Int32)), .unset] [(.int 1)])) _
        refine XS.goto X20.here hx rfl (pc0 := 102) (pc' := 106) rfl (hb hby at_102) (by decide) (by decide) ?_
        show Steps p.tables e below (T20.setTop (mkF m 106 #[iv p0, iv p1, iv p2, iv p3, iv p4, iv (own_pos p0), iv (own_pos p1), iv (own_sel p4 1 p2 p0), iv (own_sel p4 2 p3 p1), rv ob10, rv ob15, iv (((p4.toUInt32 >>> ((2 : Int32) &&& 31).toUInt32).toInt32) &&& (3 : Int32)), .unset] [(.int 1)])) _
        refine XS.istore X20.here hx rfl (hb hby at_106) rfl (l' := #[iv p0, iv p1, iv p2, iv p3, iv p4, iv (own_pos p0), iv (own_pos p1), iv (own_sel p4 1 p2 p0), iv (own_sel p4 2 p3 p1), rv ob10, rv ob15, iv (((p4.toUInt32 >>> ((2 : Int32) &&& 31).toUInt32).toInt32) &&& (3 : Int32)), iv 1]) rfl ?_
        show Steps p.tables e below (T20.setTop (mkF m 108 #[iv p0, iv p1, iv p2, iv p3, iv p4, iv (own_pos p0), iv (own_pos p1), iv (own_sel p4 1 p2 p0), iv (own_sel p4 2 p3 p1), rv ob10, rv ob15, iv (((p4.toUInt32 >>> ((2 : Int32) &&& 31).toUInt32).toInt32) &&& (3 : Int32)), iv 1] [])) _
        refine XS.aload X20.here hx rfl (hb hby at_108) rfl rfl ?_
        show Steps p.tables e below (T20.setTop (mkF m 110 #[iv p0, iv p1, iv p2, iv p3, iv p4, iv (own_pos p0), iv (own_pos p1), iv (own_sel p4 1 p2 p0), iv (own_sel p4 2 p3 p1), rv ob10, rv ob15, iv (((p4.toUInt32 >>> ((2 : Int32) &&& 31).toUInt32).toInt32) &&& (3 : Int32)), iv 1] [(.ref ob10)])) _
        refine XS.aload X20.here hx rfl (hb hby at_110) rfl rfl ?_
        show Steps p.tables e below (T20.setTop (mkF m 112 #[iv p0, iv p1, iv p2, iv p3, iv p4, iv (own_pos p0), iv (own_pos p1), iv (own_sel p4 1 p2 p0), iv (own_sel p4 2 p3 p1), rv ob10, rv ob15, iv (((p4.toUInt32 >>> ((2 : Int32) &&& 31).toUInt32).toInt32) &&& (3 : Int32)), iv 1] [(.ref ob15), (.ref ob10)])) _
        exact k
      refine own_lift sg21 ?_
      show own_Go p.tables e below (T20.setTop (mkF m 112 #[iv p0, iv p1, iv p2, iv p3, iv p4, iv (own_pos p0), iv (own_pos p1), iv (own_sel p4 1 p2 p0), iv (own_sel p4 2 p3 p1), rv ob10, rv ob15, iv (((p4.toUInt32 >>> ((2 : Int32) &&& 31).toUInt32).toInt32) &&& (3 : Int32)), iv 1] [(.ref ob15), (.ref ob10)])) _
      have Fc22 : Fld Z T20.heap ob10 "com/example/allsome/allsome/cypher/InputPosition" "line" "I" (.int (own_pos p0)) := ((p13_2.ext Ex15).keep p20_0 (ninS ne18 nin0))
      have Fc23 : Fld Z T20.heap ob10 "com/example/allsome/allsome/cypher/InputPosition" "column" "I" (.int (own_pos p1)) := ((p13_3.ext Ex15).keep p20_0 (ninS ne18 nin0))
      have Fc25 : Exa Z T20.heap ob10 "com/example/allsome/allsome/cypher/InputPosition" := ((p13_1.ext Ex15).keep p20_0)
      obtain ⟨cq24, kq24, q24a, q24b, q24c⟩ := isOf hZ rfl Fc25
      obtain ⟨_, _, ⟨T24, Lx24, kx24, nx24⟩, -, X24, ⟨Lc24, hQ24, lx24, yx24, zx24⟩, st24⟩ := X20.virtualBack hx (y := (⟨"com/example/allsome/allsome/cypher/InputPosition", "equals", "(Ljava/lang/Object;)Z"⟩ : MethodName)) (z := (⟨"com/example/allsome/allsome/cypher/InputPosition", "equals", "(Ljava/lang/Object;)Z"⟩ : MethodName)) hown (mvT hZ (wd hw 18 rfl)) (mvT hZ (wd hw 19 rfl)) (notFace_of_selects (args := #[]) (mvT hZ (wd hw 21 rfl))) (mvT hZ (wd hw 21 rfl)) (mvT hZ (wd hw 20 rfl)) (by decide) (backOf (W := 0) (rmEqY l Z a0 hw [] ob10 ob15 (own_pos p0) (own_pos p1) (own_sel p4 1 p2 p0) (own_sel p4 2 p3 p1) T20.heap n0 Z20 Fc22 Fc23 p20_2 p20_3 p20_1 hl hc) hZ (wd hw 22 rfl) (wd hw 7 rfl) (by decide) (by decide)) q24a q24c (g := (mkF m 112 #[iv p0, iv p1, iv p2, iv p3, iv p4, iv (own_pos p0), iv (own_pos p1), iv (own_sel p4 1 p2 p0), iv (own_sel p4 2 p3 p1), rv ob10, rv ob15, iv (((p4.toUInt32 >>> ((2 : Int32) &&& 31).toUInt32).toInt32) &&& (3 : Int32)), iv 1] [(.ref ob15), (.ref ob10)])) rfl (by rw [hml]; rfl) (Steps.refl _) (argsL := [(.ref ob15)]) (rest := []) (lenOf pd_4 rfl) rfl (by show 2 * 0 + _ ≤ _; exact Nat.le_of_eq rfl) (hb hby at_112) (fun _ _ => ⟨rfl, rfl, (by decide : 2 + 0 ≤ _), (by decide : 4 + 0 ≤ _)⟩)
      dsimp only [Pt.U, Pt.locs, Pt.cells, Pt.slots] at X24 lx24 yx24 zx24 st24 hQ24
      subst lx24 yx24 zx24
      obtain ⟨rfl, N24q, e24⟩ := hQ24
      have N24 := Fr.app N20 N24q
      refine own_lift (fun t k => st24.trans k) ?_
      show own_Go p.tables e below (T24.setTop (mkF m 115 #[iv p0, iv p1, iv p2, iv p3, iv p4, iv (own_pos p0), iv (own_pos p1), iv (own_sel p4 1 p2 p0), iv (own_sel p4 2 p3 p1), rv ob10, rv ob15, iv (((p4.toUInt32 >>> ((2 : Int32) &&& 31).toUInt32).toInt32) &&& (3 : Int32)), iv 1] [(.int 1)])) _
      have sg26 : ∀ t, Steps p.tables e below (T24.setTop (mkF m 124 #[iv p0, iv p1, iv p2, iv p3, iv p4, iv (own_pos p0), iv (own_pos p1), iv (own_sel p4 1 p2 p0), iv (own_sel p4 2 p3 p1), rv ob10, rv ob15, iv (((p4.toUInt32 >>> ((2 : Int32) &&& 31).toUInt32).toInt32) &&& (3 : Int32)), iv 1] [(.ref ob10), (.ref ob15)])) t → Steps p.tables e below (T24.setTop (mkF m 115 #[iv p0, iv p1, iv p2, iv p3, iv p4, iv (own_pos p0), iv (own_pos p1), iv (own_sel p4 1 p2 p0), iv (own_sel p4 2 p3 p1), rv ob10, rv ob15, iv (((p4.toUInt32 >>> ((2 : Int32) &&& 31).toUInt32).toInt32) &&& (3 : Int32)), iv 1] [(.int 1)])) t := by
        intro t k
        refine XS.iload X24.here hx rfl (hb hby at_115) rfl ?_
        show Steps p.tables e below (T24.setTop (mkF m 117 #[iv p0, iv p1, iv p2, iv p3, iv p4, iv (own_pos p0), iv (own_pos p1), iv (own_sel p4 1 p2 p0), iv (own_sel p4 2 p3 p1), rv ob10, rv ob15, iv (((p4.toUInt32 >>> ((2 : Int32) &&& 31).toUInt32).toInt32) &&& (3 : Int32)), iv 1] [(.int 1), (.int 1)])) _
        refine XS.icmpNo X24.here hx rfl (hb hby at_117) rfl (teq (by decide : (1 : Int32) = (1 : Int32))).2 ?_
        show Steps p.tables e below (T24.setTop (mkF m 120 #[iv p0, iv p1, iv p2, iv p3, iv p4, iv (own_pos p0), iv (own_pos p1), iv (own_sel p4 1 p2 p0), iv (own_sel p4 2 p3 p1), rv ob10, rv ob15, iv (((p4.toUInt32 >>> ((2 : Int32) &&& 31).toUInt32).toInt32) &&& (3 : Int32)), iv 1] [])) _
        refine XS.aload X24.here hx rfl (hb hby at_120) rfl rfl ?_
        show Steps p.tables e below (T24.setTop (mkF m 122 #[iv p0, iv p1, iv p2, iv p3, iv p4, iv (own_pos p0), iv (own_pos p1), iv (own_sel p4 1 p2 p0), iv (own_sel p4 2 p3 p1), rv ob10, rv ob15, iv (((p4.toUInt32 >>> ((2 : Int32) &&& 31).toUInt32).toInt32) &&& (3 : Int32)), iv 1] [(.ref ob15)])) _
        refine XS.aload X24.here hx rfl (hb hby at_122) rfl rfl ?_
        show Steps p.tables e below (T24.setTop (mkF m 124 #[iv p0, iv p1, iv p2, iv p3, iv p4, iv (own_pos p0), iv (own_pos p1), iv (own_sel p4 1 p2 p0), iv (own_sel p4 2 p3 p1), rv ob10, rv ob15, iv (((p4.toUInt32 >>> ((2 : Int32) &&& 31).toUInt32).toInt32) &&& (3 : Int32)), iv 1] [(.ref ob10), (.ref ob15)])) _
        exact k
      refine own_lift sg26 ?_
      show own_Go p.tables e below (T24.setTop (mkF m 124 #[iv p0, iv p1, iv p2, iv p3, iv p4, iv (own_pos p0), iv (own_pos p1), iv (own_sel p4 1 p2 p0), iv (own_sel p4 2 p3 p1), rv ob10, rv ob15, iv (((p4.toUInt32 >>> ((2 : Int32) &&& 31).toUInt32).toInt32) &&& (3 : Int32)), iv 1] [(.ref ob10), (.ref ob15)])) _
      obtain ⟨cq27, kq27, q27a, q27b, q27c⟩ := isOf hZ e24 p20_1
      obtain ⟨_, _, ⟨T27, Lx27, kx27, nx27⟩, -, X27, ⟨Lc27, hQ27, lx27, yx27, zx27⟩, st27⟩ := X24.virtualBack hx (y := (⟨"com/example/allsome/allsome/cypher/InputPosition", "equals", "(Ljava/lang/Object;)Z"⟩ : MethodName)) (z := (⟨"com/example/allsome/allsome/cypher/InputPosition", "equals", "(Ljava/lang/Object;)Z"⟩ : MethodName)) hown (mvT hZ (wd hw 18 rfl)) (mvT hZ (wd hw 19 rfl)) (notFace_of_selects (args := #[]) (mvT hZ (wd hw 21 rfl))) (mvT hZ (wd hw 21 rfl)) (mvT hZ (wd hw 20 rfl)) (by decide) (backOf (W := 0) (rmEqY l Z a0 hw [] ob15 ob10 (own_sel p4 1 p2 p0) (own_sel p4 2 p3 p1) (own_pos p0) (own_pos p1) T20.heap n0 Z20 p20_2 p20_3 Fc22 Fc23 Fc25 (Eq.symm hl) (Eq.symm hc)) hZ (wd hw 22 rfl) (wd hw 7 rfl) (by decide) (by decide)) q27a q27c (g := (mkF m 124 #[iv p0, iv p1, iv p2, iv p3, iv p4, iv (own_pos p0), iv (own_pos p1), iv (own_sel p4 1 p2 p0), iv (own_sel p4 2 p3 p1), rv ob10, rv ob15, iv (((p4.toUInt32 >>> ((2 : Int32) &&& 31).toUInt32).toInt32) &&& (3 : Int32)), iv 1] [(.ref ob10), (.ref ob15)])) rfl (by rw [hml]; rfl) (Steps.refl _) (argsL := [(.ref ob10)]) (rest := []) (lenOf pd_4 rfl) rfl (by show 2 * 0 + _ ≤ _; exact Nat.le_of_eq rfl) (hb hby at_124) (fun _ _ => ⟨rfl, e24, (by decide : 2 + 0 ≤ _), (by decide : 4 + 0 ≤ _)⟩)
      dsimp only [Pt.U, Pt.locs, Pt.cells, Pt.slots] at X27 lx27 yx27 zx27 st27 hQ27
      subst lx27 yx27 zx27
      obtain ⟨rfl, N27q, e27⟩ := hQ27
      have N27 := Fr.app N24 N27q
      refine own_lift (fun t k => st27.trans k) ?_
      show own_Go p.tables e below (T27.setTop (mkF m 127 #[iv p0, iv p1, iv p2, iv p3, iv p4, iv (own_pos p0), iv (own_pos p1), iv (own_sel p4 1 p2 p0), iv (own_sel p4 2 p3 p1), rv ob10, rv ob15, iv (((p4.toUInt32 >>> ((2 : Int32) &&& 31).toUInt32).toInt32) &&& (3 : Int32)), iv 1] [(.int 1)])) _
      have sg28 : ∀ t, Steps p.tables e below (T27.setTop (mkF m 137 #[iv p0, iv p1, iv p2, iv p3, iv p4, iv (own_pos p0), iv (own_pos p1), iv (own_sel p4 1 p2 p0), iv (own_sel p4 2 p3 p1), rv ob10, rv ob15, iv (((p4.toUInt32 >>> ((2 : Int32) &&& 31).toUInt32).toInt32) &&& (3 : Int32)), iv 1] [(.int 1)])) t → Steps p.tables e below (T27.setTop (mkF m 127 #[iv p0, iv p1, iv p2, iv p3, iv p4, iv (own_pos p0), iv (own_pos p1), iv (own_sel p4 1 p2 p0), iv (own_sel p4 2 p3 p1), rv ob10, rv ob15, iv (((p4.toUInt32 >>> ((2 : Int32) &&& 31).toUInt32).toInt32) &&& (3 : Int32)), iv 1] [(.int 1)])) t := by
        intro t k
        refine XS.iload X27.here hx rfl (hb hby at_127) rfl ?_
        show Steps p.tables e below (T27.setTop (mkF m 129 #[iv p0, iv p1, iv p2, iv p3, iv p4, iv (own_pos p0), iv (own_pos p1), iv (own_sel p4 1 p2 p0), iv (own_sel p4 2 p3 p1), rv ob10, rv ob15, iv (((p4.toUInt32 >>> ((2 : Int32) &&& 31).toUInt32).toInt32) &&& (3 : Int32)), iv 1] [(.int 1), (.int 1)])) _
        refine XS.icmpNo X27.here hx rfl (hb hby at_129) rfl (teq (by decide : (1 : Int32) = (1 : Int32))).2 ?_
        show Steps p.tables e below (T27.setTop (mkF m 132 #[iv p0, iv p1, iv p2, iv p3, iv p4, iv (own_pos p0), iv (own_pos p1), iv (own_sel p4 1 p2 p0), iv (own_sel p4 2 p3 p1), rv ob10, rv ob15, iv (((p4.toUInt32 >>> ((2 : Int32) &&& 31).toUInt32).toInt32) &&& (3 : Int32)), iv 1] [])) _
        refine XS.iconst X27.here hx rfl (hb hby at_132) ?_
        show Steps p.tables e below (T27.setTop (mkF m 133 #[iv p0, iv p1, iv p2, iv p3, iv p4, iv (own_pos p0), iv (own_pos p1), iv (own_sel p4 1 p2 p0), iv (own_sel p4 2 p3 p1), rv ob10, rv ob15, iv (((p4.toUInt32 >>> ((2 : Int32) &&& 31).toUInt32).toInt32) &&& (3 : Int32)), iv 1] [(.int 1)])) _
        refine XS.goto X27.here hx rfl (pc0 := 133) (pc' := 137) rfl (hb hby at_133) (by decide) (by decide) ?_
        show Steps p.tables e below (T27.setTop (mkF m 137 #[iv p0, iv p1, iv p2, iv p3, iv p4, iv (own_pos p0), iv (own_pos p1), iv (own_sel p4 1 p2 p0), iv (own_sel p4 2 p3 p1), rv ob10, rv ob15, iv (((p4.toUInt32 >>> ((2 : Int32) &&& 31).toUInt32).toInt32) &&& (3 : Int32)), iv 1] [(.int 1)])) _
        exact k
      refine own_lift sg28 ?_
      show own_Go p.tables e below (T27.setTop (mkF m 137 #[iv p0, iv p1, iv p2, iv p3, iv p4, iv (own_pos p0), iv (own_pos p1), iv (own_sel p4 1 p2 p0), iv (own_sel p4 2 p3 p1), rv ob10, rv ob15, iv (((p4.toUInt32 >>> ((2 : Int32) &&& 31).toUInt32).toInt32) &&& (3 : Int32)), iv 1] [(.int 1)])) _
      obtain ⟨fs, hr, hrun, hended, hW, hsame⟩ := X27.leave (v := some (.int 1)) (fun h => by rw [Bd.returns] at h; cases h)
      refine ⟨_, _, ?_, hrun, hended, _, _, rfl, ?_, ⟨_, rfl⟩, hW, hsame.mono (by decide) (by decide)⟩
      · exact retN X27 hx (t := .boolean) Bd.returns (by simp) (hb hby at_137) hr
      · show Q0 Z  h0 n0 _ T27.heap _
        rw [e27]
        exact ⟨rfl, N27⟩
    by_cases b2 : (p4 &&& (2 : Int32)) = (0 : Int32)
    · have sg29 : ∀ t, Steps p.tables e below (T6.setTop (mkF m 43 #[iv p0, iv p1, iv p2, iv p3, iv p4, iv (own_pos p0), iv (own_pos p1), iv (own_sel p4 1 p2 p0), .unset, .unset, .unset, .unset, .unset] [(.int p3)])) t → Steps p.tables e below (T6.setTop (mkF m 30 #[iv p0, iv p1, iv p2, iv p3, iv p4, iv (own_pos p0), iv (own_pos p1), iv (own_sel p4 1 p2 p0), .unset, .unset, .unset, .unset, .unset] [])) t := by
        intro t k
        refine XS.iload X6.here hx rfl (hb hby at_30) rfl ?_
        show Steps p.tables e below (T6.setTop (mkF m 32 #[iv p0, iv p1, iv p2, iv p3, iv p4, iv (own_pos p0), iv (own_pos p1), iv (own_sel p4 1 p2 p0), .unset, .unset, .unset, .unset, .unset] [(.int p4)])) _
        refine XS.iconst X6.here hx rfl (hb hby at_32) ?_
        show Steps p.tables e below (T6.setTop (mkF m 33 #[iv p0, iv p1, iv p2, iv p3, iv p4, iv (own_pos p0), iv (own_pos p1), iv (own_sel p4 1 p2 p0), .unset, .unset, .unset, .unset, .unset] [(.int 2), (.int p4)])) _
        refine XS.iand X6.here hx rfl (hb hby at_33) rfl ?_
        show Steps p.tables e below (T6.setTop (mkF m 34 #[iv p0, iv p1, iv p2, iv p3, iv p4, iv (own_pos p0), iv (own_pos p1), iv (own_sel p4 1 p2 p0), .unset, .unset, .unset, .unset, .unset] [(.int (p4 &&& (2 : Int32)))])) _
        refine XS.ifYes X6.here hx rfl (pc0 := 34) (pc' := 42) rfl (hb hby at_34) rfl ((if0 _ _).trans (teq b2).1) (by decide) (by decide) ?_
        show Steps p.tables e below (T6.setTop (mkF m 42 #[iv p0, iv p1, iv p2, iv p3, iv p4, iv (own_pos p0), iv (own_pos p1), iv (own_sel p4 1 p2 p0), .unset, .unset, .unset, .unset, .unset] [])) _
        refine XS.iloadN X6.here hx rfl (hb hby at_42) rfl ?_
        show Steps p.tables e below (T6.setTop (mkF m 43 #[iv p0, iv p1, iv p2, iv p3, iv p4, iv (own_pos p0), iv (own_pos p1), iv (own_sel p4 1 p2 p0), .unset, .unset, .unset, .unset, .unset] [(.int p3)])) _
        exact k
      refine own_lift sg29 ?_
      show own_Go p.tables e below (T6.setTop (mkF m 43 #[iv p0, iv p1, iv p2, iv p3, iv p4, iv (own_pos p0), iv (own_pos p1), iv (own_sel p4 1 p2 p0), .unset, .unset, .unset, .unset, .unset] [(.int p3)])) _
      obtain ⟨_, _, ⟨T30, Lx30, kx30, nx30⟩, -, X30, ⟨Lc30, hQ30, lx30, yx30, zx30⟩, st30⟩ := Jvm.LawKit.callS X6 hx (y := (⟨"com/example/allsome/allsome/cypher/InputPositionEqualsPinLaw", "pos", "(I)I"⟩ : MethodName)) hown (mvT hZ (wd hw 0 rfl)) (mvT hZ (wd hw 1 rfl)) (mvT hZ (wd hw 2 rfl)) (mvT hZ (wd hw 3 rfl)) (by decide) (backOf (W := 0) (rmPos l Z a0 hw [] p3 h0 n0 Z0 ) hZ (wd hw 3 rfl) (wd hw 2 rfl) (by decide) (by decide)) (g := (mkF m 43 #[iv p0, iv p1, iv p2, iv p3, iv p4, iv (own_pos p0), iv (own_pos p1), iv (own_sel p4 1 p2 p0), .unset, .unset, .unset, .unset, .unset] [(.int p3)])) rfl (by rw [hml]; rfl) (argsL := [(.int p3)]) (rest := []) (lenOf pd_2 rfl) rfl (by show 2 * 0 + _ ≤ _; exact Nat.le_of_eq rfl) (hb hby at_43) (fun _ _ => ⟨rfl, e6, (by decide : 0 + 0 ≤ _), (by decide : 0 + 0 ≤ _)⟩)
      dsimp only [Pt.U, Pt.locs, Pt.cells, Pt.slots] at X30 lx30 yx30 zx30 st30 hQ30
      subst lx30 yx30 zx30
      obtain ⟨rfl, N30q, e30⟩ := hQ30
      have N30 := Fr.app N6 N30q
      refine own_lift st30 ?_
      show own_Go p.tables e below (T30.setTop (mkF m 46 #[iv p0, iv p1, iv p2, iv p3, iv p4, iv (own_pos p0), iv (own_pos p1), iv (own_sel p4 1 p2 p0), .unset, .unset, .unset, .unset, .unset] [(.int (own_pos p3))])) _
      rw [show (own_sel p4 2 p3 p1) = (own_pos p3) from if_pos b2] at join8
      exact join8 _ _ X30 e30 N30
    · have sg31 : ∀ t, Steps p.tables e below (T6.setTop (mkF m 46 #[iv p0, iv p1, iv p2, iv p3, iv p4, iv (own_pos p0), iv (own_pos p1), iv (own_sel p4 1 p2 p0), .unset, .unset, .unset, .unset, .unset] [(.int (own_pos p1))])) t → Steps p.tables e below (T6.setTop (mkF m 30 #[iv p0, iv p1, iv p2, iv p3, iv p4, iv (own_pos p0), iv (own_pos p1), iv (own_sel p4 1 p2 p0), .unset, .unset, .unset, .unset, .unset] [])) t := by
        intro t k
        refine XS.iload X6.here hx rfl (hb hby at_30) rfl ?_
        show Steps p.tables e below (T6.setTop (mkF m 32 #[iv p0, iv p1, iv p2, iv p3, iv p4, iv (own_pos p0), iv (own_pos p1), iv (own_sel p4 1 p2 p0), .unset, .unset, .unset, .unset, .unset] [(.int p4)])) _
        refine XS.iconst X6.here hx rfl (hb hby at_32) ?_
        show Steps p.tables e below (T6.setTop (mkF m 33 #[iv p0, iv p1, iv p2, iv p3, iv p4, iv (own_pos p0), iv (own_pos p1), iv (own_sel p4 1 p2 p0), .unset, .unset, .unset, .unset, .unset] [(.int 2), (.int p4)])) _
        refine XS.iand X6.here hx rfl (hb hby at_33) rfl ?_
        show Steps p.tables e below (T6.setTop (mkF m 34 #[iv p0, iv p1, iv p2, iv p3, iv p4, iv (own_pos p0), iv (own_pos p1), iv (own_sel p4 1 p2 p0), .unset, .unset, .unset, .unset, .unset] [(.int (p4 &&& (2 : Int32)))])) _
        refine XS.ifNo X6.here hx rfl (hb hby at_34) rfl ((if0 _ _).trans (feq b2).1) ?_
        show Steps p.tables e below (T6.setTop (mkF m 37 #[iv p0, iv p1, iv p2, iv p3, iv p4, iv (own_pos p0), iv (own_pos p1), iv (own_sel p4 1 p2 p0), .unset, .unset, .unset, .unset, .unset] [])) _
        refine XS.iload X6.here hx rfl (hb hby at_37) rfl ?_
        show Steps p.tables e below (T6.setTop (mkF m 39 #[iv p0, iv p1, iv p2, iv p3, iv p4, iv (own_pos p0), iv (own_pos p1), iv (own_sel p4 1 p2 p0), .unset, .unset, .unset, .unset, .unset] [(.int (own_pos p1))])) _
        refine XS.goto X6.here hx rfl (pc0 := 39) (pc' := 46) rfl (hb hby at_39) (by decide) (by decide) ?_
        show Steps p.tables e below (T6.setTop (mkF m 46 #[iv p0, iv p1, iv p2, iv p3, iv p4, iv (own_pos p0), iv (own_pos p1), iv (own_sel p4 1 p2 p0), .unset, .unset, .unset, .unset, .unset] [(.int (own_pos p1))])) _
        exact k
      refine own_lift sg31 ?_
      show own_Go p.tables e below (T6.setTop (mkF m 46 #[iv p0, iv p1, iv p2, iv p3, iv p4, iv (own_pos p0), iv (own_pos p1), iv (own_sel p4 1 p2 p0), .unset, .unset, .unset, .unset, .unset] [(.int (own_pos p1))])) _
      rw [show (own_sel p4 2 p3 p1) = (own_pos p1) from if_neg b2] at join8
      exact join8 _ _ X6 e6 N6
  by_cases b1 : (p4 &&& (1 : Int32)) = (0 : Int32)
  · have sg32 : ∀ t, Steps p.tables e below (T4.setTop (mkF m 25 #[iv p0, iv p1, iv p2, iv p3, iv p4, iv (own_pos p0), iv (own_pos p1), .unset, .unset, .unset, .unset, .unset, .unset] [(.int p2)])) t → Steps p.tables e below (T4.setTop (mkF m 12 #[iv p0, iv p1, iv p2, iv p3, iv p4, iv (own_pos p0), iv (own_pos p1), .unset, .unset, .unset, .unset, .unset, .unset] [])) t := by
      intro t k
      refine XS.iload X4.here hx rfl (hb hby at_12) rfl ?_
      show Steps p.tables e below (T4.setTop (mkF m 14 #[iv p0, iv p1, iv p2, iv p3, iv p4, iv (own_pos p0), iv (own_pos p1), .unset, .unset, .unset, .unset, .unset, .unset] [(.int p4)])) _
      refine XS.iconst X4.here hx rfl (hb hby at_14) ?_
      show Steps p.tables e below (T4.setTop (mkF m 15 #[iv p0, iv p1, iv p2, iv p3, iv p4, iv (own_pos p0), iv (own_pos p1), .unset, .unset, .unset, .unset, .unset, .unset] [(.int 1), (.int p4)])) _
      refine XS.iand X4.here hx rfl (hb hby at_15) rfl ?_
      show Steps p.tables e below (T4.setTop (mkF m 16 #[iv p0, iv p1, iv p2, iv p3, iv p4, iv (own_pos p0), iv (own_pos p1), .unset, .unset, .unset, .unset, .unset, .unset] [(.int (p4 &&& (1 : Int32)))])) _
      refine XS.ifYes X4.here hx rfl (pc0 := 16) (pc' := 24) rfl (hb hby at_16) rfl ((if0 _ _).trans (teq b1).1) (by decide) (by decide) ?_
      show Steps p.tables e below (T4.setTop (mkF m 24 #[iv p0, iv p1, iv p2, iv p3, iv p4, iv (own_pos p0), iv (own_pos p1), .unset, .unset, .unset, .unset, .unset, .unset] [])) _
      refine XS.iloadN X4.here hx rfl (hb hby at_24) rfl ?_
      show Steps p.tables e below (T4.setTop (mkF m 25 #[iv p0, iv p1, iv p2, iv p3, iv p4, iv (own_pos p0), iv (own_pos p1), .unset, .unset, .unset, .unset, .unset, .unset] [(.int p2)])) _
      exact k
    refine own_lift sg32 ?_
    show own_Go p.tables e below (T4.setTop (mkF m 25 #[iv p0, iv p1, iv p2, iv p3, iv p4, iv (own_pos p0), iv (own_pos p1), .unset, .unset, .unset, .unset, .unset, .unset] [(.int p2)])) _
    obtain ⟨_, _, ⟨T33, Lx33, kx33, nx33⟩, -, X33, ⟨Lc33, hQ33, lx33, yx33, zx33⟩, st33⟩ := Jvm.LawKit.callS X4 hx (y := (⟨"com/example/allsome/allsome/cypher/InputPositionEqualsPinLaw", "pos", "(I)I"⟩ : MethodName)) hown (mvT hZ (wd hw 0 rfl)) (mvT hZ (wd hw 1 rfl)) (mvT hZ (wd hw 2 rfl)) (mvT hZ (wd hw 3 rfl)) (by decide) (backOf (W := 0) (rmPos l Z a0 hw [] p2 h0 n0 Z0 ) hZ (wd hw 3 rfl) (wd hw 2 rfl) (by decide) (by decide)) (g := (mkF m 25 #[iv p0, iv p1, iv p2, iv p3, iv p4, iv (own_pos p0), iv (own_pos p1), .unset, .unset, .unset, .unset, .unset, .unset] [(.int p2)])) rfl (by rw [hml]; rfl) (argsL := [(.int p2)]) (rest := []) (lenOf pd_2 rfl) rfl (by show 2 * 0 + _ ≤ _; exact Nat.le_of_eq rfl) (hb hby at_25) (fun _ _ => ⟨rfl, e4, (by decide : 0 + 0 ≤ _), (by decide : 0 + 0 ≤ _)⟩)
    dsimp only [Pt.U, Pt.locs, Pt.cells, Pt.slots] at X33 lx33 yx33 zx33 st33 hQ33
    subst lx33 yx33 zx33
    obtain ⟨rfl, N33q, e33⟩ := hQ33
    have N33 := Fr.app N4 N33q
    refine own_lift st33 ?_
    show own_Go p.tables e below (T33.setTop (mkF m 28 #[iv p0, iv p1, iv p2, iv p3, iv p4, iv (own_pos p0), iv (own_pos p1), .unset, .unset, .unset, .unset, .unset, .unset] [(.int (own_pos p2))])) _
    rw [show (own_sel p4 1 p2 p0) = (own_pos p2) from if_pos b1] at join6
    exact join6 _ _ X33 e33 N33
  · have sg34 : ∀ t, Steps p.tables e below (T4.setTop (mkF m 28 #[iv p0, iv p1, iv p2, iv p3, iv p4, iv (own_pos p0), iv (own_pos p1), .unset, .unset, .unset, .unset, .unset, .unset] [(.int (own_pos p0))])) t → Steps p.tables e below (T4.setTop (mkF m 12 #[iv p0, iv p1, iv p2, iv p3, iv p4, iv (own_pos p0), iv (own_pos p1), .unset, .unset, .unset, .unset, .unset, .unset] [])) t := by
      intro t k
      refine XS.iload X4.here hx rfl (hb hby at_12) rfl ?_
      show Steps p.tables e below (T4.setTop (mkF m 14 #[iv p0, iv p1, iv p2, iv p3, iv p4, iv (own_pos p0), iv (own_pos p1), .unset, .unset, .unset, .unset, .unset, .unset] [(.int p4)])) _
      refine XS.iconst X4.here hx rfl (hb hby at_14) ?_
      show Steps p.tables e below (T4.setTop (mkF m 15 #[iv p0, iv p1, iv p2, iv p3, iv p4, iv (own_pos p0), iv (own_pos p1), .unset, .unset, .unset, .unset, .unset, .unset] [(.int 1), (.int p4)])) _
      refine XS.iand X4.here hx rfl (hb hby at_15) rfl ?_
      show Steps p.tables e below (T4.setTop (mkF m 16 #[iv p0, iv p1, iv p2, iv p3, iv p4, iv (own_pos p0), iv (own_pos p1), .unset, .unset, .unset, .unset, .unset, .unset] [(.int (p4 &&& (1 : Int32)))])) _
      refine XS.ifNo X4.here hx rfl (hb hby at_16) rfl ((if0 _ _).trans (feq b1).1) ?_
      show Steps p.tables e below (T4.setTop (mkF m 19 #[iv p0, iv p1, iv p2, iv p3, iv p4, iv (own_pos p0), iv (own_pos p1), .unset, .unset, .unset, .unset, .unset, .unset] [])) _
      refine XS.iload X4.here hx rfl (hb hby at_19) rfl ?_
      show Steps p.tables e below (T4.setTop (mkF m 21 #[iv p0, iv p1, iv p2, iv p3, iv p4, iv (own_pos p0), iv (own_pos p1), .unset, .unset, .unset, .unset, .unset, .unset] [(.int (own_pos p0))])) _
      refine XS.goto X4.here hx rfl (pc0 := 21) (pc' := 28) rfl (hb hby at_21) (by decide) (by decide) ?_
      show Steps p.tables e below (T4.setTop (mkF m 28 #[iv p0, iv p1, iv p2, iv p3, iv p4, iv (own_pos p0), iv (own_pos p1), .unset, .unset, .unset, .unset, .unset, .unset] [(.int (own_pos p0))])) _
      exact k
    refine own_lift sg34 ?_
    show own_Go p.tables e below (T4.setTop (mkF m 28 #[iv p0, iv p1, iv p2, iv p3, iv p4, iv (own_pos p0), iv (own_pos p1), .unset, .unset, .unset, .unset, .unset, .unset] [(.int (own_pos p0))])) _
    rw [show (own_sel p4 1 p2 p0) = (own_pos p0) from if_neg b1] at join6
    exact join6 _ _ X4 e4 N4
theorem ef_rm0_0LD (m : MethodId) (x0 : Int32) (x1 : Int32) (x2 : Int32) (x3 : Int32) (x4 : Int32) : entryFrame m #[(.int x0), (.int x1), (.int x2), (.int x3), (.int x4)] maxLocals = mkF m 0 #[.val (.int x0), .val (.int x1), .val (.int x2), .val (.int x3), .val (.int x4), .unset, .unset, .unset, .unset, .unset, .unset, .unset, .unset] [] := by first | (simp [entryFrame, mkF, argsToLocals, Value.category, maxLocals]; done) | rfl
set_option maxRecDepth 65536 in
set_option maxHeartbeats 40000000 in
theorem rm0_0LD (l : Launch) (Z : State) (a0 : Array Value) (hw : ∀ d ∈ tables_1, d.before a0 Z = true) (ws : List Jvm.Cond) (p0 : Int32) (p1 : Int32) (p2 : Int32) (p3 : Int32) (p4 : Int32) (ca : Addr) (cc : Cell) (h0 : Heap) (n0 : Nat) (Z0 : n0 ≤ h0.size) (S1 : Sta Z h0 "java/lang/Integer$IntegerCache" "high" "I" (.int 127)) (S2 : Sta Z h0 "java/lang/Integer$IntegerCache" "cache" "[Ljava/lang/Integer;" (.ref ca)) (A1 : Arr Z h0 ca cc (.object "java/lang/Integer")) (k0 : (((p4.toUInt32 >>> ((2 : Int32) &&& 31).toUInt32).toInt32) &&& (3 : Int32)) = (0 : Int32)) (hl : (own_pos p0) = (own_sel p4 1 p2 p0)) (hc : ¬ ((own_pos p1) = (own_sel p4 2 p3 p1))) :
    MetFree l x (head1 (Jvm.Cond.code x code maxLocals ret :: ws) room_1) (fun a U => a = #[(.int p0), (.int p1), (.int p2), (.int p3), (.int p4)] ∧ Z.Warmed39 U.vm ∧ U.heap = h0) (fun _ _ _ _ _ => True) (fun _ U o U' => ∃ v L, o = .returned v ∧ Q0 Z  h0 n0 v U'.heap L ∧ FrameEnd U o U' L 16 128) := by
  refine MetFree.of_bodySF (plainFor_of_name pn_1) hisR ?_
  intro p e s m args below meth c s₁ Bd hml0 hP hK
  obtain ⟨rfl, hZ, hh⟩ := hP
  have hx := Bd.exec
  have hby := Bd.bytes
  have hml : c.maxLocals = 13 := hml0
  have hown : s.vm.findClass "com/example/allsome/allsome/cypher/InputPositionEqualsPinLaw" = some m.cls := findClass_of_methodNamed Bd.named
  have hnm := (name_of_methodNamed Bd.named Bd.method).1
  have X0 : Stand p l e room_1 s m #[(.int p0), (.int p1), (.int p2), (.int p3), (.int p4)] below meth c s₁ [] 0 0 := Stand.of_body Bd
  have e0 : s₁.heap = h0 := by rw [← hh, Bd.state]; rfl
  have N0 := Fr.nil n0
  refine own_go (own_lift (fun t k => castTop (ef_rm0_0LD m p0 p1 p2 p3 p4) k) ?_)
  show own_Go p.tables e below (s₁.setTop (mkF m 0 #[iv p0, iv p1, iv p2, iv p3, iv p4, .unset, .unset, .unset, .unset, .unset, .unset, .unset, .unset] [])) _
  have sg1 : ∀ t, Steps p.tables e below (s₁.setTop (mkF m 1 #[iv p0, iv p1, iv p2, iv p3, iv p4, .unset, .unset, .unset, .unset, .unset, .unset, .unset, .unset] [(.int p0)])) t → Steps p.tables e below (s₁.setTop (mkF m 0 #[iv p0, iv p1, iv p2, iv p3, iv p4, .unset, .unset, .unset, .unset, .unset, .unset, .unset, .unset] [])) t := by
    intro t k
    refine XS.iloadN X0.here hx rfl (hb hby at_0) rfl ?_
    show Steps p.tables e below (s₁.setTop (mkF m 1 #[iv p0, iv p1, iv p2, iv p3, iv p4, .unset, .unset, .unset, .unset, .unset, .unset, .unset, .unset] [(.int p0)])) _
    exact k
  refine own_lift sg1 ?_
  show own_Go p.tables e below (s₁.setTop (mkF m 1 #[iv p0, iv p1, iv p2, iv p3, iv p4, .unset, .unset, .unset, .unset, .unset, .unset, .unset, .unset] [(.int p0)])) _
  obtain ⟨_, _, ⟨T2, Lx2, kx2, nx2⟩, -, X2, ⟨Lc2, hQ2, lx2, yx2, zx2⟩, st2⟩ := Jvm.LawKit.callS X0 hx (y := (⟨"com/example/allsome/allsome/cypher/InputPositionEqualsPinLaw", "pos", "(I)I"⟩ : MethodName)) hown (mvT hZ (wd hw 0 rfl)) (mvT hZ (wd hw 1 rfl)) (mvT hZ (wd hw 2 rfl)) (mvT hZ (wd hw 3 rfl)) (by decide) (backOf (W := 0) (rmPos l Z a0 hw [] p0 h0 n0 Z0 ) hZ (wd hw 3 rfl) (wd hw 2 rfl) (by decide) (by decide)) (g := (mkF m 1 #[iv p0, iv p1, iv p2, iv p3, iv p4, .unset, .unset, .unset, .unset, .unset, .unset, .unset, .unset] [(.int p0)])) rfl (by rw [hml]; rfl) (argsL := [(.int p0)]) (rest := []) (lenOf pd_2 rfl) rfl (by show 2 * 0 + _ ≤ _; exact Nat.le_of_eq rfl) (hb hby at_1) (fun _ _ => ⟨rfl, e0, (by decide : 0 + 0 ≤ _), (by decide : 0 + 0 ≤ _)⟩)
  dsimp only [Pt.U, Pt.locs, Pt.cells, Pt.slots] at X2 lx2 yx2 zx2 st2 hQ2
  subst lx2 yx2 zx2
  obtain ⟨rfl, N2q, e2⟩ := hQ2
  have N2 := Fr.app N0 N2q
  refine own_lift st2 ?_
  show own_Go p.tables e below (T2.setTop (mkF m 4 #[iv p0, iv p1, iv p2, iv p3, iv p4, .unset, .unset, .unset, .unset, .unset, .unset, .unset, .unset] [(.int (own_pos p0))])) _
  have sg3 : ∀ t, Steps p.tables e below (T2.setTop (mkF m 7 #[iv p0, iv p1, iv p2, iv p3, iv p4, iv (own_pos p0), .unset, .unset, .unset, .unset, .unset, .unset, .unset] [(.int p1)])) t → Steps p.tables e below (T2.setTop (mkF m 4 #[iv p0, iv p1, iv p2, iv p3, iv p4, .unset, .unset, .unset, .unset, .unset, .unset, .unset, .unset] [(.int (own_pos p0))])) t := by
    intro t k
    refine XS.istore X2.here hx rfl (hb hby at_4) rfl (l' := #[iv p0, iv p1, iv p2, iv p3, iv p4, iv (own_pos p0), .unset, .unset, .unset, .unset, .unset, .unset, .unset]) rfl ?_
    show Steps p.tables e below (T2.setTop (mkF m 6 #[iv p0, iv p1, iv p2, iv p3, iv p4, iv (own_pos p0), .unset, .unset, .unset, .unset, .unset, .unset, .unset] [])) _
    refine XS.iloadN X2.here hx rfl (hb hby at_6) rfl ?_
    show Steps p.tables e below (T2.setTop (mkF m 7 #[iv p0, iv p1, iv p2, iv p3, iv p4, iv (own_pos p0), .unset, .unset, .unset, .unset, .unset, .unset, .unset] [(.int p1)])) _
    exact k
  refine own_lift sg3 ?_
  show own_Go p.tables e below (T2.setTop (mkF m 7 #[iv p0, iv p1, iv p2, iv p3, iv p4, iv (own_pos p0), .unset, .unset, .unset, .unset, .unset, .unset, .unset] [(.int p1)])) _
  obtain ⟨_, _, ⟨T4, Lx4, kx4, nx4⟩, -, X4, ⟨Lc4, hQ4, lx4, yx4, zx4⟩, st4⟩ := Jvm.LawKit.callS X2 hx (y := (⟨"com/example/allsome/allsome/cypher/InputPositionEqualsPinLaw", "pos", "(I)I"⟩ : MethodName)) hown (mvT hZ (wd hw 0 rfl)) (mvT hZ (wd hw 1 rfl)) (mvT hZ (wd hw 2 rfl)) (mvT hZ (wd hw 3 rfl)) (by decide) (backOf (W := 0) (rmPos l Z a0 hw [] p1 h0 n0 Z0 ) hZ (wd hw 3 rfl) (wd hw 2 rfl) (by decide) (by decide)) (g := (mkF m 7 #[iv p0, iv p1, iv p2, iv p3, iv p4, iv (own_pos p0), .unset, .unset, .unset, .unset, .unset, .unset, .unset] [(.int p1)])) rfl (by rw [hml]; rfl) (argsL := [(.int p1)]) (rest := []) (lenOf pd_2 rfl) rfl (by show 2 * 0 + _ ≤ _; exact Nat.le_of_eq rfl) (hb hby at_7) (fun _ _ => ⟨rfl, e2, (by decide : 0 + 0 ≤ _), (by decide : 0 + 0 ≤ _)⟩)
  dsimp only [Pt.U, Pt.locs, Pt.cells, Pt.slots] at X4 lx4 yx4 zx4 st4 hQ4
  subst lx4 yx4 zx4
  obtain ⟨rfl, N4q, e4⟩ := hQ4
  have N4 := Fr.app N2 N4q
  refine own_lift st4 ?_
  show own_Go p.tables e below (T4.setTop (mkF m 10 #[iv p0, iv p1, iv p2, iv p3, iv p4, iv (own_pos p0), .unset, .unset, .unset, .unset, .unset, .unset, .unset] [(.int (own_pos p1))])) _
  have sg5 : ∀ t, Steps p.tables e below (T4.setTop (mkF m 12 #[iv p0, iv p1, iv p2, iv p3, iv p4, iv (own_pos p0), iv (own_pos p1), .unset, .unset, .unset, .unset, .unset, .unset] [])) t → Steps p.tables e below (T4.setTop (mkF m 10 #[iv p0, iv p1, iv p2, iv p3, iv p4, iv (own_pos p0), .unset, .unset, .unset, .unset, .unset, .unset, .unset] [(.int (own_pos p1))])) t := by
    intro t k
    refine XS.istore X4.here hx rfl (hb hby at_10) rfl (l' := #[iv p0, iv p1, iv p2, iv p3, iv p4, iv (own_pos p0), iv (own_pos p1), .unset, .unset, .unset, .unset, .unset, .unset]) rfl ?_
    show Steps p.tables e below (T4.setTop (mkF m 12 #[iv p0, iv p1, iv p2, iv p3, iv p4, iv (own_pos p0), iv (own_pos p1), .unset, .unset, .unset, .unset, .unset, .unset] [])) _
    exact k
  refine own_lift sg5 ?_
  show own_Go p.tables e below (T4.setTop (mkF m 12 #[iv p0, iv p1, iv p2, iv p3, iv p4, iv (own_pos p0), iv (own_pos p1), .unset, .unset, .unset, .unset, .unset, .unset] [])) _
  have join6 : ∀ (T6 : State) (locs6 : List Loc), Stand p l e room_1 s m #[(.int p0), (.int p1), (.int p2), (.int p3), (.int p4)] below meth c T6 locs6 0 0 → T6.heap = h0 → Fr n0 locs6 → own_Go p.tables e below (T6.setTop (mkF m 28 #[iv p0, iv p1, iv p2, iv p3, iv p4, iv (own_pos p0), iv (own_pos p1), .unset, .unset, .unset, .unset, .unset, .unset] [(.int (own_sel p4 1 p2 p0))])) (fun s₂ o => s₂.status = .running ∧ Ended s₂ below o ∧ ∃ v L, o = .returned v ∧ Q0 Z  h0 n0 v s₂.heap L ∧ FrameEnd s o s₂ L 16 128) := by
    intro T6 locs6 X6 e6 N6
    have sg7 : ∀ t, Steps p.tables e below (T6.setTop (mkF m 30 #[iv p0, iv p1, iv p2, iv p3, iv p4, iv (own_pos p0), iv (own_pos p1), iv (own_sel p4 1 p2 p0), .unset, .unset, .unset, .unset, .unset] [])) t → Steps p.tables e below (T6.setTop (mkF m 28 #[iv p0, iv p1, iv p2, iv p3, iv p4, iv (own_pos p0), iv (own_pos p1), .unset, .unset, .unset, .unset, .unset, .unset] [(.int (own_sel p4 1 p2 p0))])) t := by
      intro t k
      refine XS.istore X6.here hx rfl (hb hby at_28) rfl (l' := #[iv p0, iv p1, iv p2, iv p3, iv p4, iv (own_pos p0), iv (own_pos p1), iv (own_sel p4 1 p2 p0), .unset, .unset, .unset, .unset, .unset]) rfl ?_
      show Steps p.tables e below (T6.setTop (mkF m 30 #[iv p0, iv p1, iv p2, iv p3, iv p4, iv (own_pos p0), iv (own_pos p1), iv (own_sel p4 1 p2 p0), .unset, .unset, .unset, .unset, .unset] [])) _
      exact k
    refine own_lift sg7 ?_
    show own_Go p.tables e below (T6.setTop (mkF m 30 #[iv p0, iv p1, iv p2, iv p3, iv p4, iv (own_pos p0), iv (own_pos p1), iv (own_sel p4 1 p2 p0), .unset, .unset, .unset, .unset, .unset] [])) _
    have join8 : ∀ (T8 : State) (locs8 : List Loc), Stand p l e room_1 s m #[(.int p0), (.int p1), (.int p2), (.int p3), (.int p4)] below meth c T8 locs8 0 0 → T8.heap = h0 → Fr n0 locs8 → own_Go p.tables e below (T8.setTop (mkF m 46 #[iv p0, iv p1, iv p2, iv p3, iv p4, iv (own_pos p0), iv (own_pos p1), iv (own_sel p4 1 p2 p0), .unset, .unset, .unset, .unset, .unset] [(.int (own_sel p4 2 p3 p1))])) (fun s₂ o => s₂.status = .running ∧ Ended s₂ below o ∧ ∃ v L, o = .returned v ∧ Q0 Z  h0 n0 v s₂.heap L ∧ FrameEnd s o s₂ L 16 128) := by
      intro T8 locs8 X8 e8 N8
      have sg9 : ∀ t, Steps p.tables e below (T8.setTop (mkF m 48 #[iv p0, iv p1, iv p2, iv p3, iv p4, iv (own_pos p0), iv (own_pos p1), iv (own_sel p4 1 p2 p0), iv (own_sel p4 2 p3 p1), .unset, .unset, .unset, .unset] [])) t → Steps p.tables e below (T8.setTop (mkF m 46 #[iv p0, iv p1, iv p2, iv p3, iv p4, iv (own_pos p0), iv (own_pos p1), iv (own_sel p4 1 p2 p0), .unset, .unset, .unset, .unset, .unset] [(.int (own_sel p4 2 p3 p1))])) t := by
        intro t k
        refine XS.istore X8.here hx rfl (hb hby at_46) rfl (l' := #[iv p0, iv p1, iv p2, iv p3, iv p4, iv (own_pos p0), iv (own_pos p1), iv (own_sel p4 1 p2 p0), iv (own_sel p4 2 p3 p1), .unset, .unset, .unset, .unset]) rfl ?_
        show Steps p.tables e below (T8.setTop (mkF m 48 #[iv p0, iv p1, iv p2, iv p3, iv p4, iv (own_pos p0), iv (own_pos p1), iv (own_sel p4 1 p2 p0), iv (own_sel p4 2 p3 p1), .unset, .unset, .unset, .unset] [])) _
        exact k
      refine own_lift sg9 ?_
      show own_Go p.tables e below (T8.setTop (mkF m 48 #[iv p0, iv p1, iv p2, iv p3, iv p4, iv (own_pos p0), iv (own_pos p1), iv (own_sel p4 1 p2 p0), iv (own_sel p4 2 p3 p1), .unset, .unset, .unset, .unset] [])) _
      obtain ⟨T10, h10, X10, e10, Ex10, Ax10, Dx10, Ux10, st10⟩ := newO X8 hx hZ hown (wd hw 5 rfl) (wd hw 6 rfl) (wd hw 7 rfl) e8 (g := (mkF m 48 #[iv p0, iv p1, iv p2, iv p3, iv p4, iv (own_pos p0), iv (own_pos p1), iv (own_sel p4 1 p2 p0), iv (own_sel p4 2 p3 p1), .unset, .unset, .unset, .unset] [])) rfl (hb hby at_48) (by decide) (by decide)
      obtain ⟨ob10, g10⟩ : ∃ z, z = h0.size := ⟨_, rfl⟩
      rw [← g10] at Ax10 Dx10 Ux10 st10
      have ne11 : ca ≠ ob10 := Nat.ne_of_lt (Nat.lt_of_lt_of_le A1.lt (Nat.le_of_eq g10.symm))
      have Z10 : n0 ≤ h10.size := Nat.le_trans Z0 Ex10.1
      have ge10 : n0 ≤ ob10 := Nat.le_trans Z0 (Nat.le_of_eq g10.symm)
      have Fn10_15 : Fld Z h10 ob10 "com/example/allsome/allsome/cypher/InputPosition" "line" "I" (.int 0) := Dx10 (Or.inr (wd hw 15 rfl)) (ty := .int) (by decide)
      have Fn10_17 : Fld Z h10 ob10 "com/example/allsome/allsome/cypher/InputPosition" "column" "I" (.int 0) := Dx10 (Or.inr (wd hw 17 rfl)) (ty := .int) (by decide)
      refine own_lift st10 ?_
      show own_Go p.tables e below (T10.setTop (mkF m 51 #[iv p0, iv p1, iv p2, iv p3, iv p4, iv (own_pos p0), iv (own_pos p1), iv (own_sel p4 1 p2 p0), iv (own_sel p4 2 p3 p1), .unset, .unset, .unset, .unset] [(.ref ob10)])) _
      have sg12 : ∀ t, Steps p.tables e below (T10.setTop (mkF m 56 #[iv p0, iv p1, iv p2, iv p3, iv p4, iv (own_pos p0), iv (own_pos p1), iv (own_sel p4 1 p2 p0), iv (own_sel p4 2 p3 p1), .unset, .unset, .unset, .unset] [(.int (own_pos p1)), (.int (own_pos p0)), (.ref ob10), (.ref ob10)])) t → Steps p.tables e below (T10.setTop (mkF m 51 #[iv p0, iv p1, iv p2, iv p3, iv p4, iv (own_pos p0), iv (own_pos p1), iv (own_sel p4 1 p2 p0), iv (own_sel p4 2 p3 p1), .unset, .unset, .unset, .unset] [(.ref ob10)])) t := by
        intro t k
        refine XS.dup X10.here hx rfl (hb hby at_51) rfl rfl ?_
        show Steps p.tables e below (T10.setTop (mkF m 52 #[iv p0, iv p1, iv p2, iv p3, iv p4, iv (own_pos p0), iv (own_pos p1), iv (own_sel p4 1 p2 p0), iv (own_sel p4 2 p3 p1), .unset, .unset, .unset, .unset] [(.ref ob10), (.ref ob10)])) _
        refine XS.iload X10.here hx rfl (hb hby at_52) rfl ?_
        show Steps p.tables e below (T10.setTop (mkF m 54 #[iv p0, iv p1, iv p2, iv p3, iv p4, iv (own_pos p0), iv (own_pos p1), iv (own_sel p4 1 p2 p0), iv (own_sel p4 2 p3 p1), .unset, .unset, .unset, .unset] [(.int (own_pos p0)), (.ref ob10), (.ref ob10)])) _
        refine XS.iload X10.here hx rfl (hb hby at_54) rfl ?_
        show Steps p.tables e below (T10.setTop (mkF m 56 #[iv p0, iv p1, iv p2, iv p3, iv p4, iv (own_pos p0), iv (own_pos p1), iv (own_sel p4 1 p2 p0), iv (own_sel p4 2 p3 p1), .unset, .unset, .unset, .unset] [(.int (own_pos p1)), (.int (own_pos p0)), (.ref ob10), (.ref ob10)])) _
        exact k
      refine own_lift sg12 ?_
      show own_Go p.tables e below (T10.setTop (mkF m 56 #[iv p0, iv p1, iv p2, iv p3, iv p4, iv (own_pos p0), iv (own_pos p1), iv (own_sel p4 1 p2 p0), iv (own_sel p4 2 p3 p1), .unset, .unset, .unset, .unset] [(.int (own_pos p1)), (.int (own_pos p0)), (.ref ob10), (.ref ob10)])) _
      obtain ⟨_, _, ⟨T13, Lx13, kx13, nx13⟩, -, X13, ⟨Lc13, hQ13, lx13, yx13, zx13⟩, st13⟩ := X10.specialBack hx (y := (⟨"com/example/allsome/allsome/cypher/InputPosition", "<init>", "(II)V"⟩ : MethodName)) rfl hown (mvT hZ (wd hw 8 rfl)) (mvT hZ (wd hw 9 rfl)) (mvT hZ (wd hw 10 rfl)) (by decide) (backOf (W := 1) (rmInit l Z a0 hw [] ob10 (own_pos p0) (own_pos p1) h10 n0 Z10 Fn10_15 Fn10_17 Ax10 ge10 (own_pos_ge p0) (own_pos_ge p1)) hZ (wd hw 10 rfl) (wd hw 7 rfl) (by decide) (by decide)) (g := (mkF m 56 #[iv p0, iv p1, iv p2, iv p3, iv p4, iv (own_pos p0), iv (own_pos p1), iv (own_sel p4 1 p2 p0), iv (own_sel p4 2 p3 p1), .unset, .unset, .unset, .unset] [(.int (own_pos p1)), (.int (own_pos p0)), (.ref ob10), (.ref ob10)])) rfl (by rw [hml]; rfl) (Steps.refl _) (a := ob10) (argsL := [(.int (own_pos p0)), (.int (own_pos p1))]) (rest := [(.ref ob10)]) (lenOf pd_3 rfl) rfl (by show 2 * 0 + _ ≤ _; exact Nat.le_of_eq rfl) (hb hby at_56) (fun _ _ => ⟨rfl, e10, (by decide : 1 + 0 ≤ _), (by decide : 2 + 0 ≤ _)⟩)
      dsimp only [Pt.U, Pt.locs, Pt.cells, Pt.slots] at X13 lx13 yx13 zx13 st13 hQ13
      subst lx13 yx13 zx13
      obtain ⟨rfl, N13q, p13_0, p13_1, p13_2, p13_3⟩ := hQ13
      have N13 := Fr.app N8 N13q
      have Z13 : n0 ≤ T13.heap.size := Nat.le_trans Z10 p13_0.1
      refine own_lift (fun t k => st13.trans k) ?_
      show own_Go p.tables e below (T13.setTop (mkF m 59 #[iv p0, iv p1, iv p2, iv p3, iv p4, iv (own_pos p0), iv (own_pos p1), iv (own_sel p4 1 p2 p0), iv (own_sel p4 2 p3 p1), .unset, .unset, .unset, .unset] [(.ref ob10)])) _
      have sg14 : ∀ t, Steps p.tables e below (T13.setTop (mkF m 61 #[iv p0, iv p1, iv p2, iv p3, iv p4, iv (own_pos p0), iv (own_pos p1), iv (own_sel p4 1 p2 p0), iv (own_sel p4 2 p3 p1), rv ob10, .unset, .unset, .unset] [])) t → Steps p.tables e below (T13.setTop (mkF m 59 #[iv p0, iv p1, iv p2, iv p3, iv p4, iv (own_pos p0), iv (own_pos p1), iv (own_sel p4 1 p2 p0), iv (own_sel p4 2 p3 p1), .unset, .unset, .unset, .unset] [(.ref ob10)])) t := by
        intro t k
        refine XS.astore X13.here hx rfl (hb hby at_59) rfl rfl (l' := #[iv p0, iv p1, iv p2, iv p3, iv p4, iv (own_pos p0), iv (own_pos p1), iv (own_sel p4 1 p2 p0), iv (own_sel p4 2 p3 p1), rv ob10, .unset, .unset, .unset]) rfl ?_
        show Steps p.tables e below (T13.setTop (mkF m 61 #[iv p0, iv p1, iv p2, iv p3, iv p4, iv (own_pos p0), iv (own_pos p1), iv (own_sel p4 1 p2 p0), iv (own_sel p4 2 p3 p1), rv ob10, .unset, .unset, .unset] [])) _
        exact k
      refine own_lift sg14 ?_
      show own_Go p.tables e below (T13.setTop (mkF m 61 #[iv p0, iv p1, iv p2, iv p3, iv p4, iv (own_pos p0), iv (own_pos p1), iv (own_sel p4 1 p2 p0), iv (own_sel p4 2 p3 p1), rv ob10, .unset, .unset, .unset] [])) _
      obtain ⟨T15, h15, X15, e15, Ex15, Ax15, Dx15, Ux15, st15⟩ := newO X13 hx hZ hown (wd hw 5 rfl) (wd hw 6 rfl) (wd hw 7 rfl) rfl (g := (mkF m 61 #[iv p0, iv p1, iv p2, iv p3, iv p4, iv (own_pos p0), iv (own_pos p1), iv (own_sel p4 1 p2 p0), iv (own_sel p4 2 p3 p1), rv ob10, .unset, .unset, .unset] [])) rfl (hb hby at_61) (by decide) (by decide)
      obtain ⟨ob15, g15⟩ : ∃ z, z = T13.heap.size := ⟨_, rfl⟩
      rw [← g15] at Ax15 Dx15 Ux15 st15
      have Fc16 : Arr Z T13.heap ca cc (.object "java/lang/Integer") := (own_Arr_keep (A1.ext Ex10) p13_0 (ninS ne11 nin0))
      have ne17 : ca ≠ ob15 := Nat.ne_of_lt (Nat.lt_of_lt_of_le Fc16.lt (Nat.le_of_eq g15.symm))
      have ne18 : ob10 ≠ ob15 := Nat.ne_of_lt (Nat.lt_of_lt_of_le p13_1.lt (Nat.le_of_eq g15.symm))
      have Z15 : n0 ≤ h15.size := Nat.le_trans Z13 Ex15.1
      have ge15 : n0 ≤ ob15 := Nat.le_trans Z13 (Nat.le_of_eq g15.symm)
      have Fn15_15 : Fld Z h15 ob15 "com/example/allsome/allsome/cypher/InputPosition" "line" "I" (.int 0) := Dx15 (Or.inr (wd hw 15 rfl)) (ty := .int) (by decide)
      have Fn15_17 : Fld Z h15 ob15 "com/example/allsome/allsome/cypher/InputPosition" "column" "I" (.int 0) := Dx15 (Or.inr (wd hw 17 rfl)) (ty := .int) (by decide)
      refine own_lift st15 ?_
      show own_Go p.tables e below (T15.setTop (mkF m 64 #[iv p0, iv p1, iv p2, iv p3, iv p4, iv (own_pos p0), iv (own_pos p1), iv (own_sel p4 1 p2 p0), iv (own_sel p4 2 p3 p1), rv ob10, .unset, .unset, .unset] [(.ref ob15)])) _
      have sg19 : ∀ t, Steps p.tables e below (T15.setTop (mkF m 69 #[iv p0, iv p1, iv p2, iv p3, iv p4, iv (own_pos p0), iv (own_pos p1), iv (own_sel p4 1 p2 p0), iv (own_sel p4 2 p3 p1), rv ob10, .unset, .unset, .unset] [(.int (own_sel p4 2 p3 p1)), (.int (own_sel p4 1 p2 p0)), (.ref ob15), (.ref ob15)])) t → Steps p.tables e below (T15.setTop (mkF m 64 #[iv p0, iv p1, iv p2, iv p3, iv p4, iv (own_pos p0), iv (own_pos p1), iv (own_sel p4 1 p2 p0), iv (own_sel p4 2 p3 p1), rv ob10, .unset, .unset, .unset] [(.ref ob15)])) t := by
        intro t k
        refine XS.dup X15.here hx rfl (hb hby at_64) rfl rfl ?_
        show Steps p.tables e below (T15.setTop (mkF m 65 #[iv p0, iv p1, iv p2, iv p3, iv p4, iv (own_pos p0), iv (own_pos p1), iv (own_sel p4 1 p2 p0), iv (own_sel p4 2 p3 p1), rv ob10, .unset, .unset, .unset] [(.ref ob15), (.ref ob15)])) _
        refine XS.iload X15.here hx rfl (hb hby at_65) rfl ?_
        show Steps p.tables e below (T15.setTop (mkF m 67 #[iv p0, iv p1, iv p2, iv p3, iv p4, iv (own_pos p0), iv (own_pos p1), iv (own_sel p4 1 p2 p0), iv (own_sel p4 2 p3 p1), rv ob10, .unset, .unset, .unset] [(.int (own_sel p4 1 p2 p0)), (.ref ob15), (.ref ob15)])) _
        refine XS.iload X15.here hx rfl (hb hby at_67) rfl ?_
        show Steps p.tables e below (T15.setTop (mkF m 69 #[iv p0, iv p1, iv p2, iv p3, iv p4, iv (own_pos p0), iv (own_pos p1), iv (own_sel p4 1 p2 p0), iv (own_sel p4 2 p3 p1), rv ob10, .unset, .unset, .unset] [(.int (own_sel p4 2 p3 p1)), (.int (own_sel p4 1 p2 p0)), (.ref ob15), (.ref ob15)])) _
        exact k
      refine own_lift sg19 ?_
      show own_Go p.tables e below (T15.setTop (mkF m 69 #[iv p0, iv p1, iv p2, iv p3, iv p4, iv (own_pos p0), iv (own_pos p1), iv (own_sel p4 1 p2 p0), iv (own_sel p4 2 p3 p1), rv ob10, .unset, .unset, .unset] [(.int (own_sel p4 2 p3 p1)), (.int (own_sel p4 1 p2 p0)), (.ref ob15), (.ref ob15)])) _
      obtain ⟨_, _, ⟨T20, Lx20, kx20, nx20⟩, -, X20, ⟨Lc20, hQ20, lx20, yx20, zx20⟩, st20⟩ := X15.specialBack hx (y := (⟨"com/example/allsome/allsome/cypher/InputPosition", "<init>", "(II)V"⟩ : MethodName)) rfl hown (mvT hZ (wd hw 8 rfl)) (mvT hZ (wd hw 9 rfl)) (mvT hZ (wd hw 10 rfl)) (by decide) (backOf (W := 1) (rmInit l Z a0 hw [] ob15 (own_sel p4 1 p2 p0) (own_sel p4 2 p3 p1) h15 n0 Z15 Fn15_15 Fn15_17 Ax15 ge15 (own_sel_ge _ _ _ _) (own_sel_ge _ _ _ _)) hZ (wd hw 10 rfl) (wd hw 7 rfl) (by decide) (by decide)) (g := (mkF m 69 #[iv p0, iv p1, iv p2, iv p3, iv p4, iv (own_pos p0), iv (own_pos p1), iv (own_sel p4 1 p2 p0), iv (own_sel p4 2 p3 p1), rv ob10, .unset, .unset, .unset] [(.int (own_sel p4 2 p3 p1)), (.int (own_sel p4 1 p2 p0)), (.ref ob15), (.ref ob15)])) rfl (by rw [hml]; rfl) (Steps.refl _) (a := ob15) (argsL := [(.int (own_sel p4 1 p2 p0)), (.int (own_sel p4 2 p3 p1))]) (rest := [(.ref ob15)]) (lenOf pd_3 rfl) rfl (by show 2 * 0 + _ ≤ _; exact Nat.le_of_eq rfl) (hb hby at_69) (fun _ _ => ⟨rfl, e15, (by decide : 2 + 0 ≤ _), (by decide : 4 + 0 ≤ _)⟩)
      dsimp only [Pt.U, Pt.locs, Pt.cells, Pt.slots] at X20 lx20 yx20 zx20 st20 hQ20
      subst lx20 yx20 zx20
      obtain ⟨rfl, N20q, p20_0, p20_1, p20_2, p20_3⟩ := hQ20
      have N20 := Fr.app N13 N20q
      have Z20 : n0 ≤ T20.heap.size := Nat.le_trans Z15 p20_0.1
      refine own_lift (fun t k => st20.trans k) ?_
      show own_Go p.tables e below (T20.setTop (mkF m 72 #[iv p0, iv p1, iv p2, iv p3, iv p4, iv (own_pos p0), iv (own_pos p1), iv (own_sel p4 1 p2 p0), iv (own_sel p4 2 p3 p1), rv ob10, .unset, .unset, .unset] [(.ref ob15)])) _
      have sg21 : ∀ t, Steps p.tables e below (T20.setTop (mkF m 112 #[iv p0, iv p1, iv p2, iv p3, iv p4, iv (own_pos p0), iv (own_pos p1), iv (own_sel p4 1 p2 p0), iv (own_sel p4 2 p3 p1), rv ob10, rv ob15, iv (((p4.toUInt32 >>> ((2 : Int32) &&& 31).toUInt32).toInt32) &&& (3 : Int32)), iv 0] [(.ref ob15), (.ref ob10)])) t → Steps p.tables e below (T20.setTop (mkF m 72 #[iv p0, iv p1, iv p2, iv p3, iv p4, iv (own_pos p0), iv (own_pos p1), iv (own_sel p4 1 p2 p0), iv (own_sel p4 2 p3 p1), rv ob10, .unset, .unset, .unset] [(.ref ob15)])) t := by
        intro t k
        refine XS.astore X20.here hx rfl (hb hby at_72) rfl rfl (l' := #[iv p0, iv p1, iv p2, iv p3, iv p4, iv (own_pos p0), iv (own_pos p1), iv (own_sel p4 1 p2 p0), iv (own_sel p4 2 p3 p1), rv ob10, rv ob15, .unset, .unset]) rfl ?_
        show Steps p.tables e below (T20.setTop (mkF m 74 #[iv p0, iv p1, iv p2, iv p3, iv p4, iv (own_pos p0), iv (own_pos p1), iv (own_sel p4 1 p2 p0), iv (own_sel p4 2 p3 p1), rv ob10, rv ob15, .unset, .unset] [])) _
        refine XS.iload X20.here hx rfl (hb hby at_74) rfl ?_
        show Steps p.tables e below (T20.setTop (mkF m 76 #[iv p0, iv p1, iv p2, iv p3, iv p4, iv (own_pos p0), iv (own_pos p1), iv (own_sel p4 1 p2 p0), iv (own_sel p4 2 p3 p1), rv ob10, rv ob15, .unset, .unset] [(.int p4)])) _
        refine XS.iconst X20.here hx rfl (hb hby at_76) ?_
        show Steps p.tables e below (T20.setTop (mkF m 77 #[iv p0, iv p1, iv p2, iv p3, iv p4, iv (own_pos p0), iv (own_pos p1), iv (own_sel p4 1 p2 p0), iv (own_sel p4 2 p3 p1), rv ob10, rv ob15, .unset, .unset] [(.int 2), (.int p4)])) _
        refine XS.iushr X20.here hx rfl (hb hby at_77) rfl ?_
        show Steps p.tables e below (T20.setTop (mkF m 78 #[iv p0, iv p1, iv p2, iv p3, iv p4, iv (own_pos p0), iv (own_pos p1), iv (own_sel p4 1 p2 p0), iv (own_sel p4 2 p3 p1), rv ob10, rv ob15, .unset, .unset] [(.int ((p4.toUInt32 >>> ((2 : Int32) &&& 31).toUInt32).toInt32))])) _
        refine XS.iconst X20.here hx rfl (hb hby at_78) ?_
        show Steps p.tables e below (T20.setTop (mkF m 79 #[iv p0, iv p1, iv p2, iv p3, iv p4, iv (own_pos p0), iv (own_pos p1), iv (own_sel p4 1 p2 p0), iv (own_sel p4 2 p3 p1), rv ob10, rv ob15, .unset, .unset] [(.int 3), (.int ((p4.toUInt32 >>> ((2 : Int32) &&& 31).toUInt32).toInt32))])) _
        refine XS.iand X20.here hx rfl (hb hby at_79) rfl ?_
        show Steps p.tables e below (T20.setTop (mkF m 80 #[iv p0, iv p1, iv p2, iv p3, iv p4, iv (own_pos p0), iv (own_pos p1), iv (own_sel p4 1 p2 p0), iv (own_sel p4 2 p3 p1), rv ob10, rv ob15, .unset, .unset] [(.int (((p4.toUInt32 >>> ((2 : Int32) &&& 31).toUInt32).toInt32) &&& (3 : Int32)))])) _
        refine XS.istore X20.here hx rfl (hb hby at_80) rfl (l' := #[iv p0, iv p1, iv p2, iv p3, iv p4, iv (own_pos p0), iv (own_pos p1), iv (own_sel p4 1 p2 p0), iv (own_sel p4 2 p3 p1), rv ob10, rv ob15, iv (((p4.toUInt32 >>> ((2 : Int32) &&& 31).toUInt32).toInt32) &&& (3 : Int32)), .unset]) rfl ?_
        show Steps p.tables e below (T20.setTop (mkF m 82 #[iv p0, iv p1, iv p2, iv p3, iv p4, iv (own_pos p0), iv (own_pos p1), iv (own_sel p4 1 p2 p0), iv (own_sel p4 2 p3 p1), rv ob10, rv ob15, iv (((p4.toUInt32 >>> ((2 : Int32) &&& 31).toUInt32).toInt32) &&& (3 : Int32)), .unset] [])) _
        refine XS.iload X20.here hx rfl (hb hby at_82) rfl ?_
        show Steps p.tables e below (T20.setTop (mkF m 84 #[iv p0, iv p1, iv p2, iv p3, iv p4, iv (own_pos p0), iv (own_pos p1), iv (own_sel p4 1 p2 p0), iv (own_sel p4 2 p3 p1), rv ob10, rv ob15, iv (((p4.toUInt32 >>> ((2 : Int32) &&& 31).toUInt32).toInt32) &&& (3 : Int32)), .unset] [(.int (((p4.toUInt32 >>> ((2 : Int32) &&& 31).toUInt32).toInt32) &&& (3 : Int32)))])) _
        refine XS.ifNo X20.here hx rfl (hb hby at_84) rfl ((if0 _ _).trans (teq k0).2) ?_
        show Steps p.tables e below (T20.setTop (mkF m 87 #[iv p0, iv p1, iv p2, iv p3, iv p4, iv (own_pos p0), iv (own_pos p1), iv (own_sel p4 1 p2 p0), iv (own_sel p4 2 p3 p1), rv ob10, rv ob15, iv (((p4.toUInt32 >>> ((2 : Int32) &&& 31).toUInt32).toInt32) &&& (3 : Int32)), .unset] [])) _
        refine XS.iload X20.here hx rfl (hb hby at_87) rfl ?_
        show Steps p.tables e below (T20.setTop (mkF m 89 #[iv p0, iv p1, iv p2, iv p3, iv p4, iv (own_pos p0), iv (own_pos p1), iv (own_sel p4 1 p2 p0), iv (own_sel p4 2 p3 p1), rv ob10, rv ob15, iv (((p4.toUInt32 >>> ((2 : Int32) &&& 31).toUInt32).toInt32) &&& (3 : Int32)), .unset] [(.int (own_pos p0))])) _
        refine XS.iload X20.here hx rfl (hb hby at_89) rfl ?_
        show Steps p.tables e below (T20.setTop (mkF m 91 #[iv p0, iv p1, iv p2, iv p3, iv p4, iv (own_pos p0), iv (own_pos p1), iv (own_sel p4 1 p2 p0), iv (own_sel p4 2 p3 p1), rv ob10, rv ob15, iv (((p4.toUInt32 >>> ((2 : Int32) &&& 31).toUInt32).toInt32) &&& (3 : Int32)), .unset] [(.int (own_sel p4 1 p2 p0)), (.int (own_pos p0))])) _
        refine XS.icmpNo X20.here hx rfl (hb hby at_91) rfl (teq hl).2 ?_
        show Steps p.tables e below (T20.setTop (mkF m 94 #[iv p0, iv p1, iv p2, iv p3, iv p4, iv (own_pos p0), iv (own_pos p1), iv (own_sel p4 1 p2 p0), iv (own_sel p4 2 p3 p1), rv ob10, rv ob15, iv (((p4.toUInt32 >>> ((2 : Int32) &&& 31).toUInt32).toInt32) &&& (3 : Int32)), .unset] [])) _
        refine XS.iload X20.here hx rfl (hb hby at_94) rfl ?_
        show Steps p.tables e below (T20.setTop (mkF m 96 #[iv p0, iv p1, iv p2, iv p3, iv p4, iv (own_pos p0), iv (own_pos p1), iv (own_sel p4 1 p2 p0), iv (own_sel p4 2 p3 p1), rv ob10, rv ob15, iv (((p4.toUInt32 >>> ((2 : Int32) &&& 31).toUInt32).toInt32) &&& (3 : Int32)), .unset] [(.int (own_pos p1))])) _
        refine XS.iload X20.here hx rfl (hb hby at_96) rfl ?_
        show Steps p.tables e below (T20.setTop (mkF m 98 #[iv p0, iv p1, iv p2, iv p3, iv p4, iv (own_pos p0), iv (own_pos p1), iv (own_sel p4 1 p2 p0), iv (own_sel p4 2 p3 p1), rv ob10, rv ob15, iv (((p4.toUInt32 >>> ((2 : Int32) &&& 31).toUInt32).toInt32) &&& (3 : Int32)), .unset] [(.int (own_sel p4 2 p3 p1)), (.int (own_pos p1))])) _
        refine XS.icmpYes X20.here hx rfl (pc0 := 98) (pc' := 105) rfl (hb hby at_98) rfl (feq hc).2 (by decide) (by decide) ?_
        show Steps p.tables e below (T20.setTop (mkF m 105 #[iv p0, iv p1, iv p2, iv p3, iv p4, iv (own_pos p0), iv (own_pos p1), iv (own_sel p4 1 p2 p0), iv (own_sel p4 2 p3 p1), rv ob10, rv ob15, iv (((p4.toUInt32 >>> ((2 : Int32) &&& 31).toUInt32).toInt32) &&& (3 : Int32)), .unset] [])) _
        refine XS.iconst X20.here hx rfl (hb hby at_105) ?_
        show Steps p.tables e below (T20.setTop (mkF m 106 #[iv p0, iv p1, iv p2, iv p3, iv p4, iv (own_pos p0), iv (own_pos p1), iv (own_sel p4 1 p2 p0), iv (own_sel p4 2 p3 p1), rv ob10, rv ob15, iv (((p4.toUInt32 >>> ((2 : Int32) &&& 31).toUInt32).toInt32) &&& (3 : Int32)), .unset] [(.int 0)])) _
        refine XS.istore X20.here hx rfl (hb hby at_106) rfl (l' := #[iv p0, iv p1, iv p2, iv p3, iv p4, iv (own_pos p0), iv (own_pos p1), iv (own_sel p4 1 p2 p0), iv (own_sel p4 2 p3 p1), rv ob10, rv ob15, iv (((p4.toUInt32 >>> ((2 : Int32) &&& 31).toUInt32).toInt32) &&& (3 : Int32)), iv 0]) rfl ?_
        show Steps p.tables e below (T20.setTop (mkF m 108 #[iv p0, iv p1, iv p2, iv p3, iv p4, iv (own_pos p0), iv (own_pos p1), iv (own_sel p4 1 p2 p0), iv (own_sel p4 2 p3 p1), rv ob10, rv ob15, iv (((p4.toUInt32 >>> ((2 : Int32) &&& 31).toUInt32).toInt32) &&& (3 : Int32)), iv 0] [])) _
        refine XS.aload X20.here hx rfl (hb hby at_108) rfl rfl ?_
        show Steps p.tables e below (T20.setTop (mkF m 110 #[iv p0, iv p1, iv p2, iv p3, iv p4, iv (own_pos p0), iv (own_pos p1), iv (own_sel p4 1 p2 p0), iv (own_sel p4 2 p3 p1), rv ob10, rv ob15, iv (((p4.toUInt32 >>> ((2 : Int32) &&& 31).toUInt32).toInt32) &&& (3 : Int32)), iv 0] [(.ref ob10)])) _
        refine XS.aload X20.here hx rfl (hb hby at_110) rfl rfl ?_
        show Steps p.tables e below (T20.setTop (mkF m 112 #[iv p0, iv p1, iv p2, iv p3, iv p4, iv (own_pos p0), iv (own_pos p1), iv (own_sel p4 1 p2 p0), iv (own_sel p4 2 p3 p1), rv ob10, rv ob15, iv (((p4.toUInt32 >>> ((2 : Int32) &&& 31).toUInt32).toInt32) &&& (3 : Int32)), iv 0] [(.ref ob15), (.ref ob10)])) _
        exact k
      refine own_lift sg21 ?_
      show own_Go p.tables e below (T20.setTop (mkF m 112 #[iv p0, iv p1, iv p2, iv p3, iv p4, iv (own_pos p0), iv (own_pos p1), iv (own_sel p4 1 p2 p0), iv (own_sel p4 2 p3 p1), rv ob10, rv ob15, iv (((p4.toUInt32 >>> ((2 : Int32) &&& 31).toUInt32).toInt32) &&& (3 : Int32)), iv 0] [(.ref ob15), (.ref ob10)])) _
      have Fc22 : Fld Z T20.heap ob10 "com/example/allsome/allsome/cypher/InputPosition" "line" "I" (.int (own_pos p0)) := ((p13_2.ext Ex15).keep p20_0 (ninS ne18 nin0))
      have Fc23 : Fld Z T20.heap ob10 "com/example/allsome/allsome/cypher/InputPosition" "column" "I" (.int (own_pos p1)) := ((p13_3.ext Ex15).keep p20_0 (ninS ne18 nin0))
      have Fc25 : Exa Z T20.heap ob10 "com/example/allsome/allsome/cypher/InputPosition" := ((p13_1.ext Ex15).keep p20_0)
      obtain ⟨cq24, kq24, q24a, q24b, q24c⟩ := isOf hZ rfl Fc25
      obtain ⟨_, _, ⟨T24, Lx24, kx24, nx24⟩, -, X24, ⟨Lc24, hQ24, lx24, yx24, zx24⟩, st24⟩ := X20.virtualBack hx (y := (⟨"com/example/allsome/allsome/cypher/InputPosition", "equals", "(Ljava/lang/Object;)Z"⟩ : MethodName)) (z := (⟨"com/example/allsome/allsome/cypher/InputPosition", "equals", "(Ljava/lang/Object;)Z"⟩ : MethodName)) hown (mvT hZ (wd hw 18 rfl)) (mvT hZ (wd hw 19 rfl)) (notFace_of_selects (args := #[]) (mvT hZ (wd hw 21 rfl))) (mvT hZ (wd hw 21 rfl)) (mvT hZ (wd hw 20 rfl)) (by decide) (backOf (W := 0) (rmEqC l Z a0 hw [] ob10 ob15 (own_pos p0) (own_pos p1) (own_sel p4 1 p2 p0) (own_sel p4 2 p3 p1) T20.heap n0 Z20 Fc22 Fc23 p20_2 p20_3 p20_1 hl hc) hZ (wd hw 22 rfl) (wd hw 7 rfl) (by decide) (by decide)) q24a q24c (g := (mkF m 112 #[iv p0, iv p1, iv p2, iv p3, iv p4, iv (own_pos p0), iv (own_pos p1), iv (own_sel p4 1 p2 p0), iv (own_sel p4 2 p3 p1), rv ob10, rv ob15, iv (((p4.toUInt32 >>> ((2 : Int32) &&& 31).toUInt32).toInt32) &&& (3 : Int32)), iv 0] [(.ref ob15), (.ref ob10)])) rfl (by rw [hml]; rfl) (Steps.refl _) (argsL := [(.ref ob15)]) (rest := []) (lenOf pd_4 rfl) rfl (by show 2 * 0 + _ ≤ _; exact Nat.le_of_eq rfl) (hb hby at_112) (fun _ _ => ⟨rfl, rfl, (by decide : 2 + 0 ≤ _), (by decide : 4 + 0 ≤ _)⟩)
      dsimp only [Pt.U, Pt.locs, Pt.cells, Pt.slots] at X24 lx24 yx24 zx24 st24 hQ24
      subst lx24 yx24 zx24
      obtain ⟨rfl, N24q, e24⟩ := hQ24
      have N24 := Fr.app N20 N24q
      refine own_lift (fun t k => st24.trans k) ?_
      show own_Go p.tables e below (T24.setTop (mkF m 115 #[iv p0, iv p1, iv p2, iv p3, iv p4, iv (own_pos p0), iv (own_pos p1), iv (own_sel p4 1 p2 p0), iv (own_sel p4 2 p3 p1), rv ob10, rv ob15, iv (((p4.toUInt32 >>> ((2 : Int32) &&& 31).toUInt32).toInt32) &&& (3 : Int32)), iv 0] [(.int 0)])) _
      have sg26 : ∀ t, Steps p.tables e below (T24.setTop (mkF m 124 #[iv p0, iv p1, iv p2, iv p3, iv p4, iv (own_pos p0), iv (own_pos p1), iv (own_sel p4 1 p2 p0), iv (own_sel p4 2 p3 p1), rv ob10, rv ob15, iv (((p4.toUInt32 >>> ((2 : Int32) &&& 31).toUInt32).toInt32) &&& (3 : Int32)), iv 0] [(.ref ob10), (.ref ob15)])) t → Steps p.tables e below (T24.setTop (mkF m 115 #[iv p0, iv p1, iv p2, iv p3, iv p4, iv (own_pos p0), iv (own_pos p1), iv (own_sel p4 1 p2 p0), iv (own_sel p4 2 p3 p1), rv ob10, rv ob15, iv (((p4.toUInt32 >>> ((2 : Int32) &&& 31).toUInt32).toInt32) &&& (3 : Int32)), iv 0] [(.int 0)])) t := by
        intro t k
        refine XS.iload X24.here hx rfl (hb hby at_115) rfl ?_
        show Steps p.tables e below (T24.setTop (mkF m 117 #[iv p0, iv p1, iv p2, iv p3, iv p4, iv (own_pos p0), iv (own_pos p1), iv (own_sel p4 1 p2 p0), iv (own_sel p4 2 p3 p1), rv ob10, rv ob15, iv (((p4.toUInt32 >>> ((2 : Int32) &&& 31).toUInt32).toInt32) &&& (3 : Int32)), iv 0] [(.int 0), (.int 0)])) _
        refine XS.icmpNo X24.here hx rfl (hb hby at_117) rfl (teq (by decide : (0 : Int32) = (0 : Int32))).2 ?_
        show Steps p.tables e below (T24.setTop (mkF m 120 #[iv p0, iv p1, iv p2, iv p3, iv p4, iv (own_pos p0), iv (own_pos p1), iv (own_sel p4 1 p2 p0), iv (own_sel p4 2 p3 p1), rv ob10, rv ob15, iv (((p4.toUInt32 >>> ((2 : Int32) &&& 31).toUInt32).toInt32) &&& (3 : Int32)), iv 0] [])) _
        refine XS.aload X24.here hx rfl (hb hby at_120) rfl rfl ?_
        show Steps p.tables e below (T24.setTop (mkF m 122 #[iv p0, iv p1, iv p2, iv p3, iv p4, iv (own_pos p0), iv (own_pos p1), iv (own_sel p4 1 p2 p0), iv (own_sel p4 2 p3 p1), rv ob10, rv ob15, iv (((p4.toUInt32 >>> ((2 : Int32) &&& 31).toUInt32).toInt32) &&& (3 : Int32)), iv 0] [(.ref ob15)])) _
        refine XS.aload X24.here hx rfl (hb hby at_122) rfl rfl ?_
        show Steps p.tables e below (T24.setTop (mkF m 124 #[iv p0, iv p1, iv p2, iv p3, iv p4, iv (own_pos p0), iv (own_pos p1), iv (own_sel p4 1 p2 p0), iv (own_sel p4 2 p3 p1), rv ob10, rv ob15, iv (((p4.toUInt32 >>> ((2 : Int32) &&& 31).toUInt32).toInt32) &&& (3 : Int32)), iv 0] [(.ref ob10), (.ref ob15)])) _
        exact k
      refine own_lift sg26 ?_
      show own_Go p.tables e below (T24.setTop (mkF m 124 #[iv p0, iv p1, iv p2, iv p3, iv p4, iv (own_pos p0), iv (own_pos p1), iv (own_sel p4 1 p2 p0), iv (own_sel p4 2 p3 p1), rv ob10, rv ob15, iv (((p4.toUInt32 >>> ((2 : Int32) &&& 31).toUInt32).toInt32) &&& (3 : Int32)), iv 0] [(.ref ob10), (.ref ob15)])) _
      obtain ⟨cq27, kq27, q27a, q27b, q27c⟩ := isOf hZ e24 p20_1
      obtain ⟨_, _, ⟨T27, Lx27, kx27, nx27⟩, -, X27, ⟨Lc27, hQ27, lx27, yx27, zx27⟩, st27⟩ := X24.virtualBack hx (y := (⟨"com/example/allsome/allsome/cypher/InputPosition", "equals", "(Ljava/lang/Object;)Z"⟩ : MethodName)) (z := (⟨"com/example/allsome/allsome/cypher/InputPosition", "equals", "(Ljava/lang/Object;)Z"⟩ : MethodName)) hown (mvT hZ (wd hw 18 rfl)) (mvT hZ (wd hw 19 rfl)) (notFace_of_selects (args := #[]) (mvT hZ (wd hw 21 rfl))) (mvT hZ (wd hw 21 rfl)) (mvT hZ (wd hw 20 rfl)) (by decide) (backOf (W := 0) (rmEqC l Z a0 hw [] ob15 ob10 (own_sel p4 1 p2 p0) (own_sel p4 2 p3 p1) (own_pos p0) (own_pos p1) T20.heap n0 Z20 p20_2 p20_3 Fc22 Fc23 Fc25 (Eq.symm hl) (fun q => hc (Eq.symm q))) hZ (wd hw 22 rfl) (wd hw 7 rfl) (by decide) (by decide)) q27a q27c (g := (mkF m 124 #[iv p0, iv p1, iv p2, iv p3, iv p4, iv (own_pos p0), iv (own_pos p1), iv (own_sel p4 1 p2 p0), iv (own_sel p4 2 p3 p1), rv ob10, rv ob15, iv (((p4.toUInt32 >>> ((2 : Int32) &&& 31).toUInt32).toInt32) &&& (3 : Int32)), iv 0] [(.ref ob10), (.ref ob15)])) rfl (by rw [hml]; rfl) (Steps.refl _) (argsL := [(.ref ob10)]) (rest := []) (lenOf pd_4 rfl) rfl (by show 2 * 0 + _ ≤ _; exact Nat.le_of_eq rfl) (hb hby at_124) (fun _ _ => ⟨rfl, e24, (by decide : 2 + 0 ≤ _), (by decide : 4 + 0 ≤ _)⟩)
      dsimp only [Pt.U, Pt.locs, Pt.cells, Pt.slots] at X27 lx27 yx27 zx27 st27 hQ27
      subst lx27 yx27 zx27
      obtain ⟨rfl, N27q, e27⟩ := hQ27
      have N27 := Fr.app N24 N27q
      refine own_lift (fun t k => st27.trans k) ?_
      show own_Go p.tables e below (T27.setTop (mkF m 127 #[iv p0, iv p1, iv p2, iv p3, iv p4, iv (own_pos p0), iv (own_pos p1), iv (own_sel p4 1 p2 p0), iv (own_sel p4 2 p3 p1), rv ob10, rv ob15, iv (((p4.toUInt32 >>> ((2 : Int32) &&& 31).toUInt32).toInt32) &&& (3 : Int32)), iv 0] [(.int 0)])) _
      have sg28 : ∀ t, Steps p.tables e below (T27.setTop (mkF m 137 #[iv p0, iv p1, iv p2, iv p3, iv p4, iv (own_pos p0), iv (own_pos p1), iv (own_sel p4 1 p2 p0), iv (own_sel p4 2 p3 p1), rv ob10, rv ob15, iv (((p4.toUInt32 >>> ((2 : Int32) &&& 31).toUInt32).toInt32) &&& (3 : Int32)), iv 0] [(.int 1)])) t → Steps p.tables e below (T27.setTop (mkF m 127 #[iv p0, iv p1, iv p2, iv p3, iv p4, iv (own_pos p0), iv (own_pos p1), iv (own_sel p4 1 p2 p0), iv (own_sel p4 2 p3 p1), rv ob10, rv ob15, iv (((p4.toUInt32 >>> ((2 : Int32) &&& 31).toUInt32).toInt32) &&& (3 : Int32)), iv 0] [(.int 0)])) t := by
        intro t k
        refine XS.iload X27.here hx rfl (hb hby at_127) rfl ?_
        show Steps p.tables e below (T27.setTop (mkF m 129 #[iv p0, iv p1, iv p2, iv p3, iv p4, iv (own_pos p0), iv (own_pos p1), iv (own_sel p4 1 p2 p0), iv (own_sel p4 2 p3 p1), rv ob10, rv ob15, iv (((p4.toUInt32 >>> ((2 : Int32) &&& 31).toUInt32).toInt32) &&& (3 : Int32)), iv 0] [(.int 0), (.int 0)])) _
        refine XS.icmpNo X27.here hx rfl (hb hby at_129) rfl (teq (by decide : (0 : Int32) = (0 : Int32))).2 ?_
        show Steps p.tables e below (T27.setTop (mkF m 132 #[iv p0, iv p1, iv p2, iv p3, iv p4, iv (own_pos p0), iv (own_pos p1), iv (own_sel p4 1 p2 p0), iv (own_sel p4 2 p3 p1), rv ob10, rv ob15, iv (((p4.toUInt32 >>> ((2 : Int32) &&& 31).toUInt32).toInt32) &&& (3 : Int32)), iv 0] [])) _
        refine XS.iconst X27.here hx rfl (hb hby at_132) ?_
        show Steps p.tables e below (T27.setTop (mkF m 133 #[iv p0, iv p1, iv p2, iv p3, iv p4, iv (own_pos p0), iv (own_pos p1), iv (own_sel p4 1 p2 p0), iv (own_sel p4 2 p3 p1), rv ob10, rv ob15, iv (((p4.toUInt32 >>> ((2 : Int32) &&& 31).toUInt32).toInt32) &&& (3 : Int32)), iv 0] [(.int 1)])) _
        refine XS.goto X27.here hx rfl (pc0 := 133) (pc' := 137) rfl (hb hby at_133) (by decide) (by decide) ?_
        show Steps p.tables e below (T27.setTop (mkF m 137 #[iv p0, iv p1, iv p2, iv p3, iv p4, iv (own_pos p0), iv (own_pos p1), iv (own_sel p4 1 p2 p0), iv (own_sel p4 2 p3 p1), rv ob10, rv ob15, iv (((p4.toUInt32 >>> ((2 : Int32) &&& 31).toUInt32).toInt32) &&& (3 : Int32)), iv 0] [(.int 1)])) _
        exact k
      refine own_lift sg28 ?_
      show own_Go p.tables e below (T27.setTop (mkF m 137 #[iv p0, iv p1, iv p2, iv p3, iv p4, iv (own_pos p0), iv (own_pos p1), iv (own_sel p4 1 p2 p0), iv (own_sel p4 2 p3 p1), rv ob10, rv ob15, iv (((p4.toUInt32 >>> ((2 : Int32) &&& 31).toUInt32).toInt32) &&& (3 : Int32)), iv 0] [(.int 1)])) _
      obtain ⟨fs, hr, hrun, hended, hW, hsame⟩ := X27.leave (v := some (.int 1)) (fun h => by rw [Bd.returns] at h; cases h)
      refine ⟨_, _, ?_, hrun, hended, _, _, rfl, ?_, ⟨_, rfl⟩, hW, hsame.mono (by decide) (by decide)⟩
      · exact retN X27 hx (t := .boolean) Bd.returns (by simp) (hb hby at_137) hr
      · show Q0 Z  h0 n0 _ T27.heap _
        rw [e27]
        exact ⟨rfl, N27⟩
    by_cases b2 : (p4 &&& (2 : Int32)) = (0 : Int32)
    · have sg29 : ∀ t, Steps p.tables e below (T6.setTop (mkF m 43 #[iv p0, iv p1, iv p2, iv p3, iv p4, iv (own_pos p0), iv (own_pos p1), iv (own_sel p4 1 p2 p0), .unset, .unset, .unset, .unset, .unset] [(.int p3)])) t → Steps p.tables e below (T6.setTop (mkF m 30 #[iv p0, iv p1, iv p2, iv p3, iv p4, iv (own_pos p0), iv (own_pos p1), iv (own_sel p4 1 p2 p0), .unset, .unset, .unset, .unset, .unset] [])) t := by
        intro t k
        refine XS.iload X6.here hx rfl (hb hby at_30) rfl ?_
        show Steps p.tables e below (T6.setTop (mkF m 32 #[iv p0, iv p1, iv p2, iv p3, iv p4, iv (own_pos p0), iv (own_pos p1), iv (own_sel p4 1 p2 p0), .unset, .unset, .unset, .unset, .unset] [(.int p4)])) _
        refine XS.iconst X6.here hx rfl (hb hby at_32) ?_
        show Steps p.tables e below (T6.setTop (mkF m 33 #[iv p0, iv p1, iv p2, iv p3, iv p4, iv (own_pos p0), iv (own_pos p1), iv (own_sel p4 1 p2 p0), .unset, .unset, .unset, .unset, .unset] [(.int 2), (.int p4)])) _
        refine XS.iand X6.here hx rfl (hb hby at_33) rfl ?_
        show Steps p.tables e below (T6.setTop (mkF m 34 #[iv p0, iv p1, iv p2, iv p3, iv p4, iv (own_pos p0), iv (own_pos p1), iv (own_sel p4 1 p2 p0), .unset, .unset, .unset, .unset, .unset] [(.int (p4 &&& (2 : Int32)))])) _
        refine XS.ifYes X6.here hx rfl (pc0 := 34) (pc' := 42) rfl (hb hby at_34) rfl ((if0 _ _).trans (teq b2).1) (by decide) (by decide) ?_
        show Steps p.tables e below (T6.setTop (mkF m 42 #[iv p0, iv p1, iv p2, iv p3, iv p4, iv (own_pos p0), iv (own_pos p1), iv (own_sel p4 1 p2 p0), .unset, .unset, .unset, .unset, .unset] [])) _
        refine XS.iloadN X6.here hx rfl (hb hby at_42) rfl ?_
        show Steps p.tables e below (T6.setTop (mkF m 43 #[iv p0, iv p1, iv p2, iv p3, iv p4, iv (own_pos p0), iv (own_pos p1), iv (own_sel p4 1 p2 p0), .unset, .unset, .unset, .unset, .unset] [(.int p3)])) _
        exact k
      refine own_lift sg29 ?_
      show own_Go p.tables e below (T6.setTop (mkF m 43 #[iv p0, iv p1, iv p2, iv p3, iv p4, iv (own_pos p0), iv (own_pos p1), iv (own_sel p4 1 p2 p0), .unset, .unset, .unset, .unset, .unset] [(.int p3)])) _
      obtain ⟨_, _, ⟨T30, Lx30, kx30, nx30⟩, -, X30, ⟨Lc30, hQ30, lx30, yx30, zx30⟩, st30⟩ := Jvm.LawKit.callS X6 hx (y := (⟨"com/example/allsome/allsome/cypher/InputPositionEqualsPinLaw", "pos", "(I)I"⟩ : MethodName)) hown (mvT hZ (wd hw 0 rfl)) (mvT hZ (wd hw 1 rfl)) (mvT hZ (wd hw 2 rfl)) (mvT hZ (wd hw 3 rfl)) (by decide) (backOf (W := 0) (rmPos l Z a0 hw [] p3 h0 n0 Z0 ) hZ (wd hw 3 rfl) (wd hw 2 rfl) (by decide) (by decide)) (g := (mkF m 43 #[iv p0, iv p1, iv p2, iv p3, iv p4, iv (own_pos p0), iv (own_pos p1), iv (own_sel p4 1 p2 p0), .unset, .unset, .unset, .unset, .unset] [(.int p3)])) rfl (by rw [hml]; rfl) (argsL := [(.int p3)]) (rest := []) (lenOf pd_2 rfl) rfl (by show 2 * 0 + _ ≤ _; exact Nat.le_of_eq rfl) (hb hby at_43) (fun _ _ => ⟨rfl, e6, (by decide : 0 + 0 ≤ _), (by decide : 0 + 0 ≤ _)⟩)
      dsimp only [Pt.U, Pt.locs, Pt.cells, Pt.slots] at X30 lx30 yx30 zx30 st30 hQ30
      subst lx30 yx30 zx30
      obtain ⟨rfl, N30q, e30⟩ := hQ30
      have N30 := Fr.app N6 N30q
      refine own_lift st30 ?_
      show own_Go p.tables e below (T30.setTop (mkF m 46 #[iv p0, iv p1, iv p2, iv p3, iv p4, iv (own_pos p0), iv (own_pos p1), iv (own_sel p4 1 p2 p0), .unset, .unset, .unset, .unset, .unset] [(.int (own_pos p3))])) _
      rw [show (own_sel p4 2 p3 p1) = (own_pos p3) from if_pos b2] at join8
      exact join8 _ _ X30 e30 N30
    · have sg31 : ∀ t, Steps p.tables e below (T6.setTop (mkF m 46 #[iv p0, iv p1, iv p2, iv p3, iv p4, iv (own_pos p0), iv (own_pos p1), iv (own_sel p4 1 p2 p0), .unset, .unset, .unset, .unset, .unset] [(.int (own_pos p1))])) t → Steps p.tables e below (T6.setTop (mkF m 30 #[iv p0, iv p1, iv p2, iv p3, iv p4, iv (own_pos p0), iv (own_pos p1), iv (own_sel p4 1 p2 p0), .unset, .unset, .unset, .unset, .unset] [])) t := by
        intro t k
        refine XS.iload X6.here hx rfl (hb hby at_30) rfl ?_
        show Steps p.tables e below (T6.setTop (mkF m 32 #[iv p0, iv p1, iv p2, iv p3, iv p4, iv (own_pos p0), iv (own_pos p1), iv (own_sel p4 1 p2 p0), .unset, .unset, .unset, .unset, .unset] [(.int p4)])) _
        refine XS.iconst X6.here hx rfl (hb hby at_32) ?_
        show Steps p.tables e below (T6.setTop (mkF m 33 #[iv p0, iv p1, iv p2, iv p3, iv p4, iv (own_pos p0), iv (own_pos p1), iv (own_sel p4 1 p2 p0), .unset, .unset, .unset, .unset, .unset] [(.int 2), (.int p4)])) _
        refine XS.iand X6.here hx rfl (hb hby at_33) rfl ?_
        show Steps p.tables e below (T6.setTop (mkF m 34 #[iv p0, iv p1, iv p2, iv p3, iv p4, iv (own_pos p0), iv (own_pos p1), iv (own_sel p4 1 p2 p0), .unset, .unset, .unset, .unset, .unset] [(.int (p4 &&& (2 : Int32)))])) _
        refine XS.ifNo X6.here hx rfl (hb hby at_34) rfl ((if0 _ _).trans (feq b2).1) ?_
        show Steps p.tables e below (T6.setTop (mkF m 37 #[iv p0, iv p1, iv p2, iv p3, iv p4, iv (own_pos p0), iv (own_pos p1), iv (own_sel p4 1 p2 p0), .unset, .unset, .unset, .unset, .unset] [])) _
        refine XS.iload X6.here hx rfl (hb hby at_37) rfl ?_
        show Steps p.tables e below (T6.setTop (mkF m 39 #[iv p0, iv p1, iv p2, iv p3, iv p4, iv (own_pos p0), iv (own_pos p1), iv (own_sel p4 1 p2 p0), .unset, .unset, .unset, .unset, .unset] [(.int (own_pos p1))])) _
        refine XS.goto X6.here hx rfl (pc0 := 39) (pc' := 46) rfl (hb hby at_39) (by decide) (by decide) ?_
        show Steps p.tables e below (T6.setTop (mkF m 46 #[iv p0, iv p1, iv p2, iv p3, iv p4, iv (own_pos p0), iv (own_pos p1), iv (own_sel p4 1 p2 p0), .unset, .unset, .unset, .unset, .unset] [(.int (own_pos p1))])) _
        exact k
      refine own_lift sg31 ?_
      show own_Go p.tables e below (T6.setTop (mkF m 46 #[iv p0, iv p1, iv p2, iv p3, iv p4, iv (own_pos p0), iv (own_pos p1), iv (own_sel p4 1 p2 p0), .unset, .unset, .unset, .unset, .unset] [(.int (own_pos p1))])) _
      rw [show (own_sel p4 2 p3 p1) = (own_pos p1) from if_neg b2] at join8
      exact join8 _ _ X6 e6 N6
  by_cases b1 : (p4 &&& (1 : Int32)) = (0 : Int32)
  · have sg32 : ∀ t, Steps p.tables e below (T4.setTop (mkF m 25 #[iv p0, iv p1, iv p2, iv p3, iv p4, iv (own_pos p0), iv (own_pos p1), .unset, .unset, .unset, .unset, .unset, .unset] [(.int p2)])) t → Steps p.tables e below (T4.setTop (mkF m 12 #[iv p0, iv p1, iv p2, iv p3, iv p4, iv (own_pos p0), iv (own_pos p1), .unset, .unset, .unset, .unset, .unset, .unset] [])) t := by
      intro t k
      refine XS.iload X4.here hx rfl (hb hby at_12) rfl ?_
      show Steps p.tables e below (T4.setTop (mkF m 14 #[iv p0, iv p1, iv p2, iv p3, iv p4, iv (own_pos p0), iv (own_pos p1), .unset, .unset, .unset, .unset, .unset, .unset] [(.int p4)])) _
      refine XS.iconst X4.here hx rfl (hb hby at_14) ?_
      show Steps p.tables e below (T4.setTop (mkF m 15 #[iv p0, iv p1, iv p2, iv p3, iv p4, iv (own_pos p0), iv (own_pos p1), .unset, .unset, .unset, .unset, .unset, .unset] [(.int 1), (.int p4)])) _
      refine XS.iand X4.here hx rfl (hb hby at_15) rfl ?_
      show Steps p.tables e below (T4.setTop (mkF m 16 #[iv p0, iv p1, iv p2, iv p3, iv p4, iv (own_pos p0), iv (own_pos p1), .unset, .unset, .unset, .unset, .unset, .unset] [(.int (p4 &&& (1 : Int32)))])) _
      refine XS.ifYes X4.here hx rfl (pc0 := 16) (pc' := 24) rfl (hb hby at_16) rfl ((if0 _ _).trans (teq b1).1) (by decide) (by decide) ?_
      show Steps p.tables e below (T4.setTop (mkF m 24 #[iv p0, iv p1, iv p2, iv p3, iv p4, iv (own_pos p0), iv (own_pos p1), .unset, .unset, .unset, .unset, .unset, .unset] [])) _
      refine XS.iloadN X4.here hx rfl (hb hby at_24) rfl ?_
      show Steps p.tables e below (T4.setTop (mkF m 25 #[iv p0, iv p1, iv p2, iv p3, iv p4, iv (own_pos p0), iv (own_pos p1), .unset, .unset, .unset, .unset, .unset, .unset] [(.int p2)])) _
      exact k
    refine own_lift sg32 ?_
    show own_Go p.tables e below (T4.setTop (mkF m 25 #[iv p0, iv p1, iv p2, iv p3, iv p4, iv (own_pos p0), iv (own_pos p1), .unset, .unset, .unset, .unset, .unset, .unset] [(.int p2)])) _
    obtain ⟨_, _, ⟨T33, Lx33, kx33, nx33⟩, -, X33, ⟨Lc33, hQ33, lx33, yx33, zx33⟩, st33⟩ := Jvm.LawKit.callS X4 hx (y := (⟨"com/example/allsome/allsome/cypher/InputPositionEqualsPinLaw", "pos", "(I)I"⟩ : MethodName)) hown (mvT hZ (wd hw 0 rfl)) (mvT hZ (wd hw 1 rfl)) (mvT hZ (wd hw 2 rfl)) (mvT hZ (wd hw 3 rfl)) (by decide) (backOf (W := 0) (rmPos l Z a0 hw [] p2 h0 n0 Z0 ) hZ (wd hw 3 rfl) (wd hw 2 rfl) (by decide) (by decide)) (g := (mkF m 25 #[iv p0, iv p1, iv p2, iv p3, iv p4, iv (own_pos p0), iv (own_pos p1), .unset, .unset, .unset, .unset, .unset, .unset] [(.int p2)])) rfl (by rw [hml]; rfl) (argsL := [(.int p2)]) (rest := []) (lenOf pd_2 rfl) rfl (by show 2 * 0 + _ ≤ _; exact Nat.le_of_eq rfl) (hb hby at_25) (fun _ _ => ⟨rfl, e4, (by decide : 0 + 0 ≤ _), (by decide : 0 + 0 ≤ _)⟩)
    dsimp only [Pt.U, Pt.locs, Pt.cells, Pt.slots] at X33 lx33 yx33 zx33 st33 hQ33
    subst lx33 yx33 zx33
    obtain ⟨rfl, N33q, e33⟩ := hQ33
    have N33 := Fr.app N4 N33q
    refine own_lift st33 ?_
    show own_Go p.tables e below (T33.setTop (mkF m 28 #[iv p0, iv p1, iv p2, iv p3, iv p4, iv (own_pos p0), iv (own_pos p1), .unset, .unset, .unset, .unset, .unset, .unset] [(.int (own_pos p2))])) _
    rw [show (own_sel p4 1 p2 p0) = (own_pos p2) from if_pos b1] at join6
    exact join6 _ _ X33 e33 N33
  · have sg34 : ∀ t, Steps p.tables e below (T4.setTop (mkF m 28 #[iv p0, iv p1, iv p2, iv p3, iv p4, iv (own_pos p0), iv (own_pos p1), .unset, .unset, .unset, .unset, .unset, .unset] [(.int (own_pos p0))])) t → Steps p.tables e below (T4.setTop (mkF m 12 #[iv p0, iv p1, iv p2, iv p3, iv p4, iv (own_pos p0), iv (own_pos p1), .unset, .unset, .unset, .unset, .unset, .unset] [])) t := by
      intro t k
      refine XS.iload X4.here hx rfl (hb hby at_12) rfl ?_
      show Steps p.tables e below (T4.setTop (mkF m 14 #[iv p0, iv p1, iv p2, iv p3, iv p4, iv (own_pos p0), iv (own_pos p1), .unset, .unset, .unset, .unset, .unset, .unset] [(.int p4)])) _
      refine XS.iconst X4.here hx rfl (hb hby at_14) ?_
      show Steps p.tables e below (T4.setTop (mkF m 15 #[iv p0, iv p1, iv p2, iv p3, iv p4, iv (own_pos p0), iv (own_pos p1), .unset, .unset, .unset, .unset, .unset, .unset] [(.int 1), (.int p4)])) _
      refine XS.iand X4.here hx rfl (hb hby at_15) rfl ?_
      show Steps p.tables e below (T4.setTop (mkF m 16 #[iv p0, iv p1, iv p2, iv p3, iv p4, iv (own_pos p0), iv (own_pos p1), .unset, .unset, .unset, .unset, .unset, .unset] [(.int (p4 &&& (1 : Int32)))])) _
      refine XS.ifNo X4.here hx rfl (hb hby at_16) rfl ((if0 _ _).trans (feq b1).1) ?_
      show Steps p.tables e below (T4.setTop (mkF m 19 #[iv p0, iv p1, iv p2, iv p3, iv p4, iv (own_pos p0), iv (own_pos p1), .unset, .unset, .unset, .unset, .unset, .unset] [])) _
      refine XS.iload X4.here hx rfl (hb hby at_19) rfl ?_
      show Steps p.tables e below (T4.setTop (mkF m 21 #[iv p0, iv p1, iv p2, iv p3, iv p4, iv (own_pos p0), iv (own_pos p1), .unset, .unset, .unset, .unset, .unset, .unset] [(.int (own_pos p0))])) _
      refine XS.goto X4.here hx rfl (pc0 := 21) (pc' := 28) rfl (hb hby at_21) (by decide) (by decide) ?_
      show Steps p.tables e below (T4.setTop (mkF m 28 #[iv p0, iv p1, iv p2, iv p3, iv p4, iv (own_pos p0), iv (own_pos p1), .unset, .unset, .unset, .unset, .unset, .unset] [(.int (own_pos p0))])) _
      exact k
    refine own_lift sg34 ?_
    show own_Go p.tables e below (T4.setTop (mkF m 28 #[iv p0, iv p1, iv p2, iv p3, iv p4, iv (own_pos p0), iv (own_pos p1), .unset, .unset, .unset, .unset, .unset, .unset] [(.int (own_pos p0))])) _
    rw [show (own_sel p4 1 p2 p0) = (own_pos p0) from if_neg b1] at join6
    exact join6 _ _ X4 e4 N4
theorem ef_rm0_0M (m : MethodId) (x0 : Int32) (x1 : Int32) (x2 : Int32) (x3 : Int32) (x4 : Int32) : entryFrame m #[(.int x0), (.int x1), (.int x2), (.int x3), (.int x4)] maxLocals = mkF m 0 #[.val (.int x0), .val (.int x1), .val (.int x2), .val (.int x3), .val (.int x4), .unset, .unset, .unset, .unset, .unset, .unset, .unset, .unset] [] := by first | (simp [entryFrame, mkF, argsToLocals, Value.category, maxLocals]; done) | rfl
set_option maxRecDepth 65536 in
set_option maxHeartbeats 40000000 in
theorem rm0_0M (l : Launch) (Z : State) (a0 : Array Value) (hw : ∀ d ∈ tables_1, d.before a0 Z = true) (ws : List Jvm.Cond) (p0 : Int32) (p1 : Int32) (p2 : Int32) (p3 : Int32) (p4 : Int32) (ca : Addr) (cc : Cell) (h0 : Heap) (n0 : Nat) (Z0 : n0 ≤ h0.size) (S1 : Sta Z h0 "java/lang/Integer$IntegerCache" "high" "I" (.int 127)) (S2 : Sta Z h0 "java/lang/Integer$IntegerCache" "cache" "[Ljava/lang/Integer;" (.ref ca)) (A1 : Arr Z h0 ca cc (.object "java/lang/Integer")) (k0 : (((p4.toUInt32 >>> ((2 : Int32) &&& 31).toUInt32).toInt32) &&& (3 : Int32)) = (0 : Int32)) (hl : ¬ ((own_pos p0) = (own_sel p4 1 p2 p0))) :
    MetFree l x (head1 (Jvm.Cond.code x code maxLocals ret :: ws) room_1) (fun a U => a = #[(.int p0), (.int p1), (.int p2), (.int p3), (.int p4)] ∧ Z.Warmed39 U.vm ∧ U.heap = h0) (fun _ _ _ _ _ => True) (fun _ U o U' => ∃ v L, o = .returned v ∧ Q0 Z  h0 n0 v U'.heap L ∧ FrameEnd U o U' L 16 128) := by
  refine MetFree.of_bodySF (plainFor_of_name pn_1) hisR ?_
  intro p e s m args below meth c s₁ Bd hml0 hP hK
  obtain ⟨rfl, hZ, hh⟩ := hP
  have hx := Bd.exec
  have hby := Bd.bytes
  have hml : c.maxLocals = 13 := hml0
  have hown : s.vm.findClass "com/example/allsome/allsome/cypher/InputPositionEqualsPinLaw" = some m.cls := findClass_of_methodNamed Bd.named
  have hnm := (name_of_methodNamed Bd.named Bd.method).1
  have X0 : Stand p l e room_1 s m #[(.int p0), (.int p1), (.int p2), (.int p3), (.int p4)] below meth c s₁ [] 0 0 := Stand.of_body Bd
  have e0 : s₁.heap = h0 := by rw [← hh, Bd.state]; rfl
  have N0 := Fr.nil n0
  refine own_go (own_lift (fun t k => castTop (ef_rm0_0M m p0 p1 p2 p3 p4) k) ?_)
  show own_Go p.tables e below (s₁.setTop (mkF m 0 #[iv p0, iv p1, iv p2, iv p3, iv p4, .unset, .unset, .unset, .unset, .unset, .unset, .unset, .unset] [])) _
  have sg1 : ∀ t, Steps p.tables e below (s₁.setTop (mkF m 1 #[iv p0, iv p1, iv p2, iv p3, iv p4, .unset, .unset, .unset, .unset, .unset, .unset, .unset, .unset] [(.int p0)])) t → Steps p.tables e below (s₁.setTop (mkF m 0 #[iv p0, iv p1, iv p2, iv p3, iv p4, .unset, .unset, .unset, .unset, .unset, .unset, .unset, .unset] [])) t := by
    intro t k
    refine XS.iloadN X0.here hx rfl (hb hby at_0) rfl ?_
    show Steps p.tables e below (s₁.setTop (mkF m 1 #[iv p0, iv p1, iv p2, iv p3, iv p4, .unset, .unset, .unset, .unset, .unset, .unset, .unset, .unset] [(.int p0)])) _
    exact k
  refine own_lift sg1 ?_
  show own_Go p.tables e below (s₁.setTop (mkF m 1 #[iv p0, iv p1, iv p2, iv p3, iv p4, .unset, .unset, .unset, .unset, .unset, .unset, .unset, .unset] [(.int p0)])) _
  obtain ⟨_, _, ⟨T2, Lx2, kx2, nx2⟩, -, X2, ⟨Lc2, hQ2, lx2, yx2, zx2⟩, st2⟩ := Jvm.LawKit.callS X0 hx (y := (⟨"com/example/allsome/allsome/cypher/InputPositionEqualsPinLaw", "pos", "(I)I"⟩ : MethodName)) hown (mvT hZ (wd hw 0 rfl)) (mvT hZ (wd hw 1 rfl)) (mvT hZ (wd hw 2 rfl)) (mvT hZ (wd hw 3 rfl)) (by decide) (backOf (W := 0) (rmPos l Z a0 hw [] p0 h0 n0 Z0 ) hZ (wd hw 3 rfl) (wd hw 2 rfl) (by decide) (by decide)) (g := (mkF m 1 #[iv p0, iv p1, iv p2, iv p3, iv p4, .unset, .unset, .unset, .unset, .unset, .unset, .unset, .unset] [(.int p0)])) rfl (by rw [hml]; rfl) (argsL := [(.int p0)]) (rest := []) (lenOf pd_2 rfl) rfl (by show 2 * 0 + _ ≤ _; exact Nat.le_of_eq rfl) (hb hby at_1) (fun _ _ => ⟨rfl, e0, (by decide : 0 + 0 ≤ _), (by decide : 0 + 0 ≤ _)⟩)
  dsimp only [Pt.U, Pt.locs, Pt.cells, Pt.slots] at X2 lx2 yx2 zx2 st2 hQ2
  subst lx2 yx2 zx2
  obtain ⟨rfl, N2q, e2⟩ := hQ2
  have N2 := Fr.app N0 N2q
  refine own_lift st2 ?_
  show own_Go p.tables e below (T2.setTop (mkF m 4 #[iv p0, iv p1, iv p2, iv p3, iv p4, .unset, .unset, .unset, .unset, .unset, .unset, .unset, .unset] [(.int (own_pos p0))])) _
  have sg3 : ∀ t, Steps p.tables e below (T2.setTop (mkF m 7 #[iv p0, iv p1, iv p2, iv p3, iv p4, iv (own_pos p0), .unset, .unset, .unset, .unset, .unset, .unset, .unset] [(.int p1)])) t → Steps p.tables e below (T2.setTop (mkF m 4 #[iv p0, iv p1, iv p2, iv p3, iv p4, .unset, .unset, .unset, .unset, .unset, .unset, .unset, .unset] [(.int (own_pos p0))])) t := by
    intro t k
    refine XS.istore X2.here hx rfl (hb hby at_4) rfl (l' := #[iv p0, iv p1, iv p2, iv p3, iv p4, iv (own_pos p0), .unset, .unset, .unset, .unset, .unset, .unset, .unset]) rfl ?_
    show Steps p.tables e below (T2.setTop (mkF m 6 #[iv p0, iv p1, iv p2, iv p3, iv p4, iv (own_pos p0), .unset, .unset, .unset, .unset, .unset, .unset, .unset] [])) _
    refine XS.iloadN X2.here hx rfl (hb hby at_6) rfl ?_
    show Steps p.tables e below (T2.setTop (mkF m 7 #[iv p0, iv p1, iv p2, iv p3, iv p4, iv (own_pos p0), .unset, .unset, .unset, .unset, .unset, .unset, .unset] [(.int p1)])) _
    exact k
  refine own_lift sg3 ?_
  show own_Go p.tables e below (T2.setTop (mkF m 7 #[iv p0, iv p1, iv p2, iv p3, iv p4, iv (own_pos p0), .unset, .unset, .unset, .unset, .unset, .unset, .unset] [(.int p1)])) _
  obtain ⟨_, _, ⟨T4, Lx4, kx4, nx4⟩, -, X4, ⟨Lc4, hQ4, lx4, yx4, zx4⟩, st4⟩ := Jvm.LawKit.callS X2 hx (y := (⟨"com/example/allsome/allsome/cypher/InputPositionEqualsPinLaw", "pos", "(I)I"⟩ : MethodName)) hown (mvT hZ (wd hw 0 rfl)) (mvT hZ (wd hw 1 rfl)) (mvT hZ (wd hw 2 rfl)) (mvT hZ (wd hw 3 rfl)) (by decide) (backOf (W := 0) (rmPos l Z a0 hw [] p1 h0 n0 Z0 ) hZ (wd hw 3 rfl) (wd hw 2 rfl) (by decide) (by decide)) (g := (mkF m 7 #[iv p0, iv p1, iv p2, iv p3, iv p4, iv (own_pos p0), .unset, .unset, .unset, .unset, .unset, .unset, .unset] [(.int p1)])) rfl (by rw [hml]; rfl) (argsL := [(.int p1)]) (rest := []) (lenOf pd_2 rfl) rfl (by show 2 * 0 + _ ≤ _; exact Nat.le_of_eq rfl) (hb hby at_7) (fun _ _ => ⟨rfl, e2, (by decide : 0 + 0 ≤ _), (by decide : 0 + 0 ≤ _)⟩)
  dsimp only [Pt.U, Pt.locs, Pt.cells, Pt.slots] at X4 lx4 yx4 zx4 st4 hQ4
  subst lx4 yx4 zx4
  obtain ⟨rfl, N4q, e4⟩ := hQ4
  have N4 := Fr.app N2 N4q
  refine own_lift st4 ?_
  show own_Go p.tables e below (T4.setTop (mkF m 10 #[iv p0, iv p1, iv p2, iv p3, iv p4, iv (own_pos p0), .unset, .unset, .unset, .unset, .unset, .unset, .unset] [(.int (own_pos p1))])) _
  have sg5 : ∀ t, Steps p.tables e below (T4.setTop (mkF m 12 #[iv p0, iv p1, iv p2, iv p3, iv p4, iv (own_pos p0), iv (own_pos p1), .unset, .unset, .unset, .unset, .unset, .unset] [])) t → Steps p.tables e below (T4.setTop (mkF m 10 #[iv p0, iv p1, iv p2, iv p3, iv p4, iv (own_pos p0), .unset, .unset, .unset, .unset, .unset, .unset, .unset] [(.int (own_pos p1))])) t := by
    intro t k
    refine XS.istore X4.here hx rfl (hb hby at_10) rfl (l' := #[iv p0, iv p1, iv p2, iv p3, iv p4, iv (own_pos p0), iv (own_pos p1), .unset, .unset, .unset, .unset, .unset, .unset]) rfl ?_
    show Steps p.tables e below (T4.setTop (mkF m 12 #[iv p0, iv p1, iv p2, iv p3, iv p4, iv (own_pos p0), iv (own_pos p1), .unset, .unset, .unset, .unset, .unset, .unset] [])) _
    exact k
  refine own_lift sg5 ?_
  show own_Go p.tables e below (T4.setTop (mkF m 12 #[iv p0, iv p1, iv p2, iv p3, iv p4, iv (own_pos p0), iv (own_pos p1), .unset, .unset, .unset, .unset, .unset, .unset] [])) _
  have join6 : ∀ (T6 : State) (locs6 : List Loc), Stand p l e room_1 s m #[(.int p0), (.int p1), (.int p2), (.int p3), (.int p4)] below meth c T6 locs6 0 0 → T6.heap = h0 → Fr n0 locs6 → own_Go p.tables e below (T6.setTop (mkF m 28 #[iv p0, iv p1, iv p2, iv p3, iv p4, iv (own_pos p0), iv (own_pos p1), .unset, .unset, .unset, .unset, .unset, .unset] [(.int (own_sel p4 1 p2 p0))])) (fun s₂ o => s₂.status = .running ∧ Ended s₂ below o ∧ ∃ v L, o = .returned v ∧ Q0 Z  h0 n0 v s₂.heap L ∧ FrameEnd s o s₂ L 16 128) := by
    intro T6 locs6 X6 e6 N6
    have sg7 : ∀ t, Steps p.tables e below (T6.setTop (mkF m 30 #[iv p0, iv p1, iv p2, iv p3, iv p4, iv (own_pos p0), iv (own_pos p1), iv (own_sel p4 1 p2 p0), .unset, .unset, .unset, .unset, .unset] [])) t → Steps p.tables e below (T6.setTop (mkF m 28 #[iv p0, iv p1, iv p2, iv p3, iv p4, iv (own_pos p0), iv (own_pos p1), .unset, .unset, .unset, .unset, .unset, .unset] [(.int (own_sel p4 1 p2 p0))])) t := by
      intro t k
      refine XS.istore X6.here hx rfl (hb hby at_28) rfl (l' := #[iv p0, iv p1, iv p2, iv p3, iv p4, iv (own_pos p0), iv (own_pos p1), iv (own_sel p4 1 p2 p0), .unset, .unset, .unset, .unset, .unset]) rfl ?_
      show Steps p.tables e below (T6.setTop (mkF m 30 #[iv p0, iv p1, iv p2, iv p3, iv p4, iv (own_pos p0), iv (own_pos p1), iv (own_sel p4 1 p2 p0), .unset, .unset, .unset, .unset, .unset] [])) _
      exact k
    refine own_lift sg7 ?_
    show own_Go p.tables e below (T6.setTop (mkF m 30 #[iv p0, iv p1, iv p2, iv p3, iv p4, iv (own_pos p0), iv (own_pos p1), iv (own_sel p4 1 p2 p0), .unset, .unset, .unset, .unset, .unset] [])) _
    have join8 : ∀ (T8 : State) (locs8 : List Loc), Stand p l e room_1 s m #[(.int p0), (.int p1), (.int p2), (.int p3), (.int p4)] below meth c T8 locs8 0 0 → T8.heap = h0 → Fr n0 locs8 → own_Go p.tables e below (T8.setTop (mkF m 46 #[iv p0, iv p1, iv p2, iv p3, iv p4, iv (own_pos p0), iv (own_pos p1), iv (own_sel p4 1 p2 p0), .unset, .unset, .unset, .unset, .unset] [(.int (own_sel p4 2 p3 p1))])) (fun s₂ o => s₂.status = .running ∧ Ended s₂ below o ∧ ∃ v L, o = .returned v ∧ Q0 Z  h0 n0 v s₂.heap L ∧ FrameEnd s o s₂ L 16 128) := by
      intro T8 locs8 X8 e8 N8
      have sg9 : ∀ t, Steps p.tables e below (T8.setTop (mkF m 48 #[iv p0, iv p1, iv p2, iv p3, iv p4, iv (own_pos p0), iv (own_pos p1), iv (own_sel p4 1 p2 p0), iv (own_sel p4 2 p3 p1), .unset, .unset, .unset, .unset] [])) t → Steps p.tables e below (T8.setTop (mkF m 46 #[iv p0, iv p1, iv p2, iv p3, iv p4, iv (own_pos p0), iv (own_pos p1), iv (own_sel p4 1 p2 p0), .unset, .unset, .unset, .unset, .unset] [(.int (own_sel p4 2 p3 p1))])) t := by
        intro t k
        refine XS.istore X8.here hx rfl (hb hby at_46) rfl (l' := #[iv p0, iv p1, iv p2, iv p3, iv p4, iv (own_pos p0), iv (own_pos p1), iv (own_sel p4 1 p2 p0), iv (own_sel p4 2 p3 p1), .unset, .unset, .unset, .unset]) rfl ?_
        show Steps p.tables e below (T8.setTop (mkF m 48 #[iv p0, iv p1, iv p2, iv p3, iv p4, iv (own_pos p0), iv (own_pos p1), iv (own_sel p4 1 p2 p0), iv (own_sel p4 2 p3 p1), .unset, .unset, .unset, .unset] [])) _
        exact k
      refine own_lift sg9 ?_
      show own_Go p.tables e below (T8.setTop (mkF m 48 #[iv p0, iv p1, iv p2, iv p3, iv p4, iv (own_pos p0), iv (own_pos p1), iv (own_sel p4 1 p2 p0), iv (own_sel p4 2 p3 p1), .unset, .unset, .unset, .unset] [])) _
      obtain ⟨T10, h10, X10, e10, Ex10, Ax10, Dx10, Ux10, st10⟩ := newO X8 hx hZ hown (wd hw 5 rfl) (wd hw 6 rfl) (wd hw 7 rfl) e8 (g := (mkF m 48 #[iv p0, iv p1, iv p2, iv p3, iv p4, iv (own_pos p0), iv (own_pos p1), iv (own_sel p4 1 p2 p0), iv (own_sel p4 2 p3 p1), .unset, .unset, .unset, .unset] [])) rfl (hb hby at_48) (by decide) (by decide)
      obtain ⟨ob10, g10⟩ : ∃ z, z = h0.size := ⟨_, rfl⟩
      rw [← g10] at Ax10 Dx10 Ux10 st10
      have ne11 : ca ≠ ob10 := Nat.ne_of_lt (Nat.lt_of_lt_of_le A1.lt (Nat.le_of_eq g10.symm))
      have Z10 : n0 ≤ h10.size := Nat.le_trans Z0 Ex10.1
      have ge10 : n0 ≤ ob10 := Nat.le_trans Z0 (Nat.le_of_eq g10.symm)
      have Fn10_15 : Fld Z h10 ob10 "com/example/allsome/allsome/cypher/InputPosition" "line" "I" (.int 0) := Dx10 (Or.inr (wd hw 15 rfl)) (ty := .int) (by decide)
      have Fn10_17 : Fld Z h10 ob10 "com/example/allsome/allsome/cypher/InputPosition" "column" "I" (.int 0) := Dx10 (Or.inr (wd hw 17 rfl)) (ty := .int) (by decide)
      refine own_lift st10 ?_
      show own_Go p.tables e below (T10.setTop (mkF m 51 #[iv p0, iv p1, iv p2, iv p3, iv p4, iv (own_pos p0), iv (own_pos p1), iv (own_sel p4 1 p2 p0), iv (own_sel p4 2 p3 p1), .unset, .unset, .unset, .unset] [(.ref ob10)])) _
      have sg12 : ∀ t, Steps p.tables e below (T10.setTop (mkF m 56 #[iv p0, iv p1, iv p2, iv p3, iv p4, iv (own_pos p0), iv (own_pos p1), iv (own_sel p4 1 p2 p0), iv (own_sel p4 2 p3 p1), .unset, .unset, .unset, .unset] [(.int (own_pos p1)), (.int (own_pos p0)), (.ref ob10), (.ref ob10)])) t → Steps p.tables e below (T10.setTop (mkF m 51 #[iv p0, iv p1, iv p2, iv p3, iv p4, iv (own_pos p0), iv (own_pos p1), iv (own_sel p4 1 p2 p0), iv (own_sel p4 2 p3 p1), .unset, .unset, .unset, .unset] [(.ref ob10)])) t := by
        intro t k
        refine XS.dup X10.here hx rfl (hb hby at_51) rfl rfl ?_
        show Steps p.tables e below (T10.setTop (mkF m 52 #[iv p0, iv p1, iv p2, iv p3, iv p4, iv (own_pos p0), iv (own_pos p1), iv (own_sel p4 1 p2 p0), iv (own_sel p4 2 p3 p1), .unset, .unset, .unset, .unset] [(.ref ob10), (.ref ob10)])) _
        refine XS.iload X10.here hx rfl (hb hby at_52) rfl ?_
        show Steps p.tables e below (T10.setTop (mkF m 54 #[iv p0, iv p1, iv p2, iv p3, iv p4, iv (own_pos p0), iv (own_pos p1), iv (own_sel p4 1 p2 p0), iv (own_sel p4 2 p3 p1), .unset, .unset, .unset, .unset] [(.int (own_pos p0)), (.ref ob10), (.ref ob10)])) _
        refine XS.iload X10.here hx rfl (hb hby at_54) rfl ?_
        show Steps p.tables e below (T10.setTop (mkF m 56 #[iv p0, iv p1, iv p2, iv p3, iv p4, iv (own_pos p0), iv (own_pos p1), iv (own_sel p4 1 p2 p0), iv (own_sel p4 2 p3 p1), .unset, .unset, .unset, .unset] [(.int (own_pos p1)), (.int (own_pos p0)), (.ref ob10), (.ref ob10)])) _
        exact k
      refine own_lift sg12 ?_
      show own_Go p.tables e below (T10.setTop (mkF m 56 #[iv p0, iv p1, iv p2, iv p3, iv p4, iv (own_pos p0), iv (own_pos p1), iv (own_sel p4 1 p2 p0), iv (own_sel p4 2 p3 p1), .unset, .unset, .unset, .unset] [(.int (own_pos p1)), (.int (own_pos p0)), (.ref ob10), (.ref ob10)])) _
      obtain ⟨_, _, ⟨T13, Lx13, kx13, nx13⟩, -, X13, ⟨Lc13, hQ13, lx13, yx13, zx13⟩, st13⟩ := X10.specialBack hx (y := (⟨"com/example/allsome/allsome/cypher/InputPosition", "<init>", "(II)V"⟩ : MethodName)) rfl hown (mvT hZ (wd hw 8 rfl)) (mvT hZ (wd hw 9 rfl)) (mvT hZ (wd hw 10 rfl)) (by decide) (backOf (W := 1) (rmInit l Z a0 hw [] ob10 (own_pos p0) (own_pos p1) h10 n0 Z10 Fn10_15 Fn10_17 Ax10 ge10 (own_pos_ge p0) (own_pos_ge p1)) hZ (wd hw 10 rfl) (wd hw 7 rfl) (by decide) (by decide)) (g := (mkF m 56 #[iv p0, iv p1, iv p2, iv p3, iv p4, iv (own_pos p0), iv (own_pos p1), iv (own_sel p4 1 p2 p0), iv (own_sel p4 2 p3 p1), .unset, .unset, .unset, .unset] [(.int (own_pos p1)), (.int (own_pos p0)), (.ref ob10), (.ref ob10)])) rfl (by rw [hml]; rfl) (Steps.refl _) (a := ob10) (argsL := [(.int (own_pos p0)), (.int (own_pos p1))]) (rest := [(.ref ob10)]) (lenOf pd_3 rfl) rfl (by show 2 * 0 + _ ≤ _; exact Nat.le_of_eq rfl) (hb hby at_56) (fun _ _ => ⟨rfl, e10, (by decide : 1 + 0 ≤ _), (by decide : 2 + 0 ≤ _)⟩)
      dsimp only [Pt.U, Pt.locs, Pt.cells, Pt.slots] at X13 lx13 yx13 zx13 st13 hQ13
      subst lx13 yx13 zx13
      obtain ⟨rfl, N13q, p13_0, p13_1, p13_2, p13_3⟩ := hQ13
      have N13 := Fr.app N8 N13q
      have Z13 : n0 ≤ T13.heap.size := Nat.le_trans Z10 p13_0.1
      refine own_lift (fun t k => st13.trans k) ?_
      show own_Go p.tables e below (T13.setTop (mkF m 59 #[iv p0, iv p1, iv p2, iv p3, iv p4, iv (own_pos p0), iv (own_pos p1), iv (own_sel p4 1 p2 p0), iv (own_sel p4 2 p3 p1), .unset, .unset, .unset, .unset] [(.ref ob10)])) _
      have sg14 : ∀ t, Steps p.tables e below (T13.setTop (mkF m 61 #[iv p0, iv p1, iv p2, iv p3, iv p4, iv (own_pos p0), iv (own_pos p1), iv (own_sel p4 1 p2 p0), iv (own_sel p4 2 p3 p1), rv ob10, .unset, .unset, .unset] [])) t → Steps p.tables e below (T13.setTop (mkF m 59 #[iv p0, iv p1, iv p2, iv p3, iv p4, iv (own_pos p0), iv (own_pos p1), iv (own_sel p4 1 p2 p0), iv (own_sel p4 2 p3 p1), .unset, .unset, .unset, .unset] [(.ref ob10)])) t := by
        intro t k
        refine XS.astore X13.here hx rfl (hb hby at_59) rfl rfl (l' := #[iv p0, iv p1, iv p2, iv p3, iv p4, iv (own_pos p0), iv (own_pos p1), iv (own_sel p4 1 p2 p0), iv (own_sel p4 2 p3 p1), rv ob10, .unset, .unset, .unset]) rfl ?_
        show Steps p.tables e below (T13.setTop (mkF m 61 #[iv p0, iv p1, iv p2, iv p3, iv p4, iv (own_pos p0), iv (own_pos p1), iv (own_sel p4 1 p2 p0), iv (own_sel p4 2 p3 p1), rv ob10, .unset, .unset, .unset] [])) _
        exact k
      refine own_lift sg14 ?_
      show own_Go p.tables e below (T13.setTop (mkF m 61 #[iv p0, iv p1, iv p2, iv p3, iv p4, iv (own_pos p0), iv (own_pos p1), iv (own_sel p4 1 p2 p0), iv (own_sel p4 2 p3 p1), rv ob10, .unset, .unset, .unset] [])) _
      obtain ⟨T15, h15, X15, e15, Ex15, Ax15, Dx15, Ux15, st15⟩ := newO X13 hx hZ hown (wd hw 5 rfl) (wd hw 6 rfl) (wd hw 7 rfl) rfl (g := (mkF m 61 #[iv p0, iv p1, iv p2, iv p3, iv p4, iv (own_pos p0), iv (own_pos p1), iv (own_sel p4 1 p2 p0), iv (own_sel p4 2 p3 p1), rv ob10, .unset, .unset, .unset] [])) rfl (hb hby at_61) (by decide) (by decide)
      obtain ⟨ob15, g15⟩ : ∃ z, z = T13.heap.size := ⟨_, rfl⟩
      rw [← g15] at Ax15 Dx15 Ux15 st15
      have Fc16 : Arr Z T13.heap ca cc (.object "java/lang/Integer") := (own_Arr_keep (A1.ext Ex10) p13_0 (ninS ne11 nin0))
      have ne17 : ca ≠ ob15 := Nat.ne_of_lt (Nat.lt_of_lt_of_le Fc16.lt (Nat.le_of_eq g15.symm))
      have ne18 : ob10 ≠ ob15 := Nat.ne_of_lt (Nat.lt_of_lt_of_le p13_1.lt (Nat.le_of_eq g15.symm))
      have Z15 : n0 ≤ h15.size := Nat.le_trans Z13 Ex15.1
      have ge15 : n0 ≤ ob15 := Nat.le_trans Z13 (Nat.le_of_eq g15.symm)
      have Fn15_15 : Fld Z h15 ob15 "com/example/allsome/allsome/cypher/InputPosition" "line" "I" (.int 0) := Dx15 (Or.inr (wd hw 15 rfl)) (ty := .int) (by decide)
      have Fn15_17 : Fld Z h15 ob15 "com/example/allsome/allsome/cypher/InputPosition" "column" "I" (.int 0) := Dx15 (Or.inr (wd hw 17 rfl)) (ty := .int) (by decide)
      refine own_lift st15 ?_
      show own_Go p.tables e below (T15.setTop (mkF m 64 #[iv p0, iv p1, iv p2, iv p3, iv p4, iv (own_pos p0), iv (own_pos p1), iv (own_sel p4 1 p2 p0), iv (own_sel p4 2 p3 p1), rv ob10, .unset, .unset, .unset] [(.ref ob15)])) _
      have sg19 : ∀ t, Steps p.tables e below (T15.setTop (mkF m 69 #[iv p0, iv p1, iv p2, iv p3, iv p4, iv (own_pos p0), iv (own_pos p1), iv (own_sel p4 1 p2 p0), iv (own_sel p4 2 p3 p1), rv ob10, .unset, .unset, .unset] [(.int (own_sel p4 2 p3 p1)), (.int (own_sel p4 1 p2 p0)), (.ref ob15), (.ref ob15)])) t → Steps p.tables e below (T15.setTop (mkF m 64 #[iv p0, iv p1, iv p2, iv p3, iv p4, iv (own_pos p0), iv (own_pos p1), iv (own_sel p4 1 p2 p0), iv (own_sel p4 2 p3 p1), rv ob10, .unset, .unset, .unset] [(.ref ob15)])) t := by
        intro t k
        refine XS.dup X15.here hx rfl (hb hby at_64) rfl rfl ?_
        show Steps p.tables e below (T15.setTop (mkF m 65 #[iv p0, iv p1, iv p2, iv p3, iv p4, iv (own_pos p0), iv (own_pos p1), iv (own_sel p4 1 p2 p0), iv (own_sel p4 2 p3 p1), rv ob10, .unset, .unset, .unset] [(.ref ob15), (.ref ob15)])) _
        refine XS.iload X15.here hx rfl (hb hby at_65) rfl ?_
        show Steps p.tables e below (T15.setTop (mkF m 67 #[iv p0, iv p1, iv p2, iv p3, iv p4, iv (own_pos p0), iv (own_pos p1), iv (own_sel p4 1 p2 p0), iv (own_sel p4 2 p3 p1), rv ob10, .unset, .unset, .unset] [(.int (own_sel p4 1 p2 p0)), (.ref ob15), (.ref ob15)])) _
        refine XS.iload X15.here hx rfl (hb hby at_67) rfl ?_
        show Steps p.tables e below (T15.setTop (mkF m 69 #[iv p0, iv p1, iv p2, iv p3, iv p4, iv (own_pos p0), iv (own_pos p1), iv (own_sel p4 1 p2 p0), iv (own_sel p4 2 p3 p1), rv ob10, .unset, .unset, .unset] [(.int (own_sel p4 2 p3 p1)), (.int (own_sel p4 1 p2 p0)), (.ref ob15), (.ref ob15)])) _
        exact k
      refine own_lift sg19 ?_
      show own_Go p.tables e below (T15.setTop (mkF m 69 #[iv p0, iv p1, iv p2, iv p3, iv p4, iv (own_pos p0), iv (own_pos p1), iv (own_sel p4 1 p2 p0), iv (own_sel p4 2 p3 p1), rv ob10, .unset, .unset, .unset] [(.int (own_sel p4 2 p3 p1)), (.int (own_sel p4 1 p2 p0)), (.ref ob15), (.ref ob15)])) _
      obtain ⟨_, _, ⟨T20, Lx20, kx20, nx20⟩, -, X20, ⟨Lc20, hQ20, lx20, yx20, zx20⟩, st20⟩ := X15.specialBack hx (y := (⟨"com/example/allsome/allsome/cypher/InputPosition", "<init>", "(II)V"⟩ : MethodName)) rfl hown (mvT hZ (wd hw 8 rfl)) (mvT hZ (wd hw 9 rfl)) (mvT hZ (wd hw 10 rfl)) (by decide) (backOf (W := 1) (rmInit l Z a0 hw [] ob15 (own_sel p4 1 p2 p0) (own_sel p4 2 p3 p1) h15 n0 Z15 Fn15_15 Fn15_17 Ax15 ge15 (own_sel_ge _ _ _ _) (own_sel_ge _ _ _ _)) hZ (wd hw 10 rfl) (wd hw 7 rfl) (by decide) (by decide)) (g := (mkF m 69 #[iv p0, iv p1, iv p2, iv p3, iv p4, iv (own_pos p0), iv (own_pos p1), iv (own_sel p4 1 p2 p0), iv (own_sel p4 2 p3 p1), rv ob10, .unset, .unset, .unset] [(.int (own_sel p4 2 p3 p1)), (.int (own_sel p4 1 p2 p0)), (.ref ob15), (.ref ob15)])) rfl (by rw [hml]; rfl) (Steps.refl _) (a := ob15) (argsL := [(.int (own_sel p4 1 p2 p0)), (.int (own_sel p4 2 p3 p1))]) (rest := [(.ref ob15)]) (lenOf pd_3 rfl) rfl (by show 2 * 0 + _ ≤ _; exact Nat.le_of_eq rfl) (hb hby at_69) (fun _ _ => ⟨rfl, e15, (by decide : 2 + 0 ≤ _), (by decide : 4 + 0 ≤ _)⟩)
      dsimp only [Pt.U, Pt.locs, Pt.cells, Pt.slots] at X20 lx20 yx20 zx20 st20 hQ20
      subst lx20 yx20 zx20
      obtain ⟨rfl, N20q, p20_0, p20_1, p20_2, p20_3⟩ := hQ20
      have N20 := Fr.app N13 N20q
      have Z20 : n0 ≤ T20.heap.size := Nat.le_trans Z15 p20_0.1
      refine own_lift (fun t k => st20.trans k) ?_
      show own_Go p.tables e below (T20.setTop (mkF m 72 #[iv p0, iv p1, iv p2, iv p3, iv p4, iv (own_pos p0), iv (own_pos p1), iv (own_sel p4 1 p2 p0), iv (own_sel p4 2 p3 p1), rv ob10, .unset, .unset, .unset] [(.ref ob15)])) _
      have sg21 : ∀ t, Steps p.tables e below (T20.setTop (mkF m 112 #[iv p0, iv p1, iv p2, iv p3, iv p4, iv (own_pos p0), iv (own_pos p1), iv (own_sel p4 1 p2 p0), iv (own_sel p4 2 p3 p1), rv ob10, rv ob15, iv (((p4.toUInt32 >>> ((2 : Int32) &&& 31).toUInt32).toInt32) &&& (3 : Int32)), iv 0] [(.ref ob15), (.ref ob10)])) t → Steps p.tables e below (T20.setTop (mkF m 72 #[iv p0, iv p1, iv p2, iv p3, iv p4, iv (own_pos p0), iv (own_pos p1), iv (own_sel p4 1 p2 p0), iv (own_sel p4 2 p3 p1), rv ob10, .unset, .unset, .unset] [(.ref ob15)])) t := by
        intro t k
        refine XS.astore X20.here hx rfl (hb hby at_72) rfl rfl (l' := #[iv p0, iv p1, iv p2, iv p3, iv p4, iv (own_pos p0), iv (own_pos p1), iv (own_sel p4 1 p2 p0), iv (own_sel p4 2 p3 p1), rv ob10, rv ob15, .unset, .unset]) rfl ?_
        show Steps p.tables e below (T20.setTop (mkF m 74 #[iv p0, iv p1, iv p2, iv p3, iv p4, iv (own_pos p0), iv (own_pos p1), iv (own_sel p4 1 p2 p0), iv (own_sel p4 2 p3 p1), rv ob10, rv ob15, .unset, .unset] [])) _
        refine XS.iload X20.here hx rfl (hb hby at_74) rfl ?_
        show Steps p.tables e below (T20.setTop (mkF m 76 #[iv p0, iv p1, iv p2, iv p3, iv p4, iv (own_pos p0), iv (own_pos p1), iv (own_sel p4 1 p2 p0), iv (own_sel p4 2 p3 p1), rv ob10, rv ob15, .unset, .unset] [(.int p4)])) _
        refine XS.iconst X20.here hx rfl (hb hby at_76) ?_
        show Steps p.tables e below (T20.setTop (mkF m 77 #[iv p0, iv p1, iv p2, iv p3, iv p4, iv (own_pos p0), iv (own_pos p1), iv (own_sel p4 1 p2 p0), iv (own_sel p4 2 p3 p1), rv ob10, rv ob15, .unset, .unset] [(.int 2), (.int p4)])) _
        refine XS.iushr X20.here hx rfl (hb hby at_77) rfl ?_
        show Steps p.tables e below (T20.setTop (mkF m 78 #[iv p0, iv p1, iv p2, iv p3, iv p4, iv (own_pos p0), iv (own_pos p1), iv (own_sel p4 1 p2 p0), iv (own_sel p4 2 p3 p1), rv ob10, rv ob15, .unset, .unset] [(.int ((p4.toUInt32 >>> ((2 : Int32) &&& 31).toUInt32).toInt32))])) _
        refine XS.iconst X20.here hx rfl (hb hby at_78) ?_
        show Steps p.tables e below (T20.setTop (mkF m 79 #[iv p0, iv p1, iv p2, iv p3, iv p4, iv (own_pos p0), iv (own_pos p1), iv (own_sel p4 1 p2 p0), iv (own_sel p4 2 p3 p1), rv ob10, rv ob15, .unset, .unset] [(.int 3), (.int ((p4.toUInt32 >>> ((2 : Int32) &&& 31).toUInt32).toInt32))])) _
        refine XS.iand X20.here hx rfl (hb hby at_79) rfl ?_
        show Steps p.tables e below (T20.setTop (mkF m 80 #[iv p0, iv p1, iv p2, iv p3, iv p4, iv (own_pos p0), iv (own_pos p1), iv (own_sel p4 1 p2 p0), iv (own_sel p4 2 p3 p1), rv ob10, rv ob15, .unset, .unset] [(.int (((p4.toUInt32 >>> ((2 : Int32) &&& 31).toUInt32).toInt32) &&& (3 : Int32)))])) _
        refine XS.istore X20.here hx rfl (hb hby at_80) rfl (l' := #[iv p0, iv p1, iv p2, iv p3, iv p4, iv (own_pos p0), iv (own_pos p1), iv (own_sel p4 1 p2 p0), iv (own_sel p4 2 p3 p1), rv ob10, rv ob15, iv (((p4.toUInt32 >>> ((2 : Int32) &&& 31).toUInt32).toInt32) &&& (3 : Int32)), .unset]) rfl ?_
        show Steps p.tables e below (T20.setTop (mkF m 82 #[iv p0, iv p1, iv p2, iv p3, iv p4, iv (own_pos p0), iv (own_pos p1), iv (own_sel p4 1 p2 p0), iv (own_sel p4 2 p3 p1), rv ob10, rv ob15, iv (((p4.toUInt32 >>> ((2 : Int32) &&& 31).toUInt32).toInt32) &&& (3 : Int32)), .unset] [])) _
        refine XS.iload X20.here hx rfl (hb hby at_82) rfl ?_
        show Steps p.tables e below (T20.setTop (mkF m 84 #[iv p0, iv p1, iv p2, iv p3, iv p4, iv (own_pos p0), iv (own_pos p1), iv (own_sel p4 1 p2 p0), iv (own_sel p4 2 p3 p1), rv ob10, rv ob15, iv (((p4.toUInt32 >>> ((2 : Int32) &&& 31).toUInt32).toInt32) &&& (3 : Int32)), .unset] [(.int (((p4.toUInt32 >>> ((2 : Int32) &&& 31).toUInt32).toInt32) &&& (3 : Int32)))])) _
        refine XS.ifNo X20.here hx rfl (hb hby at_84) rfl ((if0 _ _).trans (teq k0).2) ?_
        show Steps p.tables e below (T20.setTop (mkF m 87 #[iv p0, iv p1, iv p2, iv p3, iv p4, iv (own_pos p0), iv (own_pos p1), iv (own_sel p4 1 p2 p0), iv (own_sel p4 2 p3 p1), rv ob10, rv ob15, iv (((p4.toUInt32 >>> ((2 : Int32) &&& 31).toUInt32).toInt32) &&& (3 : Int32)), .unset] [])) _
        refine XS.iload X20.here hx rfl (hb hby at_87) rfl ?_
        show Steps p.tables e below (T20.setTop (mkF m 89 #[iv p0, iv p1, iv p2, iv p3, iv p4, iv (own_pos p0), iv (own_pos p1), iv (own_sel p4 1 p2 p0), iv (own_sel p4 2 p3 p1), rv ob10, rv ob15, iv (((p4.toUInt32 >>> ((2 : Int32) &&& 31).toUInt32).toInt32) &&& (3 : Int32)), .unset] [(.int (own_pos p0))])) _
        refine XS.iload X20.here hx rfl (hb hby at_89) rfl ?_
        show Steps p.tables e below (T20.setTop (mkF m 91 #[iv p0, iv p1, iv p2, iv p3, iv p4, iv (own_pos p0), iv (own_pos p1), iv (own_sel p4 1 p2 p0), iv (own_sel p4 2 p3 p1), rv ob10, rv ob15, iv (((p4.toUInt32 >>> ((2 : Int32) &&& 31).toUInt32).toInt32) &&& (3 : Int32)), .unset] [(.int (own_sel p4 1 p2 p0)), (.int (own_pos p0))])) _
        refine XS.icmpYes X20.here hx rfl (pc0 := 91) (pc' := 105) rfl (hb hby at_91) rfl (feq hl).2 (by decide) (by decide) ?_
        show Steps p.tables e below (T20.setTop (mkF m 105 #[iv p0, iv p1, iv p2, iv p3, iv p4, iv (own_pos p0), iv (own_pos p1), iv (own_sel p4 1 p2 p0), iv (own_sel p4 2 p3 p1), rv ob10, rv ob15, iv (((p4.toUInt32 >>> ((2 : Int32) &&& 31).toUInt32).toInt32) &&& (3 : Int32)), .unset] [])) _
        refine XS.iconst X20.here hx rfl (hb hby at_105) ?_
        show Steps p.tables e below (T20.setTop (mkF m 106 #[iv p0, iv p1, iv p2, iv p3, iv p4, iv (own_pos p0), iv (own_pos p1), iv (own_sel p4 1 p2 p0), iv (own_sel p4 2 p3 p1), rv ob10, rv ob15, iv (((p4.toUInt32 >>> ((2 : Int32) &&& 31).toUInt32).toInt32) &&& (3 : Int32)), .unset] [(.int 0)])) _
        refine XS.istore X20.here hx rfl (hb hby at_106) rfl (l' := #[iv p0, iv p1, iv p2, iv p3, iv p4, iv (own_pos p0), iv (own_pos p1), iv (own_sel p4 1 p2 p0), iv (own_sel p4 2 p3 p1), rv ob10, rv ob15, iv (((p4.toUInt32 >>> ((2 : Int32) &&& 31).toUInt32).toInt32) &&& (3 : Int32)), iv 0]) rfl ?_
        show Steps p.tables e below (T20.setTop (mkF m 108 #[iv p0, iv p1, iv p2, iv p3, iv p4, iv (own_pos p0), iv (own_pos p1), iv (own_sel p4 1 p2 p0), iv (own_sel p4 2 p3 p1), rv ob10, rv ob15, iv (((p4.toUInt32 >>> ((2 : Int32) &&& 31).toUInt32).toInt32) &&& (3 : Int32)), iv 0] [])) _
        refine XS.aload X20.here hx rfl (hb hby at_108) rfl rfl ?_
        show Steps p.tables e below (T20.setTop (mkF m 110 #[iv p0, iv p1, iv p2, iv p3, iv p4, iv (own_pos p0), iv (own_pos p1), iv (own_sel p4 1 p2 p0), iv (own_sel p4 2 p3 p1), rv ob10, rv ob15, iv (((p4.toUInt32 >>> ((2 : Int32) &&& 31).toUInt32).toInt32) &&& (3 : Int32)), iv 0] [(.ref ob10)])) _
        refine XS.aload X20.here hx rfl (hb hby at_110) rfl rfl ?_
        show Steps p.tables e below (T20.setTop (mkF m 112 #[iv p0, iv p1, iv p2, iv p3, iv p4, iv (own_pos p0), iv (own_pos p1), iv (own_sel p4 1 p2 p0), iv (own_sel p4 2 p3 p1), rv ob10, rv ob15, iv (((p4.toUInt32 >>> ((2 : Int32) &&& 31).toUInt32).toInt32) &&& (3 : Int32)), iv 0] [(.ref ob15), (.ref ob10)])) _
        exact k
      refine own_lift sg21 ?_
      show own_Go p.tables e below (T20.setTop (mkF m 112 #[iv p0, iv p1, iv p2, iv p3, iv p4, iv (own_pos p0), iv (own_pos p1), iv (own_sel p4 1 p2 p0), iv (own_sel p4 2 p3 p1), rv ob10, rv ob15, iv (((p4.toUInt32 >>> ((2 : Int32) &&& 31).toUInt32).toInt32) &&& (3 : Int32)), iv 0] [(.ref ob15), (.ref ob10)])) _
      have Fc22 : Fld Z T20.heap ob10 "com/example/allsome/allsome/cypher/InputPosition" "line" "I" (.int (own_pos p0)) := ((p13_2.ext Ex15).keep p20_0 (ninS ne18 nin0))
      have Fc23 : Fld Z T20.heap ob10 "com/example/allsome/allsome/cypher/InputPosition" "column" "I" (.int (own_pos p1)) := ((p13_3.ext Ex15).keep p20_0 (ninS ne18 nin0))
      have Fc25 : Exa Z T20.heap ob10 "com/example/allsome/allsome/cypher/InputPosition" := ((p13_1.ext Ex15).keep p20_0)
      obtain ⟨cq24, kq24, q24a, q24b, q24c⟩ := isOf hZ rfl Fc25
      obtain ⟨_, _, ⟨T24, Lx24, kx24, nx24⟩, -, X24, ⟨Lc24, hQ24, lx24, yx24, zx24⟩, st24⟩ := X20.virtualBack hx (y := (⟨"com/example/allsome/allsome/cypher/InputPosition", "equals", "(Ljava/lang/Object;)Z"⟩ : MethodName)) (z := (⟨"com/example/allsome/allsome/cypher/InputPosition", "equals", "(Ljava/lang/Object;)Z"⟩ : MethodName)) hown (mvT hZ (wd hw 18 rfl)) (mvT hZ (wd hw 19 rfl)) (notFace_of_selects (args := #[]) (mvT hZ (wd hw 21 rfl))) (mvT hZ (wd hw 21 rfl)) (mvT hZ (wd hw 20 rfl)) (by decide) (backOf (W := 0) (rmEqL l Z a0 hw [] ob10 ob15 (own_pos p0) (own_pos p1) (own_sel p4 1 p2 p0) (own_sel p4 2 p3 p1) T20.heap n0 Z20 Fc22 Fc23 p20_2 p20_3 p20_1 hl) hZ (wd hw 22 rfl) (wd hw 7 rfl) (by decide) (by decide)) q24a q24c (g := (mkF m 112 #[iv p0, iv p1, iv p2, iv p3, iv p4, iv (own_pos p0), iv (own_pos p1), iv (own_sel p4 1 p2 p0), iv (own_sel p4 2 p3 p1), rv ob10, rv ob15, iv (((p4.toUInt32 >>> ((2 : Int32) &&& 31).toUInt32).toInt32) &&& (3 : Int32)), iv 0] [(.ref ob15), (.ref ob10)])) rfl (by rw [hml]; rfl) (Steps.refl _) (argsL := [(.ref ob15)]) (rest := []) (lenOf pd_4 rfl) rfl (by show 2 * 0 + _ ≤ _; exact Nat.le_of_eq rfl) (hb hby at_112) (fun _ _ => ⟨rfl, rfl, (by decide : 2 + 0 ≤ _), (by decide : 4 + 0 ≤ _)⟩)
      dsimp only [Pt.U, Pt.locs, Pt.cells, Pt.slots] at X24 lx24 yx24 zx24 st24 hQ24
      subst lx24 yx24 zx24
      obtain ⟨rfl, N24q, e24⟩ := hQ24
      have N24 := Fr.app N20 N24q
      refine own_lift (fun t k => st24.trans k) ?_
      show own_Go p.tables e below (T24.setTop (mkF m 115 #[iv p0, iv p1, iv p2, iv p3, iv p4, iv (own_pos p0), iv (own_pos p1), iv (own_sel p4 1 p2 p0), iv (own_sel p4 2 p3 p1), rv ob10, rv ob15, iv (((p4.toUInt32 >>> ((2 : Int32) &&& 31).toUInt32).toInt32) &&& (3 : Int32)), iv 0] [(.int 0)])) _
      have sg26 : ∀ t, Steps p.tables e below (T24.setTop (mkF m 124 #[iv p0, iv p1, iv p2, iv p3, iv p4, iv (own_pos p0), iv (own_pos p1), iv (own_sel p4 1 p2 p0), iv (own_sel p4 2 p3 p1), rv ob10, rv ob15, iv (((p4.toUInt32 >>> ((2 : Int32) &&& 31).toUInt32).toInt32) &&& (3 : Int32)), iv 0] [(.ref ob10), (.ref ob15)])) t → Steps p.tables e below (T24.setTop (mkF m 115 #[iv p0, iv p1, iv p2, iv p3, iv p4, iv (own_pos p0), iv (own_pos p1), iv (own_sel p4 1 p2 p0), iv (own_sel p4 2 p3 p1), rv ob10, rv ob15, iv (((p4.toUInt32 >>> ((2 : Int32) &&& 31).toUInt32).toInt32) &&& (3 : Int32)), iv 0] [(.int 0)])) t := by
        intro t k
        refine XS.iload X24.here hx rfl (hb hby at_115) rfl ?_
        show Steps p.tables e below (T24.setTop (mkF m 117 #[iv p0, iv p1, iv p2, iv p3, iv p4, iv (own_pos p0), iv (own_pos p1), iv (own_sel p4 1 p2 p0), iv (own_sel p4 2 p3 p1), rv ob10, rv ob15, iv (((p4.toUInt32 >>> ((2 : Int32) &&& 31).toUInt32).toInt32) &&& (3 : Int32)), iv 0] [(.int 0), (.int 0)])) _
        refine XS.icmpNo X24.here hx rfl (hb hby at_117) rfl (teq (by decide : (0 : Int32) = (0 : Int32))).2 ?_
        show Steps p.tables e below (T24.setTop (mkF m 120 #[iv p0, iv p1, iv p2, iv p3, iv p4, iv (own_pos p0), iv (own_pos p1), iv (own_sel p4 1 p2 p0), iv (own_sel p4 2 p3 p1), rv ob10, rv ob15, iv (((p4.toUInt32 >>> ((2 : Int32) &&& 31).toUInt32).toInt32) &&& (3 : Int32)), iv 0] [])) _
        refine XS.aload X24.here hx rfl (hb hby at_120) rfl rfl ?_
        show Steps p.tables e below (T24.setTop (mkF m 122 #[iv p0, iv p1, iv p2, iv p3, iv p4, iv (own_pos p0), iv (own_pos p1), iv (own_sel p4 1 p2 p0), iv (own_sel p4 2 p3 p1), rv ob10, rv ob15, iv (((p4.toUInt32 >>> ((2 : Int32) &&& 31).toUInt32).toInt32) &&& (3 : Int32)), iv 0] [(.ref ob15)])) _
        refine XS.aload X24.here hx rfl (hb hby at_122) rfl rfl ?_
        show Steps p.tables e below (T24.setTop (mkF m 124 #[iv p0, iv p1, iv p2, iv p3, iv p4, iv (own_pos p0), iv (own_pos p1), iv (own_sel p4 1 p2 p0), iv (own_sel p4 2 p3 p1), rv ob10, rv ob15, iv (((p4.toUInt32 >>> ((2 : Int32) &&& 31).toUInt32).toInt32) &&& (3 : Int32)), iv 0] [(.ref ob10), (.ref ob15)])) _
        exact k
      refine own_lift sg26 ?_
      show own_Go p.tables e below (T24.setTop (mkF m 124 #[iv p0, iv p1, iv p2, iv p3, iv p4, iv (own_pos p0), iv (own_pos p1), iv (own_sel p4 1 p2 p0), iv (own_sel p4 2 p3 p1), rv ob10, rv ob15, iv (((p4.toUInt32 >>> ((2 : Int32) &&& 31).toUInt32).toInt32) &&& (3 : Int32)), iv 0] [(.ref ob10), (.ref ob15)])) _
      obtain ⟨cq27, kq27, q27a, q27b, q27c⟩ := isOf hZ e24 p20_1
      obtain ⟨_, _, ⟨T27, Lx27, kx27, nx27⟩, -, X27, ⟨Lc27, hQ27, lx27, yx27, zx27⟩, st27⟩ := X24.virtualBack hx (y := (⟨"com/example/allsome/allsome/cypher/InputPosition", "equals", "(Ljava/lang/Object;)Z"⟩ : MethodName)) (z := (⟨"com/example/allsome/allsome/cypher/InputPosition", "equals", "(Ljava/lang/Object;)Z"⟩ : MethodName)) hown (mvT hZ (wd hw 18 rfl)) (mvT hZ (wd hw 19 rfl)) (notFace_of_selects (args := #[]) (mvT hZ (wd hw 21 rfl))) (mvT hZ (wd hw 21 rfl)) (mvT hZ (wd hw 20 rfl)) (by decide) (backOf (W := 0) (rmEqL l Z a0 hw [] ob15 ob10 (own_sel p4 1 p2 p0) (own_sel p4 2 p3 p1) (own_pos p0) (own_pos p1) T20.heap n0 Z20 p20_2 p20_3 Fc22 Fc23 Fc25 (fun q => hl (Eq.symm q))) hZ (wd hw 22 rfl) (wd hw 7 rfl) (by decide) (by decide)) q27a q27c (g := (mkF m 124 #[iv p0, iv p1, iv p2, iv p3, iv p4, iv (own_pos p0), iv (own_pos p1), iv (own_sel p4 1 p2 p0), iv (own_sel p4 2 p3 p1), rv ob10, rv ob15, iv (((p4.toUInt32 >>> ((2 : Int32) &&& 31).toUInt32).toInt32) &&& (3 : Int32)), iv 0] [(.ref ob10), (.ref ob15)])) rfl (by rw [hml]; rfl) (Steps.refl _) (argsL := [(.ref ob10)]) (rest := []) (lenOf pd_4 rfl) rfl (by show 2 * 0 + _ ≤ _; exact Nat.le_of_eq rfl) (hb hby at_124) (fun _ _ => ⟨rfl, e24, (by decide : 2 + 0 ≤ _), (by decide : 4 + 0 ≤ _)⟩)
      dsimp only [Pt.U, Pt.locs, Pt.cells, Pt.slots] at X27 lx27 yx27 zx27 st27 hQ27
      subst lx27 yx27 zx27
      obtain ⟨rfl, N27q, e27⟩ := hQ27
      have N27 := Fr.app N24 N27q
      refine own_lift (fun t k => st27.trans k) ?_
      show own_Go p.tables e below (T27.setTop (mkF m 127 #[iv p0, iv p1, iv p2, iv p3, iv p4, iv (own_pos p0), iv (own_pos p1), iv (own_sel p4 1 p2 p0), iv (own_sel p4 2 p3 p1), rv ob10, rv ob15, iv (((p4.toUInt32 >>> ((2 : Int32) &&& 31).toUInt32).toInt32) &&& (3 : Int32)), iv 0] [(.int 0)])) _
      have sg28 : ∀ t, Steps p.tables e below (T27.setTop (mkF m 137 #[iv p0, iv p1, iv p2, iv p3, iv p4, iv (own_pos p0), iv (own_pos p1), iv (own_sel p4 1 p2 p0), iv (own_sel p4 2 p3 p1), rv ob10, rv ob15, iv (((p4.toUInt32 >>> ((2 : Int32) &&& 31).toUInt32).toInt32) &&& (3 : Int32)), iv 0] [(.int 1)])) t → Steps p.tables e below (T27.setTop (mkF m 127 #[iv p0, iv p1, iv p2, iv p3, iv p4, iv (own_pos p0), iv (own_pos p1), iv (own_sel p4 1 p2 p0), iv (own_sel p4 2 p3 p1), rv ob10, rv ob15, iv (((p4.toUInt32 >>> ((2 : Int32) &&& 31).toUInt32).toInt32) &&& (3 : Int32)), iv 0] [(.int 0)])) t := by
        intro t k
        refine XS.iload X27.here hx rfl (hb hby at_127) rfl ?_
        show Steps p.tables e below (T27.setTop (mkF m 129 #[iv p0, iv p1, iv p2, iv p3, iv p4, iv (own_pos p0), iv (own_pos p1), iv (own_sel p4 1 p2 p0), iv (own_sel p4 2 p3 p1), rv ob10, rv ob15, iv (((p4.toUInt32 >>> ((2 : Int32) &&& 31).toUInt32).toInt32) &&& (3 : Int32)), iv 0] [(.int 0), (.int 0)])) _
        refine XS.icmpNo X27.here hx rfl (hb hby at_129) rfl (teq (by decide : (0 : Int32) = (0 : Int32))).2 ?_
        show Steps p.tables e below (T27.setTop (mkF m 132 #[iv p0, iv p1, iv p2, iv p3, iv p4, iv (own_pos p0), iv (own_pos p1), iv (own_sel p4 1 p2 p0), iv (own_sel p4 2 p3 p1), rv ob10, rv ob15, iv (((p4.toUInt32 >>> ((2 : Int32) &&& 31).toUInt32).toInt32) &&& (3 : Int32)), iv 0] [])) _
        refine XS.iconst X27.here hx rfl (hb hby at_132) ?_
        show Steps p.tables e below (T27.setTop (mkF m 133 #[iv p0, iv p1, iv p2, iv p3, iv p4, iv (own_pos p0), iv (own_pos p1), iv (own_sel p4 1 p2 p0), iv (own_sel p4 2 p3 p1), rv ob10, rv ob15, iv (((p4.toUInt32 >>> ((2 : Int32) &&& 31).toUInt32).toInt32) &&& (3 : Int32)), iv 0] [(.int 1)])) _
        refine XS.goto X27.here hx rfl (pc0 := 133) (pc' := 137) rfl (hb hby at_133) (by decide) (by decide) ?_
        show Steps p.tables e below (T27.setTop (mkF m 137 #[iv p0, iv p1, iv p2, iv p3, iv p4, iv (own_pos p0), iv (own_pos p1), iv (own_sel p4 1 p2 p0), iv (own_sel p4 2 p3 p1), rv ob10, rv ob15, iv (((p4.toUInt32 >>> ((2 : Int32) &&& 31).toUInt32).toInt32) &&& (3 : Int32)), iv 0] [(.int 1)])) _
        exact k
      refine own_lift sg28 ?_
      show own_Go p.tables e below (T27.setTop (mkF m 137 #[iv p0, iv p1, iv p2, iv p3, iv p4, iv (own_pos p0), iv (own_pos p1), iv (own_sel p4 1 p2 p0), iv (own_sel p4 2 p3 p1), rv ob10, rv ob15, iv (((p4.toUInt32 >>> ((2 : Int32) &&& 31).toUInt32).toInt32) &&& (3 : Int32)), iv 0] [(.int 1)])) _
      obtain ⟨fs, hr, hrun, hended, hW, hsame⟩ := X27.leave (v := some (.int 1)) (fun h => by rw [Bd.returns] at h; cases h)
      refine ⟨_, _, ?_, hrun, hended, _, _, rfl, ?_, ⟨_, rfl⟩, hW, hsame.mono (by decide) (by decide)⟩
      · exact retN X27 hx (t := .boolean) Bd.returns (by simp) (hb hby at_137) hr
      · show Q0 Z  h0 n0 _ T27.heap _
        rw [e27]
        exact ⟨rfl, N27⟩
    by_cases b2 : (p4 &&& (2 : Int32)) = (0 : Int32)
    · have sg29 : ∀ t, Steps p.tables e below (T6.setTop (mkF m 43 #[iv p0, iv p1, iv p2, iv p3, iv p4, iv (own_pos p0), iv (own_pos p1), iv (own_sel p4 1 p2 p0), .unset, .unset, .unset, .unset, .unset] [(.int p3)])) t → Steps p.tables e below (T6.setTop (mkF m 30 #[iv p0, iv p1, iv p2, iv p3, iv p4, iv (own_pos p0), iv (own_pos p1), iv (own_sel p4 1 p2 p0), .unset, .unset, .unset, .unset, .unset] [])) t := by
        intro t k
        refine XS.iload X6.here hx rfl (hb hby at_30) rfl ?_
        show Steps p.tables e below (T6.setTop (mkF m 32 #[iv p0, iv p1, iv p2, iv p3, iv p4, iv (own_pos p0), iv (own_pos p1), iv (own_sel p4 1 p2 p0), .unset, .unset, .unset, .unset, .unset] [(.int p4)])) _
        refine XS.iconst X6.here hx rfl (hb hby at_32) ?_
        show Steps p.tables e below (T6.setTop (mkF m 33 #[iv p0, iv p1, iv p2, iv p3, iv p4, iv (own_pos p0), iv (own_pos p1), iv (own_sel p4 1 p2 p0), .unset, .unset, .unset, .unset, .unset] [(.int 2), (.int p4)])) _
        refine XS.iand X6.here hx rfl (hb hby at_33) rfl ?_
        show Steps p.tables e below (T6.setTop (mkF m 34 #[iv p0, iv p1, iv p2, iv p3, iv p4, iv (own_pos p0), iv (own_pos p1), iv (own_sel p4 1 p2 p0), .unset, .unset, .unset, .unset, .unset] [(.int (p4 &&& (2 : Int32)))])) _
        refine XS.ifYes X6.here hx rfl (pc0 := 34) (pc' := 42) rfl (hb hby at_34) rfl ((if0 _ _).trans (teq b2).1) (by decide) (by decide) ?_
        show Steps p.tables e below (T6.setTop (mkF m 42 #[iv p0, iv p1, iv p2, iv p3, iv p4, iv (own_pos p0), iv (own_pos p1), iv (own_sel p4 1 p2 p0), .unset, .unset, .unset, .unset, .unset] [])) _
        refine XS.iloadN X6.here hx rfl (hb hby at_42) rfl ?_
        show Steps p.tables e below (T6.setTop (mkF m 43 #[iv p0, iv p1, iv p2, iv p3, iv p4, iv (own_pos p0), iv (own_pos p1), iv (own_sel p4 1 p2 p0), .unset, .unset, .unset, .unset, .unset] [(.int p3)])) _
        exact k
      refine own_lift sg29 ?_
      show own_Go p.tables e below (T6.setTop (mkF m 43 #[iv p0, iv p1, iv p2, iv p3, iv p4, iv (own_pos p0), iv (own_pos p1), iv (own_sel p4 1 p2 p0), .unset, .unset, .unset, .unset, .unset] [(.int p3)])) _
      obtain ⟨_, _, ⟨T30, Lx30, kx30, nx30⟩, -, X30, ⟨Lc30, hQ30, lx30, yx30, zx30⟩, st30⟩ := Jvm.LawKit.callS X6 hx (y := (⟨"com/example/allsome/allsome/cypher/InputPositionEqualsPinLaw", "pos", "(I)I"⟩ : MethodName)) hown (mvT hZ (wd hw 0 rfl)) (mvT hZ (wd hw 1 rfl)) (mvT hZ (wd hw 2 rfl)) (mvT hZ (wd hw 3 rfl)) (by decide) (backOf (W := 0) (rmPos l Z a0 hw [] p3 h0 n0 Z0 ) hZ (wd hw 3 rfl) (wd hw 2 rfl) (by decide) (by decide)) (g := (mkF m 43 #[iv p0, iv p1, iv p2, iv p3, iv p4, iv (own_pos p0), iv (own_pos p1), iv (own_sel p4 1 p2 p0), .unset, .unset, .unset, .unset, .unset] [(.int p3)])) rfl (by rw [hml]; rfl) (argsL := [(.int p3)]) (rest := []) (lenOf pd_2 rfl) rfl (by show 2 * 0 + _ ≤ _; exact Nat.le_of_eq rfl) (hb hby at_43) (fun _ _ => ⟨rfl, e6, (by decide : 0 + 0 ≤ _), (by decide : 0 + 0 ≤ _)⟩)
      dsimp only [Pt.U, Pt.locs, Pt.cells, Pt.slots] at X30 lx30 yx30 zx30 st30 hQ30
      subst lx30 yx30 zx30
      obtain ⟨rfl, N30q, e30⟩ := hQ30
      have N30 := Fr.app N6 N30q
      refine own_lift st30 ?_
      show own_Go p.tables e below (T30.setTop (mkF m 46 #[iv p0, iv p1, iv p2, iv p3, iv p4, iv (own_pos p0), iv (own_pos p1), iv (own_sel p4 1 p2 p0), .unset, .unset, .unset, .unset, .unset] [(.int (own_pos p3))])) _
      rw [show (own_sel p4 2 p3 p1) = (own_pos p3) from if_pos b2] at join8
      exact join8 _ _ X30 e30 N30
    · have sg31 : ∀ t, Steps p.tables e below (T6.setTop (mkF m 46 #[iv p0, iv p1, iv p2, iv p3, iv p4, iv (own_pos p0), iv (own_pos p1), iv (own_sel p4 1 p2 p0), .unset, .unset, .unset, .unset, .unset] [(.int (own_pos p1))])) t → Steps p.tables e below (T6.setTop (mkF m 30 #[iv p0, iv p1, iv p2, iv p3, iv p4, iv (own_pos p0), iv (own_pos p1), iv (own_sel p4 1 p2 p0), .unset, .unset, .unset, .unset, .unset] [])) t := by
        intro t k
        refine XS.iload X6.here hx rfl (hb hby at_30) rfl ?_
        show Steps p.tables e below (T6.setTop (mkF m 32 #[iv p0, iv p1, iv p2, iv p3, iv p4, iv (own_pos p0), iv (own_pos p1), iv (own_sel p4 1 p2 p0), .unset, .unset, .unset, .unset, .unset] [(.int p4)])) _
        refine XS.iconst X6.here hx rfl (hb hby at_32) ?_
        show Steps p.tables e below (T6.setTop (mkF m 33 #[iv p0, iv p1, iv p2, iv p3, iv p4, iv (own_pos p0), iv (own_pos p1), iv (own_sel p4 1 p2 p0), .unset, .unset, .unset, .unset, .unset] [(.int 2), (.int p4)])) _
        refine XS.iand X6.here hx rfl (hb hby at_33) rfl ?_
        show Steps p.tables e below (T6.setTop (mkF m 34 #[iv p0, iv p1, iv p2, iv p3, iv p4, iv (own_pos p0), iv (own_pos p1), iv (own_sel p4 1 p2 p0), .unset, .unset, .unset, .unset, .unset] [(.int (p4 &&& (2 : Int32)))])) _
        refine XS.ifNo X6.here hx rfl (hb hby at_34) rfl ((if0 _ _).trans (feq b2).1) ?_
        show Steps p.tables e below (T6.setTop (mkF m 37 #[iv p0, iv p1, iv p2, iv p3, iv p4, iv (own_pos p0), iv (own_pos p1), iv (own_sel p4 1 p2 p0), .unset, .unset, .unset, .unset, .unset] [])) _
        refine XS.iload X6.here hx rfl (hb hby at_37) rfl ?_
        show Steps p.tables e below (T6.setTop (mkF m 39 #[iv p0, iv p1, iv p2, iv p3, iv p4, iv (own_pos p0), iv (own_pos p1), iv (own_sel p4 1 p2 p0), .unset, .unset, .unset, .unset, .unset] [(.int (own_pos p1))])) _
        refine XS.goto X6.here hx rfl (pc0 := 39) (pc' := 46) rfl (hb hby at_39) (by decide) (by decide) ?_
        show Steps p.tables e below (T6.setTop (mkF m 46 #[iv p0, iv p1, iv p2, iv p3, iv p4, iv (own_pos p0), iv (own_pos p1), iv (own_sel p4 1 p2 p0), .unset, .unset, .unset, .unset, .unset] [(.int (own_pos p1))])) _
        exact k
      refine own_lift sg31 ?_
      show own_Go p.tables e below (T6.setTop (mkF m 46 #[iv p0, iv p1, iv p2, iv p3, iv p4, iv (own_pos p0), iv (own_pos p1), iv (own_sel p4 1 p2 p0), .unset, .unset, .unset, .unset, .unset] [(.int (own_pos p1))])) _
      rw [show (own_sel p4 2 p3 p1) = (own_pos p1) from if_neg b2] at join8
      exact join8 _ _ X6 e6 N6
  by_cases b1 : (p4 &&& (1 : Int32)) = (0 : Int32)
  · have sg32 : ∀ t, Steps p.tables e below (T4.setTop (mkF m 25 #[iv p0, iv p1, iv p2, iv p3, iv p4, iv (own_pos p0), iv (own_pos p1), .unset, .unset, .unset, .unset, .unset, .unset] [(.int p2)])) t → Steps p.tables e below (T4.setTop (mkF m 12 #[iv p0, iv p1, iv p2, iv p3, iv p4, iv (own_pos p0), iv (own_pos p1), .unset, .unset, .unset, .unset, .unset, .unset] [])) t := by
      intro t k
      refine XS.iload X4.here hx rfl (hb hby at_12) rfl ?_
      show Steps p.tables e below (T4.setTop (mkF m 14 #[iv p0, iv p1, iv p2, iv p3, iv p4, iv (own_pos p0), iv (own_pos p1), .unset, .unset, .unset, .unset, .unset, .unset] [(.int p4)])) _
      refine XS.iconst X4.here hx rfl (hb hby at_14) ?_
      show Steps p.tables e below (T4.setTop (mkF m 15 #[iv p0, iv p1, iv p2, iv p3, iv p4, iv (own_pos p0), iv (own_pos p1), .unset, .unset, .unset, .unset, .unset, .unset] [(.int 1), (.int p4)])) _
      refine XS.iand X4.here hx rfl (hb hby at_15) rfl ?_
      show Steps p.tables e below (T4.setTop (mkF m 16 #[iv p0, iv p1, iv p2, iv p3, iv p4, iv (own_pos p0), iv (own_pos p1), .unset, .unset, .unset, .unset, .unset, .unset] [(.int (p4 &&& (1 : Int32)))])) _
      refine XS.ifYes X4.here hx rfl (pc0 := 16) (pc' := 24) rfl (hb hby at_16) rfl ((if0 _ _).trans (teq b1).1) (by decide) (by decide) ?_
      show Steps p.tables e below (T4.setTop (mkF m 24 #[iv p0, iv p1, iv p2, iv p3, iv p4, iv (own_pos p0), iv (own_pos p1), .unset, .unset, .unset, .unset, .unset, .unset] [])) _
      refine XS.iloadN X4.here hx rfl (hb hby at_24) rfl ?_
      show Steps p.tables e below (T4.setTop (mkF m 25 #[iv p0, iv p1, iv p2, iv p3, iv p4, iv (own_pos p0), iv (own_pos p1), .unset, .unset, .unset, .unset, .unset, .unset] [(.int p2)])) _
      exact k
    refine own_lift sg32 ?_
    show own_Go p.tables e below (T4.setTop (mkF m 25 #[iv p0, iv p1, iv p2, iv p3, iv p4, iv (own_pos p0), iv (own_pos p1), .unset, .unset, .unset, .unset, .unset, .unset] [(.int p2)])) _
    obtain ⟨_, _, ⟨T33, Lx33, kx33, nx33⟩, -, X33, ⟨Lc33, hQ33, lx33, yx33, zx33⟩, st33⟩ := Jvm.LawKit.callS X4 hx (y := (⟨"com/example/allsome/allsome/cypher/InputPositionEqualsPinLaw", "pos", "(I)I"⟩ : MethodName)) hown (mvT hZ (wd hw 0 rfl)) (mvT hZ (wd hw 1 rfl)) (mvT hZ (wd hw 2 rfl)) (mvT hZ (wd hw 3 rfl)) (by decide) (backOf (W := 0) (rmPos l Z a0 hw [] p2 h0 n0 Z0 ) hZ (wd hw 3 rfl) (wd hw 2 rfl) (by decide) (by decide)) (g := (mkF m 25 #[iv p0, iv p1, iv p2, iv p3, iv p4, iv (own_pos p0), iv (own_pos p1), .unset, .unset, .unset, .unset, .unset, .unset] [(.int p2)])) rfl (by rw [hml]; rfl) (argsL := [(.int p2)]) (rest := []) (lenOf pd_2 rfl) rfl (by show 2 * 0 + _ ≤ _; exact Nat.le_of_eq rfl) (hb hby at_25) (fun _ _ => ⟨rfl, e4, (by decide : 0 + 0 ≤ _), (by decide : 0 + 0 ≤ _)⟩)
    dsimp only [Pt.U, Pt.locs, Pt.cells, Pt.slots] at X33 lx33 yx33 zx33 st33 hQ33
    subst lx33 yx33 zx33
    obtain ⟨rfl, N33q, e33⟩ := hQ33
    have N33 := Fr.app N4 N33q
    refine own_lift st33 ?_
    show own_Go p.tables e below (T33.setTop (mkF m 28 #[iv p0, iv p1, iv p2, iv p3, iv p4, iv (own_pos p0), iv (own_pos p1), .unset, .unset, .unset, .unset, .unset, .unset] [(.int (own_pos p2))])) _
    rw [show (own_sel p4 1 p2 p0) = (own_pos p2) from if_pos b1] at join6
    exact join6 _ _ X33 e33 N33
  · have sg34 : ∀ t, Steps p.tables e below (T4.setTop (mkF m 28 #[iv p0, iv p1, iv p2, iv p3, iv p4, iv (own_pos p0), iv (own_pos p1), .unset, .unset, .unset, .unset, .unset, .unset] [(.int (own_pos p0))])) t → Steps p.tables e below (T4.setTop (mkF m 12 #[iv p0, iv p1, iv p2, iv p3, iv p4, iv (own_pos p0), iv (own_pos p1), .unset, .unset, .unset, .unset, .unset, .unset] [])) t := by
      intro t k
      refine XS.iload X4.here hx rfl (hb hby at_12) rfl ?_
      show Steps p.tables e below (T4.setTop (mkF m 14 #[iv p0, iv p1, iv p2, iv p3, iv p4, iv (own_pos p0), iv (own_pos p1), .unset, .unset, .unset, .unset, .unset, .unset] [(.int p4)])) _
      refine XS.iconst X4.here hx rfl (hb hby at_14) ?_
      show Steps p.tables e below (T4.setTop (mkF m 15 #[iv p0, iv p1, iv p2, iv p3, iv p4, iv (own_pos p0), iv (own_pos p1), .unset, .unset, .unset, .unset, .unset, .unset] [(.int 1), (.int p4)])) _
      refine XS.iand X4.here hx rfl (hb hby at_15) rfl ?_
      show Steps p.tables e below (T4.setTop (mkF m 16 #[iv p0, iv p1, iv p2, iv p3, iv p4, iv (own_pos p0), iv (own_pos p1), .unset, .unset, .unset, .unset, .unset, .unset] [(.int (p4 &&& (1 : Int32)))])) _
      refine XS.ifNo X4.here hx rfl (hb hby at_16) rfl ((if0 _ _).trans (feq b1).1) ?_
      show Steps p.tables e below (T4.setTop (mkF m 19 #[iv p0, iv p1, iv p2, iv p3, iv p4, iv (own_pos p0), iv (own_pos p1), .unset, .unset, .unset, .unset, .unset, .unset] [])) _
      refine XS.iload X4.here hx rfl (hb hby at_19) rfl ?_
      show Steps p.tables e below (T4.setTop (mkF m 21 #[iv p0, iv p1, iv p2, iv p3, iv p4, iv (own_pos p0), iv (own_pos p1), .unset, .unset, .unset, .unset, .unset, .unset] [(.int (own_pos p0))])) _
      refine XS.goto X4.here hx rfl (pc0 := 21) (pc' := 28) rfl (hb hby at_21) (by decide) (by decide) ?_
      show Steps p.tables e below (T4.setTop (mkF m 28 #[iv p0, iv p1, iv p2, iv p3, iv p4, iv (own_pos p0), iv (own_pos p1), .unset, .unset, .unset, .unset, .unset, .unset] [(.int (own_pos p0))])) _
      exact k
    refine own_lift sg34 ?_
    show own_Go p.tables e below (T4.setTop (mkF m 28 #[iv p0, iv p1, iv p2, iv p3, iv p4, iv (own_pos p0), iv (own_pos p1), .unset, .unset, .unset, .unset, .unset, .unset] [(.int (own_pos p0))])) _
    rw [show (own_sel p4 1 p2 p0) = (own_pos p0) from if_neg b1] at join6
    exact join6 _ _ X4 e4 N4
theorem ef_rm0_1 (m : MethodId) (x0 : Int32) (x1 : Int32) (x2 : Int32) (x3 : Int32) (x4 : Int32) : entryFrame m #[(.int x0), (.int x1), (.int x2), (.int x3), (.int x4)] maxLocals = mkF m 0 #[.val (.int x0), .val (.int x1), .val (.int x2), .val (.int x3), .val (.int x4), .unset, .unset, .unset, .unset, .unset, .unset, .unset, .unset] [] := by first | (simp [entryFrame, mkF, argsToLocals, Value.category, maxLocals]; done) | rfl
set_option maxRecDepth 65536 in
set_option maxHeartbeats 40000000 in
theorem rm0_1 (l : Launch) (Z : State) (a0 : Array Value) (hw : ∀ d ∈ tables_1, d.before a0 Z = true) (ws : List Jvm.Cond) (p0 : Int32) (p1 : Int32) (p2 : Int32) (p3 : Int32) (p4 : Int32) (ca : Addr) (cc : Cell) (h0 : Heap) (n0 : Nat) (Z0 : n0 ≤ h0.size) (S1 : Sta Z h0 "java/lang/Integer$IntegerCache" "high" "I" (.int 127)) (S2 : Sta Z h0 "java/lang/Integer$IntegerCache" "cache" "[Ljava/lang/Integer;" (.ref ca)) (A1 : Arr Z h0 ca cc (.object "java/lang/Integer")) (k0 : ¬ ((((p4.toUInt32 >>> ((2 : Int32) &&& 31).toUInt32).toInt32) &&& (3 : Int32)) = (0 : Int32))) (k1 : (((p4.toUInt32 >>> ((2 : Int32) &&& 31).toUInt32).toInt32) &&& (3 : Int32)) = (1 : Int32)) :
    MetFree l x (head1 (Jvm.Cond.code x code maxLocals ret :: ws) room_1) (fun a U => a = #[(.int p0), (.int p1), (.int p2), (.int p3), (.int p4)] ∧ Z.Warmed39 U.vm ∧ U.heap = h0) (fun _ _ _ _ _ => True) (fun _ U o U' => ∃ v L, o = .returned v ∧ Q0 Z  h0 n0 v U'.heap L ∧ FrameEnd U o U' L 16 128) := by
  refine MetFree.of_bodySF (plainFor_of_name pn_1) hisR ?_
  intro p e s m args below meth c s₁ Bd hml0 hP hK
  obtain ⟨rfl, hZ, hh⟩ := hP
  have hx := Bd.exec
  have hby := Bd.bytes
  have hml : c.maxLocals = 13 := hml0
  have hown : s.vm.findClass "com/example/allsome/allsome/cypher/InputPositionEqualsPinLaw" = some m.cls := findClass_of_methodNamed Bd.named
  have hnm := (name_of_methodNamed Bd.named Bd.method).1
  have X0 : Stand p l e room_1 s m #[(.int p0), (.int p1), (.int p2), (.int p3), (.int p4)] below meth c s₁ [] 0 0 := Stand.of_body Bd
  have e0 : s₁.heap = h0 := by rw [← hh, Bd.state]; rfl
  have N0 := Fr.nil n0
  refine own_go (own_lift (fun t k => castTop (ef_rm0_1 m p0 p1 p2 p3 p4) k) ?_)
  show own_Go p.tables e below (s₁.setTop (mkF m 0 #[iv p0, iv p1, iv p2, iv p3, iv p4, .unset, .unset, .unset, .unset, .unset, .unset, .unset, .unset] [])) _
  have sg1 : ∀ t, Steps p.tables e below (s₁.setTop (mkF m 1 #[iv p0, iv p1, iv p2, iv p3, iv p4, .unset, .unset, .unset, .unset, .unset, .unset, .unset, .unset] [(.int p0)])) t → Steps p.tables e below (s₁.setTop (mkF m 0 #[iv p0, iv p1, iv p2, iv p3, iv p4, .unset, .unset, .unset, .unset, .unset, .unset, .unset, .unset] [])) t := by
    intro t k
    refine XS.iloadN X0.here hx rfl (hb hby at_0) rfl ?_
    show Steps p.tables e below (s₁.setTop (mkF m 1 #[iv p0, iv p1, iv p2, iv p3, iv p4, .unset, .unset, .unset, .unset, .unset, .unset, .unset, .unset] [(.int p0)])) _
    exact k
  refine own_lift sg1 ?_
  show own_Go p.tables e below (s₁.setTop (mkF m 1 #[iv p0, iv p1, iv p2, iv p3, iv p4, .unset, .unset, .unset, .unset, .unset, .unset, .unset, .unset] [(.int p0)])) _
  obtain ⟨_, _, ⟨T2, Lx2, kx2, nx2⟩, -, X2, ⟨Lc2, hQ2, lx2, yx2, zx2⟩, st2⟩ := Jvm.LawKit.callS X0 hx (y := (⟨"com/example/allsome/allsome/cypher/InputPositionEqualsPinLaw", "pos", "(I)I"⟩ : MethodName)) hown (mvT hZ (wd hw 0 rfl)) (mvT hZ (wd hw 1 rfl)) (mvT hZ (wd hw 2 rfl)) (mvT hZ (wd hw 3 rfl)) (by decide) (backOf (W := 0) (rmPos l Z a0 hw [] p0 h0 n0 Z0 ) hZ (wd hw 3 rfl) (wd hw 2 rfl) (by decide) (by decide)) (g := (mkF m 1 #[iv p0, iv p1, iv p2, iv p3, iv p4, .unset, .unset, .unset, .unset, .unset, .unset, .unset, .unset] [(.int p0)])) rfl (by rw [hml]; rfl) (argsL := [(.int p0)]) (rest := []) (lenOf pd_2 rfl) rfl (by show 2 * 0 + _ ≤ _; exact Nat.le_of_eq rfl) (hb hby at_1) (fun _ _ => ⟨rfl, e0, (by decide : 0 + 0 ≤ _), (by decide : 0 + 0 ≤ _)⟩)
  dsimp only [Pt.U, Pt.locs, Pt.cells, Pt.slots] at X2 lx2 yx2 zx2 st2 hQ2
  subst lx2 yx2 zx2
  obtain ⟨rfl, N2q, e2⟩ := hQ2
  have N2 := Fr.app N0 N2q
  refine own_lift st2 ?_
  show own_Go p.tables e below (T2.setTop (mkF m 4 #[iv p0, iv p1, iv p2, iv p3, iv p4, .unset, .unset, .unset, .unset, .unset, .unset, .unset, .unset] [(.int (own_pos p0))])) _
  have sg3 : ∀ t, Steps p.tables e below (T2.setTop (mkF m 7 #[iv p0, iv p1, iv p2, iv p3, iv p4, iv (own_pos p0), .unset, .unset, .unset, .unset, .unset, .unset, .unset] [(.int p1)])) t → Steps p.tables e below (T2.setTop (mkF m 4 #[iv p0, iv p1, iv p2, iv p3, iv p4, .unset, .unset, .unset, .unset, .unset, .unset, .unset, .unset] [(.int (own_pos p0))])) t := by
    intro t k
    refine XS.istore X2.here hx rfl (hb hby at_4) rfl (l' := #[iv p0, iv p1, iv p2, iv p3, iv p4, iv (own_pos p0), .unset, .unset, .unset, .unset, .unset, .unset, .unset]) rfl ?_
    show Steps p.tables e below (T2.setTop (mkF m 6 #[iv p0, iv p1, iv p2, iv p3, iv p4, iv (own_pos p0), .unset, .unset, .unset, .unset, .unset, .unset, .unset] [])) _
    refine XS.iloadN X2.here hx rfl (hb hby at_6) rfl ?_
    show Steps p.tables e below (T2.setTop (mkF m 7 #[iv p0, iv p1, iv p2, iv p3, iv p4, iv (own_pos p0), .unset, .unset, .unset, .unset, .unset, .unset, .unset] [(.int p1)])) _
    exact k
  refine own_lift sg3 ?_
  show own_Go p.tables e below (T2.setTop (mkF m 7 #[iv p0, iv p1, iv p2, iv p3, iv p4, iv (own_pos p0), .unset, .unset, .unset, .unset, .unset, .unset, .unset] [(.int p1)])) _
  obtain ⟨_, _, ⟨T4, Lx4, kx4, nx4⟩, -, X4, ⟨Lc4, hQ4, lx4, yx4, zx4⟩, st4⟩ := Jvm.LawKit.callS X2 hx (y := (⟨"com/example/allsome/allsome/cypher/InputPositionEqualsPinLaw", "pos", "(I)I"⟩ : MethodName)) hown (mvT hZ (wd hw 0 rfl)) (mvT hZ (wd hw 1 rfl)) (mvT hZ (wd hw 2 rfl)) (mvT hZ (wd hw 3 rfl)) (by decide) (backOf (W := 0) (rmPos l Z a0 hw [] p1 h0 n0 Z0 ) hZ (wd hw 3 rfl) (wd hw 2 rfl) (by decide) (by decide)) (g := (mkF m 7 #[iv p0, iv p1, iv p2, iv p3, iv p4, iv (own_pos p0), .unset, .unset, .unset, .unset, .unset, .unset, .unset] [(.int p1)])) rfl (by rw [hml]; rfl) (argsL := [(.int p1)]) (rest := []) (lenOf pd_2 rfl) rfl (by show 2 * 0 + _ ≤ _; exact Nat.le_of_eq rfl) (hb hby at_7) (fun _ _ => ⟨rfl, e2, (by decide : 0 + 0 ≤ _), (by decide : 0 + 0 ≤ _)⟩)
  dsimp only [Pt.U, Pt.locs, Pt.cells, Pt.slots] at X4 lx4 yx4 zx4 st4 hQ4
  subst lx4 yx4 zx4
  obtain ⟨rfl, N4q, e4⟩ := hQ4
  have N4 := Fr.app N2 N4q
  refine own_lift st4 ?_
  show own_Go p.tables e below (T4.setTop (mkF m 10 #[iv p0, iv p1, iv p2, iv p3, iv p4, iv (own_pos p0), .unset, .unset, .unset, .unset, .unset, .unset, .unset] [(.int (own_pos p1))])) _
  have sg5 : ∀ t, Steps p.tables e below (T4.setTop (mkF m 12 #[iv p0, iv p1, iv p2, iv p3, iv p4, iv (own_pos p0), iv (own_pos p1), .unset, .unset, .unset, .unset, .unset, .unset] [])) t → Steps p.tables e below (T4.setTop (mkF m 10 #[iv p0, iv p1, iv p2, iv p3, iv p4, iv (own_pos p0), .unset, .unset, .unset, .unset, .unset, .unset, .unset] [(.int (own_pos p1))])) t := by
    intro t k
    refine XS.istore X4.here hx rfl (hb hby at_10) rfl (l' := #[iv p0, iv p1, iv p2, iv p3, iv p4, iv (own_pos p0), iv (own_pos p1), .unset, .unset, .unset, .unset, .unset, .unset]) rfl ?_
    show Steps p.tables e below (T4.setTop (mkF m 12 #[iv p0, iv p1, iv p2, iv p3, iv p4, iv (own_pos p0), iv (own_pos p1), .unset, .unset, .unset, .unset, .unset, .unset] [])) _
    exact k
  refine own_lift sg5 ?_
  show own_Go p.tables e below (T4.setTop (mkF m 12 #[iv p0, iv p1, iv p2, iv p3, iv p4, iv (own_pos p0), iv (own_pos p1), .unset, .unset, .unset, .unset, .unset, .unset] [])) _
  have join6 : ∀ (T6 : State) (locs6 : List Loc), Stand p l e room_1 s m #[(.int p0), (.int p1), (.int p2), (.int p3), (.int p4)] below meth c T6 locs6 0 0 → T6.heap = h0 → Fr n0 locs6 → own_Go p.tables e below (T6.setTop (mkF m 28 #[iv p0, iv p1, iv p2, iv p3, iv p4, iv (own_pos p0), iv (own_pos p1), .unset, .unset, .unset, .unset, .unset, .unset] [(.int (own_sel p4 1 p2 p0))])) (fun s₂ o => s₂.status = .running ∧ Ended s₂ below o ∧ ∃ v L, o = .returned v ∧ Q0 Z  h0 n0 v s₂.heap L ∧ FrameEnd s o s₂ L 16 128) := by
    intro T6 locs6 X6 e6 N6
    have sg7 : ∀ t, Steps p.tables e below (T6.setTop (mkF m 30 #[iv p0, iv p1, iv p2, iv p3, iv p4, iv (own_pos p0), iv (own_pos p1), iv (own_sel p4 1 p2 p0), .unset, .unset, .unset, .unset, .unset] [])) t → Steps p.tables e below (T6.setTop (mkF m 28 #[iv p0, iv p1, iv p2, iv p3, iv p4, iv (own_pos p0), iv (own_pos p1), .unset, .unset, .unset, .unset, .unset, .unset] [(.int (own_sel p4 1 p2 p0))])) t := by
      intro t k
      refine XS.istore X6.here hx rfl (hb hby at_28) rfl (l' := #[iv p0, iv p1, iv p2, iv p3, iv p4, iv (own_pos p0), iv (own_pos p1), iv (own_sel p4 1 p2 p0), .unset, .unset, .unset, .unset, .unset]) rfl ?_
      show Steps p.tables e below (T6.setTop (mkF m 30 #[iv p0, iv p1, iv p2, iv p3, iv p4, iv (own_pos p0), iv (own_pos p1), iv (own_sel p4 1 p2 p0), .unset, .unset, .unset, .unset, .unset] [])) _
      exact k
    refine own_lift sg7 ?_
    show own_Go p.tables e below (T6.setTop (mkF m 30 #[iv p0, iv p1, iv p2, iv p3, iv p4, iv (own_pos p0), iv (own_pos p1), iv (own_sel p4 1 p2 p0), .unset, .unset, .unset, .unset, .unset] [])) _
    have join8 : ∀ (T8 : State) (locs8 : List Loc), Stand p l e room_1 s m #[(.int p0), (.int p1), (.int p2), (.int p3), (.int p4)] below meth c T8 locs8 0 0 → T8.heap = h0 → Fr n0 locs8 → own_Go p.tables e below (T8.setTop (mkF m 46 #[iv p0, iv p1, iv p2, iv p3, iv p4, iv (own_pos p0), iv (own_pos p1), iv (own_sel p4 1 p2 p0), .unset, .unset, .unset, .unset, .unset] [(.int (own_sel p4 2 p3 p1))])) (fun s₂ o => s₂.status = .running ∧ Ended s₂ below o ∧ ∃ v L, o = .returned v ∧ Q0 Z  h0 n0 v s₂.heap L ∧ FrameEnd s o s₂ L 16 128) := by
      intro T8 locs8 X8 e8 N8
      have sg9 : ∀ t, Steps p.tables e below (T8.setTop (mkF m 48 #[iv p0, iv p1, iv p2, iv p3, iv p4, iv (own_pos p0), iv (own_pos p1), iv (own_sel p4 1 p2 p0), iv (own_sel p4 2 p3 p1), .unset, .unset, .unset, .unset] [])) t → Steps p.tables e below (T8.setTop (mkF m 46 #[iv p0, iv p1, iv p2, iv p3, iv p4, iv (own_pos p0), iv (own_pos p1), iv (own_sel p4 1 p2 p0), .unset, .unset, .unset, .unset, .unset] [(.int (own_sel p4 2 p3 p1))])) t := by
        intro t k
        refine XS.istore X8.here hx rfl (hb hby at_46) rfl (l' := #[iv p0, iv p1, iv p2, iv p3, iv p4, iv (own_pos p0), iv (own_pos p1), iv (own_sel p4 1 p2 p0), iv (own_sel p4 2 p3 p1), .unset, .unset, .unset, .unset]) rfl ?_
        show Steps p.tables e below (T8.setTop (mkF m 48 #[iv p0, iv p1, iv p2, iv p3, iv p4, iv (own_pos p0), iv (own_pos p1), iv (own_sel p4 1 p2 p0), iv (own_sel p4 2 p3 p1), .unset, .unset, .unset, .unset] [])) _
        exact k
      refine own_lift sg9 ?_
      show own_Go p.tables e below (T8.setTop (mkF m 48 #[iv p0, iv p1, iv p2, iv p3, iv p4, iv (own_pos p0), iv (own_pos p1), iv (own_sel p4 1 p2 p0), iv (own_sel p4 2 p3 p1), .unset, .unset, .unset, .unset] [])) _
      obtain ⟨T10, h10, X10, e10, Ex10, Ax10, Dx10, Ux10, st10⟩ := newO X8 hx hZ hown (wd hw 5 rfl) (wd hw 6 rfl) (wd hw 7 rfl) e8 (g := (mkF m 48 #[iv p0, iv p1, iv p2, iv p3, iv p4, iv (own_pos p0), iv (own_pos p1), iv (own_sel p4 1 p2 p0), iv (own_sel p4 2 p3 p1), .unset, .unset, .unset, .unset] [])) rfl (hb hby at_48) (by decide) (by decide)
      obtain ⟨ob10, g10⟩ : ∃ z, z = h0.size := ⟨_, rfl⟩
      rw [← g10] at Ax10 Dx10 Ux10 st10
      have ne11 : ca ≠ ob10 := Nat.ne_of_lt (Nat.lt_of_lt_of_le A1.lt (Nat.le_of_eq g10.symm))
      have Z10 : n0 ≤ h10.size := Nat.le_trans Z0 Ex10.1
      have ge10 : n0 ≤ ob10 := Nat.le_trans Z0 (Nat.le_of_eq g10.symm)
      have Fn10_15 : Fld Z h10 ob10 "com/example/allsome/allsome/cypher/InputPosition" "line" "I" (.int 0) := Dx10 (Or.inr (wd hw 15 rfl)) (ty := .int) (by decide)
      have Fn10_17 : Fld Z h10 ob10 "com/example/allsome/allsome/cypher/InputPosition" "column" "I" (.int 0) := Dx10 (Or.inr (wd hw 17 rfl)) (ty := .int) (by decide)
      refine own_lift st10 ?_
      show own_Go p.tables e below (T10.setTop (mkF m 51 #[iv p0, iv p1, iv p2, iv p3, iv p4, iv (own_pos p0), iv (own_pos p1), iv (own_sel p4 1 p2 p0), iv (own_sel p4 2 p3 p1), .unset, .unset, .unset, .unset] [(.ref ob10)])) _
      have sg12 : ∀ t, Steps p.tables e below (T10.setTop (mkF m 56 #[iv p0, iv p1, iv p2, iv p3, iv p4, iv (own_pos p0), iv (own_pos p1), iv (own_sel p4 1 p2 p0), iv (own_sel p4 2 p3 p1), .unset, .unset, .unset, .unset] [(.int (own_pos p1)), (.int (own_pos p0)), (.ref ob10), (.ref ob10)])) t → Steps p.tables e below (T10.setTop (mkF m 51 #[iv p0, iv p1, iv p2, iv p3, iv p4, iv (own_pos p0), iv (own_pos p1), iv (own_sel p4 1 p2 p0), iv (own_sel p4 2 p3 p1), .unset, .unset, .unset, .unset] [(.ref ob10)])) t := by
        intro t k
        refine XS.dup X10.here hx rfl (hb hby at_51) rfl rfl ?_
        show Steps p.tables e below (T10.setTop (mkF m 52 #[iv p0, iv p1, iv p2, iv p3, iv p4, iv (own_pos p0), iv (own_pos p1), iv (own_sel p4 1 p2 p0), iv (own_sel p4 2 p3 p1), .unset, .unset, .unset, .unset] [(.ref ob10), (.ref ob10)])) _
        refine XS.iload X10.here hx rfl (hb hby at_52) rfl ?_
        show Steps p.tables e below (T10.setTop (mkF m 54 #[iv p0, iv p1, iv p2, iv p3, iv p4, iv (own_pos p0), iv (own_pos p1), iv (own_sel p4 1 p2 p0), iv (own_sel p4 2 p3 p1), .unset, .unset, .unset, .unset] [(.int (own_pos p0)), (.ref ob10), (.ref ob10)])) _
        refine XS.iload X10.here hx rfl (hb hby at_54) rfl ?_
        show Steps p.tables e below (T10.setTop (mkF m 56 #[iv p0, iv p1, iv p2, iv p3, iv p4, iv (own_pos p0), iv (own_pos p1), iv (own_sel p4 1 p2 p0), iv (own_sel p4 2 p3 p1), .unset, .unset, .unset, .unset] [(.int (own_pos p1)), (.int (own_pos p0)), (.ref ob10), (.ref ob10)])) _
        exact k
      refine own_lift sg12 ?_
      show own_Go p.tables e below (T10.setTop (mkF m 56 #[iv p0, iv p1, iv p2, iv p3, iv p4, iv (own_pos p0), iv (own_pos p1), iv (own_sel p4 1 p2 p0), iv (own_sel p4 2 p3 p1), .unset, .unset, .unset, .unset] [(.int (own_pos p1)), (.int (own_pos p0)), (.ref ob10), (.ref ob10)])) _
      obtain ⟨_, _, ⟨T13, Lx13, kx13, nx13⟩, -, X13, ⟨Lc13, hQ13, lx13, yx13, zx13⟩, st13⟩ := X10.specialBack hx (y := (⟨"com/example/allsome/allsome/cypher/InputPosition", "<init>", "(II)V"⟩ : MethodName)) rfl hown (mvT hZ (wd hw 8 rfl)) (mvT hZ (wd hw 9 rfl)) (mvT hZ (wd hw 10 rfl)) (by decide) (backOf (W := 1) (rmInit l Z a0 hw [] ob10 (own_pos p0) (own_pos p1) h10 n0 Z10 Fn10_15 Fn10_17 Ax10 ge10 (own_pos_ge p0) (own_pos_ge p1)) hZ (wd hw 10 rfl) (wd hw 7 rfl) (by decide) (by decide)) (g := (mkF m 56 #[iv p0, iv p1, iv p2, iv p3, iv p4, iv (own_pos p0), iv (own_pos p1), iv (own_sel p4 1 p2 p0), iv (own_sel p4 2 p3 p1), .unset, .unset, .unset, .unset] [(.int (own_pos p1)), (.int (own_pos p0)), (.ref ob10), (.ref ob10)])) rfl (by rw [hml]; rfl) (Steps.refl _) (a := ob10) (argsL := [(.int (own_pos p0)), (.int (own_pos p1))]) (rest := [(.ref ob10)]) (lenOf pd_3 rfl) rfl (by show 2 * 0 + _ ≤ _; exact Nat.le_of_eq rfl) (hb hby at_56) (fun _ _ => ⟨rfl, e10, (by decide : 1 + 0 ≤ _), (by decide : 2 + 0 ≤ _)⟩)
      dsimp only [Pt.U, Pt.locs, Pt.cells, Pt.slots] at X13 lx13 yx13 zx13 st13 hQ13
      subst lx13 yx13 zx13
      obtain ⟨rfl, N13q, p13_0, p13_1, p13_2, p13_3⟩ := hQ13
      have N13 := Fr.app N8 N13q
      have Z13 : n0 ≤ T13.heap.size := Nat.le_trans Z10 p13_0.1
      refine own_lift (fun t k => st13.trans k) ?_
      show own_Go p.tables e below (T13.setTop (mkF m 59 #[iv p0, iv p1, iv p2, iv p3, iv p4, iv (own_pos p0), iv (own_pos p1), iv (own_sel p4 1 p2 p0), iv (own_sel p4 2 p3 p1), .unset, .unset, .unset, .unset] [(.ref ob10)])) _
      have sg14 : ∀ t, Steps p.tables e below (T13.setTop (mkF m 61 #[iv p0, iv p1, iv p2, iv p3, iv p4, iv (own_pos p0), iv (own_pos p1), iv (own_sel p4 1 p2 p0), iv (own_sel p4 2 p3 p1), rv ob10, .unset, .unset, .unset] [])) t → Steps p.tables e below (T13.setTop (mkF m 59 #[iv p0, iv p1, iv p2, iv p3, iv p4, iv (own_pos p0), iv (own_pos p1), iv (own_sel p4 1 p2 p0), iv (own_sel p4 2 p3 p1), .unset, .unset, .unset, .unset] [(.ref ob10)])) t := by
        intro t k
        refine XS.astore X13.here hx rfl (hb hby at_59) rfl rfl (l' := #[iv p0, iv p1, iv p2, iv p3, iv p4, iv (own_pos p0), iv (own_pos p1), iv (own_sel p4 1 p2 p0), iv (own_sel p4 2 p3 p1), rv ob10, .unset, .unset, .unset]) rfl ?_
        show Steps p.tables e below (T13.setTop (mkF m 61 #[iv p0, iv p1, iv p2, iv p3, iv p4, iv (own_pos p0), iv (own_pos p1), iv (own_sel p4 1 p2 p0), iv (own_sel p4 2 p3 p1), rv ob10, .unset, .unset, .unset] [])) _
        exact k
      refine own_lift sg14 ?_
      show own_Go p.tables e below (T13.setTop (mkF m 61 #[iv p0, iv p1, iv p2, iv p3, iv p4, iv (own_pos p0), iv (own_pos p1), iv (own_sel p4 1 p2 p0), iv (own_sel p4 2 p3 p1), rv ob10, .unset, .unset, .unset] [])) _
      obtain ⟨T15, h15, X15, e15, Ex15, Ax15, Dx15, Ux15, st15⟩ := newO X13 hx hZ hown (wd hw 5 rfl) (wd hw 6 rfl) (wd hw 7 rfl) rfl (g := (mkF m 61 #[iv p0, iv p1, iv p2, iv p3, iv p4, iv (own_pos p0), iv (own_pos p1), iv (own_sel p4 1 p2 p0), iv (own_sel p4 2 p3 p1), rv ob10, .unset, .unset, .unset] [])) rfl (hb hby at_61) (by decide) (by decide)
      obtain ⟨ob15, g15⟩ : ∃ z, z = T13.heap.size := ⟨_, rfl⟩
      rw [← g15] at Ax15 Dx15 Ux15 st15
      have Fc16 : Arr Z T13.heap ca cc (.object "java/lang/Integer") := (own_Arr_keep (A1.ext Ex10) p13_0 (ninS ne11 nin0))
      have ne17 : ca ≠ ob15 := Nat.ne_of_lt (Nat.lt_of_lt_of_le Fc16.lt (Nat.le_of_eq g15.symm))
      have ne18 : ob10 ≠ ob15 := Nat.ne_of_lt (Nat.lt_of_lt_of_le p13_1.lt (Nat.le_of_eq g15.symm))
      have Z15 : n0 ≤ h15.size := Nat.le_trans Z13 Ex15.1
      have ge15 : n0 ≤ ob15 := Nat.le_trans Z13 (Nat.le_of_eq g15.symm)
      have Fn15_15 : Fld Z h15 ob15 "com/example/allsome/allsome/cypher/InputPosition" "line" "I" (.int 0) := Dx15 (Or.inr (wd hw 15 rfl)) (ty := .int) (by decide)
      have Fn15_17 : Fld Z h15 ob15 "com/example/allsome/allsome/cypher/InputPosition" "column" "I" (.int 0) := Dx15 (Or.inr (wd hw 17 rfl)) (ty := .int) (by decide)
      refine own_lift st15 ?_
      show own_Go p.tables e below (T15.setTop (mkF m 64 #[iv p0, iv p1, iv p2, iv p3, iv p4, iv (own_pos p0), iv (own_pos p1), iv (own_sel p4 1 p2 p0), iv (own_sel p4 2 p3 p1), rv ob10, .unset, .unset, .unset] [(.ref ob15)])) _
      have sg19 : ∀ t, Steps p.tables e below (T15.setTop (mkF m 69 #[iv p0, iv p1, iv p2, iv p3, iv p4, iv (own_pos p0), iv (own_pos p1), iv (own_sel p4 1 p2 p0), iv (own_sel p4 2 p3 p1), rv ob10, .unset, .unset, .unset] [(.int (own_sel p4 2 p3 p1)), (.int (own_sel p4 1 p2 p0)), (.ref ob15), (.ref ob15)])) t → Steps p.tables e below (T15.setTop (mkF m 64 #[iv p0, iv p1, iv p2, iv p3, iv p4, iv (own_pos p0), iv (own_pos p1), iv (own_sel p4 1 p2 p0), iv (own_sel p4 2 p3 p1), rv ob10, .unset, .unset, .unset] [(.ref ob15)])) t := by
        intro t k
        refine XS.dup X15.here hx rfl (hb hby at_64) rfl rfl ?_
        show Steps p.tables e below (T15.setTop (mkF m 65 #[iv p0, iv p1, iv p2, iv p3, iv p4, iv (own_pos p0), iv (own_pos p1), iv (own_sel p4 1 p2 p0), iv (own_sel p4 2 p3 p1), rv ob10, .unset, .unset, .unset] [(.ref ob15), (.ref ob15)])) _
        refine XS.iload X15.here hx rfl (hb hby at_65) rfl ?_
        show Steps p.tables e below (T15.setTop (mkF m 67 #[iv p0, iv p1, iv p2, iv p3, iv p4, iv (own_pos p0), iv (own_pos p1), iv (own_sel p4 1 p2 p0), iv (own_sel p4 2 p3 p1), rv ob10, .unset, .unset, .unset] [(.int (own_sel p4 1 p2 p0)), (.ref ob15), (.ref ob15)])) _
        refine XS.iload X15.here hx rfl (hb hby at_67) rfl ?_
        show Steps p.tables e below (T15.setTop (mkF m 69 #[iv p0, iv p1, iv p2, iv p3, iv p4, iv (own_pos p0), iv (own_pos p1), iv (own_sel p4 1 p2 p0), iv (own_sel p4 2 p3 p1), rv ob10, .unset, .unset, .unset] [(.int (own_sel p4 2 p3 p1)), (.int (own_sel p4 1 p2 p0)), (.ref ob15), (.ref ob15)])) _
        exact k
      refine own_lift sg19 ?_
      show own_Go p.tables e below (T15.setTop (mkF m 69 #[iv p0, iv p1, iv p2, iv p3, iv p4, iv (own_pos p0), iv (own_pos p1), iv (own_sel p4 1 p2 p0), iv (own_sel p4 2 p3 p1), rv ob10, .unset, .unset, .unset] [(.int (own_sel p4 2 p3 p1)), (.int (own_sel p4 1 p2 p0)), (.ref ob15), (.ref ob15)])) _
      obtain ⟨_, _, ⟨T20, Lx20, kx20, nx20⟩, -, X20, ⟨Lc20, hQ20, lx20, yx20, zx20⟩, st20⟩ := X15.specialBack hx (y := (⟨"com/example/allsome/allsome/cypher/InputPosition", "<init>", "(II)V"⟩ : MethodName)) rfl hown (mvT hZ (wd hw 8 rfl)) (mvT hZ (wd hw 9 rfl)) (mvT hZ (wd hw 10 rfl)) (by decide) (backOf (W := 1) (rmInit l Z a0 hw [] ob15 (own_sel p4 1 p2 p0) (own_sel p4 2 p3 p1) h15 n0 Z15 Fn15_15 Fn15_17 Ax15 ge15 (own_sel_ge _ _ _ _) (own_sel_ge _ _ _ _)) hZ (wd hw 10 rfl) (wd hw 7 rfl) (by decide) (by decide)) (g := (mkF m 69 #[iv p0, iv p1, iv p2, iv p3, iv p4, iv (own_pos p0), iv (own_pos p1), iv (own_sel p4 1 p2 p0), iv (own_sel p4 2 p3 p1), rv ob10, .unset, .unset, .unset] [(.int (own_sel p4 2 p3 p1)), (.int (own_sel p4 1 p2 p0)), (.ref ob15), (.ref ob15)])) rfl (by rw [hml]; rfl) (Steps.refl _) (a := ob15) (argsL := [(.int (own_sel p4 1 p2 p0)), (.int (own_sel p4 2 p3 p1))]) (rest := [(.ref ob15)]) (lenOf pd_3 rfl) rfl (by show 2 * 0 + _ ≤ _; exact Nat.le_of_eq rfl) (hb hby at_69) (fun _ _ => ⟨rfl, e15, (by decide : 2 + 0 ≤ _), (by decide : 4 + 0 ≤ _)⟩)
      dsimp only [Pt.U, Pt.locs, Pt.cells, Pt.slots] at X20 lx20 yx20 zx20 st20 hQ20
      subst lx20 yx20 zx20
      obtain ⟨rfl, N20q, p20_0, p20_1, p20_2, p20_3⟩ := hQ20
      have N20 := Fr.app N13 N20q
      have Z20 : n0 ≤ T20.heap.size := Nat.le_trans Z15 p20_0.1
      refine own_lift (fun t k => st20.trans k) ?_
      show own_Go p.tables e below (T20.setTop (mkF m 72 #[iv p0, iv p1, iv p2, iv p3, iv p4, iv (own_pos p0), iv (own_pos p1), iv (own_sel p4 1 p2 p0), iv (own_sel p4 2 p3 p1), rv ob10, .unset, .unset, .unset] [(.ref ob15)])) _
      have sg21 : ∀ t, Steps p.tables e below (T20.setTop (mkF m 148 #[iv p0, iv p1, iv p2, iv p3, iv p4, iv (own_pos p0), iv (own_pos p1), iv (own_sel p4 1 p2 p0), iv (own_sel p4 2 p3 p1), rv ob10, rv ob15, iv (((p4.toUInt32 >>> ((2 : Int32) &&& 31).toUInt32).toInt32) &&& (3 : Int32)), .unset] [(.ref ob10), (.ref ob10)])) t → Steps p.tables e below (T20.setTop (mkF m 72 #[iv p0, iv p1, iv p2, iv p3, iv p4, iv (own_pos p0), iv (own_pos p1), iv (own_sel p4 1 p2 p0), iv (own_sel p4 2 p3 p1), rv ob10, .unset, .unset, .unset] [(.ref ob15)])) t := by
        intro t k
        refine XS.astore X20.here hx rfl (hb hby at_72) rfl rfl (l' := #[iv p0, iv p1, iv p2, iv p3, iv p4, iv (own_pos p0), iv (own_pos p1), iv (own_sel p4 1 p2 p0), iv (own_sel p4 2 p3 p1), rv ob10, rv ob15, .unset, .unset]) rfl ?_
        show Steps p.tables e below (T20.setTop (mkF m 74 #[iv p0, iv p1, iv p2, iv p3, iv p4, iv (own_pos p0), iv (own_pos p1), iv (own_sel p4 1 p2 p0), iv (own_sel p4 2 p3 p1), rv ob10, rv ob15, .unset, .unset] [])) _
        refine XS.iload X20.here hx rfl (hb hby at_74) rfl ?_
        show Steps p.tables e below (T20.setTop (mkF m 76 #[iv p0, iv p1, iv p2, iv p3, iv p4, iv (own_pos p0), iv (own_pos p1), iv (own_sel p4 1 p2 p0), iv (own_sel p4 2 p3 p1), rv ob10, rv ob15, .unset, .unset] [(.int p4)])) _
        refine XS.iconst X20.here hx rfl (hb hby at_76) ?_
        show Steps p.tables e below (T20.setTop (mkF m 77 #[iv p0, iv p1, iv p2, iv p3, iv p4, iv (own_pos p0), iv (own_pos p1), iv (own_sel p4 1 p2 p0), iv (own_sel p4 2 p3 p1), rv ob10, rv ob15, .unset, .unset] [(.int 2), (.int p4)])) _
        refine XS.iushr X20.here hx rfl (hb hby at_77) rfl ?_
        show Steps p.tables e below (T20.setTop (mkF m 78 #[iv p0, iv p1, iv p2, iv p3, iv p4, iv (own_pos p0), iv (own_pos p1), iv (own_sel p4 1 p2 p0), iv (own_sel p4 2 p3 p1), rv ob10, rv ob15, .unset, .unset] [(.int ((p4.toUInt32 >>> ((2 : Int32) &&& 31).toUInt32).toInt32))])) _
        refine XS.iconst X20.here hx rfl (hb hby at_78) ?_
        show Steps p.tables e below (T20.setTop (mkF m 79 #[iv p0, iv p1, iv p2, iv p3, iv p4, iv (own_pos p0), iv (own_pos p1), iv (own_sel p4 1 p2 p0), iv (own_sel p4 2 p3 p1), rv ob10, rv ob15, .unset, .unset] [(.int 3), (.int ((p4.toUInt32 >>> ((2 : Int32) &&& 31).toUInt32).toInt32))])) _
        refine XS.iand X20.here hx rfl (hb hby at_79) rfl ?_
        show Steps p.tables e below (T20.setTop (mkF m 80 #[iv p0, iv p1, iv p2, iv p3, iv p4, iv (own_pos p0), iv (own_pos p1), iv (own_sel p4 1 p2 p0), iv (own_sel p4 2 p3 p1), rv ob10, rv ob15, .unset, .unset] [(.int (((p4.toUInt32 >>> ((2 : Int32) &&& 31).toUInt32).toInt32) &&& (3 : Int32)))])) _
        refine XS.istore X20.here hx rfl (hb hby at_80) rfl (l' := #[iv p0, iv p1, iv p2, iv p3, iv p4, iv (own_pos p0), iv (own_pos p1), iv (own_sel p4 1 p2 p0), iv (own_sel p4 2 p3 p1), rv ob10, rv ob15, iv (((p4.toUInt32 >>> ((2 : Int32) &&& 31).toUInt32).toInt32) &&& (3 : Int32)), .unset]) rfl ?_
        show Steps p.tables e below (T20.setTop (mkF m 82 #[iv p0, iv p1, iv p2, iv p3, iv p4, iv (own_pos p0), iv (own_pos p1), iv (own_sel p4 1 p2 p0), iv (own_sel p4 2 p3 p1), rv ob10, rv ob15, iv (((p4.toUInt32 >>> ((2 : Int32) &&& 31).toUInt32).toInt32) &&& (3 : Int32)), .unset] [])) _
        refine XS.iload X20.here hx rfl (hb hby at_82) rfl ?_
        show Steps p.tables e below (T20.setTop (mkF m 84 #[iv p0, iv p1, iv p2, iv p3, iv p4, iv (own_pos p0), iv (own_pos p1), iv (own_sel p4 1 p2 p0), iv (own_sel p4 2 p3 p1), rv ob10, rv ob15, iv (((p4.toUInt32 >>> ((2 : Int32) &&& 31).toUInt32).toInt32) &&& (3 : Int32)), .unset] [(.int (((p4.toUInt32 >>> ((2 : Int32) &&& 31).toUInt32).toInt32) &&& (3 : Int32)))])) _
        refine XS.ifYes X20.here hx rfl (pc0 := 84) (pc' := 138) rfl (hb hby at_84) rfl ((if0 _ _).trans (feq k0).2) (by decide) (by decide) ?_
        show Steps p.tables e below (T20.setTop (mkF m 138 #[iv p0, iv p1, iv p2, iv p3, iv p4, iv (own_pos p0), iv (own_pos p1), iv (own_sel p4 1 p2 p0), iv (own_sel p4 2 p3 p1), rv ob10, rv ob15, iv (((p4.toUInt32 >>> ((2 : Int32) &&& 31).toUInt32).toInt32) &&& (3 : Int32)), .unset] [])) _
        refine XS.iload X20.here hx rfl (hb hby at_138) rfl ?_
        show Steps p.tables e below (T20.setTop (mkF m 140 #[iv p0, iv p1, iv p2, iv p3, iv p4, iv (own_pos p0), iv (own_pos p1), iv (own_sel p4 1 p2 p0), iv (own_sel p4 2 p3 p1), rv ob10, rv ob15, iv (((p4.toUInt32 >>> ((2 : Int32) &&& 31).toUInt32).toInt32) &&& (3 : Int32)), .unset] [(.int (((p4.toUInt32 >>> ((2 : Int32) &&& 31).toUInt32).toInt32) &&& (3 : Int32)))])) _
        refine XS.iconst X20.here hx rfl (hb hby at_140) ?_
        show Steps p.tables e below (T20.setTop (mkF m 141 #[iv p0, iv p1, iv p2, iv p3, iv p4, iv (own_pos p0), iv (own_pos p1), iv (own_sel p4 1 p2 p0), iv (own_sel p4 2 p3 p1), rv ob10, rv ob15, iv (((p4.toUInt32 >>> ((2 : Int32) &&& 31).toUInt32).toInt32) &&& (3 : Int32)), .unset] [(.int 1), (.int (((p4.toUInt32 >>> ((2 : Int32) &&& 31).toUInt32).toInt32) &&& (3 : Int32)))])) _
        refine XS.icmpNo X20.here hx rfl (hb hby at_141) rfl (teq k1).2 ?_
        show Steps p.tables e below (T20.setTop (mkF m 144 #[iv p0, iv p1, iv p2, iv p3, iv p4, iv (own_pos p0), iv (own_pos p1), iv (own_sel p4 1 p2 p0), iv (own_sel p4 2 p3 p1), rv ob10, rv ob15, iv (((p4.toUInt32 >>> ((2 : Int32) &&& 31).toUInt32).toInt32) &&& (3 : Int32)), .unset] [])) _
        refine XS.aload X20.here hx rfl (hb hby at_144) rfl rfl ?_
        show Steps p.tables e below (T20.setTop (mkF m 146 #[iv p0, iv p1, iv p2, iv p3, iv p4, iv (own_pos p0), iv (own_pos p1), iv (own_sel p4 1 p2 p0), iv (own_sel p4 2 p3 p1), rv ob10, rv ob15, iv (((p4.toUInt32 >>> ((2 : Int32) &&& 31).toUInt32).toInt32) &&& (3 : Int32)), .unset] [(.ref ob10)])) _
        refine XS.aload X20.here hx rfl (hb hby at_146) rfl rfl ?_
        show Steps p.tables e below (T20.setTop (mkF m 148 #[iv p0, iv p1, iv p2, iv p3, iv p4, iv (own_pos p0), iv (own_pos p1), iv (own_sel p4 1 p2 p0), iv (own_sel p4 2 p3 p1), rv ob10, rv ob15, iv (((p4.toUInt32 >>> ((2 : Int32) &&& 31).toUInt32).toInt32) &&& (3 : Int32)), .unset] [(.ref ob10), (.ref ob10)])) _
        exact k
      refine own_lift sg21 ?_
      show own_Go p.tables e below (T20.setTop (mkF m 148 #[iv p0, iv p1, iv p2, iv p3, iv p4, iv (own_pos p0), iv (own_pos p1), iv (own_sel p4 1 p2 p0), iv (own_sel p4 2 p3 p1), rv ob10, rv ob15, iv (((p4.toUInt32 >>> ((2 : Int32) &&& 31).toUInt32).toInt32) &&& (3 : Int32)), .unset] [(.ref ob10), (.ref ob10)])) _
      have Fc22 : Fld Z T20.heap ob10 "com/example/allsome/allsome/cypher/InputPosition" "line" "I" (.int (own_pos p0)) := ((p13_2.ext Ex15).keep p20_0 (ninS ne18 nin0))
      have Fc23 : Fld Z T20.heap ob10 "com/example/allsome/allsome/cypher/InputPosition" "column" "I" (.int (own_pos p1)) := ((p13_3.ext Ex15).keep p20_0 (ninS ne18 nin0))
      have Fc24 : Exa Z T20.heap ob10 "com/example/allsome/allsome/cypher/InputPosition" := ((p13_1.ext Ex15).keep p20_0)
      obtain ⟨cq25, kq25, q25a, q25b, q25c⟩ := isOf hZ rfl Fc24
      obtain ⟨_, _, ⟨T25, Lx25, kx25, nx25⟩, -, X25, ⟨Lc25, hQ25, lx25, yx25, zx25⟩, st25⟩ := X20.virtualBack hx (y := (⟨"com/example/allsome/allsome/cypher/InputPosition", "equals", "(Ljava/lang/Object;)Z"⟩ : MethodName)) (z := (⟨"com/example/allsome/allsome/cypher/InputPosition", "equals", "(Ljava/lang/Object;)Z"⟩ : MethodName)) hown (mvT hZ (wd hw 18 rfl)) (mvT hZ (wd hw 19 rfl)) (notFace_of_selects (args := #[]) (mvT hZ (wd hw 21 rfl))) (mvT hZ (wd hw 21 rfl)) (mvT hZ (wd hw 20 rfl)) (by decide) (backOf (W := 0) (rmEqY l Z a0 hw [] ob10 ob10 (own_pos p0) (own_pos p1) (own_pos p0) (own_pos p1) T20.heap n0 Z20 Fc22 Fc23 Fc22 Fc23 Fc24 (rfl : (own_pos p0) = (own_pos p0)) (rfl : (own_pos p1) = (own_pos p1))) hZ (wd hw 22 rfl) (wd hw 7 rfl) (by decide) (by decide)) q25a q25c (g := (mkF m 148 #[iv p0, iv p1, iv p2, iv p3, iv p4, iv (own_pos p0), iv (own_pos p1), iv (own_sel p4 1 p2 p0), iv (own_sel p4 2 p3 p1), rv ob10, rv ob15, iv (((p4.toUInt32 >>> ((2 : Int32) &&& 31).toUInt32).toInt32) &&& (3 : Int32)), .unset] [(.ref ob10), (.ref ob10)])) rfl (by rw [hml]; rfl) (Steps.refl _) (argsL := [(.ref ob10)]) (rest := []) (lenOf pd_4 rfl) rfl (by show 2 * 0 + _ ≤ _; exact Nat.le_of_eq rfl) (hb hby at_148) (fun _ _ => ⟨rfl, rfl, (by decide : 2 + 0 ≤ _), (by decide : 4 + 0 ≤ _)⟩)
      dsimp only [Pt.U, Pt.locs, Pt.cells, Pt.slots] at X25 lx25 yx25 zx25 st25 hQ25
      subst lx25 yx25 zx25
      obtain ⟨rfl, N25q, e25⟩ := hQ25
      have N25 := Fr.app N20 N25q
      refine own_lift (fun t k => st25.trans k) ?_
      show own_Go p.tables e below (T25.setTop (mkF m 151 #[iv p0, iv p1, iv p2, iv p3, iv p4, iv (own_pos p0), iv (own_pos p1), iv (own_sel p4 1 p2 p0), iv (own_sel p4 2 p3 p1), rv ob10, rv ob15, iv (((p4.toUInt32 >>> ((2 : Int32) &&& 31).toUInt32).toInt32) &&& (3 : Int32)), .unset] [(.int 1)])) _
      obtain ⟨fs, hr, hrun, hended, hW, hsame⟩ := X25.leave (v := some (.int 1)) (fun h => by rw [Bd.returns] at h; cases h)
      refine ⟨_, _, ?_, hrun, hended, _, _, rfl, ?_, ⟨_, rfl⟩, hW, hsame.mono (by decide) (by decide)⟩
      · exact retN X25 hx (t := .boolean) Bd.returns (by simp) (hb hby at_151) hr
      · show Q0 Z  h0 n0 _ T25.heap _
        rw [e25]
        exact ⟨rfl, N25⟩
    by_cases b2 : (p4 &&& (2 : Int32)) = (0 : Int32)
    · have sg26 : ∀ t, Steps p.tables e below (T6.setTop (mkF m 43 #[iv p0, iv p1, iv p2, iv p3, iv p4, iv (own_pos p0), iv (own_pos p1), iv (own_sel p4 1 p2 p0), .unset, .unset, .unset, .unset, .unset] [(.int p3)])) t → Steps p.tables e below (T6.setTop (mkF m 30 #[iv p0, iv p1, iv p2, iv p3, iv p4, iv (own_pos p0), iv (own_pos p1), iv (own_sel p4 1 p2 p0), .unset, .unset, .unset, .unset, .unset] [])) t := by
        intro t k
        refine XS.iload X6.here hx rfl (hb hby at_30) rfl ?_
        show Steps p.tables e below (T6.setTop (mkF m 32 #[iv p0, iv p1, iv p2, iv p3, iv p4, iv (own_pos p0), iv (own_pos p1), iv (own_sel p4 1 p2 p0), .unset, .unset, .unset, .unset, .unset] [(.int p4)])) _
        refine XS.iconst X6.here hx rfl (hb hby at_32) ?_
        show Steps p.tables e below (T6.setTop (mkF m 33 #[iv p0, iv p1, iv p2, iv p3, iv p4, iv (own_pos p0), iv (own_pos p1), iv (own_sel p4 1 p2 p0), .unset, .unset, .unset, .unset, .unset] [(.int 2), (.int p4)])) _
        refine XS.iand X6.here hx rfl (hb hby at_33) rfl ?_
        show Steps p.tables e below (T6.setTop (mkF m 34 #[iv p0, iv p1, iv p2, iv p3, iv p4, iv (own_pos p0), iv (own_pos p1), iv (own_sel p4 1 p2 p0), .unset, .unset, .unset, .unset, .unset] [(.int (p4 &&& (2 : Int32)))])) _
        refine XS.ifYes X6.here hx rfl (pc0 := 34) (pc' := 42) rfl (hb hby at_34) rfl ((if0 _ _).trans (teq b2).1) (by decide) (by decide) ?_
        show Steps p.tables e below (T6.setTop (mkF m 42 #[iv p0, iv p1, iv p2, iv p3, iv p4, iv (own_pos p0), iv (own_pos p1), iv (own_sel p4 1 p2 p0), .unset, .unset, .unset, .unset, .unset] [])) _
        refine XS.iloadN X6.here hx rfl (hb hby at_42) rfl ?_
        show Steps p.tables e below (T6.setTop (mkF m 43 #[iv p0, iv p1, iv p2, iv p3, iv p4, iv (own_pos p0), iv (own_pos p1), iv (own_sel p4 1 p2 p0), .unset, .unset, .unset, .unset, .unset] [(.int p3)])) _
        exact k
      refine own_lift sg26 ?_
      show own_Go p.tables e below (T6.setTop (mkF m 43 #[iv p0, iv p1, iv p2, iv p3, iv p4, iv (own_pos p0), iv (own_pos p1), iv (own_sel p4 1 p2 p0), .unset, .unset, .unset, .unset, .unset] [(.int p3)])) _
      obtain ⟨_, _, ⟨T27, Lx27, kx27, nx27⟩, -, X27, ⟨Lc27, hQ27, lx27, yx27, zx27⟩, st27⟩ := Jvm.LawKit.callS X6 hx (y := (⟨"com/example/allsome/allsome/cypher/InputPositionEqualsPinLaw", "pos", "(I)I"⟩ : MethodName)) hown (mvT hZ (wd hw 0 rfl)) (mvT hZ (wd hw 1 rfl)) (mvT hZ (wd hw 2 rfl)) (mvT hZ (wd hw 3 rfl)) (by decide) (backOf (W := 0) (rmPos l Z a0 hw [] p3 h0 n0 Z0 ) hZ (wd hw 3 rfl) (wd hw 2 rfl) (by decide) (by decide)) (g := (mkF m 43 #[iv p0, iv p1, iv p2, iv p3, iv p4, iv (own_pos p0), iv (own_pos p1), iv (own_sel p4 1 p2 p0), .unset, .unset, .unset, .unset, .unset] [(.int p3)])) rfl (by rw [hml]; rfl) (argsL := [(.int p3)]) (rest := []) (lenOf pd_2 rfl) rfl (by show 2 * 0 + _ ≤ _; exact Nat.le_of_eq rfl) (hb hby at_43) (fun _ _ => ⟨rfl, e6, (by decide : 0 + 0 ≤ _), (by decide : 0 + 0 ≤ _)⟩)
      dsimp only [Pt.U, Pt.locs, Pt.cells, Pt.slots] at X27 lx27 yx27 zx27 st27 hQ27
      subst lx27 yx27 zx27
      obtain ⟨rfl, N27q, e27⟩ := hQ27
      have N27 := Fr.app N6 N27q
      refine own_lift st27 ?_
      show own_Go p.tables e below (T27.setTop (mkF m 46 #[iv p0, iv p1, iv p2, iv p3, iv p4, iv (own_pos p0), iv (own_pos p1), iv (own_sel p4 1 p2 p0), .unset, .unset, .unset, .unset, .unset] [(.int (own_pos p3))])) _
      rw [show (own_sel p4 2 p3 p1) = (own_pos p3) from if_pos b2] at join8
      exact join8 _ _ X27 e27 N27
    · have sg28 : ∀ t, Steps p.tables e below (T6.setTop (mkF m 46 #[iv p0, iv p1, iv p2, iv p3, iv p4, iv (own_pos p0), iv (own_pos p1), iv (own_sel p4 1 p2 p0), .unset, .unset, .unset, .unset, .unset] [(.int (own_pos p1))])) t → Steps p.tables e below (T6.setTop (mkF m 30 #[iv p0, iv p1, iv p2, iv p3, iv p4, iv (own_pos p0), iv (own_pos p1), iv (own_sel p4 1 p2 p0), .unset, .unset, .unset, .unset, .unset] [])) t := by
        intro t k
        refine XS.iload X6.here hx rfl (hb hby at_30) rfl ?_
        show Steps p.tables e below (T6.setTop (mkF m 32 #[iv p0, iv p1, iv p2, iv p3, iv p4, iv (own_pos p0), iv (own_pos p1), iv (own_sel p4 1 p2 p0), .unset, .unset, .unset, .unset, .unset] [(.int p4)])) _
        refine XS.iconst X6.here hx rfl (hb hby at_32) ?_
        show Steps p.tables e below (T6.setTop (mkF m 33 #[iv p0, iv p1, iv p2, iv p3, iv p4, iv (own_pos p0), iv (own_pos p1), iv (own_sel p4 1 p2 p0), .unset, .unset, .unset, .unset, .unset] [(.int 2), (.int p4)])) _
        refine XS.iand X6.here hx rfl (hb hby at_33) rfl ?_
        show Steps p.tables e below (T6.setTop (mkF m 34 #[iv p0, iv p1, iv p2, iv p3, iv p4, iv (own_pos p0), iv (own_pos p1), iv (own_sel p4 1 p2 p0), .unset, .unset, .unset, .unset, .unset] [(.int (p4 &&& (2 : Int32)))])) _
        refine XS.ifNo X6.here hx rfl (hb hby at_34) rfl ((if0 _ _).trans (feq b2).1) ?_
        show Steps p.tables e below (T6.setTop (mkF m 37 #[iv p0, iv p1, iv p2, iv p3, iv p4, iv (own_pos p0), iv (own_pos p1), iv (own_sel p4 1 p2 p0), .unset, .unset, .unset, .unset, .unset] [])) _
        refine XS.iload X6.here hx rfl (hb hby at_37) rfl ?_
        show Steps p.tables e below (T6.setTop (mkF m 39 #[iv p0, iv p1, iv p2, iv p3, iv p4, iv (own_pos p0), iv (own_pos p1), iv (own_sel p4 1 p2 p0), .unset, .unset, .unset, .unset, .unset] [(.int (own_pos p1))])) _
        refine XS.goto X6.here hx rfl (pc0 := 39) (pc' := 46) rfl (hb hby at_39) (by decide) (by decide) ?_
        show Steps p.tables e below (T6.setTop (mkF m 46 #[iv p0, iv p1, iv p2, iv p3, iv p4, iv (own_pos p0), iv (own_pos p1), iv (own_sel p4 1 p2 p0), .unset, .unset, .unset, .unset, .unset] [(.int (own_pos p1))])) _
        exact k
      refine own_lift sg28 ?_
      show own_Go p.tables e below (T6.setTop (mkF m 46 #[iv p0, iv p1, iv p2, iv p3, iv p4, iv (own_pos p0), iv (own_pos p1), iv (own_sel p4 1 p2 p0), .unset, .unset, .unset, .unset, .unset] [(.int (own_pos p1))])) _
      rw [show (own_sel p4 2 p3 p1) = (own_pos p1) from if_neg b2] at join8
      exact join8 _ _ X6 e6 N6
  by_cases b1 : (p4 &&& (1 : Int32)) = (0 : Int32)
  · have sg29 : ∀ t, Steps p.tables e below (T4.setTop (mkF m 25 #[iv p0, iv p1, iv p2, iv p3, iv p4, iv (own_pos p0), iv (own_pos p1), .unset, .unset, .unset, .unset, .unset, .unset] [(.int p2)])) t → Steps p.tables e below (T4.setTop (mkF m 12 #[iv p0, iv p1, iv p2, iv p3, iv p4, iv (own_pos p0), iv (own_pos p1), .unset, .unset, .unset, .unset, .unset, .unset] [])) t := by
      intro t k
      refine XS.iload X4.here hx rfl (hb hby at_12) rfl ?_
      show Steps p.tables e below (T4.setTop (mkF m 14 #[iv p0, iv p1, iv p2, iv p3, iv p4, iv (own_pos p0), iv (own_pos p1), .unset, .unset, .unset, .unset, .unset, .unset] [(.int p4)])) _
      refine XS.iconst X4.here hx rfl (hb hby at_14) ?_
      show Steps p.tables e below (T4.setTop (mkF m 15 #[iv p0, iv p1, iv p2, iv p3, iv p4, iv (own_pos p0), iv (own_pos p1), .unset, .unset, .unset, .unset, .unset, .unset] [(.int 1), (.int p4)])) _
      refine XS.iand X4.here hx rfl (hb hby at_15) rfl ?_
      show Steps p.tables e below (T4.setTop (mkF m 16 #[iv p0, iv p1, iv p2, iv p3, iv p4, iv (own_pos p0), iv (own_pos p1), .unset, .unset, .unset, .unset, .unset, .unset] [(.int (p4 &&& (1 : Int32)))])) _
      refine XS.ifYes X4.here hx rfl (pc0 := 16) (pc' := 24) rfl (hb hby at_16) rfl ((if0 _ _).trans (teq b1).1) (by decide) (by decide) ?_
      show Steps p.tables e below (T4.setTop (mkF m 24 #[iv p0, iv p1, iv p2, iv p3, iv p4, iv (own_pos p0), iv (own_pos p1), .unset, .unset, .unset, .unset, .unset, .unset] [])) _
      refine XS.iloadN X4.here hx rfl (hb hby at_24) rfl ?_
      show Steps p.tables e below (T4.setTop (mkF m 25 #[iv p0, iv p1, iv p2, iv p3, iv p4, iv (own_pos p0), iv (own_pos p1), .unset, .unset, .unset, .unset, .unset, .unset] [(.int p2)])) _
      exact k
    refine own_lift sg29 ?_
    show own_Go p.tables e below (T4.setTop (mkF m 25 #[iv p0, iv p1, iv p2, iv p3, iv p4, iv (own_pos p0), iv (own_pos p1), .unset, .unset, .unset, .unset, .unset, .unset] [(.int p2)])) _
    obtain ⟨_, _, ⟨T30, Lx30, kx30, nx30⟩, -, X30, ⟨Lc30, hQ30, lx30, yx30, zx30⟩, st30⟩ := Jvm.LawKit.callS X4 hx (y := (⟨"com/example/allsome/allsome/cypher/InputPositionEqualsPinLaw", "pos", "(I)I"⟩ : MethodName)) hown (mvT hZ (wd hw 0 rfl)) (mvT hZ (wd hw 1 rfl)) (mvT hZ (wd hw 2 rfl)) (mvT hZ (wd hw 3 rfl)) (by decide) (backOf (W := 0) (rmPos l Z a0 hw [] p2 h0 n0 Z0 ) hZ (wd hw 3 rfl) (wd hw 2 rfl) (by decide) (by decide)) (g := (mkF m 25 #[iv p0, iv p1, iv p2, iv p3, iv p4, iv (own_pos p0), iv (own_pos p1), .unset, .unset, .unset, .unset, .unset, .unset] [(.int p2)])) rfl (by rw [hml]; rfl) (argsL := [(.int p2)]) (rest := []) (lenOf pd_2 rfl) rfl (by show 2 * 0 + _ ≤ _; exact Nat.le_of_eq rfl) (hb hby at_25) (fun _ _ => ⟨rfl, e4, (by decide : 0 + 0 ≤ _), (by decide : 0 + 0 ≤ _)⟩)
    dsimp only [Pt.U, Pt.locs, Pt.cells, Pt.slots] at X30 lx30 yx30 zx30 st30 hQ30
    subst lx30 yx30 zx30
    obtain ⟨rfl, N30q, e30⟩ := hQ30
    have N30 := Fr.app N4 N30q
    refine own_lift st30 ?_
    show own_Go p.tables e below (T30.setTop (mkF m 28 #[iv p0, iv p1, iv p2, iv p3, iv p4, iv (own_pos p0), iv (own_pos p1), .unset, .unset, .unset, .unset, .unset, .unset] [(.int (own_pos p2))])) _
    rw [show (own_sel p4 1 p2 p0) = (own_pos p2) from if_pos b1] at join6
    exact join6 _ _ X30 e30 N30
  · have sg31 : ∀ t, Steps p.tables e below (T4.setTop (mkF m 28 #[iv p0, iv p1, iv p2, iv p3, iv p4, iv (own_pos p0), iv (own_pos p1), .unset, .unset, .unset, .unset, .unset, .unset] [(.int (own_pos p0))])) t → Steps p.tables e below (T4.setTop (mkF m 12 #[iv p0, iv p1, iv p2, iv p3, iv p4, iv (own_pos p0), iv (own_pos p1), .unset, .unset, .unset, .unset, .unset, .unset] [])) t := by
      intro t k
      refine XS.iload X4.here hx rfl (hb hby at_12) rfl ?_
      show Steps p.tables e below (T4.setTop (mkF m 14 #[iv p0, iv p1, iv p2, iv p3, iv p4, iv (own_pos p0), iv (own_pos p1), .unset, .unset, .unset, .unset, .unset, .unset] [(.int p4)])) _
      refine XS.iconst X4.here hx rfl (hb hby at_14) ?_
      show Steps p.tables e below (T4.setTop (mkF m 15 #[iv p0, iv p1, iv p2, iv p3, iv p4, iv (own_pos p0), iv (own_pos p1), .unset, .unset, .unset, .unset, .unset, .unset] [(.int 1), (.int p4)])) _
      refine XS.iand X4.here hx rfl (hb hby at_15) rfl ?_
      show Steps p.tables e below (T4.setTop (mkF m 16 #[iv p0, iv p1, iv p2, iv p3, iv p4, iv (own_pos p0), iv (own_pos p1), .unset, .unset, .unset, .unset, .unset, .unset] [(.int (p4 &&& (1 : Int32)))])) _
      refine XS.ifNo X4.here hx rfl (hb hby at_16) rfl ((if0 _ _).trans (feq b1).1) ?_
      show Steps p.tables e below (T4.setTop (mkF m 19 #[iv p0, iv p1, iv p2, iv p3, iv p4, iv (own_pos p0), iv (own_pos p1), .unset, .unset, .unset, .unset, .unset, .unset] [])) _
      refine XS.iload X4.here hx rfl (hb hby at_19) rfl ?_
      show Steps p.tables e below (T4.setTop (mkF m 21 #[iv p0, iv p1, iv p2, iv p3, iv p4, iv (own_pos p0), iv (own_pos p1), .unset, .unset, .unset, .unset, .unset, .unset] [(.int (own_pos p0))])) _
      refine XS.goto X4.here hx rfl (pc0 := 21) (pc' := 28) rfl (hb hby at_21) (by decide) (by decide) ?_
      show Steps p.tables e below (T4.setTop (mkF m 28 #[iv p0, iv p1, iv p2, iv p3, iv p4, iv (own_pos p0), iv (own_pos p1), .unset, .unset, .unset, .unset, .unset, .unset] [(.int (own_pos p0))])) _
      exact k
    refine own_lift sg31 ?_
    show own_Go p.tables e below (T4.setTop (mkF m 28 #[iv p0, iv p1, iv p2, iv p3, iv p4, iv (own_pos p0), iv (own_pos p1), .unset, .unset, .unset, .unset, .unset, .unset] [(.int (own_pos p0))])) _
    rw [show (own_sel p4 1 p2 p0) = (own_pos p0) from if_neg b1] at join6
    exact join6 _ _ X4 e4 N4
theorem ef_rm0_2 (m : MethodId) (x0 : Int32) (x1 : Int32) (x2 : Int32) (x3 : Int32) (x4 : Int32) : entryFrame m #[(.int x0), (.int x1), (.int x2), (.int x3), (.int x4)] maxLocals = mkF m 0 #[.val (.int x0), .val (.int x1), .val (.int x2), .val (.int x3), .val (.int x4), .unset, .unset, .unset, .unset, .unset, .unset, .unset, .unset] [] := by first | (simp [entryFrame, mkF, argsToLocals, Value.category, maxLocals]; done) | rfl
set_option maxRecDepth 65536 in
set_option maxHeartbeats 40000000 in
theorem rm0_2 (l : Launch) (Z : State) (a0 : Array Value) (hw : ∀ d ∈ tables_1, d.before a0 Z = true) (ws : List Jvm.Cond) (p0 : Int32) (p1 : Int32) (p2 : Int32) (p3 : Int32) (p4 : Int32) (ca : Addr) (cc : Cell) (h0 : Heap) (n0 : Nat) (Z0 : n0 ≤ h0.size) (S1 : Sta Z h0 "java/lang/Integer$IntegerCache" "high" "I" (.int 127)) (S2 : Sta Z h0 "java/lang/Integer$IntegerCache" "cache" "[Ljava/lang/Integer;" (.ref ca)) (A1 : Arr Z h0 ca cc (.object "java/lang/Integer")) (k0 : ¬ ((((p4.toUInt32 >>> ((2 : Int32) &&& 31).toUInt32).toInt32) &&& (3 : Int32)) = (0 : Int32))) (k1 : ¬ ((((p4.toUInt32 >>> ((2 : Int32) &&& 31).toUInt32).toInt32) &&& (3 : Int32)) = (1 : Int32))) (k2 : (((p4.toUInt32 >>> ((2 : Int32) &&& 31).toUInt32).toInt32) &&& (3 : Int32)) = (2 : Int32)) :
    MetFree l x (head1 (Jvm.Cond.code x code maxLocals ret :: ws) room_1) (fun a U => a = #[(.int p0), (.int p1), (.int p2), (.int p3), (.int p4)] ∧ Z.Warmed39 U.vm ∧ U.heap = h0) (fun _ _ _ _ _ => True) (fun _ U o U' => ∃ v L, o = .returned v ∧ Q0 Z  h0 n0 v U'.heap L ∧ FrameEnd U o U' L 16 128) := by
  refine MetFree.of_bodySF (plainFor_of_name pn_1) hisR ?_
  intro p e s m args below meth c s₁ Bd hml0 hP hK
  obtain ⟨rfl, hZ, hh⟩ := hP
  have hx := Bd.exec
  have hby := Bd.bytes
  have hml : c.maxLocals = 13 := hml0
  have hown : s.vm.findClass "com/example/allsome/allsome/cypher/InputPositionEqualsPinLaw" = some m.cls := findClass_of_methodNamed Bd.named
  have hnm := (name_of_methodNamed Bd.named Bd.method).1
  have X0 : Stand p l e room_1 s m #[(.int p0), (.int p1), (.int p2), (.int p3), (.int p4)] below meth c s₁ [] 0 0 := Stand.of_body Bd
  have e0 : s₁.heap = h0 := by rw [← hh, Bd.state]; rfl
  have N0 := Fr.nil n0
  refine own_go (own_lift (fun t k => castTop (ef_rm0_2 m p0 p1 p2 p3 p4) k) ?_)
  show own_Go p.tables e below (s₁.setTop (mkF m 0 #[iv p0, iv p1, iv p2, iv p3, iv p4, .unset, .unset, .unset, .unset, .unset, .unset, .unset, .unset] [])) _
  have sg1 : ∀ t, Steps p.tables e below (s₁.setTop (mkF m 1 #[iv p0, iv p1, iv p2, iv p3, iv p4, .unset, .unset, .unset, .unset, .unset, .unset, .unset, .unset] [(.int p0)])) t → Steps p.tables e below (s₁.setTop (mkF m 0 #[iv p0, iv p1, iv p2, iv p3, iv p4, .unset, .unset, .unset, .unset, .unset, .unset, .unset, .unset] [])) t := by
    intro t k
    refine XS.iloadN X0.here hx rfl (hb hby at_0) rfl ?_
    show Steps p.tables e below (s₁.setTop (mkF m 1 #[iv p0, iv p1, iv p2, iv p3, iv p4, .unset, .unset, .unset, .unset, .unset, .unset, .unset, .unset] [(.int p0)])) _
    exact k
  refine own_lift sg1 ?_
  show own_Go p.tables e below (s₁.setTop (mkF m 1 #[iv p0, iv p1, iv p2, iv p3, iv p4, .unset, .unset, .unset, .unset, .unset, .unset, .unset, .unset] [(.int p0)])) _
  obtain ⟨_, _, ⟨T2, Lx2, kx2, nx2⟩, -, X2, ⟨Lc2, hQ2, lx2, yx2, zx2⟩, st2⟩ := Jvm.LawKit.callS X0 hx (y := (⟨"com/example/allsome/allsome/cypher/InputPositionEqualsPinLaw", "pos", "(I)I"⟩ : MethodName)) hown (mvT hZ (wd hw 0 rfl)) (mvT hZ (wd hw 1 rfl)) (mvT hZ (wd hw 2 rfl)) (mvT hZ (wd hw 3 rfl)) (by decide) (backOf (W := 0) (rmPos l Z a0 hw [] p0 h0 n0 Z0 ) hZ (wd hw 3 rfl) (wd hw 2 rfl) (by decide) (by decide)) (g := (mkF m 1 #[iv p0, iv p1, iv p2, iv p3, iv p4, .unset, .unset, .unset, .unset, .unset, .unset, .unset, .unset] [(.int p0)])) rfl (by rw [hml]; rfl) (argsL := [(.int p0)]) (rest := []) (lenOf pd_2 rfl) rfl (by show 2 * 0 + _ ≤ _; exact Nat.le_of_eq rfl) (hb hby at_1) (fun _ _ => ⟨rfl, e0, (by decide : 0 + 0 ≤ _), (by decide : 0 + 0 ≤ _)⟩)
  dsimp only [Pt.U, Pt.locs, Pt.cells, Pt.slots] at X2 lx2 yx2 zx2 st2 hQ2
  subst lx2 yx2 zx2
  obtain ⟨rfl, N2q, e2⟩ := hQ2
  have N2 := Fr.app N0 N2q
  refine own_lift st2 ?_
  show own_Go p.tables e below (T2.setTop (mkF m 4 #[iv p0, iv p1, iv p2, iv p3, iv p4, .unset, .unset, .unset, .unset, .unset, .unset, .unset, .unset] [(.int (own_pos p0))])) _
  have sg3 : ∀ t, Steps p.tables e below (T2.setTop (mkF m 7 #[iv p0, iv p1, iv p2, iv p3, iv p4, iv (own_pos p0), .unset, .unset, .unset, .unset, .unset, .unset, .unset] [(.int p1)])) t → Steps p.tables e below (T2.setTop (mkF m 4 #[iv p0, iv p1, iv p2, iv p3, iv p4, .unset, .unset, .unset, .unset, .unset, .unset, .unset, .unset] [(.int (own_pos p0))])) t := by
    intro t k
    refine XS.istore X2.here hx rfl (hb hby at_4) rfl (l' := #[iv p0, iv p1, iv p2, iv p3, iv p4, iv (own_pos p0), .unset, .unset, .unset, .unset, .unset, .unset, .unset]) rfl ?_
    show Steps p.tables e below (T2.setTop (mkF m 6 #[iv p0, iv p1, iv p2, iv p3, iv p4, iv (own_pos p0), .unset, .unset, .unset, .unset, .unset, .unset, .unset] [])) _
    refine XS.iloadN X2.here hx rfl (hb hby at_6) rfl ?_
    show Steps p.tables e below (T2.setTop (mkF m 7 #[iv p0, iv p1, iv p2, iv p3, iv p4, iv (own_pos p0), .unset, .unset, .unset, .unset, .unset, .unset, .unset] [(.int p1)])) _
    exact k
  refine own_lift sg3 ?_
  show own_Go p.tables e below (T2.setTop (mkF m 7 #[iv p0, iv p1, iv p2, iv p3, iv p4, iv (own_pos p0), .unset, .unset, .unset, .unset, .unset, .unset, .unset] [(.int p1)])) _
  obtain ⟨_, _, ⟨T4, Lx4, kx4, nx4⟩, -, X4, ⟨Lc4, hQ4, lx4, yx4, zx4⟩, st4⟩ := Jvm.LawKit.callS X2 hx (y := (⟨"com/example/allsome/allsome/cypher/InputPositionEqualsPinLaw", "pos", "(I)I"⟩ : MethodName)) hown (mvT hZ (wd hw 0 rfl)) (mvT hZ (wd hw 1 rfl)) (mvT hZ (wd hw 2 rfl)) (mvT hZ (wd hw 3 rfl)) (by decide) (backOf (W := 0) (rmPos l Z a0 hw [] p1 h0 n0 Z0 ) hZ (wd hw 3 rfl) (wd hw 2 rfl) (by decide) (by decide)) (g := (mkF m 7 #[iv p0, iv p1, iv p2, iv p3, iv p4, iv (own_pos p0), .unset, .unset, .unset, .unset, .unset, .unset, .unset] [(.int p1)])) rfl (by rw [hml]; rfl) (argsL := [(.int p1)]) (rest := []) (lenOf pd_2 rfl) rfl (by show 2 * 0 + _ ≤ _; exact Nat.le_of_eq rfl) (hb hby at_7) (fun _ _ => ⟨rfl, e2, (by decide : 0 + 0 ≤ _), (by decide : 0 + 0 ≤ _)⟩)
  dsimp only [Pt.U, Pt.locs, Pt.cells, Pt.slots] at X4 lx4 yx4 zx4 st4 hQ4
  subst lx4 yx4 zx4
  obtain ⟨rfl, N4q, e4⟩ := hQ4
  have N4 := Fr.app N2 N4q
  refine own_lift st4 ?_
  show own_Go p.tables e below (T4.setTop (mkF m 10 #[iv p0, iv p1, iv p2, iv p3, iv p4, iv (own_pos p0), .unset, .unset, .unset, .unset, .unset, .unset, .unset] [(.int (own_pos p1))])) _
  have sg5 : ∀ t, Steps p.tables e below (T4.setTop (mkF m 12 #[iv p0, iv p1, iv p2, iv p3, iv p4, iv (own_pos p0), iv (own_pos p1), .unset, .unset, .unset, .unset, .unset, .unset] [])) t → Steps p.tables e below (T4.setTop (mkF m 10 #[iv p0, iv p1, iv p2, iv p3, iv p4, iv (own_pos p0), .unset, .unset, .unset, .unset, .unset, .unset, .unset] [(.int (own_pos p1))])) t := by
    intro t k
    refine XS.istore X4.here hx rfl (hb hby at_10) rfl (l' := #[iv p0, iv p1, iv p2, iv p3, iv p4, iv (own_pos p0), iv (own_pos p1), .unset, .unset, .unset, .unset, .unset, .unset]) rfl ?_
    show Steps p.tables e below (T4.setTop (mkF m 12 #[iv p0, iv p1, iv p2, iv p3, iv p4, iv (own_pos p0), iv (own_pos p1), .unset, .unset, .unset, .unset, .unset, .unset] [])) _
    exact k
  refine own_lift sg5 ?_
  show own_Go p.tables e below (T4.setTop (mkF m 12 #[iv p0, iv p1, iv p2, iv p3, iv p4, iv (own_pos p0), iv (own_pos p1), .unset, .unset, .unset, .unset, .unset, .unset] [])) _
  have join6 : ∀ (T6 : State) (locs6 : List Loc), Stand p l e room_1 s m #[(.int p0), (.int p1), (.int p2), (.int p3), (.int p4)] below meth c T6 locs6 0 0 → T6.heap = h0 → Fr n0 locs6 → own_Go p.tables e below (T6.setTop (mkF m 28 #[iv p0, iv p1, iv p2, iv p3, iv p4, iv (own_pos p0), iv (own_pos p1), .unset, .unset, .unset, .unset, .unset, .unset] [(.int (own_sel p4 1 p2 p0))])) (fun s₂ o => s₂.status = .running ∧ Ended s₂ below o ∧ ∃ v L, o = .returned v ∧ Q0 Z  h0 n0 v s₂.heap L ∧ FrameEnd s o s₂ L 16 128) := by
    intro T6 locs6 X6 e6 N6
    have sg7 : ∀ t, Steps p.tables e below (T6.setTop (mkF m 30 #[iv p0, iv p1, iv p2, iv p3, iv p4, iv (own_pos p0), iv (own_pos p1), iv (own_sel p4 1 p2 p0), .unset, .unset, .unset, .unset, .unset] [])) t → Steps p.tables e below (T6.setTop (mkF m 28 #[iv p0, iv p1, iv p2, iv p3, iv p4, iv (own_pos p0), iv (own_pos p1), .unset, .unset, .unset, .unset, .unset, .unset] [(.int (own_sel p4 1 p2 p0))])) t := by
      intro t k
      refine XS.istore X6.here hx rfl (hb hby at_28) rfl (l' := #[iv p0, iv p1, iv p2, iv p3, iv p4, iv (own_pos p0), iv (own_pos p1), iv (own_sel p4 1 p2 p0), .unset, .unset, .unset, .unset, .unset]) rfl ?_
      show Steps p.tables e below (T6.setTop (mkF m 30 #[iv p0, iv p1, iv p2, iv p3, iv p4, iv (own_pos p0), iv (own_pos p1), iv (own_sel p4 1 p2 p0), .unset, .unset, .unset, .unset, .unset] [])) _
      exact k
    refine own_lift sg7 ?_
    show own_Go p.tables e below (T6.setTop (mkF m 30 #[iv p0, iv p1, iv p2, iv p3, iv p4, iv (own_pos p0), iv (own_pos p1), iv (own_sel p4 1 p2 p0), .unset, .unset, .unset, .unset, .unset] [])) _
    have join8 : ∀ (T8 : State) (locs8 : List Loc), Stand p l e room_1 s m #[(.int p0), (.int p1), (.int p2), (.int p3), (.int p4)] below meth c T8 locs8 0 0 → T8.heap = h0 → Fr n0 locs8 → own_Go p.tables e below (T8.setTop (mkF m 46 #[iv p0, iv p1, iv p2, iv p3, iv p4, iv (own_pos p0), iv (own_pos p1), iv (own_sel p4 1 p2 p0), .unset, .unset, .unset, .unset, .unset] [(.int (own_sel p4 2 p3 p1))])) (fun s₂ o => s₂.status = .running ∧ Ended s₂ below o ∧ ∃ v L, o = .returned v ∧ Q0 Z  h0 n0 v s₂.heap L ∧ FrameEnd s o s₂ L 16 128) := by
      intro T8 locs8 X8 e8 N8
      have sg9 : ∀ t, Steps p.tables e below (T8.setTop (mkF m 48 #[iv p0, iv p1, iv p2, iv p3, iv p4, iv (own_pos p0), iv (own_pos p1), iv (own_sel p4 1 p2 p0), iv (own_sel p4 2 p3 p1), .unset, .unset, .unset, .unset] [])) t → Steps p.tables e below (T8.setTop (mkF m 46 #[iv p0, iv p1, iv p2, iv p3, iv p4, iv (own_pos p0), iv (own_pos p1), iv (own_sel p4 1 p2 p0), .unset, .unset, .unset, .unset, .unset] [(.int (own_sel p4 2 p3 p1))])) t := by
        intro t k
        refine XS.istore X8.here hx rfl (hb hby at_46) rfl (l' := #[iv p0, iv p1, iv p2, iv p3, iv p4, iv (own_pos p0), iv (own_pos p1), iv (own_sel p4 1 p2 p0), iv (own_sel p4 2 p3 p1), .unset, .unset, .unset, .unset]) rfl ?_
        show Steps p.tables e below (T8.setTop (mkF m 48 #[iv p0, iv p1, iv p2, iv p3, iv p4, iv (own_pos p0), iv (own_pos p1), iv (own_sel p4 1 p2 p0), iv (own_sel p4 2 p3 p1), .unset, .unset, .unset, .unset] [])) _
        exact k
      refine own_lift sg9 ?_
      show own_Go p.tables e below (T8.setTop (mkF m 48 #[iv p0, iv p1, iv p2, iv p3, iv p4, iv (own_pos p0), iv (own_pos p1), iv (own_sel p4 1 p2 p0), iv (own_sel p4 2 p3 p1), .unset, .unset, .unset, .unset] [])) _
      obtain ⟨T10, h10, X10, e10, Ex10, Ax10, Dx10, Ux10, st10⟩ := newO X8 hx hZ hown (wd hw 5 rfl) (wd hw 6 rfl) (wd hw 7 rfl) e8 (g := (mkF m 48 #[iv p0, iv p1, iv p2, iv p3, iv p4, iv (own_pos p0), iv (own_pos p1), iv (own_sel p4 1 p2 p0), iv (own_sel p4 2 p3 p1), .unset, .unset, .unset, .unset] [])) rfl (hb hby at_48) (by decide) (by decide)
      obtain ⟨ob10, g10⟩ : ∃ z, z = h0.size := ⟨_, rfl⟩
      rw [← g10] at Ax10 Dx10 Ux10 st10
      have ne11 : ca ≠ ob10 := Nat.ne_of_lt (Nat.lt_of_lt_of_le A1.lt (Nat.le_of_eq g10.symm))
      have Z10 : n0 ≤ h10.size := Nat.le_trans Z0 Ex10.1
      have ge10 : n0 ≤ ob10 := Nat.le_trans Z0 (Nat.le_of_eq g10.symm)
      have Fn10_15 : Fld Z h10 ob10 "com/example/allsome/allsome/cypher/InputPosition" "line" "I" (.int 0) := Dx10 (Or.inr (wd hw 15 rfl)) (ty := .int) (by decide)
      have Fn10_17 : Fld Z h10 ob10 "com/example/allsome/allsome/cypher/InputPosition" "column" "I" (.int 0) := Dx10 (Or.inr (wd hw 17 rfl)) (ty := .int) (by decide)
      refine own_lift st10 ?_
      show own_Go p.tables e below (T10.setTop (mkF m 51 #[iv p0, iv p1, iv p2, iv p3, iv p4, iv (own_pos p0), iv (own_pos p1), iv (own_sel p4 1 p2 p0), iv (own_sel p4 2 p3 p1), .unset, .unset, .unset, .unset] [(.ref ob10)])) _
      have sg12 : ∀ t, Steps p.tables e below (T10.setTop (mkF m 56 #[iv p0, iv p1, iv p2, iv p3, iv p4, iv (own_pos p0), iv (own_pos p1), iv (own_sel p4 1 p2 p0), iv (own_sel p4 2 p3 p1), .unset, .unset, .unset, .unset] [(.int (own_pos p1)), (.int (own_pos p0)), (.ref ob10), (.ref ob10)])) t → Steps p.tables e below (T10.setTop (mkF m 51 #[iv p0, iv p1, iv p2, iv p3, iv p4, iv (own_pos p0), iv (own_pos p1), iv (own_sel p4 1 p2 p0), iv (own_sel p4 2 p3 p1), .unset, .unset, .unset, .unset] [(.ref ob10)])) t := by
        intro t k
        refine XS.dup X10.here hx rfl (hb hby at_51) rfl rfl ?_
        show Steps p.tables e below (T10.setTop (mkF m 52 #[iv p0, iv p1, iv p2, iv p3, iv p4, iv (own_pos p0), iv (own_pos p1), iv (own_sel p4 1 p2 p0), iv (own_sel p4 2 p3 p1), .unset, .unset, .unset, .unset] [(.ref ob10), (.ref ob10)])) _
        refine XS.iload X10.here hx rfl (hb hby at_52) rfl ?_
        show Steps p.tables e below (T10.setTop (mkF m 54 #[iv p0, iv p1, iv p2, iv p3, iv p4, iv (own_pos p0), iv (own_pos p1), iv (own_sel p4 1 p2 p0), iv (own_sel p4 2 p3 p1), .unset, .unset, .unset, .unset] [(.int (own_pos p0)), (.ref ob10), (.ref ob10)])) _
        refine XS.iload X10.here hx rfl (hb hby at_54) rfl ?_
        show Steps p.tables e below (T10.setTop (mkF m 56 #[iv p0, iv p1, iv p2, iv p3, iv p4, iv (own_pos p0), iv (own_pos p1), iv (own_sel p4 1 p2 p0), iv (own_sel p4 2 p3 p1), .unset, .unset, .unset, .unset] [(.int (own_pos p1)), (.int (own_pos p0)), (.ref ob10), (.ref ob10)])) _
        exact k
      refine own_lift sg12 ?_
      show own_Go p.tables e below (T10.setTop (mkF m 56 #[iv p0, iv p1, iv p2, iv p3, iv p4, iv (own_pos p0), iv (own_pos p1), iv (own_sel p4 1 p2 p0), iv (own_sel p4 2 p3 p1), .unset, .unset, .unset, .unset] [(.int (own_pos p1)), (.int (own_pos p0)), (.ref ob10), (.ref ob10)])) _
      obtain ⟨_, _, ⟨T13, Lx13, kx13, nx13⟩, -, X13, ⟨Lc13, hQ13, lx13, yx13, zx13⟩, st13⟩ := X10.specialBack hx (y := (⟨"com/example/allsome/allsome/cypher/InputPosition", "<init>", "(II)V"⟩ : MethodName)) rfl hown (mvT hZ (wd hw 8 rfl)) (mvT hZ (wd hw 9 rfl)) (mvT hZ (wd hw 10 rfl)) (by decide) (backOf (W := 1) (rmInit l Z a0 hw [] ob10 (own_pos p0) (own_pos p1) h10 n0 Z10 Fn10_15 Fn10_17 Ax10 ge10 (own_pos_ge p0) (own_pos_ge p1)) hZ (wd hw 10 rfl) (wd hw 7 rfl) (by decide) (by decide)) (g := (mkF m 56 #[iv p0, iv p1, iv p2, iv p3, iv p4, iv (own_pos p0), iv (own_pos p1), iv (own_sel p4 1 p2 p0), iv (own_sel p4 2 p3 p1), .unset, .unset, .unset, .unset] [(.int (own_pos p1)), (.int (own_pos p0)), (.ref ob10), (.ref ob10)])) rfl (by rw [hml]; rfl) (Steps.refl _) (a := ob10) (argsL := [(.int (own_pos p0)), (.int (own_pos p1))]) (rest := [(.ref ob10)]) (lenOf pd_3 rfl) rfl (by show 2 * 0 + _ ≤ _; exact Nat.le_of_eq rfl) (hb hby at_56) (fun _ _ => ⟨rfl, e10, (by decide : 1 + 0 ≤ _), (by decide : 2 + 0 ≤ _)⟩)
      dsimp only [Pt.U, Pt.locs, Pt.cells, Pt.slots] at X13 lx13 yx13 zx13 st13 hQ13
      subst lx13 yx13 zx13
      obtain ⟨rfl, N13q, p13_0, p13_1, p13_2, p13_3⟩ := hQ13
      have N13 := Fr.app N8 N13q
      have Z13 : n0 ≤ T13.heap.size := Nat.le_trans Z10 p13_0.1
      refine own_lift (fun t k => st13.trans k) ?_
      show own_Go p.tables e below (T13.setTop (mkF m 59 #[iv p0, iv p1, iv p2, iv p3, iv p4, iv (own_pos p0), iv (own_pos p1), iv (own_sel p4 1 p2 p0), iv (own_sel p4 2 p3 p1), .unset, .unset, .unset, .unset] [(.ref ob10)])) _
      have sg14 : ∀ t, Steps p.tables e below (T13.setTop (mkF m 61 #[iv p0, iv p1, iv p2, iv p3, iv p4, iv (own_pos p0), iv (own_pos p1), iv (own_sel p4 1 p2 p0), iv (own_sel p4 2 p3 p1), rv ob10, .unset, .unset, .unset] [])) t → Steps p.tables e below (T13.setTop (mkF m 59 #[iv p0, iv p1, iv p2, iv p3, iv p4, iv (own_pos p0), iv (own_pos p1), iv (own_sel p4 1 p2 p0), iv (own_sel p4 2 p3 p1), .unset, .unset, .unset, .unset] [(.ref ob10)])) t := by
        intro t k
        refine XS.astore X13.here hx rfl (hb hby at_59) rfl rfl (l' := #[iv p0, iv p1, iv p2, iv p3, iv p4, iv (own_pos p0), iv (own_pos p1), iv (own_sel p4 1 p2 p0), iv (own_sel p4 2 p3 p1), rv ob10, .unset, .unset, .unset]) rfl ?_
        show Steps p.tables e below (T13.setTop (mkF m 61 #[iv p0, iv p1, iv p2, iv p3, iv p4, iv (own_pos p0), iv (own_pos p1), iv (own_sel p4 1 p2 p0), iv (own_sel p4 2 p3 p1), rv ob10, .unset, .unset, .unset] [])) _
        exact k
      refine own_lift sg14 ?_
      show own_Go p.tables e below (T13.setTop (mkF m 61 #[iv p0, iv p1, iv p2, iv p3, iv p4, iv (own_pos p0), iv (own_pos p1), iv (own_sel p4 1 p2 p0), iv (own_sel p4 2 p3 p1), rv ob10, .unset, .unset, .unset] [])) _
      obtain ⟨T15, h15, X15, e15, Ex15, Ax15, Dx15, Ux15, st15⟩ := newO X13 hx hZ hown (wd hw 5 rfl) (wd hw 6 rfl) (wd hw 7 rfl) rfl (g := (mkF m 61 #[iv p0, iv p1, iv p2, iv p3, iv p4, iv (own_pos p0), iv (own_pos p1), iv (own_sel p4 1 p2 p0), iv (own_sel p4 2 p3 p1), rv ob10, .unset, .unset, .unset] [])) rfl (hb hby at_61) (by decide) (by decide)
      obtain ⟨ob15, g15⟩ : ∃ z, z = T13.heap.size := ⟨_, rfl⟩
      rw [← g15] at Ax15 Dx15 Ux15 st15
      have Fc16 : Arr Z T13.heap ca cc (.object "java/lang/Integer") := (own_Arr_keep (A1.ext Ex10) p13_0 (ninS ne11 nin0))
      have ne17 : ca ≠ ob15 := Nat.ne_of_lt (Nat.lt_of_lt_of_le Fc16.lt (Nat.le_of_eq g15.symm))
      have ne18 : ob10 ≠ ob15 := Nat.ne_of_lt (Nat.lt_of_lt_of_le p13_1.lt (Nat.le_of_eq g15.symm))
      have Z15 : n0 ≤ h15.size := Nat.le_trans Z13 Ex15.1
      have ge15 : n0 ≤ ob15 := Nat.le_trans Z13 (Nat.le_of_eq g15.symm)
      have Fn15_15 : Fld Z h15 ob15 "com/example/allsome/allsome/cypher/InputPosition" "line" "I" (.int 0) := Dx15 (Or.inr (wd hw 15 rfl)) (ty := .int) (by decide)
      have Fn15_17 : Fld Z h15 ob15 "com/example/allsome/allsome/cypher/InputPosition" "column" "I" (.int 0) := Dx15 (Or.inr (wd hw 17 rfl)) (ty := .int) (by decide)
      refine own_lift st15 ?_
      show own_Go p.tables e below (T15.setTop (mkF m 64 #[iv p0, iv p1, iv p2, iv p3, iv p4, iv (own_pos p0), iv (own_pos p1), iv (own_sel p4 1 p2 p0), iv (own_sel p4 2 p3 p1), rv ob10, .unset, .unset, .unset] [(.ref ob15)])) _
      have sg19 : ∀ t, Steps p.tables e below (T15.setTop (mkF m 69 #[iv p0, iv p1, iv p2, iv p3, iv p4, iv (own_pos p0), iv (own_pos p1), iv (own_sel p4 1 p2 p0), iv (own_sel p4 2 p3 p1), rv ob10, .unset, .unset, .unset] [(.int (own_sel p4 2 p3 p1)), (.int (own_sel p4 1 p2 p0)), (.ref ob15), (.ref ob15)])) t → Steps p.tables e below (T15.setTop (mkF m 64 #[iv p0, iv p1, iv p2, iv p3, iv p4, iv (own_pos p0), iv (own_pos p1), iv (own_sel p4 1 p2 p0), iv (own_sel p4 2 p3 p1), rv ob10, .unset, .unset, .unset] [(.ref ob15)])) t := by
        intro t k
        refine XS.dup X15.here hx rfl (hb hby at_64) rfl rfl ?_
        show Steps p.tables e below (T15.setTop (mkF m 65 #[iv p0, iv p1, iv p2, iv p3, iv p4, iv (own_pos p0), iv (own_pos p1), iv (own_sel p4 1 p2 p0), iv (own_sel p4 2 p3 p1), rv ob10, .unset, .unset, .unset] [(.ref ob15), (.ref ob15)])) _
        refine XS.iload X15.here hx rfl (hb hby at_65) rfl ?_
        show Steps p.tables e below (T15.setTop (mkF m 67 #[iv p0, iv p1, iv p2, iv p3, iv p4, iv (own_pos p0), iv (own_pos p1), iv (own_sel p4 1 p2 p0), iv (own_sel p4 2 p3 p1), rv ob10, .unset, .unset, .unset] [(.int (own_sel p4 1 p2 p0)), (.ref ob15), (.ref ob15)])) _
        refine XS.iload X15.here hx rfl (hb hby at_67) rfl ?_
        show Steps p.tables e below (T15.setTop (mkF m 69 #[iv p0, iv p1, iv p2, iv p3, iv p4, iv (own_pos p0), iv (own_pos p1), iv (own_sel p4 1 p2 p0), iv (own_sel p4 2 p3 p1), rv ob10, .unset, .unset, .unset] [(.int (own_sel p4 2 p3 p1)), (.int (own_sel p4 1 p2 p0)), (.ref ob15), (.ref ob15)])) _
        exact k
      refine own_lift sg19 ?_
      show own_Go p.tables e below (T15.setTop (mkF m 69 #[iv p0, iv p1, iv p2, iv p3, iv p4, iv (own_pos p0), iv (own_pos p1), iv (own_sel p4 1 p2 p0), iv (own_sel p4 2 p3 p1), rv ob10, .unset, .unset, .unset] [(.int (own_sel p4 2 p3 p1)), (.int (own_sel p4 1 p2 p0)), (.ref ob15), (.ref ob15)])) _
      obtain ⟨_, _, ⟨T20, Lx20, kx20, nx20⟩, -, X20, ⟨Lc20, hQ20, lx20, yx20, zx20⟩, st20⟩ := X15.specialBack hx (y := (⟨"com/example/allsome/allsome/cypher/InputPosition", "<init>", "(II)V"⟩ : MethodName)) rfl hown (mvT hZ (wd hw 8 rfl)) (mvT hZ (wd hw 9 rfl)) (mvT hZ (wd hw 10 rfl)) (by decide) (backOf (W := 1) (rmInit l Z a0 hw [] ob15 (own_sel p4 1 p2 p0) (own_sel p4 2 p3 p1) h15 n0 Z15 Fn15_15 Fn15_17 Ax15 ge15 (own_sel_ge _ _ _ _) (own_sel_ge _ _ _ _)) hZ (wd hw 10 rfl) (wd hw 7 rfl) (by decide) (by decide)) (g := (mkF m 69 #[iv p0, iv p1, iv p2, iv p3, iv p4, iv (own_pos p0), iv (own_pos p1), iv (own_sel p4 1 p2 p0), iv (own_sel p4 2 p3 p1), rv ob10, .unset, .unset, .unset] [(.int (own_sel p4 2 p3 p1)), (.int (own_sel p4 1 p2 p0)), (.ref ob15), (.ref ob15)])) rfl (by rw [hml]; rfl) (Steps.refl _) (a := ob15) (argsL := [(.int (own_sel p4 1 p2 p0)), (.int (own_sel p4 2 p3 p1))]) (rest := [(.ref ob15)]) (lenOf pd_3 rfl) rfl (by show 2 * 0 + _ ≤ _; exact Nat.le_of_eq rfl) (hb hby at_69) (fun _ _ => ⟨rfl, e15, (by decide : 2 + 0 ≤ _), (by decide : 4 + 0 ≤ _)⟩)
      dsimp only [Pt.U, Pt.locs, Pt.cells, Pt.slots] at X20 lx20 yx20 zx20 st20 hQ20
      subst lx20 yx20 zx20
      obtain ⟨rfl, N20q, p20_0, p20_1, p20_2, p20_3⟩ := hQ20
      have N20 := Fr.app N13 N20q
      have Z20 : n0 ≤ T20.heap.size := Nat.le_trans Z15 p20_0.1
      refine own_lift (fun t k => st20.trans k) ?_
      show own_Go p.tables e below (T20.setTop (mkF m 72 #[iv p0, iv p1, iv p2, iv p3, iv p4, iv (own_pos p0), iv (own_pos p1), iv (own_sel p4 1 p2 p0), iv (own_sel p4 2 p3 p1), rv ob10, .unset, .unset, .unset] [(.ref ob15)])) _
      have sg21 : ∀ t, Steps p.tables e below (T20.setTop (mkF m 161 #[iv p0, iv p1, iv p2, iv p3, iv p4, iv (own_pos p0), iv (own_pos p1), iv (own_sel p4 1 p2 p0), iv (own_sel p4 2 p3 p1), rv ob10, rv ob15, iv (((p4.toUInt32 >>> ((2 : Int32) &&& 31).toUInt32).toInt32) &&& (3 : Int32)), .unset] [.null, (.ref ob10)])) t → Steps p.tables e below (T20.setTop (mkF m 72 #[iv p0, iv p1, iv p2, iv p3, iv p4, iv (own_pos p0), iv (own_pos p1), iv (own_sel p4 1 p2 p0), iv (own_sel p4 2 p3 p1), rv ob10, .unset, .unset, .unset] [(.ref ob15)])) t := by
        intro t k
        refine XS.astore X20.here hx rfl (hb hby at_72) rfl rfl (l' := #[iv p0, iv p1, iv p2, iv p3, iv p4, iv (own_pos p0), iv (own_pos p1), iv (own_sel p4 1 p2 p0), iv (own_sel p4 2 p3 p1), rv ob10, rv ob15, .unset, .unset]) rfl ?_
        show Steps p.tables e below (T20.setTop (mkF m 74 #[iv p0, iv p1, iv p2, iv p3, iv p4, iv (own_pos p0), iv (own_pos p1), iv (own_sel p4 1 p2 p0), iv (own_sel p4 2 p3 p1), rv ob10, rv ob15, .unset, .unset] [])) _
        refine XS.iload X20.here hx rfl (hb hby at_74) rfl ?_
        show Steps p.tables e below (T20.setTop (mkF m 76 #[iv p0, iv p1, iv p2, iv p3, iv p4, iv (own_pos p0), iv (own_pos p1), iv (own_sel p4 1 p2 p0), iv (own_sel p4 2 p3 p1), rv ob10, rv ob15, .unset, .unset] [(.int p4)])) _
        refine XS.iconst X20.here hx rfl (hb hby at_76) ?_
        show Steps p.tables e below (T20.setTop (mkF m 77 #[iv p0, iv p1, iv p2, iv p3, iv p4, iv (own_pos p0), iv (own_pos p1), iv (own_sel p4 1 p2 p0), iv (own_sel p4 2 p3 p1), rv ob10, rv ob15, .unset, .unset] [(.int 2), (.int p4)])) _
        refine XS.iushr X20.here hx rfl (hb hby at_77) rfl ?_
        show Steps p.tables e below (T20.setTop (mkF m 78 #[iv p0, iv p1, iv p2, iv p3, iv p4, iv (own_pos p0), iv (own_pos p1), iv (own_sel p4 1 p2 p0), iv (own_sel p4 2 p3 p1), rv ob10, rv ob15, .unset, .unset] [(.int ((p4.toUInt32 >>> ((2 : Int32) &&& 31).toUInt32).toInt32))])) _
        refine XS.iconst X20.here hx rfl (hb hby at_78) ?_
        show Steps p.tables e below (T20.setTop (mkF m 79 #[iv p0, iv p1, iv p2, iv p3, iv p4, iv (own_pos p0), iv (own_pos p1), iv (own_sel p4 1 p2 p0), iv (own_sel p4 2 p3 p1), rv ob10, rv ob15, .unset, .unset] [(.int 3), (.int ((p4.toUInt32 >>> ((2 : Int32) &&& 31).toUInt32).toInt32))])) _
        refine XS.iand X20.here hx rfl (hb hby at_79) rfl ?_
        show Steps p.tables e below (T20.setTop (mkF m 80 #[iv p0, iv p1, iv p2, iv p3, iv p4, iv (own_pos p0), iv (own_pos p1), iv (own_sel p4 1 p2 p0), iv (own_sel p4 2 p3 p1), rv ob10, rv ob15, .unset, .unset] [(.int (((p4.toUInt32 >>> ((2 : Int32) &&& 31).toUInt32).toInt32) &&& (3 : Int32)))])) _
        refine XS.istore X20.here hx rfl (hb hby at_80) rfl (l' := #[iv p0, iv p1, iv p2, iv p3, iv p4, iv (own_pos p0), iv (own_pos p1), iv (own_sel p4 1 p2 p0), iv (own_sel p4 2 p3 p1), rv ob10, rv ob15, iv (((p4.toUInt32 >>> ((2 : Int32) &&& 31).toUInt32).toInt32) &&& (3 : Int32)), .unset]) rfl ?_
        show Steps p.tables e below (T20.setTop (mkF m 82 #[iv p0, iv p1, iv p2, iv p3, iv p4, iv (own_pos p0), iv (own_pos p1), iv (own_sel p4 1 p2 p0), iv (own_sel p4 2 p3 p1), rv ob10, rv ob15, iv (((p4.toUInt32 >>> ((2 : Int32) &&& 31).toUInt32).toInt32) &&& (3 : Int32)), .unset] [])) _
        refine XS.iload X20.here hx rfl (hb hby at_82) rfl ?_
        show Steps p.tables e below (T20.setTop (mkF m 84 #[iv p0, iv p1, iv p2, iv p3, iv p4, iv (own_pos p0), iv (own_pos p1), iv (own_sel p4 1 p2 p0), iv (own_sel p4 2 p3 p1), rv ob10, rv ob15, iv (((p4.toUInt32 >>> ((2 : Int32) &&& 31).toUInt32).toInt32) &&& (3 : Int32)), .unset] [(.int (((p4.toUInt32 >>> ((2 : Int32) &&& 31).toUInt32).toInt32) &&& (3 : Int32)))])) _
        refine XS.ifYes X20.here hx rfl (pc0 := 84) (pc' := 138) rfl (hb hby at_84) rfl ((if0 _ _).trans (feq k0).2) (by decide) (by decide) ?_
        show Steps p.tables e below (T20.setTop (mkF m 138 #[iv p0, iv p1, iv p2, iv p3, iv p4, iv (own_pos p0), iv (own_pos p1), iv (own_sel p4 1 p2 p0), iv (own_sel p4 2 p3 p1), rv ob10, rv ob15, iv (((p4.toUInt32 >>> ((2 : Int32) &&& 31).toUInt32).toInt32) &&& (3 : Int32)), .unset] [])) _
        refine XS.iload X20.here hx rfl (hb hby at_138) rfl ?_
        show Steps p.tables e below (T20.setTop (mkF m 140 #[iv p0, iv p1, iv p2, iv p3, iv p4, iv (own_pos p0), iv (own_pos p1), iv (own_sel p4 1 p2 p0), iv (own_sel p4 2 p3 p1), rv ob10, rv ob15, iv (((p4.toUInt32 >>> ((2 : Int32) &&& 31).toUInt32).toInt32) &&& (3 : Int32)), .unset] [(.int (((p4.toUInt32 >>> ((2 : Int32) &&& 31).toUInt32).toInt32) &&& (3 : Int32)))])) _
        refine XS.iconst X20.here hx rfl (hb hby at_140) ?_
        show Steps p.tables e below (T20.setTop (mkF m 141 #[iv p0, iv p1, iv p2, iv p3, iv p4, iv (own_pos p0), iv (own_pos p1), iv (own_sel p4 1 p2 p0), iv (own_sel p4 2 p3 p1), rv ob10, rv ob15, iv (((p4.toUInt32 >>> ((2 : Int32) &&& 31).toUInt32).toInt32) &&& (3 : Int32)), .unset] [(.int 1), (.int (((p4.toUInt32 >>> ((2 : Int32) &&& 31).toUInt32).toInt32) &&& (3 : Int32)))])) _
        refine XS.icmpYes X20.here hx rfl (pc0 := 141) (pc' := 152) rfl (hb hby at_141) rfl (feq k1).2 (by decide) (by decide) ?_
        show Steps p.tables e below (T20.setTop (mkF m 152 #[iv p0, iv p1, iv p2, iv p3, iv p4, iv (own_pos p0), iv (own_pos p1), iv (own_sel p4 1 p2 p0), iv (own_sel p4 2 p3 p1), rv ob10, rv ob15, iv (((p4.toUInt32 >>> ((2 : Int32) &&& 31).toUInt32).toInt32) &&& (3 : Int32)), .unset] [])) _
        refine XS.iload X20.here hx rfl (hb hby at_152) rfl ?_
        show Steps p.tables e below (T20.setTop (mkF m 154 #[iv p0, iv p1, iv p2, iv p3, iv p4, iv (own_pos p0), iv (own_pos p1), iv (own_sel p4 1 p2 p0), iv (own_sel p4 2 p3 p1), rv ob10, rv ob15, iv (((p4.toUInt32 >>> ((2 : Int32) &&& 31).toUInt32).toInt32) &&& (3 : Int32)), .unset] [(.int (((p4.toUInt32 >>> ((2 : Int32) &&& 31).toUInt32).toInt32) &&& (3 : Int32)))])) _
        refine XS.iconst X20.here hx rfl (hb hby at_154) ?_
        show Steps p.tables e below (T20.setTop (mkF m 155 #[iv p0, iv p1, iv p2, iv p3, iv p4, iv (own_pos p0), iv (own_pos p1), iv (own_sel p4 1 p2 p0), iv (own_sel p4 2 p3 p1), rv ob10, rv ob15, iv (((p4.toUInt32 >>> ((2 : Int32) &&& 31).toUInt32).toInt32) &&& (3 : Int32)), .unset] [(.int 2), (.int (((p4.toUInt32 >>> ((2 : Int32) &&& 31).toUInt32).toInt32) &&& (3 : Int32)))])) _
        refine XS.icmpNo X20.here hx rfl (hb hby at_155) rfl (teq k2).2 ?_
        show Steps p.tables e below (T20.setTop (mkF m 158 #[iv p0, iv p1, iv p2, iv p3, iv p4, iv (own_pos p0), iv (own_pos p1), iv (own_sel p4 1 p2 p0), iv (own_sel p4 2 p3 p1), rv ob10, rv ob15, iv (((p4.toUInt32 >>> ((2 : Int32) &&& 31).toUInt32).toInt32) &&& (3 : Int32)), .unset] [])) _
        refine XS.aload X20.here hx rfl (hb hby at_158) rfl rfl ?_
        show Steps p.tables e below (T20.setTop (mkF m 160 #[iv p0, iv p1, iv p2, iv p3, iv p4, iv (own_pos p0), iv (own_pos p1), iv (own_sel p4 1 p2 p0), iv (own_sel p4 2 p3 p1), rv ob10, rv ob15, iv (((p4.toUInt32 >>> ((2 : Int32) &&& 31).toUInt32).toInt32) &&& (3 : Int32)), .unset] [(.ref ob10)])) _
        refine XS.aconstNull X20.here hx rfl (hb hby at_160) ?_
        show Steps p.tables e below (T20.setTop (mkF m 161 #[iv p0, iv p1, iv p2, iv p3, iv p4, iv (own_pos p0), iv (own_pos p1), iv (own_sel p4 1 p2 p0), iv (own_sel p4 2 p3 p1), rv ob10, rv ob15, iv (((p4.toUInt32 >>> ((2 : Int32) &&& 31).toUInt32).toInt32) &&& (3 : Int32)), .unset] [.null, (.ref ob10)])) _
        exact k
      refine own_lift sg21 ?_
      show own_Go p.tables e below (T20.setTop (mkF m 161 #[iv p0, iv p1, iv p2, iv p3, iv p4, iv (own_pos p0), iv (own_pos p1), iv (own_sel p4 1 p2 p0), iv (own_sel p4 2 p3 p1), rv ob10, rv ob15, iv (((p4.toUInt32 >>> ((2 : Int32) &&& 31).toUInt32).toInt32) &&& (3 : Int32)), .unset] [.null, (.ref ob10)])) _
      have Fc23 : Exa Z T20.heap ob10 "com/example/allsome/allsome/cypher/InputPosition" := ((p13_1.ext Ex15).keep p20_0)
      obtain ⟨cq22, kq22, q22a, q22b, q22c⟩ := isOf hZ rfl Fc23
      obtain ⟨_, _, ⟨T22, Lx22, kx22, nx22⟩, -, X22, ⟨Lc22, hQ22, lx22, yx22, zx22⟩, st22⟩ := X20.virtualBack hx (y := (⟨"com/example/allsome/allsome/cypher/InputPosition", "equals", "(Ljava/lang/Object;)Z"⟩ : MethodName)) (z := (⟨"com/example/allsome/allsome/cypher/InputPosition", "equals", "(Ljava/lang/Object;)Z"⟩ : MethodName)) hown (mvT hZ (wd hw 18 rfl)) (mvT hZ (wd hw 19 rfl)) (notFace_of_selects (args := #[]) (mvT hZ (wd hw 21 rfl))) (mvT hZ (wd hw 21 rfl)) (mvT hZ (wd hw 20 rfl)) (by decide) (backOf (W := 0) (rmEqNull l Z a0 hw [] ob10 T20.heap n0 Z20 ) hZ (wd hw 22 rfl) (wd hw 7 rfl) (by decide) (by decide)) q22a q22c (g := (mkF m 161 #[iv p0, iv p1, iv p2, iv p3, iv p4, iv (own_pos p0), iv (own_pos p1), iv (own_sel p4 1 p2 p0), iv (own_sel p4 2 p3 p1), rv ob10, rv ob15, iv (((p4.toUInt32 >>> ((2 : Int32) &&& 31).toUInt32).toInt32) &&& (3 : Int32)), .unset] [.null, (.ref ob10)])) rfl (by rw [hml]; rfl) (Steps.refl _) (argsL := [.null]) (rest := []) (lenOf pd_4 rfl) rfl (by show 2 * 0 + _ ≤ _; exact Nat.le_of_eq rfl) (hb hby at_161) (fun _ _ => ⟨rfl, rfl, (by decide : 2 + 0 ≤ _), (by decide : 4 + 0 ≤ _)⟩)
      dsimp only [Pt.U, Pt.locs, Pt.cells, Pt.slots] at X22 lx22 yx22 zx22 st22 hQ22
      subst lx22 yx22 zx22
      obtain ⟨rfl, N22q, e22⟩ := hQ22
      have N22 := Fr.app N20 N22q
      refine own_lift (fun t k => st22.trans k) ?_
      show own_Go p.tables e below (T22.setTop (mkF m 164 #[iv p0, iv p1, iv p2, iv p3, iv p4, iv (own_pos p0), iv (own_pos p1), iv (own_sel p4 1 p2 p0), iv (own_sel p4 2 p3 p1), rv ob10, rv ob15, iv (((p4.toUInt32 >>> ((2 : Int32) &&& 31).toUInt32).toInt32) &&& (3 : Int32)), .unset] [(.int 0)])) _
      have sg24 : ∀ t, Steps p.tables e below (T22.setTop (mkF m 172 #[iv p0, iv p1, iv p2, iv p3, iv p4, iv (own_pos p0), iv (own_pos p1), iv (own_sel p4 1 p2 p0), iv (own_sel p4 2 p3 p1), rv ob10, rv ob15, iv (((p4.toUInt32 >>> ((2 : Int32) &&& 31).toUInt32).toInt32) &&& (3 : Int32)), .unset] [(.int 1)])) t → Steps p.tables e below (T22.setTop (mkF m 164 #[iv p0, iv p1, iv p2, iv p3, iv p4, iv (own_pos p0), iv (own_pos p1), iv (own_sel p4 1 p2 p0), iv (own_sel p4 2 p3 p1), rv ob10, rv ob15, iv (((p4.toUInt32 >>> ((2 : Int32) &&& 31).toUInt32).toInt32) &&& (3 : Int32)), .unset] [(.int 0)])) t := by
        intro t k
        refine XS.ifNo X22.here hx rfl (hb hby at_164) rfl ((if0 _ _).trans (teq (by decide : (0 : Int32) = (0 : Int32))).2) ?_
        show Steps p.tables e below (T22.setTop (mkF m 167 #[iv p0, iv p1, iv p2, iv p3, iv p4, iv (own_pos p0), iv (own_pos p1), iv (own_sel p4 1 p2 p0), iv (own_sel p4 2 p3 p1), rv ob10, rv ob15, iv (((p4.toUInt32 >>> ((2 : Int32) &&& 31).toUInt32).toInt32) &&& (3 : Int32)), .unset] [])) _
        refine XS.iconst X22.here hx rfl (hb hby at_167) ?_
        show Steps p.tables e below (T22.setTop (mkF m 168 #[iv p0, iv p1, iv p2, iv p3, iv p4, iv (own_pos p0), iv (own_pos p1), iv (own_sel p4 1 p2 p0), iv (own_sel p4 2 p3 p1), rv ob10, rv ob15, iv (((p4.toUInt32 >>> ((2 : Int32) &&& 31).toUInt32).toInt32) &&& (3 : Int32)), .unset] [(.int 1)])) _
        refine XS.goto X22.here hx rfl (pc0 := 168) (pc' := 172) rfl (hb hby at_168) (by decide) (by decide) ?_
        show Steps p.tables e below (T22.setTop (mkF m 172 #[iv p0, iv p1, iv p2, iv p3, iv p4, iv (own_pos p0), iv (own_pos p1), iv (own_sel p4 1 p2 p0), iv (own_sel p4 2 p3 p1), rv ob10, rv ob15, iv (((p4.toUInt32 >>> ((2 : Int32) &&& 31).toUInt32).toInt32) &&& (3 : Int32)), .unset] [(.int 1)])) _
        exact k
      refine own_lift sg24 ?_
      show own_Go p.tables e below (T22.setTop (mkF m 172 #[iv p0, iv p1, iv p2, iv p3, iv p4, iv (own_pos p0), iv (own_pos p1), iv (own_sel p4 1 p2 p0), iv (own_sel p4 2 p3 p1), rv ob10, rv ob15, iv (((p4.toUInt32 >>> ((2 : Int32) &&& 31).toUInt32).toInt32) &&& (3 : Int32)), .unset] [(.int 1)])) _
      obtain ⟨fs, hr, hrun, hended, hW, hsame⟩ := X22.leave (v := some (.int 1)) (fun h => by rw [Bd.returns] at h; cases h)
      refine ⟨_, _, ?_, hrun, hended, _, _, rfl, ?_, ⟨_, rfl⟩, hW, hsame.mono (by decide) (by decide)⟩
      · exact retN X22 hx (t := .boolean) Bd.returns (by simp) (hb hby at_172) hr
      · show Q0 Z  h0 n0 _ T22.heap _
        rw [e22]
        exact ⟨rfl, N22⟩
    by_cases b2 : (p4 &&& (2 : Int32)) = (0 : Int32)
    · have sg25 : ∀ t, Steps p.tables e below (T6.setTop (mkF m 43 #[iv p0, iv p1, iv p2, iv p3, iv p4, iv (own_pos p0), iv (own_pos p1), iv (own_sel p4 1 p2 p0), .unset, .unset, .unset, .unset, .unset] [(.int p3)])) t → Steps p.tables e below (T6.setTop (mkF m 30 #[iv p0, iv p1, iv p2, iv p3, iv p4, iv (own_pos p0), iv (own_pos p1), iv (own_sel p4 1 p2 p0), .unset, .unset, .unset, .unset, .unset] [])) t := by
        intro t k
        refine XS.iload X6.here hx rfl (hb hby at_30) rfl ?_
        show Steps p.tables e below (T6.setTop (mkF m 32 #[iv p0, iv p1, iv p2, iv p3, iv p4, iv (own_pos p0), iv (own_pos p1), iv (own_sel p4 1 p2 p0), .unset, .unset, .unset, .unset, .unset] [(.int p4)])) _
        refine XS.iconst X6.here hx rfl (hb hby at_32) ?_
        show Steps p.tables e below (T6.setTop (mkF m 33 #[iv p0, iv p1, iv p2, iv p3, iv p4, iv (own_pos p0), iv (own_pos p1), iv (own_sel p4 1 p2 p0), .unset, .unset, .unset, .unset, .unset] [(.int 2), (.int p4)])) _
        refine XS.iand X6.here hx rfl (hb hby at_33) rfl ?_
        show Steps p.tables e below (T6.setTop (mkF m 34 #[iv p0, iv p1, iv p2, iv p3, iv p4, iv (own_pos p0), iv (own_pos p1), iv (own_sel p4 1 p2 p0), .unset, .unset, .unset, .unset, .unset] [(.int (p4 &&& (2 : Int32)))])) _
        refine XS.ifYes X6.here hx rfl (pc0 := 34) (pc' := 42) rfl (hb hby at_34) rfl ((if0 _ _).trans (teq b2).1) (by decide) (by decide) ?_
        show Steps p.tables e below (T6.setTop (mkF m 42 #[iv p0, iv p1, iv p2, iv p3, iv p4, iv (own_pos p0), iv (own_pos p1), iv (own_sel p4 1 p2 p0), .unset, .unset, .unset, .unset, .unset] [])) _
        refine XS.iloadN X6.here hx rfl (hb hby at_42) rfl ?_
        show Steps p.tables e below (T6.setTop (mkF m 43 #[iv p0, iv p1, iv p2, iv p3, iv p4, iv (own_pos p0), iv (own_pos p1), iv (own_sel p4 1 p2 p0), .unset, .unset, .unset, .unset, .unset] [(.int p3)])) _
        exact k
      refine own_lift sg25 ?_
      show own_Go p.tables e below (T6.setTop (mkF m 43 #[iv p0, iv p1, iv p2, iv p3, iv p4, iv (own_pos p0), iv (own_pos p1), iv (own_sel p4 1 p2 p0), .unset, .unset, .unset, .unset, .unset] [(.int p3)])) _
      obtain ⟨_, _, ⟨T26, Lx26, kx26, nx26⟩, -, X26, ⟨Lc26, hQ26, lx26, yx26, zx26⟩, st26⟩ := Jvm.LawKit.callS X6 hx (y := (⟨"com/example/allsome/allsome/cypher/InputPositionEqualsPinLaw", "pos", "(I)I"⟩ : MethodName)) hown (mvT hZ (wd hw 0 rfl)) (mvT hZ (wd hw 1 rfl)) (mvT hZ (wd hw 2 rfl)) (mvT hZ (wd hw 3 rfl)) (by decide) (backOf (W := 0) (rmPos l Z a0 hw [] p3 h0 n0 Z0 ) hZ (wd hw 3 rfl) (wd hw 2 rfl) (by decide) (by decide)) (g := (mkF m 43 #[iv p0, iv p1, iv p2, iv p3, iv p4, iv (own_pos p0), iv (own_pos p1), iv (own_sel p4 1 p2 p0), .unset, .unset, .unset, .unset, .unset] [(.int p3)])) rfl (by rw [hml]; rfl) (argsL := [(.int p3)]) (rest := []) (lenOf pd_2 rfl) rfl (by show 2 * 0 + _ ≤ _; exact Nat.le_of_eq rfl) (hb hby at_43) (fun _ _ => ⟨rfl, e6, (by decide : 0 + 0 ≤ _), (by decide : 0 + 0 ≤ _)⟩)
      dsimp only [Pt.U, Pt.locs, Pt.cells, Pt.slots] at X26 lx26 yx26 zx26 st26 hQ26
      subst lx26 yx26 zx26
      obtain ⟨rfl, N26q, e26⟩ := hQ26
      have N26 := Fr.app N6 N26q
      refine own_lift st26 ?_
      show own_Go p.tables e below (T26.setTop (mkF m 46 #[iv p0, iv p1, iv p2, iv p3, iv p4, iv (own_pos p0), iv (own_pos p1), iv (own_sel p4 1 p2 p0), .unset, .unset, .unset, .unset, .unset] [(.int (own_pos p3))])) _
      rw [show (own_sel p4 2 p3 p1) = (own_pos p3) from if_pos b2] at join8
      exact join8 _ _ X26 e26 N26
    · have sg27 : ∀ t, Steps p.tables e below (T6.setTop (mkF m 46 #[iv p0, iv p1, iv p2, iv p3, iv p4, iv (own_pos p0), iv (own_pos p1), iv (own_sel p4 1 p2 p0), .unset, .unset, .unset, .unset, .unset] [(.int (own_pos p1))])) t → Steps p.tables e below (T6.setTop (mkF m 30 #[iv p0, iv p1, iv p2, iv p3, iv p4, iv (own_pos p0), iv (own_pos p1), iv (own_sel p4 1 p2 p0), .unset, .unset, .unset, .unset, .unset] [])) t := by
        intro t k
        refine XS.iload X6.here hx rfl (hb hby at_30) rfl ?_
        show Steps p.tables e below (T6.setTop (mkF m 32 #[iv p0, iv p1, iv p2, iv p3, iv p4, iv (own_pos p0), iv (own_pos p1), iv (own_sel p4 1 p2 p0), .unset, .unset, .unset, .unset, .unset] [(.int p4)])) _
        refine XS.iconst X6.here hx rfl (hb hby at_32) ?_
        show Steps p.tables e below (T6.setTop (mkF m 33 #[iv p0, iv p1, iv p2, iv p3, iv p4, iv (own_pos p0), iv (own_pos p1), iv (own_sel p4 1 p2 p0), .unset, .unset, .unset, .unset, .unset] [(.int 2), (.int p4)])) _
        refine XS.iand X6.here hx rfl (hb hby at_33) rfl ?_
        show Steps p.tables e below (T6.setTop (mkF m 34 #[iv p0, iv p1, iv p2, iv p3, iv p4, iv (own_pos p0), iv (own_pos p1), iv (own_sel p4 1 p2 p0), .unset, .unset, .unset, .unset, .unset] [(.int (p4 &&& (2 : Int32)))])) _
        refine XS.ifNo X6.here hx rfl (hb hby at_34) rfl ((if0 _ _).trans (feq b2).1) ?_
        show Steps p.tables e below (T6.setTop (mkF m 37 #[iv p0, iv p1, iv p2, iv p3, iv p4, iv (own_pos p0), iv (own_pos p1), iv (own_sel p4 1 p2 p0), .unset, .unset, .unset, .unset, .unset] [])) _
        refine XS.iload X6.here hx rfl (hb hby at_37) rfl ?_
        show Steps p.tables e below (T6.setTop (mkF m 39 #[iv p0, iv p1, iv p2, iv p3, iv p4, iv (own_pos p0), iv (own_pos p1), iv (own_sel p4 1 p2 p0), .unset, .unset, .unset, .unset, .unset] [(.int (own_pos p1))])) _
        refine XS.goto X6.here hx rfl (pc0 := 39) (pc' := 46) rfl (hb hby at_39) (by decide) (by decide) ?_
        show Steps p.tables e below (T6.setTop (mkF m 46 #[iv p0, iv p1, iv p2, iv p3, iv p4, iv (own_pos p0), iv (own_pos p1), iv (own_sel p4 1 p2 p0), .unset, .unset, .unset, .unset, .unset] [(.int (own_pos p1))])) _
        exact k
      refine own_lift sg27 ?_
      show own_Go p.tables e below (T6.setTop (mkF m 46 #[iv p0, iv p1, iv p2, iv p3, iv p4, iv (own_pos p0), iv (own_pos p1), iv (own_sel p4 1 p2 p0), .unset, .unset, .unset, .unset, .unset] [(.int (own_pos p1))])) _
      rw [show (own_sel p4 2 p3 p1) = (own_pos p1) from if_neg b2] at join8
      exact join8 _ _ X6 e6 N6
  by_cases b1 : (p4 &&& (1 : Int32)) = (0 : Int32)
  · have sg28 : ∀ t, Steps p.tables e below (T4.setTop (mkF m 25 #[iv p0, iv p1, iv p2, iv p3, iv p4, iv (own_pos p0), iv (own_pos p1), .unset, .unset, .unset, .unset, .unset, .unset] [(.int p2)])) t → Steps p.tables e below (T4.setTop (mkF m 12 #[iv p0, iv p1, iv p2, iv p3, iv p4, iv (own_pos p0), iv (own_pos p1), .unset, .unset, .unset, .unset, .unset, .unset] [])) t := by
      intro t k
      refine XS.iload X4.here hx rfl (hb hby at_12) rfl ?_
      show Steps p.tables e below (T4.setTop (mkF m 14 #[iv p0, iv p1, iv p2, iv p3, iv p4, iv (own_pos p0), iv (own_pos p1), .unset, .unset, .unset, .unset, .unset, .unset] [(.int p4)])) _
      refine XS.iconst X4.here hx rfl (hb hby at_14) ?_
      show Steps p.tables e below (T4.setTop (mkF m 15 #[iv p0, iv p1, iv p2, iv p3, iv p4, iv (own_pos p0), iv (own_pos p1), .unset, .unset, .unset, .unset, .unset, .unset] [(.int 1), (.int p4)])) _
      refine XS.iand X4.here hx rfl (hb hby at_15) rfl ?_
      show Steps p.tables e below (T4.setTop (mkF m 16 #[iv p0, iv p1, iv p2, iv p3, iv p4, iv (own_pos p0), iv (own_pos p1), .unset, .unset, .unset, .unset, .unset, .unset] [(.int (p4 &&& (1 : Int32)))])) _
      refine XS.ifYes X4.here hx rfl (pc0 := 16) (pc' := 24) rfl (hb hby at_16) rfl ((if0 _ _).trans (teq b1).1) (by decide) (by decide) ?_
      show Steps p.tables e below (T4.setTop (mkF m 24 #[iv p0, iv p1, iv p2, iv p3, iv p4, iv (own_pos p0), iv (own_pos p1), .unset, .unset, .unset, .unset, .unset, .unset] [])) _
      refine XS.iloadN X4.here hx rfl (hb hby at_24) rfl ?_
      show Steps p.tables e below (T4.setTop (mkF m 25 #[iv p0, iv p1, iv p2, iv p3, iv p4, iv (own_pos p0), iv (own_pos p1), .unset, .unset, .unset, .unset, .unset, .unset] [(.int p2)])) _
      exact k
    refine own_lift sg28 ?_
    show own_Go p.tables e below (T4.setTop (mkF m 25 #[iv p0, iv p1, iv p2, iv p3, iv p4, iv (own_pos p0), iv (own_pos p1), .unset, .unset, .unset, .unset, .unset, .unset] [(.int p2)])) _
    obtain ⟨_, _, ⟨T29, Lx29, kx29, nx29⟩, -, X29, ⟨Lc29, hQ29, lx29, yx29, zx29⟩, st29⟩ := Jvm.LawKit.callS X4 hx (y := (⟨"com/example/allsome/allsome/cypher/InputPositionEqualsPinLaw", "pos", "(I)I"⟩ : MethodName)) hown (mvT hZ (wd hw 0 rfl)) (mvT hZ (wd hw 1 rfl)) (mvT hZ (wd hw 2 rfl)) (mvT hZ (wd hw 3 rfl)) (by decide) (backOf (W := 0) (rmPos l Z a0 hw [] p2 h0 n0 Z0 ) hZ (wd hw 3 rfl) (wd hw 2 rfl) (by decide) (by decide)) (g := (mkF m 25 #[iv p0, iv p1, iv p2, iv p3, iv p4, iv (own_pos p0), iv (own_pos p1), .unset, .unset, .unset, .unset, .unset, .unset] [(.int p2)])) rfl (by rw [hml]; rfl) (argsL := [(.int p2)]) (rest := []) (lenOf pd_2 rfl) rfl (by show 2 * 0 + _ ≤ _; exact Nat.le_of_eq rfl) (hb hby at_25) (fun _ _ => ⟨rfl, e4, (by decide : 0 + 0 ≤ _), (by decide : 0 + 0 ≤ _)⟩)
    dsimp only [Pt.U, Pt.locs, Pt.cells, Pt.slots] at X29 lx29 yx29 zx29 st29 hQ29
    subst lx29 yx29 zx29
    obtain ⟨rfl, N29q, e29⟩ := hQ29
    have N29 := Fr.app N4 N29q
    refine own_lift st29 ?_
    show own_Go p.tables e below (T29.setTop (mkF m 28 #[iv p0, iv p1, iv p2, iv p3, iv p4, iv (own_pos p0), iv (own_pos p1), .unset, .unset, .unset, .unset, .unset, .unset] [(.int (own_pos p2))])) _
    rw [show (own_sel p4 1 p2 p0) = (own_pos p2) from if_pos b1] at join6
    exact join6 _ _ X29 e29 N29
  · have sg30 : ∀ t, Steps p.tables e below (T4.setTop (mkF m 28 #[iv p0, iv p1, iv p2, iv p3, iv p4, iv (own_pos p0), iv (own_pos p1), .unset, .unset, .unset, .unset, .unset, .unset] [(.int (own_pos p0))])) t → Steps p.tables e below (T4.setTop (mkF m 12 #[iv p0, iv p1, iv p2, iv p3, iv p4, iv (own_pos p0), iv (own_pos p1), .unset, .unset, .unset, .unset, .unset, .unset] [])) t := by
      intro t k
      refine XS.iload X4.here hx rfl (hb hby at_12) rfl ?_
      show Steps p.tables e below (T4.setTop (mkF m 14 #[iv p0, iv p1, iv p2, iv p3, iv p4, iv (own_pos p0), iv (own_pos p1), .unset, .unset, .unset, .unset, .unset, .unset] [(.int p4)])) _
      refine XS.iconst X4.here hx rfl (hb hby at_14) ?_
      show Steps p.tables e below (T4.setTop (mkF m 15 #[iv p0, iv p1, iv p2, iv p3, iv p4, iv (own_pos p0), iv (own_pos p1), .unset, .unset, .unset, .unset, .unset, .unset] [(.int 1), (.int p4)])) _
      refine XS.iand X4.here hx rfl (hb hby at_15) rfl ?_
      show Steps p.tables e below (T4.setTop (mkF m 16 #[iv p0, iv p1, iv p2, iv p3, iv p4, iv (own_pos p0), iv (own_pos p1), .unset, .unset, .unset, .unset, .unset, .unset] [(.int (p4 &&& (1 : Int32)))])) _
      refine XS.ifNo X4.here hx rfl (hb hby at_16) rfl ((if0 _ _).trans (feq b1).1) ?_
      show Steps p.tables e below (T4.setTop (mkF m 19 #[iv p0, iv p1, iv p2, iv p3, iv p4, iv (own_pos p0), iv (own_pos p1), .unset, .unset, .unset, .unset, .unset, .unset] [])) _
      refine XS.iload X4.here hx rfl (hb hby at_19) rfl ?_
      show Steps p.tables e below (T4.setTop (mkF m 21 #[iv p0, iv p1, iv p2, iv p3, iv p4, iv (own_pos p0), iv (own_pos p1), .unset, .unset, .unset, .unset, .unset, .unset] [(.int (own_pos p0))])) _
      refine XS.goto X4.here hx rfl (pc0 := 21) (pc' := 28) rfl (hb hby at_21) (by decide) (by decide) ?_
      show Steps p.tables e below (T4.setTop (mkF m 28 #[iv p0, iv p1, iv p2, iv p3, iv p4, iv (own_pos p0), iv (own_pos p1), .unset, .unset, .unset, .unset, .unset, .unset] [(.int (own_pos p0))])) _
      exact k
    refine own_lift sg30 ?_
    show own_Go p.tables e below (T4.setTop (mkF m 28 #[iv p0, iv p1, iv p2, iv p3, iv p4, iv (own_pos p0), iv (own_pos p1), .unset, .unset, .unset, .unset, .unset, .unset] [(.int (own_pos p0))])) _
    rw [show (own_sel p4 1 p2 p0) = (own_pos p0) from if_neg b1] at join6
    exact join6 _ _ X4 e4 N4
theorem pd_5 : parseMethodDescriptor "(I)Ljava/lang/Integer;" = some ⟨[.int], some (.object "java/lang/Integer")⟩ := by decide +kernel
theorem ef_rm0_3N (m : MethodId) (x0 : Int32) (x1 : Int32) (x2 : Int32) (x3 : Int32) (x4 : Int32) : entryFrame m #[(.int x0), (.int x1), (.int x2), (.int x3), (.int x4)] maxLocals = mkF m 0 #[.val (.int x0), .val (.int x1), .val (.int x2), .val (.int x3), .val (.int x4), .unset, .unset, .unset, .unset, .unset, .unset, .unset, .unset] [] := by first | (simp [entryFrame, mkF, argsToLocals, Value.category, maxLocals]; done) | rfl
set_option maxRecDepth 65536 in
set_option maxHeartbeats 40000000 in
theorem rm0_3N (l : Launch) (Z : State) (a0 : Array Value) (hw : ∀ d ∈ tables_1, d.before a0 Z = true) (ws : List Jvm.Cond) (p0 : Int32) (p1 : Int32) (p2 : Int32) (p3 : Int32) (p4 : Int32) (ca : Addr) (cc : Cell) (h0 : Heap) (n0 : Nat) (Z0 : n0 ≤ h0.size) (S1 : Sta Z h0 "java/lang/Integer$IntegerCache" "high" "I" (.int 127)) (S2 : Sta Z h0 "java/lang/Integer$IntegerCache" "cache" "[Ljava/lang/Integer;" (.ref ca)) (A1 : Arr Z h0 ca cc (.object "java/lang/Integer")) (k0 : ¬ ((((p4.toUInt32 >>> ((2 : Int32) &&& 31).toUInt32).toInt32) &&& (3 : Int32)) = (0 : Int32))) (k1 : ¬ ((((p4.toUInt32 >>> ((2 : Int32) &&& 31).toUInt32).toInt32) &&& (3 : Int32)) = (1 : Int32))) (k2 : ¬ ((((p4.toUInt32 >>> ((2 : Int32) &&& 31).toUInt32).toInt32) &&& (3 : Int32)) = (2 : Int32))) (hbg : (127 : Int32) < (own_pos p0)) :
    MetFree l x (head1 (Jvm.Cond.code x code maxLocals ret :: ws) room_1) (fun a U => a = #[(.int p0), (.int p1), (.int p2), (.int p3), (.int p4)] ∧ Z.Warmed39 U.vm ∧ U.heap = h0) (fun _ _ _ _ _ => True) (fun _ U o U' => ∃ v L, o = .returned v ∧ Q0 Z  h0 n0 v U'.heap L ∧ FrameEnd U o U' L 16 128) := by
  refine MetFree.of_bodySF (plainFor_of_name pn_1) hisR ?_
  intro p e s m args below meth c s₁ Bd hml0 hP hK
  obtain ⟨rfl, hZ, hh⟩ := hP
  have hx := Bd.exec
  have hby := Bd.bytes
  have hml : c.maxLocals = 13 := hml0
  have hown : s.vm.findClass "com/example/allsome/allsome/cypher/InputPositionEqualsPinLaw" = some m.cls := findClass_of_methodNamed Bd.named
  have hnm := (name_of_methodNamed Bd.named Bd.method).1
  have X0 : Stand p l e room_1 s m #[(.int p0), (.int p1), (.int p2), (.int p3), (.int p4)] below meth c s₁ [] 0 0 := Stand.of_body Bd
  have e0 : s₁.heap = h0 := by rw [← hh, Bd.state]; rfl
  have N0 := Fr.nil n0
  refine own_go (own_lift (fun t k => castTop (ef_rm0_3N m p0 p1 p2 p3 p4) k) ?_)
  show own_Go p.tables e below (s₁.setTop (mkF m 0 #[iv p0, iv p1, iv p2, iv p3, iv p4, .unset, .unset, .unset, .unset, .unset, .unset, .unset, .unset] [])) _
  have sg1 : ∀ t, Steps p.tables e below (s₁.setTop (mkF m 1 #[iv p0, iv p1, iv p2, iv p3, iv p4, .unset, .unset, .unset, .unset, .unset, .unset, .unset, .unset] [(.int p0)])) t → Steps p.tables e below (s₁.setTop (mkF m 0 #[iv p0, iv p1, iv p2, iv p3, iv p4, .unset, .unset, .unset, .unset, .unset, .unset, .unset, .unset] [])) t := by
    intro t k
    refine XS.iloadN X0.here hx rfl (hb hby at_0) rfl ?_
    show Steps p.tables e below (s₁.setTop (mkF m 1 #[iv p0, iv p1, iv p2, iv p3, iv p4, .unset, .unset, .unset, .unset, .unset, .unset, .unset, .unset] [(.int p0)])) _
    exact k
  refine own_lift sg1 ?_
  show own_Go p.tables e below (s₁.setTop (mkF m 1 #[iv p0, iv p1, iv p2, iv p3, iv p4, .unset, .unset, .unset, .unset, .unset, .unset, .unset, .unset] [(.int p0)])) _
  obtain ⟨_, _, ⟨T2, Lx2, kx2, nx2⟩, -, X2, ⟨Lc2, hQ2, lx2, yx2, zx2⟩, st2⟩ := Jvm.LawKit.callS X0 hx (y := (⟨"com/example/allsome/allsome/cypher/InputPositionEqualsPinLaw", "pos", "(I)I"⟩ : MethodName)) hown (mvT hZ (wd hw 0 rfl)) (mvT hZ (wd hw 1 rfl)) (mvT hZ (wd hw 2 rfl)) (mvT hZ (wd hw 3 rfl)) (by decide) (backOf (W := 0) (rmPos l Z a0 hw [] p0 h0 n0 Z0 ) hZ (wd hw 3 rfl) (wd hw 2 rfl) (by decide) (by decide)) (g := (mkF m 1 #[iv p0, iv p1, iv p2, iv p3, iv p4, .unset, .unset, .unset, .unset, .unset, .unset, .unset, .unset] [(.int p0)])) rfl (by rw [hml]; rfl) (argsL := [(.int p0)]) (rest := []) (lenOf pd_2 rfl) rfl (by show 2 * 0 + _ ≤ _; exact Nat.le_of_eq rfl) (hb hby at_1) (fun _ _ => ⟨rfl, e0, (by decide : 0 + 0 ≤ _), (by decide : 0 + 0 ≤ _)⟩)
  dsimp only [Pt.U, Pt.locs, Pt.cells, Pt.slots] at X2 lx2 yx2 zx2 st2 hQ2
  subst lx2 yx2 zx2
  obtain ⟨rfl, N2q, e2⟩ := hQ2
  have N2 := Fr.app N0 N2q
  refine own_lift st2 ?_
  show own_Go p.tables e below (T2.setTop (mkF m 4 #[iv p0, iv p1, iv p2, iv p3, iv p4, .unset, .unset, .unset, .unset, .unset, .unset, .unset, .unset] [(.int (own_pos p0))])) _
  have sg3 : ∀ t, Steps p.tables e below (T2.setTop (mkF m 7 #[iv p0, iv p1, iv p2, iv p3, iv p4, iv (own_pos p0), .unset, .unset, .unset, .unset, .unset, .unset, .unset] [(.int p1)])) t → Steps p.tables e below (T2.setTop (mkF m 4 #[iv p0, iv p1, iv p2, iv p3, iv p4, .unset, .unset, .unset, .unset, .unset, .unset, .unset, .unset] [(.int (own_pos p0))])) t := by
    intro t k
    refine XS.istore X2.here hx rfl (hb hby at_4) rfl (l' := #[iv p0, iv p1, iv p2, iv p3, iv p4, iv (own_pos p0), .unset, .unset, .unset, .unset, .unset, .unset, .unset]) rfl ?_
    show Steps p.tables e below (T2.setTop (mkF m 6 #[iv p0, iv p1, iv p2, iv p3, iv p4, iv (own_pos p0), .unset, .unset, .unset, .unset, .unset, .unset, .unset] [])) _
    refine XS.iloadN X2.here hx rfl (hb hby at_6) rfl ?_
    show Steps p.tables e below (T2.setTop (mkF m 7 #[iv p0, iv p1, iv p2, iv p3, iv p4, iv (own_pos p0), .unset, .unset, .unset, .unset, .unset, .unset, .unset] [(.int p1)])) _
    exact k
  refine own_lift sg3 ?_
  show own_Go p.tables e below (T2.setTop (mkF m 7 #[iv p0, iv p1, iv p2, iv p3, iv p4, iv (own_pos p0), .unset, .unset, .unset, .unset, .unset, .unset, .unset] [(.int p1)])) _
  obtain ⟨_, _, ⟨T4, Lx4, kx4, nx4⟩, -, X4, ⟨Lc4, hQ4, lx4, yx4, zx4⟩, st4⟩ := Jvm.LawKit.callS X2 hx (y := (⟨"com/example/allsome/allsome/cypher/InputPositionEqualsPinLaw", "pos", "(I)I"⟩ : MethodName)) hown (mvT hZ (wd hw 0 rfl)) (mvT hZ (wd hw 1 rfl)) (mvT hZ (wd hw 2 rfl)) (mvT hZ (wd hw 3 rfl)) (by decide) (backOf (W := 0) (rmPos l Z a0 hw [] p1 h0 n0 Z0 ) hZ (wd hw 3 rfl) (wd hw 2 rfl) (by decide) (by decide)) (g := (mkF m 7 #[iv p0, iv p1, iv p2, iv p3, iv p4, iv (own_pos p0), .unset, .unset, .unset, .unset, .unset, .unset, .unset] [(.int p1)])) rfl (by rw [hml]; rfl) (argsL := [(.int p1)]) (rest := []) (lenOf pd_2 rfl) rfl (by show 2 * 0 + _ ≤ _; exact Nat.le_of_eq rfl) (hb hby at_7) (fun _ _ => ⟨rfl, e2, (by decide : 0 + 0 ≤ _), (by decide : 0 + 0 ≤ _)⟩)
  dsimp only [Pt.U, Pt.locs, Pt.cells, Pt.slots] at X4 lx4 yx4 zx4 st4 hQ4
  subst lx4 yx4 zx4
  obtain ⟨rfl, N4q, e4⟩ := hQ4
  have N4 := Fr.app N2 N4q
  refine own_lift st4 ?_
  show own_Go p.tables e below (T4.setTop (mkF m 10 #[iv p0, iv p1, iv p2, iv p3, iv p4, iv (own_pos p0), .unset, .unset, .unset, .unset, .unset, .unset, .unset] [(.int (own_pos p1))])) _
  have sg5 : ∀ t, Steps p.tables e below (T4.setTop (mkF m 12 #[iv p0, iv p1, iv p2, iv p3, iv p4, iv (own_pos p0), iv (own_pos p1), .unset, .unset, .unset, .unset, .unset, .unset] [])) t → Steps p.tables e below (T4.setTop (mkF m 10 #[iv p0, iv p1, iv p2, iv p3, iv p4, iv (own_pos p0), .unset, .unset, .unset, .unset, .unset, .unset, .unset] [(.int (own_pos p1))])) t := by
    intro t k
    refine XS.istore X4.here hx rfl (hb hby at_10) rfl (l' := #[iv p0, iv p1, iv p2, iv p3, iv p4, iv (own_pos p0), iv (own_pos p1), .unset, .unset, .unset, .unset, .unset, .unset]) rfl ?_
    show Steps p.tables e below (T4.setTop (mkF m 12 #[iv p0, iv p1, iv p2, iv p3, iv p4, iv (own_pos p0), iv (own_pos p1), .unset, .unset, .unset, .unset, .unset, .unset] [])) _
    exact k
  refine own_lift sg5 ?_
  show own_Go p.tables e below (T4.setTop (mkF m 12 #[iv p0, iv p1, iv p2, iv p3, iv p4, iv (own_pos p0), iv (own_pos p1), .unset, .unset, .unset, .unset, .unset, .unset] [])) _
  have join6 : ∀ (T6 : State) (locs6 : List Loc), Stand p l e room_1 s m #[(.int p0), (.int p1), (.int p2), (.int p3), (.int p4)] below meth c T6 locs6 0 0 → T6.heap = h0 → Fr n0 locs6 → own_Go p.tables e below (T6.setTop (mkF m 28 #[iv p0, iv p1, iv p2, iv p3, iv p4, iv (own_pos p0), iv (own_pos p1), .unset, .unset, .unset, .unset, .unset, .unset] [(.int (own_sel p4 1 p2 p0))])) (fun s₂ o => s₂.status = .running ∧ Ended s₂ below o ∧ ∃ v L, o = .returned v ∧ Q0 Z  h0 n0 v s₂.heap L ∧ FrameEnd s o s₂ L 16 128) := by
    intro T6 locs6 X6 e6 N6
    have sg7 : ∀ t, Steps p.tables e below (T6.setTop (mkF m 30 #[iv p0, iv p1, iv p2, iv p3, iv p4, iv (own_pos p0), iv (own_pos p1), iv (own_sel p4 1 p2 p0), .unset, .unset, .unset, .unset, .unset] [])) t → Steps p.tables e below (T6.setTop (mkF m 28 #[iv p0, iv p1, iv p2, iv p3, iv p4, iv (own_pos p0), iv (own_pos p1), .unset, .unset, .unset, .unset, .unset, .unset] [(.int (own_sel p4 1 p2 p0))])) t := by
      intro t k
      refine XS.istore X6.here hx rfl (hb hby at_28) rfl (l' := #[iv p0, iv p1, iv p2, iv p3, iv p4, iv (own_pos p0), iv (own_pos p1), iv (own_sel p4 1 p2 p0), .unset, .unset, .unset, .unset, .unset]) rfl ?_
      show Steps p.tables e below (T6.setTop (mkF m 30 #[iv p0, iv p1, iv p2, iv p3, iv p4, iv (own_pos p0), iv (own_pos p1), iv (own_sel p4 1 p2 p0), .unset, .unset, .unset, .unset, .unset] [])) _
      exact k
    refine own_lift sg7 ?_
    show own_Go p.tables e below (T6.setTop (mkF m 30 #[iv p0, iv p1, iv p2, iv p3, iv p4, iv (own_pos p0), iv (own_pos p1), iv (own_sel p4 1 p2 p0), .unset, .unset, .unset, .unset, .unset] [])) _
    have join8 : ∀ (T8 : State) (locs8 : List Loc), Stand p l e room_1 s m #[(.int p0), (.int p1), (.int p2), (.int p3), (.int p4)] below meth c T8 locs8 0 0 → T8.heap = h0 → Fr n0 locs8 → own_Go p.tables e below (T8.setTop (mkF m 46 #[iv p0, iv p1, iv p2, iv p3, iv p4, iv (own_pos p0), iv (own_pos p1), iv (own_sel p4 1 p2 p0), .unset, .unset, .unset, .unset, .unset] [(.int (own_sel p4 2 p3 p1))])) (fun s₂ o => s₂.status = .running ∧ Ended s₂ below o ∧ ∃ v L, o = .returned v ∧ Q0 Z  h0 n0 v s₂.heap L ∧ FrameEnd s o s₂ L 16 128) := by
      intro T8 locs8 X8 e8 N8
      have sg9 : ∀ t, Steps p.tables e below (T8.setTop (mkF m 48 #[iv p0, iv p1, iv p2, iv p3, iv p4, iv (own_pos p0), iv (own_pos p1), iv (own_sel p4 1 p2 p0), iv (own_sel p4 2 p3 p1), .unset, .unset, .unset, .unset] [])) t → Steps p.tables e below (T8.setTop (mkF m 46 #[iv p0, iv p1, iv p2, iv p3, iv p4, iv (own_pos p0), iv (own_pos p1), iv (own_sel p4 1 p2 p0), .unset, .unset, .unset, .unset, .unset] [(.int (own_sel p4 2 p3 p1))])) t := by
        intro t k
        refine XS.istore X8.here hx rfl (hb hby at_46) rfl (l' := #[iv p0, iv p1, iv p2, iv p3, iv p4, iv (own_pos p0), iv (own_pos p1), iv (own_sel p4 1 p2 p0), iv (own_sel p4 2 p3 p1), .unset, .unset, .unset, .unset]) rfl ?_
        show Steps p.tables e below (T8.setTop (mkF m 48 #[iv p0, iv p1, iv p2, iv p3, iv p4, iv (own_pos p0), iv (own_pos p1), iv (own_sel p4 1 p2 p0), iv (own_sel p4 2 p3 p1), .unset, .unset, .unset, .unset] [])) _
        exact k
      refine own_lift sg9 ?_
      show own_Go p.tables e below (T8.setTop (mkF m 48 #[iv p0, iv p1, iv p2, iv p3, iv p4, iv (own_pos p0), iv (own_pos p1), iv (own_sel p4 1 p2 p0), iv (own_sel p4 2 p3 p1), .unset, .unset, .unset, .unset] [])) _
      obtain ⟨T10, h10, X10, e10, Ex10, Ax10, Dx10, Ux10, st10⟩ := newO X8 hx hZ hown (wd hw 5 rfl) (wd hw 6 rfl) (wd hw 7 rfl) e8 (g := (mkF m 48 #[iv p0, iv p1, iv p2, iv p3, iv p4, iv (own_pos p0), iv (own_pos p1), iv (own_sel p4 1 p2 p0), iv (own_sel p4 2 p3 p1), .unset, .unset, .unset, .unset] [])) rfl (hb hby at_48) (by decide) (by decide)
      obtain ⟨ob10, g10⟩ : ∃ z, z = h0.size := ⟨_, rfl⟩
      rw [← g10] at Ax10 Dx10 Ux10 st10
      have ne11 : ca ≠ ob10 := Nat.ne_of_lt (Nat.lt_of_lt_of_le A1.lt (Nat.le_of_eq g10.symm))
      have Z10 : n0 ≤ h10.size := Nat.le_trans Z0 Ex10.1
      have ge10 : n0 ≤ ob10 := Nat.le_trans Z0 (Nat.le_of_eq g10.symm)
      have Fn10_15 : Fld Z h10 ob10 "com/example/allsome/allsome/cypher/InputPosition" "line" "I" (.int 0) := Dx10 (Or.inr (wd hw 15 rfl)) (ty := .int) (by decide)
      have Fn10_17 : Fld Z h10 ob10 "com/example/allsome/allsome/cypher/InputPosition" "column" "I" (.int 0) := Dx10 (Or.inr (wd hw 17 rfl)) (ty := .int) (by decide)
      refine own_lift st10 ?_
      show own_Go p.tables e below (T10.setTop (mkF m 51 #[iv p0, iv p1, iv p2, iv p3, iv p4, iv (own_pos p0), iv (own_pos p1), iv (own_sel p4 1 p2 p0), iv (own_sel p4 2 p3 p1), .unset, .unset, .unset, .unset] [(.ref ob10)])) _
      have sg12 : ∀ t, Steps p.tables e below (T10.setTop (mkF m 56 #[iv p0, iv p1, iv p2, iv p3, iv p4, iv (own_pos p0), iv (own_pos p1), iv (own_sel p4 1 p2 p0), iv (own_sel p4 2 p3 p1), .unset, .unset, .unset, .unset] [(.int (own_pos p1)), (.int (own_pos p0)), (.ref ob10), (.ref ob10)])) t → Steps p.tables e below (T10.setTop (mkF m 51 #[iv p0, iv p1, iv p2, iv p3, iv p4, iv (own_pos p0), iv (own_pos p1), iv (own_sel p4 1 p2 p0), iv (own_sel p4 2 p3 p1), .unset, .unset, .unset, .unset] [(.ref ob10)])) t := by
        intro t k
        refine XS.dup X10.here hx rfl (hb hby at_51) rfl rfl ?_
        show Steps p.tables e below (T10.setTop (mkF m 52 #[iv p0, iv p1, iv p2, iv p3, iv p4, iv (own_pos p0), iv (own_pos p1), iv (own_sel p4 1 p2 p0), iv (own_sel p4 2 p3 p1), .unset, .unset, .unset, .unset] [(.ref ob10), (.ref ob10)])) _
        refine XS.iload X10.here hx rfl (hb hby at_52) rfl ?_
        show Steps p.tables e below (T10.setTop (mkF m 54 #[iv p0, iv p1, iv p2, iv p3, iv p4, iv (own_pos p0), iv (own_pos p1), iv (own_sel p4 1 p2 p0), iv (own_sel p4 2 p3 p1), .unset, .unset, .unset, .unset] [(.int (own_pos p0)), (.ref ob10), (.ref ob10)])) _
        refine XS.iload X10.here hx rfl (hb hby at_54) rfl ?_
        show Steps p.tables e below (T10.setTop (mkF m 56 #[iv p0, iv p1, iv p2, iv p3, iv p4, iv (own_pos p0), iv (own_pos p1), iv (own_sel p4 1 p2 p0), iv (own_sel p4 2 p3 p1), .unset, .unset, .unset, .unset] [(.int (own_pos p1)), (.int (own_pos p0)), (.ref ob10), (.ref ob10)])) _
        exact k
      refine own_lift sg12 ?_
      show own_Go p.tables e below (T10.setTop (mkF m 56 #[iv p0, iv p1, iv p2, iv p3, iv p4, iv (own_pos p0), iv (own_pos p1), iv (own_sel p4 1 p2 p0), iv (own_sel p4 2 p3 p1), .unset, .unset, .unset, .unset] [(.int (own_pos p1)), (.int (own_pos p0)), (.ref ob10), (.ref ob10)])) _
      obtain ⟨_, _, ⟨T13, Lx13, kx13, nx13⟩, -, X13, ⟨Lc13, hQ13, lx13, yx13, zx13⟩, st13⟩ := X10.specialBack hx (y := (⟨"com/example/allsome/allsome/cypher/InputPosition", "<init>", "(II)V"⟩ : MethodName)) rfl hown (mvT hZ (wd hw 8 rfl)) (mvT hZ (wd hw 9 rfl)) (mvT hZ (wd hw 10 rfl)) (by decide) (backOf (W := 1) (rmInit l Z a0 hw [] ob10 (own_pos p0) (own_pos p1) h10 n0 Z10 Fn10_15 Fn10_17 Ax10 ge10 (own_pos_ge p0) (own_pos_ge p1)) hZ (wd hw 10 rfl) (wd hw 7 rfl) (by decide) (by decide)) (g := (mkF m 56 #[iv p0, iv p1, iv p2, iv p3, iv p4, iv (own_pos p0), iv (own_pos p1), iv (own_sel p4 1 p2 p0), iv (own_sel p4 2 p3 p1), .unset, .unset, .unset, .unset] [(.int (own_pos p1)), (.int (own_pos p0)), (.ref ob10), (.ref ob10)])) rfl (by rw [hml]; rfl) (Steps.refl _) (a := ob10) (argsL := [(.int (own_pos p0)), (.int (own_pos p1))]) (rest := [(.ref ob10)]) (lenOf pd_3 rfl) rfl (by show 2 * 0 + _ ≤ _; exact Nat.le_of_eq rfl) (hb hby at_56) (fun _ _ => ⟨rfl, e10, (by decide : 1 + 0 ≤ _), (by decide : 2 + 0 ≤ _)⟩)
      dsimp only [Pt.U, Pt.locs, Pt.cells, Pt.slots] at X13 lx13 yx13 zx13 st13 hQ13
      subst lx13 yx13 zx13
      obtain ⟨rfl, N13q, p13_0, p13_1, p13_2, p13_3⟩ := hQ13
      have N13 := Fr.app N8 N13q
      have Z13 : n0 ≤ T13.heap.size := Nat.le_trans Z10 p13_0.1
      refine own_lift (fun t k => st13.trans k) ?_
      show own_Go p.tables e below (T13.setTop (mkF m 59 #[iv p0, iv p1, iv p2, iv p3, iv p4, iv (own_pos p0), iv (own_pos p1), iv (own_sel p4 1 p2 p0), iv (own_sel p4 2 p3 p1), .unset, .unset, .unset, .unset] [(.ref ob10)])) _
      have sg14 : ∀ t, Steps p.tables e below (T13.setTop (mkF m 61 #[iv p0, iv p1, iv p2, iv p3, iv p4, iv (own_pos p0), iv (own_pos p1), iv (own_sel p4 1 p2 p0), iv (own_sel p4 2 p3 p1), rv ob10, .unset, .unset, .unset] [])) t → Steps p.tables e below (T13.setTop (mkF m 59 #[iv p0, iv p1, iv p2, iv p3, iv p4, iv (own_pos p0), iv (own_pos p1), iv (own_sel p4 1 p2 p0), iv (own_sel p4 2 p3 p1), .unset, .unset, .unset, .unset] [(.ref ob10)])) t := by
        intro t k
        refine XS.astore X13.here hx rfl (hb hby at_59) rfl rfl (l' := #[iv p0, iv p1, iv p2, iv p3, iv p4, iv (own_pos p0), iv (own_pos p1), iv (own_sel p4 1 p2 p0), iv (own_sel p4 2 p3 p1), rv ob10, .unset, .unset, .unset]) rfl ?_
        show Steps p.tables e below (T13.setTop (mkF m 61 #[iv p0, iv p1, iv p2, iv p3, iv p4, iv (own_pos p0), iv (own_pos p1), iv (own_sel p4 1 p2 p0), iv (own_sel p4 2 p3 p1), rv ob10, .unset, .unset, .unset] [])) _
        exact k
      refine own_lift sg14 ?_
      show own_Go p.tables e below (T13.setTop (mkF m 61 #[iv p0, iv p1, iv p2, iv p3, iv p4, iv (own_pos p0), iv (own_pos p1), iv (own_sel p4 1 p2 p0), iv (own_sel p4 2 p3 p1), rv ob10, .unset, .unset, .unset] [])) _
      obtain ⟨T15, h15, X15, e15, Ex15, Ax15, Dx15, Ux15, st15⟩ := newO X13 hx hZ hown (wd hw 5 rfl) (wd hw 6 rfl) (wd hw 7 rfl) rfl (g := (mkF m 61 #[iv p0, iv p1, iv p2, iv p3, iv p4, iv (own_pos p0), iv (own_pos p1), iv (own_sel p4 1 p2 p0), iv (own_sel p4 2 p3 p1), rv ob10, .unset, .unset, .unset] [])) rfl (hb hby at_61) (by decide) (by decide)
      obtain ⟨ob15, g15⟩ : ∃ z, z = T13.heap.size := ⟨_, rfl⟩
      rw [← g15] at Ax15 Dx15 Ux15 st15
      have Fc16 : Arr Z T13.heap ca cc (.object "java/lang/Integer") := (own_Arr_keep (A1.ext Ex10) p13_0 (ninS ne11 nin0))
      have ne17 : ca ≠ ob15 := Nat.ne_of_lt (Nat.lt_of_lt_of_le Fc16.lt (Nat.le_of_eq g15.symm))
      have ne18 : ob10 ≠ ob15 := Nat.ne_of_lt (Nat.lt_of_lt_of_le p13_1.lt (Nat.le_of_eq g15.symm))
      have Z15 : n0 ≤ h15.size := Nat.le_trans Z13 Ex15.1
      have ge15 : n0 ≤ ob15 := Nat.le_trans Z13 (Nat.le_of_eq g15.symm)
      have Fn15_15 : Fld Z h15 ob15 "com/example/allsome/allsome/cypher/InputPosition" "line" "I" (.int 0) := Dx15 (Or.inr (wd hw 15 rfl)) (ty := .int) (by decide)
      have Fn15_17 : Fld Z h15 ob15 "com/example/allsome/allsome/cypher/InputPosition" "column" "I" (.int 0) := Dx15 (Or.inr (wd hw 17 rfl)) (ty := .int) (by decide)
      refine own_lift st15 ?_
      show own_Go p.tables e below (T15.setTop (mkF m 64 #[iv p0, iv p1, iv p2, iv p3, iv p4, iv (own_pos p0), iv (own_pos p1), iv (own_sel p4 1 p2 p0), iv (own_sel p4 2 p3 p1), rv ob10, .unset, .unset, .unset] [(.ref ob15)])) _
      have sg19 : ∀ t, Steps p.tables e below (T15.setTop (mkF m 69 #[iv p0, iv p1, iv p2, iv p3, iv p4, iv (own_pos p0), iv (own_pos p1), iv (own_sel p4 1 p2 p0), iv (own_sel p4 2 p3 p1), rv ob10, .unset, .unset, .unset] [(.int (own_sel p4 2 p3 p1)), (.int (own_sel p4 1 p2 p0)), (.ref ob15), (.ref ob15)])) t → Steps p.tables e below (T15.setTop (mkF m 64 #[iv p0, iv p1, iv p2, iv p3, iv p4, iv (own_pos p0), iv (own_pos p1), iv (own_sel p4 1 p2 p0), iv (own_sel p4 2 p3 p1), rv ob10, .unset, .unset, .unset] [(.ref ob15)])) t := by
        intro t k
        refine XS.dup X15.here hx rfl (hb hby at_64) rfl rfl ?_
        show Steps p.tables e below (T15.setTop (mkF m 65 #[iv p0, iv p1, iv p2, iv p3, iv p4, iv (own_pos p0), iv (own_pos p1), iv (own_sel p4 1 p2 p0), iv (own_sel p4 2 p3 p1), rv ob10, .unset, .unset, .unset] [(.ref ob15), (.ref ob15)])) _
        refine XS.iload X15.here hx rfl (hb hby at_65) rfl ?_
        show Steps p.tables e below (T15.setTop (mkF m 67 #[iv p0, iv p1, iv p2, iv p3, iv p4, iv (own_pos p0), iv (own_pos p1), iv (own_sel p4 1 p2 p0), iv (own_sel p4 2 p3 p1), rv ob10, .unset, .unset, .unset] [(.int (own_sel p4 1 p2 p0)), (.ref ob15), (.ref ob15)])) _
        refine XS.iload X15.here hx rfl (hb hby at_67) rfl ?_
        show Steps p.tables e below (T15.setTop (mkF m 69 #[iv p0, iv p1, iv p2, iv p3, iv p4, iv (own_pos p0), iv (own_pos p1), iv (own_sel p4 1 p2 p0), iv (own_sel p4 2 p3 p1), rv ob10, .unset, .unset, .unset] [(.int (own_sel p4 2 p3 p1)), (.int (own_sel p4 1 p2 p0)), (.ref ob15), (.ref ob15)])) _
        exact k
      refine own_lift sg19 ?_
      show own_Go p.tables e below (T15.setTop (mkF m 69 #[iv p0, iv p1, iv p2, iv p3, iv p4, iv (own_pos p0), iv (own_pos p1), iv (own_sel p4 1 p2 p0), iv (own_sel p4 2 p3 p1), rv ob10, .unset, .unset, .unset] [(.int (own_sel p4 2 p3 p1)), (.int (own_sel p4 1 p2 p0)), (.ref ob15), (.ref ob15)])) _
      obtain ⟨_, _, ⟨T20, Lx20, kx20, nx20⟩, -, X20, ⟨Lc20, hQ20, lx20, yx20, zx20⟩, st20⟩ := X15.specialBack hx (y := (⟨"com/example/allsome/allsome/cypher/InputPosition", "<init>", "(II)V"⟩ : MethodName)) rfl hown (mvT hZ (wd hw 8 rfl)) (mvT hZ (wd hw 9 rfl)) (mvT hZ (wd hw 10 rfl)) (by decide) (backOf (W := 1) (rmInit l Z a0 hw [] ob15 (own_sel p4 1 p2 p0) (own_sel p4 2 p3 p1) h15 n0 Z15 Fn15_15 Fn15_17 Ax15 ge15 (own_sel_ge _ _ _ _) (own_sel_ge _ _ _ _)) hZ (wd hw 10 rfl) (wd hw 7 rfl) (by decide) (by decide)) (g := (mkF m 69 #[iv p0, iv p1, iv p2, iv p3, iv p4, iv (own_pos p0), iv (own_pos p1), iv (own_sel p4 1 p2 p0), iv (own_sel p4 2 p3 p1), rv ob10, .unset, .unset, .unset] [(.int (own_sel p4 2 p3 p1)), (.int (own_sel p4 1 p2 p0)), (.ref ob15), (.ref ob15)])) rfl (by rw [hml]; rfl) (Steps.refl _) (a := ob15) (argsL := [(.int (own_sel p4 1 p2 p0)), (.int (own_sel p4 2 p3 p1))]) (rest := [(.ref ob15)]) (lenOf pd_3 rfl) rfl (by show 2 * 0 + _ ≤ _; exact Nat.le_of_eq rfl) (hb hby at_69) (fun _ _ => ⟨rfl, e15, (by decide : 2 + 0 ≤ _), (by decide : 4 + 0 ≤ _)⟩)
      dsimp only [Pt.U, Pt.locs, Pt.cells, Pt.slots] at X20 lx20 yx20 zx20 st20 hQ20
      subst lx20 yx20 zx20
      obtain ⟨rfl, N20q, p20_0, p20_1, p20_2, p20_3⟩ := hQ20
      have N20 := Fr.app N13 N20q
      have Z20 : n0 ≤ T20.heap.size := Nat.le_trans Z15 p20_0.1
      refine own_lift (fun t k => st20.trans k) ?_
      show own_Go p.tables e below (T20.setTop (mkF m 72 #[iv p0, iv p1, iv p2, iv p3, iv p4, iv (own_pos p0), iv (own_pos p1), iv (own_sel p4 1 p2 p0), iv (own_sel p4 2 p3 p1), rv ob10, .unset, .unset, .unset] [(.ref ob15)])) _
      have sg21 : ∀ t, Steps p.tables e below (T20.setTop (mkF m 175 #[iv p0, iv p1, iv p2, iv p3, iv p4, iv (own_pos p0), iv (own_pos p1), iv (own_sel p4 1 p2 p0), iv (own_sel p4 2 p3 p1), rv ob10, rv ob15, iv (((p4.toUInt32 >>> ((2 : Int32) &&& 31).toUInt32).toInt32) &&& (3 : Int32)), .unset] [(.int (own_pos p0))])) t → Steps p.tables e below (T20.setTop (mkF m 72 #[iv p0, iv p1, iv p2, iv p3, iv p4, iv (own_pos p0), iv (own_pos p1), iv (own_sel p4 1 p2 p0), iv (own_sel p4 2 p3 p1), rv ob10, .unset, .unset, .unset] [(.ref ob15)])) t := by
        intro t k
        refine XS.astore X20.here hx rfl (hb hby at_72) rfl rfl (l' := #[iv p0, iv p1, iv p2, iv p3, iv p4, iv (own_pos p0), iv (own_pos p1), iv (own_sel p4 1 p2 p0), iv (own_sel p4 2 p3 p1), rv ob10, rv ob15, .unset, .unset]) rfl ?_
        show Steps p.tables e below (T20.setTop (mkF m 74 #[iv p0, iv p1, iv p2, iv p3, iv p4, iv (own_pos p0), iv (own_pos p1), iv (own_sel p4 1 p2 p0), iv (own_sel p4 2 p3 p1), rv ob10, rv ob15, .unset, .unset] [])) _
        refine XS.iload X20.here hx rfl (hb hby at_74) rfl ?_
        show Steps p.tables e below (T20.setTop (mkF m 76 #[iv p0, iv p1, iv p2, iv p3, iv p4, iv (own_pos p0), iv (own_pos p1), iv (own_sel p4 1 p2 p0), iv (own_sel p4 2 p3 p1), rv ob10, rv ob15, .unset, .unset] [(.int p4)])) _
        refine XS.iconst X20.here hx rfl (hb hby at_76) ?_
        show Steps p.tables e below (T20.setTop (mkF m 77 #[iv p0, iv p1, iv p2, iv p3, iv p4, iv (own_pos p0), iv (own_pos p1), iv (own_sel p4 1 p2 p0), iv (own_sel p4 2 p3 p1), rv ob10, rv ob15, .unset, .unset] [(.int 2), (.int p4)])) _
        refine XS.iushr X20.here hx rfl (hb hby at_77) rfl ?_
        show Steps p.tables e below (T20.setTop (mkF m 78 #[iv p0, iv p1, iv p2, iv p3, iv p4, iv (own_pos p0), iv (own_pos p1), iv (own_sel p4 1 p2 p0), iv (own_sel p4 2 p3 p1), rv ob10, rv ob15, .unset, .unset] [(.int ((p4.toUInt32 >>> ((2 : Int32) &&& 31).toUInt32).toInt32))])) _
        refine XS.iconst X20.here hx rfl (hb hby at_78) ?_
        show Steps p.tables e below (T20.setTop (mkF m 79 #[iv p0, iv p1, iv p2, iv p3, iv p4, iv (own_pos p0), iv (own_pos p1), iv (own_sel p4 1 p2 p0), iv (own_sel p4 2 p3 p1), rv ob10, rv ob15, .unset, .unset] [(.int 3), (.int ((p4.toUInt32 >>> ((2 : Int32) &&& 31).toUInt32).toInt32))])) _
        refine XS.iand X20.here hx rfl (hb hby at_79) rfl ?_
        show Steps p.tables e below (T20.setTop (mkF m 80 #[iv p0, iv p1, iv p2, iv p3, iv p4, iv (own_pos p0), iv (own_pos p1), iv (own_sel p4 1 p2 p0), iv (own_sel p4 2 p3 p1), rv ob10, rv ob15, .unset, .unset] [(.int (((p4.toUInt32 >>> ((2 : Int32) &&& 31).toUInt32).toInt32) &&& (3 : Int32)))])) _
        refine XS.istore X20.here hx rfl (hb hby at_80) rfl (l' := #[iv p0, iv p1, iv p2, iv p3, iv p4, iv (own_pos p0), iv (own_pos p1), iv (own_sel p4 1 p2 p0), iv (own_sel p4 2 p3 p1), rv ob10, rv ob15, iv (((p4.toUInt32 >>> ((2 : Int32) &&& 31).toUInt32).toInt32) &&& (3 : Int32)), .unset]) rfl ?_
        show Steps p.tables e below (T20.setTop (mkF m 82 #[iv p0, iv p1, iv p2, iv p3, iv p4, iv (own_pos p0), iv (own_pos p1), iv (own_sel p4 1 p2 p0), iv (own_sel p4 2 p3 p1), rv ob10, rv ob15, iv (((p4.toUInt32 >>> ((2 : Int32) &&& 31).toUInt32).toInt32) &&& (3 : Int32)), .unset] [])) _
        refine XS.iload X20.here hx rfl (hb hby at_82) rfl ?_
        show Steps p.tables e below (T20.setTop (mkF m 84 #[iv p0, iv p1, iv p2, iv p3, iv p4, iv (own_pos p0), iv (own_pos p1), iv (own_sel p4 1 p2 p0), iv (own_sel p4 2 p3 p1), rv ob10, rv ob15, iv (((p4.toUInt32 >>> ((2 : Int32) &&& 31).toUInt32).toInt32) &&& (3 : Int32)), .unset] [(.int (((p4.toUInt32 >>> ((2 : Int32) &&& 31).toUInt32).toInt32) &&& (3 : Int32)))])) _
        refine XS.ifYes X20.here hx rfl (pc0 := 84) (pc' := 138) rfl (hb hby at_84) rfl ((if0 _ _).trans (feq k0).2) (by decide) (by decide) ?_
        show Steps p.tables e below (T20.setTop (mkF m 138 #[iv p0, iv p1, iv p2, iv p3, iv p4, iv (own_pos p0), iv (own_pos p1), iv (own_sel p4 1 p2 p0), iv (own_sel p4 2 p3 p1), rv ob10, rv ob15, iv (((p4.toUInt32 >>> ((2 : Int32) &&& 31).toUInt32).toInt32) &&& (3 : Int32)), .unset] [])) _
        refine XS.iload X20.here hx rfl (hb hby at_138) rfl ?_
        show Steps p.tables e below (T20.setTop (mkF m 140 #[iv p0, iv p1, iv p2, iv p3, iv p4, iv (own_pos p0), iv (own_pos p1), iv (own_sel p4 1 p2 p0), iv (own_sel p4 2 p3 p1), rv ob10, rv ob15, iv (((p4.toUInt32 >>> ((2 : Int32) &&& 31).toUInt32).toInt32) &&& (3 : Int32)), .unset] [(.int (((p4.toUInt32 >>> ((2 : Int32) &&& 31).toUInt32).toInt32) &&& (3 : Int32)))])) _
        refine XS.iconst X20.here hx rfl (hb hby at_140) ?_
        show Steps p.tables e below (T20.setTop (mkF m 141 #[iv p0, iv p1, iv p2, iv p3, iv p4, iv (own_pos p0), iv (own_pos p1), iv (own_sel p4 1 p2 p0), iv (own_sel p4 2 p3 p1), rv ob10, rv ob15, iv (((p4.toUInt32 >>> ((2 : Int32) &&& 31).toUInt32).toInt32) &&& (3 : Int32)), .unset] [(.int 1), (.int (((p4.toUInt32 >>> ((2 : Int32) &&& 31).toUInt32).toInt32) &&& (3 : Int32)))])) _
        refine XS.icmpYes X20.here hx rfl (pc0 := 141) (pc' := 152) rfl (hb hby at_141) rfl (feq k1).2 (by decide) (by decide) ?_
        show Steps p.tables e below (T20.setTop (mkF m 152 #[iv p0, iv p1, iv p2, iv p3, iv p4, iv (own_pos p0), iv (own_pos p1), iv (own_sel p4 1 p2 p0), iv (own_sel p4 2 p3 p1), rv ob10, rv ob15, iv (((p4.toUInt32 >>> ((2 : Int32) &&& 31).toUInt32).toInt32) &&& (3 : Int32)), .unset] [])) _
        refine XS.iload X20.here hx rfl (hb hby at_152) rfl ?_
        show Steps p.tables e below (T20.setTop (mkF m 154 #[iv p0, iv p1, iv p2, iv p3, iv p4, iv (own_pos p0), iv (own_pos p1), iv (own_sel p4 1 p2 p0), iv (own_sel p4 2 p3 p1), rv ob10, rv ob15, iv (((p4.toUInt32 >>> ((2 : Int32) &&& 31).toUInt32).toInt32) &&& (3 : Int32)), .unset] [(.int (((p4.toUInt32 >>> ((2 : Int32) &&& 31).toUInt32).toInt32) &&& (3 : Int32)))])) _
        refine XS.iconst X20.here hx rfl (hb hby at_154) ?_
        show Steps p.tables e below (T20.setTop (mkF m 155 #[iv p0, iv p1, iv p2, iv p3, iv p4, iv (own_pos p0), iv (own_pos p1), iv (own_sel p4 1 p2 p0), iv (own_sel p4 2 p3 p1), rv ob10, rv ob15, iv (((p4.toUInt32 >>> ((2 : Int32) &&& 31).toUInt32).toInt32) &&& (3 : Int32)), .unset] [(.int 2), (.int (((p4.toUInt32 >>> ((2 : Int32) &&& 31).toUInt32).toInt32) &&& (3 : Int32)))])) _
        refine XS.icmpYes X20.here hx rfl (pc0 := 155) (pc' := 173) rfl (hb hby at_155) rfl (feq k2).2 (by decide) (by decide) ?_
        show Steps p.tables e below (T20.setTop (mkF m 173 #[iv p0, iv p1, iv p2, iv p3, iv p4, iv (own_pos p0), iv (own_pos p1), iv (own_sel p4 1 p2 p0), iv (own_sel p4 2 p3 p1), rv ob10, rv ob15, iv (((p4.toUInt32 >>> ((2 : Int32) &&& 31).toUInt32).toInt32) &&& (3 : Int32)), .unset] [])) _
        refine XS.iload X20.here hx rfl (hb hby at_173) rfl ?_
        show Steps p.tables e below (T20.setTop (mkF m 175 #[iv p0, iv p1, iv p2, iv p3, iv p4, iv (own_pos p0), iv (own_pos p1), iv (own_sel p4 1 p2 p0), iv (own_sel p4 2 p3 p1), rv ob10, rv ob15, iv (((p4.toUInt32 >>> ((2 : Int32) &&& 31).toUInt32).toInt32) &&& (3 : Int32)), .unset] [(.int (own_pos p0))])) _
        exact k
      refine own_lift sg21 ?_
      show own_Go p.tables e below (T20.setTop (mkF m 175 #[iv p0, iv p1, iv p2, iv p3, iv p4, iv (own_pos p0), iv (own_pos p1), iv (own_sel p4 1 p2 p0), iv (own_sel p4 2 p3 p1), rv ob10, rv ob15, iv (((p4.toUInt32 >>> ((2 : Int32) &&& 31).toUInt32).toInt32) &&& (3 : Int32)), .unset] [(.int (own_pos p0))])) _
      have Fc22 : Sta Z T20.heap "java/lang/Integer$IntegerCache" "high" "I" (.int 127) := (own_Sta_keep ((own_Sta_keep (S1.ext Ex10) p13_0 (allS (own_plain Ax10) all0)).ext Ex15) p20_0 (allS (own_plain Ax15) all0))
      obtain ⟨_, _, ⟨T23, Lx23, kx23, nx23⟩, -, X23, ⟨Lc23, hQ23, lx23, yx23, zx23⟩, st23⟩ := Jvm.LawKit.callS X20 hx (y := (⟨"java/lang/Integer", "valueOf", "(I)Ljava/lang/Integer;"⟩ : MethodName)) hown (mvT hZ (wd hw 25 rfl)) (mvT hZ (wd hw 26 rfl)) (mvT hZ (wd hw 27 rfl)) (mvT hZ (wd hw 28 rfl)) (by decide) (backOf (W := 0) (rmValN l Z a0 hw [] (own_pos p0) T20.heap n0 Z20 Fc22 (own_pos_lo p0) hbg) hZ (wd hw 28 rfl) (wd hw 27 rfl) (by decide) (by decide)) (g := (mkF m 175 #[iv p0, iv p1, iv p2, iv p3, iv p4, iv (own_pos p0), iv (own_pos p1), iv (own_sel p4 1 p2 p0), iv (own_sel p4 2 p3 p1), rv ob10, rv ob15, iv (((p4.toUInt32 >>> ((2 : Int32) &&& 31).toUInt32).toInt32) &&& (3 : Int32)), .unset] [(.int (own_pos p0))])) rfl (by rw [hml]; rfl) (argsL := [(.int (own_pos p0))]) (rest := []) (lenOf pd_5 rfl) rfl (by show 2 * 0 + _ ≤ _; exact Nat.le_of_eq rfl) (hb hby at_175) (fun _ _ => ⟨rfl, rfl, (by decide : 2 + 1 ≤ _), (by decide : 4 + 1 ≤ _)⟩)
      dsimp only [Pt.U, Pt.locs, Pt.cells, Pt.slots] at X23 lx23 yx23 zx23 st23 hQ23
      subst lx23 yx23 zx23
      obtain ⟨xb_23, rfl, N23q, p23_0, p23_1⟩ := hQ23
      have N23 := Fr.app N20 N23q
      have Z23 : n0 ≤ T23.heap.size := Nat.le_trans Z20 p23_0.1
      refine own_lift st23 ?_
      show own_Go p.tables e below (T23.setTop (mkF m 178 #[iv p0, iv p1, iv p2, iv p3, iv p4, iv (own_pos p0), iv (own_pos p1), iv (own_sel p4 1 p2 p0), iv (own_sel p4 2 p3 p1), rv ob10, rv ob15, iv (((p4.toUInt32 >>> ((2 : Int32) &&& 31).toUInt32).toInt32) &&& (3 : Int32)), .unset] [(.ref xb_23)])) _
      have sg24 : ∀ t, Steps p.tables e below (T23.setTop (mkF m 184 #[iv p0, iv p1, iv p2, iv p3, iv p4, iv (own_pos p0), iv (own_pos p1), iv (own_sel p4 1 p2 p0), iv (own_sel p4 2 p3 p1), rv ob10, rv ob15, iv (((p4.toUInt32 >>> ((2 : Int32) &&& 31).toUInt32).toInt32) &&& (3 : Int32)), rv xb_23] [(.ref xb_23), (.ref ob10)])) t → Steps p.tables e below (T23.setTop (mkF m 178 #[iv p0, iv p1, iv p2, iv p3, iv p4, iv (own_pos p0), iv (own_pos p1), iv (own_sel p4 1 p2 p0), iv (own_sel p4 2 p3 p1), rv ob10, rv ob15, iv (((p4.toUInt32 >>> ((2 : Int32) &&& 31).toUInt32).toInt32) &&& (3 : Int32)), .unset] [(.ref xb_23)])) t := by
        intro t k
        refine XS.astore X23.here hx rfl (hb hby at_178) rfl rfl (l' := #[iv p0, iv p1, iv p2, iv p3, iv p4, iv (own_pos p0), iv (own_pos p1), iv (own_sel p4 1 p2 p0), iv (own_sel p4 2 p3 p1), rv ob10, rv ob15, iv (((p4.toUInt32 >>> ((2 : Int32) &&& 31).toUInt32).toInt32) &&& (3 : Int32)), rv xb_23]) rfl ?_
        show Steps p.tables e below (T23.setTop (mkF m 180 #[iv p0, iv p1, iv p2, iv p3, iv p4, iv (own_pos p0), iv (own_pos p1), iv (own_sel p4 1 p2 p0), iv (own_sel p4 2 p3 p1), rv ob10, rv ob15, iv (((p4.toUInt32 >>> ((2 : Int32) &&& 31).toUInt32).toInt32) &&& (3 : Int32)), rv xb_23] [])) _
        refine XS.aload X23.here hx rfl (hb hby at_180) rfl rfl ?_
        show Steps p.tables e below (T23.setTop (mkF m 182 #[iv p0, iv p1, iv p2, iv p3, iv p4, iv (own_pos p0), iv (own_pos p1), iv (own_sel p4 1 p2 p0), iv (own_sel p4 2 p3 p1), rv ob10, rv ob15, iv (((p4.toUInt32 >>> ((2 : Int32) &&& 31).toUInt32).toInt32) &&& (3 : Int32)), rv xb_23] [(.ref ob10)])) _
        refine XS.aload X23.here hx rfl (hb hby at_182) rfl rfl ?_
        show Steps p.tables e below (T23.setTop (mkF m 184 #[iv p0, iv p1, iv p2, iv p3, iv p4, iv (own_pos p0), iv (own_pos p1), iv (own_sel p4 1 p2 p0), iv (own_sel p4 2 p3 p1), rv ob10, rv ob15, iv (((p4.toUInt32 >>> ((2 : Int32) &&& 31).toUInt32).toInt32) &&& (3 : Int32)), rv xb_23] [(.ref xb_23), (.ref ob10)])) _
        exact k
      refine own_lift sg24 ?_
      show own_Go p.tables e below (T23.setTop (mkF m 184 #[iv p0, iv p1, iv p2, iv p3, iv p4, iv (own_pos p0), iv (own_pos p1), iv (own_sel p4 1 p2 p0), iv (own_sel p4 2 p3 p1), rv ob10, rv ob15, iv (((p4.toUInt32 >>> ((2 : Int32) &&& 31).toUInt32).toInt32) &&& (3 : Int32)), rv xb_23] [(.ref xb_23), (.ref ob10)])) _
      have Fc26 : Exa Z T23.heap ob10 "com/example/allsome/allsome/cypher/InputPosition" := (((p13_1.ext Ex15).keep p20_0).keep p23_0)
      obtain ⟨cq25, kq25, q25a, q25b, q25c⟩ := isOf hZ rfl Fc26
      obtain ⟨_, _, ⟨T25, Lx25, kx25, nx25⟩, -, X25, ⟨Lc25, hQ25, lx25, yx25, zx25⟩, st25⟩ := X23.virtualBack hx (y := (⟨"com/example/allsome/allsome/cypher/InputPosition", "equals", "(Ljava/lang/Object;)Z"⟩ : MethodName)) (z := (⟨"com/example/allsome/allsome/cypher/InputPosition", "equals", "(Ljava/lang/Object;)Z"⟩ : MethodName)) hown (mvT hZ (wd hw 18 rfl)) (mvT hZ (wd hw 19 rfl)) (notFace_of_selects (args := #[]) (mvT hZ (wd hw 21 rfl))) (mvT hZ (wd hw 21 rfl)) (mvT hZ (wd hw 20 rfl)) (by decide) (backOf (W := 0) (rmEqInt l Z a0 hw [] ob10 xb_23 T23.heap n0 Z23 p23_1) hZ (wd hw 22 rfl) (wd hw 7 rfl) (by decide) (by decide)) q25a q25c (g := (mkF m 184 #[iv p0, iv p1, iv p2, iv p3, iv p4, iv (own_pos p0), iv (own_pos p1), iv (own_sel p4 1 p2 p0), iv (own_sel p4 2 p3 p1), rv ob10, rv ob15, iv (((p4.toUInt32 >>> ((2 : Int32) &&& 31).toUInt32).toInt32) &&& (3 : Int32)), rv xb_23] [(.ref xb_23), (.ref ob10)])) rfl (by rw [hml]; rfl) (Steps.refl _) (argsL := [(.ref xb_23)]) (rest := []) (lenOf pd_4 rfl) rfl (by show 2 * 0 + _ ≤ _; exact Nat.le_of_eq rfl) (hb hby at_184) (fun _ _ => ⟨rfl, rfl, (by decide : 3 + 0 ≤ _), (by decide : 5 + 0 ≤ _)⟩)
      dsimp only [Pt.U, Pt.locs, Pt.cells, Pt.slots] at X25 lx25 yx25 zx25 st25 hQ25
      subst lx25 yx25 zx25
      obtain ⟨rfl, N25q, e25⟩ := hQ25
      have N25 := Fr.app N23 N25q
      refine own_lift (fun t k => st25.trans k) ?_
      show own_Go p.tables e below (T25.setTop (mkF m 187 #[iv p0, iv p1, iv p2, iv p3, iv p4, iv (own_pos p0), iv (own_pos p1), iv (own_sel p4 1 p2 p0), iv (own_sel p4 2 p3 p1), rv ob10, rv ob15, iv (((p4.toUInt32 >>> ((2 : Int32) &&& 31).toUInt32).toInt32) &&& (3 : Int32)), rv xb_23] [(.int 0)])) _
      have sg27 : ∀ t, Steps p.tables e below (T25.setTop (mkF m 195 #[iv p0, iv p1, iv p2, iv p3, iv p4, iv (own_pos p0), iv (own_pos p1), iv (own_sel p4 1 p2 p0), iv (own_sel p4 2 p3 p1), rv ob10, rv ob15, iv (((p4.toUInt32 >>> ((2 : Int32) &&& 31).toUInt32).toInt32) &&& (3 : Int32)), rv xb_23] [(.int 1)])) t → Steps p.tables e below (T25.setTop (mkF m 187 #[iv p0, iv p1, iv p2, iv p3, iv p4, iv (own_pos p0), iv (own_pos p1), iv (own_sel p4 1 p2 p0), iv (own_sel p4 2 p3 p1), rv ob10, rv ob15, iv (((p4.toUInt32 >>> ((2 : Int32) &&& 31).toUInt32).toInt32) &&& (3 : Int32)), rv xb_23] [(.int 0)])) t := by
        intro t k
        refine XS.ifNo X25.here hx rfl (hb hby at_187) rfl ((if0 _ _).trans (teq (by decide : (0 : Int32) = (0 : Int32))).2) ?_
        show Steps p.tables e below (T25.setTop (mkF m 190 #[iv p0, iv p1, iv p2, iv p3, iv p4, iv (own_pos p0), iv (own_pos p1), iv (own_sel p4 1 p2 p0), iv (own_sel p4 2 p3 p1), rv ob10, rv ob15, iv (((p4.toUInt32 >>> ((2 : Int32) &&& 31).toUInt32).toInt32) &&& (3 : Int32)), rv xb_23] [])) _
        refine XS.iconst X25.here hx rfl (hb hby at_190) ?_
        show Steps p.tables e below (T25.setTop (mkF m 191 #[iv p0, iv p1, iv p2, iv p3, iv p4, iv (own_pos p0), iv (own_pos p1), iv (own_sel p4 1 p2 p0), iv (own_sel p4 2 p3 p1), rv ob10, rv ob15, iv (((p4.toUInt32 >>> ((2 : Int32) &&& 31).toUInt32).toInt32) &&& (3 : Int32)), rv xb_23] [(.int 1)])) _
        refine XS.goto X25.here hx rfl (pc0 := 191) (pc' := 195) rfl (hb hby at_191) (by decide) (by decide) ?_
        show Steps p.tables e below (T25.setTop (mkF m 195 #[iv p0, iv p1, iv p2, iv p3, iv p4, iv (own_pos p0), iv (own_pos p1), iv (own_sel p4 1 p2 p0), iv (own_sel p4 2 p3 p1), rv ob10, rv ob15, iv (((p4.toUInt32 >>> ((2 : Int32) &&& 31).toUInt32).toInt32) &&& (3 : Int32)), rv xb_23] [(.int 1)])) _
        exact k
      refine own_lift sg27 ?_
      show own_Go p.tables e below (T25.setTop (mkF m 195 #[iv p0, iv p1, iv p2, iv p3, iv p4, iv (own_pos p0), iv (own_pos p1), iv (own_sel p4 1 p2 p0), iv (own_sel p4 2 p3 p1), rv ob10, rv ob15, iv (((p4.toUInt32 >>> ((2 : Int32) &&& 31).toUInt32).toInt32) &&& (3 : Int32)), rv xb_23] [(.int 1)])) _
      obtain ⟨fs, hr, hrun, hended, hW, hsame⟩ := X25.leave (v := some (.int 1)) (fun h => by rw [Bd.returns] at h; cases h)
      refine ⟨_, _, ?_, hrun, hended, _, _, rfl, ?_, ⟨_, rfl⟩, hW, hsame.mono (by decide) (by decide)⟩
      · exact retN X25 hx (t := .boolean) Bd.returns (by simp) (hb hby at_195) hr
      · show Q0 Z  h0 n0 _ T25.heap _
        rw [e25]
        exact ⟨rfl, N25⟩
    by_cases b2 : (p4 &&& (2 : Int32)) = (0 : Int32)
    · have sg28 : ∀ t, Steps p.tables e below (T6.setTop (mkF m 43 #[iv p0, iv p1, iv p2, iv p3, iv p4, iv (own_pos p0), iv (own_pos p1), iv (own_sel p4 1 p2 p0), .unset, .unset, .unset, .unset, .unset] [(.int p3)])) t → Steps p.tables e below (T6.setTop (mkF m 30 #[iv p0, iv p1, iv p2, iv p3, iv p4, iv (own_pos p0), iv (own_pos p1), iv (own_sel p4 1 p2 p0), .unset, .unset, .unset, .unset, .unset] [])) t := by
        intro t k
        refine XS.iload X6.here hx rfl (hb hby at_30) rfl ?_
        show Steps p.tables e below (T6.setTop (mkF m 32 #[iv p0, iv p1, iv p2, iv p3, iv p4, iv (own_pos p0), iv (own_pos p1), iv (own_sel p4 1 p2 p0), .unset, .unset, .unset, .unset, .unset] [(.int p4)])) _
        refine XS.iconst X6.here hx rfl (hb hby at_32) ?_
        show Steps p.tables e below (T6.setTop (mkF m 33 #[iv p0, iv p1, iv p2, iv p3, iv p4, iv (own_pos p0), iv (own_pos p1), iv (own_sel p4 1 p2 p0), .unset, .unset, .unset, .unset, .unset] [(.int 2), (.int p4)])) _
        refine XS.iand X6.here hx rfl (hb hby at_33) rfl ?_
        show Steps p.tables e below (T6.setTop (mkF m 34 #[iv p0, iv p1, iv p2, iv p3, iv p4, iv (own_pos p0), iv (own_pos p1), iv (own_sel p4 1 p2 p0), .unset, .unset, .unset, .unset, .unset] [(.int (p4 &&& (2 : Int32)))])) _
        refine XS.ifYes X6.here hx rfl (pc0 := 34) (pc' := 42) rfl (hb hby at_34) rfl ((if0 _ _).trans (teq b2).1) (by decide) (by decide) ?_
        show Steps p.tables e below (T6.setTop (mkF m 42 #[iv p0, iv p1, iv p2, iv p3, iv p4, iv (own_pos p0), iv (own_pos p1), iv (own_sel p4 1 p2 p0), .unset, .unset, .unset, .unset, .unset] [])) _
        refine XS.iloadN X6.here hx rfl (hb hby at_42) rfl ?_
        show Steps p.tables e below (T6.setTop (mkF m 43 #[iv p0, iv p1, iv p2, iv p3, iv p4, iv (own_pos p0), iv (own_pos p1), iv (own_sel p4 1 p2 p0), .unset, .unset, .unset, .unset, .unset] [(.int p3)])) _
        exact k
      refine own_lift sg28 ?_
      show own_Go p.tables e below (T6.setTop (mkF m 43 #[iv p0, iv p1, iv p2, iv p3, iv p4, iv (own_pos p0), iv (own_pos p1), iv (own_sel p4 1 p2 p0), .unset, .unset, .unset, .unset, .unset] [(.int p3)])) _
      obtain ⟨_, _, ⟨T29, Lx29, kx29, nx29⟩, -, X29, ⟨Lc29, hQ29, lx29, yx29, zx29⟩, st29⟩ := Jvm.LawKit.callS X6 hx (y := (⟨"com/example/allsome/allsome/cypher/InputPositionEqualsPinLaw", "pos", "(I)I"⟩ : MethodName)) hown (mvT hZ (wd hw 0 rfl)) (mvT hZ (wd hw 1 rfl)) (mvT hZ (wd hw 2 rfl)) (mvT hZ (wd hw 3 rfl)) (by decide) (backOf (W := 0) (rmPos l Z a0 hw [] p3 h0 n0 Z0 ) hZ (wd hw 3 rfl) (wd hw 2 rfl) (by decide) (by decide)) (g := (mkF m 43 #[iv p0, iv p1, iv p2, iv p3, iv p4, iv (own_pos p0), iv (own_pos p1), iv (own_sel p4 1 p2 p0), .unset, .unset, .unset, .unset, .unset] [(.int p3)])) rfl (by rw [hml]; rfl) (argsL := [(.int p3)]) (rest := []) (lenOf pd_2 rfl) rfl (by show 2 * 0 + _ ≤ _; exact Nat.le_of_eq rfl) (hb hby at_43) (fun _ _ => ⟨rfl, e6, (by decide : 0 + 0 ≤ _), (by decide : 0 + 0 ≤ _)⟩)
      dsimp only [Pt.U, Pt.locs, Pt.cells, Pt.slots] at X29 lx29 yx29 zx29 st29 hQ29
      subst lx29 yx29 zx29
      obtain ⟨rfl, N29q, e29⟩ := hQ29
      have N29 := Fr.app N6 N29q
      refine own_lift st29 ?_
      show own_Go p.tables e below (T29.setTop (mkF m 46 #[iv p0, iv p1, iv p2, iv p3, iv p4, iv (own_pos p0), iv (own_pos p1), iv (own_sel p4 1 p2 p0), .unset, .unset, .unset, .unset, .unset] [(.int (own_pos p3))])) _
      rw [show (own_sel p4 2 p3 p1) = (own_pos p3) from if_pos b2] at join8
      exact join8 _ _ X29 e29 N29
    · have sg30 : ∀ t, Steps p.tables e below (T6.setTop (mkF m 46 #[iv p0, iv p1, iv p2, iv p3, iv p4, iv (own_pos p0), iv (own_pos p1), iv (own_sel p4 1 p2 p0), .unset, .unset, .unset, .unset, .unset] [(.int (own_pos p1))])) t → Steps p.tables e below (T6.setTop (mkF m 30 #[iv p0, iv p1, iv p2, iv p3, iv p4, iv (own_pos p0), iv (own_pos p1), iv (own_sel p4 1 p2 p0), .unset, .unset, .unset, .unset, .unset] [])) t := by
        intro t k
        refine XS.iload X6.here hx rfl (hb hby at_30) rfl ?_
        show Steps p.tables e below (T6.setTop (mkF m 32 #[iv p0, iv p1, iv p2, iv p3, iv p4, iv (own_pos p0), iv (own_pos p1), iv (own_sel p4 1 p2 p0), .unset, .unset, .unset, .unset, .unset] [(.int p4)])) _
        refine XS.iconst X6.here hx rfl (hb hby at_32) ?_
        show Steps p.tables e below (T6.setTop (mkF m 33 #[iv p0, iv p1, iv p2, iv p3, iv p4, iv (own_pos p0), iv (own_pos p1), iv (own_sel p4 1 p2 p0), .unset, .unset, .unset, .unset, .unset] [(.int 2), (.int p4)])) _
        refine XS.iand X6.here hx rfl (hb hby at_33) rfl ?_
        show Steps p.tables e below (T6.setTop (mkF m 34 #[iv p0, iv p1, iv p2, iv p3, iv p4, iv (own_pos p0), iv (own_pos p1), iv (own_sel p4 1 p2 p0), .unset, .unset, .unset, .unset, .unset] [(.int (p4 &&& (2 : Int32)))])) _
        refine XS.ifNo X6.here hx rfl (hb hby at_34) rfl ((if0 _ _).trans (feq b2).1) ?_
        show Steps p.tables e below (T6.setTop (mkF m 37 #[iv p0, iv p1, iv p2, iv p3, iv p4, iv (own_pos p0), iv (own_pos p1), iv (own_sel p4 1 p2 p0), .unset, .unset, .unset, .unset, .unset] [])) _
        refine XS.iload X6.here hx rfl (hb hby at_37) rfl ?_
        show Steps p.tables e below (T6.setTop (mkF m 39 #[iv p0, iv p1, iv p2, iv p3, iv p4, iv (own_pos p0), iv (own_pos p1), iv (own_sel p4 1 p2 p0), .unset, .unset, .unset, .unset, .unset] [(.int (own_pos p1))])) _
        refine XS.goto X6.here hx rfl (pc0 := 39) (pc' := 46) rfl (hb hby at_39) (by decide) (by decide) ?_
        show Steps p.tables e below (T6.setTop (mkF m 46 #[iv p0, iv p1, iv p2, iv p3, iv p4, iv (own_pos p0), iv (own_pos p1), iv (own_sel p4 1 p2 p0), .unset, .unset, .unset, .unset, .unset] [(.int (own_pos p1))])) _
        exact k
      refine own_lift sg30 ?_
      show own_Go p.tables e below (T6.setTop (mkF m 46 #[iv p0, iv p1, iv p2, iv p3, iv p4, iv (own_pos p0), iv (own_pos p1), iv (own_sel p4 1 p2 p0), .unset, .unset, .unset, .unset, .unset] [(.int (own_pos p1))])) _
      rw [show (own_sel p4 2 p3 p1) = (own_pos p1) from if_neg b2] at join8
      exact join8 _ _ X6 e6 N6
  by_cases b1 : (p4 &&& (1 : Int32)) = (0 : Int32)
  · have sg31 : ∀ t, Steps p.tables e below (T4.setTop (mkF m 25 #[iv p0, iv p1, iv p2, iv p3, iv p4, iv (own_pos p0), iv (own_pos p1), .unset, .unset, .unset, .unset, .unset, .unset] [(.int p2)])) t → Steps p.tables e below (T4.setTop (mkF m 12 #[iv p0, iv p1, iv p2, iv p3, iv p4, iv (own_pos p0), iv (own_pos p1), .unset, .unset, .unset, .unset, .unset, .unset] [])) t := by
      intro t k
      refine XS.iload X4.here hx rfl (hb hby at_12) rfl ?_
      show Steps p.tables e below (T4.setTop (mkF m 14 #[iv p0, iv p1, iv p2, iv p3, iv p4, iv (own_pos p0), iv (own_pos p1), .unset, .unset, .unset, .unset, .unset, .unset] [(.int p4)])) _
      refine XS.iconst X4.here hx rfl (hb hby at_14) ?_
      show Steps p.tables e below (T4.setTop (mkF m 15 #[iv p0, iv p1, iv p2, iv p3, iv p4, iv (own_pos p0), iv (own_pos p1), .unset, .unset, .unset, .unset, .unset, .unset] [(.int 1), (.int p4)])) _
      refine XS.iand X4.here hx rfl (hb hby at_15) rfl ?_
      show Steps p.tables e below (T4.setTop (mkF m 16 #[iv p0, iv p1, iv p2, iv p3, iv p4, iv (own_pos p0), iv (own_pos p1), .unset, .unset, .unset, .unset, .unset, .unset] [(.int (p4 &&& (1 : Int32)))])) _
      refine XS.ifYes X4.here hx rfl (pc0 := 16) (pc' := 24) rfl (hb hby at_16) rfl ((if0 _ _).trans (teq b1).1) (by decide) (by decide) ?_
      show Steps p.tables e below (T4.setTop (mkF m 24 #[iv p0, iv p1, iv p2, iv p3, iv p4, iv (own_pos p0), iv (own_pos p1), .unset, .unset, .unset, .unset, .unset, .unset] [])) _
      refine XS.iloadN X4.here hx rfl (hb hby at_24) rfl ?_
      show Steps p.tables e below (T4.setTop (mkF m 25 #[iv p0, iv p1, iv p2, iv p3, iv p4, iv (own_pos p0), iv (own_pos p1), .unset, .unset, .unset, .unset, .unset, .unset] [(.int p2)])) _
      exact k
    refine own_lift sg31 ?_
    show own_Go p.tables e below (T4.setTop (mkF m 25 #[iv p0, iv p1, iv p2, iv p3, iv p4, iv (own_pos p0), iv (own_pos p1), .unset, .unset, .unset, .unset, .unset, .unset] [(.int p2)])) _
    obtain ⟨_, _, ⟨T32, Lx32, kx32, nx32⟩, -, X32, ⟨Lc32, hQ32, lx32, yx32, zx32⟩, st32⟩ := Jvm.LawKit.callS X4 hx (y := (⟨"com/example/allsome/allsome/cypher/InputPositionEqualsPinLaw", "pos", "(I)I"⟩ : MethodName)) hown (mvT hZ (wd hw 0 rfl)) (mvT hZ (wd hw 1 rfl)) (mvT hZ (wd hw 2 rfl)) (mvT hZ (wd hw 3 rfl)) (by decide) (backOf (W := 0) (rmPos l Z a0 hw [] p2 h0 n0 Z0 ) hZ (wd hw 3 rfl) (wd hw 2 rfl) (by decide) (by decide)) (g := (mkF m 25 #[iv p0, iv p1, iv p2, iv p3, iv p4, iv (own_pos p0), iv (own_pos p1), .unset, .unset, .unset, .unset, .unset, .unset] [(.int p2)])) rfl (by rw [hml]; rfl) (argsL := [(.int p2)]) (rest := []) (lenOf pd_2 rfl) rfl (by show 2 * 0 + _ ≤ _; exact Nat.le_of_eq rfl) (hb hby at_25) (fun _ _ => ⟨rfl, e4, (by decide : 0 + 0 ≤ _), (by decide : 0 + 0 ≤ _)⟩)
    dsimp only [Pt.U, Pt.locs, Pt.cells, Pt.slots] at X32 lx32 yx32 zx32 st32 hQ32
    subst lx32 yx32 zx32
    obtain ⟨rfl, N32q, e32⟩ := hQ32
    have N32 := Fr.app N4 N32q
    refine own_lift st32 ?_
    show own_Go p.tables e below (T32.setTop (mkF m 28 #[iv p0, iv p1, iv p2, iv p3, iv p4, iv (own_pos p0), iv (own_pos p1), .unset, .unset, .unset, .unset, .unset, .unset] [(.int (own_pos p2))])) _
    rw [show (own_sel p4 1 p2 p0) = (own_pos p2) from if_pos b1] at join6
    exact join6 _ _ X32 e32 N32
  · have sg33 : ∀ t, Steps p.tables e below (T4.setTop (mkF m 28 #[iv p0, iv p1, iv p2, iv p3, iv p4, iv (own_pos p0), iv (own_pos p1), .unset, .unset, .unset, .unset, .unset, .unset] [(.int (own_pos p0))])) t → Steps p.tables e below (T4.setTop (mkF m 12 #[iv p0, iv p1, iv p2, iv p3, iv p4, iv (own_pos p0), iv (own_pos p1), .unset, .unset, .unset, .unset, .unset, .unset] [])) t := by
      intro t k
      refine XS.iload X4.here hx rfl (hb hby at_12) rfl ?_
      show Steps p.tables e below (T4.setTop (mkF m 14 #[iv p0, iv p1, iv p2, iv p3, iv p4, iv (own_pos p0), iv (own_pos p1), .unset, .unset, .unset, .unset, .unset, .unset] [(.int p4)])) _
      refine XS.iconst X4.here hx rfl (hb hby at_14) ?_
      show Steps p.tables e below (T4.setTop (mkF m 15 #[iv p0, iv p1, iv p2, iv p3, iv p4, iv (own_pos p0), iv (own_pos p1), .unset, .unset, .unset, .unset, .unset, .unset] [(.int 1), (.int p4)])) _
      refine XS.iand X4.here hx rfl (hb hby at_15) rfl ?_
      show Steps p.tables e below (T4.setTop (mkF m 16 #[iv p0, iv p1, iv p2, iv p3, iv p4, iv (own_pos p0), iv (own_pos p1), .unset, .unset, .unset, .unset, .unset, .unset] [(.int (p4 &&& (1 : Int32)))])) _
      refine XS.ifNo X4.here hx rfl (hb hby at_16) rfl ((if0 _ _).trans (feq b1).1) ?_
      show Steps p.tables e below (T4.setTop (mkF m 19 #[iv p0, iv p1, iv p2, iv p3, iv p4, iv (own_pos p0), iv (own_pos p1), .unset, .unset, .unset, .unset, .unset, .unset] [])) _
      refine XS.iload X4.here hx rfl (hb hby at_19) rfl ?_
      show Steps p.tables e below (T4.setTop (mkF m 21 #[iv p0, iv p1, iv p2, iv p3, iv p4, iv (own_pos p0), iv (own_pos p1), .unset, .unset, .unset, .unset, .unset, .unset] [(.int (own_pos p0))])) _
      refine XS.goto X4.here hx rfl (pc0 := 21) (pc' := 28) rfl (hb hby at_21) (by decide) (by decide) ?_
      show Steps p.tables e below (T4.setTop (mkF m 28 #[iv p0, iv p1, iv p2, iv p3, iv p4, iv (own_pos p0), iv (own_pos p1), .unset, .unset, .unset, .unset, .unset, .unset] [(.int (own_pos p0))])) _
      exact k
    refine own_lift sg33 ?_
    show own_Go p.tables e below (T4.setTop (mkF m 28 #[iv p0, iv p1, iv p2, iv p3, iv p4, iv (own_pos p0), iv (own_pos p1), .unset, .unset, .unset, .unset, .unset, .unset] [(.int (own_pos p0))])) _
    rw [show (own_sel p4 1 p2 p0) = (own_pos p0) from if_neg b1] at join6
    exact join6 _ _ X4 e4 N4
theorem ef_rm0_3C (m : MethodId) (x0 : Int32) (x1 : Int32) (x2 : Int32) (x3 : Int32) (x4 : Int32) : entryFrame m #[(.int x0), (.int x1), (.int x2), (.int x3), (.int x4)] maxLocals = mkF m 0 #[.val (.int x0), .val (.int x1), .val (.int x2), .val (.int x3), .val (.int x4), .unset, .unset, .unset, .unset, .unset, .unset, .unset, .unset] [] := by first | (simp [entryFrame, mkF, argsToLocals, Value.category, maxLocals]; done) | rfl
set_option maxRecDepth 65536 in
set_option maxHeartbeats 40000000 in
theorem rm0_3C (l : Launch) (Z : State) (a0 : Array Value) (hw : ∀ d ∈ tables_1, d.before a0 Z = true) (ws : List Jvm.Cond) (p0 : Int32) (p1 : Int32) (p2 : Int32) (p3 : Int32) (p4 : Int32) (ca : Addr) (cc : Cell) (bx : Addr) (h0 : Heap) (n0 : Nat) (Z0 : n0 ≤ h0.size) (S1 : Sta Z h0 "java/lang/Integer$IntegerCache" "high" "I" (.int 127)) (S2 : Sta Z h0 "java/lang/Integer$IntegerCache" "cache" "[Ljava/lang/Integer;" (.ref ca)) (A1 : Arr Z h0 ca cc (.object "java/lang/Integer")) (Ebx : Exa Z h0 bx "java/lang/Integer") (k0 : ¬ ((((p4.toUInt32 >>> ((2 : Int32) &&& 31).toUInt32).toInt32) &&& (3 : Int32)) = (0 : Int32))) (k1 : ¬ ((((p4.toUInt32 >>> ((2 : Int32) &&& 31).toUInt32).toInt32) &&& (3 : Int32)) = (1 : Int32))) (k2 : ¬ ((((p4.toUInt32 >>> ((2 : Int32) &&& 31).toUInt32).toInt32) &&& (3 : Int32)) = (2 : Int32))) (hbg : ¬ ((127 : Int32) < (own_pos p0))) (hin : ¬ (((own_pos p0) + (128 : Int32)) < 0 ∨ cc.slots.size ≤ (((own_pos p0) + (128 : Int32))).toNatClampNeg)) (hat : cc.slots[(((own_pos p0) + (128 : Int32))).toNatClampNeg]? = some (.ref bx)) :
    MetFree l x (head1 (Jvm.Cond.code x code maxLocals ret :: ws) room_1) (fun a U => a = #[(.int p0), (.int p1), (.int p2), (.int p3), (.int p4)] ∧ Z.Warmed39 U.vm ∧ U.heap = h0) (fun _ _ _ _ _ => True) (fun _ U o U' => ∃ v L, o = .returned v ∧ Q0 Z  h0 n0 v U'.heap L ∧ FrameEnd U o U' L 16 128) := by
  refine MetFree.of_bodySF (plainFor_of_name pn_1) hisR ?_
  intro p e s m args below meth c s₁ Bd hml0 hP hK
  obtain ⟨rfl, hZ, hh⟩ := hP
  have hx := Bd.exec
  have hby := Bd.bytes
  have hml : c.maxLocals = 13 := hml0
  have hown : s.vm.findClass "com/example/allsome/allsome/cypher/InputPositionEqualsPinLaw" = some m.cls := findClass_of_methodNamed Bd.named
  have hnm := (name_of_methodNamed Bd.named Bd.method).1
  have X0 : Stand p l e room_1 s m #[(.int p0), (.int p1), (.int p2), (.int p3), (.int p4)] below meth c s₁ [] 0 0 := Stand.of_body Bd
  have e0 : s₁.heap = h0 := by rw [← hh, Bd.state]; rfl
  have N0 := Fr.nil n0
  refine own_go (own_lift (fun t k => castTop (ef_rm0_3C m p0 p1 p2 p3 p4) k) ?_)
  show own_Go p.tables e below (s₁.setTop (mkF m 0 #[iv p0, iv p1, iv p2, iv p3, iv p4, .unset, .unset, .unset, .unset, .unset, .unset, .unset, .unset] [])) _
  have sg1 : ∀ t, Steps p.tables e below (s₁.setTop (mkF m 1 #[iv p0, iv p1, iv p2, iv p3, iv p4, .unset, .unset, .unset, .unset, .unset, .unset, .unset, .unset] [(.int p0)])) t → Steps p.tables e below (s₁.setTop (mkF m 0 #[iv p0, iv p1, iv p2, iv p3, iv p4, .unset, .unset, .unset, .unset, .unset, .unset, .unset, .unset] [])) t := by
    intro t k
    refine XS.iloadN X0.here hx rfl (hb hby at_0) rfl ?_
    show Steps p.tables e below (s₁.setTop (mkF m 1 #[iv p0, iv p1, iv p2, iv p3, iv p4, .unset, .unset, .unset, .unset, .unset, .unset, .unset, .unset] [(.int p0)])) _
    exact k
  refine own_lift sg1 ?_
  show own_Go p.tables e below (s₁.setTop (mkF m 1 #[iv p0, iv p1, iv p2, iv p3, iv p4, .unset, .unset, .unset, .unset, .unset, .unset, .unset, .unset] [(.int p0)])) _
  obtain ⟨_, _, ⟨T2, Lx2, kx2, nx2⟩, -, X2, ⟨Lc2, hQ2, lx2, yx2, zx2⟩, st2⟩ := Jvm.LawKit.callS X0 hx (y := (⟨"com/example/allsome/allsome/cypher/InputPositionEqualsPinLaw", "pos", "(I)I"⟩ : MethodName)) hown (mvT hZ (wd hw 0 rfl)) (mvT hZ (wd hw 1 rfl)) (mvT hZ (wd hw 2 rfl)) (mvT hZ (wd hw 3 rfl)) (by decide) (backOf (W := 0) (rmPos l Z a0 hw [] p0 h0 n0 Z0 ) hZ (wd hw 3 rfl) (wd hw 2 rfl) (by decide) (by decide)) (g := (mkF m 1 #[iv p0, iv p1, iv p2, iv p3, iv p4, .unset, .unset, .unset, .unset, .unset, .unset, .unset, .unset] [(.int p0)])) rfl (by rw [hml]; rfl) (argsL := [(.int p0)]) (rest := []) (lenOf pd_2 rfl) rfl (by show 2 * 0 + _ ≤ _; exact Nat.le_of_eq rfl) (hb hby at_1) (fun _ _ => ⟨rfl, e0, (by decide : 0 + 0 ≤ _), (by decide : 0 + 0 ≤ _)⟩)
  dsimp only [Pt.U, Pt.locs, Pt.cells, Pt.slots] at X2 lx2 yx2 zx2 st2 hQ2
  subst lx2 yx2 zx2
  obtain ⟨rfl, N2q, e2⟩ := hQ2
  have N2 := Fr.app N0 N2q
  refine own_lift st2 ?_
  show own_Go p.tables e below (T2.setTop (mkF m 4 #[iv p0, iv p1, iv p2, iv p3, iv p4, .unset, .unset, .unset, .unset, .unset, .unset, .unset, .unset] [(.int (own_pos p0))])) _
  have sg3 : ∀ t, Steps p.tables e below (T2.setTop (mkF m 7 #[iv p0, iv p1, iv p2, iv p3, iv p4, iv (own_pos p0), .unset, .unset, .unset, .unset, .unset, .unset, .unset] [(.int p1)])) t → Steps p.tables e below (T2.setTop (mkF m 4 #[iv p0, iv p1, iv p2, iv p3, iv p4, .unset, .unset, .unset, .unset, .unset, .unset, .unset, .unset] [(.int (own_pos p0))])) t := by
    intro t k
    refine XS.istore X2.here hx rfl (hb hby at_4) rfl (l' := #[iv p0, iv p1, iv p2, iv p3, iv p4, iv (own_pos p0), .unset, .unset, .unset, .unset, .unset, .unset, .unset]) rfl ?_
    show Steps p.tables e below (T2.setTop (mkF m 6 #[iv p0, iv p1, iv p2, iv p3, iv p4, iv (own_pos p0), .unset, .unset, .unset, .unset, .unset, .unset, .unset] [])) _
    refine XS.iloadN X2.here hx rfl (hb hby at_6) rfl ?_
    show Steps p.tables e below (T2.setTop (mkF m 7 #[iv p0, iv p1, iv p2, iv p3, iv p4, iv (own_pos p0), .unset, .unset, .unset, .unset, .unset, .unset, .unset] [(.int p1)])) _
    exact k
  refine own_lift sg3 ?_
  show own_Go p.tables e below (T2.setTop (mkF m 7 #[iv p0, iv p1, iv p2, iv p3, iv p4, iv (own_pos p0), .unset, .unset, .unset, .unset, .unset, .unset, .unset] [(.int p1)])) _
  obtain ⟨_, _, ⟨T4, Lx4, kx4, nx4⟩, -, X4, ⟨Lc4, hQ4, lx4, yx4, zx4⟩, st4⟩ := Jvm.LawKit.callS X2 hx (y := (⟨"com/example/allsome/allsome/cypher/InputPositionEqualsPinLaw", "pos", "(I)I"⟩ : MethodName)) hown (mvT hZ (wd hw 0 rfl)) (mvT hZ (wd hw 1 rfl)) (mvT hZ (wd hw 2 rfl)) (mvT hZ (wd hw 3 rfl)) (by decide) (backOf (W := 0) (rmPos l Z a0 hw [] p1 h0 n0 Z0 ) hZ (wd hw 3 rfl) (wd hw 2 rfl) (by decide) (by decide)) (g := (mkF m 7 #[iv p0, iv p1, iv p2, iv p3, iv p4, iv (own_pos p0), .unset, .unset, .unset, .unset, .unset, .unset, .unset] [(.int p1)])) rfl (by rw [hml]; rfl) (argsL := [(.int p1)]) (rest := []) (lenOf pd_2 rfl) rfl (by show 2 * 0 + _ ≤ _; exact Nat.le_of_eq rfl) (hb hby at_7) (fun _ _ => ⟨rfl, e2, (by decide : 0 + 0 ≤ _), (by decide : 0 + 0 ≤ _)⟩)
  dsimp only [Pt.U, Pt.locs, Pt.cells, Pt.slots] at X4 lx4 yx4 zx4 st4 hQ4
  subst lx4 yx4 zx4
  obtain ⟨rfl, N4q, e4⟩ := hQ4
  have N4 := Fr.app N2 N4q
  refine own_lift st4 ?_
  show own_Go p.tables e below (T4.setTop (mkF m 10 #[iv p0, iv p1, iv p2, iv p3, iv p4, iv (own_pos p0), .unset, .unset, .unset, .unset, .unset, .unset, .unset] [(.int (own_pos p1))])) _
  have sg5 : ∀ t, Steps p.tables e below (T4.setTop (mkF m 12 #[iv p0, iv p1, iv p2, iv p3, iv p4, iv (own_pos p0), iv (own_pos p1), .unset, .unset, .unset, .unset, .unset, .unset] [])) t → Steps p.tables e below (T4.setTop (mkF m 10 #[iv p0, iv p1, iv p2, iv p3, iv p4, iv (own_pos p0), .unset, .unset, .unset, .unset, .unset, .unset, .unset] [(.int (own_pos p1))])) t := by
    intro t k
    refine XS.istore X4.here hx rfl (hb hby at_10) rfl (l' := #[iv p0, iv p1, iv p2, iv p3, iv p4, iv (own_pos p0), iv (own_pos p1), .unset, .unset, .unset, .unset, .unset, .unset]) rfl ?_
    show Steps p.tables e below (T4.setTop (mkF m 12 #[iv p0, iv p1, iv p2, iv p3, iv p4, iv (own_pos p0), iv (own_pos p1), .unset, .unset, .unset, .unset, .unset, .unset] [])) _
    exact k
  refine own_lift sg5 ?_
  show own_Go p.tables e below (T4.setTop (mkF m 12 #[iv p0, iv p1, iv p2, iv p3, iv p4, iv (own_pos p0), iv (own_pos p1), .unset, .unset, .unset, .unset, .unset, .unset] [])) _
  have join6 : ∀ (T6 : State) (locs6 : List Loc), Stand p l e room_1 s m #[(.int p0), (.int p1), (.int p2), (.int p3), (.int p4)] below meth c T6 locs6 0 0 → T6.heap = h0 → Fr n0 locs6 → own_Go p.tables e below (T6.setTop (mkF m 28 #[iv p0, iv p1, iv p2, iv p3, iv p4, iv (own_pos p0), iv (own_pos p1), .unset, .unset, .unset, .unset, .unset, .unset] [(.int (own_sel p4 1 p2 p0))])) (fun s₂ o => s₂.status = .running ∧ Ended s₂ below o ∧ ∃ v L, o = .returned v ∧ Q0 Z  h0 n0 v s₂.heap L ∧ FrameEnd s o s₂ L 16 128) := by
    intro T6 locs6 X6 e6 N6
    have sg7 : ∀ t, Steps p.tables e below (T6.setTop (mkF m 30 #[iv p0, iv p1, iv p2, iv p3, iv p4, iv (own_pos p0), iv (own_pos p1), iv (own_sel p4 1 p2 p0), .unset, .unset, .unset, .unset, .unset] [])) t → Steps p.tables e below (T6.setTop (mkF m 28 #[iv p0, iv p1, iv p2, iv p3, iv p4, iv (own_pos p0), iv (own_pos p1), .unset, .unset, .unset, .unset, .unset, .unset] [(.int (own_sel p4 1 p2 p0))])) t := by
      intro t k
      refine XS.istore X6.here hx rfl (hb hby at_28) rfl (l' := #[iv p0, iv p1, iv p2, iv p3, iv p4, iv (own_pos p0), iv (own_pos p1), iv (own_sel p4 1 p2 p0), .unset, .unset, .unset, .unset, .unset]) rfl ?_
      show Steps p.tables e below (T6.setTop (mkF m 30 #[iv p0, iv p1, iv p2, iv p3, iv p4, iv (own_pos p0), iv (own_pos p1), iv (own_sel p4 1 p2 p0), .unset, .unset, .unset, .unset, .unset] [])) _
      exact k
    refine own_lift sg7 ?_
    show own_Go p.tables e below (T6.setTop (mkF m 30 #[iv p0, iv p1, iv p2, iv p3, iv p4, iv (own_pos p0), iv (own_pos p1), iv (own_sel p4 1 p2 p0), .unset, .unset, .unset, .unset, .unset] [])) _
    have join8 : ∀ (T8 : State) (locs8 : List Loc), Stand p l e room_1 s m #[(.int p0), (.int p1), (.int p2), (.int p3), (.int p4)] below meth c T8 locs8 0 0 → T8.heap = h0 → Fr n0 locs8 → own_Go p.tables e below (T8.setTop (mkF m 46 #[iv p0, iv p1, iv p2, iv p3, iv p4, iv (own_pos p0), iv (own_pos p1), iv (own_sel p4 1 p2 p0), .unset, .unset, .unset, .unset, .unset] [(.int (own_sel p4 2 p3 p1))])) (fun s₂ o => s₂.status = .running ∧ Ended s₂ below o ∧ ∃ v L, o = .returned v ∧ Q0 Z  h0 n0 v s₂.heap L ∧ FrameEnd s o s₂ L 16 128) := by
      intro T8 locs8 X8 e8 N8
      have sg9 : ∀ t, Steps p.tables e below (T8.setTop (mkF m 48 #[iv p0, iv p1, iv p2, iv p3, iv p4, iv (own_pos p0), iv (own_pos p1), iv (own_sel p4 1 p2 p0), iv (own_sel p4 2 p3 p1), .unset, .unset, .unset, .unset] [])) t → Steps p.tables e below (T8.setTop (mkF m 46 #[iv p0, iv p1, iv p2, iv p3, iv p4, iv (own_pos p0), iv (own_pos p1), iv (own_sel p4 1 p2 p0), .unset, .unset, .unset, .unset, .unset] [(.int (own_sel p4 2 p3 p1))])) t := by
        intro t k
        refine XS.istore X8.here hx rfl (hb hby at_46) rfl (l' := #[iv p0, iv p1, iv p2, iv p3, iv p4, iv (own_pos p0), iv (own_pos p1), iv (own_sel p4 1 p2 p0), iv (own_sel p4 2 p3 p1), .unset, .unset, .unset, .unset]) rfl ?_
        show Steps p.tables e below (T8.setTop (mkF m 48 #[iv p0, iv p1, iv p2, iv p3, iv p4, iv (own_pos p0), iv (own_pos p1), iv (own_sel p4 1 p2 p0), iv (own_sel p4 2 p3 p1), .unset, .unset, .unset, .unset] [])) _
        exact k
      refine own_lift sg9 ?_
      show own_Go p.tables e below (T8.setTop (mkF m 48 #[iv p0, iv p1, iv p2, iv p3, iv p4, iv (own_pos p0), iv (own_pos p1), iv (own_sel p4 1 p2 p0), iv (own_sel p4 2 p3 p1), .unset, .unset, .unset, .unset] [])) _
      obtain ⟨T10, h10, X10, e10, Ex10, Ax10, Dx10, Ux10, st10⟩ := newO X8 hx hZ hown (wd hw 5 rfl) (wd hw 6 rfl) (wd hw 7 rfl) e8 (g := (mkF m 48 #[iv p0, iv p1, iv p2, iv p3, iv p4, iv (own_pos p0), iv (own_pos p1), iv (own_sel p4 1 p2 p0), iv (own_sel p4 2 p3 p1), .unset, .unset, .unset, .unset] [])) rfl (hb hby at_48) (by decide) (by decide)
      obtain ⟨ob10, g10⟩ : ∃ z, z = h0.size := ⟨_, rfl⟩
      rw [← g10] at Ax10 Dx10 Ux10 st10
      have ne11 : ca ≠ ob10 := Nat.ne_of_lt (Nat.lt_of_lt_of_le A1.lt (Nat.le_of_eq g10.symm))
      have ne12 : bx ≠ ob10 := Nat.ne_of_lt (Nat.lt_of_lt_of_le Ebx.lt (Nat.le_of_eq g10.symm))
      have Z10 : n0 ≤ h10.size := Nat.le_trans Z0 Ex10.1
      have ge10 : n0 ≤ ob10 := Nat.le_trans Z0 (Nat.le_of_eq g10.symm)
      have Fn10_15 : Fld Z h10 ob10 "com/example/allsome/allsome/cypher/InputPosition" "line" "I" (.int 0) := Dx10 (Or.inr (wd hw 15 rfl)) (ty := .int) (by decide)
      have Fn10_17 : Fld Z h10 ob10 "com/example/allsome/allsome/cypher/InputPosition" "column" "I" (.int 0) := Dx10 (Or.inr (wd hw 17 rfl)) (ty := .int) (by decide)
      refine own_lift st10 ?_
      show own_Go p.tables e below (T10.setTop (mkF m 51 #[iv p0, iv p1, iv p2, iv p3, iv p4, iv (own_pos p0), iv (own_pos p1), iv (own_sel p4 1 p2 p0), iv (own_sel p4 2 p3 p1), .unset, .unset, .unset, .unset] [(.ref ob10)])) _
      have sg13 : ∀ t, Steps p.tables e below (T10.setTop (mkF m 56 #[iv p0, iv p1, iv p2, iv p3, iv p4, iv (own_pos p0), iv (own_pos p1), iv (own_sel p4 1 p2 p0), iv (own_sel p4 2 p3 p1), .unset, .unset, .unset, .unset] [(.int (own_pos p1)), (.int (own_pos p0)), (.ref ob10), (.ref ob10)])) t → Steps p.tables e below (T10.setTop (mkF m 51 #[iv p0, iv p1, iv p2, iv p3, iv p4, iv (own_pos p0), iv (own_pos p1), iv (own_sel p4 1 p2 p0), iv (own_sel p4 2 p3 p1), .unset, .unset, .unset, .unset] [(.ref ob10)])) t := by
        intro t k
        refine XS.dup X10.here hx rfl (hb hby at_51) rfl rfl ?_
        show Steps p.tables e below (T10.setTop (mkF m 52 #[iv p0, iv p1, iv p2, iv p3, iv p4, iv (own_pos p0), iv (own_pos p1), iv (own_sel p4 1 p2 p0), iv (own_sel p4 2 p3 p1), .unset, .unset, .unset, .unset] [(.ref ob10), (.ref ob10)])) _
        refine XS.iload X10.here hx rfl (hb hby at_52) rfl ?_
        show Steps p.tables e below (T10.setTop (mkF m 54 #[iv p0, iv p1, iv p2, iv p3, iv p4, iv (own_pos p0), iv (own_pos p1), iv (own_sel p4 1 p2 p0), iv (own_sel p4 2 p3 p1), .unset, .unset, .unset, .unset] [(.int (own_pos p0)), (.ref ob10), (.ref ob10)])) _
        refine XS.iload X10.here hx rfl (hb hby at_54) rfl ?_
        show Steps p.tables e below (T10.setTop (mkF m 56 #[iv p0, iv p1, iv p2, iv p3, iv p4, iv (own_pos p0), iv (own_pos p1), iv (own_sel p4 1 p2 p0), iv (own_sel p4 2 p3 p1), .unset, .unset, .unset, .unset] [(.int (own_pos p1)), (.int (own_pos p0)), (.ref ob10), (.ref ob10)])) _
        exact k
      refine own_lift sg13 ?_
      show own_Go p.tables e below (T10.setTop (mkF m 56 #[iv p0, iv p1, iv p2, iv p3, iv p4, iv (own_pos p0), iv (own_pos p1), iv (own_sel p4 1 p2 p0), iv (own_sel p4 2 p3 p1), .unset, .unset, .unset, .unset] [(.int (own_pos p1)), (.int (own_pos p0)), (.ref ob10), (.ref ob10)])) _
      obtain ⟨_, _, ⟨T14, Lx14, kx14, nx14⟩, -, X14, ⟨Lc14, hQ14, lx14, yx14, zx14⟩, st14⟩ := X10.specialBack hx (y := (⟨"com/example/allsome/allsome/cypher/InputPosition", "<init>", "(II)V"⟩ : MethodName)) rfl hown (mvT hZ (wd hw 8 rfl)) (mvT hZ (wd hw 9 rfl)) (mvT hZ (wd hw 10 rfl)) (by decide) (backOf (W := 1) (rmInit l Z a0 hw [] ob10 (own_pos p0) (own_pos p1) h10 n0 Z10 Fn10_15 Fn10_17 Ax10 ge10 (own_pos_ge p0) (own_pos_ge p1)) hZ (wd hw 10 rfl) (wd hw 7 rfl) (by decide) (by decide)) (g := (mkF m 56 #[iv p0, iv p1, iv p2, iv p3, iv p4, iv (own_pos p0), iv (own_pos p1), iv (own_sel p4 1 p2 p0), iv (own_sel p4 2 p3 p1), .unset, .unset, .unset, .unset] [(.int (own_pos p1)), (.int (own_pos p0)), (.ref ob10), (.ref ob10)])) rfl (by rw [hml]; rfl) (Steps.refl _) (a := ob10) (argsL := [(.int (own_pos p0)), (.int (own_pos p1))]) (rest := [(.ref ob10)]) (lenOf pd_3 rfl) rfl (by show 2 * 0 + _ ≤ _; exact Nat.le_of_eq rfl) (hb hby at_56) (fun _ _ => ⟨rfl, e10, (by decide : 1 + 0 ≤ _), (by decide : 2 + 0 ≤ _)⟩)
      dsimp only [Pt.U, Pt.locs, Pt.cells, Pt.slots] at X14 lx14 yx14 zx14 st14 hQ14
      subst lx14 yx14 zx14
      obtain ⟨rfl, N14q, p14_0, p14_1, p14_2, p14_3⟩ := hQ14
      have N14 := Fr.app N8 N14q
      have Z14 : n0 ≤ T14.heap.size := Nat.le_trans Z10 p14_0.1
      refine own_lift (fun t k => st14.trans k) ?_
      show own_Go p.tables e below (T14.setTop (mkF m 59 #[iv p0, iv p1, iv p2, iv p3, iv p4, iv (own_pos p0), iv (own_pos p1), iv (own_sel p4 1 p2 p0), iv (own_sel p4 2 p3 p1), .unset, .unset, .unset, .unset] [(.ref ob10)])) _
      have sg15 : ∀ t, Steps p.tables e below (T14.setTop (mkF m 61 #[iv p0, iv p1, iv p2, iv p3, iv p4, iv (own_pos p0), iv (own_pos p1), iv (own_sel p4 1 p2 p0), iv (own_sel p4 2 p3 p1), rv ob10, .unset, .unset, .unset] [])) t → Steps p.tables e below (T14.setTop (mkF m 59 #[iv p0, iv p1, iv p2, iv p3, iv p4, iv (own_pos p0), iv (own_pos p1), iv (own_sel p4 1 p2 p0), iv (own_sel p4 2 p3 p1), .unset, .unset, .unset, .unset] [(.ref ob10)])) t := by
        intro t k
        refine XS.astore X14.here hx rfl (hb hby at_59) rfl rfl (l' := #[iv p0, iv p1, iv p2, iv p3, iv p4, iv (own_pos p0), iv (own_pos p1), iv (own_sel p4 1 p2 p0), iv (own_sel p4 2 p3 p1), rv ob10, .unset, .unset, .unset]) rfl ?_
        show Steps p.tables e below (T14.setTop (mkF m 61 #[iv p0, iv p1, iv p2, iv p3, iv p4, iv (own_pos p0), iv (own_pos p1), iv (own_sel p4 1 p2 p0), iv (own_sel p4 2 p3 p1), rv ob10, .unset, .unset, .unset] [])) _
        exact k
      refine own_lift sg15 ?_
      show own_Go p.tables e below (T14.setTop (mkF m 61 #[iv p0, iv p1, iv p2, iv p3, iv p4, iv (own_pos p0), iv (own_pos p1), iv (own_sel p4 1 p2 p0), iv (own_sel p4 2 p3 p1), rv ob10, .unset, .unset, .unset] [])) _
      obtain ⟨T16, h16, X16, e16, Ex16, Ax16, Dx16, Ux16, st16⟩ := newO X14 hx hZ hown (wd hw 5 rfl) (wd hw 6 rfl) (wd hw 7 rfl) rfl (g := (mkF m 61 #[iv p0, iv p1, iv p2, iv p3, iv p4, iv (own_pos p0), iv (own_pos p1), iv (own_sel p4 1 p2 p0), iv (own_sel p4 2 p3 p1), rv ob10, .unset, .unset, .unset] [])) rfl (hb hby at_61) (by decide) (by decide)
      obtain ⟨ob16, g16⟩ : ∃ z, z = T14.heap.size := ⟨_, rfl⟩
      rw [← g16] at Ax16 Dx16 Ux16 st16
      have Fc17 : Arr Z T14.heap ca cc (.object "java/lang/Integer") := (own_Arr_keep (A1.ext Ex10) p14_0 (ninS ne11 nin0))
      have ne18 : ca ≠ ob16 := Nat.ne_of_lt (Nat.lt_of_lt_of_le Fc17.lt (Nat.le_of_eq g16.symm))
      have Fc19 : Exa Z T14.heap bx "java/lang/Integer" := ((Ebx.ext Ex10).keep p14_0)
      have ne20 : bx ≠ ob16 := Nat.ne_of_lt (Nat.lt_of_lt_of_le Fc19.lt (Nat.le_of_eq g16.symm))
      have ne21 : ob10 ≠ ob16 := Nat.ne_of_lt (Nat.lt_of_lt_of_le p14_1.lt (Nat.le_of_eq g16.symm))
      have Z16 : n0 ≤ h16.size := Nat.le_trans Z14 Ex16.1
      have ge16 : n0 ≤ ob16 := Nat.le_trans Z14 (Nat.le_of_eq g16.symm)
      have Fn16_15 : Fld Z h16 ob16 "com/example/allsome/allsome/cypher/InputPosition" "line" "I" (.int 0) := Dx16 (Or.inr (wd hw 15 rfl)) (ty := .int) (by decide)
      have Fn16_17 : Fld Z h16 ob16 "com/example/allsome/allsome/cypher/InputPosition" "column" "I" (.int 0) := Dx16 (Or.inr (wd hw 17 rfl)) (ty := .int) (by decide)
      refine own_lift st16 ?_
      show own_Go p.tables e below (T16.setTop (mkF m 64 #[iv p0, iv p1, iv p2, iv p3, iv p4, iv (own_pos p0), iv (own_pos p1), iv (own_sel p4 1 p2 p0), iv (own_sel p4 2 p3 p1), rv ob10, .unset, .unset, .unset] [(.ref ob16)])) _
      have sg22 : ∀ t, Steps p.tables e below (T16.setTop (mkF m 69 #[iv p0, iv p1, iv p2, iv p3, iv p4, iv (own_pos p0), iv (own_pos p1), iv (own_sel p4 1 p2 p0), iv (own_sel p4 2 p3 p1), rv ob10, .unset, .unset, .unset] [(.int (own_sel p4 2 p3 p1)), (.int (own_sel p4 1 p2 p0)), (.ref ob16), (.ref ob16)])) t → Steps p.tables e below (T16.setTop (mkF m 64 #[iv p0, iv p1, iv p2, iv p3, iv p4, iv (own_pos p0), iv (own_pos p1), iv (own_sel p4 1 p2 p0), iv (own_sel p4 2 p3 p1), rv ob10, .unset, .unset, .unset] [(.ref ob16)])) t := by
        intro t k
        refine XS.dup X16.here hx rfl (hb hby at_64) rfl rfl ?_
        show Steps p.tables e below (T16.setTop (mkF m 65 #[iv p0, iv p1, iv p2, iv p3, iv p4, iv (own_pos p0), iv (own_pos p1), iv (own_sel p4 1 p2 p0), iv (own_sel p4 2 p3 p1), rv ob10, .unset, .unset, .unset] [(.ref ob16), (.ref ob16)])) _
        refine XS.iload X16.here hx rfl (hb hby at_65) rfl ?_
        show Steps p.tables e below (T16.setTop (mkF m 67 #[iv p0, iv p1, iv p2, iv p3, iv p4, iv (own_pos p0), iv (own_pos p1), iv (own_sel p4 1 p2 p0), iv (own_sel p4 2 p3 p1), rv ob10, .unset, .unset, .unset] [(.int (own_sel p4 1 p2 p0)), (.ref ob16), (.ref ob16)])) _
        refine XS.iload X16.here hx rfl (hb hby at_67) rfl ?_
        show Steps p.tables e below (T16.setTop (mkF m 69 #[iv p0, iv p1, iv p2, iv p3, iv p4, iv (own_pos p0), iv (own_pos p1), iv (own_sel p4 1 p2 p0), iv (own_sel p4 2 p3 p1), rv ob10, .unset, .unset, .unset] [(.int (own_sel p4 2 p3 p1)), (.int (own_sel p4 1 p2 p0)), (.ref ob16), (.ref ob16)])) _
        exact k
      refine own_lift sg22 ?_
      show own_Go p.tables e below (T16.setTop (mkF m 69 #[iv p0, iv p1, iv p2, iv p3, iv p4, iv (own_pos p0), iv (own_pos p1), iv (own_sel p4 1 p2 p0), iv (own_sel p4 2 p3 p1), rv ob10, .unset, .unset, .unset] [(.int (own_sel p4 2 p3 p1)), (.int (own_sel p4 1 p2 p0)), (.ref ob16), (.ref ob16)])) _
      obtain ⟨_, _, ⟨T23, Lx23, kx23, nx23⟩, -, X23, ⟨Lc23, hQ23, lx23, yx23, zx23⟩, st23⟩ := X16.specialBack hx (y := (⟨"com/example/allsome/allsome/cypher/InputPosition", "<init>", "(II)V"⟩ : MethodName)) rfl hown (mvT hZ (wd hw 8 rfl)) (mvT hZ (wd hw 9 rfl)) (mvT hZ (wd hw 10 rfl)) (by decide) (backOf (W := 1) (rmInit l Z a0 hw [] ob16 (own_sel p4 1 p2 p0) (own_sel p4 2 p3 p1) h16 n0 Z16 Fn16_15 Fn16_17 Ax16 ge16 (own_sel_ge _ _ _ _) (own_sel_ge _ _ _ _)) hZ (wd hw 10 rfl) (wd hw 7 rfl) (by decide) (by decide)) (g := (mkF m 69 #[iv p0, iv p1, iv p2, iv p3, iv p4, iv (own_pos p0), iv (own_pos p1), iv (own_sel p4 1 p2 p0), iv (own_sel p4 2 p3 p1), rv ob10, .unset, .unset, .unset] [(.int (own_sel p4 2 p3 p1)), (.int (own_sel p4 1 p2 p0)), (.ref ob16), (.ref ob16)])) rfl (by rw [hml]; rfl) (Steps.refl _) (a := ob16) (argsL := [(.int (own_sel p4 1 p2 p0)), (.int (own_sel p4 2 p3 p1))]) (rest := [(.ref ob16)]) (lenOf pd_3 rfl) rfl (by show 2 * 0 + _ ≤ _; exact Nat.le_of_eq rfl) (hb hby at_69) (fun _ _ => ⟨rfl, e16, (by decide : 2 + 0 ≤ _), (by decide : 4 + 0 ≤ _)⟩)
      dsimp only [Pt.U, Pt.locs, Pt.cells, Pt.slots] at X23 lx23 yx23 zx23 st23 hQ23
      subst lx23 yx23 zx23
      obtain ⟨rfl, N23q, p23_0, p23_1, p23_2, p23_3⟩ := hQ23
      have N23 := Fr.app N14 N23q
      have Z23 : n0 ≤ T23.heap.size := Nat.le_trans Z16 p23_0.1
      refine own_lift (fun t k => st23.trans k) ?_
      show own_Go p.tables e below (T23.setTop (mkF m 72 #[iv p0, iv p1, iv p2, iv p3, iv p4, iv (own_pos p0), iv (own_pos p1), iv (own_sel p4 1 p2 p0), iv (own_sel p4 2 p3 p1), rv ob10, .unset, .unset, .unset] [(.ref ob16)])) _
      have sg24 : ∀ t, Steps p.tables e below (T23.setTop (mkF m 175 #[iv p0, iv p1, iv p2, iv p3, iv p4, iv (own_pos p0), iv (own_pos p1), iv (own_sel p4 1 p2 p0), iv (own_sel p4 2 p3 p1), rv ob10, rv ob16, iv (((p4.toUInt32 >>> ((2 : Int32) &&& 31).toUInt32).toInt32) &&& (3 : Int32)), .unset] [(.int (own_pos p0))])) t → Steps p.tables e below (T23.setTop (mkF m 72 #[iv p0, iv p1, iv p2, iv p3, iv p4, iv (own_pos p0), iv (own_pos p1), iv (own_sel p4 1 p2 p0), iv (own_sel p4 2 p3 p1), rv ob10, .unset, .unset, .unset] [(.ref ob16)])) t := by
        intro t k
        refine XS.astore X23.here hx rfl (hb hby at_72) rfl rfl (l' := #[iv p0, iv p1, iv p2, iv p3, iv p4, iv (own_pos p0), iv (own_pos p1), iv (own_sel p4 1 p2 p0), iv (own_sel p4 2 p3 p1), rv ob10, rv ob16, .unset, .unset]) rfl ?_
        show Steps p.tables e below (T23.setTop (mkF m 74 #[iv p0, iv p1, iv p2, iv p3, iv p4, iv (own_pos p0), iv (own_pos p1), iv (own_sel p4 1 p2 p0), iv (own_sel p4 2 p3 p1), rv ob10, rv ob16, .unset, .unset] [])) _
        refine XS.iload X23.here hx rfl (hb hby at_74) rfl ?_
        show Steps p.tables e below (T23.setTop (mkF m 76 #[iv p0, iv p1, iv p2, iv p3, iv p4, iv (own_pos p0), iv (own_pos p1), iv (own_sel p4 1 p2 p0), iv (own_sel p4 2 p3 p1), rv ob10, rv ob16, .unset, .unset] [(.int p4)])) _
        refine XS.iconst X23.here hx rfl (hb hby at_76) ?_
        show Steps p.tables e below (T23.setTop (mkF m 77 #[iv p0, iv p1, iv p2, iv p3, iv p4, iv (own_pos p0), iv (own_pos p1), iv (own_sel p4 1 p2 p0), iv (own_sel p4 2 p3 p1), rv ob10, rv ob16, .unset, .unset] [(.int 2), (.int p4)])) _
        refine XS.iushr X23.here hx rfl (hb hby at_77) rfl ?_
        show Steps p.tables e below (T23.setTop (mkF m 78 #[iv p0, iv p1, iv p2, iv p3, iv p4, iv (own_pos p0), iv (own_pos p1), iv (own_sel p4 1 p2 p0), iv (own_sel p4 2 p3 p1), rv ob10, rv ob16, .unset, .unset] [(.int ((p4.toUInt32 >>> ((2 : Int32) &&& 31).toUInt32).toInt32))])) _
        refine XS.iconst X23.here hx rfl (hb hby at_78) ?_
        show Steps p.tables e below (T23.setTop (mkF m 79 #[iv p0, iv p1, iv p2, iv p3, iv p4, iv (own_pos p0), iv (own_pos p1), iv (own_sel p4 1 p2 p0), iv (own_sel p4 2 p3 p1), rv ob10, rv ob16, .unset, .unset] [(.int 3), (.int ((p4.toUInt32 >>> ((2 : Int32) &&& 31).toUInt32).toInt32))])) _
        refine XS.iand X23.here hx rfl (hb hby at_79) rfl ?_
        show Steps p.tables e below (T23.setTop (mkF m 80 #[iv p0, iv p1, iv p2, iv p3, iv p4, iv (own_pos p0), iv (own_pos p1), iv (own_sel p4 1 p2 p0), iv (own_sel p4 2 p3 p1), rv ob10, rv ob16, .unset, .unset] [(.int (((p4.toUInt32 >>> ((2 : Int32) &&& 31).toUInt32).toInt32) &&& (3 : Int32)))])) _
        refine XS.istore X23.here hx rfl (hb hby at_80) rfl (l' := #[iv p0, iv p1, iv p2, iv p3, iv p4, iv (own_pos p0), iv (own_pos p1), iv (own_sel p4 1 p2 p0), iv (own_sel p4 2 p3 p1), rv ob10, rv ob16, iv (((p4.toUInt32 >>> ((2 : Int32) &&& 31).toUInt32).toInt32) &&& (3 : Int32)), .unset]) rfl ?_
        show Steps p.tables e below (T23.setTop (mkF m 82 #[iv p0, iv p1, iv p2, iv p3, iv p4, iv (own_pos p0), iv (own_pos p1), iv (own_sel p4 1 p2 p0), iv (own_sel p4 2 p3 p1), rv ob10, rv ob16, iv (((p4.toUInt32 >>> ((2 : Int32) &&& 31).toUInt32).toInt32) &&& (3 : Int32)), .unset] [])) _
        refine XS.iload X23.here hx rfl (hb hby at_82) rfl ?_
        show Steps p.tables e below (T23.setTop (mkF m 84 #[iv p0, iv p1, iv p2, iv p3, iv p4, iv (own_pos p0), iv (own_pos p1), iv (own_sel p4 1 p2 p0), iv (own_sel p4 2 p3 p1), rv ob10, rv ob16, iv (((p4.toUInt32 >>> ((2 : Int32) &&& 31).toUInt32).toInt32) &&& (3 : Int32)), .unset] [(.int (((p4.toUInt32 >>> ((2 : Int32) &&& 31).toUInt32).toInt32) &&& (3 : Int32)))])) _
        refine XS.ifYes X23.here hx rfl (pc0 := 84) (pc' := 138) rfl (hb hby at_84) rfl ((if0 _ _).trans (feq k0).2) (by decide) (by decide) ?_
        show Steps p.tables e below (T23.setTop (mkF m 138 #[iv p0, iv p1, iv p2, iv p3, iv p4, iv (own_pos p0), iv (own_pos p1), iv (own_sel p4 1 p2 p0), iv (own_sel p4 2 p3 p1), rv ob10, rv ob16, iv (((p4.toUInt32 >>> ((2 : Int32) &&& 31).toUInt32).toInt32) &&& (3 : Int32)), .unset] [])) _
        refine XS.iload X23.here hx rfl (hb hby at_138) rfl ?_
        show Steps p.tables e below (T23.setTop (mkF m 140 #[iv p0, iv p1, iv p2, iv p3, iv p4, iv (own_pos p0), iv (own_pos p1), iv (own_sel p4 1 p2 p0), iv (own_sel p4 2 p3 p1), rv ob10, rv ob16, iv (((p4.toUInt32 >>> ((2 : Int32) &&& 31).toUInt32).toInt32) &&& (3 : Int32)), .unset] [(.int (((p4.toUInt32 >>> ((2 : Int32) &&& 31).toUInt32).toInt32) &&& (3 : Int32)))])) _
        refine XS.iconst X23.here hx rfl (hb hby at_140) ?_
        show Steps p.tables e below (T23.setTop (mkF m 141 #[iv p0, iv p1, iv p2, iv p3, iv p4, iv (own_pos p0), iv (own_pos p1), iv (own_sel p4 1 p2 p0), iv (own_sel p4 2 p3 p1), rv ob10, rv ob16, iv (((p4.toUInt32 >>> ((2 : Int32) &&& 31).toUInt32).toInt32) &&& (3 : Int32)), .unset] [(.int 1), (.int (((p4.toUInt32 >>> ((2 : Int32) &&& 31).toUInt32).toInt32) &&& (3 : Int32)))])) _
        refine XS.icmpYes X23.here hx rfl (pc0 := 141) (pc' := 152) rfl (hb hby at_141) rfl (feq k1).2 (by decide) (by decide) ?_
        show Steps p.tables e below (T23.setTop (mkF m 152 #[iv p0, iv p1, iv p2, iv p3, iv p4, iv (own_pos p0), iv (own_pos p1), iv (own_sel p4 1 p2 p0), iv (own_sel p4 2 p3 p1), rv ob10, rv ob16, iv (((p4.toUInt32 >>> ((2 : Int32) &&& 31).toUInt32).toInt32) &&& (3 : Int32)), .unset] [])) _
        refine XS.iload X23.here hx rfl (hb hby at_152) rfl ?_
        show Steps p.tables e below (T23.setTop (mkF m 154 #[iv p0, iv p1, iv p2, iv p3, iv p4, iv (own_pos p0), iv (own_pos p1), iv (own_sel p4 1 p2 p0), iv (own_sel p4 2 p3 p1), rv ob10, rv ob16, iv (((p4.toUInt32 >>> ((2 : Int32) &&& 31).toUInt32).toInt32) &&& (3 : Int32)), .unset] [(.int (((p4.toUInt32 >>> ((2 : Int32) &&& 31).toUInt32).toInt32) &&& (3 : Int32)))])) _
        refine XS.iconst X23.here hx rfl (hb hby at_154) ?_
        show Steps p.tables e below (T23.setTop (mkF m 155 #[iv p0, iv p1, iv p2, iv p3, iv p4, iv (own_pos p0), iv (own_pos p1), iv (own_sel p4 1 p2 p0), iv (own_sel p4 2 p3 p1), rv ob10, rv ob16, iv (((p4.toUInt32 >>> ((2 : Int32) &&& 31).toUInt32).toInt32) &&& (3 : Int32)), .unset] [(.int 2), (.int (((p4.toUInt32 >>> ((2 : Int32) &&& 31).toUInt32).toInt32) &&& (3 : Int32)))])) _
        refine XS.icmpYes X23.here hx rfl (pc0 := 155) (pc' := 173) rfl (hb hby at_155) rfl (feq k2).2 (by decide) (by decide) ?_
        show Steps p.tables e below (T23.setTop (mkF m 173 #[iv p0, iv p1, iv p2, iv p3, iv p4, iv (own_pos p0), iv (own_pos p1), iv (own_sel p4 1 p2 p0), iv (own_sel p4 2 p3 p1), rv ob10, rv ob16, iv (((p4.toUInt32 >>> ((2 : Int32) &&& 31).toUInt32).toInt32) &&& (3 : Int32)), .unset] [])) _
        refine XS.iload X23.here hx rfl (hb hby at_173) rfl ?_
        show Steps p.tables e below (T23.setTop (mkF m 175 #[iv p0, iv p1, iv p2, iv p3, iv p4, iv (own_pos p0), iv (own_pos p1), iv (own_sel p4 1 p2 p0), iv (own_sel p4 2 p3 p1), rv ob10, rv ob16, iv (((p4.toUInt32 >>> ((2 : Int32) &&& 31).toUInt32).toInt32) &&& (3 : Int32)), .unset] [(.int (own_pos p0))])) _
        exact k
      refine own_lift sg24 ?_
      show own_Go p.tables e below (T23.setTop (mkF m 175 #[iv p0, iv p1, iv p2, iv p3, iv p4, iv (own_pos p0), iv (own_pos p1), iv (own_sel p4 1 p2 p0), iv (own_sel p4 2 p3 p1), rv ob10, rv ob16, iv (((p4.toUInt32 >>> ((2 : Int32) &&& 31).toUInt32).toInt32) &&& (3 : Int32)), .unset] [(.int (own_pos p0))])) _
      have Fc25 : Sta Z T23.heap "java/lang/Integer$IntegerCache" "high" "I" (.int 127) := (own_Sta_keep ((own_Sta_keep (S1.ext Ex10) p14_0 (allS (own_plain Ax10) all0)).ext Ex16) p23_0 (allS (own_plain Ax16) all0))
      have Fc26 : Sta Z T23.heap "java/lang/Integer$IntegerCache" "cache" "[Ljava/lang/Integer;" (.ref ca) := (own_Sta_keep ((own_Sta_keep (S2.ext Ex10) p14_0 (allS (own_plain Ax10) all0)).ext Ex16) p23_0 (allS (own_plain Ax16) all0))
      have Fc27 : Arr Z T23.heap ca cc (.object "java/lang/Integer") := (own_Arr_keep (Fc17.ext Ex16) p23_0 (ninS ne18 nin0))
      have Fc28 : Exa Z T23.heap bx "java/lang/Integer" := ((Fc19.ext Ex16).keep p23_0)
      obtain ⟨_, _, ⟨T29, Lx29, kx29, nx29⟩, -, X29, ⟨Lc29, hQ29, lx29, yx29, zx29⟩, st29⟩ := Jvm.LawKit.callS X23 hx (y := (⟨"java/lang/Integer", "valueOf", "(I)Ljava/lang/Integer;"⟩ : MethodName)) hown (mvT hZ (wd hw 25 rfl)) (mvT hZ (wd hw 26 rfl)) (mvT hZ (wd hw 27 rfl)) (mvT hZ (wd hw 28 rfl)) (by decide) (backOf (W := 0) (rmValC l Z a0 hw [] (own_pos p0) ca cc bx T23.heap n0 Z23 Fc25 Fc26 Fc27 Fc28 (own_pos_lo p0) hbg hin hat) hZ (wd hw 28 rfl) (wd hw 27 rfl) (by decide) (by decide)) (g := (mkF m 175 #[iv p0, iv p1, iv p2, iv p3, iv p4, iv (own_pos p0), iv (own_pos p1), iv (own_sel p4 1 p2 p0), iv (own_sel p4 2 p3 p1), rv ob10, rv ob16, iv (((p4.toUInt32 >>> ((2 : Int32) &&& 31).toUInt32).toInt32) &&& (3 : Int32)), .unset] [(.int (own_pos p0))])) rfl (by rw [hml]; rfl) (argsL := [(.int (own_pos p0))]) (rest := []) (lenOf pd_5 rfl) rfl (by show 2 * 0 + _ ≤ _; exact Nat.le_of_eq rfl) (hb hby at_175) (fun _ _ => ⟨rfl, rfl, (by decide : 2 + 0 ≤ _), (by decide : 4 + 0 ≤ _)⟩)
      dsimp only [Pt.U, Pt.locs, Pt.cells, Pt.slots] at X29 lx29 yx29 zx29 st29 hQ29
      subst lx29 yx29 zx29
      obtain ⟨xb_29, rfl, N29q, p29_0, p29_1⟩ := hQ29
      have N29 := Fr.app N23 N29q
      have Z29 : n0 ≤ T29.heap.size := Nat.le_trans Z23 p29_0.1
      refine own_lift st29 ?_
      show own_Go p.tables e below (T29.setTop (mkF m 178 #[iv p0, iv p1, iv p2, iv p3, iv p4, iv (own_pos p0), iv (own_pos p1), iv (own_sel p4 1 p2 p0), iv (own_sel p4 2 p3 p1), rv ob10, rv ob16, iv (((p4.toUInt32 >>> ((2 : Int32) &&& 31).toUInt32).toInt32) &&& (3 : Int32)), .unset] [(.ref xb_29)])) _
      have sg30 : ∀ t, Steps p.tables e below (T29.setTop (mkF m 184 #[iv p0, iv p1, iv p2, iv p3, iv p4, iv (own_pos p0), iv (own_pos p1), iv (own_sel p4 1 p2 p0), iv (own_sel p4 2 p3 p1), rv ob10, rv ob16, iv (((p4.toUInt32 >>> ((2 : Int32) &&& 31).toUInt32).toInt32) &&& (3 : Int32)), rv xb_29] [(.ref xb_29), (.ref ob10)])) t → Steps p.tables e below (T29.setTop (mkF m 178 #[iv p0, iv p1, iv p2, iv p3, iv p4, iv (own_pos p0), iv (own_pos p1), iv (own_sel p4 1 p2 p0), iv (own_sel p4 2 p3 p1), rv ob10, rv ob16, iv (((p4.toUInt32 >>> ((2 : Int32) &&& 31).toUInt32).toInt32) &&& (3 : Int32)), .unset] [(.ref xb_29)])) t := by
        intro t k
        refine XS.astore X29.here hx rfl (hb hby at_178) rfl rfl (l' := #[iv p0, iv p1, iv p2, iv p3, iv p4, iv (own_pos p0), iv (own_pos p1), iv (own_sel p4 1 p2 p0), iv (own_sel p4 2 p3 p1), rv ob10, rv ob16, iv (((p4.toUInt32 >>> ((2 : Int32) &&& 31).toUInt32).toInt32) &&& (3 : Int32)), rv xb_29]) rfl ?_
        show Steps p.tables e below (T29.setTop (mkF m 180 #[iv p0, iv p1, iv p2, iv p3, iv p4, iv (own_pos p0), iv (own_pos p1), iv (own_sel p4 1 p2 p0), iv (own_sel p4 2 p3 p1), rv ob10, rv ob16, iv (((p4.toUInt32 >>> ((2 : Int32) &&& 31).toUInt32).toInt32) &&& (3 : Int32)), rv xb_29] [])) _
        refine XS.aload X29.here hx rfl (hb hby at_180) rfl rfl ?_
        show Steps p.tables e below (T29.setTop (mkF m 182 #[iv p0, iv p1, iv p2, iv p3, iv p4, iv (own_pos p0), iv (own_pos p1), iv (own_sel p4 1 p2 p0), iv (own_sel p4 2 p3 p1), rv ob10, rv ob16, iv (((p4.toUInt32 >>> ((2 : Int32) &&& 31).toUInt32).toInt32) &&& (3 : Int32)), rv xb_29] [(.ref ob10)])) _
        refine XS.aload X29.here hx rfl (hb hby at_182) rfl rfl ?_
        show Steps p.tables e below (T29.setTop (mkF m 184 #[iv p0, iv p1, iv p2, iv p3, iv p4, iv (own_pos p0), iv (own_pos p1), iv (own_sel p4 1 p2 p0), iv (own_sel p4 2 p3 p1), rv ob10, rv ob16, iv (((p4.toUInt32 >>> ((2 : Int32) &&& 31).toUInt32).toInt32) &&& (3 : Int32)), rv xb_29] [(.ref xb_29), (.ref ob10)])) _
        exact k
      refine own_lift sg30 ?_
      show own_Go p.tables e below (T29.setTop (mkF m 184 #[iv p0, iv p1, iv p2, iv p3, iv p4, iv (own_pos p0), iv (own_pos p1), iv (own_sel p4 1 p2 p0), iv (own_sel p4 2 p3 p1), rv ob10, rv ob16, iv (((p4.toUInt32 >>> ((2 : Int32) &&& 31).toUInt32).toInt32) &&& (3 : Int32)), rv xb_29] [(.ref xb_29), (.ref ob10)])) _
      have Fc32 : Exa Z T29.heap ob10 "com/example/allsome/allsome/cypher/InputPosition" := (((p14_1.ext Ex16).keep p23_0).keep p29_0)
      obtain ⟨cq31, kq31, q31a, q31b, q31c⟩ := isOf hZ rfl Fc32
      obtain ⟨_, _, ⟨T31, Lx31, kx31, nx31⟩, -, X31, ⟨Lc31, hQ31, lx31, yx31, zx31⟩, st31⟩ := X29.virtualBack hx (y := (⟨"com/example/allsome/allsome/cypher/InputPosition", "equals", "(Ljava/lang/Object;)Z"⟩ : MethodName)) (z := (⟨"com/example/allsome/allsome/cypher/InputPosition", "equals", "(Ljava/lang/Object;)Z"⟩ : MethodName)) hown (mvT hZ (wd hw 18 rfl)) (mvT hZ (wd hw 19 rfl)) (notFace_of_selects (args := #[]) (mvT hZ (wd hw 21 rfl))) (mvT hZ (wd hw 21 rfl)) (mvT hZ (wd hw 20 rfl)) (by decide) (backOf (W := 0) (rmEqInt l Z a0 hw [] ob10 xb_29 T29.heap n0 Z29 p29_1) hZ (wd hw 22 rfl) (wd hw 7 rfl) (by decide) (by decide)) q31a q31c (g := (mkF m 184 #[iv p0, iv p1, iv p2, iv p3, iv p4, iv (own_pos p0), iv (own_pos p1), iv (own_sel p4 1 p2 p0), iv (own_sel p4 2 p3 p1), rv ob10, rv ob16, iv (((p4.toUInt32 >>> ((2 : Int32) &&& 31).toUInt32).toInt32) &&& (3 : Int32)), rv xb_29] [(.ref xb_29), (.ref ob10)])) rfl (by rw [hml]; rfl) (Steps.refl _) (argsL := [(.ref xb_29)]) (rest := []) (lenOf pd_4 rfl) rfl (by show 2 * 0 + _ ≤ _; exact Nat.le_of_eq rfl) (hb hby at_184) (fun _ _ => ⟨rfl, rfl, (by decide : 2 + 0 ≤ _), (by decide : 4 + 0 ≤ _)⟩)
      dsimp only [Pt.U, Pt.locs, Pt.cells, Pt.slots] at X31 lx31 yx31 zx31 st31 hQ31
      subst lx31 yx31 zx31
      obtain ⟨rfl, N31q, e31⟩ := hQ31
      have N31 := Fr.app N29 N31q
      refine own_lift (fun t k => st31.trans k) ?_
      show own_Go p.tables e below (T31.setTop (mkF m 187 #[iv p0, iv p1, iv p2, iv p3, iv p4, iv (own_pos p0), iv (own_pos p1), iv (own_sel p4 1 p2 p0), iv (own_sel p4 2 p3 p1), rv ob10, rv ob16, iv (((p4.toUInt32 >>> ((2 : Int32) &&& 31).toUInt32).toInt32) &&& (3 : Int32)), rv xb_29] [(.int 0)])) _
      have sg33 : ∀ t, Steps p.tables e below (T31.setTop (mkF m 195 #[iv p0, iv p1, iv p2, iv p3, iv p4, iv (own_pos p0), iv (own_pos p1), iv (own_sel p4 1 p2 p0), iv (own_sel p4 2 p3 p1), rv ob10, rv ob16, iv (((p4.toUInt32 >>> ((2 : Int32) &&& 31).toUInt32).toInt32) &&& (3 : Int32)), rv xb_29] [(.int 1)])) t → Steps p.tables e below (T31.setTop (mkF m 187 #[iv p0, iv p1, iv p2, iv p3, iv p4, iv (own_pos p0), iv (own_pos p1), iv (own_sel p4 1 p2 p0), iv (own_sel p4 2 p3 p1), rv ob10, rv ob16, iv (((p4.toUInt32 >>> ((2 : Int32) &&& 31).toUInt32).toInt32) &&& (3 : Int32)), rv xb_29] [(.int 0)])) t := by
        intro t k
        refine XS.ifNo X31.here hx rfl (hb hby at_187) rfl ((if0 _ _).trans (teq (by decide : (0 : Int32) = (0 : Int32))).2) ?_
        show Steps p.tables e below (T31.setTop (mkF m 190 #[iv p0, iv p1, iv p2, iv p3, iv p4, iv (own_pos p0), iv (own_pos p1), iv (own_sel p4 1 p2 p0), iv (own_sel p4 2 p3 p1), rv ob10, rv ob16, iv (((p4.toUInt32 >>> ((2 : Int32) &&& 31).toUInt32).toInt32) &&& (3 : Int32)), rv xb_29] [])) _
        refine XS.iconst X31.here hx rfl (hb hby at_190) ?_
        show Steps p.tables e below (T31.setTop (mkF m 191 #[iv p0, iv p1, iv p2, iv p3, iv p4, iv (own_pos p0), iv (own_pos p1), iv (own_sel p4 1 p2 p0), iv (own_sel p4 2 p3 p1), rv ob10, rv ob16, iv (((p4.toUInt32 >>> ((2 : Int32) &&& 31).toUInt32).toInt32) &&& (3 : Int32)), rv xb_29] [(.int 1)])) _
        refine XS.goto X31.here hx rfl (pc0 := 191) (pc' := 195) rfl (hb hby at_191) (by decide) (by decide) ?_
        show Steps p.tables e below (T31.setTop (mkF m 195 #[iv p0, iv p1, iv p2, iv p3, iv p4, iv (own_pos p0), iv (own_pos p1), iv (own_sel p4 1 p2 p0), iv (own_sel p4 2 p3 p1), rv ob10, rv ob16, iv (((p4.toUInt32 >>> ((2 : Int32) &&& 31).toUInt32).toInt32) &&& (3 : Int32)), rv xb_29] [(.int 1)])) _
        exact k
      refine own_lift sg33 ?_
      show own_Go p.tables e below (T31.setTop (mkF m 195 #[iv p0, iv p1, iv p2, iv p3, iv p4, iv (own_pos p0), iv (own_pos p1), iv (own_sel p4 1 p2 p0), iv (own_sel p4 2 p3 p1), rv ob10, rv ob16, iv (((p4.toUInt32 >>> ((2 : Int32) &&& 31).toUInt32).toInt32) &&& (3 : Int32)), rv xb_29] [(.int 1)])) _
      obtain ⟨fs, hr, hrun, hended, hW, hsame⟩ := X31.leave (v := some (.int 1)) (fun h => by rw [Bd.returns] at h; cases h)
      refine ⟨_, _, ?_, hrun, hended, _, _, rfl, ?_, ⟨_, rfl⟩, hW, hsame.mono (by decide) (by decide)⟩
      · exact retN X31 hx (t := .boolean) Bd.returns (by simp) (hb hby at_195) hr
      · show Q0 Z  h0 n0 _ T31.heap _
        rw [e31]
        exact ⟨rfl, N31⟩
    by_cases b2 : (p4 &&& (2 : Int32)) = (0 : Int32)
    · have sg34 : ∀ t, Steps p.tables e below (T6.setTop (mkF m 43 #[iv p0, iv p1, iv p2, iv p3, iv p4, iv (own_pos p0), iv (own_pos p1), iv (own_sel p4 1 p2 p0), .unset, .unset, .unset, .unset, .unset] [(.int p3)])) t → Steps p.tables e below (T6.setTop (mkF m 30 #[iv p0, iv p1, iv p2, iv p3, iv p4, iv (own_pos p0), iv (own_pos p1), iv (own_sel p4 1 p2 p0), .unset, .unset, .unset, .unset, .unset] [])) t := by
        intro t k
        refine XS.iload X6.here hx rfl (hb hby at_30) rfl ?_
        show Steps p.tables e below (T6.setTop (mkF m 32 #[iv p0, iv p1, iv p2, iv p3, iv p4, iv (own_pos p0), iv (own_pos p1), iv (own_sel p4 1 p2 p0), .unset, .unset, .unset, .unset, .unset] [(.int p4)])) _
        refine XS.iconst X6.here hx rfl (hb hby at_32) ?_
        show Steps p.tables e below (T6.setTop (mkF m 33 #[iv p0, iv p1, iv p2, iv p3, iv p4, iv (own_pos p0), iv (own_pos p1), iv (own_sel p4 1 p2 p0), .unset, .unset, .unset, .unset, .unset] [(.int 2), (.int p4)])) _
        refine XS.iand X6.here hx rfl (hb hby at_33) rfl ?_
        show Steps p.tables e below (T6.setTop (mkF m 34 #[iv p0, iv p1, iv p2, iv p3, iv p4, iv (own_pos p0), iv (own_pos p1), iv (own_sel p4 1 p2 p0), .unset, .unset, .unset, .unset, .unset] [(.int (p4 &&& (2 : Int32)))])) _
        refine XS.ifYes X6.here hx rfl (pc0 := 34) (pc' := 42) rfl (hb hby at_34) rfl ((if0 _ _).trans (teq b2).1) (by decide) (by decide) ?_
        show Steps p.tables e below (T6.setTop (mkF m 42 #[iv p0, iv p1, iv p2, iv p3, iv p4, iv (own_pos p0), iv (own_pos p1), iv (own_sel p4 1 p2 p0), .unset, .unset, .unset, .unset, .unset] [])) _
        refine XS.iloadN X6.here hx rfl (hb hby at_42) rfl ?_
        show Steps p.tables e below (T6.setTop (mkF m 43 #[iv p0, iv p1, iv p2, iv p3, iv p4, iv (own_pos p0), iv (own_pos p1), iv (own_sel p4 1 p2 p0), .unset, .unset, .unset, .unset, .unset] [(.int p3)])) _
        exact k
      refine own_lift sg34 ?_
      show own_Go p.tables e below (T6.setTop (mkF m 43 #[iv p0, iv p1, iv p2, iv p3, iv p4, iv (own_pos p0), iv (own_pos p1), iv (own_sel p4 1 p2 p0), .unset, .unset, .unset, .unset, .unset] [(.int p3)])) _
      obtain ⟨_, _, ⟨T35, Lx35, kx35, nx35⟩, -, X35, ⟨Lc35, hQ35, lx35, yx35, zx35⟩, st35⟩ := Jvm.LawKit.callS X6 hx (y := (⟨"com/example/allsome/allsome/cypher/InputPositionEqualsPinLaw", "pos", "(I)I"⟩ : MethodName)) hown (mvT hZ (wd hw 0 rfl)) (mvT hZ (wd hw 1 rfl)) (mvT hZ (wd hw 2 rfl)) (mvT hZ (wd hw 3 rfl)) (by decide) (backOf (W := 0) (rmPos l Z a0 hw [] p3 h0 n0 Z0 ) hZ (wd hw 3 rfl) (wd hw 2 rfl) (by decide) (by decide)) (g := (mkF m 43 #[iv p0, iv p1, iv p2, iv p3, iv p4, iv (own_pos p0), iv (own_pos p1), iv (own_sel p4 1 p2 p0), .unset, .unset, .unset, .unset, .unset] [(.int p3)])) rfl (by rw [hml]; rfl) (argsL := [(.int p3)]) (rest := []) (lenOf pd_2 rfl) rfl (by show 2 * 0 + _ ≤ _; exact Nat.le_of_eq rfl) (hb hby at_43) (fun _ _ => ⟨rfl, e6, (by decide : 0 + 0 ≤ _), (by decide : 0 + 0 ≤ _)⟩)
      dsimp only [Pt.U, Pt.locs, Pt.cells, Pt.slots] at X35 lx35 yx35 zx35 st35 hQ35
      subst lx35 yx35 zx35
      obtain ⟨rfl, N35q, e35⟩ := hQ35
      have N35 := Fr.app N6 N35q
      refine own_lift st35 ?_
      show own_Go p.tables e below (T35.setTop (mkF m 46 #[iv p0, iv p1, iv p2, iv p3, iv p4, iv (own_pos p0), iv (own_pos p1), iv (own_sel p4 1 p2 p0), .unset, .unset, .unset, .unset, .unset] [(.int (own_pos p3))])) _
      rw [show (own_sel p4 2 p3 p1) = (own_pos p3) from if_pos b2] at join8
      exact join8 _ _ X35 e35 N35
    · have sg36 : ∀ t, Steps p.tables e below (T6.setTop (mkF m 46 #[iv p0, iv p1, iv p2, iv p3, iv p4, iv (own_pos p0), iv (own_pos p1), iv (own_sel p4 1 p2 p0), .unset, .unset, .unset, .unset, .unset] [(.int (own_pos p1))])) t → Steps p.tables e below (T6.setTop (mkF m 30 #[iv p0, iv p1, iv p2, iv p3, iv p4, iv (own_pos p0), iv (own_pos p1), iv (own_sel p4 1 p2 p0), .unset, .unset, .unset, .unset, .unset] [])) t := by
        intro t k
        refine XS.iload X6.here hx rfl (hb hby at_30) rfl ?_
        show Steps p.tables e below (T6.setTop (mkF m 32 #[iv p0, iv p1, iv p2, iv p3, iv p4, iv (own_pos p0), iv (own_pos p1), iv (own_sel p4 1 p2 p0), .unset, .unset, .unset, .unset, .unset] [(.int p4)])) _
        refine XS.iconst X6.here hx rfl (hb hby at_32) ?_
        show Steps p.tables e below (T6.setTop (mkF m 33 #[iv p0, iv p1, iv p2, iv p3, iv p4, iv (own_pos p0), iv (own_pos p1), iv (own_sel p4 1 p2 p0), .unset, .unset, .unset, .unset, .unset] [(.int 2), (.int p4)])) _
        refine XS.iand X6.here hx rfl (hb hby at_33) rfl ?_
        show Steps p.tables e below (T6.setTop (mkF m 34 #[iv p0, iv p1, iv p2, iv p3, iv p4, iv (own_pos p0), iv (own_pos p1), iv (own_sel p4 1 p2 p0), .unset, .unset, .unset, .unset, .unset] [(.int (p4 &&& (2 : Int32)))])) _
        refine XS.ifNo X6.here hx rfl (hb hby at_34) rfl ((if0 _ _).trans (feq b2).1) ?_
        show Steps p.tables e below (T6.setTop (mkF m 37 #[iv p0, iv p1, iv p2, iv p3, iv p4, iv (own_pos p0), iv (own_pos p1), iv (own_sel p4 1 p2 p0), .unset, .unset, .unset, .unset, .unset] [])) _
        refine XS.iload X6.here hx rfl (hb hby at_37) rfl ?_
        show Steps p.tables e below (T6.setTop (mkF m 39 #[iv p0, iv p1, iv p2, iv p3, iv p4, iv (own_pos p0), iv (own_pos p1), iv (own_sel p4 1 p2 p0), .unset, .unset, .unset, .unset, .unset] [(.int (own_pos p1))])) _
        refine XS.goto X6.here hx rfl (pc0 := 39) (pc' := 46) rfl (hb hby at_39) (by decide) (by decide) ?_
        show Steps p.tables e below (T6.setTop (mkF m 46 #[iv p0, iv p1, iv p2, iv p3, iv p4, iv (own_pos p0), iv (own_pos p1), iv (own_sel p4 1 p2 p0), .unset, .unset, .unset, .unset, .unset] [(.int (own_pos p1))])) _
        exact k
      refine own_lift sg36 ?_
      show own_Go p.tables e below (T6.setTop (mkF m 46 #[iv p0, iv p1, iv p2, iv p3, iv p4, iv (own_pos p0), iv (own_pos p1), iv (own_sel p4 1 p2 p0), .unset, .unset, .unset, .unset, .unset] [(.int (own_pos p1))])) _
      rw [show (own_sel p4 2 p3 p1) = (own_pos p1) from if_neg b2] at join8
      exact join8 _ _ X6 e6 N6
  by_cases b1 : (p4 &&& (1 : Int32)) = (0 : Int32)
  · have sg37 : ∀ t, Steps p.tables e below (T4.setTop (mkF m 25 #[iv p0, iv p1, iv p2, iv p3, iv p4, iv (own_pos p0), iv (own_pos p1), .unset, .unset, .unset, .unset, .unset, .unset] [(.int p2)])) t → Steps p.tables e below (T4.setTop (mkF m 12 #[iv p0, iv p1, iv p2, iv p3, iv p4, iv (own_pos p0), iv (own_pos p1), .unset, .unset, .unset, .unset, .unset, .unset] [])) t := by
      intro t k
      refine XS.iload X4.here hx rfl (hb hby at_12) rfl ?_
      show Steps p.tables e below (T4.setTop (mkF m 14 #[iv p0, iv p1, iv p2, iv p3, iv p4, iv (own_pos p0), iv (own_pos p1), .unset, .unset, .unset, .unset, .unset, .unset] [(.int p4)])) _
      refine XS.iconst X4.here hx rfl (hb hby at_14) ?_
      show Steps p.tables e below (T4.setTop (mkF m 15 #[iv p0, iv p1, iv p2, iv p3, iv p4, iv (own_pos p0), iv (own_pos p1), .unset, .unset, .unset, .unset, .unset, .unset] [(.int 1), (.int p4)])) _
      refine XS.iand X4.here hx rfl (hb hby at_15) rfl ?_
      show Steps p.tables e below (T4.setTop (mkF m 16 #[iv p0, iv p1, iv p2, iv p3, iv p4, iv (own_pos p0), iv (own_pos p1), .unset, .unset, .unset, .unset, .unset, .unset] [(.int (p4 &&& (1 : Int32)))])) _
      refine XS.ifYes X4.here hx rfl (pc0 := 16) (pc' := 24) rfl (hb hby at_16) rfl ((if0 _ _).trans (teq b1).1) (by decide) (by decide) ?_
      show Steps p.tables e below (T4.setTop (mkF m 24 #[iv p0, iv p1, iv p2, iv p3, iv p4, iv (own_pos p0), iv (own_pos p1), .unset, .unset, .unset, .unset, .unset, .unset] [])) _
      refine XS.iloadN X4.here hx rfl (hb hby at_24) rfl ?_
      show Steps p.tables e below (T4.setTop (mkF m 25 #[iv p0, iv p1, iv p2, iv p3, iv p4, iv (own_pos p0), iv (own_pos p1), .unset, .unset, .unset, .unset, .unset, .unset] [(.int p2)])) _
      exact k
    refine own_lift sg37 ?_
    show own_Go p.tables e below (T4.setTop (mkF m 25 #[iv p0, iv p1, iv p2, iv p3, iv p4, iv (own_pos p0), iv (own_pos p1), .unset, .unset, .unset, .unset, .unset, .unset] [(.int p2)])) _
    obtain ⟨_, _, ⟨T38, Lx38, kx38, nx38⟩, -, X38, ⟨Lc38, hQ38, lx38, yx38, zx38⟩, st38⟩ := Jvm.LawKit.callS X4 hx (y := (⟨"com/example/allsome/allsome/cypher/InputPositionEqualsPinLaw", "pos", "(I)I"⟩ : MethodName)) hown (mvT hZ (wd hw 0 rfl)) (mvT hZ (wd hw 1 rfl)) (mvT hZ (wd hw 2 rfl)) (mvT hZ (wd hw 3 rfl)) (by decide) (backOf (W := 0) (rmPos l Z a0 hw [] p2 h0 n0 Z0 ) hZ (wd hw 3 rfl) (wd hw 2 rfl) (by decide) (by decide)) (g := (mkF m 25 #[iv p0, iv p1, iv p2, iv p3, iv p4, iv (own_pos p0), iv (own_pos p1), .unset, .unset, .unset, .unset, .unset, .unset] [(.int p2)])) rfl (by rw [hml]; rfl) (argsL := [(.int p2)]) (rest := []) (lenOf pd_2 rfl) rfl (by show 2 * 0 + _ ≤ _; exact Nat.le_of_eq rfl) (hb hby at_25) (fun _ _ => ⟨rfl, e4, (by decide : 0 + 0 ≤ _), (by decide : 0 + 0 ≤ _)⟩)
    dsimp only [Pt.U, Pt.locs, Pt.cells, Pt.slots] at X38 lx38 yx38 zx38 st38 hQ38
    subst lx38 yx38 zx38
    obtain ⟨rfl, N38q, e38⟩ := hQ38
    have N38 := Fr.app N4 N38q
    refine own_lift st38 ?_
    show own_Go p.tables e below (T38.setTop (mkF m 28 #[iv p0, iv p1, iv p2, iv p3, iv p4, iv (own_pos p0), iv (own_pos p1), .unset, .unset, .unset, .unset, .unset, .unset] [(.int (own_pos p2))])) _
    rw [show (own_sel p4 1 p2 p0) = (own_pos p2) from if_pos b1] at join6
    exact join6 _ _ X38 e38 N38
  · have sg39 : ∀ t, Steps p.tables e below (T4.setTop (mkF m 28 #[iv p0, iv p1, iv p2, iv p3, iv p4, iv (own_pos p0), iv (own_pos p1), .unset, .unset, .unset, .unset, .unset, .unset] [(.int (own_pos p0))])) t → Steps p.tables e below (T4.setTop (mkF m 12 #[iv p0, iv p1, iv p2, iv p3, iv p4, iv (own_pos p0), iv (own_pos p1), .unset, .unset, .unset, .unset, .unset, .unset] [])) t := by
      intro t k
      refine XS.iload X4.here hx rfl (hb hby at_12) rfl ?_
      show Steps p.tables e below (T4.setTop (mkF m 14 #[iv p0, iv p1, iv p2, iv p3, iv p4, iv (own_pos p0), iv (own_pos p1), .unset, .unset, .unset, .unset, .unset, .unset] [(.int p4)])) _
      refine XS.iconst X4.here hx rfl (hb hby at_14) ?_
      show Steps p.tables e below (T4.setTop (mkF m 15 #[iv p0, iv p1, iv p2, iv p3, iv p4, iv (own_pos p0), iv (own_pos p1), .unset, .unset, .unset, .unset, .unset, .unset] [(.int 1), (.int p4)])) _
      refine XS.iand X4.here hx rfl (hb hby at_15) rfl ?_
      show Steps p.tables e below (T4.setTop (mkF m 16 #[iv p0, iv p1, iv p2, iv p3, iv p4, iv (own_pos p0), iv (own_pos p1), .unset, .unset, .unset, .unset, .unset, .unset] [(.int (p4 &&& (1 : Int32)))])) _
      refine XS.ifNo X4.here hx rfl (hb hby at_16) rfl ((if0 _ _).trans (feq b1).1) ?_
      show Steps p.tables e below (T4.setTop (mkF m 19 #[iv p0, iv p1, iv p2, iv p3, iv p4, iv (own_pos p0), iv (own_pos p1), .unset, .unset, .unset, .unset, .unset, .unset] [])) _
      refine XS.iload X4.here hx rfl (hb hby at_19) rfl ?_
      show Steps p.tables e below (T4.setTop (mkF m 21 #[iv p0, iv p1, iv p2, iv p3, iv p4, iv (own_pos p0), iv (own_pos p1), .unset, .unset, .unset, .unset, .unset, .unset] [(.int (own_pos p0))])) _
      refine XS.goto X4.here hx rfl (pc0 := 21) (pc' := 28) rfl (hb hby at_21) (by decide) (by decide) ?_
      show Steps p.tables e below (T4.setTop (mkF m 28 #[iv p0, iv p1, iv p2, iv p3, iv p4, iv (own_pos p0), iv (own_pos p1), .unset, .unset, .unset, .unset, .unset, .unset] [(.int (own_pos p0))])) _
      exact k
    refine own_lift sg39 ?_
    show own_Go p.tables e below (T4.setTop (mkF m 28 #[iv p0, iv p1, iv p2, iv p3, iv p4, iv (own_pos p0), iv (own_pos p1), .unset, .unset, .unset, .unset, .unset, .unset] [(.int (own_pos p0))])) _
    rw [show (own_sel p4 1 p2 p0) = (own_pos p0) from if_neg b1] at join6
    exact join6 _ _ X4 e4 N4
set_option maxRecDepth 65536 in
theorem rm0 (l : Launch) (Z : State) (a0 : Array Value) (hw : ∀ d ∈ tables_1, d.before a0 Z = true) (ws : List Jvm.Cond) (p0 : Int32) (p1 : Int32) (p2 : Int32) (p3 : Int32) (p4 : Int32) (ca : Addr) (cc : Cell) (h0 : Heap) (n0 : Nat) (Z0 : n0 ≤ h0.size) (S1 : Sta Z h0 "java/lang/Integer$IntegerCache" "high" "I" (.int 127)) (S2 : Sta Z h0 "java/lang/Integer$IntegerCache" "cache" "[Ljava/lang/Integer;" (.ref ca)) (A1 : Arr Z h0 ca cc (.object "java/lang/Integer")) (hcache : ¬ ((127 : Int32) < (own_pos p0)) → ∃ bx : Addr, ¬ (((own_pos p0) + (128 : Int32)) < 0 ∨ cc.slots.size ≤ (((own_pos p0) + (128 : Int32))).toNatClampNeg) ∧ cc.slots[(((own_pos p0) + (128 : Int32))).toNatClampNeg]? = some (.ref bx) ∧ Exa Z h0 bx "java/lang/Integer") :
    MetFree l x (head1 (Jvm.Cond.code x code maxLocals ret :: ws) room_1) (fun a U => a = #[(.int p0), (.int p1), (.int p2), (.int p3), (.int p4)] ∧ Z.Warmed39 U.vm ∧ U.heap = h0) (fun _ _ _ _ _ => True) (fun _ U o U' => ∃ v L, o = .returned v ∧ Q0 Z h0 n0 v U'.heap L ∧ FrameEnd U o U' L 16 128) := by
  by_cases k0 : (((p4.toUInt32 >>> ((2 : Int32) &&& 31).toUInt32).toInt32) &&& (3 : Int32)) = (0 : Int32)
  · by_cases hl : (own_pos p0) = (own_sel p4 1 p2 p0)
    · by_cases hc : (own_pos p1) = (own_sel p4 2 p3 p1)
      · exact rm0_0LC l Z a0 hw ws p0 p1 p2 p3 p4 ca cc  h0 n0 Z0 S1 S2 A1 k0 hl hc
      · exact rm0_0LD l Z a0 hw ws p0 p1 p2 p3 p4 ca cc  h0 n0 Z0 S1 S2 A1 k0 hl hc
    · exact rm0_0M l Z a0 hw ws p0 p1 p2 p3 p4 ca cc  h0 n0 Z0 S1 S2 A1 k0 hl
  · by_cases k1 : (((p4.toUInt32 >>> ((2 : Int32) &&& 31).toUInt32).toInt32) &&& (3 : Int32)) = (1 : Int32)
    · exact rm0_1 l Z a0 hw ws p0 p1 p2 p3 p4 ca cc  h0 n0 Z0 S1 S2 A1 k0 k1
    · by_cases k2 : (((p4.toUInt32 >>> ((2 : Int32) &&& 31).toUInt32).toInt32) &&& (3 : Int32)) = (2 : Int32)
      · exact rm0_2 l Z a0 hw ws p0 p1 p2 p3 p4 ca cc  h0 n0 Z0 S1 S2 A1 k0 k1 k2
      · by_cases hbg : (127 : Int32) < (own_pos p0)
        · exact rm0_3N l Z a0 hw ws p0 p1 p2 p3 p4 ca cc  h0 n0 Z0 S1 S2 A1 k0 k1 k2 hbg
        · obtain ⟨bx, hin, hat, Ebx⟩ := hcache hbg
          exact rm0_3C l Z a0 hw ws p0 p1 p2 p3 p4 ca cc bx h0 n0 Z0 S1 S2 A1 Ebx k0 k1 k2 hbg hin hat
set_option maxRecDepth 65536 in
set_option maxHeartbeats 40000000 in
theorem comes_1 {Post : Tables → Env → Array Value → State → Outcome → State → Prop} (hpost : ∀ tb e args s v u, (limb_1_1.after args s (.returned v) u = true ∧ limb_1_2.after args s (.returned v) u = true ∧ True) → FrameEnd s (.returned v) u (Jvm.fieldLocs frame_1_writes args s ++ Jvm.arrayLocs frame_1_arrays args s ++ Jvm.staticLocs frame_1_statics s) 16 128 → Post tb e args s (.returned v) u) :
    ArmFor flags0 classFile x code maxLocals ret World_1 tables_1 room_1 Calls_1 rest_1 Pre_1 Post := by
  intro l hfl _ _ p e ha hc hk s m args below hf hA hF happ hP
  obtain ⟨hcalls, hrest, hpre⟩ := hP
  obtain ⟨-, -, -, hnamed, -, -, -, hat⟩ := (Spec.applies_iff hf).mp happ
  obtain ⟨hg, hn⟩ := and_e (Cond.before_iff.mp (show (Jvm.Cond.and given_1 narrow_1).before args s = true from hpre))
  obtain ⟨gv0, gr0⟩ := and_e hg
  obtain ⟨gv1, gr1⟩ := and_e gr0
  obtain ⟨gv2, gr2⟩ := and_e gr1
  obtain ⟨gv3, gr3⟩ := and_e gr2
  obtain ⟨gv4, gr4⟩ := and_e gr3
  obtain ⟨w0, w1, w2, w3, w4, rfl⟩ : ∃ w0 w1 w2 w3 w4 : Value, args = #[w0, w1, w2, w3, w4] := by
    have hs : args.size = 5 := by simpa [Cond.value, given_1] using gv0
    obtain ⟨L⟩ := args
    match L, hs with
    | [w0, w1, w2, w3, w4], _ => exact ⟨w0, w1, w2, w3, w4, rfl⟩
  have hw := fun d (hd : d ∈ tables_1) => atoms_spec (ws := Jvm.Cond.code x code maxLocals ret :: tables_1) hat d (List.mem_cons_of_mem _ hd)
  have hfit : Fit s := fun {y c} hc i hi => by
    obtain ⟨ha, rfl⟩ := Array.getElem?_eq_some_iff.mp hc
    have q := List.all_eq_true.mp ((Array.all_eq_true_iff_forall_mem.mp hF) _ (Array.getElem_mem ha)) i (List.mem_range.mpr hi)
    simpa [Array.getElem?_eq_getElem hi] using q
  obtain ⟨hsets, hown0⟩ := atoms_of _ (rest_1_c_eq ▸ (show rest_1_c.before _ s = true from hrest))
  have hr0 := Cond.before_iff.mp hown0
  obtain ⟨i0, ei0⟩ := is_v gv1
  obtain rfl : w0 = (.int i0) := Option.some.inj ei0
  obtain ⟨i1, ei1⟩ := is_v gv2
  obtain rfl : w1 = (.int i1) := Option.some.inj ei1
  obtain ⟨i2, ei2⟩ := is_v gv3
  obtain rfl : w2 = (.int i2) := Option.some.inj ei2
  obtain ⟨i3, ei3⟩ := is_v gv4
  obtain rfl : w3 = (.int i3) := Option.some.inj ei3
  obtain ⟨i4, ei4⟩ := is_v gr4
  obtain rfl : w4 = (.int i4) := Option.some.inj ei4
  have ev_h := own_eqint (Cond.before_iff.mp (hsets _ (List.mem_of_getElem? (i := 3) rfl)))
  have S_h := Sta.start ev_h (Or.inl (hsets _ (List.mem_of_getElem? (i := 1) rfl)))
  obtain ⟨ca, ev_c⟩ := arr_v (Cond.before_iff.mp (hsets _ (List.mem_of_getElem? (i := 4) rfl)))
  have S_c := Sta.start ev_c (Or.inr ⟨(wd hw 30 rfl), (hsets _ (List.mem_of_getElem? (i := 2) rfl))⟩)
  obtain ⟨cc, A_c⟩ := Arr.start ev_c (Cond.before_iff.mp (hsets _ (List.mem_of_getElem? (i := 4) rfl)))
  have hlen := IntBox.length_fwd (hsets _ (List.mem_of_getElem? (i := 6) rfl)) ev_c A_c.1 A_c.2.1 A_c.2.2
  have hsz : cc.slots.size = 256 := own_size hlen.1 hlen.2
  have hcache : ¬ ((127 : Int32) < (own_pos i0)) → ∃ bx : Addr, ¬ (((own_pos i0) + (128 : Int32)) < 0 ∨ cc.slots.size ≤ (((own_pos i0) + (128 : Int32))).toNatClampNeg) ∧ cc.slots[(((own_pos i0) + (128 : Int32))).toNatClampNeg]? = some (.ref bx) ∧ Exa s s.heap bx "java/lang/Integer" := fun hb => own_cache A_c (fun _ => ev_c) hsz (Cond.before_iff.mp (hsets _ (List.mem_of_getElem? (i := 7) rfl))) (own_j hb).1 (own_j hb).2
  obtain ⟨n, o, h1, h2, h3, _, L, rfl, ⟨rfl, N⟩, hq⟩ := rm0 l s _ hw tables_1 i0 i1 i2 i3 i4 ca cc s.heap s.heap.size (Nat.le_refl _) S_h S_c A_c hcache p e ha hc hk s m _ below hf ((Spec.applies_iff_loose hf).mp happ).1 ⟨rfl, State.Warmed39.refl s, rfl⟩ trivial
  refine ⟨n, _, h1, h2, h3, hpost _ _ _ _ _ _ ⟨Cond.after_iff.mpr rfl, Cond.after_iff.mpr (eq_i res_at (Term.int_eval (1)) rfl), trivial⟩ ⟨hq.1, hq.2.1, (hq.2.2.sift fun y hy => Or.inr (N y hy)).mono (by decide) (by decide)⟩⟩
theorem main_1_1 : Claimed_1_1 := comes_1 fun _ _ _ _ _ _ h hF => ⟨h.1, hF⟩
theorem main_1_2 : Claimed_1_2 := comes_1 fun _ _ _ _ _ _ h hF => ⟨h.2.1, hF⟩
end Jvm.Pilot.@@N@@
namespace Jvm.Pilot.@@N@@
open Jvm Jvm.ClassFile Sem Op Lib Jvm.Free Jvm.Stand Jvm.Pilot.@@N@@.Jvm.D
/-! MADE BY PROGRAM (witnessworld.py) out of the Statement's table words and the real class files: 16 classes; the members and pool entries that the words name. The judged class is class 1, her method 2. -/
namespace start1
open Jvm.ClassFile
def u (s : String) : CpInfo := .utf8 (stringToUtf16 s)
/-- a pool by its gaps: so many unusable entries, then the entry; so many at the end -/
def gap : Nat → List CpInfo → List CpInfo
  | 0, r => r
  | n + 1, r => .unusable :: gap n r
def poolList (es : List (Nat × CpInfo)) (last : Nat) : List CpInfo := es.foldr (fun e r => gap e.1 (e.2 :: r)) (gap last [])
def pool (es : List (Nat × CpInfo)) (last : Nat) : Array CpInfo := ⟨poolList es last⟩
def fileOf (pool : Array CpInfo) (this : Nat) (attrs : Array Attribute := #[]) (ms : Array MethodInfo := #[]) (fl : Nat := 33) (sup : Nat := 0) (ifs : Array Nat := #[]) (fds : Array FieldInfo := #[]) : ClassFile where
  minorVersion := 0
  majorVersion := 65
  constantPool := pool
  accessFlags := fl
  thisClass := this
  superClass := sup
  interfaces := ifs
  fields := fds
  methods := ms
  attributes := attrs
def plain (name : String) (sup : Option ClassId) : Class where
  name := name
  kind := .ordinary
  loader := none
  accessFlags := 33
  super := sup
  interfaces := #[]
  cf := none
  fields := #[]
  methods := #[]
  instanceTypes := #[]
  staticTypes := #[]
  resolved := #[]
  callSites := []
  init := .initialized
  statics := none
  mirror := none

def pool0 : Array CpInfo := pool [(5, u "<init>"), (0, u "()V"), (1, .class_ 10), (1, u "java/lang/Object")] 113

def k0c0 : Code := { maxStack := 0, maxLocals := 1, code := object_method_1_code, exceptionTable := #[], attributes := #[] }
def k0m0 : Method := { name := "<init>", desc := "()V", sig := { parameters := [], returnType := none }, accessFlags := 1, code := some k0c0 }
/-- java/lang/Object -/
def k0 : Class := { plain "java/lang/Object" none with
  accessFlags := 33
  interfaces := #[]
  cf := some (fileOf pool0 8 #[] #[{ accessFlags := 1, nameIndex := 5, descriptorIndex := 6, attributes := #[] }] 33 0 #[] #[])
  fields := #[]
  methods := #[k0m0]
  instanceTypes := #[]
  staticTypes := #[]
  resolved := Array.replicate 124 none
  statics := none }

def pool1 : Array CpInfo := pool [(2, .class_ 4), (1, u "java/lang/Object"), (0, u "<init>"), (0, u "()V"), (0, .integer 2147483647), (0, .methodref 9 10), (0, .class_ 11), (0, .nameAndType 12 13), (0, u "com/example/allsome/allsome/cypher/InputPositionEqualsPinLaw"), (0, u "pos"), (0, u "(I)I"), (0, .class_ 15), (0, u "com/example/allsome/allsome/cypher/InputPosition"), (0, .methodref 14 17), (0, .nameAndType 5 18), (0, u "(II)V"), (0, .methodref 14 20), (0, .nameAndType 21 22), (0, u "equals"), (0, u "(Ljava/lang/Object;)Z"), (0, .methodref 24 25), (0, .class_ 26), (0, .nameAndType 27 28), (0, u "java/lang/Integer"), (0, u "valueOf"), (0, u "(I)Ljava/lang/Integer;"), (3, u "law"), (0, u "(IIIII)Z")] 2

def k1m0 : Method := { name := "<init>", desc := "()V", sig := { parameters := [], returnType := none }, accessFlags := 1, code := none }
def k1c1 : Code := { maxStack := 2, maxLocals := 2, code := method_2_code, exceptionTable := #[], attributes := #[] }
def k1m1 : Method := { name := "pos", desc := "(I)I", sig := { parameters := [.int], returnType := some .int }, accessFlags := 10, code := some k1c1 }
def k1c2 : Code := { maxStack := 4, maxLocals := 13, code := code, exceptionTable := #[], attributes := #[] }
def k1m2 : Method := { name := "law", desc := "(IIIII)Z", sig := { parameters := [.int, .int, .int, .int, .int], returnType := some .boolean }, accessFlags := 9, code := some k1c2 }
/-- com/example/allsome/allsome/cypher/InputPositionEqualsPinLaw -/
def k1 : Class := { plain "com/example/allsome/allsome/cypher/InputPositionEqualsPinLaw" (some 0) with
  accessFlags := 49
  interfaces := #[]
  cf := some (fileOf pool1 9 #[] #[{ accessFlags := 1, nameIndex := 5, descriptorIndex := 6, attributes := #[] }, { accessFlags := 10, nameIndex := 12, descriptorIndex := 13, attributes := #[] }, { accessFlags := 9, nameIndex := 32, descriptorIndex := 33, attributes := #[] }] 49 2 #[] #[])
  fields := #[]
  methods := #[k1m0, k1m1, k1m2]
  instanceTypes := #[]
  staticTypes := #[]
  resolved := Array.replicate 36 none
  statics := none }

def pool2 : Array CpInfo := pool [(1, .methodref 2 3), (0, .class_ 4), (0, .nameAndType 5 6), (0, u "java/lang/Object"), (0, u "<init>"), (0, u "()V"), (9, .fieldref 17 18), (0, .class_ 19), (0, .nameAndType 20 21), (0, u "com/example/allsome/allsome/cypher/InputPosition"), (0, u "line"), (0, u "I"), (0, .fieldref 17 23), (0, .nameAndType 24 21), (0, u "column"), (2, u "(II)V"), (6, u "equals"), (0, u "(Ljava/lang/Object;)Z")] 20

def k2c0 : Code := { maxStack := 4, maxLocals := 3, code := prog_84_method_1_code, exceptionTable := #[], attributes := #[] }
def k2m0 : Method := { name := "<init>", desc := "(II)V", sig := { parameters := [.int, .int], returnType := none }, accessFlags := 1, code := some k2c0 }
def k2c1 : Code := { maxStack := 2, maxLocals := 2, code := prog_84_method_5_code, exceptionTable := #[], attributes := #[] }
def k2m1 : Method := { name := "equals", desc := "(Ljava/lang/Object;)Z", sig := { parameters := [(.object "java/lang/Object")], returnType := some .boolean }, accessFlags := 1, code := some k2c1 }
/-- com/example/allsome/allsome/cypher/InputPosition -/
def k2 : Class := { plain "com/example/allsome/allsome/cypher/InputPosition" (some 0) with
  accessFlags := 49
  interfaces := #[]
  cf := some (fileOf pool2 17 #[] #[{ accessFlags := 1, nameIndex := 5, descriptorIndex := 27, attributes := #[] }, { accessFlags := 1, nameIndex := 34, descriptorIndex := 35, attributes := #[] }] 49 2 #[] #[{ accessFlags := 18, nameIndex := 20, descriptorIndex := 21, attributes := #[] }, { accessFlags := 18, nameIndex := 24, descriptorIndex := 21, attributes := #[] }])
  fields := #[{ name := "line", type := .int, accessFlags := 18, slot := 0, constantValue := 0 }, { name := "column", type := .int, accessFlags := 18, slot := 1, constantValue := 0 }]
  methods := #[k2m0, k2m1]
  instanceTypes := #[.int, .int]
  staticTypes := #[]
  resolved := Array.replicate 56 none
  statics := none }

def pool3 : Array CpInfo := pool [(1, .class_ 2), (0, u "java/io/Serializable"), (0, .class_ 4), (0, u "java/lang/Object")] 2

/-- java/io/Serializable -/
def k3 : Class := { plain "java/io/Serializable" (some 0) with
  accessFlags := 1537
  interfaces := #[]
  cf := some (fileOf pool3 1 #[] #[] 1537 3 #[] #[])
  fields := #[]
  methods := #[]
  instanceTypes := #[]
  staticTypes := #[]
  resolved := Array.replicate 7 none
  statics := none }

def pool4 : Array CpInfo := pool [(1, .methodref 2 3), (0, .class_ 4), (0, .nameAndType 5 6), (0, u "java/lang/Object"), (0, u "<init>"), (0, u "()V"), (1, .class_ 10), (1, u "java/lang/Number"), (2, .class_ 14), (0, u "java/io/Serializable"), (0, u "serialVersionUID"), (0, u "J")] 20

def k4c0 : Code := { maxStack := 1, maxLocals := 1, code := jdk_18_method_1_code, exceptionTable := #[], attributes := #[] }
def k4m0 : Method := { name := "<init>", desc := "()V", sig := { parameters := [], returnType := none }, accessFlags := 1, code := some k4c0 }
/-- java/lang/Number -/
def k4 : Class := { plain "java/lang/Number" (some 0) with
  accessFlags := 1057
  interfaces := #[3]
  cf := some (fileOf pool4 8 #[] #[{ accessFlags := 1, nameIndex := 5, descriptorIndex := 6, attributes := #[] }] 1057 2 #[13] #[{ accessFlags := 26, nameIndex := 15, descriptorIndex := 16, attributes := #[] }])
  fields := #[{ name := "serialVersionUID", type := .long, accessFlags := 26, slot := 0, constantValue := 0 }]
  methods := #[k4m0]
  instanceTypes := #[]
  staticTypes := #[.long]
  resolved := Array.replicate 37 none
  statics := none }

def pool5 : Array CpInfo := pool [(1, .class_ 2), (0, u "java/lang/Comparable"), (0, .class_ 4), (0, u "java/lang/Object")] 7

/-- java/lang/Comparable -/
def k5 : Class := { plain "java/lang/Comparable" (some 0) with
  accessFlags := 1537
  interfaces := #[]
  cf := some (fileOf pool5 1 #[] #[] 1537 3 #[] #[])
  fields := #[]
  methods := #[]
  instanceTypes := #[]
  staticTypes := #[]
  resolved := Array.replicate 12 none
  statics := none }

def pool6 : Array CpInfo := pool [(1, .class_ 2), (0, u "java/lang/constant/Constable"), (0, .class_ 4), (0, u "java/lang/Object")] 6

/-- java/lang/constant/Constable -/
def k6 : Class := { plain "java/lang/constant/Constable" (some 0) with
  accessFlags := 1537
  interfaces := #[]
  cf := some (fileOf pool6 1 #[] #[] 1537 3 #[] #[])
  fields := #[]
  methods := #[]
  instanceTypes := #[]
  staticTypes := #[]
  resolved := Array.replicate 11 none
  statics := none }

def pool7 : Array CpInfo := pool [(1, .class_ 2), (0, u "java/lang/constant/ConstantDesc"), (0, .class_ 4), (0, u "java/lang/Object")] 32

/-- java/lang/constant/ConstantDesc -/
def k7 : Class := { plain "java/lang/constant/ConstantDesc" (some 0) with
  accessFlags := 1537
  interfaces := #[]
  cf := some (fileOf pool7 1 #[] #[] 1537 3 #[] #[])
  fields := #[]
  methods := #[]
  instanceTypes := #[]
  staticTypes := #[]
  resolved := Array.replicate 37 none
  statics := none }

def pool8 : Array CpInfo := pool [(1, .class_ 2), (0, u "java/lang/Integer"), (16, u "digits"), (0, u "[C"), (46, u "<init>"), (17, u "DigitOnes"), (0, u "[B"), (2, u "DigitTens"), (10, .nameAndType 67 101), (0, u "()V"), (85, u "valueOf"), (0, u "(I)Ljava/lang/Integer;"), (0, .class_ 190), (0, u "java/lang/Integer$IntegerCache"), (0, .fieldref 189 192), (0, .nameAndType 193 194), (0, u "high"), (0, u "I"), (0, .fieldref 189 196), (0, .nameAndType 197 198), (0, u "cache"), (0, u "[Ljava/lang/Integer;"), (0, .methodref 1 200), (0, .nameAndType 67 201), (0, u "(I)V"), (0, .methodref 203 100), (0, .class_ 204), (0, u "java/lang/Number"), (0, .fieldref 1 206), (0, .nameAndType 207 194), (0, u "value"), (94, u "TYPE"), (0, u "Ljava/lang/Class;"), (0, .class_ 305), (0, u "java/lang/Comparable"), (0, .class_ 307), (0, u "java/lang/constant/Constable"), (0, .class_ 309), (0, u "java/lang/constant/ConstantDesc"), (0, u "MIN_VALUE"), (1, u "MAX_VALUE"), (3, u "SIZE"), (1, u "BYTES"), (1, u "serialVersionUID"), (0, u "J")] 131

def k8c0 : Code := { maxStack := 3, maxLocals := 1, code := jdk_33_method_22_code, exceptionTable := #[], attributes := #[] }
def k8m0 : Method := { name := "valueOf", desc := "(I)Ljava/lang/Integer;", sig := { parameters := [.int], returnType := some (.object "java/lang/Integer") }, accessFlags := 9, code := some k8c0 }
def k8c1 : Code := { maxStack := 2, maxLocals := 2, code := jdk_33_method_23_code, exceptionTable := #[], attributes := #[] }
def k8m1 : Method := { name := "<init>", desc := "(I)V", sig := { parameters := [.int], returnType := none }, accessFlags := 1, code := some k8c1 }
/-- java/lang/Integer -/
def k8 : Class := { plain "java/lang/Integer" (some 4) with
  accessFlags := 49
  interfaces := #[5, 6, 7]
  cf := some (fileOf pool8 1 #[.nestMembers #[189]] #[{ accessFlags := 9, nameIndex := 187, descriptorIndex := 188, attributes := #[] }, { accessFlags := 1, nameIndex := 67, descriptorIndex := 201, attributes := #[] }] 49 203 #[304, 306, 308] #[{ accessFlags := 25, nameIndex := 310, descriptorIndex := 194, attributes := #[] }, { accessFlags := 25, nameIndex := 312, descriptorIndex := 194, attributes := #[] }, { accessFlags := 25, nameIndex := 302, descriptorIndex := 303, attributes := #[] }, { accessFlags := 24, nameIndex := 19, descriptorIndex := 20, attributes := #[] }, { accessFlags := 24, nameIndex := 89, descriptorIndex := 86, attributes := #[] }, { accessFlags := 24, nameIndex := 85, descriptorIndex := 86, attributes := #[] }, { accessFlags := 18, nameIndex := 207, descriptorIndex := 194, attributes := #[] }, { accessFlags := 25, nameIndex := 316, descriptorIndex := 194, attributes := #[] }, { accessFlags := 25, nameIndex := 318, descriptorIndex := 194, attributes := #[] }, { accessFlags := 26, nameIndex := 320, descriptorIndex := 321, attributes := #[] }])
  fields := #[{ name := "MIN_VALUE", type := .int, accessFlags := 25, slot := 0, constantValue := 0 }, { name := "MAX_VALUE", type := .int, accessFlags := 25, slot := 1, constantValue := 0 }, { name := "TYPE", type := (.object "java/lang/Class"), accessFlags := 25, slot := 2, constantValue := 0 }, { name := "digits", type := (.array .char), accessFlags := 24, slot := 3, constantValue := 0 }, { name := "DigitTens", type := (.array .byte), accessFlags := 24, slot := 4, constantValue := 0 }, { name := "DigitOnes", type := (.array .byte), accessFlags := 24, slot := 5, constantValue := 0 }, { name := "value", type := .int, accessFlags := 18, slot := 0, constantValue := 0 }, { name := "SIZE", type := .int, accessFlags := 25, slot := 6, constantValue := 0 }, { name := "BYTES", type := .int, accessFlags := 25, slot := 7, constantValue := 0 }, { name := "serialVersionUID", type := .long, accessFlags := 26, slot := 8, constantValue := 0 }]
  methods := #[k8m0, k8m1]
  instanceTypes := #[.int]
  staticTypes := #[.int, .int, (.object "java/lang/Class"), (.array .char), (.array .byte), (.array .byte), .int, .int, .long]
  resolved := Array.replicate 453 none
  statics := none }

def pool9 : Array CpInfo := pool [(2, .class_ 4), (1, u "java/lang/Object"), (0, u "<init>"), (0, u "()V"), (0, .class_ 8), (0, u "java/lang/Integer"), (7, .class_ 18), (1, u "java/lang/Integer$IntegerCache"), (0, u "$assertionsDisabled"), (0, u "Z"), (26, u "high"), (0, u "I"), (8, u "archivedCache"), (0, u "[Ljava/lang/Integer;"), (12, u "cache"), (0, u "low")] 27

def k9m0 : Method := { name := "<init>", desc := "()V", sig := { parameters := [], returnType := none }, accessFlags := 2, code := none }
/-- java/lang/Integer$IntegerCache -/
def k9 : Class := { plain "java/lang/Integer$IntegerCache" (some 0) with
  accessFlags := 48
  interfaces := #[]
  cf := some (fileOf pool9 16 #[.nestHost 7] #[{ accessFlags := 2, nameIndex := 5, descriptorIndex := 6, attributes := #[] }] 48 2 #[] #[{ accessFlags := 24, nameIndex := 72, descriptorIndex := 48, attributes := #[] }, { accessFlags := 24, nameIndex := 47, descriptorIndex := 48, attributes := #[] }, { accessFlags := 24, nameIndex := 71, descriptorIndex := 58, attributes := #[] }, { accessFlags := 8, nameIndex := 57, descriptorIndex := 58, attributes := #[] }, { accessFlags := 4120, nameIndex := 19, descriptorIndex := 20, attributes := #[] }])
  fields := #[{ name := "low", type := .int, accessFlags := 24, slot := 0, constantValue := 0 }, { name := "high", type := .int, accessFlags := 24, slot := 1, constantValue := 0 }, { name := "cache", type := (.array (.object "java/lang/Integer")), accessFlags := 24, slot := 2, constantValue := 0 }, { name := "archivedCache", type := (.array (.object "java/lang/Integer")), accessFlags := 8, slot := 3, constantValue := 0 }, { name := "$assertionsDisabled", type := .boolean, accessFlags := 4120, slot := 4, constantValue := 0 }]
  methods := #[k9m0]
  instanceTypes := #[]
  staticTypes := #[.int, .int, (.array (.object "java/lang/Integer")), (.array (.object "java/lang/Integer")), .boolean]
  resolved := Array.replicate 100 none
  statics := some 0 }

def pool10 : Array CpInfo := pool [(1, u "java/lang/Cloneable"), (0, .class_ 1), (0, u "java/lang/Object"), (0, .class_ 3)] 3

/-- java/lang/Cloneable -/
def k10 : Class := { plain "java/lang/Cloneable" (some 0) with
  accessFlags := 1537
  interfaces := #[]
  cf := some (fileOf pool10 2 #[] #[] 1537 4 #[] #[])
  fields := #[]
  methods := #[]
  instanceTypes := #[]
  staticTypes := #[]
  resolved := Array.replicate 8 none
  statics := none }

/-- the primitive byte -/
def k11 : Class := { plain "byte" none with kind := .primitive 'B', accessFlags := 0x411 }
/-- [B -/
def k12 : Class := { plain "[B" (some 0) with kind := .array 11 .byte, interfaces := #[10, 3], accessFlags := 1041 }

/-- the primitive int -/
def k13 : Class := { plain "int" none with kind := .primitive 'I', accessFlags := 0x411 }
/-- [I -/
def k14 : Class := { plain "[I" (some 0) with kind := .array 13 .int, interfaces := #[10, 3], accessFlags := 1041 }

/-- [Ljava/lang/Integer; -/
def k15 : Class := { plain "[Ljava/lang/Integer;" (some 0) with kind := .array 8 (.object "java/lang/Integer"), interfaces := #[10, 3], accessFlags := 1041 }

def heap : Heap := #[{ cls := 9, slots := #[.int 0, .int 127, .ref 1, .null, .int 0], vm := .statics 9 },
  { cls := 15, slots := #[.ref 2, .ref 3, .ref 4, .ref 5, .ref 6, .ref 7, .ref 8, .ref 9, .ref 10, .ref 11, .ref 12, .ref 13, .ref 14, .ref 15, .ref 16, .ref 17, .ref 18, .ref 19, .ref 20, .ref 21, .ref 22, .ref 23, .ref 24, .ref 25, .ref 26, .ref 27, .ref 28, .ref 29, .ref 30, .ref 31, .ref 32, .ref 33, .ref 34, .ref 35, .ref 36, .ref 37, .ref 38, .ref 39, .ref 40, .ref 41, .ref 42, .ref 43, .ref 44, .ref 45, .ref 46, .ref 47, .ref 48, .ref 49, .ref 50, .ref 51, .ref 52, .ref 53, .ref 54, .ref 55, .ref 56, .ref 57, .ref 58, .ref 59, .ref 60, .ref 61, .ref 62, .ref 63, .ref 64, .ref 65, .ref 66, .ref 67, .ref 68, .ref 69, .ref 70, .ref 71, .ref 72, .ref 73, .ref 74, .ref 75, .ref 76, .ref 77, .ref 78, .ref 79, .ref 80, .ref 81, .ref 82, .ref 83, .ref 84, .ref 85, .ref 86, .ref 87, .ref 88, .ref 89, .ref 90, .ref 91, .ref 92, .ref 93, .ref 94, .ref 95, .ref 96, .ref 97, .ref 98, .ref 99, .ref 100, .ref 101, .ref 102, .ref 103, .ref 104, .ref 105, .ref 106, .ref 107, .ref 108, .ref 109, .ref 110, .ref 111, .ref 112, .ref 113, .ref 114, .ref 115, .ref 116, .ref 117, .ref 118, .ref 119, .ref 120, .ref 121, .ref 122, .ref 123, .ref 124, .ref 125, .ref 126, .ref 127, .ref 128, .ref 129, .ref 130, .ref 131, .ref 132, .ref 133, .ref 134, .ref 135, .ref 136, .ref 137, .ref 138, .ref 139, .ref 140, .ref 141, .ref 142, .ref 143, .ref 144, .ref 145, .ref 146, .ref 147, .ref 148, .ref 149, .ref 150, .ref 151, .ref 152, .ref 153, .ref 154, .ref 155, .ref 156, .ref 157, .ref 158, .ref 159, .ref 160, .ref 161, .ref 162, .ref 163, .ref 164, .ref 165, .ref 166, .ref 167, .ref 168, .ref 169, .ref 170, .ref 171, .ref 172, .ref 173, .ref 174, .ref 175, .ref 176, .ref 177, .ref 178, .ref 179, .ref 180, .ref 181, .ref 182, .ref 183, .ref 184, .ref 185, .ref 186, .ref 187, .ref 188, .ref 189, .ref 190, .ref 191, .ref 192, .ref 193, .ref 194, .ref 195, .ref 196, .ref 197, .ref 198, .ref 199, .ref 200, .ref 201, .ref 202, .ref 203, .ref 204, .ref 205, .ref 206, .ref 207, .ref 208, .ref 209, .ref 210, .ref 211, .ref 212, .ref 213, .ref 214, .ref 215, .ref 216, .ref 217, .ref 218, .ref 219, .ref 220, .ref 221, .ref 222, .ref 223, .ref 224, .ref 225, .ref 226, .ref 227, .ref 228, .ref 229, .ref 230, .ref 231, .ref 232, .ref 233, .ref 234, .ref 235, .ref 236, .ref 237, .ref 238, .ref 239, .ref 240, .ref 241, .ref 242, .ref 243, .ref 244, .ref 245, .ref 246, .ref 247, .ref 248, .ref 249, .ref 250, .ref 251, .ref 252, .ref 253, .ref 254, .ref 255, .ref 256, .ref 257], vm := .none },
  { cls := 8, slots := #[.int (-128)], vm := .none },
  { cls := 8, slots := #[.int (-127)], vm := .none },
  { cls := 8, slots := #[.int (-126)], vm := .none },
  { cls := 8, slots := #[.int (-125)], vm := .none },
  { cls := 8, slots := #[.int (-124)], vm := .none },
  { cls := 8, slots := #[.int (-123)], vm := .none },
  { cls := 8, slots := #[.int (-122)], vm := .none },
  { cls := 8, slots := #[.int (-121)], vm := .none },
  { cls := 8, slots := #[.int (-120)], vm := .none },
  { cls := 8, slots := #[.int (-119)], vm := .none },
  { cls := 8, slots := #[.int (-118)], vm := .none },
  { cls := 8, slots := #[.int (-117)], vm := .none },
  { cls := 8, slots := #[.int (-116)], vm := .none },
  { cls := 8, slots := #[.int (-115)], vm := .none },
  { cls := 8, slots := #[.int (-114)], vm := .none },
  { cls := 8, slots := #[.int (-113)], vm := .none },
  { cls := 8, slots := #[.int (-112)], vm := .none },
  { cls := 8, slots := #[.int (-111)], vm := .none },
  { cls := 8, slots := #[.int (-110)], vm := .none },
  { cls := 8, slots := #[.int (-109)], vm := .none },
  { cls := 8, slots := #[.int (-108)], vm := .none },
  { cls := 8, slots := #[.int (-107)], vm := .none },
  { cls := 8, slots := #[.int (-106)], vm := .none },
  { cls := 8, slots := #[.int (-105)], vm := .none },
  { cls := 8, slots := #[.int (-104)], vm := .none },
  { cls := 8, slots := #[.int (-103)], vm := .none },
  { cls := 8, slots := #[.int (-102)], vm := .none },
  { cls := 8, slots := #[.int (-101)], vm := .none },
  { cls := 8, slots := #[.int (-100)], vm := .none },
  { cls := 8, slots := #[.int (-99)], vm := .none },
  { cls := 8, slots := #[.int (-98)], vm := .none },
  { cls := 8, slots := #[.int (-97)], vm := .none },
  { cls := 8, slots := #[.int (-96)], vm := .none },
  { cls := 8, slots := #[.int (-95)], vm := .none },
  { cls := 8, slots := #[.int (-94)], vm := .none },
  { cls := 8, slots := #[.int (-93)], vm := .none },
  { cls := 8, slots := #[.int (-92)], vm := .none },
  { cls := 8, slots := #[.int (-91)], vm := .none },
  { cls := 8, slots := #[.int (-90)], vm := .none },
  { cls := 8, slots := #[.int (-89)], vm := .none },
  { cls := 8, slots := #[.int (-88)], vm := .none },
  { cls := 8, slots := #[.int (-87)], vm := .none },
  { cls := 8, slots := #[.int (-86)], vm := .none },
  { cls := 8, slots := #[.int (-85)], vm := .none },
  { cls := 8, slots := #[.int (-84)], vm := .none },
  { cls := 8, slots := #[.int (-83)], vm := .none },
  { cls := 8, slots := #[.int (-82)], vm := .none },
  { cls := 8, slots := #[.int (-81)], vm := .none },
  { cls := 8, slots := #[.int (-80)], vm := .none },
  { cls := 8, slots := #[.int (-79)], vm := .none },
  { cls := 8, slots := #[.int (-78)], vm := .none },
  { cls := 8, slots := #[.int (-77)], vm := .none },
  { cls := 8, slots := #[.int (-76)], vm := .none },
  { cls := 8, slots := #[.int (-75)], vm := .none },
  { cls := 8, slots := #[.int (-74)], vm := .none },
  { cls := 8, slots := #[.int (-73)], vm := .none },
  { cls := 8, slots := #[.int (-72)], vm := .none },
  { cls := 8, slots := #[.int (-71)], vm := .none },
  { cls := 8, slots := #[.int (-70)], vm := .none },
  { cls := 8, slots := #[.int (-69)], vm := .none },
  { cls := 8, slots := #[.int (-68)], vm := .none },
  { cls := 8, slots := #[.int (-67)], vm := .none },
  { cls := 8, slots := #[.int (-66)], vm := .none },
  { cls := 8, slots := #[.int (-65)], vm := .none },
  { cls := 8, slots := #[.int (-64)], vm := .none },
  { cls := 8, slots := #[.int (-63)], vm := .none },
  { cls := 8, slots := #[.int (-62)], vm := .none },
  { cls := 8, slots := #[.int (-61)], vm := .none },
  { cls := 8, slots := #[.int (-60)], vm := .none },
  { cls := 8, slots := #[.int (-59)], vm := .none },
  { cls := 8, slots := #[.int (-58)], vm := .none },
  { cls := 8, slots := #[.int (-57)], vm := .none },
  { cls := 8, slots := #[.int (-56)], vm := .none },
  { cls := 8, slots := #[.int (-55)], vm := .none },
  { cls := 8, slots := #[.int (-54)], vm := .none },
  { cls := 8, slots := #[.int (-53)], vm := .none },
  { cls := 8, slots := #[.int (-52)], vm := .none },
  { cls := 8, slots := #[.int (-51)], vm := .none },
  { cls := 8, slots := #[.int (-50)], vm := .none },
  { cls := 8, slots := #[.int (-49)], vm := .none },
  { cls := 8, slots := #[.int (-48)], vm := .none },
  { cls := 8, slots := #[.int (-47)], vm := .none },
  { cls := 8, slots := #[.int (-46)], vm := .none },
  { cls := 8, slots := #[.int (-45)], vm := .none },
  { cls := 8, slots := #[.int (-44)], vm := .none },
  { cls := 8, slots := #[.int (-43)], vm := .none },
  { cls := 8, slots := #[.int (-42)], vm := .none },
  { cls := 8, slots := #[.int (-41)], vm := .none },
  { cls := 8, slots := #[.int (-40)], vm := .none },
  { cls := 8, slots := #[.int (-39)], vm := .none },
  { cls := 8, slots := #[.int (-38)], vm := .none },
  { cls := 8, slots := #[.int (-37)], vm := .none },
  { cls := 8, slots := #[.int (-36)], vm := .none },
  { cls := 8, slots := #[.int (-35)], vm := .none },
  { cls := 8, slots := #[.int (-34)], vm := .none },
  { cls := 8, slots := #[.int (-33)], vm := .none },
  { cls := 8, slots := #[.int (-32)], vm := .none },
  { cls := 8, slots := #[.int (-31)], vm := .none },
  { cls := 8, slots := #[.int (-30)], vm := .none },
  { cls := 8, slots := #[.int (-29)], vm := .none },
  { cls := 8, slots := #[.int (-28)], vm := .none },
  { cls := 8, slots := #[.int (-27)], vm := .none },
  { cls := 8, slots := #[.int (-26)], vm := .none },
  { cls := 8, slots := #[.int (-25)], vm := .none },
  { cls := 8, slots := #[.int (-24)], vm := .none },
  { cls := 8, slots := #[.int (-23)], vm := .none },
  { cls := 8, slots := #[.int (-22)], vm := .none },
  { cls := 8, slots := #[.int (-21)], vm := .none },
  { cls := 8, slots := #[.int (-20)], vm := .none },
  { cls := 8, slots := #[.int (-19)], vm := .none },
  { cls := 8, slots := #[.int (-18)], vm := .none },
  { cls := 8, slots := #[.int (-17)], vm := .none },
  { cls := 8, slots := #[.int (-16)], vm := .none },
  { cls := 8, slots := #[.int (-15)], vm := .none },
  { cls := 8, slots := #[.int (-14)], vm := .none },
  { cls := 8, slots := #[.int (-13)], vm := .none },
  { cls := 8, slots := #[.int (-12)], vm := .none },
  { cls := 8, slots := #[.int (-11)], vm := .none },
  { cls := 8, slots := #[.int (-10)], vm := .none },
  { cls := 8, slots := #[.int (-9)], vm := .none },
  { cls := 8, slots := #[.int (-8)], vm := .none },
  { cls := 8, slots := #[.int (-7)], vm := .none },
  { cls := 8, slots := #[.int (-6)], vm := .none },
  { cls := 8, slots := #[.int (-5)], vm := .none },
  { cls := 8, slots := #[.int (-4)], vm := .none },
  { cls := 8, slots := #[.int (-3)], vm := .none },
  { cls := 8, slots := #[.int (-2)], vm := .none },
  { cls := 8, slots := #[.int (-1)], vm := .none },
  { cls := 8, slots := #[.int 0], vm := .none },
  { cls := 8, slots := #[.int 1], vm := .none },
  { cls := 8, slots := #[.int 2], vm := .none },
  { cls := 8, slots := #[.int 3], vm := .none },
  { cls := 8, slots := #[.int 4], vm := .none },
  { cls := 8, slots := #[.int 5], vm := .none },
  { cls := 8, slots := #[.int 6], vm := .none },
  { cls := 8, slots := #[.int 7], vm := .none },
  { cls := 8, slots := #[.int 8], vm := .none },
  { cls := 8, slots := #[.int 9], vm := .none },
  { cls := 8, slots := #[.int 10], vm := .none },
  { cls := 8, slots := #[.int 11], vm := .none },
  { cls := 8, slots := #[.int 12], vm := .none },
  { cls := 8, slots := #[.int 13], vm := .none },
  { cls := 8, slots := #[.int 14], vm := .none },
  { cls := 8, slots := #[.int 15], vm := .none },
  { cls := 8, slots := #[.int 16], vm := .none },
  { cls := 8, slots := #[.int 17], vm := .none },
  { cls := 8, slots := #[.int 18], vm := .none },
  { cls := 8, slots := #[.int 19], vm := .none },
  { cls := 8, slots := #[.int 20], vm := .none },
  { cls := 8, slots := #[.int 21], vm := .none },
  { cls := 8, slots := #[.int 22], vm := .none },
  { cls := 8, slots := #[.int 23], vm := .none },
  { cls := 8, slots := #[.int 24], vm := .none },
  { cls := 8, slots := #[.int 25], vm := .none },
  { cls := 8, slots := #[.int 26], vm := .none },
  { cls := 8, slots := #[.int 27], vm := .none },
  { cls := 8, slots := #[.int 28], vm := .none },
  { cls := 8, slots := #[.int 29], vm := .none },
  { cls := 8, slots := #[.int 30], vm := .none },
  { cls := 8, slots := #[.int 31], vm := .none },
  { cls := 8, slots := #[.int 32], vm := .none },
  { cls := 8, slots := #[.int 33], vm := .none },
  { cls := 8, slots := #[.int 34], vm := .none },
  { cls := 8, slots := #[.int 35], vm := .none },
  { cls := 8, slots := #[.int 36], vm := .none },
  { cls := 8, slots := #[.int 37], vm := .none },
  { cls := 8, slots := #[.int 38], vm := .none },
  { cls := 8, slots := #[.int 39], vm := .none },
  { cls := 8, slots := #[.int 40], vm := .none },
  { cls := 8, slots := #[.int 41], vm := .none },
  { cls := 8, slots := #[.int 42], vm := .none },
  { cls := 8, slots := #[.int 43], vm := .none },
  { cls := 8, slots := #[.int 44], vm := .none },
  { cls := 8, slots := #[.int 45], vm := .none },
  { cls := 8, slots := #[.int 46], vm := .none },
  { cls := 8, slots := #[.int 47], vm := .none },
  { cls := 8, slots := #[.int 48], vm := .none },
  { cls := 8, slots := #[.int 49], vm := .none },
  { cls := 8, slots := #[.int 50], vm := .none },
  { cls := 8, slots := #[.int 51], vm := .none },
  { cls := 8, slots := #[.int 52], vm := .none },
  { cls := 8, slots := #[.int 53], vm := .none },
  { cls := 8, slots := #[.int 54], vm := .none },
  { cls := 8, slots := #[.int 55], vm := .none },
  { cls := 8, slots := #[.int 56], vm := .none },
  { cls := 8, slots := #[.int 57], vm := .none },
  { cls := 8, slots := #[.int 58], vm := .none },
  { cls := 8, slots := #[.int 59], vm := .none },
  { cls := 8, slots := #[.int 60], vm := .none },
  { cls := 8, slots := #[.int 61], vm := .none },
  { cls := 8, slots := #[.int 62], vm := .none },
  { cls := 8, slots := #[.int 63], vm := .none },
  { cls := 8, slots := #[.int 64], vm := .none },
  { cls := 8, slots := #[.int 65], vm := .none },
  { cls := 8, slots := #[.int 66], vm := .none },
  { cls := 8, slots := #[.int 67], vm := .none },
  { cls := 8, slots := #[.int 68], vm := .none },
  { cls := 8, slots := #[.int 69], vm := .none },
  { cls := 8, slots := #[.int 70], vm := .none },
  { cls := 8, slots := #[.int 71], vm := .none },
  { cls := 8, slots := #[.int 72], vm := .none },
  { cls := 8, slots := #[.int 73], vm := .none },
  { cls := 8, slots := #[.int 74], vm := .none },
  { cls := 8, slots := #[.int 75], vm := .none },
  { cls := 8, slots := #[.int 76], vm := .none },
  { cls := 8, slots := #[.int 77], vm := .none },
  { cls := 8, slots := #[.int 78], vm := .none },
  { cls := 8, slots := #[.int 79], vm := .none },
  { cls := 8, slots := #[.int 80], vm := .none },
  { cls := 8, slots := #[.int 81], vm := .none },
  { cls := 8, slots := #[.int 82], vm := .none },
  { cls := 8, slots := #[.int 83], vm := .none },
  { cls := 8, slots := #[.int 84], vm := .none },
  { cls := 8, slots := #[.int 85], vm := .none },
  { cls := 8, slots := #[.int 86], vm := .none },
  { cls := 8, slots := #[.int 87], vm := .none },
  { cls := 8, slots := #[.int 88], vm := .none },
  { cls := 8, slots := #[.int 89], vm := .none },
  { cls := 8, slots := #[.int 90], vm := .none },
  { cls := 8, slots := #[.int 91], vm := .none },
  { cls := 8, slots := #[.int 92], vm := .none },
  { cls := 8, slots := #[.int 93], vm := .none },
  { cls := 8, slots := #[.int 94], vm := .none },
  { cls := 8, slots := #[.int 95], vm := .none },
  { cls := 8, slots := #[.int 96], vm := .none },
  { cls := 8, slots := #[.int 97], vm := .none },
  { cls := 8, slots := #[.int 98], vm := .none },
  { cls := 8, slots := #[.int 99], vm := .none },
  { cls := 8, slots := #[.int 100], vm := .none },
  { cls := 8, slots := #[.int 101], vm := .none },
  { cls := 8, slots := #[.int 102], vm := .none },
  { cls := 8, slots := #[.int 103], vm := .none },
  { cls := 8, slots := #[.int 104], vm := .none },
  { cls := 8, slots := #[.int 105], vm := .none },
  { cls := 8, slots := #[.int 106], vm := .none },
  { cls := 8, slots := #[.int 107], vm := .none },
  { cls := 8, slots := #[.int 108], vm := .none },
  { cls := 8, slots := #[.int 109], vm := .none },
  { cls := 8, slots := #[.int 110], vm := .none },
  { cls := 8, slots := #[.int 111], vm := .none },
  { cls := 8, slots := #[.int 112], vm := .none },
  { cls := 8, slots := #[.int 113], vm := .none },
  { cls := 8, slots := #[.int 114], vm := .none },
  { cls := 8, slots := #[.int 115], vm := .none },
  { cls := 8, slots := #[.int 116], vm := .none },
  { cls := 8, slots := #[.int 117], vm := .none },
  { cls := 8, slots := #[.int 118], vm := .none },
  { cls := 8, slots := #[.int 119], vm := .none },
  { cls := 8, slots := #[.int 120], vm := .none },
  { cls := 8, slots := #[.int 121], vm := .none },
  { cls := 8, slots := #[.int 122], vm := .none },
  { cls := 8, slots := #[.int 123], vm := .none },
  { cls := 8, slots := #[.int 124], vm := .none },
  { cls := 8, slots := #[.int 125], vm := .none },
  { cls := 8, slots := #[.int 126], vm := .none },
  { cls := 8, slots := #[.int 127], vm := .none }]
def classes : Array Class := #[k0, k1, k2, k3, k4, k5, k6, k7, k8, k9, k10, k11, k12, k13, k14, k15]
def interned : List (Array UInt16 × Addr) := []
def slotsUsed : Nat := 517
def theMethod : MethodId := ⟨1, 2⟩
def args0 : Array Value := #[.int 5, .int 5, .int 5, .int 5, .int 5]
def aboutOver (below : List Frame) : State where
  vm := { classes := classes, interned := interned.toArray }
  heap := heap
  slotsUsed := slotsUsed
  threads := #[{ frames := .invoking theMethod args0 :: below }]
def below0 : List Frame := [.native { method := ⟨0, 0⟩, args := #[] }]
def about1 : State := aboutOver below0
def p0 : Program := .bare "" "" ""
def e0 : Env := launch0.env 0 0 0
theorem w_frames : about1.frames = Frame.invoking theMethod args0 :: below0 := rfl
set_option maxRecDepth 65536 in
theorem w_args : argsFit about1.vm theMethod args0 = true := by decide +kernel
set_option maxRecDepth 65536 in
theorem w_heap : heapFits about1 = true := by decide +kernel
set_option maxRecDepth 65536 in
theorem w_runnable : about1.curStatus? = some .runnable := by decide +kernel
set_option maxRecDepth 65536 in
theorem w_alone : about1.alone = true := by decide +kernel
set_option maxRecDepth 65536 in
theorem w_named : about1.methodNamed? x = some theMethod := by decide +kernel
set_option maxRecDepth 65536 in
theorem w_hears : about1.hears theMethod below0 = true := by decide +kernel
set_option maxRecDepth 65536 in
theorem w_ripe : about1.ripe theMethod args0 below0 = true := by decide +kernel
theorem w_running : about1.status = .running := rfl
set_option maxRecDepth 65536 in
theorem w_room : about1.hasRoom e0.platform room_1 = true :=
  launch0.hasRoom_least _ room_1 (by decide +kernel) (by decide +kernel) (by decide +kernel) (by decide +kernel) (by decide +kernel) (by decide +kernel)
theorem allAtoms_all (ts : List Jvm.Cond) (a : Array Jvm.Value) (st : Jvm.State) : (allAtoms ts).before a st = ts.all (fun c => c.before a st) := by
  induction ts with
  | nil => rfl
  | cons c t ih =>
    show (Jvm.Cond.and c (allAtoms t)).before a st = _
    rw [Jvm.Cond.before_and, ih, List.all_cons]
def words1 : List Jvm.Cond := Jvm.Cond.code x code maxLocals ret :: tables_1
/-- a 'code' word, met by the world's own term for the bytes: nothing is compared byte by byte -/
theorem code_word {y : MethodName} {bytes : ByteArray} {mx : Nat} {rt : Option FieldType} {a : Array Value} {s : State} {m : MethodId} {meth : Method} {c : Code} (h1 : s.methodNamed? y = some m) (h2 : s.vm.method? m = some meth) (h3 : meth.code = some c) (h4 : c.code = bytes)
    (h5 : (c.maxLocals == mx && c.exceptionTable.isEmpty && decide (c.maxStack ≤ mostOperands) && decide (meth.sig.returnType = rt) && !meth.locks && decide (parseMethodDescriptor y.desc = some meth.sig)) = true) : (Jvm.Cond.code y bytes mx rt).before a s = true := by
  simp only [Bool.and_eq_true, beq_iff_eq, Bool.not_eq_true', decide_eq_true_eq] at h5
  obtain ⟨⟨⟨⟨⟨g1, g2⟩, g3⟩, g4⟩, g5⟩, g6⟩ := h5
  simp [Cond.before, Cond.holds, Cond.value, h1, h2, h3, h4, g1, g2, g3, g4, g5, g6]
def isCode : Jvm.Cond → Bool
  | .code _ _ _ _ => true
  | _ => false
theorem all_split {L : List Jvm.Cond} {P : Jvm.Cond → Bool} (h1 : L.all (fun c => isCode c || P c) = true) (h2 : ∀ c ∈ L.filter isCode, P c = true) : L.all P = true := by
  refine List.all_eq_true.mpr fun c hc => ?_
  have h := List.all_eq_true.mp h1 c hc
  rcases Bool.eq_false_or_eq_true (isCode c) with hi | hi
  · exact h2 c (List.mem_filter.mpr ⟨hc, hi⟩)
  · simpa [hi] using h
set_option maxRecDepth 65536 in
theorem w_c0 : (Jvm.Cond.code x code maxLocals ret).before args0 about1 = true := code_word (m := ⟨1, 2⟩) (meth := k1m2) (c := k1c2) (by decide +kernel) rfl rfl rfl (by decide +kernel)
set_option maxRecDepth 65536 in
theorem w_c1 : (Jvm.Cond.code ({ cls := "com/example/allsome/allsome/cypher/InputPositionEqualsPinLaw", name := "pos", desc := "(I)I" } : Jvm.MethodName) method_2_code (2 : Nat) (Option.some Jvm.ClassFile.FieldType.int)).before args0 about1 = true := code_word (m := ⟨1, 1⟩) (meth := k1m1) (c := k1c1) (by decide +kernel) rfl rfl rfl (by decide +kernel)
set_option maxRecDepth 65536 in
theorem w_c2 : (Jvm.Cond.code ({ cls := "com/example/allsome/allsome/cypher/InputPosition", name := "<init>", desc := "(II)V" } : Jvm.MethodName) prog_84_method_1_code (3 : Nat) (Option.none : Option Jvm.ClassFile.FieldType)).before args0 about1 = true := code_word (m := ⟨2, 0⟩) (meth := k2m0) (c := k2c0) (by decide +kernel) rfl rfl rfl (by decide +kernel)
set_option maxRecDepth 65536 in
theorem w_c3 : (Jvm.Cond.code ({ cls := "java/lang/Object", name := "<init>", desc := "()V" } : Jvm.MethodName) object_method_1_code (1 : Nat) (Option.none : Option Jvm.ClassFile.FieldType)).before args0 about1 = true := code_word (m := ⟨0, 0⟩) (meth := k0m0) (c := k0c0) (by decide +kernel) rfl rfl rfl (by decide +kernel)
set_option maxRecDepth 65536 in
theorem w_c4 : (Jvm.Cond.code ({ cls := "com/example/allsome/allsome/cypher/InputPosition", name := "equals", desc := "(Ljava/lang/Object;)Z" } : Jvm.MethodName) prog_84_method_5_code (2 : Nat) (Option.some Jvm.ClassFile.FieldType.boolean)).before args0 about1 = true := code_word (m := ⟨2, 1⟩) (meth := k2m1) (c := k2c1) (by decide +kernel) rfl rfl rfl (by decide +kernel)
set_option maxRecDepth 65536 in
theorem w_c5 : (Jvm.Cond.code ({ cls := "java/lang/Integer", name := "valueOf", desc := "(I)Ljava/lang/Integer;" } : Jvm.MethodName) jdk_33_method_22_code (1 : Nat) (Option.some (Jvm.ClassFile.FieldType.object "java/lang/Integer"))).before args0 about1 = true := code_word (m := ⟨8, 0⟩) (meth := k8m0) (c := k8c0) (by decide +kernel) rfl rfl rfl (by decide +kernel)
set_option maxRecDepth 65536 in
theorem w_c6 : (Jvm.Cond.code ({ cls := "java/lang/Integer", name := "<init>", desc := "(I)V" } : Jvm.MethodName) jdk_33_method_23_code (2 : Nat) (Option.none : Option Jvm.ClassFile.FieldType)).before args0 about1 = true := code_word (m := ⟨8, 1⟩) (meth := k8m1) (c := k8c1) (by decide +kernel) rfl rfl rfl (by decide +kernel)
set_option maxRecDepth 65536 in
theorem w_c7 : (Jvm.Cond.code ({ cls := "java/lang/Number", name := "<init>", desc := "()V" } : Jvm.MethodName) jdk_18_method_1_code (1 : Nat) (Option.none : Option Jvm.ClassFile.FieldType)).before args0 about1 = true := code_word (m := ⟨4, 0⟩) (meth := k4m0) (c := k4c0) (by decide +kernel) rfl rfl rfl (by decide +kernel)
def codes1 : List Jvm.Cond := [Jvm.Cond.code x code maxLocals ret, Jvm.Cond.code ({ cls := "com/example/allsome/allsome/cypher/InputPositionEqualsPinLaw", name := "pos", desc := "(I)I" } : Jvm.MethodName) method_2_code (2 : Nat) (Option.some Jvm.ClassFile.FieldType.int), Jvm.Cond.code ({ cls := "com/example/allsome/allsome/cypher/InputPosition", name := "<init>", desc := "(II)V" } : Jvm.MethodName) prog_84_method_1_code (3 : Nat) (Option.none : Option Jvm.ClassFile.FieldType), Jvm.Cond.code ({ cls := "java/lang/Object", name := "<init>", desc := "()V" } : Jvm.MethodName) object_method_1_code (1 : Nat) (Option.none : Option Jvm.ClassFile.FieldType), Jvm.Cond.code ({ cls := "com/example/allsome/allsome/cypher/InputPosition", name := "equals", desc := "(Ljava/lang/Object;)Z" } : Jvm.MethodName) prog_84_method_5_code (2 : Nat) (Option.some Jvm.ClassFile.FieldType.boolean), Jvm.Cond.code ({ cls := "java/lang/Integer", name := "valueOf", desc := "(I)Ljava/lang/Integer;" } : Jvm.MethodName) jdk_33_method_22_code (1 : Nat) (Option.some (Jvm.ClassFile.FieldType.object "java/lang/Integer")), Jvm.Cond.code ({ cls := "java/lang/Integer", name := "<init>", desc := "(I)V" } : Jvm.MethodName) jdk_33_method_23_code (2 : Nat) (Option.none : Option Jvm.ClassFile.FieldType), Jvm.Cond.code ({ cls := "java/lang/Number", name := "<init>", desc := "()V" } : Jvm.MethodName) jdk_18_method_1_code (1 : Nat) (Option.none : Option Jvm.ClassFile.FieldType)]
set_option maxRecDepth 65536 in
theorem codes_eq : words1.filter isCode = codes1 := rfl
theorem w_codes : ∀ c ∈ words1.filter isCode, c.before args0 about1 = true := by
  rw [codes_eq]
  intro c hc
  simp only [codes1, List.mem_cons, List.not_mem_nil, or_false] at hc
  rcases hc with rfl | rfl | rfl | rfl | rfl | rfl | rfl | rfl
  · exact w_c0
  · exact w_c1
  · exact w_c2
  · exact w_c3
  · exact w_c4
  · exact w_c5
  · exact w_c6
  · exact w_c7
set_option maxRecDepth 65536 in
theorem w_t1 : (words1.take 24).all (fun c => isCode c || c.before args0 about1) = true := by decide +kernel
set_option maxRecDepth 65536 in
theorem w_t2 : ((words1.drop 24).take 24).all (fun c => isCode c || c.before args0 about1) = true := by decide +kernel
set_option maxRecDepth 65536 in
theorem w_t3 : ((words1.drop 24).drop 24).all (fun c => isCode c || c.before args0 about1) = true := by decide +kernel
theorem w_tables : (allAtoms (Jvm.Cond.code x code maxLocals ret :: tables_1)).before args0 about1 = true := by
  rw [allAtoms_all]
  show words1.all (fun c => c.before args0 about1) = true
  refine all_split ?_ w_codes
  rw [← List.take_append_drop 24 words1, List.all_append, w_t1, ← List.take_append_drop 24 (words1.drop 24), List.all_append, w_t2, w_t3]
  rfl
set_option maxRecDepth 65536 in
theorem w_rest : rest_1_c.before args0 about1 = true := by decide +kernel
set_option maxRecDepth 65536 in
theorem w_case : (Jvm.Cond.and given_1 narrow_1).before args0 about1 = true := by decide +kernel
theorem w_applies : (headSpec (Jvm.Cond.code x code maxLocals ret :: tables_1) room_1).applies x e0.platform about1 = true :=
  (Spec.applies_iff w_frames).mpr ⟨w_running, w_runnable, w_alone, w_named, w_hears, w_ripe, w_room, w_tables⟩
theorem atStart : AtStart classFile x code maxLocals ret World_1 tables_1 room_1 Calls_1 rest_1 Pre_1 launch0 p0 e0 about1 theMethod args0 below0 :=
  ⟨lists_1, trivial, launch0.admits_env _ _ _, launch0.least_env, fairChoices_fair.cas, fairChoices_fair.clock, w_frames, w_args, w_heap, w_applies, trivial, w_rest, w_case⟩
end start1
theorem witness_1 : WitnessClaimed_1 := ⟨start1.p0, start1.e0, start1.about1, start1.theMethod, start1.args0, start1.below0, start1.atStart⟩
end Jvm.Pilot.@@N@@
