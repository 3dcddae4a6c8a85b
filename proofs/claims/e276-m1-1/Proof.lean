import JvmDerived
import JvmDerived.Pilot.@@N@@Statement
import JvmDerived.Pilot.@@N@@Code
set_option linter.unusedVariables false
set_option linter.unusedSimpArgs false
@@BLOCK:NumsL.lean.txt@@
namespace Jvm.RoadKit
open Sem ClassFile Op Lib Jvm.Stand Jvm.Free Jvm.LawKit
section New
variable {p : Program} {l : Launch} {e : Env} {R : Room} {s : State} {m : MethodId} {args : Array Value} {below : List Frame} {meth : Method} {c : Code} {T : State} {locs : List Loc} {cells slots : Nat}
theorem retI (X : Stand p l e R s m args below meth c T locs cells slots) (hx : p.tables.exec = Jvm.exec) {pc : Nat} {Ls : Array Slot} {z : Int32} {rest : List Value} (hret : meth.sig.returnType = some .int) (hd : decode c.code pc = .ok (.ireturn, 1)) {fs : List Frame}
    (hl : ∀ (f : JFrame) (acts : List Action), f.method = m → f.locked = none → f.entered = [] → (doReturn e (T.setTop f) acts (some (.int z))).1 = T.setFrames fs) : Steps p.tables e below (T.setTop (mkF m pc Ls (.int z :: rest))) (T.setFrames fs) := by
  have hm' : T.vm.method? m = some meth := X.method'
  have hn : narrow .int (.int z) = .int z := rfl
  show Steps p.tables e below (T.setTop { method := m, pc := pc, locals := Ls, stack := _ :: rest, locked := none }) _
  jvm_step X.here [X.here.top, hx, hd, hm', hret, hn]
  first | (intro acts; rw [hl _ acts rfl rfl rfl]) | rw [hl _ _ rfl rfl rfl]
  exact Steps.refl _
end New
end Jvm.RoadKit
namespace Jvm.Pilot.@@N@@
open Jvm Jvm.ClassFile Sem Op Lib Jvm.Free Jvm.Stand Jvm.LawKit Jvm.RoadKit Bundle Jvm.Pilot.@@N@@.Jvm.D
theorem wd {Z : State} {a0 : Array Value} (hw : ∀ d ∈ tables_1, d.before a0 Z = true) (i : Nat) {d : Jvm.Cond} (h : tables_1[i]? = some d) : d.before a0 Z = true := hw _ (List.mem_of_getElem? h)
abbrev jv (x : Int64) : Slot := .val (.long x)
/-- from A the run comes to an end that R speaks of -/
abbrev own_Go (tb : Tables) (e : Env) (below : List Frame) (A : State) (R : State → Outcome → Prop) : Prop := ∃ s₂ o, Steps tb e below A s₂ ∧ R s₂ o
theorem own_go {tb : Tables} {e : Env} {below : List Frame} {A : State} {R : State → Outcome → Prop} (h : own_Go tb e below A R) : ∃ s₂ o, Steps tb e below A s₂ ∧ R s₂ o := h
theorem own_lift {tb : Tables} {e : Env} {below : List Frame} {A B : State} {R : State → Outcome → Prop} (h : ∀ t, Steps tb e below A t → Steps tb e below B t) (k : own_Go tb e below A R) : own_Go tb e below B R := by
  obtain ⟨t, o, k1, k2⟩ := k
  exact ⟨t, o, h t k1, k2⟩
theorem own_plain {Z : State} {h : Heap} {a : Addr} {C : String} (F : Exa Z h a C) : ∃ c : Cell, h[a]? = some c ∧ c.vm.isStatics = false := by
  obtain ⟨c, _, h1, -, -, h4, -⟩ := F
  exact ⟨c, h1, h4⟩
theorem own_Arr_keep {Z : State} {h h' : Heap} {a : Addr} {c : Cell} {ty : FieldType} {ws : List Addr} (F : Arr Z h a c ty) (K : Keep h h' ws) (q : a ∉ ws) : Arr Z h' a c ty := ⟨K.2.1 a c F.1 q, F.2⟩
theorem own_asymm {a b : Int32} (h : a < b) : ¬ b < a := Int32.not_lt.mpr (Int32.le_of_lt h)
theorem own_Sta_keep {Z : State} {h h' : Heap} {C n d : String} {v : Value} {ws : List Addr} (F : Sta Z h C n d v) (K : Keep h h' ws) (q : ∀ x ∈ ws, ∃ c : Cell, h[x]? = some c ∧ c.vm.isStatics = false) : Sta Z h' C n d v := by
  obtain ⟨cf, i, k, f, st, cell, h1, h2, h3, h4, h5, h6, h7⟩ := F
  refine ⟨cf, i, k, f, st, cell, h1, h2, h3, h4, K.2.1 st cell h5 fun z => ?_, h6, h7⟩
  obtain ⟨c, g1, g2⟩ := q st z
  cases h5.symm.trans g1
  rw [h6] at g2
  cases g2
theorem own_root {Z : State} {a0 : Array Value} {O K : String} {n : Nat} (w : (Cond.noSuperclass O).before a0 Z = true) (wk : (Cond.instantiable K n).before a0 Z = true) (hn : O ≠ K) : NS Z O K := by
  obtain ⟨c, k, h1, h2, h3, -, -⟩ := Cond.noSuperclass_spec w
  obtain ⟨t, k', g1, -⟩ := Cond.instantiable_spec wk
  have ne := ids_ne h1 g1 hn
  refine ⟨c, t, h1, g1, fun fuel => ?_⟩
  cases fuel with
  | zero => rfl
  | succ f => simp [Vm.isSubclassAux, ne, h2, h3]
theorem own_no {Z : State} {a0 : Array Value} {C S K : String} {n : Nat} (w : (Cond.superclass C S).before a0 Z = true) (wk : (Cond.instantiable K n).before a0 Z = true) (nst : NS Z C K) (hn : C ≠ K) : ∃ c t, Z.vm.findClass C = some c ∧ Z.vm.findClass K = some t ∧ Z.vm.assignable c t = false := by
  obtain ⟨c, t, h0, g0, n3⟩ := nst
  obtain ⟨p, k, kp, h1, h2, h3, h4, h5, -, h7⟩ := Cond.superclass_spec h0 w
  obtain ⟨t', k', g1, g2, g3, g4, -⟩ := Cond.instantiable_spec wk
  cases g0.symm.trans g1
  have g7 : k'.isInterface = false := (Bool.or_eq_false_iff.mp g4).1
  have ne := ids_ne h0 g0 hn
  refine ⟨c, t, h0, g0, ?_⟩
  show Z.vm.assignableAux (255 + 1) c t = false
  simp [Vm.assignableAux, ne, h2, g2, h5, g3, g7, Vm.isSubclass, n3]
theorem own_eqint {args : Array Value} {s : State} {t : Term} {k : Int32} (h : (Cond.eq t (.int k)).value args s none s [] = some true) : t.eval args s none [] s = some (.int k) := by
  obtain ⟨x, y, hx, hy, -, hk⟩ := cmp_v (Or.inl h)
  obtain rfl : y = .int k := (Option.some.inj ((Term.int_eval k).symm.trans hy)).symm
  obtain ⟨z, rfl⟩ := hk
  have q : z = k := gotT (Cond.eq_ints hx hy) h
  subst q
  exact hx
theorem own_cache {args : Array Value} {s : State} {t : Term} {K : String} {X : Cond} {a : Addr} {cell : Cell} (A : Arr s s.heap a cell (.object K)) (ev : ∀ idx, t.eval args s none idx s = some (.ref a)) (hlen : cell.slots.size = 256)
    (hall : (Cond.all t (.and (.exactly (.elem t (.index 0)) K) X)).value args s none s [] = some true) {j : Int32} (h1 : ¬ j < 0) (h2 : j < 256) :
    ∃ b, ¬ (j < 0 ∨ cell.slots.size ≤ j.toNatClampNeg) ∧ cell.slots[j.toNatClampNeg]? = some (.ref b) ∧ Exa s s.heap b K := by
  have hat : s.arrayAt? a = some cell := A.fin (Vm.Alike.refl _)
  have hn := nat_of h1
  have hlt : j.toNatClampNeg < cell.slots.size := by
    rw [Int32.lt_iff_toInt_lt] at h2
    have e : (256 : Int32).toInt = 256 := rfl
    rw [e] at h2
    omega
  have q := Cond.all_elim (ev []) hat hall j.toNatClampNeg hlt
  obtain ⟨q1, -⟩ := and_e q
  obtain ⟨b, evb⟩ := exa_v q1
  obtain ⟨r1, r2⟩ := elem_in evb (ev _) (idx_at h1) A.1
  exact ⟨b, r1, r2, exa_at evb q1⟩
/-- where P holds, the j-th place of the cell c is an object of exactly K -/
def own_Box (Z : State) (h : Heap) (K : String) (c : Cell) (P : Prop) (j : Int32) : Prop := P → ∃ b, ¬ (j < 0 ∨ c.slots.size ≤ j.toNatClampNeg) ∧ c.slots[j.toNatClampNeg]? = some (.ref b) ∧ Exa Z h b K
theorem own_Box_ext {Z : State} {h h' : Heap} {K : String} {c : Cell} {P : Prop} {j : Int32} (B : own_Box Z h K c P j) (E : Ext h h') : own_Box Z h' K c P j := fun q => by
  obtain ⟨b, h1, h2, h3⟩ := B q
  exact ⟨b, h1, h2, h3.ext E⟩
theorem own_Box_wr {Z : State} {h h' : Heap} {K : String} {c : Cell} {P : Prop} {j : Int32} {a : Addr} {sl : Nat} {v : Value} (B : own_Box Z h K c P j) (W : Wr h h' a sl v) : own_Box Z h' K c P j := fun q => by
  obtain ⟨b, h1, h2, h3⟩ := B q
  exact ⟨b, h1, h2, h3.wr W⟩
theorem own_Box_keep {Z : State} {h h' : Heap} {K : String} {c : Cell} {P : Prop} {j : Int32} {ws : List Addr} (B : own_Box Z h K c P j) (W : Keep h h' ws) : own_Box Z h' K c P j := fun q => by
  obtain ⟨b, h1, h2, h3⟩ := B q
  exact ⟨b, h1, h2, h3.keep W⟩
theorem own_fld {args : Array Value} {s : State} {t : Term} {a : Addr} {C n d : String} {k : Int32} (ev : t.eval args s none [] s = some (.ref a)) (h : (Cond.eq (.field t C n d) (.int k)).value args s none s [] = some true) : Fld s s.heap a C n d (.int k) := by
  obtain ⟨x, y, hx, hy, -, hk⟩ := cmp_v (Or.inl h)
  obtain rfl : y = .int k := (Option.some.inj ((Term.int_eval k).symm.trans hy)).symm
  obtain ⟨z, rfl⟩ := hk
  have q : z = k := gotT (Cond.eq_ints hx hy) h
  subst q
  rw [fld_at ev] at hx
  exact Fld.start hx
theorem own_size {n : Nat} (h1 : n < 2 ^ 31) (h2 : n.toInt32 = 256) : n = 256 := by
  have e := len_toInt h1
  rw [h2] at e
  have q : (256 : Int32).toInt = 256 := rfl
  omega
def own_kind (j : Int32) (k0 k1 k2 k3 k4 k5 k6 k7 : Addr) : Addr := if j = 0 then k0 else if j = 1 then k1 else if j = 2 then k2 else if j = 3 then k3 else if j = 4 then k4 else if j = 5 then k5 else if j = 6 then k6 else k7
theorem own_kind_ord {Z : State} {h : Heap} {k0 k1 k2 k3 k4 k5 k6 k7 : Addr} (o0 : Fld Z h k0 "java/lang/Enum" "ordinal" "I" (.int 0)) (o1 : Fld Z h k1 "java/lang/Enum" "ordinal" "I" (.int 1)) (o2 : Fld Z h k2 "java/lang/Enum" "ordinal" "I" (.int 2)) (o3 : Fld Z h k3 "java/lang/Enum" "ordinal" "I" (.int 3)) (o4 : Fld Z h k4 "java/lang/Enum" "ordinal" "I" (.int 4)) (o5 : Fld Z h k5 "java/lang/Enum" "ordinal" "I" (.int 5)) (o6 : Fld Z h k6 "java/lang/Enum" "ordinal" "I" (.int 6)) (o7 : Fld Z h k7 "java/lang/Enum" "ordinal" "I" (.int 7)) {j : Int32} (h1 : ¬ j < 0) (h2 : j < 8) : Fld Z h (own_kind j k0 k1 k2 k3 k4 k5 k6 k7) "java/lang/Enum" "ordinal" "I" (.int j) := by
  rw [own_kind]
  by_cases c0 : j = 0
  · rw [if_pos c0, c0]; exact o0
  rw [if_neg c0]
  by_cases c1 : j = 1
  · rw [if_pos c1, c1]; exact o1
  rw [if_neg c1]
  by_cases c2 : j = 2
  · rw [if_pos c2, c2]; exact o2
  rw [if_neg c2]
  by_cases c3 : j = 3
  · rw [if_pos c3, c3]; exact o3
  rw [if_neg c3]
  by_cases c4 : j = 4
  · rw [if_pos c4, c4]; exact o4
  rw [if_neg c4]
  by_cases c5 : j = 5
  · rw [if_pos c5, c5]; exact o5
  rw [if_neg c5]
  by_cases c6 : j = 6
  · rw [if_pos c6, c6]; exact o6
  rw [if_neg c6]
  have e : j = 7 := by
    simp only [← Int32.toInt_inj, Int32.lt_iff_toInt_lt] at *
    have e0 : (0 : Int32).toInt = 0 := rfl
    have e1 : (1 : Int32).toInt = 1 := rfl
    have e2 : (2 : Int32).toInt = 2 := rfl
    have e3 : (3 : Int32).toInt = 3 := rfl
    have e4 : (4 : Int32).toInt = 4 := rfl
    have e5 : (5 : Int32).toInt = 5 := rfl
    have e6 : (6 : Int32).toInt = 6 := rfl
    have e7 : (7 : Int32).toInt = 7 := rfl
    have e8 : (8 : Int32).toInt = 8 := rfl
    omega
  rw [e]; exact o7
theorem own_and7 (x : Int32) : ¬ ((x &&& (7 : Int32)) < 0) ∧ (x &&& (7 : Int32)) < 8 := by
  have m : (x &&& (7 : Int32)).toInt = x.toInt % 2 ^ 3 := Jvm.Kit.i32_mask x 7 (k := 3) (by decide) (by decide)
  rw [Int32.lt_iff_toInt_lt, Int32.lt_iff_toInt_lt]
  have e0 : (0 : Int32).toInt = 0 := rfl
  have e8 : (8 : Int32).toInt = 8 := rfl
  omega
def own_ib (a b m : Int32) : Int32 := if (m &&& (1 : Int32)) = 0 then b &&& (7 : Int32) else a &&& (7 : Int32)
def own_cb (a b : Int64) (m : Int32) : Int64 := if (m &&& (2 : Int32)) = 0 then b else a
theorem own_ib_rng (a b m : Int32) : ¬ (own_ib a b m < 0) ∧ own_ib a b m < 8 := by
  rw [own_ib]
  split
  · exact own_and7 b
  · exact own_and7 a
theorem own_j {q : Int64} (h1 : ¬ (q < (-128 : Int64))) (h2 : ¬ ((127 : Int64) < q)) : ¬ (((q.toInt32) + (128 : Int32)) < 0) ∧ ((q.toInt32) + (128 : Int32)) < 256 := by
  rw [Int64.lt_iff_toInt_lt] at h1 h2
  have a1 : (-128 : Int64).toInt = -128 := rfl
  have a2 : (127 : Int64).toInt = 127 := rfl
  have e2 : (128 : Int32).toInt = 128 := rfl
  have e3 : (256 : Int32).toInt = 256 := rfl
  have z0 : (0 : Int32).toInt = 0 := rfl
  have t : q.toInt32.toInt = q.toInt := Jvm.Kit.i32_of_i64 (by omega) (by omega)
  have s : (q.toInt32 + (128 : Int32)).toInt = q.toInt32.toInt + (128 : Int32).toInt := Jvm.Kit.i32_add (by omega) (by omega)
  rw [Int32.lt_iff_toInt_lt, Int32.lt_iff_toInt_lt]
  omega
theorem pn_0 : plainName "com/example/allsome/allsome/cypher/SelectorEqualsPinLaw" = true := by first | (simp [plainName, overriddenIn]; done) | decide +kernel
theorem d1_0 : decode method_2_code 0 = .ok (.iload_n 0, 1) := by decide +kernel
theorem d1_1 : decode method_2_code 1 = .ok (.ifCond .ne 7, 3) := by decide +kernel
theorem d1_4 : decode method_2_code 4 = .ok (.getstatic 7, 3) := by decide +kernel
theorem d1_7 : decode method_2_code 7 = .ok (.areturn, 1) := by decide +kernel
def Q_rmKind (Z : State) (p1 : Int32) (as_SHORTEST_PATH : Addr) (as_ALL_SHORTEST_PATHS : Addr) (as_ANY_SHORTEST : Addr) (as_ALL_SHORTEST : Addr) (as_ANY : Addr) (as_ALL : Addr) (as_SHORTEST : Addr) (as_SHORTEST_GROUPS : Addr) (h0 : Heap) (n0 : Nat) (v : Option Value) (h : Heap) (L : List Loc) : Prop := v = some (.ref (own_kind p1 as_SHORTEST_PATH as_ALL_SHORTEST_PATHS as_ANY_SHORTEST as_ALL_SHORTEST as_ANY as_ALL as_SHORTEST as_SHORTEST_GROUPS)) ∧ Fr n0 L ∧ h = h0
theorem ef_rmKind0 (m : MethodId) (x0 : Int32) : entryFrame m #[(.int x0)] 1 = mkF m 0 #[.val (.int x0)] [] := by first | (simp [entryFrame, mkF, argsToLocals, Value.category]; done) | rfl
set_option maxRecDepth 65536 in
set_option maxHeartbeats 40000000 in
theorem rmKind0 (l : Launch) (Z : State) (a0 : Array Value) (hw : ∀ d ∈ tables_1, d.before a0 Z = true) (ws : List Jvm.Cond) (p1 : Int32) (as_SHORTEST_PATH : Addr) (as_ALL_SHORTEST_PATHS : Addr) (as_ANY_SHORTEST : Addr) (as_ALL_SHORTEST : Addr) (as_ANY : Addr) (as_ALL : Addr) (as_SHORTEST : Addr) (as_SHORTEST_GROUPS : Addr) (h0 : Heap) (n0 : Nat) (Z0 : n0 ≤ h0.size) (S_SHORTEST_PATH : Sta Z h0 "com/example/allsome/allsome/cypher/PathPattern$Selector$Kind" "SHORTEST_PATH" "Lcom/example/allsome/allsome/cypher/PathPattern$Selector$Kind;" (.ref as_SHORTEST_PATH)) (S_ALL_SHORTEST_PATHS : Sta Z h0 "com/example/allsome/allsome/cypher/PathPattern$Selector$Kind" "ALL_SHORTEST_PATHS" "Lcom/example/allsome/allsome/cypher/PathPattern$Selector$Kind;" (.ref as_ALL_SHORTEST_PATHS)) (S_ANY_SHORTEST : Sta Z h0 "com/example/allsome/allsome/cypher/PathPattern$Selector$Kind" "ANY_SHORTEST" "Lcom/example/allsome/allsome/cypher/PathPattern$Selector$Kind;" (.ref as_ANY_SHORTEST)) (S_ALL_SHORTEST : Sta Z h0 "com/example/allsome/allsome/cypher/PathPattern$Selector$Kind" "ALL_SHORTEST" "Lcom/example/allsome/allsome/cypher/PathPattern$Selector$Kind;" (.ref as_ALL_SHORTEST)) (S_ANY : Sta Z h0 "com/example/allsome/allsome/cypher/PathPattern$Selector$Kind" "ANY" "Lcom/example/allsome/allsome/cypher/PathPattern$Selector$Kind;" (.ref as_ANY)) (S_ALL : Sta Z h0 "com/example/allsome/allsome/cypher/PathPattern$Selector$Kind" "ALL" "Lcom/example/allsome/allsome/cypher/PathPattern$Selector$Kind;" (.ref as_ALL)) (S_SHORTEST : Sta Z h0 "com/example/allsome/allsome/cypher/PathPattern$Selector$Kind" "SHORTEST" "Lcom/example/allsome/allsome/cypher/PathPattern$Selector$Kind;" (.ref as_SHORTEST)) (S_SHORTEST_GROUPS : Sta Z h0 "com/example/allsome/allsome/cypher/PathPattern$Selector$Kind" "SHORTEST_GROUPS" "Lcom/example/allsome/allsome/cypher/PathPattern$Selector$Kind;" (.ref as_SHORTEST_GROUPS)) (c0 : p1 = (0 : Int32)) :
    MetFree l (⟨"com/example/allsome/allsome/cypher/SelectorEqualsPinLaw", "kind", "(I)Lcom/example/allsome/allsome/cypher/PathPattern$Selector$Kind;"⟩ : MethodName) (head1 (Jvm.Cond.code (⟨"com/example/allsome/allsome/cypher/SelectorEqualsPinLaw", "kind", "(I)Lcom/example/allsome/allsome/cypher/PathPattern$Selector$Kind;"⟩ : MethodName) method_2_code 1 (some (.object "com/example/allsome/allsome/cypher/PathPattern$Selector$Kind")) :: ws) ({ frames := 0, cells := 0, slots := 0, locals := 0 } : Room)) (fun a U => a = #[(.int p1)] ∧ Z.Warmed39 U.vm ∧ U.heap = h0) (fun _ _ _ _ _ => True) (fun _ U o U' => ∃ v L, o = .returned v ∧ Q_rmKind Z p1 as_SHORTEST_PATH as_ALL_SHORTEST_PATHS as_ANY_SHORTEST as_ALL_SHORTEST as_ANY as_ALL as_SHORTEST as_SHORTEST_GROUPS h0 n0 v U'.heap L ∧ FrameEnd U o U' L ({ frames := 0, cells := 0, slots := 0, locals := 0 } : Room).cells ({ frames := 0, cells := 0, slots := 0, locals := 0 } : Room).slots) := by
  refine MetFree.of_bodySF (plainFor_of_name pn_0) hisR ?_
  intro p e s m args below meth c s₁ Bd hml0 hP hK
  obtain ⟨rfl, hZ, hh⟩ := hP
  have hx := Bd.exec
  have hby := Bd.bytes
  have hml : c.maxLocals = 1 := hml0
  have hown : s.vm.findClass "com/example/allsome/allsome/cypher/SelectorEqualsPinLaw" = some m.cls := findClass_of_methodNamed Bd.named
  have hnm := (name_of_methodNamed Bd.named Bd.method).1
  have X0 : Stand p l e ({ frames := 0, cells := 0, slots := 0, locals := 0 } : Room) s m #[(.int p1)] below meth c s₁ [] 0 0 := Stand.of_body Bd
  have e0 : s₁.heap = h0 := by rw [← hh, Bd.state]; rfl
  have N0 := Fr.nil n0
  refine own_go (own_lift (fun t k => castTop (ef_rmKind0 m p1) k) ?_)
  show own_Go p.tables e below (s₁.setTop (mkF m 0 #[iv p1] [])) _
  have sg1 : ∀ t, Steps p.tables e below (s₁.setTop (mkF m 4 #[iv p1] [])) t → Steps p.tables e below (s₁.setTop (mkF m 0 #[iv p1] [])) t := by
    intro t k
    refine XS.iloadN X0.here hx rfl (hb hby d1_0) rfl ?_
    show Steps p.tables e below (s₁.setTop (mkF m 1 #[iv p1] [(.int p1)])) _
    refine XS.ifNo X0.here hx rfl (hb hby d1_1) rfl ((if0 _ _).trans (teq c0).2) ?_
    show Steps p.tables e below (s₁.setTop (mkF m 4 #[iv p1] [])) _
    exact k
  refine own_lift sg1 ?_
  show own_Go p.tables e below (s₁.setTop (mkF m 4 #[iv p1] [])) _
  obtain ⟨T2, X2, e2, st2⟩ := getS X0 hx hZ hown (host := "") (wd hw 7 rfl) Via.refl e0 S_SHORTEST_PATH (g := (mkF m 4 #[iv p1] [])) rfl (hb hby d1_4)
  refine own_lift st2 ?_
  show own_Go p.tables e below (T2.setTop (mkF m 7 #[iv p1] [(.ref as_SHORTEST_PATH)])) _
  obtain ⟨fs, hr, hrun, hended, hW, hsame⟩ := X2.leave (v := some (.ref as_SHORTEST_PATH)) (fun h => by rw [Bd.returns] at h; cases h)
  refine ⟨_, _, ?_, hrun, hended, _, _, rfl, ?_, ⟨_, rfl⟩, hW, hsame.mono (by decide) (by decide)⟩
  · exact retOut X2 hx Bd.returns rfl (Or.inr (Or.inr (Or.inr (Or.inr ⟨rfl, rfl, rfl⟩)))) (hb hby d1_7) hr
  · show Q_rmKind Z p1 as_SHORTEST_PATH as_ALL_SHORTEST_PATHS as_ANY_SHORTEST as_ALL_SHORTEST as_ANY as_ALL as_SHORTEST as_SHORTEST_GROUPS h0 n0 _ T2.heap _
    rw [e2]
    exact ⟨(by rw [own_kind, if_pos c0]), N0, rfl⟩
theorem d1_8 : decode method_2_code 8 = .ok (.iload_n 0, 1) := by decide +kernel
theorem d1_9 : decode method_2_code 9 = .ok (.iconst 1, 1) := by decide +kernel
theorem d1_10 : decode method_2_code 10 = .ok (.if_icmp .ne 7, 3) := by decide +kernel
theorem d1_13 : decode method_2_code 13 = .ok (.getstatic 13, 3) := by decide +kernel
theorem d1_16 : decode method_2_code 16 = .ok (.areturn, 1) := by decide +kernel
theorem ef_rmKind1 (m : MethodId) (x0 : Int32) : entryFrame m #[(.int x0)] 1 = mkF m 0 #[.val (.int x0)] [] := by first | (simp [entryFrame, mkF, argsToLocals, Value.category]; done) | rfl
set_option maxRecDepth 65536 in
set_option maxHeartbeats 40000000 in
theorem rmKind1 (l : Launch) (Z : State) (a0 : Array Value) (hw : ∀ d ∈ tables_1, d.before a0 Z = true) (ws : List Jvm.Cond) (p1 : Int32) (as_SHORTEST_PATH : Addr) (as_ALL_SHORTEST_PATHS : Addr) (as_ANY_SHORTEST : Addr) (as_ALL_SHORTEST : Addr) (as_ANY : Addr) (as_ALL : Addr) (as_SHORTEST : Addr) (as_SHORTEST_GROUPS : Addr) (h0 : Heap) (n0 : Nat) (Z0 : n0 ≤ h0.size) (S_SHORTEST_PATH : Sta Z h0 "com/example/allsome/allsome/cypher/PathPattern$Selector$Kind" "SHORTEST_PATH" "Lcom/example/allsome/allsome/cypher/PathPattern$Selector$Kind;" (.ref as_SHORTEST_PATH)) (S_ALL_SHORTEST_PATHS : Sta Z h0 "com/example/allsome/allsome/cypher/PathPattern$Selector$Kind" "ALL_SHORTEST_PATHS" "Lcom/example/allsome/allsome/cypher/PathPattern$Selector$Kind;" (.ref as_ALL_SHORTEST_PATHS)) (S_ANY_SHORTEST : Sta Z h0 "com/example/allsome/allsome/cypher/PathPattern$Selector$Kind" "ANY_SHORTEST" "Lcom/example/allsome/allsome/cypher/PathPattern$Selector$Kind;" (.ref as_ANY_SHORTEST)) (S_ALL_SHORTEST : Sta Z h0 "com/example/allsome/allsome/cypher/PathPattern$Selector$Kind" "ALL_SHORTEST" "Lcom/example/allsome/allsome/cypher/PathPattern$Selector$Kind;" (.ref as_ALL_SHORTEST)) (S_ANY : Sta Z h0 "com/example/allsome/allsome/cypher/PathPattern$Selector$Kind" "ANY" "Lcom/example/allsome/allsome/cypher/PathPattern$Selector$Kind;" (.ref as_ANY)) (S_ALL : Sta Z h0 "com/example/allsome/allsome/cypher/PathPattern$Selector$Kind" "ALL" "Lcom/example/allsome/allsome/cypher/PathPattern$Selector$Kind;" (.ref as_ALL)) (S_SHORTEST : Sta Z h0 "com/example/allsome/allsome/cypher/PathPattern$Selector$Kind" "SHORTEST" "Lcom/example/allsome/allsome/cypher/PathPattern$Selector$Kind;" (.ref as_SHORTEST)) (S_SHORTEST_GROUPS : Sta Z h0 "com/example/allsome/allsome/cypher/PathPattern$Selector$Kind" "SHORTEST_GROUPS" "Lcom/example/allsome/allsome/cypher/PathPattern$Selector$Kind;" (.ref as_SHORTEST_GROUPS)) (c0 : ¬ (p1 = (0 : Int32))) (c1 : p1 = (1 : Int32)) :
    MetFree l (⟨"com/example/allsome/allsome/cypher/SelectorEqualsPinLaw", "kind", "(I)Lcom/example/allsome/allsome/cypher/PathPattern$Selector$Kind;"⟩ : MethodName) (head1 (Jvm.Cond.code (⟨"com/example/allsome/allsome/cypher/SelectorEqualsPinLaw", "kind", "(I)Lcom/example/allsome/allsome/cypher/PathPattern$Selector$Kind;"⟩ : MethodName) method_2_code 1 (some (.object "com/example/allsome/allsome/cypher/PathPattern$Selector$Kind")) :: ws) ({ frames := 0, cells := 0, slots := 0, locals := 0 } : Room)) (fun a U => a = #[(.int p1)] ∧ Z.Warmed39 U.vm ∧ U.heap = h0) (fun _ _ _ _ _ => True) (fun _ U o U' => ∃ v L, o = .returned v ∧ Q_rmKind Z p1 as_SHORTEST_PATH as_ALL_SHORTEST_PATHS as_ANY_SHORTEST as_ALL_SHORTEST as_ANY as_ALL as_SHORTEST as_SHORTEST_GROUPS h0 n0 v U'.heap L ∧ FrameEnd U o U' L ({ frames := 0, cells := 0, slots := 0, locals := 0 } : Room).cells ({ frames := 0, cells := 0, slots := 0, locals := 0 } : Room).slots) := by
  refine MetFree.of_bodySF (plainFor_of_name pn_0) hisR ?_
  intro p e s m args below meth c s₁ Bd hml0 hP hK
  obtain ⟨rfl, hZ, hh⟩ := hP
  have hx := Bd.exec
  have hby := Bd.bytes
  have hml : c.maxLocals = 1 := hml0
  have hown : s.vm.findClass "com/example/allsome/allsome/cypher/SelectorEqualsPinLaw" = some m.cls := findClass_of_methodNamed Bd.named
  have hnm := (name_of_methodNamed Bd.named Bd.method).1
  have X0 : Stand p l e ({ frames := 0, cells := 0, slots := 0, locals := 0 } : Room) s m #[(.int p1)] below meth c s₁ [] 0 0 := Stand.of_body Bd
  have e0 : s₁.heap = h0 := by rw [← hh, Bd.state]; rfl
  have N0 := Fr.nil n0
  refine own_go (own_lift (fun t k => castTop (ef_rmKind1 m p1) k) ?_)
  show own_Go p.tables e below (s₁.setTop (mkF m 0 #[iv p1] [])) _
  have sg1 : ∀ t, Steps p.tables e below (s₁.setTop (mkF m 13 #[iv p1] [])) t → Steps p.tables e below (s₁.setTop (mkF m 0 #[iv p1] [])) t := by
    intro t k
    refine XS.iloadN X0.here hx rfl (hb hby d1_0) rfl ?_
    show Steps p.tables e below (s₁.setTop (mkF m 1 #[iv p1] [(.int p1)])) _
    refine XS.ifYes X0.here hx rfl (pc0 := 1) (pc' := 8) rfl (hb hby d1_1) rfl ((if0 _ _).trans (feq c0).2) (by decide) (by decide) ?_
    show Steps p.tables e below (s₁.setTop (mkF m 8 #[iv p1] [])) _
    refine XS.iloadN X0.here hx rfl (hb hby d1_8) rfl ?_
    show Steps p.tables e below (s₁.setTop (mkF m 9 #[iv p1] [(.int p1)])) _
    refine XS.iconst X0.here hx rfl (hb hby d1_9) ?_
    show Steps p.tables e below (s₁.setTop (mkF m 10 #[iv p1] [(.int 1), (.int p1)])) _
    refine XS.icmpNo X0.here hx rfl (hb hby d1_10) rfl (teq c1).2 ?_
    show Steps p.tables e below (s₁.setTop (mkF m 13 #[iv p1] [])) _
    exact k
  refine own_lift sg1 ?_
  show own_Go p.tables e below (s₁.setTop (mkF m 13 #[iv p1] [])) _
  obtain ⟨T2, X2, e2, st2⟩ := getS X0 hx hZ hown (host := "") (wd hw 20 rfl) Via.refl e0 S_ALL_SHORTEST_PATHS (g := (mkF m 13 #[iv p1] [])) rfl (hb hby d1_13)
  refine own_lift st2 ?_
  show own_Go p.tables e below (T2.setTop (mkF m 16 #[iv p1] [(.ref as_ALL_SHORTEST_PATHS)])) _
  obtain ⟨fs, hr, hrun, hended, hW, hsame⟩ := X2.leave (v := some (.ref as_ALL_SHORTEST_PATHS)) (fun h => by rw [Bd.returns] at h; cases h)
  refine ⟨_, _, ?_, hrun, hended, _, _, rfl, ?_, ⟨_, rfl⟩, hW, hsame.mono (by decide) (by decide)⟩
  · exact retOut X2 hx Bd.returns rfl (Or.inr (Or.inr (Or.inr (Or.inr ⟨rfl, rfl, rfl⟩)))) (hb hby d1_16) hr
  · show Q_rmKind Z p1 as_SHORTEST_PATH as_ALL_SHORTEST_PATHS as_ANY_SHORTEST as_ALL_SHORTEST as_ANY as_ALL as_SHORTEST as_SHORTEST_GROUPS h0 n0 _ T2.heap _
    rw [e2]
    exact ⟨(by rw [own_kind, if_neg c0, if_pos c1]), N0, rfl⟩
theorem d1_17 : decode method_2_code 17 = .ok (.iload_n 0, 1) := by decide +kernel
theorem d1_18 : decode method_2_code 18 = .ok (.iconst 2, 1) := by decide +kernel
theorem d1_19 : decode method_2_code 19 = .ok (.if_icmp .ne 7, 3) := by decide +kernel
theorem d1_22 : decode method_2_code 22 = .ok (.getstatic 16, 3) := by decide +kernel
theorem d1_25 : decode method_2_code 25 = .ok (.areturn, 1) := by decide +kernel
theorem ef_rmKind2 (m : MethodId) (x0 : Int32) : entryFrame m #[(.int x0)] 1 = mkF m 0 #[.val (.int x0)] [] := by first | (simp [entryFrame, mkF, argsToLocals, Value.category]; done) | rfl
set_option maxRecDepth 65536 in
set_option maxHeartbeats 40000000 in
theorem rmKind2 (l : Launch) (Z : State) (a0 : Array Value) (hw : ∀ d ∈ tables_1, d.before a0 Z = true) (ws : List Jvm.Cond) (p1 : Int32) (as_SHORTEST_PATH : Addr) (as_ALL_SHORTEST_PATHS : Addr) (as_ANY_SHORTEST : Addr) (as_ALL_SHORTEST : Addr) (as_ANY : Addr) (as_ALL : Addr) (as_SHORTEST : Addr) (as_SHORTEST_GROUPS : Addr) (h0 : Heap) (n0 : Nat) (Z0 : n0 ≤ h0.size) (S_SHORTEST_PATH : Sta Z h0 "com/example/allsome/allsome/cypher/PathPattern$Selector$Kind" "SHORTEST_PATH" "Lcom/example/allsome/allsome/cypher/PathPattern$Selector$Kind;" (.ref as_SHORTEST_PATH)) (S_ALL_SHORTEST_PATHS : Sta Z h0 "com/example/allsome/allsome/cypher/PathPattern$Selector$Kind" "ALL_SHORTEST_PATHS" "Lcom/example/allsome/allsome/cypher/PathPattern$Selector$Kind;" (.ref as_ALL_SHORTEST_PATHS)) (S_ANY_SHORTEST : Sta Z h0 "com/example/allsome/allsome/cypher/PathPattern$Selector$Kind" "ANY_SHORTEST" "Lcom/example/allsome/allsome/cypher/PathPattern$Selector$Kind;" (.ref as_ANY_SHORTEST)) (S_ALL_SHORTEST : Sta Z h0 "com/example/allsome/allsome/cypher/PathPattern$Selector$Kind" "ALL_SHORTEST" "Lcom/example/allsome/allsome/cypher/PathPattern$Selector$Kind;" (.ref as_ALL_SHORTEST)) (S_ANY : Sta Z h0 "com/example/allsome/allsome/cypher/PathPattern$Selector$Kind" "ANY" "Lcom/example/allsome/allsome/cypher/PathPattern$Selector$Kind;" (.ref as_ANY)) (S_ALL : Sta Z h0 "com/example/allsome/allsome/cypher/PathPattern$Selector$Kind" "ALL" "Lcom/example/allsome/allsome/cypher/PathPattern$Selector$Kind;" (.ref as_ALL)) (S_SHORTEST : Sta Z h0 "com/example/allsome/allsome/cypher/PathPattern$Selector$Kind" "SHORTEST" "Lcom/example/allsome/allsome/cypher/PathPattern$Selector$Kind;" (.ref as_SHORTEST)) (S_SHORTEST_GROUPS : Sta Z h0 "com/example/allsome/allsome/cypher/PathPattern$Selector$Kind" "SHORTEST_GROUPS" "Lcom/example/allsome/allsome/cypher/PathPattern$Selector$Kind;" (.ref as_SHORTEST_GROUPS)) (c0 : ¬ (p1 = (0 : Int32))) (c1 : ¬ (p1 = (1 : Int32))) (c2 : p1 = (2 : Int32)) :
    MetFree l (⟨"com/example/allsome/allsome/cypher/SelectorEqualsPinLaw", "kind", "(I)Lcom/example/allsome/allsome/cypher/PathPattern$Selector$Kind;"⟩ : MethodName) (head1 (Jvm.Cond.code (⟨"com/example/allsome/allsome/cypher/SelectorEqualsPinLaw", "kind", "(I)Lcom/example/allsome/allsome/cypher/PathPattern$Selector$Kind;"⟩ : MethodName) method_2_code 1 (some (.object "com/example/allsome/allsome/cypher/PathPattern$Selector$Kind")) :: ws) ({ frames := 0, cells := 0, slots := 0, locals := 0 } : Room)) (fun a U => a = #[(.int p1)] ∧ Z.Warmed39 U.vm ∧ U.heap = h0) (fun _ _ _ _ _ => True) (fun _ U o U' => ∃ v L, o = .returned v ∧ Q_rmKind Z p1 as_SHORTEST_PATH as_ALL_SHORTEST_PATHS as_ANY_SHORTEST as_ALL_SHORTEST as_ANY as_ALL as_SHORTEST as_SHORTEST_GROUPS h0 n0 v U'.heap L ∧ FrameEnd U o U' L ({ frames := 0, cells := 0, slots := 0, locals := 0 } : Room).cells ({ frames := 0, cells := 0, slots := 0, locals := 0 } : Room).slots) := by
  refine MetFree.of_bodySF (plainFor_of_name pn_0) hisR ?_
  intro p e s m args below meth c s₁ Bd hml0 hP hK
  obtain ⟨rfl, hZ, hh⟩ := hP
  have hx := Bd.exec
  have hby := Bd.bytes
  have hml : c.maxLocals = 1 := hml0
  have hown : s.vm.findClass "com/example/allsome/allsome/cypher/SelectorEqualsPinLaw" = some m.cls := findClass_of_methodNamed Bd.named
  have hnm := (name_of_methodNamed Bd.named Bd.method).1
  have X0 : Stand p l e ({ frames := 0, cells := 0, slots := 0, locals := 0 } : Room) s m #[(.int p1)] below meth c s₁ [] 0 0 := Stand.of_body Bd
  have e0 : s₁.heap = h0 := by rw [← hh, Bd.state]; rfl
  have N0 := Fr.nil n0
  refine own_go (own_lift (fun t k => castTop (ef_rmKind2 m p1) k) ?_)
  show own_Go p.tables e below (s₁.setTop (mkF m 0 #[iv p1] [])) _
  have sg1 : ∀ t, Steps p.tables e below (s₁.setTop (mkF m 22 #[iv p1] [])) t → Steps p.tables e below (s₁.setTop (mkF m 0 #[iv p1] [])) t := by
    intro t k
    refine XS.iloadN X0.here hx rfl (hb hby d1_0) rfl ?_
    show Steps p.tables e below (s₁.setTop (mkF m 1 #[iv p1] [(.int p1)])) _
    refine XS.ifYes X0.here hx rfl (pc0 := 1) (pc' := 8) rfl (hb hby d1_1) rfl ((if0 _ _).trans (feq c0).2) (by decide) (by decide) ?_
    show Steps p.tables e below (s₁.setTop (mkF m 8 #[iv p1] [])) _
    refine XS.iloadN X0.here hx rfl (hb hby d1_8) rfl ?_
    show Steps p.tables e below (s₁.setTop (mkF m 9 #[iv p1] [(.int p1)])) _
    refine XS.iconst X0.here hx rfl (hb hby d1_9) ?_
    show Steps p.tables e below (s₁.setTop (mkF m 10 #[iv p1] [(.int 1), (.int p1)])) _
    refine XS.icmpYes X0.here hx rfl (pc0 := 10) (pc' := 17) rfl (hb hby d1_10) rfl (feq c1).2 (by decide) (by decide) ?_
    show Steps p.tables e below (s₁.setTop (mkF m 17 #[iv p1] [])) _
    refine XS.iloadN X0.here hx rfl (hb hby d1_17) rfl ?_
    show Steps p.tables e below (s₁.setTop (mkF m 18 #[iv p1] [(.int p1)])) _
    refine XS.iconst X0.here hx rfl (hb hby d1_18) ?_
    show Steps p.tables e below (s₁.setTop (mkF m 19 #[iv p1] [(.int 2), (.int p1)])) _
    refine XS.icmpNo X0.here hx rfl (hb hby d1_19) rfl (teq c2).2 ?_
    show Steps p.tables e below (s₁.setTop (mkF m 22 #[iv p1] [])) _
    exact k
  refine own_lift sg1 ?_
  show own_Go p.tables e below (s₁.setTop (mkF m 22 #[iv p1] [])) _
  obtain ⟨T2, X2, e2, st2⟩ := getS X0 hx hZ hown (host := "") (wd hw 63 rfl) Via.refl e0 S_ANY_SHORTEST (g := (mkF m 22 #[iv p1] [])) rfl (hb hby d1_22)
  refine own_lift st2 ?_
  show own_Go p.tables e below (T2.setTop (mkF m 25 #[iv p1] [(.ref as_ANY_SHORTEST)])) _
  obtain ⟨fs, hr, hrun, hended, hW, hsame⟩ := X2.leave (v := some (.ref as_ANY_SHORTEST)) (fun h => by rw [Bd.returns] at h; cases h)
  refine ⟨_, _, ?_, hrun, hended, _, _, rfl, ?_, ⟨_, rfl⟩, hW, hsame.mono (by decide) (by decide)⟩
  · exact retOut X2 hx Bd.returns rfl (Or.inr (Or.inr (Or.inr (Or.inr ⟨rfl, rfl, rfl⟩)))) (hb hby d1_25) hr
  · show Q_rmKind Z p1 as_SHORTEST_PATH as_ALL_SHORTEST_PATHS as_ANY_SHORTEST as_ALL_SHORTEST as_ANY as_ALL as_SHORTEST as_SHORTEST_GROUPS h0 n0 _ T2.heap _
    rw [e2]
    exact ⟨(by rw [own_kind, if_neg c0, if_neg c1, if_pos c2]), N0, rfl⟩
theorem d1_26 : decode method_2_code 26 = .ok (.iload_n 0, 1) := by decide +kernel
theorem d1_27 : decode method_2_code 27 = .ok (.iconst 3, 1) := by decide +kernel
theorem d1_28 : decode method_2_code 28 = .ok (.if_icmp .ne 7, 3) := by decide +kernel
theorem d1_31 : decode method_2_code 31 = .ok (.getstatic 19, 3) := by decide +kernel
theorem d1_34 : decode method_2_code 34 = .ok (.areturn, 1) := by decide +kernel
theorem ef_rmKind3 (m : MethodId) (x0 : Int32) : entryFrame m #[(.int x0)] 1 = mkF m 0 #[.val (.int x0)] [] := by first | (simp [entryFrame, mkF, argsToLocals, Value.category]; done) | rfl
set_option maxRecDepth 65536 in
set_option maxHeartbeats 40000000 in
theorem rmKind3 (l : Launch) (Z : State) (a0 : Array Value) (hw : ∀ d ∈ tables_1, d.before a0 Z = true) (ws : List Jvm.Cond) (p1 : Int32) (as_SHORTEST_PATH : Addr) (as_ALL_SHORTEST_PATHS : Addr) (as_ANY_SHORTEST : Addr) (as_ALL_SHORTEST : Addr) (as_ANY : Addr) (as_ALL : Addr) (as_SHORTEST : Addr) (as_SHORTEST_GROUPS : Addr) (h0 : Heap) (n0 : Nat) (Z0 : n0 ≤ h0.size) (S_SHORTEST_PATH : Sta Z h0 "com/example/allsome/allsome/cypher/PathPattern$Selector$Kind" "SHORTEST_PATH" "Lcom/example/allsome/allsome/cypher/PathPattern$Selector$Kind;" (.ref as_SHORTEST_PATH)) (S_ALL_SHORTEST_PATHS : Sta Z h0 "com/example/allsome/allsome/cypher/PathPattern$Selector$Kind" "ALL_SHORTEST_PATHS" "Lcom/example/allsome/allsome/cypher/PathPattern$Selector$Kind;" (.ref as_ALL_SHORTEST_PATHS)) (S_ANY_SHORTEST : Sta Z h0 "com/example/allsome/allsome/cypher/PathPattern$Selector$Kind" "ANY_SHORTEST" "Lcom/example/allsome/allsome/cypher/PathPattern$Selector$Kind;" (.ref as_ANY_SHORTEST)) (S_ALL_SHORTEST : Sta Z h0 "com/example/allsome/allsome/cypher/PathPattern$Selector$Kind" "ALL_SHORTEST" "Lcom/example/allsome/allsome/cypher/PathPattern$Selector$Kind;" (.ref as_ALL_SHORTEST)) (S_ANY : Sta Z h0 "com/example/allsome/allsome/cypher/PathPattern$Selector$Kind" "ANY" "Lcom/example/allsome/allsome/cypher/PathPattern$Selector$Kind;" (.ref as_ANY)) (S_ALL : Sta Z h0 "com/example/allsome/allsome/cypher/PathPattern$Selector$Kind" "ALL" "Lcom/example/allsome/allsome/cypher/PathPattern$Selector$Kind;" (.ref as_ALL)) (S_SHORTEST : Sta Z h0 "com/example/allsome/allsome/cypher/PathPattern$Selector$Kind" "SHORTEST" "Lcom/example/allsome/allsome/cypher/PathPattern$Selector$Kind;" (.ref as_SHORTEST)) (S_SHORTEST_GROUPS : Sta Z h0 "com/example/allsome/allsome/cypher/PathPattern$Selector$Kind" "SHORTEST_GROUPS" "Lcom/example/allsome/allsome/cypher/PathPattern$Selector$Kind;" (.ref as_SHORTEST_GROUPS)) (c0 : ¬ (p1 = (0 : Int32))) (c1 : ¬ (p1 = (1 : Int32))) (c2 : ¬ (p1 = (2 : Int32))) (c3 : p1 = (3 : Int32)) :
    MetFree l (⟨"com/example/allsome/allsome/cypher/SelectorEqualsPinLaw", "kind", "(I)Lcom/example/allsome/allsome/cypher/PathPattern$Selector$Kind;"⟩ : MethodName) (head1 (Jvm.Cond.code (⟨"com/example/allsome/allsome/cypher/SelectorEqualsPinLaw", "kind", "(I)Lcom/example/allsome/allsome/cypher/PathPattern$Selector$Kind;"⟩ : MethodName) method_2_code 1 (some (.object "com/example/allsome/allsome/cypher/PathPattern$Selector$Kind")) :: ws) ({ frames := 0, cells := 0, slots := 0, locals := 0 } : Room)) (fun a U => a = #[(.int p1)] ∧ Z.Warmed39 U.vm ∧ U.heap = h0) (fun _ _ _ _ _ => True) (fun _ U o U' => ∃ v L, o = .returned v ∧ Q_rmKind Z p1 as_SHORTEST_PATH as_ALL_SHORTEST_PATHS as_ANY_SHORTEST as_ALL_SHORTEST as_ANY as_ALL as_SHORTEST as_SHORTEST_GROUPS h0 n0 v U'.heap L ∧ FrameEnd U o U' L ({ frames := 0, cells := 0, slots := 0, locals := 0 } : Room).cells ({ frames := 0, cells := 0, slots := 0, locals := 0 } : Room).slots) := by
  refine MetFree.of_bodySF (plainFor_of_name pn_0) hisR ?_
  intro p e s m args below meth c s₁ Bd hml0 hP hK
  obtain ⟨rfl, hZ, hh⟩ := hP
  have hx := Bd.exec
  have hby := Bd.bytes
  have hml : c.maxLocals = 1 := hml0
  have hown : s.vm.findClass "com/example/allsome/allsome/cypher/SelectorEqualsPinLaw" = some m.cls := findClass_of_methodNamed Bd.named
  have hnm := (name_of_methodNamed Bd.named Bd.method).1
  have X0 : Stand p l e ({ frames := 0, cells := 0, slots := 0, locals := 0 } : Room) s m #[(.int p1)] below meth c s₁ [] 0 0 := Stand.of_body Bd
  have e0 : s₁.heap = h0 := by rw [← hh, Bd.state]; rfl
  have N0 := Fr.nil n0
  refine own_go (own_lift (fun t k => castTop (ef_rmKind3 m p1) k) ?_)
  show own_Go p.tables e below (s₁.setTop (mkF m 0 #[iv p1] [])) _
  have sg1 : ∀ t, Steps p.tables e below (s₁.setTop (mkF m 31 #[iv p1] [])) t → Steps p.tables e below (s₁.setTop (mkF m 0 #[iv p1] [])) t := by
    intro t k
    refine XS.iloadN X0.here hx rfl (hb hby d1_0) rfl ?_
    show Steps p.tables e below (s₁.setTop (mkF m 1 #[iv p1] [(.int p1)])) _
    refine XS.ifYes X0.here hx rfl (pc0 := 1) (pc' := 8) rfl (hb hby d1_1) rfl ((if0 _ _).trans (feq c0).2) (by decide) (by decide) ?_
    show Steps p.tables e below (s₁.setTop (mkF m 8 #[iv p1] [])) _
    refine XS.iloadN X0.here hx rfl (hb hby d1_8) rfl ?_
    show Steps p.tables e below (s₁.setTop (mkF m 9 #[iv p1] [(.int p1)])) _
    refine XS.iconst X0.here hx rfl (hb hby d1_9) ?_
    show Steps p.tables e below (s₁.setTop (mkF m 10 #[iv p1] [(.int 1), (.int p1)])) _
    refine XS.icmpYes X0.here hx rfl (pc0 := 10) (pc' := 17) rfl (hb hby d1_10) rfl (feq c1).2 (by decide) (by decide) ?_
    show Steps p.tables e below (s₁.setTop (mkF m 17 #[iv p1] [])) _
    refine XS.iloadN X0.here hx rfl (hb hby d1_17) rfl ?_
    show Steps p.tables e below (s₁.setTop (mkF m 18 #[iv p1] [(.int p1)])) _
    refine XS.iconst X0.here hx rfl (hb hby d1_18) ?_
    show Steps p.tables e below (s₁.setTop (mkF m 19 #[iv p1] [(.int 2), (.int p1)])) _
    refine XS.icmpYes X0.here hx rfl (pc0 := 19) (pc' := 26) rfl (hb hby d1_19) rfl (feq c2).2 (by decide) (by decide) ?_
    show Steps p.tables e below (s₁.setTop (mkF m 26 #[iv p1] [])) _
    refine XS.iloadN X0.here hx rfl (hb hby d1_26) rfl ?_
    show Steps p.tables e below (s₁.setTop (mkF m 27 #[iv p1] [(.int p1)])) _
    refine XS.iconst X0.here hx rfl (hb hby d1_27) ?_
    show Steps p.tables e below (s₁.setTop (mkF m 28 #[iv p1] [(.int 3), (.int p1)])) _
    refine XS.icmpNo X0.here hx rfl (hb hby d1_28) rfl (teq c3).2 ?_
    show Steps p.tables e below (s₁.setTop (mkF m 31 #[iv p1] [])) _
    exact k
  refine own_lift sg1 ?_
  show own_Go p.tables e below (s₁.setTop (mkF m 31 #[iv p1] [])) _
  obtain ⟨T2, X2, e2, st2⟩ := getS X0 hx hZ hown (host := "") (wd hw 59 rfl) Via.refl e0 S_ALL_SHORTEST (g := (mkF m 31 #[iv p1] [])) rfl (hb hby d1_31)
  refine own_lift st2 ?_
  show own_Go p.tables e below (T2.setTop (mkF m 34 #[iv p1] [(.ref as_ALL_SHORTEST)])) _
  obtain ⟨fs, hr, hrun, hended, hW, hsame⟩ := X2.leave (v := some (.ref as_ALL_SHORTEST)) (fun h => by rw [Bd.returns] at h; cases h)
  refine ⟨_, _, ?_, hrun, hended, _, _, rfl, ?_, ⟨_, rfl⟩, hW, hsame.mono (by decide) (by decide)⟩
  · exact retOut X2 hx Bd.returns rfl (Or.inr (Or.inr (Or.inr (Or.inr ⟨rfl, rfl, rfl⟩)))) (hb hby d1_34) hr
  · show Q_rmKind Z p1 as_SHORTEST_PATH as_ALL_SHORTEST_PATHS as_ANY_SHORTEST as_ALL_SHORTEST as_ANY as_ALL as_SHORTEST as_SHORTEST_GROUPS h0 n0 _ T2.heap _
    rw [e2]
    exact ⟨(by rw [own_kind, if_neg c0, if_neg c1, if_neg c2, if_pos c3]), N0, rfl⟩
theorem d1_35 : decode method_2_code 35 = .ok (.iload_n 0, 1) := by decide +kernel
theorem d1_36 : decode method_2_code 36 = .ok (.iconst 4, 1) := by decide +kernel
theorem d1_37 : decode method_2_code 37 = .ok (.if_icmp .ne 7, 3) := by decide +kernel
theorem d1_40 : decode method_2_code 40 = .ok (.getstatic 22, 3) := by decide +kernel
theorem d1_43 : decode method_2_code 43 = .ok (.areturn, 1) := by decide +kernel
theorem ef_rmKind4 (m : MethodId) (x0 : Int32) : entryFrame m #[(.int x0)] 1 = mkF m 0 #[.val (.int x0)] [] := by first | (simp [entryFrame, mkF, argsToLocals, Value.category]; done) | rfl
set_option maxRecDepth 65536 in
set_option maxHeartbeats 40000000 in
theorem rmKind4 (l : Launch) (Z : State) (a0 : Array Value) (hw : ∀ d ∈ tables_1, d.before a0 Z = true) (ws : List Jvm.Cond) (p1 : Int32) (as_SHORTEST_PATH : Addr) (as_ALL_SHORTEST_PATHS : Addr) (as_ANY_SHORTEST : Addr) (as_ALL_SHORTEST : Addr) (as_ANY : Addr) (as_ALL : Addr) (as_SHORTEST : Addr) (as_SHORTEST_GROUPS : Addr) (h0 : Heap) (n0 : Nat) (Z0 : n0 ≤ h0.size) (S_SHORTEST_PATH : Sta Z h0 "com/example/allsome/allsome/cypher/PathPattern$Selector$Kind" "SHORTEST_PATH" "Lcom/example/allsome/allsome/cypher/PathPattern$Selector$Kind;" (.ref as_SHORTEST_PATH)) (S_ALL_SHORTEST_PATHS : Sta Z h0 "com/example/allsome/allsome/cypher/PathPattern$Selector$Kind" "ALL_SHORTEST_PATHS" "Lcom/example/allsome/allsome/cypher/PathPattern$Selector$Kind;" (.ref as_ALL_SHORTEST_PATHS)) (S_ANY_SHORTEST : Sta Z h0 "com/example/allsome/allsome/cypher/PathPattern$Selector$Kind" "ANY_SHORTEST" "Lcom/example/allsome/allsome/cypher/PathPattern$Selector$Kind;" (.ref as_ANY_SHORTEST)) (S_ALL_SHORTEST : Sta Z h0 "com/example/allsome/allsome/cypher/PathPattern$Selector$Kind" "ALL_SHORTEST" "Lcom/example/allsome/allsome/cypher/PathPattern$Selector$Kind;" (.ref as_ALL_SHORTEST)) (S_ANY : Sta Z h0 "com/example/allsome/allsome/cypher/PathPattern$Selector$Kind" "ANY" "Lcom/example/allsome/allsome/cypher/PathPattern$Selector$Kind;" (.ref as_ANY)) (S_ALL : Sta Z h0 "com/example/allsome/allsome/cypher/PathPattern$Selector$Kind" "ALL" "Lcom/example/allsome/allsome/cypher/PathPattern$Selector$Kind;" (.ref as_ALL)) (S_SHORTEST : Sta Z h0 "com/example/allsome/allsome/cypher/PathPattern$Selector$Kind" "SHORTEST" "Lcom/example/allsome/allsome/cypher/PathPattern$Selector$Kind;" (.ref as_SHORTEST)) (S_SHORTEST_GROUPS : Sta Z h0 "com/example/allsome/allsome/cypher/PathPattern$Selector$Kind" "SHORTEST_GROUPS" "Lcom/example/allsome/allsome/cypher/PathPattern$Selector$Kind;" (.ref as_SHORTEST_GROUPS)) (c0 : ¬ (p1 = (0 : Int32))) (c1 : ¬ (p1 = (1 : Int32))) (c2 : ¬ (p1 = (2 : Int32))) (c3 : ¬ (p1 = (3 : Int32))) (c4 : p1 = (4 : Int32)) :
    MetFree l (⟨"com/example/allsome/allsome/cypher/SelectorEqualsPinLaw", "kind", "(I)Lcom/example/allsome/allsome/cypher/PathPattern$Selector$Kind;"⟩ : MethodName) (head1 (Jvm.Cond.code (⟨"com/example/allsome/allsome/cypher/SelectorEqualsPinLaw", "kind", "(I)Lcom/example/allsome/allsome/cypher/PathPattern$Selector$Kind;"⟩ : MethodName) method_2_code 1 (some (.object "com/example/allsome/allsome/cypher/PathPattern$Selector$Kind")) :: ws) ({ frames := 0, cells := 0, slots := 0, locals := 0 } : Room)) (fun a U => a = #[(.int p1)] ∧ Z.Warmed39 U.vm ∧ U.heap = h0) (fun _ _ _ _ _ => True) (fun _ U o U' => ∃ v L, o = .returned v ∧ Q_rmKind Z p1 as_SHORTEST_PATH as_ALL_SHORTEST_PATHS as_ANY_SHORTEST as_ALL_SHORTEST as_ANY as_ALL as_SHORTEST as_SHORTEST_GROUPS h0 n0 v U'.heap L ∧ FrameEnd U o U' L ({ frames := 0, cells := 0, slots := 0, locals := 0 } : Room).cells ({ frames := 0, cells := 0, slots := 0, locals := 0 } : Room).slots) := by
  refine MetFree.of_bodySF (plainFor_of_name pn_0) hisR ?_
  intro p e s m args below meth c s₁ Bd hml0 hP hK
  obtain ⟨rfl, hZ, hh⟩ := hP
  have hx := Bd.exec
  have hby := Bd.bytes
  have hml : c.maxLocals = 1 := hml0
  have hown : s.vm.findClass "com/example/allsome/allsome/cypher/SelectorEqualsPinLaw" = some m.cls := findClass_of_methodNamed Bd.named
  have hnm := (name_of_methodNamed Bd.named Bd.method).1
  have X0 : Stand p l e ({ frames := 0, cells := 0, slots := 0, locals := 0 } : Room) s m #[(.int p1)] below meth c s₁ [] 0 0 := Stand.of_body Bd
  have e0 : s₁.heap = h0 := by rw [← hh, Bd.state]; rfl
  have N0 := Fr.nil n0
  refine own_go (own_lift (fun t k => castTop (ef_rmKind4 m p1) k) ?_)
  show own_Go p.tables e below (s₁.setTop (mkF m 0 #[iv p1] [])) _
  have sg1 : ∀ t, Steps p.tables e below (s₁.setTop (mkF m 40 #[iv p1] [])) t → Steps p.tables e below (s₁.setTop (mkF m 0 #[iv p1] [])) t := by
    intro t k
    refine XS.iloadN X0.here hx rfl (hb hby d1_0) rfl ?_
    show Steps p.tables e below (s₁.setTop (mkF m 1 #[iv p1] [(.int p1)])) _
    refine XS.ifYes X0.here hx rfl (pc0 := 1) (pc' := 8) rfl (hb hby d1_1) rfl ((if0 _ _).trans (feq c0).2) (by decide) (by decide) ?_
    show Steps p.tables e below (s₁.setTop (mkF m 8 #[iv p1] [])) _
    refine XS.iloadN X0.here hx rfl (hb hby d1_8) rfl ?_
    show Steps p.tables e below (s₁.setTop (mkF m 9 #[iv p1] [(.int p1)])) _
    refine XS.iconst X0.here hx rfl (hb hby d1_9) ?_
    show Steps p.tables e below (s₁.setTop (mkF m 10 #[iv p1] [(.int 1), (.int p1)])) _
    refine XS.icmpYes X0.here hx rfl (pc0 := 10) (pc' := 17) rfl (hb hby d1_10) rfl (feq c1).2 (by decide) (by decide) ?_
    show Steps p.tables e below (s₁.setTop (mkF m 17 #[iv p1] [])) _
    refine XS.iloadN X0.here hx rfl (hb hby d1_17) rfl ?_
    show Steps p.tables e below (s₁.setTop (mkF m 18 #[iv p1] [(.int p1)])) _
    refine XS.iconst X0.here hx rfl (hb hby d1_18) ?_
    show Steps p.tables e below (s₁.setTop (mkF m 19 #[iv p1] [(.int 2), (.int p1)])) _
    refine XS.icmpYes X0.here hx rfl (pc0 := 19) (pc' := 26) rfl (hb hby d1_19) rfl (feq c2).2 (by decide) (by decide) ?_
    show Steps p.tables e below (s₁.setTop (mkF m 26 #[iv p1] [])) _
    refine XS.iloadN X0.here hx rfl (hb hby d1_26) rfl ?_
    show Steps p.tables e below (s₁.setTop (mkF m 27 #[iv p1] [(.int p1)])) _
    refine XS.iconst X0.here hx rfl (hb hby d1_27) ?_
    show Steps p.tables e below (s₁.setTop (mkF m 28 #[iv p1] [(.int 3), (.int p1)])) _
    refine XS.icmpYes X0.here hx rfl (pc0 := 28) (pc' := 35) rfl (hb hby d1_28) rfl (feq c3).2 (by decide) (by decide) ?_
    show Steps p.tables e below (s₁.setTop (mkF m 35 #[iv p1] [])) _
    refine XS.iloadN X0.here hx rfl (hb hby d1_35) rfl ?_
    show Steps p.tables e below (s₁.setTop (mkF m 36 #[iv p1] [(.int p1)])) _
    refine XS.iconst X0.here hx rfl (hb hby d1_36) ?_
    show Steps p.tables e below (s₁.setTop (mkF m 37 #[iv p1] [(.int 4), (.int p1)])) _
    refine XS.icmpNo X0.here hx rfl (hb hby d1_37) rfl (teq c4).2 ?_
    show Steps p.tables e below (s₁.setTop (mkF m 40 #[iv p1] [])) _
    exact k
  refine own_lift sg1 ?_
  show own_Go p.tables e below (s₁.setTop (mkF m 40 #[iv p1] [])) _
  obtain ⟨T2, X2, e2, st2⟩ := getS X0 hx hZ hown (host := "") (wd hw 61 rfl) Via.refl e0 S_ANY (g := (mkF m 40 #[iv p1] [])) rfl (hb hby d1_40)
  refine own_lift st2 ?_
  show own_Go p.tables e below (T2.setTop (mkF m 43 #[iv p1] [(.ref as_ANY)])) _
  obtain ⟨fs, hr, hrun, hended, hW, hsame⟩ := X2.leave (v := some (.ref as_ANY)) (fun h => by rw [Bd.returns] at h; cases h)
  refine ⟨_, _, ?_, hrun, hended, _, _, rfl, ?_, ⟨_, rfl⟩, hW, hsame.mono (by decide) (by decide)⟩
  · exact retOut X2 hx Bd.returns rfl (Or.inr (Or.inr (Or.inr (Or.inr ⟨rfl, rfl, rfl⟩)))) (hb hby d1_43) hr
  · show Q_rmKind Z p1 as_SHORTEST_PATH as_ALL_SHORTEST_PATHS as_ANY_SHORTEST as_ALL_SHORTEST as_ANY as_ALL as_SHORTEST as_SHORTEST_GROUPS h0 n0 _ T2.heap _
    rw [e2]
    exact ⟨(by rw [own_kind, if_neg c0, if_neg c1, if_neg c2, if_neg c3, if_pos c4]), N0, rfl⟩
theorem d1_44 : decode method_2_code 44 = .ok (.iload_n 0, 1) := by decide +kernel
theorem d1_45 : decode method_2_code 45 = .ok (.iconst 5, 1) := by decide +kernel
theorem d1_46 : decode method_2_code 46 = .ok (.if_icmp .ne 7, 3) := by decide +kernel
theorem d1_49 : decode method_2_code 49 = .ok (.getstatic 25, 3) := by decide +kernel
theorem d1_52 : decode method_2_code 52 = .ok (.areturn, 1) := by decide +kernel
theorem ef_rmKind5 (m : MethodId) (x0 : Int32) : entryFrame m #[(.int x0)] 1 = mkF m 0 #[.val (.int x0)] [] := by first | (simp [entryFrame, mkF, argsToLocals, Value.category]; done) | rfl
set_option maxRecDepth 65536 in
set_option maxHeartbeats 40000000 in
theorem rmKind5 (l : Launch) (Z : State) (a0 : Array Value) (hw : ∀ d ∈ tables_1, d.before a0 Z = true) (ws : List Jvm.Cond) (p1 : Int32) (as_SHORTEST_PATH : Addr) (as_ALL_SHORTEST_PATHS : Addr) (as_ANY_SHORTEST : Addr) (as_ALL_SHORTEST : Addr) (as_ANY : Addr) (as_ALL : Addr) (as_SHORTEST : Addr) (as_SHORTEST_GROUPS : Addr) (h0 : Heap) (n0 : Nat) (Z0 : n0 ≤ h0.size) (S_SHORTEST_PATH : Sta Z h0 "com/example/allsome/allsome/cypher/PathPattern$Selector$Kind" "SHORTEST_PATH" "Lcom/example/allsome/allsome/cypher/PathPattern$Selector$Kind;" (.ref as_SHORTEST_PATH)) (S_ALL_SHORTEST_PATHS : Sta Z h0 "com/example/allsome/allsome/cypher/PathPattern$Selector$Kind" "ALL_SHORTEST_PATHS" "Lcom/example/allsome/allsome/cypher/PathPattern$Selector$Kind;" (.ref as_ALL_SHORTEST_PATHS)) (S_ANY_SHORTEST : Sta Z h0 "com/example/allsome/allsome/cypher/PathPattern$Selector$Kind" "ANY_SHORTEST" "Lcom/example/allsome/allsome/cypher/PathPattern$Selector$Kind;" (.ref as_ANY_SHORTEST)) (S_ALL_SHORTEST : Sta Z h0 "com/example/allsome/allsome/cypher/PathPattern$Selector$Kind" "ALL_SHORTEST" "Lcom/example/allsome/allsome/cypher/PathPattern$Selector$Kind;" (.ref as_ALL_SHORTEST)) (S_ANY : Sta Z h0 "com/example/allsome/allsome/cypher/PathPattern$Selector$Kind" "ANY" "Lcom/example/allsome/allsome/cypher/PathPattern$Selector$Kind;" (.ref as_ANY)) (S_ALL : Sta Z h0 "com/example/allsome/allsome/cypher/PathPattern$Selector$Kind" "ALL" "Lcom/example/allsome/allsome/cypher/PathPattern$Selector$Kind;" (.ref as_ALL)) (S_SHORTEST : Sta Z h0 "com/example/allsome/allsome/cypher/PathPattern$Selector$Kind" "SHORTEST" "Lcom/example/allsome/allsome/cypher/PathPattern$Selector$Kind;" (.ref as_SHORTEST)) (S_SHORTEST_GROUPS : Sta Z h0 "com/example/allsome/allsome/cypher/PathPattern$Selector$Kind" "SHORTEST_GROUPS" "Lcom/example/allsome/allsome/cypher/PathPattern$Selector$Kind;" (.ref as_SHORTEST_GROUPS)) (c0 : ¬ (p1 = (0 : Int32))) (c1 : ¬ (p1 = (1 : Int32))) (c2 : ¬ (p1 = (2 : Int32))) (c3 : ¬ (p1 = (3 : Int32))) (c4 : ¬ (p1 = (4 : Int32))) (c5 : p1 = (5 : Int32)) :
    MetFree l (⟨"com/example/allsome/allsome/cypher/SelectorEqualsPinLaw", "kind", "(I)Lcom/example/allsome/allsome/cypher/PathPattern$Selector$Kind;"⟩ : MethodName) (head1 (Jvm.Cond.code (⟨"com/example/allsome/allsome/cypher/SelectorEqualsPinLaw", "kind", "(I)Lcom/example/allsome/allsome/cypher/PathPattern$Selector$Kind;"⟩ : MethodName) method_2_code 1 (some (.object "com/example/allsome/allsome/cypher/PathPattern$Selector$Kind")) :: ws) ({ frames := 0, cells := 0, slots := 0, locals := 0 } : Room)) (fun a U => a = #[(.int p1)] ∧ Z.Warmed39 U.vm ∧ U.heap = h0) (fun _ _ _ _ _ => True) (fun _ U o U' => ∃ v L, o = .returned v ∧ Q_rmKind Z p1 as_SHORTEST_PATH as_ALL_SHORTEST_PATHS as_ANY_SHORTEST as_ALL_SHORTEST as_ANY as_ALL as_SHORTEST as_SHORTEST_GROUPS h0 n0 v U'.heap L ∧ FrameEnd U o U' L ({ frames := 0, cells := 0, slots := 0, locals := 0 } : Room).cells ({ frames := 0, cells := 0, slots := 0, locals := 0 } : Room).slots) := by
  refine MetFree.of_bodySF (plainFor_of_name pn_0) hisR ?_
  intro p e s m args below meth c s₁ Bd hml0 hP hK
  obtain ⟨rfl, hZ, hh⟩ := hP
  have hx := Bd.exec
  have hby := Bd.bytes
  have hml : c.maxLocals = 1 := hml0
  have hown : s.vm.findClass "com/example/allsome/allsome/cypher/SelectorEqualsPinLaw" = some m.cls := findClass_of_methodNamed Bd.named
  have hnm := (name_of_methodNamed Bd.named Bd.method).1
  have X0 : Stand p l e ({ frames := 0, cells := 0, slots := 0, locals := 0 } : Room) s m #[(.int p1)] below meth c s₁ [] 0 0 := Stand.of_body Bd
  have e0 : s₁.heap = h0 := by rw [← hh, Bd.state]; rfl
  have N0 := Fr.nil n0
  refine own_go (own_lift (fun t k => castTop (ef_rmKind5 m p1) k) ?_)
  show own_Go p.tables e below (s₁.setTop (mkF m 0 #[iv p1] [])) _
  have sg1 : ∀ t, Steps p.tables e below (s₁.setTop (mkF m 49 #[iv p1] [])) t → Steps p.tables e below (s₁.setTop (mkF m 0 #[iv p1] [])) t := by
    intro t k
    refine XS.iloadN X0.here hx rfl (hb hby d1_0) rfl ?_
    show Steps p.tables e below (s₁.setTop (mkF m 1 #[iv p1] [(.int p1)])) _
    refine XS.ifYes X0.here hx rfl (pc0 := 1) (pc' := 8) rfl (hb hby d1_1) rfl ((if0 _ _).trans (feq c0).2) (by decide) (by decide) ?_
    show Steps p.tables e below (s₁.setTop (mkF m 8 #[iv p1] [])) _
    refine XS.iloadN X0.here hx rfl (hb hby d1_8) rfl ?_
    show Steps p.tables e below (s₁.setTop (mkF m 9 #[iv p1] [(.int p1)])) _
    refine XS.iconst X0.here hx rfl (hb hby d1_9) ?_
    show Steps p.tables e below (s₁.setTop (mkF m 10 #[iv p1] [(.int 1), (.int p1)])) _
    refine XS.icmpYes X0.here hx rfl (pc0 := 10) (pc' := 17) rfl (hb hby d1_10) rfl (feq c1).2 (by decide) (by decide) ?_
    show Steps p.tables e below (s₁.setTop (mkF m 17 #[iv p1] [])) _
    refine XS.iloadN X0.here hx rfl (hb hby d1_17) rfl ?_
    show Steps p.tables e below (s₁.setTop (mkF m 18 #[iv p1] [(.int p1)])) _
    refine XS.iconst X0.here hx rfl (hb hby d1_18) ?_
    show Steps p.tables e below (s₁.setTop (mkF m 19 #[iv p1] [(.int 2), (.int p1)])) _
    refine XS.icmpYes X0.here hx rfl (pc0 := 19) (pc' := 26) rfl (hb hby d1_19) rfl (feq c2).2 (by decide) (by decide) ?_
    show Steps p.tables e below (s₁.setTop (mkF m 26 #[iv p1] [])) _
    refine XS.iloadN X0.here hx rfl (hb hby d1_26) rfl ?_
    show Steps p.tables e below (s₁.setTop (mkF m 27 #[iv p1] [(.int p1)])) _
    refine XS.iconst X0.here hx rfl (hb hby d1_27) ?_
    show Steps p.tables e below (s₁.setTop (mkF m 28 #[iv p1] [(.int 3), (.int p1)])) _
    refine XS.icmpYes X0.here hx rfl (pc0 := 28) (pc' := 35) rfl (hb hby d1_28) rfl (feq c3).2 (by decide) (by decide) ?_
    show Steps p.tables e below (s₁.setTop (mkF m 35 #[iv p1] [])) _
    refine XS.iloadN X0.here hx rfl (hb hby d1_35) rfl ?_
    show Steps p.tables e below (s₁.setTop (mkF m 36 #[iv p1] [(.int p1)])) _
    refine XS.iconst X0.here hx rfl (hb hby d1_36) ?_
    show Steps p.tables e below (s₁.setTop (mkF m 37 #[iv p1] [(.int 4), (.int p1)])) _
    refine XS.icmpYes X0.here hx rfl (pc0 := 37) (pc' := 44) rfl (hb hby d1_37) rfl (feq c4).2 (by decide) (by decide) ?_
    show Steps p.tables e below (s₁.setTop (mkF m 44 #[iv p1] [])) _
    refine XS.iloadN X0.here hx rfl (hb hby d1_44) rfl ?_
    show Steps p.tables e below (s₁.setTop (mkF m 45 #[iv p1] [(.int p1)])) _
    refine XS.iconst X0.here hx rfl (hb hby d1_45) ?_
    show Steps p.tables e below (s₁.setTop (mkF m 46 #[iv p1] [(.int 5), (.int p1)])) _
    refine XS.icmpNo X0.here hx rfl (hb hby d1_46) rfl (teq c5).2 ?_
    show Steps p.tables e below (s₁.setTop (mkF m 49 #[iv p1] [])) _
    exact k
  refine own_lift sg1 ?_
  show own_Go p.tables e below (s₁.setTop (mkF m 49 #[iv p1] [])) _
  obtain ⟨T2, X2, e2, st2⟩ := getS X0 hx hZ hown (host := "") (wd hw 65 rfl) Via.refl e0 S_ALL (g := (mkF m 49 #[iv p1] [])) rfl (hb hby d1_49)
  refine own_lift st2 ?_
  show own_Go p.tables e below (T2.setTop (mkF m 52 #[iv p1] [(.ref as_ALL)])) _
  obtain ⟨fs, hr, hrun, hended, hW, hsame⟩ := X2.leave (v := some (.ref as_ALL)) (fun h => by rw [Bd.returns] at h; cases h)
  refine ⟨_, _, ?_, hrun, hended, _, _, rfl, ?_, ⟨_, rfl⟩, hW, hsame.mono (by decide) (by decide)⟩
  · exact retOut X2 hx Bd.returns rfl (Or.inr (Or.inr (Or.inr (Or.inr ⟨rfl, rfl, rfl⟩)))) (hb hby d1_52) hr
  · show Q_rmKind Z p1 as_SHORTEST_PATH as_ALL_SHORTEST_PATHS as_ANY_SHORTEST as_ALL_SHORTEST as_ANY as_ALL as_SHORTEST as_SHORTEST_GROUPS h0 n0 _ T2.heap _
    rw [e2]
    exact ⟨(by rw [own_kind, if_neg c0, if_neg c1, if_neg c2, if_neg c3, if_neg c4, if_pos c5]), N0, rfl⟩
theorem d1_53 : decode method_2_code 53 = .ok (.iload_n 0, 1) := by decide +kernel
theorem d1_54 : decode method_2_code 54 = .ok (.bipush 6, 2) := by decide +kernel
theorem d1_56 : decode method_2_code 56 = .ok (.if_icmp .ne 7, 3) := by decide +kernel
theorem d1_59 : decode method_2_code 59 = .ok (.getstatic 28, 3) := by decide +kernel
theorem d1_62 : decode method_2_code 62 = .ok (.areturn, 1) := by decide +kernel
theorem ef_rmKind6 (m : MethodId) (x0 : Int32) : entryFrame m #[(.int x0)] 1 = mkF m 0 #[.val (.int x0)] [] := by first | (simp [entryFrame, mkF, argsToLocals, Value.category]; done) | rfl
set_option maxRecDepth 65536 in
set_option maxHeartbeats 40000000 in
theorem rmKind6 (l : Launch) (Z : State) (a0 : Array Value) (hw : ∀ d ∈ tables_1, d.before a0 Z = true) (ws : List Jvm.Cond) (p1 : Int32) (as_SHORTEST_PATH : Addr) (as_ALL_SHORTEST_PATHS : Addr) (as_ANY_SHORTEST : Addr) (as_ALL_SHORTEST : Addr) (as_ANY : Addr) (as_ALL : Addr) (as_SHORTEST : Addr) (as_SHORTEST_GROUPS : Addr) (h0 : Heap) (n0 : Nat) (Z0 : n0 ≤ h0.size) (S_SHORTEST_PATH : Sta Z h0 "com/example/allsome/allsome/cypher/PathPattern$Selector$Kind" "SHORTEST_PATH" "Lcom/example/allsome/allsome/cypher/PathPattern$Selector$Kind;" (.ref as_SHORTEST_PATH)) (S_ALL_SHORTEST_PATHS : Sta Z h0 "com/example/allsome/allsome/cypher/PathPattern$Selector$Kind" "ALL_SHORTEST_PATHS" "Lcom/example/allsome/allsome/cypher/PathPattern$Selector$Kind;" (.ref as_ALL_SHORTEST_PATHS)) (S_ANY_SHORTEST : Sta Z h0 "com/example/allsome/allsome/cypher/PathPattern$Selector$Kind" "ANY_SHORTEST" "Lcom/example/allsome/allsome/cypher/PathPattern$Selector$Kind;" (.ref as_ANY_SHORTEST)) (S_ALL_SHORTEST : Sta Z h0 "com/example/allsome/allsome/cypher/PathPattern$Selector$Kind" "ALL_SHORTEST" "Lcom/example/allsome/allsome/cypher/PathPattern$Selector$Kind;" (.ref as_ALL_SHORTEST)) (S_ANY : Sta Z h0 "com/example/allsome/allsome/cypher/PathPattern$Selector$Kind" "ANY" "Lcom/example/allsome/allsome/cypher/PathPattern$Selector$Kind;" (.ref as_ANY)) (S_ALL : Sta Z h0 "com/example/allsome/allsome/cypher/PathPattern$Selector$Kind" "ALL" "Lcom/example/allsome/allsome/cypher/PathPattern$Selector$Kind;" (.ref as_ALL)) (S_SHORTEST : Sta Z h0 "com/example/allsome/allsome/cypher/PathPattern$Selector$Kind" "SHORTEST" "Lcom/example/allsome/allsome/cypher/PathPattern$Selector$Kind;" (.ref as_SHORTEST)) (S_SHORTEST_GROUPS : Sta Z h0 "com/example/allsome/allsome/cypher/PathPattern$Selector$Kind" "SHORTEST_GROUPS" "Lcom/example/allsome/allsome/cypher/PathPattern$Selector$Kind;" (.ref as_SHORTEST_GROUPS)) (c0 : ¬ (p1 = (0 : Int32))) (c1 : ¬ (p1 = (1 : Int32))) (c2 : ¬ (p1 = (2 : Int32))) (c3 : ¬ (p1 = (3 : Int32))) (c4 : ¬ (p1 = (4 : Int32))) (c5 : ¬ (p1 = (5 : Int32))) (c6 : p1 = (6 : Int32)) :
    MetFree l (⟨"com/example/allsome/allsome/cypher/SelectorEqualsPinLaw", "kind", "(I)Lcom/example/allsome/allsome/cypher/PathPattern$Selector$Kind;"⟩ : MethodName) (head1 (Jvm.Cond.code (⟨"com/example/allsome/allsome/cypher/SelectorEqualsPinLaw", "kind", "(I)Lcom/example/allsome/allsome/cypher/PathPattern$Selector$Kind;"⟩ : MethodName) method_2_code 1 (some (.object "com/example/allsome/allsome/cypher/PathPattern$Selector$Kind")) :: ws) ({ frames := 0, cells := 0, slots := 0, locals := 0 } : Room)) (fun a U => a = #[(.int p1)] ∧ Z.Warmed39 U.vm ∧ U.heap = h0) (fun _ _ _ _ _ => True) (fun _ U o U' => ∃ v L, o = .returned v ∧ Q_rmKind Z p1 as_SHORTEST_PATH as_ALL_SHORTEST_PATHS as_ANY_SHORTEST as_ALL_SHORTEST as_ANY as_ALL as_SHORTEST as_SHORTEST_GROUPS h0 n0 v U'.heap L ∧ FrameEnd U o U' L ({ frames := 0, cells := 0, slots := 0, locals := 0 } : Room).cells ({ frames := 0, cells := 0, slots := 0, locals := 0 } : Room).slots) := by
  refine MetFree.of_bodySF (plainFor_of_name pn_0) hisR ?_
  intro p e s m args below meth c s₁ Bd hml0 hP hK
  obtain ⟨rfl, hZ, hh⟩ := hP
  have hx := Bd.exec
  have hby := Bd.bytes
  have hml : c.maxLocals = 1 := hml0
  have hown : s.vm.findClass "com/example/allsome/allsome/cypher/SelectorEqualsPinLaw" = some m.cls := findClass_of_methodNamed Bd.named
  have hnm := (name_of_methodNamed Bd.named Bd.method).1
  have X0 : Stand p l e ({ frames := 0, cells := 0, slots := 0, locals := 0 } : Room) s m #[(.int p1)] below meth c s₁ [] 0 0 := Stand.of_body Bd
  have e0 : s₁.heap = h0 := by rw [← hh, Bd.state]; rfl
  have N0 := Fr.nil n0
  refine own_go (own_lift (fun t k => castTop (ef_rmKind6 m p1) k) ?_)
  show own_Go p.tables e below (s₁.setTop (mkF m 0 #[iv p1] [])) _
  have sg1 : ∀ t, Steps p.tables e below (s₁.setTop (mkF m 59 #[iv p1] [])) t → Steps p.tables e below (s₁.setTop (mkF m 0 #[iv p1] [])) t := by
    intro t k
    refine XS.iloadN X0.here hx rfl (hb hby d1_0) rfl ?_
    show Steps p.tables e below (s₁.setTop (mkF m 1 #[iv p1] [(.int p1)])) _
    refine XS.ifYes X0.here hx rfl (pc0 := 1) (pc' := 8) rfl (hb hby d1_1) rfl ((if0 _ _).trans (feq c0).2) (by decide) (by decide) ?_
    show Steps p.tables e below (s₁.setTop (mkF m 8 #[iv p1] [])) _
    refine XS.iloadN X0.here hx rfl (hb hby d1_8) rfl ?_
    show Steps p.tables e below (s₁.setTop (mkF m 9 #[iv p1] [(.int p1)])) _
    refine XS.iconst X0.here hx rfl (hb hby d1_9) ?_
    show Steps p.tables e below (s₁.setTop (mkF m 10 #[iv p1] [(.int 1), (.int p1)])) _
    refine XS.icmpYes X0.here hx rfl (pc0 := 10) (pc' := 17) rfl (hb hby d1_10) rfl (feq c1).2 (by decide) (by decide) ?_
    show Steps p.tables e below (s₁.setTop (mkF m 17 #[iv p1] [])) _
    refine XS.iloadN X0.here hx rfl (hb hby d1_17) rfl ?_
    show Steps p.tables e below (s₁.setTop (mkF m 18 #[iv p1] [(.int p1)])) _
    refine XS.iconst X0.here hx rfl (hb hby d1_18) ?_
    show Steps p.tables e below (s₁.setTop (mkF m 19 #[iv p1] [(.int 2), (.int p1)])) _
    refine XS.icmpYes X0.here hx rfl (pc0 := 19) (pc' := 26) rfl (hb hby d1_19) rfl (feq c2).2 (by decide) (by decide) ?_
    show Steps p.tables e below (s₁.setTop (mkF m 26 #[iv p1] [])) _
    refine XS.iloadN X0.here hx rfl (hb hby d1_26) rfl ?_
    show Steps p.tables e below (s₁.setTop (mkF m 27 #[iv p1] [(.int p1)])) _
    refine XS.iconst X0.here hx rfl (hb hby d1_27) ?_
    show Steps p.tables e below (s₁.setTop (mkF m 28 #[iv p1] [(.int 3), (.int p1)])) _
    refine XS.icmpYes X0.here hx rfl (pc0 := 28) (pc' := 35) rfl (hb hby d1_28) rfl (feq c3).2 (by decide) (by decide) ?_
    show Steps p.tables e below (s₁.setTop (mkF m 35 #[iv p1] [])) _
    refine XS.iloadN X0.here hx rfl (hb hby d1_35) rfl ?_
    show Steps p.tables e below (s₁.setTop (mkF m 36 #[iv p1] [(.int p1)])) _
    refine XS.iconst X0.here hx rfl (hb hby d1_36) ?_
    show Steps p.tables e below (s₁.setTop (mkF m 37 #[iv p1] [(.int 4), (.int p1)])) _
    refine XS.icmpYes X0.here hx rfl (pc0 := 37) (pc' := 44) rfl (hb hby d1_37) rfl (feq c4).2 (by decide) (by decide) ?_
    show Steps p.tables e below (s₁.setTop (mkF m 44 #[iv p1] [])) _
    refine XS.iloadN X0.here hx rfl (hb hby d1_44) rfl ?_
    show Steps p.tables e below (s₁.setTop (mkF m 45 #[iv p1] [(.int p1)])) _
    refine XS.iconst X0.here hx rfl (hb hby d1_45) ?_
    show Steps p.tables e below (s₁.setTop (mkF m 46 #[iv p1] [(.int 5), (.int p1)])) _
    refine XS.icmpYes X0.here hx rfl (pc0 := 46) (pc' := 53) rfl (hb hby d1_46) rfl (feq c5).2 (by decide) (by decide) ?_
    show Steps p.tables e below (s₁.setTop (mkF m 53 #[iv p1] [])) _
    refine XS.iloadN X0.here hx rfl (hb hby d1_53) rfl ?_
    show Steps p.tables e below (s₁.setTop (mkF m 54 #[iv p1] [(.int p1)])) _
    refine XS.bipush X0.here hx rfl (hb hby d1_54) ?_
    show Steps p.tables e below (s₁.setTop (mkF m 56 #[iv p1] [(.int 6), (.int p1)])) _
    refine XS.icmpNo X0.here hx rfl (hb hby d1_56) rfl (teq c6).2 ?_
    show Steps p.tables e below (s₁.setTop (mkF m 59 #[iv p1] [])) _
    exact k
  refine own_lift sg1 ?_
  show own_Go p.tables e below (s₁.setTop (mkF m 59 #[iv p1] [])) _
  obtain ⟨T2, X2, e2, st2⟩ := getS X0 hx hZ hown (host := "") (wd hw 57 rfl) Via.refl e0 S_SHORTEST (g := (mkF m 59 #[iv p1] [])) rfl (hb hby d1_59)
  refine own_lift st2 ?_
  show own_Go p.tables e below (T2.setTop (mkF m 62 #[iv p1] [(.ref as_SHORTEST)])) _
  obtain ⟨fs, hr, hrun, hended, hW, hsame⟩ := X2.leave (v := some (.ref as_SHORTEST)) (fun h => by rw [Bd.returns] at h; cases h)
  refine ⟨_, _, ?_, hrun, hended, _, _, rfl, ?_, ⟨_, rfl⟩, hW, hsame.mono (by decide) (by decide)⟩
  · exact retOut X2 hx Bd.returns rfl (Or.inr (Or.inr (Or.inr (Or.inr ⟨rfl, rfl, rfl⟩)))) (hb hby d1_62) hr
  · show Q_rmKind Z p1 as_SHORTEST_PATH as_ALL_SHORTEST_PATHS as_ANY_SHORTEST as_ALL_SHORTEST as_ANY as_ALL as_SHORTEST as_SHORTEST_GROUPS h0 n0 _ T2.heap _
    rw [e2]
    exact ⟨(by rw [own_kind, if_neg c0, if_neg c1, if_neg c2, if_neg c3, if_neg c4, if_neg c5, if_pos c6]), N0, rfl⟩
theorem d1_63 : decode method_2_code 63 = .ok (.getstatic 31, 3) := by decide +kernel
theorem d1_66 : decode method_2_code 66 = .ok (.areturn, 1) := by decide +kernel
theorem ef_rmKind7 (m : MethodId) (x0 : Int32) : entryFrame m #[(.int x0)] 1 = mkF m 0 #[.val (.int x0)] [] := by first | (simp [entryFrame, mkF, argsToLocals, Value.category]; done) | rfl
set_option maxRecDepth 65536 in
set_option maxHeartbeats 40000000 in
theorem rmKind7 (l : Launch) (Z : State) (a0 : Array Value) (hw : ∀ d ∈ tables_1, d.before a0 Z = true) (ws : List Jvm.Cond) (p1 : Int32) (as_SHORTEST_PATH : Addr) (as_ALL_SHORTEST_PATHS : Addr) (as_ANY_SHORTEST : Addr) (as_ALL_SHORTEST : Addr) (as_ANY : Addr) (as_ALL : Addr) (as_SHORTEST : Addr) (as_SHORTEST_GROUPS : Addr) (h0 : Heap) (n0 : Nat) (Z0 : n0 ≤ h0.size) (S_SHORTEST_PATH : Sta Z h0 "com/example/allsome/allsome/cypher/PathPattern$Selector$Kind" "SHORTEST_PATH" "Lcom/example/allsome/allsome/cypher/PathPattern$Selector$Kind;" (.ref as_SHORTEST_PATH)) (S_ALL_SHORTEST_PATHS : Sta Z h0 "com/example/allsome/allsome/cypher/PathPattern$Selector$Kind" "ALL_SHORTEST_PATHS" "Lcom/example/allsome/allsome/cypher/PathPattern$Selector$Kind;" (.ref as_ALL_SHORTEST_PATHS)) (S_ANY_SHORTEST : Sta Z h0 "com/example/allsome/allsome/cypher/PathPattern$Selector$Kind" "ANY_SHORTEST" "Lcom/example/allsome/allsome/cypher/PathPattern$Selector$Kind;" (.ref as_ANY_SHORTEST)) (S_ALL_SHORTEST : Sta Z h0 "com/example/allsome/allsome/cypher/PathPattern$Selector$Kind" "ALL_SHORTEST" "Lcom/example/allsome/allsome/cypher/PathPattern$Selector$Kind;" (.ref as_ALL_SHORTEST)) (S_ANY : Sta Z h0 "com/example/allsome/allsome/cypher/PathPattern$Selector$Kind" "ANY" "Lcom/example/allsome/allsome/cypher/PathPattern$Selector$Kind;" (.ref as_ANY)) (S_ALL : Sta Z h0 "com/example/allsome/allsome/cypher/PathPattern$Selector$Kind" "ALL" "Lcom/example/allsome/allsome/cypher/PathPattern$Selector$Kind;" (.ref as_ALL)) (S_SHORTEST : Sta Z h0 "com/example/allsome/allsome/cypher/PathPattern$Selector$Kind" "SHORTEST" "Lcom/example/allsome/allsome/cypher/PathPattern$Selector$Kind;" (.ref as_SHORTEST)) (S_SHORTEST_GROUPS : Sta Z h0 "com/example/allsome/allsome/cypher/PathPattern$Selector$Kind" "SHORTEST_GROUPS" "Lcom/example/allsome/allsome/cypher/PathPattern$Selector$Kind;" (.ref as_SHORTEST_GROUPS)) (c0 : ¬ (p1 = (0 : Int32))) (c1 : ¬ (p1 = (1 : Int32))) (c2 : ¬ (p1 = (2 : Int32))) (c3 : ¬ (p1 = (3 : Int32))) (c4 : ¬ (p1 = (4 : Int32))) (c5 : ¬ (p1 = (5 : Int32))) (c6 : ¬ (p1 = (6 : Int32))) :
    MetFree l (⟨"com/example/allsome/allsome/cypher/SelectorEqualsPinLaw", "kind", "(I)Lcom/example/allsome/allsome/cypher/PathPattern$Selector$Kind;"⟩ : MethodName) (head1 (Jvm.Cond.code (⟨"com/example/allsome/allsome/cypher/SelectorEqualsPinLaw", "kind", "(I)Lcom/example/allsome/allsome/cypher/PathPattern$Selector$Kind;"⟩ : MethodName) method_2_code 1 (some (.object "com/example/allsome/allsome/cypher/PathPattern$Selector$Kind")) :: ws) ({ frames := 0, cells := 0, slots := 0, locals := 0 } : Room)) (fun a U => a = #[(.int p1)] ∧ Z.Warmed39 U.vm ∧ U.heap = h0) (fun _ _ _ _ _ => True) (fun _ U o U' => ∃ v L, o = .returned v ∧ Q_rmKind Z p1 as_SHORTEST_PATH as_ALL_SHORTEST_PATHS as_ANY_SHORTEST as_ALL_SHORTEST as_ANY as_ALL as_SHORTEST as_SHORTEST_GROUPS h0 n0 v U'.heap L ∧ FrameEnd U o U' L ({ frames := 0, cells := 0, slots := 0, locals := 0 } : Room).cells ({ frames := 0, cells := 0, slots := 0, locals := 0 } : Room).slots) := by
  refine MetFree.of_bodySF (plainFor_of_name pn_0) hisR ?_
  intro p e s m args below meth c s₁ Bd hml0 hP hK
  obtain ⟨rfl, hZ, hh⟩ := hP
  have hx := Bd.exec
  have hby := Bd.bytes
  have hml : c.maxLocals = 1 := hml0
  have hown : s.vm.findClass "com/example/allsome/allsome/cypher/SelectorEqualsPinLaw" = some m.cls := findClass_of_methodNamed Bd.named
  have hnm := (name_of_methodNamed Bd.named Bd.method).1
  have X0 : Stand p l e ({ frames := 0, cells := 0, slots := 0, locals := 0 } : Room) s m #[(.int p1)] below meth c s₁ [] 0 0 := Stand.of_body Bd
  have e0 : s₁.heap = h0 := by rw [← hh, Bd.state]; rfl
  have N0 := Fr.nil n0
  refine own_go (own_lift (fun t k => castTop (ef_rmKind7 m p1) k) ?_)
  show own_Go p.tables e below (s₁.setTop (mkF m 0 #[iv p1] [])) _
  have sg1 : ∀ t, Steps p.tables e below (s₁.setTop (mkF m 63 #[iv p1] [])) t → Steps p.tables e below (s₁.setTop (mkF m 0 #[iv p1] [])) t := by
    intro t k
    refine XS.iloadN X0.here hx rfl (hb hby d1_0) rfl ?_
    show Steps p.tables e below (s₁.setTop (mkF m 1 #[iv p1] [(.int p1)])) _
    refine XS.ifYes X0.here hx rfl (pc0 := 1) (pc' := 8) rfl (hb hby d1_1) rfl ((if0 _ _).trans (feq c0).2) (by decide) (by decide) ?_
    show Steps p.tables e below (s₁.setTop (mkF m 8 #[iv p1] [])) _
    refine XS.iloadN X0.here hx rfl (hb hby d1_8) rfl ?_
    show Steps p.tables e below (s₁.setTop (mkF m 9 #[iv p1] [(.int p1)])) _
    refine XS.iconst X0.here hx rfl (hb hby d1_9) ?_
    show Steps p.tables e below (s₁.setTop (mkF m 10 #[iv p1] [(.int 1), (.int p1)])) _
    refine XS.icmpYes X0.here hx rfl (pc0 := 10) (pc' := 17) rfl (hb hby d1_10) rfl (feq c1).2 (by decide) (by decide) ?_
    show Steps p.tables e below (s₁.setTop (mkF m 17 #[iv p1] [])) _
    refine XS.iloadN X0.here hx rfl (hb hby d1_17) rfl ?_
    show Steps p.tables e below (s₁.setTop (mkF m 18 #[iv p1] [(.int p1)])) _
    refine XS.iconst X0.here hx rfl (hb hby d1_18) ?_
    show Steps p.tables e below (s₁.setTop (mkF m 19 #[iv p1] [(.int 2), (.int p1)])) _
    refine XS.icmpYes X0.here hx rfl (pc0 := 19) (pc' := 26) rfl (hb hby d1_19) rfl (feq c2).2 (by decide) (by decide) ?_
    show Steps p.tables e below (s₁.setTop (mkF m 26 #[iv p1] [])) _
    refine XS.iloadN X0.here hx rfl (hb hby d1_26) rfl ?_
    show Steps p.tables e below (s₁.setTop (mkF m 27 #[iv p1] [(.int p1)])) _
    refine XS.iconst X0.here hx rfl (hb hby d1_27) ?_
    show Steps p.tables e below (s₁.setTop (mkF m 28 #[iv p1] [(.int 3), (.int p1)])) _
    refine XS.icmpYes X0.here hx rfl (pc0 := 28) (pc' := 35) rfl (hb hby d1_28) rfl (feq c3).2 (by decide) (by decide) ?_
    show Steps p.tables e below (s₁.setTop (mkF m 35 #[iv p1] [])) _
    refine XS.iloadN X0.here hx rfl (hb hby d1_35) rfl ?_
    show Steps p.tables e below (s₁.setTop (mkF m 36 #[iv p1] [(.int p1)])) _
    refine XS.iconst X0.here hx rfl (hb hby d1_36) ?_
    show Steps p.tables e below (s₁.setTop (mkF m 37 #[iv p1] [(.int 4), (.int p1)])) _
    refine XS.icmpYes X0.here hx rfl (pc0 := 37) (pc' := 44) rfl (hb hby d1_37) rfl (feq c4).2 (by decide) (by decide) ?_
    show Steps p.tables e below (s₁.setTop (mkF m 44 #[iv p1] [])) _
    refine XS.iloadN X0.here hx rfl (hb hby d1_44) rfl ?_
    show Steps p.tables e below (s₁.setTop (mkF m 45 #[iv p1] [(.int p1)])) _
    refine XS.iconst X0.here hx rfl (hb hby d1_45) ?_
    show Steps p.tables e below (s₁.setTop (mkF m 46 #[iv p1] [(.int 5), (.int p1)])) _
    refine XS.icmpYes X0.here hx rfl (pc0 := 46) (pc' := 53) rfl (hb hby d1_46) rfl (feq c5).2 (by decide) (by decide) ?_
    show Steps p.tables e below (s₁.setTop (mkF m 53 #[iv p1] [])) _
    refine XS.iloadN X0.here hx rfl (hb hby d1_53) rfl ?_
    show Steps p.tables e below (s₁.setTop (mkF m 54 #[iv p1] [(.int p1)])) _
    refine XS.bipush X0.here hx rfl (hb hby d1_54) ?_
    show Steps p.tables e below (s₁.setTop (mkF m 56 #[iv p1] [(.int 6), (.int p1)])) _
    refine XS.icmpYes X0.here hx rfl (pc0 := 56) (pc' := 63) rfl (hb hby d1_56) rfl (feq c6).2 (by decide) (by decide) ?_
    show Steps p.tables e below (s₁.setTop (mkF m 63 #[iv p1] [])) _
    exact k
  refine own_lift sg1 ?_
  show own_Go p.tables e below (s₁.setTop (mkF m 63 #[iv p1] [])) _
  obtain ⟨T2, X2, e2, st2⟩ := getS X0 hx hZ hown (host := "") (wd hw 37 rfl) Via.refl e0 S_SHORTEST_GROUPS (g := (mkF m 63 #[iv p1] [])) rfl (hb hby d1_63)
  refine own_lift st2 ?_
  show own_Go p.tables e below (T2.setTop (mkF m 66 #[iv p1] [(.ref as_SHORTEST_GROUPS)])) _
  obtain ⟨fs, hr, hrun, hended, hW, hsame⟩ := X2.leave (v := some (.ref as_SHORTEST_GROUPS)) (fun h => by rw [Bd.returns] at h; cases h)
  refine ⟨_, _, ?_, hrun, hended, _, _, rfl, ?_, ⟨_, rfl⟩, hW, hsame.mono (by decide) (by decide)⟩
  · exact retOut X2 hx Bd.returns rfl (Or.inr (Or.inr (Or.inr (Or.inr ⟨rfl, rfl, rfl⟩)))) (hb hby d1_66) hr
  · show Q_rmKind Z p1 as_SHORTEST_PATH as_ALL_SHORTEST_PATHS as_ANY_SHORTEST as_ALL_SHORTEST as_ANY as_ALL as_SHORTEST as_SHORTEST_GROUPS h0 n0 _ T2.heap _
    rw [e2]
    exact ⟨(by rw [own_kind, if_neg c0, if_neg c1, if_neg c2, if_neg c3, if_neg c4, if_neg c5, if_neg c6]), N0, rfl⟩
set_option maxRecDepth 65536 in
theorem rmKind (l : Launch) (Z : State) (a0 : Array Value) (hw : ∀ d ∈ tables_1, d.before a0 Z = true) (ws : List Jvm.Cond) (p1 : Int32) (as_SHORTEST_PATH : Addr) (as_ALL_SHORTEST_PATHS : Addr) (as_ANY_SHORTEST : Addr) (as_ALL_SHORTEST : Addr) (as_ANY : Addr) (as_ALL : Addr) (as_SHORTEST : Addr) (as_SHORTEST_GROUPS : Addr) (h0 : Heap) (n0 : Nat) (Z0 : n0 ≤ h0.size) (S_SHORTEST_PATH : Sta Z h0 "com/example/allsome/allsome/cypher/PathPattern$Selector$Kind" "SHORTEST_PATH" "Lcom/example/allsome/allsome/cypher/PathPattern$Selector$Kind;" (.ref as_SHORTEST_PATH)) (S_ALL_SHORTEST_PATHS : Sta Z h0 "com/example/allsome/allsome/cypher/PathPattern$Selector$Kind" "ALL_SHORTEST_PATHS" "Lcom/example/allsome/allsome/cypher/PathPattern$Selector$Kind;" (.ref as_ALL_SHORTEST_PATHS)) (S_ANY_SHORTEST : Sta Z h0 "com/example/allsome/allsome/cypher/PathPattern$Selector$Kind" "ANY_SHORTEST" "Lcom/example/allsome/allsome/cypher/PathPattern$Selector$Kind;" (.ref as_ANY_SHORTEST)) (S_ALL_SHORTEST : Sta Z h0 "com/example/allsome/allsome/cypher/PathPattern$Selector$Kind" "ALL_SHORTEST" "Lcom/example/allsome/allsome/cypher/PathPattern$Selector$Kind;" (.ref as_ALL_SHORTEST)) (S_ANY : Sta Z h0 "com/example/allsome/allsome/cypher/PathPattern$Selector$Kind" "ANY" "Lcom/example/allsome/allsome/cypher/PathPattern$Selector$Kind;" (.ref as_ANY)) (S_ALL : Sta Z h0 "com/example/allsome/allsome/cypher/PathPattern$Selector$Kind" "ALL" "Lcom/example/allsome/allsome/cypher/PathPattern$Selector$Kind;" (.ref as_ALL)) (S_SHORTEST : Sta Z h0 "com/example/allsome/allsome/cypher/PathPattern$Selector$Kind" "SHORTEST" "Lcom/example/allsome/allsome/cypher/PathPattern$Selector$Kind;" (.ref as_SHORTEST)) (S_SHORTEST_GROUPS : Sta Z h0 "com/example/allsome/allsome/cypher/PathPattern$Selector$Kind" "SHORTEST_GROUPS" "Lcom/example/allsome/allsome/cypher/PathPattern$Selector$Kind;" (.ref as_SHORTEST_GROUPS))  :
    MetFree l (⟨"com/example/allsome/allsome/cypher/SelectorEqualsPinLaw", "kind", "(I)Lcom/example/allsome/allsome/cypher/PathPattern$Selector$Kind;"⟩ : MethodName) (head1 (Jvm.Cond.code (⟨"com/example/allsome/allsome/cypher/SelectorEqualsPinLaw", "kind", "(I)Lcom/example/allsome/allsome/cypher/PathPattern$Selector$Kind;"⟩ : MethodName) method_2_code 1 (some (.object "com/example/allsome/allsome/cypher/PathPattern$Selector$Kind")) :: ws) ({ frames := 0, cells := 0, slots := 0, locals := 0 } : Room)) (fun a U => a = #[(.int p1)] ∧ Z.Warmed39 U.vm ∧ U.heap = h0) (fun _ _ _ _ _ => True) (fun _ U o U' => ∃ v L, o = .returned v ∧ Q_rmKind Z p1 as_SHORTEST_PATH as_ALL_SHORTEST_PATHS as_ANY_SHORTEST as_ALL_SHORTEST as_ANY as_ALL as_SHORTEST as_SHORTEST_GROUPS h0 n0 v U'.heap L ∧ FrameEnd U o U' L ({ frames := 0, cells := 0, slots := 0, locals := 0 } : Room).cells ({ frames := 0, cells := 0, slots := 0, locals := 0 } : Room).slots) := by
  by_cases c0 : p1 = (0 : Int32)
  · exact rmKind0 l Z a0 hw ws p1 as_SHORTEST_PATH as_ALL_SHORTEST_PATHS as_ANY_SHORTEST as_ALL_SHORTEST as_ANY as_ALL as_SHORTEST as_SHORTEST_GROUPS h0 n0 Z0 S_SHORTEST_PATH S_ALL_SHORTEST_PATHS S_ANY_SHORTEST S_ALL_SHORTEST S_ANY S_ALL S_SHORTEST S_SHORTEST_GROUPS c0
  · by_cases c1 : p1 = (1 : Int32)
    · exact rmKind1 l Z a0 hw ws p1 as_SHORTEST_PATH as_ALL_SHORTEST_PATHS as_ANY_SHORTEST as_ALL_SHORTEST as_ANY as_ALL as_SHORTEST as_SHORTEST_GROUPS h0 n0 Z0 S_SHORTEST_PATH S_ALL_SHORTEST_PATHS S_ANY_SHORTEST S_ALL_SHORTEST S_ANY S_ALL S_SHORTEST S_SHORTEST_GROUPS c0 c1
    · by_cases c2 : p1 = (2 : Int32)
      · exact rmKind2 l Z a0 hw ws p1 as_SHORTEST_PATH as_ALL_SHORTEST_PATHS as_ANY_SHORTEST as_ALL_SHORTEST as_ANY as_ALL as_SHORTEST as_SHORTEST_GROUPS h0 n0 Z0 S_SHORTEST_PATH S_ALL_SHORTEST_PATHS S_ANY_SHORTEST S_ALL_SHORTEST S_ANY S_ALL S_SHORTEST S_SHORTEST_GROUPS c0 c1 c2
      · by_cases c3 : p1 = (3 : Int32)
        · exact rmKind3 l Z a0 hw ws p1 as_SHORTEST_PATH as_ALL_SHORTEST_PATHS as_ANY_SHORTEST as_ALL_SHORTEST as_ANY as_ALL as_SHORTEST as_SHORTEST_GROUPS h0 n0 Z0 S_SHORTEST_PATH S_ALL_SHORTEST_PATHS S_ANY_SHORTEST S_ALL_SHORTEST S_ANY S_ALL S_SHORTEST S_SHORTEST_GROUPS c0 c1 c2 c3
        · by_cases c4 : p1 = (4 : Int32)
          · exact rmKind4 l Z a0 hw ws p1 as_SHORTEST_PATH as_ALL_SHORTEST_PATHS as_ANY_SHORTEST as_ALL_SHORTEST as_ANY as_ALL as_SHORTEST as_SHORTEST_GROUPS h0 n0 Z0 S_SHORTEST_PATH S_ALL_SHORTEST_PATHS S_ANY_SHORTEST S_ALL_SHORTEST S_ANY S_ALL S_SHORTEST S_SHORTEST_GROUPS c0 c1 c2 c3 c4
          · by_cases c5 : p1 = (5 : Int32)
            · exact rmKind5 l Z a0 hw ws p1 as_SHORTEST_PATH as_ALL_SHORTEST_PATHS as_ANY_SHORTEST as_ALL_SHORTEST as_ANY as_ALL as_SHORTEST as_SHORTEST_GROUPS h0 n0 Z0 S_SHORTEST_PATH S_ALL_SHORTEST_PATHS S_ANY_SHORTEST S_ALL_SHORTEST S_ANY S_ALL S_SHORTEST S_SHORTEST_GROUPS c0 c1 c2 c3 c4 c5
            · by_cases c6 : p1 = (6 : Int32)
              · exact rmKind6 l Z a0 hw ws p1 as_SHORTEST_PATH as_ALL_SHORTEST_PATHS as_ANY_SHORTEST as_ALL_SHORTEST as_ANY as_ALL as_SHORTEST as_SHORTEST_GROUPS h0 n0 Z0 S_SHORTEST_PATH S_ALL_SHORTEST_PATHS S_ANY_SHORTEST S_ALL_SHORTEST S_ANY S_ALL S_SHORTEST S_SHORTEST_GROUPS c0 c1 c2 c3 c4 c5 c6
              · exact rmKind7 l Z a0 hw ws p1 as_SHORTEST_PATH as_ALL_SHORTEST_PATHS as_ANY_SHORTEST as_ALL_SHORTEST as_ANY as_ALL as_SHORTEST as_SHORTEST_GROUPS h0 n0 Z0 S_SHORTEST_PATH S_ALL_SHORTEST_PATHS S_ANY_SHORTEST S_ALL_SHORTEST S_ANY S_ALL S_SHORTEST S_SHORTEST_GROUPS c0 c1 c2 c3 c4 c5 c6
theorem pn_1 : plainName "com/example/allsome/allsome/cypher/PathPattern$Selector" = true := by first | (simp [plainName, overriddenIn]; done) | decide +kernel
theorem d2_0 : decode prog_97_method_1_code 0 = .ok (.aload_n 0, 1) := by decide +kernel
theorem d2_1 : decode prog_97_method_1_code 1 = .ok (.invokespecial 1, 3) := by decide +kernel
theorem d2_4 : decode prog_97_method_1_code 4 = .ok (.aload_n 0, 1) := by decide +kernel
theorem d2_5 : decode prog_97_method_1_code 5 = .ok (.aload_n 1, 1) := by decide +kernel
theorem d2_6 : decode prog_97_method_1_code 6 = .ok (.putfield 7, 3) := by decide +kernel
theorem d2_9 : decode prog_97_method_1_code 9 = .ok (.aload_n 0, 1) := by decide +kernel
theorem d2_10 : decode prog_97_method_1_code 10 = .ok (.lload_n 2, 1) := by decide +kernel
theorem d2_11 : decode prog_97_method_1_code 11 = .ok (.putfield 13, 3) := by decide +kernel
theorem d2_14 : decode prog_97_method_1_code 14 = .ok (.return_, 1) := by decide +kernel
def Q_rmInit (Z : State) (a1 : Addr) (k1 : Addr) (q1 : Int64) (h0 : Heap) (n0 : Nat) (v : Option Value) (h : Heap) (L : List Loc) : Prop := v = none ∧ Fr n0 L ∧ Keep h0 h [a1] ∧ Exa Z h a1 "com/example/allsome/allsome/cypher/PathPattern$Selector" ∧ Fld Z h a1 "com/example/allsome/allsome/cypher/PathPattern$Selector" "kind" "Lcom/example/allsome/allsome/cypher/PathPattern$Selector$Kind;" (.ref k1) ∧ Fld Z h a1 "com/example/allsome/allsome/cypher/PathPattern$Selector" "count" "J" (.long q1)
theorem ef_rmInit (m : MethodId) (x0 : Addr) (x1 : Addr) (x2 : Int64) : entryFrame m #[(.ref x0), (.ref x1), (.long x2)] 4 = mkF m 0 #[.val (.ref x0), .val (.ref x1), .val (.long x2), .second] [] := by first | (simp [entryFrame, mkF, argsToLocals, Value.category]; done) | rfl
set_option maxRecDepth 65536 in
set_option maxHeartbeats 40000000 in
theorem rmInit (l : Launch) (Z : State) (a0 : Array Value) (hw : ∀ d ∈ tables_1, d.before a0 Z = true) (ws : List Jvm.Cond) (a1 : Addr) (k1 : Addr) (q1 : Int64) (h0 : Heap) (n0 : Nat) (Z0 : n0 ≤ h0.size) (F1 : Fld Z h0 a1 "com/example/allsome/allsome/cypher/PathPattern$Selector" "kind" "Lcom/example/allsome/allsome/cypher/PathPattern$Selector$Kind;" .null) (F2 : Fld Z h0 a1 "com/example/allsome/allsome/cypher/PathPattern$Selector" "count" "J" (.long 0)) (E1 : Exa Z h0 a1 "com/example/allsome/allsome/cypher/PathPattern$Selector") (G1 : n0 ≤ a1)  :
    MetFree l (⟨"com/example/allsome/allsome/cypher/PathPattern$Selector", "<init>", "(Lcom/example/allsome/allsome/cypher/PathPattern$Selector$Kind;J)V"⟩ : MethodName) (head1 (Jvm.Cond.code (⟨"com/example/allsome/allsome/cypher/PathPattern$Selector", "<init>", "(Lcom/example/allsome/allsome/cypher/PathPattern$Selector$Kind;J)V"⟩ : MethodName) prog_97_method_1_code 4 none :: ws) ({ frames := 1, cells := 0, slots := 0, locals := 12 } : Room)) (fun a U => a = #[(.ref a1), (.ref k1), (.long q1)] ∧ Z.Warmed39 U.vm ∧ U.heap = h0) (fun _ _ _ _ _ => True) (fun _ U o U' => ∃ v L, o = .returned v ∧ Q_rmInit Z a1 k1 q1 h0 n0 v U'.heap L ∧ FrameEnd U o U' L ({ frames := 1, cells := 0, slots := 0, locals := 12 } : Room).cells ({ frames := 1, cells := 0, slots := 0, locals := 12 } : Room).slots) := by
  refine MetFree.of_bodySF (plainFor_of_name pn_1) hisR ?_
  intro p e s m args below meth c s₁ Bd hml0 hP hK
  obtain ⟨rfl, hZ, hh⟩ := hP
  have hx := Bd.exec
  have hby := Bd.bytes
  have hml : c.maxLocals = 4 := hml0
  have hown : s.vm.findClass "com/example/allsome/allsome/cypher/PathPattern$Selector" = some m.cls := findClass_of_methodNamed Bd.named
  have hnm := (name_of_methodNamed Bd.named Bd.method).1
  have X0 : Stand p l e ({ frames := 1, cells := 0, slots := 0, locals := 12 } : Room) s m #[(.ref a1), (.ref k1), (.long q1)] below meth c s₁ [] 0 0 := Stand.of_body Bd
  have e0 : s₁.heap = h0 := by rw [← hh, Bd.state]; rfl
  have N0 := Fr.nil n0
  refine own_go (own_lift (fun t k => castTop (ef_rmInit m a1 k1 q1) k) ?_)
  show own_Go p.tables e below (s₁.setTop (mkF m 0 #[rv a1, rv k1, jv q1, .second] [])) _
  have sg1 : ∀ t, Steps p.tables e below (s₁.setTop (mkF m 1 #[rv a1, rv k1, jv q1, .second] [(.ref a1)])) t → Steps p.tables e below (s₁.setTop (mkF m 0 #[rv a1, rv k1, jv q1, .second] [])) t := by
    intro t k
    refine XS.aloadN X0.here hx rfl (hb hby d2_0) rfl rfl ?_
    show Steps p.tables e below (s₁.setTop (mkF m 1 #[rv a1, rv k1, jv q1, .second] [(.ref a1)])) _
    exact k
  refine own_lift sg1 ?_
  show own_Go p.tables e below (s₁.setTop (mkF m 1 #[rv a1, rv k1, jv q1, .second] [(.ref a1)])) _
  obtain ⟨T2, X2, e2, st2⟩ := initO X0 hx hZ hown (wd hw 13 rfl) (wd hw 14 rfl) (wd hw 15 rfl) e0 (g := (mkF m 1 #[rv a1, rv k1, jv q1, .second] [(.ref a1)])) rfl (by rw [hml]; rfl) rfl (hb hby d2_1) (by decide) (W := 0) (by show 2 * 0 + _ ≤ _; exact Nat.le_of_eq rfl) (by decide)
  refine own_lift st2 ?_
  show own_Go p.tables e below (T2.setTop (mkF m 4 #[rv a1, rv k1, jv q1, .second] [])) _
  have sg3 : ∀ t, Steps p.tables e below (T2.setTop (mkF m 6 #[rv a1, rv k1, jv q1, .second] [(.ref k1), (.ref a1)])) t → Steps p.tables e below (T2.setTop (mkF m 4 #[rv a1, rv k1, jv q1, .second] [])) t := by
    intro t k
    refine XS.aloadN X2.here hx rfl (hb hby d2_4) rfl rfl ?_
    show Steps p.tables e below (T2.setTop (mkF m 5 #[rv a1, rv k1, jv q1, .second] [(.ref a1)])) _
    refine XS.aloadN X2.here hx rfl (hb hby d2_5) rfl rfl ?_
    show Steps p.tables e below (T2.setTop (mkF m 6 #[rv a1, rv k1, jv q1, .second] [(.ref k1), (.ref a1)])) _
    exact k
  refine own_lift sg3 ?_
  show own_Go p.tables e below (T2.setTop (mkF m 6 #[rv a1, rv k1, jv q1, .second] [(.ref k1), (.ref a1)])) _
  obtain ⟨T4, h4, X4, e4, W4, st4⟩ := putF X2 hx hZ hown (host := "") (Or.inl (wd hw 16 rfl)) Via.refl e2 F1 E1 (Or.inr ⟨(wd hw 17 rfl), rfl, hnm⟩) (wd hw 1 rfl) (ty := (.object "com/example/allsome/allsome/cypher/PathPattern$Selector$Kind")) (by decide) rfl rfl (g := (mkF m 6 #[rv a1, rv k1, jv q1, .second] [(.ref k1), (.ref a1)])) rfl rfl (hb hby d2_6)
  have N4 := Fr.snoc X4 N0 G1
  have Z4 : n0 ≤ h4.size := Nat.le_trans Z0 (Nat.le_of_eq W4.size.symm)
  have K4 : Keep h0 h4 [a1] := (Keep.refl h0 [a1]).wr W4 (Or.inl (List.mem_of_getElem? (i := 0) rfl))
  have Fw4 : Fld Z h4 a1 "com/example/allsome/allsome/cypher/PathPattern$Selector" "kind" "Lcom/example/allsome/allsome/cypher/PathPattern$Selector$Kind;" (.ref k1) := F1.same W4
  refine own_lift st4 ?_
  show own_Go p.tables e below (T4.setTop (mkF m 9 #[rv a1, rv k1, jv q1, .second] [])) _
  have sg5 : ∀ t, Steps p.tables e below (T4.setTop (mkF m 11 #[rv a1, rv k1, jv q1, .second] [(.long q1), (.ref a1)])) t → Steps p.tables e below (T4.setTop (mkF m 9 #[rv a1, rv k1, jv q1, .second] [])) t := by
    intro t k
    refine XS.aloadN X4.here hx rfl (hb hby d2_9) rfl rfl ?_
    show Steps p.tables e below (T4.setTop (mkF m 10 #[rv a1, rv k1, jv q1, .second] [(.ref a1)])) _
    refine XS.lloadN X4.here hx rfl (hb hby d2_10) rfl ?_
    show Steps p.tables e below (T4.setTop (mkF m 11 #[rv a1, rv k1, jv q1, .second] [(.long q1), (.ref a1)])) _
    exact k
  refine own_lift sg5 ?_
  show own_Go p.tables e below (T4.setTop (mkF m 11 #[rv a1, rv k1, jv q1, .second] [(.long q1), (.ref a1)])) _
  have Fc6 : Fld Z h4 a1 "com/example/allsome/allsome/cypher/PathPattern$Selector" "count" "J" (.long 0) := (F2.other W4 (Or.inr (slot_ne (Or.inr (wd hw 19 rfl)) (Or.inr (wd hw 17 rfl)) (by decide) (t := .long) (t' := (.object "com/example/allsome/allsome/cypher/PathPattern$Selector$Kind")) (by decide) (by decide))))
  have Fc7 : Exa Z h4 a1 "com/example/allsome/allsome/cypher/PathPattern$Selector" := (E1.wr W4)
  obtain ⟨T8, h8, X8, e8, W8, st8⟩ := putF X4 hx hZ hown (host := "") (Or.inl (wd hw 18 rfl)) Via.refl e4 Fc6 Fc7 (Or.inr ⟨(wd hw 19 rfl), rfl, hnm⟩) (wd hw 1 rfl) (ty := .long) (by decide) rfl rfl (g := (mkF m 11 #[rv a1, rv k1, jv q1, .second] [(.long q1), (.ref a1)])) rfl rfl (hb hby d2_11)
  have N8 := Fr.snoc X8 N4 G1
  have Z8 : n0 ≤ h8.size := Nat.le_trans Z4 (Nat.le_of_eq W8.size.symm)
  have K8 : Keep h0 h8 [a1] := K4.wr W8 (Or.inl (List.mem_of_getElem? (i := 0) rfl))
  have Fw8 : Fld Z h8 a1 "com/example/allsome/allsome/cypher/PathPattern$Selector" "count" "J" (.long q1) := Fc6.same W8
  refine own_lift st8 ?_
  show own_Go p.tables e below (T8.setTop (mkF m 14 #[rv a1, rv k1, jv q1, .second] [])) _
  obtain ⟨fs, hr, hrun, hended, hW, hsame⟩ := X8.leave (v := none) (fun _ => rfl)
  have Fc9 : Exa Z h8 a1 "com/example/allsome/allsome/cypher/PathPattern$Selector" := (Fc7.wr W8)
  have Fc10 : Fld Z h8 a1 "com/example/allsome/allsome/cypher/PathPattern$Selector" "kind" "Lcom/example/allsome/allsome/cypher/PathPattern$Selector$Kind;" (.ref k1) := (Fw4.other W8 (Or.inr (slot_ne (Or.inr (wd hw 17 rfl)) (Or.inr (wd hw 19 rfl)) (by decide) (t := (.object "com/example/allsome/allsome/cypher/PathPattern$Selector$Kind")) (t' := .long) (by decide) (by decide))))
  refine ⟨_, _, ?_, hrun, hended, _, _, rfl, ?_, ⟨_, rfl⟩, hW, hsame.mono (by decide) (by decide)⟩
  · exact X8.returnOut hx Bd.returns (hb hby d2_14) hr
  · show Q_rmInit Z a1 k1 q1 h0 n0 _ T8.heap _
    rw [e8]
    exact ⟨rfl, N8, K8, Fc9, Fc10, Fw8⟩
theorem d3_0 : decode prog_97_method_4_code 0 = .ok (.aload_n 1, 1) := by decide +kernel
theorem d3_1 : decode prog_97_method_4_code 1 = .ok (.instanceof 8, 3) := by decide +kernel
theorem d3_4 : decode prog_97_method_4_code 4 = .ok (.ifCond .ne 5, 3) := by decide +kernel
theorem d3_9 : decode prog_97_method_4_code 9 = .ok (.aload_n 1, 1) := by decide +kernel
theorem d3_10 : decode prog_97_method_4_code 10 = .ok (.checkcast 8, 3) := by decide +kernel
theorem d3_13 : decode prog_97_method_4_code 13 = .ok (.astore_n 2, 1) := by decide +kernel
theorem d3_14 : decode prog_97_method_4_code 14 = .ok (.aload_n 2, 1) := by decide +kernel
theorem d3_15 : decode prog_97_method_4_code 15 = .ok (.getfield 7, 3) := by decide +kernel
theorem d3_18 : decode prog_97_method_4_code 18 = .ok (.aload_n 0, 1) := by decide +kernel
theorem d3_19 : decode prog_97_method_4_code 19 = .ok (.getfield 7, 3) := by decide +kernel
theorem d3_22 : decode prog_97_method_4_code 22 = .ok (.if_acmp .ne 19, 3) := by decide +kernel
theorem d3_25 : decode prog_97_method_4_code 25 = .ok (.aload_n 2, 1) := by decide +kernel
theorem d3_26 : decode prog_97_method_4_code 26 = .ok (.getfield 13, 3) := by decide +kernel
theorem d3_29 : decode prog_97_method_4_code 29 = .ok (.aload_n 0, 1) := by decide +kernel
theorem d3_30 : decode prog_97_method_4_code 30 = .ok (.getfield 13, 3) := by decide +kernel
theorem d3_33 : decode prog_97_method_4_code 33 = .ok (.lcmp, 1) := by decide +kernel
theorem d3_34 : decode prog_97_method_4_code 34 = .ok (.ifCond .ne 7, 3) := by decide +kernel
theorem d3_37 : decode prog_97_method_4_code 37 = .ok (.iconst 1, 1) := by decide +kernel
theorem d3_38 : decode prog_97_method_4_code 38 = .ok (.goto 4, 3) := by decide +kernel
theorem d3_42 : decode prog_97_method_4_code 42 = .ok (.ireturn, 1) := by decide +kernel
def Q_rmEqY (Z : State) (a1 : Addr) (a2 : Addr) (k1 : Addr) (q1 : Int64) (k2 : Addr) (q2 : Int64) (h0 : Heap) (n0 : Nat) (v : Option Value) (h : Heap) (L : List Loc) : Prop := v = some (.int 1) ∧ Fr n0 L ∧ h = h0
theorem ef_rmEqY (m : MethodId) (x0 : Addr) (x1 : Addr) : entryFrame m #[(.ref x0), (.ref x1)] 3 = mkF m 0 #[.val (.ref x0), .val (.ref x1), .unset] [] := by first | (simp [entryFrame, mkF, argsToLocals, Value.category]; done) | rfl
set_option maxRecDepth 65536 in
set_option maxHeartbeats 40000000 in
theorem rmEqY (l : Launch) (Z : State) (a0 : Array Value) (hw : ∀ d ∈ tables_1, d.before a0 Z = true) (ws : List Jvm.Cond) (a1 : Addr) (a2 : Addr) (k1 : Addr) (q1 : Int64) (k2 : Addr) (q2 : Int64) (h0 : Heap) (n0 : Nat) (Z0 : n0 ≤ h0.size) (F1 : Fld Z h0 a1 "com/example/allsome/allsome/cypher/PathPattern$Selector" "kind" "Lcom/example/allsome/allsome/cypher/PathPattern$Selector$Kind;" (.ref k1)) (F2 : Fld Z h0 a1 "com/example/allsome/allsome/cypher/PathPattern$Selector" "count" "J" (.long q1)) (F3 : Fld Z h0 a2 "com/example/allsome/allsome/cypher/PathPattern$Selector" "kind" "Lcom/example/allsome/allsome/cypher/PathPattern$Selector$Kind;" (.ref k2)) (F4 : Fld Z h0 a2 "com/example/allsome/allsome/cypher/PathPattern$Selector" "count" "J" (.long q2)) (E2 : Exa Z h0 a2 "com/example/allsome/allsome/cypher/PathPattern$Selector") (c1 : k2 = k1) (c2 : q2 = q1) :
    MetFree l (⟨"com/example/allsome/allsome/cypher/PathPattern$Selector", "equals", "(Ljava/lang/Object;)Z"⟩ : MethodName) (head1 (Jvm.Cond.code (⟨"com/example/allsome/allsome/cypher/PathPattern$Selector", "equals", "(Ljava/lang/Object;)Z"⟩ : MethodName) prog_97_method_4_code 3 (some .boolean) :: ws) ({ frames := 0, cells := 0, slots := 0, locals := 0 } : Room)) (fun a U => a = #[(.ref a1), (.ref a2)] ∧ Z.Warmed39 U.vm ∧ U.heap = h0) (fun _ _ _ _ _ => True) (fun _ U o U' => ∃ v L, o = .returned v ∧ Q_rmEqY Z a1 a2 k1 q1 k2 q2 h0 n0 v U'.heap L ∧ FrameEnd U o U' L ({ frames := 0, cells := 0, slots := 0, locals := 0 } : Room).cells ({ frames := 0, cells := 0, slots := 0, locals := 0 } : Room).slots) := by
  refine MetFree.of_bodySF (plainFor_of_name pn_1) hisR ?_
  intro p e s m args below meth c s₁ Bd hml0 hP hK
  obtain ⟨rfl, hZ, hh⟩ := hP
  have hx := Bd.exec
  have hby := Bd.bytes
  have hml : c.maxLocals = 3 := hml0
  have hown : s.vm.findClass "com/example/allsome/allsome/cypher/PathPattern$Selector" = some m.cls := findClass_of_methodNamed Bd.named
  have hnm := (name_of_methodNamed Bd.named Bd.method).1
  have X0 : Stand p l e ({ frames := 0, cells := 0, slots := 0, locals := 0 } : Room) s m #[(.ref a1), (.ref a2)] below meth c s₁ [] 0 0 := Stand.of_body Bd
  have e0 : s₁.heap = h0 := by rw [← hh, Bd.state]; rfl
  have N0 := Fr.nil n0
  refine own_go (own_lift (fun t k => castTop (ef_rmEqY m a1 a2) k) ?_)
  show own_Go p.tables e below (s₁.setTop (mkF m 0 #[rv a1, rv a2, .unset] [])) _
  have sg1 : ∀ t, Steps p.tables e below (s₁.setTop (mkF m 1 #[rv a1, rv a2, .unset] [(.ref a2)])) t → Steps p.tables e below (s₁.setTop (mkF m 0 #[rv a1, rv a2, .unset] [])) t := by
    intro t k
    refine XS.aloadN X0.here hx rfl (hb hby d3_0) rfl rfl ?_
    show Steps p.tables e below (s₁.setTop (mkF m 1 #[rv a1, rv a2, .unset] [(.ref a2)])) _
    exact k
  refine own_lift sg1 ?_
  show own_Go p.tables e below (s₁.setTop (mkF m 1 #[rv a1, rv a2, .unset] [(.ref a2)])) _
  obtain ⟨T2, X2, e2, st2⟩ := instY X0 hx hZ hown (wd hw 35 rfl) e0 (Ins.self E2) (g := (mkF m 1 #[rv a1, rv a2, .unset] [(.ref a2)])) rfl rfl (hb hby d3_1)
  refine own_lift st2 ?_
  show own_Go p.tables e below (T2.setTop (mkF m 4 #[rv a1, rv a2, .unset] [(.int 1)])) _
  have sg3 : ∀ t, Steps p.tables e below (T2.setTop (mkF m 10 #[rv a1, rv a2, .unset] [(.ref a2)])) t → Steps p.tables e below (T2.setTop (mkF m 4 #[rv a1, rv a2, .unset] [(.int 1)])) t := by
    intro t k
    refine XS.ifYes X2.here hx rfl (pc0 := 4) (pc' := 9) rfl (hb hby d3_4) rfl ((if0 _ _).trans (feq (by decide : ¬ ((1 : Int32) = (0 : Int32)))).2) (by decide) (by decide) ?_
    show Steps p.tables e below (T2.setTop (mkF m 9 #[rv a1, rv a2, .unset] [])) _
    refine XS.aloadN X2.here hx rfl (hb hby d3_9) rfl rfl ?_
    show Steps p.tables e below (T2.setTop (mkF m 10 #[rv a1, rv a2, .unset] [(.ref a2)])) _
    exact k
  refine own_lift sg3 ?_
  show own_Go p.tables e below (T2.setTop (mkF m 10 #[rv a1, rv a2, .unset] [(.ref a2)])) _
  obtain ⟨T4, X4, e4, st4⟩ := castY X2 hx hZ hown (wd hw 35 rfl) e2 (Ins.self E2) (g := (mkF m 10 #[rv a1, rv a2, .unset] [(.ref a2)])) rfl rfl (hb hby d3_10)
  refine own_lift st4 ?_
  show own_Go p.tables e below (T4.setTop (mkF m 13 #[rv a1, rv a2, .unset] [(.ref a2)])) _
  have sg5 : ∀ t, Steps p.tables e below (T4.setTop (mkF m 15 #[rv a1, rv a2, rv a2] [(.ref a2)])) t → Steps p.tables e below (T4.setTop (mkF m 13 #[rv a1, rv a2, .unset] [(.ref a2)])) t := by
    intro t k
    refine XS.astoreN X4.here hx rfl (hb hby d3_13) rfl rfl (l' := #[rv a1, rv a2, rv a2]) rfl ?_
    show Steps p.tables e below (T4.setTop (mkF m 14 #[rv a1, rv a2, rv a2] [])) _
    refine XS.aloadN X4.here hx rfl (hb hby d3_14) rfl rfl ?_
    show Steps p.tables e below (T4.setTop (mkF m 15 #[rv a1, rv a2, rv a2] [(.ref a2)])) _
    exact k
  refine own_lift sg5 ?_
  show own_Go p.tables e below (T4.setTop (mkF m 15 #[rv a1, rv a2, rv a2] [(.ref a2)])) _
  obtain ⟨T6, X6, e6, st6⟩ := getF X4 hx hZ hown (host := "") (Or.inl (wd hw 16 rfl)) Via.refl e4 F3 (g := (mkF m 15 #[rv a1, rv a2, rv a2] [(.ref a2)])) rfl rfl (hb hby d3_15)
  refine own_lift st6 ?_
  show own_Go p.tables e below (T6.setTop (mkF m 18 #[rv a1, rv a2, rv a2] [(.ref k2)])) _
  have sg7 : ∀ t, Steps p.tables e below (T6.setTop (mkF m 19 #[rv a1, rv a2, rv a2] [(.ref a1), (.ref k2)])) t → Steps p.tables e below (T6.setTop (mkF m 18 #[rv a1, rv a2, rv a2] [(.ref k2)])) t := by
    intro t k
    refine XS.aloadN X6.here hx rfl (hb hby d3_18) rfl rfl ?_
    show Steps p.tables e below (T6.setTop (mkF m 19 #[rv a1, rv a2, rv a2] [(.ref a1), (.ref k2)])) _
    exact k
  refine own_lift sg7 ?_
  show own_Go p.tables e below (T6.setTop (mkF m 19 #[rv a1, rv a2, rv a2] [(.ref a1), (.ref k2)])) _
  obtain ⟨T8, X8, e8, st8⟩ := getF X6 hx hZ hown (host := "") (Or.inl (wd hw 16 rfl)) Via.refl e6 F1 (g := (mkF m 19 #[rv a1, rv a2, rv a2] [(.ref a1), (.ref k2)])) rfl rfl (hb hby d3_19)
  refine own_lift st8 ?_
  show own_Go p.tables e below (T8.setTop (mkF m 22 #[rv a1, rv a2, rv a2] [(.ref k1), (.ref k2)])) _
  have sg9 : ∀ t, Steps p.tables e below (T8.setTop (mkF m 26 #[rv a1, rv a2, rv a2] [(.ref a2)])) t → Steps p.tables e below (T8.setTop (mkF m 22 #[rv a1, rv a2, rv a2] [(.ref k1), (.ref k2)])) t := by
    intro t k
    refine Jvm.RoadKit.acmp (g := (mkF m 22 #[rv a1, rv a2, rv a2] [(.ref k1), (.ref k2)])) X8 hx rfl rfl rfl (pc0 := 22) (pc' := 25) (same := true) rfl (hb hby d3_22) rfl (decide_eq_true (congrArg Value.ref c1)) (by decide) (by decide) ?_
    show Steps p.tables e below (T8.setTop (mkF m 25 #[rv a1, rv a2, rv a2] [])) _
    refine XS.aloadN X8.here hx rfl (hb hby d3_25) rfl rfl ?_
    show Steps p.tables e below (T8.setTop (mkF m 26 #[rv a1, rv a2, rv a2] [(.ref a2)])) _
    exact k
  refine own_lift sg9 ?_
  show own_Go p.tables e below (T8.setTop (mkF m 26 #[rv a1, rv a2, rv a2] [(.ref a2)])) _
  obtain ⟨T10, X10, e10, st10⟩ := getF X8 hx hZ hown (host := "") (Or.inl (wd hw 18 rfl)) Via.refl e8 F4 (g := (mkF m 26 #[rv a1, rv a2, rv a2] [(.ref a2)])) rfl rfl (hb hby d3_26)
  refine own_lift st10 ?_
  show own_Go p.tables e below (T10.setTop (mkF m 29 #[rv a1, rv a2, rv a2] [(.long q2)])) _
  have sg11 : ∀ t, Steps p.tables e below (T10.setTop (mkF m 30 #[rv a1, rv a2, rv a2] [(.ref a1), (.long q2)])) t → Steps p.tables e below (T10.setTop (mkF m 29 #[rv a1, rv a2, rv a2] [(.long q2)])) t := by
    intro t k
    refine XS.aloadN X10.here hx rfl (hb hby d3_29) rfl rfl ?_
    show Steps p.tables e below (T10.setTop (mkF m 30 #[rv a1, rv a2, rv a2] [(.ref a1), (.long q2)])) _
    exact k
  refine own_lift sg11 ?_
  show own_Go p.tables e below (T10.setTop (mkF m 30 #[rv a1, rv a2, rv a2] [(.ref a1), (.long q2)])) _
  obtain ⟨T12, X12, e12, st12⟩ := getF X10 hx hZ hown (host := "") (Or.inl (wd hw 18 rfl)) Via.refl e10 F2 (g := (mkF m 30 #[rv a1, rv a2, rv a2] [(.ref a1), (.long q2)])) rfl rfl (hb hby d3_30)
  refine own_lift st12 ?_
  show own_Go p.tables e below (T12.setTop (mkF m 33 #[rv a1, rv a2, rv a2] [(.long q1), (.long q2)])) _
  have sg13 : ∀ t, Steps p.tables e below (T12.setTop (mkF m 42 #[rv a1, rv a2, rv a2] [(.int 1)])) t → Steps p.tables e below (T12.setTop (mkF m 33 #[rv a1, rv a2, rv a2] [(.long q1), (.long q2)])) t := by
    intro t k
    refine XS.lcmp X12.here hx rfl (hb hby d3_33) rfl ?_
    show Steps p.tables e below (T12.setTop (mkF m 34 #[rv a1, rv a2, rv a2] [(.int (lcmpW q2 q1))])) _
    refine XS.ifNo X12.here hx rfl (hb hby d3_34) rfl ((if0 _ _).trans (teq ((lw_eq q2 q1).2 c2)).2) ?_
    show Steps p.tables e below (T12.setTop (mkF m 37 #[rv a1, rv a2, rv a2] [])) _
    refine XS.iconst X12.here hx rfl (hb hby d3_37) ?_
    show Steps p.tables e below (T12.setTop (mkF m 38 #[rv a1, rv a2, rv a2] [(.int 1)])) _
    refine XS.goto X12.here hx rfl (pc0 := 38) (pc' := 42) rfl (hb hby d3_38) (by decide) (by decide) ?_
    show Steps p.tables e below (T12.setTop (mkF m 42 #[rv a1, rv a2, rv a2] [(.int 1)])) _
    exact k
  refine own_lift sg13 ?_
  show own_Go p.tables e below (T12.setTop (mkF m 42 #[rv a1, rv a2, rv a2] [(.int 1)])) _
  obtain ⟨fs, hr, hrun, hended, hW, hsame⟩ := X12.leave (v := some (.int 1)) (fun h => by rw [Bd.returns] at h; cases h)
  refine ⟨_, _, ?_, hrun, hended, _, _, rfl, ?_, ⟨_, rfl⟩, hW, hsame.mono (by decide) (by decide)⟩
  · exact retN X12 hx (t := .boolean) Bd.returns (by simp) (hb hby d3_42) hr
  · show Q_rmEqY Z a1 a2 k1 q1 k2 q2 h0 n0 _ T12.heap _
    rw [e12]
    exact ⟨rfl, N0, rfl⟩
theorem d3_41 : decode prog_97_method_4_code 41 = .ok (.iconst 0, 1) := by decide +kernel
def Q_rmEqK (Z : State) (a1 : Addr) (a2 : Addr) (k1 : Addr) (q1 : Int64) (k2 : Addr) (q2 : Int64) (h0 : Heap) (n0 : Nat) (v : Option Value) (h : Heap) (L : List Loc) : Prop := v = some (.int 0) ∧ Fr n0 L ∧ h = h0
theorem ef_rmEqK (m : MethodId) (x0 : Addr) (x1 : Addr) : entryFrame m #[(.ref x0), (.ref x1)] 3 = mkF m 0 #[.val (.ref x0), .val (.ref x1), .unset] [] := by first | (simp [entryFrame, mkF, argsToLocals, Value.category]; done) | rfl
set_option maxRecDepth 65536 in
set_option maxHeartbeats 40000000 in
theorem rmEqK (l : Launch) (Z : State) (a0 : Array Value) (hw : ∀ d ∈ tables_1, d.before a0 Z = true) (ws : List Jvm.Cond) (a1 : Addr) (a2 : Addr) (k1 : Addr) (q1 : Int64) (k2 : Addr) (q2 : Int64) (h0 : Heap) (n0 : Nat) (Z0 : n0 ≤ h0.size) (F1 : Fld Z h0 a1 "com/example/allsome/allsome/cypher/PathPattern$Selector" "kind" "Lcom/example/allsome/allsome/cypher/PathPattern$Selector$Kind;" (.ref k1)) (F2 : Fld Z h0 a1 "com/example/allsome/allsome/cypher/PathPattern$Selector" "count" "J" (.long q1)) (F3 : Fld Z h0 a2 "com/example/allsome/allsome/cypher/PathPattern$Selector" "kind" "Lcom/example/allsome/allsome/cypher/PathPattern$Selector$Kind;" (.ref k2)) (F4 : Fld Z h0 a2 "com/example/allsome/allsome/cypher/PathPattern$Selector" "count" "J" (.long q2)) (E2 : Exa Z h0 a2 "com/example/allsome/allsome/cypher/PathPattern$Selector") (c1 : ¬ (k2 = k1)) :
    MetFree l (⟨"com/example/allsome/allsome/cypher/PathPattern$Selector", "equals", "(Ljava/lang/Object;)Z"⟩ : MethodName) (head1 (Jvm.Cond.code (⟨"com/example/allsome/allsome/cypher/PathPattern$Selector", "equals", "(Ljava/lang/Object;)Z"⟩ : MethodName) prog_97_method_4_code 3 (some .boolean) :: ws) ({ frames := 0, cells := 0, slots := 0, locals := 0 } : Room)) (fun a U => a = #[(.ref a1), (.ref a2)] ∧ Z.Warmed39 U.vm ∧ U.heap = h0) (fun _ _ _ _ _ => True) (fun _ U o U' => ∃ v L, o = .returned v ∧ Q_rmEqK Z a1 a2 k1 q1 k2 q2 h0 n0 v U'.heap L ∧ FrameEnd U o U' L ({ frames := 0, cells := 0, slots := 0, locals := 0 } : Room).cells ({ frames := 0, cells := 0, slots := 0, locals := 0 } : Room).slots) := by
  refine MetFree.of_bodySF (plainFor_of_name pn_1) hisR ?_
  intro p e s m args below meth c s₁ Bd hml0 hP hK
  obtain ⟨rfl, hZ, hh⟩ := hP
  have hx := Bd.exec
  have hby := Bd.bytes
  have hml : c.maxLocals = 3 := hml0
  have hown : s.vm.findClass "com/example/allsome/allsome/cypher/PathPattern$Selector" = some m.cls := findClass_of_methodNamed Bd.named
  have hnm := (name_of_methodNamed Bd.named Bd.method).1
  have X0 : Stand p l e ({ frames := 0, cells := 0, slots := 0, locals := 0 } : Room) s m #[(.ref a1), (.ref a2)] below meth c s₁ [] 0 0 := Stand.of_body Bd
  have e0 : s₁.heap = h0 := by rw [← hh, Bd.state]; rfl
  have N0 := Fr.nil n0
  refine own_go (own_lift (fun t k => castTop (ef_rmEqK m a1 a2) k) ?_)
  show own_Go p.tables e below (s₁.setTop (mkF m 0 #[rv a1, rv a2, .unset] [])) _
  have sg1 : ∀ t, Steps p.tables e below (s₁.setTop (mkF m 1 #[rv a1, rv a2, .unset] [(.ref a2)])) t → Steps p.tables e below (s₁.setTop (mkF m 0 #[rv a1, rv a2, .unset] [])) t := by
    intro t k
    refine XS.aloadN X0.here hx rfl (hb hby d3_0) rfl rfl ?_
    show Steps p.tables e below (s₁.setTop (mkF m 1 #[rv a1, rv a2, .unset] [(.ref a2)])) _
    exact k
  refine own_lift sg1 ?_
  show own_Go p.tables e below (s₁.setTop (mkF m 1 #[rv a1, rv a2, .unset] [(.ref a2)])) _
  obtain ⟨T2, X2, e2, st2⟩ := instY X0 hx hZ hown (wd hw 35 rfl) e0 (Ins.self E2) (g := (mkF m 1 #[rv a1, rv a2, .unset] [(.ref a2)])) rfl rfl (hb hby d3_1)
  refine own_lift st2 ?_
  show own_Go p.tables e below (T2.setTop (mkF m 4 #[rv a1, rv a2, .unset] [(.int 1)])) _
  have sg3 : ∀ t, Steps p.tables e below (T2.setTop (mkF m 10 #[rv a1, rv a2, .unset] [(.ref a2)])) t → Steps p.tables e below (T2.setTop (mkF m 4 #[rv a1, rv a2, .unset] [(.int 1)])) t := by
    intro t k
    refine XS.ifYes X2.here hx rfl (pc0 := 4) (pc' := 9) rfl (hb hby d3_4) rfl ((if0 _ _).trans (feq (by decide : ¬ ((1 : Int32) = (0 : Int32)))).2) (by decide) (by decide) ?_
    show Steps p.tables e below (T2.setTop (mkF m 9 #[rv a1, rv a2, .unset] [])) _
    refine XS.aloadN X2.here hx rfl (hb hby d3_9) rfl rfl ?_
    show Steps p.tables e below (T2.setTop (mkF m 10 #[rv a1, rv a2, .unset] [(.ref a2)])) _
    exact k
  refine own_lift sg3 ?_
  show own_Go p.tables e below (T2.setTop (mkF m 10 #[rv a1, rv a2, .unset] [(.ref a2)])) _
  obtain ⟨T4, X4, e4, st4⟩ := castY X2 hx hZ hown (wd hw 35 rfl) e2 (Ins.self E2) (g := (mkF m 10 #[rv a1, rv a2, .unset] [(.ref a2)])) rfl rfl (hb hby d3_10)
  refine own_lift st4 ?_
  show own_Go p.tables e below (T4.setTop (mkF m 13 #[rv a1, rv a2, .unset] [(.ref a2)])) _
  have sg5 : ∀ t, Steps p.tables e below (T4.setTop (mkF m 15 #[rv a1, rv a2, rv a2] [(.ref a2)])) t → Steps p.tables e below (T4.setTop (mkF m 13 #[rv a1, rv a2, .unset] [(.ref a2)])) t := by
    intro t k
    refine XS.astoreN X4.here hx rfl (hb hby d3_13) rfl rfl (l' := #[rv a1, rv a2, rv a2]) rfl ?_
    show Steps p.tables e below (T4.setTop (mkF m 14 #[rv a1, rv a2, rv a2] [])) _
    refine XS.aloadN X4.here hx rfl (hb hby d3_14) rfl rfl ?_
    show Steps p.tables e below (T4.setTop (mkF m 15 #[rv a1, rv a2, rv a2] [(.ref a2)])) _
    exact k
  refine own_lift sg5 ?_
  show own_Go p.tables e below (T4.setTop (mkF m 15 #[rv a1, rv a2, rv a2] [(.ref a2)])) _
  obtain ⟨T6, X6, e6, st6⟩ := getF X4 hx hZ hown (host := "") (Or.inl (wd hw 16 rfl)) Via.refl e4 F3 (g := (mkF m 15 #[rv a1, rv a2, rv a2] [(.ref a2)])) rfl rfl (hb hby d3_15)
  refine own_lift st6 ?_
  show own_Go p.tables e below (T6.setTop (mkF m 18 #[rv a1, rv a2, rv a2] [(.ref k2)])) _
  have sg7 : ∀ t, Steps p.tables e below (T6.setTop (mkF m 19 #[rv a1, rv a2, rv a2] [(.ref a1), (.ref k2)])) t → Steps p.tables e below (T6.setTop (mkF m 18 #[rv a1, rv a2, rv a2] [(.ref k2)])) t := by
    intro t k
    refine XS.aloadN X6.here hx rfl (hb hby d3_18) rfl rfl ?_
    show Steps p.tables e below (T6.setTop (mkF m 19 #[rv a1, rv a2, rv a2] [(.ref a1), (.ref k2)])) _
    exact k
  refine own_lift sg7 ?_
  show own_Go p.tables e below (T6.setTop (mkF m 19 #[rv a1, rv a2, rv a2] [(.ref a1), (.ref k2)])) _
  obtain ⟨T8, X8, e8, st8⟩ := getF X6 hx hZ hown (host := "") (Or.inl (wd hw 16 rfl)) Via.refl e6 F1 (g := (mkF m 19 #[rv a1, rv a2, rv a2] [(.ref a1), (.ref k2)])) rfl rfl (hb hby d3_19)
  refine own_lift st8 ?_
  show own_Go p.tables e below (T8.setTop (mkF m 22 #[rv a1, rv a2, rv a2] [(.ref k1), (.ref k2)])) _
  have sg9 : ∀ t, Steps p.tables e below (T8.setTop (mkF m 42 #[rv a1, rv a2, rv a2] [(.int 0)])) t → Steps p.tables e below (T8.setTop (mkF m 22 #[rv a1, rv a2, rv a2] [(.ref k1), (.ref k2)])) t := by
    intro t k
    refine Jvm.RoadKit.acmp (g := (mkF m 22 #[rv a1, rv a2, rv a2] [(.ref k1), (.ref k2)])) X8 hx rfl rfl rfl (pc0 := 22) (pc' := 41) (same := false) rfl (hb hby d3_22) rfl (decide_eq_false fun q => c1 (Value.ref.inj q)) (by decide) (by decide) ?_
    show Steps p.tables e below (T8.setTop (mkF m 41 #[rv a1, rv a2, rv a2] [])) _
    refine XS.iconst X8.here hx rfl (hb hby d3_41) ?_
    show Steps p.tables e below (T8.setTop (mkF m 42 #[rv a1, rv a2, rv a2] [(.int 0)])) _
    exact k
  refine own_lift sg9 ?_
  show own_Go p.tables e below (T8.setTop (mkF m 42 #[rv a1, rv a2, rv a2] [(.int 0)])) _
  obtain ⟨fs, hr, hrun, hended, hW, hsame⟩ := X8.leave (v := some (.int 0)) (fun h => by rw [Bd.returns] at h; cases h)
  refine ⟨_, _, ?_, hrun, hended, _, _, rfl, ?_, ⟨_, rfl⟩, hW, hsame.mono (by decide) (by decide)⟩
  · exact retN X8 hx (t := .boolean) Bd.returns (by simp) (hb hby d3_42) hr
  · show Q_rmEqK Z a1 a2 k1 q1 k2 q2 h0 n0 _ T8.heap _
    rw [e8]
    exact ⟨rfl, N0, rfl⟩
def Q_rmEqC (Z : State) (a1 : Addr) (a2 : Addr) (k1 : Addr) (q1 : Int64) (k2 : Addr) (q2 : Int64) (h0 : Heap) (n0 : Nat) (v : Option Value) (h : Heap) (L : List Loc) : Prop := v = some (.int 0) ∧ Fr n0 L ∧ h = h0
theorem ef_rmEqC (m : MethodId) (x0 : Addr) (x1 : Addr) : entryFrame m #[(.ref x0), (.ref x1)] 3 = mkF m 0 #[.val (.ref x0), .val (.ref x1), .unset] [] := by first | (simp [entryFrame, mkF, argsToLocals, Value.category]; done) | rfl
set_option maxRecDepth 65536 in
set_option maxHeartbeats 40000000 in
theorem rmEqC (l : Launch) (Z : State) (a0 : Array Value) (hw : ∀ d ∈ tables_1, d.before a0 Z = true) (ws : List Jvm.Cond) (a1 : Addr) (a2 : Addr) (k1 : Addr) (q1 : Int64) (k2 : Addr) (q2 : Int64) (h0 : Heap) (n0 : Nat) (Z0 : n0 ≤ h0.size) (F1 : Fld Z h0 a1 "com/example/allsome/allsome/cypher/PathPattern$Selector" "kind" "Lcom/example/allsome/allsome/cypher/PathPattern$Selector$Kind;" (.ref k1)) (F2 : Fld Z h0 a1 "com/example/allsome/allsome/cypher/PathPattern$Selector" "count" "J" (.long q1)) (F3 : Fld Z h0 a2 "com/example/allsome/allsome/cypher/PathPattern$Selector" "kind" "Lcom/example/allsome/allsome/cypher/PathPattern$Selector$Kind;" (.ref k2)) (F4 : Fld Z h0 a2 "com/example/allsome/allsome/cypher/PathPattern$Selector" "count" "J" (.long q2)) (E2 : Exa Z h0 a2 "com/example/allsome/allsome/cypher/PathPattern$Selector") (c1 : k2 = k1) (c2 : ¬ (q2 = q1)) :
    MetFree l (⟨"com/example/allsome/allsome/cypher/PathPattern$Selector", "equals", "(Ljava/lang/Object;)Z"⟩ : MethodName) (head1 (Jvm.Cond.code (⟨"com/example/allsome/allsome/cypher/PathPattern$Selector", "equals", "(Ljava/lang/Object;)Z"⟩ : MethodName) prog_97_method_4_code 3 (some .boolean) :: ws) ({ frames := 0, cells := 0, slots := 0, locals := 0 } : Room)) (fun a U => a = #[(.ref a1), (.ref a2)] ∧ Z.Warmed39 U.vm ∧ U.heap = h0) (fun _ _ _ _ _ => True) (fun _ U o U' => ∃ v L, o = .returned v ∧ Q_rmEqC Z a1 a2 k1 q1 k2 q2 h0 n0 v U'.heap L ∧ FrameEnd U o U' L ({ frames := 0, cells := 0, slots := 0, locals := 0 } : Room).cells ({ frames := 0, cells := 0, slots := 0, locals := 0 } : Room).slots) := by
  refine MetFree.of_bodySF (plainFor_of_name pn_1) hisR ?_
  intro p e s m args below meth c s₁ Bd hml0 hP hK
  obtain ⟨rfl, hZ, hh⟩ := hP
  have hx := Bd.exec
  have hby := Bd.bytes
  have hml : c.maxLocals = 3 := hml0
  have hown : s.vm.findClass "com/example/allsome/allsome/cypher/PathPattern$Selector" = some m.cls := findClass_of_methodNamed Bd.named
  have hnm := (name_of_methodNamed Bd.named Bd.method).1
  have X0 : Stand p l e ({ frames := 0, cells := 0, slots := 0, locals := 0 } : Room) s m #[(.ref a1), (.ref a2)] below meth c s₁ [] 0 0 := Stand.of_body Bd
  have e0 : s₁.heap = h0 := by rw [← hh, Bd.state]; rfl
  have N0 := Fr.nil n0
  refine own_go (own_lift (fun t k => castTop (ef_rmEqC m a1 a2) k) ?_)
  show own_Go p.tables e below (s₁.setTop (mkF m 0 #[rv a1, rv a2, .unset] [])) _
  have sg1 : ∀ t, Steps p.tables e below (s₁.setTop (mkF m 1 #[rv a1, rv a2, .unset] [(.ref a2)])) t → Steps p.tables e below (s₁.setTop (mkF m 0 #[rv a1, rv a2, .unset] [])) t := by
    intro t k
    refine XS.aloadN X0.here hx rfl (hb hby d3_0) rfl rfl ?_
    show Steps p.tables e below (s₁.setTop (mkF m 1 #[rv a1, rv a2, .unset] [(.ref a2)])) _
    exact k
  refine own_lift sg1 ?_
  show own_Go p.tables e below (s₁.setTop (mkF m 1 #[rv a1, rv a2, .unset] [(.ref a2)])) _
  obtain ⟨T2, X2, e2, st2⟩ := instY X0 hx hZ hown (wd hw 35 rfl) e0 (Ins.self E2) (g := (mkF m 1 #[rv a1, rv a2, .unset] [(.ref a2)])) rfl rfl (hb hby d3_1)
  refine own_lift st2 ?_
  show own_Go p.tables e below (T2.setTop (mkF m 4 #[rv a1, rv a2, .unset] [(.int 1)])) _
  have sg3 : ∀ t, Steps p.tables e below (T2.setTop (mkF m 10 #[rv a1, rv a2, .unset] [(.ref a2)])) t → Steps p.tables e below (T2.setTop (mkF m 4 #[rv a1, rv a2, .unset] [(.int 1)])) t := by
    intro t k
    refine XS.ifYes X2.here hx rfl (pc0 := 4) (pc' := 9) rfl (hb hby d3_4) rfl ((if0 _ _).trans (feq (by decide : ¬ ((1 : Int32) = (0 : Int32)))).2) (by decide) (by decide) ?_
    show Steps p.tables e below (T2.setTop (mkF m 9 #[rv a1, rv a2, .unset] [])) _
    refine XS.aloadN X2.here hx rfl (hb hby d3_9) rfl rfl ?_
    show Steps p.tables e below (T2.setTop (mkF m 10 #[rv a1, rv a2, .unset] [(.ref a2)])) _
    exact k
  refine own_lift sg3 ?_
  show own_Go p.tables e below (T2.setTop (mkF m 10 #[rv a1, rv a2, .unset] [(.ref a2)])) _
  obtain ⟨T4, X4, e4, st4⟩ := castY X2 hx hZ hown (wd hw 35 rfl) e2 (Ins.self E2) (g := (mkF m 10 #[rv a1, rv a2, .unset] [(.ref a2)])) rfl rfl (hb hby d3_10)
  refine own_lift st4 ?_
  show own_Go p.tables e below (T4.setTop (mkF m 13 #[rv a1, rv a2, .unset] [(.ref a2)])) _
  have sg5 : ∀ t, Steps p.tables e below (T4.setTop (mkF m 15 #[rv a1, rv a2, rv a2] [(.ref a2)])) t → Steps p.tables e below (T4.setTop (mkF m 13 #[rv a1, rv a2, .unset] [(.ref a2)])) t := by
    intro t k
    refine XS.astoreN X4.here hx rfl (hb hby d3_13) rfl rfl (l' := #[rv a1, rv a2, rv a2]) rfl ?_
    show Steps p.tables e below (T4.setTop (mkF m 14 #[rv a1, rv a2, rv a2] [])) _
    refine XS.aloadN X4.here hx rfl (hb hby d3_14) rfl rfl ?_
    show Steps p.tables e below (T4.setTop (mkF m 15 #[rv a1, rv a2, rv a2] [(.ref a2)])) _
    exact k
  refine own_lift sg5 ?_
  show own_Go p.tables e below (T4.setTop (mkF m 15 #[rv a1, rv a2, rv a2] [(.ref a2)])) _
  obtain ⟨T6, X6, e6, st6⟩ := getF X4 hx hZ hown (host := "") (Or.inl (wd hw 16 rfl)) Via.refl e4 F3 (g := (mkF m 15 #[rv a1, rv a2, rv a2] [(.ref a2)])) rfl rfl (hb hby d3_15)
  refine own_lift st6 ?_
  show own_Go p.tables e below (T6.setTop (mkF m 18 #[rv a1, rv a2, rv a2] [(.ref k2)])) _
  have sg7 : ∀ t, Steps p.tables e below (T6.setTop (mkF m 19 #[rv a1, rv a2, rv a2] [(.ref a1), (.ref k2)])) t → Steps p.tables e below (T6.setTop (mkF m 18 #[rv a1, rv a2, rv a2] [(.ref k2)])) t := by
    intro t k
    refine XS.aloadN X6.here hx rfl (hb hby d3_18) rfl rfl ?_
    show Steps p.tables e below (T6.setTop (mkF m 19 #[rv a1, rv a2, rv a2] [(.ref a1), (.ref k2)])) _
    exact k
  refine own_lift sg7 ?_
  show own_Go p.tables e below (T6.setTop (mkF m 19 #[rv a1, rv a2, rv a2] [(.ref a1), (.ref k2)])) _
  obtain ⟨T8, X8, e8, st8⟩ := getF X6 hx hZ hown (host := "") (Or.inl (wd hw 16 rfl)) Via.refl e6 F1 (g := (mkF m 19 #[rv a1, rv a2, rv a2] [(.ref a1), (.ref k2)])) rfl rfl (hb hby d3_19)
  refine own_lift st8 ?_
  show own_Go p.tables e below (T8.setTop (mkF m 22 #[rv a1, rv a2, rv a2] [(.ref k1), (.ref k2)])) _
  have sg9 : ∀ t, Steps p.tables e below (T8.setTop (mkF m 26 #[rv a1, rv a2, rv a2] [(.ref a2)])) t → Steps p.tables e below (T8.setTop (mkF m 22 #[rv a1, rv a2, rv a2] [(.ref k1), (.ref k2)])) t := by
    intro t k
    refine Jvm.RoadKit.acmp (g := (mkF m 22 #[rv a1, rv a2, rv a2] [(.ref k1), (.ref k2)])) X8 hx rfl rfl rfl (pc0 := 22) (pc' := 25) (same := true) rfl (hb hby d3_22) rfl (decide_eq_true (congrArg Value.ref c1)) (by decide) (by decide) ?_
    show Steps p.tables e below (T8.setTop (mkF m 25 #[rv a1, rv a2, rv a2] [])) _
    refine XS.aloadN X8.here hx rfl (hb hby d3_25) rfl rfl ?_
    show Steps p.tables e below (T8.setTop (mkF m 26 #[rv a1, rv a2, rv a2] [(.ref a2)])) _
    exact k
  refine own_lift sg9 ?_
  show own_Go p.tables e below (T8.setTop (mkF m 26 #[rv a1, rv a2, rv a2] [(.ref a2)])) _
  obtain ⟨T10, X10, e10, st10⟩ := getF X8 hx hZ hown (host := "") (Or.inl (wd hw 18 rfl)) Via.refl e8 F4 (g := (mkF m 26 #[rv a1, rv a2, rv a2] [(.ref a2)])) rfl rfl (hb hby d3_26)
  refine own_lift st10 ?_
  show own_Go p.tables e below (T10.setTop (mkF m 29 #[rv a1, rv a2, rv a2] [(.long q2)])) _
  have sg11 : ∀ t, Steps p.tables e below (T10.setTop (mkF m 30 #[rv a1, rv a2, rv a2] [(.ref a1), (.long q2)])) t → Steps p.tables e below (T10.setTop (mkF m 29 #[rv a1, rv a2, rv a2] [(.long q2)])) t := by
    intro t k
    refine XS.aloadN X10.here hx rfl (hb hby d3_29) rfl rfl ?_
    show Steps p.tables e below (T10.setTop (mkF m 30 #[rv a1, rv a2, rv a2] [(.ref a1), (.long q2)])) _
    exact k
  refine own_lift sg11 ?_
  show own_Go p.tables e below (T10.setTop (mkF m 30 #[rv a1, rv a2, rv a2] [(.ref a1), (.long q2)])) _
  obtain ⟨T12, X12, e12, st12⟩ := getF X10 hx hZ hown (host := "") (Or.inl (wd hw 18 rfl)) Via.refl e10 F2 (g := (mkF m 30 #[rv a1, rv a2, rv a2] [(.ref a1), (.long q2)])) rfl rfl (hb hby d3_30)
  refine own_lift st12 ?_
  show own_Go p.tables e below (T12.setTop (mkF m 33 #[rv a1, rv a2, rv a2] [(.long q1), (.long q2)])) _
  have sg13 : ∀ t, Steps p.tables e below (T12.setTop (mkF m 42 #[rv a1, rv a2, rv a2] [(.int 0)])) t → Steps p.tables e below (T12.setTop (mkF m 33 #[rv a1, rv a2, rv a2] [(.long q1), (.long q2)])) t := by
    intro t k
    refine XS.lcmp X12.here hx rfl (hb hby d3_33) rfl ?_
    show Steps p.tables e below (T12.setTop (mkF m 34 #[rv a1, rv a2, rv a2] [(.int (lcmpW q2 q1))])) _
    refine XS.ifYes X12.here hx rfl (pc0 := 34) (pc' := 41) rfl (hb hby d3_34) rfl ((if0 _ _).trans (feq (fun q => c2 ((lw_eq q2 q1).1 q))).2) (by decide) (by decide) ?_
    show Steps p.tables e below (T12.setTop (mkF m 41 #[rv a1, rv a2, rv a2] [])) _
    refine XS.iconst X12.here hx rfl (hb hby d3_41) ?_
    show Steps p.tables e below (T12.setTop (mkF m 42 #[rv a1, rv a2, rv a2] [(.int 0)])) _
    exact k
  refine own_lift sg13 ?_
  show own_Go p.tables e below (T12.setTop (mkF m 42 #[rv a1, rv a2, rv a2] [(.int 0)])) _
  obtain ⟨fs, hr, hrun, hended, hW, hsame⟩ := X12.leave (v := some (.int 0)) (fun h => by rw [Bd.returns] at h; cases h)
  refine ⟨_, _, ?_, hrun, hended, _, _, rfl, ?_, ⟨_, rfl⟩, hW, hsame.mono (by decide) (by decide)⟩
  · exact retN X12 hx (t := .boolean) Bd.returns (by simp) (hb hby d3_42) hr
  · show Q_rmEqC Z a1 a2 k1 q1 k2 q2 h0 n0 _ T12.heap _
    rw [e12]
    exact ⟨rfl, N0, rfl⟩
theorem d3_7 : decode prog_97_method_4_code 7 = .ok (.iconst 0, 1) := by decide +kernel
theorem d3_8 : decode prog_97_method_4_code 8 = .ok (.ireturn, 1) := by decide +kernel
def Q_rmEqNull (Z : State) (a1 : Addr) (h0 : Heap) (n0 : Nat) (v : Option Value) (h : Heap) (L : List Loc) : Prop := v = some (.int 0) ∧ Fr n0 L ∧ h = h0
theorem ef_rmEqNull (m : MethodId) (x0 : Addr) : entryFrame m #[(.ref x0), .null] 3 = mkF m 0 #[.val (.ref x0), .val .null, .unset] [] := by first | (simp [entryFrame, mkF, argsToLocals, Value.category]; done) | rfl
set_option maxRecDepth 65536 in
set_option maxHeartbeats 40000000 in
theorem rmEqNull (l : Launch) (Z : State) (a0 : Array Value) (hw : ∀ d ∈ tables_1, d.before a0 Z = true) (ws : List Jvm.Cond) (a1 : Addr) (h0 : Heap) (n0 : Nat) (Z0 : n0 ≤ h0.size)   :
    MetFree l (⟨"com/example/allsome/allsome/cypher/PathPattern$Selector", "equals", "(Ljava/lang/Object;)Z"⟩ : MethodName) (head1 (Jvm.Cond.code (⟨"com/example/allsome/allsome/cypher/PathPattern$Selector", "equals", "(Ljava/lang/Object;)Z"⟩ : MethodName) prog_97_method_4_code 3 (some .boolean) :: ws) ({ frames := 0, cells := 0, slots := 0, locals := 0 } : Room)) (fun a U => a = #[(.ref a1), .null] ∧ Z.Warmed39 U.vm ∧ U.heap = h0) (fun _ _ _ _ _ => True) (fun _ U o U' => ∃ v L, o = .returned v ∧ Q_rmEqNull Z a1 h0 n0 v U'.heap L ∧ FrameEnd U o U' L ({ frames := 0, cells := 0, slots := 0, locals := 0 } : Room).cells ({ frames := 0, cells := 0, slots := 0, locals := 0 } : Room).slots) := by
  refine MetFree.of_bodySF (plainFor_of_name pn_1) hisR ?_
  intro p e s m args below meth c s₁ Bd hml0 hP hK
  obtain ⟨rfl, hZ, hh⟩ := hP
  have hx := Bd.exec
  have hby := Bd.bytes
  have hml : c.maxLocals = 3 := hml0
  have hown : s.vm.findClass "com/example/allsome/allsome/cypher/PathPattern$Selector" = some m.cls := findClass_of_methodNamed Bd.named
  have hnm := (name_of_methodNamed Bd.named Bd.method).1
  have X0 : Stand p l e ({ frames := 0, cells := 0, slots := 0, locals := 0 } : Room) s m #[(.ref a1), .null] below meth c s₁ [] 0 0 := Stand.of_body Bd
  have e0 : s₁.heap = h0 := by rw [← hh, Bd.state]; rfl
  have N0 := Fr.nil n0
  refine own_go (own_lift (fun t k => castTop (ef_rmEqNull m a1) k) ?_)
  show own_Go p.tables e below (s₁.setTop (mkF m 0 #[rv a1, .val .null, .unset] [])) _
  have sg1 : ∀ t, Steps p.tables e below (s₁.setTop (mkF m 8 #[rv a1, .val .null, .unset] [(.int 0)])) t → Steps p.tables e below (s₁.setTop (mkF m 0 #[rv a1, .val .null, .unset] [])) t := by
    intro t k
    refine XS.aloadN X0.here hx rfl (hb hby d3_0) rfl rfl ?_
    show Steps p.tables e below (s₁.setTop (mkF m 1 #[rv a1, .val .null, .unset] [.null])) _
    refine X0.instanceofNull hx (g := (mkF m 1 #[rv a1, .val .null, .unset] [.null])) rfl rfl (hb hby d3_1) _ ?_
    show Steps p.tables e below (s₁.setTop (mkF m 4 #[rv a1, .val .null, .unset] [(.int 0)])) _
    refine XS.ifNo X0.here hx rfl (hb hby d3_4) rfl ((if0 _ _).trans (teq (by decide : (0 : Int32) = (0 : Int32))).2) ?_
    show Steps p.tables e below (s₁.setTop (mkF m 7 #[rv a1, .val .null, .unset] [])) _
    refine XS.iconst X0.here hx rfl (hb hby d3_7) ?_
    show Steps p.tables e below (s₁.setTop (mkF m 8 #[rv a1, .val .null, .unset] [(.int 0)])) _
    exact k
  refine own_lift sg1 ?_
  show own_Go p.tables e below (s₁.setTop (mkF m 8 #[rv a1, .val .null, .unset] [(.int 0)])) _
  obtain ⟨fs, hr, hrun, hended, hW, hsame⟩ := X0.leave (v := some (.int 0)) (fun h => by rw [Bd.returns] at h; cases h)
  refine ⟨_, _, ?_, hrun, hended, _, _, rfl, ?_, ⟨_, rfl⟩, hW, hsame.mono (by decide) (by decide)⟩
  · exact retN X0 hx (t := .boolean) Bd.returns (by simp) (hb hby d3_8) hr
  · show Q_rmEqNull Z a1 h0 n0 _ s₁.heap _
    rw [e0]
    exact ⟨rfl, N0, rfl⟩
def Q_rmEqLong (Z : State) (a1 : Addr) (a2 : Addr) (h0 : Heap) (n0 : Nat) (v : Option Value) (h : Heap) (L : List Loc) : Prop := v = some (.int 0) ∧ Fr n0 L ∧ h = h0
theorem ef_rmEqLong (m : MethodId) (x0 : Addr) (x1 : Addr) : entryFrame m #[(.ref x0), (.ref x1)] 3 = mkF m 0 #[.val (.ref x0), .val (.ref x1), .unset] [] := by first | (simp [entryFrame, mkF, argsToLocals, Value.category]; done) | rfl
set_option maxRecDepth 65536 in
set_option maxHeartbeats 40000000 in
theorem rmEqLong (l : Launch) (Z : State) (a0 : Array Value) (hw : ∀ d ∈ tables_1, d.before a0 Z = true) (ws : List Jvm.Cond) (a1 : Addr) (a2 : Addr) (h0 : Heap) (n0 : Nat) (Z0 : n0 ≤ h0.size) (E2 : Exa Z h0 a2 "java/lang/Long")  :
    MetFree l (⟨"com/example/allsome/allsome/cypher/PathPattern$Selector", "equals", "(Ljava/lang/Object;)Z"⟩ : MethodName) (head1 (Jvm.Cond.code (⟨"com/example/allsome/allsome/cypher/PathPattern$Selector", "equals", "(Ljava/lang/Object;)Z"⟩ : MethodName) prog_97_method_4_code 3 (some .boolean) :: ws) ({ frames := 0, cells := 0, slots := 0, locals := 0 } : Room)) (fun a U => a = #[(.ref a1), (.ref a2)] ∧ Z.Warmed39 U.vm ∧ U.heap = h0) (fun _ _ _ _ _ => True) (fun _ U o U' => ∃ v L, o = .returned v ∧ Q_rmEqLong Z a1 a2 h0 n0 v U'.heap L ∧ FrameEnd U o U' L ({ frames := 0, cells := 0, slots := 0, locals := 0 } : Room).cells ({ frames := 0, cells := 0, slots := 0, locals := 0 } : Room).slots) := by
  refine MetFree.of_bodySF (plainFor_of_name pn_1) hisR ?_
  intro p e s m args below meth c s₁ Bd hml0 hP hK
  obtain ⟨rfl, hZ, hh⟩ := hP
  have hx := Bd.exec
  have hby := Bd.bytes
  have hml : c.maxLocals = 3 := hml0
  have hown : s.vm.findClass "com/example/allsome/allsome/cypher/PathPattern$Selector" = some m.cls := findClass_of_methodNamed Bd.named
  have hnm := (name_of_methodNamed Bd.named Bd.method).1
  have X0 : Stand p l e ({ frames := 0, cells := 0, slots := 0, locals := 0 } : Room) s m #[(.ref a1), (.ref a2)] below meth c s₁ [] 0 0 := Stand.of_body Bd
  have e0 : s₁.heap = h0 := by rw [← hh, Bd.state]; rfl
  have N0 := Fr.nil n0
  refine own_go (own_lift (fun t k => castTop (ef_rmEqLong m a1 a2) k) ?_)
  show own_Go p.tables e below (s₁.setTop (mkF m 0 #[rv a1, rv a2, .unset] [])) _
  have sg1 : ∀ t, Steps p.tables e below (s₁.setTop (mkF m 1 #[rv a1, rv a2, .unset] [(.ref a2)])) t → Steps p.tables e below (s₁.setTop (mkF m 0 #[rv a1, rv a2, .unset] [])) t := by
    intro t k
    refine XS.aloadN X0.here hx rfl (hb hby d3_0) rfl rfl ?_
    show Steps p.tables e below (s₁.setTop (mkF m 1 #[rv a1, rv a2, .unset] [(.ref a2)])) _
    exact k
  refine own_lift sg1 ?_
  show own_Go p.tables e below (s₁.setTop (mkF m 1 #[rv a1, rv a2, .unset] [(.ref a2)])) _
  obtain ⟨T2, X2, e2, st2⟩ := instNo X0 hx hZ hown (wd hw 35 rfl) e0 E2 (own_no (wd hw 54 rfl) (wd hw 1 rfl) (NS.step (wd hw 54 rfl) (NS.step (wd hw 55 rfl) (own_root (wd hw 56 rfl) (wd hw 1 rfl) (by decide)) (by decide)) (by decide)) (by decide)) (g := (mkF m 1 #[rv a1, rv a2, .unset] [(.ref a2)])) rfl rfl (hb hby d3_1)
  refine own_lift st2 ?_
  show own_Go p.tables e below (T2.setTop (mkF m 4 #[rv a1, rv a2, .unset] [(.int 0)])) _
  have sg3 : ∀ t, Steps p.tables e below (T2.setTop (mkF m 8 #[rv a1, rv a2, .unset] [(.int 0)])) t → Steps p.tables e below (T2.setTop (mkF m 4 #[rv a1, rv a2, .unset] [(.int 0)])) t := by
    intro t k
    refine XS.ifNo X2.here hx rfl (hb hby d3_4) rfl ((if0 _ _).trans (teq (by decide : (0 : Int32) = (0 : Int32))).2) ?_
    show Steps p.tables e below (T2.setTop (mkF m 7 #[rv a1, rv a2, .unset] [])) _
    refine XS.iconst X2.here hx rfl (hb hby d3_7) ?_
    show Steps p.tables e below (T2.setTop (mkF m 8 #[rv a1, rv a2, .unset] [(.int 0)])) _
    exact k
  refine own_lift sg3 ?_
  show own_Go p.tables e below (T2.setTop (mkF m 8 #[rv a1, rv a2, .unset] [(.int 0)])) _
  obtain ⟨fs, hr, hrun, hended, hW, hsame⟩ := X2.leave (v := some (.int 0)) (fun h => by rw [Bd.returns] at h; cases h)
  refine ⟨_, _, ?_, hrun, hended, _, _, rfl, ?_, ⟨_, rfl⟩, hW, hsame.mono (by decide) (by decide)⟩
  · exact retN X2 hx (t := .boolean) Bd.returns (by simp) (hb hby d3_8) hr
  · show Q_rmEqLong Z a1 a2 h0 n0 _ T2.heap _
    rw [e2]
    exact ⟨rfl, N0, rfl⟩
theorem pn_2 : plainName "java/lang/Number" = true := by first | (simp [plainName, overriddenIn]; done) | decide +kernel
theorem d4_0 : decode jdk_18_method_1_code 0 = .ok (.aload_n 0, 1) := by decide +kernel
theorem d4_1 : decode jdk_18_method_1_code 1 = .ok (.invokespecial 1, 3) := by decide +kernel
theorem d4_4 : decode jdk_18_method_1_code 4 = .ok (.return_, 1) := by decide +kernel
def Q_rmNum (Z : State) (a1 : Addr) (h0 : Heap) (n0 : Nat) (v : Option Value) (h : Heap) (L : List Loc) : Prop := v = none ∧ Fr n0 L ∧ h = h0
theorem ef_rmNum (m : MethodId) (x0 : Addr) : entryFrame m #[(.ref x0)] 1 = mkF m 0 #[.val (.ref x0)] [] := by first | (simp [entryFrame, mkF, argsToLocals, Value.category]; done) | rfl
set_option maxRecDepth 65536 in
set_option maxHeartbeats 40000000 in
theorem rmNum (l : Launch) (Z : State) (a0 : Array Value) (hw : ∀ d ∈ tables_1, d.before a0 Z = true) (ws : List Jvm.Cond) (a1 : Addr) (h0 : Heap) (n0 : Nat) (Z0 : n0 ≤ h0.size)   :
    MetFree l (⟨"java/lang/Number", "<init>", "()V"⟩ : MethodName) (head1 (Jvm.Cond.code (⟨"java/lang/Number", "<init>", "()V"⟩ : MethodName) jdk_18_method_1_code 1 none :: ws) ({ frames := 1, cells := 0, slots := 0, locals := 12 } : Room)) (fun a U => a = #[(.ref a1)] ∧ Z.Warmed39 U.vm ∧ U.heap = h0) (fun _ _ _ _ _ => True) (fun _ U o U' => ∃ v L, o = .returned v ∧ Q_rmNum Z a1 h0 n0 v U'.heap L ∧ FrameEnd U o U' L ({ frames := 1, cells := 0, slots := 0, locals := 12 } : Room).cells ({ frames := 1, cells := 0, slots := 0, locals := 12 } : Room).slots) := by
  refine MetFree.of_bodySF (plainFor_of_name pn_2) hisR ?_
  intro p e s m args below meth c s₁ Bd hml0 hP hK
  obtain ⟨rfl, hZ, hh⟩ := hP
  have hx := Bd.exec
  have hby := Bd.bytes
  have hml : c.maxLocals = 1 := hml0
  have hown : s.vm.findClass "java/lang/Number" = some m.cls := findClass_of_methodNamed Bd.named
  have hnm := (name_of_methodNamed Bd.named Bd.method).1
  have X0 : Stand p l e ({ frames := 1, cells := 0, slots := 0, locals := 12 } : Room) s m #[(.ref a1)] below meth c s₁ [] 0 0 := Stand.of_body Bd
  have e0 : s₁.heap = h0 := by rw [← hh, Bd.state]; rfl
  have N0 := Fr.nil n0
  refine own_go (own_lift (fun t k => castTop (ef_rmNum m a1) k) ?_)
  show own_Go p.tables e below (s₁.setTop (mkF m 0 #[rv a1] [])) _
  have sg1 : ∀ t, Steps p.tables e below (s₁.setTop (mkF m 1 #[rv a1] [(.ref a1)])) t → Steps p.tables e below (s₁.setTop (mkF m 0 #[rv a1] [])) t := by
    intro t k
    refine XS.aloadN X0.here hx rfl (hb hby d4_0) rfl rfl ?_
    show Steps p.tables e below (s₁.setTop (mkF m 1 #[rv a1] [(.ref a1)])) _
    exact k
  refine own_lift sg1 ?_
  show own_Go p.tables e below (s₁.setTop (mkF m 1 #[rv a1] [(.ref a1)])) _
  obtain ⟨T2, X2, e2, st2⟩ := initO X0 hx hZ hown (wd hw 51 rfl) (wd hw 14 rfl) (wd hw 15 rfl) e0 (g := (mkF m 1 #[rv a1] [(.ref a1)])) rfl (by rw [hml]; rfl) rfl (hb hby d4_1) (by decide) (W := 0) (by show 2 * 0 + _ ≤ _; exact Nat.le_of_eq rfl) (by decide)
  refine own_lift st2 ?_
  show own_Go p.tables e below (T2.setTop (mkF m 4 #[rv a1] [])) _
  obtain ⟨fs, hr, hrun, hended, hW, hsame⟩ := X2.leave (v := none) (fun _ => rfl)
  refine ⟨_, _, ?_, hrun, hended, _, _, rfl, ?_, ⟨_, rfl⟩, hW, hsame.mono (by decide) (by decide)⟩
  · exact X2.returnOut hx Bd.returns (hb hby d4_4) hr
  · show Q_rmNum Z a1 h0 n0 _ T2.heap _
    rw [e2]
    exact ⟨rfl, N0, rfl⟩
theorem pn_3 : plainName "java/lang/Long" = true := by first | (simp [plainName, overriddenIn]; done) | decide +kernel
theorem d5_0 : decode jdk_35_method_26_code 0 = .ok (.aload_n 0, 1) := by decide +kernel
theorem d5_1 : decode jdk_35_method_26_code 1 = .ok (.invokespecial 270, 3) := by decide +kernel
theorem pd_0 : parseMethodDescriptor "()V" = some ⟨[], none⟩ := by decide +kernel
theorem d5_4 : decode jdk_35_method_26_code 4 = .ok (.aload_n 0, 1) := by decide +kernel
theorem d5_5 : decode jdk_35_method_26_code 5 = .ok (.lload_n 1, 1) := by decide +kernel
theorem d5_6 : decode jdk_35_method_26_code 6 = .ok (.putfield 273, 3) := by decide +kernel
theorem d5_9 : decode jdk_35_method_26_code 9 = .ok (.return_, 1) := by decide +kernel
def Q_rmLInit (Z : State) (a1 : Addr) (q1 : Int64) (h0 : Heap) (n0 : Nat) (v : Option Value) (h : Heap) (L : List Loc) : Prop := v = none ∧ Fr n0 L ∧ Keep h0 h [a1] ∧ Exa Z h a1 "java/lang/Long" ∧ Fld Z h a1 "java/lang/Long" "value" "J" (.long q1)
theorem ef_rmLInit (m : MethodId) (x0 : Addr) (x1 : Int64) : entryFrame m #[(.ref x0), (.long x1)] 3 = mkF m 0 #[.val (.ref x0), .val (.long x1), .second] [] := by first | (simp [entryFrame, mkF, argsToLocals, Value.category]; done) | rfl
set_option maxRecDepth 65536 in
set_option maxHeartbeats 40000000 in
theorem rmLInit (l : Launch) (Z : State) (a0 : Array Value) (hw : ∀ d ∈ tables_1, d.before a0 Z = true) (ws : List Jvm.Cond) (a1 : Addr) (q1 : Int64) (h0 : Heap) (n0 : Nat) (Z0 : n0 ≤ h0.size) (F1 : Fld Z h0 a1 "java/lang/Long" "value" "J" (.long 0)) (E1 : Exa Z h0 a1 "java/lang/Long") (G1 : n0 ≤ a1)  :
    MetFree l (⟨"java/lang/Long", "<init>", "(J)V"⟩ : MethodName) (head1 (Jvm.Cond.code (⟨"java/lang/Long", "<init>", "(J)V"⟩ : MethodName) jdk_35_method_26_code 3 none :: ws) ({ frames := 2, cells := 0, slots := 0, locals := 24 } : Room)) (fun a U => a = #[(.ref a1), (.long q1)] ∧ Z.Warmed39 U.vm ∧ U.heap = h0) (fun _ _ _ _ _ => True) (fun _ U o U' => ∃ v L, o = .returned v ∧ Q_rmLInit Z a1 q1 h0 n0 v U'.heap L ∧ FrameEnd U o U' L ({ frames := 2, cells := 0, slots := 0, locals := 24 } : Room).cells ({ frames := 2, cells := 0, slots := 0, locals := 24 } : Room).slots) := by
  refine MetFree.of_bodySF (plainFor_of_name pn_3) hisR ?_
  intro p e s m args below meth c s₁ Bd hml0 hP hK
  obtain ⟨rfl, hZ, hh⟩ := hP
  have hx := Bd.exec
  have hby := Bd.bytes
  have hml : c.maxLocals = 3 := hml0
  have hown : s.vm.findClass "java/lang/Long" = some m.cls := findClass_of_methodNamed Bd.named
  have hnm := (name_of_methodNamed Bd.named Bd.method).1
  have X0 : Stand p l e ({ frames := 2, cells := 0, slots := 0, locals := 24 } : Room) s m #[(.ref a1), (.long q1)] below meth c s₁ [] 0 0 := Stand.of_body Bd
  have e0 : s₁.heap = h0 := by rw [← hh, Bd.state]; rfl
  have N0 := Fr.nil n0
  refine own_go (own_lift (fun t k => castTop (ef_rmLInit m a1 q1) k) ?_)
  show own_Go p.tables e below (s₁.setTop (mkF m 0 #[rv a1, jv q1, .second] [])) _
  have sg1 : ∀ t, Steps p.tables e below (s₁.setTop (mkF m 1 #[rv a1, jv q1, .second] [(.ref a1)])) t → Steps p.tables e below (s₁.setTop (mkF m 0 #[rv a1, jv q1, .second] [])) t := by
    intro t k
    refine XS.aloadN X0.here hx rfl (hb hby d5_0) rfl rfl ?_
    show Steps p.tables e below (s₁.setTop (mkF m 1 #[rv a1, jv q1, .second] [(.ref a1)])) _
    exact k
  refine own_lift sg1 ?_
  show own_Go p.tables e below (s₁.setTop (mkF m 1 #[rv a1, jv q1, .second] [(.ref a1)])) _
  obtain ⟨_, _, ⟨T2, Lx2, kx2, nx2⟩, -, X2, ⟨Lc2, hQ2, lx2, yx2, zx2⟩, st2⟩ := X0.specialBack hx (y := (⟨"java/lang/Number", "<init>", "()V"⟩ : MethodName)) rfl hown (mvT hZ (wd hw 45 rfl)) (mvT hZ (wd hw 46 rfl)) (mvT hZ (wd hw 50 rfl)) (by decide) (backOf (W := 0) (rmNum l Z a0 hw [] a1 h0 n0 Z0 ) hZ (wd hw 50 rfl) (wd hw 49 rfl) (by decide) (by decide)) (g := (mkF m 1 #[rv a1, jv q1, .second] [(.ref a1)])) rfl (by rw [hml]; rfl) (Steps.refl _) (a := a1) (argsL := []) (rest := []) (lenOf pd_0 rfl) rfl (by show 2 * 0 + _ ≤ _; exact Nat.le_of_eq rfl) (hb hby d5_1) (fun _ _ => ⟨rfl, e0, (by decide : 0 + 0 ≤ _), (by decide : 0 + 0 ≤ _)⟩)
  dsimp only [Pt.U, Pt.locs, Pt.cells, Pt.slots] at X2 lx2 yx2 zx2 st2 hQ2
  subst lx2 yx2 zx2
  obtain ⟨rfl, N2q, e2⟩ := hQ2
  have N2 := Fr.app N0 N2q
  refine own_lift (fun t k => st2.trans k) ?_
  show own_Go p.tables e below (T2.setTop (mkF m 4 #[rv a1, jv q1, .second] [])) _
  have sg3 : ∀ t, Steps p.tables e below (T2.setTop (mkF m 6 #[rv a1, jv q1, .second] [(.long q1), (.ref a1)])) t → Steps p.tables e below (T2.setTop (mkF m 4 #[rv a1, jv q1, .second] [])) t := by
    intro t k
    refine XS.aloadN X2.here hx rfl (hb hby d5_4) rfl rfl ?_
    show Steps p.tables e below (T2.setTop (mkF m 5 #[rv a1, jv q1, .second] [(.ref a1)])) _
    refine XS.lloadN X2.here hx rfl (hb hby d5_5) rfl ?_
    show Steps p.tables e below (T2.setTop (mkF m 6 #[rv a1, jv q1, .second] [(.long q1), (.ref a1)])) _
    exact k
  refine own_lift sg3 ?_
  show own_Go p.tables e below (T2.setTop (mkF m 6 #[rv a1, jv q1, .second] [(.long q1), (.ref a1)])) _
  obtain ⟨T4, h4, X4, e4, W4, st4⟩ := putF X2 hx hZ hown (host := "") (Or.inl (wd hw 52 rfl)) Via.refl e2 F1 E1 (Or.inr ⟨(wd hw 53 rfl), rfl, hnm⟩) (wd hw 40 rfl) (ty := .long) (by decide) rfl rfl (g := (mkF m 6 #[rv a1, jv q1, .second] [(.long q1), (.ref a1)])) rfl rfl (hb hby d5_6)
  have N4 := Fr.snoc X4 N2 G1
  have Z4 : n0 ≤ h4.size := Nat.le_trans Z0 (Nat.le_of_eq W4.size.symm)
  have K4 : Keep h0 h4 [a1] := (Keep.refl h0 [a1]).wr W4 (Or.inl (List.mem_of_getElem? (i := 0) rfl))
  have Fw4 : Fld Z h4 a1 "java/lang/Long" "value" "J" (.long q1) := F1.same W4
  refine own_lift st4 ?_
  show own_Go p.tables e below (T4.setTop (mkF m 9 #[rv a1, jv q1, .second] [])) _
  obtain ⟨fs, hr, hrun, hended, hW, hsame⟩ := X4.leave (v := none) (fun _ => rfl)
  have Fc5 : Exa Z h4 a1 "java/lang/Long" := (E1.wr W4)
  refine ⟨_, _, ?_, hrun, hended, _, _, rfl, ?_, ⟨_, rfl⟩, hW, hsame.mono (by decide) (by decide)⟩
  · exact X4.returnOut hx Bd.returns (hb hby d5_9) hr
  · show Q_rmLInit Z a1 q1 h0 n0 _ T4.heap _
    rw [e4]
    exact ⟨rfl, N4, K4, Fc5, Fw4⟩
theorem d6_0 : decode jdk_35_method_24_code 0 = .ok (.sipush 128, 3) := by decide +kernel
theorem d6_3 : decode jdk_35_method_24_code 3 = .ok (.istore_n 2, 1) := by decide +kernel
theorem d6_4 : decode jdk_35_method_24_code 4 = .ok (.lload_n 0, 1) := by decide +kernel
theorem d6_5 : decode jdk_35_method_24_code 5 = .ok (.ldc2_w 230, 3) := by decide +kernel
theorem d6_8 : decode jdk_35_method_24_code 8 = .ok (.lcmp, 1) := by decide +kernel
theorem d6_9 : decode jdk_35_method_24_code 9 = .ok (.ifCond .lt 22, 3) := by decide +kernel
theorem d6_31 : decode jdk_35_method_24_code 31 = .ok (.new 1, 3) := by decide +kernel
theorem d6_34 : decode jdk_35_method_24_code 34 = .ok (.dup, 1) := by decide +kernel
theorem d6_35 : decode jdk_35_method_24_code 35 = .ok (.lload_n 0, 1) := by decide +kernel
theorem d6_36 : decode jdk_35_method_24_code 36 = .ok (.invokespecial 240, 3) := by decide +kernel
theorem pd_1 : parseMethodDescriptor "(J)V" = some ⟨[.long], none⟩ := by decide +kernel
theorem d6_39 : decode jdk_35_method_24_code 39 = .ok (.areturn, 1) := by decide +kernel
def Q_rmVal (Z : State) (q1 : Int64) (h0 : Heap) (n0 : Nat) (v : Option Value) (h : Heap) (L : List Loc) : Prop := ∃ b : Addr, v = some (.ref b) ∧ Fr n0 L ∧ Keep h0 h [] ∧ Exa Z h b "java/lang/Long"
theorem ef_rmValL (m : MethodId) (x0 : Int64) : entryFrame m #[(.long x0)] 3 = mkF m 0 #[.val (.long x0), .second, .unset] [] := by first | (simp [entryFrame, mkF, argsToLocals, Value.category]; done) | rfl
set_option maxRecDepth 65536 in
set_option maxHeartbeats 40000000 in
theorem rmValL (l : Launch) (Z : State) (a0 : Array Value) (hw : ∀ d ∈ tables_1, d.before a0 Z = true) (ws : List Jvm.Cond) (q1 : Int64) (ca : Addr) (cc : Cell) (h0 : Heap) (n0 : Nat) (Z0 : n0 ≤ h0.size) (S2 : Sta Z h0 "java/lang/Long$LongCache" "cache" "[Ljava/lang/Long;" (.ref ca)) (A1 : Arr Z h0 ca cc (.object "java/lang/Long")) (c1 : q1 < (-128 : Int64)) :
    MetFree l (⟨"java/lang/Long", "valueOf", "(J)Ljava/lang/Long;"⟩ : MethodName) (head1 (Jvm.Cond.code (⟨"java/lang/Long", "valueOf", "(J)Ljava/lang/Long;"⟩ : MethodName) jdk_35_method_24_code 3 (some (.object "java/lang/Long")) :: ws) ({ frames := 3, cells := 1, slots := 1, locals := 39 } : Room)) (fun a U => a = #[(.long q1)] ∧ Z.Warmed39 U.vm ∧ U.heap = h0) (fun _ _ _ _ _ => True) (fun _ U o U' => ∃ v L, o = .returned v ∧ Q_rmVal Z q1 h0 n0 v U'.heap L ∧ FrameEnd U o U' L ({ frames := 3, cells := 1, slots := 1, locals := 39 } : Room).cells ({ frames := 3, cells := 1, slots := 1, locals := 39 } : Room).slots) := by
  refine MetFree.of_bodySF (plainFor_of_name pn_3) hisR ?_
  intro p e s m args below meth c s₁ Bd hml0 hP hK
  obtain ⟨rfl, hZ, hh⟩ := hP
  have hx := Bd.exec
  have hby := Bd.bytes
  have hml : c.maxLocals = 3 := hml0
  have hown : s.vm.findClass "java/lang/Long" = some m.cls := findClass_of_methodNamed Bd.named
  have hnm := (name_of_methodNamed Bd.named Bd.method).1
  have X0 : Stand p l e ({ frames := 3, cells := 1, slots := 1, locals := 39 } : Room) s m #[(.long q1)] below meth c s₁ [] 0 0 := Stand.of_body Bd
  have e0 : s₁.heap = h0 := by rw [← hh, Bd.state]; rfl
  have N0 := Fr.nil n0
  refine own_go (own_lift (fun t k => castTop (ef_rmValL m q1) k) ?_)
  show own_Go p.tables e below (s₁.setTop (mkF m 0 #[jv q1, .second, .unset] [])) _
  have sg1 : ∀ t, Steps p.tables e below (s₁.setTop (mkF m 31 #[jv q1, .second, iv 128] [])) t → Steps p.tables e below (s₁.setTop (mkF m 0 #[jv q1, .second, .unset] [])) t := by
    intro t k
    refine XS.sipush X0.here hx rfl (hb hby d6_0) ?_
    show Steps p.tables e below (s₁.setTop (mkF m 3 #[jv q1, .second, .unset] [(.int 128)])) _
    refine XS.istoreN X0.here hx rfl (hb hby d6_3) rfl (l' := #[jv q1, .second, iv 128]) rfl ?_
    show Steps p.tables e below (s₁.setTop (mkF m 4 #[jv q1, .second, iv 128] [])) _
    refine XS.lloadN X0.here hx rfl (hb hby d6_4) rfl ?_
    show Steps p.tables e below (s₁.setTop (mkF m 5 #[jv q1, .second, iv 128] [(.long q1)])) _
    refine X0.ldc2Long hx hown (mvT hZ (wd hw 26 rfl)) (g := (mkF m 5 #[jv q1, .second, iv 128] [(.long q1)])) rfl (hb hby d6_5) _ ?_
    show Steps p.tables e below (s₁.setTop (mkF m 8 #[jv q1, .second, iv 128] [(.long (-128)), (.long q1)])) _
    refine XS.lcmp X0.here hx rfl (hb hby d6_8) rfl ?_
    show Steps p.tables e below (s₁.setTop (mkF m 9 #[jv q1, .second, iv 128] [(.int (lcmpW q1 (-128 : Int64)))])) _
    refine XS.ifYes X0.here hx rfl (pc0 := 9) (pc' := 31) rfl (hb hby d6_9) rfl ((if0 _ _).trans (tlt ((lw_lt q1 (-128 : Int64)).2 c1)).1) (by decide) (by decide) ?_
    show Steps p.tables e below (s₁.setTop (mkF m 31 #[jv q1, .second, iv 128] [])) _
    exact k
  refine own_lift sg1 ?_
  show own_Go p.tables e below (s₁.setTop (mkF m 31 #[jv q1, .second, iv 128] [])) _
  obtain ⟨T2, h2, X2, e2, Ex2, Ax2, Dx2, Ux2, st2⟩ := newO X0 hx hZ hown (wd hw 39 rfl) (wd hw 40 rfl) (wd hw 24 rfl) e0 (g := (mkF m 31 #[jv q1, .second, iv 128] [])) rfl (hb hby d6_31) (by decide) (by decide)
  obtain ⟨ob2, g2⟩ : ∃ z, z = h0.size := ⟨_, rfl⟩
  rw [← g2] at Ax2 Dx2 Ux2 st2
  have ne3 : ca ≠ ob2 := Nat.ne_of_lt (Nat.lt_of_lt_of_le A1.lt (Nat.le_of_eq g2.symm))
  have Z2 : n0 ≤ h2.size := Nat.le_trans Z0 Ex2.1
  have ge2 : n0 ≤ ob2 := Nat.le_trans Z0 (Nat.le_of_eq g2.symm)
  have gh2 : h0.size ≤ ob2 := Nat.le_trans (Keep.refl h0 []).1 (Nat.le_of_eq g2.symm)
  have K2 : Keep h0 h2 [] := (Keep.refl h0 []).ext Ex2
  have Fn2_53 : Fld Z h2 ob2 "java/lang/Long" "value" "J" (.long 0) := Dx2 (Or.inr (wd hw 53 rfl)) (ty := .long) (by decide)
  refine own_lift st2 ?_
  show own_Go p.tables e below (T2.setTop (mkF m 34 #[jv q1, .second, iv 128] [(.ref ob2)])) _
  have sg4 : ∀ t, Steps p.tables e below (T2.setTop (mkF m 36 #[jv q1, .second, iv 128] [(.long q1), (.ref ob2), (.ref ob2)])) t → Steps p.tables e below (T2.setTop (mkF m 34 #[jv q1, .second, iv 128] [(.ref ob2)])) t := by
    intro t k
    refine XS.dup X2.here hx rfl (hb hby d6_34) rfl rfl ?_
    show Steps p.tables e below (T2.setTop (mkF m 35 #[jv q1, .second, iv 128] [(.ref ob2), (.ref ob2)])) _
    refine XS.lloadN X2.here hx rfl (hb hby d6_35) rfl ?_
    show Steps p.tables e below (T2.setTop (mkF m 36 #[jv q1, .second, iv 128] [(.long q1), (.ref ob2), (.ref ob2)])) _
    exact k
  refine own_lift sg4 ?_
  show own_Go p.tables e below (T2.setTop (mkF m 36 #[jv q1, .second, iv 128] [(.long q1), (.ref ob2), (.ref ob2)])) _
  obtain ⟨_, _, ⟨T5, Lx5, kx5, nx5⟩, -, X5, ⟨Lc5, hQ5, lx5, yx5, zx5⟩, st5⟩ := X2.specialBack hx (y := (⟨"java/lang/Long", "<init>", "(J)V"⟩ : MethodName)) rfl hown (mvT hZ (wd hw 41 rfl)) (mvT hZ (wd hw 42 rfl)) (mvT hZ (wd hw 44 rfl)) (by decide) (backOf (W := 1) (rmLInit l Z a0 hw [] ob2 q1 h2 n0 Z2 Fn2_53 Ax2 ge2) hZ (wd hw 44 rfl) (wd hw 24 rfl) (by decide) (by decide)) (g := (mkF m 36 #[jv q1, .second, iv 128] [(.long q1), (.ref ob2), (.ref ob2)])) rfl (by rw [hml]; rfl) (Steps.refl _) (a := ob2) (argsL := [(.long q1)]) (rest := [(.ref ob2)]) (lenOf pd_1 rfl) rfl (by show 2 * 0 + _ ≤ _; exact Nat.le_of_eq rfl) (hb hby d6_36) (fun _ _ => ⟨rfl, e2, (by decide : 1 + 0 ≤ _), (by decide : 1 + 0 ≤ _)⟩)
  dsimp only [Pt.U, Pt.locs, Pt.cells, Pt.slots] at X5 lx5 yx5 zx5 st5 hQ5
  subst lx5 yx5 zx5
  obtain ⟨rfl, N5q, p5_0, p5_1, p5_2⟩ := hQ5
  have N5 := Fr.app N0 N5q
  have Z5 : n0 ≤ T5.heap.size := Nat.le_trans Z2 p5_0.1
  have K5 : Keep h0 T5.heap [] := K2.trans p5_0 (allS (Or.inr gh2) all0)
  refine own_lift (fun t k => st5.trans k) ?_
  show own_Go p.tables e below (T5.setTop (mkF m 39 #[jv q1, .second, iv 128] [(.ref ob2)])) _
  obtain ⟨fs, hr, hrun, hended, hW, hsame⟩ := X5.leave (v := some (.ref ob2)) (fun h => by rw [Bd.returns] at h; cases h)
  refine ⟨_, _, ?_, hrun, hended, _, _, rfl, ?_, ⟨_, rfl⟩, hW, hsame.mono (by decide) (by decide)⟩
  · exact retOut X5 hx Bd.returns rfl (Or.inr (Or.inr (Or.inr (Or.inr ⟨rfl, rfl, rfl⟩)))) (hb hby d6_39) hr
  · show Q_rmVal Z q1 h0 n0 _ T5.heap _
    exact ⟨ob2, rfl, N5, K5, p5_1⟩
theorem d6_12 : decode jdk_35_method_24_code 12 = .ok (.lload_n 0, 1) := by decide +kernel
theorem d6_13 : decode jdk_35_method_24_code 13 = .ok (.ldc2_w 232, 3) := by decide +kernel
theorem d6_16 : decode jdk_35_method_24_code 16 = .ok (.lcmp, 1) := by decide +kernel
theorem d6_17 : decode jdk_35_method_24_code 17 = .ok (.ifCond .gt 14, 3) := by decide +kernel
theorem ef_rmValH (m : MethodId) (x0 : Int64) : entryFrame m #[(.long x0)] 3 = mkF m 0 #[.val (.long x0), .second, .unset] [] := by first | (simp [entryFrame, mkF, argsToLocals, Value.category]; done) | rfl
set_option maxRecDepth 65536 in
set_option maxHeartbeats 40000000 in
theorem rmValH (l : Launch) (Z : State) (a0 : Array Value) (hw : ∀ d ∈ tables_1, d.before a0 Z = true) (ws : List Jvm.Cond) (q1 : Int64) (ca : Addr) (cc : Cell) (h0 : Heap) (n0 : Nat) (Z0 : n0 ≤ h0.size) (S2 : Sta Z h0 "java/lang/Long$LongCache" "cache" "[Ljava/lang/Long;" (.ref ca)) (A1 : Arr Z h0 ca cc (.object "java/lang/Long")) (c1 : ¬ (q1 < (-128 : Int64))) (c2 : (127 : Int64) < q1) :
    MetFree l (⟨"java/lang/Long", "valueOf", "(J)Ljava/lang/Long;"⟩ : MethodName) (head1 (Jvm.Cond.code (⟨"java/lang/Long", "valueOf", "(J)Ljava/lang/Long;"⟩ : MethodName) jdk_35_method_24_code 3 (some (.object "java/lang/Long")) :: ws) ({ frames := 3, cells := 1, slots := 1, locals := 39 } : Room)) (fun a U => a = #[(.long q1)] ∧ Z.Warmed39 U.vm ∧ U.heap = h0) (fun _ _ _ _ _ => True) (fun _ U o U' => ∃ v L, o = .returned v ∧ Q_rmVal Z q1 h0 n0 v U'.heap L ∧ FrameEnd U o U' L ({ frames := 3, cells := 1, slots := 1, locals := 39 } : Room).cells ({ frames := 3, cells := 1, slots := 1, locals := 39 } : Room).slots) := by
  refine MetFree.of_bodySF (plainFor_of_name pn_3) hisR ?_
  intro p e s m args below meth c s₁ Bd hml0 hP hK
  obtain ⟨rfl, hZ, hh⟩ := hP
  have hx := Bd.exec
  have hby := Bd.bytes
  have hml : c.maxLocals = 3 := hml0
  have hown : s.vm.findClass "java/lang/Long" = some m.cls := findClass_of_methodNamed Bd.named
  have hnm := (name_of_methodNamed Bd.named Bd.method).1
  have X0 : Stand p l e ({ frames := 3, cells := 1, slots := 1, locals := 39 } : Room) s m #[(.long q1)] below meth c s₁ [] 0 0 := Stand.of_body Bd
  have e0 : s₁.heap = h0 := by rw [← hh, Bd.state]; rfl
  have N0 := Fr.nil n0
  refine own_go (own_lift (fun t k => castTop (ef_rmValH m q1) k) ?_)
  show own_Go p.tables e below (s₁.setTop (mkF m 0 #[jv q1, .second, .unset] [])) _
  have sg1 : ∀ t, Steps p.tables e below (s₁.setTop (mkF m 31 #[jv q1, .second, iv 128] [])) t → Steps p.tables e below (s₁.setTop (mkF m 0 #[jv q1, .second, .unset] [])) t := by
    intro t k
    refine XS.sipush X0.here hx rfl (hb hby d6_0) ?_
    show Steps p.tables e below (s₁.setTop (mkF m 3 #[jv q1, .second, .unset] [(.int 128)])) _
    refine XS.istoreN X0.here hx rfl (hb hby d6_3) rfl (l' := #[jv q1, .second, iv 128]) rfl ?_
    show Steps p.tables e below (s₁.setTop (mkF m 4 #[jv q1, .second, iv 128] [])) _
    refine XS.lloadN X0.here hx rfl (hb hby d6_4) rfl ?_
    show Steps p.tables e below (s₁.setTop (mkF m 5 #[jv q1, .second, iv 128] [(.long q1)])) _
    refine X0.ldc2Long hx hown (mvT hZ (wd hw 26 rfl)) (g := (mkF m 5 #[jv q1, .second, iv 128] [(.long q1)])) rfl (hb hby d6_5) _ ?_
    show Steps p.tables e below (s₁.setTop (mkF m 8 #[jv q1, .second, iv 128] [(.long (-128)), (.long q1)])) _
    refine XS.lcmp X0.here hx rfl (hb hby d6_8) rfl ?_
    show Steps p.tables e below (s₁.setTop (mkF m 9 #[jv q1, .second, iv 128] [(.int (lcmpW q1 (-128 : Int64)))])) _
    refine XS.ifNo X0.here hx rfl (hb hby d6_9) rfl ((if0 _ _).trans (flt (fun q => c1 ((lw_lt q1 (-128 : Int64)).1 q))).1) ?_
    show Steps p.tables e below (s₁.setTop (mkF m 12 #[jv q1, .second, iv 128] [])) _
    refine XS.lloadN X0.here hx rfl (hb hby d6_12) rfl ?_
    show Steps p.tables e below (s₁.setTop (mkF m 13 #[jv q1, .second, iv 128] [(.long q1)])) _
    refine X0.ldc2Long hx hown (mvT hZ (wd hw 27 rfl)) (g := (mkF m 13 #[jv q1, .second, iv 128] [(.long q1)])) rfl (hb hby d6_13) _ ?_
    show Steps p.tables e below (s₁.setTop (mkF m 16 #[jv q1, .second, iv 128] [(.long 127), (.long q1)])) _
    refine XS.lcmp X0.here hx rfl (hb hby d6_16) rfl ?_
    show Steps p.tables e below (s₁.setTop (mkF m 17 #[jv q1, .second, iv 128] [(.int (lcmpW q1 (127 : Int64)))])) _
    refine XS.ifYes X0.here hx rfl (pc0 := 17) (pc' := 31) rfl (hb hby d6_17) rfl ((if0 _ _).trans (tlt ((lw_gt q1 (127 : Int64)).2 c2)).2.2.1) (by decide) (by decide) ?_
    show Steps p.tables e below (s₁.setTop (mkF m 31 #[jv q1, .second, iv 128] [])) _
    exact k
  refine own_lift sg1 ?_
  show own_Go p.tables e below (s₁.setTop (mkF m 31 #[jv q1, .second, iv 128] [])) _
  obtain ⟨T2, h2, X2, e2, Ex2, Ax2, Dx2, Ux2, st2⟩ := newO X0 hx hZ hown (wd hw 39 rfl) (wd hw 40 rfl) (wd hw 24 rfl) e0 (g := (mkF m 31 #[jv q1, .second, iv 128] [])) rfl (hb hby d6_31) (by decide) (by decide)
  obtain ⟨ob2, g2⟩ : ∃ z, z = h0.size := ⟨_, rfl⟩
  rw [← g2] at Ax2 Dx2 Ux2 st2
  have ne3 : ca ≠ ob2 := Nat.ne_of_lt (Nat.lt_of_lt_of_le A1.lt (Nat.le_of_eq g2.symm))
  have Z2 : n0 ≤ h2.size := Nat.le_trans Z0 Ex2.1
  have ge2 : n0 ≤ ob2 := Nat.le_trans Z0 (Nat.le_of_eq g2.symm)
  have gh2 : h0.size ≤ ob2 := Nat.le_trans (Keep.refl h0 []).1 (Nat.le_of_eq g2.symm)
  have K2 : Keep h0 h2 [] := (Keep.refl h0 []).ext Ex2
  have Fn2_53 : Fld Z h2 ob2 "java/lang/Long" "value" "J" (.long 0) := Dx2 (Or.inr (wd hw 53 rfl)) (ty := .long) (by decide)
  refine own_lift st2 ?_
  show own_Go p.tables e below (T2.setTop (mkF m 34 #[jv q1, .second, iv 128] [(.ref ob2)])) _
  have sg4 : ∀ t, Steps p.tables e below (T2.setTop (mkF m 36 #[jv q1, .second, iv 128] [(.long q1), (.ref ob2), (.ref ob2)])) t → Steps p.tables e below (T2.setTop (mkF m 34 #[jv q1, .second, iv 128] [(.ref ob2)])) t := by
    intro t k
    refine XS.dup X2.here hx rfl (hb hby d6_34) rfl rfl ?_
    show Steps p.tables e below (T2.setTop (mkF m 35 #[jv q1, .second, iv 128] [(.ref ob2), (.ref ob2)])) _
    refine XS.lloadN X2.here hx rfl (hb hby d6_35) rfl ?_
    show Steps p.tables e below (T2.setTop (mkF m 36 #[jv q1, .second, iv 128] [(.long q1), (.ref ob2), (.ref ob2)])) _
    exact k
  refine own_lift sg4 ?_
  show own_Go p.tables e below (T2.setTop (mkF m 36 #[jv q1, .second, iv 128] [(.long q1), (.ref ob2), (.ref ob2)])) _
  obtain ⟨_, _, ⟨T5, Lx5, kx5, nx5⟩, -, X5, ⟨Lc5, hQ5, lx5, yx5, zx5⟩, st5⟩ := X2.specialBack hx (y := (⟨"java/lang/Long", "<init>", "(J)V"⟩ : MethodName)) rfl hown (mvT hZ (wd hw 41 rfl)) (mvT hZ (wd hw 42 rfl)) (mvT hZ (wd hw 44 rfl)) (by decide) (backOf (W := 1) (rmLInit l Z a0 hw [] ob2 q1 h2 n0 Z2 Fn2_53 Ax2 ge2) hZ (wd hw 44 rfl) (wd hw 24 rfl) (by decide) (by decide)) (g := (mkF m 36 #[jv q1, .second, iv 128] [(.long q1), (.ref ob2), (.ref ob2)])) rfl (by rw [hml]; rfl) (Steps.refl _) (a := ob2) (argsL := [(.long q1)]) (rest := [(.ref ob2)]) (lenOf pd_1 rfl) rfl (by show 2 * 0 + _ ≤ _; exact Nat.le_of_eq rfl) (hb hby d6_36) (fun _ _ => ⟨rfl, e2, (by decide : 1 + 0 ≤ _), (by decide : 1 + 0 ≤ _)⟩)
  dsimp only [Pt.U, Pt.locs, Pt.cells, Pt.slots] at X5 lx5 yx5 zx5 st5 hQ5
  subst lx5 yx5 zx5
  obtain ⟨rfl, N5q, p5_0, p5_1, p5_2⟩ := hQ5
  have N5 := Fr.app N0 N5q
  have Z5 : n0 ≤ T5.heap.size := Nat.le_trans Z2 p5_0.1
  have K5 : Keep h0 T5.heap [] := K2.trans p5_0 (allS (Or.inr gh2) all0)
  refine own_lift (fun t k => st5.trans k) ?_
  show own_Go p.tables e below (T5.setTop (mkF m 39 #[jv q1, .second, iv 128] [(.ref ob2)])) _
  obtain ⟨fs, hr, hrun, hended, hW, hsame⟩ := X5.leave (v := some (.ref ob2)) (fun h => by rw [Bd.returns] at h; cases h)
  refine ⟨_, _, ?_, hrun, hended, _, _, rfl, ?_, ⟨_, rfl⟩, hW, hsame.mono (by decide) (by decide)⟩
  · exact retOut X5 hx Bd.returns rfl (Or.inr (Or.inr (Or.inr (Or.inr ⟨rfl, rfl, rfl⟩)))) (hb hby d6_39) hr
  · show Q_rmVal Z q1 h0 n0 _ T5.heap _
    exact ⟨ob2, rfl, N5, K5, p5_1⟩
theorem d6_20 : decode jdk_35_method_24_code 20 = .ok (.getstatic 234, 3) := by decide +kernel
theorem d6_23 : decode jdk_35_method_24_code 23 = .ok (.lload_n 0, 1) := by decide +kernel
theorem d6_24 : decode jdk_35_method_24_code 24 = .ok (.l2i, 1) := by decide +kernel
theorem d6_25 : decode jdk_35_method_24_code 25 = .ok (.sipush 128, 3) := by decide +kernel
theorem d6_28 : decode jdk_35_method_24_code 28 = .ok (.iadd, 1) := by decide +kernel
theorem d6_29 : decode jdk_35_method_24_code 29 = .ok (.aaload, 1) := by decide +kernel
theorem d6_30 : decode jdk_35_method_24_code 30 = .ok (.areturn, 1) := by decide +kernel
theorem ef_rmValC (m : MethodId) (x0 : Int64) : entryFrame m #[(.long x0)] 3 = mkF m 0 #[.val (.long x0), .second, .unset] [] := by first | (simp [entryFrame, mkF, argsToLocals, Value.category]; done) | rfl
set_option maxRecDepth 65536 in
set_option maxHeartbeats 40000000 in
theorem rmValC (l : Launch) (Z : State) (a0 : Array Value) (hw : ∀ d ∈ tables_1, d.before a0 Z = true) (ws : List Jvm.Cond) (q1 : Int64) (ca : Addr) (cc : Cell) (bx : Addr) (h0 : Heap) (n0 : Nat) (Z0 : n0 ≤ h0.size) (S2 : Sta Z h0 "java/lang/Long$LongCache" "cache" "[Ljava/lang/Long;" (.ref ca)) (A1 : Arr Z h0 ca cc (.object "java/lang/Long")) (E1 : Exa Z h0 bx "java/lang/Long") (c1 : ¬ (q1 < (-128 : Int64))) (c2 : ¬ ((127 : Int64) < q1)) (hin : ¬ (((q1.toInt32) + (128 : Int32)) < 0 ∨ cc.slots.size ≤ (((q1.toInt32) + (128 : Int32))).toNatClampNeg)) (hat : cc.slots[(((q1.toInt32) + (128 : Int32))).toNatClampNeg]? = some (.ref bx)) :
    MetFree l (⟨"java/lang/Long", "valueOf", "(J)Ljava/lang/Long;"⟩ : MethodName) (head1 (Jvm.Cond.code (⟨"java/lang/Long", "valueOf", "(J)Ljava/lang/Long;"⟩ : MethodName) jdk_35_method_24_code 3 (some (.object "java/lang/Long")) :: ws) ({ frames := 3, cells := 1, slots := 1, locals := 39 } : Room)) (fun a U => a = #[(.long q1)] ∧ Z.Warmed39 U.vm ∧ U.heap = h0) (fun _ _ _ _ _ => True) (fun _ U o U' => ∃ v L, o = .returned v ∧ Q_rmVal Z q1 h0 n0 v U'.heap L ∧ FrameEnd U o U' L ({ frames := 3, cells := 1, slots := 1, locals := 39 } : Room).cells ({ frames := 3, cells := 1, slots := 1, locals := 39 } : Room).slots) := by
  refine MetFree.of_bodySF (plainFor_of_name pn_3) hisR ?_
  intro p e s m args below meth c s₁ Bd hml0 hP hK
  obtain ⟨rfl, hZ, hh⟩ := hP
  have hx := Bd.exec
  have hby := Bd.bytes
  have hml : c.maxLocals = 3 := hml0
  have hown : s.vm.findClass "java/lang/Long" = some m.cls := findClass_of_methodNamed Bd.named
  have hnm := (name_of_methodNamed Bd.named Bd.method).1
  have X0 : Stand p l e ({ frames := 3, cells := 1, slots := 1, locals := 39 } : Room) s m #[(.long q1)] below meth c s₁ [] 0 0 := Stand.of_body Bd
  have e0 : s₁.heap = h0 := by rw [← hh, Bd.state]; rfl
  have N0 := Fr.nil n0
  refine own_go (own_lift (fun t k => castTop (ef_rmValC m q1) k) ?_)
  show own_Go p.tables e below (s₁.setTop (mkF m 0 #[jv q1, .second, .unset] [])) _
  have sg1 : ∀ t, Steps p.tables e below (s₁.setTop (mkF m 20 #[jv q1, .second, iv 128] [])) t → Steps p.tables e below (s₁.setTop (mkF m 0 #[jv q1, .second, .unset] [])) t := by
    intro t k
    refine XS.sipush X0.here hx rfl (hb hby d6_0) ?_
    show Steps p.tables e below (s₁.setTop (mkF m 3 #[jv q1, .second, .unset] [(.int 128)])) _
    refine XS.istoreN X0.here hx rfl (hb hby d6_3) rfl (l' := #[jv q1, .second, iv 128]) rfl ?_
    show Steps p.tables e below (s₁.setTop (mkF m 4 #[jv q1, .second, iv 128] [])) _
    refine XS.lloadN X0.here hx rfl (hb hby d6_4) rfl ?_
    show Steps p.tables e below (s₁.setTop (mkF m 5 #[jv q1, .second, iv 128] [(.long q1)])) _
    refine X0.ldc2Long hx hown (mvT hZ (wd hw 26 rfl)) (g := (mkF m 5 #[jv q1, .second, iv 128] [(.long q1)])) rfl (hb hby d6_5) _ ?_
    show Steps p.tables e below (s₁.setTop (mkF m 8 #[jv q1, .second, iv 128] [(.long (-128)), (.long q1)])) _
    refine XS.lcmp X0.here hx rfl (hb hby d6_8) rfl ?_
    show Steps p.tables e below (s₁.setTop (mkF m 9 #[jv q1, .second, iv 128] [(.int (lcmpW q1 (-128 : Int64)))])) _
    refine XS.ifNo X0.here hx rfl (hb hby d6_9) rfl ((if0 _ _).trans (flt (fun q => c1 ((lw_lt q1 (-128 : Int64)).1 q))).1) ?_
    show Steps p.tables e below (s₁.setTop (mkF m 12 #[jv q1, .second, iv 128] [])) _
    refine XS.lloadN X0.here hx rfl (hb hby d6_12) rfl ?_
    show Steps p.tables e below (s₁.setTop (mkF m 13 #[jv q1, .second, iv 128] [(.long q1)])) _
    refine X0.ldc2Long hx hown (mvT hZ (wd hw 27 rfl)) (g := (mkF m 13 #[jv q1, .second, iv 128] [(.long q1)])) rfl (hb hby d6_13) _ ?_
    show Steps p.tables e below (s₁.setTop (mkF m 16 #[jv q1, .second, iv 128] [(.long 127), (.long q1)])) _
    refine XS.lcmp X0.here hx rfl (hb hby d6_16) rfl ?_
    show Steps p.tables e below (s₁.setTop (mkF m 17 #[jv q1, .second, iv 128] [(.int (lcmpW q1 (127 : Int64)))])) _
    refine XS.ifNo X0.here hx rfl (hb hby d6_17) rfl ((if0 _ _).trans (flt (fun q => c2 ((lw_gt q1 (127 : Int64)).1 q))).2.2.1) ?_
    show Steps p.tables e below (s₁.setTop (mkF m 20 #[jv q1, .second, iv 128] [])) _
    exact k
  refine own_lift sg1 ?_
  show own_Go p.tables e below (s₁.setTop (mkF m 20 #[jv q1, .second, iv 128] [])) _
  obtain ⟨T2, X2, e2, st2⟩ := getS X0 hx hZ hown (host := "") (wd hw 28 rfl) Via.refl e0 S2 (g := (mkF m 20 #[jv q1, .second, iv 128] [])) rfl (hb hby d6_20)
  refine own_lift st2 ?_
  show own_Go p.tables e below (T2.setTop (mkF m 23 #[jv q1, .second, iv 128] [(.ref ca)])) _
  have sg3 : ∀ t, Steps p.tables e below (T2.setTop (mkF m 29 #[jv q1, .second, iv 128] [(.int ((q1.toInt32) + (128 : Int32))), (.ref ca)])) t → Steps p.tables e below (T2.setTop (mkF m 23 #[jv q1, .second, iv 128] [(.ref ca)])) t := by
    intro t k
    refine XS.lloadN X2.here hx rfl (hb hby d6_23) rfl ?_
    show Steps p.tables e below (T2.setTop (mkF m 24 #[jv q1, .second, iv 128] [(.long q1), (.ref ca)])) _
    refine XS.l2i X2.here hx rfl (hb hby d6_24) rfl ?_
    show Steps p.tables e below (T2.setTop (mkF m 25 #[jv q1, .second, iv 128] [(.int (q1.toInt32)), (.ref ca)])) _
    refine XS.sipush X2.here hx rfl (hb hby d6_25) ?_
    show Steps p.tables e below (T2.setTop (mkF m 28 #[jv q1, .second, iv 128] [(.int 128), (.int (q1.toInt32)), (.ref ca)])) _
    refine XS.iadd X2.here hx rfl (hb hby d6_28) rfl ?_
    show Steps p.tables e below (T2.setTop (mkF m 29 #[jv q1, .second, iv 128] [(.int ((q1.toInt32) + (128 : Int32))), (.ref ca)])) _
    exact k
  refine own_lift sg3 ?_
  show own_Go p.tables e below (T2.setTop (mkF m 29 #[jv q1, .second, iv 128] [(.int ((q1.toInt32) + (128 : Int32))), (.ref ca)])) _
  have sg4 : ∀ t, Steps p.tables e below (T2.setTop (mkF m 30 #[jv q1, .second, iv 128] [(.ref bx)])) t → Steps p.tables e below (T2.setTop (mkF m 29 #[jv q1, .second, iv 128] [(.int ((q1.toInt32) + (128 : Int32))), (.ref ca)])) t := by
    intro t k
    refine X2.aaload hx (j := ((q1.toInt32) + (128 : Int32))) (v := (.ref bx)) (by rw [e2]; exact A1.1) (State.isArrayOf_alike hZ.alike A1.2.1) rfl A1.2.2 hin hat (g := (mkF m 29 #[jv q1, .second, iv 128] [(.int ((q1.toInt32) + (128 : Int32))), (.ref ca)])) rfl rfl (hb hby d6_29) _ ?_
    show Steps p.tables e below (T2.setTop (mkF m 30 #[jv q1, .second, iv 128] [(.ref bx)])) _
    exact k
  refine own_lift sg4 ?_
  show own_Go p.tables e below (T2.setTop (mkF m 30 #[jv q1, .second, iv 128] [(.ref bx)])) _
  obtain ⟨fs, hr, hrun, hended, hW, hsame⟩ := X2.leave (v := some (.ref bx)) (fun h => by rw [Bd.returns] at h; cases h)
  refine ⟨_, _, ?_, hrun, hended, _, _, rfl, ?_, ⟨_, rfl⟩, hW, hsame.mono (by decide) (by decide)⟩
  · exact retOut X2 hx Bd.returns rfl (Or.inr (Or.inr (Or.inr (Or.inr ⟨rfl, rfl, rfl⟩)))) (hb hby d6_30) hr
  · show Q_rmVal Z q1 h0 n0 _ T2.heap _
    rw [e2]
    exact ⟨bx, rfl, N0, (Keep.refl h0 []), E1⟩
set_option maxRecDepth 65536 in
theorem rmVal (l : Launch) (Z : State) (a0 : Array Value) (hw : ∀ d ∈ tables_1, d.before a0 Z = true) (ws : List Jvm.Cond) (q1 : Int64) (ca : Addr) (cc : Cell) (h0 : Heap) (n0 : Nat) (Z0 : n0 ≤ h0.size) (S2 : Sta Z h0 "java/lang/Long$LongCache" "cache" "[Ljava/lang/Long;" (.ref ca)) (A1 : Arr Z h0 ca cc (.object "java/lang/Long")) (B1 : own_Box Z h0 "java/lang/Long" cc (¬ (q1 < (-128 : Int64)) ∧ ¬ ((127 : Int64) < q1)) (((q1.toInt32) + (128 : Int32))))  :
    MetFree l (⟨"java/lang/Long", "valueOf", "(J)Ljava/lang/Long;"⟩ : MethodName) (head1 (Jvm.Cond.code (⟨"java/lang/Long", "valueOf", "(J)Ljava/lang/Long;"⟩ : MethodName) jdk_35_method_24_code 3 (some (.object "java/lang/Long")) :: ws) ({ frames := 3, cells := 1, slots := 1, locals := 39 } : Room)) (fun a U => a = #[(.long q1)] ∧ Z.Warmed39 U.vm ∧ U.heap = h0) (fun _ _ _ _ _ => True) (fun _ U o U' => ∃ v L, o = .returned v ∧ Q_rmVal Z q1 h0 n0 v U'.heap L ∧ FrameEnd U o U' L ({ frames := 3, cells := 1, slots := 1, locals := 39 } : Room).cells ({ frames := 3, cells := 1, slots := 1, locals := 39 } : Room).slots) := by
  by_cases c1 : q1 < (-128 : Int64)
  · exact rmValL l Z a0 hw ws q1 ca cc h0 n0 Z0 S2 A1 c1
  · by_cases c2 : (127 : Int64) < q1
    · exact rmValH l Z a0 hw ws q1 ca cc h0 n0 Z0 S2 A1 c1 c2
    · obtain ⟨bx, hin, hat, Ebx⟩ := B1 ⟨c1, c2⟩
      exact rmValC l Z a0 hw ws q1 ca cc bx h0 n0 Z0 S2 A1 Ebx c1 c2 hin hat
theorem pd_2 : parseMethodDescriptor "(I)Lcom/example/allsome/allsome/cypher/PathPattern$Selector$Kind;" = some ⟨[.int], some (.object "com/example/allsome/allsome/cypher/PathPattern$Selector$Kind")⟩ := by decide +kernel
theorem pd_3 : parseMethodDescriptor "(Lcom/example/allsome/allsome/cypher/PathPattern$Selector$Kind;J)V" = some ⟨[(.object "com/example/allsome/allsome/cypher/PathPattern$Selector$Kind"), .long], none⟩ := by decide +kernel
theorem pd_4 : parseMethodDescriptor "(J)Ljava/lang/Long;" = some ⟨[.long], some (.object "java/lang/Long")⟩ := by decide +kernel
theorem pd_5 : parseMethodDescriptor "(Ljava/lang/Object;)Z" = some ⟨[(.object "java/lang/Object")], some .boolean⟩ := by decide +kernel
def Q0 (Z : State)  (h0 : Heap) (n0 : Nat) (v : Option Value) (h : Heap) (L : List Loc) : Prop := v = some (.int 1) ∧ Fr n0 L
theorem ef_rm0_2 (m : MethodId) (x0 : Int32) (x1 : Int64) (x2 : Int32) (x3 : Int64) (x4 : Int32) : entryFrame m #[(.int x0), (.long x1), (.int x2), (.long x3), (.int x4)] maxLocals = mkF m 0 #[.val (.int x0), .val (.long x1), .second, .val (.int x2), .val (.long x3), .second, .val (.int x4), .unset, .unset, .unset, .unset, .unset, .unset, .unset, .unset, .unset, .unset] [] := by first | (simp [entryFrame, mkF, argsToLocals, Value.category, maxLocals]; done) | rfl
set_option maxRecDepth 65536 in
set_option maxHeartbeats 40000000 in
theorem rm0_2 (l : Launch) (Z : State) (a0 : Array Value) (hw : ∀ d ∈ tables_1, d.before a0 Z = true) (ws : List Jvm.Cond) (p0 : Int32) (p1 : Int64) (p2 : Int32) (p3 : Int64) (p4 : Int32) (as_SHORTEST_PATH : Addr) (as_ALL_SHORTEST_PATHS : Addr) (as_ANY_SHORTEST : Addr) (as_ALL_SHORTEST : Addr) (as_ANY : Addr) (as_ALL : Addr) (as_SHORTEST : Addr) (as_SHORTEST_GROUPS : Addr) (ca : Addr) (cc : Cell) (h0 : Heap) (n0 : Nat) (Z0 : n0 ≤ h0.size) (S_SHORTEST_PATH : Sta Z h0 "com/example/allsome/allsome/cypher/PathPattern$Selector$Kind" "SHORTEST_PATH" "Lcom/example/allsome/allsome/cypher/PathPattern$Selector$Kind;" (.ref as_SHORTEST_PATH)) (S_ALL_SHORTEST_PATHS : Sta Z h0 "com/example/allsome/allsome/cypher/PathPattern$Selector$Kind" "ALL_SHORTEST_PATHS" "Lcom/example/allsome/allsome/cypher/PathPattern$Selector$Kind;" (.ref as_ALL_SHORTEST_PATHS)) (S_ANY_SHORTEST : Sta Z h0 "com/example/allsome/allsome/cypher/PathPattern$Selector$Kind" "ANY_SHORTEST" "Lcom/example/allsome/allsome/cypher/PathPattern$Selector$Kind;" (.ref as_ANY_SHORTEST)) (S_ALL_SHORTEST : Sta Z h0 "com/example/allsome/allsome/cypher/PathPattern$Selector$Kind" "ALL_SHORTEST" "Lcom/example/allsome/allsome/cypher/PathPattern$Selector$Kind;" (.ref as_ALL_SHORTEST)) (S_ANY : Sta Z h0 "com/example/allsome/allsome/cypher/PathPattern$Selector$Kind" "ANY" "Lcom/example/allsome/allsome/cypher/PathPattern$Selector$Kind;" (.ref as_ANY)) (S_ALL : Sta Z h0 "com/example/allsome/allsome/cypher/PathPattern$Selector$Kind" "ALL" "Lcom/example/allsome/allsome/cypher/PathPattern$Selector$Kind;" (.ref as_ALL)) (S_SHORTEST : Sta Z h0 "com/example/allsome/allsome/cypher/PathPattern$Selector$Kind" "SHORTEST" "Lcom/example/allsome/allsome/cypher/PathPattern$Selector$Kind;" (.ref as_SHORTEST)) (S_SHORTEST_GROUPS : Sta Z h0 "com/example/allsome/allsome/cypher/PathPattern$Selector$Kind" "SHORTEST_GROUPS" "Lcom/example/allsome/allsome/cypher/PathPattern$Selector$Kind;" (.ref as_SHORTEST_GROUPS)) (O_SHORTEST_PATH : Fld Z h0 as_SHORTEST_PATH "java/lang/Enum" "ordinal" "I" (.int 0)) (O_ALL_SHORTEST_PATHS : Fld Z h0 as_ALL_SHORTEST_PATHS "java/lang/Enum" "ordinal" "I" (.int 1)) (O_ANY_SHORTEST : Fld Z h0 as_ANY_SHORTEST "java/lang/Enum" "ordinal" "I" (.int 2)) (O_ALL_SHORTEST : Fld Z h0 as_ALL_SHORTEST "java/lang/Enum" "ordinal" "I" (.int 3)) (O_ANY : Fld Z h0 as_ANY "java/lang/Enum" "ordinal" "I" (.int 4)) (O_ALL : Fld Z h0 as_ALL "java/lang/Enum" "ordinal" "I" (.int 5)) (O_SHORTEST : Fld Z h0 as_SHORTEST "java/lang/Enum" "ordinal" "I" (.int 6)) (O_SHORTEST_GROUPS : Fld Z h0 as_SHORTEST_GROUPS "java/lang/Enum" "ordinal" "I" (.int 7)) (S2 : Sta Z h0 "java/lang/Long$LongCache" "cache" "[Ljava/lang/Long;" (.ref ca)) (A1 : Arr Z h0 ca cc (.object "java/lang/Long")) (B1 : own_Box Z h0 "java/lang/Long" cc (¬ (p1 < (-128 : Int64)) ∧ ¬ ((127 : Int64) < p1)) (((p1.toInt32) + (128 : Int32)))) (w2 : (((p4.toUInt32 >>> ((2 : Int32) &&& 31).toUInt32).toInt32) &&& (3 : Int32)) = (2 : Int32)) :
    MetFree l x (head1 (Jvm.Cond.code x code maxLocals ret :: ws) room_1) (fun a U => a = #[(.int p0), (.long p1), (.int p2), (.long p3), (.int p4)] ∧ Z.Warmed39 U.vm ∧ U.heap = h0) (fun _ _ _ _ _ => True) (fun _ U o U' => ∃ v L, o = .returned v ∧ Q0 Z  h0 n0 v U'.heap L ∧ FrameEnd U o U' L 16 128) := by
  refine MetFree.of_bodySF (plainFor_of_name pn_0) hisR ?_
  intro p e s m args below meth c s₁ Bd hml0 hP hK
  obtain ⟨rfl, hZ, hh⟩ := hP
  have hx := Bd.exec
  have hby := Bd.bytes
  have hml : c.maxLocals = 17 := hml0
  have hown : s.vm.findClass "com/example/allsome/allsome/cypher/SelectorEqualsPinLaw" = some m.cls := findClass_of_methodNamed Bd.named
  have hnm := (name_of_methodNamed Bd.named Bd.method).1
  have X0 : Stand p l e room_1 s m #[(.int p0), (.long p1), (.int p2), (.long p3), (.int p4)] below meth c s₁ [] 0 0 := Stand.of_body Bd
  have e0 : s₁.heap = h0 := by rw [← hh, Bd.state]; rfl
  have N0 := Fr.nil n0
  refine own_go (own_lift (fun t k => castTop (ef_rm0_2 m p0 p1 p2 p3 p4) k) ?_)
  show own_Go p.tables e below (s₁.setTop (mkF m 0 #[iv p0, jv p1, .second, iv p2, jv p3, .second, iv p4, .unset, .unset, .unset, .unset, .unset, .unset, .unset, .unset, .unset, .unset] [])) _
  have sg1 : ∀ t, Steps p.tables e below (s₁.setTop (mkF m 6 #[iv p0, jv p1, .second, iv p2, jv p3, .second, iv p4, iv (p0 &&& (7 : Int32)), .unset, .unset, .unset, .unset, .unset, .unset, .unset, .unset, .unset] [])) t → Steps p.tables e below (s₁.setTop (mkF m 0 #[iv p0, jv p1, .second, iv p2, jv p3, .second, iv p4, .unset, .unset, .unset, .unset, .unset, .unset, .unset, .unset, .unset, .unset] [])) t := by
    intro t k
    refine XS.iloadN X0.here hx rfl (hb hby at_0) rfl ?_
    show Steps p.tables e below (s₁.setTop (mkF m 1 #[iv p0, jv p1, .second, iv p2, jv p3, .second, iv p4, .unset, .unset, .unset, .unset, .unset, .unset, .unset, .unset, .unset, .unset] [(.int p0)])) _
    refine XS.bipush X0.here hx rfl (hb hby at_1) ?_
    show Steps p.tables e below (s₁.setTop (mkF m 3 #[iv p0, jv p1, .second, iv p2, jv p3, .second, iv p4, .unset, .unset, .unset, .unset, .unset, .unset, .unset, .unset, .unset, .unset] [(.int 7), (.int p0)])) _
    refine XS.iand X0.here hx rfl (hb hby at_3) rfl ?_
    show Steps p.tables e below (s₁.setTop (mkF m 4 #[iv p0, jv p1, .second, iv p2, jv p3, .second, iv p4, .unset, .unset, .unset, .unset, .unset, .unset, .unset, .unset, .unset, .unset] [(.int (p0 &&& (7 : Int32)))])) _
    refine XS.istore X0.here hx rfl (hb hby at_4) rfl (l' := #[iv p0, jv p1, .second, iv p2, jv p3, .second, iv p4, iv (p0 &&& (7 : Int32)), .unset, .unset, .unset, .unset, .unset, .unset, .unset, .unset, .unset]) rfl ?_
    show Steps p.tables e below (s₁.setTop (mkF m 6 #[iv p0, jv p1, .second, iv p2, jv p3, .second, iv p4, iv (p0 &&& (7 : Int32)), .unset, .unset, .unset, .unset, .unset, .unset, .unset, .unset, .unset] [])) _
    exact k
  refine own_lift sg1 ?_
  show own_Go p.tables e below (s₁.setTop (mkF m 6 #[iv p0, jv p1, .second, iv p2, jv p3, .second, iv p4, iv (p0 &&& (7 : Int32)), .unset, .unset, .unset, .unset, .unset, .unset, .unset, .unset, .unset] [])) _
  have join2 : ∀ (T2 : State) (locs2 : List Loc), Stand p l e room_1 s m #[(.int p0), (.long p1), (.int p2), (.long p3), (.int p4)] below meth c T2 locs2 0 0 → T2.heap = h0 → Fr n0 locs2 → own_Go p.tables e below (T2.setTop (mkF m 22 #[iv p0, jv p1, .second, iv p2, jv p3, .second, iv p4, iv (p0 &&& (7 : Int32)), .unset, .unset, .unset, .unset, .unset, .unset, .unset, .unset, .unset] [(.int (own_ib p0 p2 p4))])) (fun s₂ o => s₂.status = .running ∧ Ended s₂ below o ∧ ∃ v L, o = .returned v ∧ Q0 Z  h0 n0 v s₂.heap L ∧ FrameEnd s o s₂ L 16 128) := by
    intro T2 locs2 X2 e2 N2
    have sg3 : ∀ t, Steps p.tables e below (T2.setTop (mkF m 24 #[iv p0, jv p1, .second, iv p2, jv p3, .second, iv p4, iv (p0 &&& (7 : Int32)), iv (own_ib p0 p2 p4), .unset, .unset, .unset, .unset, .unset, .unset, .unset, .unset] [])) t → Steps p.tables e below (T2.setTop (mkF m 22 #[iv p0, jv p1, .second, iv p2, jv p3, .second, iv p4, iv (p0 &&& (7 : Int32)), .unset, .unset, .unset, .unset, .unset, .unset, .unset, .unset, .unset] [(.int (own_ib p0 p2 p4))])) t := by
      intro t k
      refine XS.istore X2.here hx rfl (hb hby at_22) rfl (l' := #[iv p0, jv p1, .second, iv p2, jv p3, .second, iv p4, iv (p0 &&& (7 : Int32)), iv (own_ib p0 p2 p4), .unset, .unset, .unset, .unset, .unset, .unset, .unset, .unset]) rfl ?_
      show Steps p.tables e below (T2.setTop (mkF m 24 #[iv p0, jv p1, .second, iv p2, jv p3, .second, iv p4, iv (p0 &&& (7 : Int32)), iv (own_ib p0 p2 p4), .unset, .unset, .unset, .unset, .unset, .unset, .unset, .unset] [])) _
      exact k
    refine own_lift sg3 ?_
    show own_Go p.tables e below (T2.setTop (mkF m 24 #[iv p0, jv p1, .second, iv p2, jv p3, .second, iv p4, iv (p0 &&& (7 : Int32)), iv (own_ib p0 p2 p4), .unset, .unset, .unset, .unset, .unset, .unset, .unset, .unset] [])) _
    have join4 : ∀ (T4 : State) (locs4 : List Loc), Stand p l e room_1 s m #[(.int p0), (.long p1), (.int p2), (.long p3), (.int p4)] below meth c T4 locs4 0 0 → T4.heap = h0 → Fr n0 locs4 → own_Go p.tables e below (T4.setTop (mkF m 37 #[iv p0, jv p1, .second, iv p2, jv p3, .second, iv p4, iv (p0 &&& (7 : Int32)), iv (own_ib p0 p2 p4), .unset, .unset, .unset, .unset, .unset, .unset, .unset, .unset] [(.long (own_cb p1 p3 p4))])) (fun s₂ o => s₂.status = .running ∧ Ended s₂ below o ∧ ∃ v L, o = .returned v ∧ Q0 Z  h0 n0 v s₂.heap L ∧ FrameEnd s o s₂ L 16 128) := by
      intro T4 locs4 X4 e4 N4
      have sg5 : ∀ t, Steps p.tables e below (T4.setTop (mkF m 39 #[iv p0, jv p1, .second, iv p2, jv p3, .second, iv p4, iv (p0 &&& (7 : Int32)), iv (own_ib p0 p2 p4), jv (own_cb p1 p3 p4), .second, .unset, .unset, .unset, .unset, .unset, .unset] [])) t → Steps p.tables e below (T4.setTop (mkF m 37 #[iv p0, jv p1, .second, iv p2, jv p3, .second, iv p4, iv (p0 &&& (7 : Int32)), iv (own_ib p0 p2 p4), .unset, .unset, .unset, .unset, .unset, .unset, .unset, .unset] [(.long (own_cb p1 p3 p4))])) t := by
        intro t k
        refine XS.lstore X4.here hx rfl (hb hby at_37) rfl (l' := #[iv p0, jv p1, .second, iv p2, jv p3, .second, iv p4, iv (p0 &&& (7 : Int32)), iv (own_ib p0 p2 p4), jv (own_cb p1 p3 p4), .second, .unset, .unset, .unset, .unset, .unset, .unset]) rfl ?_
        show Steps p.tables e below (T4.setTop (mkF m 39 #[iv p0, jv p1, .second, iv p2, jv p3, .second, iv p4, iv (p0 &&& (7 : Int32)), iv (own_ib p0 p2 p4), jv (own_cb p1 p3 p4), .second, .unset, .unset, .unset, .unset, .unset, .unset] [])) _
        exact k
      refine own_lift sg5 ?_
      show own_Go p.tables e below (T4.setTop (mkF m 39 #[iv p0, jv p1, .second, iv p2, jv p3, .second, iv p4, iv (p0 &&& (7 : Int32)), iv (own_ib p0 p2 p4), jv (own_cb p1 p3 p4), .second, .unset, .unset, .unset, .unset, .unset, .unset] [])) _
      obtain ⟨T6, h6, X6, e6, Ex6, Ax6, Dx6, Ux6, st6⟩ := newO X4 hx hZ hown (wd hw 0 rfl) (wd hw 1 rfl) (wd hw 2 rfl) e4 (g := (mkF m 39 #[iv p0, jv p1, .second, iv p2, jv p3, .second, iv p4, iv (p0 &&& (7 : Int32)), iv (own_ib p0 p2 p4), jv (own_cb p1 p3 p4), .second, .unset, .unset, .unset, .unset, .unset, .unset] [])) rfl (hb hby at_39) (by decide) (by decide)
      obtain ⟨ob6, g6⟩ : ∃ z, z = h0.size := ⟨_, rfl⟩
      rw [← g6] at Ax6 Dx6 Ux6 st6
      have ne7 : as_SHORTEST_PATH ≠ ob6 := Nat.ne_of_lt (Nat.lt_of_lt_of_le O_SHORTEST_PATH.lt (Nat.le_of_eq g6.symm))
      have ne8 : as_ALL_SHORTEST_PATHS ≠ ob6 := Nat.ne_of_lt (Nat.lt_of_lt_of_le O_ALL_SHORTEST_PATHS.lt (Nat.le_of_eq g6.symm))
      have ne9 : as_ANY_SHORTEST ≠ ob6 := Nat.ne_of_lt (Nat.lt_of_lt_of_le O_ANY_SHORTEST.lt (Nat.le_of_eq g6.symm))
      have ne10 : as_ALL_SHORTEST ≠ ob6 := Nat.ne_of_lt (Nat.lt_of_lt_of_le O_ALL_SHORTEST.lt (Nat.le_of_eq g6.symm))
      have ne11 : as_ANY ≠ ob6 := Nat.ne_of_lt (Nat.lt_of_lt_of_le O_ANY.lt (Nat.le_of_eq g6.symm))
      have ne12 : as_ALL ≠ ob6 := Nat.ne_of_lt (Nat.lt_of_lt_of_le O_ALL.lt (Nat.le_of_eq g6.symm))
      have ne13 : as_SHORTEST ≠ ob6 := Nat.ne_of_lt (Nat.lt_of_lt_of_le O_SHORTEST.lt (Nat.le_of_eq g6.symm))
      have ne14 : as_SHORTEST_GROUPS ≠ ob6 := Nat.ne_of_lt (Nat.lt_of_lt_of_le O_SHORTEST_GROUPS.lt (Nat.le_of_eq g6.symm))
      have ne15 : ca ≠ ob6 := Nat.ne_of_lt (Nat.lt_of_lt_of_le A1.lt (Nat.le_of_eq g6.symm))
      have Z6 : n0 ≤ h6.size := Nat.le_trans Z0 Ex6.1
      have ge6 : n0 ≤ ob6 := Nat.le_trans Z0 (Nat.le_of_eq g6.symm)
      have Fn6_17 : Fld Z h6 ob6 "com/example/allsome/allsome/cypher/PathPattern$Selector" "kind" "Lcom/example/allsome/allsome/cypher/PathPattern$Selector$Kind;" .null := Dx6 (Or.inr (wd hw 17 rfl)) (ty := (.object "com/example/allsome/allsome/cypher/PathPattern$Selector$Kind")) (by decide)
      have Fn6_19 : Fld Z h6 ob6 "com/example/allsome/allsome/cypher/PathPattern$Selector" "count" "J" (.long 0) := Dx6 (Or.inr (wd hw 19 rfl)) (ty := .long) (by decide)
      refine own_lift st6 ?_
      show own_Go p.tables e below (T6.setTop (mkF m 42 #[iv p0, jv p1, .second, iv p2, jv p3, .second, iv p4, iv (p0 &&& (7 : Int32)), iv (own_ib p0 p2 p4), jv (own_cb p1 p3 p4), .second, .unset, .unset, .unset, .unset, .unset, .unset] [(.ref ob6)])) _
      have sg16 : ∀ t, Steps p.tables e below (T6.setTop (mkF m 45 #[iv p0, jv p1, .second, iv p2, jv p3, .second, iv p4, iv (p0 &&& (7 : Int32)), iv (own_ib p0 p2 p4), jv (own_cb p1 p3 p4), .second, .unset, .unset, .unset, .unset, .unset, .unset] [(.int (p0 &&& (7 : Int32))), (.ref ob6), (.ref ob6)])) t → Steps p.tables e below (T6.setTop (mkF m 42 #[iv p0, jv p1, .second, iv p2, jv p3, .second, iv p4, iv (p0 &&& (7 : Int32)), iv (own_ib p0 p2 p4), jv (own_cb p1 p3 p4), .second, .unset, .unset, .unset, .unset, .unset, .unset] [(.ref ob6)])) t := by
        intro t k
        refine XS.dup X6.here hx rfl (hb hby at_42) rfl rfl ?_
        show Steps p.tables e below (T6.setTop (mkF m 43 #[iv p0, jv p1, .second, iv p2, jv p3, .second, iv p4, iv (p0 &&& (7 : Int32)), iv (own_ib p0 p2 p4), jv (own_cb p1 p3 p4), .second, .unset, .unset, .unset, .unset, .unset, .unset] [(.ref ob6), (.ref ob6)])) _
        refine XS.iload X6.here hx rfl (hb hby at_43) rfl ?_
        show Steps p.tables e below (T6.setTop (mkF m 45 #[iv p0, jv p1, .second, iv p2, jv p3, .second, iv p4, iv (p0 &&& (7 : Int32)), iv (own_ib p0 p2 p4), jv (own_cb p1 p3 p4), .second, .unset, .unset, .unset, .unset, .unset, .unset] [(.int (p0 &&& (7 : Int32))), (.ref ob6), (.ref ob6)])) _
        exact k
      refine own_lift sg16 ?_
      show own_Go p.tables e below (T6.setTop (mkF m 45 #[iv p0, jv p1, .second, iv p2, jv p3, .second, iv p4, iv (p0 &&& (7 : Int32)), iv (own_ib p0 p2 p4), jv (own_cb p1 p3 p4), .second, .unset, .unset, .unset, .unset, .unset, .unset] [(.int (p0 &&& (7 : Int32))), (.ref ob6), (.ref ob6)])) _
      have Fc17 : Sta Z h6 "com/example/allsome/allsome/cypher/PathPattern$Selector$Kind" "SHORTEST_PATH" "Lcom/example/allsome/allsome/cypher/PathPattern$Selector$Kind;" (.ref as_SHORTEST_PATH) := (S_SHORTEST_PATH.ext Ex6)
      have Fc18 : Sta Z h6 "com/example/allsome/allsome/cypher/PathPattern$Selector$Kind" "ALL_SHORTEST_PATHS" "Lcom/example/allsome/allsome/cypher/PathPattern$Selector$Kind;" (.ref as_ALL_SHORTEST_PATHS) := (S_ALL_SHORTEST_PATHS.ext Ex6)
      have Fc19 : Sta Z h6 "com/example/allsome/allsome/cypher/PathPattern$Selector$Kind" "ANY_SHORTEST" "Lcom/example/allsome/allsome/cypher/PathPattern$Selector$Kind;" (.ref as_ANY_SHORTEST) := (S_ANY_SHORTEST.ext Ex6)
      have Fc20 : Sta Z h6 "com/example/allsome/allsome/cypher/PathPattern$Selector$Kind" "ALL_SHORTEST" "Lcom/example/allsome/allsome/cypher/PathPattern$Selector$Kind;" (.ref as_ALL_SHORTEST) := (S_ALL_SHORTEST.ext Ex6)
      have Fc21 : Sta Z h6 "com/example/allsome/allsome/cypher/PathPattern$Selector$Kind" "ANY" "Lcom/example/allsome/allsome/cypher/PathPattern$Selector$Kind;" (.ref as_ANY) := (S_ANY.ext Ex6)
      have Fc22 : Sta Z h6 "com/example/allsome/allsome/cypher/PathPattern$Selector$Kind" "ALL" "Lcom/example/allsome/allsome/cypher/PathPattern$Selector$Kind;" (.ref as_ALL) := (S_ALL.ext Ex6)
      have Fc23 : Sta Z h6 "com/example/allsome/allsome/cypher/PathPattern$Selector$Kind" "SHORTEST" "Lcom/example/allsome/allsome/cypher/PathPattern$Selector$Kind;" (.ref as_SHORTEST) := (S_SHORTEST.ext Ex6)
      have Fc24 : Sta Z h6 "com/example/allsome/allsome/cypher/PathPattern$Selector$Kind" "SHORTEST_GROUPS" "Lcom/example/allsome/allsome/cypher/PathPattern$Selector$Kind;" (.ref as_SHORTEST_GROUPS) := (S_SHORTEST_GROUPS.ext Ex6)
      obtain ⟨_, _, ⟨T25, Lx25, kx25, nx25⟩, -, X25, ⟨Lc25, hQ25, lx25, yx25, zx25⟩, st25⟩ := Jvm.LawKit.callS X6 hx (y := (⟨"com/example/allsome/allsome/cypher/SelectorEqualsPinLaw", "kind", "(I)Lcom/example/allsome/allsome/cypher/PathPattern$Selector$Kind;"⟩ : MethodName)) hown (mvT hZ (wd hw 3 rfl)) (mvT hZ (wd hw 4 rfl)) (mvT hZ (wd hw 5 rfl)) (mvT hZ (wd hw 6 rfl)) (by decide) (backOf (W := 2) (rmKind l Z a0 hw [] (p0 &&& (7 : Int32)) as_SHORTEST_PATH as_ALL_SHORTEST_PATHS as_ANY_SHORTEST as_ALL_SHORTEST as_ANY as_ALL as_SHORTEST as_SHORTEST_GROUPS h6 n0 Z6 Fc17 Fc18 Fc19 Fc20 Fc21 Fc22 Fc23 Fc24) hZ (wd hw 6 rfl) (wd hw 5 rfl) (by decide) (by decide)) (g := (mkF m 45 #[iv p0, jv p1, .second, iv p2, jv p3, .second, iv p4, iv (p0 &&& (7 : Int32)), iv (own_ib p0 p2 p4), jv (own_cb p1 p3 p4), .second, .unset, .unset, .unset, .unset, .unset, .unset] [(.int (p0 &&& (7 : Int32))), (.ref ob6), (.ref ob6)])) rfl (by rw [hml]; rfl) (argsL := [(.int (p0 &&& (7 : Int32)))]) (rest := [(.ref ob6), (.ref ob6)]) (lenOf pd_2 rfl) rfl (by show 2 * 0 + _ ≤ _; exact Nat.le_of_eq rfl) (hb hby at_45) (fun _ _ => ⟨rfl, e6, (by decide : 1 + 0 ≤ _), (by decide : 2 + 0 ≤ _)⟩)
      dsimp only [Pt.U, Pt.locs, Pt.cells, Pt.slots] at X25 lx25 yx25 zx25 st25 hQ25
      subst lx25 yx25 zx25
      obtain ⟨rfl, N25q, e25⟩ := hQ25
      have N25 := Fr.app N4 N25q
      refine own_lift st25 ?_
      show own_Go p.tables e below (T25.setTop (mkF m 48 #[iv p0, jv p1, .second, iv p2, jv p3, .second, iv p4, iv (p0 &&& (7 : Int32)), iv (own_ib p0 p2 p4), jv (own_cb p1 p3 p4), .second, .unset, .unset, .unset, .unset, .unset, .unset] [(.ref (own_kind (p0 &&& (7 : Int32)) as_SHORTEST_PATH as_ALL_SHORTEST_PATHS as_ANY_SHORTEST as_ALL_SHORTEST as_ANY as_ALL as_SHORTEST as_SHORTEST_GROUPS)), (.ref ob6), (.ref ob6)])) _
      have sg26 : ∀ t, Steps p.tables e below (T25.setTop (mkF m 49 #[iv p0, jv p1, .second, iv p2, jv p3, .second, iv p4, iv (p0 &&& (7 : Int32)), iv (own_ib p0 p2 p4), jv (own_cb p1 p3 p4), .second, .unset, .unset, .unset, .unset, .unset, .unset] [(.long p1), (.ref (own_kind (p0 &&& (7 : Int32)) as_SHORTEST_PATH as_ALL_SHORTEST_PATHS as_ANY_SHORTEST as_ALL_SHORTEST as_ANY as_ALL as_SHORTEST as_SHORTEST_GROUPS)), (.ref ob6), (.ref ob6)])) t → Steps p.tables e below (T25.setTop (mkF m 48 #[iv p0, jv p1, .second, iv p2, jv p3, .second, iv p4, iv (p0 &&& (7 : Int32)), iv (own_ib p0 p2 p4), jv (own_cb p1 p3 p4), .second, .unset, .unset, .unset, .unset, .unset, .unset] [(.ref (own_kind (p0 &&& (7 : Int32)) as_SHORTEST_PATH as_ALL_SHORTEST_PATHS as_ANY_SHORTEST as_ALL_SHORTEST as_ANY as_ALL as_SHORTEST as_SHORTEST_GROUPS)), (.ref ob6), (.ref ob6)])) t := by
        intro t k
        refine XS.lloadN X25.here hx rfl (hb hby at_48) rfl ?_
        show Steps p.tables e below (T25.setTop (mkF m 49 #[iv p0, jv p1, .second, iv p2, jv p3, .second, iv p4, iv (p0 &&& (7 : Int32)), iv (own_ib p0 p2 p4), jv (own_cb p1 p3 p4), .second, .unset, .unset, .unset, .unset, .unset, .unset] [(.long p1), (.ref (own_kind (p0 &&& (7 : Int32)) as_SHORTEST_PATH as_ALL_SHORTEST_PATHS as_ANY_SHORTEST as_ALL_SHORTEST as_ANY as_ALL as_SHORTEST as_SHORTEST_GROUPS)), (.ref ob6), (.ref ob6)])) _
        exact k
      refine own_lift sg26 ?_
      show own_Go p.tables e below (T25.setTop (mkF m 49 #[iv p0, jv p1, .second, iv p2, jv p3, .second, iv p4, iv (p0 &&& (7 : Int32)), iv (own_ib p0 p2 p4), jv (own_cb p1 p3 p4), .second, .unset, .unset, .unset, .unset, .unset, .unset] [(.long p1), (.ref (own_kind (p0 &&& (7 : Int32)) as_SHORTEST_PATH as_ALL_SHORTEST_PATHS as_ANY_SHORTEST as_ALL_SHORTEST as_ANY as_ALL as_SHORTEST as_SHORTEST_GROUPS)), (.ref ob6), (.ref ob6)])) _
      obtain ⟨_, _, ⟨T27, Lx27, kx27, nx27⟩, -, X27, ⟨Lc27, hQ27, lx27, yx27, zx27⟩, st27⟩ := X25.specialBack hx (y := (⟨"com/example/allsome/allsome/cypher/PathPattern$Selector", "<init>", "(Lcom/example/allsome/allsome/cypher/PathPattern$Selector$Kind;J)V"⟩ : MethodName)) rfl hown (mvT hZ (wd hw 10 rfl)) (mvT hZ (wd hw 11 rfl)) (mvT hZ (wd hw 12 rfl)) (by decide) (backOf (W := 1) (rmInit l Z a0 hw [] ob6 (own_kind (p0 &&& (7 : Int32)) as_SHORTEST_PATH as_ALL_SHORTEST_PATHS as_ANY_SHORTEST as_ALL_SHORTEST as_ANY as_ALL as_SHORTEST as_SHORTEST_GROUPS) p1 h6 n0 Z6 Fn6_17 Fn6_19 Ax6 ge6) hZ (wd hw 12 rfl) (wd hw 2 rfl) (by decide) (by decide)) (g := (mkF m 49 #[iv p0, jv p1, .second, iv p2, jv p3, .second, iv p4, iv (p0 &&& (7 : Int32)), iv (own_ib p0 p2 p4), jv (own_cb p1 p3 p4), .second, .unset, .unset, .unset, .unset, .unset, .unset] [(.long p1), (.ref (own_kind (p0 &&& (7 : Int32)) as_SHORTEST_PATH as_ALL_SHORTEST_PATHS as_ANY_SHORTEST as_ALL_SHORTEST as_ANY as_ALL as_SHORTEST as_SHORTEST_GROUPS)), (.ref ob6), (.ref ob6)])) rfl (by rw [hml]; rfl) (Steps.refl _) (a := ob6) (argsL := [(.ref (own_kind (p0 &&& (7 : Int32)) as_SHORTEST_PATH as_ALL_SHORTEST_PATHS as_ANY_SHORTEST as_ALL_SHORTEST as_ANY as_ALL as_SHORTEST as_SHORTEST_GROUPS)), (.long p1)]) (rest := [(.ref ob6)]) (lenOf pd_3 rfl) rfl (by show 2 * 0 + _ ≤ _; exact Nat.le_of_eq rfl) (hb hby at_49) (fun _ _ => ⟨rfl, e25, (by decide : 1 + 0 ≤ _), (by decide : 2 + 0 ≤ _)⟩)
      dsimp only [Pt.U, Pt.locs, Pt.cells, Pt.slots] at X27 lx27 yx27 zx27 st27 hQ27
      subst lx27 yx27 zx27
      obtain ⟨rfl, N27q, p27_0, p27_1, p27_2, p27_3⟩ := hQ27
      have N27 := Fr.app N25 N27q
      have Z27 : n0 ≤ T27.heap.size := Nat.le_trans Z6 p27_0.1
      refine own_lift (fun t k => st27.trans k) ?_
      show own_Go p.tables e below (T27.setTop (mkF m 52 #[iv p0, jv p1, .second, iv p2, jv p3, .second, iv p4, iv (p0 &&& (7 : Int32)), iv (own_ib p0 p2 p4), jv (own_cb p1 p3 p4), .second, .unset, .unset, .unset, .unset, .unset, .unset] [(.ref ob6)])) _
      have sg28 : ∀ t, Steps p.tables e below (T27.setTop (mkF m 54 #[iv p0, jv p1, .second, iv p2, jv p3, .second, iv p4, iv (p0 &&& (7 : Int32)), iv (own_ib p0 p2 p4), jv (own_cb p1 p3 p4), .second, rv ob6, .unset, .unset, .unset, .unset, .unset] [])) t → Steps p.tables e below (T27.setTop (mkF m 52 #[iv p0, jv p1, .second, iv p2, jv p3, .second, iv p4, iv (p0 &&& (7 : Int32)), iv (own_ib p0 p2 p4), jv (own_cb p1 p3 p4), .second, .unset, .unset, .unset, .unset, .unset, .unset] [(.ref ob6)])) t := by
        intro t k
        refine XS.astore X27.here hx rfl (hb hby at_52) rfl rfl (l' := #[iv p0, jv p1, .second, iv p2, jv p3, .second, iv p4, iv (p0 &&& (7 : Int32)), iv (own_ib p0 p2 p4), jv (own_cb p1 p3 p4), .second, rv ob6, .unset, .unset, .unset, .unset, .unset]) rfl ?_
        show Steps p.tables e below (T27.setTop (mkF m 54 #[iv p0, jv p1, .second, iv p2, jv p3, .second, iv p4, iv (p0 &&& (7 : Int32)), iv (own_ib p0 p2 p4), jv (own_cb p1 p3 p4), .second, rv ob6, .unset, .unset, .unset, .unset, .unset] [])) _
        exact k
      refine own_lift sg28 ?_
      show own_Go p.tables e below (T27.setTop (mkF m 54 #[iv p0, jv p1, .second, iv p2, jv p3, .second, iv p4, iv (p0 &&& (7 : Int32)), iv (own_ib p0 p2 p4), jv (own_cb p1 p3 p4), .second, rv ob6, .unset, .unset, .unset, .unset, .unset] [])) _
      obtain ⟨T29, h29, X29, e29, Ex29, Ax29, Dx29, Ux29, st29⟩ := newO X27 hx hZ hown (wd hw 0 rfl) (wd hw 1 rfl) (wd hw 2 rfl) rfl (g := (mkF m 54 #[iv p0, jv p1, .second, iv p2, jv p3, .second, iv p4, iv (p0 &&& (7 : Int32)), iv (own_ib p0 p2 p4), jv (own_cb p1 p3 p4), .second, rv ob6, .unset, .unset, .unset, .unset, .unset] [])) rfl (hb hby at_54) (by decide) (by decide)
      obtain ⟨ob29, g29⟩ : ∃ z, z = T27.heap.size := ⟨_, rfl⟩
      rw [← g29] at Ax29 Dx29 Ux29 st29
      have Fc30 : Fld Z T27.heap as_SHORTEST_PATH "java/lang/Enum" "ordinal" "I" (.int 0) := ((O_SHORTEST_PATH.ext Ex6).keep p27_0 (ninS ne7 nin0))
      have ne31 : as_SHORTEST_PATH ≠ ob29 := Nat.ne_of_lt (Nat.lt_of_lt_of_le Fc30.lt (Nat.le_of_eq g29.symm))
      have Fc32 : Fld Z T27.heap as_ALL_SHORTEST_PATHS "java/lang/Enum" "ordinal" "I" (.int 1) := ((O_ALL_SHORTEST_PATHS.ext Ex6).keep p27_0 (ninS ne8 nin0))
      have ne33 : as_ALL_SHORTEST_PATHS ≠ ob29 := Nat.ne_of_lt (Nat.lt_of_lt_of_le Fc32.lt (Nat.le_of_eq g29.symm))
      have Fc34 : Fld Z T27.heap as_ANY_SHORTEST "java/lang/Enum" "ordinal" "I" (.int 2) := ((O_ANY_SHORTEST.ext Ex6).keep p27_0 (ninS ne9 nin0))
      have ne35 : as_ANY_SHORTEST ≠ ob29 := Nat.ne_of_lt (Nat.lt_of_lt_of_le Fc34.lt (Nat.le_of_eq g29.symm))
      have Fc36 : Fld Z T27.heap as_ALL_SHORTEST "java/lang/Enum" "ordinal" "I" (.int 3) := ((O_ALL_SHORTEST.ext Ex6).keep p27_0 (ninS ne10 nin0))
      have ne37 : as_ALL_SHORTEST ≠ ob29 := Nat.ne_of_lt (Nat.lt_of_lt_of_le Fc36.lt (Nat.le_of_eq g29.symm))
      have Fc38 : Fld Z T27.heap as_ANY "java/lang/Enum" "ordinal" "I" (.int 4) := ((O_ANY.ext Ex6).keep p27_0 (ninS ne11 nin0))
      have ne39 : as_ANY ≠ ob29 := Nat.ne_of_lt (Nat.lt_of_lt_of_le Fc38.lt (Nat.le_of_eq g29.symm))
      have Fc40 : Fld Z T27.heap as_ALL "java/lang/Enum" "ordinal" "I" (.int 5) := ((O_ALL.ext Ex6).keep p27_0 (ninS ne12 nin0))
      have ne41 : as_ALL ≠ ob29 := Nat.ne_of_lt (Nat.lt_of_lt_of_le Fc40.lt (Nat.le_of_eq g29.symm))
      have Fc42 : Fld Z T27.heap as_SHORTEST "java/lang/Enum" "ordinal" "I" (.int 6) := ((O_SHORTEST.ext Ex6).keep p27_0 (ninS ne13 nin0))
      have ne43 : as_SHORTEST ≠ ob29 := Nat.ne_of_lt (Nat.lt_of_lt_of_le Fc42.lt (Nat.le_of_eq g29.symm))
      have Fc44 : Fld Z T27.heap as_SHORTEST_GROUPS "java/lang/Enum" "ordinal" "I" (.int 7) := ((O_SHORTEST_GROUPS.ext Ex6).keep p27_0 (ninS ne14 nin0))
      have ne45 : as_SHORTEST_GROUPS ≠ ob29 := Nat.ne_of_lt (Nat.lt_of_lt_of_le Fc44.lt (Nat.le_of_eq g29.symm))
      have Fc46 : Arr Z T27.heap ca cc (.object "java/lang/Long") := (own_Arr_keep (A1.ext Ex6) p27_0 (ninS ne15 nin0))
      have ne47 : ca ≠ ob29 := Nat.ne_of_lt (Nat.lt_of_lt_of_le Fc46.lt (Nat.le_of_eq g29.symm))
      have ne48 : ob6 ≠ ob29 := Nat.ne_of_lt (Nat.lt_of_lt_of_le p27_1.lt (Nat.le_of_eq g29.symm))
      have Z29 : n0 ≤ h29.size := Nat.le_trans Z27 Ex29.1
      have ge29 : n0 ≤ ob29 := Nat.le_trans Z27 (Nat.le_of_eq g29.symm)
      have Fn29_17 : Fld Z h29 ob29 "com/example/allsome/allsome/cypher/PathPattern$Selector" "kind" "Lcom/example/allsome/allsome/cypher/PathPattern$Selector$Kind;" .null := Dx29 (Or.inr (wd hw 17 rfl)) (ty := (.object "com/example/allsome/allsome/cypher/PathPattern$Selector$Kind")) (by decide)
      have Fn29_19 : Fld Z h29 ob29 "com/example/allsome/allsome/cypher/PathPattern$Selector" "count" "J" (.long 0) := Dx29 (Or.inr (wd hw 19 rfl)) (ty := .long) (by decide)
      refine own_lift st29 ?_
      show own_Go p.tables e below (T29.setTop (mkF m 57 #[iv p0, jv p1, .second, iv p2, jv p3, .second, iv p4, iv (p0 &&& (7 : Int32)), iv (own_ib p0 p2 p4), jv (own_cb p1 p3 p4), .second, rv ob6, .unset, .unset, .unset, .unset, .unset] [(.ref ob29)])) _
      have sg49 : ∀ t, Steps p.tables e below (T29.setTop (mkF m 60 #[iv p0, jv p1, .second, iv p2, jv p3, .second, iv p4, iv (p0 &&& (7 : Int32)), iv (own_ib p0 p2 p4), jv (own_cb p1 p3 p4), .second, rv ob6, .unset, .unset, .unset, .unset, .unset] [(.int (own_ib p0 p2 p4)), (.ref ob29), (.ref ob29)])) t → Steps p.tables e below (T29.setTop (mkF m 57 #[iv p0, jv p1, .second, iv p2, jv p3, .second, iv p4, iv (p0 &&& (7 : Int32)), iv (own_ib p0 p2 p4), jv (own_cb p1 p3 p4), .second, rv ob6, .unset, .unset, .unset, .unset, .unset] [(.ref ob29)])) t := by
        intro t k
        refine XS.dup X29.here hx rfl (hb hby at_57) rfl rfl ?_
        show Steps p.tables e below (T29.setTop (mkF m 58 #[iv p0, jv p1, .second, iv p2, jv p3, .second, iv p4, iv (p0 &&& (7 : Int32)), iv (own_ib p0 p2 p4), jv (own_cb p1 p3 p4), .second, rv ob6, .unset, .unset, .unset, .unset, .unset] [(.ref ob29), (.ref ob29)])) _
        refine XS.iload X29.here hx rfl (hb hby at_58) rfl ?_
        show Steps p.tables e below (T29.setTop (mkF m 60 #[iv p0, jv p1, .second, iv p2, jv p3, .second, iv p4, iv (p0 &&& (7 : Int32)), iv (own_ib p0 p2 p4), jv (own_cb p1 p3 p4), .second, rv ob6, .unset, .unset, .unset, .unset, .unset] [(.int (own_ib p0 p2 p4)), (.ref ob29), (.ref ob29)])) _
        exact k
      refine own_lift sg49 ?_
      show own_Go p.tables e below (T29.setTop (mkF m 60 #[iv p0, jv p1, .second, iv p2, jv p3, .second, iv p4, iv (p0 &&& (7 : Int32)), iv (own_ib p0 p2 p4), jv (own_cb p1 p3 p4), .second, rv ob6, .unset, .unset, .unset, .unset, .unset] [(.int (own_ib p0 p2 p4)), (.ref ob29), (.ref ob29)])) _
      have Fc50 : Sta Z h29 "com/example/allsome/allsome/cypher/PathPattern$Selector$Kind" "SHORTEST_PATH" "Lcom/example/allsome/allsome/cypher/PathPattern$Selector$Kind;" (.ref as_SHORTEST_PATH) := ((own_Sta_keep Fc17 p27_0 (allS (own_plain Ax6) all0)).ext Ex29)
      have Fc51 : Sta Z h29 "com/example/allsome/allsome/cypher/PathPattern$Selector$Kind" "ALL_SHORTEST_PATHS" "Lcom/example/allsome/allsome/cypher/PathPattern$Selector$Kind;" (.ref as_ALL_SHORTEST_PATHS) := ((own_Sta_keep Fc18 p27_0 (allS (own_plain Ax6) all0)).ext Ex29)
      have Fc52 : Sta Z h29 "com/example/allsome/allsome/cypher/PathPattern$Selector$Kind" "ANY_SHORTEST" "Lcom/example/allsome/allsome/cypher/PathPattern$Selector$Kind;" (.ref as_ANY_SHORTEST) := ((own_Sta_keep Fc19 p27_0 (allS (own_plain Ax6) all0)).ext Ex29)
      have Fc53 : Sta Z h29 "com/example/allsome/allsome/cypher/PathPattern$Selector$Kind" "ALL_SHORTEST" "Lcom/example/allsome/allsome/cypher/PathPattern$Selector$Kind;" (.ref as_ALL_SHORTEST) := ((own_Sta_keep Fc20 p27_0 (allS (own_plain Ax6) all0)).ext Ex29)
      have Fc54 : Sta Z h29 "com/example/allsome/allsome/cypher/PathPattern$Selector$Kind" "ANY" "Lcom/example/allsome/allsome/cypher/PathPattern$Selector$Kind;" (.ref as_ANY) := ((own_Sta_keep Fc21 p27_0 (allS (own_plain Ax6) all0)).ext Ex29)
      have Fc55 : Sta Z h29 "com/example/allsome/allsome/cypher/PathPattern$Selector$Kind" "ALL" "Lcom/example/allsome/allsome/cypher/PathPattern$Selector$Kind;" (.ref as_ALL) := ((own_Sta_keep Fc22 p27_0 (allS (own_plain Ax6) all0)).ext Ex29)
      have Fc56 : Sta Z h29 "com/example/allsome/allsome/cypher/PathPattern$Selector$Kind" "SHORTEST" "Lcom/example/allsome/allsome/cypher/PathPattern$Selector$Kind;" (.ref as_SHORTEST) := ((own_Sta_keep Fc23 p27_0 (allS (own_plain Ax6) all0)).ext Ex29)
      have Fc57 : Sta Z h29 "com/example/allsome/allsome/cypher/PathPattern$Selector$Kind" "SHORTEST_GROUPS" "Lcom/example/allsome/allsome/cypher/PathPattern$Selector$Kind;" (.ref as_SHORTEST_GROUPS) := ((own_Sta_keep Fc24 p27_0 (allS (own_plain Ax6) all0)).ext Ex29)
      obtain ⟨_, _, ⟨T58, Lx58, kx58, nx58⟩, -, X58, ⟨Lc58, hQ58, lx58, yx58, zx58⟩, st58⟩ := Jvm.LawKit.callS X29 hx (y := (⟨"com/example/allsome/allsome/cypher/SelectorEqualsPinLaw", "kind", "(I)Lcom/example/allsome/allsome/cypher/PathPattern$Selector$Kind;"⟩ : MethodName)) hown (mvT hZ (wd hw 3 rfl)) (mvT hZ (wd hw 4 rfl)) (mvT hZ (wd hw 5 rfl)) (mvT hZ (wd hw 6 rfl)) (by decide) (backOf (W := 2) (rmKind l Z a0 hw [] (own_ib p0 p2 p4) as_SHORTEST_PATH as_ALL_SHORTEST_PATHS as_ANY_SHORTEST as_ALL_SHORTEST as_ANY as_ALL as_SHORTEST as_SHORTEST_GROUPS h29 n0 Z29 Fc50 Fc51 Fc52 Fc53 Fc54 Fc55 Fc56 Fc57) hZ (wd hw 6 rfl) (wd hw 5 rfl) (by decide) (by decide)) (g := (mkF m 60 #[iv p0, jv p1, .second, iv p2, jv p3, .second, iv p4, iv (p0 &&& (7 : Int32)), iv (own_ib p0 p2 p4), jv (own_cb p1 p3 p4), .second, rv ob6, .unset, .unset, .unset, .unset, .unset] [(.int (own_ib p0 p2 p4)), (.ref ob29), (.ref ob29)])) rfl (by rw [hml]; rfl) (argsL := [(.int (own_ib p0 p2 p4))]) (rest := [(.ref ob29), (.ref ob29)]) (lenOf pd_2 rfl) rfl (by show 2 * 0 + _ ≤ _; exact Nat.le_of_eq rfl) (hb hby at_60) (fun _ _ => ⟨rfl, e29, (by decide : 2 + 0 ≤ _), (by decide : 4 + 0 ≤ _)⟩)
      dsimp only [Pt.U, Pt.locs, Pt.cells, Pt.slots] at X58 lx58 yx58 zx58 st58 hQ58
      subst lx58 yx58 zx58
      obtain ⟨rfl, N58q, e58⟩ := hQ58
      have N58 := Fr.app N27 N58q
      refine own_lift st58 ?_
      show own_Go p.tables e below (T58.setTop (mkF m 63 #[iv p0, jv p1, .second, iv p2, jv p3, .second, iv p4, iv (p0 &&& (7 : Int32)), iv (own_ib p0 p2 p4), jv (own_cb p1 p3 p4), .second, rv ob6, .unset, .unset, .unset, .unset, .unset] [(.ref (own_kind (own_ib p0 p2 p4) as_SHORTEST_PATH as_ALL_SHORTEST_PATHS as_ANY_SHORTEST as_ALL_SHORTEST as_ANY as_ALL as_SHORTEST as_SHORTEST_GROUPS)), (.ref ob29), (.ref ob29)])) _
      have sg59 : ∀ t, Steps p.tables e below (T58.setTop (mkF m 65 #[iv p0, jv p1, .second, iv p2, jv p3, .second, iv p4, iv (p0 &&& (7 : Int32)), iv (own_ib p0 p2 p4), jv (own_cb p1 p3 p4), .second, rv ob6, .unset, .unset, .unset, .unset, .unset] [(.long (own_cb p1 p3 p4)), (.ref (own_kind (own_ib p0 p2 p4) as_SHORTEST_PATH as_ALL_SHORTEST_PATHS as_ANY_SHORTEST as_ALL_SHORTEST as_ANY as_ALL as_SHORTEST as_SHORTEST_GROUPS)), (.ref ob29), (.ref ob29)])) t → Steps p.tables e below (T58.setTop (mkF m 63 #[iv p0, jv p1, .second, iv p2, jv p3, .second, iv p4, iv (p0 &&& (7 : Int32)), iv (own_ib p0 p2 p4), jv (own_cb p1 p3 p4), .second, rv ob6, .unset, .unset, .unset, .unset, .unset] [(.ref (own_kind (own_ib p0 p2 p4) as_SHORTEST_PATH as_ALL_SHORTEST_PATHS as_ANY_SHORTEST as_ALL_SHORTEST as_ANY as_ALL as_SHORTEST as_SHORTEST_GROUPS)), (.ref ob29), (.ref ob29)])) t := by
        intro t k
        refine XS.lload X58.here hx rfl (hb hby at_63) rfl ?_
        show Steps p.tables e below (T58.setTop (mkF m 65 #[iv p0, jv p1, .second, iv p2, jv p3, .second, iv p4, iv (p0 &&& (7 : Int32)), iv (own_ib p0 p2 p4), jv (own_cb p1 p3 p4), .second, rv ob6, .unset, .unset, .unset, .unset, .unset] [(.long (own_cb p1 p3 p4)), (.ref (own_kind (own_ib p0 p2 p4) as_SHORTEST_PATH as_ALL_SHORTEST_PATHS as_ANY_SHORTEST as_ALL_SHORTEST as_ANY as_ALL as_SHORTEST as_SHORTEST_GROUPS)), (.ref ob29), (.ref ob29)])) _
        exact k
      refine own_lift sg59 ?_
      show own_Go p.tables e below (T58.setTop (mkF m 65 #[iv p0, jv p1, .second, iv p2, jv p3, .second, iv p4, iv (p0 &&& (7 : Int32)), iv (own_ib p0 p2 p4), jv (own_cb p1 p3 p4), .second, rv ob6, .unset, .unset, .unset, .unset, .unset] [(.long (own_cb p1 p3 p4)), (.ref (own_kind (own_ib p0 p2 p4) as_SHORTEST_PATH as_ALL_SHORTEST_PATHS as_ANY_SHORTEST as_ALL_SHORTEST as_ANY as_ALL as_SHORTEST as_SHORTEST_GROUPS)), (.ref ob29), (.ref ob29)])) _
      obtain ⟨_, _, ⟨T60, Lx60, kx60, nx60⟩, -, X60, ⟨Lc60, hQ60, lx60, yx60, zx60⟩, st60⟩ := X58.specialBack hx (y := (⟨"com/example/allsome/allsome/cypher/PathPattern$Selector", "<init>", "(Lcom/example/allsome/allsome/cypher/PathPattern$Selector$Kind;J)V"⟩ : MethodName)) rfl hown (mvT hZ (wd hw 10 rfl)) (mvT hZ (wd hw 11 rfl)) (mvT hZ (wd hw 12 rfl)) (by decide) (backOf (W := 1) (rmInit l Z a0 hw [] ob29 (own_kind (own_ib p0 p2 p4) as_SHORTEST_PATH as_ALL_SHORTEST_PATHS as_ANY_SHORTEST as_ALL_SHORTEST as_ANY as_ALL as_SHORTEST as_SHORTEST_GROUPS) (own_cb p1 p3 p4) h29 n0 Z29 Fn29_17 Fn29_19 Ax29 ge29) hZ (wd hw 12 rfl) (wd hw 2 rfl) (by decide) (by decide)) (g := (mkF m 65 #[iv p0, jv p1, .second, iv p2, jv p3, .second, iv p4, iv (p0 &&& (7 : Int32)), iv (own_ib p0 p2 p4), jv (own_cb p1 p3 p4), .second, rv ob6, .unset, .unset, .unset, .unset, .unset] [(.long (own_cb p1 p3 p4)), (.ref (own_kind (own_ib p0 p2 p4) as_SHORTEST_PATH as_ALL_SHORTEST_PATHS as_ANY_SHORTEST as_ALL_SHORTEST as_ANY as_ALL as_SHORTEST as_SHORTEST_GROUPS)), (.ref ob29), (.ref ob29)])) rfl (by rw [hml]; rfl) (Steps.refl _) (a := ob29) (argsL := [(.ref (own_kind (own_ib p0 p2 p4) as_SHORTEST_PATH as_ALL_SHORTEST_PATHS as_ANY_SHORTEST as_ALL_SHORTEST as_ANY as_ALL as_SHORTEST as_SHORTEST_GROUPS)), (.long (own_cb p1 p3 p4))]) (rest := [(.ref ob29)]) (lenOf pd_3 rfl) rfl (by show 2 * 0 + _ ≤ _; exact Nat.le_of_eq rfl) (hb hby at_65) (fun _ _ => ⟨rfl, e58, (by decide : 2 + 0 ≤ _), (by decide : 4 + 0 ≤ _)⟩)
      dsimp only [Pt.U, Pt.locs, Pt.cells, Pt.slots] at X60 lx60 yx60 zx60 st60 hQ60
      subst lx60 yx60 zx60
      obtain ⟨rfl, N60q, p60_0, p60_1, p60_2, p60_3⟩ := hQ60
      have N60 := Fr.app N58 N60q
      have Z60 : n0 ≤ T60.heap.size := Nat.le_trans Z29 p60_0.1
      refine own_lift (fun t k => st60.trans k) ?_
      show own_Go p.tables e below (T60.setTop (mkF m 68 #[iv p0, jv p1, .second, iv p2, jv p3, .second, iv p4, iv (p0 &&& (7 : Int32)), iv (own_ib p0 p2 p4), jv (own_cb p1 p3 p4), .second, rv ob6, .unset, .unset, .unset, .unset, .unset] [(.ref ob29)])) _
      have sg61 : ∀ t, Steps p.tables e below (T60.setTop (mkF m 71 #[iv p0, jv p1, .second, iv p2, jv p3, .second, iv p4, iv (p0 &&& (7 : Int32)), iv (own_ib p0 p2 p4), jv (own_cb p1 p3 p4), .second, rv ob6, rv ob29, .unset, .unset, .unset, .unset] [(.long p1)])) t → Steps p.tables e below (T60.setTop (mkF m 68 #[iv p0, jv p1, .second, iv p2, jv p3, .second, iv p4, iv (p0 &&& (7 : Int32)), iv (own_ib p0 p2 p4), jv (own_cb p1 p3 p4), .second, rv ob6, .unset, .unset, .unset, .unset, .unset] [(.ref ob29)])) t := by
        intro t k
        refine XS.astore X60.here hx rfl (hb hby at_68) rfl rfl (l' := #[iv p0, jv p1, .second, iv p2, jv p3, .second, iv p4, iv (p0 &&& (7 : Int32)), iv (own_ib p0 p2 p4), jv (own_cb p1 p3 p4), .second, rv ob6, rv ob29, .unset, .unset, .unset, .unset]) rfl ?_
        show Steps p.tables e below (T60.setTop (mkF m 70 #[iv p0, jv p1, .second, iv p2, jv p3, .second, iv p4, iv (p0 &&& (7 : Int32)), iv (own_ib p0 p2 p4), jv (own_cb p1 p3 p4), .second, rv ob6, rv ob29, .unset, .unset, .unset, .unset] [])) _
        refine XS.lloadN X60.here hx rfl (hb hby at_70) rfl ?_
        show Steps p.tables e below (T60.setTop (mkF m 71 #[iv p0, jv p1, .second, iv p2, jv p3, .second, iv p4, iv (p0 &&& (7 : Int32)), iv (own_ib p0 p2 p4), jv (own_cb p1 p3 p4), .second, rv ob6, rv ob29, .unset, .unset, .unset, .unset] [(.long p1)])) _
        exact k
      refine own_lift sg61 ?_
      show own_Go p.tables e below (T60.setTop (mkF m 71 #[iv p0, jv p1, .second, iv p2, jv p3, .second, iv p4, iv (p0 &&& (7 : Int32)), iv (own_ib p0 p2 p4), jv (own_cb p1 p3 p4), .second, rv ob6, rv ob29, .unset, .unset, .unset, .unset] [(.long p1)])) _
      have Fc62 : Sta Z T60.heap "java/lang/Long$LongCache" "cache" "[Ljava/lang/Long;" (.ref ca) := (own_Sta_keep ((own_Sta_keep (S2.ext Ex6) p27_0 (allS (own_plain Ax6) all0)).ext Ex29) p60_0 (allS (own_plain Ax29) all0))
      have Fc63 : Arr Z T60.heap ca cc (.object "java/lang/Long") := (own_Arr_keep (Fc46.ext Ex29) p60_0 (ninS ne47 nin0))
      have Fc64 : own_Box Z T60.heap "java/lang/Long" cc (¬ (p1 < (-128 : Int64)) ∧ ¬ ((127 : Int64) < p1)) (((p1.toInt32) + (128 : Int32))) := (own_Box_keep (own_Box_ext (own_Box_keep (own_Box_ext B1 Ex6) p27_0) Ex29) p60_0)
      obtain ⟨_, _, ⟨T65, Lx65, kx65, nx65⟩, -, X65, ⟨Lc65, hQ65, lx65, yx65, zx65⟩, st65⟩ := Jvm.LawKit.callS X60 hx (y := (⟨"java/lang/Long", "valueOf", "(J)Ljava/lang/Long;"⟩ : MethodName)) hown (mvT hZ (wd hw 22 rfl)) (mvT hZ (wd hw 23 rfl)) (mvT hZ (wd hw 24 rfl)) (mvT hZ (wd hw 25 rfl)) (by decide) (backOf (W := 0) (rmVal l Z a0 hw [] p1 ca cc T60.heap n0 Z60 Fc62 Fc63 Fc64) hZ (wd hw 25 rfl) (wd hw 24 rfl) (by decide) (by decide)) (g := (mkF m 71 #[iv p0, jv p1, .second, iv p2, jv p3, .second, iv p4, iv (p0 &&& (7 : Int32)), iv (own_ib p0 p2 p4), jv (own_cb p1 p3 p4), .second, rv ob6, rv ob29, .unset, .unset, .unset, .unset] [(.long p1)])) rfl (by rw [hml]; rfl) (argsL := [(.long p1)]) (rest := []) (lenOf pd_4 rfl) rfl (by show 2 * 0 + _ ≤ _; exact Nat.le_of_eq rfl) (hb hby at_71) (fun _ _ => ⟨rfl, rfl, (by decide : 2 + 1 ≤ _), (by decide : 4 + 1 ≤ _)⟩)
      dsimp only [Pt.U, Pt.locs, Pt.cells, Pt.slots] at X65 lx65 yx65 zx65 st65 hQ65
      subst lx65 yx65 zx65
      obtain ⟨xb_65, rfl, N65q, p65_0, p65_1⟩ := hQ65
      have N65 := Fr.app N60 N65q
      have Z65 : n0 ≤ T65.heap.size := Nat.le_trans Z60 p65_0.1
      refine own_lift st65 ?_
      show own_Go p.tables e below (T65.setTop (mkF m 74 #[iv p0, jv p1, .second, iv p2, jv p3, .second, iv p4, iv (p0 &&& (7 : Int32)), iv (own_ib p0 p2 p4), jv (own_cb p1 p3 p4), .second, rv ob6, rv ob29, .unset, .unset, .unset, .unset] [(.ref xb_65)])) _
      have sg66 : ∀ t, Steps p.tables e below (T65.setTop (mkF m 93 #[iv p0, jv p1, .second, iv p2, jv p3, .second, iv p4, iv (p0 &&& (7 : Int32)), iv (own_ib p0 p2 p4), jv (own_cb p1 p3 p4), .second, rv ob6, rv ob29, rv xb_65, iv (((p4.toUInt32 >>> ((2 : Int32) &&& 31).toUInt32).toInt32) &&& (3 : Int32)), .unset, .unset] [.null, (.ref ob6)])) t → Steps p.tables e below (T65.setTop (mkF m 74 #[iv p0, jv p1, .second, iv p2, jv p3, .second, iv p4, iv (p0 &&& (7 : Int32)), iv (own_ib p0 p2 p4), jv (own_cb p1 p3 p4), .second, rv ob6, rv ob29, .unset, .unset, .unset, .unset] [(.ref xb_65)])) t := by
        intro t k
        refine XS.astore X65.here hx rfl (hb hby at_74) rfl rfl (l' := #[iv p0, jv p1, .second, iv p2, jv p3, .second, iv p4, iv (p0 &&& (7 : Int32)), iv (own_ib p0 p2 p4), jv (own_cb p1 p3 p4), .second, rv ob6, rv ob29, rv xb_65, .unset, .unset, .unset]) rfl ?_
        show Steps p.tables e below (T65.setTop (mkF m 76 #[iv p0, jv p1, .second, iv p2, jv p3, .second, iv p4, iv (p0 &&& (7 : Int32)), iv (own_ib p0 p2 p4), jv (own_cb p1 p3 p4), .second, rv ob6, rv ob29, rv xb_65, .unset, .unset, .unset] [])) _
        refine XS.iload X65.here hx rfl (hb hby at_76) rfl ?_
        show Steps p.tables e below (T65.setTop (mkF m 78 #[iv p0, jv p1, .second, iv p2, jv p3, .second, iv p4, iv (p0 &&& (7 : Int32)), iv (own_ib p0 p2 p4), jv (own_cb p1 p3 p4), .second, rv ob6, rv ob29, rv xb_65, .unset, .unset, .unset] [(.int p4)])) _
        refine XS.iconst X65.here hx rfl (hb hby at_78) ?_
        show Steps p.tables e below (T65.setTop (mkF m 79 #[iv p0, jv p1, .second, iv p2, jv p3, .second, iv p4, iv (p0 &&& (7 : Int32)), iv (own_ib p0 p2 p4), jv (own_cb p1 p3 p4), .second, rv ob6, rv ob29, rv xb_65, .unset, .unset, .unset] [(.int 2), (.int p4)])) _
        refine XS.iushr X65.here hx rfl (hb hby at_79) rfl ?_
        show Steps p.tables e below (T65.setTop (mkF m 80 #[iv p0, jv p1, .second, iv p2, jv p3, .second, iv p4, iv (p0 &&& (7 : Int32)), iv (own_ib p0 p2 p4), jv (own_cb p1 p3 p4), .second, rv ob6, rv ob29, rv xb_65, .unset, .unset, .unset] [(.int ((p4.toUInt32 >>> ((2 : Int32) &&& 31).toUInt32).toInt32))])) _
        refine XS.iconst X65.here hx rfl (hb hby at_80) ?_
        show Steps p.tables e below (T65.setTop (mkF m 81 #[iv p0, jv p1, .second, iv p2, jv p3, .second, iv p4, iv (p0 &&& (7 : Int32)), iv (own_ib p0 p2 p4), jv (own_cb p1 p3 p4), .second, rv ob6, rv ob29, rv xb_65, .unset, .unset, .unset] [(.int 3), (.int ((p4.toUInt32 >>> ((2 : Int32) &&& 31).toUInt32).toInt32))])) _
        refine XS.iand X65.here hx rfl (hb hby at_81) rfl ?_
        show Steps p.tables e below (T65.setTop (mkF m 82 #[iv p0, jv p1, .second, iv p2, jv p3, .second, iv p4, iv (p0 &&& (7 : Int32)), iv (own_ib p0 p2 p4), jv (own_cb p1 p3 p4), .second, rv ob6, rv ob29, rv xb_65, .unset, .unset, .unset] [(.int (((p4.toUInt32 >>> ((2 : Int32) &&& 31).toUInt32).toInt32) &&& (3 : Int32)))])) _
        refine XS.istore X65.here hx rfl (hb hby at_82) rfl (l' := #[iv p0, jv p1, .second, iv p2, jv p3, .second, iv p4, iv (p0 &&& (7 : Int32)), iv (own_ib p0 p2 p4), jv (own_cb p1 p3 p4), .second, rv ob6, rv ob29, rv xb_65, iv (((p4.toUInt32 >>> ((2 : Int32) &&& 31).toUInt32).toInt32) &&& (3 : Int32)), .unset, .unset]) rfl ?_
        show Steps p.tables e below (T65.setTop (mkF m 84 #[iv p0, jv p1, .second, iv p2, jv p3, .second, iv p4, iv (p0 &&& (7 : Int32)), iv (own_ib p0 p2 p4), jv (own_cb p1 p3 p4), .second, rv ob6, rv ob29, rv xb_65, iv (((p4.toUInt32 >>> ((2 : Int32) &&& 31).toUInt32).toInt32) &&& (3 : Int32)), .unset, .unset] [])) _
        refine XS.iload X65.here hx rfl (hb hby at_84) rfl ?_
        show Steps p.tables e below (T65.setTop (mkF m 86 #[iv p0, jv p1, .second, iv p2, jv p3, .second, iv p4, iv (p0 &&& (7 : Int32)), iv (own_ib p0 p2 p4), jv (own_cb p1 p3 p4), .second, rv ob6, rv ob29, rv xb_65, iv (((p4.toUInt32 >>> ((2 : Int32) &&& 31).toUInt32).toInt32) &&& (3 : Int32)), .unset, .unset] [(.int (((p4.toUInt32 >>> ((2 : Int32) &&& 31).toUInt32).toInt32) &&& (3 : Int32)))])) _
        refine XS.iconst X65.here hx rfl (hb hby at_86) ?_
        show Steps p.tables e below (T65.setTop (mkF m 87 #[iv p0, jv p1, .second, iv p2, jv p3, .second, iv p4, iv (p0 &&& (7 : Int32)), iv (own_ib p0 p2 p4), jv (own_cb p1 p3 p4), .second, rv ob6, rv ob29, rv xb_65, iv (((p4.toUInt32 >>> ((2 : Int32) &&& 31).toUInt32).toInt32) &&& (3 : Int32)), .unset, .unset] [(.int 2), (.int (((p4.toUInt32 >>> ((2 : Int32) &&& 31).toUInt32).toInt32) &&& (3 : Int32)))])) _
        refine XS.icmpNo X65.here hx rfl (hb hby at_87) rfl (teq w2).2 ?_
        show Steps p.tables e below (T65.setTop (mkF m 90 #[iv p0, jv p1, .second, iv p2, jv p3, .second, iv p4, iv (p0 &&& (7 : Int32)), iv (own_ib p0 p2 p4), jv (own_cb p1 p3 p4), .second, rv ob6, rv ob29, rv xb_65, iv (((p4.toUInt32 >>> ((2 : Int32) &&& 31).toUInt32).toInt32) &&& (3 : Int32)), .unset, .unset] [])) _
        refine XS.aload X65.here hx rfl (hb hby at_90) rfl rfl ?_
        show Steps p.tables e below (T65.setTop (mkF m 92 #[iv p0, jv p1, .second, iv p2, jv p3, .second, iv p4, iv (p0 &&& (7 : Int32)), iv (own_ib p0 p2 p4), jv (own_cb p1 p3 p4), .second, rv ob6, rv ob29, rv xb_65, iv (((p4.toUInt32 >>> ((2 : Int32) &&& 31).toUInt32).toInt32) &&& (3 : Int32)), .unset, .unset] [(.ref ob6)])) _
        refine XS.aconstNull X65.here hx rfl (hb hby at_92) ?_
        show Steps p.tables e below (T65.setTop (mkF m 93 #[iv p0, jv p1, .second, iv p2, jv p3, .second, iv p4, iv (p0 &&& (7 : Int32)), iv (own_ib p0 p2 p4), jv (own_cb p1 p3 p4), .second, rv ob6, rv ob29, rv xb_65, iv (((p4.toUInt32 >>> ((2 : Int32) &&& 31).toUInt32).toInt32) &&& (3 : Int32)), .unset, .unset] [.null, (.ref ob6)])) _
        exact k
      refine own_lift sg66 ?_
      show own_Go p.tables e below (T65.setTop (mkF m 93 #[iv p0, jv p1, .second, iv p2, jv p3, .second, iv p4, iv (p0 &&& (7 : Int32)), iv (own_ib p0 p2 p4), jv (own_cb p1 p3 p4), .second, rv ob6, rv ob29, rv xb_65, iv (((p4.toUInt32 >>> ((2 : Int32) &&& 31).toUInt32).toInt32) &&& (3 : Int32)), .unset, .unset] [.null, (.ref ob6)])) _
      have Fc68 : Exa Z T65.heap ob6 "com/example/allsome/allsome/cypher/PathPattern$Selector" := (((p27_1.ext Ex29).keep p60_0).keep p65_0)
      obtain ⟨cq67, kq67, q67a, q67b, q67c⟩ := isOf hZ rfl Fc68
      obtain ⟨_, _, ⟨T67, Lx67, kx67, nx67⟩, -, X67, ⟨Lc67, hQ67, lx67, yx67, zx67⟩, st67⟩ := X65.virtualBack hx (y := (⟨"com/example/allsome/allsome/cypher/PathPattern$Selector", "equals", "(Ljava/lang/Object;)Z"⟩ : MethodName)) (z := (⟨"com/example/allsome/allsome/cypher/PathPattern$Selector", "equals", "(Ljava/lang/Object;)Z"⟩ : MethodName)) hown (mvT hZ (wd hw 30 rfl)) (mvT hZ (wd hw 31 rfl)) (notFace_of_selects (args := #[]) (mvT hZ (wd hw 33 rfl))) (mvT hZ (wd hw 33 rfl)) (mvT hZ (wd hw 32 rfl)) (by decide) (backOf (W := 0) (rmEqNull l Z a0 hw [] ob6 T65.heap n0 Z65 ) hZ (wd hw 34 rfl) (wd hw 2 rfl) (by decide) (by decide)) q67a q67c (g := (mkF m 93 #[iv p0, jv p1, .second, iv p2, jv p3, .second, iv p4, iv (p0 &&& (7 : Int32)), iv (own_ib p0 p2 p4), jv (own_cb p1 p3 p4), .second, rv ob6, rv ob29, rv xb_65, iv (((p4.toUInt32 >>> ((2 : Int32) &&& 31).toUInt32).toInt32) &&& (3 : Int32)), .unset, .unset] [.null, (.ref ob6)])) rfl (by rw [hml]; rfl) (Steps.refl _) (argsL := [.null]) (rest := []) (lenOf pd_5 rfl) rfl (by show 2 * 0 + _ ≤ _; exact Nat.le_of_eq rfl) (hb hby at_93) (fun _ _ => ⟨rfl, rfl, (by decide : 3 + 0 ≤ _), (by decide : 5 + 0 ≤ _)⟩)
      dsimp only [Pt.U, Pt.locs, Pt.cells, Pt.slots] at X67 lx67 yx67 zx67 st67 hQ67
      subst lx67 yx67 zx67
      obtain ⟨rfl, N67q, e67⟩ := hQ67
      have N67 := Fr.app N65 N67q
      refine own_lift (fun t k => st67.trans k) ?_
      show own_Go p.tables e below (T67.setTop (mkF m 96 #[iv p0, jv p1, .second, iv p2, jv p3, .second, iv p4, iv (p0 &&& (7 : Int32)), iv (own_ib p0 p2 p4), jv (own_cb p1 p3 p4), .second, rv ob6, rv ob29, rv xb_65, iv (((p4.toUInt32 >>> ((2 : Int32) &&& 31).toUInt32).toInt32) &&& (3 : Int32)), .unset, .unset] [(.int 0)])) _
      have sg69 : ∀ t, Steps p.tables e below (T67.setTop (mkF m 167 #[iv p0, jv p1, .second, iv p2, jv p3, .second, iv p4, iv (p0 &&& (7 : Int32)), iv (own_ib p0 p2 p4), jv (own_cb p1 p3 p4), .second, rv ob6, rv ob29, rv xb_65, iv (((p4.toUInt32 >>> ((2 : Int32) &&& 31).toUInt32).toInt32) &&& (3 : Int32)), iv 0, iv 0] [(.int 1)])) t → Steps p.tables e below (T67.setTop (mkF m 96 #[iv p0, jv p1, .second, iv p2, jv p3, .second, iv p4, iv (p0 &&& (7 : Int32)), iv (own_ib p0 p2 p4), jv (own_cb p1 p3 p4), .second, rv ob6, rv ob29, rv xb_65, iv (((p4.toUInt32 >>> ((2 : Int32) &&& 31).toUInt32).toInt32) &&& (3 : Int32)), .unset, .unset] [(.int 0)])) t := by
        intro t k
        refine XS.istore X67.here hx rfl (hb hby at_96) rfl (l' := #[iv p0, jv p1, .second, iv p2, jv p3, .second, iv p4, iv (p0 &&& (7 : Int32)), iv (own_ib p0 p2 p4), jv (own_cb p1 p3 p4), .second, rv ob6, rv ob29, rv xb_65, iv (((p4.toUInt32 >>> ((2 : Int32) &&& 31).toUInt32).toInt32) &&& (3 : Int32)), iv 0, .unset]) rfl ?_
        show Steps p.tables e below (T67.setTop (mkF m 98 #[iv p0, jv p1, .second, iv p2, jv p3, .second, iv p4, iv (p0 &&& (7 : Int32)), iv (own_ib p0 p2 p4), jv (own_cb p1 p3 p4), .second, rv ob6, rv ob29, rv xb_65, iv (((p4.toUInt32 >>> ((2 : Int32) &&& 31).toUInt32).toInt32) &&& (3 : Int32)), iv 0, .unset] [])) _
        refine XS.iconst X67.here hx rfl (hb hby at_98) ?_
        show Steps p.tables e below (T67.setTop (mkF m 99 #[iv p0, jv p1, .second, iv p2, jv p3, .second, iv p4, iv (p0 &&& (7 : Int32)), iv (own_ib p0 p2 p4), jv (own_cb p1 p3 p4), .second, rv ob6, rv ob29, rv xb_65, iv (((p4.toUInt32 >>> ((2 : Int32) &&& 31).toUInt32).toInt32) &&& (3 : Int32)), iv 0, .unset] [(.int 0)])) _
        refine XS.istore X67.here hx rfl (hb hby at_99) rfl (l' := #[iv p0, jv p1, .second, iv p2, jv p3, .second, iv p4, iv (p0 &&& (7 : Int32)), iv (own_ib p0 p2 p4), jv (own_cb p1 p3 p4), .second, rv ob6, rv ob29, rv xb_65, iv (((p4.toUInt32 >>> ((2 : Int32) &&& 31).toUInt32).toInt32) &&& (3 : Int32)), iv 0, iv 0]) rfl ?_
        show Steps p.tables e below (T67.setTop (mkF m 101 #[iv p0, jv p1, .second, iv p2, jv p3, .second, iv p4, iv (p0 &&& (7 : Int32)), iv (own_ib p0 p2 p4), jv (own_cb p1 p3 p4), .second, rv ob6, rv ob29, rv xb_65, iv (((p4.toUInt32 >>> ((2 : Int32) &&& 31).toUInt32).toInt32) &&& (3 : Int32)), iv 0, iv 0] [])) _
        refine XS.goto X67.here hx rfl (pc0 := 101) (pc' := 155) rfl (hb hby at_101) (by decide) (by decide) ?_
        show Steps p.tables e below (T67.setTop (mkF m 155 #[iv p0, jv p1, .second, iv p2, jv p3, .second, iv p4, iv (p0 &&& (7 : Int32)), iv (own_ib p0 p2 p4), jv (own_cb p1 p3 p4), .second, rv ob6, rv ob29, rv xb_65, iv (((p4.toUInt32 >>> ((2 : Int32) &&& 31).toUInt32).toInt32) &&& (3 : Int32)), iv 0, iv 0] [])) _
        refine XS.iload X67.here hx rfl (hb hby at_155) rfl ?_
        show Steps p.tables e below (T67.setTop (mkF m 157 #[iv p0, jv p1, .second, iv p2, jv p3, .second, iv p4, iv (p0 &&& (7 : Int32)), iv (own_ib p0 p2 p4), jv (own_cb p1 p3 p4), .second, rv ob6, rv ob29, rv xb_65, iv (((p4.toUInt32 >>> ((2 : Int32) &&& 31).toUInt32).toInt32) &&& (3 : Int32)), iv 0, iv 0] [(.int 0)])) _
        refine XS.iload X67.here hx rfl (hb hby at_157) rfl ?_
        show Steps p.tables e below (T67.setTop (mkF m 159 #[iv p0, jv p1, .second, iv p2, jv p3, .second, iv p4, iv (p0 &&& (7 : Int32)), iv (own_ib p0 p2 p4), jv (own_cb p1 p3 p4), .second, rv ob6, rv ob29, rv xb_65, iv (((p4.toUInt32 >>> ((2 : Int32) &&& 31).toUInt32).toInt32) &&& (3 : Int32)), iv 0, iv 0] [(.int 0), (.int 0)])) _
        refine XS.icmpNo X67.here hx rfl (hb hby at_159) rfl (teq (by decide : (0 : Int32) = (0 : Int32))).2 ?_
        show Steps p.tables e below (T67.setTop (mkF m 162 #[iv p0, jv p1, .second, iv p2, jv p3, .second, iv p4, iv (p0 &&& (7 : Int32)), iv (own_ib p0 p2 p4), jv (own_cb p1 p3 p4), .second, rv ob6, rv ob29, rv xb_65, iv (((p4.toUInt32 >>> ((2 : Int32) &&& 31).toUInt32).toInt32) &&& (3 : Int32)), iv 0, iv 0] [])) _
        refine XS.iconst X67.here hx rfl (hb hby at_162) ?_
        show Steps p.tables e below (T67.setTop (mkF m 163 #[iv p0, jv p1, .second, iv p2, jv p3, .second, iv p4, iv (p0 &&& (7 : Int32)), iv (own_ib p0 p2 p4), jv (own_cb p1 p3 p4), .second, rv ob6, rv ob29, rv xb_65, iv (((p4.toUInt32 >>> ((2 : Int32) &&& 31).toUInt32).toInt32) &&& (3 : Int32)), iv 0, iv 0] [(.int 1)])) _
        refine XS.goto X67.here hx rfl (pc0 := 163) (pc' := 167) rfl (hb hby at_163) (by decide) (by decide) ?_
        show Steps p.tables e below (T67.setTop (mkF m 167 #[iv p0, jv p1, .second, iv p2, jv p3, .second, iv p4, iv (p0 &&& (7 : Int32)), iv (own_ib p0 p2 p4), jv (own_cb p1 p3 p4), .second, rv ob6, rv ob29, rv xb_65, iv (((p4.toUInt32 >>> ((2 : Int32) &&& 31).toUInt32).toInt32) &&& (3 : Int32)), iv 0, iv 0] [(.int 1)])) _
        exact k
      refine own_lift sg69 ?_
      show own_Go p.tables e below (T67.setTop (mkF m 167 #[iv p0, jv p1, .second, iv p2, jv p3, .second, iv p4, iv (p0 &&& (7 : Int32)), iv (own_ib p0 p2 p4), jv (own_cb p1 p3 p4), .second, rv ob6, rv ob29, rv xb_65, iv (((p4.toUInt32 >>> ((2 : Int32) &&& 31).toUInt32).toInt32) &&& (3 : Int32)), iv 0, iv 0] [(.int 1)])) _
      obtain ⟨fs, hr, hrun, hended, hW, hsame⟩ := X67.leave (v := some (.int 1)) (fun h => by rw [Bd.returns] at h; cases h)
      refine ⟨_, _, ?_, hrun, hended, _, _, rfl, ?_, ⟨_, rfl⟩, hW, hsame.mono (by decide) (by decide)⟩
      · exact retN X67 hx (t := .boolean) Bd.returns (by simp) (hb hby at_167) hr
      · show Q0 Z  h0 n0 _ T67.heap _
        rw [e67]
        exact ⟨rfl, N67⟩
    by_cases b2 : (p4 &&& (2 : Int32)) = (0 : Int32)
    · have sg70 : ∀ t, Steps p.tables e below (T2.setTop (mkF m 37 #[iv p0, jv p1, .second, iv p2, jv p3, .second, iv p4, iv (p0 &&& (7 : Int32)), iv (own_ib p0 p2 p4), .unset, .unset, .unset, .unset, .unset, .unset, .unset, .unset] [(.long p3)])) t → Steps p.tables e below (T2.setTop (mkF m 24 #[iv p0, jv p1, .second, iv p2, jv p3, .second, iv p4, iv (p0 &&& (7 : Int32)), iv (own_ib p0 p2 p4), .unset, .unset, .unset, .unset, .unset, .unset, .unset, .unset] [])) t := by
        intro t k
        refine XS.iload X2.here hx rfl (hb hby at_24) rfl ?_
        show Steps p.tables e below (T2.setTop (mkF m 26 #[iv p0, jv p1, .second, iv p2, jv p3, .second, iv p4, iv (p0 &&& (7 : Int32)), iv (own_ib p0 p2 p4), .unset, .unset, .unset, .unset, .unset, .unset, .unset, .unset] [(.int p4)])) _
        refine XS.iconst X2.here hx rfl (hb hby at_26) ?_
        show Steps p.tables e below (T2.setTop (mkF m 27 #[iv p0, jv p1, .second, iv p2, jv p3, .second, iv p4, iv (p0 &&& (7 : Int32)), iv (own_ib p0 p2 p4), .unset, .unset, .unset, .unset, .unset, .unset, .unset, .unset] [(.int 2), (.int p4)])) _
        refine XS.iand X2.here hx rfl (hb hby at_27) rfl ?_
        show Steps p.tables e below (T2.setTop (mkF m 28 #[iv p0, jv p1, .second, iv p2, jv p3, .second, iv p4, iv (p0 &&& (7 : Int32)), iv (own_ib p0 p2 p4), .unset, .unset, .unset, .unset, .unset, .unset, .unset, .unset] [(.int (p4 &&& (2 : Int32)))])) _
        refine XS.ifYes X2.here hx rfl (pc0 := 28) (pc' := 35) rfl (hb hby at_28) rfl ((if0 _ _).trans (teq b2).1) (by decide) (by decide) ?_
        show Steps p.tables e below (T2.setTop (mkF m 35 #[iv p0, jv p1, .second, iv p2, jv p3, .second, iv p4, iv (p0 &&& (7 : Int32)), iv (own_ib p0 p2 p4), .unset, .unset, .unset, .unset, .unset, .unset, .unset, .unset] [])) _
        refine XS.lload X2.here hx rfl (hb hby at_35) rfl ?_
        show Steps p.tables e below (T2.setTop (mkF m 37 #[iv p0, jv p1, .second, iv p2, jv p3, .second, iv p4, iv (p0 &&& (7 : Int32)), iv (own_ib p0 p2 p4), .unset, .unset, .unset, .unset, .unset, .unset, .unset, .unset] [(.long p3)])) _
        exact k
      refine own_lift sg70 ?_
      show own_Go p.tables e below (T2.setTop (mkF m 37 #[iv p0, jv p1, .second, iv p2, jv p3, .second, iv p4, iv (p0 &&& (7 : Int32)), iv (own_ib p0 p2 p4), .unset, .unset, .unset, .unset, .unset, .unset, .unset, .unset] [(.long p3)])) _
      rw [show (own_cb p1 p3 p4) = p3 from if_pos b2] at join4
      exact join4 _ _ X2 e2 N2
    · have sg71 : ∀ t, Steps p.tables e below (T2.setTop (mkF m 37 #[iv p0, jv p1, .second, iv p2, jv p3, .second, iv p4, iv (p0 &&& (7 : Int32)), iv (own_ib p0 p2 p4), .unset, .unset, .unset, .unset, .unset, .unset, .unset, .unset] [(.long p1)])) t → Steps p.tables e below (T2.setTop (mkF m 24 #[iv p0, jv p1, .second, iv p2, jv p3, .second, iv p4, iv (p0 &&& (7 : Int32)), iv (own_ib p0 p2 p4), .unset, .unset, .unset, .unset, .unset, .unset, .unset, .unset] [])) t := by
        intro t k
        refine XS.iload X2.here hx rfl (hb hby at_24) rfl ?_
        show Steps p.tables e below (T2.setTop (mkF m 26 #[iv p0, jv p1, .second, iv p2, jv p3, .second, iv p4, iv (p0 &&& (7 : Int32)), iv (own_ib p0 p2 p4), .unset, .unset, .unset, .unset, .unset, .unset, .unset, .unset] [(.int p4)])) _
        refine XS.iconst X2.here hx rfl (hb hby at_26) ?_
        show Steps p.tables e below (T2.setTop (mkF m 27 #[iv p0, jv p1, .second, iv p2, jv p3, .second, iv p4, iv (p0 &&& (7 : Int32)), iv (own_ib p0 p2 p4), .unset, .unset, .unset, .unset, .unset, .unset, .unset, .unset] [(.int 2), (.int p4)])) _
        refine XS.iand X2.here hx rfl (hb hby at_27) rfl ?_
        show Steps p.tables e below (T2.setTop (mkF m 28 #[iv p0, jv p1, .second, iv p2, jv p3, .second, iv p4, iv (p0 &&& (7 : Int32)), iv (own_ib p0 p2 p4), .unset, .unset, .unset, .unset, .unset, .unset, .unset, .unset] [(.int (p4 &&& (2 : Int32)))])) _
        refine XS.ifNo X2.here hx rfl (hb hby at_28) rfl ((if0 _ _).trans (feq b2).1) ?_
        show Steps p.tables e below (T2.setTop (mkF m 31 #[iv p0, jv p1, .second, iv p2, jv p3, .second, iv p4, iv (p0 &&& (7 : Int32)), iv (own_ib p0 p2 p4), .unset, .unset, .unset, .unset, .unset, .unset, .unset, .unset] [])) _
        refine XS.lloadN X2.here hx rfl (hb hby at_31) rfl ?_
        show Steps p.tables e below (T2.setTop (mkF m 32 #[iv p0, jv p1, .second, iv p2, jv p3, .second, iv p4, iv (p0 &&& (7 : Int32)), iv (own_ib p0 p2 p4), .unset, .unset, .unset, .unset, .unset, .unset, .unset, .unset] [(.long p1)])) _
        refine XS.goto X2.here hx rfl (pc0 := 32) (pc' := 37) rfl (hb hby at_32) (by decide) (by decide) ?_
        show Steps p.tables e below (T2.setTop (mkF m 37 #[iv p0, jv p1, .second, iv p2, jv p3, .second, iv p4, iv (p0 &&& (7 : Int32)), iv (own_ib p0 p2 p4), .unset, .unset, .unset, .unset, .unset, .unset, .unset, .unset] [(.long p1)])) _
        exact k
      refine own_lift sg71 ?_
      show own_Go p.tables e below (T2.setTop (mkF m 37 #[iv p0, jv p1, .second, iv p2, jv p3, .second, iv p4, iv (p0 &&& (7 : Int32)), iv (own_ib p0 p2 p4), .unset, .unset, .unset, .unset, .unset, .unset, .unset, .unset] [(.long p1)])) _
      rw [show (own_cb p1 p3 p4) = p1 from if_neg b2] at join4
      exact join4 _ _ X2 e2 N2
  by_cases b1 : (p4 &&& (1 : Int32)) = (0 : Int32)
  · have sg72 : ∀ t, Steps p.tables e below (s₁.setTop (mkF m 22 #[iv p0, jv p1, .second, iv p2, jv p3, .second, iv p4, iv (p0 &&& (7 : Int32)), .unset, .unset, .unset, .unset, .unset, .unset, .unset, .unset, .unset] [(.int (p2 &&& (7 : Int32)))])) t → Steps p.tables e below (s₁.setTop (mkF m 6 #[iv p0, jv p1, .second, iv p2, jv p3, .second, iv p4, iv (p0 &&& (7 : Int32)), .unset, .unset, .unset, .unset, .unset, .unset, .unset, .unset, .unset] [])) t := by
      intro t k
      refine XS.iload X0.here hx rfl (hb hby at_6) rfl ?_
      show Steps p.tables e below (s₁.setTop (mkF m 8 #[iv p0, jv p1, .second, iv p2, jv p3, .second, iv p4, iv (p0 &&& (7 : Int32)), .unset, .unset, .unset, .unset, .unset, .unset, .unset, .unset, .unset] [(.int p4)])) _
      refine XS.iconst X0.here hx rfl (hb hby at_8) ?_
      show Steps p.tables e below (s₁.setTop (mkF m 9 #[iv p0, jv p1, .second, iv p2, jv p3, .second, iv p4, iv (p0 &&& (7 : Int32)), .unset, .unset, .unset, .unset, .unset, .unset, .unset, .unset, .unset] [(.int 1), (.int p4)])) _
      refine XS.iand X0.here hx rfl (hb hby at_9) rfl ?_
      show Steps p.tables e below (s₁.setTop (mkF m 10 #[iv p0, jv p1, .second, iv p2, jv p3, .second, iv p4, iv (p0 &&& (7 : Int32)), .unset, .unset, .unset, .unset, .unset, .unset, .unset, .unset, .unset] [(.int (p4 &&& (1 : Int32)))])) _
      refine XS.ifYes X0.here hx rfl (pc0 := 10) (pc' := 18) rfl (hb hby at_10) rfl ((if0 _ _).trans (teq b1).1) (by decide) (by decide) ?_
      show Steps p.tables e below (s₁.setTop (mkF m 18 #[iv p0, jv p1, .second, iv p2, jv p3, .second, iv p4, iv (p0 &&& (7 : Int32)), .unset, .unset, .unset, .unset, .unset, .unset, .unset, .unset, .unset] [])) _
      refine XS.iloadN X0.here hx rfl (hb hby at_18) rfl ?_
      show Steps p.tables e below (s₁.setTop (mkF m 19 #[iv p0, jv p1, .second, iv p2, jv p3, .second, iv p4, iv (p0 &&& (7 : Int32)), .unset, .unset, .unset, .unset, .unset, .unset, .unset, .unset, .unset] [(.int p2)])) _
      refine XS.bipush X0.here hx rfl (hb hby at_19) ?_
      show Steps p.tables e below (s₁.setTop (mkF m 21 #[iv p0, jv p1, .second, iv p2, jv p3, .second, iv p4, iv (p0 &&& (7 : Int32)), .unset, .unset, .unset, .unset, .unset, .unset, .unset, .unset, .unset] [(.int 7), (.int p2)])) _
      refine XS.iand X0.here hx rfl (hb hby at_21) rfl ?_
      show Steps p.tables e below (s₁.setTop (mkF m 22 #[iv p0, jv p1, .second, iv p2, jv p3, .second, iv p4, iv (p0 &&& (7 : Int32)), .unset, .unset, .unset, .unset, .unset, .unset, .unset, .unset, .unset] [(.int (p2 &&& (7 : Int32)))])) _
      exact k
    refine own_lift sg72 ?_
    show own_Go p.tables e below (s₁.setTop (mkF m 22 #[iv p0, jv p1, .second, iv p2, jv p3, .second, iv p4, iv (p0 &&& (7 : Int32)), .unset, .unset, .unset, .unset, .unset, .unset, .unset, .unset, .unset] [(.int (p2 &&& (7 : Int32)))])) _
    rw [show (own_ib p0 p2 p4) = (p2 &&& (7 : Int32)) from if_pos b1] at join2
    exact join2 _ _ X0 e0 N0
  · have sg73 : ∀ t, Steps p.tables e below (s₁.setTop (mkF m 22 #[iv p0, jv p1, .second, iv p2, jv p3, .second, iv p4, iv (p0 &&& (7 : Int32)), .unset, .unset, .unset, .unset, .unset, .unset, .unset, .unset, .unset] [(.int (p0 &&& (7 : Int32)))])) t → Steps p.tables e below (s₁.setTop (mkF m 6 #[iv p0, jv p1, .second, iv p2, jv p3, .second, iv p4, iv (p0 &&& (7 : Int32)), .unset, .unset, .unset, .unset, .unset, .unset, .unset, .unset, .unset] [])) t := by
      intro t k
      refine XS.iload X0.here hx rfl (hb hby at_6) rfl ?_
      show Steps p.tables e below (s₁.setTop (mkF m 8 #[iv p0, jv p1, .second, iv p2, jv p3, .second, iv p4, iv (p0 &&& (7 : Int32)), .unset, .unset, .unset, .unset, .unset, .unset, .unset, .unset, .unset] [(.int p4)])) _
      refine XS.iconst X0.here hx rfl (hb hby at_8) ?_
      show Steps p.tables e below (s₁.setTop (mkF m 9 #[iv p0, jv p1, .second, iv p2, jv p3, .second, iv p4, iv (p0 &&& (7 : Int32)), .unset, .unset, .unset, .unset, .unset, .unset, .unset, .unset, .unset] [(.int 1), (.int p4)])) _
      refine XS.iand X0.here hx rfl (hb hby at_9) rfl ?_
      show Steps p.tables e below (s₁.setTop (mkF m 10 #[iv p0, jv p1, .second, iv p2, jv p3, .second, iv p4, iv (p0 &&& (7 : Int32)), .unset, .unset, .unset, .unset, .unset, .unset, .unset, .unset, .unset] [(.int (p4 &&& (1 : Int32)))])) _
      refine XS.ifNo X0.here hx rfl (hb hby at_10) rfl ((if0 _ _).trans (feq b1).1) ?_
      show Steps p.tables e below (s₁.setTop (mkF m 13 #[iv p0, jv p1, .second, iv p2, jv p3, .second, iv p4, iv (p0 &&& (7 : Int32)), .unset, .unset, .unset, .unset, .unset, .unset, .unset, .unset, .unset] [])) _
      refine XS.iload X0.here hx rfl (hb hby at_13) rfl ?_
      show Steps p.tables e below (s₁.setTop (mkF m 15 #[iv p0, jv p1, .second, iv p2, jv p3, .second, iv p4, iv (p0 &&& (7 : Int32)), .unset, .unset, .unset, .unset, .unset, .unset, .unset, .unset, .unset] [(.int (p0 &&& (7 : Int32)))])) _
      refine XS.goto X0.here hx rfl (pc0 := 15) (pc' := 22) rfl (hb hby at_15) (by decide) (by decide) ?_
      show Steps p.tables e below (s₁.setTop (mkF m 22 #[iv p0, jv p1, .second, iv p2, jv p3, .second, iv p4, iv (p0 &&& (7 : Int32)), .unset, .unset, .unset, .unset, .unset, .unset, .unset, .unset, .unset] [(.int (p0 &&& (7 : Int32)))])) _
      exact k
    refine own_lift sg73 ?_
    show own_Go p.tables e below (s₁.setTop (mkF m 22 #[iv p0, jv p1, .second, iv p2, jv p3, .second, iv p4, iv (p0 &&& (7 : Int32)), .unset, .unset, .unset, .unset, .unset, .unset, .unset, .unset, .unset] [(.int (p0 &&& (7 : Int32)))])) _
    rw [show (own_ib p0 p2 p4) = (p0 &&& (7 : Int32)) from if_neg b1] at join2
    exact join2 _ _ X0 e0 N0
theorem ef_rm0_3 (m : MethodId) (x0 : Int32) (x1 : Int64) (x2 : Int32) (x3 : Int64) (x4 : Int32) : entryFrame m #[(.int x0), (.long x1), (.int x2), (.long x3), (.int x4)] maxLocals = mkF m 0 #[.val (.int x0), .val (.long x1), .second, .val (.int x2), .val (.long x3), .second, .val (.int x4), .unset, .unset, .unset, .unset, .unset, .unset, .unset, .unset, .unset, .unset] [] := by first | (simp [entryFrame, mkF, argsToLocals, Value.category, maxLocals]; done) | rfl
set_option maxRecDepth 65536 in
set_option maxHeartbeats 40000000 in
theorem rm0_3 (l : Launch) (Z : State) (a0 : Array Value) (hw : ∀ d ∈ tables_1, d.before a0 Z = true) (ws : List Jvm.Cond) (p0 : Int32) (p1 : Int64) (p2 : Int32) (p3 : Int64) (p4 : Int32) (as_SHORTEST_PATH : Addr) (as_ALL_SHORTEST_PATHS : Addr) (as_ANY_SHORTEST : Addr) (as_ALL_SHORTEST : Addr) (as_ANY : Addr) (as_ALL : Addr) (as_SHORTEST : Addr) (as_SHORTEST_GROUPS : Addr) (ca : Addr) (cc : Cell) (h0 : Heap) (n0 : Nat) (Z0 : n0 ≤ h0.size) (S_SHORTEST_PATH : Sta Z h0 "com/example/allsome/allsome/cypher/PathPattern$Selector$Kind" "SHORTEST_PATH" "Lcom/example/allsome/allsome/cypher/PathPattern$Selector$Kind;" (.ref as_SHORTEST_PATH)) (S_ALL_SHORTEST_PATHS : Sta Z h0 "com/example/allsome/allsome/cypher/PathPattern$Selector$Kind" "ALL_SHORTEST_PATHS" "Lcom/example/allsome/allsome/cypher/PathPattern$Selector$Kind;" (.ref as_ALL_SHORTEST_PATHS)) (S_ANY_SHORTEST : Sta Z h0 "com/example/allsome/allsome/cypher/PathPattern$Selector$Kind" "ANY_SHORTEST" "Lcom/example/allsome/allsome/cypher/PathPattern$Selector$Kind;" (.ref as_ANY_SHORTEST)) (S_ALL_SHORTEST : Sta Z h0 "com/example/allsome/allsome/cypher/PathPattern$Selector$Kind" "ALL_SHORTEST" "Lcom/example/allsome/allsome/cypher/PathPattern$Selector$Kind;" (.ref as_ALL_SHORTEST)) (S_ANY : Sta Z h0 "com/example/allsome/allsome/cypher/PathPattern$Selector$Kind" "ANY" "Lcom/example/allsome/allsome/cypher/PathPattern$Selector$Kind;" (.ref as_ANY)) (S_ALL : Sta Z h0 "com/example/allsome/allsome/cypher/PathPattern$Selector$Kind" "ALL" "Lcom/example/allsome/allsome/cypher/PathPattern$Selector$Kind;" (.ref as_ALL)) (S_SHORTEST : Sta Z h0 "com/example/allsome/allsome/cypher/PathPattern$Selector$Kind" "SHORTEST" "Lcom/example/allsome/allsome/cypher/PathPattern$Selector$Kind;" (.ref as_SHORTEST)) (S_SHORTEST_GROUPS : Sta Z h0 "com/example/allsome/allsome/cypher/PathPattern$Selector$Kind" "SHORTEST_GROUPS" "Lcom/example/allsome/allsome/cypher/PathPattern$Selector$Kind;" (.ref as_SHORTEST_GROUPS)) (O_SHORTEST_PATH : Fld Z h0 as_SHORTEST_PATH "java/lang/Enum" "ordinal" "I" (.int 0)) (O_ALL_SHORTEST_PATHS : Fld Z h0 as_ALL_SHORTEST_PATHS "java/lang/Enum" "ordinal" "I" (.int 1)) (O_ANY_SHORTEST : Fld Z h0 as_ANY_SHORTEST "java/lang/Enum" "ordinal" "I" (.int 2)) (O_ALL_SHORTEST : Fld Z h0 as_ALL_SHORTEST "java/lang/Enum" "ordinal" "I" (.int 3)) (O_ANY : Fld Z h0 as_ANY "java/lang/Enum" "ordinal" "I" (.int 4)) (O_ALL : Fld Z h0 as_ALL "java/lang/Enum" "ordinal" "I" (.int 5)) (O_SHORTEST : Fld Z h0 as_SHORTEST "java/lang/Enum" "ordinal" "I" (.int 6)) (O_SHORTEST_GROUPS : Fld Z h0 as_SHORTEST_GROUPS "java/lang/Enum" "ordinal" "I" (.int 7)) (S2 : Sta Z h0 "java/lang/Long$LongCache" "cache" "[Ljava/lang/Long;" (.ref ca)) (A1 : Arr Z h0 ca cc (.object "java/lang/Long")) (B1 : own_Box Z h0 "java/lang/Long" cc (¬ (p1 < (-128 : Int64)) ∧ ¬ ((127 : Int64) < p1)) (((p1.toInt32) + (128 : Int32)))) (w2 : ¬ ((((p4.toUInt32 >>> ((2 : Int32) &&& 31).toUInt32).toInt32) &&& (3 : Int32)) = (2 : Int32))) (w3 : (((p4.toUInt32 >>> ((2 : Int32) &&& 31).toUInt32).toInt32) &&& (3 : Int32)) = (3 : Int32)) :
    MetFree l x (head1 (Jvm.Cond.code x code maxLocals ret :: ws) room_1) (fun a U => a = #[(.int p0), (.long p1), (.int p2), (.long p3), (.int p4)] ∧ Z.Warmed39 U.vm ∧ U.heap = h0) (fun _ _ _ _ _ => True) (fun _ U o U' => ∃ v L, o = .returned v ∧ Q0 Z  h0 n0 v U'.heap L ∧ FrameEnd U o U' L 16 128) := by
  refine MetFree.of_bodySF (plainFor_of_name pn_0) hisR ?_
  intro p e s m args below meth c s₁ Bd hml0 hP hK
  obtain ⟨rfl, hZ, hh⟩ := hP
  have hx := Bd.exec
  have hby := Bd.bytes
  have hml : c.maxLocals = 17 := hml0
  have hown : s.vm.findClass "com/example/allsome/allsome/cypher/SelectorEqualsPinLaw" = some m.cls := findClass_of_methodNamed Bd.named
  have hnm := (name_of_methodNamed Bd.named Bd.method).1
  have X0 : Stand p l e room_1 s m #[(.int p0), (.long p1), (.int p2), (.long p3), (.int p4)] below meth c s₁ [] 0 0 := Stand.of_body Bd
  have e0 : s₁.heap = h0 := by rw [← hh, Bd.state]; rfl
  have N0 := Fr.nil n0
  refine own_go (own_lift (fun t k => castTop (ef_rm0_3 m p0 p1 p2 p3 p4) k) ?_)
  show own_Go p.tables e below (s₁.setTop (mkF m 0 #[iv p0, jv p1, .second, iv p2, jv p3, .second, iv p4, .unset, .unset, .unset, .unset, .unset, .unset, .unset, .unset, .unset, .unset] [])) _
  have sg1 : ∀ t, Steps p.tables e below (s₁.setTop (mkF m 6 #[iv p0, jv p1, .second, iv p2, jv p3, .second, iv p4, iv (p0 &&& (7 : Int32)), .unset, .unset, .unset, .unset, .unset, .unset, .unset, .unset, .unset] [])) t → Steps p.tables e below (s₁.setTop (mkF m 0 #[iv p0, jv p1, .second, iv p2, jv p3, .second, iv p4, .unset, .unset, .unset, .unset, .unset, .unset, .unset, .unset, .unset, .unset] [])) t := by
    intro t k
    refine XS.iloadN X0.here hx rfl (hb hby at_0) rfl ?_
    show Steps p.tables e below (s₁.setTop (mkF m 1 #[iv p0, jv p1, .second, iv p2, jv p3, .second, iv p4, .unset, .unset, .unset, .unset, .unset, .unset, .unset, .unset, .unset, .unset] [(.int p0)])) _
    refine XS.bipush X0.here hx rfl (hb hby at_1) ?_
    show Steps p.tables e below (s₁.setTop (mkF m 3 #[iv p0, jv p1, .second, iv p2, jv p3, .second, iv p4, .unset, .unset, .unset, .unset, .unset, .unset, .unset, .unset, .unset, .unset] [(.int 7), (.int p0)])) _
    refine XS.iand X0.here hx rfl (hb hby at_3) rfl ?_
    show Steps p.tables e below (s₁.setTop (mkF m 4 #[iv p0, jv p1, .second, iv p2, jv p3, .second, iv p4, .unset, .unset, .unset, .unset, .unset, .unset, .unset, .unset, .unset, .unset] [(.int (p0 &&& (7 : Int32)))])) _
    refine XS.istore X0.here hx rfl (hb hby at_4) rfl (l' := #[iv p0, jv p1, .second, iv p2, jv p3, .second, iv p4, iv (p0 &&& (7 : Int32)), .unset, .unset, .unset, .unset, .unset, .unset, .unset, .unset, .unset]) rfl ?_
    show Steps p.tables e below (s₁.setTop (mkF m 6 #[iv p0, jv p1, .second, iv p2, jv p3, .second, iv p4, iv (p0 &&& (7 : Int32)), .unset, .unset, .unset, .unset, .unset, .unset, .unset, .unset, .unset] [])) _
    exact k
  refine own_lift sg1 ?_
  show own_Go p.tables e below (s₁.setTop (mkF m 6 #[iv p0, jv p1, .second, iv p2, jv p3, .second, iv p4, iv (p0 &&& (7 : Int32)), .unset, .unset, .unset, .unset, .unset, .unset, .unset, .unset, .unset] [])) _
  have join2 : ∀ (T2 : State) (locs2 : List Loc), Stand p l e room_1 s m #[(.int p0), (.long p1), (.int p2), (.long p3), (.int p4)] below meth c T2 locs2 0 0 → T2.heap = h0 → Fr n0 locs2 → own_Go p.tables e below (T2.setTop (mkF m 22 #[iv p0, jv p1, .second, iv p2, jv p3, .second, iv p4, iv (p0 &&& (7 : Int32)), .unset, .unset, .unset, .unset, .unset, .unset, .unset, .unset, .unset] [(.int (own_ib p0 p2 p4))])) (fun s₂ o => s₂.status = .running ∧ Ended s₂ below o ∧ ∃ v L, o = .returned v ∧ Q0 Z  h0 n0 v s₂.heap L ∧ FrameEnd s o s₂ L 16 128) := by
    intro T2 locs2 X2 e2 N2
    have sg3 : ∀ t, Steps p.tables e below (T2.setTop (mkF m 24 #[iv p0, jv p1, .second, iv p2, jv p3, .second, iv p4, iv (p0 &&& (7 : Int32)), iv (own_ib p0 p2 p4), .unset, .unset, .unset, .unset, .unset, .unset, .unset, .unset] [])) t → Steps p.tables e below (T2.setTop (mkF m 22 #[iv p0, jv p1, .second, iv p2, jv p3, .second, iv p4, iv (p0 &&& (7 : Int32)), .unset, .unset, .unset, .unset, .unset, .unset, .unset, .unset, .unset] [(.int (own_ib p0 p2 p4))])) t := by
      intro t k
      refine XS.istore X2.here hx rfl (hb hby at_22) rfl (l' := #[iv p0, jv p1, .second, iv p2, jv p3, .second, iv p4, iv (p0 &&& (7 : Int32)), iv (own_ib p0 p2 p4), .unset, .unset, .unset, .unset, .unset, .unset, .unset, .unset]) rfl ?_
      show Steps p.tables e below (T2.setTop (mkF m 24 #[iv p0, jv p1, .second, iv p2, jv p3, .second, iv p4, iv (p0 &&& (7 : Int32)), iv (own_ib p0 p2 p4), .unset, .unset, .unset, .unset, .unset, .unset, .unset, .unset] [])) _
      exact k
    refine own_lift sg3 ?_
    show own_Go p.tables e below (T2.setTop (mkF m 24 #[iv p0, jv p1, .second, iv p2, jv p3, .second, iv p4, iv (p0 &&& (7 : Int32)), iv (own_ib p0 p2 p4), .unset, .unset, .unset, .unset, .unset, .unset, .unset, .unset] [])) _
    have join4 : ∀ (T4 : State) (locs4 : List Loc), Stand p l e room_1 s m #[(.int p0), (.long p1), (.int p2), (.long p3), (.int p4)] below meth c T4 locs4 0 0 → T4.heap = h0 → Fr n0 locs4 → own_Go p.tables e below (T4.setTop (mkF m 37 #[iv p0, jv p1, .second, iv p2, jv p3, .second, iv p4, iv (p0 &&& (7 : Int32)), iv (own_ib p0 p2 p4), .unset, .unset, .unset, .unset, .unset, .unset, .unset, .unset] [(.long (own_cb p1 p3 p4))])) (fun s₂ o => s₂.status = .running ∧ Ended s₂ below o ∧ ∃ v L, o = .returned v ∧ Q0 Z  h0 n0 v s₂.heap L ∧ FrameEnd s o s₂ L 16 128) := by
      intro T4 locs4 X4 e4 N4
      have sg5 : ∀ t, Steps p.tables e below (T4.setTop (mkF m 39 #[iv p0, jv p1, .second, iv p2, jv p3, .second, iv p4, iv (p0 &&& (7 : Int32)), iv (own_ib p0 p2 p4), jv (own_cb p1 p3 p4), .second, .unset, .unset, .unset, .unset, .unset, .unset] [])) t → Steps p.tables e below (T4.setTop (mkF m 37 #[iv p0, jv p1, .second, iv p2, jv p3, .second, iv p4, iv (p0 &&& (7 : Int32)), iv (own_ib p0 p2 p4), .unset, .unset, .unset, .unset, .unset, .unset, .unset, .unset] [(.long (own_cb p1 p3 p4))])) t := by
        intro t k
        refine XS.lstore X4.here hx rfl (hb hby at_37) rfl (l' := #[iv p0, jv p1, .second, iv p2, jv p3, .second, iv p4, iv (p0 &&& (7 : Int32)), iv (own_ib p0 p2 p4), jv (own_cb p1 p3 p4), .second, .unset, .unset, .unset, .unset, .unset, .unset]) rfl ?_
        show Steps p.tables e below (T4.setTop (mkF m 39 #[iv p0, jv p1, .second, iv p2, jv p3, .second, iv p4, iv (p0 &&& (7 : Int32)), iv (own_ib p0 p2 p4), jv (own_cb p1 p3 p4), .second, .unset, .unset, .unset, .unset, .unset, .unset] [])) _
        exact k
      refine own_lift sg5 ?_
      show own_Go p.tables e below (T4.setTop (mkF m 39 #[iv p0, jv p1, .second, iv p2, jv p3, .second, iv p4, iv (p0 &&& (7 : Int32)), iv (own_ib p0 p2 p4), jv (own_cb p1 p3 p4), .second, .unset, .unset, .unset, .unset, .unset, .unset] [])) _
      obtain ⟨T6, h6, X6, e6, Ex6, Ax6, Dx6, Ux6, st6⟩ := newO X4 hx hZ hown (wd hw 0 rfl) (wd hw 1 rfl) (wd hw 2 rfl) e4 (g := (mkF m 39 #[iv p0, jv p1, .second, iv p2, jv p3, .second, iv p4, iv (p0 &&& (7 : Int32)), iv (own_ib p0 p2 p4), jv (own_cb p1 p3 p4), .second, .unset, .unset, .unset, .unset, .unset, .unset] [])) rfl (hb hby at_39) (by decide) (by decide)
      obtain ⟨ob6, g6⟩ : ∃ z, z = h0.size := ⟨_, rfl⟩
      rw [← g6] at Ax6 Dx6 Ux6 st6
      have ne7 : as_SHORTEST_PATH ≠ ob6 := Nat.ne_of_lt (Nat.lt_of_lt_of_le O_SHORTEST_PATH.lt (Nat.le_of_eq g6.symm))
      have ne8 : as_ALL_SHORTEST_PATHS ≠ ob6 := Nat.ne_of_lt (Nat.lt_of_lt_of_le O_ALL_SHORTEST_PATHS.lt (Nat.le_of_eq g6.symm))
      have ne9 : as_ANY_SHORTEST ≠ ob6 := Nat.ne_of_lt (Nat.lt_of_lt_of_le O_ANY_SHORTEST.lt (Nat.le_of_eq g6.symm))
      have ne10 : as_ALL_SHORTEST ≠ ob6 := Nat.ne_of_lt (Nat.lt_of_lt_of_le O_ALL_SHORTEST.lt (Nat.le_of_eq g6.symm))
      have ne11 : as_ANY ≠ ob6 := Nat.ne_of_lt (Nat.lt_of_lt_of_le O_ANY.lt (Nat.le_of_eq g6.symm))
      have ne12 : as_ALL ≠ ob6 := Nat.ne_of_lt (Nat.lt_of_lt_of_le O_ALL.lt (Nat.le_of_eq g6.symm))
      have ne13 : as_SHORTEST ≠ ob6 := Nat.ne_of_lt (Nat.lt_of_lt_of_le O_SHORTEST.lt (Nat.le_of_eq g6.symm))
      have ne14 : as_SHORTEST_GROUPS ≠ ob6 := Nat.ne_of_lt (Nat.lt_of_lt_of_le O_SHORTEST_GROUPS.lt (Nat.le_of_eq g6.symm))
      have ne15 : ca ≠ ob6 := Nat.ne_of_lt (Nat.lt_of_lt_of_le A1.lt (Nat.le_of_eq g6.symm))
      have Z6 : n0 ≤ h6.size := Nat.le_trans Z0 Ex6.1
      have ge6 : n0 ≤ ob6 := Nat.le_trans Z0 (Nat.le_of_eq g6.symm)
      have Fn6_17 : Fld Z h6 ob6 "com/example/allsome/allsome/cypher/PathPattern$Selector" "kind" "Lcom/example/allsome/allsome/cypher/PathPattern$Selector$Kind;" .null := Dx6 (Or.inr (wd hw 17 rfl)) (ty := (.object "com/example/allsome/allsome/cypher/PathPattern$Selector$Kind")) (by decide)
      have Fn6_19 : Fld Z h6 ob6 "com/example/allsome/allsome/cypher/PathPattern$Selector" "count" "J" (.long 0) := Dx6 (Or.inr (wd hw 19 rfl)) (ty := .long) (by decide)
      refine own_lift st6 ?_
      show own_Go p.tables e below (T6.setTop (mkF m 42 #[iv p0, jv p1, .second, iv p2, jv p3, .second, iv p4, iv (p0 &&& (7 : Int32)), iv (own_ib p0 p2 p4), jv (own_cb p1 p3 p4), .second, .unset, .unset, .unset, .unset, .unset, .unset] [(.ref ob6)])) _
      have sg16 : ∀ t, Steps p.tables e below (T6.setTop (mkF m 45 #[iv p0, jv p1, .second, iv p2, jv p3, .second, iv p4, iv (p0 &&& (7 : Int32)), iv (own_ib p0 p2 p4), jv (own_cb p1 p3 p4), .second, .unset, .unset, .unset, .unset, .unset, .unset] [(.int (p0 &&& (7 : Int32))), (.ref ob6), (.ref ob6)])) t → Steps p.tables e below (T6.setTop (mkF m 42 #[iv p0, jv p1, .second, iv p2, jv p3, .second, iv p4, iv (p0 &&& (7 : Int32)), iv (own_ib p0 p2 p4), jv (own_cb p1 p3 p4), .second, .unset, .unset, .unset, .unset, .unset, .unset] [(.ref ob6)])) t := by
        intro t k
        refine XS.dup X6.here hx rfl (hb hby at_42) rfl rfl ?_
        show Steps p.tables e below (T6.setTop (mkF m 43 #[iv p0, jv p1, .second, iv p2, jv p3, .second, iv p4, iv (p0 &&& (7 : Int32)), iv (own_ib p0 p2 p4), jv (own_cb p1 p3 p4), .second, .unset, .unset, .unset, .unset, .unset, .unset] [(.ref ob6), (.ref ob6)])) _
        refine XS.iload X6.here hx rfl (hb hby at_43) rfl ?_
        show Steps p.tables e below (T6.setTop (mkF m 45 #[iv p0, jv p1, .second, iv p2, jv p3, .second, iv p4, iv (p0 &&& (7 : Int32)), iv (own_ib p0 p2 p4), jv (own_cb p1 p3 p4), .second, .unset, .unset, .unset, .unset, .unset, .unset] [(.int (p0 &&& (7 : Int32))), (.ref ob6), (.ref ob6)])) _
        exact k
      refine own_lift sg16 ?_
      show own_Go p.tables e below (T6.setTop (mkF m 45 #[iv p0, jv p1, .second, iv p2, jv p3, .second, iv p4, iv (p0 &&& (7 : Int32)), iv (own_ib p0 p2 p4), jv (own_cb p1 p3 p4), .second, .unset, .unset, .unset, .unset, .unset, .unset] [(.int (p0 &&& (7 : Int32))), (.ref ob6), (.ref ob6)])) _
      have Fc17 : Sta Z h6 "com/example/allsome/allsome/cypher/PathPattern$Selector$Kind" "SHORTEST_PATH" "Lcom/example/allsome/allsome/cypher/PathPattern$Selector$Kind;" (.ref as_SHORTEST_PATH) := (S_SHORTEST_PATH.ext Ex6)
      have Fc18 : Sta Z h6 "com/example/allsome/allsome/cypher/PathPattern$Selector$Kind" "ALL_SHORTEST_PATHS" "Lcom/example/allsome/allsome/cypher/PathPattern$Selector$Kind;" (.ref as_ALL_SHORTEST_PATHS) := (S_ALL_SHORTEST_PATHS.ext Ex6)
      have Fc19 : Sta Z h6 "com/example/allsome/allsome/cypher/PathPattern$Selector$Kind" "ANY_SHORTEST" "Lcom/example/allsome/allsome/cypher/PathPattern$Selector$Kind;" (.ref as_ANY_SHORTEST) := (S_ANY_SHORTEST.ext Ex6)
      have Fc20 : Sta Z h6 "com/example/allsome/allsome/cypher/PathPattern$Selector$Kind" "ALL_SHORTEST" "Lcom/example/allsome/allsome/cypher/PathPattern$Selector$Kind;" (.ref as_ALL_SHORTEST) := (S_ALL_SHORTEST.ext Ex6)
      have Fc21 : Sta Z h6 "com/example/allsome/allsome/cypher/PathPattern$Selector$Kind" "ANY" "Lcom/example/allsome/allsome/cypher/PathPattern$Selector$Kind;" (.ref as_ANY) := (S_ANY.ext Ex6)
      have Fc22 : Sta Z h6 "com/example/allsome/allsome/cypher/PathPattern$Selector$Kind" "ALL" "Lcom/example/allsome/allsome/cypher/PathPattern$Selector$Kind;" (.ref as_ALL) := (S_ALL.ext Ex6)
      have Fc23 : Sta Z h6 "com/example/allsome/allsome/cypher/PathPattern$Selector$Kind" "SHORTEST" "Lcom/example/allsome/allsome/cypher/PathPattern$Selector$Kind;" (.ref as_SHORTEST) := (S_SHORTEST.ext Ex6)
      have Fc24 : Sta Z h6 "com/example/allsome/allsome/cypher/PathPattern$Selector$Kind" "SHORTEST_GROUPS" "Lcom/example/allsome/allsome/cypher/PathPattern$Selector$Kind;" (.ref as_SHORTEST_GROUPS) := (S_SHORTEST_GROUPS.ext Ex6)
      obtain ⟨_, _, ⟨T25, Lx25, kx25, nx25⟩, -, X25, ⟨Lc25, hQ25, lx25, yx25, zx25⟩, st25⟩ := Jvm.LawKit.callS X6 hx (y := (⟨"com/example/allsome/allsome/cypher/SelectorEqualsPinLaw", "kind", "(I)Lcom/example/allsome/allsome/cypher/PathPattern$Selector$Kind;"⟩ : MethodName)) hown (mvT hZ (wd hw 3 rfl)) (mvT hZ (wd hw 4 rfl)) (mvT hZ (wd hw 5 rfl)) (mvT hZ (wd hw 6 rfl)) (by decide) (backOf (W := 2) (rmKind l Z a0 hw [] (p0 &&& (7 : Int32)) as_SHORTEST_PATH as_ALL_SHORTEST_PATHS as_ANY_SHORTEST as_ALL_SHORTEST as_ANY as_ALL as_SHORTEST as_SHORTEST_GROUPS h6 n0 Z6 Fc17 Fc18 Fc19 Fc20 Fc21 Fc22 Fc23 Fc24) hZ (wd hw 6 rfl) (wd hw 5 rfl) (by decide) (by decide)) (g := (mkF m 45 #[iv p0, jv p1, .second, iv p2, jv p3, .second, iv p4, iv (p0 &&& (7 : Int32)), iv (own_ib p0 p2 p4), jv (own_cb p1 p3 p4), .second, .unset, .unset, .unset, .unset, .unset, .unset] [(.int (p0 &&& (7 : Int32))), (.ref ob6), (.ref ob6)])) rfl (by rw [hml]; rfl) (argsL := [(.int (p0 &&& (7 : Int32)))]) (rest := [(.ref ob6), (.ref ob6)]) (lenOf pd_2 rfl) rfl (by show 2 * 0 + _ ≤ _; exact Nat.le_of_eq rfl) (hb hby at_45) (fun _ _ => ⟨rfl, e6, (by decide : 1 + 0 ≤ _), (by decide : 2 + 0 ≤ _)⟩)
      dsimp only [Pt.U, Pt.locs, Pt.cells, Pt.slots] at X25 lx25 yx25 zx25 st25 hQ25
      subst lx25 yx25 zx25
      obtain ⟨rfl, N25q, e25⟩ := hQ25
      have N25 := Fr.app N4 N25q
      refine own_lift st25 ?_
      show own_Go p.tables e below (T25.setTop (mkF m 48 #[iv p0, jv p1, .second, iv p2, jv p3, .second, iv p4, iv (p0 &&& (7 : Int32)), iv (own_ib p0 p2 p4), jv (own_cb p1 p3 p4), .second, .unset, .unset, .unset, .unset, .unset, .unset] [(.ref (own_kind (p0 &&& (7 : Int32)) as_SHORTEST_PATH as_ALL_SHORTEST_PATHS as_ANY_SHORTEST as_ALL_SHORTEST as_ANY as_ALL as_SHORTEST as_SHORTEST_GROUPS)), (.ref ob6), (.ref ob6)])) _
      have sg26 : ∀ t, Steps p.tables e below (T25.setTop (mkF m 49 #[iv p0, jv p1, .second, iv p2, jv p3, .second, iv p4, iv (p0 &&& (7 : Int32)), iv (own_ib p0 p2 p4), jv (own_cb p1 p3 p4), .second, .unset, .unset, .unset, .unset, .unset, .unset] [(.long p1), (.ref (own_kind (p0 &&& (7 : Int32)) as_SHORTEST_PATH as_ALL_SHORTEST_PATHS as_ANY_SHORTEST as_ALL_SHORTEST as_ANY as_ALL as_SHORTEST as_SHORTEST_GROUPS)), (.ref ob6), (.ref ob6)])) t → Steps p.tables e below (T25.setTop (mkF m 48 #[iv p0, jv p1, .second, iv p2, jv p3, .second, iv p4, iv (p0 &&& (7 : Int32)), iv (own_ib p0 p2 p4), jv (own_cb p1 p3 p4), .second, .unset, .unset, .unset, .unset, .unset, .unset] [(.ref (own_kind (p0 &&& (7 : Int32)) as_SHORTEST_PATH as_ALL_SHORTEST_PATHS as_ANY_SHORTEST as_ALL_SHORTEST as_ANY as_ALL as_SHORTEST as_SHORTEST_GROUPS)), (.ref ob6), (.ref ob6)])) t := by
        intro t k
        refine XS.lloadN X25.here hx rfl (hb hby at_48) rfl ?_
        show Steps p.tables e below (T25.setTop (mkF m 49 #[iv p0, jv p1, .second, iv p2, jv p3, .second, iv p4, iv (p0 &&& (7 : Int32)), iv (own_ib p0 p2 p4), jv (own_cb p1 p3 p4), .second, .unset, .unset, .unset, .unset, .unset, .unset] [(.long p1), (.ref (own_kind (p0 &&& (7 : Int32)) as_SHORTEST_PATH as_ALL_SHORTEST_PATHS as_ANY_SHORTEST as_ALL_SHORTEST as_ANY as_ALL as_SHORTEST as_SHORTEST_GROUPS)), (.ref ob6), (.ref ob6)])) _
        exact k
      refine own_lift sg26 ?_
      show own_Go p.tables e below (T25.setTop (mkF m 49 #[iv p0, jv p1, .second, iv p2, jv p3, .second, iv p4, iv (p0 &&& (7 : Int32)), iv (own_ib p0 p2 p4), jv (own_cb p1 p3 p4), .second, .unset, .unset, .unset, .unset, .unset, .unset] [(.long p1), (.ref (own_kind (p0 &&& (7 : Int32)) as_SHORTEST_PATH as_ALL_SHORTEST_PATHS as_ANY_SHORTEST as_ALL_SHORTEST as_ANY as_ALL as_SHORTEST as_SHORTEST_GROUPS)), (.ref ob6), (.ref ob6)])) _
      obtain ⟨_, _, ⟨T27, Lx27, kx27, nx27⟩, -, X27, ⟨Lc27, hQ27, lx27, yx27, zx27⟩, st27⟩ := X25.specialBack hx (y := (⟨"com/example/allsome/allsome/cypher/PathPattern$Selector", "<init>", "(Lcom/example/allsome/allsome/cypher/PathPattern$Selector$Kind;J)V"⟩ : MethodName)) rfl hown (mvT hZ (wd hw 10 rfl)) (mvT hZ (wd hw 11 rfl)) (mvT hZ (wd hw 12 rfl)) (by decide) (backOf (W := 1) (rmInit l Z a0 hw [] ob6 (own_kind (p0 &&& (7 : Int32)) as_SHORTEST_PATH as_ALL_SHORTEST_PATHS as_ANY_SHORTEST as_ALL_SHORTEST as_ANY as_ALL as_SHORTEST as_SHORTEST_GROUPS) p1 h6 n0 Z6 Fn6_17 Fn6_19 Ax6 ge6) hZ (wd hw 12 rfl) (wd hw 2 rfl) (by decide) (by decide)) (g := (mkF m 49 #[iv p0, jv p1, .second, iv p2, jv p3, .second, iv p4, iv (p0 &&& (7 : Int32)), iv (own_ib p0 p2 p4), jv (own_cb p1 p3 p4), .second, .unset, .unset, .unset, .unset, .unset, .unset] [(.long p1), (.ref (own_kind (p0 &&& (7 : Int32)) as_SHORTEST_PATH as_ALL_SHORTEST_PATHS as_ANY_SHORTEST as_ALL_SHORTEST as_ANY as_ALL as_SHORTEST as_SHORTEST_GROUPS)), (.ref ob6), (.ref ob6)])) rfl (by rw [hml]; rfl) (Steps.refl _) (a := ob6) (argsL := [(.ref (own_kind (p0 &&& (7 : Int32)) as_SHORTEST_PATH as_ALL_SHORTEST_PATHS as_ANY_SHORTEST as_ALL_SHORTEST as_ANY as_ALL as_SHORTEST as_SHORTEST_GROUPS)), (.long p1)]) (rest := [(.ref ob6)]) (lenOf pd_3 rfl) rfl (by show 2 * 0 + _ ≤ _; exact Nat.le_of_eq rfl) (hb hby at_49) (fun _ _ => ⟨rfl, e25, (by decide : 1 + 0 ≤ _), (by decide : 2 + 0 ≤ _)⟩)
      dsimp only [Pt.U, Pt.locs, Pt.cells, Pt.slots] at X27 lx27 yx27 zx27 st27 hQ27
      subst lx27 yx27 zx27
      obtain ⟨rfl, N27q, p27_0, p27_1, p27_2, p27_3⟩ := hQ27
      have N27 := Fr.app N25 N27q
      have Z27 : n0 ≤ T27.heap.size := Nat.le_trans Z6 p27_0.1
      refine own_lift (fun t k => st27.trans k) ?_
      show own_Go p.tables e below (T27.setTop (mkF m 52 #[iv p0, jv p1, .second, iv p2, jv p3, .second, iv p4, iv (p0 &&& (7 : Int32)), iv (own_ib p0 p2 p4), jv (own_cb p1 p3 p4), .second, .unset, .unset, .unset, .unset, .unset, .unset] [(.ref ob6)])) _
      have sg28 : ∀ t, Steps p.tables e below (T27.setTop (mkF m 54 #[iv p0, jv p1, .second, iv p2, jv p3, .second, iv p4, iv (p0 &&& (7 : Int32)), iv (own_ib p0 p2 p4), jv (own_cb p1 p3 p4), .second, rv ob6, .unset, .unset, .unset, .unset, .unset] [])) t → Steps p.tables e below (T27.setTop (mkF m 52 #[iv p0, jv p1, .second, iv p2, jv p3, .second, iv p4, iv (p0 &&& (7 : Int32)), iv (own_ib p0 p2 p4), jv (own_cb p1 p3 p4), .second, .unset, .unset, .unset, .unset, .unset, .unset] [(.ref ob6)])) t := by
        intro t k
        refine XS.astore X27.here hx rfl (hb hby at_52) rfl rfl (l' := #[iv p0, jv p1, .second, iv p2, jv p3, .second, iv p4, iv (p0 &&& (7 : Int32)), iv (own_ib p0 p2 p4), jv (own_cb p1 p3 p4), .second, rv ob6, .unset, .unset, .unset, .unset, .unset]) rfl ?_
        show Steps p.tables e below (T27.setTop (mkF m 54 #[iv p0, jv p1, .second, iv p2, jv p3, .second, iv p4, iv (p0 &&& (7 : Int32)), iv (own_ib p0 p2 p4), jv (own_cb p1 p3 p4), .second, rv ob6, .unset, .unset, .unset, .unset, .unset] [])) _
        exact k
      refine own_lift sg28 ?_
      show own_Go p.tables e below (T27.setTop (mkF m 54 #[iv p0, jv p1, .second, iv p2, jv p3, .second, iv p4, iv (p0 &&& (7 : Int32)), iv (own_ib p0 p2 p4), jv (own_cb p1 p3 p4), .second, rv ob6, .unset, .unset, .unset, .unset, .unset] [])) _
      obtain ⟨T29, h29, X29, e29, Ex29, Ax29, Dx29, Ux29, st29⟩ := newO X27 hx hZ hown (wd hw 0 rfl) (wd hw 1 rfl) (wd hw 2 rfl) rfl (g := (mkF m 54 #[iv p0, jv p1, .second, iv p2, jv p3, .second, iv p4, iv (p0 &&& (7 : Int32)), iv (own_ib p0 p2 p4), jv (own_cb p1 p3 p4), .second, rv ob6, .unset, .unset, .unset, .unset, .unset] [])) rfl (hb hby at_54) (by decide) (by decide)
      obtain ⟨ob29, g29⟩ : ∃ z, z = T27.heap.size := ⟨_, rfl⟩
      rw [← g29] at Ax29 Dx29 Ux29 st29
      have Fc30 : Fld Z T27.heap as_SHORTEST_PATH "java/lang/Enum" "ordinal" "I" (.int 0) := ((O_SHORTEST_PATH.ext Ex6).keep p27_0 (ninS ne7 nin0))
      have ne31 : as_SHORTEST_PATH ≠ ob29 := Nat.ne_of_lt (Nat.lt_of_lt_of_le Fc30.lt (Nat.le_of_eq g29.symm))
      have Fc32 : Fld Z T27.heap as_ALL_SHORTEST_PATHS "java/lang/Enum" "ordinal" "I" (.int 1) := ((O_ALL_SHORTEST_PATHS.ext Ex6).keep p27_0 (ninS ne8 nin0))
      have ne33 : as_ALL_SHORTEST_PATHS ≠ ob29 := Nat.ne_of_lt (Nat.lt_of_lt_of_le Fc32.lt (Nat.le_of_eq g29.symm))
      have Fc34 : Fld Z T27.heap as_ANY_SHORTEST "java/lang/Enum" "ordinal" "I" (.int 2) := ((O_ANY_SHORTEST.ext Ex6).keep p27_0 (ninS ne9 nin0))
      have ne35 : as_ANY_SHORTEST ≠ ob29 := Nat.ne_of_lt (Nat.lt_of_lt_of_le Fc34.lt (Nat.le_of_eq g29.symm))
      have Fc36 : Fld Z T27.heap as_ALL_SHORTEST "java/lang/Enum" "ordinal" "I" (.int 3) := ((O_ALL_SHORTEST.ext Ex6).keep p27_0 (ninS ne10 nin0))
      have ne37 : as_ALL_SHORTEST ≠ ob29 := Nat.ne_of_lt (Nat.lt_of_lt_of_le Fc36.lt (Nat.le_of_eq g29.symm))
      have Fc38 : Fld Z T27.heap as_ANY "java/lang/Enum" "ordinal" "I" (.int 4) := ((O_ANY.ext Ex6).keep p27_0 (ninS ne11 nin0))
      have ne39 : as_ANY ≠ ob29 := Nat.ne_of_lt (Nat.lt_of_lt_of_le Fc38.lt (Nat.le_of_eq g29.symm))
      have Fc40 : Fld Z T27.heap as_ALL "java/lang/Enum" "ordinal" "I" (.int 5) := ((O_ALL.ext Ex6).keep p27_0 (ninS ne12 nin0))
      have ne41 : as_ALL ≠ ob29 := Nat.ne_of_lt (Nat.lt_of_lt_of_le Fc40.lt (Nat.le_of_eq g29.symm))
      have Fc42 : Fld Z T27.heap as_SHORTEST "java/lang/Enum" "ordinal" "I" (.int 6) := ((O_SHORTEST.ext Ex6).keep p27_0 (ninS ne13 nin0))
      have ne43 : as_SHORTEST ≠ ob29 := Nat.ne_of_lt (Nat.lt_of_lt_of_le Fc42.lt (Nat.le_of_eq g29.symm))
      have Fc44 : Fld Z T27.heap as_SHORTEST_GROUPS "java/lang/Enum" "ordinal" "I" (.int 7) := ((O_SHORTEST_GROUPS.ext Ex6).keep p27_0 (ninS ne14 nin0))
      have ne45 : as_SHORTEST_GROUPS ≠ ob29 := Nat.ne_of_lt (Nat.lt_of_lt_of_le Fc44.lt (Nat.le_of_eq g29.symm))
      have Fc46 : Arr Z T27.heap ca cc (.object "java/lang/Long") := (own_Arr_keep (A1.ext Ex6) p27_0 (ninS ne15 nin0))
      have ne47 : ca ≠ ob29 := Nat.ne_of_lt (Nat.lt_of_lt_of_le Fc46.lt (Nat.le_of_eq g29.symm))
      have ne48 : ob6 ≠ ob29 := Nat.ne_of_lt (Nat.lt_of_lt_of_le p27_1.lt (Nat.le_of_eq g29.symm))
      have Z29 : n0 ≤ h29.size := Nat.le_trans Z27 Ex29.1
      have ge29 : n0 ≤ ob29 := Nat.le_trans Z27 (Nat.le_of_eq g29.symm)
      have Fn29_17 : Fld Z h29 ob29 "com/example/allsome/allsome/cypher/PathPattern$Selector" "kind" "Lcom/example/allsome/allsome/cypher/PathPattern$Selector$Kind;" .null := Dx29 (Or.inr (wd hw 17 rfl)) (ty := (.object "com/example/allsome/allsome/cypher/PathPattern$Selector$Kind")) (by decide)
      have Fn29_19 : Fld Z h29 ob29 "com/example/allsome/allsome/cypher/PathPattern$Selector" "count" "J" (.long 0) := Dx29 (Or.inr (wd hw 19 rfl)) (ty := .long) (by decide)
      refine own_lift st29 ?_
      show own_Go p.tables e below (T29.setTop (mkF m 57 #[iv p0, jv p1, .second, iv p2, jv p3, .second, iv p4, iv (p0 &&& (7 : Int32)), iv (own_ib p0 p2 p4), jv (own_cb p1 p3 p4), .second, rv ob6, .unset, .unset, .unset, .unset, .unset] [(.ref ob29)])) _
      have sg49 : ∀ t, Steps p.tables e below (T29.setTop (mkF m 60 #[iv p0, jv p1, .second, iv p2, jv p3, .second, iv p4, iv (p0 &&& (7 : Int32)), iv (own_ib p0 p2 p4), jv (own_cb p1 p3 p4), .second, rv ob6, .unset, .unset, .unset, .unset, .unset] [(.int (own_ib p0 p2 p4)), (.ref ob29), (.ref ob29)])) t → Steps p.tables e below (T29.setTop (mkF m 57 #[iv p0, jv p1, .second, iv p2, jv p3, .second, iv p4, iv (p0 &&& (7 : Int32)), iv (own_ib p0 p2 p4), jv (own_cb p1 p3 p4), .second, rv ob6, .unset, .unset, .unset, .unset, .unset] [(.ref ob29)])) t := by
        intro t k
        refine XS.dup X29.here hx rfl (hb hby at_57) rfl rfl ?_
        show Steps p.tables e below (T29.setTop (mkF m 58 #[iv p0, jv p1, .second, iv p2, jv p3, .second, iv p4, iv (p0 &&& (7 : Int32)), iv (own_ib p0 p2 p4), jv (own_cb p1 p3 p4), .second, rv ob6, .unset, .unset, .unset, .unset, .unset] [(.ref ob29), (.ref ob29)])) _
        refine XS.iload X29.here hx rfl (hb hby at_58) rfl ?_
        show Steps p.tables e below (T29.setTop (mkF m 60 #[iv p0, jv p1, .second, iv p2, jv p3, .second, iv p4, iv (p0 &&& (7 : Int32)), iv (own_ib p0 p2 p4), jv (own_cb p1 p3 p4), .second, rv ob6, .unset, .unset, .unset, .unset, .unset] [(.int (own_ib p0 p2 p4)), (.ref ob29), (.ref ob29)])) _
        exact k
      refine own_lift sg49 ?_
      show own_Go p.tables e below (T29.setTop (mkF m 60 #[iv p0, jv p1, .second, iv p2, jv p3, .second, iv p4, iv (p0 &&& (7 : Int32)), iv (own_ib p0 p2 p4), jv (own_cb p1 p3 p4), .second, rv ob6, .unset, .unset, .unset, .unset, .unset] [(.int (own_ib p0 p2 p4)), (.ref ob29), (.ref ob29)])) _
      have Fc50 : Sta Z h29 "com/example/allsome/allsome/cypher/PathPattern$Selector$Kind" "SHORTEST_PATH" "Lcom/example/allsome/allsome/cypher/PathPattern$Selector$Kind;" (.ref as_SHORTEST_PATH) := ((own_Sta_keep Fc17 p27_0 (allS (own_plain Ax6) all0)).ext Ex29)
      have Fc51 : Sta Z h29 "com/example/allsome/allsome/cypher/PathPattern$Selector$Kind" "ALL_SHORTEST_PATHS" "Lcom/example/allsome/allsome/cypher/PathPattern$Selector$Kind;" (.ref as_ALL_SHORTEST_PATHS) := ((own_Sta_keep Fc18 p27_0 (allS (own_plain Ax6) all0)).ext Ex29)
      have Fc52 : Sta Z h29 "com/example/allsome/allsome/cypher/PathPattern$Selector$Kind" "ANY_SHORTEST" "Lcom/example/allsome/allsome/cypher/PathPattern$Selector$Kind;" (.ref as_ANY_SHORTEST) := ((own_Sta_keep Fc19 p27_0 (allS (own_plain Ax6) all0)).ext Ex29)
      have Fc53 : Sta Z h29 "com/example/allsome/allsome/cypher/PathPattern$Selector$Kind" "ALL_SHORTEST" "Lcom/example/allsome/allsome/cypher/PathPattern$Selector$Kind;" (.ref as_ALL_SHORTEST) := ((own_Sta_keep Fc20 p27_0 (allS (own_plain Ax6) all0)).ext Ex29)
      have Fc54 : Sta Z h29 "com/example/allsome/allsome/cypher/PathPattern$Selector$Kind" "ANY" "Lcom/example/allsome/allsome/cypher/PathPattern$Selector$Kind;" (.ref as_ANY) := ((own_Sta_keep Fc21 p27_0 (allS (own_plain Ax6) all0)).ext Ex29)
      have Fc55 : Sta Z h29 "com/example/allsome/allsome/cypher/PathPattern$Selector$Kind" "ALL" "Lcom/example/allsome/allsome/cypher/PathPattern$Selector$Kind;" (.ref as_ALL) := ((own_Sta_keep Fc22 p27_0 (allS (own_plain Ax6) all0)).ext Ex29)
      have Fc56 : Sta Z h29 "com/example/allsome/allsome/cypher/PathPattern$Selector$Kind" "SHORTEST" "Lcom/example/allsome/allsome/cypher/PathPattern$Selector$Kind;" (.ref as_SHORTEST) := ((own_Sta_keep Fc23 p27_0 (allS (own_plain Ax6) all0)).ext Ex29)
      have Fc57 : Sta Z h29 "com/example/allsome/allsome/cypher/PathPattern$Selector$Kind" "SHORTEST_GROUPS" "Lcom/example/allsome/allsome/cypher/PathPattern$Selector$Kind;" (.ref as_SHORTEST_GROUPS) := ((own_Sta_keep Fc24 p27_0 (allS (own_plain Ax6) all0)).ext Ex29)
      obtain ⟨_, _, ⟨T58, Lx58, kx58, nx58⟩, -, X58, ⟨Lc58, hQ58, lx58, yx58, zx58⟩, st58⟩ := Jvm.LawKit.callS X29 hx (y := (⟨"com/example/allsome/allsome/cypher/SelectorEqualsPinLaw", "kind", "(I)Lcom/example/allsome/allsome/cypher/PathPattern$Selector$Kind;"⟩ : MethodName)) hown (mvT hZ (wd hw 3 rfl)) (mvT hZ (wd hw 4 rfl)) (mvT hZ (wd hw 5 rfl)) (mvT hZ (wd hw 6 rfl)) (by decide) (backOf (W := 2) (rmKind l Z a0 hw [] (own_ib p0 p2 p4) as_SHORTEST_PATH as_ALL_SHORTEST_PATHS as_ANY_SHORTEST as_ALL_SHORTEST as_ANY as_ALL as_SHORTEST as_SHORTEST_GROUPS h29 n0 Z29 Fc50 Fc51 Fc52 Fc53 Fc54 Fc55 Fc56 Fc57) hZ (wd hw 6 rfl) (wd hw 5 rfl) (by decide) (by decide)) (g := (mkF m 60 #[iv p0, jv p1, .second, iv p2, jv p3, .second, iv p4, iv (p0 &&& (7 : Int32)), iv (own_ib p0 p2 p4), jv (own_cb p1 p3 p4), .second, rv ob6, .unset, .unset, .unset, .unset, .unset] [(.int (own_ib p0 p2 p4)), (.ref ob29), (.ref ob29)])) rfl (by rw [hml]; rfl) (argsL := [(.int (own_ib p0 p2 p4))]) (rest := [(.ref ob29), (.ref ob29)]) (lenOf pd_2 rfl) rfl (by show 2 * 0 + _ ≤ _; exact Nat.le_of_eq rfl) (hb hby at_60) (fun _ _ => ⟨rfl, e29, (by decide : 2 + 0 ≤ _), (by decide : 4 + 0 ≤ _)⟩)
      dsimp only [Pt.U, Pt.locs, Pt.cells, Pt.slots] at X58 lx58 yx58 zx58 st58 hQ58
      subst lx58 yx58 zx58
      obtain ⟨rfl, N58q, e58⟩ := hQ58
      have N58 := Fr.app N27 N58q
      refine own_lift st58 ?_
      show own_Go p.tables e below (T58.setTop (mkF m 63 #[iv p0, jv p1, .second, iv p2, jv p3, .second, iv p4, iv (p0 &&& (7 : Int32)), iv (own_ib p0 p2 p4), jv (own_cb p1 p3 p4), .second, rv ob6, .unset, .unset, .unset, .unset, .unset] [(.ref (own_kind (own_ib p0 p2 p4) as_SHORTEST_PATH as_ALL_SHORTEST_PATHS as_ANY_SHORTEST as_ALL_SHORTEST as_ANY as_ALL as_SHORTEST as_SHORTEST_GROUPS)), (.ref ob29), (.ref ob29)])) _
      have sg59 : ∀ t, Steps p.tables e below (T58.setTop (mkF m 65 #[iv p0, jv p1, .second, iv p2, jv p3, .second, iv p4, iv (p0 &&& (7 : Int32)), iv (own_ib p0 p2 p4), jv (own_cb p1 p3 p4), .second, rv ob6, .unset, .unset, .unset, .unset, .unset] [(.long (own_cb p1 p3 p4)), (.ref (own_kind (own_ib p0 p2 p4) as_SHORTEST_PATH as_ALL_SHORTEST_PATHS as_ANY_SHORTEST as_ALL_SHORTEST as_ANY as_ALL as_SHORTEST as_SHORTEST_GROUPS)), (.ref ob29), (.ref ob29)])) t → Steps p.tables e below (T58.setTop (mkF m 63 #[iv p0, jv p1, .second, iv p2, jv p3, .second, iv p4, iv (p0 &&& (7 : Int32)), iv (own_ib p0 p2 p4), jv (own_cb p1 p3 p4), .second, rv ob6, .unset, .unset, .unset, .unset, .unset] [(.ref (own_kind (own_ib p0 p2 p4) as_SHORTEST_PATH as_ALL_SHORTEST_PATHS as_ANY_SHORTEST as_ALL_SHORTEST as_ANY as_ALL as_SHORTEST as_SHORTEST_GROUPS)), (.ref ob29), (.ref ob29)])) t := by
        intro t k
        refine XS.lload X58.here hx rfl (hb hby at_63) rfl ?_
        show Steps p.tables e below (T58.setTop (mkF m 65 #[iv p0, jv p1, .second, iv p2, jv p3, .second, iv p4, iv (p0 &&& (7 : Int32)), iv (own_ib p0 p2 p4), jv (own_cb p1 p3 p4), .second, rv ob6, .unset, .unset, .unset, .unset, .unset] [(.long (own_cb p1 p3 p4)), (.ref (own_kind (own_ib p0 p2 p4) as_SHORTEST_PATH as_ALL_SHORTEST_PATHS as_ANY_SHORTEST as_ALL_SHORTEST as_ANY as_ALL as_SHORTEST as_SHORTEST_GROUPS)), (.ref ob29), (.ref ob29)])) _
        exact k
      refine own_lift sg59 ?_
      show own_Go p.tables e below (T58.setTop (mkF m 65 #[iv p0, jv p1, .second, iv p2, jv p3, .second, iv p4, iv (p0 &&& (7 : Int32)), iv (own_ib p0 p2 p4), jv (own_cb p1 p3 p4), .second, rv ob6, .unset, .unset, .unset, .unset, .unset] [(.long (own_cb p1 p3 p4)), (.ref (own_kind (own_ib p0 p2 p4) as_SHORTEST_PATH as_ALL_SHORTEST_PATHS as_ANY_SHORTEST as_ALL_SHORTEST as_ANY as_ALL as_SHORTEST as_SHORTEST_GROUPS)), (.ref ob29), (.ref ob29)])) _
      obtain ⟨_, _, ⟨T60, Lx60, kx60, nx60⟩, -, X60, ⟨Lc60, hQ60, lx60, yx60, zx60⟩, st60⟩ := X58.specialBack hx (y := (⟨"com/example/allsome/allsome/cypher/PathPattern$Selector", "<init>", "(Lcom/example/allsome/allsome/cypher/PathPattern$Selector$Kind;J)V"⟩ : MethodName)) rfl hown (mvT hZ (wd hw 10 rfl)) (mvT hZ (wd hw 11 rfl)) (mvT hZ (wd hw 12 rfl)) (by decide) (backOf (W := 1) (rmInit l Z a0 hw [] ob29 (own_kind (own_ib p0 p2 p4) as_SHORTEST_PATH as_ALL_SHORTEST_PATHS as_ANY_SHORTEST as_ALL_SHORTEST as_ANY as_ALL as_SHORTEST as_SHORTEST_GROUPS) (own_cb p1 p3 p4) h29 n0 Z29 Fn29_17 Fn29_19 Ax29 ge29) hZ (wd hw 12 rfl) (wd hw 2 rfl) (by decide) (by decide)) (g := (mkF m 65 #[iv p0, jv p1, .second, iv p2, jv p3, .second, iv p4, iv (p0 &&& (7 : Int32)), iv (own_ib p0 p2 p4), jv (own_cb p1 p3 p4), .second, rv ob6, .unset, .unset, .unset, .unset, .unset] [(.long (own_cb p1 p3 p4)), (.ref (own_kind (own_ib p0 p2 p4) as_SHORTEST_PATH as_ALL_SHORTEST_PATHS as_ANY_SHORTEST as_ALL_SHORTEST as_ANY as_ALL as_SHORTEST as_SHORTEST_GROUPS)), (.ref ob29), (.ref ob29)])) rfl (by rw [hml]; rfl) (Steps.refl _) (a := ob29) (argsL := [(.ref (own_kind (own_ib p0 p2 p4) as_SHORTEST_PATH as_ALL_SHORTEST_PATHS as_ANY_SHORTEST as_ALL_SHORTEST as_ANY as_ALL as_SHORTEST as_SHORTEST_GROUPS)), (.long (own_cb p1 p3 p4))]) (rest := [(.ref ob29)]) (lenOf pd_3 rfl) rfl (by show 2 * 0 + _ ≤ _; exact Nat.le_of_eq rfl) (hb hby at_65) (fun _ _ => ⟨rfl, e58, (by decide : 2 + 0 ≤ _), (by decide : 4 + 0 ≤ _)⟩)
      dsimp only [Pt.U, Pt.locs, Pt.cells, Pt.slots] at X60 lx60 yx60 zx60 st60 hQ60
      subst lx60 yx60 zx60
      obtain ⟨rfl, N60q, p60_0, p60_1, p60_2, p60_3⟩ := hQ60
      have N60 := Fr.app N58 N60q
      have Z60 : n0 ≤ T60.heap.size := Nat.le_trans Z29 p60_0.1
      refine own_lift (fun t k => st60.trans k) ?_
      show own_Go p.tables e below (T60.setTop (mkF m 68 #[iv p0, jv p1, .second, iv p2, jv p3, .second, iv p4, iv (p0 &&& (7 : Int32)), iv (own_ib p0 p2 p4), jv (own_cb p1 p3 p4), .second, rv ob6, .unset, .unset, .unset, .unset, .unset] [(.ref ob29)])) _
      have sg61 : ∀ t, Steps p.tables e below (T60.setTop (mkF m 71 #[iv p0, jv p1, .second, iv p2, jv p3, .second, iv p4, iv (p0 &&& (7 : Int32)), iv (own_ib p0 p2 p4), jv (own_cb p1 p3 p4), .second, rv ob6, rv ob29, .unset, .unset, .unset, .unset] [(.long p1)])) t → Steps p.tables e below (T60.setTop (mkF m 68 #[iv p0, jv p1, .second, iv p2, jv p3, .second, iv p4, iv (p0 &&& (7 : Int32)), iv (own_ib p0 p2 p4), jv (own_cb p1 p3 p4), .second, rv ob6, .unset, .unset, .unset, .unset, .unset] [(.ref ob29)])) t := by
        intro t k
        refine XS.astore X60.here hx rfl (hb hby at_68) rfl rfl (l' := #[iv p0, jv p1, .second, iv p2, jv p3, .second, iv p4, iv (p0 &&& (7 : Int32)), iv (own_ib p0 p2 p4), jv (own_cb p1 p3 p4), .second, rv ob6, rv ob29, .unset, .unset, .unset, .unset]) rfl ?_
        show Steps p.tables e below (T60.setTop (mkF m 70 #[iv p0, jv p1, .second, iv p2, jv p3, .second, iv p4, iv (p0 &&& (7 : Int32)), iv (own_ib p0 p2 p4), jv (own_cb p1 p3 p4), .second, rv ob6, rv ob29, .unset, .unset, .unset, .unset] [])) _
        refine XS.lloadN X60.here hx rfl (hb hby at_70) rfl ?_
        show Steps p.tables e below (T60.setTop (mkF m 71 #[iv p0, jv p1, .second, iv p2, jv p3, .second, iv p4, iv (p0 &&& (7 : Int32)), iv (own_ib p0 p2 p4), jv (own_cb p1 p3 p4), .second, rv ob6, rv ob29, .unset, .unset, .unset, .unset] [(.long p1)])) _
        exact k
      refine own_lift sg61 ?_
      show own_Go p.tables e below (T60.setTop (mkF m 71 #[iv p0, jv p1, .second, iv p2, jv p3, .second, iv p4, iv (p0 &&& (7 : Int32)), iv (own_ib p0 p2 p4), jv (own_cb p1 p3 p4), .second, rv ob6, rv ob29, .unset, .unset, .unset, .unset] [(.long p1)])) _
      have Fc62 : Sta Z T60.heap "java/lang/Long$LongCache" "cache" "[Ljava/lang/Long;" (.ref ca) := (own_Sta_keep ((own_Sta_keep (S2.ext Ex6) p27_0 (allS (own_plain Ax6) all0)).ext Ex29) p60_0 (allS (own_plain Ax29) all0))
      have Fc63 : Arr Z T60.heap ca cc (.object "java/lang/Long") := (own_Arr_keep (Fc46.ext Ex29) p60_0 (ninS ne47 nin0))
      have Fc64 : own_Box Z T60.heap "java/lang/Long" cc (¬ (p1 < (-128 : Int64)) ∧ ¬ ((127 : Int64) < p1)) (((p1.toInt32) + (128 : Int32))) := (own_Box_keep (own_Box_ext (own_Box_keep (own_Box_ext B1 Ex6) p27_0) Ex29) p60_0)
      obtain ⟨_, _, ⟨T65, Lx65, kx65, nx65⟩, -, X65, ⟨Lc65, hQ65, lx65, yx65, zx65⟩, st65⟩ := Jvm.LawKit.callS X60 hx (y := (⟨"java/lang/Long", "valueOf", "(J)Ljava/lang/Long;"⟩ : MethodName)) hown (mvT hZ (wd hw 22 rfl)) (mvT hZ (wd hw 23 rfl)) (mvT hZ (wd hw 24 rfl)) (mvT hZ (wd hw 25 rfl)) (by decide) (backOf (W := 0) (rmVal l Z a0 hw [] p1 ca cc T60.heap n0 Z60 Fc62 Fc63 Fc64) hZ (wd hw 25 rfl) (wd hw 24 rfl) (by decide) (by decide)) (g := (mkF m 71 #[iv p0, jv p1, .second, iv p2, jv p3, .second, iv p4, iv (p0 &&& (7 : Int32)), iv (own_ib p0 p2 p4), jv (own_cb p1 p3 p4), .second, rv ob6, rv ob29, .unset, .unset, .unset, .unset] [(.long p1)])) rfl (by rw [hml]; rfl) (argsL := [(.long p1)]) (rest := []) (lenOf pd_4 rfl) rfl (by show 2 * 0 + _ ≤ _; exact Nat.le_of_eq rfl) (hb hby at_71) (fun _ _ => ⟨rfl, rfl, (by decide : 2 + 1 ≤ _), (by decide : 4 + 1 ≤ _)⟩)
      dsimp only [Pt.U, Pt.locs, Pt.cells, Pt.slots] at X65 lx65 yx65 zx65 st65 hQ65
      subst lx65 yx65 zx65
      obtain ⟨xb_65, rfl, N65q, p65_0, p65_1⟩ := hQ65
      have N65 := Fr.app N60 N65q
      have Z65 : n0 ≤ T65.heap.size := Nat.le_trans Z60 p65_0.1
      refine own_lift st65 ?_
      show own_Go p.tables e below (T65.setTop (mkF m 74 #[iv p0, jv p1, .second, iv p2, jv p3, .second, iv p4, iv (p0 &&& (7 : Int32)), iv (own_ib p0 p2 p4), jv (own_cb p1 p3 p4), .second, rv ob6, rv ob29, .unset, .unset, .unset, .unset] [(.ref xb_65)])) _
      have sg66 : ∀ t, Steps p.tables e below (T65.setTop (mkF m 114 #[iv p0, jv p1, .second, iv p2, jv p3, .second, iv p4, iv (p0 &&& (7 : Int32)), iv (own_ib p0 p2 p4), jv (own_cb p1 p3 p4), .second, rv ob6, rv ob29, rv xb_65, iv (((p4.toUInt32 >>> ((2 : Int32) &&& 31).toUInt32).toInt32) &&& (3 : Int32)), .unset, .unset] [(.ref xb_65), (.ref ob6)])) t → Steps p.tables e below (T65.setTop (mkF m 74 #[iv p0, jv p1, .second, iv p2, jv p3, .second, iv p4, iv (p0 &&& (7 : Int32)), iv (own_ib p0 p2 p4), jv (own_cb p1 p3 p4), .second, rv ob6, rv ob29, .unset, .unset, .unset, .unset] [(.ref xb_65)])) t := by
        intro t k
        refine XS.astore X65.here hx rfl (hb hby at_74) rfl rfl (l' := #[iv p0, jv p1, .second, iv p2, jv p3, .second, iv p4, iv (p0 &&& (7 : Int32)), iv (own_ib p0 p2 p4), jv (own_cb p1 p3 p4), .second, rv ob6, rv ob29, rv xb_65, .unset, .unset, .unset]) rfl ?_
        show Steps p.tables e below (T65.setTop (mkF m 76 #[iv p0, jv p1, .second, iv p2, jv p3, .second, iv p4, iv (p0 &&& (7 : Int32)), iv (own_ib p0 p2 p4), jv (own_cb p1 p3 p4), .second, rv ob6, rv ob29, rv xb_65, .unset, .unset, .unset] [])) _
        refine XS.iload X65.here hx rfl (hb hby at_76) rfl ?_
        show Steps p.tables e below (T65.setTop (mkF m 78 #[iv p0, jv p1, .second, iv p2, jv p3, .second, iv p4, iv (p0 &&& (7 : Int32)), iv (own_ib p0 p2 p4), jv (own_cb p1 p3 p4), .second, rv ob6, rv ob29, rv xb_65, .unset, .unset, .unset] [(.int p4)])) _
        refine XS.iconst X65.here hx rfl (hb hby at_78) ?_
        show Steps p.tables e below (T65.setTop (mkF m 79 #[iv p0, jv p1, .second, iv p2, jv p3, .second, iv p4, iv (p0 &&& (7 : Int32)), iv (own_ib p0 p2 p4), jv (own_cb p1 p3 p4), .second, rv ob6, rv ob29, rv xb_65, .unset, .unset, .unset] [(.int 2), (.int p4)])) _
        refine XS.iushr X65.here hx rfl (hb hby at_79) rfl ?_
        show Steps p.tables e below (T65.setTop (mkF m 80 #[iv p0, jv p1, .second, iv p2, jv p3, .second, iv p4, iv (p0 &&& (7 : Int32)), iv (own_ib p0 p2 p4), jv (own_cb p1 p3 p4), .second, rv ob6, rv ob29, rv xb_65, .unset, .unset, .unset] [(.int ((p4.toUInt32 >>> ((2 : Int32) &&& 31).toUInt32).toInt32))])) _
        refine XS.iconst X65.here hx rfl (hb hby at_80) ?_
        show Steps p.tables e below (T65.setTop (mkF m 81 #[iv p0, jv p1, .second, iv p2, jv p3, .second, iv p4, iv (p0 &&& (7 : Int32)), iv (own_ib p0 p2 p4), jv (own_cb p1 p3 p4), .second, rv ob6, rv ob29, rv xb_65, .unset, .unset, .unset] [(.int 3), (.int ((p4.toUInt32 >>> ((2 : Int32) &&& 31).toUInt32).toInt32))])) _
        refine XS.iand X65.here hx rfl (hb hby at_81) rfl ?_
        show Steps p.tables e below (T65.setTop (mkF m 82 #[iv p0, jv p1, .second, iv p2, jv p3, .second, iv p4, iv (p0 &&& (7 : Int32)), iv (own_ib p0 p2 p4), jv (own_cb p1 p3 p4), .second, rv ob6, rv ob29, rv xb_65, .unset, .unset, .unset] [(.int (((p4.toUInt32 >>> ((2 : Int32) &&& 31).toUInt32).toInt32) &&& (3 : Int32)))])) _
        refine XS.istore X65.here hx rfl (hb hby at_82) rfl (l' := #[iv p0, jv p1, .second, iv p2, jv p3, .second, iv p4, iv (p0 &&& (7 : Int32)), iv (own_ib p0 p2 p4), jv (own_cb p1 p3 p4), .second, rv ob6, rv ob29, rv xb_65, iv (((p4.toUInt32 >>> ((2 : Int32) &&& 31).toUInt32).toInt32) &&& (3 : Int32)), .unset, .unset]) rfl ?_
        show Steps p.tables e below (T65.setTop (mkF m 84 #[iv p0, jv p1, .second, iv p2, jv p3, .second, iv p4, iv (p0 &&& (7 : Int32)), iv (own_ib p0 p2 p4), jv (own_cb p1 p3 p4), .second, rv ob6, rv ob29, rv xb_65, iv (((p4.toUInt32 >>> ((2 : Int32) &&& 31).toUInt32).toInt32) &&& (3 : Int32)), .unset, .unset] [])) _
        refine XS.iload X65.here hx rfl (hb hby at_84) rfl ?_
        show Steps p.tables e below (T65.setTop (mkF m 86 #[iv p0, jv p1, .second, iv p2, jv p3, .second, iv p4, iv (p0 &&& (7 : Int32)), iv (own_ib p0 p2 p4), jv (own_cb p1 p3 p4), .second, rv ob6, rv ob29, rv xb_65, iv (((p4.toUInt32 >>> ((2 : Int32) &&& 31).toUInt32).toInt32) &&& (3 : Int32)), .unset, .unset] [(.int (((p4.toUInt32 >>> ((2 : Int32) &&& 31).toUInt32).toInt32) &&& (3 : Int32)))])) _
        refine XS.iconst X65.here hx rfl (hb hby at_86) ?_
        show Steps p.tables e below (T65.setTop (mkF m 87 #[iv p0, jv p1, .second, iv p2, jv p3, .second, iv p4, iv (p0 &&& (7 : Int32)), iv (own_ib p0 p2 p4), jv (own_cb p1 p3 p4), .second, rv ob6, rv ob29, rv xb_65, iv (((p4.toUInt32 >>> ((2 : Int32) &&& 31).toUInt32).toInt32) &&& (3 : Int32)), .unset, .unset] [(.int 2), (.int (((p4.toUInt32 >>> ((2 : Int32) &&& 31).toUInt32).toInt32) &&& (3 : Int32)))])) _
        refine XS.icmpYes X65.here hx rfl (pc0 := 87) (pc' := 104) rfl (hb hby at_87) rfl (feq w2).2 (by decide) (by decide) ?_
        show Steps p.tables e below (T65.setTop (mkF m 104 #[iv p0, jv p1, .second, iv p2, jv p3, .second, iv p4, iv (p0 &&& (7 : Int32)), iv (own_ib p0 p2 p4), jv (own_cb p1 p3 p4), .second, rv ob6, rv ob29, rv xb_65, iv (((p4.toUInt32 >>> ((2 : Int32) &&& 31).toUInt32).toInt32) &&& (3 : Int32)), .unset, .unset] [])) _
        refine XS.iload X65.here hx rfl (hb hby at_104) rfl ?_
        show Steps p.tables e below (T65.setTop (mkF m 106 #[iv p0, jv p1, .second, iv p2, jv p3, .second, iv p4, iv (p0 &&& (7 : Int32)), iv (own_ib p0 p2 p4), jv (own_cb p1 p3 p4), .second, rv ob6, rv ob29, rv xb_65, iv (((p4.toUInt32 >>> ((2 : Int32) &&& 31).toUInt32).toInt32) &&& (3 : Int32)), .unset, .unset] [(.int (((p4.toUInt32 >>> ((2 : Int32) &&& 31).toUInt32).toInt32) &&& (3 : Int32)))])) _
        refine XS.iconst X65.here hx rfl (hb hby at_106) ?_
        show Steps p.tables e below (T65.setTop (mkF m 107 #[iv p0, jv p1, .second, iv p2, jv p3, .second, iv p4, iv (p0 &&& (7 : Int32)), iv (own_ib p0 p2 p4), jv (own_cb p1 p3 p4), .second, rv ob6, rv ob29, rv xb_65, iv (((p4.toUInt32 >>> ((2 : Int32) &&& 31).toUInt32).toInt32) &&& (3 : Int32)), .unset, .unset] [(.int 3), (.int (((p4.toUInt32 >>> ((2 : Int32) &&& 31).toUInt32).toInt32) &&& (3 : Int32)))])) _
        refine XS.icmpNo X65.here hx rfl (hb hby at_107) rfl (teq w3).2 ?_
        show Steps p.tables e below (T65.setTop (mkF m 110 #[iv p0, jv p1, .second, iv p2, jv p3, .second, iv p4, iv (p0 &&& (7 : Int32)), iv (own_ib p0 p2 p4), jv (own_cb p1 p3 p4), .second, rv ob6, rv ob29, rv xb_65, iv (((p4.toUInt32 >>> ((2 : Int32) &&& 31).toUInt32).toInt32) &&& (3 : Int32)), .unset, .unset] [])) _
        refine XS.aload X65.here hx rfl (hb hby at_110) rfl rfl ?_
        show Steps p.tables e below (T65.setTop (mkF m 112 #[iv p0, jv p1, .second, iv p2, jv p3, .second, iv p4, iv (p0 &&& (7 : Int32)), iv (own_ib p0 p2 p4), jv (own_cb p1 p3 p4), .second, rv ob6, rv ob29, rv xb_65, iv (((p4.toUInt32 >>> ((2 : Int32) &&& 31).toUInt32).toInt32) &&& (3 : Int32)), .unset, .unset] [(.ref ob6)])) _
        refine XS.aload X65.here hx rfl (hb hby at_112) rfl rfl ?_
        show Steps p.tables e below (T65.setTop (mkF m 114 #[iv p0, jv p1, .second, iv p2, jv p3, .second, iv p4, iv (p0 &&& (7 : Int32)), iv (own_ib p0 p2 p4), jv (own_cb p1 p3 p4), .second, rv ob6, rv ob29, rv xb_65, iv (((p4.toUInt32 >>> ((2 : Int32) &&& 31).toUInt32).toInt32) &&& (3 : Int32)), .unset, .unset] [(.ref xb_65), (.ref ob6)])) _
        exact k
      refine own_lift sg66 ?_
      show own_Go p.tables e below (T65.setTop (mkF m 114 #[iv p0, jv p1, .second, iv p2, jv p3, .second, iv p4, iv (p0 &&& (7 : Int32)), iv (own_ib p0 p2 p4), jv (own_cb p1 p3 p4), .second, rv ob6, rv ob29, rv xb_65, iv (((p4.toUInt32 >>> ((2 : Int32) &&& 31).toUInt32).toInt32) &&& (3 : Int32)), .unset, .unset] [(.ref xb_65), (.ref ob6)])) _
      have Fc68 : Exa Z T65.heap ob6 "com/example/allsome/allsome/cypher/PathPattern$Selector" := (((p27_1.ext Ex29).keep p60_0).keep p65_0)
      obtain ⟨cq67, kq67, q67a, q67b, q67c⟩ := isOf hZ rfl Fc68
      obtain ⟨_, _, ⟨T67, Lx67, kx67, nx67⟩, -, X67, ⟨Lc67, hQ67, lx67, yx67, zx67⟩, st67⟩ := X65.virtualBack hx (y := (⟨"com/example/allsome/allsome/cypher/PathPattern$Selector", "equals", "(Ljava/lang/Object;)Z"⟩ : MethodName)) (z := (⟨"com/example/allsome/allsome/cypher/PathPattern$Selector", "equals", "(Ljava/lang/Object;)Z"⟩ : MethodName)) hown (mvT hZ (wd hw 30 rfl)) (mvT hZ (wd hw 31 rfl)) (notFace_of_selects (args := #[]) (mvT hZ (wd hw 33 rfl))) (mvT hZ (wd hw 33 rfl)) (mvT hZ (wd hw 32 rfl)) (by decide) (backOf (W := 0) (rmEqLong l Z a0 hw [] ob6 xb_65 T65.heap n0 Z65 p65_1) hZ (wd hw 34 rfl) (wd hw 2 rfl) (by decide) (by decide)) q67a q67c (g := (mkF m 114 #[iv p0, jv p1, .second, iv p2, jv p3, .second, iv p4, iv (p0 &&& (7 : Int32)), iv (own_ib p0 p2 p4), jv (own_cb p1 p3 p4), .second, rv ob6, rv ob29, rv xb_65, iv (((p4.toUInt32 >>> ((2 : Int32) &&& 31).toUInt32).toInt32) &&& (3 : Int32)), .unset, .unset] [(.ref xb_65), (.ref ob6)])) rfl (by rw [hml]; rfl) (Steps.refl _) (argsL := [(.ref xb_65)]) (rest := []) (lenOf pd_5 rfl) rfl (by show 2 * 0 + _ ≤ _; exact Nat.le_of_eq rfl) (hb hby at_114) (fun _ _ => ⟨rfl, rfl, (by decide : 3 + 0 ≤ _), (by decide : 5 + 0 ≤ _)⟩)
      dsimp only [Pt.U, Pt.locs, Pt.cells, Pt.slots] at X67 lx67 yx67 zx67 st67 hQ67
      subst lx67 yx67 zx67
      obtain ⟨rfl, N67q, e67⟩ := hQ67
      have N67 := Fr.app N65 N67q
      refine own_lift (fun t k => st67.trans k) ?_
      show own_Go p.tables e below (T67.setTop (mkF m 117 #[iv p0, jv p1, .second, iv p2, jv p3, .second, iv p4, iv (p0 &&& (7 : Int32)), iv (own_ib p0 p2 p4), jv (own_cb p1 p3 p4), .second, rv ob6, rv ob29, rv xb_65, iv (((p4.toUInt32 >>> ((2 : Int32) &&& 31).toUInt32).toInt32) &&& (3 : Int32)), .unset, .unset] [(.int 0)])) _
      have sg69 : ∀ t, Steps p.tables e below (T67.setTop (mkF m 167 #[iv p0, jv p1, .second, iv p2, jv p3, .second, iv p4, iv (p0 &&& (7 : Int32)), iv (own_ib p0 p2 p4), jv (own_cb p1 p3 p4), .second, rv ob6, rv ob29, rv xb_65, iv (((p4.toUInt32 >>> ((2 : Int32) &&& 31).toUInt32).toInt32) &&& (3 : Int32)), iv 0, iv 0] [(.int 1)])) t → Steps p.tables e below (T67.setTop (mkF m 117 #[iv p0, jv p1, .second, iv p2, jv p3, .second, iv p4, iv (p0 &&& (7 : Int32)), iv (own_ib p0 p2 p4), jv (own_cb p1 p3 p4), .second, rv ob6, rv ob29, rv xb_65, iv (((p4.toUInt32 >>> ((2 : Int32) &&& 31).toUInt32).toInt32) &&& (3 : Int32)), .unset, .unset] [(.int 0)])) t := by
        intro t k
        refine XS.istore X67.here hx rfl (hb hby at_117) rfl (l' := #[iv p0, jv p1, .second, iv p2, jv p3, .second, iv p4, iv (p0 &&& (7 : Int32)), iv (own_ib p0 p2 p4), jv (own_cb p1 p3 p4), .second, rv ob6, rv ob29, rv xb_65, iv (((p4.toUInt32 >>> ((2 : Int32) &&& 31).toUInt32).toInt32) &&& (3 : Int32)), iv 0, .unset]) rfl ?_
        show Steps p.tables e below (T67.setTop (mkF m 119 #[iv p0, jv p1, .second, iv p2, jv p3, .second, iv p4, iv (p0 &&& (7 : Int32)), iv (own_ib p0 p2 p4), jv (own_cb p1 p3 p4), .second, rv ob6, rv ob29, rv xb_65, iv (((p4.toUInt32 >>> ((2 : Int32) &&& 31).toUInt32).toInt32) &&& (3 : Int32)), iv 0, .unset] [])) _
        refine XS.iconst X67.here hx rfl (hb hby at_119) ?_
        show Steps p.tables e below (T67.setTop (mkF m 120 #[iv p0, jv p1, .second, iv p2, jv p3, .second, iv p4, iv (p0 &&& (7 : Int32)), iv (own_ib p0 p2 p4), jv (own_cb p1 p3 p4), .second, rv ob6, rv ob29, rv xb_65, iv (((p4.toUInt32 >>> ((2 : Int32) &&& 31).toUInt32).toInt32) &&& (3 : Int32)), iv 0, .unset] [(.int 0)])) _
        refine XS.istore X67.here hx rfl (hb hby at_120) rfl (l' := #[iv p0, jv p1, .second, iv p2, jv p3, .second, iv p4, iv (p0 &&& (7 : Int32)), iv (own_ib p0 p2 p4), jv (own_cb p1 p3 p4), .second, rv ob6, rv ob29, rv xb_65, iv (((p4.toUInt32 >>> ((2 : Int32) &&& 31).toUInt32).toInt32) &&& (3 : Int32)), iv 0, iv 0]) rfl ?_
        show Steps p.tables e below (T67.setTop (mkF m 122 #[iv p0, jv p1, .second, iv p2, jv p3, .second, iv p4, iv (p0 &&& (7 : Int32)), iv (own_ib p0 p2 p4), jv (own_cb p1 p3 p4), .second, rv ob6, rv ob29, rv xb_65, iv (((p4.toUInt32 >>> ((2 : Int32) &&& 31).toUInt32).toInt32) &&& (3 : Int32)), iv 0, iv 0] [])) _
        refine XS.goto X67.here hx rfl (pc0 := 122) (pc' := 155) rfl (hb hby at_122) (by decide) (by decide) ?_
        show Steps p.tables e below (T67.setTop (mkF m 155 #[iv p0, jv p1, .second, iv p2, jv p3, .second, iv p4, iv (p0 &&& (7 : Int32)), iv (own_ib p0 p2 p4), jv (own_cb p1 p3 p4), .second, rv ob6, rv ob29, rv xb_65, iv (((p4.toUInt32 >>> ((2 : Int32) &&& 31).toUInt32).toInt32) &&& (3 : Int32)), iv 0, iv 0] [])) _
        refine XS.iload X67.here hx rfl (hb hby at_155) rfl ?_
        show Steps p.tables e below (T67.setTop (mkF m 157 #[iv p0, jv p1, .second, iv p2, jv p3, .second, iv p4, iv (p0 &&& (7 : Int32)), iv (own_ib p0 p2 p4), jv (own_cb p1 p3 p4), .second, rv ob6, rv ob29, rv xb_65, iv (((p4.toUInt32 >>> ((2 : Int32) &&& 31).toUInt32).toInt32) &&& (3 : Int32)), iv 0, iv 0] [(.int 0)])) _
        refine XS.iload X67.here hx rfl (hb hby at_157) rfl ?_
        show Steps p.tables e below (T67.setTop (mkF m 159 #[iv p0, jv p1, .second, iv p2, jv p3, .second, iv p4, iv (p0 &&& (7 : Int32)), iv (own_ib p0 p2 p4), jv (own_cb p1 p3 p4), .second, rv ob6, rv ob29, rv xb_65, iv (((p4.toUInt32 >>> ((2 : Int32) &&& 31).toUInt32).toInt32) &&& (3 : Int32)), iv 0, iv 0] [(.int 0), (.int 0)])) _
        refine XS.icmpNo X67.here hx rfl (hb hby at_159) rfl (teq (by decide : (0 : Int32) = (0 : Int32))).2 ?_
        show Steps p.tables e below (T67.setTop (mkF m 162 #[iv p0, jv p1, .second, iv p2, jv p3, .second, iv p4, iv (p0 &&& (7 : Int32)), iv (own_ib p0 p2 p4), jv (own_cb p1 p3 p4), .second, rv ob6, rv ob29, rv xb_65, iv (((p4.toUInt32 >>> ((2 : Int32) &&& 31).toUInt32).toInt32) &&& (3 : Int32)), iv 0, iv 0] [])) _
        refine XS.iconst X67.here hx rfl (hb hby at_162) ?_
        show Steps p.tables e below (T67.setTop (mkF m 163 #[iv p0, jv p1, .second, iv p2, jv p3, .second, iv p4, iv (p0 &&& (7 : Int32)), iv (own_ib p0 p2 p4), jv (own_cb p1 p3 p4), .second, rv ob6, rv ob29, rv xb_65, iv (((p4.toUInt32 >>> ((2 : Int32) &&& 31).toUInt32).toInt32) &&& (3 : Int32)), iv 0, iv 0] [(.int 1)])) _
        refine XS.goto X67.here hx rfl (pc0 := 163) (pc' := 167) rfl (hb hby at_163) (by decide) (by decide) ?_
        show Steps p.tables e below (T67.setTop (mkF m 167 #[iv p0, jv p1, .second, iv p2, jv p3, .second, iv p4, iv (p0 &&& (7 : Int32)), iv (own_ib p0 p2 p4), jv (own_cb p1 p3 p4), .second, rv ob6, rv ob29, rv xb_65, iv (((p4.toUInt32 >>> ((2 : Int32) &&& 31).toUInt32).toInt32) &&& (3 : Int32)), iv 0, iv 0] [(.int 1)])) _
        exact k
      refine own_lift sg69 ?_
      show own_Go p.tables e below (T67.setTop (mkF m 167 #[iv p0, jv p1, .second, iv p2, jv p3, .second, iv p4, iv (p0 &&& (7 : Int32)), iv (own_ib p0 p2 p4), jv (own_cb p1 p3 p4), .second, rv ob6, rv ob29, rv xb_65, iv (((p4.toUInt32 >>> ((2 : Int32) &&& 31).toUInt32).toInt32) &&& (3 : Int32)), iv 0, iv 0] [(.int 1)])) _
      obtain ⟨fs, hr, hrun, hended, hW, hsame⟩ := X67.leave (v := some (.int 1)) (fun h => by rw [Bd.returns] at h; cases h)
      refine ⟨_, _, ?_, hrun, hended, _, _, rfl, ?_, ⟨_, rfl⟩, hW, hsame.mono (by decide) (by decide)⟩
      · exact retN X67 hx (t := .boolean) Bd.returns (by simp) (hb hby at_167) hr
      · show Q0 Z  h0 n0 _ T67.heap _
        rw [e67]
        exact ⟨rfl, N67⟩
    by_cases b2 : (p4 &&& (2 : Int32)) = (0 : Int32)
    · have sg70 : ∀ t, Steps p.tables e below (T2.setTop (mkF m 37 #[iv p0, jv p1, .second, iv p2, jv p3, .second, iv p4, iv (p0 &&& (7 : Int32)), iv (own_ib p0 p2 p4), .unset, .unset, .unset, .unset, .unset, .unset, .unset, .unset] [(.long p3)])) t → Steps p.tables e below (T2.setTop (mkF m 24 #[iv p0, jv p1, .second, iv p2, jv p3, .second, iv p4, iv (p0 &&& (7 : Int32)), iv (own_ib p0 p2 p4), .unset, .unset, .unset, .unset, .unset, .unset, .unset, .unset] [])) t := by
        intro t k
        refine XS.iload X2.here hx rfl (hb hby at_24) rfl ?_
        show Steps p.tables e below (T2.setTop (mkF m 26 #[iv p0, jv p1, .second, iv p2, jv p3, .second, iv p4, iv (p0 &&& (7 : Int32)), iv (own_ib p0 p2 p4), .unset, .unset, .unset, .unset, .unset, .unset, .unset, .unset] [(.int p4)])) _
        refine XS.iconst X2.here hx rfl (hb hby at_26) ?_
        show Steps p.tables e below (T2.setTop (mkF m 27 #[iv p0, jv p1, .second, iv p2, jv p3, .second, iv p4, iv (p0 &&& (7 : Int32)), iv (own_ib p0 p2 p4), .unset, .unset, .unset, .unset, .unset, .unset, .unset, .unset] [(.int 2), (.int p4)])) _
        refine XS.iand X2.here hx rfl (hb hby at_27) rfl ?_
        show Steps p.tables e below (T2.setTop (mkF m 28 #[iv p0, jv p1, .second, iv p2, jv p3, .second, iv p4, iv (p0 &&& (7 : Int32)), iv (own_ib p0 p2 p4), .unset, .unset, .unset, .unset, .unset, .unset, .unset, .unset] [(.int (p4 &&& (2 : Int32)))])) _
        refine XS.ifYes X2.here hx rfl (pc0 := 28) (pc' := 35) rfl (hb hby at_28) rfl ((if0 _ _).trans (teq b2).1) (by decide) (by decide) ?_
        show Steps p.tables e below (T2.setTop (mkF m 35 #[iv p0, jv p1, .second, iv p2, jv p3, .second, iv p4, iv (p0 &&& (7 : Int32)), iv (own_ib p0 p2 p4), .unset, .unset, .unset, .unset, .unset, .unset, .unset, .unset] [])) _
        refine XS.lload X2.here hx rfl (hb hby at_35) rfl ?_
        show Steps p.tables e below (T2.setTop (mkF m 37 #[iv p0, jv p1, .second, iv p2, jv p3, .second, iv p4, iv (p0 &&& (7 : Int32)), iv (own_ib p0 p2 p4), .unset, .unset, .unset, .unset, .unset, .unset, .unset, .unset] [(.long p3)])) _
        exact k
      refine own_lift sg70 ?_
      show own_Go p.tables e below (T2.setTop (mkF m 37 #[iv p0, jv p1, .second, iv p2, jv p3, .second, iv p4, iv (p0 &&& (7 : Int32)), iv (own_ib p0 p2 p4), .unset, .unset, .unset, .unset, .unset, .unset, .unset, .unset] [(.long p3)])) _
      rw [show (own_cb p1 p3 p4) = p3 from if_pos b2] at join4
      exact join4 _ _ X2 e2 N2
    · have sg71 : ∀ t, Steps p.tables e below (T2.setTop (mkF m 37 #[iv p0, jv p1, .second, iv p2, jv p3, .second, iv p4, iv (p0 &&& (7 : Int32)), iv (own_ib p0 p2 p4), .unset, .unset, .unset, .unset, .unset, .unset, .unset, .unset] [(.long p1)])) t → Steps p.tables e below (T2.setTop (mkF m 24 #[iv p0, jv p1, .second, iv p2, jv p3, .second, iv p4, iv (p0 &&& (7 : Int32)), iv (own_ib p0 p2 p4), .unset, .unset, .unset, .unset, .unset, .unset, .unset, .unset] [])) t := by
        intro t k
        refine XS.iload X2.here hx rfl (hb hby at_24) rfl ?_
        show Steps p.tables e below (T2.setTop (mkF m 26 #[iv p0, jv p1, .second, iv p2, jv p3, .second, iv p4, iv (p0 &&& (7 : Int32)), iv (own_ib p0 p2 p4), .unset, .unset, .unset, .unset, .unset, .unset, .unset, .unset] [(.int p4)])) _
        refine XS.iconst X2.here hx rfl (hb hby at_26) ?_
        show Steps p.tables e below (T2.setTop (mkF m 27 #[iv p0, jv p1, .second, iv p2, jv p3, .second, iv p4, iv (p0 &&& (7 : Int32)), iv (own_ib p0 p2 p4), .unset, .unset, .unset, .unset, .unset, .unset, .unset, .unset] [(.int 2), (.int p4)])) _
        refine XS.iand X2.here hx rfl (hb hby at_27) rfl ?_
        show Steps p.tables e below (T2.setTop (mkF m 28 #[iv p0, jv p1, .second, iv p2, jv p3, .second, iv p4, iv (p0 &&& (7 : Int32)), iv (own_ib p0 p2 p4), .unset, .unset, .unset, .unset, .unset, .unset, .unset, .unset] [(.int (p4 &&& (2 : Int32)))])) _
        refine XS.ifNo X2.here hx rfl (hb hby at_28) rfl ((if0 _ _).trans (feq b2).1) ?_
        show Steps p.tables e below (T2.setTop (mkF m 31 #[iv p0, jv p1, .second, iv p2, jv p3, .second, iv p4, iv (p0 &&& (7 : Int32)), iv (own_ib p0 p2 p4), .unset, .unset, .unset, .unset, .unset, .unset, .unset, .unset] [])) _
        refine XS.lloadN X2.here hx rfl (hb hby at_31) rfl ?_
        show Steps p.tables e below (T2.setTop (mkF m 32 #[iv p0, jv p1, .second, iv p2, jv p3, .second, iv p4, iv (p0 &&& (7 : Int32)), iv (own_ib p0 p2 p4), .unset, .unset, .unset, .unset, .unset, .unset, .unset, .unset] [(.long p1)])) _
        refine XS.goto X2.here hx rfl (pc0 := 32) (pc' := 37) rfl (hb hby at_32) (by decide) (by decide) ?_
        show Steps p.tables e below (T2.setTop (mkF m 37 #[iv p0, jv p1, .second, iv p2, jv p3, .second, iv p4, iv (p0 &&& (7 : Int32)), iv (own_ib p0 p2 p4), .unset, .unset, .unset, .unset, .unset, .unset, .unset, .unset] [(.long p1)])) _
        exact k
      refine own_lift sg71 ?_
      show own_Go p.tables e below (T2.setTop (mkF m 37 #[iv p0, jv p1, .second, iv p2, jv p3, .second, iv p4, iv (p0 &&& (7 : Int32)), iv (own_ib p0 p2 p4), .unset, .unset, .unset, .unset, .unset, .unset, .unset, .unset] [(.long p1)])) _
      rw [show (own_cb p1 p3 p4) = p1 from if_neg b2] at join4
      exact join4 _ _ X2 e2 N2
  by_cases b1 : (p4 &&& (1 : Int32)) = (0 : Int32)
  · have sg72 : ∀ t, Steps p.tables e below (s₁.setTop (mkF m 22 #[iv p0, jv p1, .second, iv p2, jv p3, .second, iv p4, iv (p0 &&& (7 : Int32)), .unset, .unset, .unset, .unset, .unset, .unset, .unset, .unset, .unset] [(.int (p2 &&& (7 : Int32)))])) t → Steps p.tables e below (s₁.setTop (mkF m 6 #[iv p0, jv p1, .second, iv p2, jv p3, .second, iv p4, iv (p0 &&& (7 : Int32)), .unset, .unset, .unset, .unset, .unset, .unset, .unset, .unset, .unset] [])) t := by
      intro t k
      refine XS.iload X0.here hx rfl (hb hby at_6) rfl ?_
      show Steps p.tables e below (s₁.setTop (mkF m 8 #[iv p0, jv p1, .second, iv p2, jv p3, .second, iv p4, iv (p0 &&& (7 : Int32)), .unset, .unset, .unset, .unset, .unset, .unset, .unset, .unset, .unset] [(.int p4)])) _
      refine XS.iconst X0.here hx rfl (hb hby at_8) ?_
      show Steps p.tables e below (s₁.setTop (mkF m 9 #[iv p0, jv p1, .second, iv p2, jv p3, .second, iv p4, iv (p0 &&& (7 : Int32)), .unset, .unset, .unset, .unset, .unset, .unset, .unset, .unset, .unset] [(.int 1), (.int p4)])) _
      refine XS.iand X0.here hx rfl (hb hby at_9) rfl ?_
      show Steps p.tables e below (s₁.setTop (mkF m 10 #[iv p0, jv p1, .second, iv p2, jv p3, .second, iv p4, iv (p0 &&& (7 : Int32)), .unset, .unset, .unset, .unset, .unset, .unset, .unset, .unset, .unset] [(.int (p4 &&& (1 : Int32)))])) _
      refine XS.ifYes X0.here hx rfl (pc0 := 10) (pc' := 18) rfl (hb hby at_10) rfl ((if0 _ _).trans (teq b1).1) (by decide) (by decide) ?_
      show Steps p.tables e below (s₁.setTop (mkF m 18 #[iv p0, jv p1, .second, iv p2, jv p3, .second, iv p4, iv (p0 &&& (7 : Int32)), .unset, .unset, .unset, .unset, .unset, .unset, .unset, .unset, .unset] [])) _
      refine XS.iloadN X0.here hx rfl (hb hby at_18) rfl ?_
      show Steps p.tables e below (s₁.setTop (mkF m 19 #[iv p0, jv p1, .second, iv p2, jv p3, .second, iv p4, iv (p0 &&& (7 : Int32)), .unset, .unset, .unset, .unset, .unset, .unset, .unset, .unset, .unset] [(.int p2)])) _
      refine XS.bipush X0.here hx rfl (hb hby at_19) ?_
      show Steps p.tables e below (s₁.setTop (mkF m 21 #[iv p0, jv p1, .second, iv p2, jv p3, .second, iv p4, iv (p0 &&& (7 : Int32)), .unset, .unset, .unset, .unset, .unset, .unset, .unset, .unset, .unset] [(.int 7), (.int p2)])) _
      refine XS.iand X0.here hx rfl (hb hby at_21) rfl ?_
      show Steps p.tables e below (s₁.setTop (mkF m 22 #[iv p0, jv p1, .second, iv p2, jv p3, .second, iv p4, iv (p0 &&& (7 : Int32)), .unset, .unset, .unset, .unset, .unset, .unset, .unset, .unset, .unset] [(.int (p2 &&& (7 : Int32)))])) _
      exact k
    refine own_lift sg72 ?_
    show own_Go p.tables e below (s₁.setTop (mkF m 22 #[iv p0, jv p1, .second, iv p2, jv p3, .second, iv p4, iv (p0 &&& (7 : Int32)), .unset, .unset, .unset, .unset, .unset, .unset, .unset, .unset, .unset] [(.int (p2 &&& (7 : Int32)))])) _
    rw [show (own_ib p0 p2 p4) = (p2 &&& (7 : Int32)) from if_pos b1] at join2
    exact join2 _ _ X0 e0 N0
  · have sg73 : ∀ t, Steps p.tables e below (s₁.setTop (mkF m 22 #[iv p0, jv p1, .second, iv p2, jv p3, .second, iv p4, iv (p0 &&& (7 : Int32)), .unset, .unset, .unset, .unset, .unset, .unset, .unset, .unset, .unset] [(.int (p0 &&& (7 : Int32)))])) t → Steps p.tables e below (s₁.setTop (mkF m 6 #[iv p0, jv p1, .second, iv p2, jv p3, .second, iv p4, iv (p0 &&& (7 : Int32)), .unset, .unset, .unset, .unset, .unset, .unset, .unset, .unset, .unset] [])) t := by
      intro t k
      refine XS.iload X0.here hx rfl (hb hby at_6) rfl ?_
      show Steps p.tables e below (s₁.setTop (mkF m 8 #[iv p0, jv p1, .second, iv p2, jv p3, .second, iv p4, iv (p0 &&& (7 : Int32)), .unset, .unset, .unset, .unset, .unset, .unset, .unset, .unset, .unset] [(.int p4)])) _
      refine XS.iconst X0.here hx rfl (hb hby at_8) ?_
      show Steps p.tables e below (s₁.setTop (mkF m 9 #[iv p0, jv p1, .second, iv p2, jv p3, .second, iv p4, iv (p0 &&& (7 : Int32)), .unset, .unset, .unset, .unset, .unset, .unset, .unset, .unset, .unset] [(.int 1), (.int p4)])) _
      refine XS.iand X0.here hx rfl (hb hby at_9) rfl ?_
      show Steps p.tables e below (s₁.setTop (mkF m 10 #[iv p0, jv p1, .second, iv p2, jv p3, .second, iv p4, iv (p0 &&& (7 : Int32)), .unset, .unset, .unset, .unset, .unset, .unset, .unset, .unset, .unset] [(.int (p4 &&& (1 : Int32)))])) _
      refine XS.ifNo X0.here hx rfl (hb hby at_10) rfl ((if0 _ _).trans (feq b1).1) ?_
      show Steps p.tables e below (s₁.setTop (mkF m 13 #[iv p0, jv p1, .second, iv p2, jv p3, .second, iv p4, iv (p0 &&& (7 : Int32)), .unset, .unset, .unset, .unset, .unset, .unset, .unset, .unset, .unset] [])) _
      refine XS.iload X0.here hx rfl (hb hby at_13) rfl ?_
      show Steps p.tables e below (s₁.setTop (mkF m 15 #[iv p0, jv p1, .second, iv p2, jv p3, .second, iv p4, iv (p0 &&& (7 : Int32)), .unset, .unset, .unset, .unset, .unset, .unset, .unset, .unset, .unset] [(.int (p0 &&& (7 : Int32)))])) _
      refine XS.goto X0.here hx rfl (pc0 := 15) (pc' := 22) rfl (hb hby at_15) (by decide) (by decide) ?_
      show Steps p.tables e below (s₁.setTop (mkF m 22 #[iv p0, jv p1, .second, iv p2, jv p3, .second, iv p4, iv (p0 &&& (7 : Int32)), .unset, .unset, .unset, .unset, .unset, .unset, .unset, .unset, .unset] [(.int (p0 &&& (7 : Int32)))])) _
      exact k
    refine own_lift sg73 ?_
    show own_Go p.tables e below (s₁.setTop (mkF m 22 #[iv p0, jv p1, .second, iv p2, jv p3, .second, iv p4, iv (p0 &&& (7 : Int32)), .unset, .unset, .unset, .unset, .unset, .unset, .unset, .unset, .unset] [(.int (p0 &&& (7 : Int32)))])) _
    rw [show (own_ib p0 p2 p4) = (p0 &&& (7 : Int32)) from if_neg b1] at join2
    exact join2 _ _ X0 e0 N0
theorem ef_rm0_K (m : MethodId) (x0 : Int32) (x1 : Int64) (x2 : Int32) (x3 : Int64) (x4 : Int32) : entryFrame m #[(.int x0), (.long x1), (.int x2), (.long x3), (.int x4)] maxLocals = mkF m 0 #[.val (.int x0), .val (.long x1), .second, .val (.int x2), .val (.long x3), .second, .val (.int x4), .unset, .unset, .unset, .unset, .unset, .unset, .unset, .unset, .unset, .unset] [] := by first | (simp [entryFrame, mkF, argsToLocals, Value.category, maxLocals]; done) | rfl
set_option maxRecDepth 65536 in
set_option maxHeartbeats 40000000 in
theorem rm0_K (l : Launch) (Z : State) (a0 : Array Value) (hw : ∀ d ∈ tables_1, d.before a0 Z = true) (ws : List Jvm.Cond) (p0 : Int32) (p1 : Int64) (p2 : Int32) (p3 : Int64) (p4 : Int32) (as_SHORTEST_PATH : Addr) (as_ALL_SHORTEST_PATHS : Addr) (as_ANY_SHORTEST : Addr) (as_ALL_SHORTEST : Addr) (as_ANY : Addr) (as_ALL : Addr) (as_SHORTEST : Addr) (as_SHORTEST_GROUPS : Addr) (ca : Addr) (cc : Cell) (h0 : Heap) (n0 : Nat) (Z0 : n0 ≤ h0.size) (S_SHORTEST_PATH : Sta Z h0 "com/example/allsome/allsome/cypher/PathPattern$Selector$Kind" "SHORTEST_PATH" "Lcom/example/allsome/allsome/cypher/PathPattern$Selector$Kind;" (.ref as_SHORTEST_PATH)) (S_ALL_SHORTEST_PATHS : Sta Z h0 "com/example/allsome/allsome/cypher/PathPattern$Selector$Kind" "ALL_SHORTEST_PATHS" "Lcom/example/allsome/allsome/cypher/PathPattern$Selector$Kind;" (.ref as_ALL_SHORTEST_PATHS)) (S_ANY_SHORTEST : Sta Z h0 "com/example/allsome/allsome/cypher/PathPattern$Selector$Kind" "ANY_SHORTEST" "Lcom/example/allsome/allsome/cypher/PathPattern$Selector$Kind;" (.ref as_ANY_SHORTEST)) (S_ALL_SHORTEST : Sta Z h0 "com/example/allsome/allsome/cypher/PathPattern$Selector$Kind" "ALL_SHORTEST" "Lcom/example/allsome/allsome/cypher/PathPattern$Selector$Kind;" (.ref as_ALL_SHORTEST)) (S_ANY : Sta Z h0 "com/example/allsome/allsome/cypher/PathPattern$Selector$Kind" "ANY" "Lcom/example/allsome/allsome/cypher/PathPattern$Selector$Kind;" (.ref as_ANY)) (S_ALL : Sta Z h0 "com/example/allsome/allsome/cypher/PathPattern$Selector$Kind" "ALL" "Lcom/example/allsome/allsome/cypher/PathPattern$Selector$Kind;" (.ref as_ALL)) (S_SHORTEST : Sta Z h0 "com/example/allsome/allsome/cypher/PathPattern$Selector$Kind" "SHORTEST" "Lcom/example/allsome/allsome/cypher/PathPattern$Selector$Kind;" (.ref as_SHORTEST)) (S_SHORTEST_GROUPS : Sta Z h0 "com/example/allsome/allsome/cypher/PathPattern$Selector$Kind" "SHORTEST_GROUPS" "Lcom/example/allsome/allsome/cypher/PathPattern$Selector$Kind;" (.ref as_SHORTEST_GROUPS)) (O_SHORTEST_PATH : Fld Z h0 as_SHORTEST_PATH "java/lang/Enum" "ordinal" "I" (.int 0)) (O_ALL_SHORTEST_PATHS : Fld Z h0 as_ALL_SHORTEST_PATHS "java/lang/Enum" "ordinal" "I" (.int 1)) (O_ANY_SHORTEST : Fld Z h0 as_ANY_SHORTEST "java/lang/Enum" "ordinal" "I" (.int 2)) (O_ALL_SHORTEST : Fld Z h0 as_ALL_SHORTEST "java/lang/Enum" "ordinal" "I" (.int 3)) (O_ANY : Fld Z h0 as_ANY "java/lang/Enum" "ordinal" "I" (.int 4)) (O_ALL : Fld Z h0 as_ALL "java/lang/Enum" "ordinal" "I" (.int 5)) (O_SHORTEST : Fld Z h0 as_SHORTEST "java/lang/Enum" "ordinal" "I" (.int 6)) (O_SHORTEST_GROUPS : Fld Z h0 as_SHORTEST_GROUPS "java/lang/Enum" "ordinal" "I" (.int 7)) (S2 : Sta Z h0 "java/lang/Long$LongCache" "cache" "[Ljava/lang/Long;" (.ref ca)) (A1 : Arr Z h0 ca cc (.object "java/lang/Long")) (B1 : own_Box Z h0 "java/lang/Long" cc (¬ (p1 < (-128 : Int64)) ∧ ¬ ((127 : Int64) < p1)) (((p1.toInt32) + (128 : Int32)))) (w2 : ¬ ((((p4.toUInt32 >>> ((2 : Int32) &&& 31).toUInt32).toInt32) &&& (3 : Int32)) = (2 : Int32))) (w3 : ¬ ((((p4.toUInt32 >>> ((2 : Int32) &&& 31).toUInt32).toInt32) &&& (3 : Int32)) = (3 : Int32))) (hk : ¬ ((p0 &&& (7 : Int32)) = (own_ib p0 p2 p4))) (hkk : ¬ ((own_kind (own_ib p0 p2 p4) as_SHORTEST_PATH as_ALL_SHORTEST_PATHS as_ANY_SHORTEST as_ALL_SHORTEST as_ANY as_ALL as_SHORTEST as_SHORTEST_GROUPS) = (own_kind (p0 &&& (7 : Int32)) as_SHORTEST_PATH as_ALL_SHORTEST_PATHS as_ANY_SHORTEST as_ALL_SHORTEST as_ANY as_ALL as_SHORTEST as_SHORTEST_GROUPS))) :
    MetFree l x (head1 (Jvm.Cond.code x code maxLocals ret :: ws) room_1) (fun a U => a = #[(.int p0), (.long p1), (.int p2), (.long p3), (.int p4)] ∧ Z.Warmed39 U.vm ∧ U.heap = h0) (fun _ _ _ _ _ => True) (fun _ U o U' => ∃ v L, o = .returned v ∧ Q0 Z  h0 n0 v U'.heap L ∧ FrameEnd U o U' L 16 128) := by
  refine MetFree.of_bodySF (plainFor_of_name pn_0) hisR ?_
  intro p e s m args below meth c s₁ Bd hml0 hP hK
  obtain ⟨rfl, hZ, hh⟩ := hP
  have hx := Bd.exec
  have hby := Bd.bytes
  have hml : c.maxLocals = 17 := hml0
  have hown : s.vm.findClass "com/example/allsome/allsome/cypher/SelectorEqualsPinLaw" = some m.cls := findClass_of_methodNamed Bd.named
  have hnm := (name_of_methodNamed Bd.named Bd.method).1
  have X0 : Stand p l e room_1 s m #[(.int p0), (.long p1), (.int p2), (.long p3), (.int p4)] below meth c s₁ [] 0 0 := Stand.of_body Bd
  have e0 : s₁.heap = h0 := by rw [← hh, Bd.state]; rfl
  have N0 := Fr.nil n0
  refine own_go (own_lift (fun t k => castTop (ef_rm0_K m p0 p1 p2 p3 p4) k) ?_)
  show own_Go p.tables e below (s₁.setTop (mkF m 0 #[iv p0, jv p1, .second, iv p2, jv p3, .second, iv p4, .unset, .unset, .unset, .unset, .unset, .unset, .unset, .unset, .unset, .unset] [])) _
  have sg1 : ∀ t, Steps p.tables e below (s₁.setTop (mkF m 6 #[iv p0, jv p1, .second, iv p2, jv p3, .second, iv p4, iv (p0 &&& (7 : Int32)), .unset, .unset, .unset, .unset, .unset, .unset, .unset, .unset, .unset] [])) t → Steps p.tables e below (s₁.setTop (mkF m 0 #[iv p0, jv p1, .second, iv p2, jv p3, .second, iv p4, .unset, .unset, .unset, .unset, .unset, .unset, .unset, .unset, .unset, .unset] [])) t := by
    intro t k
    refine XS.iloadN X0.here hx rfl (hb hby at_0) rfl ?_
    show Steps p.tables e below (s₁.setTop (mkF m 1 #[iv p0, jv p1, .second, iv p2, jv p3, .second, iv p4, .unset, .unset, .unset, .unset, .unset, .unset, .unset, .unset, .unset, .unset] [(.int p0)])) _
    refine XS.bipush X0.here hx rfl (hb hby at_1) ?_
    show Steps p.tables e below (s₁.setTop (mkF m 3 #[iv p0, jv p1, .second, iv p2, jv p3, .second, iv p4, .unset, .unset, .unset, .unset, .unset, .unset, .unset, .unset, .unset, .unset] [(.int 7), (.int p0)])) _
    refine XS.iand X0.here hx rfl (hb hby at_3) rfl ?_
    show Steps p.tables e below (s₁.setTop (mkF m 4 #[iv p0, jv p1, .second, iv p2, jv p3, .second, iv p4, .unset, .unset, .unset, .unset, .unset, .unset, .unset, .unset, .unset, .unset] [(.int (p0 &&& (7 : Int32)))])) _
    refine XS.istore X0.here hx rfl (hb hby at_4) rfl (l' := #[iv p0, jv p1, .second, iv p2, jv p3, .second, iv p4, iv (p0 &&& (7 : Int32)), .unset, .unset, .unset, .unset, .unset, .unset, .unset, .unset, .unset]) rfl ?_
    show Steps p.tables e below (s₁.setTop (mkF m 6 #[iv p0, jv p1, .second, iv p2, jv p3, .second, iv p4, iv (p0 &&& (7 : Int32)), .unset, .unset, .unset, .unset, .unset, .unset, .unset, .unset, .unset] [])) _
    exact k
  refine own_lift sg1 ?_
  show own_Go p.tables e below (s₁.setTop (mkF m 6 #[iv p0, jv p1, .second, iv p2, jv p3, .second, iv p4, iv (p0 &&& (7 : Int32)), .unset, .unset, .unset, .unset, .unset, .unset, .unset, .unset, .unset] [])) _
  have join2 : ∀ (T2 : State) (locs2 : List Loc), Stand p l e room_1 s m #[(.int p0), (.long p1), (.int p2), (.long p3), (.int p4)] below meth c T2 locs2 0 0 → T2.heap = h0 → Fr n0 locs2 → own_Go p.tables e below (T2.setTop (mkF m 22 #[iv p0, jv p1, .second, iv p2, jv p3, .second, iv p4, iv (p0 &&& (7 : Int32)), .unset, .unset, .unset, .unset, .unset, .unset, .unset, .unset, .unset] [(.int (own_ib p0 p2 p4))])) (fun s₂ o => s₂.status = .running ∧ Ended s₂ below o ∧ ∃ v L, o = .returned v ∧ Q0 Z  h0 n0 v s₂.heap L ∧ FrameEnd s o s₂ L 16 128) := by
    intro T2 locs2 X2 e2 N2
    have sg3 : ∀ t, Steps p.tables e below (T2.setTop (mkF m 24 #[iv p0, jv p1, .second, iv p2, jv p3, .second, iv p4, iv (p0 &&& (7 : Int32)), iv (own_ib p0 p2 p4), .unset, .unset, .unset, .unset, .unset, .unset, .unset, .unset] [])) t → Steps p.tables e below (T2.setTop (mkF m 22 #[iv p0, jv p1, .second, iv p2, jv p3, .second, iv p4, iv (p0 &&& (7 : Int32)), .unset, .unset, .unset, .unset, .unset, .unset, .unset, .unset, .unset] [(.int (own_ib p0 p2 p4))])) t := by
      intro t k
      refine XS.istore X2.here hx rfl (hb hby at_22) rfl (l' := #[iv p0, jv p1, .second, iv p2, jv p3, .second, iv p4, iv (p0 &&& (7 : Int32)), iv (own_ib p0 p2 p4), .unset, .unset, .unset, .unset, .unset, .unset, .unset, .unset]) rfl ?_
      show Steps p.tables e below (T2.setTop (mkF m 24 #[iv p0, jv p1, .second, iv p2, jv p3, .second, iv p4, iv (p0 &&& (7 : Int32)), iv (own_ib p0 p2 p4), .unset, .unset, .unset, .unset, .unset, .unset, .unset, .unset] [])) _
      exact k
    refine own_lift sg3 ?_
    show own_Go p.tables e below (T2.setTop (mkF m 24 #[iv p0, jv p1, .second, iv p2, jv p3, .second, iv p4, iv (p0 &&& (7 : Int32)), iv (own_ib p0 p2 p4), .unset, .unset, .unset, .unset, .unset, .unset, .unset, .unset] [])) _
    have join4 : ∀ (T4 : State) (locs4 : List Loc), Stand p l e room_1 s m #[(.int p0), (.long p1), (.int p2), (.long p3), (.int p4)] below meth c T4 locs4 0 0 → T4.heap = h0 → Fr n0 locs4 → own_Go p.tables e below (T4.setTop (mkF m 37 #[iv p0, jv p1, .second, iv p2, jv p3, .second, iv p4, iv (p0 &&& (7 : Int32)), iv (own_ib p0 p2 p4), .unset, .unset, .unset, .unset, .unset, .unset, .unset, .unset] [(.long (own_cb p1 p3 p4))])) (fun s₂ o => s₂.status = .running ∧ Ended s₂ below o ∧ ∃ v L, o = .returned v ∧ Q0 Z  h0 n0 v s₂.heap L ∧ FrameEnd s o s₂ L 16 128) := by
      intro T4 locs4 X4 e4 N4
      have sg5 : ∀ t, Steps p.tables e below (T4.setTop (mkF m 39 #[iv p0, jv p1, .second, iv p2, jv p3, .second, iv p4, iv (p0 &&& (7 : Int32)), iv (own_ib p0 p2 p4), jv (own_cb p1 p3 p4), .second, .unset, .unset, .unset, .unset, .unset, .unset] [])) t → Steps p.tables e below (T4.setTop (mkF m 37 #[iv p0, jv p1, .second, iv p2, jv p3, .second, iv p4, iv (p0 &&& (7 : Int32)), iv (own_ib p0 p2 p4), .unset, .unset, .unset, .unset, .unset, .unset, .unset, .unset] [(.long (own_cb p1 p3 p4))])) t := by
        intro t k
        refine XS.lstore X4.here hx rfl (hb hby at_37) rfl (l' := #[iv p0, jv p1, .second, iv p2, jv p3, .second, iv p4, iv (p0 &&& (7 : Int32)), iv (own_ib p0 p2 p4), jv (own_cb p1 p3 p4), .second, .unset, .unset, .unset, .unset, .unset, .unset]) rfl ?_
        show Steps p.tables e below (T4.setTop (mkF m 39 #[iv p0, jv p1, .second, iv p2, jv p3, .second, iv p4, iv (p0 &&& (7 : Int32)), iv (own_ib p0 p2 p4), jv (own_cb p1 p3 p4), .second, .unset, .unset, .unset, .unset, .unset, .unset] [])) _
        exact k
      refine own_lift sg5 ?_
      show own_Go p.tables e below (T4.setTop (mkF m 39 #[iv p0, jv p1, .second, iv p2, jv p3, .second, iv p4, iv (p0 &&& (7 : Int32)), iv (own_ib p0 p2 p4), jv (own_cb p1 p3 p4), .second, .unset, .unset, .unset, .unset, .unset, .unset] [])) _
      obtain ⟨T6, h6, X6, e6, Ex6, Ax6, Dx6, Ux6, st6⟩ := newO X4 hx hZ hown (wd hw 0 rfl) (wd hw 1 rfl) (wd hw 2 rfl) e4 (g := (mkF m 39 #[iv p0, jv p1, .second, iv p2, jv p3, .second, iv p4, iv (p0 &&& (7 : Int32)), iv (own_ib p0 p2 p4), jv (own_cb p1 p3 p4), .second, .unset, .unset, .unset, .unset, .unset, .unset] [])) rfl (hb hby at_39) (by decide) (by decide)
      obtain ⟨ob6, g6⟩ : ∃ z, z = h0.size := ⟨_, rfl⟩
      rw [← g6] at Ax6 Dx6 Ux6 st6
      have ne7 : as_SHORTEST_PATH ≠ ob6 := Nat.ne_of_lt (Nat.lt_of_lt_of_le O_SHORTEST_PATH.lt (Nat.le_of_eq g6.symm))
      have ne8 : as_ALL_SHORTEST_PATHS ≠ ob6 := Nat.ne_of_lt (Nat.lt_of_lt_of_le O_ALL_SHORTEST_PATHS.lt (Nat.le_of_eq g6.symm))
      have ne9 : as_ANY_SHORTEST ≠ ob6 := Nat.ne_of_lt (Nat.lt_of_lt_of_le O_ANY_SHORTEST.lt (Nat.le_of_eq g6.symm))
      have ne10 : as_ALL_SHORTEST ≠ ob6 := Nat.ne_of_lt (Nat.lt_of_lt_of_le O_ALL_SHORTEST.lt (Nat.le_of_eq g6.symm))
      have ne11 : as_ANY ≠ ob6 := Nat.ne_of_lt (Nat.lt_of_lt_of_le O_ANY.lt (Nat.le_of_eq g6.symm))
      have ne12 : as_ALL ≠ ob6 := Nat.ne_of_lt (Nat.lt_of_lt_of_le O_ALL.lt (Nat.le_of_eq g6.symm))
      have ne13 : as_SHORTEST ≠ ob6 := Nat.ne_of_lt (Nat.lt_of_lt_of_le O_SHORTEST.lt (Nat.le_of_eq g6.symm))
      have ne14 : as_SHORTEST_GROUPS ≠ ob6 := Nat.ne_of_lt (Nat.lt_of_lt_of_le O_SHORTEST_GROUPS.lt (Nat.le_of_eq g6.symm))
      have ne15 : ca ≠ ob6 := Nat.ne_of_lt (Nat.lt_of_lt_of_le A1.lt (Nat.le_of_eq g6.symm))
      have Z6 : n0 ≤ h6.size := Nat.le_trans Z0 Ex6.1
      have ge6 : n0 ≤ ob6 := Nat.le_trans Z0 (Nat.le_of_eq g6.symm)
      have Fn6_17 : Fld Z h6 ob6 "com/example/allsome/allsome/cypher/PathPattern$Selector" "kind" "Lcom/example/allsome/allsome/cypher/PathPattern$Selector$Kind;" .null := Dx6 (Or.inr (wd hw 17 rfl)) (ty := (.object "com/example/allsome/allsome/cypher/PathPattern$Selector$Kind")) (by decide)
      have Fn6_19 : Fld Z h6 ob6 "com/example/allsome/allsome/cypher/PathPattern$Selector" "count" "J" (.long 0) := Dx6 (Or.inr (wd hw 19 rfl)) (ty := .long) (by decide)
      refine own_lift st6 ?_
      show own_Go p.tables e below (T6.setTop (mkF m 42 #[iv p0, jv p1, .second, iv p2, jv p3, .second, iv p4, iv (p0 &&& (7 : Int32)), iv (own_ib p0 p2 p4), jv (own_cb p1 p3 p4), .second, .unset, .unset, .unset, .unset, .unset, .unset] [(.ref ob6)])) _
      have sg16 : ∀ t, Steps p.tables e below (T6.setTop (mkF m 45 #[iv p0, jv p1, .second, iv p2, jv p3, .second, iv p4, iv (p0 &&& (7 : Int32)), iv (own_ib p0 p2 p4), jv (own_cb p1 p3 p4), .second, .unset, .unset, .unset, .unset, .unset, .unset] [(.int (p0 &&& (7 : Int32))), (.ref ob6), (.ref ob6)])) t → Steps p.tables e below (T6.setTop (mkF m 42 #[iv p0, jv p1, .second, iv p2, jv p3, .second, iv p4, iv (p0 &&& (7 : Int32)), iv (own_ib p0 p2 p4), jv (own_cb p1 p3 p4), .second, .unset, .unset, .unset, .unset, .unset, .unset] [(.ref ob6)])) t := by
        intro t k
        refine XS.dup X6.here hx rfl (hb hby at_42) rfl rfl ?_
        show Steps p.tables e below (T6.setTop (mkF m 43 #[iv p0, jv p1, .second, iv p2, jv p3, .second, iv p4, iv (p0 &&& (7 : Int32)), iv (own_ib p0 p2 p4), jv (own_cb p1 p3 p4), .second, .unset, .unset, .unset, .unset, .unset, .unset] [(.ref ob6), (.ref ob6)])) _
        refine XS.iload X6.here hx rfl (hb hby at_43) rfl ?_
        show Steps p.tables e below (T6.setTop (mkF m 45 #[iv p0, jv p1, .second, iv p2, jv p3, .second, iv p4, iv (p0 &&& (7 : Int32)), iv (own_ib p0 p2 p4), jv (own_cb p1 p3 p4), .second, .unset, .unset, .unset, .unset, .unset, .unset] [(.int (p0 &&& (7 : Int32))), (.ref ob6), (.ref ob6)])) _
        exact k
      refine own_lift sg16 ?_
      show own_Go p.tables e below (T6.setTop (mkF m 45 #[iv p0, jv p1, .second, iv p2, jv p3, .second, iv p4, iv (p0 &&& (7 : Int32)), iv (own_ib p0 p2 p4), jv (own_cb p1 p3 p4), .second, .unset, .unset, .unset, .unset, .unset, .unset] [(.int (p0 &&& (7 : Int32))), (.ref ob6), (.ref ob6)])) _
      have Fc17 : Sta Z h6 "com/example/allsome/allsome/cypher/PathPattern$Selector$Kind" "SHORTEST_PATH" "Lcom/example/allsome/allsome/cypher/PathPattern$Selector$Kind;" (.ref as_SHORTEST_PATH) := (S_SHORTEST_PATH.ext Ex6)
      have Fc18 : Sta Z h6 "com/example/allsome/allsome/cypher/PathPattern$Selector$Kind" "ALL_SHORTEST_PATHS" "Lcom/example/allsome/allsome/cypher/PathPattern$Selector$Kind;" (.ref as_ALL_SHORTEST_PATHS) := (S_ALL_SHORTEST_PATHS.ext Ex6)
      have Fc19 : Sta Z h6 "com/example/allsome/allsome/cypher/PathPattern$Selector$Kind" "ANY_SHORTEST" "Lcom/example/allsome/allsome/cypher/PathPattern$Selector$Kind;" (.ref as_ANY_SHORTEST) := (S_ANY_SHORTEST.ext Ex6)
      have Fc20 : Sta Z h6 "com/example/allsome/allsome/cypher/PathPattern$Selector$Kind" "ALL_SHORTEST" "Lcom/example/allsome/allsome/cypher/PathPattern$Selector$Kind;" (.ref as_ALL_SHORTEST) := (S_ALL_SHORTEST.ext Ex6)
      have Fc21 : Sta Z h6 "com/example/allsome/allsome/cypher/PathPattern$Selector$Kind" "ANY" "Lcom/example/allsome/allsome/cypher/PathPattern$Selector$Kind;" (.ref as_ANY) := (S_ANY.ext Ex6)
      have Fc22 : Sta Z h6 "com/example/allsome/allsome/cypher/PathPattern$Selector$Kind" "ALL" "Lcom/example/allsome/allsome/cypher/PathPattern$Selector$Kind;" (.ref as_ALL) := (S_ALL.ext Ex6)
      have Fc23 : Sta Z h6 "com/example/allsome/allsome/cypher/PathPattern$Selector$Kind" "SHORTEST" "Lcom/example/allsome/allsome/cypher/PathPattern$Selector$Kind;" (.ref as_SHORTEST) := (S_SHORTEST.ext Ex6)
      have Fc24 : Sta Z h6 "com/example/allsome/allsome/cypher/PathPattern$Selector$Kind" "SHORTEST_GROUPS" "Lcom/example/allsome/allsome/cypher/PathPattern$Selector$Kind;" (.ref as_SHORTEST_GROUPS) := (S_SHORTEST_GROUPS.ext Ex6)
      obtain ⟨_, _, ⟨T25, Lx25, kx25, nx25⟩, -, X25, ⟨Lc25, hQ25, lx25, yx25, zx25⟩, st25⟩ := Jvm.LawKit.callS X6 hx (y := (⟨"com/example/allsome/allsome/cypher/SelectorEqualsPinLaw", "kind", "(I)Lcom/example/allsome/allsome/cypher/PathPattern$Selector$Kind;"⟩ : MethodName)) hown (mvT hZ (wd hw 3 rfl)) (mvT hZ (wd hw 4 rfl)) (mvT hZ (wd hw 5 rfl)) (mvT hZ (wd hw 6 rfl)) (by decide) (backOf (W := 2) (rmKind l Z a0 hw [] (p0 &&& (7 : Int32)) as_SHORTEST_PATH as_ALL_SHORTEST_PATHS as_ANY_SHORTEST as_ALL_SHORTEST as_ANY as_ALL as_SHORTEST as_SHORTEST_GROUPS h6 n0 Z6 Fc17 Fc18 Fc19 Fc20 Fc21 Fc22 Fc23 Fc24) hZ (wd hw 6 rfl) (wd hw 5 rfl) (by decide) (by decide)) (g := (mkF m 45 #[iv p0, jv p1, .second, iv p2, jv p3, .second, iv p4, iv (p0 &&& (7 : Int32)), iv (own_ib p0 p2 p4), jv (own_cb p1 p3 p4), .second, .unset, .unset, .unset, .unset, .unset, .unset] [(.int (p0 &&& (7 : Int32))), (.ref ob6), (.ref ob6)])) rfl (by rw [hml]; rfl) (argsL := [(.int (p0 &&& (7 : Int32)))]) (rest := [(.ref ob6), (.ref ob6)]) (lenOf pd_2 rfl) rfl (by show 2 * 0 + _ ≤ _; exact Nat.le_of_eq rfl) (hb hby at_45) (fun _ _ => ⟨rfl, e6, (by decide : 1 + 0 ≤ _), (by decide : 2 + 0 ≤ _)⟩)
      dsimp only [Pt.U, Pt.locs, Pt.cells, Pt.slots] at X25 lx25 yx25 zx25 st25 hQ25
      subst lx25 yx25 zx25
      obtain ⟨rfl, N25q, e25⟩ := hQ25
      have N25 := Fr.app N4 N25q
      refine own_lift st25 ?_
      show own_Go p.tables e below (T25.setTop (mkF m 48 #[iv p0, jv p1, .second, iv p2, jv p3, .second, iv p4, iv (p0 &&& (7 : Int32)), iv (own_ib p0 p2 p4), jv (own_cb p1 p3 p4), .second, .unset, .unset, .unset, .unset, .unset, .unset] [(.ref (own_kind (p0 &&& (7 : Int32)) as_SHORTEST_PATH as_ALL_SHORTEST_PATHS as_ANY_SHORTEST as_ALL_SHORTEST as_ANY as_ALL as_SHORTEST as_SHORTEST_GROUPS)), (.ref ob6), (.ref ob6)])) _
      have sg26 : ∀ t, Steps p.tables e below (T25.setTop (mkF m 49 #[iv p0, jv p1, .second, iv p2, jv p3, .second, iv p4, iv (p0 &&& (7 : Int32)), iv (own_ib p0 p2 p4), jv (own_cb p1 p3 p4), .second, .unset, .unset, .unset, .unset, .unset, .unset] [(.long p1), (.ref (own_kind (p0 &&& (7 : Int32)) as_SHORTEST_PATH as_ALL_SHORTEST_PATHS as_ANY_SHORTEST as_ALL_SHORTEST as_ANY as_ALL as_SHORTEST as_SHORTEST_GROUPS)), (.ref ob6), (.ref ob6)])) t → Steps p.tables e below (T25.setTop (mkF m 48 #[iv p0, jv p1, .second, iv p2, jv p3, .second, iv p4, iv (p0 &&& (7 : Int32)), iv (own_ib p0 p2 p4), jv (own_cb p1 p3 p4), .second, .unset, .unset, .unset, .unset, .unset, .unset] [(.ref (own_kind (p0 &&& (7 : Int32)) as_SHORTEST_PATH as_ALL_SHORTEST_PATHS as_ANY_SHORTEST as_ALL_SHORTEST as_ANY as_ALL as_SHORTEST as_SHORTEST_GROUPS)), (.ref ob6), (.ref ob6)])) t := by
        intro t k
        refine XS.lloadN X25.here hx rfl (hb hby at_48) rfl ?_
        show Steps p.tables e below (T25.setTop (mkF m 49 #[iv p0, jv p1, .second, iv p2, jv p3, .second, iv p4, iv (p0 &&& (7 : Int32)), iv (own_ib p0 p2 p4), jv (own_cb p1 p3 p4), .second, .unset, .unset, .unset, .unset, .unset, .unset] [(.long p1), (.ref (own_kind (p0 &&& (7 : Int32)) as_SHORTEST_PATH as_ALL_SHORTEST_PATHS as_ANY_SHORTEST as_ALL_SHORTEST as_ANY as_ALL as_SHORTEST as_SHORTEST_GROUPS)), (.ref ob6), (.ref ob6)])) _
        exact k
      refine own_lift sg26 ?_
      show own_Go p.tables e below (T25.setTop (mkF m 49 #[iv p0, jv p1, .second, iv p2, jv p3, .second, iv p4, iv (p0 &&& (7 : Int32)), iv (own_ib p0 p2 p4), jv (own_cb p1 p3 p4), .second, .unset, .unset, .unset, .unset, .unset, .unset] [(.long p1), (.ref (own_kind (p0 &&& (7 : Int32)) as_SHORTEST_PATH as_ALL_SHORTEST_PATHS as_ANY_SHORTEST as_ALL_SHORTEST as_ANY as_ALL as_SHORTEST as_SHORTEST_GROUPS)), (.ref ob6), (.ref ob6)])) _
      obtain ⟨_, _, ⟨T27, Lx27, kx27, nx27⟩, -, X27, ⟨Lc27, hQ27, lx27, yx27, zx27⟩, st27⟩ := X25.specialBack hx (y := (⟨"com/example/allsome/allsome/cypher/PathPattern$Selector", "<init>", "(Lcom/example/allsome/allsome/cypher/PathPattern$Selector$Kind;J)V"⟩ : MethodName)) rfl hown (mvT hZ (wd hw 10 rfl)) (mvT hZ (wd hw 11 rfl)) (mvT hZ (wd hw 12 rfl)) (by decide) (backOf (W := 1) (rmInit l Z a0 hw [] ob6 (own_kind (p0 &&& (7 : Int32)) as_SHORTEST_PATH as_ALL_SHORTEST_PATHS as_ANY_SHORTEST as_ALL_SHORTEST as_ANY as_ALL as_SHORTEST as_SHORTEST_GROUPS) p1 h6 n0 Z6 Fn6_17 Fn6_19 Ax6 ge6) hZ (wd hw 12 rfl) (wd hw 2 rfl) (by decide) (by decide)) (g := (mkF m 49 #[iv p0, jv p1, .second, iv p2, jv p3, .second, iv p4, iv (p0 &&& (7 : Int32)), iv (own_ib p0 p2 p4), jv (own_cb p1 p3 p4), .second, .unset, .unset, .unset, .unset, .unset, .unset] [(.long p1), (.ref (own_kind (p0 &&& (7 : Int32)) as_SHORTEST_PATH as_ALL_SHORTEST_PATHS as_ANY_SHORTEST as_ALL_SHORTEST as_ANY as_ALL as_SHORTEST as_SHORTEST_GROUPS)), (.ref ob6), (.ref ob6)])) rfl (by rw [hml]; rfl) (Steps.refl _) (a := ob6) (argsL := [(.ref (own_kind (p0 &&& (7 : Int32)) as_SHORTEST_PATH as_ALL_SHORTEST_PATHS as_ANY_SHORTEST as_ALL_SHORTEST as_ANY as_ALL as_SHORTEST as_SHORTEST_GROUPS)), (.long p1)]) (rest := [(.ref ob6)]) (lenOf pd_3 rfl) rfl (by show 2 * 0 + _ ≤ _; exact Nat.le_of_eq rfl) (hb hby at_49) (fun _ _ => ⟨rfl, e25, (by decide : 1 + 0 ≤ _), (by decide : 2 + 0 ≤ _)⟩)
      dsimp only [Pt.U, Pt.locs, Pt.cells, Pt.slots] at X27 lx27 yx27 zx27 st27 hQ27
      subst lx27 yx27 zx27
      obtain ⟨rfl, N27q, p27_0, p27_1, p27_2, p27_3⟩ := hQ27
      have N27 := Fr.app N25 N27q
      have Z27 : n0 ≤ T27.heap.size := Nat.le_trans Z6 p27_0.1
      refine own_lift (fun t k => st27.trans k) ?_
      show own_Go p.tables e below (T27.setTop (mkF m 52 #[iv p0, jv p1, .second, iv p2, jv p3, .second, iv p4, iv (p0 &&& (7 : Int32)), iv (own_ib p0 p2 p4), jv (own_cb p1 p3 p4), .second, .unset, .unset, .unset, .unset, .unset, .unset] [(.ref ob6)])) _
      have sg28 : ∀ t, Steps p.tables e below (T27.setTop (mkF m 54 #[iv p0, jv p1, .second, iv p2, jv p3, .second, iv p4, iv (p0 &&& (7 : Int32)), iv (own_ib p0 p2 p4), jv (own_cb p1 p3 p4), .second, rv ob6, .unset, .unset, .unset, .unset, .unset] [])) t → Steps p.tables e below (T27.setTop (mkF m 52 #[iv p0, jv p1, .second, iv p2, jv p3, .second, iv p4, iv (p0 &&& (7 : Int32)), iv (own_ib p0 p2 p4), jv (own_cb p1 p3 p4), .second, .unset, .unset, .unset, .unset, .unset, .unset] [(.ref ob6)])) t := by
        intro t k
        refine XS.astore X27.here hx rfl (hb hby at_52) rfl rfl (l' := #[iv p0, jv p1, .second, iv p2, jv p3, .second, iv p4, iv (p0 &&& (7 : Int32)), iv (own_ib p0 p2 p4), jv (own_cb p1 p3 p4), .second, rv ob6, .unset, .unset, .unset, .unset, .unset]) rfl ?_
        show Steps p.tables e below (T27.setTop (mkF m 54 #[iv p0, jv p1, .second, iv p2, jv p3, .second, iv p4, iv (p0 &&& (7 : Int32)), iv (own_ib p0 p2 p4), jv (own_cb p1 p3 p4), .second, rv ob6, .unset, .unset, .unset, .unset, .unset] [])) _
        exact k
      refine own_lift sg28 ?_
      show own_Go p.tables e below (T27.setTop (mkF m 54 #[iv p0, jv p1, .second, iv p2, jv p3, .second, iv p4, iv (p0 &&& (7 : Int32)), iv (own_ib p0 p2 p4), jv (own_cb p1 p3 p4), .second, rv ob6, .unset, .unset, .unset, .unset, .unset] [])) _
      obtain ⟨T29, h29, X29, e29, Ex29, Ax29, Dx29, Ux29, st29⟩ := newO X27 hx hZ hown (wd hw 0 rfl) (wd hw 1 rfl) (wd hw 2 rfl) rfl (g := (mkF m 54 #[iv p0, jv p1, .second, iv p2, jv p3, .second, iv p4, iv (p0 &&& (7 : Int32)), iv (own_ib p0 p2 p4), jv (own_cb p1 p3 p4), .second, rv ob6, .unset, .unset, .unset, .unset, .unset] [])) rfl (hb hby at_54) (by decide) (by decide)
      obtain ⟨ob29, g29⟩ : ∃ z, z = T27.heap.size := ⟨_, rfl⟩
      rw [← g29] at Ax29 Dx29 Ux29 st29
      have Fc30 : Fld Z T27.heap as_SHORTEST_PATH "java/lang/Enum" "ordinal" "I" (.int 0) := ((O_SHORTEST_PATH.ext Ex6).keep p27_0 (ninS ne7 nin0))
      have ne31 : as_SHORTEST_PATH ≠ ob29 := Nat.ne_of_lt (Nat.lt_of_lt_of_le Fc30.lt (Nat.le_of_eq g29.symm))
      have Fc32 : Fld Z T27.heap as_ALL_SHORTEST_PATHS "java/lang/Enum" "ordinal" "I" (.int 1) := ((O_ALL_SHORTEST_PATHS.ext Ex6).keep p27_0 (ninS ne8 nin0))
      have ne33 : as_ALL_SHORTEST_PATHS ≠ ob29 := Nat.ne_of_lt (Nat.lt_of_lt_of_le Fc32.lt (Nat.le_of_eq g29.symm))
      have Fc34 : Fld Z T27.heap as_ANY_SHORTEST "java/lang/Enum" "ordinal" "I" (.int 2) := ((O_ANY_SHORTEST.ext Ex6).keep p27_0 (ninS ne9 nin0))
      have ne35 : as_ANY_SHORTEST ≠ ob29 := Nat.ne_of_lt (Nat.lt_of_lt_of_le Fc34.lt (Nat.le_of_eq g29.symm))
      have Fc36 : Fld Z T27.heap as_ALL_SHORTEST "java/lang/Enum" "ordinal" "I" (.int 3) := ((O_ALL_SHORTEST.ext Ex6).keep p27_0 (ninS ne10 nin0))
      have ne37 : as_ALL_SHORTEST ≠ ob29 := Nat.ne_of_lt (Nat.lt_of_lt_of_le Fc36.lt (Nat.le_of_eq g29.symm))
      have Fc38 : Fld Z T27.heap as_ANY "java/lang/Enum" "ordinal" "I" (.int 4) := ((O_ANY.ext Ex6).keep p27_0 (ninS ne11 nin0))
      have ne39 : as_ANY ≠ ob29 := Nat.ne_of_lt (Nat.lt_of_lt_of_le Fc38.lt (Nat.le_of_eq g29.symm))
      have Fc40 : Fld Z T27.heap as_ALL "java/lang/Enum" "ordinal" "I" (.int 5) := ((O_ALL.ext Ex6).keep p27_0 (ninS ne12 nin0))
      have ne41 : as_ALL ≠ ob29 := Nat.ne_of_lt (Nat.lt_of_lt_of_le Fc40.lt (Nat.le_of_eq g29.symm))
      have Fc42 : Fld Z T27.heap as_SHORTEST "java/lang/Enum" "ordinal" "I" (.int 6) := ((O_SHORTEST.ext Ex6).keep p27_0 (ninS ne13 nin0))
      have ne43 : as_SHORTEST ≠ ob29 := Nat.ne_of_lt (Nat.lt_of_lt_of_le Fc42.lt (Nat.le_of_eq g29.symm))
      have Fc44 : Fld Z T27.heap as_SHORTEST_GROUPS "java/lang/Enum" "ordinal" "I" (.int 7) := ((O_SHORTEST_GROUPS.ext Ex6).keep p27_0 (ninS ne14 nin0))
      have ne45 : as_SHORTEST_GROUPS ≠ ob29 := Nat.ne_of_lt (Nat.lt_of_lt_of_le Fc44.lt (Nat.le_of_eq g29.symm))
      have Fc46 : Arr Z T27.heap ca cc (.object "java/lang/Long") := (own_Arr_keep (A1.ext Ex6) p27_0 (ninS ne15 nin0))
      have ne47 : ca ≠ ob29 := Nat.ne_of_lt (Nat.lt_of_lt_of_le Fc46.lt (Nat.le_of_eq g29.symm))
      have ne48 : ob6 ≠ ob29 := Nat.ne_of_lt (Nat.lt_of_lt_of_le p27_1.lt (Nat.le_of_eq g29.symm))
      have Z29 : n0 ≤ h29.size := Nat.le_trans Z27 Ex29.1
      have ge29 : n0 ≤ ob29 := Nat.le_trans Z27 (Nat.le_of_eq g29.symm)
      have Fn29_17 : Fld Z h29 ob29 "com/example/allsome/allsome/cypher/PathPattern$Selector" "kind" "Lcom/example/allsome/allsome/cypher/PathPattern$Selector$Kind;" .null := Dx29 (Or.inr (wd hw 17 rfl)) (ty := (.object "com/example/allsome/allsome/cypher/PathPattern$Selector$Kind")) (by decide)
      have Fn29_19 : Fld Z h29 ob29 "com/example/allsome/allsome/cypher/PathPattern$Selector" "count" "J" (.long 0) := Dx29 (Or.inr (wd hw 19 rfl)) (ty := .long) (by decide)
      refine own_lift st29 ?_
      show own_Go p.tables e below (T29.setTop (mkF m 57 #[iv p0, jv p1, .second, iv p2, jv p3, .second, iv p4, iv (p0 &&& (7 : Int32)), iv (own_ib p0 p2 p4), jv (own_cb p1 p3 p4), .second, rv ob6, .unset, .unset, .unset, .unset, .unset] [(.ref ob29)])) _
      have sg49 : ∀ t, Steps p.tables e below (T29.setTop (mkF m 60 #[iv p0, jv p1, .second, iv p2, jv p3, .second, iv p4, iv (p0 &&& (7 : Int32)), iv (own_ib p0 p2 p4), jv (own_cb p1 p3 p4), .second, rv ob6, .unset, .unset, .unset, .unset, .unset] [(.int (own_ib p0 p2 p4)), (.ref ob29), (.ref ob29)])) t → Steps p.tables e below (T29.setTop (mkF m 57 #[iv p0, jv p1, .second, iv p2, jv p3, .second, iv p4, iv (p0 &&& (7 : Int32)), iv (own_ib p0 p2 p4), jv (own_cb p1 p3 p4), .second, rv ob6, .unset, .unset, .unset, .unset, .unset] [(.ref ob29)])) t := by
        intro t k
        refine XS.dup X29.here hx rfl (hb hby at_57) rfl rfl ?_
        show Steps p.tables e below (T29.setTop (mkF m 58 #[iv p0, jv p1, .second, iv p2, jv p3, .second, iv p4, iv (p0 &&& (7 : Int32)), iv (own_ib p0 p2 p4), jv (own_cb p1 p3 p4), .second, rv ob6, .unset, .unset, .unset, .unset, .unset] [(.ref ob29), (.ref ob29)])) _
        refine XS.iload X29.here hx rfl (hb hby at_58) rfl ?_
        show Steps p.tables e below (T29.setTop (mkF m 60 #[iv p0, jv p1, .second, iv p2, jv p3, .second, iv p4, iv (p0 &&& (7 : Int32)), iv (own_ib p0 p2 p4), jv (own_cb p1 p3 p4), .second, rv ob6, .unset, .unset, .unset, .unset, .unset] [(.int (own_ib p0 p2 p4)), (.ref ob29), (.ref ob29)])) _
        exact k
      refine own_lift sg49 ?_
      show own_Go p.tables e below (T29.setTop (mkF m 60 #[iv p0, jv p1, .second, iv p2, jv p3, .second, iv p4, iv (p0 &&& (7 : Int32)), iv (own_ib p0 p2 p4), jv (own_cb p1 p3 p4), .second, rv ob6, .unset, .unset, .unset, .unset, .unset] [(.int (own_ib p0 p2 p4)), (.ref ob29), (.ref ob29)])) _
      have Fc50 : Sta Z h29 "com/example/allsome/allsome/cypher/PathPattern$Selector$Kind" "SHORTEST_PATH" "Lcom/example/allsome/allsome/cypher/PathPattern$Selector$Kind;" (.ref as_SHORTEST_PATH) := ((own_Sta_keep Fc17 p27_0 (allS (own_plain Ax6) all0)).ext Ex29)
      have Fc51 : Sta Z h29 "com/example/allsome/allsome/cypher/PathPattern$Selector$Kind" "ALL_SHORTEST_PATHS" "Lcom/example/allsome/allsome/cypher/PathPattern$Selector$Kind;" (.ref as_ALL_SHORTEST_PATHS) := ((own_Sta_keep Fc18 p27_0 (allS (own_plain Ax6) all0)).ext Ex29)
      have Fc52 : Sta Z h29 "com/example/allsome/allsome/cypher/PathPattern$Selector$Kind" "ANY_SHORTEST" "Lcom/example/allsome/allsome/cypher/PathPattern$Selector$Kind;" (.ref as_ANY_SHORTEST) := ((own_Sta_keep Fc19 p27_0 (allS (own_plain Ax6) all0)).ext Ex29)
      have Fc53 : Sta Z h29 "com/example/allsome/allsome/cypher/PathPattern$Selector$Kind" "ALL_SHORTEST" "Lcom/example/allsome/allsome/cypher/PathPattern$Selector$Kind;" (.ref as_ALL_SHORTEST) := ((own_Sta_keep Fc20 p27_0 (allS (own_plain Ax6) all0)).ext Ex29)
      have Fc54 : Sta Z h29 "com/example/allsome/allsome/cypher/PathPattern$Selector$Kind" "ANY" "Lcom/example/allsome/allsome/cypher/PathPattern$Selector$Kind;" (.ref as_ANY) := ((own_Sta_keep Fc21 p27_0 (allS (own_plain Ax6) all0)).ext Ex29)
      have Fc55 : Sta Z h29 "com/example/allsome/allsome/cypher/PathPattern$Selector$Kind" "ALL" "Lcom/example/allsome/allsome/cypher/PathPattern$Selector$Kind;" (.ref as_ALL) := ((own_Sta_keep Fc22 p27_0 (allS (own_plain Ax6) all0)).ext Ex29)
      have Fc56 : Sta Z h29 "com/example/allsome/allsome/cypher/PathPattern$Selector$Kind" "SHORTEST" "Lcom/example/allsome/allsome/cypher/PathPattern$Selector$Kind;" (.ref as_SHORTEST) := ((own_Sta_keep Fc23 p27_0 (allS (own_plain Ax6) all0)).ext Ex29)
      have Fc57 : Sta Z h29 "com/example/allsome/allsome/cypher/PathPattern$Selector$Kind" "SHORTEST_GROUPS" "Lcom/example/allsome/allsome/cypher/PathPattern$Selector$Kind;" (.ref as_SHORTEST_GROUPS) := ((own_Sta_keep Fc24 p27_0 (allS (own_plain Ax6) all0)).ext Ex29)
      obtain ⟨_, _, ⟨T58, Lx58, kx58, nx58⟩, -, X58, ⟨Lc58, hQ58, lx58, yx58, zx58⟩, st58⟩ := Jvm.LawKit.callS X29 hx (y := (⟨"com/example/allsome/allsome/cypher/SelectorEqualsPinLaw", "kind", "(I)Lcom/example/allsome/allsome/cypher/PathPattern$Selector$Kind;"⟩ : MethodName)) hown (mvT hZ (wd hw 3 rfl)) (mvT hZ (wd hw 4 rfl)) (mvT hZ (wd hw 5 rfl)) (mvT hZ (wd hw 6 rfl)) (by decide) (backOf (W := 2) (rmKind l Z a0 hw [] (own_ib p0 p2 p4) as_SHORTEST_PATH as_ALL_SHORTEST_PATHS as_ANY_SHORTEST as_ALL_SHORTEST as_ANY as_ALL as_SHORTEST as_SHORTEST_GROUPS h29 n0 Z29 Fc50 Fc51 Fc52 Fc53 Fc54 Fc55 Fc56 Fc57) hZ (wd hw 6 rfl) (wd hw 5 rfl) (by decide) (by decide)) (g := (mkF m 60 #[iv p0, jv p1, .second, iv p2, jv p3, .second, iv p4, iv (p0 &&& (7 : Int32)), iv (own_ib p0 p2 p4), jv (own_cb p1 p3 p4), .second, rv ob6, .unset, .unset, .unset, .unset, .unset] [(.int (own_ib p0 p2 p4)), (.ref ob29), (.ref ob29)])) rfl (by rw [hml]; rfl) (argsL := [(.int (own_ib p0 p2 p4))]) (rest := [(.ref ob29), (.ref ob29)]) (lenOf pd_2 rfl) rfl (by show 2 * 0 + _ ≤ _; exact Nat.le_of_eq rfl) (hb hby at_60) (fun _ _ => ⟨rfl, e29, (by decide : 2 + 0 ≤ _), (by decide : 4 + 0 ≤ _)⟩)
      dsimp only [Pt.U, Pt.locs, Pt.cells, Pt.slots] at X58 lx58 yx58 zx58 st58 hQ58
      subst lx58 yx58 zx58
      obtain ⟨rfl, N58q, e58⟩ := hQ58
      have N58 := Fr.app N27 N58q
      refine own_lift st58 ?_
      show own_Go p.tables e below (T58.setTop (mkF m 63 #[iv p0, jv p1, .second, iv p2, jv p3, .second, iv p4, iv (p0 &&& (7 : Int32)), iv (own_ib p0 p2 p4), jv (own_cb p1 p3 p4), .second, rv ob6, .unset, .unset, .unset, .unset, .unset] [(.ref (own_kind (own_ib p0 p2 p4) as_SHORTEST_PATH as_ALL_SHORTEST_PATHS as_ANY_SHORTEST as_ALL_SHORTEST as_ANY as_ALL as_SHORTEST as_SHORTEST_GROUPS)), (.ref ob29), (.ref ob29)])) _
      have sg59 : ∀ t, Steps p.tables e below (T58.setTop (mkF m 65 #[iv p0, jv p1, .second, iv p2, jv p3, .second, iv p4, iv (p0 &&& (7 : Int32)), iv (own_ib p0 p2 p4), jv (own_cb p1 p3 p4), .second, rv ob6, .unset, .unset, .unset, .unset, .unset] [(.long (own_cb p1 p3 p4)), (.ref (own_kind (own_ib p0 p2 p4) as_SHORTEST_PATH as_ALL_SHORTEST_PATHS as_ANY_SHORTEST as_ALL_SHORTEST as_ANY as_ALL as_SHORTEST as_SHORTEST_GROUPS)), (.ref ob29), (.ref ob29)])) t → Steps p.tables e below (T58.setTop (mkF m 63 #[iv p0, jv p1, .second, iv p2, jv p3, .second, iv p4, iv (p0 &&& (7 : Int32)), iv (own_ib p0 p2 p4), jv (own_cb p1 p3 p4), .second, rv ob6, .unset, .unset, .unset, .unset, .unset] [(.ref (own_kind (own_ib p0 p2 p4) as_SHORTEST_PATH as_ALL_SHORTEST_PATHS as_ANY_SHORTEST as_ALL_SHORTEST as_ANY as_ALL as_SHORTEST as_SHORTEST_GROUPS)), (.ref ob29), (.ref ob29)])) t := by
        intro t k
        refine XS.lload X58.here hx rfl (hb hby at_63) rfl ?_
        show Steps p.tables e below (T58.setTop (mkF m 65 #[iv p0, jv p1, .second, iv p2, jv p3, .second, iv p4, iv (p0 &&& (7 : Int32)), iv (own_ib p0 p2 p4), jv (own_cb p1 p3 p4), .second, rv ob6, .unset, .unset, .unset, .unset, .unset] [(.long (own_cb p1 p3 p4)), (.ref (own_kind (own_ib p0 p2 p4) as_SHORTEST_PATH as_ALL_SHORTEST_PATHS as_ANY_SHORTEST as_ALL_SHORTEST as_ANY as_ALL as_SHORTEST as_SHORTEST_GROUPS)), (.ref ob29), (.ref ob29)])) _
        exact k
      refine own_lift sg59 ?_
      show own_Go p.tables e below (T58.setTop (mkF m 65 #[iv p0, jv p1, .second, iv p2, jv p3, .second, iv p4, iv (p0 &&& (7 : Int32)), iv (own_ib p0 p2 p4), jv (own_cb p1 p3 p4), .second, rv ob6, .unset, .unset, .unset, .unset, .unset] [(.long (own_cb p1 p3 p4)), (.ref (own_kind (own_ib p0 p2 p4) as_SHORTEST_PATH as_ALL_SHORTEST_PATHS as_ANY_SHORTEST as_ALL_SHORTEST as_ANY as_ALL as_SHORTEST as_SHORTEST_GROUPS)), (.ref ob29), (.ref ob29)])) _
      obtain ⟨_, _, ⟨T60, Lx60, kx60, nx60⟩, -, X60, ⟨Lc60, hQ60, lx60, yx60, zx60⟩, st60⟩ := X58.specialBack hx (y := (⟨"com/example/allsome/allsome/cypher/PathPattern$Selector", "<init>", "(Lcom/example/allsome/allsome/cypher/PathPattern$Selector$Kind;J)V"⟩ : MethodName)) rfl hown (mvT hZ (wd hw 10 rfl)) (mvT hZ (wd hw 11 rfl)) (mvT hZ (wd hw 12 rfl)) (by decide) (backOf (W := 1) (rmInit l Z a0 hw [] ob29 (own_kind (own_ib p0 p2 p4) as_SHORTEST_PATH as_ALL_SHORTEST_PATHS as_ANY_SHORTEST as_ALL_SHORTEST as_ANY as_ALL as_SHORTEST as_SHORTEST_GROUPS) (own_cb p1 p3 p4) h29 n0 Z29 Fn29_17 Fn29_19 Ax29 ge29) hZ (wd hw 12 rfl) (wd hw 2 rfl) (by decide) (by decide)) (g := (mkF m 65 #[iv p0, jv p1, .second, iv p2, jv p3, .second, iv p4, iv (p0 &&& (7 : Int32)), iv (own_ib p0 p2 p4), jv (own_cb p1 p3 p4), .second, rv ob6, .unset, .unset, .unset, .unset, .unset] [(.long (own_cb p1 p3 p4)), (.ref (own_kind (own_ib p0 p2 p4) as_SHORTEST_PATH as_ALL_SHORTEST_PATHS as_ANY_SHORTEST as_ALL_SHORTEST as_ANY as_ALL as_SHORTEST as_SHORTEST_GROUPS)), (.ref ob29), (.ref ob29)])) rfl (by rw [hml]; rfl) (Steps.refl _) (a := ob29) (argsL := [(.ref (own_kind (own_ib p0 p2 p4) as_SHORTEST_PATH as_ALL_SHORTEST_PATHS as_ANY_SHORTEST as_ALL_SHORTEST as_ANY as_ALL as_SHORTEST as_SHORTEST_GROUPS)), (.long (own_cb p1 p3 p4))]) (rest := [(.ref ob29)]) (lenOf pd_3 rfl) rfl (by show 2 * 0 + _ ≤ _; exact Nat.le_of_eq rfl) (hb hby at_65) (fun _ _ => ⟨rfl, e58, (by decide : 2 + 0 ≤ _), (by decide : 4 + 0 ≤ _)⟩)
      dsimp only [Pt.U, Pt.locs, Pt.cells, Pt.slots] at X60 lx60 yx60 zx60 st60 hQ60
      subst lx60 yx60 zx60
      obtain ⟨rfl, N60q, p60_0, p60_1, p60_2, p60_3⟩ := hQ60
      have N60 := Fr.app N58 N60q
      have Z60 : n0 ≤ T60.heap.size := Nat.le_trans Z29 p60_0.1
      refine own_lift (fun t k => st60.trans k) ?_
      show own_Go p.tables e below (T60.setTop (mkF m 68 #[iv p0, jv p1, .second, iv p2, jv p3, .second, iv p4, iv (p0 &&& (7 : Int32)), iv (own_ib p0 p2 p4), jv (own_cb p1 p3 p4), .second, rv ob6, .unset, .unset, .unset, .unset, .unset] [(.ref ob29)])) _
      have sg61 : ∀ t, Steps p.tables e below (T60.setTop (mkF m 71 #[iv p0, jv p1, .second, iv p2, jv p3, .second, iv p4, iv (p0 &&& (7 : Int32)), iv (own_ib p0 p2 p4), jv (own_cb p1 p3 p4), .second, rv ob6, rv ob29, .unset, .unset, .unset, .unset] [(.long p1)])) t → Steps p.tables e below (T60.setTop (mkF m 68 #[iv p0, jv p1, .second, iv p2, jv p3, .second, iv p4, iv (p0 &&& (7 : Int32)), iv (own_ib p0 p2 p4), jv (own_cb p1 p3 p4), .second, rv ob6, .unset, .unset, .unset, .unset, .unset] [(.ref ob29)])) t := by
        intro t k
        refine XS.astore X60.here hx rfl (hb hby at_68) rfl rfl (l' := #[iv p0, jv p1, .second, iv p2, jv p3, .second, iv p4, iv (p0 &&& (7 : Int32)), iv (own_ib p0 p2 p4), jv (own_cb p1 p3 p4), .second, rv ob6, rv ob29, .unset, .unset, .unset, .unset]) rfl ?_
        show Steps p.tables e below (T60.setTop (mkF m 70 #[iv p0, jv p1, .second, iv p2, jv p3, .second, iv p4, iv (p0 &&& (7 : Int32)), iv (own_ib p0 p2 p4), jv (own_cb p1 p3 p4), .second, rv ob6, rv ob29, .unset, .unset, .unset, .unset] [])) _
        refine XS.lloadN X60.here hx rfl (hb hby at_70) rfl ?_
        show Steps p.tables e below (T60.setTop (mkF m 71 #[iv p0, jv p1, .second, iv p2, jv p3, .second, iv p4, iv (p0 &&& (7 : Int32)), iv (own_ib p0 p2 p4), jv (own_cb p1 p3 p4), .second, rv ob6, rv ob29, .unset, .unset, .unset, .unset] [(.long p1)])) _
        exact k
      refine own_lift sg61 ?_
      show own_Go p.tables e below (T60.setTop (mkF m 71 #[iv p0, jv p1, .second, iv p2, jv p3, .second, iv p4, iv (p0 &&& (7 : Int32)), iv (own_ib p0 p2 p4), jv (own_cb p1 p3 p4), .second, rv ob6, rv ob29, .unset, .unset, .unset, .unset] [(.long p1)])) _
      have Fc62 : Sta Z T60.heap "java/lang/Long$LongCache" "cache" "[Ljava/lang/Long;" (.ref ca) := (own_Sta_keep ((own_Sta_keep (S2.ext Ex6) p27_0 (allS (own_plain Ax6) all0)).ext Ex29) p60_0 (allS (own_plain Ax29) all0))
      have Fc63 : Arr Z T60.heap ca cc (.object "java/lang/Long") := (own_Arr_keep (Fc46.ext Ex29) p60_0 (ninS ne47 nin0))
      have Fc64 : own_Box Z T60.heap "java/lang/Long" cc (¬ (p1 < (-128 : Int64)) ∧ ¬ ((127 : Int64) < p1)) (((p1.toInt32) + (128 : Int32))) := (own_Box_keep (own_Box_ext (own_Box_keep (own_Box_ext B1 Ex6) p27_0) Ex29) p60_0)
      obtain ⟨_, _, ⟨T65, Lx65, kx65, nx65⟩, -, X65, ⟨Lc65, hQ65, lx65, yx65, zx65⟩, st65⟩ := Jvm.LawKit.callS X60 hx (y := (⟨"java/lang/Long", "valueOf", "(J)Ljava/lang/Long;"⟩ : MethodName)) hown (mvT hZ (wd hw 22 rfl)) (mvT hZ (wd hw 23 rfl)) (mvT hZ (wd hw 24 rfl)) (mvT hZ (wd hw 25 rfl)) (by decide) (backOf (W := 0) (rmVal l Z a0 hw [] p1 ca cc T60.heap n0 Z60 Fc62 Fc63 Fc64) hZ (wd hw 25 rfl) (wd hw 24 rfl) (by decide) (by decide)) (g := (mkF m 71 #[iv p0, jv p1, .second, iv p2, jv p3, .second, iv p4, iv (p0 &&& (7 : Int32)), iv (own_ib p0 p2 p4), jv (own_cb p1 p3 p4), .second, rv ob6, rv ob29, .unset, .unset, .unset, .unset] [(.long p1)])) rfl (by rw [hml]; rfl) (argsL := [(.long p1)]) (rest := []) (lenOf pd_4 rfl) rfl (by show 2 * 0 + _ ≤ _; exact Nat.le_of_eq rfl) (hb hby at_71) (fun _ _ => ⟨rfl, rfl, (by decide : 2 + 1 ≤ _), (by decide : 4 + 1 ≤ _)⟩)
      dsimp only [Pt.U, Pt.locs, Pt.cells, Pt.slots] at X65 lx65 yx65 zx65 st65 hQ65
      subst lx65 yx65 zx65
      obtain ⟨xb_65, rfl, N65q, p65_0, p65_1⟩ := hQ65
      have N65 := Fr.app N60 N65q
      have Z65 : n0 ≤ T65.heap.size := Nat.le_trans Z60 p65_0.1
      refine own_lift st65 ?_
      show own_Go p.tables e below (T65.setTop (mkF m 74 #[iv p0, jv p1, .second, iv p2, jv p3, .second, iv p4, iv (p0 &&& (7 : Int32)), iv (own_ib p0 p2 p4), jv (own_cb p1 p3 p4), .second, rv ob6, rv ob29, .unset, .unset, .unset, .unset] [(.ref xb_65)])) _
      have sg66 : ∀ t, Steps p.tables e below (T65.setTop (mkF m 129 #[iv p0, jv p1, .second, iv p2, jv p3, .second, iv p4, iv (p0 &&& (7 : Int32)), iv (own_ib p0 p2 p4), jv (own_cb p1 p3 p4), .second, rv ob6, rv ob29, rv xb_65, iv (((p4.toUInt32 >>> ((2 : Int32) &&& 31).toUInt32).toInt32) &&& (3 : Int32)), .unset, .unset] [(.ref ob29), (.ref ob6)])) t → Steps p.tables e below (T65.setTop (mkF m 74 #[iv p0, jv p1, .second, iv p2, jv p3, .second, iv p4, iv (p0 &&& (7 : Int32)), iv (own_ib p0 p2 p4), jv (own_cb p1 p3 p4), .second, rv ob6, rv ob29, .unset, .unset, .unset, .unset] [(.ref xb_65)])) t := by
        intro t k
        refine XS.astore X65.here hx rfl (hb hby at_74) rfl rfl (l' := #[iv p0, jv p1, .second, iv p2, jv p3, .second, iv p4, iv (p0 &&& (7 : Int32)), iv (own_ib p0 p2 p4), jv (own_cb p1 p3 p4), .second, rv ob6, rv ob29, rv xb_65, .unset, .unset, .unset]) rfl ?_
        show Steps p.tables e below (T65.setTop (mkF m 76 #[iv p0, jv p1, .second, iv p2, jv p3, .second, iv p4, iv (p0 &&& (7 : Int32)), iv (own_ib p0 p2 p4), jv (own_cb p1 p3 p4), .second, rv ob6, rv ob29, rv xb_65, .unset, .unset, .unset] [])) _
        refine XS.iload X65.here hx rfl (hb hby at_76) rfl ?_
        show Steps p.tables e below (T65.setTop (mkF m 78 #[iv p0, jv p1, .second, iv p2, jv p3, .second, iv p4, iv (p0 &&& (7 : Int32)), iv (own_ib p0 p2 p4), jv (own_cb p1 p3 p4), .second, rv ob6, rv ob29, rv xb_65, .unset, .unset, .unset] [(.int p4)])) _
        refine XS.iconst X65.here hx rfl (hb hby at_78) ?_
        show Steps p.tables e below (T65.setTop (mkF m 79 #[iv p0, jv p1, .second, iv p2, jv p3, .second, iv p4, iv (p0 &&& (7 : Int32)), iv (own_ib p0 p2 p4), jv (own_cb p1 p3 p4), .second, rv ob6, rv ob29, rv xb_65, .unset, .unset, .unset] [(.int 2), (.int p4)])) _
        refine XS.iushr X65.here hx rfl (hb hby at_79) rfl ?_
        show Steps p.tables e below (T65.setTop (mkF m 80 #[iv p0, jv p1, .second, iv p2, jv p3, .second, iv p4, iv (p0 &&& (7 : Int32)), iv (own_ib p0 p2 p4), jv (own_cb p1 p3 p4), .second, rv ob6, rv ob29, rv xb_65, .unset, .unset, .unset] [(.int ((p4.toUInt32 >>> ((2 : Int32) &&& 31).toUInt32).toInt32))])) _
        refine XS.iconst X65.here hx rfl (hb hby at_80) ?_
        show Steps p.tables e below (T65.setTop (mkF m 81 #[iv p0, jv p1, .second, iv p2, jv p3, .second, iv p4, iv (p0 &&& (7 : Int32)), iv (own_ib p0 p2 p4), jv (own_cb p1 p3 p4), .second, rv ob6, rv ob29, rv xb_65, .unset, .unset, .unset] [(.int 3), (.int ((p4.toUInt32 >>> ((2 : Int32) &&& 31).toUInt32).toInt32))])) _
        refine XS.iand X65.here hx rfl (hb hby at_81) rfl ?_
        show Steps p.tables e below (T65.setTop (mkF m 82 #[iv p0, jv p1, .second, iv p2, jv p3, .second, iv p4, iv (p0 &&& (7 : Int32)), iv (own_ib p0 p2 p4), jv (own_cb p1 p3 p4), .second, rv ob6, rv ob29, rv xb_65, .unset, .unset, .unset] [(.int (((p4.toUInt32 >>> ((2 : Int32) &&& 31).toUInt32).toInt32) &&& (3 : Int32)))])) _
        refine XS.istore X65.here hx rfl (hb hby at_82) rfl (l' := #[iv p0, jv p1, .second, iv p2, jv p3, .second, iv p4, iv (p0 &&& (7 : Int32)), iv (own_ib p0 p2 p4), jv (own_cb p1 p3 p4), .second, rv ob6, rv ob29, rv xb_65, iv (((p4.toUInt32 >>> ((2 : Int32) &&& 31).toUInt32).toInt32) &&& (3 : Int32)), .unset, .unset]) rfl ?_
        show Steps p.tables e below (T65.setTop (mkF m 84 #[iv p0, jv p1, .second, iv p2, jv p3, .second, iv p4, iv (p0 &&& (7 : Int32)), iv (own_ib p0 p2 p4), jv (own_cb p1 p3 p4), .second, rv ob6, rv ob29, rv xb_65, iv (((p4.toUInt32 >>> ((2 : Int32) &&& 31).toUInt32).toInt32) &&& (3 : Int32)), .unset, .unset] [])) _
        refine XS.iload X65.here hx rfl (hb hby at_84) rfl ?_
        show Steps p.tables e below (T65.setTop (mkF m 86 #[iv p0, jv p1, .second, iv p2, jv p3, .second, iv p4, iv (p0 &&& (7 : Int32)), iv (own_ib p0 p2 p4), jv (own_cb p1 p3 p4), .second, rv ob6, rv ob29, rv xb_65, iv (((p4.toUInt32 >>> ((2 : Int32) &&& 31).toUInt32).toInt32) &&& (3 : Int32)), .unset, .unset] [(.int (((p4.toUInt32 >>> ((2 : Int32) &&& 31).toUInt32).toInt32) &&& (3 : Int32)))])) _
        refine XS.iconst X65.here hx rfl (hb hby at_86) ?_
        show Steps p.tables e below (T65.setTop (mkF m 87 #[iv p0, jv p1, .second, iv p2, jv p3, .second, iv p4, iv (p0 &&& (7 : Int32)), iv (own_ib p0 p2 p4), jv (own_cb p1 p3 p4), .second, rv ob6, rv ob29, rv xb_65, iv (((p4.toUInt32 >>> ((2 : Int32) &&& 31).toUInt32).toInt32) &&& (3 : Int32)), .unset, .unset] [(.int 2), (.int (((p4.toUInt32 >>> ((2 : Int32) &&& 31).toUInt32).toInt32) &&& (3 : Int32)))])) _
        refine XS.icmpYes X65.here hx rfl (pc0 := 87) (pc' := 104) rfl (hb hby at_87) rfl (feq w2).2 (by decide) (by decide) ?_
        show Steps p.tables e below (T65.setTop (mkF m 104 #[iv p0, jv p1, .second, iv p2, jv p3, .second, iv p4, iv (p0 &&& (7 : Int32)), iv (own_ib p0 p2 p4), jv (own_cb p1 p3 p4), .second, rv ob6, rv ob29, rv xb_65, iv (((p4.toUInt32 >>> ((2 : Int32) &&& 31).toUInt32).toInt32) &&& (3 : Int32)), .unset, .unset] [])) _
        refine XS.iload X65.here hx rfl (hb hby at_104) rfl ?_
        show Steps p.tables e below (T65.setTop (mkF m 106 #[iv p0, jv p1, .second, iv p2, jv p3, .second, iv p4, iv (p0 &&& (7 : Int32)), iv (own_ib p0 p2 p4), jv (own_cb p1 p3 p4), .second, rv ob6, rv ob29, rv xb_65, iv (((p4.toUInt32 >>> ((2 : Int32) &&& 31).toUInt32).toInt32) &&& (3 : Int32)), .unset, .unset] [(.int (((p4.toUInt32 >>> ((2 : Int32) &&& 31).toUInt32).toInt32) &&& (3 : Int32)))])) _
        refine XS.iconst X65.here hx rfl (hb hby at_106) ?_
        show Steps p.tables e below (T65.setTop (mkF m 107 #[iv p0, jv p1, .second, iv p2, jv p3, .second, iv p4, iv (p0 &&& (7 : Int32)), iv (own_ib p0 p2 p4), jv (own_cb p1 p3 p4), .second, rv ob6, rv ob29, rv xb_65, iv (((p4.toUInt32 >>> ((2 : Int32) &&& 31).toUInt32).toInt32) &&& (3 : Int32)), .unset, .unset] [(.int 3), (.int (((p4.toUInt32 >>> ((2 : Int32) &&& 31).toUInt32).toInt32) &&& (3 : Int32)))])) _
        refine XS.icmpYes X65.here hx rfl (pc0 := 107) (pc' := 125) rfl (hb hby at_107) rfl (feq w3).2 (by decide) (by decide) ?_
        show Steps p.tables e below (T65.setTop (mkF m 125 #[iv p0, jv p1, .second, iv p2, jv p3, .second, iv p4, iv (p0 &&& (7 : Int32)), iv (own_ib p0 p2 p4), jv (own_cb p1 p3 p4), .second, rv ob6, rv ob29, rv xb_65, iv (((p4.toUInt32 >>> ((2 : Int32) &&& 31).toUInt32).toInt32) &&& (3 : Int32)), .unset, .unset] [])) _
        refine XS.aload X65.here hx rfl (hb hby at_125) rfl rfl ?_
        show Steps p.tables e below (T65.setTop (mkF m 127 #[iv p0, jv p1, .second, iv p2, jv p3, .second, iv p4, iv (p0 &&& (7 : Int32)), iv (own_ib p0 p2 p4), jv (own_cb p1 p3 p4), .second, rv ob6, rv ob29, rv xb_65, iv (((p4.toUInt32 >>> ((2 : Int32) &&& 31).toUInt32).toInt32) &&& (3 : Int32)), .unset, .unset] [(.ref ob6)])) _
        refine XS.aload X65.here hx rfl (hb hby at_127) rfl rfl ?_
        show Steps p.tables e below (T65.setTop (mkF m 129 #[iv p0, jv p1, .second, iv p2, jv p3, .second, iv p4, iv (p0 &&& (7 : Int32)), iv (own_ib p0 p2 p4), jv (own_cb p1 p3 p4), .second, rv ob6, rv ob29, rv xb_65, iv (((p4.toUInt32 >>> ((2 : Int32) &&& 31).toUInt32).toInt32) &&& (3 : Int32)), .unset, .unset] [(.ref ob29), (.ref ob6)])) _
        exact k
      refine own_lift sg66 ?_
      show own_Go p.tables e below (T65.setTop (mkF m 129 #[iv p0, jv p1, .second, iv p2, jv p3, .second, iv p4, iv (p0 &&& (7 : Int32)), iv (own_ib p0 p2 p4), jv (own_cb p1 p3 p4), .second, rv ob6, rv ob29, rv xb_65, iv (((p4.toUInt32 >>> ((2 : Int32) &&& 31).toUInt32).toInt32) &&& (3 : Int32)), .unset, .unset] [(.ref ob29), (.ref ob6)])) _
      have Fc67 : Fld Z T65.heap ob6 "com/example/allsome/allsome/cypher/PathPattern$Selector" "kind" "Lcom/example/allsome/allsome/cypher/PathPattern$Selector$Kind;" (.ref (own_kind (p0 &&& (7 : Int32)) as_SHORTEST_PATH as_ALL_SHORTEST_PATHS as_ANY_SHORTEST as_ALL_SHORTEST as_ANY as_ALL as_SHORTEST as_SHORTEST_GROUPS)) := (((p27_2.ext Ex29).keep p60_0 (ninS ne48 nin0)).keep p65_0 nin0)
      have Fc68 : Fld Z T65.heap ob6 "com/example/allsome/allsome/cypher/PathPattern$Selector" "count" "J" (.long p1) := (((p27_3.ext Ex29).keep p60_0 (ninS ne48 nin0)).keep p65_0 nin0)
      have Fc69 : Fld Z T65.heap ob29 "com/example/allsome/allsome/cypher/PathPattern$Selector" "kind" "Lcom/example/allsome/allsome/cypher/PathPattern$Selector$Kind;" (.ref (own_kind (own_ib p0 p2 p4) as_SHORTEST_PATH as_ALL_SHORTEST_PATHS as_ANY_SHORTEST as_ALL_SHORTEST as_ANY as_ALL as_SHORTEST as_SHORTEST_GROUPS)) := (p60_2.keep p65_0 nin0)
      have Fc70 : Fld Z T65.heap ob29 "com/example/allsome/allsome/cypher/PathPattern$Selector" "count" "J" (.long (own_cb p1 p3 p4)) := (p60_3.keep p65_0 nin0)
      have Fc71 : Exa Z T65.heap ob29 "com/example/allsome/allsome/cypher/PathPattern$Selector" := (p60_1.keep p65_0)
      have Fc73 : Exa Z T65.heap ob6 "com/example/allsome/allsome/cypher/PathPattern$Selector" := (((p27_1.ext Ex29).keep p60_0).keep p65_0)
      obtain ⟨cq72, kq72, q72a, q72b, q72c⟩ := isOf hZ rfl Fc73
      obtain ⟨_, _, ⟨T72, Lx72, kx72, nx72⟩, -, X72, ⟨Lc72, hQ72, lx72, yx72, zx72⟩, st72⟩ := X65.virtualBack hx (y := (⟨"com/example/allsome/allsome/cypher/PathPattern$Selector", "equals", "(Ljava/lang/Object;)Z"⟩ : MethodName)) (z := (⟨"com/example/allsome/allsome/cypher/PathPattern$Selector", "equals", "(Ljava/lang/Object;)Z"⟩ : MethodName)) hown (mvT hZ (wd hw 30 rfl)) (mvT hZ (wd hw 31 rfl)) (notFace_of_selects (args := #[]) (mvT hZ (wd hw 33 rfl))) (mvT hZ (wd hw 33 rfl)) (mvT hZ (wd hw 32 rfl)) (by decide) (backOf (W := 0) (rmEqK l Z a0 hw [] ob6 ob29 (own_kind (p0 &&& (7 : Int32)) as_SHORTEST_PATH as_ALL_SHORTEST_PATHS as_ANY_SHORTEST as_ALL_SHORTEST as_ANY as_ALL as_SHORTEST as_SHORTEST_GROUPS) p1 (own_kind (own_ib p0 p2 p4) as_SHORTEST_PATH as_ALL_SHORTEST_PATHS as_ANY_SHORTEST as_ALL_SHORTEST as_ANY as_ALL as_SHORTEST as_SHORTEST_GROUPS) (own_cb p1 p3 p4) T65.heap n0 Z65 Fc67 Fc68 Fc69 Fc70 Fc71 hkk) hZ (wd hw 34 rfl) (wd hw 2 rfl) (by decide) (by decide)) q72a q72c (g := (mkF m 129 #[iv p0, jv p1, .second, iv p2, jv p3, .second, iv p4, iv (p0 &&& (7 : Int32)), iv (own_ib p0 p2 p4), jv (own_cb p1 p3 p4), .second, rv ob6, rv ob29, rv xb_65, iv (((p4.toUInt32 >>> ((2 : Int32) &&& 31).toUInt32).toInt32) &&& (3 : Int32)), .unset, .unset] [(.ref ob29), (.ref ob6)])) rfl (by rw [hml]; rfl) (Steps.refl _) (argsL := [(.ref ob29)]) (rest := []) (lenOf pd_5 rfl) rfl (by show 2 * 0 + _ ≤ _; exact Nat.le_of_eq rfl) (hb hby at_129) (fun _ _ => ⟨rfl, rfl, (by decide : 3 + 0 ≤ _), (by decide : 5 + 0 ≤ _)⟩)
      dsimp only [Pt.U, Pt.locs, Pt.cells, Pt.slots] at X72 lx72 yx72 zx72 st72 hQ72
      subst lx72 yx72 zx72
      obtain ⟨rfl, N72q, e72⟩ := hQ72
      have N72 := Fr.app N65 N72q
      refine own_lift (fun t k => st72.trans k) ?_
      show own_Go p.tables e below (T72.setTop (mkF m 132 #[iv p0, jv p1, .second, iv p2, jv p3, .second, iv p4, iv (p0 &&& (7 : Int32)), iv (own_ib p0 p2 p4), jv (own_cb p1 p3 p4), .second, rv ob6, rv ob29, rv xb_65, iv (((p4.toUInt32 >>> ((2 : Int32) &&& 31).toUInt32).toInt32) &&& (3 : Int32)), .unset, .unset] [(.int 0)])) _
      have sg74 : ∀ t, Steps p.tables e below (T72.setTop (mkF m 167 #[iv p0, jv p1, .second, iv p2, jv p3, .second, iv p4, iv (p0 &&& (7 : Int32)), iv (own_ib p0 p2 p4), jv (own_cb p1 p3 p4), .second, rv ob6, rv ob29, rv xb_65, iv (((p4.toUInt32 >>> ((2 : Int32) &&& 31).toUInt32).toInt32) &&& (3 : Int32)), iv 0, iv 0] [(.int 1)])) t → Steps p.tables e below (T72.setTop (mkF m 132 #[iv p0, jv p1, .second, iv p2, jv p3, .second, iv p4, iv (p0 &&& (7 : Int32)), iv (own_ib p0 p2 p4), jv (own_cb p1 p3 p4), .second, rv ob6, rv ob29, rv xb_65, iv (((p4.toUInt32 >>> ((2 : Int32) &&& 31).toUInt32).toInt32) &&& (3 : Int32)), .unset, .unset] [(.int 0)])) t := by
        intro t k
        refine XS.istore X72.here hx rfl (hb hby at_132) rfl (l' := #[iv p0, jv p1, .second, iv p2, jv p3, .second, iv p4, iv (p0 &&& (7 : Int32)), iv (own_ib p0 p2 p4), jv (own_cb p1 p3 p4), .second, rv ob6, rv ob29, rv xb_65, iv (((p4.toUInt32 >>> ((2 : Int32) &&& 31).toUInt32).toInt32) &&& (3 : Int32)), iv 0, .unset]) rfl ?_
        show Steps p.tables e below (T72.setTop (mkF m 134 #[iv p0, jv p1, .second, iv p2, jv p3, .second, iv p4, iv (p0 &&& (7 : Int32)), iv (own_ib p0 p2 p4), jv (own_cb p1 p3 p4), .second, rv ob6, rv ob29, rv xb_65, iv (((p4.toUInt32 >>> ((2 : Int32) &&& 31).toUInt32).toInt32) &&& (3 : Int32)), iv 0, .unset] [])) _
        refine XS.iload X72.here hx rfl (hb hby at_134) rfl ?_
        show Steps p.tables e below (T72.setTop (mkF m 136 #[iv p0, jv p1, .second, iv p2, jv p3, .second, iv p4, iv (p0 &&& (7 : Int32)), iv (own_ib p0 p2 p4), jv (own_cb p1 p3 p4), .second, rv ob6, rv ob29, rv xb_65, iv (((p4.toUInt32 >>> ((2 : Int32) &&& 31).toUInt32).toInt32) &&& (3 : Int32)), iv 0, .unset] [(.int (p0 &&& (7 : Int32)))])) _
        refine XS.iload X72.here hx rfl (hb hby at_136) rfl ?_
        show Steps p.tables e below (T72.setTop (mkF m 138 #[iv p0, jv p1, .second, iv p2, jv p3, .second, iv p4, iv (p0 &&& (7 : Int32)), iv (own_ib p0 p2 p4), jv (own_cb p1 p3 p4), .second, rv ob6, rv ob29, rv xb_65, iv (((p4.toUInt32 >>> ((2 : Int32) &&& 31).toUInt32).toInt32) &&& (3 : Int32)), iv 0, .unset] [(.int (own_ib p0 p2 p4)), (.int (p0 &&& (7 : Int32)))])) _
        refine XS.icmpYes X72.here hx rfl (pc0 := 138) (pc' := 152) rfl (hb hby at_138) rfl (feq hk).2 (by decide) (by decide) ?_
        show Steps p.tables e below (T72.setTop (mkF m 152 #[iv p0, jv p1, .second, iv p2, jv p3, .second, iv p4, iv (p0 &&& (7 : Int32)), iv (own_ib p0 p2 p4), jv (own_cb p1 p3 p4), .second, rv ob6, rv ob29, rv xb_65, iv (((p4.toUInt32 >>> ((2 : Int32) &&& 31).toUInt32).toInt32) &&& (3 : Int32)), iv 0, .unset] [])) _
        refine XS.iconst X72.here hx rfl (hb hby at_152) ?_
        show Steps p.tables e below (T72.setTop (mkF m 153 #[iv p0, jv p1, .second, iv p2, jv p3, .second, iv p4, iv (p0 &&& (7 : Int32)), iv (own_ib p0 p2 p4), jv (own_cb p1 p3 p4), .second, rv ob6, rv ob29, rv xb_65, iv (((p4.toUInt32 >>> ((2 : Int32) &&& 31).toUInt32).toInt32) &&& (3 : Int32)), iv 0, .unset] [(.int 0)])) _
        refine XS.istore X72.here hx rfl (hb hby at_153) rfl (l' := #[iv p0, jv p1, .second, iv p2, jv p3, .second, iv p4, iv (p0 &&& (7 : Int32)), iv (own_ib p0 p2 p4), jv (own_cb p1 p3 p4), .second, rv ob6, rv ob29, rv xb_65, iv (((p4.toUInt32 >>> ((2 : Int32) &&& 31).toUInt32).toInt32) &&& (3 : Int32)), iv 0, iv 0]) rfl ?_
        show Steps p.tables e below (T72.setTop (mkF m 155 #[iv p0, jv p1, .second, iv p2, jv p3, .second, iv p4, iv (p0 &&& (7 : Int32)), iv (own_ib p0 p2 p4), jv (own_cb p1 p3 p4), .second, rv ob6, rv ob29, rv xb_65, iv (((p4.toUInt32 >>> ((2 : Int32) &&& 31).toUInt32).toInt32) &&& (3 : Int32)), iv 0, iv 0] [])) _
        refine XS.iload X72.here hx rfl (hb hby at_155) rfl ?_
        show Steps p.tables e below (T72.setTop (mkF m 157 #[iv p0, jv p1, .second, iv p2, jv p3, .second, iv p4, iv (p0 &&& (7 : Int32)), iv (own_ib p0 p2 p4), jv (own_cb p1 p3 p4), .second, rv ob6, rv ob29, rv xb_65, iv (((p4.toUInt32 >>> ((2 : Int32) &&& 31).toUInt32).toInt32) &&& (3 : Int32)), iv 0, iv 0] [(.int 0)])) _
        refine XS.iload X72.here hx rfl (hb hby at_157) rfl ?_
        show Steps p.tables e below (T72.setTop (mkF m 159 #[iv p0, jv p1, .second, iv p2, jv p3, .second, iv p4, iv (p0 &&& (7 : Int32)), iv (own_ib p0 p2 p4), jv (own_cb p1 p3 p4), .second, rv ob6, rv ob29, rv xb_65, iv (((p4.toUInt32 >>> ((2 : Int32) &&& 31).toUInt32).toInt32) &&& (3 : Int32)), iv 0, iv 0] [(.int 0), (.int 0)])) _
        refine XS.icmpNo X72.here hx rfl (hb hby at_159) rfl (teq (by decide : (0 : Int32) = (0 : Int32))).2 ?_
        show Steps p.tables e below (T72.setTop (mkF m 162 #[iv p0, jv p1, .second, iv p2, jv p3, .second, iv p4, iv (p0 &&& (7 : Int32)), iv (own_ib p0 p2 p4), jv (own_cb p1 p3 p4), .second, rv ob6, rv ob29, rv xb_65, iv (((p4.toUInt32 >>> ((2 : Int32) &&& 31).toUInt32).toInt32) &&& (3 : Int32)), iv 0, iv 0] [])) _
        refine XS.iconst X72.here hx rfl (hb hby at_162) ?_
        show Steps p.tables e below (T72.setTop (mkF m 163 #[iv p0, jv p1, .second, iv p2, jv p3, .second, iv p4, iv (p0 &&& (7 : Int32)), iv (own_ib p0 p2 p4), jv (own_cb p1 p3 p4), .second, rv ob6, rv ob29, rv xb_65, iv (((p4.toUInt32 >>> ((2 : Int32) &&& 31).toUInt32).toInt32) &&& (3 : Int32)), iv 0, iv 0] [(.int 1)])) _
        refine XS.goto X72.here hx rfl (pc0 := 163) (pc' := 167) rfl (hb hby at_163) (by decide) (by decide) ?_
        show Steps p.tables e below (T72.setTop (mkF m 167 #[iv p0, jv p1, .second, iv p2, jv p3, .second, iv p4, iv (p0 &&& (7 : Int32)), iv (own_ib p0 p2 p4), jv (own_cb p1 p3 p4), .second, rv ob6, rv ob29, rv xb_65, iv (((p4.toUInt32 >>> ((2 : Int32) &&& 31).toUInt32).toInt32) &&& (3 : Int32)), iv 0, iv 0] [(.int 1)])) _
        exact k
      refine own_lift sg74 ?_
      show own_Go p.tables e below (T72.setTop (mkF m 167 #[iv p0, jv p1, .second, iv p2, jv p3, .second, iv p4, iv (p0 &&& (7 : Int32)), iv (own_ib p0 p2 p4), jv (own_cb p1 p3 p4), .second, rv ob6, rv ob29, rv xb_65, iv (((p4.toUInt32 >>> ((2 : Int32) &&& 31).toUInt32).toInt32) &&& (3 : Int32)), iv 0, iv 0] [(.int 1)])) _
      obtain ⟨fs, hr, hrun, hended, hW, hsame⟩ := X72.leave (v := some (.int 1)) (fun h => by rw [Bd.returns] at h; cases h)
      refine ⟨_, _, ?_, hrun, hended, _, _, rfl, ?_, ⟨_, rfl⟩, hW, hsame.mono (by decide) (by decide)⟩
      · exact retN X72 hx (t := .boolean) Bd.returns (by simp) (hb hby at_167) hr
      · show Q0 Z  h0 n0 _ T72.heap _
        rw [e72]
        exact ⟨rfl, N72⟩
    by_cases b2 : (p4 &&& (2 : Int32)) = (0 : Int32)
    · have sg75 : ∀ t, Steps p.tables e below (T2.setTop (mkF m 37 #[iv p0, jv p1, .second, iv p2, jv p3, .second, iv p4, iv (p0 &&& (7 : Int32)), iv (own_ib p0 p2 p4), .unset, .unset, .unset, .unset, .unset, .unset, .unset, .unset] [(.long p3)])) t → Steps p.tables e below (T2.setTop (mkF m 24 #[iv p0, jv p1, .second, iv p2, jv p3, .second, iv p4, iv (p0 &&& (7 : Int32)), iv (own_ib p0 p2 p4), .unset, .unset, .unset, .unset, .unset, .unset, .unset, .unset] [])) t := by
        intro t k
        refine XS.iload X2.here hx rfl (hb hby at_24) rfl ?_
        show Steps p.tables e below (T2.setTop (mkF m 26 #[iv p0, jv p1, .second, iv p2, jv p3, .second, iv p4, iv (p0 &&& (7 : Int32)), iv (own_ib p0 p2 p4), .unset, .unset, .unset, .unset, .unset, .unset, .unset, .unset] [(.int p4)])) _
        refine XS.iconst X2.here hx rfl (hb hby at_26) ?_
        show Steps p.tables e below (T2.setTop (mkF m 27 #[iv p0, jv p1, .second, iv p2, jv p3, .second, iv p4, iv (p0 &&& (7 : Int32)), iv (own_ib p0 p2 p4), .unset, .unset, .unset, .unset, .unset, .unset, .unset, .unset] [(.int 2), (.int p4)])) _
        refine XS.iand X2.here hx rfl (hb hby at_27) rfl ?_
        show Steps p.tables e below (T2.setTop (mkF m 28 #[iv p0, jv p1, .second, iv p2, jv p3, .second, iv p4, iv (p0 &&& (7 : Int32)), iv (own_ib p0 p2 p4), .unset, .unset, .unset, .unset, .unset, .unset, .unset, .unset] [(.int (p4 &&& (2 : Int32)))])) _
        refine XS.ifYes X2.here hx rfl (pc0 := 28) (pc' := 35) rfl (hb hby at_28) rfl ((if0 _ _).trans (teq b2).1) (by decide) (by decide) ?_
        show Steps p.tables e below (T2.setTop (mkF m 35 #[iv p0, jv p1, .second, iv p2, jv p3, .second, iv p4, iv (p0 &&& (7 : Int32)), iv (own_ib p0 p2 p4), .unset, .unset, .unset, .unset, .unset, .unset, .unset, .unset] [])) _
        refine XS.lload X2.here hx rfl (hb hby at_35) rfl ?_
        show Steps p.tables e below (T2.setTop (mkF m 37 #[iv p0, jv p1, .second, iv p2, jv p3, .second, iv p4, iv (p0 &&& (7 : Int32)), iv (own_ib p0 p2 p4), .unset, .unset, .unset, .unset, .unset, .unset, .unset, .unset] [(.long p3)])) _
        exact k
      refine own_lift sg75 ?_
      show own_Go p.tables e below (T2.setTop (mkF m 37 #[iv p0, jv p1, .second, iv p2, jv p3, .second, iv p4, iv (p0 &&& (7 : Int32)), iv (own_ib p0 p2 p4), .unset, .unset, .unset, .unset, .unset, .unset, .unset, .unset] [(.long p3)])) _
      rw [show (own_cb p1 p3 p4) = p3 from if_pos b2] at join4
      exact join4 _ _ X2 e2 N2
    · have sg76 : ∀ t, Steps p.tables e below (T2.setTop (mkF m 37 #[iv p0, jv p1, .second, iv p2, jv p3, .second, iv p4, iv (p0 &&& (7 : Int32)), iv (own_ib p0 p2 p4), .unset, .unset, .unset, .unset, .unset, .unset, .unset, .unset] [(.long p1)])) t → Steps p.tables e below (T2.setTop (mkF m 24 #[iv p0, jv p1, .second, iv p2, jv p3, .second, iv p4, iv (p0 &&& (7 : Int32)), iv (own_ib p0 p2 p4), .unset, .unset, .unset, .unset, .unset, .unset, .unset, .unset] [])) t := by
        intro t k
        refine XS.iload X2.here hx rfl (hb hby at_24) rfl ?_
        show Steps p.tables e below (T2.setTop (mkF m 26 #[iv p0, jv p1, .second, iv p2, jv p3, .second, iv p4, iv (p0 &&& (7 : Int32)), iv (own_ib p0 p2 p4), .unset, .unset, .unset, .unset, .unset, .unset, .unset, .unset] [(.int p4)])) _
        refine XS.iconst X2.here hx rfl (hb hby at_26) ?_
        show Steps p.tables e below (T2.setTop (mkF m 27 #[iv p0, jv p1, .second, iv p2, jv p3, .second, iv p4, iv (p0 &&& (7 : Int32)), iv (own_ib p0 p2 p4), .unset, .unset, .unset, .unset, .unset, .unset, .unset, .unset] [(.int 2), (.int p4)])) _
        refine XS.iand X2.here hx rfl (hb hby at_27) rfl ?_
        show Steps p.tables e below (T2.setTop (mkF m 28 #[iv p0, jv p1, .second, iv p2, jv p3, .second, iv p4, iv (p0 &&& (7 : Int32)), iv (own_ib p0 p2 p4), .unset, .unset, .unset, .unset, .unset, .unset, .unset, .unset] [(.int (p4 &&& (2 : Int32)))])) _
        refine XS.ifNo X2.here hx rfl (hb hby at_28) rfl ((if0 _ _).trans (feq b2).1) ?_
        show Steps p.tables e below (T2.setTop (mkF m 31 #[iv p0, jv p1, .second, iv p2, jv p3, .second, iv p4, iv (p0 &&& (7 : Int32)), iv (own_ib p0 p2 p4), .unset, .unset, .unset, .unset, .unset, .unset, .unset, .unset] [])) _
        refine XS.lloadN X2.here hx rfl (hb hby at_31) rfl ?_
        show Steps p.tables e below (T2.setTop (mkF m 32 #[iv p0, jv p1, .second, iv p2, jv p3, .second, iv p4, iv (p0 &&& (7 : Int32)), iv (own_ib p0 p2 p4), .unset, .unset, .unset, .unset, .unset, .unset, .unset, .unset] [(.long p1)])) _
        refine XS.goto X2.here hx rfl (pc0 := 32) (pc' := 37) rfl (hb hby at_32) (by decide) (by decide) ?_
        show Steps p.tables e below (T2.setTop (mkF m 37 #[iv p0, jv p1, .second, iv p2, jv p3, .second, iv p4, iv (p0 &&& (7 : Int32)), iv (own_ib p0 p2 p4), .unset, .unset, .unset, .unset, .unset, .unset, .unset, .unset] [(.long p1)])) _
        exact k
      refine own_lift sg76 ?_
      show own_Go p.tables e below (T2.setTop (mkF m 37 #[iv p0, jv p1, .second, iv p2, jv p3, .second, iv p4, iv (p0 &&& (7 : Int32)), iv (own_ib p0 p2 p4), .unset, .unset, .unset, .unset, .unset, .unset, .unset, .unset] [(.long p1)])) _
      rw [show (own_cb p1 p3 p4) = p1 from if_neg b2] at join4
      exact join4 _ _ X2 e2 N2
  by_cases b1 : (p4 &&& (1 : Int32)) = (0 : Int32)
  · have sg77 : ∀ t, Steps p.tables e below (s₁.setTop (mkF m 22 #[iv p0, jv p1, .second, iv p2, jv p3, .second, iv p4, iv (p0 &&& (7 : Int32)), .unset, .unset, .unset, .unset, .unset, .unset, .unset, .unset, .unset] [(.int (p2 &&& (7 : Int32)))])) t → Steps p.tables e below (s₁.setTop (mkF m 6 #[iv p0, jv p1, .second, iv p2, jv p3, .second, iv p4, iv (p0 &&& (7 : Int32)), .unset, .unset, .unset, .unset, .unset, .unset, .unset, .unset, .unset] [])) t := by
      intro t k
      refine XS.iload X0.here hx rfl (hb hby at_6) rfl ?_
      show Steps p.tables e below (s₁.setTop (mkF m 8 #[iv p0, jv p1, .second, iv p2, jv p3, .second, iv p4, iv (p0 &&& (7 : Int32)), .unset, .unset, .unset, .unset, .unset, .unset, .unset, .unset, .unset] [(.int p4)])) _
      refine XS.iconst X0.here hx rfl (hb hby at_8) ?_
      show Steps p.tables e below (s₁.setTop (mkF m 9 #[iv p0, jv p1, .second, iv p2, jv p3, .second, iv p4, iv (p0 &&& (7 : Int32)), .unset, .unset, .unset, .unset, .unset, .unset, .unset, .unset, .unset] [(.int 1), (.int p4)])) _
      refine XS.iand X0.here hx rfl (hb hby at_9) rfl ?_
      show Steps p.tables e below (s₁.setTop (mkF m 10 #[iv p0, jv p1, .second, iv p2, jv p3, .second, iv p4, iv (p0 &&& (7 : Int32)), .unset, .unset, .unset, .unset, .unset, .unset, .unset, .unset, .unset] [(.int (p4 &&& (1 : Int32)))])) _
      refine XS.ifYes X0.here hx rfl (pc0 := 10) (pc' := 18) rfl (hb hby at_10) rfl ((if0 _ _).trans (teq b1).1) (by decide) (by decide) ?_
      show Steps p.tables e below (s₁.setTop (mkF m 18 #[iv p0, jv p1, .second, iv p2, jv p3, .second, iv p4, iv (p0 &&& (7 : Int32)), .unset, .unset, .unset, .unset, .unset, .unset, .unset, .unset, .unset] [])) _
      refine XS.iloadN X0.here hx rfl (hb hby at_18) rfl ?_
      show Steps p.tables e below (s₁.setTop (mkF m 19 #[iv p0, jv p1, .second, iv p2, jv p3, .second, iv p4, iv (p0 &&& (7 : Int32)), .unset, .unset, .unset, .unset, .unset, .unset, .unset, .unset, .unset] [(.int p2)])) _
      refine XS.bipush X0.here hx rfl (hb hby at_19) ?_
      show Steps p.tables e below (s₁.setTop (mkF m 21 #[iv p0, jv p1, .second, iv p2, jv p3, .second, iv p4, iv (p0 &&& (7 : Int32)), .unset, .unset, .unset, .unset, .unset, .unset, .unset, .unset, .unset] [(.int 7), (.int p2)])) _
      refine XS.iand X0.here hx rfl (hb hby at_21) rfl ?_
      show Steps p.tables e below (s₁.setTop (mkF m 22 #[iv p0, jv p1, .second, iv p2, jv p3, .second, iv p4, iv (p0 &&& (7 : Int32)), .unset, .unset, .unset, .unset, .unset, .unset, .unset, .unset, .unset] [(.int (p2 &&& (7 : Int32)))])) _
      exact k
    refine own_lift sg77 ?_
    show own_Go p.tables e below (s₁.setTop (mkF m 22 #[iv p0, jv p1, .second, iv p2, jv p3, .second, iv p4, iv (p0 &&& (7 : Int32)), .unset, .unset, .unset, .unset, .unset, .unset, .unset, .unset, .unset] [(.int (p2 &&& (7 : Int32)))])) _
    rw [show (own_ib p0 p2 p4) = (p2 &&& (7 : Int32)) from if_pos b1] at join2
    exact join2 _ _ X0 e0 N0
  · have sg78 : ∀ t, Steps p.tables e below (s₁.setTop (mkF m 22 #[iv p0, jv p1, .second, iv p2, jv p3, .second, iv p4, iv (p0 &&& (7 : Int32)), .unset, .unset, .unset, .unset, .unset, .unset, .unset, .unset, .unset] [(.int (p0 &&& (7 : Int32)))])) t → Steps p.tables e below (s₁.setTop (mkF m 6 #[iv p0, jv p1, .second, iv p2, jv p3, .second, iv p4, iv (p0 &&& (7 : Int32)), .unset, .unset, .unset, .unset, .unset, .unset, .unset, .unset, .unset] [])) t := by
      intro t k
      refine XS.iload X0.here hx rfl (hb hby at_6) rfl ?_
      show Steps p.tables e below (s₁.setTop (mkF m 8 #[iv p0, jv p1, .second, iv p2, jv p3, .second, iv p4, iv (p0 &&& (7 : Int32)), .unset, .unset, .unset, .unset, .unset, .unset, .unset, .unset, .unset] [(.int p4)])) _
      refine XS.iconst X0.here hx rfl (hb hby at_8) ?_
      show Steps p.tables e below (s₁.setTop (mkF m 9 #[iv p0, jv p1, .second, iv p2, jv p3, .second, iv p4, iv (p0 &&& (7 : Int32)), .unset, .unset, .unset, .unset, .unset, .unset, .unset, .unset, .unset] [(.int 1), (.int p4)])) _
      refine XS.iand X0.here hx rfl (hb hby at_9) rfl ?_
      show Steps p.tables e below (s₁.setTop (mkF m 10 #[iv p0, jv p1, .second, iv p2, jv p3, .second, iv p4, iv (p0 &&& (7 : Int32)), .unset, .unset, .unset, .unset, .unset, .unset, .unset, .unset, .unset] [(.int (p4 &&& (1 : Int32)))])) _
      refine XS.ifNo X0.here hx rfl (hb hby at_10) rfl ((if0 _ _).trans (feq b1).1) ?_
      show Steps p.tables e below (s₁.setTop (mkF m 13 #[iv p0, jv p1, .second, iv p2, jv p3, .second, iv p4, iv (p0 &&& (7 : Int32)), .unset, .unset, .unset, .unset, .unset, .unset, .unset, .unset, .unset] [])) _
      refine XS.iload X0.here hx rfl (hb hby at_13) rfl ?_
      show Steps p.tables e below (s₁.setTop (mkF m 15 #[iv p0, jv p1, .second, iv p2, jv p3, .second, iv p4, iv (p0 &&& (7 : Int32)), .unset, .unset, .unset, .unset, .unset, .unset, .unset, .unset, .unset] [(.int (p0 &&& (7 : Int32)))])) _
      refine XS.goto X0.here hx rfl (pc0 := 15) (pc' := 22) rfl (hb hby at_15) (by decide) (by decide) ?_
      show Steps p.tables e below (s₁.setTop (mkF m 22 #[iv p0, jv p1, .second, iv p2, jv p3, .second, iv p4, iv (p0 &&& (7 : Int32)), .unset, .unset, .unset, .unset, .unset, .unset, .unset, .unset, .unset] [(.int (p0 &&& (7 : Int32)))])) _
      exact k
    refine own_lift sg78 ?_
    show own_Go p.tables e below (s₁.setTop (mkF m 22 #[iv p0, jv p1, .second, iv p2, jv p3, .second, iv p4, iv (p0 &&& (7 : Int32)), .unset, .unset, .unset, .unset, .unset, .unset, .unset, .unset, .unset] [(.int (p0 &&& (7 : Int32)))])) _
    rw [show (own_ib p0 p2 p4) = (p0 &&& (7 : Int32)) from if_neg b1] at join2
    exact join2 _ _ X0 e0 N0
theorem ef_rm0_C (m : MethodId) (x0 : Int32) (x1 : Int64) (x2 : Int32) (x3 : Int64) (x4 : Int32) : entryFrame m #[(.int x0), (.long x1), (.int x2), (.long x3), (.int x4)] maxLocals = mkF m 0 #[.val (.int x0), .val (.long x1), .second, .val (.int x2), .val (.long x3), .second, .val (.int x4), .unset, .unset, .unset, .unset, .unset, .unset, .unset, .unset, .unset, .unset] [] := by first | (simp [entryFrame, mkF, argsToLocals, Value.category, maxLocals]; done) | rfl
set_option maxRecDepth 65536 in
set_option maxHeartbeats 40000000 in
theorem rm0_C (l : Launch) (Z : State) (a0 : Array Value) (hw : ∀ d ∈ tables_1, d.before a0 Z = true) (ws : List Jvm.Cond) (p0 : Int32) (p1 : Int64) (p2 : Int32) (p3 : Int64) (p4 : Int32) (as_SHORTEST_PATH : Addr) (as_ALL_SHORTEST_PATHS : Addr) (as_ANY_SHORTEST : Addr) (as_ALL_SHORTEST : Addr) (as_ANY : Addr) (as_ALL : Addr) (as_SHORTEST : Addr) (as_SHORTEST_GROUPS : Addr) (ca : Addr) (cc : Cell) (h0 : Heap) (n0 : Nat) (Z0 : n0 ≤ h0.size) (S_SHORTEST_PATH : Sta Z h0 "com/example/allsome/allsome/cypher/PathPattern$Selector$Kind" "SHORTEST_PATH" "Lcom/example/allsome/allsome/cypher/PathPattern$Selector$Kind;" (.ref as_SHORTEST_PATH)) (S_ALL_SHORTEST_PATHS : Sta Z h0 "com/example/allsome/allsome/cypher/PathPattern$Selector$Kind" "ALL_SHORTEST_PATHS" "Lcom/example/allsome/allsome/cypher/PathPattern$Selector$Kind;" (.ref as_ALL_SHORTEST_PATHS)) (S_ANY_SHORTEST : Sta Z h0 "com/example/allsome/allsome/cypher/PathPattern$Selector$Kind" "ANY_SHORTEST" "Lcom/example/allsome/allsome/cypher/PathPattern$Selector$Kind;" (.ref as_ANY_SHORTEST)) (S_ALL_SHORTEST : Sta Z h0 "com/example/allsome/allsome/cypher/PathPattern$Selector$Kind" "ALL_SHORTEST" "Lcom/example/allsome/allsome/cypher/PathPattern$Selector$Kind;" (.ref as_ALL_SHORTEST)) (S_ANY : Sta Z h0 "com/example/allsome/allsome/cypher/PathPattern$Selector$Kind" "ANY" "Lcom/example/allsome/allsome/cypher/PathPattern$Selector$Kind;" (.ref as_ANY)) (S_ALL : Sta Z h0 "com/example/allsome/allsome/cypher/PathPattern$Selector$Kind" "ALL" "Lcom/example/allsome/allsome/cypher/PathPattern$Selector$Kind;" (.ref as_ALL)) (S_SHORTEST : Sta Z h0 "com/example/allsome/allsome/cypher/PathPattern$Selector$Kind" "SHORTEST" "Lcom/example/allsome/allsome/cypher/PathPattern$Selector$Kind;" (.ref as_SHORTEST)) (S_SHORTEST_GROUPS : Sta Z h0 "com/example/allsome/allsome/cypher/PathPattern$Selector$Kind" "SHORTEST_GROUPS" "Lcom/example/allsome/allsome/cypher/PathPattern$Selector$Kind;" (.ref as_SHORTEST_GROUPS)) (O_SHORTEST_PATH : Fld Z h0 as_SHORTEST_PATH "java/lang/Enum" "ordinal" "I" (.int 0)) (O_ALL_SHORTEST_PATHS : Fld Z h0 as_ALL_SHORTEST_PATHS "java/lang/Enum" "ordinal" "I" (.int 1)) (O_ANY_SHORTEST : Fld Z h0 as_ANY_SHORTEST "java/lang/Enum" "ordinal" "I" (.int 2)) (O_ALL_SHORTEST : Fld Z h0 as_ALL_SHORTEST "java/lang/Enum" "ordinal" "I" (.int 3)) (O_ANY : Fld Z h0 as_ANY "java/lang/Enum" "ordinal" "I" (.int 4)) (O_ALL : Fld Z h0 as_ALL "java/lang/Enum" "ordinal" "I" (.int 5)) (O_SHORTEST : Fld Z h0 as_SHORTEST "java/lang/Enum" "ordinal" "I" (.int 6)) (O_SHORTEST_GROUPS : Fld Z h0 as_SHORTEST_GROUPS "java/lang/Enum" "ordinal" "I" (.int 7)) (S2 : Sta Z h0 "java/lang/Long$LongCache" "cache" "[Ljava/lang/Long;" (.ref ca)) (A1 : Arr Z h0 ca cc (.object "java/lang/Long")) (B1 : own_Box Z h0 "java/lang/Long" cc (¬ (p1 < (-128 : Int64)) ∧ ¬ ((127 : Int64) < p1)) (((p1.toInt32) + (128 : Int32)))) (w2 : ¬ ((((p4.toUInt32 >>> ((2 : Int32) &&& 31).toUInt32).toInt32) &&& (3 : Int32)) = (2 : Int32))) (w3 : ¬ ((((p4.toUInt32 >>> ((2 : Int32) &&& 31).toUInt32).toInt32) &&& (3 : Int32)) = (3 : Int32))) (hk : (p0 &&& (7 : Int32)) = (own_ib p0 p2 p4)) (hkk : (own_kind (own_ib p0 p2 p4) as_SHORTEST_PATH as_ALL_SHORTEST_PATHS as_ANY_SHORTEST as_ALL_SHORTEST as_ANY as_ALL as_SHORTEST as_SHORTEST_GROUPS) = (own_kind (p0 &&& (7 : Int32)) as_SHORTEST_PATH as_ALL_SHORTEST_PATHS as_ANY_SHORTEST as_ALL_SHORTEST as_ANY as_ALL as_SHORTEST as_SHORTEST_GROUPS)) (hc : ¬ (p1 = (own_cb p1 p3 p4))) :
    MetFree l x (head1 (Jvm.Cond.code x code maxLocals ret :: ws) room_1) (fun a U => a = #[(.int p0), (.long p1), (.int p2), (.long p3), (.int p4)] ∧ Z.Warmed39 U.vm ∧ U.heap = h0) (fun _ _ _ _ _ => True) (fun _ U o U' => ∃ v L, o = .returned v ∧ Q0 Z  h0 n0 v U'.heap L ∧ FrameEnd U o U' L 16 128) := by
  refine MetFree.of_bodySF (plainFor_of_name pn_0) hisR ?_
  intro p e s m args below meth c s₁ Bd hml0 hP hK
  obtain ⟨rfl, hZ, hh⟩ := hP
  have hx := Bd.exec
  have hby := Bd.bytes
  have hml : c.maxLocals = 17 := hml0
  have hown : s.vm.findClass "com/example/allsome/allsome/cypher/SelectorEqualsPinLaw" = some m.cls := findClass_of_methodNamed Bd.named
  have hnm := (name_of_methodNamed Bd.named Bd.method).1
  have X0 : Stand p l e room_1 s m #[(.int p0), (.long p1), (.int p2), (.long p3), (.int p4)] below meth c s₁ [] 0 0 := Stand.of_body Bd
  have e0 : s₁.heap = h0 := by rw [← hh, Bd.state]; rfl
  have N0 := Fr.nil n0
  refine own_go (own_lift (fun t k => castTop (ef_rm0_C m p0 p1 p2 p3 p4) k) ?_)
  show own_Go p.tables e below (s₁.setTop (mkF m 0 #[iv p0, jv p1, .second, iv p2, jv p3, .second, iv p4, .unset, .unset, .unset, .unset, .unset, .unset, .unset, .unset, .unset, .unset] [])) _
  have sg1 : ∀ t, Steps p.tables e below (s₁.setTop (mkF m 6 #[iv p0, jv p1, .second, iv p2, jv p3, .second, iv p4, iv (p0 &&& (7 : Int32)), .unset, .unset, .unset, .unset, .unset, .unset, .unset, .unset, .unset] [])) t → Steps p.tables e below (s₁.setTop (mkF m 0 #[iv p0, jv p1, .second, iv p2, jv p3, .second, iv p4, .unset, .unset, .unset, .unset, .unset, .unset, .unset, .unset, .unset, .unset] [])) t := by
    intro t k
    refine XS.iloadN X0.here hx rfl (hb hby at_0) rfl ?_
    show Steps p.tables e below (s₁.setTop (mkF m 1 #[iv p0, jv p1, .second, iv p2, jv p3, .second, iv p4, .unset, .unset, .unset, .unset, .unset, .unset, .unset, .unset, .unset, .unset] [(.int p0)])) _
    refine XS.bipush X0.here hx rfl (hb hby at_1) ?_
    show Steps p.tables e below (s₁.setTop (mkF m 3 #[iv p0, jv p1, .second, iv p2, jv p3, .second, iv p4, .unset, .unset, .unset, .unset, .unset, .unset, .unset, .unset, .unset, .unset] [(.int 7), (.int p0)])) _
    refine XS.iand X0.here hx rfl (hb hby at_3) rfl ?_
    show Steps p.tables e below (s₁.setTop (mkF m 4 #[iv p0, jv p1, .second, iv p2, jv p3, .second, iv p4, .unset, .unset, .unset, .unset, .unset, .unset, .unset, .unset, .unset, .unset] [(.int (p0 &&& (7 : Int32)))])) _
    refine XS.istore X0.here hx rfl (hb hby at_4) rfl (l' := #[iv p0, jv p1, .second, iv p2, jv p3, .second, iv p4, iv (p0 &&& (7 : Int32)), .unset, .unset, .unset, .unset, .unset, .unset, .unset, .unset, .unset]) rfl ?_
    show Steps p.tables e below (s₁.setTop (mkF m 6 #[iv p0, jv p1, .second, iv p2, jv p3, .second, iv p4, iv (p0 &&& (7 : Int32)), .unset, .unset, .unset, .unset, .unset, .unset, .unset, .unset, .unset] [])) _
    exact k
  refine own_lift sg1 ?_
  show own_Go p.tables e below (s₁.setTop (mkF m 6 #[iv p0, jv p1, .second, iv p2, jv p3, .second, iv p4, iv (p0 &&& (7 : Int32)), .unset, .unset, .unset, .unset, .unset, .unset, .unset, .unset, .unset] [])) _
  have join2 : ∀ (T2 : State) (locs2 : List Loc), Stand p l e room_1 s m #[(.int p0), (.long p1), (.int p2), (.long p3), (.int p4)] below meth c T2 locs2 0 0 → T2.heap = h0 → Fr n0 locs2 → own_Go p.tables e below (T2.setTop (mkF m 22 #[iv p0, jv p1, .second, iv p2, jv p3, .second, iv p4, iv (p0 &&& (7 : Int32)), .unset, .unset, .unset, .unset, .unset, .unset, .unset, .unset, .unset] [(.int (own_ib p0 p2 p4))])) (fun s₂ o => s₂.status = .running ∧ Ended s₂ below o ∧ ∃ v L, o = .returned v ∧ Q0 Z  h0 n0 v s₂.heap L ∧ FrameEnd s o s₂ L 16 128) := by
    intro T2 locs2 X2 e2 N2
    have sg3 : ∀ t, Steps p.tables e below (T2.setTop (mkF m 24 #[iv p0, jv p1, .second, iv p2, jv p3, .second, iv p4, iv (p0 &&& (7 : Int32)), iv (own_ib p0 p2 p4), .unset, .unset, .unset, .unset, .unset, .unset, .unset, .unset] [])) t → Steps p.tables e below (T2.setTop (mkF m 22 #[iv p0, jv p1, .second, iv p2, jv p3, .second, iv p4, iv (p0 &&& (7 : Int32)), .unset, .unset, .unset, .unset, .unset, .unset, .unset, .unset, .unset] [(.int (own_ib p0 p2 p4))])) t := by
      intro t k
      refine XS.istore X2.here hx rfl (hb hby at_22) rfl (l' := #[iv p0, jv p1, .second, iv p2, jv p3, .second, iv p4, iv (p0 &&& (7 : Int32)), iv (own_ib p0 p2 p4), .unset, .unset, .unset, .unset, .unset, .unset, .unset, .unset]) rfl ?_
      show Steps p.tables e below (T2.setTop (mkF m 24 #[iv p0, jv p1, .second, iv p2, jv p3, .second, iv p4, iv (p0 &&& (7 : Int32)), iv (own_ib p0 p2 p4), .unset, .unset, .unset, .unset, .unset, .unset, .unset, .unset] [])) _
      exact k
    refine own_lift sg3 ?_
    show own_Go p.tables e below (T2.setTop (mkF m 24 #[iv p0, jv p1, .second, iv p2, jv p3, .second, iv p4, iv (p0 &&& (7 : Int32)), iv (own_ib p0 p2 p4), .unset, .unset, .unset, .unset, .unset, .unset, .unset, .unset] [])) _
    have join4 : ∀ (T4 : State) (locs4 : List Loc), Stand p l e room_1 s m #[(.int p0), (.long p1), (.int p2), (.long p3), (.int p4)] below meth c T4 locs4 0 0 → T4.heap = h0 → Fr n0 locs4 → own_Go p.tables e below (T4.setTop (mkF m 37 #[iv p0, jv p1, .second, iv p2, jv p3, .second, iv p4, iv (p0 &&& (7 : Int32)), iv (own_ib p0 p2 p4), .unset, .unset, .unset, .unset, .unset, .unset, .unset, .unset] [(.long (own_cb p1 p3 p4))])) (fun s₂ o => s₂.status = .running ∧ Ended s₂ below o ∧ ∃ v L, o = .returned v ∧ Q0 Z  h0 n0 v s₂.heap L ∧ FrameEnd s o s₂ L 16 128) := by
      intro T4 locs4 X4 e4 N4
      have sg5 : ∀ t, Steps p.tables e below (T4.setTop (mkF m 39 #[iv p0, jv p1, .second, iv p2, jv p3, .second, iv p4, iv (p0 &&& (7 : Int32)), iv (own_ib p0 p2 p4), jv (own_cb p1 p3 p4), .second, .unset, .unset, .unset, .unset, .unset, .unset] [])) t → Steps p.tables e below (T4.setTop (mkF m 37 #[iv p0, jv p1, .second, iv p2, jv p3, .second, iv p4, iv (p0 &&& (7 : Int32)), iv (own_ib p0 p2 p4), .unset, .unset, .unset, .unset, .unset, .unset, .unset, .unset] [(.long (own_cb p1 p3 p4))])) t := by
        intro t k
        refine XS.lstore X4.here hx rfl (hb hby at_37) rfl (l' := #[iv p0, jv p1, .second, iv p2, jv p3, .second, iv p4, iv (p0 &&& (7 : Int32)), iv (own_ib p0 p2 p4), jv (own_cb p1 p3 p4), .second, .unset, .unset, .unset, .unset, .unset, .unset]) rfl ?_
        show Steps p.tables e below (T4.setTop (mkF m 39 #[iv p0, jv p1, .second, iv p2, jv p3, .second, iv p4, iv (p0 &&& (7 : Int32)), iv (own_ib p0 p2 p4), jv (own_cb p1 p3 p4), .second, .unset, .unset, .unset, .unset, .unset, .unset] [])) _
        exact k
      refine own_lift sg5 ?_
      show own_Go p.tables e below (T4.setTop (mkF m 39 #[iv p0, jv p1, .second, iv p2, jv p3, .second, iv p4, iv (p0 &&& (7 : Int32)), iv (own_ib p0 p2 p4), jv (own_cb p1 p3 p4), .second, .unset, .unset, .unset, .unset, .unset, .unset] [])) _
      obtain ⟨T6, h6, X6, e6, Ex6, Ax6, Dx6, Ux6, st6⟩ := newO X4 hx hZ hown (wd hw 0 rfl) (wd hw 1 rfl) (wd hw 2 rfl) e4 (g := (mkF m 39 #[iv p0, jv p1, .second, iv p2, jv p3, .second, iv p4, iv (p0 &&& (7 : Int32)), iv (own_ib p0 p2 p4), jv (own_cb p1 p3 p4), .second, .unset, .unset, .unset, .unset, .unset, .unset] [])) rfl (hb hby at_39) (by decide) (by decide)
      obtain ⟨ob6, g6⟩ : ∃ z, z = h0.size := ⟨_, rfl⟩
      rw [← g6] at Ax6 Dx6 Ux6 st6
      have ne7 : as_SHORTEST_PATH ≠ ob6 := Nat.ne_of_lt (Nat.lt_of_lt_of_le O_SHORTEST_PATH.lt (Nat.le_of_eq g6.symm))
      have ne8 : as_ALL_SHORTEST_PATHS ≠ ob6 := Nat.ne_of_lt (Nat.lt_of_lt_of_le O_ALL_SHORTEST_PATHS.lt (Nat.le_of_eq g6.symm))
      have ne9 : as_ANY_SHORTEST ≠ ob6 := Nat.ne_of_lt (Nat.lt_of_lt_of_le O_ANY_SHORTEST.lt (Nat.le_of_eq g6.symm))
      have ne10 : as_ALL_SHORTEST ≠ ob6 := Nat.ne_of_lt (Nat.lt_of_lt_of_le O_ALL_SHORTEST.lt (Nat.le_of_eq g6.symm))
      have ne11 : as_ANY ≠ ob6 := Nat.ne_of_lt (Nat.lt_of_lt_of_le O_ANY.lt (Nat.le_of_eq g6.symm))
      have ne12 : as_ALL ≠ ob6 := Nat.ne_of_lt (Nat.lt_of_lt_of_le O_ALL.lt (Nat.le_of_eq g6.symm))
      have ne13 : as_SHORTEST ≠ ob6 := Nat.ne_of_lt (Nat.lt_of_lt_of_le O_SHORTEST.lt (Nat.le_of_eq g6.symm))
      have ne14 : as_SHORTEST_GROUPS ≠ ob6 := Nat.ne_of_lt (Nat.lt_of_lt_of_le O_SHORTEST_GROUPS.lt (Nat.le_of_eq g6.symm))
      have ne15 : ca ≠ ob6 := Nat.ne_of_lt (Nat.lt_of_lt_of_le A1.lt (Nat.le_of_eq g6.symm))
      have Z6 : n0 ≤ h6.size := Nat.le_trans Z0 Ex6.1
      have ge6 : n0 ≤ ob6 := Nat.le_trans Z0 (Nat.le_of_eq g6.symm)
      have Fn6_17 : Fld Z h6 ob6 "com/example/allsome/allsome/cypher/PathPattern$Selector" "kind" "Lcom/example/allsome/allsome/cypher/PathPattern$Selector$Kind;" .null := Dx6 (Or.inr (wd hw 17 rfl)) (ty := (.object "com/example/allsome/allsome/cypher/PathPattern$Selector$Kind")) (by decide)
      have Fn6_19 : Fld Z h6 ob6 "com/example/allsome/allsome/cypher/PathPattern$Selector" "count" "J" (.long 0) := Dx6 (Or.inr (wd hw 19 rfl)) (ty := .long) (by decide)
      refine own_lift st6 ?_
      show own_Go p.tables e below (T6.setTop (mkF m 42 #[iv p0, jv p1, .second, iv p2, jv p3, .second, iv p4, iv (p0 &&& (7 : Int32)), iv (own_ib p0 p2 p4), jv (own_cb p1 p3 p4), .second, .unset, .unset, .unset, .unset, .unset, .unset] [(.ref ob6)])) _
      have sg16 : ∀ t, Steps p.tables e below (T6.setTop (mkF m 45 #[iv p0, jv p1, .second, iv p2, jv p3, .second, iv p4, iv (p0 &&& (7 : Int32)), iv (own_ib p0 p2 p4), jv (own_cb p1 p3 p4), .second, .unset, .unset, .unset, .unset, .unset, .unset] [(.int (p0 &&& (7 : Int32))), (.ref ob6), (.ref ob6)])) t → Steps p.tables e below (T6.setTop (mkF m 42 #[iv p0, jv p1, .second, iv p2, jv p3, .second, iv p4, iv (p0 &&& (7 : Int32)), iv (own_ib p0 p2 p4), jv (own_cb p1 p3 p4), .second, .unset, .unset, .unset, .unset, .unset, .unset] [(.ref ob6)])) t := by
        intro t k
        refine XS.dup X6.here hx rfl (hb hby at_42) rfl rfl ?_
        show Steps p.tables e below (T6.setTop (mkF m 43 #[iv p0, jv p1, .second, iv p2, jv p3, .second, iv p4, iv (p0 &&& (7 : Int32)), iv (own_ib p0 p2 p4), jv (own_cb p1 p3 p4), .second, .unset, .unset, .unset, .unset, .unset, .unset] [(.ref ob6), (.ref ob6)])) _
        refine XS.iload X6.here hx rfl (hb hby at_43) rfl ?_
        show Steps p.tables e below (T6.setTop (mkF m 45 #[iv p0, jv p1, .second, iv p2, jv p3, .second, iv p4, iv (p0 &&& (7 : Int32)), iv (own_ib p0 p2 p4), jv (own_cb p1 p3 p4), .second, .unset, .unset, .unset, .unset, .unset, .unset] [(.int (p0 &&& (7 : Int32))), (.ref ob6), (.ref ob6)])) _
        exact k
      refine own_lift sg16 ?_
      show own_Go p.tables e below (T6.setTop (mkF m 45 #[iv p0, jv p1, .second, iv p2, jv p3, .second, iv p4, iv (p0 &&& (7 : Int32)), iv (own_ib p0 p2 p4), jv (own_cb p1 p3 p4), .second, .unset, .unset, .unset, .unset, .unset, .unset] [(.int (p0 &&& (7 : Int32))), (.ref ob6), (.ref ob6)])) _
      have Fc17 : Sta Z h6 "com/example/allsome/allsome/cypher/PathPattern$Selector$Kind" "SHORTEST_PATH" "Lcom/example/allsome/allsome/cypher/PathPattern$Selector$Kind;" (.ref as_SHORTEST_PATH) := (S_SHORTEST_PATH.ext Ex6)
      have Fc18 : Sta Z h6 "com/example/allsome/allsome/cypher/PathPattern$Selector$Kind" "ALL_SHORTEST_PATHS" "Lcom/example/allsome/allsome/cypher/PathPattern$Selector$Kind;" (.ref as_ALL_SHORTEST_PATHS) := (S_ALL_SHORTEST_PATHS.ext Ex6)
      have Fc19 : Sta Z h6 "com/example/allsome/allsome/cypher/PathPattern$Selector$Kind" "ANY_SHORTEST" "Lcom/example/allsome/allsome/cypher/PathPattern$Selector$Kind;" (.ref as_ANY_SHORTEST) := (S_ANY_SHORTEST.ext Ex6)
      have Fc20 : Sta Z h6 "com/example/allsome/allsome/cypher/PathPattern$Selector$Kind" "ALL_SHORTEST" "Lcom/example/allsome/allsome/cypher/PathPattern$Selector$Kind;" (.ref as_ALL_SHORTEST) := (S_ALL_SHORTEST.ext Ex6)
      have Fc21 : Sta Z h6 "com/example/allsome/allsome/cypher/PathPattern$Selector$Kind" "ANY" "Lcom/example/allsome/allsome/cypher/PathPattern$Selector$Kind;" (.ref as_ANY) := (S_ANY.ext Ex6)
      have Fc22 : Sta Z h6 "com/example/allsome/allsome/cypher/PathPattern$Selector$Kind" "ALL" "Lcom/example/allsome/allsome/cypher/PathPattern$Selector$Kind;" (.ref as_ALL) := (S_ALL.ext Ex6)
      have Fc23 : Sta Z h6 "com/example/allsome/allsome/cypher/PathPattern$Selector$Kind" "SHORTEST" "Lcom/example/allsome/allsome/cypher/PathPattern$Selector$Kind;" (.ref as_SHORTEST) := (S_SHORTEST.ext Ex6)
      have Fc24 : Sta Z h6 "com/example/allsome/allsome/cypher/PathPattern$Selector$Kind" "SHORTEST_GROUPS" "Lcom/example/allsome/allsome/cypher/PathPattern$Selector$Kind;" (.ref as_SHORTEST_GROUPS) := (S_SHORTEST_GROUPS.ext Ex6)
      obtain ⟨_, _, ⟨T25, Lx25, kx25, nx25⟩, -, X25, ⟨Lc25, hQ25, lx25, yx25, zx25⟩, st25⟩ := Jvm.LawKit.callS X6 hx (y := (⟨"com/example/allsome/allsome/cypher/SelectorEqualsPinLaw", "kind", "(I)Lcom/example/allsome/allsome/cypher/PathPattern$Selector$Kind;"⟩ : MethodName)) hown (mvT hZ (wd hw 3 rfl)) (mvT hZ (wd hw 4 rfl)) (mvT hZ (wd hw 5 rfl)) (mvT hZ (wd hw 6 rfl)) (by decide) (backOf (W := 2) (rmKind l Z a0 hw [] (p0 &&& (7 : Int32)) as_SHORTEST_PATH as_ALL_SHORTEST_PATHS as_ANY_SHORTEST as_ALL_SHORTEST as_ANY as_ALL as_SHORTEST as_SHORTEST_GROUPS h6 n0 Z6 Fc17 Fc18 Fc19 Fc20 Fc21 Fc22 Fc23 Fc24) hZ (wd hw 6 rfl) (wd hw 5 rfl) (by decide) (by decide)) (g := (mkF m 45 #[iv p0, jv p1, .second, iv p2, jv p3, .second, iv p4, iv (p0 &&& (7 : Int32)), iv (own_ib p0 p2 p4), jv (own_cb p1 p3 p4), .second, .unset, .unset, .unset, .unset, .unset, .unset] [(.int (p0 &&& (7 : Int32))), (.ref ob6), (.ref ob6)])) rfl (by rw [hml]; rfl) (argsL := [(.int (p0 &&& (7 : Int32)))]) (rest := [(.ref ob6), (.ref ob6)]) (lenOf pd_2 rfl) rfl (by show 2 * 0 + _ ≤ _; exact Nat.le_of_eq rfl) (hb hby at_45) (fun _ _ => ⟨rfl, e6, (by decide : 1 + 0 ≤ _), (by decide : 2 + 0 ≤ _)⟩)
      dsimp only [Pt.U, Pt.locs, Pt.cells, Pt.slots] at X25 lx25 yx25 zx25 st25 hQ25
      subst lx25 yx25 zx25
      obtain ⟨rfl, N25q, e25⟩ := hQ25
      have N25 := Fr.app N4 N25q
      refine own_lift st25 ?_
      show own_Go p.tables e below (T25.setTop (mkF m 48 #[iv p0, jv p1, .second, iv p2, jv p3, .second, iv p4, iv (p0 &&& (7 : Int32)), iv (own_ib p0 p2 p4), jv (own_cb p1 p3 p4), .second, .unset, .unset, .unset, .unset, .unset, .unset] [(.ref (own_kind (p0 &&& (7 : Int32)) as_SHORTEST_PATH as_ALL_SHORTEST_PATHS as_ANY_SHORTEST as_ALL_SHORTEST as_ANY as_ALL as_SHORTEST as_SHORTEST_GROUPS)), (.ref ob6), (.ref ob6)])) _
      have sg26 : ∀ t, Steps p.tables e below (T25.setTop (mkF m 49 #[iv p0, jv p1, .second, iv p2, jv p3, .second, iv p4, iv (p0 &&& (7 : Int32)), iv (own_ib p0 p2 p4), jv (own_cb p1 p3 p4), .second, .unset, .unset, .unset, .unset, .unset, .unset] [(.long p1), (.ref (own_kind (p0 &&& (7 : Int32)) as_SHORTEST_PATH as_ALL_SHORTEST_PATHS as_ANY_SHORTEST as_ALL_SHORTEST as_ANY as_ALL as_SHORTEST as_SHORTEST_GROUPS)), (.ref ob6), (.ref ob6)])) t → Steps p.tables e below (T25.setTop (mkF m 48 #[iv p0, jv p1, .second, iv p2, jv p3, .second, iv p4, iv (p0 &&& (7 : Int32)), iv (own_ib p0 p2 p4), jv (own_cb p1 p3 p4), .second, .unset, .unset, .unset, .unset, .unset, .unset] [(.ref (own_kind (p0 &&& (7 : Int32)) as_SHORTEST_PATH as_ALL_SHORTEST_PATHS as_ANY_SHORTEST as_ALL_SHORTEST as_ANY as_ALL as_SHORTEST as_SHORTEST_GROUPS)), (.ref ob6), (.ref ob6)])) t := by
        intro t k
        refine XS.lloadN X25.here hx rfl (hb hby at_48) rfl ?_
        show Steps p.tables e below (T25.setTop (mkF m 49 #[iv p0, jv p1, .second, iv p2, jv p3, .second, iv p4, iv (p0 &&& (7 : Int32)), iv (own_ib p0 p2 p4), jv (own_cb p1 p3 p4), .second, .unset, .unset, .unset, .unset, .unset, .unset] [(.long p1), (.ref (own_kind (p0 &&& (7 : Int32)) as_SHORTEST_PATH as_ALL_SHORTEST_PATHS as_ANY_SHORTEST as_ALL_SHORTEST as_ANY as_ALL as_SHORTEST as_SHORTEST_GROUPS)), (.ref ob6), (.ref ob6)])) _
        exact k
      refine own_lift sg26 ?_
      show own_Go p.tables e below (T25.setTop (mkF m 49 #[iv p0, jv p1, .second, iv p2, jv p3, .second, iv p4, iv (p0 &&& (7 : Int32)), iv (own_ib p0 p2 p4), jv (own_cb p1 p3 p4), .second, .unset, .unset, .unset, .unset, .unset, .unset] [(.long p1), (.ref (own_kind (p0 &&& (7 : Int32)) as_SHORTEST_PATH as_ALL_SHORTEST_PATHS as_ANY_SHORTEST as_ALL_SHORTEST as_ANY as_ALL as_SHORTEST as_SHORTEST_GROUPS)), (.ref ob6), (.ref ob6)])) _
      obtain ⟨_, _, ⟨T27, Lx27, kx27, nx27⟩, -, X27, ⟨Lc27, hQ27, lx27, yx27, zx27⟩, st27⟩ := X25.specialBack hx (y := (⟨"com/example/allsome/allsome/cypher/PathPattern$Selector", "<init>", "(Lcom/example/allsome/allsome/cypher/PathPattern$Selector$Kind;J)V"⟩ : MethodName)) rfl hown (mvT hZ (wd hw 10 rfl)) (mvT hZ (wd hw 11 rfl)) (mvT hZ (wd hw 12 rfl)) (by decide) (backOf (W := 1) (rmInit l Z a0 hw [] ob6 (own_kind (p0 &&& (7 : Int32)) as_SHORTEST_PATH as_ALL_SHORTEST_PATHS as_ANY_SHORTEST as_ALL_SHORTEST as_ANY as_ALL as_SHORTEST as_SHORTEST_GROUPS) p1 h6 n0 Z6 Fn6_17 Fn6_19 Ax6 ge6) hZ (wd hw 12 rfl) (wd hw 2 rfl) (by decide) (by decide)) (g := (mkF m 49 #[iv p0, jv p1, .second, iv p2, jv p3, .second, iv p4, iv (p0 &&& (7 : Int32)), iv (own_ib p0 p2 p4), jv (own_cb p1 p3 p4), .second, .unset, .unset, .unset, .unset, .unset, .unset] [(.long p1), (.ref (own_kind (p0 &&& (7 : Int32)) as_SHORTEST_PATH as_ALL_SHORTEST_PATHS as_ANY_SHORTEST as_ALL_SHORTEST as_ANY as_ALL as_SHORTEST as_SHORTEST_GROUPS)), (.ref ob6), (.ref ob6)])) rfl (by rw [hml]; rfl) (Steps.refl _) (a := ob6) (argsL := [(.ref (own_kind (p0 &&& (7 : Int32)) as_SHORTEST_PATH as_ALL_SHORTEST_PATHS as_ANY_SHORTEST as_ALL_SHORTEST as_ANY as_ALL as_SHORTEST as_SHORTEST_GROUPS)), (.long p1)]) (rest := [(.ref ob6)]) (lenOf pd_3 rfl) rfl (by show 2 * 0 + _ ≤ _; exact Nat.le_of_eq rfl) (hb hby at_49) (fun _ _ => ⟨rfl, e25, (by decide : 1 + 0 ≤ _), (by decide : 2 + 0 ≤ _)⟩)
      dsimp only [Pt.U, Pt.locs, Pt.cells, Pt.slots] at X27 lx27 yx27 zx27 st27 hQ27
      subst lx27 yx27 zx27
      obtain ⟨rfl, N27q, p27_0, p27_1, p27_2, p27_3⟩ := hQ27
      have N27 := Fr.app N25 N27q
      have Z27 : n0 ≤ T27.heap.size := Nat.le_trans Z6 p27_0.1
      refine own_lift (fun t k => st27.trans k) ?_
      show own_Go p.tables e below (T27.setTop (mkF m 52 #[iv p0, jv p1, .second, iv p2, jv p3, .second, iv p4, iv (p0 &&& (7 : Int32)), iv (own_ib p0 p2 p4), jv (own_cb p1 p3 p4), .second, .unset, .unset, .unset, .unset, .unset, .unset] [(.ref ob6)])) _
      have sg28 : ∀ t, Steps p.tables e below (T27.setTop (mkF m 54 #[iv p0, jv p1, .second, iv p2, jv p3, .second, iv p4, iv (p0 &&& (7 : Int32)), iv (own_ib p0 p2 p4), jv (own_cb p1 p3 p4), .second, rv ob6, .unset, .unset, .unset, .unset, .unset] [])) t → Steps p.tables e below (T27.setTop (mkF m 52 #[iv p0, jv p1, .second, iv p2, jv p3, .second, iv p4, iv (p0 &&& (7 : Int32)), iv (own_ib p0 p2 p4), jv (own_cb p1 p3 p4), .second, .unset, .unset, .unset, .unset, .unset, .unset] [(.ref ob6)])) t := by
        intro t k
        refine XS.astore X27.here hx rfl (hb hby at_52) rfl rfl (l' := #[iv p0, jv p1, .second, iv p2, jv p3, .second, iv p4, iv (p0 &&& (7 : Int32)), iv (own_ib p0 p2 p4), jv (own_cb p1 p3 p4), .second, rv ob6, .unset, .unset, .unset, .unset, .unset]) rfl ?_
        show Steps p.tables e below (T27.setTop (mkF m 54 #[iv p0, jv p1, .second, iv p2, jv p3, .second, iv p4, iv (p0 &&& (7 : Int32)), iv (own_ib p0 p2 p4), jv (own_cb p1 p3 p4), .second, rv ob6, .unset, .unset, .unset, .unset, .unset] [])) _
        exact k
      refine own_lift sg28 ?_
      show own_Go p.tables e below (T27.setTop (mkF m 54 #[iv p0, jv p1, .second, iv p2, jv p3, .second, iv p4, iv (p0 &&& (7 : Int32)), iv (own_ib p0 p2 p4), jv (own_cb p1 p3 p4), .second, rv ob6, .unset, .unset, .unset, .unset, .unset] [])) _
      obtain ⟨T29, h29, X29, e29, Ex29, Ax29, Dx29, Ux29, st29⟩ := newO X27 hx hZ hown (wd hw 0 rfl) (wd hw 1 rfl) (wd hw 2 rfl) rfl (g := (mkF m 54 #[iv p0, jv p1, .second, iv p2, jv p3, .second, iv p4, iv (p0 &&& (7 : Int32)), iv (own_ib p0 p2 p4), jv (own_cb p1 p3 p4), .second, rv ob6, .unset, .unset, .unset, .unset, .unset] [])) rfl (hb hby at_54) (by decide) (by decide)
      obtain ⟨ob29, g29⟩ : ∃ z, z = T27.heap.size := ⟨_, rfl⟩
      rw [← g29] at Ax29 Dx29 Ux29 st29
      have Fc30 : Fld Z T27.heap as_SHORTEST_PATH "java/lang/Enum" "ordinal" "I" (.int 0) := ((O_SHORTEST_PATH.ext Ex6).keep p27_0 (ninS ne7 nin0))
      have ne31 : as_SHORTEST_PATH ≠ ob29 := Nat.ne_of_lt (Nat.lt_of_lt_of_le Fc30.lt (Nat.le_of_eq g29.symm))
      have Fc32 : Fld Z T27.heap as_ALL_SHORTEST_PATHS "java/lang/Enum" "ordinal" "I" (.int 1) := ((O_ALL_SHORTEST_PATHS.ext Ex6).keep p27_0 (ninS ne8 nin0))
      have ne33 : as_ALL_SHORTEST_PATHS ≠ ob29 := Nat.ne_of_lt (Nat.lt_of_lt_of_le Fc32.lt (Nat.le_of_eq g29.symm))
      have Fc34 : Fld Z T27.heap as_ANY_SHORTEST "java/lang/Enum" "ordinal" "I" (.int 2) := ((O_ANY_SHORTEST.ext Ex6).keep p27_0 (ninS ne9 nin0))
      have ne35 : as_ANY_SHORTEST ≠ ob29 := Nat.ne_of_lt (Nat.lt_of_lt_of_le Fc34.lt (Nat.le_of_eq g29.symm))
      have Fc36 : Fld Z T27.heap as_ALL_SHORTEST "java/lang/Enum" "ordinal" "I" (.int 3) := ((O_ALL_SHORTEST.ext Ex6).keep p27_0 (ninS ne10 nin0))
      have ne37 : as_ALL_SHORTEST ≠ ob29 := Nat.ne_of_lt (Nat.lt_of_lt_of_le Fc36.lt (Nat.le_of_eq g29.symm))
      have Fc38 : Fld Z T27.heap as_ANY "java/lang/Enum" "ordinal" "I" (.int 4) := ((O_ANY.ext Ex6).keep p27_0 (ninS ne11 nin0))
      have ne39 : as_ANY ≠ ob29 := Nat.ne_of_lt (Nat.lt_of_lt_of_le Fc38.lt (Nat.le_of_eq g29.symm))
      have Fc40 : Fld Z T27.heap as_ALL "java/lang/Enum" "ordinal" "I" (.int 5) := ((O_ALL.ext Ex6).keep p27_0 (ninS ne12 nin0))
      have ne41 : as_ALL ≠ ob29 := Nat.ne_of_lt (Nat.lt_of_lt_of_le Fc40.lt (Nat.le_of_eq g29.symm))
      have Fc42 : Fld Z T27.heap as_SHORTEST "java/lang/Enum" "ordinal" "I" (.int 6) := ((O_SHORTEST.ext Ex6).keep p27_0 (ninS ne13 nin0))
      have ne43 : as_SHORTEST ≠ ob29 := Nat.ne_of_lt (Nat.lt_of_lt_of_le Fc42.lt (Nat.le_of_eq g29.symm))
      have Fc44 : Fld Z T27.heap as_SHORTEST_GROUPS "java/lang/Enum" "ordinal" "I" (.int 7) := ((O_SHORTEST_GROUPS.ext Ex6).keep p27_0 (ninS ne14 nin0))
      have ne45 : as_SHORTEST_GROUPS ≠ ob29 := Nat.ne_of_lt (Nat.lt_of_lt_of_le Fc44.lt (Nat.le_of_eq g29.symm))
      have Fc46 : Arr Z T27.heap ca cc (.object "java/lang/Long") := (own_Arr_keep (A1.ext Ex6) p27_0 (ninS ne15 nin0))
      have ne47 : ca ≠ ob29 := Nat.ne_of_lt (Nat.lt_of_lt_of_le Fc46.lt (Nat.le_of_eq g29.symm))
      have ne48 : ob6 ≠ ob29 := Nat.ne_of_lt (Nat.lt_of_lt_of_le p27_1.lt (Nat.le_of_eq g29.symm))
      have Z29 : n0 ≤ h29.size := Nat.le_trans Z27 Ex29.1
      have ge29 : n0 ≤ ob29 := Nat.le_trans Z27 (Nat.le_of_eq g29.symm)
      have Fn29_17 : Fld Z h29 ob29 "com/example/allsome/allsome/cypher/PathPattern$Selector" "kind" "Lcom/example/allsome/allsome/cypher/PathPattern$Selector$Kind;" .null := Dx29 (Or.inr (wd hw 17 rfl)) (ty := (.object "com/example/allsome/allsome/cypher/PathPattern$Selector$Kind")) (by decide)
      have Fn29_19 : Fld Z h29 ob29 "com/example/allsome/allsome/cypher/PathPattern$Selector" "count" "J" (.long 0) := Dx29 (Or.inr (wd hw 19 rfl)) (ty := .long) (by decide)
      refine own_lift st29 ?_
      show own_Go p.tables e below (T29.setTop (mkF m 57 #[iv p0, jv p1, .second, iv p2, jv p3, .second, iv p4, iv (p0 &&& (7 : Int32)), iv (own_ib p0 p2 p4), jv (own_cb p1 p3 p4), .second, rv ob6, .unset, .unset, .unset, .unset, .unset] [(.ref ob29)])) _
      have sg49 : ∀ t, Steps p.tables e below (T29.setTop (mkF m 60 #[iv p0, jv p1, .second, iv p2, jv p3, .second, iv p4, iv (p0 &&& (7 : Int32)), iv (own_ib p0 p2 p4), jv (own_cb p1 p3 p4), .second, rv ob6, .unset, .unset, .unset, .unset, .unset] [(.int (own_ib p0 p2 p4)), (.ref ob29), (.ref ob29)])) t → Steps p.tables e below (T29.setTop (mkF m 57 #[iv p0, jv p1, .second, iv p2, jv p3, .second, iv p4, iv (p0 &&& (7 : Int32)), iv (own_ib p0 p2 p4), jv (own_cb p1 p3 p4), .second, rv ob6, .unset, .unset, .unset, .unset, .unset] [(.ref ob29)])) t := by
        intro t k
        refine XS.dup X29.here hx rfl (hb hby at_57) rfl rfl ?_
        show Steps p.tables e below (T29.setTop (mkF m 58 #[iv p0, jv p1, .second, iv p2, jv p3, .second, iv p4, iv (p0 &&& (7 : Int32)), iv (own_ib p0 p2 p4), jv (own_cb p1 p3 p4), .second, rv ob6, .unset, .unset, .unset, .unset, .unset] [(.ref ob29), (.ref ob29)])) _
        refine XS.iload X29.here hx rfl (hb hby at_58) rfl ?_
        show Steps p.tables e below (T29.setTop (mkF m 60 #[iv p0, jv p1, .second, iv p2, jv p3, .second, iv p4, iv (p0 &&& (7 : Int32)), iv (own_ib p0 p2 p4), jv (own_cb p1 p3 p4), .second, rv ob6, .unset, .unset, .unset, .unset, .unset] [(.int (own_ib p0 p2 p4)), (.ref ob29), (.ref ob29)])) _
        exact k
      refine own_lift sg49 ?_
      show own_Go p.tables e below (T29.setTop (mkF m 60 #[iv p0, jv p1, .second, iv p2, jv p3, .second, iv p4, iv (p0 &&& (7 : Int32)), iv (own_ib p0 p2 p4), jv (own_cb p1 p3 p4), .second, rv ob6, .unset, .unset, .unset, .unset, .unset] [(.int (own_ib p0 p2 p4)), (.ref ob29), (.ref ob29)])) _
      have Fc50 : Sta Z h29 "com/example/allsome/allsome/cypher/PathPattern$Selector$Kind" "SHORTEST_PATH" "Lcom/example/allsome/allsome/cypher/PathPattern$Selector$Kind;" (.ref as_SHORTEST_PATH) := ((own_Sta_keep Fc17 p27_0 (allS (own_plain Ax6) all0)).ext Ex29)
      have Fc51 : Sta Z h29 "com/example/allsome/allsome/cypher/PathPattern$Selector$Kind" "ALL_SHORTEST_PATHS" "Lcom/example/allsome/allsome/cypher/PathPattern$Selector$Kind;" (.ref as_ALL_SHORTEST_PATHS) := ((own_Sta_keep Fc18 p27_0 (allS (own_plain Ax6) all0)).ext Ex29)
      have Fc52 : Sta Z h29 "com/example/allsome/allsome/cypher/PathPattern$Selector$Kind" "ANY_SHORTEST" "Lcom/example/allsome/allsome/cypher/PathPattern$Selector$Kind;" (.ref as_ANY_SHORTEST) := ((own_Sta_keep Fc19 p27_0 (allS (own_plain Ax6) all0)).ext Ex29)
      have Fc53 : Sta Z h29 "com/example/allsome/allsome/cypher/PathPattern$Selector$Kind" "ALL_SHORTEST" "Lcom/example/allsome/allsome/cypher/PathPattern$Selector$Kind;" (.ref as_ALL_SHORTEST) := ((own_Sta_keep Fc20 p27_0 (allS (own_plain Ax6) all0)).ext Ex29)
      have Fc54 : Sta Z h29 "com/example/allsome/allsome/cypher/PathPattern$Selector$Kind" "ANY" "Lcom/example/allsome/allsome/cypher/PathPattern$Selector$Kind;" (.ref as_ANY) := ((own_Sta_keep Fc21 p27_0 (allS (own_plain Ax6) all0)).ext Ex29)
      have Fc55 : Sta Z h29 "com/example/allsome/allsome/cypher/PathPattern$Selector$Kind" "ALL" "Lcom/example/allsome/allsome/cypher/PathPattern$Selector$Kind;" (.ref as_ALL) := ((own_Sta_keep Fc22 p27_0 (allS (own_plain Ax6) all0)).ext Ex29)
      have Fc56 : Sta Z h29 "com/example/allsome/allsome/cypher/PathPattern$Selector$Kind" "SHORTEST" "Lcom/example/allsome/allsome/cypher/PathPattern$Selector$Kind;" (.ref as_SHORTEST) := ((own_Sta_keep Fc23 p27_0 (allS (own_plain Ax6) all0)).ext Ex29)
      have Fc57 : Sta Z h29 "com/example/allsome/allsome/cypher/PathPattern$Selector$Kind" "SHORTEST_GROUPS" "Lcom/example/allsome/allsome/cypher/PathPattern$Selector$Kind;" (.ref as_SHORTEST_GROUPS) := ((own_Sta_keep Fc24 p27_0 (allS (own_plain Ax6) all0)).ext Ex29)
      obtain ⟨_, _, ⟨T58, Lx58, kx58, nx58⟩, -, X58, ⟨Lc58, hQ58, lx58, yx58, zx58⟩, st58⟩ := Jvm.LawKit.callS X29 hx (y := (⟨"com/example/allsome/allsome/cypher/SelectorEqualsPinLaw", "kind", "(I)Lcom/example/allsome/allsome/cypher/PathPattern$Selector$Kind;"⟩ : MethodName)) hown (mvT hZ (wd hw 3 rfl)) (mvT hZ (wd hw 4 rfl)) (mvT hZ (wd hw 5 rfl)) (mvT hZ (wd hw 6 rfl)) (by decide) (backOf (W := 2) (rmKind l Z a0 hw [] (own_ib p0 p2 p4) as_SHORTEST_PATH as_ALL_SHORTEST_PATHS as_ANY_SHORTEST as_ALL_SHORTEST as_ANY as_ALL as_SHORTEST as_SHORTEST_GROUPS h29 n0 Z29 Fc50 Fc51 Fc52 Fc53 Fc54 Fc55 Fc56 Fc57) hZ (wd hw 6 rfl) (wd hw 5 rfl) (by decide) (by decide)) (g := (mkF m 60 #[iv p0, jv p1, .second, iv p2, jv p3, .second, iv p4, iv (p0 &&& (7 : Int32)), iv (own_ib p0 p2 p4), jv (own_cb p1 p3 p4), .second, rv ob6, .unset, .unset, .unset, .unset, .unset] [(.int (own_ib p0 p2 p4)), (.ref ob29), (.ref ob29)])) rfl (by rw [hml]; rfl) (argsL := [(.int (own_ib p0 p2 p4))]) (rest := [(.ref ob29), (.ref ob29)]) (lenOf pd_2 rfl) rfl (by show 2 * 0 + _ ≤ _; exact Nat.le_of_eq rfl) (hb hby at_60) (fun _ _ => ⟨rfl, e29, (by decide : 2 + 0 ≤ _), (by decide : 4 + 0 ≤ _)⟩)
      dsimp only [Pt.U, Pt.locs, Pt.cells, Pt.slots] at X58 lx58 yx58 zx58 st58 hQ58
      subst lx58 yx58 zx58
      obtain ⟨rfl, N58q, e58⟩ := hQ58
      have N58 := Fr.app N27 N58q
      refine own_lift st58 ?_
      show own_Go p.tables e below (T58.setTop (mkF m 63 #[iv p0, jv p1, .second, iv p2, jv p3, .second, iv p4, iv (p0 &&& (7 : Int32)), iv (own_ib p0 p2 p4), jv (own_cb p1 p3 p4), .second, rv ob6, .unset, .unset, .unset, .unset, .unset] [(.ref (own_kind (own_ib p0 p2 p4) as_SHORTEST_PATH as_ALL_SHORTEST_PATHS as_ANY_SHORTEST as_ALL_SHORTEST as_ANY as_ALL as_SHORTEST as_SHORTEST_GROUPS)), (.ref ob29), (.ref ob29)])) _
      have sg59 : ∀ t, Steps p.tables e below (T58.setTop (mkF m 65 #[iv p0, jv p1, .second, iv p2, jv p3, .second, iv p4, iv (p0 &&& (7 : Int32)), iv (own_ib p0 p2 p4), jv (own_cb p1 p3 p4), .second, rv ob6, .unset, .unset, .unset, .unset, .unset] [(.long (own_cb p1 p3 p4)), (.ref (own_kind (own_ib p0 p2 p4) as_SHORTEST_PATH as_ALL_SHORTEST_PATHS as_ANY_SHORTEST as_ALL_SHORTEST as_ANY as_ALL as_SHORTEST as_SHORTEST_GROUPS)), (.ref ob29), (.ref ob29)])) t → Steps p.tables e below (T58.setTop (mkF m 63 #[iv p0, jv p1, .second, iv p2, jv p3, .second, iv p4, iv (p0 &&& (7 : Int32)), iv (own_ib p0 p2 p4), jv (own_cb p1 p3 p4), .second, rv ob6, .unset, .unset, .unset, .unset, .unset] [(.ref (own_kind (own_ib p0 p2 p4) as_SHORTEST_PATH as_ALL_SHORTEST_PATHS as_ANY_SHORTEST as_ALL_SHORTEST as_ANY as_ALL as_SHORTEST as_SHORTEST_GROUPS)), (.ref ob29), (.ref ob29)])) t := by
        intro t k
        refine XS.lload X58.here hx rfl (hb hby at_63) rfl ?_
        show Steps p.tables e below (T58.setTop (mkF m 65 #[iv p0, jv p1, .second, iv p2, jv p3, .second, iv p4, iv (p0 &&& (7 : Int32)), iv (own_ib p0 p2 p4), jv (own_cb p1 p3 p4), .second, rv ob6, .unset, .unset, .unset, .unset, .unset] [(.long (own_cb p1 p3 p4)), (.ref (own_kind (own_ib p0 p2 p4) as_SHORTEST_PATH as_ALL_SHORTEST_PATHS as_ANY_SHORTEST as_ALL_SHORTEST as_ANY as_ALL as_SHORTEST as_SHORTEST_GROUPS)), (.ref ob29), (.ref ob29)])) _
        exact k
      refine own_lift sg59 ?_
      show own_Go p.tables e below (T58.setTop (mkF m 65 #[iv p0, jv p1, .second, iv p2, jv p3, .second, iv p4, iv (p0 &&& (7 : Int32)), iv (own_ib p0 p2 p4), jv (own_cb p1 p3 p4), .second, rv ob6, .unset, .unset, .unset, .unset, .unset] [(.long (own_cb p1 p3 p4)), (.ref (own_kind (own_ib p0 p2 p4) as_SHORTEST_PATH as_ALL_SHORTEST_PATHS as_ANY_SHORTEST as_ALL_SHORTEST as_ANY as_ALL as_SHORTEST as_SHORTEST_GROUPS)), (.ref ob29), (.ref ob29)])) _
      obtain ⟨_, _, ⟨T60, Lx60, kx60, nx60⟩, -, X60, ⟨Lc60, hQ60, lx60, yx60, zx60⟩, st60⟩ := X58.specialBack hx (y := (⟨"com/example/allsome/allsome/cypher/PathPattern$Selector", "<init>", "(Lcom/example/allsome/allsome/cypher/PathPattern$Selector$Kind;J)V"⟩ : MethodName)) rfl hown (mvT hZ (wd hw 10 rfl)) (mvT hZ (wd hw 11 rfl)) (mvT hZ (wd hw 12 rfl)) (by decide) (backOf (W := 1) (rmInit l Z a0 hw [] ob29 (own_kind (own_ib p0 p2 p4) as_SHORTEST_PATH as_ALL_SHORTEST_PATHS as_ANY_SHORTEST as_ALL_SHORTEST as_ANY as_ALL as_SHORTEST as_SHORTEST_GROUPS) (own_cb p1 p3 p4) h29 n0 Z29 Fn29_17 Fn29_19 Ax29 ge29) hZ (wd hw 12 rfl) (wd hw 2 rfl) (by decide) (by decide)) (g := (mkF m 65 #[iv p0, jv p1, .second, iv p2, jv p3, .second, iv p4, iv (p0 &&& (7 : Int32)), iv (own_ib p0 p2 p4), jv (own_cb p1 p3 p4), .second, rv ob6, .unset, .unset, .unset, .unset, .unset] [(.long (own_cb p1 p3 p4)), (.ref (own_kind (own_ib p0 p2 p4) as_SHORTEST_PATH as_ALL_SHORTEST_PATHS as_ANY_SHORTEST as_ALL_SHORTEST as_ANY as_ALL as_SHORTEST as_SHORTEST_GROUPS)), (.ref ob29), (.ref ob29)])) rfl (by rw [hml]; rfl) (Steps.refl _) (a := ob29) (argsL := [(.ref (own_kind (own_ib p0 p2 p4) as_SHORTEST_PATH as_ALL_SHORTEST_PATHS as_ANY_SHORTEST as_ALL_SHORTEST as_ANY as_ALL as_SHORTEST as_SHORTEST_GROUPS)), (.long (own_cb p1 p3 p4))]) (rest := [(.ref ob29)]) (lenOf pd_3 rfl) rfl (by show 2 * 0 + _ ≤ _; exact Nat.le_of_eq rfl) (hb hby at_65) (fun _ _ => ⟨rfl, e58, (by decide : 2 + 0 ≤ _), (by decide : 4 + 0 ≤ _)⟩)
      dsimp only [Pt.U, Pt.locs, Pt.cells, Pt.slots] at X60 lx60 yx60 zx60 st60 hQ60
      subst lx60 yx60 zx60
      obtain ⟨rfl, N60q, p60_0, p60_1, p60_2, p60_3⟩ := hQ60
      have N60 := Fr.app N58 N60q
      have Z60 : n0 ≤ T60.heap.size := Nat.le_trans Z29 p60_0.1
      refine own_lift (fun t k => st60.trans k) ?_
      show own_Go p.tables e below (T60.setTop (mkF m 68 #[iv p0, jv p1, .second, iv p2, jv p3, .second, iv p4, iv (p0 &&& (7 : Int32)), iv (own_ib p0 p2 p4), jv (own_cb p1 p3 p4), .second, rv ob6, .unset, .unset, .unset, .unset, .unset] [(.ref ob29)])) _
      have sg61 : ∀ t, Steps p.tables e below (T60.setTop (mkF m 71 #[iv p0, jv p1, .second, iv p2, jv p3, .second, iv p4, iv (p0 &&& (7 : Int32)), iv (own_ib p0 p2 p4), jv (own_cb p1 p3 p4), .second, rv ob6, rv ob29, .unset, .unset, .unset, .unset] [(.long p1)])) t → Steps p.tables e below (T60.setTop (mkF m 68 #[iv p0, jv p1, .second, iv p2, jv p3, .second, iv p4, iv (p0 &&& (7 : Int32)), iv (own_ib p0 p2 p4), jv (own_cb p1 p3 p4), .second, rv ob6, .unset, .unset, .unset, .unset, .unset] [(.ref ob29)])) t := by
        intro t k
        refine XS.astore X60.here hx rfl (hb hby at_68) rfl rfl (l' := #[iv p0, jv p1, .second, iv p2, jv p3, .second, iv p4, iv (p0 &&& (7 : Int32)), iv (own_ib p0 p2 p4), jv (own_cb p1 p3 p4), .second, rv ob6, rv ob29, .unset, .unset, .unset, .unset]) rfl ?_
        show Steps p.tables e below (T60.setTop (mkF m 70 #[iv p0, jv p1, .second, iv p2, jv p3, .second, iv p4, iv (p0 &&& (7 : Int32)), iv (own_ib p0 p2 p4), jv (own_cb p1 p3 p4), .second, rv ob6, rv ob29, .unset, .unset, .unset, .unset] [])) _
        refine XS.lloadN X60.here hx rfl (hb hby at_70) rfl ?_
        show Steps p.tables e below (T60.setTop (mkF m 71 #[iv p0, jv p1, .second, iv p2, jv p3, .second, iv p4, iv (p0 &&& (7 : Int32)), iv (own_ib p0 p2 p4), jv (own_cb p1 p3 p4), .second, rv ob6, rv ob29, .unset, .unset, .unset, .unset] [(.long p1)])) _
        exact k
      refine own_lift sg61 ?_
      show own_Go p.tables e below (T60.setTop (mkF m 71 #[iv p0, jv p1, .second, iv p2, jv p3, .second, iv p4, iv (p0 &&& (7 : Int32)), iv (own_ib p0 p2 p4), jv (own_cb p1 p3 p4), .second, rv ob6, rv ob29, .unset, .unset, .unset, .unset] [(.long p1)])) _
      have Fc62 : Sta Z T60.heap "java/lang/Long$LongCache" "cache" "[Ljava/lang/Long;" (.ref ca) := (own_Sta_keep ((own_Sta_keep (S2.ext Ex6) p27_0 (allS (own_plain Ax6) all0)).ext Ex29) p60_0 (allS (own_plain Ax29) all0))
      have Fc63 : Arr Z T60.heap ca cc (.object "java/lang/Long") := (own_Arr_keep (Fc46.ext Ex29) p60_0 (ninS ne47 nin0))
      have Fc64 : own_Box Z T60.heap "java/lang/Long" cc (¬ (p1 < (-128 : Int64)) ∧ ¬ ((127 : Int64) < p1)) (((p1.toInt32) + (128 : Int32))) := (own_Box_keep (own_Box_ext (own_Box_keep (own_Box_ext B1 Ex6) p27_0) Ex29) p60_0)
      obtain ⟨_, _, ⟨T65, Lx65, kx65, nx65⟩, -, X65, ⟨Lc65, hQ65, lx65, yx65, zx65⟩, st65⟩ := Jvm.LawKit.callS X60 hx (y := (⟨"java/lang/Long", "valueOf", "(J)Ljava/lang/Long;"⟩ : MethodName)) hown (mvT hZ (wd hw 22 rfl)) (mvT hZ (wd hw 23 rfl)) (mvT hZ (wd hw 24 rfl)) (mvT hZ (wd hw 25 rfl)) (by decide) (backOf (W := 0) (rmVal l Z a0 hw [] p1 ca cc T60.heap n0 Z60 Fc62 Fc63 Fc64) hZ (wd hw 25 rfl) (wd hw 24 rfl) (by decide) (by decide)) (g := (mkF m 71 #[iv p0, jv p1, .second, iv p2, jv p3, .second, iv p4, iv (p0 &&& (7 : Int32)), iv (own_ib p0 p2 p4), jv (own_cb p1 p3 p4), .second, rv ob6, rv ob29, .unset, .unset, .unset, .unset] [(.long p1)])) rfl (by rw [hml]; rfl) (argsL := [(.long p1)]) (rest := []) (lenOf pd_4 rfl) rfl (by show 2 * 0 + _ ≤ _; exact Nat.le_of_eq rfl) (hb hby at_71) (fun _ _ => ⟨rfl, rfl, (by decide : 2 + 1 ≤ _), (by decide : 4 + 1 ≤ _)⟩)
      dsimp only [Pt.U, Pt.locs, Pt.cells, Pt.slots] at X65 lx65 yx65 zx65 st65 hQ65
      subst lx65 yx65 zx65
      obtain ⟨xb_65, rfl, N65q, p65_0, p65_1⟩ := hQ65
      have N65 := Fr.app N60 N65q
      have Z65 : n0 ≤ T65.heap.size := Nat.le_trans Z60 p65_0.1
      refine own_lift st65 ?_
      show own_Go p.tables e below (T65.setTop (mkF m 74 #[iv p0, jv p1, .second, iv p2, jv p3, .second, iv p4, iv (p0 &&& (7 : Int32)), iv (own_ib p0 p2 p4), jv (own_cb p1 p3 p4), .second, rv ob6, rv ob29, .unset, .unset, .unset, .unset] [(.ref xb_65)])) _
      have sg66 : ∀ t, Steps p.tables e below (T65.setTop (mkF m 129 #[iv p0, jv p1, .second, iv p2, jv p3, .second, iv p4, iv (p0 &&& (7 : Int32)), iv (own_ib p0 p2 p4), jv (own_cb p1 p3 p4), .second, rv ob6, rv ob29, rv xb_65, iv (((p4.toUInt32 >>> ((2 : Int32) &&& 31).toUInt32).toInt32) &&& (3 : Int32)), .unset, .unset] [(.ref ob29), (.ref ob6)])) t → Steps p.tables e below (T65.setTop (mkF m 74 #[iv p0, jv p1, .second, iv p2, jv p3, .second, iv p4, iv (p0 &&& (7 : Int32)), iv (own_ib p0 p2 p4), jv (own_cb p1 p3 p4), .second, rv ob6, rv ob29, .unset, .unset, .unset, .unset] [(.ref xb_65)])) t := by
        intro t k
        refine XS.astore X65.here hx rfl (hb hby at_74) rfl rfl (l' := #[iv p0, jv p1, .second, iv p2, jv p3, .second, iv p4, iv (p0 &&& (7 : Int32)), iv (own_ib p0 p2 p4), jv (own_cb p1 p3 p4), .second, rv ob6, rv ob29, rv xb_65, .unset, .unset, .unset]) rfl ?_
        show Steps p.tables e below (T65.setTop (mkF m 76 #[iv p0, jv p1, .second, iv p2, jv p3, .second, iv p4, iv (p0 &&& (7 : Int32)), iv (own_ib p0 p2 p4), jv (own_cb p1 p3 p4), .second, rv ob6, rv ob29, rv xb_65, .unset, .unset, .unset] [])) _
        refine XS.iload X65.here hx rfl (hb hby at_76) rfl ?_
        show Steps p.tables e below (T65.setTop (mkF m 78 #[iv p0, jv p1, .second, iv p2, jv p3, .second, iv p4, iv (p0 &&& (7 : Int32)), iv (own_ib p0 p2 p4), jv (own_cb p1 p3 p4), .second, rv ob6, rv ob29, rv xb_65, .unset, .unset, .unset] [(.int p4)])) _
        refine XS.iconst X65.here hx rfl (hb hby at_78) ?_
        show Steps p.tables e below (T65.setTop (mkF m 79 #[iv p0, jv p1, .second, iv p2, jv p3, .second, iv p4, iv (p0 &&& (7 : Int32)), iv (own_ib p0 p2 p4), jv (own_cb p1 p3 p4), .second, rv ob6, rv ob29, rv xb_65, .unset, .unset, .unset] [(.int 2), (.int p4)])) _
        refine XS.iushr X65.here hx rfl (hb hby at_79) rfl ?_
        show Steps p.tables e below (T65.setTop (mkF m 80 #[iv p0, jv p1, .second, iv p2, jv p3, .second, iv p4, iv (p0 &&& (7 : Int32)), iv (own_ib p0 p2 p4), jv (own_cb p1 p3 p4), .second, rv ob6, rv ob29, rv xb_65, .unset, .unset, .unset] [(.int ((p4.toUInt32 >>> ((2 : Int32) &&& 31).toUInt32).toInt32))])) _
        refine XS.iconst X65.here hx rfl (hb hby at_80) ?_
        show Steps p.tables e below (T65.setTop (mkF m 81 #[iv p0, jv p1, .second, iv p2, jv p3, .second, iv p4, iv (p0 &&& (7 : Int32)), iv (own_ib p0 p2 p4), jv (own_cb p1 p3 p4), .second, rv ob6, rv ob29, rv xb_65, .unset, .unset, .unset] [(.int 3), (.int ((p4.toUInt32 >>> ((2 : Int32) &&& 31).toUInt32).toInt32))])) _
        refine XS.iand X65.here hx rfl (hb hby at_81) rfl ?_
        show Steps p.tables e below (T65.setTop (mkF m 82 #[iv p0, jv p1, .second, iv p2, jv p3, .second, iv p4, iv (p0 &&& (7 : Int32)), iv (own_ib p0 p2 p4), jv (own_cb p1 p3 p4), .second, rv ob6, rv ob29, rv xb_65, .unset, .unset, .unset] [(.int (((p4.toUInt32 >>> ((2 : Int32) &&& 31).toUInt32).toInt32) &&& (3 : Int32)))])) _
        refine XS.istore X65.here hx rfl (hb hby at_82) rfl (l' := #[iv p0, jv p1, .second, iv p2, jv p3, .second, iv p4, iv (p0 &&& (7 : Int32)), iv (own_ib p0 p2 p4), jv (own_cb p1 p3 p4), .second, rv ob6, rv ob29, rv xb_65, iv (((p4.toUInt32 >>> ((2 : Int32) &&& 31).toUInt32).toInt32) &&& (3 : Int32)), .unset, .unset]) rfl ?_
        show Steps p.tables e below (T65.setTop (mkF m 84 #[iv p0, jv p1, .second, iv p2, jv p3, .second, iv p4, iv (p0 &&& (7 : Int32)), iv (own_ib p0 p2 p4), jv (own_cb p1 p3 p4), .second, rv ob6, rv ob29, rv xb_65, iv (((p4.toUInt32 >>> ((2 : Int32) &&& 31).toUInt32).toInt32) &&& (3 : Int32)), .unset, .unset] [])) _
        refine XS.iload X65.here hx rfl (hb hby at_84) rfl ?_
        show Steps p.tables e below (T65.setTop (mkF m 86 #[iv p0, jv p1, .second, iv p2, jv p3, .second, iv p4, iv (p0 &&& (7 : Int32)), iv (own_ib p0 p2 p4), jv (own_cb p1 p3 p4), .second, rv ob6, rv ob29, rv xb_65, iv (((p4.toUInt32 >>> ((2 : Int32) &&& 31).toUInt32).toInt32) &&& (3 : Int32)), .unset, .unset] [(.int (((p4.toUInt32 >>> ((2 : Int32) &&& 31).toUInt32).toInt32) &&& (3 : Int32)))])) _
        refine XS.iconst X65.here hx rfl (hb hby at_86) ?_
        show Steps p.tables e below (T65.setTop (mkF m 87 #[iv p0, jv p1, .second, iv p2, jv p3, .second, iv p4, iv (p0 &&& (7 : Int32)), iv (own_ib p0 p2 p4), jv (own_cb p1 p3 p4), .second, rv ob6, rv ob29, rv xb_65, iv (((p4.toUInt32 >>> ((2 : Int32) &&& 31).toUInt32).toInt32) &&& (3 : Int32)), .unset, .unset] [(.int 2), (.int (((p4.toUInt32 >>> ((2 : Int32) &&& 31).toUInt32).toInt32) &&& (3 : Int32)))])) _
        refine XS.icmpYes X65.here hx rfl (pc0 := 87) (pc' := 104) rfl (hb hby at_87) rfl (feq w2).2 (by decide) (by decide) ?_
        show Steps p.tables e below (T65.setTop (mkF m 104 #[iv p0, jv p1, .second, iv p2, jv p3, .second, iv p4, iv (p0 &&& (7 : Int32)), iv (own_ib p0 p2 p4), jv (own_cb p1 p3 p4), .second, rv ob6, rv ob29, rv xb_65, iv (((p4.toUInt32 >>> ((2 : Int32) &&& 31).toUInt32).toInt32) &&& (3 : Int32)), .unset, .unset] [])) _
        refine XS.iload X65.here hx rfl (hb hby at_104) rfl ?_
        show Steps p.tables e below (T65.setTop (mkF m 106 #[iv p0, jv p1, .second, iv p2, jv p3, .second, iv p4, iv (p0 &&& (7 : Int32)), iv (own_ib p0 p2 p4), jv (own_cb p1 p3 p4), .second, rv ob6, rv ob29, rv xb_65, iv (((p4.toUInt32 >>> ((2 : Int32) &&& 31).toUInt32).toInt32) &&& (3 : Int32)), .unset, .unset] [(.int (((p4.toUInt32 >>> ((2 : Int32) &&& 31).toUInt32).toInt32) &&& (3 : Int32)))])) _
        refine XS.iconst X65.here hx rfl (hb hby at_106) ?_
        show Steps p.tables e below (T65.setTop (mkF m 107 #[iv p0, jv p1, .second, iv p2, jv p3, .second, iv p4, iv (p0 &&& (7 : Int32)), iv (own_ib p0 p2 p4), jv (own_cb p1 p3 p4), .second, rv ob6, rv ob29, rv xb_65, iv (((p4.toUInt32 >>> ((2 : Int32) &&& 31).toUInt32).toInt32) &&& (3 : Int32)), .unset, .unset] [(.int 3), (.int (((p4.toUInt32 >>> ((2 : Int32) &&& 31).toUInt32).toInt32) &&& (3 : Int32)))])) _
        refine XS.icmpYes X65.here hx rfl (pc0 := 107) (pc' := 125) rfl (hb hby at_107) rfl (feq w3).2 (by decide) (by decide) ?_
        show Steps p.tables e below (T65.setTop (mkF m 125 #[iv p0, jv p1, .second, iv p2, jv p3, .second, iv p4, iv (p0 &&& (7 : Int32)), iv (own_ib p0 p2 p4), jv (own_cb p1 p3 p4), .second, rv ob6, rv ob29, rv xb_65, iv (((p4.toUInt32 >>> ((2 : Int32) &&& 31).toUInt32).toInt32) &&& (3 : Int32)), .unset, .unset] [])) _
        refine XS.aload X65.here hx rfl (hb hby at_125) rfl rfl ?_
        show Steps p.tables e below (T65.setTop (mkF m 127 #[iv p0, jv p1, .second, iv p2, jv p3, .second, iv p4, iv (p0 &&& (7 : Int32)), iv (own_ib p0 p2 p4), jv (own_cb p1 p3 p4), .second, rv ob6, rv ob29, rv xb_65, iv (((p4.toUInt32 >>> ((2 : Int32) &&& 31).toUInt32).toInt32) &&& (3 : Int32)), .unset, .unset] [(.ref ob6)])) _
        refine XS.aload X65.here hx rfl (hb hby at_127) rfl rfl ?_
        show Steps p.tables e below (T65.setTop (mkF m 129 #[iv p0, jv p1, .second, iv p2, jv p3, .second, iv p4, iv (p0 &&& (7 : Int32)), iv (own_ib p0 p2 p4), jv (own_cb p1 p3 p4), .second, rv ob6, rv ob29, rv xb_65, iv (((p4.toUInt32 >>> ((2 : Int32) &&& 31).toUInt32).toInt32) &&& (3 : Int32)), .unset, .unset] [(.ref ob29), (.ref ob6)])) _
        exact k
      refine own_lift sg66 ?_
      show own_Go p.tables e below (T65.setTop (mkF m 129 #[iv p0, jv p1, .second, iv p2, jv p3, .second, iv p4, iv (p0 &&& (7 : Int32)), iv (own_ib p0 p2 p4), jv (own_cb p1 p3 p4), .second, rv ob6, rv ob29, rv xb_65, iv (((p4.toUInt32 >>> ((2 : Int32) &&& 31).toUInt32).toInt32) &&& (3 : Int32)), .unset, .unset] [(.ref ob29), (.ref ob6)])) _
      have Fc67 : Fld Z T65.heap ob6 "com/example/allsome/allsome/cypher/PathPattern$Selector" "kind" "Lcom/example/allsome/allsome/cypher/PathPattern$Selector$Kind;" (.ref (own_kind (p0 &&& (7 : Int32)) as_SHORTEST_PATH as_ALL_SHORTEST_PATHS as_ANY_SHORTEST as_ALL_SHORTEST as_ANY as_ALL as_SHORTEST as_SHORTEST_GROUPS)) := (((p27_2.ext Ex29).keep p60_0 (ninS ne48 nin0)).keep p65_0 nin0)
      have Fc68 : Fld Z T65.heap ob6 "com/example/allsome/allsome/cypher/PathPattern$Selector" "count" "J" (.long p1) := (((p27_3.ext Ex29).keep p60_0 (ninS ne48 nin0)).keep p65_0 nin0)
      have Fc69 : Fld Z T65.heap ob29 "com/example/allsome/allsome/cypher/PathPattern$Selector" "kind" "Lcom/example/allsome/allsome/cypher/PathPattern$Selector$Kind;" (.ref (own_kind (own_ib p0 p2 p4) as_SHORTEST_PATH as_ALL_SHORTEST_PATHS as_ANY_SHORTEST as_ALL_SHORTEST as_ANY as_ALL as_SHORTEST as_SHORTEST_GROUPS)) := (p60_2.keep p65_0 nin0)
      have Fc70 : Fld Z T65.heap ob29 "com/example/allsome/allsome/cypher/PathPattern$Selector" "count" "J" (.long (own_cb p1 p3 p4)) := (p60_3.keep p65_0 nin0)
      have Fc71 : Exa Z T65.heap ob29 "com/example/allsome/allsome/cypher/PathPattern$Selector" := (p60_1.keep p65_0)
      have Fc73 : Exa Z T65.heap ob6 "com/example/allsome/allsome/cypher/PathPattern$Selector" := (((p27_1.ext Ex29).keep p60_0).keep p65_0)
      obtain ⟨cq72, kq72, q72a, q72b, q72c⟩ := isOf hZ rfl Fc73
      obtain ⟨_, _, ⟨T72, Lx72, kx72, nx72⟩, -, X72, ⟨Lc72, hQ72, lx72, yx72, zx72⟩, st72⟩ := X65.virtualBack hx (y := (⟨"com/example/allsome/allsome/cypher/PathPattern$Selector", "equals", "(Ljava/lang/Object;)Z"⟩ : MethodName)) (z := (⟨"com/example/allsome/allsome/cypher/PathPattern$Selector", "equals", "(Ljava/lang/Object;)Z"⟩ : MethodName)) hown (mvT hZ (wd hw 30 rfl)) (mvT hZ (wd hw 31 rfl)) (notFace_of_selects (args := #[]) (mvT hZ (wd hw 33 rfl))) (mvT hZ (wd hw 33 rfl)) (mvT hZ (wd hw 32 rfl)) (by decide) (backOf (W := 0) (rmEqC l Z a0 hw [] ob6 ob29 (own_kind (p0 &&& (7 : Int32)) as_SHORTEST_PATH as_ALL_SHORTEST_PATHS as_ANY_SHORTEST as_ALL_SHORTEST as_ANY as_ALL as_SHORTEST as_SHORTEST_GROUPS) p1 (own_kind (own_ib p0 p2 p4) as_SHORTEST_PATH as_ALL_SHORTEST_PATHS as_ANY_SHORTEST as_ALL_SHORTEST as_ANY as_ALL as_SHORTEST as_SHORTEST_GROUPS) (own_cb p1 p3 p4) T65.heap n0 Z65 Fc67 Fc68 Fc69 Fc70 Fc71 hkk (fun q => hc (Eq.symm q))) hZ (wd hw 34 rfl) (wd hw 2 rfl) (by decide) (by decide)) q72a q72c (g := (mkF m 129 #[iv p0, jv p1, .second, iv p2, jv p3, .second, iv p4, iv (p0 &&& (7 : Int32)), iv (own_ib p0 p2 p4), jv (own_cb p1 p3 p4), .second, rv ob6, rv ob29, rv xb_65, iv (((p4.toUInt32 >>> ((2 : Int32) &&& 31).toUInt32).toInt32) &&& (3 : Int32)), .unset, .unset] [(.ref ob29), (.ref ob6)])) rfl (by rw [hml]; rfl) (Steps.refl _) (argsL := [(.ref ob29)]) (rest := []) (lenOf pd_5 rfl) rfl (by show 2 * 0 + _ ≤ _; exact Nat.le_of_eq rfl) (hb hby at_129) (fun _ _ => ⟨rfl, rfl, (by decide : 3 + 0 ≤ _), (by decide : 5 + 0 ≤ _)⟩)
      dsimp only [Pt.U, Pt.locs, Pt.cells, Pt.slots] at X72 lx72 yx72 zx72 st72 hQ72
      subst lx72 yx72 zx72
      obtain ⟨rfl, N72q, e72⟩ := hQ72
      have N72 := Fr.app N65 N72q
      refine own_lift (fun t k => st72.trans k) ?_
      show own_Go p.tables e below (T72.setTop (mkF m 132 #[iv p0, jv p1, .second, iv p2, jv p3, .second, iv p4, iv (p0 &&& (7 : Int32)), iv (own_ib p0 p2 p4), jv (own_cb p1 p3 p4), .second, rv ob6, rv ob29, rv xb_65, iv (((p4.toUInt32 >>> ((2 : Int32) &&& 31).toUInt32).toInt32) &&& (3 : Int32)), .unset, .unset] [(.int 0)])) _
      have sg74 : ∀ t, Steps p.tables e below (T72.setTop (mkF m 167 #[iv p0, jv p1, .second, iv p2, jv p3, .second, iv p4, iv (p0 &&& (7 : Int32)), iv (own_ib p0 p2 p4), jv (own_cb p1 p3 p4), .second, rv ob6, rv ob29, rv xb_65, iv (((p4.toUInt32 >>> ((2 : Int32) &&& 31).toUInt32).toInt32) &&& (3 : Int32)), iv 0, iv 0] [(.int 1)])) t → Steps p.tables e below (T72.setTop (mkF m 132 #[iv p0, jv p1, .second, iv p2, jv p3, .second, iv p4, iv (p0 &&& (7 : Int32)), iv (own_ib p0 p2 p4), jv (own_cb p1 p3 p4), .second, rv ob6, rv ob29, rv xb_65, iv (((p4.toUInt32 >>> ((2 : Int32) &&& 31).toUInt32).toInt32) &&& (3 : Int32)), .unset, .unset] [(.int 0)])) t := by
        intro t k
        refine XS.istore X72.here hx rfl (hb hby at_132) rfl (l' := #[iv p0, jv p1, .second, iv p2, jv p3, .second, iv p4, iv (p0 &&& (7 : Int32)), iv (own_ib p0 p2 p4), jv (own_cb p1 p3 p4), .second, rv ob6, rv ob29, rv xb_65, iv (((p4.toUInt32 >>> ((2 : Int32) &&& 31).toUInt32).toInt32) &&& (3 : Int32)), iv 0, .unset]) rfl ?_
        show Steps p.tables e below (T72.setTop (mkF m 134 #[iv p0, jv p1, .second, iv p2, jv p3, .second, iv p4, iv (p0 &&& (7 : Int32)), iv (own_ib p0 p2 p4), jv (own_cb p1 p3 p4), .second, rv ob6, rv ob29, rv xb_65, iv (((p4.toUInt32 >>> ((2 : Int32) &&& 31).toUInt32).toInt32) &&& (3 : Int32)), iv 0, .unset] [])) _
        refine XS.iload X72.here hx rfl (hb hby at_134) rfl ?_
        show Steps p.tables e below (T72.setTop (mkF m 136 #[iv p0, jv p1, .second, iv p2, jv p3, .second, iv p4, iv (p0 &&& (7 : Int32)), iv (own_ib p0 p2 p4), jv (own_cb p1 p3 p4), .second, rv ob6, rv ob29, rv xb_65, iv (((p4.toUInt32 >>> ((2 : Int32) &&& 31).toUInt32).toInt32) &&& (3 : Int32)), iv 0, .unset] [(.int (p0 &&& (7 : Int32)))])) _
        refine XS.iload X72.here hx rfl (hb hby at_136) rfl ?_
        show Steps p.tables e below (T72.setTop (mkF m 138 #[iv p0, jv p1, .second, iv p2, jv p3, .second, iv p4, iv (p0 &&& (7 : Int32)), iv (own_ib p0 p2 p4), jv (own_cb p1 p3 p4), .second, rv ob6, rv ob29, rv xb_65, iv (((p4.toUInt32 >>> ((2 : Int32) &&& 31).toUInt32).toInt32) &&& (3 : Int32)), iv 0, .unset] [(.int (own_ib p0 p2 p4)), (.int (p0 &&& (7 : Int32)))])) _
        refine XS.icmpNo X72.here hx rfl (hb hby at_138) rfl (teq hk).2 ?_
        show Steps p.tables e below (T72.setTop (mkF m 141 #[iv p0, jv p1, .second, iv p2, jv p3, .second, iv p4, iv (p0 &&& (7 : Int32)), iv (own_ib p0 p2 p4), jv (own_cb p1 p3 p4), .second, rv ob6, rv ob29, rv xb_65, iv (((p4.toUInt32 >>> ((2 : Int32) &&& 31).toUInt32).toInt32) &&& (3 : Int32)), iv 0, .unset] [])) _
        refine XS.lloadN X72.here hx rfl (hb hby at_141) rfl ?_
        show Steps p.tables e below (T72.setTop (mkF m 142 #[iv p0, jv p1, .second, iv p2, jv p3, .second, iv p4, iv (p0 &&& (7 : Int32)), iv (own_ib p0 p2 p4), jv (own_cb p1 p3 p4), .second, rv ob6, rv ob29, rv xb_65, iv (((p4.toUInt32 >>> ((2 : Int32) &&& 31).toUInt32).toInt32) &&& (3 : Int32)), iv 0, .unset] [(.long p1)])) _
        refine XS.lload X72.here hx rfl (hb hby at_142) rfl ?_
        show Steps p.tables e below (T72.setTop (mkF m 144 #[iv p0, jv p1, .second, iv p2, jv p3, .second, iv p4, iv (p0 &&& (7 : Int32)), iv (own_ib p0 p2 p4), jv (own_cb p1 p3 p4), .second, rv ob6, rv ob29, rv xb_65, iv (((p4.toUInt32 >>> ((2 : Int32) &&& 31).toUInt32).toInt32) &&& (3 : Int32)), iv 0, .unset] [(.long (own_cb p1 p3 p4)), (.long p1)])) _
        refine XS.lcmp X72.here hx rfl (hb hby at_144) rfl ?_
        show Steps p.tables e below (T72.setTop (mkF m 145 #[iv p0, jv p1, .second, iv p2, jv p3, .second, iv p4, iv (p0 &&& (7 : Int32)), iv (own_ib p0 p2 p4), jv (own_cb p1 p3 p4), .second, rv ob6, rv ob29, rv xb_65, iv (((p4.toUInt32 >>> ((2 : Int32) &&& 31).toUInt32).toInt32) &&& (3 : Int32)), iv 0, .unset] [(.int (lcmpW p1 (own_cb p1 p3 p4)))])) _
        refine XS.ifYes X72.here hx rfl (pc0 := 145) (pc' := 152) rfl (hb hby at_145) rfl ((if0 _ _).trans (feq (fun q => hc ((lw_eq p1 (own_cb p1 p3 p4)).1 q))).2) (by decide) (by decide) ?_
        show Steps p.tables e below (T72.setTop (mkF m 152 #[iv p0, jv p1, .second, iv p2, jv p3, .second, iv p4, iv (p0 &&& (7 : Int32)), iv (own_ib p0 p2 p4), jv (own_cb p1 p3 p4), .second, rv ob6, rv ob29, rv xb_65, iv (((p4.toUInt32 >>> ((2 : Int32) &&& 31).toUInt32).toInt32) &&& (3 : Int32)), iv 0, .unset] [])) _
        refine XS.iconst X72.here hx rfl (hb hby at_152) ?_
        show Steps p.tables e below (T72.setTop (mkF m 153 #[iv p0, jv p1, .second, iv p2, jv p3, .second, iv p4, iv (p0 &&& (7 : Int32)), iv (own_ib p0 p2 p4), jv (own_cb p1 p3 p4), .second, rv ob6, rv ob29, rv xb_65, iv (((p4.toUInt32 >>> ((2 : Int32) &&& 31).toUInt32).toInt32) &&& (3 : Int32)), iv 0, .unset] [(.int 0)])) _
        refine XS.istore X72.here hx rfl (hb hby at_153) rfl (l' := #[iv p0, jv p1, .second, iv p2, jv p3, .second, iv p4, iv (p0 &&& (7 : Int32)), iv (own_ib p0 p2 p4), jv (own_cb p1 p3 p4), .second, rv ob6, rv ob29, rv xb_65, iv (((p4.toUInt32 >>> ((2 : Int32) &&& 31).toUInt32).toInt32) &&& (3 : Int32)), iv 0, iv 0]) rfl ?_
        show Steps p.tables e below (T72.setTop (mkF m 155 #[iv p0, jv p1, .second, iv p2, jv p3, .second, iv p4, iv (p0 &&& (7 : Int32)), iv (own_ib p0 p2 p4), jv (own_cb p1 p3 p4), .second, rv ob6, rv ob29, rv xb_65, iv (((p4.toUInt32 >>> ((2 : Int32) &&& 31).toUInt32).toInt32) &&& (3 : Int32)), iv 0, iv 0] [])) _
        refine XS.iload X72.here hx rfl (hb hby at_155) rfl ?_
        show Steps p.tables e below (T72.setTop (mkF m 157 #[iv p0, jv p1, .second, iv p2, jv p3, .second, iv p4, iv (p0 &&& (7 : Int32)), iv (own_ib p0 p2 p4), jv (own_cb p1 p3 p4), .second, rv ob6, rv ob29, rv xb_65, iv (((p4.toUInt32 >>> ((2 : Int32) &&& 31).toUInt32).toInt32) &&& (3 : Int32)), iv 0, iv 0] [(.int 0)])) _
        refine XS.iload X72.here hx rfl (hb hby at_157) rfl ?_
        show Steps p.tables e below (T72.setTop (mkF m 159 #[iv p0, jv p1, .second, iv p2, jv p3, .second, iv p4, iv (p0 &&& (7 : Int32)), iv (own_ib p0 p2 p4), jv (own_cb p1 p3 p4), .second, rv ob6, rv ob29, rv xb_65, iv (((p4.toUInt32 >>> ((2 : Int32) &&& 31).toUInt32).toInt32) &&& (3 : Int32)), iv 0, iv 0] [(.int 0), (.int 0)])) _
        refine XS.icmpNo X72.here hx rfl (hb hby at_159) rfl (teq (by decide : (0 : Int32) = (0 : Int32))).2 ?_
        show Steps p.tables e below (T72.setTop (mkF m 162 #[iv p0, jv p1, .second, iv p2, jv p3, .second, iv p4, iv (p0 &&& (7 : Int32)), iv (own_ib p0 p2 p4), jv (own_cb p1 p3 p4), .second, rv ob6, rv ob29, rv xb_65, iv (((p4.toUInt32 >>> ((2 : Int32) &&& 31).toUInt32).toInt32) &&& (3 : Int32)), iv 0, iv 0] [])) _
        refine XS.iconst X72.here hx rfl (hb hby at_162) ?_
        show Steps p.tables e below (T72.setTop (mkF m 163 #[iv p0, jv p1, .second, iv p2, jv p3, .second, iv p4, iv (p0 &&& (7 : Int32)), iv (own_ib p0 p2 p4), jv (own_cb p1 p3 p4), .second, rv ob6, rv ob29, rv xb_65, iv (((p4.toUInt32 >>> ((2 : Int32) &&& 31).toUInt32).toInt32) &&& (3 : Int32)), iv 0, iv 0] [(.int 1)])) _
        refine XS.goto X72.here hx rfl (pc0 := 163) (pc' := 167) rfl (hb hby at_163) (by decide) (by decide) ?_
        show Steps p.tables e below (T72.setTop (mkF m 167 #[iv p0, jv p1, .second, iv p2, jv p3, .second, iv p4, iv (p0 &&& (7 : Int32)), iv (own_ib p0 p2 p4), jv (own_cb p1 p3 p4), .second, rv ob6, rv ob29, rv xb_65, iv (((p4.toUInt32 >>> ((2 : Int32) &&& 31).toUInt32).toInt32) &&& (3 : Int32)), iv 0, iv 0] [(.int 1)])) _
        exact k
      refine own_lift sg74 ?_
      show own_Go p.tables e below (T72.setTop (mkF m 167 #[iv p0, jv p1, .second, iv p2, jv p3, .second, iv p4, iv (p0 &&& (7 : Int32)), iv (own_ib p0 p2 p4), jv (own_cb p1 p3 p4), .second, rv ob6, rv ob29, rv xb_65, iv (((p4.toUInt32 >>> ((2 : Int32) &&& 31).toUInt32).toInt32) &&& (3 : Int32)), iv 0, iv 0] [(.int 1)])) _
      obtain ⟨fs, hr, hrun, hended, hW, hsame⟩ := X72.leave (v := some (.int 1)) (fun h => by rw [Bd.returns] at h; cases h)
      refine ⟨_, _, ?_, hrun, hended, _, _, rfl, ?_, ⟨_, rfl⟩, hW, hsame.mono (by decide) (by decide)⟩
      · exact retN X72 hx (t := .boolean) Bd.returns (by simp) (hb hby at_167) hr
      · show Q0 Z  h0 n0 _ T72.heap _
        rw [e72]
        exact ⟨rfl, N72⟩
    by_cases b2 : (p4 &&& (2 : Int32)) = (0 : Int32)
    · have sg75 : ∀ t, Steps p.tables e below (T2.setTop (mkF m 37 #[iv p0, jv p1, .second, iv p2, jv p3, .second, iv p4, iv (p0 &&& (7 : Int32)), iv (own_ib p0 p2 p4), .unset, .unset, .unset, .unset, .unset, .unset, .unset, .unset] [(.long p3)])) t → Steps p.tables e below (T2.setTop (mkF m 24 #[iv p0, jv p1, .second, iv p2, jv p3, .second, iv p4, iv (p0 &&& (7 : Int32)), iv (own_ib p0 p2 p4), .unset, .unset, .unset, .unset, .unset, .unset, .unset, .unset] [])) t := by
        intro t k
        refine XS.iload X2.here hx rfl (hb hby at_24) rfl ?_
        show Steps p.tables e below (T2.setTop (mkF m 26 #[iv p0, jv p1, .second, iv p2, jv p3, .second, iv p4, iv (p0 &&& (7 : Int32)), iv (own_ib p0 p2 p4), .unset, .unset, .unset, .unset, .unset, .unset, .unset, .unset] [(.int p4)])) _
        refine XS.iconst X2.here hx rfl (hb hby at_26) ?_
        show Steps p.tables e below (T2.setTop (mkF m 27 #[iv p0, jv p1, .second, iv p2, jv p3, .second, iv p4, iv (p0 &&& (7 : Int32)), iv (own_ib p0 p2 p4), .unset, .unset, .unset, .unset, .unset, .unset, .unset, .unset] [(.int 2), (.int p4)])) _
        refine XS.iand X2.here hx rfl (hb hby at_27) rfl ?_
        show Steps p.tables e below (T2.setTop (mkF m 28 #[iv p0, jv p1, .second, iv p2, jv p3, .second, iv p4, iv (p0 &&& (7 : Int32)), iv (own_ib p0 p2 p4), .unset, .unset, .unset, .unset, .unset, .unset, .unset, .unset] [(.int (p4 &&& (2 : Int32)))])) _
        refine XS.ifYes X2.here hx rfl (pc0 := 28) (pc' := 35) rfl (hb hby at_28) rfl ((if0 _ _).trans (teq b2).1) (by decide) (by decide) ?_
        show Steps p.tables e below (T2.setTop (mkF m 35 #[iv p0, jv p1, .second, iv p2, jv p3, .second, iv p4, iv (p0 &&& (7 : Int32)), iv (own_ib p0 p2 p4), .unset, .unset, .unset, .unset, .unset, .unset, .unset, .unset] [])) _
        refine XS.lload X2.here hx rfl (hb hby at_35) rfl ?_
        show Steps p.tables e below (T2.setTop (mkF m 37 #[iv p0, jv p1, .second, iv p2, jv p3, .second, iv p4, iv (p0 &&& (7 : Int32)), iv (own_ib p0 p2 p4), .unset, .unset, .unset, .unset, .unset, .unset, .unset, .unset] [(.long p3)])) _
        exact k
      refine own_lift sg75 ?_
      show own_Go p.tables e below (T2.setTop (mkF m 37 #[iv p0, jv p1, .second, iv p2, jv p3, .second, iv p4, iv (p0 &&& (7 : Int32)), iv (own_ib p0 p2 p4), .unset, .unset, .unset, .unset, .unset, .unset, .unset, .unset] [(.long p3)])) _
      rw [show (own_cb p1 p3 p4) = p3 from if_pos b2] at join4
      exact join4 _ _ X2 e2 N2
    · have sg76 : ∀ t, Steps p.tables e below (T2.setTop (mkF m 37 #[iv p0, jv p1, .second, iv p2, jv p3, .second, iv p4, iv (p0 &&& (7 : Int32)), iv (own_ib p0 p2 p4), .unset, .unset, .unset, .unset, .unset, .unset, .unset, .unset] [(.long p1)])) t → Steps p.tables e below (T2.setTop (mkF m 24 #[iv p0, jv p1, .second, iv p2, jv p3, .second, iv p4, iv (p0 &&& (7 : Int32)), iv (own_ib p0 p2 p4), .unset, .unset, .unset, .unset, .unset, .unset, .unset, .unset] [])) t := by
        intro t k
        refine XS.iload X2.here hx rfl (hb hby at_24) rfl ?_
        show Steps p.tables e below (T2.setTop (mkF m 26 #[iv p0, jv p1, .second, iv p2, jv p3, .second, iv p4, iv (p0 &&& (7 : Int32)), iv (own_ib p0 p2 p4), .unset, .unset, .unset, .unset, .unset, .unset, .unset, .unset] [(.int p4)])) _
        refine XS.iconst X2.here hx rfl (hb hby at_26) ?_
        show Steps p.tables e below (T2.setTop (mkF m 27 #[iv p0, jv p1, .second, iv p2, jv p3, .second, iv p4, iv (p0 &&& (7 : Int32)), iv (own_ib p0 p2 p4), .unset, .unset, .unset, .unset, .unset, .unset, .unset, .unset] [(.int 2), (.int p4)])) _
        refine XS.iand X2.here hx rfl (hb hby at_27) rfl ?_
        show Steps p.tables e below (T2.setTop (mkF m 28 #[iv p0, jv p1, .second, iv p2, jv p3, .second, iv p4, iv (p0 &&& (7 : Int32)), iv (own_ib p0 p2 p4), .unset, .unset, .unset, .unset, .unset, .unset, .unset, .unset] [(.int (p4 &&& (2 : Int32)))])) _
        refine XS.ifNo X2.here hx rfl (hb hby at_28) rfl ((if0 _ _).trans (feq b2).1) ?_
        show Steps p.tables e below (T2.setTop (mkF m 31 #[iv p0, jv p1, .second, iv p2, jv p3, .second, iv p4, iv (p0 &&& (7 : Int32)), iv (own_ib p0 p2 p4), .unset, .unset, .unset, .unset, .unset, .unset, .unset, .unset] [])) _
        refine XS.lloadN X2.here hx rfl (hb hby at_31) rfl ?_
        show Steps p.tables e below (T2.setTop (mkF m 32 #[iv p0, jv p1, .second, iv p2, jv p3, .second, iv p4, iv (p0 &&& (7 : Int32)), iv (own_ib p0 p2 p4), .unset, .unset, .unset, .unset, .unset, .unset, .unset, .unset] [(.long p1)])) _
        refine XS.goto X2.here hx rfl (pc0 := 32) (pc' := 37) rfl (hb hby at_32) (by decide) (by decide) ?_
        show Steps p.tables e below (T2.setTop (mkF m 37 #[iv p0, jv p1, .second, iv p2, jv p3, .second, iv p4, iv (p0 &&& (7 : Int32)), iv (own_ib p0 p2 p4), .unset, .unset, .unset, .unset, .unset, .unset, .unset, .unset] [(.long p1)])) _
        exact k
      refine own_lift sg76 ?_
      show own_Go p.tables e below (T2.setTop (mkF m 37 #[iv p0, jv p1, .second, iv p2, jv p3, .second, iv p4, iv (p0 &&& (7 : Int32)), iv (own_ib p0 p2 p4), .unset, .unset, .unset, .unset, .unset, .unset, .unset, .unset] [(.long p1)])) _
      rw [show (own_cb p1 p3 p4) = p1 from if_neg b2] at join4
      exact join4 _ _ X2 e2 N2
  by_cases b1 : (p4 &&& (1 : Int32)) = (0 : Int32)
  · have sg77 : ∀ t, Steps p.tables e below (s₁.setTop (mkF m 22 #[iv p0, jv p1, .second, iv p2, jv p3, .second, iv p4, iv (p0 &&& (7 : Int32)), .unset, .unset, .unset, .unset, .unset, .unset, .unset, .unset, .unset] [(.int (p2 &&& (7 : Int32)))])) t → Steps p.tables e below (s₁.setTop (mkF m 6 #[iv p0, jv p1, .second, iv p2, jv p3, .second, iv p4, iv (p0 &&& (7 : Int32)), .unset, .unset, .unset, .unset, .unset, .unset, .unset, .unset, .unset] [])) t := by
      intro t k
      refine XS.iload X0.here hx rfl (hb hby at_6) rfl ?_
      show Steps p.tables e below (s₁.setTop (mkF m 8 #[iv p0, jv p1, .second, iv p2, jv p3, .second, iv p4, iv (p0 &&& (7 : Int32)), .unset, .unset, .unset, .unset, .unset, .unset, .unset, .unset, .unset] [(.int p4)])) _
      refine XS.iconst X0.here hx rfl (hb hby at_8) ?_
      show Steps p.tables e below (s₁.setTop (mkF m 9 #[iv p0, jv p1, .second, iv p2, jv p3, .second, iv p4, iv (p0 &&& (7 : Int32)), .unset, .unset, .unset, .unset, .unset, .unset, .unset, .unset, .unset] [(.int 1), (.int p4)])) _
      refine XS.iand X0.here hx rfl (hb hby at_9) rfl ?_
      show Steps p.tables e below (s₁.setTop (mkF m 10 #[iv p0, jv p1, .second, iv p2, jv p3, .second, iv p4, iv (p0 &&& (7 : Int32)), .unset, .unset, .unset, .unset, .unset, .unset, .unset, .unset, .unset] [(.int (p4 &&& (1 : Int32)))])) _
      refine XS.ifYes X0.here hx rfl (pc0 := 10) (pc' := 18) rfl (hb hby at_10) rfl ((if0 _ _).trans (teq b1).1) (by decide) (by decide) ?_
      show Steps p.tables e below (s₁.setTop (mkF m 18 #[iv p0, jv p1, .second, iv p2, jv p3, .second, iv p4, iv (p0 &&& (7 : Int32)), .unset, .unset, .unset, .unset, .unset, .unset, .unset, .unset, .unset] [])) _
      refine XS.iloadN X0.here hx rfl (hb hby at_18) rfl ?_
      show Steps p.tables e below (s₁.setTop (mkF m 19 #[iv p0, jv p1, .second, iv p2, jv p3, .second, iv p4, iv (p0 &&& (7 : Int32)), .unset, .unset, .unset, .unset, .unset, .unset, .unset, .unset, .unset] [(.int p2)])) _
      refine XS.bipush X0.here hx rfl (hb hby at_19) ?_
      show Steps p.tables e below (s₁.setTop (mkF m 21 #[iv p0, jv p1, .second, iv p2, jv p3, .second, iv p4, iv (p0 &&& (7 : Int32)), .unset, .unset, .unset, .unset, .unset, .unset, .unset, .unset, .unset] [(.int 7), (.int p2)])) _
      refine XS.iand X0.here hx rfl (hb hby at_21) rfl ?_
      show Steps p.tables e below (s₁.setTop (mkF m 22 #[iv p0, jv p1, .second, iv p2, jv p3, .second, iv p4, iv (p0 &&& (7 : Int32)), .unset, .unset, .unset, .unset, .unset, .unset, .unset, .unset, .unset] [(.int (p2 &&& (7 : Int32)))])) _
      exact k
    refine own_lift sg77 ?_
    show own_Go p.tables e below (s₁.setTop (mkF m 22 #[iv p0, jv p1, .second, iv p2, jv p3, .second, iv p4, iv (p0 &&& (7 : Int32)), .unset, .unset, .unset, .unset, .unset, .unset, .unset, .unset, .unset] [(.int (p2 &&& (7 : Int32)))])) _
    rw [show (own_ib p0 p2 p4) = (p2 &&& (7 : Int32)) from if_pos b1] at join2
    exact join2 _ _ X0 e0 N0
  · have sg78 : ∀ t, Steps p.tables e below (s₁.setTop (mkF m 22 #[iv p0, jv p1, .second, iv p2, jv p3, .second, iv p4, iv (p0 &&& (7 : Int32)), .unset, .unset, .unset, .unset, .unset, .unset, .unset, .unset, .unset] [(.int (p0 &&& (7 : Int32)))])) t → Steps p.tables e below (s₁.setTop (mkF m 6 #[iv p0, jv p1, .second, iv p2, jv p3, .second, iv p4, iv (p0 &&& (7 : Int32)), .unset, .unset, .unset, .unset, .unset, .unset, .unset, .unset, .unset] [])) t := by
      intro t k
      refine XS.iload X0.here hx rfl (hb hby at_6) rfl ?_
      show Steps p.tables e below (s₁.setTop (mkF m 8 #[iv p0, jv p1, .second, iv p2, jv p3, .second, iv p4, iv (p0 &&& (7 : Int32)), .unset, .unset, .unset, .unset, .unset, .unset, .unset, .unset, .unset] [(.int p4)])) _
      refine XS.iconst X0.here hx rfl (hb hby at_8) ?_
      show Steps p.tables e below (s₁.setTop (mkF m 9 #[iv p0, jv p1, .second, iv p2, jv p3, .second, iv p4, iv (p0 &&& (7 : Int32)), .unset, .unset, .unset, .unset, .unset, .unset, .unset, .unset, .unset] [(.int 1), (.int p4)])) _
      refine XS.iand X0.here hx rfl (hb hby at_9) rfl ?_
      show Steps p.tables e below (s₁.setTop (mkF m 10 #[iv p0, jv p1, .second, iv p2, jv p3, .second, iv p4, iv (p0 &&& (7 : Int32)), .unset, .unset, .unset, .unset, .unset, .unset, .unset, .unset, .unset] [(.int (p4 &&& (1 : Int32)))])) _
      refine XS.ifNo X0.here hx rfl (hb hby at_10) rfl ((if0 _ _).trans (feq b1).1) ?_
      show Steps p.tables e below (s₁.setTop (mkF m 13 #[iv p0, jv p1, .second, iv p2, jv p3, .second, iv p4, iv (p0 &&& (7 : Int32)), .unset, .unset, .unset, .unset, .unset, .unset, .unset, .unset, .unset] [])) _
      refine XS.iload X0.here hx rfl (hb hby at_13) rfl ?_
      show Steps p.tables e below (s₁.setTop (mkF m 15 #[iv p0, jv p1, .second, iv p2, jv p3, .second, iv p4, iv (p0 &&& (7 : Int32)), .unset, .unset, .unset, .unset, .unset, .unset, .unset, .unset, .unset] [(.int (p0 &&& (7 : Int32)))])) _
      refine XS.goto X0.here hx rfl (pc0 := 15) (pc' := 22) rfl (hb hby at_15) (by decide) (by decide) ?_
      show Steps p.tables e below (s₁.setTop (mkF m 22 #[iv p0, jv p1, .second, iv p2, jv p3, .second, iv p4, iv (p0 &&& (7 : Int32)), .unset, .unset, .unset, .unset, .unset, .unset, .unset, .unset, .unset] [(.int (p0 &&& (7 : Int32)))])) _
      exact k
    refine own_lift sg78 ?_
    show own_Go p.tables e below (s₁.setTop (mkF m 22 #[iv p0, jv p1, .second, iv p2, jv p3, .second, iv p4, iv (p0 &&& (7 : Int32)), .unset, .unset, .unset, .unset, .unset, .unset, .unset, .unset, .unset] [(.int (p0 &&& (7 : Int32)))])) _
    rw [show (own_ib p0 p2 p4) = (p0 &&& (7 : Int32)) from if_neg b1] at join2
    exact join2 _ _ X0 e0 N0
theorem ef_rm0_Y (m : MethodId) (x0 : Int32) (x1 : Int64) (x2 : Int32) (x3 : Int64) (x4 : Int32) : entryFrame m #[(.int x0), (.long x1), (.int x2), (.long x3), (.int x4)] maxLocals = mkF m 0 #[.val (.int x0), .val (.long x1), .second, .val (.int x2), .val (.long x3), .second, .val (.int x4), .unset, .unset, .unset, .unset, .unset, .unset, .unset, .unset, .unset, .unset] [] := by first | (simp [entryFrame, mkF, argsToLocals, Value.category, maxLocals]; done) | rfl
set_option maxRecDepth 65536 in
set_option maxHeartbeats 40000000 in
theorem rm0_Y (l : Launch) (Z : State) (a0 : Array Value) (hw : ∀ d ∈ tables_1, d.before a0 Z = true) (ws : List Jvm.Cond) (p0 : Int32) (p1 : Int64) (p2 : Int32) (p3 : Int64) (p4 : Int32) (as_SHORTEST_PATH : Addr) (as_ALL_SHORTEST_PATHS : Addr) (as_ANY_SHORTEST : Addr) (as_ALL_SHORTEST : Addr) (as_ANY : Addr) (as_ALL : Addr) (as_SHORTEST : Addr) (as_SHORTEST_GROUPS : Addr) (ca : Addr) (cc : Cell) (h0 : Heap) (n0 : Nat) (Z0 : n0 ≤ h0.size) (S_SHORTEST_PATH : Sta Z h0 "com/example/allsome/allsome/cypher/PathPattern$Selector$Kind" "SHORTEST_PATH" "Lcom/example/allsome/allsome/cypher/PathPattern$Selector$Kind;" (.ref as_SHORTEST_PATH)) (S_ALL_SHORTEST_PATHS : Sta Z h0 "com/example/allsome/allsome/cypher/PathPattern$Selector$Kind" "ALL_SHORTEST_PATHS" "Lcom/example/allsome/allsome/cypher/PathPattern$Selector$Kind;" (.ref as_ALL_SHORTEST_PATHS)) (S_ANY_SHORTEST : Sta Z h0 "com/example/allsome/allsome/cypher/PathPattern$Selector$Kind" "ANY_SHORTEST" "Lcom/example/allsome/allsome/cypher/PathPattern$Selector$Kind;" (.ref as_ANY_SHORTEST)) (S_ALL_SHORTEST : Sta Z h0 "com/example/allsome/allsome/cypher/PathPattern$Selector$Kind" "ALL_SHORTEST" "Lcom/example/allsome/allsome/cypher/PathPattern$Selector$Kind;" (.ref as_ALL_SHORTEST)) (S_ANY : Sta Z h0 "com/example/allsome/allsome/cypher/PathPattern$Selector$Kind" "ANY" "Lcom/example/allsome/allsome/cypher/PathPattern$Selector$Kind;" (.ref as_ANY)) (S_ALL : Sta Z h0 "com/example/allsome/allsome/cypher/PathPattern$Selector$Kind" "ALL" "Lcom/example/allsome/allsome/cypher/PathPattern$Selector$Kind;" (.ref as_ALL)) (S_SHORTEST : Sta Z h0 "com/example/allsome/allsome/cypher/PathPattern$Selector$Kind" "SHORTEST" "Lcom/example/allsome/allsome/cypher/PathPattern$Selector$Kind;" (.ref as_SHORTEST)) (S_SHORTEST_GROUPS : Sta Z h0 "com/example/allsome/allsome/cypher/PathPattern$Selector$Kind" "SHORTEST_GROUPS" "Lcom/example/allsome/allsome/cypher/PathPattern$Selector$Kind;" (.ref as_SHORTEST_GROUPS)) (O_SHORTEST_PATH : Fld Z h0 as_SHORTEST_PATH "java/lang/Enum" "ordinal" "I" (.int 0)) (O_ALL_SHORTEST_PATHS : Fld Z h0 as_ALL_SHORTEST_PATHS "java/lang/Enum" "ordinal" "I" (.int 1)) (O_ANY_SHORTEST : Fld Z h0 as_ANY_SHORTEST "java/lang/Enum" "ordinal" "I" (.int 2)) (O_ALL_SHORTEST : Fld Z h0 as_ALL_SHORTEST "java/lang/Enum" "ordinal" "I" (.int 3)) (O_ANY : Fld Z h0 as_ANY "java/lang/Enum" "ordinal" "I" (.int 4)) (O_ALL : Fld Z h0 as_ALL "java/lang/Enum" "ordinal" "I" (.int 5)) (O_SHORTEST : Fld Z h0 as_SHORTEST "java/lang/Enum" "ordinal" "I" (.int 6)) (O_SHORTEST_GROUPS : Fld Z h0 as_SHORTEST_GROUPS "java/lang/Enum" "ordinal" "I" (.int 7)) (S2 : Sta Z h0 "java/lang/Long$LongCache" "cache" "[Ljava/lang/Long;" (.ref ca)) (A1 : Arr Z h0 ca cc (.object "java/lang/Long")) (B1 : own_Box Z h0 "java/lang/Long" cc (¬ (p1 < (-128 : Int64)) ∧ ¬ ((127 : Int64) < p1)) (((p1.toInt32) + (128 : Int32)))) (w2 : ¬ ((((p4.toUInt32 >>> ((2 : Int32) &&& 31).toUInt32).toInt32) &&& (3 : Int32)) = (2 : Int32))) (w3 : ¬ ((((p4.toUInt32 >>> ((2 : Int32) &&& 31).toUInt32).toInt32) &&& (3 : Int32)) = (3 : Int32))) (hk : (p0 &&& (7 : Int32)) = (own_ib p0 p2 p4)) (hkk : (own_kind (own_ib p0 p2 p4) as_SHORTEST_PATH as_ALL_SHORTEST_PATHS as_ANY_SHORTEST as_ALL_SHORTEST as_ANY as_ALL as_SHORTEST as_SHORTEST_GROUPS) = (own_kind (p0 &&& (7 : Int32)) as_SHORTEST_PATH as_ALL_SHORTEST_PATHS as_ANY_SHORTEST as_ALL_SHORTEST as_ANY as_ALL as_SHORTEST as_SHORTEST_GROUPS)) (hc : p1 = (own_cb p1 p3 p4)) :
    MetFree l x (head1 (Jvm.Cond.code x code maxLocals ret :: ws) room_1) (fun a U => a = #[(.int p0), (.long p1), (.int p2), (.long p3), (.int p4)] ∧ Z.Warmed39 U.vm ∧ U.heap = h0) (fun _ _ _ _ _ => True) (fun _ U o U' => ∃ v L, o = .returned v ∧ Q0 Z  h0 n0 v U'.heap L ∧ FrameEnd U o U' L 16 128) := by
  refine MetFree.of_bodySF (plainFor_of_name pn_0) hisR ?_
  intro p e s m args below meth c s₁ Bd hml0 hP hK
  obtain ⟨rfl, hZ, hh⟩ := hP
  have hx := Bd.exec
  have hby := Bd.bytes
  have hml : c.maxLocals = 17 := hml0
  have hown : s.vm.findClass "com/example/allsome/allsome/cypher/SelectorEqualsPinLaw" = some m.cls := findClass_of_methodNamed Bd.named
  have hnm := (name_of_methodNamed Bd.named Bd.method).1
  have X0 : Stand p l e room_1 s m #[(.int p0), (.long p1), (.int p2), (.long p3), (.int p4)] below meth c s₁ [] 0 0 := Stand.of_body Bd
  have e0 : s₁.heap = h0 := by rw [← hh, Bd.state]; rfl
  have N0 := Fr.nil n0
  refine own_go (own_lift (fun t k => castTop (ef_rm0_Y m p0 p1 p2 p3 p4) k) ?_)
  show own_Go p.tables e below (s₁.setTop (mkF m 0 #[iv p0, jv p1, .second, iv p2, jv p3, .second, iv p4, .unset, .unset, .unset, .unset, .unset, .unset, .unset, .unset, .unset, .unset] [])) _
  have sg1 : ∀ t, Steps p.tables e below (s₁.setTop (mkF m 6 #[iv p0, jv p1, .second, iv p2, jv p3, .second, iv p4, iv (p0 &&& (7 : Int32)), .unset, .unset, .unset, .unset, .unset, .unset, .unset, .unset, .unset] [])) t → Steps p.tables e below (s₁.setTop (mkF m 0 #[iv p0, jv p1, .second, iv p2, jv p3, .second, iv p4, .unset, .unset, .unset, .unset, .unset, .unset, .unset, .unset, .unset, .unset] [])) t := by
    intro t k
    refine XS.iloadN X0.here hx rfl (hb hby at_0) rfl ?_
    show Steps p.tables e below (s₁.setTop (mkF m 1 #[iv p0, jv p1, .second, iv p2, jv p3, .second, iv p4, .unset, .unset, .unset, .unset, .unset, .unset, .unset, .unset, .unset, .unset] [(.int p0)])) _
    refine XS.bipush X0.here hx rfl (hb hby at_1) ?_
    show Steps p.tables e below (s₁.setTop (mkF m 3 #[iv p0, jv p1, .second, iv p2, jv p3, .second, iv p4, .unset, .unset, .unset, .unset, .unset, .unset, .unset, .unset, .unset, .unset] [(.int 7), (.int p0)])) _
    refine XS.iand X0.here hx rfl (hb hby at_3) rfl ?_
    show Steps p.tables e below (s₁.setTop (mkF m 4 #[iv p0, jv p1, .second, iv p2, jv p3, .second, iv p4, .unset, .unset, .unset, .unset, .unset, .unset, .unset, .unset, .unset, .unset] [(.int (p0 &&& (7 : Int32)))])) _
    refine XS.istore X0.here hx rfl (hb hby at_4) rfl (l' := #[iv p0, jv p1, .second, iv p2, jv p3, .second, iv p4, iv (p0 &&& (7 : Int32)), .unset, .unset, .unset, .unset, .unset, .unset, .unset, .unset, .unset]) rfl ?_
    show Steps p.tables e below (s₁.setTop (mkF m 6 #[iv p0, jv p1, .second, iv p2, jv p3, .second, iv p4, iv (p0 &&& (7 : Int32)), .unset, .unset, .unset, .unset, .unset, .unset, .unset, .unset, .unset] [])) _
    exact k
  refine own_lift sg1 ?_
  show own_Go p.tables e below (s₁.setTop (mkF m 6 #[iv p0, jv p1, .second, iv p2, jv p3, .second, iv p4, iv (p0 &&& (7 : Int32)), .unset, .unset, .unset, .unset, .unset, .unset, .unset, .unset, .unset] [])) _
  have join2 : ∀ (T2 : State) (locs2 : List Loc), Stand p l e room_1 s m #[(.int p0), (.long p1), (.int p2), (.long p3), (.int p4)] below meth c T2 locs2 0 0 → T2.heap = h0 → Fr n0 locs2 → own_Go p.tables e below (T2.setTop (mkF m 22 #[iv p0, jv p1, .second, iv p2, jv p3, .second, iv p4, iv (p0 &&& (7 : Int32)), .unset, .unset, .unset, .unset, .unset, .unset, .unset, .unset, .unset] [(.int (own_ib p0 p2 p4))])) (fun s₂ o => s₂.status = .running ∧ Ended s₂ below o ∧ ∃ v L, o = .returned v ∧ Q0 Z  h0 n0 v s₂.heap L ∧ FrameEnd s o s₂ L 16 128) := by
    intro T2 locs2 X2 e2 N2
    have sg3 : ∀ t, Steps p.tables e below (T2.setTop (mkF m 24 #[iv p0, jv p1, .second, iv p2, jv p3, .second, iv p4, iv (p0 &&& (7 : Int32)), iv (own_ib p0 p2 p4), .unset, .unset, .unset, .unset, .unset, .unset, .unset, .unset] [])) t → Steps p.tables e below (T2.setTop (mkF m 22 #[iv p0, jv p1, .second, iv p2, jv p3, .second, iv p4, iv (p0 &&& (7 : Int32)), .unset, .unset, .unset, .unset, .unset, .unset, .unset, .unset, .unset] [(.int (own_ib p0 p2 p4))])) t := by
      intro t k
      refine XS.istore X2.here hx rfl (hb hby at_22) rfl (l' := #[iv p0, jv p1, .second, iv p2, jv p3, .second, iv p4, iv (p0 &&& (7 : Int32)), iv (own_ib p0 p2 p4), .unset, .unset, .unset, .unset, .unset, .unset, .unset, .unset]) rfl ?_
      show Steps p.tables e below (T2.setTop (mkF m 24 #[iv p0, jv p1, .second, iv p2, jv p3, .second, iv p4, iv (p0 &&& (7 : Int32)), iv (own_ib p0 p2 p4), .unset, .unset, .unset, .unset, .unset, .unset, .unset, .unset] [])) _
      exact k
    refine own_lift sg3 ?_
    show own_Go p.tables e below (T2.setTop (mkF m 24 #[iv p0, jv p1, .second, iv p2, jv p3, .second, iv p4, iv (p0 &&& (7 : Int32)), iv (own_ib p0 p2 p4), .unset, .unset, .unset, .unset, .unset, .unset, .unset, .unset] [])) _
    have join4 : ∀ (T4 : State) (locs4 : List Loc), Stand p l e room_1 s m #[(.int p0), (.long p1), (.int p2), (.long p3), (.int p4)] below meth c T4 locs4 0 0 → T4.heap = h0 → Fr n0 locs4 → own_Go p.tables e below (T4.setTop (mkF m 37 #[iv p0, jv p1, .second, iv p2, jv p3, .second, iv p4, iv (p0 &&& (7 : Int32)), iv (own_ib p0 p2 p4), .unset, .unset, .unset, .unset, .unset, .unset, .unset, .unset] [(.long (own_cb p1 p3 p4))])) (fun s₂ o => s₂.status = .running ∧ Ended s₂ below o ∧ ∃ v L, o = .returned v ∧ Q0 Z  h0 n0 v s₂.heap L ∧ FrameEnd s o s₂ L 16 128) := by
      intro T4 locs4 X4 e4 N4
      have sg5 : ∀ t, Steps p.tables e below (T4.setTop (mkF m 39 #[iv p0, jv p1, .second, iv p2, jv p3, .second, iv p4, iv (p0 &&& (7 : Int32)), iv (own_ib p0 p2 p4), jv (own_cb p1 p3 p4), .second, .unset, .unset, .unset, .unset, .unset, .unset] [])) t → Steps p.tables e below (T4.setTop (mkF m 37 #[iv p0, jv p1, .second, iv p2, jv p3, .second, iv p4, iv (p0 &&& (7 : Int32)), iv (own_ib p0 p2 p4), .unset, .unset, .unset, .unset, .unset, .unset, .unset, .unset] [(.long (own_cb p1 p3 p4))])) t := by
        intro t k
        refine XS.lstore X4.here hx rfl (hb hby at_37) rfl (l' := #[iv p0, jv p1, .second, iv p2, jv p3, .second, iv p4, iv (p0 &&& (7 : Int32)), iv (own_ib p0 p2 p4), jv (own_cb p1 p3 p4), .second, .unset, .unset, .unset, .unset, .unset, .unset]) rfl ?_
        show Steps p.tables e below (T4.setTop (mkF m 39 #[iv p0, jv p1, .second, iv p2, jv p3, .second, iv p4, iv (p0 &&& (7 : Int32)), iv (own_ib p0 p2 p4), jv (own_cb p1 p3 p4), .second, .unset, .unset, .unset, .unset, .unset, .unset] [])) _
        exact k
      refine own_lift sg5 ?_
      show own_Go p.tables e below (T4.setTop (mkF m 39 #[iv p0, jv p1, .second, iv p2, jv p3, .second, iv p4, iv (p0 &&& (7 : Int32)), iv (own_ib p0 p2 p4), jv (own_cb p1 p3 p4), .second, .unset, .unset, .unset, .unset, .unset, .unset] [])) _
      obtain ⟨T6, h6, X6, e6, Ex6, Ax6, Dx6, Ux6, st6⟩ := newO X4 hx hZ hown (wd hw 0 rfl) (wd hw 1 rfl) (wd hw 2 rfl) e4 (g := (mkF m 39 #[iv p0, jv p1, .second, iv p2, jv p3, .second, iv p4, iv (p0 &&& (7 : Int32)), iv (own_ib p0 p2 p4), jv (own_cb p1 p3 p4), .second, .unset, .unset, .unset, .unset, .unset, .unset] [])) rfl (hb hby at_39) (by decide) (by decide)
      obtain ⟨ob6, g6⟩ : ∃ z, z = h0.size := ⟨_, rfl⟩
      rw [← g6] at Ax6 Dx6 Ux6 st6
      have ne7 : as_SHORTEST_PATH ≠ ob6 := Nat.ne_of_lt (Nat.lt_of_lt_of_le O_SHORTEST_PATH.lt (Nat.le_of_eq g6.symm))
      have ne8 : as_ALL_SHORTEST_PATHS ≠ ob6 := Nat.ne_of_lt (Nat.lt_of_lt_of_le O_ALL_SHORTEST_PATHS.lt (Nat.le_of_eq g6.symm))
      have ne9 : as_ANY_SHORTEST ≠ ob6 := Nat.ne_of_lt (Nat.lt_of_lt_of_le O_ANY_SHORTEST.lt (Nat.le_of_eq g6.symm))
      have ne10 : as_ALL_SHORTEST ≠ ob6 := Nat.ne_of_lt (Nat.lt_of_lt_of_le O_ALL_SHORTEST.lt (Nat.le_of_eq g6.symm))
      have ne11 : as_ANY ≠ ob6 := Nat.ne_of_lt (Nat.lt_of_lt_of_le O_ANY.lt (Nat.le_of_eq g6.symm))
      have ne12 : as_ALL ≠ ob6 := Nat.ne_of_lt (Nat.lt_of_lt_of_le O_ALL.lt (Nat.le_of_eq g6.symm))
      have ne13 : as_SHORTEST ≠ ob6 := Nat.ne_of_lt (Nat.lt_of_lt_of_le O_SHORTEST.lt (Nat.le_of_eq g6.symm))
      have ne14 : as_SHORTEST_GROUPS ≠ ob6 := Nat.ne_of_lt (Nat.lt_of_lt_of_le O_SHORTEST_GROUPS.lt (Nat.le_of_eq g6.symm))
      have ne15 : ca ≠ ob6 := Nat.ne_of_lt (Nat.lt_of_lt_of_le A1.lt (Nat.le_of_eq g6.symm))
      have Z6 : n0 ≤ h6.size := Nat.le_trans Z0 Ex6.1
      have ge6 : n0 ≤ ob6 := Nat.le_trans Z0 (Nat.le_of_eq g6.symm)
      have Fn6_17 : Fld Z h6 ob6 "com/example/allsome/allsome/cypher/PathPattern$Selector" "kind" "Lcom/example/allsome/allsome/cypher/PathPattern$Selector$Kind;" .null := Dx6 (Or.inr (wd hw 17 rfl)) (ty := (.object "com/example/allsome/allsome/cypher/PathPattern$Selector$Kind")) (by decide)
      have Fn6_19 : Fld Z h6 ob6 "com/example/allsome/allsome/cypher/PathPattern$Selector" "count" "J" (.long 0) := Dx6 (Or.inr (wd hw 19 rfl)) (ty := .long) (by decide)
      refine own_lift st6 ?_
      show own_Go p.tables e below (T6.setTop (mkF m 42 #[iv p0, jv p1, .second, iv p2, jv p3, .second, iv p4, iv (p0 &&& (7 : Int32)), iv (own_ib p0 p2 p4), jv (own_cb p1 p3 p4), .second, .unset, .unset, .unset, .unset, .unset, .unset] [(.ref ob6)])) _
      have sg16 : ∀ t, Steps p.tables e below (T6.setTop (mkF m 45 #[iv p0, jv p1, .second, iv p2, jv p3, .second, iv p4, iv (p0 &&& (7 : Int32)), iv (own_ib p0 p2 p4), jv (own_cb p1 p3 p4), .second, .unset, .unset, .unset, .unset, .unset, .unset] [(.int (p0 &&& (7 : Int32))), (.ref ob6), (.ref ob6)])) t → Steps p.tables e below (T6.setTop (mkF m 42 #[iv p0, jv p1, .second, iv p2, jv p3, .second, iv p4, iv (p0 &&& (7 : Int32)), iv (own_ib p0 p2 p4), jv (own_cb p1 p3 p4), .second, .unset, .unset, .unset, .unset, .unset, .unset] [(.ref ob6)])) t := by
        intro t k
        refine XS.dup X6.here hx rfl (hb hby at_42) rfl rfl ?_
        show Steps p.tables e below (T6.setTop (mkF m 43 #[iv p0, jv p1, .second, iv p2, jv p3, .second, iv p4, iv (p0 &&& (7 : Int32)), iv (own_ib p0 p2 p4), jv (own_cb p1 p3 p4), .second, .unset, .unset, .unset, .unset, .unset, .unset] [(.ref ob6), (.ref ob6)])) _
        refine XS.iload X6.here hx rfl (hb hby at_43) rfl ?_
        show Steps p.tables e below (T6.setTop (mkF m 45 #[iv p0, jv p1, .second, iv p2, jv p3, .second, iv p4, iv (p0 &&& (7 : Int32)), iv (own_ib p0 p2 p4), jv (own_cb p1 p3 p4), .second, .unset, .unset, .unset, .unset, .unset, .unset] [(.int (p0 &&& (7 : Int32))), (.ref ob6), (.ref ob6)])) _
        exact k
      refine own_lift sg16 ?_
      show own_Go p.tables e below (T6.setTop (mkF m 45 #[iv p0, jv p1, .second, iv p2, jv p3, .second, iv p4, iv (p0 &&& (7 : Int32)), iv (own_ib p0 p2 p4), jv (own_cb p1 p3 p4), .second, .unset, .unset, .unset, .unset, .unset, .unset] [(.int (p0 &&& (7 : Int32))), (.ref ob6), (.ref ob6)])) _
      have Fc17 : Sta Z h6 "com/example/allsome/allsome/cypher/PathPattern$Selector$Kind" "SHORTEST_PATH" "Lcom/example/allsome/allsome/cypher/PathPattern$Selector$Kind;" (.ref as_SHORTEST_PATH) := (S_SHORTEST_PATH.ext Ex6)
      have Fc18 : Sta Z h6 "com/example/allsome/allsome/cypher/PathPattern$Selector$Kind" "ALL_SHORTEST_PATHS" "Lcom/example/allsome/allsome/cypher/PathPattern$Selector$Kind;" (.ref as_ALL_SHORTEST_PATHS) := (S_ALL_SHORTEST_PATHS.ext Ex6)
      have Fc19 : Sta Z h6 "com/example/allsome/allsome/cypher/PathPattern$Selector$Kind" "ANY_SHORTEST" "Lcom/example/allsome/allsome/cypher/PathPattern$Selector$Kind;" (.ref as_ANY_SHORTEST) := (S_ANY_SHORTEST.ext Ex6)
      have Fc20 : Sta Z h6 "com/example/allsome/allsome/cypher/PathPattern$Selector$Kind" "ALL_SHORTEST" "Lcom/example/allsome/allsome/cypher/PathPattern$Selector$Kind;" (.ref as_ALL_SHORTEST) := (S_ALL_SHORTEST.ext Ex6)
      have Fc21 : Sta Z h6 "com/example/allsome/allsome/cypher/PathPattern$Selector$Kind" "ANY" "Lcom/example/allsome/allsome/cypher/PathPattern$Selector$Kind;" (.ref as_ANY) := (S_ANY.ext Ex6)
      have Fc22 : Sta Z h6 "com/example/allsome/allsome/cypher/PathPattern$Selector$Kind" "ALL" "Lcom/example/allsome/allsome/cypher/PathPattern$Selector$Kind;" (.ref as_ALL) := (S_ALL.ext Ex6)
      have Fc23 : Sta Z h6 "com/example/allsome/allsome/cypher/PathPattern$Selector$Kind" "SHORTEST" "Lcom/example/allsome/allsome/cypher/PathPattern$Selector$Kind;" (.ref as_SHORTEST) := (S_SHORTEST.ext Ex6)
      have Fc24 : Sta Z h6 "com/example/allsome/allsome/cypher/PathPattern$Selector$Kind" "SHORTEST_GROUPS" "Lcom/example/allsome/allsome/cypher/PathPattern$Selector$Kind;" (.ref as_SHORTEST_GROUPS) := (S_SHORTEST_GROUPS.ext Ex6)
      obtain ⟨_, _, ⟨T25, Lx25, kx25, nx25⟩, -, X25, ⟨Lc25, hQ25, lx25, yx25, zx25⟩, st25⟩ := Jvm.LawKit.callS X6 hx (y := (⟨"com/example/allsome/allsome/cypher/SelectorEqualsPinLaw", "kind", "(I)Lcom/example/allsome/allsome/cypher/PathPattern$Selector$Kind;"⟩ : MethodName)) hown (mvT hZ (wd hw 3 rfl)) (mvT hZ (wd hw 4 rfl)) (mvT hZ (wd hw 5 rfl)) (mvT hZ (wd hw 6 rfl)) (by decide) (backOf (W := 2) (rmKind l Z a0 hw [] (p0 &&& (7 : Int32)) as_SHORTEST_PATH as_ALL_SHORTEST_PATHS as_ANY_SHORTEST as_ALL_SHORTEST as_ANY as_ALL as_SHORTEST as_SHORTEST_GROUPS h6 n0 Z6 Fc17 Fc18 Fc19 Fc20 Fc21 Fc22 Fc23 Fc24) hZ (wd hw 6 rfl) (wd hw 5 rfl) (by decide) (by decide)) (g := (mkF m 45 #[iv p0, jv p1, .second, iv p2, jv p3, .second, iv p4, iv (p0 &&& (7 : Int32)), iv (own_ib p0 p2 p4), jv (own_cb p1 p3 p4), .second, .unset, .unset, .unset, .unset, .unset, .unset] [(.int (p0 &&& (7 : Int32))), (.ref ob6), (.ref ob6)])) rfl (by rw [hml]; rfl) (argsL := [(.int (p0 &&& (7 : Int32)))]) (rest := [(.ref ob6), (.ref ob6)]) (lenOf pd_2 rfl) rfl (by show 2 * 0 + _ ≤ _; exact Nat.le_of_eq rfl) (hb hby at_45) (fun _ _ => ⟨rfl, e6, (by decide : 1 + 0 ≤ _), (by decide : 2 + 0 ≤ _)⟩)
      dsimp only [Pt.U, Pt.locs, Pt.cells, Pt.slots] at X25 lx25 yx25 zx25 st25 hQ25
      subst lx25 yx25 zx25
      obtain ⟨rfl, N25q, e25⟩ := hQ25
      have N25 := Fr.app N4 N25q
      refine own_lift st25 ?_
      show own_Go p.tables e below (T25.setTop (mkF m 48 #[iv p0, jv p1, .second, iv p2, jv p3, .second, iv p4, iv (p0 &&& (7 : Int32)), iv (own_ib p0 p2 p4), jv (own_cb p1 p3 p4), .second, .unset, .unset, .unset, .unset, .unset, .unset] [(.ref (own_kind (p0 &&& (7 : Int32)) as_SHORTEST_PATH as_ALL_SHORTEST_PATHS as_ANY_SHORTEST as_ALL_SHORTEST as_ANY as_ALL as_SHORTEST as_SHORTEST_GROUPS)), (.ref ob6), (.ref ob6)])) _
      have sg26 : ∀ t, Steps p.tables e below (T25.setTop (mkF m 49 #[iv p0, jv p1, .second, iv p2, jv p3, .second, iv p4, iv (p0 &&& (7 : Int32)), iv (own_ib p0 p2 p4), jv (own_cb p1 p3 p4), .second, .unset, .unset, .unset, .unset, .unset, .unset] [(.long p1), (.ref (own_kind (p0 &&& (7 : Int32)) as_SHORTEST_PATH as_ALL_SHORTEST_PATHS as_ANY_SHORTEST as_ALL_SHORTEST as_ANY as_ALL as_SHORTEST as_SHORTEST_GROUPS)), (.ref ob6), (.ref ob6)])) t → Steps p.tables e below (T25.setTop (mkF m 48 #[iv p0, jv p1, .second, iv p2, jv p3, .second, iv p4, iv (p0 &&& (7 : Int32)), iv (own_ib p0 p2 p4), jv (own_cb p1 p3 p4), .second, .unset, .unset, .unset, .unset, .unset, .unset] [(.ref (own_kind (p0 &&& (7 : Int32)) as_SHORTEST_PATH as_ALL_SHORTEST_PATHS as_ANY_SHORTEST as_ALL_SHORTEST as_ANY as_ALL as_SHORTEST as_SHORTEST_GROUPS)), (.ref ob6), (.ref ob6)])) t := by
        intro t k
        refine XS.lloadN X25.here hx rfl (hb hby at_48) rfl ?_
        show Steps p.tables e below (T25.setTop (mkF m 49 #[iv p0, jv p1, .second, iv p2, jv p3, .second, iv p4, iv (p0 &&& (7 : Int32)), iv (own_ib p0 p2 p4), jv (own_cb p1 p3 p4), .second, .unset, .unset, .unset, .unset, .unset, .unset] [(.long p1), (.ref (own_kind (p0 &&& (7 : Int32)) as_SHORTEST_PATH as_ALL_SHORTEST_PATHS as_ANY_SHORTEST as_ALL_SHORTEST as_ANY as_ALL as_SHORTEST as_SHORTEST_GROUPS)), (.ref ob6), (.ref ob6)])) _
        exact k
      refine own_lift sg26 ?_
      show own_Go p.tables e below (T25.setTop (mkF m 49 #[iv p0, jv p1, .second, iv p2, jv p3, .second, iv p4, iv (p0 &&& (7 : Int32)), iv (own_ib p0 p2 p4), jv (own_cb p1 p3 p4), .second, .unset, .unset, .unset, .unset, .unset, .unset] [(.long p1), (.ref (own_kind (p0 &&& (7 : Int32)) as_SHORTEST_PATH as_ALL_SHORTEST_PATHS as_ANY_SHORTEST as_ALL_SHORTEST as_ANY as_ALL as_SHORTEST as_SHORTEST_GROUPS)), (.ref ob6), (.ref ob6)])) _
      obtain ⟨_, _, ⟨T27, Lx27, kx27, nx27⟩, -, X27, ⟨Lc27, hQ27, lx27, yx27, zx27⟩, st27⟩ := X25.specialBack hx (y := (⟨"com/example/allsome/allsome/cypher/PathPattern$Selector", "<init>", "(Lcom/example/allsome/allsome/cypher/PathPattern$Selector$Kind;J)V"⟩ : MethodName)) rfl hown (mvT hZ (wd hw 10 rfl)) (mvT hZ (wd hw 11 rfl)) (mvT hZ (wd hw 12 rfl)) (by decide) (backOf (W := 1) (rmInit l Z a0 hw [] ob6 (own_kind (p0 &&& (7 : Int32)) as_SHORTEST_PATH as_ALL_SHORTEST_PATHS as_ANY_SHORTEST as_ALL_SHORTEST as_ANY as_ALL as_SHORTEST as_SHORTEST_GROUPS) p1 h6 n0 Z6 Fn6_17 Fn6_19 Ax6 ge6) hZ (wd hw 12 rfl) (wd hw 2 rfl) (by decide) (by decide)) (g := (mkF m 49 #[iv p0, jv p1, .second, iv p2, jv p3, .second, iv p4, iv (p0 &&& (7 : Int32)), iv (own_ib p0 p2 p4), jv (own_cb p1 p3 p4), .second, .unset, .unset, .unset, .unset, .unset, .unset] [(.long p1), (.ref (own_kind (p0 &&& (7 : Int32)) as_SHORTEST_PATH as_ALL_SHORTEST_PATHS as_ANY_SHORTEST as_ALL_SHORTEST as_ANY as_ALL as_SHORTEST as_SHORTEST_GROUPS)), (.ref ob6), (.ref ob6)])) rfl (by rw [hml]; rfl) (Steps.refl _) (a := ob6) (argsL := [(.ref (own_kind (p0 &&& (7 : Int32)) as_SHORTEST_PATH as_ALL_SHORTEST_PATHS as_ANY_SHORTEST as_ALL_SHORTEST as_ANY as_ALL as_SHORTEST as_SHORTEST_GROUPS)), (.long p1)]) (rest := [(.ref ob6)]) (lenOf pd_3 rfl) rfl (by show 2 * 0 + _ ≤ _; exact Nat.le_of_eq rfl) (hb hby at_49) (fun _ _ => ⟨rfl, e25, (by decide : 1 + 0 ≤ _), (by decide : 2 + 0 ≤ _)⟩)
      dsimp only [Pt.U, Pt.locs, Pt.cells, Pt.slots] at X27 lx27 yx27 zx27 st27 hQ27
      subst lx27 yx27 zx27
      obtain ⟨rfl, N27q, p27_0, p27_1, p27_2, p27_3⟩ := hQ27
      have N27 := Fr.app N25 N27q
      have Z27 : n0 ≤ T27.heap.size := Nat.le_trans Z6 p27_0.1
      refine own_lift (fun t k => st27.trans k) ?_
      show own_Go p.tables e below (T27.setTop (mkF m 52 #[iv p0, jv p1, .second, iv p2, jv p3, .second, iv p4, iv (p0 &&& (7 : Int32)), iv (own_ib p0 p2 p4), jv (own_cb p1 p3 p4), .second, .unset, .unset, .unset, .unset, .unset, .unset] [(.ref ob6)])) _
      have sg28 : ∀ t, Steps p.tables e below (T27.setTop (mkF m 54 #[iv p0, jv p1, .second, iv p2, jv p3, .second, iv p4, iv (p0 &&& (7 : Int32)), iv (own_ib p0 p2 p4), jv (own_cb p1 p3 p4), .second, rv ob6, .unset, .unset, .unset, .unset, .unset] [])) t → Steps p.tables e below (T27.setTop (mkF m 52 #[iv p0, jv p1, .second, iv p2, jv p3, .second, iv p4, iv (p0 &&& (7 : Int32)), iv (own_ib p0 p2 p4), jv (own_cb p1 p3 p4), .second, .unset, .unset, .unset, .unset, .unset, .unset] [(.ref ob6)])) t := by
        intro t k
        refine XS.astore X27.here hx rfl (hb hby at_52) rfl rfl (l' := #[iv p0, jv p1, .second, iv p2, jv p3, .second, iv p4, iv (p0 &&& (7 : Int32)), iv (own_ib p0 p2 p4), jv (own_cb p1 p3 p4), .second, rv ob6, .unset, .unset, .unset, .unset, .unset]) rfl ?_
        show Steps p.tables e below (T27.setTop (mkF m 54 #[iv p0, jv p1, .second, iv p2, jv p3, .second, iv p4, iv (p0 &&& (7 : Int32)), iv (own_ib p0 p2 p4), jv (own_cb p1 p3 p4), .second, rv ob6, .unset, .unset, .unset, .unset, .unset] [])) _
        exact k
      refine own_lift sg28 ?_
      show own_Go p.tables e below (T27.setTop (mkF m 54 #[iv p0, jv p1, .second, iv p2, jv p3, .second, iv p4, iv (p0 &&& (7 : Int32)), iv (own_ib p0 p2 p4), jv (own_cb p1 p3 p4), .second, rv ob6, .unset, .unset, .unset, .unset, .unset] [])) _
      obtain ⟨T29, h29, X29, e29, Ex29, Ax29, Dx29, Ux29, st29⟩ := newO X27 hx hZ hown (wd hw 0 rfl) (wd hw 1 rfl) (wd hw 2 rfl) rfl (g := (mkF m 54 #[iv p0, jv p1, .second, iv p2, jv p3, .second, iv p4, iv (p0 &&& (7 : Int32)), iv (own_ib p0 p2 p4), jv (own_cb p1 p3 p4), .second, rv ob6, .unset, .unset, .unset, .unset, .unset] [])) rfl (hb hby at_54) (by decide) (by decide)
      obtain ⟨ob29, g29⟩ : ∃ z, z = T27.heap.size := ⟨_, rfl⟩
      rw [← g29] at Ax29 Dx29 Ux29 st29
      have Fc30 : Fld Z T27.heap as_SHORTEST_PATH "java/lang/Enum" "ordinal" "I" (.int 0) := ((O_SHORTEST_PATH.ext Ex6).keep p27_0 (ninS ne7 nin0))
      have ne31 : as_SHORTEST_PATH ≠ ob29 := Nat.ne_of_lt (Nat.lt_of_lt_of_le Fc30.lt (Nat.le_of_eq g29.symm))
      have Fc32 : Fld Z T27.heap as_ALL_SHORTEST_PATHS "java/lang/Enum" "ordinal" "I" (.int 1) := ((O_ALL_SHORTEST_PATHS.ext Ex6).keep p27_0 (ninS ne8 nin0))
      have ne33 : as_ALL_SHORTEST_PATHS ≠ ob29 := Nat.ne_of_lt (Nat.lt_of_lt_of_le Fc32.lt (Nat.le_of_eq g29.symm))
      have Fc34 : Fld Z T27.heap as_ANY_SHORTEST "java/lang/Enum" "ordinal" "I" (.int 2) := ((O_ANY_SHORTEST.ext Ex6).keep p27_0 (ninS ne9 nin0))
      have ne35 : as_ANY_SHORTEST ≠ ob29 := Nat.ne_of_lt (Nat.lt_of_lt_of_le Fc34.lt (Nat.le_of_eq g29.symm))
      have Fc36 : Fld Z T27.heap as_ALL_SHORTEST "java/lang/Enum" "ordinal" "I" (.int 3) := ((O_ALL_SHORTEST.ext Ex6).keep p27_0 (ninS ne10 nin0))
      have ne37 : as_ALL_SHORTEST ≠ ob29 := Nat.ne_of_lt (Nat.lt_of_lt_of_le Fc36.lt (Nat.le_of_eq g29.symm))
      have Fc38 : Fld Z T27.heap as_ANY "java/lang/Enum" "ordinal" "I" (.int 4) := ((O_ANY.ext Ex6).keep p27_0 (ninS ne11 nin0))
      have ne39 : as_ANY ≠ ob29 := Nat.ne_of_lt (Nat.lt_of_lt_of_le Fc38.lt (Nat.le_of_eq g29.symm))
      have Fc40 : Fld Z T27.heap as_ALL "java/lang/Enum" "ordinal" "I" (.int 5) := ((O_ALL.ext Ex6).keep p27_0 (ninS ne12 nin0))
      have ne41 : as_ALL ≠ ob29 := Nat.ne_of_lt (Nat.lt_of_lt_of_le Fc40.lt (Nat.le_of_eq g29.symm))
      have Fc42 : Fld Z T27.heap as_SHORTEST "java/lang/Enum" "ordinal" "I" (.int 6) := ((O_SHORTEST.ext Ex6).keep p27_0 (ninS ne13 nin0))
      have ne43 : as_SHORTEST ≠ ob29 := Nat.ne_of_lt (Nat.lt_of_lt_of_le Fc42.lt (Nat.le_of_eq g29.symm))
      have Fc44 : Fld Z T27.heap as_SHORTEST_GROUPS "java/lang/Enum" "ordinal" "I" (.int 7) := ((O_SHORTEST_GROUPS.ext Ex6).keep p27_0 (ninS ne14 nin0))
      have ne45 : as_SHORTEST_GROUPS ≠ ob29 := Nat.ne_of_lt (Nat.lt_of_lt_of_le Fc44.lt (Nat.le_of_eq g29.symm))
      have Fc46 : Arr Z T27.heap ca cc (.object "java/lang/Long") := (own_Arr_keep (A1.ext Ex6) p27_0 (ninS ne15 nin0))
      have ne47 : ca ≠ ob29 := Nat.ne_of_lt (Nat.lt_of_lt_of_le Fc46.lt (Nat.le_of_eq g29.symm))
      have ne48 : ob6 ≠ ob29 := Nat.ne_of_lt (Nat.lt_of_lt_of_le p27_1.lt (Nat.le_of_eq g29.symm))
      have Z29 : n0 ≤ h29.size := Nat.le_trans Z27 Ex29.1
      have ge29 : n0 ≤ ob29 := Nat.le_trans Z27 (Nat.le_of_eq g29.symm)
      have Fn29_17 : Fld Z h29 ob29 "com/example/allsome/allsome/cypher/PathPattern$Selector" "kind" "Lcom/example/allsome/allsome/cypher/PathPattern$Selector$Kind;" .null := Dx29 (Or.inr (wd hw 17 rfl)) (ty := (.object "com/example/allsome/allsome/cypher/PathPattern$Selector$Kind")) (by decide)
      have Fn29_19 : Fld Z h29 ob29 "com/example/allsome/allsome/cypher/PathPattern$Selector" "count" "J" (.long 0) := Dx29 (Or.inr (wd hw 19 rfl)) (ty := .long) (by decide)
      refine own_lift st29 ?_
      show own_Go p.tables e below (T29.setTop (mkF m 57 #[iv p0, jv p1, .second, iv p2, jv p3, .second, iv p4, iv (p0 &&& (7 : Int32)), iv (own_ib p0 p2 p4), jv (own_cb p1 p3 p4), .second, rv ob6, .unset, .unset, .unset, .unset, .unset] [(.ref ob29)])) _
      have sg49 : ∀ t, Steps p.tables e below (T29.setTop (mkF m 60 #[iv p0, jv p1, .second, iv p2, jv p3, .second, iv p4, iv (p0 &&& (7 : Int32)), iv (own_ib p0 p2 p4), jv (own_cb p1 p3 p4), .second, rv ob6, .unset, .unset, .unset, .unset, .unset] [(.int (own_ib p0 p2 p4)), (.ref ob29), (.ref ob29)])) t → Steps p.tables e below (T29.setTop (mkF m 57 #[iv p0, jv p1, .second, iv p2, jv p3, .second, iv p4, iv (p0 &&& (7 : Int32)), iv (own_ib p0 p2 p4), jv (own_cb p1 p3 p4), .second, rv ob6, .unset, .unset, .unset, .unset, .unset] [(.ref ob29)])) t := by
        intro t k
        refine XS.dup X29.here hx rfl (hb hby at_57) rfl rfl ?_
        show Steps p.tables e below (T29.setTop (mkF m 58 #[iv p0, jv p1, .second, iv p2, jv p3, .second, iv p4, iv (p0 &&& (7 : Int32)), iv (own_ib p0 p2 p4), jv (own_cb p1 p3 p4), .second, rv ob6, .unset, .unset, .unset, .unset, .unset] [(.ref ob29), (.ref ob29)])) _
        refine XS.iload X29.here hx rfl (hb hby at_58) rfl ?_
        show Steps p.tables e below (T29.setTop (mkF m 60 #[iv p0, jv p1, .second, iv p2, jv p3, .second, iv p4, iv (p0 &&& (7 : Int32)), iv (own_ib p0 p2 p4), jv (own_cb p1 p3 p4), .second, rv ob6, .unset, .unset, .unset, .unset, .unset] [(.int (own_ib p0 p2 p4)), (.ref ob29), (.ref ob29)])) _
        exact k
      refine own_lift sg49 ?_
      show own_Go p.tables e below (T29.setTop (mkF m 60 #[iv p0, jv p1, .second, iv p2, jv p3, .second, iv p4, iv (p0 &&& (7 : Int32)), iv (own_ib p0 p2 p4), jv (own_cb p1 p3 p4), .second, rv ob6, .unset, .unset, .unset, .unset, .unset] [(.int (own_ib p0 p2 p4)), (.ref ob29), (.ref ob29)])) _
      have Fc50 : Sta Z h29 "com/example/allsome/allsome/cypher/PathPattern$Selector$Kind" "SHORTEST_PATH" "Lcom/example/allsome/allsome/cypher/PathPattern$Selector$Kind;" (.ref as_SHORTEST_PATH) := ((own_Sta_keep Fc17 p27_0 (allS (own_plain Ax6) all0)).ext Ex29)
      have Fc51 : Sta Z h29 "com/example/allsome/allsome/cypher/PathPattern$Selector$Kind" "ALL_SHORTEST_PATHS" "Lcom/example/allsome/allsome/cypher/PathPattern$Selector$Kind;" (.ref as_ALL_SHORTEST_PATHS) := ((own_Sta_keep Fc18 p27_0 (allS (own_plain Ax6) all0)).ext Ex29)
      have Fc52 : Sta Z h29 "com/example/allsome/allsome/cypher/PathPattern$Selector$Kind" "ANY_SHORTEST" "Lcom/example/allsome/allsome/cypher/PathPattern$Selector$Kind;" (.ref as_ANY_SHORTEST) := ((own_Sta_keep Fc19 p27_0 (allS (own_plain Ax6) all0)).ext Ex29)
      have Fc53 : Sta Z h29 "com/example/allsome/allsome/cypher/PathPattern$Selector$Kind" "ALL_SHORTEST" "Lcom/example/allsome/allsome/cypher/PathPattern$Selector$Kind;" (.ref as_ALL_SHORTEST) := ((own_Sta_keep Fc20 p27_0 (allS (own_plain Ax6) all0)).ext Ex29)
      have Fc54 : Sta Z h29 "com/example/allsome/allsome/cypher/PathPattern$Selector$Kind" "ANY" "Lcom/example/allsome/allsome/cypher/PathPattern$Selector$Kind;" (.ref as_ANY) := ((own_Sta_keep Fc21 p27_0 (allS (own_plain Ax6) all0)).ext Ex29)
      have Fc55 : Sta Z h29 "com/example/allsome/allsome/cypher/PathPattern$Selector$Kind" "ALL" "Lcom/example/allsome/allsome/cypher/PathPattern$Selector$Kind;" (.ref as_ALL) := ((own_Sta_keep Fc22 p27_0 (allS (own_plain Ax6) all0)).ext Ex29)
      have Fc56 : Sta Z h29 "com/example/allsome/allsome/cypher/PathPattern$Selector$Kind" "SHORTEST" "Lcom/example/allsome/allsome/cypher/PathPattern$Selector$Kind;" (.ref as_SHORTEST) := ((own_Sta_keep Fc23 p27_0 (allS (own_plain Ax6) all0)).ext Ex29)
      have Fc57 : Sta Z h29 "com/example/allsome/allsome/cypher/PathPattern$Selector$Kind" "SHORTEST_GROUPS" "Lcom/example/allsome/allsome/cypher/PathPattern$Selector$Kind;" (.ref as_SHORTEST_GROUPS) := ((own_Sta_keep Fc24 p27_0 (allS (own_plain Ax6) all0)).ext Ex29)
      obtain ⟨_, _, ⟨T58, Lx58, kx58, nx58⟩, -, X58, ⟨Lc58, hQ58, lx58, yx58, zx58⟩, st58⟩ := Jvm.LawKit.callS X29 hx (y := (⟨"com/example/allsome/allsome/cypher/SelectorEqualsPinLaw", "kind", "(I)Lcom/example/allsome/allsome/cypher/PathPattern$Selector$Kind;"⟩ : MethodName)) hown (mvT hZ (wd hw 3 rfl)) (mvT hZ (wd hw 4 rfl)) (mvT hZ (wd hw 5 rfl)) (mvT hZ (wd hw 6 rfl)) (by decide) (backOf (W := 2) (rmKind l Z a0 hw [] (own_ib p0 p2 p4) as_SHORTEST_PATH as_ALL_SHORTEST_PATHS as_ANY_SHORTEST as_ALL_SHORTEST as_ANY as_ALL as_SHORTEST as_SHORTEST_GROUPS h29 n0 Z29 Fc50 Fc51 Fc52 Fc53 Fc54 Fc55 Fc56 Fc57) hZ (wd hw 6 rfl) (wd hw 5 rfl) (by decide) (by decide)) (g := (mkF m 60 #[iv p0, jv p1, .second, iv p2, jv p3, .second, iv p4, iv (p0 &&& (7 : Int32)), iv (own_ib p0 p2 p4), jv (own_cb p1 p3 p4), .second, rv ob6, .unset, .unset, .unset, .unset, .unset] [(.int (own_ib p0 p2 p4)), (.ref ob29), (.ref ob29)])) rfl (by rw [hml]; rfl) (argsL := [(.int (own_ib p0 p2 p4))]) (rest := [(.ref ob29), (.ref ob29)]) (lenOf pd_2 rfl) rfl (by show 2 * 0 + _ ≤ _; exact Nat.le_of_eq rfl) (hb hby at_60) (fun _ _ => ⟨rfl, e29, (by decide : 2 + 0 ≤ _), (by decide : 4 + 0 ≤ _)⟩)
      dsimp only [Pt.U, Pt.locs, Pt.cells, Pt.slots] at X58 lx58 yx58 zx58 st58 hQ58
      subst lx58 yx58 zx58
      obtain ⟨rfl, N58q, e58⟩ := hQ58
      have N58 := Fr.app N27 N58q
      refine own_lift st58 ?_
      show own_Go p.tables e below (T58.setTop (mkF m 63 #[iv p0, jv p1, .second, iv p2, jv p3, .second, iv p4, iv (p0 &&& (7 : Int32)), iv (own_ib p0 p2 p4), jv (own_cb p1 p3 p4), .second, rv ob6, .unset, .unset, .unset, .unset, .unset] [(.ref (own_kind (own_ib p0 p2 p4) as_SHORTEST_PATH as_ALL_SHORTEST_PATHS as_ANY_SHORTEST as_ALL_SHORTEST as_ANY as_ALL as_SHORTEST as_SHORTEST_GROUPS)), (.ref ob29), (.ref ob29)])) _
      have sg59 : ∀ t, Steps p.tables e below (T58.setTop (mkF m 65 #[iv p0, jv p1, .second, iv p2, jv p3, .second, iv p4, iv (p0 &&& (7 : Int32)), iv (own_ib p0 p2 p4), jv (own_cb p1 p3 p4), .second, rv ob6, .unset, .unset, .unset, .unset, .unset] [(.long (own_cb p1 p3 p4)), (.ref (own_kind (own_ib p0 p2 p4) as_SHORTEST_PATH as_ALL_SHORTEST_PATHS as_ANY_SHORTEST as_ALL_SHORTEST as_ANY as_ALL as_SHORTEST as_SHORTEST_GROUPS)), (.ref ob29), (.ref ob29)])) t → Steps p.tables e below (T58.setTop (mkF m 63 #[iv p0, jv p1, .second, iv p2, jv p3, .second, iv p4, iv (p0 &&& (7 : Int32)), iv (own_ib p0 p2 p4), jv (own_cb p1 p3 p4), .second, rv ob6, .unset, .unset, .unset, .unset, .unset] [(.ref (own_kind (own_ib p0 p2 p4) as_SHORTEST_PATH as_ALL_SHORTEST_PATHS as_ANY_SHORTEST as_ALL_SHORTEST as_ANY as_ALL as_SHORTEST as_SHORTEST_GROUPS)), (.ref ob29), (.ref ob29)])) t := by
        intro t k
        refine XS.lload X58.here hx rfl (hb hby at_63) rfl ?_
        show Steps p.tables e below (T58.setTop (mkF m 65 #[iv p0, jv p1, .second, iv p2, jv p3, .second, iv p4, iv (p0 &&& (7 : Int32)), iv (own_ib p0 p2 p4), jv (own_cb p1 p3 p4), .second, rv ob6, .unset, .unset, .unset, .unset, .unset] [(.long (own_cb p1 p3 p4)), (.ref (own_kind (own_ib p0 p2 p4) as_SHORTEST_PATH as_ALL_SHORTEST_PATHS as_ANY_SHORTEST as_ALL_SHORTEST as_ANY as_ALL as_SHORTEST as_SHORTEST_GROUPS)), (.ref ob29), (.ref ob29)])) _
        exact k
      refine own_lift sg59 ?_
      show own_Go p.tables e below (T58.setTop (mkF m 65 #[iv p0, jv p1, .second, iv p2, jv p3, .second, iv p4, iv (p0 &&& (7 : Int32)), iv (own_ib p0 p2 p4), jv (own_cb p1 p3 p4), .second, rv ob6, .unset, .unset, .unset, .unset, .unset] [(.long (own_cb p1 p3 p4)), (.ref (own_kind (own_ib p0 p2 p4) as_SHORTEST_PATH as_ALL_SHORTEST_PATHS as_ANY_SHORTEST as_ALL_SHORTEST as_ANY as_ALL as_SHORTEST as_SHORTEST_GROUPS)), (.ref ob29), (.ref ob29)])) _
      obtain ⟨_, _, ⟨T60, Lx60, kx60, nx60⟩, -, X60, ⟨Lc60, hQ60, lx60, yx60, zx60⟩, st60⟩ := X58.specialBack hx (y := (⟨"com/example/allsome/allsome/cypher/PathPattern$Selector", "<init>", "(Lcom/example/allsome/allsome/cypher/PathPattern$Selector$Kind;J)V"⟩ : MethodName)) rfl hown (mvT hZ (wd hw 10 rfl)) (mvT hZ (wd hw 11 rfl)) (mvT hZ (wd hw 12 rfl)) (by decide) (backOf (W := 1) (rmInit l Z a0 hw [] ob29 (own_kind (own_ib p0 p2 p4) as_SHORTEST_PATH as_ALL_SHORTEST_PATHS as_ANY_SHORTEST as_ALL_SHORTEST as_ANY as_ALL as_SHORTEST as_SHORTEST_GROUPS) (own_cb p1 p3 p4) h29 n0 Z29 Fn29_17 Fn29_19 Ax29 ge29) hZ (wd hw 12 rfl) (wd hw 2 rfl) (by decide) (by decide)) (g := (mkF m 65 #[iv p0, jv p1, .second, iv p2, jv p3, .second, iv p4, iv (p0 &&& (7 : Int32)), iv (own_ib p0 p2 p4), jv (own_cb p1 p3 p4), .second, rv ob6, .unset, .unset, .unset, .unset, .unset] [(.long (own_cb p1 p3 p4)), (.ref (own_kind (own_ib p0 p2 p4) as_SHORTEST_PATH as_ALL_SHORTEST_PATHS as_ANY_SHORTEST as_ALL_SHORTEST as_ANY as_ALL as_SHORTEST as_SHORTEST_GROUPS)), (.ref ob29), (.ref ob29)])) rfl (by rw [hml]; rfl) (Steps.refl _) (a := ob29) (argsL := [(.ref (own_kind (own_ib p0 p2 p4) as_SHORTEST_PATH as_ALL_SHORTEST_PATHS as_ANY_SHORTEST as_ALL_SHORTEST as_ANY as_ALL as_SHORTEST as_SHORTEST_GROUPS)), (.long (own_cb p1 p3 p4))]) (rest := [(.ref ob29)]) (lenOf pd_3 rfl) rfl (by show 2 * 0 + _ ≤ _; exact Nat.le_of_eq rfl) (hb hby at_65) (fun _ _ => ⟨rfl, e58, (by decide : 2 + 0 ≤ _), (by decide : 4 + 0 ≤ _)⟩)
      dsimp only [Pt.U, Pt.locs, Pt.cells, Pt.slots] at X60 lx60 yx60 zx60 st60 hQ60
      subst lx60 yx60 zx60
      obtain ⟨rfl, N60q, p60_0, p60_1, p60_2, p60_3⟩ := hQ60
      have N60 := Fr.app N58 N60q
      have Z60 : n0 ≤ T60.heap.size := Nat.le_trans Z29 p60_0.1
      refine own_lift (fun t k => st60.trans k) ?_
      show own_Go p.tables e below (T60.setTop (mkF m 68 #[iv p0, jv p1, .second, iv p2, jv p3, .second, iv p4, iv (p0 &&& (7 : Int32)), iv (own_ib p0 p2 p4), jv (own_cb p1 p3 p4), .second, rv ob6, .unset, .unset, .unset, .unset, .unset] [(.ref ob29)])) _
      have sg61 : ∀ t, Steps p.tables e below (T60.setTop (mkF m 71 #[iv p0, jv p1, .second, iv p2, jv p3, .second, iv p4, iv (p0 &&& (7 : Int32)), iv (own_ib p0 p2 p4), jv (own_cb p1 p3 p4), .second, rv ob6, rv ob29, .unset, .unset, .unset, .unset] [(.long p1)])) t → Steps p.tables e below (T60.setTop (mkF m 68 #[iv p0, jv p1, .second, iv p2, jv p3, .second, iv p4, iv (p0 &&& (7 : Int32)), iv (own_ib p0 p2 p4), jv (own_cb p1 p3 p4), .second, rv ob6, .unset, .unset, .unset, .unset, .unset] [(.ref ob29)])) t := by
        intro t k
        refine XS.astore X60.here hx rfl (hb hby at_68) rfl rfl (l' := #[iv p0, jv p1, .second, iv p2, jv p3, .second, iv p4, iv (p0 &&& (7 : Int32)), iv (own_ib p0 p2 p4), jv (own_cb p1 p3 p4), .second, rv ob6, rv ob29, .unset, .unset, .unset, .unset]) rfl ?_
        show Steps p.tables e below (T60.setTop (mkF m 70 #[iv p0, jv p1, .second, iv p2, jv p3, .second, iv p4, iv (p0 &&& (7 : Int32)), iv (own_ib p0 p2 p4), jv (own_cb p1 p3 p4), .second, rv ob6, rv ob29, .unset, .unset, .unset, .unset] [])) _
        refine XS.lloadN X60.here hx rfl (hb hby at_70) rfl ?_
        show Steps p.tables e below (T60.setTop (mkF m 71 #[iv p0, jv p1, .second, iv p2, jv p3, .second, iv p4, iv (p0 &&& (7 : Int32)), iv (own_ib p0 p2 p4), jv (own_cb p1 p3 p4), .second, rv ob6, rv ob29, .unset, .unset, .unset, .unset] [(.long p1)])) _
        exact k
      refine own_lift sg61 ?_
      show own_Go p.tables e below (T60.setTop (mkF m 71 #[iv p0, jv p1, .second, iv p2, jv p3, .second, iv p4, iv (p0 &&& (7 : Int32)), iv (own_ib p0 p2 p4), jv (own_cb p1 p3 p4), .second, rv ob6, rv ob29, .unset, .unset, .unset, .unset] [(.long p1)])) _
      have Fc62 : Sta Z T60.heap "java/lang/Long$LongCache" "cache" "[Ljava/lang/Long;" (.ref ca) := (own_Sta_keep ((own_Sta_keep (S2.ext Ex6) p27_0 (allS (own_plain Ax6) all0)).ext Ex29) p60_0 (allS (own_plain Ax29) all0))
      have Fc63 : Arr Z T60.heap ca cc (.object "java/lang/Long") := (own_Arr_keep (Fc46.ext Ex29) p60_0 (ninS ne47 nin0))
      have Fc64 : own_Box Z T60.heap "java/lang/Long" cc (¬ (p1 < (-128 : Int64)) ∧ ¬ ((127 : Int64) < p1)) (((p1.toInt32) + (128 : Int32))) := (own_Box_keep (own_Box_ext (own_Box_keep (own_Box_ext B1 Ex6) p27_0) Ex29) p60_0)
      obtain ⟨_, _, ⟨T65, Lx65, kx65, nx65⟩, -, X65, ⟨Lc65, hQ65, lx65, yx65, zx65⟩, st65⟩ := Jvm.LawKit.callS X60 hx (y := (⟨"java/lang/Long", "valueOf", "(J)Ljava/lang/Long;"⟩ : MethodName)) hown (mvT hZ (wd hw 22 rfl)) (mvT hZ (wd hw 23 rfl)) (mvT hZ (wd hw 24 rfl)) (mvT hZ (wd hw 25 rfl)) (by decide) (backOf (W := 0) (rmVal l Z a0 hw [] p1 ca cc T60.heap n0 Z60 Fc62 Fc63 Fc64) hZ (wd hw 25 rfl) (wd hw 24 rfl) (by decide) (by decide)) (g := (mkF m 71 #[iv p0, jv p1, .second, iv p2, jv p3, .second, iv p4, iv (p0 &&& (7 : Int32)), iv (own_ib p0 p2 p4), jv (own_cb p1 p3 p4), .second, rv ob6, rv ob29, .unset, .unset, .unset, .unset] [(.long p1)])) rfl (by rw [hml]; rfl) (argsL := [(.long p1)]) (rest := []) (lenOf pd_4 rfl) rfl (by show 2 * 0 + _ ≤ _; exact Nat.le_of_eq rfl) (hb hby at_71) (fun _ _ => ⟨rfl, rfl, (by decide : 2 + 1 ≤ _), (by decide : 4 + 1 ≤ _)⟩)
      dsimp only [Pt.U, Pt.locs, Pt.cells, Pt.slots] at X65 lx65 yx65 zx65 st65 hQ65
      subst lx65 yx65 zx65
      obtain ⟨xb_65, rfl, N65q, p65_0, p65_1⟩ := hQ65
      have N65 := Fr.app N60 N65q
      have Z65 : n0 ≤ T65.heap.size := Nat.le_trans Z60 p65_0.1
      refine own_lift st65 ?_
      show own_Go p.tables e below (T65.setTop (mkF m 74 #[iv p0, jv p1, .second, iv p2, jv p3, .second, iv p4, iv (p0 &&& (7 : Int32)), iv (own_ib p0 p2 p4), jv (own_cb p1 p3 p4), .second, rv ob6, rv ob29, .unset, .unset, .unset, .unset] [(.ref xb_65)])) _
      have sg66 : ∀ t, Steps p.tables e below (T65.setTop (mkF m 129 #[iv p0, jv p1, .second, iv p2, jv p3, .second, iv p4, iv (p0 &&& (7 : Int32)), iv (own_ib p0 p2 p4), jv (own_cb p1 p3 p4), .second, rv ob6, rv ob29, rv xb_65, iv (((p4.toUInt32 >>> ((2 : Int32) &&& 31).toUInt32).toInt32) &&& (3 : Int32)), .unset, .unset] [(.ref ob29), (.ref ob6)])) t → Steps p.tables e below (T65.setTop (mkF m 74 #[iv p0, jv p1, .second, iv p2, jv p3, .second, iv p4, iv (p0 &&& (7 : Int32)), iv (own_ib p0 p2 p4), jv (own_cb p1 p3 p4), .second, rv ob6, rv ob29, .unset, .unset, .unset, .unset] [(.ref xb_65)])) t := by
        intro t k
        refine XS.astore X65.here hx rfl (hb hby at_74) rfl rfl (l' := #[iv p0, jv p1, .second, iv p2, jv p3, .second, iv p4, iv (p0 &&& (7 : Int32)), iv (own_ib p0 p2 p4), jv (own_cb p1 p3 p4), .second, rv ob6, rv ob29, rv xb_65, .unset, .unset, .unset]) rfl ?_
        show Steps p.tables e below (T65.setTop (mkF m 76 #[iv p0, jv p1, .second, iv p2, jv p3, .second, iv p4, iv (p0 &&& (7 : Int32)), iv (own_ib p0 p2 p4), jv (own_cb p1 p3 p4), .second, rv ob6, rv ob29, rv xb_65, .unset, .unset, .unset] [])) _
        refine XS.iload X65.here hx rfl (hb hby at_76) rfl ?_
        show Steps p.tables e below (T65.setTop (mkF m 78 #[iv p0, jv p1, .second, iv p2, jv p3, .second, iv p4, iv (p0 &&& (7 : Int32)), iv (own_ib p0 p2 p4), jv (own_cb p1 p3 p4), .second, rv ob6, rv ob29, rv xb_65, .unset, .unset, .unset] [(.int p4)])) _
        refine XS.iconst X65.here hx rfl (hb hby at_78) ?_
        show Steps p.tables e below (T65.setTop (mkF m 79 #[iv p0, jv p1, .second, iv p2, jv p3, .second, iv p4, iv (p0 &&& (7 : Int32)), iv (own_ib p0 p2 p4), jv (own_cb p1 p3 p4), .second, rv ob6, rv ob29, rv xb_65, .unset, .unset, .unset] [(.int 2), (.int p4)])) _
        refine XS.iushr X65.here hx rfl (hb hby at_79) rfl ?_
        show Steps p.tables e below (T65.setTop (mkF m 80 #[iv p0, jv p1, .second, iv p2, jv p3, .second, iv p4, iv (p0 &&& (7 : Int32)), iv (own_ib p0 p2 p4), jv (own_cb p1 p3 p4), .second, rv ob6, rv ob29, rv xb_65, .unset, .unset, .unset] [(.int ((p4.toUInt32 >>> ((2 : Int32) &&& 31).toUInt32).toInt32))])) _
        refine XS.iconst X65.here hx rfl (hb hby at_80) ?_
        show Steps p.tables e below (T65.setTop (mkF m 81 #[iv p0, jv p1, .second, iv p2, jv p3, .second, iv p4, iv (p0 &&& (7 : Int32)), iv (own_ib p0 p2 p4), jv (own_cb p1 p3 p4), .second, rv ob6, rv ob29, rv xb_65, .unset, .unset, .unset] [(.int 3), (.int ((p4.toUInt32 >>> ((2 : Int32) &&& 31).toUInt32).toInt32))])) _
        refine XS.iand X65.here hx rfl (hb hby at_81) rfl ?_
        show Steps p.tables e below (T65.setTop (mkF m 82 #[iv p0, jv p1, .second, iv p2, jv p3, .second, iv p4, iv (p0 &&& (7 : Int32)), iv (own_ib p0 p2 p4), jv (own_cb p1 p3 p4), .second, rv ob6, rv ob29, rv xb_65, .unset, .unset, .unset] [(.int (((p4.toUInt32 >>> ((2 : Int32) &&& 31).toUInt32).toInt32) &&& (3 : Int32)))])) _
        refine XS.istore X65.here hx rfl (hb hby at_82) rfl (l' := #[iv p0, jv p1, .second, iv p2, jv p3, .second, iv p4, iv (p0 &&& (7 : Int32)), iv (own_ib p0 p2 p4), jv (own_cb p1 p3 p4), .second, rv ob6, rv ob29, rv xb_65, iv (((p4.toUInt32 >>> ((2 : Int32) &&& 31).toUInt32).toInt32) &&& (3 : Int32)), .unset, .unset]) rfl ?_
        show Steps p.tables e below (T65.setTop (mkF m 84 #[iv p0, jv p1, .second, iv p2, jv p3, .second, iv p4, iv (p0 &&& (7 : Int32)), iv (own_ib p0 p2 p4), jv (own_cb p1 p3 p4), .second, rv ob6, rv ob29, rv xb_65, iv (((p4.toUInt32 >>> ((2 : Int32) &&& 31).toUInt32).toInt32) &&& (3 : Int32)), .unset, .unset] [])) _
        refine XS.iload X65.here hx rfl (hb hby at_84) rfl ?_
        show Steps p.tables e below (T65.setTop (mkF m 86 #[iv p0, jv p1, .second, iv p2, jv p3, .second, iv p4, iv (p0 &&& (7 : Int32)), iv (own_ib p0 p2 p4), jv (own_cb p1 p3 p4), .second, rv ob6, rv ob29, rv xb_65, iv (((p4.toUInt32 >>> ((2 : Int32) &&& 31).toUInt32).toInt32) &&& (3 : Int32)), .unset, .unset] [(.int (((p4.toUInt32 >>> ((2 : Int32) &&& 31).toUInt32).toInt32) &&& (3 : Int32)))])) _
        refine XS.iconst X65.here hx rfl (hb hby at_86) ?_
        show Steps p.tables e below (T65.setTop (mkF m 87 #[iv p0, jv p1, .second, iv p2, jv p3, .second, iv p4, iv (p0 &&& (7 : Int32)), iv (own_ib p0 p2 p4), jv (own_cb p1 p3 p4), .second, rv ob6, rv ob29, rv xb_65, iv (((p4.toUInt32 >>> ((2 : Int32) &&& 31).toUInt32).toInt32) &&& (3 : Int32)), .unset, .unset] [(.int 2), (.int (((p4.toUInt32 >>> ((2 : Int32) &&& 31).toUInt32).toInt32) &&& (3 : Int32)))])) _
        refine XS.icmpYes X65.here hx rfl (pc0 := 87) (pc' := 104) rfl (hb hby at_87) rfl (feq w2).2 (by decide) (by decide) ?_
        show Steps p.tables e below (T65.setTop (mkF m 104 #[iv p0, jv p1, .second, iv p2, jv p3, .second, iv p4, iv (p0 &&& (7 : Int32)), iv (own_ib p0 p2 p4), jv (own_cb p1 p3 p4), .second, rv ob6, rv ob29, rv xb_65, iv (((p4.toUInt32 >>> ((2 : Int32) &&& 31).toUInt32).toInt32) &&& (3 : Int32)), .unset, .unset] [])) _
        refine XS.iload X65.here hx rfl (hb hby at_104) rfl ?_
        show Steps p.tables e below (T65.setTop (mkF m 106 #[iv p0, jv p1, .second, iv p2, jv p3, .second, iv p4, iv (p0 &&& (7 : Int32)), iv (own_ib p0 p2 p4), jv (own_cb p1 p3 p4), .second, rv ob6, rv ob29, rv xb_65, iv (((p4.toUInt32 >>> ((2 : Int32) &&& 31).toUInt32).toInt32) &&& (3 : Int32)), .unset, .unset] [(.int (((p4.toUInt32 >>> ((2 : Int32) &&& 31).toUInt32).toInt32) &&& (3 : Int32)))])) _
        refine XS.iconst X65.here hx rfl (hb hby at_106) ?_
        show Steps p.tables e below (T65.setTop (mkF m 107 #[iv p0, jv p1, .second, iv p2, jv p3, .second, iv p4, iv (p0 &&& (7 : Int32)), iv (own_ib p0 p2 p4), jv (own_cb p1 p3 p4), .second, rv ob6, rv ob29, rv xb_65, iv (((p4.toUInt32 >>> ((2 : Int32) &&& 31).toUInt32).toInt32) &&& (3 : Int32)), .unset, .unset] [(.int 3), (.int (((p4.toUInt32 >>> ((2 : Int32) &&& 31).toUInt32).toInt32) &&& (3 : Int32)))])) _
        refine XS.icmpYes X65.here hx rfl (pc0 := 107) (pc' := 125) rfl (hb hby at_107) rfl (feq w3).2 (by decide) (by decide) ?_
        show Steps p.tables e below (T65.setTop (mkF m 125 #[iv p0, jv p1, .second, iv p2, jv p3, .second, iv p4, iv (p0 &&& (7 : Int32)), iv (own_ib p0 p2 p4), jv (own_cb p1 p3 p4), .second, rv ob6, rv ob29, rv xb_65, iv (((p4.toUInt32 >>> ((2 : Int32) &&& 31).toUInt32).toInt32) &&& (3 : Int32)), .unset, .unset] [])) _
        refine XS.aload X65.here hx rfl (hb hby at_125) rfl rfl ?_
        show Steps p.tables e below (T65.setTop (mkF m 127 #[iv p0, jv p1, .second, iv p2, jv p3, .second, iv p4, iv (p0 &&& (7 : Int32)), iv (own_ib p0 p2 p4), jv (own_cb p1 p3 p4), .second, rv ob6, rv ob29, rv xb_65, iv (((p4.toUInt32 >>> ((2 : Int32) &&& 31).toUInt32).toInt32) &&& (3 : Int32)), .unset, .unset] [(.ref ob6)])) _
        refine XS.aload X65.here hx rfl (hb hby at_127) rfl rfl ?_
        show Steps p.tables e below (T65.setTop (mkF m 129 #[iv p0, jv p1, .second, iv p2, jv p3, .second, iv p4, iv (p0 &&& (7 : Int32)), iv (own_ib p0 p2 p4), jv (own_cb p1 p3 p4), .second, rv ob6, rv ob29, rv xb_65, iv (((p4.toUInt32 >>> ((2 : Int32) &&& 31).toUInt32).toInt32) &&& (3 : Int32)), .unset, .unset] [(.ref ob29), (.ref ob6)])) _
        exact k
      refine own_lift sg66 ?_
      show own_Go p.tables e below (T65.setTop (mkF m 129 #[iv p0, jv p1, .second, iv p2, jv p3, .second, iv p4, iv (p0 &&& (7 : Int32)), iv (own_ib p0 p2 p4), jv (own_cb p1 p3 p4), .second, rv ob6, rv ob29, rv xb_65, iv (((p4.toUInt32 >>> ((2 : Int32) &&& 31).toUInt32).toInt32) &&& (3 : Int32)), .unset, .unset] [(.ref ob29), (.ref ob6)])) _
      have Fc67 : Fld Z T65.heap ob6 "com/example/allsome/allsome/cypher/PathPattern$Selector" "kind" "Lcom/example/allsome/allsome/cypher/PathPattern$Selector$Kind;" (.ref (own_kind (p0 &&& (7 : Int32)) as_SHORTEST_PATH as_ALL_SHORTEST_PATHS as_ANY_SHORTEST as_ALL_SHORTEST as_ANY as_ALL as_SHORTEST as_SHORTEST_GROUPS)) := (((p27_2.ext Ex29).keep p60_0 (ninS ne48 nin0)).keep p65_0 nin0)
      have Fc68 : Fld Z T65.heap ob6 "com/example/allsome/allsome/cypher/PathPattern$Selector" "count" "J" (.long p1) := (((p27_3.ext Ex29).keep p60_0 (ninS ne48 nin0)).keep p65_0 nin0)
      have Fc69 : Fld Z T65.heap ob29 "com/example/allsome/allsome/cypher/PathPattern$Selector" "kind" "Lcom/example/allsome/allsome/cypher/PathPattern$Selector$Kind;" (.ref (own_kind (own_ib p0 p2 p4) as_SHORTEST_PATH as_ALL_SHORTEST_PATHS as_ANY_SHORTEST as_ALL_SHORTEST as_ANY as_ALL as_SHORTEST as_SHORTEST_GROUPS)) := (p60_2.keep p65_0 nin0)
      have Fc70 : Fld Z T65.heap ob29 "com/example/allsome/allsome/cypher/PathPattern$Selector" "count" "J" (.long (own_cb p1 p3 p4)) := (p60_3.keep p65_0 nin0)
      have Fc71 : Exa Z T65.heap ob29 "com/example/allsome/allsome/cypher/PathPattern$Selector" := (p60_1.keep p65_0)
      have Fc73 : Exa Z T65.heap ob6 "com/example/allsome/allsome/cypher/PathPattern$Selector" := (((p27_1.ext Ex29).keep p60_0).keep p65_0)
      obtain ⟨cq72, kq72, q72a, q72b, q72c⟩ := isOf hZ rfl Fc73
      obtain ⟨_, _, ⟨T72, Lx72, kx72, nx72⟩, -, X72, ⟨Lc72, hQ72, lx72, yx72, zx72⟩, st72⟩ := X65.virtualBack hx (y := (⟨"com/example/allsome/allsome/cypher/PathPattern$Selector", "equals", "(Ljava/lang/Object;)Z"⟩ : MethodName)) (z := (⟨"com/example/allsome/allsome/cypher/PathPattern$Selector", "equals", "(Ljava/lang/Object;)Z"⟩ : MethodName)) hown (mvT hZ (wd hw 30 rfl)) (mvT hZ (wd hw 31 rfl)) (notFace_of_selects (args := #[]) (mvT hZ (wd hw 33 rfl))) (mvT hZ (wd hw 33 rfl)) (mvT hZ (wd hw 32 rfl)) (by decide) (backOf (W := 0) (rmEqY l Z a0 hw [] ob6 ob29 (own_kind (p0 &&& (7 : Int32)) as_SHORTEST_PATH as_ALL_SHORTEST_PATHS as_ANY_SHORTEST as_ALL_SHORTEST as_ANY as_ALL as_SHORTEST as_SHORTEST_GROUPS) p1 (own_kind (own_ib p0 p2 p4) as_SHORTEST_PATH as_ALL_SHORTEST_PATHS as_ANY_SHORTEST as_ALL_SHORTEST as_ANY as_ALL as_SHORTEST as_SHORTEST_GROUPS) (own_cb p1 p3 p4) T65.heap n0 Z65 Fc67 Fc68 Fc69 Fc70 Fc71 hkk (Eq.symm hc)) hZ (wd hw 34 rfl) (wd hw 2 rfl) (by decide) (by decide)) q72a q72c (g := (mkF m 129 #[iv p0, jv p1, .second, iv p2, jv p3, .second, iv p4, iv (p0 &&& (7 : Int32)), iv (own_ib p0 p2 p4), jv (own_cb p1 p3 p4), .second, rv ob6, rv ob29, rv xb_65, iv (((p4.toUInt32 >>> ((2 : Int32) &&& 31).toUInt32).toInt32) &&& (3 : Int32)), .unset, .unset] [(.ref ob29), (.ref ob6)])) rfl (by rw [hml]; rfl) (Steps.refl _) (argsL := [(.ref ob29)]) (rest := []) (lenOf pd_5 rfl) rfl (by show 2 * 0 + _ ≤ _; exact Nat.le_of_eq rfl) (hb hby at_129) (fun _ _ => ⟨rfl, rfl, (by decide : 3 + 0 ≤ _), (by decide : 5 + 0 ≤ _)⟩)
      dsimp only [Pt.U, Pt.locs, Pt.cells, Pt.slots] at X72 lx72 yx72 zx72 st72 hQ72
      subst lx72 yx72 zx72
      obtain ⟨rfl, N72q, e72⟩ := hQ72
      have N72 := Fr.app N65 N72q
      refine own_lift (fun t k => st72.trans k) ?_
      show own_Go p.tables e below (T72.setTop (mkF m 132 #[iv p0, jv p1, .second, iv p2, jv p3, .second, iv p4, iv (p0 &&& (7 : Int32)), iv (own_ib p0 p2 p4), jv (own_cb p1 p3 p4), .second, rv ob6, rv ob29, rv xb_65, iv (((p4.toUInt32 >>> ((2 : Int32) &&& 31).toUInt32).toInt32) &&& (3 : Int32)), .unset, .unset] [(.int 1)])) _
      have sg74 : ∀ t, Steps p.tables e below (T72.setTop (mkF m 167 #[iv p0, jv p1, .second, iv p2, jv p3, .second, iv p4, iv (p0 &&& (7 : Int32)), iv (own_ib p0 p2 p4), jv (own_cb p1 p3 p4), .second, rv ob6, rv ob29, rv xb_65, iv (((p4.toUInt32 >>> ((2 : Int32) &&& 31).toUInt32).toInt32) &&& (3 : Int32)), iv 1, iv 1] [(.int 1)])) t → Steps p.tables e below (T72.setTop (mkF m 132 #[iv p0, jv p1, .second, iv p2, jv p3, .second, iv p4, iv (p0 &&& (7 : Int32)), iv (own_ib p0 p2 p4), jv (own_cb p1 p3 p4), .second, rv ob6, rv ob29, rv xb_65, iv (((p4.toUInt32 >>> ((2 : Int32) &&& 31).toUInt32).toInt32) &&& (3 : Int32)), .unset, .unset] [(.int 1)])) t := by
        intro t k
        refine XS.istore X72.here hx rfl (hb hby at_132) rfl (l' := #[iv p0, jv p1, .second, iv p2, jv p3, .second, iv p4, iv (p0 &&& (7 : Int32)), iv (own_ib p0 p2 p4), jv (own_cb p1 p3 p4), .second, rv ob6, rv ob29, rv xb_65, iv (((p4.toUInt32 >>> ((2 : Int32) &&& 31).toUInt32).toInt32) &&& (3 : Int32)), iv 1, .unset]) rfl ?_
        show Steps p.tables e below (T72.setTop (mkF m 134 #[iv p0, jv p1, .second, iv p2, jv p3, .second, iv p4, iv (p0 &&& (7 : Int32)), iv (own_ib p0 p2 p4), jv (own_cb p1 p3 p4), .second, rv ob6, rv ob29, rv xb_65, iv (((p4.toUInt32 >>> ((2 : Int32) &&& 31).toUInt32).toInt32) &&& (3 : Int32)), iv 1, .unset] [])) _
        refine XS.iload X72.here hx rfl (hb hby at_134) rfl ?_
        show Steps p.tables e below (T72.setTop (mkF m 136 #[iv p0, jv p1, .second, iv p2, jv p3, .second, iv p4, iv (p0 &&& (7 : Int32)), iv (own_ib p0 p2 p4), jv (own_cb p1 p3 p4), .second, rv ob6, rv ob29, rv xb_65, iv (((p4.toUInt32 >>> ((2 : Int32) &&& 31).toUInt32).toInt32) &&& (3 : Int32)), iv 1, .unset] [(.int (p0 &&& (7 : Int32)))])) _
        refine XS.iload X72.here hx rfl (hb hby at_136) rfl ?_
        show Steps p.tables e below (T72.setTop (mkF m 138 #[iv p0, jv p1, .second, iv p2, jv p3, .second, iv p4, iv (p0 &&& (7 : Int32)), iv (own_ib p0 p2 p4), jv (own_cb p1 p3 p4), .second, rv ob6, rv ob29, rv xb_65, iv (((p4.toUInt32 >>> ((2 : Int32) &&& 31).toUInt32).toInt32) &&& (3 : Int32)), iv 1, .unset] [(.int (own_ib p0 p2 p4)), (.int (p0 &&& (7 : Int32)))])) _
        refine XS.icmpNo X72.here hx rfl (hb hby at_138) rfl (teq hk).2 ?_
        show Steps p.tables e below (T72.setTop (mkF m 141 #[iv p0, jv p1, .second, iv p2, jv p3, .second, iv p4, iv (p0 &&& (7 : Int32)), iv (own_ib p0 p2 p4), jv (own_cb p1 p3 p4), .second, rv ob6, rv ob29, rv xb_65, iv (((p4.toUInt32 >>> ((2 : Int32) &&& 31).toUInt32).toInt32) &&& (3 : Int32)), iv 1, .unset] [])) _
        refine XS.lloadN X72.here hx rfl (hb hby at_141) rfl ?_
        show Steps p.tables e below (T72.setTop (mkF m 142 #[iv p0, jv p1, .second, iv p2, jv p3, .second, iv p4, iv (p0 &&& (7 : Int32)), iv (own_ib p0 p2 p4), jv (own_cb p1 p3 p4), .second, rv ob6, rv ob29, rv xb_65, iv (((p4.toUInt32 >>> ((2 : Int32) &&& 31).toUInt32).toInt32) &&& (3 : Int32)), iv 1, .unset] [(.long p1)])) _
        refine XS.lload X72.here hx rfl (hb hby at_142) rfl ?_
        show Steps p.tables e below (T72.setTop (mkF m 144 #[iv p0, jv p1, .second, iv p2, jv p3, .second, iv p4, iv (p0 &&& (7 : Int32)), iv (own_ib p0 p2 p4), jv (own_cb p1 p3 p4), .second, rv ob6, rv ob29, rv xb_65, iv (((p4.toUInt32 >>> ((2 : Int32) &&& 31).toUInt32).toInt32) &&& (3 : Int32)), iv 1, .unset] [(.long (own_cb p1 p3 p4)), (.long p1)])) _
        refine XS.lcmp X72.here hx rfl (hb hby at_144) rfl ?_
        show Steps p.tables e below (T72.setTop (mkF m 145 #[iv p0, jv p1, .second, iv p2, jv p3, .second, iv p4, iv (p0 &&& (7 : Int32)), iv (own_ib p0 p2 p4), jv (own_cb p1 p3 p4), .second, rv ob6, rv ob29, rv xb_65, iv (((p4.toUInt32 >>> ((2 : Int32) &&& 31).toUInt32).toInt32) &&& (3 : Int32)), iv 1, .unset] [(.int (lcmpW p1 (own_cb p1 p3 p4)))])) _
        refine XS.ifNo X72.here hx rfl (hb hby at_145) rfl ((if0 _ _).trans (teq ((lw_eq p1 (own_cb p1 p3 p4)).2 hc)).2) ?_
        show Steps p.tables e below (T72.setTop (mkF m 148 #[iv p0, jv p1, .second, iv p2, jv p3, .second, iv p4, iv (p0 &&& (7 : Int32)), iv (own_ib p0 p2 p4), jv (own_cb p1 p3 p4), .second, rv ob6, rv ob29, rv xb_65, iv (((p4.toUInt32 >>> ((2 : Int32) &&& 31).toUInt32).toInt32) &&& (3 : Int32)), iv 1, .unset] [])) _
        refine XS.iconst X72.here hx rfl (hb hby at_148) ?_
        show Steps p.tables e below (T72.setTop (mkF m 149 #[iv p0, jv p1, .second, iv p2, jv p3, .second, iv p4, iv (p0 &&& (7 : Int32)), iv (own_ib p0 p2 p4), jv (own_cb p1 p3 p4), .second, rv ob6, rv ob29, rv xb_65, iv (((p4.toUInt32 >>> ((2 : Int32) &&& 31).toUInt32).toInt32) &&& (3 : Int32)), iv 1, .unset] [(.int 1)])) _
        refine XS.goto X72.here hx rfl (pc0 := 149) (pc' := 153) rfl (hb hby at_149) (by decide) (by decide) ?_
        show Steps p.tables e below (T72.setTop (mkF m 153 #[iv p0, jv p1, .second, iv p2, jv p3, .second, iv p4, iv (p0 &&& (7 : Int32)), iv (own_ib p0 p2 p4), jv (own_cb p1 p3 p4), .second, rv ob6, rv ob29, rv xb_65, iv (((p4.toUInt32 >>> ((2 : Int32) &&& 31).toUInt32).toInt32) &&& (3 : Int32)), iv 1, .unset] [(.int 1)])) _
        refine XS.istore X72.here hx rfl (hb hby at_153) rfl (l' := #[iv p0, jv p1, .second, iv p2, jv p3, .second, iv p4, iv (p0 &&& (7 : Int32)), iv (own_ib p0 p2 p4), jv (own_cb p1 p3 p4), .second, rv ob6, rv ob29, rv xb_65, iv (((p4.toUInt32 >>> ((2 : Int32) &&& 31).toUInt32).toInt32) &&& (3 : Int32)), iv 1, iv 1]) rfl ?_
        show Steps p.tables e below (T72.setTop (mkF m 155 #[iv p0, jv p1, .second, iv p2, jv p3, .second, iv p4, iv (p0 &&& (7 : Int32)), iv (own_ib p0 p2 p4), jv (own_cb p1 p3 p4), .second, rv ob6, rv ob29, rv xb_65, iv (((p4.toUInt32 >>> ((2 : Int32) &&& 31).toUInt32).toInt32) &&& (3 : Int32)), iv 1, iv 1] [])) _
        refine XS.iload X72.here hx rfl (hb hby at_155) rfl ?_
        show Steps p.tables e below (T72.setTop (mkF m 157 #[iv p0, jv p1, .second, iv p2, jv p3, .second, iv p4, iv (p0 &&& (7 : Int32)), iv (own_ib p0 p2 p4), jv (own_cb p1 p3 p4), .second, rv ob6, rv ob29, rv xb_65, iv (((p4.toUInt32 >>> ((2 : Int32) &&& 31).toUInt32).toInt32) &&& (3 : Int32)), iv 1, iv 1] [(.int 1)])) _
        refine XS.iload X72.here hx rfl (hb hby at_157) rfl ?_
        show Steps p.tables e below (T72.setTop (mkF m 159 #[iv p0, jv p1, .second, iv p2, jv p3, .second, iv p4, iv (p0 &&& (7 : Int32)), iv (own_ib p0 p2 p4), jv (own_cb p1 p3 p4), .second, rv ob6, rv ob29, rv xb_65, iv (((p4.toUInt32 >>> ((2 : Int32) &&& 31).toUInt32).toInt32) &&& (3 : Int32)), iv 1, iv 1] [(.int 1), (.int 1)])) _
        refine XS.icmpNo X72.here hx rfl (hb hby at_159) rfl (teq (by decide : (1 : Int32) = (1 : Int32))).2 ?_
        show Steps p.tables e below (T72.setTop (mkF m 162 #[iv p0, jv p1, .second, iv p2, jv p3, .second, iv p4, iv (p0 &&& (7 : Int32)), iv (own_ib p0 p2 p4), jv (own_cb p1 p3 p4), .second, rv ob6, rv ob29, rv xb_65, iv (((p4.toUInt32 >>> ((2 : Int32) &&& 31).toUInt32).toInt32) &&& (3 : Int32)), iv 1, iv 1] [])) _
        refine XS.iconst X72.here hx rfl (hb hby at_162) ?_
        show Steps p.tables e below (T72.setTop (mkF m 163 #[iv p0, jv p1, .second, iv p2, jv p3, .second, iv p4, iv (p0 &&& (7 : Int32)), iv (own_ib p0 p2 p4), jv (own_cb p1 p3 p4), .second, rv ob6, rv ob29, rv xb_65, iv (((p4.toUInt32 >>> ((2 : Int32) &&& 31).toUInt32).toInt32) &&& (3 : Int32)), iv 1, iv 1] [(.int 1)])) _
        refine XS.goto X72.here hx rfl (pc0 := 163) (pc' := 167) rfl (hb hby at_163) (by decide) (by decide) ?_
        show Steps p.tables e below (T72.setTop (mkF m 167 #[iv p0, jv p1, .second, iv p2, jv p3, .second, iv p4, iv (p0 &&& (7 : Int32)), iv (own_ib p0 p2 p4), jv (own_cb p1 p3 p4), .second, rv ob6, rv ob29, rv xb_65, iv (((p4.toUInt32 >>> ((2 : Int32) &&& 31).toUInt32).toInt32) &&& (3 : Int32)), iv 1, iv 1] [(.int 1)])) _
        exact k
      refine own_lift sg74 ?_
      show own_Go p.tables e below (T72.setTop (mkF m 167 #[iv p0, jv p1, .second, iv p2, jv p3, .second, iv p4, iv (p0 &&& (7 : Int32)), iv (own_ib p0 p2 p4), jv (own_cb p1 p3 p4), .second, rv ob6, rv ob29, rv xb_65, iv (((p4.toUInt32 >>> ((2 : Int32) &&& 31).toUInt32).toInt32) &&& (3 : Int32)), iv 1, iv 1] [(.int 1)])) _
      obtain ⟨fs, hr, hrun, hended, hW, hsame⟩ := X72.leave (v := some (.int 1)) (fun h => by rw [Bd.returns] at h; cases h)
      refine ⟨_, _, ?_, hrun, hended, _, _, rfl, ?_, ⟨_, rfl⟩, hW, hsame.mono (by decide) (by decide)⟩
      · exact retN X72 hx (t := .boolean) Bd.returns (by simp) (hb hby at_167) hr
      · show Q0 Z  h0 n0 _ T72.heap _
        rw [e72]
        exact ⟨rfl, N72⟩
    by_cases b2 : (p4 &&& (2 : Int32)) = (0 : Int32)
    · have sg75 : ∀ t, Steps p.tables e below (T2.setTop (mkF m 37 #[iv p0, jv p1, .second, iv p2, jv p3, .second, iv p4, iv (p0 &&& (7 : Int32)), iv (own_ib p0 p2 p4), .unset, .unset, .unset, .unset, .unset, .unset, .unset, .unset] [(.long p3)])) t → Steps p.tables e below (T2.setTop (mkF m 24 #[iv p0, jv p1, .second, iv p2, jv p3, .second, iv p4, iv (p0 &&& (7 : Int32)), iv (own_ib p0 p2 p4), .unset, .unset, .unset, .unset, .unset, .unset, .unset, .unset] [])) t := by
        intro t k
        refine XS.iload X2.here hx rfl (hb hby at_24) rfl ?_
        show Steps p.tables e below (T2.setTop (mkF m 26 #[iv p0, jv p1, .second, iv p2, jv p3, .second, iv p4, iv (p0 &&& (7 : Int32)), iv (own_ib p0 p2 p4), .unset, .unset, .unset, .unset, .unset, .unset, .unset, .unset] [(.int p4)])) _
        refine XS.iconst X2.here hx rfl (hb hby at_26) ?_
        show Steps p.tables e below (T2.setTop (mkF m 27 #[iv p0, jv p1, .second, iv p2, jv p3, .second, iv p4, iv (p0 &&& (7 : Int32)), iv (own_ib p0 p2 p4), .unset, .unset, .unset, .unset, .unset, .unset, .unset, .unset] [(.int 2), (.int p4)])) _
        refine XS.iand X2.here hx rfl (hb hby at_27) rfl ?_
        show Steps p.tables e below (T2.setTop (mkF m 28 #[iv p0, jv p1, .second, iv p2, jv p3, .second, iv p4, iv (p0 &&& (7 : Int32)), iv (own_ib p0 p2 p4), .unset, .unset, .unset, .unset, .unset, .unset, .unset, .unset] [(.int (p4 &&& (2 : Int32)))])) _
        refine XS.ifYes X2.here hx rfl (pc0 := 28) (pc' := 35) rfl (hb hby at_28) rfl ((if0 _ _).trans (teq b2).1) (by decide) (by decide) ?_
        show Steps p.tables e below (T2.setTop (mkF m 35 #[iv p0, jv p1, .second, iv p2, jv p3, .second, iv p4, iv (p0 &&& (7 : Int32)), iv (own_ib p0 p2 p4), .unset, .unset, .unset, .unset, .unset, .unset, .unset, .unset] [])) _
        refine XS.lload X2.here hx rfl (hb hby at_35) rfl ?_
        show Steps p.tables e below (T2.setTop (mkF m 37 #[iv p0, jv p1, .second, iv p2, jv p3, .second, iv p4, iv (p0 &&& (7 : Int32)), iv (own_ib p0 p2 p4), .unset, .unset, .unset, .unset, .unset, .unset, .unset, .unset] [(.long p3)])) _
        exact k
      refine own_lift sg75 ?_
      show own_Go p.tables e below (T2.setTop (mkF m 37 #[iv p0, jv p1, .second, iv p2, jv p3, .second, iv p4, iv (p0 &&& (7 : Int32)), iv (own_ib p0 p2 p4), .unset, .unset, .unset, .unset, .unset, .unset, .unset, .unset] [(.long p3)])) _
      rw [show (own_cb p1 p3 p4) = p3 from if_pos b2] at join4
      exact join4 _ _ X2 e2 N2
    · have sg76 : ∀ t, Steps p.tables e below (T2.setTop (mkF m 37 #[iv p0, jv p1, .second, iv p2, jv p3, .second, iv p4, iv (p0 &&& (7 : Int32)), iv (own_ib p0 p2 p4), .unset, .unset, .unset, .unset, .unset, .unset, .unset, .unset] [(.long p1)])) t → Steps p.tables e below (T2.setTop (mkF m 24 #[iv p0, jv p1, .second, iv p2, jv p3, .second, iv p4, iv (p0 &&& (7 : Int32)), iv (own_ib p0 p2 p4), .unset, .unset, .unset, .unset, .unset, .unset, .unset, .unset] [])) t := by
        intro t k
        refine XS.iload X2.here hx rfl (hb hby at_24) rfl ?_
        show Steps p.tables e below (T2.setTop (mkF m 26 #[iv p0, jv p1, .second, iv p2, jv p3, .second, iv p4, iv (p0 &&& (7 : Int32)), iv (own_ib p0 p2 p4), .unset, .unset, .unset, .unset, .unset, .unset, .unset, .unset] [(.int p4)])) _
        refine XS.iconst X2.here hx rfl (hb hby at_26) ?_
        show Steps p.tables e below (T2.setTop (mkF m 27 #[iv p0, jv p1, .second, iv p2, jv p3, .second, iv p4, iv (p0 &&& (7 : Int32)), iv (own_ib p0 p2 p4), .unset, .unset, .unset, .unset, .unset, .unset, .unset, .unset] [(.int 2), (.int p4)])) _
        refine XS.iand X2.here hx rfl (hb hby at_27) rfl ?_
        show Steps p.tables e below (T2.setTop (mkF m 28 #[iv p0, jv p1, .second, iv p2, jv p3, .second, iv p4, iv (p0 &&& (7 : Int32)), iv (own_ib p0 p2 p4), .unset, .unset, .unset, .unset, .unset, .unset, .unset, .unset] [(.int (p4 &&& (2 : Int32)))])) _
        refine XS.ifNo X2.here hx rfl (hb hby at_28) rfl ((if0 _ _).trans (feq b2).1) ?_
        show Steps p.tables e below (T2.setTop (mkF m 31 #[iv p0, jv p1, .second, iv p2, jv p3, .second, iv p4, iv (p0 &&& (7 : Int32)), iv (own_ib p0 p2 p4), .unset, .unset, .unset, .unset, .unset, .unset, .unset, .unset] [])) _
        refine XS.lloadN X2.here hx rfl (hb hby at_31) rfl ?_
        show Steps p.tables e below (T2.setTop (mkF m 32 #[iv p0, jv p1, .second, iv p2, jv p3, .second, iv p4, iv (p0 &&& (7 : Int32)), iv (own_ib p0 p2 p4), .unset, .unset, .unset, .unset, .unset, .unset, .unset, .unset] [(.long p1)])) _
        refine XS.goto X2.here hx rfl (pc0 := 32) (pc' := 37) rfl (hb hby at_32) (by decide) (by decide) ?_
        show Steps p.tables e below (T2.setTop (mkF m 37 #[iv p0, jv p1, .second, iv p2, jv p3, .second, iv p4, iv (p0 &&& (7 : Int32)), iv (own_ib p0 p2 p4), .unset, .unset, .unset, .unset, .unset, .unset, .unset, .unset] [(.long p1)])) _
        exact k
      refine own_lift sg76 ?_
      show own_Go p.tables e below (T2.setTop (mkF m 37 #[iv p0, jv p1, .second, iv p2, jv p3, .second, iv p4, iv (p0 &&& (7 : Int32)), iv (own_ib p0 p2 p4), .unset, .unset, .unset, .unset, .unset, .unset, .unset, .unset] [(.long p1)])) _
      rw [show (own_cb p1 p3 p4) = p1 from if_neg b2] at join4
      exact join4 _ _ X2 e2 N2
  by_cases b1 : (p4 &&& (1 : Int32)) = (0 : Int32)
  · have sg77 : ∀ t, Steps p.tables e below (s₁.setTop (mkF m 22 #[iv p0, jv p1, .second, iv p2, jv p3, .second, iv p4, iv (p0 &&& (7 : Int32)), .unset, .unset, .unset, .unset, .unset, .unset, .unset, .unset, .unset] [(.int (p2 &&& (7 : Int32)))])) t → Steps p.tables e below (s₁.setTop (mkF m 6 #[iv p0, jv p1, .second, iv p2, jv p3, .second, iv p4, iv (p0 &&& (7 : Int32)), .unset, .unset, .unset, .unset, .unset, .unset, .unset, .unset, .unset] [])) t := by
      intro t k
      refine XS.iload X0.here hx rfl (hb hby at_6) rfl ?_
      show Steps p.tables e below (s₁.setTop (mkF m 8 #[iv p0, jv p1, .second, iv p2, jv p3, .second, iv p4, iv (p0 &&& (7 : Int32)), .unset, .unset, .unset, .unset, .unset, .unset, .unset, .unset, .unset] [(.int p4)])) _
      refine XS.iconst X0.here hx rfl (hb hby at_8) ?_
      show Steps p.tables e below (s₁.setTop (mkF m 9 #[iv p0, jv p1, .second, iv p2, jv p3, .second, iv p4, iv (p0 &&& (7 : Int32)), .unset, .unset, .unset, .unset, .unset, .unset, .unset, .unset, .unset] [(.int 1), (.int p4)])) _
      refine XS.iand X0.here hx rfl (hb hby at_9) rfl ?_
      show Steps p.tables e below (s₁.setTop (mkF m 10 #[iv p0, jv p1, .second, iv p2, jv p3, .second, iv p4, iv (p0 &&& (7 : Int32)), .unset, .unset, .unset, .unset, .unset, .unset, .unset, .unset, .unset] [(.int (p4 &&& (1 : Int32)))])) _
      refine XS.ifYes X0.here hx rfl (pc0 := 10) (pc' := 18) rfl (hb hby at_10) rfl ((if0 _ _).trans (teq b1).1) (by decide) (by decide) ?_
      show Steps p.tables e below (s₁.setTop (mkF m 18 #[iv p0, jv p1, .second, iv p2, jv p3, .second, iv p4, iv (p0 &&& (7 : Int32)), .unset, .unset, .unset, .unset, .unset, .unset, .unset, .unset, .unset] [])) _
      refine XS.iloadN X0.here hx rfl (hb hby at_18) rfl ?_
      show Steps p.tables e below (s₁.setTop (mkF m 19 #[iv p0, jv p1, .second, iv p2, jv p3, .second, iv p4, iv (p0 &&& (7 : Int32)), .unset, .unset, .unset, .unset, .unset, .unset, .unset, .unset, .unset] [(.int p2)])) _
      refine XS.bipush X0.here hx rfl (hb hby at_19) ?_
      show Steps p.tables e below (s₁.setTop (mkF m 21 #[iv p0, jv p1, .second, iv p2, jv p3, .second, iv p4, iv (p0 &&& (7 : Int32)), .unset, .unset, .unset, .unset, .unset, .unset, .unset, .unset, .unset] [(.int 7), (.int p2)])) _
      refine XS.iand X0.here hx rfl (hb hby at_21) rfl ?_
      show Steps p.tables e below (s₁.setTop (mkF m 22 #[iv p0, jv p1, .second, iv p2, jv p3, .second, iv p4, iv (p0 &&& (7 : Int32)), .unset, .unset, .unset, .unset, .unset, .unset, .unset, .unset, .unset] [(.int (p2 &&& (7 : Int32)))])) _
      exact k
    refine own_lift sg77 ?_
    show own_Go p.tables e below (s₁.setTop (mkF m 22 #[iv p0, jv p1, .second, iv p2, jv p3, .second, iv p4, iv (p0 &&& (7 : Int32)), .unset, .unset, .unset, .unset, .unset, .unset, .unset, .unset, .unset] [(.int (p2 &&& (7 : Int32)))])) _
    rw [show (own_ib p0 p2 p4) = (p2 &&& (7 : Int32)) from if_pos b1] at join2
    exact join2 _ _ X0 e0 N0
  · have sg78 : ∀ t, Steps p.tables e below (s₁.setTop (mkF m 22 #[iv p0, jv p1, .second, iv p2, jv p3, .second, iv p4, iv (p0 &&& (7 : Int32)), .unset, .unset, .unset, .unset, .unset, .unset, .unset, .unset, .unset] [(.int (p0 &&& (7 : Int32)))])) t → Steps p.tables e below (s₁.setTop (mkF m 6 #[iv p0, jv p1, .second, iv p2, jv p3, .second, iv p4, iv (p0 &&& (7 : Int32)), .unset, .unset, .unset, .unset, .unset, .unset, .unset, .unset, .unset] [])) t := by
      intro t k
      refine XS.iload X0.here hx rfl (hb hby at_6) rfl ?_
      show Steps p.tables e below (s₁.setTop (mkF m 8 #[iv p0, jv p1, .second, iv p2, jv p3, .second, iv p4, iv (p0 &&& (7 : Int32)), .unset, .unset, .unset, .unset, .unset, .unset, .unset, .unset, .unset] [(.int p4)])) _
      refine XS.iconst X0.here hx rfl (hb hby at_8) ?_
      show Steps p.tables e below (s₁.setTop (mkF m 9 #[iv p0, jv p1, .second, iv p2, jv p3, .second, iv p4, iv (p0 &&& (7 : Int32)), .unset, .unset, .unset, .unset, .unset, .unset, .unset, .unset, .unset] [(.int 1), (.int p4)])) _
      refine XS.iand X0.here hx rfl (hb hby at_9) rfl ?_
      show Steps p.tables e below (s₁.setTop (mkF m 10 #[iv p0, jv p1, .second, iv p2, jv p3, .second, iv p4, iv (p0 &&& (7 : Int32)), .unset, .unset, .unset, .unset, .unset, .unset, .unset, .unset, .unset] [(.int (p4 &&& (1 : Int32)))])) _
      refine XS.ifNo X0.here hx rfl (hb hby at_10) rfl ((if0 _ _).trans (feq b1).1) ?_
      show Steps p.tables e below (s₁.setTop (mkF m 13 #[iv p0, jv p1, .second, iv p2, jv p3, .second, iv p4, iv (p0 &&& (7 : Int32)), .unset, .unset, .unset, .unset, .unset, .unset, .unset, .unset, .unset] [])) _
      refine XS.iload X0.here hx rfl (hb hby at_13) rfl ?_
      show Steps p.tables e below (s₁.setTop (mkF m 15 #[iv p0, jv p1, .second, iv p2, jv p3, .second, iv p4, iv (p0 &&& (7 : Int32)), .unset, .unset, .unset, .unset, .unset, .unset, .unset, .unset, .unset] [(.int (p0 &&& (7 : Int32)))])) _
      refine XS.goto X0.here hx rfl (pc0 := 15) (pc' := 22) rfl (hb hby at_15) (by decide) (by decide) ?_
      show Steps p.tables e below (s₁.setTop (mkF m 22 #[iv p0, jv p1, .second, iv p2, jv p3, .second, iv p4, iv (p0 &&& (7 : Int32)), .unset, .unset, .unset, .unset, .unset, .unset, .unset, .unset, .unset] [(.int (p0 &&& (7 : Int32)))])) _
      exact k
    refine own_lift sg78 ?_
    show own_Go p.tables e below (s₁.setTop (mkF m 22 #[iv p0, jv p1, .second, iv p2, jv p3, .second, iv p4, iv (p0 &&& (7 : Int32)), .unset, .unset, .unset, .unset, .unset, .unset, .unset, .unset, .unset] [(.int (p0 &&& (7 : Int32)))])) _
    rw [show (own_ib p0 p2 p4) = (p0 &&& (7 : Int32)) from if_neg b1] at join2
    exact join2 _ _ X0 e0 N0
set_option maxRecDepth 65536 in
theorem rm0 (l : Launch) (Z : State) (a0 : Array Value) (hw : ∀ d ∈ tables_1, d.before a0 Z = true) (ws : List Jvm.Cond) (p0 : Int32) (p1 : Int64) (p2 : Int32) (p3 : Int64) (p4 : Int32) (as_SHORTEST_PATH : Addr) (as_ALL_SHORTEST_PATHS : Addr) (as_ANY_SHORTEST : Addr) (as_ALL_SHORTEST : Addr) (as_ANY : Addr) (as_ALL : Addr) (as_SHORTEST : Addr) (as_SHORTEST_GROUPS : Addr) (ca : Addr) (cc : Cell) (h0 : Heap) (n0 : Nat) (Z0 : n0 ≤ h0.size) (S_SHORTEST_PATH : Sta Z h0 "com/example/allsome/allsome/cypher/PathPattern$Selector$Kind" "SHORTEST_PATH" "Lcom/example/allsome/allsome/cypher/PathPattern$Selector$Kind;" (.ref as_SHORTEST_PATH)) (S_ALL_SHORTEST_PATHS : Sta Z h0 "com/example/allsome/allsome/cypher/PathPattern$Selector$Kind" "ALL_SHORTEST_PATHS" "Lcom/example/allsome/allsome/cypher/PathPattern$Selector$Kind;" (.ref as_ALL_SHORTEST_PATHS)) (S_ANY_SHORTEST : Sta Z h0 "com/example/allsome/allsome/cypher/PathPattern$Selector$Kind" "ANY_SHORTEST" "Lcom/example/allsome/allsome/cypher/PathPattern$Selector$Kind;" (.ref as_ANY_SHORTEST)) (S_ALL_SHORTEST : Sta Z h0 "com/example/allsome/allsome/cypher/PathPattern$Selector$Kind" "ALL_SHORTEST" "Lcom/example/allsome/allsome/cypher/PathPattern$Selector$Kind;" (.ref as_ALL_SHORTEST)) (S_ANY : Sta Z h0 "com/example/allsome/allsome/cypher/PathPattern$Selector$Kind" "ANY" "Lcom/example/allsome/allsome/cypher/PathPattern$Selector$Kind;" (.ref as_ANY)) (S_ALL : Sta Z h0 "com/example/allsome/allsome/cypher/PathPattern$Selector$Kind" "ALL" "Lcom/example/allsome/allsome/cypher/PathPattern$Selector$Kind;" (.ref as_ALL)) (S_SHORTEST : Sta Z h0 "com/example/allsome/allsome/cypher/PathPattern$Selector$Kind" "SHORTEST" "Lcom/example/allsome/allsome/cypher/PathPattern$Selector$Kind;" (.ref as_SHORTEST)) (S_SHORTEST_GROUPS : Sta Z h0 "com/example/allsome/allsome/cypher/PathPattern$Selector$Kind" "SHORTEST_GROUPS" "Lcom/example/allsome/allsome/cypher/PathPattern$Selector$Kind;" (.ref as_SHORTEST_GROUPS)) (O_SHORTEST_PATH : Fld Z h0 as_SHORTEST_PATH "java/lang/Enum" "ordinal" "I" (.int 0)) (O_ALL_SHORTEST_PATHS : Fld Z h0 as_ALL_SHORTEST_PATHS "java/lang/Enum" "ordinal" "I" (.int 1)) (O_ANY_SHORTEST : Fld Z h0 as_ANY_SHORTEST "java/lang/Enum" "ordinal" "I" (.int 2)) (O_ALL_SHORTEST : Fld Z h0 as_ALL_SHORTEST "java/lang/Enum" "ordinal" "I" (.int 3)) (O_ANY : Fld Z h0 as_ANY "java/lang/Enum" "ordinal" "I" (.int 4)) (O_ALL : Fld Z h0 as_ALL "java/lang/Enum" "ordinal" "I" (.int 5)) (O_SHORTEST : Fld Z h0 as_SHORTEST "java/lang/Enum" "ordinal" "I" (.int 6)) (O_SHORTEST_GROUPS : Fld Z h0 as_SHORTEST_GROUPS "java/lang/Enum" "ordinal" "I" (.int 7)) (S2 : Sta Z h0 "java/lang/Long$LongCache" "cache" "[Ljava/lang/Long;" (.ref ca)) (A1 : Arr Z h0 ca cc (.object "java/lang/Long")) (B1 : own_Box Z h0 "java/lang/Long" cc (¬ (p1 < (-128 : Int64)) ∧ ¬ ((127 : Int64) < p1)) (((p1.toInt32) + (128 : Int32))))  :
    MetFree l x (head1 (Jvm.Cond.code x code maxLocals ret :: ws) room_1) (fun a U => a = #[(.int p0), (.long p1), (.int p2), (.long p3), (.int p4)] ∧ Z.Warmed39 U.vm ∧ U.heap = h0) (fun _ _ _ _ _ => True) (fun _ U o U' => ∃ v L, o = .returned v ∧ Q0 Z h0 n0 v U'.heap L ∧ FrameEnd U o U' L 16 128) := by
  by_cases w2 : (((p4.toUInt32 >>> ((2 : Int32) &&& 31).toUInt32).toInt32) &&& (3 : Int32)) = (2 : Int32)
  · exact rm0_2 l Z a0 hw ws p0 p1 p2 p3 p4 as_SHORTEST_PATH as_ALL_SHORTEST_PATHS as_ANY_SHORTEST as_ALL_SHORTEST as_ANY as_ALL as_SHORTEST as_SHORTEST_GROUPS ca cc  h0 n0 Z0 S_SHORTEST_PATH S_ALL_SHORTEST_PATHS S_ANY_SHORTEST S_ALL_SHORTEST S_ANY S_ALL S_SHORTEST S_SHORTEST_GROUPS O_SHORTEST_PATH O_ALL_SHORTEST_PATHS O_ANY_SHORTEST O_ALL_SHORTEST O_ANY O_ALL O_SHORTEST O_SHORTEST_GROUPS S2 A1 B1 w2
  · by_cases w3 : (((p4.toUInt32 >>> ((2 : Int32) &&& 31).toUInt32).toInt32) &&& (3 : Int32)) = (3 : Int32)
    · exact rm0_3 l Z a0 hw ws p0 p1 p2 p3 p4 as_SHORTEST_PATH as_ALL_SHORTEST_PATHS as_ANY_SHORTEST as_ALL_SHORTEST as_ANY as_ALL as_SHORTEST as_SHORTEST_GROUPS ca cc  h0 n0 Z0 S_SHORTEST_PATH S_ALL_SHORTEST_PATHS S_ANY_SHORTEST S_ALL_SHORTEST S_ANY S_ALL S_SHORTEST S_SHORTEST_GROUPS O_SHORTEST_PATH O_ALL_SHORTEST_PATHS O_ANY_SHORTEST O_ALL_SHORTEST O_ANY O_ALL O_SHORTEST O_SHORTEST_GROUPS S2 A1 B1 w2 w3
    · by_cases hk : (p0 &&& (7 : Int32)) = (own_ib p0 p2 p4)
      · have hkk : (own_kind (own_ib p0 p2 p4) as_SHORTEST_PATH as_ALL_SHORTEST_PATHS as_ANY_SHORTEST as_ALL_SHORTEST as_ANY as_ALL as_SHORTEST as_SHORTEST_GROUPS) = (own_kind (p0 &&& (7 : Int32)) as_SHORTEST_PATH as_ALL_SHORTEST_PATHS as_ANY_SHORTEST as_ALL_SHORTEST as_ANY as_ALL as_SHORTEST as_SHORTEST_GROUPS) := by rw [hk]
        by_cases hc : p1 = (own_cb p1 p3 p4)
        · exact rm0_Y l Z a0 hw ws p0 p1 p2 p3 p4 as_SHORTEST_PATH as_ALL_SHORTEST_PATHS as_ANY_SHORTEST as_ALL_SHORTEST as_ANY as_ALL as_SHORTEST as_SHORTEST_GROUPS ca cc  h0 n0 Z0 S_SHORTEST_PATH S_ALL_SHORTEST_PATHS S_ANY_SHORTEST S_ALL_SHORTEST S_ANY S_ALL S_SHORTEST S_SHORTEST_GROUPS O_SHORTEST_PATH O_ALL_SHORTEST_PATHS O_ANY_SHORTEST O_ALL_SHORTEST O_ANY O_ALL O_SHORTEST O_SHORTEST_GROUPS S2 A1 B1 w2 w3 hk hkk hc
        · exact rm0_C l Z a0 hw ws p0 p1 p2 p3 p4 as_SHORTEST_PATH as_ALL_SHORTEST_PATHS as_ANY_SHORTEST as_ALL_SHORTEST as_ANY as_ALL as_SHORTEST as_SHORTEST_GROUPS ca cc  h0 n0 Z0 S_SHORTEST_PATH S_ALL_SHORTEST_PATHS S_ANY_SHORTEST S_ALL_SHORTEST S_ANY S_ALL S_SHORTEST S_SHORTEST_GROUPS O_SHORTEST_PATH O_ALL_SHORTEST_PATHS O_ANY_SHORTEST O_ALL_SHORTEST O_ANY O_ALL O_SHORTEST O_SHORTEST_GROUPS S2 A1 B1 w2 w3 hk hkk hc
      · have hkk : ¬ ((own_kind (own_ib p0 p2 p4) as_SHORTEST_PATH as_ALL_SHORTEST_PATHS as_ANY_SHORTEST as_ALL_SHORTEST as_ANY as_ALL as_SHORTEST as_SHORTEST_GROUPS) = (own_kind (p0 &&& (7 : Int32)) as_SHORTEST_PATH as_ALL_SHORTEST_PATHS as_ANY_SHORTEST as_ALL_SHORTEST as_ANY as_ALL as_SHORTEST as_SHORTEST_GROUPS)) := Fld.ne (own_kind_ord O_SHORTEST_PATH O_ALL_SHORTEST_PATHS O_ANY_SHORTEST O_ALL_SHORTEST O_ANY O_ALL O_SHORTEST O_SHORTEST_GROUPS (own_ib_rng p0 p2 p4).1 (own_ib_rng p0 p2 p4).2) (own_kind_ord O_SHORTEST_PATH O_ALL_SHORTEST_PATHS O_ANY_SHORTEST O_ALL_SHORTEST O_ANY O_ALL O_SHORTEST O_SHORTEST_GROUPS (own_and7 p0).1 (own_and7 p0).2) (fun q => hk (Value.int.inj q).symm)
        exact rm0_K l Z a0 hw ws p0 p1 p2 p3 p4 as_SHORTEST_PATH as_ALL_SHORTEST_PATHS as_ANY_SHORTEST as_ALL_SHORTEST as_ANY as_ALL as_SHORTEST as_SHORTEST_GROUPS ca cc  h0 n0 Z0 S_SHORTEST_PATH S_ALL_SHORTEST_PATHS S_ANY_SHORTEST S_ALL_SHORTEST S_ANY S_ALL S_SHORTEST S_SHORTEST_GROUPS O_SHORTEST_PATH O_ALL_SHORTEST_PATHS O_ANY_SHORTEST O_ALL_SHORTEST O_ANY O_ALL O_SHORTEST O_SHORTEST_GROUPS S2 A1 B1 w2 w3 hk hkk
set_option maxRecDepth 65536 in
set_option maxHeartbeats 40000000 in
theorem comes_1 {Post : Tables → Env → Array Value → State → Outcome → State → Prop} (hpost : ∀ tb e args s v u, (limb_1_1.after args s (.returned v) u = true ∧ limb_1_2.after args s (.returned v) u = true ∧ True) → FrameEnd s (.returned v) u (Jvm.fieldLocs frame_1_writes args s ++ Jvm.arrayLocs frame_1_arrays args s ++ Jvm.staticLocs frame_1_statics s) 16 128 → Post tb e args s (.returned v) u) :
    ArmFor flags0 classFile x code maxLocals ret World_1 tables_1 room_1 Calls_1 rest_1 Pre_1 Post := by
  intro l hfl _ _ p e ha hc hk s m args below hf hA hF happ hP
  obtain ⟨hcalls, hrest, hpre⟩ := hP
  obtain ⟨-, -, -, hnamed, -, -, -, hat⟩ := (Spec.applies_iff hf).mp happ
  obtain ⟨hg, hn⟩ := and_e (Cond.before_iff.mp (show (Jvm.Cond.and given_1 narrow_1).before args s = true from hpre))
  obtain ⟨gv0, gr0⟩ := and_e hg
  obtain ⟨gv1, gr1⟩ := and_e gr0
  obtain ⟨gv2, gr2⟩ := and_e gr1
  obtain ⟨gv3, gr3⟩ := and_e gr2
  obtain ⟨gv4, gr4⟩ := and_e gr3
  obtain ⟨w0, w1, w2, w3, w4, rfl⟩ : ∃ w0 w1 w2 w3 w4 : Value, args = #[w0, w1, w2, w3, w4] := by
    have hs : args.size = 5 := by simpa [Cond.value, given_1] using gv0
    obtain ⟨L⟩ := args
    match L, hs with
    | [w0, w1, w2, w3, w4], _ => exact ⟨w0, w1, w2, w3, w4, rfl⟩
  have hw := fun d (hd : d ∈ tables_1) => atoms_spec (ws := Jvm.Cond.code x code maxLocals ret :: tables_1) hat d (List.mem_cons_of_mem _ hd)
  have hfit : Fit s := fun {y c} hc i hi => by
    obtain ⟨ha, rfl⟩ := Array.getElem?_eq_some_iff.mp hc
    have q := List.all_eq_true.mp ((Array.all_eq_true_iff_forall_mem.mp hF) _ (Array.getElem_mem ha)) i (List.mem_range.mpr hi)
    simpa [Array.getElem?_eq_getElem hi] using q
  obtain ⟨hsets, hown0⟩ := atoms_of _ (rest_1_c_eq ▸ (show rest_1_c.before _ s = true from hrest))
  have hr0 := Cond.before_iff.mp hown0
  obtain ⟨i0, ei0⟩ := is_v gv1
  obtain rfl : w0 = (.int i0) := Option.some.inj ei0
  obtain ⟨i1, ei1⟩ := isL_v gv2
  obtain rfl : w1 = (.long i1) := Option.some.inj ei1
  obtain ⟨i2, ei2⟩ := is_v gv3
  obtain rfl : w2 = (.int i2) := Option.some.inj ei2
  obtain ⟨i3, ei3⟩ := isL_v gv4
  obtain rfl : w3 = (.long i3) := Option.some.inj ei3
  obtain ⟨i4, ei4⟩ := is_v gr4
  obtain rfl : w4 = (.int i4) := Option.some.inj ei4
  obtain ⟨nw0, nr0⟩ := and_e hn
  obtain ⟨nw1, nr1⟩ := and_e nr0
  obtain ⟨nw2, nr2⟩ := and_e nr1
  obtain ⟨nw3, nr3⟩ := and_e nr2
  obtain ⟨nw4, nr4⟩ := and_e nr3
  obtain ⟨nw5, nr5⟩ := and_e nr4
  obtain ⟨nw6, nr6⟩ := and_e nr5
  obtain ⟨nw7, nr7⟩ := and_e nr6
  obtain ⟨nw8, nr8⟩ := and_e nr7
  obtain ⟨nw9, nr9⟩ := and_e nr8
  obtain ⟨nw10, nr10⟩ := and_e nr9
  obtain ⟨nw11, nr11⟩ := and_e nr10
  obtain ⟨nw12, nr12⟩ := and_e nr11
  obtain ⟨nw13, nr13⟩ := and_e nr12
  obtain ⟨nw14, nr14⟩ := and_e nr13
  obtain ⟨as_SHORTEST_PATH, ev_SHORTEST_PATH⟩ := exa_v nw0
  have S_SHORTEST_PATH := Sta.start ev_SHORTEST_PATH (Or.inr ⟨(wd hw 8 rfl), (wd hw 9 rfl)⟩)
  have E_SHORTEST_PATH := Exa.start ev_SHORTEST_PATH nw0
  have O_SHORTEST_PATH := own_fld ev_SHORTEST_PATH nw3
  obtain ⟨as_ALL_SHORTEST_PATHS, ev_ALL_SHORTEST_PATHS⟩ := exa_v nw1
  have S_ALL_SHORTEST_PATHS := Sta.start ev_ALL_SHORTEST_PATHS (Or.inr ⟨(wd hw 8 rfl), (wd hw 21 rfl)⟩)
  have E_ALL_SHORTEST_PATHS := Exa.start ev_ALL_SHORTEST_PATHS nw1
  have O_ALL_SHORTEST_PATHS := own_fld ev_ALL_SHORTEST_PATHS nw2
  obtain ⟨as_SHORTEST_GROUPS, ev_SHORTEST_GROUPS⟩ := exa_v nw4
  have S_SHORTEST_GROUPS := Sta.start ev_SHORTEST_GROUPS (Or.inr ⟨(wd hw 8 rfl), (wd hw 38 rfl)⟩)
  have E_SHORTEST_GROUPS := Exa.start ev_SHORTEST_GROUPS nw4
  have O_SHORTEST_GROUPS := own_fld ev_SHORTEST_GROUPS nw5
  obtain ⟨as_SHORTEST, ev_SHORTEST⟩ := exa_v nw6
  have S_SHORTEST := Sta.start ev_SHORTEST (Or.inr ⟨(wd hw 8 rfl), (wd hw 58 rfl)⟩)
  have E_SHORTEST := Exa.start ev_SHORTEST nw6
  have O_SHORTEST := own_fld ev_SHORTEST nr14
  obtain ⟨as_ALL_SHORTEST, ev_ALL_SHORTEST⟩ := exa_v nw7
  have S_ALL_SHORTEST := Sta.start ev_ALL_SHORTEST (Or.inr ⟨(wd hw 8 rfl), (wd hw 60 rfl)⟩)
  have E_ALL_SHORTEST := Exa.start ev_ALL_SHORTEST nw7
  have O_ALL_SHORTEST := own_fld ev_ALL_SHORTEST nw14
  obtain ⟨as_ANY, ev_ANY⟩ := exa_v nw8
  have S_ANY := Sta.start ev_ANY (Or.inr ⟨(wd hw 8 rfl), (wd hw 62 rfl)⟩)
  have E_ANY := Exa.start ev_ANY nw8
  have O_ANY := own_fld ev_ANY nw13
  obtain ⟨as_ANY_SHORTEST, ev_ANY_SHORTEST⟩ := exa_v nw9
  have S_ANY_SHORTEST := Sta.start ev_ANY_SHORTEST (Or.inr ⟨(wd hw 8 rfl), (wd hw 64 rfl)⟩)
  have E_ANY_SHORTEST := Exa.start ev_ANY_SHORTEST nw9
  have O_ANY_SHORTEST := own_fld ev_ANY_SHORTEST nw10
  obtain ⟨as_ALL, ev_ALL⟩ := exa_v nw11
  have S_ALL := Sta.start ev_ALL (Or.inr ⟨(wd hw 8 rfl), (wd hw 66 rfl)⟩)
  have E_ALL := Exa.start ev_ALL nw11
  have O_ALL := own_fld ev_ALL nw12
  obtain ⟨ca, ev_c⟩ := arr_v (Cond.before_iff.mp (hsets _ (List.mem_of_getElem? (i := 2) rfl)))
  have S_c := Sta.start ev_c (Or.inl (hsets _ (List.mem_of_getElem? (i := 1) rfl)))
  obtain ⟨cc, A_c⟩ := Arr.start ev_c (Cond.before_iff.mp (hsets _ (List.mem_of_getElem? (i := 2) rfl)))
  have hlen := IntBox.length_fwd (hsets _ (List.mem_of_getElem? (i := 4) rfl)) ev_c A_c.1 A_c.2.1 A_c.2.2
  have hsz : cc.slots.size = 256 := own_size hlen.1 hlen.2
  have hbox : own_Box s s.heap "java/lang/Long" cc (¬ (i1 < (-128 : Int64)) ∧ ¬ ((127 : Int64) < i1)) (((i1.toInt32) + (128 : Int32))) := fun hb => own_cache A_c (fun _ => ev_c) hsz (Cond.before_iff.mp (hsets _ (List.mem_of_getElem? (i := 5) rfl))) (own_j hb.1 hb.2).1 (own_j hb.1 hb.2).2
  obtain ⟨n, o, h1, h2, h3, _, L, rfl, ⟨rfl, N⟩, hq⟩ := rm0 l s _ hw tables_1 i0 i1 i2 i3 i4 as_SHORTEST_PATH as_ALL_SHORTEST_PATHS as_ANY_SHORTEST as_ALL_SHORTEST as_ANY as_ALL as_SHORTEST as_SHORTEST_GROUPS ca cc s.heap s.heap.size (Nat.le_refl _) S_SHORTEST_PATH S_ALL_SHORTEST_PATHS S_ANY_SHORTEST S_ALL_SHORTEST S_ANY S_ALL S_SHORTEST S_SHORTEST_GROUPS O_SHORTEST_PATH O_ALL_SHORTEST_PATHS O_ANY_SHORTEST O_ALL_SHORTEST O_ANY O_ALL O_SHORTEST O_SHORTEST_GROUPS S_c A_c hbox p e ha hc hk s m _ below hf ((Spec.applies_iff_loose hf).mp happ).1 ⟨rfl, State.Warmed39.refl s, rfl⟩ trivial
  refine ⟨n, _, h1, h2, h3, hpost _ _ _ _ _ _ ⟨Cond.after_iff.mpr rfl, Cond.after_iff.mpr (eq_i res_at (Term.int_eval (1)) rfl), trivial⟩ ⟨hq.1, hq.2.1, (hq.2.2.sift fun y hy => Or.inr (N y hy)).mono (by decide) (by decide)⟩⟩
theorem main_1_1 : Claimed_1_1 := comes_1 fun _ _ _ _ _ _ h hF => ⟨h.1, hF⟩
theorem main_1_2 : Claimed_1_2 := comes_1 fun _ _ _ _ _ _ h hF => ⟨h.2.1, hF⟩
end Jvm.Pilot.@@N@@
namespace Jvm.Pilot.@@N@@
open Jvm Jvm.ClassFile Sem Op Lib Jvm.Free Jvm.Stand Jvm.Pilot.@@N@@.Jvm.D
/-! MADE BY PROGRAM (witnessworld.py) out of the Statement's table words and the real class files: 18 classes; the members and pool entries that the words name. The judged class is class 1, her method 2. -/
namespace start1
open Jvm.ClassFile
def u (s : String) : CpInfo := .utf8 (stringToUtf16 s)
/-- a pool by its gaps: so many unusable entries, then the entry; so many at the end -/
def gap : Nat → List CpInfo → List CpInfo
  | 0, r => r
  | n + 1, r => .unusable :: gap n r
def poolList (es : List (Nat × CpInfo)) (last : Nat) : List CpInfo := es.foldr (fun e r => gap e.1 (e.2 :: r)) (gap last [])
def pool (es : List (Nat × CpInfo)) (last : Nat) : Array CpInfo := ⟨poolList es last⟩
def fileOf (pool : Array CpInfo) (this : Nat) (attrs : Array Attribute := #[]) (ms : Array MethodInfo := #[]) (fl : Nat := 33) (sup : Nat := 0) (ifs : Array Nat := #[]) (fds : Array FieldInfo := #[]) : ClassFile where
  minorVersion := 0
  majorVersion := 65
  constantPool := pool
  accessFlags := fl
  thisClass := this
  superClass := sup
  interfaces := ifs
  fields := fds
  methods := ms
  attributes := attrs
def plain (name : String) (sup : Option ClassId) : Class where
  name := name
  kind := .ordinary
  loader := none
  accessFlags := 33
  super := sup
  interfaces := #[]
  cf := none
  fields := #[]
  methods := #[]
  instanceTypes := #[]
  staticTypes := #[]
  resolved := #[]
  callSites := []
  init := .initialized
  statics := none
  mirror := none

def pool0 : Array CpInfo := pool [(5, u "<init>"), (0, u "()V"), (1, .class_ 10), (1, u "java/lang/Object")] 113

def k0c0 : Code := { maxStack := 0, maxLocals := 1, code := object_method_1_code, exceptionTable := #[], attributes := #[] }
def k0m0 : Method := { name := "<init>", desc := "()V", sig := { parameters := [], returnType := none }, accessFlags := 1, code := some k0c0 }
/-- java/lang/Object -/
def k0 : Class := { plain "java/lang/Object" none with
  accessFlags := 33
  interfaces := #[]
  cf := some (fileOf pool0 8 #[] #[{ accessFlags := 1, nameIndex := 5, descriptorIndex := 6, attributes := #[] }] 33 0 #[] #[])
  fields := #[]
  methods := #[k0m0]
  instanceTypes := #[]
  staticTypes := #[]
  resolved := Array.replicate 124 none
  statics := none }

def pool1 : Array CpInfo := pool [(2, .class_ 4), (1, u "java/lang/Object"), (0, u "<init>"), (0, u "()V"), (0, .fieldref 8 9), (0, .class_ 10), (0, .nameAndType 11 12), (0, u "com/example/allsome/allsome/cypher/PathPattern$Selector$Kind"), (0, u "SHORTEST_PATH"), (0, u "Lcom/example/allsome/allsome/cypher/PathPattern$Selector$Kind;"), (0, .fieldref 8 14), (0, .nameAndType 15 12), (0, u "ALL_SHORTEST_PATHS"), (0, .fieldref 8 17), (0, .nameAndType 18 12), (0, u "ANY_SHORTEST"), (0, .fieldref 8 20), (0, .nameAndType 21 12), (0, u "ALL_SHORTEST"), (0, .fieldref 8 23), (0, .nameAndType 24 12), (0, u "ANY"), (0, .fieldref 8 26), (0, .nameAndType 27 12), (0, u "ALL"), (0, .fieldref 8 29), (0, .nameAndType 30 12), (0, u "SHORTEST"), (0, .fieldref 8 32), (0, .nameAndType 33 12), (0, u "SHORTEST_GROUPS"), (0, .class_ 35), (0, u "com/example/allsome/allsome/cypher/PathPattern$Selector"), (0, .methodref 37 38), (0, .class_ 39), (0, .nameAndType 40 41), (0, u "com/example/allsome/allsome/cypher/SelectorEqualsPinLaw"), (0, u "kind"), (0, u "(I)Lcom/example/allsome/allsome/cypher/PathPattern$Selector$Kind;"), (0, .methodref 34 43), (0, .nameAndType 5 44), (0, u "(Lcom/example/allsome/allsome/cypher/PathPattern$Selector$Kind;J)V"), (0, .methodref 46 47), (0, .class_ 48), (0, .nameAndType 49 50), (0, u "java/lang/Long"), (0, u "valueOf"), (0, u "(J)Ljava/lang/Long;"), (0, .methodref 34 52), (0, .nameAndType 53 54), (0, u "equals"), (0, u "(Ljava/lang/Object;)Z"), (3, u "law"), (0, u "(IJIJI)Z")] 7

def k1m0 : Method := { name := "<init>", desc := "()V", sig := { parameters := [], returnType := none }, accessFlags := 1, code := none }
def k1c1 : Code := { maxStack := 2, maxLocals := 1, code := method_2_code, exceptionTable := #[], attributes := #[] }
def k1m1 : Method := { name := "kind", desc := "(I)Lcom/example/allsome/allsome/cypher/PathPattern$Selector$Kind;", sig := { parameters := [.int], returnType := some (.object "com/example/allsome/allsome/cypher/PathPattern$Selector$Kind") }, accessFlags := 10, code := some k1c1 }
def k1c2 : Code := { maxStack := 5, maxLocals := 17, code := code, exceptionTable := #[], attributes := #[] }
def k1m2 : Method := { name := "law", desc := "(IJIJI)Z", sig := { parameters := [.int, .long, .int, .long, .int], returnType := some .boolean }, accessFlags := 9, code := some k1c2 }
/-- com/example/allsome/allsome/cypher/SelectorEqualsPinLaw -/
def k1 : Class := { plain "com/example/allsome/allsome/cypher/SelectorEqualsPinLaw" (some 0) with
  accessFlags := 49
  interfaces := #[]
  cf := some (fileOf pool1 37 #[] #[{ accessFlags := 1, nameIndex := 5, descriptorIndex := 6, attributes := #[] }, { accessFlags := 10, nameIndex := 40, descriptorIndex := 41, attributes := #[] }, { accessFlags := 9, nameIndex := 58, descriptorIndex := 59, attributes := #[] }] 49 2 #[] #[])
  fields := #[]
  methods := #[k1m0, k1m1, k1m2]
  instanceTypes := #[]
  staticTypes := #[]
  resolved := Array.replicate 67 none
  statics := none }

def pool2 : Array CpInfo := pool [(1, .methodref 2 3), (0, .class_ 4), (0, .nameAndType 5 6), (0, u "java/lang/Object"), (0, u "<init>"), (0, u "()V"), (0, .fieldref 8 9), (0, .class_ 10), (0, .nameAndType 11 12), (0, u "com/example/allsome/allsome/cypher/PathPattern$Selector"), (0, u "kind"), (0, u "Lcom/example/allsome/allsome/cypher/PathPattern$Selector$Kind;"), (0, .fieldref 8 14), (0, .nameAndType 15 16), (0, u "count"), (0, u "J"), (12, u "(Lcom/example/allsome/allsome/cypher/PathPattern$Selector$Kind;J)V"), (4, u "equals"), (0, u "(Ljava/lang/Object;)Z"), (6, .class_ 43), (0, u "com/example/allsome/allsome/cypher/PathPattern")] 5

def k2c0 : Code := { maxStack := 3, maxLocals := 4, code := prog_97_method_1_code, exceptionTable := #[], attributes := #[] }
def k2m0 : Method := { name := "<init>", desc := "(Lcom/example/allsome/allsome/cypher/PathPattern$Selector$Kind;J)V", sig := { parameters := [(.object "com/example/allsome/allsome/cypher/PathPattern$Selector$Kind"), .long], returnType := none }, accessFlags := 0, code := some k2c0 }
def k2c1 : Code := { maxStack := 4, maxLocals := 3, code := prog_97_method_4_code, exceptionTable := #[], attributes := #[] }
def k2m1 : Method := { name := "equals", desc := "(Ljava/lang/Object;)Z", sig := { parameters := [(.object "java/lang/Object")], returnType := some .boolean }, accessFlags := 1, code := some k2c1 }
/-- com/example/allsome/allsome/cypher/PathPattern$Selector -/
def k2 : Class := { plain "com/example/allsome/allsome/cypher/PathPattern$Selector" (some 0) with
  accessFlags := 49
  interfaces := #[]
  cf := some (fileOf pool2 8 #[.nestHost 42] #[{ accessFlags := 0, nameIndex := 5, descriptorIndex := 29, attributes := #[] }, { accessFlags := 1, nameIndex := 34, descriptorIndex := 35, attributes := #[] }] 49 2 #[] #[{ accessFlags := 18, nameIndex := 11, descriptorIndex := 12, attributes := #[] }, { accessFlags := 18, nameIndex := 15, descriptorIndex := 16, attributes := #[] }])
  fields := #[{ name := "kind", type := (.object "com/example/allsome/allsome/cypher/PathPattern$Selector$Kind"), accessFlags := 18, slot := 0, constantValue := 0 }, { name := "count", type := .long, accessFlags := 18, slot := 1, constantValue := 0 }]
  methods := #[k2m0, k2m1]
  instanceTypes := #[(.object "com/example/allsome/allsome/cypher/PathPattern$Selector$Kind"), .long]
  staticTypes := #[]
  resolved := Array.replicate 49 none
  statics := none }

def pool3 : Array CpInfo := pool [(1, .class_ 2), (0, u "java/lang/constant/Constable"), (0, .class_ 4), (0, u "java/lang/Object")] 6

/-- java/lang/constant/Constable -/
def k3 : Class := { plain "java/lang/constant/Constable" (some 0) with
  accessFlags := 1537
  interfaces := #[]
  cf := some (fileOf pool3 1 #[] #[] 1537 3 #[] #[])
  fields := #[]
  methods := #[]
  instanceTypes := #[]
  staticTypes := #[]
  resolved := Array.replicate 11 none
  statics := none }

def pool4 : Array CpInfo := pool [(1, .class_ 2), (0, u "java/lang/Comparable"), (0, .class_ 4), (0, u "java/lang/Object")] 7

/-- java/lang/Comparable -/
def k4 : Class := { plain "java/lang/Comparable" (some 0) with
  accessFlags := 1537
  interfaces := #[]
  cf := some (fileOf pool4 1 #[] #[] 1537 3 #[] #[])
  fields := #[]
  methods := #[]
  instanceTypes := #[]
  staticTypes := #[]
  resolved := Array.replicate 12 none
  statics := none }

def pool5 : Array CpInfo := pool [(1, .class_ 2), (0, u "java/io/Serializable"), (0, .class_ 4), (0, u "java/lang/Object")] 2

/-- java/io/Serializable -/
def k5 : Class := { plain "java/io/Serializable" (some 0) with
  accessFlags := 1537
  interfaces := #[]
  cf := some (fileOf pool5 1 #[] #[] 1537 3 #[] #[])
  fields := #[]
  methods := #[]
  instanceTypes := #[]
  staticTypes := #[]
  resolved := Array.replicate 7 none
  statics := none }

def pool6 : Array CpInfo := pool [(2, .class_ 4), (1, u "java/lang/Enum"), (0, u "name"), (0, u "Ljava/lang/String;"), (2, u "ordinal"), (0, u "I"), (1, .class_ 14), (1, u "java/lang/Object"), (4, u "hash"), (86, .class_ 108), (1, u "java/lang/Enum$EnumDesc"), (2, .class_ 112), (0, u "java/lang/constant/Constable"), (0, .class_ 114), (0, u "java/lang/Comparable"), (0, .class_ 116), (0, u "java/io/Serializable")] 87

/-- java/lang/Enum -/
def k6 : Class := { plain "java/lang/Enum" (some 0) with
  accessFlags := 1057
  interfaces := #[3, 4, 5]
  cf := some (fileOf pool6 2 #[.nestMembers #[106]] #[] 1057 12 #[111, 113, 115] #[{ accessFlags := 18, nameIndex := 5, descriptorIndex := 6, attributes := #[] }, { accessFlags := 18, nameIndex := 9, descriptorIndex := 10, attributes := #[] }, { accessFlags := 2, nameIndex := 19, descriptorIndex := 10, attributes := #[] }])
  fields := #[{ name := "name", type := (.object "java/lang/String"), accessFlags := 18, slot := 0, constantValue := 0 }, { name := "ordinal", type := .int, accessFlags := 18, slot := 1, constantValue := 0 }, { name := "hash", type := .int, accessFlags := 2, slot := 2, constantValue := 0 }]
  methods := #[]
  instanceTypes := #[(.object "java/lang/String"), .int, .int]
  staticTypes := #[]
  resolved := Array.replicate 204 none
  statics := none }

def pool7 : Array CpInfo := pool [(1, .class_ 2), (0, u "com/example/allsome/allsome/cypher/PathPattern$Selector$Kind"), (2, u "SHORTEST_PATH"), (0, u "Lcom/example/allsome/allsome/cypher/PathPattern$Selector$Kind;"), (2, u "ALL_SHORTEST_PATHS"), (2, u "ANY_SHORTEST"), (2, u "ALL_SHORTEST"), (2, u "ANY"), (2, u "ALL"), (2, u "SHORTEST"), (2, u "SHORTEST_GROUPS"), (2, u "$VALUES"), (0, u "[Lcom/example/allsome/allsome/cypher/PathPattern$Selector$Kind;"), (6, .class_ 40), (1, u "java/lang/Enum"), (8, u "written"), (0, u "Ljava/lang/String;"), (39, .class_ 91), (0, u "com/example/allsome/allsome/cypher/PathPattern")] 5

/-- com/example/allsome/allsome/cypher/PathPattern$Selector$Kind -/
def k7 : Class := { plain "com/example/allsome/allsome/cypher/PathPattern$Selector$Kind" (some 6) with
  accessFlags := 16433
  interfaces := #[]
  cf := some (fileOf pool7 1 #[.nestHost 90] #[] 16433 38 #[] #[{ accessFlags := 16409, nameIndex := 5, descriptorIndex := 6, attributes := #[] }, { accessFlags := 16409, nameIndex := 9, descriptorIndex := 6, attributes := #[] }, { accessFlags := 16409, nameIndex := 12, descriptorIndex := 6, attributes := #[] }, { accessFlags := 16409, nameIndex := 15, descriptorIndex := 6, attributes := #[] }, { accessFlags := 16409, nameIndex := 18, descriptorIndex := 6, attributes := #[] }, { accessFlags := 16409, nameIndex := 21, descriptorIndex := 6, attributes := #[] }, { accessFlags := 16409, nameIndex := 24, descriptorIndex := 6, attributes := #[] }, { accessFlags := 16409, nameIndex := 27, descriptorIndex := 6, attributes := #[] }, { accessFlags := 18, nameIndex := 49, descriptorIndex := 50, attributes := #[] }, { accessFlags := 4122, nameIndex := 30, descriptorIndex := 31, attributes := #[] }])
  fields := #[{ name := "SHORTEST_PATH", type := (.object "com/example/allsome/allsome/cypher/PathPattern$Selector$Kind"), accessFlags := 16409, slot := 0, constantValue := 0 }, { name := "ALL_SHORTEST_PATHS", type := (.object "com/example/allsome/allsome/cypher/PathPattern$Selector$Kind"), accessFlags := 16409, slot := 1, constantValue := 0 }, { name := "ANY_SHORTEST", type := (.object "com/example/allsome/allsome/cypher/PathPattern$Selector$Kind"), accessFlags := 16409, slot := 2, constantValue := 0 }, { name := "ALL_SHORTEST", type := (.object "com/example/allsome/allsome/cypher/PathPattern$Selector$Kind"), accessFlags := 16409, slot := 3, constantValue := 0 }, { name := "ANY", type := (.object "com/example/allsome/allsome/cypher/PathPattern$Selector$Kind"), accessFlags := 16409, slot := 4, constantValue := 0 }, { name := "ALL", type := (.object "com/example/allsome/allsome/cypher/PathPattern$Selector$Kind"), accessFlags := 16409, slot := 5, constantValue := 0 }, { name := "SHORTEST", type := (.object "com/example/allsome/allsome/cypher/PathPattern$Selector$Kind"), accessFlags := 16409, slot := 6, constantValue := 0 }, { name := "SHORTEST_GROUPS", type := (.object "com/example/allsome/allsome/cypher/PathPattern$Selector$Kind"), accessFlags := 16409, slot := 7, constantValue := 0 }, { name := "written", type := (.object "java/lang/String"), accessFlags := 18, slot := 3, constantValue := 0 }, { name := "$VALUES", type := (.array (.object "com/example/allsome/allsome/cypher/PathPattern$Selector$Kind")), accessFlags := 4122, slot := 8, constantValue := 0 }]
  methods := #[]
  instanceTypes := #[(.object "java/lang/String"), .int, .int, (.object "java/lang/String")]
  staticTypes := #[(.object "com/example/allsome/allsome/cypher/PathPattern$Selector$Kind"), (.object "com/example/allsome/allsome/cypher/PathPattern$Selector$Kind"), (.object "com/example/allsome/allsome/cypher/PathPattern$Selector$Kind"), (.object "com/example/allsome/allsome/cypher/PathPattern$Selector$Kind"), (.object "com/example/allsome/allsome/cypher/PathPattern$Selector$Kind"), (.object "com/example/allsome/allsome/cypher/PathPattern$Selector$Kind"), (.object "com/example/allsome/allsome/cypher/PathPattern$Selector$Kind"), (.object "com/example/allsome/allsome/cypher/PathPattern$Selector$Kind"), (.array (.object "com/example/allsome/allsome/cypher/PathPattern$Selector$Kind"))]
  resolved := Array.replicate 97 none
  statics := some 0 }

def pool8 : Array CpInfo := pool [(1, .methodref 2 3), (0, .class_ 4), (0, .nameAndType 5 6), (0, u "java/lang/Object"), (0, u "<init>"), (0, u "()V"), (1, .class_ 10), (1, u "java/lang/Number"), (2, .class_ 14), (0, u "java/io/Serializable"), (0, u "serialVersionUID"), (0, u "J")] 20

def k8c0 : Code := { maxStack := 1, maxLocals := 1, code := jdk_18_method_1_code, exceptionTable := #[], attributes := #[] }
def k8m0 : Method := { name := "<init>", desc := "()V", sig := { parameters := [], returnType := none }, accessFlags := 1, code := some k8c0 }
/-- java/lang/Number -/
def k8 : Class := { plain "java/lang/Number" (some 0) with
  accessFlags := 1057
  interfaces := #[5]
  cf := some (fileOf pool8 8 #[] #[{ accessFlags := 1, nameIndex := 5, descriptorIndex := 6, attributes := #[] }] 1057 2 #[13] #[{ accessFlags := 26, nameIndex := 15, descriptorIndex := 16, attributes := #[] }])
  fields := #[{ name := "serialVersionUID", type := .long, accessFlags := 26, slot := 0, constantValue := 0 }]
  methods := #[k8m0]
  instanceTypes := #[]
  staticTypes := #[.long]
  resolved := Array.replicate 37 none
  statics := none }

def pool9 : Array CpInfo := pool [(1, .class_ 2), (0, u "java/lang/constant/ConstantDesc"), (0, .class_ 4), (0, u "java/lang/Object")] 32

/-- java/lang/constant/ConstantDesc -/
def k9 : Class := { plain "java/lang/constant/ConstantDesc" (some 0) with
  accessFlags := 1537
  interfaces := #[]
  cf := some (fileOf pool9 1 #[] #[] 1537 3 #[] #[])
  fields := #[]
  methods := #[]
  instanceTypes := #[]
  staticTypes := #[]
  resolved := Array.replicate 37 none
  statics := none }

def pool10 : Array CpInfo := pool [(1, .class_ 2), (0, u "java/lang/Long"), (55, .nameAndType 59 60), (0, u "<init>"), (0, u "()V"), (24, u "valueOf"), (143, u "(J)Ljava/lang/Long;"), (0, .long 18446744073709551488), (1, .long 127), (1, .fieldref 235 236), (0, .class_ 237), (0, .nameAndType 238 239), (0, u "java/lang/Long$LongCache"), (0, u "cache"), (0, u "[Ljava/lang/Long;"), (0, .methodref 1 241), (0, .nameAndType 59 242), (0, u "(J)V"), (27, .methodref 271 58), (0, .class_ 272), (0, u "java/lang/Number"), (0, .fieldref 1 274), (0, .nameAndType 275 276), (0, u "value"), (0, u "J"), (84, u "TYPE"), (0, u "Ljava/lang/Class;"), (0, .class_ 364), (0, u "java/lang/Comparable"), (0, .class_ 366), (0, u "java/lang/constant/Constable"), (0, .class_ 368), (0, u "java/lang/constant/ConstantDesc"), (0, u "MIN_VALUE"), (1, u "MAX_VALUE"), (4, u "SIZE"), (0, u "I"), (1, u "BYTES"), (1, u "serialVersionUID")] 142

def k10c0 : Code := { maxStack := 4, maxLocals := 3, code := jdk_35_method_24_code, exceptionTable := #[], attributes := #[] }
def k10m0 : Method := { name := "valueOf", desc := "(J)Ljava/lang/Long;", sig := { parameters := [.long], returnType := some (.object "java/lang/Long") }, accessFlags := 9, code := some k10c0 }
def k10c1 : Code := { maxStack := 3, maxLocals := 3, code := jdk_35_method_26_code, exceptionTable := #[], attributes := #[] }
def k10m1 : Method := { name := "<init>", desc := "(J)V", sig := { parameters := [.long], returnType := none }, accessFlags := 1, code := some k10c1 }
/-- java/lang/Long -/
def k10 : Class := { plain "java/lang/Long" (some 8) with
  accessFlags := 49
  interfaces := #[4, 3, 9]
  cf := some (fileOf pool10 1 #[.nestMembers #[235]] #[{ accessFlags := 9, nameIndex := 85, descriptorIndex := 229, attributes := #[] }, { accessFlags := 1, nameIndex := 59, descriptorIndex := 242, attributes := #[] }] 49 271 #[363, 365, 367] #[{ accessFlags := 25, nameIndex := 369, descriptorIndex := 276, attributes := #[] }, { accessFlags := 25, nameIndex := 371, descriptorIndex := 276, attributes := #[] }, { accessFlags := 25, nameIndex := 361, descriptorIndex := 362, attributes := #[] }, { accessFlags := 18, nameIndex := 275, descriptorIndex := 276, attributes := #[] }, { accessFlags := 25, nameIndex := 376, descriptorIndex := 377, attributes := #[] }, { accessFlags := 25, nameIndex := 379, descriptorIndex := 377, attributes := #[] }, { accessFlags := 26, nameIndex := 381, descriptorIndex := 276, attributes := #[] }])
  fields := #[{ name := "MIN_VALUE", type := .long, accessFlags := 25, slot := 0, constantValue := 0 }, { name := "MAX_VALUE", type := .long, accessFlags := 25, slot := 1, constantValue := 0 }, { name := "TYPE", type := (.object "java/lang/Class"), accessFlags := 25, slot := 2, constantValue := 0 }, { name := "value", type := .long, accessFlags := 18, slot := 0, constantValue := 0 }, { name := "SIZE", type := .int, accessFlags := 25, slot := 3, constantValue := 0 }, { name := "BYTES", type := .int, accessFlags := 25, slot := 4, constantValue := 0 }, { name := "serialVersionUID", type := .long, accessFlags := 26, slot := 5, constantValue := 0 }]
  methods := #[k10m0, k10m1]
  instanceTypes := #[.long]
  staticTypes := #[.long, .long, (.object "java/lang/Class"), .int, .int, .long]
  resolved := Array.replicate 524 none
  statics := none }

def pool11 : Array CpInfo := pool [(2, .class_ 4), (1, u "java/lang/Object"), (0, u "<init>"), (0, u "()V"), (0, .class_ 8), (0, u "java/lang/Long"), (7, .class_ 18), (1, u "java/lang/Long$LongCache"), (0, u "$assertionsDisabled"), (0, u "Z"), (8, u "archivedCache"), (0, u "[Ljava/lang/Long;"), (7, u "cache")] 24

def k11m0 : Method := { name := "<init>", desc := "()V", sig := { parameters := [], returnType := none }, accessFlags := 2, code := none }
/-- java/lang/Long$LongCache -/
def k11 : Class := { plain "java/lang/Long$LongCache" (some 0) with
  accessFlags := 48
  interfaces := #[]
  cf := some (fileOf pool11 16 #[.nestHost 7] #[{ accessFlags := 2, nameIndex := 5, descriptorIndex := 6, attributes := #[] }] 48 2 #[] #[{ accessFlags := 24, nameIndex := 38, descriptorIndex := 30, attributes := #[] }, { accessFlags := 8, nameIndex := 29, descriptorIndex := 30, attributes := #[] }, { accessFlags := 4120, nameIndex := 19, descriptorIndex := 20, attributes := #[] }])
  fields := #[{ name := "cache", type := (.array (.object "java/lang/Long")), accessFlags := 24, slot := 0, constantValue := 0 }, { name := "archivedCache", type := (.array (.object "java/lang/Long")), accessFlags := 8, slot := 1, constantValue := 0 }, { name := "$assertionsDisabled", type := .boolean, accessFlags := 4120, slot := 2, constantValue := 0 }]
  methods := #[k11m0]
  instanceTypes := #[]
  staticTypes := #[(.array (.object "java/lang/Long")), (.array (.object "java/lang/Long")), .boolean]
  resolved := Array.replicate 63 none
  statics := some 1 }

def pool12 : Array CpInfo := pool [(1, u "java/lang/Cloneable"), (0, .class_ 1), (0, u "java/lang/Object"), (0, .class_ 3)] 3

/-- java/lang/Cloneable -/
def k12 : Class := { plain "java/lang/Cloneable" (some 0) with
  accessFlags := 1537
  interfaces := #[]
  cf := some (fileOf pool12 2 #[] #[] 1537 4 #[] #[])
  fields := #[]
  methods := #[]
  instanceTypes := #[]
  staticTypes := #[]
  resolved := Array.replicate 8 none
  statics := none }

/-- the primitive byte -/
def k13 : Class := { plain "byte" none with kind := .primitive 'B', accessFlags := 0x411 }
/-- [B -/
def k14 : Class := { plain "[B" (some 0) with kind := .array 13 .byte, interfaces := #[12, 5], accessFlags := 1041 }

/-- the primitive int -/
def k15 : Class := { plain "int" none with kind := .primitive 'I', accessFlags := 0x411 }
/-- [I -/
def k16 : Class := { plain "[I" (some 0) with kind := .array 15 .int, interfaces := #[12, 5], accessFlags := 1041 }

/-- [Ljava/lang/Long; -/
def k17 : Class := { plain "[Ljava/lang/Long;" (some 0) with kind := .array 10 (.object "java/lang/Long"), interfaces := #[12, 5], accessFlags := 1041 }

def heap : Heap := #[{ cls := 7, slots := #[.ref 259, .ref 260, .ref 261, .ref 262, .ref 263, .ref 264, .ref 265, .ref 266, .null], vm := .statics 7 },
  { cls := 11, slots := #[.ref 2, .null, .int 0], vm := .statics 11 },
  { cls := 17, slots := #[.ref 3, .ref 4, .ref 5, .ref 6, .ref 7, .ref 8, .ref 9, .ref 10, .ref 11, .ref 12, .ref 13, .ref 14, .ref 15, .ref 16, .ref 17, .ref 18, .ref 19, .ref 20, .ref 21, .ref 22, .ref 23, .ref 24, .ref 25, .ref 26, .ref 27, .ref 28, .ref 29, .ref 30, .ref 31, .ref 32, .ref 33, .ref 34, .ref 35, .ref 36, .ref 37, .ref 38, .ref 39, .ref 40, .ref 41, .ref 42, .ref 43, .ref 44, .ref 45, .ref 46, .ref 47, .ref 48, .ref 49, .ref 50, .ref 51, .ref 52, .ref 53, .ref 54, .ref 55, .ref 56, .ref 57, .ref 58, .ref 59, .ref 60, .ref 61, .ref 62, .ref 63, .ref 64, .ref 65, .ref 66, .ref 67, .ref 68, .ref 69, .ref 70, .ref 71, .ref 72, .ref 73, .ref 74, .ref 75, .ref 76, .ref 77, .ref 78, .ref 79, .ref 80, .ref 81, .ref 82, .ref 83, .ref 84, .ref 85, .ref 86, .ref 87, .ref 88, .ref 89, .ref 90, .ref 91, .ref 92, .ref 93, .ref 94, .ref 95, .ref 96, .ref 97, .ref 98, .ref 99, .ref 100, .ref 101, .ref 102, .ref 103, .ref 104, .ref 105, .ref 106, .ref 107, .ref 108, .ref 109, .ref 110, .ref 111, .ref 112, .ref 113, .ref 114, .ref 115, .ref 116, .ref 117, .ref 118, .ref 119, .ref 120, .ref 121, .ref 122, .ref 123, .ref 124, .ref 125, .ref 126, .ref 127, .ref 128, .ref 129, .ref 130, .ref 131, .ref 132, .ref 133, .ref 134, .ref 135, .ref 136, .ref 137, .ref 138, .ref 139, .ref 140, .ref 141, .ref 142, .ref 143, .ref 144, .ref 145, .ref 146, .ref 147, .ref 148, .ref 149, .ref 150, .ref 151, .ref 152, .ref 153, .ref 154, .ref 155, .ref 156, .ref 157, .ref 158, .ref 159, .ref 160, .ref 161, .ref 162, .ref 163, .ref 164, .ref 165, .ref 166, .ref 167, .ref 168, .ref 169, .ref 170, .ref 171, .ref 172, .ref 173, .ref 174, .ref 175, .ref 176, .ref 177, .ref 178, .ref 179, .ref 180, .ref 181, .ref 182, .ref 183, .ref 184, .ref 185, .ref 186, .ref 187, .ref 188, .ref 189, .ref 190, .ref 191, .ref 192, .ref 193, .ref 194, .ref 195, .ref 196, .ref 197, .ref 198, .ref 199, .ref 200, .ref 201, .ref 202, .ref 203, .ref 204, .ref 205, .ref 206, .ref 207, .ref 208, .ref 209, .ref 210, .ref 211, .ref 212, .ref 213, .ref 214, .ref 215, .ref 216, .ref 217, .ref 218, .ref 219, .ref 220, .ref 221, .ref 222, .ref 223, .ref 224, .ref 225, .ref 226, .ref 227, .ref 228, .ref 229, .ref 230, .ref 231, .ref 232, .ref 233, .ref 234, .ref 235, .ref 236, .ref 237, .ref 238, .ref 239, .ref 240, .ref 241, .ref 242, .ref 243, .ref 244, .ref 245, .ref 246, .ref 247, .ref 248, .ref 249, .ref 250, .ref 251, .ref 252, .ref 253, .ref 254, .ref 255, .ref 256, .ref 257, .ref 258], vm := .none },
  { cls := 10, slots := #[.long (-128)], vm := .none },
  { cls := 10, slots := #[.long (-127)], vm := .none },
  { cls := 10, slots := #[.long (-126)], vm := .none },
  { cls := 10, slots := #[.long (-125)], vm := .none },
  { cls := 10, slots := #[.long (-124)], vm := .none },
  { cls := 10, slots := #[.long (-123)], vm := .none },
  { cls := 10, slots := #[.long (-122)], vm := .none },
  { cls := 10, slots := #[.long (-121)], vm := .none },
  { cls := 10, slots := #[.long (-120)], vm := .none },
  { cls := 10, slots := #[.long (-119)], vm := .none },
  { cls := 10, slots := #[.long (-118)], vm := .none },
  { cls := 10, slots := #[.long (-117)], vm := .none },
  { cls := 10, slots := #[.long (-116)], vm := .none },
  { cls := 10, slots := #[.long (-115)], vm := .none },
  { cls := 10, slots := #[.long (-114)], vm := .none },
  { cls := 10, slots := #[.long (-113)], vm := .none },
  { cls := 10, slots := #[.long (-112)], vm := .none },
  { cls := 10, slots := #[.long (-111)], vm := .none },
  { cls := 10, slots := #[.long (-110)], vm := .none },
  { cls := 10, slots := #[.long (-109)], vm := .none },
  { cls := 10, slots := #[.long (-108)], vm := .none },
  { cls := 10, slots := #[.long (-107)], vm := .none },
  { cls := 10, slots := #[.long (-106)], vm := .none },
  { cls := 10, slots := #[.long (-105)], vm := .none },
  { cls := 10, slots := #[.long (-104)], vm := .none },
  { cls := 10, slots := #[.long (-103)], vm := .none },
  { cls := 10, slots := #[.long (-102)], vm := .none },
  { cls := 10, slots := #[.long (-101)], vm := .none },
  { cls := 10, slots := #[.long (-100)], vm := .none },
  { cls := 10, slots := #[.long (-99)], vm := .none },
  { cls := 10, slots := #[.long (-98)], vm := .none },
  { cls := 10, slots := #[.long (-97)], vm := .none },
  { cls := 10, slots := #[.long (-96)], vm := .none },
  { cls := 10, slots := #[.long (-95)], vm := .none },
  { cls := 10, slots := #[.long (-94)], vm := .none },
  { cls := 10, slots := #[.long (-93)], vm := .none },
  { cls := 10, slots := #[.long (-92)], vm := .none },
  { cls := 10, slots := #[.long (-91)], vm := .none },
  { cls := 10, slots := #[.long (-90)], vm := .none },
  { cls := 10, slots := #[.long (-89)], vm := .none },
  { cls := 10, slots := #[.long (-88)], vm := .none },
  { cls := 10, slots := #[.long (-87)], vm := .none },
  { cls := 10, slots := #[.long (-86)], vm := .none },
  { cls := 10, slots := #[.long (-85)], vm := .none },
  { cls := 10, slots := #[.long (-84)], vm := .none },
  { cls := 10, slots := #[.long (-83)], vm := .none },
  { cls := 10, slots := #[.long (-82)], vm := .none },
  { cls := 10, slots := #[.long (-81)], vm := .none },
  { cls := 10, slots := #[.long (-80)], vm := .none },
  { cls := 10, slots := #[.long (-79)], vm := .none },
  { cls := 10, slots := #[.long (-78)], vm := .none },
  { cls := 10, slots := #[.long (-77)], vm := .none },
  { cls := 10, slots := #[.long (-76)], vm := .none },
  { cls := 10, slots := #[.long (-75)], vm := .none },
  { cls := 10, slots := #[.long (-74)], vm := .none },
  { cls := 10, slots := #[.long (-73)], vm := .none },
  { cls := 10, slots := #[.long (-72)], vm := .none },
  { cls := 10, slots := #[.long (-71)], vm := .none },
  { cls := 10, slots := #[.long (-70)], vm := .none },
  { cls := 10, slots := #[.long (-69)], vm := .none },
  { cls := 10, slots := #[.long (-68)], vm := .none },
  { cls := 10, slots := #[.long (-67)], vm := .none },
  { cls := 10, slots := #[.long (-66)], vm := .none },
  { cls := 10, slots := #[.long (-65)], vm := .none },
  { cls := 10, slots := #[.long (-64)], vm := .none },
  { cls := 10, slots := #[.long (-63)], vm := .none },
  { cls := 10, slots := #[.long (-62)], vm := .none },
  { cls := 10, slots := #[.long (-61)], vm := .none },
  { cls := 10, slots := #[.long (-60)], vm := .none },
  { cls := 10, slots := #[.long (-59)], vm := .none },
  { cls := 10, slots := #[.long (-58)], vm := .none },
  { cls := 10, slots := #[.long (-57)], vm := .none },
  { cls := 10, slots := #[.long (-56)], vm := .none },
  { cls := 10, slots := #[.long (-55)], vm := .none },
  { cls := 10, slots := #[.long (-54)], vm := .none },
  { cls := 10, slots := #[.long (-53)], vm := .none },
  { cls := 10, slots := #[.long (-52)], vm := .none },
  { cls := 10, slots := #[.long (-51)], vm := .none },
  { cls := 10, slots := #[.long (-50)], vm := .none },
  { cls := 10, slots := #[.long (-49)], vm := .none },
  { cls := 10, slots := #[.long (-48)], vm := .none },
  { cls := 10, slots := #[.long (-47)], vm := .none },
  { cls := 10, slots := #[.long (-46)], vm := .none },
  { cls := 10, slots := #[.long (-45)], vm := .none },
  { cls := 10, slots := #[.long (-44)], vm := .none },
  { cls := 10, slots := #[.long (-43)], vm := .none },
  { cls := 10, slots := #[.long (-42)], vm := .none },
  { cls := 10, slots := #[.long (-41)], vm := .none },
  { cls := 10, slots := #[.long (-40)], vm := .none },
  { cls := 10, slots := #[.long (-39)], vm := .none },
  { cls := 10, slots := #[.long (-38)], vm := .none },
  { cls := 10, slots := #[.long (-37)], vm := .none },
  { cls := 10, slots := #[.long (-36)], vm := .none },
  { cls := 10, slots := #[.long (-35)], vm := .none },
  { cls := 10, slots := #[.long (-34)], vm := .none },
  { cls := 10, slots := #[.long (-33)], vm := .none },
  { cls := 10, slots := #[.long (-32)], vm := .none },
  { cls := 10, slots := #[.long (-31)], vm := .none },
  { cls := 10, slots := #[.long (-30)], vm := .none },
  { cls := 10, slots := #[.long (-29)], vm := .none },
  { cls := 10, slots := #[.long (-28)], vm := .none },
  { cls := 10, slots := #[.long (-27)], vm := .none },
  { cls := 10, slots := #[.long (-26)], vm := .none },
  { cls := 10, slots := #[.long (-25)], vm := .none },
  { cls := 10, slots := #[.long (-24)], vm := .none },
  { cls := 10, slots := #[.long (-23)], vm := .none },
  { cls := 10, slots := #[.long (-22)], vm := .none },
  { cls := 10, slots := #[.long (-21)], vm := .none },
  { cls := 10, slots := #[.long (-20)], vm := .none },
  { cls := 10, slots := #[.long (-19)], vm := .none },
  { cls := 10, slots := #[.long (-18)], vm := .none },
  { cls := 10, slots := #[.long (-17)], vm := .none },
  { cls := 10, slots := #[.long (-16)], vm := .none },
  { cls := 10, slots := #[.long (-15)], vm := .none },
  { cls := 10, slots := #[.long (-14)], vm := .none },
  { cls := 10, slots := #[.long (-13)], vm := .none },
  { cls := 10, slots := #[.long (-12)], vm := .none },
  { cls := 10, slots := #[.long (-11)], vm := .none },
  { cls := 10, slots := #[.long (-10)], vm := .none },
  { cls := 10, slots := #[.long (-9)], vm := .none },
  { cls := 10, slots := #[.long (-8)], vm := .none },
  { cls := 10, slots := #[.long (-7)], vm := .none },
  { cls := 10, slots := #[.long (-6)], vm := .none },
  { cls := 10, slots := #[.long (-5)], vm := .none },
  { cls := 10, slots := #[.long (-4)], vm := .none },
  { cls := 10, slots := #[.long (-3)], vm := .none },
  { cls := 10, slots := #[.long (-2)], vm := .none },
  { cls := 10, slots := #[.long (-1)], vm := .none },
  { cls := 10, slots := #[.long 0], vm := .none },
  { cls := 10, slots := #[.long 1], vm := .none },
  { cls := 10, slots := #[.long 2], vm := .none },
  { cls := 10, slots := #[.long 3], vm := .none },
  { cls := 10, slots := #[.long 4], vm := .none },
  { cls := 10, slots := #[.long 5], vm := .none },
  { cls := 10, slots := #[.long 6], vm := .none },
  { cls := 10, slots := #[.long 7], vm := .none },
  { cls := 10, slots := #[.long 8], vm := .none },
  { cls := 10, slots := #[.long 9], vm := .none },
  { cls := 10, slots := #[.long 10], vm := .none },
  { cls := 10, slots := #[.long 11], vm := .none },
  { cls := 10, slots := #[.long 12], vm := .none },
  { cls := 10, slots := #[.long 13], vm := .none },
  { cls := 10, slots := #[.long 14], vm := .none },
  { cls := 10, slots := #[.long 15], vm := .none },
  { cls := 10, slots := #[.long 16], vm := .none },
  { cls := 10, slots := #[.long 17], vm := .none },
  { cls := 10, slots := #[.long 18], vm := .none },
  { cls := 10, slots := #[.long 19], vm := .none },
  { cls := 10, slots := #[.long 20], vm := .none },
  { cls := 10, slots := #[.long 21], vm := .none },
  { cls := 10, slots := #[.long 22], vm := .none },
  { cls := 10, slots := #[.long 23], vm := .none },
  { cls := 10, slots := #[.long 24], vm := .none },
  { cls := 10, slots := #[.long 25], vm := .none },
  { cls := 10, slots := #[.long 26], vm := .none },
  { cls := 10, slots := #[.long 27], vm := .none },
  { cls := 10, slots := #[.long 28], vm := .none },
  { cls := 10, slots := #[.long 29], vm := .none },
  { cls := 10, slots := #[.long 30], vm := .none },
  { cls := 10, slots := #[.long 31], vm := .none },
  { cls := 10, slots := #[.long 32], vm := .none },
  { cls := 10, slots := #[.long 33], vm := .none },
  { cls := 10, slots := #[.long 34], vm := .none },
  { cls := 10, slots := #[.long 35], vm := .none },
  { cls := 10, slots := #[.long 36], vm := .none },
  { cls := 10, slots := #[.long 37], vm := .none },
  { cls := 10, slots := #[.long 38], vm := .none },
  { cls := 10, slots := #[.long 39], vm := .none },
  { cls := 10, slots := #[.long 40], vm := .none },
  { cls := 10, slots := #[.long 41], vm := .none },
  { cls := 10, slots := #[.long 42], vm := .none },
  { cls := 10, slots := #[.long 43], vm := .none },
  { cls := 10, slots := #[.long 44], vm := .none },
  { cls := 10, slots := #[.long 45], vm := .none },
  { cls := 10, slots := #[.long 46], vm := .none },
  { cls := 10, slots := #[.long 47], vm := .none },
  { cls := 10, slots := #[.long 48], vm := .none },
  { cls := 10, slots := #[.long 49], vm := .none },
  { cls := 10, slots := #[.long 50], vm := .none },
  { cls := 10, slots := #[.long 51], vm := .none },
  { cls := 10, slots := #[.long 52], vm := .none },
  { cls := 10, slots := #[.long 53], vm := .none },
  { cls := 10, slots := #[.long 54], vm := .none },
  { cls := 10, slots := #[.long 55], vm := .none },
  { cls := 10, slots := #[.long 56], vm := .none },
  { cls := 10, slots := #[.long 57], vm := .none },
  { cls := 10, slots := #[.long 58], vm := .none },
  { cls := 10, slots := #[.long 59], vm := .none },
  { cls := 10, slots := #[.long 60], vm := .none },
  { cls := 10, slots := #[.long 61], vm := .none },
  { cls := 10, slots := #[.long 62], vm := .none },
  { cls := 10, slots := #[.long 63], vm := .none },
  { cls := 10, slots := #[.long 64], vm := .none },
  { cls := 10, slots := #[.long 65], vm := .none },
  { cls := 10, slots := #[.long 66], vm := .none },
  { cls := 10, slots := #[.long 67], vm := .none },
  { cls := 10, slots := #[.long 68], vm := .none },
  { cls := 10, slots := #[.long 69], vm := .none },
  { cls := 10, slots := #[.long 70], vm := .none },
  { cls := 10, slots := #[.long 71], vm := .none },
  { cls := 10, slots := #[.long 72], vm := .none },
  { cls := 10, slots := #[.long 73], vm := .none },
  { cls := 10, slots := #[.long 74], vm := .none },
  { cls := 10, slots := #[.long 75], vm := .none },
  { cls := 10, slots := #[.long 76], vm := .none },
  { cls := 10, slots := #[.long 77], vm := .none },
  { cls := 10, slots := #[.long 78], vm := .none },
  { cls := 10, slots := #[.long 79], vm := .none },
  { cls := 10, slots := #[.long 80], vm := .none },
  { cls := 10, slots := #[.long 81], vm := .none },
  { cls := 10, slots := #[.long 82], vm := .none },
  { cls := 10, slots := #[.long 83], vm := .none },
  { cls := 10, slots := #[.long 84], vm := .none },
  { cls := 10, slots := #[.long 85], vm := .none },
  { cls := 10, slots := #[.long 86], vm := .none },
  { cls := 10, slots := #[.long 87], vm := .none },
  { cls := 10, slots := #[.long 88], vm := .none },
  { cls := 10, slots := #[.long 89], vm := .none },
  { cls := 10, slots := #[.long 90], vm := .none },
  { cls := 10, slots := #[.long 91], vm := .none },
  { cls := 10, slots := #[.long 92], vm := .none },
  { cls := 10, slots := #[.long 93], vm := .none },
  { cls := 10, slots := #[.long 94], vm := .none },
  { cls := 10, slots := #[.long 95], vm := .none },
  { cls := 10, slots := #[.long 96], vm := .none },
  { cls := 10, slots := #[.long 97], vm := .none },
  { cls := 10, slots := #[.long 98], vm := .none },
  { cls := 10, slots := #[.long 99], vm := .none },
  { cls := 10, slots := #[.long 100], vm := .none },
  { cls := 10, slots := #[.long 101], vm := .none },
  { cls := 10, slots := #[.long 102], vm := .none },
  { cls := 10, slots := #[.long 103], vm := .none },
  { cls := 10, slots := #[.long 104], vm := .none },
  { cls := 10, slots := #[.long 105], vm := .none },
  { cls := 10, slots := #[.long 106], vm := .none },
  { cls := 10, slots := #[.long 107], vm := .none },
  { cls := 10, slots := #[.long 108], vm := .none },
  { cls := 10, slots := #[.long 109], vm := .none },
  { cls := 10, slots := #[.long 110], vm := .none },
  { cls := 10, slots := #[.long 111], vm := .none },
  { cls := 10, slots := #[.long 112], vm := .none },
  { cls := 10, slots := #[.long 113], vm := .none },
  { cls := 10, slots := #[.long 114], vm := .none },
  { cls := 10, slots := #[.long 115], vm := .none },
  { cls := 10, slots := #[.long 116], vm := .none },
  { cls := 10, slots := #[.long 117], vm := .none },
  { cls := 10, slots := #[.long 118], vm := .none },
  { cls := 10, slots := #[.long 119], vm := .none },
  { cls := 10, slots := #[.long 120], vm := .none },
  { cls := 10, slots := #[.long 121], vm := .none },
  { cls := 10, slots := #[.long 122], vm := .none },
  { cls := 10, slots := #[.long 123], vm := .none },
  { cls := 10, slots := #[.long 124], vm := .none },
  { cls := 10, slots := #[.long 125], vm := .none },
  { cls := 10, slots := #[.long 126], vm := .none },
  { cls := 10, slots := #[.long 127], vm := .none },
  { cls := 7, slots := #[.null, .int 0, .int 0, .null], vm := .none },
  { cls := 7, slots := #[.null, .int 1, .int 0, .null], vm := .none },
  { cls := 7, slots := #[.null, .int 2, .int 0, .null], vm := .none },
  { cls := 7, slots := #[.null, .int 3, .int 0, .null], vm := .none },
  { cls := 7, slots := #[.null, .int 4, .int 0, .null], vm := .none },
  { cls := 7, slots := #[.null, .int 5, .int 0, .null], vm := .none },
  { cls := 7, slots := #[.null, .int 6, .int 0, .null], vm := .none },
  { cls := 7, slots := #[.null, .int 7, .int 0, .null], vm := .none }]
def classes : Array Class := #[k0, k1, k2, k3, k4, k5, k6, k7, k8, k9, k10, k11, k12, k13, k14, k15, k16, k17]
def interned : List (Array UInt16 × Addr) := []
def slotsUsed : Nat := 556
def theMethod : MethodId := ⟨1, 2⟩
def args0 : Array Value := #[.int 5, .long 5, .int 5, .long 5, .int 5]
def aboutOver (below : List Frame) : State where
  vm := { classes := classes, interned := interned.toArray }
  heap := heap
  slotsUsed := slotsUsed
  threads := #[{ frames := .invoking theMethod args0 :: below }]
def below0 : List Frame := [.native { method := ⟨0, 0⟩, args := #[] }]
def about1 : State := aboutOver below0
def p0 : Program := .bare "" "" ""
def e0 : Env := launch0.env 0 0 0
theorem w_frames : about1.frames = Frame.invoking theMethod args0 :: below0 := rfl
set_option maxRecDepth 65536 in
theorem w_args : argsFit about1.vm theMethod args0 = true := by decide +kernel
set_option maxRecDepth 65536 in
theorem w_heap : heapFits about1 = true := by decide +kernel
set_option maxRecDepth 65536 in
theorem w_runnable : about1.curStatus? = some .runnable := by decide +kernel
set_option maxRecDepth 65536 in
theorem w_alone : about1.alone = true := by decide +kernel
set_option maxRecDepth 65536 in
theorem w_named : about1.methodNamed? x = some theMethod := by decide +kernel
set_option maxRecDepth 65536 in
theorem w_hears : about1.hears theMethod below0 = true := by decide +kernel
set_option maxRecDepth 65536 in
theorem w_ripe : about1.ripe theMethod args0 below0 = true := by decide +kernel
theorem w_running : about1.status = .running := rfl
set_option maxRecDepth 65536 in
theorem w_room : about1.hasRoom e0.platform room_1 = true :=
  launch0.hasRoom_least _ room_1 (by decide +kernel) (by decide +kernel) (by decide +kernel) (by decide +kernel) (by decide +kernel) (by decide +kernel)
theorem allAtoms_all (ts : List Jvm.Cond) (a : Array Jvm.Value) (st : Jvm.State) : (allAtoms ts).before a st = ts.all (fun c => c.before a st) := by
  induction ts with
  | nil => rfl
  | cons c t ih =>
    show (Jvm.Cond.and c (allAtoms t)).before a st = _
    rw [Jvm.Cond.before_and, ih, List.all_cons]
def words1 : List Jvm.Cond := Jvm.Cond.code x code maxLocals ret :: tables_1
/-- a 'code' word, met by the world's own term for the bytes: nothing is compared byte by byte -/
theorem code_word {y : MethodName} {bytes : ByteArray} {mx : Nat} {rt : Option FieldType} {a : Array Value} {s : State} {m : MethodId} {meth : Method} {c : Code} (h1 : s.methodNamed? y = some m) (h2 : s.vm.method? m = some meth) (h3 : meth.code = some c) (h4 : c.code = bytes)
    (h5 : (c.maxLocals == mx && c.exceptionTable.isEmpty && decide (c.maxStack ≤ mostOperands) && decide (meth.sig.returnType = rt) && !meth.locks && decide (parseMethodDescriptor y.desc = some meth.sig)) = true) : (Jvm.Cond.code y bytes mx rt).before a s = true := by
  simp only [Bool.and_eq_true, beq_iff_eq, Bool.not_eq_true', decide_eq_true_eq] at h5
  obtain ⟨⟨⟨⟨⟨g1, g2⟩, g3⟩, g4⟩, g5⟩, g6⟩ := h5
  simp [Cond.before, Cond.holds, Cond.value, h1, h2, h3, h4, g1, g2, g3, g4, g5, g6]
def isCode : Jvm.Cond → Bool
  | .code _ _ _ _ => true
  | _ => false
theorem all_split {L : List Jvm.Cond} {P : Jvm.Cond → Bool} (h1 : L.all (fun c => isCode c || P c) = true) (h2 : ∀ c ∈ L.filter isCode, P c = true) : L.all P = true := by
  refine List.all_eq_true.mpr fun c hc => ?_
  have h := List.all_eq_true.mp h1 c hc
  rcases Bool.eq_false_or_eq_true (isCode c) with hi | hi
  · exact h2 c (List.mem_filter.mpr ⟨hc, hi⟩)
  · simpa [hi] using h
set_option maxRecDepth 65536 in
theorem w_c0 : (Jvm.Cond.code x code maxLocals ret).before args0 about1 = true := code_word (m := ⟨1, 2⟩) (meth := k1m2) (c := k1c2) (by decide +kernel) rfl rfl rfl (by decide +kernel)
set_option maxRecDepth 65536 in
theorem w_c1 : (Jvm.Cond.code ({ cls := "com/example/allsome/allsome/cypher/SelectorEqualsPinLaw", name := "kind", desc := "(I)Lcom/example/allsome/allsome/cypher/PathPattern$Selector$Kind;" } : Jvm.MethodName) method_2_code (1 : Nat) (Option.some (Jvm.ClassFile.FieldType.object "com/example/allsome/allsome/cypher/PathPattern$Selector$Kind"))).before args0 about1 = true := code_word (m := ⟨1, 1⟩) (meth := k1m1) (c := k1c1) (by decide +kernel) rfl rfl rfl (by decide +kernel)
set_option maxRecDepth 65536 in
theorem w_c2 : (Jvm.Cond.code ({ cls := "com/example/allsome/allsome/cypher/PathPattern$Selector", name := "<init>", desc := "(Lcom/example/allsome/allsome/cypher/PathPattern$Selector$Kind;J)V" } : Jvm.MethodName) prog_97_method_1_code (4 : Nat) (Option.none : Option Jvm.ClassFile.FieldType)).before args0 about1 = true := code_word (m := ⟨2, 0⟩) (meth := k2m0) (c := k2c0) (by decide +kernel) rfl rfl rfl (by decide +kernel)
set_option maxRecDepth 65536 in
theorem w_c3 : (Jvm.Cond.code ({ cls := "java/lang/Object", name := "<init>", desc := "()V" } : Jvm.MethodName) object_method_1_code (1 : Nat) (Option.none : Option Jvm.ClassFile.FieldType)).before args0 about1 = true := code_word (m := ⟨0, 0⟩) (meth := k0m0) (c := k0c0) (by decide +kernel) rfl rfl rfl (by decide +kernel)
set_option maxRecDepth 65536 in
theorem w_c4 : (Jvm.Cond.code ({ cls := "java/lang/Long", name := "valueOf", desc := "(J)Ljava/lang/Long;" } : Jvm.MethodName) jdk_35_method_24_code (3 : Nat) (Option.some (Jvm.ClassFile.FieldType.object "java/lang/Long"))).before args0 about1 = true := code_word (m := ⟨10, 0⟩) (meth := k10m0) (c := k10c0) (by decide +kernel) rfl rfl rfl (by decide +kernel)
set_option maxRecDepth 65536 in
theorem w_c5 : (Jvm.Cond.code ({ cls := "com/example/allsome/allsome/cypher/PathPattern$Selector", name := "equals", desc := "(Ljava/lang/Object;)Z" } : Jvm.MethodName) prog_97_method_4_code (3 : Nat) (Option.some Jvm.ClassFile.FieldType.boolean)).before args0 about1 = true := code_word (m := ⟨2, 1⟩) (meth := k2m1) (c := k2c1) (by decide +kernel) rfl rfl rfl (by decide +kernel)
set_option maxRecDepth 65536 in
theorem w_c6 : (Jvm.Cond.code ({ cls := "java/lang/Long", name := "<init>", desc := "(J)V" } : Jvm.MethodName) jdk_35_method_26_code (3 : Nat) (Option.none : Option Jvm.ClassFile.FieldType)).before args0 about1 = true := code_word (m := ⟨10, 1⟩) (meth := k10m1) (c := k10c1) (by decide +kernel) rfl rfl rfl (by decide +kernel)
set_option maxRecDepth 65536 in
theorem w_c7 : (Jvm.Cond.code ({ cls := "java/lang/Number", name := "<init>", desc := "()V" } : Jvm.MethodName) jdk_18_method_1_code (1 : Nat) (Option.none : Option Jvm.ClassFile.FieldType)).before args0 about1 = true := code_word (m := ⟨8, 0⟩) (meth := k8m0) (c := k8c0) (by decide +kernel) rfl rfl rfl (by decide +kernel)
def codes1 : List Jvm.Cond := [Jvm.Cond.code x code maxLocals ret, Jvm.Cond.code ({ cls := "com/example/allsome/allsome/cypher/SelectorEqualsPinLaw", name := "kind", desc := "(I)Lcom/example/allsome/allsome/cypher/PathPattern$Selector$Kind;" } : Jvm.MethodName) method_2_code (1 : Nat) (Option.some (Jvm.ClassFile.FieldType.object "com/example/allsome/allsome/cypher/PathPattern$Selector$Kind")), Jvm.Cond.code ({ cls := "com/example/allsome/allsome/cypher/PathPattern$Selector", name := "<init>", desc := "(Lcom/example/allsome/allsome/cypher/PathPattern$Selector$Kind;J)V" } : Jvm.MethodName) prog_97_method_1_code (4 : Nat) (Option.none : Option Jvm.ClassFile.FieldType), Jvm.Cond.code ({ cls := "java/lang/Object", name := "<init>", desc := "()V" } : Jvm.MethodName) object_method_1_code (1 : Nat) (Option.none : Option Jvm.ClassFile.FieldType), Jvm.Cond.code ({ cls := "java/lang/Long", name := "valueOf", desc := "(J)Ljava/lang/Long;" } : Jvm.MethodName) jdk_35_method_24_code (3 : Nat) (Option.some (Jvm.ClassFile.FieldType.object "java/lang/Long")), Jvm.Cond.code ({ cls := "com/example/allsome/allsome/cypher/PathPattern$Selector", name := "equals", desc := "(Ljava/lang/Object;)Z" } : Jvm.MethodName) prog_97_method_4_code (3 : Nat) (Option.some Jvm.ClassFile.FieldType.boolean), Jvm.Cond.code ({ cls := "java/lang/Long", name := "<init>", desc := "(J)V" } : Jvm.MethodName) jdk_35_method_26_code (3 : Nat) (Option.none : Option Jvm.ClassFile.FieldType), Jvm.Cond.code ({ cls := "java/lang/Number", name := "<init>", desc := "()V" } : Jvm.MethodName) jdk_18_method_1_code (1 : Nat) (Option.none : Option Jvm.ClassFile.FieldType)]
set_option maxRecDepth 65536 in
theorem codes_eq : words1.filter isCode = codes1 := rfl
theorem w_codes : ∀ c ∈ words1.filter isCode, c.before args0 about1 = true := by
  rw [codes_eq]
  intro c hc
  simp only [codes1, List.mem_cons, List.not_mem_nil, or_false] at hc
  rcases hc with rfl | rfl | rfl | rfl | rfl | rfl | rfl | rfl
  · exact w_c0
  · exact w_c1
  · exact w_c2
  · exact w_c3
  · exact w_c4
  · exact w_c5
  · exact w_c6
  · exact w_c7
set_option maxRecDepth 65536 in
theorem w_t1 : (words1.take 24).all (fun c => isCode c || c.before args0 about1) = true := by decide +kernel
set_option maxRecDepth 65536 in
theorem w_t2 : ((words1.drop 24).take 24).all (fun c => isCode c || c.before args0 about1) = true := by decide +kernel
set_option maxRecDepth 65536 in
theorem w_t3 : ((words1.drop 24).drop 24).all (fun c => isCode c || c.before args0 about1) = true := by decide +kernel
theorem w_tables : (allAtoms (Jvm.Cond.code x code maxLocals ret :: tables_1)).before args0 about1 = true := by
  rw [allAtoms_all]
  show words1.all (fun c => c.before args0 about1) = true
  refine all_split ?_ w_codes
  rw [← List.take_append_drop 24 words1, List.all_append, w_t1, ← List.take_append_drop 24 (words1.drop 24), List.all_append, w_t2, w_t3]
  rfl
set_option maxRecDepth 65536 in
theorem w_rest : rest_1_c.before args0 about1 = true := by decide +kernel
set_option maxRecDepth 65536 in
theorem w_case : (Jvm.Cond.and given_1 narrow_1).before args0 about1 = true := by decide +kernel
theorem w_applies : (headSpec (Jvm.Cond.code x code maxLocals ret :: tables_1) room_1).applies x e0.platform about1 = true :=
  (Spec.applies_iff w_frames).mpr ⟨w_running, w_runnable, w_alone, w_named, w_hears, w_ripe, w_room, w_tables⟩
theorem atStart : AtStart classFile x code maxLocals ret World_1 tables_1 room_1 Calls_1 rest_1 Pre_1 launch0 p0 e0 about1 theMethod args0 below0 :=
  ⟨lists_1, trivial, launch0.admits_env _ _ _, launch0.least_env, fairChoices_fair.cas, fairChoices_fair.clock, w_frames, w_args, w_heap, w_applies, trivial, w_rest, w_case⟩
end start1
theorem witness_1 : WitnessClaimed_1 := ⟨start1.p0, start1.e0, start1.about1, start1.theMethod, start1.args0, start1.below0, start1.atStart⟩
end Jvm.Pilot.@@N@@
