import JvmDerived
import JvmDerived.Pilot.@@N@@Statement
import JvmDerived.Pilot.@@N@@Code
set_option linter.unusedVariables false
set_option linter.unusedSimpArgs false
@@BLOCK:NumsL.lean.txt@@
namespace Jvm.RoadKit
open Sem ClassFile Op Lib Jvm.Stand Jvm.Free Jvm.LawKit
section New
variable {p : Program} {l : Launch} {e : Env} {R : Room} {s : State} {m : MethodId} {args : Array Value} {below : List Frame} {meth : Method} {c : Code} {T : State} {locs : List Loc} {cells slots : Nat}
theorem retI (X : Stand p l e R s m args below meth c T locs cells slots) (hx : p.tables.exec = Jvm.exec) {pc : Nat} {Ls : Array Slot} {z : Int32} {rest : List Value} (hret : meth.sig.returnType = some .int) (hd : decode c.code pc = .ok (.ireturn, 1)) {fs : List Frame}
    (hl : ∀ (f : JFrame) (acts : List Action), f.method = m → f.locked = none → f.entered = [] → (doReturn e (T.setTop f) acts (some (.int z))).1 = T.setFrames fs) : Steps p.tables e below (T.setTop (mkF m pc Ls (.int z :: rest))) (T.setFrames fs) := by
  have hm' : T.vm.method? m = some meth := X.method'
  have hn : narrow .int (.int z) = .int z := rfl
  show Steps p.tables e below (T.setTop { method := m, pc := pc, locals := Ls, stack := _ :: rest, locked := none }) _
  jvm_step X.here [X.here.top, hx, hd, hm', hret, hn]
  first | (intro acts; rw [hl _ acts rfl rfl rfl]) | rw [hl _ _ rfl rfl rfl]
  exact Steps.refl _
end New
end Jvm.RoadKit
namespace Jvm.Pilot.@@N@@
open Jvm Jvm.ClassFile Sem Op Lib Jvm.Free Jvm.Stand Jvm.LawKit Jvm.RoadKit Bundle Jvm.Pilot.@@N@@.Jvm.D
theorem wd {Z : State} {a0 : Array Value} (hw : ∀ d ∈ tables_1, d.before a0 Z = true) (i : Nat) {d : Jvm.Cond} (h : tables_1[i]? = some d) : d.before a0 Z = true := hw _ (List.mem_of_getElem? h)
abbrev jv (x : Int64) : Slot := .val (.long x)
/-- from A the run comes to an end that R speaks of -/
abbrev own_Go (tb : Tables) (e : Env) (below : List Frame) (A : State) (R : State → Outcome → Prop) : Prop := ∃ s₂ o, Steps tb e below A s₂ ∧ R s₂ o
theorem own_go {tb : Tables} {e : Env} {below : List Frame} {A : State} {R : State → Outcome → Prop} (h : own_Go tb e below A R) : ∃ s₂ o, Steps tb e below A s₂ ∧ R s₂ o := h
theorem own_lift {tb : Tables} {e : Env} {below : List Frame} {A B : State} {R : State → Outcome → Prop} (h : ∀ t, Steps tb e below A t → Steps tb e below B t) (k : own_Go tb e below A R) : own_Go tb e below B R := by
  obtain ⟨t, o, k1, k2⟩ := k
  exact ⟨t, o, h t k1, k2⟩
theorem own_plain {Z : State} {h : Heap} {a : Addr} {C : String} (F : Exa Z h a C) : ∃ c : Cell, h[a]? = some c ∧ c.vm.isStatics = false := by
  obtain ⟨c, _, h1, -, -, h4, -⟩ := F
  exact ⟨c, h1, h4⟩
theorem own_Arr_keep {Z : State} {h h' : Heap} {a : Addr} {c : Cell} {ty : FieldType} {ws : List Addr} (F : Arr Z h a c ty) (K : Keep h h' ws) (q : a ∉ ws) : Arr Z h' a c ty := ⟨K.2.1 a c F.1 q, F.2⟩
theorem own_asymm {a b : Int32} (h : a < b) : ¬ b < a := Int32.not_lt.mpr (Int32.le_of_lt h)
theorem own_Sta_keep {Z : State} {h h' : Heap} {C n d : String} {v : Value} {ws : List Addr} (F : Sta Z h C n d v) (K : Keep h h' ws) (q : ∀ x ∈ ws, ∃ c : Cell, h[x]? = some c ∧ c.vm.isStatics = false) : Sta Z h' C n d v := by
  obtain ⟨cf, i, k, f, st, cell, h1, h2, h3, h4, h5, h6, h7⟩ := F
  refine ⟨cf, i, k, f, st, cell, h1, h2, h3, h4, K.2.1 st cell h5 fun z => ?_, h6, h7⟩
  obtain ⟨c, g1, g2⟩ := q st z
  cases h5.symm.trans g1
  rw [h6] at g2
  cases g2
theorem own_or32 (n : Nat) : n ||| 32 = if n / 32 % 2 = 1 then n else n + 32 := by
  have h6 : ∀ r, r < 64 → (r ||| 32) = (if r / 32 % 2 = 1 then r else r + 32) ∧ (r ||| 32) < 2 ^ 6 := by decide +kernel
  obtain ⟨h1, h2⟩ := h6 (n % 64) (Nat.mod_lt _ (by decide))
  have e1 : n = 2 ^ 6 * (n / 64) + n % 64 := by omega
  have e2 : 2 ^ 6 * (n / 64) + n % 64 = 2 ^ 6 * (n / 64) ||| n % 64 := Nat.two_pow_add_eq_or_of_lt (by omega) _
  have e3 : 2 ^ 6 * (n / 64) + (n % 64 ||| 32) = 2 ^ 6 * (n / 64) ||| (n % 64 ||| 32) := Nat.two_pow_add_eq_or_of_lt h2 _
  have e4 : n ||| 32 = 2 ^ 6 * (n / 64) + (n % 64 ||| 32) := by
    rw [e3, ← Nat.or_assoc, ← e2, ← e1]
  rw [e4, h1]
  have q : n % 64 / 32 % 2 = n / 32 % 2 := by omega
  rw [q]
  split <;> omega
theorem own_k (p0 : Int32) : ∃ n : Nat, n < 65536 ∧ (p0.toUInt32.toUInt16.toUInt32.toInt32).toInt = n ∧ (((p0.toUInt32.toUInt16.toUInt32.toInt32) ||| (32 : Int32)) - (97 : Int32)).toInt = (if n / 32 % 2 = 1 then (n : Int) else n + 32) - 97 := by
  obtain ⟨n, hn⟩ : ∃ n, n = p0.toUInt32.toUInt16.toNat := ⟨_, rfl⟩
  have h1 : n < 65536 := by rw [hn]; exact UInt16.toNat_lt _
  have hb : (p0.toUInt32.toUInt16.toUInt32.toInt32).toBitVec.toNat = n := by
    show (p0.toUInt32.toUInt16.toUInt32).toNat = n
    rw [UInt16.toNat_toUInt32, hn]
  have hc : (p0.toUInt32.toUInt16.toUInt32.toInt32).toInt = n := by
    show ((p0.toUInt32.toUInt16.toUInt32.toInt32).toBitVec).toInt = n
    rw [BitVec.toInt_eq_toNat_cond, hb, if_pos (by omega)]
  have ho : ((p0.toUInt32.toUInt16.toUInt32.toInt32) ||| (32 : Int32)).toInt = (if n / 32 % 2 = 1 then (n : Int) else n + 32) := by
    show ((p0.toUInt32.toUInt16.toUInt32.toInt32).toBitVec ||| (32 : Int32).toBitVec).toInt = _
    have e : ((p0.toUInt32.toUInt16.toUInt32.toInt32).toBitVec ||| (32 : Int32).toBitVec).toNat = if n / 32 % 2 = 1 then n else n + 32 := by
      rw [BitVec.toNat_or, hb]
      exact own_or32 n
    rw [BitVec.toInt_eq_toNat_cond, e]
    by_cases hb : n / 32 % 2 = 1
    · simp only [if_pos hb]; rw [if_pos (by omega)]
    · simp only [if_neg hb]; rw [if_pos (by omega)]; omega
  have e97 : (97 : Int32).toInt = 97 := rfl
  refine ⟨n, h1, hc, ?_⟩
  have lo : -2 ^ 31 ≤ ((p0.toUInt32.toUInt16.toUInt32.toInt32) ||| (32 : Int32)).toInt - (97 : Int32).toInt := by rw [ho, e97]; split <;> omega
  have hi : ((p0.toUInt32.toUInt16.toUInt32.toInt32) ||| (32 : Int32)).toInt - (97 : Int32).toInt < 2 ^ 31 := by rw [ho, e97]; split <;> omega
  rw [Jvm.Kit.i32_sub lo hi, ho, e97]
theorem own_cases (p0 : Int32) : (¬ ((p0.toUInt32.toUInt16.toUInt32.toInt32) < (97 : Int32)) ∧ ¬ ((122 : Int32) < (p0.toUInt32.toUInt16.toUInt32.toInt32)) ∧ ¬ ((((p0.toUInt32.toUInt16.toUInt32.toInt32) ||| (32 : Int32)) - (97 : Int32)) < (0 : Int32)) ∧ (((p0.toUInt32.toUInt16.toUInt32.toInt32) ||| (32 : Int32)) - (97 : Int32)) < (26 : Int32)) ∨ ((p0.toUInt32.toUInt16.toUInt32.toInt32) < (97 : Int32) ∧ ¬ ((p0.toUInt32.toUInt16.toUInt32.toInt32) < (65 : Int32)) ∧ ¬ ((90 : Int32) < (p0.toUInt32.toUInt16.toUInt32.toInt32)) ∧ ¬ ((((p0.toUInt32.toUInt16.toUInt32.toInt32) ||| (32 : Int32)) - (97 : Int32)) < (0 : Int32)) ∧ (((p0.toUInt32.toUInt16.toUInt32.toInt32) ||| (32 : Int32)) - (97 : Int32)) < (26 : Int32)) ∨ ((p0.toUInt32.toUInt16.toUInt32.toInt32) < (97 : Int32) ∧ ¬ ((p0.toUInt32.toUInt16.toUInt32.toInt32) < (65 : Int32)) ∧ (90 : Int32) < (p0.toUInt32.toUInt16.toUInt32.toInt32) ∧ (p0.toUInt32.toUInt16.toUInt32.toInt32) = (95 : Int32) ∧ ¬ ((((p0.toUInt32.toUInt16.toUInt32.toInt32) ||| (32 : Int32)) - (97 : Int32)) < (0 : Int32)) ∧ ¬ ((((p0.toUInt32.toUInt16.toUInt32.toInt32) ||| (32 : Int32)) - (97 : Int32)) < (26 : Int32))) ∨ ((p0.toUInt32.toUInt16.toUInt32.toInt32) < (97 : Int32) ∧ ¬ ((p0.toUInt32.toUInt16.toUInt32.toInt32) < (65 : Int32)) ∧ (90 : Int32) < (p0.toUInt32.toUInt16.toUInt32.toInt32) ∧ ¬ ((p0.toUInt32.toUInt16.toUInt32.toInt32) = (95 : Int32)) ∧ ¬ ((((p0.toUInt32.toUInt16.toUInt32.toInt32) ||| (32 : Int32)) - (97 : Int32)) < (0 : Int32)) ∧ ¬ ((((p0.toUInt32.toUInt16.toUInt32.toInt32) ||| (32 : Int32)) - (97 : Int32)) < (26 : Int32))) ∨ ((p0.toUInt32.toUInt16.toUInt32.toInt32) < (97 : Int32) ∧ ¬ ((p0.toUInt32.toUInt16.toUInt32.toInt32) < (65 : Int32)) ∧ (90 : Int32) < (p0.toUInt32.toUInt16.toUInt32.toInt32) ∧ ¬ ((p0.toUInt32.toUInt16.toUInt32.toInt32) = (95 : Int32)) ∧ (((p0.toUInt32.toUInt16.toUInt32.toInt32) ||| (32 : Int32)) - (97 : Int32)) < (0 : Int32)) ∨ ((p0.toUInt32.toUInt16.toUInt32.toInt32) < (97 : Int32) ∧ (p0.toUInt32.toUInt16.toUInt32.toInt32) < (65 : Int32) ∧ ¬ ((p0.toUInt32.toUInt16.toUInt32.toInt32) = (95 : Int32)) ∧ (((p0.toUInt32.toUInt16.toUInt32.toInt32) ||| (32 : Int32)) - (97 : Int32)) < (0 : Int32)) ∨ (¬ ((p0.toUInt32.toUInt16.toUInt32.toInt32) < (97 : Int32)) ∧ (122 : Int32) < (p0.toUInt32.toUInt16.toUInt32.toInt32) ∧ ¬ ((p0.toUInt32.toUInt16.toUInt32.toInt32) < (65 : Int32)) ∧ (90 : Int32) < (p0.toUInt32.toUInt16.toUInt32.toInt32) ∧ ¬ ((p0.toUInt32.toUInt16.toUInt32.toInt32) = (95 : Int32)) ∧ ¬ ((((p0.toUInt32.toUInt16.toUInt32.toInt32) ||| (32 : Int32)) - (97 : Int32)) < (0 : Int32)) ∧ ¬ ((((p0.toUInt32.toUInt16.toUInt32.toInt32) ||| (32 : Int32)) - (97 : Int32)) < (26 : Int32))) := by
  obtain ⟨n, h1, h2, h3⟩ := own_k p0
  have e0 : (0 : Int32).toInt = 0 := rfl
  have e26 : (26 : Int32).toInt = 26 := rfl
  have e65 : (65 : Int32).toInt = 65 := rfl
  have e90 : (90 : Int32).toInt = 90 := rfl
  have e95 : (95 : Int32).toInt = 95 := rfl
  have e97 : (97 : Int32).toInt = 97 := rfl
  have e122 : (122 : Int32).toInt = 122 := rfl
  by_cases hb : n / 32 % 2 = 1
  · rw [if_pos hb] at h3
    simp only [Int32.lt_iff_toInt_lt, ← Int32.toInt_inj, h2, h3, e0, e26, e65, e90, e95, e97, e122]
    omega
  · rw [if_neg hb] at h3
    simp only [Int32.lt_iff_toInt_lt, ← Int32.toInt_inj, h2, h3, e0, e26, e65, e90, e95, e97, e122]
    omega
theorem pn_0 : plainName "com/example/libprocgraph/libprocgraph/reader/TextCursor" = true := by first | (simp [plainName, overriddenIn]; done) | decide +kernel
theorem d1_0 : decode prog_63_method_24_code 0 = .ok (.iload_n 0, 1) := by decide +kernel
theorem d1_1 : decode prog_63_method_24_code 1 = .ok (.bipush 97, 2) := by decide +kernel
theorem d1_3 : decode prog_63_method_24_code 3 = .ok (.if_icmp .lt 9, 3) := by decide +kernel
theorem d1_6 : decode prog_63_method_24_code 6 = .ok (.iload_n 0, 1) := by decide +kernel
theorem d1_7 : decode prog_63_method_24_code 7 = .ok (.bipush 122, 2) := by decide +kernel
theorem d1_9 : decode prog_63_method_24_code 9 = .ok (.if_icmp .le 21, 3) := by decide +kernel
theorem d1_30 : decode prog_63_method_24_code 30 = .ok (.iconst 1, 1) := by decide +kernel
theorem d1_31 : decode prog_63_method_24_code 31 = .ok (.goto 4, 3) := by decide +kernel
theorem d1_35 : decode prog_63_method_24_code 35 = .ok (.ireturn, 1) := by decide +kernel
def Q_rmIs1 (Z : State) (p1 : Int32) (h0 : Heap) (n0 : Nat) (v : Option Value) (h : Heap) (L : List Loc) : Prop := v = some (.int 1) ∧ Fr n0 L ∧ h = h0
theorem ef_rmIs1 (m : MethodId) (x0 : Int32) : entryFrame m #[(.int x0)] 1 = mkF m 0 #[.val (.int x0)] [] := by first | (simp [entryFrame, mkF, argsToLocals, Value.category]; done) | rfl
set_option maxRecDepth 65536 in
set_option maxHeartbeats 40000000 in
theorem rmIs1 (l : Launch) (Z : State) (a0 : Array Value) (hw : ∀ d ∈ tables_1, d.before a0 Z = true) (ws : List Jvm.Cond) (p1 : Int32) (h0 : Heap) (n0 : Nat) (Z0 : n0 ≤ h0.size)  (c0 : ¬ (p1 < (97 : Int32))) (c1 : ¬ ((122 : Int32) < p1)) :
    MetFree l (⟨"com/example/libprocgraph/libprocgraph/reader/TextCursor", "isNameStart", "(C)Z"⟩ : MethodName) (head1 (Jvm.Cond.code (⟨"com/example/libprocgraph/libprocgraph/reader/TextCursor", "isNameStart", "(C)Z"⟩ : MethodName) prog_63_method_24_code 1 (some .boolean) :: ws) ({ frames := 0, cells := 0, slots := 0, locals := 0 } : Room)) (fun a U => a = #[(.int p1)] ∧ Z.Warmed39 U.vm ∧ U.heap = h0) (fun _ _ _ _ _ => True) (fun _ U o U' => ∃ v L, o = .returned v ∧ Q_rmIs1 Z p1 h0 n0 v U'.heap L ∧ FrameEnd U o U' L ({ frames := 0, cells := 0, slots := 0, locals := 0 } : Room).cells ({ frames := 0, cells := 0, slots := 0, locals := 0 } : Room).slots) := by
  refine MetFree.of_bodySF (plainFor_of_name pn_0) hisR ?_
  intro p e s m args below meth c s₁ Bd hml0 hP hK
  obtain ⟨rfl, hZ, hh⟩ := hP
  have hx := Bd.exec
  have hby := Bd.bytes
  have hml : c.maxLocals = 1 := hml0
  have hown : s.vm.findClass "com/example/libprocgraph/libprocgraph/reader/TextCursor" = some m.cls := findClass_of_methodNamed Bd.named
  have hnm := (name_of_methodNamed Bd.named Bd.method).1
  have X0 : Stand p l e ({ frames := 0, cells := 0, slots := 0, locals := 0 } : Room) s m #[(.int p1)] below meth c s₁ [] 0 0 := Stand.of_body Bd
  have e0 : s₁.heap = h0 := by rw [← hh, Bd.state]; rfl
  have N0 := Fr.nil n0
  refine own_go (own_lift (fun t k => castTop (ef_rmIs1 m p1) k) ?_)
  show own_Go p.tables e below (s₁.setTop (mkF m 0 #[iv p1] [])) _
  have sg1 : ∀ t, Steps p.tables e below (s₁.setTop (mkF m 35 #[iv p1] [(.int 1)])) t → Steps p.tables e below (s₁.setTop (mkF m 0 #[iv p1] [])) t := by
    intro t k
    refine XS.iloadN X0.here hx rfl (hb hby d1_0) rfl ?_
    show Steps p.tables e below (s₁.setTop (mkF m 1 #[iv p1] [(.int p1)])) _
    refine XS.bipush X0.here hx rfl (hb hby d1_1) ?_
    show Steps p.tables e below (s₁.setTop (mkF m 3 #[iv p1] [(.int 97), (.int p1)])) _
    refine XS.icmpNo X0.here hx rfl (hb hby d1_3) rfl (flt c0).1 ?_
    show Steps p.tables e below (s₁.setTop (mkF m 6 #[iv p1] [])) _
    refine XS.iloadN X0.here hx rfl (hb hby d1_6) rfl ?_
    show Steps p.tables e below (s₁.setTop (mkF m 7 #[iv p1] [(.int p1)])) _
    refine XS.bipush X0.here hx rfl (hb hby d1_7) ?_
    show Steps p.tables e below (s₁.setTop (mkF m 9 #[iv p1] [(.int 122), (.int p1)])) _
    refine XS.icmpYes X0.here hx rfl (pc0 := 9) (pc' := 30) rfl (hb hby d1_9) rfl (flt c1).2.2.2 (by decide) (by decide) ?_
    show Steps p.tables e below (s₁.setTop (mkF m 30 #[iv p1] [])) _
    refine XS.iconst X0.here hx rfl (hb hby d1_30) ?_
    show Steps p.tables e below (s₁.setTop (mkF m 31 #[iv p1] [(.int 1)])) _
    refine XS.goto X0.here hx rfl (pc0 := 31) (pc' := 35) rfl (hb hby d1_31) (by decide) (by decide) ?_
    show Steps p.tables e below (s₁.setTop (mkF m 35 #[iv p1] [(.int 1)])) _
    exact k
  refine own_lift sg1 ?_
  show own_Go p.tables e below (s₁.setTop (mkF m 35 #[iv p1] [(.int 1)])) _
  obtain ⟨fs, hr, hrun, hended, hW, hsame⟩ := X0.leave (v := some (.int 1)) (fun h => by rw [Bd.returns] at h; cases h)
  refine ⟨_, _, ?_, hrun, hended, _, _, rfl, ?_, ⟨_, rfl⟩, hW, hsame.mono (by decide) (by decide)⟩
  · exact retN X0 hx (t := .boolean) Bd.returns (by simp) (hb hby d1_35) hr
  · show Q_rmIs1 Z p1 h0 n0 _ s₁.heap _
    rw [e0]
    exact ⟨rfl, N0, rfl⟩
theorem d1_12 : decode prog_63_method_24_code 12 = .ok (.iload_n 0, 1) := by decide +kernel
theorem d1_13 : decode prog_63_method_24_code 13 = .ok (.bipush 65, 2) := by decide +kernel
theorem d1_15 : decode prog_63_method_24_code 15 = .ok (.if_icmp .lt 9, 3) := by decide +kernel
theorem d1_18 : decode prog_63_method_24_code 18 = .ok (.iload_n 0, 1) := by decide +kernel
theorem d1_19 : decode prog_63_method_24_code 19 = .ok (.bipush 90, 2) := by decide +kernel
theorem d1_21 : decode prog_63_method_24_code 21 = .ok (.if_icmp .le 9, 3) := by decide +kernel
def Q_rmIs2 (Z : State) (p1 : Int32) (h0 : Heap) (n0 : Nat) (v : Option Value) (h : Heap) (L : List Loc) : Prop := v = some (.int 1) ∧ Fr n0 L ∧ h = h0
theorem ef_rmIs2 (m : MethodId) (x0 : Int32) : entryFrame m #[(.int x0)] 1 = mkF m 0 #[.val (.int x0)] [] := by first | (simp [entryFrame, mkF, argsToLocals, Value.category]; done) | rfl
set_option maxRecDepth 65536 in
set_option maxHeartbeats 40000000 in
theorem rmIs2 (l : Launch) (Z : State) (a0 : Array Value) (hw : ∀ d ∈ tables_1, d.before a0 Z = true) (ws : List Jvm.Cond) (p1 : Int32) (h0 : Heap) (n0 : Nat) (Z0 : n0 ≤ h0.size)  (c0 : p1 < (97 : Int32)) (c1 : ¬ (p1 < (65 : Int32))) (c2 : ¬ ((90 : Int32) < p1)) :
    MetFree l (⟨"com/example/libprocgraph/libprocgraph/reader/TextCursor", "isNameStart", "(C)Z"⟩ : MethodName) (head1 (Jvm.Cond.code (⟨"com/example/libprocgraph/libprocgraph/reader/TextCursor", "isNameStart", "(C)Z"⟩ : MethodName) prog_63_method_24_code 1 (some .boolean) :: ws) ({ frames := 0, cells := 0, slots := 0, locals := 0 } : Room)) (fun a U => a = #[(.int p1)] ∧ Z.Warmed39 U.vm ∧ U.heap = h0) (fun _ _ _ _ _ => True) (fun _ U o U' => ∃ v L, o = .returned v ∧ Q_rmIs2 Z p1 h0 n0 v U'.heap L ∧ FrameEnd U o U' L ({ frames := 0, cells := 0, slots := 0, locals := 0 } : Room).cells ({ frames := 0, cells := 0, slots := 0, locals := 0 } : Room).slots) := by
  refine MetFree.of_bodySF (plainFor_of_name pn_0) hisR ?_
  intro p e s m args below meth c s₁ Bd hml0 hP hK
  obtain ⟨rfl, hZ, hh⟩ := hP
  have hx := Bd.exec
  have hby := Bd.bytes
  have hml : c.maxLocals = 1 := hml0
  have hown : s.vm.findClass "com/example/libprocgraph/libprocgraph/reader/TextCursor" = some m.cls := findClass_of_methodNamed Bd.named
  have hnm := (name_of_methodNamed Bd.named Bd.method).1
  have X0 : Stand p l e ({ frames := 0, cells := 0, slots := 0, locals := 0 } : Room) s m #[(.int p1)] below meth c s₁ [] 0 0 := Stand.of_body Bd
  have e0 : s₁.heap = h0 := by rw [← hh, Bd.state]; rfl
  have N0 := Fr.nil n0
  refine own_go (own_lift (fun t k => castTop (ef_rmIs2 m p1) k) ?_)
  show own_Go p.tables e below (s₁.setTop (mkF m 0 #[iv p1] [])) _
  have sg1 : ∀ t, Steps p.tables e below (s₁.setTop (mkF m 35 #[iv p1] [(.int 1)])) t → Steps p.tables e below (s₁.setTop (mkF m 0 #[iv p1] [])) t := by
    intro t k
    refine XS.iloadN X0.here hx rfl (hb hby d1_0) rfl ?_
    show Steps p.tables e below (s₁.setTop (mkF m 1 #[iv p1] [(.int p1)])) _
    refine XS.bipush X0.here hx rfl (hb hby d1_1) ?_
    show Steps p.tables e below (s₁.setTop (mkF m 3 #[iv p1] [(.int 97), (.int p1)])) _
    refine XS.icmpYes X0.here hx rfl (pc0 := 3) (pc' := 12) rfl (hb hby d1_3) rfl (tlt c0).1 (by decide) (by decide) ?_
    show Steps p.tables e below (s₁.setTop (mkF m 12 #[iv p1] [])) _
    refine XS.iloadN X0.here hx rfl (hb hby d1_12) rfl ?_
    show Steps p.tables e below (s₁.setTop (mkF m 13 #[iv p1] [(.int p1)])) _
    refine XS.bipush X0.here hx rfl (hb hby d1_13) ?_
    show Steps p.tables e below (s₁.setTop (mkF m 15 #[iv p1] [(.int 65), (.int p1)])) _
    refine XS.icmpNo X0.here hx rfl (hb hby d1_15) rfl (flt c1).1 ?_
    show Steps p.tables e below (s₁.setTop (mkF m 18 #[iv p1] [])) _
    refine XS.iloadN X0.here hx rfl (hb hby d1_18) rfl ?_
    show Steps p.tables e below (s₁.setTop (mkF m 19 #[iv p1] [(.int p1)])) _
    refine XS.bipush X0.here hx rfl (hb hby d1_19) ?_
    show Steps p.tables e below (s₁.setTop (mkF m 21 #[iv p1] [(.int 90), (.int p1)])) _
    refine XS.icmpYes X0.here hx rfl (pc0 := 21) (pc' := 30) rfl (hb hby d1_21) rfl (flt c2).2.2.2 (by decide) (by decide) ?_
    show Steps p.tables e below (s₁.setTop (mkF m 30 #[iv p1] [])) _
    refine XS.iconst X0.here hx rfl (hb hby d1_30) ?_
    show Steps p.tables e below (s₁.setTop (mkF m 31 #[iv p1] [(.int 1)])) _
    refine XS.goto X0.here hx rfl (pc0 := 31) (pc' := 35) rfl (hb hby d1_31) (by decide) (by decide) ?_
    show Steps p.tables e below (s₁.setTop (mkF m 35 #[iv p1] [(.int 1)])) _
    exact k
  refine own_lift sg1 ?_
  show own_Go p.tables e below (s₁.setTop (mkF m 35 #[iv p1] [(.int 1)])) _
  obtain ⟨fs, hr, hrun, hended, hW, hsame⟩ := X0.leave (v := some (.int 1)) (fun h => by rw [Bd.returns] at h; cases h)
  refine ⟨_, _, ?_, hrun, hended, _, _, rfl, ?_, ⟨_, rfl⟩, hW, hsame.mono (by decide) (by decide)⟩
  · exact retN X0 hx (t := .boolean) Bd.returns (by simp) (hb hby d1_35) hr
  · show Q_rmIs2 Z p1 h0 n0 _ s₁.heap _
    rw [e0]
    exact ⟨rfl, N0, rfl⟩
theorem d1_24 : decode prog_63_method_24_code 24 = .ok (.iload_n 0, 1) := by decide +kernel
theorem d1_25 : decode prog_63_method_24_code 25 = .ok (.bipush 95, 2) := by decide +kernel
theorem d1_27 : decode prog_63_method_24_code 27 = .ok (.if_icmp .ne 7, 3) := by decide +kernel
def Q_rmIs3 (Z : State) (p1 : Int32) (h0 : Heap) (n0 : Nat) (v : Option Value) (h : Heap) (L : List Loc) : Prop := v = some (.int 1) ∧ Fr n0 L ∧ h = h0
theorem ef_rmIs3 (m : MethodId) (x0 : Int32) : entryFrame m #[(.int x0)] 1 = mkF m 0 #[.val (.int x0)] [] := by first | (simp [entryFrame, mkF, argsToLocals, Value.category]; done) | rfl
set_option maxRecDepth 65536 in
set_option maxHeartbeats 40000000 in
theorem rmIs3 (l : Launch) (Z : State) (a0 : Array Value) (hw : ∀ d ∈ tables_1, d.before a0 Z = true) (ws : List Jvm.Cond) (p1 : Int32) (h0 : Heap) (n0 : Nat) (Z0 : n0 ≤ h0.size)  (c0 : p1 < (97 : Int32)) (c1 : ¬ (p1 < (65 : Int32))) (c2 : (90 : Int32) < p1) (c3 : p1 = (95 : Int32)) :
    MetFree l (⟨"com/example/libprocgraph/libprocgraph/reader/TextCursor", "isNameStart", "(C)Z"⟩ : MethodName) (head1 (Jvm.Cond.code (⟨"com/example/libprocgraph/libprocgraph/reader/TextCursor", "isNameStart", "(C)Z"⟩ : MethodName) prog_63_method_24_code 1 (some .boolean) :: ws) ({ frames := 0, cells := 0, slots := 0, locals := 0 } : Room)) (fun a U => a = #[(.int p1)] ∧ Z.Warmed39 U.vm ∧ U.heap = h0) (fun _ _ _ _ _ => True) (fun _ U o U' => ∃ v L, o = .returned v ∧ Q_rmIs3 Z p1 h0 n0 v U'.heap L ∧ FrameEnd U o U' L ({ frames := 0, cells := 0, slots := 0, locals := 0 } : Room).cells ({ frames := 0, cells := 0, slots := 0, locals := 0 } : Room).slots) := by
  refine MetFree.of_bodySF (plainFor_of_name pn_0) hisR ?_
  intro p e s m args below meth c s₁ Bd hml0 hP hK
  obtain ⟨rfl, hZ, hh⟩ := hP
  have hx := Bd.exec
  have hby := Bd.bytes
  have hml : c.maxLocals = 1 := hml0
  have hown : s.vm.findClass "com/example/libprocgraph/libprocgraph/reader/TextCursor" = some m.cls := findClass_of_methodNamed Bd.named
  have hnm := (name_of_methodNamed Bd.named Bd.method).1
  have X0 : Stand p l e ({ frames := 0, cells := 0, slots := 0, locals := 0 } : Room) s m #[(.int p1)] below meth c s₁ [] 0 0 := Stand.of_body Bd
  have e0 : s₁.heap = h0 := by rw [← hh, Bd.state]; rfl
  have N0 := Fr.nil n0
  refine own_go (own_lift (fun t k => castTop (ef_rmIs3 m p1) k) ?_)
  show own_Go p.tables e below (s₁.setTop (mkF m 0 #[iv p1] [])) _
  have sg1 : ∀ t, Steps p.tables e below (s₁.setTop (mkF m 35 #[iv p1] [(.int 1)])) t → Steps p.tables e below (s₁.setTop (mkF m 0 #[iv p1] [])) t := by
    intro t k
    refine XS.iloadN X0.here hx rfl (hb hby d1_0) rfl ?_
    show Steps p.tables e below (s₁.setTop (mkF m 1 #[iv p1] [(.int p1)])) _
    refine XS.bipush X0.here hx rfl (hb hby d1_1) ?_
    show Steps p.tables e below (s₁.setTop (mkF m 3 #[iv p1] [(.int 97), (.int p1)])) _
    refine XS.icmpYes X0.here hx rfl (pc0 := 3) (pc' := 12) rfl (hb hby d1_3) rfl (tlt c0).1 (by decide) (by decide) ?_
    show Steps p.tables e below (s₁.setTop (mkF m 12 #[iv p1] [])) _
    refine XS.iloadN X0.here hx rfl (hb hby d1_12) rfl ?_
    show Steps p.tables e below (s₁.setTop (mkF m 13 #[iv p1] [(.int p1)])) _
    refine XS.bipush X0.here hx rfl (hb hby d1_13) ?_
    show Steps p.tables e below (s₁.setTop (mkF m 15 #[iv p1] [(.int 65), (.int p1)])) _
    refine XS.icmpNo X0.here hx rfl (hb hby d1_15) rfl (flt c1).1 ?_
    show Steps p.tables e below (s₁.setTop (mkF m 18 #[iv p1] [])) _
    refine XS.iloadN X0.here hx rfl (hb hby d1_18) rfl ?_
    show Steps p.tables e below (s₁.setTop (mkF m 19 #[iv p1] [(.int p1)])) _
    refine XS.bipush X0.here hx rfl (hb hby d1_19) ?_
    show Steps p.tables e below (s₁.setTop (mkF m 21 #[iv p1] [(.int 90), (.int p1)])) _
    refine XS.icmpNo X0.here hx rfl (hb hby d1_21) rfl (tlt c2).2.2.2 ?_
    show Steps p.tables e below (s₁.setTop (mkF m 24 #[iv p1] [])) _
    refine XS.iloadN X0.here hx rfl (hb hby d1_24) rfl ?_
    show Steps p.tables e below (s₁.setTop (mkF m 25 #[iv p1] [(.int p1)])) _
    refine XS.bipush X0.here hx rfl (hb hby d1_25) ?_
    show Steps p.tables e below (s₁.setTop (mkF m 27 #[iv p1] [(.int 95), (.int p1)])) _
    refine XS.icmpNo X0.here hx rfl (hb hby d1_27) rfl (teq c3).2 ?_
    show Steps p.tables e below (s₁.setTop (mkF m 30 #[iv p1] [])) _
    refine XS.iconst X0.here hx rfl (hb hby d1_30) ?_
    show Steps p.tables e below (s₁.setTop (mkF m 31 #[iv p1] [(.int 1)])) _
    refine XS.goto X0.here hx rfl (pc0 := 31) (pc' := 35) rfl (hb hby d1_31) (by decide) (by decide) ?_
    show Steps p.tables e below (s₁.setTop (mkF m 35 #[iv p1] [(.int 1)])) _
    exact k
  refine own_lift sg1 ?_
  show own_Go p.tables e below (s₁.setTop (mkF m 35 #[iv p1] [(.int 1)])) _
  obtain ⟨fs, hr, hrun, hended, hW, hsame⟩ := X0.leave (v := some (.int 1)) (fun h => by rw [Bd.returns] at h; cases h)
  refine ⟨_, _, ?_, hrun, hended, _, _, rfl, ?_, ⟨_, rfl⟩, hW, hsame.mono (by decide) (by decide)⟩
  · exact retN X0 hx (t := .boolean) Bd.returns (by simp) (hb hby d1_35) hr
  · show Q_rmIs3 Z p1 h0 n0 _ s₁.heap _
    rw [e0]
    exact ⟨rfl, N0, rfl⟩
theorem d1_34 : decode prog_63_method_24_code 34 = .ok (.iconst 0, 1) := by decide +kernel
def Q_rmIs4 (Z : State) (p1 : Int32) (h0 : Heap) (n0 : Nat) (v : Option Value) (h : Heap) (L : List Loc) : Prop := v = some (.int 0) ∧ Fr n0 L ∧ h = h0
theorem ef_rmIs4 (m : MethodId) (x0 : Int32) : entryFrame m #[(.int x0)] 1 = mkF m 0 #[.val (.int x0)] [] := by first | (simp [entryFrame, mkF, argsToLocals, Value.category]; done) | rfl
set_option maxRecDepth 65536 in
set_option maxHeartbeats 40000000 in
theorem rmIs4 (l : Launch) (Z : State) (a0 : Array Value) (hw : ∀ d ∈ tables_1, d.before a0 Z = true) (ws : List Jvm.Cond) (p1 : Int32) (h0 : Heap) (n0 : Nat) (Z0 : n0 ≤ h0.size)  (c0 : p1 < (97 : Int32)) (c1 : ¬ (p1 < (65 : Int32))) (c2 : (90 : Int32) < p1) (c3 : ¬ (p1 = (95 : Int32))) :
    MetFree l (⟨"com/example/libprocgraph/libprocgraph/reader/TextCursor", "isNameStart", "(C)Z"⟩ : MethodName) (head1 (Jvm.Cond.code (⟨"com/example/libprocgraph/libprocgraph/reader/TextCursor", "isNameStart", "(C)Z"⟩ : MethodName) prog_63_method_24_code 1 (some .boolean) :: ws) ({ frames := 0, cells := 0, slots := 0, locals := 0 } : Room)) (fun a U => a = #[(.int p1)] ∧ Z.Warmed39 U.vm ∧ U.heap = h0) (fun _ _ _ _ _ => True) (fun _ U o U' => ∃ v L, o = .returned v ∧ Q_rmIs4 Z p1 h0 n0 v U'.heap L ∧ FrameEnd U o U' L ({ frames := 0, cells := 0, slots := 0, locals := 0 } : Room).cells ({ frames := 0, cells := 0, slots := 0, locals := 0 } : Room).slots) := by
  refine MetFree.of_bodySF (plainFor_of_name pn_0) hisR ?_
  intro p e s m args below meth c s₁ Bd hml0 hP hK
  obtain ⟨rfl, hZ, hh⟩ := hP
  have hx := Bd.exec
  have hby := Bd.bytes
  have hml : c.maxLocals = 1 := hml0
  have hown : s.vm.findClass "com/example/libprocgraph/libprocgraph/reader/TextCursor" = some m.cls := findClass_of_methodNamed Bd.named
  have hnm := (name_of_methodNamed Bd.named Bd.method).1
  have X0 : Stand p l e ({ frames := 0, cells := 0, slots := 0, locals := 0 } : Room) s m #[(.int p1)] below meth c s₁ [] 0 0 := Stand.of_body Bd
  have e0 : s₁.heap = h0 := by rw [← hh, Bd.state]; rfl
  have N0 := Fr.nil n0
  refine own_go (own_lift (fun t k => castTop (ef_rmIs4 m p1) k) ?_)
  show own_Go p.tables e below (s₁.setTop (mkF m 0 #[iv p1] [])) _
  have sg1 : ∀ t, Steps p.tables e below (s₁.setTop (mkF m 35 #[iv p1] [(.int 0)])) t → Steps p.tables e below (s₁.setTop (mkF m 0 #[iv p1] [])) t := by
    intro t k
    refine XS.iloadN X0.here hx rfl (hb hby d1_0) rfl ?_
    show Steps p.tables e below (s₁.setTop (mkF m 1 #[iv p1] [(.int p1)])) _
    refine XS.bipush X0.here hx rfl (hb hby d1_1) ?_
    show Steps p.tables e below (s₁.setTop (mkF m 3 #[iv p1] [(.int 97), (.int p1)])) _
    refine XS.icmpYes X0.here hx rfl (pc0 := 3) (pc' := 12) rfl (hb hby d1_3) rfl (tlt c0).1 (by decide) (by decide) ?_
    show Steps p.tables e below (s₁.setTop (mkF m 12 #[iv p1] [])) _
    refine XS.iloadN X0.here hx rfl (hb hby d1_12) rfl ?_
    show Steps p.tables e below (s₁.setTop (mkF m 13 #[iv p1] [(.int p1)])) _
    refine XS.bipush X0.here hx rfl (hb hby d1_13) ?_
    show Steps p.tables e below (s₁.setTop (mkF m 15 #[iv p1] [(.int 65), (.int p1)])) _
    refine XS.icmpNo X0.here hx rfl (hb hby d1_15) rfl (flt c1).1 ?_
    show Steps p.tables e below (s₁.setTop (mkF m 18 #[iv p1] [])) _
    refine XS.iloadN X0.here hx rfl (hb hby d1_18) rfl ?_
    show Steps p.tables e below (s₁.setTop (mkF m 19 #[iv p1] [(.int p1)])) _
    refine XS.bipush X0.here hx rfl (hb hby d1_19) ?_
    show Steps p.tables e below (s₁.setTop (mkF m 21 #[iv p1] [(.int 90), (.int p1)])) _
    refine XS.icmpNo X0.here hx rfl (hb hby d1_21) rfl (tlt c2).2.2.2 ?_
    show Steps p.tables e below (s₁.setTop (mkF m 24 #[iv p1] [])) _
    refine XS.iloadN X0.here hx rfl (hb hby d1_24) rfl ?_
    show Steps p.tables e below (s₁.setTop (mkF m 25 #[iv p1] [(.int p1)])) _
    refine XS.bipush X0.here hx rfl (hb hby d1_25) ?_
    show Steps p.tables e below (s₁.setTop (mkF m 27 #[iv p1] [(.int 95), (.int p1)])) _
    refine XS.icmpYes X0.here hx rfl (pc0 := 27) (pc' := 34) rfl (hb hby d1_27) rfl (feq c3).2 (by decide) (by decide) ?_
    show Steps p.tables e below (s₁.setTop (mkF m 34 #[iv p1] [])) _
    refine XS.iconst X0.here hx rfl (hb hby d1_34) ?_
    show Steps p.tables e below (s₁.setTop (mkF m 35 #[iv p1] [(.int 0)])) _
    exact k
  refine own_lift sg1 ?_
  show own_Go p.tables e below (s₁.setTop (mkF m 35 #[iv p1] [(.int 0)])) _
  obtain ⟨fs, hr, hrun, hended, hW, hsame⟩ := X0.leave (v := some (.int 0)) (fun h => by rw [Bd.returns] at h; cases h)
  refine ⟨_, _, ?_, hrun, hended, _, _, rfl, ?_, ⟨_, rfl⟩, hW, hsame.mono (by decide) (by decide)⟩
  · exact retN X0 hx (t := .boolean) Bd.returns (by simp) (hb hby d1_35) hr
  · show Q_rmIs4 Z p1 h0 n0 _ s₁.heap _
    rw [e0]
    exact ⟨rfl, N0, rfl⟩
def Q_rmIs5 (Z : State) (p1 : Int32) (h0 : Heap) (n0 : Nat) (v : Option Value) (h : Heap) (L : List Loc) : Prop := v = some (.int 0) ∧ Fr n0 L ∧ h = h0
theorem ef_rmIs5 (m : MethodId) (x0 : Int32) : entryFrame m #[(.int x0)] 1 = mkF m 0 #[.val (.int x0)] [] := by first | (simp [entryFrame, mkF, argsToLocals, Value.category]; done) | rfl
set_option maxRecDepth 65536 in
set_option maxHeartbeats 40000000 in
theorem rmIs5 (l : Launch) (Z : State) (a0 : Array Value) (hw : ∀ d ∈ tables_1, d.before a0 Z = true) (ws : List Jvm.Cond) (p1 : Int32) (h0 : Heap) (n0 : Nat) (Z0 : n0 ≤ h0.size)  (c0 : p1 < (97 : Int32)) (c1 : p1 < (65 : Int32)) (c2 : ¬ (p1 = (95 : Int32))) :
    MetFree l (⟨"com/example/libprocgraph/libprocgraph/reader/TextCursor", "isNameStart", "(C)Z"⟩ : MethodName) (head1 (Jvm.Cond.code (⟨"com/example/libprocgraph/libprocgraph/reader/TextCursor", "isNameStart", "(C)Z"⟩ : MethodName) prog_63_method_24_code 1 (some .boolean) :: ws) ({ frames := 0, cells := 0, slots := 0, locals := 0 } : Room)) (fun a U => a = #[(.int p1)] ∧ Z.Warmed39 U.vm ∧ U.heap = h0) (fun _ _ _ _ _ => True) (fun _ U o U' => ∃ v L, o = .returned v ∧ Q_rmIs5 Z p1 h0 n0 v U'.heap L ∧ FrameEnd U o U' L ({ frames := 0, cells := 0, slots := 0, locals := 0 } : Room).cells ({ frames := 0, cells := 0, slots := 0, locals := 0 } : Room).slots) := by
  refine MetFree.of_bodySF (plainFor_of_name pn_0) hisR ?_
  intro p e s m args below meth c s₁ Bd hml0 hP hK
  obtain ⟨rfl, hZ, hh⟩ := hP
  have hx := Bd.exec
  have hby := Bd.bytes
  have hml : c.maxLocals = 1 := hml0
  have hown : s.vm.findClass "com/example/libprocgraph/libprocgraph/reader/TextCursor" = some m.cls := findClass_of_methodNamed Bd.named
  have hnm := (name_of_methodNamed Bd.named Bd.method).1
  have X0 : Stand p l e ({ frames := 0, cells := 0, slots := 0, locals := 0 } : Room) s m #[(.int p1)] below meth c s₁ [] 0 0 := Stand.of_body Bd
  have e0 : s₁.heap = h0 := by rw [← hh, Bd.state]; rfl
  have N0 := Fr.nil n0
  refine own_go (own_lift (fun t k => castTop (ef_rmIs5 m p1) k) ?_)
  show own_Go p.tables e below (s₁.setTop (mkF m 0 #[iv p1] [])) _
  have sg1 : ∀ t, Steps p.tables e below (s₁.setTop (mkF m 35 #[iv p1] [(.int 0)])) t → Steps p.tables e below (s₁.setTop (mkF m 0 #[iv p1] [])) t := by
    intro t k
    refine XS.iloadN X0.here hx rfl (hb hby d1_0) rfl ?_
    show Steps p.tables e below (s₁.setTop (mkF m 1 #[iv p1] [(.int p1)])) _
    refine XS.bipush X0.here hx rfl (hb hby d1_1) ?_
    show Steps p.tables e below (s₁.setTop (mkF m 3 #[iv p1] [(.int 97), (.int p1)])) _
    refine XS.icmpYes X0.here hx rfl (pc0 := 3) (pc' := 12) rfl (hb hby d1_3) rfl (tlt c0).1 (by decide) (by decide) ?_
    show Steps p.tables e below (s₁.setTop (mkF m 12 #[iv p1] [])) _
    refine XS.iloadN X0.here hx rfl (hb hby d1_12) rfl ?_
    show Steps p.tables e below (s₁.setTop (mkF m 13 #[iv p1] [(.int p1)])) _
    refine XS.bipush X0.here hx rfl (hb hby d1_13) ?_
    show Steps p.tables e below (s₁.setTop (mkF m 15 #[iv p1] [(.int 65), (.int p1)])) _
    refine XS.icmpYes X0.here hx rfl (pc0 := 15) (pc' := 24) rfl (hb hby d1_15) rfl (tlt c1).1 (by decide) (by decide) ?_
    show Steps p.tables e below (s₁.setTop (mkF m 24 #[iv p1] [])) _
    refine XS.iloadN X0.here hx rfl (hb hby d1_24) rfl ?_
    show Steps p.tables e below (s₁.setTop (mkF m 25 #[iv p1] [(.int p1)])) _
    refine XS.bipush X0.here hx rfl (hb hby d1_25) ?_
    show Steps p.tables e below (s₁.setTop (mkF m 27 #[iv p1] [(.int 95), (.int p1)])) _
    refine XS.icmpYes X0.here hx rfl (pc0 := 27) (pc' := 34) rfl (hb hby d1_27) rfl (feq c2).2 (by decide) (by decide) ?_
    show Steps p.tables e below (s₁.setTop (mkF m 34 #[iv p1] [])) _
    refine XS.iconst X0.here hx rfl (hb hby d1_34) ?_
    show Steps p.tables e below (s₁.setTop (mkF m 35 #[iv p1] [(.int 0)])) _
    exact k
  refine own_lift sg1 ?_
  show own_Go p.tables e below (s₁.setTop (mkF m 35 #[iv p1] [(.int 0)])) _
  obtain ⟨fs, hr, hrun, hended, hW, hsame⟩ := X0.leave (v := some (.int 0)) (fun h => by rw [Bd.returns] at h; cases h)
  refine ⟨_, _, ?_, hrun, hended, _, _, rfl, ?_, ⟨_, rfl⟩, hW, hsame.mono (by decide) (by decide)⟩
  · exact retN X0 hx (t := .boolean) Bd.returns (by simp) (hb hby d1_35) hr
  · show Q_rmIs5 Z p1 h0 n0 _ s₁.heap _
    rw [e0]
    exact ⟨rfl, N0, rfl⟩
def Q_rmIs6 (Z : State) (p1 : Int32) (h0 : Heap) (n0 : Nat) (v : Option Value) (h : Heap) (L : List Loc) : Prop := v = some (.int 0) ∧ Fr n0 L ∧ h = h0
theorem ef_rmIs6 (m : MethodId) (x0 : Int32) : entryFrame m #[(.int x0)] 1 = mkF m 0 #[.val (.int x0)] [] := by first | (simp [entryFrame, mkF, argsToLocals, Value.category]; done) | rfl
set_option maxRecDepth 65536 in
set_option maxHeartbeats 40000000 in
theorem rmIs6 (l : Launch) (Z : State) (a0 : Array Value) (hw : ∀ d ∈ tables_1, d.before a0 Z = true) (ws : List Jvm.Cond) (p1 : Int32) (h0 : Heap) (n0 : Nat) (Z0 : n0 ≤ h0.size)  (c0 : ¬ (p1 < (97 : Int32))) (c1 : (122 : Int32) < p1) (c2 : ¬ (p1 < (65 : Int32))) (c3 : (90 : Int32) < p1) (c4 : ¬ (p1 = (95 : Int32))) :
    MetFree l (⟨"com/example/libprocgraph/libprocgraph/reader/TextCursor", "isNameStart", "(C)Z"⟩ : MethodName) (head1 (Jvm.Cond.code (⟨"com/example/libprocgraph/libprocgraph/reader/TextCursor", "isNameStart", "(C)Z"⟩ : MethodName) prog_63_method_24_code 1 (some .boolean) :: ws) ({ frames := 0, cells := 0, slots := 0, locals := 0 } : Room)) (fun a U => a = #[(.int p1)] ∧ Z.Warmed39 U.vm ∧ U.heap = h0) (fun _ _ _ _ _ => True) (fun _ U o U' => ∃ v L, o = .returned v ∧ Q_rmIs6 Z p1 h0 n0 v U'.heap L ∧ FrameEnd U o U' L ({ frames := 0, cells := 0, slots := 0, locals := 0 } : Room).cells ({ frames := 0, cells := 0, slots := 0, locals := 0 } : Room).slots) := by
  refine MetFree.of_bodySF (plainFor_of_name pn_0) hisR ?_
  intro p e s m args below meth c s₁ Bd hml0 hP hK
  obtain ⟨rfl, hZ, hh⟩ := hP
  have hx := Bd.exec
  have hby := Bd.bytes
  have hml : c.maxLocals = 1 := hml0
  have hown : s.vm.findClass "com/example/libprocgraph/libprocgraph/reader/TextCursor" = some m.cls := findClass_of_methodNamed Bd.named
  have hnm := (name_of_methodNamed Bd.named Bd.method).1
  have X0 : Stand p l e ({ frames := 0, cells := 0, slots := 0, locals := 0 } : Room) s m #[(.int p1)] below meth c s₁ [] 0 0 := Stand.of_body Bd
  have e0 : s₁.heap = h0 := by rw [← hh, Bd.state]; rfl
  have N0 := Fr.nil n0
  refine own_go (own_lift (fun t k => castTop (ef_rmIs6 m p1) k) ?_)
  show own_Go p.tables e below (s₁.setTop (mkF m 0 #[iv p1] [])) _
  have sg1 : ∀ t, Steps p.tables e below (s₁.setTop (mkF m 35 #[iv p1] [(.int 0)])) t → Steps p.tables e below (s₁.setTop (mkF m 0 #[iv p1] [])) t := by
    intro t k
    refine XS.iloadN X0.here hx rfl (hb hby d1_0) rfl ?_
    show Steps p.tables e below (s₁.setTop (mkF m 1 #[iv p1] [(.int p1)])) _
    refine XS.bipush X0.here hx rfl (hb hby d1_1) ?_
    show Steps p.tables e below (s₁.setTop (mkF m 3 #[iv p1] [(.int 97), (.int p1)])) _
    refine XS.icmpNo X0.here hx rfl (hb hby d1_3) rfl (flt c0).1 ?_
    show Steps p.tables e below (s₁.setTop (mkF m 6 #[iv p1] [])) _
    refine XS.iloadN X0.here hx rfl (hb hby d1_6) rfl ?_
    show Steps p.tables e below (s₁.setTop (mkF m 7 #[iv p1] [(.int p1)])) _
    refine XS.bipush X0.here hx rfl (hb hby d1_7) ?_
    show Steps p.tables e below (s₁.setTop (mkF m 9 #[iv p1] [(.int 122), (.int p1)])) _
    refine XS.icmpNo X0.here hx rfl (hb hby d1_9) rfl (tlt c1).2.2.2 ?_
    show Steps p.tables e below (s₁.setTop (mkF m 12 #[iv p1] [])) _
    refine XS.iloadN X0.here hx rfl (hb hby d1_12) rfl ?_
    show Steps p.tables e below (s₁.setTop (mkF m 13 #[iv p1] [(.int p1)])) _
    refine XS.bipush X0.here hx rfl (hb hby d1_13) ?_
    show Steps p.tables e below (s₁.setTop (mkF m 15 #[iv p1] [(.int 65), (.int p1)])) _
    refine XS.icmpNo X0.here hx rfl (hb hby d1_15) rfl (flt c2).1 ?_
    show Steps p.tables e below (s₁.setTop (mkF m 18 #[iv p1] [])) _
    refine XS.iloadN X0.here hx rfl (hb hby d1_18) rfl ?_
    show Steps p.tables e below (s₁.setTop (mkF m 19 #[iv p1] [(.int p1)])) _
    refine XS.bipush X0.here hx rfl (hb hby d1_19) ?_
    show Steps p.tables e below (s₁.setTop (mkF m 21 #[iv p1] [(.int 90), (.int p1)])) _
    refine XS.icmpNo X0.here hx rfl (hb hby d1_21) rfl (tlt c3).2.2.2 ?_
    show Steps p.tables e below (s₁.setTop (mkF m 24 #[iv p1] [])) _
    refine XS.iloadN X0.here hx rfl (hb hby d1_24) rfl ?_
    show Steps p.tables e below (s₁.setTop (mkF m 25 #[iv p1] [(.int p1)])) _
    refine XS.bipush X0.here hx rfl (hb hby d1_25) ?_
    show Steps p.tables e below (s₁.setTop (mkF m 27 #[iv p1] [(.int 95), (.int p1)])) _
    refine XS.icmpYes X0.here hx rfl (pc0 := 27) (pc' := 34) rfl (hb hby d1_27) rfl (feq c4).2 (by decide) (by decide) ?_
    show Steps p.tables e below (s₁.setTop (mkF m 34 #[iv p1] [])) _
    refine XS.iconst X0.here hx rfl (hb hby d1_34) ?_
    show Steps p.tables e below (s₁.setTop (mkF m 35 #[iv p1] [(.int 0)])) _
    exact k
  refine own_lift sg1 ?_
  show own_Go p.tables e below (s₁.setTop (mkF m 35 #[iv p1] [(.int 0)])) _
  obtain ⟨fs, hr, hrun, hended, hW, hsame⟩ := X0.leave (v := some (.int 0)) (fun h => by rw [Bd.returns] at h; cases h)
  refine ⟨_, _, ?_, hrun, hended, _, _, rfl, ?_, ⟨_, rfl⟩, hW, hsame.mono (by decide) (by decide)⟩
  · exact retN X0 hx (t := .boolean) Bd.returns (by simp) (hb hby d1_35) hr
  · show Q_rmIs6 Z p1 h0 n0 _ s₁.heap _
    rw [e0]
    exact ⟨rfl, N0, rfl⟩
theorem pn_1 : plainName "com/example/libprocgraph/libprocgraph/reader/TextCursorIsNameStartPinLaw" = true := by first | (simp [plainName, overriddenIn]; done) | decide +kernel
theorem pd_0 : parseMethodDescriptor "(C)Z" = some ⟨[.char], some .boolean⟩ := by decide +kernel
def Q0 (Z : State)  (h0 : Heap) (n0 : Nat) (v : Option Value) (h : Heap) (L : List Loc) : Prop := v = some (.int 1) ∧ Fr n0 L
theorem ef_rm0_1 (m : MethodId) (x0 : Int32) : entryFrame m #[(.int x0)] maxLocals = mkF m 0 #[.val (.int x0), .unset, .unset, .unset, .unset] [] := by first | (simp [entryFrame, mkF, argsToLocals, Value.category, maxLocals]; done) | rfl
set_option maxRecDepth 65536 in
set_option maxHeartbeats 40000000 in
theorem rm0_1 (l : Launch) (Z : State) (a0 : Array Value) (hw : ∀ d ∈ tables_1, d.before a0 Z = true) (ws : List Jvm.Cond) (p0 : Int32) (h0 : Heap) (n0 : Nat) (Z0 : n0 ≤ h0.size)  (c0 : ¬ ((p0.toUInt32.toUInt16.toUInt32.toInt32) < (97 : Int32))) (c1 : ¬ ((122 : Int32) < (p0.toUInt32.toUInt16.toUInt32.toInt32))) (c2 : ¬ ((((p0.toUInt32.toUInt16.toUInt32.toInt32) ||| (32 : Int32)) - (97 : Int32)) < (0 : Int32))) (c3 : (((p0.toUInt32.toUInt16.toUInt32.toInt32) ||| (32 : Int32)) - (97 : Int32)) < (26 : Int32)) :
    MetFree l x (head1 (Jvm.Cond.code x code maxLocals ret :: ws) room_1) (fun a U => a = #[(.int p0)] ∧ Z.Warmed39 U.vm ∧ U.heap = h0) (fun _ _ _ _ _ => True) (fun _ U o U' => ∃ v L, o = .returned v ∧ Q0 Z  h0 n0 v U'.heap L ∧ FrameEnd U o U' L 0 0) := by
  refine MetFree.of_bodySF (plainFor_of_name pn_1) hisR ?_
  intro p e s m args below meth c s₁ Bd hml0 hP hK
  obtain ⟨rfl, hZ, hh⟩ := hP
  have hx := Bd.exec
  have hby := Bd.bytes
  have hml : c.maxLocals = 5 := hml0
  have hown : s.vm.findClass "com/example/libprocgraph/libprocgraph/reader/TextCursorIsNameStartPinLaw" = some m.cls := findClass_of_methodNamed Bd.named
  have hnm := (name_of_methodNamed Bd.named Bd.method).1
  have X0 : Stand p l e room_1 s m #[(.int p0)] below meth c s₁ [] 0 0 := Stand.of_body Bd
  have e0 : s₁.heap = h0 := by rw [← hh, Bd.state]; rfl
  have N0 := Fr.nil n0
  refine own_go (own_lift (fun t k => castTop (ef_rm0_1 m p0) k) ?_)
  show own_Go p.tables e below (s₁.setTop (mkF m 0 #[iv p0, .unset, .unset, .unset, .unset] [])) _
  have sg1 : ∀ t, Steps p.tables e below (s₁.setTop (mkF m 37 #[iv p0, iv (p0.toUInt32.toUInt16.toUInt32.toInt32), iv ((p0.toUInt32.toUInt16.toUInt32.toInt32) ||| (32 : Int32)), iv (((p0.toUInt32.toUInt16.toUInt32.toInt32) ||| (32 : Int32)) - (97 : Int32)), iv 1] [(.int (p0.toUInt32.toUInt16.toUInt32.toInt32))])) t → Steps p.tables e below (s₁.setTop (mkF m 0 #[iv p0, .unset, .unset, .unset, .unset] [])) t := by
    intro t k
    refine XS.iloadN X0.here hx rfl (hb hby at_0) rfl ?_
    show Steps p.tables e below (s₁.setTop (mkF m 1 #[iv p0, .unset, .unset, .unset, .unset] [(.int p0)])) _
    refine XS.i2c X0.here hx rfl (hb hby at_1) rfl ?_
    show Steps p.tables e below (s₁.setTop (mkF m 2 #[iv p0, .unset, .unset, .unset, .unset] [(.int (p0.toUInt32.toUInt16.toUInt32.toInt32))])) _
    refine XS.istoreN X0.here hx rfl (hb hby at_2) rfl (l' := #[iv p0, iv (p0.toUInt32.toUInt16.toUInt32.toInt32), .unset, .unset, .unset]) rfl ?_
    show Steps p.tables e below (s₁.setTop (mkF m 3 #[iv p0, iv (p0.toUInt32.toUInt16.toUInt32.toInt32), .unset, .unset, .unset] [])) _
    refine XS.iloadN X0.here hx rfl (hb hby at_3) rfl ?_
    show Steps p.tables e below (s₁.setTop (mkF m 4 #[iv p0, iv (p0.toUInt32.toUInt16.toUInt32.toInt32), .unset, .unset, .unset] [(.int (p0.toUInt32.toUInt16.toUInt32.toInt32))])) _
    refine XS.bipush X0.here hx rfl (hb hby at_4) ?_
    show Steps p.tables e below (s₁.setTop (mkF m 6 #[iv p0, iv (p0.toUInt32.toUInt16.toUInt32.toInt32), .unset, .unset, .unset] [(.int 32), (.int (p0.toUInt32.toUInt16.toUInt32.toInt32))])) _
    refine XS.ior X0.here hx rfl (hb hby at_6) rfl ?_
    show Steps p.tables e below (s₁.setTop (mkF m 7 #[iv p0, iv (p0.toUInt32.toUInt16.toUInt32.toInt32), .unset, .unset, .unset] [(.int ((p0.toUInt32.toUInt16.toUInt32.toInt32) ||| (32 : Int32)))])) _
    refine XS.istoreN X0.here hx rfl (hb hby at_7) rfl (l' := #[iv p0, iv (p0.toUInt32.toUInt16.toUInt32.toInt32), iv ((p0.toUInt32.toUInt16.toUInt32.toInt32) ||| (32 : Int32)), .unset, .unset]) rfl ?_
    show Steps p.tables e below (s₁.setTop (mkF m 8 #[iv p0, iv (p0.toUInt32.toUInt16.toUInt32.toInt32), iv ((p0.toUInt32.toUInt16.toUInt32.toInt32) ||| (32 : Int32)), .unset, .unset] [])) _
    refine XS.iloadN X0.here hx rfl (hb hby at_8) rfl ?_
    show Steps p.tables e below (s₁.setTop (mkF m 9 #[iv p0, iv (p0.toUInt32.toUInt16.toUInt32.toInt32), iv ((p0.toUInt32.toUInt16.toUInt32.toInt32) ||| (32 : Int32)), .unset, .unset] [(.int ((p0.toUInt32.toUInt16.toUInt32.toInt32) ||| (32 : Int32)))])) _
    refine XS.bipush X0.here hx rfl (hb hby at_9) ?_
    show Steps p.tables e below (s₁.setTop (mkF m 11 #[iv p0, iv (p0.toUInt32.toUInt16.toUInt32.toInt32), iv ((p0.toUInt32.toUInt16.toUInt32.toInt32) ||| (32 : Int32)), .unset, .unset] [(.int 97), (.int ((p0.toUInt32.toUInt16.toUInt32.toInt32) ||| (32 : Int32)))])) _
    refine XS.isub X0.here hx rfl (hb hby at_11) rfl ?_
    show Steps p.tables e below (s₁.setTop (mkF m 12 #[iv p0, iv (p0.toUInt32.toUInt16.toUInt32.toInt32), iv ((p0.toUInt32.toUInt16.toUInt32.toInt32) ||| (32 : Int32)), .unset, .unset] [(.int (((p0.toUInt32.toUInt16.toUInt32.toInt32) ||| (32 : Int32)) - (97 : Int32)))])) _
    refine XS.istoreN X0.here hx rfl (hb hby at_12) rfl (l' := #[iv p0, iv (p0.toUInt32.toUInt16.toUInt32.toInt32), iv ((p0.toUInt32.toUInt16.toUInt32.toInt32) ||| (32 : Int32)), iv (((p0.toUInt32.toUInt16.toUInt32.toInt32) ||| (32 : Int32)) - (97 : Int32)), .unset]) rfl ?_
    show Steps p.tables e below (s₁.setTop (mkF m 13 #[iv p0, iv (p0.toUInt32.toUInt16.toUInt32.toInt32), iv ((p0.toUInt32.toUInt16.toUInt32.toInt32) ||| (32 : Int32)), iv (((p0.toUInt32.toUInt16.toUInt32.toInt32) ||| (32 : Int32)) - (97 : Int32)), .unset] [])) _
    refine XS.iloadN X0.here hx rfl (hb hby at_13) rfl ?_
    show Steps p.tables e below (s₁.setTop (mkF m 14 #[iv p0, iv (p0.toUInt32.toUInt16.toUInt32.toInt32), iv ((p0.toUInt32.toUInt16.toUInt32.toInt32) ||| (32 : Int32)), iv (((p0.toUInt32.toUInt16.toUInt32.toInt32) ||| (32 : Int32)) - (97 : Int32)), .unset] [(.int (((p0.toUInt32.toUInt16.toUInt32.toInt32) ||| (32 : Int32)) - (97 : Int32)))])) _
    refine XS.ifNo X0.here hx rfl (hb hby at_14) rfl ((if0 _ _).trans (flt c2).1) ?_
    show Steps p.tables e below (s₁.setTop (mkF m 17 #[iv p0, iv (p0.toUInt32.toUInt16.toUInt32.toInt32), iv ((p0.toUInt32.toUInt16.toUInt32.toInt32) ||| (32 : Int32)), iv (((p0.toUInt32.toUInt16.toUInt32.toInt32) ||| (32 : Int32)) - (97 : Int32)), .unset] [])) _
    refine XS.iloadN X0.here hx rfl (hb hby at_17) rfl ?_
    show Steps p.tables e below (s₁.setTop (mkF m 18 #[iv p0, iv (p0.toUInt32.toUInt16.toUInt32.toInt32), iv ((p0.toUInt32.toUInt16.toUInt32.toInt32) ||| (32 : Int32)), iv (((p0.toUInt32.toUInt16.toUInt32.toInt32) ||| (32 : Int32)) - (97 : Int32)), .unset] [(.int (((p0.toUInt32.toUInt16.toUInt32.toInt32) ||| (32 : Int32)) - (97 : Int32)))])) _
    refine XS.bipush X0.here hx rfl (hb hby at_18) ?_
    show Steps p.tables e below (s₁.setTop (mkF m 20 #[iv p0, iv (p0.toUInt32.toUInt16.toUInt32.toInt32), iv ((p0.toUInt32.toUInt16.toUInt32.toInt32) ||| (32 : Int32)), iv (((p0.toUInt32.toUInt16.toUInt32.toInt32) ||| (32 : Int32)) - (97 : Int32)), .unset] [(.int 26), (.int (((p0.toUInt32.toUInt16.toUInt32.toInt32) ||| (32 : Int32)) - (97 : Int32)))])) _
    refine XS.icmpYes X0.here hx rfl (pc0 := 20) (pc' := 29) rfl (hb hby at_20) rfl (tlt c3).1 (by decide) (by decide) ?_
    show Steps p.tables e below (s₁.setTop (mkF m 29 #[iv p0, iv (p0.toUInt32.toUInt16.toUInt32.toInt32), iv ((p0.toUInt32.toUInt16.toUInt32.toInt32) ||| (32 : Int32)), iv (((p0.toUInt32.toUInt16.toUInt32.toInt32) ||| (32 : Int32)) - (97 : Int32)), .unset] [])) _
    refine XS.iconst X0.here hx rfl (hb hby at_29) ?_
    show Steps p.tables e below (s₁.setTop (mkF m 30 #[iv p0, iv (p0.toUInt32.toUInt16.toUInt32.toInt32), iv ((p0.toUInt32.toUInt16.toUInt32.toInt32) ||| (32 : Int32)), iv (((p0.toUInt32.toUInt16.toUInt32.toInt32) ||| (32 : Int32)) - (97 : Int32)), .unset] [(.int 1)])) _
    refine XS.goto X0.here hx rfl (pc0 := 30) (pc' := 34) rfl (hb hby at_30) (by decide) (by decide) ?_
    show Steps p.tables e below (s₁.setTop (mkF m 34 #[iv p0, iv (p0.toUInt32.toUInt16.toUInt32.toInt32), iv ((p0.toUInt32.toUInt16.toUInt32.toInt32) ||| (32 : Int32)), iv (((p0.toUInt32.toUInt16.toUInt32.toInt32) ||| (32 : Int32)) - (97 : Int32)), .unset] [(.int 1)])) _
    refine XS.istore X0.here hx rfl (hb hby at_34) rfl (l' := #[iv p0, iv (p0.toUInt32.toUInt16.toUInt32.toInt32), iv ((p0.toUInt32.toUInt16.toUInt32.toInt32) ||| (32 : Int32)), iv (((p0.toUInt32.toUInt16.toUInt32.toInt32) ||| (32 : Int32)) - (97 : Int32)), iv 1]) rfl ?_
    show Steps p.tables e below (s₁.setTop (mkF m 36 #[iv p0, iv (p0.toUInt32.toUInt16.toUInt32.toInt32), iv ((p0.toUInt32.toUInt16.toUInt32.toInt32) ||| (32 : Int32)), iv (((p0.toUInt32.toUInt16.toUInt32.toInt32) ||| (32 : Int32)) - (97 : Int32)), iv 1] [])) _
    refine XS.iloadN X0.here hx rfl (hb hby at_36) rfl ?_
    show Steps p.tables e below (s₁.setTop (mkF m 37 #[iv p0, iv (p0.toUInt32.toUInt16.toUInt32.toInt32), iv ((p0.toUInt32.toUInt16.toUInt32.toInt32) ||| (32 : Int32)), iv (((p0.toUInt32.toUInt16.toUInt32.toInt32) ||| (32 : Int32)) - (97 : Int32)), iv 1] [(.int (p0.toUInt32.toUInt16.toUInt32.toInt32))])) _
    exact k
  refine own_lift sg1 ?_
  show own_Go p.tables e below (s₁.setTop (mkF m 37 #[iv p0, iv (p0.toUInt32.toUInt16.toUInt32.toInt32), iv ((p0.toUInt32.toUInt16.toUInt32.toInt32) ||| (32 : Int32)), iv (((p0.toUInt32.toUInt16.toUInt32.toInt32) ||| (32 : Int32)) - (97 : Int32)), iv 1] [(.int (p0.toUInt32.toUInt16.toUInt32.toInt32))])) _
  obtain ⟨_, _, ⟨T2, Lx2, kx2, nx2⟩, -, X2, ⟨Lc2, hQ2, lx2, yx2, zx2⟩, st2⟩ := Jvm.LawKit.callS X0 hx (y := (⟨"com/example/libprocgraph/libprocgraph/reader/TextCursor", "isNameStart", "(C)Z"⟩ : MethodName)) hown (mvT hZ (wd hw 0 rfl)) (mvT hZ (wd hw 1 rfl)) (mvT hZ (wd hw 2 rfl)) (mvT hZ (wd hw 3 rfl)) (by decide) (backOf (W := 0) (rmIs1 l Z a0 hw [] (p0.toUInt32.toUInt16.toUInt32.toInt32) h0 n0 Z0 c0 c1) hZ (wd hw 3 rfl) (wd hw 2 rfl) (by decide) (by decide)) (g := (mkF m 37 #[iv p0, iv (p0.toUInt32.toUInt16.toUInt32.toInt32), iv ((p0.toUInt32.toUInt16.toUInt32.toInt32) ||| (32 : Int32)), iv (((p0.toUInt32.toUInt16.toUInt32.toInt32) ||| (32 : Int32)) - (97 : Int32)), iv 1] [(.int (p0.toUInt32.toUInt16.toUInt32.toInt32))])) rfl (by rw [hml]; rfl) (argsL := [(.int (p0.toUInt32.toUInt16.toUInt32.toInt32))]) (rest := []) (lenOf pd_0 rfl) rfl (by show 2 * 0 + _ ≤ _; exact Nat.le_of_eq rfl) (hb hby at_37) (fun _ _ => ⟨rfl, e0, (by decide : 0 + 0 ≤ _), (by decide : 0 + 0 ≤ _)⟩)
  dsimp only [Pt.U, Pt.locs, Pt.cells, Pt.slots] at X2 lx2 yx2 zx2 st2 hQ2
  subst lx2 yx2 zx2
  obtain ⟨rfl, N2q, e2⟩ := hQ2
  have N2 := Fr.app N0 N2q
  refine own_lift st2 ?_
  show own_Go p.tables e below (T2.setTop (mkF m 40 #[iv p0, iv (p0.toUInt32.toUInt16.toUInt32.toInt32), iv ((p0.toUInt32.toUInt16.toUInt32.toInt32) ||| (32 : Int32)), iv (((p0.toUInt32.toUInt16.toUInt32.toInt32) ||| (32 : Int32)) - (97 : Int32)), iv 1] [(.int 1)])) _
  have sg3 : ∀ t, Steps p.tables e below (T2.setTop (mkF m 50 #[iv p0, iv (p0.toUInt32.toUInt16.toUInt32.toInt32), iv ((p0.toUInt32.toUInt16.toUInt32.toInt32) ||| (32 : Int32)), iv (((p0.toUInt32.toUInt16.toUInt32.toInt32) ||| (32 : Int32)) - (97 : Int32)), iv 1] [(.int 1)])) t → Steps p.tables e below (T2.setTop (mkF m 40 #[iv p0, iv (p0.toUInt32.toUInt16.toUInt32.toInt32), iv ((p0.toUInt32.toUInt16.toUInt32.toInt32) ||| (32 : Int32)), iv (((p0.toUInt32.toUInt16.toUInt32.toInt32) ||| (32 : Int32)) - (97 : Int32)), iv 1] [(.int 1)])) t := by
    intro t k
    refine XS.iload X2.here hx rfl (hb hby at_40) rfl ?_
    show Steps p.tables e below (T2.setTop (mkF m 42 #[iv p0, iv (p0.toUInt32.toUInt16.toUInt32.toInt32), iv ((p0.toUInt32.toUInt16.toUInt32.toInt32) ||| (32 : Int32)), iv (((p0.toUInt32.toUInt16.toUInt32.toInt32) ||| (32 : Int32)) - (97 : Int32)), iv 1] [(.int 1), (.int 1)])) _
    refine XS.icmpNo X2.here hx rfl (hb hby at_42) rfl (teq (by decide : (1 : Int32) = (1 : Int32))).2 ?_
    show Steps p.tables e below (T2.setTop (mkF m 45 #[iv p0, iv (p0.toUInt32.toUInt16.toUInt32.toInt32), iv ((p0.toUInt32.toUInt16.toUInt32.toInt32) ||| (32 : Int32)), iv (((p0.toUInt32.toUInt16.toUInt32.toInt32) ||| (32 : Int32)) - (97 : Int32)), iv 1] [])) _
    refine XS.iconst X2.here hx rfl (hb hby at_45) ?_
    show Steps p.tables e below (T2.setTop (mkF m 46 #[iv p0, iv (p0.toUInt32.toUInt16.toUInt32.toInt32), iv ((p0.toUInt32.toUInt16.toUInt32.toInt32) ||| (32 : Int32)), iv (((p0.toUInt32.toUInt16.toUInt32.toInt32) ||| (32 : Int32)) - (97 : Int32)), iv 1] [(.int 1)])) _
    refine XS.goto X2.here hx rfl (pc0 := 46) (pc' := 50) rfl (hb hby at_46) (by decide) (by decide) ?_
    show Steps p.tables e below (T2.setTop (mkF m 50 #[iv p0, iv (p0.toUInt32.toUInt16.toUInt32.toInt32), iv ((p0.toUInt32.toUInt16.toUInt32.toInt32) ||| (32 : Int32)), iv (((p0.toUInt32.toUInt16.toUInt32.toInt32) ||| (32 : Int32)) - (97 : Int32)), iv 1] [(.int 1)])) _
    exact k
  refine own_lift sg3 ?_
  show own_Go p.tables e below (T2.setTop (mkF m 50 #[iv p0, iv (p0.toUInt32.toUInt16.toUInt32.toInt32), iv ((p0.toUInt32.toUInt16.toUInt32.toInt32) ||| (32 : Int32)), iv (((p0.toUInt32.toUInt16.toUInt32.toInt32) ||| (32 : Int32)) - (97 : Int32)), iv 1] [(.int 1)])) _
  obtain ⟨fs, hr, hrun, hended, hW, hsame⟩ := X2.leave (v := some (.int 1)) (fun h => by rw [Bd.returns] at h; cases h)
  refine ⟨_, _, ?_, hrun, hended, _, _, rfl, ?_, ⟨_, rfl⟩, hW, hsame.mono (by decide) (by decide)⟩
  · exact retN X2 hx (t := .boolean) Bd.returns (by simp) (hb hby at_50) hr
  · show Q0 Z  h0 n0 _ T2.heap _
    rw [e2]
    exact ⟨rfl, N2⟩
theorem ef_rm0_2 (m : MethodId) (x0 : Int32) : entryFrame m #[(.int x0)] maxLocals = mkF m 0 #[.val (.int x0), .unset, .unset, .unset, .unset] [] := by first | (simp [entryFrame, mkF, argsToLocals, Value.category, maxLocals]; done) | rfl
set_option maxRecDepth 65536 in
set_option maxHeartbeats 40000000 in
theorem rm0_2 (l : Launch) (Z : State) (a0 : Array Value) (hw : ∀ d ∈ tables_1, d.before a0 Z = true) (ws : List Jvm.Cond) (p0 : Int32) (h0 : Heap) (n0 : Nat) (Z0 : n0 ≤ h0.size)  (c0 : (p0.toUInt32.toUInt16.toUInt32.toInt32) < (97 : Int32)) (c1 : ¬ ((p0.toUInt32.toUInt16.toUInt32.toInt32) < (65 : Int32))) (c2 : ¬ ((90 : Int32) < (p0.toUInt32.toUInt16.toUInt32.toInt32))) (c3 : ¬ ((((p0.toUInt32.toUInt16.toUInt32.toInt32) ||| (32 : Int32)) - (97 : Int32)) < (0 : Int32))) (c4 : (((p0.toUInt32.toUInt16.toUInt32.toInt32) ||| (32 : Int32)) - (97 : Int32)) < (26 : Int32)) :
    MetFree l x (head1 (Jvm.Cond.code x code maxLocals ret :: ws) room_1) (fun a U => a = #[(.int p0)] ∧ Z.Warmed39 U.vm ∧ U.heap = h0) (fun _ _ _ _ _ => True) (fun _ U o U' => ∃ v L, o = .returned v ∧ Q0 Z  h0 n0 v U'.heap L ∧ FrameEnd U o U' L 0 0) := by
  refine MetFree.of_bodySF (plainFor_of_name pn_1) hisR ?_
  intro p e s m args below meth c s₁ Bd hml0 hP hK
  obtain ⟨rfl, hZ, hh⟩ := hP
  have hx := Bd.exec
  have hby := Bd.bytes
  have hml : c.maxLocals = 5 := hml0
  have hown : s.vm.findClass "com/example/libprocgraph/libprocgraph/reader/TextCursorIsNameStartPinLaw" = some m.cls := findClass_of_methodNamed Bd.named
  have hnm := (name_of_methodNamed Bd.named Bd.method).1
  have X0 : Stand p l e room_1 s m #[(.int p0)] below meth c s₁ [] 0 0 := Stand.of_body Bd
  have e0 : s₁.heap = h0 := by rw [← hh, Bd.state]; rfl
  have N0 := Fr.nil n0
  refine own_go (own_lift (fun t k => castTop (ef_rm0_2 m p0) k) ?_)
  show own_Go p.tables e below (s₁.setTop (mkF m 0 #[iv p0, .unset, .unset, .unset, .unset] [])) _
  have sg1 : ∀ t, Steps p.tables e below (s₁.setTop (mkF m 37 #[iv p0, iv (p0.toUInt32.toUInt16.toUInt32.toInt32), iv ((p0.toUInt32.toUInt16.toUInt32.toInt32) ||| (32 : Int32)), iv (((p0.toUInt32.toUInt16.toUInt32.toInt32) ||| (32 : Int32)) - (97 : Int32)), iv 1] [(.int (p0.toUInt32.toUInt16.toUInt32.toInt32))])) t → Steps p.tables e below (s₁.setTop (mkF m 0 #[iv p0, .unset, .unset, .unset, .unset] [])) t := by
    intro t k
    refine XS.iloadN X0.here hx rfl (hb hby at_0) rfl ?_
    show Steps p.tables e below (s₁.setTop (mkF m 1 #[iv p0, .unset, .unset, .unset, .unset] [(.int p0)])) _
    refine XS.i2c X0.here hx rfl (hb hby at_1) rfl ?_
    show Steps p.tables e below (s₁.setTop (mkF m 2 #[iv p0, .unset, .unset, .unset, .unset] [(.int (p0.toUInt32.toUInt16.toUInt32.toInt32))])) _
    refine XS.istoreN X0.here hx rfl (hb hby at_2) rfl (l' := #[iv p0, iv (p0.toUInt32.toUInt16.toUInt32.toInt32), .unset, .unset, .unset]) rfl ?_
    show Steps p.tables e below (s₁.setTop (mkF m 3 #[iv p0, iv (p0.toUInt32.toUInt16.toUInt32.toInt32), .unset, .unset, .unset] [])) _
    refine XS.iloadN X0.here hx rfl (hb hby at_3) rfl ?_
    show Steps p.tables e below (s₁.setTop (mkF m 4 #[iv p0, iv (p0.toUInt32.toUInt16.toUInt32.toInt32), .unset, .unset, .unset] [(.int (p0.toUInt32.toUInt16.toUInt32.toInt32))])) _
    refine XS.bipush X0.here hx rfl (hb hby at_4) ?_
    show Steps p.tables e below (s₁.setTop (mkF m 6 #[iv p0, iv (p0.toUInt32.toUInt16.toUInt32.toInt32), .unset, .unset, .unset] [(.int 32), (.int (p0.toUInt32.toUInt16.toUInt32.toInt32))])) _
    refine XS.ior X0.here hx rfl (hb hby at_6) rfl ?_
    show Steps p.tables e below (s₁.setTop (mkF m 7 #[iv p0, iv (p0.toUInt32.toUInt16.toUInt32.toInt32), .unset, .unset, .unset] [(.int ((p0.toUInt32.toUInt16.toUInt32.toInt32) ||| (32 : Int32)))])) _
    refine XS.istoreN X0.here hx rfl (hb hby at_7) rfl (l' := #[iv p0, iv (p0.toUInt32.toUInt16.toUInt32.toInt32), iv ((p0.toUInt32.toUInt16.toUInt32.toInt32) ||| (32 : Int32)), .unset, .unset]) rfl ?_
    show Steps p.tables e below (s₁.setTop (mkF m 8 #[iv p0, iv (p0.toUInt32.toUInt16.toUInt32.toInt32), iv ((p0.toUInt32.toUInt16.toUInt32.toInt32) ||| (32 : Int32)), .unset, .unset] [])) _
    refine XS.iloadN X0.here hx rfl (hb hby at_8) rfl ?_
    show Steps p.tables e below (s₁.setTop (mkF m 9 #[iv p0, iv (p0.toUInt32.toUInt16.toUInt32.toInt32), iv ((p0.toUInt32.toUInt16.toUInt32.toInt32) ||| (32 : Int32)), .unset, .unset] [(.int ((p0.toUInt32.toUInt16.toUInt32.toInt32) ||| (32 : Int32)))])) _
    refine XS.bipush X0.here hx rfl (hb hby at_9) ?_
    show Steps p.tables e below (s₁.setTop (mkF m 11 #[iv p0, iv (p0.toUInt32.toUInt16.toUInt32.toInt32), iv ((p0.toUInt32.toUInt16.toUInt32.toInt32) ||| (32 : Int32)), .unset, .unset] [(.int 97), (.int ((p0.toUInt32.toUInt16.toUInt32.toInt32) ||| (32 : Int32)))])) _
    refine XS.isub X0.here hx rfl (hb hby at_11) rfl ?_
    show Steps p.tables e below (s₁.setTop (mkF m 12 #[iv p0, iv (p0.toUInt32.toUInt16.toUInt32.toInt32), iv ((p0.toUInt32.toUInt16.toUInt32.toInt32) ||| (32 : Int32)), .unset, .unset] [(.int (((p0.toUInt32.toUInt16.toUInt32.toInt32) ||| (32 : Int32)) - (97 : Int32)))])) _
    refine XS.istoreN X0.here hx rfl (hb hby at_12) rfl (l' := #[iv p0, iv (p0.toUInt32.toUInt16.toUInt32.toInt32), iv ((p0.toUInt32.toUInt16.toUInt32.toInt32) ||| (32 : Int32)), iv (((p0.toUInt32.toUInt16.toUInt32.toInt32) ||| (32 : Int32)) - (97 : Int32)), .unset]) rfl ?_
    show Steps p.tables e below (s₁.setTop (mkF m 13 #[iv p0, iv (p0.toUInt32.toUInt16.toUInt32.toInt32), iv ((p0.toUInt32.toUInt16.toUInt32.toInt32) ||| (32 : Int32)), iv (((p0.toUInt32.toUInt16.toUInt32.toInt32) ||| (32 : Int32)) - (97 : Int32)), .unset] [])) _
    refine XS.iloadN X0.here hx rfl (hb hby at_13) rfl ?_
    show Steps p.tables e below (s₁.setTop (mkF m 14 #[iv p0, iv (p0.toUInt32.toUInt16.toUInt32.toInt32), iv ((p0.toUInt32.toUInt16.toUInt32.toInt32) ||| (32 : Int32)), iv (((p0.toUInt32.toUInt16.toUInt32.toInt32) ||| (32 : Int32)) - (97 : Int32)), .unset] [(.int (((p0.toUInt32.toUInt16.toUInt32.toInt32) ||| (32 : Int32)) - (97 : Int32)))])) _
    refine XS.ifNo X0.here hx rfl (hb hby at_14) rfl ((if0 _ _).trans (flt c3).1) ?_
    show Steps p.tables e below (s₁.setTop (mkF m 17 #[iv p0, iv (p0.toUInt32.toUInt16.toUInt32.toInt32), iv ((p0.toUInt32.toUInt16.toUInt32.toInt32) ||| (32 : Int32)), iv (((p0.toUInt32.toUInt16.toUInt32.toInt32) ||| (32 : Int32)) - (97 : Int32)), .unset] [])) _
    refine XS.iloadN X0.here hx rfl (hb hby at_17) rfl ?_
    show Steps p.tables e below (s₁.setTop (mkF m 18 #[iv p0, iv (p0.toUInt32.toUInt16.toUInt32.toInt32), iv ((p0.toUInt32.toUInt16.toUInt32.toInt32) ||| (32 : Int32)), iv (((p0.toUInt32.toUInt16.toUInt32.toInt32) ||| (32 : Int32)) - (97 : Int32)), .unset] [(.int (((p0.toUInt32.toUInt16.toUInt32.toInt32) ||| (32 : Int32)) - (97 : Int32)))])) _
    refine XS.bipush X0.here hx rfl (hb hby at_18) ?_
    show Steps p.tables e below (s₁.setTop (mkF m 20 #[iv p0, iv (p0.toUInt32.toUInt16.toUInt32.toInt32), iv ((p0.toUInt32.toUInt16.toUInt32.toInt32) ||| (32 : Int32)), iv (((p0.toUInt32.toUInt16.toUInt32.toInt32) ||| (32 : Int32)) - (97 : Int32)), .unset] [(.int 26), (.int (((p0.toUInt32.toUInt16.toUInt32.toInt32) ||| (32 : Int32)) - (97 : Int32)))])) _
    refine XS.icmpYes X0.here hx rfl (pc0 := 20) (pc' := 29) rfl (hb hby at_20) rfl (tlt c4).1 (by decide) (by decide) ?_
    show Steps p.tables e below (s₁.setTop (mkF m 29 #[iv p0, iv (p0.toUInt32.toUInt16.toUInt32.toInt32), iv ((p0.toUInt32.toUInt16.toUInt32.toInt32) ||| (32 : Int32)), iv (((p0.toUInt32.toUInt16.toUInt32.toInt32) ||| (32 : Int32)) - (97 : Int32)), .unset] [])) _
    refine XS.iconst X0.here hx rfl (hb hby at_29) ?_
    show Steps p.tables e below (s₁.setTop (mkF m 30 #[iv p0, iv (p0.toUInt32.toUInt16.toUInt32.toInt32), iv ((p0.toUInt32.toUInt16.toUInt32.toInt32) ||| (32 : Int32)), iv (((p0.toUInt32.toUInt16.toUInt32.toInt32) ||| (32 : Int32)) - (97 : Int32)), .unset] [(.int 1)])) _
    refine XS.goto X0.here hx rfl (pc0 := 30) (pc' := 34) rfl (hb hby at_30) (by decide) (by decide) ?_
    show Steps p.tables e below (s₁.setTop (mkF m 34 #[iv p0, iv (p0.toUInt32.toUInt16.toUInt32.toInt32), iv ((p0.toUInt32.toUInt16.toUInt32.toInt32) ||| (32 : Int32)), iv (((p0.toUInt32.toUInt16.toUInt32.toInt32) ||| (32 : Int32)) - (97 : Int32)), .unset] [(.int 1)])) _
    refine XS.istore X0.here hx rfl (hb hby at_34) rfl (l' := #[iv p0, iv (p0.toUInt32.toUInt16.toUInt32.toInt32), iv ((p0.toUInt32.toUInt16.toUInt32.toInt32) ||| (32 : Int32)), iv (((p0.toUInt32.toUInt16.toUInt32.toInt32) ||| (32 : Int32)) - (97 : Int32)), iv 1]) rfl ?_
    show Steps p.tables e below (s₁.setTop (mkF m 36 #[iv p0, iv (p0.toUInt32.toUInt16.toUInt32.toInt32), iv ((p0.toUInt32.toUInt16.toUInt32.toInt32) ||| (32 : Int32)), iv (((p0.toUInt32.toUInt16.toUInt32.toInt32) ||| (32 : Int32)) - (97 : Int32)), iv 1] [])) _
    refine XS.iloadN X0.here hx rfl (hb hby at_36) rfl ?_
    show Steps p.tables e below (s₁.setTop (mkF m 37 #[iv p0, iv (p0.toUInt32.toUInt16.toUInt32.toInt32), iv ((p0.toUInt32.toUInt16.toUInt32.toInt32) ||| (32 : Int32)), iv (((p0.toUInt32.toUInt16.toUInt32.toInt32) ||| (32 : Int32)) - (97 : Int32)), iv 1] [(.int (p0.toUInt32.toUInt16.toUInt32.toInt32))])) _
    exact k
  refine own_lift sg1 ?_
  show own_Go p.tables e below (s₁.setTop (mkF m 37 #[iv p0, iv (p0.toUInt32.toUInt16.toUInt32.toInt32), iv ((p0.toUInt32.toUInt16.toUInt32.toInt32) ||| (32 : Int32)), iv (((p0.toUInt32.toUInt16.toUInt32.toInt32) ||| (32 : Int32)) - (97 : Int32)), iv 1] [(.int (p0.toUInt32.toUInt16.toUInt32.toInt32))])) _
  obtain ⟨_, _, ⟨T2, Lx2, kx2, nx2⟩, -, X2, ⟨Lc2, hQ2, lx2, yx2, zx2⟩, st2⟩ := Jvm.LawKit.callS X0 hx (y := (⟨"com/example/libprocgraph/libprocgraph/reader/TextCursor", "isNameStart", "(C)Z"⟩ : MethodName)) hown (mvT hZ (wd hw 0 rfl)) (mvT hZ (wd hw 1 rfl)) (mvT hZ (wd hw 2 rfl)) (mvT hZ (wd hw 3 rfl)) (by decide) (backOf (W := 0) (rmIs2 l Z a0 hw [] (p0.toUInt32.toUInt16.toUInt32.toInt32) h0 n0 Z0 c0 c1 c2) hZ (wd hw 3 rfl) (wd hw 2 rfl) (by decide) (by decide)) (g := (mkF m 37 #[iv p0, iv (p0.toUInt32.toUInt16.toUInt32.toInt32), iv ((p0.toUInt32.toUInt16.toUInt32.toInt32) ||| (32 : Int32)), iv (((p0.toUInt32.toUInt16.toUInt32.toInt32) ||| (32 : Int32)) - (97 : Int32)), iv 1] [(.int (p0.toUInt32.toUInt16.toUInt32.toInt32))])) rfl (by rw [hml]; rfl) (argsL := [(.int (p0.toUInt32.toUInt16.toUInt32.toInt32))]) (rest := []) (lenOf pd_0 rfl) rfl (by show 2 * 0 + _ ≤ _; exact Nat.le_of_eq rfl) (hb hby at_37) (fun _ _ => ⟨rfl, e0, (by decide : 0 + 0 ≤ _), (by decide : 0 + 0 ≤ _)⟩)
  dsimp only [Pt.U, Pt.locs, Pt.cells, Pt.slots] at X2 lx2 yx2 zx2 st2 hQ2
  subst lx2 yx2 zx2
  obtain ⟨rfl, N2q, e2⟩ := hQ2
  have N2 := Fr.app N0 N2q
  refine own_lift st2 ?_
  show own_Go p.tables e below (T2.setTop (mkF m 40 #[iv p0, iv (p0.toUInt32.toUInt16.toUInt32.toInt32), iv ((p0.toUInt32.toUInt16.toUInt32.toInt32) ||| (32 : Int32)), iv (((p0.toUInt32.toUInt16.toUInt32.toInt32) ||| (32 : Int32)) - (97 : Int32)), iv 1] [(.int 1)])) _
  have sg3 : ∀ t, Steps p.tables e below (T2.setTop (mkF m 50 #[iv p0, iv (p0.toUInt32.toUInt16.toUInt32.toInt32), iv ((p0.toUInt32.toUInt16.toUInt32.toInt32) ||| (32 : Int32)), iv (((p0.toUInt32.toUInt16.toUInt32.toInt32) ||| (32 : Int32)) - (97 : Int32)), iv 1] [(.int 1)])) t → Steps p.tables e below (T2.setTop (mkF m 40 #[iv p0, iv (p0.toUInt32.toUInt16.toUInt32.toInt32), iv ((p0.toUInt32.toUInt16.toUInt32.toInt32) ||| (32 : Int32)), iv (((p0.toUInt32.toUInt16.toUInt32.toInt32) ||| (32 : Int32)) - (97 : Int32)), iv 1] [(.int 1)])) t := by
    intro t k
    refine XS.iload X2.here hx rfl (hb hby at_40) rfl ?_
    show Steps p.tables e below (T2.setTop (mkF m 42 #[iv p0, iv (p0.toUInt32.toUInt16.toUInt32.toInt32), iv ((p0.toUInt32.toUInt16.toUInt32.toInt32) ||| (32 : Int32)), iv (((p0.toUInt32.toUInt16.toUInt32.toInt32) ||| (32 : Int32)) - (97 : Int32)), iv 1] [(.int 1), (.int 1)])) _
    refine XS.icmpNo X2.here hx rfl (hb hby at_42) rfl (teq (by decide : (1 : Int32) = (1 : Int32))).2 ?_
    show Steps p.tables e below (T2.setTop (mkF m 45 #[iv p0, iv (p0.toUInt32.toUInt16.toUInt32.toInt32), iv ((p0.toUInt32.toUInt16.toUInt32.toInt32) ||| (32 : Int32)), iv (((p0.toUInt32.toUInt16.toUInt32.toInt32) ||| (32 : Int32)) - (97 : Int32)), iv 1] [])) _
    refine XS.iconst X2.here hx rfl (hb hby at_45) ?_
    show Steps p.tables e below (T2.setTop (mkF m 46 #[iv p0, iv (p0.toUInt32.toUInt16.toUInt32.toInt32), iv ((p0.toUInt32.toUInt16.toUInt32.toInt32) ||| (32 : Int32)), iv (((p0.toUInt32.toUInt16.toUInt32.toInt32) ||| (32 : Int32)) - (97 : Int32)), iv 1] [(.int 1)])) _
    refine XS.goto X2.here hx rfl (pc0 := 46) (pc' := 50) rfl (hb hby at_46) (by decide) (by decide) ?_
    show Steps p.tables e below (T2.setTop (mkF m 50 #[iv p0, iv (p0.toUInt32.toUInt16.toUInt32.toInt32), iv ((p0.toUInt32.toUInt16.toUInt32.toInt32) ||| (32 : Int32)), iv (((p0.toUInt32.toUInt16.toUInt32.toInt32) ||| (32 : Int32)) - (97 : Int32)), iv 1] [(.int 1)])) _
    exact k
  refine own_lift sg3 ?_
  show own_Go p.tables e below (T2.setTop (mkF m 50 #[iv p0, iv (p0.toUInt32.toUInt16.toUInt32.toInt32), iv ((p0.toUInt32.toUInt16.toUInt32.toInt32) ||| (32 : Int32)), iv (((p0.toUInt32.toUInt16.toUInt32.toInt32) ||| (32 : Int32)) - (97 : Int32)), iv 1] [(.int 1)])) _
  obtain ⟨fs, hr, hrun, hended, hW, hsame⟩ := X2.leave (v := some (.int 1)) (fun h => by rw [Bd.returns] at h; cases h)
  refine ⟨_, _, ?_, hrun, hended, _, _, rfl, ?_, ⟨_, rfl⟩, hW, hsame.mono (by decide) (by decide)⟩
  · exact retN X2 hx (t := .boolean) Bd.returns (by simp) (hb hby at_50) hr
  · show Q0 Z  h0 n0 _ T2.heap _
    rw [e2]
    exact ⟨rfl, N2⟩
theorem ef_rm0_3 (m : MethodId) (x0 : Int32) : entryFrame m #[(.int x0)] maxLocals = mkF m 0 #[.val (.int x0), .unset, .unset, .unset, .unset] [] := by first | (simp [entryFrame, mkF, argsToLocals, Value.category, maxLocals]; done) | rfl
set_option maxRecDepth 65536 in
set_option maxHeartbeats 40000000 in
theorem rm0_3 (l : Launch) (Z : State) (a0 : Array Value) (hw : ∀ d ∈ tables_1, d.before a0 Z = true) (ws : List Jvm.Cond) (p0 : Int32) (h0 : Heap) (n0 : Nat) (Z0 : n0 ≤ h0.size)  (c0 : (p0.toUInt32.toUInt16.toUInt32.toInt32) < (97 : Int32)) (c1 : ¬ ((p0.toUInt32.toUInt16.toUInt32.toInt32) < (65 : Int32))) (c2 : (90 : Int32) < (p0.toUInt32.toUInt16.toUInt32.toInt32)) (c3 : (p0.toUInt32.toUInt16.toUInt32.toInt32) = (95 : Int32)) (c4 : ¬ ((((p0.toUInt32.toUInt16.toUInt32.toInt32) ||| (32 : Int32)) - (97 : Int32)) < (0 : Int32))) (c5 : ¬ ((((p0.toUInt32.toUInt16.toUInt32.toInt32) ||| (32 : Int32)) - (97 : Int32)) < (26 : Int32))) :
    MetFree l x (head1 (Jvm.Cond.code x code maxLocals ret :: ws) room_1) (fun a U => a = #[(.int p0)] ∧ Z.Warmed39 U.vm ∧ U.heap = h0) (fun _ _ _ _ _ => True) (fun _ U o U' => ∃ v L, o = .returned v ∧ Q0 Z  h0 n0 v U'.heap L ∧ FrameEnd U o U' L 0 0) := by
  refine MetFree.of_bodySF (plainFor_of_name pn_1) hisR ?_
  intro p e s m args below meth c s₁ Bd hml0 hP hK
  obtain ⟨rfl, hZ, hh⟩ := hP
  have hx := Bd.exec
  have hby := Bd.bytes
  have hml : c.maxLocals = 5 := hml0
  have hown : s.vm.findClass "com/example/libprocgraph/libprocgraph/reader/TextCursorIsNameStartPinLaw" = some m.cls := findClass_of_methodNamed Bd.named
  have hnm := (name_of_methodNamed Bd.named Bd.method).1
  have X0 : Stand p l e room_1 s m #[(.int p0)] below meth c s₁ [] 0 0 := Stand.of_body Bd
  have e0 : s₁.heap = h0 := by rw [← hh, Bd.state]; rfl
  have N0 := Fr.nil n0
  refine own_go (own_lift (fun t k => castTop (ef_rm0_3 m p0) k) ?_)
  show own_Go p.tables e below (s₁.setTop (mkF m 0 #[iv p0, .unset, .unset, .unset, .unset] [])) _
  have sg1 : ∀ t, Steps p.tables e below (s₁.setTop (mkF m 37 #[iv p0, iv (p0.toUInt32.toUInt16.toUInt32.toInt32), iv ((p0.toUInt32.toUInt16.toUInt32.toInt32) ||| (32 : Int32)), iv (((p0.toUInt32.toUInt16.toUInt32.toInt32) ||| (32 : Int32)) - (97 : Int32)), iv 1] [(.int (p0.toUInt32.toUInt16.toUInt32.toInt32))])) t → Steps p.tables e below (s₁.setTop (mkF m 0 #[iv p0, .unset, .unset, .unset, .unset] [])) t := by
    intro t k
    refine XS.iloadN X0.here hx rfl (hb hby at_0) rfl ?_
    show Steps p.tables e below (s₁.setTop (mkF m 1 #[iv p0, .unset, .unset, .unset, .unset] [(.int p0)])) _
    refine XS.i2c X0.here hx rfl (hb hby at_1) rfl ?_
    show Steps p.tables e below (s₁.setTop (mkF m 2 #[iv p0, .unset, .unset, .unset, .unset] [(.int (p0.toUInt32.toUInt16.toUInt32.toInt32))])) _
    refine XS.istoreN X0.here hx rfl (hb hby at_2) rfl (l' := #[iv p0, iv (p0.toUInt32.toUInt16.toUInt32.toInt32), .unset, .unset, .unset]) rfl ?_
    show Steps p.tables e below (s₁.setTop (mkF m 3 #[iv p0, iv (p0.toUInt32.toUInt16.toUInt32.toInt32), .unset, .unset, .unset] [])) _
    refine XS.iloadN X0.here hx rfl (hb hby at_3) rfl ?_
    show Steps p.tables e below (s₁.setTop (mkF m 4 #[iv p0, iv (p0.toUInt32.toUInt16.toUInt32.toInt32), .unset, .unset, .unset] [(.int (p0.toUInt32.toUInt16.toUInt32.toInt32))])) _
    refine XS.bipush X0.here hx rfl (hb hby at_4) ?_
    show Steps p.tables e below (s₁.setTop (mkF m 6 #[iv p0, iv (p0.toUInt32.toUInt16.toUInt32.toInt32), .unset, .unset, .unset] [(.int 32), (.int (p0.toUInt32.toUInt16.toUInt32.toInt32))])) _
    refine XS.ior X0.here hx rfl (hb hby at_6) rfl ?_
    show Steps p.tables e below (s₁.setTop (mkF m 7 #[iv p0, iv (p0.toUInt32.toUInt16.toUInt32.toInt32), .unset, .unset, .unset] [(.int ((p0.toUInt32.toUInt16.toUInt32.toInt32) ||| (32 : Int32)))])) _
    refine XS.istoreN X0.here hx rfl (hb hby at_7) rfl (l' := #[iv p0, iv (p0.toUInt32.toUInt16.toUInt32.toInt32), iv ((p0.toUInt32.toUInt16.toUInt32.toInt32) ||| (32 : Int32)), .unset, .unset]) rfl ?_
    show Steps p.tables e below (s₁.setTop (mkF m 8 #[iv p0, iv (p0.toUInt32.toUInt16.toUInt32.toInt32), iv ((p0.toUInt32.toUInt16.toUInt32.toInt32) ||| (32 : Int32)), .unset, .unset] [])) _
    refine XS.iloadN X0.here hx rfl (hb hby at_8) rfl ?_
    show Steps p.tables e below (s₁.setTop (mkF m 9 #[iv p0, iv (p0.toUInt32.toUInt16.toUInt32.toInt32), iv ((p0.toUInt32.toUInt16.toUInt32.toInt32) ||| (32 : Int32)), .unset, .unset] [(.int ((p0.toUInt32.toUInt16.toUInt32.toInt32) ||| (32 : Int32)))])) _
    refine XS.bipush X0.here hx rfl (hb hby at_9) ?_
    show Steps p.tables e below (s₁.setTop (mkF m 11 #[iv p0, iv (p0.toUInt32.toUInt16.toUInt32.toInt32), iv ((p0.toUInt32.toUInt16.toUInt32.toInt32) ||| (32 : Int32)), .unset, .unset] [(.int 97), (.int ((p0.toUInt32.toUInt16.toUInt32.toInt32) ||| (32 : Int32)))])) _
    refine XS.isub X0.here hx rfl (hb hby at_11) rfl ?_
    show Steps p.tables e below (s₁.setTop (mkF m 12 #[iv p0, iv (p0.toUInt32.toUInt16.toUInt32.toInt32), iv ((p0.toUInt32.toUInt16.toUInt32.toInt32) ||| (32 : Int32)), .unset, .unset] [(.int (((p0.toUInt32.toUInt16.toUInt32.toInt32) ||| (32 : Int32)) - (97 : Int32)))])) _
    refine XS.istoreN X0.here hx rfl (hb hby at_12) rfl (l' := #[iv p0, iv (p0.toUInt32.toUInt16.toUInt32.toInt32), iv ((p0.toUInt32.toUInt16.toUInt32.toInt32) ||| (32 : Int32)), iv (((p0.toUInt32.toUInt16.toUInt32.toInt32) ||| (32 : Int32)) - (97 : Int32)), .unset]) rfl ?_
    show Steps p.tables e below (s₁.setTop (mkF m 13 #[iv p0, iv (p0.toUInt32.toUInt16.toUInt32.toInt32), iv ((p0.toUInt32.toUInt16.toUInt32.toInt32) ||| (32 : Int32)), iv (((p0.toUInt32.toUInt16.toUInt32.toInt32) ||| (32 : Int32)) - (97 : Int32)), .unset] [])) _
    refine XS.iloadN X0.here hx rfl (hb hby at_13) rfl ?_
    show Steps p.tables e below (s₁.setTop (mkF m 14 #[iv p0, iv (p0.toUInt32.toUInt16.toUInt32.toInt32), iv ((p0.toUInt32.toUInt16.toUInt32.toInt32) ||| (32 : Int32)), iv (((p0.toUInt32.toUInt16.toUInt32.toInt32) ||| (32 : Int32)) - (97 : Int32)), .unset] [(.int (((p0.toUInt32.toUInt16.toUInt32.toInt32) ||| (32 : Int32)) - (97 : Int32)))])) _
    refine XS.ifNo X0.here hx rfl (hb hby at_14) rfl ((if0 _ _).trans (flt c4).1) ?_
    show Steps p.tables e below (s₁.setTop (mkF m 17 #[iv p0, iv (p0.toUInt32.toUInt16.toUInt32.toInt32), iv ((p0.toUInt32.toUInt16.toUInt32.toInt32) ||| (32 : Int32)), iv (((p0.toUInt32.toUInt16.toUInt32.toInt32) ||| (32 : Int32)) - (97 : Int32)), .unset] [])) _
    refine XS.iloadN X0.here hx rfl (hb hby at_17) rfl ?_
    show Steps p.tables e below (s₁.setTop (mkF m 18 #[iv p0, iv (p0.toUInt32.toUInt16.toUInt32.toInt32), iv ((p0.toUInt32.toUInt16.toUInt32.toInt32) ||| (32 : Int32)), iv (((p0.toUInt32.toUInt16.toUInt32.toInt32) ||| (32 : Int32)) - (97 : Int32)), .unset] [(.int (((p0.toUInt32.toUInt16.toUInt32.toInt32) ||| (32 : Int32)) - (97 : Int32)))])) _
    refine XS.bipush X0.here hx rfl (hb hby at_18) ?_
    show Steps p.tables e below (s₁.setTop (mkF m 20 #[iv p0, iv (p0.toUInt32.toUInt16.toUInt32.toInt32), iv ((p0.toUInt32.toUInt16.toUInt32.toInt32) ||| (32 : Int32)), iv (((p0.toUInt32.toUInt16.toUInt32.toInt32) ||| (32 : Int32)) - (97 : Int32)), .unset] [(.int 26), (.int (((p0.toUInt32.toUInt16.toUInt32.toInt32) ||| (32 : Int32)) - (97 : Int32)))])) _
    refine XS.icmpNo X0.here hx rfl (hb hby at_20) rfl (flt c5).1 ?_
    show Steps p.tables e below (s₁.setTop (mkF m 23 #[iv p0, iv (p0.toUInt32.toUInt16.toUInt32.toInt32), iv ((p0.toUInt32.toUInt16.toUInt32.toInt32) ||| (32 : Int32)), iv (((p0.toUInt32.toUInt16.toUInt32.toInt32) ||| (32 : Int32)) - (97 : Int32)), .unset] [])) _
    refine XS.iloadN X0.here hx rfl (hb hby at_23) rfl ?_
    show Steps p.tables e below (s₁.setTop (mkF m 24 #[iv p0, iv (p0.toUInt32.toUInt16.toUInt32.toInt32), iv ((p0.toUInt32.toUInt16.toUInt32.toInt32) ||| (32 : Int32)), iv (((p0.toUInt32.toUInt16.toUInt32.toInt32) ||| (32 : Int32)) - (97 : Int32)), .unset] [(.int (p0.toUInt32.toUInt16.toUInt32.toInt32))])) _
    refine XS.bipush X0.here hx rfl (hb hby at_24) ?_
    show Steps p.tables e below (s₁.setTop (mkF m 26 #[iv p0, iv (p0.toUInt32.toUInt16.toUInt32.toInt32), iv ((p0.toUInt32.toUInt16.toUInt32.toInt32) ||| (32 : Int32)), iv (((p0.toUInt32.toUInt16.toUInt32.toInt32) ||| (32 : Int32)) - (97 : Int32)), .unset] [(.int 95), (.int (p0.toUInt32.toUInt16.toUInt32.toInt32))])) _
    refine XS.icmpNo X0.here hx rfl (hb hby at_26) rfl (teq c3).2 ?_
    show Steps p.tables e below (s₁.setTop (mkF m 29 #[iv p0, iv (p0.toUInt32.toUInt16.toUInt32.toInt32), iv ((p0.toUInt32.toUInt16.toUInt32.toInt32) ||| (32 : Int32)), iv (((p0.toUInt32.toUInt16.toUInt32.toInt32) ||| (32 : Int32)) - (97 : Int32)), .unset] [])) _
    refine XS.iconst X0.here hx rfl (hb hby at_29) ?_
    show Steps p.tables e below (s₁.setTop (mkF m 30 #[iv p0, iv (p0.toUInt32.toUInt16.toUInt32.toInt32), iv ((p0.toUInt32.toUInt16.toUInt32.toInt32) ||| (32 : Int32)), iv (((p0.toUInt32.toUInt16.toUInt32.toInt32) ||| (32 : Int32)) - (97 : Int32)), .unset] [(.int 1)])) _
    refine XS.goto X0.here hx rfl (pc0 := 30) (pc' := 34) rfl (hb hby at_30) (by decide) (by decide) ?_
    show Steps p.tables e below (s₁.setTop (mkF m 34 #[iv p0, iv (p0.toUInt32.toUInt16.toUInt32.toInt32), iv ((p0.toUInt32.toUInt16.toUInt32.toInt32) ||| (32 : Int32)), iv (((p0.toUInt32.toUInt16.toUInt32.toInt32) ||| (32 : Int32)) - (97 : Int32)), .unset] [(.int 1)])) _
    refine XS.istore X0.here hx rfl (hb hby at_34) rfl (l' := #[iv p0, iv (p0.toUInt32.toUInt16.toUInt32.toInt32), iv ((p0.toUInt32.toUInt16.toUInt32.toInt32) ||| (32 : Int32)), iv (((p0.toUInt32.toUInt16.toUInt32.toInt32) ||| (32 : Int32)) - (97 : Int32)), iv 1]) rfl ?_
    show Steps p.tables e below (s₁.setTop (mkF m 36 #[iv p0, iv (p0.toUInt32.toUInt16.toUInt32.toInt32), iv ((p0.toUInt32.toUInt16.toUInt32.toInt32) ||| (32 : Int32)), iv (((p0.toUInt32.toUInt16.toUInt32.toInt32) ||| (32 : Int32)) - (97 : Int32)), iv 1] [])) _
    refine XS.iloadN X0.here hx rfl (hb hby at_36) rfl ?_
    show Steps p.tables e below (s₁.setTop (mkF m 37 #[iv p0, iv (p0.toUInt32.toUInt16.toUInt32.toInt32), iv ((p0.toUInt32.toUInt16.toUInt32.toInt32) ||| (32 : Int32)), iv (((p0.toUInt32.toUInt16.toUInt32.toInt32) ||| (32 : Int32)) - (97 : Int32)), iv 1] [(.int (p0.toUInt32.toUInt16.toUInt32.toInt32))])) _
    exact k
  refine own_lift sg1 ?_
  show own_Go p.tables e below (s₁.setTop (mkF m 37 #[iv p0, iv (p0.toUInt32.toUInt16.toUInt32.toInt32), iv ((p0.toUInt32.toUInt16.toUInt32.toInt32) ||| (32 : Int32)), iv (((p0.toUInt32.toUInt16.toUInt32.toInt32) ||| (32 : Int32)) - (97 : Int32)), iv 1] [(.int (p0.toUInt32.toUInt16.toUInt32.toInt32))])) _
  obtain ⟨_, _, ⟨T2, Lx2, kx2, nx2⟩, -, X2, ⟨Lc2, hQ2, lx2, yx2, zx2⟩, st2⟩ := Jvm.LawKit.callS X0 hx (y := (⟨"com/example/libprocgraph/libprocgraph/reader/TextCursor", "isNameStart", "(C)Z"⟩ : MethodName)) hown (mvT hZ (wd hw 0 rfl)) (mvT hZ (wd hw 1 rfl)) (mvT hZ (wd hw 2 rfl)) (mvT hZ (wd hw 3 rfl)) (by decide) (backOf (W := 0) (rmIs3 l Z a0 hw [] (p0.toUInt32.toUInt16.toUInt32.toInt32) h0 n0 Z0 c0 c1 c2 c3) hZ (wd hw 3 rfl) (wd hw 2 rfl) (by decide) (by decide)) (g := (mkF m 37 #[iv p0, iv (p0.toUInt32.toUInt16.toUInt32.toInt32), iv ((p0.toUInt32.toUInt16.toUInt32.toInt32) ||| (32 : Int32)), iv (((p0.toUInt32.toUInt16.toUInt32.toInt32) ||| (32 : Int32)) - (97 : Int32)), iv 1] [(.int (p0.toUInt32.toUInt16.toUInt32.toInt32))])) rfl (by rw [hml]; rfl) (argsL := [(.int (p0.toUInt32.toUInt16.toUInt32.toInt32))]) (rest := []) (lenOf pd_0 rfl) rfl (by show 2 * 0 + _ ≤ _; exact Nat.le_of_eq rfl) (hb hby at_37) (fun _ _ => ⟨rfl, e0, (by decide : 0 + 0 ≤ _), (by decide : 0 + 0 ≤ _)⟩)
  dsimp only [Pt.U, Pt.locs, Pt.cells, Pt.slots] at X2 lx2 yx2 zx2 st2 hQ2
  subst lx2 yx2 zx2
  obtain ⟨rfl, N2q, e2⟩ := hQ2
  have N2 := Fr.app N0 N2q
  refine own_lift st2 ?_
  show own_Go p.tables e below (T2.setTop (mkF m 40 #[iv p0, iv (p0.toUInt32.toUInt16.toUInt32.toInt32), iv ((p0.toUInt32.toUInt16.toUInt32.toInt32) ||| (32 : Int32)), iv (((p0.toUInt32.toUInt16.toUInt32.toInt32) ||| (32 : Int32)) - (97 : Int32)), iv 1] [(.int 1)])) _
  have sg3 : ∀ t, Steps p.tables e below (T2.setTop (mkF m 50 #[iv p0, iv (p0.toUInt32.toUInt16.toUInt32.toInt32), iv ((p0.toUInt32.toUInt16.toUInt32.toInt32) ||| (32 : Int32)), iv (((p0.toUInt32.toUInt16.toUInt32.toInt32) ||| (32 : Int32)) - (97 : Int32)), iv 1] [(.int 1)])) t → Steps p.tables e below (T2.setTop (mkF m 40 #[iv p0, iv (p0.toUInt32.toUInt16.toUInt32.toInt32), iv ((p0.toUInt32.toUInt16.toUInt32.toInt32) ||| (32 : Int32)), iv (((p0.toUInt32.toUInt16.toUInt32.toInt32) ||| (32 : Int32)) - (97 : Int32)), iv 1] [(.int 1)])) t := by
    intro t k
    refine XS.iload X2.here hx rfl (hb hby at_40) rfl ?_
    show Steps p.tables e below (T2.setTop (mkF m 42 #[iv p0, iv (p0.toUInt32.toUInt16.toUInt32.toInt32), iv ((p0.toUInt32.toUInt16.toUInt32.toInt32) ||| (32 : Int32)), iv (((p0.toUInt32.toUInt16.toUInt32.toInt32) ||| (32 : Int32)) - (97 : Int32)), iv 1] [(.int 1), (.int 1)])) _
    refine XS.icmpNo X2.here hx rfl (hb hby at_42) rfl (teq (by decide : (1 : Int32) = (1 : Int32))).2 ?_
    show Steps p.tables e below (T2.setTop (mkF m 45 #[iv p0, iv (p0.toUInt32.toUInt16.toUInt32.toInt32), iv ((p0.toUInt32.toUInt16.toUInt32.toInt32) ||| (32 : Int32)), iv (((p0.toUInt32.toUInt16.toUInt32.toInt32) ||| (32 : Int32)) - (97 : Int32)), iv 1] [])) _
    refine XS.iconst X2.here hx rfl (hb hby at_45) ?_
    show Steps p.tables e below (T2.setTop (mkF m 46 #[iv p0, iv (p0.toUInt32.toUInt16.toUInt32.toInt32), iv ((p0.toUInt32.toUInt16.toUInt32.toInt32) ||| (32 : Int32)), iv (((p0.toUInt32.toUInt16.toUInt32.toInt32) ||| (32 : Int32)) - (97 : Int32)), iv 1] [(.int 1)])) _
    refine XS.goto X2.here hx rfl (pc0 := 46) (pc' := 50) rfl (hb hby at_46) (by decide) (by decide) ?_
    show Steps p.tables e below (T2.setTop (mkF m 50 #[iv p0, iv (p0.toUInt32.toUInt16.toUInt32.toInt32), iv ((p0.toUInt32.toUInt16.toUInt32.toInt32) ||| (32 : Int32)), iv (((p0.toUInt32.toUInt16.toUInt32.toInt32) ||| (32 : Int32)) - (97 : Int32)), iv 1] [(.int 1)])) _
    exact k
  refine own_lift sg3 ?_
  show own_Go p.tables e below (T2.setTop (mkF m 50 #[iv p0, iv (p0.toUInt32.toUInt16.toUInt32.toInt32), iv ((p0.toUInt32.toUInt16.toUInt32.toInt32) ||| (32 : Int32)), iv (((p0.toUInt32.toUInt16.toUInt32.toInt32) ||| (32 : Int32)) - (97 : Int32)), iv 1] [(.int 1)])) _
  obtain ⟨fs, hr, hrun, hended, hW, hsame⟩ := X2.leave (v := some (.int 1)) (fun h => by rw [Bd.returns] at h; cases h)
  refine ⟨_, _, ?_, hrun, hended, _, _, rfl, ?_, ⟨_, rfl⟩, hW, hsame.mono (by decide) (by decide)⟩
  · exact retN X2 hx (t := .boolean) Bd.returns (by simp) (hb hby at_50) hr
  · show Q0 Z  h0 n0 _ T2.heap _
    rw [e2]
    exact ⟨rfl, N2⟩
theorem ef_rm0_4 (m : MethodId) (x0 : Int32) : entryFrame m #[(.int x0)] maxLocals = mkF m 0 #[.val (.int x0), .unset, .unset, .unset, .unset] [] := by first | (simp [entryFrame, mkF, argsToLocals, Value.category, maxLocals]; done) | rfl
set_option maxRecDepth 65536 in
set_option maxHeartbeats 40000000 in
theorem rm0_4 (l : Launch) (Z : State) (a0 : Array Value) (hw : ∀ d ∈ tables_1, d.before a0 Z = true) (ws : List Jvm.Cond) (p0 : Int32) (h0 : Heap) (n0 : Nat) (Z0 : n0 ≤ h0.size)  (c0 : (p0.toUInt32.toUInt16.toUInt32.toInt32) < (97 : Int32)) (c1 : ¬ ((p0.toUInt32.toUInt16.toUInt32.toInt32) < (65 : Int32))) (c2 : (90 : Int32) < (p0.toUInt32.toUInt16.toUInt32.toInt32)) (c3 : ¬ ((p0.toUInt32.toUInt16.toUInt32.toInt32) = (95 : Int32))) (c4 : ¬ ((((p0.toUInt32.toUInt16.toUInt32.toInt32) ||| (32 : Int32)) - (97 : Int32)) < (0 : Int32))) (c5 : ¬ ((((p0.toUInt32.toUInt16.toUInt32.toInt32) ||| (32 : Int32)) - (97 : Int32)) < (26 : Int32))) :
    MetFree l x (head1 (Jvm.Cond.code x code maxLocals ret :: ws) room_1) (fun a U => a = #[(.int p0)] ∧ Z.Warmed39 U.vm ∧ U.heap = h0) (fun _ _ _ _ _ => True) (fun _ U o U' => ∃ v L, o = .returned v ∧ Q0 Z  h0 n0 v U'.heap L ∧ FrameEnd U o U' L 0 0) := by
  refine MetFree.of_bodySF (plainFor_of_name pn_1) hisR ?_
  intro p e s m args below meth c s₁ Bd hml0 hP hK
  obtain ⟨rfl, hZ, hh⟩ := hP
  have hx := Bd.exec
  have hby := Bd.bytes
  have hml : c.maxLocals = 5 := hml0
  have hown : s.vm.findClass "com/example/libprocgraph/libprocgraph/reader/TextCursorIsNameStartPinLaw" = some m.cls := findClass_of_methodNamed Bd.named
  have hnm := (name_of_methodNamed Bd.named Bd.method).1
  have X0 : Stand p l e room_1 s m #[(.int p0)] below meth c s₁ [] 0 0 := Stand.of_body Bd
  have e0 : s₁.heap = h0 := by rw [← hh, Bd.state]; rfl
  have N0 := Fr.nil n0
  refine own_go (own_lift (fun t k => castTop (ef_rm0_4 m p0) k) ?_)
  show own_Go p.tables e below (s₁.setTop (mkF m 0 #[iv p0, .unset, .unset, .unset, .unset] [])) _
  have sg1 : ∀ t, Steps p.tables e below (s₁.setTop (mkF m 37 #[iv p0, iv (p0.toUInt32.toUInt16.toUInt32.toInt32), iv ((p0.toUInt32.toUInt16.toUInt32.toInt32) ||| (32 : Int32)), iv (((p0.toUInt32.toUInt16.toUInt32.toInt32) ||| (32 : Int32)) - (97 : Int32)), iv 0] [(.int (p0.toUInt32.toUInt16.toUInt32.toInt32))])) t → Steps p.tables e below (s₁.setTop (mkF m 0 #[iv p0, .unset, .unset, .unset, .unset] [])) t := by
    intro t k
    refine XS.iloadN X0.here hx rfl (hb hby at_0) rfl ?_
    show Steps p.tables e below (s₁.setTop (mkF m 1 #[iv p0, .unset, .unset, .unset, .unset] [(.int p0)])) _
    refine XS.i2c X0.here hx rfl (hb hby at_1) rfl ?_
    show Steps p.tables e below (s₁.setTop (mkF m 2 #[iv p0, .unset, .unset, .unset, .unset] [(.int (p0.toUInt32.toUInt16.toUInt32.toInt32))])) _
    refine XS.istoreN X0.here hx rfl (hb hby at_2) rfl (l' := #[iv p0, iv (p0.toUInt32.toUInt16.toUInt32.toInt32), .unset, .unset, .unset]) rfl ?_
    show Steps p.tables e below (s₁.setTop (mkF m 3 #[iv p0, iv (p0.toUInt32.toUInt16.toUInt32.toInt32), .unset, .unset, .unset] [])) _
    refine XS.iloadN X0.here hx rfl (hb hby at_3) rfl ?_
    show Steps p.tables e below (s₁.setTop (mkF m 4 #[iv p0, iv (p0.toUInt32.toUInt16.toUInt32.toInt32), .unset, .unset, .unset] [(.int (p0.toUInt32.toUInt16.toUInt32.toInt32))])) _
    refine XS.bipush X0.here hx rfl (hb hby at_4) ?_
    show Steps p.tables e below (s₁.setTop (mkF m 6 #[iv p0, iv (p0.toUInt32.toUInt16.toUInt32.toInt32), .unset, .unset, .unset] [(.int 32), (.int (p0.toUInt32.toUInt16.toUInt32.toInt32))])) _
    refine XS.ior X0.here hx rfl (hb hby at_6) rfl ?_
    show Steps p.tables e below (s₁.setTop (mkF m 7 #[iv p0, iv (p0.toUInt32.toUInt16.toUInt32.toInt32), .unset, .unset, .unset] [(.int ((p0.toUInt32.toUInt16.toUInt32.toInt32) ||| (32 : Int32)))])) _
    refine XS.istoreN X0.here hx rfl (hb hby at_7) rfl (l' := #[iv p0, iv (p0.toUInt32.toUInt16.toUInt32.toInt32), iv ((p0.toUInt32.toUInt16.toUInt32.toInt32) ||| (32 : Int32)), .unset, .unset]) rfl ?_
    show Steps p.tables e below (s₁.setTop (mkF m 8 #[iv p0, iv (p0.toUInt32.toUInt16.toUInt32.toInt32), iv ((p0.toUInt32.toUInt16.toUInt32.toInt32) ||| (32 : Int32)), .unset, .unset] [])) _
    refine XS.iloadN X0.here hx rfl (hb hby at_8) rfl ?_
    show Steps p.tables e below (s₁.setTop (mkF m 9 #[iv p0, iv (p0.toUInt32.toUInt16.toUInt32.toInt32), iv ((p0.toUInt32.toUInt16.toUInt32.toInt32) ||| (32 : Int32)), .unset, .unset] [(.int ((p0.toUInt32.toUInt16.toUInt32.toInt32) ||| (32 : Int32)))])) _
    refine XS.bipush X0.here hx rfl (hb hby at_9) ?_
    show Steps p.tables e below (s₁.setTop (mkF m 11 #[iv p0, iv (p0.toUInt32.toUInt16.toUInt32.toInt32), iv ((p0.toUInt32.toUInt16.toUInt32.toInt32) ||| (32 : Int32)), .unset, .unset] [(.int 97), (.int ((p0.toUInt32.toUInt16.toUInt32.toInt32) ||| (32 : Int32)))])) _
    refine XS.isub X0.here hx rfl (hb hby at_11) rfl ?_
    show Steps p.tables e below (s₁.setTop (mkF m 12 #[iv p0, iv (p0.toUInt32.toUInt16.toUInt32.toInt32), iv ((p0.toUInt32.toUInt16.toUInt32.toInt32) ||| (32 : Int32)), .unset, .unset] [(.int (((p0.toUInt32.toUInt16.toUInt32.toInt32) ||| (32 : Int32)) - (97 : Int32)))])) _
    refine XS.istoreN X0.here hx rfl (hb hby at_12) rfl (l' := #[iv p0, iv (p0.toUInt32.toUInt16.toUInt32.toInt32), iv ((p0.toUInt32.toUInt16.toUInt32.toInt32) ||| (32 : Int32)), iv (((p0.toUInt32.toUInt16.toUInt32.toInt32) ||| (32 : Int32)) - (97 : Int32)), .unset]) rfl ?_
    show Steps p.tables e below (s₁.setTop (mkF m 13 #[iv p0, iv (p0.toUInt32.toUInt16.toUInt32.toInt32), iv ((p0.toUInt32.toUInt16.toUInt32.toInt32) ||| (32 : Int32)), iv (((p0.toUInt32.toUInt16.toUInt32.toInt32) ||| (32 : Int32)) - (97 : Int32)), .unset] [])) _
    refine XS.iloadN X0.here hx rfl (hb hby at_13) rfl ?_
    show Steps p.tables e below (s₁.setTop (mkF m 14 #[iv p0, iv (p0.toUInt32.toUInt16.toUInt32.toInt32), iv ((p0.toUInt32.toUInt16.toUInt32.toInt32) ||| (32 : Int32)), iv (((p0.toUInt32.toUInt16.toUInt32.toInt32) ||| (32 : Int32)) - (97 : Int32)), .unset] [(.int (((p0.toUInt32.toUInt16.toUInt32.toInt32) ||| (32 : Int32)) - (97 : Int32)))])) _
    refine XS.ifNo X0.here hx rfl (hb hby at_14) rfl ((if0 _ _).trans (flt c4).1) ?_
    show Steps p.tables e below (s₁.setTop (mkF m 17 #[iv p0, iv (p0.toUInt32.toUInt16.toUInt32.toInt32), iv ((p0.toUInt32.toUInt16.toUInt32.toInt32) ||| (32 : Int32)), iv (((p0.toUInt32.toUInt16.toUInt32.toInt32) ||| (32 : Int32)) - (97 : Int32)), .unset] [])) _
    refine XS.iloadN X0.here hx rfl (hb hby at_17) rfl ?_
    show Steps p.tables e below (s₁.setTop (mkF m 18 #[iv p0, iv (p0.toUInt32.toUInt16.toUInt32.toInt32), iv ((p0.toUInt32.toUInt16.toUInt32.toInt32) ||| (32 : Int32)), iv (((p0.toUInt32.toUInt16.toUInt32.toInt32) ||| (32 : Int32)) - (97 : Int32)), .unset] [(.int (((p0.toUInt32.toUInt16.toUInt32.toInt32) ||| (32 : Int32)) - (97 : Int32)))])) _
    refine XS.bipush X0.here hx rfl (hb hby at_18) ?_
    show Steps p.tables e below (s₁.setTop (mkF m 20 #[iv p0, iv (p0.toUInt32.toUInt16.toUInt32.toInt32), iv ((p0.toUInt32.toUInt16.toUInt32.toInt32) ||| (32 : Int32)), iv (((p0.toUInt32.toUInt16.toUInt32.toInt32) ||| (32 : Int32)) - (97 : Int32)), .unset] [(.int 26), (.int (((p0.toUInt32.toUInt16.toUInt32.toInt32) ||| (32 : Int32)) - (97 : Int32)))])) _
    refine XS.icmpNo X0.here hx rfl (hb hby at_20) rfl (flt c5).1 ?_
    show Steps p.tables e below (s₁.setTop (mkF m 23 #[iv p0, iv (p0.toUInt32.toUInt16.toUInt32.toInt32), iv ((p0.toUInt32.toUInt16.toUInt32.toInt32) ||| (32 : Int32)), iv (((p0.toUInt32.toUInt16.toUInt32.toInt32) ||| (32 : Int32)) - (97 : Int32)), .unset] [])) _
    refine XS.iloadN X0.here hx rfl (hb hby at_23) rfl ?_
    show Steps p.tables e below (s₁.setTop (mkF m 24 #[iv p0, iv (p0.toUInt32.toUInt16.toUInt32.toInt32), iv ((p0.toUInt32.toUInt16.toUInt32.toInt32) ||| (32 : Int32)), iv (((p0.toUInt32.toUInt16.toUInt32.toInt32) ||| (32 : Int32)) - (97 : Int32)), .unset] [(.int (p0.toUInt32.toUInt16.toUInt32.toInt32))])) _
    refine XS.bipush X0.here hx rfl (hb hby at_24) ?_
    show Steps p.tables e below (s₁.setTop (mkF m 26 #[iv p0, iv (p0.toUInt32.toUInt16.toUInt32.toInt32), iv ((p0.toUInt32.toUInt16.toUInt32.toInt32) ||| (32 : Int32)), iv (((p0.toUInt32.toUInt16.toUInt32.toInt32) ||| (32 : Int32)) - (97 : Int32)), .unset] [(.int 95), (.int (p0.toUInt32.toUInt16.toUInt32.toInt32))])) _
    refine XS.icmpYes X0.here hx rfl (pc0 := 26) (pc' := 33) rfl (hb hby at_26) rfl (feq c3).2 (by decide) (by decide) ?_
    show Steps p.tables e below (s₁.setTop (mkF m 33 #[iv p0, iv (p0.toUInt32.toUInt16.toUInt32.toInt32), iv ((p0.toUInt32.toUInt16.toUInt32.toInt32) ||| (32 : Int32)), iv (((p0.toUInt32.toUInt16.toUInt32.toInt32) ||| (32 : Int32)) - (97 : Int32)), .unset] [])) _
    refine XS.iconst X0.here hx rfl (hb hby at_33) ?_
    show Steps p.tables e below (s₁.setTop (mkF m 34 #[iv p0, iv (p0.toUInt32.toUInt16.toUInt32.toInt32), iv ((p0.toUInt32.toUInt16.toUInt32.toInt32) ||| (32 : Int32)), iv (((p0.toUInt32.toUInt16.toUInt32.toInt32) ||| (32 : Int32)) - (97 : Int32)), .unset] [(.int 0)])) _
    refine XS.istore X0.here hx rfl (hb hby at_34) rfl (l' := #[iv p0, iv (p0.toUInt32.toUInt16.toUInt32.toInt32), iv ((p0.toUInt32.toUInt16.toUInt32.toInt32) ||| (32 : Int32)), iv (((p0.toUInt32.toUInt16.toUInt32.toInt32) ||| (32 : Int32)) - (97 : Int32)), iv 0]) rfl ?_
    show Steps p.tables e below (s₁.setTop (mkF m 36 #[iv p0, iv (p0.toUInt32.toUInt16.toUInt32.toInt32), iv ((p0.toUInt32.toUInt16.toUInt32.toInt32) ||| (32 : Int32)), iv (((p0.toUInt32.toUInt16.toUInt32.toInt32) ||| (32 : Int32)) - (97 : Int32)), iv 0] [])) _
    refine XS.iloadN X0.here hx rfl (hb hby at_36) rfl ?_
    show Steps p.tables e below (s₁.setTop (mkF m 37 #[iv p0, iv (p0.toUInt32.toUInt16.toUInt32.toInt32), iv ((p0.toUInt32.toUInt16.toUInt32.toInt32) ||| (32 : Int32)), iv (((p0.toUInt32.toUInt16.toUInt32.toInt32) ||| (32 : Int32)) - (97 : Int32)), iv 0] [(.int (p0.toUInt32.toUInt16.toUInt32.toInt32))])) _
    exact k
  refine own_lift sg1 ?_
  show own_Go p.tables e below (s₁.setTop (mkF m 37 #[iv p0, iv (p0.toUInt32.toUInt16.toUInt32.toInt32), iv ((p0.toUInt32.toUInt16.toUInt32.toInt32) ||| (32 : Int32)), iv (((p0.toUInt32.toUInt16.toUInt32.toInt32) ||| (32 : Int32)) - (97 : Int32)), iv 0] [(.int (p0.toUInt32.toUInt16.toUInt32.toInt32))])) _
  obtain ⟨_, _, ⟨T2, Lx2, kx2, nx2⟩, -, X2, ⟨Lc2, hQ2, lx2, yx2, zx2⟩, st2⟩ := Jvm.LawKit.callS X0 hx (y := (⟨"com/example/libprocgraph/libprocgraph/reader/TextCursor", "isNameStart", "(C)Z"⟩ : MethodName)) hown (mvT hZ (wd hw 0 rfl)) (mvT hZ (wd hw 1 rfl)) (mvT hZ (wd hw 2 rfl)) (mvT hZ (wd hw 3 rfl)) (by decide) (backOf (W := 0) (rmIs4 l Z a0 hw [] (p0.toUInt32.toUInt16.toUInt32.toInt32) h0 n0 Z0 c0 c1 c2 c3) hZ (wd hw 3 rfl) (wd hw 2 rfl) (by decide) (by decide)) (g := (mkF m 37 #[iv p0, iv (p0.toUInt32.toUInt16.toUInt32.toInt32), iv ((p0.toUInt32.toUInt16.toUInt32.toInt32) ||| (32 : Int32)), iv (((p0.toUInt32.toUInt16.toUInt32.toInt32) ||| (32 : Int32)) - (97 : Int32)), iv 0] [(.int (p0.toUInt32.toUInt16.toUInt32.toInt32))])) rfl (by rw [hml]; rfl) (argsL := [(.int (p0.toUInt32.toUInt16.toUInt32.toInt32))]) (rest := []) (lenOf pd_0 rfl) rfl (by show 2 * 0 + _ ≤ _; exact Nat.le_of_eq rfl) (hb hby at_37) (fun _ _ => ⟨rfl, e0, (by decide : 0 + 0 ≤ _), (by decide : 0 + 0 ≤ _)⟩)
  dsimp only [Pt.U, Pt.locs, Pt.cells, Pt.slots] at X2 lx2 yx2 zx2 st2 hQ2
  subst lx2 yx2 zx2
  obtain ⟨rfl, N2q, e2⟩ := hQ2
  have N2 := Fr.app N0 N2q
  refine own_lift st2 ?_
  show own_Go p.tables e below (T2.setTop (mkF m 40 #[iv p0, iv (p0.toUInt32.toUInt16.toUInt32.toInt32), iv ((p0.toUInt32.toUInt16.toUInt32.toInt32) ||| (32 : Int32)), iv (((p0.toUInt32.toUInt16.toUInt32.toInt32) ||| (32 : Int32)) - (97 : Int32)), iv 0] [(.int 0)])) _
  have sg3 : ∀ t, Steps p.tables e below (T2.setTop (mkF m 50 #[iv p0, iv (p0.toUInt32.toUInt16.toUInt32.toInt32), iv ((p0.toUInt32.toUInt16.toUInt32.toInt32) ||| (32 : Int32)), iv (((p0.toUInt32.toUInt16.toUInt32.toInt32) ||| (32 : Int32)) - (97 : Int32)), iv 0] [(.int 1)])) t → Steps p.tables e below (T2.setTop (mkF m 40 #[iv p0, iv (p0.toUInt32.toUInt16.toUInt32.toInt32), iv ((p0.toUInt32.toUInt16.toUInt32.toInt32) ||| (32 : Int32)), iv (((p0.toUInt32.toUInt16.toUInt32.toInt32) ||| (32 : Int32)) - (97 : Int32)), iv 0] [(.int 0)])) t := by
    intro t k
    refine XS.iload X2.here hx rfl (hb hby at_40) rfl ?_
    show Steps p.tables e below (T2.setTop (mkF m 42 #[iv p0, iv (p0.toUInt32.toUInt16.toUInt32.toInt32), iv ((p0.toUInt32.toUInt16.toUInt32.toInt32) ||| (32 : Int32)), iv (((p0.toUInt32.toUInt16.toUInt32.toInt32) ||| (32 : Int32)) - (97 : Int32)), iv 0] [(.int 0), (.int 0)])) _
    refine XS.icmpNo X2.here hx rfl (hb hby at_42) rfl (teq (by decide : (0 : Int32) = (0 : Int32))).2 ?_
    show Steps p.tables e below (T2.setTop (mkF m 45 #[iv p0, iv (p0.toUInt32.toUInt16.toUInt32.toInt32), iv ((p0.toUInt32.toUInt16.toUInt32.toInt32) ||| (32 : Int32)), iv (((p0.toUInt32.toUInt16.toUInt32.toInt32) ||| (32 : Int32)) - (97 : Int32)), iv 0] [])) _
    refine XS.iconst X2.here hx rfl (hb hby at_45) ?_
    show Steps p.tables e below (T2.setTop (mkF m 46 #[iv p0, iv (p0.toUInt32.toUInt16.toUInt32.toInt32), iv ((p0.toUInt32.toUInt16.toUInt32.toInt32) ||| (32 : Int32)), iv (((p0.toUInt32.toUInt16.toUInt32.toInt32) ||| (32 : Int32)) - (97 : Int32)), iv 0] [(.int 1)])) _
    refine XS.goto X2.here hx rfl (pc0 := 46) (pc' := 50) rfl (hb hby at_46) (by decide) (by decide) ?_
    show Steps p.tables e below (T2.setTop (mkF m 50 #[iv p0, iv (p0.toUInt32.toUInt16.toUInt32.toInt32), iv ((p0.toUInt32.toUInt16.toUInt32.toInt32) ||| (32 : Int32)), iv (((p0.toUInt32.toUInt16.toUInt32.toInt32) ||| (32 : Int32)) - (97 : Int32)), iv 0] [(.int 1)])) _
    exact k
  refine own_lift sg3 ?_
  show own_Go p.tables e below (T2.setTop (mkF m 50 #[iv p0, iv (p0.toUInt32.toUInt16.toUInt32.toInt32), iv ((p0.toUInt32.toUInt16.toUInt32.toInt32) ||| (32 : Int32)), iv (((p0.toUInt32.toUInt16.toUInt32.toInt32) ||| (32 : Int32)) - (97 : Int32)), iv 0] [(.int 1)])) _
  obtain ⟨fs, hr, hrun, hended, hW, hsame⟩ := X2.leave (v := some (.int 1)) (fun h => by rw [Bd.returns] at h; cases h)
  refine ⟨_, _, ?_, hrun, hended, _, _, rfl, ?_, ⟨_, rfl⟩, hW, hsame.mono (by decide) (by decide)⟩
  · exact retN X2 hx (t := .boolean) Bd.returns (by simp) (hb hby at_50) hr
  · show Q0 Z  h0 n0 _ T2.heap _
    rw [e2]
    exact ⟨rfl, N2⟩
theorem ef_rm0_4b (m : MethodId) (x0 : Int32) : entryFrame m #[(.int x0)] maxLocals = mkF m 0 #[.val (.int x0), .unset, .unset, .unset, .unset] [] := by first | (simp [entryFrame, mkF, argsToLocals, Value.category, maxLocals]; done) | rfl
set_option maxRecDepth 65536 in
set_option maxHeartbeats 40000000 in
theorem rm0_4b (l : Launch) (Z : State) (a0 : Array Value) (hw : ∀ d ∈ tables_1, d.before a0 Z = true) (ws : List Jvm.Cond) (p0 : Int32) (h0 : Heap) (n0 : Nat) (Z0 : n0 ≤ h0.size)  (c0 : (p0.toUInt32.toUInt16.toUInt32.toInt32) < (97 : Int32)) (c1 : ¬ ((p0.toUInt32.toUInt16.toUInt32.toInt32) < (65 : Int32))) (c2 : (90 : Int32) < (p0.toUInt32.toUInt16.toUInt32.toInt32)) (c3 : ¬ ((p0.toUInt32.toUInt16.toUInt32.toInt32) = (95 : Int32))) (c4 : (((p0.toUInt32.toUInt16.toUInt32.toInt32) ||| (32 : Int32)) - (97 : Int32)) < (0 : Int32)) :
    MetFree l x (head1 (Jvm.Cond.code x code maxLocals ret :: ws) room_1) (fun a U => a = #[(.int p0)] ∧ Z.Warmed39 U.vm ∧ U.heap = h0) (fun _ _ _ _ _ => True) (fun _ U o U' => ∃ v L, o = .returned v ∧ Q0 Z  h0 n0 v U'.heap L ∧ FrameEnd U o U' L 0 0) := by
  refine MetFree.of_bodySF (plainFor_of_name pn_1) hisR ?_
  intro p e s m args below meth c s₁ Bd hml0 hP hK
  obtain ⟨rfl, hZ, hh⟩ := hP
  have hx := Bd.exec
  have hby := Bd.bytes
  have hml : c.maxLocals = 5 := hml0
  have hown : s.vm.findClass "com/example/libprocgraph/libprocgraph/reader/TextCursorIsNameStartPinLaw" = some m.cls := findClass_of_methodNamed Bd.named
  have hnm := (name_of_methodNamed Bd.named Bd.method).1
  have X0 : Stand p l e room_1 s m #[(.int p0)] below meth c s₁ [] 0 0 := Stand.of_body Bd
  have e0 : s₁.heap = h0 := by rw [← hh, Bd.state]; rfl
  have N0 := Fr.nil n0
  refine own_go (own_lift (fun t k => castTop (ef_rm0_4b m p0) k) ?_)
  show own_Go p.tables e below (s₁.setTop (mkF m 0 #[iv p0, .unset, .unset, .unset, .unset] [])) _
  have sg1 : ∀ t, Steps p.tables e below (s₁.setTop (mkF m 37 #[iv p0, iv (p0.toUInt32.toUInt16.toUInt32.toInt32), iv ((p0.toUInt32.toUInt16.toUInt32.toInt32) ||| (32 : Int32)), iv (((p0.toUInt32.toUInt16.toUInt32.toInt32) ||| (32 : Int32)) - (97 : Int32)), iv 0] [(.int (p0.toUInt32.toUInt16.toUInt32.toInt32))])) t → Steps p.tables e below (s₁.setTop (mkF m 0 #[iv p0, .unset, .unset, .unset, .unset] [])) t := by
    intro t k
    refine XS.iloadN X0.here hx rfl (hb hby at_0) rfl ?_
    show Steps p.tables e below (s₁.setTop (mkF m 1 #[iv p0, .unset, .unset, .unset, .unset] [(.int p0)])) _
    refine XS.i2c X0.here hx rfl (hb hby at_1) rfl ?_
    show Steps p.tables e below (s₁.setTop (mkF m 2 #[iv p0, .unset, .unset, .unset, .unset] [(.int (p0.toUInt32.toUInt16.toUInt32.toInt32))])) _
    refine XS.istoreN X0.here hx rfl (hb hby at_2) rfl (l' := #[iv p0, iv (p0.toUInt32.toUInt16.toUInt32.toInt32), .unset, .unset, .unset]) rfl ?_
    show Steps p.tables e below (s₁.setTop (mkF m 3 #[iv p0, iv (p0.toUInt32.toUInt16.toUInt32.toInt32), .unset, .unset, .unset] [])) _
    refine XS.iloadN X0.here hx rfl (hb hby at_3) rfl ?_
    show Steps p.tables e below (s₁.setTop (mkF m 4 #[iv p0, iv (p0.toUInt32.toUInt16.toUInt32.toInt32), .unset, .unset, .unset] [(.int (p0.toUInt32.toUInt16.toUInt32.toInt32))])) _
    refine XS.bipush X0.here hx rfl (hb hby at_4) ?_
    show Steps p.tables e below (s₁.setTop (mkF m 6 #[iv p0, iv (p0.toUInt32.toUInt16.toUInt32.toInt32), .unset, .unset, .unset] [(.int 32), (.int (p0.toUInt32.toUInt16.toUInt32.toInt32))])) _
    refine XS.ior X0.here hx rfl (hb hby at_6) rfl ?_
    show Steps p.tables e below (s₁.setTop (mkF m 7 #[iv p0, iv (p0.toUInt32.toUInt16.toUInt32.toInt32), .unset, .unset, .unset] [(.int ((p0.toUInt32.toUInt16.toUInt32.toInt32) ||| (32 : Int32)))])) _
    refine XS.istoreN X0.here hx rfl (hb hby at_7) rfl (l' := #[iv p0, iv (p0.toUInt32.toUInt16.toUInt32.toInt32), iv ((p0.toUInt32.toUInt16.toUInt32.toInt32) ||| (32 : Int32)), .unset, .unset]) rfl ?_
    show Steps p.tables e below (s₁.setTop (mkF m 8 #[iv p0, iv (p0.toUInt32.toUInt16.toUInt32.toInt32), iv ((p0.toUInt32.toUInt16.toUInt32.toInt32) ||| (32 : Int32)), .unset, .unset] [])) _
    refine XS.iloadN X0.here hx rfl (hb hby at_8) rfl ?_
    show Steps p.tables e below (s₁.setTop (mkF m 9 #[iv p0, iv (p0.toUInt32.toUInt16.toUInt32.toInt32), iv ((p0.toUInt32.toUInt16.toUInt32.toInt32) ||| (32 : Int32)), .unset, .unset] [(.int ((p0.toUInt32.toUInt16.toUInt32.toInt32) ||| (32 : Int32)))])) _
    refine XS.bipush X0.here hx rfl (hb hby at_9) ?_
    show Steps p.tables e below (s₁.setTop (mkF m 11 #[iv p0, iv (p0.toUInt32.toUInt16.toUInt32.toInt32), iv ((p0.toUInt32.toUInt16.toUInt32.toInt32) ||| (32 : Int32)), .unset, .unset] [(.int 97), (.int ((p0.toUInt32.toUInt16.toUInt32.toInt32) ||| (32 : Int32)))])) _
    refine XS.isub X0.here hx rfl (hb hby at_11) rfl ?_
    show Steps p.tables e below (s₁.setTop (mkF m 12 #[iv p0, iv (p0.toUInt32.toUInt16.toUInt32.toInt32), iv ((p0.toUInt32.toUInt16.toUInt32.toInt32) ||| (32 : Int32)), .unset, .unset] [(.int (((p0.toUInt32.toUInt16.toUInt32.toInt32) ||| (32 : Int32)) - (97 : Int32)))])) _
    refine XS.istoreN X0.here hx rfl (hb hby at_12) rfl (l' := #[iv p0, iv (p0.toUInt32.toUInt16.toUInt32.toInt32), iv ((p0.toUInt32.toUInt16.toUInt32.toInt32) ||| (32 : Int32)), iv (((p0.toUInt32.toUInt16.toUInt32.toInt32) ||| (32 : Int32)) - (97 : Int32)), .unset]) rfl ?_
    show Steps p.tables e below (s₁.setTop (mkF m 13 #[iv p0, iv (p0.toUInt32.toUInt16.toUInt32.toInt32), iv ((p0.toUInt32.toUInt16.toUInt32.toInt32) ||| (32 : Int32)), iv (((p0.toUInt32.toUInt16.toUInt32.toInt32) ||| (32 : Int32)) - (97 : Int32)), .unset] [])) _
    refine XS.iloadN X0.here hx rfl (hb hby at_13) rfl ?_
    show Steps p.tables e below (s₁.setTop (mkF m 14 #[iv p0, iv (p0.toUInt32.toUInt16.toUInt32.toInt32), iv ((p0.toUInt32.toUInt16.toUInt32.toInt32) ||| (32 : Int32)), iv (((p0.toUInt32.toUInt16.toUInt32.toInt32) ||| (32 : Int32)) - (97 : Int32)), .unset] [(.int (((p0.toUInt32.toUInt16.toUInt32.toInt32) ||| (32 : Int32)) - (97 : Int32)))])) _
    refine XS.ifYes X0.here hx rfl (pc0 := 14) (pc' := 23) rfl (hb hby at_14) rfl ((if0 _ _).trans (tlt c4).1) (by decide) (by decide) ?_
    show Steps p.tables e below (s₁.setTop (mkF m 23 #[iv p0, iv (p0.toUInt32.toUInt16.toUInt32.toInt32), iv ((p0.toUInt32.toUInt16.toUInt32.toInt32) ||| (32 : Int32)), iv (((p0.toUInt32.toUInt16.toUInt32.toInt32) ||| (32 : Int32)) - (97 : Int32)), .unset] [])) _
    refine XS.iloadN X0.here hx rfl (hb hby at_23) rfl ?_
    show Steps p.tables e below (s₁.setTop (mkF m 24 #[iv p0, iv (p0.toUInt32.toUInt16.toUInt32.toInt32), iv ((p0.toUInt32.toUInt16.toUInt32.toInt32) ||| (32 : Int32)), iv (((p0.toUInt32.toUInt16.toUInt32.toInt32) ||| (32 : Int32)) - (97 : Int32)), .unset] [(.int (p0.toUInt32.toUInt16.toUInt32.toInt32))])) _
    refine XS.bipush X0.here hx rfl (hb hby at_24) ?_
    show Steps p.tables e below (s₁.setTop (mkF m 26 #[iv p0, iv (p0.toUInt32.toUInt16.toUInt32.toInt32), iv ((p0.toUInt32.toUInt16.toUInt32.toInt32) ||| (32 : Int32)), iv (((p0.toUInt32.toUInt16.toUInt32.toInt32) ||| (32 : Int32)) - (97 : Int32)), .unset] [(.int 95), (.int (p0.toUInt32.toUInt16.toUInt32.toInt32))])) _
    refine XS.icmpYes X0.here hx rfl (pc0 := 26) (pc' := 33) rfl (hb hby at_26) rfl (feq c3).2 (by decide) (by decide) ?_
    show Steps p.tables e below (s₁.setTop (mkF m 33 #[iv p0, iv (p0.toUInt32.toUInt16.toUInt32.toInt32), iv ((p0.toUInt32.toUInt16.toUInt32.toInt32) ||| (32 : Int32)), iv (((p0.toUInt32.toUInt16.toUInt32.toInt32) ||| (32 : Int32)) - (97 : Int32)), .unset] [])) _
    refine XS.iconst X0.here hx rfl (hb hby at_33) ?_
    show Steps p.tables e below (s₁.setTop (mkF m 34 #[iv p0, iv (p0.toUInt32.toUInt16.toUInt32.toInt32), iv ((p0.toUInt32.toUInt16.toUInt32.toInt32) ||| (32 : Int32)), iv (((p0.toUInt32.toUInt16.toUInt32.toInt32) ||| (32 : Int32)) - (97 : Int32)), .unset] [(.int 0)])) _
    refine XS.istore X0.here hx rfl (hb hby at_34) rfl (l' := #[iv p0, iv (p0.toUInt32.toUInt16.toUInt32.toInt32), iv ((p0.toUInt32.toUInt16.toUInt32.toInt32) ||| (32 : Int32)), iv (((p0.toUInt32.toUInt16.toUInt32.toInt32) ||| (32 : Int32)) - (97 : Int32)), iv 0]) rfl ?_
    show Steps p.tables e below (s₁.setTop (mkF m 36 #[iv p0, iv (p0.toUInt32.toUInt16.toUInt32.toInt32), iv ((p0.toUInt32.toUInt16.toUInt32.toInt32) ||| (32 : Int32)), iv (((p0.toUInt32.toUInt16.toUInt32.toInt32) ||| (32 : Int32)) - (97 : Int32)), iv 0] [])) _
    refine XS.iloadN X0.here hx rfl (hb hby at_36) rfl ?_
    show Steps p.tables e below (s₁.setTop (mkF m 37 #[iv p0, iv (p0.toUInt32.toUInt16.toUInt32.toInt32), iv ((p0.toUInt32.toUInt16.toUInt32.toInt32) ||| (32 : Int32)), iv (((p0.toUInt32.toUInt16.toUInt32.toInt32) ||| (32 : Int32)) - (97 : Int32)), iv 0] [(.int (p0.toUInt32.toUInt16.toUInt32.toInt32))])) _
    exact k
  refine own_lift sg1 ?_
  show own_Go p.tables e below (s₁.setTop (mkF m 37 #[iv p0, iv (p0.toUInt32.toUInt16.toUInt32.toInt32), iv ((p0.toUInt32.toUInt16.toUInt32.toInt32) ||| (32 : Int32)), iv (((p0.toUInt32.toUInt16.toUInt32.toInt32) ||| (32 : Int32)) - (97 : Int32)), iv 0] [(.int (p0.toUInt32.toUInt16.toUInt32.toInt32))])) _
  obtain ⟨_, _, ⟨T2, Lx2, kx2, nx2⟩, -, X2, ⟨Lc2, hQ2, lx2, yx2, zx2⟩, st2⟩ := Jvm.LawKit.callS X0 hx (y := (⟨"com/example/libprocgraph/libprocgraph/reader/TextCursor", "isNameStart", "(C)Z"⟩ : MethodName)) hown (mvT hZ (wd hw 0 rfl)) (mvT hZ (wd hw 1 rfl)) (mvT hZ (wd hw 2 rfl)) (mvT hZ (wd hw 3 rfl)) (by decide) (backOf (W := 0) (rmIs4 l Z a0 hw [] (p0.toUInt32.toUInt16.toUInt32.toInt32) h0 n0 Z0 c0 c1 c2 c3) hZ (wd hw 3 rfl) (wd hw 2 rfl) (by decide) (by decide)) (g := (mkF m 37 #[iv p0, iv (p0.toUInt32.toUInt16.toUInt32.toInt32), iv ((p0.toUInt32.toUInt16.toUInt32.toInt32) ||| (32 : Int32)), iv (((p0.toUInt32.toUInt16.toUInt32.toInt32) ||| (32 : Int32)) - (97 : Int32)), iv 0] [(.int (p0.toUInt32.toUInt16.toUInt32.toInt32))])) rfl (by rw [hml]; rfl) (argsL := [(.int (p0.toUInt32.toUInt16.toUInt32.toInt32))]) (rest := []) (lenOf pd_0 rfl) rfl (by show 2 * 0 + _ ≤ _; exact Nat.le_of_eq rfl) (hb hby at_37) (fun _ _ => ⟨rfl, e0, (by decide : 0 + 0 ≤ _), (by decide : 0 + 0 ≤ _)⟩)
  dsimp only [Pt.U, Pt.locs, Pt.cells, Pt.slots] at X2 lx2 yx2 zx2 st2 hQ2
  subst lx2 yx2 zx2
  obtain ⟨rfl, N2q, e2⟩ := hQ2
  have N2 := Fr.app N0 N2q
  refine own_lift st2 ?_
  show own_Go p.tables e below (T2.setTop (mkF m 40 #[iv p0, iv (p0.toUInt32.toUInt16.toUInt32.toInt32), iv ((p0.toUInt32.toUInt16.toUInt32.toInt32) ||| (32 : Int32)), iv (((p0.toUInt32.toUInt16.toUInt32.toInt32) ||| (32 : Int32)) - (97 : Int32)), iv 0] [(.int 0)])) _
  have sg3 : ∀ t, Steps p.tables e below (T2.setTop (mkF m 50 #[iv p0, iv (p0.toUInt32.toUInt16.toUInt32.toInt32), iv ((p0.toUInt32.toUInt16.toUInt32.toInt32) ||| (32 : Int32)), iv (((p0.toUInt32.toUInt16.toUInt32.toInt32) ||| (32 : Int32)) - (97 : Int32)), iv 0] [(.int 1)])) t → Steps p.tables e below (T2.setTop (mkF m 40 #[iv p0, iv (p0.toUInt32.toUInt16.toUInt32.toInt32), iv ((p0.toUInt32.toUInt16.toUInt32.toInt32) ||| (32 : Int32)), iv (((p0.toUInt32.toUInt16.toUInt32.toInt32) ||| (32 : Int32)) - (97 : Int32)), iv 0] [(.int 0)])) t := by
    intro t k
    refine XS.iload X2.here hx rfl (hb hby at_40) rfl ?_
    show Steps p.tables e below (T2.setTop (mkF m 42 #[iv p0, iv (p0.toUInt32.toUInt16.toUInt32.toInt32), iv ((p0.toUInt32.toUInt16.toUInt32.toInt32) ||| (32 : Int32)), iv (((p0.toUInt32.toUInt16.toUInt32.toInt32) ||| (32 : Int32)) - (97 : Int32)), iv 0] [(.int 0), (.int 0)])) _
    refine XS.icmpNo X2.here hx rfl (hb hby at_42) rfl (teq (by decide : (0 : Int32) = (0 : Int32))).2 ?_
    show Steps p.tables e below (T2.setTop (mkF m 45 #[iv p0, iv (p0.toUInt32.toUInt16.toUInt32.toInt32), iv ((p0.toUInt32.toUInt16.toUInt32.toInt32) ||| (32 : Int32)), iv (((p0.toUInt32.toUInt16.toUInt32.toInt32) ||| (32 : Int32)) - (97 : Int32)), iv 0] [])) _
    refine XS.iconst X2.here hx rfl (hb hby at_45) ?_
    show Steps p.tables e below (T2.setTop (mkF m 46 #[iv p0, iv (p0.toUInt32.toUInt16.toUInt32.toInt32), iv ((p0.toUInt32.toUInt16.toUInt32.toInt32) ||| (32 : Int32)), iv (((p0.toUInt32.toUInt16.toUInt32.toInt32) ||| (32 : Int32)) - (97 : Int32)), iv 0] [(.int 1)])) _
    refine XS.goto X2.here hx rfl (pc0 := 46) (pc' := 50) rfl (hb hby at_46) (by decide) (by decide) ?_
    show Steps p.tables e below (T2.setTop (mkF m 50 #[iv p0, iv (p0.toUInt32.toUInt16.toUInt32.toInt32), iv ((p0.toUInt32.toUInt16.toUInt32.toInt32) ||| (32 : Int32)), iv (((p0.toUInt32.toUInt16.toUInt32.toInt32) ||| (32 : Int32)) - (97 : Int32)), iv 0] [(.int 1)])) _
    exact k
  refine own_lift sg3 ?_
  show own_Go p.tables e below (T2.setTop (mkF m 50 #[iv p0, iv (p0.toUInt32.toUInt16.toUInt32.toInt32), iv ((p0.toUInt32.toUInt16.toUInt32.toInt32) ||| (32 : Int32)), iv (((p0.toUInt32.toUInt16.toUInt32.toInt32) ||| (32 : Int32)) - (97 : Int32)), iv 0] [(.int 1)])) _
  obtain ⟨fs, hr, hrun, hended, hW, hsame⟩ := X2.leave (v := some (.int 1)) (fun h => by rw [Bd.returns] at h; cases h)
  refine ⟨_, _, ?_, hrun, hended, _, _, rfl, ?_, ⟨_, rfl⟩, hW, hsame.mono (by decide) (by decide)⟩
  · exact retN X2 hx (t := .boolean) Bd.returns (by simp) (hb hby at_50) hr
  · show Q0 Z  h0 n0 _ T2.heap _
    rw [e2]
    exact ⟨rfl, N2⟩
theorem ef_rm0_5 (m : MethodId) (x0 : Int32) : entryFrame m #[(.int x0)] maxLocals = mkF m 0 #[.val (.int x0), .unset, .unset, .unset, .unset] [] := by first | (simp [entryFrame, mkF, argsToLocals, Value.category, maxLocals]; done) | rfl
set_option maxRecDepth 65536 in
set_option maxHeartbeats 40000000 in
theorem rm0_5 (l : Launch) (Z : State) (a0 : Array Value) (hw : ∀ d ∈ tables_1, d.before a0 Z = true) (ws : List Jvm.Cond) (p0 : Int32) (h0 : Heap) (n0 : Nat) (Z0 : n0 ≤ h0.size)  (c0 : (p0.toUInt32.toUInt16.toUInt32.toInt32) < (97 : Int32)) (c1 : (p0.toUInt32.toUInt16.toUInt32.toInt32) < (65 : Int32)) (c2 : ¬ ((p0.toUInt32.toUInt16.toUInt32.toInt32) = (95 : Int32))) (c3 : (((p0.toUInt32.toUInt16.toUInt32.toInt32) ||| (32 : Int32)) - (97 : Int32)) < (0 : Int32)) :
    MetFree l x (head1 (Jvm.Cond.code x code maxLocals ret :: ws) room_1) (fun a U => a = #[(.int p0)] ∧ Z.Warmed39 U.vm ∧ U.heap = h0) (fun _ _ _ _ _ => True) (fun _ U o U' => ∃ v L, o = .returned v ∧ Q0 Z  h0 n0 v U'.heap L ∧ FrameEnd U o U' L 0 0) := by
  refine MetFree.of_bodySF (plainFor_of_name pn_1) hisR ?_
  intro p e s m args below meth c s₁ Bd hml0 hP hK
  obtain ⟨rfl, hZ, hh⟩ := hP
  have hx := Bd.exec
  have hby := Bd.bytes
  have hml : c.maxLocals = 5 := hml0
  have hown : s.vm.findClass "com/example/libprocgraph/libprocgraph/reader/TextCursorIsNameStartPinLaw" = some m.cls := findClass_of_methodNamed Bd.named
  have hnm := (name_of_methodNamed Bd.named Bd.method).1
  have X0 : Stand p l e room_1 s m #[(.int p0)] below meth c s₁ [] 0 0 := Stand.of_body Bd
  have e0 : s₁.heap = h0 := by rw [← hh, Bd.state]; rfl
  have N0 := Fr.nil n0
  refine own_go (own_lift (fun t k => castTop (ef_rm0_5 m p0) k) ?_)
  show own_Go p.tables e below (s₁.setTop (mkF m 0 #[iv p0, .unset, .unset, .unset, .unset] [])) _
  have sg1 : ∀ t, Steps p.tables e below (s₁.setTop (mkF m 37 #[iv p0, iv (p0.toUInt32.toUInt16.toUInt32.toInt32), iv ((p0.toUInt32.toUInt16.toUInt32.toInt32) ||| (32 : Int32)), iv (((p0.toUInt32.toUInt16.toUInt32.toInt32) ||| (32 : Int32)) - (97 : Int32)), iv 0] [(.int (p0.toUInt32.toUInt16.toUInt32.toInt32))])) t → Steps p.tables e below (s₁.setTop (mkF m 0 #[iv p0, .unset, .unset, .unset, .unset] [])) t := by
    intro t k
    refine XS.iloadN X0.here hx rfl (hb hby at_0) rfl ?_
    show Steps p.tables e below (s₁.setTop (mkF m 1 #[iv p0, .unset, .unset, .unset, .unset] [(.int p0)])) _
    refine XS.i2c X0.here hx rfl (hb hby at_1) rfl ?_
    show Steps p.tables e below (s₁.setTop (mkF m 2 #[iv p0, .unset, .unset, .unset, .unset] [(.int (p0.toUInt32.toUInt16.toUInt32.toInt32))])) _
    refine XS.istoreN X0.here hx rfl (hb hby at_2) rfl (l' := #[iv p0, iv (p0.toUInt32.toUInt16.toUInt32.toInt32), .unset, .unset, .unset]) rfl ?_
    show Steps p.tables e below (s₁.setTop (mkF m 3 #[iv p0, iv (p0.toUInt32.toUInt16.toUInt32.toInt32), .unset, .unset, .unset] [])) _
    refine XS.iloadN X0.here hx rfl (hb hby at_3) rfl ?_
    show Steps p.tables e below (s₁.setTop (mkF m 4 #[iv p0, iv (p0.toUInt32.toUInt16.toUInt32.toInt32), .unset, .unset, .unset] [(.int (p0.toUInt32.toUInt16.toUInt32.toInt32))])) _
    refine XS.bipush X0.here hx rfl (hb hby at_4) ?_
    show Steps p.tables e below (s₁.setTop (mkF m 6 #[iv p0, iv (p0.toUInt32.toUInt16.toUInt32.toInt32), .unset, .unset, .unset] [(.int 32), (.int (p0.toUInt32.toUInt16.toUInt32.toInt32))])) _
    refine XS.ior X0.here hx rfl (hb hby at_6) rfl ?_
    show Steps p.tables e below (s₁.setTop (mkF m 7 #[iv p0, iv (p0.toUInt32.toUInt16.toUInt32.toInt32), .unset, .unset, .unset] [(.int ((p0.toUInt32.toUInt16.toUInt32.toInt32) ||| (32 : Int32)))])) _
    refine XS.istoreN X0.here hx rfl (hb hby at_7) rfl (l' := #[iv p0, iv (p0.toUInt32.toUInt16.toUInt32.toInt32), iv ((p0.toUInt32.toUInt16.toUInt32.toInt32) ||| (32 : Int32)), .unset, .unset]) rfl ?_
    show Steps p.tables e below (s₁.setTop (mkF m 8 #[iv p0, iv (p0.toUInt32.toUInt16.toUInt32.toInt32), iv ((p0.toUInt32.toUInt16.toUInt32.toInt32) ||| (32 : Int32)), .unset, .unset] [])) _
    refine XS.iloadN X0.here hx rfl (hb hby at_8) rfl ?_
    show Steps p.tables e below (s₁.setTop (mkF m 9 #[iv p0, iv (p0.toUInt32.toUInt16.toUInt32.toInt32), iv ((p0.toUInt32.toUInt16.toUInt32.toInt32) ||| (32 : Int32)), .unset, .unset] [(.int ((p0.toUInt32.toUInt16.toUInt32.toInt32) ||| (32 : Int32)))])) _
    refine XS.bipush X0.here hx rfl (hb hby at_9) ?_
    show Steps p.tables e below (s₁.setTop (mkF m 11 #[iv p0, iv (p0.toUInt32.toUInt16.toUInt32.toInt32), iv ((p0.toUInt32.toUInt16.toUInt32.toInt32) ||| (32 : Int32)), .unset, .unset] [(.int 97), (.int ((p0.toUInt32.toUInt16.toUInt32.toInt32) ||| (32 : Int32)))])) _
    refine XS.isub X0.here hx rfl (hb hby at_11) rfl ?_
    show Steps p.tables e below (s₁.setTop (mkF m 12 #[iv p0, iv (p0.toUInt32.toUInt16.toUInt32.toInt32), iv ((p0.toUInt32.toUInt16.toUInt32.toInt32) ||| (32 : Int32)), .unset, .unset] [(.int (((p0.toUInt32.toUInt16.toUInt32.toInt32) ||| (32 : Int32)) - (97 : Int32)))])) _
    refine XS.istoreN X0.here hx rfl (hb hby at_12) rfl (l' := #[iv p0, iv (p0.toUInt32.toUInt16.toUInt32.toInt32), iv ((p0.toUInt32.toUInt16.toUInt32.toInt32) ||| (32 : Int32)), iv (((p0.toUInt32.toUInt16.toUInt32.toInt32) ||| (32 : Int32)) - (97 : Int32)), .unset]) rfl ?_
    show Steps p.tables e below (s₁.setTop (mkF m 13 #[iv p0, iv (p0.toUInt32.toUInt16.toUInt32.toInt32), iv ((p0.toUInt32.toUInt16.toUInt32.toInt32) ||| (32 : Int32)), iv (((p0.toUInt32.toUInt16.toUInt32.toInt32) ||| (32 : Int32)) - (97 : Int32)), .unset] [])) _
    refine XS.iloadN X0.here hx rfl (hb hby at_13) rfl ?_
    show Steps p.tables e below (s₁.setTop (mkF m 14 #[iv p0, iv (p0.toUInt32.toUInt16.toUInt32.toInt32), iv ((p0.toUInt32.toUInt16.toUInt32.toInt32) ||| (32 : Int32)), iv (((p0.toUInt32.toUInt16.toUInt32.toInt32) ||| (32 : Int32)) - (97 : Int32)), .unset] [(.int (((p0.toUInt32.toUInt16.toUInt32.toInt32) ||| (32 : Int32)) - (97 : Int32)))])) _
    refine XS.ifYes X0.here hx rfl (pc0 := 14) (pc' := 23) rfl (hb hby at_14) rfl ((if0 _ _).trans (tlt c3).1) (by decide) (by decide) ?_
    show Steps p.tables e below (s₁.setTop (mkF m 23 #[iv p0, iv (p0.toUInt32.toUInt16.toUInt32.toInt32), iv ((p0.toUInt32.toUInt16.toUInt32.toInt32) ||| (32 : Int32)), iv (((p0.toUInt32.toUInt16.toUInt32.toInt32) ||| (32 : Int32)) - (97 : Int32)), .unset] [])) _
    refine XS.iloadN X0.here hx rfl (hb hby at_23) rfl ?_
    show Steps p.tables e below (s₁.setTop (mkF m 24 #[iv p0, iv (p0.toUInt32.toUInt16.toUInt32.toInt32), iv ((p0.toUInt32.toUInt16.toUInt32.toInt32) ||| (32 : Int32)), iv (((p0.toUInt32.toUInt16.toUInt32.toInt32) ||| (32 : Int32)) - (97 : Int32)), .unset] [(.int (p0.toUInt32.toUInt16.toUInt32.toInt32))])) _
    refine XS.bipush X0.here hx rfl (hb hby at_24) ?_
    show Steps p.tables e below (s₁.setTop (mkF m 26 #[iv p0, iv (p0.toUInt32.toUInt16.toUInt32.toInt32), iv ((p0.toUInt32.toUInt16.toUInt32.toInt32) ||| (32 : Int32)), iv (((p0.toUInt32.toUInt16.toUInt32.toInt32) ||| (32 : Int32)) - (97 : Int32)), .unset] [(.int 95), (.int (p0.toUInt32.toUInt16.toUInt32.toInt32))])) _
    refine XS.icmpYes X0.here hx rfl (pc0 := 26) (pc' := 33) rfl (hb hby at_26) rfl (feq c2).2 (by decide) (by decide) ?_
    show Steps p.tables e below (s₁.setTop (mkF m 33 #[iv p0, iv (p0.toUInt32.toUInt16.toUInt32.toInt32), iv ((p0.toUInt32.toUInt16.toUInt32.toInt32) ||| (32 : Int32)), iv (((p0.toUInt32.toUInt16.toUInt32.toInt32) ||| (32 : Int32)) - (97 : Int32)), .unset] [])) _
    refine XS.iconst X0.here hx rfl (hb hby at_33) ?_
    show Steps p.tables e below (s₁.setTop (mkF m 34 #[iv p0, iv (p0.toUInt32.toUInt16.toUInt32.toInt32), iv ((p0.toUInt32.toUInt16.toUInt32.toInt32) ||| (32 : Int32)), iv (((p0.toUInt32.toUInt16.toUInt32.toInt32) ||| (32 : Int32)) - (97 : Int32)), .unset] [(.int 0)])) _
    refine XS.istore X0.here hx rfl (hb hby at_34) rfl (l' := #[iv p0, iv (p0.toUInt32.toUInt16.toUInt32.toInt32), iv ((p0.toUInt32.toUInt16.toUInt32.toInt32) ||| (32 : Int32)), iv (((p0.toUInt32.toUInt16.toUInt32.toInt32) ||| (32 : Int32)) - (97 : Int32)), iv 0]) rfl ?_
    show Steps p.tables e below (s₁.setTop (mkF m 36 #[iv p0, iv (p0.toUInt32.toUInt16.toUInt32.toInt32), iv ((p0.toUInt32.toUInt16.toUInt32.toInt32) ||| (32 : Int32)), iv (((p0.toUInt32.toUInt16.toUInt32.toInt32) ||| (32 : Int32)) - (97 : Int32)), iv 0] [])) _
    refine XS.iloadN X0.here hx rfl (hb hby at_36) rfl ?_
    show Steps p.tables e below (s₁.setTop (mkF m 37 #[iv p0, iv (p0.toUInt32.toUInt16.toUInt32.toInt32), iv ((p0.toUInt32.toUInt16.toUInt32.toInt32) ||| (32 : Int32)), iv (((p0.toUInt32.toUInt16.toUInt32.toInt32) ||| (32 : Int32)) - (97 : Int32)), iv 0] [(.int (p0.toUInt32.toUInt16.toUInt32.toInt32))])) _
    exact k
  refine own_lift sg1 ?_
  show own_Go p.tables e below (s₁.setTop (mkF m 37 #[iv p0, iv (p0.toUInt32.toUInt16.toUInt32.toInt32), iv ((p0.toUInt32.toUInt16.toUInt32.toInt32) ||| (32 : Int32)), iv (((p0.toUInt32.toUInt16.toUInt32.toInt32) ||| (32 : Int32)) - (97 : Int32)), iv 0] [(.int (p0.toUInt32.toUInt16.toUInt32.toInt32))])) _
  obtain ⟨_, _, ⟨T2, Lx2, kx2, nx2⟩, -, X2, ⟨Lc2, hQ2, lx2, yx2, zx2⟩, st2⟩ := Jvm.LawKit.callS X0 hx (y := (⟨"com/example/libprocgraph/libprocgraph/reader/TextCursor", "isNameStart", "(C)Z"⟩ : MethodName)) hown (mvT hZ (wd hw 0 rfl)) (mvT hZ (wd hw 1 rfl)) (mvT hZ (wd hw 2 rfl)) (mvT hZ (wd hw 3 rfl)) (by decide) (backOf (W := 0) (rmIs5 l Z a0 hw [] (p0.toUInt32.toUInt16.toUInt32.toInt32) h0 n0 Z0 c0 c1 c2) hZ (wd hw 3 rfl) (wd hw 2 rfl) (by decide) (by decide)) (g := (mkF m 37 #[iv p0, iv (p0.toUInt32.toUInt16.toUInt32.toInt32), iv ((p0.toUInt32.toUInt16.toUInt32.toInt32) ||| (32 : Int32)), iv (((p0.toUInt32.toUInt16.toUInt32.toInt32) ||| (32 : Int32)) - (97 : Int32)), iv 0] [(.int (p0.toUInt32.toUInt16.toUInt32.toInt32))])) rfl (by rw [hml]; rfl) (argsL := [(.int (p0.toUInt32.toUInt16.toUInt32.toInt32))]) (rest := []) (lenOf pd_0 rfl) rfl (by show 2 * 0 + _ ≤ _; exact Nat.le_of_eq rfl) (hb hby at_37) (fun _ _ => ⟨rfl, e0, (by decide : 0 + 0 ≤ _), (by decide : 0 + 0 ≤ _)⟩)
  dsimp only [Pt.U, Pt.locs, Pt.cells, Pt.slots] at X2 lx2 yx2 zx2 st2 hQ2
  subst lx2 yx2 zx2
  obtain ⟨rfl, N2q, e2⟩ := hQ2
  have N2 := Fr.app N0 N2q
  refine own_lift st2 ?_
  show own_Go p.tables e below (T2.setTop (mkF m 40 #[iv p0, iv (p0.toUInt32.toUInt16.toUInt32.toInt32), iv ((p0.toUInt32.toUInt16.toUInt32.toInt32) ||| (32 : Int32)), iv (((p0.toUInt32.toUInt16.toUInt32.toInt32) ||| (32 : Int32)) - (97 : Int32)), iv 0] [(.int 0)])) _
  have sg3 : ∀ t, Steps p.tables e below (T2.setTop (mkF m 50 #[iv p0, iv (p0.toUInt32.toUInt16.toUInt32.toInt32), iv ((p0.toUInt32.toUInt16.toUInt32.toInt32) ||| (32 : Int32)), iv (((p0.toUInt32.toUInt16.toUInt32.toInt32) ||| (32 : Int32)) - (97 : Int32)), iv 0] [(.int 1)])) t → Steps p.tables e below (T2.setTop (mkF m 40 #[iv p0, iv (p0.toUInt32.toUInt16.toUInt32.toInt32), iv ((p0.toUInt32.toUInt16.toUInt32.toInt32) ||| (32 : Int32)), iv (((p0.toUInt32.toUInt16.toUInt32.toInt32) ||| (32 : Int32)) - (97 : Int32)), iv 0] [(.int 0)])) t := by
    intro t k
    refine XS.iload X2.here hx rfl (hb hby at_40) rfl ?_
    show Steps p.tables e below (T2.setTop (mkF m 42 #[iv p0, iv (p0.toUInt32.toUInt16.toUInt32.toInt32), iv ((p0.toUInt32.toUInt16.toUInt32.toInt32) ||| (32 : Int32)), iv (((p0.toUInt32.toUInt16.toUInt32.toInt32) ||| (32 : Int32)) - (97 : Int32)), iv 0] [(.int 0), (.int 0)])) _
    refine XS.icmpNo X2.here hx rfl (hb hby at_42) rfl (teq (by decide : (0 : Int32) = (0 : Int32))).2 ?_
    show Steps p.tables e below (T2.setTop (mkF m 45 #[iv p0, iv (p0.toUInt32.toUInt16.toUInt32.toInt32), iv ((p0.toUInt32.toUInt16.toUInt32.toInt32) ||| (32 : Int32)), iv (((p0.toUInt32.toUInt16.toUInt32.toInt32) ||| (32 : Int32)) - (97 : Int32)), iv 0] [])) _
    refine XS.iconst X2.here hx rfl (hb hby at_45) ?_
    show Steps p.tables e below (T2.setTop (mkF m 46 #[iv p0, iv (p0.toUInt32.toUInt16.toUInt32.toInt32), iv ((p0.toUInt32.toUInt16.toUInt32.toInt32) ||| (32 : Int32)), iv (((p0.toUInt32.toUInt16.toUInt32.toInt32) ||| (32 : Int32)) - (97 : Int32)), iv 0] [(.int 1)])) _
    refine XS.goto X2.here hx rfl (pc0 := 46) (pc' := 50) rfl (hb hby at_46) (by decide) (by decide) ?_
    show Steps p.tables e below (T2.setTop (mkF m 50 #[iv p0, iv (p0.toUInt32.toUInt16.toUInt32.toInt32), iv ((p0.toUInt32.toUInt16.toUInt32.toInt32) ||| (32 : Int32)), iv (((p0.toUInt32.toUInt16.toUInt32.toInt32) ||| (32 : Int32)) - (97 : Int32)), iv 0] [(.int 1)])) _
    exact k
  refine own_lift sg3 ?_
  show own_Go p.tables e below (T2.setTop (mkF m 50 #[iv p0, iv (p0.toUInt32.toUInt16.toUInt32.toInt32), iv ((p0.toUInt32.toUInt16.toUInt32.toInt32) ||| (32 : Int32)), iv (((p0.toUInt32.toUInt16.toUInt32.toInt32) ||| (32 : Int32)) - (97 : Int32)), iv 0] [(.int 1)])) _
  obtain ⟨fs, hr, hrun, hended, hW, hsame⟩ := X2.leave (v := some (.int 1)) (fun h => by rw [Bd.returns] at h; cases h)
  refine ⟨_, _, ?_, hrun, hended, _, _, rfl, ?_, ⟨_, rfl⟩, hW, hsame.mono (by decide) (by decide)⟩
  · exact retN X2 hx (t := .boolean) Bd.returns (by simp) (hb hby at_50) hr
  · show Q0 Z  h0 n0 _ T2.heap _
    rw [e2]
    exact ⟨rfl, N2⟩
theorem ef_rm0_6 (m : MethodId) (x0 : Int32) : entryFrame m #[(.int x0)] maxLocals = mkF m 0 #[.val (.int x0), .unset, .unset, .unset, .unset] [] := by first | (simp [entryFrame, mkF, argsToLocals, Value.category, maxLocals]; done) | rfl
set_option maxRecDepth 65536 in
set_option maxHeartbeats 40000000 in
theorem rm0_6 (l : Launch) (Z : State) (a0 : Array Value) (hw : ∀ d ∈ tables_1, d.before a0 Z = true) (ws : List Jvm.Cond) (p0 : Int32) (h0 : Heap) (n0 : Nat) (Z0 : n0 ≤ h0.size)  (c0 : ¬ ((p0.toUInt32.toUInt16.toUInt32.toInt32) < (97 : Int32))) (c1 : (122 : Int32) < (p0.toUInt32.toUInt16.toUInt32.toInt32)) (c2 : ¬ ((p0.toUInt32.toUInt16.toUInt32.toInt32) < (65 : Int32))) (c3 : (90 : Int32) < (p0.toUInt32.toUInt16.toUInt32.toInt32)) (c4 : ¬ ((p0.toUInt32.toUInt16.toUInt32.toInt32) = (95 : Int32))) (c5 : ¬ ((((p0.toUInt32.toUInt16.toUInt32.toInt32) ||| (32 : Int32)) - (97 : Int32)) < (0 : Int32))) (c6 : ¬ ((((p0.toUInt32.toUInt16.toUInt32.toInt32) ||| (32 : Int32)) - (97 : Int32)) < (26 : Int32))) :
    MetFree l x (head1 (Jvm.Cond.code x code maxLocals ret :: ws) room_1) (fun a U => a = #[(.int p0)] ∧ Z.Warmed39 U.vm ∧ U.heap = h0) (fun _ _ _ _ _ => True) (fun _ U o U' => ∃ v L, o = .returned v ∧ Q0 Z  h0 n0 v U'.heap L ∧ FrameEnd U o U' L 0 0) := by
  refine MetFree.of_bodySF (plainFor_of_name pn_1) hisR ?_
  intro p e s m args below meth c s₁ Bd hml0 hP hK
  obtain ⟨rfl, hZ, hh⟩ := hP
  have hx := Bd.exec
  have hby := Bd.bytes
  have hml : c.maxLocals = 5 := hml0
  have hown : s.vm.findClass "com/example/libprocgraph/libprocgraph/reader/TextCursorIsNameStartPinLaw" = some m.cls := findClass_of_methodNamed Bd.named
  have hnm := (name_of_methodNamed Bd.named Bd.method).1
  have X0 : Stand p l e room_1 s m #[(.int p0)] below meth c s₁ [] 0 0 := Stand.of_body Bd
  have e0 : s₁.heap = h0 := by rw [← hh, Bd.state]; rfl
  have N0 := Fr.nil n0
  refine own_go (own_lift (fun t k => castTop (ef_rm0_6 m p0) k) ?_)
  show own_Go p.tables e below (s₁.setTop (mkF m 0 #[iv p0, .unset, .unset, .unset, .unset] [])) _
  have sg1 : ∀ t, Steps p.tables e below (s₁.setTop (mkF m 37 #[iv p0, iv (p0.toUInt32.toUInt16.toUInt32.toInt32), iv ((p0.toUInt32.toUInt16.toUInt32.toInt32) ||| (32 : Int32)), iv (((p0.toUInt32.toUInt16.toUInt32.toInt32) ||| (32 : Int32)) - (97 : Int32)), iv 0] [(.int (p0.toUInt32.toUInt16.toUInt32.toInt32))])) t → Steps p.tables e below (s₁.setTop (mkF m 0 #[iv p0, .unset, .unset, .unset, .unset] [])) t := by
    intro t k
    refine XS.iloadN X0.here hx rfl (hb hby at_0) rfl ?_
    show Steps p.tables e below (s₁.setTop (mkF m 1 #[iv p0, .unset, .unset, .unset, .unset] [(.int p0)])) _
    refine XS.i2c X0.here hx rfl (hb hby at_1) rfl ?_
    show Steps p.tables e below (s₁.setTop (mkF m 2 #[iv p0, .unset, .unset, .unset, .unset] [(.int (p0.toUInt32.toUInt16.toUInt32.toInt32))])) _
    refine XS.istoreN X0.here hx rfl (hb hby at_2) rfl (l' := #[iv p0, iv (p0.toUInt32.toUInt16.toUInt32.toInt32), .unset, .unset, .unset]) rfl ?_
    show Steps p.tables e below (s₁.setTop (mkF m 3 #[iv p0, iv (p0.toUInt32.toUInt16.toUInt32.toInt32), .unset, .unset, .unset] [])) _
    refine XS.iloadN X0.here hx rfl (hb hby at_3) rfl ?_
    show Steps p.tables e below (s₁.setTop (mkF m 4 #[iv p0, iv (p0.toUInt32.toUInt16.toUInt32.toInt32), .unset, .unset, .unset] [(.int (p0.toUInt32.toUInt16.toUInt32.toInt32))])) _
    refine XS.bipush X0.here hx rfl (hb hby at_4) ?_
    show Steps p.tables e below (s₁.setTop (mkF m 6 #[iv p0, iv (p0.toUInt32.toUInt16.toUInt32.toInt32), .unset, .unset, .unset] [(.int 32), (.int (p0.toUInt32.toUInt16.toUInt32.toInt32))])) _
    refine XS.ior X0.here hx rfl (hb hby at_6) rfl ?_
    show Steps p.tables e below (s₁.setTop (mkF m 7 #[iv p0, iv (p0.toUInt32.toUInt16.toUInt32.toInt32), .unset, .unset, .unset] [(.int ((p0.toUInt32.toUInt16.toUInt32.toInt32) ||| (32 : Int32)))])) _
    refine XS.istoreN X0.here hx rfl (hb hby at_7) rfl (l' := #[iv p0, iv (p0.toUInt32.toUInt16.toUInt32.toInt32), iv ((p0.toUInt32.toUInt16.toUInt32.toInt32) ||| (32 : Int32)), .unset, .unset]) rfl ?_
    show Steps p.tables e below (s₁.setTop (mkF m 8 #[iv p0, iv (p0.toUInt32.toUInt16.toUInt32.toInt32), iv ((p0.toUInt32.toUInt16.toUInt32.toInt32) ||| (32 : Int32)), .unset, .unset] [])) _
    refine XS.iloadN X0.here hx rfl (hb hby at_8) rfl ?_
    show Steps p.tables e below (s₁.setTop (mkF m 9 #[iv p0, iv (p0.toUInt32.toUInt16.toUInt32.toInt32), iv ((p0.toUInt32.toUInt16.toUInt32.toInt32) ||| (32 : Int32)), .unset, .unset] [(.int ((p0.toUInt32.toUInt16.toUInt32.toInt32) ||| (32 : Int32)))])) _
    refine XS.bipush X0.here hx rfl (hb hby at_9) ?_
    show Steps p.tables e below (s₁.setTop (mkF m 11 #[iv p0, iv (p0.toUInt32.toUInt16.toUInt32.toInt32), iv ((p0.toUInt32.toUInt16.toUInt32.toInt32) ||| (32 : Int32)), .unset, .unset] [(.int 97), (.int ((p0.toUInt32.toUInt16.toUInt32.toInt32) ||| (32 : Int32)))])) _
    refine XS.isub X0.here hx rfl (hb hby at_11) rfl ?_
    show Steps p.tables e below (s₁.setTop (mkF m 12 #[iv p0, iv (p0.toUInt32.toUInt16.toUInt32.toInt32), iv ((p0.toUInt32.toUInt16.toUInt32.toInt32) ||| (32 : Int32)), .unset, .unset] [(.int (((p0.toUInt32.toUInt16.toUInt32.toInt32) ||| (32 : Int32)) - (97 : Int32)))])) _
    refine XS.istoreN X0.here hx rfl (hb hby at_12) rfl (l' := #[iv p0, iv (p0.toUInt32.toUInt16.toUInt32.toInt32), iv ((p0.toUInt32.toUInt16.toUInt32.toInt32) ||| (32 : Int32)), iv (((p0.toUInt32.toUInt16.toUInt32.toInt32) ||| (32 : Int32)) - (97 : Int32)), .unset]) rfl ?_
    show Steps p.tables e below (s₁.setTop (mkF m 13 #[iv p0, iv (p0.toUInt32.toUInt16.toUInt32.toInt32), iv ((p0.toUInt32.toUInt16.toUInt32.toInt32) ||| (32 : Int32)), iv (((p0.toUInt32.toUInt16.toUInt32.toInt32) ||| (32 : Int32)) - (97 : Int32)), .unset] [])) _
    refine XS.iloadN X0.here hx rfl (hb hby at_13) rfl ?_
    show Steps p.tables e below (s₁.setTop (mkF m 14 #[iv p0, iv (p0.toUInt32.toUInt16.toUInt32.toInt32), iv ((p0.toUInt32.toUInt16.toUInt32.toInt32) ||| (32 : Int32)), iv (((p0.toUInt32.toUInt16.toUInt32.toInt32) ||| (32 : Int32)) - (97 : Int32)), .unset] [(.int (((p0.toUInt32.toUInt16.toUInt32.toInt32) ||| (32 : Int32)) - (97 : Int32)))])) _
    refine XS.ifNo X0.here hx rfl (hb hby at_14) rfl ((if0 _ _).trans (flt c5).1) ?_
    show Steps p.tables e below (s₁.setTop (mkF m 17 #[iv p0, iv (p0.toUInt32.toUInt16.toUInt32.toInt32), iv ((p0.toUInt32.toUInt16.toUInt32.toInt32) ||| (32 : Int32)), iv (((p0.toUInt32.toUInt16.toUInt32.toInt32) ||| (32 : Int32)) - (97 : Int32)), .unset] [])) _
    refine XS.iloadN X0.here hx rfl (hb hby at_17) rfl ?_
    show Steps p.tables e below (s₁.setTop (mkF m 18 #[iv p0, iv (p0.toUInt32.toUInt16.toUInt32.toInt32), iv ((p0.toUInt32.toUInt16.toUInt32.toInt32) ||| (32 : Int32)), iv (((p0.toUInt32.toUInt16.toUInt32.toInt32) ||| (32 : Int32)) - (97 : Int32)), .unset] [(.int (((p0.toUInt32.toUInt16.toUInt32.toInt32) ||| (32 : Int32)) - (97 : Int32)))])) _
    refine XS.bipush X0.here hx rfl (hb hby at_18) ?_
    show Steps p.tables e below (s₁.setTop (mkF m 20 #[iv p0, iv (p0.toUInt32.toUInt16.toUInt32.toInt32), iv ((p0.toUInt32.toUInt16.toUInt32.toInt32) ||| (32 : Int32)), iv (((p0.toUInt32.toUInt16.toUInt32.toInt32) ||| (32 : Int32)) - (97 : Int32)), .unset] [(.int 26), (.int (((p0.toUInt32.toUInt16.toUInt32.toInt32) ||| (32 : Int32)) - (97 : Int32)))])) _
    refine XS.icmpNo X0.here hx rfl (hb hby at_20) rfl (flt c6).1 ?_
    show Steps p.tables e below (s₁.setTop (mkF m 23 #[iv p0, iv (p0.toUInt32.toUInt16.toUInt32.toInt32), iv ((p0.toUInt32.toUInt16.toUInt32.toInt32) ||| (32 : Int32)), iv (((p0.toUInt32.toUInt16.toUInt32.toInt32) ||| (32 : Int32)) - (97 : Int32)), .unset] [])) _
    refine XS.iloadN X0.here hx rfl (hb hby at_23) rfl ?_
    show Steps p.tables e below (s₁.setTop (mkF m 24 #[iv p0, iv (p0.toUInt32.toUInt16.toUInt32.toInt32), iv ((p0.toUInt32.toUInt16.toUInt32.toInt32) ||| (32 : Int32)), iv (((p0.toUInt32.toUInt16.toUInt32.toInt32) ||| (32 : Int32)) - (97 : Int32)), .unset] [(.int (p0.toUInt32.toUInt16.toUInt32.toInt32))])) _
    refine XS.bipush X0.here hx rfl (hb hby at_24) ?_
    show Steps p.tables e below (s₁.setTop (mkF m 26 #[iv p0, iv (p0.toUInt32.toUInt16.toUInt32.toInt32), iv ((p0.toUInt32.toUInt16.toUInt32.toInt32) ||| (32 : Int32)), iv (((p0.toUInt32.toUInt16.toUInt32.toInt32) ||| (32 : Int32)) - (97 : Int32)), .unset] [(.int 95), (.int (p0.toUInt32.toUInt16.toUInt32.toInt32))])) _
    refine XS.icmpYes X0.here hx rfl (pc0 := 26) (pc' := 33) rfl (hb hby at_26) rfl (feq c4).2 (by decide) (by decide) ?_
    show Steps p.tables e below (s₁.setTop (mkF m 33 #[iv p0, iv (p0.toUInt32.toUInt16.toUInt32.toInt32), iv ((p0.toUInt32.toUInt16.toUInt32.toInt32) ||| (32 : Int32)), iv (((p0.toUInt32.toUInt16.toUInt32.toInt32) ||| (32 : Int32)) - (97 : Int32)), .unset] [])) _
    refine XS.iconst X0.here hx rfl (hb hby at_33) ?_
    show Steps p.tables e below (s₁.setTop (mkF m 34 #[iv p0, iv (p0.toUInt32.toUInt16.toUInt32.toInt32), iv ((p0.toUInt32.toUInt16.toUInt32.toInt32) ||| (32 : Int32)), iv (((p0.toUInt32.toUInt16.toUInt32.toInt32) ||| (32 : Int32)) - (97 : Int32)), .unset] [(.int 0)])) _
    refine XS.istore X0.here hx rfl (hb hby at_34) rfl (l' := #[iv p0, iv (p0.toUInt32.toUInt16.toUInt32.toInt32), iv ((p0.toUInt32.toUInt16.toUInt32.toInt32) ||| (32 : Int32)), iv (((p0.toUInt32.toUInt16.toUInt32.toInt32) ||| (32 : Int32)) - (97 : Int32)), iv 0]) rfl ?_
    show Steps p.tables e below (s₁.setTop (mkF m 36 #[iv p0, iv (p0.toUInt32.toUInt16.toUInt32.toInt32), iv ((p0.toUInt32.toUInt16.toUInt32.toInt32) ||| (32 : Int32)), iv (((p0.toUInt32.toUInt16.toUInt32.toInt32) ||| (32 : Int32)) - (97 : Int32)), iv 0] [])) _
    refine XS.iloadN X0.here hx rfl (hb hby at_36) rfl ?_
    show Steps p.tables e below (s₁.setTop (mkF m 37 #[iv p0, iv (p0.toUInt32.toUInt16.toUInt32.toInt32), iv ((p0.toUInt32.toUInt16.toUInt32.toInt32) ||| (32 : Int32)), iv (((p0.toUInt32.toUInt16.toUInt32.toInt32) ||| (32 : Int32)) - (97 : Int32)), iv 0] [(.int (p0.toUInt32.toUInt16.toUInt32.toInt32))])) _
    exact k
  refine own_lift sg1 ?_
  show own_Go p.tables e below (s₁.setTop (mkF m 37 #[iv p0, iv (p0.toUInt32.toUInt16.toUInt32.toInt32), iv ((p0.toUInt32.toUInt16.toUInt32.toInt32) ||| (32 : Int32)), iv (((p0.toUInt32.toUInt16.toUInt32.toInt32) ||| (32 : Int32)) - (97 : Int32)), iv 0] [(.int (p0.toUInt32.toUInt16.toUInt32.toInt32))])) _
  obtain ⟨_, _, ⟨T2, Lx2, kx2, nx2⟩, -, X2, ⟨Lc2, hQ2, lx2, yx2, zx2⟩, st2⟩ := Jvm.LawKit.callS X0 hx (y := (⟨"com/example/libprocgraph/libprocgraph/reader/TextCursor", "isNameStart", "(C)Z"⟩ : MethodName)) hown (mvT hZ (wd hw 0 rfl)) (mvT hZ (wd hw 1 rfl)) (mvT hZ (wd hw 2 rfl)) (mvT hZ (wd hw 3 rfl)) (by decide) (backOf (W := 0) (rmIs6 l Z a0 hw [] (p0.toUInt32.toUInt16.toUInt32.toInt32) h0 n0 Z0 c0 c1 c2 c3 c4) hZ (wd hw 3 rfl) (wd hw 2 rfl) (by decide) (by decide)) (g := (mkF m 37 #[iv p0, iv (p0.toUInt32.toUInt16.toUInt32.toInt32), iv ((p0.toUInt32.toUInt16.toUInt32.toInt32) ||| (32 : Int32)), iv (((p0.toUInt32.toUInt16.toUInt32.toInt32) ||| (32 : Int32)) - (97 : Int32)), iv 0] [(.int (p0.toUInt32.toUInt16.toUInt32.toInt32))])) rfl (by rw [hml]; rfl) (argsL := [(.int (p0.toUInt32.toUInt16.toUInt32.toInt32))]) (rest := []) (lenOf pd_0 rfl) rfl (by show 2 * 0 + _ ≤ _; exact Nat.le_of_eq rfl) (hb hby at_37) (fun _ _ => ⟨rfl, e0, (by decide : 0 + 0 ≤ _), (by decide : 0 + 0 ≤ _)⟩)
  dsimp only [Pt.U, Pt.locs, Pt.cells, Pt.slots] at X2 lx2 yx2 zx2 st2 hQ2
  subst lx2 yx2 zx2
  obtain ⟨rfl, N2q, e2⟩ := hQ2
  have N2 := Fr.app N0 N2q
  refine own_lift st2 ?_
  show own_Go p.tables e below (T2.setTop (mkF m 40 #[iv p0, iv (p0.toUInt32.toUInt16.toUInt32.toInt32), iv ((p0.toUInt32.toUInt16.toUInt32.toInt32) ||| (32 : Int32)), iv (((p0.toUInt32.toUInt16.toUInt32.toInt32) ||| (32 : Int32)) - (97 : Int32)), iv 0] [(.int 0)])) _
  have sg3 : ∀ t, Steps p.tables e below (T2.setTop (mkF m 50 #[iv p0, iv (p0.toUInt32.toUInt16.toUInt32.toInt32), iv ((p0.toUInt32.toUInt16.toUInt32.toInt32) ||| (32 : Int32)), iv (((p0.toUInt32.toUInt16.toUInt32.toInt32) ||| (32 : Int32)) - (97 : Int32)), iv 0] [(.int 1)])) t → Steps p.tables e below (T2.setTop (mkF m 40 #[iv p0, iv (p0.toUInt32.toUInt16.toUInt32.toInt32), iv ((p0.toUInt32.toUInt16.toUInt32.toInt32) ||| (32 : Int32)), iv (((p0.toUInt32.toUInt16.toUInt32.toInt32) ||| (32 : Int32)) - (97 : Int32)), iv 0] [(.int 0)])) t := by
    intro t k
    refine XS.iload X2.here hx rfl (hb hby at_40) rfl ?_
    show Steps p.tables e below (T2.setTop (mkF m 42 #[iv p0, iv (p0.toUInt32.toUInt16.toUInt32.toInt32), iv ((p0.toUInt32.toUInt16.toUInt32.toInt32) ||| (32 : Int32)), iv (((p0.toUInt32.toUInt16.toUInt32.toInt32) ||| (32 : Int32)) - (97 : Int32)), iv 0] [(.int 0), (.int 0)])) _
    refine XS.icmpNo X2.here hx rfl (hb hby at_42) rfl (teq (by decide : (0 : Int32) = (0 : Int32))).2 ?_
    show Steps p.tables e below (T2.setTop (mkF m 45 #[iv p0, iv (p0.toUInt32.toUInt16.toUInt32.toInt32), iv ((p0.toUInt32.toUInt16.toUInt32.toInt32) ||| (32 : Int32)), iv (((p0.toUInt32.toUInt16.toUInt32.toInt32) ||| (32 : Int32)) - (97 : Int32)), iv 0] [])) _
    refine XS.iconst X2.here hx rfl (hb hby at_45) ?_
    show Steps p.tables e below (T2.setTop (mkF m 46 #[iv p0, iv (p0.toUInt32.toUInt16.toUInt32.toInt32), iv ((p0.toUInt32.toUInt16.toUInt32.toInt32) ||| (32 : Int32)), iv (((p0.toUInt32.toUInt16.toUInt32.toInt32) ||| (32 : Int32)) - (97 : Int32)), iv 0] [(.int 1)])) _
    refine XS.goto X2.here hx rfl (pc0 := 46) (pc' := 50) rfl (hb hby at_46) (by decide) (by decide) ?_
    show Steps p.tables e below (T2.setTop (mkF m 50 #[iv p0, iv (p0.toUInt32.toUInt16.toUInt32.toInt32), iv ((p0.toUInt32.toUInt16.toUInt32.toInt32) ||| (32 : Int32)), iv (((p0.toUInt32.toUInt16.toUInt32.toInt32) ||| (32 : Int32)) - (97 : Int32)), iv 0] [(.int 1)])) _
    exact k
  refine own_lift sg3 ?_
  show own_Go p.tables e below (T2.setTop (mkF m 50 #[iv p0, iv (p0.toUInt32.toUInt16.toUInt32.toInt32), iv ((p0.toUInt32.toUInt16.toUInt32.toInt32) ||| (32 : Int32)), iv (((p0.toUInt32.toUInt16.toUInt32.toInt32) ||| (32 : Int32)) - (97 : Int32)), iv 0] [(.int 1)])) _
  obtain ⟨fs, hr, hrun, hended, hW, hsame⟩ := X2.leave (v := some (.int 1)) (fun h => by rw [Bd.returns] at h; cases h)
  refine ⟨_, _, ?_, hrun, hended, _, _, rfl, ?_, ⟨_, rfl⟩, hW, hsame.mono (by decide) (by decide)⟩
  · exact retN X2 hx (t := .boolean) Bd.returns (by simp) (hb hby at_50) hr
  · show Q0 Z  h0 n0 _ T2.heap _
    rw [e2]
    exact ⟨rfl, N2⟩
set_option maxRecDepth 65536 in
theorem rm0 (l : Launch) (Z : State) (a0 : Array Value) (hw : ∀ d ∈ tables_1, d.before a0 Z = true) (ws : List Jvm.Cond) (p0 : Int32) (h0 : Heap) (n0 : Nat) (Z0 : n0 ≤ h0.size)   :
    MetFree l x (head1 (Jvm.Cond.code x code maxLocals ret :: ws) room_1) (fun a U => a = #[(.int p0)] ∧ Z.Warmed39 U.vm ∧ U.heap = h0) (fun _ _ _ _ _ => True) (fun _ U o U' => ∃ v L, o = .returned v ∧ Q0 Z h0 n0 v U'.heap L ∧ FrameEnd U o U' L 0 0) := by
  rcases own_cases p0 with ⟨c0, c1, c2, c3⟩ | ⟨c0, c1, c2, c3, c4⟩ | ⟨c0, c1, c2, c3, c4, c5⟩ | ⟨c0, c1, c2, c3, c4, c5⟩ | ⟨c0, c1, c2, c3, c4⟩ | ⟨c0, c1, c2, c3⟩ | ⟨c0, c1, c2, c3, c4, c5, c6⟩
  · exact rm0_1 l Z a0 hw ws p0  h0 n0 Z0  c0 c1 c2 c3
  · exact rm0_2 l Z a0 hw ws p0  h0 n0 Z0  c0 c1 c2 c3 c4
  · exact rm0_3 l Z a0 hw ws p0  h0 n0 Z0  c0 c1 c2 c3 c4 c5
  · exact rm0_4 l Z a0 hw ws p0  h0 n0 Z0  c0 c1 c2 c3 c4 c5
  · exact rm0_4b l Z a0 hw ws p0  h0 n0 Z0  c0 c1 c2 c3 c4
  · exact rm0_5 l Z a0 hw ws p0  h0 n0 Z0  c0 c1 c2 c3
  · exact rm0_6 l Z a0 hw ws p0  h0 n0 Z0  c0 c1 c2 c3 c4 c5 c6
set_option maxRecDepth 65536 in
set_option maxHeartbeats 40000000 in
theorem comes_1 {Post : Tables → Env → Array Value → State → Outcome → State → Prop} (hpost : ∀ tb e args s v u, (limb_1_1.after args s (.returned v) u = true ∧ limb_1_2.after args s (.returned v) u = true ∧ True) → FrameEnd s (.returned v) u (Jvm.fieldLocs frame_1_writes args s ++ Jvm.arrayLocs frame_1_arrays args s ++ Jvm.staticLocs frame_1_statics s) 0 0 → Post tb e args s (.returned v) u) :
    ArmFor flags0 classFile x code maxLocals ret World_1 tables_1 room_1 Calls_1 rest_1 Pre_1 Post := by
  intro l hfl _ _ p e ha hc hk s m args below hf hA hF happ hP
  obtain ⟨hcalls, hrest, hpre⟩ := hP
  obtain ⟨-, -, -, hnamed, -, -, -, hat⟩ := (Spec.applies_iff hf).mp happ
  obtain ⟨hg, hn⟩ := and_e (Cond.before_iff.mp (show (Jvm.Cond.and given_1 narrow_1).before args s = true from hpre))
  obtain ⟨gv0, gr0⟩ := and_e hg
  obtain ⟨w0, rfl⟩ : ∃ w0 : Value, args = #[w0] := by
    have hs : args.size = 1 := by simpa [Cond.value, given_1] using gv0
    obtain ⟨L⟩ := args
    match L, hs with
    | [w0], _ => exact ⟨w0, rfl⟩
  have hw := fun d (hd : d ∈ tables_1) => atoms_spec (ws := Jvm.Cond.code x code maxLocals ret :: tables_1) hat d (List.mem_cons_of_mem _ hd)
  have hfit : Fit s := fun {y c} hc i hi => by
    obtain ⟨ha, rfl⟩ := Array.getElem?_eq_some_iff.mp hc
    have q := List.all_eq_true.mp ((Array.all_eq_true_iff_forall_mem.mp hF) _ (Array.getElem_mem ha)) i (List.mem_range.mpr hi)
    simpa [Array.getElem?_eq_getElem hi] using q
  obtain ⟨i0, ei0⟩ := is_v gr0
  obtain rfl : w0 = (.int i0) := Option.some.inj ei0
  obtain ⟨n, o, h1, h2, h3, _, L, rfl, ⟨rfl, N⟩, hq⟩ := rm0 l s _ hw tables_1 i0  s.heap s.heap.size (Nat.le_refl _)  p e ha hc hk s m _ below hf ((Spec.applies_iff_loose hf).mp happ).1 ⟨rfl, State.Warmed39.refl s, rfl⟩ trivial
  refine ⟨n, _, h1, h2, h3, hpost _ _ _ _ _ _ ⟨Cond.after_iff.mpr rfl, Cond.after_iff.mpr (eq_i res_at (Term.int_eval (1)) rfl), trivial⟩ ⟨hq.1, hq.2.1, (hq.2.2.sift fun y hy => Or.inr (N y hy)).mono (by decide) (by decide)⟩⟩
theorem main_1_1 : Claimed_1_1 := comes_1 fun _ _ _ _ _ _ h hF => ⟨h.1, hF⟩
theorem main_1_2 : Claimed_1_2 := comes_1 fun _ _ _ _ _ _ h hF => ⟨h.2.1, hF⟩
end Jvm.Pilot.@@N@@
namespace Jvm.Pilot.@@N@@
open Jvm Jvm.ClassFile Sem Op Lib Jvm.Free Jvm.Stand Jvm.Pilot.@@N@@.Jvm.D
/-! MADE BY PROGRAM (witnessworld.py) out of the Statement's table words and the real class files: 7 classes; the members and pool entries that the words name. The judged class is class 1, her method 1. -/
namespace start1
open Jvm.ClassFile
def u (s : String) : CpInfo := .utf8 (stringToUtf16 s)
/-- a pool by its gaps: so many unusable entries, then the entry; so many at the end -/
def gap : Nat → List CpInfo → List CpInfo
  | 0, r => r
  | n + 1, r => .unusable :: gap n r
def poolList (es : List (Nat × CpInfo)) (last : Nat) : List CpInfo := es.foldr (fun e r => gap e.1 (e.2 :: r)) (gap last [])
def pool (es : List (Nat × CpInfo)) (last : Nat) : Array CpInfo := ⟨poolList es last⟩
def fileOf (pool : Array CpInfo) (this : Nat) (attrs : Array Attribute := #[]) (ms : Array MethodInfo := #[]) (fl : Nat := 33) (sup : Nat := 0) (ifs : Array Nat := #[]) (fds : Array FieldInfo := #[]) : ClassFile where
  minorVersion := 0
  majorVersion := 65
  constantPool := pool
  accessFlags := fl
  thisClass := this
  superClass := sup
  interfaces := ifs
  fields := fds
  methods := ms
  attributes := attrs
def plain (name : String) (sup : Option ClassId) : Class where
  name := name
  kind := .ordinary
  loader := none
  accessFlags := 33
  super := sup
  interfaces := #[]
  cf := none
  fields := #[]
  methods := #[]
  instanceTypes := #[]
  staticTypes := #[]
  resolved := #[]
  callSites := []
  init := .initialized
  statics := none
  mirror := none

def pool0 : Array CpInfo := pool [(5, u "<init>"), (0, u "()V"), (1, .class_ 10), (1, u "java/lang/Object")] 113

def k0m0 : Method := { name := "<init>", desc := "()V", sig := { parameters := [], returnType := none }, accessFlags := 1, code := none }
/-- java/lang/Object -/
def k0 : Class := { plain "java/lang/Object" none with
  accessFlags := 33
  interfaces := #[]
  cf := some (fileOf pool0 8 #[] #[{ accessFlags := 1, nameIndex := 5, descriptorIndex := 6, attributes := #[] }] 33 0 #[] #[])
  fields := #[]
  methods := #[k0m0]
  instanceTypes := #[]
  staticTypes := #[]
  resolved := Array.replicate 124 none
  statics := none }

def pool1 : Array CpInfo := pool [(2, .class_ 4), (1, u "java/lang/Object"), (0, u "<init>"), (0, u "()V"), (0, .methodref 8 9), (0, .class_ 10), (0, .nameAndType 11 12), (0, u "com/example/libprocgraph/libprocgraph/reader/TextCursor"), (0, u "isNameStart"), (0, u "(C)Z"), (0, .class_ 14), (0, u "com/example/libprocgraph/libprocgraph/reader/TextCursorIsNameStartPinLaw"), (2, u "law"), (0, u "(I)Z")] 3

def k1m0 : Method := { name := "<init>", desc := "()V", sig := { parameters := [], returnType := none }, accessFlags := 2, code := none }
def k1c1 : Code := { maxStack := 2, maxLocals := 5, code := code, exceptionTable := #[], attributes := #[] }
def k1m1 : Method := { name := "law", desc := "(I)Z", sig := { parameters := [.int], returnType := some .boolean }, accessFlags := 9, code := some k1c1 }
/-- com/example/libprocgraph/libprocgraph/reader/TextCursorIsNameStartPinLaw -/
def k1 : Class := { plain "com/example/libprocgraph/libprocgraph/reader/TextCursorIsNameStartPinLaw" (some 0) with
  accessFlags := 49
  interfaces := #[]
  cf := some (fileOf pool1 13 #[] #[{ accessFlags := 2, nameIndex := 5, descriptorIndex := 6, attributes := #[] }, { accessFlags := 9, nameIndex := 17, descriptorIndex := 18, attributes := #[] }] 49 2 #[] #[])
  fields := #[]
  methods := #[k1m0, k1m1]
  instanceTypes := #[]
  staticTypes := #[]
  resolved := Array.replicate 22 none
  statics := none }

def pool2 : Array CpInfo := pool [(2, .class_ 4), (1, u "java/lang/Object"), (3, .class_ 10), (1, u "com/example/libprocgraph/libprocgraph/reader/TextCursor"), (0, u "line"), (0, u "I"), (2, u "column"), (2, u "text"), (0, u "Ljava/lang/String;"), (12, u "offset"), (13, u "(C)Z"), (33, .class_ 82), (1, u "com/example/libprocgraph/libprocgraph/reader/TextCursor$CharacterKind"), (53, u "isNameStart")] 59

def k2c0 : Code := { maxStack := 2, maxLocals := 1, code := prog_63_method_24_code, exceptionTable := #[], attributes := #[] }
def k2m0 : Method := { name := "isNameStart", desc := "(C)Z", sig := { parameters := [.char], returnType := some .boolean }, accessFlags := 9, code := some k2c0 }
/-- com/example/libprocgraph/libprocgraph/reader/TextCursor -/
def k2 : Class := { plain "com/example/libprocgraph/libprocgraph/reader/TextCursor" (some 0) with
  accessFlags := 49
  interfaces := #[]
  cf := some (fileOf pool2 8 #[.nestMembers #[80]] #[{ accessFlags := 9, nameIndex := 136, descriptorIndex := 46, attributes := #[] }] 49 2 #[] #[{ accessFlags := 18, nameIndex := 18, descriptorIndex := 19, attributes := #[] }, { accessFlags := 2, nameIndex := 32, descriptorIndex := 12, attributes := #[] }, { accessFlags := 2, nameIndex := 11, descriptorIndex := 12, attributes := #[] }, { accessFlags := 2, nameIndex := 15, descriptorIndex := 12, attributes := #[] }])
  fields := #[{ name := "text", type := (.object "java/lang/String"), accessFlags := 18, slot := 0, constantValue := 0 }, { name := "offset", type := .int, accessFlags := 2, slot := 1, constantValue := 0 }, { name := "line", type := .int, accessFlags := 2, slot := 2, constantValue := 0 }, { name := "column", type := .int, accessFlags := 2, slot := 3, constantValue := 0 }]
  methods := #[k2m0]
  instanceTypes := #[(.object "java/lang/String"), .int, .int, .int]
  staticTypes := #[]
  resolved := Array.replicate 196 none
  statics := none }

def pool3 : Array CpInfo := pool [(1, u "java/lang/Cloneable"), (0, .class_ 1), (0, u "java/lang/Object"), (0, .class_ 3)] 3

/-- java/lang/Cloneable -/
def k3 : Class := { plain "java/lang/Cloneable" (some 0) with
  accessFlags := 1537
  interfaces := #[]
  cf := some (fileOf pool3 2 #[] #[] 1537 4 #[] #[])
  fields := #[]
  methods := #[]
  instanceTypes := #[]
  staticTypes := #[]
  resolved := Array.replicate 8 none
  statics := none }

def pool4 : Array CpInfo := pool [(1, u "java/io/Serializable"), (0, .class_ 1), (0, u "java/lang/Object"), (0, .class_ 3)] 3

/-- java/io/Serializable -/
def k4 : Class := { plain "java/io/Serializable" (some 0) with
  accessFlags := 1537
  interfaces := #[]
  cf := some (fileOf pool4 2 #[] #[] 1537 4 #[] #[])
  fields := #[]
  methods := #[]
  instanceTypes := #[]
  staticTypes := #[]
  resolved := Array.replicate 8 none
  statics := none }

/-- the primitive byte -/
def k5 : Class := { plain "byte" none with kind := .primitive 'B', accessFlags := 0x411 }
/-- [B -/
def k6 : Class := { plain "[B" (some 0) with kind := .array 5 .byte, interfaces := #[3, 4], accessFlags := 1041 }

def heap : Heap := #[]
def classes : Array Class := #[k0, k1, k2, k3, k4, k5, k6]
def interned : List (Array UInt16 × Addr) := []
def slotsUsed : Nat := 0
def theMethod : MethodId := ⟨1, 1⟩
def args0 : Array Value := #[.int 5]
def aboutOver (below : List Frame) : State where
  vm := { classes := classes, interned := interned.toArray }
  heap := heap
  slotsUsed := slotsUsed
  threads := #[{ frames := .invoking theMethod args0 :: below }]
def below0 : List Frame := [.native { method := ⟨0, 0⟩, args := #[] }]
def about1 : State := aboutOver below0
def p0 : Program := .bare "" "" ""
def e0 : Env := launch0.env 0 0 0
theorem w_frames : about1.frames = Frame.invoking theMethod args0 :: below0 := rfl
set_option maxRecDepth 65536 in
theorem w_args : argsFit about1.vm theMethod args0 = true := by decide +kernel
set_option maxRecDepth 65536 in
theorem w_heap : heapFits about1 = true := by decide +kernel
set_option maxRecDepth 65536 in
theorem w_runnable : about1.curStatus? = some .runnable := by decide +kernel
set_option maxRecDepth 65536 in
theorem w_alone : about1.alone = true := by decide +kernel
set_option maxRecDepth 65536 in
theorem w_named : about1.methodNamed? x = some theMethod := by decide +kernel
set_option maxRecDepth 65536 in
theorem w_hears : about1.hears theMethod below0 = true := by decide +kernel
set_option maxRecDepth 65536 in
theorem w_ripe : about1.ripe theMethod args0 below0 = true := by decide +kernel
theorem w_running : about1.status = .running := rfl
set_option maxRecDepth 65536 in
theorem w_room : about1.hasRoom e0.platform room_1 = true :=
  launch0.hasRoom_least _ room_1 (by decide +kernel) (by decide +kernel) (by decide +kernel) (by decide +kernel) (by decide +kernel) (by decide +kernel)
theorem allAtoms_all (ts : List Jvm.Cond) (a : Array Jvm.Value) (st : Jvm.State) : (allAtoms ts).before a st = ts.all (fun c => c.before a st) := by
  induction ts with
  | nil => rfl
  | cons c t ih =>
    show (Jvm.Cond.and c (allAtoms t)).before a st = _
    rw [Jvm.Cond.before_and, ih, List.all_cons]
def words1 : List Jvm.Cond := Jvm.Cond.code x code maxLocals ret :: tables_1
/-- a 'code' word, met by the world's own term for the bytes: nothing is compared byte by byte -/
theorem code_word {y : MethodName} {bytes : ByteArray} {mx : Nat} {rt : Option FieldType} {a : Array Value} {s : State} {m : MethodId} {meth : Method} {c : Code} (h1 : s.methodNamed? y = some m) (h2 : s.vm.method? m = some meth) (h3 : meth.code = some c) (h4 : c.code = bytes)
    (h5 : (c.maxLocals == mx && c.exceptionTable.isEmpty && decide (c.maxStack ≤ mostOperands) && decide (meth.sig.returnType = rt) && !meth.locks && decide (parseMethodDescriptor y.desc = some meth.sig)) = true) : (Jvm.Cond.code y bytes mx rt).before a s = true := by
  simp only [Bool.and_eq_true, beq_iff_eq, Bool.not_eq_true', decide_eq_true_eq] at h5
  obtain ⟨⟨⟨⟨⟨g1, g2⟩, g3⟩, g4⟩, g5⟩, g6⟩ := h5
  simp [Cond.before, Cond.holds, Cond.value, h1, h2, h3, h4, g1, g2, g3, g4, g5, g6]
def isCode : Jvm.Cond → Bool
  | .code _ _ _ _ => true
  | _ => false
theorem all_split {L : List Jvm.Cond} {P : Jvm.Cond → Bool} (h1 : L.all (fun c => isCode c || P c) = true) (h2 : ∀ c ∈ L.filter isCode, P c = true) : L.all P = true := by
  refine List.all_eq_true.mpr fun c hc => ?_
  have h := List.all_eq_true.mp h1 c hc
  rcases Bool.eq_false_or_eq_true (isCode c) with hi | hi
  · exact h2 c (List.mem_filter.mpr ⟨hc, hi⟩)
  · simpa [hi] using h
set_option maxRecDepth 65536 in
theorem w_c0 : (Jvm.Cond.code x code maxLocals ret).before args0 about1 = true := code_word (m := ⟨1, 1⟩) (meth := k1m1) (c := k1c1) (by decide +kernel) rfl rfl rfl (by decide +kernel)
set_option maxRecDepth 65536 in
theorem w_c1 : (Jvm.Cond.code ({ cls := "com/example/libprocgraph/libprocgraph/reader/TextCursor", name := "isNameStart", desc := "(C)Z" } : Jvm.MethodName) prog_63_method_24_code (1 : Nat) (Option.some Jvm.ClassFile.FieldType.boolean)).before args0 about1 = true := code_word (m := ⟨2, 0⟩) (meth := k2m0) (c := k2c0) (by decide +kernel) rfl rfl rfl (by decide +kernel)
def codes1 : List Jvm.Cond := [Jvm.Cond.code x code maxLocals ret, Jvm.Cond.code ({ cls := "com/example/libprocgraph/libprocgraph/reader/TextCursor", name := "isNameStart", desc := "(C)Z" } : Jvm.MethodName) prog_63_method_24_code (1 : Nat) (Option.some Jvm.ClassFile.FieldType.boolean)]
set_option maxRecDepth 65536 in
theorem codes_eq : words1.filter isCode = codes1 := rfl
theorem w_codes : ∀ c ∈ words1.filter isCode, c.before args0 about1 = true := by
  rw [codes_eq]
  intro c hc
  simp only [codes1, List.mem_cons, List.not_mem_nil, or_false] at hc
  rcases hc with rfl | rfl
  · exact w_c0
  · exact w_c1
set_option maxRecDepth 65536 in
theorem w_t1 : words1.all (fun c => isCode c || c.before args0 about1) = true := by decide +kernel
theorem w_tables : (allAtoms (Jvm.Cond.code x code maxLocals ret :: tables_1)).before args0 about1 = true := by
  rw [allAtoms_all]
  show words1.all (fun c => c.before args0 about1) = true
  refine all_split ?_ w_codes
  rw [w_t1]
set_option maxRecDepth 65536 in
theorem w_case : (Jvm.Cond.and given_1 narrow_1).before args0 about1 = true := by decide +kernel
theorem w_applies : (headSpec (Jvm.Cond.code x code maxLocals ret :: tables_1) room_1).applies x e0.platform about1 = true :=
  (Spec.applies_iff w_frames).mpr ⟨w_running, w_runnable, w_alone, w_named, w_hears, w_ripe, w_room, w_tables⟩
theorem atStart : AtStart classFile x code maxLocals ret World_1 tables_1 room_1 Calls_1 rest_1 Pre_1 launch0 p0 e0 about1 theMethod args0 below0 :=
  ⟨lists_1, trivial, launch0.admits_env _ _ _, launch0.least_env, fairChoices_fair.cas, fairChoices_fair.clock, w_frames, w_args, w_heap, w_applies, trivial, trivial, w_case⟩
end start1
theorem witness_1 : WitnessClaimed_1 := ⟨start1.p0, start1.e0, start1.about1, start1.theMethod, start1.args0, start1.below0, start1.atStart⟩
end Jvm.Pilot.@@N@@
