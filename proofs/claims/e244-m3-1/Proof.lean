import JvmDerived
import JvmDerived.Pilot.@@N@@Statement
import JvmDerived.Pilot.@@N@@Code
set_option linter.unusedVariables false
set_option linter.unusedSimpArgs false
@@BLOCK:NumsL.lean.txt@@
namespace Jvm.RoadKit
open Sem ClassFile Op Lib Jvm.Stand Jvm.Free Jvm.LawKit
section New
variable {p : Program} {l : Launch} {e : Env} {R : Room} {s : State} {m : MethodId} {args : Array Value} {below : List Frame} {meth : Method} {c : Code} {T : State} {locs : List Loc} {cells slots : Nat}
theorem retI (X : Stand p l e R s m args below meth c T locs cells slots) (hx : p.tables.exec = Jvm.exec) {pc : Nat} {Ls : Array Slot} {z : Int32} {rest : List Value} (hret : meth.sig.returnType = some .int) (hd : decode c.code pc = .ok (.ireturn, 1)) {fs : List Frame}
    (hl : ∀ (f : JFrame) (acts : List Action), f.method = m → f.locked = none → f.entered = [] → (doReturn e (T.setTop f) acts (some (.int z))).1 = T.setFrames fs) : Steps p.tables e below (T.setTop (mkF m pc Ls (.int z :: rest))) (T.setFrames fs) := by
  have hm' : T.vm.method? m = some meth := X.method'
  have hn : narrow .int (.int z) = .int z := rfl
  show Steps p.tables e below (T.setTop { method := m, pc := pc, locals := Ls, stack := _ :: rest, locked := none }) _
  jvm_step X.here [X.here.top, hx, hd, hm', hret, hn]
  first | (intro acts; rw [hl _ acts rfl rfl rfl]) | rw [hl _ _ rfl rfl rfl]
  exact Steps.refl _
end New
end Jvm.RoadKit
namespace Jvm.Pilot.@@N@@
open Jvm Jvm.ClassFile Sem Op Lib Jvm.Free Jvm.Stand Jvm.LawKit Jvm.RoadKit Bundle Jvm.Pilot.@@N@@.Jvm.D
theorem wd {Z : State} {a0 : Array Value} (hw : ∀ d ∈ tables_1, d.before a0 Z = true) (i : Nat) {d : Jvm.Cond} (h : tables_1[i]? = some d) : d.before a0 Z = true := hw _ (List.mem_of_getElem? h)
abbrev jv (x : Int64) : Slot := .val (.long x)
/-- from A the run comes to an end that R speaks of -/
abbrev own_Go (tb : Tables) (e : Env) (below : List Frame) (A : State) (R : State → Outcome → Prop) : Prop := ∃ s₂ o, Steps tb e below A s₂ ∧ R s₂ o
theorem own_go {tb : Tables} {e : Env} {below : List Frame} {A : State} {R : State → Outcome → Prop} (h : own_Go tb e below A R) : ∃ s₂ o, Steps tb e below A s₂ ∧ R s₂ o := h
theorem own_lift {tb : Tables} {e : Env} {below : List Frame} {A B : State} {R : State → Outcome → Prop} (h : ∀ t, Steps tb e below A t → Steps tb e below B t) (k : own_Go tb e below A R) : own_Go tb e below B R := by
  obtain ⟨t, o, k1, k2⟩ := k
  exact ⟨t, o, h t k1, k2⟩
theorem own_plain {Z : State} {h : Heap} {a : Addr} {C : String} (F : Exa Z h a C) : ∃ c : Cell, h[a]? = some c ∧ c.vm.isStatics = false := by
  obtain ⟨c, _, h1, -, -, h4, -⟩ := F
  exact ⟨c, h1, h4⟩
theorem own_Arr_keep {Z : State} {h h' : Heap} {a : Addr} {c : Cell} {ty : FieldType} {ws : List Addr} (F : Arr Z h a c ty) (K : Keep h h' ws) (q : a ∉ ws) : Arr Z h' a c ty := ⟨K.2.1 a c F.1 q, F.2⟩
theorem own_asymm {a b : Int32} (h : a < b) : ¬ b < a := Int32.not_lt.mpr (Int32.le_of_lt h)
theorem own_Sta_keep {Z : State} {h h' : Heap} {C n d : String} {v : Value} {ws : List Addr} (F : Sta Z h C n d v) (K : Keep h h' ws) (q : ∀ x ∈ ws, ∃ c : Cell, h[x]? = some c ∧ c.vm.isStatics = false) : Sta Z h' C n d v := by
  obtain ⟨cf, i, k, f, st, cell, h1, h2, h3, h4, h5, h6, h7⟩ := F
  refine ⟨cf, i, k, f, st, cell, h1, h2, h3, h4, K.2.1 st cell h5 fun z => ?_, h6, h7⟩
  obtain ⟨c, g1, g2⟩ := q st z
  cases h5.symm.trans g1
  rw [h6] at g2
  cases g2
theorem own_m16 (x : Int32) : ¬ ((x &&& (65535 : Int32)) < (0 : Int32)) ∧ ¬ ((65535 : Int32) < (x &&& (65535 : Int32))) := by
  have m : (x &&& (65535 : Int32)).toInt = x.toInt % 2 ^ 16 := Jvm.Kit.i32_mask x 65535 (k := 16) (by decide) (by decide)
  rw [Int32.lt_iff_toInt_lt, Int32.lt_iff_toInt_lt]
  have e0 : (0 : Int32).toInt = 0 := rfl
  have e8 : (65535 : Int32).toInt = 65535 := rfl
  omega
theorem own_m8 (x : Int32) : ¬ ((x &&& (255 : Int32)) < (0 : Int32)) ∧ ¬ ((255 : Int32) < (x &&& (255 : Int32))) := by
  have m : (x &&& (255 : Int32)).toInt = x.toInt % 2 ^ 8 := Jvm.Kit.i32_mask x 255 (k := 8) (by decide) (by decide)
  rw [Int32.lt_iff_toInt_lt, Int32.lt_iff_toInt_lt]
  have e0 : (0 : Int32).toInt = 0 := rfl
  have e8 : (255 : Int32).toInt = 255 := rfl
  omega
theorem own_s24_int (x : Int32) : -8388608 ≤ ((x <<< ((8 : Int32) &&& 31)) >>> ((8 : Int32) &&& 31)).toInt ∧ ((x <<< ((8 : Int32) &&& 31)) >>> ((8 : Int32) &&& 31)).toInt ≤ 8388607 := by
  have e : ((x <<< ((8 : Int32) &&& 31)) >>> ((8 : Int32) &&& 31)).toInt = (x <<< ((8 : Int32) &&& 31)).toInt / 2 ^ 8 := Jvm.Kit.i32_shr _ _ (by decide)
  have r := rng32 (x <<< ((8 : Int32) &&& 31))
  rw [e]
  omega
theorem own_s24 (x : Int32) : ¬ (((x <<< ((8 : Int32) &&& 31)) >>> ((8 : Int32) &&& 31)) < (-8388608 : Int32)) ∧ ¬ ((8388607 : Int32) < ((x <<< ((8 : Int32) &&& 31)) >>> ((8 : Int32) &&& 31))) := by
  have r := own_s24_int x
  rw [Int32.lt_iff_toInt_lt, Int32.lt_iff_toInt_lt]
  have e0 : (-8388608 : Int32).toInt = -8388608 := rfl
  have e8 : (8388607 : Int32).toInt = 8388607 := rfl
  omega
def own_tl (w1 w2 w3 w4 : Int32) : Int64 := ((((w1.toInt64) <<< ((48 : Int32) &&& 0x3f).toInt64) ||| ((w2.toInt64) <<< ((32 : Int32) &&& 0x3f).toInt64)) ||| ((w3.toInt64) <<< ((24 : Int32) &&& 0x3f).toInt64)) ||| ((w4.toInt64) &&& (16777215 : Int64))
theorem own_n64 {n : Nat} {x : Int} (e : x = if 2 * n < 2 ^ 64 then (n : Int) else (n : Int) - (2 ^ 64 : Nat)) (l : n < 2 ^ 64) (h : 0 ≤ x) : (n : Int) = x := by
  split at e <;> omega
theorem own_nat64 {x : Int64} (h : 0 ≤ x.toInt) : (x.toBitVec.toNat : Int) = x.toInt := own_n64 (BitVec.toInt_eq_toNat_cond x.toBitVec) x.toBitVec.isLt h
theorem own_shl {x : Int64} {a : Nat} (ha : x.toBitVec.toNat = a) (n : Int64) (k : Nat) (hn : (n.toBitVec.smod 64).toNat = k) (hlt : a * 2 ^ k < 2 ^ 64) : (x <<< n).toBitVec.toNat = a * 2 ^ k := by
  rw [Int64.toBitVec_shiftLeft, BitVec.shiftLeft_eq', BitVec.toNat_shiftLeft, ha, hn, Nat.shiftLeft_eq, Nat.mod_eq_of_lt hlt]
theorem own_or4 (a b c d : Nat) (ha : a ≤ 65535) (hb : b ≤ 65535) (hc : c ≤ 255) (hd : d < 2 ^ 24) : ((a * 2 ^ 48 ||| b * 2 ^ 32) ||| c * 2 ^ 24) ||| d = a * 2 ^ 48 + b * 2 ^ 32 + c * 2 ^ 24 + d := by
  have t1 : a * 2 ^ 48 ||| b * 2 ^ 32 = 2 ^ 48 * a + b * 2 ^ 32 := by rw [Nat.mul_comm a, ← Nat.two_pow_add_eq_or_of_lt (by omega)]
  have q2 : 2 ^ 48 * a + b * 2 ^ 32 = 2 ^ 32 * (2 ^ 16 * a + b) := by omega
  have t2 : 2 ^ 32 * (2 ^ 16 * a + b) ||| c * 2 ^ 24 = 2 ^ 32 * (2 ^ 16 * a + b) + c * 2 ^ 24 := by rw [← Nat.two_pow_add_eq_or_of_lt (by omega)]
  have q3 : 2 ^ 32 * (2 ^ 16 * a + b) + c * 2 ^ 24 = 2 ^ 24 * (2 ^ 24 * a + 2 ^ 8 * b + c) := by omega
  have t3 : 2 ^ 24 * (2 ^ 24 * a + 2 ^ 8 * b + c) ||| d = 2 ^ 24 * (2 ^ 24 * a + 2 ^ 8 * b + c) + d := by rw [← Nat.two_pow_add_eq_or_of_lt hd]
  rw [t1, q2, t2, q3, t3]
  omega
theorem own_up {a m : Nat} {w : Int} (h : (a : Int) = w) (h2 : w ≤ (m : Int)) : a ≤ m := by omega
theorem own_md {a : Nat} {w : Int} (h : (a : Int) = w % 2 ^ 24) : a < 2 ^ 24 := by omega
theorem own_cast {a b c d : Nat} {w1 w2 w3 w4 : Int} (n1 : (a : Int) = w1) (n2 : (b : Int) = w2) (n3 : (c : Int) = w3) (n4 : (d : Int) = w4 % 2 ^ 24) : ((a * 2 ^ 48 + b * 2 ^ 32 + c * 2 ^ 24 + d : Nat) : Int) = w1 * 2 ^ 48 + w2 * 2 ^ 32 + w3 * 2 ^ 24 + w4 % 2 ^ 24 := by omega
theorem own_l16 {a : Nat} (h : a ≤ 65535) : a * 2 ^ 48 < 2 ^ 64 ∧ a * 2 ^ 32 < 2 ^ 64 := by omega
theorem own_l8 {a : Nat} (h : a ≤ 255) : a * 2 ^ 24 < 2 ^ 64 := by omega
theorem own_tl_nat (w1 w2 w3 w4 : Int32) (h1 : 0 ≤ w1.toInt ∧ w1.toInt ≤ 65535) (h2 : 0 ≤ w2.toInt ∧ w2.toInt ≤ 65535) (h3 : 0 ≤ w3.toInt ∧ w3.toInt ≤ 255) :
    ((own_tl w1 w2 w3 w4).toBitVec.toNat : Int) = w1.toInt * 2 ^ 48 + w2.toInt * 2 ^ 32 + w3.toInt * 2 ^ 24 + w4.toInt % 2 ^ 24 := by
  have n1 : (w1.toInt64.toBitVec.toNat : Int) = w1.toInt := (own_nat64 (by rw [Jvm.Kit.i64_of_i32]; exact h1.1)).trans (Jvm.Kit.i64_of_i32 w1)
  have n2 : (w2.toInt64.toBitVec.toNat : Int) = w2.toInt := (own_nat64 (by rw [Jvm.Kit.i64_of_i32]; exact h2.1)).trans (Jvm.Kit.i64_of_i32 w2)
  have n3 : (w3.toInt64.toBitVec.toNat : Int) = w3.toInt := (own_nat64 (by rw [Jvm.Kit.i64_of_i32]; exact h3.1)).trans (Jvm.Kit.i64_of_i32 w3)
  have m4 : (w4.toInt64 &&& (16777215 : Int64)).toInt = w4.toInt % 2 ^ 24 := by rw [Jvm.Kit.i64_mask w4.toInt64 16777215 (k := 24) (by decide) (by decide), Jvm.Kit.i64_of_i32]
  have n4 : ((w4.toInt64 &&& (16777215 : Int64)).toBitVec.toNat : Int) = w4.toInt % 2 ^ 24 := (own_nat64 (by rw [m4]; exact Int.emod_nonneg _ (by decide))).trans m4
  have a1 := own_up (m := 65535) n1 h1.2
  have a2 := own_up (m := 65535) n2 h2.2
  have a3 := own_up (m := 255) n3 h3.2
  have s1 := own_shl (x := w1.toInt64) rfl (((48 : Int32) &&& 0x3f).toInt64) 48 (by decide) (own_l16 a1).1
  have s2 := own_shl (x := w2.toInt64) rfl (((32 : Int32) &&& 0x3f).toInt64) 32 (by decide) (own_l16 a2).2
  have s3 := own_shl (x := w3.toInt64) rfl (((24 : Int32) &&& 0x3f).toInt64) 24 (by decide) (own_l8 a3)
  have key : (own_tl w1 w2 w3 w4).toBitVec.toNat = w1.toInt64.toBitVec.toNat * 2 ^ 48 + w2.toInt64.toBitVec.toNat * 2 ^ 32 + w3.toInt64.toBitVec.toNat * 2 ^ 24 + (w4.toInt64 &&& (16777215 : Int64)).toBitVec.toNat := by
    show ((((w1.toInt64) <<< ((48 : Int32) &&& 0x3f).toInt64).toBitVec ||| ((w2.toInt64) <<< ((32 : Int32) &&& 0x3f).toInt64).toBitVec) ||| ((w3.toInt64) <<< ((24 : Int32) &&& 0x3f).toInt64).toBitVec ||| ((w4.toInt64) &&& (16777215 : Int64)).toBitVec).toNat = _
    rw [BitVec.toNat_or, BitVec.toNat_or, BitVec.toNat_or, s1, s2, s3]
    exact own_or4 _ _ _ _ a1 a2 a3 (own_md n4)
  rw [key]
  exact own_cast n1 n2 n3 n4
theorem own_inj64 {x y : Int64} {k : Int} (h : x.toInt - y.toInt = 18446744073709551616 * k) : x = y := by
  have r1 := rng64 x
  have r2 := rng64 y
  exact Int64.toInt_inj.mp (by omega)
theorem own_m64 {n : Nat} {x : Int} (e : x = if 2 * n < 2 ^ 64 then (n : Int) else (n : Int) - (2 ^ 64 : Nat)) : ∃ k : Int, x = (n : Int) - 18446744073709551616 * k := by
  split at e
  · exact ⟨0, by omega⟩
  · exact ⟨1, by omega⟩
theorem own_mod64 (x : Int64) : ∃ k : Int, x.toInt = (x.toBitVec.toNat : Int) - 18446744073709551616 * k := own_m64 (BitVec.toInt_eq_toNat_cond x.toBitVec)
theorem own_r16 {x y : Int} (h : x = y % 2 ^ 16) : 0 ≤ x ∧ x ≤ 65535 := by omega
theorem own_r8 {x y : Int} (h : x = y % 2 ^ 8) : 0 ≤ x ∧ x ≤ 255 := by omega
theorem own_rngs (p0 p1 p2 : Int32) : (0 ≤ (p0 &&& (65535 : Int32)).toInt ∧ (p0 &&& (65535 : Int32)).toInt ≤ 65535) ∧ (0 ≤ (p1 &&& (65535 : Int32)).toInt ∧ (p1 &&& (65535 : Int32)).toInt ≤ 65535) ∧ (0 ≤ (p2 &&& (255 : Int32)).toInt ∧ (p2 &&& (255 : Int32)).toInt ≤ 255) :=
  ⟨own_r16 (Jvm.Kit.i32_mask p0 65535 (k := 16) (by decide) (by decide)), own_r16 (Jvm.Kit.i32_mask p1 65535 (k := 16) (by decide) (by decide)), own_r8 (Jvm.Kit.i32_mask p2 255 (k := 8) (by decide) (by decide))⟩
theorem own_dvd {x y : Int} (h : (x - y) % 18446744073709551616 = 0) : ∃ k : Int, x = y + 18446744073709551616 * k := ⟨(x - y) / 18446744073709551616, by omega⟩
theorem own_exp (a s v : Int32) (low : Int64) : ∃ k : Int, (((((a.toInt64) * (281474976710656 : Int64)) + ((s.toInt64) * (4294967296 : Int64))) + ((v.toInt64) * (16777216 : Int64))) + low).toInt = a.toInt * 281474976710656 + s.toInt * 4294967296 + v.toInt * 16777216 + low.toInt - 18446744073709551616 * k := by
  have i1 := Jvm.Kit.i64_of_i32 a
  have i2 := Jvm.Kit.i64_of_i32 s
  have i3 := Jvm.Kit.i64_of_i32 v
  obtain ⟨m1, e1⟩ := own_dvd (c_lmul a.toInt64 281474976710656)
  obtain ⟨m2, e2⟩ := own_dvd (c_lmul s.toInt64 4294967296)
  obtain ⟨m3, e3⟩ := own_dvd (c_lmul v.toInt64 16777216)
  have l1 : (281474976710656 : Int64).toInt = 281474976710656 := by decide
  have l2 : (4294967296 : Int64).toInt = 4294967296 := by decide
  have l3 : (16777216 : Int64).toInt = 16777216 := by decide
  rw [l1, i1] at e1
  rw [l2, i2] at e2
  rw [l3, i3] at e3
  obtain ⟨m4, e4⟩ := own_dvd (c_ladd ((a.toInt64) * (281474976710656 : Int64)) ((s.toInt64) * (4294967296 : Int64)))
  obtain ⟨m5, e5⟩ := own_dvd (c_ladd (((a.toInt64) * (281474976710656 : Int64)) + ((s.toInt64) * (4294967296 : Int64))) ((v.toInt64) * (16777216 : Int64)))
  obtain ⟨m6, e6⟩ := own_dvd (c_ladd ((((a.toInt64) * (281474976710656 : Int64)) + ((s.toInt64) * (4294967296 : Int64))) + ((v.toInt64) * (16777216 : Int64))) low)
  refine ⟨-(m1 + m2 + m3 + m4 + m5 + m6), ?_⟩
  rw [e6, e5, e4, e1, e2, e3]
  omega
theorem own_aN {t e N a s v f low k1 k2 : Int} (n : N = a * 2 ^ 48 + s * 2 ^ 32 + v * 2 ^ 24 + f % 2 ^ 24) (e1 : t = N - 18446744073709551616 * k1) (e2 : e = a * 281474976710656 + s * 4294967296 + v * 16777216 + low - 18446744073709551616 * k2) (hl : low = f + 16777216) (h4 : -8388608 ≤ f ∧ f ≤ 8388607) (c : f < 0) : t - e = 18446744073709551616 * (k2 - k1) := by omega
theorem own_aP {t e N a s v f low k1 k2 : Int} (n : N = a * 2 ^ 48 + s * 2 ^ 32 + v * 2 ^ 24 + f % 2 ^ 24) (e1 : t = N - 18446744073709551616 * k1) (e2 : e = a * 281474976710656 + s * 4294967296 + v * 16777216 + low - 18446744073709551616 * k2) (hl : low = f) (h4 : -8388608 ≤ f ∧ f ≤ 8388607) (c : ¬ f < 0) : t - e = 18446744073709551616 * (k2 - k1) := by omega
theorem own_bd {x y f : Int} (e1 : x = f) (e2 : y = 16777216) (h4 : -8388608 ≤ f ∧ f ≤ 8388607) : -2 ^ 63 ≤ x + y ∧ x + y < 2 ^ 63 := by omega
theorem own_directN (p0 p1 p2 p3 : Int32) (c1 : ((p3 <<< ((8 : Int32) &&& 31)) >>> ((8 : Int32) &&& 31)) < (0 : Int32)) : (own_tl (p0 &&& (65535 : Int32)) (p1 &&& (65535 : Int32)) (p2 &&& (255 : Int32)) ((p3 <<< ((8 : Int32) &&& 31)) >>> ((8 : Int32) &&& 31))) = ((((((p0 &&& (65535 : Int32)).toInt64) * (281474976710656 : Int64)) + (((p1 &&& (65535 : Int32)).toInt64) * (4294967296 : Int64))) + (((p2 &&& (255 : Int32)).toInt64) * (16777216 : Int64))) + ((((p3 <<< ((8 : Int32) &&& 31)) >>> ((8 : Int32) &&& 31)).toInt64) + (16777216 : Int64))) := by
  obtain ⟨h1, h2, h3⟩ := own_rngs p0 p1 p2
  have h4 := own_s24_int p3
  have n := own_tl_nat (p0 &&& (65535 : Int32)) (p1 &&& (65535 : Int32)) (p2 &&& (255 : Int32)) ((p3 <<< ((8 : Int32) &&& 31)) >>> ((8 : Int32) &&& 31)) h1 h2 h3
  obtain ⟨k1, e1⟩ := own_mod64 (own_tl (p0 &&& (65535 : Int32)) (p1 &&& (65535 : Int32)) (p2 &&& (255 : Int32)) ((p3 <<< ((8 : Int32) &&& 31)) >>> ((8 : Int32) &&& 31)))
  obtain ⟨k2, e2⟩ := own_exp (p0 &&& (65535 : Int32)) (p1 &&& (65535 : Int32)) (p2 &&& (255 : Int32)) ((((p3 <<< ((8 : Int32) &&& 31)) >>> ((8 : Int32) &&& 31)).toInt64) + (16777216 : Int64))
  have i4 := Jvm.Kit.i64_of_i32 ((p3 <<< ((8 : Int32) &&& 31)) >>> ((8 : Int32) &&& 31))
  have l3 : (16777216 : Int64).toInt = 16777216 := by decide
  have bd := own_bd i4 l3 h4
  have s4 : ((((p3 <<< ((8 : Int32) &&& 31)) >>> ((8 : Int32) &&& 31)).toInt64) + (16777216 : Int64)).toInt = ((p3 <<< ((8 : Int32) &&& 31)) >>> ((8 : Int32) &&& 31)).toInt + 16777216 := by rw [Jvm.Kit.i64_add bd.1 bd.2, i4, l3]
  exact own_inj64 (own_aN n e1 e2 s4 h4 (Int32.lt_iff_toInt_lt.mp c1))
theorem own_directP (p0 p1 p2 p3 : Int32) (c1 : ¬ (((p3 <<< ((8 : Int32) &&& 31)) >>> ((8 : Int32) &&& 31)) < (0 : Int32))) : (own_tl (p0 &&& (65535 : Int32)) (p1 &&& (65535 : Int32)) (p2 &&& (255 : Int32)) ((p3 <<< ((8 : Int32) &&& 31)) >>> ((8 : Int32) &&& 31))) = ((((((p0 &&& (65535 : Int32)).toInt64) * (281474976710656 : Int64)) + (((p1 &&& (65535 : Int32)).toInt64) * (4294967296 : Int64))) + (((p2 &&& (255 : Int32)).toInt64) * (16777216 : Int64))) + (((p3 <<< ((8 : Int32) &&& 31)) >>> ((8 : Int32) &&& 31)).toInt64)) := by
  obtain ⟨h1, h2, h3⟩ := own_rngs p0 p1 p2
  have h4 := own_s24_int p3
  have n := own_tl_nat (p0 &&& (65535 : Int32)) (p1 &&& (65535 : Int32)) (p2 &&& (255 : Int32)) ((p3 <<< ((8 : Int32) &&& 31)) >>> ((8 : Int32) &&& 31)) h1 h2 h3
  obtain ⟨k1, e1⟩ := own_mod64 (own_tl (p0 &&& (65535 : Int32)) (p1 &&& (65535 : Int32)) (p2 &&& (255 : Int32)) ((p3 <<< ((8 : Int32) &&& 31)) >>> ((8 : Int32) &&& 31)))
  obtain ⟨k2, e2⟩ := own_exp (p0 &&& (65535 : Int32)) (p1 &&& (65535 : Int32)) (p2 &&& (255 : Int32)) (((p3 <<< ((8 : Int32) &&& 31)) >>> ((8 : Int32) &&& 31)).toInt64)
  have i4 := Jvm.Kit.i64_of_i32 ((p3 <<< ((8 : Int32) &&& 31)) >>> ((8 : Int32) &&& 31))
  exact own_inj64 (own_aP n e1 e2 i4 h4 (fun q => c1 (Int32.lt_iff_toInt_lt.mpr q)))
theorem own_us {n N k : Nat} {x : Int} (e : n = N / 2 ^ k) (c : x = if 2 * n < 2 ^ 64 then (n : Int) else (n : Int) - (2 ^ 64 : Nat)) (l : N < 2 ^ 64) (b : N / 2 ^ k ≤ N / 2 ^ 1) : x = ((N / 2 ^ k : Nat) : Int) := by
  rw [e] at c
  generalize N / 2 ^ k = q at *
  rw [if_pos (by omega)] at c
  exact c
theorem own_ushr64 (q : Int64) (n : UInt64) (k : Nat) (hn : n.toNat = k) (h0 : 0 < k) (hk : k < 64) : ((q.toUInt64 >>> n).toInt64).toInt = ((q.toBitVec.toNat / 2 ^ k : Nat) : Int) := by
  have e : ((q.toUInt64 >>> n).toInt64).toBitVec.toNat = q.toBitVec.toNat / 2 ^ k := by
    show (q.toUInt64 >>> n).toNat = _
    rw [UInt64.toNat_shiftRight, hn, Nat.mod_eq_of_lt hk, Nat.shiftRight_eq_div_pow]
    rfl
  exact own_us e (BitVec.toInt_eq_toNat_cond _) q.toBitVec.isLt (Nat.div_le_div_left (Nat.pow_le_pow_right (by decide) h0) (by decide))
theorem own_l2 {x y : Int} (h : (x - y) % 4294967296 = 0) : ∃ k : Int, x = y - 4294967296 * k := ⟨(y - x) / 4294967296, by omega⟩
theorem own_l2i (x : Int64) : ∃ k : Int, x.toInt32.toInt = x.toInt - 4294967296 * k := by
  rw [Int64.toInt_toInt32]
  exact own_l2 (bm32 x.toInt)
theorem own_t48 {b : Nat} {u : Int} (h : u = ((b / 2 ^ 48 : Nat) : Int)) (l : b < 2 ^ 64) : 0 ≤ u ∧ u ≤ 65535 ∧ -2 ^ 31 ≤ u ∧ u < 2 ^ 31 := by omega
theorem own_ofA (q1 : Int64) : (((q1.toUInt64 >>> ((48 : Int32) &&& 0x3f).toInt64.toUInt64).toInt64).toInt32).toInt = ((q1.toBitVec.toNat / 2 ^ 48 : Nat) : Int) := by
  have u := own_ushr64 q1 (((48 : Int32) &&& 0x3f).toInt64.toUInt64) 48 (by decide) (by decide) (by decide)
  have r := own_t48 u q1.toBitVec.isLt
  rw [Jvm.Kit.i32_of_i64 r.2.2.1 r.2.2.2, u]
theorem own_h16 (q1 : Int64) : ¬ ((((q1.toUInt64 >>> ((48 : Int32) &&& 0x3f).toInt64.toUInt64).toInt64).toInt32) < (0 : Int32)) ∧ ¬ ((65535 : Int32) < (((q1.toUInt64 >>> ((48 : Int32) &&& 0x3f).toInt64.toUInt64).toInt64).toInt32)) := by
  have r := own_t48 (own_ofA q1) q1.toBitVec.isLt
  rw [Int32.lt_iff_toInt_lt, Int32.lt_iff_toInt_lt]
  exact ⟨Int.not_lt.mpr r.1, Int.not_lt.mpr r.2.1⟩
theorem own_sx {D S X : Int} {xb sb : Nat} (e : D = S / 2 ^ 8) (b : sb = xb * 2 ^ 8 % 2 ^ 32) (c : S = if 2 * sb < 2 ^ 32 then (sb : Int) else (sb : Int) - (2 ^ 32 : Nat)) (f : X = if 2 * xb < 2 ^ 32 then (xb : Int) else (xb : Int) - (2 ^ 32 : Nat)) (l : xb < 2 ^ 32) : (D - X) % 2 ^ 24 = 0 := by
  split at c <;> split at f <;> omega
theorem own_ofD (x : Int32) : (((x <<< ((8 : Int32) &&& 31)) >>> ((8 : Int32) &&& 31)).toInt - x.toInt) % 2 ^ 24 = 0 := by
  have e : ((x <<< ((8 : Int32) &&& 31)) >>> ((8 : Int32) &&& 31)).toInt = (x <<< ((8 : Int32) &&& 31)).toInt / 2 ^ 8 := Jvm.Kit.i32_shr _ _ (by decide)
  have b : (x <<< ((8 : Int32) &&& 31)).toBitVec.toNat = x.toBitVec.toNat * 2 ^ 8 % 2 ^ 32 := by
    rw [Int32.toBitVec_shiftLeft, BitVec.shiftLeft_eq', BitVec.toNat_shiftLeft, Nat.shiftLeft_eq]
    have : (((8 : Int32) &&& 31).toBitVec.smod 32).toNat = 8 := by decide
    rw [this]
  exact own_sx e b (BitVec.toInt_eq_toNat_cond _) (BitVec.toInt_eq_toNat_cond _) x.toBitVec.isLt
theorem own_rd {b N : Nat} {A B C D x y u2 u3 t2 t3 k2 k3 k4 k5 : Int} (l : b < 2 ^ 64) (hA : A = ((b / 2 ^ 48 : Nat) : Int)) (hu2 : u2 = ((b / 2 ^ 32 : Nat) : Int)) (hu3 : u3 = ((b / 2 ^ 24 : Nat) : Int)) (ht2 : t2 = u2 - 4294967296 * k2) (ht3 : t3 = u3 - 4294967296 * k3) (hB : B = t2 % 2 ^ 16) (hC : C = t3 % 2 ^ 8) (hD : (D - x) % 2 ^ 24 = 0) (hx : x = y - 4294967296 * k4) (hy : y = (b : Int) - 18446744073709551616 * k5)
    (n : (N : Int) = A * 2 ^ 48 + B * 2 ^ 32 + C * 2 ^ 24 + D % 2 ^ 24) : N = b := by omega
theorem own_round (p4 : Int64) : (own_tl (((p4.toUInt64 >>> ((48 : Int32) &&& 0x3f).toInt64.toUInt64).toInt64).toInt32) ((((p4.toUInt64 >>> ((32 : Int32) &&& 0x3f).toInt64.toUInt64).toInt64).toInt32) &&& (65535 : Int32)) ((((p4.toUInt64 >>> ((24 : Int32) &&& 0x3f).toInt64.toUInt64).toInt64).toInt32) &&& (255 : Int32)) (((p4.toInt32) <<< ((8 : Int32) &&& 31)) >>> ((8 : Int32) &&& 31))) = p4 := by
  have l := p4.toBitVec.isLt
  have a1 := own_ofA p4
  have u2 := own_ushr64 p4 (((32 : Int32) &&& 0x3f).toInt64.toUInt64) 32 (by decide) (by decide) (by decide)
  have u3 := own_ushr64 p4 (((24 : Int32) &&& 0x3f).toInt64.toUInt64) 24 (by decide) (by decide) (by decide)
  obtain ⟨k2, t2⟩ := own_l2i ((p4.toUInt64 >>> ((32 : Int32) &&& 0x3f).toInt64.toUInt64).toInt64)
  obtain ⟨k3, t3⟩ := own_l2i ((p4.toUInt64 >>> ((24 : Int32) &&& 0x3f).toInt64.toUInt64).toInt64)
  obtain ⟨k4, t4⟩ := own_l2i p4
  have m2 : ((((p4.toUInt64 >>> ((32 : Int32) &&& 0x3f).toInt64.toUInt64).toInt64).toInt32) &&& (65535 : Int32)).toInt = (((p4.toUInt64 >>> ((32 : Int32) &&& 0x3f).toInt64.toUInt64).toInt64).toInt32).toInt % 2 ^ 16 := Jvm.Kit.i32_mask _ 65535 (k := 16) (by decide) (by decide)
  have m3 : ((((p4.toUInt64 >>> ((24 : Int32) &&& 0x3f).toInt64.toUInt64).toInt64).toInt32) &&& (255 : Int32)).toInt = (((p4.toUInt64 >>> ((24 : Int32) &&& 0x3f).toInt64.toUInt64).toInt64).toInt32).toInt % 2 ^ 8 := Jvm.Kit.i32_mask _ 255 (k := 8) (by decide) (by decide)
  have d4 := own_ofD p4.toInt32
  obtain ⟨k5, e5⟩ := own_mod64 p4
  have r := own_t48 a1 l
  have n := own_tl_nat (((p4.toUInt64 >>> ((48 : Int32) &&& 0x3f).toInt64.toUInt64).toInt64).toInt32) ((((p4.toUInt64 >>> ((32 : Int32) &&& 0x3f).toInt64.toUInt64).toInt64).toInt32) &&& (65535 : Int32)) ((((p4.toUInt64 >>> ((24 : Int32) &&& 0x3f).toInt64.toUInt64).toInt64).toInt32) &&& (255 : Int32)) (((p4.toInt32) <<< ((8 : Int32) &&& 31)) >>> ((8 : Int32) &&& 31)) ⟨r.1, r.2.1⟩ (own_r16 m2) (own_r8 m3)
  have key : (own_tl (((p4.toUInt64 >>> ((48 : Int32) &&& 0x3f).toInt64.toUInt64).toInt64).toInt32) ((((p4.toUInt64 >>> ((32 : Int32) &&& 0x3f).toInt64.toUInt64).toInt64).toInt32) &&& (65535 : Int32)) ((((p4.toUInt64 >>> ((24 : Int32) &&& 0x3f).toInt64.toUInt64).toInt64).toInt32) &&& (255 : Int32)) (((p4.toInt32) <<< ((8 : Int32) &&& 31)) >>> ((8 : Int32) &&& 31))).toBitVec.toNat = p4.toBitVec.toNat := own_rd l a1 u2 u3 t2 t3 m2 m3 d4 t4 e5 n
  exact Int64.toBitVec_inj.mp (BitVec.eq_of_toNat_eq key)
theorem pn_0 : plainName "com/example/halyard/halyard/core/mal/TypeId" = true := by first | (simp [plainName, overriddenIn]; done) | decide +kernel
theorem d1_0 : decode prog_48_method_1_code 0 = .ok (.aload_n 0, 1) := by decide +kernel
theorem d1_1 : decode prog_48_method_1_code 1 = .ok (.invokespecial 1, 3) := by decide +kernel
theorem d1_4 : decode prog_48_method_1_code 4 = .ok (.iload_n 1, 1) := by decide +kernel
theorem d1_5 : decode prog_48_method_1_code 5 = .ok (.ifCond .lt 44, 3) := by decide +kernel
theorem d1_8 : decode prog_48_method_1_code 8 = .ok (.iload_n 1, 1) := by decide +kernel
theorem d1_9 : decode prog_48_method_1_code 9 = .ok (.ldc 7, 2) := by decide +kernel
theorem d1_11 : decode prog_48_method_1_code 11 = .ok (.if_icmp .gt 38, 3) := by decide +kernel
theorem d1_14 : decode prog_48_method_1_code 14 = .ok (.iload_n 2, 1) := by decide +kernel
theorem d1_15 : decode prog_48_method_1_code 15 = .ok (.ifCond .lt 34, 3) := by decide +kernel
theorem d1_18 : decode prog_48_method_1_code 18 = .ok (.iload_n 2, 1) := by decide +kernel
theorem d1_19 : decode prog_48_method_1_code 19 = .ok (.ldc 7, 2) := by decide +kernel
theorem d1_21 : decode prog_48_method_1_code 21 = .ok (.if_icmp .gt 28, 3) := by decide +kernel
theorem d1_24 : decode prog_48_method_1_code 24 = .ok (.iload_n 3, 1) := by decide +kernel
theorem d1_25 : decode prog_48_method_1_code 25 = .ok (.ifCond .lt 24, 3) := by decide +kernel
theorem d1_28 : decode prog_48_method_1_code 28 = .ok (.iload_n 3, 1) := by decide +kernel
theorem d1_29 : decode prog_48_method_1_code 29 = .ok (.sipush 255, 3) := by decide +kernel
theorem d1_32 : decode prog_48_method_1_code 32 = .ok (.if_icmp .gt 17, 3) := by decide +kernel
theorem d1_35 : decode prog_48_method_1_code 35 = .ok (.iload 4, 2) := by decide +kernel
theorem d1_37 : decode prog_48_method_1_code 37 = .ok (.ldc 10, 2) := by decide +kernel
theorem d1_39 : decode prog_48_method_1_code 39 = .ok (.if_icmp .lt 10, 3) := by decide +kernel
theorem d1_42 : decode prog_48_method_1_code 42 = .ok (.iload 4, 2) := by decide +kernel
theorem d1_44 : decode prog_48_method_1_code 44 = .ok (.ldc 11, 2) := by decide +kernel
theorem d1_46 : decode prog_48_method_1_code 46 = .ok (.if_icmp .le 21, 3) := by decide +kernel
theorem d1_67 : decode prog_48_method_1_code 67 = .ok (.aload_n 0, 1) := by decide +kernel
theorem d1_68 : decode prog_48_method_1_code 68 = .ok (.iload_n 1, 1) := by decide +kernel
theorem d1_69 : decode prog_48_method_1_code 69 = .ok (.putfield 21, 3) := by decide +kernel
theorem d1_72 : decode prog_48_method_1_code 72 = .ok (.aload_n 0, 1) := by decide +kernel
theorem d1_73 : decode prog_48_method_1_code 73 = .ok (.iload_n 2, 1) := by decide +kernel
theorem d1_74 : decode prog_48_method_1_code 74 = .ok (.putfield 25, 3) := by decide +kernel
theorem d1_77 : decode prog_48_method_1_code 77 = .ok (.aload_n 0, 1) := by decide +kernel
theorem d1_78 : decode prog_48_method_1_code 78 = .ok (.iload_n 3, 1) := by decide +kernel
theorem d1_79 : decode prog_48_method_1_code 79 = .ok (.putfield 28, 3) := by decide +kernel
theorem d1_82 : decode prog_48_method_1_code 82 = .ok (.aload_n 0, 1) := by decide +kernel
theorem d1_83 : decode prog_48_method_1_code 83 = .ok (.iload 4, 2) := by decide +kernel
theorem d1_85 : decode prog_48_method_1_code 85 = .ok (.putfield 31, 3) := by decide +kernel
theorem d1_88 : decode prog_48_method_1_code 88 = .ok (.return_, 1) := by decide +kernel
def Q_rmInit (Z : State) (a1 : Addr) (p1 : Int32) (p2 : Int32) (p3 : Int32) (p4 : Int32) (h0 : Heap) (n0 : Nat) (v : Option Value) (h : Heap) (L : List Loc) : Prop := v = none ∧ Fr n0 L ∧ Keep h0 h [a1] ∧ Exa Z h a1 "com/example/halyard/halyard/core/mal/TypeId" ∧ Fld Z h a1 "com/example/halyard/halyard/core/mal/TypeId" "area" "I" (.int p1) ∧ Fld Z h a1 "com/example/halyard/halyard/core/mal/TypeId" "service" "I" (.int p2) ∧ Fld Z h a1 "com/example/halyard/halyard/core/mal/TypeId" "areaVersion" "I" (.int p3) ∧ Fld Z h a1 "com/example/halyard/halyard/core/mal/TypeId" "shortFormPart" "I" (.int p4)
theorem ef_rmInit (m : MethodId) (x0 : Addr) (x1 : Int32) (x2 : Int32) (x3 : Int32) (x4 : Int32) : entryFrame m #[(.ref x0), (.int x1), (.int x2), (.int x3), (.int x4)] 5 = mkF m 0 #[.val (.ref x0), .val (.int x1), .val (.int x2), .val (.int x3), .val (.int x4)] [] := by first | (simp [entryFrame, mkF, argsToLocals, Value.category]; done) | rfl
set_option maxRecDepth 65536 in
set_option maxHeartbeats 40000000 in
theorem rmInit (l : Launch) (Z : State) (a0 : Array Value) (hw : ∀ d ∈ tables_1, d.before a0 Z = true) (ws : List Jvm.Cond) (a1 : Addr) (p1 : Int32) (p2 : Int32) (p3 : Int32) (p4 : Int32) (h0 : Heap) (n0 : Nat) (Z0 : n0 ≤ h0.size) (F0 : Fld Z h0 a1 "com/example/halyard/halyard/core/mal/TypeId" "area" "I" (.int 0)) (F1 : Fld Z h0 a1 "com/example/halyard/halyard/core/mal/TypeId" "service" "I" (.int 0)) (F2 : Fld Z h0 a1 "com/example/halyard/halyard/core/mal/TypeId" "areaVersion" "I" (.int 0)) (F3 : Fld Z h0 a1 "com/example/halyard/halyard/core/mal/TypeId" "shortFormPart" "I" (.int 0)) (E1 : Exa Z h0 a1 "com/example/halyard/halyard/core/mal/TypeId") (G1 : n0 ≤ a1) (c0 : ¬ (p1 < (0 : Int32))) (c1 : ¬ ((65535 : Int32) < p1)) (c2 : ¬ (p2 < (0 : Int32))) (c3 : ¬ ((65535 : Int32) < p2)) (c4 : ¬ (p3 < (0 : Int32))) (c5 : ¬ ((255 : Int32) < p3)) (c6 : ¬ (p4 < (-8388608 : Int32))) (c7 : ¬ ((8388607 : Int32) < p4)) :
    MetFree l (⟨"com/example/halyard/halyard/core/mal/TypeId", "<init>", "(IIII)V"⟩ : MethodName) (head1 (Jvm.Cond.code (⟨"com/example/halyard/halyard/core/mal/TypeId", "<init>", "(IIII)V"⟩ : MethodName) prog_48_method_1_code 5 none :: ws) ({ frames := 1, cells := 0, slots := 0, locals := 12 } : Room)) (fun a U => a = #[(.ref a1), (.int p1), (.int p2), (.int p3), (.int p4)] ∧ Z.Warmed39 U.vm ∧ U.heap = h0) (fun _ _ _ _ _ => True) (fun _ U o U' => ∃ v L, o = .returned v ∧ Q_rmInit Z a1 p1 p2 p3 p4 h0 n0 v U'.heap L ∧ FrameEnd U o U' L ({ frames := 1, cells := 0, slots := 0, locals := 12 } : Room).cells ({ frames := 1, cells := 0, slots := 0, locals := 12 } : Room).slots) := by
  refine MetFree.of_bodySF (plainFor_of_name pn_0) hisR ?_
  intro p e s m args below meth c s₁ Bd hml0 hP hK
  obtain ⟨rfl, hZ, hh⟩ := hP
  have hx := Bd.exec
  have hby := Bd.bytes
  have hml : c.maxLocals = 5 := hml0
  have hown : s.vm.findClass "com/example/halyard/halyard/core/mal/TypeId" = some m.cls := findClass_of_methodNamed Bd.named
  have hnm := (name_of_methodNamed Bd.named Bd.method).1
  have X0 : Stand p l e ({ frames := 1, cells := 0, slots := 0, locals := 12 } : Room) s m #[(.ref a1), (.int p1), (.int p2), (.int p3), (.int p4)] below meth c s₁ [] 0 0 := Stand.of_body Bd
  have e0 : s₁.heap = h0 := by rw [← hh, Bd.state]; rfl
  have N0 := Fr.nil n0
  refine own_go (own_lift (fun t k => castTop (ef_rmInit m a1 p1 p2 p3 p4) k) ?_)
  show own_Go p.tables e below (s₁.setTop (mkF m 0 #[rv a1, iv p1, iv p2, iv p3, iv p4] [])) _
  have sg1 : ∀ t, Steps p.tables e below (s₁.setTop (mkF m 1 #[rv a1, iv p1, iv p2, iv p3, iv p4] [(.ref a1)])) t → Steps p.tables e below (s₁.setTop (mkF m 0 #[rv a1, iv p1, iv p2, iv p3, iv p4] [])) t := by
    intro t k
    refine XS.aloadN X0.here hx rfl (hb hby d1_0) rfl rfl ?_
    show Steps p.tables e below (s₁.setTop (mkF m 1 #[rv a1, iv p1, iv p2, iv p3, iv p4] [(.ref a1)])) _
    exact k
  refine own_lift sg1 ?_
  show own_Go p.tables e below (s₁.setTop (mkF m 1 #[rv a1, iv p1, iv p2, iv p3, iv p4] [(.ref a1)])) _
  obtain ⟨T2, X2, e2, st2⟩ := initO X0 hx hZ hown (wd hw 7 rfl) (wd hw 8 rfl) (wd hw 9 rfl) e0 (g := (mkF m 1 #[rv a1, iv p1, iv p2, iv p3, iv p4] [(.ref a1)])) rfl (by rw [hml]; rfl) rfl (hb hby d1_1) (by decide) (W := 0) (by show 2 * 0 + _ ≤ _; exact Nat.le_of_eq rfl) (by decide)
  refine own_lift st2 ?_
  show own_Go p.tables e below (T2.setTop (mkF m 4 #[rv a1, iv p1, iv p2, iv p3, iv p4] [])) _
  have sg3 : ∀ t, Steps p.tables e below (T2.setTop (mkF m 69 #[rv a1, iv p1, iv p2, iv p3, iv p4] [(.int p1), (.ref a1)])) t → Steps p.tables e below (T2.setTop (mkF m 4 #[rv a1, iv p1, iv p2, iv p3, iv p4] [])) t := by
    intro t k
    refine XS.iloadN X2.here hx rfl (hb hby d1_4) rfl ?_
    show Steps p.tables e below (T2.setTop (mkF m 5 #[rv a1, iv p1, iv p2, iv p3, iv p4] [(.int p1)])) _
    refine XS.ifNo X2.here hx rfl (hb hby d1_5) rfl ((if0 _ _).trans (flt c0).1) ?_
    show Steps p.tables e below (T2.setTop (mkF m 8 #[rv a1, iv p1, iv p2, iv p3, iv p4] [])) _
    refine XS.iloadN X2.here hx rfl (hb hby d1_8) rfl ?_
    show Steps p.tables e below (T2.setTop (mkF m 9 #[rv a1, iv p1, iv p2, iv p3, iv p4] [(.int p1)])) _
    refine X2.ldcInt hx hown (mvT hZ (wd hw 10 rfl)) (g := (mkF m 9 #[rv a1, iv p1, iv p2, iv p3, iv p4] [(.int p1)])) rfl (hb hby d1_9) _ ?_
    show Steps p.tables e below (T2.setTop (mkF m 11 #[rv a1, iv p1, iv p2, iv p3, iv p4] [(.int 65535), (.int p1)])) _
    refine XS.icmpNo X2.here hx rfl (hb hby d1_11) rfl (flt c1).2.2.1 ?_
    show Steps p.tables e below (T2.setTop (mkF m 14 #[rv a1, iv p1, iv p2, iv p3, iv p4] [])) _
    refine XS.iloadN X2.here hx rfl (hb hby d1_14) rfl ?_
    show Steps p.tables e below (T2.setTop (mkF m 15 #[rv a1, iv p1, iv p2, iv p3, iv p4] [(.int p2)])) _
    refine XS.ifNo X2.here hx rfl (hb hby d1_15) rfl ((if0 _ _).trans (flt c2).1) ?_
    show Steps p.tables e below (T2.setTop (mkF m 18 #[rv a1, iv p1, iv p2, iv p3, iv p4] [])) _
    refine XS.iloadN X2.here hx rfl (hb hby d1_18) rfl ?_
    show Steps p.tables e below (T2.setTop (mkF m 19 #[rv a1, iv p1, iv p2, iv p3, iv p4] [(.int p2)])) _
    refine X2.ldcInt hx hown (mvT hZ (wd hw 10 rfl)) (g := (mkF m 19 #[rv a1, iv p1, iv p2, iv p3, iv p4] [(.int p2)])) rfl (hb hby d1_19) _ ?_
    show Steps p.tables e below (T2.setTop (mkF m 21 #[rv a1, iv p1, iv p2, iv p3, iv p4] [(.int 65535), (.int p2)])) _
    refine XS.icmpNo X2.here hx rfl (hb hby d1_21) rfl (flt c3).2.2.1 ?_
    show Steps p.tables e below (T2.setTop (mkF m 24 #[rv a1, iv p1, iv p2, iv p3, iv p4] [])) _
    refine XS.iloadN X2.here hx rfl (hb hby d1_24) rfl ?_
    show Steps p.tables e below (T2.setTop (mkF m 25 #[rv a1, iv p1, iv p2, iv p3, iv p4] [(.int p3)])) _
    refine XS.ifNo X2.here hx rfl (hb hby d1_25) rfl ((if0 _ _).trans (flt c4).1) ?_
    show Steps p.tables e below (T2.setTop (mkF m 28 #[rv a1, iv p1, iv p2, iv p3, iv p4] [])) _
    refine XS.iloadN X2.here hx rfl (hb hby d1_28) rfl ?_
    show Steps p.tables e below (T2.setTop (mkF m 29 #[rv a1, iv p1, iv p2, iv p3, iv p4] [(.int p3)])) _
    refine XS.sipush X2.here hx rfl (hb hby d1_29) ?_
    show Steps p.tables e below (T2.setTop (mkF m 32 #[rv a1, iv p1, iv p2, iv p3, iv p4] [(.int 255), (.int p3)])) _
    refine XS.icmpNo X2.here hx rfl (hb hby d1_32) rfl (flt c5).2.2.1 ?_
    show Steps p.tables e below (T2.setTop (mkF m 35 #[rv a1, iv p1, iv p2, iv p3, iv p4] [])) _
    refine XS.iload X2.here hx rfl (hb hby d1_35) rfl ?_
    show Steps p.tables e below (T2.setTop (mkF m 37 #[rv a1, iv p1, iv p2, iv p3, iv p4] [(.int p4)])) _
    refine X2.ldcInt hx hown (mvT hZ (wd hw 11 rfl)) (g := (mkF m 37 #[rv a1, iv p1, iv p2, iv p3, iv p4] [(.int p4)])) rfl (hb hby d1_37) _ ?_
    show Steps p.tables e below (T2.setTop (mkF m 39 #[rv a1, iv p1, iv p2, iv p3, iv p4] [(.int (-8388608)), (.int p4)])) _
    refine XS.icmpNo X2.here hx rfl (hb hby d1_39) rfl (flt c6).1 ?_
    show Steps p.tables e below (T2.setTop (mkF m 42 #[rv a1, iv p1, iv p2, iv p3, iv p4] [])) _
    refine XS.iload X2.here hx rfl (hb hby d1_42) rfl ?_
    show Steps p.tables e below (T2.setTop (mkF m 44 #[rv a1, iv p1, iv p2, iv p3, iv p4] [(.int p4)])) _
    refine X2.ldcInt hx hown (mvT hZ (wd hw 12 rfl)) (g := (mkF m 44 #[rv a1, iv p1, iv p2, iv p3, iv p4] [(.int p4)])) rfl (hb hby d1_44) _ ?_
    show Steps p.tables e below (T2.setTop (mkF m 46 #[rv a1, iv p1, iv p2, iv p3, iv p4] [(.int 8388607), (.int p4)])) _
    refine XS.icmpYes X2.here hx rfl (pc0 := 46) (pc' := 67) rfl (hb hby d1_46) rfl (flt c7).2.2.2 (by decide) (by decide) ?_
    show Steps p.tables e below (T2.setTop (mkF m 67 #[rv a1, iv p1, iv p2, iv p3, iv p4] [])) _
    refine XS.aloadN X2.here hx rfl (hb hby d1_67) rfl rfl ?_
    show Steps p.tables e below (T2.setTop (mkF m 68 #[rv a1, iv p1, iv p2, iv p3, iv p4] [(.ref a1)])) _
    refine XS.iloadN X2.here hx rfl (hb hby d1_68) rfl ?_
    show Steps p.tables e below (T2.setTop (mkF m 69 #[rv a1, iv p1, iv p2, iv p3, iv p4] [(.int p1), (.ref a1)])) _
    exact k
  refine own_lift sg3 ?_
  show own_Go p.tables e below (T2.setTop (mkF m 69 #[rv a1, iv p1, iv p2, iv p3, iv p4] [(.int p1), (.ref a1)])) _
  obtain ⟨T4, h4, X4, e4, W4, st4⟩ := putF X2 hx hZ hown (host := "") (Or.inl (wd hw 13 rfl)) Via.refl e2 F0 E1 (Or.inr ⟨(wd hw 14 rfl), rfl, hnm⟩) (wd hw 2 rfl) (ty := .int) (by decide) rfl rfl (g := (mkF m 69 #[rv a1, iv p1, iv p2, iv p3, iv p4] [(.int p1), (.ref a1)])) rfl rfl (hb hby d1_69)
  have N4 := Fr.snoc X4 N0 G1
  have Z4 : n0 ≤ h4.size := Nat.le_trans Z0 (Nat.le_of_eq W4.size.symm)
  have K4 : Keep h0 h4 [a1] := (Keep.refl h0 [a1]).wr W4 (Or.inl (List.mem_of_getElem? (i := 0) rfl))
  have Fw4 : Fld Z h4 a1 "com/example/halyard/halyard/core/mal/TypeId" "area" "I" (.int p1) := F0.same W4
  refine own_lift st4 ?_
  show own_Go p.tables e below (T4.setTop (mkF m 72 #[rv a1, iv p1, iv p2, iv p3, iv p4] [])) _
  have sg5 : ∀ t, Steps p.tables e below (T4.setTop (mkF m 74 #[rv a1, iv p1, iv p2, iv p3, iv p4] [(.int p2), (.ref a1)])) t → Steps p.tables e below (T4.setTop (mkF m 72 #[rv a1, iv p1, iv p2, iv p3, iv p4] [])) t := by
    intro t k
    refine XS.aloadN X4.here hx rfl (hb hby d1_72) rfl rfl ?_
    show Steps p.tables e below (T4.setTop (mkF m 73 #[rv a1, iv p1, iv p2, iv p3, iv p4] [(.ref a1)])) _
    refine XS.iloadN X4.here hx rfl (hb hby d1_73) rfl ?_
    show Steps p.tables e below (T4.setTop (mkF m 74 #[rv a1, iv p1, iv p2, iv p3, iv p4] [(.int p2), (.ref a1)])) _
    exact k
  refine own_lift sg5 ?_
  show own_Go p.tables e below (T4.setTop (mkF m 74 #[rv a1, iv p1, iv p2, iv p3, iv p4] [(.int p2), (.ref a1)])) _
  have Fc6 : Fld Z h4 a1 "com/example/halyard/halyard/core/mal/TypeId" "service" "I" (.int 0) := (F1.other W4 (Or.inr (slot_ne (Or.inr (wd hw 16 rfl)) (Or.inr (wd hw 14 rfl)) (by decide) (t := .int) (t' := .int) (by decide) (by decide))))
  have Fc7 : Exa Z h4 a1 "com/example/halyard/halyard/core/mal/TypeId" := (E1.wr W4)
  obtain ⟨T8, h8, X8, e8, W8, st8⟩ := putF X4 hx hZ hown (host := "") (Or.inl (wd hw 15 rfl)) Via.refl e4 Fc6 Fc7 (Or.inr ⟨(wd hw 16 rfl), rfl, hnm⟩) (wd hw 2 rfl) (ty := .int) (by decide) rfl rfl (g := (mkF m 74 #[rv a1, iv p1, iv p2, iv p3, iv p4] [(.int p2), (.ref a1)])) rfl rfl (hb hby d1_74)
  have N8 := Fr.snoc X8 N4 G1
  have Z8 : n0 ≤ h8.size := Nat.le_trans Z4 (Nat.le_of_eq W8.size.symm)
  have K8 : Keep h0 h8 [a1] := K4.wr W8 (Or.inl (List.mem_of_getElem? (i := 0) rfl))
  have Fw8 : Fld Z h8 a1 "com/example/halyard/halyard/core/mal/TypeId" "service" "I" (.int p2) := Fc6.same W8
  refine own_lift st8 ?_
  show own_Go p.tables e below (T8.setTop (mkF m 77 #[rv a1, iv p1, iv p2, iv p3, iv p4] [])) _
  have sg9 : ∀ t, Steps p.tables e below (T8.setTop (mkF m 79 #[rv a1, iv p1, iv p2, iv p3, iv p4] [(.int p3), (.ref a1)])) t → Steps p.tables e below (T8.setTop (mkF m 77 #[rv a1, iv p1, iv p2, iv p3, iv p4] [])) t := by
    intro t k
    refine XS.aloadN X8.here hx rfl (hb hby d1_77) rfl rfl ?_
    show Steps p.tables e below (T8.setTop (mkF m 78 #[rv a1, iv p1, iv p2, iv p3, iv p4] [(.ref a1)])) _
    refine XS.iloadN X8.here hx rfl (hb hby d1_78) rfl ?_
    show Steps p.tables e below (T8.setTop (mkF m 79 #[rv a1, iv p1, iv p2, iv p3, iv p4] [(.int p3), (.ref a1)])) _
    exact k
  refine own_lift sg9 ?_
  show own_Go p.tables e below (T8.setTop (mkF m 79 #[rv a1, iv p1, iv p2, iv p3, iv p4] [(.int p3), (.ref a1)])) _
  have Fc10 : Fld Z h8 a1 "com/example/halyard/halyard/core/mal/TypeId" "areaVersion" "I" (.int 0) := ((F2.other W4 (Or.inr (slot_ne (Or.inr (wd hw 18 rfl)) (Or.inr (wd hw 14 rfl)) (by decide) (t := .int) (t' := .int) (by decide) (by decide)))).other W8 (Or.inr (slot_ne (Or.inr (wd hw 18 rfl)) (Or.inr (wd hw 16 rfl)) (by decide) (t := .int) (t' := .int) (by decide) (by decide))))
  have Fc11 : Exa Z h8 a1 "com/example/halyard/halyard/core/mal/TypeId" := (Fc7.wr W8)
  obtain ⟨T12, h12, X12, e12, W12, st12⟩ := putF X8 hx hZ hown (host := "") (Or.inl (wd hw 17 rfl)) Via.refl e8 Fc10 Fc11 (Or.inr ⟨(wd hw 18 rfl), rfl, hnm⟩) (wd hw 2 rfl) (ty := .int) (by decide) rfl rfl (g := (mkF m 79 #[rv a1, iv p1, iv p2, iv p3, iv p4] [(.int p3), (.ref a1)])) rfl rfl (hb hby d1_79)
  have N12 := Fr.snoc X12 N8 G1
  have Z12 : n0 ≤ h12.size := Nat.le_trans Z8 (Nat.le_of_eq W12.size.symm)
  have K12 : Keep h0 h12 [a1] := K8.wr W12 (Or.inl (List.mem_of_getElem? (i := 0) rfl))
  have Fw12 : Fld Z h12 a1 "com/example/halyard/halyard/core/mal/TypeId" "areaVersion" "I" (.int p3) := Fc10.same W12
  refine own_lift st12 ?_
  show own_Go p.tables e below (T12.setTop (mkF m 82 #[rv a1, iv p1, iv p2, iv p3, iv p4] [])) _
  have sg13 : ∀ t, Steps p.tables e below (T12.setTop (mkF m 85 #[rv a1, iv p1, iv p2, iv p3, iv p4] [(.int p4), (.ref a1)])) t → Steps p.tables e below (T12.setTop (mkF m 82 #[rv a1, iv p1, iv p2, iv p3, iv p4] [])) t := by
    intro t k
    refine XS.aloadN X12.here hx rfl (hb hby d1_82) rfl rfl ?_
    show Steps p.tables e below (T12.setTop (mkF m 83 #[rv a1, iv p1, iv p2, iv p3, iv p4] [(.ref a1)])) _
    refine XS.iload X12.here hx rfl (hb hby d1_83) rfl ?_
    show Steps p.tables e below (T12.setTop (mkF m 85 #[rv a1, iv p1, iv p2, iv p3, iv p4] [(.int p4), (.ref a1)])) _
    exact k
  refine own_lift sg13 ?_
  show own_Go p.tables e below (T12.setTop (mkF m 85 #[rv a1, iv p1, iv p2, iv p3, iv p4] [(.int p4), (.ref a1)])) _
  have Fc14 : Fld Z h12 a1 "com/example/halyard/halyard/core/mal/TypeId" "shortFormPart" "I" (.int 0) := (((F3.other W4 (Or.inr (slot_ne (Or.inr (wd hw 20 rfl)) (Or.inr (wd hw 14 rfl)) (by decide) (t := .int) (t' := .int) (by decide) (by decide)))).other W8 (Or.inr (slot_ne (Or.inr (wd hw 20 rfl)) (Or.inr (wd hw 16 rfl)) (by decide) (t := .int) (t' := .int) (by decide) (by decide)))).other W12 (Or.inr (slot_ne (Or.inr (wd hw 20 rfl)) (Or.inr (wd hw 18 rfl)) (by decide) (t := .int) (t' := .int) (by decide) (by decide))))
  have Fc15 : Exa Z h12 a1 "com/example/halyard/halyard/core/mal/TypeId" := (Fc11.wr W12)
  obtain ⟨T16, h16, X16, e16, W16, st16⟩ := putF X12 hx hZ hown (host := "") (Or.inl (wd hw 19 rfl)) Via.refl e12 Fc14 Fc15 (Or.inr ⟨(wd hw 20 rfl), rfl, hnm⟩) (wd hw 2 rfl) (ty := .int) (by decide) rfl rfl (g := (mkF m 85 #[rv a1, iv p1, iv p2, iv p3, iv p4] [(.int p4), (.ref a1)])) rfl rfl (hb hby d1_85)
  have N16 := Fr.snoc X16 N12 G1
  have Z16 : n0 ≤ h16.size := Nat.le_trans Z12 (Nat.le_of_eq W16.size.symm)
  have K16 : Keep h0 h16 [a1] := K12.wr W16 (Or.inl (List.mem_of_getElem? (i := 0) rfl))
  have Fw16 : Fld Z h16 a1 "com/example/halyard/halyard/core/mal/TypeId" "shortFormPart" "I" (.int p4) := Fc14.same W16
  refine own_lift st16 ?_
  show own_Go p.tables e below (T16.setTop (mkF m 88 #[rv a1, iv p1, iv p2, iv p3, iv p4] [])) _
  obtain ⟨fs, hr, hrun, hended, hW, hsame⟩ := X16.leave (v := none) (fun _ => rfl)
  have Fc17 : Exa Z h16 a1 "com/example/halyard/halyard/core/mal/TypeId" := (Fc15.wr W16)
  have Fc18 : Fld Z h16 a1 "com/example/halyard/halyard/core/mal/TypeId" "area" "I" (.int p1) := (((Fw4.other W8 (Or.inr (slot_ne (Or.inr (wd hw 14 rfl)) (Or.inr (wd hw 16 rfl)) (by decide) (t := .int) (t' := .int) (by decide) (by decide)))).other W12 (Or.inr (slot_ne (Or.inr (wd hw 14 rfl)) (Or.inr (wd hw 18 rfl)) (by decide) (t := .int) (t' := .int) (by decide) (by decide)))).other W16 (Or.inr (slot_ne (Or.inr (wd hw 14 rfl)) (Or.inr (wd hw 20 rfl)) (by decide) (t := .int) (t' := .int) (by decide) (by decide))))
  have Fc19 : Fld Z h16 a1 "com/example/halyard/halyard/core/mal/TypeId" "service" "I" (.int p2) := ((Fw8.other W12 (Or.inr (slot_ne (Or.inr (wd hw 16 rfl)) (Or.inr (wd hw 18 rfl)) (by decide) (t := .int) (t' := .int) (by decide) (by decide)))).other W16 (Or.inr (slot_ne (Or.inr (wd hw 16 rfl)) (Or.inr (wd hw 20 rfl)) (by decide) (t := .int) (t' := .int) (by decide) (by decide))))
  have Fc20 : Fld Z h16 a1 "com/example/halyard/halyard/core/mal/TypeId" "areaVersion" "I" (.int p3) := (Fw12.other W16 (Or.inr (slot_ne (Or.inr (wd hw 18 rfl)) (Or.inr (wd hw 20 rfl)) (by decide) (t := .int) (t' := .int) (by decide) (by decide))))
  refine ⟨_, _, ?_, hrun, hended, _, _, rfl, ?_, ⟨_, rfl⟩, hW, hsame.mono (by decide) (by decide)⟩
  · exact X16.returnOut hx Bd.returns (hb hby d1_88) hr
  · show Q_rmInit Z a1 p1 p2 p3 p4 h0 n0 _ T16.heap _
    rw [e16]
    exact ⟨rfl, N16, K16, Fc17, Fc18, Fc19, Fc20, Fw16⟩
theorem d2_0 : decode prog_48_method_3_code 0 = .ok (.aload_n 0, 1) := by decide +kernel
theorem d2_1 : decode prog_48_method_3_code 1 = .ok (.getfield 21, 3) := by decide +kernel
theorem d2_4 : decode prog_48_method_3_code 4 = .ok (.i2l, 1) := by decide +kernel
theorem d2_5 : decode prog_48_method_3_code 5 = .ok (.bipush 48, 2) := by decide +kernel
theorem d2_7 : decode prog_48_method_3_code 7 = .ok (.lshl, 1) := by decide +kernel
theorem d2_8 : decode prog_48_method_3_code 8 = .ok (.aload_n 0, 1) := by decide +kernel
theorem d2_9 : decode prog_48_method_3_code 9 = .ok (.getfield 25, 3) := by decide +kernel
theorem d2_12 : decode prog_48_method_3_code 12 = .ok (.i2l, 1) := by decide +kernel
theorem d2_13 : decode prog_48_method_3_code 13 = .ok (.bipush 32, 2) := by decide +kernel
theorem d2_15 : decode prog_48_method_3_code 15 = .ok (.lshl, 1) := by decide +kernel
theorem d2_16 : decode prog_48_method_3_code 16 = .ok (.lor, 1) := by decide +kernel
theorem d2_17 : decode prog_48_method_3_code 17 = .ok (.aload_n 0, 1) := by decide +kernel
theorem d2_18 : decode prog_48_method_3_code 18 = .ok (.getfield 28, 3) := by decide +kernel
theorem d2_21 : decode prog_48_method_3_code 21 = .ok (.i2l, 1) := by decide +kernel
theorem d2_22 : decode prog_48_method_3_code 22 = .ok (.bipush 24, 2) := by decide +kernel
theorem d2_24 : decode prog_48_method_3_code 24 = .ok (.lshl, 1) := by decide +kernel
theorem d2_25 : decode prog_48_method_3_code 25 = .ok (.lor, 1) := by decide +kernel
theorem d2_26 : decode prog_48_method_3_code 26 = .ok (.aload_n 0, 1) := by decide +kernel
theorem d2_27 : decode prog_48_method_3_code 27 = .ok (.getfield 31, 3) := by decide +kernel
theorem d2_30 : decode prog_48_method_3_code 30 = .ok (.i2l, 1) := by decide +kernel
theorem d2_31 : decode prog_48_method_3_code 31 = .ok (.ldc2_w 39, 3) := by decide +kernel
theorem d2_34 : decode prog_48_method_3_code 34 = .ok (.land, 1) := by decide +kernel
theorem d2_35 : decode prog_48_method_3_code 35 = .ok (.lor, 1) := by decide +kernel
theorem d2_36 : decode prog_48_method_3_code 36 = .ok (.lreturn, 1) := by decide +kernel
def Q_rmTL (Z : State) (a1 : Addr) (w1 : Int32) (w2 : Int32) (w3 : Int32) (w4 : Int32) (h0 : Heap) (n0 : Nat) (v : Option Value) (h : Heap) (L : List Loc) : Prop := v = some (.long (own_tl w1 w2 w3 w4)) ∧ Fr n0 L ∧ h = h0
theorem ef_rmTL (m : MethodId) (x0 : Addr) : entryFrame m #[(.ref x0)] 1 = mkF m 0 #[.val (.ref x0)] [] := by first | (simp [entryFrame, mkF, argsToLocals, Value.category]; done) | rfl
set_option maxRecDepth 65536 in
set_option maxHeartbeats 40000000 in
theorem rmTL (l : Launch) (Z : State) (a0 : Array Value) (hw : ∀ d ∈ tables_1, d.before a0 Z = true) (ws : List Jvm.Cond) (a1 : Addr) (w1 : Int32) (w2 : Int32) (w3 : Int32) (w4 : Int32) (h0 : Heap) (n0 : Nat) (Z0 : n0 ≤ h0.size) (F0 : Fld Z h0 a1 "com/example/halyard/halyard/core/mal/TypeId" "area" "I" (.int w1)) (F1 : Fld Z h0 a1 "com/example/halyard/halyard/core/mal/TypeId" "service" "I" (.int w2)) (F2 : Fld Z h0 a1 "com/example/halyard/halyard/core/mal/TypeId" "areaVersion" "I" (.int w3)) (F3 : Fld Z h0 a1 "com/example/halyard/halyard/core/mal/TypeId" "shortFormPart" "I" (.int w4))  :
    MetFree l (⟨"com/example/halyard/halyard/core/mal/TypeId", "toLong", "()J"⟩ : MethodName) (head1 (Jvm.Cond.code (⟨"com/example/halyard/halyard/core/mal/TypeId", "toLong", "()J"⟩ : MethodName) prog_48_method_3_code 1 (some .long) :: ws) ({ frames := 0, cells := 0, slots := 0, locals := 0 } : Room)) (fun a U => a = #[(.ref a1)] ∧ Z.Warmed39 U.vm ∧ U.heap = h0) (fun _ _ _ _ _ => True) (fun _ U o U' => ∃ v L, o = .returned v ∧ Q_rmTL Z a1 w1 w2 w3 w4 h0 n0 v U'.heap L ∧ FrameEnd U o U' L ({ frames := 0, cells := 0, slots := 0, locals := 0 } : Room).cells ({ frames := 0, cells := 0, slots := 0, locals := 0 } : Room).slots) := by
  refine MetFree.of_bodySF (plainFor_of_name pn_0) hisR ?_
  intro p e s m args below meth c s₁ Bd hml0 hP hK
  obtain ⟨rfl, hZ, hh⟩ := hP
  have hx := Bd.exec
  have hby := Bd.bytes
  have hml : c.maxLocals = 1 := hml0
  have hown : s.vm.findClass "com/example/halyard/halyard/core/mal/TypeId" = some m.cls := findClass_of_methodNamed Bd.named
  have hnm := (name_of_methodNamed Bd.named Bd.method).1
  have X0 : Stand p l e ({ frames := 0, cells := 0, slots := 0, locals := 0 } : Room) s m #[(.ref a1)] below meth c s₁ [] 0 0 := Stand.of_body Bd
  have e0 : s₁.heap = h0 := by rw [← hh, Bd.state]; rfl
  have N0 := Fr.nil n0
  refine own_go (own_lift (fun t k => castTop (ef_rmTL m a1) k) ?_)
  show own_Go p.tables e below (s₁.setTop (mkF m 0 #[rv a1] [])) _
  have sg1 : ∀ t, Steps p.tables e below (s₁.setTop (mkF m 1 #[rv a1] [(.ref a1)])) t → Steps p.tables e below (s₁.setTop (mkF m 0 #[rv a1] [])) t := by
    intro t k
    refine XS.aloadN X0.here hx rfl (hb hby d2_0) rfl rfl ?_
    show Steps p.tables e below (s₁.setTop (mkF m 1 #[rv a1] [(.ref a1)])) _
    exact k
  refine own_lift sg1 ?_
  show own_Go p.tables e below (s₁.setTop (mkF m 1 #[rv a1] [(.ref a1)])) _
  obtain ⟨T2, X2, e2, st2⟩ := getF X0 hx hZ hown (host := "") (Or.inl (wd hw 13 rfl)) Via.refl e0 F0 (g := (mkF m 1 #[rv a1] [(.ref a1)])) rfl rfl (hb hby d2_1)
  refine own_lift st2 ?_
  show own_Go p.tables e below (T2.setTop (mkF m 4 #[rv a1] [(.int w1)])) _
  have sg3 : ∀ t, Steps p.tables e below (T2.setTop (mkF m 9 #[rv a1] [(.ref a1), (.long ((w1.toInt64) <<< ((48 : Int32) &&& 0x3f).toInt64))])) t → Steps p.tables e below (T2.setTop (mkF m 4 #[rv a1] [(.int w1)])) t := by
    intro t k
    refine XS.i2l X2.here hx rfl (hb hby d2_4) rfl ?_
    show Steps p.tables e below (T2.setTop (mkF m 5 #[rv a1] [(.long (w1.toInt64))])) _
    refine XS.bipush X2.here hx rfl (hb hby d2_5) ?_
    show Steps p.tables e below (T2.setTop (mkF m 7 #[rv a1] [(.int 48), (.long (w1.toInt64))])) _
    refine XS.lshl X2.here hx rfl (hb hby d2_7) rfl ?_
    show Steps p.tables e below (T2.setTop (mkF m 8 #[rv a1] [(.long ((w1.toInt64) <<< ((48 : Int32) &&& 0x3f).toInt64))])) _
    refine XS.aloadN X2.here hx rfl (hb hby d2_8) rfl rfl ?_
    show Steps p.tables e below (T2.setTop (mkF m 9 #[rv a1] [(.ref a1), (.long ((w1.toInt64) <<< ((48 : Int32) &&& 0x3f).toInt64))])) _
    exact k
  refine own_lift sg3 ?_
  show own_Go p.tables e below (T2.setTop (mkF m 9 #[rv a1] [(.ref a1), (.long ((w1.toInt64) <<< ((48 : Int32) &&& 0x3f).toInt64))])) _
  obtain ⟨T4, X4, e4, st4⟩ := getF X2 hx hZ hown (host := "") (Or.inl (wd hw 15 rfl)) Via.refl e2 F1 (g := (mkF m 9 #[rv a1] [(.ref a1), (.long ((w1.toInt64) <<< ((48 : Int32) &&& 0x3f).toInt64))])) rfl rfl (hb hby d2_9)
  refine own_lift st4 ?_
  show own_Go p.tables e below (T4.setTop (mkF m 12 #[rv a1] [(.int w2), (.long ((w1.toInt64) <<< ((48 : Int32) &&& 0x3f).toInt64))])) _
  have sg5 : ∀ t, Steps p.tables e below (T4.setTop (mkF m 18 #[rv a1] [(.ref a1), (.long (((w1.toInt64) <<< ((48 : Int32) &&& 0x3f).toInt64) ||| ((w2.toInt64) <<< ((32 : Int32) &&& 0x3f).toInt64)))])) t → Steps p.tables e below (T4.setTop (mkF m 12 #[rv a1] [(.int w2), (.long ((w1.toInt64) <<< ((48 : Int32) &&& 0x3f).toInt64))])) t := by
    intro t k
    refine XS.i2l X4.here hx rfl (hb hby d2_12) rfl ?_
    show Steps p.tables e below (T4.setTop (mkF m 13 #[rv a1] [(.long (w2.toInt64)), (.long ((w1.toInt64) <<< ((48 : Int32) &&& 0x3f).toInt64))])) _
    refine XS.bipush X4.here hx rfl (hb hby d2_13) ?_
    show Steps p.tables e below (T4.setTop (mkF m 15 #[rv a1] [(.int 32), (.long (w2.toInt64)), (.long ((w1.toInt64) <<< ((48 : Int32) &&& 0x3f).toInt64))])) _
    refine XS.lshl X4.here hx rfl (hb hby d2_15) rfl ?_
    show Steps p.tables e below (T4.setTop (mkF m 16 #[rv a1] [(.long ((w2.toInt64) <<< ((32 : Int32) &&& 0x3f).toInt64)), (.long ((w1.toInt64) <<< ((48 : Int32) &&& 0x3f).toInt64))])) _
    refine XS.lor X4.here hx rfl (hb hby d2_16) rfl ?_
    show Steps p.tables e below (T4.setTop (mkF m 17 #[rv a1] [(.long (((w1.toInt64) <<< ((48 : Int32) &&& 0x3f).toInt64) ||| ((w2.toInt64) <<< ((32 : Int32) &&& 0x3f).toInt64)))])) _
    refine XS.aloadN X4.here hx rfl (hb hby d2_17) rfl rfl ?_
    show Steps p.tables e below (T4.setTop (mkF m 18 #[rv a1] [(.ref a1), (.long (((w1.toInt64) <<< ((48 : Int32) &&& 0x3f).toInt64) ||| ((w2.toInt64) <<< ((32 : Int32) &&& 0x3f).toInt64)))])) _
    exact k
  refine own_lift sg5 ?_
  show own_Go p.tables e below (T4.setTop (mkF m 18 #[rv a1] [(.ref a1), (.long (((w1.toInt64) <<< ((48 : Int32) &&& 0x3f).toInt64) ||| ((w2.toInt64) <<< ((32 : Int32) &&& 0x3f).toInt64)))])) _
  obtain ⟨T6, X6, e6, st6⟩ := getF X4 hx hZ hown (host := "") (Or.inl (wd hw 17 rfl)) Via.refl e4 F2 (g := (mkF m 18 #[rv a1] [(.ref a1), (.long (((w1.toInt64) <<< ((48 : Int32) &&& 0x3f).toInt64) ||| ((w2.toInt64) <<< ((32 : Int32) &&& 0x3f).toInt64)))])) rfl rfl (hb hby d2_18)
  refine own_lift st6 ?_
  show own_Go p.tables e below (T6.setTop (mkF m 21 #[rv a1] [(.int w3), (.long (((w1.toInt64) <<< ((48 : Int32) &&& 0x3f).toInt64) ||| ((w2.toInt64) <<< ((32 : Int32) &&& 0x3f).toInt64)))])) _
  have sg7 : ∀ t, Steps p.tables e below (T6.setTop (mkF m 27 #[rv a1] [(.ref a1), (.long ((((w1.toInt64) <<< ((48 : Int32) &&& 0x3f).toInt64) ||| ((w2.toInt64) <<< ((32 : Int32) &&& 0x3f).toInt64)) ||| ((w3.toInt64) <<< ((24 : Int32) &&& 0x3f).toInt64)))])) t → Steps p.tables e below (T6.setTop (mkF m 21 #[rv a1] [(.int w3), (.long (((w1.toInt64) <<< ((48 : Int32) &&& 0x3f).toInt64) ||| ((w2.toInt64) <<< ((32 : Int32) &&& 0x3f).toInt64)))])) t := by
    intro t k
    refine XS.i2l X6.here hx rfl (hb hby d2_21) rfl ?_
    show Steps p.tables e below (T6.setTop (mkF m 22 #[rv a1] [(.long (w3.toInt64)), (.long (((w1.toInt64) <<< ((48 : Int32) &&& 0x3f).toInt64) ||| ((w2.toInt64) <<< ((32 : Int32) &&& 0x3f).toInt64)))])) _
    refine XS.bipush X6.here hx rfl (hb hby d2_22) ?_
    show Steps p.tables e below (T6.setTop (mkF m 24 #[rv a1] [(.int 24), (.long (w3.toInt64)), (.long (((w1.toInt64) <<< ((48 : Int32) &&& 0x3f).toInt64) ||| ((w2.toInt64) <<< ((32 : Int32) &&& 0x3f).toInt64)))])) _
    refine XS.lshl X6.here hx rfl (hb hby d2_24) rfl ?_
    show Steps p.tables e below (T6.setTop (mkF m 25 #[rv a1] [(.long ((w3.toInt64) <<< ((24 : Int32) &&& 0x3f).toInt64)), (.long (((w1.toInt64) <<< ((48 : Int32) &&& 0x3f).toInt64) ||| ((w2.toInt64) <<< ((32 : Int32) &&& 0x3f).toInt64)))])) _
    refine XS.lor X6.here hx rfl (hb hby d2_25) rfl ?_
    show Steps p.tables e below (T6.setTop (mkF m 26 #[rv a1] [(.long ((((w1.toInt64) <<< ((48 : Int32) &&& 0x3f).toInt64) ||| ((w2.toInt64) <<< ((32 : Int32) &&& 0x3f).toInt64)) ||| ((w3.toInt64) <<< ((24 : Int32) &&& 0x3f).toInt64)))])) _
    refine XS.aloadN X6.here hx rfl (hb hby d2_26) rfl rfl ?_
    show Steps p.tables e below (T6.setTop (mkF m 27 #[rv a1] [(.ref a1), (.long ((((w1.toInt64) <<< ((48 : Int32) &&& 0x3f).toInt64) ||| ((w2.toInt64) <<< ((32 : Int32) &&& 0x3f).toInt64)) ||| ((w3.toInt64) <<< ((24 : Int32) &&& 0x3f).toInt64)))])) _
    exact k
  refine own_lift sg7 ?_
  show own_Go p.tables e below (T6.setTop (mkF m 27 #[rv a1] [(.ref a1), (.long ((((w1.toInt64) <<< ((48 : Int32) &&& 0x3f).toInt64) ||| ((w2.toInt64) <<< ((32 : Int32) &&& 0x3f).toInt64)) ||| ((w3.toInt64) <<< ((24 : Int32) &&& 0x3f).toInt64)))])) _
  obtain ⟨T8, X8, e8, st8⟩ := getF X6 hx hZ hown (host := "") (Or.inl (wd hw 19 rfl)) Via.refl e6 F3 (g := (mkF m 27 #[rv a1] [(.ref a1), (.long ((((w1.toInt64) <<< ((48 : Int32) &&& 0x3f).toInt64) ||| ((w2.toInt64) <<< ((32 : Int32) &&& 0x3f).toInt64)) ||| ((w3.toInt64) <<< ((24 : Int32) &&& 0x3f).toInt64)))])) rfl rfl (hb hby d2_27)
  refine own_lift st8 ?_
  show own_Go p.tables e below (T8.setTop (mkF m 30 #[rv a1] [(.int w4), (.long ((((w1.toInt64) <<< ((48 : Int32) &&& 0x3f).toInt64) ||| ((w2.toInt64) <<< ((32 : Int32) &&& 0x3f).toInt64)) ||| ((w3.toInt64) <<< ((24 : Int32) &&& 0x3f).toInt64)))])) _
  have sg9 : ∀ t, Steps p.tables e below (T8.setTop (mkF m 36 #[rv a1] [(.long (((((w1.toInt64) <<< ((48 : Int32) &&& 0x3f).toInt64) ||| ((w2.toInt64) <<< ((32 : Int32) &&& 0x3f).toInt64)) ||| ((w3.toInt64) <<< ((24 : Int32) &&& 0x3f).toInt64)) ||| ((w4.toInt64) &&& (16777215 : Int64))))])) t → Steps p.tables e below (T8.setTop (mkF m 30 #[rv a1] [(.int w4), (.long ((((w1.toInt64) <<< ((48 : Int32) &&& 0x3f).toInt64) ||| ((w2.toInt64) <<< ((32 : Int32) &&& 0x3f).toInt64)) ||| ((w3.toInt64) <<< ((24 : Int32) &&& 0x3f).toInt64)))])) t := by
    intro t k
    refine XS.i2l X8.here hx rfl (hb hby d2_30) rfl ?_
    show Steps p.tables e below (T8.setTop (mkF m 31 #[rv a1] [(.long (w4.toInt64)), (.long ((((w1.toInt64) <<< ((48 : Int32) &&& 0x3f).toInt64) ||| ((w2.toInt64) <<< ((32 : Int32) &&& 0x3f).toInt64)) ||| ((w3.toInt64) <<< ((24 : Int32) &&& 0x3f).toInt64)))])) _
    refine X8.ldc2Long hx hown (mvT hZ (wd hw 29 rfl)) (g := (mkF m 31 #[rv a1] [(.long (w4.toInt64)), (.long ((((w1.toInt64) <<< ((48 : Int32) &&& 0x3f).toInt64) ||| ((w2.toInt64) <<< ((32 : Int32) &&& 0x3f).toInt64)) ||| ((w3.toInt64) <<< ((24 : Int32) &&& 0x3f).toInt64)))])) rfl (hb hby d2_31) _ ?_
    show Steps p.tables e below (T8.setTop (mkF m 34 #[rv a1] [(.long 16777215), (.long (w4.toInt64)), (.long ((((w1.toInt64) <<< ((48 : Int32) &&& 0x3f).toInt64) ||| ((w2.toInt64) <<< ((32 : Int32) &&& 0x3f).toInt64)) ||| ((w3.toInt64) <<< ((24 : Int32) &&& 0x3f).toInt64)))])) _
    refine XS.land X8.here hx rfl (hb hby d2_34) rfl ?_
    show Steps p.tables e below (T8.setTop (mkF m 35 #[rv a1] [(.long ((w4.toInt64) &&& (16777215 : Int64))), (.long ((((w1.toInt64) <<< ((48 : Int32) &&& 0x3f).toInt64) ||| ((w2.toInt64) <<< ((32 : Int32) &&& 0x3f).toInt64)) ||| ((w3.toInt64) <<< ((24 : Int32) &&& 0x3f).toInt64)))])) _
    refine XS.lor X8.here hx rfl (hb hby d2_35) rfl ?_
    show Steps p.tables e below (T8.setTop (mkF m 36 #[rv a1] [(.long (((((w1.toInt64) <<< ((48 : Int32) &&& 0x3f).toInt64) ||| ((w2.toInt64) <<< ((32 : Int32) &&& 0x3f).toInt64)) ||| ((w3.toInt64) <<< ((24 : Int32) &&& 0x3f).toInt64)) ||| ((w4.toInt64) &&& (16777215 : Int64))))])) _
    exact k
  refine own_lift sg9 ?_
  show own_Go p.tables e below (T8.setTop (mkF m 36 #[rv a1] [(.long (((((w1.toInt64) <<< ((48 : Int32) &&& 0x3f).toInt64) ||| ((w2.toInt64) <<< ((32 : Int32) &&& 0x3f).toInt64)) ||| ((w3.toInt64) <<< ((24 : Int32) &&& 0x3f).toInt64)) ||| ((w4.toInt64) &&& (16777215 : Int64))))])) _
  obtain ⟨fs, hr, hrun, hended, hW, hsame⟩ := X8.leave (v := some (.long (((((w1.toInt64) <<< ((48 : Int32) &&& 0x3f).toInt64) ||| ((w2.toInt64) <<< ((32 : Int32) &&& 0x3f).toInt64)) ||| ((w3.toInt64) <<< ((24 : Int32) &&& 0x3f).toInt64)) ||| ((w4.toInt64) &&& (16777215 : Int64))))) (fun h => by rw [Bd.returns] at h; cases h)
  refine ⟨_, _, ?_, hrun, hended, _, _, rfl, ?_, ⟨_, rfl⟩, hW, hsame.mono (by decide) (by decide)⟩
  · exact X8.lreturnOut hx Bd.returns (hb hby d2_36) hr
  · show Q_rmTL Z a1 w1 w2 w3 w4 h0 n0 _ T8.heap _
    rw [e8]
    exact ⟨rfl, N0, rfl⟩
theorem d3_0 : decode prog_48_method_2_code 0 = .ok (.new 8, 3) := by decide +kernel
theorem d3_3 : decode prog_48_method_2_code 3 = .ok (.dup, 1) := by decide +kernel
theorem d3_4 : decode prog_48_method_2_code 4 = .ok (.lload_n 0, 1) := by decide +kernel
theorem d3_5 : decode prog_48_method_2_code 5 = .ok (.bipush 48, 2) := by decide +kernel
theorem d3_7 : decode prog_48_method_2_code 7 = .ok (.lushr, 1) := by decide +kernel
theorem d3_8 : decode prog_48_method_2_code 8 = .ok (.l2i, 1) := by decide +kernel
theorem d3_9 : decode prog_48_method_2_code 9 = .ok (.lload_n 0, 1) := by decide +kernel
theorem d3_10 : decode prog_48_method_2_code 10 = .ok (.bipush 32, 2) := by decide +kernel
theorem d3_12 : decode prog_48_method_2_code 12 = .ok (.lushr, 1) := by decide +kernel
theorem d3_13 : decode prog_48_method_2_code 13 = .ok (.l2i, 1) := by decide +kernel
theorem d3_14 : decode prog_48_method_2_code 14 = .ok (.ldc 7, 2) := by decide +kernel
theorem d3_16 : decode prog_48_method_2_code 16 = .ok (.iand, 1) := by decide +kernel
theorem d3_17 : decode prog_48_method_2_code 17 = .ok (.lload_n 0, 1) := by decide +kernel
theorem d3_18 : decode prog_48_method_2_code 18 = .ok (.bipush 24, 2) := by decide +kernel
theorem d3_20 : decode prog_48_method_2_code 20 = .ok (.lushr, 1) := by decide +kernel
theorem d3_21 : decode prog_48_method_2_code 21 = .ok (.l2i, 1) := by decide +kernel
theorem d3_22 : decode prog_48_method_2_code 22 = .ok (.sipush 255, 3) := by decide +kernel
theorem d3_25 : decode prog_48_method_2_code 25 = .ok (.iand, 1) := by decide +kernel
theorem d3_26 : decode prog_48_method_2_code 26 = .ok (.lload_n 0, 1) := by decide +kernel
theorem d3_27 : decode prog_48_method_2_code 27 = .ok (.l2i, 1) := by decide +kernel
theorem d3_28 : decode prog_48_method_2_code 28 = .ok (.bipush 8, 2) := by decide +kernel
theorem d3_30 : decode prog_48_method_2_code 30 = .ok (.ishl, 1) := by decide +kernel
theorem d3_31 : decode prog_48_method_2_code 31 = .ok (.bipush 8, 2) := by decide +kernel
theorem d3_33 : decode prog_48_method_2_code 33 = .ok (.ishr, 1) := by decide +kernel
theorem d3_34 : decode prog_48_method_2_code 34 = .ok (.invokespecial 36, 3) := by decide +kernel
theorem pd_0 : parseMethodDescriptor "(IIII)V" = some ⟨[.int, .int, .int, .int], none⟩ := by decide +kernel
theorem d3_37 : decode prog_48_method_2_code 37 = .ok (.areturn, 1) := by decide +kernel
def Q_rmOf (Z : State) (q1 : Int64) (h0 : Heap) (n0 : Nat) (v : Option Value) (h : Heap) (L : List Loc) : Prop := ∃ b : Addr, v = some (.ref b) ∧ Fr n0 L ∧ Keep h0 h [] ∧ h0.size ≤ b ∧ Exa Z h b "com/example/halyard/halyard/core/mal/TypeId" ∧ Fld Z h b "com/example/halyard/halyard/core/mal/TypeId" "area" "I" (.int (((q1.toUInt64 >>> ((48 : Int32) &&& 0x3f).toInt64.toUInt64).toInt64).toInt32)) ∧ Fld Z h b "com/example/halyard/halyard/core/mal/TypeId" "service" "I" (.int ((((q1.toUInt64 >>> ((32 : Int32) &&& 0x3f).toInt64.toUInt64).toInt64).toInt32) &&& (65535 : Int32))) ∧ Fld Z h b "com/example/halyard/halyard/core/mal/TypeId" "areaVersion" "I" (.int ((((q1.toUInt64 >>> ((24 : Int32) &&& 0x3f).toInt64.toUInt64).toInt64).toInt32) &&& (255 : Int32))) ∧ Fld Z h b "com/example/halyard/halyard/core/mal/TypeId" "shortFormPart" "I" (.int (((q1.toInt32) <<< ((8 : Int32) &&& 31)) >>> ((8 : Int32) &&& 31)))
theorem ef_rmOf (m : MethodId) (x0 : Int64) : entryFrame m #[(.long x0)] 2 = mkF m 0 #[.val (.long x0), .second] [] := by first | (simp [entryFrame, mkF, argsToLocals, Value.category]; done) | rfl
set_option maxRecDepth 65536 in
set_option maxHeartbeats 40000000 in
theorem rmOf (l : Launch) (Z : State) (a0 : Array Value) (hw : ∀ d ∈ tables_1, d.before a0 Z = true) (ws : List Jvm.Cond) (q1 : Int64) (h0 : Heap) (n0 : Nat) (Z0 : n0 ≤ h0.size)   :
    MetFree l (⟨"com/example/halyard/halyard/core/mal/TypeId", "of", "(J)Lcom/example/halyard/halyard/core/mal/TypeId;"⟩ : MethodName) (head1 (Jvm.Cond.code (⟨"com/example/halyard/halyard/core/mal/TypeId", "of", "(J)Lcom/example/halyard/halyard/core/mal/TypeId;"⟩ : MethodName) prog_48_method_2_code 2 (some (.object "com/example/halyard/halyard/core/mal/TypeId")) :: ws) ({ frames := 2, cells := 1, slots := 4, locals := 29 } : Room)) (fun a U => a = #[(.long q1)] ∧ Z.Warmed39 U.vm ∧ U.heap = h0) (fun _ _ _ _ _ => True) (fun _ U o U' => ∃ v L, o = .returned v ∧ Q_rmOf Z q1 h0 n0 v U'.heap L ∧ FrameEnd U o U' L ({ frames := 2, cells := 1, slots := 4, locals := 29 } : Room).cells ({ frames := 2, cells := 1, slots := 4, locals := 29 } : Room).slots) := by
  refine MetFree.of_bodySF (plainFor_of_name pn_0) hisR ?_
  intro p e s m args below meth c s₁ Bd hml0 hP hK
  obtain ⟨rfl, hZ, hh⟩ := hP
  have hx := Bd.exec
  have hby := Bd.bytes
  have hml : c.maxLocals = 2 := hml0
  have hown : s.vm.findClass "com/example/halyard/halyard/core/mal/TypeId" = some m.cls := findClass_of_methodNamed Bd.named
  have hnm := (name_of_methodNamed Bd.named Bd.method).1
  have X0 : Stand p l e ({ frames := 2, cells := 1, slots := 4, locals := 29 } : Room) s m #[(.long q1)] below meth c s₁ [] 0 0 := Stand.of_body Bd
  have e0 : s₁.heap = h0 := by rw [← hh, Bd.state]; rfl
  have N0 := Fr.nil n0
  refine own_go (own_lift (fun t k => castTop (ef_rmOf m q1) k) ?_)
  show own_Go p.tables e below (s₁.setTop (mkF m 0 #[jv q1, .second] [])) _
  obtain ⟨T1, h1, X1, e1, Ex1, Ax1, Dx1, Ux1, st1⟩ := newO X0 hx hZ hown (wd hw 33 rfl) (wd hw 2 rfl) (wd hw 3 rfl) e0 (g := (mkF m 0 #[jv q1, .second] [])) rfl (hb hby d3_0) (by decide) (by decide)
  obtain ⟨ob1, g1⟩ : ∃ z, z = h0.size := ⟨_, rfl⟩
  rw [← g1] at Ax1 Dx1 Ux1 st1
  have Z1 : n0 ≤ h1.size := Nat.le_trans Z0 Ex1.1
  have ge1 : n0 ≤ ob1 := Nat.le_trans Z0 (Nat.le_of_eq g1.symm)
  have gh1 : h0.size ≤ ob1 := Nat.le_trans (Keep.refl h0 []).1 (Nat.le_of_eq g1.symm)
  have K1 : Keep h0 h1 [] := (Keep.refl h0 []).ext Ex1
  have Fn1_14 : Fld Z h1 ob1 "com/example/halyard/halyard/core/mal/TypeId" "area" "I" (.int 0) := Dx1 (Or.inr (wd hw 14 rfl)) (ty := .int) (by decide)
  have Fn1_16 : Fld Z h1 ob1 "com/example/halyard/halyard/core/mal/TypeId" "service" "I" (.int 0) := Dx1 (Or.inr (wd hw 16 rfl)) (ty := .int) (by decide)
  have Fn1_18 : Fld Z h1 ob1 "com/example/halyard/halyard/core/mal/TypeId" "areaVersion" "I" (.int 0) := Dx1 (Or.inr (wd hw 18 rfl)) (ty := .int) (by decide)
  have Fn1_20 : Fld Z h1 ob1 "com/example/halyard/halyard/core/mal/TypeId" "shortFormPart" "I" (.int 0) := Dx1 (Or.inr (wd hw 20 rfl)) (ty := .int) (by decide)
  refine own_lift st1 ?_
  show own_Go p.tables e below (T1.setTop (mkF m 3 #[jv q1, .second] [(.ref ob1)])) _
  have sg2 : ∀ t, Steps p.tables e below (T1.setTop (mkF m 34 #[jv q1, .second] [(.int (((q1.toInt32) <<< ((8 : Int32) &&& 31)) >>> ((8 : Int32) &&& 31))), (.int ((((q1.toUInt64 >>> ((24 : Int32) &&& 0x3f).toInt64.toUInt64).toInt64).toInt32) &&& (255 : Int32))), (.int ((((q1.toUInt64 >>> ((32 : Int32) &&& 0x3f).toInt64.toUInt64).toInt64).toInt32) &&& (65535 : Int32))), (.int (((q1.toUInt64 >>> ((48 : Int32) &&& 0x3f).toInt64.toUInt64).toInt64).toInt32)), (.ref ob1), (.ref ob1)])) t → Steps p.tables e below (T1.setTop (mkF m 3 #[jv q1, .second] [(.ref ob1)])) t := by
    intro t k
    refine XS.dup X1.here hx rfl (hb hby d3_3) rfl rfl ?_
    show Steps p.tables e below (T1.setTop (mkF m 4 #[jv q1, .second] [(.ref ob1), (.ref ob1)])) _
    refine XS.lloadN X1.here hx rfl (hb hby d3_4) rfl ?_
    show Steps p.tables e below (T1.setTop (mkF m 5 #[jv q1, .second] [(.long q1), (.ref ob1), (.ref ob1)])) _
    refine XS.bipush X1.here hx rfl (hb hby d3_5) ?_
    show Steps p.tables e below (T1.setTop (mkF m 7 #[jv q1, .second] [(.int 48), (.long q1), (.ref ob1), (.ref ob1)])) _
    refine XS.lushr X1.here hx rfl (hb hby d3_7) rfl ?_
    show Steps p.tables e below (T1.setTop (mkF m 8 #[jv q1, .second] [(.long ((q1.toUInt64 >>> ((48 : Int32) &&& 0x3f).toInt64.toUInt64).toInt64)), (.ref ob1), (.ref ob1)])) _
    refine XS.l2i X1.here hx rfl (hb hby d3_8) rfl ?_
    show Steps p.tables e below (T1.setTop (mkF m 9 #[jv q1, .second] [(.int (((q1.toUInt64 >>> ((48 : Int32) &&& 0x3f).toInt64.toUInt64).toInt64).toInt32)), (.ref ob1), (.ref ob1)])) _
    refine XS.lloadN X1.here hx rfl (hb hby d3_9) rfl ?_
    show Steps p.tables e below (T1.setTop (mkF m 10 #[jv q1, .second] [(.long q1), (.int (((q1.toUInt64 >>> ((48 : Int32) &&& 0x3f).toInt64.toUInt64).toInt64).toInt32)), (.ref ob1), (.ref ob1)])) _
    refine XS.bipush X1.here hx rfl (hb hby d3_10) ?_
    show Steps p.tables e below (T1.setTop (mkF m 12 #[jv q1, .second] [(.int 32), (.long q1), (.int (((q1.toUInt64 >>> ((48 : Int32) &&& 0x3f).toInt64.toUInt64).toInt64).toInt32)), (.ref ob1), (.ref ob1)])) _
    refine XS.lushr X1.here hx rfl (hb hby d3_12) rfl ?_
    show Steps p.tables e below (T1.setTop (mkF m 13 #[jv q1, .second] [(.long ((q1.toUInt64 >>> ((32 : Int32) &&& 0x3f).toInt64.toUInt64).toInt64)), (.int (((q1.toUInt64 >>> ((48 : Int32) &&& 0x3f).toInt64.toUInt64).toInt64).toInt32)), (.ref ob1), (.ref ob1)])) _
    refine XS.l2i X1.here hx rfl (hb hby d3_13) rfl ?_
    show Steps p.tables e below (T1.setTop (mkF m 14 #[jv q1, .second] [(.int (((q1.toUInt64 >>> ((32 : Int32) &&& 0x3f).toInt64.toUInt64).toInt64).toInt32)), (.int (((q1.toUInt64 >>> ((48 : Int32) &&& 0x3f).toInt64.toUInt64).toInt64).toInt32)), (.ref ob1), (.ref ob1)])) _
    refine X1.ldcInt hx hown (mvT hZ (wd hw 10 rfl)) (g := (mkF m 14 #[jv q1, .second] [(.int (((q1.toUInt64 >>> ((32 : Int32) &&& 0x3f).toInt64.toUInt64).toInt64).toInt32)), (.int (((q1.toUInt64 >>> ((48 : Int32) &&& 0x3f).toInt64.toUInt64).toInt64).toInt32)), (.ref ob1), (.ref ob1)])) rfl (hb hby d3_14) _ ?_
    show Steps p.tables e below (T1.setTop (mkF m 16 #[jv q1, .second] [(.int 65535), (.int (((q1.toUInt64 >>> ((32 : Int32) &&& 0x3f).toInt64.toUInt64).toInt64).toInt32)), (.int (((q1.toUInt64 >>> ((48 : Int32) &&& 0x3f).toInt64.toUInt64).toInt64).toInt32)), (.ref ob1), (.ref ob1)])) _
    refine XS.iand X1.here hx rfl (hb hby d3_16) rfl ?_
    show Steps p.tables e below (T1.setTop (mkF m 17 #[jv q1, .second] [(.int ((((q1.toUInt64 >>> ((32 : Int32) &&& 0x3f).toInt64.toUInt64).toInt64).toInt32) &&& (65535 : Int32))), (.int (((q1.toUInt64 >>> ((48 : Int32) &&& 0x3f).toInt64.toUInt64).toInt64).toInt32)), (.ref ob1), (.ref ob1)])) _
    refine XS.lloadN X1.here hx rfl (hb hby d3_17) rfl ?_
    show Steps p.tables e below (T1.setTop (mkF m 18 #[jv q1, .second] [(.long q1), (.int ((((q1.toUInt64 >>> ((32 : Int32) &&& 0x3f).toInt64.toUInt64).toInt64).toInt32) &&& (65535 : Int32))), (.int (((q1.toUInt64 >>> ((48 : Int32) &&& 0x3f).toInt64.toUInt64).toInt64).toInt32)), (.ref ob1), (.ref ob1)])) _
    refine XS.bipush X1.here hx rfl (hb hby d3_18) ?_
    show Steps p.tables e below (T1.setTop (mkF m 20 #[jv q1, .second] [(.int 24), (.long q1), (.int ((((q1.toUInt64 >>> ((32 : Int32) &&& 0x3f).toInt64.toUInt64).toInt64).toInt32) &&& (65535 : Int32))), (.int (((q1.toUInt64 >>> ((48 : Int32) &&& 0x3f).toInt64.toUInt64).toInt64).toInt32)), (.ref ob1), (.ref ob1)])) _
    refine XS.lushr X1.here hx rfl (hb hby d3_20) rfl ?_
    show Steps p.tables e below (T1.setTop (mkF m 21 #[jv q1, .second] [(.long ((q1.toUInt64 >>> ((24 : Int32) &&& 0x3f).toInt64.toUInt64).toInt64)), (.int ((((q1.toUInt64 >>> ((32 : Int32) &&& 0x3f).toInt64.toUInt64).toInt64).toInt32) &&& (65535 : Int32))), (.int (((q1.toUInt64 >>> ((48 : Int32) &&& 0x3f).toInt64.toUInt64).toInt64).toInt32)), (.ref ob1), (.ref ob1)])) _
    refine XS.l2i X1.here hx rfl (hb hby d3_21) rfl ?_
    show Steps p.tables e below (T1.setTop (mkF m 22 #[jv q1, .second] [(.int (((q1.toUInt64 >>> ((24 : Int32) &&& 0x3f).toInt64.toUInt64).toInt64).toInt32)), (.int ((((q1.toUInt64 >>> ((32 : Int32) &&& 0x3f).toInt64.toUInt64).toInt64).toInt32) &&& (65535 : Int32))), (.int (((q1.toUInt64 >>> ((48 : Int32) &&& 0x3f).toInt64.toUInt64).toInt64).toInt32)), (.ref ob1), (.ref ob1)])) _
    refine XS.sipush X1.here hx rfl (hb hby d3_22) ?_
    show Steps p.tables e below (T1.setTop (mkF m 25 #[jv q1, .second] [(.int 255), (.int (((q1.toUInt64 >>> ((24 : Int32) &&& 0x3f).toInt64.toUInt64).toInt64).toInt32)), (.int ((((q1.toUInt64 >>> ((32 : Int32) &&& 0x3f).toInt64.toUInt64).toInt64).toInt32) &&& (65535 : Int32))), (.int (((q1.toUInt64 >>> ((48 : Int32) &&& 0x3f).toInt64.toUInt64).toInt64).toInt32)), (.ref ob1), (.ref ob1)])) _
    refine XS.iand X1.here hx rfl (hb hby d3_25) rfl ?_
    show Steps p.tables e below (T1.setTop (mkF m 26 #[jv q1, .second] [(.int ((((q1.toUInt64 >>> ((24 : Int32) &&& 0x3f).toInt64.toUInt64).toInt64).toInt32) &&& (255 : Int32))), (.int ((((q1.toUInt64 >>> ((32 : Int32) &&& 0x3f).toInt64.toUInt64).toInt64).toInt32) &&& (65535 : Int32))), (.int (((q1.toUInt64 >>> ((48 : Int32) &&& 0x3f).toInt64.toUInt64).toInt64).toInt32)), (.ref ob1), (.ref ob1)])) _
    refine XS.lloadN X1.here hx rfl (hb hby d3_26) rfl ?_
    show Steps p.tables e below (T1.setTop (mkF m 27 #[jv q1, .second] [(.long q1), (.int ((((q1.toUInt64 >>> ((24 : Int32) &&& 0x3f).toInt64.toUInt64).toInt64).toInt32) &&& (255 : Int32))), (.int ((((q1.toUInt64 >>> ((32 : Int32) &&& 0x3f).toInt64.toUInt64).toInt64).toInt32) &&& (65535 : Int32))), (.int (((q1.toUInt64 >>> ((48 : Int32) &&& 0x3f).toInt64.toUInt64).toInt64).toInt32)), (.ref ob1), (.ref ob1)])) _
    refine XS.l2i X1.here hx rfl (hb hby d3_27) rfl ?_
    show Steps p.tables e below (T1.setTop (mkF m 28 #[jv q1, .second] [(.int (q1.toInt32)), (.int ((((q1.toUInt64 >>> ((24 : Int32) &&& 0x3f).toInt64.toUInt64).toInt64).toInt32) &&& (255 : Int32))), (.int ((((q1.toUInt64 >>> ((32 : Int32) &&& 0x3f).toInt64.toUInt64).toInt64).toInt32) &&& (65535 : Int32))), (.int (((q1.toUInt64 >>> ((48 : Int32) &&& 0x3f).toInt64.toUInt64).toInt64).toInt32)), (.ref ob1), (.ref ob1)])) _
    refine XS.bipush X1.here hx rfl (hb hby d3_28) ?_
    show Steps p.tables e below (T1.setTop (mkF m 30 #[jv q1, .second] [(.int 8), (.int (q1.toInt32)), (.int ((((q1.toUInt64 >>> ((24 : Int32) &&& 0x3f).toInt64.toUInt64).toInt64).toInt32) &&& (255 : Int32))), (.int ((((q1.toUInt64 >>> ((32 : Int32) &&& 0x3f).toInt64.toUInt64).toInt64).toInt32) &&& (65535 : Int32))), (.int (((q1.toUInt64 >>> ((48 : Int32) &&& 0x3f).toInt64.toUInt64).toInt64).toInt32)), (.ref ob1), (.ref ob1)])) _
    refine XS.ishl X1.here hx rfl (hb hby d3_30) rfl ?_
    show Steps p.tables e below (T1.setTop (mkF m 31 #[jv q1, .second] [(.int ((q1.toInt32) <<< ((8 : Int32) &&& 31))), (.int ((((q1.toUInt64 >>> ((24 : Int32) &&& 0x3f).toInt64.toUInt64).toInt64).toInt32) &&& (255 : Int32))), (.int ((((q1.toUInt64 >>> ((32 : Int32) &&& 0x3f).toInt64.toUInt64).toInt64).toInt32) &&& (65535 : Int32))), (.int (((q1.toUInt64 >>> ((48 : Int32) &&& 0x3f).toInt64.toUInt64).toInt64).toInt32)), (.ref ob1), (.ref ob1)])) _
    refine XS.bipush X1.here hx rfl (hb hby d3_31) ?_
    show Steps p.tables e below (T1.setTop (mkF m 33 #[jv q1, .second] [(.int 8), (.int ((q1.toInt32) <<< ((8 : Int32) &&& 31))), (.int ((((q1.toUInt64 >>> ((24 : Int32) &&& 0x3f).toInt64.toUInt64).toInt64).toInt32) &&& (255 : Int32))), (.int ((((q1.toUInt64 >>> ((32 : Int32) &&& 0x3f).toInt64.toUInt64).toInt64).toInt32) &&& (65535 : Int32))), (.int (((q1.toUInt64 >>> ((48 : Int32) &&& 0x3f).toInt64.toUInt64).toInt64).toInt32)), (.ref ob1), (.ref ob1)])) _
    refine XS.ishr X1.here hx rfl (hb hby d3_33) rfl ?_
    show Steps p.tables e below (T1.setTop (mkF m 34 #[jv q1, .second] [(.int (((q1.toInt32) <<< ((8 : Int32) &&& 31)) >>> ((8 : Int32) &&& 31))), (.int ((((q1.toUInt64 >>> ((24 : Int32) &&& 0x3f).toInt64.toUInt64).toInt64).toInt32) &&& (255 : Int32))), (.int ((((q1.toUInt64 >>> ((32 : Int32) &&& 0x3f).toInt64.toUInt64).toInt64).toInt32) &&& (65535 : Int32))), (.int (((q1.toUInt64 >>> ((48 : Int32) &&& 0x3f).toInt64.toUInt64).toInt64).toInt32)), (.ref ob1), (.ref ob1)])) _
    exact k
  refine own_lift sg2 ?_
  show own_Go p.tables e below (T1.setTop (mkF m 34 #[jv q1, .second] [(.int (((q1.toInt32) <<< ((8 : Int32) &&& 31)) >>> ((8 : Int32) &&& 31))), (.int ((((q1.toUInt64 >>> ((24 : Int32) &&& 0x3f).toInt64.toUInt64).toInt64).toInt32) &&& (255 : Int32))), (.int ((((q1.toUInt64 >>> ((32 : Int32) &&& 0x3f).toInt64.toUInt64).toInt64).toInt32) &&& (65535 : Int32))), (.int (((q1.toUInt64 >>> ((48 : Int32) &&& 0x3f).toInt64.toUInt64).toInt64).toInt32)), (.ref ob1), (.ref ob1)])) _
  obtain ⟨_, _, ⟨T3, Lx3, kx3, nx3⟩, -, X3, ⟨Lc3, hQ3, lx3, yx3, zx3⟩, st3⟩ := X1.specialBack hx (y := (⟨"com/example/halyard/halyard/core/mal/TypeId", "<init>", "(IIII)V"⟩ : MethodName)) rfl hown (mvT hZ (wd hw 34 rfl)) (mvT hZ (wd hw 5 rfl)) (mvT hZ (wd hw 6 rfl)) (by decide) (backOf (W := 1) (rmInit l Z a0 hw [] ob1 (((q1.toUInt64 >>> ((48 : Int32) &&& 0x3f).toInt64.toUInt64).toInt64).toInt32) ((((q1.toUInt64 >>> ((32 : Int32) &&& 0x3f).toInt64.toUInt64).toInt64).toInt32) &&& (65535 : Int32)) ((((q1.toUInt64 >>> ((24 : Int32) &&& 0x3f).toInt64.toUInt64).toInt64).toInt32) &&& (255 : Int32)) (((q1.toInt32) <<< ((8 : Int32) &&& 31)) >>> ((8 : Int32) &&& 31)) h1 n0 Z1 Fn1_14 Fn1_16 Fn1_18 Fn1_20 Ax1 ge1 (own_h16 q1).1 (own_h16 q1).2 (own_m16 (((q1.toUInt64 >>> ((32 : Int32) &&& 0x3f).toInt64.toUInt64).toInt64).toInt32)).1 (own_m16 (((q1.toUInt64 >>> ((32 : Int32) &&& 0x3f).toInt64.toUInt64).toInt64).toInt32)).2 (own_m8 (((q1.toUInt64 >>> ((24 : Int32) &&& 0x3f).toInt64.toUInt64).toInt64).toInt32)).1 (own_m8 (((q1.toUInt64 >>> ((24 : Int32) &&& 0x3f).toInt64.toUInt64).toInt64).toInt32)).2 (own_s24 (q1.toInt32)).1 (own_s24 (q1.toInt32)).2) hZ (wd hw 6 rfl) (wd hw 3 rfl) (by decide) (by decide)) (g := (mkF m 34 #[jv q1, .second] [(.int (((q1.toInt32) <<< ((8 : Int32) &&& 31)) >>> ((8 : Int32) &&& 31))), (.int ((((q1.toUInt64 >>> ((24 : Int32) &&& 0x3f).toInt64.toUInt64).toInt64).toInt32) &&& (255 : Int32))), (.int ((((q1.toUInt64 >>> ((32 : Int32) &&& 0x3f).toInt64.toUInt64).toInt64).toInt32) &&& (65535 : Int32))), (.int (((q1.toUInt64 >>> ((48 : Int32) &&& 0x3f).toInt64.toUInt64).toInt64).toInt32)), (.ref ob1), (.ref ob1)])) rfl (by rw [hml]; rfl) (Steps.refl _) (a := ob1) (argsL := [(.int (((q1.toUInt64 >>> ((48 : Int32) &&& 0x3f).toInt64.toUInt64).toInt64).toInt32)), (.int ((((q1.toUInt64 >>> ((32 : Int32) &&& 0x3f).toInt64.toUInt64).toInt64).toInt32) &&& (65535 : Int32))), (.int ((((q1.toUInt64 >>> ((24 : Int32) &&& 0x3f).toInt64.toUInt64).toInt64).toInt32) &&& (255 : Int32))), (.int (((q1.toInt32) <<< ((8 : Int32) &&& 31)) >>> ((8 : Int32) &&& 31)))]) (rest := [(.ref ob1)]) (lenOf pd_0 rfl) rfl (by show 2 * 0 + _ ≤ _; exact Nat.le_of_eq rfl) (hb hby d3_34) (fun _ _ => ⟨rfl, e1, (by decide : 1 + 0 ≤ _), (by decide : 4 + 0 ≤ _)⟩)
  dsimp only [Pt.U, Pt.locs, Pt.cells, Pt.slots] at X3 lx3 yx3 zx3 st3 hQ3
  subst lx3 yx3 zx3
  obtain ⟨rfl, N3q, p3_0, p3_1, p3_2, p3_3, p3_4, p3_5⟩ := hQ3
  have N3 := Fr.app N0 N3q
  have Z3 : n0 ≤ T3.heap.size := Nat.le_trans Z1 p3_0.1
  have K3 : Keep h0 T3.heap [] := K1.trans p3_0 (allS (Or.inr gh1) all0)
  refine own_lift (fun t k => st3.trans k) ?_
  show own_Go p.tables e below (T3.setTop (mkF m 37 #[jv q1, .second] [(.ref ob1)])) _
  obtain ⟨fs, hr, hrun, hended, hW, hsame⟩ := X3.leave (v := some (.ref ob1)) (fun h => by rw [Bd.returns] at h; cases h)
  refine ⟨_, _, ?_, hrun, hended, _, _, rfl, ?_, ⟨_, rfl⟩, hW, hsame.mono (by decide) (by decide)⟩
  · exact retOut X3 hx Bd.returns rfl (Or.inr (Or.inr (Or.inr (Or.inr ⟨rfl, rfl, rfl⟩)))) (hb hby d3_37) hr
  · show Q_rmOf Z q1 h0 n0 _ T3.heap _
    exact ⟨ob1, rfl, N3, K3, gh1, p3_1, p3_2, p3_3, p3_4, p3_5⟩
theorem pn_1 : plainName "com/example/halyard/halyard/core/mal/TypeIdToLongPinLaw" = true := by first | (simp [plainName, overriddenIn]; done) | decide +kernel
theorem pd_1 : parseMethodDescriptor "()J" = some ⟨[], some .long⟩ := by decide +kernel
theorem pd_2 : parseMethodDescriptor "(J)Lcom/example/halyard/halyard/core/mal/TypeId;" = some ⟨[.long], some (.object "com/example/halyard/halyard/core/mal/TypeId")⟩ := by decide +kernel
def Q0 (Z : State)  (h0 : Heap) (n0 : Nat) (v : Option Value) (h : Heap) (L : List Loc) : Prop := v = some (.int 1) ∧ Fr n0 L
theorem ef_rm0_1 (m : MethodId) (x0 : Int32) (x1 : Int32) (x2 : Int32) (x3 : Int32) (x4 : Int64) : entryFrame m #[(.int x0), (.int x1), (.int x2), (.int x3), (.long x4)] maxLocals = mkF m 0 #[.val (.int x0), .val (.int x1), .val (.int x2), .val (.int x3), .val (.long x4), .second, .unset, .unset, .unset, .unset, .unset, .unset, .unset, .unset, .unset, .unset, .unset] [] := by first | (simp [entryFrame, mkF, argsToLocals, Value.category, maxLocals]; done) | rfl
set_option maxRecDepth 65536 in
set_option maxHeartbeats 40000000 in
theorem rm0_1 (l : Launch) (Z : State) (a0 : Array Value) (hw : ∀ d ∈ tables_1, d.before a0 Z = true) (ws : List Jvm.Cond) (p0 : Int32) (p1 : Int32) (p2 : Int32) (p3 : Int32) (p4 : Int64) (h0 : Heap) (n0 : Nat) (Z0 : n0 ≤ h0.size)  (c1 : ((p3 <<< ((8 : Int32) &&& 31)) >>> ((8 : Int32) &&& 31)) < (0 : Int32)) :
    MetFree l x (head1 (Jvm.Cond.code x code maxLocals ret :: ws) room_1) (fun a U => a = #[(.int p0), (.int p1), (.int p2), (.int p3), (.long p4)] ∧ Z.Warmed39 U.vm ∧ U.heap = h0) (fun _ _ _ _ _ => True) (fun _ U o U' => ∃ v L, o = .returned v ∧ Q0 Z  h0 n0 v U'.heap L ∧ FrameEnd U o U' L 16 128) := by
  refine MetFree.of_bodySF (plainFor_of_name pn_1) hisR ?_
  intro p e s m args below meth c s₁ Bd hml0 hP hK
  obtain ⟨rfl, hZ, hh⟩ := hP
  have hx := Bd.exec
  have hby := Bd.bytes
  have hml : c.maxLocals = 17 := hml0
  have hown : s.vm.findClass "com/example/halyard/halyard/core/mal/TypeIdToLongPinLaw" = some m.cls := findClass_of_methodNamed Bd.named
  have hnm := (name_of_methodNamed Bd.named Bd.method).1
  have X0 : Stand p l e room_1 s m #[(.int p0), (.int p1), (.int p2), (.int p3), (.long p4)] below meth c s₁ [] 0 0 := Stand.of_body Bd
  have e0 : s₁.heap = h0 := by rw [← hh, Bd.state]; rfl
  have N0 := Fr.nil n0
  refine own_go (own_lift (fun t k => castTop (ef_rm0_1 m p0 p1 p2 p3 p4) k) ?_)
  show own_Go p.tables e below (s₁.setTop (mkF m 0 #[iv p0, iv p1, iv p2, iv p3, jv p4, .second, .unset, .unset, .unset, .unset, .unset, .unset, .unset, .unset, .unset, .unset, .unset] [])) _
  have sg1 : ∀ t, Steps p.tables e below (s₁.setTop (mkF m 28 #[iv p0, iv p1, iv p2, iv p3, jv p4, .second, iv (p0 &&& (65535 : Int32)), iv (p1 &&& (65535 : Int32)), iv (p2 &&& (255 : Int32)), iv ((p3 <<< ((8 : Int32) &&& 31)) >>> ((8 : Int32) &&& 31)), .unset, .unset, .unset, .unset, .unset, .unset, .unset] [])) t → Steps p.tables e below (s₁.setTop (mkF m 0 #[iv p0, iv p1, iv p2, iv p3, jv p4, .second, .unset, .unset, .unset, .unset, .unset, .unset, .unset, .unset, .unset, .unset, .unset] [])) t := by
    intro t k
    refine XS.iloadN X0.here hx rfl (hb hby at_0) rfl ?_
    show Steps p.tables e below (s₁.setTop (mkF m 1 #[iv p0, iv p1, iv p2, iv p3, jv p4, .second, .unset, .unset, .unset, .unset, .unset, .unset, .unset, .unset, .unset, .unset, .unset] [(.int p0)])) _
    refine X0.ldcInt hx hown (mvT hZ (wd hw 0 rfl)) (g := (mkF m 1 #[iv p0, iv p1, iv p2, iv p3, jv p4, .second, .unset, .unset, .unset, .unset, .unset, .unset, .unset, .unset, .unset, .unset, .unset] [(.int p0)])) rfl (hb hby at_1) _ ?_
    show Steps p.tables e below (s₁.setTop (mkF m 3 #[iv p0, iv p1, iv p2, iv p3, jv p4, .second, .unset, .unset, .unset, .unset, .unset, .unset, .unset, .unset, .unset, .unset, .unset] [(.int 65535), (.int p0)])) _
    refine XS.iand X0.here hx rfl (hb hby at_3) rfl ?_
    show Steps p.tables e below (s₁.setTop (mkF m 4 #[iv p0, iv p1, iv p2, iv p3, jv p4, .second, .unset, .unset, .unset, .unset, .unset, .unset, .unset, .unset, .unset, .unset, .unset] [(.int (p0 &&& (65535 : Int32)))])) _
    refine XS.istore X0.here hx rfl (hb hby at_4) rfl (l' := #[iv p0, iv p1, iv p2, iv p3, jv p4, .second, iv (p0 &&& (65535 : Int32)), .unset, .unset, .unset, .unset, .unset, .unset, .unset, .unset, .unset, .unset]) rfl ?_
    show Steps p.tables e below (s₁.setTop (mkF m 6 #[iv p0, iv p1, iv p2, iv p3, jv p4, .second, iv (p0 &&& (65535 : Int32)), .unset, .unset, .unset, .unset, .unset, .unset, .unset, .unset, .unset, .unset] [])) _
    refine XS.iloadN X0.here hx rfl (hb hby at_6) rfl ?_
    show Steps p.tables e below (s₁.setTop (mkF m 7 #[iv p0, iv p1, iv p2, iv p3, jv p4, .second, iv (p0 &&& (65535 : Int32)), .unset, .unset, .unset, .unset, .unset, .unset, .unset, .unset, .unset, .unset] [(.int p1)])) _
    refine X0.ldcInt hx hown (mvT hZ (wd hw 0 rfl)) (g := (mkF m 7 #[iv p0, iv p1, iv p2, iv p3, jv p4, .second, iv (p0 &&& (65535 : Int32)), .unset, .unset, .unset, .unset, .unset, .unset, .unset, .unset, .unset, .unset] [(.int p1)])) rfl (hb hby at_7) _ ?_
    show Steps p.tables e below (s₁.setTop (mkF m 9 #[iv p0, iv p1, iv p2, iv p3, jv p4, .second, iv (p0 &&& (65535 : Int32)), .unset, .unset, .unset, .unset, .unset, .unset, .unset, .unset, .unset, .unset] [(.int 65535), (.int p1)])) _
    refine XS.iand X0.here hx rfl (hb hby at_9) rfl ?_
    show Steps p.tables e below (s₁.setTop (mkF m 10 #[iv p0, iv p1, iv p2, iv p3, jv p4, .second, iv (p0 &&& (65535 : Int32)), .unset, .unset, .unset, .unset, .unset, .unset, .unset, .unset, .unset, .unset] [(.int (p1 &&& (65535 : Int32)))])) _
    refine XS.istore X0.here hx rfl (hb hby at_10) rfl (l' := #[iv p0, iv p1, iv p2, iv p3, jv p4, .second, iv (p0 &&& (65535 : Int32)), iv (p1 &&& (65535 : Int32)), .unset, .unset, .unset, .unset, .unset, .unset, .unset, .unset, .unset]) rfl ?_
    show Steps p.tables e below (s₁.setTop (mkF m 12 #[iv p0, iv p1, iv p2, iv p3, jv p4, .second, iv (p0 &&& (65535 : Int32)), iv (p1 &&& (65535 : Int32)), .unset, .unset, .unset, .unset, .unset, .unset, .unset, .unset, .unset] [])) _
    refine XS.iloadN X0.here hx rfl (hb hby at_12) rfl ?_
    show Steps p.tables e below (s₁.setTop (mkF m 13 #[iv p0, iv p1, iv p2, iv p3, jv p4, .second, iv (p0 &&& (65535 : Int32)), iv (p1 &&& (65535 : Int32)), .unset, .unset, .unset, .unset, .unset, .unset, .unset, .unset, .unset] [(.int p2)])) _
    refine XS.sipush X0.here hx rfl (hb hby at_13) ?_
    show Steps p.tables e below (s₁.setTop (mkF m 16 #[iv p0, iv p1, iv p2, iv p3, jv p4, .second, iv (p0 &&& (65535 : Int32)), iv (p1 &&& (65535 : Int32)), .unset, .unset, .unset, .unset, .unset, .unset, .unset, .unset, .unset] [(.int 255), (.int p2)])) _
    refine XS.iand X0.here hx rfl (hb hby at_16) rfl ?_
    show Steps p.tables e below (s₁.setTop (mkF m 17 #[iv p0, iv p1, iv p2, iv p3, jv p4, .second, iv (p0 &&& (65535 : Int32)), iv (p1 &&& (65535 : Int32)), .unset, .unset, .unset, .unset, .unset, .unset, .unset, .unset, .unset] [(.int (p2 &&& (255 : Int32)))])) _
    refine XS.istore X0.here hx rfl (hb hby at_17) rfl (l' := #[iv p0, iv p1, iv p2, iv p3, jv p4, .second, iv (p0 &&& (65535 : Int32)), iv (p1 &&& (65535 : Int32)), iv (p2 &&& (255 : Int32)), .unset, .unset, .unset, .unset, .unset, .unset, .unset, .unset]) rfl ?_
    show Steps p.tables e below (s₁.setTop (mkF m 19 #[iv p0, iv p1, iv p2, iv p3, jv p4, .second, iv (p0 &&& (65535 : Int32)), iv (p1 &&& (65535 : Int32)), iv (p2 &&& (255 : Int32)), .unset, .unset, .unset, .unset, .unset, .unset, .unset, .unset] [])) _
    refine XS.iloadN X0.here hx rfl (hb hby at_19) rfl ?_
    show Steps p.tables e below (s₁.setTop (mkF m 20 #[iv p0, iv p1, iv p2, iv p3, jv p4, .second, iv (p0 &&& (65535 : Int32)), iv (p1 &&& (65535 : Int32)), iv (p2 &&& (255 : Int32)), .unset, .unset, .unset, .unset, .unset, .unset, .unset, .unset] [(.int p3)])) _
    refine XS.bipush X0.here hx rfl (hb hby at_20) ?_
    show Steps p.tables e below (s₁.setTop (mkF m 22 #[iv p0, iv p1, iv p2, iv p3, jv p4, .second, iv (p0 &&& (65535 : Int32)), iv (p1 &&& (65535 : Int32)), iv (p2 &&& (255 : Int32)), .unset, .unset, .unset, .unset, .unset, .unset, .unset, .unset] [(.int 8), (.int p3)])) _
    refine XS.ishl X0.here hx rfl (hb hby at_22) rfl ?_
    show Steps p.tables e below (s₁.setTop (mkF m 23 #[iv p0, iv p1, iv p2, iv p3, jv p4, .second, iv (p0 &&& (65535 : Int32)), iv (p1 &&& (65535 : Int32)), iv (p2 &&& (255 : Int32)), .unset, .unset, .unset, .unset, .unset, .unset, .unset, .unset] [(.int (p3 <<< ((8 : Int32) &&& 31)))])) _
    refine XS.bipush X0.here hx rfl (hb hby at_23) ?_
    show Steps p.tables e below (s₁.setTop (mkF m 25 #[iv p0, iv p1, iv p2, iv p3, jv p4, .second, iv (p0 &&& (65535 : Int32)), iv (p1 &&& (65535 : Int32)), iv (p2 &&& (255 : Int32)), .unset, .unset, .unset, .unset, .unset, .unset, .unset, .unset] [(.int 8), (.int (p3 <<< ((8 : Int32) &&& 31)))])) _
    refine XS.ishr X0.here hx rfl (hb hby at_25) rfl ?_
    show Steps p.tables e below (s₁.setTop (mkF m 26 #[iv p0, iv p1, iv p2, iv p3, jv p4, .second, iv (p0 &&& (65535 : Int32)), iv (p1 &&& (65535 : Int32)), iv (p2 &&& (255 : Int32)), .unset, .unset, .unset, .unset, .unset, .unset, .unset, .unset] [(.int ((p3 <<< ((8 : Int32) &&& 31)) >>> ((8 : Int32) &&& 31)))])) _
    refine XS.istore X0.here hx rfl (hb hby at_26) rfl (l' := #[iv p0, iv p1, iv p2, iv p3, jv p4, .second, iv (p0 &&& (65535 : Int32)), iv (p1 &&& (65535 : Int32)), iv (p2 &&& (255 : Int32)), iv ((p3 <<< ((8 : Int32) &&& 31)) >>> ((8 : Int32) &&& 31)), .unset, .unset, .unset, .unset, .unset, .unset, .unset]) rfl ?_
    show Steps p.tables e below (s₁.setTop (mkF m 28 #[iv p0, iv p1, iv p2, iv p3, jv p4, .second, iv (p0 &&& (65535 : Int32)), iv (p1 &&& (65535 : Int32)), iv (p2 &&& (255 : Int32)), iv ((p3 <<< ((8 : Int32) &&& 31)) >>> ((8 : Int32) &&& 31)), .unset, .unset, .unset, .unset, .unset, .unset, .unset] [])) _
    exact k
  refine own_lift sg1 ?_
  show own_Go p.tables e below (s₁.setTop (mkF m 28 #[iv p0, iv p1, iv p2, iv p3, jv p4, .second, iv (p0 &&& (65535 : Int32)), iv (p1 &&& (65535 : Int32)), iv (p2 &&& (255 : Int32)), iv ((p3 <<< ((8 : Int32) &&& 31)) >>> ((8 : Int32) &&& 31)), .unset, .unset, .unset, .unset, .unset, .unset, .unset] [])) _
  obtain ⟨T2, h2, X2, e2, Ex2, Ax2, Dx2, Ux2, st2⟩ := newO X0 hx hZ hown (wd hw 1 rfl) (wd hw 2 rfl) (wd hw 3 rfl) e0 (g := (mkF m 28 #[iv p0, iv p1, iv p2, iv p3, jv p4, .second, iv (p0 &&& (65535 : Int32)), iv (p1 &&& (65535 : Int32)), iv (p2 &&& (255 : Int32)), iv ((p3 <<< ((8 : Int32) &&& 31)) >>> ((8 : Int32) &&& 31)), .unset, .unset, .unset, .unset, .unset, .unset, .unset] [])) rfl (hb hby at_28) (by decide) (by decide)
  obtain ⟨ob2, g2⟩ : ∃ z, z = h0.size := ⟨_, rfl⟩
  rw [← g2] at Ax2 Dx2 Ux2 st2
  have Z2 : n0 ≤ h2.size := Nat.le_trans Z0 Ex2.1
  have ge2 : n0 ≤ ob2 := Nat.le_trans Z0 (Nat.le_of_eq g2.symm)
  have Fn2_14 : Fld Z h2 ob2 "com/example/halyard/halyard/core/mal/TypeId" "area" "I" (.int 0) := Dx2 (Or.inr (wd hw 14 rfl)) (ty := .int) (by decide)
  have Fn2_16 : Fld Z h2 ob2 "com/example/halyard/halyard/core/mal/TypeId" "service" "I" (.int 0) := Dx2 (Or.inr (wd hw 16 rfl)) (ty := .int) (by decide)
  have Fn2_18 : Fld Z h2 ob2 "com/example/halyard/halyard/core/mal/TypeId" "areaVersion" "I" (.int 0) := Dx2 (Or.inr (wd hw 18 rfl)) (ty := .int) (by decide)
  have Fn2_20 : Fld Z h2 ob2 "com/example/halyard/halyard/core/mal/TypeId" "shortFormPart" "I" (.int 0) := Dx2 (Or.inr (wd hw 20 rfl)) (ty := .int) (by decide)
  refine own_lift st2 ?_
  show own_Go p.tables e below (T2.setTop (mkF m 31 #[iv p0, iv p1, iv p2, iv p3, jv p4, .second, iv (p0 &&& (65535 : Int32)), iv (p1 &&& (65535 : Int32)), iv (p2 &&& (255 : Int32)), iv ((p3 <<< ((8 : Int32) &&& 31)) >>> ((8 : Int32) &&& 31)), .unset, .unset, .unset, .unset, .unset, .unset, .unset] [(.ref ob2)])) _
  have sg3 : ∀ t, Steps p.tables e below (T2.setTop (mkF m 40 #[iv p0, iv p1, iv p2, iv p3, jv p4, .second, iv (p0 &&& (65535 : Int32)), iv (p1 &&& (65535 : Int32)), iv (p2 &&& (255 : Int32)), iv ((p3 <<< ((8 : Int32) &&& 31)) >>> ((8 : Int32) &&& 31)), .unset, .unset, .unset, .unset, .unset, .unset, .unset] [(.int ((p3 <<< ((8 : Int32) &&& 31)) >>> ((8 : Int32) &&& 31))), (.int (p2 &&& (255 : Int32))), (.int (p1 &&& (65535 : Int32))), (.int (p0 &&& (65535 : Int32))), (.ref ob2), (.ref ob2)])) t → Steps p.tables e below (T2.setTop (mkF m 31 #[iv p0, iv p1, iv p2, iv p3, jv p4, .second, iv (p0 &&& (65535 : Int32)), iv (p1 &&& (65535 : Int32)), iv (p2 &&& (255 : Int32)), iv ((p3 <<< ((8 : Int32) &&& 31)) >>> ((8 : Int32) &&& 31)), .unset, .unset, .unset, .unset, .unset, .unset, .unset] [(.ref ob2)])) t := by
    intro t k
    refine XS.dup X2.here hx rfl (hb hby at_31) rfl rfl ?_
    show Steps p.tables e below (T2.setTop (mkF m 32 #[iv p0, iv p1, iv p2, iv p3, jv p4, .second, iv (p0 &&& (65535 : Int32)), iv (p1 &&& (65535 : Int32)), iv (p2 &&& (255 : Int32)), iv ((p3 <<< ((8 : Int32) &&& 31)) >>> ((8 : Int32) &&& 31)), .unset, .unset, .unset, .unset, .unset, .unset, .unset] [(.ref ob2), (.ref ob2)])) _
    refine XS.iload X2.here hx rfl (hb hby at_32) rfl ?_
    show Steps p.tables e below (T2.setTop (mkF m 34 #[iv p0, iv p1, iv p2, iv p3, jv p4, .second, iv (p0 &&& (65535 : Int32)), iv (p1 &&& (65535 : Int32)), iv (p2 &&& (255 : Int32)), iv ((p3 <<< ((8 : Int32) &&& 31)) >>> ((8 : Int32) &&& 31)), .unset, .unset, .unset, .unset, .unset, .unset, .unset] [(.int (p0 &&& (65535 : Int32))), (.ref ob2), (.ref ob2)])) _
    refine XS.iload X2.here hx rfl (hb hby at_34) rfl ?_
    show Steps p.tables e below (T2.setTop (mkF m 36 #[iv p0, iv p1, iv p2, iv p3, jv p4, .second, iv (p0 &&& (65535 : Int32)), iv (p1 &&& (65535 : Int32)), iv (p2 &&& (255 : Int32)), iv ((p3 <<< ((8 : Int32) &&& 31)) >>> ((8 : Int32) &&& 31)), .unset, .unset, .unset, .unset, .unset, .unset, .unset] [(.int (p1 &&& (65535 : Int32))), (.int (p0 &&& (65535 : Int32))), (.ref ob2), (.ref ob2)])) _
    refine XS.iload X2.here hx rfl (hb hby at_36) rfl ?_
    show Steps p.tables e below (T2.setTop (mkF m 38 #[iv p0, iv p1, iv p2, iv p3, jv p4, .second, iv (p0 &&& (65535 : Int32)), iv (p1 &&& (65535 : Int32)), iv (p2 &&& (255 : Int32)), iv ((p3 <<< ((8 : Int32) &&& 31)) >>> ((8 : Int32) &&& 31)), .unset, .unset, .unset, .unset, .unset, .unset, .unset] [(.int (p2 &&& (255 : Int32))), (.int (p1 &&& (65535 : Int32))), (.int (p0 &&& (65535 : Int32))), (.ref ob2), (.ref ob2)])) _
    refine XS.iload X2.here hx rfl (hb hby at_38) rfl ?_
    show Steps p.tables e below (T2.setTop (mkF m 40 #[iv p0, iv p1, iv p2, iv p3, jv p4, .second, iv (p0 &&& (65535 : Int32)), iv (p1 &&& (65535 : Int32)), iv (p2 &&& (255 : Int32)), iv ((p3 <<< ((8 : Int32) &&& 31)) >>> ((8 : Int32) &&& 31)), .unset, .unset, .unset, .unset, .unset, .unset, .unset] [(.int ((p3 <<< ((8 : Int32) &&& 31)) >>> ((8 : Int32) &&& 31))), (.int (p2 &&& (255 : Int32))), (.int (p1 &&& (65535 : Int32))), (.int (p0 &&& (65535 : Int32))), (.ref ob2), (.ref ob2)])) _
    exact k
  refine own_lift sg3 ?_
  show own_Go p.tables e below (T2.setTop (mkF m 40 #[iv p0, iv p1, iv p2, iv p3, jv p4, .second, iv (p0 &&& (65535 : Int32)), iv (p1 &&& (65535 : Int32)), iv (p2 &&& (255 : Int32)), iv ((p3 <<< ((8 : Int32) &&& 31)) >>> ((8 : Int32) &&& 31)), .unset, .unset, .unset, .unset, .unset, .unset, .unset] [(.int ((p3 <<< ((8 : Int32) &&& 31)) >>> ((8 : Int32) &&& 31))), (.int (p2 &&& (255 : Int32))), (.int (p1 &&& (65535 : Int32))), (.int (p0 &&& (65535 : Int32))), (.ref ob2), (.ref ob2)])) _
  obtain ⟨_, _, ⟨T4, Lx4, kx4, nx4⟩, -, X4, ⟨Lc4, hQ4, lx4, yx4, zx4⟩, st4⟩ := X2.specialBack hx (y := (⟨"com/example/halyard/halyard/core/mal/TypeId", "<init>", "(IIII)V"⟩ : MethodName)) rfl hown (mvT hZ (wd hw 4 rfl)) (mvT hZ (wd hw 5 rfl)) (mvT hZ (wd hw 6 rfl)) (by decide) (backOf (W := 1) (rmInit l Z a0 hw [] ob2 (p0 &&& (65535 : Int32)) (p1 &&& (65535 : Int32)) (p2 &&& (255 : Int32)) ((p3 <<< ((8 : Int32) &&& 31)) >>> ((8 : Int32) &&& 31)) h2 n0 Z2 Fn2_14 Fn2_16 Fn2_18 Fn2_20 Ax2 ge2 (own_m16 p0).1 (own_m16 p0).2 (own_m16 p1).1 (own_m16 p1).2 (own_m8 p2).1 (own_m8 p2).2 (own_s24 p3).1 (own_s24 p3).2) hZ (wd hw 6 rfl) (wd hw 3 rfl) (by decide) (by decide)) (g := (mkF m 40 #[iv p0, iv p1, iv p2, iv p3, jv p4, .second, iv (p0 &&& (65535 : Int32)), iv (p1 &&& (65535 : Int32)), iv (p2 &&& (255 : Int32)), iv ((p3 <<< ((8 : Int32) &&& 31)) >>> ((8 : Int32) &&& 31)), .unset, .unset, .unset, .unset, .unset, .unset, .unset] [(.int ((p3 <<< ((8 : Int32) &&& 31)) >>> ((8 : Int32) &&& 31))), (.int (p2 &&& (255 : Int32))), (.int (p1 &&& (65535 : Int32))), (.int (p0 &&& (65535 : Int32))), (.ref ob2), (.ref ob2)])) rfl (by rw [hml]; rfl) (Steps.refl _) (a := ob2) (argsL := [(.int (p0 &&& (65535 : Int32))), (.int (p1 &&& (65535 : Int32))), (.int (p2 &&& (255 : Int32))), (.int ((p3 <<< ((8 : Int32) &&& 31)) >>> ((8 : Int32) &&& 31)))]) (rest := [(.ref ob2)]) (lenOf pd_0 rfl) rfl (by show 2 * 0 + _ ≤ _; exact Nat.le_of_eq rfl) (hb hby at_40) (fun _ _ => ⟨rfl, e2, (by decide : 1 + 0 ≤ _), (by decide : 4 + 0 ≤ _)⟩)
  dsimp only [Pt.U, Pt.locs, Pt.cells, Pt.slots] at X4 lx4 yx4 zx4 st4 hQ4
  subst lx4 yx4 zx4
  obtain ⟨rfl, N4q, p4_0, p4_1, p4_2, p4_3, p4_4, p4_5⟩ := hQ4
  have N4 := Fr.app N0 N4q
  have Z4 : n0 ≤ T4.heap.size := Nat.le_trans Z2 p4_0.1
  refine own_lift (fun t k => st4.trans k) ?_
  show own_Go p.tables e below (T4.setTop (mkF m 43 #[iv p0, iv p1, iv p2, iv p3, jv p4, .second, iv (p0 &&& (65535 : Int32)), iv (p1 &&& (65535 : Int32)), iv (p2 &&& (255 : Int32)), iv ((p3 <<< ((8 : Int32) &&& 31)) >>> ((8 : Int32) &&& 31)), .unset, .unset, .unset, .unset, .unset, .unset, .unset] [(.ref ob2)])) _
  have sg5 : ∀ t, Steps p.tables e below (T4.setTop (mkF m 95 #[iv p0, iv p1, iv p2, iv p3, jv p4, .second, iv (p0 &&& (65535 : Int32)), iv (p1 &&& (65535 : Int32)), iv (p2 &&& (255 : Int32)), iv ((p3 <<< ((8 : Int32) &&& 31)) >>> ((8 : Int32) &&& 31)), rv ob2, jv ((((p3 <<< ((8 : Int32) &&& 31)) >>> ((8 : Int32) &&& 31)).toInt64) + (16777216 : Int64)), .second, jv ((((((p0 &&& (65535 : Int32)).toInt64) * (281474976710656 : Int64)) + (((p1 &&& (65535 : Int32)).toInt64) * (4294967296 : Int64))) + (((p2 &&& (255 : Int32)).toInt64) * (16777216 : Int64))) + ((((p3 <<< ((8 : Int32) &&& 31)) >>> ((8 : Int32) &&& 31)).toInt64) + (16777216 : Int64))), .second, .unset, .unset] [(.ref ob2)])) t → Steps p.tables e below (T4.setTop (mkF m 43 #[iv p0, iv p1, iv p2, iv p3, jv p4, .second, iv (p0 &&& (65535 : Int32)), iv (p1 &&& (65535 : Int32)), iv (p2 &&& (255 : Int32)), iv ((p3 <<< ((8 : Int32) &&& 31)) >>> ((8 : Int32) &&& 31)), .unset, .unset, .unset, .unset, .unset, .unset, .unset] [(.ref ob2)])) t := by
    intro t k
    refine XS.astore X4.here hx rfl (hb hby at_43) rfl rfl (l' := #[iv p0, iv p1, iv p2, iv p3, jv p4, .second, iv (p0 &&& (65535 : Int32)), iv (p1 &&& (65535 : Int32)), iv (p2 &&& (255 : Int32)), iv ((p3 <<< ((8 : Int32) &&& 31)) >>> ((8 : Int32) &&& 31)), rv ob2, .unset, .unset, .unset, .unset, .unset, .unset]) rfl ?_
    show Steps p.tables e below (T4.setTop (mkF m 45 #[iv p0, iv p1, iv p2, iv p3, jv p4, .second, iv (p0 &&& (65535 : Int32)), iv (p1 &&& (65535 : Int32)), iv (p2 &&& (255 : Int32)), iv ((p3 <<< ((8 : Int32) &&& 31)) >>> ((8 : Int32) &&& 31)), rv ob2, .unset, .unset, .unset, .unset, .unset, .unset] [])) _
    refine XS.iload X4.here hx rfl (hb hby at_45) rfl ?_
    show Steps p.tables e below (T4.setTop (mkF m 47 #[iv p0, iv p1, iv p2, iv p3, jv p4, .second, iv (p0 &&& (65535 : Int32)), iv (p1 &&& (65535 : Int32)), iv (p2 &&& (255 : Int32)), iv ((p3 <<< ((8 : Int32) &&& 31)) >>> ((8 : Int32) &&& 31)), rv ob2, .unset, .unset, .unset, .unset, .unset, .unset] [(.int ((p3 <<< ((8 : Int32) &&& 31)) >>> ((8 : Int32) &&& 31)))])) _
    refine XS.ifNo X4.here hx rfl (hb hby at_47) rfl ((if0 _ _).trans (tlt c1).2.1) ?_
    show Steps p.tables e below (T4.setTop (mkF m 50 #[iv p0, iv p1, iv p2, iv p3, jv p4, .second, iv (p0 &&& (65535 : Int32)), iv (p1 &&& (65535 : Int32)), iv (p2 &&& (255 : Int32)), iv ((p3 <<< ((8 : Int32) &&& 31)) >>> ((8 : Int32) &&& 31)), rv ob2, .unset, .unset, .unset, .unset, .unset, .unset] [])) _
    refine XS.iload X4.here hx rfl (hb hby at_50) rfl ?_
    show Steps p.tables e below (T4.setTop (mkF m 52 #[iv p0, iv p1, iv p2, iv p3, jv p4, .second, iv (p0 &&& (65535 : Int32)), iv (p1 &&& (65535 : Int32)), iv (p2 &&& (255 : Int32)), iv ((p3 <<< ((8 : Int32) &&& 31)) >>> ((8 : Int32) &&& 31)), rv ob2, .unset, .unset, .unset, .unset, .unset, .unset] [(.int ((p3 <<< ((8 : Int32) &&& 31)) >>> ((8 : Int32) &&& 31)))])) _
    refine XS.i2l X4.here hx rfl (hb hby at_52) rfl ?_
    show Steps p.tables e below (T4.setTop (mkF m 53 #[iv p0, iv p1, iv p2, iv p3, jv p4, .second, iv (p0 &&& (65535 : Int32)), iv (p1 &&& (65535 : Int32)), iv (p2 &&& (255 : Int32)), iv ((p3 <<< ((8 : Int32) &&& 31)) >>> ((8 : Int32) &&& 31)), rv ob2, .unset, .unset, .unset, .unset, .unset, .unset] [(.long (((p3 <<< ((8 : Int32) &&& 31)) >>> ((8 : Int32) &&& 31)).toInt64))])) _
    refine X4.ldc2Long hx hown (mvT hZ (wd hw 23 rfl)) (g := (mkF m 53 #[iv p0, iv p1, iv p2, iv p3, jv p4, .second, iv (p0 &&& (65535 : Int32)), iv (p1 &&& (65535 : Int32)), iv (p2 &&& (255 : Int32)), iv ((p3 <<< ((8 : Int32) &&& 31)) >>> ((8 : Int32) &&& 31)), rv ob2, .unset, .unset, .unset, .unset, .unset, .unset] [(.long (((p3 <<< ((8 : Int32) &&& 31)) >>> ((8 : Int32) &&& 31)).toInt64))])) rfl (hb hby at_53) _ ?_
    show Steps p.tables e below (T4.setTop (mkF m 56 #[iv p0, iv p1, iv p2, iv p3, jv p4, .second, iv (p0 &&& (65535 : Int32)), iv (p1 &&& (65535 : Int32)), iv (p2 &&& (255 : Int32)), iv ((p3 <<< ((8 : Int32) &&& 31)) >>> ((8 : Int32) &&& 31)), rv ob2, .unset, .unset, .unset, .unset, .unset, .unset] [(.long 16777216), (.long (((p3 <<< ((8 : Int32) &&& 31)) >>> ((8 : Int32) &&& 31)).toInt64))])) _
    refine XS.ladd X4.here hx rfl (hb hby at_56) rfl ?_
    show Steps p.tables e below (T4.setTop (mkF m 57 #[iv p0, iv p1, iv p2, iv p3, jv p4, .second, iv (p0 &&& (65535 : Int32)), iv (p1 &&& (65535 : Int32)), iv (p2 &&& (255 : Int32)), iv ((p3 <<< ((8 : Int32) &&& 31)) >>> ((8 : Int32) &&& 31)), rv ob2, .unset, .unset, .unset, .unset, .unset, .unset] [(.long ((((p3 <<< ((8 : Int32) &&& 31)) >>> ((8 : Int32) &&& 31)).toInt64) + (16777216 : Int64)))])) _
    refine XS.goto X4.here hx rfl (pc0 := 57) (pc' := 63) rfl (hb hby at_57) (by decide) (by decide) ?_
    show Steps p.tables e below (T4.setTop (mkF m 63 #[iv p0, iv p1, iv p2, iv p3, jv p4, .second, iv (p0 &&& (65535 : Int32)), iv (p1 &&& (65535 : Int32)), iv (p2 &&& (255 : Int32)), iv ((p3 <<< ((8 : Int32) &&& 31)) >>> ((8 : Int32) &&& 31)), rv ob2, .unset, .unset, .unset, .unset, .unset, .unset] [(.long ((((p3 <<< ((8 : Int32) &&& 31)) >>> ((8 : Int32) &&& 31)).toInt64) + (16777216 : Int64)))])) _
    refine XS.lstore X4.here hx rfl (hb hby at_63) rfl (l' := #[iv p0, iv p1, iv p2, iv p3, jv p4, .second, iv (p0 &&& (65535 : Int32)), iv (p1 &&& (65535 : Int32)), iv (p2 &&& (255 : Int32)), iv ((p3 <<< ((8 : Int32) &&& 31)) >>> ((8 : Int32) &&& 31)), rv ob2, jv ((((p3 <<< ((8 : Int32) &&& 31)) >>> ((8 : Int32) &&& 31)).toInt64) + (16777216 : Int64)), .second, .unset, .unset, .unset, .unset]) rfl ?_
    show Steps p.tables e below (T4.setTop (mkF m 65 #[iv p0, iv p1, iv p2, iv p3, jv p4, .second, iv (p0 &&& (65535 : Int32)), iv (p1 &&& (65535 : Int32)), iv (p2 &&& (255 : Int32)), iv ((p3 <<< ((8 : Int32) &&& 31)) >>> ((8 : Int32) &&& 31)), rv ob2, jv ((((p3 <<< ((8 : Int32) &&& 31)) >>> ((8 : Int32) &&& 31)).toInt64) + (16777216 : Int64)), .second, .unset, .unset, .unset, .unset] [])) _
    refine XS.iload X4.here hx rfl (hb hby at_65) rfl ?_
    show Steps p.tables e below (T4.setTop (mkF m 67 #[iv p0, iv p1, iv p2, iv p3, jv p4, .second, iv (p0 &&& (65535 : Int32)), iv (p1 &&& (65535 : Int32)), iv (p2 &&& (255 : Int32)), iv ((p3 <<< ((8 : Int32) &&& 31)) >>> ((8 : Int32) &&& 31)), rv ob2, jv ((((p3 <<< ((8 : Int32) &&& 31)) >>> ((8 : Int32) &&& 31)).toInt64) + (16777216 : Int64)), .second, .unset, .unset, .unset, .unset] [(.int (p0 &&& (65535 : Int32)))])) _
    refine XS.i2l X4.here hx rfl (hb hby at_67) rfl ?_
    show Steps p.tables e below (T4.setTop (mkF m 68 #[iv p0, iv p1, iv p2, iv p3, jv p4, .second, iv (p0 &&& (65535 : Int32)), iv (p1 &&& (65535 : Int32)), iv (p2 &&& (255 : Int32)), iv ((p3 <<< ((8 : Int32) &&& 31)) >>> ((8 : Int32) &&& 31)), rv ob2, jv ((((p3 <<< ((8 : Int32) &&& 31)) >>> ((8 : Int32) &&& 31)).toInt64) + (16777216 : Int64)), .second, .unset, .unset, .unset, .unset] [(.long ((p0 &&& (65535 : Int32)).toInt64))])) _
    refine X4.ldc2Long hx hown (mvT hZ (wd hw 21 rfl)) (g := (mkF m 68 #[iv p0, iv p1, iv p2, iv p3, jv p4, .second, iv (p0 &&& (65535 : Int32)), iv (p1 &&& (65535 : Int32)), iv (p2 &&& (255 : Int32)), iv ((p3 <<< ((8 : Int32) &&& 31)) >>> ((8 : Int32) &&& 31)), rv ob2, jv ((((p3 <<< ((8 : Int32) &&& 31)) >>> ((8 : Int32) &&& 31)).toInt64) + (16777216 : Int64)), .second, .unset, .unset, .unset, .unset] [(.long ((p0 &&& (65535 : Int32)).toInt64))])) rfl (hb hby at_68) _ ?_
    show Steps p.tables e below (T4.setTop (mkF m 71 #[iv p0, iv p1, iv p2, iv p3, jv p4, .second, iv (p0 &&& (65535 : Int32)), iv (p1 &&& (65535 : Int32)), iv (p2 &&& (255 : Int32)), iv ((p3 <<< ((8 : Int32) &&& 31)) >>> ((8 : Int32) &&& 31)), rv ob2, jv ((((p3 <<< ((8 : Int32) &&& 31)) >>> ((8 : Int32) &&& 31)).toInt64) + (16777216 : Int64)), .second, .unset, .unset, .unset, .unset] [(.long 281474976710656), (.long ((p0 &&& (65535 : Int32)).toInt64))])) _
    refine XS.lmul X4.here hx rfl (hb hby at_71) rfl ?_
    show Steps p.tables e below (T4.setTop (mkF m 72 #[iv p0, iv p1, iv p2, iv p3, jv p4, .second, iv (p0 &&& (65535 : Int32)), iv (p1 &&& (65535 : Int32)), iv (p2 &&& (255 : Int32)), iv ((p3 <<< ((8 : Int32) &&& 31)) >>> ((8 : Int32) &&& 31)), rv ob2, jv ((((p3 <<< ((8 : Int32) &&& 31)) >>> ((8 : Int32) &&& 31)).toInt64) + (16777216 : Int64)), .second, .unset, .unset, .unset, .unset] [(.long (((p0 &&& (65535 : Int32)).toInt64) * (281474976710656 : Int64)))])) _
    refine XS.iload X4.here hx rfl (hb hby at_72) rfl ?_
    show Steps p.tables e below (T4.setTop (mkF m 74 #[iv p0, iv p1, iv p2, iv p3, jv p4, .second, iv (p0 &&& (65535 : Int32)), iv (p1 &&& (65535 : Int32)), iv (p2 &&& (255 : Int32)), iv ((p3 <<< ((8 : Int32) &&& 31)) >>> ((8 : Int32) &&& 31)), rv ob2, jv ((((p3 <<< ((8 : Int32) &&& 31)) >>> ((8 : Int32) &&& 31)).toInt64) + (16777216 : Int64)), .second, .unset, .unset, .unset, .unset] [(.int (p1 &&& (65535 : Int32))), (.long (((p0 &&& (65535 : Int32)).toInt64) * (281474976710656 : Int64)))])) _
    refine XS.i2l X4.here hx rfl (hb hby at_74) rfl ?_
    show Steps p.tables e below (T4.setTop (mkF m 75 #[iv p0, iv p1, iv p2, iv p3, jv p4, .second, iv (p0 &&& (65535 : Int32)), iv (p1 &&& (65535 : Int32)), iv (p2 &&& (255 : Int32)), iv ((p3 <<< ((8 : Int32) &&& 31)) >>> ((8 : Int32) &&& 31)), rv ob2, jv ((((p3 <<< ((8 : Int32) &&& 31)) >>> ((8 : Int32) &&& 31)).toInt64) + (16777216 : Int64)), .second, .unset, .unset, .unset, .unset] [(.long ((p1 &&& (65535 : Int32)).toInt64)), (.long (((p0 &&& (65535 : Int32)).toInt64) * (281474976710656 : Int64)))])) _
    refine X4.ldc2Long hx hown (mvT hZ (wd hw 22 rfl)) (g := (mkF m 75 #[iv p0, iv p1, iv p2, iv p3, jv p4, .second, iv (p0 &&& (65535 : Int32)), iv (p1 &&& (65535 : Int32)), iv (p2 &&& (255 : Int32)), iv ((p3 <<< ((8 : Int32) &&& 31)) >>> ((8 : Int32) &&& 31)), rv ob2, jv ((((p3 <<< ((8 : Int32) &&& 31)) >>> ((8 : Int32) &&& 31)).toInt64) + (16777216 : Int64)), .second, .unset, .unset, .unset, .unset] [(.long ((p1 &&& (65535 : Int32)).toInt64)), (.long (((p0 &&& (65535 : Int32)).toInt64) * (281474976710656 : Int64)))])) rfl (hb hby at_75) _ ?_
    show Steps p.tables e below (T4.setTop (mkF m 78 #[iv p0, iv p1, iv p2, iv p3, jv p4, .second, iv (p0 &&& (65535 : Int32)), iv (p1 &&& (65535 : Int32)), iv (p2 &&& (255 : Int32)), iv ((p3 <<< ((8 : Int32) &&& 31)) >>> ((8 : Int32) &&& 31)), rv ob2, jv ((((p3 <<< ((8 : Int32) &&& 31)) >>> ((8 : Int32) &&& 31)).toInt64) + (16777216 : Int64)), .second, .unset, .unset, .unset, .unset] [(.long 4294967296), (.long ((p1 &&& (65535 : Int32)).toInt64)), (.long (((p0 &&& (65535 : Int32)).toInt64) * (281474976710656 : Int64)))])) _
    refine XS.lmul X4.here hx rfl (hb hby at_78) rfl ?_
    show Steps p.tables e below (T4.setTop (mkF m 79 #[iv p0, iv p1, iv p2, iv p3, jv p4, .second, iv (p0 &&& (65535 : Int32)), iv (p1 &&& (65535 : Int32)), iv (p2 &&& (255 : Int32)), iv ((p3 <<< ((8 : Int32) &&& 31)) >>> ((8 : Int32) &&& 31)), rv ob2, jv ((((p3 <<< ((8 : Int32) &&& 31)) >>> ((8 : Int32) &&& 31)).toInt64) + (16777216 : Int64)), .second, .unset, .unset, .unset, .unset] [(.long (((p1 &&& (65535 : Int32)).toInt64) * (4294967296 : Int64))), (.long (((p0 &&& (65535 : Int32)).toInt64) * (281474976710656 : Int64)))])) _
    refine XS.ladd X4.here hx rfl (hb hby at_79) rfl ?_
    show Steps p.tables e below (T4.setTop (mkF m 80 #[iv p0, iv p1, iv p2, iv p3, jv p4, .second, iv (p0 &&& (65535 : Int32)), iv (p1 &&& (65535 : Int32)), iv (p2 &&& (255 : Int32)), iv ((p3 <<< ((8 : Int32) &&& 31)) >>> ((8 : Int32) &&& 31)), rv ob2, jv ((((p3 <<< ((8 : Int32) &&& 31)) >>> ((8 : Int32) &&& 31)).toInt64) + (16777216 : Int64)), .second, .unset, .unset, .unset, .unset] [(.long ((((p0 &&& (65535 : Int32)).toInt64) * (281474976710656 : Int64)) + (((p1 &&& (65535 : Int32)).toInt64) * (4294967296 : Int64))))])) _
    refine XS.iload X4.here hx rfl (hb hby at_80) rfl ?_
    show Steps p.tables e below (T4.setTop (mkF m 82 #[iv p0, iv p1, iv p2, iv p3, jv p4, .second, iv (p0 &&& (65535 : Int32)), iv (p1 &&& (65535 : Int32)), iv (p2 &&& (255 : Int32)), iv ((p3 <<< ((8 : Int32) &&& 31)) >>> ((8 : Int32) &&& 31)), rv ob2, jv ((((p3 <<< ((8 : Int32) &&& 31)) >>> ((8 : Int32) &&& 31)).toInt64) + (16777216 : Int64)), .second, .unset, .unset, .unset, .unset] [(.int (p2 &&& (255 : Int32))), (.long ((((p0 &&& (65535 : Int32)).toInt64) * (281474976710656 : Int64)) + (((p1 &&& (65535 : Int32)).toInt64) * (4294967296 : Int64))))])) _
    refine XS.i2l X4.here hx rfl (hb hby at_82) rfl ?_
    show Steps p.tables e below (T4.setTop (mkF m 83 #[iv p0, iv p1, iv p2, iv p3, jv p4, .second, iv (p0 &&& (65535 : Int32)), iv (p1 &&& (65535 : Int32)), iv (p2 &&& (255 : Int32)), iv ((p3 <<< ((8 : Int32) &&& 31)) >>> ((8 : Int32) &&& 31)), rv ob2, jv ((((p3 <<< ((8 : Int32) &&& 31)) >>> ((8 : Int32) &&& 31)).toInt64) + (16777216 : Int64)), .second, .unset, .unset, .unset, .unset] [(.long ((p2 &&& (255 : Int32)).toInt64)), (.long ((((p0 &&& (65535 : Int32)).toInt64) * (281474976710656 : Int64)) + (((p1 &&& (65535 : Int32)).toInt64) * (4294967296 : Int64))))])) _
    refine X4.ldc2Long hx hown (mvT hZ (wd hw 23 rfl)) (g := (mkF m 83 #[iv p0, iv p1, iv p2, iv p3, jv p4, .second, iv (p0 &&& (65535 : Int32)), iv (p1 &&& (65535 : Int32)), iv (p2 &&& (255 : Int32)), iv ((p3 <<< ((8 : Int32) &&& 31)) >>> ((8 : Int32) &&& 31)), rv ob2, jv ((((p3 <<< ((8 : Int32) &&& 31)) >>> ((8 : Int32) &&& 31)).toInt64) + (16777216 : Int64)), .second, .unset, .unset, .unset, .unset] [(.long ((p2 &&& (255 : Int32)).toInt64)), (.long ((((p0 &&& (65535 : Int32)).toInt64) * (281474976710656 : Int64)) + (((p1 &&& (65535 : Int32)).toInt64) * (4294967296 : Int64))))])) rfl (hb hby at_83) _ ?_
    show Steps p.tables e below (T4.setTop (mkF m 86 #[iv p0, iv p1, iv p2, iv p3, jv p4, .second, iv (p0 &&& (65535 : Int32)), iv (p1 &&& (65535 : Int32)), iv (p2 &&& (255 : Int32)), iv ((p3 <<< ((8 : Int32) &&& 31)) >>> ((8 : Int32) &&& 31)), rv ob2, jv ((((p3 <<< ((8 : Int32) &&& 31)) >>> ((8 : Int32) &&& 31)).toInt64) + (16777216 : Int64)), .second, .unset, .unset, .unset, .unset] [(.long 16777216), (.long ((p2 &&& (255 : Int32)).toInt64)), (.long ((((p0 &&& (65535 : Int32)).toInt64) * (281474976710656 : Int64)) + (((p1 &&& (65535 : Int32)).toInt64) * (4294967296 : Int64))))])) _
    refine XS.lmul X4.here hx rfl (hb hby at_86) rfl ?_
    show Steps p.tables e below (T4.setTop (mkF m 87 #[iv p0, iv p1, iv p2, iv p3, jv p4, .second, iv (p0 &&& (65535 : Int32)), iv (p1 &&& (65535 : Int32)), iv (p2 &&& (255 : Int32)), iv ((p3 <<< ((8 : Int32) &&& 31)) >>> ((8 : Int32) &&& 31)), rv ob2, jv ((((p3 <<< ((8 : Int32) &&& 31)) >>> ((8 : Int32) &&& 31)).toInt64) + (16777216 : Int64)), .second, .unset, .unset, .unset, .unset] [(.long (((p2 &&& (255 : Int32)).toInt64) * (16777216 : Int64))), (.long ((((p0 &&& (65535 : Int32)).toInt64) * (281474976710656 : Int64)) + (((p1 &&& (65535 : Int32)).toInt64) * (4294967296 : Int64))))])) _
    refine XS.ladd X4.here hx rfl (hb hby at_87) rfl ?_
    show Steps p.tables e below (T4.setTop (mkF m 88 #[iv p0, iv p1, iv p2, iv p3, jv p4, .second, iv (p0 &&& (65535 : Int32)), iv (p1 &&& (65535 : Int32)), iv (p2 &&& (255 : Int32)), iv ((p3 <<< ((8 : Int32) &&& 31)) >>> ((8 : Int32) &&& 31)), rv ob2, jv ((((p3 <<< ((8 : Int32) &&& 31)) >>> ((8 : Int32) &&& 31)).toInt64) + (16777216 : Int64)), .second, .unset, .unset, .unset, .unset] [(.long (((((p0 &&& (65535 : Int32)).toInt64) * (281474976710656 : Int64)) + (((p1 &&& (65535 : Int32)).toInt64) * (4294967296 : Int64))) + (((p2 &&& (255 : Int32)).toInt64) * (16777216 : Int64))))])) _
    refine XS.lload X4.here hx rfl (hb hby at_88) rfl ?_
    show Steps p.tables e below (T4.setTop (mkF m 90 #[iv p0, iv p1, iv p2, iv p3, jv p4, .second, iv (p0 &&& (65535 : Int32)), iv (p1 &&& (65535 : Int32)), iv (p2 &&& (255 : Int32)), iv ((p3 <<< ((8 : Int32) &&& 31)) >>> ((8 : Int32) &&& 31)), rv ob2, jv ((((p3 <<< ((8 : Int32) &&& 31)) >>> ((8 : Int32) &&& 31)).toInt64) + (16777216 : Int64)), .second, .unset, .unset, .unset, .unset] [(.long ((((p3 <<< ((8 : Int32) &&& 31)) >>> ((8 : Int32) &&& 31)).toInt64) + (16777216 : Int64))), (.long (((((p0 &&& (65535 : Int32)).toInt64) * (281474976710656 : Int64)) + (((p1 &&& (65535 : Int32)).toInt64) * (4294967296 : Int64))) + (((p2 &&& (255 : Int32)).toInt64) * (16777216 : Int64))))])) _
    refine XS.ladd X4.here hx rfl (hb hby at_90) rfl ?_
    show Steps p.tables e below (T4.setTop (mkF m 91 #[iv p0, iv p1, iv p2, iv p3, jv p4, .second, iv (p0 &&& (65535 : Int32)), iv (p1 &&& (65535 : Int32)), iv (p2 &&& (255 : Int32)), iv ((p3 <<< ((8 : Int32) &&& 31)) >>> ((8 : Int32) &&& 31)), rv ob2, jv ((((p3 <<< ((8 : Int32) &&& 31)) >>> ((8 : Int32) &&& 31)).toInt64) + (16777216 : Int64)), .second, .unset, .unset, .unset, .unset] [(.long ((((((p0 &&& (65535 : Int32)).toInt64) * (281474976710656 : Int64)) + (((p1 &&& (65535 : Int32)).toInt64) * (4294967296 : Int64))) + (((p2 &&& (255 : Int32)).toInt64) * (16777216 : Int64))) + ((((p3 <<< ((8 : Int32) &&& 31)) >>> ((8 : Int32) &&& 31)).toInt64) + (16777216 : Int64))))])) _
    refine XS.lstore X4.here hx rfl (hb hby at_91) rfl (l' := #[iv p0, iv p1, iv p2, iv p3, jv p4, .second, iv (p0 &&& (65535 : Int32)), iv (p1 &&& (65535 : Int32)), iv (p2 &&& (255 : Int32)), iv ((p3 <<< ((8 : Int32) &&& 31)) >>> ((8 : Int32) &&& 31)), rv ob2, jv ((((p3 <<< ((8 : Int32) &&& 31)) >>> ((8 : Int32) &&& 31)).toInt64) + (16777216 : Int64)), .second, jv ((((((p0 &&& (65535 : Int32)).toInt64) * (281474976710656 : Int64)) + (((p1 &&& (65535 : Int32)).toInt64) * (4294967296 : Int64))) + (((p2 &&& (255 : Int32)).toInt64) * (16777216 : Int64))) + ((((p3 <<< ((8 : Int32) &&& 31)) >>> ((8 : Int32) &&& 31)).toInt64) + (16777216 : Int64))), .second, .unset, .unset]) rfl ?_
    show Steps p.tables e below (T4.setTop (mkF m 93 #[iv p0, iv p1, iv p2, iv p3, jv p4, .second, iv (p0 &&& (65535 : Int32)), iv (p1 &&& (65535 : Int32)), iv (p2 &&& (255 : Int32)), iv ((p3 <<< ((8 : Int32) &&& 31)) >>> ((8 : Int32) &&& 31)), rv ob2, jv ((((p3 <<< ((8 : Int32) &&& 31)) >>> ((8 : Int32) &&& 31)).toInt64) + (16777216 : Int64)), .second, jv ((((((p0 &&& (65535 : Int32)).toInt64) * (281474976710656 : Int64)) + (((p1 &&& (65535 : Int32)).toInt64) * (4294967296 : Int64))) + (((p2 &&& (255 : Int32)).toInt64) * (16777216 : Int64))) + ((((p3 <<< ((8 : Int32) &&& 31)) >>> ((8 : Int32) &&& 31)).toInt64) + (16777216 : Int64))), .second, .unset, .unset] [])) _
    refine XS.aload X4.here hx rfl (hb hby at_93) rfl rfl ?_
    show Steps p.tables e below (T4.setTop (mkF m 95 #[iv p0, iv p1, iv p2, iv p3, jv p4, .second, iv (p0 &&& (65535 : Int32)), iv (p1 &&& (65535 : Int32)), iv (p2 &&& (255 : Int32)), iv ((p3 <<< ((8 : Int32) &&& 31)) >>> ((8 : Int32) &&& 31)), rv ob2, jv ((((p3 <<< ((8 : Int32) &&& 31)) >>> ((8 : Int32) &&& 31)).toInt64) + (16777216 : Int64)), .second, jv ((((((p0 &&& (65535 : Int32)).toInt64) * (281474976710656 : Int64)) + (((p1 &&& (65535 : Int32)).toInt64) * (4294967296 : Int64))) + (((p2 &&& (255 : Int32)).toInt64) * (16777216 : Int64))) + ((((p3 <<< ((8 : Int32) &&& 31)) >>> ((8 : Int32) &&& 31)).toInt64) + (16777216 : Int64))), .second, .unset, .unset] [(.ref ob2)])) _
    exact k
  refine own_lift sg5 ?_
  show own_Go p.tables e below (T4.setTop (mkF m 95 #[iv p0, iv p1, iv p2, iv p3, jv p4, .second, iv (p0 &&& (65535 : Int32)), iv (p1 &&& (65535 : Int32)), iv (p2 &&& (255 : Int32)), iv ((p3 <<< ((8 : Int32) &&& 31)) >>> ((8 : Int32) &&& 31)), rv ob2, jv ((((p3 <<< ((8 : Int32) &&& 31)) >>> ((8 : Int32) &&& 31)).toInt64) + (16777216 : Int64)), .second, jv ((((((p0 &&& (65535 : Int32)).toInt64) * (281474976710656 : Int64)) + (((p1 &&& (65535 : Int32)).toInt64) * (4294967296 : Int64))) + (((p2 &&& (255 : Int32)).toInt64) * (16777216 : Int64))) + ((((p3 <<< ((8 : Int32) &&& 31)) >>> ((8 : Int32) &&& 31)).toInt64) + (16777216 : Int64))), .second, .unset, .unset] [(.ref ob2)])) _
  obtain ⟨cq6, kq6, q6a, q6b, q6c⟩ := isOf hZ rfl p4_1
  obtain ⟨_, _, ⟨T6, Lx6, kx6, nx6⟩, -, X6, ⟨Lc6, hQ6, lx6, yx6, zx6⟩, st6⟩ := X4.virtualBack hx (y := (⟨"com/example/halyard/halyard/core/mal/TypeId", "toLong", "()J"⟩ : MethodName)) (z := (⟨"com/example/halyard/halyard/core/mal/TypeId", "toLong", "()J"⟩ : MethodName)) hown (mvT hZ (wd hw 24 rfl)) (mvT hZ (wd hw 25 rfl)) (notFace_of_selects (args := #[]) (mvT hZ (wd hw 27 rfl))) (mvT hZ (wd hw 27 rfl)) (mvT hZ (wd hw 26 rfl)) (by decide) (backOf (W := 0) (rmTL l Z a0 hw [] ob2 (p0 &&& (65535 : Int32)) (p1 &&& (65535 : Int32)) (p2 &&& (255 : Int32)) ((p3 <<< ((8 : Int32) &&& 31)) >>> ((8 : Int32) &&& 31)) T4.heap n0 Z4 p4_2 p4_3 p4_4 p4_5) hZ (wd hw 28 rfl) (wd hw 3 rfl) (by decide) (by decide)) q6a q6c (g := (mkF m 95 #[iv p0, iv p1, iv p2, iv p3, jv p4, .second, iv (p0 &&& (65535 : Int32)), iv (p1 &&& (65535 : Int32)), iv (p2 &&& (255 : Int32)), iv ((p3 <<< ((8 : Int32) &&& 31)) >>> ((8 : Int32) &&& 31)), rv ob2, jv ((((p3 <<< ((8 : Int32) &&& 31)) >>> ((8 : Int32) &&& 31)).toInt64) + (16777216 : Int64)), .second, jv ((((((p0 &&& (65535 : Int32)).toInt64) * (281474976710656 : Int64)) + (((p1 &&& (65535 : Int32)).toInt64) * (4294967296 : Int64))) + (((p2 &&& (255 : Int32)).toInt64) * (16777216 : Int64))) + ((((p3 <<< ((8 : Int32) &&& 31)) >>> ((8 : Int32) &&& 31)).toInt64) + (16777216 : Int64))), .second, .unset, .unset] [(.ref ob2)])) rfl (by rw [hml]; rfl) (Steps.refl _) (argsL := []) (rest := []) (lenOf pd_1 rfl) rfl (by show 2 * 0 + _ ≤ _; exact Nat.le_of_eq rfl) (hb hby at_95) (fun _ _ => ⟨rfl, rfl, (by decide : 1 + 0 ≤ _), (by decide : 4 + 0 ≤ _)⟩)
  dsimp only [Pt.U, Pt.locs, Pt.cells, Pt.slots] at X6 lx6 yx6 zx6 st6 hQ6
  subst lx6 yx6 zx6
  obtain ⟨rfl, N6q, e6⟩ := hQ6
  have N6 := Fr.app N4 N6q
  refine own_lift (fun t k => st6.trans k) ?_
  show own_Go p.tables e below (T6.setTop (mkF m 98 #[iv p0, iv p1, iv p2, iv p3, jv p4, .second, iv (p0 &&& (65535 : Int32)), iv (p1 &&& (65535 : Int32)), iv (p2 &&& (255 : Int32)), iv ((p3 <<< ((8 : Int32) &&& 31)) >>> ((8 : Int32) &&& 31)), rv ob2, jv ((((p3 <<< ((8 : Int32) &&& 31)) >>> ((8 : Int32) &&& 31)).toInt64) + (16777216 : Int64)), .second, jv ((((((p0 &&& (65535 : Int32)).toInt64) * (281474976710656 : Int64)) + (((p1 &&& (65535 : Int32)).toInt64) * (4294967296 : Int64))) + (((p2 &&& (255 : Int32)).toInt64) * (16777216 : Int64))) + ((((p3 <<< ((8 : Int32) &&& 31)) >>> ((8 : Int32) &&& 31)).toInt64) + (16777216 : Int64))), .second, .unset, .unset] [(.long (own_tl (p0 &&& (65535 : Int32)) (p1 &&& (65535 : Int32)) (p2 &&& (255 : Int32)) ((p3 <<< ((8 : Int32) &&& 31)) >>> ((8 : Int32) &&& 31))))])) _
  have sg7 : ∀ t, Steps p.tables e below (T6.setTop (mkF m 113 #[iv p0, iv p1, iv p2, iv p3, jv p4, .second, iv (p0 &&& (65535 : Int32)), iv (p1 &&& (65535 : Int32)), iv (p2 &&& (255 : Int32)), iv ((p3 <<< ((8 : Int32) &&& 31)) >>> ((8 : Int32) &&& 31)), rv ob2, jv ((((p3 <<< ((8 : Int32) &&& 31)) >>> ((8 : Int32) &&& 31)).toInt64) + (16777216 : Int64)), .second, jv ((((((p0 &&& (65535 : Int32)).toInt64) * (281474976710656 : Int64)) + (((p1 &&& (65535 : Int32)).toInt64) * (4294967296 : Int64))) + (((p2 &&& (255 : Int32)).toInt64) * (16777216 : Int64))) + ((((p3 <<< ((8 : Int32) &&& 31)) >>> ((8 : Int32) &&& 31)).toInt64) + (16777216 : Int64))), .second, iv 1, .unset] [(.long p4)])) t → Steps p.tables e below (T6.setTop (mkF m 98 #[iv p0, iv p1, iv p2, iv p3, jv p4, .second, iv (p0 &&& (65535 : Int32)), iv (p1 &&& (65535 : Int32)), iv (p2 &&& (255 : Int32)), iv ((p3 <<< ((8 : Int32) &&& 31)) >>> ((8 : Int32) &&& 31)), rv ob2, jv ((((p3 <<< ((8 : Int32) &&& 31)) >>> ((8 : Int32) &&& 31)).toInt64) + (16777216 : Int64)), .second, jv ((((((p0 &&& (65535 : Int32)).toInt64) * (281474976710656 : Int64)) + (((p1 &&& (65535 : Int32)).toInt64) * (4294967296 : Int64))) + (((p2 &&& (255 : Int32)).toInt64) * (16777216 : Int64))) + ((((p3 <<< ((8 : Int32) &&& 31)) >>> ((8 : Int32) &&& 31)).toInt64) + (16777216 : Int64))), .second, .unset, .unset] [(.long (own_tl (p0 &&& (65535 : Int32)) (p1 &&& (65535 : Int32)) (p2 &&& (255 : Int32)) ((p3 <<< ((8 : Int32) &&& 31)) >>> ((8 : Int32) &&& 31))))])) t := by
    intro t k
    refine XS.lload X6.here hx rfl (hb hby at_98) rfl ?_
    show Steps p.tables e below (T6.setTop (mkF m 100 #[iv p0, iv p1, iv p2, iv p3, jv p4, .second, iv (p0 &&& (65535 : Int32)), iv (p1 &&& (65535 : Int32)), iv (p2 &&& (255 : Int32)), iv ((p3 <<< ((8 : Int32) &&& 31)) >>> ((8 : Int32) &&& 31)), rv ob2, jv ((((p3 <<< ((8 : Int32) &&& 31)) >>> ((8 : Int32) &&& 31)).toInt64) + (16777216 : Int64)), .second, jv ((((((p0 &&& (65535 : Int32)).toInt64) * (281474976710656 : Int64)) + (((p1 &&& (65535 : Int32)).toInt64) * (4294967296 : Int64))) + (((p2 &&& (255 : Int32)).toInt64) * (16777216 : Int64))) + ((((p3 <<< ((8 : Int32) &&& 31)) >>> ((8 : Int32) &&& 31)).toInt64) + (16777216 : Int64))), .second, .unset, .unset] [(.long ((((((p0 &&& (65535 : Int32)).toInt64) * (281474976710656 : Int64)) + (((p1 &&& (65535 : Int32)).toInt64) * (4294967296 : Int64))) + (((p2 &&& (255 : Int32)).toInt64) * (16777216 : Int64))) + ((((p3 <<< ((8 : Int32) &&& 31)) >>> ((8 : Int32) &&& 31)).toInt64) + (16777216 : Int64)))), (.long (own_tl (p0 &&& (65535 : Int32)) (p1 &&& (65535 : Int32)) (p2 &&& (255 : Int32)) ((p3 <<< ((8 : Int32) &&& 31)) >>> ((8 : Int32) &&& 31))))])) _
    refine XS.lcmp X6.here hx rfl (hb hby at_100) rfl ?_
    show Steps p.tables e below (T6.setTop (mkF m 101 #[iv p0, iv p1, iv p2, iv p3, jv p4, .second, iv (p0 &&& (65535 : Int32)), iv (p1 &&& (65535 : Int32)), iv (p2 &&& (255 : Int32)), iv ((p3 <<< ((8 : Int32) &&& 31)) >>> ((8 : Int32) &&& 31)), rv ob2, jv ((((p3 <<< ((8 : Int32) &&& 31)) >>> ((8 : Int32) &&& 31)).toInt64) + (16777216 : Int64)), .second, jv ((((((p0 &&& (65535 : Int32)).toInt64) * (281474976710656 : Int64)) + (((p1 &&& (65535 : Int32)).toInt64) * (4294967296 : Int64))) + (((p2 &&& (255 : Int32)).toInt64) * (16777216 : Int64))) + ((((p3 <<< ((8 : Int32) &&& 31)) >>> ((8 : Int32) &&& 31)).toInt64) + (16777216 : Int64))), .second, .unset, .unset] [(.int (lcmpW (own_tl (p0 &&& (65535 : Int32)) (p1 &&& (65535 : Int32)) (p2 &&& (255 : Int32)) ((p3 <<< ((8 : Int32) &&& 31)) >>> ((8 : Int32) &&& 31))) ((((((p0 &&& (65535 : Int32)).toInt64) * (281474976710656 : Int64)) + (((p1 &&& (65535 : Int32)).toInt64) * (4294967296 : Int64))) + (((p2 &&& (255 : Int32)).toInt64) * (16777216 : Int64))) + ((((p3 <<< ((8 : Int32) &&& 31)) >>> ((8 : Int32) &&& 31)).toInt64) + (16777216 : Int64)))))])) _
    refine XS.ifNo X6.here hx rfl (hb hby at_101) rfl ((if0 _ _).trans (teq ((lw_eq (own_tl (p0 &&& (65535 : Int32)) (p1 &&& (65535 : Int32)) (p2 &&& (255 : Int32)) ((p3 <<< ((8 : Int32) &&& 31)) >>> ((8 : Int32) &&& 31))) ((((((p0 &&& (65535 : Int32)).toInt64) * (281474976710656 : Int64)) + (((p1 &&& (65535 : Int32)).toInt64) * (4294967296 : Int64))) + (((p2 &&& (255 : Int32)).toInt64) * (16777216 : Int64))) + ((((p3 <<< ((8 : Int32) &&& 31)) >>> ((8 : Int32) &&& 31)).toInt64) + (16777216 : Int64)))).2 (own_directN p0 p1 p2 p3 c1))).2) ?_
    show Steps p.tables e below (T6.setTop (mkF m 104 #[iv p0, iv p1, iv p2, iv p3, jv p4, .second, iv (p0 &&& (65535 : Int32)), iv (p1 &&& (65535 : Int32)), iv (p2 &&& (255 : Int32)), iv ((p3 <<< ((8 : Int32) &&& 31)) >>> ((8 : Int32) &&& 31)), rv ob2, jv ((((p3 <<< ((8 : Int32) &&& 31)) >>> ((8 : Int32) &&& 31)).toInt64) + (16777216 : Int64)), .second, jv ((((((p0 &&& (65535 : Int32)).toInt64) * (281474976710656 : Int64)) + (((p1 &&& (65535 : Int32)).toInt64) * (4294967296 : Int64))) + (((p2 &&& (255 : Int32)).toInt64) * (16777216 : Int64))) + ((((p3 <<< ((8 : Int32) &&& 31)) >>> ((8 : Int32) &&& 31)).toInt64) + (16777216 : Int64))), .second, .unset, .unset] [])) _
    refine XS.iconst X6.here hx rfl (hb hby at_104) ?_
    show Steps p.tables e below (T6.setTop (mkF m 105 #[iv p0, iv p1, iv p2, iv p3, jv p4, .second, iv (p0 &&& (65535 : Int32)), iv (p1 &&& (65535 : Int32)), iv (p2 &&& (255 : Int32)), iv ((p3 <<< ((8 : Int32) &&& 31)) >>> ((8 : Int32) &&& 31)), rv ob2, jv ((((p3 <<< ((8 : Int32) &&& 31)) >>> ((8 : Int32) &&& 31)).toInt64) + (16777216 : Int64)), .second, jv ((((((p0 &&& (65535 : Int32)).toInt64) * (281474976710656 : Int64)) + (((p1 &&& (65535 : Int32)).toInt64) * (4294967296 : Int64))) + (((p2 &&& (255 : Int32)).toInt64) * (16777216 : Int64))) + ((((p3 <<< ((8 : Int32) &&& 31)) >>> ((8 : Int32) &&& 31)).toInt64) + (16777216 : Int64))), .second, .unset, .unset] [(.int 1)])) _
    refine XS.goto X6.here hx rfl (pc0 := 105) (pc' := 109) rfl (hb hby at_105) (by decide) (by decide) ?_
    show Steps p.tables e below (T6.setTop (mkF m 109 #[iv p0, iv p1, iv p2, iv p3, jv p4, .second, iv (p0 &&& (65535 : Int32)), iv (p1 &&& (65535 : Int32)), iv (p2 &&& (255 : Int32)), iv ((p3 <<< ((8 : Int32) &&& 31)) >>> ((8 : Int32) &&& 31)), rv ob2, jv ((((p3 <<< ((8 : Int32) &&& 31)) >>> ((8 : Int32) &&& 31)).toInt64) + (16777216 : Int64)), .second, jv ((((((p0 &&& (65535 : Int32)).toInt64) * (281474976710656 : Int64)) + (((p1 &&& (65535 : Int32)).toInt64) * (4294967296 : Int64))) + (((p2 &&& (255 : Int32)).toInt64) * (16777216 : Int64))) + ((((p3 <<< ((8 : Int32) &&& 31)) >>> ((8 : Int32) &&& 31)).toInt64) + (16777216 : Int64))), .second, .unset, .unset] [(.int 1)])) _
    refine XS.istore X6.here hx rfl (hb hby at_109) rfl (l' := #[iv p0, iv p1, iv p2, iv p3, jv p4, .second, iv (p0 &&& (65535 : Int32)), iv (p1 &&& (65535 : Int32)), iv (p2 &&& (255 : Int32)), iv ((p3 <<< ((8 : Int32) &&& 31)) >>> ((8 : Int32) &&& 31)), rv ob2, jv ((((p3 <<< ((8 : Int32) &&& 31)) >>> ((8 : Int32) &&& 31)).toInt64) + (16777216 : Int64)), .second, jv ((((((p0 &&& (65535 : Int32)).toInt64) * (281474976710656 : Int64)) + (((p1 &&& (65535 : Int32)).toInt64) * (4294967296 : Int64))) + (((p2 &&& (255 : Int32)).toInt64) * (16777216 : Int64))) + ((((p3 <<< ((8 : Int32) &&& 31)) >>> ((8 : Int32) &&& 31)).toInt64) + (16777216 : Int64))), .second, iv 1, .unset]) rfl ?_
    show Steps p.tables e below (T6.setTop (mkF m 111 #[iv p0, iv p1, iv p2, iv p3, jv p4, .second, iv (p0 &&& (65535 : Int32)), iv (p1 &&& (65535 : Int32)), iv (p2 &&& (255 : Int32)), iv ((p3 <<< ((8 : Int32) &&& 31)) >>> ((8 : Int32) &&& 31)), rv ob2, jv ((((p3 <<< ((8 : Int32) &&& 31)) >>> ((8 : Int32) &&& 31)).toInt64) + (16777216 : Int64)), .second, jv ((((((p0 &&& (65535 : Int32)).toInt64) * (281474976710656 : Int64)) + (((p1 &&& (65535 : Int32)).toInt64) * (4294967296 : Int64))) + (((p2 &&& (255 : Int32)).toInt64) * (16777216 : Int64))) + ((((p3 <<< ((8 : Int32) &&& 31)) >>> ((8 : Int32) &&& 31)).toInt64) + (16777216 : Int64))), .second, iv 1, .unset] [])) _
    refine XS.lload X6.here hx rfl (hb hby at_111) rfl ?_
    show Steps p.tables e below (T6.setTop (mkF m 113 #[iv p0, iv p1, iv p2, iv p3, jv p4, .second, iv (p0 &&& (65535 : Int32)), iv (p1 &&& (65535 : Int32)), iv (p2 &&& (255 : Int32)), iv ((p3 <<< ((8 : Int32) &&& 31)) >>> ((8 : Int32) &&& 31)), rv ob2, jv ((((p3 <<< ((8 : Int32) &&& 31)) >>> ((8 : Int32) &&& 31)).toInt64) + (16777216 : Int64)), .second, jv ((((((p0 &&& (65535 : Int32)).toInt64) * (281474976710656 : Int64)) + (((p1 &&& (65535 : Int32)).toInt64) * (4294967296 : Int64))) + (((p2 &&& (255 : Int32)).toInt64) * (16777216 : Int64))) + ((((p3 <<< ((8 : Int32) &&& 31)) >>> ((8 : Int32) &&& 31)).toInt64) + (16777216 : Int64))), .second, iv 1, .unset] [(.long p4)])) _
    exact k
  refine own_lift sg7 ?_
  show own_Go p.tables e below (T6.setTop (mkF m 113 #[iv p0, iv p1, iv p2, iv p3, jv p4, .second, iv (p0 &&& (65535 : Int32)), iv (p1 &&& (65535 : Int32)), iv (p2 &&& (255 : Int32)), iv ((p3 <<< ((8 : Int32) &&& 31)) >>> ((8 : Int32) &&& 31)), rv ob2, jv ((((p3 <<< ((8 : Int32) &&& 31)) >>> ((8 : Int32) &&& 31)).toInt64) + (16777216 : Int64)), .second, jv ((((((p0 &&& (65535 : Int32)).toInt64) * (281474976710656 : Int64)) + (((p1 &&& (65535 : Int32)).toInt64) * (4294967296 : Int64))) + (((p2 &&& (255 : Int32)).toInt64) * (16777216 : Int64))) + ((((p3 <<< ((8 : Int32) &&& 31)) >>> ((8 : Int32) &&& 31)).toInt64) + (16777216 : Int64))), .second, iv 1, .unset] [(.long p4)])) _
  obtain ⟨_, _, ⟨T8, Lx8, kx8, nx8⟩, -, X8, ⟨Lc8, hQ8, lx8, yx8, zx8⟩, st8⟩ := Jvm.LawKit.callS X6 hx (y := (⟨"com/example/halyard/halyard/core/mal/TypeId", "of", "(J)Lcom/example/halyard/halyard/core/mal/TypeId;"⟩ : MethodName)) hown (mvT hZ (wd hw 30 rfl)) (mvT hZ (wd hw 31 rfl)) (mvT hZ (wd hw 3 rfl)) (mvT hZ (wd hw 32 rfl)) (by decide) (backOf (W := 0) (rmOf l Z a0 hw [] p4 T4.heap n0 Z4 ) hZ (wd hw 32 rfl) (wd hw 3 rfl) (by decide) (by decide)) (g := (mkF m 113 #[iv p0, iv p1, iv p2, iv p3, jv p4, .second, iv (p0 &&& (65535 : Int32)), iv (p1 &&& (65535 : Int32)), iv (p2 &&& (255 : Int32)), iv ((p3 <<< ((8 : Int32) &&& 31)) >>> ((8 : Int32) &&& 31)), rv ob2, jv ((((p3 <<< ((8 : Int32) &&& 31)) >>> ((8 : Int32) &&& 31)).toInt64) + (16777216 : Int64)), .second, jv ((((((p0 &&& (65535 : Int32)).toInt64) * (281474976710656 : Int64)) + (((p1 &&& (65535 : Int32)).toInt64) * (4294967296 : Int64))) + (((p2 &&& (255 : Int32)).toInt64) * (16777216 : Int64))) + ((((p3 <<< ((8 : Int32) &&& 31)) >>> ((8 : Int32) &&& 31)).toInt64) + (16777216 : Int64))), .second, iv 1, .unset] [(.long p4)])) rfl (by rw [hml]; rfl) (argsL := [(.long p4)]) (rest := []) (lenOf pd_2 rfl) rfl (by show 2 * 0 + _ ≤ _; exact Nat.le_of_eq rfl) (hb hby at_113) (fun _ _ => ⟨rfl, e6, (by decide : 1 + 1 ≤ _), (by decide : 4 + 4 ≤ _)⟩)
  dsimp only [Pt.U, Pt.locs, Pt.cells, Pt.slots] at X8 lx8 yx8 zx8 st8 hQ8
  subst lx8 yx8 zx8
  obtain ⟨xb_8, rfl, N8q, p8_0, p8_1, p8_2, p8_3, p8_4, p8_5, p8_6⟩ := hQ8
  have N8 := Fr.app N6 N8q
  have ne9 : ob2 ≠ xb_8 := Nat.ne_of_lt (Nat.lt_of_lt_of_le p4_1.lt p8_1)
  have Z8 : n0 ≤ T8.heap.size := Nat.le_trans Z4 p8_0.1
  have ge8_1 : n0 ≤ xb_8 := Nat.le_trans Z4 p8_1
  refine own_lift st8 ?_
  show own_Go p.tables e below (T8.setTop (mkF m 116 #[iv p0, iv p1, iv p2, iv p3, jv p4, .second, iv (p0 &&& (65535 : Int32)), iv (p1 &&& (65535 : Int32)), iv (p2 &&& (255 : Int32)), iv ((p3 <<< ((8 : Int32) &&& 31)) >>> ((8 : Int32) &&& 31)), rv ob2, jv ((((p3 <<< ((8 : Int32) &&& 31)) >>> ((8 : Int32) &&& 31)).toInt64) + (16777216 : Int64)), .second, jv ((((((p0 &&& (65535 : Int32)).toInt64) * (281474976710656 : Int64)) + (((p1 &&& (65535 : Int32)).toInt64) * (4294967296 : Int64))) + (((p2 &&& (255 : Int32)).toInt64) * (16777216 : Int64))) + ((((p3 <<< ((8 : Int32) &&& 31)) >>> ((8 : Int32) &&& 31)).toInt64) + (16777216 : Int64))), .second, iv 1, .unset] [(.ref xb_8)])) _
  obtain ⟨cq10, kq10, q10a, q10b, q10c⟩ := isOf hZ rfl p8_2
  obtain ⟨_, _, ⟨T10, Lx10, kx10, nx10⟩, -, X10, ⟨Lc10, hQ10, lx10, yx10, zx10⟩, st10⟩ := X8.virtualBack hx (y := (⟨"com/example/halyard/halyard/core/mal/TypeId", "toLong", "()J"⟩ : MethodName)) (z := (⟨"com/example/halyard/halyard/core/mal/TypeId", "toLong", "()J"⟩ : MethodName)) hown (mvT hZ (wd hw 24 rfl)) (mvT hZ (wd hw 25 rfl)) (notFace_of_selects (args := #[]) (mvT hZ (wd hw 27 rfl))) (mvT hZ (wd hw 27 rfl)) (mvT hZ (wd hw 26 rfl)) (by decide) (backOf (W := 0) (rmTL l Z a0 hw [] xb_8 (((p4.toUInt64 >>> ((48 : Int32) &&& 0x3f).toInt64.toUInt64).toInt64).toInt32) ((((p4.toUInt64 >>> ((32 : Int32) &&& 0x3f).toInt64.toUInt64).toInt64).toInt32) &&& (65535 : Int32)) ((((p4.toUInt64 >>> ((24 : Int32) &&& 0x3f).toInt64.toUInt64).toInt64).toInt32) &&& (255 : Int32)) (((p4.toInt32) <<< ((8 : Int32) &&& 31)) >>> ((8 : Int32) &&& 31)) T8.heap n0 Z8 p8_3 p8_4 p8_5 p8_6) hZ (wd hw 28 rfl) (wd hw 3 rfl) (by decide) (by decide)) q10a q10c (g := (mkF m 116 #[iv p0, iv p1, iv p2, iv p3, jv p4, .second, iv (p0 &&& (65535 : Int32)), iv (p1 &&& (65535 : Int32)), iv (p2 &&& (255 : Int32)), iv ((p3 <<< ((8 : Int32) &&& 31)) >>> ((8 : Int32) &&& 31)), rv ob2, jv ((((p3 <<< ((8 : Int32) &&& 31)) >>> ((8 : Int32) &&& 31)).toInt64) + (16777216 : Int64)), .second, jv ((((((p0 &&& (65535 : Int32)).toInt64) * (281474976710656 : Int64)) + (((p1 &&& (65535 : Int32)).toInt64) * (4294967296 : Int64))) + (((p2 &&& (255 : Int32)).toInt64) * (16777216 : Int64))) + ((((p3 <<< ((8 : Int32) &&& 31)) >>> ((8 : Int32) &&& 31)).toInt64) + (16777216 : Int64))), .second, iv 1, .unset] [(.ref xb_8)])) rfl (by rw [hml]; rfl) (Steps.refl _) (argsL := []) (rest := []) (lenOf pd_1 rfl) rfl (by show 2 * 0 + _ ≤ _; exact Nat.le_of_eq rfl) (hb hby at_116) (fun _ _ => ⟨rfl, rfl, (by decide : 2 + 0 ≤ _), (by decide : 8 + 0 ≤ _)⟩)
  dsimp only [Pt.U, Pt.locs, Pt.cells, Pt.slots] at X10 lx10 yx10 zx10 st10 hQ10
  subst lx10 yx10 zx10
  obtain ⟨rfl, N10q, e10⟩ := hQ10
  have N10 := Fr.app N8 N10q
  refine own_lift (fun t k => st10.trans k) ?_
  show own_Go p.tables e below (T10.setTop (mkF m 119 #[iv p0, iv p1, iv p2, iv p3, jv p4, .second, iv (p0 &&& (65535 : Int32)), iv (p1 &&& (65535 : Int32)), iv (p2 &&& (255 : Int32)), iv ((p3 <<< ((8 : Int32) &&& 31)) >>> ((8 : Int32) &&& 31)), rv ob2, jv ((((p3 <<< ((8 : Int32) &&& 31)) >>> ((8 : Int32) &&& 31)).toInt64) + (16777216 : Int64)), .second, jv ((((((p0 &&& (65535 : Int32)).toInt64) * (281474976710656 : Int64)) + (((p1 &&& (65535 : Int32)).toInt64) * (4294967296 : Int64))) + (((p2 &&& (255 : Int32)).toInt64) * (16777216 : Int64))) + ((((p3 <<< ((8 : Int32) &&& 31)) >>> ((8 : Int32) &&& 31)).toInt64) + (16777216 : Int64))), .second, iv 1, .unset] [(.long (own_tl (((p4.toUInt64 >>> ((48 : Int32) &&& 0x3f).toInt64.toUInt64).toInt64).toInt32) ((((p4.toUInt64 >>> ((32 : Int32) &&& 0x3f).toInt64.toUInt64).toInt64).toInt32) &&& (65535 : Int32)) ((((p4.toUInt64 >>> ((24 : Int32) &&& 0x3f).toInt64.toUInt64).toInt64).toInt32) &&& (255 : Int32)) (((p4.toInt32) <<< ((8 : Int32) &&& 31)) >>> ((8 : Int32) &&& 31))))])) _
  have sg11 : ∀ t, Steps p.tables e below (T10.setTop (mkF m 147 #[iv p0, iv p1, iv p2, iv p3, jv p4, .second, iv (p0 &&& (65535 : Int32)), iv (p1 &&& (65535 : Int32)), iv (p2 &&& (255 : Int32)), iv ((p3 <<< ((8 : Int32) &&& 31)) >>> ((8 : Int32) &&& 31)), rv ob2, jv ((((p3 <<< ((8 : Int32) &&& 31)) >>> ((8 : Int32) &&& 31)).toInt64) + (16777216 : Int64)), .second, jv ((((((p0 &&& (65535 : Int32)).toInt64) * (281474976710656 : Int64)) + (((p1 &&& (65535 : Int32)).toInt64) * (4294967296 : Int64))) + (((p2 &&& (255 : Int32)).toInt64) * (16777216 : Int64))) + ((((p3 <<< ((8 : Int32) &&& 31)) >>> ((8 : Int32) &&& 31)).toInt64) + (16777216 : Int64))), .second, iv 1, iv 1] [(.int 1)])) t → Steps p.tables e below (T10.setTop (mkF m 119 #[iv p0, iv p1, iv p2, iv p3, jv p4, .second, iv (p0 &&& (65535 : Int32)), iv (p1 &&& (65535 : Int32)), iv (p2 &&& (255 : Int32)), iv ((p3 <<< ((8 : Int32) &&& 31)) >>> ((8 : Int32) &&& 31)), rv ob2, jv ((((p3 <<< ((8 : Int32) &&& 31)) >>> ((8 : Int32) &&& 31)).toInt64) + (16777216 : Int64)), .second, jv ((((((p0 &&& (65535 : Int32)).toInt64) * (281474976710656 : Int64)) + (((p1 &&& (65535 : Int32)).toInt64) * (4294967296 : Int64))) + (((p2 &&& (255 : Int32)).toInt64) * (16777216 : Int64))) + ((((p3 <<< ((8 : Int32) &&& 31)) >>> ((8 : Int32) &&& 31)).toInt64) + (16777216 : Int64))), .second, iv 1, .unset] [(.long (own_tl (((p4.toUInt64 >>> ((48 : Int32) &&& 0x3f).toInt64.toUInt64).toInt64).toInt32) ((((p4.toUInt64 >>> ((32 : Int32) &&& 0x3f).toInt64.toUInt64).toInt64).toInt32) &&& (65535 : Int32)) ((((p4.toUInt64 >>> ((24 : Int32) &&& 0x3f).toInt64.toUInt64).toInt64).toInt32) &&& (255 : Int32)) (((p4.toInt32) <<< ((8 : Int32) &&& 31)) >>> ((8 : Int32) &&& 31))))])) t := by
    intro t k
    refine XS.lload X10.here hx rfl (hb hby at_119) rfl ?_
    show Steps p.tables e below (T10.setTop (mkF m 121 #[iv p0, iv p1, iv p2, iv p3, jv p4, .second, iv (p0 &&& (65535 : Int32)), iv (p1 &&& (65535 : Int32)), iv (p2 &&& (255 : Int32)), iv ((p3 <<< ((8 : Int32) &&& 31)) >>> ((8 : Int32) &&& 31)), rv ob2, jv ((((p3 <<< ((8 : Int32) &&& 31)) >>> ((8 : Int32) &&& 31)).toInt64) + (16777216 : Int64)), .second, jv ((((((p0 &&& (65535 : Int32)).toInt64) * (281474976710656 : Int64)) + (((p1 &&& (65535 : Int32)).toInt64) * (4294967296 : Int64))) + (((p2 &&& (255 : Int32)).toInt64) * (16777216 : Int64))) + ((((p3 <<< ((8 : Int32) &&& 31)) >>> ((8 : Int32) &&& 31)).toInt64) + (16777216 : Int64))), .second, iv 1, .unset] [(.long p4), (.long (own_tl (((p4.toUInt64 >>> ((48 : Int32) &&& 0x3f).toInt64.toUInt64).toInt64).toInt32) ((((p4.toUInt64 >>> ((32 : Int32) &&& 0x3f).toInt64.toUInt64).toInt64).toInt32) &&& (65535 : Int32)) ((((p4.toUInt64 >>> ((24 : Int32) &&& 0x3f).toInt64.toUInt64).toInt64).toInt32) &&& (255 : Int32)) (((p4.toInt32) <<< ((8 : Int32) &&& 31)) >>> ((8 : Int32) &&& 31))))])) _
    refine XS.lcmp X10.here hx rfl (hb hby at_121) rfl ?_
    show Steps p.tables e below (T10.setTop (mkF m 122 #[iv p0, iv p1, iv p2, iv p3, jv p4, .second, iv (p0 &&& (65535 : Int32)), iv (p1 &&& (65535 : Int32)), iv (p2 &&& (255 : Int32)), iv ((p3 <<< ((8 : Int32) &&& 31)) >>> ((8 : Int32) &&& 31)), rv ob2, jv ((((p3 <<< ((8 : Int32) &&& 31)) >>> ((8 : Int32) &&& 31)).toInt64) + (16777216 : Int64)), .second, jv ((((((p0 &&& (65535 : Int32)).toInt64) * (281474976710656 : Int64)) + (((p1 &&& (65535 : Int32)).toInt64) * (4294967296 : Int64))) + (((p2 &&& (255 : Int32)).toInt64) * (16777216 : Int64))) + ((((p3 <<< ((8 : Int32) &&& 31)) >>> ((8 : Int32) &&& 31)).toInt64) + (16777216 : Int64))), .second, iv 1, .unset] [(.int (lcmpW (own_tl (((p4.toUInt64 >>> ((48 : Int32) &&& 0x3f).toInt64.toUInt64).toInt64).toInt32) ((((p4.toUInt64 >>> ((32 : Int32) &&& 0x3f).toInt64.toUInt64).toInt64).toInt32) &&& (65535 : Int32)) ((((p4.toUInt64 >>> ((24 : Int32) &&& 0x3f).toInt64.toUInt64).toInt64).toInt32) &&& (255 : Int32)) (((p4.toInt32) <<< ((8 : Int32) &&& 31)) >>> ((8 : Int32) &&& 31))) p4))])) _
    refine XS.ifNo X10.here hx rfl (hb hby at_122) rfl ((if0 _ _).trans (teq ((lw_eq (own_tl (((p4.toUInt64 >>> ((48 : Int32) &&& 0x3f).toInt64.toUInt64).toInt64).toInt32) ((((p4.toUInt64 >>> ((32 : Int32) &&& 0x3f).toInt64.toUInt64).toInt64).toInt32) &&& (65535 : Int32)) ((((p4.toUInt64 >>> ((24 : Int32) &&& 0x3f).toInt64.toUInt64).toInt64).toInt32) &&& (255 : Int32)) (((p4.toInt32) <<< ((8 : Int32) &&& 31)) >>> ((8 : Int32) &&& 31))) p4).2 (own_round p4))).2) ?_
    show Steps p.tables e below (T10.setTop (mkF m 125 #[iv p0, iv p1, iv p2, iv p3, jv p4, .second, iv (p0 &&& (65535 : Int32)), iv (p1 &&& (65535 : Int32)), iv (p2 &&& (255 : Int32)), iv ((p3 <<< ((8 : Int32) &&& 31)) >>> ((8 : Int32) &&& 31)), rv ob2, jv ((((p3 <<< ((8 : Int32) &&& 31)) >>> ((8 : Int32) &&& 31)).toInt64) + (16777216 : Int64)), .second, jv ((((((p0 &&& (65535 : Int32)).toInt64) * (281474976710656 : Int64)) + (((p1 &&& (65535 : Int32)).toInt64) * (4294967296 : Int64))) + (((p2 &&& (255 : Int32)).toInt64) * (16777216 : Int64))) + ((((p3 <<< ((8 : Int32) &&& 31)) >>> ((8 : Int32) &&& 31)).toInt64) + (16777216 : Int64))), .second, iv 1, .unset] [])) _
    refine XS.iconst X10.here hx rfl (hb hby at_125) ?_
    show Steps p.tables e below (T10.setTop (mkF m 126 #[iv p0, iv p1, iv p2, iv p3, jv p4, .second, iv (p0 &&& (65535 : Int32)), iv (p1 &&& (65535 : Int32)), iv (p2 &&& (255 : Int32)), iv ((p3 <<< ((8 : Int32) &&& 31)) >>> ((8 : Int32) &&& 31)), rv ob2, jv ((((p3 <<< ((8 : Int32) &&& 31)) >>> ((8 : Int32) &&& 31)).toInt64) + (16777216 : Int64)), .second, jv ((((((p0 &&& (65535 : Int32)).toInt64) * (281474976710656 : Int64)) + (((p1 &&& (65535 : Int32)).toInt64) * (4294967296 : Int64))) + (((p2 &&& (255 : Int32)).toInt64) * (16777216 : Int64))) + ((((p3 <<< ((8 : Int32) &&& 31)) >>> ((8 : Int32) &&& 31)).toInt64) + (16777216 : Int64))), .second, iv 1, .unset] [(.int 1)])) _
    refine XS.goto X10.here hx rfl (pc0 := 126) (pc' := 130) rfl (hb hby at_126) (by decide) (by decide) ?_
    show Steps p.tables e below (T10.setTop (mkF m 130 #[iv p0, iv p1, iv p2, iv p3, jv p4, .second, iv (p0 &&& (65535 : Int32)), iv (p1 &&& (65535 : Int32)), iv (p2 &&& (255 : Int32)), iv ((p3 <<< ((8 : Int32) &&& 31)) >>> ((8 : Int32) &&& 31)), rv ob2, jv ((((p3 <<< ((8 : Int32) &&& 31)) >>> ((8 : Int32) &&& 31)).toInt64) + (16777216 : Int64)), .second, jv ((((((p0 &&& (65535 : Int32)).toInt64) * (281474976710656 : Int64)) + (((p1 &&& (65535 : Int32)).toInt64) * (4294967296 : Int64))) + (((p2 &&& (255 : Int32)).toInt64) * (16777216 : Int64))) + ((((p3 <<< ((8 : Int32) &&& 31)) >>> ((8 : Int32) &&& 31)).toInt64) + (16777216 : Int64))), .second, iv 1, .unset] [(.int 1)])) _
    refine XS.istore X10.here hx rfl (hb hby at_130) rfl (l' := #[iv p0, iv p1, iv p2, iv p3, jv p4, .second, iv (p0 &&& (65535 : Int32)), iv (p1 &&& (65535 : Int32)), iv (p2 &&& (255 : Int32)), iv ((p3 <<< ((8 : Int32) &&& 31)) >>> ((8 : Int32) &&& 31)), rv ob2, jv ((((p3 <<< ((8 : Int32) &&& 31)) >>> ((8 : Int32) &&& 31)).toInt64) + (16777216 : Int64)), .second, jv ((((((p0 &&& (65535 : Int32)).toInt64) * (281474976710656 : Int64)) + (((p1 &&& (65535 : Int32)).toInt64) * (4294967296 : Int64))) + (((p2 &&& (255 : Int32)).toInt64) * (16777216 : Int64))) + ((((p3 <<< ((8 : Int32) &&& 31)) >>> ((8 : Int32) &&& 31)).toInt64) + (16777216 : Int64))), .second, iv 1, iv 1]) rfl ?_
    show Steps p.tables e below (T10.setTop (mkF m 132 #[iv p0, iv p1, iv p2, iv p3, jv p4, .second, iv (p0 &&& (65535 : Int32)), iv (p1 &&& (65535 : Int32)), iv (p2 &&& (255 : Int32)), iv ((p3 <<< ((8 : Int32) &&& 31)) >>> ((8 : Int32) &&& 31)), rv ob2, jv ((((p3 <<< ((8 : Int32) &&& 31)) >>> ((8 : Int32) &&& 31)).toInt64) + (16777216 : Int64)), .second, jv ((((((p0 &&& (65535 : Int32)).toInt64) * (281474976710656 : Int64)) + (((p1 &&& (65535 : Int32)).toInt64) * (4294967296 : Int64))) + (((p2 &&& (255 : Int32)).toInt64) * (16777216 : Int64))) + ((((p3 <<< ((8 : Int32) &&& 31)) >>> ((8 : Int32) &&& 31)).toInt64) + (16777216 : Int64))), .second, iv 1, iv 1] [])) _
    refine XS.iload X10.here hx rfl (hb hby at_132) rfl ?_
    show Steps p.tables e below (T10.setTop (mkF m 134 #[iv p0, iv p1, iv p2, iv p3, jv p4, .second, iv (p0 &&& (65535 : Int32)), iv (p1 &&& (65535 : Int32)), iv (p2 &&& (255 : Int32)), iv ((p3 <<< ((8 : Int32) &&& 31)) >>> ((8 : Int32) &&& 31)), rv ob2, jv ((((p3 <<< ((8 : Int32) &&& 31)) >>> ((8 : Int32) &&& 31)).toInt64) + (16777216 : Int64)), .second, jv ((((((p0 &&& (65535 : Int32)).toInt64) * (281474976710656 : Int64)) + (((p1 &&& (65535 : Int32)).toInt64) * (4294967296 : Int64))) + (((p2 &&& (255 : Int32)).toInt64) * (16777216 : Int64))) + ((((p3 <<< ((8 : Int32) &&& 31)) >>> ((8 : Int32) &&& 31)).toInt64) + (16777216 : Int64))), .second, iv 1, iv 1] [(.int 1)])) _
    refine XS.ifNo X10.here hx rfl (hb hby at_134) rfl ((if0 _ _).trans (feq (by decide : ¬ ((1 : Int32) = (0 : Int32)))).1) ?_
    show Steps p.tables e below (T10.setTop (mkF m 137 #[iv p0, iv p1, iv p2, iv p3, jv p4, .second, iv (p0 &&& (65535 : Int32)), iv (p1 &&& (65535 : Int32)), iv (p2 &&& (255 : Int32)), iv ((p3 <<< ((8 : Int32) &&& 31)) >>> ((8 : Int32) &&& 31)), rv ob2, jv ((((p3 <<< ((8 : Int32) &&& 31)) >>> ((8 : Int32) &&& 31)).toInt64) + (16777216 : Int64)), .second, jv ((((((p0 &&& (65535 : Int32)).toInt64) * (281474976710656 : Int64)) + (((p1 &&& (65535 : Int32)).toInt64) * (4294967296 : Int64))) + (((p2 &&& (255 : Int32)).toInt64) * (16777216 : Int64))) + ((((p3 <<< ((8 : Int32) &&& 31)) >>> ((8 : Int32) &&& 31)).toInt64) + (16777216 : Int64))), .second, iv 1, iv 1] [])) _
    refine XS.iload X10.here hx rfl (hb hby at_137) rfl ?_
    show Steps p.tables e below (T10.setTop (mkF m 139 #[iv p0, iv p1, iv p2, iv p3, jv p4, .second, iv (p0 &&& (65535 : Int32)), iv (p1 &&& (65535 : Int32)), iv (p2 &&& (255 : Int32)), iv ((p3 <<< ((8 : Int32) &&& 31)) >>> ((8 : Int32) &&& 31)), rv ob2, jv ((((p3 <<< ((8 : Int32) &&& 31)) >>> ((8 : Int32) &&& 31)).toInt64) + (16777216 : Int64)), .second, jv ((((((p0 &&& (65535 : Int32)).toInt64) * (281474976710656 : Int64)) + (((p1 &&& (65535 : Int32)).toInt64) * (4294967296 : Int64))) + (((p2 &&& (255 : Int32)).toInt64) * (16777216 : Int64))) + ((((p3 <<< ((8 : Int32) &&& 31)) >>> ((8 : Int32) &&& 31)).toInt64) + (16777216 : Int64))), .second, iv 1, iv 1] [(.int 1)])) _
    refine XS.ifNo X10.here hx rfl (hb hby at_139) rfl ((if0 _ _).trans (feq (by decide : ¬ ((1 : Int32) = (0 : Int32)))).1) ?_
    show Steps p.tables e below (T10.setTop (mkF m 142 #[iv p0, iv p1, iv p2, iv p3, jv p4, .second, iv (p0 &&& (65535 : Int32)), iv (p1 &&& (65535 : Int32)), iv (p2 &&& (255 : Int32)), iv ((p3 <<< ((8 : Int32) &&& 31)) >>> ((8 : Int32) &&& 31)), rv ob2, jv ((((p3 <<< ((8 : Int32) &&& 31)) >>> ((8 : Int32) &&& 31)).toInt64) + (16777216 : Int64)), .second, jv ((((((p0 &&& (65535 : Int32)).toInt64) * (281474976710656 : Int64)) + (((p1 &&& (65535 : Int32)).toInt64) * (4294967296 : Int64))) + (((p2 &&& (255 : Int32)).toInt64) * (16777216 : Int64))) + ((((p3 <<< ((8 : Int32) &&& 31)) >>> ((8 : Int32) &&& 31)).toInt64) + (16777216 : Int64))), .second, iv 1, iv 1] [])) _
    refine XS.iconst X10.here hx rfl (hb hby at_142) ?_
    show Steps p.tables e below (T10.setTop (mkF m 143 #[iv p0, iv p1, iv p2, iv p3, jv p4, .second, iv (p0 &&& (65535 : Int32)), iv (p1 &&& (65535 : Int32)), iv (p2 &&& (255 : Int32)), iv ((p3 <<< ((8 : Int32) &&& 31)) >>> ((8 : Int32) &&& 31)), rv ob2, jv ((((p3 <<< ((8 : Int32) &&& 31)) >>> ((8 : Int32) &&& 31)).toInt64) + (16777216 : Int64)), .second, jv ((((((p0 &&& (65535 : Int32)).toInt64) * (281474976710656 : Int64)) + (((p1 &&& (65535 : Int32)).toInt64) * (4294967296 : Int64))) + (((p2 &&& (255 : Int32)).toInt64) * (16777216 : Int64))) + ((((p3 <<< ((8 : Int32) &&& 31)) >>> ((8 : Int32) &&& 31)).toInt64) + (16777216 : Int64))), .second, iv 1, iv 1] [(.int 1)])) _
    refine XS.goto X10.here hx rfl (pc0 := 143) (pc' := 147) rfl (hb hby at_143) (by decide) (by decide) ?_
    show Steps p.tables e below (T10.setTop (mkF m 147 #[iv p0, iv p1, iv p2, iv p3, jv p4, .second, iv (p0 &&& (65535 : Int32)), iv (p1 &&& (65535 : Int32)), iv (p2 &&& (255 : Int32)), iv ((p3 <<< ((8 : Int32) &&& 31)) >>> ((8 : Int32) &&& 31)), rv ob2, jv ((((p3 <<< ((8 : Int32) &&& 31)) >>> ((8 : Int32) &&& 31)).toInt64) + (16777216 : Int64)), .second, jv ((((((p0 &&& (65535 : Int32)).toInt64) * (281474976710656 : Int64)) + (((p1 &&& (65535 : Int32)).toInt64) * (4294967296 : Int64))) + (((p2 &&& (255 : Int32)).toInt64) * (16777216 : Int64))) + ((((p3 <<< ((8 : Int32) &&& 31)) >>> ((8 : Int32) &&& 31)).toInt64) + (16777216 : Int64))), .second, iv 1, iv 1] [(.int 1)])) _
    exact k
  refine own_lift sg11 ?_
  show own_Go p.tables e below (T10.setTop (mkF m 147 #[iv p0, iv p1, iv p2, iv p3, jv p4, .second, iv (p0 &&& (65535 : Int32)), iv (p1 &&& (65535 : Int32)), iv (p2 &&& (255 : Int32)), iv ((p3 <<< ((8 : Int32) &&& 31)) >>> ((8 : Int32) &&& 31)), rv ob2, jv ((((p3 <<< ((8 : Int32) &&& 31)) >>> ((8 : Int32) &&& 31)).toInt64) + (16777216 : Int64)), .second, jv ((((((p0 &&& (65535 : Int32)).toInt64) * (281474976710656 : Int64)) + (((p1 &&& (65535 : Int32)).toInt64) * (4294967296 : Int64))) + (((p2 &&& (255 : Int32)).toInt64) * (16777216 : Int64))) + ((((p3 <<< ((8 : Int32) &&& 31)) >>> ((8 : Int32) &&& 31)).toInt64) + (16777216 : Int64))), .second, iv 1, iv 1] [(.int 1)])) _
  obtain ⟨fs, hr, hrun, hended, hW, hsame⟩ := X10.leave (v := some (.int 1)) (fun h => by rw [Bd.returns] at h; cases h)
  refine ⟨_, _, ?_, hrun, hended, _, _, rfl, ?_, ⟨_, rfl⟩, hW, hsame.mono (by decide) (by decide)⟩
  · exact retN X10 hx (t := .boolean) Bd.returns (by simp) (hb hby at_147) hr
  · show Q0 Z  h0 n0 _ T10.heap _
    rw [e10]
    exact ⟨rfl, N10⟩
theorem ef_rm0_2 (m : MethodId) (x0 : Int32) (x1 : Int32) (x2 : Int32) (x3 : Int32) (x4 : Int64) : entryFrame m #[(.int x0), (.int x1), (.int x2), (.int x3), (.long x4)] maxLocals = mkF m 0 #[.val (.int x0), .val (.int x1), .val (.int x2), .val (.int x3), .val (.long x4), .second, .unset, .unset, .unset, .unset, .unset, .unset, .unset, .unset, .unset, .unset, .unset] [] := by first | (simp [entryFrame, mkF, argsToLocals, Value.category, maxLocals]; done) | rfl
set_option maxRecDepth 65536 in
set_option maxHeartbeats 40000000 in
theorem rm0_2 (l : Launch) (Z : State) (a0 : Array Value) (hw : ∀ d ∈ tables_1, d.before a0 Z = true) (ws : List Jvm.Cond) (p0 : Int32) (p1 : Int32) (p2 : Int32) (p3 : Int32) (p4 : Int64) (h0 : Heap) (n0 : Nat) (Z0 : n0 ≤ h0.size)  (c1 : ¬ (((p3 <<< ((8 : Int32) &&& 31)) >>> ((8 : Int32) &&& 31)) < (0 : Int32))) :
    MetFree l x (head1 (Jvm.Cond.code x code maxLocals ret :: ws) room_1) (fun a U => a = #[(.int p0), (.int p1), (.int p2), (.int p3), (.long p4)] ∧ Z.Warmed39 U.vm ∧ U.heap = h0) (fun _ _ _ _ _ => True) (fun _ U o U' => ∃ v L, o = .returned v ∧ Q0 Z  h0 n0 v U'.heap L ∧ FrameEnd U o U' L 16 128) := by
  refine MetFree.of_bodySF (plainFor_of_name pn_1) hisR ?_
  intro p e s m args below meth c s₁ Bd hml0 hP hK
  obtain ⟨rfl, hZ, hh⟩ := hP
  have hx := Bd.exec
  have hby := Bd.bytes
  have hml : c.maxLocals = 17 := hml0
  have hown : s.vm.findClass "com/example/halyard/halyard/core/mal/TypeIdToLongPinLaw" = some m.cls := findClass_of_methodNamed Bd.named
  have hnm := (name_of_methodNamed Bd.named Bd.method).1
  have X0 : Stand p l e room_1 s m #[(.int p0), (.int p1), (.int p2), (.int p3), (.long p4)] below meth c s₁ [] 0 0 := Stand.of_body Bd
  have e0 : s₁.heap = h0 := by rw [← hh, Bd.state]; rfl
  have N0 := Fr.nil n0
  refine own_go (own_lift (fun t k => castTop (ef_rm0_2 m p0 p1 p2 p3 p4) k) ?_)
  show own_Go p.tables e below (s₁.setTop (mkF m 0 #[iv p0, iv p1, iv p2, iv p3, jv p4, .second, .unset, .unset, .unset, .unset, .unset, .unset, .unset, .unset, .unset, .unset, .unset] [])) _
  have sg1 : ∀ t, Steps p.tables e below (s₁.setTop (mkF m 28 #[iv p0, iv p1, iv p2, iv p3, jv p4, .second, iv (p0 &&& (65535 : Int32)), iv (p1 &&& (65535 : Int32)), iv (p2 &&& (255 : Int32)), iv ((p3 <<< ((8 : Int32) &&& 31)) >>> ((8 : Int32) &&& 31)), .unset, .unset, .unset, .unset, .unset, .unset, .unset] [])) t → Steps p.tables e below (s₁.setTop (mkF m 0 #[iv p0, iv p1, iv p2, iv p3, jv p4, .second, .unset, .unset, .unset, .unset, .unset, .unset, .unset, .unset, .unset, .unset, .unset] [])) t := by
    intro t k
    refine XS.iloadN X0.here hx rfl (hb hby at_0) rfl ?_
    show Steps p.tables e below (s₁.setTop (mkF m 1 #[iv p0, iv p1, iv p2, iv p3, jv p4, .second, .unset, .unset, .unset, .unset, .unset, .unset, .unset, .unset, .unset, .unset, .unset] [(.int p0)])) _
    refine X0.ldcInt hx hown (mvT hZ (wd hw 0 rfl)) (g := (mkF m 1 #[iv p0, iv p1, iv p2, iv p3, jv p4, .second, .unset, .unset, .unset, .unset, .unset, .unset, .unset, .unset, .unset, .unset, .unset] [(.int p0)])) rfl (hb hby at_1) _ ?_
    show Steps p.tables e below (s₁.setTop (mkF m 3 #[iv p0, iv p1, iv p2, iv p3, jv p4, .second, .unset, .unset, .unset, .unset, .unset, .unset, .unset, .unset, .unset, .unset, .unset] [(.int 65535), (.int p0)])) _
    refine XS.iand X0.here hx rfl (hb hby at_3) rfl ?_
    show Steps p.tables e below (s₁.setTop (mkF m 4 #[iv p0, iv p1, iv p2, iv p3, jv p4, .second, .unset, .unset, .unset, .unset, .unset, .unset, .unset, .unset, .unset, .unset, .unset] [(.int (p0 &&& (65535 : Int32)))])) _
    refine XS.istore X0.here hx rfl (hb hby at_4) rfl (l' := #[iv p0, iv p1, iv p2, iv p3, jv p4, .second, iv (p0 &&& (65535 : Int32)), .unset, .unset, .unset, .unset, .unset, .unset, .unset, .unset, .unset, .unset]) rfl ?_
    show Steps p.tables e below (s₁.setTop (mkF m 6 #[iv p0, iv p1, iv p2, iv p3, jv p4, .second, iv (p0 &&& (65535 : Int32)), .unset, .unset, .unset, .unset, .unset, .unset, .unset, .unset, .unset, .unset] [])) _
    refine XS.iloadN X0.here hx rfl (hb hby at_6) rfl ?_
    show Steps p.tables e below (s₁.setTop (mkF m 7 #[iv p0, iv p1, iv p2, iv p3, jv p4, .second, iv (p0 &&& (65535 : Int32)), .unset, .unset, .unset, .unset, .unset, .unset, .unset, .unset, .unset, .unset] [(.int p1)])) _
    refine X0.ldcInt hx hown (mvT hZ (wd hw 0 rfl)) (g := (mkF m 7 #[iv p0, iv p1, iv p2, iv p3, jv p4, .second, iv (p0 &&& (65535 : Int32)), .unset, .unset, .unset, .unset, .unset, .unset, .unset, .unset, .unset, .unset] [(.int p1)])) rfl (hb hby at_7) _ ?_
    show Steps p.tables e below (s₁.setTop (mkF m 9 #[iv p0, iv p1, iv p2, iv p3, jv p4, .second, iv (p0 &&& (65535 : Int32)), .unset, .unset, .unset, .unset, .unset, .unset, .unset, .unset, .unset, .unset] [(.int 65535), (.int p1)])) _
    refine XS.iand X0.here hx rfl (hb hby at_9) rfl ?_
    show Steps p.tables e below (s₁.setTop (mkF m 10 #[iv p0, iv p1, iv p2, iv p3, jv p4, .second, iv (p0 &&& (65535 : Int32)), .unset, .unset, .unset, .unset, .unset, .unset, .unset, .unset, .unset, .unset] [(.int (p1 &&& (65535 : Int32)))])) _
    refine XS.istore X0.here hx rfl (hb hby at_10) rfl (l' := #[iv p0, iv p1, iv p2, iv p3, jv p4, .second, iv (p0 &&& (65535 : Int32)), iv (p1 &&& (65535 : Int32)), .unset, .unset, .unset, .unset, .unset, .unset, .unset, .unset, .unset]) rfl ?_
    show Steps p.tables e below (s₁.setTop (mkF m 12 #[iv p0, iv p1, iv p2, iv p3, jv p4, .second, iv (p0 &&& (65535 : Int32)), iv (p1 &&& (65535 : Int32)), .unset, .unset, .unset, .unset, .unset, .unset, .unset, .unset, .unset] [])) _
    refine XS.iloadN X0.here hx rfl (hb hby at_12) rfl ?_
    show Steps p.tables e below (s₁.setTop (mkF m 13 #[iv p0, iv p1, iv p2, iv p3, jv p4, .second, iv (p0 &&& (65535 : Int32)), iv (p1 &&& (65535 : Int32)), .unset, .unset, .unset, .unset, .unset, .unset, .unset, .unset, .unset] [(.int p2)])) _
    refine XS.sipush X0.here hx rfl (hb hby at_13) ?_
    show Steps p.tables e below (s₁.setTop (mkF m 16 #[iv p0, iv p1, iv p2, iv p3, jv p4, .second, iv (p0 &&& (65535 : Int32)), iv (p1 &&& (65535 : Int32)), .unset, .unset, .unset, .unset, .unset, .unset, .unset, .unset, .unset] [(.int 255), (.int p2)])) _
    refine XS.iand X0.here hx rfl (hb hby at_16) rfl ?_
    show Steps p.tables e below (s₁.setTop (mkF m 17 #[iv p0, iv p1, iv p2, iv p3, jv p4, .second, iv (p0 &&& (65535 : Int32)), iv (p1 &&& (65535 : Int32)), .unset, .unset, .unset, .unset, .unset, .unset, .unset, .unset, .unset] [(.int (p2 &&& (255 : Int32)))])) _
    refine XS.istore X0.here hx rfl (hb hby at_17) rfl (l' := #[iv p0, iv p1, iv p2, iv p3, jv p4, .second, iv (p0 &&& (65535 : Int32)), iv (p1 &&& (65535 : Int32)), iv (p2 &&& (255 : Int32)), .unset, .unset, .unset, .unset, .unset, .unset, .unset, .unset]) rfl ?_
    show Steps p.tables e below (s₁.setTop (mkF m 19 #[iv p0, iv p1, iv p2, iv p3, jv p4, .second, iv (p0 &&& (65535 : Int32)), iv (p1 &&& (65535 : Int32)), iv (p2 &&& (255 : Int32)), .unset, .unset, .unset, .unset, .unset, .unset, .unset, .unset] [])) _
    refine XS.iloadN X0.here hx rfl (hb hby at_19) rfl ?_
    show Steps p.tables e below (s₁.setTop (mkF m 20 #[iv p0, iv p1, iv p2, iv p3, jv p4, .second, iv (p0 &&& (65535 : Int32)), iv (p1 &&& (65535 : Int32)), iv (p2 &&& (255 : Int32)), .unset, .unset, .unset, .unset, .unset, .unset, .unset, .unset] [(.int p3)])) _
    refine XS.bipush X0.here hx rfl (hb hby at_20) ?_
    show Steps p.tables e below (s₁.setTop (mkF m 22 #[iv p0, iv p1, iv p2, iv p3, jv p4, .second, iv (p0 &&& (65535 : Int32)), iv (p1 &&& (65535 : Int32)), iv (p2 &&& (255 : Int32)), .unset, .unset, .unset, .unset, .unset, .unset, .unset, .unset] [(.int 8), (.int p3)])) _
    refine XS.ishl X0.here hx rfl (hb hby at_22) rfl ?_
    show Steps p.tables e below (s₁.setTop (mkF m 23 #[iv p0, iv p1, iv p2, iv p3, jv p4, .second, iv (p0 &&& (65535 : Int32)), iv (p1 &&& (65535 : Int32)), iv (p2 &&& (255 : Int32)), .unset, .unset, .unset, .unset, .unset, .unset, .unset, .unset] [(.int (p3 <<< ((8 : Int32) &&& 31)))])) _
    refine XS.bipush X0.here hx rfl (hb hby at_23) ?_
    show Steps p.tables e below (s₁.setTop (mkF m 25 #[iv p0, iv p1, iv p2, iv p3, jv p4, .second, iv (p0 &&& (65535 : Int32)), iv (p1 &&& (65535 : Int32)), iv (p2 &&& (255 : Int32)), .unset, .unset, .unset, .unset, .unset, .unset, .unset, .unset] [(.int 8), (.int (p3 <<< ((8 : Int32) &&& 31)))])) _
    refine XS.ishr X0.here hx rfl (hb hby at_25) rfl ?_
    show Steps p.tables e below (s₁.setTop (mkF m 26 #[iv p0, iv p1, iv p2, iv p3, jv p4, .second, iv (p0 &&& (65535 : Int32)), iv (p1 &&& (65535 : Int32)), iv (p2 &&& (255 : Int32)), .unset, .unset, .unset, .unset, .unset, .unset, .unset, .unset] [(.int ((p3 <<< ((8 : Int32) &&& 31)) >>> ((8 : Int32) &&& 31)))])) _
    refine XS.istore X0.here hx rfl (hb hby at_26) rfl (l' := #[iv p0, iv p1, iv p2, iv p3, jv p4, .second, iv (p0 &&& (65535 : Int32)), iv (p1 &&& (65535 : Int32)), iv (p2 &&& (255 : Int32)), iv ((p3 <<< ((8 : Int32) &&& 31)) >>> ((8 : Int32) &&& 31)), .unset, .unset, .unset, .unset, .unset, .unset, .unset]) rfl ?_
    show Steps p.tables e below (s₁.setTop (mkF m 28 #[iv p0, iv p1, iv p2, iv p3, jv p4, .second, iv (p0 &&& (65535 : Int32)), iv (p1 &&& (65535 : Int32)), iv (p2 &&& (255 : Int32)), iv ((p3 <<< ((8 : Int32) &&& 31)) >>> ((8 : Int32) &&& 31)), .unset, .unset, .unset, .unset, .unset, .unset, .unset] [])) _
    exact k
  refine own_lift sg1 ?_
  show own_Go p.tables e below (s₁.setTop (mkF m 28 #[iv p0, iv p1, iv p2, iv p3, jv p4, .second, iv (p0 &&& (65535 : Int32)), iv (p1 &&& (65535 : Int32)), iv (p2 &&& (255 : Int32)), iv ((p3 <<< ((8 : Int32) &&& 31)) >>> ((8 : Int32) &&& 31)), .unset, .unset, .unset, .unset, .unset, .unset, .unset] [])) _
  obtain ⟨T2, h2, X2, e2, Ex2, Ax2, Dx2, Ux2, st2⟩ := newO X0 hx hZ hown (wd hw 1 rfl) (wd hw 2 rfl) (wd hw 3 rfl) e0 (g := (mkF m 28 #[iv p0, iv p1, iv p2, iv p3, jv p4, .second, iv (p0 &&& (65535 : Int32)), iv (p1 &&& (65535 : Int32)), iv (p2 &&& (255 : Int32)), iv ((p3 <<< ((8 : Int32) &&& 31)) >>> ((8 : Int32) &&& 31)), .unset, .unset, .unset, .unset, .unset, .unset, .unset] [])) rfl (hb hby at_28) (by decide) (by decide)
  obtain ⟨ob2, g2⟩ : ∃ z, z = h0.size := ⟨_, rfl⟩
  rw [← g2] at Ax2 Dx2 Ux2 st2
  have Z2 : n0 ≤ h2.size := Nat.le_trans Z0 Ex2.1
  have ge2 : n0 ≤ ob2 := Nat.le_trans Z0 (Nat.le_of_eq g2.symm)
  have Fn2_14 : Fld Z h2 ob2 "com/example/halyard/halyard/core/mal/TypeId" "area" "I" (.int 0) := Dx2 (Or.inr (wd hw 14 rfl)) (ty := .int) (by decide)
  have Fn2_16 : Fld Z h2 ob2 "com/example/halyard/halyard/core/mal/TypeId" "service" "I" (.int 0) := Dx2 (Or.inr (wd hw 16 rfl)) (ty := .int) (by decide)
  have Fn2_18 : Fld Z h2 ob2 "com/example/halyard/halyard/core/mal/TypeId" "areaVersion" "I" (.int 0) := Dx2 (Or.inr (wd hw 18 rfl)) (ty := .int) (by decide)
  have Fn2_20 : Fld Z h2 ob2 "com/example/halyard/halyard/core/mal/TypeId" "shortFormPart" "I" (.int 0) := Dx2 (Or.inr (wd hw 20 rfl)) (ty := .int) (by decide)
  refine own_lift st2 ?_
  show own_Go p.tables e below (T2.setTop (mkF m 31 #[iv p0, iv p1, iv p2, iv p3, jv p4, .second, iv (p0 &&& (65535 : Int32)), iv (p1 &&& (65535 : Int32)), iv (p2 &&& (255 : Int32)), iv ((p3 <<< ((8 : Int32) &&& 31)) >>> ((8 : Int32) &&& 31)), .unset, .unset, .unset, .unset, .unset, .unset, .unset] [(.ref ob2)])) _
  have sg3 : ∀ t, Steps p.tables e below (T2.setTop (mkF m 40 #[iv p0, iv p1, iv p2, iv p3, jv p4, .second, iv (p0 &&& (65535 : Int32)), iv (p1 &&& (65535 : Int32)), iv (p2 &&& (255 : Int32)), iv ((p3 <<< ((8 : Int32) &&& 31)) >>> ((8 : Int32) &&& 31)), .unset, .unset, .unset, .unset, .unset, .unset, .unset] [(.int ((p3 <<< ((8 : Int32) &&& 31)) >>> ((8 : Int32) &&& 31))), (.int (p2 &&& (255 : Int32))), (.int (p1 &&& (65535 : Int32))), (.int (p0 &&& (65535 : Int32))), (.ref ob2), (.ref ob2)])) t → Steps p.tables e below (T2.setTop (mkF m 31 #[iv p0, iv p1, iv p2, iv p3, jv p4, .second, iv (p0 &&& (65535 : Int32)), iv (p1 &&& (65535 : Int32)), iv (p2 &&& (255 : Int32)), iv ((p3 <<< ((8 : Int32) &&& 31)) >>> ((8 : Int32) &&& 31)), .unset, .unset, .unset, .unset, .unset, .unset, .unset] [(.ref ob2)])) t := by
    intro t k
    refine XS.dup X2.here hx rfl (hb hby at_31) rfl rfl ?_
    show Steps p.tables e below (T2.setTop (mkF m 32 #[iv p0, iv p1, iv p2, iv p3, jv p4, .second, iv (p0 &&& (65535 : Int32)), iv (p1 &&& (65535 : Int32)), iv (p2 &&& (255 : Int32)), iv ((p3 <<< ((8 : Int32) &&& 31)) >>> ((8 : Int32) &&& 31)), .unset, .unset, .unset, .unset, .unset, .unset, .unset] [(.ref ob2), (.ref ob2)])) _
    refine XS.iload X2.here hx rfl (hb hby at_32) rfl ?_
    show Steps p.tables e below (T2.setTop (mkF m 34 #[iv p0, iv p1, iv p2, iv p3, jv p4, .second, iv (p0 &&& (65535 : Int32)), iv (p1 &&& (65535 : Int32)), iv (p2 &&& (255 : Int32)), iv ((p3 <<< ((8 : Int32) &&& 31)) >>> ((8 : Int32) &&& 31)), .unset, .unset, .unset, .unset, .unset, .unset, .unset] [(.int (p0 &&& (65535 : Int32))), (.ref ob2), (.ref ob2)])) _
    refine XS.iload X2.here hx rfl (hb hby at_34) rfl ?_
    show Steps p.tables e below (T2.setTop (mkF m 36 #[iv p0, iv p1, iv p2, iv p3, jv p4, .second, iv (p0 &&& (65535 : Int32)), iv (p1 &&& (65535 : Int32)), iv (p2 &&& (255 : Int32)), iv ((p3 <<< ((8 : Int32) &&& 31)) >>> ((8 : Int32) &&& 31)), .unset, .unset, .unset, .unset, .unset, .unset, .unset] [(.int (p1 &&& (65535 : Int32))), (.int (p0 &&& (65535 : Int32))), (.ref ob2), (.ref ob2)])) _
    refine XS.iload X2.here hx rfl (hb hby at_36) rfl ?_
    show Steps p.tables e below (T2.setTop (mkF m 38 #[iv p0, iv p1, iv p2, iv p3, jv p4, .second, iv (p0 &&& (65535 : Int32)), iv (p1 &&& (65535 : Int32)), iv (p2 &&& (255 : Int32)), iv ((p3 <<< ((8 : Int32) &&& 31)) >>> ((8 : Int32) &&& 31)), .unset, .unset, .unset, .unset, .unset, .unset, .unset] [(.int (p2 &&& (255 : Int32))), (.int (p1 &&& (65535 : Int32))), (.int (p0 &&& (65535 : Int32))), (.ref ob2), (.ref ob2)])) _
    refine XS.iload X2.here hx rfl (hb hby at_38) rfl ?_
    show Steps p.tables e below (T2.setTop (mkF m 40 #[iv p0, iv p1, iv p2, iv p3, jv p4, .second, iv (p0 &&& (65535 : Int32)), iv (p1 &&& (65535 : Int32)), iv (p2 &&& (255 : Int32)), iv ((p3 <<< ((8 : Int32) &&& 31)) >>> ((8 : Int32) &&& 31)), .unset, .unset, .unset, .unset, .unset, .unset, .unset] [(.int ((p3 <<< ((8 : Int32) &&& 31)) >>> ((8 : Int32) &&& 31))), (.int (p2 &&& (255 : Int32))), (.int (p1 &&& (65535 : Int32))), (.int (p0 &&& (65535 : Int32))), (.ref ob2), (.ref ob2)])) _
    exact k
  refine own_lift sg3 ?_
  show own_Go p.tables e below (T2.setTop (mkF m 40 #[iv p0, iv p1, iv p2, iv p3, jv p4, .second, iv (p0 &&& (65535 : Int32)), iv (p1 &&& (65535 : Int32)), iv (p2 &&& (255 : Int32)), iv ((p3 <<< ((8 : Int32) &&& 31)) >>> ((8 : Int32) &&& 31)), .unset, .unset, .unset, .unset, .unset, .unset, .unset] [(.int ((p3 <<< ((8 : Int32) &&& 31)) >>> ((8 : Int32) &&& 31))), (.int (p2 &&& (255 : Int32))), (.int (p1 &&& (65535 : Int32))), (.int (p0 &&& (65535 : Int32))), (.ref ob2), (.ref ob2)])) _
  obtain ⟨_, _, ⟨T4, Lx4, kx4, nx4⟩, -, X4, ⟨Lc4, hQ4, lx4, yx4, zx4⟩, st4⟩ := X2.specialBack hx (y := (⟨"com/example/halyard/halyard/core/mal/TypeId", "<init>", "(IIII)V"⟩ : MethodName)) rfl hown (mvT hZ (wd hw 4 rfl)) (mvT hZ (wd hw 5 rfl)) (mvT hZ (wd hw 6 rfl)) (by decide) (backOf (W := 1) (rmInit l Z a0 hw [] ob2 (p0 &&& (65535 : Int32)) (p1 &&& (65535 : Int32)) (p2 &&& (255 : Int32)) ((p3 <<< ((8 : Int32) &&& 31)) >>> ((8 : Int32) &&& 31)) h2 n0 Z2 Fn2_14 Fn2_16 Fn2_18 Fn2_20 Ax2 ge2 (own_m16 p0).1 (own_m16 p0).2 (own_m16 p1).1 (own_m16 p1).2 (own_m8 p2).1 (own_m8 p2).2 (own_s24 p3).1 (own_s24 p3).2) hZ (wd hw 6 rfl) (wd hw 3 rfl) (by decide) (by decide)) (g := (mkF m 40 #[iv p0, iv p1, iv p2, iv p3, jv p4, .second, iv (p0 &&& (65535 : Int32)), iv (p1 &&& (65535 : Int32)), iv (p2 &&& (255 : Int32)), iv ((p3 <<< ((8 : Int32) &&& 31)) >>> ((8 : Int32) &&& 31)), .unset, .unset, .unset, .unset, .unset, .unset, .unset] [(.int ((p3 <<< ((8 : Int32) &&& 31)) >>> ((8 : Int32) &&& 31))), (.int (p2 &&& (255 : Int32))), (.int (p1 &&& (65535 : Int32))), (.int (p0 &&& (65535 : Int32))), (.ref ob2), (.ref ob2)])) rfl (by rw [hml]; rfl) (Steps.refl _) (a := ob2) (argsL := [(.int (p0 &&& (65535 : Int32))), (.int (p1 &&& (65535 : Int32))), (.int (p2 &&& (255 : Int32))), (.int ((p3 <<< ((8 : Int32) &&& 31)) >>> ((8 : Int32) &&& 31)))]) (rest := [(.ref ob2)]) (lenOf pd_0 rfl) rfl (by show 2 * 0 + _ ≤ _; exact Nat.le_of_eq rfl) (hb hby at_40) (fun _ _ => ⟨rfl, e2, (by decide : 1 + 0 ≤ _), (by decide : 4 + 0 ≤ _)⟩)
  dsimp only [Pt.U, Pt.locs, Pt.cells, Pt.slots] at X4 lx4 yx4 zx4 st4 hQ4
  subst lx4 yx4 zx4
  obtain ⟨rfl, N4q, p4_0, p4_1, p4_2, p4_3, p4_4, p4_5⟩ := hQ4
  have N4 := Fr.app N0 N4q
  have Z4 : n0 ≤ T4.heap.size := Nat.le_trans Z2 p4_0.1
  refine own_lift (fun t k => st4.trans k) ?_
  show own_Go p.tables e below (T4.setTop (mkF m 43 #[iv p0, iv p1, iv p2, iv p3, jv p4, .second, iv (p0 &&& (65535 : Int32)), iv (p1 &&& (65535 : Int32)), iv (p2 &&& (255 : Int32)), iv ((p3 <<< ((8 : Int32) &&& 31)) >>> ((8 : Int32) &&& 31)), .unset, .unset, .unset, .unset, .unset, .unset, .unset] [(.ref ob2)])) _
  have sg5 : ∀ t, Steps p.tables e below (T4.setTop (mkF m 95 #[iv p0, iv p1, iv p2, iv p3, jv p4, .second, iv (p0 &&& (65535 : Int32)), iv (p1 &&& (65535 : Int32)), iv (p2 &&& (255 : Int32)), iv ((p3 <<< ((8 : Int32) &&& 31)) >>> ((8 : Int32) &&& 31)), rv ob2, jv (((p3 <<< ((8 : Int32) &&& 31)) >>> ((8 : Int32) &&& 31)).toInt64), .second, jv ((((((p0 &&& (65535 : Int32)).toInt64) * (281474976710656 : Int64)) + (((p1 &&& (65535 : Int32)).toInt64) * (4294967296 : Int64))) + (((p2 &&& (255 : Int32)).toInt64) * (16777216 : Int64))) + (((p3 <<< ((8 : Int32) &&& 31)) >>> ((8 : Int32) &&& 31)).toInt64)), .second, .unset, .unset] [(.ref ob2)])) t → Steps p.tables e below (T4.setTop (mkF m 43 #[iv p0, iv p1, iv p2, iv p3, jv p4, .second, iv (p0 &&& (65535 : Int32)), iv (p1 &&& (65535 : Int32)), iv (p2 &&& (255 : Int32)), iv ((p3 <<< ((8 : Int32) &&& 31)) >>> ((8 : Int32) &&& 31)), .unset, .unset, .unset, .unset, .unset, .unset, .unset] [(.ref ob2)])) t := by
    intro t k
    refine XS.astore X4.here hx rfl (hb hby at_43) rfl rfl (l' := #[iv p0, iv p1, iv p2, iv p3, jv p4, .second, iv (p0 &&& (65535 : Int32)), iv (p1 &&& (65535 : Int32)), iv (p2 &&& (255 : Int32)), iv ((p3 <<< ((8 : Int32) &&& 31)) >>> ((8 : Int32) &&& 31)), rv ob2, .unset, .unset, .unset, .unset, .unset, .unset]) rfl ?_
    show Steps p.tables e below (T4.setTop (mkF m 45 #[iv p0, iv p1, iv p2, iv p3, jv p4, .second, iv (p0 &&& (65535 : Int32)), iv (p1 &&& (65535 : Int32)), iv (p2 &&& (255 : Int32)), iv ((p3 <<< ((8 : Int32) &&& 31)) >>> ((8 : Int32) &&& 31)), rv ob2, .unset, .unset, .unset, .unset, .unset, .unset] [])) _
    refine XS.iload X4.here hx rfl (hb hby at_45) rfl ?_
    show Steps p.tables e below (T4.setTop (mkF m 47 #[iv p0, iv p1, iv p2, iv p3, jv p4, .second, iv (p0 &&& (65535 : Int32)), iv (p1 &&& (65535 : Int32)), iv (p2 &&& (255 : Int32)), iv ((p3 <<< ((8 : Int32) &&& 31)) >>> ((8 : Int32) &&& 31)), rv ob2, .unset, .unset, .unset, .unset, .unset, .unset] [(.int ((p3 <<< ((8 : Int32) &&& 31)) >>> ((8 : Int32) &&& 31)))])) _
    refine XS.ifYes X4.here hx rfl (pc0 := 47) (pc' := 60) rfl (hb hby at_47) rfl ((if0 _ _).trans (flt c1).2.1) (by decide) (by decide) ?_
    show Steps p.tables e below (T4.setTop (mkF m 60 #[iv p0, iv p1, iv p2, iv p3, jv p4, .second, iv (p0 &&& (65535 : Int32)), iv (p1 &&& (65535 : Int32)), iv (p2 &&& (255 : Int32)), iv ((p3 <<< ((8 : Int32) &&& 31)) >>> ((8 : Int32) &&& 31)), rv ob2, .unset, .unset, .unset, .unset, .unset, .unset] [])) _
    refine XS.iload X4.here hx rfl (hb hby at_60) rfl ?_
    show Steps p.tables e below (T4.setTop (mkF m 62 #[iv p0, iv p1, iv p2, iv p3, jv p4, .second, iv (p0 &&& (65535 : Int32)), iv (p1 &&& (65535 : Int32)), iv (p2 &&& (255 : Int32)), iv ((p3 <<< ((8 : Int32) &&& 31)) >>> ((8 : Int32) &&& 31)), rv ob2, .unset, .unset, .unset, .unset, .unset, .unset] [(.int ((p3 <<< ((8 : Int32) &&& 31)) >>> ((8 : Int32) &&& 31)))])) _
    refine XS.i2l X4.here hx rfl (hb hby at_62) rfl ?_
    show Steps p.tables e below (T4.setTop (mkF m 63 #[iv p0, iv p1, iv p2, iv p3, jv p4, .second, iv (p0 &&& (65535 : Int32)), iv (p1 &&& (65535 : Int32)), iv (p2 &&& (255 : Int32)), iv ((p3 <<< ((8 : Int32) &&& 31)) >>> ((8 : Int32) &&& 31)), rv ob2, .unset, .unset, .unset, .unset, .unset, .unset] [(.long (((p3 <<< ((8 : Int32) &&& 31)) >>> ((8 : Int32) &&& 31)).toInt64))])) _
    refine XS.lstore X4.here hx rfl (hb hby at_63) rfl (l' := #[iv p0, iv p1, iv p2, iv p3, jv p4, .second, iv (p0 &&& (65535 : Int32)), iv (p1 &&& (65535 : Int32)), iv (p2 &&& (255 : Int32)), iv ((p3 <<< ((8 : Int32) &&& 31)) >>> ((8 : Int32) &&& 31)), rv ob2, jv (((p3 <<< ((8 : Int32) &&& 31)) >>> ((8 : Int32) &&& 31)).toInt64), .second, .unset, .unset, .unset, .unset]) rfl ?_
    show Steps p.tables e below (T4.setTop (mkF m 65 #[iv p0, iv p1, iv p2, iv p3, jv p4, .second, iv (p0 &&& (65535 : Int32)), iv (p1 &&& (65535 : Int32)), iv (p2 &&& (255 : Int32)), iv ((p3 <<< ((8 : Int32) &&& 31)) >>> ((8 : Int32) &&& 31)), rv ob2, jv (((p3 <<< ((8 : Int32) &&& 31)) >>> ((8 : Int32) &&& 31)).toInt64), .second, .unset, .unset, .unset, .unset] [])) _
    refine XS.iload X4.here hx rfl (hb hby at_65) rfl ?_
    show Steps p.tables e below (T4.setTop (mkF m 67 #[iv p0, iv p1, iv p2, iv p3, jv p4, .second, iv (p0 &&& (65535 : Int32)), iv (p1 &&& (65535 : Int32)), iv (p2 &&& (255 : Int32)), iv ((p3 <<< ((8 : Int32) &&& 31)) >>> ((8 : Int32) &&& 31)), rv ob2, jv (((p3 <<< ((8 : Int32) &&& 31)) >>> ((8 : Int32) &&& 31)).toInt64), .second, .unset, .unset, .unset, .unset] [(.int (p0 &&& (65535 : Int32)))])) _
    refine XS.i2l X4.here hx rfl (hb hby at_67) rfl ?_
    show Steps p.tables e below (T4.setTop (mkF m 68 #[iv p0, iv p1, iv p2, iv p3, jv p4, .second, iv (p0 &&& (65535 : Int32)), iv (p1 &&& (65535 : Int32)), iv (p2 &&& (255 : Int32)), iv ((p3 <<< ((8 : Int32) &&& 31)) >>> ((8 : Int32) &&& 31)), rv ob2, jv (((p3 <<< ((8 : Int32) &&& 31)) >>> ((8 : Int32) &&& 31)).toInt64), .second, .unset, .unset, .unset, .unset] [(.long ((p0 &&& (65535 : Int32)).toInt64))])) _
    refine X4.ldc2Long hx hown (mvT hZ (wd hw 21 rfl)) (g := (mkF m 68 #[iv p0, iv p1, iv p2, iv p3, jv p4, .second, iv (p0 &&& (65535 : Int32)), iv (p1 &&& (65535 : Int32)), iv (p2 &&& (255 : Int32)), iv ((p3 <<< ((8 : Int32) &&& 31)) >>> ((8 : Int32) &&& 31)), rv ob2, jv (((p3 <<< ((8 : Int32) &&& 31)) >>> ((8 : Int32) &&& 31)).toInt64), .second, .unset, .unset, .unset, .unset] [(.long ((p0 &&& (65535 : Int32)).toInt64))])) rfl (hb hby at_68) _ ?_
    show Steps p.tables e below (T4.setTop (mkF m 71 #[iv p0, iv p1, iv p2, iv p3, jv p4, .second, iv (p0 &&& (65535 : Int32)), iv (p1 &&& (65535 : Int32)), iv (p2 &&& (255 : Int32)), iv ((p3 <<< ((8 : Int32) &&& 31)) >>> ((8 : Int32) &&& 31)), rv ob2, jv (((p3 <<< ((8 : Int32) &&& 31)) >>> ((8 : Int32) &&& 31)).toInt64), .second, .unset, .unset, .unset, .unset] [(.long 281474976710656), (.long ((p0 &&& (65535 : Int32)).toInt64))])) _
    refine XS.lmul X4.here hx rfl (hb hby at_71) rfl ?_
    show Steps p.tables e below (T4.setTop (mkF m 72 #[iv p0, iv p1, iv p2, iv p3, jv p4, .second, iv (p0 &&& (65535 : Int32)), iv (p1 &&& (65535 : Int32)), iv (p2 &&& (255 : Int32)), iv ((p3 <<< ((8 : Int32) &&& 31)) >>> ((8 : Int32) &&& 31)), rv ob2, jv (((p3 <<< ((8 : Int32) &&& 31)) >>> ((8 : Int32) &&& 31)).toInt64), .second, .unset, .unset, .unset, .unset] [(.long (((p0 &&& (65535 : Int32)).toInt64) * (281474976710656 : Int64)))])) _
    refine XS.iload X4.here hx rfl (hb hby at_72) rfl ?_
    show Steps p.tables e below (T4.setTop (mkF m 74 #[iv p0, iv p1, iv p2, iv p3, jv p4, .second, iv (p0 &&& (65535 : Int32)), iv (p1 &&& (65535 : Int32)), iv (p2 &&& (255 : Int32)), iv ((p3 <<< ((8 : Int32) &&& 31)) >>> ((8 : Int32) &&& 31)), rv ob2, jv (((p3 <<< ((8 : Int32) &&& 31)) >>> ((8 : Int32) &&& 31)).toInt64), .second, .unset, .unset, .unset, .unset] [(.int (p1 &&& (65535 : Int32))), (.long (((p0 &&& (65535 : Int32)).toInt64) * (281474976710656 : Int64)))])) _
    refine XS.i2l X4.here hx rfl (hb hby at_74) rfl ?_
    show Steps p.tables e below (T4.setTop (mkF m 75 #[iv p0, iv p1, iv p2, iv p3, jv p4, .second, iv (p0 &&& (65535 : Int32)), iv (p1 &&& (65535 : Int32)), iv (p2 &&& (255 : Int32)), iv ((p3 <<< ((8 : Int32) &&& 31)) >>> ((8 : Int32) &&& 31)), rv ob2, jv (((p3 <<< ((8 : Int32) &&& 31)) >>> ((8 : Int32) &&& 31)).toInt64), .second, .unset, .unset, .unset, .unset] [(.long ((p1 &&& (65535 : Int32)).toInt64)), (.long (((p0 &&& (65535 : Int32)).toInt64) * (281474976710656 : Int64)))])) _
    refine X4.ldc2Long hx hown (mvT hZ (wd hw 22 rfl)) (g := (mkF m 75 #[iv p0, iv p1, iv p2, iv p3, jv p4, .second, iv (p0 &&& (65535 : Int32)), iv (p1 &&& (65535 : Int32)), iv (p2 &&& (255 : Int32)), iv ((p3 <<< ((8 : Int32) &&& 31)) >>> ((8 : Int32) &&& 31)), rv ob2, jv (((p3 <<< ((8 : Int32) &&& 31)) >>> ((8 : Int32) &&& 31)).toInt64), .second, .unset, .unset, .unset, .unset] [(.long ((p1 &&& (65535 : Int32)).toInt64)), (.long (((p0 &&& (65535 : Int32)).toInt64) * (281474976710656 : Int64)))])) rfl (hb hby at_75) _ ?_
    show Steps p.tables e below (T4.setTop (mkF m 78 #[iv p0, iv p1, iv p2, iv p3, jv p4, .second, iv (p0 &&& (65535 : Int32)), iv (p1 &&& (65535 : Int32)), iv (p2 &&& (255 : Int32)), iv ((p3 <<< ((8 : Int32) &&& 31)) >>> ((8 : Int32) &&& 31)), rv ob2, jv (((p3 <<< ((8 : Int32) &&& 31)) >>> ((8 : Int32) &&& 31)).toInt64), .second, .unset, .unset, .unset, .unset] [(.long 4294967296), (.long ((p1 &&& (65535 : Int32)).toInt64)), (.long (((p0 &&& (65535 : Int32)).toInt64) * (281474976710656 : Int64)))])) _
    refine XS.lmul X4.here hx rfl (hb hby at_78) rfl ?_
    show Steps p.tables e below (T4.setTop (mkF m 79 #[iv p0, iv p1, iv p2, iv p3, jv p4, .second, iv (p0 &&& (65535 : Int32)), iv (p1 &&& (65535 : Int32)), iv (p2 &&& (255 : Int32)), iv ((p3 <<< ((8 : Int32) &&& 31)) >>> ((8 : Int32) &&& 31)), rv ob2, jv (((p3 <<< ((8 : Int32) &&& 31)) >>> ((8 : Int32) &&& 31)).toInt64), .second, .unset, .unset, .unset, .unset] [(.long (((p1 &&& (65535 : Int32)).toInt64) * (4294967296 : Int64))), (.long (((p0 &&& (65535 : Int32)).toInt64) * (281474976710656 : Int64)))])) _
    refine XS.ladd X4.here hx rfl (hb hby at_79) rfl ?_
    show Steps p.tables e below (T4.setTop (mkF m 80 #[iv p0, iv p1, iv p2, iv p3, jv p4, .second, iv (p0 &&& (65535 : Int32)), iv (p1 &&& (65535 : Int32)), iv (p2 &&& (255 : Int32)), iv ((p3 <<< ((8 : Int32) &&& 31)) >>> ((8 : Int32) &&& 31)), rv ob2, jv (((p3 <<< ((8 : Int32) &&& 31)) >>> ((8 : Int32) &&& 31)).toInt64), .second, .unset, .unset, .unset, .unset] [(.long ((((p0 &&& (65535 : Int32)).toInt64) * (281474976710656 : Int64)) + (((p1 &&& (65535 : Int32)).toInt64) * (4294967296 : Int64))))])) _
    refine XS.iload X4.here hx rfl (hb hby at_80) rfl ?_
    show Steps p.tables e below (T4.setTop (mkF m 82 #[iv p0, iv p1, iv p2, iv p3, jv p4, .second, iv (p0 &&& (65535 : Int32)), iv (p1 &&& (65535 : Int32)), iv (p2 &&& (255 : Int32)), iv ((p3 <<< ((8 : Int32) &&& 31)) >>> ((8 : Int32) &&& 31)), rv ob2, jv (((p3 <<< ((8 : Int32) &&& 31)) >>> ((8 : Int32) &&& 31)).toInt64), .second, .unset, .unset, .unset, .unset] [(.int (p2 &&& (255 : Int32))), (.long ((((p0 &&& (65535 : Int32)).toInt64) * (281474976710656 : Int64)) + (((p1 &&& (65535 : Int32)).toInt64) * (4294967296 : Int64))))])) _
    refine XS.i2l X4.here hx rfl (hb hby at_82) rfl ?_
    show Steps p.tables e below (T4.setTop (mkF m 83 #[iv p0, iv p1, iv p2, iv p3, jv p4, .second, iv (p0 &&& (65535 : Int32)), iv (p1 &&& (65535 : Int32)), iv (p2 &&& (255 : Int32)), iv ((p3 <<< ((8 : Int32) &&& 31)) >>> ((8 : Int32) &&& 31)), rv ob2, jv (((p3 <<< ((8 : Int32) &&& 31)) >>> ((8 : Int32) &&& 31)).toInt64), .second, .unset, .unset, .unset, .unset] [(.long ((p2 &&& (255 : Int32)).toInt64)), (.long ((((p0 &&& (65535 : Int32)).toInt64) * (281474976710656 : Int64)) + (((p1 &&& (65535 : Int32)).toInt64) * (4294967296 : Int64))))])) _
    refine X4.ldc2Long hx hown (mvT hZ (wd hw 23 rfl)) (g := (mkF m 83 #[iv p0, iv p1, iv p2, iv p3, jv p4, .second, iv (p0 &&& (65535 : Int32)), iv (p1 &&& (65535 : Int32)), iv (p2 &&& (255 : Int32)), iv ((p3 <<< ((8 : Int32) &&& 31)) >>> ((8 : Int32) &&& 31)), rv ob2, jv (((p3 <<< ((8 : Int32) &&& 31)) >>> ((8 : Int32) &&& 31)).toInt64), .second, .unset, .unset, .unset, .unset] [(.long ((p2 &&& (255 : Int32)).toInt64)), (.long ((((p0 &&& (65535 : Int32)).toInt64) * (281474976710656 : Int64)) + (((p1 &&& (65535 : Int32)).toInt64) * (4294967296 : Int64))))])) rfl (hb hby at_83) _ ?_
    show Steps p.tables e below (T4.setTop (mkF m 86 #[iv p0, iv p1, iv p2, iv p3, jv p4, .second, iv (p0 &&& (65535 : Int32)), iv (p1 &&& (65535 : Int32)), iv (p2 &&& (255 : Int32)), iv ((p3 <<< ((8 : Int32) &&& 31)) >>> ((8 : Int32) &&& 31)), rv ob2, jv (((p3 <<< ((8 : Int32) &&& 31)) >>> ((8 : Int32) &&& 31)).toInt64), .second, .unset, .unset, .unset, .unset] [(.long 16777216), (.long ((p2 &&& (255 : Int32)).toInt64)), (.long ((((p0 &&& (65535 : Int32)).toInt64) * (281474976710656 : Int64)) + (((p1 &&& (65535 : Int32)).toInt64) * (4294967296 : Int64))))])) _
    refine XS.lmul X4.here hx rfl (hb hby at_86) rfl ?_
    show Steps p.tables e below (T4.setTop (mkF m 87 #[iv p0, iv p1, iv p2, iv p3, jv p4, .second, iv (p0 &&& (65535 : Int32)), iv (p1 &&& (65535 : Int32)), iv (p2 &&& (255 : Int32)), iv ((p3 <<< ((8 : Int32) &&& 31)) >>> ((8 : Int32) &&& 31)), rv ob2, jv (((p3 <<< ((8 : Int32) &&& 31)) >>> ((8 : Int32) &&& 31)).toInt64), .second, .unset, .unset, .unset, .unset] [(.long (((p2 &&& (255 : Int32)).toInt64) * (16777216 : Int64))), (.long ((((p0 &&& (65535 : Int32)).toInt64) * (281474976710656 : Int64)) + (((p1 &&& (65535 : Int32)).toInt64) * (4294967296 : Int64))))])) _
    refine XS.ladd X4.here hx rfl (hb hby at_87) rfl ?_
    show Steps p.tables e below (T4.setTop (mkF m 88 #[iv p0, iv p1, iv p2, iv p3, jv p4, .second, iv (p0 &&& (65535 : Int32)), iv (p1 &&& (65535 : Int32)), iv (p2 &&& (255 : Int32)), iv ((p3 <<< ((8 : Int32) &&& 31)) >>> ((8 : Int32) &&& 31)), rv ob2, jv (((p3 <<< ((8 : Int32) &&& 31)) >>> ((8 : Int32) &&& 31)).toInt64), .second, .unset, .unset, .unset, .unset] [(.long (((((p0 &&& (65535 : Int32)).toInt64) * (281474976710656 : Int64)) + (((p1 &&& (65535 : Int32)).toInt64) * (4294967296 : Int64))) + (((p2 &&& (255 : Int32)).toInt64) * (16777216 : Int64))))])) _
    refine XS.lload X4.here hx rfl (hb hby at_88) rfl ?_
    show Steps p.tables e below (T4.setTop (mkF m 90 #[iv p0, iv p1, iv p2, iv p3, jv p4, .second, iv (p0 &&& (65535 : Int32)), iv (p1 &&& (65535 : Int32)), iv (p2 &&& (255 : Int32)), iv ((p3 <<< ((8 : Int32) &&& 31)) >>> ((8 : Int32) &&& 31)), rv ob2, jv (((p3 <<< ((8 : Int32) &&& 31)) >>> ((8 : Int32) &&& 31)).toInt64), .second, .unset, .unset, .unset, .unset] [(.long (((p3 <<< ((8 : Int32) &&& 31)) >>> ((8 : Int32) &&& 31)).toInt64)), (.long (((((p0 &&& (65535 : Int32)).toInt64) * (281474976710656 : Int64)) + (((p1 &&& (65535 : Int32)).toInt64) * (4294967296 : Int64))) + (((p2 &&& (255 : Int32)).toInt64) * (16777216 : Int64))))])) _
    refine XS.ladd X4.here hx rfl (hb hby at_90) rfl ?_
    show Steps p.tables e below (T4.setTop (mkF m 91 #[iv p0, iv p1, iv p2, iv p3, jv p4, .second, iv (p0 &&& (65535 : Int32)), iv (p1 &&& (65535 : Int32)), iv (p2 &&& (255 : Int32)), iv ((p3 <<< ((8 : Int32) &&& 31)) >>> ((8 : Int32) &&& 31)), rv ob2, jv (((p3 <<< ((8 : Int32) &&& 31)) >>> ((8 : Int32) &&& 31)).toInt64), .second, .unset, .unset, .unset, .unset] [(.long ((((((p0 &&& (65535 : Int32)).toInt64) * (281474976710656 : Int64)) + (((p1 &&& (65535 : Int32)).toInt64) * (4294967296 : Int64))) + (((p2 &&& (255 : Int32)).toInt64) * (16777216 : Int64))) + (((p3 <<< ((8 : Int32) &&& 31)) >>> ((8 : Int32) &&& 31)).toInt64)))])) _
    refine XS.lstore X4.here hx rfl (hb hby at_91) rfl (l' := #[iv p0, iv p1, iv p2, iv p3, jv p4, .second, iv (p0 &&& (65535 : Int32)), iv (p1 &&& (65535 : Int32)), iv (p2 &&& (255 : Int32)), iv ((p3 <<< ((8 : Int32) &&& 31)) >>> ((8 : Int32) &&& 31)), rv ob2, jv (((p3 <<< ((8 : Int32) &&& 31)) >>> ((8 : Int32) &&& 31)).toInt64), .second, jv ((((((p0 &&& (65535 : Int32)).toInt64) * (281474976710656 : Int64)) + (((p1 &&& (65535 : Int32)).toInt64) * (4294967296 : Int64))) + (((p2 &&& (255 : Int32)).toInt64) * (16777216 : Int64))) + (((p3 <<< ((8 : Int32) &&& 31)) >>> ((8 : Int32) &&& 31)).toInt64)), .second, .unset, .unset]) rfl ?_
    show Steps p.tables e below (T4.setTop (mkF m 93 #[iv p0, iv p1, iv p2, iv p3, jv p4, .second, iv (p0 &&& (65535 : Int32)), iv (p1 &&& (65535 : Int32)), iv (p2 &&& (255 : Int32)), iv ((p3 <<< ((8 : Int32) &&& 31)) >>> ((8 : Int32) &&& 31)), rv ob2, jv (((p3 <<< ((8 : Int32) &&& 31)) >>> ((8 : Int32) &&& 31)).toInt64), .second, jv ((((((p0 &&& (65535 : Int32)).toInt64) * (281474976710656 : Int64)) + (((p1 &&& (65535 : Int32)).toInt64) * (4294967296 : Int64))) + (((p2 &&& (255 : Int32)).toInt64) * (16777216 : Int64))) + (((p3 <<< ((8 : Int32) &&& 31)) >>> ((8 : Int32) &&& 31)).toInt64)), .second, .unset, .unset] [])) _
    refine XS.aload X4.here hx rfl (hb hby at_93) rfl rfl ?_
    show Steps p.tables e below (T4.setTop (mkF m 95 #[iv p0, iv p1, iv p2, iv p3, jv p4, .second, iv (p0 &&& (65535 : Int32)), iv (p1 &&& (65535 : Int32)), iv (p2 &&& (255 : Int32)), iv ((p3 <<< ((8 : Int32) &&& 31)) >>> ((8 : Int32) &&& 31)), rv ob2, jv (((p3 <<< ((8 : Int32) &&& 31)) >>> ((8 : Int32) &&& 31)).toInt64), .second, jv ((((((p0 &&& (65535 : Int32)).toInt64) * (281474976710656 : Int64)) + (((p1 &&& (65535 : Int32)).toInt64) * (4294967296 : Int64))) + (((p2 &&& (255 : Int32)).toInt64) * (16777216 : Int64))) + (((p3 <<< ((8 : Int32) &&& 31)) >>> ((8 : Int32) &&& 31)).toInt64)), .second, .unset, .unset] [(.ref ob2)])) _
    exact k
  refine own_lift sg5 ?_
  show own_Go p.tables e below (T4.setTop (mkF m 95 #[iv p0, iv p1, iv p2, iv p3, jv p4, .second, iv (p0 &&& (65535 : Int32)), iv (p1 &&& (65535 : Int32)), iv (p2 &&& (255 : Int32)), iv ((p3 <<< ((8 : Int32) &&& 31)) >>> ((8 : Int32) &&& 31)), rv ob2, jv (((p3 <<< ((8 : Int32) &&& 31)) >>> ((8 : Int32) &&& 31)).toInt64), .second, jv ((((((p0 &&& (65535 : Int32)).toInt64) * (281474976710656 : Int64)) + (((p1 &&& (65535 : Int32)).toInt64) * (4294967296 : Int64))) + (((p2 &&& (255 : Int32)).toInt64) * (16777216 : Int64))) + (((p3 <<< ((8 : Int32) &&& 31)) >>> ((8 : Int32) &&& 31)).toInt64)), .second, .unset, .unset] [(.ref ob2)])) _
  obtain ⟨cq6, kq6, q6a, q6b, q6c⟩ := isOf hZ rfl p4_1
  obtain ⟨_, _, ⟨T6, Lx6, kx6, nx6⟩, -, X6, ⟨Lc6, hQ6, lx6, yx6, zx6⟩, st6⟩ := X4.virtualBack hx (y := (⟨"com/example/halyard/halyard/core/mal/TypeId", "toLong", "()J"⟩ : MethodName)) (z := (⟨"com/example/halyard/halyard/core/mal/TypeId", "toLong", "()J"⟩ : MethodName)) hown (mvT hZ (wd hw 24 rfl)) (mvT hZ (wd hw 25 rfl)) (notFace_of_selects (args := #[]) (mvT hZ (wd hw 27 rfl))) (mvT hZ (wd hw 27 rfl)) (mvT hZ (wd hw 26 rfl)) (by decide) (backOf (W := 0) (rmTL l Z a0 hw [] ob2 (p0 &&& (65535 : Int32)) (p1 &&& (65535 : Int32)) (p2 &&& (255 : Int32)) ((p3 <<< ((8 : Int32) &&& 31)) >>> ((8 : Int32) &&& 31)) T4.heap n0 Z4 p4_2 p4_3 p4_4 p4_5) hZ (wd hw 28 rfl) (wd hw 3 rfl) (by decide) (by decide)) q6a q6c (g := (mkF m 95 #[iv p0, iv p1, iv p2, iv p3, jv p4, .second, iv (p0 &&& (65535 : Int32)), iv (p1 &&& (65535 : Int32)), iv (p2 &&& (255 : Int32)), iv ((p3 <<< ((8 : Int32) &&& 31)) >>> ((8 : Int32) &&& 31)), rv ob2, jv (((p3 <<< ((8 : Int32) &&& 31)) >>> ((8 : Int32) &&& 31)).toInt64), .second, jv ((((((p0 &&& (65535 : Int32)).toInt64) * (281474976710656 : Int64)) + (((p1 &&& (65535 : Int32)).toInt64) * (4294967296 : Int64))) + (((p2 &&& (255 : Int32)).toInt64) * (16777216 : Int64))) + (((p3 <<< ((8 : Int32) &&& 31)) >>> ((8 : Int32) &&& 31)).toInt64)), .second, .unset, .unset] [(.ref ob2)])) rfl (by rw [hml]; rfl) (Steps.refl _) (argsL := []) (rest := []) (lenOf pd_1 rfl) rfl (by show 2 * 0 + _ ≤ _; exact Nat.le_of_eq rfl) (hb hby at_95) (fun _ _ => ⟨rfl, rfl, (by decide : 1 + 0 ≤ _), (by decide : 4 + 0 ≤ _)⟩)
  dsimp only [Pt.U, Pt.locs, Pt.cells, Pt.slots] at X6 lx6 yx6 zx6 st6 hQ6
  subst lx6 yx6 zx6
  obtain ⟨rfl, N6q, e6⟩ := hQ6
  have N6 := Fr.app N4 N6q
  refine own_lift (fun t k => st6.trans k) ?_
  show own_Go p.tables e below (T6.setTop (mkF m 98 #[iv p0, iv p1, iv p2, iv p3, jv p4, .second, iv (p0 &&& (65535 : Int32)), iv (p1 &&& (65535 : Int32)), iv (p2 &&& (255 : Int32)), iv ((p3 <<< ((8 : Int32) &&& 31)) >>> ((8 : Int32) &&& 31)), rv ob2, jv (((p3 <<< ((8 : Int32) &&& 31)) >>> ((8 : Int32) &&& 31)).toInt64), .second, jv ((((((p0 &&& (65535 : Int32)).toInt64) * (281474976710656 : Int64)) + (((p1 &&& (65535 : Int32)).toInt64) * (4294967296 : Int64))) + (((p2 &&& (255 : Int32)).toInt64) * (16777216 : Int64))) + (((p3 <<< ((8 : Int32) &&& 31)) >>> ((8 : Int32) &&& 31)).toInt64)), .second, .unset, .unset] [(.long (own_tl (p0 &&& (65535 : Int32)) (p1 &&& (65535 : Int32)) (p2 &&& (255 : Int32)) ((p3 <<< ((8 : Int32) &&& 31)) >>> ((8 : Int32) &&& 31))))])) _
  have sg7 : ∀ t, Steps p.tables e below (T6.setTop (mkF m 113 #[iv p0, iv p1, iv p2, iv p3, jv p4, .second, iv (p0 &&& (65535 : Int32)), iv (p1 &&& (65535 : Int32)), iv (p2 &&& (255 : Int32)), iv ((p3 <<< ((8 : Int32) &&& 31)) >>> ((8 : Int32) &&& 31)), rv ob2, jv (((p3 <<< ((8 : Int32) &&& 31)) >>> ((8 : Int32) &&& 31)).toInt64), .second, jv ((((((p0 &&& (65535 : Int32)).toInt64) * (281474976710656 : Int64)) + (((p1 &&& (65535 : Int32)).toInt64) * (4294967296 : Int64))) + (((p2 &&& (255 : Int32)).toInt64) * (16777216 : Int64))) + (((p3 <<< ((8 : Int32) &&& 31)) >>> ((8 : Int32) &&& 31)).toInt64)), .second, iv 1, .unset] [(.long p4)])) t → Steps p.tables e below (T6.setTop (mkF m 98 #[iv p0, iv p1, iv p2, iv p3, jv p4, .second, iv (p0 &&& (65535 : Int32)), iv (p1 &&& (65535 : Int32)), iv (p2 &&& (255 : Int32)), iv ((p3 <<< ((8 : Int32) &&& 31)) >>> ((8 : Int32) &&& 31)), rv ob2, jv (((p3 <<< ((8 : Int32) &&& 31)) >>> ((8 : Int32) &&& 31)).toInt64), .second, jv ((((((p0 &&& (65535 : Int32)).toInt64) * (281474976710656 : Int64)) + (((p1 &&& (65535 : Int32)).toInt64) * (4294967296 : Int64))) + (((p2 &&& (255 : Int32)).toInt64) * (16777216 : Int64))) + (((p3 <<< ((8 : Int32) &&& 31)) >>> ((8 : Int32) &&& 31)).toInt64)), .second, .unset, .unset] [(.long (own_tl (p0 &&& (65535 : Int32)) (p1 &&& (65535 : Int32)) (p2 &&& (255 : Int32)) ((p3 <<< ((8 : Int32) &&& 31)) >>> ((8 : Int32) &&& 31))))])) t := by
    intro t k
    refine XS.lload X6.here hx rfl (hb hby at_98) rfl ?_
    show Steps p.tables e below (T6.setTop (mkF m 100 #[iv p0, iv p1, iv p2, iv p3, jv p4, .second, iv (p0 &&& (65535 : Int32)), iv (p1 &&& (65535 : Int32)), iv (p2 &&& (255 : Int32)), iv ((p3 <<< ((8 : Int32) &&& 31)) >>> ((8 : Int32) &&& 31)), rv ob2, jv (((p3 <<< ((8 : Int32) &&& 31)) >>> ((8 : Int32) &&& 31)).toInt64), .second, jv ((((((p0 &&& (65535 : Int32)).toInt64) * (281474976710656 : Int64)) + (((p1 &&& (65535 : Int32)).toInt64) * (4294967296 : Int64))) + (((p2 &&& (255 : Int32)).toInt64) * (16777216 : Int64))) + (((p3 <<< ((8 : Int32) &&& 31)) >>> ((8 : Int32) &&& 31)).toInt64)), .second, .unset, .unset] [(.long ((((((p0 &&& (65535 : Int32)).toInt64) * (281474976710656 : Int64)) + (((p1 &&& (65535 : Int32)).toInt64) * (4294967296 : Int64))) + (((p2 &&& (255 : Int32)).toInt64) * (16777216 : Int64))) + (((p3 <<< ((8 : Int32) &&& 31)) >>> ((8 : Int32) &&& 31)).toInt64))), (.long (own_tl (p0 &&& (65535 : Int32)) (p1 &&& (65535 : Int32)) (p2 &&& (255 : Int32)) ((p3 <<< ((8 : Int32) &&& 31)) >>> ((8 : Int32) &&& 31))))])) _
    refine XS.lcmp X6.here hx rfl (hb hby at_100) rfl ?_
    show Steps p.tables e below (T6.setTop (mkF m 101 #[iv p0, iv p1, iv p2, iv p3, jv p4, .second, iv (p0 &&& (65535 : Int32)), iv (p1 &&& (65535 : Int32)), iv (p2 &&& (255 : Int32)), iv ((p3 <<< ((8 : Int32) &&& 31)) >>> ((8 : Int32) &&& 31)), rv ob2, jv (((p3 <<< ((8 : Int32) &&& 31)) >>> ((8 : Int32) &&& 31)).toInt64), .second, jv ((((((p0 &&& (65535 : Int32)).toInt64) * (281474976710656 : Int64)) + (((p1 &&& (65535 : Int32)).toInt64) * (4294967296 : Int64))) + (((p2 &&& (255 : Int32)).toInt64) * (16777216 : Int64))) + (((p3 <<< ((8 : Int32) &&& 31)) >>> ((8 : Int32) &&& 31)).toInt64)), .second, .unset, .unset] [(.int (lcmpW (own_tl (p0 &&& (65535 : Int32)) (p1 &&& (65535 : Int32)) (p2 &&& (255 : Int32)) ((p3 <<< ((8 : Int32) &&& 31)) >>> ((8 : Int32) &&& 31))) ((((((p0 &&& (65535 : Int32)).toInt64) * (281474976710656 : Int64)) + (((p1 &&& (65535 : Int32)).toInt64) * (4294967296 : Int64))) + (((p2 &&& (255 : Int32)).toInt64) * (16777216 : Int64))) + (((p3 <<< ((8 : Int32) &&& 31)) >>> ((8 : Int32) &&& 31)).toInt64))))])) _
    refine XS.ifNo X6.here hx rfl (hb hby at_101) rfl ((if0 _ _).trans (teq ((lw_eq (own_tl (p0 &&& (65535 : Int32)) (p1 &&& (65535 : Int32)) (p2 &&& (255 : Int32)) ((p3 <<< ((8 : Int32) &&& 31)) >>> ((8 : Int32) &&& 31))) ((((((p0 &&& (65535 : Int32)).toInt64) * (281474976710656 : Int64)) + (((p1 &&& (65535 : Int32)).toInt64) * (4294967296 : Int64))) + (((p2 &&& (255 : Int32)).toInt64) * (16777216 : Int64))) + (((p3 <<< ((8 : Int32) &&& 31)) >>> ((8 : Int32) &&& 31)).toInt64))).2 (own_directP p0 p1 p2 p3 c1))).2) ?_
    show Steps p.tables e below (T6.setTop (mkF m 104 #[iv p0, iv p1, iv p2, iv p3, jv p4, .second, iv (p0 &&& (65535 : Int32)), iv (p1 &&& (65535 : Int32)), iv (p2 &&& (255 : Int32)), iv ((p3 <<< ((8 : Int32) &&& 31)) >>> ((8 : Int32) &&& 31)), rv ob2, jv (((p3 <<< ((8 : Int32) &&& 31)) >>> ((8 : Int32) &&& 31)).toInt64), .second, jv ((((((p0 &&& (65535 : Int32)).toInt64) * (281474976710656 : Int64)) + (((p1 &&& (65535 : Int32)).toInt64) * (4294967296 : Int64))) + (((p2 &&& (255 : Int32)).toInt64) * (16777216 : Int64))) + (((p3 <<< ((8 : Int32) &&& 31)) >>> ((8 : Int32) &&& 31)).toInt64)), .second, .unset, .unset] [])) _
    refine XS.iconst X6.here hx rfl (hb hby at_104) ?_
    show Steps p.tables e below (T6.setTop (mkF m 105 #[iv p0, iv p1, iv p2, iv p3, jv p4, .second, iv (p0 &&& (65535 : Int32)), iv (p1 &&& (65535 : Int32)), iv (p2 &&& (255 : Int32)), iv ((p3 <<< ((8 : Int32) &&& 31)) >>> ((8 : Int32) &&& 31)), rv ob2, jv (((p3 <<< ((8 : Int32) &&& 31)) >>> ((8 : Int32) &&& 31)).toInt64), .second, jv ((((((p0 &&& (65535 : Int32)).toInt64) * (281474976710656 : Int64)) + (((p1 &&& (65535 : Int32)).toInt64) * (4294967296 : Int64))) + (((p2 &&& (255 : Int32)).toInt64) * (16777216 : Int64))) + (((p3 <<< ((8 : Int32) &&& 31)) >>> ((8 : Int32) &&& 31)).toInt64)), .second, .unset, .unset] [(.int 1)])) _
    refine XS.goto X6.here hx rfl (pc0 := 105) (pc' := 109) rfl (hb hby at_105) (by decide) (by decide) ?_
    show Steps p.tables e below (T6.setTop (mkF m 109 #[iv p0, iv p1, iv p2, iv p3, jv p4, .second, iv (p0 &&& (65535 : Int32)), iv (p1 &&& (65535 : Int32)), iv (p2 &&& (255 : Int32)), iv ((p3 <<< ((8 : Int32) &&& 31)) >>> ((8 : Int32) &&& 31)), rv ob2, jv (((p3 <<< ((8 : Int32) &&& 31)) >>> ((8 : Int32) &&& 31)).toInt64), .second, jv ((((((p0 &&& (65535 : Int32)).toInt64) * (281474976710656 : Int64)) + (((p1 &&& (65535 : Int32)).toInt64) * (4294967296 : Int64))) + (((p2 &&& (255 : Int32)).toInt64) * (16777216 : Int64))) + (((p3 <<< ((8 : Int32) &&& 31)) >>> ((8 : Int32) &&& 31)).toInt64)), .second, .unset, .unset] [(.int 1)])) _
    refine XS.istore X6.here hx rfl (hb hby at_109) rfl (l' := #[iv p0, iv p1, iv p2, iv p3, jv p4, .second, iv (p0 &&& (65535 : Int32)), iv (p1 &&& (65535 : Int32)), iv (p2 &&& (255 : Int32)), iv ((p3 <<< ((8 : Int32) &&& 31)) >>> ((8 : Int32) &&& 31)), rv ob2, jv (((p3 <<< ((8 : Int32) &&& 31)) >>> ((8 : Int32) &&& 31)).toInt64), .second, jv ((((((p0 &&& (65535 : Int32)).toInt64) * (281474976710656 : Int64)) + (((p1 &&& (65535 : Int32)).toInt64) * (4294967296 : Int64))) + (((p2 &&& (255 : Int32)).toInt64) * (16777216 : Int64))) + (((p3 <<< ((8 : Int32) &&& 31)) >>> ((8 : Int32) &&& 31)).toInt64)), .second, iv 1, .unset]) rfl ?_
    show Steps p.tables e below (T6.setTop (mkF m 111 #[iv p0, iv p1, iv p2, iv p3, jv p4, .second, iv (p0 &&& (65535 : Int32)), iv (p1 &&& (65535 : Int32)), iv (p2 &&& (255 : Int32)), iv ((p3 <<< ((8 : Int32) &&& 31)) >>> ((8 : Int32) &&& 31)), rv ob2, jv (((p3 <<< ((8 : Int32) &&& 31)) >>> ((8 : Int32) &&& 31)).toInt64), .second, jv ((((((p0 &&& (65535 : Int32)).toInt64) * (281474976710656 : Int64)) + (((p1 &&& (65535 : Int32)).toInt64) * (4294967296 : Int64))) + (((p2 &&& (255 : Int32)).toInt64) * (16777216 : Int64))) + (((p3 <<< ((8 : Int32) &&& 31)) >>> ((8 : Int32) &&& 31)).toInt64)), .second, iv 1, .unset] [])) _
    refine XS.lload X6.here hx rfl (hb hby at_111) rfl ?_
    show Steps p.tables e below (T6.setTop (mkF m 113 #[iv p0, iv p1, iv p2, iv p3, jv p4, .second, iv (p0 &&& (65535 : Int32)), iv (p1 &&& (65535 : Int32)), iv (p2 &&& (255 : Int32)), iv ((p3 <<< ((8 : Int32) &&& 31)) >>> ((8 : Int32) &&& 31)), rv ob2, jv (((p3 <<< ((8 : Int32) &&& 31)) >>> ((8 : Int32) &&& 31)).toInt64), .second, jv ((((((p0 &&& (65535 : Int32)).toInt64) * (281474976710656 : Int64)) + (((p1 &&& (65535 : Int32)).toInt64) * (4294967296 : Int64))) + (((p2 &&& (255 : Int32)).toInt64) * (16777216 : Int64))) + (((p3 <<< ((8 : Int32) &&& 31)) >>> ((8 : Int32) &&& 31)).toInt64)), .second, iv 1, .unset] [(.long p4)])) _
    exact k
  refine own_lift sg7 ?_
  show own_Go p.tables e below (T6.setTop (mkF m 113 #[iv p0, iv p1, iv p2, iv p3, jv p4, .second, iv (p0 &&& (65535 : Int32)), iv (p1 &&& (65535 : Int32)), iv (p2 &&& (255 : Int32)), iv ((p3 <<< ((8 : Int32) &&& 31)) >>> ((8 : Int32) &&& 31)), rv ob2, jv (((p3 <<< ((8 : Int32) &&& 31)) >>> ((8 : Int32) &&& 31)).toInt64), .second, jv ((((((p0 &&& (65535 : Int32)).toInt64) * (281474976710656 : Int64)) + (((p1 &&& (65535 : Int32)).toInt64) * (4294967296 : Int64))) + (((p2 &&& (255 : Int32)).toInt64) * (16777216 : Int64))) + (((p3 <<< ((8 : Int32) &&& 31)) >>> ((8 : Int32) &&& 31)).toInt64)), .second, iv 1, .unset] [(.long p4)])) _
  obtain ⟨_, _, ⟨T8, Lx8, kx8, nx8⟩, -, X8, ⟨Lc8, hQ8, lx8, yx8, zx8⟩, st8⟩ := Jvm.LawKit.callS X6 hx (y := (⟨"com/example/halyard/halyard/core/mal/TypeId", "of", "(J)Lcom/example/halyard/halyard/core/mal/TypeId;"⟩ : MethodName)) hown (mvT hZ (wd hw 30 rfl)) (mvT hZ (wd hw 31 rfl)) (mvT hZ (wd hw 3 rfl)) (mvT hZ (wd hw 32 rfl)) (by decide) (backOf (W := 0) (rmOf l Z a0 hw [] p4 T4.heap n0 Z4 ) hZ (wd hw 32 rfl) (wd hw 3 rfl) (by decide) (by decide)) (g := (mkF m 113 #[iv p0, iv p1, iv p2, iv p3, jv p4, .second, iv (p0 &&& (65535 : Int32)), iv (p1 &&& (65535 : Int32)), iv (p2 &&& (255 : Int32)), iv ((p3 <<< ((8 : Int32) &&& 31)) >>> ((8 : Int32) &&& 31)), rv ob2, jv (((p3 <<< ((8 : Int32) &&& 31)) >>> ((8 : Int32) &&& 31)).toInt64), .second, jv ((((((p0 &&& (65535 : Int32)).toInt64) * (281474976710656 : Int64)) + (((p1 &&& (65535 : Int32)).toInt64) * (4294967296 : Int64))) + (((p2 &&& (255 : Int32)).toInt64) * (16777216 : Int64))) + (((p3 <<< ((8 : Int32) &&& 31)) >>> ((8 : Int32) &&& 31)).toInt64)), .second, iv 1, .unset] [(.long p4)])) rfl (by rw [hml]; rfl) (argsL := [(.long p4)]) (rest := []) (lenOf pd_2 rfl) rfl (by show 2 * 0 + _ ≤ _; exact Nat.le_of_eq rfl) (hb hby at_113) (fun _ _ => ⟨rfl, e6, (by decide : 1 + 1 ≤ _), (by decide : 4 + 4 ≤ _)⟩)
  dsimp only [Pt.U, Pt.locs, Pt.cells, Pt.slots] at X8 lx8 yx8 zx8 st8 hQ8
  subst lx8 yx8 zx8
  obtain ⟨xb_8, rfl, N8q, p8_0, p8_1, p8_2, p8_3, p8_4, p8_5, p8_6⟩ := hQ8
  have N8 := Fr.app N6 N8q
  have ne9 : ob2 ≠ xb_8 := Nat.ne_of_lt (Nat.lt_of_lt_of_le p4_1.lt p8_1)
  have Z8 : n0 ≤ T8.heap.size := Nat.le_trans Z4 p8_0.1
  have ge8_1 : n0 ≤ xb_8 := Nat.le_trans Z4 p8_1
  refine own_lift st8 ?_
  show own_Go p.tables e below (T8.setTop (mkF m 116 #[iv p0, iv p1, iv p2, iv p3, jv p4, .second, iv (p0 &&& (65535 : Int32)), iv (p1 &&& (65535 : Int32)), iv (p2 &&& (255 : Int32)), iv ((p3 <<< ((8 : Int32) &&& 31)) >>> ((8 : Int32) &&& 31)), rv ob2, jv (((p3 <<< ((8 : Int32) &&& 31)) >>> ((8 : Int32) &&& 31)).toInt64), .second, jv ((((((p0 &&& (65535 : Int32)).toInt64) * (281474976710656 : Int64)) + (((p1 &&& (65535 : Int32)).toInt64) * (4294967296 : Int64))) + (((p2 &&& (255 : Int32)).toInt64) * (16777216 : Int64))) + (((p3 <<< ((8 : Int32) &&& 31)) >>> ((8 : Int32) &&& 31)).toInt64)), .second, iv 1, .unset] [(.ref xb_8)])) _
  obtain ⟨cq10, kq10, q10a, q10b, q10c⟩ := isOf hZ rfl p8_2
  obtain ⟨_, _, ⟨T10, Lx10, kx10, nx10⟩, -, X10, ⟨Lc10, hQ10, lx10, yx10, zx10⟩, st10⟩ := X8.virtualBack hx (y := (⟨"com/example/halyard/halyard/core/mal/TypeId", "toLong", "()J"⟩ : MethodName)) (z := (⟨"com/example/halyard/halyard/core/mal/TypeId", "toLong", "()J"⟩ : MethodName)) hown (mvT hZ (wd hw 24 rfl)) (mvT hZ (wd hw 25 rfl)) (notFace_of_selects (args := #[]) (mvT hZ (wd hw 27 rfl))) (mvT hZ (wd hw 27 rfl)) (mvT hZ (wd hw 26 rfl)) (by decide) (backOf (W := 0) (rmTL l Z a0 hw [] xb_8 (((p4.toUInt64 >>> ((48 : Int32) &&& 0x3f).toInt64.toUInt64).toInt64).toInt32) ((((p4.toUInt64 >>> ((32 : Int32) &&& 0x3f).toInt64.toUInt64).toInt64).toInt32) &&& (65535 : Int32)) ((((p4.toUInt64 >>> ((24 : Int32) &&& 0x3f).toInt64.toUInt64).toInt64).toInt32) &&& (255 : Int32)) (((p4.toInt32) <<< ((8 : Int32) &&& 31)) >>> ((8 : Int32) &&& 31)) T8.heap n0 Z8 p8_3 p8_4 p8_5 p8_6) hZ (wd hw 28 rfl) (wd hw 3 rfl) (by decide) (by decide)) q10a q10c (g := (mkF m 116 #[iv p0, iv p1, iv p2, iv p3, jv p4, .second, iv (p0 &&& (65535 : Int32)), iv (p1 &&& (65535 : Int32)), iv (p2 &&& (255 : Int32)), iv ((p3 <<< ((8 : Int32) &&& 31)) >>> ((8 : Int32) &&& 31)), rv ob2, jv (((p3 <<< ((8 : Int32) &&& 31)) >>> ((8 : Int32) &&& 31)).toInt64), .second, jv ((((((p0 &&& (65535 : Int32)).toInt64) * (281474976710656 : Int64)) + (((p1 &&& (65535 : Int32)).toInt64) * (4294967296 : Int64))) + (((p2 &&& (255 : Int32)).toInt64) * (16777216 : Int64))) + (((p3 <<< ((8 : Int32) &&& 31)) >>> ((8 : Int32) &&& 31)).toInt64)), .second, iv 1, .unset] [(.ref xb_8)])) rfl (by rw [hml]; rfl) (Steps.refl _) (argsL := []) (rest := []) (lenOf pd_1 rfl) rfl (by show 2 * 0 + _ ≤ _; exact Nat.le_of_eq rfl) (hb hby at_116) (fun _ _ => ⟨rfl, rfl, (by decide : 2 + 0 ≤ _), (by decide : 8 + 0 ≤ _)⟩)
  dsimp only [Pt.U, Pt.locs, Pt.cells, Pt.slots] at X10 lx10 yx10 zx10 st10 hQ10
  subst lx10 yx10 zx10
  obtain ⟨rfl, N10q, e10⟩ := hQ10
  have N10 := Fr.app N8 N10q
  refine own_lift (fun t k => st10.trans k) ?_
  show own_Go p.tables e below (T10.setTop (mkF m 119 #[iv p0, iv p1, iv p2, iv p3, jv p4, .second, iv (p0 &&& (65535 : Int32)), iv (p1 &&& (65535 : Int32)), iv (p2 &&& (255 : Int32)), iv ((p3 <<< ((8 : Int32) &&& 31)) >>> ((8 : Int32) &&& 31)), rv ob2, jv (((p3 <<< ((8 : Int32) &&& 31)) >>> ((8 : Int32) &&& 31)).toInt64), .second, jv ((((((p0 &&& (65535 : Int32)).toInt64) * (281474976710656 : Int64)) + (((p1 &&& (65535 : Int32)).toInt64) * (4294967296 : Int64))) + (((p2 &&& (255 : Int32)).toInt64) * (16777216 : Int64))) + (((p3 <<< ((8 : Int32) &&& 31)) >>> ((8 : Int32) &&& 31)).toInt64)), .second, iv 1, .unset] [(.long (own_tl (((p4.toUInt64 >>> ((48 : Int32) &&& 0x3f).toInt64.toUInt64).toInt64).toInt32) ((((p4.toUInt64 >>> ((32 : Int32) &&& 0x3f).toInt64.toUInt64).toInt64).toInt32) &&& (65535 : Int32)) ((((p4.toUInt64 >>> ((24 : Int32) &&& 0x3f).toInt64.toUInt64).toInt64).toInt32) &&& (255 : Int32)) (((p4.toInt32) <<< ((8 : Int32) &&& 31)) >>> ((8 : Int32) &&& 31))))])) _
  have sg11 : ∀ t, Steps p.tables e below (T10.setTop (mkF m 147 #[iv p0, iv p1, iv p2, iv p3, jv p4, .second, iv (p0 &&& (65535 : Int32)), iv (p1 &&& (65535 : Int32)), iv (p2 &&& (255 : Int32)), iv ((p3 <<< ((8 : Int32) &&& 31)) >>> ((8 : Int32) &&& 31)), rv ob2, jv (((p3 <<< ((8 : Int32) &&& 31)) >>> ((8 : Int32) &&& 31)).toInt64), .second, jv ((((((p0 &&& (65535 : Int32)).toInt64) * (281474976710656 : Int64)) + (((p1 &&& (65535 : Int32)).toInt64) * (4294967296 : Int64))) + (((p2 &&& (255 : Int32)).toInt64) * (16777216 : Int64))) + (((p3 <<< ((8 : Int32) &&& 31)) >>> ((8 : Int32) &&& 31)).toInt64)), .second, iv 1, iv 1] [(.int 1)])) t → Steps p.tables e below (T10.setTop (mkF m 119 #[iv p0, iv p1, iv p2, iv p3, jv p4, .second, iv (p0 &&& (65535 : Int32)), iv (p1 &&& (65535 : Int32)), iv (p2 &&& (255 : Int32)), iv ((p3 <<< ((8 : Int32) &&& 31)) >>> ((8 : Int32) &&& 31)), rv ob2, jv (((p3 <<< ((8 : Int32) &&& 31)) >>> ((8 : Int32) &&& 31)).toInt64), .second, jv ((((((p0 &&& (65535 : Int32)).toInt64) * (281474976710656 : Int64)) + (((p1 &&& (65535 : Int32)).toInt64) * (4294967296 : Int64))) + (((p2 &&& (255 : Int32)).toInt64) * (16777216 : Int64))) + (((p3 <<< ((8 : Int32) &&& 31)) >>> ((8 : Int32) &&& 31)).toInt64)), .second, iv 1, .unset] [(.long (own_tl (((p4.toUInt64 >>> ((48 : Int32) &&& 0x3f).toInt64.toUInt64).toInt64).toInt32) ((((p4.toUInt64 >>> ((32 : Int32) &&& 0x3f).toInt64.toUInt64).toInt64).toInt32) &&& (65535 : Int32)) ((((p4.toUInt64 >>> ((24 : Int32) &&& 0x3f).toInt64.toUInt64).toInt64).toInt32) &&& (255 : Int32)) (((p4.toInt32) <<< ((8 : Int32) &&& 31)) >>> ((8 : Int32) &&& 31))))])) t := by
    intro t k
    refine XS.lload X10.here hx rfl (hb hby at_119) rfl ?_
    show Steps p.tables e below (T10.setTop (mkF m 121 #[iv p0, iv p1, iv p2, iv p3, jv p4, .second, iv (p0 &&& (65535 : Int32)), iv (p1 &&& (65535 : Int32)), iv (p2 &&& (255 : Int32)), iv ((p3 <<< ((8 : Int32) &&& 31)) >>> ((8 : Int32) &&& 31)), rv ob2, jv (((p3 <<< ((8 : Int32) &&& 31)) >>> ((8 : Int32) &&& 31)).toInt64), .second, jv ((((((p0 &&& (65535 : Int32)).toInt64) * (281474976710656 : Int64)) + (((p1 &&& (65535 : Int32)).toInt64) * (4294967296 : Int64))) + (((p2 &&& (255 : Int32)).toInt64) * (16777216 : Int64))) + (((p3 <<< ((8 : Int32) &&& 31)) >>> ((8 : Int32) &&& 31)).toInt64)), .second, iv 1, .unset] [(.long p4), (.long (own_tl (((p4.toUInt64 >>> ((48 : Int32) &&& 0x3f).toInt64.toUInt64).toInt64).toInt32) ((((p4.toUInt64 >>> ((32 : Int32) &&& 0x3f).toInt64.toUInt64).toInt64).toInt32) &&& (65535 : Int32)) ((((p4.toUInt64 >>> ((24 : Int32) &&& 0x3f).toInt64.toUInt64).toInt64).toInt32) &&& (255 : Int32)) (((p4.toInt32) <<< ((8 : Int32) &&& 31)) >>> ((8 : Int32) &&& 31))))])) _
    refine XS.lcmp X10.here hx rfl (hb hby at_121) rfl ?_
    show Steps p.tables e below (T10.setTop (mkF m 122 #[iv p0, iv p1, iv p2, iv p3, jv p4, .second, iv (p0 &&& (65535 : Int32)), iv (p1 &&& (65535 : Int32)), iv (p2 &&& (255 : Int32)), iv ((p3 <<< ((8 : Int32) &&& 31)) >>> ((8 : Int32) &&& 31)), rv ob2, jv (((p3 <<< ((8 : Int32) &&& 31)) >>> ((8 : Int32) &&& 31)).toInt64), .second, jv ((((((p0 &&& (65535 : Int32)).toInt64) * (281474976710656 : Int64)) + (((p1 &&& (65535 : Int32)).toInt64) * (4294967296 : Int64))) + (((p2 &&& (255 : Int32)).toInt64) * (16777216 : Int64))) + (((p3 <<< ((8 : Int32) &&& 31)) >>> ((8 : Int32) &&& 31)).toInt64)), .second, iv 1, .unset] [(.int (lcmpW (own_tl (((p4.toUInt64 >>> ((48 : Int32) &&& 0x3f).toInt64.toUInt64).toInt64).toInt32) ((((p4.toUInt64 >>> ((32 : Int32) &&& 0x3f).toInt64.toUInt64).toInt64).toInt32) &&& (65535 : Int32)) ((((p4.toUInt64 >>> ((24 : Int32) &&& 0x3f).toInt64.toUInt64).toInt64).toInt32) &&& (255 : Int32)) (((p4.toInt32) <<< ((8 : Int32) &&& 31)) >>> ((8 : Int32) &&& 31))) p4))])) _
    refine XS.ifNo X10.here hx rfl (hb hby at_122) rfl ((if0 _ _).trans (teq ((lw_eq (own_tl (((p4.toUInt64 >>> ((48 : Int32) &&& 0x3f).toInt64.toUInt64).toInt64).toInt32) ((((p4.toUInt64 >>> ((32 : Int32) &&& 0x3f).toInt64.toUInt64).toInt64).toInt32) &&& (65535 : Int32)) ((((p4.toUInt64 >>> ((24 : Int32) &&& 0x3f).toInt64.toUInt64).toInt64).toInt32) &&& (255 : Int32)) (((p4.toInt32) <<< ((8 : Int32) &&& 31)) >>> ((8 : Int32) &&& 31))) p4).2 (own_round p4))).2) ?_
    show Steps p.tables e below (T10.setTop (mkF m 125 #[iv p0, iv p1, iv p2, iv p3, jv p4, .second, iv (p0 &&& (65535 : Int32)), iv (p1 &&& (65535 : Int32)), iv (p2 &&& (255 : Int32)), iv ((p3 <<< ((8 : Int32) &&& 31)) >>> ((8 : Int32) &&& 31)), rv ob2, jv (((p3 <<< ((8 : Int32) &&& 31)) >>> ((8 : Int32) &&& 31)).toInt64), .second, jv ((((((p0 &&& (65535 : Int32)).toInt64) * (281474976710656 : Int64)) + (((p1 &&& (65535 : Int32)).toInt64) * (4294967296 : Int64))) + (((p2 &&& (255 : Int32)).toInt64) * (16777216 : Int64))) + (((p3 <<< ((8 : Int32) &&& 31)) >>> ((8 : Int32) &&& 31)).toInt64)), .second, iv 1, .unset] [])) _
    refine XS.iconst X10.here hx rfl (hb hby at_125) ?_
    show Steps p.tables e below (T10.setTop (mkF m 126 #[iv p0, iv p1, iv p2, iv p3, jv p4, .second, iv (p0 &&& (65535 : Int32)), iv (p1 &&& (65535 : Int32)), iv (p2 &&& (255 : Int32)), iv ((p3 <<< ((8 : Int32) &&& 31)) >>> ((8 : Int32) &&& 31)), rv ob2, jv (((p3 <<< ((8 : Int32) &&& 31)) >>> ((8 : Int32) &&& 31)).toInt64), .second, jv ((((((p0 &&& (65535 : Int32)).toInt64) * (281474976710656 : Int64)) + (((p1 &&& (65535 : Int32)).toInt64) * (4294967296 : Int64))) + (((p2 &&& (255 : Int32)).toInt64) * (16777216 : Int64))) + (((p3 <<< ((8 : Int32) &&& 31)) >>> ((8 : Int32) &&& 31)).toInt64)), .second, iv 1, .unset] [(.int 1)])) _
    refine XS.goto X10.here hx rfl (pc0 := 126) (pc' := 130) rfl (hb hby at_126) (by decide) (by decide) ?_
    show Steps p.tables e below (T10.setTop (mkF m 130 #[iv p0, iv p1, iv p2, iv p3, jv p4, .second, iv (p0 &&& (65535 : Int32)), iv (p1 &&& (65535 : Int32)), iv (p2 &&& (255 : Int32)), iv ((p3 <<< ((8 : Int32) &&& 31)) >>> ((8 : Int32) &&& 31)), rv ob2, jv (((p3 <<< ((8 : Int32) &&& 31)) >>> ((8 : Int32) &&& 31)).toInt64), .second, jv ((((((p0 &&& (65535 : Int32)).toInt64) * (281474976710656 : Int64)) + (((p1 &&& (65535 : Int32)).toInt64) * (4294967296 : Int64))) + (((p2 &&& (255 : Int32)).toInt64) * (16777216 : Int64))) + (((p3 <<< ((8 : Int32) &&& 31)) >>> ((8 : Int32) &&& 31)).toInt64)), .second, iv 1, .unset] [(.int 1)])) _
    refine XS.istore X10.here hx rfl (hb hby at_130) rfl (l' := #[iv p0, iv p1, iv p2, iv p3, jv p4, .second, iv (p0 &&& (65535 : Int32)), iv (p1 &&& (65535 : Int32)), iv (p2 &&& (255 : Int32)), iv ((p3 <<< ((8 : Int32) &&& 31)) >>> ((8 : Int32) &&& 31)), rv ob2, jv (((p3 <<< ((8 : Int32) &&& 31)) >>> ((8 : Int32) &&& 31)).toInt64), .second, jv ((((((p0 &&& (65535 : Int32)).toInt64) * (281474976710656 : Int64)) + (((p1 &&& (65535 : Int32)).toInt64) * (4294967296 : Int64))) + (((p2 &&& (255 : Int32)).toInt64) * (16777216 : Int64))) + (((p3 <<< ((8 : Int32) &&& 31)) >>> ((8 : Int32) &&& 31)).toInt64)), .second, iv 1, iv 1]) rfl ?_
    show Steps p.tables e below (T10.setTop (mkF m 132 #[iv p0, iv p1, iv p2, iv p3, jv p4, .second, iv (p0 &&& (65535 : Int32)), iv (p1 &&& (65535 : Int32)), iv (p2 &&& (255 : Int32)), iv ((p3 <<< ((8 : Int32) &&& 31)) >>> ((8 : Int32) &&& 31)), rv ob2, jv (((p3 <<< ((8 : Int32) &&& 31)) >>> ((8 : Int32) &&& 31)).toInt64), .second, jv ((((((p0 &&& (65535 : Int32)).toInt64) * (281474976710656 : Int64)) + (((p1 &&& (65535 : Int32)).toInt64) * (4294967296 : Int64))) + (((p2 &&& (255 : Int32)).toInt64) * (16777216 : Int64))) + (((p3 <<< ((8 : Int32) &&& 31)) >>> ((8 : Int32) &&& 31)).toInt64)), .second, iv 1, iv 1] [])) _
    refine XS.iload X10.here hx rfl (hb hby at_132) rfl ?_
    show Steps p.tables e below (T10.setTop (mkF m 134 #[iv p0, iv p1, iv p2, iv p3, jv p4, .second, iv (p0 &&& (65535 : Int32)), iv (p1 &&& (65535 : Int32)), iv (p2 &&& (255 : Int32)), iv ((p3 <<< ((8 : Int32) &&& 31)) >>> ((8 : Int32) &&& 31)), rv ob2, jv (((p3 <<< ((8 : Int32) &&& 31)) >>> ((8 : Int32) &&& 31)).toInt64), .second, jv ((((((p0 &&& (65535 : Int32)).toInt64) * (281474976710656 : Int64)) + (((p1 &&& (65535 : Int32)).toInt64) * (4294967296 : Int64))) + (((p2 &&& (255 : Int32)).toInt64) * (16777216 : Int64))) + (((p3 <<< ((8 : Int32) &&& 31)) >>> ((8 : Int32) &&& 31)).toInt64)), .second, iv 1, iv 1] [(.int 1)])) _
    refine XS.ifNo X10.here hx rfl (hb hby at_134) rfl ((if0 _ _).trans (feq (by decide : ¬ ((1 : Int32) = (0 : Int32)))).1) ?_
    show Steps p.tables e below (T10.setTop (mkF m 137 #[iv p0, iv p1, iv p2, iv p3, jv p4, .second, iv (p0 &&& (65535 : Int32)), iv (p1 &&& (65535 : Int32)), iv (p2 &&& (255 : Int32)), iv ((p3 <<< ((8 : Int32) &&& 31)) >>> ((8 : Int32) &&& 31)), rv ob2, jv (((p3 <<< ((8 : Int32) &&& 31)) >>> ((8 : Int32) &&& 31)).toInt64), .second, jv ((((((p0 &&& (65535 : Int32)).toInt64) * (281474976710656 : Int64)) + (((p1 &&& (65535 : Int32)).toInt64) * (4294967296 : Int64))) + (((p2 &&& (255 : Int32)).toInt64) * (16777216 : Int64))) + (((p3 <<< ((8 : Int32) &&& 31)) >>> ((8 : Int32) &&& 31)).toInt64)), .second, iv 1, iv 1] [])) _
    refine XS.iload X10.here hx rfl (hb hby at_137) rfl ?_
    show Steps p.tables e below (T10.setTop (mkF m 139 #[iv p0, iv p1, iv p2, iv p3, jv p4, .second, iv (p0 &&& (65535 : Int32)), iv (p1 &&& (65535 : Int32)), iv (p2 &&& (255 : Int32)), iv ((p3 <<< ((8 : Int32) &&& 31)) >>> ((8 : Int32) &&& 31)), rv ob2, jv (((p3 <<< ((8 : Int32) &&& 31)) >>> ((8 : Int32) &&& 31)).toInt64), .second, jv ((((((p0 &&& (65535 : Int32)).toInt64) * (281474976710656 : Int64)) + (((p1 &&& (65535 : Int32)).toInt64) * (4294967296 : Int64))) + (((p2 &&& (255 : Int32)).toInt64) * (16777216 : Int64))) + (((p3 <<< ((8 : Int32) &&& 31)) >>> ((8 : Int32) &&& 31)).toInt64)), .second, iv 1, iv 1] [(.int 1)])) _
    refine XS.ifNo X10.here hx rfl (hb hby at_139) rfl ((if0 _ _).trans (feq (by decide : ¬ ((1 : Int32) = (0 : Int32)))).1) ?_
    show Steps p.tables e below (T10.setTop (mkF m 142 #[iv p0, iv p1, iv p2, iv p3, jv p4, .second, iv (p0 &&& (65535 : Int32)), iv (p1 &&& (65535 : Int32)), iv (p2 &&& (255 : Int32)), iv ((p3 <<< ((8 : Int32) &&& 31)) >>> ((8 : Int32) &&& 31)), rv ob2, jv (((p3 <<< ((8 : Int32) &&& 31)) >>> ((8 : Int32) &&& 31)).toInt64), .second, jv ((((((p0 &&& (65535 : Int32)).toInt64) * (281474976710656 : Int64)) + (((p1 &&& (65535 : Int32)).toInt64) * (4294967296 : Int64))) + (((p2 &&& (255 : Int32)).toInt64) * (16777216 : Int64))) + (((p3 <<< ((8 : Int32) &&& 31)) >>> ((8 : Int32) &&& 31)).toInt64)), .second, iv 1, iv 1] [])) _
    refine XS.iconst X10.here hx rfl (hb hby at_142) ?_
    show Steps p.tables e below (T10.setTop (mkF m 143 #[iv p0, iv p1, iv p2, iv p3, jv p4, .second, iv (p0 &&& (65535 : Int32)), iv (p1 &&& (65535 : Int32)), iv (p2 &&& (255 : Int32)), iv ((p3 <<< ((8 : Int32) &&& 31)) >>> ((8 : Int32) &&& 31)), rv ob2, jv (((p3 <<< ((8 : Int32) &&& 31)) >>> ((8 : Int32) &&& 31)).toInt64), .second, jv ((((((p0 &&& (65535 : Int32)).toInt64) * (281474976710656 : Int64)) + (((p1 &&& (65535 : Int32)).toInt64) * (4294967296 : Int64))) + (((p2 &&& (255 : Int32)).toInt64) * (16777216 : Int64))) + (((p3 <<< ((8 : Int32) &&& 31)) >>> ((8 : Int32) &&& 31)).toInt64)), .second, iv 1, iv 1] [(.int 1)])) _
    refine XS.goto X10.here hx rfl (pc0 := 143) (pc' := 147) rfl (hb hby at_143) (by decide) (by decide) ?_
    show Steps p.tables e below (T10.setTop (mkF m 147 #[iv p0, iv p1, iv p2, iv p3, jv p4, .second, iv (p0 &&& (65535 : Int32)), iv (p1 &&& (65535 : Int32)), iv (p2 &&& (255 : Int32)), iv ((p3 <<< ((8 : Int32) &&& 31)) >>> ((8 : Int32) &&& 31)), rv ob2, jv (((p3 <<< ((8 : Int32) &&& 31)) >>> ((8 : Int32) &&& 31)).toInt64), .second, jv ((((((p0 &&& (65535 : Int32)).toInt64) * (281474976710656 : Int64)) + (((p1 &&& (65535 : Int32)).toInt64) * (4294967296 : Int64))) + (((p2 &&& (255 : Int32)).toInt64) * (16777216 : Int64))) + (((p3 <<< ((8 : Int32) &&& 31)) >>> ((8 : Int32) &&& 31)).toInt64)), .second, iv 1, iv 1] [(.int 1)])) _
    exact k
  refine own_lift sg11 ?_
  show own_Go p.tables e below (T10.setTop (mkF m 147 #[iv p0, iv p1, iv p2, iv p3, jv p4, .second, iv (p0 &&& (65535 : Int32)), iv (p1 &&& (65535 : Int32)), iv (p2 &&& (255 : Int32)), iv ((p3 <<< ((8 : Int32) &&& 31)) >>> ((8 : Int32) &&& 31)), rv ob2, jv (((p3 <<< ((8 : Int32) &&& 31)) >>> ((8 : Int32) &&& 31)).toInt64), .second, jv ((((((p0 &&& (65535 : Int32)).toInt64) * (281474976710656 : Int64)) + (((p1 &&& (65535 : Int32)).toInt64) * (4294967296 : Int64))) + (((p2 &&& (255 : Int32)).toInt64) * (16777216 : Int64))) + (((p3 <<< ((8 : Int32) &&& 31)) >>> ((8 : Int32) &&& 31)).toInt64)), .second, iv 1, iv 1] [(.int 1)])) _
  obtain ⟨fs, hr, hrun, hended, hW, hsame⟩ := X10.leave (v := some (.int 1)) (fun h => by rw [Bd.returns] at h; cases h)
  refine ⟨_, _, ?_, hrun, hended, _, _, rfl, ?_, ⟨_, rfl⟩, hW, hsame.mono (by decide) (by decide)⟩
  · exact retN X10 hx (t := .boolean) Bd.returns (by simp) (hb hby at_147) hr
  · show Q0 Z  h0 n0 _ T10.heap _
    rw [e10]
    exact ⟨rfl, N10⟩
set_option maxRecDepth 65536 in
theorem rm0 (l : Launch) (Z : State) (a0 : Array Value) (hw : ∀ d ∈ tables_1, d.before a0 Z = true) (ws : List Jvm.Cond) (p0 : Int32) (p1 : Int32) (p2 : Int32) (p3 : Int32) (p4 : Int64) (h0 : Heap) (n0 : Nat) (Z0 : n0 ≤ h0.size)   :
    MetFree l x (head1 (Jvm.Cond.code x code maxLocals ret :: ws) room_1) (fun a U => a = #[(.int p0), (.int p1), (.int p2), (.int p3), (.long p4)] ∧ Z.Warmed39 U.vm ∧ U.heap = h0) (fun _ _ _ _ _ => True) (fun _ U o U' => ∃ v L, o = .returned v ∧ Q0 Z h0 n0 v U'.heap L ∧ FrameEnd U o U' L 16 128) := by
  by_cases c1 : ((p3 <<< ((8 : Int32) &&& 31)) >>> ((8 : Int32) &&& 31)) < (0 : Int32)
  · exact rm0_1 l Z a0 hw ws p0 p1 p2 p3 p4  h0 n0 Z0  c1
  · exact rm0_2 l Z a0 hw ws p0 p1 p2 p3 p4  h0 n0 Z0  c1
set_option maxRecDepth 65536 in
set_option maxHeartbeats 40000000 in
theorem comes_1 {Post : Tables → Env → Array Value → State → Outcome → State → Prop} (hpost : ∀ tb e args s v u, (limb_1_1.after args s (.returned v) u = true ∧ limb_1_2.after args s (.returned v) u = true ∧ True) → FrameEnd s (.returned v) u (Jvm.fieldLocs frame_1_writes args s ++ Jvm.arrayLocs frame_1_arrays args s ++ Jvm.staticLocs frame_1_statics s) 16 128 → Post tb e args s (.returned v) u) :
    ArmFor flags0 classFile x code maxLocals ret World_1 tables_1 room_1 Calls_1 rest_1 Pre_1 Post := by
  intro l hfl _ _ p e ha hc hk s m args below hf hA hF happ hP
  obtain ⟨hcalls, hrest, hpre⟩ := hP
  obtain ⟨-, -, -, hnamed, -, -, -, hat⟩ := (Spec.applies_iff hf).mp happ
  obtain ⟨hg, hn⟩ := and_e (Cond.before_iff.mp (show (Jvm.Cond.and given_1 narrow_1).before args s = true from hpre))
  obtain ⟨gv0, gr0⟩ := and_e hg
  obtain ⟨gv1, gr1⟩ := and_e gr0
  obtain ⟨gv2, gr2⟩ := and_e gr1
  obtain ⟨gv3, gr3⟩ := and_e gr2
  obtain ⟨gv4, gr4⟩ := and_e gr3
  obtain ⟨w0, w1, w2, w3, w4, rfl⟩ : ∃ w0 w1 w2 w3 w4 : Value, args = #[w0, w1, w2, w3, w4] := by
    have hs : args.size = 5 := by simpa [Cond.value, given_1] using gv0
    obtain ⟨L⟩ := args
    match L, hs with
    | [w0, w1, w2, w3, w4], _ => exact ⟨w0, w1, w2, w3, w4, rfl⟩
  have hw := fun d (hd : d ∈ tables_1) => atoms_spec (ws := Jvm.Cond.code x code maxLocals ret :: tables_1) hat d (List.mem_cons_of_mem _ hd)
  have hfit : Fit s := fun {y c} hc i hi => by
    obtain ⟨ha, rfl⟩ := Array.getElem?_eq_some_iff.mp hc
    have q := List.all_eq_true.mp ((Array.all_eq_true_iff_forall_mem.mp hF) _ (Array.getElem_mem ha)) i (List.mem_range.mpr hi)
    simpa [Array.getElem?_eq_getElem hi] using q
  obtain ⟨i0, ei0⟩ := is_v gv1
  obtain rfl : w0 = (.int i0) := Option.some.inj ei0
  obtain ⟨i1, ei1⟩ := is_v gv2
  obtain rfl : w1 = (.int i1) := Option.some.inj ei1
  obtain ⟨i2, ei2⟩ := is_v gv3
  obtain rfl : w2 = (.int i2) := Option.some.inj ei2
  obtain ⟨i3, ei3⟩ := is_v gv4
  obtain rfl : w3 = (.int i3) := Option.some.inj ei3
  obtain ⟨i4, ei4⟩ := isL_v gr4
  obtain rfl : w4 = (.long i4) := Option.some.inj ei4
  obtain ⟨n, o, h1, h2, h3, _, L, rfl, ⟨rfl, N⟩, hq⟩ := rm0 l s _ hw tables_1 i0 i1 i2 i3 i4  s.heap s.heap.size (Nat.le_refl _)  p e ha hc hk s m _ below hf ((Spec.applies_iff_loose hf).mp happ).1 ⟨rfl, State.Warmed39.refl s, rfl⟩ trivial
  refine ⟨n, _, h1, h2, h3, hpost _ _ _ _ _ _ ⟨Cond.after_iff.mpr rfl, Cond.after_iff.mpr (eq_i res_at (Term.int_eval (1)) rfl), trivial⟩ ⟨hq.1, hq.2.1, (hq.2.2.sift fun y hy => Or.inr (N y hy)).mono (by decide) (by decide)⟩⟩
theorem main_1_1 : Claimed_1_1 := comes_1 fun _ _ _ _ _ _ h hF => ⟨h.1, hF⟩
theorem main_1_2 : Claimed_1_2 := comes_1 fun _ _ _ _ _ _ h hF => ⟨h.2.1, hF⟩
end Jvm.Pilot.@@N@@
namespace Jvm.Pilot.@@N@@
open Jvm Jvm.ClassFile Sem Op Lib Jvm.Free Jvm.Stand Jvm.Pilot.@@N@@.Jvm.D
/-! MADE BY PROGRAM (witnessworld.py) out of the Statement's table words and the real class files: 7 classes; the members and pool entries that the words name. The judged class is class 1, her method 1. -/
namespace start1
open Jvm.ClassFile
def u (s : String) : CpInfo := .utf8 (stringToUtf16 s)
/-- a pool by its gaps: so many unusable entries, then the entry; so many at the end -/
def gap : Nat → List CpInfo → List CpInfo
  | 0, r => r
  | n + 1, r => .unusable :: gap n r
def poolList (es : List (Nat × CpInfo)) (last : Nat) : List CpInfo := es.foldr (fun e r => gap e.1 (e.2 :: r)) (gap last [])
def pool (es : List (Nat × CpInfo)) (last : Nat) : Array CpInfo := ⟨poolList es last⟩
def fileOf (pool : Array CpInfo) (this : Nat) (attrs : Array Attribute := #[]) (ms : Array MethodInfo := #[]) (fl : Nat := 33) (sup : Nat := 0) (ifs : Array Nat := #[]) (fds : Array FieldInfo := #[]) : ClassFile where
  minorVersion := 0
  majorVersion := 65
  constantPool := pool
  accessFlags := fl
  thisClass := this
  superClass := sup
  interfaces := ifs
  fields := fds
  methods := ms
  attributes := attrs
def plain (name : String) (sup : Option ClassId) : Class where
  name := name
  kind := .ordinary
  loader := none
  accessFlags := 33
  super := sup
  interfaces := #[]
  cf := none
  fields := #[]
  methods := #[]
  instanceTypes := #[]
  staticTypes := #[]
  resolved := #[]
  callSites := []
  init := .initialized
  statics := none
  mirror := none

def pool0 : Array CpInfo := pool [(5, u "<init>"), (0, u "()V"), (1, .class_ 10), (1, u "java/lang/Object")] 113

def k0c0 : Code := { maxStack := 0, maxLocals := 1, code := object_method_1_code, exceptionTable := #[], attributes := #[] }
def k0m0 : Method := { name := "<init>", desc := "()V", sig := { parameters := [], returnType := none }, accessFlags := 1, code := some k0c0 }
/-- java/lang/Object -/
def k0 : Class := { plain "java/lang/Object" none with
  accessFlags := 33
  interfaces := #[]
  cf := some (fileOf pool0 8 #[] #[{ accessFlags := 1, nameIndex := 5, descriptorIndex := 6, attributes := #[] }] 33 0 #[] #[])
  fields := #[]
  methods := #[k0m0]
  instanceTypes := #[]
  staticTypes := #[]
  resolved := Array.replicate 124 none
  statics := none }

def pool1 : Array CpInfo := pool [(2, .class_ 4), (1, u "java/lang/Object"), (0, u "<init>"), (0, u "()V"), (0, .integer 65535), (0, .class_ 9), (0, u "com/example/halyard/halyard/core/mal/TypeId"), (0, .methodref 8 11), (0, .nameAndType 5 12), (0, u "(IIII)V"), (0, .long 16777216), (1, .long 281474976710656), (1, .long 4294967296), (1, .methodref 8 20), (0, .nameAndType 21 22), (0, u "toLong"), (0, u "()J"), (0, .methodref 8 24), (0, .nameAndType 25 26), (0, u "of"), (0, u "(J)Lcom/example/halyard/halyard/core/mal/TypeId;"), (0, .class_ 28), (0, u "com/example/halyard/halyard/core/mal/TypeIdToLongPinLaw"), (2, u "law"), (0, u "(IIIIJ)Z")] 3

def k1m0 : Method := { name := "<init>", desc := "()V", sig := { parameters := [], returnType := none }, accessFlags := 2, code := none }
def k1c1 : Code := { maxStack := 6, maxLocals := 17, code := code, exceptionTable := #[], attributes := #[] }
def k1m1 : Method := { name := "law", desc := "(IIIIJ)Z", sig := { parameters := [.int, .int, .int, .int, .long], returnType := some .boolean }, accessFlags := 9, code := some k1c1 }
/-- com/example/halyard/halyard/core/mal/TypeIdToLongPinLaw -/
def k1 : Class := { plain "com/example/halyard/halyard/core/mal/TypeIdToLongPinLaw" (some 0) with
  accessFlags := 49
  interfaces := #[]
  cf := some (fileOf pool1 27 #[] #[{ accessFlags := 2, nameIndex := 5, descriptorIndex := 6, attributes := #[] }, { accessFlags := 9, nameIndex := 31, descriptorIndex := 32, attributes := #[] }] 49 2 #[] #[])
  fields := #[]
  methods := #[k1m0, k1m1]
  instanceTypes := #[]
  staticTypes := #[]
  resolved := Array.replicate 36 none
  statics := none }

def pool2 : Array CpInfo := pool [(1, .methodref 2 3), (0, .class_ 4), (0, .nameAndType 5 6), (0, u "java/lang/Object"), (0, u "<init>"), (0, u "()V"), (0, .integer 65535), (0, .class_ 9), (0, u "com/example/halyard/halyard/core/mal/TypeId"), (0, .integer 4286578688), (0, .integer 8388607), (9, .fieldref 8 22), (0, .nameAndType 23 24), (0, u "area"), (0, u "I"), (0, .fieldref 8 26), (0, .nameAndType 27 24), (0, u "service"), (0, .fieldref 8 29), (0, .nameAndType 30 24), (0, u "areaVersion"), (0, .fieldref 8 32), (0, .nameAndType 33 24), (0, u "shortFormPart"), (2, .methodref 8 37), (0, .nameAndType 5 38), (0, u "(IIII)V"), (0, .long 16777215), (3, u "toLong"), (0, u "()J"), (27, u "MIN_SHORT_FORM_PART"), (1, u "MAX_SHORT_FORM_PART"), (0, u "SHORT_FORM_BITS"), (4, u "of"), (0, u "(J)Lcom/example/halyard/halyard/core/mal/TypeId;")] 22

def k2c0 : Code := { maxStack := 6, maxLocals := 5, code := prog_48_method_1_code, exceptionTable := #[], attributes := #[] }
def k2m0 : Method := { name := "<init>", desc := "(IIII)V", sig := { parameters := [.int, .int, .int, .int], returnType := none }, accessFlags := 1, code := some k2c0 }
def k2c1 : Code := { maxStack := 7, maxLocals := 2, code := prog_48_method_2_code, exceptionTable := #[], attributes := #[] }
def k2m1 : Method := { name := "of", desc := "(J)Lcom/example/halyard/halyard/core/mal/TypeId;", sig := { parameters := [.long], returnType := some (.object "com/example/halyard/halyard/core/mal/TypeId") }, accessFlags := 9, code := some k2c1 }
def k2c2 : Code := { maxStack := 6, maxLocals := 1, code := prog_48_method_3_code, exceptionTable := #[], attributes := #[] }
def k2m2 : Method := { name := "toLong", desc := "()J", sig := { parameters := [], returnType := some .long }, accessFlags := 1, code := some k2c2 }
/-- com/example/halyard/halyard/core/mal/TypeId -/
def k2 : Class := { plain "com/example/halyard/halyard/core/mal/TypeId" (some 0) with
  accessFlags := 49
  interfaces := #[]
  cf := some (fileOf pool2 8 #[] #[{ accessFlags := 1, nameIndex := 5, descriptorIndex := 38, attributes := #[] }, { accessFlags := 9, nameIndex := 80, descriptorIndex := 81, attributes := #[] }, { accessFlags := 1, nameIndex := 43, descriptorIndex := 44, attributes := #[] }] 49 2 #[] #[{ accessFlags := 25, nameIndex := 72, descriptorIndex := 24, attributes := #[] }, { accessFlags := 25, nameIndex := 74, descriptorIndex := 24, attributes := #[] }, { accessFlags := 26, nameIndex := 75, descriptorIndex := 24, attributes := #[] }, { accessFlags := 18, nameIndex := 23, descriptorIndex := 24, attributes := #[] }, { accessFlags := 18, nameIndex := 27, descriptorIndex := 24, attributes := #[] }, { accessFlags := 18, nameIndex := 30, descriptorIndex := 24, attributes := #[] }, { accessFlags := 18, nameIndex := 33, descriptorIndex := 24, attributes := #[] }])
  fields := #[{ name := "MIN_SHORT_FORM_PART", type := .int, accessFlags := 25, slot := 0, constantValue := 0 }, { name := "MAX_SHORT_FORM_PART", type := .int, accessFlags := 25, slot := 1, constantValue := 0 }, { name := "SHORT_FORM_BITS", type := .int, accessFlags := 26, slot := 2, constantValue := 0 }, { name := "area", type := .int, accessFlags := 18, slot := 0, constantValue := 0 }, { name := "service", type := .int, accessFlags := 18, slot := 1, constantValue := 0 }, { name := "areaVersion", type := .int, accessFlags := 18, slot := 2, constantValue := 0 }, { name := "shortFormPart", type := .int, accessFlags := 18, slot := 3, constantValue := 0 }]
  methods := #[k2m0, k2m1, k2m2]
  instanceTypes := #[.int, .int, .int, .int]
  staticTypes := #[.int, .int, .int]
  resolved := Array.replicate 104 none
  statics := none }

def pool3 : Array CpInfo := pool [(1, u "java/lang/Cloneable"), (0, .class_ 1), (0, u "java/lang/Object"), (0, .class_ 3)] 3

/-- java/lang/Cloneable -/
def k3 : Class := { plain "java/lang/Cloneable" (some 0) with
  accessFlags := 1537
  interfaces := #[]
  cf := some (fileOf pool3 2 #[] #[] 1537 4 #[] #[])
  fields := #[]
  methods := #[]
  instanceTypes := #[]
  staticTypes := #[]
  resolved := Array.replicate 8 none
  statics := none }

def pool4 : Array CpInfo := pool [(1, u "java/io/Serializable"), (0, .class_ 1), (0, u "java/lang/Object"), (0, .class_ 3)] 3

/-- java/io/Serializable -/
def k4 : Class := { plain "java/io/Serializable" (some 0) with
  accessFlags := 1537
  interfaces := #[]
  cf := some (fileOf pool4 2 #[] #[] 1537 4 #[] #[])
  fields := #[]
  methods := #[]
  instanceTypes := #[]
  staticTypes := #[]
  resolved := Array.replicate 8 none
  statics := none }

/-- the primitive byte -/
def k5 : Class := { plain "byte" none with kind := .primitive 'B', accessFlags := 0x411 }
/-- [B -/
def k6 : Class := { plain "[B" (some 0) with kind := .array 5 .byte, interfaces := #[3, 4], accessFlags := 1041 }

def heap : Heap := #[]
def classes : Array Class := #[k0, k1, k2, k3, k4, k5, k6]
def interned : List (Array UInt16 × Addr) := []
def slotsUsed : Nat := 0
def theMethod : MethodId := ⟨1, 1⟩
def args0 : Array Value := #[.int 5, .int 5, .int 5, .int 5, .long 5]
def aboutOver (below : List Frame) : State where
  vm := { classes := classes, interned := interned.toArray }
  heap := heap
  slotsUsed := slotsUsed
  threads := #[{ frames := .invoking theMethod args0 :: below }]
def below0 : List Frame := [.native { method := ⟨0, 0⟩, args := #[] }]
def about1 : State := aboutOver below0
def p0 : Program := .bare "" "" ""
def e0 : Env := launch0.env 0 0 0
theorem w_frames : about1.frames = Frame.invoking theMethod args0 :: below0 := rfl
set_option maxRecDepth 65536 in
theorem w_args : argsFit about1.vm theMethod args0 = true := by decide +kernel
set_option maxRecDepth 65536 in
theorem w_heap : heapFits about1 = true := by decide +kernel
set_option maxRecDepth 65536 in
theorem w_runnable : about1.curStatus? = some .runnable := by decide +kernel
set_option maxRecDepth 65536 in
theorem w_alone : about1.alone = true := by decide +kernel
set_option maxRecDepth 65536 in
theorem w_named : about1.methodNamed? x = some theMethod := by decide +kernel
set_option maxRecDepth 65536 in
theorem w_hears : about1.hears theMethod below0 = true := by decide +kernel
set_option maxRecDepth 65536 in
theorem w_ripe : about1.ripe theMethod args0 below0 = true := by decide +kernel
theorem w_running : about1.status = .running := rfl
set_option maxRecDepth 65536 in
theorem w_room : about1.hasRoom e0.platform room_1 = true :=
  launch0.hasRoom_least _ room_1 (by decide +kernel) (by decide +kernel) (by decide +kernel) (by decide +kernel) (by decide +kernel) (by decide +kernel)
theorem allAtoms_all (ts : List Jvm.Cond) (a : Array Jvm.Value) (st : Jvm.State) : (allAtoms ts).before a st = ts.all (fun c => c.before a st) := by
  induction ts with
  | nil => rfl
  | cons c t ih =>
    show (Jvm.Cond.and c (allAtoms t)).before a st = _
    rw [Jvm.Cond.before_and, ih, List.all_cons]
def words1 : List Jvm.Cond := Jvm.Cond.code x code maxLocals ret :: tables_1
/-- a 'code' word, met by the world's own term for the bytes: nothing is compared byte by byte -/
theorem code_word {y : MethodName} {bytes : ByteArray} {mx : Nat} {rt : Option FieldType} {a : Array Value} {s : State} {m : MethodId} {meth : Method} {c : Code} (h1 : s.methodNamed? y = some m) (h2 : s.vm.method? m = some meth) (h3 : meth.code = some c) (h4 : c.code = bytes)
    (h5 : (c.maxLocals == mx && c.exceptionTable.isEmpty && decide (c.maxStack ≤ mostOperands) && decide (meth.sig.returnType = rt) && !meth.locks && decide (parseMethodDescriptor y.desc = some meth.sig)) = true) : (Jvm.Cond.code y bytes mx rt).before a s = true := by
  simp only [Bool.and_eq_true, beq_iff_eq, Bool.not_eq_true', decide_eq_true_eq] at h5
  obtain ⟨⟨⟨⟨⟨g1, g2⟩, g3⟩, g4⟩, g5⟩, g6⟩ := h5
  simp [Cond.before, Cond.holds, Cond.value, h1, h2, h3, h4, g1, g2, g3, g4, g5, g6]
def isCode : Jvm.Cond → Bool
  | .code _ _ _ _ => true
  | _ => false
theorem all_split {L : List Jvm.Cond} {P : Jvm.Cond → Bool} (h1 : L.all (fun c => isCode c || P c) = true) (h2 : ∀ c ∈ L.filter isCode, P c = true) : L.all P = true := by
  refine List.all_eq_true.mpr fun c hc => ?_
  have h := List.all_eq_true.mp h1 c hc
  rcases Bool.eq_false_or_eq_true (isCode c) with hi | hi
  · exact h2 c (List.mem_filter.mpr ⟨hc, hi⟩)
  · simpa [hi] using h
set_option maxRecDepth 65536 in
theorem w_c0 : (Jvm.Cond.code x code maxLocals ret).before args0 about1 = true := code_word (m := ⟨1, 1⟩) (meth := k1m1) (c := k1c1) (by decide +kernel) rfl rfl rfl (by decide +kernel)
set_option maxRecDepth 65536 in
theorem w_c1 : (Jvm.Cond.code ({ cls := "com/example/halyard/halyard/core/mal/TypeId", name := "<init>", desc := "(IIII)V" } : Jvm.MethodName) prog_48_method_1_code (5 : Nat) (Option.none : Option Jvm.ClassFile.FieldType)).before args0 about1 = true := code_word (m := ⟨2, 0⟩) (meth := k2m0) (c := k2c0) (by decide +kernel) rfl rfl rfl (by decide +kernel)
set_option maxRecDepth 65536 in
theorem w_c2 : (Jvm.Cond.code ({ cls := "java/lang/Object", name := "<init>", desc := "()V" } : Jvm.MethodName) object_method_1_code (1 : Nat) (Option.none : Option Jvm.ClassFile.FieldType)).before args0 about1 = true := code_word (m := ⟨0, 0⟩) (meth := k0m0) (c := k0c0) (by decide +kernel) rfl rfl rfl (by decide +kernel)
set_option maxRecDepth 65536 in
theorem w_c3 : (Jvm.Cond.code ({ cls := "com/example/halyard/halyard/core/mal/TypeId", name := "toLong", desc := "()J" } : Jvm.MethodName) prog_48_method_3_code (1 : Nat) (Option.some Jvm.ClassFile.FieldType.long)).before args0 about1 = true := code_word (m := ⟨2, 2⟩) (meth := k2m2) (c := k2c2) (by decide +kernel) rfl rfl rfl (by decide +kernel)
set_option maxRecDepth 65536 in
theorem w_c4 : (Jvm.Cond.code ({ cls := "com/example/halyard/halyard/core/mal/TypeId", name := "of", desc := "(J)Lcom/example/halyard/halyard/core/mal/TypeId;" } : Jvm.MethodName) prog_48_method_2_code (2 : Nat) (Option.some (Jvm.ClassFile.FieldType.object "com/example/halyard/halyard/core/mal/TypeId"))).before args0 about1 = true := code_word (m := ⟨2, 1⟩) (meth := k2m1) (c := k2c1) (by decide +kernel) rfl rfl rfl (by decide +kernel)
def codes1 : List Jvm.Cond := [Jvm.Cond.code x code maxLocals ret, Jvm.Cond.code ({ cls := "com/example/halyard/halyard/core/mal/TypeId", name := "<init>", desc := "(IIII)V" } : Jvm.MethodName) prog_48_method_1_code (5 : Nat) (Option.none : Option Jvm.ClassFile.FieldType), Jvm.Cond.code ({ cls := "java/lang/Object", name := "<init>", desc := "()V" } : Jvm.MethodName) object_method_1_code (1 : Nat) (Option.none : Option Jvm.ClassFile.FieldType), Jvm.Cond.code ({ cls := "com/example/halyard/halyard/core/mal/TypeId", name := "toLong", desc := "()J" } : Jvm.MethodName) prog_48_method_3_code (1 : Nat) (Option.some Jvm.ClassFile.FieldType.long), Jvm.Cond.code ({ cls := "com/example/halyard/halyard/core/mal/TypeId", name := "of", desc := "(J)Lcom/example/halyard/halyard/core/mal/TypeId;" } : Jvm.MethodName) prog_48_method_2_code (2 : Nat) (Option.some (Jvm.ClassFile.FieldType.object "com/example/halyard/halyard/core/mal/TypeId"))]
set_option maxRecDepth 65536 in
theorem codes_eq : words1.filter isCode = codes1 := rfl
theorem w_codes : ∀ c ∈ words1.filter isCode, c.before args0 about1 = true := by
  rw [codes_eq]
  intro c hc
  simp only [codes1, List.mem_cons, List.not_mem_nil, or_false] at hc
  rcases hc with rfl | rfl | rfl | rfl | rfl
  · exact w_c0
  · exact w_c1
  · exact w_c2
  · exact w_c3
  · exact w_c4
set_option maxRecDepth 65536 in
theorem w_t1 : (words1.take 24).all (fun c => isCode c || c.before args0 about1) = true := by decide +kernel
set_option maxRecDepth 65536 in
theorem w_t2 : (words1.drop 24).all (fun c => isCode c || c.before args0 about1) = true := by decide +kernel
theorem w_tables : (allAtoms (Jvm.Cond.code x code maxLocals ret :: tables_1)).before args0 about1 = true := by
  rw [allAtoms_all]
  show words1.all (fun c => c.before args0 about1) = true
  refine all_split ?_ w_codes
  rw [← List.take_append_drop 24 words1, List.all_append, w_t1, w_t2]
  rfl
set_option maxRecDepth 65536 in
theorem w_case : (Jvm.Cond.and given_1 narrow_1).before args0 about1 = true := by decide +kernel
theorem w_applies : (headSpec (Jvm.Cond.code x code maxLocals ret :: tables_1) room_1).applies x e0.platform about1 = true :=
  (Spec.applies_iff w_frames).mpr ⟨w_running, w_runnable, w_alone, w_named, w_hears, w_ripe, w_room, w_tables⟩
theorem atStart : AtStart classFile x code maxLocals ret World_1 tables_1 room_1 Calls_1 rest_1 Pre_1 launch0 p0 e0 about1 theMethod args0 below0 :=
  ⟨lists_1, trivial, launch0.admits_env _ _ _, launch0.least_env, fairChoices_fair.cas, fairChoices_fair.clock, w_frames, w_args, w_heap, w_applies, trivial, trivial, w_case⟩
end start1
theorem witness_1 : WitnessClaimed_1 := ⟨start1.p0, start1.e0, start1.about1, start1.theMethod, start1.args0, start1.below0, start1.atStart⟩
end Jvm.Pilot.@@N@@
