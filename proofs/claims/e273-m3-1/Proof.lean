import JvmDerived
import JvmDerived.Pilot.@@N@@Statement
import JvmDerived.Pilot.@@N@@Code
set_option linter.unusedVariables false
set_option linter.unusedSimpArgs false
/- laws to paste: Road.backV, Road.codOf (cut by pick.py; bodies as the Statement names them) -/
namespace Jvm.Pilot.@@N@@
namespace StrChars
open Jvm Sem ClassFile Op Lib Jvm.Stand Jvm.Free.XT Jvm.Free.ALB Jvm.Free.JM Jvm.Free
open Jvm.Lib.Cold (StaticIs)
/-- a char array whose places are chars -/
def Ch (a : Addr) (A : Cell) (U : State) : Prop := Arr .char a A U ∧ Typed .char A
theorem Ch.mv {a : Addr} {A : Cell} {U U' : State} (h : Ch a A U) (hal : U.vm.Alike U'.vm) (hh : U'.heap = U.heap) : Ch a A U' := ⟨h.1.mv hal hh, h.2⟩
theorem Ch.keep {a : Addr} {A : Cell} {U U' : State} (h : Ch a A U) (hal : U.vm.Alike U'.vm) (hk : U'.heap[a]? = some A) : Ch a A U' := ⟨h.1.keep hal hk, h.2⟩
/-- what place i of a char[]'s cell holds -/
def cv (A : Cell) (i : Nat) : Int32 := match A.slots[i]? with | some (.int x) => x | _ => 0
theorem Ch.get {a : Addr} {A : Cell} {U : State} (h : Ch a A U) {i : Nat} (hi : i < A.slots.size) : A.slots[i]? = some (.int (cv A i)) := by
  have e := Array.getElem?_eq_getElem hi
  have f := h.2 i _ e
  unfold cv; rw [e]
  generalize A.slots[i] = v at f
  cases v <;> simp [fits] at f ⊢
/-- the byte that i2b leaves of a char -/
def lo8 (x : Int32) : Int32 := x.toInt8.toInt32
theorem fits_lo8 (y : Int32) : fits .byte (.int (lo8 y)) = true := by
  have h1 := y.toInt8.le_toInt
  have h2 := y.toInt8.toInt_lt
  simp only [lo8, fits, Bool.and_eq_true, decide_eq_true_eq, Int32.le_iff_toInt_le, Int8.toInt_toInt32, show (-128 : Int32).toInt = -128 from by decide, show (127 : Int32).toInt = 127 from by decide]
  omega
/-- A' is A but that each place j of lo .. hi - 1 holds f j -/
def Laid (A A' : Cell) (lo hi : Nat) (f : Nat → Value) : Prop := A'.cls = A.cls ∧ A'.vm = A.vm ∧ A'.slots.size = A.slots.size ∧ ∀ i, A'.slots[i]? = if lo ≤ i ∧ i < hi then some (f i) else A.slots[i]?
theorem Laid.zero (A : Cell) (lo : Nat) (f : Nat → Value) : Laid A A lo (lo + 0) f := ⟨rfl, rfl, rfl, fun i => by rw [if_neg (by omega)]⟩
theorem Laid.step {A Ak : Cell} {lo k : Nat} {f : Nat → Value} {v : Value} (h : Laid A Ak lo k f) (hlo : lo ≤ k) (hk : k < Ak.slots.size) (hv : v = f k) : Laid A (Ak.setSlot k v) lo (k + 1) f := by
  refine ⟨h.1, h.2.1, by simpa [Cell.setSlot] using h.2.2.1, fun i => ?_⟩
  by_cases e : k = i
  · subst e; rw [Cell.slots_setSlot_self v hk, if_pos (by omega), hv]
  · rw [Cell.slots_setSlot_ne v e, h.2.2.2 i]
    by_cases q : lo ≤ i ∧ i < k
    · rw [if_pos q, if_pos (by omega)]
    · rw [if_neg q, if_neg (by omega)]
def U16 : String := "java/lang/StringUTF16"
namespace Cmp5
def yN : MethodName := ⟨"java/lang/StringUTF16", "compress", "([CI[BII)I"⟩
abbrev yB : ByteArray := jdk_52_method_21_code
theorem d0 : decode yB 0 = .ok (.iconst 0, 1) := by decide +kernel
theorem d1 : decode yB 1 = .ok (.istore 5, 2) := by decide +kernel
theorem d3 : decode yB 3 = .ok (.iload 5, 2) := by decide +kernel
theorem d5 : decode yB 5 = .ok (.iload 4, 2) := by decide +kernel
theorem d7 : decode yB 7 = .ok (.if_icmp (.ge) 37, 3) := by decide +kernel
theorem d10 : decode yB 10 = .ok (.aload_n 0, 1) := by decide +kernel
theorem d11 : decode yB 11 = .ok (.iload_n 1, 1) := by decide +kernel
theorem d12 : decode yB 12 = .ok (.caload, 1) := by decide +kernel
theorem d13 : decode yB 13 = .ok (.istore 6, 2) := by decide +kernel
theorem d15 : decode yB 15 = .ok (.iload 6, 2) := by decide +kernel
theorem d17 : decode yB 17 = .ok (.sipush 255, 3) := by decide +kernel
theorem d20 : decode yB 20 = .ok (.if_icmp (.le) 6, 3) := by decide +kernel
theorem d26 : decode yB 26 = .ok (.aload_n 2, 1) := by decide +kernel
theorem d27 : decode yB 27 = .ok (.iload_n 3, 1) := by decide +kernel
theorem d28 : decode yB 28 = .ok (.iload 6, 2) := by decide +kernel
theorem d30 : decode yB 30 = .ok (.i2b, 1) := by decide +kernel
theorem d31 : decode yB 31 = .ok (.bastore, 1) := by decide +kernel
theorem d32 : decode yB 32 = .ok (.iinc 1 1, 3) := by decide +kernel
theorem d35 : decode yB 35 = .ok (.iinc 3 1, 3) := by decide +kernel
theorem d38 : decode yB 38 = .ok (.iinc 5 1, 3) := by decide +kernel
theorem d41 : decode yB 41 = .ok (.goto (-38), 3) := by decide +kernel
theorem d44 : decode yB 44 = .ok (.iload 4, 2) := by decide +kernel
theorem d46 : decode yB 46 = .ok (.ireturn, 1) := by decide +kernel
def site : List Cond := []
def tab : Cond := tabOf yN yB 7 (some .int) site
def P (b : Addr) (A : Cell) (d : Addr) (B : Cell) (o q len : Nat) (args : Array Value) (s : State) : Prop := args = #[.ref b, .int (Int32.ofNat o), .ref d, .int (Int32.ofNat q), .int (Int32.ofNat len)] ∧ Ch b A s ∧ Arr .byte d B s ∧ b ≠ d ∧ o + len ≤ A.slots.size ∧ q + len ≤ B.slots.size ∧ ∀ i, i < len → ¬ 255 < cv A (o + i)
def E (b : Addr) (A : Cell) (d : Addr) (B : Cell) (o q len : Nat) (r : Option Value) (s u : State) : Prop := r = some (.int (Int32.ofNat len)) ∧ ∃ B', Put d B' s u ∧ Laid B B' q (q + len) (fun j => Value.int (lo8 (cv A (o + (j - q)))))
/-- no char of the range above 255: len; the places written hold each char's low byte -/
theorem law (l : Launch) (b : Addr) (A : Cell) (d : Addr) (B : Cell) (o q len : Nat) : Law l yN 5 5 0 0 yB 7 (some .int) site (P b A d B o q len) (E b A d B o q len) (copyLocs d q len) 0 0 := by
  refine Law.of_walk (plainFor_of_name (by decide +kernel)) (by decide +kernel) (by decide +kernel) (by decide) (fun _ _ h => by rw [h.1]; rfl) (fun _ U U' hal hh h => ⟨h.1, h.2.1.mv hal hh, h.2.2.1.mv hal hh, h.2.2.2⟩) (fun r U U' V V' h1 hal h2 h => ⟨h.1, h.2.elim fun B' q => ⟨B', q.1.mv h1 h2, q.2⟩⟩) ?_
  intro p e s m args below meth c s₁ X0 hexec hbytes hml hret hlk hnm hown hh0 W hP
  obtain ⟨rfl, hA, hB, hne, l1, l2, hp⟩ := hP
  have c1 : Steps p.tables e below (s₁.setTop (entryFrame m #[.ref b, .int (Int32.ofNat o), .ref d, .int (Int32.ofNat q), .int (Int32.ofNat len)] 7)) (s₁.setTop (mkF m 0 #[.val (.ref b), .val (.int (Int32.ofNat o)), .val (.ref d), .val (.int (Int32.ofNat q)), .val (.int (Int32.ofNat len)), .unset, .unset] [])) := entry rfl
  have hA0 := hA.1.mv X0.warmed.alike hh0
  have hB0 := hB.mv X0.warmed.alike hh0
  have a31 := hA.1.2.2.2
  have c2 : Steps p.tables e below (s₁.setTop (entryFrame m #[.ref b, .int (Int32.ofNat o), .ref d, .int (Int32.ofNat q), .int (Int32.ofNat len)] 7)) (s₁.setTop (mkF m 3 #[.val (.ref b), .val (.int (Int32.ofNat o)), .val (.ref d), .val (.int (Int32.ofNat q)), .val (.int (Int32.ofNat len)), .val (.int 0), .unset] [])) := c1.trans (by
    refine iconstV X0.here hexec rfl 0 (hb hbytes d0) (by decide) ?_
    refine XS.istore X0.here hexec rfl (hb hbytes d1) rfl rfl ?_
    exact Steps.refl _)
  have loop : ∀ (r i : Nat), i + r = len → ∀ (z : Slot), (z = .unset ∨ ∃ w, z = .val w ∧ w.category = 1) → ∀ (Tl : State) (Bk : Cell), Stand p l e { frames := 0, locals := 0, cells := 0, slots := 0 } s m #[.ref b, .int (Int32.ofNat o), .ref d, .int (Int32.ofNat q), .int (Int32.ofNat len)] below meth c Tl ([] ++ copyLocs d q i) 0 0 → Put d Bk s₁ Tl → Laid B Bk q (q + i) (fun j => Value.int (lo8 (cv A (o + (j - q))))) →
      Steps p.tables e below (s₁.setTop (entryFrame m #[.ref b, .int (Int32.ofNat o), .ref d, .int (Int32.ofNat q), .int (Int32.ofNat len)] 7)) (Tl.setTop (mkF m 3 #[.val (.ref b), .val (.int (Int32.ofNat (o + i))), .val (.ref d), .val (.int (Int32.ofNat (q + i))), .val (.int (Int32.ofNat len)), .val (.int (Int32.ofNat i)), z] [])) → ∃ (T' : State) (B' : Cell) (z' : Slot), Stand p l e { frames := 0, locals := 0, cells := 0, slots := 0 } s m #[.ref b, .int (Int32.ofNat o), .ref d, .int (Int32.ofNat q), .int (Int32.ofNat len)] below meth c T' ([] ++ copyLocs d q len) 0 0 ∧ Put d B' s₁ T' ∧ Laid B B' q (q + len) (fun j => Value.int (lo8 (cv A (o + (j - q))))) ∧
      Steps p.tables e below (s₁.setTop (entryFrame m #[.ref b, .int (Int32.ofNat o), .ref d, .int (Int32.ofNat q), .int (Int32.ofNat len)] 7)) (T'.setTop (mkF m 3 #[.val (.ref b), .val (.int (Int32.ofNat (o + len))), .val (.ref d), .val (.int (Int32.ofNat (q + len))), .val (.int (Int32.ofNat len)), .val (.int (Int32.ofNat len)), z'] [])) := by
    intro r
    induction r with
    | zero =>
      intro i hi z hz Tl Bk Xl pl fl cl
      have hil : i = len := by omega
      rw [hil] at Xl fl cl
      exact ⟨Tl, Bk, z, Xl, pl, fl, cl⟩
    | succ r ih =>
      intro i hi z hz Tl Bk Xl pl fl cl
      have all := X0.warmed.alike.symm.trans Xl.warmed.alike
      have hAl := hA0.keep all (pl.other hne hA0.1)
      have hBk := hB0.like all pl.1 fl.1 fl.2.1 fl.2.2.1
      have hlt : q + i < Bk.slots.size := by rw [fl.2.2.1]; omega
      have c3 : Steps p.tables e below (s₁.setTop (entryFrame m #[.ref b, .int (Int32.ofNat o), .ref d, .int (Int32.ofNat q), .int (Int32.ofNat len)] 7)) (Tl.setTop (mkF m 12 #[.val (.ref b), .val (.int (Int32.ofNat (o + i))), .val (.ref d), .val (.int (Int32.ofNat (q + i))), .val (.int (Int32.ofNat len)), .val (.int (Int32.ofNat i)), z] [.int (Int32.ofNat (o + i)), .ref b])) := cl.trans (by
        refine XS.iload Xl.here hexec rfl (hb hbytes d3) rfl ?_
        refine XS.iload Xl.here hexec rfl (hb hbytes d5) rfl ?_
        refine XS.icmpNo Xl.here hexec rfl (hb hbytes d7) rfl (ii_ge_f (lt32 (by omega) (by omega))) ?_
        refine XS.aloadN Xl.here hexec rfl (hb hbytes d10) rfl rfl ?_
        refine XS.iloadN Xl.here hexec rfl (hb hbytes d11) rfl ?_
        exact Steps.refl _)
      have c4 : Steps p.tables e below (s₁.setTop (entryFrame m #[.ref b, .int (Int32.ofNat o), .ref d, .int (Int32.ofNat q), .int (Int32.ofNat len)] 7)) (Tl.setTop (mkF m 13 #[.val (.ref b), .val (.int (Int32.ofNat (o + i))), .val (.ref d), .val (.int (Int32.ofNat (q + i))), .val (.int (Int32.ofNat len)), .val (.int (Int32.ofNat i)), z] [.int (cv A (o + i))])) := c3.trans (by
        refine Xl.aget hexec hAl rfl (hA.get (i := o + i) (by omega)) rfl rfl (hb hbytes d12) ?_
        exact Steps.refl _)
      have c5 : Steps p.tables e below (s₁.setTop (entryFrame m #[.ref b, .int (Int32.ofNat o), .ref d, .int (Int32.ofNat q), .int (Int32.ofNat len)] 7)) (Tl.setTop (mkF m 15 #[.val (.ref b), .val (.int (Int32.ofNat (o + i))), .val (.ref d), .val (.int (Int32.ofNat (q + i))), .val (.int (Int32.ofNat len)), .val (.int (Int32.ofNat i)), .val (.int (cv A (o + i)))] [])) := c4.trans (by
        refine XS.istoreS Xl.here hexec rfl (hb hbytes d13) rfl rfl hz ?_
        exact Steps.refl _)
      have c6 : Steps p.tables e below (s₁.setTop (entryFrame m #[.ref b, .int (Int32.ofNat o), .ref d, .int (Int32.ofNat q), .int (Int32.ofNat len)] 7)) (Tl.setTop (mkF m 31 #[.val (.ref b), .val (.int (Int32.ofNat (o + i))), .val (.ref d), .val (.int (Int32.ofNat (q + i))), .val (.int (Int32.ofNat len)), .val (.int (Int32.ofNat i)), .val (.int (cv A (o + i)))] [.int (lo8 (cv A (o + i))), .int (Int32.ofNat (q + i)), .ref d])) := c5.trans (by
        refine XS.iload Xl.here hexec rfl (hb hbytes d15) rfl ?_
        refine sipushV Xl.here hexec rfl 255 (hb hbytes d17) (by decide) ?_
        refine XS.icmpYes Xl.here hexec rfl (pc0 := 20) rfl (hb hbytes d20) rfl (ii_le_t (hp i (by omega))) (by decide) rfl ?_
        refine XS.aloadN Xl.here hexec rfl (hb hbytes d26) rfl rfl ?_
        refine XS.iloadN Xl.here hexec rfl (hb hbytes d27) rfl ?_
        refine XS.iload Xl.here hexec rfl (hb hbytes d28) rfl ?_
        refine i2b Xl.here hexec rfl (hb hbytes d30) rfl ?_
        exact Steps.refl _)
      obtain ⟨T7, X7, p7, st7⟩ := Xl.aput hexec hBk rfl hlt rfl (fits_lo8 (cv A (o + i))) (g := (mkF m 31 #[.val (.ref b), .val (.int (Int32.ofNat (o + i))), .val (.ref d), .val (.int (Int32.ofNat (q + i))), .val (.int (Int32.ofNat len)), .val (.int (Int32.ofNat i)), .val (.int (cv A (o + i)))] [.int (lo8 (cv A (o + i))), .int (Int32.ofNat (q + i)), .ref d])) rfl (rest := []) rfl (hb hbytes d31)
      have c8 : Steps p.tables e below (s₁.setTop (entryFrame m #[.ref b, .int (Int32.ofNat o), .ref d, .int (Int32.ofNat q), .int (Int32.ofNat len)] 7)) (T7.setTop (mkF m 32 #[.val (.ref b), .val (.int (Int32.ofNat (o + i))), .val (.ref d), .val (.int (Int32.ofNat (q + i))), .val (.int (Int32.ofNat len)), .val (.int (Int32.ofNat i)), .val (.int (cv A (o + i)))] [])) := c6.trans (st7 _ (Steps.refl _))
      have c9 : Steps p.tables e below (s₁.setTop (entryFrame m #[.ref b, .int (Int32.ofNat o), .ref d, .int (Int32.ofNat q), .int (Int32.ofNat len)] 7)) (T7.setTop (mkF m 3 #[.val (.ref b), .val (.int (Int32.ofNat (o + i) + 1)), .val (.ref d), .val (.int (Int32.ofNat (q + i) + 1)), .val (.int (Int32.ofNat len)), .val (.int (Int32.ofNat i + 1)), .val (.int (cv A (o + i)))] [])) := c8.trans (by
        refine iincV X7.here hexec rfl 1 (hb hbytes d32) (by decide) rfl rfl ?_
        refine iincV X7.here hexec rfl 1 (hb hbytes d35) (by decide) rfl rfl ?_
        refine iincV X7.here hexec rfl 1 (hb hbytes d38) (by decide) rfl rfl ?_
        refine XS.goto X7.here hexec rfl (pc0 := 41) rfl (hb hbytes d41) (by decide) rfl ?_
        exact Steps.refl _)
      have c10 : Steps p.tables e below (s₁.setTop (entryFrame m #[.ref b, .int (Int32.ofNat o), .ref d, .int (Int32.ofNat q), .int (Int32.ofNat len)] 7)) (T7.setTop (mkF m 3 #[.val (.ref b), .val (.int (Int32.ofNat (o + (i + 1)))), .val (.ref d), .val (.int (Int32.ofNat (q + (i + 1)))), .val (.int (Int32.ofNat len)), .val (.int (Int32.ofNat (i + 1))), .val (.int (cv A (o + i)))] [])) := by
        have := c9
        rw [succ32, succ32, succ32] at this
        exact this
      exact ih (i + 1) (by omega) _ (Or.inr ⟨_, rfl, rfl⟩) T7 _ (by rw [copyLocs_step, ← List.append_assoc]; exact X7) (pl.trans p7) (fl.step (by omega) hlt (by simp)) c10
  obtain ⟨T9, B9, z9, X9, p9, f9, g9⟩ := loop len 0 (by omega) .unset (Or.inl rfl) s₁ B (by simpa [copyLocs] using X0) ⟨hB0.1, fun _ _ => rfl, rfl⟩ (Laid.zero _ _ _) c2
  have c11 : Steps p.tables e below (s₁.setTop (entryFrame m #[.ref b, .int (Int32.ofNat o), .ref d, .int (Int32.ofNat q), .int (Int32.ofNat len)] 7)) (T9.setTop (mkF m 46 #[.val (.ref b), .val (.int (Int32.ofNat (o + len))), .val (.ref d), .val (.int (Int32.ofNat (q + len))), .val (.int (Int32.ofNat len)), .val (.int (Int32.ofNat len)), z9] [.int (Int32.ofNat len)])) := g9.trans (by
    refine XS.iload X9.here hexec rfl (hb hbytes d3) rfl ?_
    refine XS.iload X9.here hexec rfl (hb hbytes d5) rfl ?_
    refine XS.icmpYes X9.here hexec rfl (pc0 := 7) rfl (hb hbytes d7) rfl (ii_ge_t (nlt32 (by omega) (Nat.le_refl _))) (by decide) rfl ?_
    refine XS.iload X9.here hexec rfl (hb hbytes d44) rfl ?_
    exact Steps.refl _)
  exact ⟨T9, some (.int (Int32.ofNat len)), _, _, _, X9, by simp, rfl, rfl, (fun h => by cases h), ⟨rfl, B9, p9.from hh0, f9⟩, fun fs hl => c11.trans (X9.ireturnOut hexec hret rfl (Or.inl rfl) (hb hbytes d46) hl)⟩
end Cmp5
namespace Cmp3
def yN : MethodName := ⟨"java/lang/StringUTF16", "compress", "([CII)[B"⟩
abbrev yB : ByteArray := jdk_52_method_16_code
theorem d0 : decode yB 0 = .ok (.iload_n 2, 1) := by decide +kernel
theorem d1 : decode yB 1 = .ok (.newarray .byte, 2) := by decide +kernel
theorem d3 : decode yB 3 = .ok (.astore_n 3, 1) := by decide +kernel
theorem d4 : decode yB 4 = .ok (.aload_n 0, 1) := by decide +kernel
theorem d5 : decode yB 5 = .ok (.iload_n 1, 1) := by decide +kernel
theorem d6 : decode yB 6 = .ok (.aload_n 3, 1) := by decide +kernel
theorem d7 : decode yB 7 = .ok (.iconst 0, 1) := by decide +kernel
theorem d8 : decode yB 8 = .ok (.iload_n 2, 1) := by decide +kernel
theorem d9 : decode yB 9 = .ok (.invokestatic 115, 3) := by decide +kernel
theorem d12 : decode yB 12 = .ok (.istore 4, 2) := by decide +kernel
theorem d14 : decode yB 14 = .ok (.iload 4, 2) := by decide +kernel
theorem d16 : decode yB 16 = .ok (.iload_n 2, 1) := by decide +kernel
theorem d17 : decode yB 17 = .ok (.if_icmp (.eq) 40, 3) := by decide +kernel
theorem d57 : decode yB 57 = .ok (.aload_n 3, 1) := by decide +kernel
theorem d58 : decode yB 58 = .ok (.areturn, 1) := by decide +kernel
def site : List Cond := [.arrayClass .byte, Cmp5.tab] ++ staticW U16 115 Cmp5.yN
def tab : Cond := tabOf yN yB 6 (some (.array .byte)) site
def P (b : Addr) (A : Cell) (o len : Nat) (args : Array Value) (s : State) : Prop := args = #[.ref b, .int (Int32.ofNat o), .int (Int32.ofNat len)] ∧ Ch b A s ∧ o + len ≤ A.slots.size ∧ len ≤ 536870912 ∧ ∀ i, i < len → ¬ 255 < cv A (o + i)
def E (b : Addr) (A : Cell) (o len : Nat) (r : Option Value) (s u : State) : Prop := NewArr .byte "[B" len (fun j => .int (lo8 (cv A (o + j)))) r s u ∧ u.heap.size = s.heap.size + 1
/-- no char of the range above 255: a new byte[] of their low bytes -/
theorem law (l : Launch) (b : Addr) (A : Cell) (o len : Nat) : Law l yN 3 3 1 18 yB 6 (some (.array .byte)) site (P b A o len) (E b A o len) [] 1 len := by
  refine Law.of_walk (plainFor_of_name (by decide +kernel)) (by decide +kernel) (by decide +kernel) (by decide) (fun _ _ h => by rw [h.1]; rfl) (fun _ U U' hal hh h => ⟨h.1, h.2.1.mv hal hh, h.2.2⟩) (fun r U U' V V' h1 hal h2 h => ⟨NewArr.mv r U U' V V' h1 hal h2 h.1, by rw [h1, h2]; exact h.2⟩) ?_
  intro p e s m args below meth c s₁ X0 hexec hbytes hml hret hlk hnm hown hh0 W hP
  obtain ⟨rfl, hA, l1, l2, hp⟩ := hP
  have a31 := hA.1.2.2.2
  have c1 : Steps p.tables e below (s₁.setTop (entryFrame m #[.ref b, .int (Int32.ofNat o), .int (Int32.ofNat len)] 6)) (s₁.setTop (mkF m 0 #[.val (.ref b), .val (.int (Int32.ofNat o)), .val (.int (Int32.ofNat len)), .unset, .unset, .unset] [])) := entry rfl
  have c2 : Steps p.tables e below (s₁.setTop (entryFrame m #[.ref b, .int (Int32.ofNat o), .int (Int32.ofNat len)] 6)) (s₁.setTop (mkF m 1 #[.val (.ref b), .val (.int (Int32.ofNat o)), .val (.int (Int32.ofNat len)), .unset, .unset, .unset] [.int (Int32.ofNat len)])) := c1.trans (by
    refine XS.iloadN X0.here hexec rfl (hb hbytes d0) rfl ?_
    exact Steps.refl _)
  obtain ⟨T3, B3, X3, ba3, bs3, bv3, bh3, bf3, st3⟩ := X0.anew hexec (atype := .byte) (wk W (.arrayClass .byte)) rfl (by show len * 1 ≤ _; omega) (by omega) (g := (mkF m 1 #[.val (.ref b), .val (.int (Int32.ofNat o)), .val (.int (Int32.ofNat len)), .unset, .unset, .unset] [.int (Int32.ofNat len)])) rfl (hb hbytes d1) (rest := []) rfl (Nat.le_refl _) (by show 0 + len ≤ len; omega)
  rw [hh0] at ba3 st3
  have kp3 : XT.Kept s T3 := (XT.Kept.of_eq hh0).push bh3
  have hA3 := hA.keep X3.warmed.alike (kp3 _ _ hA.1.1)
  have hne : b ≠ s.heap.size := hA.1.ne
  have c4 : Steps p.tables e below (s₁.setTop (entryFrame m #[.ref b, .int (Int32.ofNat o), .int (Int32.ofNat len)] 6)) (T3.setTop (mkF m 3 #[.val (.ref b), .val (.int (Int32.ofNat o)), .val (.int (Int32.ofNat len)), .unset, .unset, .unset] [.ref s.heap.size])) := c2.trans (st3 _ (Steps.refl _))
  have c5 : Steps p.tables e below (s₁.setTop (entryFrame m #[.ref b, .int (Int32.ofNat o), .int (Int32.ofNat len)] 6)) (T3.setTop (mkF m 9 #[.val (.ref b), .val (.int (Int32.ofNat o)), .val (.int (Int32.ofNat len)), .val (.ref s.heap.size), .unset, .unset] [.int (Int32.ofNat len), .int 0, .ref s.heap.size, .int (Int32.ofNat o), .ref b])) := c4.trans (by
    refine XS.astoreN X3.here hexec rfl (hb hbytes d3) rfl rfl rfl ?_
    refine XS.aloadN X3.here hexec rfl (hb hbytes d4) rfl rfl ?_
    refine XS.iloadN X3.here hexec rfl (hb hbytes d5) rfl ?_
    refine XS.aloadN X3.here hexec rfl (hb hbytes d6) rfl rfl ?_
    refine iconstV X3.here hexec rfl 0 (hb hbytes d7) (by decide) ?_
    refine XS.iloadN X3.here hexec rfl (hb hbytes d8) rfl ?_
    exact Steps.refl _)
  obtain ⟨v6, T6, X6, E6, g6⟩ := X3.callS hexec (Cmp5.law l b A s.heap.size B3 o 0 len) hown (wks W (staticW U16 115 Cmp5.yN)) (wk W Cmp5.tab) (W := 0) (Nat.le_of_ble_eq_true rfl) (Nat.le_of_ble_eq_true rfl) (Nat.le_refl _) (by show 0 + len + 0 ≤ len; omega) (g := (mkF m 9 #[.val (.ref b), .val (.int (Int32.ofNat o)), .val (.int (Int32.ofNat len)), .val (.ref s.heap.size), .unset, .unset] [.int (Int32.ofNat len), .int (Int32.ofNat 0), .ref s.heap.size, .int (Int32.ofNat o), .ref b])) rfl (by rw [hml]; rfl) c5 (argsL := [.ref b, .int (Int32.ofNat o), .ref s.heap.size, .int (Int32.ofNat 0), .int (Int32.ofNat len)]) (rest := []) rfl rfl (by show 2 * 0 + 0 ≤ _; decide) (hb hbytes d9) (⟨rfl, hA3, ba3, hne, l1, by rw [bs3]; simp, hp⟩)
  obtain ⟨rfl, B6, p6, f6⟩ := E6
  have c7 : Steps p.tables e below (s₁.setTop (entryFrame m #[.ref b, .int (Int32.ofNat o), .int (Int32.ofNat len)] 6)) (T6.setTop (mkF m 12 #[.val (.ref b), .val (.int (Int32.ofNat o)), .val (.int (Int32.ofNat len)), .val (.ref s.heap.size), .unset, .unset] [.int (Int32.ofNat len)])) := g6
  have c8 : Steps p.tables e below (s₁.setTop (entryFrame m #[.ref b, .int (Int32.ofNat o), .int (Int32.ofNat len)] 6)) (T6.setTop (mkF m 58 #[.val (.ref b), .val (.int (Int32.ofNat o)), .val (.int (Int32.ofNat len)), .val (.ref s.heap.size), .val (.int (Int32.ofNat len)), .unset] [.ref s.heap.size])) := c7.trans (by
    refine XS.istore X6.here hexec rfl (hb hbytes d12) rfl rfl ?_
    refine XS.iload X6.here hexec rfl (hb hbytes d14) rfl ?_
    refine XS.iloadN X6.here hexec rfl (hb hbytes d16) rfl ?_
    refine XS.icmpYes X6.here hexec rfl (pc0 := 17) rfl (hb hbytes d17) rfl (ii_eq_t rfl) (by decide) rfl ?_
    refine XS.aloadN X6.here hexec rfl (hb hbytes d57) rfl rfl ?_
    exact Steps.refl _)
  have X8 := X6.wide (L' := []) (cells' := 1) (slots' := len) (fun x hx hlt => by
    simp only [List.nil_append, copyLocs, List.mem_map, List.mem_range] at hx
    obtain ⟨i, -, rfl⟩ := hx
    exact absurd hlt (Nat.lt_irrefl _)) (Nat.le_refl _) (by omega)
  exact ⟨T6, some (.ref s.heap.size), _, _, _, X8, rfl, rfl, rfl, (fun h => by cases h), ⟨⟨rfl, B6, ba3.like (X3.warmed.alike.symm.trans X6.warmed.alike) p6.1 f6.1 f6.2.1 f6.2.2.1, f6.2.1.trans bv3, by rw [X6.warmed.alike.findClass, f6.1]; exact bf3, by rw [f6.2.2.1, bs3]; simp, fun j hj => by rw [f6.2.2.2 j, if_pos (by omega)]; rfl, kp3.put p6 (Nat.le_refl _)⟩, by rw [p6.2.2, bh3, hh0]; simp⟩, fun fs hl => c8.trans (X8.areturnOut hexec rfl hret rfl (hb hbytes d58) hl)⟩
end Cmp3
namespace CodL
def yN : MethodName := ⟨"java/lang/StringUTF16", "coderFromArrayLen", "([BI)B"⟩
abbrev yB : ByteArray := jdk_52_method_15_code
theorem d0 : decode yB 0 = .ok (.iload_n 1, 1) := by decide +kernel
theorem d1 : decode yB 1 = .ok (.aload_n 0, 1) := by decide +kernel
theorem d2 : decode yB 2 = .ok (.arraylength, 1) := by decide +kernel
theorem d3 : decode yB 3 = .ok (.isub, 1) := by decide +kernel
theorem d4 : decode yB 4 = .ok (.bipush 31, 2) := by decide +kernel
theorem d6 : decode yB 6 = .ok (.iushr, 1) := by decide +kernel
theorem d7 : decode yB 7 = .ok (.i2b, 1) := by decide +kernel
theorem d8 : decode yB 8 = .ok (.ireturn, 1) := by decide +kernel
def site : List Cond := []
def tab : Cond := tabOf yN yB 2 (some .byte) site
def P (d : Addr) (B : Cell) (args : Array Value) (s : State) : Prop := args = #[.ref d, .int (Int32.ofNat B.slots.size)] ∧ Arr .byte d B s
def E (r : Option Value) (s u : State) : Prop := XT.PureE (some (.int 0)) r s u
/-- an array as long as the number of chars: LATIN1 -/
theorem law (l : Launch) (d : Addr) (B : Cell) : Law l yN 2 2 0 0 yB 2 (some .byte) site (P d B) E [] 0 0 := by
  refine Law.of_walk (plainFor_of_name (by decide +kernel)) (by decide +kernel) (by decide +kernel) (by decide) (fun _ _ h => by rw [h.1]; rfl) (fun _ U U' hal hh h => ⟨h.1, h.2.mv hal hh⟩) (fun r U U' V V' h1 hal h2 h => XT.PureE.mv r U U' V V' h1 hal h2 h) ?_
  intro p e s m args below meth c s₁ X0 hexec hbytes hml hret hlk hnm hown hh0 W hP
  obtain ⟨rfl, hB⟩ := hP
  have hB0 := hB.mv X0.warmed.alike hh0
  have c1 : Steps p.tables e below (s₁.setTop (entryFrame m #[.ref d, .int (Int32.ofNat B.slots.size)] 2)) (s₁.setTop (mkF m 0 #[.val (.ref d), .val (.int (Int32.ofNat B.slots.size))] [])) := entry rfl
  have c2 : Steps p.tables e below (s₁.setTop (entryFrame m #[.ref d, .int (Int32.ofNat B.slots.size)] 2)) (s₁.setTop (mkF m 2 #[.val (.ref d), .val (.int (Int32.ofNat B.slots.size))] [.ref d, .int (Int32.ofNat B.slots.size)])) := c1.trans (by
    refine XS.iloadN X0.here hexec rfl (hb hbytes d0) rfl ?_
    refine XS.aloadN X0.here hexec rfl (hb hbytes d1) rfl rfl ?_
    exact Steps.refl _)
  have c3 : Steps p.tables e below (s₁.setTop (entryFrame m #[.ref d, .int (Int32.ofNat B.slots.size)] 2)) (s₁.setTop (mkF m 8 #[.val (.ref d), .val (.int (Int32.ofNat B.slots.size))] [.int (lo8 (ushr (Int32.ofNat B.slots.size - Int32.ofNat B.slots.size) 31))])) := c2.trans (by
    refine X0.alen hexec hB0 rfl rfl (hb hbytes d2) ?_
    refine XS.isub X0.here hexec rfl (hb hbytes d3) rfl ?_
    refine bipushV X0.here hexec rfl 31 (hb hbytes d4) (by decide) ?_
    refine iushr X0.here hexec rfl (hb hbytes d6) rfl ?_
    refine i2b X0.here hexec rfl (hb hbytes d7) rfl ?_
    exact Steps.refl _)
  have e0 : lo8 (ushr (Int32.ofNat B.slots.size - Int32.ofNat B.slots.size) 31) = 0 := by rw [Int32.sub_self]; decide
  rw [e0] at c3
  exact ⟨s₁, some (.int 0), _, _, _, X0, rfl, rfl, rfl, (fun h => by cases h), ⟨rfl, hh0⟩, fun fs hl => c3.trans (X0.ireturnOut hexec hret rfl (Or.inr (Or.inr (Or.inl rfl))) (hb hbytes d8) hl)⟩
end CodL
/-- the String at a is Latin-1 over a new byte[] (the heap's one new cell): the low bytes of the len chars of A from o on; every cell but a is kept -/
def Got (a : Addr) (D : Cell) (fV fC : Field) (A : Cell) (o len : Nat) (r : Option Value) (s u : State) : Prop := r = none ∧ ∃ D' V : Cell, Blank "java/lang/String" a D' u ∧ Same D D' [fV.slot, fC.slot] ∧ D'.slots[fV.slot]? = some (.ref s.heap.size) ∧ D'.slots[fC.slot]? = some (.int 0) ∧ Arr .byte s.heap.size V u ∧ V.vm = .none ∧ u.vm.findClass "[B" = some V.cls ∧ V.slots.size = len ∧ (∀ j, j < len → V.slots[j]? = some (.int (lo8 (cv A (o + j))))) ∧ (∀ (y : Addr) (c : Cell), y ≠ a → s.heap[y]? = some c → u.heap[y]? = some c) ∧ u.heap.size = s.heap.size + 1
theorem Got.mv {a : Addr} {D A : Cell} {fV fC : Field} {o len : Nat} : ∀ r (U U' V V' : State), U'.heap = U.heap → V.vm.Alike V'.vm → V'.heap = V.heap → Got a D fV fC A o len r U V → Got a D fV fC A o len r U' V' :=
  fun r U U' V V' h1 hal h2 ⟨e0, D', X, a1, a2, a3, a4, a5, a6, a7, a8, a9, a10, a11⟩ => ⟨e0, D', X, a1.mv hal h2, a2, by rw [h1]; exact a3, a4, by rw [h1]; exact a5.mv hal h2, a6, by rw [hal.findClass]; exact a7, a8, a9, by rw [h1, h2]; exact a10, by rw [h1, h2]; exact a11⟩
namespace New4
def yN : MethodName := ⟨"java/lang/String", "<init>", "([CIILjava/lang/Void;)V"⟩
abbrev yB : ByteArray := jdk_42_method_149_code
theorem d0 : decode yB 0 = .ok (.aload_n 0, 1) := by decide +kernel
theorem d1 : decode yB 1 = .ok (.invokespecial 1, 3) := by decide +kernel
theorem d4 : decode yB 4 = .ok (.iload_n 3, 1) := by decide +kernel
theorem d5 : decode yB 5 = .ok (.ifCond (.ne) 22, 3) := by decide +kernel
theorem d27 : decode yB 27 = .ok (.getstatic 38, 3) := by decide +kernel
theorem d30 : decode yB 30 = .ok (.ifCond (.eq) 28, 3) := by decide +kernel
theorem d33 : decode yB 33 = .ok (.aload_n 1, 1) := by decide +kernel
theorem d34 : decode yB 34 = .ok (.iload_n 2, 1) := by decide +kernel
theorem d35 : decode yB 35 = .ok (.iload_n 3, 1) := by decide +kernel
theorem d36 : decode yB 36 = .ok (.invokestatic 177, 3) := by decide +kernel
theorem d39 : decode yB 39 = .ok (.astore 5, 2) := by decide +kernel
theorem d41 : decode yB 41 = .ok (.aload_n 0, 1) := by decide +kernel
theorem d42 : decode yB 42 = .ok (.aload 5, 2) := by decide +kernel
theorem d44 : decode yB 44 = .ok (.iload_n 3, 1) := by decide +kernel
theorem d45 : decode yB 45 = .ok (.invokestatic 47, 3) := by decide +kernel
theorem d48 : decode yB 48 = .ok (.putfield 15, 3) := by decide +kernel
theorem d51 : decode yB 51 = .ok (.aload_n 0, 1) := by decide +kernel
theorem d52 : decode yB 52 = .ok (.aload 5, 2) := by decide +kernel
theorem d54 : decode yB 54 = .ok (.putfield 9, 3) := by decide +kernel
theorem d57 : decode yB 57 = .ok (.return_, 1) := by decide +kernel
def site : List Cond := [.fieldLink "java/lang/String" 38 "java/lang/String" "COMPACT_STRINGS" "Z", Cmp3.tab, CodL.tab, .laysFinal "java/lang/String" "java/lang/String" "value" "[B", .fieldLink "java/lang/String" 9 "java/lang/String" "value" "[B", .laysFinal "java/lang/String" "java/lang/String" "coder" "B", .fieldLink "java/lang/String" 15 "java/lang/String" "coder" "B"] ++ objW "java/lang/String" 1 ++ staticW "java/lang/String" 177 Cmp3.yN ++ staticW "java/lang/String" 47 CodL.yN
def tab : Cond := tabOf yN yB 6 none site
def P (a : Addr) (D : Cell) (fV fC : Field) (b : Addr) (A : Cell) (z : Int32) (o len : Nat) (args : Array Value) (s : State) : Prop := args = #[.ref a, .ref b, .int (Int32.ofNat o), .int (Int32.ofNat len), .null] ∧ Blank "java/lang/String" a D s ∧ Found "java/lang/String" "value" "[B" fV s ∧ Found "java/lang/String" "coder" "B" fC s ∧ Ch b A s ∧ StaticIs s "java/lang/String" "COMPACT_STRINGS" "Z" (.int z) ∧ ¬ z = 0 ∧ 0 < len ∧ o + len ≤ A.slots.size ∧ len ≤ 536870912 ∧ ∀ i, i < len → ¬ 255 < cv A (o + i)
def E (a : Addr) (D : Cell) (fV fC : Field) (A : Cell) (o len : Nat) (r : Option Value) (s u : State) : Prop := Got a D fV fC A o len r s u
/-- len > 0, no char of the range above 255: a Latin-1 String of their low bytes -/
theorem law (l : Launch) (a : Addr) (D : Cell) (fV fC : Field) (b : Addr) (A : Cell) (z : Int32) (o len : Nat) : Law l yN 5 4 2 35 yB 6 none site (P a D fV fC b A z o len) (E a D fV fC A o len) [⟨a, fC.slot⟩, ⟨a, fV.slot⟩] 1 len := by
  refine Law.of_walk (plainFor_of_name (by decide +kernel)) (by decide +kernel) (by decide +kernel) (by decide) (fun _ _ h => by rw [h.1]; rfl) (fun _ U U' hal hh h => ⟨h.1, h.2.1.mv hal hh, h.2.2.1.al hal, h.2.2.2.1.al hal, h.2.2.2.2.1.mv hal hh, h.2.2.2.2.2.1.there hal hh, h.2.2.2.2.2.2⟩) (fun r U U' V V' h1 hal h2 h => Got.mv r U U' V V' h1 hal h2 h) ?_
  intro p e s m args below meth c s₁ X0 hexec hbytes hml hret hlk hnm hown hh0 W hP
  obtain ⟨rfl, hB, f1, f2, hA, s1, hz, l0, l1, l2, hp⟩ := hP
  have a31 := hA.1.2.2.2
  have c1 : Steps p.tables e below (s₁.setTop (entryFrame m #[.ref a, .ref b, .int (Int32.ofNat o), .int (Int32.ofNat len), .null] 6)) (s₁.setTop (mkF m 0 #[.val (.ref a), .val (.ref b), .val (.int (Int32.ofNat o)), .val (.int (Int32.ofNat len)), .val .null, .unset] [])) := entry rfl
  have c2 : Steps p.tables e below (s₁.setTop (entryFrame m #[.ref a, .ref b, .int (Int32.ofNat o), .int (Int32.ofNat len), .null] 6)) (s₁.setTop (mkF m 1 #[.val (.ref a), .val (.ref b), .val (.int (Int32.ofNat o)), .val (.int (Int32.ofNat len)), .val .null, .unset] [.ref a])) := c1.trans (by
    refine XS.aloadN X0.here hexec rfl (hb hbytes d0) rfl rfl ?_
    exact Steps.refl _)
  obtain ⟨T3, X3, q3, st3⟩ := X0.oinit hexec hown (wks W (objW "java/lang/String" 1)) (g := (mkF m 1 #[.val (.ref a), .val (.ref b), .val (.int (Int32.ofNat o)), .val (.int (Int32.ofNat len)), .val .null, .unset] [.ref a])) rfl (by rw [hml]; rfl) (rest := []) rfl (hb hbytes d1) (W := 0) (by show 2 * 0 + 0 ≤ _; decide) (Nat.le_of_ble_eq_true rfl) (Nat.le_of_ble_eq_true rfl)
  have hh3 := q3.trans hh0
  have c4 : Steps p.tables e below (s₁.setTop (entryFrame m #[.ref a, .ref b, .int (Int32.ofNat o), .int (Int32.ofNat len), .null] 6)) (T3.setTop (mkF m 27 #[.val (.ref a), .val (.ref b), .val (.int (Int32.ofNat o)), .val (.int (Int32.ofNat len)), .val .null, .unset] [])) := (c2.trans (st3 _ (Steps.refl _))).trans (by
    refine XS.iloadN X3.here hexec rfl (hb hbytes d4) rfl ?_
    refine XS.ifYes X3.here hexec rfl (pc0 := 5) rfl (hb hbytes d5) rfl (i0_ne_t (nz32 (by omega) l0)) (by decide) rfl ?_
    exact Steps.refl _)
  obtain ⟨T5, X5, q5, st5⟩ := X3.sget hexec hown (wk W (.fieldLink "java/lang/String" 38 "java/lang/String" "COMPACT_STRINGS" "Z")) s1 (fun _ _ h => by rw [hh3]; exact h) (g := (mkF m 27 #[.val (.ref a), .val (.ref b), .val (.int (Int32.ofNat o)), .val (.int (Int32.ofNat len)), .val .null, .unset] [])) rfl (hb hbytes d27)
  have hh5 := q5.trans hh3
  have c6 : Steps p.tables e below (s₁.setTop (entryFrame m #[.ref a, .ref b, .int (Int32.ofNat o), .int (Int32.ofNat len), .null] 6)) (T5.setTop (mkF m 30 #[.val (.ref a), .val (.ref b), .val (.int (Int32.ofNat o)), .val (.int (Int32.ofNat len)), .val .null, .unset] [.int z])) := c4.trans (st5 _ (Steps.refl _))
  have c7 : Steps p.tables e below (s₁.setTop (entryFrame m #[.ref a, .ref b, .int (Int32.ofNat o), .int (Int32.ofNat len), .null] 6)) (T5.setTop (mkF m 36 #[.val (.ref a), .val (.ref b), .val (.int (Int32.ofNat o)), .val (.int (Int32.ofNat len)), .val .null, .unset] [.int (Int32.ofNat len), .int (Int32.ofNat o), .ref b])) := c6.trans (by
    refine XS.ifNo X5.here hexec rfl (hb hbytes d30) rfl (i0_eq_f hz) ?_
    refine XS.aloadN X5.here hexec rfl (hb hbytes d33) rfl rfl ?_
    refine XS.iloadN X5.here hexec rfl (hb hbytes d34) rfl ?_
    refine XS.iloadN X5.here hexec rfl (hb hbytes d35) rfl ?_
    exact Steps.refl _)
  obtain ⟨v8, T8, X8, E8, g8⟩ := X5.callS hexec (Cmp3.law l b A o len) hown (wks W (staticW "java/lang/String" 177 Cmp3.yN)) (wk W Cmp3.tab) (W := 0) (Nat.le_of_ble_eq_true rfl) (Nat.le_of_ble_eq_true rfl) (Nat.le_refl _) (by show 0 + len ≤ len; omega) (g := (mkF m 36 #[.val (.ref a), .val (.ref b), .val (.int (Int32.ofNat o)), .val (.int (Int32.ofNat len)), .val .null, .unset] [.int (Int32.ofNat len), .int (Int32.ofNat o), .ref b])) rfl (by rw [hml]; rfl) c7 (argsL := [.ref b, .int (Int32.ofNat o), .int (Int32.ofNat len)]) (rest := []) rfl rfl (by show 2 * 0 + 0 ≤ _; decide) (hb hbytes d36) (⟨rfl, hA.mv X5.warmed.alike hh5, l1, l2, hp⟩)
  obtain ⟨e8, z8⟩ := E8
  obtain ⟨rfl, N, n1, n2, n3, n4, n5, n6⟩ := NewArr.mv _ T5 s _ _ hh5.symm (Vm.Alike.refl _) rfl e8
  rw [hh5] at z8
  have hB1 := hB.keep X8.warmed.alike (n6 _ _ hB.1)
  have hne : s.heap.size ≠ a := (Nat.ne_of_lt (Array.getElem?_eq_some_iff.mp hB.1).1).symm
  have c9 : Steps p.tables e below (s₁.setTop (entryFrame m #[.ref a, .ref b, .int (Int32.ofNat o), .int (Int32.ofNat len), .null] 6)) (T8.setTop (mkF m 39 #[.val (.ref a), .val (.ref b), .val (.int (Int32.ofNat o)), .val (.int (Int32.ofNat len)), .val .null, .unset] [.ref s.heap.size])) := g8
  have c10 : Steps p.tables e below (s₁.setTop (entryFrame m #[.ref a, .ref b, .int (Int32.ofNat o), .int (Int32.ofNat len), .null] 6)) (T8.setTop (mkF m 45 #[.val (.ref a), .val (.ref b), .val (.int (Int32.ofNat o)), .val (.int (Int32.ofNat len)), .val .null, .val (.ref s.heap.size)] [.int (Int32.ofNat N.slots.size), .ref s.heap.size, .ref a])) := by
    have hc : Steps p.tables e below (s₁.setTop (entryFrame m #[.ref a, .ref b, .int (Int32.ofNat o), .int (Int32.ofNat len), .null] 6)) (T8.setTop (mkF m 45 #[.val (.ref a), .val (.ref b), .val (.int (Int32.ofNat o)), .val (.int (Int32.ofNat len)), .val .null, .val (.ref s.heap.size)] [.int (Int32.ofNat len), .ref s.heap.size, .ref a])) := c9.trans (by
      refine XS.astore X8.here hexec rfl (hb hbytes d39) rfl rfl rfl ?_
      refine XS.aloadN X8.here hexec rfl (hb hbytes d41) rfl rfl ?_
      refine XS.aload X8.here hexec rfl (hb hbytes d42) rfl rfl ?_
      refine XS.iloadN X8.here hexec rfl (hb hbytes d44) rfl ?_
      exact Steps.refl _)
    rw [n4]; exact hc
  obtain ⟨v11, T11, X11, E11, g11⟩ := X8.callS hexec (CodL.law l s.heap.size N) hown (wks W (staticW "java/lang/String" 47 CodL.yN)) (wk W CodL.tab) (W := 1) (Nat.le_of_ble_eq_true rfl) (Nat.le_of_ble_eq_true rfl) (Nat.le_refl _) (by show 0 + len + 0 ≤ len; omega) (g := (mkF m 45 #[.val (.ref a), .val (.ref b), .val (.int (Int32.ofNat o)), .val (.int (Int32.ofNat len)), .val .null, .val (.ref s.heap.size)] [.int (Int32.ofNat N.slots.size), .ref s.heap.size, .ref a])) rfl (by rw [hml]; rfl) c10 (argsL := [.ref s.heap.size, .int (Int32.ofNat N.slots.size)]) (rest := [.ref a]) rfl rfl (by show 2 * 0 + (1 + 0) ≤ _; decide) (hb hbytes d45) (⟨rfl, n1⟩)
  obtain ⟨rfl, q11⟩ := E11
  have hB11 := hB1.mv (X8.warmed.alike.symm.trans X11.warmed.alike) q11
  have c12 : Steps p.tables e below (s₁.setTop (entryFrame m #[.ref a, .ref b, .int (Int32.ofNat o), .int (Int32.ofNat len), .null] 6)) (T11.setTop (mkF m 48 #[.val (.ref a), .val (.ref b), .val (.int (Int32.ofNat o)), .val (.int (Int32.ofNat len)), .val .null, .val (.ref s.heap.size)] [.int 0, .ref a])) := g11
  obtain ⟨T13, X13, p13, bl13, sl13, st13⟩ := X11.finit hexec hown (wk W (.fieldLink "java/lang/String" 15 "java/lang/String" "coder" "B")) (Or.inr ⟨_, (wk W (.laysFinal "java/lang/String" "java/lang/String" "coder" "B"))⟩) (Or.inl ⟨rfl, hnm⟩) f2 (Or.inl rfl) hB11 (t := .byte) (by decide +kernel) rfl (g := (mkF m 48 #[.val (.ref a), .val (.ref b), .val (.int (Int32.ofNat o)), .val (.int (Int32.ofNat len)), .val .null, .val (.ref s.heap.size)] [.int 0, .ref a])) rfl (rest := []) rfl (hb hbytes d48)
  have c14 : Steps p.tables e below (s₁.setTop (entryFrame m #[.ref a, .ref b, .int (Int32.ofNat o), .int (Int32.ofNat len), .null] 6)) (T13.setTop (mkF m 54 #[.val (.ref a), .val (.ref b), .val (.int (Int32.ofNat o)), .val (.int (Int32.ofNat len)), .val .null, .val (.ref s.heap.size)] [.ref s.heap.size, .ref a])) := (c12.trans (st13 _ (Steps.refl _))).trans (by
    refine XS.aloadN X13.here hexec rfl (hb hbytes d51) rfl rfl ?_
    refine XS.aload X13.here hexec rfl (hb hbytes d52) rfl rfl ?_
    exact Steps.refl _)
  obtain ⟨T15, X15, p15, bl15, sl15, st15⟩ := X13.finit hexec hown (wk W (.fieldLink "java/lang/String" 9 "java/lang/String" "value" "[B")) (Or.inr ⟨_, (wk W (.laysFinal "java/lang/String" "java/lang/String" "value" "[B"))⟩) (Or.inl ⟨rfl, hnm⟩) f1 (Or.inl rfl) bl13 (t := (.array .byte)) (by decide +kernel) rfl (g := (mkF m 54 #[.val (.ref a), .val (.ref b), .val (.int (Int32.ofNat o)), .val (.int (Int32.ofNat len)), .val .null, .val (.ref s.heap.size)] [.ref s.heap.size, .ref a])) rfl (rest := []) rfl (hb hbytes d54)
  have c16 : Steps p.tables e below (s₁.setTop (entryFrame m #[.ref a, .ref b, .int (Int32.ofNat o), .int (Int32.ofNat len), .null] 6)) (T15.setTop (mkF m 57 #[.val (.ref a), .val (.ref b), .val (.int (Int32.ofNat o)), .val (.int (Int32.ofNat len)), .val .null, .val (.ref s.heap.size)] [])) := c14.trans (st15 _ (Steps.refl _))
  have ap := apart (Or.inr ⟨_, (wk W (.laysFinal "java/lang/String" "java/lang/String" "value" "[B"))⟩) (Or.inr ⟨_, (wk W (.laysFinal "java/lang/String" "java/lang/String" "coder" "B"))⟩) f1 f2 (t₁ := .array .byte) (t₂ := .byte) (by decide +kernel) (by decide +kernel) (by decide)
  have al := X8.warmed.alike.symm.trans X15.warmed.alike
  have n7 : T11.heap[s.heap.size]? = some N := by rw [q11]; exact n1.1
  exact ⟨T15, none, _, _, _, X15, by simp, rfl, by omega, (fun _ => rfl), ⟨rfl, _, N, bl15, ((Same.refl D _).set _ (by simp)).set _ (by simp), sl15, (Cell.slots_setSlot_ne _ ap).trans sl13, n1.keep al (p15.other hne (p13.other hne n7)), n2, by rw [al.findClass]; exact n3, n4, n5, fun y c h1 h2 => p15.other h1 (p13.other h1 (by rw [q11]; exact n6 y c h2)), by rw [p15.2.2, p13.2.2, q11]; exact z8⟩, fun fs hl => c16.trans (X15.returnOut hexec hret (hb hbytes d57) hl)⟩
end New4
namespace New1
def yN : MethodName := ⟨"java/lang/String", "<init>", "([C)V"⟩
abbrev yB : ByteArray := jdk_42_method_3_code
theorem d0 : decode yB 0 = .ok (.aload_n 0, 1) := by decide +kernel
theorem d1 : decode yB 1 = .ok (.aload_n 1, 1) := by decide +kernel
theorem d2 : decode yB 2 = .ok (.iconst 0, 1) := by decide +kernel
theorem d3 : decode yB 3 = .ok (.aload_n 1, 1) := by decide +kernel
theorem d4 : decode yB 4 = .ok (.arraylength, 1) := by decide +kernel
theorem d5 : decode yB 5 = .ok (.aconst_null, 1) := by decide +kernel
theorem d6 : decode yB 6 = .ok (.invokespecial 27, 3) := by decide +kernel
theorem d9 : decode yB 9 = .ok (.return_, 1) := by decide +kernel
def site : List Cond := [New4.tab] ++ initW "java/lang/String" 27 New4.yN
def tab : Cond := tabOf yN yB 2 none site
def P (a : Addr) (D : Cell) (fV fC : Field) (b : Addr) (A : Cell) (z : Int32) (args : Array Value) (s : State) : Prop := args = #[.ref a, .ref b] ∧ Blank "java/lang/String" a D s ∧ Found "java/lang/String" "value" "[B" fV s ∧ Found "java/lang/String" "coder" "B" fC s ∧ Ch b A s ∧ StaticIs s "java/lang/String" "COMPACT_STRINGS" "Z" (.int z) ∧ ¬ z = 0 ∧ 0 < A.slots.size ∧ A.slots.size ≤ 536870912 ∧ ∀ i, i < A.slots.size → ¬ 255 < cv A i
def E (a : Addr) (D : Cell) (fV fC : Field) (A : Cell) (r : Option Value) (s u : State) : Prop := Got a D fV fC A 0 A.slots.size r s u
/-- new String(chars), not empty, no char above 255: a Latin-1 String of their low bytes -/
theorem law (l : Launch) (a : Addr) (D : Cell) (fV fC : Field) (b : Addr) (A : Cell) (z : Int32) : Law l yN 2 1 3 52 yB 2 none site (P a D fV fC b A z) (E a D fV fC A) [⟨a, fC.slot⟩, ⟨a, fV.slot⟩] 1 A.slots.size := by
  refine Law.of_walk (plainFor_of_name (by decide +kernel)) (by decide +kernel) (by decide +kernel) (by decide) (fun _ _ h => by rw [h.1]; rfl) (fun _ U U' hal hh h => ⟨h.1, h.2.1.mv hal hh, h.2.2.1.al hal, h.2.2.2.1.al hal, h.2.2.2.2.1.mv hal hh, h.2.2.2.2.2.1.there hal hh, h.2.2.2.2.2.2⟩) (fun r U U' V V' h1 hal h2 h => Got.mv r U U' V V' h1 hal h2 h) ?_
  intro p e s m args below meth c s₁ X0 hexec hbytes hml hret hlk hnm hown hh0 W hP
  obtain ⟨rfl, hB, f1, f2, hA, s1, hz, l0, l2, hp⟩ := hP
  have c1 : Steps p.tables e below (s₁.setTop (entryFrame m #[.ref a, .ref b] 2)) (s₁.setTop (mkF m 0 #[.val (.ref a), .val (.ref b)] [])) := entry rfl
  have c2 : Steps p.tables e below (s₁.setTop (entryFrame m #[.ref a, .ref b] 2)) (s₁.setTop (mkF m 6 #[.val (.ref a), .val (.ref b)] [.null, .int (Int32.ofNat A.slots.size), .int 0, .ref b, .ref a])) := c1.trans (by
    refine XS.aloadN X0.here hexec rfl (hb hbytes d0) rfl rfl ?_
    refine XS.aloadN X0.here hexec rfl (hb hbytes d1) rfl rfl ?_
    refine iconstV X0.here hexec rfl 0 (hb hbytes d2) (by decide) ?_
    refine XS.aloadN X0.here hexec rfl (hb hbytes d3) rfl rfl ?_
    refine X0.alen hexec (hA.1.mv X0.warmed.alike hh0) rfl rfl (hb hbytes d4) ?_
    refine XS.aconstNull X0.here hexec rfl (hb hbytes d5) ?_
    exact Steps.refl _)
  obtain ⟨v3, T3, X3, E3, g3⟩ := X0.callN hexec (New4.law l a D fV fC b A z 0 A.slots.size) rfl hown (wks W (initW "java/lang/String" 27 New4.yN)) (W New4.tab (by simp only [site, List.mem_cons, List.mem_append, true_or, or_true])) (W := 0) (Nat.le_of_ble_eq_true rfl) (Nat.le_of_ble_eq_true rfl) (Nat.le_refl _) (by show 0 + A.slots.size ≤ A.slots.size; omega) (g := (mkF m 6 #[.val (.ref a), .val (.ref b)] [.null, .int (Int32.ofNat A.slots.size), .int (Int32.ofNat 0), .ref b, .ref a])) rfl (by rw [hml]; rfl) c2 (argsL := [.ref b, .int (Int32.ofNat 0), .int (Int32.ofNat A.slots.size), .null]) (rest := []) rfl rfl (by show 2 * 0 + 0 ≤ _; decide) (hb hbytes d6) (⟨rfl, hB.mv X0.warmed.alike hh0, f1.al X0.warmed.alike, f2.al X0.warmed.alike, hA.mv X0.warmed.alike hh0, s1.there X0.warmed.alike hh0, hz, l0, by omega, l2, fun i hi => by rw [Nat.zero_add]; exact hp i hi⟩)
  have e0 := Got.mv _ s₁ s _ _ hh0.symm (Vm.Alike.refl _) rfl E3
  obtain rfl := e0.1
  have c4 : Steps p.tables e below (s₁.setTop (entryFrame m #[.ref a, .ref b] 2)) (T3.setTop (mkF m 9 #[.val (.ref a), .val (.ref b)] [])) := g3
  exact ⟨T3, none, _, _, _, X3, by simp, rfl, by omega, (fun _ => rfl), e0, fun fs hl => c4.trans (X3.returnOut hexec hret (hb hbytes d9) hl)⟩
theorem pays {l : Launch} {R : Room} {p : Program} {e : Env} {below : List Frame} {s : State} {sargs : Array Value} {len W : Nat} (a : Addr) (D : Cell) (fV fC : Field) (b : Addr) (A : Cell) (z : Int32) (htab : tab.before sargs s = true) (hfr : 4 ≤ R.frames) (hlo : W + 65 ≤ R.locals) :
    Back l R p e below s sargs yN len W (fun A₁ a₁ => A₁.cells + 1 ≤ R.cells ∧ A₁.slots + A.slots.size ≤ R.slots ∧ P a D fV fC b A z a₁ A₁.U) (fun A₁ _ v₁ B₁ => E a D fV fC A v₁ A₁.U B₁.U ∧ B₁.locs = A₁.locs ++ [⟨a, fC.slot⟩, ⟨a, fV.slot⟩] ∧ B₁.cells = A₁.cells + 1 ∧ B₁.slots = A₁.slots + A.slots.size) :=
  (law l a D fV fC b A z).pays htab hfr (by omega)
end New1
end StrChars
namespace StrChars.Road
open Jvm Sem ClassFile Op Lib Jvm.Stand Jvm.Free Jvm.Free.XT
open Jvm.Lib.Cold (StaticIs)
abbrev ST : String := "java/lang/String"
/-- every table word that New1's law asks, flat -/
abbrev words : List Jvm.Cond := [.code New1.yN New1.yB 2 none, .initialized ST, .methodLink ST 27 New4.yN, .instanceMethod New4.yN,
  .code New4.yN New4.yB 6 none, .fieldLink ST 38 ST "COMPACT_STRINGS" "Z", .laysFinal ST ST "value" "[B", .fieldLink ST 9 ST "value" "[B", .laysFinal ST ST "coder" "B", .fieldLink ST 15 ST "coder" "B",
  .methodLink ST 1 Lib.objectInit, .instanceMethod Lib.objectInit, .code Lib.objectInit ⟨#[0xb1]⟩ 1 none, .methodLink ST 177 Cmp3.yN, .static Cmp3.yN, .methodLink ST 47 CodL.yN, .static CodL.yN,
  .code Cmp3.yN Cmp3.yB 6 (some (.array .byte)), .initialized U16, .arrayClass .byte, .methodLink U16 115 Cmp5.yN, .static Cmp5.yN, .code Cmp5.yN Cmp5.yB 7 (some .int), .code CodL.yN CodL.yB 2 (some .byte)]
theorem tab_of {a : Array Value} {s : State} (h : ∀ w ∈ words, w.before a s = true) : New1.tab.before a s = true := by
  have h5 : Cmp5.tab.before a s = true := unparts (wk h (.code Cmp5.yN Cmp5.yB 7 (some .int))) (wks h (.initialized Cmp5.yN.cls :: Cmp5.site))
  have hc : CodL.tab.before a s = true := unparts (wk h (.code CodL.yN CodL.yB 2 (some .byte))) (wks h (.initialized CodL.yN.cls :: CodL.site))
  have q5 : ∀ w ∈ Cmp5.tab :: words, w.before a s = true := fun w hw => (List.mem_cons.mp hw).elim (fun e => e ▸ h5) (h w)
  have h3 : Cmp3.tab.before a s = true := unparts (wk q5 (.code Cmp3.yN Cmp3.yB 6 (some (.array .byte)))) (wks q5 (.initialized Cmp3.yN.cls :: Cmp3.site))
  have q3 : ∀ w ∈ Cmp3.tab :: CodL.tab :: words, w.before a s = true := fun w hw => (List.mem_cons.mp hw).elim (fun e => e ▸ h3) fun hw => (List.mem_cons.mp hw).elim (fun e => e ▸ hc) (h w)
  have h4 : New4.tab.before a s = true := unparts (wk q3 (.code New4.yN New4.yB 6 none)) (wks q3 (.initialized New4.yN.cls :: New4.site))
  have q4 : ∀ w ∈ New4.tab :: words, w.before a s = true := fun w hw => (List.mem_cons.mp hw).elim (fun e => e ▸ h4) (h w)
  exact unparts (wk q4 (.code New1.yN New1.yB 2 none)) (wks q4 (.initialized New1.yN.cls :: New1.site))
/-- the words ride from the start Z to the walk's own state -/
theorem moved {Z s : State} {a0 args : Array Value} (hZ : Z.Warmed39 s.vm) (hw : ∀ d ∈ words, d.before a0 Z = true) : ∀ d ∈ words, d.before args s = true := fun d hd => by
  have q := hw d hd
  have t : ∀ d ∈ words, d = .arrayClass .byte ∨ (d.onTables && d.keepsFace) = true := by decide +kernel
  rcases t d hd with rfl | t
  · exact RoadKit.mvA hZ q
  · exact RoadKit.mv hZ q t
/-- WHAT COMES BACK, over the tables of the start Z: h the heap at the call, h' behind it -/
def Q (Z : State) (x : Addr) (A : Cell) (h : Heap) (v : Option Value) (h' : Heap) (L : List Loc) : Prop := v = none ∧ (∀ y ∈ L, y.base = x) ∧ RoadKit.Keep h h' [x] ∧ h'.size = h.size + 1 ∧ RoadKit.Exa Z h' x ST ∧ RoadKit.Fld Z h' x ST "value" "[B" (.ref h.size) ∧ RoadKit.Fld Z h' x ST "coder" "B" (.int 0) ∧
  (∃ V : Cell, RoadKit.Arr Z h' h.size V .byte ∧ V.vm = .none ∧ Z.vm.findClass "[B" = some V.cls ∧ V.slots.size = A.slots.size ∧ ∀ j, j < A.slots.size → V.slots[j]? = some (.int (lo8 (cv A j)))) ∧
  ∀ (O n d : String) (w : Value), RoadKit.Fld Z h x O n d w → RoadKit.slotOf Z O n d ≠ RoadKit.slotOf Z ST "value" "[B" → RoadKit.slotOf Z O n d ≠ RoadKit.slotOf Z ST "coder" "B" → RoadKit.Fld Z h' x O n d w
/-- **new String(chars) AT A CALL, IN THE ROAD'S FORM**: for specialBack behind newO: x the fresh String, b the char[] with the cell A -/
theorem back {p : Program} {l : Launch} {e : Env} {R : Room} {s : State} {args : Array Value} {below : List Frame} {len W : Nat} {Z : State} {a0 : Array Value} {h : Heap} (hZ : Z.Warmed39 s.vm) (hw : ∀ d ∈ words, d.before a0 Z = true) {kI : Nat} (wi : (Jvm.Cond.instantiable ST kI).before a0 Z = true)
    {x b : Addr} {A : Cell} {z : Int32} {v0 c0 : Value} (E : RoadKit.Exa Z h x ST) (V : RoadKit.Fld Z h x ST "value" "[B" v0) (C : RoadKit.Fld Z h x ST "coder" "B" c0) (K : RoadKit.Arr Z h b A .char) (hty : Typed .char A) (S : RoadKit.Sta Z h ST "COMPACT_STRINGS" "Z" (.int z)) (hz : ¬ z = 0)
    (l0 : 0 < A.slots.size) (l2 : A.slots.size ≤ 536870912) (hp : ∀ i, i < A.slots.size → ¬ 255 < cv A i) (hfr : 4 ≤ R.frames) (hlo : W + 65 ≤ R.locals) :
    Back l R p e below s args New1.yN len W (fun P a => a = #[.ref x, .ref b] ∧ P.U.heap = h ∧ P.cells + 1 ≤ R.cells ∧ P.slots + A.slots.size ≤ R.slots)
      (fun P _ v B => ∃ L, Q Z x A h v B.U.heap L ∧ B.locs = P.locs ++ L ∧ B.cells = P.cells + 1 ∧ B.slots = P.slots + A.slots.size) := by
  intro m meth c P g ig mk a X hg hsize hdg hW hn hp'
  obtain ⟨rfl, rfl, r1, r2⟩ := hp'
  have al : Z.vm.Alike P.U.vm := hZ.alike.trans X.warmed.alike
  obtain ⟨D, cfV, kV, iV, fV, hD, gV, stV, knV, obV, asV, slV⟩ := id V
  obtain ⟨D', cfC, kC, iC, fC, hD', gC, stC, -, -, asC, slC⟩ := id C
  cases hD.symm.trans hD'
  obtain ⟨D2, kD, e1, e2, e3, e4, e5⟩ := id E
  cases hD.symm.trans e1
  obtain ⟨c2, k2, i1, i2, i3, -⟩ := Cond.instantiable_spec wi
  cases e2.symm.trans i1
  cases e3.symm.trans i2
  obtain ⟨kU, u1, u2⟩ := al.2.2 _ _ e3
  have hB : Blank ST x D P.U := ⟨hD, ⟨knV, fun q hq => by rw [hq] at obV; cases obV⟩, by rw [al.findClass]; exact e2, kU, u1, by rw [u2]; exact i3, by rw [u2]; exact e5 i3⟩
  have F1 : Found ST "value" "[B" fV P.U := ⟨SBG.found_only al ⟨cfV, kV, iV, gV⟩, stV⟩
  have F2 : Found ST "coder" "B" fC P.U := ⟨SBG.found_only al ⟨cfC, kC, iC, gC⟩, stC⟩
  have hA : Ch b A P.U := ⟨⟨K.1, State.isArrayOf_alike al K.2.1, K.2.2, by omega⟩, hty⟩
  have hS : StaticIs P.U ST "COMPACT_STRINGS" "Z" (.int z) := by
    obtain ⟨cfS, iS, kS, fS, st, cS, t1, t2, t3, t4, t5, t6, t7⟩ := S
    exact StaticIs.there (s := { Z with heap := P.U.heap }) ⟨cfS, iS, kS, fS, st, cS, t1, t2, t3, t4, t5, (fun q => by rw [q] at t6; cases t6), t7⟩ al rfl
  obtain ⟨v, B, X', ⟨⟨hv, E', V', q1, q2, q3, q4, q5, q6, q7, q8, q9, q10, q11⟩, hl, hc, hs⟩, st⟩ := New1.pays x D fV fC b A z (tab_of (moved hZ hw)) hfr hlo m meth c P g ig mk _ X hg hsize hdg hW hn ⟨r1, r2, rfl, hB, F1, F2, hA, hS, hz, l0, l2, hp⟩
  have al' : Z.vm.Alike B.U.vm := hZ.alike.trans X'.warmed.alike
  have hsz : E'.slots.size = D.slots.size := by
    obtain ⟨-, -, -, kB, w1, w2, w3⟩ := q1
    obtain ⟨kB', y1, y2⟩ := al'.2.2 _ _ e3
    rw [q2.2.1] at w1
    cases w1.symm.trans y1
    rw [w3, e5 i3, y2]
  refine ⟨v, B, X', ⟨_, ⟨hv, ?_, ⟨by omega, fun y cy hy hn' => q10 y cy (by simpa using hn') hy, fun y cy hy => ?_⟩, q11, ⟨E', _, q1.1, by rw [q2.2.1]; exact e2, by rw [q2.2.1]; exact e3, by rw [q2.1]; exact obV, fun _ => by rw [hsz]; exact e5 i3⟩,
    ⟨E', cfV, kV, iV, fV, q1.1, gV, stV, by rw [q2.1]; exact knV, by rw [q2.1]; exact obV, by rw [q2.2.1]; exact asV, q3⟩, ⟨E', cfC, kC, iC, fC, q1.1, gC, stC, by rw [q2.1]; exact knV, by rw [q2.1]; exact obV, by rw [q2.2.1]; exact asC, q4⟩,
    ⟨V', ⟨q5.1, State.isArrayOf_alike al'.symm q5.2.1, q5.2.2.1⟩, q6, by rw [← al'.findClass]; exact q7, q8, fun j hj => by have := q9 j hj; rwa [Nat.zero_add] at this⟩, fun O n d w F n1 n2 => ?_⟩, hl, hc, hs⟩, st⟩
  · intro y hy
    simp only [List.mem_cons, List.not_mem_nil, or_false] at hy
    rcases hy with rfl | rfl <;> rfl
  · by_cases q : y = x
    · subst q
      cases hD.symm.trans hy
      exact ⟨E', q1.1, q2.2.1, q2.1, hsz⟩
    · exact ⟨cy, q10 y cy q hy, rfl, rfl, rfl⟩
  · obtain ⟨D3, cf, k, i, f, g1, g2, g3, g4, g5, g6, g7⟩ := F
    cases hD.symm.trans g1
    simp only [RoadKit.slotOf, g2, gV, gC, Option.map_some, Option.getD_some] at n1 n2
    exact ⟨E', cf, k, i, f, q1.1, g2, g3, by rw [q2.1]; exact g4, by rw [q2.1]; exact g5, by rw [q2.2.1]; exact g6, by rw [q2.2.2 f.slot (by simp [n1, n2])]; exact g7⟩
end StrChars.Road
namespace StrChars.Road
open Jvm Sem ClassFile Op Lib Jvm.Stand Jvm.Free Jvm.Free.XT
/-- WHAT COMES BACK, the byte[] as a list of values -/
def QA (Z : State) (x : Addr) (zn : Int32) (cs : List Int32) (h : Heap) (v : Option Value) (h' : Heap) (L : List Loc) : Prop := v = none ∧ (∀ y ∈ L, y.base = x) ∧ RoadKit.Keep h h' [x] ∧ h'.size = h.size + 1 ∧ RoadKit.Exa Z h' x ST ∧ RoadKit.Fld Z h' x ST "value" "[B" (.ref h.size) ∧ RoadKit.Fld Z h' x ST "coder" "B" (.int 0) ∧
  (∃ kb, Z.vm.findClass "[B" = some kb ∧ RoadKit.Arv Z h' h.size kb .byte zn (cs.map fun c => .int (lo8 c)) (.int 0)) ∧
  ∀ (O n d : String) (w : Value), RoadKit.Fld Z h x O n d w → RoadKit.slotOf Z O n d ≠ RoadKit.slotOf Z ST "value" "[B" → RoadKit.slotOf Z O n d ≠ RoadKit.slotOf Z ST "coder" "B" → RoadKit.Fld Z h' x O n d w
/-- **new String(chars) AT A CALL, THE ARRAYS AS LISTS**: the char[] at b holds cs, not empty, no char above 255 -/
theorem backArv {p : Program} {l : Launch} {e : Env} {R : Room} {s : State} {args : Array Value} {below : List Frame} {len W : Nat} {Z : State} {a0 : Array Value} {h : Heap} (hZ : Z.Warmed39 s.vm) (hw : ∀ d ∈ words, d.before a0 Z = true) {kI : Nat} (wi : (Jvm.Cond.instantiable ST kI).before a0 Z = true)
    {x b : Addr} {k : ClassId} {zn z : Int32} {cs : List Int32} {dv v0 c0 : Value} (E : RoadKit.Exa Z h x ST) (V : RoadKit.Fld Z h x ST "value" "[B" v0) (C : RoadKit.Fld Z h x ST "coder" "B" c0) (K : RoadKit.Arv Z h b k .char zn (cs.map Value.int) dv) (S : RoadKit.Sta Z h ST "COMPACT_STRINGS" "Z" (.int z)) (hz : ¬ z = 0)
    (hlen : zn.toNatClampNeg = cs.length) (h0 : 0 < cs.length) (hbig : cs.length ≤ 536870912) (hall : ∀ c ∈ cs, ¬ 255 < c) (hfr : 4 ≤ R.frames) (hlo : W + 65 ≤ R.locals) :
    Back l R p e below s args New1.yN len W (fun P a => a = #[.ref x, .ref b] ∧ P.U.heap = h ∧ P.cells + 1 ≤ R.cells ∧ P.slots + cs.length ≤ R.slots)
      (fun P _ v B => ∃ L, QA Z x zn cs h v B.U.heap L ∧ B.locs = P.locs ++ L ∧ B.cells = P.cells + 1 ∧ B.slots = P.slots + cs.length) := by
  obtain ⟨A, K1, K2, K3, K4, K5, K6⟩ := K
  have e : A.slots.size = cs.length := K3.trans hlen
  have hat : ∀ (i : Nat) (hi : i < cs.length), A.slots[i]? = some (.int cs[i]) := fun i hi => by rw [K5 i (by omega)]; simp [List.getD_eq_getElem?_getD, hi]
  have hcv : ∀ (i : Nat) (hi : i < cs.length), cv A i = cs[i] := fun i hi => by unfold cv; rw [hat i hi]
  have hty : Typed .char A := fun i v hv => by
    have hi : i < A.slots.size := (Array.getElem?_eq_some_iff.mp hv).1
    have q := K5 i hi
    rw [hv] at q
    rw [Option.some.inj q]
    exact K6 i hi
  refine Back.mono (back hZ hw wi E V C K1 hty S hz (by omega) (by omega) (fun i hi => by rw [hcv i (by omega)]; exact hall _ (List.getElem_mem _)) hfr hlo) (fun P a hp => ⟨hp.1, hp.2.1, hp.2.2.1, by rw [e]; exact hp.2.2.2⟩) (fun P a v B hp hq => ?_)
  obtain ⟨L, ⟨q1, q2, q3, q4, q5, q6, q7, ⟨V', v1, v2, v3, v4, v5⟩, q9⟩, hl, hc, hs⟩ := hq
  refine ⟨L, ⟨q1, q2, q3, q4, q5, q6, q7, ⟨V'.cls, v3, V', v1, rfl, by rw [v4, e, hlen], K4, fun i hi => ?_, fun i hi => ?_⟩, q9⟩, hl, hc, by rw [hs, e]⟩
  · have hi' : i < cs.length := by omega
    rw [v5 i (by omega), hcv i hi']; simp [List.getD_eq_getElem?_getD, hi']
  · have hi' : i < cs.length := by omega
    simp only [List.getD_eq_getElem?_getD, List.getElem?_map, List.getElem?_eq_getElem hi', Option.map_some, Option.getD_some]
    exact fits_lo8 _
end StrChars.Road
namespace StrChars.Road
open Jvm Sem ClassFile Op Lib Jvm.Stand Jvm.Free Jvm.Free.XT
/-- WHAT COMES BACK, in the writer's own shape -/
def QV (Z : State) (x : Addr) (N : Int32) (bs : List Int32) (h : Heap) (n0 : Nat) (v : Option Value) (h' : Heap) (L : List Loc) : Prop := v = none ∧ RoadKit.Fr n0 L ∧ RoadKit.Keep h h' [x] ∧ RoadKit.Exa Z h' x ST ∧ RoadKit.Fld Z h' x ST "coder" "B" (.int 0) ∧
  ∃ (t : Addr) (kb : ClassId), n0 ≤ t ∧ h.size ≤ t ∧ ¬ t = x ∧ RoadKit.Fld Z h' x ST "value" "[B" (.ref t) ∧ RoadKit.Arv Z h' t kb .byte N (bs.map Value.int) (.int 0)
/-- **new String(chars) AT A CALL, FOR THE WRITER**: a char[] of n known ints, each 0 to 255 -/
theorem backV {p : Program} {l : Launch} {e : Env} {R : Room} {s : State} {args : Array Value} {below : List Frame} {len W : Nat} {Z : State} {a0 : Array Value} {h : Heap} (hZ : Z.Warmed39 s.vm) (hw : ∀ d ∈ words, d.before a0 Z = true) {kI : Nat} (wi : (Jvm.Cond.instantiable ST kI).before a0 Z = true)
    {x b : Addr} {kC : ClassId} {cs bs : List Int32} {d v0 c0 : Value} {z N : Int32} {n n0 : Nat} (hx0 : n0 ≤ x) (hh0 : n0 ≤ h.size) (E : RoadKit.Exa Z h x ST) (V : RoadKit.Fld Z h x ST "value" "[B" v0) (C : RoadKit.Fld Z h x ST "coder" "B" c0) (K : RoadKit.Arv Z h b kC .char N (cs.map Value.int) d) (S : RoadKit.Sta Z h ST "COMPACT_STRINGS" "Z" (.int z)) (hz : ¬ z = 0)
    (hn : cs.length = n) (hN : N = Int32.ofNat n) (l0 : 0 < n) (l2 : n ≤ 4000) (hp : ∀ c ∈ cs, ¬ c < 0 ∧ ¬ (255 : Int32) < c) (hb : bs = cs.map (fun c => c.toInt8.toInt32)) (hfr : 4 ≤ R.frames) (hlo : W + 65 ≤ R.locals) :
    Back l R p e below s args (⟨"java/lang/String", "<init>", "([C)V"⟩ : MethodName) len W (fun P a => a = #[.ref x, .ref b] ∧ P.U.heap = h ∧ P.cells + 1 ≤ R.cells ∧ P.slots + n ≤ R.slots)
      (fun P _ v B => ∃ L, QV Z x N bs h n0 v B.U.heap L ∧ B.locs = P.locs ++ L ∧ B.cells = P.cells + 1 ∧ B.slots = P.slots + n) := by
  subst hn hN hb
  refine Back.mono (backArv hZ hw wi E V C K S hz (n32 (by omega)) l0 (by omega) (fun c hc => (hp c hc).2) hfr hlo) (fun P a hp => hp) (fun P a v B hp hq => ?_)
  obtain ⟨L, ⟨q1, q2, q3, q4, q5, q6, q7, ⟨kb, v1, v2⟩, q9⟩, hl, hc, hs⟩ := hq
  exact ⟨L, ⟨q1, fun y hy => by rw [q2 y hy]; exact hx0, q3, q5, q7, h.size, kb, hh0, Nat.le_refl _, Nat.ne_of_gt E.lt, q6, by rw [List.map_map]; exact v2⟩, hl, hc, hs⟩
end StrChars.Road
namespace StrChars
open Jvm Sem ClassFile Op Lib Jvm.Stand Jvm.Free.XT Jvm.Free.ALB Jvm.Free.JM Jvm.Free
open Jvm.Lib.Cold (StaticIs)
def hi8 (x : Int32) : Int32 := lo8 (x >>> ((8 : Int32) &&& 31))
end StrChars
namespace StrChars.Road
open Jvm Sem ClassFile Op Lib Jvm.Stand Jvm.Free Jvm.Free.XT
open Jvm.Lib.Cold (StaticIs)
/-- the bytes of the chars cs, low before high -/
def wideBytes : List Int32 → List Value
  | [] => []
  | c :: cs => .int (lo8 c) :: .int (hi8 c) :: wideBytes cs
/-- an array of N2 bytes vs codes the chars cs by the coder cd -/
def CodA (cs : List Int32) (cd N2 : Int32) (vs : List Value) : Prop := (cd = 0 ∧ N2 = Int32.ofNat cs.length ∧ vs = (cs.map fun c => Value.int (lo8 c)) ∧ ∀ c ∈ cs, ¬ 255 < c) ∨ (cd = 1 ∧ N2 = Int32.ofNat (2 * cs.length) ∧ vs = wideBytes cs ∧ ∃ c ∈ cs, 255 < c)
end StrChars.Road
namespace StrChars.Road
open Jvm Sem ClassFile Op Lib Jvm.Stand Jvm.Free Jvm.Free.XT
open Jvm.Lib.Cold (StaticIs)
/-- what backV says of its String, as the contracts of this text ask it: cs's low bytes, coder 0 -/
theorem codOf {cs : List Int32} {n : Nat} (hn : cs.length = n) (hb : ∀ c ∈ cs, ¬ 255 < c) : CodA cs 0 (Int32.ofNat n) ((cs.map lo8).map Value.int) := Or.inl ⟨rfl, by rw [hn], by simp [List.map_map, Function.comp_def], hb⟩
end StrChars.Road
end Jvm.Pilot.@@N@@
namespace Jvm.RoadKit
open Sem ClassFile Op Lib Jvm.Stand Jvm.Free Jvm.LawKit
section New
variable {p : Program} {l : Launch} {e : Env} {R : Room} {s : State} {m : MethodId} {args : Array Value} {below : List Frame} {meth : Method} {c : Code} {T : State} {locs : List Loc} {cells slots : Nat}
theorem retI (X : Stand p l e R s m args below meth c T locs cells slots) (hx : p.tables.exec = Jvm.exec) {pc : Nat} {Ls : Array Slot} {z : Int32} {rest : List Value} (hret : meth.sig.returnType = some .int) (hd : decode c.code pc = .ok (.ireturn, 1)) {fs : List Frame}
    (hl : ∀ (f : JFrame) (acts : List Action), f.method = m → f.locked = none → f.entered = [] → (doReturn e (T.setTop f) acts (some (.int z))).1 = T.setFrames fs) : Steps p.tables e below (T.setTop (mkF m pc Ls (.int z :: rest))) (T.setFrames fs) := by
  have hm' : T.vm.method? m = some meth := X.method'
  have hn : narrow .int (.int z) = .int z := rfl
  show Steps p.tables e below (T.setTop { method := m, pc := pc, locals := Ls, stack := _ :: rest, locked := none }) _
  jvm_step X.here [X.here.top, hx, hd, hm', hret, hn]
  first | (intro acts; rw [hl _ acts rfl rfl rfl]) | rw [hl _ _ rfl rfl rfl]
  exact Steps.refl _
end New
end Jvm.RoadKit
namespace Jvm.Pilot.@@N@@
open Jvm Jvm.ClassFile Sem Op Lib Jvm.Free Jvm.Stand Jvm.LawKit Jvm.RoadKit Bundle Jvm.Pilot.@@N@@.Jvm.D
theorem wd {Z : State} {a0 : Array Value} (hw : ∀ d ∈ tables_1, d.before a0 Z = true) (i : Nat) {d : Jvm.Cond} (h : tables_1[i]? = some d) : d.before a0 Z = true := hw _ (List.mem_of_getElem? h)
abbrev jv (x : Int64) : Slot := .val (.long x)
/-- from A the run comes to an end that R speaks of -/
abbrev own_Go (tb : Tables) (e : Env) (below : List Frame) (A : State) (R : State → Outcome → Prop) : Prop := ∃ s₂ o, Steps tb e below A s₂ ∧ R s₂ o
theorem own_go {tb : Tables} {e : Env} {below : List Frame} {A : State} {R : State → Outcome → Prop} (h : own_Go tb e below A R) : ∃ s₂ o, Steps tb e below A s₂ ∧ R s₂ o := h
theorem own_lift {tb : Tables} {e : Env} {below : List Frame} {A B : State} {R : State → Outcome → Prop} (h : ∀ t, Steps tb e below A t → Steps tb e below B t) (k : own_Go tb e below A R) : own_Go tb e below B R := by
  obtain ⟨t, o, k1, k2⟩ := k
  exact ⟨t, o, h t k1, k2⟩
theorem own_plain {Z : State} {h : Heap} {a : Addr} {C : String} (F : Exa Z h a C) : ∃ c : Cell, h[a]? = some c ∧ c.vm.isStatics = false := by
  obtain ⟨c, _, h1, -, -, h4, -⟩ := F
  exact ⟨c, h1, h4⟩
theorem own_Arr_keep {Z : State} {h h' : Heap} {a : Addr} {c : Cell} {ty : FieldType} {ws : List Addr} (F : Arr Z h a c ty) (K : Keep h h' ws) (q : a ∉ ws) : Arr Z h' a c ty := ⟨K.2.1 a c F.1 q, F.2⟩
theorem own_asymm {a b : Int32} (h : a < b) : ¬ b < a := Int32.not_lt.mpr (Int32.le_of_lt h)
theorem own_Sta_keep {Z : State} {h h' : Heap} {C n d : String} {v : Value} {ws : List Addr} (F : Sta Z h C n d v) (K : Keep h h' ws) (q : ∀ x ∈ ws, ∃ c : Cell, h[x]? = some c ∧ c.vm.isStatics = false) : Sta Z h' C n d v := by
  obtain ⟨cf, i, k, f, st, cell, h1, h2, h3, h4, h5, h6, h7⟩ := F
  refine ⟨cf, i, k, f, st, cell, h1, h2, h3, h4, K.2.1 st cell h5 fun z => ?_, h6, h7⟩
  obtain ⟨c, g1, g2⟩ := q st z
  cases h5.symm.trans g1
  rw [h6] at g2
  cases g2
abbrev TC : String := "com/example/libprocgraph/libprocgraph/reader/TextCursor"
abbrev LW : String := "com/example/libprocgraph/libprocgraph/reader/TextCursorPassLineEndPinLaw"
abbrev PCx : String := "jdk/internal/util/Preconditions"
abbrev L1x : String := "java/lang/StringLatin1"
abbrev BFx : String := "Ljava/util/function/BiFunction;"
abbrev STx : String := "java/lang/String"
abbrev dSx : String := "Ljava/lang/String;"
theorem own_words : ∀ d ∈ StrChars.Road.words, d ∈ tables_1 := by decide +kernel
theorem own_selp {Z s : State} {a0 args : Array Value} {y : MethodName} {n : Nat} (hZ : Z.Warmed39 s.vm) (wi : (Cond.instantiable y.cls n).before a0 Z = true) (wp : (Cond.privateMethod y).before a0 Z = true) (wm : (Cond.instanceMethod y).before a0 Z = true) (hy : y.cls ≠ "java/lang/invoke/MethodHandle" ∧ y.cls ≠ "java/lang/invoke/VarHandle") : (Cond.selects y.cls y y).before args s = true := by
  have wi' : (Cond.instantiable y.cls n).before args s = true := mvT hZ wi
  obtain ⟨c, k, h1, h2, h3, h4, -⟩ := Cond.instantiable_spec wi'
  exact selects_self_of_private h1 h2 (Bool.or_eq_false_iff.mp h4).1 (Cond.privateMethod_at (mvP hZ wp (args := args))) (mvT hZ wm) hy
def own_c8 (b : Int32) : Int32 := nar .char ((b &&& (255 : Int32)).toUInt32.toUInt16.toUInt32.toInt32)
def own_ch (x : Int32) : Int32 := if (x &&& (1 : Int32)) = 0 then 10 else ((x.toUInt32 >>> ((1 : Int32) &&& 31).toUInt32).toInt32) &&& (255 : Int32)
def own_p (a b c d : Int32) : Int32 := if a = (10 : Int32) then 0 else if b = (10 : Int32) then 1 else if c = (10 : Int32) then 2 else if d = (10 : Int32) then 3 else (-1)
theorem own_five (a b c d : Int32) : a = (10 : Int32) ∨ (¬ (a = (10 : Int32)) ∧ b = (10 : Int32)) ∨ (¬ (a = (10 : Int32)) ∧ ¬ (b = (10 : Int32)) ∧ c = (10 : Int32)) ∨ (¬ (a = (10 : Int32)) ∧ ¬ (b = (10 : Int32)) ∧ ¬ (c = (10 : Int32)) ∧ d = (10 : Int32)) ∨ (¬ (a = (10 : Int32)) ∧ ¬ (b = (10 : Int32)) ∧ ¬ (c = (10 : Int32)) ∧ ¬ (d = (10 : Int32))) := by
  by_cases h1 : a = (10 : Int32) <;> by_cases h2 : b = (10 : Int32) <;> by_cases h3 : c = (10 : Int32) <;> by_cases h4 : d = (10 : Int32) <;> simp [h1, h2, h3, h4]
theorem own_c8_eq (b : Int32) : own_c8 b = b &&& 255 := by
  rw [own_c8]; simp only [nar, i2c_mask]
theorem own_c8_nar (b : Int32) : nar .char (own_c8 b) = own_c8 b := by
  rw [own_c8_eq]; simp only [nar, i2c_mask]
theorem own_and255 (x : Int32) : ¬ (x &&& 255) < 0 ∧ ¬ (255 : Int32) < (x &&& 255) := by
  have h : (x &&& 255).toBitVec.toNat < 256 := by
    simp only [Int32.toBitVec_and, BitVec.toNat_and]
    exact Nat.lt_succ_of_le Nat.and_le_right
  have e : (x &&& 255).toInt = (x &&& 255).toBitVec.toNat := by
    show (x &&& 255).toBitVec.toInt = _
    rw [BitVec.toInt_eq_toNat_cond, if_pos (by omega)]
  rw [Int32.lt_iff_toInt_lt, Int32.lt_iff_toInt_lt, e, show (0 : Int32).toInt = 0 from rfl, show (255 : Int32).toInt = 255 from rfl]
  omega
theorem own_lo8 {x : Int32} (h0 : ¬ x < 0) (h1 : ¬ 255 < x) : x.toInt8.toInt32 &&& 255 = x := by
  have t : ∀ k : Fin 256, (Int32.ofNat k.val).toInt8.toInt32 &&& 255 = Int32.ofNat k.val := by decide +kernel
  rw [Int32.lt_iff_toInt_lt] at h0 h1
  have e0 : (0 : Int32).toInt = 0 := rfl
  have e1 : (255 : Int32).toInt = 255 := rfl
  obtain ⟨k, hk⟩ : ∃ k : Nat, x.toInt = k := ⟨x.toInt.toNat, by omega⟩
  have hx : x = Int32.ofNat k := Int32.toInt_inj.mp (by rw [hk, Int32.toInt_ofNat_small (by omega)])
  rw [hx]
  exact t ⟨k, by omega⟩
theorem own_ch_rng (x : Int32) : ¬ own_ch x < 0 ∧ ¬ (255 : Int32) < own_ch x := by
  rw [own_ch]
  split
  · decide
  · exact own_and255 _
theorem own_ch_nar (x : Int32) : nar .char (own_ch x) = own_ch x := by
  rw [own_ch]
  split
  · decide
  · simp only [nar, i2c_mask]
theorem own_lat (p0 p1 p2 p3 : Int32) : ∀ c ∈ [(own_ch p0), (own_ch p1), (own_ch p2), (own_ch p3)], ¬ c < 0 ∧ ¬ (255 : Int32) < c := by
  intro c hc
  simp only [List.mem_cons, List.not_mem_nil, or_false] at hc
  rcases hc with rfl | rfl | rfl | rfl <;> exact own_ch_rng _
theorem own_c8_ch (x : Int32) : own_c8 ((own_ch x).toInt8.toInt32) = own_ch x := by
  rw [own_c8_eq]
  exact own_lo8 (own_ch_rng x).1 (own_ch_rng x).2
theorem own_b10 {x : Int32} (d : own_ch x = (10 : Int32)) : ((own_ch x).toInt8.toInt32) = (10 : Int32) := by rw [d]; decide
theorem own_b10_n {x : Int32} (d : ¬ (own_ch x = (10 : Int32))) : ¬ (((own_ch x).toInt8.toInt32) = (10 : Int32)) := fun q => d (by
  have e := own_c8_ch x
  rw [q] at e
  rw [← e]; decide)
theorem pn_0 : plainName STx = true := by first | (simp [plainName, overriddenIn]; done) | decide +kernel
theorem d1_0 : decode jdk_42_method_154_code 0 = .ok (.getstatic 38, 3) := by decide +kernel
theorem d1_3 : decode jdk_42_method_154_code 3 = .ok (.ifCond .eq 14, 3) := by decide +kernel
theorem d1_6 : decode jdk_42_method_154_code 6 = .ok (.aload_n 0, 1) := by decide +kernel
theorem d1_7 : decode jdk_42_method_154_code 7 = .ok (.getfield 15, 3) := by decide +kernel
theorem d1_10 : decode jdk_42_method_154_code 10 = .ok (.ifCond .ne 7, 3) := by decide +kernel
theorem d1_13 : decode jdk_42_method_154_code 13 = .ok (.iconst 1, 1) := by decide +kernel
theorem d1_14 : decode jdk_42_method_154_code 14 = .ok (.goto 4, 3) := by decide +kernel
theorem d1_18 : decode jdk_42_method_154_code 18 = .ok (.ireturn, 1) := by decide +kernel
def Q_rmLatin (Z : State) (a1 : Addr) (cs : Int32) (h0 : Heap) (n0 : Nat) (v : Option Value) (h : Heap) (L : List Loc) : Prop := v = some (.int 1) ∧ Fr n0 L ∧ h = h0
theorem ef_rmLatin (m : MethodId) (x0 : Addr) : entryFrame m #[(.ref x0)] 1 = mkF m 0 #[.val (.ref x0)] [] := by first | (simp [entryFrame, mkF, argsToLocals, Value.category]; done) | rfl
set_option maxRecDepth 65536 in
set_option maxHeartbeats 40000000 in
theorem rmLatin (l : Launch) (Z : State) (a0 : Array Value) (hw : ∀ d ∈ tables_1, d.before a0 Z = true) (ws : List Jvm.Cond) (a1 : Addr) (cs : Int32) (h0 : Heap) (n0 : Nat) (Z0 : n0 ≤ h0.size) (Fsc : Fld Z h0 a1 STx "coder" "B" (.int 0)) (Scs : Sta Z h0 STx "COMPACT_STRINGS" "Z" (.int cs)) (P_cs : ¬ (cs = (0 : Int32))) :
    MetFree l (⟨STx, "isLatin1", "()Z"⟩ : MethodName) (head1 (Jvm.Cond.code (⟨STx, "isLatin1", "()Z"⟩ : MethodName) jdk_42_method_154_code 1 (some .boolean) :: ws) ({ frames := 0, cells := 0, slots := 0, locals := 0 } : Room)) (fun a U => a = #[(.ref a1)] ∧ Z.Warmed39 U.vm ∧ U.heap = h0) (fun _ _ _ _ _ => True) (fun _ U o U' => ∃ v L, o = .returned v ∧ Q_rmLatin Z a1 cs h0 n0 v U'.heap L ∧ FrameEnd U o U' L ({ frames := 0, cells := 0, slots := 0, locals := 0 } : Room).cells ({ frames := 0, cells := 0, slots := 0, locals := 0 } : Room).slots) := by
  refine MetFree.of_bodySF (plainFor_of_name pn_0) hisR ?_
  intro p e s m args below meth c s₁ Bd hml0 hP hK
  obtain ⟨rfl, hZ, hh⟩ := hP
  have hx := Bd.exec
  have hby := Bd.bytes
  have hml : c.maxLocals = 1 := hml0
  have hown : s.vm.findClass STx = some m.cls := findClass_of_methodNamed Bd.named
  have hnm := (name_of_methodNamed Bd.named Bd.method).1
  have X0 : Stand p l e ({ frames := 0, cells := 0, slots := 0, locals := 0 } : Room) s m #[(.ref a1)] below meth c s₁ [] 0 0 := Stand.of_body Bd
  have e0 : s₁.heap = h0 := by rw [← hh, Bd.state]; rfl
  have N0 := Fr.nil n0
  refine own_go (own_lift (fun t k => castTop (ef_rmLatin m a1) k) ?_)
  show own_Go p.tables e below (s₁.setTop (mkF m 0 #[rv a1] [])) _
  obtain ⟨T1, X1, e1, st1⟩ := getS X0 hx hZ hown (host := "") (wd hw 21 rfl) Via.refl e0 Scs (g := (mkF m 0 #[rv a1] [])) rfl (hb hby d1_0)
  refine own_lift st1 ?_
  show own_Go p.tables e below (T1.setTop (mkF m 3 #[rv a1] [(.int cs)])) _
  have sg2 : ∀ t, Steps p.tables e below (T1.setTop (mkF m 7 #[rv a1] [(.ref a1)])) t → Steps p.tables e below (T1.setTop (mkF m 3 #[rv a1] [(.int cs)])) t := by
    intro t k
    refine XS.ifNo X1.here hx rfl (hb hby d1_3) rfl ((if0 _ _).trans (feq P_cs).1) ?_
    show Steps p.tables e below (T1.setTop (mkF m 6 #[rv a1] [])) _
    refine XS.aloadN X1.here hx rfl (hb hby d1_6) rfl rfl ?_
    show Steps p.tables e below (T1.setTop (mkF m 7 #[rv a1] [(.ref a1)])) _
    exact k
  refine own_lift sg2 ?_
  show own_Go p.tables e below (T1.setTop (mkF m 7 #[rv a1] [(.ref a1)])) _
  obtain ⟨T3, X3, e3, st3⟩ := getF X1 hx hZ hown (host := "") (Or.inl (wd hw 33 rfl)) Via.refl e1 Fsc (g := (mkF m 7 #[rv a1] [(.ref a1)])) rfl rfl (hb hby d1_7)
  refine own_lift st3 ?_
  show own_Go p.tables e below (T3.setTop (mkF m 10 #[rv a1] [(.int 0)])) _
  have sg4 : ∀ t, Steps p.tables e below (T3.setTop (mkF m 18 #[rv a1] [(.int 1)])) t → Steps p.tables e below (T3.setTop (mkF m 10 #[rv a1] [(.int 0)])) t := by
    intro t k
    refine XS.ifNo X3.here hx rfl (hb hby d1_10) rfl ((if0 _ _).trans (teq (by decide : (0 : Int32) = (0 : Int32))).2) ?_
    show Steps p.tables e below (T3.setTop (mkF m 13 #[rv a1] [])) _
    refine XS.iconst X3.here hx rfl (hb hby d1_13) ?_
    refine XS.goto X3.here hx rfl (pc0 := 14) (pc' := 18) rfl (hb hby d1_14) (by decide) (by decide) ?_
    show Steps p.tables e below (T3.setTop (mkF m 18 #[rv a1] [(.int 1)])) _
    exact k
  refine own_lift sg4 ?_
  show own_Go p.tables e below (T3.setTop (mkF m 18 #[rv a1] [(.int 1)])) _
  obtain ⟨fs, hr, hrun, hended, hW, hsame⟩ := X3.leave (v := some (.int 1)) (fun h => by rw [Bd.returns] at h; cases h)
  refine ⟨_, _, ?_, hrun, hended, _, _, rfl, ?_, ⟨_, rfl⟩, hW, hsame.mono (by decide) (by decide)⟩
  · exact retN X3 hx (t := .boolean) Bd.returns (by simp) (hb hby d1_18) hr
  · show Q_rmLatin Z a1 cs h0 n0 _ T3.heap _
    rw [e3]
    exact ⟨rfl, N0, rfl⟩
theorem d2_0 : decode jdk_42_method_152_code 0 = .ok (.getstatic 38, 3) := by decide +kernel
theorem d2_3 : decode jdk_42_method_152_code 3 = .ok (.ifCond .eq 10, 3) := by decide +kernel
theorem d2_6 : decode jdk_42_method_152_code 6 = .ok (.aload_n 0, 1) := by decide +kernel
theorem d2_7 : decode jdk_42_method_152_code 7 = .ok (.getfield 15, 3) := by decide +kernel
theorem d2_10 : decode jdk_42_method_152_code 10 = .ok (.goto 4, 3) := by decide +kernel
theorem d2_14 : decode jdk_42_method_152_code 14 = .ok (.ireturn, 1) := by decide +kernel
def Q_rmCoder (Z : State) (a1 : Addr) (cs : Int32) (h0 : Heap) (n0 : Nat) (v : Option Value) (h : Heap) (L : List Loc) : Prop := v = some (.int 0) ∧ Fr n0 L ∧ h = h0
theorem ef_rmCoder (m : MethodId) (x0 : Addr) : entryFrame m #[(.ref x0)] 1 = mkF m 0 #[.val (.ref x0)] [] := by first | (simp [entryFrame, mkF, argsToLocals, Value.category]; done) | rfl
set_option maxRecDepth 65536 in
set_option maxHeartbeats 40000000 in
theorem rmCoder (l : Launch) (Z : State) (a0 : Array Value) (hw : ∀ d ∈ tables_1, d.before a0 Z = true) (ws : List Jvm.Cond) (a1 : Addr) (cs : Int32) (h0 : Heap) (n0 : Nat) (Z0 : n0 ≤ h0.size) (Fsc : Fld Z h0 a1 STx "coder" "B" (.int 0)) (Scs : Sta Z h0 STx "COMPACT_STRINGS" "Z" (.int cs)) (P_cs : ¬ (cs = (0 : Int32))) :
    MetFree l (⟨STx, "coder", "()B"⟩ : MethodName) (head1 (Jvm.Cond.code (⟨STx, "coder", "()B"⟩ : MethodName) jdk_42_method_152_code 1 (some .byte) :: ws) ({ frames := 0, cells := 0, slots := 0, locals := 0 } : Room)) (fun a U => a = #[(.ref a1)] ∧ Z.Warmed39 U.vm ∧ U.heap = h0) (fun _ _ _ _ _ => True) (fun _ U o U' => ∃ v L, o = .returned v ∧ Q_rmCoder Z a1 cs h0 n0 v U'.heap L ∧ FrameEnd U o U' L ({ frames := 0, cells := 0, slots := 0, locals := 0 } : Room).cells ({ frames := 0, cells := 0, slots := 0, locals := 0 } : Room).slots) := by
  refine MetFree.of_bodySF (plainFor_of_name pn_0) hisR ?_
  intro p e s m args below meth c s₁ Bd hml0 hP hK
  obtain ⟨rfl, hZ, hh⟩ := hP
  have hx := Bd.exec
  have hby := Bd.bytes
  have hml : c.maxLocals = 1 := hml0
  have hown : s.vm.findClass STx = some m.cls := findClass_of_methodNamed Bd.named
  have hnm := (name_of_methodNamed Bd.named Bd.method).1
  have X0 : Stand p l e ({ frames := 0, cells := 0, slots := 0, locals := 0 } : Room) s m #[(.ref a1)] below meth c s₁ [] 0 0 := Stand.of_body Bd
  have e0 : s₁.heap = h0 := by rw [← hh, Bd.state]; rfl
  have N0 := Fr.nil n0
  refine own_go (own_lift (fun t k => castTop (ef_rmCoder m a1) k) ?_)
  show own_Go p.tables e below (s₁.setTop (mkF m 0 #[rv a1] [])) _
  obtain ⟨T1, X1, e1, st1⟩ := getS X0 hx hZ hown (host := "") (wd hw 21 rfl) Via.refl e0 Scs (g := (mkF m 0 #[rv a1] [])) rfl (hb hby d2_0)
  refine own_lift st1 ?_
  show own_Go p.tables e below (T1.setTop (mkF m 3 #[rv a1] [(.int cs)])) _
  have sg2 : ∀ t, Steps p.tables e below (T1.setTop (mkF m 7 #[rv a1] [(.ref a1)])) t → Steps p.tables e below (T1.setTop (mkF m 3 #[rv a1] [(.int cs)])) t := by
    intro t k
    refine XS.ifNo X1.here hx rfl (hb hby d2_3) rfl ((if0 _ _).trans (feq P_cs).1) ?_
    show Steps p.tables e below (T1.setTop (mkF m 6 #[rv a1] [])) _
    refine XS.aloadN X1.here hx rfl (hb hby d2_6) rfl rfl ?_
    show Steps p.tables e below (T1.setTop (mkF m 7 #[rv a1] [(.ref a1)])) _
    exact k
  refine own_lift sg2 ?_
  show own_Go p.tables e below (T1.setTop (mkF m 7 #[rv a1] [(.ref a1)])) _
  obtain ⟨T3, X3, e3, st3⟩ := getF X1 hx hZ hown (host := "") (Or.inl (wd hw 33 rfl)) Via.refl e1 Fsc (g := (mkF m 7 #[rv a1] [(.ref a1)])) rfl rfl (hb hby d2_7)
  refine own_lift st3 ?_
  show own_Go p.tables e below (T3.setTop (mkF m 10 #[rv a1] [(.int 0)])) _
  have sg4 : ∀ t, Steps p.tables e below (T3.setTop (mkF m 14 #[rv a1] [(.int 0)])) t → Steps p.tables e below (T3.setTop (mkF m 10 #[rv a1] [(.int 0)])) t := by
    intro t k
    refine XS.goto X3.here hx rfl (pc0 := 10) (pc' := 14) rfl (hb hby d2_10) (by decide) (by decide) ?_
    show Steps p.tables e below (T3.setTop (mkF m 14 #[rv a1] [(.int 0)])) _
    exact k
  refine own_lift sg4 ?_
  show own_Go p.tables e below (T3.setTop (mkF m 14 #[rv a1] [(.int 0)])) _
  obtain ⟨fs, hr, hrun, hended, hW, hsame⟩ := X3.leave (v := some (.int 0)) (fun h => by rw [Bd.returns] at h; cases h)
  refine ⟨_, _, ?_, hrun, hended, _, _, rfl, ?_, ⟨_, rfl⟩, hW, hsame.mono (by decide) (by decide)⟩
  · exact retN X3 hx (t := .byte) Bd.returns (by simp) (hb hby d2_14) hr
  · show Q_rmCoder Z a1 cs h0 n0 _ T3.heap _
    rw [e3]
    exact ⟨rfl, N0, rfl⟩
theorem d3_0 : decode jdk_42_method_54_code 0 = .ok (.aload_n 0, 1) := by decide +kernel
theorem d3_1 : decode jdk_42_method_54_code 1 = .ok (.getfield 9, 3) := by decide +kernel
theorem d3_4 : decode jdk_42_method_54_code 4 = .ok (.arraylength, 1) := by decide +kernel
theorem d3_5 : decode jdk_42_method_54_code 5 = .ok (.aload_n 0, 1) := by decide +kernel
theorem d3_6 : decode jdk_42_method_54_code 6 = .ok (.invokevirtual 335, 3) := by decide +kernel
theorem pd_0 : parseMethodDescriptor "()B" = some ⟨[], some .byte⟩ := by decide +kernel
theorem d3_9 : decode jdk_42_method_54_code 9 = .ok (.ishr, 1) := by decide +kernel
theorem d3_10 : decode jdk_42_method_54_code 10 = .ok (.ireturn, 1) := by decide +kernel
def Q_rmLen (Z : State) (a1 : Addr) (va : Addr) (kb : ClassId) (b0 : Int32) (b1 : Int32) (b2 : Int32) (b3 : Int32) (cs : Int32) (h0 : Heap) (n0 : Nat) (v : Option Value) (h : Heap) (L : List Loc) : Prop := v = some (.int 4) ∧ Fr n0 L ∧ h = h0
theorem ef_rmLen (m : MethodId) (x0 : Addr) : entryFrame m #[(.ref x0)] 1 = mkF m 0 #[.val (.ref x0)] [] := by first | (simp [entryFrame, mkF, argsToLocals, Value.category]; done) | rfl
set_option maxRecDepth 65536 in
set_option maxHeartbeats 40000000 in
theorem rmLen (l : Launch) (Z : State) (a0 : Array Value) (hw : ∀ d ∈ tables_1, d.before a0 Z = true) (ws : List Jvm.Cond) (a1 : Addr) (va : Addr) (kb : ClassId) (b0 : Int32) (b1 : Int32) (b2 : Int32) (b3 : Int32) (cs : Int32) (h0 : Heap) (n0 : Nat) (Z0 : n0 ≤ h0.size) (Es : Exa Z h0 a1 STx) (Fsv : Fld Z h0 a1 STx "value" "[B" (.ref va)) (Fsc : Fld Z h0 a1 STx "coder" "B" (.int 0)) (Ars : Arv Z h0 va kb .byte (4 : Int32) [(.int b0), (.int b1), (.int b2), (.int b3)] (.int 0)) (Scs : Sta Z h0 STx "COMPACT_STRINGS" "Z" (.int cs)) (P_cs : ¬ (cs = (0 : Int32))) :
    MetFree l (⟨STx, "length", "()I"⟩ : MethodName) (head1 (Jvm.Cond.code (⟨STx, "length", "()I"⟩ : MethodName) jdk_42_method_54_code 1 (some .int) :: ws) ({ frames := 1, cells := 0, slots := 0, locals := 13 } : Room)) (fun a U => a = #[(.ref a1)] ∧ Z.Warmed39 U.vm ∧ U.heap = h0) (fun _ _ _ _ _ => True) (fun _ U o U' => ∃ v L, o = .returned v ∧ Q_rmLen Z a1 va kb b0 b1 b2 b3 cs h0 n0 v U'.heap L ∧ FrameEnd U o U' L ({ frames := 1, cells := 0, slots := 0, locals := 13 } : Room).cells ({ frames := 1, cells := 0, slots := 0, locals := 13 } : Room).slots) := by
  refine MetFree.of_bodySF (plainFor_of_name pn_0) hisR ?_
  intro p e s m args below meth c s₁ Bd hml0 hP hK
  obtain ⟨rfl, hZ, hh⟩ := hP
  have hx := Bd.exec
  have hby := Bd.bytes
  have hml : c.maxLocals = 1 := hml0
  have hown : s.vm.findClass STx = some m.cls := findClass_of_methodNamed Bd.named
  have hnm := (name_of_methodNamed Bd.named Bd.method).1
  have X0 : Stand p l e ({ frames := 1, cells := 0, slots := 0, locals := 13 } : Room) s m #[(.ref a1)] below meth c s₁ [] 0 0 := Stand.of_body Bd
  have e0 : s₁.heap = h0 := by rw [← hh, Bd.state]; rfl
  have N0 := Fr.nil n0
  refine own_go (own_lift (fun t k => castTop (ef_rmLen m a1) k) ?_)
  show own_Go p.tables e below (s₁.setTop (mkF m 0 #[rv a1] [])) _
  have sg1 : ∀ t, Steps p.tables e below (s₁.setTop (mkF m 1 #[rv a1] [(.ref a1)])) t → Steps p.tables e below (s₁.setTop (mkF m 0 #[rv a1] [])) t := by
    intro t k
    refine XS.aloadN X0.here hx rfl (hb hby d3_0) rfl rfl ?_
    show Steps p.tables e below (s₁.setTop (mkF m 1 #[rv a1] [(.ref a1)])) _
    exact k
  refine own_lift sg1 ?_
  show own_Go p.tables e below (s₁.setTop (mkF m 1 #[rv a1] [(.ref a1)])) _
  obtain ⟨T2, X2, e2, st2⟩ := getF X0 hx hZ hown (host := "") (Or.inl (wd hw 35 rfl)) Via.refl e0 Fsv (g := (mkF m 1 #[rv a1] [(.ref a1)])) rfl rfl (hb hby d3_1)
  refine own_lift st2 ?_
  show own_Go p.tables e below (T2.setTop (mkF m 4 #[rv a1] [(.ref va)])) _
  obtain ⟨cl3, Ar3, -, Sx3, N3', -, -⟩ := id (Ars)
  have st3 : ∀ t, Steps p.tables e below (T2.setTop (mkF m 5 #[rv a1] [(.int 4)])) t → Steps p.tables e below (T2.setTop (mkF m 4 #[rv a1] [(.ref va)])) t := by
    intro t k
    refine X2.arraylength hx (by rw [e2]; exact Ar3.1) (State.isArrayOf_alike hZ.alike Ar3.2.1) (g := (mkF m 4 #[rv a1] [(.ref va)])) rfl rfl (hb hby d3_4) _ ?_
    rw [len_of Sx3 N3']
    exact k
  refine own_lift st3 ?_
  show own_Go p.tables e below (T2.setTop (mkF m 5 #[rv a1] [(.int 4)])) _
  have sg4 : ∀ t, Steps p.tables e below (T2.setTop (mkF m 6 #[rv a1] [(.ref a1), (.int 4)])) t → Steps p.tables e below (T2.setTop (mkF m 5 #[rv a1] [(.int 4)])) t := by
    intro t k
    refine XS.aloadN X2.here hx rfl (hb hby d3_5) rfl rfl ?_
    show Steps p.tables e below (T2.setTop (mkF m 6 #[rv a1] [(.ref a1), (.int 4)])) _
    exact k
  refine own_lift sg4 ?_
  show own_Go p.tables e below (T2.setTop (mkF m 6 #[rv a1] [(.ref a1), (.int 4)])) _
  obtain ⟨cq5, kq5, q5a, q5b, q5c⟩ := isOf hZ e2 Es
  obtain ⟨_, _, ⟨T5, Lx5, kx5, nx5⟩, -, X5, ⟨Lc5, hQ5, lx5, yx5, zx5⟩, st5⟩ := X2.virtualBack hx (y := (⟨STx, "coder", "()B"⟩ : MethodName)) (z := (⟨STx, "coder", "()B"⟩ : MethodName)) hown (mvT hZ (wd hw 69 rfl)) (mvT hZ (wd hw 70 rfl)) (notFace_of_selects (args := #[]) (mvT hZ (wd hw 72 rfl))) (mvT hZ (wd hw 72 rfl)) (mvT hZ (wd hw 71 rfl)) (by decide) (backOf (W := 1) (rmCoder l Z a0 hw [] a1 cs h0 n0 Z0 Fsc Scs P_cs) hZ (wd hw 73 rfl) (wd hw 10 rfl) (by decide) (by decide)) q5a q5c (g := (mkF m 6 #[rv a1] [(.ref a1), (.int 4)])) rfl (by rw [hml]; rfl) (Steps.refl _) (argsL := []) (rest := [(.int 4)]) (lenOf pd_0 rfl) rfl (by show 2 * 0 + _ ≤ _; exact Nat.le_of_eq rfl) (hb hby d3_6) (fun _ _ => ⟨rfl, e2, (by decide : 0 + 0 ≤ _), (by decide : 0 + 0 ≤ _)⟩)
  dsimp only [Pt.U, Pt.locs, Pt.cells, Pt.slots] at X5 lx5 yx5 zx5 st5 hQ5
  subst lx5 yx5 zx5
  obtain ⟨rfl, N5q, e5⟩ := hQ5
  have N5 := Fr.app N0 N5q
  refine own_lift (fun t k => st5.trans k) ?_
  show own_Go p.tables e below (T5.setTop (mkF m 9 #[rv a1] [(.int 0), (.int 4)])) _
  have sg6 : ∀ t, Steps p.tables e below (T5.setTop (mkF m 10 #[rv a1] [(.int 4)])) t → Steps p.tables e below (T5.setTop (mkF m 9 #[rv a1] [(.int 0), (.int 4)])) t := by
    intro t k
    refine XS.ishr X5.here hx rfl (hb hby d3_9) rfl ?_
    show Steps p.tables e below (T5.setTop (mkF m 10 #[rv a1] [(.int 4)])) _
    exact k
  refine own_lift sg6 ?_
  show own_Go p.tables e below (T5.setTop (mkF m 10 #[rv a1] [(.int 4)])) _
  obtain ⟨fs, hr, hrun, hended, hW, hsame⟩ := X5.leave (v := some (.int 4)) (fun h => by rw [Bd.returns] at h; cases h)
  refine ⟨_, _, ?_, hrun, hended, _, _, rfl, ?_, ⟨_, rfl⟩, hW, hsame.mono (by decide) (by decide)⟩
  · exact retI X5 hx Bd.returns (hb hby d3_10) hr
  · show Q_rmLen Z a1 va kb b0 b1 b2 b3 cs h0 n0 _ T5.heap _
    rw [e5]
    exact ⟨rfl, N5, rfl⟩
theorem pn_1 : plainName L1x = true := by first | (simp [plainName, overriddenIn]; done) | decide +kernel
theorem d4_0 : decode jdk_43_method_4_code 0 = .ok (.iload_n 0, 1) := by decide +kernel
theorem d4_1 : decode jdk_43_method_4_code 1 = .ok (.ifCond .lt 14, 3) := by decide +kernel
theorem d4_4 : decode jdk_43_method_4_code 4 = .ok (.iload_n 0, 1) := by decide +kernel
theorem d4_5 : decode jdk_43_method_4_code 5 = .ok (.sipush 255, 3) := by decide +kernel
theorem d4_8 : decode jdk_43_method_4_code 8 = .ok (.if_icmp .gt 7, 3) := by decide +kernel
theorem d4_11 : decode jdk_43_method_4_code 11 = .ok (.iconst 1, 1) := by decide +kernel
theorem d4_12 : decode jdk_43_method_4_code 12 = .ok (.goto 4, 3) := by decide +kernel
theorem d4_16 : decode jdk_43_method_4_code 16 = .ok (.ireturn, 1) := by decide +kernel
def Q_rmCan (Z : State) (p1 : Int32) (h0 : Heap) (n0 : Nat) (v : Option Value) (h : Heap) (L : List Loc) : Prop := v = some (.int 1) ∧ Fr n0 L ∧ h = h0
theorem ef_rmCan (m : MethodId) (x0 : Int32) : entryFrame m #[(.int x0)] 1 = mkF m 0 #[.val (.int x0)] [] := by first | (simp [entryFrame, mkF, argsToLocals, Value.category]; done) | rfl
set_option maxRecDepth 65536 in
set_option maxHeartbeats 40000000 in
theorem rmCan (l : Launch) (Z : State) (a0 : Array Value) (hw : ∀ d ∈ tables_1, d.before a0 Z = true) (ws : List Jvm.Cond) (p1 : Int32) (h0 : Heap) (n0 : Nat) (Z0 : n0 ≤ h0.size)  (c1 : ¬ (p1 < (0 : Int32))) (c2 : ¬ ((255 : Int32) < p1)) :
    MetFree l (⟨L1x, "canEncode", "(I)Z"⟩ : MethodName) (head1 (Jvm.Cond.code (⟨L1x, "canEncode", "(I)Z"⟩ : MethodName) jdk_43_method_4_code 1 (some .boolean) :: ws) ({ frames := 0, cells := 0, slots := 0, locals := 0 } : Room)) (fun a U => a = #[(.int p1)] ∧ Z.Warmed39 U.vm ∧ U.heap = h0) (fun _ _ _ _ _ => True) (fun _ U o U' => ∃ v L, o = .returned v ∧ Q_rmCan Z p1 h0 n0 v U'.heap L ∧ FrameEnd U o U' L ({ frames := 0, cells := 0, slots := 0, locals := 0 } : Room).cells ({ frames := 0, cells := 0, slots := 0, locals := 0 } : Room).slots) := by
  refine MetFree.of_bodySF (plainFor_of_name pn_1) hisR ?_
  intro p e s m args below meth c s₁ Bd hml0 hP hK
  obtain ⟨rfl, hZ, hh⟩ := hP
  have hx := Bd.exec
  have hby := Bd.bytes
  have hml : c.maxLocals = 1 := hml0
  have hown : s.vm.findClass L1x = some m.cls := findClass_of_methodNamed Bd.named
  have hnm := (name_of_methodNamed Bd.named Bd.method).1
  have X0 : Stand p l e ({ frames := 0, cells := 0, slots := 0, locals := 0 } : Room) s m #[(.int p1)] below meth c s₁ [] 0 0 := Stand.of_body Bd
  have e0 : s₁.heap = h0 := by rw [← hh, Bd.state]; rfl
  have N0 := Fr.nil n0
  refine own_go (own_lift (fun t k => castTop (ef_rmCan m p1) k) ?_)
  show own_Go p.tables e below (s₁.setTop (mkF m 0 #[iv p1] [])) _
  have sg1 : ∀ t, Steps p.tables e below (s₁.setTop (mkF m 16 #[iv p1] [(.int 1)])) t → Steps p.tables e below (s₁.setTop (mkF m 0 #[iv p1] [])) t := by
    intro t k
    refine XS.iloadN X0.here hx rfl (hb hby d4_0) rfl ?_
    show Steps p.tables e below (s₁.setTop (mkF m 1 #[iv p1] [(.int p1)])) _
    refine XS.ifNo X0.here hx rfl (hb hby d4_1) rfl ((if0 _ _).trans (flt c1).1) ?_
    refine XS.iloadN X0.here hx rfl (hb hby d4_4) rfl ?_
    refine XS.sipush X0.here hx rfl (hb hby d4_5) ?_
    show Steps p.tables e below (s₁.setTop (mkF m 8 #[iv p1] [(.int 255), (.int p1)])) _
    refine XS.icmpNo X0.here hx rfl (hb hby d4_8) rfl (flt c2).2.2.1 ?_
    refine XS.iconst X0.here hx rfl (hb hby d4_11) ?_
    refine XS.goto X0.here hx rfl (pc0 := 12) (pc' := 16) rfl (hb hby d4_12) (by decide) (by decide) ?_
    show Steps p.tables e below (s₁.setTop (mkF m 16 #[iv p1] [(.int 1)])) _
    exact k
  refine own_lift sg1 ?_
  show own_Go p.tables e below (s₁.setTop (mkF m 16 #[iv p1] [(.int 1)])) _
  obtain ⟨fs, hr, hrun, hended, hW, hsame⟩ := X0.leave (v := some (.int 1)) (fun h => by rw [Bd.returns] at h; cases h)
  refine ⟨_, _, ?_, hrun, hended, _, _, rfl, ?_, ⟨_, rfl⟩, hW, hsame.mono (by decide) (by decide)⟩
  · exact retN X0 hx (t := .boolean) Bd.returns (by simp) (hb hby d4_16) hr
  · show Q_rmCan Z p1 h0 n0 _ s₁.heap _
    rw [e0]
    exact ⟨rfl, N0, rfl⟩
theorem d5_0 : decode jdk_29_method_65_code 0 = .ok (.iload_n 0, 1) := by decide +kernel
theorem d5_1 : decode jdk_29_method_65_code 1 = .ok (.iload_n 1, 1) := by decide +kernel
theorem d5_2 : decode jdk_29_method_65_code 2 = .ok (.if_icmp .lt 7, 3) := by decide +kernel
theorem d5_5 : decode jdk_29_method_65_code 5 = .ok (.iload_n 0, 1) := by decide +kernel
theorem d5_6 : decode jdk_29_method_65_code 6 = .ok (.goto 4, 3) := by decide +kernel
theorem d5_10 : decode jdk_29_method_65_code 10 = .ok (.ireturn, 1) := by decide +kernel
def Q_rmMax (Z : State) (p1 : Int32) (p2 : Int32) (h0 : Heap) (n0 : Nat) (v : Option Value) (h : Heap) (L : List Loc) : Prop := v = some (.int p1) ∧ Fr n0 L ∧ h = h0
theorem ef_rmMax (m : MethodId) (x0 : Int32) (x1 : Int32) : entryFrame m #[(.int x0), (.int x1)] 2 = mkF m 0 #[.val (.int x0), .val (.int x1)] [] := by first | (simp [entryFrame, mkF, argsToLocals, Value.category]; done) | rfl
set_option maxRecDepth 65536 in
set_option maxHeartbeats 40000000 in
theorem rmMax (l : Launch) (Z : State) (a0 : Array Value) (hw : ∀ d ∈ tables_1, d.before a0 Z = true) (ws : List Jvm.Cond) (p1 : Int32) (p2 : Int32) (h0 : Heap) (n0 : Nat) (Z0 : n0 ≤ h0.size)  (c1 : ¬ (p1 < p2)) :
    MetFree l (⟨"java/lang/Math", "max", "(II)I"⟩ : MethodName) (head1 (Jvm.Cond.code (⟨"java/lang/Math", "max", "(II)I"⟩ : MethodName) jdk_29_method_65_code 2 (some .int) :: ws) ({ frames := 0, cells := 0, slots := 0, locals := 0 } : Room)) (fun a U => a = #[(.int p1), (.int p2)] ∧ Z.Warmed39 U.vm ∧ U.heap = h0) (fun _ _ _ _ _ => True) (fun _ U o U' => ∃ v L, o = .returned v ∧ Q_rmMax Z p1 p2 h0 n0 v U'.heap L ∧ FrameEnd U o U' L ({ frames := 0, cells := 0, slots := 0, locals := 0 } : Room).cells ({ frames := 0, cells := 0, slots := 0, locals := 0 } : Room).slots) := by
  refine MetFree.of_bodySF (Jvm.Free.JP.mathPlain rfl (by decide +kernel)) hisR ?_
  intro p e s m args below meth c s₁ Bd hml0 hP hK
  obtain ⟨rfl, hZ, hh⟩ := hP
  have hx := Bd.exec
  have hby := Bd.bytes
  have hml : c.maxLocals = 2 := hml0
  have hown : s.vm.findClass "java/lang/Math" = some m.cls := findClass_of_methodNamed Bd.named
  have hnm := (name_of_methodNamed Bd.named Bd.method).1
  have X0 : Stand p l e ({ frames := 0, cells := 0, slots := 0, locals := 0 } : Room) s m #[(.int p1), (.int p2)] below meth c s₁ [] 0 0 := Stand.of_body Bd
  have e0 : s₁.heap = h0 := by rw [← hh, Bd.state]; rfl
  have N0 := Fr.nil n0
  refine own_go (own_lift (fun t k => castTop (ef_rmMax m p1 p2) k) ?_)
  show own_Go p.tables e below (s₁.setTop (mkF m 0 #[iv p1, iv p2] [])) _
  have sg1 : ∀ t, Steps p.tables e below (s₁.setTop (mkF m 10 #[iv p1, iv p2] [(.int p1)])) t → Steps p.tables e below (s₁.setTop (mkF m 0 #[iv p1, iv p2] [])) t := by
    intro t k
    refine XS.iloadN X0.here hx rfl (hb hby d5_0) rfl ?_
    show Steps p.tables e below (s₁.setTop (mkF m 1 #[iv p1, iv p2] [(.int p1)])) _
    refine XS.iloadN X0.here hx rfl (hb hby d5_1) rfl ?_
    refine XS.icmpNo X0.here hx rfl (hb hby d5_2) rfl (flt c1).1 ?_
    refine XS.iloadN X0.here hx rfl (hb hby d5_5) rfl ?_
    show Steps p.tables e below (s₁.setTop (mkF m 6 #[iv p1, iv p2] [(.int p1)])) _
    refine XS.goto X0.here hx rfl (pc0 := 6) (pc' := 10) rfl (hb hby d5_6) (by decide) (by decide) ?_
    show Steps p.tables e below (s₁.setTop (mkF m 10 #[iv p1, iv p2] [(.int p1)])) _
    exact k
  refine own_lift sg1 ?_
  show own_Go p.tables e below (s₁.setTop (mkF m 10 #[iv p1, iv p2] [(.int p1)])) _
  obtain ⟨fs, hr, hrun, hended, hW, hsame⟩ := X0.leave (v := some (.int p1)) (fun h => by rw [Bd.returns] at h; cases h)
  refine ⟨_, _, ?_, hrun, hended, _, _, rfl, ?_, ⟨_, rfl⟩, hW, hsame.mono (by decide) (by decide)⟩
  · exact retI X0 hx Bd.returns (hb hby d5_10) hr
  · show Q_rmMax Z p1 p2 h0 n0 _ s₁.heap _
    rw [e0]
    exact ⟨rfl, N0, rfl⟩
theorem d6_0 : decode jdk_29_method_69_code 0 = .ok (.iload_n 0, 1) := by decide +kernel
theorem d6_1 : decode jdk_29_method_69_code 1 = .ok (.iload_n 1, 1) := by decide +kernel
theorem d6_2 : decode jdk_29_method_69_code 2 = .ok (.if_icmp .gt 7, 3) := by decide +kernel
theorem d6_5 : decode jdk_29_method_69_code 5 = .ok (.iload_n 0, 1) := by decide +kernel
theorem d6_6 : decode jdk_29_method_69_code 6 = .ok (.goto 4, 3) := by decide +kernel
theorem d6_10 : decode jdk_29_method_69_code 10 = .ok (.ireturn, 1) := by decide +kernel
def Q_rmMin (Z : State) (p1 : Int32) (p2 : Int32) (h0 : Heap) (n0 : Nat) (v : Option Value) (h : Heap) (L : List Loc) : Prop := v = some (.int p1) ∧ Fr n0 L ∧ h = h0
theorem ef_rmMin (m : MethodId) (x0 : Int32) (x1 : Int32) : entryFrame m #[(.int x0), (.int x1)] 2 = mkF m 0 #[.val (.int x0), .val (.int x1)] [] := by first | (simp [entryFrame, mkF, argsToLocals, Value.category]; done) | rfl
set_option maxRecDepth 65536 in
set_option maxHeartbeats 40000000 in
theorem rmMin (l : Launch) (Z : State) (a0 : Array Value) (hw : ∀ d ∈ tables_1, d.before a0 Z = true) (ws : List Jvm.Cond) (p1 : Int32) (p2 : Int32) (h0 : Heap) (n0 : Nat) (Z0 : n0 ≤ h0.size)  (c1 : ¬ (p2 < p1)) :
    MetFree l (⟨"java/lang/Math", "min", "(II)I"⟩ : MethodName) (head1 (Jvm.Cond.code (⟨"java/lang/Math", "min", "(II)I"⟩ : MethodName) jdk_29_method_69_code 2 (some .int) :: ws) ({ frames := 0, cells := 0, slots := 0, locals := 0 } : Room)) (fun a U => a = #[(.int p1), (.int p2)] ∧ Z.Warmed39 U.vm ∧ U.heap = h0) (fun _ _ _ _ _ => True) (fun _ U o U' => ∃ v L, o = .returned v ∧ Q_rmMin Z p1 p2 h0 n0 v U'.heap L ∧ FrameEnd U o U' L ({ frames := 0, cells := 0, slots := 0, locals := 0 } : Room).cells ({ frames := 0, cells := 0, slots := 0, locals := 0 } : Room).slots) := by
  refine MetFree.of_bodySF (Jvm.Free.JP.mathPlain rfl (by decide +kernel)) hisR ?_
  intro p e s m args below meth c s₁ Bd hml0 hP hK
  obtain ⟨rfl, hZ, hh⟩ := hP
  have hx := Bd.exec
  have hby := Bd.bytes
  have hml : c.maxLocals = 2 := hml0
  have hown : s.vm.findClass "java/lang/Math" = some m.cls := findClass_of_methodNamed Bd.named
  have hnm := (name_of_methodNamed Bd.named Bd.method).1
  have X0 : Stand p l e ({ frames := 0, cells := 0, slots := 0, locals := 0 } : Room) s m #[(.int p1), (.int p2)] below meth c s₁ [] 0 0 := Stand.of_body Bd
  have e0 : s₁.heap = h0 := by rw [← hh, Bd.state]; rfl
  have N0 := Fr.nil n0
  refine own_go (own_lift (fun t k => castTop (ef_rmMin m p1 p2) k) ?_)
  show own_Go p.tables e below (s₁.setTop (mkF m 0 #[iv p1, iv p2] [])) _
  have sg1 : ∀ t, Steps p.tables e below (s₁.setTop (mkF m 10 #[iv p1, iv p2] [(.int p1)])) t → Steps p.tables e below (s₁.setTop (mkF m 0 #[iv p1, iv p2] [])) t := by
    intro t k
    refine XS.iloadN X0.here hx rfl (hb hby d6_0) rfl ?_
    show Steps p.tables e below (s₁.setTop (mkF m 1 #[iv p1, iv p2] [(.int p1)])) _
    refine XS.iloadN X0.here hx rfl (hb hby d6_1) rfl ?_
    refine XS.icmpNo X0.here hx rfl (hb hby d6_2) rfl (flt c1).2.2.1 ?_
    refine XS.iloadN X0.here hx rfl (hb hby d6_5) rfl ?_
    show Steps p.tables e below (s₁.setTop (mkF m 6 #[iv p1, iv p2] [(.int p1)])) _
    refine XS.goto X0.here hx rfl (pc0 := 6) (pc' := 10) rfl (hb hby d6_6) (by decide) (by decide) ?_
    show Steps p.tables e below (s₁.setTop (mkF m 10 #[iv p1, iv p2] [(.int p1)])) _
    exact k
  refine own_lift sg1 ?_
  show own_Go p.tables e below (s₁.setTop (mkF m 10 #[iv p1, iv p2] [(.int p1)])) _
  obtain ⟨fs, hr, hrun, hended, hW, hsame⟩ := X0.leave (v := some (.int p1)) (fun h => by rw [Bd.returns] at h; cases h)
  refine ⟨_, _, ?_, hrun, hended, _, _, rfl, ?_, ⟨_, rfl⟩, hW, hsame.mono (by decide) (by decide)⟩
  · exact retI X0 hx Bd.returns (hb hby d6_10) hr
  · show Q_rmMin Z p1 p2 h0 n0 _ s₁.heap _
    rw [e0]
    exact ⟨rfl, N0, rfl⟩
theorem d7_0 : decode jdk_43_method_23_code 0 = .ok (.iload_n 1, 1) := by decide +kernel
theorem d7_1 : decode jdk_43_method_23_code 1 = .ok (.i2b, 1) := by decide +kernel
theorem d7_2 : decode jdk_43_method_23_code 2 = .ok (.istore 4, 2) := by decide +kernel
theorem d7_4 : decode jdk_43_method_23_code 4 = .ok (.iload_n 2, 1) := by decide +kernel
theorem d7_5 : decode jdk_43_method_23_code 5 = .ok (.istore 5, 2) := by decide +kernel
theorem d7_7 : decode jdk_43_method_23_code 7 = .ok (.iload 5, 2) := by decide +kernel
theorem d7_9 : decode jdk_43_method_23_code 9 = .ok (.iload_n 3, 1) := by decide +kernel
theorem d7_10 : decode jdk_43_method_23_code 10 = .ok (.if_icmp .ge 21, 3) := by decide +kernel
theorem d7_13 : decode jdk_43_method_23_code 13 = .ok (.aload_n 0, 1) := by decide +kernel
theorem d7_14 : decode jdk_43_method_23_code 14 = .ok (.iload 5, 2) := by decide +kernel
theorem d7_16 : decode jdk_43_method_23_code 16 = .ok (.baload, 1) := by decide +kernel
theorem d7_17 : decode jdk_43_method_23_code 17 = .ok (.iload 4, 2) := by decide +kernel
theorem d7_19 : decode jdk_43_method_23_code 19 = .ok (.if_icmp .ne 6, 3) := by decide +kernel
theorem d7_22 : decode jdk_43_method_23_code 22 = .ok (.iload 5, 2) := by decide +kernel
theorem d7_24 : decode jdk_43_method_23_code 24 = .ok (.ireturn, 1) := by decide +kernel
def Q_rmIdc0 (Z : State) (ar : Addr) (kb : ClassId) (b0 : Int32) (b1 : Int32) (b2 : Int32) (b3 : Int32) (h0 : Heap) (n0 : Nat) (v : Option Value) (h : Heap) (L : List Loc) : Prop := v = some (.int 0) ∧ Fr n0 L ∧ h = h0
theorem ef_rmIdc0 (m : MethodId) (x0 : Addr) (x1 : Int32) (x2 : Int32) (x3 : Int32) : entryFrame m #[(.ref x0), (.int 10), (.int 0), (.int 4)] 6 = mkF m 0 #[.val (.ref x0), .val (.int 10), .val (.int 0), .val (.int 4), .unset, .unset] [] := by first | (simp [entryFrame, mkF, argsToLocals, Value.category]; done) | rfl
set_option maxRecDepth 65536 in
set_option maxHeartbeats 40000000 in
theorem rmIdc0 (l : Launch) (Z : State) (a0 : Array Value) (hw : ∀ d ∈ tables_1, d.before a0 Z = true) (ws : List Jvm.Cond) (ar : Addr) (kb : ClassId) (b0 : Int32) (b1 : Int32) (b2 : Int32) (b3 : Int32) (h0 : Heap) (n0 : Nat) (Z0 : n0 ≤ h0.size) (Ars : Arv Z h0 ar kb .byte (4 : Int32) [(.int b0), (.int b1), (.int b2), (.int b3)] (.int 0)) (d0 : b0 = (10 : Int32)) :
    MetFree l (⟨L1x, "indexOfChar", "([BIII)I"⟩ : MethodName) (head1 (Jvm.Cond.code (⟨L1x, "indexOfChar", "([BIII)I"⟩ : MethodName) jdk_43_method_23_code 6 (some .int) :: ws) ({ frames := 0, cells := 0, slots := 0, locals := 0 } : Room)) (fun a U => a = #[(.ref ar), (.int 10), (.int 0), (.int 4)] ∧ Z.Warmed39 U.vm ∧ U.heap = h0) (fun _ _ _ _ _ => True) (fun _ U o U' => ∃ v L, o = .returned v ∧ Q_rmIdc0 Z ar kb b0 b1 b2 b3 h0 n0 v U'.heap L ∧ FrameEnd U o U' L ({ frames := 0, cells := 0, slots := 0, locals := 0 } : Room).cells ({ frames := 0, cells := 0, slots := 0, locals := 0 } : Room).slots) := by
  refine MetFree.of_bodySF (plainFor_of_name pn_1) hisR ?_
  intro p e s m args below meth c s₁ Bd hml0 hP hK
  obtain ⟨rfl, hZ, hh⟩ := hP
  have hx := Bd.exec
  have hby := Bd.bytes
  have hml : c.maxLocals = 6 := hml0
  have hown : s.vm.findClass L1x = some m.cls := findClass_of_methodNamed Bd.named
  have hnm := (name_of_methodNamed Bd.named Bd.method).1
  have X0 : Stand p l e ({ frames := 0, cells := 0, slots := 0, locals := 0 } : Room) s m #[(.ref ar), (.int 10), (.int 0), (.int 4)] below meth c s₁ [] 0 0 := Stand.of_body Bd
  have e0 : s₁.heap = h0 := by rw [← hh, Bd.state]; rfl
  have N0 := Fr.nil n0
  refine own_go (own_lift (fun t k => castTop (ef_rmIdc0 m ar (10 : Int32) (0 : Int32) (4 : Int32)) k) ?_)
  show own_Go p.tables e below (s₁.setTop (mkF m 0 #[rv ar, iv 10, iv 0, iv 4, .unset, .unset] [])) _
  have sg1 : ∀ t, Steps p.tables e below (s₁.setTop (mkF m 16 #[rv ar, iv 10, iv 0, iv 4, iv 10, iv 0] [(.int 0), (.ref ar)])) t → Steps p.tables e below (s₁.setTop (mkF m 0 #[rv ar, iv 10, iv 0, iv 4, .unset, .unset] [])) t := by
    intro t k
    refine XS.iloadN X0.here hx rfl (hb hby d7_0) rfl ?_
    show Steps p.tables e below (s₁.setTop (mkF m 1 #[rv ar, iv 10, iv 0, iv 4, .unset, .unset] [(.int 10)])) _
    refine XS.i2b X0.here hx rfl (hb hby d7_1) rfl ?_
    refine XS.istore X0.here hx rfl (hb hby d7_2) rfl (l' := #[rv ar, iv 10, iv 0, iv 4, iv 10, .unset]) rfl ?_
    refine XS.iloadN X0.here hx rfl (hb hby d7_4) rfl ?_
    show Steps p.tables e below (s₁.setTop (mkF m 5 #[rv ar, iv 10, iv 0, iv 4, iv 10, .unset] [(.int 0)])) _
    refine XS.istore X0.here hx rfl (hb hby d7_5) rfl (l' := #[rv ar, iv 10, iv 0, iv 4, iv 10, iv 0]) rfl ?_
    refine XS.iload X0.here hx rfl (hb hby d7_7) rfl ?_
    refine XS.iloadN X0.here hx rfl (hb hby d7_9) rfl ?_
    show Steps p.tables e below (s₁.setTop (mkF m 10 #[rv ar, iv 10, iv 0, iv 4, iv 10, iv 0] [(.int 4), (.int 0)])) _
    refine XS.icmpNo X0.here hx rfl (hb hby d7_10) rfl (tlt (by decide : (0 : Int32) < (4 : Int32))).2.1 ?_
    refine XS.aloadN X0.here hx rfl (hb hby d7_13) rfl rfl ?_
    refine XS.iload X0.here hx rfl (hb hby d7_14) rfl ?_
    show Steps p.tables e below (s₁.setTop (mkF m 16 #[rv ar, iv 10, iv 0, iv 4, iv 10, iv 0] [(.int 0), (.ref ar)])) _
    exact k
  refine own_lift sg1 ?_
  show own_Go p.tables e below (s₁.setTop (mkF m 16 #[rv ar, iv 10, iv 0, iv 4, iv 10, iv 0] [(.int 0), (.ref ar)])) _
  obtain ⟨cl2, Ar2, qx2, Sx2, N2', H2', G2'⟩ := id (Ars)
  have hin2 : ¬ ((0 : Int32) < 0 ∨ cl2.slots.size ≤ ((0 : Int32)).toNatClampNeg) := inb_of Sx2 ⟨(by decide : ¬ ((0 : Int32) < (0 : Int32))), (by decide : (0 : Int32) < (4 : Int32))⟩
  have hat2 : cl2.slots[((0 : Int32)).toNatClampNeg]? = some (.int b0) := Has.at H2' hin2 rfl
  have sg3 : ∀ t, Steps p.tables e below (s₁.setTop (mkF m 24 #[rv ar, iv 10, iv 0, iv 4, iv 10, iv 0] [(.int 0)])) t → Steps p.tables e below (s₁.setTop (mkF m 16 #[rv ar, iv 10, iv 0, iv 4, iv 10, iv 0] [(.int 0), (.ref ar)])) t := by
    intro t k
    refine X0.baloadBytes hx (j := (0 : Int32)) (v := (.int b0)) (by rw [e0]; exact Ar2.1) (State.isArrayOf_alike hZ.alike Ar2.2.1) Ar2.2.2 hin2 hat2 (g := (mkF m 16 #[rv ar, iv 10, iv 0, iv 4, iv 10, iv 0] [(.int 0), (.ref ar)])) rfl rfl (hb hby d7_16) _ ?_
    show Steps p.tables e below (s₁.setTop (mkF m 17 #[rv ar, iv 10, iv 0, iv 4, iv 10, iv 0] [(.int b0)])) _
    refine XS.iload X0.here hx rfl (hb hby d7_17) rfl ?_
    refine XS.icmpNo X0.here hx rfl (hb hby d7_19) rfl (teq d0).2 ?_
    refine XS.iload X0.here hx rfl (hb hby d7_22) rfl ?_
    show Steps p.tables e below (s₁.setTop (mkF m 24 #[rv ar, iv 10, iv 0, iv 4, iv 10, iv 0] [(.int 0)])) _
    exact k
  refine own_lift sg3 ?_
  show own_Go p.tables e below (s₁.setTop (mkF m 24 #[rv ar, iv 10, iv 0, iv 4, iv 10, iv 0] [(.int 0)])) _
  obtain ⟨fs, hr, hrun, hended, hW, hsame⟩ := X0.leave (v := some (.int 0)) (fun h => by rw [Bd.returns] at h; cases h)
  refine ⟨_, _, ?_, hrun, hended, _, _, rfl, ?_, ⟨_, rfl⟩, hW, hsame.mono (by decide) (by decide)⟩
  · exact retI X0 hx Bd.returns (hb hby d7_24) hr
  · show Q_rmIdc0 Z ar kb b0 b1 b2 b3 h0 n0 _ s₁.heap _
    rw [e0]
    exact ⟨rfl, N0, rfl⟩
theorem d7_25 : decode jdk_43_method_23_code 25 = .ok (.iinc 5 1, 3) := by decide +kernel
theorem d7_28 : decode jdk_43_method_23_code 28 = .ok (.goto (-21), 3) := by decide +kernel
def Q_rmIdc1 (Z : State) (ar : Addr) (kb : ClassId) (b0 : Int32) (b1 : Int32) (b2 : Int32) (b3 : Int32) (h0 : Heap) (n0 : Nat) (v : Option Value) (h : Heap) (L : List Loc) : Prop := v = some (.int 1) ∧ Fr n0 L ∧ h = h0
theorem ef_rmIdc1 (m : MethodId) (x0 : Addr) (x1 : Int32) (x2 : Int32) (x3 : Int32) : entryFrame m #[(.ref x0), (.int 10), (.int 0), (.int 4)] 6 = mkF m 0 #[.val (.ref x0), .val (.int 10), .val (.int 0), .val (.int 4), .unset, .unset] [] := by first | (simp [entryFrame, mkF, argsToLocals, Value.category]; done) | rfl
set_option maxRecDepth 65536 in
set_option maxHeartbeats 40000000 in
theorem rmIdc1 (l : Launch) (Z : State) (a0 : Array Value) (hw : ∀ d ∈ tables_1, d.before a0 Z = true) (ws : List Jvm.Cond) (ar : Addr) (kb : ClassId) (b0 : Int32) (b1 : Int32) (b2 : Int32) (b3 : Int32) (h0 : Heap) (n0 : Nat) (Z0 : n0 ≤ h0.size) (Ars : Arv Z h0 ar kb .byte (4 : Int32) [(.int b0), (.int b1), (.int b2), (.int b3)] (.int 0)) (d0 : ¬ (b0 = (10 : Int32))) (d1 : b1 = (10 : Int32)) :
    MetFree l (⟨L1x, "indexOfChar", "([BIII)I"⟩ : MethodName) (head1 (Jvm.Cond.code (⟨L1x, "indexOfChar", "([BIII)I"⟩ : MethodName) jdk_43_method_23_code 6 (some .int) :: ws) ({ frames := 0, cells := 0, slots := 0, locals := 0 } : Room)) (fun a U => a = #[(.ref ar), (.int 10), (.int 0), (.int 4)] ∧ Z.Warmed39 U.vm ∧ U.heap = h0) (fun _ _ _ _ _ => True) (fun _ U o U' => ∃ v L, o = .returned v ∧ Q_rmIdc1 Z ar kb b0 b1 b2 b3 h0 n0 v U'.heap L ∧ FrameEnd U o U' L ({ frames := 0, cells := 0, slots := 0, locals := 0 } : Room).cells ({ frames := 0, cells := 0, slots := 0, locals := 0 } : Room).slots) := by
  refine MetFree.of_bodySF (plainFor_of_name pn_1) hisR ?_
  intro p e s m args below meth c s₁ Bd hml0 hP hK
  obtain ⟨rfl, hZ, hh⟩ := hP
  have hx := Bd.exec
  have hby := Bd.bytes
  have hml : c.maxLocals = 6 := hml0
  have hown : s.vm.findClass L1x = some m.cls := findClass_of_methodNamed Bd.named
  have hnm := (name_of_methodNamed Bd.named Bd.method).1
  have X0 : Stand p l e ({ frames := 0, cells := 0, slots := 0, locals := 0 } : Room) s m #[(.ref ar), (.int 10), (.int 0), (.int 4)] below meth c s₁ [] 0 0 := Stand.of_body Bd
  have e0 : s₁.heap = h0 := by rw [← hh, Bd.state]; rfl
  have N0 := Fr.nil n0
  refine own_go (own_lift (fun t k => castTop (ef_rmIdc1 m ar (10 : Int32) (0 : Int32) (4 : Int32)) k) ?_)
  show own_Go p.tables e below (s₁.setTop (mkF m 0 #[rv ar, iv 10, iv 0, iv 4, .unset, .unset] [])) _
  have sg1 : ∀ t, Steps p.tables e below (s₁.setTop (mkF m 16 #[rv ar, iv 10, iv 0, iv 4, iv 10, iv 0] [(.int 0), (.ref ar)])) t → Steps p.tables e below (s₁.setTop (mkF m 0 #[rv ar, iv 10, iv 0, iv 4, .unset, .unset] [])) t := by
    intro t k
    refine XS.iloadN X0.here hx rfl (hb hby d7_0) rfl ?_
    show Steps p.tables e below (s₁.setTop (mkF m 1 #[rv ar, iv 10, iv 0, iv 4, .unset, .unset] [(.int 10)])) _
    refine XS.i2b X0.here hx rfl (hb hby d7_1) rfl ?_
    refine XS.istore X0.here hx rfl (hb hby d7_2) rfl (l' := #[rv ar, iv 10, iv 0, iv 4, iv 10, .unset]) rfl ?_
    refine XS.iloadN X0.here hx rfl (hb hby d7_4) rfl ?_
    show Steps p.tables e below (s₁.setTop (mkF m 5 #[rv ar, iv 10, iv 0, iv 4, iv 10, .unset] [(.int 0)])) _
    refine XS.istore X0.here hx rfl (hb hby d7_5) rfl (l' := #[rv ar, iv 10, iv 0, iv 4, iv 10, iv 0]) rfl ?_
    refine XS.iload X0.here hx rfl (hb hby d7_7) rfl ?_
    refine XS.iloadN X0.here hx rfl (hb hby d7_9) rfl ?_
    show Steps p.tables e below (s₁.setTop (mkF m 10 #[rv ar, iv 10, iv 0, iv 4, iv 10, iv 0] [(.int 4), (.int 0)])) _
    refine XS.icmpNo X0.here hx rfl (hb hby d7_10) rfl (tlt (by decide : (0 : Int32) < (4 : Int32))).2.1 ?_
    refine XS.aloadN X0.here hx rfl (hb hby d7_13) rfl rfl ?_
    refine XS.iload X0.here hx rfl (hb hby d7_14) rfl ?_
    show Steps p.tables e below (s₁.setTop (mkF m 16 #[rv ar, iv 10, iv 0, iv 4, iv 10, iv 0] [(.int 0), (.ref ar)])) _
    exact k
  refine own_lift sg1 ?_
  show own_Go p.tables e below (s₁.setTop (mkF m 16 #[rv ar, iv 10, iv 0, iv 4, iv 10, iv 0] [(.int 0), (.ref ar)])) _
  obtain ⟨cl2, Ar2, qx2, Sx2, N2', H2', G2'⟩ := id (Ars)
  have hin2 : ¬ ((0 : Int32) < 0 ∨ cl2.slots.size ≤ ((0 : Int32)).toNatClampNeg) := inb_of Sx2 ⟨(by decide : ¬ ((0 : Int32) < (0 : Int32))), (by decide : (0 : Int32) < (4 : Int32))⟩
  have hat2 : cl2.slots[((0 : Int32)).toNatClampNeg]? = some (.int b0) := Has.at H2' hin2 rfl
  have sg3 : ∀ t, Steps p.tables e below (s₁.setTop (mkF m 16 #[rv ar, iv 10, iv 0, iv 4, iv 10, iv 1] [(.int 1), (.ref ar)])) t → Steps p.tables e below (s₁.setTop (mkF m 16 #[rv ar, iv 10, iv 0, iv 4, iv 10, iv 0] [(.int 0), (.ref ar)])) t := by
    intro t k
    refine X0.baloadBytes hx (j := (0 : Int32)) (v := (.int b0)) (by rw [e0]; exact Ar2.1) (State.isArrayOf_alike hZ.alike Ar2.2.1) Ar2.2.2 hin2 hat2 (g := (mkF m 16 #[rv ar, iv 10, iv 0, iv 4, iv 10, iv 0] [(.int 0), (.ref ar)])) rfl rfl (hb hby d7_16) _ ?_
    show Steps p.tables e below (s₁.setTop (mkF m 17 #[rv ar, iv 10, iv 0, iv 4, iv 10, iv 0] [(.int b0)])) _
    refine XS.iload X0.here hx rfl (hb hby d7_17) rfl ?_
    refine XS.icmpYes X0.here hx rfl (pc0 := 19) (pc' := 25) rfl (hb hby d7_19) rfl (feq d0).2 (by decide) (by decide) ?_
    refine XS.iinc X0.here hx rfl (hb hby d7_25) rfl (l' := #[rv ar, iv 10, iv 0, iv 4, iv 10, iv 1]) rfl ?_
    show Steps p.tables e below (s₁.setTop (mkF m 28 #[rv ar, iv 10, iv 0, iv 4, iv 10, iv 1] [])) _
    refine XS.goto X0.here hx rfl (pc0 := 28) (pc' := 7) rfl (hb hby d7_28) (by decide) (by decide) ?_
    refine XS.iload X0.here hx rfl (hb hby d7_7) rfl ?_
    refine XS.iloadN X0.here hx rfl (hb hby d7_9) rfl ?_
    show Steps p.tables e below (s₁.setTop (mkF m 10 #[rv ar, iv 10, iv 0, iv 4, iv 10, iv 1] [(.int 4), (.int 1)])) _
    refine XS.icmpNo X0.here hx rfl (hb hby d7_10) rfl (tlt (by decide : (1 : Int32) < (4 : Int32))).2.1 ?_
    refine XS.aloadN X0.here hx rfl (hb hby d7_13) rfl rfl ?_
    refine XS.iload X0.here hx rfl (hb hby d7_14) rfl ?_
    show Steps p.tables e below (s₁.setTop (mkF m 16 #[rv ar, iv 10, iv 0, iv 4, iv 10, iv 1] [(.int 1), (.ref ar)])) _
    exact k
  refine own_lift sg3 ?_
  show own_Go p.tables e below (s₁.setTop (mkF m 16 #[rv ar, iv 10, iv 0, iv 4, iv 10, iv 1] [(.int 1), (.ref ar)])) _
  obtain ⟨cl4, Ar4, qx4, Sx4, N4', H4', G4'⟩ := id (Ars)
  have hin4 : ¬ ((1 : Int32) < 0 ∨ cl4.slots.size ≤ ((1 : Int32)).toNatClampNeg) := inb_of Sx4 ⟨(by decide : ¬ ((1 : Int32) < (0 : Int32))), (by decide : (1 : Int32) < (4 : Int32))⟩
  have hat4 : cl4.slots[((1 : Int32)).toNatClampNeg]? = some (.int b1) := Has.at H4' hin4 rfl
  have sg5 : ∀ t, Steps p.tables e below (s₁.setTop (mkF m 24 #[rv ar, iv 10, iv 0, iv 4, iv 10, iv 1] [(.int 1)])) t → Steps p.tables e below (s₁.setTop (mkF m 16 #[rv ar, iv 10, iv 0, iv 4, iv 10, iv 1] [(.int 1), (.ref ar)])) t := by
    intro t k
    refine X0.baloadBytes hx (j := (1 : Int32)) (v := (.int b1)) (by rw [e0]; exact Ar4.1) (State.isArrayOf_alike hZ.alike Ar4.2.1) Ar4.2.2 hin4 hat4 (g := (mkF m 16 #[rv ar, iv 10, iv 0, iv 4, iv 10, iv 1] [(.int 1), (.ref ar)])) rfl rfl (hb hby d7_16) _ ?_
    show Steps p.tables e below (s₁.setTop (mkF m 17 #[rv ar, iv 10, iv 0, iv 4, iv 10, iv 1] [(.int b1)])) _
    refine XS.iload X0.here hx rfl (hb hby d7_17) rfl ?_
    refine XS.icmpNo X0.here hx rfl (hb hby d7_19) rfl (teq d1).2 ?_
    refine XS.iload X0.here hx rfl (hb hby d7_22) rfl ?_
    show Steps p.tables e below (s₁.setTop (mkF m 24 #[rv ar, iv 10, iv 0, iv 4, iv 10, iv 1] [(.int 1)])) _
    exact k
  refine own_lift sg5 ?_
  show own_Go p.tables e below (s₁.setTop (mkF m 24 #[rv ar, iv 10, iv 0, iv 4, iv 10, iv 1] [(.int 1)])) _
  obtain ⟨fs, hr, hrun, hended, hW, hsame⟩ := X0.leave (v := some (.int 1)) (fun h => by rw [Bd.returns] at h; cases h)
  refine ⟨_, _, ?_, hrun, hended, _, _, rfl, ?_, ⟨_, rfl⟩, hW, hsame.mono (by decide) (by decide)⟩
  · exact retI X0 hx Bd.returns (hb hby d7_24) hr
  · show Q_rmIdc1 Z ar kb b0 b1 b2 b3 h0 n0 _ s₁.heap _
    rw [e0]
    exact ⟨rfl, N0, rfl⟩
def Q_rmIdc2 (Z : State) (ar : Addr) (kb : ClassId) (b0 : Int32) (b1 : Int32) (b2 : Int32) (b3 : Int32) (h0 : Heap) (n0 : Nat) (v : Option Value) (h : Heap) (L : List Loc) : Prop := v = some (.int 2) ∧ Fr n0 L ∧ h = h0
theorem ef_rmIdc2 (m : MethodId) (x0 : Addr) (x1 : Int32) (x2 : Int32) (x3 : Int32) : entryFrame m #[(.ref x0), (.int 10), (.int 0), (.int 4)] 6 = mkF m 0 #[.val (.ref x0), .val (.int 10), .val (.int 0), .val (.int 4), .unset, .unset] [] := by first | (simp [entryFrame, mkF, argsToLocals, Value.category]; done) | rfl
set_option maxRecDepth 65536 in
set_option maxHeartbeats 40000000 in
theorem rmIdc2 (l : Launch) (Z : State) (a0 : Array Value) (hw : ∀ d ∈ tables_1, d.before a0 Z = true) (ws : List Jvm.Cond) (ar : Addr) (kb : ClassId) (b0 : Int32) (b1 : Int32) (b2 : Int32) (b3 : Int32) (h0 : Heap) (n0 : Nat) (Z0 : n0 ≤ h0.size) (Ars : Arv Z h0 ar kb .byte (4 : Int32) [(.int b0), (.int b1), (.int b2), (.int b3)] (.int 0)) (d0 : ¬ (b0 = (10 : Int32))) (d1 : ¬ (b1 = (10 : Int32))) (d2 : b2 = (10 : Int32)) :
    MetFree l (⟨L1x, "indexOfChar", "([BIII)I"⟩ : MethodName) (head1 (Jvm.Cond.code (⟨L1x, "indexOfChar", "([BIII)I"⟩ : MethodName) jdk_43_method_23_code 6 (some .int) :: ws) ({ frames := 0, cells := 0, slots := 0, locals := 0 } : Room)) (fun a U => a = #[(.ref ar), (.int 10), (.int 0), (.int 4)] ∧ Z.Warmed39 U.vm ∧ U.heap = h0) (fun _ _ _ _ _ => True) (fun _ U o U' => ∃ v L, o = .returned v ∧ Q_rmIdc2 Z ar kb b0 b1 b2 b3 h0 n0 v U'.heap L ∧ FrameEnd U o U' L ({ frames := 0, cells := 0, slots := 0, locals := 0 } : Room).cells ({ frames := 0, cells := 0, slots := 0, locals := 0 } : Room).slots) := by
  refine MetFree.of_bodySF (plainFor_of_name pn_1) hisR ?_
  intro p e s m args below meth c s₁ Bd hml0 hP hK
  obtain ⟨rfl, hZ, hh⟩ := hP
  have hx := Bd.exec
  have hby := Bd.bytes
  have hml : c.maxLocals = 6 := hml0
  have hown : s.vm.findClass L1x = some m.cls := findClass_of_methodNamed Bd.named
  have hnm := (name_of_methodNamed Bd.named Bd.method).1
  have X0 : Stand p l e ({ frames := 0, cells := 0, slots := 0, locals := 0 } : Room) s m #[(.ref ar), (.int 10), (.int 0), (.int 4)] below meth c s₁ [] 0 0 := Stand.of_body Bd
  have e0 : s₁.heap = h0 := by rw [← hh, Bd.state]; rfl
  have N0 := Fr.nil n0
  refine own_go (own_lift (fun t k => castTop (ef_rmIdc2 m ar (10 : Int32) (0 : Int32) (4 : Int32)) k) ?_)
  show own_Go p.tables e below (s₁.setTop (mkF m 0 #[rv ar, iv 10, iv 0, iv 4, .unset, .unset] [])) _
  have sg1 : ∀ t, Steps p.tables e below (s₁.setTop (mkF m 16 #[rv ar, iv 10, iv 0, iv 4, iv 10, iv 0] [(.int 0), (.ref ar)])) t → Steps p.tables e below (s₁.setTop (mkF m 0 #[rv ar, iv 10, iv 0, iv 4, .unset, .unset] [])) t := by
    intro t k
    refine XS.iloadN X0.here hx rfl (hb hby d7_0) rfl ?_
    show Steps p.tables e below (s₁.setTop (mkF m 1 #[rv ar, iv 10, iv 0, iv 4, .unset, .unset] [(.int 10)])) _
    refine XS.i2b X0.here hx rfl (hb hby d7_1) rfl ?_
    refine XS.istore X0.here hx rfl (hb hby d7_2) rfl (l' := #[rv ar, iv 10, iv 0, iv 4, iv 10, .unset]) rfl ?_
    refine XS.iloadN X0.here hx rfl (hb hby d7_4) rfl ?_
    show Steps p.tables e below (s₁.setTop (mkF m 5 #[rv ar, iv 10, iv 0, iv 4, iv 10, .unset] [(.int 0)])) _
    refine XS.istore X0.here hx rfl (hb hby d7_5) rfl (l' := #[rv ar, iv 10, iv 0, iv 4, iv 10, iv 0]) rfl ?_
    refine XS.iload X0.here hx rfl (hb hby d7_7) rfl ?_
    refine XS.iloadN X0.here hx rfl (hb hby d7_9) rfl ?_
    show Steps p.tables e below (s₁.setTop (mkF m 10 #[rv ar, iv 10, iv 0, iv 4, iv 10, iv 0] [(.int 4), (.int 0)])) _
    refine XS.icmpNo X0.here hx rfl (hb hby d7_10) rfl (tlt (by decide : (0 : Int32) < (4 : Int32))).2.1 ?_
    refine XS.aloadN X0.here hx rfl (hb hby d7_13) rfl rfl ?_
    refine XS.iload X0.here hx rfl (hb hby d7_14) rfl ?_
    show Steps p.tables e below (s₁.setTop (mkF m 16 #[rv ar, iv 10, iv 0, iv 4, iv 10, iv 0] [(.int 0), (.ref ar)])) _
    exact k
  refine own_lift sg1 ?_
  show own_Go p.tables e below (s₁.setTop (mkF m 16 #[rv ar, iv 10, iv 0, iv 4, iv 10, iv 0] [(.int 0), (.ref ar)])) _
  obtain ⟨cl2, Ar2, qx2, Sx2, N2', H2', G2'⟩ := id (Ars)
  have hin2 : ¬ ((0 : Int32) < 0 ∨ cl2.slots.size ≤ ((0 : Int32)).toNatClampNeg) := inb_of Sx2 ⟨(by decide : ¬ ((0 : Int32) < (0 : Int32))), (by decide : (0 : Int32) < (4 : Int32))⟩
  have hat2 : cl2.slots[((0 : Int32)).toNatClampNeg]? = some (.int b0) := Has.at H2' hin2 rfl
  have sg3 : ∀ t, Steps p.tables e below (s₁.setTop (mkF m 16 #[rv ar, iv 10, iv 0, iv 4, iv 10, iv 1] [(.int 1), (.ref ar)])) t → Steps p.tables e below (s₁.setTop (mkF m 16 #[rv ar, iv 10, iv 0, iv 4, iv 10, iv 0] [(.int 0), (.ref ar)])) t := by
    intro t k
    refine X0.baloadBytes hx (j := (0 : Int32)) (v := (.int b0)) (by rw [e0]; exact Ar2.1) (State.isArrayOf_alike hZ.alike Ar2.2.1) Ar2.2.2 hin2 hat2 (g := (mkF m 16 #[rv ar, iv 10, iv 0, iv 4, iv 10, iv 0] [(.int 0), (.ref ar)])) rfl rfl (hb hby d7_16) _ ?_
    show Steps p.tables e below (s₁.setTop (mkF m 17 #[rv ar, iv 10, iv 0, iv 4, iv 10, iv 0] [(.int b0)])) _
    refine XS.iload X0.here hx rfl (hb hby d7_17) rfl ?_
    refine XS.icmpYes X0.here hx rfl (pc0 := 19) (pc' := 25) rfl (hb hby d7_19) rfl (feq d0).2 (by decide) (by decide) ?_
    refine XS.iinc X0.here hx rfl (hb hby d7_25) rfl (l' := #[rv ar, iv 10, iv 0, iv 4, iv 10, iv 1]) rfl ?_
    show Steps p.tables e below (s₁.setTop (mkF m 28 #[rv ar, iv 10, iv 0, iv 4, iv 10, iv 1] [])) _
    refine XS.goto X0.here hx rfl (pc0 := 28) (pc' := 7) rfl (hb hby d7_28) (by decide) (by decide) ?_
    refine XS.iload X0.here hx rfl (hb hby d7_7) rfl ?_
    refine XS.iloadN X0.here hx rfl (hb hby d7_9) rfl ?_
    show Steps p.tables e below (s₁.setTop (mkF m 10 #[rv ar, iv 10, iv 0, iv 4, iv 10, iv 1] [(.int 4), (.int 1)])) _
    refine XS.icmpNo X0.here hx rfl (hb hby d7_10) rfl (tlt (by decide : (1 : Int32) < (4 : Int32))).2.1 ?_
    refine XS.aloadN X0.here hx rfl (hb hby d7_13) rfl rfl ?_
    refine XS.iload X0.here hx rfl (hb hby d7_14) rfl ?_
    show Steps p.tables e below (s₁.setTop (mkF m 16 #[rv ar, iv 10, iv 0, iv 4, iv 10, iv 1] [(.int 1), (.ref ar)])) _
    exact k
  refine own_lift sg3 ?_
  show own_Go p.tables e below (s₁.setTop (mkF m 16 #[rv ar, iv 10, iv 0, iv 4, iv 10, iv 1] [(.int 1), (.ref ar)])) _
  obtain ⟨cl4, Ar4, qx4, Sx4, N4', H4', G4'⟩ := id (Ars)
  have hin4 : ¬ ((1 : Int32) < 0 ∨ cl4.slots.size ≤ ((1 : Int32)).toNatClampNeg) := inb_of Sx4 ⟨(by decide : ¬ ((1 : Int32) < (0 : Int32))), (by decide : (1 : Int32) < (4 : Int32))⟩
  have hat4 : cl4.slots[((1 : Int32)).toNatClampNeg]? = some (.int b1) := Has.at H4' hin4 rfl
  have sg5 : ∀ t, Steps p.tables e below (s₁.setTop (mkF m 16 #[rv ar, iv 10, iv 0, iv 4, iv 10, iv 2] [(.int 2), (.ref ar)])) t → Steps p.tables e below (s₁.setTop (mkF m 16 #[rv ar, iv 10, iv 0, iv 4, iv 10, iv 1] [(.int 1), (.ref ar)])) t := by
    intro t k
    refine X0.baloadBytes hx (j := (1 : Int32)) (v := (.int b1)) (by rw [e0]; exact Ar4.1) (State.isArrayOf_alike hZ.alike Ar4.2.1) Ar4.2.2 hin4 hat4 (g := (mkF m 16 #[rv ar, iv 10, iv 0, iv 4, iv 10, iv 1] [(.int 1), (.ref ar)])) rfl rfl (hb hby d7_16) _ ?_
    show Steps p.tables e below (s₁.setTop (mkF m 17 #[rv ar, iv 10, iv 0, iv 4, iv 10, iv 1] [(.int b1)])) _
    refine XS.iload X0.here hx rfl (hb hby d7_17) rfl ?_
    refine XS.icmpYes X0.here hx rfl (pc0 := 19) (pc' := 25) rfl (hb hby d7_19) rfl (feq d1).2 (by decide) (by decide) ?_
    refine XS.iinc X0.here hx rfl (hb hby d7_25) rfl (l' := #[rv ar, iv 10, iv 0, iv 4, iv 10, iv 2]) rfl ?_
    show Steps p.tables e below (s₁.setTop (mkF m 28 #[rv ar, iv 10, iv 0, iv 4, iv 10, iv 2] [])) _
    refine XS.goto X0.here hx rfl (pc0 := 28) (pc' := 7) rfl (hb hby d7_28) (by decide) (by decide) ?_
    refine XS.iload X0.here hx rfl (hb hby d7_7) rfl ?_
    refine XS.iloadN X0.here hx rfl (hb hby d7_9) rfl ?_
    show Steps p.tables e below (s₁.setTop (mkF m 10 #[rv ar, iv 10, iv 0, iv 4, iv 10, iv 2] [(.int 4), (.int 2)])) _
    refine XS.icmpNo X0.here hx rfl (hb hby d7_10) rfl (tlt (by decide : (2 : Int32) < (4 : Int32))).2.1 ?_
    refine XS.aloadN X0.here hx rfl (hb hby d7_13) rfl rfl ?_
    refine XS.iload X0.here hx rfl (hb hby d7_14) rfl ?_
    show Steps p.tables e below (s₁.setTop (mkF m 16 #[rv ar, iv 10, iv 0, iv 4, iv 10, iv 2] [(.int 2), (.ref ar)])) _
    exact k
  refine own_lift sg5 ?_
  show own_Go p.tables e below (s₁.setTop (mkF m 16 #[rv ar, iv 10, iv 0, iv 4, iv 10, iv 2] [(.int 2), (.ref ar)])) _
  obtain ⟨cl6, Ar6, qx6, Sx6, N6', H6', G6'⟩ := id (Ars)
  have hin6 : ¬ ((2 : Int32) < 0 ∨ cl6.slots.size ≤ ((2 : Int32)).toNatClampNeg) := inb_of Sx6 ⟨(by decide : ¬ ((2 : Int32) < (0 : Int32))), (by decide : (2 : Int32) < (4 : Int32))⟩
  have hat6 : cl6.slots[((2 : Int32)).toNatClampNeg]? = some (.int b2) := Has.at H6' hin6 rfl
  have sg7 : ∀ t, Steps p.tables e below (s₁.setTop (mkF m 24 #[rv ar, iv 10, iv 0, iv 4, iv 10, iv 2] [(.int 2)])) t → Steps p.tables e below (s₁.setTop (mkF m 16 #[rv ar, iv 10, iv 0, iv 4, iv 10, iv 2] [(.int 2), (.ref ar)])) t := by
    intro t k
    refine X0.baloadBytes hx (j := (2 : Int32)) (v := (.int b2)) (by rw [e0]; exact Ar6.1) (State.isArrayOf_alike hZ.alike Ar6.2.1) Ar6.2.2 hin6 hat6 (g := (mkF m 16 #[rv ar, iv 10, iv 0, iv 4, iv 10, iv 2] [(.int 2), (.ref ar)])) rfl rfl (hb hby d7_16) _ ?_
    show Steps p.tables e below (s₁.setTop (mkF m 17 #[rv ar, iv 10, iv 0, iv 4, iv 10, iv 2] [(.int b2)])) _
    refine XS.iload X0.here hx rfl (hb hby d7_17) rfl ?_
    refine XS.icmpNo X0.here hx rfl (hb hby d7_19) rfl (teq d2).2 ?_
    refine XS.iload X0.here hx rfl (hb hby d7_22) rfl ?_
    show Steps p.tables e below (s₁.setTop (mkF m 24 #[rv ar, iv 10, iv 0, iv 4, iv 10, iv 2] [(.int 2)])) _
    exact k
  refine own_lift sg7 ?_
  show own_Go p.tables e below (s₁.setTop (mkF m 24 #[rv ar, iv 10, iv 0, iv 4, iv 10, iv 2] [(.int 2)])) _
  obtain ⟨fs, hr, hrun, hended, hW, hsame⟩ := X0.leave (v := some (.int 2)) (fun h => by rw [Bd.returns] at h; cases h)
  refine ⟨_, _, ?_, hrun, hended, _, _, rfl, ?_, ⟨_, rfl⟩, hW, hsame.mono (by decide) (by decide)⟩
  · exact retI X0 hx Bd.returns (hb hby d7_24) hr
  · show Q_rmIdc2 Z ar kb b0 b1 b2 b3 h0 n0 _ s₁.heap _
    rw [e0]
    exact ⟨rfl, N0, rfl⟩
def Q_rmIdc3 (Z : State) (ar : Addr) (kb : ClassId) (b0 : Int32) (b1 : Int32) (b2 : Int32) (b3 : Int32) (h0 : Heap) (n0 : Nat) (v : Option Value) (h : Heap) (L : List Loc) : Prop := v = some (.int 3) ∧ Fr n0 L ∧ h = h0
theorem ef_rmIdc3 (m : MethodId) (x0 : Addr) (x1 : Int32) (x2 : Int32) (x3 : Int32) : entryFrame m #[(.ref x0), (.int 10), (.int 0), (.int 4)] 6 = mkF m 0 #[.val (.ref x0), .val (.int 10), .val (.int 0), .val (.int 4), .unset, .unset] [] := by first | (simp [entryFrame, mkF, argsToLocals, Value.category]; done) | rfl
set_option maxRecDepth 65536 in
set_option maxHeartbeats 40000000 in
theorem rmIdc3 (l : Launch) (Z : State) (a0 : Array Value) (hw : ∀ d ∈ tables_1, d.before a0 Z = true) (ws : List Jvm.Cond) (ar : Addr) (kb : ClassId) (b0 : Int32) (b1 : Int32) (b2 : Int32) (b3 : Int32) (h0 : Heap) (n0 : Nat) (Z0 : n0 ≤ h0.size) (Ars : Arv Z h0 ar kb .byte (4 : Int32) [(.int b0), (.int b1), (.int b2), (.int b3)] (.int 0)) (d0 : ¬ (b0 = (10 : Int32))) (d1 : ¬ (b1 = (10 : Int32))) (d2 : ¬ (b2 = (10 : Int32))) (d3 : b3 = (10 : Int32)) :
    MetFree l (⟨L1x, "indexOfChar", "([BIII)I"⟩ : MethodName) (head1 (Jvm.Cond.code (⟨L1x, "indexOfChar", "([BIII)I"⟩ : MethodName) jdk_43_method_23_code 6 (some .int) :: ws) ({ frames := 0, cells := 0, slots := 0, locals := 0 } : Room)) (fun a U => a = #[(.ref ar), (.int 10), (.int 0), (.int 4)] ∧ Z.Warmed39 U.vm ∧ U.heap = h0) (fun _ _ _ _ _ => True) (fun _ U o U' => ∃ v L, o = .returned v ∧ Q_rmIdc3 Z ar kb b0 b1 b2 b3 h0 n0 v U'.heap L ∧ FrameEnd U o U' L ({ frames := 0, cells := 0, slots := 0, locals := 0 } : Room).cells ({ frames := 0, cells := 0, slots := 0, locals := 0 } : Room).slots) := by
  refine MetFree.of_bodySF (plainFor_of_name pn_1) hisR ?_
  intro p e s m args below meth c s₁ Bd hml0 hP hK
  obtain ⟨rfl, hZ, hh⟩ := hP
  have hx := Bd.exec
  have hby := Bd.bytes
  have hml : c.maxLocals = 6 := hml0
  have hown : s.vm.findClass L1x = some m.cls := findClass_of_methodNamed Bd.named
  have hnm := (name_of_methodNamed Bd.named Bd.method).1
  have X0 : Stand p l e ({ frames := 0, cells := 0, slots := 0, locals := 0 } : Room) s m #[(.ref ar), (.int 10), (.int 0), (.int 4)] below meth c s₁ [] 0 0 := Stand.of_body Bd
  have e0 : s₁.heap = h0 := by rw [← hh, Bd.state]; rfl
  have N0 := Fr.nil n0
  refine own_go (own_lift (fun t k => castTop (ef_rmIdc3 m ar (10 : Int32) (0 : Int32) (4 : Int32)) k) ?_)
  show own_Go p.tables e below (s₁.setTop (mkF m 0 #[rv ar, iv 10, iv 0, iv 4, .unset, .unset] [])) _
  have sg1 : ∀ t, Steps p.tables e below (s₁.setTop (mkF m 16 #[rv ar, iv 10, iv 0, iv 4, iv 10, iv 0] [(.int 0), (.ref ar)])) t → Steps p.tables e below (s₁.setTop (mkF m 0 #[rv ar, iv 10, iv 0, iv 4, .unset, .unset] [])) t := by
    intro t k
    refine XS.iloadN X0.here hx rfl (hb hby d7_0) rfl ?_
    show Steps p.tables e below (s₁.setTop (mkF m 1 #[rv ar, iv 10, iv 0, iv 4, .unset, .unset] [(.int 10)])) _
    refine XS.i2b X0.here hx rfl (hb hby d7_1) rfl ?_
    refine XS.istore X0.here hx rfl (hb hby d7_2) rfl (l' := #[rv ar, iv 10, iv 0, iv 4, iv 10, .unset]) rfl ?_
    refine XS.iloadN X0.here hx rfl (hb hby d7_4) rfl ?_
    show Steps p.tables e below (s₁.setTop (mkF m 5 #[rv ar, iv 10, iv 0, iv 4, iv 10, .unset] [(.int 0)])) _
    refine XS.istore X0.here hx rfl (hb hby d7_5) rfl (l' := #[rv ar, iv 10, iv 0, iv 4, iv 10, iv 0]) rfl ?_
    refine XS.iload X0.here hx rfl (hb hby d7_7) rfl ?_
    refine XS.iloadN X0.here hx rfl (hb hby d7_9) rfl ?_
    show Steps p.tables e below (s₁.setTop (mkF m 10 #[rv ar, iv 10, iv 0, iv 4, iv 10, iv 0] [(.int 4), (.int 0)])) _
    refine XS.icmpNo X0.here hx rfl (hb hby d7_10) rfl (tlt (by decide : (0 : Int32) < (4 : Int32))).2.1 ?_
    refine XS.aloadN X0.here hx rfl (hb hby d7_13) rfl rfl ?_
    refine XS.iload X0.here hx rfl (hb hby d7_14) rfl ?_
    show Steps p.tables e below (s₁.setTop (mkF m 16 #[rv ar, iv 10, iv 0, iv 4, iv 10, iv 0] [(.int 0), (.ref ar)])) _
    exact k
  refine own_lift sg1 ?_
  show own_Go p.tables e below (s₁.setTop (mkF m 16 #[rv ar, iv 10, iv 0, iv 4, iv 10, iv 0] [(.int 0), (.ref ar)])) _
  obtain ⟨cl2, Ar2, qx2, Sx2, N2', H2', G2'⟩ := id (Ars)
  have hin2 : ¬ ((0 : Int32) < 0 ∨ cl2.slots.size ≤ ((0 : Int32)).toNatClampNeg) := inb_of Sx2 ⟨(by decide : ¬ ((0 : Int32) < (0 : Int32))), (by decide : (0 : Int32) < (4 : Int32))⟩
  have hat2 : cl2.slots[((0 : Int32)).toNatClampNeg]? = some (.int b0) := Has.at H2' hin2 rfl
  have sg3 : ∀ t, Steps p.tables e below (s₁.setTop (mkF m 16 #[rv ar, iv 10, iv 0, iv 4, iv 10, iv 1] [(.int 1), (.ref ar)])) t → Steps p.tables e below (s₁.setTop (mkF m 16 #[rv ar, iv 10, iv 0, iv 4, iv 10, iv 0] [(.int 0), (.ref ar)])) t := by
    intro t k
    refine X0.baloadBytes hx (j := (0 : Int32)) (v := (.int b0)) (by rw [e0]; exact Ar2.1) (State.isArrayOf_alike hZ.alike Ar2.2.1) Ar2.2.2 hin2 hat2 (g := (mkF m 16 #[rv ar, iv 10, iv 0, iv 4, iv 10, iv 0] [(.int 0), (.ref ar)])) rfl rfl (hb hby d7_16) _ ?_
    show Steps p.tables e below (s₁.setTop (mkF m 17 #[rv ar, iv 10, iv 0, iv 4, iv 10, iv 0] [(.int b0)])) _
    refine XS.iload X0.here hx rfl (hb hby d7_17) rfl ?_
    refine XS.icmpYes X0.here hx rfl (pc0 := 19) (pc' := 25) rfl (hb hby d7_19) rfl (feq d0).2 (by decide) (by decide) ?_
    refine XS.iinc X0.here hx rfl (hb hby d7_25) rfl (l' := #[rv ar, iv 10, iv 0, iv 4, iv 10, iv 1]) rfl ?_
    show Steps p.tables e below (s₁.setTop (mkF m 28 #[rv ar, iv 10, iv 0, iv 4, iv 10, iv 1] [])) _
    refine XS.goto X0.here hx rfl (pc0 := 28) (pc' := 7) rfl (hb hby d7_28) (by decide) (by decide) ?_
    refine XS.iload X0.here hx rfl (hb hby d7_7) rfl ?_
    refine XS.iloadN X0.here hx rfl (hb hby d7_9) rfl ?_
    show Steps p.tables e below (s₁.setTop (mkF m 10 #[rv ar, iv 10, iv 0, iv 4, iv 10, iv 1] [(.int 4), (.int 1)])) _
    refine XS.icmpNo X0.here hx rfl (hb hby d7_10) rfl (tlt (by decide : (1 : Int32) < (4 : Int32))).2.1 ?_
    refine XS.aloadN X0.here hx rfl (hb hby d7_13) rfl rfl ?_
    refine XS.iload X0.here hx rfl (hb hby d7_14) rfl ?_
    show Steps p.tables e below (s₁.setTop (mkF m 16 #[rv ar, iv 10, iv 0, iv 4, iv 10, iv 1] [(.int 1), (.ref ar)])) _
    exact k
  refine own_lift sg3 ?_
  show own_Go p.tables e below (s₁.setTop (mkF m 16 #[rv ar, iv 10, iv 0, iv 4, iv 10, iv 1] [(.int 1), (.ref ar)])) _
  obtain ⟨cl4, Ar4, qx4, Sx4, N4', H4', G4'⟩ := id (Ars)
  have hin4 : ¬ ((1 : Int32) < 0 ∨ cl4.slots.size ≤ ((1 : Int32)).toNatClampNeg) := inb_of Sx4 ⟨(by decide : ¬ ((1 : Int32) < (0 : Int32))), (by decide : (1 : Int32) < (4 : Int32))⟩
  have hat4 : cl4.slots[((1 : Int32)).toNatClampNeg]? = some (.int b1) := Has.at H4' hin4 rfl
  have sg5 : ∀ t, Steps p.tables e below (s₁.setTop (mkF m 16 #[rv ar, iv 10, iv 0, iv 4, iv 10, iv 2] [(.int 2), (.ref ar)])) t → Steps p.tables e below (s₁.setTop (mkF m 16 #[rv ar, iv 10, iv 0, iv 4, iv 10, iv 1] [(.int 1), (.ref ar)])) t := by
    intro t k
    refine X0.baloadBytes hx (j := (1 : Int32)) (v := (.int b1)) (by rw [e0]; exact Ar4.1) (State.isArrayOf_alike hZ.alike Ar4.2.1) Ar4.2.2 hin4 hat4 (g := (mkF m 16 #[rv ar, iv 10, iv 0, iv 4, iv 10, iv 1] [(.int 1), (.ref ar)])) rfl rfl (hb hby d7_16) _ ?_
    show Steps p.tables e below (s₁.setTop (mkF m 17 #[rv ar, iv 10, iv 0, iv 4, iv 10, iv 1] [(.int b1)])) _
    refine XS.iload X0.here hx rfl (hb hby d7_17) rfl ?_
    refine XS.icmpYes X0.here hx rfl (pc0 := 19) (pc' := 25) rfl (hb hby d7_19) rfl (feq d1).2 (by decide) (by decide) ?_
    refine XS.iinc X0.here hx rfl (hb hby d7_25) rfl (l' := #[rv ar, iv 10, iv 0, iv 4, iv 10, iv 2]) rfl ?_
    show Steps p.tables e below (s₁.setTop (mkF m 28 #[rv ar, iv 10, iv 0, iv 4, iv 10, iv 2] [])) _
    refine XS.goto X0.here hx rfl (pc0 := 28) (pc' := 7) rfl (hb hby d7_28) (by decide) (by decide) ?_
    refine XS.iload X0.here hx rfl (hb hby d7_7) rfl ?_
    refine XS.iloadN X0.here hx rfl (hb hby d7_9) rfl ?_
    show Steps p.tables e below (s₁.setTop (mkF m 10 #[rv ar, iv 10, iv 0, iv 4, iv 10, iv 2] [(.int 4), (.int 2)])) _
    refine XS.icmpNo X0.here hx rfl (hb hby d7_10) rfl (tlt (by decide : (2 : Int32) < (4 : Int32))).2.1 ?_
    refine XS.aloadN X0.here hx rfl (hb hby d7_13) rfl rfl ?_
    refine XS.iload X0.here hx rfl (hb hby d7_14) rfl ?_
    show Steps p.tables e below (s₁.setTop (mkF m 16 #[rv ar, iv 10, iv 0, iv 4, iv 10, iv 2] [(.int 2), (.ref ar)])) _
    exact k
  refine own_lift sg5 ?_
  show own_Go p.tables e below (s₁.setTop (mkF m 16 #[rv ar, iv 10, iv 0, iv 4, iv 10, iv 2] [(.int 2), (.ref ar)])) _
  obtain ⟨cl6, Ar6, qx6, Sx6, N6', H6', G6'⟩ := id (Ars)
  have hin6 : ¬ ((2 : Int32) < 0 ∨ cl6.slots.size ≤ ((2 : Int32)).toNatClampNeg) := inb_of Sx6 ⟨(by decide : ¬ ((2 : Int32) < (0 : Int32))), (by decide : (2 : Int32) < (4 : Int32))⟩
  have hat6 : cl6.slots[((2 : Int32)).toNatClampNeg]? = some (.int b2) := Has.at H6' hin6 rfl
  have sg7 : ∀ t, Steps p.tables e below (s₁.setTop (mkF m 16 #[rv ar, iv 10, iv 0, iv 4, iv 10, iv 3] [(.int 3), (.ref ar)])) t → Steps p.tables e below (s₁.setTop (mkF m 16 #[rv ar, iv 10, iv 0, iv 4, iv 10, iv 2] [(.int 2), (.ref ar)])) t := by
    intro t k
    refine X0.baloadBytes hx (j := (2 : Int32)) (v := (.int b2)) (by rw [e0]; exact Ar6.1) (State.isArrayOf_alike hZ.alike Ar6.2.1) Ar6.2.2 hin6 hat6 (g := (mkF m 16 #[rv ar, iv 10, iv 0, iv 4, iv 10, iv 2] [(.int 2), (.ref ar)])) rfl rfl (hb hby d7_16) _ ?_
    show Steps p.tables e below (s₁.setTop (mkF m 17 #[rv ar, iv 10, iv 0, iv 4, iv 10, iv 2] [(.int b2)])) _
    refine XS.iload X0.here hx rfl (hb hby d7_17) rfl ?_
    refine XS.icmpYes X0.here hx rfl (pc0 := 19) (pc' := 25) rfl (hb hby d7_19) rfl (feq d2).2 (by decide) (by decide) ?_
    refine XS.iinc X0.here hx rfl (hb hby d7_25) rfl (l' := #[rv ar, iv 10, iv 0, iv 4, iv 10, iv 3]) rfl ?_
    show Steps p.tables e below (s₁.setTop (mkF m 28 #[rv ar, iv 10, iv 0, iv 4, iv 10, iv 3] [])) _
    refine XS.goto X0.here hx rfl (pc0 := 28) (pc' := 7) rfl (hb hby d7_28) (by decide) (by decide) ?_
    refine XS.iload X0.here hx rfl (hb hby d7_7) rfl ?_
    refine XS.iloadN X0.here hx rfl (hb hby d7_9) rfl ?_
    show Steps p.tables e below (s₁.setTop (mkF m 10 #[rv ar, iv 10, iv 0, iv 4, iv 10, iv 3] [(.int 4), (.int 3)])) _
    refine XS.icmpNo X0.here hx rfl (hb hby d7_10) rfl (tlt (by decide : (3 : Int32) < (4 : Int32))).2.1 ?_
    refine XS.aloadN X0.here hx rfl (hb hby d7_13) rfl rfl ?_
    refine XS.iload X0.here hx rfl (hb hby d7_14) rfl ?_
    show Steps p.tables e below (s₁.setTop (mkF m 16 #[rv ar, iv 10, iv 0, iv 4, iv 10, iv 3] [(.int 3), (.ref ar)])) _
    exact k
  refine own_lift sg7 ?_
  show own_Go p.tables e below (s₁.setTop (mkF m 16 #[rv ar, iv 10, iv 0, iv 4, iv 10, iv 3] [(.int 3), (.ref ar)])) _
  obtain ⟨cl8, Ar8, qx8, Sx8, N8', H8', G8'⟩ := id (Ars)
  have hin8 : ¬ ((3 : Int32) < 0 ∨ cl8.slots.size ≤ ((3 : Int32)).toNatClampNeg) := inb_of Sx8 ⟨(by decide : ¬ ((3 : Int32) < (0 : Int32))), (by decide : (3 : Int32) < (4 : Int32))⟩
  have hat8 : cl8.slots[((3 : Int32)).toNatClampNeg]? = some (.int b3) := Has.at H8' hin8 rfl
  have sg9 : ∀ t, Steps p.tables e below (s₁.setTop (mkF m 24 #[rv ar, iv 10, iv 0, iv 4, iv 10, iv 3] [(.int 3)])) t → Steps p.tables e below (s₁.setTop (mkF m 16 #[rv ar, iv 10, iv 0, iv 4, iv 10, iv 3] [(.int 3), (.ref ar)])) t := by
    intro t k
    refine X0.baloadBytes hx (j := (3 : Int32)) (v := (.int b3)) (by rw [e0]; exact Ar8.1) (State.isArrayOf_alike hZ.alike Ar8.2.1) Ar8.2.2 hin8 hat8 (g := (mkF m 16 #[rv ar, iv 10, iv 0, iv 4, iv 10, iv 3] [(.int 3), (.ref ar)])) rfl rfl (hb hby d7_16) _ ?_
    show Steps p.tables e below (s₁.setTop (mkF m 17 #[rv ar, iv 10, iv 0, iv 4, iv 10, iv 3] [(.int b3)])) _
    refine XS.iload X0.here hx rfl (hb hby d7_17) rfl ?_
    refine XS.icmpNo X0.here hx rfl (hb hby d7_19) rfl (teq d3).2 ?_
    refine XS.iload X0.here hx rfl (hb hby d7_22) rfl ?_
    show Steps p.tables e below (s₁.setTop (mkF m 24 #[rv ar, iv 10, iv 0, iv 4, iv 10, iv 3] [(.int 3)])) _
    exact k
  refine own_lift sg9 ?_
  show own_Go p.tables e below (s₁.setTop (mkF m 24 #[rv ar, iv 10, iv 0, iv 4, iv 10, iv 3] [(.int 3)])) _
  obtain ⟨fs, hr, hrun, hended, hW, hsame⟩ := X0.leave (v := some (.int 3)) (fun h => by rw [Bd.returns] at h; cases h)
  refine ⟨_, _, ?_, hrun, hended, _, _, rfl, ?_, ⟨_, rfl⟩, hW, hsame.mono (by decide) (by decide)⟩
  · exact retI X0 hx Bd.returns (hb hby d7_24) hr
  · show Q_rmIdc3 Z ar kb b0 b1 b2 b3 h0 n0 _ s₁.heap _
    rw [e0]
    exact ⟨rfl, N0, rfl⟩
theorem d7_31 : decode jdk_43_method_23_code 31 = .ok (.iconst (-1), 1) := by decide +kernel
theorem d7_32 : decode jdk_43_method_23_code 32 = .ok (.ireturn, 1) := by decide +kernel
def Q_rmIdcn (Z : State) (ar : Addr) (kb : ClassId) (b0 : Int32) (b1 : Int32) (b2 : Int32) (b3 : Int32) (h0 : Heap) (n0 : Nat) (v : Option Value) (h : Heap) (L : List Loc) : Prop := v = some (.int (-1)) ∧ Fr n0 L ∧ h = h0
theorem ef_rmIdcn (m : MethodId) (x0 : Addr) (x1 : Int32) (x2 : Int32) (x3 : Int32) : entryFrame m #[(.ref x0), (.int 10), (.int 0), (.int 4)] 6 = mkF m 0 #[.val (.ref x0), .val (.int 10), .val (.int 0), .val (.int 4), .unset, .unset] [] := by first | (simp [entryFrame, mkF, argsToLocals, Value.category]; done) | rfl
set_option maxRecDepth 65536 in
set_option maxHeartbeats 40000000 in
theorem rmIdcn (l : Launch) (Z : State) (a0 : Array Value) (hw : ∀ d ∈ tables_1, d.before a0 Z = true) (ws : List Jvm.Cond) (ar : Addr) (kb : ClassId) (b0 : Int32) (b1 : Int32) (b2 : Int32) (b3 : Int32) (h0 : Heap) (n0 : Nat) (Z0 : n0 ≤ h0.size) (Ars : Arv Z h0 ar kb .byte (4 : Int32) [(.int b0), (.int b1), (.int b2), (.int b3)] (.int 0)) (d0 : ¬ (b0 = (10 : Int32))) (d1 : ¬ (b1 = (10 : Int32))) (d2 : ¬ (b2 = (10 : Int32))) (d3 : ¬ (b3 = (10 : Int32))) :
    MetFree l (⟨L1x, "indexOfChar", "([BIII)I"⟩ : MethodName) (head1 (Jvm.Cond.code (⟨L1x, "indexOfChar", "([BIII)I"⟩ : MethodName) jdk_43_method_23_code 6 (some .int) :: ws) ({ frames := 0, cells := 0, slots := 0, locals := 0 } : Room)) (fun a U => a = #[(.ref ar), (.int 10), (.int 0), (.int 4)] ∧ Z.Warmed39 U.vm ∧ U.heap = h0) (fun _ _ _ _ _ => True) (fun _ U o U' => ∃ v L, o = .returned v ∧ Q_rmIdcn Z ar kb b0 b1 b2 b3 h0 n0 v U'.heap L ∧ FrameEnd U o U' L ({ frames := 0, cells := 0, slots := 0, locals := 0 } : Room).cells ({ frames := 0, cells := 0, slots := 0, locals := 0 } : Room).slots) := by
  refine MetFree.of_bodySF (plainFor_of_name pn_1) hisR ?_
  intro p e s m args below meth c s₁ Bd hml0 hP hK
  obtain ⟨rfl, hZ, hh⟩ := hP
  have hx := Bd.exec
  have hby := Bd.bytes
  have hml : c.maxLocals = 6 := hml0
  have hown : s.vm.findClass L1x = some m.cls := findClass_of_methodNamed Bd.named
  have hnm := (name_of_methodNamed Bd.named Bd.method).1
  have X0 : Stand p l e ({ frames := 0, cells := 0, slots := 0, locals := 0 } : Room) s m #[(.ref ar), (.int 10), (.int 0), (.int 4)] below meth c s₁ [] 0 0 := Stand.of_body Bd
  have e0 : s₁.heap = h0 := by rw [← hh, Bd.state]; rfl
  have N0 := Fr.nil n0
  refine own_go (own_lift (fun t k => castTop (ef_rmIdcn m ar (10 : Int32) (0 : Int32) (4 : Int32)) k) ?_)
  show own_Go p.tables e below (s₁.setTop (mkF m 0 #[rv ar, iv 10, iv 0, iv 4, .unset, .unset] [])) _
  have sg1 : ∀ t, Steps p.tables e below (s₁.setTop (mkF m 16 #[rv ar, iv 10, iv 0, iv 4, iv 10, iv 0] [(.int 0), (.ref ar)])) t → Steps p.tables e below (s₁.setTop (mkF m 0 #[rv ar, iv 10, iv 0, iv 4, .unset, .unset] [])) t := by
    intro t k
    refine XS.iloadN X0.here hx rfl (hb hby d7_0) rfl ?_
    show Steps p.tables e below (s₁.setTop (mkF m 1 #[rv ar, iv 10, iv 0, iv 4, .unset, .unset] [(.int 10)])) _
    refine XS.i2b X0.here hx rfl (hb hby d7_1) rfl ?_
    refine XS.istore X0.here hx rfl (hb hby d7_2) rfl (l' := #[rv ar, iv 10, iv 0, iv 4, iv 10, .unset]) rfl ?_
    refine XS.iloadN X0.here hx rfl (hb hby d7_4) rfl ?_
    show Steps p.tables e below (s₁.setTop (mkF m 5 #[rv ar, iv 10, iv 0, iv 4, iv 10, .unset] [(.int 0)])) _
    refine XS.istore X0.here hx rfl (hb hby d7_5) rfl (l' := #[rv ar, iv 10, iv 0, iv 4, iv 10, iv 0]) rfl ?_
    refine XS.iload X0.here hx rfl (hb hby d7_7) rfl ?_
    refine XS.iloadN X0.here hx rfl (hb hby d7_9) rfl ?_
    show Steps p.tables e below (s₁.setTop (mkF m 10 #[rv ar, iv 10, iv 0, iv 4, iv 10, iv 0] [(.int 4), (.int 0)])) _
    refine XS.icmpNo X0.here hx rfl (hb hby d7_10) rfl (tlt (by decide : (0 : Int32) < (4 : Int32))).2.1 ?_
    refine XS.aloadN X0.here hx rfl (hb hby d7_13) rfl rfl ?_
    refine XS.iload X0.here hx rfl (hb hby d7_14) rfl ?_
    show Steps p.tables e below (s₁.setTop (mkF m 16 #[rv ar, iv 10, iv 0, iv 4, iv 10, iv 0] [(.int 0), (.ref ar)])) _
    exact k
  refine own_lift sg1 ?_
  show own_Go p.tables e below (s₁.setTop (mkF m 16 #[rv ar, iv 10, iv 0, iv 4, iv 10, iv 0] [(.int 0), (.ref ar)])) _
  obtain ⟨cl2, Ar2, qx2, Sx2, N2', H2', G2'⟩ := id (Ars)
  have hin2 : ¬ ((0 : Int32) < 0 ∨ cl2.slots.size ≤ ((0 : Int32)).toNatClampNeg) := inb_of Sx2 ⟨(by decide : ¬ ((0 : Int32) < (0 : Int32))), (by decide : (0 : Int32) < (4 : Int32))⟩
  have hat2 : cl2.slots[((0 : Int32)).toNatClampNeg]? = some (.int b0) := Has.at H2' hin2 rfl
  have sg3 : ∀ t, Steps p.tables e below (s₁.setTop (mkF m 16 #[rv ar, iv 10, iv 0, iv 4, iv 10, iv 1] [(.int 1), (.ref ar)])) t → Steps p.tables e below (s₁.setTop (mkF m 16 #[rv ar, iv 10, iv 0, iv 4, iv 10, iv 0] [(.int 0), (.ref ar)])) t := by
    intro t k
    refine X0.baloadBytes hx (j := (0 : Int32)) (v := (.int b0)) (by rw [e0]; exact Ar2.1) (State.isArrayOf_alike hZ.alike Ar2.2.1) Ar2.2.2 hin2 hat2 (g := (mkF m 16 #[rv ar, iv 10, iv 0, iv 4, iv 10, iv 0] [(.int 0), (.ref ar)])) rfl rfl (hb hby d7_16) _ ?_
    show Steps p.tables e below (s₁.setTop (mkF m 17 #[rv ar, iv 10, iv 0, iv 4, iv 10, iv 0] [(.int b0)])) _
    refine XS.iload X0.here hx rfl (hb hby d7_17) rfl ?_
    refine XS.icmpYes X0.here hx rfl (pc0 := 19) (pc' := 25) rfl (hb hby d7_19) rfl (feq d0).2 (by decide) (by decide) ?_
    refine XS.iinc X0.here hx rfl (hb hby d7_25) rfl (l' := #[rv ar, iv 10, iv 0, iv 4, iv 10, iv 1]) rfl ?_
    show Steps p.tables e below (s₁.setTop (mkF m 28 #[rv ar, iv 10, iv 0, iv 4, iv 10, iv 1] [])) _
    refine XS.goto X0.here hx rfl (pc0 := 28) (pc' := 7) rfl (hb hby d7_28) (by decide) (by decide) ?_
    refine XS.iload X0.here hx rfl (hb hby d7_7) rfl ?_
    refine XS.iloadN X0.here hx rfl (hb hby d7_9) rfl ?_
    show Steps p.tables e below (s₁.setTop (mkF m 10 #[rv ar, iv 10, iv 0, iv 4, iv 10, iv 1] [(.int 4), (.int 1)])) _
    refine XS.icmpNo X0.here hx rfl (hb hby d7_10) rfl (tlt (by decide : (1 : Int32) < (4 : Int32))).2.1 ?_
    refine XS.aloadN X0.here hx rfl (hb hby d7_13) rfl rfl ?_
    refine XS.iload X0.here hx rfl (hb hby d7_14) rfl ?_
    show Steps p.tables e below (s₁.setTop (mkF m 16 #[rv ar, iv 10, iv 0, iv 4, iv 10, iv 1] [(.int 1), (.ref ar)])) _
    exact k
  refine own_lift sg3 ?_
  show own_Go p.tables e below (s₁.setTop (mkF m 16 #[rv ar, iv 10, iv 0, iv 4, iv 10, iv 1] [(.int 1), (.ref ar)])) _
  obtain ⟨cl4, Ar4, qx4, Sx4, N4', H4', G4'⟩ := id (Ars)
  have hin4 : ¬ ((1 : Int32) < 0 ∨ cl4.slots.size ≤ ((1 : Int32)).toNatClampNeg) := inb_of Sx4 ⟨(by decide : ¬ ((1 : Int32) < (0 : Int32))), (by decide : (1 : Int32) < (4 : Int32))⟩
  have hat4 : cl4.slots[((1 : Int32)).toNatClampNeg]? = some (.int b1) := Has.at H4' hin4 rfl
  have sg5 : ∀ t, Steps p.tables e below (s₁.setTop (mkF m 16 #[rv ar, iv 10, iv 0, iv 4, iv 10, iv 2] [(.int 2), (.ref ar)])) t → Steps p.tables e below (s₁.setTop (mkF m 16 #[rv ar, iv 10, iv 0, iv 4, iv 10, iv 1] [(.int 1), (.ref ar)])) t := by
    intro t k
    refine X0.baloadBytes hx (j := (1 : Int32)) (v := (.int b1)) (by rw [e0]; exact Ar4.1) (State.isArrayOf_alike hZ.alike Ar4.2.1) Ar4.2.2 hin4 hat4 (g := (mkF m 16 #[rv ar, iv 10, iv 0, iv 4, iv 10, iv 1] [(.int 1), (.ref ar)])) rfl rfl (hb hby d7_16) _ ?_
    show Steps p.tables e below (s₁.setTop (mkF m 17 #[rv ar, iv 10, iv 0, iv 4, iv 10, iv 1] [(.int b1)])) _
    refine XS.iload X0.here hx rfl (hb hby d7_17) rfl ?_
    refine XS.icmpYes X0.here hx rfl (pc0 := 19) (pc' := 25) rfl (hb hby d7_19) rfl (feq d1).2 (by decide) (by decide) ?_
    refine XS.iinc X0.here hx rfl (hb hby d7_25) rfl (l' := #[rv ar, iv 10, iv 0, iv 4, iv 10, iv 2]) rfl ?_
    show Steps p.tables e below (s₁.setTop (mkF m 28 #[rv ar, iv 10, iv 0, iv 4, iv 10, iv 2] [])) _
    refine XS.goto X0.here hx rfl (pc0 := 28) (pc' := 7) rfl (hb hby d7_28) (by decide) (by decide) ?_
    refine XS.iload X0.here hx rfl (hb hby d7_7) rfl ?_
    refine XS.iloadN X0.here hx rfl (hb hby d7_9) rfl ?_
    show Steps p.tables e below (s₁.setTop (mkF m 10 #[rv ar, iv 10, iv 0, iv 4, iv 10, iv 2] [(.int 4), (.int 2)])) _
    refine XS.icmpNo X0.here hx rfl (hb hby d7_10) rfl (tlt (by decide : (2 : Int32) < (4 : Int32))).2.1 ?_
    refine XS.aloadN X0.here hx rfl (hb hby d7_13) rfl rfl ?_
    refine XS.iload X0.here hx rfl (hb hby d7_14) rfl ?_
    show Steps p.tables e below (s₁.setTop (mkF m 16 #[rv ar, iv 10, iv 0, iv 4, iv 10, iv 2] [(.int 2), (.ref ar)])) _
    exact k
  refine own_lift sg5 ?_
  show own_Go p.tables e below (s₁.setTop (mkF m 16 #[rv ar, iv 10, iv 0, iv 4, iv 10, iv 2] [(.int 2), (.ref ar)])) _
  obtain ⟨cl6, Ar6, qx6, Sx6, N6', H6', G6'⟩ := id (Ars)
  have hin6 : ¬ ((2 : Int32) < 0 ∨ cl6.slots.size ≤ ((2 : Int32)).toNatClampNeg) := inb_of Sx6 ⟨(by decide : ¬ ((2 : Int32) < (0 : Int32))), (by decide : (2 : Int32) < (4 : Int32))⟩
  have hat6 : cl6.slots[((2 : Int32)).toNatClampNeg]? = some (.int b2) := Has.at H6' hin6 rfl
  have sg7 : ∀ t, Steps p.tables e below (s₁.setTop (mkF m 16 #[rv ar, iv 10, iv 0, iv 4, iv 10, iv 3] [(.int 3), (.ref ar)])) t → Steps p.tables e below (s₁.setTop (mkF m 16 #[rv ar, iv 10, iv 0, iv 4, iv 10, iv 2] [(.int 2), (.ref ar)])) t := by
    intro t k
    refine X0.baloadBytes hx (j := (2 : Int32)) (v := (.int b2)) (by rw [e0]; exact Ar6.1) (State.isArrayOf_alike hZ.alike Ar6.2.1) Ar6.2.2 hin6 hat6 (g := (mkF m 16 #[rv ar, iv 10, iv 0, iv 4, iv 10, iv 2] [(.int 2), (.ref ar)])) rfl rfl (hb hby d7_16) _ ?_
    show Steps p.tables e below (s₁.setTop (mkF m 17 #[rv ar, iv 10, iv 0, iv 4, iv 10, iv 2] [(.int b2)])) _
    refine XS.iload X0.here hx rfl (hb hby d7_17) rfl ?_
    refine XS.icmpYes X0.here hx rfl (pc0 := 19) (pc' := 25) rfl (hb hby d7_19) rfl (feq d2).2 (by decide) (by decide) ?_
    refine XS.iinc X0.here hx rfl (hb hby d7_25) rfl (l' := #[rv ar, iv 10, iv 0, iv 4, iv 10, iv 3]) rfl ?_
    show Steps p.tables e below (s₁.setTop (mkF m 28 #[rv ar, iv 10, iv 0, iv 4, iv 10, iv 3] [])) _
    refine XS.goto X0.here hx rfl (pc0 := 28) (pc' := 7) rfl (hb hby d7_28) (by decide) (by decide) ?_
    refine XS.iload X0.here hx rfl (hb hby d7_7) rfl ?_
    refine XS.iloadN X0.here hx rfl (hb hby d7_9) rfl ?_
    show Steps p.tables e below (s₁.setTop (mkF m 10 #[rv ar, iv 10, iv 0, iv 4, iv 10, iv 3] [(.int 4), (.int 3)])) _
    refine XS.icmpNo X0.here hx rfl (hb hby d7_10) rfl (tlt (by decide : (3 : Int32) < (4 : Int32))).2.1 ?_
    refine XS.aloadN X0.here hx rfl (hb hby d7_13) rfl rfl ?_
    refine XS.iload X0.here hx rfl (hb hby d7_14) rfl ?_
    show Steps p.tables e below (s₁.setTop (mkF m 16 #[rv ar, iv 10, iv 0, iv 4, iv 10, iv 3] [(.int 3), (.ref ar)])) _
    exact k
  refine own_lift sg7 ?_
  show own_Go p.tables e below (s₁.setTop (mkF m 16 #[rv ar, iv 10, iv 0, iv 4, iv 10, iv 3] [(.int 3), (.ref ar)])) _
  obtain ⟨cl8, Ar8, qx8, Sx8, N8', H8', G8'⟩ := id (Ars)
  have hin8 : ¬ ((3 : Int32) < 0 ∨ cl8.slots.size ≤ ((3 : Int32)).toNatClampNeg) := inb_of Sx8 ⟨(by decide : ¬ ((3 : Int32) < (0 : Int32))), (by decide : (3 : Int32) < (4 : Int32))⟩
  have hat8 : cl8.slots[((3 : Int32)).toNatClampNeg]? = some (.int b3) := Has.at H8' hin8 rfl
  have sg9 : ∀ t, Steps p.tables e below (s₁.setTop (mkF m 32 #[rv ar, iv 10, iv 0, iv 4, iv 10, iv 4] [(.int (-1))])) t → Steps p.tables e below (s₁.setTop (mkF m 16 #[rv ar, iv 10, iv 0, iv 4, iv 10, iv 3] [(.int 3), (.ref ar)])) t := by
    intro t k
    refine X0.baloadBytes hx (j := (3 : Int32)) (v := (.int b3)) (by rw [e0]; exact Ar8.1) (State.isArrayOf_alike hZ.alike Ar8.2.1) Ar8.2.2 hin8 hat8 (g := (mkF m 16 #[rv ar, iv 10, iv 0, iv 4, iv 10, iv 3] [(.int 3), (.ref ar)])) rfl rfl (hb hby d7_16) _ ?_
    show Steps p.tables e below (s₁.setTop (mkF m 17 #[rv ar, iv 10, iv 0, iv 4, iv 10, iv 3] [(.int b3)])) _
    refine XS.iload X0.here hx rfl (hb hby d7_17) rfl ?_
    refine XS.icmpYes X0.here hx rfl (pc0 := 19) (pc' := 25) rfl (hb hby d7_19) rfl (feq d3).2 (by decide) (by decide) ?_
    refine XS.iinc X0.here hx rfl (hb hby d7_25) rfl (l' := #[rv ar, iv 10, iv 0, iv 4, iv 10, iv 4]) rfl ?_
    show Steps p.tables e below (s₁.setTop (mkF m 28 #[rv ar, iv 10, iv 0, iv 4, iv 10, iv 4] [])) _
    refine XS.goto X0.here hx rfl (pc0 := 28) (pc' := 7) rfl (hb hby d7_28) (by decide) (by decide) ?_
    refine XS.iload X0.here hx rfl (hb hby d7_7) rfl ?_
    refine XS.iloadN X0.here hx rfl (hb hby d7_9) rfl ?_
    show Steps p.tables e below (s₁.setTop (mkF m 10 #[rv ar, iv 10, iv 0, iv 4, iv 10, iv 4] [(.int 4), (.int 4)])) _
    refine XS.icmpYes X0.here hx rfl (pc0 := 10) (pc' := 31) rfl (hb hby d7_10) rfl (flt (by decide : ¬ ((4 : Int32) < (4 : Int32)))).2.1 (by decide) (by decide) ?_
    refine XS.iconst X0.here hx rfl (hb hby d7_31) ?_
    show Steps p.tables e below (s₁.setTop (mkF m 32 #[rv ar, iv 10, iv 0, iv 4, iv 10, iv 4] [(.int (-1))])) _
    exact k
  refine own_lift sg9 ?_
  show own_Go p.tables e below (s₁.setTop (mkF m 32 #[rv ar, iv 10, iv 0, iv 4, iv 10, iv 4] [(.int (-1))])) _
  obtain ⟨fs, hr, hrun, hended, hW, hsame⟩ := X0.leave (v := some (.int (-1))) (fun h => by rw [Bd.returns] at h; cases h)
  refine ⟨_, _, ?_, hrun, hended, _, _, rfl, ?_, ⟨_, rfl⟩, hW, hsame.mono (by decide) (by decide)⟩
  · exact retI X0 hx Bd.returns (hb hby d7_32) hr
  · show Q_rmIdcn Z ar kb b0 b1 b2 b3 h0 n0 _ s₁.heap _
    rw [e0]
    exact ⟨rfl, N0, rfl⟩
theorem d8_0 : decode jdk_43_method_22_code 0 = .ok (.iload_n 1, 1) := by decide +kernel
theorem d8_1 : decode jdk_43_method_22_code 1 = .ok (.invokestatic 88, 3) := by decide +kernel
theorem pd_1 : parseMethodDescriptor "(I)Z" = some ⟨[.int], some .boolean⟩ := by decide +kernel
theorem d8_4 : decode jdk_43_method_22_code 4 = .ok (.ifCond .ne 5, 3) := by decide +kernel
theorem d8_9 : decode jdk_43_method_22_code 9 = .ok (.iload_n 2, 1) := by decide +kernel
theorem d8_10 : decode jdk_43_method_22_code 10 = .ok (.iconst 0, 1) := by decide +kernel
theorem d8_11 : decode jdk_43_method_22_code 11 = .ok (.invokestatic 92, 3) := by decide +kernel
theorem pd_2 : parseMethodDescriptor "(II)I" = some ⟨[.int, .int], some .int⟩ := by decide +kernel
theorem d8_14 : decode jdk_43_method_22_code 14 = .ok (.istore_n 2, 1) := by decide +kernel
theorem d8_15 : decode jdk_43_method_22_code 15 = .ok (.iload_n 3, 1) := by decide +kernel
theorem d8_16 : decode jdk_43_method_22_code 16 = .ok (.aload_n 0, 1) := by decide +kernel
theorem d8_17 : decode jdk_43_method_22_code 17 = .ok (.arraylength, 1) := by decide +kernel
theorem d8_18 : decode jdk_43_method_22_code 18 = .ok (.invokestatic 38, 3) := by decide +kernel
theorem d8_21 : decode jdk_43_method_22_code 21 = .ok (.istore_n 3, 1) := by decide +kernel
theorem d8_22 : decode jdk_43_method_22_code 22 = .ok (.iload_n 2, 1) := by decide +kernel
theorem d8_23 : decode jdk_43_method_22_code 23 = .ok (.iload_n 3, 1) := by decide +kernel
theorem d8_24 : decode jdk_43_method_22_code 24 = .ok (.if_icmp .lt 5, 3) := by decide +kernel
theorem d8_29 : decode jdk_43_method_22_code 29 = .ok (.aload_n 0, 1) := by decide +kernel
theorem d8_30 : decode jdk_43_method_22_code 30 = .ok (.iload_n 1, 1) := by decide +kernel
theorem d8_31 : decode jdk_43_method_22_code 31 = .ok (.iload_n 2, 1) := by decide +kernel
theorem d8_32 : decode jdk_43_method_22_code 32 = .ok (.iload_n 3, 1) := by decide +kernel
theorem d8_33 : decode jdk_43_method_22_code 33 = .ok (.invokestatic 95, 3) := by decide +kernel
theorem pd_3 : parseMethodDescriptor "([BIII)I" = some ⟨[(.array .byte), .int, .int, .int], some .int⟩ := by decide +kernel
theorem d8_36 : decode jdk_43_method_22_code 36 = .ok (.ireturn, 1) := by decide +kernel
def Q_rmIdl0 (Z : State) (ar : Addr) (kb : ClassId) (b0 : Int32) (b1 : Int32) (b2 : Int32) (b3 : Int32) (h0 : Heap) (n0 : Nat) (v : Option Value) (h : Heap) (L : List Loc) : Prop := v = some (.int 0) ∧ Fr n0 L ∧ h = h0
theorem ef_rmIdl0 (m : MethodId) (x0 : Addr) (x1 : Int32) (x2 : Int32) (x3 : Int32) : entryFrame m #[(.ref x0), (.int 10), (.int 0), (.int 4)] 4 = mkF m 0 #[.val (.ref x0), .val (.int 10), .val (.int 0), .val (.int 4)] [] := by first | (simp [entryFrame, mkF, argsToLocals, Value.category]; done) | rfl
set_option maxRecDepth 65536 in
set_option maxHeartbeats 40000000 in
theorem rmIdl0 (l : Launch) (Z : State) (a0 : Array Value) (hw : ∀ d ∈ tables_1, d.before a0 Z = true) (ws : List Jvm.Cond) (ar : Addr) (kb : ClassId) (b0 : Int32) (b1 : Int32) (b2 : Int32) (b3 : Int32) (h0 : Heap) (n0 : Nat) (Z0 : n0 ≤ h0.size) (Ars : Arv Z h0 ar kb .byte (4 : Int32) [(.int b0), (.int b1), (.int b2), (.int b3)] (.int 0)) (d0 : b0 = (10 : Int32)) :
    MetFree l (⟨L1x, "indexOf", "([BIII)I"⟩ : MethodName) (head1 (Jvm.Cond.code (⟨L1x, "indexOf", "([BIII)I"⟩ : MethodName) jdk_43_method_22_code 4 (some .int) :: ws) ({ frames := 1, cells := 0, slots := 0, locals := 17 } : Room)) (fun a U => a = #[(.ref ar), (.int 10), (.int 0), (.int 4)] ∧ Z.Warmed39 U.vm ∧ U.heap = h0) (fun _ _ _ _ _ => True) (fun _ U o U' => ∃ v L, o = .returned v ∧ Q_rmIdl0 Z ar kb b0 b1 b2 b3 h0 n0 v U'.heap L ∧ FrameEnd U o U' L ({ frames := 1, cells := 0, slots := 0, locals := 17 } : Room).cells ({ frames := 1, cells := 0, slots := 0, locals := 17 } : Room).slots) := by
  refine MetFree.of_bodySF (plainFor_of_name pn_1) hisR ?_
  intro p e s m args below meth c s₁ Bd hml0 hP hK
  obtain ⟨rfl, hZ, hh⟩ := hP
  have hx := Bd.exec
  have hby := Bd.bytes
  have hml : c.maxLocals = 4 := hml0
  have hown : s.vm.findClass L1x = some m.cls := findClass_of_methodNamed Bd.named
  have hnm := (name_of_methodNamed Bd.named Bd.method).1
  have X0 : Stand p l e ({ frames := 1, cells := 0, slots := 0, locals := 17 } : Room) s m #[(.ref ar), (.int 10), (.int 0), (.int 4)] below meth c s₁ [] 0 0 := Stand.of_body Bd
  have e0 : s₁.heap = h0 := by rw [← hh, Bd.state]; rfl
  have N0 := Fr.nil n0
  refine own_go (own_lift (fun t k => castTop (ef_rmIdl0 m ar (10 : Int32) (0 : Int32) (4 : Int32)) k) ?_)
  show own_Go p.tables e below (s₁.setTop (mkF m 0 #[rv ar, iv 10, iv 0, iv 4] [])) _
  have sg1 : ∀ t, Steps p.tables e below (s₁.setTop (mkF m 1 #[rv ar, iv 10, iv 0, iv 4] [(.int 10)])) t → Steps p.tables e below (s₁.setTop (mkF m 0 #[rv ar, iv 10, iv 0, iv 4] [])) t := by
    intro t k
    refine XS.iloadN X0.here hx rfl (hb hby d8_0) rfl ?_
    show Steps p.tables e below (s₁.setTop (mkF m 1 #[rv ar, iv 10, iv 0, iv 4] [(.int 10)])) _
    exact k
  refine own_lift sg1 ?_
  show own_Go p.tables e below (s₁.setTop (mkF m 1 #[rv ar, iv 10, iv 0, iv 4] [(.int 10)])) _
  obtain ⟨_, _, ⟨T2, Lx2, kx2, nx2⟩, -, X2, ⟨Lc2, hQ2, lx2, yx2, zx2⟩, st2⟩ := Jvm.LawKit.callS X0 hx (y := (⟨L1x, "canEncode", "(I)Z"⟩ : MethodName)) hown (mvT hZ (wd hw 78 rfl)) (mvT hZ (wd hw 79 rfl)) (mvT hZ (wd hw 76 rfl)) (mvT hZ (wd hw 80 rfl)) (by decide) (backOf (W := 0) (rmCan l Z a0 hw [] (10 : Int32) h0 n0 Z0 (by decide : ¬ ((10 : Int32) < (0 : Int32))) (by decide : ¬ ((255 : Int32) < (10 : Int32)))) hZ (wd hw 80 rfl) (wd hw 76 rfl) (by decide) (by decide)) (g := (mkF m 1 #[rv ar, iv 10, iv 0, iv 4] [(.int 10)])) rfl (by rw [hml]; rfl) (argsL := [(.int 10)]) (rest := []) (lenOf pd_1 rfl) rfl (by show 2 * 0 + _ ≤ _; exact Nat.le_of_eq rfl) (hb hby d8_1) (fun _ _ => ⟨rfl, e0, (by decide : 0 + 0 ≤ _), (by decide : 0 + 0 ≤ _)⟩)
  dsimp only [Pt.U, Pt.locs, Pt.cells, Pt.slots] at X2 lx2 yx2 zx2 st2 hQ2
  subst lx2 yx2 zx2
  obtain ⟨rfl, N2q, e2⟩ := hQ2
  have N2 := Fr.app N0 N2q
  refine own_lift st2 ?_
  show own_Go p.tables e below (T2.setTop (mkF m 4 #[rv ar, iv 10, iv 0, iv 4] [(.int 1)])) _
  have sg3 : ∀ t, Steps p.tables e below (T2.setTop (mkF m 11 #[rv ar, iv 10, iv 0, iv 4] [(.int 0), (.int 0)])) t → Steps p.tables e below (T2.setTop (mkF m 4 #[rv ar, iv 10, iv 0, iv 4] [(.int 1)])) t := by
    intro t k
    refine XS.ifYes X2.here hx rfl (pc0 := 4) (pc' := 9) rfl (hb hby d8_4) rfl ((if0 _ _).trans (feq (by decide : ¬ ((1 : Int32) = (0 : Int32)))).2) (by decide) (by decide) ?_
    show Steps p.tables e below (T2.setTop (mkF m 9 #[rv ar, iv 10, iv 0, iv 4] [])) _
    refine XS.iloadN X2.here hx rfl (hb hby d8_9) rfl ?_
    refine XS.iconst X2.here hx rfl (hb hby d8_10) ?_
    show Steps p.tables e below (T2.setTop (mkF m 11 #[rv ar, iv 10, iv 0, iv 4] [(.int 0), (.int 0)])) _
    exact k
  refine own_lift sg3 ?_
  show own_Go p.tables e below (T2.setTop (mkF m 11 #[rv ar, iv 10, iv 0, iv 4] [(.int 0), (.int 0)])) _
  obtain ⟨_, _, ⟨T4, Lx4, kx4, nx4⟩, -, X4, ⟨Lc4, hQ4, lx4, yx4, zx4⟩, st4⟩ := Jvm.LawKit.callS X2 hx (y := (⟨"java/lang/Math", "max", "(II)I"⟩ : MethodName)) hown (mvT hZ (wd hw 81 rfl)) (mvT hZ (wd hw 82 rfl)) (mvT hZ (wd hw 83 rfl)) (mvT hZ (wd hw 84 rfl)) (by decide) (backOf (W := 0) (rmMax l Z a0 hw [] (0 : Int32) (0 : Int32) h0 n0 Z0 (by decide : ¬ ((0 : Int32) < (0 : Int32)))) hZ (wd hw 84 rfl) (wd hw 83 rfl) (by decide) (by decide)) (g := (mkF m 11 #[rv ar, iv 10, iv 0, iv 4] [(.int 0), (.int 0)])) rfl (by rw [hml]; rfl) (argsL := [(.int 0), (.int 0)]) (rest := []) (lenOf pd_2 rfl) rfl (by show 2 * 0 + _ ≤ _; exact Nat.le_of_eq rfl) (hb hby d8_11) (fun _ _ => ⟨rfl, e2, (by decide : 0 + 0 ≤ _), (by decide : 0 + 0 ≤ _)⟩)
  dsimp only [Pt.U, Pt.locs, Pt.cells, Pt.slots] at X4 lx4 yx4 zx4 st4 hQ4
  subst lx4 yx4 zx4
  obtain ⟨rfl, N4q, e4⟩ := hQ4
  have N4 := Fr.app N2 N4q
  refine own_lift st4 ?_
  show own_Go p.tables e below (T4.setTop (mkF m 14 #[rv ar, iv 10, iv 0, iv 4] [(.int 0)])) _
  have sg5 : ∀ t, Steps p.tables e below (T4.setTop (mkF m 17 #[rv ar, iv 10, iv 0, iv 4] [(.ref ar), (.int 4)])) t → Steps p.tables e below (T4.setTop (mkF m 14 #[rv ar, iv 10, iv 0, iv 4] [(.int 0)])) t := by
    intro t k
    refine XS.istoreN X4.here hx rfl (hb hby d8_14) rfl (l' := #[rv ar, iv 10, iv 0, iv 4]) rfl ?_
    show Steps p.tables e below (T4.setTop (mkF m 15 #[rv ar, iv 10, iv 0, iv 4] [])) _
    refine XS.iloadN X4.here hx rfl (hb hby d8_15) rfl ?_
    refine XS.aloadN X4.here hx rfl (hb hby d8_16) rfl rfl ?_
    show Steps p.tables e below (T4.setTop (mkF m 17 #[rv ar, iv 10, iv 0, iv 4] [(.ref ar), (.int 4)])) _
    exact k
  refine own_lift sg5 ?_
  show own_Go p.tables e below (T4.setTop (mkF m 17 #[rv ar, iv 10, iv 0, iv 4] [(.ref ar), (.int 4)])) _
  obtain ⟨cl6, Ar6, -, Sx6, N6', -, -⟩ := id (Ars)
  have st6 : ∀ t, Steps p.tables e below (T4.setTop (mkF m 18 #[rv ar, iv 10, iv 0, iv 4] [(.int 4), (.int 4)])) t → Steps p.tables e below (T4.setTop (mkF m 17 #[rv ar, iv 10, iv 0, iv 4] [(.ref ar), (.int 4)])) t := by
    intro t k
    refine X4.arraylength hx (by rw [e4]; exact Ar6.1) (State.isArrayOf_alike hZ.alike Ar6.2.1) (g := (mkF m 17 #[rv ar, iv 10, iv 0, iv 4] [(.ref ar), (.int 4)])) rfl rfl (hb hby d8_17) _ ?_
    rw [len_of Sx6 N6']
    exact k
  refine own_lift st6 ?_
  show own_Go p.tables e below (T4.setTop (mkF m 18 #[rv ar, iv 10, iv 0, iv 4] [(.int 4), (.int 4)])) _
  obtain ⟨_, _, ⟨T7, Lx7, kx7, nx7⟩, -, X7, ⟨Lc7, hQ7, lx7, yx7, zx7⟩, st7⟩ := Jvm.LawKit.callS X4 hx (y := (⟨"java/lang/Math", "min", "(II)I"⟩ : MethodName)) hown (mvT hZ (wd hw 85 rfl)) (mvT hZ (wd hw 86 rfl)) (mvT hZ (wd hw 83 rfl)) (mvT hZ (wd hw 87 rfl)) (by decide) (backOf (W := 0) (rmMin l Z a0 hw [] (4 : Int32) (4 : Int32) h0 n0 Z0 (by decide : ¬ ((4 : Int32) < (4 : Int32)))) hZ (wd hw 87 rfl) (wd hw 83 rfl) (by decide) (by decide)) (g := (mkF m 18 #[rv ar, iv 10, iv 0, iv 4] [(.int 4), (.int 4)])) rfl (by rw [hml]; rfl) (argsL := [(.int 4), (.int 4)]) (rest := []) (lenOf pd_2 rfl) rfl (by show 2 * 0 + _ ≤ _; exact Nat.le_of_eq rfl) (hb hby d8_18) (fun _ _ => ⟨rfl, e4, (by decide : 0 + 0 ≤ _), (by decide : 0 + 0 ≤ _)⟩)
  dsimp only [Pt.U, Pt.locs, Pt.cells, Pt.slots] at X7 lx7 yx7 zx7 st7 hQ7
  subst lx7 yx7 zx7
  obtain ⟨rfl, N7q, e7⟩ := hQ7
  have N7 := Fr.app N4 N7q
  refine own_lift st7 ?_
  show own_Go p.tables e below (T7.setTop (mkF m 21 #[rv ar, iv 10, iv 0, iv 4] [(.int 4)])) _
  have sg8 : ∀ t, Steps p.tables e below (T7.setTop (mkF m 33 #[rv ar, iv 10, iv 0, iv 4] [(.int 4), (.int 0), (.int 10), (.ref ar)])) t → Steps p.tables e below (T7.setTop (mkF m 21 #[rv ar, iv 10, iv 0, iv 4] [(.int 4)])) t := by
    intro t k
    refine XS.istoreN X7.here hx rfl (hb hby d8_21) rfl (l' := #[rv ar, iv 10, iv 0, iv 4]) rfl ?_
    show Steps p.tables e below (T7.setTop (mkF m 22 #[rv ar, iv 10, iv 0, iv 4] [])) _
    refine XS.iloadN X7.here hx rfl (hb hby d8_22) rfl ?_
    refine XS.iloadN X7.here hx rfl (hb hby d8_23) rfl ?_
    refine XS.icmpYes X7.here hx rfl (pc0 := 24) (pc' := 29) rfl (hb hby d8_24) rfl (tlt (by decide : (0 : Int32) < (4 : Int32))).1 (by decide) (by decide) ?_
    show Steps p.tables e below (T7.setTop (mkF m 29 #[rv ar, iv 10, iv 0, iv 4] [])) _
    refine XS.aloadN X7.here hx rfl (hb hby d8_29) rfl rfl ?_
    refine XS.iloadN X7.here hx rfl (hb hby d8_30) rfl ?_
    refine XS.iloadN X7.here hx rfl (hb hby d8_31) rfl ?_
    show Steps p.tables e below (T7.setTop (mkF m 32 #[rv ar, iv 10, iv 0, iv 4] [(.int 0), (.int 10), (.ref ar)])) _
    refine XS.iloadN X7.here hx rfl (hb hby d8_32) rfl ?_
    show Steps p.tables e below (T7.setTop (mkF m 33 #[rv ar, iv 10, iv 0, iv 4] [(.int 4), (.int 0), (.int 10), (.ref ar)])) _
    exact k
  refine own_lift sg8 ?_
  show own_Go p.tables e below (T7.setTop (mkF m 33 #[rv ar, iv 10, iv 0, iv 4] [(.int 4), (.int 0), (.int 10), (.ref ar)])) _
  obtain ⟨_, _, ⟨T9, Lx9, kx9, nx9⟩, -, X9, ⟨Lc9, hQ9, lx9, yx9, zx9⟩, st9⟩ := Jvm.LawKit.callS X7 hx (y := (⟨L1x, "indexOfChar", "([BIII)I"⟩ : MethodName)) hown (mvT hZ (wd hw 88 rfl)) (mvT hZ (wd hw 89 rfl)) (mvT hZ (wd hw 76 rfl)) (mvT hZ (wd hw 90 rfl)) (by decide) (backOf (W := 0) (rmIdc0 l Z a0 hw [] ar kb b0 b1 b2 b3 h0 n0 Z0 Ars d0) hZ (wd hw 90 rfl) (wd hw 76 rfl) (by decide) (by decide)) (g := (mkF m 33 #[rv ar, iv 10, iv 0, iv 4] [(.int 4), (.int 0), (.int 10), (.ref ar)])) rfl (by rw [hml]; rfl) (argsL := [(.ref ar), (.int 10), (.int 0), (.int 4)]) (rest := []) (lenOf pd_3 rfl) rfl (by show 2 * 0 + _ ≤ _; exact Nat.le_of_eq rfl) (hb hby d8_33) (fun _ _ => ⟨rfl, e7, (by decide : 0 + 0 ≤ _), (by decide : 0 + 0 ≤ _)⟩)
  dsimp only [Pt.U, Pt.locs, Pt.cells, Pt.slots] at X9 lx9 yx9 zx9 st9 hQ9
  subst lx9 yx9 zx9
  obtain ⟨rfl, N9q, e9⟩ := hQ9
  have N9 := Fr.app N7 N9q
  refine own_lift st9 ?_
  show own_Go p.tables e below (T9.setTop (mkF m 36 #[rv ar, iv 10, iv 0, iv 4] [(.int 0)])) _
  obtain ⟨fs, hr, hrun, hended, hW, hsame⟩ := X9.leave (v := some (.int 0)) (fun h => by rw [Bd.returns] at h; cases h)
  refine ⟨_, _, ?_, hrun, hended, _, _, rfl, ?_, ⟨_, rfl⟩, hW, hsame.mono (by decide) (by decide)⟩
  · exact retI X9 hx Bd.returns (hb hby d8_36) hr
  · show Q_rmIdl0 Z ar kb b0 b1 b2 b3 h0 n0 _ T9.heap _
    rw [e9]
    exact ⟨rfl, N9, rfl⟩
def Q_rmIdl1 (Z : State) (ar : Addr) (kb : ClassId) (b0 : Int32) (b1 : Int32) (b2 : Int32) (b3 : Int32) (h0 : Heap) (n0 : Nat) (v : Option Value) (h : Heap) (L : List Loc) : Prop := v = some (.int 1) ∧ Fr n0 L ∧ h = h0
theorem ef_rmIdl1 (m : MethodId) (x0 : Addr) (x1 : Int32) (x2 : Int32) (x3 : Int32) : entryFrame m #[(.ref x0), (.int 10), (.int 0), (.int 4)] 4 = mkF m 0 #[.val (.ref x0), .val (.int 10), .val (.int 0), .val (.int 4)] [] := by first | (simp [entryFrame, mkF, argsToLocals, Value.category]; done) | rfl
set_option maxRecDepth 65536 in
set_option maxHeartbeats 40000000 in
theorem rmIdl1 (l : Launch) (Z : State) (a0 : Array Value) (hw : ∀ d ∈ tables_1, d.before a0 Z = true) (ws : List Jvm.Cond) (ar : Addr) (kb : ClassId) (b0 : Int32) (b1 : Int32) (b2 : Int32) (b3 : Int32) (h0 : Heap) (n0 : Nat) (Z0 : n0 ≤ h0.size) (Ars : Arv Z h0 ar kb .byte (4 : Int32) [(.int b0), (.int b1), (.int b2), (.int b3)] (.int 0)) (d0 : ¬ (b0 = (10 : Int32))) (d1 : b1 = (10 : Int32)) :
    MetFree l (⟨L1x, "indexOf", "([BIII)I"⟩ : MethodName) (head1 (Jvm.Cond.code (⟨L1x, "indexOf", "([BIII)I"⟩ : MethodName) jdk_43_method_22_code 4 (some .int) :: ws) ({ frames := 1, cells := 0, slots := 0, locals := 17 } : Room)) (fun a U => a = #[(.ref ar), (.int 10), (.int 0), (.int 4)] ∧ Z.Warmed39 U.vm ∧ U.heap = h0) (fun _ _ _ _ _ => True) (fun _ U o U' => ∃ v L, o = .returned v ∧ Q_rmIdl1 Z ar kb b0 b1 b2 b3 h0 n0 v U'.heap L ∧ FrameEnd U o U' L ({ frames := 1, cells := 0, slots := 0, locals := 17 } : Room).cells ({ frames := 1, cells := 0, slots := 0, locals := 17 } : Room).slots) := by
  refine MetFree.of_bodySF (plainFor_of_name pn_1) hisR ?_
  intro p e s m args below meth c s₁ Bd hml0 hP hK
  obtain ⟨rfl, hZ, hh⟩ := hP
  have hx := Bd.exec
  have hby := Bd.bytes
  have hml : c.maxLocals = 4 := hml0
  have hown : s.vm.findClass L1x = some m.cls := findClass_of_methodNamed Bd.named
  have hnm := (name_of_methodNamed Bd.named Bd.method).1
  have X0 : Stand p l e ({ frames := 1, cells := 0, slots := 0, locals := 17 } : Room) s m #[(.ref ar), (.int 10), (.int 0), (.int 4)] below meth c s₁ [] 0 0 := Stand.of_body Bd
  have e0 : s₁.heap = h0 := by rw [← hh, Bd.state]; rfl
  have N0 := Fr.nil n0
  refine own_go (own_lift (fun t k => castTop (ef_rmIdl1 m ar (10 : Int32) (0 : Int32) (4 : Int32)) k) ?_)
  show own_Go p.tables e below (s₁.setTop (mkF m 0 #[rv ar, iv 10, iv 0, iv 4] [])) _
  have sg1 : ∀ t, Steps p.tables e below (s₁.setTop (mkF m 1 #[rv ar, iv 10, iv 0, iv 4] [(.int 10)])) t → Steps p.tables e below (s₁.setTop (mkF m 0 #[rv ar, iv 10, iv 0, iv 4] [])) t := by
    intro t k
    refine XS.iloadN X0.here hx rfl (hb hby d8_0) rfl ?_
    show Steps p.tables e below (s₁.setTop (mkF m 1 #[rv ar, iv 10, iv 0, iv 4] [(.int 10)])) _
    exact k
  refine own_lift sg1 ?_
  show own_Go p.tables e below (s₁.setTop (mkF m 1 #[rv ar, iv 10, iv 0, iv 4] [(.int 10)])) _
  obtain ⟨_, _, ⟨T2, Lx2, kx2, nx2⟩, -, X2, ⟨Lc2, hQ2, lx2, yx2, zx2⟩, st2⟩ := Jvm.LawKit.callS X0 hx (y := (⟨L1x, "canEncode", "(I)Z"⟩ : MethodName)) hown (mvT hZ (wd hw 78 rfl)) (mvT hZ (wd hw 79 rfl)) (mvT hZ (wd hw 76 rfl)) (mvT hZ (wd hw 80 rfl)) (by decide) (backOf (W := 0) (rmCan l Z a0 hw [] (10 : Int32) h0 n0 Z0 (by decide : ¬ ((10 : Int32) < (0 : Int32))) (by decide : ¬ ((255 : Int32) < (10 : Int32)))) hZ (wd hw 80 rfl) (wd hw 76 rfl) (by decide) (by decide)) (g := (mkF m 1 #[rv ar, iv 10, iv 0, iv 4] [(.int 10)])) rfl (by rw [hml]; rfl) (argsL := [(.int 10)]) (rest := []) (lenOf pd_1 rfl) rfl (by show 2 * 0 + _ ≤ _; exact Nat.le_of_eq rfl) (hb hby d8_1) (fun _ _ => ⟨rfl, e0, (by decide : 0 + 0 ≤ _), (by decide : 0 + 0 ≤ _)⟩)
  dsimp only [Pt.U, Pt.locs, Pt.cells, Pt.slots] at X2 lx2 yx2 zx2 st2 hQ2
  subst lx2 yx2 zx2
  obtain ⟨rfl, N2q, e2⟩ := hQ2
  have N2 := Fr.app N0 N2q
  refine own_lift st2 ?_
  show own_Go p.tables e below (T2.setTop (mkF m 4 #[rv ar, iv 10, iv 0, iv 4] [(.int 1)])) _
  have sg3 : ∀ t, Steps p.tables e below (T2.setTop (mkF m 11 #[rv ar, iv 10, iv 0, iv 4] [(.int 0), (.int 0)])) t → Steps p.tables e below (T2.setTop (mkF m 4 #[rv ar, iv 10, iv 0, iv 4] [(.int 1)])) t := by
    intro t k
    refine XS.ifYes X2.here hx rfl (pc0 := 4) (pc' := 9) rfl (hb hby d8_4) rfl ((if0 _ _).trans (feq (by decide : ¬ ((1 : Int32) = (0 : Int32)))).2) (by decide) (by decide) ?_
    show Steps p.tables e below (T2.setTop (mkF m 9 #[rv ar, iv 10, iv 0, iv 4] [])) _
    refine XS.iloadN X2.here hx rfl (hb hby d8_9) rfl ?_
    refine XS.iconst X2.here hx rfl (hb hby d8_10) ?_
    show Steps p.tables e below (T2.setTop (mkF m 11 #[rv ar, iv 10, iv 0, iv 4] [(.int 0), (.int 0)])) _
    exact k
  refine own_lift sg3 ?_
  show own_Go p.tables e below (T2.setTop (mkF m 11 #[rv ar, iv 10, iv 0, iv 4] [(.int 0), (.int 0)])) _
  obtain ⟨_, _, ⟨T4, Lx4, kx4, nx4⟩, -, X4, ⟨Lc4, hQ4, lx4, yx4, zx4⟩, st4⟩ := Jvm.LawKit.callS X2 hx (y := (⟨"java/lang/Math", "max", "(II)I"⟩ : MethodName)) hown (mvT hZ (wd hw 81 rfl)) (mvT hZ (wd hw 82 rfl)) (mvT hZ (wd hw 83 rfl)) (mvT hZ (wd hw 84 rfl)) (by decide) (backOf (W := 0) (rmMax l Z a0 hw [] (0 : Int32) (0 : Int32) h0 n0 Z0 (by decide : ¬ ((0 : Int32) < (0 : Int32)))) hZ (wd hw 84 rfl) (wd hw 83 rfl) (by decide) (by decide)) (g := (mkF m 11 #[rv ar, iv 10, iv 0, iv 4] [(.int 0), (.int 0)])) rfl (by rw [hml]; rfl) (argsL := [(.int 0), (.int 0)]) (rest := []) (lenOf pd_2 rfl) rfl (by show 2 * 0 + _ ≤ _; exact Nat.le_of_eq rfl) (hb hby d8_11) (fun _ _ => ⟨rfl, e2, (by decide : 0 + 0 ≤ _), (by decide : 0 + 0 ≤ _)⟩)
  dsimp only [Pt.U, Pt.locs, Pt.cells, Pt.slots] at X4 lx4 yx4 zx4 st4 hQ4
  subst lx4 yx4 zx4
  obtain ⟨rfl, N4q, e4⟩ := hQ4
  have N4 := Fr.app N2 N4q
  refine own_lift st4 ?_
  show own_Go p.tables e below (T4.setTop (mkF m 14 #[rv ar, iv 10, iv 0, iv 4] [(.int 0)])) _
  have sg5 : ∀ t, Steps p.tables e below (T4.setTop (mkF m 17 #[rv ar, iv 10, iv 0, iv 4] [(.ref ar), (.int 4)])) t → Steps p.tables e below (T4.setTop (mkF m 14 #[rv ar, iv 10, iv 0, iv 4] [(.int 0)])) t := by
    intro t k
    refine XS.istoreN X4.here hx rfl (hb hby d8_14) rfl (l' := #[rv ar, iv 10, iv 0, iv 4]) rfl ?_
    show Steps p.tables e below (T4.setTop (mkF m 15 #[rv ar, iv 10, iv 0, iv 4] [])) _
    refine XS.iloadN X4.here hx rfl (hb hby d8_15) rfl ?_
    refine XS.aloadN X4.here hx rfl (hb hby d8_16) rfl rfl ?_
    show Steps p.tables e below (T4.setTop (mkF m 17 #[rv ar, iv 10, iv 0, iv 4] [(.ref ar), (.int 4)])) _
    exact k
  refine own_lift sg5 ?_
  show own_Go p.tables e below (T4.setTop (mkF m 17 #[rv ar, iv 10, iv 0, iv 4] [(.ref ar), (.int 4)])) _
  obtain ⟨cl6, Ar6, -, Sx6, N6', -, -⟩ := id (Ars)
  have st6 : ∀ t, Steps p.tables e below (T4.setTop (mkF m 18 #[rv ar, iv 10, iv 0, iv 4] [(.int 4), (.int 4)])) t → Steps p.tables e below (T4.setTop (mkF m 17 #[rv ar, iv 10, iv 0, iv 4] [(.ref ar), (.int 4)])) t := by
    intro t k
    refine X4.arraylength hx (by rw [e4]; exact Ar6.1) (State.isArrayOf_alike hZ.alike Ar6.2.1) (g := (mkF m 17 #[rv ar, iv 10, iv 0, iv 4] [(.ref ar), (.int 4)])) rfl rfl (hb hby d8_17) _ ?_
    rw [len_of Sx6 N6']
    exact k
  refine own_lift st6 ?_
  show own_Go p.tables e below (T4.setTop (mkF m 18 #[rv ar, iv 10, iv 0, iv 4] [(.int 4), (.int 4)])) _
  obtain ⟨_, _, ⟨T7, Lx7, kx7, nx7⟩, -, X7, ⟨Lc7, hQ7, lx7, yx7, zx7⟩, st7⟩ := Jvm.LawKit.callS X4 hx (y := (⟨"java/lang/Math", "min", "(II)I"⟩ : MethodName)) hown (mvT hZ (wd hw 85 rfl)) (mvT hZ (wd hw 86 rfl)) (mvT hZ (wd hw 83 rfl)) (mvT hZ (wd hw 87 rfl)) (by decide) (backOf (W := 0) (rmMin l Z a0 hw [] (4 : Int32) (4 : Int32) h0 n0 Z0 (by decide : ¬ ((4 : Int32) < (4 : Int32)))) hZ (wd hw 87 rfl) (wd hw 83 rfl) (by decide) (by decide)) (g := (mkF m 18 #[rv ar, iv 10, iv 0, iv 4] [(.int 4), (.int 4)])) rfl (by rw [hml]; rfl) (argsL := [(.int 4), (.int 4)]) (rest := []) (lenOf pd_2 rfl) rfl (by show 2 * 0 + _ ≤ _; exact Nat.le_of_eq rfl) (hb hby d8_18) (fun _ _ => ⟨rfl, e4, (by decide : 0 + 0 ≤ _), (by decide : 0 + 0 ≤ _)⟩)
  dsimp only [Pt.U, Pt.locs, Pt.cells, Pt.slots] at X7 lx7 yx7 zx7 st7 hQ7
  subst lx7 yx7 zx7
  obtain ⟨rfl, N7q, e7⟩ := hQ7
  have N7 := Fr.app N4 N7q
  refine own_lift st7 ?_
  show own_Go p.tables e below (T7.setTop (mkF m 21 #[rv ar, iv 10, iv 0, iv 4] [(.int 4)])) _
  have sg8 : ∀ t, Steps p.tables e below (T7.setTop (mkF m 33 #[rv ar, iv 10, iv 0, iv 4] [(.int 4), (.int 0), (.int 10), (.ref ar)])) t → Steps p.tables e below (T7.setTop (mkF m 21 #[rv ar, iv 10, iv 0, iv 4] [(.int 4)])) t := by
    intro t k
    refine XS.istoreN X7.here hx rfl (hb hby d8_21) rfl (l' := #[rv ar, iv 10, iv 0, iv 4]) rfl ?_
    show Steps p.tables e below (T7.setTop (mkF m 22 #[rv ar, iv 10, iv 0, iv 4] [])) _
    refine XS.iloadN X7.here hx rfl (hb hby d8_22) rfl ?_
    refine XS.iloadN X7.here hx rfl (hb hby d8_23) rfl ?_
    refine XS.icmpYes X7.here hx rfl (pc0 := 24) (pc' := 29) rfl (hb hby d8_24) rfl (tlt (by decide : (0 : Int32) < (4 : Int32))).1 (by decide) (by decide) ?_
    show Steps p.tables e below (T7.setTop (mkF m 29 #[rv ar, iv 10, iv 0, iv 4] [])) _
    refine XS.aloadN X7.here hx rfl (hb hby d8_29) rfl rfl ?_
    refine XS.iloadN X7.here hx rfl (hb hby d8_30) rfl ?_
    refine XS.iloadN X7.here hx rfl (hb hby d8_31) rfl ?_
    show Steps p.tables e below (T7.setTop (mkF m 32 #[rv ar, iv 10, iv 0, iv 4] [(.int 0), (.int 10), (.ref ar)])) _
    refine XS.iloadN X7.here hx rfl (hb hby d8_32) rfl ?_
    show Steps p.tables e below (T7.setTop (mkF m 33 #[rv ar, iv 10, iv 0, iv 4] [(.int 4), (.int 0), (.int 10), (.ref ar)])) _
    exact k
  refine own_lift sg8 ?_
  show own_Go p.tables e below (T7.setTop (mkF m 33 #[rv ar, iv 10, iv 0, iv 4] [(.int 4), (.int 0), (.int 10), (.ref ar)])) _
  obtain ⟨_, _, ⟨T9, Lx9, kx9, nx9⟩, -, X9, ⟨Lc9, hQ9, lx9, yx9, zx9⟩, st9⟩ := Jvm.LawKit.callS X7 hx (y := (⟨L1x, "indexOfChar", "([BIII)I"⟩ : MethodName)) hown (mvT hZ (wd hw 88 rfl)) (mvT hZ (wd hw 89 rfl)) (mvT hZ (wd hw 76 rfl)) (mvT hZ (wd hw 90 rfl)) (by decide) (backOf (W := 0) (rmIdc1 l Z a0 hw [] ar kb b0 b1 b2 b3 h0 n0 Z0 Ars d0 d1) hZ (wd hw 90 rfl) (wd hw 76 rfl) (by decide) (by decide)) (g := (mkF m 33 #[rv ar, iv 10, iv 0, iv 4] [(.int 4), (.int 0), (.int 10), (.ref ar)])) rfl (by rw [hml]; rfl) (argsL := [(.ref ar), (.int 10), (.int 0), (.int 4)]) (rest := []) (lenOf pd_3 rfl) rfl (by show 2 * 0 + _ ≤ _; exact Nat.le_of_eq rfl) (hb hby d8_33) (fun _ _ => ⟨rfl, e7, (by decide : 0 + 0 ≤ _), (by decide : 0 + 0 ≤ _)⟩)
  dsimp only [Pt.U, Pt.locs, Pt.cells, Pt.slots] at X9 lx9 yx9 zx9 st9 hQ9
  subst lx9 yx9 zx9
  obtain ⟨rfl, N9q, e9⟩ := hQ9
  have N9 := Fr.app N7 N9q
  refine own_lift st9 ?_
  show own_Go p.tables e below (T9.setTop (mkF m 36 #[rv ar, iv 10, iv 0, iv 4] [(.int 1)])) _
  obtain ⟨fs, hr, hrun, hended, hW, hsame⟩ := X9.leave (v := some (.int 1)) (fun h => by rw [Bd.returns] at h; cases h)
  refine ⟨_, _, ?_, hrun, hended, _, _, rfl, ?_, ⟨_, rfl⟩, hW, hsame.mono (by decide) (by decide)⟩
  · exact retI X9 hx Bd.returns (hb hby d8_36) hr
  · show Q_rmIdl1 Z ar kb b0 b1 b2 b3 h0 n0 _ T9.heap _
    rw [e9]
    exact ⟨rfl, N9, rfl⟩
def Q_rmIdl2 (Z : State) (ar : Addr) (kb : ClassId) (b0 : Int32) (b1 : Int32) (b2 : Int32) (b3 : Int32) (h0 : Heap) (n0 : Nat) (v : Option Value) (h : Heap) (L : List Loc) : Prop := v = some (.int 2) ∧ Fr n0 L ∧ h = h0
theorem ef_rmIdl2 (m : MethodId) (x0 : Addr) (x1 : Int32) (x2 : Int32) (x3 : Int32) : entryFrame m #[(.ref x0), (.int 10), (.int 0), (.int 4)] 4 = mkF m 0 #[.val (.ref x0), .val (.int 10), .val (.int 0), .val (.int 4)] [] := by first | (simp [entryFrame, mkF, argsToLocals, Value.category]; done) | rfl
set_option maxRecDepth 65536 in
set_option maxHeartbeats 40000000 in
theorem rmIdl2 (l : Launch) (Z : State) (a0 : Array Value) (hw : ∀ d ∈ tables_1, d.before a0 Z = true) (ws : List Jvm.Cond) (ar : Addr) (kb : ClassId) (b0 : Int32) (b1 : Int32) (b2 : Int32) (b3 : Int32) (h0 : Heap) (n0 : Nat) (Z0 : n0 ≤ h0.size) (Ars : Arv Z h0 ar kb .byte (4 : Int32) [(.int b0), (.int b1), (.int b2), (.int b3)] (.int 0)) (d0 : ¬ (b0 = (10 : Int32))) (d1 : ¬ (b1 = (10 : Int32))) (d2 : b2 = (10 : Int32)) :
    MetFree l (⟨L1x, "indexOf", "([BIII)I"⟩ : MethodName) (head1 (Jvm.Cond.code (⟨L1x, "indexOf", "([BIII)I"⟩ : MethodName) jdk_43_method_22_code 4 (some .int) :: ws) ({ frames := 1, cells := 0, slots := 0, locals := 17 } : Room)) (fun a U => a = #[(.ref ar), (.int 10), (.int 0), (.int 4)] ∧ Z.Warmed39 U.vm ∧ U.heap = h0) (fun _ _ _ _ _ => True) (fun _ U o U' => ∃ v L, o = .returned v ∧ Q_rmIdl2 Z ar kb b0 b1 b2 b3 h0 n0 v U'.heap L ∧ FrameEnd U o U' L ({ frames := 1, cells := 0, slots := 0, locals := 17 } : Room).cells ({ frames := 1, cells := 0, slots := 0, locals := 17 } : Room).slots) := by
  refine MetFree.of_bodySF (plainFor_of_name pn_1) hisR ?_
  intro p e s m args below meth c s₁ Bd hml0 hP hK
  obtain ⟨rfl, hZ, hh⟩ := hP
  have hx := Bd.exec
  have hby := Bd.bytes
  have hml : c.maxLocals = 4 := hml0
  have hown : s.vm.findClass L1x = some m.cls := findClass_of_methodNamed Bd.named
  have hnm := (name_of_methodNamed Bd.named Bd.method).1
  have X0 : Stand p l e ({ frames := 1, cells := 0, slots := 0, locals := 17 } : Room) s m #[(.ref ar), (.int 10), (.int 0), (.int 4)] below meth c s₁ [] 0 0 := Stand.of_body Bd
  have e0 : s₁.heap = h0 := by rw [← hh, Bd.state]; rfl
  have N0 := Fr.nil n0
  refine own_go (own_lift (fun t k => castTop (ef_rmIdl2 m ar (10 : Int32) (0 : Int32) (4 : Int32)) k) ?_)
  show own_Go p.tables e below (s₁.setTop (mkF m 0 #[rv ar, iv 10, iv 0, iv 4] [])) _
  have sg1 : ∀ t, Steps p.tables e below (s₁.setTop (mkF m 1 #[rv ar, iv 10, iv 0, iv 4] [(.int 10)])) t → Steps p.tables e below (s₁.setTop (mkF m 0 #[rv ar, iv 10, iv 0, iv 4] [])) t := by
    intro t k
    refine XS.iloadN X0.here hx rfl (hb hby d8_0) rfl ?_
    show Steps p.tables e below (s₁.setTop (mkF m 1 #[rv ar, iv 10, iv 0, iv 4] [(.int 10)])) _
    exact k
  refine own_lift sg1 ?_
  show own_Go p.tables e below (s₁.setTop (mkF m 1 #[rv ar, iv 10, iv 0, iv 4] [(.int 10)])) _
  obtain ⟨_, _, ⟨T2, Lx2, kx2, nx2⟩, -, X2, ⟨Lc2, hQ2, lx2, yx2, zx2⟩, st2⟩ := Jvm.LawKit.callS X0 hx (y := (⟨L1x, "canEncode", "(I)Z"⟩ : MethodName)) hown (mvT hZ (wd hw 78 rfl)) (mvT hZ (wd hw 79 rfl)) (mvT hZ (wd hw 76 rfl)) (mvT hZ (wd hw 80 rfl)) (by decide) (backOf (W := 0) (rmCan l Z a0 hw [] (10 : Int32) h0 n0 Z0 (by decide : ¬ ((10 : Int32) < (0 : Int32))) (by decide : ¬ ((255 : Int32) < (10 : Int32)))) hZ (wd hw 80 rfl) (wd hw 76 rfl) (by decide) (by decide)) (g := (mkF m 1 #[rv ar, iv 10, iv 0, iv 4] [(.int 10)])) rfl (by rw [hml]; rfl) (argsL := [(.int 10)]) (rest := []) (lenOf pd_1 rfl) rfl (by show 2 * 0 + _ ≤ _; exact Nat.le_of_eq rfl) (hb hby d8_1) (fun _ _ => ⟨rfl, e0, (by decide : 0 + 0 ≤ _), (by decide : 0 + 0 ≤ _)⟩)
  dsimp only [Pt.U, Pt.locs, Pt.cells, Pt.slots] at X2 lx2 yx2 zx2 st2 hQ2
  subst lx2 yx2 zx2
  obtain ⟨rfl, N2q, e2⟩ := hQ2
  have N2 := Fr.app N0 N2q
  refine own_lift st2 ?_
  show own_Go p.tables e below (T2.setTop (mkF m 4 #[rv ar, iv 10, iv 0, iv 4] [(.int 1)])) _
  have sg3 : ∀ t, Steps p.tables e below (T2.setTop (mkF m 11 #[rv ar, iv 10, iv 0, iv 4] [(.int 0), (.int 0)])) t → Steps p.tables e below (T2.setTop (mkF m 4 #[rv ar, iv 10, iv 0, iv 4] [(.int 1)])) t := by
    intro t k
    refine XS.ifYes X2.here hx rfl (pc0 := 4) (pc' := 9) rfl (hb hby d8_4) rfl ((if0 _ _).trans (feq (by decide : ¬ ((1 : Int32) = (0 : Int32)))).2) (by decide) (by decide) ?_
    show Steps p.tables e below (T2.setTop (mkF m 9 #[rv ar, iv 10, iv 0, iv 4] [])) _
    refine XS.iloadN X2.here hx rfl (hb hby d8_9) rfl ?_
    refine XS.iconst X2.here hx rfl (hb hby d8_10) ?_
    show Steps p.tables e below (T2.setTop (mkF m 11 #[rv ar, iv 10, iv 0, iv 4] [(.int 0), (.int 0)])) _
    exact k
  refine own_lift sg3 ?_
  show own_Go p.tables e below (T2.setTop (mkF m 11 #[rv ar, iv 10, iv 0, iv 4] [(.int 0), (.int 0)])) _
  obtain ⟨_, _, ⟨T4, Lx4, kx4, nx4⟩, -, X4, ⟨Lc4, hQ4, lx4, yx4, zx4⟩, st4⟩ := Jvm.LawKit.callS X2 hx (y := (⟨"java/lang/Math", "max", "(II)I"⟩ : MethodName)) hown (mvT hZ (wd hw 81 rfl)) (mvT hZ (wd hw 82 rfl)) (mvT hZ (wd hw 83 rfl)) (mvT hZ (wd hw 84 rfl)) (by decide) (backOf (W := 0) (rmMax l Z a0 hw [] (0 : Int32) (0 : Int32) h0 n0 Z0 (by decide : ¬ ((0 : Int32) < (0 : Int32)))) hZ (wd hw 84 rfl) (wd hw 83 rfl) (by decide) (by decide)) (g := (mkF m 11 #[rv ar, iv 10, iv 0, iv 4] [(.int 0), (.int 0)])) rfl (by rw [hml]; rfl) (argsL := [(.int 0), (.int 0)]) (rest := []) (lenOf pd_2 rfl) rfl (by show 2 * 0 + _ ≤ _; exact Nat.le_of_eq rfl) (hb hby d8_11) (fun _ _ => ⟨rfl, e2, (by decide : 0 + 0 ≤ _), (by decide : 0 + 0 ≤ _)⟩)
  dsimp only [Pt.U, Pt.locs, Pt.cells, Pt.slots] at X4 lx4 yx4 zx4 st4 hQ4
  subst lx4 yx4 zx4
  obtain ⟨rfl, N4q, e4⟩ := hQ4
  have N4 := Fr.app N2 N4q
  refine own_lift st4 ?_
  show own_Go p.tables e below (T4.setTop (mkF m 14 #[rv ar, iv 10, iv 0, iv 4] [(.int 0)])) _
  have sg5 : ∀ t, Steps p.tables e below (T4.setTop (mkF m 17 #[rv ar, iv 10, iv 0, iv 4] [(.ref ar), (.int 4)])) t → Steps p.tables e below (T4.setTop (mkF m 14 #[rv ar, iv 10, iv 0, iv 4] [(.int 0)])) t := by
    intro t k
    refine XS.istoreN X4.here hx rfl (hb hby d8_14) rfl (l' := #[rv ar, iv 10, iv 0, iv 4]) rfl ?_
    show Steps p.tables e below (T4.setTop (mkF m 15 #[rv ar, iv 10, iv 0, iv 4] [])) _
    refine XS.iloadN X4.here hx rfl (hb hby d8_15) rfl ?_
    refine XS.aloadN X4.here hx rfl (hb hby d8_16) rfl rfl ?_
    show Steps p.tables e below (T4.setTop (mkF m 17 #[rv ar, iv 10, iv 0, iv 4] [(.ref ar), (.int 4)])) _
    exact k
  refine own_lift sg5 ?_
  show own_Go p.tables e below (T4.setTop (mkF m 17 #[rv ar, iv 10, iv 0, iv 4] [(.ref ar), (.int 4)])) _
  obtain ⟨cl6, Ar6, -, Sx6, N6', -, -⟩ := id (Ars)
  have st6 : ∀ t, Steps p.tables e below (T4.setTop (mkF m 18 #[rv ar, iv 10, iv 0, iv 4] [(.int 4), (.int 4)])) t → Steps p.tables e below (T4.setTop (mkF m 17 #[rv ar, iv 10, iv 0, iv 4] [(.ref ar), (.int 4)])) t := by
    intro t k
    refine X4.arraylength hx (by rw [e4]; exact Ar6.1) (State.isArrayOf_alike hZ.alike Ar6.2.1) (g := (mkF m 17 #[rv ar, iv 10, iv 0, iv 4] [(.ref ar), (.int 4)])) rfl rfl (hb hby d8_17) _ ?_
    rw [len_of Sx6 N6']
    exact k
  refine own_lift st6 ?_
  show own_Go p.tables e below (T4.setTop (mkF m 18 #[rv ar, iv 10, iv 0, iv 4] [(.int 4), (.int 4)])) _
  obtain ⟨_, _, ⟨T7, Lx7, kx7, nx7⟩, -, X7, ⟨Lc7, hQ7, lx7, yx7, zx7⟩, st7⟩ := Jvm.LawKit.callS X4 hx (y := (⟨"java/lang/Math", "min", "(II)I"⟩ : MethodName)) hown (mvT hZ (wd hw 85 rfl)) (mvT hZ (wd hw 86 rfl)) (mvT hZ (wd hw 83 rfl)) (mvT hZ (wd hw 87 rfl)) (by decide) (backOf (W := 0) (rmMin l Z a0 hw [] (4 : Int32) (4 : Int32) h0 n0 Z0 (by decide : ¬ ((4 : Int32) < (4 : Int32)))) hZ (wd hw 87 rfl) (wd hw 83 rfl) (by decide) (by decide)) (g := (mkF m 18 #[rv ar, iv 10, iv 0, iv 4] [(.int 4), (.int 4)])) rfl (by rw [hml]; rfl) (argsL := [(.int 4), (.int 4)]) (rest := []) (lenOf pd_2 rfl) rfl (by show 2 * 0 + _ ≤ _; exact Nat.le_of_eq rfl) (hb hby d8_18) (fun _ _ => ⟨rfl, e4, (by decide : 0 + 0 ≤ _), (by decide : 0 + 0 ≤ _)⟩)
  dsimp only [Pt.U, Pt.locs, Pt.cells, Pt.slots] at X7 lx7 yx7 zx7 st7 hQ7
  subst lx7 yx7 zx7
  obtain ⟨rfl, N7q, e7⟩ := hQ7
  have N7 := Fr.app N4 N7q
  refine own_lift st7 ?_
  show own_Go p.tables e below (T7.setTop (mkF m 21 #[rv ar, iv 10, iv 0, iv 4] [(.int 4)])) _
  have sg8 : ∀ t, Steps p.tables e below (T7.setTop (mkF m 33 #[rv ar, iv 10, iv 0, iv 4] [(.int 4), (.int 0), (.int 10), (.ref ar)])) t → Steps p.tables e below (T7.setTop (mkF m 21 #[rv ar, iv 10, iv 0, iv 4] [(.int 4)])) t := by
    intro t k
    refine XS.istoreN X7.here hx rfl (hb hby d8_21) rfl (l' := #[rv ar, iv 10, iv 0, iv 4]) rfl ?_
    show Steps p.tables e below (T7.setTop (mkF m 22 #[rv ar, iv 10, iv 0, iv 4] [])) _
    refine XS.iloadN X7.here hx rfl (hb hby d8_22) rfl ?_
    refine XS.iloadN X7.here hx rfl (hb hby d8_23) rfl ?_
    refine XS.icmpYes X7.here hx rfl (pc0 := 24) (pc' := 29) rfl (hb hby d8_24) rfl (tlt (by decide : (0 : Int32) < (4 : Int32))).1 (by decide) (by decide) ?_
    show Steps p.tables e below (T7.setTop (mkF m 29 #[rv ar, iv 10, iv 0, iv 4] [])) _
    refine XS.aloadN X7.here hx rfl (hb hby d8_29) rfl rfl ?_
    refine XS.iloadN X7.here hx rfl (hb hby d8_30) rfl ?_
    refine XS.iloadN X7.here hx rfl (hb hby d8_31) rfl ?_
    show Steps p.tables e below (T7.setTop (mkF m 32 #[rv ar, iv 10, iv 0, iv 4] [(.int 0), (.int 10), (.ref ar)])) _
    refine XS.iloadN X7.here hx rfl (hb hby d8_32) rfl ?_
    show Steps p.tables e below (T7.setTop (mkF m 33 #[rv ar, iv 10, iv 0, iv 4] [(.int 4), (.int 0), (.int 10), (.ref ar)])) _
    exact k
  refine own_lift sg8 ?_
  show own_Go p.tables e below (T7.setTop (mkF m 33 #[rv ar, iv 10, iv 0, iv 4] [(.int 4), (.int 0), (.int 10), (.ref ar)])) _
  obtain ⟨_, _, ⟨T9, Lx9, kx9, nx9⟩, -, X9, ⟨Lc9, hQ9, lx9, yx9, zx9⟩, st9⟩ := Jvm.LawKit.callS X7 hx (y := (⟨L1x, "indexOfChar", "([BIII)I"⟩ : MethodName)) hown (mvT hZ (wd hw 88 rfl)) (mvT hZ (wd hw 89 rfl)) (mvT hZ (wd hw 76 rfl)) (mvT hZ (wd hw 90 rfl)) (by decide) (backOf (W := 0) (rmIdc2 l Z a0 hw [] ar kb b0 b1 b2 b3 h0 n0 Z0 Ars d0 d1 d2) hZ (wd hw 90 rfl) (wd hw 76 rfl) (by decide) (by decide)) (g := (mkF m 33 #[rv ar, iv 10, iv 0, iv 4] [(.int 4), (.int 0), (.int 10), (.ref ar)])) rfl (by rw [hml]; rfl) (argsL := [(.ref ar), (.int 10), (.int 0), (.int 4)]) (rest := []) (lenOf pd_3 rfl) rfl (by show 2 * 0 + _ ≤ _; exact Nat.le_of_eq rfl) (hb hby d8_33) (fun _ _ => ⟨rfl, e7, (by decide : 0 + 0 ≤ _), (by decide : 0 + 0 ≤ _)⟩)
  dsimp only [Pt.U, Pt.locs, Pt.cells, Pt.slots] at X9 lx9 yx9 zx9 st9 hQ9
  subst lx9 yx9 zx9
  obtain ⟨rfl, N9q, e9⟩ := hQ9
  have N9 := Fr.app N7 N9q
  refine own_lift st9 ?_
  show own_Go p.tables e below (T9.setTop (mkF m 36 #[rv ar, iv 10, iv 0, iv 4] [(.int 2)])) _
  obtain ⟨fs, hr, hrun, hended, hW, hsame⟩ := X9.leave (v := some (.int 2)) (fun h => by rw [Bd.returns] at h; cases h)
  refine ⟨_, _, ?_, hrun, hended, _, _, rfl, ?_, ⟨_, rfl⟩, hW, hsame.mono (by decide) (by decide)⟩
  · exact retI X9 hx Bd.returns (hb hby d8_36) hr
  · show Q_rmIdl2 Z ar kb b0 b1 b2 b3 h0 n0 _ T9.heap _
    rw [e9]
    exact ⟨rfl, N9, rfl⟩
def Q_rmIdl3 (Z : State) (ar : Addr) (kb : ClassId) (b0 : Int32) (b1 : Int32) (b2 : Int32) (b3 : Int32) (h0 : Heap) (n0 : Nat) (v : Option Value) (h : Heap) (L : List Loc) : Prop := v = some (.int 3) ∧ Fr n0 L ∧ h = h0
theorem ef_rmIdl3 (m : MethodId) (x0 : Addr) (x1 : Int32) (x2 : Int32) (x3 : Int32) : entryFrame m #[(.ref x0), (.int 10), (.int 0), (.int 4)] 4 = mkF m 0 #[.val (.ref x0), .val (.int 10), .val (.int 0), .val (.int 4)] [] := by first | (simp [entryFrame, mkF, argsToLocals, Value.category]; done) | rfl
set_option maxRecDepth 65536 in
set_option maxHeartbeats 40000000 in
theorem rmIdl3 (l : Launch) (Z : State) (a0 : Array Value) (hw : ∀ d ∈ tables_1, d.before a0 Z = true) (ws : List Jvm.Cond) (ar : Addr) (kb : ClassId) (b0 : Int32) (b1 : Int32) (b2 : Int32) (b3 : Int32) (h0 : Heap) (n0 : Nat) (Z0 : n0 ≤ h0.size) (Ars : Arv Z h0 ar kb .byte (4 : Int32) [(.int b0), (.int b1), (.int b2), (.int b3)] (.int 0)) (d0 : ¬ (b0 = (10 : Int32))) (d1 : ¬ (b1 = (10 : Int32))) (d2 : ¬ (b2 = (10 : Int32))) (d3 : b3 = (10 : Int32)) :
    MetFree l (⟨L1x, "indexOf", "([BIII)I"⟩ : MethodName) (head1 (Jvm.Cond.code (⟨L1x, "indexOf", "([BIII)I"⟩ : MethodName) jdk_43_method_22_code 4 (some .int) :: ws) ({ frames := 1, cells := 0, slots := 0, locals := 17 } : Room)) (fun a U => a = #[(.ref ar), (.int 10), (.int 0), (.int 4)] ∧ Z.Warmed39 U.vm ∧ U.heap = h0) (fun _ _ _ _ _ => True) (fun _ U o U' => ∃ v L, o = .returned v ∧ Q_rmIdl3 Z ar kb b0 b1 b2 b3 h0 n0 v U'.heap L ∧ FrameEnd U o U' L ({ frames := 1, cells := 0, slots := 0, locals := 17 } : Room).cells ({ frames := 1, cells := 0, slots := 0, locals := 17 } : Room).slots) := by
  refine MetFree.of_bodySF (plainFor_of_name pn_1) hisR ?_
  intro p e s m args below meth c s₁ Bd hml0 hP hK
  obtain ⟨rfl, hZ, hh⟩ := hP
  have hx := Bd.exec
  have hby := Bd.bytes
  have hml : c.maxLocals = 4 := hml0
  have hown : s.vm.findClass L1x = some m.cls := findClass_of_methodNamed Bd.named
  have hnm := (name_of_methodNamed Bd.named Bd.method).1
  have X0 : Stand p l e ({ frames := 1, cells := 0, slots := 0, locals := 17 } : Room) s m #[(.ref ar), (.int 10), (.int 0), (.int 4)] below meth c s₁ [] 0 0 := Stand.of_body Bd
  have e0 : s₁.heap = h0 := by rw [← hh, Bd.state]; rfl
  have N0 := Fr.nil n0
  refine own_go (own_lift (fun t k => castTop (ef_rmIdl3 m ar (10 : Int32) (0 : Int32) (4 : Int32)) k) ?_)
  show own_Go p.tables e below (s₁.setTop (mkF m 0 #[rv ar, iv 10, iv 0, iv 4] [])) _
  have sg1 : ∀ t, Steps p.tables e below (s₁.setTop (mkF m 1 #[rv ar, iv 10, iv 0, iv 4] [(.int 10)])) t → Steps p.tables e below (s₁.setTop (mkF m 0 #[rv ar, iv 10, iv 0, iv 4] [])) t := by
    intro t k
    refine XS.iloadN X0.here hx rfl (hb hby d8_0) rfl ?_
    show Steps p.tables e below (s₁.setTop (mkF m 1 #[rv ar, iv 10, iv 0, iv 4] [(.int 10)])) _
    exact k
  refine own_lift sg1 ?_
  show own_Go p.tables e below (s₁.setTop (mkF m 1 #[rv ar, iv 10, iv 0, iv 4] [(.int 10)])) _
  obtain ⟨_, _, ⟨T2, Lx2, kx2, nx2⟩, -, X2, ⟨Lc2, hQ2, lx2, yx2, zx2⟩, st2⟩ := Jvm.LawKit.callS X0 hx (y := (⟨L1x, "canEncode", "(I)Z"⟩ : MethodName)) hown (mvT hZ (wd hw 78 rfl)) (mvT hZ (wd hw 79 rfl)) (mvT hZ (wd hw 76 rfl)) (mvT hZ (wd hw 80 rfl)) (by decide) (backOf (W := 0) (rmCan l Z a0 hw [] (10 : Int32) h0 n0 Z0 (by decide : ¬ ((10 : Int32) < (0 : Int32))) (by decide : ¬ ((255 : Int32) < (10 : Int32)))) hZ (wd hw 80 rfl) (wd hw 76 rfl) (by decide) (by decide)) (g := (mkF m 1 #[rv ar, iv 10, iv 0, iv 4] [(.int 10)])) rfl (by rw [hml]; rfl) (argsL := [(.int 10)]) (rest := []) (lenOf pd_1 rfl) rfl (by show 2 * 0 + _ ≤ _; exact Nat.le_of_eq rfl) (hb hby d8_1) (fun _ _ => ⟨rfl, e0, (by decide : 0 + 0 ≤ _), (by decide : 0 + 0 ≤ _)⟩)
  dsimp only [Pt.U, Pt.locs, Pt.cells, Pt.slots] at X2 lx2 yx2 zx2 st2 hQ2
  subst lx2 yx2 zx2
  obtain ⟨rfl, N2q, e2⟩ := hQ2
  have N2 := Fr.app N0 N2q
  refine own_lift st2 ?_
  show own_Go p.tables e below (T2.setTop (mkF m 4 #[rv ar, iv 10, iv 0, iv 4] [(.int 1)])) _
  have sg3 : ∀ t, Steps p.tables e below (T2.setTop (mkF m 11 #[rv ar, iv 10, iv 0, iv 4] [(.int 0), (.int 0)])) t → Steps p.tables e below (T2.setTop (mkF m 4 #[rv ar, iv 10, iv 0, iv 4] [(.int 1)])) t := by
    intro t k
    refine XS.ifYes X2.here hx rfl (pc0 := 4) (pc' := 9) rfl (hb hby d8_4) rfl ((if0 _ _).trans (feq (by decide : ¬ ((1 : Int32) = (0 : Int32)))).2) (by decide) (by decide) ?_
    show Steps p.tables e below (T2.setTop (mkF m 9 #[rv ar, iv 10, iv 0, iv 4] [])) _
    refine XS.iloadN X2.here hx rfl (hb hby d8_9) rfl ?_
    refine XS.iconst X2.here hx rfl (hb hby d8_10) ?_
    show Steps p.tables e below (T2.setTop (mkF m 11 #[rv ar, iv 10, iv 0, iv 4] [(.int 0), (.int 0)])) _
    exact k
  refine own_lift sg3 ?_
  show own_Go p.tables e below (T2.setTop (mkF m 11 #[rv ar, iv 10, iv 0, iv 4] [(.int 0), (.int 0)])) _
  obtain ⟨_, _, ⟨T4, Lx4, kx4, nx4⟩, -, X4, ⟨Lc4, hQ4, lx4, yx4, zx4⟩, st4⟩ := Jvm.LawKit.callS X2 hx (y := (⟨"java/lang/Math", "max", "(II)I"⟩ : MethodName)) hown (mvT hZ (wd hw 81 rfl)) (mvT hZ (wd hw 82 rfl)) (mvT hZ (wd hw 83 rfl)) (mvT hZ (wd hw 84 rfl)) (by decide) (backOf (W := 0) (rmMax l Z a0 hw [] (0 : Int32) (0 : Int32) h0 n0 Z0 (by decide : ¬ ((0 : Int32) < (0 : Int32)))) hZ (wd hw 84 rfl) (wd hw 83 rfl) (by decide) (by decide)) (g := (mkF m 11 #[rv ar, iv 10, iv 0, iv 4] [(.int 0), (.int 0)])) rfl (by rw [hml]; rfl) (argsL := [(.int 0), (.int 0)]) (rest := []) (lenOf pd_2 rfl) rfl (by show 2 * 0 + _ ≤ _; exact Nat.le_of_eq rfl) (hb hby d8_11) (fun _ _ => ⟨rfl, e2, (by decide : 0 + 0 ≤ _), (by decide : 0 + 0 ≤ _)⟩)
  dsimp only [Pt.U, Pt.locs, Pt.cells, Pt.slots] at X4 lx4 yx4 zx4 st4 hQ4
  subst lx4 yx4 zx4
  obtain ⟨rfl, N4q, e4⟩ := hQ4
  have N4 := Fr.app N2 N4q
  refine own_lift st4 ?_
  show own_Go p.tables e below (T4.setTop (mkF m 14 #[rv ar, iv 10, iv 0, iv 4] [(.int 0)])) _
  have sg5 : ∀ t, Steps p.tables e below (T4.setTop (mkF m 17 #[rv ar, iv 10, iv 0, iv 4] [(.ref ar), (.int 4)])) t → Steps p.tables e below (T4.setTop (mkF m 14 #[rv ar, iv 10, iv 0, iv 4] [(.int 0)])) t := by
    intro t k
    refine XS.istoreN X4.here hx rfl (hb hby d8_14) rfl (l' := #[rv ar, iv 10, iv 0, iv 4]) rfl ?_
    show Steps p.tables e below (T4.setTop (mkF m 15 #[rv ar, iv 10, iv 0, iv 4] [])) _
    refine XS.iloadN X4.here hx rfl (hb hby d8_15) rfl ?_
    refine XS.aloadN X4.here hx rfl (hb hby d8_16) rfl rfl ?_
    show Steps p.tables e below (T4.setTop (mkF m 17 #[rv ar, iv 10, iv 0, iv 4] [(.ref ar), (.int 4)])) _
    exact k
  refine own_lift sg5 ?_
  show own_Go p.tables e below (T4.setTop (mkF m 17 #[rv ar, iv 10, iv 0, iv 4] [(.ref ar), (.int 4)])) _
  obtain ⟨cl6, Ar6, -, Sx6, N6', -, -⟩ := id (Ars)
  have st6 : ∀ t, Steps p.tables e below (T4.setTop (mkF m 18 #[rv ar, iv 10, iv 0, iv 4] [(.int 4), (.int 4)])) t → Steps p.tables e below (T4.setTop (mkF m 17 #[rv ar, iv 10, iv 0, iv 4] [(.ref ar), (.int 4)])) t := by
    intro t k
    refine X4.arraylength hx (by rw [e4]; exact Ar6.1) (State.isArrayOf_alike hZ.alike Ar6.2.1) (g := (mkF m 17 #[rv ar, iv 10, iv 0, iv 4] [(.ref ar), (.int 4)])) rfl rfl (hb hby d8_17) _ ?_
    rw [len_of Sx6 N6']
    exact k
  refine own_lift st6 ?_
  show own_Go p.tables e below (T4.setTop (mkF m 18 #[rv ar, iv 10, iv 0, iv 4] [(.int 4), (.int 4)])) _
  obtain ⟨_, _, ⟨T7, Lx7, kx7, nx7⟩, -, X7, ⟨Lc7, hQ7, lx7, yx7, zx7⟩, st7⟩ := Jvm.LawKit.callS X4 hx (y := (⟨"java/lang/Math", "min", "(II)I"⟩ : MethodName)) hown (mvT hZ (wd hw 85 rfl)) (mvT hZ (wd hw 86 rfl)) (mvT hZ (wd hw 83 rfl)) (mvT hZ (wd hw 87 rfl)) (by decide) (backOf (W := 0) (rmMin l Z a0 hw [] (4 : Int32) (4 : Int32) h0 n0 Z0 (by decide : ¬ ((4 : Int32) < (4 : Int32)))) hZ (wd hw 87 rfl) (wd hw 83 rfl) (by decide) (by decide)) (g := (mkF m 18 #[rv ar, iv 10, iv 0, iv 4] [(.int 4), (.int 4)])) rfl (by rw [hml]; rfl) (argsL := [(.int 4), (.int 4)]) (rest := []) (lenOf pd_2 rfl) rfl (by show 2 * 0 + _ ≤ _; exact Nat.le_of_eq rfl) (hb hby d8_18) (fun _ _ => ⟨rfl, e4, (by decide : 0 + 0 ≤ _), (by decide : 0 + 0 ≤ _)⟩)
  dsimp only [Pt.U, Pt.locs, Pt.cells, Pt.slots] at X7 lx7 yx7 zx7 st7 hQ7
  subst lx7 yx7 zx7
  obtain ⟨rfl, N7q, e7⟩ := hQ7
  have N7 := Fr.app N4 N7q
  refine own_lift st7 ?_
  show own_Go p.tables e below (T7.setTop (mkF m 21 #[rv ar, iv 10, iv 0, iv 4] [(.int 4)])) _
  have sg8 : ∀ t, Steps p.tables e below (T7.setTop (mkF m 33 #[rv ar, iv 10, iv 0, iv 4] [(.int 4), (.int 0), (.int 10), (.ref ar)])) t → Steps p.tables e below (T7.setTop (mkF m 21 #[rv ar, iv 10, iv 0, iv 4] [(.int 4)])) t := by
    intro t k
    refine XS.istoreN X7.here hx rfl (hb hby d8_21) rfl (l' := #[rv ar, iv 10, iv 0, iv 4]) rfl ?_
    show Steps p.tables e below (T7.setTop (mkF m 22 #[rv ar, iv 10, iv 0, iv 4] [])) _
    refine XS.iloadN X7.here hx rfl (hb hby d8_22) rfl ?_
    refine XS.iloadN X7.here hx rfl (hb hby d8_23) rfl ?_
    refine XS.icmpYes X7.here hx rfl (pc0 := 24) (pc' := 29) rfl (hb hby d8_24) rfl (tlt (by decide : (0 : Int32) < (4 : Int32))).1 (by decide) (by decide) ?_
    show Steps p.tables e below (T7.setTop (mkF m 29 #[rv ar, iv 10, iv 0, iv 4] [])) _
    refine XS.aloadN X7.here hx rfl (hb hby d8_29) rfl rfl ?_
    refine XS.iloadN X7.here hx rfl (hb hby d8_30) rfl ?_
    refine XS.iloadN X7.here hx rfl (hb hby d8_31) rfl ?_
    show Steps p.tables e below (T7.setTop (mkF m 32 #[rv ar, iv 10, iv 0, iv 4] [(.int 0), (.int 10), (.ref ar)])) _
    refine XS.iloadN X7.here hx rfl (hb hby d8_32) rfl ?_
    show Steps p.tables e below (T7.setTop (mkF m 33 #[rv ar, iv 10, iv 0, iv 4] [(.int 4), (.int 0), (.int 10), (.ref ar)])) _
    exact k
  refine own_lift sg8 ?_
  show own_Go p.tables e below (T7.setTop (mkF m 33 #[rv ar, iv 10, iv 0, iv 4] [(.int 4), (.int 0), (.int 10), (.ref ar)])) _
  obtain ⟨_, _, ⟨T9, Lx9, kx9, nx9⟩, -, X9, ⟨Lc9, hQ9, lx9, yx9, zx9⟩, st9⟩ := Jvm.LawKit.callS X7 hx (y := (⟨L1x, "indexOfChar", "([BIII)I"⟩ : MethodName)) hown (mvT hZ (wd hw 88 rfl)) (mvT hZ (wd hw 89 rfl)) (mvT hZ (wd hw 76 rfl)) (mvT hZ (wd hw 90 rfl)) (by decide) (backOf (W := 0) (rmIdc3 l Z a0 hw [] ar kb b0 b1 b2 b3 h0 n0 Z0 Ars d0 d1 d2 d3) hZ (wd hw 90 rfl) (wd hw 76 rfl) (by decide) (by decide)) (g := (mkF m 33 #[rv ar, iv 10, iv 0, iv 4] [(.int 4), (.int 0), (.int 10), (.ref ar)])) rfl (by rw [hml]; rfl) (argsL := [(.ref ar), (.int 10), (.int 0), (.int 4)]) (rest := []) (lenOf pd_3 rfl) rfl (by show 2 * 0 + _ ≤ _; exact Nat.le_of_eq rfl) (hb hby d8_33) (fun _ _ => ⟨rfl, e7, (by decide : 0 + 0 ≤ _), (by decide : 0 + 0 ≤ _)⟩)
  dsimp only [Pt.U, Pt.locs, Pt.cells, Pt.slots] at X9 lx9 yx9 zx9 st9 hQ9
  subst lx9 yx9 zx9
  obtain ⟨rfl, N9q, e9⟩ := hQ9
  have N9 := Fr.app N7 N9q
  refine own_lift st9 ?_
  show own_Go p.tables e below (T9.setTop (mkF m 36 #[rv ar, iv 10, iv 0, iv 4] [(.int 3)])) _
  obtain ⟨fs, hr, hrun, hended, hW, hsame⟩ := X9.leave (v := some (.int 3)) (fun h => by rw [Bd.returns] at h; cases h)
  refine ⟨_, _, ?_, hrun, hended, _, _, rfl, ?_, ⟨_, rfl⟩, hW, hsame.mono (by decide) (by decide)⟩
  · exact retI X9 hx Bd.returns (hb hby d8_36) hr
  · show Q_rmIdl3 Z ar kb b0 b1 b2 b3 h0 n0 _ T9.heap _
    rw [e9]
    exact ⟨rfl, N9, rfl⟩
def Q_rmIdln (Z : State) (ar : Addr) (kb : ClassId) (b0 : Int32) (b1 : Int32) (b2 : Int32) (b3 : Int32) (h0 : Heap) (n0 : Nat) (v : Option Value) (h : Heap) (L : List Loc) : Prop := v = some (.int (-1)) ∧ Fr n0 L ∧ h = h0
theorem ef_rmIdln (m : MethodId) (x0 : Addr) (x1 : Int32) (x2 : Int32) (x3 : Int32) : entryFrame m #[(.ref x0), (.int 10), (.int 0), (.int 4)] 4 = mkF m 0 #[.val (.ref x0), .val (.int 10), .val (.int 0), .val (.int 4)] [] := by first | (simp [entryFrame, mkF, argsToLocals, Value.category]; done) | rfl
set_option maxRecDepth 65536 in
set_option maxHeartbeats 40000000 in
theorem rmIdln (l : Launch) (Z : State) (a0 : Array Value) (hw : ∀ d ∈ tables_1, d.before a0 Z = true) (ws : List Jvm.Cond) (ar : Addr) (kb : ClassId) (b0 : Int32) (b1 : Int32) (b2 : Int32) (b3 : Int32) (h0 : Heap) (n0 : Nat) (Z0 : n0 ≤ h0.size) (Ars : Arv Z h0 ar kb .byte (4 : Int32) [(.int b0), (.int b1), (.int b2), (.int b3)] (.int 0)) (d0 : ¬ (b0 = (10 : Int32))) (d1 : ¬ (b1 = (10 : Int32))) (d2 : ¬ (b2 = (10 : Int32))) (d3 : ¬ (b3 = (10 : Int32))) :
    MetFree l (⟨L1x, "indexOf", "([BIII)I"⟩ : MethodName) (head1 (Jvm.Cond.code (⟨L1x, "indexOf", "([BIII)I"⟩ : MethodName) jdk_43_method_22_code 4 (some .int) :: ws) ({ frames := 1, cells := 0, slots := 0, locals := 17 } : Room)) (fun a U => a = #[(.ref ar), (.int 10), (.int 0), (.int 4)] ∧ Z.Warmed39 U.vm ∧ U.heap = h0) (fun _ _ _ _ _ => True) (fun _ U o U' => ∃ v L, o = .returned v ∧ Q_rmIdln Z ar kb b0 b1 b2 b3 h0 n0 v U'.heap L ∧ FrameEnd U o U' L ({ frames := 1, cells := 0, slots := 0, locals := 17 } : Room).cells ({ frames := 1, cells := 0, slots := 0, locals := 17 } : Room).slots) := by
  refine MetFree.of_bodySF (plainFor_of_name pn_1) hisR ?_
  intro p e s m args below meth c s₁ Bd hml0 hP hK
  obtain ⟨rfl, hZ, hh⟩ := hP
  have hx := Bd.exec
  have hby := Bd.bytes
  have hml : c.maxLocals = 4 := hml0
  have hown : s.vm.findClass L1x = some m.cls := findClass_of_methodNamed Bd.named
  have hnm := (name_of_methodNamed Bd.named Bd.method).1
  have X0 : Stand p l e ({ frames := 1, cells := 0, slots := 0, locals := 17 } : Room) s m #[(.ref ar), (.int 10), (.int 0), (.int 4)] below meth c s₁ [] 0 0 := Stand.of_body Bd
  have e0 : s₁.heap = h0 := by rw [← hh, Bd.state]; rfl
  have N0 := Fr.nil n0
  refine own_go (own_lift (fun t k => castTop (ef_rmIdln m ar (10 : Int32) (0 : Int32) (4 : Int32)) k) ?_)
  show own_Go p.tables e below (s₁.setTop (mkF m 0 #[rv ar, iv 10, iv 0, iv 4] [])) _
  have sg1 : ∀ t, Steps p.tables e below (s₁.setTop (mkF m 1 #[rv ar, iv 10, iv 0, iv 4] [(.int 10)])) t → Steps p.tables e below (s₁.setTop (mkF m 0 #[rv ar, iv 10, iv 0, iv 4] [])) t := by
    intro t k
    refine XS.iloadN X0.here hx rfl (hb hby d8_0) rfl ?_
    show Steps p.tables e below (s₁.setTop (mkF m 1 #[rv ar, iv 10, iv 0, iv 4] [(.int 10)])) _
    exact k
  refine own_lift sg1 ?_
  show own_Go p.tables e below (s₁.setTop (mkF m 1 #[rv ar, iv 10, iv 0, iv 4] [(.int 10)])) _
  obtain ⟨_, _, ⟨T2, Lx2, kx2, nx2⟩, -, X2, ⟨Lc2, hQ2, lx2, yx2, zx2⟩, st2⟩ := Jvm.LawKit.callS X0 hx (y := (⟨L1x, "canEncode", "(I)Z"⟩ : MethodName)) hown (mvT hZ (wd hw 78 rfl)) (mvT hZ (wd hw 79 rfl)) (mvT hZ (wd hw 76 rfl)) (mvT hZ (wd hw 80 rfl)) (by decide) (backOf (W := 0) (rmCan l Z a0 hw [] (10 : Int32) h0 n0 Z0 (by decide : ¬ ((10 : Int32) < (0 : Int32))) (by decide : ¬ ((255 : Int32) < (10 : Int32)))) hZ (wd hw 80 rfl) (wd hw 76 rfl) (by decide) (by decide)) (g := (mkF m 1 #[rv ar, iv 10, iv 0, iv 4] [(.int 10)])) rfl (by rw [hml]; rfl) (argsL := [(.int 10)]) (rest := []) (lenOf pd_1 rfl) rfl (by show 2 * 0 + _ ≤ _; exact Nat.le_of_eq rfl) (hb hby d8_1) (fun _ _ => ⟨rfl, e0, (by decide : 0 + 0 ≤ _), (by decide : 0 + 0 ≤ _)⟩)
  dsimp only [Pt.U, Pt.locs, Pt.cells, Pt.slots] at X2 lx2 yx2 zx2 st2 hQ2
  subst lx2 yx2 zx2
  obtain ⟨rfl, N2q, e2⟩ := hQ2
  have N2 := Fr.app N0 N2q
  refine own_lift st2 ?_
  show own_Go p.tables e below (T2.setTop (mkF m 4 #[rv ar, iv 10, iv 0, iv 4] [(.int 1)])) _
  have sg3 : ∀ t, Steps p.tables e below (T2.setTop (mkF m 11 #[rv ar, iv 10, iv 0, iv 4] [(.int 0), (.int 0)])) t → Steps p.tables e below (T2.setTop (mkF m 4 #[rv ar, iv 10, iv 0, iv 4] [(.int 1)])) t := by
    intro t k
    refine XS.ifYes X2.here hx rfl (pc0 := 4) (pc' := 9) rfl (hb hby d8_4) rfl ((if0 _ _).trans (feq (by decide : ¬ ((1 : Int32) = (0 : Int32)))).2) (by decide) (by decide) ?_
    show Steps p.tables e below (T2.setTop (mkF m 9 #[rv ar, iv 10, iv 0, iv 4] [])) _
    refine XS.iloadN X2.here hx rfl (hb hby d8_9) rfl ?_
    refine XS.iconst X2.here hx rfl (hb hby d8_10) ?_
    show Steps p.tables e below (T2.setTop (mkF m 11 #[rv ar, iv 10, iv 0, iv 4] [(.int 0), (.int 0)])) _
    exact k
  refine own_lift sg3 ?_
  show own_Go p.tables e below (T2.setTop (mkF m 11 #[rv ar, iv 10, iv 0, iv 4] [(.int 0), (.int 0)])) _
  obtain ⟨_, _, ⟨T4, Lx4, kx4, nx4⟩, -, X4, ⟨Lc4, hQ4, lx4, yx4, zx4⟩, st4⟩ := Jvm.LawKit.callS X2 hx (y := (⟨"java/lang/Math", "max", "(II)I"⟩ : MethodName)) hown (mvT hZ (wd hw 81 rfl)) (mvT hZ (wd hw 82 rfl)) (mvT hZ (wd hw 83 rfl)) (mvT hZ (wd hw 84 rfl)) (by decide) (backOf (W := 0) (rmMax l Z a0 hw [] (0 : Int32) (0 : Int32) h0 n0 Z0 (by decide : ¬ ((0 : Int32) < (0 : Int32)))) hZ (wd hw 84 rfl) (wd hw 83 rfl) (by decide) (by decide)) (g := (mkF m 11 #[rv ar, iv 10, iv 0, iv 4] [(.int 0), (.int 0)])) rfl (by rw [hml]; rfl) (argsL := [(.int 0), (.int 0)]) (rest := []) (lenOf pd_2 rfl) rfl (by show 2 * 0 + _ ≤ _; exact Nat.le_of_eq rfl) (hb hby d8_11) (fun _ _ => ⟨rfl, e2, (by decide : 0 + 0 ≤ _), (by decide : 0 + 0 ≤ _)⟩)
  dsimp only [Pt.U, Pt.locs, Pt.cells, Pt.slots] at X4 lx4 yx4 zx4 st4 hQ4
  subst lx4 yx4 zx4
  obtain ⟨rfl, N4q, e4⟩ := hQ4
  have N4 := Fr.app N2 N4q
  refine own_lift st4 ?_
  show own_Go p.tables e below (T4.setTop (mkF m 14 #[rv ar, iv 10, iv 0, iv 4] [(.int 0)])) _
  have sg5 : ∀ t, Steps p.tables e below (T4.setTop (mkF m 17 #[rv ar, iv 10, iv 0, iv 4] [(.ref ar), (.int 4)])) t → Steps p.tables e below (T4.setTop (mkF m 14 #[rv ar, iv 10, iv 0, iv 4] [(.int 0)])) t := by
    intro t k
    refine XS.istoreN X4.here hx rfl (hb hby d8_14) rfl (l' := #[rv ar, iv 10, iv 0, iv 4]) rfl ?_
    show Steps p.tables e below (T4.setTop (mkF m 15 #[rv ar, iv 10, iv 0, iv 4] [])) _
    refine XS.iloadN X4.here hx rfl (hb hby d8_15) rfl ?_
    refine XS.aloadN X4.here hx rfl (hb hby d8_16) rfl rfl ?_
    show Steps p.tables e below (T4.setTop (mkF m 17 #[rv ar, iv 10, iv 0, iv 4] [(.ref ar), (.int 4)])) _
    exact k
  refine own_lift sg5 ?_
  show own_Go p.tables e below (T4.setTop (mkF m 17 #[rv ar, iv 10, iv 0, iv 4] [(.ref ar), (.int 4)])) _
  obtain ⟨cl6, Ar6, -, Sx6, N6', -, -⟩ := id (Ars)
  have st6 : ∀ t, Steps p.tables e below (T4.setTop (mkF m 18 #[rv ar, iv 10, iv 0, iv 4] [(.int 4), (.int 4)])) t → Steps p.tables e below (T4.setTop (mkF m 17 #[rv ar, iv 10, iv 0, iv 4] [(.ref ar), (.int 4)])) t := by
    intro t k
    refine X4.arraylength hx (by rw [e4]; exact Ar6.1) (State.isArrayOf_alike hZ.alike Ar6.2.1) (g := (mkF m 17 #[rv ar, iv 10, iv 0, iv 4] [(.ref ar), (.int 4)])) rfl rfl (hb hby d8_17) _ ?_
    rw [len_of Sx6 N6']
    exact k
  refine own_lift st6 ?_
  show own_Go p.tables e below (T4.setTop (mkF m 18 #[rv ar, iv 10, iv 0, iv 4] [(.int 4), (.int 4)])) _
  obtain ⟨_, _, ⟨T7, Lx7, kx7, nx7⟩, -, X7, ⟨Lc7, hQ7, lx7, yx7, zx7⟩, st7⟩ := Jvm.LawKit.callS X4 hx (y := (⟨"java/lang/Math", "min", "(II)I"⟩ : MethodName)) hown (mvT hZ (wd hw 85 rfl)) (mvT hZ (wd hw 86 rfl)) (mvT hZ (wd hw 83 rfl)) (mvT hZ (wd hw 87 rfl)) (by decide) (backOf (W := 0) (rmMin l Z a0 hw [] (4 : Int32) (4 : Int32) h0 n0 Z0 (by decide : ¬ ((4 : Int32) < (4 : Int32)))) hZ (wd hw 87 rfl) (wd hw 83 rfl) (by decide) (by decide)) (g := (mkF m 18 #[rv ar, iv 10, iv 0, iv 4] [(.int 4), (.int 4)])) rfl (by rw [hml]; rfl) (argsL := [(.int 4), (.int 4)]) (rest := []) (lenOf pd_2 rfl) rfl (by show 2 * 0 + _ ≤ _; exact Nat.le_of_eq rfl) (hb hby d8_18) (fun _ _ => ⟨rfl, e4, (by decide : 0 + 0 ≤ _), (by decide : 0 + 0 ≤ _)⟩)
  dsimp only [Pt.U, Pt.locs, Pt.cells, Pt.slots] at X7 lx7 yx7 zx7 st7 hQ7
  subst lx7 yx7 zx7
  obtain ⟨rfl, N7q, e7⟩ := hQ7
  have N7 := Fr.app N4 N7q
  refine own_lift st7 ?_
  show own_Go p.tables e below (T7.setTop (mkF m 21 #[rv ar, iv 10, iv 0, iv 4] [(.int 4)])) _
  have sg8 : ∀ t, Steps p.tables e below (T7.setTop (mkF m 33 #[rv ar, iv 10, iv 0, iv 4] [(.int 4), (.int 0), (.int 10), (.ref ar)])) t → Steps p.tables e below (T7.setTop (mkF m 21 #[rv ar, iv 10, iv 0, iv 4] [(.int 4)])) t := by
    intro t k
    refine XS.istoreN X7.here hx rfl (hb hby d8_21) rfl (l' := #[rv ar, iv 10, iv 0, iv 4]) rfl ?_
    show Steps p.tables e below (T7.setTop (mkF m 22 #[rv ar, iv 10, iv 0, iv 4] [])) _
    refine XS.iloadN X7.here hx rfl (hb hby d8_22) rfl ?_
    refine XS.iloadN X7.here hx rfl (hb hby d8_23) rfl ?_
    refine XS.icmpYes X7.here hx rfl (pc0 := 24) (pc' := 29) rfl (hb hby d8_24) rfl (tlt (by decide : (0 : Int32) < (4 : Int32))).1 (by decide) (by decide) ?_
    show Steps p.tables e below (T7.setTop (mkF m 29 #[rv ar, iv 10, iv 0, iv 4] [])) _
    refine XS.aloadN X7.here hx rfl (hb hby d8_29) rfl rfl ?_
    refine XS.iloadN X7.here hx rfl (hb hby d8_30) rfl ?_
    refine XS.iloadN X7.here hx rfl (hb hby d8_31) rfl ?_
    show Steps p.tables e below (T7.setTop (mkF m 32 #[rv ar, iv 10, iv 0, iv 4] [(.int 0), (.int 10), (.ref ar)])) _
    refine XS.iloadN X7.here hx rfl (hb hby d8_32) rfl ?_
    show Steps p.tables e below (T7.setTop (mkF m 33 #[rv ar, iv 10, iv 0, iv 4] [(.int 4), (.int 0), (.int 10), (.ref ar)])) _
    exact k
  refine own_lift sg8 ?_
  show own_Go p.tables e below (T7.setTop (mkF m 33 #[rv ar, iv 10, iv 0, iv 4] [(.int 4), (.int 0), (.int 10), (.ref ar)])) _
  obtain ⟨_, _, ⟨T9, Lx9, kx9, nx9⟩, -, X9, ⟨Lc9, hQ9, lx9, yx9, zx9⟩, st9⟩ := Jvm.LawKit.callS X7 hx (y := (⟨L1x, "indexOfChar", "([BIII)I"⟩ : MethodName)) hown (mvT hZ (wd hw 88 rfl)) (mvT hZ (wd hw 89 rfl)) (mvT hZ (wd hw 76 rfl)) (mvT hZ (wd hw 90 rfl)) (by decide) (backOf (W := 0) (rmIdcn l Z a0 hw [] ar kb b0 b1 b2 b3 h0 n0 Z0 Ars d0 d1 d2 d3) hZ (wd hw 90 rfl) (wd hw 76 rfl) (by decide) (by decide)) (g := (mkF m 33 #[rv ar, iv 10, iv 0, iv 4] [(.int 4), (.int 0), (.int 10), (.ref ar)])) rfl (by rw [hml]; rfl) (argsL := [(.ref ar), (.int 10), (.int 0), (.int 4)]) (rest := []) (lenOf pd_3 rfl) rfl (by show 2 * 0 + _ ≤ _; exact Nat.le_of_eq rfl) (hb hby d8_33) (fun _ _ => ⟨rfl, e7, (by decide : 0 + 0 ≤ _), (by decide : 0 + 0 ≤ _)⟩)
  dsimp only [Pt.U, Pt.locs, Pt.cells, Pt.slots] at X9 lx9 yx9 zx9 st9 hQ9
  subst lx9 yx9 zx9
  obtain ⟨rfl, N9q, e9⟩ := hQ9
  have N9 := Fr.app N7 N9q
  refine own_lift st9 ?_
  show own_Go p.tables e below (T9.setTop (mkF m 36 #[rv ar, iv 10, iv 0, iv 4] [(.int (-1))])) _
  obtain ⟨fs, hr, hrun, hended, hW, hsame⟩ := X9.leave (v := some (.int (-1))) (fun h => by rw [Bd.returns] at h; cases h)
  refine ⟨_, _, ?_, hrun, hended, _, _, rfl, ?_, ⟨_, rfl⟩, hW, hsame.mono (by decide) (by decide)⟩
  · exact retI X9 hx Bd.returns (hb hby d8_36) hr
  · show Q_rmIdln Z ar kb b0 b1 b2 b3 h0 n0 _ T9.heap _
    rw [e9]
    exact ⟨rfl, N9, rfl⟩
theorem d9_0 : decode jdk_42_method_80_code 0 = .ok (.aload_n 0, 1) := by decide +kernel
theorem d9_1 : decode jdk_42_method_80_code 1 = .ok (.invokevirtual 492, 3) := by decide +kernel
theorem pd_4 : parseMethodDescriptor "()Z" = some ⟨[], some .boolean⟩ := by decide +kernel
theorem d9_4 : decode jdk_42_method_80_code 4 = .ok (.ifCond .eq 19, 3) := by decide +kernel
theorem d9_7 : decode jdk_42_method_80_code 7 = .ok (.aload_n 0, 1) := by decide +kernel
theorem d9_8 : decode jdk_42_method_80_code 8 = .ok (.getfield 9, 3) := by decide +kernel
theorem d9_11 : decode jdk_42_method_80_code 11 = .ok (.iload_n 1, 1) := by decide +kernel
theorem d9_12 : decode jdk_42_method_80_code 12 = .ok (.iload_n 2, 1) := by decide +kernel
theorem d9_13 : decode jdk_42_method_80_code 13 = .ok (.aload_n 0, 1) := by decide +kernel
theorem d9_14 : decode jdk_42_method_80_code 14 = .ok (.invokevirtual 505, 3) := by decide +kernel
theorem pd_5 : parseMethodDescriptor "()I" = some ⟨[], some .int⟩ := by decide +kernel
theorem d9_17 : decode jdk_42_method_80_code 17 = .ok (.invokestatic 637, 3) := by decide +kernel
theorem d9_20 : decode jdk_42_method_80_code 20 = .ok (.goto 16, 3) := by decide +kernel
theorem d9_36 : decode jdk_42_method_80_code 36 = .ok (.ireturn, 1) := by decide +kernel
def Q_rmIds0 (Z : State) (a1 : Addr) (va : Addr) (kb : ClassId) (b0 : Int32) (b1 : Int32) (b2 : Int32) (b3 : Int32) (cs : Int32) (h0 : Heap) (n0 : Nat) (v : Option Value) (h : Heap) (L : List Loc) : Prop := v = some (.int 0) ∧ Fr n0 L ∧ h = h0
theorem ef_rmIds0 (m : MethodId) (x0 : Addr) (x1 : Int32) (x2 : Int32) : entryFrame m #[(.ref x0), (.int 10), (.int 0)] 3 = mkF m 0 #[.val (.ref x0), .val (.int 10), .val (.int 0)] [] := by first | (simp [entryFrame, mkF, argsToLocals, Value.category]; done) | rfl
set_option maxRecDepth 65536 in
set_option maxHeartbeats 40000000 in
theorem rmIds0 (l : Launch) (Z : State) (a0 : Array Value) (hw : ∀ d ∈ tables_1, d.before a0 Z = true) (ws : List Jvm.Cond) (a1 : Addr) (va : Addr) (kb : ClassId) (b0 : Int32) (b1 : Int32) (b2 : Int32) (b3 : Int32) (cs : Int32) (h0 : Heap) (n0 : Nat) (Z0 : n0 ≤ h0.size) (Es : Exa Z h0 a1 STx) (Fsv : Fld Z h0 a1 STx "value" "[B" (.ref va)) (Fsc : Fld Z h0 a1 STx "coder" "B" (.int 0)) (Ars : Arv Z h0 va kb .byte (4 : Int32) [(.int b0), (.int b1), (.int b2), (.int b3)] (.int 0)) (Scs : Sta Z h0 STx "COMPACT_STRINGS" "Z" (.int cs)) (P_cs : ¬ (cs = (0 : Int32))) (d0 : b0 = (10 : Int32)) :
    MetFree l (⟨STx, "indexOf", "(II)I"⟩ : MethodName) (head1 (Jvm.Cond.code (⟨STx, "indexOf", "(II)I"⟩ : MethodName) jdk_42_method_80_code 3 (some .int) :: ws) ({ frames := 2, cells := 0, slots := 0, locals := 32 } : Room)) (fun a U => a = #[(.ref a1), (.int 10), (.int 0)] ∧ Z.Warmed39 U.vm ∧ U.heap = h0) (fun _ _ _ _ _ => True) (fun _ U o U' => ∃ v L, o = .returned v ∧ Q_rmIds0 Z a1 va kb b0 b1 b2 b3 cs h0 n0 v U'.heap L ∧ FrameEnd U o U' L ({ frames := 2, cells := 0, slots := 0, locals := 32 } : Room).cells ({ frames := 2, cells := 0, slots := 0, locals := 32 } : Room).slots) := by
  refine MetFree.of_bodySF (plainFor_of_name pn_0) hisR ?_
  intro p e s m args below meth c s₁ Bd hml0 hP hK
  obtain ⟨rfl, hZ, hh⟩ := hP
  have hx := Bd.exec
  have hby := Bd.bytes
  have hml : c.maxLocals = 3 := hml0
  have hown : s.vm.findClass STx = some m.cls := findClass_of_methodNamed Bd.named
  have hnm := (name_of_methodNamed Bd.named Bd.method).1
  have X0 : Stand p l e ({ frames := 2, cells := 0, slots := 0, locals := 32 } : Room) s m #[(.ref a1), (.int 10), (.int 0)] below meth c s₁ [] 0 0 := Stand.of_body Bd
  have e0 : s₁.heap = h0 := by rw [← hh, Bd.state]; rfl
  have N0 := Fr.nil n0
  refine own_go (own_lift (fun t k => castTop (ef_rmIds0 m a1 (10 : Int32) (0 : Int32)) k) ?_)
  show own_Go p.tables e below (s₁.setTop (mkF m 0 #[rv a1, iv 10, iv 0] [])) _
  have sg1 : ∀ t, Steps p.tables e below (s₁.setTop (mkF m 1 #[rv a1, iv 10, iv 0] [(.ref a1)])) t → Steps p.tables e below (s₁.setTop (mkF m 0 #[rv a1, iv 10, iv 0] [])) t := by
    intro t k
    refine XS.aloadN X0.here hx rfl (hb hby d9_0) rfl rfl ?_
    show Steps p.tables e below (s₁.setTop (mkF m 1 #[rv a1, iv 10, iv 0] [(.ref a1)])) _
    exact k
  refine own_lift sg1 ?_
  show own_Go p.tables e below (s₁.setTop (mkF m 1 #[rv a1, iv 10, iv 0] [(.ref a1)])) _
  obtain ⟨cq2, kq2, q2a, q2b, q2c⟩ := isOf hZ e0 Es
  obtain ⟨_, _, ⟨T2, Lx2, kx2, nx2⟩, -, X2, ⟨Lc2, hQ2, lx2, yx2, zx2⟩, st2⟩ := X0.virtualBack hx (y := (⟨STx, "isLatin1", "()Z"⟩ : MethodName)) (z := (⟨STx, "isLatin1", "()Z"⟩ : MethodName)) hown (mvT hZ (wd hw 59 rfl)) (mvT hZ (wd hw 60 rfl)) (notFace_of_selects (args := #[]) (mvT hZ (wd hw 62 rfl))) (mvT hZ (wd hw 62 rfl)) (mvT hZ (wd hw 61 rfl)) (by decide) (backOf (W := 0) (rmLatin l Z a0 hw [] a1 cs h0 n0 Z0 Fsc Scs P_cs) hZ (wd hw 63 rfl) (wd hw 10 rfl) (by decide) (by decide)) q2a q2c (g := (mkF m 1 #[rv a1, iv 10, iv 0] [(.ref a1)])) rfl (by rw [hml]; rfl) (Steps.refl _) (argsL := []) (rest := []) (lenOf pd_4 rfl) rfl (by show 2 * 0 + _ ≤ _; exact Nat.le_of_eq rfl) (hb hby d9_1) (fun _ _ => ⟨rfl, e0, (by decide : 0 + 0 ≤ _), (by decide : 0 + 0 ≤ _)⟩)
  dsimp only [Pt.U, Pt.locs, Pt.cells, Pt.slots] at X2 lx2 yx2 zx2 st2 hQ2
  subst lx2 yx2 zx2
  obtain ⟨rfl, N2q, e2⟩ := hQ2
  have N2 := Fr.app N0 N2q
  refine own_lift (fun t k => st2.trans k) ?_
  show own_Go p.tables e below (T2.setTop (mkF m 4 #[rv a1, iv 10, iv 0] [(.int 1)])) _
  have sg3 : ∀ t, Steps p.tables e below (T2.setTop (mkF m 8 #[rv a1, iv 10, iv 0] [(.ref a1)])) t → Steps p.tables e below (T2.setTop (mkF m 4 #[rv a1, iv 10, iv 0] [(.int 1)])) t := by
    intro t k
    refine XS.ifNo X2.here hx rfl (hb hby d9_4) rfl ((if0 _ _).trans (feq (by decide : ¬ ((1 : Int32) = (0 : Int32)))).1) ?_
    show Steps p.tables e below (T2.setTop (mkF m 7 #[rv a1, iv 10, iv 0] [])) _
    refine XS.aloadN X2.here hx rfl (hb hby d9_7) rfl rfl ?_
    show Steps p.tables e below (T2.setTop (mkF m 8 #[rv a1, iv 10, iv 0] [(.ref a1)])) _
    exact k
  refine own_lift sg3 ?_
  show own_Go p.tables e below (T2.setTop (mkF m 8 #[rv a1, iv 10, iv 0] [(.ref a1)])) _
  obtain ⟨T4, X4, e4, st4⟩ := getF X2 hx hZ hown (host := "") (Or.inl (wd hw 35 rfl)) Via.refl e2 Fsv (g := (mkF m 8 #[rv a1, iv 10, iv 0] [(.ref a1)])) rfl rfl (hb hby d9_8)
  refine own_lift st4 ?_
  show own_Go p.tables e below (T4.setTop (mkF m 11 #[rv a1, iv 10, iv 0] [(.ref va)])) _
  have sg5 : ∀ t, Steps p.tables e below (T4.setTop (mkF m 14 #[rv a1, iv 10, iv 0] [(.ref a1), (.int 0), (.int 10), (.ref va)])) t → Steps p.tables e below (T4.setTop (mkF m 11 #[rv a1, iv 10, iv 0] [(.ref va)])) t := by
    intro t k
    refine XS.iloadN X4.here hx rfl (hb hby d9_11) rfl ?_
    show Steps p.tables e below (T4.setTop (mkF m 12 #[rv a1, iv 10, iv 0] [(.int 10), (.ref va)])) _
    refine XS.iloadN X4.here hx rfl (hb hby d9_12) rfl ?_
    refine XS.aloadN X4.here hx rfl (hb hby d9_13) rfl rfl ?_
    show Steps p.tables e below (T4.setTop (mkF m 14 #[rv a1, iv 10, iv 0] [(.ref a1), (.int 0), (.int 10), (.ref va)])) _
    exact k
  refine own_lift sg5 ?_
  show own_Go p.tables e below (T4.setTop (mkF m 14 #[rv a1, iv 10, iv 0] [(.ref a1), (.int 0), (.int 10), (.ref va)])) _
  obtain ⟨cq6, kq6, q6a, q6b, q6c⟩ := isOf hZ e4 Es
  obtain ⟨_, _, ⟨T6, Lx6, kx6, nx6⟩, -, X6, ⟨Lc6, hQ6, lx6, yx6, zx6⟩, st6⟩ := X4.virtualBack hx (y := (⟨STx, "length", "()I"⟩ : MethodName)) (z := (⟨STx, "length", "()I"⟩ : MethodName)) hown (mvT hZ (wd hw 64 rfl)) (mvT hZ (wd hw 65 rfl)) (notFace_of_selects (args := #[]) (mvT hZ (wd hw 67 rfl))) (mvT hZ (wd hw 67 rfl)) (mvT hZ (wd hw 66 rfl)) (by decide) (backOf (W := 3) (rmLen l Z a0 hw [] a1 va kb b0 b1 b2 b3 cs h0 n0 Z0 Es Fsv Fsc Ars Scs P_cs) hZ (wd hw 68 rfl) (wd hw 10 rfl) (by decide) (by decide)) q6a q6c (g := (mkF m 14 #[rv a1, iv 10, iv 0] [(.ref a1), (.int 0), (.int 10), (.ref va)])) rfl (by rw [hml]; rfl) (Steps.refl _) (argsL := []) (rest := [(.int 0), (.int 10), (.ref va)]) (lenOf pd_5 rfl) rfl (by show 2 * 0 + _ ≤ _; exact Nat.le_of_eq rfl) (hb hby d9_14) (fun _ _ => ⟨rfl, e4, (by decide : 0 + 0 ≤ _), (by decide : 0 + 0 ≤ _)⟩)
  dsimp only [Pt.U, Pt.locs, Pt.cells, Pt.slots] at X6 lx6 yx6 zx6 st6 hQ6
  subst lx6 yx6 zx6
  obtain ⟨rfl, N6q, e6⟩ := hQ6
  have N6 := Fr.app N2 N6q
  refine own_lift (fun t k => st6.trans k) ?_
  show own_Go p.tables e below (T6.setTop (mkF m 17 #[rv a1, iv 10, iv 0] [(.int 4), (.int 0), (.int 10), (.ref va)])) _
  obtain ⟨_, _, ⟨T7, Lx7, kx7, nx7⟩, -, X7, ⟨Lc7, hQ7, lx7, yx7, zx7⟩, st7⟩ := Jvm.LawKit.callS X6 hx (y := (⟨L1x, "indexOf", "([BIII)I"⟩ : MethodName)) hown (mvT hZ (wd hw 74 rfl)) (mvT hZ (wd hw 75 rfl)) (mvT hZ (wd hw 76 rfl)) (mvT hZ (wd hw 77 rfl)) (by decide) (backOf (W := 0) (rmIdl0 l Z a0 hw [] va kb b0 b1 b2 b3 h0 n0 Z0 Ars d0) hZ (wd hw 77 rfl) (wd hw 76 rfl) (by decide) (by decide)) (g := (mkF m 17 #[rv a1, iv 10, iv 0] [(.int 4), (.int 0), (.int 10), (.ref va)])) rfl (by rw [hml]; rfl) (argsL := [(.ref va), (.int 10), (.int 0), (.int 4)]) (rest := []) (lenOf pd_3 rfl) rfl (by show 2 * 0 + _ ≤ _; exact Nat.le_of_eq rfl) (hb hby d9_17) (fun _ _ => ⟨rfl, e6, (by decide : 0 + 0 ≤ _), (by decide : 0 + 0 ≤ _)⟩)
  dsimp only [Pt.U, Pt.locs, Pt.cells, Pt.slots] at X7 lx7 yx7 zx7 st7 hQ7
  subst lx7 yx7 zx7
  obtain ⟨rfl, N7q, e7⟩ := hQ7
  have N7 := Fr.app N6 N7q
  refine own_lift st7 ?_
  show own_Go p.tables e below (T7.setTop (mkF m 20 #[rv a1, iv 10, iv 0] [(.int 0)])) _
  have sg8 : ∀ t, Steps p.tables e below (T7.setTop (mkF m 36 #[rv a1, iv 10, iv 0] [(.int 0)])) t → Steps p.tables e below (T7.setTop (mkF m 20 #[rv a1, iv 10, iv 0] [(.int 0)])) t := by
    intro t k
    refine XS.goto X7.here hx rfl (pc0 := 20) (pc' := 36) rfl (hb hby d9_20) (by decide) (by decide) ?_
    show Steps p.tables e below (T7.setTop (mkF m 36 #[rv a1, iv 10, iv 0] [(.int 0)])) _
    exact k
  refine own_lift sg8 ?_
  show own_Go p.tables e below (T7.setTop (mkF m 36 #[rv a1, iv 10, iv 0] [(.int 0)])) _
  obtain ⟨fs, hr, hrun, hended, hW, hsame⟩ := X7.leave (v := some (.int 0)) (fun h => by rw [Bd.returns] at h; cases h)
  refine ⟨_, _, ?_, hrun, hended, _, _, rfl, ?_, ⟨_, rfl⟩, hW, hsame.mono (by decide) (by decide)⟩
  · exact retI X7 hx Bd.returns (hb hby d9_36) hr
  · show Q_rmIds0 Z a1 va kb b0 b1 b2 b3 cs h0 n0 _ T7.heap _
    rw [e7]
    exact ⟨rfl, N7, rfl⟩
def Q_rmIds1 (Z : State) (a1 : Addr) (va : Addr) (kb : ClassId) (b0 : Int32) (b1 : Int32) (b2 : Int32) (b3 : Int32) (cs : Int32) (h0 : Heap) (n0 : Nat) (v : Option Value) (h : Heap) (L : List Loc) : Prop := v = some (.int 1) ∧ Fr n0 L ∧ h = h0
theorem ef_rmIds1 (m : MethodId) (x0 : Addr) (x1 : Int32) (x2 : Int32) : entryFrame m #[(.ref x0), (.int 10), (.int 0)] 3 = mkF m 0 #[.val (.ref x0), .val (.int 10), .val (.int 0)] [] := by first | (simp [entryFrame, mkF, argsToLocals, Value.category]; done) | rfl
set_option maxRecDepth 65536 in
set_option maxHeartbeats 40000000 in
theorem rmIds1 (l : Launch) (Z : State) (a0 : Array Value) (hw : ∀ d ∈ tables_1, d.before a0 Z = true) (ws : List Jvm.Cond) (a1 : Addr) (va : Addr) (kb : ClassId) (b0 : Int32) (b1 : Int32) (b2 : Int32) (b3 : Int32) (cs : Int32) (h0 : Heap) (n0 : Nat) (Z0 : n0 ≤ h0.size) (Es : Exa Z h0 a1 STx) (Fsv : Fld Z h0 a1 STx "value" "[B" (.ref va)) (Fsc : Fld Z h0 a1 STx "coder" "B" (.int 0)) (Ars : Arv Z h0 va kb .byte (4 : Int32) [(.int b0), (.int b1), (.int b2), (.int b3)] (.int 0)) (Scs : Sta Z h0 STx "COMPACT_STRINGS" "Z" (.int cs)) (P_cs : ¬ (cs = (0 : Int32))) (d0 : ¬ (b0 = (10 : Int32))) (d1 : b1 = (10 : Int32)) :
    MetFree l (⟨STx, "indexOf", "(II)I"⟩ : MethodName) (head1 (Jvm.Cond.code (⟨STx, "indexOf", "(II)I"⟩ : MethodName) jdk_42_method_80_code 3 (some .int) :: ws) ({ frames := 2, cells := 0, slots := 0, locals := 32 } : Room)) (fun a U => a = #[(.ref a1), (.int 10), (.int 0)] ∧ Z.Warmed39 U.vm ∧ U.heap = h0) (fun _ _ _ _ _ => True) (fun _ U o U' => ∃ v L, o = .returned v ∧ Q_rmIds1 Z a1 va kb b0 b1 b2 b3 cs h0 n0 v U'.heap L ∧ FrameEnd U o U' L ({ frames := 2, cells := 0, slots := 0, locals := 32 } : Room).cells ({ frames := 2, cells := 0, slots := 0, locals := 32 } : Room).slots) := by
  refine MetFree.of_bodySF (plainFor_of_name pn_0) hisR ?_
  intro p e s m args below meth c s₁ Bd hml0 hP hK
  obtain ⟨rfl, hZ, hh⟩ := hP
  have hx := Bd.exec
  have hby := Bd.bytes
  have hml : c.maxLocals = 3 := hml0
  have hown : s.vm.findClass STx = some m.cls := findClass_of_methodNamed Bd.named
  have hnm := (name_of_methodNamed Bd.named Bd.method).1
  have X0 : Stand p l e ({ frames := 2, cells := 0, slots := 0, locals := 32 } : Room) s m #[(.ref a1), (.int 10), (.int 0)] below meth c s₁ [] 0 0 := Stand.of_body Bd
  have e0 : s₁.heap = h0 := by rw [← hh, Bd.state]; rfl
  have N0 := Fr.nil n0
  refine own_go (own_lift (fun t k => castTop (ef_rmIds1 m a1 (10 : Int32) (0 : Int32)) k) ?_)
  show own_Go p.tables e below (s₁.setTop (mkF m 0 #[rv a1, iv 10, iv 0] [])) _
  have sg1 : ∀ t, Steps p.tables e below (s₁.setTop (mkF m 1 #[rv a1, iv 10, iv 0] [(.ref a1)])) t → Steps p.tables e below (s₁.setTop (mkF m 0 #[rv a1, iv 10, iv 0] [])) t := by
    intro t k
    refine XS.aloadN X0.here hx rfl (hb hby d9_0) rfl rfl ?_
    show Steps p.tables e below (s₁.setTop (mkF m 1 #[rv a1, iv 10, iv 0] [(.ref a1)])) _
    exact k
  refine own_lift sg1 ?_
  show own_Go p.tables e below (s₁.setTop (mkF m 1 #[rv a1, iv 10, iv 0] [(.ref a1)])) _
  obtain ⟨cq2, kq2, q2a, q2b, q2c⟩ := isOf hZ e0 Es
  obtain ⟨_, _, ⟨T2, Lx2, kx2, nx2⟩, -, X2, ⟨Lc2, hQ2, lx2, yx2, zx2⟩, st2⟩ := X0.virtualBack hx (y := (⟨STx, "isLatin1", "()Z"⟩ : MethodName)) (z := (⟨STx, "isLatin1", "()Z"⟩ : MethodName)) hown (mvT hZ (wd hw 59 rfl)) (mvT hZ (wd hw 60 rfl)) (notFace_of_selects (args := #[]) (mvT hZ (wd hw 62 rfl))) (mvT hZ (wd hw 62 rfl)) (mvT hZ (wd hw 61 rfl)) (by decide) (backOf (W := 0) (rmLatin l Z a0 hw [] a1 cs h0 n0 Z0 Fsc Scs P_cs) hZ (wd hw 63 rfl) (wd hw 10 rfl) (by decide) (by decide)) q2a q2c (g := (mkF m 1 #[rv a1, iv 10, iv 0] [(.ref a1)])) rfl (by rw [hml]; rfl) (Steps.refl _) (argsL := []) (rest := []) (lenOf pd_4 rfl) rfl (by show 2 * 0 + _ ≤ _; exact Nat.le_of_eq rfl) (hb hby d9_1) (fun _ _ => ⟨rfl, e0, (by decide : 0 + 0 ≤ _), (by decide : 0 + 0 ≤ _)⟩)
  dsimp only [Pt.U, Pt.locs, Pt.cells, Pt.slots] at X2 lx2 yx2 zx2 st2 hQ2
  subst lx2 yx2 zx2
  obtain ⟨rfl, N2q, e2⟩ := hQ2
  have N2 := Fr.app N0 N2q
  refine own_lift (fun t k => st2.trans k) ?_
  show own_Go p.tables e below (T2.setTop (mkF m 4 #[rv a1, iv 10, iv 0] [(.int 1)])) _
  have sg3 : ∀ t, Steps p.tables e below (T2.setTop (mkF m 8 #[rv a1, iv 10, iv 0] [(.ref a1)])) t → Steps p.tables e below (T2.setTop (mkF m 4 #[rv a1, iv 10, iv 0] [(.int 1)])) t := by
    intro t k
    refine XS.ifNo X2.here hx rfl (hb hby d9_4) rfl ((if0 _ _).trans (feq (by decide : ¬ ((1 : Int32) = (0 : Int32)))).1) ?_
    show Steps p.tables e below (T2.setTop (mkF m 7 #[rv a1, iv 10, iv 0] [])) _
    refine XS.aloadN X2.here hx rfl (hb hby d9_7) rfl rfl ?_
    show Steps p.tables e below (T2.setTop (mkF m 8 #[rv a1, iv 10, iv 0] [(.ref a1)])) _
    exact k
  refine own_lift sg3 ?_
  show own_Go p.tables e below (T2.setTop (mkF m 8 #[rv a1, iv 10, iv 0] [(.ref a1)])) _
  obtain ⟨T4, X4, e4, st4⟩ := getF X2 hx hZ hown (host := "") (Or.inl (wd hw 35 rfl)) Via.refl e2 Fsv (g := (mkF m 8 #[rv a1, iv 10, iv 0] [(.ref a1)])) rfl rfl (hb hby d9_8)
  refine own_lift st4 ?_
  show own_Go p.tables e below (T4.setTop (mkF m 11 #[rv a1, iv 10, iv 0] [(.ref va)])) _
  have sg5 : ∀ t, Steps p.tables e below (T4.setTop (mkF m 14 #[rv a1, iv 10, iv 0] [(.ref a1), (.int 0), (.int 10), (.ref va)])) t → Steps p.tables e below (T4.setTop (mkF m 11 #[rv a1, iv 10, iv 0] [(.ref va)])) t := by
    intro t k
    refine XS.iloadN X4.here hx rfl (hb hby d9_11) rfl ?_
    show Steps p.tables e below (T4.setTop (mkF m 12 #[rv a1, iv 10, iv 0] [(.int 10), (.ref va)])) _
    refine XS.iloadN X4.here hx rfl (hb hby d9_12) rfl ?_
    refine XS.aloadN X4.here hx rfl (hb hby d9_13) rfl rfl ?_
    show Steps p.tables e below (T4.setTop (mkF m 14 #[rv a1, iv 10, iv 0] [(.ref a1), (.int 0), (.int 10), (.ref va)])) _
    exact k
  refine own_lift sg5 ?_
  show own_Go p.tables e below (T4.setTop (mkF m 14 #[rv a1, iv 10, iv 0] [(.ref a1), (.int 0), (.int 10), (.ref va)])) _
  obtain ⟨cq6, kq6, q6a, q6b, q6c⟩ := isOf hZ e4 Es
  obtain ⟨_, _, ⟨T6, Lx6, kx6, nx6⟩, -, X6, ⟨Lc6, hQ6, lx6, yx6, zx6⟩, st6⟩ := X4.virtualBack hx (y := (⟨STx, "length", "()I"⟩ : MethodName)) (z := (⟨STx, "length", "()I"⟩ : MethodName)) hown (mvT hZ (wd hw 64 rfl)) (mvT hZ (wd hw 65 rfl)) (notFace_of_selects (args := #[]) (mvT hZ (wd hw 67 rfl))) (mvT hZ (wd hw 67 rfl)) (mvT hZ (wd hw 66 rfl)) (by decide) (backOf (W := 3) (rmLen l Z a0 hw [] a1 va kb b0 b1 b2 b3 cs h0 n0 Z0 Es Fsv Fsc Ars Scs P_cs) hZ (wd hw 68 rfl) (wd hw 10 rfl) (by decide) (by decide)) q6a q6c (g := (mkF m 14 #[rv a1, iv 10, iv 0] [(.ref a1), (.int 0), (.int 10), (.ref va)])) rfl (by rw [hml]; rfl) (Steps.refl _) (argsL := []) (rest := [(.int 0), (.int 10), (.ref va)]) (lenOf pd_5 rfl) rfl (by show 2 * 0 + _ ≤ _; exact Nat.le_of_eq rfl) (hb hby d9_14) (fun _ _ => ⟨rfl, e4, (by decide : 0 + 0 ≤ _), (by decide : 0 + 0 ≤ _)⟩)
  dsimp only [Pt.U, Pt.locs, Pt.cells, Pt.slots] at X6 lx6 yx6 zx6 st6 hQ6
  subst lx6 yx6 zx6
  obtain ⟨rfl, N6q, e6⟩ := hQ6
  have N6 := Fr.app N2 N6q
  refine own_lift (fun t k => st6.trans k) ?_
  show own_Go p.tables e below (T6.setTop (mkF m 17 #[rv a1, iv 10, iv 0] [(.int 4), (.int 0), (.int 10), (.ref va)])) _
  obtain ⟨_, _, ⟨T7, Lx7, kx7, nx7⟩, -, X7, ⟨Lc7, hQ7, lx7, yx7, zx7⟩, st7⟩ := Jvm.LawKit.callS X6 hx (y := (⟨L1x, "indexOf", "([BIII)I"⟩ : MethodName)) hown (mvT hZ (wd hw 74 rfl)) (mvT hZ (wd hw 75 rfl)) (mvT hZ (wd hw 76 rfl)) (mvT hZ (wd hw 77 rfl)) (by decide) (backOf (W := 0) (rmIdl1 l Z a0 hw [] va kb b0 b1 b2 b3 h0 n0 Z0 Ars d0 d1) hZ (wd hw 77 rfl) (wd hw 76 rfl) (by decide) (by decide)) (g := (mkF m 17 #[rv a1, iv 10, iv 0] [(.int 4), (.int 0), (.int 10), (.ref va)])) rfl (by rw [hml]; rfl) (argsL := [(.ref va), (.int 10), (.int 0), (.int 4)]) (rest := []) (lenOf pd_3 rfl) rfl (by show 2 * 0 + _ ≤ _; exact Nat.le_of_eq rfl) (hb hby d9_17) (fun _ _ => ⟨rfl, e6, (by decide : 0 + 0 ≤ _), (by decide : 0 + 0 ≤ _)⟩)
  dsimp only [Pt.U, Pt.locs, Pt.cells, Pt.slots] at X7 lx7 yx7 zx7 st7 hQ7
  subst lx7 yx7 zx7
  obtain ⟨rfl, N7q, e7⟩ := hQ7
  have N7 := Fr.app N6 N7q
  refine own_lift st7 ?_
  show own_Go p.tables e below (T7.setTop (mkF m 20 #[rv a1, iv 10, iv 0] [(.int 1)])) _
  have sg8 : ∀ t, Steps p.tables e below (T7.setTop (mkF m 36 #[rv a1, iv 10, iv 0] [(.int 1)])) t → Steps p.tables e below (T7.setTop (mkF m 20 #[rv a1, iv 10, iv 0] [(.int 1)])) t := by
    intro t k
    refine XS.goto X7.here hx rfl (pc0 := 20) (pc' := 36) rfl (hb hby d9_20) (by decide) (by decide) ?_
    show Steps p.tables e below (T7.setTop (mkF m 36 #[rv a1, iv 10, iv 0] [(.int 1)])) _
    exact k
  refine own_lift sg8 ?_
  show own_Go p.tables e below (T7.setTop (mkF m 36 #[rv a1, iv 10, iv 0] [(.int 1)])) _
  obtain ⟨fs, hr, hrun, hended, hW, hsame⟩ := X7.leave (v := some (.int 1)) (fun h => by rw [Bd.returns] at h; cases h)
  refine ⟨_, _, ?_, hrun, hended, _, _, rfl, ?_, ⟨_, rfl⟩, hW, hsame.mono (by decide) (by decide)⟩
  · exact retI X7 hx Bd.returns (hb hby d9_36) hr
  · show Q_rmIds1 Z a1 va kb b0 b1 b2 b3 cs h0 n0 _ T7.heap _
    rw [e7]
    exact ⟨rfl, N7, rfl⟩
def Q_rmIds2 (Z : State) (a1 : Addr) (va : Addr) (kb : ClassId) (b0 : Int32) (b1 : Int32) (b2 : Int32) (b3 : Int32) (cs : Int32) (h0 : Heap) (n0 : Nat) (v : Option Value) (h : Heap) (L : List Loc) : Prop := v = some (.int 2) ∧ Fr n0 L ∧ h = h0
theorem ef_rmIds2 (m : MethodId) (x0 : Addr) (x1 : Int32) (x2 : Int32) : entryFrame m #[(.ref x0), (.int 10), (.int 0)] 3 = mkF m 0 #[.val (.ref x0), .val (.int 10), .val (.int 0)] [] := by first | (simp [entryFrame, mkF, argsToLocals, Value.category]; done) | rfl
set_option maxRecDepth 65536 in
set_option maxHeartbeats 40000000 in
theorem rmIds2 (l : Launch) (Z : State) (a0 : Array Value) (hw : ∀ d ∈ tables_1, d.before a0 Z = true) (ws : List Jvm.Cond) (a1 : Addr) (va : Addr) (kb : ClassId) (b0 : Int32) (b1 : Int32) (b2 : Int32) (b3 : Int32) (cs : Int32) (h0 : Heap) (n0 : Nat) (Z0 : n0 ≤ h0.size) (Es : Exa Z h0 a1 STx) (Fsv : Fld Z h0 a1 STx "value" "[B" (.ref va)) (Fsc : Fld Z h0 a1 STx "coder" "B" (.int 0)) (Ars : Arv Z h0 va kb .byte (4 : Int32) [(.int b0), (.int b1), (.int b2), (.int b3)] (.int 0)) (Scs : Sta Z h0 STx "COMPACT_STRINGS" "Z" (.int cs)) (P_cs : ¬ (cs = (0 : Int32))) (d0 : ¬ (b0 = (10 : Int32))) (d1 : ¬ (b1 = (10 : Int32))) (d2 : b2 = (10 : Int32)) :
    MetFree l (⟨STx, "indexOf", "(II)I"⟩ : MethodName) (head1 (Jvm.Cond.code (⟨STx, "indexOf", "(II)I"⟩ : MethodName) jdk_42_method_80_code 3 (some .int) :: ws) ({ frames := 2, cells := 0, slots := 0, locals := 32 } : Room)) (fun a U => a = #[(.ref a1), (.int 10), (.int 0)] ∧ Z.Warmed39 U.vm ∧ U.heap = h0) (fun _ _ _ _ _ => True) (fun _ U o U' => ∃ v L, o = .returned v ∧ Q_rmIds2 Z a1 va kb b0 b1 b2 b3 cs h0 n0 v U'.heap L ∧ FrameEnd U o U' L ({ frames := 2, cells := 0, slots := 0, locals := 32 } : Room).cells ({ frames := 2, cells := 0, slots := 0, locals := 32 } : Room).slots) := by
  refine MetFree.of_bodySF (plainFor_of_name pn_0) hisR ?_
  intro p e s m args below meth c s₁ Bd hml0 hP hK
  obtain ⟨rfl, hZ, hh⟩ := hP
  have hx := Bd.exec
  have hby := Bd.bytes
  have hml : c.maxLocals = 3 := hml0
  have hown : s.vm.findClass STx = some m.cls := findClass_of_methodNamed Bd.named
  have hnm := (name_of_methodNamed Bd.named Bd.method).1
  have X0 : Stand p l e ({ frames := 2, cells := 0, slots := 0, locals := 32 } : Room) s m #[(.ref a1), (.int 10), (.int 0)] below meth c s₁ [] 0 0 := Stand.of_body Bd
  have e0 : s₁.heap = h0 := by rw [← hh, Bd.state]; rfl
  have N0 := Fr.nil n0
  refine own_go (own_lift (fun t k => castTop (ef_rmIds2 m a1 (10 : Int32) (0 : Int32)) k) ?_)
  show own_Go p.tables e below (s₁.setTop (mkF m 0 #[rv a1, iv 10, iv 0] [])) _
  have sg1 : ∀ t, Steps p.tables e below (s₁.setTop (mkF m 1 #[rv a1, iv 10, iv 0] [(.ref a1)])) t → Steps p.tables e below (s₁.setTop (mkF m 0 #[rv a1, iv 10, iv 0] [])) t := by
    intro t k
    refine XS.aloadN X0.here hx rfl (hb hby d9_0) rfl rfl ?_
    show Steps p.tables e below (s₁.setTop (mkF m 1 #[rv a1, iv 10, iv 0] [(.ref a1)])) _
    exact k
  refine own_lift sg1 ?_
  show own_Go p.tables e below (s₁.setTop (mkF m 1 #[rv a1, iv 10, iv 0] [(.ref a1)])) _
  obtain ⟨cq2, kq2, q2a, q2b, q2c⟩ := isOf hZ e0 Es
  obtain ⟨_, _, ⟨T2, Lx2, kx2, nx2⟩, -, X2, ⟨Lc2, hQ2, lx2, yx2, zx2⟩, st2⟩ := X0.virtualBack hx (y := (⟨STx, "isLatin1", "()Z"⟩ : MethodName)) (z := (⟨STx, "isLatin1", "()Z"⟩ : MethodName)) hown (mvT hZ (wd hw 59 rfl)) (mvT hZ (wd hw 60 rfl)) (notFace_of_selects (args := #[]) (mvT hZ (wd hw 62 rfl))) (mvT hZ (wd hw 62 rfl)) (mvT hZ (wd hw 61 rfl)) (by decide) (backOf (W := 0) (rmLatin l Z a0 hw [] a1 cs h0 n0 Z0 Fsc Scs P_cs) hZ (wd hw 63 rfl) (wd hw 10 rfl) (by decide) (by decide)) q2a q2c (g := (mkF m 1 #[rv a1, iv 10, iv 0] [(.ref a1)])) rfl (by rw [hml]; rfl) (Steps.refl _) (argsL := []) (rest := []) (lenOf pd_4 rfl) rfl (by show 2 * 0 + _ ≤ _; exact Nat.le_of_eq rfl) (hb hby d9_1) (fun _ _ => ⟨rfl, e0, (by decide : 0 + 0 ≤ _), (by decide : 0 + 0 ≤ _)⟩)
  dsimp only [Pt.U, Pt.locs, Pt.cells, Pt.slots] at X2 lx2 yx2 zx2 st2 hQ2
  subst lx2 yx2 zx2
  obtain ⟨rfl, N2q, e2⟩ := hQ2
  have N2 := Fr.app N0 N2q
  refine own_lift (fun t k => st2.trans k) ?_
  show own_Go p.tables e below (T2.setTop (mkF m 4 #[rv a1, iv 10, iv 0] [(.int 1)])) _
  have sg3 : ∀ t, Steps p.tables e below (T2.setTop (mkF m 8 #[rv a1, iv 10, iv 0] [(.ref a1)])) t → Steps p.tables e below (T2.setTop (mkF m 4 #[rv a1, iv 10, iv 0] [(.int 1)])) t := by
    intro t k
    refine XS.ifNo X2.here hx rfl (hb hby d9_4) rfl ((if0 _ _).trans (feq (by decide : ¬ ((1 : Int32) = (0 : Int32)))).1) ?_
    show Steps p.tables e below (T2.setTop (mkF m 7 #[rv a1, iv 10, iv 0] [])) _
    refine XS.aloadN X2.here hx rfl (hb hby d9_7) rfl rfl ?_
    show Steps p.tables e below (T2.setTop (mkF m 8 #[rv a1, iv 10, iv 0] [(.ref a1)])) _
    exact k
  refine own_lift sg3 ?_
  show own_Go p.tables e below (T2.setTop (mkF m 8 #[rv a1, iv 10, iv 0] [(.ref a1)])) _
  obtain ⟨T4, X4, e4, st4⟩ := getF X2 hx hZ hown (host := "") (Or.inl (wd hw 35 rfl)) Via.refl e2 Fsv (g := (mkF m 8 #[rv a1, iv 10, iv 0] [(.ref a1)])) rfl rfl (hb hby d9_8)
  refine own_lift st4 ?_
  show own_Go p.tables e below (T4.setTop (mkF m 11 #[rv a1, iv 10, iv 0] [(.ref va)])) _
  have sg5 : ∀ t, Steps p.tables e below (T4.setTop (mkF m 14 #[rv a1, iv 10, iv 0] [(.ref a1), (.int 0), (.int 10), (.ref va)])) t → Steps p.tables e below (T4.setTop (mkF m 11 #[rv a1, iv 10, iv 0] [(.ref va)])) t := by
    intro t k
    refine XS.iloadN X4.here hx rfl (hb hby d9_11) rfl ?_
    show Steps p.tables e below (T4.setTop (mkF m 12 #[rv a1, iv 10, iv 0] [(.int 10), (.ref va)])) _
    refine XS.iloadN X4.here hx rfl (hb hby d9_12) rfl ?_
    refine XS.aloadN X4.here hx rfl (hb hby d9_13) rfl rfl ?_
    show Steps p.tables e below (T4.setTop (mkF m 14 #[rv a1, iv 10, iv 0] [(.ref a1), (.int 0), (.int 10), (.ref va)])) _
    exact k
  refine own_lift sg5 ?_
  show own_Go p.tables e below (T4.setTop (mkF m 14 #[rv a1, iv 10, iv 0] [(.ref a1), (.int 0), (.int 10), (.ref va)])) _
  obtain ⟨cq6, kq6, q6a, q6b, q6c⟩ := isOf hZ e4 Es
  obtain ⟨_, _, ⟨T6, Lx6, kx6, nx6⟩, -, X6, ⟨Lc6, hQ6, lx6, yx6, zx6⟩, st6⟩ := X4.virtualBack hx (y := (⟨STx, "length", "()I"⟩ : MethodName)) (z := (⟨STx, "length", "()I"⟩ : MethodName)) hown (mvT hZ (wd hw 64 rfl)) (mvT hZ (wd hw 65 rfl)) (notFace_of_selects (args := #[]) (mvT hZ (wd hw 67 rfl))) (mvT hZ (wd hw 67 rfl)) (mvT hZ (wd hw 66 rfl)) (by decide) (backOf (W := 3) (rmLen l Z a0 hw [] a1 va kb b0 b1 b2 b3 cs h0 n0 Z0 Es Fsv Fsc Ars Scs P_cs) hZ (wd hw 68 rfl) (wd hw 10 rfl) (by decide) (by decide)) q6a q6c (g := (mkF m 14 #[rv a1, iv 10, iv 0] [(.ref a1), (.int 0), (.int 10), (.ref va)])) rfl (by rw [hml]; rfl) (Steps.refl _) (argsL := []) (rest := [(.int 0), (.int 10), (.ref va)]) (lenOf pd_5 rfl) rfl (by show 2 * 0 + _ ≤ _; exact Nat.le_of_eq rfl) (hb hby d9_14) (fun _ _ => ⟨rfl, e4, (by decide : 0 + 0 ≤ _), (by decide : 0 + 0 ≤ _)⟩)
  dsimp only [Pt.U, Pt.locs, Pt.cells, Pt.slots] at X6 lx6 yx6 zx6 st6 hQ6
  subst lx6 yx6 zx6
  obtain ⟨rfl, N6q, e6⟩ := hQ6
  have N6 := Fr.app N2 N6q
  refine own_lift (fun t k => st6.trans k) ?_
  show own_Go p.tables e below (T6.setTop (mkF m 17 #[rv a1, iv 10, iv 0] [(.int 4), (.int 0), (.int 10), (.ref va)])) _
  obtain ⟨_, _, ⟨T7, Lx7, kx7, nx7⟩, -, X7, ⟨Lc7, hQ7, lx7, yx7, zx7⟩, st7⟩ := Jvm.LawKit.callS X6 hx (y := (⟨L1x, "indexOf", "([BIII)I"⟩ : MethodName)) hown (mvT hZ (wd hw 74 rfl)) (mvT hZ (wd hw 75 rfl)) (mvT hZ (wd hw 76 rfl)) (mvT hZ (wd hw 77 rfl)) (by decide) (backOf (W := 0) (rmIdl2 l Z a0 hw [] va kb b0 b1 b2 b3 h0 n0 Z0 Ars d0 d1 d2) hZ (wd hw 77 rfl) (wd hw 76 rfl) (by decide) (by decide)) (g := (mkF m 17 #[rv a1, iv 10, iv 0] [(.int 4), (.int 0), (.int 10), (.ref va)])) rfl (by rw [hml]; rfl) (argsL := [(.ref va), (.int 10), (.int 0), (.int 4)]) (rest := []) (lenOf pd_3 rfl) rfl (by show 2 * 0 + _ ≤ _; exact Nat.le_of_eq rfl) (hb hby d9_17) (fun _ _ => ⟨rfl, e6, (by decide : 0 + 0 ≤ _), (by decide : 0 + 0 ≤ _)⟩)
  dsimp only [Pt.U, Pt.locs, Pt.cells, Pt.slots] at X7 lx7 yx7 zx7 st7 hQ7
  subst lx7 yx7 zx7
  obtain ⟨rfl, N7q, e7⟩ := hQ7
  have N7 := Fr.app N6 N7q
  refine own_lift st7 ?_
  show own_Go p.tables e below (T7.setTop (mkF m 20 #[rv a1, iv 10, iv 0] [(.int 2)])) _
  have sg8 : ∀ t, Steps p.tables e below (T7.setTop (mkF m 36 #[rv a1, iv 10, iv 0] [(.int 2)])) t → Steps p.tables e below (T7.setTop (mkF m 20 #[rv a1, iv 10, iv 0] [(.int 2)])) t := by
    intro t k
    refine XS.goto X7.here hx rfl (pc0 := 20) (pc' := 36) rfl (hb hby d9_20) (by decide) (by decide) ?_
    show Steps p.tables e below (T7.setTop (mkF m 36 #[rv a1, iv 10, iv 0] [(.int 2)])) _
    exact k
  refine own_lift sg8 ?_
  show own_Go p.tables e below (T7.setTop (mkF m 36 #[rv a1, iv 10, iv 0] [(.int 2)])) _
  obtain ⟨fs, hr, hrun, hended, hW, hsame⟩ := X7.leave (v := some (.int 2)) (fun h => by rw [Bd.returns] at h; cases h)
  refine ⟨_, _, ?_, hrun, hended, _, _, rfl, ?_, ⟨_, rfl⟩, hW, hsame.mono (by decide) (by decide)⟩
  · exact retI X7 hx Bd.returns (hb hby d9_36) hr
  · show Q_rmIds2 Z a1 va kb b0 b1 b2 b3 cs h0 n0 _ T7.heap _
    rw [e7]
    exact ⟨rfl, N7, rfl⟩
def Q_rmIds3 (Z : State) (a1 : Addr) (va : Addr) (kb : ClassId) (b0 : Int32) (b1 : Int32) (b2 : Int32) (b3 : Int32) (cs : Int32) (h0 : Heap) (n0 : Nat) (v : Option Value) (h : Heap) (L : List Loc) : Prop := v = some (.int 3) ∧ Fr n0 L ∧ h = h0
theorem ef_rmIds3 (m : MethodId) (x0 : Addr) (x1 : Int32) (x2 : Int32) : entryFrame m #[(.ref x0), (.int 10), (.int 0)] 3 = mkF m 0 #[.val (.ref x0), .val (.int 10), .val (.int 0)] [] := by first | (simp [entryFrame, mkF, argsToLocals, Value.category]; done) | rfl
set_option maxRecDepth 65536 in
set_option maxHeartbeats 40000000 in
theorem rmIds3 (l : Launch) (Z : State) (a0 : Array Value) (hw : ∀ d ∈ tables_1, d.before a0 Z = true) (ws : List Jvm.Cond) (a1 : Addr) (va : Addr) (kb : ClassId) (b0 : Int32) (b1 : Int32) (b2 : Int32) (b3 : Int32) (cs : Int32) (h0 : Heap) (n0 : Nat) (Z0 : n0 ≤ h0.size) (Es : Exa Z h0 a1 STx) (Fsv : Fld Z h0 a1 STx "value" "[B" (.ref va)) (Fsc : Fld Z h0 a1 STx "coder" "B" (.int 0)) (Ars : Arv Z h0 va kb .byte (4 : Int32) [(.int b0), (.int b1), (.int b2), (.int b3)] (.int 0)) (Scs : Sta Z h0 STx "COMPACT_STRINGS" "Z" (.int cs)) (P_cs : ¬ (cs = (0 : Int32))) (d0 : ¬ (b0 = (10 : Int32))) (d1 : ¬ (b1 = (10 : Int32))) (d2 : ¬ (b2 = (10 : Int32))) (d3 : b3 = (10 : Int32)) :
    MetFree l (⟨STx, "indexOf", "(II)I"⟩ : MethodName) (head1 (Jvm.Cond.code (⟨STx, "indexOf", "(II)I"⟩ : MethodName) jdk_42_method_80_code 3 (some .int) :: ws) ({ frames := 2, cells := 0, slots := 0, locals := 32 } : Room)) (fun a U => a = #[(.ref a1), (.int 10), (.int 0)] ∧ Z.Warmed39 U.vm ∧ U.heap = h0) (fun _ _ _ _ _ => True) (fun _ U o U' => ∃ v L, o = .returned v ∧ Q_rmIds3 Z a1 va kb b0 b1 b2 b3 cs h0 n0 v U'.heap L ∧ FrameEnd U o U' L ({ frames := 2, cells := 0, slots := 0, locals := 32 } : Room).cells ({ frames := 2, cells := 0, slots := 0, locals := 32 } : Room).slots) := by
  refine MetFree.of_bodySF (plainFor_of_name pn_0) hisR ?_
  intro p e s m args below meth c s₁ Bd hml0 hP hK
  obtain ⟨rfl, hZ, hh⟩ := hP
  have hx := Bd.exec
  have hby := Bd.bytes
  have hml : c.maxLocals = 3 := hml0
  have hown : s.vm.findClass STx = some m.cls := findClass_of_methodNamed Bd.named
  have hnm := (name_of_methodNamed Bd.named Bd.method).1
  have X0 : Stand p l e ({ frames := 2, cells := 0, slots := 0, locals := 32 } : Room) s m #[(.ref a1), (.int 10), (.int 0)] below meth c s₁ [] 0 0 := Stand.of_body Bd
  have e0 : s₁.heap = h0 := by rw [← hh, Bd.state]; rfl
  have N0 := Fr.nil n0
  refine own_go (own_lift (fun t k => castTop (ef_rmIds3 m a1 (10 : Int32) (0 : Int32)) k) ?_)
  show own_Go p.tables e below (s₁.setTop (mkF m 0 #[rv a1, iv 10, iv 0] [])) _
  have sg1 : ∀ t, Steps p.tables e below (s₁.setTop (mkF m 1 #[rv a1, iv 10, iv 0] [(.ref a1)])) t → Steps p.tables e below (s₁.setTop (mkF m 0 #[rv a1, iv 10, iv 0] [])) t := by
    intro t k
    refine XS.aloadN X0.here hx rfl (hb hby d9_0) rfl rfl ?_
    show Steps p.tables e below (s₁.setTop (mkF m 1 #[rv a1, iv 10, iv 0] [(.ref a1)])) _
    exact k
  refine own_lift sg1 ?_
  show own_Go p.tables e below (s₁.setTop (mkF m 1 #[rv a1, iv 10, iv 0] [(.ref a1)])) _
  obtain ⟨cq2, kq2, q2a, q2b, q2c⟩ := isOf hZ e0 Es
  obtain ⟨_, _, ⟨T2, Lx2, kx2, nx2⟩, -, X2, ⟨Lc2, hQ2, lx2, yx2, zx2⟩, st2⟩ := X0.virtualBack hx (y := (⟨STx, "isLatin1", "()Z"⟩ : MethodName)) (z := (⟨STx, "isLatin1", "()Z"⟩ : MethodName)) hown (mvT hZ (wd hw 59 rfl)) (mvT hZ (wd hw 60 rfl)) (notFace_of_selects (args := #[]) (mvT hZ (wd hw 62 rfl))) (mvT hZ (wd hw 62 rfl)) (mvT hZ (wd hw 61 rfl)) (by decide) (backOf (W := 0) (rmLatin l Z a0 hw [] a1 cs h0 n0 Z0 Fsc Scs P_cs) hZ (wd hw 63 rfl) (wd hw 10 rfl) (by decide) (by decide)) q2a q2c (g := (mkF m 1 #[rv a1, iv 10, iv 0] [(.ref a1)])) rfl (by rw [hml]; rfl) (Steps.refl _) (argsL := []) (rest := []) (lenOf pd_4 rfl) rfl (by show 2 * 0 + _ ≤ _; exact Nat.le_of_eq rfl) (hb hby d9_1) (fun _ _ => ⟨rfl, e0, (by decide : 0 + 0 ≤ _), (by decide : 0 + 0 ≤ _)⟩)
  dsimp only [Pt.U, Pt.locs, Pt.cells, Pt.slots] at X2 lx2 yx2 zx2 st2 hQ2
  subst lx2 yx2 zx2
  obtain ⟨rfl, N2q, e2⟩ := hQ2
  have N2 := Fr.app N0 N2q
  refine own_lift (fun t k => st2.trans k) ?_
  show own_Go p.tables e below (T2.setTop (mkF m 4 #[rv a1, iv 10, iv 0] [(.int 1)])) _
  have sg3 : ∀ t, Steps p.tables e below (T2.setTop (mkF m 8 #[rv a1, iv 10, iv 0] [(.ref a1)])) t → Steps p.tables e below (T2.setTop (mkF m 4 #[rv a1, iv 10, iv 0] [(.int 1)])) t := by
    intro t k
    refine XS.ifNo X2.here hx rfl (hb hby d9_4) rfl ((if0 _ _).trans (feq (by decide : ¬ ((1 : Int32) = (0 : Int32)))).1) ?_
    show Steps p.tables e below (T2.setTop (mkF m 7 #[rv a1, iv 10, iv 0] [])) _
    refine XS.aloadN X2.here hx rfl (hb hby d9_7) rfl rfl ?_
    show Steps p.tables e below (T2.setTop (mkF m 8 #[rv a1, iv 10, iv 0] [(.ref a1)])) _
    exact k
  refine own_lift sg3 ?_
  show own_Go p.tables e below (T2.setTop (mkF m 8 #[rv a1, iv 10, iv 0] [(.ref a1)])) _
  obtain ⟨T4, X4, e4, st4⟩ := getF X2 hx hZ hown (host := "") (Or.inl (wd hw 35 rfl)) Via.refl e2 Fsv (g := (mkF m 8 #[rv a1, iv 10, iv 0] [(.ref a1)])) rfl rfl (hb hby d9_8)
  refine own_lift st4 ?_
  show own_Go p.tables e below (T4.setTop (mkF m 11 #[rv a1, iv 10, iv 0] [(.ref va)])) _
  have sg5 : ∀ t, Steps p.tables e below (T4.setTop (mkF m 14 #[rv a1, iv 10, iv 0] [(.ref a1), (.int 0), (.int 10), (.ref va)])) t → Steps p.tables e below (T4.setTop (mkF m 11 #[rv a1, iv 10, iv 0] [(.ref va)])) t := by
    intro t k
    refine XS.iloadN X4.here hx rfl (hb hby d9_11) rfl ?_
    show Steps p.tables e below (T4.setTop (mkF m 12 #[rv a1, iv 10, iv 0] [(.int 10), (.ref va)])) _
    refine XS.iloadN X4.here hx rfl (hb hby d9_12) rfl ?_
    refine XS.aloadN X4.here hx rfl (hb hby d9_13) rfl rfl ?_
    show Steps p.tables e below (T4.setTop (mkF m 14 #[rv a1, iv 10, iv 0] [(.ref a1), (.int 0), (.int 10), (.ref va)])) _
    exact k
  refine own_lift sg5 ?_
  show own_Go p.tables e below (T4.setTop (mkF m 14 #[rv a1, iv 10, iv 0] [(.ref a1), (.int 0), (.int 10), (.ref va)])) _
  obtain ⟨cq6, kq6, q6a, q6b, q6c⟩ := isOf hZ e4 Es
  obtain ⟨_, _, ⟨T6, Lx6, kx6, nx6⟩, -, X6, ⟨Lc6, hQ6, lx6, yx6, zx6⟩, st6⟩ := X4.virtualBack hx (y := (⟨STx, "length", "()I"⟩ : MethodName)) (z := (⟨STx, "length", "()I"⟩ : MethodName)) hown (mvT hZ (wd hw 64 rfl)) (mvT hZ (wd hw 65 rfl)) (notFace_of_selects (args := #[]) (mvT hZ (wd hw 67 rfl))) (mvT hZ (wd hw 67 rfl)) (mvT hZ (wd hw 66 rfl)) (by decide) (backOf (W := 3) (rmLen l Z a0 hw [] a1 va kb b0 b1 b2 b3 cs h0 n0 Z0 Es Fsv Fsc Ars Scs P_cs) hZ (wd hw 68 rfl) (wd hw 10 rfl) (by decide) (by decide)) q6a q6c (g := (mkF m 14 #[rv a1, iv 10, iv 0] [(.ref a1), (.int 0), (.int 10), (.ref va)])) rfl (by rw [hml]; rfl) (Steps.refl _) (argsL := []) (rest := [(.int 0), (.int 10), (.ref va)]) (lenOf pd_5 rfl) rfl (by show 2 * 0 + _ ≤ _; exact Nat.le_of_eq rfl) (hb hby d9_14) (fun _ _ => ⟨rfl, e4, (by decide : 0 + 0 ≤ _), (by decide : 0 + 0 ≤ _)⟩)
  dsimp only [Pt.U, Pt.locs, Pt.cells, Pt.slots] at X6 lx6 yx6 zx6 st6 hQ6
  subst lx6 yx6 zx6
  obtain ⟨rfl, N6q, e6⟩ := hQ6
  have N6 := Fr.app N2 N6q
  refine own_lift (fun t k => st6.trans k) ?_
  show own_Go p.tables e below (T6.setTop (mkF m 17 #[rv a1, iv 10, iv 0] [(.int 4), (.int 0), (.int 10), (.ref va)])) _
  obtain ⟨_, _, ⟨T7, Lx7, kx7, nx7⟩, -, X7, ⟨Lc7, hQ7, lx7, yx7, zx7⟩, st7⟩ := Jvm.LawKit.callS X6 hx (y := (⟨L1x, "indexOf", "([BIII)I"⟩ : MethodName)) hown (mvT hZ (wd hw 74 rfl)) (mvT hZ (wd hw 75 rfl)) (mvT hZ (wd hw 76 rfl)) (mvT hZ (wd hw 77 rfl)) (by decide) (backOf (W := 0) (rmIdl3 l Z a0 hw [] va kb b0 b1 b2 b3 h0 n0 Z0 Ars d0 d1 d2 d3) hZ (wd hw 77 rfl) (wd hw 76 rfl) (by decide) (by decide)) (g := (mkF m 17 #[rv a1, iv 10, iv 0] [(.int 4), (.int 0), (.int 10), (.ref va)])) rfl (by rw [hml]; rfl) (argsL := [(.ref va), (.int 10), (.int 0), (.int 4)]) (rest := []) (lenOf pd_3 rfl) rfl (by show 2 * 0 + _ ≤ _; exact Nat.le_of_eq rfl) (hb hby d9_17) (fun _ _ => ⟨rfl, e6, (by decide : 0 + 0 ≤ _), (by decide : 0 + 0 ≤ _)⟩)
  dsimp only [Pt.U, Pt.locs, Pt.cells, Pt.slots] at X7 lx7 yx7 zx7 st7 hQ7
  subst lx7 yx7 zx7
  obtain ⟨rfl, N7q, e7⟩ := hQ7
  have N7 := Fr.app N6 N7q
  refine own_lift st7 ?_
  show own_Go p.tables e below (T7.setTop (mkF m 20 #[rv a1, iv 10, iv 0] [(.int 3)])) _
  have sg8 : ∀ t, Steps p.tables e below (T7.setTop (mkF m 36 #[rv a1, iv 10, iv 0] [(.int 3)])) t → Steps p.tables e below (T7.setTop (mkF m 20 #[rv a1, iv 10, iv 0] [(.int 3)])) t := by
    intro t k
    refine XS.goto X7.here hx rfl (pc0 := 20) (pc' := 36) rfl (hb hby d9_20) (by decide) (by decide) ?_
    show Steps p.tables e below (T7.setTop (mkF m 36 #[rv a1, iv 10, iv 0] [(.int 3)])) _
    exact k
  refine own_lift sg8 ?_
  show own_Go p.tables e below (T7.setTop (mkF m 36 #[rv a1, iv 10, iv 0] [(.int 3)])) _
  obtain ⟨fs, hr, hrun, hended, hW, hsame⟩ := X7.leave (v := some (.int 3)) (fun h => by rw [Bd.returns] at h; cases h)
  refine ⟨_, _, ?_, hrun, hended, _, _, rfl, ?_, ⟨_, rfl⟩, hW, hsame.mono (by decide) (by decide)⟩
  · exact retI X7 hx Bd.returns (hb hby d9_36) hr
  · show Q_rmIds3 Z a1 va kb b0 b1 b2 b3 cs h0 n0 _ T7.heap _
    rw [e7]
    exact ⟨rfl, N7, rfl⟩
def Q_rmIdsn (Z : State) (a1 : Addr) (va : Addr) (kb : ClassId) (b0 : Int32) (b1 : Int32) (b2 : Int32) (b3 : Int32) (cs : Int32) (h0 : Heap) (n0 : Nat) (v : Option Value) (h : Heap) (L : List Loc) : Prop := v = some (.int (-1)) ∧ Fr n0 L ∧ h = h0
theorem ef_rmIdsn (m : MethodId) (x0 : Addr) (x1 : Int32) (x2 : Int32) : entryFrame m #[(.ref x0), (.int 10), (.int 0)] 3 = mkF m 0 #[.val (.ref x0), .val (.int 10), .val (.int 0)] [] := by first | (simp [entryFrame, mkF, argsToLocals, Value.category]; done) | rfl
set_option maxRecDepth 65536 in
set_option maxHeartbeats 40000000 in
theorem rmIdsn (l : Launch) (Z : State) (a0 : Array Value) (hw : ∀ d ∈ tables_1, d.before a0 Z = true) (ws : List Jvm.Cond) (a1 : Addr) (va : Addr) (kb : ClassId) (b0 : Int32) (b1 : Int32) (b2 : Int32) (b3 : Int32) (cs : Int32) (h0 : Heap) (n0 : Nat) (Z0 : n0 ≤ h0.size) (Es : Exa Z h0 a1 STx) (Fsv : Fld Z h0 a1 STx "value" "[B" (.ref va)) (Fsc : Fld Z h0 a1 STx "coder" "B" (.int 0)) (Ars : Arv Z h0 va kb .byte (4 : Int32) [(.int b0), (.int b1), (.int b2), (.int b3)] (.int 0)) (Scs : Sta Z h0 STx "COMPACT_STRINGS" "Z" (.int cs)) (P_cs : ¬ (cs = (0 : Int32))) (d0 : ¬ (b0 = (10 : Int32))) (d1 : ¬ (b1 = (10 : Int32))) (d2 : ¬ (b2 = (10 : Int32))) (d3 : ¬ (b3 = (10 : Int32))) :
    MetFree l (⟨STx, "indexOf", "(II)I"⟩ : MethodName) (head1 (Jvm.Cond.code (⟨STx, "indexOf", "(II)I"⟩ : MethodName) jdk_42_method_80_code 3 (some .int) :: ws) ({ frames := 2, cells := 0, slots := 0, locals := 32 } : Room)) (fun a U => a = #[(.ref a1), (.int 10), (.int 0)] ∧ Z.Warmed39 U.vm ∧ U.heap = h0) (fun _ _ _ _ _ => True) (fun _ U o U' => ∃ v L, o = .returned v ∧ Q_rmIdsn Z a1 va kb b0 b1 b2 b3 cs h0 n0 v U'.heap L ∧ FrameEnd U o U' L ({ frames := 2, cells := 0, slots := 0, locals := 32 } : Room).cells ({ frames := 2, cells := 0, slots := 0, locals := 32 } : Room).slots) := by
  refine MetFree.of_bodySF (plainFor_of_name pn_0) hisR ?_
  intro p e s m args below meth c s₁ Bd hml0 hP hK
  obtain ⟨rfl, hZ, hh⟩ := hP
  have hx := Bd.exec
  have hby := Bd.bytes
  have hml : c.maxLocals = 3 := hml0
  have hown : s.vm.findClass STx = some m.cls := findClass_of_methodNamed Bd.named
  have hnm := (name_of_methodNamed Bd.named Bd.method).1
  have X0 : Stand p l e ({ frames := 2, cells := 0, slots := 0, locals := 32 } : Room) s m #[(.ref a1), (.int 10), (.int 0)] below meth c s₁ [] 0 0 := Stand.of_body Bd
  have e0 : s₁.heap = h0 := by rw [← hh, Bd.state]; rfl
  have N0 := Fr.nil n0
  refine own_go (own_lift (fun t k => castTop (ef_rmIdsn m a1 (10 : Int32) (0 : Int32)) k) ?_)
  show own_Go p.tables e below (s₁.setTop (mkF m 0 #[rv a1, iv 10, iv 0] [])) _
  have sg1 : ∀ t, Steps p.tables e below (s₁.setTop (mkF m 1 #[rv a1, iv 10, iv 0] [(.ref a1)])) t → Steps p.tables e below (s₁.setTop (mkF m 0 #[rv a1, iv 10, iv 0] [])) t := by
    intro t k
    refine XS.aloadN X0.here hx rfl (hb hby d9_0) rfl rfl ?_
    show Steps p.tables e below (s₁.setTop (mkF m 1 #[rv a1, iv 10, iv 0] [(.ref a1)])) _
    exact k
  refine own_lift sg1 ?_
  show own_Go p.tables e below (s₁.setTop (mkF m 1 #[rv a1, iv 10, iv 0] [(.ref a1)])) _
  obtain ⟨cq2, kq2, q2a, q2b, q2c⟩ := isOf hZ e0 Es
  obtain ⟨_, _, ⟨T2, Lx2, kx2, nx2⟩, -, X2, ⟨Lc2, hQ2, lx2, yx2, zx2⟩, st2⟩ := X0.virtualBack hx (y := (⟨STx, "isLatin1", "()Z"⟩ : MethodName)) (z := (⟨STx, "isLatin1", "()Z"⟩ : MethodName)) hown (mvT hZ (wd hw 59 rfl)) (mvT hZ (wd hw 60 rfl)) (notFace_of_selects (args := #[]) (mvT hZ (wd hw 62 rfl))) (mvT hZ (wd hw 62 rfl)) (mvT hZ (wd hw 61 rfl)) (by decide) (backOf (W := 0) (rmLatin l Z a0 hw [] a1 cs h0 n0 Z0 Fsc Scs P_cs) hZ (wd hw 63 rfl) (wd hw 10 rfl) (by decide) (by decide)) q2a q2c (g := (mkF m 1 #[rv a1, iv 10, iv 0] [(.ref a1)])) rfl (by rw [hml]; rfl) (Steps.refl _) (argsL := []) (rest := []) (lenOf pd_4 rfl) rfl (by show 2 * 0 + _ ≤ _; exact Nat.le_of_eq rfl) (hb hby d9_1) (fun _ _ => ⟨rfl, e0, (by decide : 0 + 0 ≤ _), (by decide : 0 + 0 ≤ _)⟩)
  dsimp only [Pt.U, Pt.locs, Pt.cells, Pt.slots] at X2 lx2 yx2 zx2 st2 hQ2
  subst lx2 yx2 zx2
  obtain ⟨rfl, N2q, e2⟩ := hQ2
  have N2 := Fr.app N0 N2q
  refine own_lift (fun t k => st2.trans k) ?_
  show own_Go p.tables e below (T2.setTop (mkF m 4 #[rv a1, iv 10, iv 0] [(.int 1)])) _
  have sg3 : ∀ t, Steps p.tables e below (T2.setTop (mkF m 8 #[rv a1, iv 10, iv 0] [(.ref a1)])) t → Steps p.tables e below (T2.setTop (mkF m 4 #[rv a1, iv 10, iv 0] [(.int 1)])) t := by
    intro t k
    refine XS.ifNo X2.here hx rfl (hb hby d9_4) rfl ((if0 _ _).trans (feq (by decide : ¬ ((1 : Int32) = (0 : Int32)))).1) ?_
    show Steps p.tables e below (T2.setTop (mkF m 7 #[rv a1, iv 10, iv 0] [])) _
    refine XS.aloadN X2.here hx rfl (hb hby d9_7) rfl rfl ?_
    show Steps p.tables e below (T2.setTop (mkF m 8 #[rv a1, iv 10, iv 0] [(.ref a1)])) _
    exact k
  refine own_lift sg3 ?_
  show own_Go p.tables e below (T2.setTop (mkF m 8 #[rv a1, iv 10, iv 0] [(.ref a1)])) _
  obtain ⟨T4, X4, e4, st4⟩ := getF X2 hx hZ hown (host := "") (Or.inl (wd hw 35 rfl)) Via.refl e2 Fsv (g := (mkF m 8 #[rv a1, iv 10, iv 0] [(.ref a1)])) rfl rfl (hb hby d9_8)
  refine own_lift st4 ?_
  show own_Go p.tables e below (T4.setTop (mkF m 11 #[rv a1, iv 10, iv 0] [(.ref va)])) _
  have sg5 : ∀ t, Steps p.tables e below (T4.setTop (mkF m 14 #[rv a1, iv 10, iv 0] [(.ref a1), (.int 0), (.int 10), (.ref va)])) t → Steps p.tables e below (T4.setTop (mkF m 11 #[rv a1, iv 10, iv 0] [(.ref va)])) t := by
    intro t k
    refine XS.iloadN X4.here hx rfl (hb hby d9_11) rfl ?_
    show Steps p.tables e below (T4.setTop (mkF m 12 #[rv a1, iv 10, iv 0] [(.int 10), (.ref va)])) _
    refine XS.iloadN X4.here hx rfl (hb hby d9_12) rfl ?_
    refine XS.aloadN X4.here hx rfl (hb hby d9_13) rfl rfl ?_
    show Steps p.tables e below (T4.setTop (mkF m 14 #[rv a1, iv 10, iv 0] [(.ref a1), (.int 0), (.int 10), (.ref va)])) _
    exact k
  refine own_lift sg5 ?_
  show own_Go p.tables e below (T4.setTop (mkF m 14 #[rv a1, iv 10, iv 0] [(.ref a1), (.int 0), (.int 10), (.ref va)])) _
  obtain ⟨cq6, kq6, q6a, q6b, q6c⟩ := isOf hZ e4 Es
  obtain ⟨_, _, ⟨T6, Lx6, kx6, nx6⟩, -, X6, ⟨Lc6, hQ6, lx6, yx6, zx6⟩, st6⟩ := X4.virtualBack hx (y := (⟨STx, "length", "()I"⟩ : MethodName)) (z := (⟨STx, "length", "()I"⟩ : MethodName)) hown (mvT hZ (wd hw 64 rfl)) (mvT hZ (wd hw 65 rfl)) (notFace_of_selects (args := #[]) (mvT hZ (wd hw 67 rfl))) (mvT hZ (wd hw 67 rfl)) (mvT hZ (wd hw 66 rfl)) (by decide) (backOf (W := 3) (rmLen l Z a0 hw [] a1 va kb b0 b1 b2 b3 cs h0 n0 Z0 Es Fsv Fsc Ars Scs P_cs) hZ (wd hw 68 rfl) (wd hw 10 rfl) (by decide) (by decide)) q6a q6c (g := (mkF m 14 #[rv a1, iv 10, iv 0] [(.ref a1), (.int 0), (.int 10), (.ref va)])) rfl (by rw [hml]; rfl) (Steps.refl _) (argsL := []) (rest := [(.int 0), (.int 10), (.ref va)]) (lenOf pd_5 rfl) rfl (by show 2 * 0 + _ ≤ _; exact Nat.le_of_eq rfl) (hb hby d9_14) (fun _ _ => ⟨rfl, e4, (by decide : 0 + 0 ≤ _), (by decide : 0 + 0 ≤ _)⟩)
  dsimp only [Pt.U, Pt.locs, Pt.cells, Pt.slots] at X6 lx6 yx6 zx6 st6 hQ6
  subst lx6 yx6 zx6
  obtain ⟨rfl, N6q, e6⟩ := hQ6
  have N6 := Fr.app N2 N6q
  refine own_lift (fun t k => st6.trans k) ?_
  show own_Go p.tables e below (T6.setTop (mkF m 17 #[rv a1, iv 10, iv 0] [(.int 4), (.int 0), (.int 10), (.ref va)])) _
  obtain ⟨_, _, ⟨T7, Lx7, kx7, nx7⟩, -, X7, ⟨Lc7, hQ7, lx7, yx7, zx7⟩, st7⟩ := Jvm.LawKit.callS X6 hx (y := (⟨L1x, "indexOf", "([BIII)I"⟩ : MethodName)) hown (mvT hZ (wd hw 74 rfl)) (mvT hZ (wd hw 75 rfl)) (mvT hZ (wd hw 76 rfl)) (mvT hZ (wd hw 77 rfl)) (by decide) (backOf (W := 0) (rmIdln l Z a0 hw [] va kb b0 b1 b2 b3 h0 n0 Z0 Ars d0 d1 d2 d3) hZ (wd hw 77 rfl) (wd hw 76 rfl) (by decide) (by decide)) (g := (mkF m 17 #[rv a1, iv 10, iv 0] [(.int 4), (.int 0), (.int 10), (.ref va)])) rfl (by rw [hml]; rfl) (argsL := [(.ref va), (.int 10), (.int 0), (.int 4)]) (rest := []) (lenOf pd_3 rfl) rfl (by show 2 * 0 + _ ≤ _; exact Nat.le_of_eq rfl) (hb hby d9_17) (fun _ _ => ⟨rfl, e6, (by decide : 0 + 0 ≤ _), (by decide : 0 + 0 ≤ _)⟩)
  dsimp only [Pt.U, Pt.locs, Pt.cells, Pt.slots] at X7 lx7 yx7 zx7 st7 hQ7
  subst lx7 yx7 zx7
  obtain ⟨rfl, N7q, e7⟩ := hQ7
  have N7 := Fr.app N6 N7q
  refine own_lift st7 ?_
  show own_Go p.tables e below (T7.setTop (mkF m 20 #[rv a1, iv 10, iv 0] [(.int (-1))])) _
  have sg8 : ∀ t, Steps p.tables e below (T7.setTop (mkF m 36 #[rv a1, iv 10, iv 0] [(.int (-1))])) t → Steps p.tables e below (T7.setTop (mkF m 20 #[rv a1, iv 10, iv 0] [(.int (-1))])) t := by
    intro t k
    refine XS.goto X7.here hx rfl (pc0 := 20) (pc' := 36) rfl (hb hby d9_20) (by decide) (by decide) ?_
    show Steps p.tables e below (T7.setTop (mkF m 36 #[rv a1, iv 10, iv 0] [(.int (-1))])) _
    exact k
  refine own_lift sg8 ?_
  show own_Go p.tables e below (T7.setTop (mkF m 36 #[rv a1, iv 10, iv 0] [(.int (-1))])) _
  obtain ⟨fs, hr, hrun, hended, hW, hsame⟩ := X7.leave (v := some (.int (-1))) (fun h => by rw [Bd.returns] at h; cases h)
  refine ⟨_, _, ?_, hrun, hended, _, _, rfl, ?_, ⟨_, rfl⟩, hW, hsame.mono (by decide) (by decide)⟩
  · exact retI X7 hx Bd.returns (hb hby d9_36) hr
  · show Q_rmIdsn Z a1 va kb b0 b1 b2 b3 cs h0 n0 _ T7.heap _
    rw [e7]
    exact ⟨rfl, N7, rfl⟩
theorem pn_2 : plainName PCx = true := by first | (simp [plainName, overriddenIn]; done) | decide +kernel
theorem d10_0 : decode jdk_41_method_12_code 0 = .ok (.iload_n 0, 1) := by decide +kernel
theorem d10_1 : decode jdk_41_method_12_code 1 = .ok (.ifCond .lt 13, 3) := by decide +kernel
theorem d10_4 : decode jdk_41_method_12_code 4 = .ok (.iload_n 0, 1) := by decide +kernel
theorem d10_5 : decode jdk_41_method_12_code 5 = .ok (.iload_n 1, 1) := by decide +kernel
theorem d10_6 : decode jdk_41_method_12_code 6 = .ok (.if_icmp .gt 8, 3) := by decide +kernel
theorem d10_9 : decode jdk_41_method_12_code 9 = .ok (.iload_n 1, 1) := by decide +kernel
theorem d10_10 : decode jdk_41_method_12_code 10 = .ok (.iload_n 2, 1) := by decide +kernel
theorem d10_11 : decode jdk_41_method_12_code 11 = .ok (.if_icmp .le 11, 3) := by decide +kernel
theorem d10_22 : decode jdk_41_method_12_code 22 = .ok (.iload_n 0, 1) := by decide +kernel
theorem d10_23 : decode jdk_41_method_12_code 23 = .ok (.ireturn, 1) := by decide +kernel
def Q_rmCft (Z : State) (p1 : Int32) (p2 : Int32) (p3 : Int32) (h0 : Heap) (n0 : Nat) (v : Option Value) (h : Heap) (L : List Loc) : Prop := v = some (.int p1) ∧ Fr n0 L ∧ h = h0
theorem ef_rmCft (m : MethodId) (x0 : Int32) (x1 : Int32) (x2 : Int32) : entryFrame m #[(.int x0), (.int x1), (.int x2), .null] 4 = mkF m 0 #[.val (.int x0), .val (.int x1), .val (.int x2), .val .null] [] := by first | (simp [entryFrame, mkF, argsToLocals, Value.category]; done) | rfl
set_option maxRecDepth 65536 in
set_option maxHeartbeats 40000000 in
theorem rmCft (l : Launch) (Z : State) (a0 : Array Value) (hw : ∀ d ∈ tables_1, d.before a0 Z = true) (ws : List Jvm.Cond) (p1 : Int32) (p2 : Int32) (p3 : Int32) (h0 : Heap) (n0 : Nat) (Z0 : n0 ≤ h0.size)  (c1 : ¬ (p1 < (0 : Int32))) (c2 : ¬ (p2 < p1)) (c3 : ¬ (p3 < p2)) :
    MetFree l (⟨PCx, "checkFromToIndex", "(IIILjava/util/function/BiFunction;)I"⟩ : MethodName) (head1 (Jvm.Cond.code (⟨PCx, "checkFromToIndex", "(IIILjava/util/function/BiFunction;)I"⟩ : MethodName) jdk_41_method_12_code 4 (some .int) :: ws) ({ frames := 0, cells := 0, slots := 0, locals := 0 } : Room)) (fun a U => a = #[(.int p1), (.int p2), (.int p3), .null] ∧ Z.Warmed39 U.vm ∧ U.heap = h0) (fun _ _ _ _ _ => True) (fun _ U o U' => ∃ v L, o = .returned v ∧ Q_rmCft Z p1 p2 p3 h0 n0 v U'.heap L ∧ FrameEnd U o U' L ({ frames := 0, cells := 0, slots := 0, locals := 0 } : Room).cells ({ frames := 0, cells := 0, slots := 0, locals := 0 } : Room).slots) := by
  refine MetFree.of_bodySF (plainFor_of_name pn_2) hisR ?_
  intro p e s m args below meth c s₁ Bd hml0 hP hK
  obtain ⟨rfl, hZ, hh⟩ := hP
  have hx := Bd.exec
  have hby := Bd.bytes
  have hml : c.maxLocals = 4 := hml0
  have hown : s.vm.findClass PCx = some m.cls := findClass_of_methodNamed Bd.named
  have hnm := (name_of_methodNamed Bd.named Bd.method).1
  have X0 : Stand p l e ({ frames := 0, cells := 0, slots := 0, locals := 0 } : Room) s m #[(.int p1), (.int p2), (.int p3), .null] below meth c s₁ [] 0 0 := Stand.of_body Bd
  have e0 : s₁.heap = h0 := by rw [← hh, Bd.state]; rfl
  have N0 := Fr.nil n0
  refine own_go (own_lift (fun t k => castTop (ef_rmCft m p1 p2 p3) k) ?_)
  show own_Go p.tables e below (s₁.setTop (mkF m 0 #[iv p1, iv p2, iv p3, .val .null] [])) _
  have sg1 : ∀ t, Steps p.tables e below (s₁.setTop (mkF m 23 #[iv p1, iv p2, iv p3, .val .null] [(.int p1)])) t → Steps p.tables e below (s₁.setTop (mkF m 0 #[iv p1, iv p2, iv p3, .val .null] [])) t := by
    intro t k
    refine XS.iloadN X0.here hx rfl (hb hby d10_0) rfl ?_
    show Steps p.tables e below (s₁.setTop (mkF m 1 #[iv p1, iv p2, iv p3, .val .null] [(.int p1)])) _
    refine XS.ifNo X0.here hx rfl (hb hby d10_1) rfl ((if0 _ _).trans (flt c1).1) ?_
    refine XS.iloadN X0.here hx rfl (hb hby d10_4) rfl ?_
    refine XS.iloadN X0.here hx rfl (hb hby d10_5) rfl ?_
    show Steps p.tables e below (s₁.setTop (mkF m 6 #[iv p1, iv p2, iv p3, .val .null] [(.int p2), (.int p1)])) _
    refine XS.icmpNo X0.here hx rfl (hb hby d10_6) rfl (flt c2).2.2.1 ?_
    refine XS.iloadN X0.here hx rfl (hb hby d10_9) rfl ?_
    refine XS.iloadN X0.here hx rfl (hb hby d10_10) rfl ?_
    show Steps p.tables e below (s₁.setTop (mkF m 11 #[iv p1, iv p2, iv p3, .val .null] [(.int p3), (.int p2)])) _
    refine XS.icmpYes X0.here hx rfl (pc0 := 11) (pc' := 22) rfl (hb hby d10_11) rfl (flt c3).2.2.2 (by decide) (by decide) ?_
    refine XS.iloadN X0.here hx rfl (hb hby d10_22) rfl ?_
    show Steps p.tables e below (s₁.setTop (mkF m 23 #[iv p1, iv p2, iv p3, .val .null] [(.int p1)])) _
    exact k
  refine own_lift sg1 ?_
  show own_Go p.tables e below (s₁.setTop (mkF m 23 #[iv p1, iv p2, iv p3, .val .null] [(.int p1)])) _
  obtain ⟨fs, hr, hrun, hended, hW, hsame⟩ := X0.leave (v := some (.int p1)) (fun h => by rw [Bd.returns] at h; cases h)
  refine ⟨_, _, ?_, hrun, hended, _, _, rfl, ?_, ⟨_, rfl⟩, hW, hsame.mono (by decide) (by decide)⟩
  · exact retI X0 hx Bd.returns (hb hby d10_23) hr
  · show Q_rmCft Z p1 p2 p3 h0 n0 _ s₁.heap _
    rw [e0]
    exact ⟨rfl, N0, rfl⟩
theorem pn_3 : plainName "java/util/Objects" = true := by first | (simp [plainName, overriddenIn]; done) | decide +kernel
theorem d11_0 : decode jdk_31_method_18_code 0 = .ok (.iload_n 0, 1) := by decide +kernel
theorem d11_1 : decode jdk_31_method_18_code 1 = .ok (.iload_n 1, 1) := by decide +kernel
theorem d11_2 : decode jdk_31_method_18_code 2 = .ok (.iload_n 2, 1) := by decide +kernel
theorem d11_3 : decode jdk_31_method_18_code 3 = .ok (.aconst_null, 1) := by decide +kernel
theorem d11_4 : decode jdk_31_method_18_code 4 = .ok (.invokestatic 111, 3) := by decide +kernel
theorem pd_6 : parseMethodDescriptor "(IIILjava/util/function/BiFunction;)I" = some ⟨[.int, .int, .int, (.object "java/util/function/BiFunction")], some .int⟩ := by decide +kernel
theorem d11_7 : decode jdk_31_method_18_code 7 = .ok (.ireturn, 1) := by decide +kernel
def Q_rmOft (Z : State) (p1 : Int32) (p2 : Int32) (p3 : Int32) (h0 : Heap) (n0 : Nat) (v : Option Value) (h : Heap) (L : List Loc) : Prop := v = some (.int p1) ∧ Fr n0 L ∧ h = h0
theorem ef_rmOft (m : MethodId) (x0 : Int32) (x1 : Int32) (x2 : Int32) : entryFrame m #[(.int x0), (.int x1), (.int x2)] 3 = mkF m 0 #[.val (.int x0), .val (.int x1), .val (.int x2)] [] := by first | (simp [entryFrame, mkF, argsToLocals, Value.category]; done) | rfl
set_option maxRecDepth 65536 in
set_option maxHeartbeats 40000000 in
theorem rmOft (l : Launch) (Z : State) (a0 : Array Value) (hw : ∀ d ∈ tables_1, d.before a0 Z = true) (ws : List Jvm.Cond) (p1 : Int32) (p2 : Int32) (p3 : Int32) (h0 : Heap) (n0 : Nat) (Z0 : n0 ≤ h0.size)  (c1 : ¬ (p1 < (0 : Int32))) (c2 : ¬ (p2 < p1)) (c3 : ¬ (p3 < p2)) :
    MetFree l (⟨"java/util/Objects", "checkFromToIndex", "(III)I"⟩ : MethodName) (head1 (Jvm.Cond.code (⟨"java/util/Objects", "checkFromToIndex", "(III)I"⟩ : MethodName) jdk_31_method_18_code 3 (some .int) :: ws) ({ frames := 1, cells := 0, slots := 0, locals := 15 } : Room)) (fun a U => a = #[(.int p1), (.int p2), (.int p3)] ∧ Z.Warmed39 U.vm ∧ U.heap = h0) (fun _ _ _ _ _ => True) (fun _ U o U' => ∃ v L, o = .returned v ∧ Q_rmOft Z p1 p2 p3 h0 n0 v U'.heap L ∧ FrameEnd U o U' L ({ frames := 1, cells := 0, slots := 0, locals := 15 } : Room).cells ({ frames := 1, cells := 0, slots := 0, locals := 15 } : Room).slots) := by
  refine MetFree.of_bodySF (plainFor_of_name pn_3) hisR ?_
  intro p e s m args below meth c s₁ Bd hml0 hP hK
  obtain ⟨rfl, hZ, hh⟩ := hP
  have hx := Bd.exec
  have hby := Bd.bytes
  have hml : c.maxLocals = 3 := hml0
  have hown : s.vm.findClass "java/util/Objects" = some m.cls := findClass_of_methodNamed Bd.named
  have hnm := (name_of_methodNamed Bd.named Bd.method).1
  have X0 : Stand p l e ({ frames := 1, cells := 0, slots := 0, locals := 15 } : Room) s m #[(.int p1), (.int p2), (.int p3)] below meth c s₁ [] 0 0 := Stand.of_body Bd
  have e0 : s₁.heap = h0 := by rw [← hh, Bd.state]; rfl
  have N0 := Fr.nil n0
  refine own_go (own_lift (fun t k => castTop (ef_rmOft m p1 p2 p3) k) ?_)
  show own_Go p.tables e below (s₁.setTop (mkF m 0 #[iv p1, iv p2, iv p3] [])) _
  have sg1 : ∀ t, Steps p.tables e below (s₁.setTop (mkF m 4 #[iv p1, iv p2, iv p3] [.null, (.int p3), (.int p2), (.int p1)])) t → Steps p.tables e below (s₁.setTop (mkF m 0 #[iv p1, iv p2, iv p3] [])) t := by
    intro t k
    refine XS.iloadN X0.here hx rfl (hb hby d11_0) rfl ?_
    show Steps p.tables e below (s₁.setTop (mkF m 1 #[iv p1, iv p2, iv p3] [(.int p1)])) _
    refine XS.iloadN X0.here hx rfl (hb hby d11_1) rfl ?_
    refine XS.iloadN X0.here hx rfl (hb hby d11_2) rfl ?_
    refine XS.aconstNull X0.here hx rfl (hb hby d11_3) ?_
    show Steps p.tables e below (s₁.setTop (mkF m 4 #[iv p1, iv p2, iv p3] [.null, (.int p3), (.int p2), (.int p1)])) _
    exact k
  refine own_lift sg1 ?_
  show own_Go p.tables e below (s₁.setTop (mkF m 4 #[iv p1, iv p2, iv p3] [.null, (.int p3), (.int p2), (.int p1)])) _
  obtain ⟨_, _, ⟨T2, Lx2, kx2, nx2⟩, -, X2, ⟨Lc2, hQ2, lx2, yx2, zx2⟩, st2⟩ := Jvm.LawKit.callS X0 hx (y := (⟨PCx, "checkFromToIndex", "(IIILjava/util/function/BiFunction;)I"⟩ : MethodName)) hown (mvT hZ (wd hw 104 rfl)) (mvT hZ (wd hw 105 rfl)) (mvT hZ (wd hw 106 rfl)) (mvT hZ (wd hw 107 rfl)) (by decide) (backOf (W := 0) (rmCft l Z a0 hw [] p1 p2 p3 h0 n0 Z0 c1 c2 c3) hZ (wd hw 107 rfl) (wd hw 106 rfl) (by decide) (by decide)) (g := (mkF m 4 #[iv p1, iv p2, iv p3] [.null, (.int p3), (.int p2), (.int p1)])) rfl (by rw [hml]; rfl) (argsL := [(.int p1), (.int p2), (.int p3), .null]) (rest := []) (lenOf pd_6 rfl) rfl (by show 2 * 0 + _ ≤ _; exact Nat.le_of_eq rfl) (hb hby d11_4) (fun _ _ => ⟨rfl, e0, (by decide : 0 + 0 ≤ _), (by decide : 0 + 0 ≤ _)⟩)
  dsimp only [Pt.U, Pt.locs, Pt.cells, Pt.slots] at X2 lx2 yx2 zx2 st2 hQ2
  subst lx2 yx2 zx2
  obtain ⟨rfl, N2q, e2⟩ := hQ2
  have N2 := Fr.app N0 N2q
  refine own_lift st2 ?_
  show own_Go p.tables e below (T2.setTop (mkF m 7 #[iv p1, iv p2, iv p3] [(.int p1)])) _
  obtain ⟨fs, hr, hrun, hended, hW, hsame⟩ := X2.leave (v := some (.int p1)) (fun h => by rw [Bd.returns] at h; cases h)
  refine ⟨_, _, ?_, hrun, hended, _, _, rfl, ?_, ⟨_, rfl⟩, hW, hsame.mono (by decide) (by decide)⟩
  · exact retI X2 hx Bd.returns (hb hby d11_7) hr
  · show Q_rmOft Z p1 p2 p3 h0 n0 _ T2.heap _
    rw [e2]
    exact ⟨rfl, N2, rfl⟩
theorem d12_0 : decode jdk_42_method_59_code 0 = .ok (.iload_n 1, 1) := by decide +kernel
theorem d12_1 : decode jdk_42_method_59_code 1 = .ok (.iload_n 2, 1) := by decide +kernel
theorem d12_2 : decode jdk_42_method_59_code 2 = .ok (.aload_n 0, 1) := by decide +kernel
theorem d12_3 : decode jdk_42_method_59_code 3 = .ok (.invokevirtual 505, 3) := by decide +kernel
theorem d12_6 : decode jdk_42_method_59_code 6 = .ok (.invokestatic 511, 3) := by decide +kernel
theorem pd_7 : parseMethodDescriptor "(III)I" = some ⟨[.int, .int, .int], some .int⟩ := by decide +kernel
theorem d12_9 : decode jdk_42_method_59_code 9 = .ok (.pop, 1) := by decide +kernel
theorem d12_10 : decode jdk_42_method_59_code 10 = .ok (.aload_n 0, 1) := by decide +kernel
theorem d12_11 : decode jdk_42_method_59_code 11 = .ok (.invokevirtual 492, 3) := by decide +kernel
theorem d12_14 : decode jdk_42_method_59_code 14 = .ok (.ifCond .eq 7, 3) := by decide +kernel
theorem d12_17 : decode jdk_42_method_59_code 17 = .ok (.iload_n 2, 1) := by decide +kernel
theorem d12_18 : decode jdk_42_method_59_code 18 = .ok (.iload_n 1, 1) := by decide +kernel
theorem d12_19 : decode jdk_42_method_59_code 19 = .ok (.isub, 1) := by decide +kernel
theorem d12_20 : decode jdk_42_method_59_code 20 = .ok (.ireturn, 1) := by decide +kernel
def Q_rmCpc (Z : State) (a1 : Addr) (p1 : Int32) (p2 : Int32) (va : Addr) (kb : ClassId) (b0 : Int32) (b1 : Int32) (b2 : Int32) (b3 : Int32) (cs : Int32) (h0 : Heap) (n0 : Nat) (v : Option Value) (h : Heap) (L : List Loc) : Prop := v = some (.int (p2 - p1)) ∧ Fr n0 L ∧ h = h0
theorem ef_rmCpc (m : MethodId) (x0 : Addr) (x1 : Int32) (x2 : Int32) : entryFrame m #[(.ref x0), (.int x1), (.int x2)] 3 = mkF m 0 #[.val (.ref x0), .val (.int x1), .val (.int x2)] [] := by first | (simp [entryFrame, mkF, argsToLocals, Value.category]; done) | rfl
set_option maxRecDepth 65536 in
set_option maxHeartbeats 40000000 in
theorem rmCpc (l : Launch) (Z : State) (a0 : Array Value) (hw : ∀ d ∈ tables_1, d.before a0 Z = true) (ws : List Jvm.Cond) (a1 : Addr) (p1 : Int32) (p2 : Int32) (va : Addr) (kb : ClassId) (b0 : Int32) (b1 : Int32) (b2 : Int32) (b3 : Int32) (cs : Int32) (h0 : Heap) (n0 : Nat) (Z0 : n0 ≤ h0.size) (Es : Exa Z h0 a1 STx) (Fsv : Fld Z h0 a1 STx "value" "[B" (.ref va)) (Fsc : Fld Z h0 a1 STx "coder" "B" (.int 0)) (Ars : Arv Z h0 va kb .byte (4 : Int32) [(.int b0), (.int b1), (.int b2), (.int b3)] (.int 0)) (Scs : Sta Z h0 STx "COMPACT_STRINGS" "Z" (.int cs)) (P_cs : ¬ (cs = (0 : Int32))) (c1 : ¬ (p1 < (0 : Int32))) (c2 : ¬ (p2 < p1)) (c3 : ¬ ((4 : Int32) < p2)) :
    MetFree l (⟨STx, "codePointCount", "(II)I"⟩ : MethodName) (head1 (Jvm.Cond.code (⟨STx, "codePointCount", "(II)I"⟩ : MethodName) jdk_42_method_59_code 3 (some .int) :: ws) ({ frames := 2, cells := 0, slots := 0, locals := 29 } : Room)) (fun a U => a = #[(.ref a1), (.int p1), (.int p2)] ∧ Z.Warmed39 U.vm ∧ U.heap = h0) (fun _ _ _ _ _ => True) (fun _ U o U' => ∃ v L, o = .returned v ∧ Q_rmCpc Z a1 p1 p2 va kb b0 b1 b2 b3 cs h0 n0 v U'.heap L ∧ FrameEnd U o U' L ({ frames := 2, cells := 0, slots := 0, locals := 29 } : Room).cells ({ frames := 2, cells := 0, slots := 0, locals := 29 } : Room).slots) := by
  refine MetFree.of_bodySF (plainFor_of_name pn_0) hisR ?_
  intro p e s m args below meth c s₁ Bd hml0 hP hK
  obtain ⟨rfl, hZ, hh⟩ := hP
  have hx := Bd.exec
  have hby := Bd.bytes
  have hml : c.maxLocals = 3 := hml0
  have hown : s.vm.findClass STx = some m.cls := findClass_of_methodNamed Bd.named
  have hnm := (name_of_methodNamed Bd.named Bd.method).1
  have X0 : Stand p l e ({ frames := 2, cells := 0, slots := 0, locals := 29 } : Room) s m #[(.ref a1), (.int p1), (.int p2)] below meth c s₁ [] 0 0 := Stand.of_body Bd
  have e0 : s₁.heap = h0 := by rw [← hh, Bd.state]; rfl
  have N0 := Fr.nil n0
  refine own_go (own_lift (fun t k => castTop (ef_rmCpc m a1 p1 p2) k) ?_)
  show own_Go p.tables e below (s₁.setTop (mkF m 0 #[rv a1, iv p1, iv p2] [])) _
  have sg1 : ∀ t, Steps p.tables e below (s₁.setTop (mkF m 3 #[rv a1, iv p1, iv p2] [(.ref a1), (.int p2), (.int p1)])) t → Steps p.tables e below (s₁.setTop (mkF m 0 #[rv a1, iv p1, iv p2] [])) t := by
    intro t k
    refine XS.iloadN X0.here hx rfl (hb hby d12_0) rfl ?_
    show Steps p.tables e below (s₁.setTop (mkF m 1 #[rv a1, iv p1, iv p2] [(.int p1)])) _
    refine XS.iloadN X0.here hx rfl (hb hby d12_1) rfl ?_
    refine XS.aloadN X0.here hx rfl (hb hby d12_2) rfl rfl ?_
    show Steps p.tables e below (s₁.setTop (mkF m 3 #[rv a1, iv p1, iv p2] [(.ref a1), (.int p2), (.int p1)])) _
    exact k
  refine own_lift sg1 ?_
  show own_Go p.tables e below (s₁.setTop (mkF m 3 #[rv a1, iv p1, iv p2] [(.ref a1), (.int p2), (.int p1)])) _
  obtain ⟨cq2, kq2, q2a, q2b, q2c⟩ := isOf hZ e0 Es
  obtain ⟨_, _, ⟨T2, Lx2, kx2, nx2⟩, -, X2, ⟨Lc2, hQ2, lx2, yx2, zx2⟩, st2⟩ := X0.virtualBack hx (y := (⟨STx, "length", "()I"⟩ : MethodName)) (z := (⟨STx, "length", "()I"⟩ : MethodName)) hown (mvT hZ (wd hw 64 rfl)) (mvT hZ (wd hw 65 rfl)) (notFace_of_selects (args := #[]) (mvT hZ (wd hw 67 rfl))) (mvT hZ (wd hw 67 rfl)) (mvT hZ (wd hw 66 rfl)) (by decide) (backOf (W := 2) (rmLen l Z a0 hw [] a1 va kb b0 b1 b2 b3 cs h0 n0 Z0 Es Fsv Fsc Ars Scs P_cs) hZ (wd hw 68 rfl) (wd hw 10 rfl) (by decide) (by decide)) q2a q2c (g := (mkF m 3 #[rv a1, iv p1, iv p2] [(.ref a1), (.int p2), (.int p1)])) rfl (by rw [hml]; rfl) (Steps.refl _) (argsL := []) (rest := [(.int p2), (.int p1)]) (lenOf pd_5 rfl) rfl (by show 2 * 0 + _ ≤ _; exact Nat.le_of_eq rfl) (hb hby d12_3) (fun _ _ => ⟨rfl, e0, (by decide : 0 + 0 ≤ _), (by decide : 0 + 0 ≤ _)⟩)
  dsimp only [Pt.U, Pt.locs, Pt.cells, Pt.slots] at X2 lx2 yx2 zx2 st2 hQ2
  subst lx2 yx2 zx2
  obtain ⟨rfl, N2q, e2⟩ := hQ2
  have N2 := Fr.app N0 N2q
  refine own_lift (fun t k => st2.trans k) ?_
  show own_Go p.tables e below (T2.setTop (mkF m 6 #[rv a1, iv p1, iv p2] [(.int 4), (.int p2), (.int p1)])) _
  obtain ⟨_, _, ⟨T3, Lx3, kx3, nx3⟩, -, X3, ⟨Lc3, hQ3, lx3, yx3, zx3⟩, st3⟩ := Jvm.LawKit.callS X2 hx (y := (⟨"java/util/Objects", "checkFromToIndex", "(III)I"⟩ : MethodName)) hown (mvT hZ (wd hw 100 rfl)) (mvT hZ (wd hw 101 rfl)) (mvT hZ (wd hw 102 rfl)) (mvT hZ (wd hw 103 rfl)) (by decide) (backOf (W := 0) (rmOft l Z a0 hw [] p1 p2 (4 : Int32) h0 n0 Z0 c1 c2 c3) hZ (wd hw 103 rfl) (wd hw 102 rfl) (by decide) (by decide)) (g := (mkF m 6 #[rv a1, iv p1, iv p2] [(.int 4), (.int p2), (.int p1)])) rfl (by rw [hml]; rfl) (argsL := [(.int p1), (.int p2), (.int 4)]) (rest := []) (lenOf pd_7 rfl) rfl (by show 2 * 0 + _ ≤ _; exact Nat.le_of_eq rfl) (hb hby d12_6) (fun _ _ => ⟨rfl, e2, (by decide : 0 + 0 ≤ _), (by decide : 0 + 0 ≤ _)⟩)
  dsimp only [Pt.U, Pt.locs, Pt.cells, Pt.slots] at X3 lx3 yx3 zx3 st3 hQ3
  subst lx3 yx3 zx3
  obtain ⟨rfl, N3q, e3⟩ := hQ3
  have N3 := Fr.app N2 N3q
  refine own_lift st3 ?_
  show own_Go p.tables e below (T3.setTop (mkF m 9 #[rv a1, iv p1, iv p2] [(.int p1)])) _
  have sg4 : ∀ t, Steps p.tables e below (T3.setTop (mkF m 11 #[rv a1, iv p1, iv p2] [(.ref a1)])) t → Steps p.tables e below (T3.setTop (mkF m 9 #[rv a1, iv p1, iv p2] [(.int p1)])) t := by
    intro t k
    refine XS.pop X3.here hx rfl (hb hby d12_9) rfl rfl ?_
    show Steps p.tables e below (T3.setTop (mkF m 10 #[rv a1, iv p1, iv p2] [])) _
    refine XS.aloadN X3.here hx rfl (hb hby d12_10) rfl rfl ?_
    show Steps p.tables e below (T3.setTop (mkF m 11 #[rv a1, iv p1, iv p2] [(.ref a1)])) _
    exact k
  refine own_lift sg4 ?_
  show own_Go p.tables e below (T3.setTop (mkF m 11 #[rv a1, iv p1, iv p2] [(.ref a1)])) _
  obtain ⟨cq5, kq5, q5a, q5b, q5c⟩ := isOf hZ e3 Es
  obtain ⟨_, _, ⟨T5, Lx5, kx5, nx5⟩, -, X5, ⟨Lc5, hQ5, lx5, yx5, zx5⟩, st5⟩ := X3.virtualBack hx (y := (⟨STx, "isLatin1", "()Z"⟩ : MethodName)) (z := (⟨STx, "isLatin1", "()Z"⟩ : MethodName)) hown (mvT hZ (wd hw 59 rfl)) (mvT hZ (wd hw 60 rfl)) (notFace_of_selects (args := #[]) (mvT hZ (wd hw 62 rfl))) (mvT hZ (wd hw 62 rfl)) (mvT hZ (wd hw 61 rfl)) (by decide) (backOf (W := 0) (rmLatin l Z a0 hw [] a1 cs h0 n0 Z0 Fsc Scs P_cs) hZ (wd hw 63 rfl) (wd hw 10 rfl) (by decide) (by decide)) q5a q5c (g := (mkF m 11 #[rv a1, iv p1, iv p2] [(.ref a1)])) rfl (by rw [hml]; rfl) (Steps.refl _) (argsL := []) (rest := []) (lenOf pd_4 rfl) rfl (by show 2 * 0 + _ ≤ _; exact Nat.le_of_eq rfl) (hb hby d12_11) (fun _ _ => ⟨rfl, e3, (by decide : 0 + 0 ≤ _), (by decide : 0 + 0 ≤ _)⟩)
  dsimp only [Pt.U, Pt.locs, Pt.cells, Pt.slots] at X5 lx5 yx5 zx5 st5 hQ5
  subst lx5 yx5 zx5
  obtain ⟨rfl, N5q, e5⟩ := hQ5
  have N5 := Fr.app N3 N5q
  refine own_lift (fun t k => st5.trans k) ?_
  show own_Go p.tables e below (T5.setTop (mkF m 14 #[rv a1, iv p1, iv p2] [(.int 1)])) _
  have sg6 : ∀ t, Steps p.tables e below (T5.setTop (mkF m 20 #[rv a1, iv p1, iv p2] [(.int (p2 - p1))])) t → Steps p.tables e below (T5.setTop (mkF m 14 #[rv a1, iv p1, iv p2] [(.int 1)])) t := by
    intro t k
    refine XS.ifNo X5.here hx rfl (hb hby d12_14) rfl ((if0 _ _).trans (feq (by decide : ¬ ((1 : Int32) = (0 : Int32)))).1) ?_
    show Steps p.tables e below (T5.setTop (mkF m 17 #[rv a1, iv p1, iv p2] [])) _
    refine XS.iloadN X5.here hx rfl (hb hby d12_17) rfl ?_
    refine XS.iloadN X5.here hx rfl (hb hby d12_18) rfl ?_
    refine XS.isub X5.here hx rfl (hb hby d12_19) rfl ?_
    show Steps p.tables e below (T5.setTop (mkF m 20 #[rv a1, iv p1, iv p2] [(.int (p2 - p1))])) _
    exact k
  refine own_lift sg6 ?_
  show own_Go p.tables e below (T5.setTop (mkF m 20 #[rv a1, iv p1, iv p2] [(.int (p2 - p1))])) _
  obtain ⟨fs, hr, hrun, hended, hW, hsame⟩ := X5.leave (v := some (.int (p2 - p1))) (fun h => by rw [Bd.returns] at h; cases h)
  refine ⟨_, _, ?_, hrun, hended, _, _, rfl, ?_, ⟨_, rfl⟩, hW, hsame.mono (by decide) (by decide)⟩
  · exact retI X5 hx Bd.returns (hb hby d12_20) hr
  · show Q_rmCpc Z a1 p1 p2 va kb b0 b1 b2 b3 cs h0 n0 _ T5.heap _
    rw [e5]
    exact ⟨rfl, N5, rfl⟩
theorem pn_4 : plainName TC = true := by first | (simp [plainName, overriddenIn]; done) | decide +kernel
theorem d13_0 : decode prog_63_method_1_code 0 = .ok (.aload_n 0, 1) := by decide +kernel
theorem d13_1 : decode prog_63_method_1_code 1 = .ok (.invokespecial 1, 3) := by decide +kernel
theorem d13_4 : decode prog_63_method_1_code 4 = .ok (.aload_n 0, 1) := by decide +kernel
theorem d13_5 : decode prog_63_method_1_code 5 = .ok (.iconst 1, 1) := by decide +kernel
theorem d13_6 : decode prog_63_method_1_code 6 = .ok (.putfield 7, 3) := by decide +kernel
theorem d13_9 : decode prog_63_method_1_code 9 = .ok (.aload_n 0, 1) := by decide +kernel
theorem d13_10 : decode prog_63_method_1_code 10 = .ok (.iconst 1, 1) := by decide +kernel
theorem d13_11 : decode prog_63_method_1_code 11 = .ok (.putfield 13, 3) := by decide +kernel
theorem d13_14 : decode prog_63_method_1_code 14 = .ok (.aload_n 0, 1) := by decide +kernel
theorem d13_15 : decode prog_63_method_1_code 15 = .ok (.aload_n 1, 1) := by decide +kernel
theorem d13_16 : decode prog_63_method_1_code 16 = .ok (.putfield 16, 3) := by decide +kernel
theorem d13_19 : decode prog_63_method_1_code 19 = .ok (.return_, 1) := by decide +kernel
def Q_rmInit (Z : State) (a1 : Addr) (tx : Addr) (h0 : Heap) (n0 : Nat) (v : Option Value) (h : Heap) (L : List Loc) : Prop := v = none ∧ Fr n0 L ∧ Keep h0 h [a1] ∧ Exa Z h a1 TC ∧ Fld Z h a1 TC "text" dSx (.ref tx) ∧ Fld Z h a1 TC "offset" "I" (.int 0) ∧ Fld Z h a1 TC "column" "I" (.int 1) ∧ Fld Z h a1 TC "line" "I" (.int 1)
theorem ef_rmInit (m : MethodId) (x0 : Addr) (x1 : Addr) : entryFrame m #[(.ref x0), (.ref x1)] 2 = mkF m 0 #[.val (.ref x0), .val (.ref x1)] [] := by first | (simp [entryFrame, mkF, argsToLocals, Value.category]; done) | rfl
set_option maxRecDepth 65536 in
set_option maxHeartbeats 40000000 in
theorem rmInit (l : Launch) (Z : State) (a0 : Array Value) (hw : ∀ d ∈ tables_1, d.before a0 Z = true) (ws : List Jvm.Cond) (a1 : Addr) (tx : Addr) (h0 : Heap) (n0 : Nat) (Z0 : n0 ≤ h0.size) (Ec : Exa Z h0 a1 TC) (Fct : Fld Z h0 a1 TC "text" dSx .null) (Fco : Fld Z h0 a1 TC "offset" "I" (.int 0)) (Fcc : Fld Z h0 a1 TC "column" "I" (.int 0)) (Fcl : Fld Z h0 a1 TC "line" "I" (.int 0)) (G1 : n0 ≤ a1)  :
    MetFree l (⟨TC, "<init>", "(Ljava/lang/String;)V"⟩ : MethodName) (head1 (Jvm.Cond.code (⟨TC, "<init>", "(Ljava/lang/String;)V"⟩ : MethodName) prog_63_method_1_code 2 none :: ws) ({ frames := 1, cells := 0, slots := 0, locals := 12 } : Room)) (fun a U => a = #[(.ref a1), (.ref tx)] ∧ Z.Warmed39 U.vm ∧ U.heap = h0) (fun _ _ _ _ _ => True) (fun _ U o U' => ∃ v L, o = .returned v ∧ Q_rmInit Z a1 tx h0 n0 v U'.heap L ∧ FrameEnd U o U' L ({ frames := 1, cells := 0, slots := 0, locals := 12 } : Room).cells ({ frames := 1, cells := 0, slots := 0, locals := 12 } : Room).slots) := by
  refine MetFree.of_bodySF (plainFor_of_name pn_4) hisR ?_
  intro p e s m args below meth c s₁ Bd hml0 hP hK
  obtain ⟨rfl, hZ, hh⟩ := hP
  have hx := Bd.exec
  have hby := Bd.bytes
  have hml : c.maxLocals = 2 := hml0
  have hown : s.vm.findClass TC = some m.cls := findClass_of_methodNamed Bd.named
  have hnm := (name_of_methodNamed Bd.named Bd.method).1
  have X0 : Stand p l e ({ frames := 1, cells := 0, slots := 0, locals := 12 } : Room) s m #[(.ref a1), (.ref tx)] below meth c s₁ [] 0 0 := Stand.of_body Bd
  have e0 : s₁.heap = h0 := by rw [← hh, Bd.state]; rfl
  have N0 := Fr.nil n0
  refine own_go (own_lift (fun t k => castTop (ef_rmInit m a1 tx) k) ?_)
  show own_Go p.tables e below (s₁.setTop (mkF m 0 #[rv a1, rv tx] [])) _
  have sg1 : ∀ t, Steps p.tables e below (s₁.setTop (mkF m 1 #[rv a1, rv tx] [(.ref a1)])) t → Steps p.tables e below (s₁.setTop (mkF m 0 #[rv a1, rv tx] [])) t := by
    intro t k
    refine XS.aloadN X0.here hx rfl (hb hby d13_0) rfl rfl ?_
    show Steps p.tables e below (s₁.setTop (mkF m 1 #[rv a1, rv tx] [(.ref a1)])) _
    exact k
  refine own_lift sg1 ?_
  show own_Go p.tables e below (s₁.setTop (mkF m 1 #[rv a1, rv tx] [(.ref a1)])) _
  obtain ⟨T2, X2, e2, st2⟩ := initO X0 hx hZ hown (wd hw 40 rfl) (wd hw 19 rfl) (wd hw 20 rfl) e0 (g := (mkF m 1 #[rv a1, rv tx] [(.ref a1)])) rfl (by rw [hml]; rfl) rfl (hb hby d13_1) (by decide) (W := 0) (by show 2 * 0 + _ ≤ _; exact Nat.le_of_eq rfl) (by decide)
  refine own_lift st2 ?_
  show own_Go p.tables e below (T2.setTop (mkF m 4 #[rv a1, rv tx] [])) _
  have sg3 : ∀ t, Steps p.tables e below (T2.setTop (mkF m 6 #[rv a1, rv tx] [(.int 1), (.ref a1)])) t → Steps p.tables e below (T2.setTop (mkF m 4 #[rv a1, rv tx] [])) t := by
    intro t k
    refine XS.aloadN X2.here hx rfl (hb hby d13_4) rfl rfl ?_
    show Steps p.tables e below (T2.setTop (mkF m 5 #[rv a1, rv tx] [(.ref a1)])) _
    refine XS.iconst X2.here hx rfl (hb hby d13_5) ?_
    show Steps p.tables e below (T2.setTop (mkF m 6 #[rv a1, rv tx] [(.int 1), (.ref a1)])) _
    exact k
  refine own_lift sg3 ?_
  show own_Go p.tables e below (T2.setTop (mkF m 6 #[rv a1, rv tx] [(.int 1), (.ref a1)])) _
  obtain ⟨T4, h4, X4, e4, W4, st4⟩ := putF X2 hx hZ hown (host := "") (Or.inl (wd hw 41 rfl)) Via.refl e2 Fcl Ec (Or.inl (wd hw 42 rfl)) (wd hw 6 rfl) (ty := .int) (by decide) rfl rfl (g := (mkF m 6 #[rv a1, rv tx] [(.int 1), (.ref a1)])) rfl rfl (hb hby d13_6)
  have N4 := Fr.snoc X4 N0 G1
  have Z4 : n0 ≤ h4.size := Nat.le_trans Z0 (Nat.le_of_eq W4.size.symm)
  have K4 : Keep h0 h4 [a1] := (Keep.refl h0 [a1]).wr W4 (Or.inl (List.mem_of_getElem? (i := 0) rfl))
  have Fw4 : Fld Z h4 a1 TC "line" "I" (.int 1) := Fcl.same W4
  refine own_lift st4 ?_
  show own_Go p.tables e below (T4.setTop (mkF m 9 #[rv a1, rv tx] [])) _
  have sg5 : ∀ t, Steps p.tables e below (T4.setTop (mkF m 11 #[rv a1, rv tx] [(.int 1), (.ref a1)])) t → Steps p.tables e below (T4.setTop (mkF m 9 #[rv a1, rv tx] [])) t := by
    intro t k
    refine XS.aloadN X4.here hx rfl (hb hby d13_9) rfl rfl ?_
    show Steps p.tables e below (T4.setTop (mkF m 10 #[rv a1, rv tx] [(.ref a1)])) _
    refine XS.iconst X4.here hx rfl (hb hby d13_10) ?_
    show Steps p.tables e below (T4.setTop (mkF m 11 #[rv a1, rv tx] [(.int 1), (.ref a1)])) _
    exact k
  refine own_lift sg5 ?_
  show own_Go p.tables e below (T4.setTop (mkF m 11 #[rv a1, rv tx] [(.int 1), (.ref a1)])) _
  have Fc6 : Fld Z h4 a1 TC "column" "I" (.int 0) := (Fcc.other W4 (Or.inr (slot_ne (Or.inl (wd hw 44 rfl)) (Or.inl (wd hw 42 rfl)) (by decide) (t := .int) (t' := .int) (by decide) (by decide))))
  have Fc7 : Exa Z h4 a1 TC := (Ec.wr W4)
  obtain ⟨T8, h8, X8, e8, W8, st8⟩ := putF X4 hx hZ hown (host := "") (Or.inl (wd hw 43 rfl)) Via.refl e4 Fc6 Fc7 (Or.inl (wd hw 44 rfl)) (wd hw 6 rfl) (ty := .int) (by decide) rfl rfl (g := (mkF m 11 #[rv a1, rv tx] [(.int 1), (.ref a1)])) rfl rfl (hb hby d13_11)
  have N8 := Fr.snoc X8 N4 G1
  have Z8 : n0 ≤ h8.size := Nat.le_trans Z4 (Nat.le_of_eq W8.size.symm)
  have K8 : Keep h0 h8 [a1] := K4.wr W8 (Or.inl (List.mem_of_getElem? (i := 0) rfl))
  have Fw8 : Fld Z h8 a1 TC "column" "I" (.int 1) := Fc6.same W8
  refine own_lift st8 ?_
  show own_Go p.tables e below (T8.setTop (mkF m 14 #[rv a1, rv tx] [])) _
  have sg9 : ∀ t, Steps p.tables e below (T8.setTop (mkF m 16 #[rv a1, rv tx] [(.ref tx), (.ref a1)])) t → Steps p.tables e below (T8.setTop (mkF m 14 #[rv a1, rv tx] [])) t := by
    intro t k
    refine XS.aloadN X8.here hx rfl (hb hby d13_14) rfl rfl ?_
    show Steps p.tables e below (T8.setTop (mkF m 15 #[rv a1, rv tx] [(.ref a1)])) _
    refine XS.aloadN X8.here hx rfl (hb hby d13_15) rfl rfl ?_
    show Steps p.tables e below (T8.setTop (mkF m 16 #[rv a1, rv tx] [(.ref tx), (.ref a1)])) _
    exact k
  refine own_lift sg9 ?_
  show own_Go p.tables e below (T8.setTop (mkF m 16 #[rv a1, rv tx] [(.ref tx), (.ref a1)])) _
  have Fc10 : Fld Z h8 a1 TC "text" dSx .null := ((Fct.other W4 (Or.inr (slot_ne (Or.inr (wd hw 46 rfl)) (Or.inl (wd hw 42 rfl)) (by decide) (t := (.object STx)) (t' := .int) (by decide) (by decide)))).other W8 (Or.inr (slot_ne (Or.inr (wd hw 46 rfl)) (Or.inl (wd hw 44 rfl)) (by decide) (t := (.object STx)) (t' := .int) (by decide) (by decide))))
  have Fc11 : Exa Z h8 a1 TC := (Fc7.wr W8)
  obtain ⟨T12, h12, X12, e12, W12, st12⟩ := putF X8 hx hZ hown (host := "") (Or.inl (wd hw 45 rfl)) Via.refl e8 Fc10 Fc11 (Or.inr ⟨(wd hw 46 rfl), rfl, hnm⟩) (wd hw 6 rfl) (ty := (.object STx)) (by decide) rfl rfl (g := (mkF m 16 #[rv a1, rv tx] [(.ref tx), (.ref a1)])) rfl rfl (hb hby d13_16)
  have N12 := Fr.snoc X12 N8 G1
  have Z12 : n0 ≤ h12.size := Nat.le_trans Z8 (Nat.le_of_eq W12.size.symm)
  have K12 : Keep h0 h12 [a1] := K8.wr W12 (Or.inl (List.mem_of_getElem? (i := 0) rfl))
  have Fw12 : Fld Z h12 a1 TC "text" dSx (.ref tx) := Fc10.same W12
  refine own_lift st12 ?_
  show own_Go p.tables e below (T12.setTop (mkF m 19 #[rv a1, rv tx] [])) _
  obtain ⟨fs, hr, hrun, hended, hW, hsame⟩ := X12.leave (v := none) (fun _ => rfl)
  have Fc13 : Exa Z h12 a1 TC := (Fc11.wr W12)
  have Fc14 : Fld Z h12 a1 TC "offset" "I" (.int 0) := (((Fco.other W4 (Or.inr (slot_ne (Or.inl (wd hw 53 rfl)) (Or.inl (wd hw 42 rfl)) (by decide) (t := .int) (t' := .int) (by decide) (by decide)))).other W8 (Or.inr (slot_ne (Or.inl (wd hw 53 rfl)) (Or.inl (wd hw 44 rfl)) (by decide) (t := .int) (t' := .int) (by decide) (by decide)))).other W12 (Or.inr (slot_ne (Or.inl (wd hw 53 rfl)) (Or.inr (wd hw 46 rfl)) (by decide) (t := .int) (t' := (.object STx)) (by decide) (by decide))))
  have Fc15 : Fld Z h12 a1 TC "column" "I" (.int 1) := (Fw8.other W12 (Or.inr (slot_ne (Or.inl (wd hw 44 rfl)) (Or.inr (wd hw 46 rfl)) (by decide) (t := .int) (t' := (.object STx)) (by decide) (by decide))))
  have Fc16 : Fld Z h12 a1 TC "line" "I" (.int 1) := ((Fw4.other W8 (Or.inr (slot_ne (Or.inl (wd hw 42 rfl)) (Or.inl (wd hw 44 rfl)) (by decide) (t := .int) (t' := .int) (by decide) (by decide)))).other W12 (Or.inr (slot_ne (Or.inl (wd hw 42 rfl)) (Or.inr (wd hw 46 rfl)) (by decide) (t := .int) (t' := (.object STx)) (by decide) (by decide))))
  refine ⟨_, _, ?_, hrun, hended, _, _, rfl, ?_, ⟨_, rfl⟩, hW, hsame.mono (by decide) (by decide)⟩
  · exact X12.returnOut hx Bd.returns (hb hby d13_19) hr
  · show Q_rmInit Z a1 tx h0 n0 _ T12.heap _
    rw [e12]
    exact ⟨rfl, N12, K12, Fc13, Fw12, Fc14, Fc15, Fc16⟩
theorem d14_0 : decode prog_63_method_22_code 0 = .ok (.aload_n 0, 1) := by decide +kernel
theorem d14_1 : decode prog_63_method_22_code 1 = .ok (.dup, 1) := by decide +kernel
theorem d14_2 : decode prog_63_method_22_code 2 = .ok (.getfield 13, 3) := by decide +kernel
theorem d14_5 : decode prog_63_method_22_code 5 = .ok (.aload_n 0, 1) := by decide +kernel
theorem d14_6 : decode prog_63_method_22_code 6 = .ok (.getfield 16, 3) := by decide +kernel
theorem d14_9 : decode prog_63_method_22_code 9 = .ok (.aload_n 0, 1) := by decide +kernel
theorem d14_10 : decode prog_63_method_22_code 10 = .ok (.getfield 30, 3) := by decide +kernel
theorem d14_13 : decode prog_63_method_22_code 13 = .ok (.aload_n 0, 1) := by decide +kernel
theorem d14_14 : decode prog_63_method_22_code 14 = .ok (.getfield 30, 3) := by decide +kernel
theorem d14_17 : decode prog_63_method_22_code 17 = .ok (.iload_n 1, 1) := by decide +kernel
theorem d14_18 : decode prog_63_method_22_code 18 = .ok (.iadd, 1) := by decide +kernel
theorem d14_19 : decode prog_63_method_22_code 19 = .ok (.invokevirtual 92, 3) := by decide +kernel
theorem d14_22 : decode prog_63_method_22_code 22 = .ok (.iadd, 1) := by decide +kernel
theorem d14_23 : decode prog_63_method_22_code 23 = .ok (.putfield 13, 3) := by decide +kernel
theorem d14_26 : decode prog_63_method_22_code 26 = .ok (.aload_n 0, 1) := by decide +kernel
theorem d14_27 : decode prog_63_method_22_code 27 = .ok (.dup, 1) := by decide +kernel
theorem d14_28 : decode prog_63_method_22_code 28 = .ok (.getfield 30, 3) := by decide +kernel
theorem d14_31 : decode prog_63_method_22_code 31 = .ok (.iload_n 1, 1) := by decide +kernel
theorem d14_32 : decode prog_63_method_22_code 32 = .ok (.iadd, 1) := by decide +kernel
theorem d14_33 : decode prog_63_method_22_code 33 = .ok (.putfield 30, 3) := by decide +kernel
theorem d14_36 : decode prog_63_method_22_code 36 = .ok (.return_, 1) := by decide +kernel
def Q_rmAdv (Z : State) (a1 : Addr) (p1 : Int32) (tx : Addr) (wc : Int32) (wl : Int32) (va : Addr) (kb : ClassId) (b0 : Int32) (b1 : Int32) (b2 : Int32) (b3 : Int32) (cs : Int32) (h0 : Heap) (n0 : Nat) (v : Option Value) (h : Heap) (L : List Loc) : Prop := v = none ∧ Fr n0 L ∧ Keep h0 h [a1] ∧ Exa Z h a1 TC ∧ Fld Z h a1 TC "text" dSx (.ref tx) ∧ Fld Z h a1 TC "offset" "I" (.int ((0 : Int32) + p1)) ∧ Fld Z h a1 TC "column" "I" (.int (wc + (((0 : Int32) + p1) - (0 : Int32)))) ∧ Fld Z h a1 TC "line" "I" (.int wl)
theorem ef_rmAdv (m : MethodId) (x0 : Addr) (x1 : Int32) : entryFrame m #[(.ref x0), (.int x1)] 2 = mkF m 0 #[.val (.ref x0), .val (.int x1)] [] := by first | (simp [entryFrame, mkF, argsToLocals, Value.category]; done) | rfl
set_option maxRecDepth 65536 in
set_option maxHeartbeats 40000000 in
theorem rmAdv (l : Launch) (Z : State) (a0 : Array Value) (hw : ∀ d ∈ tables_1, d.before a0 Z = true) (ws : List Jvm.Cond) (a1 : Addr) (p1 : Int32) (tx : Addr) (wc : Int32) (wl : Int32) (va : Addr) (kb : ClassId) (b0 : Int32) (b1 : Int32) (b2 : Int32) (b3 : Int32) (cs : Int32) (h0 : Heap) (n0 : Nat) (Z0 : n0 ≤ h0.size) (Ec : Exa Z h0 a1 TC) (Fct : Fld Z h0 a1 TC "text" dSx (.ref tx)) (Fco : Fld Z h0 a1 TC "offset" "I" (.int 0)) (Fcc : Fld Z h0 a1 TC "column" "I" (.int wc)) (Fcl : Fld Z h0 a1 TC "line" "I" (.int wl)) (Es : Exa Z h0 tx STx) (Fsv : Fld Z h0 tx STx "value" "[B" (.ref va)) (Fsc : Fld Z h0 tx STx "coder" "B" (.int 0)) (Ars : Arv Z h0 va kb .byte (4 : Int32) [(.int b0), (.int b1), (.int b2), (.int b3)] (.int 0)) (Scs : Sta Z h0 STx "COMPACT_STRINGS" "Z" (.int cs)) (nts : tx ≠ a1) (nvs : va ≠ a1) (G1 : n0 ≤ a1) (P_cs : ¬ (cs = (0 : Int32))) (c2 : ¬ (p1 < (0 : Int32))) (c3 : ¬ ((4 : Int32) < p1)) :
    MetFree l (⟨TC, "advance", "(I)V"⟩ : MethodName) (head1 (Jvm.Cond.code (⟨TC, "advance", "(I)V"⟩ : MethodName) prog_63_method_22_code 2 none :: ws) ({ frames := 3, cells := 0, slots := 0, locals := 45 } : Room)) (fun a U => a = #[(.ref a1), (.int p1)] ∧ Z.Warmed39 U.vm ∧ U.heap = h0) (fun _ _ _ _ _ => True) (fun _ U o U' => ∃ v L, o = .returned v ∧ Q_rmAdv Z a1 p1 tx wc wl va kb b0 b1 b2 b3 cs h0 n0 v U'.heap L ∧ FrameEnd U o U' L ({ frames := 3, cells := 0, slots := 0, locals := 45 } : Room).cells ({ frames := 3, cells := 0, slots := 0, locals := 45 } : Room).slots) := by
  refine MetFree.of_bodySF (plainFor_of_name pn_4) hisR ?_
  intro p e s m args below meth c s₁ Bd hml0 hP hK
  obtain ⟨rfl, hZ, hh⟩ := hP
  have hx := Bd.exec
  have hby := Bd.bytes
  have hml : c.maxLocals = 2 := hml0
  have hown : s.vm.findClass TC = some m.cls := findClass_of_methodNamed Bd.named
  have hnm := (name_of_methodNamed Bd.named Bd.method).1
  have X0 : Stand p l e ({ frames := 3, cells := 0, slots := 0, locals := 45 } : Room) s m #[(.ref a1), (.int p1)] below meth c s₁ [] 0 0 := Stand.of_body Bd
  have e0 : s₁.heap = h0 := by rw [← hh, Bd.state]; rfl
  have N0 := Fr.nil n0
  refine own_go (own_lift (fun t k => castTop (ef_rmAdv m a1 p1) k) ?_)
  show own_Go p.tables e below (s₁.setTop (mkF m 0 #[rv a1, iv p1] [])) _
  have sg1 : ∀ t, Steps p.tables e below (s₁.setTop (mkF m 2 #[rv a1, iv p1] [(.ref a1), (.ref a1)])) t → Steps p.tables e below (s₁.setTop (mkF m 0 #[rv a1, iv p1] [])) t := by
    intro t k
    refine XS.aloadN X0.here hx rfl (hb hby d14_0) rfl rfl ?_
    show Steps p.tables e below (s₁.setTop (mkF m 1 #[rv a1, iv p1] [(.ref a1)])) _
    refine XS.dup X0.here hx rfl (hb hby d14_1) rfl rfl ?_
    show Steps p.tables e below (s₁.setTop (mkF m 2 #[rv a1, iv p1] [(.ref a1), (.ref a1)])) _
    exact k
  refine own_lift sg1 ?_
  show own_Go p.tables e below (s₁.setTop (mkF m 2 #[rv a1, iv p1] [(.ref a1), (.ref a1)])) _
  obtain ⟨T2, X2, e2, st2⟩ := getF X0 hx hZ hown (host := "") (Or.inl (wd hw 43 rfl)) Via.refl e0 Fcc (g := (mkF m 2 #[rv a1, iv p1] [(.ref a1), (.ref a1)])) rfl rfl (hb hby d14_2)
  refine own_lift st2 ?_
  show own_Go p.tables e below (T2.setTop (mkF m 5 #[rv a1, iv p1] [(.int wc), (.ref a1)])) _
  have sg3 : ∀ t, Steps p.tables e below (T2.setTop (mkF m 6 #[rv a1, iv p1] [(.ref a1), (.int wc), (.ref a1)])) t → Steps p.tables e below (T2.setTop (mkF m 5 #[rv a1, iv p1] [(.int wc), (.ref a1)])) t := by
    intro t k
    refine XS.aloadN X2.here hx rfl (hb hby d14_5) rfl rfl ?_
    show Steps p.tables e below (T2.setTop (mkF m 6 #[rv a1, iv p1] [(.ref a1), (.int wc), (.ref a1)])) _
    exact k
  refine own_lift sg3 ?_
  show own_Go p.tables e below (T2.setTop (mkF m 6 #[rv a1, iv p1] [(.ref a1), (.int wc), (.ref a1)])) _
  obtain ⟨T4, X4, e4, st4⟩ := getF X2 hx hZ hown (host := "") (Or.inl (wd hw 45 rfl)) Via.refl e2 Fct (g := (mkF m 6 #[rv a1, iv p1] [(.ref a1), (.int wc), (.ref a1)])) rfl rfl (hb hby d14_6)
  refine own_lift st4 ?_
  show own_Go p.tables e below (T4.setTop (mkF m 9 #[rv a1, iv p1] [(.ref tx), (.int wc), (.ref a1)])) _
  have sg5 : ∀ t, Steps p.tables e below (T4.setTop (mkF m 10 #[rv a1, iv p1] [(.ref a1), (.ref tx), (.int wc), (.ref a1)])) t → Steps p.tables e below (T4.setTop (mkF m 9 #[rv a1, iv p1] [(.ref tx), (.int wc), (.ref a1)])) t := by
    intro t k
    refine XS.aloadN X4.here hx rfl (hb hby d14_9) rfl rfl ?_
    show Steps p.tables e below (T4.setTop (mkF m 10 #[rv a1, iv p1] [(.ref a1), (.ref tx), (.int wc), (.ref a1)])) _
    exact k
  refine own_lift sg5 ?_
  show own_Go p.tables e below (T4.setTop (mkF m 10 #[rv a1, iv p1] [(.ref a1), (.ref tx), (.int wc), (.ref a1)])) _
  obtain ⟨T6, X6, e6, st6⟩ := getF X4 hx hZ hown (host := "") (Or.inl (wd hw 52 rfl)) Via.refl e4 Fco (g := (mkF m 10 #[rv a1, iv p1] [(.ref a1), (.ref tx), (.int wc), (.ref a1)])) rfl rfl (hb hby d14_10)
  refine own_lift st6 ?_
  show own_Go p.tables e below (T6.setTop (mkF m 13 #[rv a1, iv p1] [(.int 0), (.ref tx), (.int wc), (.ref a1)])) _
  have sg7 : ∀ t, Steps p.tables e below (T6.setTop (mkF m 14 #[rv a1, iv p1] [(.ref a1), (.int 0), (.ref tx), (.int wc), (.ref a1)])) t → Steps p.tables e below (T6.setTop (mkF m 13 #[rv a1, iv p1] [(.int 0), (.ref tx), (.int wc), (.ref a1)])) t := by
    intro t k
    refine XS.aloadN X6.here hx rfl (hb hby d14_13) rfl rfl ?_
    show Steps p.tables e below (T6.setTop (mkF m 14 #[rv a1, iv p1] [(.ref a1), (.int 0), (.ref tx), (.int wc), (.ref a1)])) _
    exact k
  refine own_lift sg7 ?_
  show own_Go p.tables e below (T6.setTop (mkF m 14 #[rv a1, iv p1] [(.ref a1), (.int 0), (.ref tx), (.int wc), (.ref a1)])) _
  obtain ⟨T8, X8, e8, st8⟩ := getF X6 hx hZ hown (host := "") (Or.inl (wd hw 52 rfl)) Via.refl e6 Fco (g := (mkF m 14 #[rv a1, iv p1] [(.ref a1), (.int 0), (.ref tx), (.int wc), (.ref a1)])) rfl rfl (hb hby d14_14)
  refine own_lift st8 ?_
  show own_Go p.tables e below (T8.setTop (mkF m 17 #[rv a1, iv p1] [(.int 0), (.int 0), (.ref tx), (.int wc), (.ref a1)])) _
  have sg9 : ∀ t, Steps p.tables e below (T8.setTop (mkF m 19 #[rv a1, iv p1] [(.int ((0 : Int32) + p1)), (.int 0), (.ref tx), (.int wc), (.ref a1)])) t → Steps p.tables e below (T8.setTop (mkF m 17 #[rv a1, iv p1] [(.int 0), (.int 0), (.ref tx), (.int wc), (.ref a1)])) t := by
    intro t k
    refine XS.iloadN X8.here hx rfl (hb hby d14_17) rfl ?_
    show Steps p.tables e below (T8.setTop (mkF m 18 #[rv a1, iv p1] [(.int p1), (.int 0), (.int 0), (.ref tx), (.int wc), (.ref a1)])) _
    refine XS.iadd X8.here hx rfl (hb hby d14_18) rfl ?_
    show Steps p.tables e below (T8.setTop (mkF m 19 #[rv a1, iv p1] [(.int ((0 : Int32) + p1)), (.int 0), (.ref tx), (.int wc), (.ref a1)])) _
    exact k
  refine own_lift sg9 ?_
  show own_Go p.tables e below (T8.setTop (mkF m 19 #[rv a1, iv p1] [(.int ((0 : Int32) + p1)), (.int 0), (.ref tx), (.int wc), (.ref a1)])) _
  obtain ⟨cq10, kq10, q10a, q10b, q10c⟩ := isOf hZ e8 Es
  obtain ⟨_, _, ⟨T10, Lx10, kx10, nx10⟩, -, X10, ⟨Lc10, hQ10, lx10, yx10, zx10⟩, st10⟩ := X8.virtualBack hx (y := (⟨STx, "codePointCount", "(II)I"⟩ : MethodName)) (z := (⟨STx, "codePointCount", "(II)I"⟩ : MethodName)) hown (mvT hZ (wd hw 95 rfl)) (mvT hZ (wd hw 96 rfl)) (notFace_of_selects (args := #[]) (mvT hZ (wd hw 98 rfl))) (mvT hZ (wd hw 98 rfl)) (mvT hZ (wd hw 97 rfl)) (by decide) (backOf (W := 2) (rmCpc l Z a0 hw [] tx (0 : Int32) ((0 : Int32) + p1) va kb b0 b1 b2 b3 cs h0 n0 Z0 Es Fsv Fsc Ars Scs P_cs (by decide : ¬ ((0 : Int32) < (0 : Int32))) (by rw [Int32.zero_add]; exact c2) (by rw [Int32.zero_add]; exact c3)) hZ (wd hw 99 rfl) (wd hw 10 rfl) (by decide) (by decide)) q10a q10c (g := (mkF m 19 #[rv a1, iv p1] [(.int ((0 : Int32) + p1)), (.int 0), (.ref tx), (.int wc), (.ref a1)])) rfl (by rw [hml]; rfl) (Steps.refl _) (argsL := [(.int 0), (.int ((0 : Int32) + p1))]) (rest := [(.int wc), (.ref a1)]) (lenOf pd_2 rfl) rfl (by show 2 * 0 + _ ≤ _; exact Nat.le_of_eq rfl) (hb hby d14_19) (fun _ _ => ⟨rfl, e8, (by decide : 0 + 0 ≤ _), (by decide : 0 + 0 ≤ _)⟩)
  dsimp only [Pt.U, Pt.locs, Pt.cells, Pt.slots] at X10 lx10 yx10 zx10 st10 hQ10
  subst lx10 yx10 zx10
  obtain ⟨rfl, N10q, e10⟩ := hQ10
  have N10 := Fr.app N0 N10q
  refine own_lift (fun t k => st10.trans k) ?_
  show own_Go p.tables e below (T10.setTop (mkF m 22 #[rv a1, iv p1] [(.int (((0 : Int32) + p1) - (0 : Int32))), (.int wc), (.ref a1)])) _
  have sg11 : ∀ t, Steps p.tables e below (T10.setTop (mkF m 23 #[rv a1, iv p1] [(.int (wc + (((0 : Int32) + p1) - (0 : Int32)))), (.ref a1)])) t → Steps p.tables e below (T10.setTop (mkF m 22 #[rv a1, iv p1] [(.int (((0 : Int32) + p1) - (0 : Int32))), (.int wc), (.ref a1)])) t := by
    intro t k
    refine XS.iadd X10.here hx rfl (hb hby d14_22) rfl ?_
    show Steps p.tables e below (T10.setTop (mkF m 23 #[rv a1, iv p1] [(.int (wc + (((0 : Int32) + p1) - (0 : Int32)))), (.ref a1)])) _
    exact k
  refine own_lift sg11 ?_
  show own_Go p.tables e below (T10.setTop (mkF m 23 #[rv a1, iv p1] [(.int (wc + (((0 : Int32) + p1) - (0 : Int32)))), (.ref a1)])) _
  obtain ⟨T12, h12, X12, e12, W12, st12⟩ := putF X10 hx hZ hown (host := "") (Or.inl (wd hw 43 rfl)) Via.refl e10 Fcc Ec (Or.inl (wd hw 44 rfl)) (wd hw 6 rfl) (ty := .int) (by decide) rfl rfl (g := (mkF m 23 #[rv a1, iv p1] [(.int (wc + (((0 : Int32) + p1) - (0 : Int32)))), (.ref a1)])) rfl rfl (hb hby d14_23)
  have N12 := Fr.snoc X12 N10 G1
  have Z12 : n0 ≤ h12.size := Nat.le_trans Z0 (Nat.le_of_eq W12.size.symm)
  have K12 : Keep h0 h12 [a1] := (Keep.refl h0 [a1]).wr W12 (Or.inl (List.mem_of_getElem? (i := 0) rfl))
  have Fw12 : Fld Z h12 a1 TC "column" "I" (.int (wc + (((0 : Int32) + p1) - (0 : Int32)))) := Fcc.same W12
  refine own_lift st12 ?_
  show own_Go p.tables e below (T12.setTop (mkF m 26 #[rv a1, iv p1] [])) _
  have sg13 : ∀ t, Steps p.tables e below (T12.setTop (mkF m 28 #[rv a1, iv p1] [(.ref a1), (.ref a1)])) t → Steps p.tables e below (T12.setTop (mkF m 26 #[rv a1, iv p1] [])) t := by
    intro t k
    refine XS.aloadN X12.here hx rfl (hb hby d14_26) rfl rfl ?_
    show Steps p.tables e below (T12.setTop (mkF m 27 #[rv a1, iv p1] [(.ref a1)])) _
    refine XS.dup X12.here hx rfl (hb hby d14_27) rfl rfl ?_
    show Steps p.tables e below (T12.setTop (mkF m 28 #[rv a1, iv p1] [(.ref a1), (.ref a1)])) _
    exact k
  refine own_lift sg13 ?_
  show own_Go p.tables e below (T12.setTop (mkF m 28 #[rv a1, iv p1] [(.ref a1), (.ref a1)])) _
  have Fc14 : Fld Z h12 a1 TC "offset" "I" (.int 0) := (Fco.other W12 (Or.inr (slot_ne (Or.inl (wd hw 53 rfl)) (Or.inl (wd hw 44 rfl)) (by decide) (t := .int) (t' := .int) (by decide) (by decide))))
  obtain ⟨T15, X15, e15, st15⟩ := getF X12 hx hZ hown (host := "") (Or.inl (wd hw 52 rfl)) Via.refl e12 Fc14 (g := (mkF m 28 #[rv a1, iv p1] [(.ref a1), (.ref a1)])) rfl rfl (hb hby d14_28)
  refine own_lift st15 ?_
  show own_Go p.tables e below (T15.setTop (mkF m 31 #[rv a1, iv p1] [(.int 0), (.ref a1)])) _
  have sg16 : ∀ t, Steps p.tables e below (T15.setTop (mkF m 33 #[rv a1, iv p1] [(.int ((0 : Int32) + p1)), (.ref a1)])) t → Steps p.tables e below (T15.setTop (mkF m 31 #[rv a1, iv p1] [(.int 0), (.ref a1)])) t := by
    intro t k
    refine XS.iloadN X15.here hx rfl (hb hby d14_31) rfl ?_
    show Steps p.tables e below (T15.setTop (mkF m 32 #[rv a1, iv p1] [(.int p1), (.int 0), (.ref a1)])) _
    refine XS.iadd X15.here hx rfl (hb hby d14_32) rfl ?_
    show Steps p.tables e below (T15.setTop (mkF m 33 #[rv a1, iv p1] [(.int ((0 : Int32) + p1)), (.ref a1)])) _
    exact k
  refine own_lift sg16 ?_
  show own_Go p.tables e below (T15.setTop (mkF m 33 #[rv a1, iv p1] [(.int ((0 : Int32) + p1)), (.ref a1)])) _
  have Fc17 : Exa Z h12 a1 TC := (Ec.wr W12)
  obtain ⟨T18, h18, X18, e18, W18, st18⟩ := putF X15 hx hZ hown (host := "") (Or.inl (wd hw 52 rfl)) Via.refl e15 Fc14 Fc17 (Or.inl (wd hw 53 rfl)) (wd hw 6 rfl) (ty := .int) (by decide) rfl rfl (g := (mkF m 33 #[rv a1, iv p1] [(.int ((0 : Int32) + p1)), (.ref a1)])) rfl rfl (hb hby d14_33)
  have N18 := Fr.snoc X18 N12 G1
  have Z18 : n0 ≤ h18.size := Nat.le_trans Z12 (Nat.le_of_eq W18.size.symm)
  have K18 : Keep h0 h18 [a1] := K12.wr W18 (Or.inl (List.mem_of_getElem? (i := 0) rfl))
  have Fw18 : Fld Z h18 a1 TC "offset" "I" (.int ((0 : Int32) + p1)) := Fc14.same W18
  refine own_lift st18 ?_
  show own_Go p.tables e below (T18.setTop (mkF m 36 #[rv a1, iv p1] [])) _
  obtain ⟨fs, hr, hrun, hended, hW, hsame⟩ := X18.leave (v := none) (fun _ => rfl)
  have Fc19 : Exa Z h18 a1 TC := (Fc17.wr W18)
  have Fc20 : Fld Z h18 a1 TC "text" dSx (.ref tx) := ((Fct.other W12 (Or.inr (slot_ne (Or.inr (wd hw 46 rfl)) (Or.inl (wd hw 44 rfl)) (by decide) (t := (.object STx)) (t' := .int) (by decide) (by decide)))).other W18 (Or.inr (slot_ne (Or.inr (wd hw 46 rfl)) (Or.inl (wd hw 53 rfl)) (by decide) (t := (.object STx)) (t' := .int) (by decide) (by decide))))
  have Fc21 : Fld Z h18 a1 TC "column" "I" (.int (wc + (((0 : Int32) + p1) - (0 : Int32)))) := (Fw12.other W18 (Or.inr (slot_ne (Or.inl (wd hw 44 rfl)) (Or.inl (wd hw 53 rfl)) (by decide) (t := .int) (t' := .int) (by decide) (by decide))))
  have Fc22 : Fld Z h18 a1 TC "line" "I" (.int wl) := ((Fcl.other W12 (Or.inr (slot_ne (Or.inl (wd hw 42 rfl)) (Or.inl (wd hw 44 rfl)) (by decide) (t := .int) (t' := .int) (by decide) (by decide)))).other W18 (Or.inr (slot_ne (Or.inl (wd hw 42 rfl)) (Or.inl (wd hw 53 rfl)) (by decide) (t := .int) (t' := .int) (by decide) (by decide))))
  refine ⟨_, _, ?_, hrun, hended, _, _, rfl, ?_, ⟨_, rfl⟩, hW, hsame.mono (by decide) (by decide)⟩
  · exact X18.returnOut hx Bd.returns (hb hby d14_36) hr
  · show Q_rmAdv Z a1 p1 tx wc wl va kb b0 b1 b2 b3 cs h0 n0 _ T18.heap _
    rw [e18]
    exact ⟨rfl, N18, K18, Fc19, Fc20, Fw18, Fc21, Fc22⟩
theorem d15_0 : decode prog_63_method_8_code 0 = .ok (.aload_n 0, 1) := by decide +kernel
theorem d15_1 : decode prog_63_method_8_code 1 = .ok (.getfield 16, 3) := by decide +kernel
theorem d15_4 : decode prog_63_method_8_code 4 = .ok (.bipush 10, 2) := by decide +kernel
theorem d15_6 : decode prog_63_method_8_code 6 = .ok (.aload_n 0, 1) := by decide +kernel
theorem d15_7 : decode prog_63_method_8_code 7 = .ok (.getfield 30, 3) := by decide +kernel
theorem d15_10 : decode prog_63_method_8_code 10 = .ok (.invokevirtual 51, 3) := by decide +kernel
theorem d15_13 : decode prog_63_method_8_code 13 = .ok (.istore_n 1, 1) := by decide +kernel
theorem d15_14 : decode prog_63_method_8_code 14 = .ok (.aload_n 0, 1) := by decide +kernel
theorem d15_15 : decode prog_63_method_8_code 15 = .ok (.iload_n 1, 1) := by decide +kernel
theorem d15_16 : decode prog_63_method_8_code 16 = .ok (.ifCond .ge 13, 3) := by decide +kernel
theorem d15_29 : decode prog_63_method_8_code 29 = .ok (.iload_n 1, 1) := by decide +kernel
theorem d15_30 : decode prog_63_method_8_code 30 = .ok (.aload_n 0, 1) := by decide +kernel
theorem d15_31 : decode prog_63_method_8_code 31 = .ok (.getfield 30, 3) := by decide +kernel
theorem d15_34 : decode prog_63_method_8_code 34 = .ok (.isub, 1) := by decide +kernel
theorem d15_35 : decode prog_63_method_8_code 35 = .ok (.invokevirtual 47, 3) := by decide +kernel
theorem pd_8 : parseMethodDescriptor "(I)V" = some ⟨[.int], none⟩ := by decide +kernel
theorem d15_38 : decode prog_63_method_8_code 38 = .ok (.return_, 1) := by decide +kernel
def Q_rmSkip0 (Z : State) (a1 : Addr) (tx : Addr) (va : Addr) (kb : ClassId) (b0 : Int32) (b1 : Int32) (b2 : Int32) (b3 : Int32) (cs : Int32) (h0 : Heap) (n0 : Nat) (v : Option Value) (h : Heap) (L : List Loc) : Prop := v = none ∧ Fr n0 L ∧ Keep h0 h [a1] ∧ Exa Z h a1 TC ∧ Fld Z h a1 TC "text" dSx (.ref tx) ∧ Fld Z h a1 TC "offset" "I" (.int 0) ∧ Fld Z h a1 TC "column" "I" (.int 1) ∧ Fld Z h a1 TC "line" "I" (.int 1)
theorem ef_rmSkip0 (m : MethodId) (x0 : Addr) : entryFrame m #[(.ref x0)] 2 = mkF m 0 #[.val (.ref x0), .unset] [] := by first | (simp [entryFrame, mkF, argsToLocals, Value.category]; done) | rfl
set_option maxRecDepth 65536 in
set_option maxHeartbeats 40000000 in
theorem rmSkip0 (l : Launch) (Z : State) (a0 : Array Value) (hw : ∀ d ∈ tables_1, d.before a0 Z = true) (ws : List Jvm.Cond) (a1 : Addr) (tx : Addr) (va : Addr) (kb : ClassId) (b0 : Int32) (b1 : Int32) (b2 : Int32) (b3 : Int32) (cs : Int32) (h0 : Heap) (n0 : Nat) (Z0 : n0 ≤ h0.size) (Ec : Exa Z h0 a1 TC) (Fct : Fld Z h0 a1 TC "text" dSx (.ref tx)) (Fco : Fld Z h0 a1 TC "offset" "I" (.int 0)) (Fcc : Fld Z h0 a1 TC "column" "I" (.int 1)) (Fcl : Fld Z h0 a1 TC "line" "I" (.int 1)) (Es : Exa Z h0 tx STx) (Fsv : Fld Z h0 tx STx "value" "[B" (.ref va)) (Fsc : Fld Z h0 tx STx "coder" "B" (.int 0)) (Ars : Arv Z h0 va kb .byte (4 : Int32) [(.int b0), (.int b1), (.int b2), (.int b3)] (.int 0)) (Scs : Sta Z h0 STx "COMPACT_STRINGS" "Z" (.int cs)) (nts : tx ≠ a1) (nvs : va ≠ a1) (G1 : n0 ≤ a1) (P_cs : ¬ (cs = (0 : Int32))) (d0 : b0 = (10 : Int32)) :
    MetFree l (⟨TC, "skipRestOfLine", "()V"⟩ : MethodName) (head1 (Jvm.Cond.code (⟨TC, "skipRestOfLine", "()V"⟩ : MethodName) prog_63_method_8_code 2 none :: ws) ({ frames := 4, cells := 0, slots := 0, locals := 58 } : Room)) (fun a U => a = #[(.ref a1)] ∧ Z.Warmed39 U.vm ∧ U.heap = h0) (fun _ _ _ _ _ => True) (fun _ U o U' => ∃ v L, o = .returned v ∧ Q_rmSkip0 Z a1 tx va kb b0 b1 b2 b3 cs h0 n0 v U'.heap L ∧ FrameEnd U o U' L ({ frames := 4, cells := 0, slots := 0, locals := 58 } : Room).cells ({ frames := 4, cells := 0, slots := 0, locals := 58 } : Room).slots) := by
  refine MetFree.of_bodySF (plainFor_of_name pn_4) hisR ?_
  intro p e s m args below meth c s₁ Bd hml0 hP hK
  obtain ⟨rfl, hZ, hh⟩ := hP
  have hx := Bd.exec
  have hby := Bd.bytes
  have hml : c.maxLocals = 2 := hml0
  have hown : s.vm.findClass TC = some m.cls := findClass_of_methodNamed Bd.named
  have hnm := (name_of_methodNamed Bd.named Bd.method).1
  have X0 : Stand p l e ({ frames := 4, cells := 0, slots := 0, locals := 58 } : Room) s m #[(.ref a1)] below meth c s₁ [] 0 0 := Stand.of_body Bd
  have e0 : s₁.heap = h0 := by rw [← hh, Bd.state]; rfl
  have N0 := Fr.nil n0
  refine own_go (own_lift (fun t k => castTop (ef_rmSkip0 m a1) k) ?_)
  show own_Go p.tables e below (s₁.setTop (mkF m 0 #[rv a1, .unset] [])) _
  have sg1 : ∀ t, Steps p.tables e below (s₁.setTop (mkF m 1 #[rv a1, .unset] [(.ref a1)])) t → Steps p.tables e below (s₁.setTop (mkF m 0 #[rv a1, .unset] [])) t := by
    intro t k
    refine XS.aloadN X0.here hx rfl (hb hby d15_0) rfl rfl ?_
    show Steps p.tables e below (s₁.setTop (mkF m 1 #[rv a1, .unset] [(.ref a1)])) _
    exact k
  refine own_lift sg1 ?_
  show own_Go p.tables e below (s₁.setTop (mkF m 1 #[rv a1, .unset] [(.ref a1)])) _
  obtain ⟨T2, X2, e2, st2⟩ := getF X0 hx hZ hown (host := "") (Or.inl (wd hw 45 rfl)) Via.refl e0 Fct (g := (mkF m 1 #[rv a1, .unset] [(.ref a1)])) rfl rfl (hb hby d15_1)
  refine own_lift st2 ?_
  show own_Go p.tables e below (T2.setTop (mkF m 4 #[rv a1, .unset] [(.ref tx)])) _
  have sg3 : ∀ t, Steps p.tables e below (T2.setTop (mkF m 7 #[rv a1, .unset] [(.ref a1), (.int 10), (.ref tx)])) t → Steps p.tables e below (T2.setTop (mkF m 4 #[rv a1, .unset] [(.ref tx)])) t := by
    intro t k
    refine XS.bipush X2.here hx rfl (hb hby d15_4) ?_
    show Steps p.tables e below (T2.setTop (mkF m 6 #[rv a1, .unset] [(.int 10), (.ref tx)])) _
    refine XS.aloadN X2.here hx rfl (hb hby d15_6) rfl rfl ?_
    show Steps p.tables e below (T2.setTop (mkF m 7 #[rv a1, .unset] [(.ref a1), (.int 10), (.ref tx)])) _
    exact k
  refine own_lift sg3 ?_
  show own_Go p.tables e below (T2.setTop (mkF m 7 #[rv a1, .unset] [(.ref a1), (.int 10), (.ref tx)])) _
  obtain ⟨T4, X4, e4, st4⟩ := getF X2 hx hZ hown (host := "") (Or.inl (wd hw 52 rfl)) Via.refl e2 Fco (g := (mkF m 7 #[rv a1, .unset] [(.ref a1), (.int 10), (.ref tx)])) rfl rfl (hb hby d15_7)
  refine own_lift st4 ?_
  show own_Go p.tables e below (T4.setTop (mkF m 10 #[rv a1, .unset] [(.int 0), (.int 10), (.ref tx)])) _
  obtain ⟨cq5, kq5, q5a, q5b, q5c⟩ := isOf hZ e4 Es
  obtain ⟨_, _, ⟨T5, Lx5, kx5, nx5⟩, -, X5, ⟨Lc5, hQ5, lx5, yx5, zx5⟩, st5⟩ := X4.virtualBack hx (y := (⟨STx, "indexOf", "(II)I"⟩ : MethodName)) (z := (⟨STx, "indexOf", "(II)I"⟩ : MethodName)) hown (mvT hZ (wd hw 54 rfl)) (mvT hZ (wd hw 55 rfl)) (notFace_of_selects (args := #[]) (mvT hZ (wd hw 57 rfl))) (mvT hZ (wd hw 57 rfl)) (mvT hZ (wd hw 56 rfl)) (by decide) (backOf (W := 0) (rmIds0 l Z a0 hw [] tx va kb b0 b1 b2 b3 cs h0 n0 Z0 Es Fsv Fsc Ars Scs P_cs d0) hZ (wd hw 58 rfl) (wd hw 10 rfl) (by decide) (by decide)) q5a q5c (g := (mkF m 10 #[rv a1, .unset] [(.int 0), (.int 10), (.ref tx)])) rfl (by rw [hml]; rfl) (Steps.refl _) (argsL := [(.int 10), (.int 0)]) (rest := []) (lenOf pd_2 rfl) rfl (by show 2 * 0 + _ ≤ _; exact Nat.le_of_eq rfl) (hb hby d15_10) (fun _ _ => ⟨rfl, e4, (by decide : 0 + 0 ≤ _), (by decide : 0 + 0 ≤ _)⟩)
  dsimp only [Pt.U, Pt.locs, Pt.cells, Pt.slots] at X5 lx5 yx5 zx5 st5 hQ5
  subst lx5 yx5 zx5
  obtain ⟨rfl, N5q, e5⟩ := hQ5
  have N5 := Fr.app N0 N5q
  refine own_lift (fun t k => st5.trans k) ?_
  show own_Go p.tables e below (T5.setTop (mkF m 13 #[rv a1, .unset] [(.int 0)])) _
  have sg6 : ∀ t, Steps p.tables e below (T5.setTop (mkF m 31 #[rv a1, iv 0] [(.ref a1), (.int 0), (.ref a1)])) t → Steps p.tables e below (T5.setTop (mkF m 13 #[rv a1, .unset] [(.int 0)])) t := by
    intro t k
    refine XS.istoreN X5.here hx rfl (hb hby d15_13) rfl (l' := #[rv a1, iv 0]) rfl ?_
    show Steps p.tables e below (T5.setTop (mkF m 14 #[rv a1, iv 0] [])) _
    refine XS.aloadN X5.here hx rfl (hb hby d15_14) rfl rfl ?_
    refine XS.iloadN X5.here hx rfl (hb hby d15_15) rfl ?_
    refine XS.ifYes X5.here hx rfl (pc0 := 16) (pc' := 29) rfl (hb hby d15_16) rfl ((if0 _ _).trans (flt (by decide : ¬ ((0 : Int32) < (0 : Int32)))).2.1) (by decide) (by decide) ?_
    show Steps p.tables e below (T5.setTop (mkF m 29 #[rv a1, iv 0] [(.ref a1)])) _
    refine XS.iloadN X5.here hx rfl (hb hby d15_29) rfl ?_
    refine XS.aloadN X5.here hx rfl (hb hby d15_30) rfl rfl ?_
    show Steps p.tables e below (T5.setTop (mkF m 31 #[rv a1, iv 0] [(.ref a1), (.int 0), (.ref a1)])) _
    exact k
  refine own_lift sg6 ?_
  show own_Go p.tables e below (T5.setTop (mkF m 31 #[rv a1, iv 0] [(.ref a1), (.int 0), (.ref a1)])) _
  obtain ⟨T7, X7, e7, st7⟩ := getF X5 hx hZ hown (host := "") (Or.inl (wd hw 52 rfl)) Via.refl e5 Fco (g := (mkF m 31 #[rv a1, iv 0] [(.ref a1), (.int 0), (.ref a1)])) rfl rfl (hb hby d15_31)
  refine own_lift st7 ?_
  show own_Go p.tables e below (T7.setTop (mkF m 34 #[rv a1, iv 0] [(.int 0), (.int 0), (.ref a1)])) _
  have sg8 : ∀ t, Steps p.tables e below (T7.setTop (mkF m 35 #[rv a1, iv 0] [(.int 0), (.ref a1)])) t → Steps p.tables e below (T7.setTop (mkF m 34 #[rv a1, iv 0] [(.int 0), (.int 0), (.ref a1)])) t := by
    intro t k
    refine XS.isub X7.here hx rfl (hb hby d15_34) rfl ?_
    show Steps p.tables e below (T7.setTop (mkF m 35 #[rv a1, iv 0] [(.int 0), (.ref a1)])) _
    exact k
  refine own_lift sg8 ?_
  show own_Go p.tables e below (T7.setTop (mkF m 35 #[rv a1, iv 0] [(.int 0), (.ref a1)])) _
  obtain ⟨cq9, q9, q9'⟩ := Ec.cell
  obtain ⟨_, _, ⟨T9, Lx9, kx9, nx9⟩, -, X9, ⟨Lc9, hQ9, lx9, yx9, zx9⟩, st9⟩ := X7.privateBack hx (y := (⟨TC, "advance", "(I)V"⟩ : MethodName)) hown (mvT hZ (wd hw 91 rfl)) (mvT hZ (wd hw 92 rfl)) (own_selp (y := (⟨TC, "advance", "(I)V"⟩ : MethodName)) hZ (wd hw 6 rfl) (wd hw 93 rfl) (wd hw 92 rfl) (by decide)) (Cond.privateMethod_at (mvP hZ (wd hw 93 rfl) (args := #[]))) (mvT hZ (wd hw 94 rfl)) (by decide) (backOf (W := 0) (rmAdv l Z a0 hw [] a1 (0 : Int32) tx (1 : Int32) (1 : Int32) va kb b0 b1 b2 b3 cs h0 n0 Z0 Ec Fct Fco Fcc Fcl Es Fsv Fsc Ars Scs nts nvs G1 P_cs (by decide : ¬ ((0 : Int32) < (0 : Int32))) (by decide : ¬ ((4 : Int32) < (0 : Int32)))) hZ (wd hw 94 rfl) (wd hw 7 rfl) (by decide) (by decide)) (g := (mkF m 35 #[rv a1, iv 0] [(.int 0), (.ref a1)])) rfl (by rw [hml]; rfl) (Steps.refl _) (a := a1) (by rw [e7]; exact q9) q9' (argsL := [(.int 0)]) (rest := []) (lenOf pd_8 rfl) rfl (by show 2 * 0 + _ ≤ _; exact Nat.le_of_eq rfl) (hb hby d15_35) (fun _ _ => ⟨rfl, e7, (by decide : 0 + 0 ≤ _), (by decide : 0 + 0 ≤ _)⟩)
  dsimp only [Pt.U, Pt.locs, Pt.cells, Pt.slots] at X9 lx9 yx9 zx9 st9 hQ9
  subst lx9 yx9 zx9
  obtain ⟨rfl, N9q, p9_0, p9_1, p9_2, p9_3, p9_4, p9_5⟩ := hQ9
  have N9 := Fr.app N5 N9q
  have Z9 : n0 ≤ T9.heap.size := Nat.le_trans Z0 p9_0.1
  have K9 : Keep h0 T9.heap [a1] := (Keep.refl h0 [a1]).trans p9_0 (allS (Or.inl (List.mem_of_getElem? (i := 0) rfl)) all0)
  refine own_lift (fun t k => st9.trans k) ?_
  show own_Go p.tables e below (T9.setTop (mkF m 38 #[rv a1, iv 0] [])) _
  obtain ⟨fs, hr, hrun, hended, hW, hsame⟩ := X9.leave (v := none) (fun _ => rfl)
  refine ⟨_, _, ?_, hrun, hended, _, _, rfl, ?_, ⟨_, rfl⟩, hW, hsame.mono (by decide) (by decide)⟩
  · exact X9.returnOut hx Bd.returns (hb hby d15_38) hr
  · show Q_rmSkip0 Z a1 tx va kb b0 b1 b2 b3 cs h0 n0 _ T9.heap _
    exact ⟨rfl, N9, K9, p9_1, p9_2, p9_3, p9_4, p9_5⟩
def Q_rmSkip1 (Z : State) (a1 : Addr) (tx : Addr) (va : Addr) (kb : ClassId) (b0 : Int32) (b1 : Int32) (b2 : Int32) (b3 : Int32) (cs : Int32) (h0 : Heap) (n0 : Nat) (v : Option Value) (h : Heap) (L : List Loc) : Prop := v = none ∧ Fr n0 L ∧ Keep h0 h [a1] ∧ Exa Z h a1 TC ∧ Fld Z h a1 TC "text" dSx (.ref tx) ∧ Fld Z h a1 TC "offset" "I" (.int 1) ∧ Fld Z h a1 TC "column" "I" (.int 2) ∧ Fld Z h a1 TC "line" "I" (.int 1)
theorem ef_rmSkip1 (m : MethodId) (x0 : Addr) : entryFrame m #[(.ref x0)] 2 = mkF m 0 #[.val (.ref x0), .unset] [] := by first | (simp [entryFrame, mkF, argsToLocals, Value.category]; done) | rfl
set_option maxRecDepth 65536 in
set_option maxHeartbeats 40000000 in
theorem rmSkip1 (l : Launch) (Z : State) (a0 : Array Value) (hw : ∀ d ∈ tables_1, d.before a0 Z = true) (ws : List Jvm.Cond) (a1 : Addr) (tx : Addr) (va : Addr) (kb : ClassId) (b0 : Int32) (b1 : Int32) (b2 : Int32) (b3 : Int32) (cs : Int32) (h0 : Heap) (n0 : Nat) (Z0 : n0 ≤ h0.size) (Ec : Exa Z h0 a1 TC) (Fct : Fld Z h0 a1 TC "text" dSx (.ref tx)) (Fco : Fld Z h0 a1 TC "offset" "I" (.int 0)) (Fcc : Fld Z h0 a1 TC "column" "I" (.int 1)) (Fcl : Fld Z h0 a1 TC "line" "I" (.int 1)) (Es : Exa Z h0 tx STx) (Fsv : Fld Z h0 tx STx "value" "[B" (.ref va)) (Fsc : Fld Z h0 tx STx "coder" "B" (.int 0)) (Ars : Arv Z h0 va kb .byte (4 : Int32) [(.int b0), (.int b1), (.int b2), (.int b3)] (.int 0)) (Scs : Sta Z h0 STx "COMPACT_STRINGS" "Z" (.int cs)) (nts : tx ≠ a1) (nvs : va ≠ a1) (G1 : n0 ≤ a1) (P_cs : ¬ (cs = (0 : Int32))) (d0 : ¬ (b0 = (10 : Int32))) (d1 : b1 = (10 : Int32)) :
    MetFree l (⟨TC, "skipRestOfLine", "()V"⟩ : MethodName) (head1 (Jvm.Cond.code (⟨TC, "skipRestOfLine", "()V"⟩ : MethodName) prog_63_method_8_code 2 none :: ws) ({ frames := 4, cells := 0, slots := 0, locals := 58 } : Room)) (fun a U => a = #[(.ref a1)] ∧ Z.Warmed39 U.vm ∧ U.heap = h0) (fun _ _ _ _ _ => True) (fun _ U o U' => ∃ v L, o = .returned v ∧ Q_rmSkip1 Z a1 tx va kb b0 b1 b2 b3 cs h0 n0 v U'.heap L ∧ FrameEnd U o U' L ({ frames := 4, cells := 0, slots := 0, locals := 58 } : Room).cells ({ frames := 4, cells := 0, slots := 0, locals := 58 } : Room).slots) := by
  refine MetFree.of_bodySF (plainFor_of_name pn_4) hisR ?_
  intro p e s m args below meth c s₁ Bd hml0 hP hK
  obtain ⟨rfl, hZ, hh⟩ := hP
  have hx := Bd.exec
  have hby := Bd.bytes
  have hml : c.maxLocals = 2 := hml0
  have hown : s.vm.findClass TC = some m.cls := findClass_of_methodNamed Bd.named
  have hnm := (name_of_methodNamed Bd.named Bd.method).1
  have X0 : Stand p l e ({ frames := 4, cells := 0, slots := 0, locals := 58 } : Room) s m #[(.ref a1)] below meth c s₁ [] 0 0 := Stand.of_body Bd
  have e0 : s₁.heap = h0 := by rw [← hh, Bd.state]; rfl
  have N0 := Fr.nil n0
  refine own_go (own_lift (fun t k => castTop (ef_rmSkip1 m a1) k) ?_)
  show own_Go p.tables e below (s₁.setTop (mkF m 0 #[rv a1, .unset] [])) _
  have sg1 : ∀ t, Steps p.tables e below (s₁.setTop (mkF m 1 #[rv a1, .unset] [(.ref a1)])) t → Steps p.tables e below (s₁.setTop (mkF m 0 #[rv a1, .unset] [])) t := by
    intro t k
    refine XS.aloadN X0.here hx rfl (hb hby d15_0) rfl rfl ?_
    show Steps p.tables e below (s₁.setTop (mkF m 1 #[rv a1, .unset] [(.ref a1)])) _
    exact k
  refine own_lift sg1 ?_
  show own_Go p.tables e below (s₁.setTop (mkF m 1 #[rv a1, .unset] [(.ref a1)])) _
  obtain ⟨T2, X2, e2, st2⟩ := getF X0 hx hZ hown (host := "") (Or.inl (wd hw 45 rfl)) Via.refl e0 Fct (g := (mkF m 1 #[rv a1, .unset] [(.ref a1)])) rfl rfl (hb hby d15_1)
  refine own_lift st2 ?_
  show own_Go p.tables e below (T2.setTop (mkF m 4 #[rv a1, .unset] [(.ref tx)])) _
  have sg3 : ∀ t, Steps p.tables e below (T2.setTop (mkF m 7 #[rv a1, .unset] [(.ref a1), (.int 10), (.ref tx)])) t → Steps p.tables e below (T2.setTop (mkF m 4 #[rv a1, .unset] [(.ref tx)])) t := by
    intro t k
    refine XS.bipush X2.here hx rfl (hb hby d15_4) ?_
    show Steps p.tables e below (T2.setTop (mkF m 6 #[rv a1, .unset] [(.int 10), (.ref tx)])) _
    refine XS.aloadN X2.here hx rfl (hb hby d15_6) rfl rfl ?_
    show Steps p.tables e below (T2.setTop (mkF m 7 #[rv a1, .unset] [(.ref a1), (.int 10), (.ref tx)])) _
    exact k
  refine own_lift sg3 ?_
  show own_Go p.tables e below (T2.setTop (mkF m 7 #[rv a1, .unset] [(.ref a1), (.int 10), (.ref tx)])) _
  obtain ⟨T4, X4, e4, st4⟩ := getF X2 hx hZ hown (host := "") (Or.inl (wd hw 52 rfl)) Via.refl e2 Fco (g := (mkF m 7 #[rv a1, .unset] [(.ref a1), (.int 10), (.ref tx)])) rfl rfl (hb hby d15_7)
  refine own_lift st4 ?_
  show own_Go p.tables e below (T4.setTop (mkF m 10 #[rv a1, .unset] [(.int 0), (.int 10), (.ref tx)])) _
  obtain ⟨cq5, kq5, q5a, q5b, q5c⟩ := isOf hZ e4 Es
  obtain ⟨_, _, ⟨T5, Lx5, kx5, nx5⟩, -, X5, ⟨Lc5, hQ5, lx5, yx5, zx5⟩, st5⟩ := X4.virtualBack hx (y := (⟨STx, "indexOf", "(II)I"⟩ : MethodName)) (z := (⟨STx, "indexOf", "(II)I"⟩ : MethodName)) hown (mvT hZ (wd hw 54 rfl)) (mvT hZ (wd hw 55 rfl)) (notFace_of_selects (args := #[]) (mvT hZ (wd hw 57 rfl))) (mvT hZ (wd hw 57 rfl)) (mvT hZ (wd hw 56 rfl)) (by decide) (backOf (W := 0) (rmIds1 l Z a0 hw [] tx va kb b0 b1 b2 b3 cs h0 n0 Z0 Es Fsv Fsc Ars Scs P_cs d0 d1) hZ (wd hw 58 rfl) (wd hw 10 rfl) (by decide) (by decide)) q5a q5c (g := (mkF m 10 #[rv a1, .unset] [(.int 0), (.int 10), (.ref tx)])) rfl (by rw [hml]; rfl) (Steps.refl _) (argsL := [(.int 10), (.int 0)]) (rest := []) (lenOf pd_2 rfl) rfl (by show 2 * 0 + _ ≤ _; exact Nat.le_of_eq rfl) (hb hby d15_10) (fun _ _ => ⟨rfl, e4, (by decide : 0 + 0 ≤ _), (by decide : 0 + 0 ≤ _)⟩)
  dsimp only [Pt.U, Pt.locs, Pt.cells, Pt.slots] at X5 lx5 yx5 zx5 st5 hQ5
  subst lx5 yx5 zx5
  obtain ⟨rfl, N5q, e5⟩ := hQ5
  have N5 := Fr.app N0 N5q
  refine own_lift (fun t k => st5.trans k) ?_
  show own_Go p.tables e below (T5.setTop (mkF m 13 #[rv a1, .unset] [(.int 1)])) _
  have sg6 : ∀ t, Steps p.tables e below (T5.setTop (mkF m 31 #[rv a1, iv 1] [(.ref a1), (.int 1), (.ref a1)])) t → Steps p.tables e below (T5.setTop (mkF m 13 #[rv a1, .unset] [(.int 1)])) t := by
    intro t k
    refine XS.istoreN X5.here hx rfl (hb hby d15_13) rfl (l' := #[rv a1, iv 1]) rfl ?_
    show Steps p.tables e below (T5.setTop (mkF m 14 #[rv a1, iv 1] [])) _
    refine XS.aloadN X5.here hx rfl (hb hby d15_14) rfl rfl ?_
    refine XS.iloadN X5.here hx rfl (hb hby d15_15) rfl ?_
    refine XS.ifYes X5.here hx rfl (pc0 := 16) (pc' := 29) rfl (hb hby d15_16) rfl ((if0 _ _).trans (flt (by decide : ¬ ((1 : Int32) < (0 : Int32)))).2.1) (by decide) (by decide) ?_
    show Steps p.tables e below (T5.setTop (mkF m 29 #[rv a1, iv 1] [(.ref a1)])) _
    refine XS.iloadN X5.here hx rfl (hb hby d15_29) rfl ?_
    refine XS.aloadN X5.here hx rfl (hb hby d15_30) rfl rfl ?_
    show Steps p.tables e below (T5.setTop (mkF m 31 #[rv a1, iv 1] [(.ref a1), (.int 1), (.ref a1)])) _
    exact k
  refine own_lift sg6 ?_
  show own_Go p.tables e below (T5.setTop (mkF m 31 #[rv a1, iv 1] [(.ref a1), (.int 1), (.ref a1)])) _
  obtain ⟨T7, X7, e7, st7⟩ := getF X5 hx hZ hown (host := "") (Or.inl (wd hw 52 rfl)) Via.refl e5 Fco (g := (mkF m 31 #[rv a1, iv 1] [(.ref a1), (.int 1), (.ref a1)])) rfl rfl (hb hby d15_31)
  refine own_lift st7 ?_
  show own_Go p.tables e below (T7.setTop (mkF m 34 #[rv a1, iv 1] [(.int 0), (.int 1), (.ref a1)])) _
  have sg8 : ∀ t, Steps p.tables e below (T7.setTop (mkF m 35 #[rv a1, iv 1] [(.int 1), (.ref a1)])) t → Steps p.tables e below (T7.setTop (mkF m 34 #[rv a1, iv 1] [(.int 0), (.int 1), (.ref a1)])) t := by
    intro t k
    refine XS.isub X7.here hx rfl (hb hby d15_34) rfl ?_
    show Steps p.tables e below (T7.setTop (mkF m 35 #[rv a1, iv 1] [(.int 1), (.ref a1)])) _
    exact k
  refine own_lift sg8 ?_
  show own_Go p.tables e below (T7.setTop (mkF m 35 #[rv a1, iv 1] [(.int 1), (.ref a1)])) _
  obtain ⟨cq9, q9, q9'⟩ := Ec.cell
  obtain ⟨_, _, ⟨T9, Lx9, kx9, nx9⟩, -, X9, ⟨Lc9, hQ9, lx9, yx9, zx9⟩, st9⟩ := X7.privateBack hx (y := (⟨TC, "advance", "(I)V"⟩ : MethodName)) hown (mvT hZ (wd hw 91 rfl)) (mvT hZ (wd hw 92 rfl)) (own_selp (y := (⟨TC, "advance", "(I)V"⟩ : MethodName)) hZ (wd hw 6 rfl) (wd hw 93 rfl) (wd hw 92 rfl) (by decide)) (Cond.privateMethod_at (mvP hZ (wd hw 93 rfl) (args := #[]))) (mvT hZ (wd hw 94 rfl)) (by decide) (backOf (W := 0) (rmAdv l Z a0 hw [] a1 (1 : Int32) tx (1 : Int32) (1 : Int32) va kb b0 b1 b2 b3 cs h0 n0 Z0 Ec Fct Fco Fcc Fcl Es Fsv Fsc Ars Scs nts nvs G1 P_cs (by decide : ¬ ((1 : Int32) < (0 : Int32))) (by decide : ¬ ((4 : Int32) < (1 : Int32)))) hZ (wd hw 94 rfl) (wd hw 7 rfl) (by decide) (by decide)) (g := (mkF m 35 #[rv a1, iv 1] [(.int 1), (.ref a1)])) rfl (by rw [hml]; rfl) (Steps.refl _) (a := a1) (by rw [e7]; exact q9) q9' (argsL := [(.int 1)]) (rest := []) (lenOf pd_8 rfl) rfl (by show 2 * 0 + _ ≤ _; exact Nat.le_of_eq rfl) (hb hby d15_35) (fun _ _ => ⟨rfl, e7, (by decide : 0 + 0 ≤ _), (by decide : 0 + 0 ≤ _)⟩)
  dsimp only [Pt.U, Pt.locs, Pt.cells, Pt.slots] at X9 lx9 yx9 zx9 st9 hQ9
  subst lx9 yx9 zx9
  obtain ⟨rfl, N9q, p9_0, p9_1, p9_2, p9_3, p9_4, p9_5⟩ := hQ9
  have N9 := Fr.app N5 N9q
  have Z9 : n0 ≤ T9.heap.size := Nat.le_trans Z0 p9_0.1
  have K9 : Keep h0 T9.heap [a1] := (Keep.refl h0 [a1]).trans p9_0 (allS (Or.inl (List.mem_of_getElem? (i := 0) rfl)) all0)
  refine own_lift (fun t k => st9.trans k) ?_
  show own_Go p.tables e below (T9.setTop (mkF m 38 #[rv a1, iv 1] [])) _
  obtain ⟨fs, hr, hrun, hended, hW, hsame⟩ := X9.leave (v := none) (fun _ => rfl)
  refine ⟨_, _, ?_, hrun, hended, _, _, rfl, ?_, ⟨_, rfl⟩, hW, hsame.mono (by decide) (by decide)⟩
  · exact X9.returnOut hx Bd.returns (hb hby d15_38) hr
  · show Q_rmSkip1 Z a1 tx va kb b0 b1 b2 b3 cs h0 n0 _ T9.heap _
    exact ⟨rfl, N9, K9, p9_1, p9_2, p9_3, p9_4, p9_5⟩
def Q_rmSkip2 (Z : State) (a1 : Addr) (tx : Addr) (va : Addr) (kb : ClassId) (b0 : Int32) (b1 : Int32) (b2 : Int32) (b3 : Int32) (cs : Int32) (h0 : Heap) (n0 : Nat) (v : Option Value) (h : Heap) (L : List Loc) : Prop := v = none ∧ Fr n0 L ∧ Keep h0 h [a1] ∧ Exa Z h a1 TC ∧ Fld Z h a1 TC "text" dSx (.ref tx) ∧ Fld Z h a1 TC "offset" "I" (.int 2) ∧ Fld Z h a1 TC "column" "I" (.int 3) ∧ Fld Z h a1 TC "line" "I" (.int 1)
theorem ef_rmSkip2 (m : MethodId) (x0 : Addr) : entryFrame m #[(.ref x0)] 2 = mkF m 0 #[.val (.ref x0), .unset] [] := by first | (simp [entryFrame, mkF, argsToLocals, Value.category]; done) | rfl
set_option maxRecDepth 65536 in
set_option maxHeartbeats 40000000 in
theorem rmSkip2 (l : Launch) (Z : State) (a0 : Array Value) (hw : ∀ d ∈ tables_1, d.before a0 Z = true) (ws : List Jvm.Cond) (a1 : Addr) (tx : Addr) (va : Addr) (kb : ClassId) (b0 : Int32) (b1 : Int32) (b2 : Int32) (b3 : Int32) (cs : Int32) (h0 : Heap) (n0 : Nat) (Z0 : n0 ≤ h0.size) (Ec : Exa Z h0 a1 TC) (Fct : Fld Z h0 a1 TC "text" dSx (.ref tx)) (Fco : Fld Z h0 a1 TC "offset" "I" (.int 0)) (Fcc : Fld Z h0 a1 TC "column" "I" (.int 1)) (Fcl : Fld Z h0 a1 TC "line" "I" (.int 1)) (Es : Exa Z h0 tx STx) (Fsv : Fld Z h0 tx STx "value" "[B" (.ref va)) (Fsc : Fld Z h0 tx STx "coder" "B" (.int 0)) (Ars : Arv Z h0 va kb .byte (4 : Int32) [(.int b0), (.int b1), (.int b2), (.int b3)] (.int 0)) (Scs : Sta Z h0 STx "COMPACT_STRINGS" "Z" (.int cs)) (nts : tx ≠ a1) (nvs : va ≠ a1) (G1 : n0 ≤ a1) (P_cs : ¬ (cs = (0 : Int32))) (d0 : ¬ (b0 = (10 : Int32))) (d1 : ¬ (b1 = (10 : Int32))) (d2 : b2 = (10 : Int32)) :
    MetFree l (⟨TC, "skipRestOfLine", "()V"⟩ : MethodName) (head1 (Jvm.Cond.code (⟨TC, "skipRestOfLine", "()V"⟩ : MethodName) prog_63_method_8_code 2 none :: ws) ({ frames := 4, cells := 0, slots := 0, locals := 58 } : Room)) (fun a U => a = #[(.ref a1)] ∧ Z.Warmed39 U.vm ∧ U.heap = h0) (fun _ _ _ _ _ => True) (fun _ U o U' => ∃ v L, o = .returned v ∧ Q_rmSkip2 Z a1 tx va kb b0 b1 b2 b3 cs h0 n0 v U'.heap L ∧ FrameEnd U o U' L ({ frames := 4, cells := 0, slots := 0, locals := 58 } : Room).cells ({ frames := 4, cells := 0, slots := 0, locals := 58 } : Room).slots) := by
  refine MetFree.of_bodySF (plainFor_of_name pn_4) hisR ?_
  intro p e s m args below meth c s₁ Bd hml0 hP hK
  obtain ⟨rfl, hZ, hh⟩ := hP
  have hx := Bd.exec
  have hby := Bd.bytes
  have hml : c.maxLocals = 2 := hml0
  have hown : s.vm.findClass TC = some m.cls := findClass_of_methodNamed Bd.named
  have hnm := (name_of_methodNamed Bd.named Bd.method).1
  have X0 : Stand p l e ({ frames := 4, cells := 0, slots := 0, locals := 58 } : Room) s m #[(.ref a1)] below meth c s₁ [] 0 0 := Stand.of_body Bd
  have e0 : s₁.heap = h0 := by rw [← hh, Bd.state]; rfl
  have N0 := Fr.nil n0
  refine own_go (own_lift (fun t k => castTop (ef_rmSkip2 m a1) k) ?_)
  show own_Go p.tables e below (s₁.setTop (mkF m 0 #[rv a1, .unset] [])) _
  have sg1 : ∀ t, Steps p.tables e below (s₁.setTop (mkF m 1 #[rv a1, .unset] [(.ref a1)])) t → Steps p.tables e below (s₁.setTop (mkF m 0 #[rv a1, .unset] [])) t := by
    intro t k
    refine XS.aloadN X0.here hx rfl (hb hby d15_0) rfl rfl ?_
    show Steps p.tables e below (s₁.setTop (mkF m 1 #[rv a1, .unset] [(.ref a1)])) _
    exact k
  refine own_lift sg1 ?_
  show own_Go p.tables e below (s₁.setTop (mkF m 1 #[rv a1, .unset] [(.ref a1)])) _
  obtain ⟨T2, X2, e2, st2⟩ := getF X0 hx hZ hown (host := "") (Or.inl (wd hw 45 rfl)) Via.refl e0 Fct (g := (mkF m 1 #[rv a1, .unset] [(.ref a1)])) rfl rfl (hb hby d15_1)
  refine own_lift st2 ?_
  show own_Go p.tables e below (T2.setTop (mkF m 4 #[rv a1, .unset] [(.ref tx)])) _
  have sg3 : ∀ t, Steps p.tables e below (T2.setTop (mkF m 7 #[rv a1, .unset] [(.ref a1), (.int 10), (.ref tx)])) t → Steps p.tables e below (T2.setTop (mkF m 4 #[rv a1, .unset] [(.ref tx)])) t := by
    intro t k
    refine XS.bipush X2.here hx rfl (hb hby d15_4) ?_
    show Steps p.tables e below (T2.setTop (mkF m 6 #[rv a1, .unset] [(.int 10), (.ref tx)])) _
    refine XS.aloadN X2.here hx rfl (hb hby d15_6) rfl rfl ?_
    show Steps p.tables e below (T2.setTop (mkF m 7 #[rv a1, .unset] [(.ref a1), (.int 10), (.ref tx)])) _
    exact k
  refine own_lift sg3 ?_
  show own_Go p.tables e below (T2.setTop (mkF m 7 #[rv a1, .unset] [(.ref a1), (.int 10), (.ref tx)])) _
  obtain ⟨T4, X4, e4, st4⟩ := getF X2 hx hZ hown (host := "") (Or.inl (wd hw 52 rfl)) Via.refl e2 Fco (g := (mkF m 7 #[rv a1, .unset] [(.ref a1), (.int 10), (.ref tx)])) rfl rfl (hb hby d15_7)
  refine own_lift st4 ?_
  show own_Go p.tables e below (T4.setTop (mkF m 10 #[rv a1, .unset] [(.int 0), (.int 10), (.ref tx)])) _
  obtain ⟨cq5, kq5, q5a, q5b, q5c⟩ := isOf hZ e4 Es
  obtain ⟨_, _, ⟨T5, Lx5, kx5, nx5⟩, -, X5, ⟨Lc5, hQ5, lx5, yx5, zx5⟩, st5⟩ := X4.virtualBack hx (y := (⟨STx, "indexOf", "(II)I"⟩ : MethodName)) (z := (⟨STx, "indexOf", "(II)I"⟩ : MethodName)) hown (mvT hZ (wd hw 54 rfl)) (mvT hZ (wd hw 55 rfl)) (notFace_of_selects (args := #[]) (mvT hZ (wd hw 57 rfl))) (mvT hZ (wd hw 57 rfl)) (mvT hZ (wd hw 56 rfl)) (by decide) (backOf (W := 0) (rmIds2 l Z a0 hw [] tx va kb b0 b1 b2 b3 cs h0 n0 Z0 Es Fsv Fsc Ars Scs P_cs d0 d1 d2) hZ (wd hw 58 rfl) (wd hw 10 rfl) (by decide) (by decide)) q5a q5c (g := (mkF m 10 #[rv a1, .unset] [(.int 0), (.int 10), (.ref tx)])) rfl (by rw [hml]; rfl) (Steps.refl _) (argsL := [(.int 10), (.int 0)]) (rest := []) (lenOf pd_2 rfl) rfl (by show 2 * 0 + _ ≤ _; exact Nat.le_of_eq rfl) (hb hby d15_10) (fun _ _ => ⟨rfl, e4, (by decide : 0 + 0 ≤ _), (by decide : 0 + 0 ≤ _)⟩)
  dsimp only [Pt.U, Pt.locs, Pt.cells, Pt.slots] at X5 lx5 yx5 zx5 st5 hQ5
  subst lx5 yx5 zx5
  obtain ⟨rfl, N5q, e5⟩ := hQ5
  have N5 := Fr.app N0 N5q
  refine own_lift (fun t k => st5.trans k) ?_
  show own_Go p.tables e below (T5.setTop (mkF m 13 #[rv a1, .unset] [(.int 2)])) _
  have sg6 : ∀ t, Steps p.tables e below (T5.setTop (mkF m 31 #[rv a1, iv 2] [(.ref a1), (.int 2), (.ref a1)])) t → Steps p.tables e below (T5.setTop (mkF m 13 #[rv a1, .unset] [(.int 2)])) t := by
    intro t k
    refine XS.istoreN X5.here hx rfl (hb hby d15_13) rfl (l' := #[rv a1, iv 2]) rfl ?_
    show Steps p.tables e below (T5.setTop (mkF m 14 #[rv a1, iv 2] [])) _
    refine XS.aloadN X5.here hx rfl (hb hby d15_14) rfl rfl ?_
    refine XS.iloadN X5.here hx rfl (hb hby d15_15) rfl ?_
    refine XS.ifYes X5.here hx rfl (pc0 := 16) (pc' := 29) rfl (hb hby d15_16) rfl ((if0 _ _).trans (flt (by decide : ¬ ((2 : Int32) < (0 : Int32)))).2.1) (by decide) (by decide) ?_
    show Steps p.tables e below (T5.setTop (mkF m 29 #[rv a1, iv 2] [(.ref a1)])) _
    refine XS.iloadN X5.here hx rfl (hb hby d15_29) rfl ?_
    refine XS.aloadN X5.here hx rfl (hb hby d15_30) rfl rfl ?_
    show Steps p.tables e below (T5.setTop (mkF m 31 #[rv a1, iv 2] [(.ref a1), (.int 2), (.ref a1)])) _
    exact k
  refine own_lift sg6 ?_
  show own_Go p.tables e below (T5.setTop (mkF m 31 #[rv a1, iv 2] [(.ref a1), (.int 2), (.ref a1)])) _
  obtain ⟨T7, X7, e7, st7⟩ := getF X5 hx hZ hown (host := "") (Or.inl (wd hw 52 rfl)) Via.refl e5 Fco (g := (mkF m 31 #[rv a1, iv 2] [(.ref a1), (.int 2), (.ref a1)])) rfl rfl (hb hby d15_31)
  refine own_lift st7 ?_
  show own_Go p.tables e below (T7.setTop (mkF m 34 #[rv a1, iv 2] [(.int 0), (.int 2), (.ref a1)])) _
  have sg8 : ∀ t, Steps p.tables e below (T7.setTop (mkF m 35 #[rv a1, iv 2] [(.int 2), (.ref a1)])) t → Steps p.tables e below (T7.setTop (mkF m 34 #[rv a1, iv 2] [(.int 0), (.int 2), (.ref a1)])) t := by
    intro t k
    refine XS.isub X7.here hx rfl (hb hby d15_34) rfl ?_
    show Steps p.tables e below (T7.setTop (mkF m 35 #[rv a1, iv 2] [(.int 2), (.ref a1)])) _
    exact k
  refine own_lift sg8 ?_
  show own_Go p.tables e below (T7.setTop (mkF m 35 #[rv a1, iv 2] [(.int 2), (.ref a1)])) _
  obtain ⟨cq9, q9, q9'⟩ := Ec.cell
  obtain ⟨_, _, ⟨T9, Lx9, kx9, nx9⟩, -, X9, ⟨Lc9, hQ9, lx9, yx9, zx9⟩, st9⟩ := X7.privateBack hx (y := (⟨TC, "advance", "(I)V"⟩ : MethodName)) hown (mvT hZ (wd hw 91 rfl)) (mvT hZ (wd hw 92 rfl)) (own_selp (y := (⟨TC, "advance", "(I)V"⟩ : MethodName)) hZ (wd hw 6 rfl) (wd hw 93 rfl) (wd hw 92 rfl) (by decide)) (Cond.privateMethod_at (mvP hZ (wd hw 93 rfl) (args := #[]))) (mvT hZ (wd hw 94 rfl)) (by decide) (backOf (W := 0) (rmAdv l Z a0 hw [] a1 (2 : Int32) tx (1 : Int32) (1 : Int32) va kb b0 b1 b2 b3 cs h0 n0 Z0 Ec Fct Fco Fcc Fcl Es Fsv Fsc Ars Scs nts nvs G1 P_cs (by decide : ¬ ((2 : Int32) < (0 : Int32))) (by decide : ¬ ((4 : Int32) < (2 : Int32)))) hZ (wd hw 94 rfl) (wd hw 7 rfl) (by decide) (by decide)) (g := (mkF m 35 #[rv a1, iv 2] [(.int 2), (.ref a1)])) rfl (by rw [hml]; rfl) (Steps.refl _) (a := a1) (by rw [e7]; exact q9) q9' (argsL := [(.int 2)]) (rest := []) (lenOf pd_8 rfl) rfl (by show 2 * 0 + _ ≤ _; exact Nat.le_of_eq rfl) (hb hby d15_35) (fun _ _ => ⟨rfl, e7, (by decide : 0 + 0 ≤ _), (by decide : 0 + 0 ≤ _)⟩)
  dsimp only [Pt.U, Pt.locs, Pt.cells, Pt.slots] at X9 lx9 yx9 zx9 st9 hQ9
  subst lx9 yx9 zx9
  obtain ⟨rfl, N9q, p9_0, p9_1, p9_2, p9_3, p9_4, p9_5⟩ := hQ9
  have N9 := Fr.app N5 N9q
  have Z9 : n0 ≤ T9.heap.size := Nat.le_trans Z0 p9_0.1
  have K9 : Keep h0 T9.heap [a1] := (Keep.refl h0 [a1]).trans p9_0 (allS (Or.inl (List.mem_of_getElem? (i := 0) rfl)) all0)
  refine own_lift (fun t k => st9.trans k) ?_
  show own_Go p.tables e below (T9.setTop (mkF m 38 #[rv a1, iv 2] [])) _
  obtain ⟨fs, hr, hrun, hended, hW, hsame⟩ := X9.leave (v := none) (fun _ => rfl)
  refine ⟨_, _, ?_, hrun, hended, _, _, rfl, ?_, ⟨_, rfl⟩, hW, hsame.mono (by decide) (by decide)⟩
  · exact X9.returnOut hx Bd.returns (hb hby d15_38) hr
  · show Q_rmSkip2 Z a1 tx va kb b0 b1 b2 b3 cs h0 n0 _ T9.heap _
    exact ⟨rfl, N9, K9, p9_1, p9_2, p9_3, p9_4, p9_5⟩
def Q_rmSkip3 (Z : State) (a1 : Addr) (tx : Addr) (va : Addr) (kb : ClassId) (b0 : Int32) (b1 : Int32) (b2 : Int32) (b3 : Int32) (cs : Int32) (h0 : Heap) (n0 : Nat) (v : Option Value) (h : Heap) (L : List Loc) : Prop := v = none ∧ Fr n0 L ∧ Keep h0 h [a1] ∧ Exa Z h a1 TC ∧ Fld Z h a1 TC "text" dSx (.ref tx) ∧ Fld Z h a1 TC "offset" "I" (.int 3) ∧ Fld Z h a1 TC "column" "I" (.int 4) ∧ Fld Z h a1 TC "line" "I" (.int 1)
theorem ef_rmSkip3 (m : MethodId) (x0 : Addr) : entryFrame m #[(.ref x0)] 2 = mkF m 0 #[.val (.ref x0), .unset] [] := by first | (simp [entryFrame, mkF, argsToLocals, Value.category]; done) | rfl
set_option maxRecDepth 65536 in
set_option maxHeartbeats 40000000 in
theorem rmSkip3 (l : Launch) (Z : State) (a0 : Array Value) (hw : ∀ d ∈ tables_1, d.before a0 Z = true) (ws : List Jvm.Cond) (a1 : Addr) (tx : Addr) (va : Addr) (kb : ClassId) (b0 : Int32) (b1 : Int32) (b2 : Int32) (b3 : Int32) (cs : Int32) (h0 : Heap) (n0 : Nat) (Z0 : n0 ≤ h0.size) (Ec : Exa Z h0 a1 TC) (Fct : Fld Z h0 a1 TC "text" dSx (.ref tx)) (Fco : Fld Z h0 a1 TC "offset" "I" (.int 0)) (Fcc : Fld Z h0 a1 TC "column" "I" (.int 1)) (Fcl : Fld Z h0 a1 TC "line" "I" (.int 1)) (Es : Exa Z h0 tx STx) (Fsv : Fld Z h0 tx STx "value" "[B" (.ref va)) (Fsc : Fld Z h0 tx STx "coder" "B" (.int 0)) (Ars : Arv Z h0 va kb .byte (4 : Int32) [(.int b0), (.int b1), (.int b2), (.int b3)] (.int 0)) (Scs : Sta Z h0 STx "COMPACT_STRINGS" "Z" (.int cs)) (nts : tx ≠ a1) (nvs : va ≠ a1) (G1 : n0 ≤ a1) (P_cs : ¬ (cs = (0 : Int32))) (d0 : ¬ (b0 = (10 : Int32))) (d1 : ¬ (b1 = (10 : Int32))) (d2 : ¬ (b2 = (10 : Int32))) (d3 : b3 = (10 : Int32)) :
    MetFree l (⟨TC, "skipRestOfLine", "()V"⟩ : MethodName) (head1 (Jvm.Cond.code (⟨TC, "skipRestOfLine", "()V"⟩ : MethodName) prog_63_method_8_code 2 none :: ws) ({ frames := 4, cells := 0, slots := 0, locals := 58 } : Room)) (fun a U => a = #[(.ref a1)] ∧ Z.Warmed39 U.vm ∧ U.heap = h0) (fun _ _ _ _ _ => True) (fun _ U o U' => ∃ v L, o = .returned v ∧ Q_rmSkip3 Z a1 tx va kb b0 b1 b2 b3 cs h0 n0 v U'.heap L ∧ FrameEnd U o U' L ({ frames := 4, cells := 0, slots := 0, locals := 58 } : Room).cells ({ frames := 4, cells := 0, slots := 0, locals := 58 } : Room).slots) := by
  refine MetFree.of_bodySF (plainFor_of_name pn_4) hisR ?_
  intro p e s m args below meth c s₁ Bd hml0 hP hK
  obtain ⟨rfl, hZ, hh⟩ := hP
  have hx := Bd.exec
  have hby := Bd.bytes
  have hml : c.maxLocals = 2 := hml0
  have hown : s.vm.findClass TC = some m.cls := findClass_of_methodNamed Bd.named
  have hnm := (name_of_methodNamed Bd.named Bd.method).1
  have X0 : Stand p l e ({ frames := 4, cells := 0, slots := 0, locals := 58 } : Room) s m #[(.ref a1)] below meth c s₁ [] 0 0 := Stand.of_body Bd
  have e0 : s₁.heap = h0 := by rw [← hh, Bd.state]; rfl
  have N0 := Fr.nil n0
  refine own_go (own_lift (fun t k => castTop (ef_rmSkip3 m a1) k) ?_)
  show own_Go p.tables e below (s₁.setTop (mkF m 0 #[rv a1, .unset] [])) _
  have sg1 : ∀ t, Steps p.tables e below (s₁.setTop (mkF m 1 #[rv a1, .unset] [(.ref a1)])) t → Steps p.tables e below (s₁.setTop (mkF m 0 #[rv a1, .unset] [])) t := by
    intro t k
    refine XS.aloadN X0.here hx rfl (hb hby d15_0) rfl rfl ?_
    show Steps p.tables e below (s₁.setTop (mkF m 1 #[rv a1, .unset] [(.ref a1)])) _
    exact k
  refine own_lift sg1 ?_
  show own_Go p.tables e below (s₁.setTop (mkF m 1 #[rv a1, .unset] [(.ref a1)])) _
  obtain ⟨T2, X2, e2, st2⟩ := getF X0 hx hZ hown (host := "") (Or.inl (wd hw 45 rfl)) Via.refl e0 Fct (g := (mkF m 1 #[rv a1, .unset] [(.ref a1)])) rfl rfl (hb hby d15_1)
  refine own_lift st2 ?_
  show own_Go p.tables e below (T2.setTop (mkF m 4 #[rv a1, .unset] [(.ref tx)])) _
  have sg3 : ∀ t, Steps p.tables e below (T2.setTop (mkF m 7 #[rv a1, .unset] [(.ref a1), (.int 10), (.ref tx)])) t → Steps p.tables e below (T2.setTop (mkF m 4 #[rv a1, .unset] [(.ref tx)])) t := by
    intro t k
    refine XS.bipush X2.here hx rfl (hb hby d15_4) ?_
    show Steps p.tables e below (T2.setTop (mkF m 6 #[rv a1, .unset] [(.int 10), (.ref tx)])) _
    refine XS.aloadN X2.here hx rfl (hb hby d15_6) rfl rfl ?_
    show Steps p.tables e below (T2.setTop (mkF m 7 #[rv a1, .unset] [(.ref a1), (.int 10), (.ref tx)])) _
    exact k
  refine own_lift sg3 ?_
  show own_Go p.tables e below (T2.setTop (mkF m 7 #[rv a1, .unset] [(.ref a1), (.int 10), (.ref tx)])) _
  obtain ⟨T4, X4, e4, st4⟩ := getF X2 hx hZ hown (host := "") (Or.inl (wd hw 52 rfl)) Via.refl e2 Fco (g := (mkF m 7 #[rv a1, .unset] [(.ref a1), (.int 10), (.ref tx)])) rfl rfl (hb hby d15_7)
  refine own_lift st4 ?_
  show own_Go p.tables e below (T4.setTop (mkF m 10 #[rv a1, .unset] [(.int 0), (.int 10), (.ref tx)])) _
  obtain ⟨cq5, kq5, q5a, q5b, q5c⟩ := isOf hZ e4 Es
  obtain ⟨_, _, ⟨T5, Lx5, kx5, nx5⟩, -, X5, ⟨Lc5, hQ5, lx5, yx5, zx5⟩, st5⟩ := X4.virtualBack hx (y := (⟨STx, "indexOf", "(II)I"⟩ : MethodName)) (z := (⟨STx, "indexOf", "(II)I"⟩ : MethodName)) hown (mvT hZ (wd hw 54 rfl)) (mvT hZ (wd hw 55 rfl)) (notFace_of_selects (args := #[]) (mvT hZ (wd hw 57 rfl))) (mvT hZ (wd hw 57 rfl)) (mvT hZ (wd hw 56 rfl)) (by decide) (backOf (W := 0) (rmIds3 l Z a0 hw [] tx va kb b0 b1 b2 b3 cs h0 n0 Z0 Es Fsv Fsc Ars Scs P_cs d0 d1 d2 d3) hZ (wd hw 58 rfl) (wd hw 10 rfl) (by decide) (by decide)) q5a q5c (g := (mkF m 10 #[rv a1, .unset] [(.int 0), (.int 10), (.ref tx)])) rfl (by rw [hml]; rfl) (Steps.refl _) (argsL := [(.int 10), (.int 0)]) (rest := []) (lenOf pd_2 rfl) rfl (by show 2 * 0 + _ ≤ _; exact Nat.le_of_eq rfl) (hb hby d15_10) (fun _ _ => ⟨rfl, e4, (by decide : 0 + 0 ≤ _), (by decide : 0 + 0 ≤ _)⟩)
  dsimp only [Pt.U, Pt.locs, Pt.cells, Pt.slots] at X5 lx5 yx5 zx5 st5 hQ5
  subst lx5 yx5 zx5
  obtain ⟨rfl, N5q, e5⟩ := hQ5
  have N5 := Fr.app N0 N5q
  refine own_lift (fun t k => st5.trans k) ?_
  show own_Go p.tables e below (T5.setTop (mkF m 13 #[rv a1, .unset] [(.int 3)])) _
  have sg6 : ∀ t, Steps p.tables e below (T5.setTop (mkF m 31 #[rv a1, iv 3] [(.ref a1), (.int 3), (.ref a1)])) t → Steps p.tables e below (T5.setTop (mkF m 13 #[rv a1, .unset] [(.int 3)])) t := by
    intro t k
    refine XS.istoreN X5.here hx rfl (hb hby d15_13) rfl (l' := #[rv a1, iv 3]) rfl ?_
    show Steps p.tables e below (T5.setTop (mkF m 14 #[rv a1, iv 3] [])) _
    refine XS.aloadN X5.here hx rfl (hb hby d15_14) rfl rfl ?_
    refine XS.iloadN X5.here hx rfl (hb hby d15_15) rfl ?_
    refine XS.ifYes X5.here hx rfl (pc0 := 16) (pc' := 29) rfl (hb hby d15_16) rfl ((if0 _ _).trans (flt (by decide : ¬ ((3 : Int32) < (0 : Int32)))).2.1) (by decide) (by decide) ?_
    show Steps p.tables e below (T5.setTop (mkF m 29 #[rv a1, iv 3] [(.ref a1)])) _
    refine XS.iloadN X5.here hx rfl (hb hby d15_29) rfl ?_
    refine XS.aloadN X5.here hx rfl (hb hby d15_30) rfl rfl ?_
    show Steps p.tables e below (T5.setTop (mkF m 31 #[rv a1, iv 3] [(.ref a1), (.int 3), (.ref a1)])) _
    exact k
  refine own_lift sg6 ?_
  show own_Go p.tables e below (T5.setTop (mkF m 31 #[rv a1, iv 3] [(.ref a1), (.int 3), (.ref a1)])) _
  obtain ⟨T7, X7, e7, st7⟩ := getF X5 hx hZ hown (host := "") (Or.inl (wd hw 52 rfl)) Via.refl e5 Fco (g := (mkF m 31 #[rv a1, iv 3] [(.ref a1), (.int 3), (.ref a1)])) rfl rfl (hb hby d15_31)
  refine own_lift st7 ?_
  show own_Go p.tables e below (T7.setTop (mkF m 34 #[rv a1, iv 3] [(.int 0), (.int 3), (.ref a1)])) _
  have sg8 : ∀ t, Steps p.tables e below (T7.setTop (mkF m 35 #[rv a1, iv 3] [(.int 3), (.ref a1)])) t → Steps p.tables e below (T7.setTop (mkF m 34 #[rv a1, iv 3] [(.int 0), (.int 3), (.ref a1)])) t := by
    intro t k
    refine XS.isub X7.here hx rfl (hb hby d15_34) rfl ?_
    show Steps p.tables e below (T7.setTop (mkF m 35 #[rv a1, iv 3] [(.int 3), (.ref a1)])) _
    exact k
  refine own_lift sg8 ?_
  show own_Go p.tables e below (T7.setTop (mkF m 35 #[rv a1, iv 3] [(.int 3), (.ref a1)])) _
  obtain ⟨cq9, q9, q9'⟩ := Ec.cell
  obtain ⟨_, _, ⟨T9, Lx9, kx9, nx9⟩, -, X9, ⟨Lc9, hQ9, lx9, yx9, zx9⟩, st9⟩ := X7.privateBack hx (y := (⟨TC, "advance", "(I)V"⟩ : MethodName)) hown (mvT hZ (wd hw 91 rfl)) (mvT hZ (wd hw 92 rfl)) (own_selp (y := (⟨TC, "advance", "(I)V"⟩ : MethodName)) hZ (wd hw 6 rfl) (wd hw 93 rfl) (wd hw 92 rfl) (by decide)) (Cond.privateMethod_at (mvP hZ (wd hw 93 rfl) (args := #[]))) (mvT hZ (wd hw 94 rfl)) (by decide) (backOf (W := 0) (rmAdv l Z a0 hw [] a1 (3 : Int32) tx (1 : Int32) (1 : Int32) va kb b0 b1 b2 b3 cs h0 n0 Z0 Ec Fct Fco Fcc Fcl Es Fsv Fsc Ars Scs nts nvs G1 P_cs (by decide : ¬ ((3 : Int32) < (0 : Int32))) (by decide : ¬ ((4 : Int32) < (3 : Int32)))) hZ (wd hw 94 rfl) (wd hw 7 rfl) (by decide) (by decide)) (g := (mkF m 35 #[rv a1, iv 3] [(.int 3), (.ref a1)])) rfl (by rw [hml]; rfl) (Steps.refl _) (a := a1) (by rw [e7]; exact q9) q9' (argsL := [(.int 3)]) (rest := []) (lenOf pd_8 rfl) rfl (by show 2 * 0 + _ ≤ _; exact Nat.le_of_eq rfl) (hb hby d15_35) (fun _ _ => ⟨rfl, e7, (by decide : 0 + 0 ≤ _), (by decide : 0 + 0 ≤ _)⟩)
  dsimp only [Pt.U, Pt.locs, Pt.cells, Pt.slots] at X9 lx9 yx9 zx9 st9 hQ9
  subst lx9 yx9 zx9
  obtain ⟨rfl, N9q, p9_0, p9_1, p9_2, p9_3, p9_4, p9_5⟩ := hQ9
  have N9 := Fr.app N5 N9q
  have Z9 : n0 ≤ T9.heap.size := Nat.le_trans Z0 p9_0.1
  have K9 : Keep h0 T9.heap [a1] := (Keep.refl h0 [a1]).trans p9_0 (allS (Or.inl (List.mem_of_getElem? (i := 0) rfl)) all0)
  refine own_lift (fun t k => st9.trans k) ?_
  show own_Go p.tables e below (T9.setTop (mkF m 38 #[rv a1, iv 3] [])) _
  obtain ⟨fs, hr, hrun, hended, hW, hsame⟩ := X9.leave (v := none) (fun _ => rfl)
  refine ⟨_, _, ?_, hrun, hended, _, _, rfl, ?_, ⟨_, rfl⟩, hW, hsame.mono (by decide) (by decide)⟩
  · exact X9.returnOut hx Bd.returns (hb hby d15_38) hr
  · show Q_rmSkip3 Z a1 tx va kb b0 b1 b2 b3 cs h0 n0 _ T9.heap _
    exact ⟨rfl, N9, K9, p9_1, p9_2, p9_3, p9_4, p9_5⟩
theorem d15_19 : decode prog_63_method_8_code 19 = .ok (.aload_n 0, 1) := by decide +kernel
theorem d15_20 : decode prog_63_method_8_code 20 = .ok (.getfield 16, 3) := by decide +kernel
theorem d15_23 : decode prog_63_method_8_code 23 = .ok (.invokevirtual 33, 3) := by decide +kernel
theorem d15_26 : decode prog_63_method_8_code 26 = .ok (.goto 4, 3) := by decide +kernel
def Q_rmSkipn (Z : State) (a1 : Addr) (tx : Addr) (va : Addr) (kb : ClassId) (b0 : Int32) (b1 : Int32) (b2 : Int32) (b3 : Int32) (cs : Int32) (h0 : Heap) (n0 : Nat) (v : Option Value) (h : Heap) (L : List Loc) : Prop := v = none ∧ Fr n0 L ∧ Keep h0 h [a1] ∧ Exa Z h a1 TC ∧ Fld Z h a1 TC "text" dSx (.ref tx) ∧ Fld Z h a1 TC "offset" "I" (.int 4) ∧ Fld Z h a1 TC "column" "I" (.int 5) ∧ Fld Z h a1 TC "line" "I" (.int 1)
theorem ef_rmSkipn (m : MethodId) (x0 : Addr) : entryFrame m #[(.ref x0)] 2 = mkF m 0 #[.val (.ref x0), .unset] [] := by first | (simp [entryFrame, mkF, argsToLocals, Value.category]; done) | rfl
set_option maxRecDepth 65536 in
set_option maxHeartbeats 40000000 in
theorem rmSkipn (l : Launch) (Z : State) (a0 : Array Value) (hw : ∀ d ∈ tables_1, d.before a0 Z = true) (ws : List Jvm.Cond) (a1 : Addr) (tx : Addr) (va : Addr) (kb : ClassId) (b0 : Int32) (b1 : Int32) (b2 : Int32) (b3 : Int32) (cs : Int32) (h0 : Heap) (n0 : Nat) (Z0 : n0 ≤ h0.size) (Ec : Exa Z h0 a1 TC) (Fct : Fld Z h0 a1 TC "text" dSx (.ref tx)) (Fco : Fld Z h0 a1 TC "offset" "I" (.int 0)) (Fcc : Fld Z h0 a1 TC "column" "I" (.int 1)) (Fcl : Fld Z h0 a1 TC "line" "I" (.int 1)) (Es : Exa Z h0 tx STx) (Fsv : Fld Z h0 tx STx "value" "[B" (.ref va)) (Fsc : Fld Z h0 tx STx "coder" "B" (.int 0)) (Ars : Arv Z h0 va kb .byte (4 : Int32) [(.int b0), (.int b1), (.int b2), (.int b3)] (.int 0)) (Scs : Sta Z h0 STx "COMPACT_STRINGS" "Z" (.int cs)) (nts : tx ≠ a1) (nvs : va ≠ a1) (G1 : n0 ≤ a1) (P_cs : ¬ (cs = (0 : Int32))) (d0 : ¬ (b0 = (10 : Int32))) (d1 : ¬ (b1 = (10 : Int32))) (d2 : ¬ (b2 = (10 : Int32))) (d3 : ¬ (b3 = (10 : Int32))) :
    MetFree l (⟨TC, "skipRestOfLine", "()V"⟩ : MethodName) (head1 (Jvm.Cond.code (⟨TC, "skipRestOfLine", "()V"⟩ : MethodName) prog_63_method_8_code 2 none :: ws) ({ frames := 4, cells := 0, slots := 0, locals := 58 } : Room)) (fun a U => a = #[(.ref a1)] ∧ Z.Warmed39 U.vm ∧ U.heap = h0) (fun _ _ _ _ _ => True) (fun _ U o U' => ∃ v L, o = .returned v ∧ Q_rmSkipn Z a1 tx va kb b0 b1 b2 b3 cs h0 n0 v U'.heap L ∧ FrameEnd U o U' L ({ frames := 4, cells := 0, slots := 0, locals := 58 } : Room).cells ({ frames := 4, cells := 0, slots := 0, locals := 58 } : Room).slots) := by
  refine MetFree.of_bodySF (plainFor_of_name pn_4) hisR ?_
  intro p e s m args below meth c s₁ Bd hml0 hP hK
  obtain ⟨rfl, hZ, hh⟩ := hP
  have hx := Bd.exec
  have hby := Bd.bytes
  have hml : c.maxLocals = 2 := hml0
  have hown : s.vm.findClass TC = some m.cls := findClass_of_methodNamed Bd.named
  have hnm := (name_of_methodNamed Bd.named Bd.method).1
  have X0 : Stand p l e ({ frames := 4, cells := 0, slots := 0, locals := 58 } : Room) s m #[(.ref a1)] below meth c s₁ [] 0 0 := Stand.of_body Bd
  have e0 : s₁.heap = h0 := by rw [← hh, Bd.state]; rfl
  have N0 := Fr.nil n0
  refine own_go (own_lift (fun t k => castTop (ef_rmSkipn m a1) k) ?_)
  show own_Go p.tables e below (s₁.setTop (mkF m 0 #[rv a1, .unset] [])) _
  have sg1 : ∀ t, Steps p.tables e below (s₁.setTop (mkF m 1 #[rv a1, .unset] [(.ref a1)])) t → Steps p.tables e below (s₁.setTop (mkF m 0 #[rv a1, .unset] [])) t := by
    intro t k
    refine XS.aloadN X0.here hx rfl (hb hby d15_0) rfl rfl ?_
    show Steps p.tables e below (s₁.setTop (mkF m 1 #[rv a1, .unset] [(.ref a1)])) _
    exact k
  refine own_lift sg1 ?_
  show own_Go p.tables e below (s₁.setTop (mkF m 1 #[rv a1, .unset] [(.ref a1)])) _
  obtain ⟨T2, X2, e2, st2⟩ := getF X0 hx hZ hown (host := "") (Or.inl (wd hw 45 rfl)) Via.refl e0 Fct (g := (mkF m 1 #[rv a1, .unset] [(.ref a1)])) rfl rfl (hb hby d15_1)
  refine own_lift st2 ?_
  show own_Go p.tables e below (T2.setTop (mkF m 4 #[rv a1, .unset] [(.ref tx)])) _
  have sg3 : ∀ t, Steps p.tables e below (T2.setTop (mkF m 7 #[rv a1, .unset] [(.ref a1), (.int 10), (.ref tx)])) t → Steps p.tables e below (T2.setTop (mkF m 4 #[rv a1, .unset] [(.ref tx)])) t := by
    intro t k
    refine XS.bipush X2.here hx rfl (hb hby d15_4) ?_
    show Steps p.tables e below (T2.setTop (mkF m 6 #[rv a1, .unset] [(.int 10), (.ref tx)])) _
    refine XS.aloadN X2.here hx rfl (hb hby d15_6) rfl rfl ?_
    show Steps p.tables e below (T2.setTop (mkF m 7 #[rv a1, .unset] [(.ref a1), (.int 10), (.ref tx)])) _
    exact k
  refine own_lift sg3 ?_
  show own_Go p.tables e below (T2.setTop (mkF m 7 #[rv a1, .unset] [(.ref a1), (.int 10), (.ref tx)])) _
  obtain ⟨T4, X4, e4, st4⟩ := getF X2 hx hZ hown (host := "") (Or.inl (wd hw 52 rfl)) Via.refl e2 Fco (g := (mkF m 7 #[rv a1, .unset] [(.ref a1), (.int 10), (.ref tx)])) rfl rfl (hb hby d15_7)
  refine own_lift st4 ?_
  show own_Go p.tables e below (T4.setTop (mkF m 10 #[rv a1, .unset] [(.int 0), (.int 10), (.ref tx)])) _
  obtain ⟨cq5, kq5, q5a, q5b, q5c⟩ := isOf hZ e4 Es
  obtain ⟨_, _, ⟨T5, Lx5, kx5, nx5⟩, -, X5, ⟨Lc5, hQ5, lx5, yx5, zx5⟩, st5⟩ := X4.virtualBack hx (y := (⟨STx, "indexOf", "(II)I"⟩ : MethodName)) (z := (⟨STx, "indexOf", "(II)I"⟩ : MethodName)) hown (mvT hZ (wd hw 54 rfl)) (mvT hZ (wd hw 55 rfl)) (notFace_of_selects (args := #[]) (mvT hZ (wd hw 57 rfl))) (mvT hZ (wd hw 57 rfl)) (mvT hZ (wd hw 56 rfl)) (by decide) (backOf (W := 0) (rmIdsn l Z a0 hw [] tx va kb b0 b1 b2 b3 cs h0 n0 Z0 Es Fsv Fsc Ars Scs P_cs d0 d1 d2 d3) hZ (wd hw 58 rfl) (wd hw 10 rfl) (by decide) (by decide)) q5a q5c (g := (mkF m 10 #[rv a1, .unset] [(.int 0), (.int 10), (.ref tx)])) rfl (by rw [hml]; rfl) (Steps.refl _) (argsL := [(.int 10), (.int 0)]) (rest := []) (lenOf pd_2 rfl) rfl (by show 2 * 0 + _ ≤ _; exact Nat.le_of_eq rfl) (hb hby d15_10) (fun _ _ => ⟨rfl, e4, (by decide : 0 + 0 ≤ _), (by decide : 0 + 0 ≤ _)⟩)
  dsimp only [Pt.U, Pt.locs, Pt.cells, Pt.slots] at X5 lx5 yx5 zx5 st5 hQ5
  subst lx5 yx5 zx5
  obtain ⟨rfl, N5q, e5⟩ := hQ5
  have N5 := Fr.app N0 N5q
  refine own_lift (fun t k => st5.trans k) ?_
  show own_Go p.tables e below (T5.setTop (mkF m 13 #[rv a1, .unset] [(.int (-1))])) _
  have sg6 : ∀ t, Steps p.tables e below (T5.setTop (mkF m 20 #[rv a1, iv (-1)] [(.ref a1), (.ref a1)])) t → Steps p.tables e below (T5.setTop (mkF m 13 #[rv a1, .unset] [(.int (-1))])) t := by
    intro t k
    refine XS.istoreN X5.here hx rfl (hb hby d15_13) rfl (l' := #[rv a1, iv (-1)]) rfl ?_
    show Steps p.tables e below (T5.setTop (mkF m 14 #[rv a1, iv (-1)] [])) _
    refine XS.aloadN X5.here hx rfl (hb hby d15_14) rfl rfl ?_
    refine XS.iloadN X5.here hx rfl (hb hby d15_15) rfl ?_
    refine XS.ifNo X5.here hx rfl (hb hby d15_16) rfl ((if0 _ _).trans (tlt (by decide : (-1 : Int32) < (0 : Int32))).2.1) ?_
    show Steps p.tables e below (T5.setTop (mkF m 19 #[rv a1, iv (-1)] [(.ref a1)])) _
    refine XS.aloadN X5.here hx rfl (hb hby d15_19) rfl rfl ?_
    show Steps p.tables e below (T5.setTop (mkF m 20 #[rv a1, iv (-1)] [(.ref a1), (.ref a1)])) _
    exact k
  refine own_lift sg6 ?_
  show own_Go p.tables e below (T5.setTop (mkF m 20 #[rv a1, iv (-1)] [(.ref a1), (.ref a1)])) _
  obtain ⟨T7, X7, e7, st7⟩ := getF X5 hx hZ hown (host := "") (Or.inl (wd hw 45 rfl)) Via.refl e5 Fct (g := (mkF m 20 #[rv a1, iv (-1)] [(.ref a1), (.ref a1)])) rfl rfl (hb hby d15_20)
  refine own_lift st7 ?_
  show own_Go p.tables e below (T7.setTop (mkF m 23 #[rv a1, iv (-1)] [(.ref tx), (.ref a1)])) _
  obtain ⟨cq8, kq8, q8a, q8b, q8c⟩ := isOf hZ e7 Es
  obtain ⟨_, _, ⟨T8, Lx8, kx8, nx8⟩, -, X8, ⟨Lc8, hQ8, lx8, yx8, zx8⟩, st8⟩ := X7.virtualBack hx (y := (⟨STx, "length", "()I"⟩ : MethodName)) (z := (⟨STx, "length", "()I"⟩ : MethodName)) hown (mvT hZ (wd hw 113 rfl)) (mvT hZ (wd hw 65 rfl)) (notFace_of_selects (args := #[]) (mvT hZ (wd hw 67 rfl))) (mvT hZ (wd hw 67 rfl)) (mvT hZ (wd hw 66 rfl)) (by decide) (backOf (W := 1) (rmLen l Z a0 hw [] tx va kb b0 b1 b2 b3 cs h0 n0 Z0 Es Fsv Fsc Ars Scs P_cs) hZ (wd hw 68 rfl) (wd hw 10 rfl) (by decide) (by decide)) q8a q8c (g := (mkF m 23 #[rv a1, iv (-1)] [(.ref tx), (.ref a1)])) rfl (by rw [hml]; rfl) (Steps.refl _) (argsL := []) (rest := [(.ref a1)]) (lenOf pd_5 rfl) rfl (by show 2 * 0 + _ ≤ _; exact Nat.le_of_eq rfl) (hb hby d15_23) (fun _ _ => ⟨rfl, e7, (by decide : 0 + 0 ≤ _), (by decide : 0 + 0 ≤ _)⟩)
  dsimp only [Pt.U, Pt.locs, Pt.cells, Pt.slots] at X8 lx8 yx8 zx8 st8 hQ8
  subst lx8 yx8 zx8
  obtain ⟨rfl, N8q, e8⟩ := hQ8
  have N8 := Fr.app N5 N8q
  refine own_lift (fun t k => st8.trans k) ?_
  show own_Go p.tables e below (T8.setTop (mkF m 26 #[rv a1, iv (-1)] [(.int 4), (.ref a1)])) _
  have sg9 : ∀ t, Steps p.tables e below (T8.setTop (mkF m 31 #[rv a1, iv (-1)] [(.ref a1), (.int 4), (.ref a1)])) t → Steps p.tables e below (T8.setTop (mkF m 26 #[rv a1, iv (-1)] [(.int 4), (.ref a1)])) t := by
    intro t k
    refine XS.goto X8.here hx rfl (pc0 := 26) (pc' := 30) rfl (hb hby d15_26) (by decide) (by decide) ?_
    show Steps p.tables e below (T8.setTop (mkF m 30 #[rv a1, iv (-1)] [(.int 4), (.ref a1)])) _
    refine XS.aloadN X8.here hx rfl (hb hby d15_30) rfl rfl ?_
    show Steps p.tables e below (T8.setTop (mkF m 31 #[rv a1, iv (-1)] [(.ref a1), (.int 4), (.ref a1)])) _
    exact k
  refine own_lift sg9 ?_
  show own_Go p.tables e below (T8.setTop (mkF m 31 #[rv a1, iv (-1)] [(.ref a1), (.int 4), (.ref a1)])) _
  obtain ⟨T10, X10, e10, st10⟩ := getF X8 hx hZ hown (host := "") (Or.inl (wd hw 52 rfl)) Via.refl e8 Fco (g := (mkF m 31 #[rv a1, iv (-1)] [(.ref a1), (.int 4), (.ref a1)])) rfl rfl (hb hby d15_31)
  refine own_lift st10 ?_
  show own_Go p.tables e below (T10.setTop (mkF m 34 #[rv a1, iv (-1)] [(.int 0), (.int 4), (.ref a1)])) _
  have sg11 : ∀ t, Steps p.tables e below (T10.setTop (mkF m 35 #[rv a1, iv (-1)] [(.int 4), (.ref a1)])) t → Steps p.tables e below (T10.setTop (mkF m 34 #[rv a1, iv (-1)] [(.int 0), (.int 4), (.ref a1)])) t := by
    intro t k
    refine XS.isub X10.here hx rfl (hb hby d15_34) rfl ?_
    show Steps p.tables e below (T10.setTop (mkF m 35 #[rv a1, iv (-1)] [(.int 4), (.ref a1)])) _
    exact k
  refine own_lift sg11 ?_
  show own_Go p.tables e below (T10.setTop (mkF m 35 #[rv a1, iv (-1)] [(.int 4), (.ref a1)])) _
  obtain ⟨cq12, q12, q12'⟩ := Ec.cell
  obtain ⟨_, _, ⟨T12, Lx12, kx12, nx12⟩, -, X12, ⟨Lc12, hQ12, lx12, yx12, zx12⟩, st12⟩ := X10.privateBack hx (y := (⟨TC, "advance", "(I)V"⟩ : MethodName)) hown (mvT hZ (wd hw 91 rfl)) (mvT hZ (wd hw 92 rfl)) (own_selp (y := (⟨TC, "advance", "(I)V"⟩ : MethodName)) hZ (wd hw 6 rfl) (wd hw 93 rfl) (wd hw 92 rfl) (by decide)) (Cond.privateMethod_at (mvP hZ (wd hw 93 rfl) (args := #[]))) (mvT hZ (wd hw 94 rfl)) (by decide) (backOf (W := 0) (rmAdv l Z a0 hw [] a1 (4 : Int32) tx (1 : Int32) (1 : Int32) va kb b0 b1 b2 b3 cs h0 n0 Z0 Ec Fct Fco Fcc Fcl Es Fsv Fsc Ars Scs nts nvs G1 P_cs (by decide : ¬ ((4 : Int32) < (0 : Int32))) (by decide : ¬ ((4 : Int32) < (4 : Int32)))) hZ (wd hw 94 rfl) (wd hw 7 rfl) (by decide) (by decide)) (g := (mkF m 35 #[rv a1, iv (-1)] [(.int 4), (.ref a1)])) rfl (by rw [hml]; rfl) (Steps.refl _) (a := a1) (by rw [e10]; exact q12) q12' (argsL := [(.int 4)]) (rest := []) (lenOf pd_8 rfl) rfl (by show 2 * 0 + _ ≤ _; exact Nat.le_of_eq rfl) (hb hby d15_35) (fun _ _ => ⟨rfl, e10, (by decide : 0 + 0 ≤ _), (by decide : 0 + 0 ≤ _)⟩)
  dsimp only [Pt.U, Pt.locs, Pt.cells, Pt.slots] at X12 lx12 yx12 zx12 st12 hQ12
  subst lx12 yx12 zx12
  obtain ⟨rfl, N12q, p12_0, p12_1, p12_2, p12_3, p12_4, p12_5⟩ := hQ12
  have N12 := Fr.app N8 N12q
  have Z12 : n0 ≤ T12.heap.size := Nat.le_trans Z0 p12_0.1
  have K12 : Keep h0 T12.heap [a1] := (Keep.refl h0 [a1]).trans p12_0 (allS (Or.inl (List.mem_of_getElem? (i := 0) rfl)) all0)
  refine own_lift (fun t k => st12.trans k) ?_
  show own_Go p.tables e below (T12.setTop (mkF m 38 #[rv a1, iv (-1)] [])) _
  obtain ⟨fs, hr, hrun, hended, hW, hsame⟩ := X12.leave (v := none) (fun _ => rfl)
  refine ⟨_, _, ?_, hrun, hended, _, _, rfl, ?_, ⟨_, rfl⟩, hW, hsame.mono (by decide) (by decide)⟩
  · exact X12.returnOut hx Bd.returns (hb hby d15_38) hr
  · show Q_rmSkipn Z a1 tx va kb b0 b1 b2 b3 cs h0 n0 _ T12.heap _
    exact ⟨rfl, N12, K12, p12_1, p12_2, p12_3, p12_4, p12_5⟩
theorem d16_0 : decode jdk_41_method_11_code 0 = .ok (.iload_n 0, 1) := by decide +kernel
theorem d16_1 : decode jdk_41_method_11_code 1 = .ok (.ifCond .lt 8, 3) := by decide +kernel
theorem d16_4 : decode jdk_41_method_11_code 4 = .ok (.iload_n 0, 1) := by decide +kernel
theorem d16_5 : decode jdk_41_method_11_code 5 = .ok (.iload_n 1, 1) := by decide +kernel
theorem d16_6 : decode jdk_41_method_11_code 6 = .ok (.if_icmp .lt 10, 3) := by decide +kernel
theorem d16_16 : decode jdk_41_method_11_code 16 = .ok (.iload_n 0, 1) := by decide +kernel
theorem d16_17 : decode jdk_41_method_11_code 17 = .ok (.ireturn, 1) := by decide +kernel
def Q_rmPckN (Z : State) (p1 : Int32) (p2 : Int32) (h0 : Heap) (n0 : Nat) (v : Option Value) (h : Heap) (L : List Loc) : Prop := v = some (.int p1) ∧ Fr n0 L ∧ h = h0
theorem ef_rmPckN (m : MethodId) (x0 : Int32) (x1 : Int32) : entryFrame m #[(.int x0), (.int x1), .null] 3 = mkF m 0 #[.val (.int x0), .val (.int x1), .val .null] [] := by first | (simp [entryFrame, mkF, argsToLocals, Value.category]; done) | rfl
set_option maxRecDepth 65536 in
set_option maxHeartbeats 40000000 in
theorem rmPckN (l : Launch) (Z : State) (a0 : Array Value) (hw : ∀ d ∈ tables_1, d.before a0 Z = true) (ws : List Jvm.Cond) (p1 : Int32) (p2 : Int32) (h0 : Heap) (n0 : Nat) (Z0 : n0 ≤ h0.size)  (c1 : ¬ (p1 < (0 : Int32))) (c2 : p1 < p2) :
    MetFree l (⟨PCx, "checkIndex", "(IILjava/util/function/BiFunction;)I"⟩ : MethodName) (head1 (Jvm.Cond.code (⟨PCx, "checkIndex", "(IILjava/util/function/BiFunction;)I"⟩ : MethodName) jdk_41_method_11_code 3 (some .int) :: ws) ({ frames := 0, cells := 0, slots := 0, locals := 0 } : Room)) (fun a U => a = #[(.int p1), (.int p2), .null] ∧ Z.Warmed39 U.vm ∧ U.heap = h0) (fun _ _ _ _ _ => True) (fun _ U o U' => ∃ v L, o = .returned v ∧ Q_rmPckN Z p1 p2 h0 n0 v U'.heap L ∧ FrameEnd U o U' L ({ frames := 0, cells := 0, slots := 0, locals := 0 } : Room).cells ({ frames := 0, cells := 0, slots := 0, locals := 0 } : Room).slots) := by
  refine MetFree.of_bodySF (plainFor_of_name pn_2) hisR ?_
  intro p e s m args below meth c s₁ Bd hml0 hP hK
  obtain ⟨rfl, hZ, hh⟩ := hP
  have hx := Bd.exec
  have hby := Bd.bytes
  have hml : c.maxLocals = 3 := hml0
  have hown : s.vm.findClass PCx = some m.cls := findClass_of_methodNamed Bd.named
  have hnm := (name_of_methodNamed Bd.named Bd.method).1
  have X0 : Stand p l e ({ frames := 0, cells := 0, slots := 0, locals := 0 } : Room) s m #[(.int p1), (.int p2), .null] below meth c s₁ [] 0 0 := Stand.of_body Bd
  have e0 : s₁.heap = h0 := by rw [← hh, Bd.state]; rfl
  have N0 := Fr.nil n0
  refine own_go (own_lift (fun t k => castTop (ef_rmPckN m p1 p2) k) ?_)
  show own_Go p.tables e below (s₁.setTop (mkF m 0 #[iv p1, iv p2, .val .null] [])) _
  have sg1 : ∀ t, Steps p.tables e below (s₁.setTop (mkF m 17 #[iv p1, iv p2, .val .null] [(.int p1)])) t → Steps p.tables e below (s₁.setTop (mkF m 0 #[iv p1, iv p2, .val .null] [])) t := by
    intro t k
    refine XS.iloadN X0.here hx rfl (hb hby d16_0) rfl ?_
    show Steps p.tables e below (s₁.setTop (mkF m 1 #[iv p1, iv p2, .val .null] [(.int p1)])) _
    refine XS.ifNo X0.here hx rfl (hb hby d16_1) rfl ((if0 _ _).trans (flt c1).1) ?_
    refine XS.iloadN X0.here hx rfl (hb hby d16_4) rfl ?_
    refine XS.iloadN X0.here hx rfl (hb hby d16_5) rfl ?_
    show Steps p.tables e below (s₁.setTop (mkF m 6 #[iv p1, iv p2, .val .null] [(.int p2), (.int p1)])) _
    refine XS.icmpYes X0.here hx rfl (pc0 := 6) (pc' := 16) rfl (hb hby d16_6) rfl (tlt c2).1 (by decide) (by decide) ?_
    refine XS.iloadN X0.here hx rfl (hb hby d16_16) rfl ?_
    show Steps p.tables e below (s₁.setTop (mkF m 17 #[iv p1, iv p2, .val .null] [(.int p1)])) _
    exact k
  refine own_lift sg1 ?_
  show own_Go p.tables e below (s₁.setTop (mkF m 17 #[iv p1, iv p2, .val .null] [(.int p1)])) _
  obtain ⟨fs, hr, hrun, hended, hW, hsame⟩ := X0.leave (v := some (.int p1)) (fun h => by rw [Bd.returns] at h; cases h)
  refine ⟨_, _, ?_, hrun, hended, _, _, rfl, ?_, ⟨_, rfl⟩, hW, hsame.mono (by decide) (by decide)⟩
  · exact retI X0 hx Bd.returns (hb hby d16_17) hr
  · show Q_rmPckN Z p1 p2 h0 n0 _ s₁.heap _
    rw [e0]
    exact ⟨rfl, N0, rfl⟩
def Q_rmPckR (Z : State) (p1 : Int32) (p2 : Int32) (a3 : Addr) (h0 : Heap) (n0 : Nat) (v : Option Value) (h : Heap) (L : List Loc) : Prop := v = some (.int p1) ∧ Fr n0 L ∧ h = h0
theorem ef_rmPckR (m : MethodId) (x0 : Int32) (x1 : Int32) (x2 : Addr) : entryFrame m #[(.int x0), (.int x1), (.ref x2)] 3 = mkF m 0 #[.val (.int x0), .val (.int x1), .val (.ref x2)] [] := by first | (simp [entryFrame, mkF, argsToLocals, Value.category]; done) | rfl
set_option maxRecDepth 65536 in
set_option maxHeartbeats 40000000 in
theorem rmPckR (l : Launch) (Z : State) (a0 : Array Value) (hw : ∀ d ∈ tables_1, d.before a0 Z = true) (ws : List Jvm.Cond) (p1 : Int32) (p2 : Int32) (a3 : Addr) (h0 : Heap) (n0 : Nat) (Z0 : n0 ≤ h0.size)  (c1 : ¬ (p1 < (0 : Int32))) (c2 : p1 < p2) :
    MetFree l (⟨PCx, "checkIndex", "(IILjava/util/function/BiFunction;)I"⟩ : MethodName) (head1 (Jvm.Cond.code (⟨PCx, "checkIndex", "(IILjava/util/function/BiFunction;)I"⟩ : MethodName) jdk_41_method_11_code 3 (some .int) :: ws) ({ frames := 0, cells := 0, slots := 0, locals := 0 } : Room)) (fun a U => a = #[(.int p1), (.int p2), (.ref a3)] ∧ Z.Warmed39 U.vm ∧ U.heap = h0) (fun _ _ _ _ _ => True) (fun _ U o U' => ∃ v L, o = .returned v ∧ Q_rmPckR Z p1 p2 a3 h0 n0 v U'.heap L ∧ FrameEnd U o U' L ({ frames := 0, cells := 0, slots := 0, locals := 0 } : Room).cells ({ frames := 0, cells := 0, slots := 0, locals := 0 } : Room).slots) := by
  refine MetFree.of_bodySF (plainFor_of_name pn_2) hisR ?_
  intro p e s m args below meth c s₁ Bd hml0 hP hK
  obtain ⟨rfl, hZ, hh⟩ := hP
  have hx := Bd.exec
  have hby := Bd.bytes
  have hml : c.maxLocals = 3 := hml0
  have hown : s.vm.findClass PCx = some m.cls := findClass_of_methodNamed Bd.named
  have hnm := (name_of_methodNamed Bd.named Bd.method).1
  have X0 : Stand p l e ({ frames := 0, cells := 0, slots := 0, locals := 0 } : Room) s m #[(.int p1), (.int p2), (.ref a3)] below meth c s₁ [] 0 0 := Stand.of_body Bd
  have e0 : s₁.heap = h0 := by rw [← hh, Bd.state]; rfl
  have N0 := Fr.nil n0
  refine own_go (own_lift (fun t k => castTop (ef_rmPckR m p1 p2 a3) k) ?_)
  show own_Go p.tables e below (s₁.setTop (mkF m 0 #[iv p1, iv p2, rv a3] [])) _
  have sg1 : ∀ t, Steps p.tables e below (s₁.setTop (mkF m 17 #[iv p1, iv p2, rv a3] [(.int p1)])) t → Steps p.tables e below (s₁.setTop (mkF m 0 #[iv p1, iv p2, rv a3] [])) t := by
    intro t k
    refine XS.iloadN X0.here hx rfl (hb hby d16_0) rfl ?_
    show Steps p.tables e below (s₁.setTop (mkF m 1 #[iv p1, iv p2, rv a3] [(.int p1)])) _
    refine XS.ifNo X0.here hx rfl (hb hby d16_1) rfl ((if0 _ _).trans (flt c1).1) ?_
    refine XS.iloadN X0.here hx rfl (hb hby d16_4) rfl ?_
    refine XS.iloadN X0.here hx rfl (hb hby d16_5) rfl ?_
    show Steps p.tables e below (s₁.setTop (mkF m 6 #[iv p1, iv p2, rv a3] [(.int p2), (.int p1)])) _
    refine XS.icmpYes X0.here hx rfl (pc0 := 6) (pc' := 16) rfl (hb hby d16_6) rfl (tlt c2).1 (by decide) (by decide) ?_
    refine XS.iloadN X0.here hx rfl (hb hby d16_16) rfl ?_
    show Steps p.tables e below (s₁.setTop (mkF m 17 #[iv p1, iv p2, rv a3] [(.int p1)])) _
    exact k
  refine own_lift sg1 ?_
  show own_Go p.tables e below (s₁.setTop (mkF m 17 #[iv p1, iv p2, rv a3] [(.int p1)])) _
  obtain ⟨fs, hr, hrun, hended, hW, hsame⟩ := X0.leave (v := some (.int p1)) (fun h => by rw [Bd.returns] at h; cases h)
  refine ⟨_, _, ?_, hrun, hended, _, _, rfl, ?_, ⟨_, rfl⟩, hW, hsame.mono (by decide) (by decide)⟩
  · exact retI X0 hx Bd.returns (hb hby d16_17) hr
  · show Q_rmPckR Z p1 p2 a3 h0 n0 _ s₁.heap _
    rw [e0]
    exact ⟨rfl, N0, rfl⟩
theorem d17_0 : decode jdk_42_method_155_code 0 = .ok (.iload_n 0, 1) := by decide +kernel
theorem d17_1 : decode jdk_42_method_155_code 1 = .ok (.iload_n 1, 1) := by decide +kernel
theorem d17_2 : decode jdk_42_method_155_code 2 = .ok (.getstatic 1053, 3) := by decide +kernel
theorem d17_5 : decode jdk_42_method_155_code 5 = .ok (.invokestatic 1059, 3) := by decide +kernel
theorem pd_9 : parseMethodDescriptor "(IILjava/util/function/BiFunction;)I" = some ⟨[.int, .int, (.object "java/util/function/BiFunction")], some .int⟩ := by decide +kernel
theorem d17_8 : decode jdk_42_method_155_code 8 = .ok (.pop, 1) := by decide +kernel
theorem d17_9 : decode jdk_42_method_155_code 9 = .ok (.return_, 1) := by decide +kernel
def Q_rmCk (Z : State)  (h0 : Heap) (n0 : Nat) (v : Option Value) (h : Heap) (L : List Loc) : Prop := v = none ∧ Fr n0 L ∧ h = h0
theorem ef_rmCkN (m : MethodId) (x0 : Int32) (x1 : Int32) : entryFrame m #[(.int x0), (.int x1)] 2 = mkF m 0 #[.val (.int x0), .val (.int x1)] [] := by first | (simp [entryFrame, mkF, argsToLocals, Value.category]; done) | rfl
set_option maxRecDepth 65536 in
set_option maxHeartbeats 40000000 in
theorem rmCkN (l : Launch) (Z : State) (a0 : Array Value) (hw : ∀ d ∈ tables_1, d.before a0 Z = true) (ws : List Jvm.Cond) (p1 : Int32) (p2 : Int32) (h0 : Heap) (n0 : Nat) (Z0 : n0 ≤ h0.size) (Sfm : Sta Z h0 PCx "SIOOBE_FORMATTER" BFx .null) (c1 : ¬ (p1 < (0 : Int32))) (c2 : p1 < p2) :
    MetFree l (⟨STx, "checkIndex", "(II)V"⟩ : MethodName) (head1 (Jvm.Cond.code (⟨STx, "checkIndex", "(II)V"⟩ : MethodName) jdk_42_method_155_code 2 none :: ws) ({ frames := 1, cells := 0, slots := 0, locals := 14 } : Room)) (fun a U => a = #[(.int p1), (.int p2)] ∧ Z.Warmed39 U.vm ∧ U.heap = h0) (fun _ _ _ _ _ => True) (fun _ U o U' => ∃ v L, o = .returned v ∧ Q_rmCk Z  h0 n0 v U'.heap L ∧ FrameEnd U o U' L ({ frames := 1, cells := 0, slots := 0, locals := 14 } : Room).cells ({ frames := 1, cells := 0, slots := 0, locals := 14 } : Room).slots) := by
  refine MetFree.of_bodySF (plainFor_of_name pn_0) hisR ?_
  intro p e s m args below meth c s₁ Bd hml0 hP hK
  obtain ⟨rfl, hZ, hh⟩ := hP
  have hx := Bd.exec
  have hby := Bd.bytes
  have hml : c.maxLocals = 2 := hml0
  have hown : s.vm.findClass STx = some m.cls := findClass_of_methodNamed Bd.named
  have hnm := (name_of_methodNamed Bd.named Bd.method).1
  have X0 : Stand p l e ({ frames := 1, cells := 0, slots := 0, locals := 14 } : Room) s m #[(.int p1), (.int p2)] below meth c s₁ [] 0 0 := Stand.of_body Bd
  have e0 : s₁.heap = h0 := by rw [← hh, Bd.state]; rfl
  have N0 := Fr.nil n0
  refine own_go (own_lift (fun t k => castTop (ef_rmCkN m p1 p2) k) ?_)
  show own_Go p.tables e below (s₁.setTop (mkF m 0 #[iv p1, iv p2] [])) _
  have sg1 : ∀ t, Steps p.tables e below (s₁.setTop (mkF m 2 #[iv p1, iv p2] [(.int p2), (.int p1)])) t → Steps p.tables e below (s₁.setTop (mkF m 0 #[iv p1, iv p2] [])) t := by
    intro t k
    refine XS.iloadN X0.here hx rfl (hb hby d17_0) rfl ?_
    show Steps p.tables e below (s₁.setTop (mkF m 1 #[iv p1, iv p2] [(.int p1)])) _
    refine XS.iloadN X0.here hx rfl (hb hby d17_1) rfl ?_
    show Steps p.tables e below (s₁.setTop (mkF m 2 #[iv p1, iv p2] [(.int p2), (.int p1)])) _
    exact k
  refine own_lift sg1 ?_
  show own_Go p.tables e below (s₁.setTop (mkF m 2 #[iv p1, iv p2] [(.int p2), (.int p1)])) _
  obtain ⟨T2, X2, e2, st2⟩ := getS X0 hx hZ hown (host := "") (wd hw 125 rfl) Via.refl e0 Sfm (g := (mkF m 2 #[iv p1, iv p2] [(.int p2), (.int p1)])) rfl (hb hby d17_2)
  refine own_lift st2 ?_
  show own_Go p.tables e below (T2.setTop (mkF m 5 #[iv p1, iv p2] [.null, (.int p2), (.int p1)])) _
  obtain ⟨_, _, ⟨T3, Lx3, kx3, nx3⟩, -, X3, ⟨Lc3, hQ3, lx3, yx3, zx3⟩, st3⟩ := Jvm.LawKit.callS X2 hx (y := (⟨PCx, "checkIndex", "(IILjava/util/function/BiFunction;)I"⟩ : MethodName)) hown (mvT hZ (wd hw 126 rfl)) (mvT hZ (wd hw 127 rfl)) (mvT hZ (wd hw 106 rfl)) (mvT hZ (wd hw 128 rfl)) (by decide) (backOf (W := 0) (rmPckN l Z a0 hw [] p1 p2 h0 n0 Z0 c1 c2) hZ (wd hw 128 rfl) (wd hw 106 rfl) (by decide) (by decide)) (g := (mkF m 5 #[iv p1, iv p2] [.null, (.int p2), (.int p1)])) rfl (by rw [hml]; rfl) (argsL := [(.int p1), (.int p2), .null]) (rest := []) (lenOf pd_9 rfl) rfl (by show 2 * 0 + _ ≤ _; exact Nat.le_of_eq rfl) (hb hby d17_5) (fun _ _ => ⟨rfl, e2, (by decide : 0 + 0 ≤ _), (by decide : 0 + 0 ≤ _)⟩)
  dsimp only [Pt.U, Pt.locs, Pt.cells, Pt.slots] at X3 lx3 yx3 zx3 st3 hQ3
  subst lx3 yx3 zx3
  obtain ⟨rfl, N3q, e3⟩ := hQ3
  have N3 := Fr.app N0 N3q
  refine own_lift st3 ?_
  show own_Go p.tables e below (T3.setTop (mkF m 8 #[iv p1, iv p2] [(.int p1)])) _
  have sg4 : ∀ t, Steps p.tables e below (T3.setTop (mkF m 9 #[iv p1, iv p2] [])) t → Steps p.tables e below (T3.setTop (mkF m 8 #[iv p1, iv p2] [(.int p1)])) t := by
    intro t k
    refine XS.pop X3.here hx rfl (hb hby d17_8) rfl rfl ?_
    show Steps p.tables e below (T3.setTop (mkF m 9 #[iv p1, iv p2] [])) _
    exact k
  refine own_lift sg4 ?_
  show own_Go p.tables e below (T3.setTop (mkF m 9 #[iv p1, iv p2] [])) _
  obtain ⟨fs, hr, hrun, hended, hW, hsame⟩ := X3.leave (v := none) (fun _ => rfl)
  refine ⟨_, _, ?_, hrun, hended, _, _, rfl, ?_, ⟨_, rfl⟩, hW, hsame.mono (by decide) (by decide)⟩
  · exact X3.returnOut hx Bd.returns (hb hby d17_9) hr
  · show Q_rmCk Z  h0 n0 _ T3.heap _
    rw [e3]
    exact ⟨rfl, N3, rfl⟩
theorem ef_rmCkR (m : MethodId) (x0 : Int32) (x1 : Int32) : entryFrame m #[(.int x0), (.int x1)] 2 = mkF m 0 #[.val (.int x0), .val (.int x1)] [] := by first | (simp [entryFrame, mkF, argsToLocals, Value.category]; done) | rfl
set_option maxRecDepth 65536 in
set_option maxHeartbeats 40000000 in
theorem rmCkR (l : Launch) (Z : State) (a0 : Array Value) (hw : ∀ d ∈ tables_1, d.before a0 Z = true) (ws : List Jvm.Cond) (p1 : Int32) (p2 : Int32) (f3 : Addr) (h0 : Heap) (n0 : Nat) (Z0 : n0 ≤ h0.size) (Sfm : Sta Z h0 PCx "SIOOBE_FORMATTER" BFx (.ref f3)) (c1 : ¬ (p1 < (0 : Int32))) (c2 : p1 < p2) :
    MetFree l (⟨STx, "checkIndex", "(II)V"⟩ : MethodName) (head1 (Jvm.Cond.code (⟨STx, "checkIndex", "(II)V"⟩ : MethodName) jdk_42_method_155_code 2 none :: ws) ({ frames := 1, cells := 0, slots := 0, locals := 14 } : Room)) (fun a U => a = #[(.int p1), (.int p2)] ∧ Z.Warmed39 U.vm ∧ U.heap = h0) (fun _ _ _ _ _ => True) (fun _ U o U' => ∃ v L, o = .returned v ∧ Q_rmCk Z  h0 n0 v U'.heap L ∧ FrameEnd U o U' L ({ frames := 1, cells := 0, slots := 0, locals := 14 } : Room).cells ({ frames := 1, cells := 0, slots := 0, locals := 14 } : Room).slots) := by
  refine MetFree.of_bodySF (plainFor_of_name pn_0) hisR ?_
  intro p e s m args below meth c s₁ Bd hml0 hP hK
  obtain ⟨rfl, hZ, hh⟩ := hP
  have hx := Bd.exec
  have hby := Bd.bytes
  have hml : c.maxLocals = 2 := hml0
  have hown : s.vm.findClass STx = some m.cls := findClass_of_methodNamed Bd.named
  have hnm := (name_of_methodNamed Bd.named Bd.method).1
  have X0 : Stand p l e ({ frames := 1, cells := 0, slots := 0, locals := 14 } : Room) s m #[(.int p1), (.int p2)] below meth c s₁ [] 0 0 := Stand.of_body Bd
  have e0 : s₁.heap = h0 := by rw [← hh, Bd.state]; rfl
  have N0 := Fr.nil n0
  refine own_go (own_lift (fun t k => castTop (ef_rmCkR m p1 p2) k) ?_)
  show own_Go p.tables e below (s₁.setTop (mkF m 0 #[iv p1, iv p2] [])) _
  have sg1 : ∀ t, Steps p.tables e below (s₁.setTop (mkF m 2 #[iv p1, iv p2] [(.int p2), (.int p1)])) t → Steps p.tables e below (s₁.setTop (mkF m 0 #[iv p1, iv p2] [])) t := by
    intro t k
    refine XS.iloadN X0.here hx rfl (hb hby d17_0) rfl ?_
    show Steps p.tables e below (s₁.setTop (mkF m 1 #[iv p1, iv p2] [(.int p1)])) _
    refine XS.iloadN X0.here hx rfl (hb hby d17_1) rfl ?_
    show Steps p.tables e below (s₁.setTop (mkF m 2 #[iv p1, iv p2] [(.int p2), (.int p1)])) _
    exact k
  refine own_lift sg1 ?_
  show own_Go p.tables e below (s₁.setTop (mkF m 2 #[iv p1, iv p2] [(.int p2), (.int p1)])) _
  obtain ⟨T2, X2, e2, st2⟩ := getS X0 hx hZ hown (host := "") (wd hw 125 rfl) Via.refl e0 Sfm (g := (mkF m 2 #[iv p1, iv p2] [(.int p2), (.int p1)])) rfl (hb hby d17_2)
  refine own_lift st2 ?_
  show own_Go p.tables e below (T2.setTop (mkF m 5 #[iv p1, iv p2] [(.ref f3), (.int p2), (.int p1)])) _
  obtain ⟨_, _, ⟨T3, Lx3, kx3, nx3⟩, -, X3, ⟨Lc3, hQ3, lx3, yx3, zx3⟩, st3⟩ := Jvm.LawKit.callS X2 hx (y := (⟨PCx, "checkIndex", "(IILjava/util/function/BiFunction;)I"⟩ : MethodName)) hown (mvT hZ (wd hw 126 rfl)) (mvT hZ (wd hw 127 rfl)) (mvT hZ (wd hw 106 rfl)) (mvT hZ (wd hw 128 rfl)) (by decide) (backOf (W := 0) (rmPckR l Z a0 hw [] p1 p2 f3 h0 n0 Z0 c1 c2) hZ (wd hw 128 rfl) (wd hw 106 rfl) (by decide) (by decide)) (g := (mkF m 5 #[iv p1, iv p2] [(.ref f3), (.int p2), (.int p1)])) rfl (by rw [hml]; rfl) (argsL := [(.int p1), (.int p2), (.ref f3)]) (rest := []) (lenOf pd_9 rfl) rfl (by show 2 * 0 + _ ≤ _; exact Nat.le_of_eq rfl) (hb hby d17_5) (fun _ _ => ⟨rfl, e2, (by decide : 0 + 0 ≤ _), (by decide : 0 + 0 ≤ _)⟩)
  dsimp only [Pt.U, Pt.locs, Pt.cells, Pt.slots] at X3 lx3 yx3 zx3 st3 hQ3
  subst lx3 yx3 zx3
  obtain ⟨rfl, N3q, e3⟩ := hQ3
  have N3 := Fr.app N0 N3q
  refine own_lift st3 ?_
  show own_Go p.tables e below (T3.setTop (mkF m 8 #[iv p1, iv p2] [(.int p1)])) _
  have sg4 : ∀ t, Steps p.tables e below (T3.setTop (mkF m 9 #[iv p1, iv p2] [])) t → Steps p.tables e below (T3.setTop (mkF m 8 #[iv p1, iv p2] [(.int p1)])) t := by
    intro t k
    refine XS.pop X3.here hx rfl (hb hby d17_8) rfl rfl ?_
    show Steps p.tables e below (T3.setTop (mkF m 9 #[iv p1, iv p2] [])) _
    exact k
  refine own_lift sg4 ?_
  show own_Go p.tables e below (T3.setTop (mkF m 9 #[iv p1, iv p2] [])) _
  obtain ⟨fs, hr, hrun, hended, hW, hsame⟩ := X3.leave (v := none) (fun _ => rfl)
  refine ⟨_, _, ?_, hrun, hended, _, _, rfl, ?_, ⟨_, rfl⟩, hW, hsame.mono (by decide) (by decide)⟩
  · exact X3.returnOut hx Bd.returns (hb hby d17_9) hr
  · show Q_rmCk Z  h0 n0 _ T3.heap _
    rw [e3]
    exact ⟨rfl, N3, rfl⟩
set_option maxRecDepth 65536 in
theorem rmCk (l : Launch) (Z : State) (a0 : Array Value) (hw : ∀ d ∈ tables_1, d.before a0 Z = true) (ws : List Jvm.Cond) (p1 : Int32) (p2 : Int32) (fv : Value) (h0 : Heap) (n0 : Nat) (Z0 : n0 ≤ h0.size) (Sfm : Sta Z h0 PCx "SIOOBE_FORMATTER" BFx fv) (P_fv : fv.isRef = true) (c1 : ¬ (p1 < (0 : Int32))) (c2 : p1 < p2) :
    MetFree l (⟨STx, "checkIndex", "(II)V"⟩ : MethodName) (head1 (Jvm.Cond.code (⟨STx, "checkIndex", "(II)V"⟩ : MethodName) jdk_42_method_155_code 2 none :: ws) ({ frames := 1, cells := 0, slots := 0, locals := 14 } : Room)) (fun a U => a = #[(.int p1), (.int p2)] ∧ Z.Warmed39 U.vm ∧ U.heap = h0) (fun _ _ _ _ _ => True) (fun _ U o U' => ∃ v L, o = .returned v ∧ Q_rmCk Z  h0 n0 v U'.heap L ∧ FrameEnd U o U' L ({ frames := 1, cells := 0, slots := 0, locals := 14 } : Room).cells ({ frames := 1, cells := 0, slots := 0, locals := 14 } : Room).slots) := by
  rcases ref_cases P_fv with rfl | ⟨f3, rfl⟩
  · exact rmCkN l Z a0 hw ws p1 p2 h0 n0 Z0 Sfm c1 c2
  · exact rmCkR l Z a0 hw ws p1 p2 f3 h0 n0 Z0 Sfm c1 c2
theorem d18_0 : decode jdk_43_method_2_code 0 = .ok (.iload_n 1, 1) := by decide +kernel
theorem d18_1 : decode jdk_43_method_2_code 1 = .ok (.aload_n 0, 1) := by decide +kernel
theorem d18_2 : decode jdk_43_method_2_code 2 = .ok (.arraylength, 1) := by decide +kernel
theorem d18_3 : decode jdk_43_method_2_code 3 = .ok (.invokestatic 9, 3) := by decide +kernel
theorem pd_10 : parseMethodDescriptor "(II)V" = some ⟨[.int, .int], none⟩ := by decide +kernel
theorem d18_6 : decode jdk_43_method_2_code 6 = .ok (.aload_n 0, 1) := by decide +kernel
theorem d18_7 : decode jdk_43_method_2_code 7 = .ok (.iload_n 1, 1) := by decide +kernel
theorem d18_8 : decode jdk_43_method_2_code 8 = .ok (.baload, 1) := by decide +kernel
theorem d18_9 : decode jdk_43_method_2_code 9 = .ok (.sipush 255, 3) := by decide +kernel
theorem d18_12 : decode jdk_43_method_2_code 12 = .ok (.iand, 1) := by decide +kernel
theorem d18_13 : decode jdk_43_method_2_code 13 = .ok (.i2c, 1) := by decide +kernel
theorem d18_14 : decode jdk_43_method_2_code 14 = .ok (.ireturn, 1) := by decide +kernel
def Q_rmCal0 (Z : State) (ar : Addr) (kb : ClassId) (b0 : Int32) (b1 : Int32) (b2 : Int32) (b3 : Int32) (fv : Value) (h0 : Heap) (n0 : Nat) (v : Option Value) (h : Heap) (L : List Loc) : Prop := v = some (.int (own_c8 b0)) ∧ Fr n0 L ∧ h = h0
theorem ef_rmCal0 (m : MethodId) (x0 : Addr) (x1 : Int32) : entryFrame m #[(.ref x0), (.int 0)] 2 = mkF m 0 #[.val (.ref x0), .val (.int 0)] [] := by first | (simp [entryFrame, mkF, argsToLocals, Value.category]; done) | rfl
set_option maxRecDepth 65536 in
set_option maxHeartbeats 40000000 in
theorem rmCal0 (l : Launch) (Z : State) (a0 : Array Value) (hw : ∀ d ∈ tables_1, d.before a0 Z = true) (ws : List Jvm.Cond) (ar : Addr) (kb : ClassId) (b0 : Int32) (b1 : Int32) (b2 : Int32) (b3 : Int32) (fv : Value) (h0 : Heap) (n0 : Nat) (Z0 : n0 ≤ h0.size) (Ars : Arv Z h0 ar kb .byte (4 : Int32) [(.int b0), (.int b1), (.int b2), (.int b3)] (.int 0)) (Sfm : Sta Z h0 PCx "SIOOBE_FORMATTER" BFx fv) (P_fv : fv.isRef = true) :
    MetFree l (⟨L1x, "charAt", "([BI)C"⟩ : MethodName) (head1 (Jvm.Cond.code (⟨L1x, "charAt", "([BI)C"⟩ : MethodName) jdk_43_method_2_code 2 (some .char) :: ws) ({ frames := 2, cells := 0, slots := 0, locals := 27 } : Room)) (fun a U => a = #[(.ref ar), (.int 0)] ∧ Z.Warmed39 U.vm ∧ U.heap = h0) (fun _ _ _ _ _ => True) (fun _ U o U' => ∃ v L, o = .returned v ∧ Q_rmCal0 Z ar kb b0 b1 b2 b3 fv h0 n0 v U'.heap L ∧ FrameEnd U o U' L ({ frames := 2, cells := 0, slots := 0, locals := 27 } : Room).cells ({ frames := 2, cells := 0, slots := 0, locals := 27 } : Room).slots) := by
  refine MetFree.of_bodySF (plainFor_of_name pn_1) hisR ?_
  intro p e s m args below meth c s₁ Bd hml0 hP hK
  obtain ⟨rfl, hZ, hh⟩ := hP
  have hx := Bd.exec
  have hby := Bd.bytes
  have hml : c.maxLocals = 2 := hml0
  have hown : s.vm.findClass L1x = some m.cls := findClass_of_methodNamed Bd.named
  have hnm := (name_of_methodNamed Bd.named Bd.method).1
  have X0 : Stand p l e ({ frames := 2, cells := 0, slots := 0, locals := 27 } : Room) s m #[(.ref ar), (.int 0)] below meth c s₁ [] 0 0 := Stand.of_body Bd
  have e0 : s₁.heap = h0 := by rw [← hh, Bd.state]; rfl
  have N0 := Fr.nil n0
  refine own_go (own_lift (fun t k => castTop (ef_rmCal0 m ar (0 : Int32)) k) ?_)
  show own_Go p.tables e below (s₁.setTop (mkF m 0 #[rv ar, iv 0] [])) _
  have sg1 : ∀ t, Steps p.tables e below (s₁.setTop (mkF m 2 #[rv ar, iv 0] [(.ref ar), (.int 0)])) t → Steps p.tables e below (s₁.setTop (mkF m 0 #[rv ar, iv 0] [])) t := by
    intro t k
    refine XS.iloadN X0.here hx rfl (hb hby d18_0) rfl ?_
    show Steps p.tables e below (s₁.setTop (mkF m 1 #[rv ar, iv 0] [(.int 0)])) _
    refine XS.aloadN X0.here hx rfl (hb hby d18_1) rfl rfl ?_
    show Steps p.tables e below (s₁.setTop (mkF m 2 #[rv ar, iv 0] [(.ref ar), (.int 0)])) _
    exact k
  refine own_lift sg1 ?_
  show own_Go p.tables e below (s₁.setTop (mkF m 2 #[rv ar, iv 0] [(.ref ar), (.int 0)])) _
  obtain ⟨cl2, Ar2, -, Sx2, N2', -, -⟩ := id (Ars)
  have st2 : ∀ t, Steps p.tables e below (s₁.setTop (mkF m 3 #[rv ar, iv 0] [(.int 4), (.int 0)])) t → Steps p.tables e below (s₁.setTop (mkF m 2 #[rv ar, iv 0] [(.ref ar), (.int 0)])) t := by
    intro t k
    refine X0.arraylength hx (by rw [e0]; exact Ar2.1) (State.isArrayOf_alike hZ.alike Ar2.2.1) (g := (mkF m 2 #[rv ar, iv 0] [(.ref ar), (.int 0)])) rfl rfl (hb hby d18_2) _ ?_
    rw [len_of Sx2 N2']
    exact k
  refine own_lift st2 ?_
  show own_Go p.tables e below (s₁.setTop (mkF m 3 #[rv ar, iv 0] [(.int 4), (.int 0)])) _
  obtain ⟨_, _, ⟨T3, Lx3, kx3, nx3⟩, -, X3, ⟨Lc3, hQ3, lx3, yx3, zx3⟩, st3⟩ := Jvm.LawKit.callS X0 hx (y := (⟨STx, "checkIndex", "(II)V"⟩ : MethodName)) hown (mvT hZ (wd hw 122 rfl)) (mvT hZ (wd hw 123 rfl)) (mvT hZ (wd hw 10 rfl)) (mvT hZ (wd hw 124 rfl)) (by decide) (backOf (W := 0) (rmCk l Z a0 hw [] (0 : Int32) (4 : Int32) fv h0 n0 Z0 Sfm P_fv (by decide : ¬ ((0 : Int32) < (0 : Int32))) (by decide : (0 : Int32) < (4 : Int32))) hZ (wd hw 124 rfl) (wd hw 10 rfl) (by decide) (by decide)) (g := (mkF m 3 #[rv ar, iv 0] [(.int 4), (.int 0)])) rfl (by rw [hml]; rfl) (argsL := [(.int 0), (.int 4)]) (rest := []) (lenOf pd_10 rfl) rfl (by show 2 * 0 + _ ≤ _; exact Nat.le_of_eq rfl) (hb hby d18_3) (fun _ _ => ⟨rfl, e0, (by decide : 0 + 0 ≤ _), (by decide : 0 + 0 ≤ _)⟩)
  dsimp only [Pt.U, Pt.locs, Pt.cells, Pt.slots] at X3 lx3 yx3 zx3 st3 hQ3
  subst lx3 yx3 zx3
  obtain ⟨rfl, N3q, e3⟩ := hQ3
  have N3 := Fr.app N0 N3q
  refine own_lift st3 ?_
  show own_Go p.tables e below (T3.setTop (mkF m 6 #[rv ar, iv 0] [])) _
  have sg4 : ∀ t, Steps p.tables e below (T3.setTop (mkF m 8 #[rv ar, iv 0] [(.int 0), (.ref ar)])) t → Steps p.tables e below (T3.setTop (mkF m 6 #[rv ar, iv 0] [])) t := by
    intro t k
    refine XS.aloadN X3.here hx rfl (hb hby d18_6) rfl rfl ?_
    show Steps p.tables e below (T3.setTop (mkF m 7 #[rv ar, iv 0] [(.ref ar)])) _
    refine XS.iloadN X3.here hx rfl (hb hby d18_7) rfl ?_
    show Steps p.tables e below (T3.setTop (mkF m 8 #[rv ar, iv 0] [(.int 0), (.ref ar)])) _
    exact k
  refine own_lift sg4 ?_
  show own_Go p.tables e below (T3.setTop (mkF m 8 #[rv ar, iv 0] [(.int 0), (.ref ar)])) _
  obtain ⟨cl5, Ar5, qx5, Sx5, N5', H5', G5'⟩ := id (Ars)
  have hin5 : ¬ ((0 : Int32) < 0 ∨ cl5.slots.size ≤ ((0 : Int32)).toNatClampNeg) := inb_of Sx5 ⟨(by decide : ¬ ((0 : Int32) < (0 : Int32))), (by decide : (0 : Int32) < (4 : Int32))⟩
  have hat5 : cl5.slots[((0 : Int32)).toNatClampNeg]? = some (.int b0) := Has.at H5' hin5 rfl
  have sg6 : ∀ t, Steps p.tables e below (T3.setTop (mkF m 14 #[rv ar, iv 0] [(.int ((b0 &&& (255 : Int32)).toUInt32.toUInt16.toUInt32.toInt32))])) t → Steps p.tables e below (T3.setTop (mkF m 8 #[rv ar, iv 0] [(.int 0), (.ref ar)])) t := by
    intro t k
    refine X3.baloadBytes hx (j := (0 : Int32)) (v := (.int b0)) (by rw [e3]; exact Ar5.1) (State.isArrayOf_alike hZ.alike Ar5.2.1) Ar5.2.2 hin5 hat5 (g := (mkF m 8 #[rv ar, iv 0] [(.int 0), (.ref ar)])) rfl rfl (hb hby d18_8) _ ?_
    show Steps p.tables e below (T3.setTop (mkF m 9 #[rv ar, iv 0] [(.int b0)])) _
    refine XS.sipush X3.here hx rfl (hb hby d18_9) ?_
    refine XS.iand X3.here hx rfl (hb hby d18_12) rfl ?_
    refine XS.i2c X3.here hx rfl (hb hby d18_13) rfl ?_
    show Steps p.tables e below (T3.setTop (mkF m 14 #[rv ar, iv 0] [(.int ((b0 &&& (255 : Int32)).toUInt32.toUInt16.toUInt32.toInt32))])) _
    exact k
  refine own_lift sg6 ?_
  show own_Go p.tables e below (T3.setTop (mkF m 14 #[rv ar, iv 0] [(.int ((b0 &&& (255 : Int32)).toUInt32.toUInt16.toUInt32.toInt32))])) _
  obtain ⟨fs, hr, hrun, hended, hW, hsame⟩ := X3.leave (v := some (.int (nar .char ((b0 &&& (255 : Int32)).toUInt32.toUInt16.toUInt32.toInt32)))) (fun h => by rw [Bd.returns] at h; cases h)
  refine ⟨_, _, ?_, hrun, hended, _, _, rfl, ?_, ⟨_, rfl⟩, hW, hsame.mono (by decide) (by decide)⟩
  · exact retN X3 hx (t := .char) Bd.returns (by simp) (hb hby d18_14) hr
  · show Q_rmCal0 Z ar kb b0 b1 b2 b3 fv h0 n0 _ T3.heap _
    rw [e3]
    exact ⟨rfl, N3, rfl⟩
def Q_rmCal1 (Z : State) (ar : Addr) (kb : ClassId) (b0 : Int32) (b1 : Int32) (b2 : Int32) (b3 : Int32) (fv : Value) (h0 : Heap) (n0 : Nat) (v : Option Value) (h : Heap) (L : List Loc) : Prop := v = some (.int (own_c8 b1)) ∧ Fr n0 L ∧ h = h0
theorem ef_rmCal1 (m : MethodId) (x0 : Addr) (x1 : Int32) : entryFrame m #[(.ref x0), (.int 1)] 2 = mkF m 0 #[.val (.ref x0), .val (.int 1)] [] := by first | (simp [entryFrame, mkF, argsToLocals, Value.category]; done) | rfl
set_option maxRecDepth 65536 in
set_option maxHeartbeats 40000000 in
theorem rmCal1 (l : Launch) (Z : State) (a0 : Array Value) (hw : ∀ d ∈ tables_1, d.before a0 Z = true) (ws : List Jvm.Cond) (ar : Addr) (kb : ClassId) (b0 : Int32) (b1 : Int32) (b2 : Int32) (b3 : Int32) (fv : Value) (h0 : Heap) (n0 : Nat) (Z0 : n0 ≤ h0.size) (Ars : Arv Z h0 ar kb .byte (4 : Int32) [(.int b0), (.int b1), (.int b2), (.int b3)] (.int 0)) (Sfm : Sta Z h0 PCx "SIOOBE_FORMATTER" BFx fv) (P_fv : fv.isRef = true) :
    MetFree l (⟨L1x, "charAt", "([BI)C"⟩ : MethodName) (head1 (Jvm.Cond.code (⟨L1x, "charAt", "([BI)C"⟩ : MethodName) jdk_43_method_2_code 2 (some .char) :: ws) ({ frames := 2, cells := 0, slots := 0, locals := 27 } : Room)) (fun a U => a = #[(.ref ar), (.int 1)] ∧ Z.Warmed39 U.vm ∧ U.heap = h0) (fun _ _ _ _ _ => True) (fun _ U o U' => ∃ v L, o = .returned v ∧ Q_rmCal1 Z ar kb b0 b1 b2 b3 fv h0 n0 v U'.heap L ∧ FrameEnd U o U' L ({ frames := 2, cells := 0, slots := 0, locals := 27 } : Room).cells ({ frames := 2, cells := 0, slots := 0, locals := 27 } : Room).slots) := by
  refine MetFree.of_bodySF (plainFor_of_name pn_1) hisR ?_
  intro p e s m args below meth c s₁ Bd hml0 hP hK
  obtain ⟨rfl, hZ, hh⟩ := hP
  have hx := Bd.exec
  have hby := Bd.bytes
  have hml : c.maxLocals = 2 := hml0
  have hown : s.vm.findClass L1x = some m.cls := findClass_of_methodNamed Bd.named
  have hnm := (name_of_methodNamed Bd.named Bd.method).1
  have X0 : Stand p l e ({ frames := 2, cells := 0, slots := 0, locals := 27 } : Room) s m #[(.ref ar), (.int 1)] below meth c s₁ [] 0 0 := Stand.of_body Bd
  have e0 : s₁.heap = h0 := by rw [← hh, Bd.state]; rfl
  have N0 := Fr.nil n0
  refine own_go (own_lift (fun t k => castTop (ef_rmCal1 m ar (1 : Int32)) k) ?_)
  show own_Go p.tables e below (s₁.setTop (mkF m 0 #[rv ar, iv 1] [])) _
  have sg1 : ∀ t, Steps p.tables e below (s₁.setTop (mkF m 2 #[rv ar, iv 1] [(.ref ar), (.int 1)])) t → Steps p.tables e below (s₁.setTop (mkF m 0 #[rv ar, iv 1] [])) t := by
    intro t k
    refine XS.iloadN X0.here hx rfl (hb hby d18_0) rfl ?_
    show Steps p.tables e below (s₁.setTop (mkF m 1 #[rv ar, iv 1] [(.int 1)])) _
    refine XS.aloadN X0.here hx rfl (hb hby d18_1) rfl rfl ?_
    show Steps p.tables e below (s₁.setTop (mkF m 2 #[rv ar, iv 1] [(.ref ar), (.int 1)])) _
    exact k
  refine own_lift sg1 ?_
  show own_Go p.tables e below (s₁.setTop (mkF m 2 #[rv ar, iv 1] [(.ref ar), (.int 1)])) _
  obtain ⟨cl2, Ar2, -, Sx2, N2', -, -⟩ := id (Ars)
  have st2 : ∀ t, Steps p.tables e below (s₁.setTop (mkF m 3 #[rv ar, iv 1] [(.int 4), (.int 1)])) t → Steps p.tables e below (s₁.setTop (mkF m 2 #[rv ar, iv 1] [(.ref ar), (.int 1)])) t := by
    intro t k
    refine X0.arraylength hx (by rw [e0]; exact Ar2.1) (State.isArrayOf_alike hZ.alike Ar2.2.1) (g := (mkF m 2 #[rv ar, iv 1] [(.ref ar), (.int 1)])) rfl rfl (hb hby d18_2) _ ?_
    rw [len_of Sx2 N2']
    exact k
  refine own_lift st2 ?_
  show own_Go p.tables e below (s₁.setTop (mkF m 3 #[rv ar, iv 1] [(.int 4), (.int 1)])) _
  obtain ⟨_, _, ⟨T3, Lx3, kx3, nx3⟩, -, X3, ⟨Lc3, hQ3, lx3, yx3, zx3⟩, st3⟩ := Jvm.LawKit.callS X0 hx (y := (⟨STx, "checkIndex", "(II)V"⟩ : MethodName)) hown (mvT hZ (wd hw 122 rfl)) (mvT hZ (wd hw 123 rfl)) (mvT hZ (wd hw 10 rfl)) (mvT hZ (wd hw 124 rfl)) (by decide) (backOf (W := 0) (rmCk l Z a0 hw [] (1 : Int32) (4 : Int32) fv h0 n0 Z0 Sfm P_fv (by decide : ¬ ((1 : Int32) < (0 : Int32))) (by decide : (1 : Int32) < (4 : Int32))) hZ (wd hw 124 rfl) (wd hw 10 rfl) (by decide) (by decide)) (g := (mkF m 3 #[rv ar, iv 1] [(.int 4), (.int 1)])) rfl (by rw [hml]; rfl) (argsL := [(.int 1), (.int 4)]) (rest := []) (lenOf pd_10 rfl) rfl (by show 2 * 0 + _ ≤ _; exact Nat.le_of_eq rfl) (hb hby d18_3) (fun _ _ => ⟨rfl, e0, (by decide : 0 + 0 ≤ _), (by decide : 0 + 0 ≤ _)⟩)
  dsimp only [Pt.U, Pt.locs, Pt.cells, Pt.slots] at X3 lx3 yx3 zx3 st3 hQ3
  subst lx3 yx3 zx3
  obtain ⟨rfl, N3q, e3⟩ := hQ3
  have N3 := Fr.app N0 N3q
  refine own_lift st3 ?_
  show own_Go p.tables e below (T3.setTop (mkF m 6 #[rv ar, iv 1] [])) _
  have sg4 : ∀ t, Steps p.tables e below (T3.setTop (mkF m 8 #[rv ar, iv 1] [(.int 1), (.ref ar)])) t → Steps p.tables e below (T3.setTop (mkF m 6 #[rv ar, iv 1] [])) t := by
    intro t k
    refine XS.aloadN X3.here hx rfl (hb hby d18_6) rfl rfl ?_
    show Steps p.tables e below (T3.setTop (mkF m 7 #[rv ar, iv 1] [(.ref ar)])) _
    refine XS.iloadN X3.here hx rfl (hb hby d18_7) rfl ?_
    show Steps p.tables e below (T3.setTop (mkF m 8 #[rv ar, iv 1] [(.int 1), (.ref ar)])) _
    exact k
  refine own_lift sg4 ?_
  show own_Go p.tables e below (T3.setTop (mkF m 8 #[rv ar, iv 1] [(.int 1), (.ref ar)])) _
  obtain ⟨cl5, Ar5, qx5, Sx5, N5', H5', G5'⟩ := id (Ars)
  have hin5 : ¬ ((1 : Int32) < 0 ∨ cl5.slots.size ≤ ((1 : Int32)).toNatClampNeg) := inb_of Sx5 ⟨(by decide : ¬ ((1 : Int32) < (0 : Int32))), (by decide : (1 : Int32) < (4 : Int32))⟩
  have hat5 : cl5.slots[((1 : Int32)).toNatClampNeg]? = some (.int b1) := Has.at H5' hin5 rfl
  have sg6 : ∀ t, Steps p.tables e below (T3.setTop (mkF m 14 #[rv ar, iv 1] [(.int ((b1 &&& (255 : Int32)).toUInt32.toUInt16.toUInt32.toInt32))])) t → Steps p.tables e below (T3.setTop (mkF m 8 #[rv ar, iv 1] [(.int 1), (.ref ar)])) t := by
    intro t k
    refine X3.baloadBytes hx (j := (1 : Int32)) (v := (.int b1)) (by rw [e3]; exact Ar5.1) (State.isArrayOf_alike hZ.alike Ar5.2.1) Ar5.2.2 hin5 hat5 (g := (mkF m 8 #[rv ar, iv 1] [(.int 1), (.ref ar)])) rfl rfl (hb hby d18_8) _ ?_
    show Steps p.tables e below (T3.setTop (mkF m 9 #[rv ar, iv 1] [(.int b1)])) _
    refine XS.sipush X3.here hx rfl (hb hby d18_9) ?_
    refine XS.iand X3.here hx rfl (hb hby d18_12) rfl ?_
    refine XS.i2c X3.here hx rfl (hb hby d18_13) rfl ?_
    show Steps p.tables e below (T3.setTop (mkF m 14 #[rv ar, iv 1] [(.int ((b1 &&& (255 : Int32)).toUInt32.toUInt16.toUInt32.toInt32))])) _
    exact k
  refine own_lift sg6 ?_
  show own_Go p.tables e below (T3.setTop (mkF m 14 #[rv ar, iv 1] [(.int ((b1 &&& (255 : Int32)).toUInt32.toUInt16.toUInt32.toInt32))])) _
  obtain ⟨fs, hr, hrun, hended, hW, hsame⟩ := X3.leave (v := some (.int (nar .char ((b1 &&& (255 : Int32)).toUInt32.toUInt16.toUInt32.toInt32)))) (fun h => by rw [Bd.returns] at h; cases h)
  refine ⟨_, _, ?_, hrun, hended, _, _, rfl, ?_, ⟨_, rfl⟩, hW, hsame.mono (by decide) (by decide)⟩
  · exact retN X3 hx (t := .char) Bd.returns (by simp) (hb hby d18_14) hr
  · show Q_rmCal1 Z ar kb b0 b1 b2 b3 fv h0 n0 _ T3.heap _
    rw [e3]
    exact ⟨rfl, N3, rfl⟩
def Q_rmCal2 (Z : State) (ar : Addr) (kb : ClassId) (b0 : Int32) (b1 : Int32) (b2 : Int32) (b3 : Int32) (fv : Value) (h0 : Heap) (n0 : Nat) (v : Option Value) (h : Heap) (L : List Loc) : Prop := v = some (.int (own_c8 b2)) ∧ Fr n0 L ∧ h = h0
theorem ef_rmCal2 (m : MethodId) (x0 : Addr) (x1 : Int32) : entryFrame m #[(.ref x0), (.int 2)] 2 = mkF m 0 #[.val (.ref x0), .val (.int 2)] [] := by first | (simp [entryFrame, mkF, argsToLocals, Value.category]; done) | rfl
set_option maxRecDepth 65536 in
set_option maxHeartbeats 40000000 in
theorem rmCal2 (l : Launch) (Z : State) (a0 : Array Value) (hw : ∀ d ∈ tables_1, d.before a0 Z = true) (ws : List Jvm.Cond) (ar : Addr) (kb : ClassId) (b0 : Int32) (b1 : Int32) (b2 : Int32) (b3 : Int32) (fv : Value) (h0 : Heap) (n0 : Nat) (Z0 : n0 ≤ h0.size) (Ars : Arv Z h0 ar kb .byte (4 : Int32) [(.int b0), (.int b1), (.int b2), (.int b3)] (.int 0)) (Sfm : Sta Z h0 PCx "SIOOBE_FORMATTER" BFx fv) (P_fv : fv.isRef = true) :
    MetFree l (⟨L1x, "charAt", "([BI)C"⟩ : MethodName) (head1 (Jvm.Cond.code (⟨L1x, "charAt", "([BI)C"⟩ : MethodName) jdk_43_method_2_code 2 (some .char) :: ws) ({ frames := 2, cells := 0, slots := 0, locals := 27 } : Room)) (fun a U => a = #[(.ref ar), (.int 2)] ∧ Z.Warmed39 U.vm ∧ U.heap = h0) (fun _ _ _ _ _ => True) (fun _ U o U' => ∃ v L, o = .returned v ∧ Q_rmCal2 Z ar kb b0 b1 b2 b3 fv h0 n0 v U'.heap L ∧ FrameEnd U o U' L ({ frames := 2, cells := 0, slots := 0, locals := 27 } : Room).cells ({ frames := 2, cells := 0, slots := 0, locals := 27 } : Room).slots) := by
  refine MetFree.of_bodySF (plainFor_of_name pn_1) hisR ?_
  intro p e s m args below meth c s₁ Bd hml0 hP hK
  obtain ⟨rfl, hZ, hh⟩ := hP
  have hx := Bd.exec
  have hby := Bd.bytes
  have hml : c.maxLocals = 2 := hml0
  have hown : s.vm.findClass L1x = some m.cls := findClass_of_methodNamed Bd.named
  have hnm := (name_of_methodNamed Bd.named Bd.method).1
  have X0 : Stand p l e ({ frames := 2, cells := 0, slots := 0, locals := 27 } : Room) s m #[(.ref ar), (.int 2)] below meth c s₁ [] 0 0 := Stand.of_body Bd
  have e0 : s₁.heap = h0 := by rw [← hh, Bd.state]; rfl
  have N0 := Fr.nil n0
  refine own_go (own_lift (fun t k => castTop (ef_rmCal2 m ar (2 : Int32)) k) ?_)
  show own_Go p.tables e below (s₁.setTop (mkF m 0 #[rv ar, iv 2] [])) _
  have sg1 : ∀ t, Steps p.tables e below (s₁.setTop (mkF m 2 #[rv ar, iv 2] [(.ref ar), (.int 2)])) t → Steps p.tables e below (s₁.setTop (mkF m 0 #[rv ar, iv 2] [])) t := by
    intro t k
    refine XS.iloadN X0.here hx rfl (hb hby d18_0) rfl ?_
    show Steps p.tables e below (s₁.setTop (mkF m 1 #[rv ar, iv 2] [(.int 2)])) _
    refine XS.aloadN X0.here hx rfl (hb hby d18_1) rfl rfl ?_
    show Steps p.tables e below (s₁.setTop (mkF m 2 #[rv ar, iv 2] [(.ref ar), (.int 2)])) _
    exact k
  refine own_lift sg1 ?_
  show own_Go p.tables e below (s₁.setTop (mkF m 2 #[rv ar, iv 2] [(.ref ar), (.int 2)])) _
  obtain ⟨cl2, Ar2, -, Sx2, N2', -, -⟩ := id (Ars)
  have st2 : ∀ t, Steps p.tables e below (s₁.setTop (mkF m 3 #[rv ar, iv 2] [(.int 4), (.int 2)])) t → Steps p.tables e below (s₁.setTop (mkF m 2 #[rv ar, iv 2] [(.ref ar), (.int 2)])) t := by
    intro t k
    refine X0.arraylength hx (by rw [e0]; exact Ar2.1) (State.isArrayOf_alike hZ.alike Ar2.2.1) (g := (mkF m 2 #[rv ar, iv 2] [(.ref ar), (.int 2)])) rfl rfl (hb hby d18_2) _ ?_
    rw [len_of Sx2 N2']
    exact k
  refine own_lift st2 ?_
  show own_Go p.tables e below (s₁.setTop (mkF m 3 #[rv ar, iv 2] [(.int 4), (.int 2)])) _
  obtain ⟨_, _, ⟨T3, Lx3, kx3, nx3⟩, -, X3, ⟨Lc3, hQ3, lx3, yx3, zx3⟩, st3⟩ := Jvm.LawKit.callS X0 hx (y := (⟨STx, "checkIndex", "(II)V"⟩ : MethodName)) hown (mvT hZ (wd hw 122 rfl)) (mvT hZ (wd hw 123 rfl)) (mvT hZ (wd hw 10 rfl)) (mvT hZ (wd hw 124 rfl)) (by decide) (backOf (W := 0) (rmCk l Z a0 hw [] (2 : Int32) (4 : Int32) fv h0 n0 Z0 Sfm P_fv (by decide : ¬ ((2 : Int32) < (0 : Int32))) (by decide : (2 : Int32) < (4 : Int32))) hZ (wd hw 124 rfl) (wd hw 10 rfl) (by decide) (by decide)) (g := (mkF m 3 #[rv ar, iv 2] [(.int 4), (.int 2)])) rfl (by rw [hml]; rfl) (argsL := [(.int 2), (.int 4)]) (rest := []) (lenOf pd_10 rfl) rfl (by show 2 * 0 + _ ≤ _; exact Nat.le_of_eq rfl) (hb hby d18_3) (fun _ _ => ⟨rfl, e0, (by decide : 0 + 0 ≤ _), (by decide : 0 + 0 ≤ _)⟩)
  dsimp only [Pt.U, Pt.locs, Pt.cells, Pt.slots] at X3 lx3 yx3 zx3 st3 hQ3
  subst lx3 yx3 zx3
  obtain ⟨rfl, N3q, e3⟩ := hQ3
  have N3 := Fr.app N0 N3q
  refine own_lift st3 ?_
  show own_Go p.tables e below (T3.setTop (mkF m 6 #[rv ar, iv 2] [])) _
  have sg4 : ∀ t, Steps p.tables e below (T3.setTop (mkF m 8 #[rv ar, iv 2] [(.int 2), (.ref ar)])) t → Steps p.tables e below (T3.setTop (mkF m 6 #[rv ar, iv 2] [])) t := by
    intro t k
    refine XS.aloadN X3.here hx rfl (hb hby d18_6) rfl rfl ?_
    show Steps p.tables e below (T3.setTop (mkF m 7 #[rv ar, iv 2] [(.ref ar)])) _
    refine XS.iloadN X3.here hx rfl (hb hby d18_7) rfl ?_
    show Steps p.tables e below (T3.setTop (mkF m 8 #[rv ar, iv 2] [(.int 2), (.ref ar)])) _
    exact k
  refine own_lift sg4 ?_
  show own_Go p.tables e below (T3.setTop (mkF m 8 #[rv ar, iv 2] [(.int 2), (.ref ar)])) _
  obtain ⟨cl5, Ar5, qx5, Sx5, N5', H5', G5'⟩ := id (Ars)
  have hin5 : ¬ ((2 : Int32) < 0 ∨ cl5.slots.size ≤ ((2 : Int32)).toNatClampNeg) := inb_of Sx5 ⟨(by decide : ¬ ((2 : Int32) < (0 : Int32))), (by decide : (2 : Int32) < (4 : Int32))⟩
  have hat5 : cl5.slots[((2 : Int32)).toNatClampNeg]? = some (.int b2) := Has.at H5' hin5 rfl
  have sg6 : ∀ t, Steps p.tables e below (T3.setTop (mkF m 14 #[rv ar, iv 2] [(.int ((b2 &&& (255 : Int32)).toUInt32.toUInt16.toUInt32.toInt32))])) t → Steps p.tables e below (T3.setTop (mkF m 8 #[rv ar, iv 2] [(.int 2), (.ref ar)])) t := by
    intro t k
    refine X3.baloadBytes hx (j := (2 : Int32)) (v := (.int b2)) (by rw [e3]; exact Ar5.1) (State.isArrayOf_alike hZ.alike Ar5.2.1) Ar5.2.2 hin5 hat5 (g := (mkF m 8 #[rv ar, iv 2] [(.int 2), (.ref ar)])) rfl rfl (hb hby d18_8) _ ?_
    show Steps p.tables e below (T3.setTop (mkF m 9 #[rv ar, iv 2] [(.int b2)])) _
    refine XS.sipush X3.here hx rfl (hb hby d18_9) ?_
    refine XS.iand X3.here hx rfl (hb hby d18_12) rfl ?_
    refine XS.i2c X3.here hx rfl (hb hby d18_13) rfl ?_
    show Steps p.tables e below (T3.setTop (mkF m 14 #[rv ar, iv 2] [(.int ((b2 &&& (255 : Int32)).toUInt32.toUInt16.toUInt32.toInt32))])) _
    exact k
  refine own_lift sg6 ?_
  show own_Go p.tables e below (T3.setTop (mkF m 14 #[rv ar, iv 2] [(.int ((b2 &&& (255 : Int32)).toUInt32.toUInt16.toUInt32.toInt32))])) _
  obtain ⟨fs, hr, hrun, hended, hW, hsame⟩ := X3.leave (v := some (.int (nar .char ((b2 &&& (255 : Int32)).toUInt32.toUInt16.toUInt32.toInt32)))) (fun h => by rw [Bd.returns] at h; cases h)
  refine ⟨_, _, ?_, hrun, hended, _, _, rfl, ?_, ⟨_, rfl⟩, hW, hsame.mono (by decide) (by decide)⟩
  · exact retN X3 hx (t := .char) Bd.returns (by simp) (hb hby d18_14) hr
  · show Q_rmCal2 Z ar kb b0 b1 b2 b3 fv h0 n0 _ T3.heap _
    rw [e3]
    exact ⟨rfl, N3, rfl⟩
def Q_rmCal3 (Z : State) (ar : Addr) (kb : ClassId) (b0 : Int32) (b1 : Int32) (b2 : Int32) (b3 : Int32) (fv : Value) (h0 : Heap) (n0 : Nat) (v : Option Value) (h : Heap) (L : List Loc) : Prop := v = some (.int (own_c8 b3)) ∧ Fr n0 L ∧ h = h0
theorem ef_rmCal3 (m : MethodId) (x0 : Addr) (x1 : Int32) : entryFrame m #[(.ref x0), (.int 3)] 2 = mkF m 0 #[.val (.ref x0), .val (.int 3)] [] := by first | (simp [entryFrame, mkF, argsToLocals, Value.category]; done) | rfl
set_option maxRecDepth 65536 in
set_option maxHeartbeats 40000000 in
theorem rmCal3 (l : Launch) (Z : State) (a0 : Array Value) (hw : ∀ d ∈ tables_1, d.before a0 Z = true) (ws : List Jvm.Cond) (ar : Addr) (kb : ClassId) (b0 : Int32) (b1 : Int32) (b2 : Int32) (b3 : Int32) (fv : Value) (h0 : Heap) (n0 : Nat) (Z0 : n0 ≤ h0.size) (Ars : Arv Z h0 ar kb .byte (4 : Int32) [(.int b0), (.int b1), (.int b2), (.int b3)] (.int 0)) (Sfm : Sta Z h0 PCx "SIOOBE_FORMATTER" BFx fv) (P_fv : fv.isRef = true) :
    MetFree l (⟨L1x, "charAt", "([BI)C"⟩ : MethodName) (head1 (Jvm.Cond.code (⟨L1x, "charAt", "([BI)C"⟩ : MethodName) jdk_43_method_2_code 2 (some .char) :: ws) ({ frames := 2, cells := 0, slots := 0, locals := 27 } : Room)) (fun a U => a = #[(.ref ar), (.int 3)] ∧ Z.Warmed39 U.vm ∧ U.heap = h0) (fun _ _ _ _ _ => True) (fun _ U o U' => ∃ v L, o = .returned v ∧ Q_rmCal3 Z ar kb b0 b1 b2 b3 fv h0 n0 v U'.heap L ∧ FrameEnd U o U' L ({ frames := 2, cells := 0, slots := 0, locals := 27 } : Room).cells ({ frames := 2, cells := 0, slots := 0, locals := 27 } : Room).slots) := by
  refine MetFree.of_bodySF (plainFor_of_name pn_1) hisR ?_
  intro p e s m args below meth c s₁ Bd hml0 hP hK
  obtain ⟨rfl, hZ, hh⟩ := hP
  have hx := Bd.exec
  have hby := Bd.bytes
  have hml : c.maxLocals = 2 := hml0
  have hown : s.vm.findClass L1x = some m.cls := findClass_of_methodNamed Bd.named
  have hnm := (name_of_methodNamed Bd.named Bd.method).1
  have X0 : Stand p l e ({ frames := 2, cells := 0, slots := 0, locals := 27 } : Room) s m #[(.ref ar), (.int 3)] below meth c s₁ [] 0 0 := Stand.of_body Bd
  have e0 : s₁.heap = h0 := by rw [← hh, Bd.state]; rfl
  have N0 := Fr.nil n0
  refine own_go (own_lift (fun t k => castTop (ef_rmCal3 m ar (3 : Int32)) k) ?_)
  show own_Go p.tables e below (s₁.setTop (mkF m 0 #[rv ar, iv 3] [])) _
  have sg1 : ∀ t, Steps p.tables e below (s₁.setTop (mkF m 2 #[rv ar, iv 3] [(.ref ar), (.int 3)])) t → Steps p.tables e below (s₁.setTop (mkF m 0 #[rv ar, iv 3] [])) t := by
    intro t k
    refine XS.iloadN X0.here hx rfl (hb hby d18_0) rfl ?_
    show Steps p.tables e below (s₁.setTop (mkF m 1 #[rv ar, iv 3] [(.int 3)])) _
    refine XS.aloadN X0.here hx rfl (hb hby d18_1) rfl rfl ?_
    show Steps p.tables e below (s₁.setTop (mkF m 2 #[rv ar, iv 3] [(.ref ar), (.int 3)])) _
    exact k
  refine own_lift sg1 ?_
  show own_Go p.tables e below (s₁.setTop (mkF m 2 #[rv ar, iv 3] [(.ref ar), (.int 3)])) _
  obtain ⟨cl2, Ar2, -, Sx2, N2', -, -⟩ := id (Ars)
  have st2 : ∀ t, Steps p.tables e below (s₁.setTop (mkF m 3 #[rv ar, iv 3] [(.int 4), (.int 3)])) t → Steps p.tables e below (s₁.setTop (mkF m 2 #[rv ar, iv 3] [(.ref ar), (.int 3)])) t := by
    intro t k
    refine X0.arraylength hx (by rw [e0]; exact Ar2.1) (State.isArrayOf_alike hZ.alike Ar2.2.1) (g := (mkF m 2 #[rv ar, iv 3] [(.ref ar), (.int 3)])) rfl rfl (hb hby d18_2) _ ?_
    rw [len_of Sx2 N2']
    exact k
  refine own_lift st2 ?_
  show own_Go p.tables e below (s₁.setTop (mkF m 3 #[rv ar, iv 3] [(.int 4), (.int 3)])) _
  obtain ⟨_, _, ⟨T3, Lx3, kx3, nx3⟩, -, X3, ⟨Lc3, hQ3, lx3, yx3, zx3⟩, st3⟩ := Jvm.LawKit.callS X0 hx (y := (⟨STx, "checkIndex", "(II)V"⟩ : MethodName)) hown (mvT hZ (wd hw 122 rfl)) (mvT hZ (wd hw 123 rfl)) (mvT hZ (wd hw 10 rfl)) (mvT hZ (wd hw 124 rfl)) (by decide) (backOf (W := 0) (rmCk l Z a0 hw [] (3 : Int32) (4 : Int32) fv h0 n0 Z0 Sfm P_fv (by decide : ¬ ((3 : Int32) < (0 : Int32))) (by decide : (3 : Int32) < (4 : Int32))) hZ (wd hw 124 rfl) (wd hw 10 rfl) (by decide) (by decide)) (g := (mkF m 3 #[rv ar, iv 3] [(.int 4), (.int 3)])) rfl (by rw [hml]; rfl) (argsL := [(.int 3), (.int 4)]) (rest := []) (lenOf pd_10 rfl) rfl (by show 2 * 0 + _ ≤ _; exact Nat.le_of_eq rfl) (hb hby d18_3) (fun _ _ => ⟨rfl, e0, (by decide : 0 + 0 ≤ _), (by decide : 0 + 0 ≤ _)⟩)
  dsimp only [Pt.U, Pt.locs, Pt.cells, Pt.slots] at X3 lx3 yx3 zx3 st3 hQ3
  subst lx3 yx3 zx3
  obtain ⟨rfl, N3q, e3⟩ := hQ3
  have N3 := Fr.app N0 N3q
  refine own_lift st3 ?_
  show own_Go p.tables e below (T3.setTop (mkF m 6 #[rv ar, iv 3] [])) _
  have sg4 : ∀ t, Steps p.tables e below (T3.setTop (mkF m 8 #[rv ar, iv 3] [(.int 3), (.ref ar)])) t → Steps p.tables e below (T3.setTop (mkF m 6 #[rv ar, iv 3] [])) t := by
    intro t k
    refine XS.aloadN X3.here hx rfl (hb hby d18_6) rfl rfl ?_
    show Steps p.tables e below (T3.setTop (mkF m 7 #[rv ar, iv 3] [(.ref ar)])) _
    refine XS.iloadN X3.here hx rfl (hb hby d18_7) rfl ?_
    show Steps p.tables e below (T3.setTop (mkF m 8 #[rv ar, iv 3] [(.int 3), (.ref ar)])) _
    exact k
  refine own_lift sg4 ?_
  show own_Go p.tables e below (T3.setTop (mkF m 8 #[rv ar, iv 3] [(.int 3), (.ref ar)])) _
  obtain ⟨cl5, Ar5, qx5, Sx5, N5', H5', G5'⟩ := id (Ars)
  have hin5 : ¬ ((3 : Int32) < 0 ∨ cl5.slots.size ≤ ((3 : Int32)).toNatClampNeg) := inb_of Sx5 ⟨(by decide : ¬ ((3 : Int32) < (0 : Int32))), (by decide : (3 : Int32) < (4 : Int32))⟩
  have hat5 : cl5.slots[((3 : Int32)).toNatClampNeg]? = some (.int b3) := Has.at H5' hin5 rfl
  have sg6 : ∀ t, Steps p.tables e below (T3.setTop (mkF m 14 #[rv ar, iv 3] [(.int ((b3 &&& (255 : Int32)).toUInt32.toUInt16.toUInt32.toInt32))])) t → Steps p.tables e below (T3.setTop (mkF m 8 #[rv ar, iv 3] [(.int 3), (.ref ar)])) t := by
    intro t k
    refine X3.baloadBytes hx (j := (3 : Int32)) (v := (.int b3)) (by rw [e3]; exact Ar5.1) (State.isArrayOf_alike hZ.alike Ar5.2.1) Ar5.2.2 hin5 hat5 (g := (mkF m 8 #[rv ar, iv 3] [(.int 3), (.ref ar)])) rfl rfl (hb hby d18_8) _ ?_
    show Steps p.tables e below (T3.setTop (mkF m 9 #[rv ar, iv 3] [(.int b3)])) _
    refine XS.sipush X3.here hx rfl (hb hby d18_9) ?_
    refine XS.iand X3.here hx rfl (hb hby d18_12) rfl ?_
    refine XS.i2c X3.here hx rfl (hb hby d18_13) rfl ?_
    show Steps p.tables e below (T3.setTop (mkF m 14 #[rv ar, iv 3] [(.int ((b3 &&& (255 : Int32)).toUInt32.toUInt16.toUInt32.toInt32))])) _
    exact k
  refine own_lift sg6 ?_
  show own_Go p.tables e below (T3.setTop (mkF m 14 #[rv ar, iv 3] [(.int ((b3 &&& (255 : Int32)).toUInt32.toUInt16.toUInt32.toInt32))])) _
  obtain ⟨fs, hr, hrun, hended, hW, hsame⟩ := X3.leave (v := some (.int (nar .char ((b3 &&& (255 : Int32)).toUInt32.toUInt16.toUInt32.toInt32)))) (fun h => by rw [Bd.returns] at h; cases h)
  refine ⟨_, _, ?_, hrun, hended, _, _, rfl, ?_, ⟨_, rfl⟩, hW, hsame.mono (by decide) (by decide)⟩
  · exact retN X3 hx (t := .char) Bd.returns (by simp) (hb hby d18_14) hr
  · show Q_rmCal3 Z ar kb b0 b1 b2 b3 fv h0 n0 _ T3.heap _
    rw [e3]
    exact ⟨rfl, N3, rfl⟩
theorem d19_0 : decode jdk_42_method_56_code 0 = .ok (.aload_n 0, 1) := by decide +kernel
theorem d19_1 : decode jdk_42_method_56_code 1 = .ok (.invokevirtual 492, 3) := by decide +kernel
theorem d19_4 : decode jdk_42_method_56_code 4 = .ok (.ifCond .eq 12, 3) := by decide +kernel
theorem d19_7 : decode jdk_42_method_56_code 7 = .ok (.aload_n 0, 1) := by decide +kernel
theorem d19_8 : decode jdk_42_method_56_code 8 = .ok (.getfield 9, 3) := by decide +kernel
theorem d19_11 : decode jdk_42_method_56_code 11 = .ok (.iload_n 1, 1) := by decide +kernel
theorem d19_12 : decode jdk_42_method_56_code 12 = .ok (.invokestatic 495, 3) := by decide +kernel
theorem pd_11 : parseMethodDescriptor "([BI)C" = some ⟨[(.array .byte), .int], some .char⟩ := by decide +kernel
theorem d19_15 : decode jdk_42_method_56_code 15 = .ok (.ireturn, 1) := by decide +kernel
def Q_rmCas0 (Z : State) (a1 : Addr) (va : Addr) (kb : ClassId) (b0 : Int32) (b1 : Int32) (b2 : Int32) (b3 : Int32) (cs : Int32) (fv : Value) (h0 : Heap) (n0 : Nat) (v : Option Value) (h : Heap) (L : List Loc) : Prop := v = some (.int (own_c8 b0)) ∧ Fr n0 L ∧ h = h0
theorem ef_rmCas0 (m : MethodId) (x0 : Addr) (x1 : Int32) : entryFrame m #[(.ref x0), (.int 0)] 2 = mkF m 0 #[.val (.ref x0), .val (.int 0)] [] := by first | (simp [entryFrame, mkF, argsToLocals, Value.category]; done) | rfl
set_option maxRecDepth 65536 in
set_option maxHeartbeats 40000000 in
theorem rmCas0 (l : Launch) (Z : State) (a0 : Array Value) (hw : ∀ d ∈ tables_1, d.before a0 Z = true) (ws : List Jvm.Cond) (a1 : Addr) (va : Addr) (kb : ClassId) (b0 : Int32) (b1 : Int32) (b2 : Int32) (b3 : Int32) (cs : Int32) (fv : Value) (h0 : Heap) (n0 : Nat) (Z0 : n0 ≤ h0.size) (Es : Exa Z h0 a1 STx) (Fsv : Fld Z h0 a1 STx "value" "[B" (.ref va)) (Fsc : Fld Z h0 a1 STx "coder" "B" (.int 0)) (Ars : Arv Z h0 va kb .byte (4 : Int32) [(.int b0), (.int b1), (.int b2), (.int b3)] (.int 0)) (Scs : Sta Z h0 STx "COMPACT_STRINGS" "Z" (.int cs)) (Sfm : Sta Z h0 PCx "SIOOBE_FORMATTER" BFx fv) (P_cs : ¬ (cs = (0 : Int32))) (P_fv : fv.isRef = true) :
    MetFree l (⟨STx, "charAt", "(I)C"⟩ : MethodName) (head1 (Jvm.Cond.code (⟨STx, "charAt", "(I)C"⟩ : MethodName) jdk_42_method_56_code 2 (some .char) :: ws) ({ frames := 3, cells := 0, slots := 0, locals := 40 } : Room)) (fun a U => a = #[(.ref a1), (.int 0)] ∧ Z.Warmed39 U.vm ∧ U.heap = h0) (fun _ _ _ _ _ => True) (fun _ U o U' => ∃ v L, o = .returned v ∧ Q_rmCas0 Z a1 va kb b0 b1 b2 b3 cs fv h0 n0 v U'.heap L ∧ FrameEnd U o U' L ({ frames := 3, cells := 0, slots := 0, locals := 40 } : Room).cells ({ frames := 3, cells := 0, slots := 0, locals := 40 } : Room).slots) := by
  refine MetFree.of_bodySF (plainFor_of_name pn_0) hisR ?_
  intro p e s m args below meth c s₁ Bd hml0 hP hK
  obtain ⟨rfl, hZ, hh⟩ := hP
  have hx := Bd.exec
  have hby := Bd.bytes
  have hml : c.maxLocals = 2 := hml0
  have hown : s.vm.findClass STx = some m.cls := findClass_of_methodNamed Bd.named
  have hnm := (name_of_methodNamed Bd.named Bd.method).1
  have X0 : Stand p l e ({ frames := 3, cells := 0, slots := 0, locals := 40 } : Room) s m #[(.ref a1), (.int 0)] below meth c s₁ [] 0 0 := Stand.of_body Bd
  have e0 : s₁.heap = h0 := by rw [← hh, Bd.state]; rfl
  have N0 := Fr.nil n0
  refine own_go (own_lift (fun t k => castTop (ef_rmCas0 m a1 (0 : Int32)) k) ?_)
  show own_Go p.tables e below (s₁.setTop (mkF m 0 #[rv a1, iv 0] [])) _
  have sg1 : ∀ t, Steps p.tables e below (s₁.setTop (mkF m 1 #[rv a1, iv 0] [(.ref a1)])) t → Steps p.tables e below (s₁.setTop (mkF m 0 #[rv a1, iv 0] [])) t := by
    intro t k
    refine XS.aloadN X0.here hx rfl (hb hby d19_0) rfl rfl ?_
    show Steps p.tables e below (s₁.setTop (mkF m 1 #[rv a1, iv 0] [(.ref a1)])) _
    exact k
  refine own_lift sg1 ?_
  show own_Go p.tables e below (s₁.setTop (mkF m 1 #[rv a1, iv 0] [(.ref a1)])) _
  obtain ⟨cq2, kq2, q2a, q2b, q2c⟩ := isOf hZ e0 Es
  obtain ⟨_, _, ⟨T2, Lx2, kx2, nx2⟩, -, X2, ⟨Lc2, hQ2, lx2, yx2, zx2⟩, st2⟩ := X0.virtualBack hx (y := (⟨STx, "isLatin1", "()Z"⟩ : MethodName)) (z := (⟨STx, "isLatin1", "()Z"⟩ : MethodName)) hown (mvT hZ (wd hw 59 rfl)) (mvT hZ (wd hw 60 rfl)) (notFace_of_selects (args := #[]) (mvT hZ (wd hw 62 rfl))) (mvT hZ (wd hw 62 rfl)) (mvT hZ (wd hw 61 rfl)) (by decide) (backOf (W := 0) (rmLatin l Z a0 hw [] a1 cs h0 n0 Z0 Fsc Scs P_cs) hZ (wd hw 63 rfl) (wd hw 10 rfl) (by decide) (by decide)) q2a q2c (g := (mkF m 1 #[rv a1, iv 0] [(.ref a1)])) rfl (by rw [hml]; rfl) (Steps.refl _) (argsL := []) (rest := []) (lenOf pd_4 rfl) rfl (by show 2 * 0 + _ ≤ _; exact Nat.le_of_eq rfl) (hb hby d19_1) (fun _ _ => ⟨rfl, e0, (by decide : 0 + 0 ≤ _), (by decide : 0 + 0 ≤ _)⟩)
  dsimp only [Pt.U, Pt.locs, Pt.cells, Pt.slots] at X2 lx2 yx2 zx2 st2 hQ2
  subst lx2 yx2 zx2
  obtain ⟨rfl, N2q, e2⟩ := hQ2
  have N2 := Fr.app N0 N2q
  refine own_lift (fun t k => st2.trans k) ?_
  show own_Go p.tables e below (T2.setTop (mkF m 4 #[rv a1, iv 0] [(.int 1)])) _
  have sg3 : ∀ t, Steps p.tables e below (T2.setTop (mkF m 8 #[rv a1, iv 0] [(.ref a1)])) t → Steps p.tables e below (T2.setTop (mkF m 4 #[rv a1, iv 0] [(.int 1)])) t := by
    intro t k
    refine XS.ifNo X2.here hx rfl (hb hby d19_4) rfl ((if0 _ _).trans (feq (by decide : ¬ ((1 : Int32) = (0 : Int32)))).1) ?_
    show Steps p.tables e below (T2.setTop (mkF m 7 #[rv a1, iv 0] [])) _
    refine XS.aloadN X2.here hx rfl (hb hby d19_7) rfl rfl ?_
    show Steps p.tables e below (T2.setTop (mkF m 8 #[rv a1, iv 0] [(.ref a1)])) _
    exact k
  refine own_lift sg3 ?_
  show own_Go p.tables e below (T2.setTop (mkF m 8 #[rv a1, iv 0] [(.ref a1)])) _
  obtain ⟨T4, X4, e4, st4⟩ := getF X2 hx hZ hown (host := "") (Or.inl (wd hw 35 rfl)) Via.refl e2 Fsv (g := (mkF m 8 #[rv a1, iv 0] [(.ref a1)])) rfl rfl (hb hby d19_8)
  refine own_lift st4 ?_
  show own_Go p.tables e below (T4.setTop (mkF m 11 #[rv a1, iv 0] [(.ref va)])) _
  have sg5 : ∀ t, Steps p.tables e below (T4.setTop (mkF m 12 #[rv a1, iv 0] [(.int 0), (.ref va)])) t → Steps p.tables e below (T4.setTop (mkF m 11 #[rv a1, iv 0] [(.ref va)])) t := by
    intro t k
    refine XS.iloadN X4.here hx rfl (hb hby d19_11) rfl ?_
    show Steps p.tables e below (T4.setTop (mkF m 12 #[rv a1, iv 0] [(.int 0), (.ref va)])) _
    exact k
  refine own_lift sg5 ?_
  show own_Go p.tables e below (T4.setTop (mkF m 12 #[rv a1, iv 0] [(.int 0), (.ref va)])) _
  obtain ⟨_, _, ⟨T6, Lx6, kx6, nx6⟩, -, X6, ⟨Lc6, hQ6, lx6, yx6, zx6⟩, st6⟩ := Jvm.LawKit.callS X4 hx (y := (⟨L1x, "charAt", "([BI)C"⟩ : MethodName)) hown (mvT hZ (wd hw 119 rfl)) (mvT hZ (wd hw 120 rfl)) (mvT hZ (wd hw 76 rfl)) (mvT hZ (wd hw 121 rfl)) (by decide) (backOf (W := 0) (rmCal0 l Z a0 hw [] va kb b0 b1 b2 b3 fv h0 n0 Z0 Ars Sfm P_fv) hZ (wd hw 121 rfl) (wd hw 76 rfl) (by decide) (by decide)) (g := (mkF m 12 #[rv a1, iv 0] [(.int 0), (.ref va)])) rfl (by rw [hml]; rfl) (argsL := [(.ref va), (.int 0)]) (rest := []) (lenOf pd_11 rfl) rfl (by show 2 * 0 + _ ≤ _; exact Nat.le_of_eq rfl) (hb hby d19_12) (fun _ _ => ⟨rfl, e4, (by decide : 0 + 0 ≤ _), (by decide : 0 + 0 ≤ _)⟩)
  dsimp only [Pt.U, Pt.locs, Pt.cells, Pt.slots] at X6 lx6 yx6 zx6 st6 hQ6
  subst lx6 yx6 zx6
  obtain ⟨rfl, N6q, e6⟩ := hQ6
  have N6 := Fr.app N2 N6q
  refine own_lift st6 ?_
  show own_Go p.tables e below (T6.setTop (mkF m 15 #[rv a1, iv 0] [(.int (own_c8 b0))])) _
  obtain ⟨fs, hr, hrun, hended, hW, hsame⟩ := X6.leave (v := some (.int (nar .char (own_c8 b0)))) (fun h => by rw [Bd.returns] at h; cases h)
  refine ⟨_, _, ?_, hrun, hended, _, _, rfl, ?_, ⟨_, rfl⟩, hW, hsame.mono (by decide) (by decide)⟩
  · exact retN X6 hx (t := .char) Bd.returns (by simp) (hb hby d19_15) hr
  · show Q_rmCas0 Z a1 va kb b0 b1 b2 b3 cs fv h0 n0 _ T6.heap _
    rw [e6]
    exact ⟨(by rw [own_c8_nar]), N6, rfl⟩
def Q_rmCas1 (Z : State) (a1 : Addr) (va : Addr) (kb : ClassId) (b0 : Int32) (b1 : Int32) (b2 : Int32) (b3 : Int32) (cs : Int32) (fv : Value) (h0 : Heap) (n0 : Nat) (v : Option Value) (h : Heap) (L : List Loc) : Prop := v = some (.int (own_c8 b1)) ∧ Fr n0 L ∧ h = h0
theorem ef_rmCas1 (m : MethodId) (x0 : Addr) (x1 : Int32) : entryFrame m #[(.ref x0), (.int 1)] 2 = mkF m 0 #[.val (.ref x0), .val (.int 1)] [] := by first | (simp [entryFrame, mkF, argsToLocals, Value.category]; done) | rfl
set_option maxRecDepth 65536 in
set_option maxHeartbeats 40000000 in
theorem rmCas1 (l : Launch) (Z : State) (a0 : Array Value) (hw : ∀ d ∈ tables_1, d.before a0 Z = true) (ws : List Jvm.Cond) (a1 : Addr) (va : Addr) (kb : ClassId) (b0 : Int32) (b1 : Int32) (b2 : Int32) (b3 : Int32) (cs : Int32) (fv : Value) (h0 : Heap) (n0 : Nat) (Z0 : n0 ≤ h0.size) (Es : Exa Z h0 a1 STx) (Fsv : Fld Z h0 a1 STx "value" "[B" (.ref va)) (Fsc : Fld Z h0 a1 STx "coder" "B" (.int 0)) (Ars : Arv Z h0 va kb .byte (4 : Int32) [(.int b0), (.int b1), (.int b2), (.int b3)] (.int 0)) (Scs : Sta Z h0 STx "COMPACT_STRINGS" "Z" (.int cs)) (Sfm : Sta Z h0 PCx "SIOOBE_FORMATTER" BFx fv) (P_cs : ¬ (cs = (0 : Int32))) (P_fv : fv.isRef = true) :
    MetFree l (⟨STx, "charAt", "(I)C"⟩ : MethodName) (head1 (Jvm.Cond.code (⟨STx, "charAt", "(I)C"⟩ : MethodName) jdk_42_method_56_code 2 (some .char) :: ws) ({ frames := 3, cells := 0, slots := 0, locals := 40 } : Room)) (fun a U => a = #[(.ref a1), (.int 1)] ∧ Z.Warmed39 U.vm ∧ U.heap = h0) (fun _ _ _ _ _ => True) (fun _ U o U' => ∃ v L, o = .returned v ∧ Q_rmCas1 Z a1 va kb b0 b1 b2 b3 cs fv h0 n0 v U'.heap L ∧ FrameEnd U o U' L ({ frames := 3, cells := 0, slots := 0, locals := 40 } : Room).cells ({ frames := 3, cells := 0, slots := 0, locals := 40 } : Room).slots) := by
  refine MetFree.of_bodySF (plainFor_of_name pn_0) hisR ?_
  intro p e s m args below meth c s₁ Bd hml0 hP hK
  obtain ⟨rfl, hZ, hh⟩ := hP
  have hx := Bd.exec
  have hby := Bd.bytes
  have hml : c.maxLocals = 2 := hml0
  have hown : s.vm.findClass STx = some m.cls := findClass_of_methodNamed Bd.named
  have hnm := (name_of_methodNamed Bd.named Bd.method).1
  have X0 : Stand p l e ({ frames := 3, cells := 0, slots := 0, locals := 40 } : Room) s m #[(.ref a1), (.int 1)] below meth c s₁ [] 0 0 := Stand.of_body Bd
  have e0 : s₁.heap = h0 := by rw [← hh, Bd.state]; rfl
  have N0 := Fr.nil n0
  refine own_go (own_lift (fun t k => castTop (ef_rmCas1 m a1 (1 : Int32)) k) ?_)
  show own_Go p.tables e below (s₁.setTop (mkF m 0 #[rv a1, iv 1] [])) _
  have sg1 : ∀ t, Steps p.tables e below (s₁.setTop (mkF m 1 #[rv a1, iv 1] [(.ref a1)])) t → Steps p.tables e below (s₁.setTop (mkF m 0 #[rv a1, iv 1] [])) t := by
    intro t k
    refine XS.aloadN X0.here hx rfl (hb hby d19_0) rfl rfl ?_
    show Steps p.tables e below (s₁.setTop (mkF m 1 #[rv a1, iv 1] [(.ref a1)])) _
    exact k
  refine own_lift sg1 ?_
  show own_Go p.tables e below (s₁.setTop (mkF m 1 #[rv a1, iv 1] [(.ref a1)])) _
  obtain ⟨cq2, kq2, q2a, q2b, q2c⟩ := isOf hZ e0 Es
  obtain ⟨_, _, ⟨T2, Lx2, kx2, nx2⟩, -, X2, ⟨Lc2, hQ2, lx2, yx2, zx2⟩, st2⟩ := X0.virtualBack hx (y := (⟨STx, "isLatin1", "()Z"⟩ : MethodName)) (z := (⟨STx, "isLatin1", "()Z"⟩ : MethodName)) hown (mvT hZ (wd hw 59 rfl)) (mvT hZ (wd hw 60 rfl)) (notFace_of_selects (args := #[]) (mvT hZ (wd hw 62 rfl))) (mvT hZ (wd hw 62 rfl)) (mvT hZ (wd hw 61 rfl)) (by decide) (backOf (W := 0) (rmLatin l Z a0 hw [] a1 cs h0 n0 Z0 Fsc Scs P_cs) hZ (wd hw 63 rfl) (wd hw 10 rfl) (by decide) (by decide)) q2a q2c (g := (mkF m 1 #[rv a1, iv 1] [(.ref a1)])) rfl (by rw [hml]; rfl) (Steps.refl _) (argsL := []) (rest := []) (lenOf pd_4 rfl) rfl (by show 2 * 0 + _ ≤ _; exact Nat.le_of_eq rfl) (hb hby d19_1) (fun _ _ => ⟨rfl, e0, (by decide : 0 + 0 ≤ _), (by decide : 0 + 0 ≤ _)⟩)
  dsimp only [Pt.U, Pt.locs, Pt.cells, Pt.slots] at X2 lx2 yx2 zx2 st2 hQ2
  subst lx2 yx2 zx2
  obtain ⟨rfl, N2q, e2⟩ := hQ2
  have N2 := Fr.app N0 N2q
  refine own_lift (fun t k => st2.trans k) ?_
  show own_Go p.tables e below (T2.setTop (mkF m 4 #[rv a1, iv 1] [(.int 1)])) _
  have sg3 : ∀ t, Steps p.tables e below (T2.setTop (mkF m 8 #[rv a1, iv 1] [(.ref a1)])) t → Steps p.tables e below (T2.setTop (mkF m 4 #[rv a1, iv 1] [(.int 1)])) t := by
    intro t k
    refine XS.ifNo X2.here hx rfl (hb hby d19_4) rfl ((if0 _ _).trans (feq (by decide : ¬ ((1 : Int32) = (0 : Int32)))).1) ?_
    show Steps p.tables e below (T2.setTop (mkF m 7 #[rv a1, iv 1] [])) _
    refine XS.aloadN X2.here hx rfl (hb hby d19_7) rfl rfl ?_
    show Steps p.tables e below (T2.setTop (mkF m 8 #[rv a1, iv 1] [(.ref a1)])) _
    exact k
  refine own_lift sg3 ?_
  show own_Go p.tables e below (T2.setTop (mkF m 8 #[rv a1, iv 1] [(.ref a1)])) _
  obtain ⟨T4, X4, e4, st4⟩ := getF X2 hx hZ hown (host := "") (Or.inl (wd hw 35 rfl)) Via.refl e2 Fsv (g := (mkF m 8 #[rv a1, iv 1] [(.ref a1)])) rfl rfl (hb hby d19_8)
  refine own_lift st4 ?_
  show own_Go p.tables e below (T4.setTop (mkF m 11 #[rv a1, iv 1] [(.ref va)])) _
  have sg5 : ∀ t, Steps p.tables e below (T4.setTop (mkF m 12 #[rv a1, iv 1] [(.int 1), (.ref va)])) t → Steps p.tables e below (T4.setTop (mkF m 11 #[rv a1, iv 1] [(.ref va)])) t := by
    intro t k
    refine XS.iloadN X4.here hx rfl (hb hby d19_11) rfl ?_
    show Steps p.tables e below (T4.setTop (mkF m 12 #[rv a1, iv 1] [(.int 1), (.ref va)])) _
    exact k
  refine own_lift sg5 ?_
  show own_Go p.tables e below (T4.setTop (mkF m 12 #[rv a1, iv 1] [(.int 1), (.ref va)])) _
  obtain ⟨_, _, ⟨T6, Lx6, kx6, nx6⟩, -, X6, ⟨Lc6, hQ6, lx6, yx6, zx6⟩, st6⟩ := Jvm.LawKit.callS X4 hx (y := (⟨L1x, "charAt", "([BI)C"⟩ : MethodName)) hown (mvT hZ (wd hw 119 rfl)) (mvT hZ (wd hw 120 rfl)) (mvT hZ (wd hw 76 rfl)) (mvT hZ (wd hw 121 rfl)) (by decide) (backOf (W := 0) (rmCal1 l Z a0 hw [] va kb b0 b1 b2 b3 fv h0 n0 Z0 Ars Sfm P_fv) hZ (wd hw 121 rfl) (wd hw 76 rfl) (by decide) (by decide)) (g := (mkF m 12 #[rv a1, iv 1] [(.int 1), (.ref va)])) rfl (by rw [hml]; rfl) (argsL := [(.ref va), (.int 1)]) (rest := []) (lenOf pd_11 rfl) rfl (by show 2 * 0 + _ ≤ _; exact Nat.le_of_eq rfl) (hb hby d19_12) (fun _ _ => ⟨rfl, e4, (by decide : 0 + 0 ≤ _), (by decide : 0 + 0 ≤ _)⟩)
  dsimp only [Pt.U, Pt.locs, Pt.cells, Pt.slots] at X6 lx6 yx6 zx6 st6 hQ6
  subst lx6 yx6 zx6
  obtain ⟨rfl, N6q, e6⟩ := hQ6
  have N6 := Fr.app N2 N6q
  refine own_lift st6 ?_
  show own_Go p.tables e below (T6.setTop (mkF m 15 #[rv a1, iv 1] [(.int (own_c8 b1))])) _
  obtain ⟨fs, hr, hrun, hended, hW, hsame⟩ := X6.leave (v := some (.int (nar .char (own_c8 b1)))) (fun h => by rw [Bd.returns] at h; cases h)
  refine ⟨_, _, ?_, hrun, hended, _, _, rfl, ?_, ⟨_, rfl⟩, hW, hsame.mono (by decide) (by decide)⟩
  · exact retN X6 hx (t := .char) Bd.returns (by simp) (hb hby d19_15) hr
  · show Q_rmCas1 Z a1 va kb b0 b1 b2 b3 cs fv h0 n0 _ T6.heap _
    rw [e6]
    exact ⟨(by rw [own_c8_nar]), N6, rfl⟩
def Q_rmCas2 (Z : State) (a1 : Addr) (va : Addr) (kb : ClassId) (b0 : Int32) (b1 : Int32) (b2 : Int32) (b3 : Int32) (cs : Int32) (fv : Value) (h0 : Heap) (n0 : Nat) (v : Option Value) (h : Heap) (L : List Loc) : Prop := v = some (.int (own_c8 b2)) ∧ Fr n0 L ∧ h = h0
theorem ef_rmCas2 (m : MethodId) (x0 : Addr) (x1 : Int32) : entryFrame m #[(.ref x0), (.int 2)] 2 = mkF m 0 #[.val (.ref x0), .val (.int 2)] [] := by first | (simp [entryFrame, mkF, argsToLocals, Value.category]; done) | rfl
set_option maxRecDepth 65536 in
set_option maxHeartbeats 40000000 in
theorem rmCas2 (l : Launch) (Z : State) (a0 : Array Value) (hw : ∀ d ∈ tables_1, d.before a0 Z = true) (ws : List Jvm.Cond) (a1 : Addr) (va : Addr) (kb : ClassId) (b0 : Int32) (b1 : Int32) (b2 : Int32) (b3 : Int32) (cs : Int32) (fv : Value) (h0 : Heap) (n0 : Nat) (Z0 : n0 ≤ h0.size) (Es : Exa Z h0 a1 STx) (Fsv : Fld Z h0 a1 STx "value" "[B" (.ref va)) (Fsc : Fld Z h0 a1 STx "coder" "B" (.int 0)) (Ars : Arv Z h0 va kb .byte (4 : Int32) [(.int b0), (.int b1), (.int b2), (.int b3)] (.int 0)) (Scs : Sta Z h0 STx "COMPACT_STRINGS" "Z" (.int cs)) (Sfm : Sta Z h0 PCx "SIOOBE_FORMATTER" BFx fv) (P_cs : ¬ (cs = (0 : Int32))) (P_fv : fv.isRef = true) :
    MetFree l (⟨STx, "charAt", "(I)C"⟩ : MethodName) (head1 (Jvm.Cond.code (⟨STx, "charAt", "(I)C"⟩ : MethodName) jdk_42_method_56_code 2 (some .char) :: ws) ({ frames := 3, cells := 0, slots := 0, locals := 40 } : Room)) (fun a U => a = #[(.ref a1), (.int 2)] ∧ Z.Warmed39 U.vm ∧ U.heap = h0) (fun _ _ _ _ _ => True) (fun _ U o U' => ∃ v L, o = .returned v ∧ Q_rmCas2 Z a1 va kb b0 b1 b2 b3 cs fv h0 n0 v U'.heap L ∧ FrameEnd U o U' L ({ frames := 3, cells := 0, slots := 0, locals := 40 } : Room).cells ({ frames := 3, cells := 0, slots := 0, locals := 40 } : Room).slots) := by
  refine MetFree.of_bodySF (plainFor_of_name pn_0) hisR ?_
  intro p e s m args below meth c s₁ Bd hml0 hP hK
  obtain ⟨rfl, hZ, hh⟩ := hP
  have hx := Bd.exec
  have hby := Bd.bytes
  have hml : c.maxLocals = 2 := hml0
  have hown : s.vm.findClass STx = some m.cls := findClass_of_methodNamed Bd.named
  have hnm := (name_of_methodNamed Bd.named Bd.method).1
  have X0 : Stand p l e ({ frames := 3, cells := 0, slots := 0, locals := 40 } : Room) s m #[(.ref a1), (.int 2)] below meth c s₁ [] 0 0 := Stand.of_body Bd
  have e0 : s₁.heap = h0 := by rw [← hh, Bd.state]; rfl
  have N0 := Fr.nil n0
  refine own_go (own_lift (fun t k => castTop (ef_rmCas2 m a1 (2 : Int32)) k) ?_)
  show own_Go p.tables e below (s₁.setTop (mkF m 0 #[rv a1, iv 2] [])) _
  have sg1 : ∀ t, Steps p.tables e below (s₁.setTop (mkF m 1 #[rv a1, iv 2] [(.ref a1)])) t → Steps p.tables e below (s₁.setTop (mkF m 0 #[rv a1, iv 2] [])) t := by
    intro t k
    refine XS.aloadN X0.here hx rfl (hb hby d19_0) rfl rfl ?_
    show Steps p.tables e below (s₁.setTop (mkF m 1 #[rv a1, iv 2] [(.ref a1)])) _
    exact k
  refine own_lift sg1 ?_
  show own_Go p.tables e below (s₁.setTop (mkF m 1 #[rv a1, iv 2] [(.ref a1)])) _
  obtain ⟨cq2, kq2, q2a, q2b, q2c⟩ := isOf hZ e0 Es
  obtain ⟨_, _, ⟨T2, Lx2, kx2, nx2⟩, -, X2, ⟨Lc2, hQ2, lx2, yx2, zx2⟩, st2⟩ := X0.virtualBack hx (y := (⟨STx, "isLatin1", "()Z"⟩ : MethodName)) (z := (⟨STx, "isLatin1", "()Z"⟩ : MethodName)) hown (mvT hZ (wd hw 59 rfl)) (mvT hZ (wd hw 60 rfl)) (notFace_of_selects (args := #[]) (mvT hZ (wd hw 62 rfl))) (mvT hZ (wd hw 62 rfl)) (mvT hZ (wd hw 61 rfl)) (by decide) (backOf (W := 0) (rmLatin l Z a0 hw [] a1 cs h0 n0 Z0 Fsc Scs P_cs) hZ (wd hw 63 rfl) (wd hw 10 rfl) (by decide) (by decide)) q2a q2c (g := (mkF m 1 #[rv a1, iv 2] [(.ref a1)])) rfl (by rw [hml]; rfl) (Steps.refl _) (argsL := []) (rest := []) (lenOf pd_4 rfl) rfl (by show 2 * 0 + _ ≤ _; exact Nat.le_of_eq rfl) (hb hby d19_1) (fun _ _ => ⟨rfl, e0, (by decide : 0 + 0 ≤ _), (by decide : 0 + 0 ≤ _)⟩)
  dsimp only [Pt.U, Pt.locs, Pt.cells, Pt.slots] at X2 lx2 yx2 zx2 st2 hQ2
  subst lx2 yx2 zx2
  obtain ⟨rfl, N2q, e2⟩ := hQ2
  have N2 := Fr.app N0 N2q
  refine own_lift (fun t k => st2.trans k) ?_
  show own_Go p.tables e below (T2.setTop (mkF m 4 #[rv a1, iv 2] [(.int 1)])) _
  have sg3 : ∀ t, Steps p.tables e below (T2.setTop (mkF m 8 #[rv a1, iv 2] [(.ref a1)])) t → Steps p.tables e below (T2.setTop (mkF m 4 #[rv a1, iv 2] [(.int 1)])) t := by
    intro t k
    refine XS.ifNo X2.here hx rfl (hb hby d19_4) rfl ((if0 _ _).trans (feq (by decide : ¬ ((1 : Int32) = (0 : Int32)))).1) ?_
    show Steps p.tables e below (T2.setTop (mkF m 7 #[rv a1, iv 2] [])) _
    refine XS.aloadN X2.here hx rfl (hb hby d19_7) rfl rfl ?_
    show Steps p.tables e below (T2.setTop (mkF m 8 #[rv a1, iv 2] [(.ref a1)])) _
    exact k
  refine own_lift sg3 ?_
  show own_Go p.tables e below (T2.setTop (mkF m 8 #[rv a1, iv 2] [(.ref a1)])) _
  obtain ⟨T4, X4, e4, st4⟩ := getF X2 hx hZ hown (host := "") (Or.inl (wd hw 35 rfl)) Via.refl e2 Fsv (g := (mkF m 8 #[rv a1, iv 2] [(.ref a1)])) rfl rfl (hb hby d19_8)
  refine own_lift st4 ?_
  show own_Go p.tables e below (T4.setTop (mkF m 11 #[rv a1, iv 2] [(.ref va)])) _
  have sg5 : ∀ t, Steps p.tables e below (T4.setTop (mkF m 12 #[rv a1, iv 2] [(.int 2), (.ref va)])) t → Steps p.tables e below (T4.setTop (mkF m 11 #[rv a1, iv 2] [(.ref va)])) t := by
    intro t k
    refine XS.iloadN X4.here hx rfl (hb hby d19_11) rfl ?_
    show Steps p.tables e below (T4.setTop (mkF m 12 #[rv a1, iv 2] [(.int 2), (.ref va)])) _
    exact k
  refine own_lift sg5 ?_
  show own_Go p.tables e below (T4.setTop (mkF m 12 #[rv a1, iv 2] [(.int 2), (.ref va)])) _
  obtain ⟨_, _, ⟨T6, Lx6, kx6, nx6⟩, -, X6, ⟨Lc6, hQ6, lx6, yx6, zx6⟩, st6⟩ := Jvm.LawKit.callS X4 hx (y := (⟨L1x, "charAt", "([BI)C"⟩ : MethodName)) hown (mvT hZ (wd hw 119 rfl)) (mvT hZ (wd hw 120 rfl)) (mvT hZ (wd hw 76 rfl)) (mvT hZ (wd hw 121 rfl)) (by decide) (backOf (W := 0) (rmCal2 l Z a0 hw [] va kb b0 b1 b2 b3 fv h0 n0 Z0 Ars Sfm P_fv) hZ (wd hw 121 rfl) (wd hw 76 rfl) (by decide) (by decide)) (g := (mkF m 12 #[rv a1, iv 2] [(.int 2), (.ref va)])) rfl (by rw [hml]; rfl) (argsL := [(.ref va), (.int 2)]) (rest := []) (lenOf pd_11 rfl) rfl (by show 2 * 0 + _ ≤ _; exact Nat.le_of_eq rfl) (hb hby d19_12) (fun _ _ => ⟨rfl, e4, (by decide : 0 + 0 ≤ _), (by decide : 0 + 0 ≤ _)⟩)
  dsimp only [Pt.U, Pt.locs, Pt.cells, Pt.slots] at X6 lx6 yx6 zx6 st6 hQ6
  subst lx6 yx6 zx6
  obtain ⟨rfl, N6q, e6⟩ := hQ6
  have N6 := Fr.app N2 N6q
  refine own_lift st6 ?_
  show own_Go p.tables e below (T6.setTop (mkF m 15 #[rv a1, iv 2] [(.int (own_c8 b2))])) _
  obtain ⟨fs, hr, hrun, hended, hW, hsame⟩ := X6.leave (v := some (.int (nar .char (own_c8 b2)))) (fun h => by rw [Bd.returns] at h; cases h)
  refine ⟨_, _, ?_, hrun, hended, _, _, rfl, ?_, ⟨_, rfl⟩, hW, hsame.mono (by decide) (by decide)⟩
  · exact retN X6 hx (t := .char) Bd.returns (by simp) (hb hby d19_15) hr
  · show Q_rmCas2 Z a1 va kb b0 b1 b2 b3 cs fv h0 n0 _ T6.heap _
    rw [e6]
    exact ⟨(by rw [own_c8_nar]), N6, rfl⟩
def Q_rmCas3 (Z : State) (a1 : Addr) (va : Addr) (kb : ClassId) (b0 : Int32) (b1 : Int32) (b2 : Int32) (b3 : Int32) (cs : Int32) (fv : Value) (h0 : Heap) (n0 : Nat) (v : Option Value) (h : Heap) (L : List Loc) : Prop := v = some (.int (own_c8 b3)) ∧ Fr n0 L ∧ h = h0
theorem ef_rmCas3 (m : MethodId) (x0 : Addr) (x1 : Int32) : entryFrame m #[(.ref x0), (.int 3)] 2 = mkF m 0 #[.val (.ref x0), .val (.int 3)] [] := by first | (simp [entryFrame, mkF, argsToLocals, Value.category]; done) | rfl
set_option maxRecDepth 65536 in
set_option maxHeartbeats 40000000 in
theorem rmCas3 (l : Launch) (Z : State) (a0 : Array Value) (hw : ∀ d ∈ tables_1, d.before a0 Z = true) (ws : List Jvm.Cond) (a1 : Addr) (va : Addr) (kb : ClassId) (b0 : Int32) (b1 : Int32) (b2 : Int32) (b3 : Int32) (cs : Int32) (fv : Value) (h0 : Heap) (n0 : Nat) (Z0 : n0 ≤ h0.size) (Es : Exa Z h0 a1 STx) (Fsv : Fld Z h0 a1 STx "value" "[B" (.ref va)) (Fsc : Fld Z h0 a1 STx "coder" "B" (.int 0)) (Ars : Arv Z h0 va kb .byte (4 : Int32) [(.int b0), (.int b1), (.int b2), (.int b3)] (.int 0)) (Scs : Sta Z h0 STx "COMPACT_STRINGS" "Z" (.int cs)) (Sfm : Sta Z h0 PCx "SIOOBE_FORMATTER" BFx fv) (P_cs : ¬ (cs = (0 : Int32))) (P_fv : fv.isRef = true) :
    MetFree l (⟨STx, "charAt", "(I)C"⟩ : MethodName) (head1 (Jvm.Cond.code (⟨STx, "charAt", "(I)C"⟩ : MethodName) jdk_42_method_56_code 2 (some .char) :: ws) ({ frames := 3, cells := 0, slots := 0, locals := 40 } : Room)) (fun a U => a = #[(.ref a1), (.int 3)] ∧ Z.Warmed39 U.vm ∧ U.heap = h0) (fun _ _ _ _ _ => True) (fun _ U o U' => ∃ v L, o = .returned v ∧ Q_rmCas3 Z a1 va kb b0 b1 b2 b3 cs fv h0 n0 v U'.heap L ∧ FrameEnd U o U' L ({ frames := 3, cells := 0, slots := 0, locals := 40 } : Room).cells ({ frames := 3, cells := 0, slots := 0, locals := 40 } : Room).slots) := by
  refine MetFree.of_bodySF (plainFor_of_name pn_0) hisR ?_
  intro p e s m args below meth c s₁ Bd hml0 hP hK
  obtain ⟨rfl, hZ, hh⟩ := hP
  have hx := Bd.exec
  have hby := Bd.bytes
  have hml : c.maxLocals = 2 := hml0
  have hown : s.vm.findClass STx = some m.cls := findClass_of_methodNamed Bd.named
  have hnm := (name_of_methodNamed Bd.named Bd.method).1
  have X0 : Stand p l e ({ frames := 3, cells := 0, slots := 0, locals := 40 } : Room) s m #[(.ref a1), (.int 3)] below meth c s₁ [] 0 0 := Stand.of_body Bd
  have e0 : s₁.heap = h0 := by rw [← hh, Bd.state]; rfl
  have N0 := Fr.nil n0
  refine own_go (own_lift (fun t k => castTop (ef_rmCas3 m a1 (3 : Int32)) k) ?_)
  show own_Go p.tables e below (s₁.setTop (mkF m 0 #[rv a1, iv 3] [])) _
  have sg1 : ∀ t, Steps p.tables e below (s₁.setTop (mkF m 1 #[rv a1, iv 3] [(.ref a1)])) t → Steps p.tables e below (s₁.setTop (mkF m 0 #[rv a1, iv 3] [])) t := by
    intro t k
    refine XS.aloadN X0.here hx rfl (hb hby d19_0) rfl rfl ?_
    show Steps p.tables e below (s₁.setTop (mkF m 1 #[rv a1, iv 3] [(.ref a1)])) _
    exact k
  refine own_lift sg1 ?_
  show own_Go p.tables e below (s₁.setTop (mkF m 1 #[rv a1, iv 3] [(.ref a1)])) _
  obtain ⟨cq2, kq2, q2a, q2b, q2c⟩ := isOf hZ e0 Es
  obtain ⟨_, _, ⟨T2, Lx2, kx2, nx2⟩, -, X2, ⟨Lc2, hQ2, lx2, yx2, zx2⟩, st2⟩ := X0.virtualBack hx (y := (⟨STx, "isLatin1", "()Z"⟩ : MethodName)) (z := (⟨STx, "isLatin1", "()Z"⟩ : MethodName)) hown (mvT hZ (wd hw 59 rfl)) (mvT hZ (wd hw 60 rfl)) (notFace_of_selects (args := #[]) (mvT hZ (wd hw 62 rfl))) (mvT hZ (wd hw 62 rfl)) (mvT hZ (wd hw 61 rfl)) (by decide) (backOf (W := 0) (rmLatin l Z a0 hw [] a1 cs h0 n0 Z0 Fsc Scs P_cs) hZ (wd hw 63 rfl) (wd hw 10 rfl) (by decide) (by decide)) q2a q2c (g := (mkF m 1 #[rv a1, iv 3] [(.ref a1)])) rfl (by rw [hml]; rfl) (Steps.refl _) (argsL := []) (rest := []) (lenOf pd_4 rfl) rfl (by show 2 * 0 + _ ≤ _; exact Nat.le_of_eq rfl) (hb hby d19_1) (fun _ _ => ⟨rfl, e0, (by decide : 0 + 0 ≤ _), (by decide : 0 + 0 ≤ _)⟩)
  dsimp only [Pt.U, Pt.locs, Pt.cells, Pt.slots] at X2 lx2 yx2 zx2 st2 hQ2
  subst lx2 yx2 zx2
  obtain ⟨rfl, N2q, e2⟩ := hQ2
  have N2 := Fr.app N0 N2q
  refine own_lift (fun t k => st2.trans k) ?_
  show own_Go p.tables e below (T2.setTop (mkF m 4 #[rv a1, iv 3] [(.int 1)])) _
  have sg3 : ∀ t, Steps p.tables e below (T2.setTop (mkF m 8 #[rv a1, iv 3] [(.ref a1)])) t → Steps p.tables e below (T2.setTop (mkF m 4 #[rv a1, iv 3] [(.int 1)])) t := by
    intro t k
    refine XS.ifNo X2.here hx rfl (hb hby d19_4) rfl ((if0 _ _).trans (feq (by decide : ¬ ((1 : Int32) = (0 : Int32)))).1) ?_
    show Steps p.tables e below (T2.setTop (mkF m 7 #[rv a1, iv 3] [])) _
    refine XS.aloadN X2.here hx rfl (hb hby d19_7) rfl rfl ?_
    show Steps p.tables e below (T2.setTop (mkF m 8 #[rv a1, iv 3] [(.ref a1)])) _
    exact k
  refine own_lift sg3 ?_
  show own_Go p.tables e below (T2.setTop (mkF m 8 #[rv a1, iv 3] [(.ref a1)])) _
  obtain ⟨T4, X4, e4, st4⟩ := getF X2 hx hZ hown (host := "") (Or.inl (wd hw 35 rfl)) Via.refl e2 Fsv (g := (mkF m 8 #[rv a1, iv 3] [(.ref a1)])) rfl rfl (hb hby d19_8)
  refine own_lift st4 ?_
  show own_Go p.tables e below (T4.setTop (mkF m 11 #[rv a1, iv 3] [(.ref va)])) _
  have sg5 : ∀ t, Steps p.tables e below (T4.setTop (mkF m 12 #[rv a1, iv 3] [(.int 3), (.ref va)])) t → Steps p.tables e below (T4.setTop (mkF m 11 #[rv a1, iv 3] [(.ref va)])) t := by
    intro t k
    refine XS.iloadN X4.here hx rfl (hb hby d19_11) rfl ?_
    show Steps p.tables e below (T4.setTop (mkF m 12 #[rv a1, iv 3] [(.int 3), (.ref va)])) _
    exact k
  refine own_lift sg5 ?_
  show own_Go p.tables e below (T4.setTop (mkF m 12 #[rv a1, iv 3] [(.int 3), (.ref va)])) _
  obtain ⟨_, _, ⟨T6, Lx6, kx6, nx6⟩, -, X6, ⟨Lc6, hQ6, lx6, yx6, zx6⟩, st6⟩ := Jvm.LawKit.callS X4 hx (y := (⟨L1x, "charAt", "([BI)C"⟩ : MethodName)) hown (mvT hZ (wd hw 119 rfl)) (mvT hZ (wd hw 120 rfl)) (mvT hZ (wd hw 76 rfl)) (mvT hZ (wd hw 121 rfl)) (by decide) (backOf (W := 0) (rmCal3 l Z a0 hw [] va kb b0 b1 b2 b3 fv h0 n0 Z0 Ars Sfm P_fv) hZ (wd hw 121 rfl) (wd hw 76 rfl) (by decide) (by decide)) (g := (mkF m 12 #[rv a1, iv 3] [(.int 3), (.ref va)])) rfl (by rw [hml]; rfl) (argsL := [(.ref va), (.int 3)]) (rest := []) (lenOf pd_11 rfl) rfl (by show 2 * 0 + _ ≤ _; exact Nat.le_of_eq rfl) (hb hby d19_12) (fun _ _ => ⟨rfl, e4, (by decide : 0 + 0 ≤ _), (by decide : 0 + 0 ≤ _)⟩)
  dsimp only [Pt.U, Pt.locs, Pt.cells, Pt.slots] at X6 lx6 yx6 zx6 st6 hQ6
  subst lx6 yx6 zx6
  obtain ⟨rfl, N6q, e6⟩ := hQ6
  have N6 := Fr.app N2 N6q
  refine own_lift st6 ?_
  show own_Go p.tables e below (T6.setTop (mkF m 15 #[rv a1, iv 3] [(.int (own_c8 b3))])) _
  obtain ⟨fs, hr, hrun, hended, hW, hsame⟩ := X6.leave (v := some (.int (nar .char (own_c8 b3)))) (fun h => by rw [Bd.returns] at h; cases h)
  refine ⟨_, _, ?_, hrun, hended, _, _, rfl, ?_, ⟨_, rfl⟩, hW, hsame.mono (by decide) (by decide)⟩
  · exact retN X6 hx (t := .char) Bd.returns (by simp) (hb hby d19_15) hr
  · show Q_rmCas3 Z a1 va kb b0 b1 b2 b3 cs fv h0 n0 _ T6.heap _
    rw [e6]
    exact ⟨(by rw [own_c8_nar]), N6, rfl⟩
theorem d20_0 : decode prog_63_method_11_code 0 = .ok (.aload_n 0, 1) := by decide +kernel
theorem d20_1 : decode prog_63_method_11_code 1 = .ok (.getfield 16, 3) := by decide +kernel
theorem d20_4 : decode prog_63_method_11_code 4 = .ok (.aload_n 0, 1) := by decide +kernel
theorem d20_5 : decode prog_63_method_11_code 5 = .ok (.getfield 30, 3) := by decide +kernel
theorem d20_8 : decode prog_63_method_11_code 8 = .ok (.iload_n 1, 1) := by decide +kernel
theorem d20_9 : decode prog_63_method_11_code 9 = .ok (.iadd, 1) := by decide +kernel
theorem d20_10 : decode prog_63_method_11_code 10 = .ok (.invokevirtual 39, 3) := by decide +kernel
theorem pd_12 : parseMethodDescriptor "(I)C" = some ⟨[.int], some .char⟩ := by decide +kernel
theorem d20_13 : decode prog_63_method_11_code 13 = .ok (.ireturn, 1) := by decide +kernel
def Q_rmCac0 (Z : State) (a1 : Addr) (tx : Addr) (va : Addr) (kb : ClassId) (b0 : Int32) (b1 : Int32) (b2 : Int32) (b3 : Int32) (cs : Int32) (fv : Value) (h0 : Heap) (n0 : Nat) (v : Option Value) (h : Heap) (L : List Loc) : Prop := v = some (.int (own_c8 b0)) ∧ Fr n0 L ∧ h = h0
theorem ef_rmCac0 (m : MethodId) (x0 : Addr) (x1 : Int32) : entryFrame m #[(.ref x0), (.int 0)] 2 = mkF m 0 #[.val (.ref x0), .val (.int 0)] [] := by first | (simp [entryFrame, mkF, argsToLocals, Value.category]; done) | rfl
set_option maxRecDepth 65536 in
set_option maxHeartbeats 40000000 in
theorem rmCac0 (l : Launch) (Z : State) (a0 : Array Value) (hw : ∀ d ∈ tables_1, d.before a0 Z = true) (ws : List Jvm.Cond) (a1 : Addr) (tx : Addr) (va : Addr) (kb : ClassId) (b0 : Int32) (b1 : Int32) (b2 : Int32) (b3 : Int32) (cs : Int32) (fv : Value) (h0 : Heap) (n0 : Nat) (Z0 : n0 ≤ h0.size) (Fct : Fld Z h0 a1 TC "text" dSx (.ref tx)) (Fco : Fld Z h0 a1 TC "offset" "I" (.int 0)) (Es : Exa Z h0 tx STx) (Fsv : Fld Z h0 tx STx "value" "[B" (.ref va)) (Fsc : Fld Z h0 tx STx "coder" "B" (.int 0)) (Ars : Arv Z h0 va kb .byte (4 : Int32) [(.int b0), (.int b1), (.int b2), (.int b3)] (.int 0)) (Scs : Sta Z h0 STx "COMPACT_STRINGS" "Z" (.int cs)) (Sfm : Sta Z h0 PCx "SIOOBE_FORMATTER" BFx fv) (P_cs : ¬ (cs = (0 : Int32))) (P_fv : fv.isRef = true) :
    MetFree l (⟨TC, "charAt", "(I)C"⟩ : MethodName) (head1 (Jvm.Cond.code (⟨TC, "charAt", "(I)C"⟩ : MethodName) prog_63_method_11_code 2 (some .char) :: ws) ({ frames := 4, cells := 0, slots := 0, locals := 53 } : Room)) (fun a U => a = #[(.ref a1), (.int 0)] ∧ Z.Warmed39 U.vm ∧ U.heap = h0) (fun _ _ _ _ _ => True) (fun _ U o U' => ∃ v L, o = .returned v ∧ Q_rmCac0 Z a1 tx va kb b0 b1 b2 b3 cs fv h0 n0 v U'.heap L ∧ FrameEnd U o U' L ({ frames := 4, cells := 0, slots := 0, locals := 53 } : Room).cells ({ frames := 4, cells := 0, slots := 0, locals := 53 } : Room).slots) := by
  refine MetFree.of_bodySF (plainFor_of_name pn_4) hisR ?_
  intro p e s m args below meth c s₁ Bd hml0 hP hK
  obtain ⟨rfl, hZ, hh⟩ := hP
  have hx := Bd.exec
  have hby := Bd.bytes
  have hml : c.maxLocals = 2 := hml0
  have hown : s.vm.findClass TC = some m.cls := findClass_of_methodNamed Bd.named
  have hnm := (name_of_methodNamed Bd.named Bd.method).1
  have X0 : Stand p l e ({ frames := 4, cells := 0, slots := 0, locals := 53 } : Room) s m #[(.ref a1), (.int 0)] below meth c s₁ [] 0 0 := Stand.of_body Bd
  have e0 : s₁.heap = h0 := by rw [← hh, Bd.state]; rfl
  have N0 := Fr.nil n0
  refine own_go (own_lift (fun t k => castTop (ef_rmCac0 m a1 (0 : Int32)) k) ?_)
  show own_Go p.tables e below (s₁.setTop (mkF m 0 #[rv a1, iv 0] [])) _
  have sg1 : ∀ t, Steps p.tables e below (s₁.setTop (mkF m 1 #[rv a1, iv 0] [(.ref a1)])) t → Steps p.tables e below (s₁.setTop (mkF m 0 #[rv a1, iv 0] [])) t := by
    intro t k
    refine XS.aloadN X0.here hx rfl (hb hby d20_0) rfl rfl ?_
    show Steps p.tables e below (s₁.setTop (mkF m 1 #[rv a1, iv 0] [(.ref a1)])) _
    exact k
  refine own_lift sg1 ?_
  show own_Go p.tables e below (s₁.setTop (mkF m 1 #[rv a1, iv 0] [(.ref a1)])) _
  obtain ⟨T2, X2, e2, st2⟩ := getF X0 hx hZ hown (host := "") (Or.inl (wd hw 45 rfl)) Via.refl e0 Fct (g := (mkF m 1 #[rv a1, iv 0] [(.ref a1)])) rfl rfl (hb hby d20_1)
  refine own_lift st2 ?_
  show own_Go p.tables e below (T2.setTop (mkF m 4 #[rv a1, iv 0] [(.ref tx)])) _
  have sg3 : ∀ t, Steps p.tables e below (T2.setTop (mkF m 5 #[rv a1, iv 0] [(.ref a1), (.ref tx)])) t → Steps p.tables e below (T2.setTop (mkF m 4 #[rv a1, iv 0] [(.ref tx)])) t := by
    intro t k
    refine XS.aloadN X2.here hx rfl (hb hby d20_4) rfl rfl ?_
    show Steps p.tables e below (T2.setTop (mkF m 5 #[rv a1, iv 0] [(.ref a1), (.ref tx)])) _
    exact k
  refine own_lift sg3 ?_
  show own_Go p.tables e below (T2.setTop (mkF m 5 #[rv a1, iv 0] [(.ref a1), (.ref tx)])) _
  obtain ⟨T4, X4, e4, st4⟩ := getF X2 hx hZ hown (host := "") (Or.inl (wd hw 52 rfl)) Via.refl e2 Fco (g := (mkF m 5 #[rv a1, iv 0] [(.ref a1), (.ref tx)])) rfl rfl (hb hby d20_5)
  refine own_lift st4 ?_
  show own_Go p.tables e below (T4.setTop (mkF m 8 #[rv a1, iv 0] [(.int 0), (.ref tx)])) _
  have sg5 : ∀ t, Steps p.tables e below (T4.setTop (mkF m 10 #[rv a1, iv 0] [(.int 0), (.ref tx)])) t → Steps p.tables e below (T4.setTop (mkF m 8 #[rv a1, iv 0] [(.int 0), (.ref tx)])) t := by
    intro t k
    refine XS.iloadN X4.here hx rfl (hb hby d20_8) rfl ?_
    show Steps p.tables e below (T4.setTop (mkF m 9 #[rv a1, iv 0] [(.int 0), (.int 0), (.ref tx)])) _
    refine XS.iadd X4.here hx rfl (hb hby d20_9) rfl ?_
    show Steps p.tables e below (T4.setTop (mkF m 10 #[rv a1, iv 0] [(.int 0), (.ref tx)])) _
    exact k
  refine own_lift sg5 ?_
  show own_Go p.tables e below (T4.setTop (mkF m 10 #[rv a1, iv 0] [(.int 0), (.ref tx)])) _
  obtain ⟨cq6, kq6, q6a, q6b, q6c⟩ := isOf hZ e4 Es
  obtain ⟨_, _, ⟨T6, Lx6, kx6, nx6⟩, -, X6, ⟨Lc6, hQ6, lx6, yx6, zx6⟩, st6⟩ := X4.virtualBack hx (y := (⟨STx, "charAt", "(I)C"⟩ : MethodName)) (z := (⟨STx, "charAt", "(I)C"⟩ : MethodName)) hown (mvT hZ (wd hw 114 rfl)) (mvT hZ (wd hw 115 rfl)) (notFace_of_selects (args := #[]) (mvT hZ (wd hw 117 rfl))) (mvT hZ (wd hw 117 rfl)) (mvT hZ (wd hw 116 rfl)) (by decide) (backOf (W := 0) (rmCas0 l Z a0 hw [] tx va kb b0 b1 b2 b3 cs fv h0 n0 Z0 Es Fsv Fsc Ars Scs Sfm P_cs P_fv) hZ (wd hw 118 rfl) (wd hw 10 rfl) (by decide) (by decide)) q6a q6c (g := (mkF m 10 #[rv a1, iv 0] [(.int 0), (.ref tx)])) rfl (by rw [hml]; rfl) (Steps.refl _) (argsL := [(.int 0)]) (rest := []) (lenOf pd_12 rfl) rfl (by show 2 * 0 + _ ≤ _; exact Nat.le_of_eq rfl) (hb hby d20_10) (fun _ _ => ⟨rfl, e4, (by decide : 0 + 0 ≤ _), (by decide : 0 + 0 ≤ _)⟩)
  dsimp only [Pt.U, Pt.locs, Pt.cells, Pt.slots] at X6 lx6 yx6 zx6 st6 hQ6
  subst lx6 yx6 zx6
  obtain ⟨rfl, N6q, e6⟩ := hQ6
  have N6 := Fr.app N0 N6q
  refine own_lift (fun t k => st6.trans k) ?_
  show own_Go p.tables e below (T6.setTop (mkF m 13 #[rv a1, iv 0] [(.int (own_c8 b0))])) _
  obtain ⟨fs, hr, hrun, hended, hW, hsame⟩ := X6.leave (v := some (.int (nar .char (own_c8 b0)))) (fun h => by rw [Bd.returns] at h; cases h)
  refine ⟨_, _, ?_, hrun, hended, _, _, rfl, ?_, ⟨_, rfl⟩, hW, hsame.mono (by decide) (by decide)⟩
  · exact retN X6 hx (t := .char) Bd.returns (by simp) (hb hby d20_13) hr
  · show Q_rmCac0 Z a1 tx va kb b0 b1 b2 b3 cs fv h0 n0 _ T6.heap _
    rw [e6]
    exact ⟨(by rw [own_c8_nar]), N6, rfl⟩
def Q_rmCac1 (Z : State) (a1 : Addr) (tx : Addr) (va : Addr) (kb : ClassId) (b0 : Int32) (b1 : Int32) (b2 : Int32) (b3 : Int32) (cs : Int32) (fv : Value) (h0 : Heap) (n0 : Nat) (v : Option Value) (h : Heap) (L : List Loc) : Prop := v = some (.int (own_c8 b1)) ∧ Fr n0 L ∧ h = h0
theorem ef_rmCac1 (m : MethodId) (x0 : Addr) (x1 : Int32) : entryFrame m #[(.ref x0), (.int 0)] 2 = mkF m 0 #[.val (.ref x0), .val (.int 0)] [] := by first | (simp [entryFrame, mkF, argsToLocals, Value.category]; done) | rfl
set_option maxRecDepth 65536 in
set_option maxHeartbeats 40000000 in
theorem rmCac1 (l : Launch) (Z : State) (a0 : Array Value) (hw : ∀ d ∈ tables_1, d.before a0 Z = true) (ws : List Jvm.Cond) (a1 : Addr) (tx : Addr) (va : Addr) (kb : ClassId) (b0 : Int32) (b1 : Int32) (b2 : Int32) (b3 : Int32) (cs : Int32) (fv : Value) (h0 : Heap) (n0 : Nat) (Z0 : n0 ≤ h0.size) (Fct : Fld Z h0 a1 TC "text" dSx (.ref tx)) (Fco : Fld Z h0 a1 TC "offset" "I" (.int 1)) (Es : Exa Z h0 tx STx) (Fsv : Fld Z h0 tx STx "value" "[B" (.ref va)) (Fsc : Fld Z h0 tx STx "coder" "B" (.int 0)) (Ars : Arv Z h0 va kb .byte (4 : Int32) [(.int b0), (.int b1), (.int b2), (.int b3)] (.int 0)) (Scs : Sta Z h0 STx "COMPACT_STRINGS" "Z" (.int cs)) (Sfm : Sta Z h0 PCx "SIOOBE_FORMATTER" BFx fv) (P_cs : ¬ (cs = (0 : Int32))) (P_fv : fv.isRef = true) :
    MetFree l (⟨TC, "charAt", "(I)C"⟩ : MethodName) (head1 (Jvm.Cond.code (⟨TC, "charAt", "(I)C"⟩ : MethodName) prog_63_method_11_code 2 (some .char) :: ws) ({ frames := 4, cells := 0, slots := 0, locals := 53 } : Room)) (fun a U => a = #[(.ref a1), (.int 0)] ∧ Z.Warmed39 U.vm ∧ U.heap = h0) (fun _ _ _ _ _ => True) (fun _ U o U' => ∃ v L, o = .returned v ∧ Q_rmCac1 Z a1 tx va kb b0 b1 b2 b3 cs fv h0 n0 v U'.heap L ∧ FrameEnd U o U' L ({ frames := 4, cells := 0, slots := 0, locals := 53 } : Room).cells ({ frames := 4, cells := 0, slots := 0, locals := 53 } : Room).slots) := by
  refine MetFree.of_bodySF (plainFor_of_name pn_4) hisR ?_
  intro p e s m args below meth c s₁ Bd hml0 hP hK
  obtain ⟨rfl, hZ, hh⟩ := hP
  have hx := Bd.exec
  have hby := Bd.bytes
  have hml : c.maxLocals = 2 := hml0
  have hown : s.vm.findClass TC = some m.cls := findClass_of_methodNamed Bd.named
  have hnm := (name_of_methodNamed Bd.named Bd.method).1
  have X0 : Stand p l e ({ frames := 4, cells := 0, slots := 0, locals := 53 } : Room) s m #[(.ref a1), (.int 0)] below meth c s₁ [] 0 0 := Stand.of_body Bd
  have e0 : s₁.heap = h0 := by rw [← hh, Bd.state]; rfl
  have N0 := Fr.nil n0
  refine own_go (own_lift (fun t k => castTop (ef_rmCac1 m a1 (0 : Int32)) k) ?_)
  show own_Go p.tables e below (s₁.setTop (mkF m 0 #[rv a1, iv 0] [])) _
  have sg1 : ∀ t, Steps p.tables e below (s₁.setTop (mkF m 1 #[rv a1, iv 0] [(.ref a1)])) t → Steps p.tables e below (s₁.setTop (mkF m 0 #[rv a1, iv 0] [])) t := by
    intro t k
    refine XS.aloadN X0.here hx rfl (hb hby d20_0) rfl rfl ?_
    show Steps p.tables e below (s₁.setTop (mkF m 1 #[rv a1, iv 0] [(.ref a1)])) _
    exact k
  refine own_lift sg1 ?_
  show own_Go p.tables e below (s₁.setTop (mkF m 1 #[rv a1, iv 0] [(.ref a1)])) _
  obtain ⟨T2, X2, e2, st2⟩ := getF X0 hx hZ hown (host := "") (Or.inl (wd hw 45 rfl)) Via.refl e0 Fct (g := (mkF m 1 #[rv a1, iv 0] [(.ref a1)])) rfl rfl (hb hby d20_1)
  refine own_lift st2 ?_
  show own_Go p.tables e below (T2.setTop (mkF m 4 #[rv a1, iv 0] [(.ref tx)])) _
  have sg3 : ∀ t, Steps p.tables e below (T2.setTop (mkF m 5 #[rv a1, iv 0] [(.ref a1), (.ref tx)])) t → Steps p.tables e below (T2.setTop (mkF m 4 #[rv a1, iv 0] [(.ref tx)])) t := by
    intro t k
    refine XS.aloadN X2.here hx rfl (hb hby d20_4) rfl rfl ?_
    show Steps p.tables e below (T2.setTop (mkF m 5 #[rv a1, iv 0] [(.ref a1), (.ref tx)])) _
    exact k
  refine own_lift sg3 ?_
  show own_Go p.tables e below (T2.setTop (mkF m 5 #[rv a1, iv 0] [(.ref a1), (.ref tx)])) _
  obtain ⟨T4, X4, e4, st4⟩ := getF X2 hx hZ hown (host := "") (Or.inl (wd hw 52 rfl)) Via.refl e2 Fco (g := (mkF m 5 #[rv a1, iv 0] [(.ref a1), (.ref tx)])) rfl rfl (hb hby d20_5)
  refine own_lift st4 ?_
  show own_Go p.tables e below (T4.setTop (mkF m 8 #[rv a1, iv 0] [(.int 1), (.ref tx)])) _
  have sg5 : ∀ t, Steps p.tables e below (T4.setTop (mkF m 10 #[rv a1, iv 0] [(.int 1), (.ref tx)])) t → Steps p.tables e below (T4.setTop (mkF m 8 #[rv a1, iv 0] [(.int 1), (.ref tx)])) t := by
    intro t k
    refine XS.iloadN X4.here hx rfl (hb hby d20_8) rfl ?_
    show Steps p.tables e below (T4.setTop (mkF m 9 #[rv a1, iv 0] [(.int 0), (.int 1), (.ref tx)])) _
    refine XS.iadd X4.here hx rfl (hb hby d20_9) rfl ?_
    show Steps p.tables e below (T4.setTop (mkF m 10 #[rv a1, iv 0] [(.int 1), (.ref tx)])) _
    exact k
  refine own_lift sg5 ?_
  show own_Go p.tables e below (T4.setTop (mkF m 10 #[rv a1, iv 0] [(.int 1), (.ref tx)])) _
  obtain ⟨cq6, kq6, q6a, q6b, q6c⟩ := isOf hZ e4 Es
  obtain ⟨_, _, ⟨T6, Lx6, kx6, nx6⟩, -, X6, ⟨Lc6, hQ6, lx6, yx6, zx6⟩, st6⟩ := X4.virtualBack hx (y := (⟨STx, "charAt", "(I)C"⟩ : MethodName)) (z := (⟨STx, "charAt", "(I)C"⟩ : MethodName)) hown (mvT hZ (wd hw 114 rfl)) (mvT hZ (wd hw 115 rfl)) (notFace_of_selects (args := #[]) (mvT hZ (wd hw 117 rfl))) (mvT hZ (wd hw 117 rfl)) (mvT hZ (wd hw 116 rfl)) (by decide) (backOf (W := 0) (rmCas1 l Z a0 hw [] tx va kb b0 b1 b2 b3 cs fv h0 n0 Z0 Es Fsv Fsc Ars Scs Sfm P_cs P_fv) hZ (wd hw 118 rfl) (wd hw 10 rfl) (by decide) (by decide)) q6a q6c (g := (mkF m 10 #[rv a1, iv 0] [(.int 1), (.ref tx)])) rfl (by rw [hml]; rfl) (Steps.refl _) (argsL := [(.int 1)]) (rest := []) (lenOf pd_12 rfl) rfl (by show 2 * 0 + _ ≤ _; exact Nat.le_of_eq rfl) (hb hby d20_10) (fun _ _ => ⟨rfl, e4, (by decide : 0 + 0 ≤ _), (by decide : 0 + 0 ≤ _)⟩)
  dsimp only [Pt.U, Pt.locs, Pt.cells, Pt.slots] at X6 lx6 yx6 zx6 st6 hQ6
  subst lx6 yx6 zx6
  obtain ⟨rfl, N6q, e6⟩ := hQ6
  have N6 := Fr.app N0 N6q
  refine own_lift (fun t k => st6.trans k) ?_
  show own_Go p.tables e below (T6.setTop (mkF m 13 #[rv a1, iv 0] [(.int (own_c8 b1))])) _
  obtain ⟨fs, hr, hrun, hended, hW, hsame⟩ := X6.leave (v := some (.int (nar .char (own_c8 b1)))) (fun h => by rw [Bd.returns] at h; cases h)
  refine ⟨_, _, ?_, hrun, hended, _, _, rfl, ?_, ⟨_, rfl⟩, hW, hsame.mono (by decide) (by decide)⟩
  · exact retN X6 hx (t := .char) Bd.returns (by simp) (hb hby d20_13) hr
  · show Q_rmCac1 Z a1 tx va kb b0 b1 b2 b3 cs fv h0 n0 _ T6.heap _
    rw [e6]
    exact ⟨(by rw [own_c8_nar]), N6, rfl⟩
def Q_rmCac2 (Z : State) (a1 : Addr) (tx : Addr) (va : Addr) (kb : ClassId) (b0 : Int32) (b1 : Int32) (b2 : Int32) (b3 : Int32) (cs : Int32) (fv : Value) (h0 : Heap) (n0 : Nat) (v : Option Value) (h : Heap) (L : List Loc) : Prop := v = some (.int (own_c8 b2)) ∧ Fr n0 L ∧ h = h0
theorem ef_rmCac2 (m : MethodId) (x0 : Addr) (x1 : Int32) : entryFrame m #[(.ref x0), (.int 0)] 2 = mkF m 0 #[.val (.ref x0), .val (.int 0)] [] := by first | (simp [entryFrame, mkF, argsToLocals, Value.category]; done) | rfl
set_option maxRecDepth 65536 in
set_option maxHeartbeats 40000000 in
theorem rmCac2 (l : Launch) (Z : State) (a0 : Array Value) (hw : ∀ d ∈ tables_1, d.before a0 Z = true) (ws : List Jvm.Cond) (a1 : Addr) (tx : Addr) (va : Addr) (kb : ClassId) (b0 : Int32) (b1 : Int32) (b2 : Int32) (b3 : Int32) (cs : Int32) (fv : Value) (h0 : Heap) (n0 : Nat) (Z0 : n0 ≤ h0.size) (Fct : Fld Z h0 a1 TC "text" dSx (.ref tx)) (Fco : Fld Z h0 a1 TC "offset" "I" (.int 2)) (Es : Exa Z h0 tx STx) (Fsv : Fld Z h0 tx STx "value" "[B" (.ref va)) (Fsc : Fld Z h0 tx STx "coder" "B" (.int 0)) (Ars : Arv Z h0 va kb .byte (4 : Int32) [(.int b0), (.int b1), (.int b2), (.int b3)] (.int 0)) (Scs : Sta Z h0 STx "COMPACT_STRINGS" "Z" (.int cs)) (Sfm : Sta Z h0 PCx "SIOOBE_FORMATTER" BFx fv) (P_cs : ¬ (cs = (0 : Int32))) (P_fv : fv.isRef = true) :
    MetFree l (⟨TC, "charAt", "(I)C"⟩ : MethodName) (head1 (Jvm.Cond.code (⟨TC, "charAt", "(I)C"⟩ : MethodName) prog_63_method_11_code 2 (some .char) :: ws) ({ frames := 4, cells := 0, slots := 0, locals := 53 } : Room)) (fun a U => a = #[(.ref a1), (.int 0)] ∧ Z.Warmed39 U.vm ∧ U.heap = h0) (fun _ _ _ _ _ => True) (fun _ U o U' => ∃ v L, o = .returned v ∧ Q_rmCac2 Z a1 tx va kb b0 b1 b2 b3 cs fv h0 n0 v U'.heap L ∧ FrameEnd U o U' L ({ frames := 4, cells := 0, slots := 0, locals := 53 } : Room).cells ({ frames := 4, cells := 0, slots := 0, locals := 53 } : Room).slots) := by
  refine MetFree.of_bodySF (plainFor_of_name pn_4) hisR ?_
  intro p e s m args below meth c s₁ Bd hml0 hP hK
  obtain ⟨rfl, hZ, hh⟩ := hP
  have hx := Bd.exec
  have hby := Bd.bytes
  have hml : c.maxLocals = 2 := hml0
  have hown : s.vm.findClass TC = some m.cls := findClass_of_methodNamed Bd.named
  have hnm := (name_of_methodNamed Bd.named Bd.method).1
  have X0 : Stand p l e ({ frames := 4, cells := 0, slots := 0, locals := 53 } : Room) s m #[(.ref a1), (.int 0)] below meth c s₁ [] 0 0 := Stand.of_body Bd
  have e0 : s₁.heap = h0 := by rw [← hh, Bd.state]; rfl
  have N0 := Fr.nil n0
  refine own_go (own_lift (fun t k => castTop (ef_rmCac2 m a1 (0 : Int32)) k) ?_)
  show own_Go p.tables e below (s₁.setTop (mkF m 0 #[rv a1, iv 0] [])) _
  have sg1 : ∀ t, Steps p.tables e below (s₁.setTop (mkF m 1 #[rv a1, iv 0] [(.ref a1)])) t → Steps p.tables e below (s₁.setTop (mkF m 0 #[rv a1, iv 0] [])) t := by
    intro t k
    refine XS.aloadN X0.here hx rfl (hb hby d20_0) rfl rfl ?_
    show Steps p.tables e below (s₁.setTop (mkF m 1 #[rv a1, iv 0] [(.ref a1)])) _
    exact k
  refine own_lift sg1 ?_
  show own_Go p.tables e below (s₁.setTop (mkF m 1 #[rv a1, iv 0] [(.ref a1)])) _
  obtain ⟨T2, X2, e2, st2⟩ := getF X0 hx hZ hown (host := "") (Or.inl (wd hw 45 rfl)) Via.refl e0 Fct (g := (mkF m 1 #[rv a1, iv 0] [(.ref a1)])) rfl rfl (hb hby d20_1)
  refine own_lift st2 ?_
  show own_Go p.tables e below (T2.setTop (mkF m 4 #[rv a1, iv 0] [(.ref tx)])) _
  have sg3 : ∀ t, Steps p.tables e below (T2.setTop (mkF m 5 #[rv a1, iv 0] [(.ref a1), (.ref tx)])) t → Steps p.tables e below (T2.setTop (mkF m 4 #[rv a1, iv 0] [(.ref tx)])) t := by
    intro t k
    refine XS.aloadN X2.here hx rfl (hb hby d20_4) rfl rfl ?_
    show Steps p.tables e below (T2.setTop (mkF m 5 #[rv a1, iv 0] [(.ref a1), (.ref tx)])) _
    exact k
  refine own_lift sg3 ?_
  show own_Go p.tables e below (T2.setTop (mkF m 5 #[rv a1, iv 0] [(.ref a1), (.ref tx)])) _
  obtain ⟨T4, X4, e4, st4⟩ := getF X2 hx hZ hown (host := "") (Or.inl (wd hw 52 rfl)) Via.refl e2 Fco (g := (mkF m 5 #[rv a1, iv 0] [(.ref a1), (.ref tx)])) rfl rfl (hb hby d20_5)
  refine own_lift st4 ?_
  show own_Go p.tables e below (T4.setTop (mkF m 8 #[rv a1, iv 0] [(.int 2), (.ref tx)])) _
  have sg5 : ∀ t, Steps p.tables e below (T4.setTop (mkF m 10 #[rv a1, iv 0] [(.int 2), (.ref tx)])) t → Steps p.tables e below (T4.setTop (mkF m 8 #[rv a1, iv 0] [(.int 2), (.ref tx)])) t := by
    intro t k
    refine XS.iloadN X4.here hx rfl (hb hby d20_8) rfl ?_
    show Steps p.tables e below (T4.setTop (mkF m 9 #[rv a1, iv 0] [(.int 0), (.int 2), (.ref tx)])) _
    refine XS.iadd X4.here hx rfl (hb hby d20_9) rfl ?_
    show Steps p.tables e below (T4.setTop (mkF m 10 #[rv a1, iv 0] [(.int 2), (.ref tx)])) _
    exact k
  refine own_lift sg5 ?_
  show own_Go p.tables e below (T4.setTop (mkF m 10 #[rv a1, iv 0] [(.int 2), (.ref tx)])) _
  obtain ⟨cq6, kq6, q6a, q6b, q6c⟩ := isOf hZ e4 Es
  obtain ⟨_, _, ⟨T6, Lx6, kx6, nx6⟩, -, X6, ⟨Lc6, hQ6, lx6, yx6, zx6⟩, st6⟩ := X4.virtualBack hx (y := (⟨STx, "charAt", "(I)C"⟩ : MethodName)) (z := (⟨STx, "charAt", "(I)C"⟩ : MethodName)) hown (mvT hZ (wd hw 114 rfl)) (mvT hZ (wd hw 115 rfl)) (notFace_of_selects (args := #[]) (mvT hZ (wd hw 117 rfl))) (mvT hZ (wd hw 117 rfl)) (mvT hZ (wd hw 116 rfl)) (by decide) (backOf (W := 0) (rmCas2 l Z a0 hw [] tx va kb b0 b1 b2 b3 cs fv h0 n0 Z0 Es Fsv Fsc Ars Scs Sfm P_cs P_fv) hZ (wd hw 118 rfl) (wd hw 10 rfl) (by decide) (by decide)) q6a q6c (g := (mkF m 10 #[rv a1, iv 0] [(.int 2), (.ref tx)])) rfl (by rw [hml]; rfl) (Steps.refl _) (argsL := [(.int 2)]) (rest := []) (lenOf pd_12 rfl) rfl (by show 2 * 0 + _ ≤ _; exact Nat.le_of_eq rfl) (hb hby d20_10) (fun _ _ => ⟨rfl, e4, (by decide : 0 + 0 ≤ _), (by decide : 0 + 0 ≤ _)⟩)
  dsimp only [Pt.U, Pt.locs, Pt.cells, Pt.slots] at X6 lx6 yx6 zx6 st6 hQ6
  subst lx6 yx6 zx6
  obtain ⟨rfl, N6q, e6⟩ := hQ6
  have N6 := Fr.app N0 N6q
  refine own_lift (fun t k => st6.trans k) ?_
  show own_Go p.tables e below (T6.setTop (mkF m 13 #[rv a1, iv 0] [(.int (own_c8 b2))])) _
  obtain ⟨fs, hr, hrun, hended, hW, hsame⟩ := X6.leave (v := some (.int (nar .char (own_c8 b2)))) (fun h => by rw [Bd.returns] at h; cases h)
  refine ⟨_, _, ?_, hrun, hended, _, _, rfl, ?_, ⟨_, rfl⟩, hW, hsame.mono (by decide) (by decide)⟩
  · exact retN X6 hx (t := .char) Bd.returns (by simp) (hb hby d20_13) hr
  · show Q_rmCac2 Z a1 tx va kb b0 b1 b2 b3 cs fv h0 n0 _ T6.heap _
    rw [e6]
    exact ⟨(by rw [own_c8_nar]), N6, rfl⟩
def Q_rmCac3 (Z : State) (a1 : Addr) (tx : Addr) (va : Addr) (kb : ClassId) (b0 : Int32) (b1 : Int32) (b2 : Int32) (b3 : Int32) (cs : Int32) (fv : Value) (h0 : Heap) (n0 : Nat) (v : Option Value) (h : Heap) (L : List Loc) : Prop := v = some (.int (own_c8 b3)) ∧ Fr n0 L ∧ h = h0
theorem ef_rmCac3 (m : MethodId) (x0 : Addr) (x1 : Int32) : entryFrame m #[(.ref x0), (.int 0)] 2 = mkF m 0 #[.val (.ref x0), .val (.int 0)] [] := by first | (simp [entryFrame, mkF, argsToLocals, Value.category]; done) | rfl
set_option maxRecDepth 65536 in
set_option maxHeartbeats 40000000 in
theorem rmCac3 (l : Launch) (Z : State) (a0 : Array Value) (hw : ∀ d ∈ tables_1, d.before a0 Z = true) (ws : List Jvm.Cond) (a1 : Addr) (tx : Addr) (va : Addr) (kb : ClassId) (b0 : Int32) (b1 : Int32) (b2 : Int32) (b3 : Int32) (cs : Int32) (fv : Value) (h0 : Heap) (n0 : Nat) (Z0 : n0 ≤ h0.size) (Fct : Fld Z h0 a1 TC "text" dSx (.ref tx)) (Fco : Fld Z h0 a1 TC "offset" "I" (.int 3)) (Es : Exa Z h0 tx STx) (Fsv : Fld Z h0 tx STx "value" "[B" (.ref va)) (Fsc : Fld Z h0 tx STx "coder" "B" (.int 0)) (Ars : Arv Z h0 va kb .byte (4 : Int32) [(.int b0), (.int b1), (.int b2), (.int b3)] (.int 0)) (Scs : Sta Z h0 STx "COMPACT_STRINGS" "Z" (.int cs)) (Sfm : Sta Z h0 PCx "SIOOBE_FORMATTER" BFx fv) (P_cs : ¬ (cs = (0 : Int32))) (P_fv : fv.isRef = true) :
    MetFree l (⟨TC, "charAt", "(I)C"⟩ : MethodName) (head1 (Jvm.Cond.code (⟨TC, "charAt", "(I)C"⟩ : MethodName) prog_63_method_11_code 2 (some .char) :: ws) ({ frames := 4, cells := 0, slots := 0, locals := 53 } : Room)) (fun a U => a = #[(.ref a1), (.int 0)] ∧ Z.Warmed39 U.vm ∧ U.heap = h0) (fun _ _ _ _ _ => True) (fun _ U o U' => ∃ v L, o = .returned v ∧ Q_rmCac3 Z a1 tx va kb b0 b1 b2 b3 cs fv h0 n0 v U'.heap L ∧ FrameEnd U o U' L ({ frames := 4, cells := 0, slots := 0, locals := 53 } : Room).cells ({ frames := 4, cells := 0, slots := 0, locals := 53 } : Room).slots) := by
  refine MetFree.of_bodySF (plainFor_of_name pn_4) hisR ?_
  intro p e s m args below meth c s₁ Bd hml0 hP hK
  obtain ⟨rfl, hZ, hh⟩ := hP
  have hx := Bd.exec
  have hby := Bd.bytes
  have hml : c.maxLocals = 2 := hml0
  have hown : s.vm.findClass TC = some m.cls := findClass_of_methodNamed Bd.named
  have hnm := (name_of_methodNamed Bd.named Bd.method).1
  have X0 : Stand p l e ({ frames := 4, cells := 0, slots := 0, locals := 53 } : Room) s m #[(.ref a1), (.int 0)] below meth c s₁ [] 0 0 := Stand.of_body Bd
  have e0 : s₁.heap = h0 := by rw [← hh, Bd.state]; rfl
  have N0 := Fr.nil n0
  refine own_go (own_lift (fun t k => castTop (ef_rmCac3 m a1 (0 : Int32)) k) ?_)
  show own_Go p.tables e below (s₁.setTop (mkF m 0 #[rv a1, iv 0] [])) _
  have sg1 : ∀ t, Steps p.tables e below (s₁.setTop (mkF m 1 #[rv a1, iv 0] [(.ref a1)])) t → Steps p.tables e below (s₁.setTop (mkF m 0 #[rv a1, iv 0] [])) t := by
    intro t k
    refine XS.aloadN X0.here hx rfl (hb hby d20_0) rfl rfl ?_
    show Steps p.tables e below (s₁.setTop (mkF m 1 #[rv a1, iv 0] [(.ref a1)])) _
    exact k
  refine own_lift sg1 ?_
  show own_Go p.tables e below (s₁.setTop (mkF m 1 #[rv a1, iv 0] [(.ref a1)])) _
  obtain ⟨T2, X2, e2, st2⟩ := getF X0 hx hZ hown (host := "") (Or.inl (wd hw 45 rfl)) Via.refl e0 Fct (g := (mkF m 1 #[rv a1, iv 0] [(.ref a1)])) rfl rfl (hb hby d20_1)
  refine own_lift st2 ?_
  show own_Go p.tables e below (T2.setTop (mkF m 4 #[rv a1, iv 0] [(.ref tx)])) _
  have sg3 : ∀ t, Steps p.tables e below (T2.setTop (mkF m 5 #[rv a1, iv 0] [(.ref a1), (.ref tx)])) t → Steps p.tables e below (T2.setTop (mkF m 4 #[rv a1, iv 0] [(.ref tx)])) t := by
    intro t k
    refine XS.aloadN X2.here hx rfl (hb hby d20_4) rfl rfl ?_
    show Steps p.tables e below (T2.setTop (mkF m 5 #[rv a1, iv 0] [(.ref a1), (.ref tx)])) _
    exact k
  refine own_lift sg3 ?_
  show own_Go p.tables e below (T2.setTop (mkF m 5 #[rv a1, iv 0] [(.ref a1), (.ref tx)])) _
  obtain ⟨T4, X4, e4, st4⟩ := getF X2 hx hZ hown (host := "") (Or.inl (wd hw 52 rfl)) Via.refl e2 Fco (g := (mkF m 5 #[rv a1, iv 0] [(.ref a1), (.ref tx)])) rfl rfl (hb hby d20_5)
  refine own_lift st4 ?_
  show own_Go p.tables e below (T4.setTop (mkF m 8 #[rv a1, iv 0] [(.int 3), (.ref tx)])) _
  have sg5 : ∀ t, Steps p.tables e below (T4.setTop (mkF m 10 #[rv a1, iv 0] [(.int 3), (.ref tx)])) t → Steps p.tables e below (T4.setTop (mkF m 8 #[rv a1, iv 0] [(.int 3), (.ref tx)])) t := by
    intro t k
    refine XS.iloadN X4.here hx rfl (hb hby d20_8) rfl ?_
    show Steps p.tables e below (T4.setTop (mkF m 9 #[rv a1, iv 0] [(.int 0), (.int 3), (.ref tx)])) _
    refine XS.iadd X4.here hx rfl (hb hby d20_9) rfl ?_
    show Steps p.tables e below (T4.setTop (mkF m 10 #[rv a1, iv 0] [(.int 3), (.ref tx)])) _
    exact k
  refine own_lift sg5 ?_
  show own_Go p.tables e below (T4.setTop (mkF m 10 #[rv a1, iv 0] [(.int 3), (.ref tx)])) _
  obtain ⟨cq6, kq6, q6a, q6b, q6c⟩ := isOf hZ e4 Es
  obtain ⟨_, _, ⟨T6, Lx6, kx6, nx6⟩, -, X6, ⟨Lc6, hQ6, lx6, yx6, zx6⟩, st6⟩ := X4.virtualBack hx (y := (⟨STx, "charAt", "(I)C"⟩ : MethodName)) (z := (⟨STx, "charAt", "(I)C"⟩ : MethodName)) hown (mvT hZ (wd hw 114 rfl)) (mvT hZ (wd hw 115 rfl)) (notFace_of_selects (args := #[]) (mvT hZ (wd hw 117 rfl))) (mvT hZ (wd hw 117 rfl)) (mvT hZ (wd hw 116 rfl)) (by decide) (backOf (W := 0) (rmCas3 l Z a0 hw [] tx va kb b0 b1 b2 b3 cs fv h0 n0 Z0 Es Fsv Fsc Ars Scs Sfm P_cs P_fv) hZ (wd hw 118 rfl) (wd hw 10 rfl) (by decide) (by decide)) q6a q6c (g := (mkF m 10 #[rv a1, iv 0] [(.int 3), (.ref tx)])) rfl (by rw [hml]; rfl) (Steps.refl _) (argsL := [(.int 3)]) (rest := []) (lenOf pd_12 rfl) rfl (by show 2 * 0 + _ ≤ _; exact Nat.le_of_eq rfl) (hb hby d20_10) (fun _ _ => ⟨rfl, e4, (by decide : 0 + 0 ≤ _), (by decide : 0 + 0 ≤ _)⟩)
  dsimp only [Pt.U, Pt.locs, Pt.cells, Pt.slots] at X6 lx6 yx6 zx6 st6 hQ6
  subst lx6 yx6 zx6
  obtain ⟨rfl, N6q, e6⟩ := hQ6
  have N6 := Fr.app N0 N6q
  refine own_lift (fun t k => st6.trans k) ?_
  show own_Go p.tables e below (T6.setTop (mkF m 13 #[rv a1, iv 0] [(.int (own_c8 b3))])) _
  obtain ⟨fs, hr, hrun, hended, hW, hsame⟩ := X6.leave (v := some (.int (nar .char (own_c8 b3)))) (fun h => by rw [Bd.returns] at h; cases h)
  refine ⟨_, _, ?_, hrun, hended, _, _, rfl, ?_, ⟨_, rfl⟩, hW, hsame.mono (by decide) (by decide)⟩
  · exact retN X6 hx (t := .char) Bd.returns (by simp) (hb hby d20_13) hr
  · show Q_rmCac3 Z a1 tx va kb b0 b1 b2 b3 cs fv h0 n0 _ T6.heap _
    rw [e6]
    exact ⟨(by rw [own_c8_nar]), N6, rfl⟩
theorem d21_0 : decode prog_63_method_6_code 0 = .ok (.aload_n 0, 1) := by decide +kernel
theorem d21_1 : decode prog_63_method_6_code 1 = .ok (.getfield 30, 3) := by decide +kernel
theorem d21_4 : decode prog_63_method_6_code 4 = .ok (.aload_n 0, 1) := by decide +kernel
theorem d21_5 : decode prog_63_method_6_code 5 = .ok (.getfield 16, 3) := by decide +kernel
theorem d21_8 : decode prog_63_method_6_code 8 = .ok (.invokevirtual 33, 3) := by decide +kernel
theorem d21_11 : decode prog_63_method_6_code 11 = .ok (.if_icmp .ge 23, 3) := by decide +kernel
theorem d21_14 : decode prog_63_method_6_code 14 = .ok (.aload_n 0, 1) := by decide +kernel
theorem d21_15 : decode prog_63_method_6_code 15 = .ok (.getfield 16, 3) := by decide +kernel
theorem d21_18 : decode prog_63_method_6_code 18 = .ok (.aload_n 0, 1) := by decide +kernel
theorem d21_19 : decode prog_63_method_6_code 19 = .ok (.getfield 30, 3) := by decide +kernel
theorem d21_22 : decode prog_63_method_6_code 22 = .ok (.invokevirtual 39, 3) := by decide +kernel
theorem d21_25 : decode prog_63_method_6_code 25 = .ok (.bipush 10, 2) := by decide +kernel
theorem d21_27 : decode prog_63_method_6_code 27 = .ok (.if_icmp .ne 7, 3) := by decide +kernel
theorem d21_30 : decode prog_63_method_6_code 30 = .ok (.iconst 1, 1) := by decide +kernel
theorem d21_31 : decode prog_63_method_6_code 31 = .ok (.goto 4, 3) := by decide +kernel
theorem d21_35 : decode prog_63_method_6_code 35 = .ok (.ireturn, 1) := by decide +kernel
def Q_rmAle0 (Z : State) (a1 : Addr) (tx : Addr) (va : Addr) (kb : ClassId) (b0 : Int32) (b1 : Int32) (b2 : Int32) (b3 : Int32) (cs : Int32) (fv : Value) (h0 : Heap) (n0 : Nat) (v : Option Value) (h : Heap) (L : List Loc) : Prop := v = some (.int 1) ∧ Fr n0 L ∧ h = h0
theorem ef_rmAle0 (m : MethodId) (x0 : Addr) : entryFrame m #[(.ref x0)] 1 = mkF m 0 #[.val (.ref x0)] [] := by first | (simp [entryFrame, mkF, argsToLocals, Value.category]; done) | rfl
set_option maxRecDepth 65536 in
set_option maxHeartbeats 40000000 in
theorem rmAle0 (l : Launch) (Z : State) (a0 : Array Value) (hw : ∀ d ∈ tables_1, d.before a0 Z = true) (ws : List Jvm.Cond) (a1 : Addr) (tx : Addr) (va : Addr) (kb : ClassId) (b0 : Int32) (b1 : Int32) (b2 : Int32) (b3 : Int32) (cs : Int32) (fv : Value) (h0 : Heap) (n0 : Nat) (Z0 : n0 ≤ h0.size) (Fct : Fld Z h0 a1 TC "text" dSx (.ref tx)) (Fco : Fld Z h0 a1 TC "offset" "I" (.int 0)) (Es : Exa Z h0 tx STx) (Fsv : Fld Z h0 tx STx "value" "[B" (.ref va)) (Fsc : Fld Z h0 tx STx "coder" "B" (.int 0)) (Ars : Arv Z h0 va kb .byte (4 : Int32) [(.int b0), (.int b1), (.int b2), (.int b3)] (.int 0)) (Scs : Sta Z h0 STx "COMPACT_STRINGS" "Z" (.int cs)) (Sfm : Sta Z h0 PCx "SIOOBE_FORMATTER" BFx fv) (P_cs : ¬ (cs = (0 : Int32))) (P_fv : fv.isRef = true) (d : (own_c8 b0) = (10 : Int32)) :
    MetFree l (⟨TC, "atLineEnd", "()Z"⟩ : MethodName) (head1 (Jvm.Cond.code (⟨TC, "atLineEnd", "()Z"⟩ : MethodName) prog_63_method_6_code 1 (some .boolean) :: ws) ({ frames := 4, cells := 0, slots := 0, locals := 53 } : Room)) (fun a U => a = #[(.ref a1)] ∧ Z.Warmed39 U.vm ∧ U.heap = h0) (fun _ _ _ _ _ => True) (fun _ U o U' => ∃ v L, o = .returned v ∧ Q_rmAle0 Z a1 tx va kb b0 b1 b2 b3 cs fv h0 n0 v U'.heap L ∧ FrameEnd U o U' L ({ frames := 4, cells := 0, slots := 0, locals := 53 } : Room).cells ({ frames := 4, cells := 0, slots := 0, locals := 53 } : Room).slots) := by
  refine MetFree.of_bodySF (plainFor_of_name pn_4) hisR ?_
  intro p e s m args below meth c s₁ Bd hml0 hP hK
  obtain ⟨rfl, hZ, hh⟩ := hP
  have hx := Bd.exec
  have hby := Bd.bytes
  have hml : c.maxLocals = 1 := hml0
  have hown : s.vm.findClass TC = some m.cls := findClass_of_methodNamed Bd.named
  have hnm := (name_of_methodNamed Bd.named Bd.method).1
  have X0 : Stand p l e ({ frames := 4, cells := 0, slots := 0, locals := 53 } : Room) s m #[(.ref a1)] below meth c s₁ [] 0 0 := Stand.of_body Bd
  have e0 : s₁.heap = h0 := by rw [← hh, Bd.state]; rfl
  have N0 := Fr.nil n0
  refine own_go (own_lift (fun t k => castTop (ef_rmAle0 m a1) k) ?_)
  show own_Go p.tables e below (s₁.setTop (mkF m 0 #[rv a1] [])) _
  have sg1 : ∀ t, Steps p.tables e below (s₁.setTop (mkF m 1 #[rv a1] [(.ref a1)])) t → Steps p.tables e below (s₁.setTop (mkF m 0 #[rv a1] [])) t := by
    intro t k
    refine XS.aloadN X0.here hx rfl (hb hby d21_0) rfl rfl ?_
    show Steps p.tables e below (s₁.setTop (mkF m 1 #[rv a1] [(.ref a1)])) _
    exact k
  refine own_lift sg1 ?_
  show own_Go p.tables e below (s₁.setTop (mkF m 1 #[rv a1] [(.ref a1)])) _
  obtain ⟨T2, X2, e2, st2⟩ := getF X0 hx hZ hown (host := "") (Or.inl (wd hw 52 rfl)) Via.refl e0 Fco (g := (mkF m 1 #[rv a1] [(.ref a1)])) rfl rfl (hb hby d21_1)
  refine own_lift st2 ?_
  show own_Go p.tables e below (T2.setTop (mkF m 4 #[rv a1] [(.int 0)])) _
  have sg3 : ∀ t, Steps p.tables e below (T2.setTop (mkF m 5 #[rv a1] [(.ref a1), (.int 0)])) t → Steps p.tables e below (T2.setTop (mkF m 4 #[rv a1] [(.int 0)])) t := by
    intro t k
    refine XS.aloadN X2.here hx rfl (hb hby d21_4) rfl rfl ?_
    show Steps p.tables e below (T2.setTop (mkF m 5 #[rv a1] [(.ref a1), (.int 0)])) _
    exact k
  refine own_lift sg3 ?_
  show own_Go p.tables e below (T2.setTop (mkF m 5 #[rv a1] [(.ref a1), (.int 0)])) _
  obtain ⟨T4, X4, e4, st4⟩ := getF X2 hx hZ hown (host := "") (Or.inl (wd hw 45 rfl)) Via.refl e2 Fct (g := (mkF m 5 #[rv a1] [(.ref a1), (.int 0)])) rfl rfl (hb hby d21_5)
  refine own_lift st4 ?_
  show own_Go p.tables e below (T4.setTop (mkF m 8 #[rv a1] [(.ref tx), (.int 0)])) _
  obtain ⟨cq5, kq5, q5a, q5b, q5c⟩ := isOf hZ e4 Es
  obtain ⟨_, _, ⟨T5, Lx5, kx5, nx5⟩, -, X5, ⟨Lc5, hQ5, lx5, yx5, zx5⟩, st5⟩ := X4.virtualBack hx (y := (⟨STx, "length", "()I"⟩ : MethodName)) (z := (⟨STx, "length", "()I"⟩ : MethodName)) hown (mvT hZ (wd hw 113 rfl)) (mvT hZ (wd hw 65 rfl)) (notFace_of_selects (args := #[]) (mvT hZ (wd hw 67 rfl))) (mvT hZ (wd hw 67 rfl)) (mvT hZ (wd hw 66 rfl)) (by decide) (backOf (W := 1) (rmLen l Z a0 hw [] tx va kb b0 b1 b2 b3 cs h0 n0 Z0 Es Fsv Fsc Ars Scs P_cs) hZ (wd hw 68 rfl) (wd hw 10 rfl) (by decide) (by decide)) q5a q5c (g := (mkF m 8 #[rv a1] [(.ref tx), (.int 0)])) rfl (by rw [hml]; rfl) (Steps.refl _) (argsL := []) (rest := [(.int 0)]) (lenOf pd_5 rfl) rfl (by show 2 * 0 + _ ≤ _; exact Nat.le_of_eq rfl) (hb hby d21_8) (fun _ _ => ⟨rfl, e4, (by decide : 0 + 0 ≤ _), (by decide : 0 + 0 ≤ _)⟩)
  dsimp only [Pt.U, Pt.locs, Pt.cells, Pt.slots] at X5 lx5 yx5 zx5 st5 hQ5
  subst lx5 yx5 zx5
  obtain ⟨rfl, N5q, e5⟩ := hQ5
  have N5 := Fr.app N0 N5q
  refine own_lift (fun t k => st5.trans k) ?_
  show own_Go p.tables e below (T5.setTop (mkF m 11 #[rv a1] [(.int 4), (.int 0)])) _
  have sg6 : ∀ t, Steps p.tables e below (T5.setTop (mkF m 15 #[rv a1] [(.ref a1)])) t → Steps p.tables e below (T5.setTop (mkF m 11 #[rv a1] [(.int 4), (.int 0)])) t := by
    intro t k
    refine XS.icmpNo X5.here hx rfl (hb hby d21_11) rfl (tlt (by decide : (0 : Int32) < (4 : Int32))).2.1 ?_
    show Steps p.tables e below (T5.setTop (mkF m 14 #[rv a1] [])) _
    refine XS.aloadN X5.here hx rfl (hb hby d21_14) rfl rfl ?_
    show Steps p.tables e below (T5.setTop (mkF m 15 #[rv a1] [(.ref a1)])) _
    exact k
  refine own_lift sg6 ?_
  show own_Go p.tables e below (T5.setTop (mkF m 15 #[rv a1] [(.ref a1)])) _
  obtain ⟨T7, X7, e7, st7⟩ := getF X5 hx hZ hown (host := "") (Or.inl (wd hw 45 rfl)) Via.refl e5 Fct (g := (mkF m 15 #[rv a1] [(.ref a1)])) rfl rfl (hb hby d21_15)
  refine own_lift st7 ?_
  show own_Go p.tables e below (T7.setTop (mkF m 18 #[rv a1] [(.ref tx)])) _
  have sg8 : ∀ t, Steps p.tables e below (T7.setTop (mkF m 19 #[rv a1] [(.ref a1), (.ref tx)])) t → Steps p.tables e below (T7.setTop (mkF m 18 #[rv a1] [(.ref tx)])) t := by
    intro t k
    refine XS.aloadN X7.here hx rfl (hb hby d21_18) rfl rfl ?_
    show Steps p.tables e below (T7.setTop (mkF m 19 #[rv a1] [(.ref a1), (.ref tx)])) _
    exact k
  refine own_lift sg8 ?_
  show own_Go p.tables e below (T7.setTop (mkF m 19 #[rv a1] [(.ref a1), (.ref tx)])) _
  obtain ⟨T9, X9, e9, st9⟩ := getF X7 hx hZ hown (host := "") (Or.inl (wd hw 52 rfl)) Via.refl e7 Fco (g := (mkF m 19 #[rv a1] [(.ref a1), (.ref tx)])) rfl rfl (hb hby d21_19)
  refine own_lift st9 ?_
  show own_Go p.tables e below (T9.setTop (mkF m 22 #[rv a1] [(.int 0), (.ref tx)])) _
  obtain ⟨cq10, kq10, q10a, q10b, q10c⟩ := isOf hZ e9 Es
  obtain ⟨_, _, ⟨T10, Lx10, kx10, nx10⟩, -, X10, ⟨Lc10, hQ10, lx10, yx10, zx10⟩, st10⟩ := X9.virtualBack hx (y := (⟨STx, "charAt", "(I)C"⟩ : MethodName)) (z := (⟨STx, "charAt", "(I)C"⟩ : MethodName)) hown (mvT hZ (wd hw 114 rfl)) (mvT hZ (wd hw 115 rfl)) (notFace_of_selects (args := #[]) (mvT hZ (wd hw 117 rfl))) (mvT hZ (wd hw 117 rfl)) (mvT hZ (wd hw 116 rfl)) (by decide) (backOf (W := 0) (rmCas0 l Z a0 hw [] tx va kb b0 b1 b2 b3 cs fv h0 n0 Z0 Es Fsv Fsc Ars Scs Sfm P_cs P_fv) hZ (wd hw 118 rfl) (wd hw 10 rfl) (by decide) (by decide)) q10a q10c (g := (mkF m 22 #[rv a1] [(.int 0), (.ref tx)])) rfl (by rw [hml]; rfl) (Steps.refl _) (argsL := [(.int 0)]) (rest := []) (lenOf pd_12 rfl) rfl (by show 2 * 0 + _ ≤ _; exact Nat.le_of_eq rfl) (hb hby d21_22) (fun _ _ => ⟨rfl, e9, (by decide : 0 + 0 ≤ _), (by decide : 0 + 0 ≤ _)⟩)
  dsimp only [Pt.U, Pt.locs, Pt.cells, Pt.slots] at X10 lx10 yx10 zx10 st10 hQ10
  subst lx10 yx10 zx10
  obtain ⟨rfl, N10q, e10⟩ := hQ10
  have N10 := Fr.app N5 N10q
  refine own_lift (fun t k => st10.trans k) ?_
  show own_Go p.tables e below (T10.setTop (mkF m 25 #[rv a1] [(.int (own_c8 b0))])) _
  have sg11 : ∀ t, Steps p.tables e below (T10.setTop (mkF m 35 #[rv a1] [(.int 1)])) t → Steps p.tables e below (T10.setTop (mkF m 25 #[rv a1] [(.int (own_c8 b0))])) t := by
    intro t k
    refine XS.bipush X10.here hx rfl (hb hby d21_25) ?_
    show Steps p.tables e below (T10.setTop (mkF m 27 #[rv a1] [(.int 10), (.int (own_c8 b0))])) _
    refine XS.icmpNo X10.here hx rfl (hb hby d21_27) rfl (teq d).2 ?_
    refine XS.iconst X10.here hx rfl (hb hby d21_30) ?_
    refine XS.goto X10.here hx rfl (pc0 := 31) (pc' := 35) rfl (hb hby d21_31) (by decide) (by decide) ?_
    show Steps p.tables e below (T10.setTop (mkF m 35 #[rv a1] [(.int 1)])) _
    exact k
  refine own_lift sg11 ?_
  show own_Go p.tables e below (T10.setTop (mkF m 35 #[rv a1] [(.int 1)])) _
  obtain ⟨fs, hr, hrun, hended, hW, hsame⟩ := X10.leave (v := some (.int 1)) (fun h => by rw [Bd.returns] at h; cases h)
  refine ⟨_, _, ?_, hrun, hended, _, _, rfl, ?_, ⟨_, rfl⟩, hW, hsame.mono (by decide) (by decide)⟩
  · exact retN X10 hx (t := .boolean) Bd.returns (by simp) (hb hby d21_35) hr
  · show Q_rmAle0 Z a1 tx va kb b0 b1 b2 b3 cs fv h0 n0 _ T10.heap _
    rw [e10]
    exact ⟨rfl, N10, rfl⟩
def Q_rmAle1 (Z : State) (a1 : Addr) (tx : Addr) (va : Addr) (kb : ClassId) (b0 : Int32) (b1 : Int32) (b2 : Int32) (b3 : Int32) (cs : Int32) (fv : Value) (h0 : Heap) (n0 : Nat) (v : Option Value) (h : Heap) (L : List Loc) : Prop := v = some (.int 1) ∧ Fr n0 L ∧ h = h0
theorem ef_rmAle1 (m : MethodId) (x0 : Addr) : entryFrame m #[(.ref x0)] 1 = mkF m 0 #[.val (.ref x0)] [] := by first | (simp [entryFrame, mkF, argsToLocals, Value.category]; done) | rfl
set_option maxRecDepth 65536 in
set_option maxHeartbeats 40000000 in
theorem rmAle1 (l : Launch) (Z : State) (a0 : Array Value) (hw : ∀ d ∈ tables_1, d.before a0 Z = true) (ws : List Jvm.Cond) (a1 : Addr) (tx : Addr) (va : Addr) (kb : ClassId) (b0 : Int32) (b1 : Int32) (b2 : Int32) (b3 : Int32) (cs : Int32) (fv : Value) (h0 : Heap) (n0 : Nat) (Z0 : n0 ≤ h0.size) (Fct : Fld Z h0 a1 TC "text" dSx (.ref tx)) (Fco : Fld Z h0 a1 TC "offset" "I" (.int 1)) (Es : Exa Z h0 tx STx) (Fsv : Fld Z h0 tx STx "value" "[B" (.ref va)) (Fsc : Fld Z h0 tx STx "coder" "B" (.int 0)) (Ars : Arv Z h0 va kb .byte (4 : Int32) [(.int b0), (.int b1), (.int b2), (.int b3)] (.int 0)) (Scs : Sta Z h0 STx "COMPACT_STRINGS" "Z" (.int cs)) (Sfm : Sta Z h0 PCx "SIOOBE_FORMATTER" BFx fv) (P_cs : ¬ (cs = (0 : Int32))) (P_fv : fv.isRef = true) (d : (own_c8 b1) = (10 : Int32)) :
    MetFree l (⟨TC, "atLineEnd", "()Z"⟩ : MethodName) (head1 (Jvm.Cond.code (⟨TC, "atLineEnd", "()Z"⟩ : MethodName) prog_63_method_6_code 1 (some .boolean) :: ws) ({ frames := 4, cells := 0, slots := 0, locals := 53 } : Room)) (fun a U => a = #[(.ref a1)] ∧ Z.Warmed39 U.vm ∧ U.heap = h0) (fun _ _ _ _ _ => True) (fun _ U o U' => ∃ v L, o = .returned v ∧ Q_rmAle1 Z a1 tx va kb b0 b1 b2 b3 cs fv h0 n0 v U'.heap L ∧ FrameEnd U o U' L ({ frames := 4, cells := 0, slots := 0, locals := 53 } : Room).cells ({ frames := 4, cells := 0, slots := 0, locals := 53 } : Room).slots) := by
  refine MetFree.of_bodySF (plainFor_of_name pn_4) hisR ?_
  intro p e s m args below meth c s₁ Bd hml0 hP hK
  obtain ⟨rfl, hZ, hh⟩ := hP
  have hx := Bd.exec
  have hby := Bd.bytes
  have hml : c.maxLocals = 1 := hml0
  have hown : s.vm.findClass TC = some m.cls := findClass_of_methodNamed Bd.named
  have hnm := (name_of_methodNamed Bd.named Bd.method).1
  have X0 : Stand p l e ({ frames := 4, cells := 0, slots := 0, locals := 53 } : Room) s m #[(.ref a1)] below meth c s₁ [] 0 0 := Stand.of_body Bd
  have e0 : s₁.heap = h0 := by rw [← hh, Bd.state]; rfl
  have N0 := Fr.nil n0
  refine own_go (own_lift (fun t k => castTop (ef_rmAle1 m a1) k) ?_)
  show own_Go p.tables e below (s₁.setTop (mkF m 0 #[rv a1] [])) _
  have sg1 : ∀ t, Steps p.tables e below (s₁.setTop (mkF m 1 #[rv a1] [(.ref a1)])) t → Steps p.tables e below (s₁.setTop (mkF m 0 #[rv a1] [])) t := by
    intro t k
    refine XS.aloadN X0.here hx rfl (hb hby d21_0) rfl rfl ?_
    show Steps p.tables e below (s₁.setTop (mkF m 1 #[rv a1] [(.ref a1)])) _
    exact k
  refine own_lift sg1 ?_
  show own_Go p.tables e below (s₁.setTop (mkF m 1 #[rv a1] [(.ref a1)])) _
  obtain ⟨T2, X2, e2, st2⟩ := getF X0 hx hZ hown (host := "") (Or.inl (wd hw 52 rfl)) Via.refl e0 Fco (g := (mkF m 1 #[rv a1] [(.ref a1)])) rfl rfl (hb hby d21_1)
  refine own_lift st2 ?_
  show own_Go p.tables e below (T2.setTop (mkF m 4 #[rv a1] [(.int 1)])) _
  have sg3 : ∀ t, Steps p.tables e below (T2.setTop (mkF m 5 #[rv a1] [(.ref a1), (.int 1)])) t → Steps p.tables e below (T2.setTop (mkF m 4 #[rv a1] [(.int 1)])) t := by
    intro t k
    refine XS.aloadN X2.here hx rfl (hb hby d21_4) rfl rfl ?_
    show Steps p.tables e below (T2.setTop (mkF m 5 #[rv a1] [(.ref a1), (.int 1)])) _
    exact k
  refine own_lift sg3 ?_
  show own_Go p.tables e below (T2.setTop (mkF m 5 #[rv a1] [(.ref a1), (.int 1)])) _
  obtain ⟨T4, X4, e4, st4⟩ := getF X2 hx hZ hown (host := "") (Or.inl (wd hw 45 rfl)) Via.refl e2 Fct (g := (mkF m 5 #[rv a1] [(.ref a1), (.int 1)])) rfl rfl (hb hby d21_5)
  refine own_lift st4 ?_
  show own_Go p.tables e below (T4.setTop (mkF m 8 #[rv a1] [(.ref tx), (.int 1)])) _
  obtain ⟨cq5, kq5, q5a, q5b, q5c⟩ := isOf hZ e4 Es
  obtain ⟨_, _, ⟨T5, Lx5, kx5, nx5⟩, -, X5, ⟨Lc5, hQ5, lx5, yx5, zx5⟩, st5⟩ := X4.virtualBack hx (y := (⟨STx, "length", "()I"⟩ : MethodName)) (z := (⟨STx, "length", "()I"⟩ : MethodName)) hown (mvT hZ (wd hw 113 rfl)) (mvT hZ (wd hw 65 rfl)) (notFace_of_selects (args := #[]) (mvT hZ (wd hw 67 rfl))) (mvT hZ (wd hw 67 rfl)) (mvT hZ (wd hw 66 rfl)) (by decide) (backOf (W := 1) (rmLen l Z a0 hw [] tx va kb b0 b1 b2 b3 cs h0 n0 Z0 Es Fsv Fsc Ars Scs P_cs) hZ (wd hw 68 rfl) (wd hw 10 rfl) (by decide) (by decide)) q5a q5c (g := (mkF m 8 #[rv a1] [(.ref tx), (.int 1)])) rfl (by rw [hml]; rfl) (Steps.refl _) (argsL := []) (rest := [(.int 1)]) (lenOf pd_5 rfl) rfl (by show 2 * 0 + _ ≤ _; exact Nat.le_of_eq rfl) (hb hby d21_8) (fun _ _ => ⟨rfl, e4, (by decide : 0 + 0 ≤ _), (by decide : 0 + 0 ≤ _)⟩)
  dsimp only [Pt.U, Pt.locs, Pt.cells, Pt.slots] at X5 lx5 yx5 zx5 st5 hQ5
  subst lx5 yx5 zx5
  obtain ⟨rfl, N5q, e5⟩ := hQ5
  have N5 := Fr.app N0 N5q
  refine own_lift (fun t k => st5.trans k) ?_
  show own_Go p.tables e below (T5.setTop (mkF m 11 #[rv a1] [(.int 4), (.int 1)])) _
  have sg6 : ∀ t, Steps p.tables e below (T5.setTop (mkF m 15 #[rv a1] [(.ref a1)])) t → Steps p.tables e below (T5.setTop (mkF m 11 #[rv a1] [(.int 4), (.int 1)])) t := by
    intro t k
    refine XS.icmpNo X5.here hx rfl (hb hby d21_11) rfl (tlt (by decide : (1 : Int32) < (4 : Int32))).2.1 ?_
    show Steps p.tables e below (T5.setTop (mkF m 14 #[rv a1] [])) _
    refine XS.aloadN X5.here hx rfl (hb hby d21_14) rfl rfl ?_
    show Steps p.tables e below (T5.setTop (mkF m 15 #[rv a1] [(.ref a1)])) _
    exact k
  refine own_lift sg6 ?_
  show own_Go p.tables e below (T5.setTop (mkF m 15 #[rv a1] [(.ref a1)])) _
  obtain ⟨T7, X7, e7, st7⟩ := getF X5 hx hZ hown (host := "") (Or.inl (wd hw 45 rfl)) Via.refl e5 Fct (g := (mkF m 15 #[rv a1] [(.ref a1)])) rfl rfl (hb hby d21_15)
  refine own_lift st7 ?_
  show own_Go p.tables e below (T7.setTop (mkF m 18 #[rv a1] [(.ref tx)])) _
  have sg8 : ∀ t, Steps p.tables e below (T7.setTop (mkF m 19 #[rv a1] [(.ref a1), (.ref tx)])) t → Steps p.tables e below (T7.setTop (mkF m 18 #[rv a1] [(.ref tx)])) t := by
    intro t k
    refine XS.aloadN X7.here hx rfl (hb hby d21_18) rfl rfl ?_
    show Steps p.tables e below (T7.setTop (mkF m 19 #[rv a1] [(.ref a1), (.ref tx)])) _
    exact k
  refine own_lift sg8 ?_
  show own_Go p.tables e below (T7.setTop (mkF m 19 #[rv a1] [(.ref a1), (.ref tx)])) _
  obtain ⟨T9, X9, e9, st9⟩ := getF X7 hx hZ hown (host := "") (Or.inl (wd hw 52 rfl)) Via.refl e7 Fco (g := (mkF m 19 #[rv a1] [(.ref a1), (.ref tx)])) rfl rfl (hb hby d21_19)
  refine own_lift st9 ?_
  show own_Go p.tables e below (T9.setTop (mkF m 22 #[rv a1] [(.int 1), (.ref tx)])) _
  obtain ⟨cq10, kq10, q10a, q10b, q10c⟩ := isOf hZ e9 Es
  obtain ⟨_, _, ⟨T10, Lx10, kx10, nx10⟩, -, X10, ⟨Lc10, hQ10, lx10, yx10, zx10⟩, st10⟩ := X9.virtualBack hx (y := (⟨STx, "charAt", "(I)C"⟩ : MethodName)) (z := (⟨STx, "charAt", "(I)C"⟩ : MethodName)) hown (mvT hZ (wd hw 114 rfl)) (mvT hZ (wd hw 115 rfl)) (notFace_of_selects (args := #[]) (mvT hZ (wd hw 117 rfl))) (mvT hZ (wd hw 117 rfl)) (mvT hZ (wd hw 116 rfl)) (by decide) (backOf (W := 0) (rmCas1 l Z a0 hw [] tx va kb b0 b1 b2 b3 cs fv h0 n0 Z0 Es Fsv Fsc Ars Scs Sfm P_cs P_fv) hZ (wd hw 118 rfl) (wd hw 10 rfl) (by decide) (by decide)) q10a q10c (g := (mkF m 22 #[rv a1] [(.int 1), (.ref tx)])) rfl (by rw [hml]; rfl) (Steps.refl _) (argsL := [(.int 1)]) (rest := []) (lenOf pd_12 rfl) rfl (by show 2 * 0 + _ ≤ _; exact Nat.le_of_eq rfl) (hb hby d21_22) (fun _ _ => ⟨rfl, e9, (by decide : 0 + 0 ≤ _), (by decide : 0 + 0 ≤ _)⟩)
  dsimp only [Pt.U, Pt.locs, Pt.cells, Pt.slots] at X10 lx10 yx10 zx10 st10 hQ10
  subst lx10 yx10 zx10
  obtain ⟨rfl, N10q, e10⟩ := hQ10
  have N10 := Fr.app N5 N10q
  refine own_lift (fun t k => st10.trans k) ?_
  show own_Go p.tables e below (T10.setTop (mkF m 25 #[rv a1] [(.int (own_c8 b1))])) _
  have sg11 : ∀ t, Steps p.tables e below (T10.setTop (mkF m 35 #[rv a1] [(.int 1)])) t → Steps p.tables e below (T10.setTop (mkF m 25 #[rv a1] [(.int (own_c8 b1))])) t := by
    intro t k
    refine XS.bipush X10.here hx rfl (hb hby d21_25) ?_
    show Steps p.tables e below (T10.setTop (mkF m 27 #[rv a1] [(.int 10), (.int (own_c8 b1))])) _
    refine XS.icmpNo X10.here hx rfl (hb hby d21_27) rfl (teq d).2 ?_
    refine XS.iconst X10.here hx rfl (hb hby d21_30) ?_
    refine XS.goto X10.here hx rfl (pc0 := 31) (pc' := 35) rfl (hb hby d21_31) (by decide) (by decide) ?_
    show Steps p.tables e below (T10.setTop (mkF m 35 #[rv a1] [(.int 1)])) _
    exact k
  refine own_lift sg11 ?_
  show own_Go p.tables e below (T10.setTop (mkF m 35 #[rv a1] [(.int 1)])) _
  obtain ⟨fs, hr, hrun, hended, hW, hsame⟩ := X10.leave (v := some (.int 1)) (fun h => by rw [Bd.returns] at h; cases h)
  refine ⟨_, _, ?_, hrun, hended, _, _, rfl, ?_, ⟨_, rfl⟩, hW, hsame.mono (by decide) (by decide)⟩
  · exact retN X10 hx (t := .boolean) Bd.returns (by simp) (hb hby d21_35) hr
  · show Q_rmAle1 Z a1 tx va kb b0 b1 b2 b3 cs fv h0 n0 _ T10.heap _
    rw [e10]
    exact ⟨rfl, N10, rfl⟩
def Q_rmAle2 (Z : State) (a1 : Addr) (tx : Addr) (va : Addr) (kb : ClassId) (b0 : Int32) (b1 : Int32) (b2 : Int32) (b3 : Int32) (cs : Int32) (fv : Value) (h0 : Heap) (n0 : Nat) (v : Option Value) (h : Heap) (L : List Loc) : Prop := v = some (.int 1) ∧ Fr n0 L ∧ h = h0
theorem ef_rmAle2 (m : MethodId) (x0 : Addr) : entryFrame m #[(.ref x0)] 1 = mkF m 0 #[.val (.ref x0)] [] := by first | (simp [entryFrame, mkF, argsToLocals, Value.category]; done) | rfl
set_option maxRecDepth 65536 in
set_option maxHeartbeats 40000000 in
theorem rmAle2 (l : Launch) (Z : State) (a0 : Array Value) (hw : ∀ d ∈ tables_1, d.before a0 Z = true) (ws : List Jvm.Cond) (a1 : Addr) (tx : Addr) (va : Addr) (kb : ClassId) (b0 : Int32) (b1 : Int32) (b2 : Int32) (b3 : Int32) (cs : Int32) (fv : Value) (h0 : Heap) (n0 : Nat) (Z0 : n0 ≤ h0.size) (Fct : Fld Z h0 a1 TC "text" dSx (.ref tx)) (Fco : Fld Z h0 a1 TC "offset" "I" (.int 2)) (Es : Exa Z h0 tx STx) (Fsv : Fld Z h0 tx STx "value" "[B" (.ref va)) (Fsc : Fld Z h0 tx STx "coder" "B" (.int 0)) (Ars : Arv Z h0 va kb .byte (4 : Int32) [(.int b0), (.int b1), (.int b2), (.int b3)] (.int 0)) (Scs : Sta Z h0 STx "COMPACT_STRINGS" "Z" (.int cs)) (Sfm : Sta Z h0 PCx "SIOOBE_FORMATTER" BFx fv) (P_cs : ¬ (cs = (0 : Int32))) (P_fv : fv.isRef = true) (d : (own_c8 b2) = (10 : Int32)) :
    MetFree l (⟨TC, "atLineEnd", "()Z"⟩ : MethodName) (head1 (Jvm.Cond.code (⟨TC, "atLineEnd", "()Z"⟩ : MethodName) prog_63_method_6_code 1 (some .boolean) :: ws) ({ frames := 4, cells := 0, slots := 0, locals := 53 } : Room)) (fun a U => a = #[(.ref a1)] ∧ Z.Warmed39 U.vm ∧ U.heap = h0) (fun _ _ _ _ _ => True) (fun _ U o U' => ∃ v L, o = .returned v ∧ Q_rmAle2 Z a1 tx va kb b0 b1 b2 b3 cs fv h0 n0 v U'.heap L ∧ FrameEnd U o U' L ({ frames := 4, cells := 0, slots := 0, locals := 53 } : Room).cells ({ frames := 4, cells := 0, slots := 0, locals := 53 } : Room).slots) := by
  refine MetFree.of_bodySF (plainFor_of_name pn_4) hisR ?_
  intro p e s m args below meth c s₁ Bd hml0 hP hK
  obtain ⟨rfl, hZ, hh⟩ := hP
  have hx := Bd.exec
  have hby := Bd.bytes
  have hml : c.maxLocals = 1 := hml0
  have hown : s.vm.findClass TC = some m.cls := findClass_of_methodNamed Bd.named
  have hnm := (name_of_methodNamed Bd.named Bd.method).1
  have X0 : Stand p l e ({ frames := 4, cells := 0, slots := 0, locals := 53 } : Room) s m #[(.ref a1)] below meth c s₁ [] 0 0 := Stand.of_body Bd
  have e0 : s₁.heap = h0 := by rw [← hh, Bd.state]; rfl
  have N0 := Fr.nil n0
  refine own_go (own_lift (fun t k => castTop (ef_rmAle2 m a1) k) ?_)
  show own_Go p.tables e below (s₁.setTop (mkF m 0 #[rv a1] [])) _
  have sg1 : ∀ t, Steps p.tables e below (s₁.setTop (mkF m 1 #[rv a1] [(.ref a1)])) t → Steps p.tables e below (s₁.setTop (mkF m 0 #[rv a1] [])) t := by
    intro t k
    refine XS.aloadN X0.here hx rfl (hb hby d21_0) rfl rfl ?_
    show Steps p.tables e below (s₁.setTop (mkF m 1 #[rv a1] [(.ref a1)])) _
    exact k
  refine own_lift sg1 ?_
  show own_Go p.tables e below (s₁.setTop (mkF m 1 #[rv a1] [(.ref a1)])) _
  obtain ⟨T2, X2, e2, st2⟩ := getF X0 hx hZ hown (host := "") (Or.inl (wd hw 52 rfl)) Via.refl e0 Fco (g := (mkF m 1 #[rv a1] [(.ref a1)])) rfl rfl (hb hby d21_1)
  refine own_lift st2 ?_
  show own_Go p.tables e below (T2.setTop (mkF m 4 #[rv a1] [(.int 2)])) _
  have sg3 : ∀ t, Steps p.tables e below (T2.setTop (mkF m 5 #[rv a1] [(.ref a1), (.int 2)])) t → Steps p.tables e below (T2.setTop (mkF m 4 #[rv a1] [(.int 2)])) t := by
    intro t k
    refine XS.aloadN X2.here hx rfl (hb hby d21_4) rfl rfl ?_
    show Steps p.tables e below (T2.setTop (mkF m 5 #[rv a1] [(.ref a1), (.int 2)])) _
    exact k
  refine own_lift sg3 ?_
  show own_Go p.tables e below (T2.setTop (mkF m 5 #[rv a1] [(.ref a1), (.int 2)])) _
  obtain ⟨T4, X4, e4, st4⟩ := getF X2 hx hZ hown (host := "") (Or.inl (wd hw 45 rfl)) Via.refl e2 Fct (g := (mkF m 5 #[rv a1] [(.ref a1), (.int 2)])) rfl rfl (hb hby d21_5)
  refine own_lift st4 ?_
  show own_Go p.tables e below (T4.setTop (mkF m 8 #[rv a1] [(.ref tx), (.int 2)])) _
  obtain ⟨cq5, kq5, q5a, q5b, q5c⟩ := isOf hZ e4 Es
  obtain ⟨_, _, ⟨T5, Lx5, kx5, nx5⟩, -, X5, ⟨Lc5, hQ5, lx5, yx5, zx5⟩, st5⟩ := X4.virtualBack hx (y := (⟨STx, "length", "()I"⟩ : MethodName)) (z := (⟨STx, "length", "()I"⟩ : MethodName)) hown (mvT hZ (wd hw 113 rfl)) (mvT hZ (wd hw 65 rfl)) (notFace_of_selects (args := #[]) (mvT hZ (wd hw 67 rfl))) (mvT hZ (wd hw 67 rfl)) (mvT hZ (wd hw 66 rfl)) (by decide) (backOf (W := 1) (rmLen l Z a0 hw [] tx va kb b0 b1 b2 b3 cs h0 n0 Z0 Es Fsv Fsc Ars Scs P_cs) hZ (wd hw 68 rfl) (wd hw 10 rfl) (by decide) (by decide)) q5a q5c (g := (mkF m 8 #[rv a1] [(.ref tx), (.int 2)])) rfl (by rw [hml]; rfl) (Steps.refl _) (argsL := []) (rest := [(.int 2)]) (lenOf pd_5 rfl) rfl (by show 2 * 0 + _ ≤ _; exact Nat.le_of_eq rfl) (hb hby d21_8) (fun _ _ => ⟨rfl, e4, (by decide : 0 + 0 ≤ _), (by decide : 0 + 0 ≤ _)⟩)
  dsimp only [Pt.U, Pt.locs, Pt.cells, Pt.slots] at X5 lx5 yx5 zx5 st5 hQ5
  subst lx5 yx5 zx5
  obtain ⟨rfl, N5q, e5⟩ := hQ5
  have N5 := Fr.app N0 N5q
  refine own_lift (fun t k => st5.trans k) ?_
  show own_Go p.tables e below (T5.setTop (mkF m 11 #[rv a1] [(.int 4), (.int 2)])) _
  have sg6 : ∀ t, Steps p.tables e below (T5.setTop (mkF m 15 #[rv a1] [(.ref a1)])) t → Steps p.tables e below (T5.setTop (mkF m 11 #[rv a1] [(.int 4), (.int 2)])) t := by
    intro t k
    refine XS.icmpNo X5.here hx rfl (hb hby d21_11) rfl (tlt (by decide : (2 : Int32) < (4 : Int32))).2.1 ?_
    show Steps p.tables e below (T5.setTop (mkF m 14 #[rv a1] [])) _
    refine XS.aloadN X5.here hx rfl (hb hby d21_14) rfl rfl ?_
    show Steps p.tables e below (T5.setTop (mkF m 15 #[rv a1] [(.ref a1)])) _
    exact k
  refine own_lift sg6 ?_
  show own_Go p.tables e below (T5.setTop (mkF m 15 #[rv a1] [(.ref a1)])) _
  obtain ⟨T7, X7, e7, st7⟩ := getF X5 hx hZ hown (host := "") (Or.inl (wd hw 45 rfl)) Via.refl e5 Fct (g := (mkF m 15 #[rv a1] [(.ref a1)])) rfl rfl (hb hby d21_15)
  refine own_lift st7 ?_
  show own_Go p.tables e below (T7.setTop (mkF m 18 #[rv a1] [(.ref tx)])) _
  have sg8 : ∀ t, Steps p.tables e below (T7.setTop (mkF m 19 #[rv a1] [(.ref a1), (.ref tx)])) t → Steps p.tables e below (T7.setTop (mkF m 18 #[rv a1] [(.ref tx)])) t := by
    intro t k
    refine XS.aloadN X7.here hx rfl (hb hby d21_18) rfl rfl ?_
    show Steps p.tables e below (T7.setTop (mkF m 19 #[rv a1] [(.ref a1), (.ref tx)])) _
    exact k
  refine own_lift sg8 ?_
  show own_Go p.tables e below (T7.setTop (mkF m 19 #[rv a1] [(.ref a1), (.ref tx)])) _
  obtain ⟨T9, X9, e9, st9⟩ := getF X7 hx hZ hown (host := "") (Or.inl (wd hw 52 rfl)) Via.refl e7 Fco (g := (mkF m 19 #[rv a1] [(.ref a1), (.ref tx)])) rfl rfl (hb hby d21_19)
  refine own_lift st9 ?_
  show own_Go p.tables e below (T9.setTop (mkF m 22 #[rv a1] [(.int 2), (.ref tx)])) _
  obtain ⟨cq10, kq10, q10a, q10b, q10c⟩ := isOf hZ e9 Es
  obtain ⟨_, _, ⟨T10, Lx10, kx10, nx10⟩, -, X10, ⟨Lc10, hQ10, lx10, yx10, zx10⟩, st10⟩ := X9.virtualBack hx (y := (⟨STx, "charAt", "(I)C"⟩ : MethodName)) (z := (⟨STx, "charAt", "(I)C"⟩ : MethodName)) hown (mvT hZ (wd hw 114 rfl)) (mvT hZ (wd hw 115 rfl)) (notFace_of_selects (args := #[]) (mvT hZ (wd hw 117 rfl))) (mvT hZ (wd hw 117 rfl)) (mvT hZ (wd hw 116 rfl)) (by decide) (backOf (W := 0) (rmCas2 l Z a0 hw [] tx va kb b0 b1 b2 b3 cs fv h0 n0 Z0 Es Fsv Fsc Ars Scs Sfm P_cs P_fv) hZ (wd hw 118 rfl) (wd hw 10 rfl) (by decide) (by decide)) q10a q10c (g := (mkF m 22 #[rv a1] [(.int 2), (.ref tx)])) rfl (by rw [hml]; rfl) (Steps.refl _) (argsL := [(.int 2)]) (rest := []) (lenOf pd_12 rfl) rfl (by show 2 * 0 + _ ≤ _; exact Nat.le_of_eq rfl) (hb hby d21_22) (fun _ _ => ⟨rfl, e9, (by decide : 0 + 0 ≤ _), (by decide : 0 + 0 ≤ _)⟩)
  dsimp only [Pt.U, Pt.locs, Pt.cells, Pt.slots] at X10 lx10 yx10 zx10 st10 hQ10
  subst lx10 yx10 zx10
  obtain ⟨rfl, N10q, e10⟩ := hQ10
  have N10 := Fr.app N5 N10q
  refine own_lift (fun t k => st10.trans k) ?_
  show own_Go p.tables e below (T10.setTop (mkF m 25 #[rv a1] [(.int (own_c8 b2))])) _
  have sg11 : ∀ t, Steps p.tables e below (T10.setTop (mkF m 35 #[rv a1] [(.int 1)])) t → Steps p.tables e below (T10.setTop (mkF m 25 #[rv a1] [(.int (own_c8 b2))])) t := by
    intro t k
    refine XS.bipush X10.here hx rfl (hb hby d21_25) ?_
    show Steps p.tables e below (T10.setTop (mkF m 27 #[rv a1] [(.int 10), (.int (own_c8 b2))])) _
    refine XS.icmpNo X10.here hx rfl (hb hby d21_27) rfl (teq d).2 ?_
    refine XS.iconst X10.here hx rfl (hb hby d21_30) ?_
    refine XS.goto X10.here hx rfl (pc0 := 31) (pc' := 35) rfl (hb hby d21_31) (by decide) (by decide) ?_
    show Steps p.tables e below (T10.setTop (mkF m 35 #[rv a1] [(.int 1)])) _
    exact k
  refine own_lift sg11 ?_
  show own_Go p.tables e below (T10.setTop (mkF m 35 #[rv a1] [(.int 1)])) _
  obtain ⟨fs, hr, hrun, hended, hW, hsame⟩ := X10.leave (v := some (.int 1)) (fun h => by rw [Bd.returns] at h; cases h)
  refine ⟨_, _, ?_, hrun, hended, _, _, rfl, ?_, ⟨_, rfl⟩, hW, hsame.mono (by decide) (by decide)⟩
  · exact retN X10 hx (t := .boolean) Bd.returns (by simp) (hb hby d21_35) hr
  · show Q_rmAle2 Z a1 tx va kb b0 b1 b2 b3 cs fv h0 n0 _ T10.heap _
    rw [e10]
    exact ⟨rfl, N10, rfl⟩
def Q_rmAle3 (Z : State) (a1 : Addr) (tx : Addr) (va : Addr) (kb : ClassId) (b0 : Int32) (b1 : Int32) (b2 : Int32) (b3 : Int32) (cs : Int32) (fv : Value) (h0 : Heap) (n0 : Nat) (v : Option Value) (h : Heap) (L : List Loc) : Prop := v = some (.int 1) ∧ Fr n0 L ∧ h = h0
theorem ef_rmAle3 (m : MethodId) (x0 : Addr) : entryFrame m #[(.ref x0)] 1 = mkF m 0 #[.val (.ref x0)] [] := by first | (simp [entryFrame, mkF, argsToLocals, Value.category]; done) | rfl
set_option maxRecDepth 65536 in
set_option maxHeartbeats 40000000 in
theorem rmAle3 (l : Launch) (Z : State) (a0 : Array Value) (hw : ∀ d ∈ tables_1, d.before a0 Z = true) (ws : List Jvm.Cond) (a1 : Addr) (tx : Addr) (va : Addr) (kb : ClassId) (b0 : Int32) (b1 : Int32) (b2 : Int32) (b3 : Int32) (cs : Int32) (fv : Value) (h0 : Heap) (n0 : Nat) (Z0 : n0 ≤ h0.size) (Fct : Fld Z h0 a1 TC "text" dSx (.ref tx)) (Fco : Fld Z h0 a1 TC "offset" "I" (.int 3)) (Es : Exa Z h0 tx STx) (Fsv : Fld Z h0 tx STx "value" "[B" (.ref va)) (Fsc : Fld Z h0 tx STx "coder" "B" (.int 0)) (Ars : Arv Z h0 va kb .byte (4 : Int32) [(.int b0), (.int b1), (.int b2), (.int b3)] (.int 0)) (Scs : Sta Z h0 STx "COMPACT_STRINGS" "Z" (.int cs)) (Sfm : Sta Z h0 PCx "SIOOBE_FORMATTER" BFx fv) (P_cs : ¬ (cs = (0 : Int32))) (P_fv : fv.isRef = true) (d : (own_c8 b3) = (10 : Int32)) :
    MetFree l (⟨TC, "atLineEnd", "()Z"⟩ : MethodName) (head1 (Jvm.Cond.code (⟨TC, "atLineEnd", "()Z"⟩ : MethodName) prog_63_method_6_code 1 (some .boolean) :: ws) ({ frames := 4, cells := 0, slots := 0, locals := 53 } : Room)) (fun a U => a = #[(.ref a1)] ∧ Z.Warmed39 U.vm ∧ U.heap = h0) (fun _ _ _ _ _ => True) (fun _ U o U' => ∃ v L, o = .returned v ∧ Q_rmAle3 Z a1 tx va kb b0 b1 b2 b3 cs fv h0 n0 v U'.heap L ∧ FrameEnd U o U' L ({ frames := 4, cells := 0, slots := 0, locals := 53 } : Room).cells ({ frames := 4, cells := 0, slots := 0, locals := 53 } : Room).slots) := by
  refine MetFree.of_bodySF (plainFor_of_name pn_4) hisR ?_
  intro p e s m args below meth c s₁ Bd hml0 hP hK
  obtain ⟨rfl, hZ, hh⟩ := hP
  have hx := Bd.exec
  have hby := Bd.bytes
  have hml : c.maxLocals = 1 := hml0
  have hown : s.vm.findClass TC = some m.cls := findClass_of_methodNamed Bd.named
  have hnm := (name_of_methodNamed Bd.named Bd.method).1
  have X0 : Stand p l e ({ frames := 4, cells := 0, slots := 0, locals := 53 } : Room) s m #[(.ref a1)] below meth c s₁ [] 0 0 := Stand.of_body Bd
  have e0 : s₁.heap = h0 := by rw [← hh, Bd.state]; rfl
  have N0 := Fr.nil n0
  refine own_go (own_lift (fun t k => castTop (ef_rmAle3 m a1) k) ?_)
  show own_Go p.tables e below (s₁.setTop (mkF m 0 #[rv a1] [])) _
  have sg1 : ∀ t, Steps p.tables e below (s₁.setTop (mkF m 1 #[rv a1] [(.ref a1)])) t → Steps p.tables e below (s₁.setTop (mkF m 0 #[rv a1] [])) t := by
    intro t k
    refine XS.aloadN X0.here hx rfl (hb hby d21_0) rfl rfl ?_
    show Steps p.tables e below (s₁.setTop (mkF m 1 #[rv a1] [(.ref a1)])) _
    exact k
  refine own_lift sg1 ?_
  show own_Go p.tables e below (s₁.setTop (mkF m 1 #[rv a1] [(.ref a1)])) _
  obtain ⟨T2, X2, e2, st2⟩ := getF X0 hx hZ hown (host := "") (Or.inl (wd hw 52 rfl)) Via.refl e0 Fco (g := (mkF m 1 #[rv a1] [(.ref a1)])) rfl rfl (hb hby d21_1)
  refine own_lift st2 ?_
  show own_Go p.tables e below (T2.setTop (mkF m 4 #[rv a1] [(.int 3)])) _
  have sg3 : ∀ t, Steps p.tables e below (T2.setTop (mkF m 5 #[rv a1] [(.ref a1), (.int 3)])) t → Steps p.tables e below (T2.setTop (mkF m 4 #[rv a1] [(.int 3)])) t := by
    intro t k
    refine XS.aloadN X2.here hx rfl (hb hby d21_4) rfl rfl ?_
    show Steps p.tables e below (T2.setTop (mkF m 5 #[rv a1] [(.ref a1), (.int 3)])) _
    exact k
  refine own_lift sg3 ?_
  show own_Go p.tables e below (T2.setTop (mkF m 5 #[rv a1] [(.ref a1), (.int 3)])) _
  obtain ⟨T4, X4, e4, st4⟩ := getF X2 hx hZ hown (host := "") (Or.inl (wd hw 45 rfl)) Via.refl e2 Fct (g := (mkF m 5 #[rv a1] [(.ref a1), (.int 3)])) rfl rfl (hb hby d21_5)
  refine own_lift st4 ?_
  show own_Go p.tables e below (T4.setTop (mkF m 8 #[rv a1] [(.ref tx), (.int 3)])) _
  obtain ⟨cq5, kq5, q5a, q5b, q5c⟩ := isOf hZ e4 Es
  obtain ⟨_, _, ⟨T5, Lx5, kx5, nx5⟩, -, X5, ⟨Lc5, hQ5, lx5, yx5, zx5⟩, st5⟩ := X4.virtualBack hx (y := (⟨STx, "length", "()I"⟩ : MethodName)) (z := (⟨STx, "length", "()I"⟩ : MethodName)) hown (mvT hZ (wd hw 113 rfl)) (mvT hZ (wd hw 65 rfl)) (notFace_of_selects (args := #[]) (mvT hZ (wd hw 67 rfl))) (mvT hZ (wd hw 67 rfl)) (mvT hZ (wd hw 66 rfl)) (by decide) (backOf (W := 1) (rmLen l Z a0 hw [] tx va kb b0 b1 b2 b3 cs h0 n0 Z0 Es Fsv Fsc Ars Scs P_cs) hZ (wd hw 68 rfl) (wd hw 10 rfl) (by decide) (by decide)) q5a q5c (g := (mkF m 8 #[rv a1] [(.ref tx), (.int 3)])) rfl (by rw [hml]; rfl) (Steps.refl _) (argsL := []) (rest := [(.int 3)]) (lenOf pd_5 rfl) rfl (by show 2 * 0 + _ ≤ _; exact Nat.le_of_eq rfl) (hb hby d21_8) (fun _ _ => ⟨rfl, e4, (by decide : 0 + 0 ≤ _), (by decide : 0 + 0 ≤ _)⟩)
  dsimp only [Pt.U, Pt.locs, Pt.cells, Pt.slots] at X5 lx5 yx5 zx5 st5 hQ5
  subst lx5 yx5 zx5
  obtain ⟨rfl, N5q, e5⟩ := hQ5
  have N5 := Fr.app N0 N5q
  refine own_lift (fun t k => st5.trans k) ?_
  show own_Go p.tables e below (T5.setTop (mkF m 11 #[rv a1] [(.int 4), (.int 3)])) _
  have sg6 : ∀ t, Steps p.tables e below (T5.setTop (mkF m 15 #[rv a1] [(.ref a1)])) t → Steps p.tables e below (T5.setTop (mkF m 11 #[rv a1] [(.int 4), (.int 3)])) t := by
    intro t k
    refine XS.icmpNo X5.here hx rfl (hb hby d21_11) rfl (tlt (by decide : (3 : Int32) < (4 : Int32))).2.1 ?_
    show Steps p.tables e below (T5.setTop (mkF m 14 #[rv a1] [])) _
    refine XS.aloadN X5.here hx rfl (hb hby d21_14) rfl rfl ?_
    show Steps p.tables e below (T5.setTop (mkF m 15 #[rv a1] [(.ref a1)])) _
    exact k
  refine own_lift sg6 ?_
  show own_Go p.tables e below (T5.setTop (mkF m 15 #[rv a1] [(.ref a1)])) _
  obtain ⟨T7, X7, e7, st7⟩ := getF X5 hx hZ hown (host := "") (Or.inl (wd hw 45 rfl)) Via.refl e5 Fct (g := (mkF m 15 #[rv a1] [(.ref a1)])) rfl rfl (hb hby d21_15)
  refine own_lift st7 ?_
  show own_Go p.tables e below (T7.setTop (mkF m 18 #[rv a1] [(.ref tx)])) _
  have sg8 : ∀ t, Steps p.tables e below (T7.setTop (mkF m 19 #[rv a1] [(.ref a1), (.ref tx)])) t → Steps p.tables e below (T7.setTop (mkF m 18 #[rv a1] [(.ref tx)])) t := by
    intro t k
    refine XS.aloadN X7.here hx rfl (hb hby d21_18) rfl rfl ?_
    show Steps p.tables e below (T7.setTop (mkF m 19 #[rv a1] [(.ref a1), (.ref tx)])) _
    exact k
  refine own_lift sg8 ?_
  show own_Go p.tables e below (T7.setTop (mkF m 19 #[rv a1] [(.ref a1), (.ref tx)])) _
  obtain ⟨T9, X9, e9, st9⟩ := getF X7 hx hZ hown (host := "") (Or.inl (wd hw 52 rfl)) Via.refl e7 Fco (g := (mkF m 19 #[rv a1] [(.ref a1), (.ref tx)])) rfl rfl (hb hby d21_19)
  refine own_lift st9 ?_
  show own_Go p.tables e below (T9.setTop (mkF m 22 #[rv a1] [(.int 3), (.ref tx)])) _
  obtain ⟨cq10, kq10, q10a, q10b, q10c⟩ := isOf hZ e9 Es
  obtain ⟨_, _, ⟨T10, Lx10, kx10, nx10⟩, -, X10, ⟨Lc10, hQ10, lx10, yx10, zx10⟩, st10⟩ := X9.virtualBack hx (y := (⟨STx, "charAt", "(I)C"⟩ : MethodName)) (z := (⟨STx, "charAt", "(I)C"⟩ : MethodName)) hown (mvT hZ (wd hw 114 rfl)) (mvT hZ (wd hw 115 rfl)) (notFace_of_selects (args := #[]) (mvT hZ (wd hw 117 rfl))) (mvT hZ (wd hw 117 rfl)) (mvT hZ (wd hw 116 rfl)) (by decide) (backOf (W := 0) (rmCas3 l Z a0 hw [] tx va kb b0 b1 b2 b3 cs fv h0 n0 Z0 Es Fsv Fsc Ars Scs Sfm P_cs P_fv) hZ (wd hw 118 rfl) (wd hw 10 rfl) (by decide) (by decide)) q10a q10c (g := (mkF m 22 #[rv a1] [(.int 3), (.ref tx)])) rfl (by rw [hml]; rfl) (Steps.refl _) (argsL := [(.int 3)]) (rest := []) (lenOf pd_12 rfl) rfl (by show 2 * 0 + _ ≤ _; exact Nat.le_of_eq rfl) (hb hby d21_22) (fun _ _ => ⟨rfl, e9, (by decide : 0 + 0 ≤ _), (by decide : 0 + 0 ≤ _)⟩)
  dsimp only [Pt.U, Pt.locs, Pt.cells, Pt.slots] at X10 lx10 yx10 zx10 st10 hQ10
  subst lx10 yx10 zx10
  obtain ⟨rfl, N10q, e10⟩ := hQ10
  have N10 := Fr.app N5 N10q
  refine own_lift (fun t k => st10.trans k) ?_
  show own_Go p.tables e below (T10.setTop (mkF m 25 #[rv a1] [(.int (own_c8 b3))])) _
  have sg11 : ∀ t, Steps p.tables e below (T10.setTop (mkF m 35 #[rv a1] [(.int 1)])) t → Steps p.tables e below (T10.setTop (mkF m 25 #[rv a1] [(.int (own_c8 b3))])) t := by
    intro t k
    refine XS.bipush X10.here hx rfl (hb hby d21_25) ?_
    show Steps p.tables e below (T10.setTop (mkF m 27 #[rv a1] [(.int 10), (.int (own_c8 b3))])) _
    refine XS.icmpNo X10.here hx rfl (hb hby d21_27) rfl (teq d).2 ?_
    refine XS.iconst X10.here hx rfl (hb hby d21_30) ?_
    refine XS.goto X10.here hx rfl (pc0 := 31) (pc' := 35) rfl (hb hby d21_31) (by decide) (by decide) ?_
    show Steps p.tables e below (T10.setTop (mkF m 35 #[rv a1] [(.int 1)])) _
    exact k
  refine own_lift sg11 ?_
  show own_Go p.tables e below (T10.setTop (mkF m 35 #[rv a1] [(.int 1)])) _
  obtain ⟨fs, hr, hrun, hended, hW, hsame⟩ := X10.leave (v := some (.int 1)) (fun h => by rw [Bd.returns] at h; cases h)
  refine ⟨_, _, ?_, hrun, hended, _, _, rfl, ?_, ⟨_, rfl⟩, hW, hsame.mono (by decide) (by decide)⟩
  · exact retN X10 hx (t := .boolean) Bd.returns (by simp) (hb hby d21_35) hr
  · show Q_rmAle3 Z a1 tx va kb b0 b1 b2 b3 cs fv h0 n0 _ T10.heap _
    rw [e10]
    exact ⟨rfl, N10, rfl⟩
theorem d21_34 : decode prog_63_method_6_code 34 = .ok (.iconst 0, 1) := by decide +kernel
def Q_rmAle4 (Z : State) (a1 : Addr) (tx : Addr) (va : Addr) (kb : ClassId) (b0 : Int32) (b1 : Int32) (b2 : Int32) (b3 : Int32) (cs : Int32) (h0 : Heap) (n0 : Nat) (v : Option Value) (h : Heap) (L : List Loc) : Prop := v = some (.int 0) ∧ Fr n0 L ∧ h = h0
theorem ef_rmAle4 (m : MethodId) (x0 : Addr) : entryFrame m #[(.ref x0)] 1 = mkF m 0 #[.val (.ref x0)] [] := by first | (simp [entryFrame, mkF, argsToLocals, Value.category]; done) | rfl
set_option maxRecDepth 65536 in
set_option maxHeartbeats 40000000 in
theorem rmAle4 (l : Launch) (Z : State) (a0 : Array Value) (hw : ∀ d ∈ tables_1, d.before a0 Z = true) (ws : List Jvm.Cond) (a1 : Addr) (tx : Addr) (va : Addr) (kb : ClassId) (b0 : Int32) (b1 : Int32) (b2 : Int32) (b3 : Int32) (cs : Int32) (h0 : Heap) (n0 : Nat) (Z0 : n0 ≤ h0.size) (Fct : Fld Z h0 a1 TC "text" dSx (.ref tx)) (Fco : Fld Z h0 a1 TC "offset" "I" (.int 4)) (Es : Exa Z h0 tx STx) (Fsv : Fld Z h0 tx STx "value" "[B" (.ref va)) (Fsc : Fld Z h0 tx STx "coder" "B" (.int 0)) (Ars : Arv Z h0 va kb .byte (4 : Int32) [(.int b0), (.int b1), (.int b2), (.int b3)] (.int 0)) (Scs : Sta Z h0 STx "COMPACT_STRINGS" "Z" (.int cs)) (P_cs : ¬ (cs = (0 : Int32))) :
    MetFree l (⟨TC, "atLineEnd", "()Z"⟩ : MethodName) (head1 (Jvm.Cond.code (⟨TC, "atLineEnd", "()Z"⟩ : MethodName) prog_63_method_6_code 1 (some .boolean) :: ws) ({ frames := 2, cells := 0, slots := 0, locals := 26 } : Room)) (fun a U => a = #[(.ref a1)] ∧ Z.Warmed39 U.vm ∧ U.heap = h0) (fun _ _ _ _ _ => True) (fun _ U o U' => ∃ v L, o = .returned v ∧ Q_rmAle4 Z a1 tx va kb b0 b1 b2 b3 cs h0 n0 v U'.heap L ∧ FrameEnd U o U' L ({ frames := 2, cells := 0, slots := 0, locals := 26 } : Room).cells ({ frames := 2, cells := 0, slots := 0, locals := 26 } : Room).slots) := by
  refine MetFree.of_bodySF (plainFor_of_name pn_4) hisR ?_
  intro p e s m args below meth c s₁ Bd hml0 hP hK
  obtain ⟨rfl, hZ, hh⟩ := hP
  have hx := Bd.exec
  have hby := Bd.bytes
  have hml : c.maxLocals = 1 := hml0
  have hown : s.vm.findClass TC = some m.cls := findClass_of_methodNamed Bd.named
  have hnm := (name_of_methodNamed Bd.named Bd.method).1
  have X0 : Stand p l e ({ frames := 2, cells := 0, slots := 0, locals := 26 } : Room) s m #[(.ref a1)] below meth c s₁ [] 0 0 := Stand.of_body Bd
  have e0 : s₁.heap = h0 := by rw [← hh, Bd.state]; rfl
  have N0 := Fr.nil n0
  refine own_go (own_lift (fun t k => castTop (ef_rmAle4 m a1) k) ?_)
  show own_Go p.tables e below (s₁.setTop (mkF m 0 #[rv a1] [])) _
  have sg1 : ∀ t, Steps p.tables e below (s₁.setTop (mkF m 1 #[rv a1] [(.ref a1)])) t → Steps p.tables e below (s₁.setTop (mkF m 0 #[rv a1] [])) t := by
    intro t k
    refine XS.aloadN X0.here hx rfl (hb hby d21_0) rfl rfl ?_
    show Steps p.tables e below (s₁.setTop (mkF m 1 #[rv a1] [(.ref a1)])) _
    exact k
  refine own_lift sg1 ?_
  show own_Go p.tables e below (s₁.setTop (mkF m 1 #[rv a1] [(.ref a1)])) _
  obtain ⟨T2, X2, e2, st2⟩ := getF X0 hx hZ hown (host := "") (Or.inl (wd hw 52 rfl)) Via.refl e0 Fco (g := (mkF m 1 #[rv a1] [(.ref a1)])) rfl rfl (hb hby d21_1)
  refine own_lift st2 ?_
  show own_Go p.tables e below (T2.setTop (mkF m 4 #[rv a1] [(.int 4)])) _
  have sg3 : ∀ t, Steps p.tables e below (T2.setTop (mkF m 5 #[rv a1] [(.ref a1), (.int 4)])) t → Steps p.tables e below (T2.setTop (mkF m 4 #[rv a1] [(.int 4)])) t := by
    intro t k
    refine XS.aloadN X2.here hx rfl (hb hby d21_4) rfl rfl ?_
    show Steps p.tables e below (T2.setTop (mkF m 5 #[rv a1] [(.ref a1), (.int 4)])) _
    exact k
  refine own_lift sg3 ?_
  show own_Go p.tables e below (T2.setTop (mkF m 5 #[rv a1] [(.ref a1), (.int 4)])) _
  obtain ⟨T4, X4, e4, st4⟩ := getF X2 hx hZ hown (host := "") (Or.inl (wd hw 45 rfl)) Via.refl e2 Fct (g := (mkF m 5 #[rv a1] [(.ref a1), (.int 4)])) rfl rfl (hb hby d21_5)
  refine own_lift st4 ?_
  show own_Go p.tables e below (T4.setTop (mkF m 8 #[rv a1] [(.ref tx), (.int 4)])) _
  obtain ⟨cq5, kq5, q5a, q5b, q5c⟩ := isOf hZ e4 Es
  obtain ⟨_, _, ⟨T5, Lx5, kx5, nx5⟩, -, X5, ⟨Lc5, hQ5, lx5, yx5, zx5⟩, st5⟩ := X4.virtualBack hx (y := (⟨STx, "length", "()I"⟩ : MethodName)) (z := (⟨STx, "length", "()I"⟩ : MethodName)) hown (mvT hZ (wd hw 113 rfl)) (mvT hZ (wd hw 65 rfl)) (notFace_of_selects (args := #[]) (mvT hZ (wd hw 67 rfl))) (mvT hZ (wd hw 67 rfl)) (mvT hZ (wd hw 66 rfl)) (by decide) (backOf (W := 1) (rmLen l Z a0 hw [] tx va kb b0 b1 b2 b3 cs h0 n0 Z0 Es Fsv Fsc Ars Scs P_cs) hZ (wd hw 68 rfl) (wd hw 10 rfl) (by decide) (by decide)) q5a q5c (g := (mkF m 8 #[rv a1] [(.ref tx), (.int 4)])) rfl (by rw [hml]; rfl) (Steps.refl _) (argsL := []) (rest := [(.int 4)]) (lenOf pd_5 rfl) rfl (by show 2 * 0 + _ ≤ _; exact Nat.le_of_eq rfl) (hb hby d21_8) (fun _ _ => ⟨rfl, e4, (by decide : 0 + 0 ≤ _), (by decide : 0 + 0 ≤ _)⟩)
  dsimp only [Pt.U, Pt.locs, Pt.cells, Pt.slots] at X5 lx5 yx5 zx5 st5 hQ5
  subst lx5 yx5 zx5
  obtain ⟨rfl, N5q, e5⟩ := hQ5
  have N5 := Fr.app N0 N5q
  refine own_lift (fun t k => st5.trans k) ?_
  show own_Go p.tables e below (T5.setTop (mkF m 11 #[rv a1] [(.int 4), (.int 4)])) _
  have sg6 : ∀ t, Steps p.tables e below (T5.setTop (mkF m 35 #[rv a1] [(.int 0)])) t → Steps p.tables e below (T5.setTop (mkF m 11 #[rv a1] [(.int 4), (.int 4)])) t := by
    intro t k
    refine XS.icmpYes X5.here hx rfl (pc0 := 11) (pc' := 34) rfl (hb hby d21_11) rfl (flt (by decide : ¬ ((4 : Int32) < (4 : Int32)))).2.1 (by decide) (by decide) ?_
    show Steps p.tables e below (T5.setTop (mkF m 34 #[rv a1] [])) _
    refine XS.iconst X5.here hx rfl (hb hby d21_34) ?_
    show Steps p.tables e below (T5.setTop (mkF m 35 #[rv a1] [(.int 0)])) _
    exact k
  refine own_lift sg6 ?_
  show own_Go p.tables e below (T5.setTop (mkF m 35 #[rv a1] [(.int 0)])) _
  obtain ⟨fs, hr, hrun, hended, hW, hsame⟩ := X5.leave (v := some (.int 0)) (fun h => by rw [Bd.returns] at h; cases h)
  refine ⟨_, _, ?_, hrun, hended, _, _, rfl, ?_, ⟨_, rfl⟩, hW, hsame.mono (by decide) (by decide)⟩
  · exact retN X5 hx (t := .boolean) Bd.returns (by simp) (hb hby d21_35) hr
  · show Q_rmAle4 Z a1 tx va kb b0 b1 b2 b3 cs h0 n0 _ T5.heap _
    rw [e5]
    exact ⟨rfl, N5, rfl⟩
theorem d22_0 : decode prog_63_method_2_code 0 = .ok (.aload_n 0, 1) := by decide +kernel
theorem d22_1 : decode prog_63_method_2_code 1 = .ok (.getfield 7, 3) := by decide +kernel
theorem d22_4 : decode prog_63_method_2_code 4 = .ok (.ireturn, 1) := by decide +kernel
def Q_rmLine (Z : State) (a1 : Addr) (w1 : Int32) (h0 : Heap) (n0 : Nat) (v : Option Value) (h : Heap) (L : List Loc) : Prop := v = some (.int w1) ∧ Fr n0 L ∧ h = h0
theorem ef_rmLine (m : MethodId) (x0 : Addr) : entryFrame m #[(.ref x0)] 1 = mkF m 0 #[.val (.ref x0)] [] := by first | (simp [entryFrame, mkF, argsToLocals, Value.category]; done) | rfl
set_option maxRecDepth 65536 in
set_option maxHeartbeats 40000000 in
theorem rmLine (l : Launch) (Z : State) (a0 : Array Value) (hw : ∀ d ∈ tables_1, d.before a0 Z = true) (ws : List Jvm.Cond) (a1 : Addr) (w1 : Int32) (h0 : Heap) (n0 : Nat) (Z0 : n0 ≤ h0.size) (Fcl : Fld Z h0 a1 TC "line" "I" (.int w1))  :
    MetFree l (⟨TC, "line", "()I"⟩ : MethodName) (head1 (Jvm.Cond.code (⟨TC, "line", "()I"⟩ : MethodName) prog_63_method_2_code 1 (some .int) :: ws) ({ frames := 0, cells := 0, slots := 0, locals := 0 } : Room)) (fun a U => a = #[(.ref a1)] ∧ Z.Warmed39 U.vm ∧ U.heap = h0) (fun _ _ _ _ _ => True) (fun _ U o U' => ∃ v L, o = .returned v ∧ Q_rmLine Z a1 w1 h0 n0 v U'.heap L ∧ FrameEnd U o U' L ({ frames := 0, cells := 0, slots := 0, locals := 0 } : Room).cells ({ frames := 0, cells := 0, slots := 0, locals := 0 } : Room).slots) := by
  refine MetFree.of_bodySF (plainFor_of_name pn_4) hisR ?_
  intro p e s m args below meth c s₁ Bd hml0 hP hK
  obtain ⟨rfl, hZ, hh⟩ := hP
  have hx := Bd.exec
  have hby := Bd.bytes
  have hml : c.maxLocals = 1 := hml0
  have hown : s.vm.findClass TC = some m.cls := findClass_of_methodNamed Bd.named
  have hnm := (name_of_methodNamed Bd.named Bd.method).1
  have X0 : Stand p l e ({ frames := 0, cells := 0, slots := 0, locals := 0 } : Room) s m #[(.ref a1)] below meth c s₁ [] 0 0 := Stand.of_body Bd
  have e0 : s₁.heap = h0 := by rw [← hh, Bd.state]; rfl
  have N0 := Fr.nil n0
  refine own_go (own_lift (fun t k => castTop (ef_rmLine m a1) k) ?_)
  show own_Go p.tables e below (s₁.setTop (mkF m 0 #[rv a1] [])) _
  have sg1 : ∀ t, Steps p.tables e below (s₁.setTop (mkF m 1 #[rv a1] [(.ref a1)])) t → Steps p.tables e below (s₁.setTop (mkF m 0 #[rv a1] [])) t := by
    intro t k
    refine XS.aloadN X0.here hx rfl (hb hby d22_0) rfl rfl ?_
    show Steps p.tables e below (s₁.setTop (mkF m 1 #[rv a1] [(.ref a1)])) _
    exact k
  refine own_lift sg1 ?_
  show own_Go p.tables e below (s₁.setTop (mkF m 1 #[rv a1] [(.ref a1)])) _
  obtain ⟨T2, X2, e2, st2⟩ := getF X0 hx hZ hown (host := "") (Or.inl (wd hw 41 rfl)) Via.refl e0 Fcl (g := (mkF m 1 #[rv a1] [(.ref a1)])) rfl rfl (hb hby d22_1)
  refine own_lift st2 ?_
  show own_Go p.tables e below (T2.setTop (mkF m 4 #[rv a1] [(.int w1)])) _
  obtain ⟨fs, hr, hrun, hended, hW, hsame⟩ := X2.leave (v := some (.int w1)) (fun h => by rw [Bd.returns] at h; cases h)
  refine ⟨_, _, ?_, hrun, hended, _, _, rfl, ?_, ⟨_, rfl⟩, hW, hsame.mono (by decide) (by decide)⟩
  · exact retI X2 hx Bd.returns (hb hby d22_4) hr
  · show Q_rmLine Z a1 w1 h0 n0 _ T2.heap _
    rw [e2]
    exact ⟨rfl, N0, rfl⟩
theorem d23_0 : decode prog_63_method_3_code 0 = .ok (.aload_n 0, 1) := by decide +kernel
theorem d23_1 : decode prog_63_method_3_code 1 = .ok (.getfield 13, 3) := by decide +kernel
theorem d23_4 : decode prog_63_method_3_code 4 = .ok (.ireturn, 1) := by decide +kernel
def Q_rmCol (Z : State) (a1 : Addr) (w1 : Int32) (h0 : Heap) (n0 : Nat) (v : Option Value) (h : Heap) (L : List Loc) : Prop := v = some (.int w1) ∧ Fr n0 L ∧ h = h0
theorem ef_rmCol (m : MethodId) (x0 : Addr) : entryFrame m #[(.ref x0)] 1 = mkF m 0 #[.val (.ref x0)] [] := by first | (simp [entryFrame, mkF, argsToLocals, Value.category]; done) | rfl
set_option maxRecDepth 65536 in
set_option maxHeartbeats 40000000 in
theorem rmCol (l : Launch) (Z : State) (a0 : Array Value) (hw : ∀ d ∈ tables_1, d.before a0 Z = true) (ws : List Jvm.Cond) (a1 : Addr) (w1 : Int32) (h0 : Heap) (n0 : Nat) (Z0 : n0 ≤ h0.size) (Fcc : Fld Z h0 a1 TC "column" "I" (.int w1))  :
    MetFree l (⟨TC, "column", "()I"⟩ : MethodName) (head1 (Jvm.Cond.code (⟨TC, "column", "()I"⟩ : MethodName) prog_63_method_3_code 1 (some .int) :: ws) ({ frames := 0, cells := 0, slots := 0, locals := 0 } : Room)) (fun a U => a = #[(.ref a1)] ∧ Z.Warmed39 U.vm ∧ U.heap = h0) (fun _ _ _ _ _ => True) (fun _ U o U' => ∃ v L, o = .returned v ∧ Q_rmCol Z a1 w1 h0 n0 v U'.heap L ∧ FrameEnd U o U' L ({ frames := 0, cells := 0, slots := 0, locals := 0 } : Room).cells ({ frames := 0, cells := 0, slots := 0, locals := 0 } : Room).slots) := by
  refine MetFree.of_bodySF (plainFor_of_name pn_4) hisR ?_
  intro p e s m args below meth c s₁ Bd hml0 hP hK
  obtain ⟨rfl, hZ, hh⟩ := hP
  have hx := Bd.exec
  have hby := Bd.bytes
  have hml : c.maxLocals = 1 := hml0
  have hown : s.vm.findClass TC = some m.cls := findClass_of_methodNamed Bd.named
  have hnm := (name_of_methodNamed Bd.named Bd.method).1
  have X0 : Stand p l e ({ frames := 0, cells := 0, slots := 0, locals := 0 } : Room) s m #[(.ref a1)] below meth c s₁ [] 0 0 := Stand.of_body Bd
  have e0 : s₁.heap = h0 := by rw [← hh, Bd.state]; rfl
  have N0 := Fr.nil n0
  refine own_go (own_lift (fun t k => castTop (ef_rmCol m a1) k) ?_)
  show own_Go p.tables e below (s₁.setTop (mkF m 0 #[rv a1] [])) _
  have sg1 : ∀ t, Steps p.tables e below (s₁.setTop (mkF m 1 #[rv a1] [(.ref a1)])) t → Steps p.tables e below (s₁.setTop (mkF m 0 #[rv a1] [])) t := by
    intro t k
    refine XS.aloadN X0.here hx rfl (hb hby d23_0) rfl rfl ?_
    show Steps p.tables e below (s₁.setTop (mkF m 1 #[rv a1] [(.ref a1)])) _
    exact k
  refine own_lift sg1 ?_
  show own_Go p.tables e below (s₁.setTop (mkF m 1 #[rv a1] [(.ref a1)])) _
  obtain ⟨T2, X2, e2, st2⟩ := getF X0 hx hZ hown (host := "") (Or.inl (wd hw 43 rfl)) Via.refl e0 Fcc (g := (mkF m 1 #[rv a1] [(.ref a1)])) rfl rfl (hb hby d23_1)
  refine own_lift st2 ?_
  show own_Go p.tables e below (T2.setTop (mkF m 4 #[rv a1] [(.int w1)])) _
  obtain ⟨fs, hr, hrun, hended, hW, hsame⟩ := X2.leave (v := some (.int w1)) (fun h => by rw [Bd.returns] at h; cases h)
  refine ⟨_, _, ?_, hrun, hended, _, _, rfl, ?_, ⟨_, rfl⟩, hW, hsame.mono (by decide) (by decide)⟩
  · exact retI X2 hx Bd.returns (hb hby d23_4) hr
  · show Q_rmCol Z a1 w1 h0 n0 _ T2.heap _
    rw [e2]
    exact ⟨rfl, N0, rfl⟩
theorem d24_0 : decode prog_63_method_7_code 0 = .ok (.aload_n 0, 1) := by decide +kernel
theorem d24_1 : decode prog_63_method_7_code 1 = .ok (.dup, 1) := by decide +kernel
theorem d24_2 : decode prog_63_method_7_code 2 = .ok (.getfield 30, 3) := by decide +kernel
theorem d24_5 : decode prog_63_method_7_code 5 = .ok (.iconst 1, 1) := by decide +kernel
theorem d24_6 : decode prog_63_method_7_code 6 = .ok (.iadd, 1) := by decide +kernel
theorem d24_7 : decode prog_63_method_7_code 7 = .ok (.putfield 30, 3) := by decide +kernel
theorem d24_10 : decode prog_63_method_7_code 10 = .ok (.aload_n 0, 1) := by decide +kernel
theorem d24_11 : decode prog_63_method_7_code 11 = .ok (.dup, 1) := by decide +kernel
theorem d24_12 : decode prog_63_method_7_code 12 = .ok (.getfield 7, 3) := by decide +kernel
theorem d24_15 : decode prog_63_method_7_code 15 = .ok (.iconst 1, 1) := by decide +kernel
theorem d24_16 : decode prog_63_method_7_code 16 = .ok (.iadd, 1) := by decide +kernel
theorem d24_17 : decode prog_63_method_7_code 17 = .ok (.putfield 7, 3) := by decide +kernel
theorem d24_20 : decode prog_63_method_7_code 20 = .ok (.aload_n 0, 1) := by decide +kernel
theorem d24_21 : decode prog_63_method_7_code 21 = .ok (.iconst 1, 1) := by decide +kernel
theorem d24_22 : decode prog_63_method_7_code 22 = .ok (.putfield 13, 3) := by decide +kernel
theorem d24_25 : decode prog_63_method_7_code 25 = .ok (.return_, 1) := by decide +kernel
def Q_rmPass (Z : State) (a1 : Addr) (tx : Addr) (wo : Int32) (wc : Int32) (wl : Int32) (h0 : Heap) (n0 : Nat) (v : Option Value) (h : Heap) (L : List Loc) : Prop := v = none ∧ Fr n0 L ∧ Keep h0 h [a1] ∧ Exa Z h a1 TC ∧ Fld Z h a1 TC "text" dSx (.ref tx) ∧ Fld Z h a1 TC "offset" "I" (.int (wo + (1 : Int32))) ∧ Fld Z h a1 TC "column" "I" (.int 1) ∧ Fld Z h a1 TC "line" "I" (.int (wl + (1 : Int32)))
theorem ef_rmPass (m : MethodId) (x0 : Addr) : entryFrame m #[(.ref x0)] 1 = mkF m 0 #[.val (.ref x0)] [] := by first | (simp [entryFrame, mkF, argsToLocals, Value.category]; done) | rfl
set_option maxRecDepth 65536 in
set_option maxHeartbeats 40000000 in
theorem rmPass (l : Launch) (Z : State) (a0 : Array Value) (hw : ∀ d ∈ tables_1, d.before a0 Z = true) (ws : List Jvm.Cond) (a1 : Addr) (tx : Addr) (wo : Int32) (wc : Int32) (wl : Int32) (h0 : Heap) (n0 : Nat) (Z0 : n0 ≤ h0.size) (Ec : Exa Z h0 a1 TC) (Fct : Fld Z h0 a1 TC "text" dSx (.ref tx)) (Fco : Fld Z h0 a1 TC "offset" "I" (.int wo)) (Fcc : Fld Z h0 a1 TC "column" "I" (.int wc)) (Fcl : Fld Z h0 a1 TC "line" "I" (.int wl)) (G1 : n0 ≤ a1)  :
    MetFree l (⟨TC, "passLineEnd", "()V"⟩ : MethodName) (head1 (Jvm.Cond.code (⟨TC, "passLineEnd", "()V"⟩ : MethodName) prog_63_method_7_code 1 none :: ws) ({ frames := 0, cells := 0, slots := 0, locals := 0 } : Room)) (fun a U => a = #[(.ref a1)] ∧ Z.Warmed39 U.vm ∧ U.heap = h0) (fun _ _ _ _ _ => True) (fun _ U o U' => ∃ v L, o = .returned v ∧ Q_rmPass Z a1 tx wo wc wl h0 n0 v U'.heap L ∧ FrameEnd U o U' L ({ frames := 0, cells := 0, slots := 0, locals := 0 } : Room).cells ({ frames := 0, cells := 0, slots := 0, locals := 0 } : Room).slots) := by
  refine MetFree.of_bodySF (plainFor_of_name pn_4) hisR ?_
  intro p e s m args below meth c s₁ Bd hml0 hP hK
  obtain ⟨rfl, hZ, hh⟩ := hP
  have hx := Bd.exec
  have hby := Bd.bytes
  have hml : c.maxLocals = 1 := hml0
  have hown : s.vm.findClass TC = some m.cls := findClass_of_methodNamed Bd.named
  have hnm := (name_of_methodNamed Bd.named Bd.method).1
  have X0 : Stand p l e ({ frames := 0, cells := 0, slots := 0, locals := 0 } : Room) s m #[(.ref a1)] below meth c s₁ [] 0 0 := Stand.of_body Bd
  have e0 : s₁.heap = h0 := by rw [← hh, Bd.state]; rfl
  have N0 := Fr.nil n0
  refine own_go (own_lift (fun t k => castTop (ef_rmPass m a1) k) ?_)
  show own_Go p.tables e below (s₁.setTop (mkF m 0 #[rv a1] [])) _
  have sg1 : ∀ t, Steps p.tables e below (s₁.setTop (mkF m 2 #[rv a1] [(.ref a1), (.ref a1)])) t → Steps p.tables e below (s₁.setTop (mkF m 0 #[rv a1] [])) t := by
    intro t k
    refine XS.aloadN X0.here hx rfl (hb hby d24_0) rfl rfl ?_
    show Steps p.tables e below (s₁.setTop (mkF m 1 #[rv a1] [(.ref a1)])) _
    refine XS.dup X0.here hx rfl (hb hby d24_1) rfl rfl ?_
    show Steps p.tables e below (s₁.setTop (mkF m 2 #[rv a1] [(.ref a1), (.ref a1)])) _
    exact k
  refine own_lift sg1 ?_
  show own_Go p.tables e below (s₁.setTop (mkF m 2 #[rv a1] [(.ref a1), (.ref a1)])) _
  obtain ⟨T2, X2, e2, st2⟩ := getF X0 hx hZ hown (host := "") (Or.inl (wd hw 52 rfl)) Via.refl e0 Fco (g := (mkF m 2 #[rv a1] [(.ref a1), (.ref a1)])) rfl rfl (hb hby d24_2)
  refine own_lift st2 ?_
  show own_Go p.tables e below (T2.setTop (mkF m 5 #[rv a1] [(.int wo), (.ref a1)])) _
  have sg3 : ∀ t, Steps p.tables e below (T2.setTop (mkF m 7 #[rv a1] [(.int (wo + (1 : Int32))), (.ref a1)])) t → Steps p.tables e below (T2.setTop (mkF m 5 #[rv a1] [(.int wo), (.ref a1)])) t := by
    intro t k
    refine XS.iconst X2.here hx rfl (hb hby d24_5) ?_
    show Steps p.tables e below (T2.setTop (mkF m 6 #[rv a1] [(.int 1), (.int wo), (.ref a1)])) _
    refine XS.iadd X2.here hx rfl (hb hby d24_6) rfl ?_
    show Steps p.tables e below (T2.setTop (mkF m 7 #[rv a1] [(.int (wo + (1 : Int32))), (.ref a1)])) _
    exact k
  refine own_lift sg3 ?_
  show own_Go p.tables e below (T2.setTop (mkF m 7 #[rv a1] [(.int (wo + (1 : Int32))), (.ref a1)])) _
  obtain ⟨T4, h4, X4, e4, W4, st4⟩ := putF X2 hx hZ hown (host := "") (Or.inl (wd hw 52 rfl)) Via.refl e2 Fco Ec (Or.inl (wd hw 53 rfl)) (wd hw 6 rfl) (ty := .int) (by decide) rfl rfl (g := (mkF m 7 #[rv a1] [(.int (wo + (1 : Int32))), (.ref a1)])) rfl rfl (hb hby d24_7)
  have N4 := Fr.snoc X4 N0 G1
  have Z4 : n0 ≤ h4.size := Nat.le_trans Z0 (Nat.le_of_eq W4.size.symm)
  have K4 : Keep h0 h4 [a1] := (Keep.refl h0 [a1]).wr W4 (Or.inl (List.mem_of_getElem? (i := 0) rfl))
  have Fw4 : Fld Z h4 a1 TC "offset" "I" (.int (wo + (1 : Int32))) := Fco.same W4
  refine own_lift st4 ?_
  show own_Go p.tables e below (T4.setTop (mkF m 10 #[rv a1] [])) _
  have sg5 : ∀ t, Steps p.tables e below (T4.setTop (mkF m 12 #[rv a1] [(.ref a1), (.ref a1)])) t → Steps p.tables e below (T4.setTop (mkF m 10 #[rv a1] [])) t := by
    intro t k
    refine XS.aloadN X4.here hx rfl (hb hby d24_10) rfl rfl ?_
    show Steps p.tables e below (T4.setTop (mkF m 11 #[rv a1] [(.ref a1)])) _
    refine XS.dup X4.here hx rfl (hb hby d24_11) rfl rfl ?_
    show Steps p.tables e below (T4.setTop (mkF m 12 #[rv a1] [(.ref a1), (.ref a1)])) _
    exact k
  refine own_lift sg5 ?_
  show own_Go p.tables e below (T4.setTop (mkF m 12 #[rv a1] [(.ref a1), (.ref a1)])) _
  have Fc6 : Fld Z h4 a1 TC "line" "I" (.int wl) := (Fcl.other W4 (Or.inr (slot_ne (Or.inl (wd hw 42 rfl)) (Or.inl (wd hw 53 rfl)) (by decide) (t := .int) (t' := .int) (by decide) (by decide))))
  obtain ⟨T7, X7, e7, st7⟩ := getF X4 hx hZ hown (host := "") (Or.inl (wd hw 41 rfl)) Via.refl e4 Fc6 (g := (mkF m 12 #[rv a1] [(.ref a1), (.ref a1)])) rfl rfl (hb hby d24_12)
  refine own_lift st7 ?_
  show own_Go p.tables e below (T7.setTop (mkF m 15 #[rv a1] [(.int wl), (.ref a1)])) _
  have sg8 : ∀ t, Steps p.tables e below (T7.setTop (mkF m 17 #[rv a1] [(.int (wl + (1 : Int32))), (.ref a1)])) t → Steps p.tables e below (T7.setTop (mkF m 15 #[rv a1] [(.int wl), (.ref a1)])) t := by
    intro t k
    refine XS.iconst X7.here hx rfl (hb hby d24_15) ?_
    show Steps p.tables e below (T7.setTop (mkF m 16 #[rv a1] [(.int 1), (.int wl), (.ref a1)])) _
    refine XS.iadd X7.here hx rfl (hb hby d24_16) rfl ?_
    show Steps p.tables e below (T7.setTop (mkF m 17 #[rv a1] [(.int (wl + (1 : Int32))), (.ref a1)])) _
    exact k
  refine own_lift sg8 ?_
  show own_Go p.tables e below (T7.setTop (mkF m 17 #[rv a1] [(.int (wl + (1 : Int32))), (.ref a1)])) _
  have Fc9 : Exa Z h4 a1 TC := (Ec.wr W4)
  obtain ⟨T10, h10, X10, e10, W10, st10⟩ := putF X7 hx hZ hown (host := "") (Or.inl (wd hw 41 rfl)) Via.refl e7 Fc6 Fc9 (Or.inl (wd hw 42 rfl)) (wd hw 6 rfl) (ty := .int) (by decide) rfl rfl (g := (mkF m 17 #[rv a1] [(.int (wl + (1 : Int32))), (.ref a1)])) rfl rfl (hb hby d24_17)
  have N10 := Fr.snoc X10 N4 G1
  have Z10 : n0 ≤ h10.size := Nat.le_trans Z4 (Nat.le_of_eq W10.size.symm)
  have K10 : Keep h0 h10 [a1] := K4.wr W10 (Or.inl (List.mem_of_getElem? (i := 0) rfl))
  have Fw10 : Fld Z h10 a1 TC "line" "I" (.int (wl + (1 : Int32))) := Fc6.same W10
  refine own_lift st10 ?_
  show own_Go p.tables e below (T10.setTop (mkF m 20 #[rv a1] [])) _
  have sg11 : ∀ t, Steps p.tables e below (T10.setTop (mkF m 22 #[rv a1] [(.int 1), (.ref a1)])) t → Steps p.tables e below (T10.setTop (mkF m 20 #[rv a1] [])) t := by
    intro t k
    refine XS.aloadN X10.here hx rfl (hb hby d24_20) rfl rfl ?_
    show Steps p.tables e below (T10.setTop (mkF m 21 #[rv a1] [(.ref a1)])) _
    refine XS.iconst X10.here hx rfl (hb hby d24_21) ?_
    show Steps p.tables e below (T10.setTop (mkF m 22 #[rv a1] [(.int 1), (.ref a1)])) _
    exact k
  refine own_lift sg11 ?_
  show own_Go p.tables e below (T10.setTop (mkF m 22 #[rv a1] [(.int 1), (.ref a1)])) _
  have Fc12 : Fld Z h10 a1 TC "column" "I" (.int wc) := ((Fcc.other W4 (Or.inr (slot_ne (Or.inl (wd hw 44 rfl)) (Or.inl (wd hw 53 rfl)) (by decide) (t := .int) (t' := .int) (by decide) (by decide)))).other W10 (Or.inr (slot_ne (Or.inl (wd hw 44 rfl)) (Or.inl (wd hw 42 rfl)) (by decide) (t := .int) (t' := .int) (by decide) (by decide))))
  have Fc13 : Exa Z h10 a1 TC := (Fc9.wr W10)
  obtain ⟨T14, h14, X14, e14, W14, st14⟩ := putF X10 hx hZ hown (host := "") (Or.inl (wd hw 43 rfl)) Via.refl e10 Fc12 Fc13 (Or.inl (wd hw 44 rfl)) (wd hw 6 rfl) (ty := .int) (by decide) rfl rfl (g := (mkF m 22 #[rv a1] [(.int 1), (.ref a1)])) rfl rfl (hb hby d24_22)
  have N14 := Fr.snoc X14 N10 G1
  have Z14 : n0 ≤ h14.size := Nat.le_trans Z10 (Nat.le_of_eq W14.size.symm)
  have K14 : Keep h0 h14 [a1] := K10.wr W14 (Or.inl (List.mem_of_getElem? (i := 0) rfl))
  have Fw14 : Fld Z h14 a1 TC "column" "I" (.int 1) := Fc12.same W14
  refine own_lift st14 ?_
  show own_Go p.tables e below (T14.setTop (mkF m 25 #[rv a1] [])) _
  obtain ⟨fs, hr, hrun, hended, hW, hsame⟩ := X14.leave (v := none) (fun _ => rfl)
  have Fc15 : Exa Z h14 a1 TC := (Fc13.wr W14)
  have Fc16 : Fld Z h14 a1 TC "text" dSx (.ref tx) := (((Fct.other W4 (Or.inr (slot_ne (Or.inr (wd hw 46 rfl)) (Or.inl (wd hw 53 rfl)) (by decide) (t := (.object STx)) (t' := .int) (by decide) (by decide)))).other W10 (Or.inr (slot_ne (Or.inr (wd hw 46 rfl)) (Or.inl (wd hw 42 rfl)) (by decide) (t := (.object STx)) (t' := .int) (by decide) (by decide)))).other W14 (Or.inr (slot_ne (Or.inr (wd hw 46 rfl)) (Or.inl (wd hw 44 rfl)) (by decide) (t := (.object STx)) (t' := .int) (by decide) (by decide))))
  have Fc17 : Fld Z h14 a1 TC "offset" "I" (.int (wo + (1 : Int32))) := ((Fw4.other W10 (Or.inr (slot_ne (Or.inl (wd hw 53 rfl)) (Or.inl (wd hw 42 rfl)) (by decide) (t := .int) (t' := .int) (by decide) (by decide)))).other W14 (Or.inr (slot_ne (Or.inl (wd hw 53 rfl)) (Or.inl (wd hw 44 rfl)) (by decide) (t := .int) (t' := .int) (by decide) (by decide))))
  have Fc18 : Fld Z h14 a1 TC "line" "I" (.int (wl + (1 : Int32))) := (Fw10.other W14 (Or.inr (slot_ne (Or.inl (wd hw 42 rfl)) (Or.inl (wd hw 44 rfl)) (by decide) (t := .int) (t' := .int) (by decide) (by decide))))
  refine ⟨_, _, ?_, hrun, hended, _, _, rfl, ?_, ⟨_, rfl⟩, hW, hsame.mono (by decide) (by decide)⟩
  · exact X14.returnOut hx Bd.returns (hb hby d24_25) hr
  · show Q_rmPass Z a1 tx wo wc wl h0 n0 _ T14.heap _
    rw [e14]
    exact ⟨rfl, N14, K14, Fc15, Fc16, Fc17, Fw14, Fc18⟩
theorem d25_0 : decode prog_63_method_10_code 0 = .ok (.aload_n 0, 1) := by decide +kernel
theorem d25_1 : decode prog_63_method_10_code 1 = .ok (.getfield 30, 3) := by decide +kernel
theorem d25_4 : decode prog_63_method_10_code 4 = .ok (.iload_n 1, 1) := by decide +kernel
theorem d25_5 : decode prog_63_method_10_code 5 = .ok (.iadd, 1) := by decide +kernel
theorem d25_6 : decode prog_63_method_10_code 6 = .ok (.aload_n 0, 1) := by decide +kernel
theorem d25_7 : decode prog_63_method_10_code 7 = .ok (.getfield 16, 3) := by decide +kernel
theorem d25_10 : decode prog_63_method_10_code 10 = .ok (.invokevirtual 33, 3) := by decide +kernel
theorem d25_13 : decode prog_63_method_10_code 13 = .ok (.if_icmp .ge 7, 3) := by decide +kernel
theorem d25_16 : decode prog_63_method_10_code 16 = .ok (.iconst 1, 1) := by decide +kernel
theorem d25_17 : decode prog_63_method_10_code 17 = .ok (.goto 4, 3) := by decide +kernel
theorem d25_21 : decode prog_63_method_10_code 21 = .ok (.ireturn, 1) := by decide +kernel
def Q_rmHas1 (Z : State) (a1 : Addr) (tx : Addr) (va : Addr) (kb : ClassId) (b0 : Int32) (b1 : Int32) (b2 : Int32) (b3 : Int32) (cs : Int32) (h0 : Heap) (n0 : Nat) (v : Option Value) (h : Heap) (L : List Loc) : Prop := v = some (.int 1) ∧ Fr n0 L ∧ h = h0
theorem ef_rmHas1 (m : MethodId) (x0 : Addr) (x1 : Int32) : entryFrame m #[(.ref x0), (.int 0)] 2 = mkF m 0 #[.val (.ref x0), .val (.int 0)] [] := by first | (simp [entryFrame, mkF, argsToLocals, Value.category]; done) | rfl
set_option maxRecDepth 65536 in
set_option maxHeartbeats 40000000 in
theorem rmHas1 (l : Launch) (Z : State) (a0 : Array Value) (hw : ∀ d ∈ tables_1, d.before a0 Z = true) (ws : List Jvm.Cond) (a1 : Addr) (tx : Addr) (va : Addr) (kb : ClassId) (b0 : Int32) (b1 : Int32) (b2 : Int32) (b3 : Int32) (cs : Int32) (h0 : Heap) (n0 : Nat) (Z0 : n0 ≤ h0.size) (Fct : Fld Z h0 a1 TC "text" dSx (.ref tx)) (Fco : Fld Z h0 a1 TC "offset" "I" (.int 1)) (Es : Exa Z h0 tx STx) (Fsv : Fld Z h0 tx STx "value" "[B" (.ref va)) (Fsc : Fld Z h0 tx STx "coder" "B" (.int 0)) (Ars : Arv Z h0 va kb .byte (4 : Int32) [(.int b0), (.int b1), (.int b2), (.int b3)] (.int 0)) (Scs : Sta Z h0 STx "COMPACT_STRINGS" "Z" (.int cs)) (P_cs : ¬ (cs = (0 : Int32))) :
    MetFree l (⟨TC, "has", "(I)Z"⟩ : MethodName) (head1 (Jvm.Cond.code (⟨TC, "has", "(I)Z"⟩ : MethodName) prog_63_method_10_code 2 (some .boolean) :: ws) ({ frames := 2, cells := 0, slots := 0, locals := 26 } : Room)) (fun a U => a = #[(.ref a1), (.int 0)] ∧ Z.Warmed39 U.vm ∧ U.heap = h0) (fun _ _ _ _ _ => True) (fun _ U o U' => ∃ v L, o = .returned v ∧ Q_rmHas1 Z a1 tx va kb b0 b1 b2 b3 cs h0 n0 v U'.heap L ∧ FrameEnd U o U' L ({ frames := 2, cells := 0, slots := 0, locals := 26 } : Room).cells ({ frames := 2, cells := 0, slots := 0, locals := 26 } : Room).slots) := by
  refine MetFree.of_bodySF (plainFor_of_name pn_4) hisR ?_
  intro p e s m args below meth c s₁ Bd hml0 hP hK
  obtain ⟨rfl, hZ, hh⟩ := hP
  have hx := Bd.exec
  have hby := Bd.bytes
  have hml : c.maxLocals = 2 := hml0
  have hown : s.vm.findClass TC = some m.cls := findClass_of_methodNamed Bd.named
  have hnm := (name_of_methodNamed Bd.named Bd.method).1
  have X0 : Stand p l e ({ frames := 2, cells := 0, slots := 0, locals := 26 } : Room) s m #[(.ref a1), (.int 0)] below meth c s₁ [] 0 0 := Stand.of_body Bd
  have e0 : s₁.heap = h0 := by rw [← hh, Bd.state]; rfl
  have N0 := Fr.nil n0
  refine own_go (own_lift (fun t k => castTop (ef_rmHas1 m a1 (0 : Int32)) k) ?_)
  show own_Go p.tables e below (s₁.setTop (mkF m 0 #[rv a1, iv 0] [])) _
  have sg1 : ∀ t, Steps p.tables e below (s₁.setTop (mkF m 1 #[rv a1, iv 0] [(.ref a1)])) t → Steps p.tables e below (s₁.setTop (mkF m 0 #[rv a1, iv 0] [])) t := by
    intro t k
    refine XS.aloadN X0.here hx rfl (hb hby d25_0) rfl rfl ?_
    show Steps p.tables e below (s₁.setTop (mkF m 1 #[rv a1, iv 0] [(.ref a1)])) _
    exact k
  refine own_lift sg1 ?_
  show own_Go p.tables e below (s₁.setTop (mkF m 1 #[rv a1, iv 0] [(.ref a1)])) _
  obtain ⟨T2, X2, e2, st2⟩ := getF X0 hx hZ hown (host := "") (Or.inl (wd hw 52 rfl)) Via.refl e0 Fco (g := (mkF m 1 #[rv a1, iv 0] [(.ref a1)])) rfl rfl (hb hby d25_1)
  refine own_lift st2 ?_
  show own_Go p.tables e below (T2.setTop (mkF m 4 #[rv a1, iv 0] [(.int 1)])) _
  have sg3 : ∀ t, Steps p.tables e below (T2.setTop (mkF m 7 #[rv a1, iv 0] [(.ref a1), (.int 1)])) t → Steps p.tables e below (T2.setTop (mkF m 4 #[rv a1, iv 0] [(.int 1)])) t := by
    intro t k
    refine XS.iloadN X2.here hx rfl (hb hby d25_4) rfl ?_
    show Steps p.tables e below (T2.setTop (mkF m 5 #[rv a1, iv 0] [(.int 0), (.int 1)])) _
    refine XS.iadd X2.here hx rfl (hb hby d25_5) rfl ?_
    refine XS.aloadN X2.here hx rfl (hb hby d25_6) rfl rfl ?_
    show Steps p.tables e below (T2.setTop (mkF m 7 #[rv a1, iv 0] [(.ref a1), (.int 1)])) _
    exact k
  refine own_lift sg3 ?_
  show own_Go p.tables e below (T2.setTop (mkF m 7 #[rv a1, iv 0] [(.ref a1), (.int 1)])) _
  obtain ⟨T4, X4, e4, st4⟩ := getF X2 hx hZ hown (host := "") (Or.inl (wd hw 45 rfl)) Via.refl e2 Fct (g := (mkF m 7 #[rv a1, iv 0] [(.ref a1), (.int 1)])) rfl rfl (hb hby d25_7)
  refine own_lift st4 ?_
  show own_Go p.tables e below (T4.setTop (mkF m 10 #[rv a1, iv 0] [(.ref tx), (.int 1)])) _
  obtain ⟨cq5, kq5, q5a, q5b, q5c⟩ := isOf hZ e4 Es
  obtain ⟨_, _, ⟨T5, Lx5, kx5, nx5⟩, -, X5, ⟨Lc5, hQ5, lx5, yx5, zx5⟩, st5⟩ := X4.virtualBack hx (y := (⟨STx, "length", "()I"⟩ : MethodName)) (z := (⟨STx, "length", "()I"⟩ : MethodName)) hown (mvT hZ (wd hw 113 rfl)) (mvT hZ (wd hw 65 rfl)) (notFace_of_selects (args := #[]) (mvT hZ (wd hw 67 rfl))) (mvT hZ (wd hw 67 rfl)) (mvT hZ (wd hw 66 rfl)) (by decide) (backOf (W := 1) (rmLen l Z a0 hw [] tx va kb b0 b1 b2 b3 cs h0 n0 Z0 Es Fsv Fsc Ars Scs P_cs) hZ (wd hw 68 rfl) (wd hw 10 rfl) (by decide) (by decide)) q5a q5c (g := (mkF m 10 #[rv a1, iv 0] [(.ref tx), (.int 1)])) rfl (by rw [hml]; rfl) (Steps.refl _) (argsL := []) (rest := [(.int 1)]) (lenOf pd_5 rfl) rfl (by show 2 * 0 + _ ≤ _; exact Nat.le_of_eq rfl) (hb hby d25_10) (fun _ _ => ⟨rfl, e4, (by decide : 0 + 0 ≤ _), (by decide : 0 + 0 ≤ _)⟩)
  dsimp only [Pt.U, Pt.locs, Pt.cells, Pt.slots] at X5 lx5 yx5 zx5 st5 hQ5
  subst lx5 yx5 zx5
  obtain ⟨rfl, N5q, e5⟩ := hQ5
  have N5 := Fr.app N0 N5q
  refine own_lift (fun t k => st5.trans k) ?_
  show own_Go p.tables e below (T5.setTop (mkF m 13 #[rv a1, iv 0] [(.int 4), (.int 1)])) _
  have sg6 : ∀ t, Steps p.tables e below (T5.setTop (mkF m 21 #[rv a1, iv 0] [(.int 1)])) t → Steps p.tables e below (T5.setTop (mkF m 13 #[rv a1, iv 0] [(.int 4), (.int 1)])) t := by
    intro t k
    refine XS.icmpNo X5.here hx rfl (hb hby d25_13) rfl (tlt (by decide : (1 : Int32) < (4 : Int32))).2.1 ?_
    show Steps p.tables e below (T5.setTop (mkF m 16 #[rv a1, iv 0] [])) _
    refine XS.iconst X5.here hx rfl (hb hby d25_16) ?_
    refine XS.goto X5.here hx rfl (pc0 := 17) (pc' := 21) rfl (hb hby d25_17) (by decide) (by decide) ?_
    show Steps p.tables e below (T5.setTop (mkF m 21 #[rv a1, iv 0] [(.int 1)])) _
    exact k
  refine own_lift sg6 ?_
  show own_Go p.tables e below (T5.setTop (mkF m 21 #[rv a1, iv 0] [(.int 1)])) _
  obtain ⟨fs, hr, hrun, hended, hW, hsame⟩ := X5.leave (v := some (.int 1)) (fun h => by rw [Bd.returns] at h; cases h)
  refine ⟨_, _, ?_, hrun, hended, _, _, rfl, ?_, ⟨_, rfl⟩, hW, hsame.mono (by decide) (by decide)⟩
  · exact retN X5 hx (t := .boolean) Bd.returns (by simp) (hb hby d25_21) hr
  · show Q_rmHas1 Z a1 tx va kb b0 b1 b2 b3 cs h0 n0 _ T5.heap _
    rw [e5]
    exact ⟨rfl, N5, rfl⟩
def Q_rmHas2 (Z : State) (a1 : Addr) (tx : Addr) (va : Addr) (kb : ClassId) (b0 : Int32) (b1 : Int32) (b2 : Int32) (b3 : Int32) (cs : Int32) (h0 : Heap) (n0 : Nat) (v : Option Value) (h : Heap) (L : List Loc) : Prop := v = some (.int 1) ∧ Fr n0 L ∧ h = h0
theorem ef_rmHas2 (m : MethodId) (x0 : Addr) (x1 : Int32) : entryFrame m #[(.ref x0), (.int 0)] 2 = mkF m 0 #[.val (.ref x0), .val (.int 0)] [] := by first | (simp [entryFrame, mkF, argsToLocals, Value.category]; done) | rfl
set_option maxRecDepth 65536 in
set_option maxHeartbeats 40000000 in
theorem rmHas2 (l : Launch) (Z : State) (a0 : Array Value) (hw : ∀ d ∈ tables_1, d.before a0 Z = true) (ws : List Jvm.Cond) (a1 : Addr) (tx : Addr) (va : Addr) (kb : ClassId) (b0 : Int32) (b1 : Int32) (b2 : Int32) (b3 : Int32) (cs : Int32) (h0 : Heap) (n0 : Nat) (Z0 : n0 ≤ h0.size) (Fct : Fld Z h0 a1 TC "text" dSx (.ref tx)) (Fco : Fld Z h0 a1 TC "offset" "I" (.int 2)) (Es : Exa Z h0 tx STx) (Fsv : Fld Z h0 tx STx "value" "[B" (.ref va)) (Fsc : Fld Z h0 tx STx "coder" "B" (.int 0)) (Ars : Arv Z h0 va kb .byte (4 : Int32) [(.int b0), (.int b1), (.int b2), (.int b3)] (.int 0)) (Scs : Sta Z h0 STx "COMPACT_STRINGS" "Z" (.int cs)) (P_cs : ¬ (cs = (0 : Int32))) :
    MetFree l (⟨TC, "has", "(I)Z"⟩ : MethodName) (head1 (Jvm.Cond.code (⟨TC, "has", "(I)Z"⟩ : MethodName) prog_63_method_10_code 2 (some .boolean) :: ws) ({ frames := 2, cells := 0, slots := 0, locals := 26 } : Room)) (fun a U => a = #[(.ref a1), (.int 0)] ∧ Z.Warmed39 U.vm ∧ U.heap = h0) (fun _ _ _ _ _ => True) (fun _ U o U' => ∃ v L, o = .returned v ∧ Q_rmHas2 Z a1 tx va kb b0 b1 b2 b3 cs h0 n0 v U'.heap L ∧ FrameEnd U o U' L ({ frames := 2, cells := 0, slots := 0, locals := 26 } : Room).cells ({ frames := 2, cells := 0, slots := 0, locals := 26 } : Room).slots) := by
  refine MetFree.of_bodySF (plainFor_of_name pn_4) hisR ?_
  intro p e s m args below meth c s₁ Bd hml0 hP hK
  obtain ⟨rfl, hZ, hh⟩ := hP
  have hx := Bd.exec
  have hby := Bd.bytes
  have hml : c.maxLocals = 2 := hml0
  have hown : s.vm.findClass TC = some m.cls := findClass_of_methodNamed Bd.named
  have hnm := (name_of_methodNamed Bd.named Bd.method).1
  have X0 : Stand p l e ({ frames := 2, cells := 0, slots := 0, locals := 26 } : Room) s m #[(.ref a1), (.int 0)] below meth c s₁ [] 0 0 := Stand.of_body Bd
  have e0 : s₁.heap = h0 := by rw [← hh, Bd.state]; rfl
  have N0 := Fr.nil n0
  refine own_go (own_lift (fun t k => castTop (ef_rmHas2 m a1 (0 : Int32)) k) ?_)
  show own_Go p.tables e below (s₁.setTop (mkF m 0 #[rv a1, iv 0] [])) _
  have sg1 : ∀ t, Steps p.tables e below (s₁.setTop (mkF m 1 #[rv a1, iv 0] [(.ref a1)])) t → Steps p.tables e below (s₁.setTop (mkF m 0 #[rv a1, iv 0] [])) t := by
    intro t k
    refine XS.aloadN X0.here hx rfl (hb hby d25_0) rfl rfl ?_
    show Steps p.tables e below (s₁.setTop (mkF m 1 #[rv a1, iv 0] [(.ref a1)])) _
    exact k
  refine own_lift sg1 ?_
  show own_Go p.tables e below (s₁.setTop (mkF m 1 #[rv a1, iv 0] [(.ref a1)])) _
  obtain ⟨T2, X2, e2, st2⟩ := getF X0 hx hZ hown (host := "") (Or.inl (wd hw 52 rfl)) Via.refl e0 Fco (g := (mkF m 1 #[rv a1, iv 0] [(.ref a1)])) rfl rfl (hb hby d25_1)
  refine own_lift st2 ?_
  show own_Go p.tables e below (T2.setTop (mkF m 4 #[rv a1, iv 0] [(.int 2)])) _
  have sg3 : ∀ t, Steps p.tables e below (T2.setTop (mkF m 7 #[rv a1, iv 0] [(.ref a1), (.int 2)])) t → Steps p.tables e below (T2.setTop (mkF m 4 #[rv a1, iv 0] [(.int 2)])) t := by
    intro t k
    refine XS.iloadN X2.here hx rfl (hb hby d25_4) rfl ?_
    show Steps p.tables e below (T2.setTop (mkF m 5 #[rv a1, iv 0] [(.int 0), (.int 2)])) _
    refine XS.iadd X2.here hx rfl (hb hby d25_5) rfl ?_
    refine XS.aloadN X2.here hx rfl (hb hby d25_6) rfl rfl ?_
    show Steps p.tables e below (T2.setTop (mkF m 7 #[rv a1, iv 0] [(.ref a1), (.int 2)])) _
    exact k
  refine own_lift sg3 ?_
  show own_Go p.tables e below (T2.setTop (mkF m 7 #[rv a1, iv 0] [(.ref a1), (.int 2)])) _
  obtain ⟨T4, X4, e4, st4⟩ := getF X2 hx hZ hown (host := "") (Or.inl (wd hw 45 rfl)) Via.refl e2 Fct (g := (mkF m 7 #[rv a1, iv 0] [(.ref a1), (.int 2)])) rfl rfl (hb hby d25_7)
  refine own_lift st4 ?_
  show own_Go p.tables e below (T4.setTop (mkF m 10 #[rv a1, iv 0] [(.ref tx), (.int 2)])) _
  obtain ⟨cq5, kq5, q5a, q5b, q5c⟩ := isOf hZ e4 Es
  obtain ⟨_, _, ⟨T5, Lx5, kx5, nx5⟩, -, X5, ⟨Lc5, hQ5, lx5, yx5, zx5⟩, st5⟩ := X4.virtualBack hx (y := (⟨STx, "length", "()I"⟩ : MethodName)) (z := (⟨STx, "length", "()I"⟩ : MethodName)) hown (mvT hZ (wd hw 113 rfl)) (mvT hZ (wd hw 65 rfl)) (notFace_of_selects (args := #[]) (mvT hZ (wd hw 67 rfl))) (mvT hZ (wd hw 67 rfl)) (mvT hZ (wd hw 66 rfl)) (by decide) (backOf (W := 1) (rmLen l Z a0 hw [] tx va kb b0 b1 b2 b3 cs h0 n0 Z0 Es Fsv Fsc Ars Scs P_cs) hZ (wd hw 68 rfl) (wd hw 10 rfl) (by decide) (by decide)) q5a q5c (g := (mkF m 10 #[rv a1, iv 0] [(.ref tx), (.int 2)])) rfl (by rw [hml]; rfl) (Steps.refl _) (argsL := []) (rest := [(.int 2)]) (lenOf pd_5 rfl) rfl (by show 2 * 0 + _ ≤ _; exact Nat.le_of_eq rfl) (hb hby d25_10) (fun _ _ => ⟨rfl, e4, (by decide : 0 + 0 ≤ _), (by decide : 0 + 0 ≤ _)⟩)
  dsimp only [Pt.U, Pt.locs, Pt.cells, Pt.slots] at X5 lx5 yx5 zx5 st5 hQ5
  subst lx5 yx5 zx5
  obtain ⟨rfl, N5q, e5⟩ := hQ5
  have N5 := Fr.app N0 N5q
  refine own_lift (fun t k => st5.trans k) ?_
  show own_Go p.tables e below (T5.setTop (mkF m 13 #[rv a1, iv 0] [(.int 4), (.int 2)])) _
  have sg6 : ∀ t, Steps p.tables e below (T5.setTop (mkF m 21 #[rv a1, iv 0] [(.int 1)])) t → Steps p.tables e below (T5.setTop (mkF m 13 #[rv a1, iv 0] [(.int 4), (.int 2)])) t := by
    intro t k
    refine XS.icmpNo X5.here hx rfl (hb hby d25_13) rfl (tlt (by decide : (2 : Int32) < (4 : Int32))).2.1 ?_
    show Steps p.tables e below (T5.setTop (mkF m 16 #[rv a1, iv 0] [])) _
    refine XS.iconst X5.here hx rfl (hb hby d25_16) ?_
    refine XS.goto X5.here hx rfl (pc0 := 17) (pc' := 21) rfl (hb hby d25_17) (by decide) (by decide) ?_
    show Steps p.tables e below (T5.setTop (mkF m 21 #[rv a1, iv 0] [(.int 1)])) _
    exact k
  refine own_lift sg6 ?_
  show own_Go p.tables e below (T5.setTop (mkF m 21 #[rv a1, iv 0] [(.int 1)])) _
  obtain ⟨fs, hr, hrun, hended, hW, hsame⟩ := X5.leave (v := some (.int 1)) (fun h => by rw [Bd.returns] at h; cases h)
  refine ⟨_, _, ?_, hrun, hended, _, _, rfl, ?_, ⟨_, rfl⟩, hW, hsame.mono (by decide) (by decide)⟩
  · exact retN X5 hx (t := .boolean) Bd.returns (by simp) (hb hby d25_21) hr
  · show Q_rmHas2 Z a1 tx va kb b0 b1 b2 b3 cs h0 n0 _ T5.heap _
    rw [e5]
    exact ⟨rfl, N5, rfl⟩
def Q_rmHas3 (Z : State) (a1 : Addr) (tx : Addr) (va : Addr) (kb : ClassId) (b0 : Int32) (b1 : Int32) (b2 : Int32) (b3 : Int32) (cs : Int32) (h0 : Heap) (n0 : Nat) (v : Option Value) (h : Heap) (L : List Loc) : Prop := v = some (.int 1) ∧ Fr n0 L ∧ h = h0
theorem ef_rmHas3 (m : MethodId) (x0 : Addr) (x1 : Int32) : entryFrame m #[(.ref x0), (.int 0)] 2 = mkF m 0 #[.val (.ref x0), .val (.int 0)] [] := by first | (simp [entryFrame, mkF, argsToLocals, Value.category]; done) | rfl
set_option maxRecDepth 65536 in
set_option maxHeartbeats 40000000 in
theorem rmHas3 (l : Launch) (Z : State) (a0 : Array Value) (hw : ∀ d ∈ tables_1, d.before a0 Z = true) (ws : List Jvm.Cond) (a1 : Addr) (tx : Addr) (va : Addr) (kb : ClassId) (b0 : Int32) (b1 : Int32) (b2 : Int32) (b3 : Int32) (cs : Int32) (h0 : Heap) (n0 : Nat) (Z0 : n0 ≤ h0.size) (Fct : Fld Z h0 a1 TC "text" dSx (.ref tx)) (Fco : Fld Z h0 a1 TC "offset" "I" (.int 3)) (Es : Exa Z h0 tx STx) (Fsv : Fld Z h0 tx STx "value" "[B" (.ref va)) (Fsc : Fld Z h0 tx STx "coder" "B" (.int 0)) (Ars : Arv Z h0 va kb .byte (4 : Int32) [(.int b0), (.int b1), (.int b2), (.int b3)] (.int 0)) (Scs : Sta Z h0 STx "COMPACT_STRINGS" "Z" (.int cs)) (P_cs : ¬ (cs = (0 : Int32))) :
    MetFree l (⟨TC, "has", "(I)Z"⟩ : MethodName) (head1 (Jvm.Cond.code (⟨TC, "has", "(I)Z"⟩ : MethodName) prog_63_method_10_code 2 (some .boolean) :: ws) ({ frames := 2, cells := 0, slots := 0, locals := 26 } : Room)) (fun a U => a = #[(.ref a1), (.int 0)] ∧ Z.Warmed39 U.vm ∧ U.heap = h0) (fun _ _ _ _ _ => True) (fun _ U o U' => ∃ v L, o = .returned v ∧ Q_rmHas3 Z a1 tx va kb b0 b1 b2 b3 cs h0 n0 v U'.heap L ∧ FrameEnd U o U' L ({ frames := 2, cells := 0, slots := 0, locals := 26 } : Room).cells ({ frames := 2, cells := 0, slots := 0, locals := 26 } : Room).slots) := by
  refine MetFree.of_bodySF (plainFor_of_name pn_4) hisR ?_
  intro p e s m args below meth c s₁ Bd hml0 hP hK
  obtain ⟨rfl, hZ, hh⟩ := hP
  have hx := Bd.exec
  have hby := Bd.bytes
  have hml : c.maxLocals = 2 := hml0
  have hown : s.vm.findClass TC = some m.cls := findClass_of_methodNamed Bd.named
  have hnm := (name_of_methodNamed Bd.named Bd.method).1
  have X0 : Stand p l e ({ frames := 2, cells := 0, slots := 0, locals := 26 } : Room) s m #[(.ref a1), (.int 0)] below meth c s₁ [] 0 0 := Stand.of_body Bd
  have e0 : s₁.heap = h0 := by rw [← hh, Bd.state]; rfl
  have N0 := Fr.nil n0
  refine own_go (own_lift (fun t k => castTop (ef_rmHas3 m a1 (0 : Int32)) k) ?_)
  show own_Go p.tables e below (s₁.setTop (mkF m 0 #[rv a1, iv 0] [])) _
  have sg1 : ∀ t, Steps p.tables e below (s₁.setTop (mkF m 1 #[rv a1, iv 0] [(.ref a1)])) t → Steps p.tables e below (s₁.setTop (mkF m 0 #[rv a1, iv 0] [])) t := by
    intro t k
    refine XS.aloadN X0.here hx rfl (hb hby d25_0) rfl rfl ?_
    show Steps p.tables e below (s₁.setTop (mkF m 1 #[rv a1, iv 0] [(.ref a1)])) _
    exact k
  refine own_lift sg1 ?_
  show own_Go p.tables e below (s₁.setTop (mkF m 1 #[rv a1, iv 0] [(.ref a1)])) _
  obtain ⟨T2, X2, e2, st2⟩ := getF X0 hx hZ hown (host := "") (Or.inl (wd hw 52 rfl)) Via.refl e0 Fco (g := (mkF m 1 #[rv a1, iv 0] [(.ref a1)])) rfl rfl (hb hby d25_1)
  refine own_lift st2 ?_
  show own_Go p.tables e below (T2.setTop (mkF m 4 #[rv a1, iv 0] [(.int 3)])) _
  have sg3 : ∀ t, Steps p.tables e below (T2.setTop (mkF m 7 #[rv a1, iv 0] [(.ref a1), (.int 3)])) t → Steps p.tables e below (T2.setTop (mkF m 4 #[rv a1, iv 0] [(.int 3)])) t := by
    intro t k
    refine XS.iloadN X2.here hx rfl (hb hby d25_4) rfl ?_
    show Steps p.tables e below (T2.setTop (mkF m 5 #[rv a1, iv 0] [(.int 0), (.int 3)])) _
    refine XS.iadd X2.here hx rfl (hb hby d25_5) rfl ?_
    refine XS.aloadN X2.here hx rfl (hb hby d25_6) rfl rfl ?_
    show Steps p.tables e below (T2.setTop (mkF m 7 #[rv a1, iv 0] [(.ref a1), (.int 3)])) _
    exact k
  refine own_lift sg3 ?_
  show own_Go p.tables e below (T2.setTop (mkF m 7 #[rv a1, iv 0] [(.ref a1), (.int 3)])) _
  obtain ⟨T4, X4, e4, st4⟩ := getF X2 hx hZ hown (host := "") (Or.inl (wd hw 45 rfl)) Via.refl e2 Fct (g := (mkF m 7 #[rv a1, iv 0] [(.ref a1), (.int 3)])) rfl rfl (hb hby d25_7)
  refine own_lift st4 ?_
  show own_Go p.tables e below (T4.setTop (mkF m 10 #[rv a1, iv 0] [(.ref tx), (.int 3)])) _
  obtain ⟨cq5, kq5, q5a, q5b, q5c⟩ := isOf hZ e4 Es
  obtain ⟨_, _, ⟨T5, Lx5, kx5, nx5⟩, -, X5, ⟨Lc5, hQ5, lx5, yx5, zx5⟩, st5⟩ := X4.virtualBack hx (y := (⟨STx, "length", "()I"⟩ : MethodName)) (z := (⟨STx, "length", "()I"⟩ : MethodName)) hown (mvT hZ (wd hw 113 rfl)) (mvT hZ (wd hw 65 rfl)) (notFace_of_selects (args := #[]) (mvT hZ (wd hw 67 rfl))) (mvT hZ (wd hw 67 rfl)) (mvT hZ (wd hw 66 rfl)) (by decide) (backOf (W := 1) (rmLen l Z a0 hw [] tx va kb b0 b1 b2 b3 cs h0 n0 Z0 Es Fsv Fsc Ars Scs P_cs) hZ (wd hw 68 rfl) (wd hw 10 rfl) (by decide) (by decide)) q5a q5c (g := (mkF m 10 #[rv a1, iv 0] [(.ref tx), (.int 3)])) rfl (by rw [hml]; rfl) (Steps.refl _) (argsL := []) (rest := [(.int 3)]) (lenOf pd_5 rfl) rfl (by show 2 * 0 + _ ≤ _; exact Nat.le_of_eq rfl) (hb hby d25_10) (fun _ _ => ⟨rfl, e4, (by decide : 0 + 0 ≤ _), (by decide : 0 + 0 ≤ _)⟩)
  dsimp only [Pt.U, Pt.locs, Pt.cells, Pt.slots] at X5 lx5 yx5 zx5 st5 hQ5
  subst lx5 yx5 zx5
  obtain ⟨rfl, N5q, e5⟩ := hQ5
  have N5 := Fr.app N0 N5q
  refine own_lift (fun t k => st5.trans k) ?_
  show own_Go p.tables e below (T5.setTop (mkF m 13 #[rv a1, iv 0] [(.int 4), (.int 3)])) _
  have sg6 : ∀ t, Steps p.tables e below (T5.setTop (mkF m 21 #[rv a1, iv 0] [(.int 1)])) t → Steps p.tables e below (T5.setTop (mkF m 13 #[rv a1, iv 0] [(.int 4), (.int 3)])) t := by
    intro t k
    refine XS.icmpNo X5.here hx rfl (hb hby d25_13) rfl (tlt (by decide : (3 : Int32) < (4 : Int32))).2.1 ?_
    show Steps p.tables e below (T5.setTop (mkF m 16 #[rv a1, iv 0] [])) _
    refine XS.iconst X5.here hx rfl (hb hby d25_16) ?_
    refine XS.goto X5.here hx rfl (pc0 := 17) (pc' := 21) rfl (hb hby d25_17) (by decide) (by decide) ?_
    show Steps p.tables e below (T5.setTop (mkF m 21 #[rv a1, iv 0] [(.int 1)])) _
    exact k
  refine own_lift sg6 ?_
  show own_Go p.tables e below (T5.setTop (mkF m 21 #[rv a1, iv 0] [(.int 1)])) _
  obtain ⟨fs, hr, hrun, hended, hW, hsame⟩ := X5.leave (v := some (.int 1)) (fun h => by rw [Bd.returns] at h; cases h)
  refine ⟨_, _, ?_, hrun, hended, _, _, rfl, ?_, ⟨_, rfl⟩, hW, hsame.mono (by decide) (by decide)⟩
  · exact retN X5 hx (t := .boolean) Bd.returns (by simp) (hb hby d25_21) hr
  · show Q_rmHas3 Z a1 tx va kb b0 b1 b2 b3 cs h0 n0 _ T5.heap _
    rw [e5]
    exact ⟨rfl, N5, rfl⟩
theorem d25_20 : decode prog_63_method_10_code 20 = .ok (.iconst 0, 1) := by decide +kernel
def Q_rmHas4 (Z : State) (a1 : Addr) (tx : Addr) (va : Addr) (kb : ClassId) (b0 : Int32) (b1 : Int32) (b2 : Int32) (b3 : Int32) (cs : Int32) (h0 : Heap) (n0 : Nat) (v : Option Value) (h : Heap) (L : List Loc) : Prop := v = some (.int 0) ∧ Fr n0 L ∧ h = h0
theorem ef_rmHas4 (m : MethodId) (x0 : Addr) (x1 : Int32) : entryFrame m #[(.ref x0), (.int 0)] 2 = mkF m 0 #[.val (.ref x0), .val (.int 0)] [] := by first | (simp [entryFrame, mkF, argsToLocals, Value.category]; done) | rfl
set_option maxRecDepth 65536 in
set_option maxHeartbeats 40000000 in
theorem rmHas4 (l : Launch) (Z : State) (a0 : Array Value) (hw : ∀ d ∈ tables_1, d.before a0 Z = true) (ws : List Jvm.Cond) (a1 : Addr) (tx : Addr) (va : Addr) (kb : ClassId) (b0 : Int32) (b1 : Int32) (b2 : Int32) (b3 : Int32) (cs : Int32) (h0 : Heap) (n0 : Nat) (Z0 : n0 ≤ h0.size) (Fct : Fld Z h0 a1 TC "text" dSx (.ref tx)) (Fco : Fld Z h0 a1 TC "offset" "I" (.int 4)) (Es : Exa Z h0 tx STx) (Fsv : Fld Z h0 tx STx "value" "[B" (.ref va)) (Fsc : Fld Z h0 tx STx "coder" "B" (.int 0)) (Ars : Arv Z h0 va kb .byte (4 : Int32) [(.int b0), (.int b1), (.int b2), (.int b3)] (.int 0)) (Scs : Sta Z h0 STx "COMPACT_STRINGS" "Z" (.int cs)) (P_cs : ¬ (cs = (0 : Int32))) :
    MetFree l (⟨TC, "has", "(I)Z"⟩ : MethodName) (head1 (Jvm.Cond.code (⟨TC, "has", "(I)Z"⟩ : MethodName) prog_63_method_10_code 2 (some .boolean) :: ws) ({ frames := 2, cells := 0, slots := 0, locals := 26 } : Room)) (fun a U => a = #[(.ref a1), (.int 0)] ∧ Z.Warmed39 U.vm ∧ U.heap = h0) (fun _ _ _ _ _ => True) (fun _ U o U' => ∃ v L, o = .returned v ∧ Q_rmHas4 Z a1 tx va kb b0 b1 b2 b3 cs h0 n0 v U'.heap L ∧ FrameEnd U o U' L ({ frames := 2, cells := 0, slots := 0, locals := 26 } : Room).cells ({ frames := 2, cells := 0, slots := 0, locals := 26 } : Room).slots) := by
  refine MetFree.of_bodySF (plainFor_of_name pn_4) hisR ?_
  intro p e s m args below meth c s₁ Bd hml0 hP hK
  obtain ⟨rfl, hZ, hh⟩ := hP
  have hx := Bd.exec
  have hby := Bd.bytes
  have hml : c.maxLocals = 2 := hml0
  have hown : s.vm.findClass TC = some m.cls := findClass_of_methodNamed Bd.named
  have hnm := (name_of_methodNamed Bd.named Bd.method).1
  have X0 : Stand p l e ({ frames := 2, cells := 0, slots := 0, locals := 26 } : Room) s m #[(.ref a1), (.int 0)] below meth c s₁ [] 0 0 := Stand.of_body Bd
  have e0 : s₁.heap = h0 := by rw [← hh, Bd.state]; rfl
  have N0 := Fr.nil n0
  refine own_go (own_lift (fun t k => castTop (ef_rmHas4 m a1 (0 : Int32)) k) ?_)
  show own_Go p.tables e below (s₁.setTop (mkF m 0 #[rv a1, iv 0] [])) _
  have sg1 : ∀ t, Steps p.tables e below (s₁.setTop (mkF m 1 #[rv a1, iv 0] [(.ref a1)])) t → Steps p.tables e below (s₁.setTop (mkF m 0 #[rv a1, iv 0] [])) t := by
    intro t k
    refine XS.aloadN X0.here hx rfl (hb hby d25_0) rfl rfl ?_
    show Steps p.tables e below (s₁.setTop (mkF m 1 #[rv a1, iv 0] [(.ref a1)])) _
    exact k
  refine own_lift sg1 ?_
  show own_Go p.tables e below (s₁.setTop (mkF m 1 #[rv a1, iv 0] [(.ref a1)])) _
  obtain ⟨T2, X2, e2, st2⟩ := getF X0 hx hZ hown (host := "") (Or.inl (wd hw 52 rfl)) Via.refl e0 Fco (g := (mkF m 1 #[rv a1, iv 0] [(.ref a1)])) rfl rfl (hb hby d25_1)
  refine own_lift st2 ?_
  show own_Go p.tables e below (T2.setTop (mkF m 4 #[rv a1, iv 0] [(.int 4)])) _
  have sg3 : ∀ t, Steps p.tables e below (T2.setTop (mkF m 7 #[rv a1, iv 0] [(.ref a1), (.int 4)])) t → Steps p.tables e below (T2.setTop (mkF m 4 #[rv a1, iv 0] [(.int 4)])) t := by
    intro t k
    refine XS.iloadN X2.here hx rfl (hb hby d25_4) rfl ?_
    show Steps p.tables e below (T2.setTop (mkF m 5 #[rv a1, iv 0] [(.int 0), (.int 4)])) _
    refine XS.iadd X2.here hx rfl (hb hby d25_5) rfl ?_
    refine XS.aloadN X2.here hx rfl (hb hby d25_6) rfl rfl ?_
    show Steps p.tables e below (T2.setTop (mkF m 7 #[rv a1, iv 0] [(.ref a1), (.int 4)])) _
    exact k
  refine own_lift sg3 ?_
  show own_Go p.tables e below (T2.setTop (mkF m 7 #[rv a1, iv 0] [(.ref a1), (.int 4)])) _
  obtain ⟨T4, X4, e4, st4⟩ := getF X2 hx hZ hown (host := "") (Or.inl (wd hw 45 rfl)) Via.refl e2 Fct (g := (mkF m 7 #[rv a1, iv 0] [(.ref a1), (.int 4)])) rfl rfl (hb hby d25_7)
  refine own_lift st4 ?_
  show own_Go p.tables e below (T4.setTop (mkF m 10 #[rv a1, iv 0] [(.ref tx), (.int 4)])) _
  obtain ⟨cq5, kq5, q5a, q5b, q5c⟩ := isOf hZ e4 Es
  obtain ⟨_, _, ⟨T5, Lx5, kx5, nx5⟩, -, X5, ⟨Lc5, hQ5, lx5, yx5, zx5⟩, st5⟩ := X4.virtualBack hx (y := (⟨STx, "length", "()I"⟩ : MethodName)) (z := (⟨STx, "length", "()I"⟩ : MethodName)) hown (mvT hZ (wd hw 113 rfl)) (mvT hZ (wd hw 65 rfl)) (notFace_of_selects (args := #[]) (mvT hZ (wd hw 67 rfl))) (mvT hZ (wd hw 67 rfl)) (mvT hZ (wd hw 66 rfl)) (by decide) (backOf (W := 1) (rmLen l Z a0 hw [] tx va kb b0 b1 b2 b3 cs h0 n0 Z0 Es Fsv Fsc Ars Scs P_cs) hZ (wd hw 68 rfl) (wd hw 10 rfl) (by decide) (by decide)) q5a q5c (g := (mkF m 10 #[rv a1, iv 0] [(.ref tx), (.int 4)])) rfl (by rw [hml]; rfl) (Steps.refl _) (argsL := []) (rest := [(.int 4)]) (lenOf pd_5 rfl) rfl (by show 2 * 0 + _ ≤ _; exact Nat.le_of_eq rfl) (hb hby d25_10) (fun _ _ => ⟨rfl, e4, (by decide : 0 + 0 ≤ _), (by decide : 0 + 0 ≤ _)⟩)
  dsimp only [Pt.U, Pt.locs, Pt.cells, Pt.slots] at X5 lx5 yx5 zx5 st5 hQ5
  subst lx5 yx5 zx5
  obtain ⟨rfl, N5q, e5⟩ := hQ5
  have N5 := Fr.app N0 N5q
  refine own_lift (fun t k => st5.trans k) ?_
  show own_Go p.tables e below (T5.setTop (mkF m 13 #[rv a1, iv 0] [(.int 4), (.int 4)])) _
  have sg6 : ∀ t, Steps p.tables e below (T5.setTop (mkF m 21 #[rv a1, iv 0] [(.int 0)])) t → Steps p.tables e below (T5.setTop (mkF m 13 #[rv a1, iv 0] [(.int 4), (.int 4)])) t := by
    intro t k
    refine XS.icmpYes X5.here hx rfl (pc0 := 13) (pc' := 20) rfl (hb hby d25_13) rfl (flt (by decide : ¬ ((4 : Int32) < (4 : Int32)))).2.1 (by decide) (by decide) ?_
    show Steps p.tables e below (T5.setTop (mkF m 20 #[rv a1, iv 0] [])) _
    refine XS.iconst X5.here hx rfl (hb hby d25_20) ?_
    show Steps p.tables e below (T5.setTop (mkF m 21 #[rv a1, iv 0] [(.int 0)])) _
    exact k
  refine own_lift sg6 ?_
  show own_Go p.tables e below (T5.setTop (mkF m 21 #[rv a1, iv 0] [(.int 0)])) _
  obtain ⟨fs, hr, hrun, hended, hW, hsame⟩ := X5.leave (v := some (.int 0)) (fun h => by rw [Bd.returns] at h; cases h)
  refine ⟨_, _, ?_, hrun, hended, _, _, rfl, ?_, ⟨_, rfl⟩, hW, hsame.mono (by decide) (by decide)⟩
  · exact retN X5 hx (t := .boolean) Bd.returns (by simp) (hb hby d25_21) hr
  · show Q_rmHas4 Z a1 tx va kb b0 b1 b2 b3 cs h0 n0 _ T5.heap _
    rw [e5]
    exact ⟨rfl, N5, rfl⟩
theorem pn_5 : plainName LW = true := by first | (simp [plainName, overriddenIn]; done) | decide +kernel
theorem d26_0 : decode method_3_code 0 = .ok (.aload_n 0, 1) := by decide +kernel
theorem d26_1 : decode method_3_code 1 = .ok (.invokevirtual 7, 3) := by decide +kernel
theorem d26_4 : decode method_3_code 4 = .ok (.iload_n 1, 1) := by decide +kernel
theorem d26_5 : decode method_3_code 5 = .ok (.if_icmp .ne 11, 3) := by decide +kernel
theorem d26_8 : decode method_3_code 8 = .ok (.aload_n 0, 1) := by decide +kernel
theorem d26_9 : decode method_3_code 9 = .ok (.invokevirtual 13, 3) := by decide +kernel
theorem d26_12 : decode method_3_code 12 = .ok (.iconst 1, 1) := by decide +kernel
theorem d26_13 : decode method_3_code 13 = .ok (.if_icmp .eq 5, 3) := by decide +kernel
theorem d26_18 : decode method_3_code 18 = .ok (.iload_n 3, 1) := by decide +kernel
theorem d26_19 : decode method_3_code 19 = .ok (.iconst 4, 1) := by decide +kernel
theorem d26_20 : decode method_3_code 20 = .ok (.if_icmp .lt 17, 3) := by decide +kernel
theorem d26_37 : decode method_3_code 37 = .ok (.aload_n 0, 1) := by decide +kernel
theorem d26_38 : decode method_3_code 38 = .ok (.iconst 0, 1) := by decide +kernel
theorem d26_39 : decode method_3_code 39 = .ok (.invokevirtual 16, 3) := by decide +kernel
theorem d26_42 : decode method_3_code 42 = .ok (.ifCond .eq 18, 3) := by decide +kernel
theorem d26_45 : decode method_3_code 45 = .ok (.aload_n 0, 1) := by decide +kernel
theorem d26_46 : decode method_3_code 46 = .ok (.iconst 0, 1) := by decide +kernel
theorem d26_47 : decode method_3_code 47 = .ok (.invokevirtual 20, 3) := by decide +kernel
theorem d26_50 : decode method_3_code 50 = .ok (.aload_n 2, 1) := by decide +kernel
theorem d26_51 : decode method_3_code 51 = .ok (.iload_n 3, 1) := by decide +kernel
theorem d26_52 : decode method_3_code 52 = .ok (.caload, 1) := by decide +kernel
theorem d26_53 : decode method_3_code 53 = .ok (.if_icmp .ne 7, 3) := by decide +kernel
theorem d26_56 : decode method_3_code 56 = .ok (.iconst 1, 1) := by decide +kernel
theorem d26_57 : decode method_3_code 57 = .ok (.goto 4, 3) := by decide +kernel
theorem d26_61 : decode method_3_code 61 = .ok (.ireturn, 1) := by decide +kernel
def Q_rmAt21 (Z : State) (a1 : Addr) (ar : Addr) (tx : Addr) (va : Addr) (kb : ClassId) (b0 : Int32) (b1 : Int32) (b2 : Int32) (b3 : Int32) (cs : Int32) (fv : Value) (kc : ClassId) (c0 : Int32) (c1 : Int32) (c2 : Int32) (c3 : Int32) (h0 : Heap) (n0 : Nat) (v : Option Value) (h : Heap) (L : List Loc) : Prop := v = some (.int 1) ∧ Fr n0 L ∧ h = h0
theorem ef_rmAt21 (m : MethodId) (x0 : Addr) (x1 : Int32) (x2 : Addr) (x3 : Int32) : entryFrame m #[(.ref x0), (.int 2), (.ref x2), (.int 1)] 4 = mkF m 0 #[.val (.ref x0), .val (.int 2), .val (.ref x2), .val (.int 1)] [] := by first | (simp [entryFrame, mkF, argsToLocals, Value.category]; done) | rfl
set_option maxRecDepth 65536 in
set_option maxHeartbeats 40000000 in
theorem rmAt21 (l : Launch) (Z : State) (a0 : Array Value) (hw : ∀ d ∈ tables_1, d.before a0 Z = true) (ws : List Jvm.Cond) (a1 : Addr) (ar : Addr) (tx : Addr) (va : Addr) (kb : ClassId) (b0 : Int32) (b1 : Int32) (b2 : Int32) (b3 : Int32) (cs : Int32) (fv : Value) (kc : ClassId) (c0 : Int32) (c1 : Int32) (c2 : Int32) (c3 : Int32) (h0 : Heap) (n0 : Nat) (Z0 : n0 ≤ h0.size) (Ec : Exa Z h0 a1 TC) (Fct : Fld Z h0 a1 TC "text" dSx (.ref tx)) (Fco : Fld Z h0 a1 TC "offset" "I" (.int 1)) (Fcc : Fld Z h0 a1 TC "column" "I" (.int 1)) (Fcl : Fld Z h0 a1 TC "line" "I" (.int 2)) (Es : Exa Z h0 tx STx) (Fsv : Fld Z h0 tx STx "value" "[B" (.ref va)) (Fsc : Fld Z h0 tx STx "coder" "B" (.int 0)) (Ars : Arv Z h0 va kb .byte (4 : Int32) [(.int b0), (.int b1), (.int b2), (.int b3)] (.int 0)) (Scs : Sta Z h0 STx "COMPACT_STRINGS" "Z" (.int cs)) (Sfm : Sta Z h0 PCx "SIOOBE_FORMATTER" BFx fv) (Arc : Arv Z h0 ar kc .char (4 : Int32) [(.int c0), (.int c1), (.int c2), (.int c3)] (.int 0)) (P_cs : ¬ (cs = (0 : Int32))) (P_fv : fv.isRef = true) (d : (own_c8 b1) = c1) :
    MetFree l (⟨LW, "at", "(Lcom/example/libprocgraph/libprocgraph/reader/TextCursor;I[CI)Z"⟩ : MethodName) (head1 (Jvm.Cond.code (⟨LW, "at", "(Lcom/example/libprocgraph/libprocgraph/reader/TextCursor;I[CI)Z"⟩ : MethodName) method_3_code 4 (some .boolean) :: ws) ({ frames := 5, cells := 0, slots := 0, locals := 66 } : Room)) (fun a U => a = #[(.ref a1), (.int 2), (.ref ar), (.int 1)] ∧ Z.Warmed39 U.vm ∧ U.heap = h0) (fun _ _ _ _ _ => True) (fun _ U o U' => ∃ v L, o = .returned v ∧ Q_rmAt21 Z a1 ar tx va kb b0 b1 b2 b3 cs fv kc c0 c1 c2 c3 h0 n0 v U'.heap L ∧ FrameEnd U o U' L ({ frames := 5, cells := 0, slots := 0, locals := 66 } : Room).cells ({ frames := 5, cells := 0, slots := 0, locals := 66 } : Room).slots) := by
  refine MetFree.of_bodySF (plainFor_of_name pn_5) hisR ?_
  intro p e s m args below meth c s₁ Bd hml0 hP hK
  obtain ⟨rfl, hZ, hh⟩ := hP
  have hx := Bd.exec
  have hby := Bd.bytes
  have hml : c.maxLocals = 4 := hml0
  have hown : s.vm.findClass LW = some m.cls := findClass_of_methodNamed Bd.named
  have hnm := (name_of_methodNamed Bd.named Bd.method).1
  have X0 : Stand p l e ({ frames := 5, cells := 0, slots := 0, locals := 66 } : Room) s m #[(.ref a1), (.int 2), (.ref ar), (.int 1)] below meth c s₁ [] 0 0 := Stand.of_body Bd
  have e0 : s₁.heap = h0 := by rw [← hh, Bd.state]; rfl
  have N0 := Fr.nil n0
  refine own_go (own_lift (fun t k => castTop (ef_rmAt21 m a1 (2 : Int32) ar (1 : Int32)) k) ?_)
  show own_Go p.tables e below (s₁.setTop (mkF m 0 #[rv a1, iv 2, rv ar, iv 1] [])) _
  have sg1 : ∀ t, Steps p.tables e below (s₁.setTop (mkF m 1 #[rv a1, iv 2, rv ar, iv 1] [(.ref a1)])) t → Steps p.tables e below (s₁.setTop (mkF m 0 #[rv a1, iv 2, rv ar, iv 1] [])) t := by
    intro t k
    refine XS.aloadN X0.here hx rfl (hb hby d26_0) rfl rfl ?_
    show Steps p.tables e below (s₁.setTop (mkF m 1 #[rv a1, iv 2, rv ar, iv 1] [(.ref a1)])) _
    exact k
  refine own_lift sg1 ?_
  show own_Go p.tables e below (s₁.setTop (mkF m 1 #[rv a1, iv 2, rv ar, iv 1] [(.ref a1)])) _
  obtain ⟨cq2, kq2, q2a, q2b, q2c⟩ := isOf hZ e0 Ec
  obtain ⟨_, _, ⟨T2, Lx2, kx2, nx2⟩, -, X2, ⟨Lc2, hQ2, lx2, yx2, zx2⟩, st2⟩ := X0.virtualBack hx (y := (⟨TC, "line", "()I"⟩ : MethodName)) (z := (⟨TC, "line", "()I"⟩ : MethodName)) hown (mvT hZ (wd hw 129 rfl)) (mvT hZ (wd hw 130 rfl)) (notFace_of_selects (args := #[]) (mvT hZ (wd hw 132 rfl))) (mvT hZ (wd hw 132 rfl)) (mvT hZ (wd hw 131 rfl)) (by decide) (backOf (W := 0) (rmLine l Z a0 hw [] a1 (2 : Int32) h0 n0 Z0 Fcl) hZ (wd hw 133 rfl) (wd hw 7 rfl) (by decide) (by decide)) q2a q2c (g := (mkF m 1 #[rv a1, iv 2, rv ar, iv 1] [(.ref a1)])) rfl (by rw [hml]; rfl) (Steps.refl _) (argsL := []) (rest := []) (lenOf pd_5 rfl) rfl (by show 2 * 0 + _ ≤ _; exact Nat.le_of_eq rfl) (hb hby d26_1) (fun _ _ => ⟨rfl, e0, (by decide : 0 + 0 ≤ _), (by decide : 0 + 0 ≤ _)⟩)
  dsimp only [Pt.U, Pt.locs, Pt.cells, Pt.slots] at X2 lx2 yx2 zx2 st2 hQ2
  subst lx2 yx2 zx2
  obtain ⟨rfl, N2q, e2⟩ := hQ2
  have N2 := Fr.app N0 N2q
  refine own_lift (fun t k => st2.trans k) ?_
  show own_Go p.tables e below (T2.setTop (mkF m 4 #[rv a1, iv 2, rv ar, iv 1] [(.int 2)])) _
  have sg3 : ∀ t, Steps p.tables e below (T2.setTop (mkF m 9 #[rv a1, iv 2, rv ar, iv 1] [(.ref a1)])) t → Steps p.tables e below (T2.setTop (mkF m 4 #[rv a1, iv 2, rv ar, iv 1] [(.int 2)])) t := by
    intro t k
    refine XS.iloadN X2.here hx rfl (hb hby d26_4) rfl ?_
    show Steps p.tables e below (T2.setTop (mkF m 5 #[rv a1, iv 2, rv ar, iv 1] [(.int 2), (.int 2)])) _
    refine XS.icmpNo X2.here hx rfl (hb hby d26_5) rfl (teq (by decide : (2 : Int32) = (2 : Int32))).2 ?_
    refine XS.aloadN X2.here hx rfl (hb hby d26_8) rfl rfl ?_
    show Steps p.tables e below (T2.setTop (mkF m 9 #[rv a1, iv 2, rv ar, iv 1] [(.ref a1)])) _
    exact k
  refine own_lift sg3 ?_
  show own_Go p.tables e below (T2.setTop (mkF m 9 #[rv a1, iv 2, rv ar, iv 1] [(.ref a1)])) _
  obtain ⟨cq4, kq4, q4a, q4b, q4c⟩ := isOf hZ e2 Ec
  obtain ⟨_, _, ⟨T4, Lx4, kx4, nx4⟩, -, X4, ⟨Lc4, hQ4, lx4, yx4, zx4⟩, st4⟩ := X2.virtualBack hx (y := (⟨TC, "column", "()I"⟩ : MethodName)) (z := (⟨TC, "column", "()I"⟩ : MethodName)) hown (mvT hZ (wd hw 134 rfl)) (mvT hZ (wd hw 135 rfl)) (notFace_of_selects (args := #[]) (mvT hZ (wd hw 137 rfl))) (mvT hZ (wd hw 137 rfl)) (mvT hZ (wd hw 136 rfl)) (by decide) (backOf (W := 0) (rmCol l Z a0 hw [] a1 (1 : Int32) h0 n0 Z0 Fcc) hZ (wd hw 138 rfl) (wd hw 7 rfl) (by decide) (by decide)) q4a q4c (g := (mkF m 9 #[rv a1, iv 2, rv ar, iv 1] [(.ref a1)])) rfl (by rw [hml]; rfl) (Steps.refl _) (argsL := []) (rest := []) (lenOf pd_5 rfl) rfl (by show 2 * 0 + _ ≤ _; exact Nat.le_of_eq rfl) (hb hby d26_9) (fun _ _ => ⟨rfl, e2, (by decide : 0 + 0 ≤ _), (by decide : 0 + 0 ≤ _)⟩)
  dsimp only [Pt.U, Pt.locs, Pt.cells, Pt.slots] at X4 lx4 yx4 zx4 st4 hQ4
  subst lx4 yx4 zx4
  obtain ⟨rfl, N4q, e4⟩ := hQ4
  have N4 := Fr.app N2 N4q
  refine own_lift (fun t k => st4.trans k) ?_
  show own_Go p.tables e below (T4.setTop (mkF m 12 #[rv a1, iv 2, rv ar, iv 1] [(.int 1)])) _
  have sg5 : ∀ t, Steps p.tables e below (T4.setTop (mkF m 39 #[rv a1, iv 2, rv ar, iv 1] [(.int 0), (.ref a1)])) t → Steps p.tables e below (T4.setTop (mkF m 12 #[rv a1, iv 2, rv ar, iv 1] [(.int 1)])) t := by
    intro t k
    refine XS.iconst X4.here hx rfl (hb hby d26_12) ?_
    show Steps p.tables e below (T4.setTop (mkF m 13 #[rv a1, iv 2, rv ar, iv 1] [(.int 1), (.int 1)])) _
    refine XS.icmpYes X4.here hx rfl (pc0 := 13) (pc' := 18) rfl (hb hby d26_13) rfl (teq (by decide : (1 : Int32) = (1 : Int32))).1 (by decide) (by decide) ?_
    refine XS.iloadN X4.here hx rfl (hb hby d26_18) rfl ?_
    refine XS.iconst X4.here hx rfl (hb hby d26_19) ?_
    show Steps p.tables e below (T4.setTop (mkF m 20 #[rv a1, iv 2, rv ar, iv 1] [(.int 4), (.int 1)])) _
    refine XS.icmpYes X4.here hx rfl (pc0 := 20) (pc' := 37) rfl (hb hby d26_20) rfl (tlt (by decide : (1 : Int32) < (4 : Int32))).1 (by decide) (by decide) ?_
    refine XS.aloadN X4.here hx rfl (hb hby d26_37) rfl rfl ?_
    refine XS.iconst X4.here hx rfl (hb hby d26_38) ?_
    show Steps p.tables e below (T4.setTop (mkF m 39 #[rv a1, iv 2, rv ar, iv 1] [(.int 0), (.ref a1)])) _
    exact k
  refine own_lift sg5 ?_
  show own_Go p.tables e below (T4.setTop (mkF m 39 #[rv a1, iv 2, rv ar, iv 1] [(.int 0), (.ref a1)])) _
  obtain ⟨cq6, kq6, q6a, q6b, q6c⟩ := isOf hZ e4 Ec
  obtain ⟨_, _, ⟨T6, Lx6, kx6, nx6⟩, -, X6, ⟨Lc6, hQ6, lx6, yx6, zx6⟩, st6⟩ := X4.virtualBack hx (y := (⟨TC, "has", "(I)Z"⟩ : MethodName)) (z := (⟨TC, "has", "(I)Z"⟩ : MethodName)) hown (mvT hZ (wd hw 147 rfl)) (mvT hZ (wd hw 148 rfl)) (notFace_of_selects (args := #[]) (mvT hZ (wd hw 150 rfl))) (mvT hZ (wd hw 150 rfl)) (mvT hZ (wd hw 149 rfl)) (by decide) (backOf (W := 0) (rmHas1 l Z a0 hw [] a1 tx va kb b0 b1 b2 b3 cs h0 n0 Z0 Fct Fco Es Fsv Fsc Ars Scs P_cs) hZ (wd hw 151 rfl) (wd hw 7 rfl) (by decide) (by decide)) q6a q6c (g := (mkF m 39 #[rv a1, iv 2, rv ar, iv 1] [(.int 0), (.ref a1)])) rfl (by rw [hml]; rfl) (Steps.refl _) (argsL := [(.int 0)]) (rest := []) (lenOf pd_1 rfl) rfl (by show 2 * 0 + _ ≤ _; exact Nat.le_of_eq rfl) (hb hby d26_39) (fun _ _ => ⟨rfl, e4, (by decide : 0 + 0 ≤ _), (by decide : 0 + 0 ≤ _)⟩)
  dsimp only [Pt.U, Pt.locs, Pt.cells, Pt.slots] at X6 lx6 yx6 zx6 st6 hQ6
  subst lx6 yx6 zx6
  obtain ⟨rfl, N6q, e6⟩ := hQ6
  have N6 := Fr.app N4 N6q
  refine own_lift (fun t k => st6.trans k) ?_
  show own_Go p.tables e below (T6.setTop (mkF m 42 #[rv a1, iv 2, rv ar, iv 1] [(.int 1)])) _
  have sg7 : ∀ t, Steps p.tables e below (T6.setTop (mkF m 47 #[rv a1, iv 2, rv ar, iv 1] [(.int 0), (.ref a1)])) t → Steps p.tables e below (T6.setTop (mkF m 42 #[rv a1, iv 2, rv ar, iv 1] [(.int 1)])) t := by
    intro t k
    refine XS.ifNo X6.here hx rfl (hb hby d26_42) rfl ((if0 _ _).trans (feq (by decide : ¬ ((1 : Int32) = (0 : Int32)))).1) ?_
    show Steps p.tables e below (T6.setTop (mkF m 45 #[rv a1, iv 2, rv ar, iv 1] [])) _
    refine XS.aloadN X6.here hx rfl (hb hby d26_45) rfl rfl ?_
    refine XS.iconst X6.here hx rfl (hb hby d26_46) ?_
    show Steps p.tables e below (T6.setTop (mkF m 47 #[rv a1, iv 2, rv ar, iv 1] [(.int 0), (.ref a1)])) _
    exact k
  refine own_lift sg7 ?_
  show own_Go p.tables e below (T6.setTop (mkF m 47 #[rv a1, iv 2, rv ar, iv 1] [(.int 0), (.ref a1)])) _
  obtain ⟨cq8, kq8, q8a, q8b, q8c⟩ := isOf hZ e6 Ec
  obtain ⟨_, _, ⟨T8, Lx8, kx8, nx8⟩, -, X8, ⟨Lc8, hQ8, lx8, yx8, zx8⟩, st8⟩ := X6.virtualBack hx (y := (⟨TC, "charAt", "(I)C"⟩ : MethodName)) (z := (⟨TC, "charAt", "(I)C"⟩ : MethodName)) hown (mvT hZ (wd hw 152 rfl)) (mvT hZ (wd hw 153 rfl)) (notFace_of_selects (args := #[]) (mvT hZ (wd hw 155 rfl))) (mvT hZ (wd hw 155 rfl)) (mvT hZ (wd hw 154 rfl)) (by decide) (backOf (W := 0) (rmCac1 l Z a0 hw [] a1 tx va kb b0 b1 b2 b3 cs fv h0 n0 Z0 Fct Fco Es Fsv Fsc Ars Scs Sfm P_cs P_fv) hZ (wd hw 156 rfl) (wd hw 7 rfl) (by decide) (by decide)) q8a q8c (g := (mkF m 47 #[rv a1, iv 2, rv ar, iv 1] [(.int 0), (.ref a1)])) rfl (by rw [hml]; rfl) (Steps.refl _) (argsL := [(.int 0)]) (rest := []) (lenOf pd_12 rfl) rfl (by show 2 * 0 + _ ≤ _; exact Nat.le_of_eq rfl) (hb hby d26_47) (fun _ _ => ⟨rfl, e6, (by decide : 0 + 0 ≤ _), (by decide : 0 + 0 ≤ _)⟩)
  dsimp only [Pt.U, Pt.locs, Pt.cells, Pt.slots] at X8 lx8 yx8 zx8 st8 hQ8
  subst lx8 yx8 zx8
  obtain ⟨rfl, N8q, e8⟩ := hQ8
  have N8 := Fr.app N6 N8q
  refine own_lift (fun t k => st8.trans k) ?_
  show own_Go p.tables e below (T8.setTop (mkF m 50 #[rv a1, iv 2, rv ar, iv 1] [(.int (own_c8 b1))])) _
  have sg9 : ∀ t, Steps p.tables e below (T8.setTop (mkF m 52 #[rv a1, iv 2, rv ar, iv 1] [(.int 1), (.ref ar), (.int (own_c8 b1))])) t → Steps p.tables e below (T8.setTop (mkF m 50 #[rv a1, iv 2, rv ar, iv 1] [(.int (own_c8 b1))])) t := by
    intro t k
    refine XS.aloadN X8.here hx rfl (hb hby d26_50) rfl rfl ?_
    show Steps p.tables e below (T8.setTop (mkF m 51 #[rv a1, iv 2, rv ar, iv 1] [(.ref ar), (.int (own_c8 b1))])) _
    refine XS.iloadN X8.here hx rfl (hb hby d26_51) rfl ?_
    show Steps p.tables e below (T8.setTop (mkF m 52 #[rv a1, iv 2, rv ar, iv 1] [(.int 1), (.ref ar), (.int (own_c8 b1))])) _
    exact k
  refine own_lift sg9 ?_
  show own_Go p.tables e below (T8.setTop (mkF m 52 #[rv a1, iv 2, rv ar, iv 1] [(.int 1), (.ref ar), (.int (own_c8 b1))])) _
  obtain ⟨cl10, Ar10, qx10, Sx10, N10', H10', G10'⟩ := id (Arc)
  have hin10 : ¬ ((1 : Int32) < 0 ∨ cl10.slots.size ≤ ((1 : Int32)).toNatClampNeg) := inb_of Sx10 ⟨(by decide : ¬ ((1 : Int32) < (0 : Int32))), (by decide : (1 : Int32) < (4 : Int32))⟩
  have hat10 : cl10.slots[((1 : Int32)).toNatClampNeg]? = some (.int c1) := Has.at H10' hin10 rfl
  have sg11 : ∀ t, Steps p.tables e below (T8.setTop (mkF m 61 #[rv a1, iv 2, rv ar, iv 1] [(.int 1)])) t → Steps p.tables e below (T8.setTop (mkF m 52 #[rv a1, iv 2, rv ar, iv 1] [(.int 1), (.ref ar), (.int (own_c8 b1))])) t := by
    intro t k
    refine X8.caload hx (j := (1 : Int32)) (v := (.int c1)) (by rw [e8]; exact Ar10.1) (State.isArrayOf_alike hZ.alike Ar10.2.1) Ar10.2.2 hin10 hat10 (g := (mkF m 52 #[rv a1, iv 2, rv ar, iv 1] [(.int 1), (.ref ar), (.int (own_c8 b1))])) rfl rfl (hb hby d26_52) _ ?_
    show Steps p.tables e below (T8.setTop (mkF m 53 #[rv a1, iv 2, rv ar, iv 1] [(.int c1), (.int (own_c8 b1))])) _
    refine XS.icmpNo X8.here hx rfl (hb hby d26_53) rfl (teq d).2 ?_
    refine XS.iconst X8.here hx rfl (hb hby d26_56) ?_
    refine XS.goto X8.here hx rfl (pc0 := 57) (pc' := 61) rfl (hb hby d26_57) (by decide) (by decide) ?_
    show Steps p.tables e below (T8.setTop (mkF m 61 #[rv a1, iv 2, rv ar, iv 1] [(.int 1)])) _
    exact k
  refine own_lift sg11 ?_
  show own_Go p.tables e below (T8.setTop (mkF m 61 #[rv a1, iv 2, rv ar, iv 1] [(.int 1)])) _
  obtain ⟨fs, hr, hrun, hended, hW, hsame⟩ := X8.leave (v := some (.int 1)) (fun h => by rw [Bd.returns] at h; cases h)
  refine ⟨_, _, ?_, hrun, hended, _, _, rfl, ?_, ⟨_, rfl⟩, hW, hsame.mono (by decide) (by decide)⟩
  · exact retN X8 hx (t := .boolean) Bd.returns (by simp) (hb hby d26_61) hr
  · show Q_rmAt21 Z a1 ar tx va kb b0 b1 b2 b3 cs fv kc c0 c1 c2 c3 h0 n0 _ T8.heap _
    rw [e8]
    exact ⟨rfl, N8, rfl⟩
def Q_rmAt22 (Z : State) (a1 : Addr) (ar : Addr) (tx : Addr) (va : Addr) (kb : ClassId) (b0 : Int32) (b1 : Int32) (b2 : Int32) (b3 : Int32) (cs : Int32) (fv : Value) (kc : ClassId) (c0 : Int32) (c1 : Int32) (c2 : Int32) (c3 : Int32) (h0 : Heap) (n0 : Nat) (v : Option Value) (h : Heap) (L : List Loc) : Prop := v = some (.int 1) ∧ Fr n0 L ∧ h = h0
theorem ef_rmAt22 (m : MethodId) (x0 : Addr) (x3 : Int32) (x2 : Addr) (x3 : Int32) : entryFrame m #[(.ref x0), (.int 2), (.ref x2), (.int 2)] 4 = mkF m 0 #[.val (.ref x0), .val (.int 2), .val (.ref x2), .val (.int 2)] [] := by first | (simp [entryFrame, mkF, argsToLocals, Value.category]; done) | rfl
set_option maxRecDepth 65536 in
set_option maxHeartbeats 40000000 in
theorem rmAt22 (l : Launch) (Z : State) (a0 : Array Value) (hw : ∀ d ∈ tables_1, d.before a0 Z = true) (ws : List Jvm.Cond) (a1 : Addr) (ar : Addr) (tx : Addr) (va : Addr) (kb : ClassId) (b0 : Int32) (b1 : Int32) (b2 : Int32) (b3 : Int32) (cs : Int32) (fv : Value) (kc : ClassId) (c0 : Int32) (c1 : Int32) (c2 : Int32) (c3 : Int32) (h0 : Heap) (n0 : Nat) (Z0 : n0 ≤ h0.size) (Ec : Exa Z h0 a1 TC) (Fct : Fld Z h0 a1 TC "text" dSx (.ref tx)) (Fco : Fld Z h0 a1 TC "offset" "I" (.int 2)) (Fcc : Fld Z h0 a1 TC "column" "I" (.int 1)) (Fcl : Fld Z h0 a1 TC "line" "I" (.int 2)) (Es : Exa Z h0 tx STx) (Fsv : Fld Z h0 tx STx "value" "[B" (.ref va)) (Fsc : Fld Z h0 tx STx "coder" "B" (.int 0)) (Ars : Arv Z h0 va kb .byte (4 : Int32) [(.int b0), (.int b1), (.int b2), (.int b3)] (.int 0)) (Scs : Sta Z h0 STx "COMPACT_STRINGS" "Z" (.int cs)) (Sfm : Sta Z h0 PCx "SIOOBE_FORMATTER" BFx fv) (Arc : Arv Z h0 ar kc .char (4 : Int32) [(.int c0), (.int c1), (.int c2), (.int c3)] (.int 0)) (P_cs : ¬ (cs = (0 : Int32))) (P_fv : fv.isRef = true) (d : (own_c8 b2) = c2) :
    MetFree l (⟨LW, "at", "(Lcom/example/libprocgraph/libprocgraph/reader/TextCursor;I[CI)Z"⟩ : MethodName) (head1 (Jvm.Cond.code (⟨LW, "at", "(Lcom/example/libprocgraph/libprocgraph/reader/TextCursor;I[CI)Z"⟩ : MethodName) method_3_code 4 (some .boolean) :: ws) ({ frames := 5, cells := 0, slots := 0, locals := 66 } : Room)) (fun a U => a = #[(.ref a1), (.int 2), (.ref ar), (.int 2)] ∧ Z.Warmed39 U.vm ∧ U.heap = h0) (fun _ _ _ _ _ => True) (fun _ U o U' => ∃ v L, o = .returned v ∧ Q_rmAt22 Z a1 ar tx va kb b0 b1 b2 b3 cs fv kc c0 c1 c2 c3 h0 n0 v U'.heap L ∧ FrameEnd U o U' L ({ frames := 5, cells := 0, slots := 0, locals := 66 } : Room).cells ({ frames := 5, cells := 0, slots := 0, locals := 66 } : Room).slots) := by
  refine MetFree.of_bodySF (plainFor_of_name pn_5) hisR ?_
  intro p e s m args below meth c s₁ Bd hml0 hP hK
  obtain ⟨rfl, hZ, hh⟩ := hP
  have hx := Bd.exec
  have hby := Bd.bytes
  have hml : c.maxLocals = 4 := hml0
  have hown : s.vm.findClass LW = some m.cls := findClass_of_methodNamed Bd.named
  have hnm := (name_of_methodNamed Bd.named Bd.method).1
  have X0 : Stand p l e ({ frames := 5, cells := 0, slots := 0, locals := 66 } : Room) s m #[(.ref a1), (.int 2), (.ref ar), (.int 2)] below meth c s₁ [] 0 0 := Stand.of_body Bd
  have e0 : s₁.heap = h0 := by rw [← hh, Bd.state]; rfl
  have N0 := Fr.nil n0
  refine own_go (own_lift (fun t k => castTop (ef_rmAt22 m a1 (2 : Int32) ar (2 : Int32)) k) ?_)
  show own_Go p.tables e below (s₁.setTop (mkF m 0 #[rv a1, iv 2, rv ar, iv 2] [])) _
  have sg1 : ∀ t, Steps p.tables e below (s₁.setTop (mkF m 1 #[rv a1, iv 2, rv ar, iv 2] [(.ref a1)])) t → Steps p.tables e below (s₁.setTop (mkF m 0 #[rv a1, iv 2, rv ar, iv 2] [])) t := by
    intro t k
    refine XS.aloadN X0.here hx rfl (hb hby d26_0) rfl rfl ?_
    show Steps p.tables e below (s₁.setTop (mkF m 1 #[rv a1, iv 2, rv ar, iv 2] [(.ref a1)])) _
    exact k
  refine own_lift sg1 ?_
  show own_Go p.tables e below (s₁.setTop (mkF m 1 #[rv a1, iv 2, rv ar, iv 2] [(.ref a1)])) _
  obtain ⟨cq2, kq2, q2a, q2b, q2c⟩ := isOf hZ e0 Ec
  obtain ⟨_, _, ⟨T2, Lx2, kx2, nx2⟩, -, X2, ⟨Lc2, hQ2, lx2, yx2, zx2⟩, st2⟩ := X0.virtualBack hx (y := (⟨TC, "line", "()I"⟩ : MethodName)) (z := (⟨TC, "line", "()I"⟩ : MethodName)) hown (mvT hZ (wd hw 129 rfl)) (mvT hZ (wd hw 130 rfl)) (notFace_of_selects (args := #[]) (mvT hZ (wd hw 132 rfl))) (mvT hZ (wd hw 132 rfl)) (mvT hZ (wd hw 131 rfl)) (by decide) (backOf (W := 0) (rmLine l Z a0 hw [] a1 (2 : Int32) h0 n0 Z0 Fcl) hZ (wd hw 133 rfl) (wd hw 7 rfl) (by decide) (by decide)) q2a q2c (g := (mkF m 1 #[rv a1, iv 2, rv ar, iv 2] [(.ref a1)])) rfl (by rw [hml]; rfl) (Steps.refl _) (argsL := []) (rest := []) (lenOf pd_5 rfl) rfl (by show 2 * 0 + _ ≤ _; exact Nat.le_of_eq rfl) (hb hby d26_1) (fun _ _ => ⟨rfl, e0, (by decide : 0 + 0 ≤ _), (by decide : 0 + 0 ≤ _)⟩)
  dsimp only [Pt.U, Pt.locs, Pt.cells, Pt.slots] at X2 lx2 yx2 zx2 st2 hQ2
  subst lx2 yx2 zx2
  obtain ⟨rfl, N2q, e2⟩ := hQ2
  have N2 := Fr.app N0 N2q
  refine own_lift (fun t k => st2.trans k) ?_
  show own_Go p.tables e below (T2.setTop (mkF m 4 #[rv a1, iv 2, rv ar, iv 2] [(.int 2)])) _
  have sg3 : ∀ t, Steps p.tables e below (T2.setTop (mkF m 9 #[rv a1, iv 2, rv ar, iv 2] [(.ref a1)])) t → Steps p.tables e below (T2.setTop (mkF m 4 #[rv a1, iv 2, rv ar, iv 2] [(.int 2)])) t := by
    intro t k
    refine XS.iloadN X2.here hx rfl (hb hby d26_4) rfl ?_
    show Steps p.tables e below (T2.setTop (mkF m 5 #[rv a1, iv 2, rv ar, iv 2] [(.int 2), (.int 2)])) _
    refine XS.icmpNo X2.here hx rfl (hb hby d26_5) rfl (teq (by decide : (2 : Int32) = (2 : Int32))).2 ?_
    refine XS.aloadN X2.here hx rfl (hb hby d26_8) rfl rfl ?_
    show Steps p.tables e below (T2.setTop (mkF m 9 #[rv a1, iv 2, rv ar, iv 2] [(.ref a1)])) _
    exact k
  refine own_lift sg3 ?_
  show own_Go p.tables e below (T2.setTop (mkF m 9 #[rv a1, iv 2, rv ar, iv 2] [(.ref a1)])) _
  obtain ⟨cq4, kq4, q4a, q4b, q4c⟩ := isOf hZ e2 Ec
  obtain ⟨_, _, ⟨T4, Lx4, kx4, nx4⟩, -, X4, ⟨Lc4, hQ4, lx4, yx4, zx4⟩, st4⟩ := X2.virtualBack hx (y := (⟨TC, "column", "()I"⟩ : MethodName)) (z := (⟨TC, "column", "()I"⟩ : MethodName)) hown (mvT hZ (wd hw 134 rfl)) (mvT hZ (wd hw 135 rfl)) (notFace_of_selects (args := #[]) (mvT hZ (wd hw 137 rfl))) (mvT hZ (wd hw 137 rfl)) (mvT hZ (wd hw 136 rfl)) (by decide) (backOf (W := 0) (rmCol l Z a0 hw [] a1 (1 : Int32) h0 n0 Z0 Fcc) hZ (wd hw 138 rfl) (wd hw 7 rfl) (by decide) (by decide)) q4a q4c (g := (mkF m 9 #[rv a1, iv 2, rv ar, iv 2] [(.ref a1)])) rfl (by rw [hml]; rfl) (Steps.refl _) (argsL := []) (rest := []) (lenOf pd_5 rfl) rfl (by show 2 * 0 + _ ≤ _; exact Nat.le_of_eq rfl) (hb hby d26_9) (fun _ _ => ⟨rfl, e2, (by decide : 0 + 0 ≤ _), (by decide : 0 + 0 ≤ _)⟩)
  dsimp only [Pt.U, Pt.locs, Pt.cells, Pt.slots] at X4 lx4 yx4 zx4 st4 hQ4
  subst lx4 yx4 zx4
  obtain ⟨rfl, N4q, e4⟩ := hQ4
  have N4 := Fr.app N2 N4q
  refine own_lift (fun t k => st4.trans k) ?_
  show own_Go p.tables e below (T4.setTop (mkF m 12 #[rv a1, iv 2, rv ar, iv 2] [(.int 1)])) _
  have sg5 : ∀ t, Steps p.tables e below (T4.setTop (mkF m 39 #[rv a1, iv 2, rv ar, iv 2] [(.int 0), (.ref a1)])) t → Steps p.tables e below (T4.setTop (mkF m 12 #[rv a1, iv 2, rv ar, iv 2] [(.int 1)])) t := by
    intro t k
    refine XS.iconst X4.here hx rfl (hb hby d26_12) ?_
    show Steps p.tables e below (T4.setTop (mkF m 13 #[rv a1, iv 2, rv ar, iv 2] [(.int 1), (.int 1)])) _
    refine XS.icmpYes X4.here hx rfl (pc0 := 13) (pc' := 18) rfl (hb hby d26_13) rfl (teq (by decide : (1 : Int32) = (1 : Int32))).1 (by decide) (by decide) ?_
    refine XS.iloadN X4.here hx rfl (hb hby d26_18) rfl ?_
    refine XS.iconst X4.here hx rfl (hb hby d26_19) ?_
    show Steps p.tables e below (T4.setTop (mkF m 20 #[rv a1, iv 2, rv ar, iv 2] [(.int 4), (.int 2)])) _
    refine XS.icmpYes X4.here hx rfl (pc0 := 20) (pc' := 37) rfl (hb hby d26_20) rfl (tlt (by decide : (2 : Int32) < (4 : Int32))).1 (by decide) (by decide) ?_
    refine XS.aloadN X4.here hx rfl (hb hby d26_37) rfl rfl ?_
    refine XS.iconst X4.here hx rfl (hb hby d26_38) ?_
    show Steps p.tables e below (T4.setTop (mkF m 39 #[rv a1, iv 2, rv ar, iv 2] [(.int 0), (.ref a1)])) _
    exact k
  refine own_lift sg5 ?_
  show own_Go p.tables e below (T4.setTop (mkF m 39 #[rv a1, iv 2, rv ar, iv 2] [(.int 0), (.ref a1)])) _
  obtain ⟨cq6, kq6, q6a, q6b, q6c⟩ := isOf hZ e4 Ec
  obtain ⟨_, _, ⟨T6, Lx6, kx6, nx6⟩, -, X6, ⟨Lc6, hQ6, lx6, yx6, zx6⟩, st6⟩ := X4.virtualBack hx (y := (⟨TC, "has", "(I)Z"⟩ : MethodName)) (z := (⟨TC, "has", "(I)Z"⟩ : MethodName)) hown (mvT hZ (wd hw 147 rfl)) (mvT hZ (wd hw 148 rfl)) (notFace_of_selects (args := #[]) (mvT hZ (wd hw 150 rfl))) (mvT hZ (wd hw 150 rfl)) (mvT hZ (wd hw 149 rfl)) (by decide) (backOf (W := 0) (rmHas2 l Z a0 hw [] a1 tx va kb b0 b1 b2 b3 cs h0 n0 Z0 Fct Fco Es Fsv Fsc Ars Scs P_cs) hZ (wd hw 151 rfl) (wd hw 7 rfl) (by decide) (by decide)) q6a q6c (g := (mkF m 39 #[rv a1, iv 2, rv ar, iv 2] [(.int 0), (.ref a1)])) rfl (by rw [hml]; rfl) (Steps.refl _) (argsL := [(.int 0)]) (rest := []) (lenOf pd_1 rfl) rfl (by show 2 * 0 + _ ≤ _; exact Nat.le_of_eq rfl) (hb hby d26_39) (fun _ _ => ⟨rfl, e4, (by decide : 0 + 0 ≤ _), (by decide : 0 + 0 ≤ _)⟩)
  dsimp only [Pt.U, Pt.locs, Pt.cells, Pt.slots] at X6 lx6 yx6 zx6 st6 hQ6
  subst lx6 yx6 zx6
  obtain ⟨rfl, N6q, e6⟩ := hQ6
  have N6 := Fr.app N4 N6q
  refine own_lift (fun t k => st6.trans k) ?_
  show own_Go p.tables e below (T6.setTop (mkF m 42 #[rv a1, iv 2, rv ar, iv 2] [(.int 1)])) _
  have sg7 : ∀ t, Steps p.tables e below (T6.setTop (mkF m 47 #[rv a1, iv 2, rv ar, iv 2] [(.int 0), (.ref a1)])) t → Steps p.tables e below (T6.setTop (mkF m 42 #[rv a1, iv 2, rv ar, iv 2] [(.int 1)])) t := by
    intro t k
    refine XS.ifNo X6.here hx rfl (hb hby d26_42) rfl ((if0 _ _).trans (feq (by decide : ¬ ((1 : Int32) = (0 : Int32)))).1) ?_
    show Steps p.tables e below (T6.setTop (mkF m 45 #[rv a1, iv 2, rv ar, iv 2] [])) _
    refine XS.aloadN X6.here hx rfl (hb hby d26_45) rfl rfl ?_
    refine XS.iconst X6.here hx rfl (hb hby d26_46) ?_
    show Steps p.tables e below (T6.setTop (mkF m 47 #[rv a1, iv 2, rv ar, iv 2] [(.int 0), (.ref a1)])) _
    exact k
  refine own_lift sg7 ?_
  show own_Go p.tables e below (T6.setTop (mkF m 47 #[rv a1, iv 2, rv ar, iv 2] [(.int 0), (.ref a1)])) _
  obtain ⟨cq8, kq8, q8a, q8b, q8c⟩ := isOf hZ e6 Ec
  obtain ⟨_, _, ⟨T8, Lx8, kx8, nx8⟩, -, X8, ⟨Lc8, hQ8, lx8, yx8, zx8⟩, st8⟩ := X6.virtualBack hx (y := (⟨TC, "charAt", "(I)C"⟩ : MethodName)) (z := (⟨TC, "charAt", "(I)C"⟩ : MethodName)) hown (mvT hZ (wd hw 152 rfl)) (mvT hZ (wd hw 153 rfl)) (notFace_of_selects (args := #[]) (mvT hZ (wd hw 155 rfl))) (mvT hZ (wd hw 155 rfl)) (mvT hZ (wd hw 154 rfl)) (by decide) (backOf (W := 0) (rmCac2 l Z a0 hw [] a1 tx va kb b0 b1 b2 b3 cs fv h0 n0 Z0 Fct Fco Es Fsv Fsc Ars Scs Sfm P_cs P_fv) hZ (wd hw 156 rfl) (wd hw 7 rfl) (by decide) (by decide)) q8a q8c (g := (mkF m 47 #[rv a1, iv 2, rv ar, iv 2] [(.int 0), (.ref a1)])) rfl (by rw [hml]; rfl) (Steps.refl _) (argsL := [(.int 0)]) (rest := []) (lenOf pd_12 rfl) rfl (by show 2 * 0 + _ ≤ _; exact Nat.le_of_eq rfl) (hb hby d26_47) (fun _ _ => ⟨rfl, e6, (by decide : 0 + 0 ≤ _), (by decide : 0 + 0 ≤ _)⟩)
  dsimp only [Pt.U, Pt.locs, Pt.cells, Pt.slots] at X8 lx8 yx8 zx8 st8 hQ8
  subst lx8 yx8 zx8
  obtain ⟨rfl, N8q, e8⟩ := hQ8
  have N8 := Fr.app N6 N8q
  refine own_lift (fun t k => st8.trans k) ?_
  show own_Go p.tables e below (T8.setTop (mkF m 50 #[rv a1, iv 2, rv ar, iv 2] [(.int (own_c8 b2))])) _
  have sg9 : ∀ t, Steps p.tables e below (T8.setTop (mkF m 52 #[rv a1, iv 2, rv ar, iv 2] [(.int 2), (.ref ar), (.int (own_c8 b2))])) t → Steps p.tables e below (T8.setTop (mkF m 50 #[rv a1, iv 2, rv ar, iv 2] [(.int (own_c8 b2))])) t := by
    intro t k
    refine XS.aloadN X8.here hx rfl (hb hby d26_50) rfl rfl ?_
    show Steps p.tables e below (T8.setTop (mkF m 51 #[rv a1, iv 2, rv ar, iv 2] [(.ref ar), (.int (own_c8 b2))])) _
    refine XS.iloadN X8.here hx rfl (hb hby d26_51) rfl ?_
    show Steps p.tables e below (T8.setTop (mkF m 52 #[rv a1, iv 2, rv ar, iv 2] [(.int 2), (.ref ar), (.int (own_c8 b2))])) _
    exact k
  refine own_lift sg9 ?_
  show own_Go p.tables e below (T8.setTop (mkF m 52 #[rv a1, iv 2, rv ar, iv 2] [(.int 2), (.ref ar), (.int (own_c8 b2))])) _
  obtain ⟨cl10, Ar10, qx10, Sx10, N10', H10', G10'⟩ := id (Arc)
  have hin10 : ¬ ((2 : Int32) < 0 ∨ cl10.slots.size ≤ ((2 : Int32)).toNatClampNeg) := inb_of Sx10 ⟨(by decide : ¬ ((2 : Int32) < (0 : Int32))), (by decide : (2 : Int32) < (4 : Int32))⟩
  have hat10 : cl10.slots[((2 : Int32)).toNatClampNeg]? = some (.int c2) := Has.at H10' hin10 rfl
  have sg11 : ∀ t, Steps p.tables e below (T8.setTop (mkF m 61 #[rv a1, iv 2, rv ar, iv 2] [(.int 1)])) t → Steps p.tables e below (T8.setTop (mkF m 52 #[rv a1, iv 2, rv ar, iv 2] [(.int 2), (.ref ar), (.int (own_c8 b2))])) t := by
    intro t k
    refine X8.caload hx (j := (2 : Int32)) (v := (.int c2)) (by rw [e8]; exact Ar10.1) (State.isArrayOf_alike hZ.alike Ar10.2.1) Ar10.2.2 hin10 hat10 (g := (mkF m 52 #[rv a1, iv 2, rv ar, iv 2] [(.int 2), (.ref ar), (.int (own_c8 b2))])) rfl rfl (hb hby d26_52) _ ?_
    show Steps p.tables e below (T8.setTop (mkF m 53 #[rv a1, iv 2, rv ar, iv 2] [(.int c2), (.int (own_c8 b2))])) _
    refine XS.icmpNo X8.here hx rfl (hb hby d26_53) rfl (teq d).2 ?_
    refine XS.iconst X8.here hx rfl (hb hby d26_56) ?_
    refine XS.goto X8.here hx rfl (pc0 := 57) (pc' := 61) rfl (hb hby d26_57) (by decide) (by decide) ?_
    show Steps p.tables e below (T8.setTop (mkF m 61 #[rv a1, iv 2, rv ar, iv 2] [(.int 1)])) _
    exact k
  refine own_lift sg11 ?_
  show own_Go p.tables e below (T8.setTop (mkF m 61 #[rv a1, iv 2, rv ar, iv 2] [(.int 1)])) _
  obtain ⟨fs, hr, hrun, hended, hW, hsame⟩ := X8.leave (v := some (.int 1)) (fun h => by rw [Bd.returns] at h; cases h)
  refine ⟨_, _, ?_, hrun, hended, _, _, rfl, ?_, ⟨_, rfl⟩, hW, hsame.mono (by decide) (by decide)⟩
  · exact retN X8 hx (t := .boolean) Bd.returns (by simp) (hb hby d26_61) hr
  · show Q_rmAt22 Z a1 ar tx va kb b0 b1 b2 b3 cs fv kc c0 c1 c2 c3 h0 n0 _ T8.heap _
    rw [e8]
    exact ⟨rfl, N8, rfl⟩
def Q_rmAt23 (Z : State) (a1 : Addr) (ar : Addr) (tx : Addr) (va : Addr) (kb : ClassId) (b0 : Int32) (b1 : Int32) (b2 : Int32) (b3 : Int32) (cs : Int32) (fv : Value) (kc : ClassId) (c0 : Int32) (c1 : Int32) (c2 : Int32) (c3 : Int32) (h0 : Heap) (n0 : Nat) (v : Option Value) (h : Heap) (L : List Loc) : Prop := v = some (.int 1) ∧ Fr n0 L ∧ h = h0
theorem ef_rmAt23 (m : MethodId) (x0 : Addr) (x1 : Int32) (x2 : Addr) (x3 : Int32) : entryFrame m #[(.ref x0), (.int 2), (.ref x2), (.int 3)] 4 = mkF m 0 #[.val (.ref x0), .val (.int 2), .val (.ref x2), .val (.int 3)] [] := by first | (simp [entryFrame, mkF, argsToLocals, Value.category]; done) | rfl
set_option maxRecDepth 65536 in
set_option maxHeartbeats 40000000 in
theorem rmAt23 (l : Launch) (Z : State) (a0 : Array Value) (hw : ∀ d ∈ tables_1, d.before a0 Z = true) (ws : List Jvm.Cond) (a1 : Addr) (ar : Addr) (tx : Addr) (va : Addr) (kb : ClassId) (b0 : Int32) (b1 : Int32) (b2 : Int32) (b3 : Int32) (cs : Int32) (fv : Value) (kc : ClassId) (c0 : Int32) (c1 : Int32) (c2 : Int32) (c3 : Int32) (h0 : Heap) (n0 : Nat) (Z0 : n0 ≤ h0.size) (Ec : Exa Z h0 a1 TC) (Fct : Fld Z h0 a1 TC "text" dSx (.ref tx)) (Fco : Fld Z h0 a1 TC "offset" "I" (.int 3)) (Fcc : Fld Z h0 a1 TC "column" "I" (.int 1)) (Fcl : Fld Z h0 a1 TC "line" "I" (.int 2)) (Es : Exa Z h0 tx STx) (Fsv : Fld Z h0 tx STx "value" "[B" (.ref va)) (Fsc : Fld Z h0 tx STx "coder" "B" (.int 0)) (Ars : Arv Z h0 va kb .byte (4 : Int32) [(.int b0), (.int b1), (.int b2), (.int b3)] (.int 0)) (Scs : Sta Z h0 STx "COMPACT_STRINGS" "Z" (.int cs)) (Sfm : Sta Z h0 PCx "SIOOBE_FORMATTER" BFx fv) (Arc : Arv Z h0 ar kc .char (4 : Int32) [(.int c0), (.int c1), (.int c2), (.int c3)] (.int 0)) (P_cs : ¬ (cs = (0 : Int32))) (P_fv : fv.isRef = true) (d : (own_c8 b3) = c3) :
    MetFree l (⟨LW, "at", "(Lcom/example/libprocgraph/libprocgraph/reader/TextCursor;I[CI)Z"⟩ : MethodName) (head1 (Jvm.Cond.code (⟨LW, "at", "(Lcom/example/libprocgraph/libprocgraph/reader/TextCursor;I[CI)Z"⟩ : MethodName) method_3_code 4 (some .boolean) :: ws) ({ frames := 5, cells := 0, slots := 0, locals := 66 } : Room)) (fun a U => a = #[(.ref a1), (.int 2), (.ref ar), (.int 3)] ∧ Z.Warmed39 U.vm ∧ U.heap = h0) (fun _ _ _ _ _ => True) (fun _ U o U' => ∃ v L, o = .returned v ∧ Q_rmAt23 Z a1 ar tx va kb b0 b1 b2 b3 cs fv kc c0 c1 c2 c3 h0 n0 v U'.heap L ∧ FrameEnd U o U' L ({ frames := 5, cells := 0, slots := 0, locals := 66 } : Room).cells ({ frames := 5, cells := 0, slots := 0, locals := 66 } : Room).slots) := by
  refine MetFree.of_bodySF (plainFor_of_name pn_5) hisR ?_
  intro p e s m args below meth c s₁ Bd hml0 hP hK
  obtain ⟨rfl, hZ, hh⟩ := hP
  have hx := Bd.exec
  have hby := Bd.bytes
  have hml : c.maxLocals = 4 := hml0
  have hown : s.vm.findClass LW = some m.cls := findClass_of_methodNamed Bd.named
  have hnm := (name_of_methodNamed Bd.named Bd.method).1
  have X0 : Stand p l e ({ frames := 5, cells := 0, slots := 0, locals := 66 } : Room) s m #[(.ref a1), (.int 2), (.ref ar), (.int 3)] below meth c s₁ [] 0 0 := Stand.of_body Bd
  have e0 : s₁.heap = h0 := by rw [← hh, Bd.state]; rfl
  have N0 := Fr.nil n0
  refine own_go (own_lift (fun t k => castTop (ef_rmAt23 m a1 (2 : Int32) ar (3 : Int32)) k) ?_)
  show own_Go p.tables e below (s₁.setTop (mkF m 0 #[rv a1, iv 2, rv ar, iv 3] [])) _
  have sg1 : ∀ t, Steps p.tables e below (s₁.setTop (mkF m 1 #[rv a1, iv 2, rv ar, iv 3] [(.ref a1)])) t → Steps p.tables e below (s₁.setTop (mkF m 0 #[rv a1, iv 2, rv ar, iv 3] [])) t := by
    intro t k
    refine XS.aloadN X0.here hx rfl (hb hby d26_0) rfl rfl ?_
    show Steps p.tables e below (s₁.setTop (mkF m 1 #[rv a1, iv 2, rv ar, iv 3] [(.ref a1)])) _
    exact k
  refine own_lift sg1 ?_
  show own_Go p.tables e below (s₁.setTop (mkF m 1 #[rv a1, iv 2, rv ar, iv 3] [(.ref a1)])) _
  obtain ⟨cq2, kq2, q2a, q2b, q2c⟩ := isOf hZ e0 Ec
  obtain ⟨_, _, ⟨T2, Lx2, kx2, nx2⟩, -, X2, ⟨Lc2, hQ2, lx2, yx2, zx2⟩, st2⟩ := X0.virtualBack hx (y := (⟨TC, "line", "()I"⟩ : MethodName)) (z := (⟨TC, "line", "()I"⟩ : MethodName)) hown (mvT hZ (wd hw 129 rfl)) (mvT hZ (wd hw 130 rfl)) (notFace_of_selects (args := #[]) (mvT hZ (wd hw 132 rfl))) (mvT hZ (wd hw 132 rfl)) (mvT hZ (wd hw 131 rfl)) (by decide) (backOf (W := 0) (rmLine l Z a0 hw [] a1 (2 : Int32) h0 n0 Z0 Fcl) hZ (wd hw 133 rfl) (wd hw 7 rfl) (by decide) (by decide)) q2a q2c (g := (mkF m 1 #[rv a1, iv 2, rv ar, iv 3] [(.ref a1)])) rfl (by rw [hml]; rfl) (Steps.refl _) (argsL := []) (rest := []) (lenOf pd_5 rfl) rfl (by show 2 * 0 + _ ≤ _; exact Nat.le_of_eq rfl) (hb hby d26_1) (fun _ _ => ⟨rfl, e0, (by decide : 0 + 0 ≤ _), (by decide : 0 + 0 ≤ _)⟩)
  dsimp only [Pt.U, Pt.locs, Pt.cells, Pt.slots] at X2 lx2 yx2 zx2 st2 hQ2
  subst lx2 yx2 zx2
  obtain ⟨rfl, N2q, e2⟩ := hQ2
  have N2 := Fr.app N0 N2q
  refine own_lift (fun t k => st2.trans k) ?_
  show own_Go p.tables e below (T2.setTop (mkF m 4 #[rv a1, iv 2, rv ar, iv 3] [(.int 2)])) _
  have sg3 : ∀ t, Steps p.tables e below (T2.setTop (mkF m 9 #[rv a1, iv 2, rv ar, iv 3] [(.ref a1)])) t → Steps p.tables e below (T2.setTop (mkF m 4 #[rv a1, iv 2, rv ar, iv 3] [(.int 2)])) t := by
    intro t k
    refine XS.iloadN X2.here hx rfl (hb hby d26_4) rfl ?_
    show Steps p.tables e below (T2.setTop (mkF m 5 #[rv a1, iv 2, rv ar, iv 3] [(.int 2), (.int 2)])) _
    refine XS.icmpNo X2.here hx rfl (hb hby d26_5) rfl (teq (by decide : (2 : Int32) = (2 : Int32))).2 ?_
    refine XS.aloadN X2.here hx rfl (hb hby d26_8) rfl rfl ?_
    show Steps p.tables e below (T2.setTop (mkF m 9 #[rv a1, iv 2, rv ar, iv 3] [(.ref a1)])) _
    exact k
  refine own_lift sg3 ?_
  show own_Go p.tables e below (T2.setTop (mkF m 9 #[rv a1, iv 2, rv ar, iv 3] [(.ref a1)])) _
  obtain ⟨cq4, kq4, q4a, q4b, q4c⟩ := isOf hZ e2 Ec
  obtain ⟨_, _, ⟨T4, Lx4, kx4, nx4⟩, -, X4, ⟨Lc4, hQ4, lx4, yx4, zx4⟩, st4⟩ := X2.virtualBack hx (y := (⟨TC, "column", "()I"⟩ : MethodName)) (z := (⟨TC, "column", "()I"⟩ : MethodName)) hown (mvT hZ (wd hw 134 rfl)) (mvT hZ (wd hw 135 rfl)) (notFace_of_selects (args := #[]) (mvT hZ (wd hw 137 rfl))) (mvT hZ (wd hw 137 rfl)) (mvT hZ (wd hw 136 rfl)) (by decide) (backOf (W := 0) (rmCol l Z a0 hw [] a1 (1 : Int32) h0 n0 Z0 Fcc) hZ (wd hw 138 rfl) (wd hw 7 rfl) (by decide) (by decide)) q4a q4c (g := (mkF m 9 #[rv a1, iv 2, rv ar, iv 3] [(.ref a1)])) rfl (by rw [hml]; rfl) (Steps.refl _) (argsL := []) (rest := []) (lenOf pd_5 rfl) rfl (by show 2 * 0 + _ ≤ _; exact Nat.le_of_eq rfl) (hb hby d26_9) (fun _ _ => ⟨rfl, e2, (by decide : 0 + 0 ≤ _), (by decide : 0 + 0 ≤ _)⟩)
  dsimp only [Pt.U, Pt.locs, Pt.cells, Pt.slots] at X4 lx4 yx4 zx4 st4 hQ4
  subst lx4 yx4 zx4
  obtain ⟨rfl, N4q, e4⟩ := hQ4
  have N4 := Fr.app N2 N4q
  refine own_lift (fun t k => st4.trans k) ?_
  show own_Go p.tables e below (T4.setTop (mkF m 12 #[rv a1, iv 2, rv ar, iv 3] [(.int 1)])) _
  have sg5 : ∀ t, Steps p.tables e below (T4.setTop (mkF m 39 #[rv a1, iv 2, rv ar, iv 3] [(.int 0), (.ref a1)])) t → Steps p.tables e below (T4.setTop (mkF m 12 #[rv a1, iv 2, rv ar, iv 3] [(.int 1)])) t := by
    intro t k
    refine XS.iconst X4.here hx rfl (hb hby d26_12) ?_
    show Steps p.tables e below (T4.setTop (mkF m 13 #[rv a1, iv 2, rv ar, iv 3] [(.int 1), (.int 1)])) _
    refine XS.icmpYes X4.here hx rfl (pc0 := 13) (pc' := 18) rfl (hb hby d26_13) rfl (teq (by decide : (1 : Int32) = (1 : Int32))).1 (by decide) (by decide) ?_
    refine XS.iloadN X4.here hx rfl (hb hby d26_18) rfl ?_
    refine XS.iconst X4.here hx rfl (hb hby d26_19) ?_
    show Steps p.tables e below (T4.setTop (mkF m 20 #[rv a1, iv 2, rv ar, iv 3] [(.int 4), (.int 3)])) _
    refine XS.icmpYes X4.here hx rfl (pc0 := 20) (pc' := 37) rfl (hb hby d26_20) rfl (tlt (by decide : (3 : Int32) < (4 : Int32))).1 (by decide) (by decide) ?_
    refine XS.aloadN X4.here hx rfl (hb hby d26_37) rfl rfl ?_
    refine XS.iconst X4.here hx rfl (hb hby d26_38) ?_
    show Steps p.tables e below (T4.setTop (mkF m 39 #[rv a1, iv 2, rv ar, iv 3] [(.int 0), (.ref a1)])) _
    exact k
  refine own_lift sg5 ?_
  show own_Go p.tables e below (T4.setTop (mkF m 39 #[rv a1, iv 2, rv ar, iv 3] [(.int 0), (.ref a1)])) _
  obtain ⟨cq6, kq6, q6a, q6b, q6c⟩ := isOf hZ e4 Ec
  obtain ⟨_, _, ⟨T6, Lx6, kx6, nx6⟩, -, X6, ⟨Lc6, hQ6, lx6, yx6, zx6⟩, st6⟩ := X4.virtualBack hx (y := (⟨TC, "has", "(I)Z"⟩ : MethodName)) (z := (⟨TC, "has", "(I)Z"⟩ : MethodName)) hown (mvT hZ (wd hw 147 rfl)) (mvT hZ (wd hw 148 rfl)) (notFace_of_selects (args := #[]) (mvT hZ (wd hw 150 rfl))) (mvT hZ (wd hw 150 rfl)) (mvT hZ (wd hw 149 rfl)) (by decide) (backOf (W := 0) (rmHas3 l Z a0 hw [] a1 tx va kb b0 b1 b2 b3 cs h0 n0 Z0 Fct Fco Es Fsv Fsc Ars Scs P_cs) hZ (wd hw 151 rfl) (wd hw 7 rfl) (by decide) (by decide)) q6a q6c (g := (mkF m 39 #[rv a1, iv 2, rv ar, iv 3] [(.int 0), (.ref a1)])) rfl (by rw [hml]; rfl) (Steps.refl _) (argsL := [(.int 0)]) (rest := []) (lenOf pd_1 rfl) rfl (by show 2 * 0 + _ ≤ _; exact Nat.le_of_eq rfl) (hb hby d26_39) (fun _ _ => ⟨rfl, e4, (by decide : 0 + 0 ≤ _), (by decide : 0 + 0 ≤ _)⟩)
  dsimp only [Pt.U, Pt.locs, Pt.cells, Pt.slots] at X6 lx6 yx6 zx6 st6 hQ6
  subst lx6 yx6 zx6
  obtain ⟨rfl, N6q, e6⟩ := hQ6
  have N6 := Fr.app N4 N6q
  refine own_lift (fun t k => st6.trans k) ?_
  show own_Go p.tables e below (T6.setTop (mkF m 42 #[rv a1, iv 2, rv ar, iv 3] [(.int 1)])) _
  have sg7 : ∀ t, Steps p.tables e below (T6.setTop (mkF m 47 #[rv a1, iv 2, rv ar, iv 3] [(.int 0), (.ref a1)])) t → Steps p.tables e below (T6.setTop (mkF m 42 #[rv a1, iv 2, rv ar, iv 3] [(.int 1)])) t := by
    intro t k
    refine XS.ifNo X6.here hx rfl (hb hby d26_42) rfl ((if0 _ _).trans (feq (by decide : ¬ ((1 : Int32) = (0 : Int32)))).1) ?_
    show Steps p.tables e below (T6.setTop (mkF m 45 #[rv a1, iv 2, rv ar, iv 3] [])) _
    refine XS.aloadN X6.here hx rfl (hb hby d26_45) rfl rfl ?_
    refine XS.iconst X6.here hx rfl (hb hby d26_46) ?_
    show Steps p.tables e below (T6.setTop (mkF m 47 #[rv a1, iv 2, rv ar, iv 3] [(.int 0), (.ref a1)])) _
    exact k
  refine own_lift sg7 ?_
  show own_Go p.tables e below (T6.setTop (mkF m 47 #[rv a1, iv 2, rv ar, iv 3] [(.int 0), (.ref a1)])) _
  obtain ⟨cq8, kq8, q8a, q8b, q8c⟩ := isOf hZ e6 Ec
  obtain ⟨_, _, ⟨T8, Lx8, kx8, nx8⟩, -, X8, ⟨Lc8, hQ8, lx8, yx8, zx8⟩, st8⟩ := X6.virtualBack hx (y := (⟨TC, "charAt", "(I)C"⟩ : MethodName)) (z := (⟨TC, "charAt", "(I)C"⟩ : MethodName)) hown (mvT hZ (wd hw 152 rfl)) (mvT hZ (wd hw 153 rfl)) (notFace_of_selects (args := #[]) (mvT hZ (wd hw 155 rfl))) (mvT hZ (wd hw 155 rfl)) (mvT hZ (wd hw 154 rfl)) (by decide) (backOf (W := 0) (rmCac3 l Z a0 hw [] a1 tx va kb b0 b1 b2 b3 cs fv h0 n0 Z0 Fct Fco Es Fsv Fsc Ars Scs Sfm P_cs P_fv) hZ (wd hw 156 rfl) (wd hw 7 rfl) (by decide) (by decide)) q8a q8c (g := (mkF m 47 #[rv a1, iv 2, rv ar, iv 3] [(.int 0), (.ref a1)])) rfl (by rw [hml]; rfl) (Steps.refl _) (argsL := [(.int 0)]) (rest := []) (lenOf pd_12 rfl) rfl (by show 2 * 0 + _ ≤ _; exact Nat.le_of_eq rfl) (hb hby d26_47) (fun _ _ => ⟨rfl, e6, (by decide : 0 + 0 ≤ _), (by decide : 0 + 0 ≤ _)⟩)
  dsimp only [Pt.U, Pt.locs, Pt.cells, Pt.slots] at X8 lx8 yx8 zx8 st8 hQ8
  subst lx8 yx8 zx8
  obtain ⟨rfl, N8q, e8⟩ := hQ8
  have N8 := Fr.app N6 N8q
  refine own_lift (fun t k => st8.trans k) ?_
  show own_Go p.tables e below (T8.setTop (mkF m 50 #[rv a1, iv 2, rv ar, iv 3] [(.int (own_c8 b3))])) _
  have sg9 : ∀ t, Steps p.tables e below (T8.setTop (mkF m 52 #[rv a1, iv 2, rv ar, iv 3] [(.int 3), (.ref ar), (.int (own_c8 b3))])) t → Steps p.tables e below (T8.setTop (mkF m 50 #[rv a1, iv 2, rv ar, iv 3] [(.int (own_c8 b3))])) t := by
    intro t k
    refine XS.aloadN X8.here hx rfl (hb hby d26_50) rfl rfl ?_
    show Steps p.tables e below (T8.setTop (mkF m 51 #[rv a1, iv 2, rv ar, iv 3] [(.ref ar), (.int (own_c8 b3))])) _
    refine XS.iloadN X8.here hx rfl (hb hby d26_51) rfl ?_
    show Steps p.tables e below (T8.setTop (mkF m 52 #[rv a1, iv 2, rv ar, iv 3] [(.int 3), (.ref ar), (.int (own_c8 b3))])) _
    exact k
  refine own_lift sg9 ?_
  show own_Go p.tables e below (T8.setTop (mkF m 52 #[rv a1, iv 2, rv ar, iv 3] [(.int 3), (.ref ar), (.int (own_c8 b3))])) _
  obtain ⟨cl10, Ar10, qx10, Sx10, N10', H10', G10'⟩ := id (Arc)
  have hin10 : ¬ ((3 : Int32) < 0 ∨ cl10.slots.size ≤ ((3 : Int32)).toNatClampNeg) := inb_of Sx10 ⟨(by decide : ¬ ((3 : Int32) < (0 : Int32))), (by decide : (3 : Int32) < (4 : Int32))⟩
  have hat10 : cl10.slots[((3 : Int32)).toNatClampNeg]? = some (.int c3) := Has.at H10' hin10 rfl
  have sg11 : ∀ t, Steps p.tables e below (T8.setTop (mkF m 61 #[rv a1, iv 2, rv ar, iv 3] [(.int 1)])) t → Steps p.tables e below (T8.setTop (mkF m 52 #[rv a1, iv 2, rv ar, iv 3] [(.int 3), (.ref ar), (.int (own_c8 b3))])) t := by
    intro t k
    refine X8.caload hx (j := (3 : Int32)) (v := (.int c3)) (by rw [e8]; exact Ar10.1) (State.isArrayOf_alike hZ.alike Ar10.2.1) Ar10.2.2 hin10 hat10 (g := (mkF m 52 #[rv a1, iv 2, rv ar, iv 3] [(.int 3), (.ref ar), (.int (own_c8 b3))])) rfl rfl (hb hby d26_52) _ ?_
    show Steps p.tables e below (T8.setTop (mkF m 53 #[rv a1, iv 2, rv ar, iv 3] [(.int c3), (.int (own_c8 b3))])) _
    refine XS.icmpNo X8.here hx rfl (hb hby d26_53) rfl (teq d).2 ?_
    refine XS.iconst X8.here hx rfl (hb hby d26_56) ?_
    refine XS.goto X8.here hx rfl (pc0 := 57) (pc' := 61) rfl (hb hby d26_57) (by decide) (by decide) ?_
    show Steps p.tables e below (T8.setTop (mkF m 61 #[rv a1, iv 2, rv ar, iv 3] [(.int 1)])) _
    exact k
  refine own_lift sg11 ?_
  show own_Go p.tables e below (T8.setTop (mkF m 61 #[rv a1, iv 2, rv ar, iv 3] [(.int 1)])) _
  obtain ⟨fs, hr, hrun, hended, hW, hsame⟩ := X8.leave (v := some (.int 1)) (fun h => by rw [Bd.returns] at h; cases h)
  refine ⟨_, _, ?_, hrun, hended, _, _, rfl, ?_, ⟨_, rfl⟩, hW, hsame.mono (by decide) (by decide)⟩
  · exact retN X8 hx (t := .boolean) Bd.returns (by simp) (hb hby d26_61) hr
  · show Q_rmAt23 Z a1 ar tx va kb b0 b1 b2 b3 cs fv kc c0 c1 c2 c3 h0 n0 _ T8.heap _
    rw [e8]
    exact ⟨rfl, N8, rfl⟩
theorem d26_23 : decode method_3_code 23 = .ok (.aload_n 0, 1) := by decide +kernel
theorem d26_24 : decode method_3_code 24 = .ok (.iconst 0, 1) := by decide +kernel
theorem d26_25 : decode method_3_code 25 = .ok (.invokevirtual 16, 3) := by decide +kernel
theorem d26_28 : decode method_3_code 28 = .ok (.ifCond .ne 7, 3) := by decide +kernel
theorem d26_31 : decode method_3_code 31 = .ok (.iconst 1, 1) := by decide +kernel
theorem d26_32 : decode method_3_code 32 = .ok (.goto 4, 3) := by decide +kernel
theorem d26_36 : decode method_3_code 36 = .ok (.ireturn, 1) := by decide +kernel
def Q_rmAt24 (Z : State) (a1 : Addr) (ar : Addr) (tx : Addr) (va : Addr) (kb : ClassId) (b0 : Int32) (b1 : Int32) (b2 : Int32) (b3 : Int32) (cs : Int32) (fv : Value) (kc : ClassId) (c0 : Int32) (c1 : Int32) (c2 : Int32) (c3 : Int32) (h0 : Heap) (n0 : Nat) (v : Option Value) (h : Heap) (L : List Loc) : Prop := v = some (.int 1) ∧ Fr n0 L ∧ h = h0
theorem ef_rmAt24 (m : MethodId) (x0 : Addr) (x1 : Int32) (x2 : Addr) (x3 : Int32) : entryFrame m #[(.ref x0), (.int 2), (.ref x2), (.int 4)] 4 = mkF m 0 #[.val (.ref x0), .val (.int 2), .val (.ref x2), .val (.int 4)] [] := by first | (simp [entryFrame, mkF, argsToLocals, Value.category]; done) | rfl
set_option maxRecDepth 65536 in
set_option maxHeartbeats 40000000 in
theorem rmAt24 (l : Launch) (Z : State) (a0 : Array Value) (hw : ∀ d ∈ tables_1, d.before a0 Z = true) (ws : List Jvm.Cond) (a1 : Addr) (ar : Addr) (tx : Addr) (va : Addr) (kb : ClassId) (b0 : Int32) (b1 : Int32) (b2 : Int32) (b3 : Int32) (cs : Int32) (fv : Value) (kc : ClassId) (c0 : Int32) (c1 : Int32) (c2 : Int32) (c3 : Int32) (h0 : Heap) (n0 : Nat) (Z0 : n0 ≤ h0.size) (Ec : Exa Z h0 a1 TC) (Fct : Fld Z h0 a1 TC "text" dSx (.ref tx)) (Fco : Fld Z h0 a1 TC "offset" "I" (.int 4)) (Fcc : Fld Z h0 a1 TC "column" "I" (.int 1)) (Fcl : Fld Z h0 a1 TC "line" "I" (.int 2)) (Es : Exa Z h0 tx STx) (Fsv : Fld Z h0 tx STx "value" "[B" (.ref va)) (Fsc : Fld Z h0 tx STx "coder" "B" (.int 0)) (Ars : Arv Z h0 va kb .byte (4 : Int32) [(.int b0), (.int b1), (.int b2), (.int b3)] (.int 0)) (Scs : Sta Z h0 STx "COMPACT_STRINGS" "Z" (.int cs)) (Sfm : Sta Z h0 PCx "SIOOBE_FORMATTER" BFx fv) (Arc : Arv Z h0 ar kc .char (4 : Int32) [(.int c0), (.int c1), (.int c2), (.int c3)] (.int 0)) (P_cs : ¬ (cs = (0 : Int32))) (P_fv : fv.isRef = true) :
    MetFree l (⟨LW, "at", "(Lcom/example/libprocgraph/libprocgraph/reader/TextCursor;I[CI)Z"⟩ : MethodName) (head1 (Jvm.Cond.code (⟨LW, "at", "(Lcom/example/libprocgraph/libprocgraph/reader/TextCursor;I[CI)Z"⟩ : MethodName) method_3_code 4 (some .boolean) :: ws) ({ frames := 3, cells := 0, slots := 0, locals := 39 } : Room)) (fun a U => a = #[(.ref a1), (.int 2), (.ref ar), (.int 4)] ∧ Z.Warmed39 U.vm ∧ U.heap = h0) (fun _ _ _ _ _ => True) (fun _ U o U' => ∃ v L, o = .returned v ∧ Q_rmAt24 Z a1 ar tx va kb b0 b1 b2 b3 cs fv kc c0 c1 c2 c3 h0 n0 v U'.heap L ∧ FrameEnd U o U' L ({ frames := 3, cells := 0, slots := 0, locals := 39 } : Room).cells ({ frames := 3, cells := 0, slots := 0, locals := 39 } : Room).slots) := by
  refine MetFree.of_bodySF (plainFor_of_name pn_5) hisR ?_
  intro p e s m args below meth c s₁ Bd hml0 hP hK
  obtain ⟨rfl, hZ, hh⟩ := hP
  have hx := Bd.exec
  have hby := Bd.bytes
  have hml : c.maxLocals = 4 := hml0
  have hown : s.vm.findClass LW = some m.cls := findClass_of_methodNamed Bd.named
  have hnm := (name_of_methodNamed Bd.named Bd.method).1
  have X0 : Stand p l e ({ frames := 3, cells := 0, slots := 0, locals := 39 } : Room) s m #[(.ref a1), (.int 2), (.ref ar), (.int 4)] below meth c s₁ [] 0 0 := Stand.of_body Bd
  have e0 : s₁.heap = h0 := by rw [← hh, Bd.state]; rfl
  have N0 := Fr.nil n0
  refine own_go (own_lift (fun t k => castTop (ef_rmAt24 m a1 (2 : Int32) ar (4 : Int32)) k) ?_)
  show own_Go p.tables e below (s₁.setTop (mkF m 0 #[rv a1, iv 2, rv ar, iv 4] [])) _
  have sg1 : ∀ t, Steps p.tables e below (s₁.setTop (mkF m 1 #[rv a1, iv 2, rv ar, iv 4] [(.ref a1)])) t → Steps p.tables e below (s₁.setTop (mkF m 0 #[rv a1, iv 2, rv ar, iv 4] [])) t := by
    intro t k
    refine XS.aloadN X0.here hx rfl (hb hby d26_0) rfl rfl ?_
    show Steps p.tables e below (s₁.setTop (mkF m 1 #[rv a1, iv 2, rv ar, iv 4] [(.ref a1)])) _
    exact k
  refine own_lift sg1 ?_
  show own_Go p.tables e below (s₁.setTop (mkF m 1 #[rv a1, iv 2, rv ar, iv 4] [(.ref a1)])) _
  obtain ⟨cq2, kq2, q2a, q2b, q2c⟩ := isOf hZ e0 Ec
  obtain ⟨_, _, ⟨T2, Lx2, kx2, nx2⟩, -, X2, ⟨Lc2, hQ2, lx2, yx2, zx2⟩, st2⟩ := X0.virtualBack hx (y := (⟨TC, "line", "()I"⟩ : MethodName)) (z := (⟨TC, "line", "()I"⟩ : MethodName)) hown (mvT hZ (wd hw 129 rfl)) (mvT hZ (wd hw 130 rfl)) (notFace_of_selects (args := #[]) (mvT hZ (wd hw 132 rfl))) (mvT hZ (wd hw 132 rfl)) (mvT hZ (wd hw 131 rfl)) (by decide) (backOf (W := 0) (rmLine l Z a0 hw [] a1 (2 : Int32) h0 n0 Z0 Fcl) hZ (wd hw 133 rfl) (wd hw 7 rfl) (by decide) (by decide)) q2a q2c (g := (mkF m 1 #[rv a1, iv 2, rv ar, iv 4] [(.ref a1)])) rfl (by rw [hml]; rfl) (Steps.refl _) (argsL := []) (rest := []) (lenOf pd_5 rfl) rfl (by show 2 * 0 + _ ≤ _; exact Nat.le_of_eq rfl) (hb hby d26_1) (fun _ _ => ⟨rfl, e0, (by decide : 0 + 0 ≤ _), (by decide : 0 + 0 ≤ _)⟩)
  dsimp only [Pt.U, Pt.locs, Pt.cells, Pt.slots] at X2 lx2 yx2 zx2 st2 hQ2
  subst lx2 yx2 zx2
  obtain ⟨rfl, N2q, e2⟩ := hQ2
  have N2 := Fr.app N0 N2q
  refine own_lift (fun t k => st2.trans k) ?_
  show own_Go p.tables e below (T2.setTop (mkF m 4 #[rv a1, iv 2, rv ar, iv 4] [(.int 2)])) _
  have sg3 : ∀ t, Steps p.tables e below (T2.setTop (mkF m 9 #[rv a1, iv 2, rv ar, iv 4] [(.ref a1)])) t → Steps p.tables e below (T2.setTop (mkF m 4 #[rv a1, iv 2, rv ar, iv 4] [(.int 2)])) t := by
    intro t k
    refine XS.iloadN X2.here hx rfl (hb hby d26_4) rfl ?_
    show Steps p.tables e below (T2.setTop (mkF m 5 #[rv a1, iv 2, rv ar, iv 4] [(.int 2), (.int 2)])) _
    refine XS.icmpNo X2.here hx rfl (hb hby d26_5) rfl (teq (by decide : (2 : Int32) = (2 : Int32))).2 ?_
    refine XS.aloadN X2.here hx rfl (hb hby d26_8) rfl rfl ?_
    show Steps p.tables e below (T2.setTop (mkF m 9 #[rv a1, iv 2, rv ar, iv 4] [(.ref a1)])) _
    exact k
  refine own_lift sg3 ?_
  show own_Go p.tables e below (T2.setTop (mkF m 9 #[rv a1, iv 2, rv ar, iv 4] [(.ref a1)])) _
  obtain ⟨cq4, kq4, q4a, q4b, q4c⟩ := isOf hZ e2 Ec
  obtain ⟨_, _, ⟨T4, Lx4, kx4, nx4⟩, -, X4, ⟨Lc4, hQ4, lx4, yx4, zx4⟩, st4⟩ := X2.virtualBack hx (y := (⟨TC, "column", "()I"⟩ : MethodName)) (z := (⟨TC, "column", "()I"⟩ : MethodName)) hown (mvT hZ (wd hw 134 rfl)) (mvT hZ (wd hw 135 rfl)) (notFace_of_selects (args := #[]) (mvT hZ (wd hw 137 rfl))) (mvT hZ (wd hw 137 rfl)) (mvT hZ (wd hw 136 rfl)) (by decide) (backOf (W := 0) (rmCol l Z a0 hw [] a1 (1 : Int32) h0 n0 Z0 Fcc) hZ (wd hw 138 rfl) (wd hw 7 rfl) (by decide) (by decide)) q4a q4c (g := (mkF m 9 #[rv a1, iv 2, rv ar, iv 4] [(.ref a1)])) rfl (by rw [hml]; rfl) (Steps.refl _) (argsL := []) (rest := []) (lenOf pd_5 rfl) rfl (by show 2 * 0 + _ ≤ _; exact Nat.le_of_eq rfl) (hb hby d26_9) (fun _ _ => ⟨rfl, e2, (by decide : 0 + 0 ≤ _), (by decide : 0 + 0 ≤ _)⟩)
  dsimp only [Pt.U, Pt.locs, Pt.cells, Pt.slots] at X4 lx4 yx4 zx4 st4 hQ4
  subst lx4 yx4 zx4
  obtain ⟨rfl, N4q, e4⟩ := hQ4
  have N4 := Fr.app N2 N4q
  refine own_lift (fun t k => st4.trans k) ?_
  show own_Go p.tables e below (T4.setTop (mkF m 12 #[rv a1, iv 2, rv ar, iv 4] [(.int 1)])) _
  have sg5 : ∀ t, Steps p.tables e below (T4.setTop (mkF m 25 #[rv a1, iv 2, rv ar, iv 4] [(.int 0), (.ref a1)])) t → Steps p.tables e below (T4.setTop (mkF m 12 #[rv a1, iv 2, rv ar, iv 4] [(.int 1)])) t := by
    intro t k
    refine XS.iconst X4.here hx rfl (hb hby d26_12) ?_
    show Steps p.tables e below (T4.setTop (mkF m 13 #[rv a1, iv 2, rv ar, iv 4] [(.int 1), (.int 1)])) _
    refine XS.icmpYes X4.here hx rfl (pc0 := 13) (pc' := 18) rfl (hb hby d26_13) rfl (teq (by decide : (1 : Int32) = (1 : Int32))).1 (by decide) (by decide) ?_
    refine XS.iloadN X4.here hx rfl (hb hby d26_18) rfl ?_
    refine XS.iconst X4.here hx rfl (hb hby d26_19) ?_
    show Steps p.tables e below (T4.setTop (mkF m 20 #[rv a1, iv 2, rv ar, iv 4] [(.int 4), (.int 4)])) _
    refine XS.icmpNo X4.here hx rfl (hb hby d26_20) rfl (flt (by decide : ¬ ((4 : Int32) < (4 : Int32)))).1 ?_
    refine XS.aloadN X4.here hx rfl (hb hby d26_23) rfl rfl ?_
    refine XS.iconst X4.here hx rfl (hb hby d26_24) ?_
    show Steps p.tables e below (T4.setTop (mkF m 25 #[rv a1, iv 2, rv ar, iv 4] [(.int 0), (.ref a1)])) _
    exact k
  refine own_lift sg5 ?_
  show own_Go p.tables e below (T4.setTop (mkF m 25 #[rv a1, iv 2, rv ar, iv 4] [(.int 0), (.ref a1)])) _
  obtain ⟨cq6, kq6, q6a, q6b, q6c⟩ := isOf hZ e4 Ec
  obtain ⟨_, _, ⟨T6, Lx6, kx6, nx6⟩, -, X6, ⟨Lc6, hQ6, lx6, yx6, zx6⟩, st6⟩ := X4.virtualBack hx (y := (⟨TC, "has", "(I)Z"⟩ : MethodName)) (z := (⟨TC, "has", "(I)Z"⟩ : MethodName)) hown (mvT hZ (wd hw 147 rfl)) (mvT hZ (wd hw 148 rfl)) (notFace_of_selects (args := #[]) (mvT hZ (wd hw 150 rfl))) (mvT hZ (wd hw 150 rfl)) (mvT hZ (wd hw 149 rfl)) (by decide) (backOf (W := 0) (rmHas4 l Z a0 hw [] a1 tx va kb b0 b1 b2 b3 cs h0 n0 Z0 Fct Fco Es Fsv Fsc Ars Scs P_cs) hZ (wd hw 151 rfl) (wd hw 7 rfl) (by decide) (by decide)) q6a q6c (g := (mkF m 25 #[rv a1, iv 2, rv ar, iv 4] [(.int 0), (.ref a1)])) rfl (by rw [hml]; rfl) (Steps.refl _) (argsL := [(.int 0)]) (rest := []) (lenOf pd_1 rfl) rfl (by show 2 * 0 + _ ≤ _; exact Nat.le_of_eq rfl) (hb hby d26_25) (fun _ _ => ⟨rfl, e4, (by decide : 0 + 0 ≤ _), (by decide : 0 + 0 ≤ _)⟩)
  dsimp only [Pt.U, Pt.locs, Pt.cells, Pt.slots] at X6 lx6 yx6 zx6 st6 hQ6
  subst lx6 yx6 zx6
  obtain ⟨rfl, N6q, e6⟩ := hQ6
  have N6 := Fr.app N4 N6q
  refine own_lift (fun t k => st6.trans k) ?_
  show own_Go p.tables e below (T6.setTop (mkF m 28 #[rv a1, iv 2, rv ar, iv 4] [(.int 0)])) _
  have sg7 : ∀ t, Steps p.tables e below (T6.setTop (mkF m 36 #[rv a1, iv 2, rv ar, iv 4] [(.int 1)])) t → Steps p.tables e below (T6.setTop (mkF m 28 #[rv a1, iv 2, rv ar, iv 4] [(.int 0)])) t := by
    intro t k
    refine XS.ifNo X6.here hx rfl (hb hby d26_28) rfl ((if0 _ _).trans (teq (by decide : (0 : Int32) = (0 : Int32))).2) ?_
    show Steps p.tables e below (T6.setTop (mkF m 31 #[rv a1, iv 2, rv ar, iv 4] [])) _
    refine XS.iconst X6.here hx rfl (hb hby d26_31) ?_
    refine XS.goto X6.here hx rfl (pc0 := 32) (pc' := 36) rfl (hb hby d26_32) (by decide) (by decide) ?_
    show Steps p.tables e below (T6.setTop (mkF m 36 #[rv a1, iv 2, rv ar, iv 4] [(.int 1)])) _
    exact k
  refine own_lift sg7 ?_
  show own_Go p.tables e below (T6.setTop (mkF m 36 #[rv a1, iv 2, rv ar, iv 4] [(.int 1)])) _
  obtain ⟨fs, hr, hrun, hended, hW, hsame⟩ := X6.leave (v := some (.int 1)) (fun h => by rw [Bd.returns] at h; cases h)
  refine ⟨_, _, ?_, hrun, hended, _, _, rfl, ?_, ⟨_, rfl⟩, hW, hsame.mono (by decide) (by decide)⟩
  · exact retN X6 hx (t := .boolean) Bd.returns (by simp) (hb hby d26_36) hr
  · show Q_rmAt24 Z a1 ar tx va kb b0 b1 b2 b3 cs fv kc c0 c1 c2 c3 h0 n0 _ T6.heap _
    rw [e6]
    exact ⟨rfl, N6, rfl⟩
def Q_rmAt32 (Z : State) (a1 : Addr) (ar : Addr) (tx : Addr) (va : Addr) (kb : ClassId) (b0 : Int32) (b1 : Int32) (b2 : Int32) (b3 : Int32) (cs : Int32) (fv : Value) (kc : ClassId) (c0 : Int32) (c1 : Int32) (c2 : Int32) (c3 : Int32) (h0 : Heap) (n0 : Nat) (v : Option Value) (h : Heap) (L : List Loc) : Prop := v = some (.int 1) ∧ Fr n0 L ∧ h = h0
theorem ef_rmAt32 (m : MethodId) (x0 : Addr) (x1 : Int32) (x2 : Addr) (x3 : Int32) : entryFrame m #[(.ref x0), (.int 3), (.ref x2), (.int 2)] 4 = mkF m 0 #[.val (.ref x0), .val (.int 3), .val (.ref x2), .val (.int 2)] [] := by first | (simp [entryFrame, mkF, argsToLocals, Value.category]; done) | rfl
set_option maxRecDepth 65536 in
set_option maxHeartbeats 40000000 in
theorem rmAt32 (l : Launch) (Z : State) (a0 : Array Value) (hw : ∀ d ∈ tables_1, d.before a0 Z = true) (ws : List Jvm.Cond) (a1 : Addr) (ar : Addr) (tx : Addr) (va : Addr) (kb : ClassId) (b0 : Int32) (b1 : Int32) (b2 : Int32) (b3 : Int32) (cs : Int32) (fv : Value) (kc : ClassId) (c0 : Int32) (c1 : Int32) (c2 : Int32) (c3 : Int32) (h0 : Heap) (n0 : Nat) (Z0 : n0 ≤ h0.size) (Ec : Exa Z h0 a1 TC) (Fct : Fld Z h0 a1 TC "text" dSx (.ref tx)) (Fco : Fld Z h0 a1 TC "offset" "I" (.int 2)) (Fcc : Fld Z h0 a1 TC "column" "I" (.int 1)) (Fcl : Fld Z h0 a1 TC "line" "I" (.int 3)) (Es : Exa Z h0 tx STx) (Fsv : Fld Z h0 tx STx "value" "[B" (.ref va)) (Fsc : Fld Z h0 tx STx "coder" "B" (.int 0)) (Ars : Arv Z h0 va kb .byte (4 : Int32) [(.int b0), (.int b1), (.int b2), (.int b3)] (.int 0)) (Scs : Sta Z h0 STx "COMPACT_STRINGS" "Z" (.int cs)) (Sfm : Sta Z h0 PCx "SIOOBE_FORMATTER" BFx fv) (Arc : Arv Z h0 ar kc .char (4 : Int32) [(.int c0), (.int c1), (.int c2), (.int c3)] (.int 0)) (P_cs : ¬ (cs = (0 : Int32))) (P_fv : fv.isRef = true) (d : (own_c8 b2) = c2) :
    MetFree l (⟨LW, "at", "(Lcom/example/libprocgraph/libprocgraph/reader/TextCursor;I[CI)Z"⟩ : MethodName) (head1 (Jvm.Cond.code (⟨LW, "at", "(Lcom/example/libprocgraph/libprocgraph/reader/TextCursor;I[CI)Z"⟩ : MethodName) method_3_code 4 (some .boolean) :: ws) ({ frames := 5, cells := 0, slots := 0, locals := 66 } : Room)) (fun a U => a = #[(.ref a1), (.int 3), (.ref ar), (.int 2)] ∧ Z.Warmed39 U.vm ∧ U.heap = h0) (fun _ _ _ _ _ => True) (fun _ U o U' => ∃ v L, o = .returned v ∧ Q_rmAt32 Z a1 ar tx va kb b0 b1 b2 b3 cs fv kc c0 c1 c2 c3 h0 n0 v U'.heap L ∧ FrameEnd U o U' L ({ frames := 5, cells := 0, slots := 0, locals := 66 } : Room).cells ({ frames := 5, cells := 0, slots := 0, locals := 66 } : Room).slots) := by
  refine MetFree.of_bodySF (plainFor_of_name pn_5) hisR ?_
  intro p e s m args below meth c s₁ Bd hml0 hP hK
  obtain ⟨rfl, hZ, hh⟩ := hP
  have hx := Bd.exec
  have hby := Bd.bytes
  have hml : c.maxLocals = 4 := hml0
  have hown : s.vm.findClass LW = some m.cls := findClass_of_methodNamed Bd.named
  have hnm := (name_of_methodNamed Bd.named Bd.method).1
  have X0 : Stand p l e ({ frames := 5, cells := 0, slots := 0, locals := 66 } : Room) s m #[(.ref a1), (.int 3), (.ref ar), (.int 2)] below meth c s₁ [] 0 0 := Stand.of_body Bd
  have e0 : s₁.heap = h0 := by rw [← hh, Bd.state]; rfl
  have N0 := Fr.nil n0
  refine own_go (own_lift (fun t k => castTop (ef_rmAt32 m a1 (3 : Int32) ar (2 : Int32)) k) ?_)
  show own_Go p.tables e below (s₁.setTop (mkF m 0 #[rv a1, iv 3, rv ar, iv 2] [])) _
  have sg1 : ∀ t, Steps p.tables e below (s₁.setTop (mkF m 1 #[rv a1, iv 3, rv ar, iv 2] [(.ref a1)])) t → Steps p.tables e below (s₁.setTop (mkF m 0 #[rv a1, iv 3, rv ar, iv 2] [])) t := by
    intro t k
    refine XS.aloadN X0.here hx rfl (hb hby d26_0) rfl rfl ?_
    show Steps p.tables e below (s₁.setTop (mkF m 1 #[rv a1, iv 3, rv ar, iv 2] [(.ref a1)])) _
    exact k
  refine own_lift sg1 ?_
  show own_Go p.tables e below (s₁.setTop (mkF m 1 #[rv a1, iv 3, rv ar, iv 2] [(.ref a1)])) _
  obtain ⟨cq2, kq2, q2a, q2b, q2c⟩ := isOf hZ e0 Ec
  obtain ⟨_, _, ⟨T2, Lx2, kx2, nx2⟩, -, X2, ⟨Lc2, hQ2, lx2, yx2, zx2⟩, st2⟩ := X0.virtualBack hx (y := (⟨TC, "line", "()I"⟩ : MethodName)) (z := (⟨TC, "line", "()I"⟩ : MethodName)) hown (mvT hZ (wd hw 129 rfl)) (mvT hZ (wd hw 130 rfl)) (notFace_of_selects (args := #[]) (mvT hZ (wd hw 132 rfl))) (mvT hZ (wd hw 132 rfl)) (mvT hZ (wd hw 131 rfl)) (by decide) (backOf (W := 0) (rmLine l Z a0 hw [] a1 (3 : Int32) h0 n0 Z0 Fcl) hZ (wd hw 133 rfl) (wd hw 7 rfl) (by decide) (by decide)) q2a q2c (g := (mkF m 1 #[rv a1, iv 3, rv ar, iv 2] [(.ref a1)])) rfl (by rw [hml]; rfl) (Steps.refl _) (argsL := []) (rest := []) (lenOf pd_5 rfl) rfl (by show 2 * 0 + _ ≤ _; exact Nat.le_of_eq rfl) (hb hby d26_1) (fun _ _ => ⟨rfl, e0, (by decide : 0 + 0 ≤ _), (by decide : 0 + 0 ≤ _)⟩)
  dsimp only [Pt.U, Pt.locs, Pt.cells, Pt.slots] at X2 lx2 yx2 zx2 st2 hQ2
  subst lx2 yx2 zx2
  obtain ⟨rfl, N2q, e2⟩ := hQ2
  have N2 := Fr.app N0 N2q
  refine own_lift (fun t k => st2.trans k) ?_
  show own_Go p.tables e below (T2.setTop (mkF m 4 #[rv a1, iv 3, rv ar, iv 2] [(.int 3)])) _
  have sg3 : ∀ t, Steps p.tables e below (T2.setTop (mkF m 9 #[rv a1, iv 3, rv ar, iv 2] [(.ref a1)])) t → Steps p.tables e below (T2.setTop (mkF m 4 #[rv a1, iv 3, rv ar, iv 2] [(.int 3)])) t := by
    intro t k
    refine XS.iloadN X2.here hx rfl (hb hby d26_4) rfl ?_
    show Steps p.tables e below (T2.setTop (mkF m 5 #[rv a1, iv 3, rv ar, iv 2] [(.int 3), (.int 3)])) _
    refine XS.icmpNo X2.here hx rfl (hb hby d26_5) rfl (teq (by decide : (3 : Int32) = (3 : Int32))).2 ?_
    refine XS.aloadN X2.here hx rfl (hb hby d26_8) rfl rfl ?_
    show Steps p.tables e below (T2.setTop (mkF m 9 #[rv a1, iv 3, rv ar, iv 2] [(.ref a1)])) _
    exact k
  refine own_lift sg3 ?_
  show own_Go p.tables e below (T2.setTop (mkF m 9 #[rv a1, iv 3, rv ar, iv 2] [(.ref a1)])) _
  obtain ⟨cq4, kq4, q4a, q4b, q4c⟩ := isOf hZ e2 Ec
  obtain ⟨_, _, ⟨T4, Lx4, kx4, nx4⟩, -, X4, ⟨Lc4, hQ4, lx4, yx4, zx4⟩, st4⟩ := X2.virtualBack hx (y := (⟨TC, "column", "()I"⟩ : MethodName)) (z := (⟨TC, "column", "()I"⟩ : MethodName)) hown (mvT hZ (wd hw 134 rfl)) (mvT hZ (wd hw 135 rfl)) (notFace_of_selects (args := #[]) (mvT hZ (wd hw 137 rfl))) (mvT hZ (wd hw 137 rfl)) (mvT hZ (wd hw 136 rfl)) (by decide) (backOf (W := 0) (rmCol l Z a0 hw [] a1 (1 : Int32) h0 n0 Z0 Fcc) hZ (wd hw 138 rfl) (wd hw 7 rfl) (by decide) (by decide)) q4a q4c (g := (mkF m 9 #[rv a1, iv 3, rv ar, iv 2] [(.ref a1)])) rfl (by rw [hml]; rfl) (Steps.refl _) (argsL := []) (rest := []) (lenOf pd_5 rfl) rfl (by show 2 * 0 + _ ≤ _; exact Nat.le_of_eq rfl) (hb hby d26_9) (fun _ _ => ⟨rfl, e2, (by decide : 0 + 0 ≤ _), (by decide : 0 + 0 ≤ _)⟩)
  dsimp only [Pt.U, Pt.locs, Pt.cells, Pt.slots] at X4 lx4 yx4 zx4 st4 hQ4
  subst lx4 yx4 zx4
  obtain ⟨rfl, N4q, e4⟩ := hQ4
  have N4 := Fr.app N2 N4q
  refine own_lift (fun t k => st4.trans k) ?_
  show own_Go p.tables e below (T4.setTop (mkF m 12 #[rv a1, iv 3, rv ar, iv 2] [(.int 1)])) _
  have sg5 : ∀ t, Steps p.tables e below (T4.setTop (mkF m 39 #[rv a1, iv 3, rv ar, iv 2] [(.int 0), (.ref a1)])) t → Steps p.tables e below (T4.setTop (mkF m 12 #[rv a1, iv 3, rv ar, iv 2] [(.int 1)])) t := by
    intro t k
    refine XS.iconst X4.here hx rfl (hb hby d26_12) ?_
    show Steps p.tables e below (T4.setTop (mkF m 13 #[rv a1, iv 3, rv ar, iv 2] [(.int 1), (.int 1)])) _
    refine XS.icmpYes X4.here hx rfl (pc0 := 13) (pc' := 18) rfl (hb hby d26_13) rfl (teq (by decide : (1 : Int32) = (1 : Int32))).1 (by decide) (by decide) ?_
    refine XS.iloadN X4.here hx rfl (hb hby d26_18) rfl ?_
    refine XS.iconst X4.here hx rfl (hb hby d26_19) ?_
    show Steps p.tables e below (T4.setTop (mkF m 20 #[rv a1, iv 3, rv ar, iv 2] [(.int 4), (.int 2)])) _
    refine XS.icmpYes X4.here hx rfl (pc0 := 20) (pc' := 37) rfl (hb hby d26_20) rfl (tlt (by decide : (2 : Int32) < (4 : Int32))).1 (by decide) (by decide) ?_
    refine XS.aloadN X4.here hx rfl (hb hby d26_37) rfl rfl ?_
    refine XS.iconst X4.here hx rfl (hb hby d26_38) ?_
    show Steps p.tables e below (T4.setTop (mkF m 39 #[rv a1, iv 3, rv ar, iv 2] [(.int 0), (.ref a1)])) _
    exact k
  refine own_lift sg5 ?_
  show own_Go p.tables e below (T4.setTop (mkF m 39 #[rv a1, iv 3, rv ar, iv 2] [(.int 0), (.ref a1)])) _
  obtain ⟨cq6, kq6, q6a, q6b, q6c⟩ := isOf hZ e4 Ec
  obtain ⟨_, _, ⟨T6, Lx6, kx6, nx6⟩, -, X6, ⟨Lc6, hQ6, lx6, yx6, zx6⟩, st6⟩ := X4.virtualBack hx (y := (⟨TC, "has", "(I)Z"⟩ : MethodName)) (z := (⟨TC, "has", "(I)Z"⟩ : MethodName)) hown (mvT hZ (wd hw 147 rfl)) (mvT hZ (wd hw 148 rfl)) (notFace_of_selects (args := #[]) (mvT hZ (wd hw 150 rfl))) (mvT hZ (wd hw 150 rfl)) (mvT hZ (wd hw 149 rfl)) (by decide) (backOf (W := 0) (rmHas2 l Z a0 hw [] a1 tx va kb b0 b1 b2 b3 cs h0 n0 Z0 Fct Fco Es Fsv Fsc Ars Scs P_cs) hZ (wd hw 151 rfl) (wd hw 7 rfl) (by decide) (by decide)) q6a q6c (g := (mkF m 39 #[rv a1, iv 3, rv ar, iv 2] [(.int 0), (.ref a1)])) rfl (by rw [hml]; rfl) (Steps.refl _) (argsL := [(.int 0)]) (rest := []) (lenOf pd_1 rfl) rfl (by show 2 * 0 + _ ≤ _; exact Nat.le_of_eq rfl) (hb hby d26_39) (fun _ _ => ⟨rfl, e4, (by decide : 0 + 0 ≤ _), (by decide : 0 + 0 ≤ _)⟩)
  dsimp only [Pt.U, Pt.locs, Pt.cells, Pt.slots] at X6 lx6 yx6 zx6 st6 hQ6
  subst lx6 yx6 zx6
  obtain ⟨rfl, N6q, e6⟩ := hQ6
  have N6 := Fr.app N4 N6q
  refine own_lift (fun t k => st6.trans k) ?_
  show own_Go p.tables e below (T6.setTop (mkF m 42 #[rv a1, iv 3, rv ar, iv 2] [(.int 1)])) _
  have sg7 : ∀ t, Steps p.tables e below (T6.setTop (mkF m 47 #[rv a1, iv 3, rv ar, iv 2] [(.int 0), (.ref a1)])) t → Steps p.tables e below (T6.setTop (mkF m 42 #[rv a1, iv 3, rv ar, iv 2] [(.int 1)])) t := by
    intro t k
    refine XS.ifNo X6.here hx rfl (hb hby d26_42) rfl ((if0 _ _).trans (feq (by decide : ¬ ((1 : Int32) = (0 : Int32)))).1) ?_
    show Steps p.tables e below (T6.setTop (mkF m 45 #[rv a1, iv 3, rv ar, iv 2] [])) _
    refine XS.aloadN X6.here hx rfl (hb hby d26_45) rfl rfl ?_
    refine XS.iconst X6.here hx rfl (hb hby d26_46) ?_
    show Steps p.tables e below (T6.setTop (mkF m 47 #[rv a1, iv 3, rv ar, iv 2] [(.int 0), (.ref a1)])) _
    exact k
  refine own_lift sg7 ?_
  show own_Go p.tables e below (T6.setTop (mkF m 47 #[rv a1, iv 3, rv ar, iv 2] [(.int 0), (.ref a1)])) _
  obtain ⟨cq8, kq8, q8a, q8b, q8c⟩ := isOf hZ e6 Ec
  obtain ⟨_, _, ⟨T8, Lx8, kx8, nx8⟩, -, X8, ⟨Lc8, hQ8, lx8, yx8, zx8⟩, st8⟩ := X6.virtualBack hx (y := (⟨TC, "charAt", "(I)C"⟩ : MethodName)) (z := (⟨TC, "charAt", "(I)C"⟩ : MethodName)) hown (mvT hZ (wd hw 152 rfl)) (mvT hZ (wd hw 153 rfl)) (notFace_of_selects (args := #[]) (mvT hZ (wd hw 155 rfl))) (mvT hZ (wd hw 155 rfl)) (mvT hZ (wd hw 154 rfl)) (by decide) (backOf (W := 0) (rmCac2 l Z a0 hw [] a1 tx va kb b0 b1 b2 b3 cs fv h0 n0 Z0 Fct Fco Es Fsv Fsc Ars Scs Sfm P_cs P_fv) hZ (wd hw 156 rfl) (wd hw 7 rfl) (by decide) (by decide)) q8a q8c (g := (mkF m 47 #[rv a1, iv 3, rv ar, iv 2] [(.int 0), (.ref a1)])) rfl (by rw [hml]; rfl) (Steps.refl _) (argsL := [(.int 0)]) (rest := []) (lenOf pd_12 rfl) rfl (by show 2 * 0 + _ ≤ _; exact Nat.le_of_eq rfl) (hb hby d26_47) (fun _ _ => ⟨rfl, e6, (by decide : 0 + 0 ≤ _), (by decide : 0 + 0 ≤ _)⟩)
  dsimp only [Pt.U, Pt.locs, Pt.cells, Pt.slots] at X8 lx8 yx8 zx8 st8 hQ8
  subst lx8 yx8 zx8
  obtain ⟨rfl, N8q, e8⟩ := hQ8
  have N8 := Fr.app N6 N8q
  refine own_lift (fun t k => st8.trans k) ?_
  show own_Go p.tables e below (T8.setTop (mkF m 50 #[rv a1, iv 3, rv ar, iv 2] [(.int (own_c8 b2))])) _
  have sg9 : ∀ t, Steps p.tables e below (T8.setTop (mkF m 52 #[rv a1, iv 3, rv ar, iv 2] [(.int 2), (.ref ar), (.int (own_c8 b2))])) t → Steps p.tables e below (T8.setTop (mkF m 50 #[rv a1, iv 3, rv ar, iv 2] [(.int (own_c8 b2))])) t := by
    intro t k
    refine XS.aloadN X8.here hx rfl (hb hby d26_50) rfl rfl ?_
    show Steps p.tables e below (T8.setTop (mkF m 51 #[rv a1, iv 3, rv ar, iv 2] [(.ref ar), (.int (own_c8 b2))])) _
    refine XS.iloadN X8.here hx rfl (hb hby d26_51) rfl ?_
    show Steps p.tables e below (T8.setTop (mkF m 52 #[rv a1, iv 3, rv ar, iv 2] [(.int 2), (.ref ar), (.int (own_c8 b2))])) _
    exact k
  refine own_lift sg9 ?_
  show own_Go p.tables e below (T8.setTop (mkF m 52 #[rv a1, iv 3, rv ar, iv 2] [(.int 2), (.ref ar), (.int (own_c8 b2))])) _
  obtain ⟨cl10, Ar10, qx10, Sx10, N10', H10', G10'⟩ := id (Arc)
  have hin10 : ¬ ((2 : Int32) < 0 ∨ cl10.slots.size ≤ ((2 : Int32)).toNatClampNeg) := inb_of Sx10 ⟨(by decide : ¬ ((2 : Int32) < (0 : Int32))), (by decide : (2 : Int32) < (4 : Int32))⟩
  have hat10 : cl10.slots[((2 : Int32)).toNatClampNeg]? = some (.int c2) := Has.at H10' hin10 rfl
  have sg11 : ∀ t, Steps p.tables e below (T8.setTop (mkF m 61 #[rv a1, iv 3, rv ar, iv 2] [(.int 1)])) t → Steps p.tables e below (T8.setTop (mkF m 52 #[rv a1, iv 3, rv ar, iv 2] [(.int 2), (.ref ar), (.int (own_c8 b2))])) t := by
    intro t k
    refine X8.caload hx (j := (2 : Int32)) (v := (.int c2)) (by rw [e8]; exact Ar10.1) (State.isArrayOf_alike hZ.alike Ar10.2.1) Ar10.2.2 hin10 hat10 (g := (mkF m 52 #[rv a1, iv 3, rv ar, iv 2] [(.int 2), (.ref ar), (.int (own_c8 b2))])) rfl rfl (hb hby d26_52) _ ?_
    show Steps p.tables e below (T8.setTop (mkF m 53 #[rv a1, iv 3, rv ar, iv 2] [(.int c2), (.int (own_c8 b2))])) _
    refine XS.icmpNo X8.here hx rfl (hb hby d26_53) rfl (teq d).2 ?_
    refine XS.iconst X8.here hx rfl (hb hby d26_56) ?_
    refine XS.goto X8.here hx rfl (pc0 := 57) (pc' := 61) rfl (hb hby d26_57) (by decide) (by decide) ?_
    show Steps p.tables e below (T8.setTop (mkF m 61 #[rv a1, iv 3, rv ar, iv 2] [(.int 1)])) _
    exact k
  refine own_lift sg11 ?_
  show own_Go p.tables e below (T8.setTop (mkF m 61 #[rv a1, iv 3, rv ar, iv 2] [(.int 1)])) _
  obtain ⟨fs, hr, hrun, hended, hW, hsame⟩ := X8.leave (v := some (.int 1)) (fun h => by rw [Bd.returns] at h; cases h)
  refine ⟨_, _, ?_, hrun, hended, _, _, rfl, ?_, ⟨_, rfl⟩, hW, hsame.mono (by decide) (by decide)⟩
  · exact retN X8 hx (t := .boolean) Bd.returns (by simp) (hb hby d26_61) hr
  · show Q_rmAt32 Z a1 ar tx va kb b0 b1 b2 b3 cs fv kc c0 c1 c2 c3 h0 n0 _ T8.heap _
    rw [e8]
    exact ⟨rfl, N8, rfl⟩
def Q_rmAt33 (Z : State) (a1 : Addr) (ar : Addr) (tx : Addr) (va : Addr) (kb : ClassId) (b0 : Int32) (b1 : Int32) (b2 : Int32) (b3 : Int32) (cs : Int32) (fv : Value) (kc : ClassId) (c0 : Int32) (c1 : Int32) (c2 : Int32) (c3 : Int32) (h0 : Heap) (n0 : Nat) (v : Option Value) (h : Heap) (L : List Loc) : Prop := v = some (.int 1) ∧ Fr n0 L ∧ h = h0
theorem ef_rmAt33 (m : MethodId) (x0 : Addr) (x3 : Int32) (x2 : Addr) (x3 : Int32) : entryFrame m #[(.ref x0), (.int 3), (.ref x2), (.int 3)] 4 = mkF m 0 #[.val (.ref x0), .val (.int 3), .val (.ref x2), .val (.int 3)] [] := by first | (simp [entryFrame, mkF, argsToLocals, Value.category]; done) | rfl
set_option maxRecDepth 65536 in
set_option maxHeartbeats 40000000 in
theorem rmAt33 (l : Launch) (Z : State) (a0 : Array Value) (hw : ∀ d ∈ tables_1, d.before a0 Z = true) (ws : List Jvm.Cond) (a1 : Addr) (ar : Addr) (tx : Addr) (va : Addr) (kb : ClassId) (b0 : Int32) (b1 : Int32) (b2 : Int32) (b3 : Int32) (cs : Int32) (fv : Value) (kc : ClassId) (c0 : Int32) (c1 : Int32) (c2 : Int32) (c3 : Int32) (h0 : Heap) (n0 : Nat) (Z0 : n0 ≤ h0.size) (Ec : Exa Z h0 a1 TC) (Fct : Fld Z h0 a1 TC "text" dSx (.ref tx)) (Fco : Fld Z h0 a1 TC "offset" "I" (.int 3)) (Fcc : Fld Z h0 a1 TC "column" "I" (.int 1)) (Fcl : Fld Z h0 a1 TC "line" "I" (.int 3)) (Es : Exa Z h0 tx STx) (Fsv : Fld Z h0 tx STx "value" "[B" (.ref va)) (Fsc : Fld Z h0 tx STx "coder" "B" (.int 0)) (Ars : Arv Z h0 va kb .byte (4 : Int32) [(.int b0), (.int b1), (.int b2), (.int b3)] (.int 0)) (Scs : Sta Z h0 STx "COMPACT_STRINGS" "Z" (.int cs)) (Sfm : Sta Z h0 PCx "SIOOBE_FORMATTER" BFx fv) (Arc : Arv Z h0 ar kc .char (4 : Int32) [(.int c0), (.int c1), (.int c2), (.int c3)] (.int 0)) (P_cs : ¬ (cs = (0 : Int32))) (P_fv : fv.isRef = true) (d : (own_c8 b3) = c3) :
    MetFree l (⟨LW, "at", "(Lcom/example/libprocgraph/libprocgraph/reader/TextCursor;I[CI)Z"⟩ : MethodName) (head1 (Jvm.Cond.code (⟨LW, "at", "(Lcom/example/libprocgraph/libprocgraph/reader/TextCursor;I[CI)Z"⟩ : MethodName) method_3_code 4 (some .boolean) :: ws) ({ frames := 5, cells := 0, slots := 0, locals := 66 } : Room)) (fun a U => a = #[(.ref a1), (.int 3), (.ref ar), (.int 3)] ∧ Z.Warmed39 U.vm ∧ U.heap = h0) (fun _ _ _ _ _ => True) (fun _ U o U' => ∃ v L, o = .returned v ∧ Q_rmAt33 Z a1 ar tx va kb b0 b1 b2 b3 cs fv kc c0 c1 c2 c3 h0 n0 v U'.heap L ∧ FrameEnd U o U' L ({ frames := 5, cells := 0, slots := 0, locals := 66 } : Room).cells ({ frames := 5, cells := 0, slots := 0, locals := 66 } : Room).slots) := by
  refine MetFree.of_bodySF (plainFor_of_name pn_5) hisR ?_
  intro p e s m args below meth c s₁ Bd hml0 hP hK
  obtain ⟨rfl, hZ, hh⟩ := hP
  have hx := Bd.exec
  have hby := Bd.bytes
  have hml : c.maxLocals = 4 := hml0
  have hown : s.vm.findClass LW = some m.cls := findClass_of_methodNamed Bd.named
  have hnm := (name_of_methodNamed Bd.named Bd.method).1
  have X0 : Stand p l e ({ frames := 5, cells := 0, slots := 0, locals := 66 } : Room) s m #[(.ref a1), (.int 3), (.ref ar), (.int 3)] below meth c s₁ [] 0 0 := Stand.of_body Bd
  have e0 : s₁.heap = h0 := by rw [← hh, Bd.state]; rfl
  have N0 := Fr.nil n0
  refine own_go (own_lift (fun t k => castTop (ef_rmAt33 m a1 (3 : Int32) ar (3 : Int32)) k) ?_)
  show own_Go p.tables e below (s₁.setTop (mkF m 0 #[rv a1, iv 3, rv ar, iv 3] [])) _
  have sg1 : ∀ t, Steps p.tables e below (s₁.setTop (mkF m 1 #[rv a1, iv 3, rv ar, iv 3] [(.ref a1)])) t → Steps p.tables e below (s₁.setTop (mkF m 0 #[rv a1, iv 3, rv ar, iv 3] [])) t := by
    intro t k
    refine XS.aloadN X0.here hx rfl (hb hby d26_0) rfl rfl ?_
    show Steps p.tables e below (s₁.setTop (mkF m 1 #[rv a1, iv 3, rv ar, iv 3] [(.ref a1)])) _
    exact k
  refine own_lift sg1 ?_
  show own_Go p.tables e below (s₁.setTop (mkF m 1 #[rv a1, iv 3, rv ar, iv 3] [(.ref a1)])) _
  obtain ⟨cq2, kq2, q2a, q2b, q2c⟩ := isOf hZ e0 Ec
  obtain ⟨_, _, ⟨T2, Lx2, kx2, nx2⟩, -, X2, ⟨Lc2, hQ2, lx2, yx2, zx2⟩, st2⟩ := X0.virtualBack hx (y := (⟨TC, "line", "()I"⟩ : MethodName)) (z := (⟨TC, "line", "()I"⟩ : MethodName)) hown (mvT hZ (wd hw 129 rfl)) (mvT hZ (wd hw 130 rfl)) (notFace_of_selects (args := #[]) (mvT hZ (wd hw 132 rfl))) (mvT hZ (wd hw 132 rfl)) (mvT hZ (wd hw 131 rfl)) (by decide) (backOf (W := 0) (rmLine l Z a0 hw [] a1 (3 : Int32) h0 n0 Z0 Fcl) hZ (wd hw 133 rfl) (wd hw 7 rfl) (by decide) (by decide)) q2a q2c (g := (mkF m 1 #[rv a1, iv 3, rv ar, iv 3] [(.ref a1)])) rfl (by rw [hml]; rfl) (Steps.refl _) (argsL := []) (rest := []) (lenOf pd_5 rfl) rfl (by show 2 * 0 + _ ≤ _; exact Nat.le_of_eq rfl) (hb hby d26_1) (fun _ _ => ⟨rfl, e0, (by decide : 0 + 0 ≤ _), (by decide : 0 + 0 ≤ _)⟩)
  dsimp only [Pt.U, Pt.locs, Pt.cells, Pt.slots] at X2 lx2 yx2 zx2 st2 hQ2
  subst lx2 yx2 zx2
  obtain ⟨rfl, N2q, e2⟩ := hQ2
  have N2 := Fr.app N0 N2q
  refine own_lift (fun t k => st2.trans k) ?_
  show own_Go p.tables e below (T2.setTop (mkF m 4 #[rv a1, iv 3, rv ar, iv 3] [(.int 3)])) _
  have sg3 : ∀ t, Steps p.tables e below (T2.setTop (mkF m 9 #[rv a1, iv 3, rv ar, iv 3] [(.ref a1)])) t → Steps p.tables e below (T2.setTop (mkF m 4 #[rv a1, iv 3, rv ar, iv 3] [(.int 3)])) t := by
    intro t k
    refine XS.iloadN X2.here hx rfl (hb hby d26_4) rfl ?_
    show Steps p.tables e below (T2.setTop (mkF m 5 #[rv a1, iv 3, rv ar, iv 3] [(.int 3), (.int 3)])) _
    refine XS.icmpNo X2.here hx rfl (hb hby d26_5) rfl (teq (by decide : (3 : Int32) = (3 : Int32))).2 ?_
    refine XS.aloadN X2.here hx rfl (hb hby d26_8) rfl rfl ?_
    show Steps p.tables e below (T2.setTop (mkF m 9 #[rv a1, iv 3, rv ar, iv 3] [(.ref a1)])) _
    exact k
  refine own_lift sg3 ?_
  show own_Go p.tables e below (T2.setTop (mkF m 9 #[rv a1, iv 3, rv ar, iv 3] [(.ref a1)])) _
  obtain ⟨cq4, kq4, q4a, q4b, q4c⟩ := isOf hZ e2 Ec
  obtain ⟨_, _, ⟨T4, Lx4, kx4, nx4⟩, -, X4, ⟨Lc4, hQ4, lx4, yx4, zx4⟩, st4⟩ := X2.virtualBack hx (y := (⟨TC, "column", "()I"⟩ : MethodName)) (z := (⟨TC, "column", "()I"⟩ : MethodName)) hown (mvT hZ (wd hw 134 rfl)) (mvT hZ (wd hw 135 rfl)) (notFace_of_selects (args := #[]) (mvT hZ (wd hw 137 rfl))) (mvT hZ (wd hw 137 rfl)) (mvT hZ (wd hw 136 rfl)) (by decide) (backOf (W := 0) (rmCol l Z a0 hw [] a1 (1 : Int32) h0 n0 Z0 Fcc) hZ (wd hw 138 rfl) (wd hw 7 rfl) (by decide) (by decide)) q4a q4c (g := (mkF m 9 #[rv a1, iv 3, rv ar, iv 3] [(.ref a1)])) rfl (by rw [hml]; rfl) (Steps.refl _) (argsL := []) (rest := []) (lenOf pd_5 rfl) rfl (by show 2 * 0 + _ ≤ _; exact Nat.le_of_eq rfl) (hb hby d26_9) (fun _ _ => ⟨rfl, e2, (by decide : 0 + 0 ≤ _), (by decide : 0 + 0 ≤ _)⟩)
  dsimp only [Pt.U, Pt.locs, Pt.cells, Pt.slots] at X4 lx4 yx4 zx4 st4 hQ4
  subst lx4 yx4 zx4
  obtain ⟨rfl, N4q, e4⟩ := hQ4
  have N4 := Fr.app N2 N4q
  refine own_lift (fun t k => st4.trans k) ?_
  show own_Go p.tables e below (T4.setTop (mkF m 12 #[rv a1, iv 3, rv ar, iv 3] [(.int 1)])) _
  have sg5 : ∀ t, Steps p.tables e below (T4.setTop (mkF m 39 #[rv a1, iv 3, rv ar, iv 3] [(.int 0), (.ref a1)])) t → Steps p.tables e below (T4.setTop (mkF m 12 #[rv a1, iv 3, rv ar, iv 3] [(.int 1)])) t := by
    intro t k
    refine XS.iconst X4.here hx rfl (hb hby d26_12) ?_
    show Steps p.tables e below (T4.setTop (mkF m 13 #[rv a1, iv 3, rv ar, iv 3] [(.int 1), (.int 1)])) _
    refine XS.icmpYes X4.here hx rfl (pc0 := 13) (pc' := 18) rfl (hb hby d26_13) rfl (teq (by decide : (1 : Int32) = (1 : Int32))).1 (by decide) (by decide) ?_
    refine XS.iloadN X4.here hx rfl (hb hby d26_18) rfl ?_
    refine XS.iconst X4.here hx rfl (hb hby d26_19) ?_
    show Steps p.tables e below (T4.setTop (mkF m 20 #[rv a1, iv 3, rv ar, iv 3] [(.int 4), (.int 3)])) _
    refine XS.icmpYes X4.here hx rfl (pc0 := 20) (pc' := 37) rfl (hb hby d26_20) rfl (tlt (by decide : (3 : Int32) < (4 : Int32))).1 (by decide) (by decide) ?_
    refine XS.aloadN X4.here hx rfl (hb hby d26_37) rfl rfl ?_
    refine XS.iconst X4.here hx rfl (hb hby d26_38) ?_
    show Steps p.tables e below (T4.setTop (mkF m 39 #[rv a1, iv 3, rv ar, iv 3] [(.int 0), (.ref a1)])) _
    exact k
  refine own_lift sg5 ?_
  show own_Go p.tables e below (T4.setTop (mkF m 39 #[rv a1, iv 3, rv ar, iv 3] [(.int 0), (.ref a1)])) _
  obtain ⟨cq6, kq6, q6a, q6b, q6c⟩ := isOf hZ e4 Ec
  obtain ⟨_, _, ⟨T6, Lx6, kx6, nx6⟩, -, X6, ⟨Lc6, hQ6, lx6, yx6, zx6⟩, st6⟩ := X4.virtualBack hx (y := (⟨TC, "has", "(I)Z"⟩ : MethodName)) (z := (⟨TC, "has", "(I)Z"⟩ : MethodName)) hown (mvT hZ (wd hw 147 rfl)) (mvT hZ (wd hw 148 rfl)) (notFace_of_selects (args := #[]) (mvT hZ (wd hw 150 rfl))) (mvT hZ (wd hw 150 rfl)) (mvT hZ (wd hw 149 rfl)) (by decide) (backOf (W := 0) (rmHas3 l Z a0 hw [] a1 tx va kb b0 b1 b2 b3 cs h0 n0 Z0 Fct Fco Es Fsv Fsc Ars Scs P_cs) hZ (wd hw 151 rfl) (wd hw 7 rfl) (by decide) (by decide)) q6a q6c (g := (mkF m 39 #[rv a1, iv 3, rv ar, iv 3] [(.int 0), (.ref a1)])) rfl (by rw [hml]; rfl) (Steps.refl _) (argsL := [(.int 0)]) (rest := []) (lenOf pd_1 rfl) rfl (by show 2 * 0 + _ ≤ _; exact Nat.le_of_eq rfl) (hb hby d26_39) (fun _ _ => ⟨rfl, e4, (by decide : 0 + 0 ≤ _), (by decide : 0 + 0 ≤ _)⟩)
  dsimp only [Pt.U, Pt.locs, Pt.cells, Pt.slots] at X6 lx6 yx6 zx6 st6 hQ6
  subst lx6 yx6 zx6
  obtain ⟨rfl, N6q, e6⟩ := hQ6
  have N6 := Fr.app N4 N6q
  refine own_lift (fun t k => st6.trans k) ?_
  show own_Go p.tables e below (T6.setTop (mkF m 42 #[rv a1, iv 3, rv ar, iv 3] [(.int 1)])) _
  have sg7 : ∀ t, Steps p.tables e below (T6.setTop (mkF m 47 #[rv a1, iv 3, rv ar, iv 3] [(.int 0), (.ref a1)])) t → Steps p.tables e below (T6.setTop (mkF m 42 #[rv a1, iv 3, rv ar, iv 3] [(.int 1)])) t := by
    intro t k
    refine XS.ifNo X6.here hx rfl (hb hby d26_42) rfl ((if0 _ _).trans (feq (by decide : ¬ ((1 : Int32) = (0 : Int32)))).1) ?_
    show Steps p.tables e below (T6.setTop (mkF m 45 #[rv a1, iv 3, rv ar, iv 3] [])) _
    refine XS.aloadN X6.here hx rfl (hb hby d26_45) rfl rfl ?_
    refine XS.iconst X6.here hx rfl (hb hby d26_46) ?_
    show Steps p.tables e below (T6.setTop (mkF m 47 #[rv a1, iv 3, rv ar, iv 3] [(.int 0), (.ref a1)])) _
    exact k
  refine own_lift sg7 ?_
  show own_Go p.tables e below (T6.setTop (mkF m 47 #[rv a1, iv 3, rv ar, iv 3] [(.int 0), (.ref a1)])) _
  obtain ⟨cq8, kq8, q8a, q8b, q8c⟩ := isOf hZ e6 Ec
  obtain ⟨_, _, ⟨T8, Lx8, kx8, nx8⟩, -, X8, ⟨Lc8, hQ8, lx8, yx8, zx8⟩, st8⟩ := X6.virtualBack hx (y := (⟨TC, "charAt", "(I)C"⟩ : MethodName)) (z := (⟨TC, "charAt", "(I)C"⟩ : MethodName)) hown (mvT hZ (wd hw 152 rfl)) (mvT hZ (wd hw 153 rfl)) (notFace_of_selects (args := #[]) (mvT hZ (wd hw 155 rfl))) (mvT hZ (wd hw 155 rfl)) (mvT hZ (wd hw 154 rfl)) (by decide) (backOf (W := 0) (rmCac3 l Z a0 hw [] a1 tx va kb b0 b1 b2 b3 cs fv h0 n0 Z0 Fct Fco Es Fsv Fsc Ars Scs Sfm P_cs P_fv) hZ (wd hw 156 rfl) (wd hw 7 rfl) (by decide) (by decide)) q8a q8c (g := (mkF m 47 #[rv a1, iv 3, rv ar, iv 3] [(.int 0), (.ref a1)])) rfl (by rw [hml]; rfl) (Steps.refl _) (argsL := [(.int 0)]) (rest := []) (lenOf pd_12 rfl) rfl (by show 2 * 0 + _ ≤ _; exact Nat.le_of_eq rfl) (hb hby d26_47) (fun _ _ => ⟨rfl, e6, (by decide : 0 + 0 ≤ _), (by decide : 0 + 0 ≤ _)⟩)
  dsimp only [Pt.U, Pt.locs, Pt.cells, Pt.slots] at X8 lx8 yx8 zx8 st8 hQ8
  subst lx8 yx8 zx8
  obtain ⟨rfl, N8q, e8⟩ := hQ8
  have N8 := Fr.app N6 N8q
  refine own_lift (fun t k => st8.trans k) ?_
  show own_Go p.tables e below (T8.setTop (mkF m 50 #[rv a1, iv 3, rv ar, iv 3] [(.int (own_c8 b3))])) _
  have sg9 : ∀ t, Steps p.tables e below (T8.setTop (mkF m 52 #[rv a1, iv 3, rv ar, iv 3] [(.int 3), (.ref ar), (.int (own_c8 b3))])) t → Steps p.tables e below (T8.setTop (mkF m 50 #[rv a1, iv 3, rv ar, iv 3] [(.int (own_c8 b3))])) t := by
    intro t k
    refine XS.aloadN X8.here hx rfl (hb hby d26_50) rfl rfl ?_
    show Steps p.tables e below (T8.setTop (mkF m 51 #[rv a1, iv 3, rv ar, iv 3] [(.ref ar), (.int (own_c8 b3))])) _
    refine XS.iloadN X8.here hx rfl (hb hby d26_51) rfl ?_
    show Steps p.tables e below (T8.setTop (mkF m 52 #[rv a1, iv 3, rv ar, iv 3] [(.int 3), (.ref ar), (.int (own_c8 b3))])) _
    exact k
  refine own_lift sg9 ?_
  show own_Go p.tables e below (T8.setTop (mkF m 52 #[rv a1, iv 3, rv ar, iv 3] [(.int 3), (.ref ar), (.int (own_c8 b3))])) _
  obtain ⟨cl10, Ar10, qx10, Sx10, N10', H10', G10'⟩ := id (Arc)
  have hin10 : ¬ ((3 : Int32) < 0 ∨ cl10.slots.size ≤ ((3 : Int32)).toNatClampNeg) := inb_of Sx10 ⟨(by decide : ¬ ((3 : Int32) < (0 : Int32))), (by decide : (3 : Int32) < (4 : Int32))⟩
  have hat10 : cl10.slots[((3 : Int32)).toNatClampNeg]? = some (.int c3) := Has.at H10' hin10 rfl
  have sg11 : ∀ t, Steps p.tables e below (T8.setTop (mkF m 61 #[rv a1, iv 3, rv ar, iv 3] [(.int 1)])) t → Steps p.tables e below (T8.setTop (mkF m 52 #[rv a1, iv 3, rv ar, iv 3] [(.int 3), (.ref ar), (.int (own_c8 b3))])) t := by
    intro t k
    refine X8.caload hx (j := (3 : Int32)) (v := (.int c3)) (by rw [e8]; exact Ar10.1) (State.isArrayOf_alike hZ.alike Ar10.2.1) Ar10.2.2 hin10 hat10 (g := (mkF m 52 #[rv a1, iv 3, rv ar, iv 3] [(.int 3), (.ref ar), (.int (own_c8 b3))])) rfl rfl (hb hby d26_52) _ ?_
    show Steps p.tables e below (T8.setTop (mkF m 53 #[rv a1, iv 3, rv ar, iv 3] [(.int c3), (.int (own_c8 b3))])) _
    refine XS.icmpNo X8.here hx rfl (hb hby d26_53) rfl (teq d).2 ?_
    refine XS.iconst X8.here hx rfl (hb hby d26_56) ?_
    refine XS.goto X8.here hx rfl (pc0 := 57) (pc' := 61) rfl (hb hby d26_57) (by decide) (by decide) ?_
    show Steps p.tables e below (T8.setTop (mkF m 61 #[rv a1, iv 3, rv ar, iv 3] [(.int 1)])) _
    exact k
  refine own_lift sg11 ?_
  show own_Go p.tables e below (T8.setTop (mkF m 61 #[rv a1, iv 3, rv ar, iv 3] [(.int 1)])) _
  obtain ⟨fs, hr, hrun, hended, hW, hsame⟩ := X8.leave (v := some (.int 1)) (fun h => by rw [Bd.returns] at h; cases h)
  refine ⟨_, _, ?_, hrun, hended, _, _, rfl, ?_, ⟨_, rfl⟩, hW, hsame.mono (by decide) (by decide)⟩
  · exact retN X8 hx (t := .boolean) Bd.returns (by simp) (hb hby d26_61) hr
  · show Q_rmAt33 Z a1 ar tx va kb b0 b1 b2 b3 cs fv kc c0 c1 c2 c3 h0 n0 _ T8.heap _
    rw [e8]
    exact ⟨rfl, N8, rfl⟩
def Q_rmAt34 (Z : State) (a1 : Addr) (ar : Addr) (tx : Addr) (va : Addr) (kb : ClassId) (b0 : Int32) (b1 : Int32) (b2 : Int32) (b3 : Int32) (cs : Int32) (fv : Value) (kc : ClassId) (c0 : Int32) (c1 : Int32) (c2 : Int32) (c3 : Int32) (h0 : Heap) (n0 : Nat) (v : Option Value) (h : Heap) (L : List Loc) : Prop := v = some (.int 1) ∧ Fr n0 L ∧ h = h0
theorem ef_rmAt34 (m : MethodId) (x0 : Addr) (x1 : Int32) (x2 : Addr) (x3 : Int32) : entryFrame m #[(.ref x0), (.int 3), (.ref x2), (.int 4)] 4 = mkF m 0 #[.val (.ref x0), .val (.int 3), .val (.ref x2), .val (.int 4)] [] := by first | (simp [entryFrame, mkF, argsToLocals, Value.category]; done) | rfl
set_option maxRecDepth 65536 in
set_option maxHeartbeats 40000000 in
theorem rmAt34 (l : Launch) (Z : State) (a0 : Array Value) (hw : ∀ d ∈ tables_1, d.before a0 Z = true) (ws : List Jvm.Cond) (a1 : Addr) (ar : Addr) (tx : Addr) (va : Addr) (kb : ClassId) (b0 : Int32) (b1 : Int32) (b2 : Int32) (b3 : Int32) (cs : Int32) (fv : Value) (kc : ClassId) (c0 : Int32) (c1 : Int32) (c2 : Int32) (c3 : Int32) (h0 : Heap) (n0 : Nat) (Z0 : n0 ≤ h0.size) (Ec : Exa Z h0 a1 TC) (Fct : Fld Z h0 a1 TC "text" dSx (.ref tx)) (Fco : Fld Z h0 a1 TC "offset" "I" (.int 4)) (Fcc : Fld Z h0 a1 TC "column" "I" (.int 1)) (Fcl : Fld Z h0 a1 TC "line" "I" (.int 3)) (Es : Exa Z h0 tx STx) (Fsv : Fld Z h0 tx STx "value" "[B" (.ref va)) (Fsc : Fld Z h0 tx STx "coder" "B" (.int 0)) (Ars : Arv Z h0 va kb .byte (4 : Int32) [(.int b0), (.int b1), (.int b2), (.int b3)] (.int 0)) (Scs : Sta Z h0 STx "COMPACT_STRINGS" "Z" (.int cs)) (Sfm : Sta Z h0 PCx "SIOOBE_FORMATTER" BFx fv) (Arc : Arv Z h0 ar kc .char (4 : Int32) [(.int c0), (.int c1), (.int c2), (.int c3)] (.int 0)) (P_cs : ¬ (cs = (0 : Int32))) (P_fv : fv.isRef = true) :
    MetFree l (⟨LW, "at", "(Lcom/example/libprocgraph/libprocgraph/reader/TextCursor;I[CI)Z"⟩ : MethodName) (head1 (Jvm.Cond.code (⟨LW, "at", "(Lcom/example/libprocgraph/libprocgraph/reader/TextCursor;I[CI)Z"⟩ : MethodName) method_3_code 4 (some .boolean) :: ws) ({ frames := 3, cells := 0, slots := 0, locals := 39 } : Room)) (fun a U => a = #[(.ref a1), (.int 3), (.ref ar), (.int 4)] ∧ Z.Warmed39 U.vm ∧ U.heap = h0) (fun _ _ _ _ _ => True) (fun _ U o U' => ∃ v L, o = .returned v ∧ Q_rmAt34 Z a1 ar tx va kb b0 b1 b2 b3 cs fv kc c0 c1 c2 c3 h0 n0 v U'.heap L ∧ FrameEnd U o U' L ({ frames := 3, cells := 0, slots := 0, locals := 39 } : Room).cells ({ frames := 3, cells := 0, slots := 0, locals := 39 } : Room).slots) := by
  refine MetFree.of_bodySF (plainFor_of_name pn_5) hisR ?_
  intro p e s m args below meth c s₁ Bd hml0 hP hK
  obtain ⟨rfl, hZ, hh⟩ := hP
  have hx := Bd.exec
  have hby := Bd.bytes
  have hml : c.maxLocals = 4 := hml0
  have hown : s.vm.findClass LW = some m.cls := findClass_of_methodNamed Bd.named
  have hnm := (name_of_methodNamed Bd.named Bd.method).1
  have X0 : Stand p l e ({ frames := 3, cells := 0, slots := 0, locals := 39 } : Room) s m #[(.ref a1), (.int 3), (.ref ar), (.int 4)] below meth c s₁ [] 0 0 := Stand.of_body Bd
  have e0 : s₁.heap = h0 := by rw [← hh, Bd.state]; rfl
  have N0 := Fr.nil n0
  refine own_go (own_lift (fun t k => castTop (ef_rmAt34 m a1 (3 : Int32) ar (4 : Int32)) k) ?_)
  show own_Go p.tables e below (s₁.setTop (mkF m 0 #[rv a1, iv 3, rv ar, iv 4] [])) _
  have sg1 : ∀ t, Steps p.tables e below (s₁.setTop (mkF m 1 #[rv a1, iv 3, rv ar, iv 4] [(.ref a1)])) t → Steps p.tables e below (s₁.setTop (mkF m 0 #[rv a1, iv 3, rv ar, iv 4] [])) t := by
    intro t k
    refine XS.aloadN X0.here hx rfl (hb hby d26_0) rfl rfl ?_
    show Steps p.tables e below (s₁.setTop (mkF m 1 #[rv a1, iv 3, rv ar, iv 4] [(.ref a1)])) _
    exact k
  refine own_lift sg1 ?_
  show own_Go p.tables e below (s₁.setTop (mkF m 1 #[rv a1, iv 3, rv ar, iv 4] [(.ref a1)])) _
  obtain ⟨cq2, kq2, q2a, q2b, q2c⟩ := isOf hZ e0 Ec
  obtain ⟨_, _, ⟨T2, Lx2, kx2, nx2⟩, -, X2, ⟨Lc2, hQ2, lx2, yx2, zx2⟩, st2⟩ := X0.virtualBack hx (y := (⟨TC, "line", "()I"⟩ : MethodName)) (z := (⟨TC, "line", "()I"⟩ : MethodName)) hown (mvT hZ (wd hw 129 rfl)) (mvT hZ (wd hw 130 rfl)) (notFace_of_selects (args := #[]) (mvT hZ (wd hw 132 rfl))) (mvT hZ (wd hw 132 rfl)) (mvT hZ (wd hw 131 rfl)) (by decide) (backOf (W := 0) (rmLine l Z a0 hw [] a1 (3 : Int32) h0 n0 Z0 Fcl) hZ (wd hw 133 rfl) (wd hw 7 rfl) (by decide) (by decide)) q2a q2c (g := (mkF m 1 #[rv a1, iv 3, rv ar, iv 4] [(.ref a1)])) rfl (by rw [hml]; rfl) (Steps.refl _) (argsL := []) (rest := []) (lenOf pd_5 rfl) rfl (by show 2 * 0 + _ ≤ _; exact Nat.le_of_eq rfl) (hb hby d26_1) (fun _ _ => ⟨rfl, e0, (by decide : 0 + 0 ≤ _), (by decide : 0 + 0 ≤ _)⟩)
  dsimp only [Pt.U, Pt.locs, Pt.cells, Pt.slots] at X2 lx2 yx2 zx2 st2 hQ2
  subst lx2 yx2 zx2
  obtain ⟨rfl, N2q, e2⟩ := hQ2
  have N2 := Fr.app N0 N2q
  refine own_lift (fun t k => st2.trans k) ?_
  show own_Go p.tables e below (T2.setTop (mkF m 4 #[rv a1, iv 3, rv ar, iv 4] [(.int 3)])) _
  have sg3 : ∀ t, Steps p.tables e below (T2.setTop (mkF m 9 #[rv a1, iv 3, rv ar, iv 4] [(.ref a1)])) t → Steps p.tables e below (T2.setTop (mkF m 4 #[rv a1, iv 3, rv ar, iv 4] [(.int 3)])) t := by
    intro t k
    refine XS.iloadN X2.here hx rfl (hb hby d26_4) rfl ?_
    show Steps p.tables e below (T2.setTop (mkF m 5 #[rv a1, iv 3, rv ar, iv 4] [(.int 3), (.int 3)])) _
    refine XS.icmpNo X2.here hx rfl (hb hby d26_5) rfl (teq (by decide : (3 : Int32) = (3 : Int32))).2 ?_
    refine XS.aloadN X2.here hx rfl (hb hby d26_8) rfl rfl ?_
    show Steps p.tables e below (T2.setTop (mkF m 9 #[rv a1, iv 3, rv ar, iv 4] [(.ref a1)])) _
    exact k
  refine own_lift sg3 ?_
  show own_Go p.tables e below (T2.setTop (mkF m 9 #[rv a1, iv 3, rv ar, iv 4] [(.ref a1)])) _
  obtain ⟨cq4, kq4, q4a, q4b, q4c⟩ := isOf hZ e2 Ec
  obtain ⟨_, _, ⟨T4, Lx4, kx4, nx4⟩, -, X4, ⟨Lc4, hQ4, lx4, yx4, zx4⟩, st4⟩ := X2.virtualBack hx (y := (⟨TC, "column", "()I"⟩ : MethodName)) (z := (⟨TC, "column", "()I"⟩ : MethodName)) hown (mvT hZ (wd hw 134 rfl)) (mvT hZ (wd hw 135 rfl)) (notFace_of_selects (args := #[]) (mvT hZ (wd hw 137 rfl))) (mvT hZ (wd hw 137 rfl)) (mvT hZ (wd hw 136 rfl)) (by decide) (backOf (W := 0) (rmCol l Z a0 hw [] a1 (1 : Int32) h0 n0 Z0 Fcc) hZ (wd hw 138 rfl) (wd hw 7 rfl) (by decide) (by decide)) q4a q4c (g := (mkF m 9 #[rv a1, iv 3, rv ar, iv 4] [(.ref a1)])) rfl (by rw [hml]; rfl) (Steps.refl _) (argsL := []) (rest := []) (lenOf pd_5 rfl) rfl (by show 2 * 0 + _ ≤ _; exact Nat.le_of_eq rfl) (hb hby d26_9) (fun _ _ => ⟨rfl, e2, (by decide : 0 + 0 ≤ _), (by decide : 0 + 0 ≤ _)⟩)
  dsimp only [Pt.U, Pt.locs, Pt.cells, Pt.slots] at X4 lx4 yx4 zx4 st4 hQ4
  subst lx4 yx4 zx4
  obtain ⟨rfl, N4q, e4⟩ := hQ4
  have N4 := Fr.app N2 N4q
  refine own_lift (fun t k => st4.trans k) ?_
  show own_Go p.tables e below (T4.setTop (mkF m 12 #[rv a1, iv 3, rv ar, iv 4] [(.int 1)])) _
  have sg5 : ∀ t, Steps p.tables e below (T4.setTop (mkF m 25 #[rv a1, iv 3, rv ar, iv 4] [(.int 0), (.ref a1)])) t → Steps p.tables e below (T4.setTop (mkF m 12 #[rv a1, iv 3, rv ar, iv 4] [(.int 1)])) t := by
    intro t k
    refine XS.iconst X4.here hx rfl (hb hby d26_12) ?_
    show Steps p.tables e below (T4.setTop (mkF m 13 #[rv a1, iv 3, rv ar, iv 4] [(.int 1), (.int 1)])) _
    refine XS.icmpYes X4.here hx rfl (pc0 := 13) (pc' := 18) rfl (hb hby d26_13) rfl (teq (by decide : (1 : Int32) = (1 : Int32))).1 (by decide) (by decide) ?_
    refine XS.iloadN X4.here hx rfl (hb hby d26_18) rfl ?_
    refine XS.iconst X4.here hx rfl (hb hby d26_19) ?_
    show Steps p.tables e below (T4.setTop (mkF m 20 #[rv a1, iv 3, rv ar, iv 4] [(.int 4), (.int 4)])) _
    refine XS.icmpNo X4.here hx rfl (hb hby d26_20) rfl (flt (by decide : ¬ ((4 : Int32) < (4 : Int32)))).1 ?_
    refine XS.aloadN X4.here hx rfl (hb hby d26_23) rfl rfl ?_
    refine XS.iconst X4.here hx rfl (hb hby d26_24) ?_
    show Steps p.tables e below (T4.setTop (mkF m 25 #[rv a1, iv 3, rv ar, iv 4] [(.int 0), (.ref a1)])) _
    exact k
  refine own_lift sg5 ?_
  show own_Go p.tables e below (T4.setTop (mkF m 25 #[rv a1, iv 3, rv ar, iv 4] [(.int 0), (.ref a1)])) _
  obtain ⟨cq6, kq6, q6a, q6b, q6c⟩ := isOf hZ e4 Ec
  obtain ⟨_, _, ⟨T6, Lx6, kx6, nx6⟩, -, X6, ⟨Lc6, hQ6, lx6, yx6, zx6⟩, st6⟩ := X4.virtualBack hx (y := (⟨TC, "has", "(I)Z"⟩ : MethodName)) (z := (⟨TC, "has", "(I)Z"⟩ : MethodName)) hown (mvT hZ (wd hw 147 rfl)) (mvT hZ (wd hw 148 rfl)) (notFace_of_selects (args := #[]) (mvT hZ (wd hw 150 rfl))) (mvT hZ (wd hw 150 rfl)) (mvT hZ (wd hw 149 rfl)) (by decide) (backOf (W := 0) (rmHas4 l Z a0 hw [] a1 tx va kb b0 b1 b2 b3 cs h0 n0 Z0 Fct Fco Es Fsv Fsc Ars Scs P_cs) hZ (wd hw 151 rfl) (wd hw 7 rfl) (by decide) (by decide)) q6a q6c (g := (mkF m 25 #[rv a1, iv 3, rv ar, iv 4] [(.int 0), (.ref a1)])) rfl (by rw [hml]; rfl) (Steps.refl _) (argsL := [(.int 0)]) (rest := []) (lenOf pd_1 rfl) rfl (by show 2 * 0 + _ ≤ _; exact Nat.le_of_eq rfl) (hb hby d26_25) (fun _ _ => ⟨rfl, e4, (by decide : 0 + 0 ≤ _), (by decide : 0 + 0 ≤ _)⟩)
  dsimp only [Pt.U, Pt.locs, Pt.cells, Pt.slots] at X6 lx6 yx6 zx6 st6 hQ6
  subst lx6 yx6 zx6
  obtain ⟨rfl, N6q, e6⟩ := hQ6
  have N6 := Fr.app N4 N6q
  refine own_lift (fun t k => st6.trans k) ?_
  show own_Go p.tables e below (T6.setTop (mkF m 28 #[rv a1, iv 3, rv ar, iv 4] [(.int 0)])) _
  have sg7 : ∀ t, Steps p.tables e below (T6.setTop (mkF m 36 #[rv a1, iv 3, rv ar, iv 4] [(.int 1)])) t → Steps p.tables e below (T6.setTop (mkF m 28 #[rv a1, iv 3, rv ar, iv 4] [(.int 0)])) t := by
    intro t k
    refine XS.ifNo X6.here hx rfl (hb hby d26_28) rfl ((if0 _ _).trans (teq (by decide : (0 : Int32) = (0 : Int32))).2) ?_
    show Steps p.tables e below (T6.setTop (mkF m 31 #[rv a1, iv 3, rv ar, iv 4] [])) _
    refine XS.iconst X6.here hx rfl (hb hby d26_31) ?_
    refine XS.goto X6.here hx rfl (pc0 := 32) (pc' := 36) rfl (hb hby d26_32) (by decide) (by decide) ?_
    show Steps p.tables e below (T6.setTop (mkF m 36 #[rv a1, iv 3, rv ar, iv 4] [(.int 1)])) _
    exact k
  refine own_lift sg7 ?_
  show own_Go p.tables e below (T6.setTop (mkF m 36 #[rv a1, iv 3, rv ar, iv 4] [(.int 1)])) _
  obtain ⟨fs, hr, hrun, hended, hW, hsame⟩ := X6.leave (v := some (.int 1)) (fun h => by rw [Bd.returns] at h; cases h)
  refine ⟨_, _, ?_, hrun, hended, _, _, rfl, ?_, ⟨_, rfl⟩, hW, hsame.mono (by decide) (by decide)⟩
  · exact retN X6 hx (t := .boolean) Bd.returns (by simp) (hb hby d26_36) hr
  · show Q_rmAt34 Z a1 ar tx va kb b0 b1 b2 b3 cs fv kc c0 c1 c2 c3 h0 n0 _ T6.heap _
    rw [e6]
    exact ⟨rfl, N6, rfl⟩
theorem d27_0 : decode method_2_code 0 = .ok (.iload_n 0, 1) := by decide +kernel
theorem d27_1 : decode method_2_code 1 = .ok (.iconst 1, 1) := by decide +kernel
theorem d27_2 : decode method_2_code 2 = .ok (.iand, 1) := by decide +kernel
theorem d27_3 : decode method_2_code 3 = .ok (.ifCond .ne 8, 3) := by decide +kernel
theorem d27_6 : decode method_2_code 6 = .ok (.bipush 10, 2) := by decide +kernel
theorem d27_8 : decode method_2_code 8 = .ok (.goto 11, 3) := by decide +kernel
theorem d27_19 : decode method_2_code 19 = .ok (.ireturn, 1) := by decide +kernel
def Q_rmCh (Z : State) (p1 : Int32) (h0 : Heap) (n0 : Nat) (v : Option Value) (h : Heap) (L : List Loc) : Prop := v = some (.int (own_ch p1)) ∧ Fr n0 L ∧ h = h0
theorem ef_rmCh1 (m : MethodId) (x0 : Int32) : entryFrame m #[(.int x0)] 1 = mkF m 0 #[.val (.int x0)] [] := by first | (simp [entryFrame, mkF, argsToLocals, Value.category]; done) | rfl
set_option maxRecDepth 65536 in
set_option maxHeartbeats 40000000 in
theorem rmCh1 (l : Launch) (Z : State) (a0 : Array Value) (hw : ∀ d ∈ tables_1, d.before a0 Z = true) (ws : List Jvm.Cond) (p1 : Int32) (h0 : Heap) (n0 : Nat) (Z0 : n0 ≤ h0.size)  (c1 : (p1 &&& (1 : Int32)) = (0 : Int32)) :
    MetFree l (⟨LW, "ch", "(I)C"⟩ : MethodName) (head1 (Jvm.Cond.code (⟨LW, "ch", "(I)C"⟩ : MethodName) method_2_code 1 (some .char) :: ws) ({ frames := 0, cells := 0, slots := 0, locals := 0 } : Room)) (fun a U => a = #[(.int p1)] ∧ Z.Warmed39 U.vm ∧ U.heap = h0) (fun _ _ _ _ _ => True) (fun _ U o U' => ∃ v L, o = .returned v ∧ Q_rmCh Z p1 h0 n0 v U'.heap L ∧ FrameEnd U o U' L ({ frames := 0, cells := 0, slots := 0, locals := 0 } : Room).cells ({ frames := 0, cells := 0, slots := 0, locals := 0 } : Room).slots) := by
  refine MetFree.of_bodySF (plainFor_of_name pn_5) hisR ?_
  intro p e s m args below meth c s₁ Bd hml0 hP hK
  obtain ⟨rfl, hZ, hh⟩ := hP
  have hx := Bd.exec
  have hby := Bd.bytes
  have hml : c.maxLocals = 1 := hml0
  have hown : s.vm.findClass LW = some m.cls := findClass_of_methodNamed Bd.named
  have hnm := (name_of_methodNamed Bd.named Bd.method).1
  have X0 : Stand p l e ({ frames := 0, cells := 0, slots := 0, locals := 0 } : Room) s m #[(.int p1)] below meth c s₁ [] 0 0 := Stand.of_body Bd
  have e0 : s₁.heap = h0 := by rw [← hh, Bd.state]; rfl
  have N0 := Fr.nil n0
  refine own_go (own_lift (fun t k => castTop (ef_rmCh1 m p1) k) ?_)
  show own_Go p.tables e below (s₁.setTop (mkF m 0 #[iv p1] [])) _
  have sg1 : ∀ t, Steps p.tables e below (s₁.setTop (mkF m 19 #[iv p1] [(.int 10)])) t → Steps p.tables e below (s₁.setTop (mkF m 0 #[iv p1] [])) t := by
    intro t k
    refine XS.iloadN X0.here hx rfl (hb hby d27_0) rfl ?_
    show Steps p.tables e below (s₁.setTop (mkF m 1 #[iv p1] [(.int p1)])) _
    refine XS.iconst X0.here hx rfl (hb hby d27_1) ?_
    refine XS.iand X0.here hx rfl (hb hby d27_2) rfl ?_
    refine XS.ifNo X0.here hx rfl (hb hby d27_3) rfl ((if0 _ _).trans (teq c1).2) ?_
    show Steps p.tables e below (s₁.setTop (mkF m 6 #[iv p1] [])) _
    refine XS.bipush X0.here hx rfl (hb hby d27_6) ?_
    refine XS.goto X0.here hx rfl (pc0 := 8) (pc' := 19) rfl (hb hby d27_8) (by decide) (by decide) ?_
    show Steps p.tables e below (s₁.setTop (mkF m 19 #[iv p1] [(.int 10)])) _
    exact k
  refine own_lift sg1 ?_
  show own_Go p.tables e below (s₁.setTop (mkF m 19 #[iv p1] [(.int 10)])) _
  obtain ⟨fs, hr, hrun, hended, hW, hsame⟩ := X0.leave (v := some (.int 10)) (fun h => by rw [Bd.returns] at h; cases h)
  refine ⟨_, _, ?_, hrun, hended, _, _, rfl, ?_, ⟨_, rfl⟩, hW, hsame.mono (by decide) (by decide)⟩
  · exact retN X0 hx (t := .char) Bd.returns (by simp) (hb hby d27_19) hr
  · show Q_rmCh Z p1 h0 n0 _ s₁.heap _
    rw [e0]
    exact ⟨(by rw [own_ch, if_pos c1]), N0, rfl⟩
theorem d27_11 : decode method_2_code 11 = .ok (.iload_n 0, 1) := by decide +kernel
theorem d27_12 : decode method_2_code 12 = .ok (.iconst 1, 1) := by decide +kernel
theorem d27_13 : decode method_2_code 13 = .ok (.iushr, 1) := by decide +kernel
theorem d27_14 : decode method_2_code 14 = .ok (.sipush 255, 3) := by decide +kernel
theorem d27_17 : decode method_2_code 17 = .ok (.iand, 1) := by decide +kernel
theorem d27_18 : decode method_2_code 18 = .ok (.i2c, 1) := by decide +kernel
theorem ef_rmCh2 (m : MethodId) (x0 : Int32) : entryFrame m #[(.int x0)] 1 = mkF m 0 #[.val (.int x0)] [] := by first | (simp [entryFrame, mkF, argsToLocals, Value.category]; done) | rfl
set_option maxRecDepth 65536 in
set_option maxHeartbeats 40000000 in
theorem rmCh2 (l : Launch) (Z : State) (a0 : Array Value) (hw : ∀ d ∈ tables_1, d.before a0 Z = true) (ws : List Jvm.Cond) (p1 : Int32) (h0 : Heap) (n0 : Nat) (Z0 : n0 ≤ h0.size)  (c1 : ¬ ((p1 &&& (1 : Int32)) = (0 : Int32))) :
    MetFree l (⟨LW, "ch", "(I)C"⟩ : MethodName) (head1 (Jvm.Cond.code (⟨LW, "ch", "(I)C"⟩ : MethodName) method_2_code 1 (some .char) :: ws) ({ frames := 0, cells := 0, slots := 0, locals := 0 } : Room)) (fun a U => a = #[(.int p1)] ∧ Z.Warmed39 U.vm ∧ U.heap = h0) (fun _ _ _ _ _ => True) (fun _ U o U' => ∃ v L, o = .returned v ∧ Q_rmCh Z p1 h0 n0 v U'.heap L ∧ FrameEnd U o U' L ({ frames := 0, cells := 0, slots := 0, locals := 0 } : Room).cells ({ frames := 0, cells := 0, slots := 0, locals := 0 } : Room).slots) := by
  refine MetFree.of_bodySF (plainFor_of_name pn_5) hisR ?_
  intro p e s m args below meth c s₁ Bd hml0 hP hK
  obtain ⟨rfl, hZ, hh⟩ := hP
  have hx := Bd.exec
  have hby := Bd.bytes
  have hml : c.maxLocals = 1 := hml0
  have hown : s.vm.findClass LW = some m.cls := findClass_of_methodNamed Bd.named
  have hnm := (name_of_methodNamed Bd.named Bd.method).1
  have X0 : Stand p l e ({ frames := 0, cells := 0, slots := 0, locals := 0 } : Room) s m #[(.int p1)] below meth c s₁ [] 0 0 := Stand.of_body Bd
  have e0 : s₁.heap = h0 := by rw [← hh, Bd.state]; rfl
  have N0 := Fr.nil n0
  refine own_go (own_lift (fun t k => castTop (ef_rmCh2 m p1) k) ?_)
  show own_Go p.tables e below (s₁.setTop (mkF m 0 #[iv p1] [])) _
  have sg1 : ∀ t, Steps p.tables e below (s₁.setTop (mkF m 19 #[iv p1] [(.int ((((p1.toUInt32 >>> ((1 : Int32) &&& 31).toUInt32).toInt32) &&& (255 : Int32)).toUInt32.toUInt16.toUInt32.toInt32))])) t → Steps p.tables e below (s₁.setTop (mkF m 0 #[iv p1] [])) t := by
    intro t k
    refine XS.iloadN X0.here hx rfl (hb hby d27_0) rfl ?_
    show Steps p.tables e below (s₁.setTop (mkF m 1 #[iv p1] [(.int p1)])) _
    refine XS.iconst X0.here hx rfl (hb hby d27_1) ?_
    refine XS.iand X0.here hx rfl (hb hby d27_2) rfl ?_
    refine XS.ifYes X0.here hx rfl (pc0 := 3) (pc' := 11) rfl (hb hby d27_3) rfl ((if0 _ _).trans (feq c1).2) (by decide) (by decide) ?_
    show Steps p.tables e below (s₁.setTop (mkF m 11 #[iv p1] [])) _
    refine XS.iloadN X0.here hx rfl (hb hby d27_11) rfl ?_
    refine XS.iconst X0.here hx rfl (hb hby d27_12) ?_
    refine XS.iushr X0.here hx rfl (hb hby d27_13) rfl ?_
    show Steps p.tables e below (s₁.setTop (mkF m 14 #[iv p1] [(.int ((p1.toUInt32 >>> ((1 : Int32) &&& 31).toUInt32).toInt32))])) _
    refine XS.sipush X0.here hx rfl (hb hby d27_14) ?_
    refine XS.iand X0.here hx rfl (hb hby d27_17) rfl ?_
    refine XS.i2c X0.here hx rfl (hb hby d27_18) rfl ?_
    show Steps p.tables e below (s₁.setTop (mkF m 19 #[iv p1] [(.int ((((p1.toUInt32 >>> ((1 : Int32) &&& 31).toUInt32).toInt32) &&& (255 : Int32)).toUInt32.toUInt16.toUInt32.toInt32))])) _
    exact k
  refine own_lift sg1 ?_
  show own_Go p.tables e below (s₁.setTop (mkF m 19 #[iv p1] [(.int ((((p1.toUInt32 >>> ((1 : Int32) &&& 31).toUInt32).toInt32) &&& (255 : Int32)).toUInt32.toUInt16.toUInt32.toInt32))])) _
  obtain ⟨fs, hr, hrun, hended, hW, hsame⟩ := X0.leave (v := some (.int (nar .char ((((p1.toUInt32 >>> ((1 : Int32) &&& 31).toUInt32).toInt32) &&& (255 : Int32)).toUInt32.toUInt16.toUInt32.toInt32)))) (fun h => by rw [Bd.returns] at h; cases h)
  refine ⟨_, _, ?_, hrun, hended, _, _, rfl, ?_, ⟨_, rfl⟩, hW, hsame.mono (by decide) (by decide)⟩
  · exact retN X0 hx (t := .char) Bd.returns (by simp) (hb hby d27_19) hr
  · show Q_rmCh Z p1 h0 n0 _ s₁.heap _
    rw [e0]
    exact ⟨(by rw [own_ch, if_neg c1]; simp only [nar, i2c_mask]), N0, rfl⟩
set_option maxRecDepth 65536 in
theorem rmCh (l : Launch) (Z : State) (a0 : Array Value) (hw : ∀ d ∈ tables_1, d.before a0 Z = true) (ws : List Jvm.Cond) (p1 : Int32) (h0 : Heap) (n0 : Nat) (Z0 : n0 ≤ h0.size)   :
    MetFree l (⟨LW, "ch", "(I)C"⟩ : MethodName) (head1 (Jvm.Cond.code (⟨LW, "ch", "(I)C"⟩ : MethodName) method_2_code 1 (some .char) :: ws) ({ frames := 0, cells := 0, slots := 0, locals := 0 } : Room)) (fun a U => a = #[(.int p1)] ∧ Z.Warmed39 U.vm ∧ U.heap = h0) (fun _ _ _ _ _ => True) (fun _ U o U' => ∃ v L, o = .returned v ∧ Q_rmCh Z p1 h0 n0 v U'.heap L ∧ FrameEnd U o U' L ({ frames := 0, cells := 0, slots := 0, locals := 0 } : Room).cells ({ frames := 0, cells := 0, slots := 0, locals := 0 } : Room).slots) := by
  by_cases c1 : (p1 &&& (1 : Int32)) = (0 : Int32)
  · exact rmCh1 l Z a0 hw ws p1 h0 n0 Z0  c1
  · exact rmCh2 l Z a0 hw ws p1 h0 n0 Z0  c1
theorem pd_13 : parseMethodDescriptor "([C)V" = some ⟨[(.array .char)], none⟩ := by decide +kernel
theorem pd_14 : parseMethodDescriptor "(Ljava/lang/String;)V" = some ⟨[(.object STx)], none⟩ := by decide +kernel
theorem pd_15 : parseMethodDescriptor "()V" = some ⟨[], none⟩ := by decide +kernel
theorem pd_16 : parseMethodDescriptor "(Lcom/example/libprocgraph/libprocgraph/reader/TextCursor;I[CI)Z" = some ⟨[(.object TC), .int, (.array .char), .int], some .boolean⟩ := by decide +kernel
def Q0 (Z : State)  (h0 : Heap) (n0 : Nat) (v : Option Value) (h : Heap) (L : List Loc) : Prop := v = some (.int 1) ∧ Fr n0 L
theorem ef_rm0 (m : MethodId) (x0 : Int32) (x1 : Int32) (x2 : Int32) (x3 : Int32) : entryFrame m #[(.int x0), (.int x1), (.int x2), (.int x3)] maxLocals = mkF m 0 #[.val (.int x0), .val (.int x1), .val (.int x2), .val (.int x3), .unset, .unset, .unset] [] := by first | (simp [entryFrame, mkF, argsToLocals, Value.category, maxLocals]; done) | rfl
set_option maxRecDepth 65536 in
set_option maxHeartbeats 40000000 in
theorem rm0 (l : Launch) (Z : State) (a0 : Array Value) (hw : ∀ d ∈ tables_1, d.before a0 Z = true) (ws : List Jvm.Cond) (p0 : Int32) (p1 : Int32) (p2 : Int32) (p3 : Int32) (cs : Int32) (fv : Value) (h0 : Heap) (n0 : Nat) (Z0 : n0 ≤ h0.size) (Scs : Sta Z h0 STx "COMPACT_STRINGS" "Z" (.int cs)) (Sfm : Sta Z h0 PCx "SIOOBE_FORMATTER" BFx fv) (P_cs : ¬ (cs = (0 : Int32))) (P_fv : fv.isRef = true) :
    MetFree l x (head1 (Jvm.Cond.code x code maxLocals ret :: ws) room_1) (fun a U => a = #[(.int p0), (.int p1), (.int p2), (.int p3)] ∧ Z.Warmed39 U.vm ∧ U.heap = h0) (fun _ _ _ _ _ => True) (fun _ U o U' => ∃ v L, o = .returned v ∧ Q0 Z  h0 n0 v U'.heap L ∧ FrameEnd U o U' L 16 128) := by
  refine MetFree.of_bodySF (plainFor_of_name pn_5) hisR ?_
  intro p e s m args below meth c s₁ Bd hml0 hP hK
  obtain ⟨rfl, hZ, hh⟩ := hP
  have hx := Bd.exec
  have hby := Bd.bytes
  have hml : c.maxLocals = 7 := hml0
  have hown : s.vm.findClass LW = some m.cls := findClass_of_methodNamed Bd.named
  have hnm := (name_of_methodNamed Bd.named Bd.method).1
  have X0 : Stand p l e room_1 s m #[(.int p0), (.int p1), (.int p2), (.int p3)] below meth c s₁ [] 0 0 := Stand.of_body Bd
  have e0 : s₁.heap = h0 := by rw [← hh, Bd.state]; rfl
  have N0 := Fr.nil n0
  refine own_go (own_lift (fun t k => castTop (ef_rm0 m p0 p1 p2 p3) k) ?_)
  show own_Go p.tables e below (s₁.setTop (mkF m 0 #[iv p0, iv p1, iv p2, iv p3, .unset, .unset, .unset] [])) _
  have sg1 : ∀ t, Steps p.tables e below (s₁.setTop (mkF m 1 #[iv p0, iv p1, iv p2, iv p3, .unset, .unset, .unset] [(.int 4)])) t → Steps p.tables e below (s₁.setTop (mkF m 0 #[iv p0, iv p1, iv p2, iv p3, .unset, .unset, .unset] [])) t := by
    intro t k
    refine XS.iconst X0.here hx rfl (hb hby at_0) ?_
    show Steps p.tables e below (s₁.setTop (mkF m 1 #[iv p0, iv p1, iv p2, iv p3, .unset, .unset, .unset] [(.int 4)])) _
    exact k
  refine own_lift sg1 ?_
  show own_Go p.tables e below (s₁.setTop (mkF m 1 #[iv p0, iv p1, iv p2, iv p3, .unset, .unset, .unset] [(.int 4)])) _
  obtain ⟨T2, h2, ka2, X2, e2, Ex2, Ax2, st2⟩ := newP X0 hx hZ (wd hw 0 rfl) e0 (g := (mkF m 1 #[iv p0, iv p1, iv p2, iv p3, .unset, .unset, .unset] [(.int 4)])) rfl (hb hby at_1) rfl (by decide) (cap := 4) (by decide) (by decide) (by decide) (by decide)
  obtain ⟨ob2, g2⟩ : ∃ z, z = h0.size := ⟨_, rfl⟩
  rw [← g2] at Ax2 st2
  have Z2 : n0 ≤ h2.size := Nat.le_trans Z0 Ex2.1
  have ge2 : n0 ≤ ob2 := Nat.le_trans Z0 (Nat.le_of_eq g2.symm)
  have Vn2 : Arv Z h2 ob2 ka2 .char (4 : Int32) [(.int 0), (.int 0), (.int 0), (.int 0)] (.int 0) := (Arv.new Ax2 (by decide)).pad (pad_rep [] (.int 0) 4)
  refine own_lift st2 ?_
  show own_Go p.tables e below (T2.setTop (mkF m 3 #[iv p0, iv p1, iv p2, iv p3, .unset, .unset, .unset] [(.ref ob2)])) _
  have sg3 : ∀ t, Steps p.tables e below (T2.setTop (mkF m 6 #[iv p0, iv p1, iv p2, iv p3, .unset, .unset, .unset] [(.int p0), (.int 0), (.ref ob2), (.ref ob2)])) t → Steps p.tables e below (T2.setTop (mkF m 3 #[iv p0, iv p1, iv p2, iv p3, .unset, .unset, .unset] [(.ref ob2)])) t := by
    intro t k
    refine XS.dup X2.here hx rfl (hb hby at_3) rfl rfl ?_
    show Steps p.tables e below (T2.setTop (mkF m 4 #[iv p0, iv p1, iv p2, iv p3, .unset, .unset, .unset] [(.ref ob2), (.ref ob2)])) _
    refine XS.iconst X2.here hx rfl (hb hby at_4) ?_
    refine XS.iloadN X2.here hx rfl (hb hby at_5) rfl ?_
    show Steps p.tables e below (T2.setTop (mkF m 6 #[iv p0, iv p1, iv p2, iv p3, .unset, .unset, .unset] [(.int p0), (.int 0), (.ref ob2), (.ref ob2)])) _
    exact k
  refine own_lift sg3 ?_
  show own_Go p.tables e below (T2.setTop (mkF m 6 #[iv p0, iv p1, iv p2, iv p3, .unset, .unset, .unset] [(.int p0), (.int 0), (.ref ob2), (.ref ob2)])) _
  obtain ⟨_, _, ⟨T4, Lx4, kx4, nx4⟩, -, X4, ⟨Lc4, hQ4, lx4, yx4, zx4⟩, st4⟩ := Jvm.LawKit.callS X2 hx (y := (⟨LW, "ch", "(I)C"⟩ : MethodName)) hown (mvT hZ (wd hw 1 rfl)) (mvT hZ (wd hw 2 rfl)) (mvT hZ (wd hw 3 rfl)) (mvT hZ (wd hw 4 rfl)) (by decide) (backOf (W := 3) (rmCh l Z a0 hw [] p0 h2 n0 Z2 ) hZ (wd hw 4 rfl) (wd hw 3 rfl) (by decide) (by decide)) (g := (mkF m 6 #[iv p0, iv p1, iv p2, iv p3, .unset, .unset, .unset] [(.int p0), (.int 0), (.ref ob2), (.ref ob2)])) rfl (by rw [hml]; rfl) (argsL := [(.int p0)]) (rest := [(.int 0), (.ref ob2), (.ref ob2)]) (lenOf pd_12 rfl) rfl (by show 2 * 0 + _ ≤ _; exact Nat.le_of_eq rfl) (hb hby at_6) (fun _ _ => ⟨rfl, e2, (by decide : 1 + 0 ≤ _), (by decide : 4 + 0 ≤ _)⟩)
  dsimp only [Pt.U, Pt.locs, Pt.cells, Pt.slots] at X4 lx4 yx4 zx4 st4 hQ4
  subst lx4 yx4 zx4
  obtain ⟨rfl, N4q, e4⟩ := hQ4
  have N4 := Fr.app N0 N4q
  refine own_lift st4 ?_
  show own_Go p.tables e below (T4.setTop (mkF m 9 #[iv p0, iv p1, iv p2, iv p3, .unset, .unset, .unset] [(.int (own_ch p0)), (.int 0), (.ref ob2), (.ref ob2)])) _
  obtain ⟨cl5, Ar5, qx5, Sx5, N5', H5', G5'⟩ := id (Vn2)
  have hin5 : ¬ ((0 : Int32) < 0 ∨ cl5.slots.size ≤ ((0 : Int32)).toNatClampNeg) := inb_of Sx5 ⟨(by decide : ¬ ((0 : Int32) < (0 : Int32))), (by decide : (0 : Int32) < (4 : Int32))⟩
  obtain ⟨T6, h6, X6, e6, W6, st6⟩ := stC X4 hx hZ e4 Ar5 (j := (0 : Int32)) hin5 (g := (mkF m 9 #[iv p0, iv p1, iv p2, iv p3, .unset, .unset, .unset] [(.int (own_ch p0)), (.int 0), (.ref ob2), (.ref ob2)])) rfl rfl (hb hby at_9)
  have N6 := Fr.snoc X6 N4 ge2
  have Z6 : n0 ≤ h6.size := Nat.le_trans Z2 (Nat.le_of_eq W6.size.symm)
  have Vn6 : Arv Z h6 ob2 ka2 .char (4 : Int32) [(.int (nar .char (own_ch p0))), (.int 0), (.int 0), (.int 0)] (.int 0) := Arv.set Ar5 qx5 Sx5 N5' H5' G5' (fits_nar_char _) W6 0 rfl (Nat.le_of_ble_eq_true rfl)
  rw [own_ch_nar p0] at Vn6
  refine own_lift st6 ?_
  show own_Go p.tables e below (T6.setTop (mkF m 10 #[iv p0, iv p1, iv p2, iv p3, .unset, .unset, .unset] [(.ref ob2)])) _
  have sg7 : ∀ t, Steps p.tables e below (T6.setTop (mkF m 13 #[iv p0, iv p1, iv p2, iv p3, .unset, .unset, .unset] [(.int p1), (.int 1), (.ref ob2), (.ref ob2)])) t → Steps p.tables e below (T6.setTop (mkF m 10 #[iv p0, iv p1, iv p2, iv p3, .unset, .unset, .unset] [(.ref ob2)])) t := by
    intro t k
    refine XS.dup X6.here hx rfl (hb hby at_10) rfl rfl ?_
    show Steps p.tables e below (T6.setTop (mkF m 11 #[iv p0, iv p1, iv p2, iv p3, .unset, .unset, .unset] [(.ref ob2), (.ref ob2)])) _
    refine XS.iconst X6.here hx rfl (hb hby at_11) ?_
    refine XS.iloadN X6.here hx rfl (hb hby at_12) rfl ?_
    show Steps p.tables e below (T6.setTop (mkF m 13 #[iv p0, iv p1, iv p2, iv p3, .unset, .unset, .unset] [(.int p1), (.int 1), (.ref ob2), (.ref ob2)])) _
    exact k
  refine own_lift sg7 ?_
  show own_Go p.tables e below (T6.setTop (mkF m 13 #[iv p0, iv p1, iv p2, iv p3, .unset, .unset, .unset] [(.int p1), (.int 1), (.ref ob2), (.ref ob2)])) _
  obtain ⟨_, _, ⟨T8, Lx8, kx8, nx8⟩, -, X8, ⟨Lc8, hQ8, lx8, yx8, zx8⟩, st8⟩ := Jvm.LawKit.callS X6 hx (y := (⟨LW, "ch", "(I)C"⟩ : MethodName)) hown (mvT hZ (wd hw 1 rfl)) (mvT hZ (wd hw 2 rfl)) (mvT hZ (wd hw 3 rfl)) (mvT hZ (wd hw 4 rfl)) (by decide) (backOf (W := 3) (rmCh l Z a0 hw [] p1 h6 n0 Z6 ) hZ (wd hw 4 rfl) (wd hw 3 rfl) (by decide) (by decide)) (g := (mkF m 13 #[iv p0, iv p1, iv p2, iv p3, .unset, .unset, .unset] [(.int p1), (.int 1), (.ref ob2), (.ref ob2)])) rfl (by rw [hml]; rfl) (argsL := [(.int p1)]) (rest := [(.int 1), (.ref ob2), (.ref ob2)]) (lenOf pd_12 rfl) rfl (by show 2 * 0 + _ ≤ _; exact Nat.le_of_eq rfl) (hb hby at_13) (fun _ _ => ⟨rfl, e6, (by decide : 1 + 0 ≤ _), (by decide : 4 + 0 ≤ _)⟩)
  dsimp only [Pt.U, Pt.locs, Pt.cells, Pt.slots] at X8 lx8 yx8 zx8 st8 hQ8
  subst lx8 yx8 zx8
  obtain ⟨rfl, N8q, e8⟩ := hQ8
  have N8 := Fr.app N6 N8q
  refine own_lift st8 ?_
  show own_Go p.tables e below (T8.setTop (mkF m 16 #[iv p0, iv p1, iv p2, iv p3, .unset, .unset, .unset] [(.int (own_ch p1)), (.int 1), (.ref ob2), (.ref ob2)])) _
  obtain ⟨cl9, Ar9, qx9, Sx9, N9', H9', G9'⟩ := id (Vn6)
  have hin9 : ¬ ((1 : Int32) < 0 ∨ cl9.slots.size ≤ ((1 : Int32)).toNatClampNeg) := inb_of Sx9 ⟨(by decide : ¬ ((1 : Int32) < (0 : Int32))), (by decide : (1 : Int32) < (4 : Int32))⟩
  obtain ⟨T10, h10, X10, e10, W10, st10⟩ := stC X8 hx hZ e8 Ar9 (j := (1 : Int32)) hin9 (g := (mkF m 16 #[iv p0, iv p1, iv p2, iv p3, .unset, .unset, .unset] [(.int (own_ch p1)), (.int 1), (.ref ob2), (.ref ob2)])) rfl rfl (hb hby at_16)
  have N10 := Fr.snoc X10 N8 ge2
  have Z10 : n0 ≤ h10.size := Nat.le_trans Z6 (Nat.le_of_eq W10.size.symm)
  have Vn10 : Arv Z h10 ob2 ka2 .char (4 : Int32) [(.int (own_ch p0)), (.int (nar .char (own_ch p1))), (.int 0), (.int 0)] (.int 0) := Arv.set Ar9 qx9 Sx9 N9' H9' G9' (fits_nar_char _) W10 1 rfl (Nat.le_of_ble_eq_true rfl)
  rw [own_ch_nar p1] at Vn10
  refine own_lift st10 ?_
  show own_Go p.tables e below (T10.setTop (mkF m 17 #[iv p0, iv p1, iv p2, iv p3, .unset, .unset, .unset] [(.ref ob2)])) _
  have sg11 : ∀ t, Steps p.tables e below (T10.setTop (mkF m 20 #[iv p0, iv p1, iv p2, iv p3, .unset, .unset, .unset] [(.int p2), (.int 2), (.ref ob2), (.ref ob2)])) t → Steps p.tables e below (T10.setTop (mkF m 17 #[iv p0, iv p1, iv p2, iv p3, .unset, .unset, .unset] [(.ref ob2)])) t := by
    intro t k
    refine XS.dup X10.here hx rfl (hb hby at_17) rfl rfl ?_
    show Steps p.tables e below (T10.setTop (mkF m 18 #[iv p0, iv p1, iv p2, iv p3, .unset, .unset, .unset] [(.ref ob2), (.ref ob2)])) _
    refine XS.iconst X10.here hx rfl (hb hby at_18) ?_
    refine XS.iloadN X10.here hx rfl (hb hby at_19) rfl ?_
    show Steps p.tables e below (T10.setTop (mkF m 20 #[iv p0, iv p1, iv p2, iv p3, .unset, .unset, .unset] [(.int p2), (.int 2), (.ref ob2), (.ref ob2)])) _
    exact k
  refine own_lift sg11 ?_
  show own_Go p.tables e below (T10.setTop (mkF m 20 #[iv p0, iv p1, iv p2, iv p3, .unset, .unset, .unset] [(.int p2), (.int 2), (.ref ob2), (.ref ob2)])) _
  obtain ⟨_, _, ⟨T12, Lx12, kx12, nx12⟩, -, X12, ⟨Lc12, hQ12, lx12, yx12, zx12⟩, st12⟩ := Jvm.LawKit.callS X10 hx (y := (⟨LW, "ch", "(I)C"⟩ : MethodName)) hown (mvT hZ (wd hw 1 rfl)) (mvT hZ (wd hw 2 rfl)) (mvT hZ (wd hw 3 rfl)) (mvT hZ (wd hw 4 rfl)) (by decide) (backOf (W := 3) (rmCh l Z a0 hw [] p2 h10 n0 Z10 ) hZ (wd hw 4 rfl) (wd hw 3 rfl) (by decide) (by decide)) (g := (mkF m 20 #[iv p0, iv p1, iv p2, iv p3, .unset, .unset, .unset] [(.int p2), (.int 2), (.ref ob2), (.ref ob2)])) rfl (by rw [hml]; rfl) (argsL := [(.int p2)]) (rest := [(.int 2), (.ref ob2), (.ref ob2)]) (lenOf pd_12 rfl) rfl (by show 2 * 0 + _ ≤ _; exact Nat.le_of_eq rfl) (hb hby at_20) (fun _ _ => ⟨rfl, e10, (by decide : 1 + 0 ≤ _), (by decide : 4 + 0 ≤ _)⟩)
  dsimp only [Pt.U, Pt.locs, Pt.cells, Pt.slots] at X12 lx12 yx12 zx12 st12 hQ12
  subst lx12 yx12 zx12
  obtain ⟨rfl, N12q, e12⟩ := hQ12
  have N12 := Fr.app N10 N12q
  refine own_lift st12 ?_
  show own_Go p.tables e below (T12.setTop (mkF m 23 #[iv p0, iv p1, iv p2, iv p3, .unset, .unset, .unset] [(.int (own_ch p2)), (.int 2), (.ref ob2), (.ref ob2)])) _
  obtain ⟨cl13, Ar13, qx13, Sx13, N13', H13', G13'⟩ := id (Vn10)
  have hin13 : ¬ ((2 : Int32) < 0 ∨ cl13.slots.size ≤ ((2 : Int32)).toNatClampNeg) := inb_of Sx13 ⟨(by decide : ¬ ((2 : Int32) < (0 : Int32))), (by decide : (2 : Int32) < (4 : Int32))⟩
  obtain ⟨T14, h14, X14, e14, W14, st14⟩ := stC X12 hx hZ e12 Ar13 (j := (2 : Int32)) hin13 (g := (mkF m 23 #[iv p0, iv p1, iv p2, iv p3, .unset, .unset, .unset] [(.int (own_ch p2)), (.int 2), (.ref ob2), (.ref ob2)])) rfl rfl (hb hby at_23)
  have N14 := Fr.snoc X14 N12 ge2
  have Z14 : n0 ≤ h14.size := Nat.le_trans Z10 (Nat.le_of_eq W14.size.symm)
  have Vn14 : Arv Z h14 ob2 ka2 .char (4 : Int32) [(.int (own_ch p0)), (.int (own_ch p1)), (.int (nar .char (own_ch p2))), (.int 0)] (.int 0) := Arv.set Ar13 qx13 Sx13 N13' H13' G13' (fits_nar_char _) W14 2 rfl (Nat.le_of_ble_eq_true rfl)
  rw [own_ch_nar p2] at Vn14
  refine own_lift st14 ?_
  show own_Go p.tables e below (T14.setTop (mkF m 24 #[iv p0, iv p1, iv p2, iv p3, .unset, .unset, .unset] [(.ref ob2)])) _
  have sg15 : ∀ t, Steps p.tables e below (T14.setTop (mkF m 27 #[iv p0, iv p1, iv p2, iv p3, .unset, .unset, .unset] [(.int p3), (.int 3), (.ref ob2), (.ref ob2)])) t → Steps p.tables e below (T14.setTop (mkF m 24 #[iv p0, iv p1, iv p2, iv p3, .unset, .unset, .unset] [(.ref ob2)])) t := by
    intro t k
    refine XS.dup X14.here hx rfl (hb hby at_24) rfl rfl ?_
    show Steps p.tables e below (T14.setTop (mkF m 25 #[iv p0, iv p1, iv p2, iv p3, .unset, .unset, .unset] [(.ref ob2), (.ref ob2)])) _
    refine XS.iconst X14.here hx rfl (hb hby at_25) ?_
    refine XS.iloadN X14.here hx rfl (hb hby at_26) rfl ?_
    show Steps p.tables e below (T14.setTop (mkF m 27 #[iv p0, iv p1, iv p2, iv p3, .unset, .unset, .unset] [(.int p3), (.int 3), (.ref ob2), (.ref ob2)])) _
    exact k
  refine own_lift sg15 ?_
  show own_Go p.tables e below (T14.setTop (mkF m 27 #[iv p0, iv p1, iv p2, iv p3, .unset, .unset, .unset] [(.int p3), (.int 3), (.ref ob2), (.ref ob2)])) _
  obtain ⟨_, _, ⟨T16, Lx16, kx16, nx16⟩, -, X16, ⟨Lc16, hQ16, lx16, yx16, zx16⟩, st16⟩ := Jvm.LawKit.callS X14 hx (y := (⟨LW, "ch", "(I)C"⟩ : MethodName)) hown (mvT hZ (wd hw 1 rfl)) (mvT hZ (wd hw 2 rfl)) (mvT hZ (wd hw 3 rfl)) (mvT hZ (wd hw 4 rfl)) (by decide) (backOf (W := 3) (rmCh l Z a0 hw [] p3 h14 n0 Z14 ) hZ (wd hw 4 rfl) (wd hw 3 rfl) (by decide) (by decide)) (g := (mkF m 27 #[iv p0, iv p1, iv p2, iv p3, .unset, .unset, .unset] [(.int p3), (.int 3), (.ref ob2), (.ref ob2)])) rfl (by rw [hml]; rfl) (argsL := [(.int p3)]) (rest := [(.int 3), (.ref ob2), (.ref ob2)]) (lenOf pd_12 rfl) rfl (by show 2 * 0 + _ ≤ _; exact Nat.le_of_eq rfl) (hb hby at_27) (fun _ _ => ⟨rfl, e14, (by decide : 1 + 0 ≤ _), (by decide : 4 + 0 ≤ _)⟩)
  dsimp only [Pt.U, Pt.locs, Pt.cells, Pt.slots] at X16 lx16 yx16 zx16 st16 hQ16
  subst lx16 yx16 zx16
  obtain ⟨rfl, N16q, e16⟩ := hQ16
  have N16 := Fr.app N14 N16q
  refine own_lift st16 ?_
  show own_Go p.tables e below (T16.setTop (mkF m 30 #[iv p0, iv p1, iv p2, iv p3, .unset, .unset, .unset] [(.int (own_ch p3)), (.int 3), (.ref ob2), (.ref ob2)])) _
  obtain ⟨cl17, Ar17, qx17, Sx17, N17', H17', G17'⟩ := id (Vn14)
  have hin17 : ¬ ((3 : Int32) < 0 ∨ cl17.slots.size ≤ ((3 : Int32)).toNatClampNeg) := inb_of Sx17 ⟨(by decide : ¬ ((3 : Int32) < (0 : Int32))), (by decide : (3 : Int32) < (4 : Int32))⟩
  obtain ⟨T18, h18, X18, e18, W18, st18⟩ := stC X16 hx hZ e16 Ar17 (j := (3 : Int32)) hin17 (g := (mkF m 30 #[iv p0, iv p1, iv p2, iv p3, .unset, .unset, .unset] [(.int (own_ch p3)), (.int 3), (.ref ob2), (.ref ob2)])) rfl rfl (hb hby at_30)
  have N18 := Fr.snoc X18 N16 ge2
  have Z18 : n0 ≤ h18.size := Nat.le_trans Z14 (Nat.le_of_eq W18.size.symm)
  have Vn18 : Arv Z h18 ob2 ka2 .char (4 : Int32) [(.int (own_ch p0)), (.int (own_ch p1)), (.int (own_ch p2)), (.int (nar .char (own_ch p3)))] (.int 0) := Arv.set Ar17 qx17 Sx17 N17' H17' G17' (fits_nar_char _) W18 3 rfl (Nat.le_of_ble_eq_true rfl)
  rw [own_ch_nar p3] at Vn18
  refine own_lift st18 ?_
  show own_Go p.tables e below (T18.setTop (mkF m 31 #[iv p0, iv p1, iv p2, iv p3, .unset, .unset, .unset] [(.ref ob2)])) _
  have sg19 : ∀ t, Steps p.tables e below (T18.setTop (mkF m 33 #[iv p0, iv p1, iv p2, iv p3, rv ob2, .unset, .unset] [])) t → Steps p.tables e below (T18.setTop (mkF m 31 #[iv p0, iv p1, iv p2, iv p3, .unset, .unset, .unset] [(.ref ob2)])) t := by
    intro t k
    refine XS.astore X18.here hx rfl (hb hby at_31) rfl rfl (l' := #[iv p0, iv p1, iv p2, iv p3, rv ob2, .unset, .unset]) rfl ?_
    show Steps p.tables e below (T18.setTop (mkF m 33 #[iv p0, iv p1, iv p2, iv p3, rv ob2, .unset, .unset] [])) _
    exact k
  refine own_lift sg19 ?_
  show own_Go p.tables e below (T18.setTop (mkF m 33 #[iv p0, iv p1, iv p2, iv p3, rv ob2, .unset, .unset] [])) _
  have join20 : ∀ (T20 : State) (locs20 : List Loc), Stand p l e room_1 s m #[(.int p0), (.int p1), (.int p2), (.int p3)] below meth c T20 locs20 1 4 → T20.heap = h18 → Fr n0 locs20 → own_Go p.tables e below (T20.setTop (mkF m 86 #[iv p0, iv p1, iv p2, iv p3, rv ob2, .unset, .unset] [(.int (own_p (own_ch p0) (own_ch p1) (own_ch p2) (own_ch p3)))])) (fun s₂ o => s₂.status = .running ∧ Ended s₂ below o ∧ ∃ v L, o = .returned v ∧ Q0 Z  h0 n0 v s₂.heap L ∧ FrameEnd s o s₂ L 16 128) := by
    intro T20 locs20 X20 e20 N20
    have sg21 : ∀ t, Steps p.tables e below (T20.setTop (mkF m 88 #[iv p0, iv p1, iv p2, iv p3, rv ob2, iv (own_p (own_ch p0) (own_ch p1) (own_ch p2) (own_ch p3)), .unset] [])) t → Steps p.tables e below (T20.setTop (mkF m 86 #[iv p0, iv p1, iv p2, iv p3, rv ob2, .unset, .unset] [(.int (own_p (own_ch p0) (own_ch p1) (own_ch p2) (own_ch p3)))])) t := by
      intro t k
      refine XS.istore X20.here hx rfl (hb hby at_86) rfl (l' := #[iv p0, iv p1, iv p2, iv p3, rv ob2, iv (own_p (own_ch p0) (own_ch p1) (own_ch p2) (own_ch p3)), .unset]) rfl ?_
      show Steps p.tables e below (T20.setTop (mkF m 88 #[iv p0, iv p1, iv p2, iv p3, rv ob2, iv (own_p (own_ch p0) (own_ch p1) (own_ch p2) (own_ch p3)), .unset] [])) _
      exact k
    refine own_lift sg21 ?_
    show own_Go p.tables e below (T20.setTop (mkF m 88 #[iv p0, iv p1, iv p2, iv p3, rv ob2, iv (own_p (own_ch p0) (own_ch p1) (own_ch p2) (own_ch p3)), .unset] [])) _
    obtain ⟨T22, h22, X22, e22, Ex22, Ax22, Dx22, Ux22, st22⟩ := newO X20 hx hZ hown (wd hw 5 rfl) (wd hw 6 rfl) (wd hw 7 rfl) e20 (g := (mkF m 88 #[iv p0, iv p1, iv p2, iv p3, rv ob2, iv (own_p (own_ch p0) (own_ch p1) (own_ch p2) (own_ch p3)), .unset] [])) rfl (hb hby at_88) (by decide) (by decide)
    obtain ⟨ob22, g22⟩ : ∃ z, z = h18.size := ⟨_, rfl⟩
    rw [← g22] at Ax22 Dx22 Ux22 st22
    have ne23 : ob2 ≠ ob22 := Nat.ne_of_lt (Nat.lt_of_lt_of_le Vn18.lt (Nat.le_of_eq g22.symm))
    have Z22 : n0 ≤ h22.size := Nat.le_trans Z18 Ex22.1
    have ge22 : n0 ≤ ob22 := Nat.le_trans Z18 (Nat.le_of_eq g22.symm)
    have Fn22_42 : Fld Z h22 ob22 TC "line" "I" (.int 0) := Dx22 (Or.inl (wd hw 42 rfl)) (ty := .int) (by decide)
    have Fn22_44 : Fld Z h22 ob22 TC "column" "I" (.int 0) := Dx22 (Or.inl (wd hw 44 rfl)) (ty := .int) (by decide)
    have Fn22_46 : Fld Z h22 ob22 TC "text" dSx .null := Dx22 (Or.inr (wd hw 46 rfl)) (ty := (.object STx)) (by decide)
    have Fn22_53 : Fld Z h22 ob22 TC "offset" "I" (.int 0) := Dx22 (Or.inl (wd hw 53 rfl)) (ty := .int) (by decide)
    refine own_lift st22 ?_
    show own_Go p.tables e below (T22.setTop (mkF m 91 #[iv p0, iv p1, iv p2, iv p3, rv ob2, iv (own_p (own_ch p0) (own_ch p1) (own_ch p2) (own_ch p3)), .unset] [(.ref ob22)])) _
    have sg24 : ∀ t, Steps p.tables e below (T22.setTop (mkF m 92 #[iv p0, iv p1, iv p2, iv p3, rv ob2, iv (own_p (own_ch p0) (own_ch p1) (own_ch p2) (own_ch p3)), .unset] [(.ref ob22), (.ref ob22)])) t → Steps p.tables e below (T22.setTop (mkF m 91 #[iv p0, iv p1, iv p2, iv p3, rv ob2, iv (own_p (own_ch p0) (own_ch p1) (own_ch p2) (own_ch p3)), .unset] [(.ref ob22)])) t := by
      intro t k
      refine XS.dup X22.here hx rfl (hb hby at_91) rfl rfl ?_
      show Steps p.tables e below (T22.setTop (mkF m 92 #[iv p0, iv p1, iv p2, iv p3, rv ob2, iv (own_p (own_ch p0) (own_ch p1) (own_ch p2) (own_ch p3)), .unset] [(.ref ob22), (.ref ob22)])) _
      exact k
    refine own_lift sg24 ?_
    show own_Go p.tables e below (T22.setTop (mkF m 92 #[iv p0, iv p1, iv p2, iv p3, rv ob2, iv (own_p (own_ch p0) (own_ch p1) (own_ch p2) (own_ch p3)), .unset] [(.ref ob22), (.ref ob22)])) _
    obtain ⟨T25, h25, X25, e25, Ex25, Ax25, Dx25, Ux25, st25⟩ := newO X22 hx hZ hown (wd hw 8 rfl) (wd hw 9 rfl) (wd hw 10 rfl) e22 (g := (mkF m 92 #[iv p0, iv p1, iv p2, iv p3, rv ob2, iv (own_p (own_ch p0) (own_ch p1) (own_ch p2) (own_ch p3)), .unset] [(.ref ob22), (.ref ob22)])) rfl (hb hby at_92) (by decide) (by decide)
    obtain ⟨ob25, g25⟩ : ∃ z, z = h22.size := ⟨_, rfl⟩
    rw [← g25] at Ax25 Dx25 Ux25 st25
    have Fc26 : Arv Z h22 ob2 ka2 .char (4 : Int32) [(.int (own_ch p0)), (.int (own_ch p1)), (.int (own_ch p2)), (.int (own_ch p3))] (.int 0) := (Vn18.ext Ex22)
    have ne27 : ob2 ≠ ob25 := Nat.ne_of_lt (Nat.lt_of_lt_of_le Fc26.lt (Nat.le_of_eq g25.symm))
    have ne28 : ob22 ≠ ob25 := Nat.ne_of_lt (Nat.lt_of_lt_of_le Ax22.lt (Nat.le_of_eq g25.symm))
    have Z25 : n0 ≤ h25.size := Nat.le_trans Z22 Ex25.1
    have ge25 : n0 ≤ ob25 := Nat.le_trans Z22 (Nat.le_of_eq g25.symm)
    have Fn25_34 : Fld Z h25 ob25 STx "coder" "B" (.int 0) := Dx25 (Or.inr (wd hw 34 rfl)) (ty := .byte) (by decide)
    have Fn25_36 : Fld Z h25 ob25 STx "value" "[B" .null := Dx25 (Or.inr (wd hw 36 rfl)) (ty := (.array .byte)) (by decide)
    refine own_lift st25 ?_
    show own_Go p.tables e below (T25.setTop (mkF m 95 #[iv p0, iv p1, iv p2, iv p3, rv ob2, iv (own_p (own_ch p0) (own_ch p1) (own_ch p2) (own_ch p3)), .unset] [(.ref ob25), (.ref ob22), (.ref ob22)])) _
    have sg29 : ∀ t, Steps p.tables e below (T25.setTop (mkF m 98 #[iv p0, iv p1, iv p2, iv p3, rv ob2, iv (own_p (own_ch p0) (own_ch p1) (own_ch p2) (own_ch p3)), .unset] [(.ref ob2), (.ref ob25), (.ref ob25), (.ref ob22), (.ref ob22)])) t → Steps p.tables e below (T25.setTop (mkF m 95 #[iv p0, iv p1, iv p2, iv p3, rv ob2, iv (own_p (own_ch p0) (own_ch p1) (own_ch p2) (own_ch p3)), .unset] [(.ref ob25), (.ref ob22), (.ref ob22)])) t := by
      intro t k
      refine XS.dup X25.here hx rfl (hb hby at_95) rfl rfl ?_
      show Steps p.tables e below (T25.setTop (mkF m 96 #[iv p0, iv p1, iv p2, iv p3, rv ob2, iv (own_p (own_ch p0) (own_ch p1) (own_ch p2) (own_ch p3)), .unset] [(.ref ob25), (.ref ob25), (.ref ob22), (.ref ob22)])) _
      refine XS.aload X25.here hx rfl (hb hby at_96) rfl rfl ?_
      show Steps p.tables e below (T25.setTop (mkF m 98 #[iv p0, iv p1, iv p2, iv p3, rv ob2, iv (own_p (own_ch p0) (own_ch p1) (own_ch p2) (own_ch p3)), .unset] [(.ref ob2), (.ref ob25), (.ref ob25), (.ref ob22), (.ref ob22)])) _
      exact k
    refine own_lift sg29 ?_
    show own_Go p.tables e below (T25.setTop (mkF m 98 #[iv p0, iv p1, iv p2, iv p3, rv ob2, iv (own_p (own_ch p0) (own_ch p1) (own_ch p2) (own_ch p3)), .unset] [(.ref ob2), (.ref ob25), (.ref ob25), (.ref ob22), (.ref ob22)])) _
    have Fc30 : Arv Z h25 ob2 ka2 .char (4 : Int32) [(.int (own_ch p0)), (.int (own_ch p1)), (.int (own_ch p2)), (.int (own_ch p3))] (.int 0) := (Fc26.ext Ex25)
    have Fc31 : Sta Z h25 STx "COMPACT_STRINGS" "Z" (.int cs) := (((((((Scs.ext Ex2).wr W6).wr W10).wr W14).wr W18).ext Ex22).ext Ex25)
    have hws32 : ∀ d ∈ StrChars.Road.words, d.before a0 Z = true := fun d hd => hw d (own_words d hd)
    have hlat32 : ∀ c ∈ [(own_ch p0), (own_ch p1), (own_ch p2), (own_ch p3)], ¬ c < 0 ∧ ¬ (255 : Int32) < c := own_lat p0 p1 p2 p3
    obtain ⟨_, _, ⟨T32, Lx32, kx32, nx32⟩, -, X32, ⟨Lc32, hQ32, lx32, yx32, zx32⟩, st32⟩ := X25.specialBack hx (y := (⟨STx, "<init>", "([C)V"⟩ : MethodName)) rfl hown (mvT hZ (wd hw 11 rfl)) (mvT hZ (wd hw 12 rfl)) (mvT hZ (wd hw 13 rfl)) (by decide) (StrChars.Road.backV (W := 3) hZ hws32 (kI := 4) (wd hw 9 rfl) (cs := [(own_ch p0), (own_ch p1), (own_ch p2), (own_ch p3)]) (bs := [((own_ch p0)).toInt8.toInt32, ((own_ch p1)).toInt8.toInt32, ((own_ch p2)).toInt8.toInt32, ((own_ch p3)).toInt8.toInt32]) (n := 4) ge25 Z25 Ax25 Fn25_36 Fn25_34 Fc30 Fc31 P_cs rfl rfl (by decide) (by decide) hlat32 rfl (by decide) (by decide)) (g := (mkF m 98 #[iv p0, iv p1, iv p2, iv p3, rv ob2, iv (own_p (own_ch p0) (own_ch p1) (own_ch p2) (own_ch p3)), .unset] [(.ref ob2), (.ref ob25), (.ref ob25), (.ref ob22), (.ref ob22)])) rfl (by rw [hml]; rfl) (Steps.refl _) (a := ob25) (argsL := [(.ref ob2)]) (rest := [(.ref ob25), (.ref ob22), (.ref ob22)]) (lenOf pd_13 rfl) rfl (by show 2 * 0 + _ ≤ _; exact Nat.le_of_eq rfl) (hb hby at_98) (fun _ _ => ⟨rfl, e25, (by decide : 3 + 1 ≤ _), (by decide : 12 + 4 ≤ _)⟩)
    dsimp only [Pt.U, Pt.locs, Pt.cells, Pt.slots] at X32 lx32 yx32 zx32 st32 hQ32
    subst lx32 yx32 zx32
    obtain ⟨rfl, N32q, Kq32, Eq32, Cq32, tb32, kb32, gt32, gh32, nt32, Vq32, Aq32⟩ := hQ32
    have N32 := Fr.app N20 N32q
    have ne33 : ob2 ≠ tb32 := Nat.ne_of_lt (Nat.lt_of_lt_of_le Fc30.lt gh32)
    have Fc34 : Exa Z h25 ob22 TC := (Ax22.ext Ex25)
    have ne35 : ob22 ≠ tb32 := Nat.ne_of_lt (Nat.lt_of_lt_of_le Fc34.lt gh32)
    have ne36 : ob25 ≠ tb32 := Nat.ne_of_lt (Nat.lt_of_lt_of_le Ax25.lt gh32)
    have Z32 : n0 ≤ T32.heap.size := Nat.le_trans Z25 Kq32.1
    refine own_lift (fun t k => st32.trans k) ?_
    show own_Go p.tables e below (T32.setTop (mkF m 101 #[iv p0, iv p1, iv p2, iv p3, rv ob2, iv (own_p (own_ch p0) (own_ch p1) (own_ch p2) (own_ch p3)), .unset] [(.ref ob25), (.ref ob22), (.ref ob22)])) _
    have Fc37 : Exa Z T32.heap ob22 TC := (Fc34.keep Kq32)
    have Fc38 : Fld Z T32.heap ob22 TC "text" dSx .null := ((Fn22_46.ext Ex25).keep Kq32 (ninS ne28 nin0))
    have Fc39 : Fld Z T32.heap ob22 TC "offset" "I" (.int 0) := ((Fn22_53.ext Ex25).keep Kq32 (ninS ne28 nin0))
    have Fc40 : Fld Z T32.heap ob22 TC "column" "I" (.int 0) := ((Fn22_44.ext Ex25).keep Kq32 (ninS ne28 nin0))
    have Fc41 : Fld Z T32.heap ob22 TC "line" "I" (.int 0) := ((Fn22_42.ext Ex25).keep Kq32 (ninS ne28 nin0))
    obtain ⟨_, _, ⟨T42, Lx42, kx42, nx42⟩, -, X42, ⟨Lc42, hQ42, lx42, yx42, zx42⟩, st42⟩ := X32.specialBack hx (y := (⟨TC, "<init>", "(Ljava/lang/String;)V"⟩ : MethodName)) rfl hown (mvT hZ (wd hw 37 rfl)) (mvT hZ (wd hw 38 rfl)) (mvT hZ (wd hw 39 rfl)) (by decide) (backOf (W := 1) (rmInit l Z a0 hw [] ob22 ob25 T32.heap n0 Z32 Fc37 Fc38 Fc39 Fc40 Fc41 ge22) hZ (wd hw 39 rfl) (wd hw 7 rfl) (by decide) (by decide)) (g := (mkF m 101 #[iv p0, iv p1, iv p2, iv p3, rv ob2, iv (own_p (own_ch p0) (own_ch p1) (own_ch p2) (own_ch p3)), .unset] [(.ref ob25), (.ref ob22), (.ref ob22)])) rfl (by rw [hml]; rfl) (Steps.refl _) (a := ob22) (argsL := [(.ref ob25)]) (rest := [(.ref ob22)]) (lenOf pd_14 rfl) rfl (by show 2 * 0 + _ ≤ _; exact Nat.le_of_eq rfl) (hb hby at_101) (fun _ _ => ⟨rfl, rfl, (by decide : 4 + 0 ≤ _), (by decide : 16 + 0 ≤ _)⟩)
    dsimp only [Pt.U, Pt.locs, Pt.cells, Pt.slots] at X42 lx42 yx42 zx42 st42 hQ42
    subst lx42 yx42 zx42
    obtain ⟨rfl, N42q, p42_0, p42_1, p42_2, p42_3, p42_4, p42_5⟩ := hQ42
    have N42 := Fr.app N32 N42q
    have Z42 : n0 ≤ T42.heap.size := Nat.le_trans Z32 p42_0.1
    refine own_lift (fun t k => st42.trans k) ?_
    show own_Go p.tables e below (T42.setTop (mkF m 104 #[iv p0, iv p1, iv p2, iv p3, rv ob2, iv (own_p (own_ch p0) (own_ch p1) (own_ch p2) (own_ch p3)), .unset] [(.ref ob22)])) _
    have sg43 : ∀ t, Steps p.tables e below (T42.setTop (mkF m 106 #[iv p0, iv p1, iv p2, iv p3, rv ob2, iv (own_p (own_ch p0) (own_ch p1) (own_ch p2) (own_ch p3)), rv ob22] [])) t → Steps p.tables e below (T42.setTop (mkF m 104 #[iv p0, iv p1, iv p2, iv p3, rv ob2, iv (own_p (own_ch p0) (own_ch p1) (own_ch p2) (own_ch p3)), .unset] [(.ref ob22)])) t := by
      intro t k
      refine XS.astore X42.here hx rfl (hb hby at_104) rfl rfl (l' := #[iv p0, iv p1, iv p2, iv p3, rv ob2, iv (own_p (own_ch p0) (own_ch p1) (own_ch p2) (own_ch p3)), rv ob22]) rfl ?_
      show Steps p.tables e below (T42.setTop (mkF m 106 #[iv p0, iv p1, iv p2, iv p3, rv ob2, iv (own_p (own_ch p0) (own_ch p1) (own_ch p2) (own_ch p3)), rv ob22] [])) _
      exact k
    refine own_lift sg43 ?_
    show own_Go p.tables e below (T42.setTop (mkF m 106 #[iv p0, iv p1, iv p2, iv p3, rv ob2, iv (own_p (own_ch p0) (own_ch p1) (own_ch p2) (own_ch p3)), rv ob22] [])) _
    by_cases d0 : (own_ch p0) = (10 : Int32)
    · rw [show (own_p (own_ch p0) (own_ch p1) (own_ch p2) (own_ch p3)) = (0 : Int32) from (by rw [own_p, if_pos d0])]
      show own_Go p.tables e below (T42.setTop (mkF m 106 #[iv p0, iv p1, iv p2, iv p3, rv ob2, iv 0, rv ob22] [])) _
      by_cases d1 : (own_ch p1) = (10 : Int32)
      · have sg44 : ∀ t, Steps p.tables e below (T42.setTop (mkF m 108 #[iv p0, iv p1, iv p2, iv p3, rv ob2, iv 0, rv ob22] [(.ref ob22)])) t → Steps p.tables e below (T42.setTop (mkF m 106 #[iv p0, iv p1, iv p2, iv p3, rv ob2, iv 0, rv ob22] [])) t := by
          intro t k
          refine XS.aload X42.here hx rfl (hb hby at_106) rfl rfl ?_
          show Steps p.tables e below (T42.setTop (mkF m 108 #[iv p0, iv p1, iv p2, iv p3, rv ob2, iv 0, rv ob22] [(.ref ob22)])) _
          exact k
        refine own_lift sg44 ?_
        show own_Go p.tables e below (T42.setTop (mkF m 108 #[iv p0, iv p1, iv p2, iv p3, rv ob2, iv 0, rv ob22] [(.ref ob22)])) _
        have Fc45 : Exa Z T42.heap ob25 STx := (Eq32.keep p42_0)
        have Fc46 : Fld Z T42.heap ob25 STx "value" "[B" (.ref tb32) := (Vq32.keep p42_0 (ninS (Ne.symm ne28) nin0))
        have Fc47 : Fld Z T42.heap ob25 STx "coder" "B" (.int 0) := (Cq32.keep p42_0 (ninS (Ne.symm ne28) nin0))
        have Fc48 : Arv Z T42.heap tb32 kb32 .byte (4 : Int32) [(.int (((own_ch p0)).toInt8.toInt32)), (.int (((own_ch p1)).toInt8.toInt32)), (.int (((own_ch p2)).toInt8.toInt32)), (.int (((own_ch p3)).toInt8.toInt32))] (.int 0) := (Aq32.keep p42_0 (ninS (Ne.symm ne35) nin0))
        have Fc49 : Sta Z T42.heap STx "COMPACT_STRINGS" "Z" (.int cs) := (own_Sta_keep (own_Sta_keep Fc31 Kq32 (allS (own_plain Ax25) all0)) p42_0 (allS (own_plain Fc37) all0))
        obtain ⟨cq50, kq50, q50a, q50b, q50c⟩ := isOf hZ rfl p42_1
        obtain ⟨_, _, ⟨T50, Lx50, kx50, nx50⟩, -, X50, ⟨Lc50, hQ50, lx50, yx50, zx50⟩, st50⟩ := X42.virtualBack hx (y := (⟨TC, "skipRestOfLine", "()V"⟩ : MethodName)) (z := (⟨TC, "skipRestOfLine", "()V"⟩ : MethodName)) hown (mvT hZ (wd hw 47 rfl)) (mvT hZ (wd hw 48 rfl)) (notFace_of_selects (args := #[]) (mvT hZ (wd hw 50 rfl))) (mvT hZ (wd hw 50 rfl)) (mvT hZ (wd hw 49 rfl)) (by decide) (backOf (W := 0) (rmSkip0 l Z a0 hw [] ob22 ob25 tb32 kb32 (((own_ch p0)).toInt8.toInt32) (((own_ch p1)).toInt8.toInt32) (((own_ch p2)).toInt8.toInt32) (((own_ch p3)).toInt8.toInt32) cs T42.heap n0 Z42 p42_1 p42_2 p42_3 p42_4 p42_5 Fc45 Fc46 Fc47 Fc48 Fc49 (Ne.symm ne28) (Ne.symm ne35) ge22 P_cs (own_b10 d0)) hZ (wd hw 51 rfl) (wd hw 7 rfl) (by decide) (by decide)) q50a q50c (g := (mkF m 108 #[iv p0, iv p1, iv p2, iv p3, rv ob2, iv 0, rv ob22] [(.ref ob22)])) rfl (by rw [hml]; rfl) (Steps.refl _) (argsL := []) (rest := []) (lenOf pd_15 rfl) rfl (by show 2 * 0 + _ ≤ _; exact Nat.le_of_eq rfl) (hb hby at_108) (fun _ _ => ⟨rfl, rfl, (by decide : 4 + 0 ≤ _), (by decide : 16 + 0 ≤ _)⟩)
        dsimp only [Pt.U, Pt.locs, Pt.cells, Pt.slots] at X50 lx50 yx50 zx50 st50 hQ50
        subst lx50 yx50 zx50
        obtain ⟨rfl, N50q, p50_0, p50_1, p50_2, p50_3, p50_4, p50_5⟩ := hQ50
        have N50 := Fr.app N42 N50q
        have Z50 : n0 ≤ T50.heap.size := Nat.le_trans Z42 p50_0.1
        refine own_lift (fun t k => st50.trans k) ?_
        show own_Go p.tables e below (T50.setTop (mkF m 111 #[iv p0, iv p1, iv p2, iv p3, rv ob2, iv 0, rv ob22] [])) _
        have sg51 : ∀ t, Steps p.tables e below (T50.setTop (mkF m 132 #[iv p0, iv p1, iv p2, iv p3, rv ob2, iv 0, rv ob22] [(.ref ob22)])) t → Steps p.tables e below (T50.setTop (mkF m 111 #[iv p0, iv p1, iv p2, iv p3, rv ob2, iv 0, rv ob22] [])) t := by
          intro t k
          refine XS.iload X50.here hx rfl (hb hby at_111) rfl ?_
          show Steps p.tables e below (T50.setTop (mkF m 113 #[iv p0, iv p1, iv p2, iv p3, rv ob2, iv 0, rv ob22] [(.int 0)])) _
          refine XS.ifYes X50.here hx rfl (pc0 := 113) (pc' := 130) rfl (hb hby at_113) rfl ((if0 _ _).trans (flt (by decide : ¬ ((0 : Int32) < (0 : Int32)))).2.1) (by decide) (by decide) ?_
          refine XS.aload X50.here hx rfl (hb hby at_130) rfl rfl ?_
          show Steps p.tables e below (T50.setTop (mkF m 132 #[iv p0, iv p1, iv p2, iv p3, rv ob2, iv 0, rv ob22] [(.ref ob22)])) _
          exact k
        refine own_lift sg51 ?_
        show own_Go p.tables e below (T50.setTop (mkF m 132 #[iv p0, iv p1, iv p2, iv p3, rv ob2, iv 0, rv ob22] [(.ref ob22)])) _
        have Fc52 : Exa Z T50.heap ob25 STx := (Fc45.keep p50_0)
        have Fc53 : Fld Z T50.heap ob25 STx "value" "[B" (.ref tb32) := (Fc46.keep p50_0 (ninS (Ne.symm ne28) nin0))
        have Fc54 : Fld Z T50.heap ob25 STx "coder" "B" (.int 0) := (Fc47.keep p50_0 (ninS (Ne.symm ne28) nin0))
        have Fc55 : Arv Z T50.heap tb32 kb32 .byte (4 : Int32) [(.int (((own_ch p0)).toInt8.toInt32)), (.int (((own_ch p1)).toInt8.toInt32)), (.int (((own_ch p2)).toInt8.toInt32)), (.int (((own_ch p3)).toInt8.toInt32))] (.int 0) := (Fc48.keep p50_0 (ninS (Ne.symm ne35) nin0))
        have Fc56 : Sta Z T50.heap STx "COMPACT_STRINGS" "Z" (.int cs) := (own_Sta_keep Fc49 p50_0 (allS (own_plain p42_1) all0))
        have Fc57 : Sta Z T50.heap PCx "SIOOBE_FORMATTER" BFx fv := (own_Sta_keep (own_Sta_keep (own_Sta_keep (((((((Sfm.ext Ex2).wr W6).wr W10).wr W14).wr W18).ext Ex22).ext Ex25) Kq32 (allS (own_plain Ax25) all0)) p42_0 (allS (own_plain Fc37) all0)) p50_0 (allS (own_plain p42_1) all0))
        obtain ⟨cq58, kq58, q58a, q58b, q58c⟩ := isOf hZ rfl p50_1
        obtain ⟨_, _, ⟨T58, Lx58, kx58, nx58⟩, -, X58, ⟨Lc58, hQ58, lx58, yx58, zx58⟩, st58⟩ := X50.virtualBack hx (y := (⟨TC, "atLineEnd", "()Z"⟩ : MethodName)) (z := (⟨TC, "atLineEnd", "()Z"⟩ : MethodName)) hown (mvT hZ (wd hw 108 rfl)) (mvT hZ (wd hw 109 rfl)) (notFace_of_selects (args := #[]) (mvT hZ (wd hw 111 rfl))) (mvT hZ (wd hw 111 rfl)) (mvT hZ (wd hw 110 rfl)) (by decide) (backOf (W := 0) (rmAle0 l Z a0 hw [] ob22 ob25 tb32 kb32 (((own_ch p0)).toInt8.toInt32) (((own_ch p1)).toInt8.toInt32) (((own_ch p2)).toInt8.toInt32) (((own_ch p3)).toInt8.toInt32) cs fv T50.heap n0 Z50 p50_2 p50_3 Fc52 Fc53 Fc54 Fc55 Fc56 Fc57 P_cs P_fv ((own_c8_ch p0).trans d0)) hZ (wd hw 112 rfl) (wd hw 7 rfl) (by decide) (by decide)) q58a q58c (g := (mkF m 132 #[iv p0, iv p1, iv p2, iv p3, rv ob2, iv 0, rv ob22] [(.ref ob22)])) rfl (by rw [hml]; rfl) (Steps.refl _) (argsL := []) (rest := []) (lenOf pd_4 rfl) rfl (by show 2 * 0 + _ ≤ _; exact Nat.le_of_eq rfl) (hb hby at_132) (fun _ _ => ⟨rfl, rfl, (by decide : 4 + 0 ≤ _), (by decide : 16 + 0 ≤ _)⟩)
        dsimp only [Pt.U, Pt.locs, Pt.cells, Pt.slots] at X58 lx58 yx58 zx58 st58 hQ58
        subst lx58 yx58 zx58
        obtain ⟨rfl, N58q, e58⟩ := hQ58
        have N58 := Fr.app N50 N58q
        refine own_lift (fun t k => st58.trans k) ?_
        show own_Go p.tables e below (T58.setTop (mkF m 135 #[iv p0, iv p1, iv p2, iv p3, rv ob2, iv 0, rv ob22] [(.int 1)])) _
        have sg59 : ∀ t, Steps p.tables e below (T58.setTop (mkF m 140 #[iv p0, iv p1, iv p2, iv p3, rv ob2, iv 0, rv ob22] [(.ref ob22)])) t → Steps p.tables e below (T58.setTop (mkF m 135 #[iv p0, iv p1, iv p2, iv p3, rv ob2, iv 0, rv ob22] [(.int 1)])) t := by
          intro t k
          refine XS.ifNo X58.here hx rfl (hb hby at_135) rfl ((if0 _ _).trans (feq (by decide : ¬ ((1 : Int32) = (0 : Int32)))).1) ?_
          show Steps p.tables e below (T58.setTop (mkF m 138 #[iv p0, iv p1, iv p2, iv p3, rv ob2, iv 0, rv ob22] [])) _
          refine XS.aload X58.here hx rfl (hb hby at_138) rfl rfl ?_
          show Steps p.tables e below (T58.setTop (mkF m 140 #[iv p0, iv p1, iv p2, iv p3, rv ob2, iv 0, rv ob22] [(.ref ob22)])) _
          exact k
        refine own_lift sg59 ?_
        show own_Go p.tables e below (T58.setTop (mkF m 140 #[iv p0, iv p1, iv p2, iv p3, rv ob2, iv 0, rv ob22] [(.ref ob22)])) _
        obtain ⟨cq60, kq60, q60a, q60b, q60c⟩ := isOf hZ e58 p50_1
        obtain ⟨_, _, ⟨T60, Lx60, kx60, nx60⟩, -, X60, ⟨Lc60, hQ60, lx60, yx60, zx60⟩, st60⟩ := X58.virtualBack hx (y := (⟨TC, "line", "()I"⟩ : MethodName)) (z := (⟨TC, "line", "()I"⟩ : MethodName)) hown (mvT hZ (wd hw 129 rfl)) (mvT hZ (wd hw 130 rfl)) (notFace_of_selects (args := #[]) (mvT hZ (wd hw 132 rfl))) (mvT hZ (wd hw 132 rfl)) (mvT hZ (wd hw 131 rfl)) (by decide) (backOf (W := 0) (rmLine l Z a0 hw [] ob22 (1 : Int32) T50.heap n0 Z50 p50_5) hZ (wd hw 133 rfl) (wd hw 7 rfl) (by decide) (by decide)) q60a q60c (g := (mkF m 140 #[iv p0, iv p1, iv p2, iv p3, rv ob2, iv 0, rv ob22] [(.ref ob22)])) rfl (by rw [hml]; rfl) (Steps.refl _) (argsL := []) (rest := []) (lenOf pd_5 rfl) rfl (by show 2 * 0 + _ ≤ _; exact Nat.le_of_eq rfl) (hb hby at_140) (fun _ _ => ⟨rfl, e58, (by decide : 4 + 0 ≤ _), (by decide : 16 + 0 ≤ _)⟩)
        dsimp only [Pt.U, Pt.locs, Pt.cells, Pt.slots] at X60 lx60 yx60 zx60 st60 hQ60
        subst lx60 yx60 zx60
        obtain ⟨rfl, N60q, e60⟩ := hQ60
        have N60 := Fr.app N58 N60q
        refine own_lift (fun t k => st60.trans k) ?_
        show own_Go p.tables e below (T60.setTop (mkF m 143 #[iv p0, iv p1, iv p2, iv p3, rv ob2, iv 0, rv ob22] [(.int 1)])) _
        have sg61 : ∀ t, Steps p.tables e below (T60.setTop (mkF m 149 #[iv p0, iv p1, iv p2, iv p3, rv ob2, iv 0, rv ob22] [(.ref ob22)])) t → Steps p.tables e below (T60.setTop (mkF m 143 #[iv p0, iv p1, iv p2, iv p3, rv ob2, iv 0, rv ob22] [(.int 1)])) t := by
          intro t k
          refine XS.iconst X60.here hx rfl (hb hby at_143) ?_
          show Steps p.tables e below (T60.setTop (mkF m 144 #[iv p0, iv p1, iv p2, iv p3, rv ob2, iv 0, rv ob22] [(.int 1), (.int 1)])) _
          refine XS.icmpNo X60.here hx rfl (hb hby at_144) rfl (teq (by decide : (1 : Int32) = (1 : Int32))).2 ?_
          refine XS.aload X60.here hx rfl (hb hby at_147) rfl rfl ?_
          show Steps p.tables e below (T60.setTop (mkF m 149 #[iv p0, iv p1, iv p2, iv p3, rv ob2, iv 0, rv ob22] [(.ref ob22)])) _
          exact k
        refine own_lift sg61 ?_
        show own_Go p.tables e below (T60.setTop (mkF m 149 #[iv p0, iv p1, iv p2, iv p3, rv ob2, iv 0, rv ob22] [(.ref ob22)])) _
        obtain ⟨cq62, kq62, q62a, q62b, q62c⟩ := isOf hZ e60 p50_1
        obtain ⟨_, _, ⟨T62, Lx62, kx62, nx62⟩, -, X62, ⟨Lc62, hQ62, lx62, yx62, zx62⟩, st62⟩ := X60.virtualBack hx (y := (⟨TC, "column", "()I"⟩ : MethodName)) (z := (⟨TC, "column", "()I"⟩ : MethodName)) hown (mvT hZ (wd hw 134 rfl)) (mvT hZ (wd hw 135 rfl)) (notFace_of_selects (args := #[]) (mvT hZ (wd hw 137 rfl))) (mvT hZ (wd hw 137 rfl)) (mvT hZ (wd hw 136 rfl)) (by decide) (backOf (W := 0) (rmCol l Z a0 hw [] ob22 (1 : Int32) T50.heap n0 Z50 p50_4) hZ (wd hw 138 rfl) (wd hw 7 rfl) (by decide) (by decide)) q62a q62c (g := (mkF m 149 #[iv p0, iv p1, iv p2, iv p3, rv ob2, iv 0, rv ob22] [(.ref ob22)])) rfl (by rw [hml]; rfl) (Steps.refl _) (argsL := []) (rest := []) (lenOf pd_5 rfl) rfl (by show 2 * 0 + _ ≤ _; exact Nat.le_of_eq rfl) (hb hby at_149) (fun _ _ => ⟨rfl, e60, (by decide : 4 + 0 ≤ _), (by decide : 16 + 0 ≤ _)⟩)
        dsimp only [Pt.U, Pt.locs, Pt.cells, Pt.slots] at X62 lx62 yx62 zx62 st62 hQ62
        subst lx62 yx62 zx62
        obtain ⟨rfl, N62q, e62⟩ := hQ62
        have N62 := Fr.app N60 N62q
        refine own_lift (fun t k => st62.trans k) ?_
        show own_Go p.tables e below (T62.setTop (mkF m 152 #[iv p0, iv p1, iv p2, iv p3, rv ob2, iv 0, rv ob22] [(.int 1)])) _
        have sg63 : ∀ t, Steps p.tables e below (T62.setTop (mkF m 163 #[iv p0, iv p1, iv p2, iv p3, rv ob2, iv 0, rv ob22] [(.ref ob22)])) t → Steps p.tables e below (T62.setTop (mkF m 152 #[iv p0, iv p1, iv p2, iv p3, rv ob2, iv 0, rv ob22] [(.int 1)])) t := by
          intro t k
          refine XS.iload X62.here hx rfl (hb hby at_152) rfl ?_
          show Steps p.tables e below (T62.setTop (mkF m 154 #[iv p0, iv p1, iv p2, iv p3, rv ob2, iv 0, rv ob22] [(.int 0), (.int 1)])) _
          refine XS.iconst X62.here hx rfl (hb hby at_154) ?_
          refine XS.iadd X62.here hx rfl (hb hby at_155) rfl ?_
          refine XS.icmpYes X62.here hx rfl (pc0 := 156) (pc' := 161) rfl (hb hby at_156) rfl (teq (by decide : (1 : Int32) = (1 : Int32))).1 (by decide) (by decide) ?_
          show Steps p.tables e below (T62.setTop (mkF m 161 #[iv p0, iv p1, iv p2, iv p3, rv ob2, iv 0, rv ob22] [])) _
          refine XS.aload X62.here hx rfl (hb hby at_161) rfl rfl ?_
          show Steps p.tables e below (T62.setTop (mkF m 163 #[iv p0, iv p1, iv p2, iv p3, rv ob2, iv 0, rv ob22] [(.ref ob22)])) _
          exact k
        refine own_lift sg63 ?_
        show own_Go p.tables e below (T62.setTop (mkF m 163 #[iv p0, iv p1, iv p2, iv p3, rv ob2, iv 0, rv ob22] [(.ref ob22)])) _
        obtain ⟨cq64, kq64, q64a, q64b, q64c⟩ := isOf hZ e62 p50_1
        obtain ⟨_, _, ⟨T64, Lx64, kx64, nx64⟩, -, X64, ⟨Lc64, hQ64, lx64, yx64, zx64⟩, st64⟩ := X62.virtualBack hx (y := (⟨TC, "passLineEnd", "()V"⟩ : MethodName)) (z := (⟨TC, "passLineEnd", "()V"⟩ : MethodName)) hown (mvT hZ (wd hw 139 rfl)) (mvT hZ (wd hw 140 rfl)) (notFace_of_selects (args := #[]) (mvT hZ (wd hw 142 rfl))) (mvT hZ (wd hw 142 rfl)) (mvT hZ (wd hw 141 rfl)) (by decide) (backOf (W := 0) (rmPass l Z a0 hw [] ob22 ob25 (0 : Int32) (1 : Int32) (1 : Int32) T50.heap n0 Z50 p50_1 p50_2 p50_3 p50_4 p50_5 ge22) hZ (wd hw 143 rfl) (wd hw 7 rfl) (by decide) (by decide)) q64a q64c (g := (mkF m 163 #[iv p0, iv p1, iv p2, iv p3, rv ob2, iv 0, rv ob22] [(.ref ob22)])) rfl (by rw [hml]; rfl) (Steps.refl _) (argsL := []) (rest := []) (lenOf pd_15 rfl) rfl (by show 2 * 0 + _ ≤ _; exact Nat.le_of_eq rfl) (hb hby at_163) (fun _ _ => ⟨rfl, e62, (by decide : 4 + 0 ≤ _), (by decide : 16 + 0 ≤ _)⟩)
        dsimp only [Pt.U, Pt.locs, Pt.cells, Pt.slots] at X64 lx64 yx64 zx64 st64 hQ64
        subst lx64 yx64 zx64
        obtain ⟨rfl, N64q, p64_0, p64_1, p64_2, p64_3, p64_4, p64_5⟩ := hQ64
        have N64 := Fr.app N62 N64q
        have Z64 : n0 ≤ T64.heap.size := Nat.le_trans Z50 p64_0.1
        refine own_lift (fun t k => st64.trans k) ?_
        show own_Go p.tables e below (T64.setTop (mkF m 166 #[iv p0, iv p1, iv p2, iv p3, rv ob2, iv 0, rv ob22] [])) _
        have sg65 : ∀ t, Steps p.tables e below (T64.setTop (mkF m 175 #[iv p0, iv p1, iv p2, iv p3, rv ob2, iv 0, rv ob22] [(.int 1), (.ref ob2), (.int 2), (.ref ob22)])) t → Steps p.tables e below (T64.setTop (mkF m 166 #[iv p0, iv p1, iv p2, iv p3, rv ob2, iv 0, rv ob22] [])) t := by
          intro t k
          refine XS.aload X64.here hx rfl (hb hby at_166) rfl rfl ?_
          show Steps p.tables e below (T64.setTop (mkF m 168 #[iv p0, iv p1, iv p2, iv p3, rv ob2, iv 0, rv ob22] [(.ref ob22)])) _
          refine XS.iconst X64.here hx rfl (hb hby at_168) ?_
          refine XS.aload X64.here hx rfl (hb hby at_169) rfl rfl ?_
          refine XS.iload X64.here hx rfl (hb hby at_171) rfl ?_
          show Steps p.tables e below (T64.setTop (mkF m 173 #[iv p0, iv p1, iv p2, iv p3, rv ob2, iv 0, rv ob22] [(.int 0), (.ref ob2), (.int 2), (.ref ob22)])) _
          refine XS.iconst X64.here hx rfl (hb hby at_173) ?_
          refine XS.iadd X64.here hx rfl (hb hby at_174) rfl ?_
          show Steps p.tables e below (T64.setTop (mkF m 175 #[iv p0, iv p1, iv p2, iv p3, rv ob2, iv 0, rv ob22] [(.int 1), (.ref ob2), (.int 2), (.ref ob22)])) _
          exact k
        refine own_lift sg65 ?_
        show own_Go p.tables e below (T64.setTop (mkF m 175 #[iv p0, iv p1, iv p2, iv p3, rv ob2, iv 0, rv ob22] [(.int 1), (.ref ob2), (.int 2), (.ref ob22)])) _
        have Fc66 : Exa Z T64.heap ob25 STx := (Fc52.keep p64_0)
        have Fc67 : Fld Z T64.heap ob25 STx "value" "[B" (.ref tb32) := (Fc53.keep p64_0 (ninS (Ne.symm ne28) nin0))
        have Fc68 : Fld Z T64.heap ob25 STx "coder" "B" (.int 0) := (Fc54.keep p64_0 (ninS (Ne.symm ne28) nin0))
        have Fc69 : Arv Z T64.heap tb32 kb32 .byte (4 : Int32) [(.int (((own_ch p0)).toInt8.toInt32)), (.int (((own_ch p1)).toInt8.toInt32)), (.int (((own_ch p2)).toInt8.toInt32)), (.int (((own_ch p3)).toInt8.toInt32))] (.int 0) := (Fc55.keep p64_0 (ninS (Ne.symm ne35) nin0))
        have Fc70 : Sta Z T64.heap STx "COMPACT_STRINGS" "Z" (.int cs) := (own_Sta_keep Fc56 p64_0 (allS (own_plain p50_1) all0))
        have Fc71 : Sta Z T64.heap PCx "SIOOBE_FORMATTER" BFx fv := (own_Sta_keep Fc57 p64_0 (allS (own_plain p50_1) all0))
        have Fc72 : Arv Z T64.heap ob2 ka2 .char (4 : Int32) [(.int (own_ch p0)), (.int (own_ch p1)), (.int (own_ch p2)), (.int (own_ch p3))] (.int 0) := ((((Fc30.keep Kq32 (ninS ne27 nin0)).keep p42_0 (ninS ne23 nin0)).keep p50_0 (ninS ne23 nin0)).keep p64_0 (ninS ne23 nin0))
        obtain ⟨_, _, ⟨T73, Lx73, kx73, nx73⟩, -, X73, ⟨Lc73, hQ73, lx73, yx73, zx73⟩, st73⟩ := Jvm.LawKit.callS X64 hx (y := (⟨LW, "at", "(Lcom/example/libprocgraph/libprocgraph/reader/TextCursor;I[CI)Z"⟩ : MethodName)) hown (mvT hZ (wd hw 144 rfl)) (mvT hZ (wd hw 145 rfl)) (mvT hZ (wd hw 3 rfl)) (mvT hZ (wd hw 146 rfl)) (by decide) (backOf (W := 0) (rmAt21 l Z a0 hw [] ob22 ob2 ob25 tb32 kb32 (((own_ch p0)).toInt8.toInt32) (((own_ch p1)).toInt8.toInt32) (((own_ch p2)).toInt8.toInt32) (((own_ch p3)).toInt8.toInt32) cs fv ka2 (own_ch p0) (own_ch p1) (own_ch p2) (own_ch p3) T64.heap n0 Z64 p64_1 p64_2 p64_3 p64_4 p64_5 Fc66 Fc67 Fc68 Fc69 Fc70 Fc71 Fc72 P_cs P_fv (own_c8_ch p1)) hZ (wd hw 146 rfl) (wd hw 3 rfl) (by decide) (by decide)) (g := (mkF m 175 #[iv p0, iv p1, iv p2, iv p3, rv ob2, iv 0, rv ob22] [(.int 1), (.ref ob2), (.int 2), (.ref ob22)])) rfl (by rw [hml]; rfl) (argsL := [(.ref ob22), (.int 2), (.ref ob2), (.int 1)]) (rest := []) (lenOf pd_16 rfl) rfl (by show 2 * 0 + _ ≤ _; exact Nat.le_of_eq rfl) (hb hby at_175) (fun _ _ => ⟨rfl, rfl, (by decide : 4 + 0 ≤ _), (by decide : 16 + 0 ≤ _)⟩)
        dsimp only [Pt.U, Pt.locs, Pt.cells, Pt.slots] at X73 lx73 yx73 zx73 st73 hQ73
        subst lx73 yx73 zx73
        obtain ⟨rfl, N73q, e73⟩ := hQ73
        have N73 := Fr.app N64 N73q
        refine own_lift st73 ?_
        show own_Go p.tables e below (T73.setTop (mkF m 178 #[iv p0, iv p1, iv p2, iv p3, rv ob2, iv 0, rv ob22] [(.int 1)])) _
        have sg74 : ∀ t, Steps p.tables e below (T73.setTop (mkF m 197 #[iv p0, iv p1, iv p2, iv p3, rv ob2, iv 0, rv ob22] [(.int 1), (.ref ob2)])) t → Steps p.tables e below (T73.setTop (mkF m 178 #[iv p0, iv p1, iv p2, iv p3, rv ob2, iv 0, rv ob22] [(.int 1)])) t := by
          intro t k
          refine XS.ifYes X73.here hx rfl (pc0 := 178) (pc' := 183) rfl (hb hby at_178) rfl ((if0 _ _).trans (feq (by decide : ¬ ((1 : Int32) = (0 : Int32)))).2) (by decide) (by decide) ?_
          show Steps p.tables e below (T73.setTop (mkF m 183 #[iv p0, iv p1, iv p2, iv p3, rv ob2, iv 0, rv ob22] [])) _
          refine XS.iload X73.here hx rfl (hb hby at_183) rfl ?_
          refine XS.iconst X73.here hx rfl (hb hby at_185) ?_
          refine XS.iadd X73.here hx rfl (hb hby at_186) rfl ?_
          show Steps p.tables e below (T73.setTop (mkF m 187 #[iv p0, iv p1, iv p2, iv p3, rv ob2, iv 0, rv ob22] [(.int 1)])) _
          refine XS.iconst X73.here hx rfl (hb hby at_187) ?_
          refine XS.icmpNo X73.here hx rfl (hb hby at_188) rfl (tlt (by decide : (1 : Int32) < (4 : Int32))).2.1 ?_
          refine XS.aload X73.here hx rfl (hb hby at_191) rfl rfl ?_
          show Steps p.tables e below (T73.setTop (mkF m 193 #[iv p0, iv p1, iv p2, iv p3, rv ob2, iv 0, rv ob22] [(.ref ob2)])) _
          refine XS.iload X73.here hx rfl (hb hby at_193) rfl ?_
          refine XS.iconst X73.here hx rfl (hb hby at_195) ?_
          refine XS.iadd X73.here hx rfl (hb hby at_196) rfl ?_
          show Steps p.tables e below (T73.setTop (mkF m 197 #[iv p0, iv p1, iv p2, iv p3, rv ob2, iv 0, rv ob22] [(.int 1), (.ref ob2)])) _
          exact k
        refine own_lift sg74 ?_
        show own_Go p.tables e below (T73.setTop (mkF m 197 #[iv p0, iv p1, iv p2, iv p3, rv ob2, iv 0, rv ob22] [(.int 1), (.ref ob2)])) _
        obtain ⟨cl75, Ar75, qx75, Sx75, N75', H75', G75'⟩ := id (Fc72)
        have hin75 : ¬ ((1 : Int32) < 0 ∨ cl75.slots.size ≤ ((1 : Int32)).toNatClampNeg) := inb_of Sx75 ⟨(by decide : ¬ ((1 : Int32) < (0 : Int32))), (by decide : (1 : Int32) < (4 : Int32))⟩
        have hat75 : cl75.slots[((1 : Int32)).toNatClampNeg]? = some (.int (own_ch p1)) := Has.at H75' hin75 rfl
        have sg76 : ∀ t, Steps p.tables e below (T73.setTop (mkF m 205 #[iv p0, iv p1, iv p2, iv p3, rv ob2, iv 0, rv ob22] [(.ref ob22)])) t → Steps p.tables e below (T73.setTop (mkF m 197 #[iv p0, iv p1, iv p2, iv p3, rv ob2, iv 0, rv ob22] [(.int 1), (.ref ob2)])) t := by
          intro t k
          refine X73.caload hx (j := (1 : Int32)) (v := (.int (own_ch p1))) (by rw [e73]; exact Ar75.1) (State.isArrayOf_alike hZ.alike Ar75.2.1) Ar75.2.2 hin75 hat75 (g := (mkF m 197 #[iv p0, iv p1, iv p2, iv p3, rv ob2, iv 0, rv ob22] [(.int 1), (.ref ob2)])) rfl rfl (hb hby at_197) _ ?_
          show Steps p.tables e below (T73.setTop (mkF m 198 #[iv p0, iv p1, iv p2, iv p3, rv ob2, iv 0, rv ob22] [(.int (own_ch p1))])) _
          refine XS.bipush X73.here hx rfl (hb hby at_198) ?_
          refine XS.icmpNo X73.here hx rfl (hb hby at_200) rfl (teq d1).2 ?_
          refine XS.aload X73.here hx rfl (hb hby at_203) rfl rfl ?_
          show Steps p.tables e below (T73.setTop (mkF m 205 #[iv p0, iv p1, iv p2, iv p3, rv ob2, iv 0, rv ob22] [(.ref ob22)])) _
          exact k
        refine own_lift sg76 ?_
        show own_Go p.tables e below (T73.setTop (mkF m 205 #[iv p0, iv p1, iv p2, iv p3, rv ob2, iv 0, rv ob22] [(.ref ob22)])) _
        obtain ⟨cq77, kq77, q77a, q77b, q77c⟩ := isOf hZ e73 p64_1
        obtain ⟨_, _, ⟨T77, Lx77, kx77, nx77⟩, -, X77, ⟨Lc77, hQ77, lx77, yx77, zx77⟩, st77⟩ := X73.virtualBack hx (y := (⟨TC, "passLineEnd", "()V"⟩ : MethodName)) (z := (⟨TC, "passLineEnd", "()V"⟩ : MethodName)) hown (mvT hZ (wd hw 139 rfl)) (mvT hZ (wd hw 140 rfl)) (notFace_of_selects (args := #[]) (mvT hZ (wd hw 142 rfl))) (mvT hZ (wd hw 142 rfl)) (mvT hZ (wd hw 141 rfl)) (by decide) (backOf (W := 0) (rmPass l Z a0 hw [] ob22 ob25 (1 : Int32) (1 : Int32) (2 : Int32) T64.heap n0 Z64 p64_1 p64_2 p64_3 p64_4 p64_5 ge22) hZ (wd hw 143 rfl) (wd hw 7 rfl) (by decide) (by decide)) q77a q77c (g := (mkF m 205 #[iv p0, iv p1, iv p2, iv p3, rv ob2, iv 0, rv ob22] [(.ref ob22)])) rfl (by rw [hml]; rfl) (Steps.refl _) (argsL := []) (rest := []) (lenOf pd_15 rfl) rfl (by show 2 * 0 + _ ≤ _; exact Nat.le_of_eq rfl) (hb hby at_205) (fun _ _ => ⟨rfl, e73, (by decide : 4 + 0 ≤ _), (by decide : 16 + 0 ≤ _)⟩)
        dsimp only [Pt.U, Pt.locs, Pt.cells, Pt.slots] at X77 lx77 yx77 zx77 st77 hQ77
        subst lx77 yx77 zx77
        obtain ⟨rfl, N77q, p77_0, p77_1, p77_2, p77_3, p77_4, p77_5⟩ := hQ77
        have N77 := Fr.app N73 N77q
        have Z77 : n0 ≤ T77.heap.size := Nat.le_trans Z64 p77_0.1
        refine own_lift (fun t k => st77.trans k) ?_
        show own_Go p.tables e below (T77.setTop (mkF m 208 #[iv p0, iv p1, iv p2, iv p3, rv ob2, iv 0, rv ob22] [])) _
        have sg78 : ∀ t, Steps p.tables e below (T77.setTop (mkF m 217 #[iv p0, iv p1, iv p2, iv p3, rv ob2, iv 0, rv ob22] [(.int 2), (.ref ob2), (.int 3), (.ref ob22)])) t → Steps p.tables e below (T77.setTop (mkF m 208 #[iv p0, iv p1, iv p2, iv p3, rv ob2, iv 0, rv ob22] [])) t := by
          intro t k
          refine XS.aload X77.here hx rfl (hb hby at_208) rfl rfl ?_
          show Steps p.tables e below (T77.setTop (mkF m 210 #[iv p0, iv p1, iv p2, iv p3, rv ob2, iv 0, rv ob22] [(.ref ob22)])) _
          refine XS.iconst X77.here hx rfl (hb hby at_210) ?_
          refine XS.aload X77.here hx rfl (hb hby at_211) rfl rfl ?_
          refine XS.iload X77.here hx rfl (hb hby at_213) rfl ?_
          show Steps p.tables e below (T77.setTop (mkF m 215 #[iv p0, iv p1, iv p2, iv p3, rv ob2, iv 0, rv ob22] [(.int 0), (.ref ob2), (.int 3), (.ref ob22)])) _
          refine XS.iconst X77.here hx rfl (hb hby at_215) ?_
          refine XS.iadd X77.here hx rfl (hb hby at_216) rfl ?_
          show Steps p.tables e below (T77.setTop (mkF m 217 #[iv p0, iv p1, iv p2, iv p3, rv ob2, iv 0, rv ob22] [(.int 2), (.ref ob2), (.int 3), (.ref ob22)])) _
          exact k
        refine own_lift sg78 ?_
        show own_Go p.tables e below (T77.setTop (mkF m 217 #[iv p0, iv p1, iv p2, iv p3, rv ob2, iv 0, rv ob22] [(.int 2), (.ref ob2), (.int 3), (.ref ob22)])) _
        have Fc79 : Exa Z T77.heap ob25 STx := (Fc66.keep p77_0)
        have Fc80 : Fld Z T77.heap ob25 STx "value" "[B" (.ref tb32) := (Fc67.keep p77_0 (ninS (Ne.symm ne28) nin0))
        have Fc81 : Fld Z T77.heap ob25 STx "coder" "B" (.int 0) := (Fc68.keep p77_0 (ninS (Ne.symm ne28) nin0))
        have Fc82 : Arv Z T77.heap tb32 kb32 .byte (4 : Int32) [(.int (((own_ch p0)).toInt8.toInt32)), (.int (((own_ch p1)).toInt8.toInt32)), (.int (((own_ch p2)).toInt8.toInt32)), (.int (((own_ch p3)).toInt8.toInt32))] (.int 0) := (Fc69.keep p77_0 (ninS (Ne.symm ne35) nin0))
        have Fc83 : Sta Z T77.heap STx "COMPACT_STRINGS" "Z" (.int cs) := (own_Sta_keep Fc70 p77_0 (allS (own_plain p64_1) all0))
        have Fc84 : Sta Z T77.heap PCx "SIOOBE_FORMATTER" BFx fv := (own_Sta_keep Fc71 p77_0 (allS (own_plain p64_1) all0))
        have Fc85 : Arv Z T77.heap ob2 ka2 .char (4 : Int32) [(.int (own_ch p0)), (.int (own_ch p1)), (.int (own_ch p2)), (.int (own_ch p3))] (.int 0) := (Fc72.keep p77_0 (ninS ne23 nin0))
        obtain ⟨_, _, ⟨T86, Lx86, kx86, nx86⟩, -, X86, ⟨Lc86, hQ86, lx86, yx86, zx86⟩, st86⟩ := Jvm.LawKit.callS X77 hx (y := (⟨LW, "at", "(Lcom/example/libprocgraph/libprocgraph/reader/TextCursor;I[CI)Z"⟩ : MethodName)) hown (mvT hZ (wd hw 144 rfl)) (mvT hZ (wd hw 145 rfl)) (mvT hZ (wd hw 3 rfl)) (mvT hZ (wd hw 146 rfl)) (by decide) (backOf (W := 0) (rmAt32 l Z a0 hw [] ob22 ob2 ob25 tb32 kb32 (((own_ch p0)).toInt8.toInt32) (((own_ch p1)).toInt8.toInt32) (((own_ch p2)).toInt8.toInt32) (((own_ch p3)).toInt8.toInt32) cs fv ka2 (own_ch p0) (own_ch p1) (own_ch p2) (own_ch p3) T77.heap n0 Z77 p77_1 p77_2 p77_3 p77_4 p77_5 Fc79 Fc80 Fc81 Fc82 Fc83 Fc84 Fc85 P_cs P_fv (own_c8_ch p2)) hZ (wd hw 146 rfl) (wd hw 3 rfl) (by decide) (by decide)) (g := (mkF m 217 #[iv p0, iv p1, iv p2, iv p3, rv ob2, iv 0, rv ob22] [(.int 2), (.ref ob2), (.int 3), (.ref ob22)])) rfl (by rw [hml]; rfl) (argsL := [(.ref ob22), (.int 3), (.ref ob2), (.int 2)]) (rest := []) (lenOf pd_16 rfl) rfl (by show 2 * 0 + _ ≤ _; exact Nat.le_of_eq rfl) (hb hby at_217) (fun _ _ => ⟨rfl, rfl, (by decide : 4 + 0 ≤ _), (by decide : 16 + 0 ≤ _)⟩)
        dsimp only [Pt.U, Pt.locs, Pt.cells, Pt.slots] at X86 lx86 yx86 zx86 st86 hQ86
        subst lx86 yx86 zx86
        obtain ⟨rfl, N86q, e86⟩ := hQ86
        have N86 := Fr.app N77 N86q
        refine own_lift st86 ?_
        show own_Go p.tables e below (T86.setTop (mkF m 220 #[iv p0, iv p1, iv p2, iv p3, rv ob2, iv 0, rv ob22] [(.int 1)])) _
        obtain ⟨fs, hr, hrun, hended, hW, hsame⟩ := X86.leave (v := some (.int 1)) (fun h => by rw [Bd.returns] at h; cases h)
        refine ⟨_, _, ?_, hrun, hended, _, _, rfl, ?_, ⟨_, rfl⟩, hW, hsame.mono (by decide) (by decide)⟩
        · exact retN X86 hx (t := .boolean) Bd.returns (by simp) (hb hby at_220) hr
        · show Q0 Z  h0 n0 _ T86.heap _
          rw [e86]
          exact ⟨rfl, N86⟩
      · have sg87 : ∀ t, Steps p.tables e below (T42.setTop (mkF m 108 #[iv p0, iv p1, iv p2, iv p3, rv ob2, iv 0, rv ob22] [(.ref ob22)])) t → Steps p.tables e below (T42.setTop (mkF m 106 #[iv p0, iv p1, iv p2, iv p3, rv ob2, iv 0, rv ob22] [])) t := by
          intro t k
          refine XS.aload X42.here hx rfl (hb hby at_106) rfl rfl ?_
          show Steps p.tables e below (T42.setTop (mkF m 108 #[iv p0, iv p1, iv p2, iv p3, rv ob2, iv 0, rv ob22] [(.ref ob22)])) _
          exact k
        refine own_lift sg87 ?_
        show own_Go p.tables e below (T42.setTop (mkF m 108 #[iv p0, iv p1, iv p2, iv p3, rv ob2, iv 0, rv ob22] [(.ref ob22)])) _
        have Fc88 : Exa Z T42.heap ob25 STx := (Eq32.keep p42_0)
        have Fc89 : Fld Z T42.heap ob25 STx "value" "[B" (.ref tb32) := (Vq32.keep p42_0 (ninS (Ne.symm ne28) nin0))
        have Fc90 : Fld Z T42.heap ob25 STx "coder" "B" (.int 0) := (Cq32.keep p42_0 (ninS (Ne.symm ne28) nin0))
        have Fc91 : Arv Z T42.heap tb32 kb32 .byte (4 : Int32) [(.int (((own_ch p0)).toInt8.toInt32)), (.int (((own_ch p1)).toInt8.toInt32)), (.int (((own_ch p2)).toInt8.toInt32)), (.int (((own_ch p3)).toInt8.toInt32))] (.int 0) := (Aq32.keep p42_0 (ninS (Ne.symm ne35) nin0))
        have Fc92 : Sta Z T42.heap STx "COMPACT_STRINGS" "Z" (.int cs) := (own_Sta_keep (own_Sta_keep Fc31 Kq32 (allS (own_plain Ax25) all0)) p42_0 (allS (own_plain Fc37) all0))
        obtain ⟨cq93, kq93, q93a, q93b, q93c⟩ := isOf hZ rfl p42_1
        obtain ⟨_, _, ⟨T93, Lx93, kx93, nx93⟩, -, X93, ⟨Lc93, hQ93, lx93, yx93, zx93⟩, st93⟩ := X42.virtualBack hx (y := (⟨TC, "skipRestOfLine", "()V"⟩ : MethodName)) (z := (⟨TC, "skipRestOfLine", "()V"⟩ : MethodName)) hown (mvT hZ (wd hw 47 rfl)) (mvT hZ (wd hw 48 rfl)) (notFace_of_selects (args := #[]) (mvT hZ (wd hw 50 rfl))) (mvT hZ (wd hw 50 rfl)) (mvT hZ (wd hw 49 rfl)) (by decide) (backOf (W := 0) (rmSkip0 l Z a0 hw [] ob22 ob25 tb32 kb32 (((own_ch p0)).toInt8.toInt32) (((own_ch p1)).toInt8.toInt32) (((own_ch p2)).toInt8.toInt32) (((own_ch p3)).toInt8.toInt32) cs T42.heap n0 Z42 p42_1 p42_2 p42_3 p42_4 p42_5 Fc88 Fc89 Fc90 Fc91 Fc92 (Ne.symm ne28) (Ne.symm ne35) ge22 P_cs (own_b10 d0)) hZ (wd hw 51 rfl) (wd hw 7 rfl) (by decide) (by decide)) q93a q93c (g := (mkF m 108 #[iv p0, iv p1, iv p2, iv p3, rv ob2, iv 0, rv ob22] [(.ref ob22)])) rfl (by rw [hml]; rfl) (Steps.refl _) (argsL := []) (rest := []) (lenOf pd_15 rfl) rfl (by show 2 * 0 + _ ≤ _; exact Nat.le_of_eq rfl) (hb hby at_108) (fun _ _ => ⟨rfl, rfl, (by decide : 4 + 0 ≤ _), (by decide : 16 + 0 ≤ _)⟩)
        dsimp only [Pt.U, Pt.locs, Pt.cells, Pt.slots] at X93 lx93 yx93 zx93 st93 hQ93
        subst lx93 yx93 zx93
        obtain ⟨rfl, N93q, p93_0, p93_1, p93_2, p93_3, p93_4, p93_5⟩ := hQ93
        have N93 := Fr.app N42 N93q
        have Z93 : n0 ≤ T93.heap.size := Nat.le_trans Z42 p93_0.1
        refine own_lift (fun t k => st93.trans k) ?_
        show own_Go p.tables e below (T93.setTop (mkF m 111 #[iv p0, iv p1, iv p2, iv p3, rv ob2, iv 0, rv ob22] [])) _
        have sg94 : ∀ t, Steps p.tables e below (T93.setTop (mkF m 132 #[iv p0, iv p1, iv p2, iv p3, rv ob2, iv 0, rv ob22] [(.ref ob22)])) t → Steps p.tables e below (T93.setTop (mkF m 111 #[iv p0, iv p1, iv p2, iv p3, rv ob2, iv 0, rv ob22] [])) t := by
          intro t k
          refine XS.iload X93.here hx rfl (hb hby at_111) rfl ?_
          show Steps p.tables e below (T93.setTop (mkF m 113 #[iv p0, iv p1, iv p2, iv p3, rv ob2, iv 0, rv ob22] [(.int 0)])) _
          refine XS.ifYes X93.here hx rfl (pc0 := 113) (pc' := 130) rfl (hb hby at_113) rfl ((if0 _ _).trans (flt (by decide : ¬ ((0 : Int32) < (0 : Int32)))).2.1) (by decide) (by decide) ?_
          refine XS.aload X93.here hx rfl (hb hby at_130) rfl rfl ?_
          show Steps p.tables e below (T93.setTop (mkF m 132 #[iv p0, iv p1, iv p2, iv p3, rv ob2, iv 0, rv ob22] [(.ref ob22)])) _
          exact k
        refine own_lift sg94 ?_
        show own_Go p.tables e below (T93.setTop (mkF m 132 #[iv p0, iv p1, iv p2, iv p3, rv ob2, iv 0, rv ob22] [(.ref ob22)])) _
        have Fc95 : Exa Z T93.heap ob25 STx := (Fc88.keep p93_0)
        have Fc96 : Fld Z T93.heap ob25 STx "value" "[B" (.ref tb32) := (Fc89.keep p93_0 (ninS (Ne.symm ne28) nin0))
        have Fc97 : Fld Z T93.heap ob25 STx "coder" "B" (.int 0) := (Fc90.keep p93_0 (ninS (Ne.symm ne28) nin0))
        have Fc98 : Arv Z T93.heap tb32 kb32 .byte (4 : Int32) [(.int (((own_ch p0)).toInt8.toInt32)), (.int (((own_ch p1)).toInt8.toInt32)), (.int (((own_ch p2)).toInt8.toInt32)), (.int (((own_ch p3)).toInt8.toInt32))] (.int 0) := (Fc91.keep p93_0 (ninS (Ne.symm ne35) nin0))
        have Fc99 : Sta Z T93.heap STx "COMPACT_STRINGS" "Z" (.int cs) := (own_Sta_keep Fc92 p93_0 (allS (own_plain p42_1) all0))
        have Fc100 : Sta Z T93.heap PCx "SIOOBE_FORMATTER" BFx fv := (own_Sta_keep (own_Sta_keep (own_Sta_keep (((((((Sfm.ext Ex2).wr W6).wr W10).wr W14).wr W18).ext Ex22).ext Ex25) Kq32 (allS (own_plain Ax25) all0)) p42_0 (allS (own_plain Fc37) all0)) p93_0 (allS (own_plain p42_1) all0))
        obtain ⟨cq101, kq101, q101a, q101b, q101c⟩ := isOf hZ rfl p93_1
        obtain ⟨_, _, ⟨T101, Lx101, kx101, nx101⟩, -, X101, ⟨Lc101, hQ101, lx101, yx101, zx101⟩, st101⟩ := X93.virtualBack hx (y := (⟨TC, "atLineEnd", "()Z"⟩ : MethodName)) (z := (⟨TC, "atLineEnd", "()Z"⟩ : MethodName)) hown (mvT hZ (wd hw 108 rfl)) (mvT hZ (wd hw 109 rfl)) (notFace_of_selects (args := #[]) (mvT hZ (wd hw 111 rfl))) (mvT hZ (wd hw 111 rfl)) (mvT hZ (wd hw 110 rfl)) (by decide) (backOf (W := 0) (rmAle0 l Z a0 hw [] ob22 ob25 tb32 kb32 (((own_ch p0)).toInt8.toInt32) (((own_ch p1)).toInt8.toInt32) (((own_ch p2)).toInt8.toInt32) (((own_ch p3)).toInt8.toInt32) cs fv T93.heap n0 Z93 p93_2 p93_3 Fc95 Fc96 Fc97 Fc98 Fc99 Fc100 P_cs P_fv ((own_c8_ch p0).trans d0)) hZ (wd hw 112 rfl) (wd hw 7 rfl) (by decide) (by decide)) q101a q101c (g := (mkF m 132 #[iv p0, iv p1, iv p2, iv p3, rv ob2, iv 0, rv ob22] [(.ref ob22)])) rfl (by rw [hml]; rfl) (Steps.refl _) (argsL := []) (rest := []) (lenOf pd_4 rfl) rfl (by show 2 * 0 + _ ≤ _; exact Nat.le_of_eq rfl) (hb hby at_132) (fun _ _ => ⟨rfl, rfl, (by decide : 4 + 0 ≤ _), (by decide : 16 + 0 ≤ _)⟩)
        dsimp only [Pt.U, Pt.locs, Pt.cells, Pt.slots] at X101 lx101 yx101 zx101 st101 hQ101
        subst lx101 yx101 zx101
        obtain ⟨rfl, N101q, e101⟩ := hQ101
        have N101 := Fr.app N93 N101q
        refine own_lift (fun t k => st101.trans k) ?_
        show own_Go p.tables e below (T101.setTop (mkF m 135 #[iv p0, iv p1, iv p2, iv p3, rv ob2, iv 0, rv ob22] [(.int 1)])) _
        have sg102 : ∀ t, Steps p.tables e below (T101.setTop (mkF m 140 #[iv p0, iv p1, iv p2, iv p3, rv ob2, iv 0, rv ob22] [(.ref ob22)])) t → Steps p.tables e below (T101.setTop (mkF m 135 #[iv p0, iv p1, iv p2, iv p3, rv ob2, iv 0, rv ob22] [(.int 1)])) t := by
          intro t k
          refine XS.ifNo X101.here hx rfl (hb hby at_135) rfl ((if0 _ _).trans (feq (by decide : ¬ ((1 : Int32) = (0 : Int32)))).1) ?_
          show Steps p.tables e below (T101.setTop (mkF m 138 #[iv p0, iv p1, iv p2, iv p3, rv ob2, iv 0, rv ob22] [])) _
          refine XS.aload X101.here hx rfl (hb hby at_138) rfl rfl ?_
          show Steps p.tables e below (T101.setTop (mkF m 140 #[iv p0, iv p1, iv p2, iv p3, rv ob2, iv 0, rv ob22] [(.ref ob22)])) _
          exact k
        refine own_lift sg102 ?_
        show own_Go p.tables e below (T101.setTop (mkF m 140 #[iv p0, iv p1, iv p2, iv p3, rv ob2, iv 0, rv ob22] [(.ref ob22)])) _
        obtain ⟨cq103, kq103, q103a, q103b, q103c⟩ := isOf hZ e101 p93_1
        obtain ⟨_, _, ⟨T103, Lx103, kx103, nx103⟩, -, X103, ⟨Lc103, hQ103, lx103, yx103, zx103⟩, st103⟩ := X101.virtualBack hx (y := (⟨TC, "line", "()I"⟩ : MethodName)) (z := (⟨TC, "line", "()I"⟩ : MethodName)) hown (mvT hZ (wd hw 129 rfl)) (mvT hZ (wd hw 130 rfl)) (notFace_of_selects (args := #[]) (mvT hZ (wd hw 132 rfl))) (mvT hZ (wd hw 132 rfl)) (mvT hZ (wd hw 131 rfl)) (by decide) (backOf (W := 0) (rmLine l Z a0 hw [] ob22 (1 : Int32) T93.heap n0 Z93 p93_5) hZ (wd hw 133 rfl) (wd hw 7 rfl) (by decide) (by decide)) q103a q103c (g := (mkF m 140 #[iv p0, iv p1, iv p2, iv p3, rv ob2, iv 0, rv ob22] [(.ref ob22)])) rfl (by rw [hml]; rfl) (Steps.refl _) (argsL := []) (rest := []) (lenOf pd_5 rfl) rfl (by show 2 * 0 + _ ≤ _; exact Nat.le_of_eq rfl) (hb hby at_140) (fun _ _ => ⟨rfl, e101, (by decide : 4 + 0 ≤ _), (by decide : 16 + 0 ≤ _)⟩)
        dsimp only [Pt.U, Pt.locs, Pt.cells, Pt.slots] at X103 lx103 yx103 zx103 st103 hQ103
        subst lx103 yx103 zx103
        obtain ⟨rfl, N103q, e103⟩ := hQ103
        have N103 := Fr.app N101 N103q
        refine own_lift (fun t k => st103.trans k) ?_
        show own_Go p.tables e below (T103.setTop (mkF m 143 #[iv p0, iv p1, iv p2, iv p3, rv ob2, iv 0, rv ob22] [(.int 1)])) _
        have sg104 : ∀ t, Steps p.tables e below (T103.setTop (mkF m 149 #[iv p0, iv p1, iv p2, iv p3, rv ob2, iv 0, rv ob22] [(.ref ob22)])) t → Steps p.tables e below (T103.setTop (mkF m 143 #[iv p0, iv p1, iv p2, iv p3, rv ob2, iv 0, rv ob22] [(.int 1)])) t := by
          intro t k
          refine XS.iconst X103.here hx rfl (hb hby at_143) ?_
          show Steps p.tables e below (T103.setTop (mkF m 144 #[iv p0, iv p1, iv p2, iv p3, rv ob2, iv 0, rv ob22] [(.int 1), (.int 1)])) _
          refine XS.icmpNo X103.here hx rfl (hb hby at_144) rfl (teq (by decide : (1 : Int32) = (1 : Int32))).2 ?_
          refine XS.aload X103.here hx rfl (hb hby at_147) rfl rfl ?_
          show Steps p.tables e below (T103.setTop (mkF m 149 #[iv p0, iv p1, iv p2, iv p3, rv ob2, iv 0, rv ob22] [(.ref ob22)])) _
          exact k
        refine own_lift sg104 ?_
        show own_Go p.tables e below (T103.setTop (mkF m 149 #[iv p0, iv p1, iv p2, iv p3, rv ob2, iv 0, rv ob22] [(.ref ob22)])) _
        obtain ⟨cq105, kq105, q105a, q105b, q105c⟩ := isOf hZ e103 p93_1
        obtain ⟨_, _, ⟨T105, Lx105, kx105, nx105⟩, -, X105, ⟨Lc105, hQ105, lx105, yx105, zx105⟩, st105⟩ := X103.virtualBack hx (y := (⟨TC, "column", "()I"⟩ : MethodName)) (z := (⟨TC, "column", "()I"⟩ : MethodName)) hown (mvT hZ (wd hw 134 rfl)) (mvT hZ (wd hw 135 rfl)) (notFace_of_selects (args := #[]) (mvT hZ (wd hw 137 rfl))) (mvT hZ (wd hw 137 rfl)) (mvT hZ (wd hw 136 rfl)) (by decide) (backOf (W := 0) (rmCol l Z a0 hw [] ob22 (1 : Int32) T93.heap n0 Z93 p93_4) hZ (wd hw 138 rfl) (wd hw 7 rfl) (by decide) (by decide)) q105a q105c (g := (mkF m 149 #[iv p0, iv p1, iv p2, iv p3, rv ob2, iv 0, rv ob22] [(.ref ob22)])) rfl (by rw [hml]; rfl) (Steps.refl _) (argsL := []) (rest := []) (lenOf pd_5 rfl) rfl (by show 2 * 0 + _ ≤ _; exact Nat.le_of_eq rfl) (hb hby at_149) (fun _ _ => ⟨rfl, e103, (by decide : 4 + 0 ≤ _), (by decide : 16 + 0 ≤ _)⟩)
        dsimp only [Pt.U, Pt.locs, Pt.cells, Pt.slots] at X105 lx105 yx105 zx105 st105 hQ105
        subst lx105 yx105 zx105
        obtain ⟨rfl, N105q, e105⟩ := hQ105
        have N105 := Fr.app N103 N105q
        refine own_lift (fun t k => st105.trans k) ?_
        show own_Go p.tables e below (T105.setTop (mkF m 152 #[iv p0, iv p1, iv p2, iv p3, rv ob2, iv 0, rv ob22] [(.int 1)])) _
        have sg106 : ∀ t, Steps p.tables e below (T105.setTop (mkF m 163 #[iv p0, iv p1, iv p2, iv p3, rv ob2, iv 0, rv ob22] [(.ref ob22)])) t → Steps p.tables e below (T105.setTop (mkF m 152 #[iv p0, iv p1, iv p2, iv p3, rv ob2, iv 0, rv ob22] [(.int 1)])) t := by
          intro t k
          refine XS.iload X105.here hx rfl (hb hby at_152) rfl ?_
          show Steps p.tables e below (T105.setTop (mkF m 154 #[iv p0, iv p1, iv p2, iv p3, rv ob2, iv 0, rv ob22] [(.int 0), (.int 1)])) _
          refine XS.iconst X105.here hx rfl (hb hby at_154) ?_
          refine XS.iadd X105.here hx rfl (hb hby at_155) rfl ?_
          refine XS.icmpYes X105.here hx rfl (pc0 := 156) (pc' := 161) rfl (hb hby at_156) rfl (teq (by decide : (1 : Int32) = (1 : Int32))).1 (by decide) (by decide) ?_
          show Steps p.tables e below (T105.setTop (mkF m 161 #[iv p0, iv p1, iv p2, iv p3, rv ob2, iv 0, rv ob22] [])) _
          refine XS.aload X105.here hx rfl (hb hby at_161) rfl rfl ?_
          show Steps p.tables e below (T105.setTop (mkF m 163 #[iv p0, iv p1, iv p2, iv p3, rv ob2, iv 0, rv ob22] [(.ref ob22)])) _
          exact k
        refine own_lift sg106 ?_
        show own_Go p.tables e below (T105.setTop (mkF m 163 #[iv p0, iv p1, iv p2, iv p3, rv ob2, iv 0, rv ob22] [(.ref ob22)])) _
        obtain ⟨cq107, kq107, q107a, q107b, q107c⟩ := isOf hZ e105 p93_1
        obtain ⟨_, _, ⟨T107, Lx107, kx107, nx107⟩, -, X107, ⟨Lc107, hQ107, lx107, yx107, zx107⟩, st107⟩ := X105.virtualBack hx (y := (⟨TC, "passLineEnd", "()V"⟩ : MethodName)) (z := (⟨TC, "passLineEnd", "()V"⟩ : MethodName)) hown (mvT hZ (wd hw 139 rfl)) (mvT hZ (wd hw 140 rfl)) (notFace_of_selects (args := #[]) (mvT hZ (wd hw 142 rfl))) (mvT hZ (wd hw 142 rfl)) (mvT hZ (wd hw 141 rfl)) (by decide) (backOf (W := 0) (rmPass l Z a0 hw [] ob22 ob25 (0 : Int32) (1 : Int32) (1 : Int32) T93.heap n0 Z93 p93_1 p93_2 p93_3 p93_4 p93_5 ge22) hZ (wd hw 143 rfl) (wd hw 7 rfl) (by decide) (by decide)) q107a q107c (g := (mkF m 163 #[iv p0, iv p1, iv p2, iv p3, rv ob2, iv 0, rv ob22] [(.ref ob22)])) rfl (by rw [hml]; rfl) (Steps.refl _) (argsL := []) (rest := []) (lenOf pd_15 rfl) rfl (by show 2 * 0 + _ ≤ _; exact Nat.le_of_eq rfl) (hb hby at_163) (fun _ _ => ⟨rfl, e105, (by decide : 4 + 0 ≤ _), (by decide : 16 + 0 ≤ _)⟩)
        dsimp only [Pt.U, Pt.locs, Pt.cells, Pt.slots] at X107 lx107 yx107 zx107 st107 hQ107
        subst lx107 yx107 zx107
        obtain ⟨rfl, N107q, p107_0, p107_1, p107_2, p107_3, p107_4, p107_5⟩ := hQ107
        have N107 := Fr.app N105 N107q
        have Z107 : n0 ≤ T107.heap.size := Nat.le_trans Z93 p107_0.1
        refine own_lift (fun t k => st107.trans k) ?_
        show own_Go p.tables e below (T107.setTop (mkF m 166 #[iv p0, iv p1, iv p2, iv p3, rv ob2, iv 0, rv ob22] [])) _
        have sg108 : ∀ t, Steps p.tables e below (T107.setTop (mkF m 175 #[iv p0, iv p1, iv p2, iv p3, rv ob2, iv 0, rv ob22] [(.int 1), (.ref ob2), (.int 2), (.ref ob22)])) t → Steps p.tables e below (T107.setTop (mkF m 166 #[iv p0, iv p1, iv p2, iv p3, rv ob2, iv 0, rv ob22] [])) t := by
          intro t k
          refine XS.aload X107.here hx rfl (hb hby at_166) rfl rfl ?_
          show Steps p.tables e below (T107.setTop (mkF m 168 #[iv p0, iv p1, iv p2, iv p3, rv ob2, iv 0, rv ob22] [(.ref ob22)])) _
          refine XS.iconst X107.here hx rfl (hb hby at_168) ?_
          refine XS.aload X107.here hx rfl (hb hby at_169) rfl rfl ?_
          refine XS.iload X107.here hx rfl (hb hby at_171) rfl ?_
          show Steps p.tables e below (T107.setTop (mkF m 173 #[iv p0, iv p1, iv p2, iv p3, rv ob2, iv 0, rv ob22] [(.int 0), (.ref ob2), (.int 2), (.ref ob22)])) _
          refine XS.iconst X107.here hx rfl (hb hby at_173) ?_
          refine XS.iadd X107.here hx rfl (hb hby at_174) rfl ?_
          show Steps p.tables e below (T107.setTop (mkF m 175 #[iv p0, iv p1, iv p2, iv p3, rv ob2, iv 0, rv ob22] [(.int 1), (.ref ob2), (.int 2), (.ref ob22)])) _
          exact k
        refine own_lift sg108 ?_
        show own_Go p.tables e below (T107.setTop (mkF m 175 #[iv p0, iv p1, iv p2, iv p3, rv ob2, iv 0, rv ob22] [(.int 1), (.ref ob2), (.int 2), (.ref ob22)])) _
        have Fc109 : Exa Z T107.heap ob25 STx := (Fc95.keep p107_0)
        have Fc110 : Fld Z T107.heap ob25 STx "value" "[B" (.ref tb32) := (Fc96.keep p107_0 (ninS (Ne.symm ne28) nin0))
        have Fc111 : Fld Z T107.heap ob25 STx "coder" "B" (.int 0) := (Fc97.keep p107_0 (ninS (Ne.symm ne28) nin0))
        have Fc112 : Arv Z T107.heap tb32 kb32 .byte (4 : Int32) [(.int (((own_ch p0)).toInt8.toInt32)), (.int (((own_ch p1)).toInt8.toInt32)), (.int (((own_ch p2)).toInt8.toInt32)), (.int (((own_ch p3)).toInt8.toInt32))] (.int 0) := (Fc98.keep p107_0 (ninS (Ne.symm ne35) nin0))
        have Fc113 : Sta Z T107.heap STx "COMPACT_STRINGS" "Z" (.int cs) := (own_Sta_keep Fc99 p107_0 (allS (own_plain p93_1) all0))
        have Fc114 : Sta Z T107.heap PCx "SIOOBE_FORMATTER" BFx fv := (own_Sta_keep Fc100 p107_0 (allS (own_plain p93_1) all0))
        have Fc115 : Arv Z T107.heap ob2 ka2 .char (4 : Int32) [(.int (own_ch p0)), (.int (own_ch p1)), (.int (own_ch p2)), (.int (own_ch p3))] (.int 0) := ((((Fc30.keep Kq32 (ninS ne27 nin0)).keep p42_0 (ninS ne23 nin0)).keep p93_0 (ninS ne23 nin0)).keep p107_0 (ninS ne23 nin0))
        obtain ⟨_, _, ⟨T116, Lx116, kx116, nx116⟩, -, X116, ⟨Lc116, hQ116, lx116, yx116, zx116⟩, st116⟩ := Jvm.LawKit.callS X107 hx (y := (⟨LW, "at", "(Lcom/example/libprocgraph/libprocgraph/reader/TextCursor;I[CI)Z"⟩ : MethodName)) hown (mvT hZ (wd hw 144 rfl)) (mvT hZ (wd hw 145 rfl)) (mvT hZ (wd hw 3 rfl)) (mvT hZ (wd hw 146 rfl)) (by decide) (backOf (W := 0) (rmAt21 l Z a0 hw [] ob22 ob2 ob25 tb32 kb32 (((own_ch p0)).toInt8.toInt32) (((own_ch p1)).toInt8.toInt32) (((own_ch p2)).toInt8.toInt32) (((own_ch p3)).toInt8.toInt32) cs fv ka2 (own_ch p0) (own_ch p1) (own_ch p2) (own_ch p3) T107.heap n0 Z107 p107_1 p107_2 p107_3 p107_4 p107_5 Fc109 Fc110 Fc111 Fc112 Fc113 Fc114 Fc115 P_cs P_fv (own_c8_ch p1)) hZ (wd hw 146 rfl) (wd hw 3 rfl) (by decide) (by decide)) (g := (mkF m 175 #[iv p0, iv p1, iv p2, iv p3, rv ob2, iv 0, rv ob22] [(.int 1), (.ref ob2), (.int 2), (.ref ob22)])) rfl (by rw [hml]; rfl) (argsL := [(.ref ob22), (.int 2), (.ref ob2), (.int 1)]) (rest := []) (lenOf pd_16 rfl) rfl (by show 2 * 0 + _ ≤ _; exact Nat.le_of_eq rfl) (hb hby at_175) (fun _ _ => ⟨rfl, rfl, (by decide : 4 + 0 ≤ _), (by decide : 16 + 0 ≤ _)⟩)
        dsimp only [Pt.U, Pt.locs, Pt.cells, Pt.slots] at X116 lx116 yx116 zx116 st116 hQ116
        subst lx116 yx116 zx116
        obtain ⟨rfl, N116q, e116⟩ := hQ116
        have N116 := Fr.app N107 N116q
        refine own_lift st116 ?_
        show own_Go p.tables e below (T116.setTop (mkF m 178 #[iv p0, iv p1, iv p2, iv p3, rv ob2, iv 0, rv ob22] [(.int 1)])) _
        have sg117 : ∀ t, Steps p.tables e below (T116.setTop (mkF m 197 #[iv p0, iv p1, iv p2, iv p3, rv ob2, iv 0, rv ob22] [(.int 1), (.ref ob2)])) t → Steps p.tables e below (T116.setTop (mkF m 178 #[iv p0, iv p1, iv p2, iv p3, rv ob2, iv 0, rv ob22] [(.int 1)])) t := by
          intro t k
          refine XS.ifYes X116.here hx rfl (pc0 := 178) (pc' := 183) rfl (hb hby at_178) rfl ((if0 _ _).trans (feq (by decide : ¬ ((1 : Int32) = (0 : Int32)))).2) (by decide) (by decide) ?_
          show Steps p.tables e below (T116.setTop (mkF m 183 #[iv p0, iv p1, iv p2, iv p3, rv ob2, iv 0, rv ob22] [])) _
          refine XS.iload X116.here hx rfl (hb hby at_183) rfl ?_
          refine XS.iconst X116.here hx rfl (hb hby at_185) ?_
          refine XS.iadd X116.here hx rfl (hb hby at_186) rfl ?_
          show Steps p.tables e below (T116.setTop (mkF m 187 #[iv p0, iv p1, iv p2, iv p3, rv ob2, iv 0, rv ob22] [(.int 1)])) _
          refine XS.iconst X116.here hx rfl (hb hby at_187) ?_
          refine XS.icmpNo X116.here hx rfl (hb hby at_188) rfl (tlt (by decide : (1 : Int32) < (4 : Int32))).2.1 ?_
          refine XS.aload X116.here hx rfl (hb hby at_191) rfl rfl ?_
          show Steps p.tables e below (T116.setTop (mkF m 193 #[iv p0, iv p1, iv p2, iv p3, rv ob2, iv 0, rv ob22] [(.ref ob2)])) _
          refine XS.iload X116.here hx rfl (hb hby at_193) rfl ?_
          refine XS.iconst X116.here hx rfl (hb hby at_195) ?_
          refine XS.iadd X116.here hx rfl (hb hby at_196) rfl ?_
          show Steps p.tables e below (T116.setTop (mkF m 197 #[iv p0, iv p1, iv p2, iv p3, rv ob2, iv 0, rv ob22] [(.int 1), (.ref ob2)])) _
          exact k
        refine own_lift sg117 ?_
        show own_Go p.tables e below (T116.setTop (mkF m 197 #[iv p0, iv p1, iv p2, iv p3, rv ob2, iv 0, rv ob22] [(.int 1), (.ref ob2)])) _
        obtain ⟨cl118, Ar118, qx118, Sx118, N118', H118', G118'⟩ := id (Fc115)
        have hin118 : ¬ ((1 : Int32) < 0 ∨ cl118.slots.size ≤ ((1 : Int32)).toNatClampNeg) := inb_of Sx118 ⟨(by decide : ¬ ((1 : Int32) < (0 : Int32))), (by decide : (1 : Int32) < (4 : Int32))⟩
        have hat118 : cl118.slots[((1 : Int32)).toNatClampNeg]? = some (.int (own_ch p1)) := Has.at H118' hin118 rfl
        have sg119 : ∀ t, Steps p.tables e below (T116.setTop (mkF m 222 #[iv p0, iv p1, iv p2, iv p3, rv ob2, iv 0, rv ob22] [(.int 1)])) t → Steps p.tables e below (T116.setTop (mkF m 197 #[iv p0, iv p1, iv p2, iv p3, rv ob2, iv 0, rv ob22] [(.int 1), (.ref ob2)])) t := by
          intro t k
          refine X116.caload hx (j := (1 : Int32)) (v := (.int (own_ch p1))) (by rw [e116]; exact Ar118.1) (State.isArrayOf_alike hZ.alike Ar118.2.1) Ar118.2.2 hin118 hat118 (g := (mkF m 197 #[iv p0, iv p1, iv p2, iv p3, rv ob2, iv 0, rv ob22] [(.int 1), (.ref ob2)])) rfl rfl (hb hby at_197) _ ?_
          show Steps p.tables e below (T116.setTop (mkF m 198 #[iv p0, iv p1, iv p2, iv p3, rv ob2, iv 0, rv ob22] [(.int (own_ch p1))])) _
          refine XS.bipush X116.here hx rfl (hb hby at_198) ?_
          refine XS.icmpYes X116.here hx rfl (pc0 := 200) (pc' := 221) rfl (hb hby at_200) rfl (feq d1).2 (by decide) (by decide) ?_
          refine XS.iconst X116.here hx rfl (hb hby at_221) ?_
          show Steps p.tables e below (T116.setTop (mkF m 222 #[iv p0, iv p1, iv p2, iv p3, rv ob2, iv 0, rv ob22] [(.int 1)])) _
          exact k
        refine own_lift sg119 ?_
        show own_Go p.tables e below (T116.setTop (mkF m 222 #[iv p0, iv p1, iv p2, iv p3, rv ob2, iv 0, rv ob22] [(.int 1)])) _
        obtain ⟨fs, hr, hrun, hended, hW, hsame⟩ := X116.leave (v := some (.int 1)) (fun h => by rw [Bd.returns] at h; cases h)
        refine ⟨_, _, ?_, hrun, hended, _, _, rfl, ?_, ⟨_, rfl⟩, hW, hsame.mono (by decide) (by decide)⟩
        · exact retN X116 hx (t := .boolean) Bd.returns (by simp) (hb hby at_222) hr
        · show Q0 Z  h0 n0 _ T116.heap _
          rw [e116]
          exact ⟨rfl, N116⟩
    · by_cases d1 : (own_ch p1) = (10 : Int32)
      · rw [show (own_p (own_ch p0) (own_ch p1) (own_ch p2) (own_ch p3)) = (1 : Int32) from (by rw [own_p, if_neg d0, if_pos d1])]
        show own_Go p.tables e below (T42.setTop (mkF m 106 #[iv p0, iv p1, iv p2, iv p3, rv ob2, iv 1, rv ob22] [])) _
        by_cases d2 : (own_ch p2) = (10 : Int32)
        · have sg120 : ∀ t, Steps p.tables e below (T42.setTop (mkF m 108 #[iv p0, iv p1, iv p2, iv p3, rv ob2, iv 1, rv ob22] [(.ref ob22)])) t → Steps p.tables e below (T42.setTop (mkF m 106 #[iv p0, iv p1, iv p2, iv p3, rv ob2, iv 1, rv ob22] [])) t := by
            intro t k
            refine XS.aload X42.here hx rfl (hb hby at_106) rfl rfl ?_
            show Steps p.tables e below (T42.setTop (mkF m 108 #[iv p0, iv p1, iv p2, iv p3, rv ob2, iv 1, rv ob22] [(.ref ob22)])) _
            exact k
          refine own_lift sg120 ?_
          show own_Go p.tables e below (T42.setTop (mkF m 108 #[iv p0, iv p1, iv p2, iv p3, rv ob2, iv 1, rv ob22] [(.ref ob22)])) _
          have Fc121 : Exa Z T42.heap ob25 STx := (Eq32.keep p42_0)
          have Fc122 : Fld Z T42.heap ob25 STx "value" "[B" (.ref tb32) := (Vq32.keep p42_0 (ninS (Ne.symm ne28) nin0))
          have Fc123 : Fld Z T42.heap ob25 STx "coder" "B" (.int 0) := (Cq32.keep p42_0 (ninS (Ne.symm ne28) nin0))
          have Fc124 : Arv Z T42.heap tb32 kb32 .byte (4 : Int32) [(.int (((own_ch p0)).toInt8.toInt32)), (.int (((own_ch p1)).toInt8.toInt32)), (.int (((own_ch p2)).toInt8.toInt32)), (.int (((own_ch p3)).toInt8.toInt32))] (.int 0) := (Aq32.keep p42_0 (ninS (Ne.symm ne35) nin0))
          have Fc125 : Sta Z T42.heap STx "COMPACT_STRINGS" "Z" (.int cs) := (own_Sta_keep (own_Sta_keep Fc31 Kq32 (allS (own_plain Ax25) all0)) p42_0 (allS (own_plain Fc37) all0))
          obtain ⟨cq126, kq126, q126a, q126b, q126c⟩ := isOf hZ rfl p42_1
          obtain ⟨_, _, ⟨T126, Lx126, kx126, nx126⟩, -, X126, ⟨Lc126, hQ126, lx126, yx126, zx126⟩, st126⟩ := X42.virtualBack hx (y := (⟨TC, "skipRestOfLine", "()V"⟩ : MethodName)) (z := (⟨TC, "skipRestOfLine", "()V"⟩ : MethodName)) hown (mvT hZ (wd hw 47 rfl)) (mvT hZ (wd hw 48 rfl)) (notFace_of_selects (args := #[]) (mvT hZ (wd hw 50 rfl))) (mvT hZ (wd hw 50 rfl)) (mvT hZ (wd hw 49 rfl)) (by decide) (backOf (W := 0) (rmSkip1 l Z a0 hw [] ob22 ob25 tb32 kb32 (((own_ch p0)).toInt8.toInt32) (((own_ch p1)).toInt8.toInt32) (((own_ch p2)).toInt8.toInt32) (((own_ch p3)).toInt8.toInt32) cs T42.heap n0 Z42 p42_1 p42_2 p42_3 p42_4 p42_5 Fc121 Fc122 Fc123 Fc124 Fc125 (Ne.symm ne28) (Ne.symm ne35) ge22 P_cs (own_b10_n d0) (own_b10 d1)) hZ (wd hw 51 rfl) (wd hw 7 rfl) (by decide) (by decide)) q126a q126c (g := (mkF m 108 #[iv p0, iv p1, iv p2, iv p3, rv ob2, iv 1, rv ob22] [(.ref ob22)])) rfl (by rw [hml]; rfl) (Steps.refl _) (argsL := []) (rest := []) (lenOf pd_15 rfl) rfl (by show 2 * 0 + _ ≤ _; exact Nat.le_of_eq rfl) (hb hby at_108) (fun _ _ => ⟨rfl, rfl, (by decide : 4 + 0 ≤ _), (by decide : 16 + 0 ≤ _)⟩)
          dsimp only [Pt.U, Pt.locs, Pt.cells, Pt.slots] at X126 lx126 yx126 zx126 st126 hQ126
          subst lx126 yx126 zx126
          obtain ⟨rfl, N126q, p126_0, p126_1, p126_2, p126_3, p126_4, p126_5⟩ := hQ126
          have N126 := Fr.app N42 N126q
          have Z126 : n0 ≤ T126.heap.size := Nat.le_trans Z42 p126_0.1
          refine own_lift (fun t k => st126.trans k) ?_
          show own_Go p.tables e below (T126.setTop (mkF m 111 #[iv p0, iv p1, iv p2, iv p3, rv ob2, iv 1, rv ob22] [])) _
          have sg127 : ∀ t, Steps p.tables e below (T126.setTop (mkF m 132 #[iv p0, iv p1, iv p2, iv p3, rv ob2, iv 1, rv ob22] [(.ref ob22)])) t → Steps p.tables e below (T126.setTop (mkF m 111 #[iv p0, iv p1, iv p2, iv p3, rv ob2, iv 1, rv ob22] [])) t := by
            intro t k
            refine XS.iload X126.here hx rfl (hb hby at_111) rfl ?_
            show Steps p.tables e below (T126.setTop (mkF m 113 #[iv p0, iv p1, iv p2, iv p3, rv ob2, iv 1, rv ob22] [(.int 1)])) _
            refine XS.ifYes X126.here hx rfl (pc0 := 113) (pc' := 130) rfl (hb hby at_113) rfl ((if0 _ _).trans (flt (by decide : ¬ ((1 : Int32) < (0 : Int32)))).2.1) (by decide) (by decide) ?_
            refine XS.aload X126.here hx rfl (hb hby at_130) rfl rfl ?_
            show Steps p.tables e below (T126.setTop (mkF m 132 #[iv p0, iv p1, iv p2, iv p3, rv ob2, iv 1, rv ob22] [(.ref ob22)])) _
            exact k
          refine own_lift sg127 ?_
          show own_Go p.tables e below (T126.setTop (mkF m 132 #[iv p0, iv p1, iv p2, iv p3, rv ob2, iv 1, rv ob22] [(.ref ob22)])) _
          have Fc128 : Exa Z T126.heap ob25 STx := (Fc121.keep p126_0)
          have Fc129 : Fld Z T126.heap ob25 STx "value" "[B" (.ref tb32) := (Fc122.keep p126_0 (ninS (Ne.symm ne28) nin0))
          have Fc130 : Fld Z T126.heap ob25 STx "coder" "B" (.int 0) := (Fc123.keep p126_0 (ninS (Ne.symm ne28) nin0))
          have Fc131 : Arv Z T126.heap tb32 kb32 .byte (4 : Int32) [(.int (((own_ch p0)).toInt8.toInt32)), (.int (((own_ch p1)).toInt8.toInt32)), (.int (((own_ch p2)).toInt8.toInt32)), (.int (((own_ch p3)).toInt8.toInt32))] (.int 0) := (Fc124.keep p126_0 (ninS (Ne.symm ne35) nin0))
          have Fc132 : Sta Z T126.heap STx "COMPACT_STRINGS" "Z" (.int cs) := (own_Sta_keep Fc125 p126_0 (allS (own_plain p42_1) all0))
          have Fc133 : Sta Z T126.heap PCx "SIOOBE_FORMATTER" BFx fv := (own_Sta_keep (own_Sta_keep (own_Sta_keep (((((((Sfm.ext Ex2).wr W6).wr W10).wr W14).wr W18).ext Ex22).ext Ex25) Kq32 (allS (own_plain Ax25) all0)) p42_0 (allS (own_plain Fc37) all0)) p126_0 (allS (own_plain p42_1) all0))
          obtain ⟨cq134, kq134, q134a, q134b, q134c⟩ := isOf hZ rfl p126_1
          obtain ⟨_, _, ⟨T134, Lx134, kx134, nx134⟩, -, X134, ⟨Lc134, hQ134, lx134, yx134, zx134⟩, st134⟩ := X126.virtualBack hx (y := (⟨TC, "atLineEnd", "()Z"⟩ : MethodName)) (z := (⟨TC, "atLineEnd", "()Z"⟩ : MethodName)) hown (mvT hZ (wd hw 108 rfl)) (mvT hZ (wd hw 109 rfl)) (notFace_of_selects (args := #[]) (mvT hZ (wd hw 111 rfl))) (mvT hZ (wd hw 111 rfl)) (mvT hZ (wd hw 110 rfl)) (by decide) (backOf (W := 0) (rmAle1 l Z a0 hw [] ob22 ob25 tb32 kb32 (((own_ch p0)).toInt8.toInt32) (((own_ch p1)).toInt8.toInt32) (((own_ch p2)).toInt8.toInt32) (((own_ch p3)).toInt8.toInt32) cs fv T126.heap n0 Z126 p126_2 p126_3 Fc128 Fc129 Fc130 Fc131 Fc132 Fc133 P_cs P_fv ((own_c8_ch p1).trans d1)) hZ (wd hw 112 rfl) (wd hw 7 rfl) (by decide) (by decide)) q134a q134c (g := (mkF m 132 #[iv p0, iv p1, iv p2, iv p3, rv ob2, iv 1, rv ob22] [(.ref ob22)])) rfl (by rw [hml]; rfl) (Steps.refl _) (argsL := []) (rest := []) (lenOf pd_4 rfl) rfl (by show 2 * 0 + _ ≤ _; exact Nat.le_of_eq rfl) (hb hby at_132) (fun _ _ => ⟨rfl, rfl, (by decide : 4 + 0 ≤ _), (by decide : 16 + 0 ≤ _)⟩)
          dsimp only [Pt.U, Pt.locs, Pt.cells, Pt.slots] at X134 lx134 yx134 zx134 st134 hQ134
          subst lx134 yx134 zx134
          obtain ⟨rfl, N134q, e134⟩ := hQ134
          have N134 := Fr.app N126 N134q
          refine own_lift (fun t k => st134.trans k) ?_
          show own_Go p.tables e below (T134.setTop (mkF m 135 #[iv p0, iv p1, iv p2, iv p3, rv ob2, iv 1, rv ob22] [(.int 1)])) _
          have sg135 : ∀ t, Steps p.tables e below (T134.setTop (mkF m 140 #[iv p0, iv p1, iv p2, iv p3, rv ob2, iv 1, rv ob22] [(.ref ob22)])) t → Steps p.tables e below (T134.setTop (mkF m 135 #[iv p0, iv p1, iv p2, iv p3, rv ob2, iv 1, rv ob22] [(.int 1)])) t := by
            intro t k
            refine XS.ifNo X134.here hx rfl (hb hby at_135) rfl ((if0 _ _).trans (feq (by decide : ¬ ((1 : Int32) = (0 : Int32)))).1) ?_
            show Steps p.tables e below (T134.setTop (mkF m 138 #[iv p0, iv p1, iv p2, iv p3, rv ob2, iv 1, rv ob22] [])) _
            refine XS.aload X134.here hx rfl (hb hby at_138) rfl rfl ?_
            show Steps p.tables e below (T134.setTop (mkF m 140 #[iv p0, iv p1, iv p2, iv p3, rv ob2, iv 1, rv ob22] [(.ref ob22)])) _
            exact k
          refine own_lift sg135 ?_
          show own_Go p.tables e below (T134.setTop (mkF m 140 #[iv p0, iv p1, iv p2, iv p3, rv ob2, iv 1, rv ob22] [(.ref ob22)])) _
          obtain ⟨cq136, kq136, q136a, q136b, q136c⟩ := isOf hZ e134 p126_1
          obtain ⟨_, _, ⟨T136, Lx136, kx136, nx136⟩, -, X136, ⟨Lc136, hQ136, lx136, yx136, zx136⟩, st136⟩ := X134.virtualBack hx (y := (⟨TC, "line", "()I"⟩ : MethodName)) (z := (⟨TC, "line", "()I"⟩ : MethodName)) hown (mvT hZ (wd hw 129 rfl)) (mvT hZ (wd hw 130 rfl)) (notFace_of_selects (args := #[]) (mvT hZ (wd hw 132 rfl))) (mvT hZ (wd hw 132 rfl)) (mvT hZ (wd hw 131 rfl)) (by decide) (backOf (W := 0) (rmLine l Z a0 hw [] ob22 (1 : Int32) T126.heap n0 Z126 p126_5) hZ (wd hw 133 rfl) (wd hw 7 rfl) (by decide) (by decide)) q136a q136c (g := (mkF m 140 #[iv p0, iv p1, iv p2, iv p3, rv ob2, iv 1, rv ob22] [(.ref ob22)])) rfl (by rw [hml]; rfl) (Steps.refl _) (argsL := []) (rest := []) (lenOf pd_5 rfl) rfl (by show 2 * 0 + _ ≤ _; exact Nat.le_of_eq rfl) (hb hby at_140) (fun _ _ => ⟨rfl, e134, (by decide : 4 + 0 ≤ _), (by decide : 16 + 0 ≤ _)⟩)
          dsimp only [Pt.U, Pt.locs, Pt.cells, Pt.slots] at X136 lx136 yx136 zx136 st136 hQ136
          subst lx136 yx136 zx136
          obtain ⟨rfl, N136q, e136⟩ := hQ136
          have N136 := Fr.app N134 N136q
          refine own_lift (fun t k => st136.trans k) ?_
          show own_Go p.tables e below (T136.setTop (mkF m 143 #[iv p0, iv p1, iv p2, iv p3, rv ob2, iv 1, rv ob22] [(.int 1)])) _
          have sg137 : ∀ t, Steps p.tables e below (T136.setTop (mkF m 149 #[iv p0, iv p1, iv p2, iv p3, rv ob2, iv 1, rv ob22] [(.ref ob22)])) t → Steps p.tables e below (T136.setTop (mkF m 143 #[iv p0, iv p1, iv p2, iv p3, rv ob2, iv 1, rv ob22] [(.int 1)])) t := by
            intro t k
            refine XS.iconst X136.here hx rfl (hb hby at_143) ?_
            show Steps p.tables e below (T136.setTop (mkF m 144 #[iv p0, iv p1, iv p2, iv p3, rv ob2, iv 1, rv ob22] [(.int 1), (.int 1)])) _
            refine XS.icmpNo X136.here hx rfl (hb hby at_144) rfl (teq (by decide : (1 : Int32) = (1 : Int32))).2 ?_
            refine XS.aload X136.here hx rfl (hb hby at_147) rfl rfl ?_
            show Steps p.tables e below (T136.setTop (mkF m 149 #[iv p0, iv p1, iv p2, iv p3, rv ob2, iv 1, rv ob22] [(.ref ob22)])) _
            exact k
          refine own_lift sg137 ?_
          show own_Go p.tables e below (T136.setTop (mkF m 149 #[iv p0, iv p1, iv p2, iv p3, rv ob2, iv 1, rv ob22] [(.ref ob22)])) _
          obtain ⟨cq138, kq138, q138a, q138b, q138c⟩ := isOf hZ e136 p126_1
          obtain ⟨_, _, ⟨T138, Lx138, kx138, nx138⟩, -, X138, ⟨Lc138, hQ138, lx138, yx138, zx138⟩, st138⟩ := X136.virtualBack hx (y := (⟨TC, "column", "()I"⟩ : MethodName)) (z := (⟨TC, "column", "()I"⟩ : MethodName)) hown (mvT hZ (wd hw 134 rfl)) (mvT hZ (wd hw 135 rfl)) (notFace_of_selects (args := #[]) (mvT hZ (wd hw 137 rfl))) (mvT hZ (wd hw 137 rfl)) (mvT hZ (wd hw 136 rfl)) (by decide) (backOf (W := 0) (rmCol l Z a0 hw [] ob22 (2 : Int32) T126.heap n0 Z126 p126_4) hZ (wd hw 138 rfl) (wd hw 7 rfl) (by decide) (by decide)) q138a q138c (g := (mkF m 149 #[iv p0, iv p1, iv p2, iv p3, rv ob2, iv 1, rv ob22] [(.ref ob22)])) rfl (by rw [hml]; rfl) (Steps.refl _) (argsL := []) (rest := []) (lenOf pd_5 rfl) rfl (by show 2 * 0 + _ ≤ _; exact Nat.le_of_eq rfl) (hb hby at_149) (fun _ _ => ⟨rfl, e136, (by decide : 4 + 0 ≤ _), (by decide : 16 + 0 ≤ _)⟩)
          dsimp only [Pt.U, Pt.locs, Pt.cells, Pt.slots] at X138 lx138 yx138 zx138 st138 hQ138
          subst lx138 yx138 zx138
          obtain ⟨rfl, N138q, e138⟩ := hQ138
          have N138 := Fr.app N136 N138q
          refine own_lift (fun t k => st138.trans k) ?_
          show own_Go p.tables e below (T138.setTop (mkF m 152 #[iv p0, iv p1, iv p2, iv p3, rv ob2, iv 1, rv ob22] [(.int 2)])) _
          have sg139 : ∀ t, Steps p.tables e below (T138.setTop (mkF m 163 #[iv p0, iv p1, iv p2, iv p3, rv ob2, iv 1, rv ob22] [(.ref ob22)])) t → Steps p.tables e below (T138.setTop (mkF m 152 #[iv p0, iv p1, iv p2, iv p3, rv ob2, iv 1, rv ob22] [(.int 2)])) t := by
            intro t k
            refine XS.iload X138.here hx rfl (hb hby at_152) rfl ?_
            show Steps p.tables e below (T138.setTop (mkF m 154 #[iv p0, iv p1, iv p2, iv p3, rv ob2, iv 1, rv ob22] [(.int 1), (.int 2)])) _
            refine XS.iconst X138.here hx rfl (hb hby at_154) ?_
            refine XS.iadd X138.here hx rfl (hb hby at_155) rfl ?_
            refine XS.icmpYes X138.here hx rfl (pc0 := 156) (pc' := 161) rfl (hb hby at_156) rfl (teq (by decide : (2 : Int32) = (2 : Int32))).1 (by decide) (by decide) ?_
            show Steps p.tables e below (T138.setTop (mkF m 161 #[iv p0, iv p1, iv p2, iv p3, rv ob2, iv 1, rv ob22] [])) _
            refine XS.aload X138.here hx rfl (hb hby at_161) rfl rfl ?_
            show Steps p.tables e below (T138.setTop (mkF m 163 #[iv p0, iv p1, iv p2, iv p3, rv ob2, iv 1, rv ob22] [(.ref ob22)])) _
            exact k
          refine own_lift sg139 ?_
          show own_Go p.tables e below (T138.setTop (mkF m 163 #[iv p0, iv p1, iv p2, iv p3, rv ob2, iv 1, rv ob22] [(.ref ob22)])) _
          obtain ⟨cq140, kq140, q140a, q140b, q140c⟩ := isOf hZ e138 p126_1
          obtain ⟨_, _, ⟨T140, Lx140, kx140, nx140⟩, -, X140, ⟨Lc140, hQ140, lx140, yx140, zx140⟩, st140⟩ := X138.virtualBack hx (y := (⟨TC, "passLineEnd", "()V"⟩ : MethodName)) (z := (⟨TC, "passLineEnd", "()V"⟩ : MethodName)) hown (mvT hZ (wd hw 139 rfl)) (mvT hZ (wd hw 140 rfl)) (notFace_of_selects (args := #[]) (mvT hZ (wd hw 142 rfl))) (mvT hZ (wd hw 142 rfl)) (mvT hZ (wd hw 141 rfl)) (by decide) (backOf (W := 0) (rmPass l Z a0 hw [] ob22 ob25 (1 : Int32) (2 : Int32) (1 : Int32) T126.heap n0 Z126 p126_1 p126_2 p126_3 p126_4 p126_5 ge22) hZ (wd hw 143 rfl) (wd hw 7 rfl) (by decide) (by decide)) q140a q140c (g := (mkF m 163 #[iv p0, iv p1, iv p2, iv p3, rv ob2, iv 1, rv ob22] [(.ref ob22)])) rfl (by rw [hml]; rfl) (Steps.refl _) (argsL := []) (rest := []) (lenOf pd_15 rfl) rfl (by show 2 * 0 + _ ≤ _; exact Nat.le_of_eq rfl) (hb hby at_163) (fun _ _ => ⟨rfl, e138, (by decide : 4 + 0 ≤ _), (by decide : 16 + 0 ≤ _)⟩)
          dsimp only [Pt.U, Pt.locs, Pt.cells, Pt.slots] at X140 lx140 yx140 zx140 st140 hQ140
          subst lx140 yx140 zx140
          obtain ⟨rfl, N140q, p140_0, p140_1, p140_2, p140_3, p140_4, p140_5⟩ := hQ140
          have N140 := Fr.app N138 N140q
          have Z140 : n0 ≤ T140.heap.size := Nat.le_trans Z126 p140_0.1
          refine own_lift (fun t k => st140.trans k) ?_
          show own_Go p.tables e below (T140.setTop (mkF m 166 #[iv p0, iv p1, iv p2, iv p3, rv ob2, iv 1, rv ob22] [])) _
          have sg141 : ∀ t, Steps p.tables e below (T140.setTop (mkF m 175 #[iv p0, iv p1, iv p2, iv p3, rv ob2, iv 1, rv ob22] [(.int 2), (.ref ob2), (.int 2), (.ref ob22)])) t → Steps p.tables e below (T140.setTop (mkF m 166 #[iv p0, iv p1, iv p2, iv p3, rv ob2, iv 1, rv ob22] [])) t := by
            intro t k
            refine XS.aload X140.here hx rfl (hb hby at_166) rfl rfl ?_
            show Steps p.tables e below (T140.setTop (mkF m 168 #[iv p0, iv p1, iv p2, iv p3, rv ob2, iv 1, rv ob22] [(.ref ob22)])) _
            refine XS.iconst X140.here hx rfl (hb hby at_168) ?_
            refine XS.aload X140.here hx rfl (hb hby at_169) rfl rfl ?_
            refine XS.iload X140.here hx rfl (hb hby at_171) rfl ?_
            show Steps p.tables e below (T140.setTop (mkF m 173 #[iv p0, iv p1, iv p2, iv p3, rv ob2, iv 1, rv ob22] [(.int 1), (.ref ob2), (.int 2), (.ref ob22)])) _
            refine XS.iconst X140.here hx rfl (hb hby at_173) ?_
            refine XS.iadd X140.here hx rfl (hb hby at_174) rfl ?_
            show Steps p.tables e below (T140.setTop (mkF m 175 #[iv p0, iv p1, iv p2, iv p3, rv ob2, iv 1, rv ob22] [(.int 2), (.ref ob2), (.int 2), (.ref ob22)])) _
            exact k
          refine own_lift sg141 ?_
          show own_Go p.tables e below (T140.setTop (mkF m 175 #[iv p0, iv p1, iv p2, iv p3, rv ob2, iv 1, rv ob22] [(.int 2), (.ref ob2), (.int 2), (.ref ob22)])) _
          have Fc142 : Exa Z T140.heap ob25 STx := (Fc128.keep p140_0)
          have Fc143 : Fld Z T140.heap ob25 STx "value" "[B" (.ref tb32) := (Fc129.keep p140_0 (ninS (Ne.symm ne28) nin0))
          have Fc144 : Fld Z T140.heap ob25 STx "coder" "B" (.int 0) := (Fc130.keep p140_0 (ninS (Ne.symm ne28) nin0))
          have Fc145 : Arv Z T140.heap tb32 kb32 .byte (4 : Int32) [(.int (((own_ch p0)).toInt8.toInt32)), (.int (((own_ch p1)).toInt8.toInt32)), (.int (((own_ch p2)).toInt8.toInt32)), (.int (((own_ch p3)).toInt8.toInt32))] (.int 0) := (Fc131.keep p140_0 (ninS (Ne.symm ne35) nin0))
          have Fc146 : Sta Z T140.heap STx "COMPACT_STRINGS" "Z" (.int cs) := (own_Sta_keep Fc132 p140_0 (allS (own_plain p126_1) all0))
          have Fc147 : Sta Z T140.heap PCx "SIOOBE_FORMATTER" BFx fv := (own_Sta_keep Fc133 p140_0 (allS (own_plain p126_1) all0))
          have Fc148 : Arv Z T140.heap ob2 ka2 .char (4 : Int32) [(.int (own_ch p0)), (.int (own_ch p1)), (.int (own_ch p2)), (.int (own_ch p3))] (.int 0) := ((((Fc30.keep Kq32 (ninS ne27 nin0)).keep p42_0 (ninS ne23 nin0)).keep p126_0 (ninS ne23 nin0)).keep p140_0 (ninS ne23 nin0))
          obtain ⟨_, _, ⟨T149, Lx149, kx149, nx149⟩, -, X149, ⟨Lc149, hQ149, lx149, yx149, zx149⟩, st149⟩ := Jvm.LawKit.callS X140 hx (y := (⟨LW, "at", "(Lcom/example/libprocgraph/libprocgraph/reader/TextCursor;I[CI)Z"⟩ : MethodName)) hown (mvT hZ (wd hw 144 rfl)) (mvT hZ (wd hw 145 rfl)) (mvT hZ (wd hw 3 rfl)) (mvT hZ (wd hw 146 rfl)) (by decide) (backOf (W := 0) (rmAt22 l Z a0 hw [] ob22 ob2 ob25 tb32 kb32 (((own_ch p0)).toInt8.toInt32) (((own_ch p1)).toInt8.toInt32) (((own_ch p2)).toInt8.toInt32) (((own_ch p3)).toInt8.toInt32) cs fv ka2 (own_ch p0) (own_ch p1) (own_ch p2) (own_ch p3) T140.heap n0 Z140 p140_1 p140_2 p140_3 p140_4 p140_5 Fc142 Fc143 Fc144 Fc145 Fc146 Fc147 Fc148 P_cs P_fv (own_c8_ch p2)) hZ (wd hw 146 rfl) (wd hw 3 rfl) (by decide) (by decide)) (g := (mkF m 175 #[iv p0, iv p1, iv p2, iv p3, rv ob2, iv 1, rv ob22] [(.int 2), (.ref ob2), (.int 2), (.ref ob22)])) rfl (by rw [hml]; rfl) (argsL := [(.ref ob22), (.int 2), (.ref ob2), (.int 2)]) (rest := []) (lenOf pd_16 rfl) rfl (by show 2 * 0 + _ ≤ _; exact Nat.le_of_eq rfl) (hb hby at_175) (fun _ _ => ⟨rfl, rfl, (by decide : 4 + 0 ≤ _), (by decide : 16 + 0 ≤ _)⟩)
          dsimp only [Pt.U, Pt.locs, Pt.cells, Pt.slots] at X149 lx149 yx149 zx149 st149 hQ149
          subst lx149 yx149 zx149
          obtain ⟨rfl, N149q, e149⟩ := hQ149
          have N149 := Fr.app N140 N149q
          refine own_lift st149 ?_
          show own_Go p.tables e below (T149.setTop (mkF m 178 #[iv p0, iv p1, iv p2, iv p3, rv ob2, iv 1, rv ob22] [(.int 1)])) _
          have sg150 : ∀ t, Steps p.tables e below (T149.setTop (mkF m 197 #[iv p0, iv p1, iv p2, iv p3, rv ob2, iv 1, rv ob22] [(.int 2), (.ref ob2)])) t → Steps p.tables e below (T149.setTop (mkF m 178 #[iv p0, iv p1, iv p2, iv p3, rv ob2, iv 1, rv ob22] [(.int 1)])) t := by
            intro t k
            refine XS.ifYes X149.here hx rfl (pc0 := 178) (pc' := 183) rfl (hb hby at_178) rfl ((if0 _ _).trans (feq (by decide : ¬ ((1 : Int32) = (0 : Int32)))).2) (by decide) (by decide) ?_
            show Steps p.tables e below (T149.setTop (mkF m 183 #[iv p0, iv p1, iv p2, iv p3, rv ob2, iv 1, rv ob22] [])) _
            refine XS.iload X149.here hx rfl (hb hby at_183) rfl ?_
            refine XS.iconst X149.here hx rfl (hb hby at_185) ?_
            refine XS.iadd X149.here hx rfl (hb hby at_186) rfl ?_
            show Steps p.tables e below (T149.setTop (mkF m 187 #[iv p0, iv p1, iv p2, iv p3, rv ob2, iv 1, rv ob22] [(.int 2)])) _
            refine XS.iconst X149.here hx rfl (hb hby at_187) ?_
            refine XS.icmpNo X149.here hx rfl (hb hby at_188) rfl (tlt (by decide : (2 : Int32) < (4 : Int32))).2.1 ?_
            refine XS.aload X149.here hx rfl (hb hby at_191) rfl rfl ?_
            show Steps p.tables e below (T149.setTop (mkF m 193 #[iv p0, iv p1, iv p2, iv p3, rv ob2, iv 1, rv ob22] [(.ref ob2)])) _
            refine XS.iload X149.here hx rfl (hb hby at_193) rfl ?_
            refine XS.iconst X149.here hx rfl (hb hby at_195) ?_
            refine XS.iadd X149.here hx rfl (hb hby at_196) rfl ?_
            show Steps p.tables e below (T149.setTop (mkF m 197 #[iv p0, iv p1, iv p2, iv p3, rv ob2, iv 1, rv ob22] [(.int 2), (.ref ob2)])) _
            exact k
          refine own_lift sg150 ?_
          show own_Go p.tables e below (T149.setTop (mkF m 197 #[iv p0, iv p1, iv p2, iv p3, rv ob2, iv 1, rv ob22] [(.int 2), (.ref ob2)])) _
          obtain ⟨cl151, Ar151, qx151, Sx151, N151', H151', G151'⟩ := id (Fc148)
          have hin151 : ¬ ((2 : Int32) < 0 ∨ cl151.slots.size ≤ ((2 : Int32)).toNatClampNeg) := inb_of Sx151 ⟨(by decide : ¬ ((2 : Int32) < (0 : Int32))), (by decide : (2 : Int32) < (4 : Int32))⟩
          have hat151 : cl151.slots[((2 : Int32)).toNatClampNeg]? = some (.int (own_ch p2)) := Has.at H151' hin151 rfl
          have sg152 : ∀ t, Steps p.tables e below (T149.setTop (mkF m 205 #[iv p0, iv p1, iv p2, iv p3, rv ob2, iv 1, rv ob22] [(.ref ob22)])) t → Steps p.tables e below (T149.setTop (mkF m 197 #[iv p0, iv p1, iv p2, iv p3, rv ob2, iv 1, rv ob22] [(.int 2), (.ref ob2)])) t := by
            intro t k
            refine X149.caload hx (j := (2 : Int32)) (v := (.int (own_ch p2))) (by rw [e149]; exact Ar151.1) (State.isArrayOf_alike hZ.alike Ar151.2.1) Ar151.2.2 hin151 hat151 (g := (mkF m 197 #[iv p0, iv p1, iv p2, iv p3, rv ob2, iv 1, rv ob22] [(.int 2), (.ref ob2)])) rfl rfl (hb hby at_197) _ ?_
            show Steps p.tables e below (T149.setTop (mkF m 198 #[iv p0, iv p1, iv p2, iv p3, rv ob2, iv 1, rv ob22] [(.int (own_ch p2))])) _
            refine XS.bipush X149.here hx rfl (hb hby at_198) ?_
            refine XS.icmpNo X149.here hx rfl (hb hby at_200) rfl (teq d2).2 ?_
            refine XS.aload X149.here hx rfl (hb hby at_203) rfl rfl ?_
            show Steps p.tables e below (T149.setTop (mkF m 205 #[iv p0, iv p1, iv p2, iv p3, rv ob2, iv 1, rv ob22] [(.ref ob22)])) _
            exact k
          refine own_lift sg152 ?_
          show own_Go p.tables e below (T149.setTop (mkF m 205 #[iv p0, iv p1, iv p2, iv p3, rv ob2, iv 1, rv ob22] [(.ref ob22)])) _
          obtain ⟨cq153, kq153, q153a, q153b, q153c⟩ := isOf hZ e149 p140_1
          obtain ⟨_, _, ⟨T153, Lx153, kx153, nx153⟩, -, X153, ⟨Lc153, hQ153, lx153, yx153, zx153⟩, st153⟩ := X149.virtualBack hx (y := (⟨TC, "passLineEnd", "()V"⟩ : MethodName)) (z := (⟨TC, "passLineEnd", "()V"⟩ : MethodName)) hown (mvT hZ (wd hw 139 rfl)) (mvT hZ (wd hw 140 rfl)) (notFace_of_selects (args := #[]) (mvT hZ (wd hw 142 rfl))) (mvT hZ (wd hw 142 rfl)) (mvT hZ (wd hw 141 rfl)) (by decide) (backOf (W := 0) (rmPass l Z a0 hw [] ob22 ob25 (2 : Int32) (1 : Int32) (2 : Int32) T140.heap n0 Z140 p140_1 p140_2 p140_3 p140_4 p140_5 ge22) hZ (wd hw 143 rfl) (wd hw 7 rfl) (by decide) (by decide)) q153a q153c (g := (mkF m 205 #[iv p0, iv p1, iv p2, iv p3, rv ob2, iv 1, rv ob22] [(.ref ob22)])) rfl (by rw [hml]; rfl) (Steps.refl _) (argsL := []) (rest := []) (lenOf pd_15 rfl) rfl (by show 2 * 0 + _ ≤ _; exact Nat.le_of_eq rfl) (hb hby at_205) (fun _ _ => ⟨rfl, e149, (by decide : 4 + 0 ≤ _), (by decide : 16 + 0 ≤ _)⟩)
          dsimp only [Pt.U, Pt.locs, Pt.cells, Pt.slots] at X153 lx153 yx153 zx153 st153 hQ153
          subst lx153 yx153 zx153
          obtain ⟨rfl, N153q, p153_0, p153_1, p153_2, p153_3, p153_4, p153_5⟩ := hQ153
          have N153 := Fr.app N149 N153q
          have Z153 : n0 ≤ T153.heap.size := Nat.le_trans Z140 p153_0.1
          refine own_lift (fun t k => st153.trans k) ?_
          show own_Go p.tables e below (T153.setTop (mkF m 208 #[iv p0, iv p1, iv p2, iv p3, rv ob2, iv 1, rv ob22] [])) _
          have sg154 : ∀ t, Steps p.tables e below (T153.setTop (mkF m 217 #[iv p0, iv p1, iv p2, iv p3, rv ob2, iv 1, rv ob22] [(.int 3), (.ref ob2), (.int 3), (.ref ob22)])) t → Steps p.tables e below (T153.setTop (mkF m 208 #[iv p0, iv p1, iv p2, iv p3, rv ob2, iv 1, rv ob22] [])) t := by
            intro t k
            refine XS.aload X153.here hx rfl (hb hby at_208) rfl rfl ?_
            show Steps p.tables e below (T153.setTop (mkF m 210 #[iv p0, iv p1, iv p2, iv p3, rv ob2, iv 1, rv ob22] [(.ref ob22)])) _
            refine XS.iconst X153.here hx rfl (hb hby at_210) ?_
            refine XS.aload X153.here hx rfl (hb hby at_211) rfl rfl ?_
            refine XS.iload X153.here hx rfl (hb hby at_213) rfl ?_
            show Steps p.tables e below (T153.setTop (mkF m 215 #[iv p0, iv p1, iv p2, iv p3, rv ob2, iv 1, rv ob22] [(.int 1), (.ref ob2), (.int 3), (.ref ob22)])) _
            refine XS.iconst X153.here hx rfl (hb hby at_215) ?_
            refine XS.iadd X153.here hx rfl (hb hby at_216) rfl ?_
            show Steps p.tables e below (T153.setTop (mkF m 217 #[iv p0, iv p1, iv p2, iv p3, rv ob2, iv 1, rv ob22] [(.int 3), (.ref ob2), (.int 3), (.ref ob22)])) _
            exact k
          refine own_lift sg154 ?_
          show own_Go p.tables e below (T153.setTop (mkF m 217 #[iv p0, iv p1, iv p2, iv p3, rv ob2, iv 1, rv ob22] [(.int 3), (.ref ob2), (.int 3), (.ref ob22)])) _
          have Fc155 : Exa Z T153.heap ob25 STx := (Fc142.keep p153_0)
          have Fc156 : Fld Z T153.heap ob25 STx "value" "[B" (.ref tb32) := (Fc143.keep p153_0 (ninS (Ne.symm ne28) nin0))
          have Fc157 : Fld Z T153.heap ob25 STx "coder" "B" (.int 0) := (Fc144.keep p153_0 (ninS (Ne.symm ne28) nin0))
          have Fc158 : Arv Z T153.heap tb32 kb32 .byte (4 : Int32) [(.int (((own_ch p0)).toInt8.toInt32)), (.int (((own_ch p1)).toInt8.toInt32)), (.int (((own_ch p2)).toInt8.toInt32)), (.int (((own_ch p3)).toInt8.toInt32))] (.int 0) := (Fc145.keep p153_0 (ninS (Ne.symm ne35) nin0))
          have Fc159 : Sta Z T153.heap STx "COMPACT_STRINGS" "Z" (.int cs) := (own_Sta_keep Fc146 p153_0 (allS (own_plain p140_1) all0))
          have Fc160 : Sta Z T153.heap PCx "SIOOBE_FORMATTER" BFx fv := (own_Sta_keep Fc147 p153_0 (allS (own_plain p140_1) all0))
          have Fc161 : Arv Z T153.heap ob2 ka2 .char (4 : Int32) [(.int (own_ch p0)), (.int (own_ch p1)), (.int (own_ch p2)), (.int (own_ch p3))] (.int 0) := (Fc148.keep p153_0 (ninS ne23 nin0))
          obtain ⟨_, _, ⟨T162, Lx162, kx162, nx162⟩, -, X162, ⟨Lc162, hQ162, lx162, yx162, zx162⟩, st162⟩ := Jvm.LawKit.callS X153 hx (y := (⟨LW, "at", "(Lcom/example/libprocgraph/libprocgraph/reader/TextCursor;I[CI)Z"⟩ : MethodName)) hown (mvT hZ (wd hw 144 rfl)) (mvT hZ (wd hw 145 rfl)) (mvT hZ (wd hw 3 rfl)) (mvT hZ (wd hw 146 rfl)) (by decide) (backOf (W := 0) (rmAt33 l Z a0 hw [] ob22 ob2 ob25 tb32 kb32 (((own_ch p0)).toInt8.toInt32) (((own_ch p1)).toInt8.toInt32) (((own_ch p2)).toInt8.toInt32) (((own_ch p3)).toInt8.toInt32) cs fv ka2 (own_ch p0) (own_ch p1) (own_ch p2) (own_ch p3) T153.heap n0 Z153 p153_1 p153_2 p153_3 p153_4 p153_5 Fc155 Fc156 Fc157 Fc158 Fc159 Fc160 Fc161 P_cs P_fv (own_c8_ch p3)) hZ (wd hw 146 rfl) (wd hw 3 rfl) (by decide) (by decide)) (g := (mkF m 217 #[iv p0, iv p1, iv p2, iv p3, rv ob2, iv 1, rv ob22] [(.int 3), (.ref ob2), (.int 3), (.ref ob22)])) rfl (by rw [hml]; rfl) (argsL := [(.ref ob22), (.int 3), (.ref ob2), (.int 3)]) (rest := []) (lenOf pd_16 rfl) rfl (by show 2 * 0 + _ ≤ _; exact Nat.le_of_eq rfl) (hb hby at_217) (fun _ _ => ⟨rfl, rfl, (by decide : 4 + 0 ≤ _), (by decide : 16 + 0 ≤ _)⟩)
          dsimp only [Pt.U, Pt.locs, Pt.cells, Pt.slots] at X162 lx162 yx162 zx162 st162 hQ162
          subst lx162 yx162 zx162
          obtain ⟨rfl, N162q, e162⟩ := hQ162
          have N162 := Fr.app N153 N162q
          refine own_lift st162 ?_
          show own_Go p.tables e below (T162.setTop (mkF m 220 #[iv p0, iv p1, iv p2, iv p3, rv ob2, iv 1, rv ob22] [(.int 1)])) _
          obtain ⟨fs, hr, hrun, hended, hW, hsame⟩ := X162.leave (v := some (.int 1)) (fun h => by rw [Bd.returns] at h; cases h)
          refine ⟨_, _, ?_, hrun, hended, _, _, rfl, ?_, ⟨_, rfl⟩, hW, hsame.mono (by decide) (by decide)⟩
          · exact retN X162 hx (t := .boolean) Bd.returns (by simp) (hb hby at_220) hr
          · show Q0 Z  h0 n0 _ T162.heap _
            rw [e162]
            exact ⟨rfl, N162⟩
        · have sg163 : ∀ t, Steps p.tables e below (T42.setTop (mkF m 108 #[iv p0, iv p1, iv p2, iv p3, rv ob2, iv 1, rv ob22] [(.ref ob22)])) t → Steps p.tables e below (T42.setTop (mkF m 106 #[iv p0, iv p1, iv p2, iv p3, rv ob2, iv 1, rv ob22] [])) t := by
            intro t k
            refine XS.aload X42.here hx rfl (hb hby at_106) rfl rfl ?_
            show Steps p.tables e below (T42.setTop (mkF m 108 #[iv p0, iv p1, iv p2, iv p3, rv ob2, iv 1, rv ob22] [(.ref ob22)])) _
            exact k
          refine own_lift sg163 ?_
          show own_Go p.tables e below (T42.setTop (mkF m 108 #[iv p0, iv p1, iv p2, iv p3, rv ob2, iv 1, rv ob22] [(.ref ob22)])) _
          have Fc164 : Exa Z T42.heap ob25 STx := (Eq32.keep p42_0)
          have Fc165 : Fld Z T42.heap ob25 STx "value" "[B" (.ref tb32) := (Vq32.keep p42_0 (ninS (Ne.symm ne28) nin0))
          have Fc166 : Fld Z T42.heap ob25 STx "coder" "B" (.int 0) := (Cq32.keep p42_0 (ninS (Ne.symm ne28) nin0))
          have Fc167 : Arv Z T42.heap tb32 kb32 .byte (4 : Int32) [(.int (((own_ch p0)).toInt8.toInt32)), (.int (((own_ch p1)).toInt8.toInt32)), (.int (((own_ch p2)).toInt8.toInt32)), (.int (((own_ch p3)).toInt8.toInt32))] (.int 0) := (Aq32.keep p42_0 (ninS (Ne.symm ne35) nin0))
          have Fc168 : Sta Z T42.heap STx "COMPACT_STRINGS" "Z" (.int cs) := (own_Sta_keep (own_Sta_keep Fc31 Kq32 (allS (own_plain Ax25) all0)) p42_0 (allS (own_plain Fc37) all0))
          obtain ⟨cq169, kq169, q169a, q169b, q169c⟩ := isOf hZ rfl p42_1
          obtain ⟨_, _, ⟨T169, Lx169, kx169, nx169⟩, -, X169, ⟨Lc169, hQ169, lx169, yx169, zx169⟩, st169⟩ := X42.virtualBack hx (y := (⟨TC, "skipRestOfLine", "()V"⟩ : MethodName)) (z := (⟨TC, "skipRestOfLine", "()V"⟩ : MethodName)) hown (mvT hZ (wd hw 47 rfl)) (mvT hZ (wd hw 48 rfl)) (notFace_of_selects (args := #[]) (mvT hZ (wd hw 50 rfl))) (mvT hZ (wd hw 50 rfl)) (mvT hZ (wd hw 49 rfl)) (by decide) (backOf (W := 0) (rmSkip1 l Z a0 hw [] ob22 ob25 tb32 kb32 (((own_ch p0)).toInt8.toInt32) (((own_ch p1)).toInt8.toInt32) (((own_ch p2)).toInt8.toInt32) (((own_ch p3)).toInt8.toInt32) cs T42.heap n0 Z42 p42_1 p42_2 p42_3 p42_4 p42_5 Fc164 Fc165 Fc166 Fc167 Fc168 (Ne.symm ne28) (Ne.symm ne35) ge22 P_cs (own_b10_n d0) (own_b10 d1)) hZ (wd hw 51 rfl) (wd hw 7 rfl) (by decide) (by decide)) q169a q169c (g := (mkF m 108 #[iv p0, iv p1, iv p2, iv p3, rv ob2, iv 1, rv ob22] [(.ref ob22)])) rfl (by rw [hml]; rfl) (Steps.refl _) (argsL := []) (rest := []) (lenOf pd_15 rfl) rfl (by show 2 * 0 + _ ≤ _; exact Nat.le_of_eq rfl) (hb hby at_108) (fun _ _ => ⟨rfl, rfl, (by decide : 4 + 0 ≤ _), (by decide : 16 + 0 ≤ _)⟩)
          dsimp only [Pt.U, Pt.locs, Pt.cells, Pt.slots] at X169 lx169 yx169 zx169 st169 hQ169
          subst lx169 yx169 zx169
          obtain ⟨rfl, N169q, p169_0, p169_1, p169_2, p169_3, p169_4, p169_5⟩ := hQ169
          have N169 := Fr.app N42 N169q
          have Z169 : n0 ≤ T169.heap.size := Nat.le_trans Z42 p169_0.1
          refine own_lift (fun t k => st169.trans k) ?_
          show own_Go p.tables e below (T169.setTop (mkF m 111 #[iv p0, iv p1, iv p2, iv p3, rv ob2, iv 1, rv ob22] [])) _
          have sg170 : ∀ t, Steps p.tables e below (T169.setTop (mkF m 132 #[iv p0, iv p1, iv p2, iv p3, rv ob2, iv 1, rv ob22] [(.ref ob22)])) t → Steps p.tables e below (T169.setTop (mkF m 111 #[iv p0, iv p1, iv p2, iv p3, rv ob2, iv 1, rv ob22] [])) t := by
            intro t k
            refine XS.iload X169.here hx rfl (hb hby at_111) rfl ?_
            show Steps p.tables e below (T169.setTop (mkF m 113 #[iv p0, iv p1, iv p2, iv p3, rv ob2, iv 1, rv ob22] [(.int 1)])) _
            refine XS.ifYes X169.here hx rfl (pc0 := 113) (pc' := 130) rfl (hb hby at_113) rfl ((if0 _ _).trans (flt (by decide : ¬ ((1 : Int32) < (0 : Int32)))).2.1) (by decide) (by decide) ?_
            refine XS.aload X169.here hx rfl (hb hby at_130) rfl rfl ?_
            show Steps p.tables e below (T169.setTop (mkF m 132 #[iv p0, iv p1, iv p2, iv p3, rv ob2, iv 1, rv ob22] [(.ref ob22)])) _
            exact k
          refine own_lift sg170 ?_
          show own_Go p.tables e below (T169.setTop (mkF m 132 #[iv p0, iv p1, iv p2, iv p3, rv ob2, iv 1, rv ob22] [(.ref ob22)])) _
          have Fc171 : Exa Z T169.heap ob25 STx := (Fc164.keep p169_0)
          have Fc172 : Fld Z T169.heap ob25 STx "value" "[B" (.ref tb32) := (Fc165.keep p169_0 (ninS (Ne.symm ne28) nin0))
          have Fc173 : Fld Z T169.heap ob25 STx "coder" "B" (.int 0) := (Fc166.keep p169_0 (ninS (Ne.symm ne28) nin0))
          have Fc174 : Arv Z T169.heap tb32 kb32 .byte (4 : Int32) [(.int (((own_ch p0)).toInt8.toInt32)), (.int (((own_ch p1)).toInt8.toInt32)), (.int (((own_ch p2)).toInt8.toInt32)), (.int (((own_ch p3)).toInt8.toInt32))] (.int 0) := (Fc167.keep p169_0 (ninS (Ne.symm ne35) nin0))
          have Fc175 : Sta Z T169.heap STx "COMPACT_STRINGS" "Z" (.int cs) := (own_Sta_keep Fc168 p169_0 (allS (own_plain p42_1) all0))
          have Fc176 : Sta Z T169.heap PCx "SIOOBE_FORMATTER" BFx fv := (own_Sta_keep (own_Sta_keep (own_Sta_keep (((((((Sfm.ext Ex2).wr W6).wr W10).wr W14).wr W18).ext Ex22).ext Ex25) Kq32 (allS (own_plain Ax25) all0)) p42_0 (allS (own_plain Fc37) all0)) p169_0 (allS (own_plain p42_1) all0))
          obtain ⟨cq177, kq177, q177a, q177b, q177c⟩ := isOf hZ rfl p169_1
          obtain ⟨_, _, ⟨T177, Lx177, kx177, nx177⟩, -, X177, ⟨Lc177, hQ177, lx177, yx177, zx177⟩, st177⟩ := X169.virtualBack hx (y := (⟨TC, "atLineEnd", "()Z"⟩ : MethodName)) (z := (⟨TC, "atLineEnd", "()Z"⟩ : MethodName)) hown (mvT hZ (wd hw 108 rfl)) (mvT hZ (wd hw 109 rfl)) (notFace_of_selects (args := #[]) (mvT hZ (wd hw 111 rfl))) (mvT hZ (wd hw 111 rfl)) (mvT hZ (wd hw 110 rfl)) (by decide) (backOf (W := 0) (rmAle1 l Z a0 hw [] ob22 ob25 tb32 kb32 (((own_ch p0)).toInt8.toInt32) (((own_ch p1)).toInt8.toInt32) (((own_ch p2)).toInt8.toInt32) (((own_ch p3)).toInt8.toInt32) cs fv T169.heap n0 Z169 p169_2 p169_3 Fc171 Fc172 Fc173 Fc174 Fc175 Fc176 P_cs P_fv ((own_c8_ch p1).trans d1)) hZ (wd hw 112 rfl) (wd hw 7 rfl) (by decide) (by decide)) q177a q177c (g := (mkF m 132 #[iv p0, iv p1, iv p2, iv p3, rv ob2, iv 1, rv ob22] [(.ref ob22)])) rfl (by rw [hml]; rfl) (Steps.refl _) (argsL := []) (rest := []) (lenOf pd_4 rfl) rfl (by show 2 * 0 + _ ≤ _; exact Nat.le_of_eq rfl) (hb hby at_132) (fun _ _ => ⟨rfl, rfl, (by decide : 4 + 0 ≤ _), (by decide : 16 + 0 ≤ _)⟩)
          dsimp only [Pt.U, Pt.locs, Pt.cells, Pt.slots] at X177 lx177 yx177 zx177 st177 hQ177
          subst lx177 yx177 zx177
          obtain ⟨rfl, N177q, e177⟩ := hQ177
          have N177 := Fr.app N169 N177q
          refine own_lift (fun t k => st177.trans k) ?_
          show own_Go p.tables e below (T177.setTop (mkF m 135 #[iv p0, iv p1, iv p2, iv p3, rv ob2, iv 1, rv ob22] [(.int 1)])) _
          have sg178 : ∀ t, Steps p.tables e below (T177.setTop (mkF m 140 #[iv p0, iv p1, iv p2, iv p3, rv ob2, iv 1, rv ob22] [(.ref ob22)])) t → Steps p.tables e below (T177.setTop (mkF m 135 #[iv p0, iv p1, iv p2, iv p3, rv ob2, iv 1, rv ob22] [(.int 1)])) t := by
            intro t k
            refine XS.ifNo X177.here hx rfl (hb hby at_135) rfl ((if0 _ _).trans (feq (by decide : ¬ ((1 : Int32) = (0 : Int32)))).1) ?_
            show Steps p.tables e below (T177.setTop (mkF m 138 #[iv p0, iv p1, iv p2, iv p3, rv ob2, iv 1, rv ob22] [])) _
            refine XS.aload X177.here hx rfl (hb hby at_138) rfl rfl ?_
            show Steps p.tables e below (T177.setTop (mkF m 140 #[iv p0, iv p1, iv p2, iv p3, rv ob2, iv 1, rv ob22] [(.ref ob22)])) _
            exact k
          refine own_lift sg178 ?_
          show own_Go p.tables e below (T177.setTop (mkF m 140 #[iv p0, iv p1, iv p2, iv p3, rv ob2, iv 1, rv ob22] [(.ref ob22)])) _
          obtain ⟨cq179, kq179, q179a, q179b, q179c⟩ := isOf hZ e177 p169_1
          obtain ⟨_, _, ⟨T179, Lx179, kx179, nx179⟩, -, X179, ⟨Lc179, hQ179, lx179, yx179, zx179⟩, st179⟩ := X177.virtualBack hx (y := (⟨TC, "line", "()I"⟩ : MethodName)) (z := (⟨TC, "line", "()I"⟩ : MethodName)) hown (mvT hZ (wd hw 129 rfl)) (mvT hZ (wd hw 130 rfl)) (notFace_of_selects (args := #[]) (mvT hZ (wd hw 132 rfl))) (mvT hZ (wd hw 132 rfl)) (mvT hZ (wd hw 131 rfl)) (by decide) (backOf (W := 0) (rmLine l Z a0 hw [] ob22 (1 : Int32) T169.heap n0 Z169 p169_5) hZ (wd hw 133 rfl) (wd hw 7 rfl) (by decide) (by decide)) q179a q179c (g := (mkF m 140 #[iv p0, iv p1, iv p2, iv p3, rv ob2, iv 1, rv ob22] [(.ref ob22)])) rfl (by rw [hml]; rfl) (Steps.refl _) (argsL := []) (rest := []) (lenOf pd_5 rfl) rfl (by show 2 * 0 + _ ≤ _; exact Nat.le_of_eq rfl) (hb hby at_140) (fun _ _ => ⟨rfl, e177, (by decide : 4 + 0 ≤ _), (by decide : 16 + 0 ≤ _)⟩)
          dsimp only [Pt.U, Pt.locs, Pt.cells, Pt.slots] at X179 lx179 yx179 zx179 st179 hQ179
          subst lx179 yx179 zx179
          obtain ⟨rfl, N179q, e179⟩ := hQ179
          have N179 := Fr.app N177 N179q
          refine own_lift (fun t k => st179.trans k) ?_
          show own_Go p.tables e below (T179.setTop (mkF m 143 #[iv p0, iv p1, iv p2, iv p3, rv ob2, iv 1, rv ob22] [(.int 1)])) _
          have sg180 : ∀ t, Steps p.tables e below (T179.setTop (mkF m 149 #[iv p0, iv p1, iv p2, iv p3, rv ob2, iv 1, rv ob22] [(.ref ob22)])) t → Steps p.tables e below (T179.setTop (mkF m 143 #[iv p0, iv p1, iv p2, iv p3, rv ob2, iv 1, rv ob22] [(.int 1)])) t := by
            intro t k
            refine XS.iconst X179.here hx rfl (hb hby at_143) ?_
            show Steps p.tables e below (T179.setTop (mkF m 144 #[iv p0, iv p1, iv p2, iv p3, rv ob2, iv 1, rv ob22] [(.int 1), (.int 1)])) _
            refine XS.icmpNo X179.here hx rfl (hb hby at_144) rfl (teq (by decide : (1 : Int32) = (1 : Int32))).2 ?_
            refine XS.aload X179.here hx rfl (hb hby at_147) rfl rfl ?_
            show Steps p.tables e below (T179.setTop (mkF m 149 #[iv p0, iv p1, iv p2, iv p3, rv ob2, iv 1, rv ob22] [(.ref ob22)])) _
            exact k
          refine own_lift sg180 ?_
          show own_Go p.tables e below (T179.setTop (mkF m 149 #[iv p0, iv p1, iv p2, iv p3, rv ob2, iv 1, rv ob22] [(.ref ob22)])) _
          obtain ⟨cq181, kq181, q181a, q181b, q181c⟩ := isOf hZ e179 p169_1
          obtain ⟨_, _, ⟨T181, Lx181, kx181, nx181⟩, -, X181, ⟨Lc181, hQ181, lx181, yx181, zx181⟩, st181⟩ := X179.virtualBack hx (y := (⟨TC, "column", "()I"⟩ : MethodName)) (z := (⟨TC, "column", "()I"⟩ : MethodName)) hown (mvT hZ (wd hw 134 rfl)) (mvT hZ (wd hw 135 rfl)) (notFace_of_selects (args := #[]) (mvT hZ (wd hw 137 rfl))) (mvT hZ (wd hw 137 rfl)) (mvT hZ (wd hw 136 rfl)) (by decide) (backOf (W := 0) (rmCol l Z a0 hw [] ob22 (2 : Int32) T169.heap n0 Z169 p169_4) hZ (wd hw 138 rfl) (wd hw 7 rfl) (by decide) (by decide)) q181a q181c (g := (mkF m 149 #[iv p0, iv p1, iv p2, iv p3, rv ob2, iv 1, rv ob22] [(.ref ob22)])) rfl (by rw [hml]; rfl) (Steps.refl _) (argsL := []) (rest := []) (lenOf pd_5 rfl) rfl (by show 2 * 0 + _ ≤ _; exact Nat.le_of_eq rfl) (hb hby at_149) (fun _ _ => ⟨rfl, e179, (by decide : 4 + 0 ≤ _), (by decide : 16 + 0 ≤ _)⟩)
          dsimp only [Pt.U, Pt.locs, Pt.cells, Pt.slots] at X181 lx181 yx181 zx181 st181 hQ181
          subst lx181 yx181 zx181
          obtain ⟨rfl, N181q, e181⟩ := hQ181
          have N181 := Fr.app N179 N181q
          refine own_lift (fun t k => st181.trans k) ?_
          show own_Go p.tables e below (T181.setTop (mkF m 152 #[iv p0, iv p1, iv p2, iv p3, rv ob2, iv 1, rv ob22] [(.int 2)])) _
          have sg182 : ∀ t, Steps p.tables e below (T181.setTop (mkF m 163 #[iv p0, iv p1, iv p2, iv p3, rv ob2, iv 1, rv ob22] [(.ref ob22)])) t → Steps p.tables e below (T181.setTop (mkF m 152 #[iv p0, iv p1, iv p2, iv p3, rv ob2, iv 1, rv ob22] [(.int 2)])) t := by
            intro t k
            refine XS.iload X181.here hx rfl (hb hby at_152) rfl ?_
            show Steps p.tables e below (T181.setTop (mkF m 154 #[iv p0, iv p1, iv p2, iv p3, rv ob2, iv 1, rv ob22] [(.int 1), (.int 2)])) _
            refine XS.iconst X181.here hx rfl (hb hby at_154) ?_
            refine XS.iadd X181.here hx rfl (hb hby at_155) rfl ?_
            refine XS.icmpYes X181.here hx rfl (pc0 := 156) (pc' := 161) rfl (hb hby at_156) rfl (teq (by decide : (2 : Int32) = (2 : Int32))).1 (by decide) (by decide) ?_
            show Steps p.tables e below (T181.setTop (mkF m 161 #[iv p0, iv p1, iv p2, iv p3, rv ob2, iv 1, rv ob22] [])) _
            refine XS.aload X181.here hx rfl (hb hby at_161) rfl rfl ?_
            show Steps p.tables e below (T181.setTop (mkF m 163 #[iv p0, iv p1, iv p2, iv p3, rv ob2, iv 1, rv ob22] [(.ref ob22)])) _
            exact k
          refine own_lift sg182 ?_
          show own_Go p.tables e below (T181.setTop (mkF m 163 #[iv p0, iv p1, iv p2, iv p3, rv ob2, iv 1, rv ob22] [(.ref ob22)])) _
          obtain ⟨cq183, kq183, q183a, q183b, q183c⟩ := isOf hZ e181 p169_1
          obtain ⟨_, _, ⟨T183, Lx183, kx183, nx183⟩, -, X183, ⟨Lc183, hQ183, lx183, yx183, zx183⟩, st183⟩ := X181.virtualBack hx (y := (⟨TC, "passLineEnd", "()V"⟩ : MethodName)) (z := (⟨TC, "passLineEnd", "()V"⟩ : MethodName)) hown (mvT hZ (wd hw 139 rfl)) (mvT hZ (wd hw 140 rfl)) (notFace_of_selects (args := #[]) (mvT hZ (wd hw 142 rfl))) (mvT hZ (wd hw 142 rfl)) (mvT hZ (wd hw 141 rfl)) (by decide) (backOf (W := 0) (rmPass l Z a0 hw [] ob22 ob25 (1 : Int32) (2 : Int32) (1 : Int32) T169.heap n0 Z169 p169_1 p169_2 p169_3 p169_4 p169_5 ge22) hZ (wd hw 143 rfl) (wd hw 7 rfl) (by decide) (by decide)) q183a q183c (g := (mkF m 163 #[iv p0, iv p1, iv p2, iv p3, rv ob2, iv 1, rv ob22] [(.ref ob22)])) rfl (by rw [hml]; rfl) (Steps.refl _) (argsL := []) (rest := []) (lenOf pd_15 rfl) rfl (by show 2 * 0 + _ ≤ _; exact Nat.le_of_eq rfl) (hb hby at_163) (fun _ _ => ⟨rfl, e181, (by decide : 4 + 0 ≤ _), (by decide : 16 + 0 ≤ _)⟩)
          dsimp only [Pt.U, Pt.locs, Pt.cells, Pt.slots] at X183 lx183 yx183 zx183 st183 hQ183
          subst lx183 yx183 zx183
          obtain ⟨rfl, N183q, p183_0, p183_1, p183_2, p183_3, p183_4, p183_5⟩ := hQ183
          have N183 := Fr.app N181 N183q
          have Z183 : n0 ≤ T183.heap.size := Nat.le_trans Z169 p183_0.1
          refine own_lift (fun t k => st183.trans k) ?_
          show own_Go p.tables e below (T183.setTop (mkF m 166 #[iv p0, iv p1, iv p2, iv p3, rv ob2, iv 1, rv ob22] [])) _
          have sg184 : ∀ t, Steps p.tables e below (T183.setTop (mkF m 175 #[iv p0, iv p1, iv p2, iv p3, rv ob2, iv 1, rv ob22] [(.int 2), (.ref ob2), (.int 2), (.ref ob22)])) t → Steps p.tables e below (T183.setTop (mkF m 166 #[iv p0, iv p1, iv p2, iv p3, rv ob2, iv 1, rv ob22] [])) t := by
            intro t k
            refine XS.aload X183.here hx rfl (hb hby at_166) rfl rfl ?_
            show Steps p.tables e below (T183.setTop (mkF m 168 #[iv p0, iv p1, iv p2, iv p3, rv ob2, iv 1, rv ob22] [(.ref ob22)])) _
            refine XS.iconst X183.here hx rfl (hb hby at_168) ?_
            refine XS.aload X183.here hx rfl (hb hby at_169) rfl rfl ?_
            refine XS.iload X183.here hx rfl (hb hby at_171) rfl ?_
            show Steps p.tables e below (T183.setTop (mkF m 173 #[iv p0, iv p1, iv p2, iv p3, rv ob2, iv 1, rv ob22] [(.int 1), (.ref ob2), (.int 2), (.ref ob22)])) _
            refine XS.iconst X183.here hx rfl (hb hby at_173) ?_
            refine XS.iadd X183.here hx rfl (hb hby at_174) rfl ?_
            show Steps p.tables e below (T183.setTop (mkF m 175 #[iv p0, iv p1, iv p2, iv p3, rv ob2, iv 1, rv ob22] [(.int 2), (.ref ob2), (.int 2), (.ref ob22)])) _
            exact k
          refine own_lift sg184 ?_
          show own_Go p.tables e below (T183.setTop (mkF m 175 #[iv p0, iv p1, iv p2, iv p3, rv ob2, iv 1, rv ob22] [(.int 2), (.ref ob2), (.int 2), (.ref ob22)])) _
          have Fc185 : Exa Z T183.heap ob25 STx := (Fc171.keep p183_0)
          have Fc186 : Fld Z T183.heap ob25 STx "value" "[B" (.ref tb32) := (Fc172.keep p183_0 (ninS (Ne.symm ne28) nin0))
          have Fc187 : Fld Z T183.heap ob25 STx "coder" "B" (.int 0) := (Fc173.keep p183_0 (ninS (Ne.symm ne28) nin0))
          have Fc188 : Arv Z T183.heap tb32 kb32 .byte (4 : Int32) [(.int (((own_ch p0)).toInt8.toInt32)), (.int (((own_ch p1)).toInt8.toInt32)), (.int (((own_ch p2)).toInt8.toInt32)), (.int (((own_ch p3)).toInt8.toInt32))] (.int 0) := (Fc174.keep p183_0 (ninS (Ne.symm ne35) nin0))
          have Fc189 : Sta Z T183.heap STx "COMPACT_STRINGS" "Z" (.int cs) := (own_Sta_keep Fc175 p183_0 (allS (own_plain p169_1) all0))
          have Fc190 : Sta Z T183.heap PCx "SIOOBE_FORMATTER" BFx fv := (own_Sta_keep Fc176 p183_0 (allS (own_plain p169_1) all0))
          have Fc191 : Arv Z T183.heap ob2 ka2 .char (4 : Int32) [(.int (own_ch p0)), (.int (own_ch p1)), (.int (own_ch p2)), (.int (own_ch p3))] (.int 0) := ((((Fc30.keep Kq32 (ninS ne27 nin0)).keep p42_0 (ninS ne23 nin0)).keep p169_0 (ninS ne23 nin0)).keep p183_0 (ninS ne23 nin0))
          obtain ⟨_, _, ⟨T192, Lx192, kx192, nx192⟩, -, X192, ⟨Lc192, hQ192, lx192, yx192, zx192⟩, st192⟩ := Jvm.LawKit.callS X183 hx (y := (⟨LW, "at", "(Lcom/example/libprocgraph/libprocgraph/reader/TextCursor;I[CI)Z"⟩ : MethodName)) hown (mvT hZ (wd hw 144 rfl)) (mvT hZ (wd hw 145 rfl)) (mvT hZ (wd hw 3 rfl)) (mvT hZ (wd hw 146 rfl)) (by decide) (backOf (W := 0) (rmAt22 l Z a0 hw [] ob22 ob2 ob25 tb32 kb32 (((own_ch p0)).toInt8.toInt32) (((own_ch p1)).toInt8.toInt32) (((own_ch p2)).toInt8.toInt32) (((own_ch p3)).toInt8.toInt32) cs fv ka2 (own_ch p0) (own_ch p1) (own_ch p2) (own_ch p3) T183.heap n0 Z183 p183_1 p183_2 p183_3 p183_4 p183_5 Fc185 Fc186 Fc187 Fc188 Fc189 Fc190 Fc191 P_cs P_fv (own_c8_ch p2)) hZ (wd hw 146 rfl) (wd hw 3 rfl) (by decide) (by decide)) (g := (mkF m 175 #[iv p0, iv p1, iv p2, iv p3, rv ob2, iv 1, rv ob22] [(.int 2), (.ref ob2), (.int 2), (.ref ob22)])) rfl (by rw [hml]; rfl) (argsL := [(.ref ob22), (.int 2), (.ref ob2), (.int 2)]) (rest := []) (lenOf pd_16 rfl) rfl (by show 2 * 0 + _ ≤ _; exact Nat.le_of_eq rfl) (hb hby at_175) (fun _ _ => ⟨rfl, rfl, (by decide : 4 + 0 ≤ _), (by decide : 16 + 0 ≤ _)⟩)
          dsimp only [Pt.U, Pt.locs, Pt.cells, Pt.slots] at X192 lx192 yx192 zx192 st192 hQ192
          subst lx192 yx192 zx192
          obtain ⟨rfl, N192q, e192⟩ := hQ192
          have N192 := Fr.app N183 N192q
          refine own_lift st192 ?_
          show own_Go p.tables e below (T192.setTop (mkF m 178 #[iv p0, iv p1, iv p2, iv p3, rv ob2, iv 1, rv ob22] [(.int 1)])) _
          have sg193 : ∀ t, Steps p.tables e below (T192.setTop (mkF m 197 #[iv p0, iv p1, iv p2, iv p3, rv ob2, iv 1, rv ob22] [(.int 2), (.ref ob2)])) t → Steps p.tables e below (T192.setTop (mkF m 178 #[iv p0, iv p1, iv p2, iv p3, rv ob2, iv 1, rv ob22] [(.int 1)])) t := by
            intro t k
            refine XS.ifYes X192.here hx rfl (pc0 := 178) (pc' := 183) rfl (hb hby at_178) rfl ((if0 _ _).trans (feq (by decide : ¬ ((1 : Int32) = (0 : Int32)))).2) (by decide) (by decide) ?_
            show Steps p.tables e below (T192.setTop (mkF m 183 #[iv p0, iv p1, iv p2, iv p3, rv ob2, iv 1, rv ob22] [])) _
            refine XS.iload X192.here hx rfl (hb hby at_183) rfl ?_
            refine XS.iconst X192.here hx rfl (hb hby at_185) ?_
            refine XS.iadd X192.here hx rfl (hb hby at_186) rfl ?_
            show Steps p.tables e below (T192.setTop (mkF m 187 #[iv p0, iv p1, iv p2, iv p3, rv ob2, iv 1, rv ob22] [(.int 2)])) _
            refine XS.iconst X192.here hx rfl (hb hby at_187) ?_
            refine XS.icmpNo X192.here hx rfl (hb hby at_188) rfl (tlt (by decide : (2 : Int32) < (4 : Int32))).2.1 ?_
            refine XS.aload X192.here hx rfl (hb hby at_191) rfl rfl ?_
            show Steps p.tables e below (T192.setTop (mkF m 193 #[iv p0, iv p1, iv p2, iv p3, rv ob2, iv 1, rv ob22] [(.ref ob2)])) _
            refine XS.iload X192.here hx rfl (hb hby at_193) rfl ?_
            refine XS.iconst X192.here hx rfl (hb hby at_195) ?_
            refine XS.iadd X192.here hx rfl (hb hby at_196) rfl ?_
            show Steps p.tables e below (T192.setTop (mkF m 197 #[iv p0, iv p1, iv p2, iv p3, rv ob2, iv 1, rv ob22] [(.int 2), (.ref ob2)])) _
            exact k
          refine own_lift sg193 ?_
          show own_Go p.tables e below (T192.setTop (mkF m 197 #[iv p0, iv p1, iv p2, iv p3, rv ob2, iv 1, rv ob22] [(.int 2), (.ref ob2)])) _
          obtain ⟨cl194, Ar194, qx194, Sx194, N194', H194', G194'⟩ := id (Fc191)
          have hin194 : ¬ ((2 : Int32) < 0 ∨ cl194.slots.size ≤ ((2 : Int32)).toNatClampNeg) := inb_of Sx194 ⟨(by decide : ¬ ((2 : Int32) < (0 : Int32))), (by decide : (2 : Int32) < (4 : Int32))⟩
          have hat194 : cl194.slots[((2 : Int32)).toNatClampNeg]? = some (.int (own_ch p2)) := Has.at H194' hin194 rfl
          have sg195 : ∀ t, Steps p.tables e below (T192.setTop (mkF m 222 #[iv p0, iv p1, iv p2, iv p3, rv ob2, iv 1, rv ob22] [(.int 1)])) t → Steps p.tables e below (T192.setTop (mkF m 197 #[iv p0, iv p1, iv p2, iv p3, rv ob2, iv 1, rv ob22] [(.int 2), (.ref ob2)])) t := by
            intro t k
            refine X192.caload hx (j := (2 : Int32)) (v := (.int (own_ch p2))) (by rw [e192]; exact Ar194.1) (State.isArrayOf_alike hZ.alike Ar194.2.1) Ar194.2.2 hin194 hat194 (g := (mkF m 197 #[iv p0, iv p1, iv p2, iv p3, rv ob2, iv 1, rv ob22] [(.int 2), (.ref ob2)])) rfl rfl (hb hby at_197) _ ?_
            show Steps p.tables e below (T192.setTop (mkF m 198 #[iv p0, iv p1, iv p2, iv p3, rv ob2, iv 1, rv ob22] [(.int (own_ch p2))])) _
            refine XS.bipush X192.here hx rfl (hb hby at_198) ?_
            refine XS.icmpYes X192.here hx rfl (pc0 := 200) (pc' := 221) rfl (hb hby at_200) rfl (feq d2).2 (by decide) (by decide) ?_
            refine XS.iconst X192.here hx rfl (hb hby at_221) ?_
            show Steps p.tables e below (T192.setTop (mkF m 222 #[iv p0, iv p1, iv p2, iv p3, rv ob2, iv 1, rv ob22] [(.int 1)])) _
            exact k
          refine own_lift sg195 ?_
          show own_Go p.tables e below (T192.setTop (mkF m 222 #[iv p0, iv p1, iv p2, iv p3, rv ob2, iv 1, rv ob22] [(.int 1)])) _
          obtain ⟨fs, hr, hrun, hended, hW, hsame⟩ := X192.leave (v := some (.int 1)) (fun h => by rw [Bd.returns] at h; cases h)
          refine ⟨_, _, ?_, hrun, hended, _, _, rfl, ?_, ⟨_, rfl⟩, hW, hsame.mono (by decide) (by decide)⟩
          · exact retN X192 hx (t := .boolean) Bd.returns (by simp) (hb hby at_222) hr
          · show Q0 Z  h0 n0 _ T192.heap _
            rw [e192]
            exact ⟨rfl, N192⟩
      · by_cases d2 : (own_ch p2) = (10 : Int32)
        · rw [show (own_p (own_ch p0) (own_ch p1) (own_ch p2) (own_ch p3)) = (2 : Int32) from (by rw [own_p, if_neg d0, if_neg d1, if_pos d2])]
          show own_Go p.tables e below (T42.setTop (mkF m 106 #[iv p0, iv p1, iv p2, iv p3, rv ob2, iv 2, rv ob22] [])) _
          by_cases d3 : (own_ch p3) = (10 : Int32)
          · have sg196 : ∀ t, Steps p.tables e below (T42.setTop (mkF m 108 #[iv p0, iv p1, iv p2, iv p3, rv ob2, iv 2, rv ob22] [(.ref ob22)])) t → Steps p.tables e below (T42.setTop (mkF m 106 #[iv p0, iv p1, iv p2, iv p3, rv ob2, iv 2, rv ob22] [])) t := by
              intro t k
              refine XS.aload X42.here hx rfl (hb hby at_106) rfl rfl ?_
              show Steps p.tables e below (T42.setTop (mkF m 108 #[iv p0, iv p1, iv p2, iv p3, rv ob2, iv 2, rv ob22] [(.ref ob22)])) _
              exact k
            refine own_lift sg196 ?_
            show own_Go p.tables e below (T42.setTop (mkF m 108 #[iv p0, iv p1, iv p2, iv p3, rv ob2, iv 2, rv ob22] [(.ref ob22)])) _
            have Fc197 : Exa Z T42.heap ob25 STx := (Eq32.keep p42_0)
            have Fc198 : Fld Z T42.heap ob25 STx "value" "[B" (.ref tb32) := (Vq32.keep p42_0 (ninS (Ne.symm ne28) nin0))
            have Fc199 : Fld Z T42.heap ob25 STx "coder" "B" (.int 0) := (Cq32.keep p42_0 (ninS (Ne.symm ne28) nin0))
            have Fc200 : Arv Z T42.heap tb32 kb32 .byte (4 : Int32) [(.int (((own_ch p0)).toInt8.toInt32)), (.int (((own_ch p1)).toInt8.toInt32)), (.int (((own_ch p2)).toInt8.toInt32)), (.int (((own_ch p3)).toInt8.toInt32))] (.int 0) := (Aq32.keep p42_0 (ninS (Ne.symm ne35) nin0))
            have Fc201 : Sta Z T42.heap STx "COMPACT_STRINGS" "Z" (.int cs) := (own_Sta_keep (own_Sta_keep Fc31 Kq32 (allS (own_plain Ax25) all0)) p42_0 (allS (own_plain Fc37) all0))
            obtain ⟨cq202, kq202, q202a, q202b, q202c⟩ := isOf hZ rfl p42_1
            obtain ⟨_, _, ⟨T202, Lx202, kx202, nx202⟩, -, X202, ⟨Lc202, hQ202, lx202, yx202, zx202⟩, st202⟩ := X42.virtualBack hx (y := (⟨TC, "skipRestOfLine", "()V"⟩ : MethodName)) (z := (⟨TC, "skipRestOfLine", "()V"⟩ : MethodName)) hown (mvT hZ (wd hw 47 rfl)) (mvT hZ (wd hw 48 rfl)) (notFace_of_selects (args := #[]) (mvT hZ (wd hw 50 rfl))) (mvT hZ (wd hw 50 rfl)) (mvT hZ (wd hw 49 rfl)) (by decide) (backOf (W := 0) (rmSkip2 l Z a0 hw [] ob22 ob25 tb32 kb32 (((own_ch p0)).toInt8.toInt32) (((own_ch p1)).toInt8.toInt32) (((own_ch p2)).toInt8.toInt32) (((own_ch p3)).toInt8.toInt32) cs T42.heap n0 Z42 p42_1 p42_2 p42_3 p42_4 p42_5 Fc197 Fc198 Fc199 Fc200 Fc201 (Ne.symm ne28) (Ne.symm ne35) ge22 P_cs (own_b10_n d0) (own_b10_n d1) (own_b10 d2)) hZ (wd hw 51 rfl) (wd hw 7 rfl) (by decide) (by decide)) q202a q202c (g := (mkF m 108 #[iv p0, iv p1, iv p2, iv p3, rv ob2, iv 2, rv ob22] [(.ref ob22)])) rfl (by rw [hml]; rfl) (Steps.refl _) (argsL := []) (rest := []) (lenOf pd_15 rfl) rfl (by show 2 * 0 + _ ≤ _; exact Nat.le_of_eq rfl) (hb hby at_108) (fun _ _ => ⟨rfl, rfl, (by decide : 4 + 0 ≤ _), (by decide : 16 + 0 ≤ _)⟩)
            dsimp only [Pt.U, Pt.locs, Pt.cells, Pt.slots] at X202 lx202 yx202 zx202 st202 hQ202
            subst lx202 yx202 zx202
            obtain ⟨rfl, N202q, p202_0, p202_1, p202_2, p202_3, p202_4, p202_5⟩ := hQ202
            have N202 := Fr.app N42 N202q
            have Z202 : n0 ≤ T202.heap.size := Nat.le_trans Z42 p202_0.1
            refine own_lift (fun t k => st202.trans k) ?_
            show own_Go p.tables e below (T202.setTop (mkF m 111 #[iv p0, iv p1, iv p2, iv p3, rv ob2, iv 2, rv ob22] [])) _
            have sg203 : ∀ t, Steps p.tables e below (T202.setTop (mkF m 132 #[iv p0, iv p1, iv p2, iv p3, rv ob2, iv 2, rv ob22] [(.ref ob22)])) t → Steps p.tables e below (T202.setTop (mkF m 111 #[iv p0, iv p1, iv p2, iv p3, rv ob2, iv 2, rv ob22] [])) t := by
              intro t k
              refine XS.iload X202.here hx rfl (hb hby at_111) rfl ?_
              show Steps p.tables e below (T202.setTop (mkF m 113 #[iv p0, iv p1, iv p2, iv p3, rv ob2, iv 2, rv ob22] [(.int 2)])) _
              refine XS.ifYes X202.here hx rfl (pc0 := 113) (pc' := 130) rfl (hb hby at_113) rfl ((if0 _ _).trans (flt (by decide : ¬ ((2 : Int32) < (0 : Int32)))).2.1) (by decide) (by decide) ?_
              refine XS.aload X202.here hx rfl (hb hby at_130) rfl rfl ?_
              show Steps p.tables e below (T202.setTop (mkF m 132 #[iv p0, iv p1, iv p2, iv p3, rv ob2, iv 2, rv ob22] [(.ref ob22)])) _
              exact k
            refine own_lift sg203 ?_
            show own_Go p.tables e below (T202.setTop (mkF m 132 #[iv p0, iv p1, iv p2, iv p3, rv ob2, iv 2, rv ob22] [(.ref ob22)])) _
            have Fc204 : Exa Z T202.heap ob25 STx := (Fc197.keep p202_0)
            have Fc205 : Fld Z T202.heap ob25 STx "value" "[B" (.ref tb32) := (Fc198.keep p202_0 (ninS (Ne.symm ne28) nin0))
            have Fc206 : Fld Z T202.heap ob25 STx "coder" "B" (.int 0) := (Fc199.keep p202_0 (ninS (Ne.symm ne28) nin0))
            have Fc207 : Arv Z T202.heap tb32 kb32 .byte (4 : Int32) [(.int (((own_ch p0)).toInt8.toInt32)), (.int (((own_ch p1)).toInt8.toInt32)), (.int (((own_ch p2)).toInt8.toInt32)), (.int (((own_ch p3)).toInt8.toInt32))] (.int 0) := (Fc200.keep p202_0 (ninS (Ne.symm ne35) nin0))
            have Fc208 : Sta Z T202.heap STx "COMPACT_STRINGS" "Z" (.int cs) := (own_Sta_keep Fc201 p202_0 (allS (own_plain p42_1) all0))
            have Fc209 : Sta Z T202.heap PCx "SIOOBE_FORMATTER" BFx fv := (own_Sta_keep (own_Sta_keep (own_Sta_keep (((((((Sfm.ext Ex2).wr W6).wr W10).wr W14).wr W18).ext Ex22).ext Ex25) Kq32 (allS (own_plain Ax25) all0)) p42_0 (allS (own_plain Fc37) all0)) p202_0 (allS (own_plain p42_1) all0))
            obtain ⟨cq210, kq210, q210a, q210b, q210c⟩ := isOf hZ rfl p202_1
            obtain ⟨_, _, ⟨T210, Lx210, kx210, nx210⟩, -, X210, ⟨Lc210, hQ210, lx210, yx210, zx210⟩, st210⟩ := X202.virtualBack hx (y := (⟨TC, "atLineEnd", "()Z"⟩ : MethodName)) (z := (⟨TC, "atLineEnd", "()Z"⟩ : MethodName)) hown (mvT hZ (wd hw 108 rfl)) (mvT hZ (wd hw 109 rfl)) (notFace_of_selects (args := #[]) (mvT hZ (wd hw 111 rfl))) (mvT hZ (wd hw 111 rfl)) (mvT hZ (wd hw 110 rfl)) (by decide) (backOf (W := 0) (rmAle2 l Z a0 hw [] ob22 ob25 tb32 kb32 (((own_ch p0)).toInt8.toInt32) (((own_ch p1)).toInt8.toInt32) (((own_ch p2)).toInt8.toInt32) (((own_ch p3)).toInt8.toInt32) cs fv T202.heap n0 Z202 p202_2 p202_3 Fc204 Fc205 Fc206 Fc207 Fc208 Fc209 P_cs P_fv ((own_c8_ch p2).trans d2)) hZ (wd hw 112 rfl) (wd hw 7 rfl) (by decide) (by decide)) q210a q210c (g := (mkF m 132 #[iv p0, iv p1, iv p2, iv p3, rv ob2, iv 2, rv ob22] [(.ref ob22)])) rfl (by rw [hml]; rfl) (Steps.refl _) (argsL := []) (rest := []) (lenOf pd_4 rfl) rfl (by show 2 * 0 + _ ≤ _; exact Nat.le_of_eq rfl) (hb hby at_132) (fun _ _ => ⟨rfl, rfl, (by decide : 4 + 0 ≤ _), (by decide : 16 + 0 ≤ _)⟩)
            dsimp only [Pt.U, Pt.locs, Pt.cells, Pt.slots] at X210 lx210 yx210 zx210 st210 hQ210
            subst lx210 yx210 zx210
            obtain ⟨rfl, N210q, e210⟩ := hQ210
            have N210 := Fr.app N202 N210q
            refine own_lift (fun t k => st210.trans k) ?_
            show own_Go p.tables e below (T210.setTop (mkF m 135 #[iv p0, iv p1, iv p2, iv p3, rv ob2, iv 2, rv ob22] [(.int 1)])) _
            have sg211 : ∀ t, Steps p.tables e below (T210.setTop (mkF m 140 #[iv p0, iv p1, iv p2, iv p3, rv ob2, iv 2, rv ob22] [(.ref ob22)])) t → Steps p.tables e below (T210.setTop (mkF m 135 #[iv p0, iv p1, iv p2, iv p3, rv ob2, iv 2, rv ob22] [(.int 1)])) t := by
              intro t k
              refine XS.ifNo X210.here hx rfl (hb hby at_135) rfl ((if0 _ _).trans (feq (by decide : ¬ ((1 : Int32) = (0 : Int32)))).1) ?_
              show Steps p.tables e below (T210.setTop (mkF m 138 #[iv p0, iv p1, iv p2, iv p3, rv ob2, iv 2, rv ob22] [])) _
              refine XS.aload X210.here hx rfl (hb hby at_138) rfl rfl ?_
              show Steps p.tables e below (T210.setTop (mkF m 140 #[iv p0, iv p1, iv p2, iv p3, rv ob2, iv 2, rv ob22] [(.ref ob22)])) _
              exact k
            refine own_lift sg211 ?_
            show own_Go p.tables e below (T210.setTop (mkF m 140 #[iv p0, iv p1, iv p2, iv p3, rv ob2, iv 2, rv ob22] [(.ref ob22)])) _
            obtain ⟨cq212, kq212, q212a, q212b, q212c⟩ := isOf hZ e210 p202_1
            obtain ⟨_, _, ⟨T212, Lx212, kx212, nx212⟩, -, X212, ⟨Lc212, hQ212, lx212, yx212, zx212⟩, st212⟩ := X210.virtualBack hx (y := (⟨TC, "line", "()I"⟩ : MethodName)) (z := (⟨TC, "line", "()I"⟩ : MethodName)) hown (mvT hZ (wd hw 129 rfl)) (mvT hZ (wd hw 130 rfl)) (notFace_of_selects (args := #[]) (mvT hZ (wd hw 132 rfl))) (mvT hZ (wd hw 132 rfl)) (mvT hZ (wd hw 131 rfl)) (by decide) (backOf (W := 0) (rmLine l Z a0 hw [] ob22 (1 : Int32) T202.heap n0 Z202 p202_5) hZ (wd hw 133 rfl) (wd hw 7 rfl) (by decide) (by decide)) q212a q212c (g := (mkF m 140 #[iv p0, iv p1, iv p2, iv p3, rv ob2, iv 2, rv ob22] [(.ref ob22)])) rfl (by rw [hml]; rfl) (Steps.refl _) (argsL := []) (rest := []) (lenOf pd_5 rfl) rfl (by show 2 * 0 + _ ≤ _; exact Nat.le_of_eq rfl) (hb hby at_140) (fun _ _ => ⟨rfl, e210, (by decide : 4 + 0 ≤ _), (by decide : 16 + 0 ≤ _)⟩)
            dsimp only [Pt.U, Pt.locs, Pt.cells, Pt.slots] at X212 lx212 yx212 zx212 st212 hQ212
            subst lx212 yx212 zx212
            obtain ⟨rfl, N212q, e212⟩ := hQ212
            have N212 := Fr.app N210 N212q
            refine own_lift (fun t k => st212.trans k) ?_
            show own_Go p.tables e below (T212.setTop (mkF m 143 #[iv p0, iv p1, iv p2, iv p3, rv ob2, iv 2, rv ob22] [(.int 1)])) _
            have sg213 : ∀ t, Steps p.tables e below (T212.setTop (mkF m 149 #[iv p0, iv p1, iv p2, iv p3, rv ob2, iv 2, rv ob22] [(.ref ob22)])) t → Steps p.tables e below (T212.setTop (mkF m 143 #[iv p0, iv p1, iv p2, iv p3, rv ob2, iv 2, rv ob22] [(.int 1)])) t := by
              intro t k
              refine XS.iconst X212.here hx rfl (hb hby at_143) ?_
              show Steps p.tables e below (T212.setTop (mkF m 144 #[iv p0, iv p1, iv p2, iv p3, rv ob2, iv 2, rv ob22] [(.int 1), (.int 1)])) _
              refine XS.icmpNo X212.here hx rfl (hb hby at_144) rfl (teq (by decide : (1 : Int32) = (1 : Int32))).2 ?_
              refine XS.aload X212.here hx rfl (hb hby at_147) rfl rfl ?_
              show Steps p.tables e below (T212.setTop (mkF m 149 #[iv p0, iv p1, iv p2, iv p3, rv ob2, iv 2, rv ob22] [(.ref ob22)])) _
              exact k
            refine own_lift sg213 ?_
            show own_Go p.tables e below (T212.setTop (mkF m 149 #[iv p0, iv p1, iv p2, iv p3, rv ob2, iv 2, rv ob22] [(.ref ob22)])) _
            obtain ⟨cq214, kq214, q214a, q214b, q214c⟩ := isOf hZ e212 p202_1
            obtain ⟨_, _, ⟨T214, Lx214, kx214, nx214⟩, -, X214, ⟨Lc214, hQ214, lx214, yx214, zx214⟩, st214⟩ := X212.virtualBack hx (y := (⟨TC, "column", "()I"⟩ : MethodName)) (z := (⟨TC, "column", "()I"⟩ : MethodName)) hown (mvT hZ (wd hw 134 rfl)) (mvT hZ (wd hw 135 rfl)) (notFace_of_selects (args := #[]) (mvT hZ (wd hw 137 rfl))) (mvT hZ (wd hw 137 rfl)) (mvT hZ (wd hw 136 rfl)) (by decide) (backOf (W := 0) (rmCol l Z a0 hw [] ob22 (3 : Int32) T202.heap n0 Z202 p202_4) hZ (wd hw 138 rfl) (wd hw 7 rfl) (by decide) (by decide)) q214a q214c (g := (mkF m 149 #[iv p0, iv p1, iv p2, iv p3, rv ob2, iv 2, rv ob22] [(.ref ob22)])) rfl (by rw [hml]; rfl) (Steps.refl _) (argsL := []) (rest := []) (lenOf pd_5 rfl) rfl (by show 2 * 0 + _ ≤ _; exact Nat.le_of_eq rfl) (hb hby at_149) (fun _ _ => ⟨rfl, e212, (by decide : 4 + 0 ≤ _), (by decide : 16 + 0 ≤ _)⟩)
            dsimp only [Pt.U, Pt.locs, Pt.cells, Pt.slots] at X214 lx214 yx214 zx214 st214 hQ214
            subst lx214 yx214 zx214
            obtain ⟨rfl, N214q, e214⟩ := hQ214
            have N214 := Fr.app N212 N214q
            refine own_lift (fun t k => st214.trans k) ?_
            show own_Go p.tables e below (T214.setTop (mkF m 152 #[iv p0, iv p1, iv p2, iv p3, rv ob2, iv 2, rv ob22] [(.int 3)])) _
            have sg215 : ∀ t, Steps p.tables e below (T214.setTop (mkF m 163 #[iv p0, iv p1, iv p2, iv p3, rv ob2, iv 2, rv ob22] [(.ref ob22)])) t → Steps p.tables e below (T214.setTop (mkF m 152 #[iv p0, iv p1, iv p2, iv p3, rv ob2, iv 2, rv ob22] [(.int 3)])) t := by
              intro t k
              refine XS.iload X214.here hx rfl (hb hby at_152) rfl ?_
              show Steps p.tables e below (T214.setTop (mkF m 154 #[iv p0, iv p1, iv p2, iv p3, rv ob2, iv 2, rv ob22] [(.int 2), (.int 3)])) _
              refine XS.iconst X214.here hx rfl (hb hby at_154) ?_
              refine XS.iadd X214.here hx rfl (hb hby at_155) rfl ?_
              refine XS.icmpYes X214.here hx rfl (pc0 := 156) (pc' := 161) rfl (hb hby at_156) rfl (teq (by decide : (3 : Int32) = (3 : Int32))).1 (by decide) (by decide) ?_
              show Steps p.tables e below (T214.setTop (mkF m 161 #[iv p0, iv p1, iv p2, iv p3, rv ob2, iv 2, rv ob22] [])) _
              refine XS.aload X214.here hx rfl (hb hby at_161) rfl rfl ?_
              show Steps p.tables e below (T214.setTop (mkF m 163 #[iv p0, iv p1, iv p2, iv p3, rv ob2, iv 2, rv ob22] [(.ref ob22)])) _
              exact k
            refine own_lift sg215 ?_
            show own_Go p.tables e below (T214.setTop (mkF m 163 #[iv p0, iv p1, iv p2, iv p3, rv ob2, iv 2, rv ob22] [(.ref ob22)])) _
            obtain ⟨cq216, kq216, q216a, q216b, q216c⟩ := isOf hZ e214 p202_1
            obtain ⟨_, _, ⟨T216, Lx216, kx216, nx216⟩, -, X216, ⟨Lc216, hQ216, lx216, yx216, zx216⟩, st216⟩ := X214.virtualBack hx (y := (⟨TC, "passLineEnd", "()V"⟩ : MethodName)) (z := (⟨TC, "passLineEnd", "()V"⟩ : MethodName)) hown (mvT hZ (wd hw 139 rfl)) (mvT hZ (wd hw 140 rfl)) (notFace_of_selects (args := #[]) (mvT hZ (wd hw 142 rfl))) (mvT hZ (wd hw 142 rfl)) (mvT hZ (wd hw 141 rfl)) (by decide) (backOf (W := 0) (rmPass l Z a0 hw [] ob22 ob25 (2 : Int32) (3 : Int32) (1 : Int32) T202.heap n0 Z202 p202_1 p202_2 p202_3 p202_4 p202_5 ge22) hZ (wd hw 143 rfl) (wd hw 7 rfl) (by decide) (by decide)) q216a q216c (g := (mkF m 163 #[iv p0, iv p1, iv p2, iv p3, rv ob2, iv 2, rv ob22] [(.ref ob22)])) rfl (by rw [hml]; rfl) (Steps.refl _) (argsL := []) (rest := []) (lenOf pd_15 rfl) rfl (by show 2 * 0 + _ ≤ _; exact Nat.le_of_eq rfl) (hb hby at_163) (fun _ _ => ⟨rfl, e214, (by decide : 4 + 0 ≤ _), (by decide : 16 + 0 ≤ _)⟩)
            dsimp only [Pt.U, Pt.locs, Pt.cells, Pt.slots] at X216 lx216 yx216 zx216 st216 hQ216
            subst lx216 yx216 zx216
            obtain ⟨rfl, N216q, p216_0, p216_1, p216_2, p216_3, p216_4, p216_5⟩ := hQ216
            have N216 := Fr.app N214 N216q
            have Z216 : n0 ≤ T216.heap.size := Nat.le_trans Z202 p216_0.1
            refine own_lift (fun t k => st216.trans k) ?_
            show own_Go p.tables e below (T216.setTop (mkF m 166 #[iv p0, iv p1, iv p2, iv p3, rv ob2, iv 2, rv ob22] [])) _
            have sg217 : ∀ t, Steps p.tables e below (T216.setTop (mkF m 175 #[iv p0, iv p1, iv p2, iv p3, rv ob2, iv 2, rv ob22] [(.int 3), (.ref ob2), (.int 2), (.ref ob22)])) t → Steps p.tables e below (T216.setTop (mkF m 166 #[iv p0, iv p1, iv p2, iv p3, rv ob2, iv 2, rv ob22] [])) t := by
              intro t k
              refine XS.aload X216.here hx rfl (hb hby at_166) rfl rfl ?_
              show Steps p.tables e below (T216.setTop (mkF m 168 #[iv p0, iv p1, iv p2, iv p3, rv ob2, iv 2, rv ob22] [(.ref ob22)])) _
              refine XS.iconst X216.here hx rfl (hb hby at_168) ?_
              refine XS.aload X216.here hx rfl (hb hby at_169) rfl rfl ?_
              refine XS.iload X216.here hx rfl (hb hby at_171) rfl ?_
              show Steps p.tables e below (T216.setTop (mkF m 173 #[iv p0, iv p1, iv p2, iv p3, rv ob2, iv 2, rv ob22] [(.int 2), (.ref ob2), (.int 2), (.ref ob22)])) _
              refine XS.iconst X216.here hx rfl (hb hby at_173) ?_
              refine XS.iadd X216.here hx rfl (hb hby at_174) rfl ?_
              show Steps p.tables e below (T216.setTop (mkF m 175 #[iv p0, iv p1, iv p2, iv p3, rv ob2, iv 2, rv ob22] [(.int 3), (.ref ob2), (.int 2), (.ref ob22)])) _
              exact k
            refine own_lift sg217 ?_
            show own_Go p.tables e below (T216.setTop (mkF m 175 #[iv p0, iv p1, iv p2, iv p3, rv ob2, iv 2, rv ob22] [(.int 3), (.ref ob2), (.int 2), (.ref ob22)])) _
            have Fc218 : Exa Z T216.heap ob25 STx := (Fc204.keep p216_0)
            have Fc219 : Fld Z T216.heap ob25 STx "value" "[B" (.ref tb32) := (Fc205.keep p216_0 (ninS (Ne.symm ne28) nin0))
            have Fc220 : Fld Z T216.heap ob25 STx "coder" "B" (.int 0) := (Fc206.keep p216_0 (ninS (Ne.symm ne28) nin0))
            have Fc221 : Arv Z T216.heap tb32 kb32 .byte (4 : Int32) [(.int (((own_ch p0)).toInt8.toInt32)), (.int (((own_ch p1)).toInt8.toInt32)), (.int (((own_ch p2)).toInt8.toInt32)), (.int (((own_ch p3)).toInt8.toInt32))] (.int 0) := (Fc207.keep p216_0 (ninS (Ne.symm ne35) nin0))
            have Fc222 : Sta Z T216.heap STx "COMPACT_STRINGS" "Z" (.int cs) := (own_Sta_keep Fc208 p216_0 (allS (own_plain p202_1) all0))
            have Fc223 : Sta Z T216.heap PCx "SIOOBE_FORMATTER" BFx fv := (own_Sta_keep Fc209 p216_0 (allS (own_plain p202_1) all0))
            have Fc224 : Arv Z T216.heap ob2 ka2 .char (4 : Int32) [(.int (own_ch p0)), (.int (own_ch p1)), (.int (own_ch p2)), (.int (own_ch p3))] (.int 0) := ((((Fc30.keep Kq32 (ninS ne27 nin0)).keep p42_0 (ninS ne23 nin0)).keep p202_0 (ninS ne23 nin0)).keep p216_0 (ninS ne23 nin0))
            obtain ⟨_, _, ⟨T225, Lx225, kx225, nx225⟩, -, X225, ⟨Lc225, hQ225, lx225, yx225, zx225⟩, st225⟩ := Jvm.LawKit.callS X216 hx (y := (⟨LW, "at", "(Lcom/example/libprocgraph/libprocgraph/reader/TextCursor;I[CI)Z"⟩ : MethodName)) hown (mvT hZ (wd hw 144 rfl)) (mvT hZ (wd hw 145 rfl)) (mvT hZ (wd hw 3 rfl)) (mvT hZ (wd hw 146 rfl)) (by decide) (backOf (W := 0) (rmAt23 l Z a0 hw [] ob22 ob2 ob25 tb32 kb32 (((own_ch p0)).toInt8.toInt32) (((own_ch p1)).toInt8.toInt32) (((own_ch p2)).toInt8.toInt32) (((own_ch p3)).toInt8.toInt32) cs fv ka2 (own_ch p0) (own_ch p1) (own_ch p2) (own_ch p3) T216.heap n0 Z216 p216_1 p216_2 p216_3 p216_4 p216_5 Fc218 Fc219 Fc220 Fc221 Fc222 Fc223 Fc224 P_cs P_fv (own_c8_ch p3)) hZ (wd hw 146 rfl) (wd hw 3 rfl) (by decide) (by decide)) (g := (mkF m 175 #[iv p0, iv p1, iv p2, iv p3, rv ob2, iv 2, rv ob22] [(.int 3), (.ref ob2), (.int 2), (.ref ob22)])) rfl (by rw [hml]; rfl) (argsL := [(.ref ob22), (.int 2), (.ref ob2), (.int 3)]) (rest := []) (lenOf pd_16 rfl) rfl (by show 2 * 0 + _ ≤ _; exact Nat.le_of_eq rfl) (hb hby at_175) (fun _ _ => ⟨rfl, rfl, (by decide : 4 + 0 ≤ _), (by decide : 16 + 0 ≤ _)⟩)
            dsimp only [Pt.U, Pt.locs, Pt.cells, Pt.slots] at X225 lx225 yx225 zx225 st225 hQ225
            subst lx225 yx225 zx225
            obtain ⟨rfl, N225q, e225⟩ := hQ225
            have N225 := Fr.app N216 N225q
            refine own_lift st225 ?_
            show own_Go p.tables e below (T225.setTop (mkF m 178 #[iv p0, iv p1, iv p2, iv p3, rv ob2, iv 2, rv ob22] [(.int 1)])) _
            have sg226 : ∀ t, Steps p.tables e below (T225.setTop (mkF m 197 #[iv p0, iv p1, iv p2, iv p3, rv ob2, iv 2, rv ob22] [(.int 3), (.ref ob2)])) t → Steps p.tables e below (T225.setTop (mkF m 178 #[iv p0, iv p1, iv p2, iv p3, rv ob2, iv 2, rv ob22] [(.int 1)])) t := by
              intro t k
              refine XS.ifYes X225.here hx rfl (pc0 := 178) (pc' := 183) rfl (hb hby at_178) rfl ((if0 _ _).trans (feq (by decide : ¬ ((1 : Int32) = (0 : Int32)))).2) (by decide) (by decide) ?_
              show Steps p.tables e below (T225.setTop (mkF m 183 #[iv p0, iv p1, iv p2, iv p3, rv ob2, iv 2, rv ob22] [])) _
              refine XS.iload X225.here hx rfl (hb hby at_183) rfl ?_
              refine XS.iconst X225.here hx rfl (hb hby at_185) ?_
              refine XS.iadd X225.here hx rfl (hb hby at_186) rfl ?_
              show Steps p.tables e below (T225.setTop (mkF m 187 #[iv p0, iv p1, iv p2, iv p3, rv ob2, iv 2, rv ob22] [(.int 3)])) _
              refine XS.iconst X225.here hx rfl (hb hby at_187) ?_
              refine XS.icmpNo X225.here hx rfl (hb hby at_188) rfl (tlt (by decide : (3 : Int32) < (4 : Int32))).2.1 ?_
              refine XS.aload X225.here hx rfl (hb hby at_191) rfl rfl ?_
              show Steps p.tables e below (T225.setTop (mkF m 193 #[iv p0, iv p1, iv p2, iv p3, rv ob2, iv 2, rv ob22] [(.ref ob2)])) _
              refine XS.iload X225.here hx rfl (hb hby at_193) rfl ?_
              refine XS.iconst X225.here hx rfl (hb hby at_195) ?_
              refine XS.iadd X225.here hx rfl (hb hby at_196) rfl ?_
              show Steps p.tables e below (T225.setTop (mkF m 197 #[iv p0, iv p1, iv p2, iv p3, rv ob2, iv 2, rv ob22] [(.int 3), (.ref ob2)])) _
              exact k
            refine own_lift sg226 ?_
            show own_Go p.tables e below (T225.setTop (mkF m 197 #[iv p0, iv p1, iv p2, iv p3, rv ob2, iv 2, rv ob22] [(.int 3), (.ref ob2)])) _
            obtain ⟨cl227, Ar227, qx227, Sx227, N227', H227', G227'⟩ := id (Fc224)
            have hin227 : ¬ ((3 : Int32) < 0 ∨ cl227.slots.size ≤ ((3 : Int32)).toNatClampNeg) := inb_of Sx227 ⟨(by decide : ¬ ((3 : Int32) < (0 : Int32))), (by decide : (3 : Int32) < (4 : Int32))⟩
            have hat227 : cl227.slots[((3 : Int32)).toNatClampNeg]? = some (.int (own_ch p3)) := Has.at H227' hin227 rfl
            have sg228 : ∀ t, Steps p.tables e below (T225.setTop (mkF m 205 #[iv p0, iv p1, iv p2, iv p3, rv ob2, iv 2, rv ob22] [(.ref ob22)])) t → Steps p.tables e below (T225.setTop (mkF m 197 #[iv p0, iv p1, iv p2, iv p3, rv ob2, iv 2, rv ob22] [(.int 3), (.ref ob2)])) t := by
              intro t k
              refine X225.caload hx (j := (3 : Int32)) (v := (.int (own_ch p3))) (by rw [e225]; exact Ar227.1) (State.isArrayOf_alike hZ.alike Ar227.2.1) Ar227.2.2 hin227 hat227 (g := (mkF m 197 #[iv p0, iv p1, iv p2, iv p3, rv ob2, iv 2, rv ob22] [(.int 3), (.ref ob2)])) rfl rfl (hb hby at_197) _ ?_
              show Steps p.tables e below (T225.setTop (mkF m 198 #[iv p0, iv p1, iv p2, iv p3, rv ob2, iv 2, rv ob22] [(.int (own_ch p3))])) _
              refine XS.bipush X225.here hx rfl (hb hby at_198) ?_
              refine XS.icmpNo X225.here hx rfl (hb hby at_200) rfl (teq d3).2 ?_
              refine XS.aload X225.here hx rfl (hb hby at_203) rfl rfl ?_
              show Steps p.tables e below (T225.setTop (mkF m 205 #[iv p0, iv p1, iv p2, iv p3, rv ob2, iv 2, rv ob22] [(.ref ob22)])) _
              exact k
            refine own_lift sg228 ?_
            show own_Go p.tables e below (T225.setTop (mkF m 205 #[iv p0, iv p1, iv p2, iv p3, rv ob2, iv 2, rv ob22] [(.ref ob22)])) _
            obtain ⟨cq229, kq229, q229a, q229b, q229c⟩ := isOf hZ e225 p216_1
            obtain ⟨_, _, ⟨T229, Lx229, kx229, nx229⟩, -, X229, ⟨Lc229, hQ229, lx229, yx229, zx229⟩, st229⟩ := X225.virtualBack hx (y := (⟨TC, "passLineEnd", "()V"⟩ : MethodName)) (z := (⟨TC, "passLineEnd", "()V"⟩ : MethodName)) hown (mvT hZ (wd hw 139 rfl)) (mvT hZ (wd hw 140 rfl)) (notFace_of_selects (args := #[]) (mvT hZ (wd hw 142 rfl))) (mvT hZ (wd hw 142 rfl)) (mvT hZ (wd hw 141 rfl)) (by decide) (backOf (W := 0) (rmPass l Z a0 hw [] ob22 ob25 (3 : Int32) (1 : Int32) (2 : Int32) T216.heap n0 Z216 p216_1 p216_2 p216_3 p216_4 p216_5 ge22) hZ (wd hw 143 rfl) (wd hw 7 rfl) (by decide) (by decide)) q229a q229c (g := (mkF m 205 #[iv p0, iv p1, iv p2, iv p3, rv ob2, iv 2, rv ob22] [(.ref ob22)])) rfl (by rw [hml]; rfl) (Steps.refl _) (argsL := []) (rest := []) (lenOf pd_15 rfl) rfl (by show 2 * 0 + _ ≤ _; exact Nat.le_of_eq rfl) (hb hby at_205) (fun _ _ => ⟨rfl, e225, (by decide : 4 + 0 ≤ _), (by decide : 16 + 0 ≤ _)⟩)
            dsimp only [Pt.U, Pt.locs, Pt.cells, Pt.slots] at X229 lx229 yx229 zx229 st229 hQ229
            subst lx229 yx229 zx229
            obtain ⟨rfl, N229q, p229_0, p229_1, p229_2, p229_3, p229_4, p229_5⟩ := hQ229
            have N229 := Fr.app N225 N229q
            have Z229 : n0 ≤ T229.heap.size := Nat.le_trans Z216 p229_0.1
            refine own_lift (fun t k => st229.trans k) ?_
            show own_Go p.tables e below (T229.setTop (mkF m 208 #[iv p0, iv p1, iv p2, iv p3, rv ob2, iv 2, rv ob22] [])) _
            have sg230 : ∀ t, Steps p.tables e below (T229.setTop (mkF m 217 #[iv p0, iv p1, iv p2, iv p3, rv ob2, iv 2, rv ob22] [(.int 4), (.ref ob2), (.int 3), (.ref ob22)])) t → Steps p.tables e below (T229.setTop (mkF m 208 #[iv p0, iv p1, iv p2, iv p3, rv ob2, iv 2, rv ob22] [])) t := by
              intro t k
              refine XS.aload X229.here hx rfl (hb hby at_208) rfl rfl ?_
              show Steps p.tables e below (T229.setTop (mkF m 210 #[iv p0, iv p1, iv p2, iv p3, rv ob2, iv 2, rv ob22] [(.ref ob22)])) _
              refine XS.iconst X229.here hx rfl (hb hby at_210) ?_
              refine XS.aload X229.here hx rfl (hb hby at_211) rfl rfl ?_
              refine XS.iload X229.here hx rfl (hb hby at_213) rfl ?_
              show Steps p.tables e below (T229.setTop (mkF m 215 #[iv p0, iv p1, iv p2, iv p3, rv ob2, iv 2, rv ob22] [(.int 2), (.ref ob2), (.int 3), (.ref ob22)])) _
              refine XS.iconst X229.here hx rfl (hb hby at_215) ?_
              refine XS.iadd X229.here hx rfl (hb hby at_216) rfl ?_
              show Steps p.tables e below (T229.setTop (mkF m 217 #[iv p0, iv p1, iv p2, iv p3, rv ob2, iv 2, rv ob22] [(.int 4), (.ref ob2), (.int 3), (.ref ob22)])) _
              exact k
            refine own_lift sg230 ?_
            show own_Go p.tables e below (T229.setTop (mkF m 217 #[iv p0, iv p1, iv p2, iv p3, rv ob2, iv 2, rv ob22] [(.int 4), (.ref ob2), (.int 3), (.ref ob22)])) _
            have Fc231 : Exa Z T229.heap ob25 STx := (Fc218.keep p229_0)
            have Fc232 : Fld Z T229.heap ob25 STx "value" "[B" (.ref tb32) := (Fc219.keep p229_0 (ninS (Ne.symm ne28) nin0))
            have Fc233 : Fld Z T229.heap ob25 STx "coder" "B" (.int 0) := (Fc220.keep p229_0 (ninS (Ne.symm ne28) nin0))
            have Fc234 : Arv Z T229.heap tb32 kb32 .byte (4 : Int32) [(.int (((own_ch p0)).toInt8.toInt32)), (.int (((own_ch p1)).toInt8.toInt32)), (.int (((own_ch p2)).toInt8.toInt32)), (.int (((own_ch p3)).toInt8.toInt32))] (.int 0) := (Fc221.keep p229_0 (ninS (Ne.symm ne35) nin0))
            have Fc235 : Sta Z T229.heap STx "COMPACT_STRINGS" "Z" (.int cs) := (own_Sta_keep Fc222 p229_0 (allS (own_plain p216_1) all0))
            have Fc236 : Sta Z T229.heap PCx "SIOOBE_FORMATTER" BFx fv := (own_Sta_keep Fc223 p229_0 (allS (own_plain p216_1) all0))
            have Fc237 : Arv Z T229.heap ob2 ka2 .char (4 : Int32) [(.int (own_ch p0)), (.int (own_ch p1)), (.int (own_ch p2)), (.int (own_ch p3))] (.int 0) := (Fc224.keep p229_0 (ninS ne23 nin0))
            obtain ⟨_, _, ⟨T238, Lx238, kx238, nx238⟩, -, X238, ⟨Lc238, hQ238, lx238, yx238, zx238⟩, st238⟩ := Jvm.LawKit.callS X229 hx (y := (⟨LW, "at", "(Lcom/example/libprocgraph/libprocgraph/reader/TextCursor;I[CI)Z"⟩ : MethodName)) hown (mvT hZ (wd hw 144 rfl)) (mvT hZ (wd hw 145 rfl)) (mvT hZ (wd hw 3 rfl)) (mvT hZ (wd hw 146 rfl)) (by decide) (backOf (W := 0) (rmAt34 l Z a0 hw [] ob22 ob2 ob25 tb32 kb32 (((own_ch p0)).toInt8.toInt32) (((own_ch p1)).toInt8.toInt32) (((own_ch p2)).toInt8.toInt32) (((own_ch p3)).toInt8.toInt32) cs fv ka2 (own_ch p0) (own_ch p1) (own_ch p2) (own_ch p3) T229.heap n0 Z229 p229_1 p229_2 p229_3 p229_4 p229_5 Fc231 Fc232 Fc233 Fc234 Fc235 Fc236 Fc237 P_cs P_fv) hZ (wd hw 146 rfl) (wd hw 3 rfl) (by decide) (by decide)) (g := (mkF m 217 #[iv p0, iv p1, iv p2, iv p3, rv ob2, iv 2, rv ob22] [(.int 4), (.ref ob2), (.int 3), (.ref ob22)])) rfl (by rw [hml]; rfl) (argsL := [(.ref ob22), (.int 3), (.ref ob2), (.int 4)]) (rest := []) (lenOf pd_16 rfl) rfl (by show 2 * 0 + _ ≤ _; exact Nat.le_of_eq rfl) (hb hby at_217) (fun _ _ => ⟨rfl, rfl, (by decide : 4 + 0 ≤ _), (by decide : 16 + 0 ≤ _)⟩)
            dsimp only [Pt.U, Pt.locs, Pt.cells, Pt.slots] at X238 lx238 yx238 zx238 st238 hQ238
            subst lx238 yx238 zx238
            obtain ⟨rfl, N238q, e238⟩ := hQ238
            have N238 := Fr.app N229 N238q
            refine own_lift st238 ?_
            show own_Go p.tables e below (T238.setTop (mkF m 220 #[iv p0, iv p1, iv p2, iv p3, rv ob2, iv 2, rv ob22] [(.int 1)])) _
            obtain ⟨fs, hr, hrun, hended, hW, hsame⟩ := X238.leave (v := some (.int 1)) (fun h => by rw [Bd.returns] at h; cases h)
            refine ⟨_, _, ?_, hrun, hended, _, _, rfl, ?_, ⟨_, rfl⟩, hW, hsame.mono (by decide) (by decide)⟩
            · exact retN X238 hx (t := .boolean) Bd.returns (by simp) (hb hby at_220) hr
            · show Q0 Z  h0 n0 _ T238.heap _
              rw [e238]
              exact ⟨rfl, N238⟩
          · have sg239 : ∀ t, Steps p.tables e below (T42.setTop (mkF m 108 #[iv p0, iv p1, iv p2, iv p3, rv ob2, iv 2, rv ob22] [(.ref ob22)])) t → Steps p.tables e below (T42.setTop (mkF m 106 #[iv p0, iv p1, iv p2, iv p3, rv ob2, iv 2, rv ob22] [])) t := by
              intro t k
              refine XS.aload X42.here hx rfl (hb hby at_106) rfl rfl ?_
              show Steps p.tables e below (T42.setTop (mkF m 108 #[iv p0, iv p1, iv p2, iv p3, rv ob2, iv 2, rv ob22] [(.ref ob22)])) _
              exact k
            refine own_lift sg239 ?_
            show own_Go p.tables e below (T42.setTop (mkF m 108 #[iv p0, iv p1, iv p2, iv p3, rv ob2, iv 2, rv ob22] [(.ref ob22)])) _
            have Fc240 : Exa Z T42.heap ob25 STx := (Eq32.keep p42_0)
            have Fc241 : Fld Z T42.heap ob25 STx "value" "[B" (.ref tb32) := (Vq32.keep p42_0 (ninS (Ne.symm ne28) nin0))
            have Fc242 : Fld Z T42.heap ob25 STx "coder" "B" (.int 0) := (Cq32.keep p42_0 (ninS (Ne.symm ne28) nin0))
            have Fc243 : Arv Z T42.heap tb32 kb32 .byte (4 : Int32) [(.int (((own_ch p0)).toInt8.toInt32)), (.int (((own_ch p1)).toInt8.toInt32)), (.int (((own_ch p2)).toInt8.toInt32)), (.int (((own_ch p3)).toInt8.toInt32))] (.int 0) := (Aq32.keep p42_0 (ninS (Ne.symm ne35) nin0))
            have Fc244 : Sta Z T42.heap STx "COMPACT_STRINGS" "Z" (.int cs) := (own_Sta_keep (own_Sta_keep Fc31 Kq32 (allS (own_plain Ax25) all0)) p42_0 (allS (own_plain Fc37) all0))
            obtain ⟨cq245, kq245, q245a, q245b, q245c⟩ := isOf hZ rfl p42_1
            obtain ⟨_, _, ⟨T245, Lx245, kx245, nx245⟩, -, X245, ⟨Lc245, hQ245, lx245, yx245, zx245⟩, st245⟩ := X42.virtualBack hx (y := (⟨TC, "skipRestOfLine", "()V"⟩ : MethodName)) (z := (⟨TC, "skipRestOfLine", "()V"⟩ : MethodName)) hown (mvT hZ (wd hw 47 rfl)) (mvT hZ (wd hw 48 rfl)) (notFace_of_selects (args := #[]) (mvT hZ (wd hw 50 rfl))) (mvT hZ (wd hw 50 rfl)) (mvT hZ (wd hw 49 rfl)) (by decide) (backOf (W := 0) (rmSkip2 l Z a0 hw [] ob22 ob25 tb32 kb32 (((own_ch p0)).toInt8.toInt32) (((own_ch p1)).toInt8.toInt32) (((own_ch p2)).toInt8.toInt32) (((own_ch p3)).toInt8.toInt32) cs T42.heap n0 Z42 p42_1 p42_2 p42_3 p42_4 p42_5 Fc240 Fc241 Fc242 Fc243 Fc244 (Ne.symm ne28) (Ne.symm ne35) ge22 P_cs (own_b10_n d0) (own_b10_n d1) (own_b10 d2)) hZ (wd hw 51 rfl) (wd hw 7 rfl) (by decide) (by decide)) q245a q245c (g := (mkF m 108 #[iv p0, iv p1, iv p2, iv p3, rv ob2, iv 2, rv ob22] [(.ref ob22)])) rfl (by rw [hml]; rfl) (Steps.refl _) (argsL := []) (rest := []) (lenOf pd_15 rfl) rfl (by show 2 * 0 + _ ≤ _; exact Nat.le_of_eq rfl) (hb hby at_108) (fun _ _ => ⟨rfl, rfl, (by decide : 4 + 0 ≤ _), (by decide : 16 + 0 ≤ _)⟩)
            dsimp only [Pt.U, Pt.locs, Pt.cells, Pt.slots] at X245 lx245 yx245 zx245 st245 hQ245
            subst lx245 yx245 zx245
            obtain ⟨rfl, N245q, p245_0, p245_1, p245_2, p245_3, p245_4, p245_5⟩ := hQ245
            have N245 := Fr.app N42 N245q
            have Z245 : n0 ≤ T245.heap.size := Nat.le_trans Z42 p245_0.1
            refine own_lift (fun t k => st245.trans k) ?_
            show own_Go p.tables e below (T245.setTop (mkF m 111 #[iv p0, iv p1, iv p2, iv p3, rv ob2, iv 2, rv ob22] [])) _
            have sg246 : ∀ t, Steps p.tables e below (T245.setTop (mkF m 132 #[iv p0, iv p1, iv p2, iv p3, rv ob2, iv 2, rv ob22] [(.ref ob22)])) t → Steps p.tables e below (T245.setTop (mkF m 111 #[iv p0, iv p1, iv p2, iv p3, rv ob2, iv 2, rv ob22] [])) t := by
              intro t k
              refine XS.iload X245.here hx rfl (hb hby at_111) rfl ?_
              show Steps p.tables e below (T245.setTop (mkF m 113 #[iv p0, iv p1, iv p2, iv p3, rv ob2, iv 2, rv ob22] [(.int 2)])) _
              refine XS.ifYes X245.here hx rfl (pc0 := 113) (pc' := 130) rfl (hb hby at_113) rfl ((if0 _ _).trans (flt (by decide : ¬ ((2 : Int32) < (0 : Int32)))).2.1) (by decide) (by decide) ?_
              refine XS.aload X245.here hx rfl (hb hby at_130) rfl rfl ?_
              show Steps p.tables e below (T245.setTop (mkF m 132 #[iv p0, iv p1, iv p2, iv p3, rv ob2, iv 2, rv ob22] [(.ref ob22)])) _
              exact k
            refine own_lift sg246 ?_
            show own_Go p.tables e below (T245.setTop (mkF m 132 #[iv p0, iv p1, iv p2, iv p3, rv ob2, iv 2, rv ob22] [(.ref ob22)])) _
            have Fc247 : Exa Z T245.heap ob25 STx := (Fc240.keep p245_0)
            have Fc248 : Fld Z T245.heap ob25 STx "value" "[B" (.ref tb32) := (Fc241.keep p245_0 (ninS (Ne.symm ne28) nin0))
            have Fc249 : Fld Z T245.heap ob25 STx "coder" "B" (.int 0) := (Fc242.keep p245_0 (ninS (Ne.symm ne28) nin0))
            have Fc250 : Arv Z T245.heap tb32 kb32 .byte (4 : Int32) [(.int (((own_ch p0)).toInt8.toInt32)), (.int (((own_ch p1)).toInt8.toInt32)), (.int (((own_ch p2)).toInt8.toInt32)), (.int (((own_ch p3)).toInt8.toInt32))] (.int 0) := (Fc243.keep p245_0 (ninS (Ne.symm ne35) nin0))
            have Fc251 : Sta Z T245.heap STx "COMPACT_STRINGS" "Z" (.int cs) := (own_Sta_keep Fc244 p245_0 (allS (own_plain p42_1) all0))
            have Fc252 : Sta Z T245.heap PCx "SIOOBE_FORMATTER" BFx fv := (own_Sta_keep (own_Sta_keep (own_Sta_keep (((((((Sfm.ext Ex2).wr W6).wr W10).wr W14).wr W18).ext Ex22).ext Ex25) Kq32 (allS (own_plain Ax25) all0)) p42_0 (allS (own_plain Fc37) all0)) p245_0 (allS (own_plain p42_1) all0))
            obtain ⟨cq253, kq253, q253a, q253b, q253c⟩ := isOf hZ rfl p245_1
            obtain ⟨_, _, ⟨T253, Lx253, kx253, nx253⟩, -, X253, ⟨Lc253, hQ253, lx253, yx253, zx253⟩, st253⟩ := X245.virtualBack hx (y := (⟨TC, "atLineEnd", "()Z"⟩ : MethodName)) (z := (⟨TC, "atLineEnd", "()Z"⟩ : MethodName)) hown (mvT hZ (wd hw 108 rfl)) (mvT hZ (wd hw 109 rfl)) (notFace_of_selects (args := #[]) (mvT hZ (wd hw 111 rfl))) (mvT hZ (wd hw 111 rfl)) (mvT hZ (wd hw 110 rfl)) (by decide) (backOf (W := 0) (rmAle2 l Z a0 hw [] ob22 ob25 tb32 kb32 (((own_ch p0)).toInt8.toInt32) (((own_ch p1)).toInt8.toInt32) (((own_ch p2)).toInt8.toInt32) (((own_ch p3)).toInt8.toInt32) cs fv T245.heap n0 Z245 p245_2 p245_3 Fc247 Fc248 Fc249 Fc250 Fc251 Fc252 P_cs P_fv ((own_c8_ch p2).trans d2)) hZ (wd hw 112 rfl) (wd hw 7 rfl) (by decide) (by decide)) q253a q253c (g := (mkF m 132 #[iv p0, iv p1, iv p2, iv p3, rv ob2, iv 2, rv ob22] [(.ref ob22)])) rfl (by rw [hml]; rfl) (Steps.refl _) (argsL := []) (rest := []) (lenOf pd_4 rfl) rfl (by show 2 * 0 + _ ≤ _; exact Nat.le_of_eq rfl) (hb hby at_132) (fun _ _ => ⟨rfl, rfl, (by decide : 4 + 0 ≤ _), (by decide : 16 + 0 ≤ _)⟩)
            dsimp only [Pt.U, Pt.locs, Pt.cells, Pt.slots] at X253 lx253 yx253 zx253 st253 hQ253
            subst lx253 yx253 zx253
            obtain ⟨rfl, N253q, e253⟩ := hQ253
            have N253 := Fr.app N245 N253q
            refine own_lift (fun t k => st253.trans k) ?_
            show own_Go p.tables e below (T253.setTop (mkF m 135 #[iv p0, iv p1, iv p2, iv p3, rv ob2, iv 2, rv ob22] [(.int 1)])) _
            have sg254 : ∀ t, Steps p.tables e below (T253.setTop (mkF m 140 #[iv p0, iv p1, iv p2, iv p3, rv ob2, iv 2, rv ob22] [(.ref ob22)])) t → Steps p.tables e below (T253.setTop (mkF m 135 #[iv p0, iv p1, iv p2, iv p3, rv ob2, iv 2, rv ob22] [(.int 1)])) t := by
              intro t k
              refine XS.ifNo X253.here hx rfl (hb hby at_135) rfl ((if0 _ _).trans (feq (by decide : ¬ ((1 : Int32) = (0 : Int32)))).1) ?_
              show Steps p.tables e below (T253.setTop (mkF m 138 #[iv p0, iv p1, iv p2, iv p3, rv ob2, iv 2, rv ob22] [])) _
              refine XS.aload X253.here hx rfl (hb hby at_138) rfl rfl ?_
              show Steps p.tables e below (T253.setTop (mkF m 140 #[iv p0, iv p1, iv p2, iv p3, rv ob2, iv 2, rv ob22] [(.ref ob22)])) _
              exact k
            refine own_lift sg254 ?_
            show own_Go p.tables e below (T253.setTop (mkF m 140 #[iv p0, iv p1, iv p2, iv p3, rv ob2, iv 2, rv ob22] [(.ref ob22)])) _
            obtain ⟨cq255, kq255, q255a, q255b, q255c⟩ := isOf hZ e253 p245_1
            obtain ⟨_, _, ⟨T255, Lx255, kx255, nx255⟩, -, X255, ⟨Lc255, hQ255, lx255, yx255, zx255⟩, st255⟩ := X253.virtualBack hx (y := (⟨TC, "line", "()I"⟩ : MethodName)) (z := (⟨TC, "line", "()I"⟩ : MethodName)) hown (mvT hZ (wd hw 129 rfl)) (mvT hZ (wd hw 130 rfl)) (notFace_of_selects (args := #[]) (mvT hZ (wd hw 132 rfl))) (mvT hZ (wd hw 132 rfl)) (mvT hZ (wd hw 131 rfl)) (by decide) (backOf (W := 0) (rmLine l Z a0 hw [] ob22 (1 : Int32) T245.heap n0 Z245 p245_5) hZ (wd hw 133 rfl) (wd hw 7 rfl) (by decide) (by decide)) q255a q255c (g := (mkF m 140 #[iv p0, iv p1, iv p2, iv p3, rv ob2, iv 2, rv ob22] [(.ref ob22)])) rfl (by rw [hml]; rfl) (Steps.refl _) (argsL := []) (rest := []) (lenOf pd_5 rfl) rfl (by show 2 * 0 + _ ≤ _; exact Nat.le_of_eq rfl) (hb hby at_140) (fun _ _ => ⟨rfl, e253, (by decide : 4 + 0 ≤ _), (by decide : 16 + 0 ≤ _)⟩)
            dsimp only [Pt.U, Pt.locs, Pt.cells, Pt.slots] at X255 lx255 yx255 zx255 st255 hQ255
            subst lx255 yx255 zx255
            obtain ⟨rfl, N255q, e255⟩ := hQ255
            have N255 := Fr.app N253 N255q
            refine own_lift (fun t k => st255.trans k) ?_
            show own_Go p.tables e below (T255.setTop (mkF m 143 #[iv p0, iv p1, iv p2, iv p3, rv ob2, iv 2, rv ob22] [(.int 1)])) _
            have sg256 : ∀ t, Steps p.tables e below (T255.setTop (mkF m 149 #[iv p0, iv p1, iv p2, iv p3, rv ob2, iv 2, rv ob22] [(.ref ob22)])) t → Steps p.tables e below (T255.setTop (mkF m 143 #[iv p0, iv p1, iv p2, iv p3, rv ob2, iv 2, rv ob22] [(.int 1)])) t := by
              intro t k
              refine XS.iconst X255.here hx rfl (hb hby at_143) ?_
              show Steps p.tables e below (T255.setTop (mkF m 144 #[iv p0, iv p1, iv p2, iv p3, rv ob2, iv 2, rv ob22] [(.int 1), (.int 1)])) _
              refine XS.icmpNo X255.here hx rfl (hb hby at_144) rfl (teq (by decide : (1 : Int32) = (1 : Int32))).2 ?_
              refine XS.aload X255.here hx rfl (hb hby at_147) rfl rfl ?_
              show Steps p.tables e below (T255.setTop (mkF m 149 #[iv p0, iv p1, iv p2, iv p3, rv ob2, iv 2, rv ob22] [(.ref ob22)])) _
              exact k
            refine own_lift sg256 ?_
            show own_Go p.tables e below (T255.setTop (mkF m 149 #[iv p0, iv p1, iv p2, iv p3, rv ob2, iv 2, rv ob22] [(.ref ob22)])) _
            obtain ⟨cq257, kq257, q257a, q257b, q257c⟩ := isOf hZ e255 p245_1
            obtain ⟨_, _, ⟨T257, Lx257, kx257, nx257⟩, -, X257, ⟨Lc257, hQ257, lx257, yx257, zx257⟩, st257⟩ := X255.virtualBack hx (y := (⟨TC, "column", "()I"⟩ : MethodName)) (z := (⟨TC, "column", "()I"⟩ : MethodName)) hown (mvT hZ (wd hw 134 rfl)) (mvT hZ (wd hw 135 rfl)) (notFace_of_selects (args := #[]) (mvT hZ (wd hw 137 rfl))) (mvT hZ (wd hw 137 rfl)) (mvT hZ (wd hw 136 rfl)) (by decide) (backOf (W := 0) (rmCol l Z a0 hw [] ob22 (3 : Int32) T245.heap n0 Z245 p245_4) hZ (wd hw 138 rfl) (wd hw 7 rfl) (by decide) (by decide)) q257a q257c (g := (mkF m 149 #[iv p0, iv p1, iv p2, iv p3, rv ob2, iv 2, rv ob22] [(.ref ob22)])) rfl (by rw [hml]; rfl) (Steps.refl _) (argsL := []) (rest := []) (lenOf pd_5 rfl) rfl (by show 2 * 0 + _ ≤ _; exact Nat.le_of_eq rfl) (hb hby at_149) (fun _ _ => ⟨rfl, e255, (by decide : 4 + 0 ≤ _), (by decide : 16 + 0 ≤ _)⟩)
            dsimp only [Pt.U, Pt.locs, Pt.cells, Pt.slots] at X257 lx257 yx257 zx257 st257 hQ257
            subst lx257 yx257 zx257
            obtain ⟨rfl, N257q, e257⟩ := hQ257
            have N257 := Fr.app N255 N257q
            refine own_lift (fun t k => st257.trans k) ?_
            show own_Go p.tables e below (T257.setTop (mkF m 152 #[iv p0, iv p1, iv p2, iv p3, rv ob2, iv 2, rv ob22] [(.int 3)])) _
            have sg258 : ∀ t, Steps p.tables e below (T257.setTop (mkF m 163 #[iv p0, iv p1, iv p2, iv p3, rv ob2, iv 2, rv ob22] [(.ref ob22)])) t → Steps p.tables e below (T257.setTop (mkF m 152 #[iv p0, iv p1, iv p2, iv p3, rv ob2, iv 2, rv ob22] [(.int 3)])) t := by
              intro t k
              refine XS.iload X257.here hx rfl (hb hby at_152) rfl ?_
              show Steps p.tables e below (T257.setTop (mkF m 154 #[iv p0, iv p1, iv p2, iv p3, rv ob2, iv 2, rv ob22] [(.int 2), (.int 3)])) _
              refine XS.iconst X257.here hx rfl (hb hby at_154) ?_
              refine XS.iadd X257.here hx rfl (hb hby at_155) rfl ?_
              refine XS.icmpYes X257.here hx rfl (pc0 := 156) (pc' := 161) rfl (hb hby at_156) rfl (teq (by decide : (3 : Int32) = (3 : Int32))).1 (by decide) (by decide) ?_
              show Steps p.tables e below (T257.setTop (mkF m 161 #[iv p0, iv p1, iv p2, iv p3, rv ob2, iv 2, rv ob22] [])) _
              refine XS.aload X257.here hx rfl (hb hby at_161) rfl rfl ?_
              show Steps p.tables e below (T257.setTop (mkF m 163 #[iv p0, iv p1, iv p2, iv p3, rv ob2, iv 2, rv ob22] [(.ref ob22)])) _
              exact k
            refine own_lift sg258 ?_
            show own_Go p.tables e below (T257.setTop (mkF m 163 #[iv p0, iv p1, iv p2, iv p3, rv ob2, iv 2, rv ob22] [(.ref ob22)])) _
            obtain ⟨cq259, kq259, q259a, q259b, q259c⟩ := isOf hZ e257 p245_1
            obtain ⟨_, _, ⟨T259, Lx259, kx259, nx259⟩, -, X259, ⟨Lc259, hQ259, lx259, yx259, zx259⟩, st259⟩ := X257.virtualBack hx (y := (⟨TC, "passLineEnd", "()V"⟩ : MethodName)) (z := (⟨TC, "passLineEnd", "()V"⟩ : MethodName)) hown (mvT hZ (wd hw 139 rfl)) (mvT hZ (wd hw 140 rfl)) (notFace_of_selects (args := #[]) (mvT hZ (wd hw 142 rfl))) (mvT hZ (wd hw 142 rfl)) (mvT hZ (wd hw 141 rfl)) (by decide) (backOf (W := 0) (rmPass l Z a0 hw [] ob22 ob25 (2 : Int32) (3 : Int32) (1 : Int32) T245.heap n0 Z245 p245_1 p245_2 p245_3 p245_4 p245_5 ge22) hZ (wd hw 143 rfl) (wd hw 7 rfl) (by decide) (by decide)) q259a q259c (g := (mkF m 163 #[iv p0, iv p1, iv p2, iv p3, rv ob2, iv 2, rv ob22] [(.ref ob22)])) rfl (by rw [hml]; rfl) (Steps.refl _) (argsL := []) (rest := []) (lenOf pd_15 rfl) rfl (by show 2 * 0 + _ ≤ _; exact Nat.le_of_eq rfl) (hb hby at_163) (fun _ _ => ⟨rfl, e257, (by decide : 4 + 0 ≤ _), (by decide : 16 + 0 ≤ _)⟩)
            dsimp only [Pt.U, Pt.locs, Pt.cells, Pt.slots] at X259 lx259 yx259 zx259 st259 hQ259
            subst lx259 yx259 zx259
            obtain ⟨rfl, N259q, p259_0, p259_1, p259_2, p259_3, p259_4, p259_5⟩ := hQ259
            have N259 := Fr.app N257 N259q
            have Z259 : n0 ≤ T259.heap.size := Nat.le_trans Z245 p259_0.1
            refine own_lift (fun t k => st259.trans k) ?_
            show own_Go p.tables e below (T259.setTop (mkF m 166 #[iv p0, iv p1, iv p2, iv p3, rv ob2, iv 2, rv ob22] [])) _
            have sg260 : ∀ t, Steps p.tables e below (T259.setTop (mkF m 175 #[iv p0, iv p1, iv p2, iv p3, rv ob2, iv 2, rv ob22] [(.int 3), (.ref ob2), (.int 2), (.ref ob22)])) t → Steps p.tables e below (T259.setTop (mkF m 166 #[iv p0, iv p1, iv p2, iv p3, rv ob2, iv 2, rv ob22] [])) t := by
              intro t k
              refine XS.aload X259.here hx rfl (hb hby at_166) rfl rfl ?_
              show Steps p.tables e below (T259.setTop (mkF m 168 #[iv p0, iv p1, iv p2, iv p3, rv ob2, iv 2, rv ob22] [(.ref ob22)])) _
              refine XS.iconst X259.here hx rfl (hb hby at_168) ?_
              refine XS.aload X259.here hx rfl (hb hby at_169) rfl rfl ?_
              refine XS.iload X259.here hx rfl (hb hby at_171) rfl ?_
              show Steps p.tables e below (T259.setTop (mkF m 173 #[iv p0, iv p1, iv p2, iv p3, rv ob2, iv 2, rv ob22] [(.int 2), (.ref ob2), (.int 2), (.ref ob22)])) _
              refine XS.iconst X259.here hx rfl (hb hby at_173) ?_
              refine XS.iadd X259.here hx rfl (hb hby at_174) rfl ?_
              show Steps p.tables e below (T259.setTop (mkF m 175 #[iv p0, iv p1, iv p2, iv p3, rv ob2, iv 2, rv ob22] [(.int 3), (.ref ob2), (.int 2), (.ref ob22)])) _
              exact k
            refine own_lift sg260 ?_
            show own_Go p.tables e below (T259.setTop (mkF m 175 #[iv p0, iv p1, iv p2, iv p3, rv ob2, iv 2, rv ob22] [(.int 3), (.ref ob2), (.int 2), (.ref ob22)])) _
            have Fc261 : Exa Z T259.heap ob25 STx := (Fc247.keep p259_0)
            have Fc262 : Fld Z T259.heap ob25 STx "value" "[B" (.ref tb32) := (Fc248.keep p259_0 (ninS (Ne.symm ne28) nin0))
            have Fc263 : Fld Z T259.heap ob25 STx "coder" "B" (.int 0) := (Fc249.keep p259_0 (ninS (Ne.symm ne28) nin0))
            have Fc264 : Arv Z T259.heap tb32 kb32 .byte (4 : Int32) [(.int (((own_ch p0)).toInt8.toInt32)), (.int (((own_ch p1)).toInt8.toInt32)), (.int (((own_ch p2)).toInt8.toInt32)), (.int (((own_ch p3)).toInt8.toInt32))] (.int 0) := (Fc250.keep p259_0 (ninS (Ne.symm ne35) nin0))
            have Fc265 : Sta Z T259.heap STx "COMPACT_STRINGS" "Z" (.int cs) := (own_Sta_keep Fc251 p259_0 (allS (own_plain p245_1) all0))
            have Fc266 : Sta Z T259.heap PCx "SIOOBE_FORMATTER" BFx fv := (own_Sta_keep Fc252 p259_0 (allS (own_plain p245_1) all0))
            have Fc267 : Arv Z T259.heap ob2 ka2 .char (4 : Int32) [(.int (own_ch p0)), (.int (own_ch p1)), (.int (own_ch p2)), (.int (own_ch p3))] (.int 0) := ((((Fc30.keep Kq32 (ninS ne27 nin0)).keep p42_0 (ninS ne23 nin0)).keep p245_0 (ninS ne23 nin0)).keep p259_0 (ninS ne23 nin0))
            obtain ⟨_, _, ⟨T268, Lx268, kx268, nx268⟩, -, X268, ⟨Lc268, hQ268, lx268, yx268, zx268⟩, st268⟩ := Jvm.LawKit.callS X259 hx (y := (⟨LW, "at", "(Lcom/example/libprocgraph/libprocgraph/reader/TextCursor;I[CI)Z"⟩ : MethodName)) hown (mvT hZ (wd hw 144 rfl)) (mvT hZ (wd hw 145 rfl)) (mvT hZ (wd hw 3 rfl)) (mvT hZ (wd hw 146 rfl)) (by decide) (backOf (W := 0) (rmAt23 l Z a0 hw [] ob22 ob2 ob25 tb32 kb32 (((own_ch p0)).toInt8.toInt32) (((own_ch p1)).toInt8.toInt32) (((own_ch p2)).toInt8.toInt32) (((own_ch p3)).toInt8.toInt32) cs fv ka2 (own_ch p0) (own_ch p1) (own_ch p2) (own_ch p3) T259.heap n0 Z259 p259_1 p259_2 p259_3 p259_4 p259_5 Fc261 Fc262 Fc263 Fc264 Fc265 Fc266 Fc267 P_cs P_fv (own_c8_ch p3)) hZ (wd hw 146 rfl) (wd hw 3 rfl) (by decide) (by decide)) (g := (mkF m 175 #[iv p0, iv p1, iv p2, iv p3, rv ob2, iv 2, rv ob22] [(.int 3), (.ref ob2), (.int 2), (.ref ob22)])) rfl (by rw [hml]; rfl) (argsL := [(.ref ob22), (.int 2), (.ref ob2), (.int 3)]) (rest := []) (lenOf pd_16 rfl) rfl (by show 2 * 0 + _ ≤ _; exact Nat.le_of_eq rfl) (hb hby at_175) (fun _ _ => ⟨rfl, rfl, (by decide : 4 + 0 ≤ _), (by decide : 16 + 0 ≤ _)⟩)
            dsimp only [Pt.U, Pt.locs, Pt.cells, Pt.slots] at X268 lx268 yx268 zx268 st268 hQ268
            subst lx268 yx268 zx268
            obtain ⟨rfl, N268q, e268⟩ := hQ268
            have N268 := Fr.app N259 N268q
            refine own_lift st268 ?_
            show own_Go p.tables e below (T268.setTop (mkF m 178 #[iv p0, iv p1, iv p2, iv p3, rv ob2, iv 2, rv ob22] [(.int 1)])) _
            have sg269 : ∀ t, Steps p.tables e below (T268.setTop (mkF m 197 #[iv p0, iv p1, iv p2, iv p3, rv ob2, iv 2, rv ob22] [(.int 3), (.ref ob2)])) t → Steps p.tables e below (T268.setTop (mkF m 178 #[iv p0, iv p1, iv p2, iv p3, rv ob2, iv 2, rv ob22] [(.int 1)])) t := by
              intro t k
              refine XS.ifYes X268.here hx rfl (pc0 := 178) (pc' := 183) rfl (hb hby at_178) rfl ((if0 _ _).trans (feq (by decide : ¬ ((1 : Int32) = (0 : Int32)))).2) (by decide) (by decide) ?_
              show Steps p.tables e below (T268.setTop (mkF m 183 #[iv p0, iv p1, iv p2, iv p3, rv ob2, iv 2, rv ob22] [])) _
              refine XS.iload X268.here hx rfl (hb hby at_183) rfl ?_
              refine XS.iconst X268.here hx rfl (hb hby at_185) ?_
              refine XS.iadd X268.here hx rfl (hb hby at_186) rfl ?_
              show Steps p.tables e below (T268.setTop (mkF m 187 #[iv p0, iv p1, iv p2, iv p3, rv ob2, iv 2, rv ob22] [(.int 3)])) _
              refine XS.iconst X268.here hx rfl (hb hby at_187) ?_
              refine XS.icmpNo X268.here hx rfl (hb hby at_188) rfl (tlt (by decide : (3 : Int32) < (4 : Int32))).2.1 ?_
              refine XS.aload X268.here hx rfl (hb hby at_191) rfl rfl ?_
              show Steps p.tables e below (T268.setTop (mkF m 193 #[iv p0, iv p1, iv p2, iv p3, rv ob2, iv 2, rv ob22] [(.ref ob2)])) _
              refine XS.iload X268.here hx rfl (hb hby at_193) rfl ?_
              refine XS.iconst X268.here hx rfl (hb hby at_195) ?_
              refine XS.iadd X268.here hx rfl (hb hby at_196) rfl ?_
              show Steps p.tables e below (T268.setTop (mkF m 197 #[iv p0, iv p1, iv p2, iv p3, rv ob2, iv 2, rv ob22] [(.int 3), (.ref ob2)])) _
              exact k
            refine own_lift sg269 ?_
            show own_Go p.tables e below (T268.setTop (mkF m 197 #[iv p0, iv p1, iv p2, iv p3, rv ob2, iv 2, rv ob22] [(.int 3), (.ref ob2)])) _
            obtain ⟨cl270, Ar270, qx270, Sx270, N270', H270', G270'⟩ := id (Fc267)
            have hin270 : ¬ ((3 : Int32) < 0 ∨ cl270.slots.size ≤ ((3 : Int32)).toNatClampNeg) := inb_of Sx270 ⟨(by decide : ¬ ((3 : Int32) < (0 : Int32))), (by decide : (3 : Int32) < (4 : Int32))⟩
            have hat270 : cl270.slots[((3 : Int32)).toNatClampNeg]? = some (.int (own_ch p3)) := Has.at H270' hin270 rfl
            have sg271 : ∀ t, Steps p.tables e below (T268.setTop (mkF m 222 #[iv p0, iv p1, iv p2, iv p3, rv ob2, iv 2, rv ob22] [(.int 1)])) t → Steps p.tables e below (T268.setTop (mkF m 197 #[iv p0, iv p1, iv p2, iv p3, rv ob2, iv 2, rv ob22] [(.int 3), (.ref ob2)])) t := by
              intro t k
              refine X268.caload hx (j := (3 : Int32)) (v := (.int (own_ch p3))) (by rw [e268]; exact Ar270.1) (State.isArrayOf_alike hZ.alike Ar270.2.1) Ar270.2.2 hin270 hat270 (g := (mkF m 197 #[iv p0, iv p1, iv p2, iv p3, rv ob2, iv 2, rv ob22] [(.int 3), (.ref ob2)])) rfl rfl (hb hby at_197) _ ?_
              show Steps p.tables e below (T268.setTop (mkF m 198 #[iv p0, iv p1, iv p2, iv p3, rv ob2, iv 2, rv ob22] [(.int (own_ch p3))])) _
              refine XS.bipush X268.here hx rfl (hb hby at_198) ?_
              refine XS.icmpYes X268.here hx rfl (pc0 := 200) (pc' := 221) rfl (hb hby at_200) rfl (feq d3).2 (by decide) (by decide) ?_
              refine XS.iconst X268.here hx rfl (hb hby at_221) ?_
              show Steps p.tables e below (T268.setTop (mkF m 222 #[iv p0, iv p1, iv p2, iv p3, rv ob2, iv 2, rv ob22] [(.int 1)])) _
              exact k
            refine own_lift sg271 ?_
            show own_Go p.tables e below (T268.setTop (mkF m 222 #[iv p0, iv p1, iv p2, iv p3, rv ob2, iv 2, rv ob22] [(.int 1)])) _
            obtain ⟨fs, hr, hrun, hended, hW, hsame⟩ := X268.leave (v := some (.int 1)) (fun h => by rw [Bd.returns] at h; cases h)
            refine ⟨_, _, ?_, hrun, hended, _, _, rfl, ?_, ⟨_, rfl⟩, hW, hsame.mono (by decide) (by decide)⟩
            · exact retN X268 hx (t := .boolean) Bd.returns (by simp) (hb hby at_222) hr
            · show Q0 Z  h0 n0 _ T268.heap _
              rw [e268]
              exact ⟨rfl, N268⟩
        · by_cases d3 : (own_ch p3) = (10 : Int32)
          · rw [show (own_p (own_ch p0) (own_ch p1) (own_ch p2) (own_ch p3)) = (3 : Int32) from (by rw [own_p, if_neg d0, if_neg d1, if_neg d2, if_pos d3])]
            show own_Go p.tables e below (T42.setTop (mkF m 106 #[iv p0, iv p1, iv p2, iv p3, rv ob2, iv 3, rv ob22] [])) _
            have sg272 : ∀ t, Steps p.tables e below (T42.setTop (mkF m 108 #[iv p0, iv p1, iv p2, iv p3, rv ob2, iv 3, rv ob22] [(.ref ob22)])) t → Steps p.tables e below (T42.setTop (mkF m 106 #[iv p0, iv p1, iv p2, iv p3, rv ob2, iv 3, rv ob22] [])) t := by
              intro t k
              refine XS.aload X42.here hx rfl (hb hby at_106) rfl rfl ?_
              show Steps p.tables e below (T42.setTop (mkF m 108 #[iv p0, iv p1, iv p2, iv p3, rv ob2, iv 3, rv ob22] [(.ref ob22)])) _
              exact k
            refine own_lift sg272 ?_
            show own_Go p.tables e below (T42.setTop (mkF m 108 #[iv p0, iv p1, iv p2, iv p3, rv ob2, iv 3, rv ob22] [(.ref ob22)])) _
            have Fc273 : Exa Z T42.heap ob25 STx := (Eq32.keep p42_0)
            have Fc274 : Fld Z T42.heap ob25 STx "value" "[B" (.ref tb32) := (Vq32.keep p42_0 (ninS (Ne.symm ne28) nin0))
            have Fc275 : Fld Z T42.heap ob25 STx "coder" "B" (.int 0) := (Cq32.keep p42_0 (ninS (Ne.symm ne28) nin0))
            have Fc276 : Arv Z T42.heap tb32 kb32 .byte (4 : Int32) [(.int (((own_ch p0)).toInt8.toInt32)), (.int (((own_ch p1)).toInt8.toInt32)), (.int (((own_ch p2)).toInt8.toInt32)), (.int (((own_ch p3)).toInt8.toInt32))] (.int 0) := (Aq32.keep p42_0 (ninS (Ne.symm ne35) nin0))
            have Fc277 : Sta Z T42.heap STx "COMPACT_STRINGS" "Z" (.int cs) := (own_Sta_keep (own_Sta_keep Fc31 Kq32 (allS (own_plain Ax25) all0)) p42_0 (allS (own_plain Fc37) all0))
            obtain ⟨cq278, kq278, q278a, q278b, q278c⟩ := isOf hZ rfl p42_1
            obtain ⟨_, _, ⟨T278, Lx278, kx278, nx278⟩, -, X278, ⟨Lc278, hQ278, lx278, yx278, zx278⟩, st278⟩ := X42.virtualBack hx (y := (⟨TC, "skipRestOfLine", "()V"⟩ : MethodName)) (z := (⟨TC, "skipRestOfLine", "()V"⟩ : MethodName)) hown (mvT hZ (wd hw 47 rfl)) (mvT hZ (wd hw 48 rfl)) (notFace_of_selects (args := #[]) (mvT hZ (wd hw 50 rfl))) (mvT hZ (wd hw 50 rfl)) (mvT hZ (wd hw 49 rfl)) (by decide) (backOf (W := 0) (rmSkip3 l Z a0 hw [] ob22 ob25 tb32 kb32 (((own_ch p0)).toInt8.toInt32) (((own_ch p1)).toInt8.toInt32) (((own_ch p2)).toInt8.toInt32) (((own_ch p3)).toInt8.toInt32) cs T42.heap n0 Z42 p42_1 p42_2 p42_3 p42_4 p42_5 Fc273 Fc274 Fc275 Fc276 Fc277 (Ne.symm ne28) (Ne.symm ne35) ge22 P_cs (own_b10_n d0) (own_b10_n d1) (own_b10_n d2) (own_b10 d3)) hZ (wd hw 51 rfl) (wd hw 7 rfl) (by decide) (by decide)) q278a q278c (g := (mkF m 108 #[iv p0, iv p1, iv p2, iv p3, rv ob2, iv 3, rv ob22] [(.ref ob22)])) rfl (by rw [hml]; rfl) (Steps.refl _) (argsL := []) (rest := []) (lenOf pd_15 rfl) rfl (by show 2 * 0 + _ ≤ _; exact Nat.le_of_eq rfl) (hb hby at_108) (fun _ _ => ⟨rfl, rfl, (by decide : 4 + 0 ≤ _), (by decide : 16 + 0 ≤ _)⟩)
            dsimp only [Pt.U, Pt.locs, Pt.cells, Pt.slots] at X278 lx278 yx278 zx278 st278 hQ278
            subst lx278 yx278 zx278
            obtain ⟨rfl, N278q, p278_0, p278_1, p278_2, p278_3, p278_4, p278_5⟩ := hQ278
            have N278 := Fr.app N42 N278q
            have Z278 : n0 ≤ T278.heap.size := Nat.le_trans Z42 p278_0.1
            refine own_lift (fun t k => st278.trans k) ?_
            show own_Go p.tables e below (T278.setTop (mkF m 111 #[iv p0, iv p1, iv p2, iv p3, rv ob2, iv 3, rv ob22] [])) _
            have sg279 : ∀ t, Steps p.tables e below (T278.setTop (mkF m 132 #[iv p0, iv p1, iv p2, iv p3, rv ob2, iv 3, rv ob22] [(.ref ob22)])) t → Steps p.tables e below (T278.setTop (mkF m 111 #[iv p0, iv p1, iv p2, iv p3, rv ob2, iv 3, rv ob22] [])) t := by
              intro t k
              refine XS.iload X278.here hx rfl (hb hby at_111) rfl ?_
              show Steps p.tables e below (T278.setTop (mkF m 113 #[iv p0, iv p1, iv p2, iv p3, rv ob2, iv 3, rv ob22] [(.int 3)])) _
              refine XS.ifYes X278.here hx rfl (pc0 := 113) (pc' := 130) rfl (hb hby at_113) rfl ((if0 _ _).trans (flt (by decide : ¬ ((3 : Int32) < (0 : Int32)))).2.1) (by decide) (by decide) ?_
              refine XS.aload X278.here hx rfl (hb hby at_130) rfl rfl ?_
              show Steps p.tables e below (T278.setTop (mkF m 132 #[iv p0, iv p1, iv p2, iv p3, rv ob2, iv 3, rv ob22] [(.ref ob22)])) _
              exact k
            refine own_lift sg279 ?_
            show own_Go p.tables e below (T278.setTop (mkF m 132 #[iv p0, iv p1, iv p2, iv p3, rv ob2, iv 3, rv ob22] [(.ref ob22)])) _
            have Fc280 : Exa Z T278.heap ob25 STx := (Fc273.keep p278_0)
            have Fc281 : Fld Z T278.heap ob25 STx "value" "[B" (.ref tb32) := (Fc274.keep p278_0 (ninS (Ne.symm ne28) nin0))
            have Fc282 : Fld Z T278.heap ob25 STx "coder" "B" (.int 0) := (Fc275.keep p278_0 (ninS (Ne.symm ne28) nin0))
            have Fc283 : Arv Z T278.heap tb32 kb32 .byte (4 : Int32) [(.int (((own_ch p0)).toInt8.toInt32)), (.int (((own_ch p1)).toInt8.toInt32)), (.int (((own_ch p2)).toInt8.toInt32)), (.int (((own_ch p3)).toInt8.toInt32))] (.int 0) := (Fc276.keep p278_0 (ninS (Ne.symm ne35) nin0))
            have Fc284 : Sta Z T278.heap STx "COMPACT_STRINGS" "Z" (.int cs) := (own_Sta_keep Fc277 p278_0 (allS (own_plain p42_1) all0))
            have Fc285 : Sta Z T278.heap PCx "SIOOBE_FORMATTER" BFx fv := (own_Sta_keep (own_Sta_keep (own_Sta_keep (((((((Sfm.ext Ex2).wr W6).wr W10).wr W14).wr W18).ext Ex22).ext Ex25) Kq32 (allS (own_plain Ax25) all0)) p42_0 (allS (own_plain Fc37) all0)) p278_0 (allS (own_plain p42_1) all0))
            obtain ⟨cq286, kq286, q286a, q286b, q286c⟩ := isOf hZ rfl p278_1
            obtain ⟨_, _, ⟨T286, Lx286, kx286, nx286⟩, -, X286, ⟨Lc286, hQ286, lx286, yx286, zx286⟩, st286⟩ := X278.virtualBack hx (y := (⟨TC, "atLineEnd", "()Z"⟩ : MethodName)) (z := (⟨TC, "atLineEnd", "()Z"⟩ : MethodName)) hown (mvT hZ (wd hw 108 rfl)) (mvT hZ (wd hw 109 rfl)) (notFace_of_selects (args := #[]) (mvT hZ (wd hw 111 rfl))) (mvT hZ (wd hw 111 rfl)) (mvT hZ (wd hw 110 rfl)) (by decide) (backOf (W := 0) (rmAle3 l Z a0 hw [] ob22 ob25 tb32 kb32 (((own_ch p0)).toInt8.toInt32) (((own_ch p1)).toInt8.toInt32) (((own_ch p2)).toInt8.toInt32) (((own_ch p3)).toInt8.toInt32) cs fv T278.heap n0 Z278 p278_2 p278_3 Fc280 Fc281 Fc282 Fc283 Fc284 Fc285 P_cs P_fv ((own_c8_ch p3).trans d3)) hZ (wd hw 112 rfl) (wd hw 7 rfl) (by decide) (by decide)) q286a q286c (g := (mkF m 132 #[iv p0, iv p1, iv p2, iv p3, rv ob2, iv 3, rv ob22] [(.ref ob22)])) rfl (by rw [hml]; rfl) (Steps.refl _) (argsL := []) (rest := []) (lenOf pd_4 rfl) rfl (by show 2 * 0 + _ ≤ _; exact Nat.le_of_eq rfl) (hb hby at_132) (fun _ _ => ⟨rfl, rfl, (by decide : 4 + 0 ≤ _), (by decide : 16 + 0 ≤ _)⟩)
            dsimp only [Pt.U, Pt.locs, Pt.cells, Pt.slots] at X286 lx286 yx286 zx286 st286 hQ286
            subst lx286 yx286 zx286
            obtain ⟨rfl, N286q, e286⟩ := hQ286
            have N286 := Fr.app N278 N286q
            refine own_lift (fun t k => st286.trans k) ?_
            show own_Go p.tables e below (T286.setTop (mkF m 135 #[iv p0, iv p1, iv p2, iv p3, rv ob2, iv 3, rv ob22] [(.int 1)])) _
            have sg287 : ∀ t, Steps p.tables e below (T286.setTop (mkF m 140 #[iv p0, iv p1, iv p2, iv p3, rv ob2, iv 3, rv ob22] [(.ref ob22)])) t → Steps p.tables e below (T286.setTop (mkF m 135 #[iv p0, iv p1, iv p2, iv p3, rv ob2, iv 3, rv ob22] [(.int 1)])) t := by
              intro t k
              refine XS.ifNo X286.here hx rfl (hb hby at_135) rfl ((if0 _ _).trans (feq (by decide : ¬ ((1 : Int32) = (0 : Int32)))).1) ?_
              show Steps p.tables e below (T286.setTop (mkF m 138 #[iv p0, iv p1, iv p2, iv p3, rv ob2, iv 3, rv ob22] [])) _
              refine XS.aload X286.here hx rfl (hb hby at_138) rfl rfl ?_
              show Steps p.tables e below (T286.setTop (mkF m 140 #[iv p0, iv p1, iv p2, iv p3, rv ob2, iv 3, rv ob22] [(.ref ob22)])) _
              exact k
            refine own_lift sg287 ?_
            show own_Go p.tables e below (T286.setTop (mkF m 140 #[iv p0, iv p1, iv p2, iv p3, rv ob2, iv 3, rv ob22] [(.ref ob22)])) _
            obtain ⟨cq288, kq288, q288a, q288b, q288c⟩ := isOf hZ e286 p278_1
            obtain ⟨_, _, ⟨T288, Lx288, kx288, nx288⟩, -, X288, ⟨Lc288, hQ288, lx288, yx288, zx288⟩, st288⟩ := X286.virtualBack hx (y := (⟨TC, "line", "()I"⟩ : MethodName)) (z := (⟨TC, "line", "()I"⟩ : MethodName)) hown (mvT hZ (wd hw 129 rfl)) (mvT hZ (wd hw 130 rfl)) (notFace_of_selects (args := #[]) (mvT hZ (wd hw 132 rfl))) (mvT hZ (wd hw 132 rfl)) (mvT hZ (wd hw 131 rfl)) (by decide) (backOf (W := 0) (rmLine l Z a0 hw [] ob22 (1 : Int32) T278.heap n0 Z278 p278_5) hZ (wd hw 133 rfl) (wd hw 7 rfl) (by decide) (by decide)) q288a q288c (g := (mkF m 140 #[iv p0, iv p1, iv p2, iv p3, rv ob2, iv 3, rv ob22] [(.ref ob22)])) rfl (by rw [hml]; rfl) (Steps.refl _) (argsL := []) (rest := []) (lenOf pd_5 rfl) rfl (by show 2 * 0 + _ ≤ _; exact Nat.le_of_eq rfl) (hb hby at_140) (fun _ _ => ⟨rfl, e286, (by decide : 4 + 0 ≤ _), (by decide : 16 + 0 ≤ _)⟩)
            dsimp only [Pt.U, Pt.locs, Pt.cells, Pt.slots] at X288 lx288 yx288 zx288 st288 hQ288
            subst lx288 yx288 zx288
            obtain ⟨rfl, N288q, e288⟩ := hQ288
            have N288 := Fr.app N286 N288q
            refine own_lift (fun t k => st288.trans k) ?_
            show own_Go p.tables e below (T288.setTop (mkF m 143 #[iv p0, iv p1, iv p2, iv p3, rv ob2, iv 3, rv ob22] [(.int 1)])) _
            have sg289 : ∀ t, Steps p.tables e below (T288.setTop (mkF m 149 #[iv p0, iv p1, iv p2, iv p3, rv ob2, iv 3, rv ob22] [(.ref ob22)])) t → Steps p.tables e below (T288.setTop (mkF m 143 #[iv p0, iv p1, iv p2, iv p3, rv ob2, iv 3, rv ob22] [(.int 1)])) t := by
              intro t k
              refine XS.iconst X288.here hx rfl (hb hby at_143) ?_
              show Steps p.tables e below (T288.setTop (mkF m 144 #[iv p0, iv p1, iv p2, iv p3, rv ob2, iv 3, rv ob22] [(.int 1), (.int 1)])) _
              refine XS.icmpNo X288.here hx rfl (hb hby at_144) rfl (teq (by decide : (1 : Int32) = (1 : Int32))).2 ?_
              refine XS.aload X288.here hx rfl (hb hby at_147) rfl rfl ?_
              show Steps p.tables e below (T288.setTop (mkF m 149 #[iv p0, iv p1, iv p2, iv p3, rv ob2, iv 3, rv ob22] [(.ref ob22)])) _
              exact k
            refine own_lift sg289 ?_
            show own_Go p.tables e below (T288.setTop (mkF m 149 #[iv p0, iv p1, iv p2, iv p3, rv ob2, iv 3, rv ob22] [(.ref ob22)])) _
            obtain ⟨cq290, kq290, q290a, q290b, q290c⟩ := isOf hZ e288 p278_1
            obtain ⟨_, _, ⟨T290, Lx290, kx290, nx290⟩, -, X290, ⟨Lc290, hQ290, lx290, yx290, zx290⟩, st290⟩ := X288.virtualBack hx (y := (⟨TC, "column", "()I"⟩ : MethodName)) (z := (⟨TC, "column", "()I"⟩ : MethodName)) hown (mvT hZ (wd hw 134 rfl)) (mvT hZ (wd hw 135 rfl)) (notFace_of_selects (args := #[]) (mvT hZ (wd hw 137 rfl))) (mvT hZ (wd hw 137 rfl)) (mvT hZ (wd hw 136 rfl)) (by decide) (backOf (W := 0) (rmCol l Z a0 hw [] ob22 (4 : Int32) T278.heap n0 Z278 p278_4) hZ (wd hw 138 rfl) (wd hw 7 rfl) (by decide) (by decide)) q290a q290c (g := (mkF m 149 #[iv p0, iv p1, iv p2, iv p3, rv ob2, iv 3, rv ob22] [(.ref ob22)])) rfl (by rw [hml]; rfl) (Steps.refl _) (argsL := []) (rest := []) (lenOf pd_5 rfl) rfl (by show 2 * 0 + _ ≤ _; exact Nat.le_of_eq rfl) (hb hby at_149) (fun _ _ => ⟨rfl, e288, (by decide : 4 + 0 ≤ _), (by decide : 16 + 0 ≤ _)⟩)
            dsimp only [Pt.U, Pt.locs, Pt.cells, Pt.slots] at X290 lx290 yx290 zx290 st290 hQ290
            subst lx290 yx290 zx290
            obtain ⟨rfl, N290q, e290⟩ := hQ290
            have N290 := Fr.app N288 N290q
            refine own_lift (fun t k => st290.trans k) ?_
            show own_Go p.tables e below (T290.setTop (mkF m 152 #[iv p0, iv p1, iv p2, iv p3, rv ob2, iv 3, rv ob22] [(.int 4)])) _
            have sg291 : ∀ t, Steps p.tables e below (T290.setTop (mkF m 163 #[iv p0, iv p1, iv p2, iv p3, rv ob2, iv 3, rv ob22] [(.ref ob22)])) t → Steps p.tables e below (T290.setTop (mkF m 152 #[iv p0, iv p1, iv p2, iv p3, rv ob2, iv 3, rv ob22] [(.int 4)])) t := by
              intro t k
              refine XS.iload X290.here hx rfl (hb hby at_152) rfl ?_
              show Steps p.tables e below (T290.setTop (mkF m 154 #[iv p0, iv p1, iv p2, iv p3, rv ob2, iv 3, rv ob22] [(.int 3), (.int 4)])) _
              refine XS.iconst X290.here hx rfl (hb hby at_154) ?_
              refine XS.iadd X290.here hx rfl (hb hby at_155) rfl ?_
              refine XS.icmpYes X290.here hx rfl (pc0 := 156) (pc' := 161) rfl (hb hby at_156) rfl (teq (by decide : (4 : Int32) = (4 : Int32))).1 (by decide) (by decide) ?_
              show Steps p.tables e below (T290.setTop (mkF m 161 #[iv p0, iv p1, iv p2, iv p3, rv ob2, iv 3, rv ob22] [])) _
              refine XS.aload X290.here hx rfl (hb hby at_161) rfl rfl ?_
              show Steps p.tables e below (T290.setTop (mkF m 163 #[iv p0, iv p1, iv p2, iv p3, rv ob2, iv 3, rv ob22] [(.ref ob22)])) _
              exact k
            refine own_lift sg291 ?_
            show own_Go p.tables e below (T290.setTop (mkF m 163 #[iv p0, iv p1, iv p2, iv p3, rv ob2, iv 3, rv ob22] [(.ref ob22)])) _
            obtain ⟨cq292, kq292, q292a, q292b, q292c⟩ := isOf hZ e290 p278_1
            obtain ⟨_, _, ⟨T292, Lx292, kx292, nx292⟩, -, X292, ⟨Lc292, hQ292, lx292, yx292, zx292⟩, st292⟩ := X290.virtualBack hx (y := (⟨TC, "passLineEnd", "()V"⟩ : MethodName)) (z := (⟨TC, "passLineEnd", "()V"⟩ : MethodName)) hown (mvT hZ (wd hw 139 rfl)) (mvT hZ (wd hw 140 rfl)) (notFace_of_selects (args := #[]) (mvT hZ (wd hw 142 rfl))) (mvT hZ (wd hw 142 rfl)) (mvT hZ (wd hw 141 rfl)) (by decide) (backOf (W := 0) (rmPass l Z a0 hw [] ob22 ob25 (3 : Int32) (4 : Int32) (1 : Int32) T278.heap n0 Z278 p278_1 p278_2 p278_3 p278_4 p278_5 ge22) hZ (wd hw 143 rfl) (wd hw 7 rfl) (by decide) (by decide)) q292a q292c (g := (mkF m 163 #[iv p0, iv p1, iv p2, iv p3, rv ob2, iv 3, rv ob22] [(.ref ob22)])) rfl (by rw [hml]; rfl) (Steps.refl _) (argsL := []) (rest := []) (lenOf pd_15 rfl) rfl (by show 2 * 0 + _ ≤ _; exact Nat.le_of_eq rfl) (hb hby at_163) (fun _ _ => ⟨rfl, e290, (by decide : 4 + 0 ≤ _), (by decide : 16 + 0 ≤ _)⟩)
            dsimp only [Pt.U, Pt.locs, Pt.cells, Pt.slots] at X292 lx292 yx292 zx292 st292 hQ292
            subst lx292 yx292 zx292
            obtain ⟨rfl, N292q, p292_0, p292_1, p292_2, p292_3, p292_4, p292_5⟩ := hQ292
            have N292 := Fr.app N290 N292q
            have Z292 : n0 ≤ T292.heap.size := Nat.le_trans Z278 p292_0.1
            refine own_lift (fun t k => st292.trans k) ?_
            show own_Go p.tables e below (T292.setTop (mkF m 166 #[iv p0, iv p1, iv p2, iv p3, rv ob2, iv 3, rv ob22] [])) _
            have sg293 : ∀ t, Steps p.tables e below (T292.setTop (mkF m 175 #[iv p0, iv p1, iv p2, iv p3, rv ob2, iv 3, rv ob22] [(.int 4), (.ref ob2), (.int 2), (.ref ob22)])) t → Steps p.tables e below (T292.setTop (mkF m 166 #[iv p0, iv p1, iv p2, iv p3, rv ob2, iv 3, rv ob22] [])) t := by
              intro t k
              refine XS.aload X292.here hx rfl (hb hby at_166) rfl rfl ?_
              show Steps p.tables e below (T292.setTop (mkF m 168 #[iv p0, iv p1, iv p2, iv p3, rv ob2, iv 3, rv ob22] [(.ref ob22)])) _
              refine XS.iconst X292.here hx rfl (hb hby at_168) ?_
              refine XS.aload X292.here hx rfl (hb hby at_169) rfl rfl ?_
              refine XS.iload X292.here hx rfl (hb hby at_171) rfl ?_
              show Steps p.tables e below (T292.setTop (mkF m 173 #[iv p0, iv p1, iv p2, iv p3, rv ob2, iv 3, rv ob22] [(.int 3), (.ref ob2), (.int 2), (.ref ob22)])) _
              refine XS.iconst X292.here hx rfl (hb hby at_173) ?_
              refine XS.iadd X292.here hx rfl (hb hby at_174) rfl ?_
              show Steps p.tables e below (T292.setTop (mkF m 175 #[iv p0, iv p1, iv p2, iv p3, rv ob2, iv 3, rv ob22] [(.int 4), (.ref ob2), (.int 2), (.ref ob22)])) _
              exact k
            refine own_lift sg293 ?_
            show own_Go p.tables e below (T292.setTop (mkF m 175 #[iv p0, iv p1, iv p2, iv p3, rv ob2, iv 3, rv ob22] [(.int 4), (.ref ob2), (.int 2), (.ref ob22)])) _
            have Fc294 : Exa Z T292.heap ob25 STx := (Fc280.keep p292_0)
            have Fc295 : Fld Z T292.heap ob25 STx "value" "[B" (.ref tb32) := (Fc281.keep p292_0 (ninS (Ne.symm ne28) nin0))
            have Fc296 : Fld Z T292.heap ob25 STx "coder" "B" (.int 0) := (Fc282.keep p292_0 (ninS (Ne.symm ne28) nin0))
            have Fc297 : Arv Z T292.heap tb32 kb32 .byte (4 : Int32) [(.int (((own_ch p0)).toInt8.toInt32)), (.int (((own_ch p1)).toInt8.toInt32)), (.int (((own_ch p2)).toInt8.toInt32)), (.int (((own_ch p3)).toInt8.toInt32))] (.int 0) := (Fc283.keep p292_0 (ninS (Ne.symm ne35) nin0))
            have Fc298 : Sta Z T292.heap STx "COMPACT_STRINGS" "Z" (.int cs) := (own_Sta_keep Fc284 p292_0 (allS (own_plain p278_1) all0))
            have Fc299 : Sta Z T292.heap PCx "SIOOBE_FORMATTER" BFx fv := (own_Sta_keep Fc285 p292_0 (allS (own_plain p278_1) all0))
            have Fc300 : Arv Z T292.heap ob2 ka2 .char (4 : Int32) [(.int (own_ch p0)), (.int (own_ch p1)), (.int (own_ch p2)), (.int (own_ch p3))] (.int 0) := ((((Fc30.keep Kq32 (ninS ne27 nin0)).keep p42_0 (ninS ne23 nin0)).keep p278_0 (ninS ne23 nin0)).keep p292_0 (ninS ne23 nin0))
            obtain ⟨_, _, ⟨T301, Lx301, kx301, nx301⟩, -, X301, ⟨Lc301, hQ301, lx301, yx301, zx301⟩, st301⟩ := Jvm.LawKit.callS X292 hx (y := (⟨LW, "at", "(Lcom/example/libprocgraph/libprocgraph/reader/TextCursor;I[CI)Z"⟩ : MethodName)) hown (mvT hZ (wd hw 144 rfl)) (mvT hZ (wd hw 145 rfl)) (mvT hZ (wd hw 3 rfl)) (mvT hZ (wd hw 146 rfl)) (by decide) (backOf (W := 0) (rmAt24 l Z a0 hw [] ob22 ob2 ob25 tb32 kb32 (((own_ch p0)).toInt8.toInt32) (((own_ch p1)).toInt8.toInt32) (((own_ch p2)).toInt8.toInt32) (((own_ch p3)).toInt8.toInt32) cs fv ka2 (own_ch p0) (own_ch p1) (own_ch p2) (own_ch p3) T292.heap n0 Z292 p292_1 p292_2 p292_3 p292_4 p292_5 Fc294 Fc295 Fc296 Fc297 Fc298 Fc299 Fc300 P_cs P_fv) hZ (wd hw 146 rfl) (wd hw 3 rfl) (by decide) (by decide)) (g := (mkF m 175 #[iv p0, iv p1, iv p2, iv p3, rv ob2, iv 3, rv ob22] [(.int 4), (.ref ob2), (.int 2), (.ref ob22)])) rfl (by rw [hml]; rfl) (argsL := [(.ref ob22), (.int 2), (.ref ob2), (.int 4)]) (rest := []) (lenOf pd_16 rfl) rfl (by show 2 * 0 + _ ≤ _; exact Nat.le_of_eq rfl) (hb hby at_175) (fun _ _ => ⟨rfl, rfl, (by decide : 4 + 0 ≤ _), (by decide : 16 + 0 ≤ _)⟩)
            dsimp only [Pt.U, Pt.locs, Pt.cells, Pt.slots] at X301 lx301 yx301 zx301 st301 hQ301
            subst lx301 yx301 zx301
            obtain ⟨rfl, N301q, e301⟩ := hQ301
            have N301 := Fr.app N292 N301q
            refine own_lift st301 ?_
            show own_Go p.tables e below (T301.setTop (mkF m 178 #[iv p0, iv p1, iv p2, iv p3, rv ob2, iv 3, rv ob22] [(.int 1)])) _
            have sg302 : ∀ t, Steps p.tables e below (T301.setTop (mkF m 222 #[iv p0, iv p1, iv p2, iv p3, rv ob2, iv 3, rv ob22] [(.int 1)])) t → Steps p.tables e below (T301.setTop (mkF m 178 #[iv p0, iv p1, iv p2, iv p3, rv ob2, iv 3, rv ob22] [(.int 1)])) t := by
              intro t k
              refine XS.ifYes X301.here hx rfl (pc0 := 178) (pc' := 183) rfl (hb hby at_178) rfl ((if0 _ _).trans (feq (by decide : ¬ ((1 : Int32) = (0 : Int32)))).2) (by decide) (by decide) ?_
              show Steps p.tables e below (T301.setTop (mkF m 183 #[iv p0, iv p1, iv p2, iv p3, rv ob2, iv 3, rv ob22] [])) _
              refine XS.iload X301.here hx rfl (hb hby at_183) rfl ?_
              refine XS.iconst X301.here hx rfl (hb hby at_185) ?_
              refine XS.iadd X301.here hx rfl (hb hby at_186) rfl ?_
              show Steps p.tables e below (T301.setTop (mkF m 187 #[iv p0, iv p1, iv p2, iv p3, rv ob2, iv 3, rv ob22] [(.int 4)])) _
              refine XS.iconst X301.here hx rfl (hb hby at_187) ?_
              refine XS.icmpYes X301.here hx rfl (pc0 := 188) (pc' := 221) rfl (hb hby at_188) rfl (flt (by decide : ¬ ((4 : Int32) < (4 : Int32)))).2.1 (by decide) (by decide) ?_
              refine XS.iconst X301.here hx rfl (hb hby at_221) ?_
              show Steps p.tables e below (T301.setTop (mkF m 222 #[iv p0, iv p1, iv p2, iv p3, rv ob2, iv 3, rv ob22] [(.int 1)])) _
              exact k
            refine own_lift sg302 ?_
            show own_Go p.tables e below (T301.setTop (mkF m 222 #[iv p0, iv p1, iv p2, iv p3, rv ob2, iv 3, rv ob22] [(.int 1)])) _
            obtain ⟨fs, hr, hrun, hended, hW, hsame⟩ := X301.leave (v := some (.int 1)) (fun h => by rw [Bd.returns] at h; cases h)
            refine ⟨_, _, ?_, hrun, hended, _, _, rfl, ?_, ⟨_, rfl⟩, hW, hsame.mono (by decide) (by decide)⟩
            · exact retN X301 hx (t := .boolean) Bd.returns (by simp) (hb hby at_222) hr
            · show Q0 Z  h0 n0 _ T301.heap _
              rw [e301]
              exact ⟨rfl, N301⟩
          · rw [show (own_p (own_ch p0) (own_ch p1) (own_ch p2) (own_ch p3)) = (-1 : Int32) from (by rw [own_p, if_neg d0, if_neg d1, if_neg d2, if_neg d3])]
            show own_Go p.tables e below (T42.setTop (mkF m 106 #[iv p0, iv p1, iv p2, iv p3, rv ob2, iv (-1), rv ob22] [])) _
            have sg303 : ∀ t, Steps p.tables e below (T42.setTop (mkF m 108 #[iv p0, iv p1, iv p2, iv p3, rv ob2, iv (-1), rv ob22] [(.ref ob22)])) t → Steps p.tables e below (T42.setTop (mkF m 106 #[iv p0, iv p1, iv p2, iv p3, rv ob2, iv (-1), rv ob22] [])) t := by
              intro t k
              refine XS.aload X42.here hx rfl (hb hby at_106) rfl rfl ?_
              show Steps p.tables e below (T42.setTop (mkF m 108 #[iv p0, iv p1, iv p2, iv p3, rv ob2, iv (-1), rv ob22] [(.ref ob22)])) _
              exact k
            refine own_lift sg303 ?_
            show own_Go p.tables e below (T42.setTop (mkF m 108 #[iv p0, iv p1, iv p2, iv p3, rv ob2, iv (-1), rv ob22] [(.ref ob22)])) _
            have Fc304 : Exa Z T42.heap ob25 STx := (Eq32.keep p42_0)
            have Fc305 : Fld Z T42.heap ob25 STx "value" "[B" (.ref tb32) := (Vq32.keep p42_0 (ninS (Ne.symm ne28) nin0))
            have Fc306 : Fld Z T42.heap ob25 STx "coder" "B" (.int 0) := (Cq32.keep p42_0 (ninS (Ne.symm ne28) nin0))
            have Fc307 : Arv Z T42.heap tb32 kb32 .byte (4 : Int32) [(.int (((own_ch p0)).toInt8.toInt32)), (.int (((own_ch p1)).toInt8.toInt32)), (.int (((own_ch p2)).toInt8.toInt32)), (.int (((own_ch p3)).toInt8.toInt32))] (.int 0) := (Aq32.keep p42_0 (ninS (Ne.symm ne35) nin0))
            have Fc308 : Sta Z T42.heap STx "COMPACT_STRINGS" "Z" (.int cs) := (own_Sta_keep (own_Sta_keep Fc31 Kq32 (allS (own_plain Ax25) all0)) p42_0 (allS (own_plain Fc37) all0))
            obtain ⟨cq309, kq309, q309a, q309b, q309c⟩ := isOf hZ rfl p42_1
            obtain ⟨_, _, ⟨T309, Lx309, kx309, nx309⟩, -, X309, ⟨Lc309, hQ309, lx309, yx309, zx309⟩, st309⟩ := X42.virtualBack hx (y := (⟨TC, "skipRestOfLine", "()V"⟩ : MethodName)) (z := (⟨TC, "skipRestOfLine", "()V"⟩ : MethodName)) hown (mvT hZ (wd hw 47 rfl)) (mvT hZ (wd hw 48 rfl)) (notFace_of_selects (args := #[]) (mvT hZ (wd hw 50 rfl))) (mvT hZ (wd hw 50 rfl)) (mvT hZ (wd hw 49 rfl)) (by decide) (backOf (W := 0) (rmSkipn l Z a0 hw [] ob22 ob25 tb32 kb32 (((own_ch p0)).toInt8.toInt32) (((own_ch p1)).toInt8.toInt32) (((own_ch p2)).toInt8.toInt32) (((own_ch p3)).toInt8.toInt32) cs T42.heap n0 Z42 p42_1 p42_2 p42_3 p42_4 p42_5 Fc304 Fc305 Fc306 Fc307 Fc308 (Ne.symm ne28) (Ne.symm ne35) ge22 P_cs (own_b10_n d0) (own_b10_n d1) (own_b10_n d2) (own_b10_n d3)) hZ (wd hw 51 rfl) (wd hw 7 rfl) (by decide) (by decide)) q309a q309c (g := (mkF m 108 #[iv p0, iv p1, iv p2, iv p3, rv ob2, iv (-1), rv ob22] [(.ref ob22)])) rfl (by rw [hml]; rfl) (Steps.refl _) (argsL := []) (rest := []) (lenOf pd_15 rfl) rfl (by show 2 * 0 + _ ≤ _; exact Nat.le_of_eq rfl) (hb hby at_108) (fun _ _ => ⟨rfl, rfl, (by decide : 4 + 0 ≤ _), (by decide : 16 + 0 ≤ _)⟩)
            dsimp only [Pt.U, Pt.locs, Pt.cells, Pt.slots] at X309 lx309 yx309 zx309 st309 hQ309
            subst lx309 yx309 zx309
            obtain ⟨rfl, N309q, p309_0, p309_1, p309_2, p309_3, p309_4, p309_5⟩ := hQ309
            have N309 := Fr.app N42 N309q
            have Z309 : n0 ≤ T309.heap.size := Nat.le_trans Z42 p309_0.1
            refine own_lift (fun t k => st309.trans k) ?_
            show own_Go p.tables e below (T309.setTop (mkF m 111 #[iv p0, iv p1, iv p2, iv p3, rv ob2, iv (-1), rv ob22] [])) _
            have sg310 : ∀ t, Steps p.tables e below (T309.setTop (mkF m 118 #[iv p0, iv p1, iv p2, iv p3, rv ob2, iv (-1), rv ob22] [(.ref ob22)])) t → Steps p.tables e below (T309.setTop (mkF m 111 #[iv p0, iv p1, iv p2, iv p3, rv ob2, iv (-1), rv ob22] [])) t := by
              intro t k
              refine XS.iload X309.here hx rfl (hb hby at_111) rfl ?_
              show Steps p.tables e below (T309.setTop (mkF m 113 #[iv p0, iv p1, iv p2, iv p3, rv ob2, iv (-1), rv ob22] [(.int (-1))])) _
              refine XS.ifNo X309.here hx rfl (hb hby at_113) rfl ((if0 _ _).trans (tlt (by decide : (-1 : Int32) < (0 : Int32))).2.1) ?_
              refine XS.aload X309.here hx rfl (hb hby at_116) rfl rfl ?_
              show Steps p.tables e below (T309.setTop (mkF m 118 #[iv p0, iv p1, iv p2, iv p3, rv ob2, iv (-1), rv ob22] [(.ref ob22)])) _
              exact k
            refine own_lift sg310 ?_
            show own_Go p.tables e below (T309.setTop (mkF m 118 #[iv p0, iv p1, iv p2, iv p3, rv ob2, iv (-1), rv ob22] [(.ref ob22)])) _
            have Fc311 : Exa Z T309.heap ob25 STx := (Fc304.keep p309_0)
            have Fc312 : Fld Z T309.heap ob25 STx "value" "[B" (.ref tb32) := (Fc305.keep p309_0 (ninS (Ne.symm ne28) nin0))
            have Fc313 : Fld Z T309.heap ob25 STx "coder" "B" (.int 0) := (Fc306.keep p309_0 (ninS (Ne.symm ne28) nin0))
            have Fc314 : Arv Z T309.heap tb32 kb32 .byte (4 : Int32) [(.int (((own_ch p0)).toInt8.toInt32)), (.int (((own_ch p1)).toInt8.toInt32)), (.int (((own_ch p2)).toInt8.toInt32)), (.int (((own_ch p3)).toInt8.toInt32))] (.int 0) := (Fc307.keep p309_0 (ninS (Ne.symm ne35) nin0))
            have Fc315 : Sta Z T309.heap STx "COMPACT_STRINGS" "Z" (.int cs) := (own_Sta_keep Fc308 p309_0 (allS (own_plain p42_1) all0))
            obtain ⟨cq316, kq316, q316a, q316b, q316c⟩ := isOf hZ rfl p309_1
            obtain ⟨_, _, ⟨T316, Lx316, kx316, nx316⟩, -, X316, ⟨Lc316, hQ316, lx316, yx316, zx316⟩, st316⟩ := X309.virtualBack hx (y := (⟨TC, "atLineEnd", "()Z"⟩ : MethodName)) (z := (⟨TC, "atLineEnd", "()Z"⟩ : MethodName)) hown (mvT hZ (wd hw 108 rfl)) (mvT hZ (wd hw 109 rfl)) (notFace_of_selects (args := #[]) (mvT hZ (wd hw 111 rfl))) (mvT hZ (wd hw 111 rfl)) (mvT hZ (wd hw 110 rfl)) (by decide) (backOf (W := 0) (rmAle4 l Z a0 hw [] ob22 ob25 tb32 kb32 (((own_ch p0)).toInt8.toInt32) (((own_ch p1)).toInt8.toInt32) (((own_ch p2)).toInt8.toInt32) (((own_ch p3)).toInt8.toInt32) cs T309.heap n0 Z309 p309_2 p309_3 Fc311 Fc312 Fc313 Fc314 Fc315 P_cs) hZ (wd hw 112 rfl) (wd hw 7 rfl) (by decide) (by decide)) q316a q316c (g := (mkF m 118 #[iv p0, iv p1, iv p2, iv p3, rv ob2, iv (-1), rv ob22] [(.ref ob22)])) rfl (by rw [hml]; rfl) (Steps.refl _) (argsL := []) (rest := []) (lenOf pd_4 rfl) rfl (by show 2 * 0 + _ ≤ _; exact Nat.le_of_eq rfl) (hb hby at_118) (fun _ _ => ⟨rfl, rfl, (by decide : 4 + 0 ≤ _), (by decide : 16 + 0 ≤ _)⟩)
            dsimp only [Pt.U, Pt.locs, Pt.cells, Pt.slots] at X316 lx316 yx316 zx316 st316 hQ316
            subst lx316 yx316 zx316
            obtain ⟨rfl, N316q, e316⟩ := hQ316
            have N316 := Fr.app N309 N316q
            refine own_lift (fun t k => st316.trans k) ?_
            show own_Go p.tables e below (T316.setTop (mkF m 121 #[iv p0, iv p1, iv p2, iv p3, rv ob2, iv (-1), rv ob22] [(.int 0)])) _
            have sg317 : ∀ t, Steps p.tables e below (T316.setTop (mkF m 129 #[iv p0, iv p1, iv p2, iv p3, rv ob2, iv (-1), rv ob22] [(.int 1)])) t → Steps p.tables e below (T316.setTop (mkF m 121 #[iv p0, iv p1, iv p2, iv p3, rv ob2, iv (-1), rv ob22] [(.int 0)])) t := by
              intro t k
              refine XS.ifNo X316.here hx rfl (hb hby at_121) rfl ((if0 _ _).trans (teq (by decide : (0 : Int32) = (0 : Int32))).2) ?_
              show Steps p.tables e below (T316.setTop (mkF m 124 #[iv p0, iv p1, iv p2, iv p3, rv ob2, iv (-1), rv ob22] [])) _
              refine XS.iconst X316.here hx rfl (hb hby at_124) ?_
              refine XS.goto X316.here hx rfl (pc0 := 125) (pc' := 129) rfl (hb hby at_125) (by decide) (by decide) ?_
              show Steps p.tables e below (T316.setTop (mkF m 129 #[iv p0, iv p1, iv p2, iv p3, rv ob2, iv (-1), rv ob22] [(.int 1)])) _
              exact k
            refine own_lift sg317 ?_
            show own_Go p.tables e below (T316.setTop (mkF m 129 #[iv p0, iv p1, iv p2, iv p3, rv ob2, iv (-1), rv ob22] [(.int 1)])) _
            obtain ⟨fs, hr, hrun, hended, hW, hsame⟩ := X316.leave (v := some (.int 1)) (fun h => by rw [Bd.returns] at h; cases h)
            refine ⟨_, _, ?_, hrun, hended, _, _, rfl, ?_, ⟨_, rfl⟩, hW, hsame.mono (by decide) (by decide)⟩
            · exact retN X316 hx (t := .boolean) Bd.returns (by simp) (hb hby at_129) hr
            · show Q0 Z  h0 n0 _ T316.heap _
              rw [e316]
              exact ⟨rfl, N316⟩
  rcases own_five (own_ch p0) (own_ch p1) (own_ch p2) (own_ch p3) with d0 | ⟨d0, d1⟩ | ⟨d0, d1, d2⟩ | ⟨d0, d1, d2, d3⟩ | ⟨d0, d1, d2, d3⟩
  · have sg318 : ∀ t, Steps p.tables e below (T18.setTop (mkF m 36 #[iv p0, iv p1, iv p2, iv p3, rv ob2, .unset, .unset] [(.int 0), (.ref ob2)])) t → Steps p.tables e below (T18.setTop (mkF m 33 #[iv p0, iv p1, iv p2, iv p3, rv ob2, .unset, .unset] [])) t := by
      intro t k
      refine XS.aload X18.here hx rfl (hb hby at_33) rfl rfl ?_
      show Steps p.tables e below (T18.setTop (mkF m 35 #[iv p0, iv p1, iv p2, iv p3, rv ob2, .unset, .unset] [(.ref ob2)])) _
      refine XS.iconst X18.here hx rfl (hb hby at_35) ?_
      show Steps p.tables e below (T18.setTop (mkF m 36 #[iv p0, iv p1, iv p2, iv p3, rv ob2, .unset, .unset] [(.int 0), (.ref ob2)])) _
      exact k
    refine own_lift sg318 ?_
    show own_Go p.tables e below (T18.setTop (mkF m 36 #[iv p0, iv p1, iv p2, iv p3, rv ob2, .unset, .unset] [(.int 0), (.ref ob2)])) _
    obtain ⟨cl319, Ar319, qx319, Sx319, N319', H319', G319'⟩ := id (Vn18)
    have hin319 : ¬ ((0 : Int32) < 0 ∨ cl319.slots.size ≤ ((0 : Int32)).toNatClampNeg) := inb_of Sx319 ⟨(by decide : ¬ ((0 : Int32) < (0 : Int32))), (by decide : (0 : Int32) < (4 : Int32))⟩
    have hat319 : cl319.slots[((0 : Int32)).toNatClampNeg]? = some (.int (own_ch p0)) := Has.at H319' hin319 rfl
    have sg320 : ∀ t, Steps p.tables e below (T18.setTop (mkF m 86 #[iv p0, iv p1, iv p2, iv p3, rv ob2, .unset, .unset] [(.int 0)])) t → Steps p.tables e below (T18.setTop (mkF m 36 #[iv p0, iv p1, iv p2, iv p3, rv ob2, .unset, .unset] [(.int 0), (.ref ob2)])) t := by
      intro t k
      refine X18.caload hx (j := (0 : Int32)) (v := (.int (own_ch p0))) (by rw [e18]; exact Ar319.1) (State.isArrayOf_alike hZ.alike Ar319.2.1) Ar319.2.2 hin319 hat319 (g := (mkF m 36 #[iv p0, iv p1, iv p2, iv p3, rv ob2, .unset, .unset] [(.int 0), (.ref ob2)])) rfl rfl (hb hby at_36) _ ?_
      show Steps p.tables e below (T18.setTop (mkF m 37 #[iv p0, iv p1, iv p2, iv p3, rv ob2, .unset, .unset] [(.int (own_ch p0))])) _
      refine XS.bipush X18.here hx rfl (hb hby at_37) ?_
      refine XS.icmpNo X18.here hx rfl (hb hby at_39) rfl (teq d0).2 ?_
      refine XS.iconst X18.here hx rfl (hb hby at_42) ?_
      show Steps p.tables e below (T18.setTop (mkF m 43 #[iv p0, iv p1, iv p2, iv p3, rv ob2, .unset, .unset] [(.int 0)])) _
      refine XS.goto X18.here hx rfl (pc0 := 43) (pc' := 86) rfl (hb hby at_43) (by decide) (by decide) ?_
      show Steps p.tables e below (T18.setTop (mkF m 86 #[iv p0, iv p1, iv p2, iv p3, rv ob2, .unset, .unset] [(.int 0)])) _
      exact k
    refine own_lift sg320 ?_
    show own_Go p.tables e below (T18.setTop (mkF m 86 #[iv p0, iv p1, iv p2, iv p3, rv ob2, .unset, .unset] [(.int 0)])) _
    rw [show (own_p (own_ch p0) (own_ch p1) (own_ch p2) (own_ch p3)) = (0 : Int32) from (by rw [own_p, if_pos d0])] at join20
    exact join20 _ _ X18 e18 N18
  · have sg321 : ∀ t, Steps p.tables e below (T18.setTop (mkF m 36 #[iv p0, iv p1, iv p2, iv p3, rv ob2, .unset, .unset] [(.int 0), (.ref ob2)])) t → Steps p.tables e below (T18.setTop (mkF m 33 #[iv p0, iv p1, iv p2, iv p3, rv ob2, .unset, .unset] [])) t := by
      intro t k
      refine XS.aload X18.here hx rfl (hb hby at_33) rfl rfl ?_
      show Steps p.tables e below (T18.setTop (mkF m 35 #[iv p0, iv p1, iv p2, iv p3, rv ob2, .unset, .unset] [(.ref ob2)])) _
      refine XS.iconst X18.here hx rfl (hb hby at_35) ?_
      show Steps p.tables e below (T18.setTop (mkF m 36 #[iv p0, iv p1, iv p2, iv p3, rv ob2, .unset, .unset] [(.int 0), (.ref ob2)])) _
      exact k
    refine own_lift sg321 ?_
    show own_Go p.tables e below (T18.setTop (mkF m 36 #[iv p0, iv p1, iv p2, iv p3, rv ob2, .unset, .unset] [(.int 0), (.ref ob2)])) _
    obtain ⟨cl322, Ar322, qx322, Sx322, N322', H322', G322'⟩ := id (Vn18)
    have hin322 : ¬ ((0 : Int32) < 0 ∨ cl322.slots.size ≤ ((0 : Int32)).toNatClampNeg) := inb_of Sx322 ⟨(by decide : ¬ ((0 : Int32) < (0 : Int32))), (by decide : (0 : Int32) < (4 : Int32))⟩
    have hat322 : cl322.slots[((0 : Int32)).toNatClampNeg]? = some (.int (own_ch p0)) := Has.at H322' hin322 rfl
    have sg323 : ∀ t, Steps p.tables e below (T18.setTop (mkF m 49 #[iv p0, iv p1, iv p2, iv p3, rv ob2, .unset, .unset] [(.int 1), (.ref ob2)])) t → Steps p.tables e below (T18.setTop (mkF m 36 #[iv p0, iv p1, iv p2, iv p3, rv ob2, .unset, .unset] [(.int 0), (.ref ob2)])) t := by
      intro t k
      refine X18.caload hx (j := (0 : Int32)) (v := (.int (own_ch p0))) (by rw [e18]; exact Ar322.1) (State.isArrayOf_alike hZ.alike Ar322.2.1) Ar322.2.2 hin322 hat322 (g := (mkF m 36 #[iv p0, iv p1, iv p2, iv p3, rv ob2, .unset, .unset] [(.int 0), (.ref ob2)])) rfl rfl (hb hby at_36) _ ?_
      show Steps p.tables e below (T18.setTop (mkF m 37 #[iv p0, iv p1, iv p2, iv p3, rv ob2, .unset, .unset] [(.int (own_ch p0))])) _
      refine XS.bipush X18.here hx rfl (hb hby at_37) ?_
      refine XS.icmpYes X18.here hx rfl (pc0 := 39) (pc' := 46) rfl (hb hby at_39) rfl (feq d0).2 (by decide) (by decide) ?_
      refine XS.aload X18.here hx rfl (hb hby at_46) rfl rfl ?_
      show Steps p.tables e below (T18.setTop (mkF m 48 #[iv p0, iv p1, iv p2, iv p3, rv ob2, .unset, .unset] [(.ref ob2)])) _
      refine XS.iconst X18.here hx rfl (hb hby at_48) ?_
      show Steps p.tables e below (T18.setTop (mkF m 49 #[iv p0, iv p1, iv p2, iv p3, rv ob2, .unset, .unset] [(.int 1), (.ref ob2)])) _
      exact k
    refine own_lift sg323 ?_
    show own_Go p.tables e below (T18.setTop (mkF m 49 #[iv p0, iv p1, iv p2, iv p3, rv ob2, .unset, .unset] [(.int 1), (.ref ob2)])) _
    obtain ⟨cl324, Ar324, qx324, Sx324, N324', H324', G324'⟩ := id (Vn18)
    have hin324 : ¬ ((1 : Int32) < 0 ∨ cl324.slots.size ≤ ((1 : Int32)).toNatClampNeg) := inb_of Sx324 ⟨(by decide : ¬ ((1 : Int32) < (0 : Int32))), (by decide : (1 : Int32) < (4 : Int32))⟩
    have hat324 : cl324.slots[((1 : Int32)).toNatClampNeg]? = some (.int (own_ch p1)) := Has.at H324' hin324 rfl
    have sg325 : ∀ t, Steps p.tables e below (T18.setTop (mkF m 86 #[iv p0, iv p1, iv p2, iv p3, rv ob2, .unset, .unset] [(.int 1)])) t → Steps p.tables e below (T18.setTop (mkF m 49 #[iv p0, iv p1, iv p2, iv p3, rv ob2, .unset, .unset] [(.int 1), (.ref ob2)])) t := by
      intro t k
      refine X18.caload hx (j := (1 : Int32)) (v := (.int (own_ch p1))) (by rw [e18]; exact Ar324.1) (State.isArrayOf_alike hZ.alike Ar324.2.1) Ar324.2.2 hin324 hat324 (g := (mkF m 49 #[iv p0, iv p1, iv p2, iv p3, rv ob2, .unset, .unset] [(.int 1), (.ref ob2)])) rfl rfl (hb hby at_49) _ ?_
      show Steps p.tables e below (T18.setTop (mkF m 50 #[iv p0, iv p1, iv p2, iv p3, rv ob2, .unset, .unset] [(.int (own_ch p1))])) _
      refine XS.bipush X18.here hx rfl (hb hby at_50) ?_
      refine XS.icmpNo X18.here hx rfl (hb hby at_52) rfl (teq d1).2 ?_
      refine XS.iconst X18.here hx rfl (hb hby at_55) ?_
      show Steps p.tables e below (T18.setTop (mkF m 56 #[iv p0, iv p1, iv p2, iv p3, rv ob2, .unset, .unset] [(.int 1)])) _
      refine XS.goto X18.here hx rfl (pc0 := 56) (pc' := 86) rfl (hb hby at_56) (by decide) (by decide) ?_
      show Steps p.tables e below (T18.setTop (mkF m 86 #[iv p0, iv p1, iv p2, iv p3, rv ob2, .unset, .unset] [(.int 1)])) _
      exact k
    refine own_lift sg325 ?_
    show own_Go p.tables e below (T18.setTop (mkF m 86 #[iv p0, iv p1, iv p2, iv p3, rv ob2, .unset, .unset] [(.int 1)])) _
    rw [show (own_p (own_ch p0) (own_ch p1) (own_ch p2) (own_ch p3)) = (1 : Int32) from (by rw [own_p, if_neg d0, if_pos d1])] at join20
    exact join20 _ _ X18 e18 N18
  · have sg326 : ∀ t, Steps p.tables e below (T18.setTop (mkF m 36 #[iv p0, iv p1, iv p2, iv p3, rv ob2, .unset, .unset] [(.int 0), (.ref ob2)])) t → Steps p.tables e below (T18.setTop (mkF m 33 #[iv p0, iv p1, iv p2, iv p3, rv ob2, .unset, .unset] [])) t := by
      intro t k
      refine XS.aload X18.here hx rfl (hb hby at_33) rfl rfl ?_
      show Steps p.tables e below (T18.setTop (mkF m 35 #[iv p0, iv p1, iv p2, iv p3, rv ob2, .unset, .unset] [(.ref ob2)])) _
      refine XS.iconst X18.here hx rfl (hb hby at_35) ?_
      show Steps p.tables e below (T18.setTop (mkF m 36 #[iv p0, iv p1, iv p2, iv p3, rv ob2, .unset, .unset] [(.int 0), (.ref ob2)])) _
      exact k
    refine own_lift sg326 ?_
    show own_Go p.tables e below (T18.setTop (mkF m 36 #[iv p0, iv p1, iv p2, iv p3, rv ob2, .unset, .unset] [(.int 0), (.ref ob2)])) _
    obtain ⟨cl327, Ar327, qx327, Sx327, N327', H327', G327'⟩ := id (Vn18)
    have hin327 : ¬ ((0 : Int32) < 0 ∨ cl327.slots.size ≤ ((0 : Int32)).toNatClampNeg) := inb_of Sx327 ⟨(by decide : ¬ ((0 : Int32) < (0 : Int32))), (by decide : (0 : Int32) < (4 : Int32))⟩
    have hat327 : cl327.slots[((0 : Int32)).toNatClampNeg]? = some (.int (own_ch p0)) := Has.at H327' hin327 rfl
    have sg328 : ∀ t, Steps p.tables e below (T18.setTop (mkF m 49 #[iv p0, iv p1, iv p2, iv p3, rv ob2, .unset, .unset] [(.int 1), (.ref ob2)])) t → Steps p.tables e below (T18.setTop (mkF m 36 #[iv p0, iv p1, iv p2, iv p3, rv ob2, .unset, .unset] [(.int 0), (.ref ob2)])) t := by
      intro t k
      refine X18.caload hx (j := (0 : Int32)) (v := (.int (own_ch p0))) (by rw [e18]; exact Ar327.1) (State.isArrayOf_alike hZ.alike Ar327.2.1) Ar327.2.2 hin327 hat327 (g := (mkF m 36 #[iv p0, iv p1, iv p2, iv p3, rv ob2, .unset, .unset] [(.int 0), (.ref ob2)])) rfl rfl (hb hby at_36) _ ?_
      show Steps p.tables e below (T18.setTop (mkF m 37 #[iv p0, iv p1, iv p2, iv p3, rv ob2, .unset, .unset] [(.int (own_ch p0))])) _
      refine XS.bipush X18.here hx rfl (hb hby at_37) ?_
      refine XS.icmpYes X18.here hx rfl (pc0 := 39) (pc' := 46) rfl (hb hby at_39) rfl (feq d0).2 (by decide) (by decide) ?_
      refine XS.aload X18.here hx rfl (hb hby at_46) rfl rfl ?_
      show Steps p.tables e below (T18.setTop (mkF m 48 #[iv p0, iv p1, iv p2, iv p3, rv ob2, .unset, .unset] [(.ref ob2)])) _
      refine XS.iconst X18.here hx rfl (hb hby at_48) ?_
      show Steps p.tables e below (T18.setTop (mkF m 49 #[iv p0, iv p1, iv p2, iv p3, rv ob2, .unset, .unset] [(.int 1), (.ref ob2)])) _
      exact k
    refine own_lift sg328 ?_
    show own_Go p.tables e below (T18.setTop (mkF m 49 #[iv p0, iv p1, iv p2, iv p3, rv ob2, .unset, .unset] [(.int 1), (.ref ob2)])) _
    obtain ⟨cl329, Ar329, qx329, Sx329, N329', H329', G329'⟩ := id (Vn18)
    have hin329 : ¬ ((1 : Int32) < 0 ∨ cl329.slots.size ≤ ((1 : Int32)).toNatClampNeg) := inb_of Sx329 ⟨(by decide : ¬ ((1 : Int32) < (0 : Int32))), (by decide : (1 : Int32) < (4 : Int32))⟩
    have hat329 : cl329.slots[((1 : Int32)).toNatClampNeg]? = some (.int (own_ch p1)) := Has.at H329' hin329 rfl
    have sg330 : ∀ t, Steps p.tables e below (T18.setTop (mkF m 62 #[iv p0, iv p1, iv p2, iv p3, rv ob2, .unset, .unset] [(.int 2), (.ref ob2)])) t → Steps p.tables e below (T18.setTop (mkF m 49 #[iv p0, iv p1, iv p2, iv p3, rv ob2, .unset, .unset] [(.int 1), (.ref ob2)])) t := by
      intro t k
      refine X18.caload hx (j := (1 : Int32)) (v := (.int (own_ch p1))) (by rw [e18]; exact Ar329.1) (State.isArrayOf_alike hZ.alike Ar329.2.1) Ar329.2.2 hin329 hat329 (g := (mkF m 49 #[iv p0, iv p1, iv p2, iv p3, rv ob2, .unset, .unset] [(.int 1), (.ref ob2)])) rfl rfl (hb hby at_49) _ ?_
      show Steps p.tables e below (T18.setTop (mkF m 50 #[iv p0, iv p1, iv p2, iv p3, rv ob2, .unset, .unset] [(.int (own_ch p1))])) _
      refine XS.bipush X18.here hx rfl (hb hby at_50) ?_
      refine XS.icmpYes X18.here hx rfl (pc0 := 52) (pc' := 59) rfl (hb hby at_52) rfl (feq d1).2 (by decide) (by decide) ?_
      refine XS.aload X18.here hx rfl (hb hby at_59) rfl rfl ?_
      show Steps p.tables e below (T18.setTop (mkF m 61 #[iv p0, iv p1, iv p2, iv p3, rv ob2, .unset, .unset] [(.ref ob2)])) _
      refine XS.iconst X18.here hx rfl (hb hby at_61) ?_
      show Steps p.tables e below (T18.setTop (mkF m 62 #[iv p0, iv p1, iv p2, iv p3, rv ob2, .unset, .unset] [(.int 2), (.ref ob2)])) _
      exact k
    refine own_lift sg330 ?_
    show own_Go p.tables e below (T18.setTop (mkF m 62 #[iv p0, iv p1, iv p2, iv p3, rv ob2, .unset, .unset] [(.int 2), (.ref ob2)])) _
    obtain ⟨cl331, Ar331, qx331, Sx331, N331', H331', G331'⟩ := id (Vn18)
    have hin331 : ¬ ((2 : Int32) < 0 ∨ cl331.slots.size ≤ ((2 : Int32)).toNatClampNeg) := inb_of Sx331 ⟨(by decide : ¬ ((2 : Int32) < (0 : Int32))), (by decide : (2 : Int32) < (4 : Int32))⟩
    have hat331 : cl331.slots[((2 : Int32)).toNatClampNeg]? = some (.int (own_ch p2)) := Has.at H331' hin331 rfl
    have sg332 : ∀ t, Steps p.tables e below (T18.setTop (mkF m 86 #[iv p0, iv p1, iv p2, iv p3, rv ob2, .unset, .unset] [(.int 2)])) t → Steps p.tables e below (T18.setTop (mkF m 62 #[iv p0, iv p1, iv p2, iv p3, rv ob2, .unset, .unset] [(.int 2), (.ref ob2)])) t := by
      intro t k
      refine X18.caload hx (j := (2 : Int32)) (v := (.int (own_ch p2))) (by rw [e18]; exact Ar331.1) (State.isArrayOf_alike hZ.alike Ar331.2.1) Ar331.2.2 hin331 hat331 (g := (mkF m 62 #[iv p0, iv p1, iv p2, iv p3, rv ob2, .unset, .unset] [(.int 2), (.ref ob2)])) rfl rfl (hb hby at_62) _ ?_
      show Steps p.tables e below (T18.setTop (mkF m 63 #[iv p0, iv p1, iv p2, iv p3, rv ob2, .unset, .unset] [(.int (own_ch p2))])) _
      refine XS.bipush X18.here hx rfl (hb hby at_63) ?_
      refine XS.icmpNo X18.here hx rfl (hb hby at_65) rfl (teq d2).2 ?_
      refine XS.iconst X18.here hx rfl (hb hby at_68) ?_
      show Steps p.tables e below (T18.setTop (mkF m 69 #[iv p0, iv p1, iv p2, iv p3, rv ob2, .unset, .unset] [(.int 2)])) _
      refine XS.goto X18.here hx rfl (pc0 := 69) (pc' := 86) rfl (hb hby at_69) (by decide) (by decide) ?_
      show Steps p.tables e below (T18.setTop (mkF m 86 #[iv p0, iv p1, iv p2, iv p3, rv ob2, .unset, .unset] [(.int 2)])) _
      exact k
    refine own_lift sg332 ?_
    show own_Go p.tables e below (T18.setTop (mkF m 86 #[iv p0, iv p1, iv p2, iv p3, rv ob2, .unset, .unset] [(.int 2)])) _
    rw [show (own_p (own_ch p0) (own_ch p1) (own_ch p2) (own_ch p3)) = (2 : Int32) from (by rw [own_p, if_neg d0, if_neg d1, if_pos d2])] at join20
    exact join20 _ _ X18 e18 N18
  · have sg333 : ∀ t, Steps p.tables e below (T18.setTop (mkF m 36 #[iv p0, iv p1, iv p2, iv p3, rv ob2, .unset, .unset] [(.int 0), (.ref ob2)])) t → Steps p.tables e below (T18.setTop (mkF m 33 #[iv p0, iv p1, iv p2, iv p3, rv ob2, .unset, .unset] [])) t := by
      intro t k
      refine XS.aload X18.here hx rfl (hb hby at_33) rfl rfl ?_
      show Steps p.tables e below (T18.setTop (mkF m 35 #[iv p0, iv p1, iv p2, iv p3, rv ob2, .unset, .unset] [(.ref ob2)])) _
      refine XS.iconst X18.here hx rfl (hb hby at_35) ?_
      show Steps p.tables e below (T18.setTop (mkF m 36 #[iv p0, iv p1, iv p2, iv p3, rv ob2, .unset, .unset] [(.int 0), (.ref ob2)])) _
      exact k
    refine own_lift sg333 ?_
    show own_Go p.tables e below (T18.setTop (mkF m 36 #[iv p0, iv p1, iv p2, iv p3, rv ob2, .unset, .unset] [(.int 0), (.ref ob2)])) _
    obtain ⟨cl334, Ar334, qx334, Sx334, N334', H334', G334'⟩ := id (Vn18)
    have hin334 : ¬ ((0 : Int32) < 0 ∨ cl334.slots.size ≤ ((0 : Int32)).toNatClampNeg) := inb_of Sx334 ⟨(by decide : ¬ ((0 : Int32) < (0 : Int32))), (by decide : (0 : Int32) < (4 : Int32))⟩
    have hat334 : cl334.slots[((0 : Int32)).toNatClampNeg]? = some (.int (own_ch p0)) := Has.at H334' hin334 rfl
    have sg335 : ∀ t, Steps p.tables e below (T18.setTop (mkF m 49 #[iv p0, iv p1, iv p2, iv p3, rv ob2, .unset, .unset] [(.int 1), (.ref ob2)])) t → Steps p.tables e below (T18.setTop (mkF m 36 #[iv p0, iv p1, iv p2, iv p3, rv ob2, .unset, .unset] [(.int 0), (.ref ob2)])) t := by
      intro t k
      refine X18.caload hx (j := (0 : Int32)) (v := (.int (own_ch p0))) (by rw [e18]; exact Ar334.1) (State.isArrayOf_alike hZ.alike Ar334.2.1) Ar334.2.2 hin334 hat334 (g := (mkF m 36 #[iv p0, iv p1, iv p2, iv p3, rv ob2, .unset, .unset] [(.int 0), (.ref ob2)])) rfl rfl (hb hby at_36) _ ?_
      show Steps p.tables e below (T18.setTop (mkF m 37 #[iv p0, iv p1, iv p2, iv p3, rv ob2, .unset, .unset] [(.int (own_ch p0))])) _
      refine XS.bipush X18.here hx rfl (hb hby at_37) ?_
      refine XS.icmpYes X18.here hx rfl (pc0 := 39) (pc' := 46) rfl (hb hby at_39) rfl (feq d0).2 (by decide) (by decide) ?_
      refine XS.aload X18.here hx rfl (hb hby at_46) rfl rfl ?_
      show Steps p.tables e below (T18.setTop (mkF m 48 #[iv p0, iv p1, iv p2, iv p3, rv ob2, .unset, .unset] [(.ref ob2)])) _
      refine XS.iconst X18.here hx rfl (hb hby at_48) ?_
      show Steps p.tables e below (T18.setTop (mkF m 49 #[iv p0, iv p1, iv p2, iv p3, rv ob2, .unset, .unset] [(.int 1), (.ref ob2)])) _
      exact k
    refine own_lift sg335 ?_
    show own_Go p.tables e below (T18.setTop (mkF m 49 #[iv p0, iv p1, iv p2, iv p3, rv ob2, .unset, .unset] [(.int 1), (.ref ob2)])) _
    obtain ⟨cl336, Ar336, qx336, Sx336, N336', H336', G336'⟩ := id (Vn18)
    have hin336 : ¬ ((1 : Int32) < 0 ∨ cl336.slots.size ≤ ((1 : Int32)).toNatClampNeg) := inb_of Sx336 ⟨(by decide : ¬ ((1 : Int32) < (0 : Int32))), (by decide : (1 : Int32) < (4 : Int32))⟩
    have hat336 : cl336.slots[((1 : Int32)).toNatClampNeg]? = some (.int (own_ch p1)) := Has.at H336' hin336 rfl
    have sg337 : ∀ t, Steps p.tables e below (T18.setTop (mkF m 62 #[iv p0, iv p1, iv p2, iv p3, rv ob2, .unset, .unset] [(.int 2), (.ref ob2)])) t → Steps p.tables e below (T18.setTop (mkF m 49 #[iv p0, iv p1, iv p2, iv p3, rv ob2, .unset, .unset] [(.int 1), (.ref ob2)])) t := by
      intro t k
      refine X18.caload hx (j := (1 : Int32)) (v := (.int (own_ch p1))) (by rw [e18]; exact Ar336.1) (State.isArrayOf_alike hZ.alike Ar336.2.1) Ar336.2.2 hin336 hat336 (g := (mkF m 49 #[iv p0, iv p1, iv p2, iv p3, rv ob2, .unset, .unset] [(.int 1), (.ref ob2)])) rfl rfl (hb hby at_49) _ ?_
      show Steps p.tables e below (T18.setTop (mkF m 50 #[iv p0, iv p1, iv p2, iv p3, rv ob2, .unset, .unset] [(.int (own_ch p1))])) _
      refine XS.bipush X18.here hx rfl (hb hby at_50) ?_
      refine XS.icmpYes X18.here hx rfl (pc0 := 52) (pc' := 59) rfl (hb hby at_52) rfl (feq d1).2 (by decide) (by decide) ?_
      refine XS.aload X18.here hx rfl (hb hby at_59) rfl rfl ?_
      show Steps p.tables e below (T18.setTop (mkF m 61 #[iv p0, iv p1, iv p2, iv p3, rv ob2, .unset, .unset] [(.ref ob2)])) _
      refine XS.iconst X18.here hx rfl (hb hby at_61) ?_
      show Steps p.tables e below (T18.setTop (mkF m 62 #[iv p0, iv p1, iv p2, iv p3, rv ob2, .unset, .unset] [(.int 2), (.ref ob2)])) _
      exact k
    refine own_lift sg337 ?_
    show own_Go p.tables e below (T18.setTop (mkF m 62 #[iv p0, iv p1, iv p2, iv p3, rv ob2, .unset, .unset] [(.int 2), (.ref ob2)])) _
    obtain ⟨cl338, Ar338, qx338, Sx338, N338', H338', G338'⟩ := id (Vn18)
    have hin338 : ¬ ((2 : Int32) < 0 ∨ cl338.slots.size ≤ ((2 : Int32)).toNatClampNeg) := inb_of Sx338 ⟨(by decide : ¬ ((2 : Int32) < (0 : Int32))), (by decide : (2 : Int32) < (4 : Int32))⟩
    have hat338 : cl338.slots[((2 : Int32)).toNatClampNeg]? = some (.int (own_ch p2)) := Has.at H338' hin338 rfl
    have sg339 : ∀ t, Steps p.tables e below (T18.setTop (mkF m 75 #[iv p0, iv p1, iv p2, iv p3, rv ob2, .unset, .unset] [(.int 3), (.ref ob2)])) t → Steps p.tables e below (T18.setTop (mkF m 62 #[iv p0, iv p1, iv p2, iv p3, rv ob2, .unset, .unset] [(.int 2), (.ref ob2)])) t := by
      intro t k
      refine X18.caload hx (j := (2 : Int32)) (v := (.int (own_ch p2))) (by rw [e18]; exact Ar338.1) (State.isArrayOf_alike hZ.alike Ar338.2.1) Ar338.2.2 hin338 hat338 (g := (mkF m 62 #[iv p0, iv p1, iv p2, iv p3, rv ob2, .unset, .unset] [(.int 2), (.ref ob2)])) rfl rfl (hb hby at_62) _ ?_
      show Steps p.tables e below (T18.setTop (mkF m 63 #[iv p0, iv p1, iv p2, iv p3, rv ob2, .unset, .unset] [(.int (own_ch p2))])) _
      refine XS.bipush X18.here hx rfl (hb hby at_63) ?_
      refine XS.icmpYes X18.here hx rfl (pc0 := 65) (pc' := 72) rfl (hb hby at_65) rfl (feq d2).2 (by decide) (by decide) ?_
      refine XS.aload X18.here hx rfl (hb hby at_72) rfl rfl ?_
      show Steps p.tables e below (T18.setTop (mkF m 74 #[iv p0, iv p1, iv p2, iv p3, rv ob2, .unset, .unset] [(.ref ob2)])) _
      refine XS.iconst X18.here hx rfl (hb hby at_74) ?_
      show Steps p.tables e below (T18.setTop (mkF m 75 #[iv p0, iv p1, iv p2, iv p3, rv ob2, .unset, .unset] [(.int 3), (.ref ob2)])) _
      exact k
    refine own_lift sg339 ?_
    show own_Go p.tables e below (T18.setTop (mkF m 75 #[iv p0, iv p1, iv p2, iv p3, rv ob2, .unset, .unset] [(.int 3), (.ref ob2)])) _
    obtain ⟨cl340, Ar340, qx340, Sx340, N340', H340', G340'⟩ := id (Vn18)
    have hin340 : ¬ ((3 : Int32) < 0 ∨ cl340.slots.size ≤ ((3 : Int32)).toNatClampNeg) := inb_of Sx340 ⟨(by decide : ¬ ((3 : Int32) < (0 : Int32))), (by decide : (3 : Int32) < (4 : Int32))⟩
    have hat340 : cl340.slots[((3 : Int32)).toNatClampNeg]? = some (.int (own_ch p3)) := Has.at H340' hin340 rfl
    have sg341 : ∀ t, Steps p.tables e below (T18.setTop (mkF m 86 #[iv p0, iv p1, iv p2, iv p3, rv ob2, .unset, .unset] [(.int 3)])) t → Steps p.tables e below (T18.setTop (mkF m 75 #[iv p0, iv p1, iv p2, iv p3, rv ob2, .unset, .unset] [(.int 3), (.ref ob2)])) t := by
      intro t k
      refine X18.caload hx (j := (3 : Int32)) (v := (.int (own_ch p3))) (by rw [e18]; exact Ar340.1) (State.isArrayOf_alike hZ.alike Ar340.2.1) Ar340.2.2 hin340 hat340 (g := (mkF m 75 #[iv p0, iv p1, iv p2, iv p3, rv ob2, .unset, .unset] [(.int 3), (.ref ob2)])) rfl rfl (hb hby at_75) _ ?_
      show Steps p.tables e below (T18.setTop (mkF m 76 #[iv p0, iv p1, iv p2, iv p3, rv ob2, .unset, .unset] [(.int (own_ch p3))])) _
      refine XS.bipush X18.here hx rfl (hb hby at_76) ?_
      refine XS.icmpNo X18.here hx rfl (hb hby at_78) rfl (teq d3).2 ?_
      refine XS.iconst X18.here hx rfl (hb hby at_81) ?_
      show Steps p.tables e below (T18.setTop (mkF m 82 #[iv p0, iv p1, iv p2, iv p3, rv ob2, .unset, .unset] [(.int 3)])) _
      refine XS.goto X18.here hx rfl (pc0 := 82) (pc' := 86) rfl (hb hby at_82) (by decide) (by decide) ?_
      show Steps p.tables e below (T18.setTop (mkF m 86 #[iv p0, iv p1, iv p2, iv p3, rv ob2, .unset, .unset] [(.int 3)])) _
      exact k
    refine own_lift sg341 ?_
    show own_Go p.tables e below (T18.setTop (mkF m 86 #[iv p0, iv p1, iv p2, iv p3, rv ob2, .unset, .unset] [(.int 3)])) _
    rw [show (own_p (own_ch p0) (own_ch p1) (own_ch p2) (own_ch p3)) = (3 : Int32) from (by rw [own_p, if_neg d0, if_neg d1, if_neg d2, if_pos d3])] at join20
    exact join20 _ _ X18 e18 N18
  · have sg342 : ∀ t, Steps p.tables e below (T18.setTop (mkF m 36 #[iv p0, iv p1, iv p2, iv p3, rv ob2, .unset, .unset] [(.int 0), (.ref ob2)])) t → Steps p.tables e below (T18.setTop (mkF m 33 #[iv p0, iv p1, iv p2, iv p3, rv ob2, .unset, .unset] [])) t := by
      intro t k
      refine XS.aload X18.here hx rfl (hb hby at_33) rfl rfl ?_
      show Steps p.tables e below (T18.setTop (mkF m 35 #[iv p0, iv p1, iv p2, iv p3, rv ob2, .unset, .unset] [(.ref ob2)])) _
      refine XS.iconst X18.here hx rfl (hb hby at_35) ?_
      show Steps p.tables e below (T18.setTop (mkF m 36 #[iv p0, iv p1, iv p2, iv p3, rv ob2, .unset, .unset] [(.int 0), (.ref ob2)])) _
      exact k
    refine own_lift sg342 ?_
    show own_Go p.tables e below (T18.setTop (mkF m 36 #[iv p0, iv p1, iv p2, iv p3, rv ob2, .unset, .unset] [(.int 0), (.ref ob2)])) _
    obtain ⟨cl343, Ar343, qx343, Sx343, N343', H343', G343'⟩ := id (Vn18)
    have hin343 : ¬ ((0 : Int32) < 0 ∨ cl343.slots.size ≤ ((0 : Int32)).toNatClampNeg) := inb_of Sx343 ⟨(by decide : ¬ ((0 : Int32) < (0 : Int32))), (by decide : (0 : Int32) < (4 : Int32))⟩
    have hat343 : cl343.slots[((0 : Int32)).toNatClampNeg]? = some (.int (own_ch p0)) := Has.at H343' hin343 rfl
    have sg344 : ∀ t, Steps p.tables e below (T18.setTop (mkF m 49 #[iv p0, iv p1, iv p2, iv p3, rv ob2, .unset, .unset] [(.int 1), (.ref ob2)])) t → Steps p.tables e below (T18.setTop (mkF m 36 #[iv p0, iv p1, iv p2, iv p3, rv ob2, .unset, .unset] [(.int 0), (.ref ob2)])) t := by
      intro t k
      refine X18.caload hx (j := (0 : Int32)) (v := (.int (own_ch p0))) (by rw [e18]; exact Ar343.1) (State.isArrayOf_alike hZ.alike Ar343.2.1) Ar343.2.2 hin343 hat343 (g := (mkF m 36 #[iv p0, iv p1, iv p2, iv p3, rv ob2, .unset, .unset] [(.int 0), (.ref ob2)])) rfl rfl (hb hby at_36) _ ?_
      show Steps p.tables e below (T18.setTop (mkF m 37 #[iv p0, iv p1, iv p2, iv p3, rv ob2, .unset, .unset] [(.int (own_ch p0))])) _
      refine XS.bipush X18.here hx rfl (hb hby at_37) ?_
      refine XS.icmpYes X18.here hx rfl (pc0 := 39) (pc' := 46) rfl (hb hby at_39) rfl (feq d0).2 (by decide) (by decide) ?_
      refine XS.aload X18.here hx rfl (hb hby at_46) rfl rfl ?_
      show Steps p.tables e below (T18.setTop (mkF m 48 #[iv p0, iv p1, iv p2, iv p3, rv ob2, .unset, .unset] [(.ref ob2)])) _
      refine XS.iconst X18.here hx rfl (hb hby at_48) ?_
      show Steps p.tables e below (T18.setTop (mkF m 49 #[iv p0, iv p1, iv p2, iv p3, rv ob2, .unset, .unset] [(.int 1), (.ref ob2)])) _
      exact k
    refine own_lift sg344 ?_
    show own_Go p.tables e below (T18.setTop (mkF m 49 #[iv p0, iv p1, iv p2, iv p3, rv ob2, .unset, .unset] [(.int 1), (.ref ob2)])) _
    obtain ⟨cl345, Ar345, qx345, Sx345, N345', H345', G345'⟩ := id (Vn18)
    have hin345 : ¬ ((1 : Int32) < 0 ∨ cl345.slots.size ≤ ((1 : Int32)).toNatClampNeg) := inb_of Sx345 ⟨(by decide : ¬ ((1 : Int32) < (0 : Int32))), (by decide : (1 : Int32) < (4 : Int32))⟩
    have hat345 : cl345.slots[((1 : Int32)).toNatClampNeg]? = some (.int (own_ch p1)) := Has.at H345' hin345 rfl
    have sg346 : ∀ t, Steps p.tables e below (T18.setTop (mkF m 62 #[iv p0, iv p1, iv p2, iv p3, rv ob2, .unset, .unset] [(.int 2), (.ref ob2)])) t → Steps p.tables e below (T18.setTop (mkF m 49 #[iv p0, iv p1, iv p2, iv p3, rv ob2, .unset, .unset] [(.int 1), (.ref ob2)])) t := by
      intro t k
      refine X18.caload hx (j := (1 : Int32)) (v := (.int (own_ch p1))) (by rw [e18]; exact Ar345.1) (State.isArrayOf_alike hZ.alike Ar345.2.1) Ar345.2.2 hin345 hat345 (g := (mkF m 49 #[iv p0, iv p1, iv p2, iv p3, rv ob2, .unset, .unset] [(.int 1), (.ref ob2)])) rfl rfl (hb hby at_49) _ ?_
      show Steps p.tables e below (T18.setTop (mkF m 50 #[iv p0, iv p1, iv p2, iv p3, rv ob2, .unset, .unset] [(.int (own_ch p1))])) _
      refine XS.bipush X18.here hx rfl (hb hby at_50) ?_
      refine XS.icmpYes X18.here hx rfl (pc0 := 52) (pc' := 59) rfl (hb hby at_52) rfl (feq d1).2 (by decide) (by decide) ?_
      refine XS.aload X18.here hx rfl (hb hby at_59) rfl rfl ?_
      show Steps p.tables e below (T18.setTop (mkF m 61 #[iv p0, iv p1, iv p2, iv p3, rv ob2, .unset, .unset] [(.ref ob2)])) _
      refine XS.iconst X18.here hx rfl (hb hby at_61) ?_
      show Steps p.tables e below (T18.setTop (mkF m 62 #[iv p0, iv p1, iv p2, iv p3, rv ob2, .unset, .unset] [(.int 2), (.ref ob2)])) _
      exact k
    refine own_lift sg346 ?_
    show own_Go p.tables e below (T18.setTop (mkF m 62 #[iv p0, iv p1, iv p2, iv p3, rv ob2, .unset, .unset] [(.int 2), (.ref ob2)])) _
    obtain ⟨cl347, Ar347, qx347, Sx347, N347', H347', G347'⟩ := id (Vn18)
    have hin347 : ¬ ((2 : Int32) < 0 ∨ cl347.slots.size ≤ ((2 : Int32)).toNatClampNeg) := inb_of Sx347 ⟨(by decide : ¬ ((2 : Int32) < (0 : Int32))), (by decide : (2 : Int32) < (4 : Int32))⟩
    have hat347 : cl347.slots[((2 : Int32)).toNatClampNeg]? = some (.int (own_ch p2)) := Has.at H347' hin347 rfl
    have sg348 : ∀ t, Steps p.tables e below (T18.setTop (mkF m 75 #[iv p0, iv p1, iv p2, iv p3, rv ob2, .unset, .unset] [(.int 3), (.ref ob2)])) t → Steps p.tables e below (T18.setTop (mkF m 62 #[iv p0, iv p1, iv p2, iv p3, rv ob2, .unset, .unset] [(.int 2), (.ref ob2)])) t := by
      intro t k
      refine X18.caload hx (j := (2 : Int32)) (v := (.int (own_ch p2))) (by rw [e18]; exact Ar347.1) (State.isArrayOf_alike hZ.alike Ar347.2.1) Ar347.2.2 hin347 hat347 (g := (mkF m 62 #[iv p0, iv p1, iv p2, iv p3, rv ob2, .unset, .unset] [(.int 2), (.ref ob2)])) rfl rfl (hb hby at_62) _ ?_
      show Steps p.tables e below (T18.setTop (mkF m 63 #[iv p0, iv p1, iv p2, iv p3, rv ob2, .unset, .unset] [(.int (own_ch p2))])) _
      refine XS.bipush X18.here hx rfl (hb hby at_63) ?_
      refine XS.icmpYes X18.here hx rfl (pc0 := 65) (pc' := 72) rfl (hb hby at_65) rfl (feq d2).2 (by decide) (by decide) ?_
      refine XS.aload X18.here hx rfl (hb hby at_72) rfl rfl ?_
      show Steps p.tables e below (T18.setTop (mkF m 74 #[iv p0, iv p1, iv p2, iv p3, rv ob2, .unset, .unset] [(.ref ob2)])) _
      refine XS.iconst X18.here hx rfl (hb hby at_74) ?_
      show Steps p.tables e below (T18.setTop (mkF m 75 #[iv p0, iv p1, iv p2, iv p3, rv ob2, .unset, .unset] [(.int 3), (.ref ob2)])) _
      exact k
    refine own_lift sg348 ?_
    show own_Go p.tables e below (T18.setTop (mkF m 75 #[iv p0, iv p1, iv p2, iv p3, rv ob2, .unset, .unset] [(.int 3), (.ref ob2)])) _
    obtain ⟨cl349, Ar349, qx349, Sx349, N349', H349', G349'⟩ := id (Vn18)
    have hin349 : ¬ ((3 : Int32) < 0 ∨ cl349.slots.size ≤ ((3 : Int32)).toNatClampNeg) := inb_of Sx349 ⟨(by decide : ¬ ((3 : Int32) < (0 : Int32))), (by decide : (3 : Int32) < (4 : Int32))⟩
    have hat349 : cl349.slots[((3 : Int32)).toNatClampNeg]? = some (.int (own_ch p3)) := Has.at H349' hin349 rfl
    have sg350 : ∀ t, Steps p.tables e below (T18.setTop (mkF m 86 #[iv p0, iv p1, iv p2, iv p3, rv ob2, .unset, .unset] [(.int (-1))])) t → Steps p.tables e below (T18.setTop (mkF m 75 #[iv p0, iv p1, iv p2, iv p3, rv ob2, .unset, .unset] [(.int 3), (.ref ob2)])) t := by
      intro t k
      refine X18.caload hx (j := (3 : Int32)) (v := (.int (own_ch p3))) (by rw [e18]; exact Ar349.1) (State.isArrayOf_alike hZ.alike Ar349.2.1) Ar349.2.2 hin349 hat349 (g := (mkF m 75 #[iv p0, iv p1, iv p2, iv p3, rv ob2, .unset, .unset] [(.int 3), (.ref ob2)])) rfl rfl (hb hby at_75) _ ?_
      show Steps p.tables e below (T18.setTop (mkF m 76 #[iv p0, iv p1, iv p2, iv p3, rv ob2, .unset, .unset] [(.int (own_ch p3))])) _
      refine XS.bipush X18.here hx rfl (hb hby at_76) ?_
      refine XS.icmpYes X18.here hx rfl (pc0 := 78) (pc' := 85) rfl (hb hby at_78) rfl (feq d3).2 (by decide) (by decide) ?_
      refine XS.iconst X18.here hx rfl (hb hby at_85) ?_
      show Steps p.tables e below (T18.setTop (mkF m 86 #[iv p0, iv p1, iv p2, iv p3, rv ob2, .unset, .unset] [(.int (-1))])) _
      exact k
    refine own_lift sg350 ?_
    show own_Go p.tables e below (T18.setTop (mkF m 86 #[iv p0, iv p1, iv p2, iv p3, rv ob2, .unset, .unset] [(.int (-1))])) _
    rw [show (own_p (own_ch p0) (own_ch p1) (own_ch p2) (own_ch p3)) = (-1 : Int32) from (by rw [own_p, if_neg d0, if_neg d1, if_neg d2, if_neg d3])] at join20
    exact join20 _ _ X18 e18 N18
set_option maxRecDepth 65536 in
set_option maxHeartbeats 40000000 in
theorem comes_1 {Post : Tables → Env → Array Value → State → Outcome → State → Prop} (hpost : ∀ tb e args s v u, (limb_1_1.after args s (.returned v) u = true ∧ limb_1_2.after args s (.returned v) u = true ∧ True) → FrameEnd s (.returned v) u (Jvm.fieldLocs frame_1_writes args s ++ Jvm.arrayLocs frame_1_arrays args s ++ Jvm.staticLocs frame_1_statics s) 16 128 → Post tb e args s (.returned v) u) :
    ArmFor flags0 classFile x code maxLocals ret World_1 tables_1 room_1 Calls_1 rest_1 Pre_1 Post := by
  intro l hfl _ _ p e ha hc hk s m args below hf hA hF happ hP
  obtain ⟨hcalls, hrest, hpre⟩ := hP
  obtain ⟨-, -, -, hnamed, -, -, -, hat⟩ := (Spec.applies_iff hf).mp happ
  obtain ⟨hg, hn⟩ := and_e (Cond.before_iff.mp (show (Jvm.Cond.and given_1 narrow_1).before args s = true from hpre))
  obtain ⟨gv0, gr0⟩ := and_e hg
  obtain ⟨gv1, gr1⟩ := and_e gr0
  obtain ⟨gv2, gr2⟩ := and_e gr1
  obtain ⟨gv3, gr3⟩ := and_e gr2
  obtain ⟨w0, w1, w2, w3, rfl⟩ : ∃ w0 w1 w2 w3 : Value, args = #[w0, w1, w2, w3] := by
    have hs : args.size = 4 := by simpa [Cond.value, given_1] using gv0
    obtain ⟨L⟩ := args
    match L, hs with
    | [w0, w1, w2, w3], _ => exact ⟨w0, w1, w2, w3, rfl⟩
  have hw := fun d (hd : d ∈ tables_1) => atoms_spec (ws := Jvm.Cond.code x code maxLocals ret :: tables_1) hat d (List.mem_cons_of_mem _ hd)
  have hfit : Fit s := fun {y c} hc i hi => by
    obtain ⟨ha, rfl⟩ := Array.getElem?_eq_some_iff.mp hc
    have q := List.all_eq_true.mp ((Array.all_eq_true_iff_forall_mem.mp hF) _ (Array.getElem_mem ha)) i (List.mem_range.mpr hi)
    simpa [Array.getElem?_eq_getElem hi] using q
  obtain ⟨hsets, hown0⟩ := atoms_of _ (rest_1_c_eq ▸ (show rest_1_c.before _ s = true from hrest))
  have hr0 := Cond.before_iff.mp hown0
  obtain ⟨i0, ei0⟩ := is_v gv1
  obtain rfl : w0 = (.int i0) := Option.some.inj ei0
  obtain ⟨i1, ei1⟩ := is_v gv2
  obtain rfl : w1 = (.int i1) := Option.some.inj ei1
  obtain ⟨i2, ei2⟩ := is_v gv3
  obtain rfl : w2 = (.int i2) := Option.some.inj ei2
  obtain ⟨i3, ei3⟩ := is_v gr3
  obtain rfl : w3 = (.int i3) := Option.some.inj ei3
  have n3 := not_v (Cond.before_iff.mp (hsets _ (List.mem_of_getElem? (i := 2) rfl)))
  obtain ⟨ics, ecs⟩ := is_v (Cond.before_iff.mp (hsets _ (List.mem_of_getElem? (i := 1) rfl)))
  have S_cs : Sta s s.heap STx "COMPACT_STRINGS" "Z" (.int ics) := Sta.start ecs (Or.inl (hsets _ (List.mem_of_getElem? (i := 0) rfl)))
  have P_cs : ¬ (ics = (0 : Int32)) := gotF (Cond.eq_ints ecs (Term.int_eval (0))) n3
  obtain ⟨ifv, efv, P_fv⟩ := isR_v (Cond.before_iff.mp (hsets _ (List.mem_of_getElem? (i := 8) rfl)))
  have S_fv : Sta s s.heap PCx "SIOOBE_FORMATTER" BFx ifv := Sta.start efv (Or.inl (hsets _ (List.mem_of_getElem? (i := 7) rfl)))
  obtain ⟨n, o, h1, h2, h3, _, L, rfl, ⟨rfl, N⟩, hq⟩ := rm0 l s _ hw tables_1 i0 i1 i2 i3 ics ifv s.heap s.heap.size (Nat.le_refl _) S_cs S_fv P_cs P_fv p e ha hc hk s m _ below hf ((Spec.applies_iff_loose hf).mp happ).1 ⟨rfl, State.Warmed39.refl s, rfl⟩ trivial
  refine ⟨n, _, h1, h2, h3, hpost _ _ _ _ _ _ ⟨Cond.after_iff.mpr rfl, Cond.after_iff.mpr (eq_i res_at (Term.int_eval (1)) rfl), trivial⟩ ⟨hq.1, hq.2.1, (hq.2.2.sift fun y hy => Or.inr (N y hy)).mono (by decide) (by decide)⟩⟩
theorem main_1_1 : Claimed_1_1 := comes_1 fun _ _ _ _ _ _ h hF => ⟨h.1, hF⟩
theorem main_1_2 : Claimed_1_2 := comes_1 fun _ _ _ _ _ _ h hF => ⟨h.2.1, hF⟩
end Jvm.Pilot.@@N@@
namespace Jvm.Pilot.@@N@@
open Jvm Jvm.ClassFile Sem Op Lib Jvm.Free Jvm.Stand Jvm.Pilot.@@N@@.Jvm.D
/-! MADE BY PROGRAM (witnessworld.py) out of the Statement's table words and the real class files: 20 classes; the members and pool entries that the words name. The judged class is class 1, her method 3. -/
namespace start1
open Jvm.ClassFile
def u (s : String) : CpInfo := .utf8 (stringToUtf16 s)
/-- a pool by its gaps: so many unusable entries, then the entry; so many at the end -/
def gap : Nat → List CpInfo → List CpInfo
  | 0, r => r
  | n + 1, r => .unusable :: gap n r
def poolList (es : List (Nat × CpInfo)) (last : Nat) : List CpInfo := es.foldr (fun e r => gap e.1 (e.2 :: r)) (gap last [])
def pool (es : List (Nat × CpInfo)) (last : Nat) : Array CpInfo := ⟨poolList es last⟩
def fileOf (pool : Array CpInfo) (this : Nat) (attrs : Array Attribute := #[]) (ms : Array MethodInfo := #[]) (fl : Nat := 33) (sup : Nat := 0) (ifs : Array Nat := #[]) (fds : Array FieldInfo := #[]) : ClassFile where
  minorVersion := 0
  majorVersion := 65
  constantPool := pool
  accessFlags := fl
  thisClass := this
  superClass := sup
  interfaces := ifs
  fields := fds
  methods := ms
  attributes := attrs
def plain (name : String) (sup : Option ClassId) : Class where
  name := name
  kind := .ordinary
  loader := none
  accessFlags := 33
  super := sup
  interfaces := #[]
  cf := none
  fields := #[]
  methods := #[]
  instanceTypes := #[]
  staticTypes := #[]
  resolved := #[]
  callSites := []
  init := .initialized
  statics := none
  mirror := none

def pool0 : Array CpInfo := pool [(5, u "<init>"), (0, u "()V"), (1, .class_ 10), (1, u "java/lang/Object")] 113

def k0c0 : Code := { maxStack := 0, maxLocals := 1, code := object_method_1_code, exceptionTable := #[], attributes := #[] }
def k0m0 : Method := { name := "<init>", desc := "()V", sig := { parameters := [], returnType := none }, accessFlags := 1, code := some k0c0 }
/-- java/lang/Object -/
def k0 : Class := { plain "java/lang/Object" none with
  accessFlags := 33
  interfaces := #[]
  cf := some (fileOf pool0 8 #[] #[{ accessFlags := 1, nameIndex := 5, descriptorIndex := 6, attributes := #[] }] 33 0 #[] #[])
  fields := #[]
  methods := #[k0m0]
  instanceTypes := #[]
  staticTypes := #[]
  resolved := Array.replicate 124 none
  statics := none }

def pool1 : Array CpInfo := pool [(2, .class_ 4), (1, u "java/lang/Object"), (0, u "<init>"), (0, u "()V"), (0, .methodref 8 9), (0, .class_ 10), (0, .nameAndType 11 12), (0, u "com/example/libprocgraph/libprocgraph/reader/TextCursor"), (0, u "line"), (0, u "()I"), (0, .methodref 8 14), (0, .nameAndType 15 12), (0, u "column"), (0, .methodref 8 17), (0, .nameAndType 18 19), (0, u "has"), (0, u "(I)Z"), (0, .methodref 8 21), (0, .nameAndType 22 23), (0, u "charAt"), (0, u "(I)C"), (0, .methodref 25 26), (0, .class_ 27), (0, .nameAndType 28 23), (0, u "com/example/libprocgraph/libprocgraph/reader/TextCursorPassLineEndPinLaw"), (0, u "ch"), (0, .class_ 30), (0, u "java/lang/String"), (0, .methodref 29 32), (0, .nameAndType 5 33), (0, u "([C)V"), (0, .methodref 8 35), (0, .nameAndType 5 36), (0, u "(Ljava/lang/String;)V"), (0, .methodref 8 38), (0, .nameAndType 39 6), (0, u "skipRestOfLine"), (0, .methodref 8 41), (0, .nameAndType 42 43), (0, u "atLineEnd"), (0, u "()Z"), (0, .methodref 8 45), (0, .nameAndType 46 6), (0, u "passLineEnd"), (0, .methodref 25 48), (0, .nameAndType 49 50), (0, u "at"), (0, u "(Lcom/example/libprocgraph/libprocgraph/reader/TextCursor;I[CI)Z"), (3, u "law"), (0, u "(IIII)Z")] 4

def k1m0 : Method := { name := "<init>", desc := "()V", sig := { parameters := [], returnType := none }, accessFlags := 1, code := none }
def k1c1 : Code := { maxStack := 2, maxLocals := 1, code := method_2_code, exceptionTable := #[], attributes := #[] }
def k1m1 : Method := { name := "ch", desc := "(I)C", sig := { parameters := [.int], returnType := some .char }, accessFlags := 10, code := some k1c1 }
def k1c2 : Code := { maxStack := 3, maxLocals := 4, code := method_3_code, exceptionTable := #[], attributes := #[] }
def k1m2 : Method := { name := "at", desc := "(Lcom/example/libprocgraph/libprocgraph/reader/TextCursor;I[CI)Z", sig := { parameters := [(.object "com/example/libprocgraph/libprocgraph/reader/TextCursor"), .int, (.array .char), .int], returnType := some .boolean }, accessFlags := 10, code := some k1c2 }
def k1c3 : Code := { maxStack := 5, maxLocals := 7, code := code, exceptionTable := #[], attributes := #[] }
def k1m3 : Method := { name := "law", desc := "(IIII)Z", sig := { parameters := [.int, .int, .int, .int], returnType := some .boolean }, accessFlags := 9, code := some k1c3 }
/-- com/example/libprocgraph/libprocgraph/reader/TextCursorPassLineEndPinLaw -/
def k1 : Class := { plain "com/example/libprocgraph/libprocgraph/reader/TextCursorPassLineEndPinLaw" (some 0) with
  accessFlags := 49
  interfaces := #[]
  cf := some (fileOf pool1 25 #[] #[{ accessFlags := 1, nameIndex := 5, descriptorIndex := 6, attributes := #[] }, { accessFlags := 10, nameIndex := 28, descriptorIndex := 23, attributes := #[] }, { accessFlags := 10, nameIndex := 49, descriptorIndex := 50, attributes := #[] }, { accessFlags := 9, nameIndex := 54, descriptorIndex := 55, attributes := #[] }] 49 2 #[] #[])
  fields := #[]
  methods := #[k1m0, k1m1, k1m2, k1m3]
  instanceTypes := #[]
  staticTypes := #[]
  resolved := Array.replicate 60 none
  statics := none }

def pool2 : Array CpInfo := pool [(1, .methodref 2 3), (0, .class_ 4), (0, .nameAndType 5 6), (0, u "java/lang/Object"), (0, u "<init>"), (0, u "()V"), (0, .fieldref 8 9), (0, .class_ 10), (0, .nameAndType 11 12), (0, u "com/example/libprocgraph/libprocgraph/reader/TextCursor"), (0, u "line"), (0, u "I"), (0, .fieldref 8 14), (0, .nameAndType 15 12), (0, u "column"), (0, .fieldref 8 17), (0, .nameAndType 18 19), (0, u "text"), (0, u "Ljava/lang/String;"), (5, u "atLineEnd"), (0, u "()Z"), (2, u "passLineEnd"), (0, .fieldref 8 31), (0, .nameAndType 32 12), (0, u "offset"), (0, .methodref 34 35), (0, .class_ 36), (0, .nameAndType 37 38), (0, u "java/lang/String"), (0, u "length"), (0, u "()I"), (0, .methodref 34 40), (0, .nameAndType 41 42), (0, u "charAt"), (0, u "(I)C"), (4, .methodref 8 48), (0, .nameAndType 49 50), (0, u "advance"), (0, u "(I)V"), (0, .methodref 34 52), (0, .nameAndType 53 54), (0, u "indexOf"), (0, u "(II)I"), (25, .class_ 82), (1, u "com/example/libprocgraph/libprocgraph/reader/TextCursor$CharacterKind"), (9, .methodref 34 93), (0, .nameAndType 94 54), (0, u "codePointCount"), (45, u "(Ljava/lang/String;)V"), (4, u "skipRestOfLine"), (1, u "has"), (0, u "(I)Z")] 47

def k2c0 : Code := { maxStack := 2, maxLocals := 2, code := prog_63_method_1_code, exceptionTable := #[], attributes := #[] }
def k2m0 : Method := { name := "<init>", desc := "(Ljava/lang/String;)V", sig := { parameters := [(.object "java/lang/String")], returnType := none }, accessFlags := 1, code := some k2c0 }
def k2c1 : Code := { maxStack := 1, maxLocals := 1, code := prog_63_method_2_code, exceptionTable := #[], attributes := #[] }
def k2m1 : Method := { name := "line", desc := "()I", sig := { parameters := [], returnType := some .int }, accessFlags := 1, code := some k2c1 }
def k2c2 : Code := { maxStack := 1, maxLocals := 1, code := prog_63_method_3_code, exceptionTable := #[], attributes := #[] }
def k2m2 : Method := { name := "column", desc := "()I", sig := { parameters := [], returnType := some .int }, accessFlags := 1, code := some k2c2 }
def k2c3 : Code := { maxStack := 2, maxLocals := 1, code := prog_63_method_6_code, exceptionTable := #[], attributes := #[] }
def k2m3 : Method := { name := "atLineEnd", desc := "()Z", sig := { parameters := [], returnType := some .boolean }, accessFlags := 1, code := some k2c3 }
def k2c4 : Code := { maxStack := 3, maxLocals := 1, code := prog_63_method_7_code, exceptionTable := #[], attributes := #[] }
def k2m4 : Method := { name := "passLineEnd", desc := "()V", sig := { parameters := [], returnType := none }, accessFlags := 1, code := some k2c4 }
def k2c5 : Code := { maxStack := 3, maxLocals := 2, code := prog_63_method_8_code, exceptionTable := #[], attributes := #[] }
def k2m5 : Method := { name := "skipRestOfLine", desc := "()V", sig := { parameters := [], returnType := none }, accessFlags := 1, code := some k2c5 }
def k2c6 : Code := { maxStack := 2, maxLocals := 2, code := prog_63_method_10_code, exceptionTable := #[], attributes := #[] }
def k2m6 : Method := { name := "has", desc := "(I)Z", sig := { parameters := [.int], returnType := some .boolean }, accessFlags := 1, code := some k2c6 }
def k2c7 : Code := { maxStack := 3, maxLocals := 2, code := prog_63_method_11_code, exceptionTable := #[], attributes := #[] }
def k2m7 : Method := { name := "charAt", desc := "(I)C", sig := { parameters := [.int], returnType := some .char }, accessFlags := 1, code := some k2c7 }
def k2c8 : Code := { maxStack := 6, maxLocals := 2, code := prog_63_method_22_code, exceptionTable := #[], attributes := #[] }
def k2m8 : Method := { name := "advance", desc := "(I)V", sig := { parameters := [.int], returnType := none }, accessFlags := 2, code := some k2c8 }
/-- com/example/libprocgraph/libprocgraph/reader/TextCursor -/
def k2 : Class := { plain "com/example/libprocgraph/libprocgraph/reader/TextCursor" (some 0) with
  accessFlags := 49
  interfaces := #[]
  cf := some (fileOf pool2 8 #[.nestMembers #[80]] #[{ accessFlags := 1, nameIndex := 5, descriptorIndex := 140, attributes := #[] }, { accessFlags := 1, nameIndex := 11, descriptorIndex := 38, attributes := #[] }, { accessFlags := 1, nameIndex := 15, descriptorIndex := 38, attributes := #[] }, { accessFlags := 1, nameIndex := 25, descriptorIndex := 26, attributes := #[] }, { accessFlags := 1, nameIndex := 29, descriptorIndex := 6, attributes := #[] }, { accessFlags := 1, nameIndex := 145, descriptorIndex := 6, attributes := #[] }, { accessFlags := 1, nameIndex := 147, descriptorIndex := 148, attributes := #[] }, { accessFlags := 1, nameIndex := 41, descriptorIndex := 42, attributes := #[] }, { accessFlags := 2, nameIndex := 49, descriptorIndex := 50, attributes := #[] }] 49 2 #[] #[{ accessFlags := 18, nameIndex := 18, descriptorIndex := 19, attributes := #[] }, { accessFlags := 2, nameIndex := 32, descriptorIndex := 12, attributes := #[] }, { accessFlags := 2, nameIndex := 11, descriptorIndex := 12, attributes := #[] }, { accessFlags := 2, nameIndex := 15, descriptorIndex := 12, attributes := #[] }])
  fields := #[{ name := "text", type := (.object "java/lang/String"), accessFlags := 18, slot := 0, constantValue := 0 }, { name := "offset", type := .int, accessFlags := 2, slot := 1, constantValue := 0 }, { name := "line", type := .int, accessFlags := 2, slot := 2, constantValue := 0 }, { name := "column", type := .int, accessFlags := 2, slot := 3, constantValue := 0 }]
  methods := #[k2m0, k2m1, k2m2, k2m3, k2m4, k2m5, k2m6, k2m7, k2m8]
  instanceTypes := #[(.object "java/lang/String"), .int, .int, .int]
  staticTypes := #[]
  resolved := Array.replicate 196 none
  statics := none }

def pool3 : Array CpInfo := pool [(1, .class_ 2), (0, u "java/io/Serializable"), (0, .class_ 4), (0, u "java/lang/Object")] 2

/-- java/io/Serializable -/
def k3 : Class := { plain "java/io/Serializable" (some 0) with
  accessFlags := 1537
  interfaces := #[]
  cf := some (fileOf pool3 1 #[] #[] 1537 3 #[] #[])
  fields := #[]
  methods := #[]
  instanceTypes := #[]
  staticTypes := #[]
  resolved := Array.replicate 7 none
  statics := none }

def pool4 : Array CpInfo := pool [(1, .class_ 2), (0, u "java/lang/Comparable"), (0, .class_ 4), (0, u "java/lang/Object")] 7

/-- java/lang/Comparable -/
def k4 : Class := { plain "java/lang/Comparable" (some 0) with
  accessFlags := 1537
  interfaces := #[]
  cf := some (fileOf pool4 1 #[] #[] 1537 3 #[] #[])
  fields := #[]
  methods := #[]
  instanceTypes := #[]
  staticTypes := #[]
  resolved := Array.replicate 12 none
  statics := none }

def pool5 : Array CpInfo := pool [(2, .class_ 4), (1, u "java/lang/CharSequence"), (42, .class_ 48), (0, u "java/lang/CharSequence$1CodePointIterator"), (10, .class_ 60), (0, u "java/lang/CharSequence$1CharIterator"), (5, .class_ 67), (0, u "java/lang/Object")] 63

/-- java/lang/CharSequence -/
def k5 : Class := { plain "java/lang/CharSequence" (some 0) with
  accessFlags := 1537
  interfaces := #[]
  cf := some (fileOf pool5 2 #[.nestMembers #[47, 59]] #[] 1537 66 #[] #[])
  fields := #[]
  methods := #[]
  instanceTypes := #[]
  staticTypes := #[]
  resolved := Array.replicate 131 none
  statics := none }

def pool6 : Array CpInfo := pool [(1, .class_ 2), (0, u "java/lang/constant/Constable"), (0, .class_ 4), (0, u "java/lang/Object")] 6

/-- java/lang/constant/Constable -/
def k6 : Class := { plain "java/lang/constant/Constable" (some 0) with
  accessFlags := 1537
  interfaces := #[]
  cf := some (fileOf pool6 1 #[] #[] 1537 3 #[] #[])
  fields := #[]
  methods := #[]
  instanceTypes := #[]
  staticTypes := #[]
  resolved := Array.replicate 11 none
  statics := none }

def pool7 : Array CpInfo := pool [(1, .class_ 2), (0, u "java/lang/constant/ConstantDesc"), (0, .class_ 4), (0, u "java/lang/Object")] 32

/-- java/lang/constant/ConstantDesc -/
def k7 : Class := { plain "java/lang/constant/ConstantDesc" (some 0) with
  accessFlags := 1537
  interfaces := #[]
  cf := some (fileOf pool7 1 #[] #[] 1537 3 #[] #[])
  fields := #[]
  methods := #[]
  instanceTypes := #[]
  staticTypes := #[]
  resolved := Array.replicate 37 none
  statics := none }

def pool8 : Array CpInfo := pool [(1, .methodref 2 3), (0, .class_ 4), (0, .nameAndType 5 6), (0, u "java/lang/Object"), (0, u "<init>"), (0, u "()V"), (2, .fieldref 10 11), (0, .class_ 12), (0, .nameAndType 13 14), (0, u "java/lang/String"), (0, u "value"), (0, u "[B"), (0, .fieldref 10 16), (0, .nameAndType 17 18), (0, u "coder"), (0, u "B"), (2, u "hash"), (0, u "I"), (2, u "hashIsZero"), (0, u "Z"), (0, .methodref 10 28), (0, .nameAndType 5 29), (0, u "([CIILjava/lang/Void;)V"), (7, u "(III)I"), (0, .fieldref 10 39), (0, .nameAndType 40 26), (0, u "COMPACT_STRINGS"), (1, .class_ 44), (1, u "java/lang/StringUTF16"), (0, u "compress"), (1, .methodref 42 48), (0, .nameAndType 49 50), (0, u "coderFromArrayLen"), (0, u "([BI)B"), (28, .class_ 81), (1, u "java/util/Objects"), (25, .class_ 109), (1, u "java/lang/StringLatin1"), (32, u "()Z"), (34, .methodref 42 178), (0, .nameAndType 45 179), (0, u "([CII)[B"), (154, u "()I"), (0, .methodref 10 336), (0, .nameAndType 17 337), (0, u "()B"), (25, u "([BI)C"), (27, u "(II)V"), (35, u "(I)C"), (64, .methodref 10 493), (0, .nameAndType 494 142), (0, u "isLatin1"), (0, .methodref 107 496), (0, .nameAndType 497 363), (0, u "charAt"), (3, u "checkIndex"), (3, .methodref 10 506), (0, .nameAndType 507 334), (0, u "length"), (3, .methodref 79 512), (0, .nameAndType 513 37), (0, u "checkFromToIndex"), (2, u "codePointCount"), (58, .class_ 576), (0, u "java/lang/CharSequence"), (22, u "CASE_INSENSITIVE_ORDER"), (0, u "Ljava/util/Comparator;"), (34, u "indexOf"), (0, u "(II)I"), (0, .methodref 107 638), (0, .nameAndType 635 639), (0, u "([BIII)I"), (370, u "([C)V"), (42, .fieldref 1054 1055), (0, .class_ 1056), (0, .nameAndType 1057 1058), (0, u "jdk/internal/util/Preconditions"), (0, u "SIOOBE_FORMATTER"), (0, u "Ljava/util/function/BiFunction;"), (0, .methodref 1054 1060), (0, .nameAndType 501 1061), (0, u "(IILjava/util/function/BiFunction;)I"), (39, u "serialPersistentFields"), (0, u "[Ljava/io/ObjectStreamField;"), (0, .class_ 1104), (0, u "java/lang/String$CaseInsensitiveComparator"), (1, .class_ 1107), (0, u "java/io/Serializable"), (0, .class_ 1109), (0, u "java/lang/Comparable"), (0, .class_ 1111), (0, u "java/lang/constant/Constable"), (0, .class_ 1113), (0, u "java/lang/constant/ConstantDesc"), (2, u "serialVersionUID"), (0, u "J"), (3, u "REPL"), (0, u "C"), (2, u "LATIN1"), (1, u "UTF16")] 323

def k8m0 : Method := { name := "<init>", desc := "()V", sig := { parameters := [], returnType := none }, accessFlags := 1, code := none }
def k8c1 : Code := { maxStack := 5, maxLocals := 2, code := jdk_42_method_3_code, exceptionTable := #[], attributes := #[] }
def k8m1 : Method := { name := "<init>", desc := "([C)V", sig := { parameters := [(.array .char)], returnType := none }, accessFlags := 1, code := some k8c1 }
def k8c2 : Code := { maxStack := 2, maxLocals := 1, code := jdk_42_method_54_code, exceptionTable := #[], attributes := #[] }
def k8m2 : Method := { name := "length", desc := "()I", sig := { parameters := [], returnType := some .int }, accessFlags := 1, code := some k8c2 }
def k8c3 : Code := { maxStack := 2, maxLocals := 2, code := jdk_42_method_56_code, exceptionTable := #[], attributes := #[] }
def k8m3 : Method := { name := "charAt", desc := "(I)C", sig := { parameters := [.int], returnType := some .char }, accessFlags := 1, code := some k8c3 }
def k8c4 : Code := { maxStack := 3, maxLocals := 3, code := jdk_42_method_59_code, exceptionTable := #[], attributes := #[] }
def k8m4 : Method := { name := "codePointCount", desc := "(II)I", sig := { parameters := [.int, .int], returnType := some .int }, accessFlags := 1, code := some k8c4 }
def k8c5 : Code := { maxStack := 4, maxLocals := 3, code := jdk_42_method_80_code, exceptionTable := #[], attributes := #[] }
def k8m5 : Method := { name := "indexOf", desc := "(II)I", sig := { parameters := [.int, .int], returnType := some .int }, accessFlags := 1, code := some k8c5 }
def k8c6 : Code := { maxStack := 4, maxLocals := 6, code := jdk_42_method_149_code, exceptionTable := #[], attributes := #[] }
def k8m6 : Method := { name := "<init>", desc := "([CIILjava/lang/Void;)V", sig := { parameters := [(.array .char), .int, .int, (.object "java/lang/Void")], returnType := none }, accessFlags := 2, code := some k8c6 }
def k8c7 : Code := { maxStack := 1, maxLocals := 1, code := jdk_42_method_152_code, exceptionTable := #[], attributes := #[] }
def k8m7 : Method := { name := "coder", desc := "()B", sig := { parameters := [], returnType := some .byte }, accessFlags := 0, code := some k8c7 }
def k8c8 : Code := { maxStack := 1, maxLocals := 1, code := jdk_42_method_154_code, exceptionTable := #[], attributes := #[] }
def k8m8 : Method := { name := "isLatin1", desc := "()Z", sig := { parameters := [], returnType := some .boolean }, accessFlags := 0, code := some k8c8 }
def k8c9 : Code := { maxStack := 3, maxLocals := 2, code := jdk_42_method_155_code, exceptionTable := #[], attributes := #[] }
def k8m9 : Method := { name := "checkIndex", desc := "(II)V", sig := { parameters := [.int, .int], returnType := none }, accessFlags := 8, code := some k8c9 }
/-- java/lang/String -/
def k8 : Class := { plain "java/lang/String" (some 0) with
  accessFlags := 49
  interfaces := #[3, 4, 5, 6, 7]
  cf := some (fileOf pool8 10 #[.nestMembers #[1103]] #[{ accessFlags := 1, nameIndex := 5, descriptorIndex := 6, attributes := #[] }, { accessFlags := 1, nameIndex := 5, descriptorIndex := 1010, attributes := #[] }, { accessFlags := 1, nameIndex := 507, descriptorIndex := 334, attributes := #[] }, { accessFlags := 1, nameIndex := 497, descriptorIndex := 427, attributes := #[] }, { accessFlags := 1, nameIndex := 516, descriptorIndex := 636, attributes := #[] }, { accessFlags := 1, nameIndex := 635, descriptorIndex := 636, attributes := #[] }, { accessFlags := 2, nameIndex := 5, descriptorIndex := 29, attributes := #[] }, { accessFlags := 0, nameIndex := 17, descriptorIndex := 337, attributes := #[] }, { accessFlags := 0, nameIndex := 494, descriptorIndex := 142, attributes := #[] }, { accessFlags := 8, nameIndex := 501, descriptorIndex := 391, attributes := #[] }] 49 2 #[1106, 1108, 575, 1110, 1112] #[{ accessFlags := 18, nameIndex := 13, descriptorIndex := 14, attributes := #[] }, { accessFlags := 18, nameIndex := 17, descriptorIndex := 18, attributes := #[] }, { accessFlags := 2, nameIndex := 21, descriptorIndex := 22, attributes := #[] }, { accessFlags := 2, nameIndex := 25, descriptorIndex := 26, attributes := #[] }, { accessFlags := 26, nameIndex := 1116, descriptorIndex := 1117, attributes := #[] }, { accessFlags := 24, nameIndex := 40, descriptorIndex := 26, attributes := #[] }, { accessFlags := 26, nameIndex := 1101, descriptorIndex := 1102, attributes := #[] }, { accessFlags := 26, nameIndex := 1121, descriptorIndex := 1122, attributes := #[] }, { accessFlags := 25, nameIndex := 599, descriptorIndex := 600, attributes := #[] }, { accessFlags := 24, nameIndex := 1125, descriptorIndex := 18, attributes := #[] }, { accessFlags := 24, nameIndex := 1127, descriptorIndex := 18, attributes := #[] }])
  fields := #[{ name := "value", type := (.array .byte), accessFlags := 18, slot := 0, constantValue := 0 }, { name := "coder", type := .byte, accessFlags := 18, slot := 1, constantValue := 0 }, { name := "hash", type := .int, accessFlags := 2, slot := 2, constantValue := 0 }, { name := "hashIsZero", type := .boolean, accessFlags := 2, slot := 3, constantValue := 0 }, { name := "serialVersionUID", type := .long, accessFlags := 26, slot := 0, constantValue := 0 }, { name := "COMPACT_STRINGS", type := .boolean, accessFlags := 24, slot := 1, constantValue := 0 }, { name := "serialPersistentFields", type := (.array (.object "java/io/ObjectStreamField")), accessFlags := 26, slot := 2, constantValue := 0 }, { name := "REPL", type := .char, accessFlags := 26, slot := 3, constantValue := 0 }, { name := "CASE_INSENSITIVE_ORDER", type := (.object "java/util/Comparator"), accessFlags := 25, slot := 4, constantValue := 0 }, { name := "LATIN1", type := .byte, accessFlags := 24, slot := 5, constantValue := 0 }, { name := "UTF16", type := .byte, accessFlags := 24, slot := 6, constantValue := 0 }]
  methods := #[k8m0, k8m1, k8m2, k8m3, k8m4, k8m5, k8m6, k8m7, k8m8, k8m9]
  instanceTypes := #[(.array .byte), .byte, .int, .boolean]
  staticTypes := #[.long, .boolean, (.array (.object "java/io/ObjectStreamField")), .char, (.object "java/util/Comparator"), .byte, .byte]
  resolved := Array.replicate 1451 none
  statics := some 0 }

def pool9 : Array CpInfo := pool [(6, .class_ 8), (1, u "java/lang/Object"), (0, u "<init>"), (0, u "()V"), (1, .class_ 14), (1, u "java/lang/StringUTF16"), (31, u "$assertionsDisabled"), (0, u "Z"), (13, u "HI_BYTE_SHIFT"), (0, u "I"), (2, u "LO_BYTE_SHIFT"), (49, .methodref 12 116), (0, .nameAndType 117 118), (0, u "compress"), (0, u "([CI[BII)I"), (3, u "([CII)[B"), (138, u "coderFromArrayLen"), (0, u "([BI)B"), (106, .class_ 371), (1, u "java/lang/StringUTF16$LinesSpliterator"), (58, u "MAX_LENGTH"), (196, .class_ 628), (0, u "java/lang/StringUTF16$CodePointsSpliterator"), (0, .class_ 630), (0, u "java/lang/StringUTF16$CharsSpliterator")] 4

def k9m0 : Method := { name := "<init>", desc := "()V", sig := { parameters := [], returnType := none }, accessFlags := 0, code := none }
def k9c1 : Code := { maxStack := 2, maxLocals := 2, code := jdk_52_method_15_code, exceptionTable := #[], attributes := #[] }
def k9m1 : Method := { name := "coderFromArrayLen", desc := "([BI)B", sig := { parameters := [(.array .byte), .int], returnType := some .byte }, accessFlags := 8, code := some k9c1 }
def k9c2 : Code := { maxStack := 5, maxLocals := 6, code := jdk_52_method_16_code, exceptionTable := #[], attributes := #[] }
def k9m2 : Method := { name := "compress", desc := "([CII)[B", sig := { parameters := [(.array .char), .int, .int], returnType := some (.array .byte) }, accessFlags := 9, code := some k9c2 }
def k9c3 : Code := { maxStack := 3, maxLocals := 7, code := jdk_52_method_21_code, exceptionTable := #[], attributes := #[] }
def k9m3 : Method := { name := "compress", desc := "([CI[BII)I", sig := { parameters := [(.array .char), .int, (.array .byte), .int, .int], returnType := some .int }, accessFlags := 9, code := some k9c3 }
/-- java/lang/StringUTF16 -/
def k9 : Class := { plain "java/lang/StringUTF16" (some 0) with
  accessFlags := 48
  interfaces := #[]
  cf := some (fileOf pool9 12 #[.nestMembers #[627, 629, 369]] #[{ accessFlags := 0, nameIndex := 9, descriptorIndex := 10, attributes := #[] }, { accessFlags := 8, nameIndex := 261, descriptorIndex := 262, attributes := #[] }, { accessFlags := 9, nameIndex := 117, descriptorIndex := 122, attributes := #[] }, { accessFlags := 9, nameIndex := 117, descriptorIndex := 118, attributes := #[] }] 48 6 #[] #[{ accessFlags := 26, nameIndex := 61, descriptorIndex := 62, attributes := #[] }, { accessFlags := 26, nameIndex := 65, descriptorIndex := 62, attributes := #[] }, { accessFlags := 24, nameIndex := 430, descriptorIndex := 62, attributes := #[] }, { accessFlags := 4120, nameIndex := 46, descriptorIndex := 47, attributes := #[] }])
  fields := #[{ name := "HI_BYTE_SHIFT", type := .int, accessFlags := 26, slot := 0, constantValue := 0 }, { name := "LO_BYTE_SHIFT", type := .int, accessFlags := 26, slot := 1, constantValue := 0 }, { name := "MAX_LENGTH", type := .int, accessFlags := 24, slot := 2, constantValue := 0 }, { name := "$assertionsDisabled", type := .boolean, accessFlags := 4120, slot := 3, constantValue := 0 }]
  methods := #[k9m0, k9m1, k9m2, k9m3]
  instanceTypes := #[]
  staticTypes := #[.int, .int, .int, .boolean]
  resolved := Array.replicate 635 none
  statics := none }

def pool10 : Array CpInfo := pool [(1, .class_ 2), (0, u "java/lang/String"), (1, .class_ 6), (1, u "java/lang/Object"), (0, u "<init>"), (0, u "()V"), (0, .methodref 1 10), (0, .nameAndType 11 12), (0, u "checkIndex"), (0, u "(II)V"), (1, .class_ 16), (1, u "java/lang/StringLatin1"), (21, .methodref 39 40), (0, .class_ 41), (0, .nameAndType 42 43), (0, u "java/lang/Math"), (0, u "min"), (0, u "(II)I"), (9, u "([BI)C"), (34, .methodref 14 89), (0, .nameAndType 90 91), (0, u "canEncode"), (0, u "(I)Z"), (0, .methodref 39 93), (0, .nameAndType 94 43), (0, u "max"), (0, .methodref 14 96), (0, .nameAndType 97 98), (0, u "indexOfChar"), (0, u "([BIII)I"), (2, u "indexOf"), (19, u "$assertionsDisabled"), (0, u "Z"), (98, .class_ 223), (1, u "java/lang/StringLatin1$LinesSpliterator"), (28, u "charAt"), (137, .class_ 391), (0, u "java/lang/StringLatin1$CharsSpliterator")] 3

def k10m0 : Method := { name := "<init>", desc := "()V", sig := { parameters := [], returnType := none }, accessFlags := 0, code := none }
def k10c1 : Code := { maxStack := 2, maxLocals := 2, code := jdk_43_method_2_code, exceptionTable := #[], attributes := #[] }
def k10m1 : Method := { name := "charAt", desc := "([BI)C", sig := { parameters := [(.array .byte), .int], returnType := some .char }, accessFlags := 9, code := some k10c1 }
def k10c2 : Code := { maxStack := 2, maxLocals := 1, code := jdk_43_method_4_code, exceptionTable := #[], attributes := #[] }
def k10m2 : Method := { name := "canEncode", desc := "(I)Z", sig := { parameters := [.int], returnType := some .boolean }, accessFlags := 9, code := some k10c2 }
def k10c3 : Code := { maxStack := 4, maxLocals := 4, code := jdk_43_method_22_code, exceptionTable := #[], attributes := #[] }
def k10m3 : Method := { name := "indexOf", desc := "([BIII)I", sig := { parameters := [(.array .byte), .int, .int, .int], returnType := some .int }, accessFlags := 9, code := some k10c3 }
def k10c4 : Code := { maxStack := 2, maxLocals := 6, code := jdk_43_method_23_code, exceptionTable := #[], attributes := #[] }
def k10m4 : Method := { name := "indexOfChar", desc := "([BIII)I", sig := { parameters := [(.array .byte), .int, .int, .int], returnType := some .int }, accessFlags := 10, code := some k10c4 }
/-- java/lang/StringLatin1 -/
def k10 : Class := { plain "java/lang/StringLatin1" (some 0) with
  accessFlags := 48
  interfaces := #[]
  cf := some (fileOf pool10 14 #[.nestMembers #[390, 221]] #[{ accessFlags := 0, nameIndex := 7, descriptorIndex := 8, attributes := #[] }, { accessFlags := 9, nameIndex := 252, descriptorIndex := 53, attributes := #[] }, { accessFlags := 9, nameIndex := 90, descriptorIndex := 91, attributes := #[] }, { accessFlags := 9, nameIndex := 101, descriptorIndex := 98, attributes := #[] }, { accessFlags := 10, nameIndex := 97, descriptorIndex := 98, attributes := #[] }] 48 4 #[] #[{ accessFlags := 4120, nameIndex := 121, descriptorIndex := 122, attributes := #[] }])
  fields := #[{ name := "$assertionsDisabled", type := .boolean, accessFlags := 4120, slot := 0, constantValue := 0 }]
  methods := #[k10m0, k10m1, k10m2, k10m3, k10m4]
  instanceTypes := #[]
  staticTypes := #[.boolean]
  resolved := Array.replicate 395 none
  statics := none }

def pool11 : Array CpInfo := pool [(1, .class_ 2), (0, u "java/lang/Math"), (1, .class_ 6), (1, u "java/lang/Object"), (0, u "<init>"), (0, u "()V"), (89, .class_ 100), (1, u "java/lang/Math$RandomNumberGeneratorHolder"), (71, u "negativeZeroFloatBits"), (0, u "J"), (2, u "negativeZeroDoubleBits"), (21, u "max"), (2, u "min"), (43, u "$assertionsDisabled"), (0, u "Z"), (88, u "(II)I"), (2, u "twoToTheDoubleScaleDown"), (0, u "D"), (4, u "twoToTheDoubleScaleUp"), (9, u "E"), (3, u "PI"), (2, u "TAU"), (2, u "DEGREES_TO_RADIANS"), (0, u "RADIANS_TO_DEGREES")] 94

def k11m0 : Method := { name := "<init>", desc := "()V", sig := { parameters := [], returnType := none }, accessFlags := 2, code := none }
def k11c1 : Code := { maxStack := 2, maxLocals := 2, code := jdk_29_method_65_code, exceptionTable := #[], attributes := #[] }
def k11m1 : Method := { name := "max", desc := "(II)I", sig := { parameters := [.int, .int], returnType := some .int }, accessFlags := 9, code := some k11c1 }
def k11c2 : Code := { maxStack := 2, maxLocals := 2, code := jdk_29_method_69_code, exceptionTable := #[], attributes := #[] }
def k11m2 : Method := { name := "min", desc := "(II)I", sig := { parameters := [.int, .int], returnType := some .int }, accessFlags := 9, code := some k11c2 }
/-- java/lang/Math -/
def k11 : Class := { plain "java/lang/Math" (some 0) with
  accessFlags := 49
  interfaces := #[]
  cf := some (fileOf pool11 1 #[.nestMembers #[98]] #[{ accessFlags := 2, nameIndex := 7, descriptorIndex := 8, attributes := #[] }, { accessFlags := 9, nameIndex := 198, descriptorIndex := 335, attributes := #[] }, { accessFlags := 9, nameIndex := 201, descriptorIndex := 335, attributes := #[] }] 49 4 #[] #[{ accessFlags := 25, nameIndex := 354, descriptorIndex := 339, attributes := #[] }, { accessFlags := 25, nameIndex := 358, descriptorIndex := 339, attributes := #[] }, { accessFlags := 25, nameIndex := 361, descriptorIndex := 339, attributes := #[] }, { accessFlags := 26, nameIndex := 364, descriptorIndex := 339, attributes := #[] }, { accessFlags := 26, nameIndex := 365, descriptorIndex := 339, attributes := #[] }, { accessFlags := 26, nameIndex := 172, descriptorIndex := 173, attributes := #[] }, { accessFlags := 26, nameIndex := 176, descriptorIndex := 173, attributes := #[] }, { accessFlags := 8, nameIndex := 344, descriptorIndex := 339, attributes := #[] }, { accessFlags := 8, nameIndex := 338, descriptorIndex := 339, attributes := #[] }, { accessFlags := 4120, nameIndex := 245, descriptorIndex := 246, attributes := #[] }])
  fields := #[{ name := "E", type := .double, accessFlags := 25, slot := 0, constantValue := 0 }, { name := "PI", type := .double, accessFlags := 25, slot := 1, constantValue := 0 }, { name := "TAU", type := .double, accessFlags := 25, slot := 2, constantValue := 0 }, { name := "DEGREES_TO_RADIANS", type := .double, accessFlags := 26, slot := 3, constantValue := 0 }, { name := "RADIANS_TO_DEGREES", type := .double, accessFlags := 26, slot := 4, constantValue := 0 }, { name := "negativeZeroFloatBits", type := .long, accessFlags := 26, slot := 5, constantValue := 0 }, { name := "negativeZeroDoubleBits", type := .long, accessFlags := 26, slot := 6, constantValue := 0 }, { name := "twoToTheDoubleScaleUp", type := .double, accessFlags := 8, slot := 7, constantValue := 0 }, { name := "twoToTheDoubleScaleDown", type := .double, accessFlags := 8, slot := 8, constantValue := 0 }, { name := "$assertionsDisabled", type := .boolean, accessFlags := 4120, slot := 9, constantValue := 0 }]
  methods := #[k11m0, k11m1, k11m2]
  instanceTypes := #[]
  staticTypes := #[.double, .double, .double, .double, .double, .long, .long, .double, .double, .boolean]
  resolved := Array.replicate 460 none
  statics := none }

def pool12 : Array CpInfo := pool [(2, .class_ 4), (1, u "java/lang/Object"), (0, u "<init>"), (0, u "()V"), (35, .class_ 44), (1, u "java/util/Objects"), (61, .class_ 108), (1, u "jdk/internal/util/Preconditions"), (2, .methodref 106 112), (0, .nameAndType 113 114), (0, u "checkFromToIndex"), (0, u "(IIILjava/util/function/BiFunction;)I"), (60, u "(III)I")] 8

def k12m0 : Method := { name := "<init>", desc := "()V", sig := { parameters := [], returnType := none }, accessFlags := 2, code := none }
def k12c1 : Code := { maxStack := 4, maxLocals := 3, code := jdk_31_method_18_code, exceptionTable := #[], attributes := #[] }
def k12m1 : Method := { name := "checkFromToIndex", desc := "(III)I", sig := { parameters := [.int, .int, .int], returnType := some .int }, accessFlags := 9, code := some k12c1 }
/-- java/util/Objects -/
def k12 : Class := { plain "java/util/Objects" (some 0) with
  accessFlags := 49
  interfaces := #[]
  cf := some (fileOf pool12 42 #[] #[{ accessFlags := 2, nameIndex := 5, descriptorIndex := 6, attributes := #[] }, { accessFlags := 9, nameIndex := 113, descriptorIndex := 175, attributes := #[] }] 49 2 #[] #[])
  fields := #[]
  methods := #[k12m0, k12m1]
  instanceTypes := #[]
  staticTypes := #[]
  resolved := Array.replicate 184 none
  statics := none }

def pool13 : Array CpInfo := pool [(2, .class_ 4), (1, u "java/lang/Object"), (0, u "<init>"), (0, u "()V"), (17, .class_ 26), (1, u "jdk/internal/util/Preconditions"), (6, u "checkIndex"), (13, u "checkFromToIndex"), (7, .class_ 56), (0, u "jdk/internal/util/Preconditions$4"), (57, .class_ 115), (0, u "jdk/internal/util/Preconditions$1"), (7, u "SIOOBE_FORMATTER"), (0, u "Ljava/util/function/BiFunction;"), (0, .class_ 126), (0, u "jdk/internal/util/Preconditions$2"), (3, u "AIOOBE_FORMATTER"), (0, .class_ 132), (0, u "jdk/internal/util/Preconditions$3"), (3, u "IOOBE_FORMATTER"), (41, u "(IILjava/util/function/BiFunction;)I"), (4, u "(IIILjava/util/function/BiFunction;)I")] 10

def k13m0 : Method := { name := "<init>", desc := "()V", sig := { parameters := [], returnType := none }, accessFlags := 1, code := none }
def k13c1 : Code := { maxStack := 3, maxLocals := 3, code := jdk_41_method_11_code, exceptionTable := #[], attributes := #[] }
def k13m1 : Method := { name := "checkIndex", desc := "(IILjava/util/function/BiFunction;)I", sig := { parameters := [.int, .int, (.object "java/util/function/BiFunction")], returnType := some .int }, accessFlags := 9, code := some k13c1 }
def k13c2 : Code := { maxStack := 4, maxLocals := 4, code := jdk_41_method_12_code, exceptionTable := #[], attributes := #[] }
def k13m2 : Method := { name := "checkFromToIndex", desc := "(IIILjava/util/function/BiFunction;)I", sig := { parameters := [.int, .int, .int, (.object "java/util/function/BiFunction")], returnType := some .int }, accessFlags := 9, code := some k13c2 }
/-- jdk/internal/util/Preconditions -/
def k13 : Class := { plain "jdk/internal/util/Preconditions" (some 0) with
  accessFlags := 33
  interfaces := #[]
  cf := some (fileOf pool13 24 #[.nestMembers #[55, 131, 125, 114]] #[{ accessFlags := 1, nameIndex := 5, descriptorIndex := 6, attributes := #[] }, { accessFlags := 9, nameIndex := 33, descriptorIndex := 178, attributes := #[] }, { accessFlags := 9, nameIndex := 47, descriptorIndex := 183, attributes := #[] }] 33 2 #[] #[{ accessFlags := 25, nameIndex := 123, descriptorIndex := 124, attributes := #[] }, { accessFlags := 25, nameIndex := 130, descriptorIndex := 124, attributes := #[] }, { accessFlags := 25, nameIndex := 136, descriptorIndex := 124, attributes := #[] }])
  fields := #[{ name := "SIOOBE_FORMATTER", type := (.object "java/util/function/BiFunction"), accessFlags := 25, slot := 0, constantValue := 0 }, { name := "AIOOBE_FORMATTER", type := (.object "java/util/function/BiFunction"), accessFlags := 25, slot := 1, constantValue := 0 }, { name := "IOOBE_FORMATTER", type := (.object "java/util/function/BiFunction"), accessFlags := 25, slot := 2, constantValue := 0 }]
  methods := #[k13m0, k13m1, k13m2]
  instanceTypes := #[]
  staticTypes := #[(.object "java/util/function/BiFunction"), (.object "java/util/function/BiFunction"), (.object "java/util/function/BiFunction")]
  resolved := Array.replicate 194 none
  statics := some 1 }

def pool14 : Array CpInfo := pool [(9, u "<init>"), (6, .class_ 18), (1, u "java/lang/Object"), (0, u "()V"), (1, .class_ 23), (1, u "jdk/internal/util/ArraysSupport"), (0, u "LOG2_ARRAY_LONG_INDEX_SCALE"), (0, u "I"), (2, u "U"), (0, u "Ljdk/internal/misc/Unsafe;"), (8, u "BIG_ENDIAN"), (0, u "Z"), (8, u "LOG2_BYTE_BIT_SIZE"), (4, u "LOG2_ARRAY_INT_INDEX_SCALE"), (54, u "JLA"), (0, u "Ljdk/internal/access/JavaLangAccess;"), (11, u "LOG2_ARRAY_BOOLEAN_INDEX_SCALE"), (9, u "LOG2_ARRAY_BYTE_INDEX_SCALE"), (5, u "LOG2_ARRAY_CHAR_INDEX_SCALE"), (5, u "LOG2_ARRAY_SHORT_INDEX_SCALE"), (18, u "LOG2_ARRAY_FLOAT_INDEX_SCALE"), (24, u "LOG2_ARRAY_DOUBLE_INDEX_SCALE"), (89, u "T_BOOLEAN"), (2, u "T_CHAR"), (1, u "T_FLOAT"), (1, u "T_DOUBLE"), (1, u "T_BYTE"), (1, u "T_SHORT"), (1, u "T_INT"), (1, u "T_LONG"), (1, u "SOFT_MAX_ARRAY_LENGTH")] 83

def k14m0 : Method := { name := "<init>", desc := "()V", sig := { parameters := [], returnType := none }, accessFlags := 2, code := none }
/-- jdk/internal/util/ArraysSupport -/
def k14 : Class := { plain "jdk/internal/util/ArraysSupport" (some 0) with
  accessFlags := 33
  interfaces := #[]
  cf := some (fileOf pool14 21 #[] #[{ accessFlags := 2, nameIndex := 9, descriptorIndex := 19, attributes := #[] }] 33 16 #[] #[{ accessFlags := 24, nameIndex := 28, descriptorIndex := 29, attributes := #[] }, { accessFlags := 26, nameIndex := 38, descriptorIndex := 39, attributes := #[] }, { accessFlags := 25, nameIndex := 121, descriptorIndex := 25, attributes := #[] }, { accessFlags := 25, nameIndex := 131, descriptorIndex := 25, attributes := #[] }, { accessFlags := 25, nameIndex := 137, descriptorIndex := 25, attributes := #[] }, { accessFlags := 25, nameIndex := 143, descriptorIndex := 25, attributes := #[] }, { accessFlags := 25, nameIndex := 53, descriptorIndex := 25, attributes := #[] }, { accessFlags := 25, nameIndex := 24, descriptorIndex := 25, attributes := #[] }, { accessFlags := 25, nameIndex := 162, descriptorIndex := 25, attributes := #[] }, { accessFlags := 25, nameIndex := 187, descriptorIndex := 25, attributes := #[] }, { accessFlags := 26, nameIndex := 48, descriptorIndex := 25, attributes := #[] }, { accessFlags := 25, nameIndex := 277, descriptorIndex := 25, attributes := #[] }, { accessFlags := 25, nameIndex := 280, descriptorIndex := 25, attributes := #[] }, { accessFlags := 25, nameIndex := 282, descriptorIndex := 25, attributes := #[] }, { accessFlags := 25, nameIndex := 284, descriptorIndex := 25, attributes := #[] }, { accessFlags := 25, nameIndex := 286, descriptorIndex := 25, attributes := #[] }, { accessFlags := 25, nameIndex := 288, descriptorIndex := 25, attributes := #[] }, { accessFlags := 25, nameIndex := 290, descriptorIndex := 25, attributes := #[] }, { accessFlags := 25, nameIndex := 292, descriptorIndex := 25, attributes := #[] }, { accessFlags := 26, nameIndex := 108, descriptorIndex := 109, attributes := #[] }, { accessFlags := 25, nameIndex := 294, descriptorIndex := 25, attributes := #[] }])
  fields := #[{ name := "U", type := (.object "jdk/internal/misc/Unsafe"), accessFlags := 24, slot := 0, constantValue := 0 }, { name := "BIG_ENDIAN", type := .boolean, accessFlags := 26, slot := 1, constantValue := 0 }, { name := "LOG2_ARRAY_BOOLEAN_INDEX_SCALE", type := .int, accessFlags := 25, slot := 2, constantValue := 0 }, { name := "LOG2_ARRAY_BYTE_INDEX_SCALE", type := .int, accessFlags := 25, slot := 3, constantValue := 0 }, { name := "LOG2_ARRAY_CHAR_INDEX_SCALE", type := .int, accessFlags := 25, slot := 4, constantValue := 0 }, { name := "LOG2_ARRAY_SHORT_INDEX_SCALE", type := .int, accessFlags := 25, slot := 5, constantValue := 0 }, { name := "LOG2_ARRAY_INT_INDEX_SCALE", type := .int, accessFlags := 25, slot := 6, constantValue := 0 }, { name := "LOG2_ARRAY_LONG_INDEX_SCALE", type := .int, accessFlags := 25, slot := 7, constantValue := 0 }, { name := "LOG2_ARRAY_FLOAT_INDEX_SCALE", type := .int, accessFlags := 25, slot := 8, constantValue := 0 }, { name := "LOG2_ARRAY_DOUBLE_INDEX_SCALE", type := .int, accessFlags := 25, slot := 9, constantValue := 0 }, { name := "LOG2_BYTE_BIT_SIZE", type := .int, accessFlags := 26, slot := 10, constantValue := 0 }, { name := "T_BOOLEAN", type := .int, accessFlags := 25, slot := 11, constantValue := 0 }, { name := "T_CHAR", type := .int, accessFlags := 25, slot := 12, constantValue := 0 }, { name := "T_FLOAT", type := .int, accessFlags := 25, slot := 13, constantValue := 0 }, { name := "T_DOUBLE", type := .int, accessFlags := 25, slot := 14, constantValue := 0 }, { name := "T_BYTE", type := .int, accessFlags := 25, slot := 15, constantValue := 0 }, { name := "T_SHORT", type := .int, accessFlags := 25, slot := 16, constantValue := 0 }, { name := "T_INT", type := .int, accessFlags := 25, slot := 17, constantValue := 0 }, { name := "T_LONG", type := .int, accessFlags := 25, slot := 18, constantValue := 0 }, { name := "JLA", type := (.object "jdk/internal/access/JavaLangAccess"), accessFlags := 26, slot := 19, constantValue := 0 }, { name := "SOFT_MAX_ARRAY_LENGTH", type := .int, accessFlags := 25, slot := 20, constantValue := 0 }]
  methods := #[k14m0]
  instanceTypes := #[]
  staticTypes := #[(.object "jdk/internal/misc/Unsafe"), .boolean, .int, .int, .int, .int, .int, .int, .int, .int, .int, .int, .int, .int, .int, .int, .int, .int, .int, (.object "jdk/internal/access/JavaLangAccess"), .int]
  resolved := Array.replicate 378 none
  statics := none }

def pool15 : Array CpInfo := pool [(1, u "java/lang/Cloneable"), (0, .class_ 1), (0, u "java/lang/Object"), (0, .class_ 3)] 3

/-- java/lang/Cloneable -/
def k15 : Class := { plain "java/lang/Cloneable" (some 0) with
  accessFlags := 1537
  interfaces := #[]
  cf := some (fileOf pool15 2 #[] #[] 1537 4 #[] #[])
  fields := #[]
  methods := #[]
  instanceTypes := #[]
  staticTypes := #[]
  resolved := Array.replicate 8 none
  statics := none }

/-- the primitive byte -/
def k16 : Class := { plain "byte" none with kind := .primitive 'B', accessFlags := 0x411 }
/-- [B -/
def k17 : Class := { plain "[B" (some 0) with kind := .array 16 .byte, interfaces := #[15, 3], accessFlags := 1041 }

/-- the primitive char -/
def k18 : Class := { plain "char" none with kind := .primitive 'C', accessFlags := 0x411 }
/-- [C -/
def k19 : Class := { plain "[C" (some 0) with kind := .array 18 .char, interfaces := #[15, 3], accessFlags := 1041 }

def heap : Heap := #[{ cls := 8, slots := #[.long 0, .int 1, .null, .int 0, .null, .int 0, .int 0], vm := .statics 8 },
  { cls := 13, slots := #[.null, .null, .null], vm := .statics 13 }]
def classes : Array Class := #[k0, k1, k2, k3, k4, k5, k6, k7, k8, k9, k10, k11, k12, k13, k14, k15, k16, k17, k18, k19]
def interned : List (Array UInt16 × Addr) := []
def slotsUsed : Nat := 10
def theMethod : MethodId := ⟨1, 3⟩
def args0 : Array Value := #[.int 5, .int 5, .int 5, .int 5]
def aboutOver (below : List Frame) : State where
  vm := { classes := classes, interned := interned.toArray }
  heap := heap
  slotsUsed := slotsUsed
  threads := #[{ frames := .invoking theMethod args0 :: below }]
def below0 : List Frame := [.native { method := ⟨0, 0⟩, args := #[] }]
def about1 : State := aboutOver below0
def p0 : Program := .bare "" "" ""
def e0 : Env := launch0.env 0 0 0
theorem w_frames : about1.frames = Frame.invoking theMethod args0 :: below0 := rfl
set_option maxRecDepth 65536 in
theorem w_args : argsFit about1.vm theMethod args0 = true := by decide +kernel
set_option maxRecDepth 65536 in
theorem w_heap : heapFits about1 = true := by decide +kernel
set_option maxRecDepth 65536 in
theorem w_runnable : about1.curStatus? = some .runnable := by decide +kernel
set_option maxRecDepth 65536 in
theorem w_alone : about1.alone = true := by decide +kernel
set_option maxRecDepth 65536 in
theorem w_named : about1.methodNamed? x = some theMethod := by decide +kernel
set_option maxRecDepth 65536 in
theorem w_hears : about1.hears theMethod below0 = true := by decide +kernel
set_option maxRecDepth 65536 in
theorem w_ripe : about1.ripe theMethod args0 below0 = true := by decide +kernel
theorem w_running : about1.status = .running := rfl
set_option maxRecDepth 65536 in
theorem w_room : about1.hasRoom e0.platform room_1 = true :=
  launch0.hasRoom_least _ room_1 (by decide +kernel) (by decide +kernel) (by decide +kernel) (by decide +kernel) (by decide +kernel) (by decide +kernel)
theorem allAtoms_all (ts : List Jvm.Cond) (a : Array Jvm.Value) (st : Jvm.State) : (allAtoms ts).before a st = ts.all (fun c => c.before a st) := by
  induction ts with
  | nil => rfl
  | cons c t ih =>
    show (Jvm.Cond.and c (allAtoms t)).before a st = _
    rw [Jvm.Cond.before_and, ih, List.all_cons]
def words1 : List Jvm.Cond := Jvm.Cond.code x code maxLocals ret :: tables_1
/-- a 'code' word, met by the world's own term for the bytes: nothing is compared byte by byte -/
theorem code_word {y : MethodName} {bytes : ByteArray} {mx : Nat} {rt : Option FieldType} {a : Array Value} {s : State} {m : MethodId} {meth : Method} {c : Code} (h1 : s.methodNamed? y = some m) (h2 : s.vm.method? m = some meth) (h3 : meth.code = some c) (h4 : c.code = bytes)
    (h5 : (c.maxLocals == mx && c.exceptionTable.isEmpty && decide (c.maxStack ≤ mostOperands) && decide (meth.sig.returnType = rt) && !meth.locks && decide (parseMethodDescriptor y.desc = some meth.sig)) = true) : (Jvm.Cond.code y bytes mx rt).before a s = true := by
  simp only [Bool.and_eq_true, beq_iff_eq, Bool.not_eq_true', decide_eq_true_eq] at h5
  obtain ⟨⟨⟨⟨⟨g1, g2⟩, g3⟩, g4⟩, g5⟩, g6⟩ := h5
  simp [Cond.before, Cond.holds, Cond.value, h1, h2, h3, h4, g1, g2, g3, g4, g5, g6]
def isCode : Jvm.Cond → Bool
  | .code _ _ _ _ => true
  | _ => false
theorem all_split {L : List Jvm.Cond} {P : Jvm.Cond → Bool} (h1 : L.all (fun c => isCode c || P c) = true) (h2 : ∀ c ∈ L.filter isCode, P c = true) : L.all P = true := by
  refine List.all_eq_true.mpr fun c hc => ?_
  have h := List.all_eq_true.mp h1 c hc
  rcases Bool.eq_false_or_eq_true (isCode c) with hi | hi
  · exact h2 c (List.mem_filter.mpr ⟨hc, hi⟩)
  · simpa [hi] using h
set_option maxRecDepth 65536 in
theorem w_c0 : (Jvm.Cond.code x code maxLocals ret).before args0 about1 = true := code_word (m := ⟨1, 3⟩) (meth := k1m3) (c := k1c3) (by decide +kernel) rfl rfl rfl (by decide +kernel)
set_option maxRecDepth 65536 in
theorem w_c1 : (Jvm.Cond.code ({ cls := "com/example/libprocgraph/libprocgraph/reader/TextCursorPassLineEndPinLaw", name := "ch", desc := "(I)C" } : Jvm.MethodName) method_2_code (1 : Nat) (Option.some Jvm.ClassFile.FieldType.char)).before args0 about1 = true := code_word (m := ⟨1, 1⟩) (meth := k1m1) (c := k1c1) (by decide +kernel) rfl rfl rfl (by decide +kernel)
set_option maxRecDepth 65536 in
theorem w_c2 : (Jvm.Cond.code ({ cls := "java/lang/String", name := "<init>", desc := "([C)V" } : Jvm.MethodName) jdk_42_method_3_code (2 : Nat) (Option.none : Option Jvm.ClassFile.FieldType)).before args0 about1 = true := code_word (m := ⟨8, 1⟩) (meth := k8m1) (c := k8c1) (by decide +kernel) rfl rfl rfl (by decide +kernel)
set_option maxRecDepth 65536 in
theorem w_c3 : (Jvm.Cond.code ({ cls := "java/lang/String", name := "<init>", desc := "([CIILjava/lang/Void;)V" } : Jvm.MethodName) jdk_42_method_149_code (6 : Nat) (Option.none : Option Jvm.ClassFile.FieldType)).before args0 about1 = true := code_word (m := ⟨8, 6⟩) (meth := k8m6) (c := k8c6) (by decide +kernel) rfl rfl rfl (by decide +kernel)
set_option maxRecDepth 65536 in
theorem w_c4 : (Jvm.Cond.code ({ cls := "java/lang/Object", name := "<init>", desc := "()V" } : Jvm.MethodName) object_method_1_code (1 : Nat) (Option.none : Option Jvm.ClassFile.FieldType)).before args0 about1 = true := code_word (m := ⟨0, 0⟩) (meth := k0m0) (c := k0c0) (by decide +kernel) rfl rfl rfl (by decide +kernel)
set_option maxRecDepth 65536 in
theorem w_c5 : (Jvm.Cond.code ({ cls := "java/lang/StringUTF16", name := "compress", desc := "([CII)[B" } : Jvm.MethodName) jdk_52_method_16_code (6 : Nat) (Option.some (Jvm.ClassFile.FieldType.array Jvm.ClassFile.FieldType.byte))).before args0 about1 = true := code_word (m := ⟨9, 2⟩) (meth := k9m2) (c := k9c2) (by decide +kernel) rfl rfl rfl (by decide +kernel)
set_option maxRecDepth 65536 in
theorem w_c6 : (Jvm.Cond.code ({ cls := "java/lang/StringUTF16", name := "compress", desc := "([CI[BII)I" } : Jvm.MethodName) jdk_52_method_21_code (7 : Nat) (Option.some Jvm.ClassFile.FieldType.int)).before args0 about1 = true := code_word (m := ⟨9, 3⟩) (meth := k9m3) (c := k9c3) (by decide +kernel) rfl rfl rfl (by decide +kernel)
set_option maxRecDepth 65536 in
theorem w_c7 : (Jvm.Cond.code ({ cls := "java/lang/StringUTF16", name := "coderFromArrayLen", desc := "([BI)B" } : Jvm.MethodName) jdk_52_method_15_code (2 : Nat) (Option.some Jvm.ClassFile.FieldType.byte)).before args0 about1 = true := code_word (m := ⟨9, 1⟩) (meth := k9m1) (c := k9c1) (by decide +kernel) rfl rfl rfl (by decide +kernel)
set_option maxRecDepth 65536 in
theorem w_c8 : (Jvm.Cond.code ({ cls := "com/example/libprocgraph/libprocgraph/reader/TextCursor", name := "<init>", desc := "(Ljava/lang/String;)V" } : Jvm.MethodName) prog_63_method_1_code (2 : Nat) (Option.none : Option Jvm.ClassFile.FieldType)).before args0 about1 = true := code_word (m := ⟨2, 0⟩) (meth := k2m0) (c := k2c0) (by decide +kernel) rfl rfl rfl (by decide +kernel)
set_option maxRecDepth 65536 in
theorem w_c9 : (Jvm.Cond.code ({ cls := "com/example/libprocgraph/libprocgraph/reader/TextCursor", name := "skipRestOfLine", desc := "()V" } : Jvm.MethodName) prog_63_method_8_code (2 : Nat) (Option.none : Option Jvm.ClassFile.FieldType)).before args0 about1 = true := code_word (m := ⟨2, 5⟩) (meth := k2m5) (c := k2c5) (by decide +kernel) rfl rfl rfl (by decide +kernel)
set_option maxRecDepth 65536 in
theorem w_c10 : (Jvm.Cond.code ({ cls := "java/lang/String", name := "indexOf", desc := "(II)I" } : Jvm.MethodName) jdk_42_method_80_code (3 : Nat) (Option.some Jvm.ClassFile.FieldType.int)).before args0 about1 = true := code_word (m := ⟨8, 5⟩) (meth := k8m5) (c := k8c5) (by decide +kernel) rfl rfl rfl (by decide +kernel)
set_option maxRecDepth 65536 in
theorem w_c11 : (Jvm.Cond.code ({ cls := "java/lang/String", name := "isLatin1", desc := "()Z" } : Jvm.MethodName) jdk_42_method_154_code (1 : Nat) (Option.some Jvm.ClassFile.FieldType.boolean)).before args0 about1 = true := code_word (m := ⟨8, 8⟩) (meth := k8m8) (c := k8c8) (by decide +kernel) rfl rfl rfl (by decide +kernel)
set_option maxRecDepth 65536 in
theorem w_c12 : (Jvm.Cond.code ({ cls := "java/lang/String", name := "length", desc := "()I" } : Jvm.MethodName) jdk_42_method_54_code (1 : Nat) (Option.some Jvm.ClassFile.FieldType.int)).before args0 about1 = true := code_word (m := ⟨8, 2⟩) (meth := k8m2) (c := k8c2) (by decide +kernel) rfl rfl rfl (by decide +kernel)
set_option maxRecDepth 65536 in
theorem w_c13 : (Jvm.Cond.code ({ cls := "java/lang/String", name := "coder", desc := "()B" } : Jvm.MethodName) jdk_42_method_152_code (1 : Nat) (Option.some Jvm.ClassFile.FieldType.byte)).before args0 about1 = true := code_word (m := ⟨8, 7⟩) (meth := k8m7) (c := k8c7) (by decide +kernel) rfl rfl rfl (by decide +kernel)
set_option maxRecDepth 65536 in
theorem w_c14 : (Jvm.Cond.code ({ cls := "java/lang/StringLatin1", name := "indexOf", desc := "([BIII)I" } : Jvm.MethodName) jdk_43_method_22_code (4 : Nat) (Option.some Jvm.ClassFile.FieldType.int)).before args0 about1 = true := code_word (m := ⟨10, 3⟩) (meth := k10m3) (c := k10c3) (by decide +kernel) rfl rfl rfl (by decide +kernel)
set_option maxRecDepth 65536 in
theorem w_c15 : (Jvm.Cond.code ({ cls := "java/lang/StringLatin1", name := "canEncode", desc := "(I)Z" } : Jvm.MethodName) jdk_43_method_4_code (1 : Nat) (Option.some Jvm.ClassFile.FieldType.boolean)).before args0 about1 = true := code_word (m := ⟨10, 2⟩) (meth := k10m2) (c := k10c2) (by decide +kernel) rfl rfl rfl (by decide +kernel)
set_option maxRecDepth 65536 in
theorem w_c16 : (Jvm.Cond.code ({ cls := "java/lang/Math", name := "max", desc := "(II)I" } : Jvm.MethodName) jdk_29_method_65_code (2 : Nat) (Option.some Jvm.ClassFile.FieldType.int)).before args0 about1 = true := code_word (m := ⟨11, 1⟩) (meth := k11m1) (c := k11c1) (by decide +kernel) rfl rfl rfl (by decide +kernel)
set_option maxRecDepth 65536 in
theorem w_c17 : (Jvm.Cond.code ({ cls := "java/lang/Math", name := "min", desc := "(II)I" } : Jvm.MethodName) jdk_29_method_69_code (2 : Nat) (Option.some Jvm.ClassFile.FieldType.int)).before args0 about1 = true := code_word (m := ⟨11, 2⟩) (meth := k11m2) (c := k11c2) (by decide +kernel) rfl rfl rfl (by decide +kernel)
set_option maxRecDepth 65536 in
theorem w_c18 : (Jvm.Cond.code ({ cls := "java/lang/StringLatin1", name := "indexOfChar", desc := "([BIII)I" } : Jvm.MethodName) jdk_43_method_23_code (6 : Nat) (Option.some Jvm.ClassFile.FieldType.int)).before args0 about1 = true := code_word (m := ⟨10, 4⟩) (meth := k10m4) (c := k10c4) (by decide +kernel) rfl rfl rfl (by decide +kernel)
set_option maxRecDepth 65536 in
theorem w_c19 : (Jvm.Cond.code ({ cls := "com/example/libprocgraph/libprocgraph/reader/TextCursor", name := "advance", desc := "(I)V" } : Jvm.MethodName) prog_63_method_22_code (2 : Nat) (Option.none : Option Jvm.ClassFile.FieldType)).before args0 about1 = true := code_word (m := ⟨2, 8⟩) (meth := k2m8) (c := k2c8) (by decide +kernel) rfl rfl rfl (by decide +kernel)
set_option maxRecDepth 65536 in
theorem w_c20 : (Jvm.Cond.code ({ cls := "java/lang/String", name := "codePointCount", desc := "(II)I" } : Jvm.MethodName) jdk_42_method_59_code (3 : Nat) (Option.some Jvm.ClassFile.FieldType.int)).before args0 about1 = true := code_word (m := ⟨8, 4⟩) (meth := k8m4) (c := k8c4) (by decide +kernel) rfl rfl rfl (by decide +kernel)
set_option maxRecDepth 65536 in
theorem w_c21 : (Jvm.Cond.code ({ cls := "java/util/Objects", name := "checkFromToIndex", desc := "(III)I" } : Jvm.MethodName) jdk_31_method_18_code (3 : Nat) (Option.some Jvm.ClassFile.FieldType.int)).before args0 about1 = true := code_word (m := ⟨12, 1⟩) (meth := k12m1) (c := k12c1) (by decide +kernel) rfl rfl rfl (by decide +kernel)
set_option maxRecDepth 65536 in
theorem w_c22 : (Jvm.Cond.code ({ cls := "jdk/internal/util/Preconditions", name := "checkFromToIndex", desc := "(IIILjava/util/function/BiFunction;)I" } : Jvm.MethodName) jdk_41_method_12_code (4 : Nat) (Option.some Jvm.ClassFile.FieldType.int)).before args0 about1 = true := code_word (m := ⟨13, 2⟩) (meth := k13m2) (c := k13c2) (by decide +kernel) rfl rfl rfl (by decide +kernel)
set_option maxRecDepth 65536 in
theorem w_c23 : (Jvm.Cond.code ({ cls := "com/example/libprocgraph/libprocgraph/reader/TextCursor", name := "atLineEnd", desc := "()Z" } : Jvm.MethodName) prog_63_method_6_code (1 : Nat) (Option.some Jvm.ClassFile.FieldType.boolean)).before args0 about1 = true := code_word (m := ⟨2, 3⟩) (meth := k2m3) (c := k2c3) (by decide +kernel) rfl rfl rfl (by decide +kernel)
set_option maxRecDepth 65536 in
theorem w_c24 : (Jvm.Cond.code ({ cls := "java/lang/String", name := "charAt", desc := "(I)C" } : Jvm.MethodName) jdk_42_method_56_code (2 : Nat) (Option.some Jvm.ClassFile.FieldType.char)).before args0 about1 = true := code_word (m := ⟨8, 3⟩) (meth := k8m3) (c := k8c3) (by decide +kernel) rfl rfl rfl (by decide +kernel)
set_option maxRecDepth 65536 in
theorem w_c25 : (Jvm.Cond.code ({ cls := "java/lang/StringLatin1", name := "charAt", desc := "([BI)C" } : Jvm.MethodName) jdk_43_method_2_code (2 : Nat) (Option.some Jvm.ClassFile.FieldType.char)).before args0 about1 = true := code_word (m := ⟨10, 1⟩) (meth := k10m1) (c := k10c1) (by decide +kernel) rfl rfl rfl (by decide +kernel)
set_option maxRecDepth 65536 in
theorem w_c26 : (Jvm.Cond.code ({ cls := "java/lang/String", name := "checkIndex", desc := "(II)V" } : Jvm.MethodName) jdk_42_method_155_code (2 : Nat) (Option.none : Option Jvm.ClassFile.FieldType)).before args0 about1 = true := code_word (m := ⟨8, 9⟩) (meth := k8m9) (c := k8c9) (by decide +kernel) rfl rfl rfl (by decide +kernel)
set_option maxRecDepth 65536 in
theorem w_c27 : (Jvm.Cond.code ({ cls := "jdk/internal/util/Preconditions", name := "checkIndex", desc := "(IILjava/util/function/BiFunction;)I" } : Jvm.MethodName) jdk_41_method_11_code (3 : Nat) (Option.some Jvm.ClassFile.FieldType.int)).before args0 about1 = true := code_word (m := ⟨13, 1⟩) (meth := k13m1) (c := k13c1) (by decide +kernel) rfl rfl rfl (by decide +kernel)
set_option maxRecDepth 65536 in
theorem w_c28 : (Jvm.Cond.code ({ cls := "com/example/libprocgraph/libprocgraph/reader/TextCursor", name := "line", desc := "()I" } : Jvm.MethodName) prog_63_method_2_code (1 : Nat) (Option.some Jvm.ClassFile.FieldType.int)).before args0 about1 = true := code_word (m := ⟨2, 1⟩) (meth := k2m1) (c := k2c1) (by decide +kernel) rfl rfl rfl (by decide +kernel)
set_option maxRecDepth 65536 in
theorem w_c29 : (Jvm.Cond.code ({ cls := "com/example/libprocgraph/libprocgraph/reader/TextCursor", name := "column", desc := "()I" } : Jvm.MethodName) prog_63_method_3_code (1 : Nat) (Option.some Jvm.ClassFile.FieldType.int)).before args0 about1 = true := code_word (m := ⟨2, 2⟩) (meth := k2m2) (c := k2c2) (by decide +kernel) rfl rfl rfl (by decide +kernel)
set_option maxRecDepth 65536 in
theorem w_c30 : (Jvm.Cond.code ({ cls := "com/example/libprocgraph/libprocgraph/reader/TextCursor", name := "passLineEnd", desc := "()V" } : Jvm.MethodName) prog_63_method_7_code (1 : Nat) (Option.none : Option Jvm.ClassFile.FieldType)).before args0 about1 = true := code_word (m := ⟨2, 4⟩) (meth := k2m4) (c := k2c4) (by decide +kernel) rfl rfl rfl (by decide +kernel)
set_option maxRecDepth 65536 in
theorem w_c31 : (Jvm.Cond.code ({ cls := "com/example/libprocgraph/libprocgraph/reader/TextCursorPassLineEndPinLaw", name := "at", desc := "(Lcom/example/libprocgraph/libprocgraph/reader/TextCursor;I[CI)Z" } : Jvm.MethodName) method_3_code (4 : Nat) (Option.some Jvm.ClassFile.FieldType.boolean)).before args0 about1 = true := code_word (m := ⟨1, 2⟩) (meth := k1m2) (c := k1c2) (by decide +kernel) rfl rfl rfl (by decide +kernel)
set_option maxRecDepth 65536 in
theorem w_c32 : (Jvm.Cond.code ({ cls := "com/example/libprocgraph/libprocgraph/reader/TextCursor", name := "has", desc := "(I)Z" } : Jvm.MethodName) prog_63_method_10_code (2 : Nat) (Option.some Jvm.ClassFile.FieldType.boolean)).before args0 about1 = true := code_word (m := ⟨2, 6⟩) (meth := k2m6) (c := k2c6) (by decide +kernel) rfl rfl rfl (by decide +kernel)
set_option maxRecDepth 65536 in
theorem w_c33 : (Jvm.Cond.code ({ cls := "com/example/libprocgraph/libprocgraph/reader/TextCursor", name := "charAt", desc := "(I)C" } : Jvm.MethodName) prog_63_method_11_code (2 : Nat) (Option.some Jvm.ClassFile.FieldType.char)).before args0 about1 = true := code_word (m := ⟨2, 7⟩) (meth := k2m7) (c := k2c7) (by decide +kernel) rfl rfl rfl (by decide +kernel)
def codes1 : List Jvm.Cond := [Jvm.Cond.code x code maxLocals ret, Jvm.Cond.code ({ cls := "com/example/libprocgraph/libprocgraph/reader/TextCursorPassLineEndPinLaw", name := "ch", desc := "(I)C" } : Jvm.MethodName) method_2_code (1 : Nat) (Option.some Jvm.ClassFile.FieldType.char), Jvm.Cond.code ({ cls := "java/lang/String", name := "<init>", desc := "([C)V" } : Jvm.MethodName) jdk_42_method_3_code (2 : Nat) (Option.none : Option Jvm.ClassFile.FieldType), Jvm.Cond.code ({ cls := "java/lang/String", name := "<init>", desc := "([CIILjava/lang/Void;)V" } : Jvm.MethodName) jdk_42_method_149_code (6 : Nat) (Option.none : Option Jvm.ClassFile.FieldType), Jvm.Cond.code ({ cls := "java/lang/Object", name := "<init>", desc := "()V" } : Jvm.MethodName) object_method_1_code (1 : Nat) (Option.none : Option Jvm.ClassFile.FieldType), Jvm.Cond.code ({ cls := "java/lang/StringUTF16", name := "compress", desc := "([CII)[B" } : Jvm.MethodName) jdk_52_method_16_code (6 : Nat) (Option.some (Jvm.ClassFile.FieldType.array Jvm.ClassFile.FieldType.byte)), Jvm.Cond.code ({ cls := "java/lang/StringUTF16", name := "compress", desc := "([CI[BII)I" } : Jvm.MethodName) jdk_52_method_21_code (7 : Nat) (Option.some Jvm.ClassFile.FieldType.int), Jvm.Cond.code ({ cls := "java/lang/StringUTF16", name := "coderFromArrayLen", desc := "([BI)B" } : Jvm.MethodName) jdk_52_method_15_code (2 : Nat) (Option.some Jvm.ClassFile.FieldType.byte), Jvm.Cond.code ({ cls := "com/example/libprocgraph/libprocgraph/reader/TextCursor", name := "<init>", desc := "(Ljava/lang/String;)V" } : Jvm.MethodName) prog_63_method_1_code (2 : Nat) (Option.none : Option Jvm.ClassFile.FieldType), Jvm.Cond.code ({ cls := "com/example/libprocgraph/libprocgraph/reader/TextCursor", name := "skipRestOfLine", desc := "()V" } : Jvm.MethodName) prog_63_method_8_code (2 : Nat) (Option.none : Option Jvm.ClassFile.FieldType), Jvm.Cond.code ({ cls := "java/lang/String", name := "indexOf", desc := "(II)I" } : Jvm.MethodName) jdk_42_method_80_code (3 : Nat) (Option.some Jvm.ClassFile.FieldType.int), Jvm.Cond.code ({ cls := "java/lang/String", name := "isLatin1", desc := "()Z" } : Jvm.MethodName) jdk_42_method_154_code (1 : Nat) (Option.some Jvm.ClassFile.FieldType.boolean), Jvm.Cond.code ({ cls := "java/lang/String", name := "length", desc := "()I" } : Jvm.MethodName) jdk_42_method_54_code (1 : Nat) (Option.some Jvm.ClassFile.FieldType.int), Jvm.Cond.code ({ cls := "java/lang/String", name := "coder", desc := "()B" } : Jvm.MethodName) jdk_42_method_152_code (1 : Nat) (Option.some Jvm.ClassFile.FieldType.byte), Jvm.Cond.code ({ cls := "java/lang/StringLatin1", name := "indexOf", desc := "([BIII)I" } : Jvm.MethodName) jdk_43_method_22_code (4 : Nat) (Option.some Jvm.ClassFile.FieldType.int), Jvm.Cond.code ({ cls := "java/lang/StringLatin1", name := "canEncode", desc := "(I)Z" } : Jvm.MethodName) jdk_43_method_4_code (1 : Nat) (Option.some Jvm.ClassFile.FieldType.boolean), Jvm.Cond.code ({ cls := "java/lang/Math", name := "max", desc := "(II)I" } : Jvm.MethodName) jdk_29_method_65_code (2 : Nat) (Option.some Jvm.ClassFile.FieldType.int), Jvm.Cond.code ({ cls := "java/lang/Math", name := "min", desc := "(II)I" } : Jvm.MethodName) jdk_29_method_69_code (2 : Nat) (Option.some Jvm.ClassFile.FieldType.int), Jvm.Cond.code ({ cls := "java/lang/StringLatin1", name := "indexOfChar", desc := "([BIII)I" } : Jvm.MethodName) jdk_43_method_23_code (6 : Nat) (Option.some Jvm.ClassFile.FieldType.int), Jvm.Cond.code ({ cls := "com/example/libprocgraph/libprocgraph/reader/TextCursor", name := "advance", desc := "(I)V" } : Jvm.MethodName) prog_63_method_22_code (2 : Nat) (Option.none : Option Jvm.ClassFile.FieldType), Jvm.Cond.code ({ cls := "java/lang/String", name := "codePointCount", desc := "(II)I" } : Jvm.MethodName) jdk_42_method_59_code (3 : Nat) (Option.some Jvm.ClassFile.FieldType.int), Jvm.Cond.code ({ cls := "java/util/Objects", name := "checkFromToIndex", desc := "(III)I" } : Jvm.MethodName) jdk_31_method_18_code (3 : Nat) (Option.some Jvm.ClassFile.FieldType.int), Jvm.Cond.code ({ cls := "jdk/internal/util/Preconditions", name := "checkFromToIndex", desc := "(IIILjava/util/function/BiFunction;)I" } : Jvm.MethodName) jdk_41_method_12_code (4 : Nat) (Option.some Jvm.ClassFile.FieldType.int), Jvm.Cond.code ({ cls := "com/example/libprocgraph/libprocgraph/reader/TextCursor", name := "atLineEnd", desc := "()Z" } : Jvm.MethodName) prog_63_method_6_code (1 : Nat) (Option.some Jvm.ClassFile.FieldType.boolean), Jvm.Cond.code ({ cls := "java/lang/String", name := "charAt", desc := "(I)C" } : Jvm.MethodName) jdk_42_method_56_code (2 : Nat) (Option.some Jvm.ClassFile.FieldType.char), Jvm.Cond.code ({ cls := "java/lang/StringLatin1", name := "charAt", desc := "([BI)C" } : Jvm.MethodName) jdk_43_method_2_code (2 : Nat) (Option.some Jvm.ClassFile.FieldType.char), Jvm.Cond.code ({ cls := "java/lang/String", name := "checkIndex", desc := "(II)V" } : Jvm.MethodName) jdk_42_method_155_code (2 : Nat) (Option.none : Option Jvm.ClassFile.FieldType), Jvm.Cond.code ({ cls := "jdk/internal/util/Preconditions", name := "checkIndex", desc := "(IILjava/util/function/BiFunction;)I" } : Jvm.MethodName) jdk_41_method_11_code (3 : Nat) (Option.some Jvm.ClassFile.FieldType.int), Jvm.Cond.code ({ cls := "com/example/libprocgraph/libprocgraph/reader/TextCursor", name := "line", desc := "()I" } : Jvm.MethodName) prog_63_method_2_code (1 : Nat) (Option.some Jvm.ClassFile.FieldType.int), Jvm.Cond.code ({ cls := "com/example/libprocgraph/libprocgraph/reader/TextCursor", name := "column", desc := "()I" } : Jvm.MethodName) prog_63_method_3_code (1 : Nat) (Option.some Jvm.ClassFile.FieldType.int), Jvm.Cond.code ({ cls := "com/example/libprocgraph/libprocgraph/reader/TextCursor", name := "passLineEnd", desc := "()V" } : Jvm.MethodName) prog_63_method_7_code (1 : Nat) (Option.none : Option Jvm.ClassFile.FieldType), Jvm.Cond.code ({ cls := "com/example/libprocgraph/libprocgraph/reader/TextCursorPassLineEndPinLaw", name := "at", desc := "(Lcom/example/libprocgraph/libprocgraph/reader/TextCursor;I[CI)Z" } : Jvm.MethodName) method_3_code (4 : Nat) (Option.some Jvm.ClassFile.FieldType.boolean), Jvm.Cond.code ({ cls := "com/example/libprocgraph/libprocgraph/reader/TextCursor", name := "has", desc := "(I)Z" } : Jvm.MethodName) prog_63_method_10_code (2 : Nat) (Option.some Jvm.ClassFile.FieldType.boolean), Jvm.Cond.code ({ cls := "com/example/libprocgraph/libprocgraph/reader/TextCursor", name := "charAt", desc := "(I)C" } : Jvm.MethodName) prog_63_method_11_code (2 : Nat) (Option.some Jvm.ClassFile.FieldType.char)]
set_option maxRecDepth 65536 in
theorem codes_eq : words1.filter isCode = codes1 := rfl
theorem w_codes : ∀ c ∈ words1.filter isCode, c.before args0 about1 = true := by
  rw [codes_eq]
  intro c hc
  simp only [codes1, List.mem_cons, List.not_mem_nil, or_false] at hc
  rcases hc with rfl | rfl | rfl | rfl | rfl | rfl | rfl | rfl | rfl | rfl | rfl | rfl | rfl | rfl | rfl | rfl | rfl | rfl | rfl | rfl | rfl | rfl | rfl | rfl | rfl | rfl | rfl | rfl | rfl | rfl | rfl | rfl | rfl | rfl
  · exact w_c0
  · exact w_c1
  · exact w_c2
  · exact w_c3
  · exact w_c4
  · exact w_c5
  · exact w_c6
  · exact w_c7
  · exact w_c8
  · exact w_c9
  · exact w_c10
  · exact w_c11
  · exact w_c12
  · exact w_c13
  · exact w_c14
  · exact w_c15
  · exact w_c16
  · exact w_c17
  · exact w_c18
  · exact w_c19
  · exact w_c20
  · exact w_c21
  · exact w_c22
  · exact w_c23
  · exact w_c24
  · exact w_c25
  · exact w_c26
  · exact w_c27
  · exact w_c28
  · exact w_c29
  · exact w_c30
  · exact w_c31
  · exact w_c32
  · exact w_c33
set_option maxRecDepth 65536 in
theorem w_t1 : (words1.take 24).all (fun c => isCode c || c.before args0 about1) = true := by decide +kernel
set_option maxRecDepth 65536 in
theorem w_t2 : ((words1.drop 24).take 24).all (fun c => isCode c || c.before args0 about1) = true := by decide +kernel
set_option maxRecDepth 65536 in
theorem w_t3 : (((words1.drop 24).drop 24).take 24).all (fun c => isCode c || c.before args0 about1) = true := by decide +kernel
set_option maxRecDepth 65536 in
theorem w_t4 : ((((words1.drop 24).drop 24).drop 24).take 24).all (fun c => isCode c || c.before args0 about1) = true := by decide +kernel
set_option maxRecDepth 65536 in
theorem w_t5 : (((((words1.drop 24).drop 24).drop 24).drop 24).take 24).all (fun c => isCode c || c.before args0 about1) = true := by decide +kernel
set_option maxRecDepth 65536 in
theorem w_t6 : ((((((words1.drop 24).drop 24).drop 24).drop 24).drop 24).take 24).all (fun c => isCode c || c.before args0 about1) = true := by decide +kernel
set_option maxRecDepth 65536 in
theorem w_t7 : ((((((words1.drop 24).drop 24).drop 24).drop 24).drop 24).drop 24).all (fun c => isCode c || c.before args0 about1) = true := by decide +kernel
theorem w_tables : (allAtoms (Jvm.Cond.code x code maxLocals ret :: tables_1)).before args0 about1 = true := by
  rw [allAtoms_all]
  show words1.all (fun c => c.before args0 about1) = true
  refine all_split ?_ w_codes
  rw [← List.take_append_drop 24 words1, List.all_append, w_t1, ← List.take_append_drop 24 (words1.drop 24), List.all_append, w_t2, ← List.take_append_drop 24 ((words1.drop 24).drop 24), List.all_append, w_t3, ← List.take_append_drop 24 (((words1.drop 24).drop 24).drop 24), List.all_append, w_t4, ← List.take_append_drop 24 ((((words1.drop 24).drop 24).drop 24).drop 24), List.all_append, w_t5, ← List.take_append_drop 24 (((((words1.drop 24).drop 24).drop 24).drop 24).drop 24), List.all_append, w_t6, w_t7]
  rfl
set_option maxRecDepth 65536 in
theorem w_rest : rest_1_c.before args0 about1 = true := by decide +kernel
set_option maxRecDepth 65536 in
theorem w_case : (Jvm.Cond.and given_1 narrow_1).before args0 about1 = true := by decide +kernel
theorem w_applies : (headSpec (Jvm.Cond.code x code maxLocals ret :: tables_1) room_1).applies x e0.platform about1 = true :=
  (Spec.applies_iff w_frames).mpr ⟨w_running, w_runnable, w_alone, w_named, w_hears, w_ripe, w_room, w_tables⟩
theorem atStart : AtStart classFile x code maxLocals ret World_1 tables_1 room_1 Calls_1 rest_1 Pre_1 launch0 p0 e0 about1 theMethod args0 below0 :=
  ⟨lists_1, trivial, launch0.admits_env _ _ _, launch0.least_env, fairChoices_fair.cas, fairChoices_fair.clock, w_frames, w_args, w_heap, w_applies, trivial, w_rest, w_case⟩
end start1
theorem witness_1 : WitnessClaimed_1 := ⟨start1.p0, start1.e0, start1.about1, start1.theMethod, start1.args0, start1.below0, start1.atStart⟩
end Jvm.Pilot.@@N@@
