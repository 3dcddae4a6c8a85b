import JvmDerived
import JvmDerived.Pilot.@@N@@Statement
import JvmDerived.Pilot.@@N@@Code
set_option linter.unusedVariables false
set_option linter.unusedSimpArgs false
@@BLOCK:NumsL.lean.txt@@
/- laws to paste: Road.backV (cut by pick.py; bodies as the Statement names them) -/
namespace Jvm.Pilot.@@N@@
namespace StrChars
open Jvm Sem ClassFile Op Lib Jvm.Stand Jvm.Free.XT Jvm.Free.ALB Jvm.Free.JM Jvm.Free
open Jvm.Lib.Cold (StaticIs)
/-- a char array whose places are chars -/
def Ch (a : Addr) (A : Cell) (U : State) : Prop := Arr .char a A U ∧ Typed .char A
theorem Ch.mv {a : Addr} {A : Cell} {U U' : State} (h : Ch a A U) (hal : U.vm.Alike U'.vm) (hh : U'.heap = U.heap) : Ch a A U' := ⟨h.1.mv hal hh, h.2⟩
theorem Ch.keep {a : Addr} {A : Cell} {U U' : State} (h : Ch a A U) (hal : U.vm.Alike U'.vm) (hk : U'.heap[a]? = some A) : Ch a A U' := ⟨h.1.keep hal hk, h.2⟩
/-- what place i of a char[]'s cell holds -/
def cv (A : Cell) (i : Nat) : Int32 := match A.slots[i]? with | some (.int x) => x | _ => 0
theorem Ch.get {a : Addr} {A : Cell} {U : State} (h : Ch a A U) {i : Nat} (hi : i < A.slots.size) : A.slots[i]? = some (.int (cv A i)) := by
  have e := Array.getElem?_eq_getElem hi
  have f := h.2 i _ e
  unfold cv; rw [e]
  generalize A.slots[i] = v at f
  cases v <;> simp [fits] at f ⊢
/-- the byte that i2b leaves of a char -/
def lo8 (x : Int32) : Int32 := x.toInt8.toInt32
theorem fits_lo8 (y : Int32) : fits .byte (.int (lo8 y)) = true := by
  have h1 := y.toInt8.le_toInt
  have h2 := y.toInt8.toInt_lt
  simp only [lo8, fits, Bool.and_eq_true, decide_eq_true_eq, Int32.le_iff_toInt_le, Int8.toInt_toInt32, show (-128 : Int32).toInt = -128 from by decide, show (127 : Int32).toInt = 127 from by decide]
  omega
/-- A' is A but that each place j of lo .. hi - 1 holds f j -/
def Laid (A A' : Cell) (lo hi : Nat) (f : Nat → Value) : Prop := A'.cls = A.cls ∧ A'.vm = A.vm ∧ A'.slots.size = A.slots.size ∧ ∀ i, A'.slots[i]? = if lo ≤ i ∧ i < hi then some (f i) else A.slots[i]?
theorem Laid.zero (A : Cell) (lo : Nat) (f : Nat → Value) : Laid A A lo (lo + 0) f := ⟨rfl, rfl, rfl, fun i => by rw [if_neg (by omega)]⟩
theorem Laid.step {A Ak : Cell} {lo k : Nat} {f : Nat → Value} {v : Value} (h : Laid A Ak lo k f) (hlo : lo ≤ k) (hk : k < Ak.slots.size) (hv : v = f k) : Laid A (Ak.setSlot k v) lo (k + 1) f := by
  refine ⟨h.1, h.2.1, by simpa [Cell.setSlot] using h.2.2.1, fun i => ?_⟩
  by_cases e : k = i
  · subst e; rw [Cell.slots_setSlot_self v hk, if_pos (by omega), hv]
  · rw [Cell.slots_setSlot_ne v e, h.2.2.2 i]
    by_cases q : lo ≤ i ∧ i < k
    · rw [if_pos q, if_pos (by omega)]
    · rw [if_neg q, if_neg (by omega)]
def U16 : String := "java/lang/StringUTF16"
namespace Cmp5
def yN : MethodName := ⟨"java/lang/StringUTF16", "compress", "([CI[BII)I"⟩
abbrev yB : ByteArray := jdk_52_method_21_code
theorem d0 : decode yB 0 = .ok (.iconst 0, 1) := by decide +kernel
theorem d1 : decode yB 1 = .ok (.istore 5, 2) := by decide +kernel
theorem d3 : decode yB 3 = .ok (.iload 5, 2) := by decide +kernel
theorem d5 : decode yB 5 = .ok (.iload 4, 2) := by decide +kernel
theorem d7 : decode yB 7 = .ok (.if_icmp (.ge) 37, 3) := by decide +kernel
theorem d10 : decode yB 10 = .ok (.aload_n 0, 1) := by decide +kernel
theorem d11 : decode yB 11 = .ok (.iload_n 1, 1) := by decide +kernel
theorem d12 : decode yB 12 = .ok (.caload, 1) := by decide +kernel
theorem d13 : decode yB 13 = .ok (.istore 6, 2) := by decide +kernel
theorem d15 : decode yB 15 = .ok (.iload 6, 2) := by decide +kernel
theorem d17 : decode yB 17 = .ok (.sipush 255, 3) := by decide +kernel
theorem d20 : decode yB 20 = .ok (.if_icmp (.le) 6, 3) := by decide +kernel
theorem d26 : decode yB 26 = .ok (.aload_n 2, 1) := by decide +kernel
theorem d27 : decode yB 27 = .ok (.iload_n 3, 1) := by decide +kernel
theorem d28 : decode yB 28 = .ok (.iload 6, 2) := by decide +kernel
theorem d30 : decode yB 30 = .ok (.i2b, 1) := by decide +kernel
theorem d31 : decode yB 31 = .ok (.bastore, 1) := by decide +kernel
theorem d32 : decode yB 32 = .ok (.iinc 1 1, 3) := by decide +kernel
theorem d35 : decode yB 35 = .ok (.iinc 3 1, 3) := by decide +kernel
theorem d38 : decode yB 38 = .ok (.iinc 5 1, 3) := by decide +kernel
theorem d41 : decode yB 41 = .ok (.goto (-38), 3) := by decide +kernel
theorem d44 : decode yB 44 = .ok (.iload 4, 2) := by decide +kernel
theorem d46 : decode yB 46 = .ok (.ireturn, 1) := by decide +kernel
def site : List Cond := []
def tab : Cond := tabOf yN yB 7 (some .int) site
def P (b : Addr) (A : Cell) (d : Addr) (B : Cell) (o q len : Nat) (args : Array Value) (s : State) : Prop := args = #[.ref b, .int (Int32.ofNat o), .ref d, .int (Int32.ofNat q), .int (Int32.ofNat len)] ∧ Ch b A s ∧ Arr .byte d B s ∧ b ≠ d ∧ o + len ≤ A.slots.size ∧ q + len ≤ B.slots.size ∧ ∀ i, i < len → ¬ 255 < cv A (o + i)
def E (b : Addr) (A : Cell) (d : Addr) (B : Cell) (o q len : Nat) (r : Option Value) (s u : State) : Prop := r = some (.int (Int32.ofNat len)) ∧ ∃ B', Put d B' s u ∧ Laid B B' q (q + len) (fun j => Value.int (lo8 (cv A (o + (j - q)))))
/-- no char of the range above 255: len; the places written hold each char's low byte -/
theorem law (l : Launch) (b : Addr) (A : Cell) (d : Addr) (B : Cell) (o q len : Nat) : Law l yN 5 5 0 0 yB 7 (some .int) site (P b A d B o q len) (E b A d B o q len) (copyLocs d q len) 0 0 := by
  refine Law.of_walk (plainFor_of_name (by decide +kernel)) (by decide +kernel) (by decide +kernel) (by decide) (fun _ _ h => by rw [h.1]; rfl) (fun _ U U' hal hh h => ⟨h.1, h.2.1.mv hal hh, h.2.2.1.mv hal hh, h.2.2.2⟩) (fun r U U' V V' h1 hal h2 h => ⟨h.1, h.2.elim fun B' q => ⟨B', q.1.mv h1 h2, q.2⟩⟩) ?_
  intro p e s m args below meth c s₁ X0 hexec hbytes hml hret hlk hnm hown hh0 W hP
  obtain ⟨rfl, hA, hB, hne, l1, l2, hp⟩ := hP
  have c1 : Steps p.tables e below (s₁.setTop (entryFrame m #[.ref b, .int (Int32.ofNat o), .ref d, .int (Int32.ofNat q), .int (Int32.ofNat len)] 7)) (s₁.setTop (mkF m 0 #[.val (.ref b), .val (.int (Int32.ofNat o)), .val (.ref d), .val (.int (Int32.ofNat q)), .val (.int (Int32.ofNat len)), .unset, .unset] [])) := entry rfl
  have hA0 := hA.1.mv X0.warmed.alike hh0
  have hB0 := hB.mv X0.warmed.alike hh0
  have a31 := hA.1.2.2.2
  have c2 : Steps p.tables e below (s₁.setTop (entryFrame m #[.ref b, .int (Int32.ofNat o), .ref d, .int (Int32.ofNat q), .int (Int32.ofNat len)] 7)) (s₁.setTop (mkF m 3 #[.val (.ref b), .val (.int (Int32.ofNat o)), .val (.ref d), .val (.int (Int32.ofNat q)), .val (.int (Int32.ofNat len)), .val (.int 0), .unset] [])) := c1.trans (by
    refine iconstV X0.here hexec rfl 0 (hb hbytes d0) (by decide) ?_
    refine XS.istore X0.here hexec rfl (hb hbytes d1) rfl rfl ?_
    exact Steps.refl _)
  have loop : ∀ (r i : Nat), i + r = len → ∀ (z : Slot), (z = .unset ∨ ∃ w, z = .val w ∧ w.category = 1) → ∀ (Tl : State) (Bk : Cell), Stand p l e { frames := 0, locals := 0, cells := 0, slots := 0 } s m #[.ref b, .int (Int32.ofNat o), .ref d, .int (Int32.ofNat q), .int (Int32.ofNat len)] below meth c Tl ([] ++ copyLocs d q i) 0 0 → Put d Bk s₁ Tl → Laid B Bk q (q + i) (fun j => Value.int (lo8 (cv A (o + (j - q))))) →
      Steps p.tables e below (s₁.setTop (entryFrame m #[.ref b, .int (Int32.ofNat o), .ref d, .int (Int32.ofNat q), .int (Int32.ofNat len)] 7)) (Tl.setTop (mkF m 3 #[.val (.ref b), .val (.int (Int32.ofNat (o + i))), .val (.ref d), .val (.int (Int32.ofNat (q + i))), .val (.int (Int32.ofNat len)), .val (.int (Int32.ofNat i)), z] [])) → ∃ (T' : State) (B' : Cell) (z' : Slot), Stand p l e { frames := 0, locals := 0, cells := 0, slots := 0 } s m #[.ref b, .int (Int32.ofNat o), .ref d, .int (Int32.ofNat q), .int (Int32.ofNat len)] below meth c T' ([] ++ copyLocs d q len) 0 0 ∧ Put d B' s₁ T' ∧ Laid B B' q (q + len) (fun j => Value.int (lo8 (cv A (o + (j - q))))) ∧
      Steps p.tables e below (s₁.setTop (entryFrame m #[.ref b, .int (Int32.ofNat o), .ref d, .int (Int32.ofNat q), .int (Int32.ofNat len)] 7)) (T'.setTop (mkF m 3 #[.val (.ref b), .val (.int (Int32.ofNat (o + len))), .val (.ref d), .val (.int (Int32.ofNat (q + len))), .val (.int (Int32.ofNat len)), .val (.int (Int32.ofNat len)), z'] [])) := by
    intro r
    induction r with
    | zero =>
      intro i hi z hz Tl Bk Xl pl fl cl
      have hil : i = len := by omega
      rw [hil] at Xl fl cl
      exact ⟨Tl, Bk, z, Xl, pl, fl, cl⟩
    | succ r ih =>
      intro i hi z hz Tl Bk Xl pl fl cl
      have all := X0.warmed.alike.symm.trans Xl.warmed.alike
      have hAl := hA0.keep all (pl.other hne hA0.1)
      have hBk := hB0.like all pl.1 fl.1 fl.2.1 fl.2.2.1
      have hlt : q + i < Bk.slots.size := by rw [fl.2.2.1]; omega
      have c3 : Steps p.tables e below (s₁.setTop (entryFrame m #[.ref b, .int (Int32.ofNat o), .ref d, .int (Int32.ofNat q), .int (Int32.ofNat len)] 7)) (Tl.setTop (mkF m 12 #[.val (.ref b), .val (.int (Int32.ofNat (o + i))), .val (.ref d), .val (.int (Int32.ofNat (q + i))), .val (.int (Int32.ofNat len)), .val (.int (Int32.ofNat i)), z] [.int (Int32.ofNat (o + i)), .ref b])) := cl.trans (by
        refine XS.iload Xl.here hexec rfl (hb hbytes d3) rfl ?_
        refine XS.iload Xl.here hexec rfl (hb hbytes d5) rfl ?_
        refine XS.icmpNo Xl.here hexec rfl (hb hbytes d7) rfl (ii_ge_f (lt32 (by omega) (by omega))) ?_
        refine XS.aloadN Xl.here hexec rfl (hb hbytes d10) rfl rfl ?_
        refine XS.iloadN Xl.here hexec rfl (hb hbytes d11) rfl ?_
        exact Steps.refl _)
      have c4 : Steps p.tables e below (s₁.setTop (entryFrame m #[.ref b, .int (Int32.ofNat o), .ref d, .int (Int32.ofNat q), .int (Int32.ofNat len)] 7)) (Tl.setTop (mkF m 13 #[.val (.ref b), .val (.int (Int32.ofNat (o + i))), .val (.ref d), .val (.int (Int32.ofNat (q + i))), .val (.int (Int32.ofNat len)), .val (.int (Int32.ofNat i)), z] [.int (cv A (o + i))])) := c3.trans (by
        refine Xl.aget hexec hAl rfl (hA.get (i := o + i) (by omega)) rfl rfl (hb hbytes d12) ?_
        exact Steps.refl _)
      have c5 : Steps p.tables e below (s₁.setTop (entryFrame m #[.ref b, .int (Int32.ofNat o), .ref d, .int (Int32.ofNat q), .int (Int32.ofNat len)] 7)) (Tl.setTop (mkF m 15 #[.val (.ref b), .val (.int (Int32.ofNat (o + i))), .val (.ref d), .val (.int (Int32.ofNat (q + i))), .val (.int (Int32.ofNat len)), .val (.int (Int32.ofNat i)), .val (.int (cv A (o + i)))] [])) := c4.trans (by
        refine XS.istoreS Xl.here hexec rfl (hb hbytes d13) rfl rfl hz ?_
        exact Steps.refl _)
      have c6 : Steps p.tables e below (s₁.setTop (entryFrame m #[.ref b, .int (Int32.ofNat o), .ref d, .int (Int32.ofNat q), .int (Int32.ofNat len)] 7)) (Tl.setTop (mkF m 31 #[.val (.ref b), .val (.int (Int32.ofNat (o + i))), .val (.ref d), .val (.int (Int32.ofNat (q + i))), .val (.int (Int32.ofNat len)), .val (.int (Int32.ofNat i)), .val (.int (cv A (o + i)))] [.int (lo8 (cv A (o + i))), .int (Int32.ofNat (q + i)), .ref d])) := c5.trans (by
        refine XS.iload Xl.here hexec rfl (hb hbytes d15) rfl ?_
        refine sipushV Xl.here hexec rfl 255 (hb hbytes d17) (by decide) ?_
        refine XS.icmpYes Xl.here hexec rfl (pc0 := 20) rfl (hb hbytes d20) rfl (ii_le_t (hp i (by omega))) (by decide) rfl ?_
        refine XS.aloadN Xl.here hexec rfl (hb hbytes d26) rfl rfl ?_
        refine XS.iloadN Xl.here hexec rfl (hb hbytes d27) rfl ?_
        refine XS.iload Xl.here hexec rfl (hb hbytes d28) rfl ?_
        refine i2b Xl.here hexec rfl (hb hbytes d30) rfl ?_
        exact Steps.refl _)
      obtain ⟨T7, X7, p7, st7⟩ := Xl.aput hexec hBk rfl hlt rfl (fits_lo8 (cv A (o + i))) (g := (mkF m 31 #[.val (.ref b), .val (.int (Int32.ofNat (o + i))), .val (.ref d), .val (.int (Int32.ofNat (q + i))), .val (.int (Int32.ofNat len)), .val (.int (Int32.ofNat i)), .val (.int (cv A (o + i)))] [.int (lo8 (cv A (o + i))), .int (Int32.ofNat (q + i)), .ref d])) rfl (rest := []) rfl (hb hbytes d31)
      have c8 : Steps p.tables e below (s₁.setTop (entryFrame m #[.ref b, .int (Int32.ofNat o), .ref d, .int (Int32.ofNat q), .int (Int32.ofNat len)] 7)) (T7.setTop (mkF m 32 #[.val (.ref b), .val (.int (Int32.ofNat (o + i))), .val (.ref d), .val (.int (Int32.ofNat (q + i))), .val (.int (Int32.ofNat len)), .val (.int (Int32.ofNat i)), .val (.int (cv A (o + i)))] [])) := c6.trans (st7 _ (Steps.refl _))
      have c9 : Steps p.tables e below (s₁.setTop (entryFrame m #[.ref b, .int (Int32.ofNat o), .ref d, .int (Int32.ofNat q), .int (Int32.ofNat len)] 7)) (T7.setTop (mkF m 3 #[.val (.ref b), .val (.int (Int32.ofNat (o + i) + 1)), .val (.ref d), .val (.int (Int32.ofNat (q + i) + 1)), .val (.int (Int32.ofNat len)), .val (.int (Int32.ofNat i + 1)), .val (.int (cv A (o + i)))] [])) := c8.trans (by
        refine iincV X7.here hexec rfl 1 (hb hbytes d32) (by decide) rfl rfl ?_
        refine iincV X7.here hexec rfl 1 (hb hbytes d35) (by decide) rfl rfl ?_
        refine iincV X7.here hexec rfl 1 (hb hbytes d38) (by decide) rfl rfl ?_
        refine XS.goto X7.here hexec rfl (pc0 := 41) rfl (hb hbytes d41) (by decide) rfl ?_
        exact Steps.refl _)
      have c10 : Steps p.tables e below (s₁.setTop (entryFrame m #[.ref b, .int (Int32.ofNat o), .ref d, .int (Int32.ofNat q), .int (Int32.ofNat len)] 7)) (T7.setTop (mkF m 3 #[.val (.ref b), .val (.int (Int32.ofNat (o + (i + 1)))), .val (.ref d), .val (.int (Int32.ofNat (q + (i + 1)))), .val (.int (Int32.ofNat len)), .val (.int (Int32.ofNat (i + 1))), .val (.int (cv A (o + i)))] [])) := by
        have := c9
        rw [succ32, succ32, succ32] at this
        exact this
      exact ih (i + 1) (by omega) _ (Or.inr ⟨_, rfl, rfl⟩) T7 _ (by rw [copyLocs_step, ← List.append_assoc]; exact X7) (pl.trans p7) (fl.step (by omega) hlt (by simp)) c10
  obtain ⟨T9, B9, z9, X9, p9, f9, g9⟩ := loop len 0 (by omega) .unset (Or.inl rfl) s₁ B (by simpa [copyLocs] using X0) ⟨hB0.1, fun _ _ => rfl, rfl⟩ (Laid.zero _ _ _) c2
  have c11 : Steps p.tables e below (s₁.setTop (entryFrame m #[.ref b, .int (Int32.ofNat o), .ref d, .int (Int32.ofNat q), .int (Int32.ofNat len)] 7)) (T9.setTop (mkF m 46 #[.val (.ref b), .val (.int (Int32.ofNat (o + len))), .val (.ref d), .val (.int (Int32.ofNat (q + len))), .val (.int (Int32.ofNat len)), .val (.int (Int32.ofNat len)), z9] [.int (Int32.ofNat len)])) := g9.trans (by
    refine XS.iload X9.here hexec rfl (hb hbytes d3) rfl ?_
    refine XS.iload X9.here hexec rfl (hb hbytes d5) rfl ?_
    refine XS.icmpYes X9.here hexec rfl (pc0 := 7) rfl (hb hbytes d7) rfl (ii_ge_t (nlt32 (by omega) (Nat.le_refl _))) (by decide) rfl ?_
    refine XS.iload X9.here hexec rfl (hb hbytes d44) rfl ?_
    exact Steps.refl _)
  exact ⟨T9, some (.int (Int32.ofNat len)), _, _, _, X9, by simp, rfl, rfl, (fun h => by cases h), ⟨rfl, B9, p9.from hh0, f9⟩, fun fs hl => c11.trans (X9.ireturnOut hexec hret rfl (Or.inl rfl) (hb hbytes d46) hl)⟩
end Cmp5
namespace Cmp3
def yN : MethodName := ⟨"java/lang/StringUTF16", "compress", "([CII)[B"⟩
abbrev yB : ByteArray := jdk_52_method_16_code
theorem d0 : decode yB 0 = .ok (.iload_n 2, 1) := by decide +kernel
theorem d1 : decode yB 1 = .ok (.newarray .byte, 2) := by decide +kernel
theorem d3 : decode yB 3 = .ok (.astore_n 3, 1) := by decide +kernel
theorem d4 : decode yB 4 = .ok (.aload_n 0, 1) := by decide +kernel
theorem d5 : decode yB 5 = .ok (.iload_n 1, 1) := by decide +kernel
theorem d6 : decode yB 6 = .ok (.aload_n 3, 1) := by decide +kernel
theorem d7 : decode yB 7 = .ok (.iconst 0, 1) := by decide +kernel
theorem d8 : decode yB 8 = .ok (.iload_n 2, 1) := by decide +kernel
theorem d9 : decode yB 9 = .ok (.invokestatic 115, 3) := by decide +kernel
theorem d12 : decode yB 12 = .ok (.istore 4, 2) := by decide +kernel
theorem d14 : decode yB 14 = .ok (.iload 4, 2) := by decide +kernel
theorem d16 : decode yB 16 = .ok (.iload_n 2, 1) := by decide +kernel
theorem d17 : decode yB 17 = .ok (.if_icmp (.eq) 40, 3) := by decide +kernel
theorem d57 : decode yB 57 = .ok (.aload_n 3, 1) := by decide +kernel
theorem d58 : decode yB 58 = .ok (.areturn, 1) := by decide +kernel
def site : List Cond := [.arrayClass .byte, Cmp5.tab] ++ staticW U16 115 Cmp5.yN
def tab : Cond := tabOf yN yB 6 (some (.array .byte)) site
def P (b : Addr) (A : Cell) (o len : Nat) (args : Array Value) (s : State) : Prop := args = #[.ref b, .int (Int32.ofNat o), .int (Int32.ofNat len)] ∧ Ch b A s ∧ o + len ≤ A.slots.size ∧ len ≤ 536870912 ∧ ∀ i, i < len → ¬ 255 < cv A (o + i)
def E (b : Addr) (A : Cell) (o len : Nat) (r : Option Value) (s u : State) : Prop := NewArr .byte "[B" len (fun j => .int (lo8 (cv A (o + j)))) r s u ∧ u.heap.size = s.heap.size + 1
/-- no char of the range above 255: a new byte[] of their low bytes -/
theorem law (l : Launch) (b : Addr) (A : Cell) (o len : Nat) : Law l yN 3 3 1 18 yB 6 (some (.array .byte)) site (P b A o len) (E b A o len) [] 1 len := by
  refine Law.of_walk (plainFor_of_name (by decide +kernel)) (by decide +kernel) (by decide +kernel) (by decide) (fun _ _ h => by rw [h.1]; rfl) (fun _ U U' hal hh h => ⟨h.1, h.2.1.mv hal hh, h.2.2⟩) (fun r U U' V V' h1 hal h2 h => ⟨NewArr.mv r U U' V V' h1 hal h2 h.1, by rw [h1, h2]; exact h.2⟩) ?_
  intro p e s m args below meth c s₁ X0 hexec hbytes hml hret hlk hnm hown hh0 W hP
  obtain ⟨rfl, hA, l1, l2, hp⟩ := hP
  have a31 := hA.1.2.2.2
  have c1 : Steps p.tables e below (s₁.setTop (entryFrame m #[.ref b, .int (Int32.ofNat o), .int (Int32.ofNat len)] 6)) (s₁.setTop (mkF m 0 #[.val (.ref b), .val (.int (Int32.ofNat o)), .val (.int (Int32.ofNat len)), .unset, .unset, .unset] [])) := entry rfl
  have c2 : Steps p.tables e below (s₁.setTop (entryFrame m #[.ref b, .int (Int32.ofNat o), .int (Int32.ofNat len)] 6)) (s₁.setTop (mkF m 1 #[.val (.ref b), .val (.int (Int32.ofNat o)), .val (.int (Int32.ofNat len)), .unset, .unset, .unset] [.int (Int32.ofNat len)])) := c1.trans (by
    refine XS.iloadN X0.here hexec rfl (hb hbytes d0) rfl ?_
    exact Steps.refl _)
  obtain ⟨T3, B3, X3, ba3, bs3, bv3, bh3, bf3, st3⟩ := X0.anew hexec (atype := .byte) (wk W (.arrayClass .byte)) rfl (by show len * 1 ≤ _; omega) (by omega) (g := (mkF m 1 #[.val (.ref b), .val (.int (Int32.ofNat o)), .val (.int (Int32.ofNat len)), .unset, .unset, .unset] [.int (Int32.ofNat len)])) rfl (hb hbytes d1) (rest := []) rfl (Nat.le_refl _) (by show 0 + len ≤ len; omega)
  rw [hh0] at ba3 st3
  have kp3 : XT.Kept s T3 := (XT.Kept.of_eq hh0).push bh3
  have hA3 := hA.keep X3.warmed.alike (kp3 _ _ hA.1.1)
  have hne : b ≠ s.heap.size := hA.1.ne
  have c4 : Steps p.tables e below (s₁.setTop (entryFrame m #[.ref b, .int (Int32.ofNat o), .int (Int32.ofNat len)] 6)) (T3.setTop (mkF m 3 #[.val (.ref b), .val (.int (Int32.ofNat o)), .val (.int (Int32.ofNat len)), .unset, .unset, .unset] [.ref s.heap.size])) := c2.trans (st3 _ (Steps.refl _))
  have c5 : Steps p.tables e below (s₁.setTop (entryFrame m #[.ref b, .int (Int32.ofNat o), .int (Int32.ofNat len)] 6)) (T3.setTop (mkF m 9 #[.val (.ref b), .val (.int (Int32.ofNat o)), .val (.int (Int32.ofNat len)), .val (.ref s.heap.size), .unset, .unset] [.int (Int32.ofNat len), .int 0, .ref s.heap.size, .int (Int32.ofNat o), .ref b])) := c4.trans (by
    refine XS.astoreN X3.here hexec rfl (hb hbytes d3) rfl rfl rfl ?_
    refine XS.aloadN X3.here hexec rfl (hb hbytes d4) rfl rfl ?_
    refine XS.iloadN X3.here hexec rfl (hb hbytes d5) rfl ?_
    refine XS.aloadN X3.here hexec rfl (hb hbytes d6) rfl rfl ?_
    refine iconstV X3.here hexec rfl 0 (hb hbytes d7) (by decide) ?_
    refine XS.iloadN X3.here hexec rfl (hb hbytes d8) rfl ?_
    exact Steps.refl _)
  obtain ⟨v6, T6, X6, E6, g6⟩ := X3.callS hexec (Cmp5.law l b A s.heap.size B3 o 0 len) hown (wks W (staticW U16 115 Cmp5.yN)) (wk W Cmp5.tab) (W := 0) (Nat.le_of_ble_eq_true rfl) (Nat.le_of_ble_eq_true rfl) (Nat.le_refl _) (by show 0 + len + 0 ≤ len; omega) (g := (mkF m 9 #[.val (.ref b), .val (.int (Int32.ofNat o)), .val (.int (Int32.ofNat len)), .val (.ref s.heap.size), .unset, .unset] [.int (Int32.ofNat len), .int (Int32.ofNat 0), .ref s.heap.size, .int (Int32.ofNat o), .ref b])) rfl (by rw [hml]; rfl) c5 (argsL := [.ref b, .int (Int32.ofNat o), .ref s.heap.size, .int (Int32.ofNat 0), .int (Int32.ofNat len)]) (rest := []) rfl rfl (by show 2 * 0 + 0 ≤ _; decide) (hb hbytes d9) (⟨rfl, hA3, ba3, hne, l1, by rw [bs3]; simp, hp⟩)
  obtain ⟨rfl, B6, p6, f6⟩ := E6
  have c7 : Steps p.tables e below (s₁.setTop (entryFrame m #[.ref b, .int (Int32.ofNat o), .int (Int32.ofNat len)] 6)) (T6.setTop (mkF m 12 #[.val (.ref b), .val (.int (Int32.ofNat o)), .val (.int (Int32.ofNat len)), .val (.ref s.heap.size), .unset, .unset] [.int (Int32.ofNat len)])) := g6
  have c8 : Steps p.tables e below (s₁.setTop (entryFrame m #[.ref b, .int (Int32.ofNat o), .int (Int32.ofNat len)] 6)) (T6.setTop (mkF m 58 #[.val (.ref b), .val (.int (Int32.ofNat o)), .val (.int (Int32.ofNat len)), .val (.ref s.heap.size), .val (.int (Int32.ofNat len)), .unset] [.ref s.heap.size])) := c7.trans (by
    refine XS.istore X6.here hexec rfl (hb hbytes d12) rfl rfl ?_
    refine XS.iload X6.here hexec rfl (hb hbytes d14) rfl ?_
    refine XS.iloadN X6.here hexec rfl (hb hbytes d16) rfl ?_
    refine XS.icmpYes X6.here hexec rfl (pc0 := 17) rfl (hb hbytes d17) rfl (ii_eq_t rfl) (by decide) rfl ?_
    refine XS.aloadN X6.here hexec rfl (hb hbytes d57) rfl rfl ?_
    exact Steps.refl _)
  have X8 := X6.wide (L' := []) (cells' := 1) (slots' := len) (fun x hx hlt => by
    simp only [List.nil_append, copyLocs, List.mem_map, List.mem_range] at hx
    obtain ⟨i, -, rfl⟩ := hx
    exact absurd hlt (Nat.lt_irrefl _)) (Nat.le_refl _) (by omega)
  exact ⟨T6, some (.ref s.heap.size), _, _, _, X8, rfl, rfl, rfl, (fun h => by cases h), ⟨⟨rfl, B6, ba3.like (X3.warmed.alike.symm.trans X6.warmed.alike) p6.1 f6.1 f6.2.1 f6.2.2.1, f6.2.1.trans bv3, by rw [X6.warmed.alike.findClass, f6.1]; exact bf3, by rw [f6.2.2.1, bs3]; simp, fun j hj => by rw [f6.2.2.2 j, if_pos (by omega)]; rfl, kp3.put p6 (Nat.le_refl _)⟩, by rw [p6.2.2, bh3, hh0]; simp⟩, fun fs hl => c8.trans (X8.areturnOut hexec rfl hret rfl (hb hbytes d58) hl)⟩
end Cmp3
namespace CodL
def yN : MethodName := ⟨"java/lang/StringUTF16", "coderFromArrayLen", "([BI)B"⟩
abbrev yB : ByteArray := jdk_52_method_15_code
theorem d0 : decode yB 0 = .ok (.iload_n 1, 1) := by decide +kernel
theorem d1 : decode yB 1 = .ok (.aload_n 0, 1) := by decide +kernel
theorem d2 : decode yB 2 = .ok (.arraylength, 1) := by decide +kernel
theorem d3 : decode yB 3 = .ok (.isub, 1) := by decide +kernel
theorem d4 : decode yB 4 = .ok (.bipush 31, 2) := by decide +kernel
theorem d6 : decode yB 6 = .ok (.iushr, 1) := by decide +kernel
theorem d7 : decode yB 7 = .ok (.i2b, 1) := by decide +kernel
theorem d8 : decode yB 8 = .ok (.ireturn, 1) := by decide +kernel
def site : List Cond := []
def tab : Cond := tabOf yN yB 2 (some .byte) site
def P (d : Addr) (B : Cell) (args : Array Value) (s : State) : Prop := args = #[.ref d, .int (Int32.ofNat B.slots.size)] ∧ Arr .byte d B s
def E (r : Option Value) (s u : State) : Prop := XT.PureE (some (.int 0)) r s u
/-- an array as long as the number of chars: LATIN1 -/
theorem law (l : Launch) (d : Addr) (B : Cell) : Law l yN 2 2 0 0 yB 2 (some .byte) site (P d B) E [] 0 0 := by
  refine Law.of_walk (plainFor_of_name (by decide +kernel)) (by decide +kernel) (by decide +kernel) (by decide) (fun _ _ h => by rw [h.1]; rfl) (fun _ U U' hal hh h => ⟨h.1, h.2.mv hal hh⟩) (fun r U U' V V' h1 hal h2 h => XT.PureE.mv r U U' V V' h1 hal h2 h) ?_
  intro p e s m args below meth c s₁ X0 hexec hbytes hml hret hlk hnm hown hh0 W hP
  obtain ⟨rfl, hB⟩ := hP
  have hB0 := hB.mv X0.warmed.alike hh0
  have c1 : Steps p.tables e below (s₁.setTop (entryFrame m #[.ref d, .int (Int32.ofNat B.slots.size)] 2)) (s₁.setTop (mkF m 0 #[.val (.ref d), .val (.int (Int32.ofNat B.slots.size))] [])) := entry rfl
  have c2 : Steps p.tables e below (s₁.setTop (entryFrame m #[.ref d, .int (Int32.ofNat B.slots.size)] 2)) (s₁.setTop (mkF m 2 #[.val (.ref d), .val (.int (Int32.ofNat B.slots.size))] [.ref d, .int (Int32.ofNat B.slots.size)])) := c1.trans (by
    refine XS.iloadN X0.here hexec rfl (hb hbytes d0) rfl ?_
    refine XS.aloadN X0.here hexec rfl (hb hbytes d1) rfl rfl ?_
    exact Steps.refl _)
  have c3 : Steps p.tables e below (s₁.setTop (entryFrame m #[.ref d, .int (Int32.ofNat B.slots.size)] 2)) (s₁.setTop (mkF m 8 #[.val (.ref d), .val (.int (Int32.ofNat B.slots.size))] [.int (lo8 (ushr (Int32.ofNat B.slots.size - Int32.ofNat B.slots.size) 31))])) := c2.trans (by
    refine X0.alen hexec hB0 rfl rfl (hb hbytes d2) ?_
    refine XS.isub X0.here hexec rfl (hb hbytes d3) rfl ?_
    refine bipushV X0.here hexec rfl 31 (hb hbytes d4) (by decide) ?_
    refine iushr X0.here hexec rfl (hb hbytes d6) rfl ?_
    refine i2b X0.here hexec rfl (hb hbytes d7) rfl ?_
    exact Steps.refl _)
  have e0 : lo8 (ushr (Int32.ofNat B.slots.size - Int32.ofNat B.slots.size) 31) = 0 := by rw [Int32.sub_self]; decide
  rw [e0] at c3
  exact ⟨s₁, some (.int 0), _, _, _, X0, rfl, rfl, rfl, (fun h => by cases h), ⟨rfl, hh0⟩, fun fs hl => c3.trans (X0.ireturnOut hexec hret rfl (Or.inr (Or.inr (Or.inl rfl))) (hb hbytes d8) hl)⟩
end CodL
/-- the String at a is Latin-1 over a new byte[] (the heap's one new cell): the low bytes of the len chars of A from o on; every cell but a is kept -/
def Got (a : Addr) (D : Cell) (fV fC : Field) (A : Cell) (o len : Nat) (r : Option Value) (s u : State) : Prop := r = none ∧ ∃ D' V : Cell, Blank "java/lang/String" a D' u ∧ Same D D' [fV.slot, fC.slot] ∧ D'.slots[fV.slot]? = some (.ref s.heap.size) ∧ D'.slots[fC.slot]? = some (.int 0) ∧ Arr .byte s.heap.size V u ∧ V.vm = .none ∧ u.vm.findClass "[B" = some V.cls ∧ V.slots.size = len ∧ (∀ j, j < len → V.slots[j]? = some (.int (lo8 (cv A (o + j))))) ∧ (∀ (y : Addr) (c : Cell), y ≠ a → s.heap[y]? = some c → u.heap[y]? = some c) ∧ u.heap.size = s.heap.size + 1
theorem Got.mv {a : Addr} {D A : Cell} {fV fC : Field} {o len : Nat} : ∀ r (U U' V V' : State), U'.heap = U.heap → V.vm.Alike V'.vm → V'.heap = V.heap → Got a D fV fC A o len r U V → Got a D fV fC A o len r U' V' :=
  fun r U U' V V' h1 hal h2 ⟨e0, D', X, a1, a2, a3, a4, a5, a6, a7, a8, a9, a10, a11⟩ => ⟨e0, D', X, a1.mv hal h2, a2, by rw [h1]; exact a3, a4, by rw [h1]; exact a5.mv hal h2, a6, by rw [hal.findClass]; exact a7, a8, a9, by rw [h1, h2]; exact a10, by rw [h1, h2]; exact a11⟩
namespace New4
def yN : MethodName := ⟨"java/lang/String", "<init>", "([CIILjava/lang/Void;)V"⟩
abbrev yB : ByteArray := jdk_42_method_149_code
theorem d0 : decode yB 0 = .ok (.aload_n 0, 1) := by decide +kernel
theorem d1 : decode yB 1 = .ok (.invokespecial 1, 3) := by decide +kernel
theorem d4 : decode yB 4 = .ok (.iload_n 3, 1) := by decide +kernel
theorem d5 : decode yB 5 = .ok (.ifCond (.ne) 22, 3) := by decide +kernel
theorem d27 : decode yB 27 = .ok (.getstatic 38, 3) := by decide +kernel
theorem d30 : decode yB 30 = .ok (.ifCond (.eq) 28, 3) := by decide +kernel
theorem d33 : decode yB 33 = .ok (.aload_n 1, 1) := by decide +kernel
theorem d34 : decode yB 34 = .ok (.iload_n 2, 1) := by decide +kernel
theorem d35 : decode yB 35 = .ok (.iload_n 3, 1) := by decide +kernel
theorem d36 : decode yB 36 = .ok (.invokestatic 177, 3) := by decide +kernel
theorem d39 : decode yB 39 = .ok (.astore 5, 2) := by decide +kernel
theorem d41 : decode yB 41 = .ok (.aload_n 0, 1) := by decide +kernel
theorem d42 : decode yB 42 = .ok (.aload 5, 2) := by decide +kernel
theorem d44 : decode yB 44 = .ok (.iload_n 3, 1) := by decide +kernel
theorem d45 : decode yB 45 = .ok (.invokestatic 47, 3) := by decide +kernel
theorem d48 : decode yB 48 = .ok (.putfield 15, 3) := by decide +kernel
theorem d51 : decode yB 51 = .ok (.aload_n 0, 1) := by decide +kernel
theorem d52 : decode yB 52 = .ok (.aload 5, 2) := by decide +kernel
theorem d54 : decode yB 54 = .ok (.putfield 9, 3) := by decide +kernel
theorem d57 : decode yB 57 = .ok (.return_, 1) := by decide +kernel
def site : List Cond := [.fieldLink "java/lang/String" 38 "java/lang/String" "COMPACT_STRINGS" "Z", Cmp3.tab, CodL.tab, .laysFinal "java/lang/String" "java/lang/String" "value" "[B", .fieldLink "java/lang/String" 9 "java/lang/String" "value" "[B", .laysFinal "java/lang/String" "java/lang/String" "coder" "B", .fieldLink "java/lang/String" 15 "java/lang/String" "coder" "B"] ++ objW "java/lang/String" 1 ++ staticW "java/lang/String" 177 Cmp3.yN ++ staticW "java/lang/String" 47 CodL.yN
def tab : Cond := tabOf yN yB 6 none site
def P (a : Addr) (D : Cell) (fV fC : Field) (b : Addr) (A : Cell) (z : Int32) (o len : Nat) (args : Array Value) (s : State) : Prop := args = #[.ref a, .ref b, .int (Int32.ofNat o), .int (Int32.ofNat len), .null] ∧ Blank "java/lang/String" a D s ∧ Found "java/lang/String" "value" "[B" fV s ∧ Found "java/lang/String" "coder" "B" fC s ∧ Ch b A s ∧ StaticIs s "java/lang/String" "COMPACT_STRINGS" "Z" (.int z) ∧ ¬ z = 0 ∧ 0 < len ∧ o + len ≤ A.slots.size ∧ len ≤ 536870912 ∧ ∀ i, i < len → ¬ 255 < cv A (o + i)
def E (a : Addr) (D : Cell) (fV fC : Field) (A : Cell) (o len : Nat) (r : Option Value) (s u : State) : Prop := Got a D fV fC A o len r s u
/-- len > 0, no char of the range above 255: a Latin-1 String of their low bytes -/
theorem law (l : Launch) (a : Addr) (D : Cell) (fV fC : Field) (b : Addr) (A : Cell) (z : Int32) (o len : Nat) : Law l yN 5 4 2 35 yB 6 none site (P a D fV fC b A z o len) (E a D fV fC A o len) [⟨a, fC.slot⟩, ⟨a, fV.slot⟩] 1 len := by
  refine Law.of_walk (plainFor_of_name (by decide +kernel)) (by decide +kernel) (by decide +kernel) (by decide) (fun _ _ h => by rw [h.1]; rfl) (fun _ U U' hal hh h => ⟨h.1, h.2.1.mv hal hh, h.2.2.1.al hal, h.2.2.2.1.al hal, h.2.2.2.2.1.mv hal hh, h.2.2.2.2.2.1.there hal hh, h.2.2.2.2.2.2⟩) (fun r U U' V V' h1 hal h2 h => Got.mv r U U' V V' h1 hal h2 h) ?_
  intro p e s m args below meth c s₁ X0 hexec hbytes hml hret hlk hnm hown hh0 W hP
  obtain ⟨rfl, hB, f1, f2, hA, s1, hz, l0, l1, l2, hp⟩ := hP
  have a31 := hA.1.2.2.2
  have c1 : Steps p.tables e below (s₁.setTop (entryFrame m #[.ref a, .ref b, .int (Int32.ofNat o), .int (Int32.ofNat len), .null] 6)) (s₁.setTop (mkF m 0 #[.val (.ref a), .val (.ref b), .val (.int (Int32.ofNat o)), .val (.int (Int32.ofNat len)), .val .null, .unset] [])) := entry rfl
  have c2 : Steps p.tables e below (s₁.setTop (entryFrame m #[.ref a, .ref b, .int (Int32.ofNat o), .int (Int32.ofNat len), .null] 6)) (s₁.setTop (mkF m 1 #[.val (.ref a), .val (.ref b), .val (.int (Int32.ofNat o)), .val (.int (Int32.ofNat len)), .val .null, .unset] [.ref a])) := c1.trans (by
    refine XS.aloadN X0.here hexec rfl (hb hbytes d0) rfl rfl ?_
    exact Steps.refl _)
  obtain ⟨T3, X3, q3, st3⟩ := X0.oinit hexec hown (wks W (objW "java/lang/String" 1)) (g := (mkF m 1 #[.val (.ref a), .val (.ref b), .val (.int (Int32.ofNat o)), .val (.int (Int32.ofNat len)), .val .null, .unset] [.ref a])) rfl (by rw [hml]; rfl) (rest := []) rfl (hb hbytes d1) (W := 0) (by show 2 * 0 + 0 ≤ _; decide) (Nat.le_of_ble_eq_true rfl) (Nat.le_of_ble_eq_true rfl)
  have hh3 := q3.trans hh0
  have c4 : Steps p.tables e below (s₁.setTop (entryFrame m #[.ref a, .ref b, .int (Int32.ofNat o), .int (Int32.ofNat len), .null] 6)) (T3.setTop (mkF m 27 #[.val (.ref a), .val (.ref b), .val (.int (Int32.ofNat o)), .val (.int (Int32.ofNat len)), .val .null, .unset] [])) := (c2.trans (st3 _ (Steps.refl _))).trans (by
    refine XS.iloadN X3.here hexec rfl (hb hbytes d4) rfl ?_
    refine XS.ifYes X3.here hexec rfl (pc0 := 5) rfl (hb hbytes d5) rfl (i0_ne_t (nz32 (by omega) l0)) (by decide) rfl ?_
    exact Steps.refl _)
  obtain ⟨T5, X5, q5, st5⟩ := X3.sget hexec hown (wk W (.fieldLink "java/lang/String" 38 "java/lang/String" "COMPACT_STRINGS" "Z")) s1 (fun _ _ h => by rw [hh3]; exact h) (g := (mkF m 27 #[.val (.ref a), .val (.ref b), .val (.int (Int32.ofNat o)), .val (.int (Int32.ofNat len)), .val .null, .unset] [])) rfl (hb hbytes d27)
  have hh5 := q5.trans hh3
  have c6 : Steps p.tables e below (s₁.setTop (entryFrame m #[.ref a, .ref b, .int (Int32.ofNat o), .int (Int32.ofNat len), .null] 6)) (T5.setTop (mkF m 30 #[.val (.ref a), .val (.ref b), .val (.int (Int32.ofNat o)), .val (.int (Int32.ofNat len)), .val .null, .unset] [.int z])) := c4.trans (st5 _ (Steps.refl _))
  have c7 : Steps p.tables e below (s₁.setTop (entryFrame m #[.ref a, .ref b, .int (Int32.ofNat o), .int (Int32.ofNat len), .null] 6)) (T5.setTop (mkF m 36 #[.val (.ref a), .val (.ref b), .val (.int (Int32.ofNat o)), .val (.int (Int32.ofNat len)), .val .null, .unset] [.int (Int32.ofNat len), .int (Int32.ofNat o), .ref b])) := c6.trans (by
    refine XS.ifNo X5.here hexec rfl (hb hbytes d30) rfl (i0_eq_f hz) ?_
    refine XS.aloadN X5.here hexec rfl (hb hbytes d33) rfl rfl ?_
    refine XS.iloadN X5.here hexec rfl (hb hbytes d34) rfl ?_
    refine XS.iloadN X5.here hexec rfl (hb hbytes d35) rfl ?_
    exact Steps.refl _)
  obtain ⟨v8, T8, X8, E8, g8⟩ := X5.callS hexec (Cmp3.law l b A o len) hown (wks W (staticW "java/lang/String" 177 Cmp3.yN)) (wk W Cmp3.tab) (W := 0) (Nat.le_of_ble_eq_true rfl) (Nat.le_of_ble_eq_true rfl) (Nat.le_refl _) (by show 0 + len ≤ len; omega) (g := (mkF m 36 #[.val (.ref a), .val (.ref b), .val (.int (Int32.ofNat o)), .val (.int (Int32.ofNat len)), .val .null, .unset] [.int (Int32.ofNat len), .int (Int32.ofNat o), .ref b])) rfl (by rw [hml]; rfl) c7 (argsL := [.ref b, .int (Int32.ofNat o), .int (Int32.ofNat len)]) (rest := []) rfl rfl (by show 2 * 0 + 0 ≤ _; decide) (hb hbytes d36) (⟨rfl, hA.mv X5.warmed.alike hh5, l1, l2, hp⟩)
  obtain ⟨e8, z8⟩ := E8
  obtain ⟨rfl, N, n1, n2, n3, n4, n5, n6⟩ := NewArr.mv _ T5 s _ _ hh5.symm (Vm.Alike.refl _) rfl e8
  rw [hh5] at z8
  have hB1 := hB.keep X8.warmed.alike (n6 _ _ hB.1)
  have hne : s.heap.size ≠ a := (Nat.ne_of_lt (Array.getElem?_eq_some_iff.mp hB.1).1).symm
  have c9 : Steps p.tables e below (s₁.setTop (entryFrame m #[.ref a, .ref b, .int (Int32.ofNat o), .int (Int32.ofNat len), .null] 6)) (T8.setTop (mkF m 39 #[.val (.ref a), .val (.ref b), .val (.int (Int32.ofNat o)), .val (.int (Int32.ofNat len)), .val .null, .unset] [.ref s.heap.size])) := g8
  have c10 : Steps p.tables e below (s₁.setTop (entryFrame m #[.ref a, .ref b, .int (Int32.ofNat o), .int (Int32.ofNat len), .null] 6)) (T8.setTop (mkF m 45 #[.val (.ref a), .val (.ref b), .val (.int (Int32.ofNat o)), .val (.int (Int32.ofNat len)), .val .null, .val (.ref s.heap.size)] [.int (Int32.ofNat N.slots.size), .ref s.heap.size, .ref a])) := by
    have hc : Steps p.tables e below (s₁.setTop (entryFrame m #[.ref a, .ref b, .int (Int32.ofNat o), .int (Int32.ofNat len), .null] 6)) (T8.setTop (mkF m 45 #[.val (.ref a), .val (.ref b), .val (.int (Int32.ofNat o)), .val (.int (Int32.ofNat len)), .val .null, .val (.ref s.heap.size)] [.int (Int32.ofNat len), .ref s.heap.size, .ref a])) := c9.trans (by
      refine XS.astore X8.here hexec rfl (hb hbytes d39) rfl rfl rfl ?_
      refine XS.aloadN X8.here hexec rfl (hb hbytes d41) rfl rfl ?_
      refine XS.aload X8.here hexec rfl (hb hbytes d42) rfl rfl ?_
      refine XS.iloadN X8.here hexec rfl (hb hbytes d44) rfl ?_
      exact Steps.refl _)
    rw [n4]; exact hc
  obtain ⟨v11, T11, X11, E11, g11⟩ := X8.callS hexec (CodL.law l s.heap.size N) hown (wks W (staticW "java/lang/String" 47 CodL.yN)) (wk W CodL.tab) (W := 1) (Nat.le_of_ble_eq_true rfl) (Nat.le_of_ble_eq_true rfl) (Nat.le_refl _) (by show 0 + len + 0 ≤ len; omega) (g := (mkF m 45 #[.val (.ref a), .val (.ref b), .val (.int (Int32.ofNat o)), .val (.int (Int32.ofNat len)), .val .null, .val (.ref s.heap.size)] [.int (Int32.ofNat N.slots.size), .ref s.heap.size, .ref a])) rfl (by rw [hml]; rfl) c10 (argsL := [.ref s.heap.size, .int (Int32.ofNat N.slots.size)]) (rest := [.ref a]) rfl rfl (by show 2 * 0 + (1 + 0) ≤ _; decide) (hb hbytes d45) (⟨rfl, n1⟩)
  obtain ⟨rfl, q11⟩ := E11
  have hB11 := hB1.mv (X8.warmed.alike.symm.trans X11.warmed.alike) q11
  have c12 : Steps p.tables e below (s₁.setTop (entryFrame m #[.ref a, .ref b, .int (Int32.ofNat o), .int (Int32.ofNat len), .null] 6)) (T11.setTop (mkF m 48 #[.val (.ref a), .val (.ref b), .val (.int (Int32.ofNat o)), .val (.int (Int32.ofNat len)), .val .null, .val (.ref s.heap.size)] [.int 0, .ref a])) := g11
  obtain ⟨T13, X13, p13, bl13, sl13, st13⟩ := X11.finit hexec hown (wk W (.fieldLink "java/lang/String" 15 "java/lang/String" "coder" "B")) (Or.inr ⟨_, (wk W (.laysFinal "java/lang/String" "java/lang/String" "coder" "B"))⟩) (Or.inl ⟨rfl, hnm⟩) f2 (Or.inl rfl) hB11 (t := .byte) (by decide +kernel) rfl (g := (mkF m 48 #[.val (.ref a), .val (.ref b), .val (.int (Int32.ofNat o)), .val (.int (Int32.ofNat len)), .val .null, .val (.ref s.heap.size)] [.int 0, .ref a])) rfl (rest := []) rfl (hb hbytes d48)
  have c14 : Steps p.tables e below (s₁.setTop (entryFrame m #[.ref a, .ref b, .int (Int32.ofNat o), .int (Int32.ofNat len), .null] 6)) (T13.setTop (mkF m 54 #[.val (.ref a), .val (.ref b), .val (.int (Int32.ofNat o)), .val (.int (Int32.ofNat len)), .val .null, .val (.ref s.heap.size)] [.ref s.heap.size, .ref a])) := (c12.trans (st13 _ (Steps.refl _))).trans (by
    refine XS.aloadN X13.here hexec rfl (hb hbytes d51) rfl rfl ?_
    refine XS.aload X13.here hexec rfl (hb hbytes d52) rfl rfl ?_
    exact Steps.refl _)
  obtain ⟨T15, X15, p15, bl15, sl15, st15⟩ := X13.finit hexec hown (wk W (.fieldLink "java/lang/String" 9 "java/lang/String" "value" "[B")) (Or.inr ⟨_, (wk W (.laysFinal "java/lang/String" "java/lang/String" "value" "[B"))⟩) (Or.inl ⟨rfl, hnm⟩) f1 (Or.inl rfl) bl13 (t := (.array .byte)) (by decide +kernel) rfl (g := (mkF m 54 #[.val (.ref a), .val (.ref b), .val (.int (Int32.ofNat o)), .val (.int (Int32.ofNat len)), .val .null, .val (.ref s.heap.size)] [.ref s.heap.size, .ref a])) rfl (rest := []) rfl (hb hbytes d54)
  have c16 : Steps p.tables e below (s₁.setTop (entryFrame m #[.ref a, .ref b, .int (Int32.ofNat o), .int (Int32.ofNat len), .null] 6)) (T15.setTop (mkF m 57 #[.val (.ref a), .val (.ref b), .val (.int (Int32.ofNat o)), .val (.int (Int32.ofNat len)), .val .null, .val (.ref s.heap.size)] [])) := c14.trans (st15 _ (Steps.refl _))
  have ap := apart (Or.inr ⟨_, (wk W (.laysFinal "java/lang/String" "java/lang/String" "value" "[B"))⟩) (Or.inr ⟨_, (wk W (.laysFinal "java/lang/String" "java/lang/String" "coder" "B"))⟩) f1 f2 (t₁ := .array .byte) (t₂ := .byte) (by decide +kernel) (by decide +kernel) (by decide)
  have al := X8.warmed.alike.symm.trans X15.warmed.alike
  have n7 : T11.heap[s.heap.size]? = some N := by rw [q11]; exact n1.1
  exact ⟨T15, none, _, _, _, X15, by simp, rfl, by omega, (fun _ => rfl), ⟨rfl, _, N, bl15, ((Same.refl D _).set _ (by simp)).set _ (by simp), sl15, (Cell.slots_setSlot_ne _ ap).trans sl13, n1.keep al (p15.other hne (p13.other hne n7)), n2, by rw [al.findClass]; exact n3, n4, n5, fun y c h1 h2 => p15.other h1 (p13.other h1 (by rw [q11]; exact n6 y c h2)), by rw [p15.2.2, p13.2.2, q11]; exact z8⟩, fun fs hl => c16.trans (X15.returnOut hexec hret (hb hbytes d57) hl)⟩
end New4
namespace New1
def yN : MethodName := ⟨"java/lang/String", "<init>", "([C)V"⟩
abbrev yB : ByteArray := jdk_42_method_3_code
theorem d0 : decode yB 0 = .ok (.aload_n 0, 1) := by decide +kernel
theorem d1 : decode yB 1 = .ok (.aload_n 1, 1) := by decide +kernel
theorem d2 : decode yB 2 = .ok (.iconst 0, 1) := by decide +kernel
theorem d3 : decode yB 3 = .ok (.aload_n 1, 1) := by decide +kernel
theorem d4 : decode yB 4 = .ok (.arraylength, 1) := by decide +kernel
theorem d5 : decode yB 5 = .ok (.aconst_null, 1) := by decide +kernel
theorem d6 : decode yB 6 = .ok (.invokespecial 27, 3) := by decide +kernel
theorem d9 : decode yB 9 = .ok (.return_, 1) := by decide +kernel
def site : List Cond := [New4.tab] ++ initW "java/lang/String" 27 New4.yN
def tab : Cond := tabOf yN yB 2 none site
def P (a : Addr) (D : Cell) (fV fC : Field) (b : Addr) (A : Cell) (z : Int32) (args : Array Value) (s : State) : Prop := args = #[.ref a, .ref b] ∧ Blank "java/lang/String" a D s ∧ Found "java/lang/String" "value" "[B" fV s ∧ Found "java/lang/String" "coder" "B" fC s ∧ Ch b A s ∧ StaticIs s "java/lang/String" "COMPACT_STRINGS" "Z" (.int z) ∧ ¬ z = 0 ∧ 0 < A.slots.size ∧ A.slots.size ≤ 536870912 ∧ ∀ i, i < A.slots.size → ¬ 255 < cv A i
def E (a : Addr) (D : Cell) (fV fC : Field) (A : Cell) (r : Option Value) (s u : State) : Prop := Got a D fV fC A 0 A.slots.size r s u
/-- new String(chars), not empty, no char above 255: a Latin-1 String of their low bytes -/
theorem law (l : Launch) (a : Addr) (D : Cell) (fV fC : Field) (b : Addr) (A : Cell) (z : Int32) : Law l yN 2 1 3 52 yB 2 none site (P a D fV fC b A z) (E a D fV fC A) [⟨a, fC.slot⟩, ⟨a, fV.slot⟩] 1 A.slots.size := by
  refine Law.of_walk (plainFor_of_name (by decide +kernel)) (by decide +kernel) (by decide +kernel) (by decide) (fun _ _ h => by rw [h.1]; rfl) (fun _ U U' hal hh h => ⟨h.1, h.2.1.mv hal hh, h.2.2.1.al hal, h.2.2.2.1.al hal, h.2.2.2.2.1.mv hal hh, h.2.2.2.2.2.1.there hal hh, h.2.2.2.2.2.2⟩) (fun r U U' V V' h1 hal h2 h => Got.mv r U U' V V' h1 hal h2 h) ?_
  intro p e s m args below meth c s₁ X0 hexec hbytes hml hret hlk hnm hown hh0 W hP
  obtain ⟨rfl, hB, f1, f2, hA, s1, hz, l0, l2, hp⟩ := hP
  have c1 : Steps p.tables e below (s₁.setTop (entryFrame m #[.ref a, .ref b] 2)) (s₁.setTop (mkF m 0 #[.val (.ref a), .val (.ref b)] [])) := entry rfl
  have c2 : Steps p.tables e below (s₁.setTop (entryFrame m #[.ref a, .ref b] 2)) (s₁.setTop (mkF m 6 #[.val (.ref a), .val (.ref b)] [.null, .int (Int32.ofNat A.slots.size), .int 0, .ref b, .ref a])) := c1.trans (by
    refine XS.aloadN X0.here hexec rfl (hb hbytes d0) rfl rfl ?_
    refine XS.aloadN X0.here hexec rfl (hb hbytes d1) rfl rfl ?_
    refine iconstV X0.here hexec rfl 0 (hb hbytes d2) (by decide) ?_
    refine XS.aloadN X0.here hexec rfl (hb hbytes d3) rfl rfl ?_
    refine X0.alen hexec (hA.1.mv X0.warmed.alike hh0) rfl rfl (hb hbytes d4) ?_
    refine XS.aconstNull X0.here hexec rfl (hb hbytes d5) ?_
    exact Steps.refl _)
  obtain ⟨v3, T3, X3, E3, g3⟩ := X0.callN hexec (New4.law l a D fV fC b A z 0 A.slots.size) rfl hown (wks W (initW "java/lang/String" 27 New4.yN)) (W New4.tab (by simp only [site, List.mem_cons, List.mem_append, true_or, or_true])) (W := 0) (Nat.le_of_ble_eq_true rfl) (Nat.le_of_ble_eq_true rfl) (Nat.le_refl _) (by show 0 + A.slots.size ≤ A.slots.size; omega) (g := (mkF m 6 #[.val (.ref a), .val (.ref b)] [.null, .int (Int32.ofNat A.slots.size), .int (Int32.ofNat 0), .ref b, .ref a])) rfl (by rw [hml]; rfl) c2 (argsL := [.ref b, .int (Int32.ofNat 0), .int (Int32.ofNat A.slots.size), .null]) (rest := []) rfl rfl (by show 2 * 0 + 0 ≤ _; decide) (hb hbytes d6) (⟨rfl, hB.mv X0.warmed.alike hh0, f1.al X0.warmed.alike, f2.al X0.warmed.alike, hA.mv X0.warmed.alike hh0, s1.there X0.warmed.alike hh0, hz, l0, by omega, l2, fun i hi => by rw [Nat.zero_add]; exact hp i hi⟩)
  have e0 := Got.mv _ s₁ s _ _ hh0.symm (Vm.Alike.refl _) rfl E3
  obtain rfl := e0.1
  have c4 : Steps p.tables e below (s₁.setTop (entryFrame m #[.ref a, .ref b] 2)) (T3.setTop (mkF m 9 #[.val (.ref a), .val (.ref b)] [])) := g3
  exact ⟨T3, none, _, _, _, X3, by simp, rfl, by omega, (fun _ => rfl), e0, fun fs hl => c4.trans (X3.returnOut hexec hret (hb hbytes d9) hl)⟩
theorem pays {l : Launch} {R : Room} {p : Program} {e : Env} {below : List Frame} {s : State} {sargs : Array Value} {len W : Nat} (a : Addr) (D : Cell) (fV fC : Field) (b : Addr) (A : Cell) (z : Int32) (htab : tab.before sargs s = true) (hfr : 4 ≤ R.frames) (hlo : W + 65 ≤ R.locals) :
    Back l R p e below s sargs yN len W (fun A₁ a₁ => A₁.cells + 1 ≤ R.cells ∧ A₁.slots + A.slots.size ≤ R.slots ∧ P a D fV fC b A z a₁ A₁.U) (fun A₁ _ v₁ B₁ => E a D fV fC A v₁ A₁.U B₁.U ∧ B₁.locs = A₁.locs ++ [⟨a, fC.slot⟩, ⟨a, fV.slot⟩] ∧ B₁.cells = A₁.cells + 1 ∧ B₁.slots = A₁.slots + A.slots.size) :=
  (law l a D fV fC b A z).pays htab hfr (by omega)
end New1
end StrChars
namespace StrChars.Road
open Jvm Sem ClassFile Op Lib Jvm.Stand Jvm.Free Jvm.Free.XT
open Jvm.Lib.Cold (StaticIs)
abbrev ST : String := "java/lang/String"
/-- every table word that New1's law asks, flat -/
abbrev words : List Jvm.Cond := [.code New1.yN New1.yB 2 none, .initialized ST, .methodLink ST 27 New4.yN, .instanceMethod New4.yN,
  .code New4.yN New4.yB 6 none, .fieldLink ST 38 ST "COMPACT_STRINGS" "Z", .laysFinal ST ST "value" "[B", .fieldLink ST 9 ST "value" "[B", .laysFinal ST ST "coder" "B", .fieldLink ST 15 ST "coder" "B",
  .methodLink ST 1 Lib.objectInit, .instanceMethod Lib.objectInit, .code Lib.objectInit ⟨#[0xb1]⟩ 1 none, .methodLink ST 177 Cmp3.yN, .static Cmp3.yN, .methodLink ST 47 CodL.yN, .static CodL.yN,
  .code Cmp3.yN Cmp3.yB 6 (some (.array .byte)), .initialized U16, .arrayClass .byte, .methodLink U16 115 Cmp5.yN, .static Cmp5.yN, .code Cmp5.yN Cmp5.yB 7 (some .int), .code CodL.yN CodL.yB 2 (some .byte)]
theorem tab_of {a : Array Value} {s : State} (h : ∀ w ∈ words, w.before a s = true) : New1.tab.before a s = true := by
  have h5 : Cmp5.tab.before a s = true := unparts (wk h (.code Cmp5.yN Cmp5.yB 7 (some .int))) (wks h (.initialized Cmp5.yN.cls :: Cmp5.site))
  have hc : CodL.tab.before a s = true := unparts (wk h (.code CodL.yN CodL.yB 2 (some .byte))) (wks h (.initialized CodL.yN.cls :: CodL.site))
  have q5 : ∀ w ∈ Cmp5.tab :: words, w.before a s = true := fun w hw => (List.mem_cons.mp hw).elim (fun e => e ▸ h5) (h w)
  have h3 : Cmp3.tab.before a s = true := unparts (wk q5 (.code Cmp3.yN Cmp3.yB 6 (some (.array .byte)))) (wks q5 (.initialized Cmp3.yN.cls :: Cmp3.site))
  have q3 : ∀ w ∈ Cmp3.tab :: CodL.tab :: words, w.before a s = true := fun w hw => (List.mem_cons.mp hw).elim (fun e => e ▸ h3) fun hw => (List.mem_cons.mp hw).elim (fun e => e ▸ hc) (h w)
  have h4 : New4.tab.before a s = true := unparts (wk q3 (.code New4.yN New4.yB 6 none)) (wks q3 (.initialized New4.yN.cls :: New4.site))
  have q4 : ∀ w ∈ New4.tab :: words, w.before a s = true := fun w hw => (List.mem_cons.mp hw).elim (fun e => e ▸ h4) (h w)
  exact unparts (wk q4 (.code New1.yN New1.yB 2 none)) (wks q4 (.initialized New1.yN.cls :: New1.site))
/-- the words ride from the start Z to the walk's own state -/
theorem moved {Z s : State} {a0 args : Array Value} (hZ : Z.Warmed39 s.vm) (hw : ∀ d ∈ words, d.before a0 Z = true) : ∀ d ∈ words, d.before args s = true := fun d hd => by
  have q := hw d hd
  have t : ∀ d ∈ words, d = .arrayClass .byte ∨ (d.onTables && d.keepsFace) = true := by decide +kernel
  rcases t d hd with rfl | t
  · exact RoadKit.mvA hZ q
  · exact RoadKit.mv hZ q t
/-- WHAT COMES BACK, over the tables of the start Z: h the heap at the call, h' behind it -/
def Q (Z : State) (x : Addr) (A : Cell) (h : Heap) (v : Option Value) (h' : Heap) (L : List Loc) : Prop := v = none ∧ (∀ y ∈ L, y.base = x) ∧ RoadKit.Keep h h' [x] ∧ h'.size = h.size + 1 ∧ RoadKit.Exa Z h' x ST ∧ RoadKit.Fld Z h' x ST "value" "[B" (.ref h.size) ∧ RoadKit.Fld Z h' x ST "coder" "B" (.int 0) ∧
  (∃ V : Cell, RoadKit.Arr Z h' h.size V .byte ∧ V.vm = .none ∧ Z.vm.findClass "[B" = some V.cls ∧ V.slots.size = A.slots.size ∧ ∀ j, j < A.slots.size → V.slots[j]? = some (.int (lo8 (cv A j)))) ∧
  ∀ (O n d : String) (w : Value), RoadKit.Fld Z h x O n d w → RoadKit.slotOf Z O n d ≠ RoadKit.slotOf Z ST "value" "[B" → RoadKit.slotOf Z O n d ≠ RoadKit.slotOf Z ST "coder" "B" → RoadKit.Fld Z h' x O n d w
/-- **new String(chars) AT A CALL, IN THE ROAD'S FORM**: for specialBack behind newO: x the fresh String, b the char[] with the cell A -/
theorem back {p : Program} {l : Launch} {e : Env} {R : Room} {s : State} {args : Array Value} {below : List Frame} {len W : Nat} {Z : State} {a0 : Array Value} {h : Heap} (hZ : Z.Warmed39 s.vm) (hw : ∀ d ∈ words, d.before a0 Z = true) {kI : Nat} (wi : (Jvm.Cond.instantiable ST kI).before a0 Z = true)
    {x b : Addr} {A : Cell} {z : Int32} {v0 c0 : Value} (E : RoadKit.Exa Z h x ST) (V : RoadKit.Fld Z h x ST "value" "[B" v0) (C : RoadKit.Fld Z h x ST "coder" "B" c0) (K : RoadKit.Arr Z h b A .char) (hty : Typed .char A) (S : RoadKit.Sta Z h ST "COMPACT_STRINGS" "Z" (.int z)) (hz : ¬ z = 0)
    (l0 : 0 < A.slots.size) (l2 : A.slots.size ≤ 536870912) (hp : ∀ i, i < A.slots.size → ¬ 255 < cv A i) (hfr : 4 ≤ R.frames) (hlo : W + 65 ≤ R.locals) :
    Back l R p e below s args New1.yN len W (fun P a => a = #[.ref x, .ref b] ∧ P.U.heap = h ∧ P.cells + 1 ≤ R.cells ∧ P.slots + A.slots.size ≤ R.slots)
      (fun P _ v B => ∃ L, Q Z x A h v B.U.heap L ∧ B.locs = P.locs ++ L ∧ B.cells = P.cells + 1 ∧ B.slots = P.slots + A.slots.size) := by
  intro m meth c P g ig mk a X hg hsize hdg hW hn hp'
  obtain ⟨rfl, rfl, r1, r2⟩ := hp'
  have al : Z.vm.Alike P.U.vm := hZ.alike.trans X.warmed.alike
  obtain ⟨D, cfV, kV, iV, fV, hD, gV, stV, knV, obV, asV, slV⟩ := id V
  obtain ⟨D', cfC, kC, iC, fC, hD', gC, stC, -, -, asC, slC⟩ := id C
  cases hD.symm.trans hD'
  obtain ⟨D2, kD, e1, e2, e3, e4, e5⟩ := id E
  cases hD.symm.trans e1
  obtain ⟨c2, k2, i1, i2, i3, -⟩ := Cond.instantiable_spec wi
  cases e2.symm.trans i1
  cases e3.symm.trans i2
  obtain ⟨kU, u1, u2⟩ := al.2.2 _ _ e3
  have hB : Blank ST x D P.U := ⟨hD, ⟨knV, fun q hq => by rw [hq] at obV; cases obV⟩, by rw [al.findClass]; exact e2, kU, u1, by rw [u2]; exact i3, by rw [u2]; exact e5 i3⟩
  have F1 : Found ST "value" "[B" fV P.U := ⟨SBG.found_only al ⟨cfV, kV, iV, gV⟩, stV⟩
  have F2 : Found ST "coder" "B" fC P.U := ⟨SBG.found_only al ⟨cfC, kC, iC, gC⟩, stC⟩
  have hA : Ch b A P.U := ⟨⟨K.1, State.isArrayOf_alike al K.2.1, K.2.2, by omega⟩, hty⟩
  have hS : StaticIs P.U ST "COMPACT_STRINGS" "Z" (.int z) := by
    obtain ⟨cfS, iS, kS, fS, st, cS, t1, t2, t3, t4, t5, t6, t7⟩ := S
    exact StaticIs.there (s := { Z with heap := P.U.heap }) ⟨cfS, iS, kS, fS, st, cS, t1, t2, t3, t4, t5, (fun q => by rw [q] at t6; cases t6), t7⟩ al rfl
  obtain ⟨v, B, X', ⟨⟨hv, E', V', q1, q2, q3, q4, q5, q6, q7, q8, q9, q10, q11⟩, hl, hc, hs⟩, st⟩ := New1.pays x D fV fC b A z (tab_of (moved hZ hw)) hfr hlo m meth c P g ig mk _ X hg hsize hdg hW hn ⟨r1, r2, rfl, hB, F1, F2, hA, hS, hz, l0, l2, hp⟩
  have al' : Z.vm.Alike B.U.vm := hZ.alike.trans X'.warmed.alike
  have hsz : E'.slots.size = D.slots.size := by
    obtain ⟨-, -, -, kB, w1, w2, w3⟩ := q1
    obtain ⟨kB', y1, y2⟩ := al'.2.2 _ _ e3
    rw [q2.2.1] at w1
    cases w1.symm.trans y1
    rw [w3, e5 i3, y2]
  refine ⟨v, B, X', ⟨_, ⟨hv, ?_, ⟨by omega, fun y cy hy hn' => q10 y cy (by simpa using hn') hy, fun y cy hy => ?_⟩, q11, ⟨E', _, q1.1, by rw [q2.2.1]; exact e2, by rw [q2.2.1]; exact e3, by rw [q2.1]; exact obV, fun _ => by rw [hsz]; exact e5 i3⟩,
    ⟨E', cfV, kV, iV, fV, q1.1, gV, stV, by rw [q2.1]; exact knV, by rw [q2.1]; exact obV, by rw [q2.2.1]; exact asV, q3⟩, ⟨E', cfC, kC, iC, fC, q1.1, gC, stC, by rw [q2.1]; exact knV, by rw [q2.1]; exact obV, by rw [q2.2.1]; exact asC, q4⟩,
    ⟨V', ⟨q5.1, State.isArrayOf_alike al'.symm q5.2.1, q5.2.2.1⟩, q6, by rw [← al'.findClass]; exact q7, q8, fun j hj => by have := q9 j hj; rwa [Nat.zero_add] at this⟩, fun O n d w F n1 n2 => ?_⟩, hl, hc, hs⟩, st⟩
  · intro y hy
    simp only [List.mem_cons, List.not_mem_nil, or_false] at hy
    rcases hy with rfl | rfl <;> rfl
  · by_cases q : y = x
    · subst q
      cases hD.symm.trans hy
      exact ⟨E', q1.1, q2.2.1, q2.1, hsz⟩
    · exact ⟨cy, q10 y cy q hy, rfl, rfl, rfl⟩
  · obtain ⟨D3, cf, k, i, f, g1, g2, g3, g4, g5, g6, g7⟩ := F
    cases hD.symm.trans g1
    simp only [RoadKit.slotOf, g2, gV, gC, Option.map_some, Option.getD_some] at n1 n2
    exact ⟨E', cf, k, i, f, q1.1, g2, g3, by rw [q2.1]; exact g4, by rw [q2.1]; exact g5, by rw [q2.2.1]; exact g6, by rw [q2.2.2 f.slot (by simp [n1, n2])]; exact g7⟩
end StrChars.Road
namespace StrChars.Road
open Jvm Sem ClassFile Op Lib Jvm.Stand Jvm.Free Jvm.Free.XT
/-- WHAT COMES BACK, the byte[] as a list of values -/
def QA (Z : State) (x : Addr) (zn : Int32) (cs : List Int32) (h : Heap) (v : Option Value) (h' : Heap) (L : List Loc) : Prop := v = none ∧ (∀ y ∈ L, y.base = x) ∧ RoadKit.Keep h h' [x] ∧ h'.size = h.size + 1 ∧ RoadKit.Exa Z h' x ST ∧ RoadKit.Fld Z h' x ST "value" "[B" (.ref h.size) ∧ RoadKit.Fld Z h' x ST "coder" "B" (.int 0) ∧
  (∃ kb, Z.vm.findClass "[B" = some kb ∧ RoadKit.Arv Z h' h.size kb .byte zn (cs.map fun c => .int (lo8 c)) (.int 0)) ∧
  ∀ (O n d : String) (w : Value), RoadKit.Fld Z h x O n d w → RoadKit.slotOf Z O n d ≠ RoadKit.slotOf Z ST "value" "[B" → RoadKit.slotOf Z O n d ≠ RoadKit.slotOf Z ST "coder" "B" → RoadKit.Fld Z h' x O n d w
/-- **new String(chars) AT A CALL, THE ARRAYS AS LISTS**: the char[] at b holds cs, not empty, no char above 255 -/
theorem backArv {p : Program} {l : Launch} {e : Env} {R : Room} {s : State} {args : Array Value} {below : List Frame} {len W : Nat} {Z : State} {a0 : Array Value} {h : Heap} (hZ : Z.Warmed39 s.vm) (hw : ∀ d ∈ words, d.before a0 Z = true) {kI : Nat} (wi : (Jvm.Cond.instantiable ST kI).before a0 Z = true)
    {x b : Addr} {k : ClassId} {zn z : Int32} {cs : List Int32} {dv v0 c0 : Value} (E : RoadKit.Exa Z h x ST) (V : RoadKit.Fld Z h x ST "value" "[B" v0) (C : RoadKit.Fld Z h x ST "coder" "B" c0) (K : RoadKit.Arv Z h b k .char zn (cs.map Value.int) dv) (S : RoadKit.Sta Z h ST "COMPACT_STRINGS" "Z" (.int z)) (hz : ¬ z = 0)
    (hlen : zn.toNatClampNeg = cs.length) (h0 : 0 < cs.length) (hbig : cs.length ≤ 536870912) (hall : ∀ c ∈ cs, ¬ 255 < c) (hfr : 4 ≤ R.frames) (hlo : W + 65 ≤ R.locals) :
    Back l R p e below s args New1.yN len W (fun P a => a = #[.ref x, .ref b] ∧ P.U.heap = h ∧ P.cells + 1 ≤ R.cells ∧ P.slots + cs.length ≤ R.slots)
      (fun P _ v B => ∃ L, QA Z x zn cs h v B.U.heap L ∧ B.locs = P.locs ++ L ∧ B.cells = P.cells + 1 ∧ B.slots = P.slots + cs.length) := by
  obtain ⟨A, K1, K2, K3, K4, K5, K6⟩ := K
  have e : A.slots.size = cs.length := K3.trans hlen
  have hat : ∀ (i : Nat) (hi : i < cs.length), A.slots[i]? = some (.int cs[i]) := fun i hi => by rw [K5 i (by omega)]; simp [List.getD_eq_getElem?_getD, hi]
  have hcv : ∀ (i : Nat) (hi : i < cs.length), cv A i = cs[i] := fun i hi => by unfold cv; rw [hat i hi]
  have hty : Typed .char A := fun i v hv => by
    have hi : i < A.slots.size := (Array.getElem?_eq_some_iff.mp hv).1
    have q := K5 i hi
    rw [hv] at q
    rw [Option.some.inj q]
    exact K6 i hi
  refine Back.mono (back hZ hw wi E V C K1 hty S hz (by omega) (by omega) (fun i hi => by rw [hcv i (by omega)]; exact hall _ (List.getElem_mem _)) hfr hlo) (fun P a hp => ⟨hp.1, hp.2.1, hp.2.2.1, by rw [e]; exact hp.2.2.2⟩) (fun P a v B hp hq => ?_)
  obtain ⟨L, ⟨q1, q2, q3, q4, q5, q6, q7, ⟨V', v1, v2, v3, v4, v5⟩, q9⟩, hl, hc, hs⟩ := hq
  refine ⟨L, ⟨q1, q2, q3, q4, q5, q6, q7, ⟨V'.cls, v3, V', v1, rfl, by rw [v4, e, hlen], K4, fun i hi => ?_, fun i hi => ?_⟩, q9⟩, hl, hc, by rw [hs, e]⟩
  · have hi' : i < cs.length := by omega
    rw [v5 i (by omega), hcv i hi']; simp [List.getD_eq_getElem?_getD, hi']
  · have hi' : i < cs.length := by omega
    simp only [List.getD_eq_getElem?_getD, List.getElem?_map, List.getElem?_eq_getElem hi', Option.map_some, Option.getD_some]
    exact fits_lo8 _
end StrChars.Road
namespace StrChars.Road
open Jvm Sem ClassFile Op Lib Jvm.Stand Jvm.Free Jvm.Free.XT
/-- WHAT COMES BACK, in the writer's own shape -/
def QV (Z : State) (x : Addr) (N : Int32) (bs : List Int32) (h : Heap) (n0 : Nat) (v : Option Value) (h' : Heap) (L : List Loc) : Prop := v = none ∧ RoadKit.Fr n0 L ∧ RoadKit.Keep h h' [x] ∧ RoadKit.Exa Z h' x ST ∧ RoadKit.Fld Z h' x ST "coder" "B" (.int 0) ∧
  ∃ (t : Addr) (kb : ClassId), n0 ≤ t ∧ h.size ≤ t ∧ ¬ t = x ∧ RoadKit.Fld Z h' x ST "value" "[B" (.ref t) ∧ RoadKit.Arv Z h' t kb .byte N (bs.map Value.int) (.int 0)
/-- **new String(chars) AT A CALL, FOR THE WRITER**: a char[] of n known ints, each 0 to 255 -/
theorem backV {p : Program} {l : Launch} {e : Env} {R : Room} {s : State} {args : Array Value} {below : List Frame} {len W : Nat} {Z : State} {a0 : Array Value} {h : Heap} (hZ : Z.Warmed39 s.vm) (hw : ∀ d ∈ words, d.before a0 Z = true) {kI : Nat} (wi : (Jvm.Cond.instantiable ST kI).before a0 Z = true)
    {x b : Addr} {kC : ClassId} {cs bs : List Int32} {d v0 c0 : Value} {z N : Int32} {n n0 : Nat} (hx0 : n0 ≤ x) (hh0 : n0 ≤ h.size) (E : RoadKit.Exa Z h x ST) (V : RoadKit.Fld Z h x ST "value" "[B" v0) (C : RoadKit.Fld Z h x ST "coder" "B" c0) (K : RoadKit.Arv Z h b kC .char N (cs.map Value.int) d) (S : RoadKit.Sta Z h ST "COMPACT_STRINGS" "Z" (.int z)) (hz : ¬ z = 0)
    (hn : cs.length = n) (hN : N = Int32.ofNat n) (l0 : 0 < n) (l2 : n ≤ 4000) (hp : ∀ c ∈ cs, ¬ c < 0 ∧ ¬ (255 : Int32) < c) (hb : bs = cs.map (fun c => c.toInt8.toInt32)) (hfr : 4 ≤ R.frames) (hlo : W + 65 ≤ R.locals) :
    Back l R p e below s args (⟨"java/lang/String", "<init>", "([C)V"⟩ : MethodName) len W (fun P a => a = #[.ref x, .ref b] ∧ P.U.heap = h ∧ P.cells + 1 ≤ R.cells ∧ P.slots + n ≤ R.slots)
      (fun P _ v B => ∃ L, QV Z x N bs h n0 v B.U.heap L ∧ B.locs = P.locs ++ L ∧ B.cells = P.cells + 1 ∧ B.slots = P.slots + n) := by
  subst hn hN hb
  refine Back.mono (backArv hZ hw wi E V C K S hz (n32 (by omega)) l0 (by omega) (fun c hc => (hp c hc).2) hfr hlo) (fun P a hp => hp) (fun P a v B hp hq => ?_)
  obtain ⟨L, ⟨q1, q2, q3, q4, q5, q6, q7, ⟨kb, v1, v2⟩, q9⟩, hl, hc, hs⟩ := hq
  exact ⟨L, ⟨q1, fun y hy => by rw [q2 y hy]; exact hx0, q3, q5, q7, h.size, kb, hh0, Nat.le_refl _, Nat.ne_of_gt E.lt, q6, by rw [List.map_map]; exact v2⟩, hl, hc, hs⟩
end StrChars.Road
end Jvm.Pilot.@@N@@
namespace Jvm.RoadKit
open Sem ClassFile Op Lib Jvm.Stand Jvm.Free Jvm.LawKit
section New
variable {p : Program} {l : Launch} {e : Env} {R : Room} {s : State} {m : MethodId} {args : Array Value} {below : List Frame} {meth : Method} {c : Code} {T : State} {locs : List Loc} {cells slots : Nat}
theorem retI (X : Stand p l e R s m args below meth c T locs cells slots) (hx : p.tables.exec = Jvm.exec) {pc : Nat} {Ls : Array Slot} {z : Int32} {rest : List Value} (hret : meth.sig.returnType = some .int) (hd : decode c.code pc = .ok (.ireturn, 1)) {fs : List Frame}
    (hl : ∀ (f : JFrame) (acts : List Action), f.method = m → f.locked = none → f.entered = [] → (doReturn e (T.setTop f) acts (some (.int z))).1 = T.setFrames fs) : Steps p.tables e below (T.setTop (mkF m pc Ls (.int z :: rest))) (T.setFrames fs) := by
  have hm' : T.vm.method? m = some meth := X.method'
  have hn : narrow .int (.int z) = .int z := rfl
  show Steps p.tables e below (T.setTop { method := m, pc := pc, locals := Ls, stack := _ :: rest, locked := none }) _
  jvm_step X.here [X.here.top, hx, hd, hm', hret, hn]
  first | (intro acts; rw [hl _ acts rfl rfl rfl]) | rw [hl _ _ rfl rfl rfl]
  exact Steps.refl _
end New
end Jvm.RoadKit
namespace Jvm.Pilot.@@N@@
open Jvm Jvm.ClassFile Sem Op Lib Jvm.Free Jvm.Stand Jvm.LawKit Jvm.RoadKit Bundle Jvm.Pilot.@@N@@.Jvm.D
theorem wd {Z : State} {a0 : Array Value} (hw : ∀ d ∈ tables_1, d.before a0 Z = true) (i : Nat) {d : Jvm.Cond} (h : tables_1[i]? = some d) : d.before a0 Z = true := hw _ (List.mem_of_getElem? h)
abbrev jv (x : Int64) : Slot := .val (.long x)
/-- from A the run comes to an end that R speaks of -/
abbrev own_Go (tb : Tables) (e : Env) (below : List Frame) (A : State) (R : State → Outcome → Prop) : Prop := ∃ s₂ o, Steps tb e below A s₂ ∧ R s₂ o
theorem own_go {tb : Tables} {e : Env} {below : List Frame} {A : State} {R : State → Outcome → Prop} (h : own_Go tb e below A R) : ∃ s₂ o, Steps tb e below A s₂ ∧ R s₂ o := h
theorem own_lift {tb : Tables} {e : Env} {below : List Frame} {A B : State} {R : State → Outcome → Prop} (h : ∀ t, Steps tb e below A t → Steps tb e below B t) (k : own_Go tb e below A R) : own_Go tb e below B R := by
  obtain ⟨t, o, k1, k2⟩ := k
  exact ⟨t, o, h t k1, k2⟩
theorem own_plain {Z : State} {h : Heap} {a : Addr} {C : String} (F : Exa Z h a C) : ∃ c : Cell, h[a]? = some c ∧ c.vm.isStatics = false := by
  obtain ⟨c, _, h1, -, -, h4, -⟩ := F
  exact ⟨c, h1, h4⟩
theorem own_Arr_keep {Z : State} {h h' : Heap} {a : Addr} {c : Cell} {ty : FieldType} {ws : List Addr} (F : Arr Z h a c ty) (K : Keep h h' ws) (q : a ∉ ws) : Arr Z h' a c ty := ⟨K.2.1 a c F.1 q, F.2⟩
theorem own_asymm {a b : Int32} (h : a < b) : ¬ b < a := Int32.not_lt.mpr (Int32.le_of_lt h)
theorem own_Sta_keep {Z : State} {h h' : Heap} {C n d : String} {v : Value} {ws : List Addr} (F : Sta Z h C n d v) (K : Keep h h' ws) (q : ∀ x ∈ ws, ∃ c : Cell, h[x]? = some c ∧ c.vm.isStatics = false) : Sta Z h' C n d v := by
  obtain ⟨cf, i, k, f, st, cell, h1, h2, h3, h4, h5, h6, h7⟩ := F
  refine ⟨cf, i, k, f, st, cell, h1, h2, h3, h4, K.2.1 st cell h5 fun z => ?_, h6, h7⟩
  obtain ⟨c, g1, g2⟩ := q st z
  cases h5.symm.trans g1
  rw [h6] at g2
  cases g2
theorem own_words : ∀ d ∈ StrChars.Road.words, d ∈ tables_1 := by decide +kernel
theorem own_root {Z : State} {a0 : Array Value} {O K : String} {n : Nat} (w : (Cond.noSuperclass O).before a0 Z = true) (wk : (Cond.instantiable K n).before a0 Z = true) (hn : O ≠ K) : NS Z O K := by
  obtain ⟨c, k, h1, h2, h3, -, -⟩ := Cond.noSuperclass_spec w
  obtain ⟨t, k', g1, -⟩ := Cond.instantiable_spec wk
  have ne := ids_ne h1 g1 hn
  refine ⟨c, t, h1, g1, fun fuel => ?_⟩
  cases fuel with
  | zero => rfl
  | succ f => simp [Vm.isSubclassAux, ne, h2, h3]
theorem own_no {Z : State} {a0 : Array Value} {C S K : String} {n : Nat} (w : (Cond.superclass C S).before a0 Z = true) (wk : (Cond.instantiable K n).before a0 Z = true) (nst : NS Z C K) (hn : C ≠ K) : ∃ c t, Z.vm.findClass C = some c ∧ Z.vm.findClass K = some t ∧ Z.vm.assignable c t = false := by
  obtain ⟨c, t, h0, g0, n3⟩ := nst
  obtain ⟨p, k, kp, h1, h2, h3, h4, h5, -, h7⟩ := Cond.superclass_spec h0 w
  obtain ⟨t', k', g1, g2, g3, g4, -⟩ := Cond.instantiable_spec wk
  cases g0.symm.trans g1
  have g7 : k'.isInterface = false := (Bool.or_eq_false_iff.mp g4).1
  have ne := ids_ne h0 g0 hn
  refine ⟨c, t, h0, g0, ?_⟩
  show Z.vm.assignableAux (255 + 1) c t = false
  simp [Vm.assignableAux, ne, h2, g2, h5, g3, g7, Vm.isSubclass, n3]
theorem own_m16 (x : Int32) : ¬ ((x &&& (65535 : Int32)) < (0 : Int32)) ∧ ¬ ((65535 : Int32) < (x &&& (65535 : Int32))) := by
  have m : (x &&& (65535 : Int32)).toInt = x.toInt % 2 ^ 16 := Jvm.Kit.i32_mask x 65535 (k := 16) (by decide) (by decide)
  rw [Int32.lt_iff_toInt_lt, Int32.lt_iff_toInt_lt]
  have e0 : (0 : Int32).toInt = 0 := rfl
  have e8 : (65535 : Int32).toInt = 65535 := rfl
  omega
theorem own_m8 (x : Int32) : ¬ ((x &&& (255 : Int32)) < (0 : Int32)) ∧ ¬ ((255 : Int32) < (x &&& (255 : Int32))) := by
  have m : (x &&& (255 : Int32)).toInt = x.toInt % 2 ^ 8 := Jvm.Kit.i32_mask x 255 (k := 8) (by decide) (by decide)
  rw [Int32.lt_iff_toInt_lt, Int32.lt_iff_toInt_lt]
  have e0 : (0 : Int32).toInt = 0 := rfl
  have e8 : (255 : Int32).toInt = 255 := rfl
  omega
theorem own_s24_int (x : Int32) : -8388608 ≤ ((x <<< ((8 : Int32) &&& 31)) >>> ((8 : Int32) &&& 31)).toInt ∧ ((x <<< ((8 : Int32) &&& 31)) >>> ((8 : Int32) &&& 31)).toInt ≤ 8388607 := by
  have e : ((x <<< ((8 : Int32) &&& 31)) >>> ((8 : Int32) &&& 31)).toInt = (x <<< ((8 : Int32) &&& 31)).toInt / 2 ^ 8 := Jvm.Kit.i32_shr _ _ (by decide)
  have r := rng32 (x <<< ((8 : Int32) &&& 31))
  rw [e]
  omega
theorem own_s24 (x : Int32) : ¬ (((x <<< ((8 : Int32) &&& 31)) >>> ((8 : Int32) &&& 31)) < (-8388608 : Int32)) ∧ ¬ ((8388607 : Int32) < ((x <<< ((8 : Int32) &&& 31)) >>> ((8 : Int32) &&& 31))) := by
  have r := own_s24_int x
  rw [Int32.lt_iff_toInt_lt, Int32.lt_iff_toInt_lt]
  have e0 : (-8388608 : Int32).toInt = -8388608 := rfl
  have e8 : (8388607 : Int32).toInt = 8388607 := rfl
  omega
theorem own_u16 (x : Int32) : ¬ (((x.toUInt32 >>> ((16 : Int32) &&& 31).toUInt32).toInt32) < (0 : Int32)) ∧ ¬ ((65535 : Int32) < ((x.toUInt32 >>> ((16 : Int32) &&& 31).toUInt32).toInt32)) := by
  have e : ((x.toUInt32 >>> ((16 : Int32) &&& 31).toUInt32).toInt32).toBitVec.toNat = x.toUInt32.toNat / 2 ^ 16 := by
    show (x.toUInt32 >>> ((16 : Int32) &&& 31).toUInt32).toNat = _
    have q : ((16 : Int32) &&& 31).toUInt32 = 16 := by decide
    rw [q, UInt32.toNat_shiftRight, Nat.shiftRight_eq_div_pow]
    rfl
  have c : ((x.toUInt32 >>> ((16 : Int32) &&& 31).toUInt32).toInt32).toInt = if 2 * ((x.toUInt32 >>> ((16 : Int32) &&& 31).toUInt32).toInt32).toBitVec.toNat < 2 ^ 32 then (((x.toUInt32 >>> ((16 : Int32) &&& 31).toUInt32).toInt32).toBitVec.toNat : Int) else (((x.toUInt32 >>> ((16 : Int32) &&& 31).toUInt32).toInt32).toBitVec.toNat : Int) - (2 ^ 32 : Nat) := BitVec.toInt_eq_toNat_cond _
  rw [e] at c
  have l := x.toUInt32.toNat_lt
  rw [if_pos (by omega)] at c
  rw [Int32.lt_iff_toInt_lt, Int32.lt_iff_toInt_lt, c]
  have e0 : (0 : Int32).toInt = 0 := rfl
  have e8 : (65535 : Int32).toInt = 65535 := rfl
  omega
theorem own_and255 (x : Int32) : ¬ (x &&& 255) < 0 ∧ ¬ (255 : Int32) < (x &&& 255) := by
  have h : (x &&& 255).toBitVec.toNat < 256 := by
    simp only [Int32.toBitVec_and, BitVec.toNat_and]
    exact Nat.lt_succ_of_le Nat.and_le_right
  have e : (x &&& 255).toInt = (x &&& 255).toBitVec.toNat := by
    show (x &&& 255).toBitVec.toInt = _
    rw [BitVec.toInt_eq_toNat_cond, if_pos (by omega)]
  rw [Int32.lt_iff_toInt_lt, Int32.lt_iff_toInt_lt, e, show (0 : Int32).toInt = 0 from rfl, show (255 : Int32).toInt = 255 from rfl]
  omega
theorem own_lat (p4 : Int32) : ∀ c ∈ [(nar .char (((p4 &&& (255 : Int32)).toUInt32.toUInt16.toUInt32.toInt32))), (nar .char (((((p4.toUInt32 >>> ((8 : Int32) &&& 31).toUInt32).toInt32) &&& (255 : Int32)).toUInt32.toUInt16.toUInt32.toInt32)))], ¬ c < 0 ∧ ¬ (255 : Int32) < c := by
  intro c hc
  simp only [List.mem_cons, List.not_mem_nil, or_false] at hc
  rcases hc with rfl | rfl
  · rw [show (nar .char (((p4 &&& (255 : Int32)).toUInt32.toUInt16.toUInt32.toInt32))) = p4 &&& 255 from by simp only [nar, i2c_mask]]; exact own_and255 p4
  · rw [show (nar .char (((((p4.toUInt32 >>> ((8 : Int32) &&& 31).toUInt32).toInt32) &&& (255 : Int32)).toUInt32.toUInt16.toUInt32.toInt32))) = ((p4.toUInt32 >>> ((8 : Int32) &&& 31).toUInt32).toInt32) &&& 255 from by simp only [nar, i2c_mask]]; exact own_and255 _
theorem pn_0 : plainName "com/example/halyard/halyard/core/mal/TypeId" = true := by first | (simp [plainName, overriddenIn]; done) | decide +kernel
theorem d1_0 : decode prog_48_method_1_code 0 = .ok (.aload_n 0, 1) := by decide +kernel
theorem d1_1 : decode prog_48_method_1_code 1 = .ok (.invokespecial 1, 3) := by decide +kernel
theorem d1_4 : decode prog_48_method_1_code 4 = .ok (.iload_n 1, 1) := by decide +kernel
theorem d1_5 : decode prog_48_method_1_code 5 = .ok (.ifCond .lt 44, 3) := by decide +kernel
theorem d1_8 : decode prog_48_method_1_code 8 = .ok (.iload_n 1, 1) := by decide +kernel
theorem d1_9 : decode prog_48_method_1_code 9 = .ok (.ldc 7, 2) := by decide +kernel
theorem d1_11 : decode prog_48_method_1_code 11 = .ok (.if_icmp .gt 38, 3) := by decide +kernel
theorem d1_14 : decode prog_48_method_1_code 14 = .ok (.iload_n 2, 1) := by decide +kernel
theorem d1_15 : decode prog_48_method_1_code 15 = .ok (.ifCond .lt 34, 3) := by decide +kernel
theorem d1_18 : decode prog_48_method_1_code 18 = .ok (.iload_n 2, 1) := by decide +kernel
theorem d1_19 : decode prog_48_method_1_code 19 = .ok (.ldc 7, 2) := by decide +kernel
theorem d1_21 : decode prog_48_method_1_code 21 = .ok (.if_icmp .gt 28, 3) := by decide +kernel
theorem d1_24 : decode prog_48_method_1_code 24 = .ok (.iload_n 3, 1) := by decide +kernel
theorem d1_25 : decode prog_48_method_1_code 25 = .ok (.ifCond .lt 24, 3) := by decide +kernel
theorem d1_28 : decode prog_48_method_1_code 28 = .ok (.iload_n 3, 1) := by decide +kernel
theorem d1_29 : decode prog_48_method_1_code 29 = .ok (.sipush 255, 3) := by decide +kernel
theorem d1_32 : decode prog_48_method_1_code 32 = .ok (.if_icmp .gt 17, 3) := by decide +kernel
theorem d1_35 : decode prog_48_method_1_code 35 = .ok (.iload 4, 2) := by decide +kernel
theorem d1_37 : decode prog_48_method_1_code 37 = .ok (.ldc 10, 2) := by decide +kernel
theorem d1_39 : decode prog_48_method_1_code 39 = .ok (.if_icmp .lt 10, 3) := by decide +kernel
theorem d1_42 : decode prog_48_method_1_code 42 = .ok (.iload 4, 2) := by decide +kernel
theorem d1_44 : decode prog_48_method_1_code 44 = .ok (.ldc 11, 2) := by decide +kernel
theorem d1_46 : decode prog_48_method_1_code 46 = .ok (.if_icmp .le 21, 3) := by decide +kernel
theorem d1_67 : decode prog_48_method_1_code 67 = .ok (.aload_n 0, 1) := by decide +kernel
theorem d1_68 : decode prog_48_method_1_code 68 = .ok (.iload_n 1, 1) := by decide +kernel
theorem d1_69 : decode prog_48_method_1_code 69 = .ok (.putfield 21, 3) := by decide +kernel
theorem d1_72 : decode prog_48_method_1_code 72 = .ok (.aload_n 0, 1) := by decide +kernel
theorem d1_73 : decode prog_48_method_1_code 73 = .ok (.iload_n 2, 1) := by decide +kernel
theorem d1_74 : decode prog_48_method_1_code 74 = .ok (.putfield 25, 3) := by decide +kernel
theorem d1_77 : decode prog_48_method_1_code 77 = .ok (.aload_n 0, 1) := by decide +kernel
theorem d1_78 : decode prog_48_method_1_code 78 = .ok (.iload_n 3, 1) := by decide +kernel
theorem d1_79 : decode prog_48_method_1_code 79 = .ok (.putfield 28, 3) := by decide +kernel
theorem d1_82 : decode prog_48_method_1_code 82 = .ok (.aload_n 0, 1) := by decide +kernel
theorem d1_83 : decode prog_48_method_1_code 83 = .ok (.iload 4, 2) := by decide +kernel
theorem d1_85 : decode prog_48_method_1_code 85 = .ok (.putfield 31, 3) := by decide +kernel
theorem d1_88 : decode prog_48_method_1_code 88 = .ok (.return_, 1) := by decide +kernel
def Q_rmInit (Z : State) (a1 : Addr) (p1 : Int32) (p2 : Int32) (p3 : Int32) (p4 : Int32) (h0 : Heap) (n0 : Nat) (v : Option Value) (h : Heap) (L : List Loc) : Prop := v = none ∧ Fr n0 L ∧ Keep h0 h [a1] ∧ Exa Z h a1 "com/example/halyard/halyard/core/mal/TypeId" ∧ Fld Z h a1 "com/example/halyard/halyard/core/mal/TypeId" "area" "I" (.int p1) ∧ Fld Z h a1 "com/example/halyard/halyard/core/mal/TypeId" "service" "I" (.int p2) ∧ Fld Z h a1 "com/example/halyard/halyard/core/mal/TypeId" "areaVersion" "I" (.int p3) ∧ Fld Z h a1 "com/example/halyard/halyard/core/mal/TypeId" "shortFormPart" "I" (.int p4)
theorem ef_rmInit (m : MethodId) (x0 : Addr) (x1 : Int32) (x2 : Int32) (x3 : Int32) (x4 : Int32) : entryFrame m #[(.ref x0), (.int x1), (.int x2), (.int x3), (.int x4)] 5 = mkF m 0 #[.val (.ref x0), .val (.int x1), .val (.int x2), .val (.int x3), .val (.int x4)] [] := by first | (simp [entryFrame, mkF, argsToLocals, Value.category]; done) | rfl
set_option maxRecDepth 65536 in
set_option maxHeartbeats 40000000 in
theorem rmInit (l : Launch) (Z : State) (a0 : Array Value) (hw : ∀ d ∈ tables_1, d.before a0 Z = true) (ws : List Jvm.Cond) (a1 : Addr) (p1 : Int32) (p2 : Int32) (p3 : Int32) (p4 : Int32) (h0 : Heap) (n0 : Nat) (Z0 : n0 ≤ h0.size) (F0 : Fld Z h0 a1 "com/example/halyard/halyard/core/mal/TypeId" "area" "I" (.int 0)) (F1 : Fld Z h0 a1 "com/example/halyard/halyard/core/mal/TypeId" "service" "I" (.int 0)) (F2 : Fld Z h0 a1 "com/example/halyard/halyard/core/mal/TypeId" "areaVersion" "I" (.int 0)) (F3 : Fld Z h0 a1 "com/example/halyard/halyard/core/mal/TypeId" "shortFormPart" "I" (.int 0)) (E1 : Exa Z h0 a1 "com/example/halyard/halyard/core/mal/TypeId") (G1 : n0 ≤ a1) (c0 : ¬ (p1 < (0 : Int32))) (c1 : ¬ ((65535 : Int32) < p1)) (c2 : ¬ (p2 < (0 : Int32))) (c3 : ¬ ((65535 : Int32) < p2)) (c4 : ¬ (p3 < (0 : Int32))) (c5 : ¬ ((255 : Int32) < p3)) (c6 : ¬ (p4 < (-8388608 : Int32))) (c7 : ¬ ((8388607 : Int32) < p4)) :
    MetFree l (⟨"com/example/halyard/halyard/core/mal/TypeId", "<init>", "(IIII)V"⟩ : MethodName) (head1 (Jvm.Cond.code (⟨"com/example/halyard/halyard/core/mal/TypeId", "<init>", "(IIII)V"⟩ : MethodName) prog_48_method_1_code 5 none :: ws) ({ frames := 1, cells := 0, slots := 0, locals := 12 } : Room)) (fun a U => a = #[(.ref a1), (.int p1), (.int p2), (.int p3), (.int p4)] ∧ Z.Warmed39 U.vm ∧ U.heap = h0) (fun _ _ _ _ _ => True) (fun _ U o U' => ∃ v L, o = .returned v ∧ Q_rmInit Z a1 p1 p2 p3 p4 h0 n0 v U'.heap L ∧ FrameEnd U o U' L ({ frames := 1, cells := 0, slots := 0, locals := 12 } : Room).cells ({ frames := 1, cells := 0, slots := 0, locals := 12 } : Room).slots) := by
  refine MetFree.of_bodySF (plainFor_of_name pn_0) hisR ?_
  intro p e s m args below meth c s₁ Bd hml0 hP hK
  obtain ⟨rfl, hZ, hh⟩ := hP
  have hx := Bd.exec
  have hby := Bd.bytes
  have hml : c.maxLocals = 5 := hml0
  have hown : s.vm.findClass "com/example/halyard/halyard/core/mal/TypeId" = some m.cls := findClass_of_methodNamed Bd.named
  have hnm := (name_of_methodNamed Bd.named Bd.method).1
  have X0 : Stand p l e ({ frames := 1, cells := 0, slots := 0, locals := 12 } : Room) s m #[(.ref a1), (.int p1), (.int p2), (.int p3), (.int p4)] below meth c s₁ [] 0 0 := Stand.of_body Bd
  have e0 : s₁.heap = h0 := by rw [← hh, Bd.state]; rfl
  have N0 := Fr.nil n0
  refine own_go (own_lift (fun t k => castTop (ef_rmInit m a1 p1 p2 p3 p4) k) ?_)
  show own_Go p.tables e below (s₁.setTop (mkF m 0 #[rv a1, iv p1, iv p2, iv p3, iv p4] [])) _
  have sg1 : ∀ t, Steps p.tables e below (s₁.setTop (mkF m 1 #[rv a1, iv p1, iv p2, iv p3, iv p4] [(.ref a1)])) t → Steps p.tables e below (s₁.setTop (mkF m 0 #[rv a1, iv p1, iv p2, iv p3, iv p4] [])) t := by
    intro t k
    refine XS.aloadN X0.here hx rfl (hb hby d1_0) rfl rfl ?_
    show Steps p.tables e below (s₁.setTop (mkF m 1 #[rv a1, iv p1, iv p2, iv p3, iv p4] [(.ref a1)])) _
    exact k
  refine own_lift sg1 ?_
  show own_Go p.tables e below (s₁.setTop (mkF m 1 #[rv a1, iv p1, iv p2, iv p3, iv p4] [(.ref a1)])) _
  obtain ⟨T2, X2, e2, st2⟩ := initO X0 hx hZ hown (wd hw 7 rfl) (wd hw 8 rfl) (wd hw 9 rfl) e0 (g := (mkF m 1 #[rv a1, iv p1, iv p2, iv p3, iv p4] [(.ref a1)])) rfl (by rw [hml]; rfl) rfl (hb hby d1_1) (by decide) (W := 0) (by show 2 * 0 + _ ≤ _; exact Nat.le_of_eq rfl) (by decide)
  refine own_lift st2 ?_
  show own_Go p.tables e below (T2.setTop (mkF m 4 #[rv a1, iv p1, iv p2, iv p3, iv p4] [])) _
  have sg3 : ∀ t, Steps p.tables e below (T2.setTop (mkF m 69 #[rv a1, iv p1, iv p2, iv p3, iv p4] [(.int p1), (.ref a1)])) t → Steps p.tables e below (T2.setTop (mkF m 4 #[rv a1, iv p1, iv p2, iv p3, iv p4] [])) t := by
    intro t k
    refine XS.iloadN X2.here hx rfl (hb hby d1_4) rfl ?_
    show Steps p.tables e below (T2.setTop (mkF m 5 #[rv a1, iv p1, iv p2, iv p3, iv p4] [(.int p1)])) _
    refine XS.ifNo X2.here hx rfl (hb hby d1_5) rfl ((if0 _ _).trans (flt c0).1) ?_
    refine XS.iloadN X2.here hx rfl (hb hby d1_8) rfl ?_
    show Steps p.tables e below (T2.setTop (mkF m 9 #[rv a1, iv p1, iv p2, iv p3, iv p4] [(.int p1)])) _
    refine X2.ldcInt hx hown (mvT hZ (wd hw 10 rfl)) (g := (mkF m 9 #[rv a1, iv p1, iv p2, iv p3, iv p4] [(.int p1)])) rfl (hb hby d1_9) _ ?_
    refine XS.icmpNo X2.here hx rfl (hb hby d1_11) rfl (flt c1).2.2.1 ?_
    show Steps p.tables e below (T2.setTop (mkF m 14 #[rv a1, iv p1, iv p2, iv p3, iv p4] [])) _
    refine XS.iloadN X2.here hx rfl (hb hby d1_14) rfl ?_
    refine XS.ifNo X2.here hx rfl (hb hby d1_15) rfl ((if0 _ _).trans (flt c2).1) ?_
    show Steps p.tables e below (T2.setTop (mkF m 18 #[rv a1, iv p1, iv p2, iv p3, iv p4] [])) _
    refine XS.iloadN X2.here hx rfl (hb hby d1_18) rfl ?_
    refine X2.ldcInt hx hown (mvT hZ (wd hw 10 rfl)) (g := (mkF m 19 #[rv a1, iv p1, iv p2, iv p3, iv p4] [(.int p2)])) rfl (hb hby d1_19) _ ?_
    show Steps p.tables e below (T2.setTop (mkF m 21 #[rv a1, iv p1, iv p2, iv p3, iv p4] [(.int 65535), (.int p2)])) _
    refine XS.icmpNo X2.here hx rfl (hb hby d1_21) rfl (flt c3).2.2.1 ?_
    refine XS.iloadN X2.here hx rfl (hb hby d1_24) rfl ?_
    show Steps p.tables e below (T2.setTop (mkF m 25 #[rv a1, iv p1, iv p2, iv p3, iv p4] [(.int p3)])) _
    refine XS.ifNo X2.here hx rfl (hb hby d1_25) rfl ((if0 _ _).trans (flt c4).1) ?_
    refine XS.iloadN X2.here hx rfl (hb hby d1_28) rfl ?_
    show Steps p.tables e below (T2.setTop (mkF m 29 #[rv a1, iv p1, iv p2, iv p3, iv p4] [(.int p3)])) _
    refine XS.sipush X2.here hx rfl (hb hby d1_29) ?_
    refine XS.icmpNo X2.here hx rfl (hb hby d1_32) rfl (flt c5).2.2.1 ?_
    show Steps p.tables e below (T2.setTop (mkF m 35 #[rv a1, iv p1, iv p2, iv p3, iv p4] [])) _
    refine XS.iload X2.here hx rfl (hb hby d1_35) rfl ?_
    refine X2.ldcInt hx hown (mvT hZ (wd hw 11 rfl)) (g := (mkF m 37 #[rv a1, iv p1, iv p2, iv p3, iv p4] [(.int p4)])) rfl (hb hby d1_37) _ ?_
    show Steps p.tables e below (T2.setTop (mkF m 39 #[rv a1, iv p1, iv p2, iv p3, iv p4] [(.int (-8388608)), (.int p4)])) _
    refine XS.icmpNo X2.here hx rfl (hb hby d1_39) rfl (flt c6).1 ?_
    refine XS.iload X2.here hx rfl (hb hby d1_42) rfl ?_
    show Steps p.tables e below (T2.setTop (mkF m 44 #[rv a1, iv p1, iv p2, iv p3, iv p4] [(.int p4)])) _
    refine X2.ldcInt hx hown (mvT hZ (wd hw 12 rfl)) (g := (mkF m 44 #[rv a1, iv p1, iv p2, iv p3, iv p4] [(.int p4)])) rfl (hb hby d1_44) _ ?_
    refine XS.icmpYes X2.here hx rfl (pc0 := 46) (pc' := 67) rfl (hb hby d1_46) rfl (flt c7).2.2.2 (by decide) (by decide) ?_
    show Steps p.tables e below (T2.setTop (mkF m 67 #[rv a1, iv p1, iv p2, iv p3, iv p4] [])) _
    refine XS.aloadN X2.here hx rfl (hb hby d1_67) rfl rfl ?_
    refine XS.iloadN X2.here hx rfl (hb hby d1_68) rfl ?_
    show Steps p.tables e below (T2.setTop (mkF m 69 #[rv a1, iv p1, iv p2, iv p3, iv p4] [(.int p1), (.ref a1)])) _
    exact k
  refine own_lift sg3 ?_
  show own_Go p.tables e below (T2.setTop (mkF m 69 #[rv a1, iv p1, iv p2, iv p3, iv p4] [(.int p1), (.ref a1)])) _
  obtain ⟨T4, h4, X4, e4, W4, st4⟩ := putF X2 hx hZ hown (host := "") (Or.inl (wd hw 13 rfl)) Via.refl e2 F0 E1 (Or.inr ⟨(wd hw 14 rfl), rfl, hnm⟩) (wd hw 2 rfl) (ty := .int) (by decide) rfl rfl (g := (mkF m 69 #[rv a1, iv p1, iv p2, iv p3, iv p4] [(.int p1), (.ref a1)])) rfl rfl (hb hby d1_69)
  have N4 := Fr.snoc X4 N0 G1
  have Z4 : n0 ≤ h4.size := Nat.le_trans Z0 (Nat.le_of_eq W4.size.symm)
  have K4 : Keep h0 h4 [a1] := (Keep.refl h0 [a1]).wr W4 (Or.inl (List.mem_of_getElem? (i := 0) rfl))
  have Fw4 : Fld Z h4 a1 "com/example/halyard/halyard/core/mal/TypeId" "area" "I" (.int p1) := F0.same W4
  refine own_lift st4 ?_
  show own_Go p.tables e below (T4.setTop (mkF m 72 #[rv a1, iv p1, iv p2, iv p3, iv p4] [])) _
  have sg5 : ∀ t, Steps p.tables e below (T4.setTop (mkF m 74 #[rv a1, iv p1, iv p2, iv p3, iv p4] [(.int p2), (.ref a1)])) t → Steps p.tables e below (T4.setTop (mkF m 72 #[rv a1, iv p1, iv p2, iv p3, iv p4] [])) t := by
    intro t k
    refine XS.aloadN X4.here hx rfl (hb hby d1_72) rfl rfl ?_
    show Steps p.tables e below (T4.setTop (mkF m 73 #[rv a1, iv p1, iv p2, iv p3, iv p4] [(.ref a1)])) _
    refine XS.iloadN X4.here hx rfl (hb hby d1_73) rfl ?_
    show Steps p.tables e below (T4.setTop (mkF m 74 #[rv a1, iv p1, iv p2, iv p3, iv p4] [(.int p2), (.ref a1)])) _
    exact k
  refine own_lift sg5 ?_
  show own_Go p.tables e below (T4.setTop (mkF m 74 #[rv a1, iv p1, iv p2, iv p3, iv p4] [(.int p2), (.ref a1)])) _
  have Fc6 : Fld Z h4 a1 "com/example/halyard/halyard/core/mal/TypeId" "service" "I" (.int 0) := (F1.other W4 (Or.inr (slot_ne (Or.inr (wd hw 16 rfl)) (Or.inr (wd hw 14 rfl)) (by decide) (t := .int) (t' := .int) (by decide) (by decide))))
  have Fc7 : Exa Z h4 a1 "com/example/halyard/halyard/core/mal/TypeId" := (E1.wr W4)
  obtain ⟨T8, h8, X8, e8, W8, st8⟩ := putF X4 hx hZ hown (host := "") (Or.inl (wd hw 15 rfl)) Via.refl e4 Fc6 Fc7 (Or.inr ⟨(wd hw 16 rfl), rfl, hnm⟩) (wd hw 2 rfl) (ty := .int) (by decide) rfl rfl (g := (mkF m 74 #[rv a1, iv p1, iv p2, iv p3, iv p4] [(.int p2), (.ref a1)])) rfl rfl (hb hby d1_74)
  have N8 := Fr.snoc X8 N4 G1
  have Z8 : n0 ≤ h8.size := Nat.le_trans Z4 (Nat.le_of_eq W8.size.symm)
  have K8 : Keep h0 h8 [a1] := K4.wr W8 (Or.inl (List.mem_of_getElem? (i := 0) rfl))
  have Fw8 : Fld Z h8 a1 "com/example/halyard/halyard/core/mal/TypeId" "service" "I" (.int p2) := Fc6.same W8
  refine own_lift st8 ?_
  show own_Go p.tables e below (T8.setTop (mkF m 77 #[rv a1, iv p1, iv p2, iv p3, iv p4] [])) _
  have sg9 : ∀ t, Steps p.tables e below (T8.setTop (mkF m 79 #[rv a1, iv p1, iv p2, iv p3, iv p4] [(.int p3), (.ref a1)])) t → Steps p.tables e below (T8.setTop (mkF m 77 #[rv a1, iv p1, iv p2, iv p3, iv p4] [])) t := by
    intro t k
    refine XS.aloadN X8.here hx rfl (hb hby d1_77) rfl rfl ?_
    show Steps p.tables e below (T8.setTop (mkF m 78 #[rv a1, iv p1, iv p2, iv p3, iv p4] [(.ref a1)])) _
    refine XS.iloadN X8.here hx rfl (hb hby d1_78) rfl ?_
    show Steps p.tables e below (T8.setTop (mkF m 79 #[rv a1, iv p1, iv p2, iv p3, iv p4] [(.int p3), (.ref a1)])) _
    exact k
  refine own_lift sg9 ?_
  show own_Go p.tables e below (T8.setTop (mkF m 79 #[rv a1, iv p1, iv p2, iv p3, iv p4] [(.int p3), (.ref a1)])) _
  have Fc10 : Fld Z h8 a1 "com/example/halyard/halyard/core/mal/TypeId" "areaVersion" "I" (.int 0) := ((F2.other W4 (Or.inr (slot_ne (Or.inr (wd hw 18 rfl)) (Or.inr (wd hw 14 rfl)) (by decide) (t := .int) (t' := .int) (by decide) (by decide)))).other W8 (Or.inr (slot_ne (Or.inr (wd hw 18 rfl)) (Or.inr (wd hw 16 rfl)) (by decide) (t := .int) (t' := .int) (by decide) (by decide))))
  have Fc11 : Exa Z h8 a1 "com/example/halyard/halyard/core/mal/TypeId" := (Fc7.wr W8)
  obtain ⟨T12, h12, X12, e12, W12, st12⟩ := putF X8 hx hZ hown (host := "") (Or.inl (wd hw 17 rfl)) Via.refl e8 Fc10 Fc11 (Or.inr ⟨(wd hw 18 rfl), rfl, hnm⟩) (wd hw 2 rfl) (ty := .int) (by decide) rfl rfl (g := (mkF m 79 #[rv a1, iv p1, iv p2, iv p3, iv p4] [(.int p3), (.ref a1)])) rfl rfl (hb hby d1_79)
  have N12 := Fr.snoc X12 N8 G1
  have Z12 : n0 ≤ h12.size := Nat.le_trans Z8 (Nat.le_of_eq W12.size.symm)
  have K12 : Keep h0 h12 [a1] := K8.wr W12 (Or.inl (List.mem_of_getElem? (i := 0) rfl))
  have Fw12 : Fld Z h12 a1 "com/example/halyard/halyard/core/mal/TypeId" "areaVersion" "I" (.int p3) := Fc10.same W12
  refine own_lift st12 ?_
  show own_Go p.tables e below (T12.setTop (mkF m 82 #[rv a1, iv p1, iv p2, iv p3, iv p4] [])) _
  have sg13 : ∀ t, Steps p.tables e below (T12.setTop (mkF m 85 #[rv a1, iv p1, iv p2, iv p3, iv p4] [(.int p4), (.ref a1)])) t → Steps p.tables e below (T12.setTop (mkF m 82 #[rv a1, iv p1, iv p2, iv p3, iv p4] [])) t := by
    intro t k
    refine XS.aloadN X12.here hx rfl (hb hby d1_82) rfl rfl ?_
    show Steps p.tables e below (T12.setTop (mkF m 83 #[rv a1, iv p1, iv p2, iv p3, iv p4] [(.ref a1)])) _
    refine XS.iload X12.here hx rfl (hb hby d1_83) rfl ?_
    show Steps p.tables e below (T12.setTop (mkF m 85 #[rv a1, iv p1, iv p2, iv p3, iv p4] [(.int p4), (.ref a1)])) _
    exact k
  refine own_lift sg13 ?_
  show own_Go p.tables e below (T12.setTop (mkF m 85 #[rv a1, iv p1, iv p2, iv p3, iv p4] [(.int p4), (.ref a1)])) _
  have Fc14 : Fld Z h12 a1 "com/example/halyard/halyard/core/mal/TypeId" "shortFormPart" "I" (.int 0) := (((F3.other W4 (Or.inr (slot_ne (Or.inr (wd hw 20 rfl)) (Or.inr (wd hw 14 rfl)) (by decide) (t := .int) (t' := .int) (by decide) (by decide)))).other W8 (Or.inr (slot_ne (Or.inr (wd hw 20 rfl)) (Or.inr (wd hw 16 rfl)) (by decide) (t := .int) (t' := .int) (by decide) (by decide)))).other W12 (Or.inr (slot_ne (Or.inr (wd hw 20 rfl)) (Or.inr (wd hw 18 rfl)) (by decide) (t := .int) (t' := .int) (by decide) (by decide))))
  have Fc15 : Exa Z h12 a1 "com/example/halyard/halyard/core/mal/TypeId" := (Fc11.wr W12)
  obtain ⟨T16, h16, X16, e16, W16, st16⟩ := putF X12 hx hZ hown (host := "") (Or.inl (wd hw 19 rfl)) Via.refl e12 Fc14 Fc15 (Or.inr ⟨(wd hw 20 rfl), rfl, hnm⟩) (wd hw 2 rfl) (ty := .int) (by decide) rfl rfl (g := (mkF m 85 #[rv a1, iv p1, iv p2, iv p3, iv p4] [(.int p4), (.ref a1)])) rfl rfl (hb hby d1_85)
  have N16 := Fr.snoc X16 N12 G1
  have Z16 : n0 ≤ h16.size := Nat.le_trans Z12 (Nat.le_of_eq W16.size.symm)
  have K16 : Keep h0 h16 [a1] := K12.wr W16 (Or.inl (List.mem_of_getElem? (i := 0) rfl))
  have Fw16 : Fld Z h16 a1 "com/example/halyard/halyard/core/mal/TypeId" "shortFormPart" "I" (.int p4) := Fc14.same W16
  refine own_lift st16 ?_
  show own_Go p.tables e below (T16.setTop (mkF m 88 #[rv a1, iv p1, iv p2, iv p3, iv p4] [])) _
  obtain ⟨fs, hr, hrun, hended, hW, hsame⟩ := X16.leave (v := none) (fun _ => rfl)
  have Fc17 : Exa Z h16 a1 "com/example/halyard/halyard/core/mal/TypeId" := (Fc15.wr W16)
  have Fc18 : Fld Z h16 a1 "com/example/halyard/halyard/core/mal/TypeId" "area" "I" (.int p1) := (((Fw4.other W8 (Or.inr (slot_ne (Or.inr (wd hw 14 rfl)) (Or.inr (wd hw 16 rfl)) (by decide) (t := .int) (t' := .int) (by decide) (by decide)))).other W12 (Or.inr (slot_ne (Or.inr (wd hw 14 rfl)) (Or.inr (wd hw 18 rfl)) (by decide) (t := .int) (t' := .int) (by decide) (by decide)))).other W16 (Or.inr (slot_ne (Or.inr (wd hw 14 rfl)) (Or.inr (wd hw 20 rfl)) (by decide) (t := .int) (t' := .int) (by decide) (by decide))))
  have Fc19 : Fld Z h16 a1 "com/example/halyard/halyard/core/mal/TypeId" "service" "I" (.int p2) := ((Fw8.other W12 (Or.inr (slot_ne (Or.inr (wd hw 16 rfl)) (Or.inr (wd hw 18 rfl)) (by decide) (t := .int) (t' := .int) (by decide) (by decide)))).other W16 (Or.inr (slot_ne (Or.inr (wd hw 16 rfl)) (Or.inr (wd hw 20 rfl)) (by decide) (t := .int) (t' := .int) (by decide) (by decide))))
  have Fc20 : Fld Z h16 a1 "com/example/halyard/halyard/core/mal/TypeId" "areaVersion" "I" (.int p3) := (Fw12.other W16 (Or.inr (slot_ne (Or.inr (wd hw 18 rfl)) (Or.inr (wd hw 20 rfl)) (by decide) (t := .int) (t' := .int) (by decide) (by decide))))
  refine ⟨_, _, ?_, hrun, hended, _, _, rfl, ?_, ⟨_, rfl⟩, hW, hsame.mono (by decide) (by decide)⟩
  · exact X16.returnOut hx Bd.returns (hb hby d1_88) hr
  · show Q_rmInit Z a1 p1 p2 p3 p4 h0 n0 _ T16.heap _
    rw [e16]
    exact ⟨rfl, N16, K16, Fc17, Fc18, Fc19, Fc20, Fw16⟩
theorem d2_0 : decode prog_48_method_8_code 0 = .ok (.aload_n 1, 1) := by decide +kernel
theorem d2_1 : decode prog_48_method_8_code 1 = .ok (.instanceof 8, 3) := by decide +kernel
theorem d2_4 : decode prog_48_method_8_code 4 = .ok (.ifCond .ne 5, 3) := by decide +kernel
theorem d2_9 : decode prog_48_method_8_code 9 = .ok (.aload_n 1, 1) := by decide +kernel
theorem d2_10 : decode prog_48_method_8_code 10 = .ok (.checkcast 8, 3) := by decide +kernel
theorem d2_13 : decode prog_48_method_8_code 13 = .ok (.astore_n 2, 1) := by decide +kernel
theorem d2_14 : decode prog_48_method_8_code 14 = .ok (.aload_n 0, 1) := by decide +kernel
theorem d2_15 : decode prog_48_method_8_code 15 = .ok (.getfield 21, 3) := by decide +kernel
theorem d2_18 : decode prog_48_method_8_code 18 = .ok (.aload_n 2, 1) := by decide +kernel
theorem d2_19 : decode prog_48_method_8_code 19 = .ok (.getfield 21, 3) := by decide +kernel
theorem d2_22 : decode prog_48_method_8_code 22 = .ok (.if_icmp .ne 40, 3) := by decide +kernel
theorem d2_62 : decode prog_48_method_8_code 62 = .ok (.iconst 0, 1) := by decide +kernel
theorem d2_63 : decode prog_48_method_8_code 63 = .ok (.ireturn, 1) := by decide +kernel
def Q_rmEq0 (Z : State) (a1 : Addr) (a2 : Addr) (w0 : Int32) (w1 : Int32) (w2 : Int32) (w3 : Int32) (v0 : Int32) (v1 : Int32) (v2 : Int32) (v3 : Int32) (h0 : Heap) (n0 : Nat) (v : Option Value) (h : Heap) (L : List Loc) : Prop := v = some (.int 0) ∧ Fr n0 L ∧ h = h0
theorem ef_rmEq0 (m : MethodId) (x0 : Addr) (x1 : Addr) : entryFrame m #[(.ref x0), (.ref x1)] 3 = mkF m 0 #[.val (.ref x0), .val (.ref x1), .unset] [] := by first | (simp [entryFrame, mkF, argsToLocals, Value.category]; done) | rfl
set_option maxRecDepth 65536 in
set_option maxHeartbeats 40000000 in
theorem rmEq0 (l : Launch) (Z : State) (a0 : Array Value) (hw : ∀ d ∈ tables_1, d.before a0 Z = true) (ws : List Jvm.Cond) (a1 : Addr) (a2 : Addr) (w0 : Int32) (w1 : Int32) (w2 : Int32) (w3 : Int32) (v0 : Int32) (v1 : Int32) (v2 : Int32) (v3 : Int32) (h0 : Heap) (n0 : Nat) (Z0 : n0 ≤ h0.size) (F0 : Fld Z h0 a1 "com/example/halyard/halyard/core/mal/TypeId" "area" "I" (.int w0)) (F1 : Fld Z h0 a1 "com/example/halyard/halyard/core/mal/TypeId" "service" "I" (.int w1)) (F2 : Fld Z h0 a1 "com/example/halyard/halyard/core/mal/TypeId" "areaVersion" "I" (.int w2)) (F3 : Fld Z h0 a1 "com/example/halyard/halyard/core/mal/TypeId" "shortFormPart" "I" (.int w3)) (G0 : Fld Z h0 a2 "com/example/halyard/halyard/core/mal/TypeId" "area" "I" (.int v0)) (G1 : Fld Z h0 a2 "com/example/halyard/halyard/core/mal/TypeId" "service" "I" (.int v1)) (G2 : Fld Z h0 a2 "com/example/halyard/halyard/core/mal/TypeId" "areaVersion" "I" (.int v2)) (G3 : Fld Z h0 a2 "com/example/halyard/halyard/core/mal/TypeId" "shortFormPart" "I" (.int v3)) (E2 : Exa Z h0 a2 "com/example/halyard/halyard/core/mal/TypeId") (c0 : ¬ (w0 = v0)) :
    MetFree l (⟨"com/example/halyard/halyard/core/mal/TypeId", "equals", "(Ljava/lang/Object;)Z"⟩ : MethodName) (head1 (Jvm.Cond.code (⟨"com/example/halyard/halyard/core/mal/TypeId", "equals", "(Ljava/lang/Object;)Z"⟩ : MethodName) prog_48_method_8_code 3 (some .boolean) :: ws) ({ frames := 0, cells := 0, slots := 0, locals := 0 } : Room)) (fun a U => a = #[(.ref a1), (.ref a2)] ∧ Z.Warmed39 U.vm ∧ U.heap = h0) (fun _ _ _ _ _ => True) (fun _ U o U' => ∃ v L, o = .returned v ∧ Q_rmEq0 Z a1 a2 w0 w1 w2 w3 v0 v1 v2 v3 h0 n0 v U'.heap L ∧ FrameEnd U o U' L ({ frames := 0, cells := 0, slots := 0, locals := 0 } : Room).cells ({ frames := 0, cells := 0, slots := 0, locals := 0 } : Room).slots) := by
  refine MetFree.of_bodySF (plainFor_of_name pn_0) hisR ?_
  intro p e s m args below meth c s₁ Bd hml0 hP hK
  obtain ⟨rfl, hZ, hh⟩ := hP
  have hx := Bd.exec
  have hby := Bd.bytes
  have hml : c.maxLocals = 3 := hml0
  have hown : s.vm.findClass "com/example/halyard/halyard/core/mal/TypeId" = some m.cls := findClass_of_methodNamed Bd.named
  have hnm := (name_of_methodNamed Bd.named Bd.method).1
  have X0 : Stand p l e ({ frames := 0, cells := 0, slots := 0, locals := 0 } : Room) s m #[(.ref a1), (.ref a2)] below meth c s₁ [] 0 0 := Stand.of_body Bd
  have e0 : s₁.heap = h0 := by rw [← hh, Bd.state]; rfl
  have N0 := Fr.nil n0
  refine own_go (own_lift (fun t k => castTop (ef_rmEq0 m a1 a2) k) ?_)
  show own_Go p.tables e below (s₁.setTop (mkF m 0 #[rv a1, rv a2, .unset] [])) _
  have sg1 : ∀ t, Steps p.tables e below (s₁.setTop (mkF m 1 #[rv a1, rv a2, .unset] [(.ref a2)])) t → Steps p.tables e below (s₁.setTop (mkF m 0 #[rv a1, rv a2, .unset] [])) t := by
    intro t k
    refine XS.aloadN X0.here hx rfl (hb hby d2_0) rfl rfl ?_
    show Steps p.tables e below (s₁.setTop (mkF m 1 #[rv a1, rv a2, .unset] [(.ref a2)])) _
    exact k
  refine own_lift sg1 ?_
  show own_Go p.tables e below (s₁.setTop (mkF m 1 #[rv a1, rv a2, .unset] [(.ref a2)])) _
  obtain ⟨T2, X2, e2, st2⟩ := instY X0 hx hZ hown (wd hw 54 rfl) e0 (Ins.self E2) (g := (mkF m 1 #[rv a1, rv a2, .unset] [(.ref a2)])) rfl rfl (hb hby d2_1)
  refine own_lift st2 ?_
  show own_Go p.tables e below (T2.setTop (mkF m 4 #[rv a1, rv a2, .unset] [(.int 1)])) _
  have sg3 : ∀ t, Steps p.tables e below (T2.setTop (mkF m 10 #[rv a1, rv a2, .unset] [(.ref a2)])) t → Steps p.tables e below (T2.setTop (mkF m 4 #[rv a1, rv a2, .unset] [(.int 1)])) t := by
    intro t k
    refine XS.ifYes X2.here hx rfl (pc0 := 4) (pc' := 9) rfl (hb hby d2_4) rfl ((if0 _ _).trans (feq (by decide : ¬ ((1 : Int32) = (0 : Int32)))).2) (by decide) (by decide) ?_
    show Steps p.tables e below (T2.setTop (mkF m 9 #[rv a1, rv a2, .unset] [])) _
    refine XS.aloadN X2.here hx rfl (hb hby d2_9) rfl rfl ?_
    show Steps p.tables e below (T2.setTop (mkF m 10 #[rv a1, rv a2, .unset] [(.ref a2)])) _
    exact k
  refine own_lift sg3 ?_
  show own_Go p.tables e below (T2.setTop (mkF m 10 #[rv a1, rv a2, .unset] [(.ref a2)])) _
  obtain ⟨T4, X4, e4, st4⟩ := castY X2 hx hZ hown (wd hw 54 rfl) e2 (Ins.self E2) (g := (mkF m 10 #[rv a1, rv a2, .unset] [(.ref a2)])) rfl rfl (hb hby d2_10)
  refine own_lift st4 ?_
  show own_Go p.tables e below (T4.setTop (mkF m 13 #[rv a1, rv a2, .unset] [(.ref a2)])) _
  have sg5 : ∀ t, Steps p.tables e below (T4.setTop (mkF m 15 #[rv a1, rv a2, rv a2] [(.ref a1)])) t → Steps p.tables e below (T4.setTop (mkF m 13 #[rv a1, rv a2, .unset] [(.ref a2)])) t := by
    intro t k
    refine XS.astoreN X4.here hx rfl (hb hby d2_13) rfl rfl (l' := #[rv a1, rv a2, rv a2]) rfl ?_
    show Steps p.tables e below (T4.setTop (mkF m 14 #[rv a1, rv a2, rv a2] [])) _
    refine XS.aloadN X4.here hx rfl (hb hby d2_14) rfl rfl ?_
    show Steps p.tables e below (T4.setTop (mkF m 15 #[rv a1, rv a2, rv a2] [(.ref a1)])) _
    exact k
  refine own_lift sg5 ?_
  show own_Go p.tables e below (T4.setTop (mkF m 15 #[rv a1, rv a2, rv a2] [(.ref a1)])) _
  obtain ⟨T6, X6, e6, st6⟩ := getF X4 hx hZ hown (host := "") (Or.inl (wd hw 13 rfl)) Via.refl e4 F0 (g := (mkF m 15 #[rv a1, rv a2, rv a2] [(.ref a1)])) rfl rfl (hb hby d2_15)
  refine own_lift st6 ?_
  show own_Go p.tables e below (T6.setTop (mkF m 18 #[rv a1, rv a2, rv a2] [(.int w0)])) _
  have sg7 : ∀ t, Steps p.tables e below (T6.setTop (mkF m 19 #[rv a1, rv a2, rv a2] [(.ref a2), (.int w0)])) t → Steps p.tables e below (T6.setTop (mkF m 18 #[rv a1, rv a2, rv a2] [(.int w0)])) t := by
    intro t k
    refine XS.aloadN X6.here hx rfl (hb hby d2_18) rfl rfl ?_
    show Steps p.tables e below (T6.setTop (mkF m 19 #[rv a1, rv a2, rv a2] [(.ref a2), (.int w0)])) _
    exact k
  refine own_lift sg7 ?_
  show own_Go p.tables e below (T6.setTop (mkF m 19 #[rv a1, rv a2, rv a2] [(.ref a2), (.int w0)])) _
  obtain ⟨T8, X8, e8, st8⟩ := getF X6 hx hZ hown (host := "") (Or.inl (wd hw 13 rfl)) Via.refl e6 G0 (g := (mkF m 19 #[rv a1, rv a2, rv a2] [(.ref a2), (.int w0)])) rfl rfl (hb hby d2_19)
  refine own_lift st8 ?_
  show own_Go p.tables e below (T8.setTop (mkF m 22 #[rv a1, rv a2, rv a2] [(.int v0), (.int w0)])) _
  have sg9 : ∀ t, Steps p.tables e below (T8.setTop (mkF m 63 #[rv a1, rv a2, rv a2] [(.int 0)])) t → Steps p.tables e below (T8.setTop (mkF m 22 #[rv a1, rv a2, rv a2] [(.int v0), (.int w0)])) t := by
    intro t k
    refine XS.icmpYes X8.here hx rfl (pc0 := 22) (pc' := 62) rfl (hb hby d2_22) rfl (feq c0).2 (by decide) (by decide) ?_
    show Steps p.tables e below (T8.setTop (mkF m 62 #[rv a1, rv a2, rv a2] [])) _
    refine XS.iconst X8.here hx rfl (hb hby d2_62) ?_
    show Steps p.tables e below (T8.setTop (mkF m 63 #[rv a1, rv a2, rv a2] [(.int 0)])) _
    exact k
  refine own_lift sg9 ?_
  show own_Go p.tables e below (T8.setTop (mkF m 63 #[rv a1, rv a2, rv a2] [(.int 0)])) _
  obtain ⟨fs, hr, hrun, hended, hW, hsame⟩ := X8.leave (v := some (.int 0)) (fun h => by rw [Bd.returns] at h; cases h)
  refine ⟨_, _, ?_, hrun, hended, _, _, rfl, ?_, ⟨_, rfl⟩, hW, hsame.mono (by decide) (by decide)⟩
  · exact retN X8 hx (t := .boolean) Bd.returns (by simp) (hb hby d2_63) hr
  · show Q_rmEq0 Z a1 a2 w0 w1 w2 w3 v0 v1 v2 v3 h0 n0 _ T8.heap _
    rw [e8]
    exact ⟨rfl, N0, rfl⟩
theorem d2_25 : decode prog_48_method_8_code 25 = .ok (.aload_n 0, 1) := by decide +kernel
theorem d2_26 : decode prog_48_method_8_code 26 = .ok (.getfield 25, 3) := by decide +kernel
theorem d2_29 : decode prog_48_method_8_code 29 = .ok (.aload_n 2, 1) := by decide +kernel
theorem d2_30 : decode prog_48_method_8_code 30 = .ok (.getfield 25, 3) := by decide +kernel
theorem d2_33 : decode prog_48_method_8_code 33 = .ok (.if_icmp .ne 29, 3) := by decide +kernel
def Q_rmEq1 (Z : State) (a1 : Addr) (a2 : Addr) (w0 : Int32) (w1 : Int32) (w2 : Int32) (w3 : Int32) (v0 : Int32) (v1 : Int32) (v2 : Int32) (v3 : Int32) (h0 : Heap) (n0 : Nat) (v : Option Value) (h : Heap) (L : List Loc) : Prop := v = some (.int 0) ∧ Fr n0 L ∧ h = h0
theorem ef_rmEq1 (m : MethodId) (x0 : Addr) (x1 : Addr) : entryFrame m #[(.ref x0), (.ref x1)] 3 = mkF m 0 #[.val (.ref x0), .val (.ref x1), .unset] [] := by first | (simp [entryFrame, mkF, argsToLocals, Value.category]; done) | rfl
set_option maxRecDepth 65536 in
set_option maxHeartbeats 40000000 in
theorem rmEq1 (l : Launch) (Z : State) (a0 : Array Value) (hw : ∀ d ∈ tables_1, d.before a0 Z = true) (ws : List Jvm.Cond) (a1 : Addr) (a2 : Addr) (w0 : Int32) (w1 : Int32) (w2 : Int32) (w3 : Int32) (v0 : Int32) (v1 : Int32) (v2 : Int32) (v3 : Int32) (h0 : Heap) (n0 : Nat) (Z0 : n0 ≤ h0.size) (F0 : Fld Z h0 a1 "com/example/halyard/halyard/core/mal/TypeId" "area" "I" (.int w0)) (F1 : Fld Z h0 a1 "com/example/halyard/halyard/core/mal/TypeId" "service" "I" (.int w1)) (F2 : Fld Z h0 a1 "com/example/halyard/halyard/core/mal/TypeId" "areaVersion" "I" (.int w2)) (F3 : Fld Z h0 a1 "com/example/halyard/halyard/core/mal/TypeId" "shortFormPart" "I" (.int w3)) (G0 : Fld Z h0 a2 "com/example/halyard/halyard/core/mal/TypeId" "area" "I" (.int v0)) (G1 : Fld Z h0 a2 "com/example/halyard/halyard/core/mal/TypeId" "service" "I" (.int v1)) (G2 : Fld Z h0 a2 "com/example/halyard/halyard/core/mal/TypeId" "areaVersion" "I" (.int v2)) (G3 : Fld Z h0 a2 "com/example/halyard/halyard/core/mal/TypeId" "shortFormPart" "I" (.int v3)) (E2 : Exa Z h0 a2 "com/example/halyard/halyard/core/mal/TypeId") (c0 : w0 = v0) (c1 : ¬ (w1 = v1)) :
    MetFree l (⟨"com/example/halyard/halyard/core/mal/TypeId", "equals", "(Ljava/lang/Object;)Z"⟩ : MethodName) (head1 (Jvm.Cond.code (⟨"com/example/halyard/halyard/core/mal/TypeId", "equals", "(Ljava/lang/Object;)Z"⟩ : MethodName) prog_48_method_8_code 3 (some .boolean) :: ws) ({ frames := 0, cells := 0, slots := 0, locals := 0 } : Room)) (fun a U => a = #[(.ref a1), (.ref a2)] ∧ Z.Warmed39 U.vm ∧ U.heap = h0) (fun _ _ _ _ _ => True) (fun _ U o U' => ∃ v L, o = .returned v ∧ Q_rmEq1 Z a1 a2 w0 w1 w2 w3 v0 v1 v2 v3 h0 n0 v U'.heap L ∧ FrameEnd U o U' L ({ frames := 0, cells := 0, slots := 0, locals := 0 } : Room).cells ({ frames := 0, cells := 0, slots := 0, locals := 0 } : Room).slots) := by
  refine MetFree.of_bodySF (plainFor_of_name pn_0) hisR ?_
  intro p e s m args below meth c s₁ Bd hml0 hP hK
  obtain ⟨rfl, hZ, hh⟩ := hP
  have hx := Bd.exec
  have hby := Bd.bytes
  have hml : c.maxLocals = 3 := hml0
  have hown : s.vm.findClass "com/example/halyard/halyard/core/mal/TypeId" = some m.cls := findClass_of_methodNamed Bd.named
  have hnm := (name_of_methodNamed Bd.named Bd.method).1
  have X0 : Stand p l e ({ frames := 0, cells := 0, slots := 0, locals := 0 } : Room) s m #[(.ref a1), (.ref a2)] below meth c s₁ [] 0 0 := Stand.of_body Bd
  have e0 : s₁.heap = h0 := by rw [← hh, Bd.state]; rfl
  have N0 := Fr.nil n0
  refine own_go (own_lift (fun t k => castTop (ef_rmEq1 m a1 a2) k) ?_)
  show own_Go p.tables e below (s₁.setTop (mkF m 0 #[rv a1, rv a2, .unset] [])) _
  have sg1 : ∀ t, Steps p.tables e below (s₁.setTop (mkF m 1 #[rv a1, rv a2, .unset] [(.ref a2)])) t → Steps p.tables e below (s₁.setTop (mkF m 0 #[rv a1, rv a2, .unset] [])) t := by
    intro t k
    refine XS.aloadN X0.here hx rfl (hb hby d2_0) rfl rfl ?_
    show Steps p.tables e below (s₁.setTop (mkF m 1 #[rv a1, rv a2, .unset] [(.ref a2)])) _
    exact k
  refine own_lift sg1 ?_
  show own_Go p.tables e below (s₁.setTop (mkF m 1 #[rv a1, rv a2, .unset] [(.ref a2)])) _
  obtain ⟨T2, X2, e2, st2⟩ := instY X0 hx hZ hown (wd hw 54 rfl) e0 (Ins.self E2) (g := (mkF m 1 #[rv a1, rv a2, .unset] [(.ref a2)])) rfl rfl (hb hby d2_1)
  refine own_lift st2 ?_
  show own_Go p.tables e below (T2.setTop (mkF m 4 #[rv a1, rv a2, .unset] [(.int 1)])) _
  have sg3 : ∀ t, Steps p.tables e below (T2.setTop (mkF m 10 #[rv a1, rv a2, .unset] [(.ref a2)])) t → Steps p.tables e below (T2.setTop (mkF m 4 #[rv a1, rv a2, .unset] [(.int 1)])) t := by
    intro t k
    refine XS.ifYes X2.here hx rfl (pc0 := 4) (pc' := 9) rfl (hb hby d2_4) rfl ((if0 _ _).trans (feq (by decide : ¬ ((1 : Int32) = (0 : Int32)))).2) (by decide) (by decide) ?_
    show Steps p.tables e below (T2.setTop (mkF m 9 #[rv a1, rv a2, .unset] [])) _
    refine XS.aloadN X2.here hx rfl (hb hby d2_9) rfl rfl ?_
    show Steps p.tables e below (T2.setTop (mkF m 10 #[rv a1, rv a2, .unset] [(.ref a2)])) _
    exact k
  refine own_lift sg3 ?_
  show own_Go p.tables e below (T2.setTop (mkF m 10 #[rv a1, rv a2, .unset] [(.ref a2)])) _
  obtain ⟨T4, X4, e4, st4⟩ := castY X2 hx hZ hown (wd hw 54 rfl) e2 (Ins.self E2) (g := (mkF m 10 #[rv a1, rv a2, .unset] [(.ref a2)])) rfl rfl (hb hby d2_10)
  refine own_lift st4 ?_
  show own_Go p.tables e below (T4.setTop (mkF m 13 #[rv a1, rv a2, .unset] [(.ref a2)])) _
  have sg5 : ∀ t, Steps p.tables e below (T4.setTop (mkF m 15 #[rv a1, rv a2, rv a2] [(.ref a1)])) t → Steps p.tables e below (T4.setTop (mkF m 13 #[rv a1, rv a2, .unset] [(.ref a2)])) t := by
    intro t k
    refine XS.astoreN X4.here hx rfl (hb hby d2_13) rfl rfl (l' := #[rv a1, rv a2, rv a2]) rfl ?_
    show Steps p.tables e below (T4.setTop (mkF m 14 #[rv a1, rv a2, rv a2] [])) _
    refine XS.aloadN X4.here hx rfl (hb hby d2_14) rfl rfl ?_
    show Steps p.tables e below (T4.setTop (mkF m 15 #[rv a1, rv a2, rv a2] [(.ref a1)])) _
    exact k
  refine own_lift sg5 ?_
  show own_Go p.tables e below (T4.setTop (mkF m 15 #[rv a1, rv a2, rv a2] [(.ref a1)])) _
  obtain ⟨T6, X6, e6, st6⟩ := getF X4 hx hZ hown (host := "") (Or.inl (wd hw 13 rfl)) Via.refl e4 F0 (g := (mkF m 15 #[rv a1, rv a2, rv a2] [(.ref a1)])) rfl rfl (hb hby d2_15)
  refine own_lift st6 ?_
  show own_Go p.tables e below (T6.setTop (mkF m 18 #[rv a1, rv a2, rv a2] [(.int w0)])) _
  have sg7 : ∀ t, Steps p.tables e below (T6.setTop (mkF m 19 #[rv a1, rv a2, rv a2] [(.ref a2), (.int w0)])) t → Steps p.tables e below (T6.setTop (mkF m 18 #[rv a1, rv a2, rv a2] [(.int w0)])) t := by
    intro t k
    refine XS.aloadN X6.here hx rfl (hb hby d2_18) rfl rfl ?_
    show Steps p.tables e below (T6.setTop (mkF m 19 #[rv a1, rv a2, rv a2] [(.ref a2), (.int w0)])) _
    exact k
  refine own_lift sg7 ?_
  show own_Go p.tables e below (T6.setTop (mkF m 19 #[rv a1, rv a2, rv a2] [(.ref a2), (.int w0)])) _
  obtain ⟨T8, X8, e8, st8⟩ := getF X6 hx hZ hown (host := "") (Or.inl (wd hw 13 rfl)) Via.refl e6 G0 (g := (mkF m 19 #[rv a1, rv a2, rv a2] [(.ref a2), (.int w0)])) rfl rfl (hb hby d2_19)
  refine own_lift st8 ?_
  show own_Go p.tables e below (T8.setTop (mkF m 22 #[rv a1, rv a2, rv a2] [(.int v0), (.int w0)])) _
  have sg9 : ∀ t, Steps p.tables e below (T8.setTop (mkF m 26 #[rv a1, rv a2, rv a2] [(.ref a1)])) t → Steps p.tables e below (T8.setTop (mkF m 22 #[rv a1, rv a2, rv a2] [(.int v0), (.int w0)])) t := by
    intro t k
    refine XS.icmpNo X8.here hx rfl (hb hby d2_22) rfl (teq c0).2 ?_
    show Steps p.tables e below (T8.setTop (mkF m 25 #[rv a1, rv a2, rv a2] [])) _
    refine XS.aloadN X8.here hx rfl (hb hby d2_25) rfl rfl ?_
    show Steps p.tables e below (T8.setTop (mkF m 26 #[rv a1, rv a2, rv a2] [(.ref a1)])) _
    exact k
  refine own_lift sg9 ?_
  show own_Go p.tables e below (T8.setTop (mkF m 26 #[rv a1, rv a2, rv a2] [(.ref a1)])) _
  obtain ⟨T10, X10, e10, st10⟩ := getF X8 hx hZ hown (host := "") (Or.inl (wd hw 15 rfl)) Via.refl e8 F1 (g := (mkF m 26 #[rv a1, rv a2, rv a2] [(.ref a1)])) rfl rfl (hb hby d2_26)
  refine own_lift st10 ?_
  show own_Go p.tables e below (T10.setTop (mkF m 29 #[rv a1, rv a2, rv a2] [(.int w1)])) _
  have sg11 : ∀ t, Steps p.tables e below (T10.setTop (mkF m 30 #[rv a1, rv a2, rv a2] [(.ref a2), (.int w1)])) t → Steps p.tables e below (T10.setTop (mkF m 29 #[rv a1, rv a2, rv a2] [(.int w1)])) t := by
    intro t k
    refine XS.aloadN X10.here hx rfl (hb hby d2_29) rfl rfl ?_
    show Steps p.tables e below (T10.setTop (mkF m 30 #[rv a1, rv a2, rv a2] [(.ref a2), (.int w1)])) _
    exact k
  refine own_lift sg11 ?_
  show own_Go p.tables e below (T10.setTop (mkF m 30 #[rv a1, rv a2, rv a2] [(.ref a2), (.int w1)])) _
  obtain ⟨T12, X12, e12, st12⟩ := getF X10 hx hZ hown (host := "") (Or.inl (wd hw 15 rfl)) Via.refl e10 G1 (g := (mkF m 30 #[rv a1, rv a2, rv a2] [(.ref a2), (.int w1)])) rfl rfl (hb hby d2_30)
  refine own_lift st12 ?_
  show own_Go p.tables e below (T12.setTop (mkF m 33 #[rv a1, rv a2, rv a2] [(.int v1), (.int w1)])) _
  have sg13 : ∀ t, Steps p.tables e below (T12.setTop (mkF m 63 #[rv a1, rv a2, rv a2] [(.int 0)])) t → Steps p.tables e below (T12.setTop (mkF m 33 #[rv a1, rv a2, rv a2] [(.int v1), (.int w1)])) t := by
    intro t k
    refine XS.icmpYes X12.here hx rfl (pc0 := 33) (pc' := 62) rfl (hb hby d2_33) rfl (feq c1).2 (by decide) (by decide) ?_
    show Steps p.tables e below (T12.setTop (mkF m 62 #[rv a1, rv a2, rv a2] [])) _
    refine XS.iconst X12.here hx rfl (hb hby d2_62) ?_
    show Steps p.tables e below (T12.setTop (mkF m 63 #[rv a1, rv a2, rv a2] [(.int 0)])) _
    exact k
  refine own_lift sg13 ?_
  show own_Go p.tables e below (T12.setTop (mkF m 63 #[rv a1, rv a2, rv a2] [(.int 0)])) _
  obtain ⟨fs, hr, hrun, hended, hW, hsame⟩ := X12.leave (v := some (.int 0)) (fun h => by rw [Bd.returns] at h; cases h)
  refine ⟨_, _, ?_, hrun, hended, _, _, rfl, ?_, ⟨_, rfl⟩, hW, hsame.mono (by decide) (by decide)⟩
  · exact retN X12 hx (t := .boolean) Bd.returns (by simp) (hb hby d2_63) hr
  · show Q_rmEq1 Z a1 a2 w0 w1 w2 w3 v0 v1 v2 v3 h0 n0 _ T12.heap _
    rw [e12]
    exact ⟨rfl, N0, rfl⟩
theorem d2_36 : decode prog_48_method_8_code 36 = .ok (.aload_n 0, 1) := by decide +kernel
theorem d2_37 : decode prog_48_method_8_code 37 = .ok (.getfield 28, 3) := by decide +kernel
theorem d2_40 : decode prog_48_method_8_code 40 = .ok (.aload_n 2, 1) := by decide +kernel
theorem d2_41 : decode prog_48_method_8_code 41 = .ok (.getfield 28, 3) := by decide +kernel
theorem d2_44 : decode prog_48_method_8_code 44 = .ok (.if_icmp .ne 18, 3) := by decide +kernel
def Q_rmEq2 (Z : State) (a1 : Addr) (a2 : Addr) (w0 : Int32) (w1 : Int32) (w2 : Int32) (w3 : Int32) (v0 : Int32) (v1 : Int32) (v2 : Int32) (v3 : Int32) (h0 : Heap) (n0 : Nat) (v : Option Value) (h : Heap) (L : List Loc) : Prop := v = some (.int 0) ∧ Fr n0 L ∧ h = h0
theorem ef_rmEq2 (m : MethodId) (x0 : Addr) (x1 : Addr) : entryFrame m #[(.ref x0), (.ref x1)] 3 = mkF m 0 #[.val (.ref x0), .val (.ref x1), .unset] [] := by first | (simp [entryFrame, mkF, argsToLocals, Value.category]; done) | rfl
set_option maxRecDepth 65536 in
set_option maxHeartbeats 40000000 in
theorem rmEq2 (l : Launch) (Z : State) (a0 : Array Value) (hw : ∀ d ∈ tables_1, d.before a0 Z = true) (ws : List Jvm.Cond) (a1 : Addr) (a2 : Addr) (w0 : Int32) (w1 : Int32) (w2 : Int32) (w3 : Int32) (v0 : Int32) (v1 : Int32) (v2 : Int32) (v3 : Int32) (h0 : Heap) (n0 : Nat) (Z0 : n0 ≤ h0.size) (F0 : Fld Z h0 a1 "com/example/halyard/halyard/core/mal/TypeId" "area" "I" (.int w0)) (F1 : Fld Z h0 a1 "com/example/halyard/halyard/core/mal/TypeId" "service" "I" (.int w1)) (F2 : Fld Z h0 a1 "com/example/halyard/halyard/core/mal/TypeId" "areaVersion" "I" (.int w2)) (F3 : Fld Z h0 a1 "com/example/halyard/halyard/core/mal/TypeId" "shortFormPart" "I" (.int w3)) (G0 : Fld Z h0 a2 "com/example/halyard/halyard/core/mal/TypeId" "area" "I" (.int v0)) (G1 : Fld Z h0 a2 "com/example/halyard/halyard/core/mal/TypeId" "service" "I" (.int v1)) (G2 : Fld Z h0 a2 "com/example/halyard/halyard/core/mal/TypeId" "areaVersion" "I" (.int v2)) (G3 : Fld Z h0 a2 "com/example/halyard/halyard/core/mal/TypeId" "shortFormPart" "I" (.int v3)) (E2 : Exa Z h0 a2 "com/example/halyard/halyard/core/mal/TypeId") (c0 : w0 = v0) (c1 : w1 = v1) (c2 : ¬ (w2 = v2)) :
    MetFree l (⟨"com/example/halyard/halyard/core/mal/TypeId", "equals", "(Ljava/lang/Object;)Z"⟩ : MethodName) (head1 (Jvm.Cond.code (⟨"com/example/halyard/halyard/core/mal/TypeId", "equals", "(Ljava/lang/Object;)Z"⟩ : MethodName) prog_48_method_8_code 3 (some .boolean) :: ws) ({ frames := 0, cells := 0, slots := 0, locals := 0 } : Room)) (fun a U => a = #[(.ref a1), (.ref a2)] ∧ Z.Warmed39 U.vm ∧ U.heap = h0) (fun _ _ _ _ _ => True) (fun _ U o U' => ∃ v L, o = .returned v ∧ Q_rmEq2 Z a1 a2 w0 w1 w2 w3 v0 v1 v2 v3 h0 n0 v U'.heap L ∧ FrameEnd U o U' L ({ frames := 0, cells := 0, slots := 0, locals := 0 } : Room).cells ({ frames := 0, cells := 0, slots := 0, locals := 0 } : Room).slots) := by
  refine MetFree.of_bodySF (plainFor_of_name pn_0) hisR ?_
  intro p e s m args below meth c s₁ Bd hml0 hP hK
  obtain ⟨rfl, hZ, hh⟩ := hP
  have hx := Bd.exec
  have hby := Bd.bytes
  have hml : c.maxLocals = 3 := hml0
  have hown : s.vm.findClass "com/example/halyard/halyard/core/mal/TypeId" = some m.cls := findClass_of_methodNamed Bd.named
  have hnm := (name_of_methodNamed Bd.named Bd.method).1
  have X0 : Stand p l e ({ frames := 0, cells := 0, slots := 0, locals := 0 } : Room) s m #[(.ref a1), (.ref a2)] below meth c s₁ [] 0 0 := Stand.of_body Bd
  have e0 : s₁.heap = h0 := by rw [← hh, Bd.state]; rfl
  have N0 := Fr.nil n0
  refine own_go (own_lift (fun t k => castTop (ef_rmEq2 m a1 a2) k) ?_)
  show own_Go p.tables e below (s₁.setTop (mkF m 0 #[rv a1, rv a2, .unset] [])) _
  have sg1 : ∀ t, Steps p.tables e below (s₁.setTop (mkF m 1 #[rv a1, rv a2, .unset] [(.ref a2)])) t → Steps p.tables e below (s₁.setTop (mkF m 0 #[rv a1, rv a2, .unset] [])) t := by
    intro t k
    refine XS.aloadN X0.here hx rfl (hb hby d2_0) rfl rfl ?_
    show Steps p.tables e below (s₁.setTop (mkF m 1 #[rv a1, rv a2, .unset] [(.ref a2)])) _
    exact k
  refine own_lift sg1 ?_
  show own_Go p.tables e below (s₁.setTop (mkF m 1 #[rv a1, rv a2, .unset] [(.ref a2)])) _
  obtain ⟨T2, X2, e2, st2⟩ := instY X0 hx hZ hown (wd hw 54 rfl) e0 (Ins.self E2) (g := (mkF m 1 #[rv a1, rv a2, .unset] [(.ref a2)])) rfl rfl (hb hby d2_1)
  refine own_lift st2 ?_
  show own_Go p.tables e below (T2.setTop (mkF m 4 #[rv a1, rv a2, .unset] [(.int 1)])) _
  have sg3 : ∀ t, Steps p.tables e below (T2.setTop (mkF m 10 #[rv a1, rv a2, .unset] [(.ref a2)])) t → Steps p.tables e below (T2.setTop (mkF m 4 #[rv a1, rv a2, .unset] [(.int 1)])) t := by
    intro t k
    refine XS.ifYes X2.here hx rfl (pc0 := 4) (pc' := 9) rfl (hb hby d2_4) rfl ((if0 _ _).trans (feq (by decide : ¬ ((1 : Int32) = (0 : Int32)))).2) (by decide) (by decide) ?_
    show Steps p.tables e below (T2.setTop (mkF m 9 #[rv a1, rv a2, .unset] [])) _
    refine XS.aloadN X2.here hx rfl (hb hby d2_9) rfl rfl ?_
    show Steps p.tables e below (T2.setTop (mkF m 10 #[rv a1, rv a2, .unset] [(.ref a2)])) _
    exact k
  refine own_lift sg3 ?_
  show own_Go p.tables e below (T2.setTop (mkF m 10 #[rv a1, rv a2, .unset] [(.ref a2)])) _
  obtain ⟨T4, X4, e4, st4⟩ := castY X2 hx hZ hown (wd hw 54 rfl) e2 (Ins.self E2) (g := (mkF m 10 #[rv a1, rv a2, .unset] [(.ref a2)])) rfl rfl (hb hby d2_10)
  refine own_lift st4 ?_
  show own_Go p.tables e below (T4.setTop (mkF m 13 #[rv a1, rv a2, .unset] [(.ref a2)])) _
  have sg5 : ∀ t, Steps p.tables e below (T4.setTop (mkF m 15 #[rv a1, rv a2, rv a2] [(.ref a1)])) t → Steps p.tables e below (T4.setTop (mkF m 13 #[rv a1, rv a2, .unset] [(.ref a2)])) t := by
    intro t k
    refine XS.astoreN X4.here hx rfl (hb hby d2_13) rfl rfl (l' := #[rv a1, rv a2, rv a2]) rfl ?_
    show Steps p.tables e below (T4.setTop (mkF m 14 #[rv a1, rv a2, rv a2] [])) _
    refine XS.aloadN X4.here hx rfl (hb hby d2_14) rfl rfl ?_
    show Steps p.tables e below (T4.setTop (mkF m 15 #[rv a1, rv a2, rv a2] [(.ref a1)])) _
    exact k
  refine own_lift sg5 ?_
  show own_Go p.tables e below (T4.setTop (mkF m 15 #[rv a1, rv a2, rv a2] [(.ref a1)])) _
  obtain ⟨T6, X6, e6, st6⟩ := getF X4 hx hZ hown (host := "") (Or.inl (wd hw 13 rfl)) Via.refl e4 F0 (g := (mkF m 15 #[rv a1, rv a2, rv a2] [(.ref a1)])) rfl rfl (hb hby d2_15)
  refine own_lift st6 ?_
  show own_Go p.tables e below (T6.setTop (mkF m 18 #[rv a1, rv a2, rv a2] [(.int w0)])) _
  have sg7 : ∀ t, Steps p.tables e below (T6.setTop (mkF m 19 #[rv a1, rv a2, rv a2] [(.ref a2), (.int w0)])) t → Steps p.tables e below (T6.setTop (mkF m 18 #[rv a1, rv a2, rv a2] [(.int w0)])) t := by
    intro t k
    refine XS.aloadN X6.here hx rfl (hb hby d2_18) rfl rfl ?_
    show Steps p.tables e below (T6.setTop (mkF m 19 #[rv a1, rv a2, rv a2] [(.ref a2), (.int w0)])) _
    exact k
  refine own_lift sg7 ?_
  show own_Go p.tables e below (T6.setTop (mkF m 19 #[rv a1, rv a2, rv a2] [(.ref a2), (.int w0)])) _
  obtain ⟨T8, X8, e8, st8⟩ := getF X6 hx hZ hown (host := "") (Or.inl (wd hw 13 rfl)) Via.refl e6 G0 (g := (mkF m 19 #[rv a1, rv a2, rv a2] [(.ref a2), (.int w0)])) rfl rfl (hb hby d2_19)
  refine own_lift st8 ?_
  show own_Go p.tables e below (T8.setTop (mkF m 22 #[rv a1, rv a2, rv a2] [(.int v0), (.int w0)])) _
  have sg9 : ∀ t, Steps p.tables e below (T8.setTop (mkF m 26 #[rv a1, rv a2, rv a2] [(.ref a1)])) t → Steps p.tables e below (T8.setTop (mkF m 22 #[rv a1, rv a2, rv a2] [(.int v0), (.int w0)])) t := by
    intro t k
    refine XS.icmpNo X8.here hx rfl (hb hby d2_22) rfl (teq c0).2 ?_
    show Steps p.tables e below (T8.setTop (mkF m 25 #[rv a1, rv a2, rv a2] [])) _
    refine XS.aloadN X8.here hx rfl (hb hby d2_25) rfl rfl ?_
    show Steps p.tables e below (T8.setTop (mkF m 26 #[rv a1, rv a2, rv a2] [(.ref a1)])) _
    exact k
  refine own_lift sg9 ?_
  show own_Go p.tables e below (T8.setTop (mkF m 26 #[rv a1, rv a2, rv a2] [(.ref a1)])) _
  obtain ⟨T10, X10, e10, st10⟩ := getF X8 hx hZ hown (host := "") (Or.inl (wd hw 15 rfl)) Via.refl e8 F1 (g := (mkF m 26 #[rv a1, rv a2, rv a2] [(.ref a1)])) rfl rfl (hb hby d2_26)
  refine own_lift st10 ?_
  show own_Go p.tables e below (T10.setTop (mkF m 29 #[rv a1, rv a2, rv a2] [(.int w1)])) _
  have sg11 : ∀ t, Steps p.tables e below (T10.setTop (mkF m 30 #[rv a1, rv a2, rv a2] [(.ref a2), (.int w1)])) t → Steps p.tables e below (T10.setTop (mkF m 29 #[rv a1, rv a2, rv a2] [(.int w1)])) t := by
    intro t k
    refine XS.aloadN X10.here hx rfl (hb hby d2_29) rfl rfl ?_
    show Steps p.tables e below (T10.setTop (mkF m 30 #[rv a1, rv a2, rv a2] [(.ref a2), (.int w1)])) _
    exact k
  refine own_lift sg11 ?_
  show own_Go p.tables e below (T10.setTop (mkF m 30 #[rv a1, rv a2, rv a2] [(.ref a2), (.int w1)])) _
  obtain ⟨T12, X12, e12, st12⟩ := getF X10 hx hZ hown (host := "") (Or.inl (wd hw 15 rfl)) Via.refl e10 G1 (g := (mkF m 30 #[rv a1, rv a2, rv a2] [(.ref a2), (.int w1)])) rfl rfl (hb hby d2_30)
  refine own_lift st12 ?_
  show own_Go p.tables e below (T12.setTop (mkF m 33 #[rv a1, rv a2, rv a2] [(.int v1), (.int w1)])) _
  have sg13 : ∀ t, Steps p.tables e below (T12.setTop (mkF m 37 #[rv a1, rv a2, rv a2] [(.ref a1)])) t → Steps p.tables e below (T12.setTop (mkF m 33 #[rv a1, rv a2, rv a2] [(.int v1), (.int w1)])) t := by
    intro t k
    refine XS.icmpNo X12.here hx rfl (hb hby d2_33) rfl (teq c1).2 ?_
    show Steps p.tables e below (T12.setTop (mkF m 36 #[rv a1, rv a2, rv a2] [])) _
    refine XS.aloadN X12.here hx rfl (hb hby d2_36) rfl rfl ?_
    show Steps p.tables e below (T12.setTop (mkF m 37 #[rv a1, rv a2, rv a2] [(.ref a1)])) _
    exact k
  refine own_lift sg13 ?_
  show own_Go p.tables e below (T12.setTop (mkF m 37 #[rv a1, rv a2, rv a2] [(.ref a1)])) _
  obtain ⟨T14, X14, e14, st14⟩ := getF X12 hx hZ hown (host := "") (Or.inl (wd hw 17 rfl)) Via.refl e12 F2 (g := (mkF m 37 #[rv a1, rv a2, rv a2] [(.ref a1)])) rfl rfl (hb hby d2_37)
  refine own_lift st14 ?_
  show own_Go p.tables e below (T14.setTop (mkF m 40 #[rv a1, rv a2, rv a2] [(.int w2)])) _
  have sg15 : ∀ t, Steps p.tables e below (T14.setTop (mkF m 41 #[rv a1, rv a2, rv a2] [(.ref a2), (.int w2)])) t → Steps p.tables e below (T14.setTop (mkF m 40 #[rv a1, rv a2, rv a2] [(.int w2)])) t := by
    intro t k
    refine XS.aloadN X14.here hx rfl (hb hby d2_40) rfl rfl ?_
    show Steps p.tables e below (T14.setTop (mkF m 41 #[rv a1, rv a2, rv a2] [(.ref a2), (.int w2)])) _
    exact k
  refine own_lift sg15 ?_
  show own_Go p.tables e below (T14.setTop (mkF m 41 #[rv a1, rv a2, rv a2] [(.ref a2), (.int w2)])) _
  obtain ⟨T16, X16, e16, st16⟩ := getF X14 hx hZ hown (host := "") (Or.inl (wd hw 17 rfl)) Via.refl e14 G2 (g := (mkF m 41 #[rv a1, rv a2, rv a2] [(.ref a2), (.int w2)])) rfl rfl (hb hby d2_41)
  refine own_lift st16 ?_
  show own_Go p.tables e below (T16.setTop (mkF m 44 #[rv a1, rv a2, rv a2] [(.int v2), (.int w2)])) _
  have sg17 : ∀ t, Steps p.tables e below (T16.setTop (mkF m 63 #[rv a1, rv a2, rv a2] [(.int 0)])) t → Steps p.tables e below (T16.setTop (mkF m 44 #[rv a1, rv a2, rv a2] [(.int v2), (.int w2)])) t := by
    intro t k
    refine XS.icmpYes X16.here hx rfl (pc0 := 44) (pc' := 62) rfl (hb hby d2_44) rfl (feq c2).2 (by decide) (by decide) ?_
    show Steps p.tables e below (T16.setTop (mkF m 62 #[rv a1, rv a2, rv a2] [])) _
    refine XS.iconst X16.here hx rfl (hb hby d2_62) ?_
    show Steps p.tables e below (T16.setTop (mkF m 63 #[rv a1, rv a2, rv a2] [(.int 0)])) _
    exact k
  refine own_lift sg17 ?_
  show own_Go p.tables e below (T16.setTop (mkF m 63 #[rv a1, rv a2, rv a2] [(.int 0)])) _
  obtain ⟨fs, hr, hrun, hended, hW, hsame⟩ := X16.leave (v := some (.int 0)) (fun h => by rw [Bd.returns] at h; cases h)
  refine ⟨_, _, ?_, hrun, hended, _, _, rfl, ?_, ⟨_, rfl⟩, hW, hsame.mono (by decide) (by decide)⟩
  · exact retN X16 hx (t := .boolean) Bd.returns (by simp) (hb hby d2_63) hr
  · show Q_rmEq2 Z a1 a2 w0 w1 w2 w3 v0 v1 v2 v3 h0 n0 _ T16.heap _
    rw [e16]
    exact ⟨rfl, N0, rfl⟩
theorem d2_47 : decode prog_48_method_8_code 47 = .ok (.aload_n 0, 1) := by decide +kernel
theorem d2_48 : decode prog_48_method_8_code 48 = .ok (.getfield 31, 3) := by decide +kernel
theorem d2_51 : decode prog_48_method_8_code 51 = .ok (.aload_n 2, 1) := by decide +kernel
theorem d2_52 : decode prog_48_method_8_code 52 = .ok (.getfield 31, 3) := by decide +kernel
theorem d2_55 : decode prog_48_method_8_code 55 = .ok (.if_icmp .ne 7, 3) := by decide +kernel
def Q_rmEq3 (Z : State) (a1 : Addr) (a2 : Addr) (w0 : Int32) (w1 : Int32) (w2 : Int32) (w3 : Int32) (v0 : Int32) (v1 : Int32) (v2 : Int32) (v3 : Int32) (h0 : Heap) (n0 : Nat) (v : Option Value) (h : Heap) (L : List Loc) : Prop := v = some (.int 0) ∧ Fr n0 L ∧ h = h0
theorem ef_rmEq3 (m : MethodId) (x0 : Addr) (x1 : Addr) : entryFrame m #[(.ref x0), (.ref x1)] 3 = mkF m 0 #[.val (.ref x0), .val (.ref x1), .unset] [] := by first | (simp [entryFrame, mkF, argsToLocals, Value.category]; done) | rfl
set_option maxRecDepth 65536 in
set_option maxHeartbeats 40000000 in
theorem rmEq3 (l : Launch) (Z : State) (a0 : Array Value) (hw : ∀ d ∈ tables_1, d.before a0 Z = true) (ws : List Jvm.Cond) (a1 : Addr) (a2 : Addr) (w0 : Int32) (w1 : Int32) (w2 : Int32) (w3 : Int32) (v0 : Int32) (v1 : Int32) (v2 : Int32) (v3 : Int32) (h0 : Heap) (n0 : Nat) (Z0 : n0 ≤ h0.size) (F0 : Fld Z h0 a1 "com/example/halyard/halyard/core/mal/TypeId" "area" "I" (.int w0)) (F1 : Fld Z h0 a1 "com/example/halyard/halyard/core/mal/TypeId" "service" "I" (.int w1)) (F2 : Fld Z h0 a1 "com/example/halyard/halyard/core/mal/TypeId" "areaVersion" "I" (.int w2)) (F3 : Fld Z h0 a1 "com/example/halyard/halyard/core/mal/TypeId" "shortFormPart" "I" (.int w3)) (G0 : Fld Z h0 a2 "com/example/halyard/halyard/core/mal/TypeId" "area" "I" (.int v0)) (G1 : Fld Z h0 a2 "com/example/halyard/halyard/core/mal/TypeId" "service" "I" (.int v1)) (G2 : Fld Z h0 a2 "com/example/halyard/halyard/core/mal/TypeId" "areaVersion" "I" (.int v2)) (G3 : Fld Z h0 a2 "com/example/halyard/halyard/core/mal/TypeId" "shortFormPart" "I" (.int v3)) (E2 : Exa Z h0 a2 "com/example/halyard/halyard/core/mal/TypeId") (c0 : w0 = v0) (c1 : w1 = v1) (c2 : w2 = v2) (c3 : ¬ (w3 = v3)) :
    MetFree l (⟨"com/example/halyard/halyard/core/mal/TypeId", "equals", "(Ljava/lang/Object;)Z"⟩ : MethodName) (head1 (Jvm.Cond.code (⟨"com/example/halyard/halyard/core/mal/TypeId", "equals", "(Ljava/lang/Object;)Z"⟩ : MethodName) prog_48_method_8_code 3 (some .boolean) :: ws) ({ frames := 0, cells := 0, slots := 0, locals := 0 } : Room)) (fun a U => a = #[(.ref a1), (.ref a2)] ∧ Z.Warmed39 U.vm ∧ U.heap = h0) (fun _ _ _ _ _ => True) (fun _ U o U' => ∃ v L, o = .returned v ∧ Q_rmEq3 Z a1 a2 w0 w1 w2 w3 v0 v1 v2 v3 h0 n0 v U'.heap L ∧ FrameEnd U o U' L ({ frames := 0, cells := 0, slots := 0, locals := 0 } : Room).cells ({ frames := 0, cells := 0, slots := 0, locals := 0 } : Room).slots) := by
  refine MetFree.of_bodySF (plainFor_of_name pn_0) hisR ?_
  intro p e s m args below meth c s₁ Bd hml0 hP hK
  obtain ⟨rfl, hZ, hh⟩ := hP
  have hx := Bd.exec
  have hby := Bd.bytes
  have hml : c.maxLocals = 3 := hml0
  have hown : s.vm.findClass "com/example/halyard/halyard/core/mal/TypeId" = some m.cls := findClass_of_methodNamed Bd.named
  have hnm := (name_of_methodNamed Bd.named Bd.method).1
  have X0 : Stand p l e ({ frames := 0, cells := 0, slots := 0, locals := 0 } : Room) s m #[(.ref a1), (.ref a2)] below meth c s₁ [] 0 0 := Stand.of_body Bd
  have e0 : s₁.heap = h0 := by rw [← hh, Bd.state]; rfl
  have N0 := Fr.nil n0
  refine own_go (own_lift (fun t k => castTop (ef_rmEq3 m a1 a2) k) ?_)
  show own_Go p.tables e below (s₁.setTop (mkF m 0 #[rv a1, rv a2, .unset] [])) _
  have sg1 : ∀ t, Steps p.tables e below (s₁.setTop (mkF m 1 #[rv a1, rv a2, .unset] [(.ref a2)])) t → Steps p.tables e below (s₁.setTop (mkF m 0 #[rv a1, rv a2, .unset] [])) t := by
    intro t k
    refine XS.aloadN X0.here hx rfl (hb hby d2_0) rfl rfl ?_
    show Steps p.tables e below (s₁.setTop (mkF m 1 #[rv a1, rv a2, .unset] [(.ref a2)])) _
    exact k
  refine own_lift sg1 ?_
  show own_Go p.tables e below (s₁.setTop (mkF m 1 #[rv a1, rv a2, .unset] [(.ref a2)])) _
  obtain ⟨T2, X2, e2, st2⟩ := instY X0 hx hZ hown (wd hw 54 rfl) e0 (Ins.self E2) (g := (mkF m 1 #[rv a1, rv a2, .unset] [(.ref a2)])) rfl rfl (hb hby d2_1)
  refine own_lift st2 ?_
  show own_Go p.tables e below (T2.setTop (mkF m 4 #[rv a1, rv a2, .unset] [(.int 1)])) _
  have sg3 : ∀ t, Steps p.tables e below (T2.setTop (mkF m 10 #[rv a1, rv a2, .unset] [(.ref a2)])) t → Steps p.tables e below (T2.setTop (mkF m 4 #[rv a1, rv a2, .unset] [(.int 1)])) t := by
    intro t k
    refine XS.ifYes X2.here hx rfl (pc0 := 4) (pc' := 9) rfl (hb hby d2_4) rfl ((if0 _ _).trans (feq (by decide : ¬ ((1 : Int32) = (0 : Int32)))).2) (by decide) (by decide) ?_
    show Steps p.tables e below (T2.setTop (mkF m 9 #[rv a1, rv a2, .unset] [])) _
    refine XS.aloadN X2.here hx rfl (hb hby d2_9) rfl rfl ?_
    show Steps p.tables e below (T2.setTop (mkF m 10 #[rv a1, rv a2, .unset] [(.ref a2)])) _
    exact k
  refine own_lift sg3 ?_
  show own_Go p.tables e below (T2.setTop (mkF m 10 #[rv a1, rv a2, .unset] [(.ref a2)])) _
  obtain ⟨T4, X4, e4, st4⟩ := castY X2 hx hZ hown (wd hw 54 rfl) e2 (Ins.self E2) (g := (mkF m 10 #[rv a1, rv a2, .unset] [(.ref a2)])) rfl rfl (hb hby d2_10)
  refine own_lift st4 ?_
  show own_Go p.tables e below (T4.setTop (mkF m 13 #[rv a1, rv a2, .unset] [(.ref a2)])) _
  have sg5 : ∀ t, Steps p.tables e below (T4.setTop (mkF m 15 #[rv a1, rv a2, rv a2] [(.ref a1)])) t → Steps p.tables e below (T4.setTop (mkF m 13 #[rv a1, rv a2, .unset] [(.ref a2)])) t := by
    intro t k
    refine XS.astoreN X4.here hx rfl (hb hby d2_13) rfl rfl (l' := #[rv a1, rv a2, rv a2]) rfl ?_
    show Steps p.tables e below (T4.setTop (mkF m 14 #[rv a1, rv a2, rv a2] [])) _
    refine XS.aloadN X4.here hx rfl (hb hby d2_14) rfl rfl ?_
    show Steps p.tables e below (T4.setTop (mkF m 15 #[rv a1, rv a2, rv a2] [(.ref a1)])) _
    exact k
  refine own_lift sg5 ?_
  show own_Go p.tables e below (T4.setTop (mkF m 15 #[rv a1, rv a2, rv a2] [(.ref a1)])) _
  obtain ⟨T6, X6, e6, st6⟩ := getF X4 hx hZ hown (host := "") (Or.inl (wd hw 13 rfl)) Via.refl e4 F0 (g := (mkF m 15 #[rv a1, rv a2, rv a2] [(.ref a1)])) rfl rfl (hb hby d2_15)
  refine own_lift st6 ?_
  show own_Go p.tables e below (T6.setTop (mkF m 18 #[rv a1, rv a2, rv a2] [(.int w0)])) _
  have sg7 : ∀ t, Steps p.tables e below (T6.setTop (mkF m 19 #[rv a1, rv a2, rv a2] [(.ref a2), (.int w0)])) t → Steps p.tables e below (T6.setTop (mkF m 18 #[rv a1, rv a2, rv a2] [(.int w0)])) t := by
    intro t k
    refine XS.aloadN X6.here hx rfl (hb hby d2_18) rfl rfl ?_
    show Steps p.tables e below (T6.setTop (mkF m 19 #[rv a1, rv a2, rv a2] [(.ref a2), (.int w0)])) _
    exact k
  refine own_lift sg7 ?_
  show own_Go p.tables e below (T6.setTop (mkF m 19 #[rv a1, rv a2, rv a2] [(.ref a2), (.int w0)])) _
  obtain ⟨T8, X8, e8, st8⟩ := getF X6 hx hZ hown (host := "") (Or.inl (wd hw 13 rfl)) Via.refl e6 G0 (g := (mkF m 19 #[rv a1, rv a2, rv a2] [(.ref a2), (.int w0)])) rfl rfl (hb hby d2_19)
  refine own_lift st8 ?_
  show own_Go p.tables e below (T8.setTop (mkF m 22 #[rv a1, rv a2, rv a2] [(.int v0), (.int w0)])) _
  have sg9 : ∀ t, Steps p.tables e below (T8.setTop (mkF m 26 #[rv a1, rv a2, rv a2] [(.ref a1)])) t → Steps p.tables e below (T8.setTop (mkF m 22 #[rv a1, rv a2, rv a2] [(.int v0), (.int w0)])) t := by
    intro t k
    refine XS.icmpNo X8.here hx rfl (hb hby d2_22) rfl (teq c0).2 ?_
    show Steps p.tables e below (T8.setTop (mkF m 25 #[rv a1, rv a2, rv a2] [])) _
    refine XS.aloadN X8.here hx rfl (hb hby d2_25) rfl rfl ?_
    show Steps p.tables e below (T8.setTop (mkF m 26 #[rv a1, rv a2, rv a2] [(.ref a1)])) _
    exact k
  refine own_lift sg9 ?_
  show own_Go p.tables e below (T8.setTop (mkF m 26 #[rv a1, rv a2, rv a2] [(.ref a1)])) _
  obtain ⟨T10, X10, e10, st10⟩ := getF X8 hx hZ hown (host := "") (Or.inl (wd hw 15 rfl)) Via.refl e8 F1 (g := (mkF m 26 #[rv a1, rv a2, rv a2] [(.ref a1)])) rfl rfl (hb hby d2_26)
  refine own_lift st10 ?_
  show own_Go p.tables e below (T10.setTop (mkF m 29 #[rv a1, rv a2, rv a2] [(.int w1)])) _
  have sg11 : ∀ t, Steps p.tables e below (T10.setTop (mkF m 30 #[rv a1, rv a2, rv a2] [(.ref a2), (.int w1)])) t → Steps p.tables e below (T10.setTop (mkF m 29 #[rv a1, rv a2, rv a2] [(.int w1)])) t := by
    intro t k
    refine XS.aloadN X10.here hx rfl (hb hby d2_29) rfl rfl ?_
    show Steps p.tables e below (T10.setTop (mkF m 30 #[rv a1, rv a2, rv a2] [(.ref a2), (.int w1)])) _
    exact k
  refine own_lift sg11 ?_
  show own_Go p.tables e below (T10.setTop (mkF m 30 #[rv a1, rv a2, rv a2] [(.ref a2), (.int w1)])) _
  obtain ⟨T12, X12, e12, st12⟩ := getF X10 hx hZ hown (host := "") (Or.inl (wd hw 15 rfl)) Via.refl e10 G1 (g := (mkF m 30 #[rv a1, rv a2, rv a2] [(.ref a2), (.int w1)])) rfl rfl (hb hby d2_30)
  refine own_lift st12 ?_
  show own_Go p.tables e below (T12.setTop (mkF m 33 #[rv a1, rv a2, rv a2] [(.int v1), (.int w1)])) _
  have sg13 : ∀ t, Steps p.tables e below (T12.setTop (mkF m 37 #[rv a1, rv a2, rv a2] [(.ref a1)])) t → Steps p.tables e below (T12.setTop (mkF m 33 #[rv a1, rv a2, rv a2] [(.int v1), (.int w1)])) t := by
    intro t k
    refine XS.icmpNo X12.here hx rfl (hb hby d2_33) rfl (teq c1).2 ?_
    show Steps p.tables e below (T12.setTop (mkF m 36 #[rv a1, rv a2, rv a2] [])) _
    refine XS.aloadN X12.here hx rfl (hb hby d2_36) rfl rfl ?_
    show Steps p.tables e below (T12.setTop (mkF m 37 #[rv a1, rv a2, rv a2] [(.ref a1)])) _
    exact k
  refine own_lift sg13 ?_
  show own_Go p.tables e below (T12.setTop (mkF m 37 #[rv a1, rv a2, rv a2] [(.ref a1)])) _
  obtain ⟨T14, X14, e14, st14⟩ := getF X12 hx hZ hown (host := "") (Or.inl (wd hw 17 rfl)) Via.refl e12 F2 (g := (mkF m 37 #[rv a1, rv a2, rv a2] [(.ref a1)])) rfl rfl (hb hby d2_37)
  refine own_lift st14 ?_
  show own_Go p.tables e below (T14.setTop (mkF m 40 #[rv a1, rv a2, rv a2] [(.int w2)])) _
  have sg15 : ∀ t, Steps p.tables e below (T14.setTop (mkF m 41 #[rv a1, rv a2, rv a2] [(.ref a2), (.int w2)])) t → Steps p.tables e below (T14.setTop (mkF m 40 #[rv a1, rv a2, rv a2] [(.int w2)])) t := by
    intro t k
    refine XS.aloadN X14.here hx rfl (hb hby d2_40) rfl rfl ?_
    show Steps p.tables e below (T14.setTop (mkF m 41 #[rv a1, rv a2, rv a2] [(.ref a2), (.int w2)])) _
    exact k
  refine own_lift sg15 ?_
  show own_Go p.tables e below (T14.setTop (mkF m 41 #[rv a1, rv a2, rv a2] [(.ref a2), (.int w2)])) _
  obtain ⟨T16, X16, e16, st16⟩ := getF X14 hx hZ hown (host := "") (Or.inl (wd hw 17 rfl)) Via.refl e14 G2 (g := (mkF m 41 #[rv a1, rv a2, rv a2] [(.ref a2), (.int w2)])) rfl rfl (hb hby d2_41)
  refine own_lift st16 ?_
  show own_Go p.tables e below (T16.setTop (mkF m 44 #[rv a1, rv a2, rv a2] [(.int v2), (.int w2)])) _
  have sg17 : ∀ t, Steps p.tables e below (T16.setTop (mkF m 48 #[rv a1, rv a2, rv a2] [(.ref a1)])) t → Steps p.tables e below (T16.setTop (mkF m 44 #[rv a1, rv a2, rv a2] [(.int v2), (.int w2)])) t := by
    intro t k
    refine XS.icmpNo X16.here hx rfl (hb hby d2_44) rfl (teq c2).2 ?_
    show Steps p.tables e below (T16.setTop (mkF m 47 #[rv a1, rv a2, rv a2] [])) _
    refine XS.aloadN X16.here hx rfl (hb hby d2_47) rfl rfl ?_
    show Steps p.tables e below (T16.setTop (mkF m 48 #[rv a1, rv a2, rv a2] [(.ref a1)])) _
    exact k
  refine own_lift sg17 ?_
  show own_Go p.tables e below (T16.setTop (mkF m 48 #[rv a1, rv a2, rv a2] [(.ref a1)])) _
  obtain ⟨T18, X18, e18, st18⟩ := getF X16 hx hZ hown (host := "") (Or.inl (wd hw 19 rfl)) Via.refl e16 F3 (g := (mkF m 48 #[rv a1, rv a2, rv a2] [(.ref a1)])) rfl rfl (hb hby d2_48)
  refine own_lift st18 ?_
  show own_Go p.tables e below (T18.setTop (mkF m 51 #[rv a1, rv a2, rv a2] [(.int w3)])) _
  have sg19 : ∀ t, Steps p.tables e below (T18.setTop (mkF m 52 #[rv a1, rv a2, rv a2] [(.ref a2), (.int w3)])) t → Steps p.tables e below (T18.setTop (mkF m 51 #[rv a1, rv a2, rv a2] [(.int w3)])) t := by
    intro t k
    refine XS.aloadN X18.here hx rfl (hb hby d2_51) rfl rfl ?_
    show Steps p.tables e below (T18.setTop (mkF m 52 #[rv a1, rv a2, rv a2] [(.ref a2), (.int w3)])) _
    exact k
  refine own_lift sg19 ?_
  show own_Go p.tables e below (T18.setTop (mkF m 52 #[rv a1, rv a2, rv a2] [(.ref a2), (.int w3)])) _
  obtain ⟨T20, X20, e20, st20⟩ := getF X18 hx hZ hown (host := "") (Or.inl (wd hw 19 rfl)) Via.refl e18 G3 (g := (mkF m 52 #[rv a1, rv a2, rv a2] [(.ref a2), (.int w3)])) rfl rfl (hb hby d2_52)
  refine own_lift st20 ?_
  show own_Go p.tables e below (T20.setTop (mkF m 55 #[rv a1, rv a2, rv a2] [(.int v3), (.int w3)])) _
  have sg21 : ∀ t, Steps p.tables e below (T20.setTop (mkF m 63 #[rv a1, rv a2, rv a2] [(.int 0)])) t → Steps p.tables e below (T20.setTop (mkF m 55 #[rv a1, rv a2, rv a2] [(.int v3), (.int w3)])) t := by
    intro t k
    refine XS.icmpYes X20.here hx rfl (pc0 := 55) (pc' := 62) rfl (hb hby d2_55) rfl (feq c3).2 (by decide) (by decide) ?_
    show Steps p.tables e below (T20.setTop (mkF m 62 #[rv a1, rv a2, rv a2] [])) _
    refine XS.iconst X20.here hx rfl (hb hby d2_62) ?_
    show Steps p.tables e below (T20.setTop (mkF m 63 #[rv a1, rv a2, rv a2] [(.int 0)])) _
    exact k
  refine own_lift sg21 ?_
  show own_Go p.tables e below (T20.setTop (mkF m 63 #[rv a1, rv a2, rv a2] [(.int 0)])) _
  obtain ⟨fs, hr, hrun, hended, hW, hsame⟩ := X20.leave (v := some (.int 0)) (fun h => by rw [Bd.returns] at h; cases h)
  refine ⟨_, _, ?_, hrun, hended, _, _, rfl, ?_, ⟨_, rfl⟩, hW, hsame.mono (by decide) (by decide)⟩
  · exact retN X20 hx (t := .boolean) Bd.returns (by simp) (hb hby d2_63) hr
  · show Q_rmEq3 Z a1 a2 w0 w1 w2 w3 v0 v1 v2 v3 h0 n0 _ T20.heap _
    rw [e20]
    exact ⟨rfl, N0, rfl⟩
theorem d2_58 : decode prog_48_method_8_code 58 = .ok (.iconst 1, 1) := by decide +kernel
theorem d2_59 : decode prog_48_method_8_code 59 = .ok (.goto 4, 3) := by decide +kernel
def Q_rmEq4 (Z : State) (a1 : Addr) (a2 : Addr) (w0 : Int32) (w1 : Int32) (w2 : Int32) (w3 : Int32) (v0 : Int32) (v1 : Int32) (v2 : Int32) (v3 : Int32) (h0 : Heap) (n0 : Nat) (v : Option Value) (h : Heap) (L : List Loc) : Prop := v = some (.int 1) ∧ Fr n0 L ∧ h = h0
theorem ef_rmEq4 (m : MethodId) (x0 : Addr) (x1 : Addr) : entryFrame m #[(.ref x0), (.ref x1)] 3 = mkF m 0 #[.val (.ref x0), .val (.ref x1), .unset] [] := by first | (simp [entryFrame, mkF, argsToLocals, Value.category]; done) | rfl
set_option maxRecDepth 65536 in
set_option maxHeartbeats 40000000 in
theorem rmEq4 (l : Launch) (Z : State) (a0 : Array Value) (hw : ∀ d ∈ tables_1, d.before a0 Z = true) (ws : List Jvm.Cond) (a1 : Addr) (a2 : Addr) (w0 : Int32) (w1 : Int32) (w2 : Int32) (w3 : Int32) (v0 : Int32) (v1 : Int32) (v2 : Int32) (v3 : Int32) (h0 : Heap) (n0 : Nat) (Z0 : n0 ≤ h0.size) (F0 : Fld Z h0 a1 "com/example/halyard/halyard/core/mal/TypeId" "area" "I" (.int w0)) (F1 : Fld Z h0 a1 "com/example/halyard/halyard/core/mal/TypeId" "service" "I" (.int w1)) (F2 : Fld Z h0 a1 "com/example/halyard/halyard/core/mal/TypeId" "areaVersion" "I" (.int w2)) (F3 : Fld Z h0 a1 "com/example/halyard/halyard/core/mal/TypeId" "shortFormPart" "I" (.int w3)) (G0 : Fld Z h0 a2 "com/example/halyard/halyard/core/mal/TypeId" "area" "I" (.int v0)) (G1 : Fld Z h0 a2 "com/example/halyard/halyard/core/mal/TypeId" "service" "I" (.int v1)) (G2 : Fld Z h0 a2 "com/example/halyard/halyard/core/mal/TypeId" "areaVersion" "I" (.int v2)) (G3 : Fld Z h0 a2 "com/example/halyard/halyard/core/mal/TypeId" "shortFormPart" "I" (.int v3)) (E2 : Exa Z h0 a2 "com/example/halyard/halyard/core/mal/TypeId") (c0 : w0 = v0) (c1 : w1 = v1) (c2 : w2 = v2) (c3 : w3 = v3) :
    MetFree l (⟨"com/example/halyard/halyard/core/mal/TypeId", "equals", "(Ljava/lang/Object;)Z"⟩ : MethodName) (head1 (Jvm.Cond.code (⟨"com/example/halyard/halyard/core/mal/TypeId", "equals", "(Ljava/lang/Object;)Z"⟩ : MethodName) prog_48_method_8_code 3 (some .boolean) :: ws) ({ frames := 0, cells := 0, slots := 0, locals := 0 } : Room)) (fun a U => a = #[(.ref a1), (.ref a2)] ∧ Z.Warmed39 U.vm ∧ U.heap = h0) (fun _ _ _ _ _ => True) (fun _ U o U' => ∃ v L, o = .returned v ∧ Q_rmEq4 Z a1 a2 w0 w1 w2 w3 v0 v1 v2 v3 h0 n0 v U'.heap L ∧ FrameEnd U o U' L ({ frames := 0, cells := 0, slots := 0, locals := 0 } : Room).cells ({ frames := 0, cells := 0, slots := 0, locals := 0 } : Room).slots) := by
  refine MetFree.of_bodySF (plainFor_of_name pn_0) hisR ?_
  intro p e s m args below meth c s₁ Bd hml0 hP hK
  obtain ⟨rfl, hZ, hh⟩ := hP
  have hx := Bd.exec
  have hby := Bd.bytes
  have hml : c.maxLocals = 3 := hml0
  have hown : s.vm.findClass "com/example/halyard/halyard/core/mal/TypeId" = some m.cls := findClass_of_methodNamed Bd.named
  have hnm := (name_of_methodNamed Bd.named Bd.method).1
  have X0 : Stand p l e ({ frames := 0, cells := 0, slots := 0, locals := 0 } : Room) s m #[(.ref a1), (.ref a2)] below meth c s₁ [] 0 0 := Stand.of_body Bd
  have e0 : s₁.heap = h0 := by rw [← hh, Bd.state]; rfl
  have N0 := Fr.nil n0
  refine own_go (own_lift (fun t k => castTop (ef_rmEq4 m a1 a2) k) ?_)
  show own_Go p.tables e below (s₁.setTop (mkF m 0 #[rv a1, rv a2, .unset] [])) _
  have sg1 : ∀ t, Steps p.tables e below (s₁.setTop (mkF m 1 #[rv a1, rv a2, .unset] [(.ref a2)])) t → Steps p.tables e below (s₁.setTop (mkF m 0 #[rv a1, rv a2, .unset] [])) t := by
    intro t k
    refine XS.aloadN X0.here hx rfl (hb hby d2_0) rfl rfl ?_
    show Steps p.tables e below (s₁.setTop (mkF m 1 #[rv a1, rv a2, .unset] [(.ref a2)])) _
    exact k
  refine own_lift sg1 ?_
  show own_Go p.tables e below (s₁.setTop (mkF m 1 #[rv a1, rv a2, .unset] [(.ref a2)])) _
  obtain ⟨T2, X2, e2, st2⟩ := instY X0 hx hZ hown (wd hw 54 rfl) e0 (Ins.self E2) (g := (mkF m 1 #[rv a1, rv a2, .unset] [(.ref a2)])) rfl rfl (hb hby d2_1)
  refine own_lift st2 ?_
  show own_Go p.tables e below (T2.setTop (mkF m 4 #[rv a1, rv a2, .unset] [(.int 1)])) _
  have sg3 : ∀ t, Steps p.tables e below (T2.setTop (mkF m 10 #[rv a1, rv a2, .unset] [(.ref a2)])) t → Steps p.tables e below (T2.setTop (mkF m 4 #[rv a1, rv a2, .unset] [(.int 1)])) t := by
    intro t k
    refine XS.ifYes X2.here hx rfl (pc0 := 4) (pc' := 9) rfl (hb hby d2_4) rfl ((if0 _ _).trans (feq (by decide : ¬ ((1 : Int32) = (0 : Int32)))).2) (by decide) (by decide) ?_
    show Steps p.tables e below (T2.setTop (mkF m 9 #[rv a1, rv a2, .unset] [])) _
    refine XS.aloadN X2.here hx rfl (hb hby d2_9) rfl rfl ?_
    show Steps p.tables e below (T2.setTop (mkF m 10 #[rv a1, rv a2, .unset] [(.ref a2)])) _
    exact k
  refine own_lift sg3 ?_
  show own_Go p.tables e below (T2.setTop (mkF m 10 #[rv a1, rv a2, .unset] [(.ref a2)])) _
  obtain ⟨T4, X4, e4, st4⟩ := castY X2 hx hZ hown (wd hw 54 rfl) e2 (Ins.self E2) (g := (mkF m 10 #[rv a1, rv a2, .unset] [(.ref a2)])) rfl rfl (hb hby d2_10)
  refine own_lift st4 ?_
  show own_Go p.tables e below (T4.setTop (mkF m 13 #[rv a1, rv a2, .unset] [(.ref a2)])) _
  have sg5 : ∀ t, Steps p.tables e below (T4.setTop (mkF m 15 #[rv a1, rv a2, rv a2] [(.ref a1)])) t → Steps p.tables e below (T4.setTop (mkF m 13 #[rv a1, rv a2, .unset] [(.ref a2)])) t := by
    intro t k
    refine XS.astoreN X4.here hx rfl (hb hby d2_13) rfl rfl (l' := #[rv a1, rv a2, rv a2]) rfl ?_
    show Steps p.tables e below (T4.setTop (mkF m 14 #[rv a1, rv a2, rv a2] [])) _
    refine XS.aloadN X4.here hx rfl (hb hby d2_14) rfl rfl ?_
    show Steps p.tables e below (T4.setTop (mkF m 15 #[rv a1, rv a2, rv a2] [(.ref a1)])) _
    exact k
  refine own_lift sg5 ?_
  show own_Go p.tables e below (T4.setTop (mkF m 15 #[rv a1, rv a2, rv a2] [(.ref a1)])) _
  obtain ⟨T6, X6, e6, st6⟩ := getF X4 hx hZ hown (host := "") (Or.inl (wd hw 13 rfl)) Via.refl e4 F0 (g := (mkF m 15 #[rv a1, rv a2, rv a2] [(.ref a1)])) rfl rfl (hb hby d2_15)
  refine own_lift st6 ?_
  show own_Go p.tables e below (T6.setTop (mkF m 18 #[rv a1, rv a2, rv a2] [(.int w0)])) _
  have sg7 : ∀ t, Steps p.tables e below (T6.setTop (mkF m 19 #[rv a1, rv a2, rv a2] [(.ref a2), (.int w0)])) t → Steps p.tables e below (T6.setTop (mkF m 18 #[rv a1, rv a2, rv a2] [(.int w0)])) t := by
    intro t k
    refine XS.aloadN X6.here hx rfl (hb hby d2_18) rfl rfl ?_
    show Steps p.tables e below (T6.setTop (mkF m 19 #[rv a1, rv a2, rv a2] [(.ref a2), (.int w0)])) _
    exact k
  refine own_lift sg7 ?_
  show own_Go p.tables e below (T6.setTop (mkF m 19 #[rv a1, rv a2, rv a2] [(.ref a2), (.int w0)])) _
  obtain ⟨T8, X8, e8, st8⟩ := getF X6 hx hZ hown (host := "") (Or.inl (wd hw 13 rfl)) Via.refl e6 G0 (g := (mkF m 19 #[rv a1, rv a2, rv a2] [(.ref a2), (.int w0)])) rfl rfl (hb hby d2_19)
  refine own_lift st8 ?_
  show own_Go p.tables e below (T8.setTop (mkF m 22 #[rv a1, rv a2, rv a2] [(.int v0), (.int w0)])) _
  have sg9 : ∀ t, Steps p.tables e below (T8.setTop (mkF m 26 #[rv a1, rv a2, rv a2] [(.ref a1)])) t → Steps p.tables e below (T8.setTop (mkF m 22 #[rv a1, rv a2, rv a2] [(.int v0), (.int w0)])) t := by
    intro t k
    refine XS.icmpNo X8.here hx rfl (hb hby d2_22) rfl (teq c0).2 ?_
    show Steps p.tables e below (T8.setTop (mkF m 25 #[rv a1, rv a2, rv a2] [])) _
    refine XS.aloadN X8.here hx rfl (hb hby d2_25) rfl rfl ?_
    show Steps p.tables e below (T8.setTop (mkF m 26 #[rv a1, rv a2, rv a2] [(.ref a1)])) _
    exact k
  refine own_lift sg9 ?_
  show own_Go p.tables e below (T8.setTop (mkF m 26 #[rv a1, rv a2, rv a2] [(.ref a1)])) _
  obtain ⟨T10, X10, e10, st10⟩ := getF X8 hx hZ hown (host := "") (Or.inl (wd hw 15 rfl)) Via.refl e8 F1 (g := (mkF m 26 #[rv a1, rv a2, rv a2] [(.ref a1)])) rfl rfl (hb hby d2_26)
  refine own_lift st10 ?_
  show own_Go p.tables e below (T10.setTop (mkF m 29 #[rv a1, rv a2, rv a2] [(.int w1)])) _
  have sg11 : ∀ t, Steps p.tables e below (T10.setTop (mkF m 30 #[rv a1, rv a2, rv a2] [(.ref a2), (.int w1)])) t → Steps p.tables e below (T10.setTop (mkF m 29 #[rv a1, rv a2, rv a2] [(.int w1)])) t := by
    intro t k
    refine XS.aloadN X10.here hx rfl (hb hby d2_29) rfl rfl ?_
    show Steps p.tables e below (T10.setTop (mkF m 30 #[rv a1, rv a2, rv a2] [(.ref a2), (.int w1)])) _
    exact k
  refine own_lift sg11 ?_
  show own_Go p.tables e below (T10.setTop (mkF m 30 #[rv a1, rv a2, rv a2] [(.ref a2), (.int w1)])) _
  obtain ⟨T12, X12, e12, st12⟩ := getF X10 hx hZ hown (host := "") (Or.inl (wd hw 15 rfl)) Via.refl e10 G1 (g := (mkF m 30 #[rv a1, rv a2, rv a2] [(.ref a2), (.int w1)])) rfl rfl (hb hby d2_30)
  refine own_lift st12 ?_
  show own_Go p.tables e below (T12.setTop (mkF m 33 #[rv a1, rv a2, rv a2] [(.int v1), (.int w1)])) _
  have sg13 : ∀ t, Steps p.tables e below (T12.setTop (mkF m 37 #[rv a1, rv a2, rv a2] [(.ref a1)])) t → Steps p.tables e below (T12.setTop (mkF m 33 #[rv a1, rv a2, rv a2] [(.int v1), (.int w1)])) t := by
    intro t k
    refine XS.icmpNo X12.here hx rfl (hb hby d2_33) rfl (teq c1).2 ?_
    show Steps p.tables e below (T12.setTop (mkF m 36 #[rv a1, rv a2, rv a2] [])) _
    refine XS.aloadN X12.here hx rfl (hb hby d2_36) rfl rfl ?_
    show Steps p.tables e below (T12.setTop (mkF m 37 #[rv a1, rv a2, rv a2] [(.ref a1)])) _
    exact k
  refine own_lift sg13 ?_
  show own_Go p.tables e below (T12.setTop (mkF m 37 #[rv a1, rv a2, rv a2] [(.ref a1)])) _
  obtain ⟨T14, X14, e14, st14⟩ := getF X12 hx hZ hown (host := "") (Or.inl (wd hw 17 rfl)) Via.refl e12 F2 (g := (mkF m 37 #[rv a1, rv a2, rv a2] [(.ref a1)])) rfl rfl (hb hby d2_37)
  refine own_lift st14 ?_
  show own_Go p.tables e below (T14.setTop (mkF m 40 #[rv a1, rv a2, rv a2] [(.int w2)])) _
  have sg15 : ∀ t, Steps p.tables e below (T14.setTop (mkF m 41 #[rv a1, rv a2, rv a2] [(.ref a2), (.int w2)])) t → Steps p.tables e below (T14.setTop (mkF m 40 #[rv a1, rv a2, rv a2] [(.int w2)])) t := by
    intro t k
    refine XS.aloadN X14.here hx rfl (hb hby d2_40) rfl rfl ?_
    show Steps p.tables e below (T14.setTop (mkF m 41 #[rv a1, rv a2, rv a2] [(.ref a2), (.int w2)])) _
    exact k
  refine own_lift sg15 ?_
  show own_Go p.tables e below (T14.setTop (mkF m 41 #[rv a1, rv a2, rv a2] [(.ref a2), (.int w2)])) _
  obtain ⟨T16, X16, e16, st16⟩ := getF X14 hx hZ hown (host := "") (Or.inl (wd hw 17 rfl)) Via.refl e14 G2 (g := (mkF m 41 #[rv a1, rv a2, rv a2] [(.ref a2), (.int w2)])) rfl rfl (hb hby d2_41)
  refine own_lift st16 ?_
  show own_Go p.tables e below (T16.setTop (mkF m 44 #[rv a1, rv a2, rv a2] [(.int v2), (.int w2)])) _
  have sg17 : ∀ t, Steps p.tables e below (T16.setTop (mkF m 48 #[rv a1, rv a2, rv a2] [(.ref a1)])) t → Steps p.tables e below (T16.setTop (mkF m 44 #[rv a1, rv a2, rv a2] [(.int v2), (.int w2)])) t := by
    intro t k
    refine XS.icmpNo X16.here hx rfl (hb hby d2_44) rfl (teq c2).2 ?_
    show Steps p.tables e below (T16.setTop (mkF m 47 #[rv a1, rv a2, rv a2] [])) _
    refine XS.aloadN X16.here hx rfl (hb hby d2_47) rfl rfl ?_
    show Steps p.tables e below (T16.setTop (mkF m 48 #[rv a1, rv a2, rv a2] [(.ref a1)])) _
    exact k
  refine own_lift sg17 ?_
  show own_Go p.tables e below (T16.setTop (mkF m 48 #[rv a1, rv a2, rv a2] [(.ref a1)])) _
  obtain ⟨T18, X18, e18, st18⟩ := getF X16 hx hZ hown (host := "") (Or.inl (wd hw 19 rfl)) Via.refl e16 F3 (g := (mkF m 48 #[rv a1, rv a2, rv a2] [(.ref a1)])) rfl rfl (hb hby d2_48)
  refine own_lift st18 ?_
  show own_Go p.tables e below (T18.setTop (mkF m 51 #[rv a1, rv a2, rv a2] [(.int w3)])) _
  have sg19 : ∀ t, Steps p.tables e below (T18.setTop (mkF m 52 #[rv a1, rv a2, rv a2] [(.ref a2), (.int w3)])) t → Steps p.tables e below (T18.setTop (mkF m 51 #[rv a1, rv a2, rv a2] [(.int w3)])) t := by
    intro t k
    refine XS.aloadN X18.here hx rfl (hb hby d2_51) rfl rfl ?_
    show Steps p.tables e below (T18.setTop (mkF m 52 #[rv a1, rv a2, rv a2] [(.ref a2), (.int w3)])) _
    exact k
  refine own_lift sg19 ?_
  show own_Go p.tables e below (T18.setTop (mkF m 52 #[rv a1, rv a2, rv a2] [(.ref a2), (.int w3)])) _
  obtain ⟨T20, X20, e20, st20⟩ := getF X18 hx hZ hown (host := "") (Or.inl (wd hw 19 rfl)) Via.refl e18 G3 (g := (mkF m 52 #[rv a1, rv a2, rv a2] [(.ref a2), (.int w3)])) rfl rfl (hb hby d2_52)
  refine own_lift st20 ?_
  show own_Go p.tables e below (T20.setTop (mkF m 55 #[rv a1, rv a2, rv a2] [(.int v3), (.int w3)])) _
  have sg21 : ∀ t, Steps p.tables e below (T20.setTop (mkF m 63 #[rv a1, rv a2, rv a2] [(.int 1)])) t → Steps p.tables e below (T20.setTop (mkF m 55 #[rv a1, rv a2, rv a2] [(.int v3), (.int w3)])) t := by
    intro t k
    refine XS.icmpNo X20.here hx rfl (hb hby d2_55) rfl (teq c3).2 ?_
    show Steps p.tables e below (T20.setTop (mkF m 58 #[rv a1, rv a2, rv a2] [])) _
    refine XS.iconst X20.here hx rfl (hb hby d2_58) ?_
    refine XS.goto X20.here hx rfl (pc0 := 59) (pc' := 63) rfl (hb hby d2_59) (by decide) (by decide) ?_
    show Steps p.tables e below (T20.setTop (mkF m 63 #[rv a1, rv a2, rv a2] [(.int 1)])) _
    exact k
  refine own_lift sg21 ?_
  show own_Go p.tables e below (T20.setTop (mkF m 63 #[rv a1, rv a2, rv a2] [(.int 1)])) _
  obtain ⟨fs, hr, hrun, hended, hW, hsame⟩ := X20.leave (v := some (.int 1)) (fun h => by rw [Bd.returns] at h; cases h)
  refine ⟨_, _, ?_, hrun, hended, _, _, rfl, ?_, ⟨_, rfl⟩, hW, hsame.mono (by decide) (by decide)⟩
  · exact retN X20 hx (t := .boolean) Bd.returns (by simp) (hb hby d2_63) hr
  · show Q_rmEq4 Z a1 a2 w0 w1 w2 w3 v0 v1 v2 v3 h0 n0 _ T20.heap _
    rw [e20]
    exact ⟨rfl, N0, rfl⟩
theorem d2_7 : decode prog_48_method_8_code 7 = .ok (.iconst 0, 1) := by decide +kernel
theorem d2_8 : decode prog_48_method_8_code 8 = .ok (.ireturn, 1) := by decide +kernel
def Q_rmEqNull (Z : State) (a1 : Addr) (h0 : Heap) (n0 : Nat) (v : Option Value) (h : Heap) (L : List Loc) : Prop := v = some (.int 0) ∧ Fr n0 L ∧ h = h0
theorem ef_rmEqNull (m : MethodId) (x0 : Addr) : entryFrame m #[(.ref x0), .null] 3 = mkF m 0 #[.val (.ref x0), .val .null, .unset] [] := by first | (simp [entryFrame, mkF, argsToLocals, Value.category]; done) | rfl
set_option maxRecDepth 65536 in
set_option maxHeartbeats 40000000 in
theorem rmEqNull (l : Launch) (Z : State) (a0 : Array Value) (hw : ∀ d ∈ tables_1, d.before a0 Z = true) (ws : List Jvm.Cond) (a1 : Addr) (h0 : Heap) (n0 : Nat) (Z0 : n0 ≤ h0.size)   :
    MetFree l (⟨"com/example/halyard/halyard/core/mal/TypeId", "equals", "(Ljava/lang/Object;)Z"⟩ : MethodName) (head1 (Jvm.Cond.code (⟨"com/example/halyard/halyard/core/mal/TypeId", "equals", "(Ljava/lang/Object;)Z"⟩ : MethodName) prog_48_method_8_code 3 (some .boolean) :: ws) ({ frames := 0, cells := 0, slots := 0, locals := 0 } : Room)) (fun a U => a = #[(.ref a1), .null] ∧ Z.Warmed39 U.vm ∧ U.heap = h0) (fun _ _ _ _ _ => True) (fun _ U o U' => ∃ v L, o = .returned v ∧ Q_rmEqNull Z a1 h0 n0 v U'.heap L ∧ FrameEnd U o U' L ({ frames := 0, cells := 0, slots := 0, locals := 0 } : Room).cells ({ frames := 0, cells := 0, slots := 0, locals := 0 } : Room).slots) := by
  refine MetFree.of_bodySF (plainFor_of_name pn_0) hisR ?_
  intro p e s m args below meth c s₁ Bd hml0 hP hK
  obtain ⟨rfl, hZ, hh⟩ := hP
  have hx := Bd.exec
  have hby := Bd.bytes
  have hml : c.maxLocals = 3 := hml0
  have hown : s.vm.findClass "com/example/halyard/halyard/core/mal/TypeId" = some m.cls := findClass_of_methodNamed Bd.named
  have hnm := (name_of_methodNamed Bd.named Bd.method).1
  have X0 : Stand p l e ({ frames := 0, cells := 0, slots := 0, locals := 0 } : Room) s m #[(.ref a1), .null] below meth c s₁ [] 0 0 := Stand.of_body Bd
  have e0 : s₁.heap = h0 := by rw [← hh, Bd.state]; rfl
  have N0 := Fr.nil n0
  refine own_go (own_lift (fun t k => castTop (ef_rmEqNull m a1) k) ?_)
  show own_Go p.tables e below (s₁.setTop (mkF m 0 #[rv a1, .val .null, .unset] [])) _
  have sg1 : ∀ t, Steps p.tables e below (s₁.setTop (mkF m 8 #[rv a1, .val .null, .unset] [(.int 0)])) t → Steps p.tables e below (s₁.setTop (mkF m 0 #[rv a1, .val .null, .unset] [])) t := by
    intro t k
    refine XS.aloadN X0.here hx rfl (hb hby d2_0) rfl rfl ?_
    show Steps p.tables e below (s₁.setTop (mkF m 1 #[rv a1, .val .null, .unset] [.null])) _
    refine X0.instanceofNull hx (g := (mkF m 1 #[rv a1, .val .null, .unset] [.null])) rfl rfl (hb hby d2_1) _ ?_
    refine XS.ifNo X0.here hx rfl (hb hby d2_4) rfl ((if0 _ _).trans (teq (by decide : (0 : Int32) = (0 : Int32))).2) ?_
    show Steps p.tables e below (s₁.setTop (mkF m 7 #[rv a1, .val .null, .unset] [])) _
    refine XS.iconst X0.here hx rfl (hb hby d2_7) ?_
    show Steps p.tables e below (s₁.setTop (mkF m 8 #[rv a1, .val .null, .unset] [(.int 0)])) _
    exact k
  refine own_lift sg1 ?_
  show own_Go p.tables e below (s₁.setTop (mkF m 8 #[rv a1, .val .null, .unset] [(.int 0)])) _
  obtain ⟨fs, hr, hrun, hended, hW, hsame⟩ := X0.leave (v := some (.int 0)) (fun h => by rw [Bd.returns] at h; cases h)
  refine ⟨_, _, ?_, hrun, hended, _, _, rfl, ?_, ⟨_, rfl⟩, hW, hsame.mono (by decide) (by decide)⟩
  · exact retN X0 hx (t := .boolean) Bd.returns (by simp) (hb hby d2_8) hr
  · show Q_rmEqNull Z a1 h0 n0 _ s₁.heap _
    rw [e0]
    exact ⟨rfl, N0, rfl⟩
def Q_rmEqStr (Z : State) (a1 : Addr) (a2 : Addr) (h0 : Heap) (n0 : Nat) (v : Option Value) (h : Heap) (L : List Loc) : Prop := v = some (.int 0) ∧ Fr n0 L ∧ h = h0
theorem ef_rmEqStr (m : MethodId) (x0 : Addr) (x1 : Addr) : entryFrame m #[(.ref x0), (.ref x1)] 3 = mkF m 0 #[.val (.ref x0), .val (.ref x1), .unset] [] := by first | (simp [entryFrame, mkF, argsToLocals, Value.category]; done) | rfl
set_option maxRecDepth 65536 in
set_option maxHeartbeats 40000000 in
theorem rmEqStr (l : Launch) (Z : State) (a0 : Array Value) (hw : ∀ d ∈ tables_1, d.before a0 Z = true) (ws : List Jvm.Cond) (a1 : Addr) (a2 : Addr) (h0 : Heap) (n0 : Nat) (Z0 : n0 ≤ h0.size) (E2 : Exa Z h0 a2 "java/lang/String")  :
    MetFree l (⟨"com/example/halyard/halyard/core/mal/TypeId", "equals", "(Ljava/lang/Object;)Z"⟩ : MethodName) (head1 (Jvm.Cond.code (⟨"com/example/halyard/halyard/core/mal/TypeId", "equals", "(Ljava/lang/Object;)Z"⟩ : MethodName) prog_48_method_8_code 3 (some .boolean) :: ws) ({ frames := 0, cells := 0, slots := 0, locals := 0 } : Room)) (fun a U => a = #[(.ref a1), (.ref a2)] ∧ Z.Warmed39 U.vm ∧ U.heap = h0) (fun _ _ _ _ _ => True) (fun _ U o U' => ∃ v L, o = .returned v ∧ Q_rmEqStr Z a1 a2 h0 n0 v U'.heap L ∧ FrameEnd U o U' L ({ frames := 0, cells := 0, slots := 0, locals := 0 } : Room).cells ({ frames := 0, cells := 0, slots := 0, locals := 0 } : Room).slots) := by
  refine MetFree.of_bodySF (plainFor_of_name pn_0) hisR ?_
  intro p e s m args below meth c s₁ Bd hml0 hP hK
  obtain ⟨rfl, hZ, hh⟩ := hP
  have hx := Bd.exec
  have hby := Bd.bytes
  have hml : c.maxLocals = 3 := hml0
  have hown : s.vm.findClass "com/example/halyard/halyard/core/mal/TypeId" = some m.cls := findClass_of_methodNamed Bd.named
  have hnm := (name_of_methodNamed Bd.named Bd.method).1
  have X0 : Stand p l e ({ frames := 0, cells := 0, slots := 0, locals := 0 } : Room) s m #[(.ref a1), (.ref a2)] below meth c s₁ [] 0 0 := Stand.of_body Bd
  have e0 : s₁.heap = h0 := by rw [← hh, Bd.state]; rfl
  have N0 := Fr.nil n0
  refine own_go (own_lift (fun t k => castTop (ef_rmEqStr m a1 a2) k) ?_)
  show own_Go p.tables e below (s₁.setTop (mkF m 0 #[rv a1, rv a2, .unset] [])) _
  have sg1 : ∀ t, Steps p.tables e below (s₁.setTop (mkF m 1 #[rv a1, rv a2, .unset] [(.ref a2)])) t → Steps p.tables e below (s₁.setTop (mkF m 0 #[rv a1, rv a2, .unset] [])) t := by
    intro t k
    refine XS.aloadN X0.here hx rfl (hb hby d2_0) rfl rfl ?_
    show Steps p.tables e below (s₁.setTop (mkF m 1 #[rv a1, rv a2, .unset] [(.ref a2)])) _
    exact k
  refine own_lift sg1 ?_
  show own_Go p.tables e below (s₁.setTop (mkF m 1 #[rv a1, rv a2, .unset] [(.ref a2)])) _
  obtain ⟨T2, X2, e2, st2⟩ := instNo X0 hx hZ hown (wd hw 54 rfl) e0 E2 (own_no (wd hw 56 rfl) (wd hw 2 rfl) (NS.step (wd hw 56 rfl) (own_root (wd hw 57 rfl) (wd hw 2 rfl) (by decide)) (by decide)) (by decide)) (g := (mkF m 1 #[rv a1, rv a2, .unset] [(.ref a2)])) rfl rfl (hb hby d2_1)
  refine own_lift st2 ?_
  show own_Go p.tables e below (T2.setTop (mkF m 4 #[rv a1, rv a2, .unset] [(.int 0)])) _
  have sg3 : ∀ t, Steps p.tables e below (T2.setTop (mkF m 8 #[rv a1, rv a2, .unset] [(.int 0)])) t → Steps p.tables e below (T2.setTop (mkF m 4 #[rv a1, rv a2, .unset] [(.int 0)])) t := by
    intro t k
    refine XS.ifNo X2.here hx rfl (hb hby d2_4) rfl ((if0 _ _).trans (teq (by decide : (0 : Int32) = (0 : Int32))).2) ?_
    show Steps p.tables e below (T2.setTop (mkF m 7 #[rv a1, rv a2, .unset] [])) _
    refine XS.iconst X2.here hx rfl (hb hby d2_7) ?_
    show Steps p.tables e below (T2.setTop (mkF m 8 #[rv a1, rv a2, .unset] [(.int 0)])) _
    exact k
  refine own_lift sg3 ?_
  show own_Go p.tables e below (T2.setTop (mkF m 8 #[rv a1, rv a2, .unset] [(.int 0)])) _
  obtain ⟨fs, hr, hrun, hended, hW, hsame⟩ := X2.leave (v := some (.int 0)) (fun h => by rw [Bd.returns] at h; cases h)
  refine ⟨_, _, ?_, hrun, hended, _, _, rfl, ?_, ⟨_, rfl⟩, hW, hsame.mono (by decide) (by decide)⟩
  · exact retN X2 hx (t := .boolean) Bd.returns (by simp) (hb hby d2_8) hr
  · show Q_rmEqStr Z a1 a2 h0 n0 _ T2.heap _
    rw [e2]
    exact ⟨rfl, N0, rfl⟩
theorem pn_1 : plainName "com/example/halyard/halyard/core/mal/TypeIdEqualsPinLaw" = true := by first | (simp [plainName, overriddenIn]; done) | decide +kernel
theorem pd_0 : parseMethodDescriptor "(IIII)V" = some ⟨[.int, .int, .int, .int], none⟩ := by decide +kernel
theorem pd_1 : parseMethodDescriptor "([C)V" = some ⟨[(.array .char)], none⟩ := by decide +kernel
theorem pd_2 : parseMethodDescriptor "(Ljava/lang/Object;)Z" = some ⟨[(.object "java/lang/Object")], some .boolean⟩ := by decide +kernel
def Q0 (Z : State)  (h0 : Heap) (n0 : Nat) (v : Option Value) (h : Heap) (L : List Loc) : Prop := v = some (.int 1) ∧ Fr n0 L
theorem ef_rm0_0 (m : MethodId) (x0 : Int32) (x1 : Int32) (x2 : Int32) (x3 : Int32) (x4 : Int32) (x5 : Int32) : entryFrame m #[(.int x0), (.int x1), (.int x2), (.int x3), (.int x4), (.int x5)] maxLocals = mkF m 0 #[.val (.int x0), .val (.int x1), .val (.int x2), .val (.int x3), .val (.int x4), .val (.int x5), .unset, .unset, .unset, .unset, .unset, .unset, .unset, .unset, .unset, .unset, .unset, .unset, .unset, .unset, .unset, .unset] [] := by first | (simp [entryFrame, mkF, argsToLocals, Value.category, maxLocals]; done) | rfl
set_option maxRecDepth 65536 in
set_option maxHeartbeats 40000000 in
theorem rm0_0 (l : Launch) (Z : State) (a0 : Array Value) (hw : ∀ d ∈ tables_1, d.before a0 Z = true) (ws : List Jvm.Cond) (p0 : Int32) (p1 : Int32) (p2 : Int32) (p3 : Int32) (p4 : Int32) (p5 : Int32) (cs : Int32) (x0 : Int32) (x1 : Int32) (x2 : Int32) (x3 : Int32) (y0 : Int32) (y1 : Int32) (y2 : Int32) (y3 : Int32) (kk : Int32) (h0 : Heap) (n0 : Nat) (Z0 : n0 ≤ h0.size) (S_cs : Sta Z h0 "java/lang/String" "COMPACT_STRINGS" "Z" (.int cs)) (P_cs : ¬ cs = 0) (hx0 : (p0 &&& (65535 : Int32)) = x0) (hx1 : (p1 &&& (65535 : Int32)) = x1) (hx2 : (p2 &&& (255 : Int32)) = x2) (hx3 : ((p3 <<< ((8 : Int32) &&& 31)) >>> ((8 : Int32) &&& 31)) = x3) (hy0 : y0 = if (p5 &&& (1 : Int32)) = (0 : Int32) then (p4 &&& (65535 : Int32)) else x0) (hy1 : y1 = if (p5 &&& (2 : Int32)) = (0 : Int32) then ((p4.toUInt32 >>> ((16 : Int32) &&& 31).toUInt32).toInt32) else x1) (hy2 : y2 = if (p5 &&& (4 : Int32)) = (0 : Int32) then (((p4.toUInt32 >>> ((8 : Int32) &&& 31).toUInt32).toInt32) &&& (255 : Int32)) else x2) (hy3 : y3 = if (p5 &&& (8 : Int32)) = (0 : Int32) then ((p4 <<< ((8 : Int32) &&& 31)) >>> ((8 : Int32) &&& 31)) else x3) (hk : (((p5.toUInt32 >>> ((4 : Int32) &&& 31).toUInt32).toInt32) &&& (3 : Int32)) = kk) (rx0 : ¬ (x0 < (0 : Int32)) ∧ ¬ ((65535 : Int32) < x0)) (rx1 : ¬ (x1 < (0 : Int32)) ∧ ¬ ((65535 : Int32) < x1)) (rx2 : ¬ (x2 < (0 : Int32)) ∧ ¬ ((255 : Int32) < x2)) (rx3 : ¬ (x3 < (-8388608 : Int32)) ∧ ¬ ((8388607 : Int32) < x3)) (ry0 : ¬ (y0 < (0 : Int32)) ∧ ¬ ((65535 : Int32) < y0)) (ry1 : ¬ (y1 < (0 : Int32)) ∧ ¬ ((65535 : Int32) < y1)) (ry2 : ¬ (y2 < (0 : Int32)) ∧ ¬ ((255 : Int32) < y2)) (ry3 : ¬ (y3 < (-8388608 : Int32)) ∧ ¬ ((8388607 : Int32) < y3)) (k2 : kk < (2 : Int32)) (d0 : ¬ (x0 = y0)) :
    MetFree l x (head1 (Jvm.Cond.code x code maxLocals ret :: ws) room_1) (fun a U => a = #[(.int p0), (.int p1), (.int p2), (.int p3), (.int p4), (.int p5)] ∧ Z.Warmed39 U.vm ∧ U.heap = h0) (fun _ _ _ _ _ => True) (fun _ U o U' => ∃ v L, o = .returned v ∧ Q0 Z  h0 n0 v U'.heap L ∧ FrameEnd U o U' L 24 128) := by
  refine MetFree.of_bodySF (plainFor_of_name pn_1) hisR ?_
  intro p e s m args below meth c s₁ Bd hml0 hP hK
  obtain ⟨rfl, hZ, hh⟩ := hP
  have hx := Bd.exec
  have hby := Bd.bytes
  have hml : c.maxLocals = 22 := hml0
  have hown : s.vm.findClass "com/example/halyard/halyard/core/mal/TypeIdEqualsPinLaw" = some m.cls := findClass_of_methodNamed Bd.named
  have hnm := (name_of_methodNamed Bd.named Bd.method).1
  have X0 : Stand p l e room_1 s m #[(.int p0), (.int p1), (.int p2), (.int p3), (.int p4), (.int p5)] below meth c s₁ [] 0 0 := Stand.of_body Bd
  have e0 : s₁.heap = h0 := by rw [← hh, Bd.state]; rfl
  have N0 := Fr.nil n0
  refine own_go (own_lift (fun t k => castTop (ef_rm0_0 m p0 p1 p2 p3 p4 p5) k) ?_)
  show own_Go p.tables e below (s₁.setTop (mkF m 0 #[iv p0, iv p1, iv p2, iv p3, iv p4, iv p5, .unset, .unset, .unset, .unset, .unset, .unset, .unset, .unset, .unset, .unset, .unset, .unset, .unset, .unset, .unset, .unset] [])) _
  have sg1 : ∀ t, Steps p.tables e below (s₁.setTop (mkF m 4 #[iv p0, iv p1, iv p2, iv p3, iv p4, iv p5, .unset, .unset, .unset, .unset, .unset, .unset, .unset, .unset, .unset, .unset, .unset, .unset, .unset, .unset, .unset, .unset] [(.int (p0 &&& (65535 : Int32)))])) t → Steps p.tables e below (s₁.setTop (mkF m 0 #[iv p0, iv p1, iv p2, iv p3, iv p4, iv p5, .unset, .unset, .unset, .unset, .unset, .unset, .unset, .unset, .unset, .unset, .unset, .unset, .unset, .unset, .unset, .unset] [])) t := by
    intro t k
    refine XS.iloadN X0.here hx rfl (hb hby at_0) rfl ?_
    show Steps p.tables e below (s₁.setTop (mkF m 1 #[iv p0, iv p1, iv p2, iv p3, iv p4, iv p5, .unset, .unset, .unset, .unset, .unset, .unset, .unset, .unset, .unset, .unset, .unset, .unset, .unset, .unset, .unset, .unset] [(.int p0)])) _
    refine X0.ldcInt hx hown (mvT hZ (wd hw 0 rfl)) (g := (mkF m 1 #[iv p0, iv p1, iv p2, iv p3, iv p4, iv p5, .unset, .unset, .unset, .unset, .unset, .unset, .unset, .unset, .unset, .unset, .unset, .unset, .unset, .unset, .unset, .unset] [(.int p0)])) rfl (hb hby at_1) _ ?_
    refine XS.iand X0.here hx rfl (hb hby at_3) rfl ?_
    show Steps p.tables e below (s₁.setTop (mkF m 4 #[iv p0, iv p1, iv p2, iv p3, iv p4, iv p5, .unset, .unset, .unset, .unset, .unset, .unset, .unset, .unset, .unset, .unset, .unset, .unset, .unset, .unset, .unset, .unset] [(.int (p0 &&& (65535 : Int32)))])) _
    exact k
  refine own_lift sg1 ?_
  show own_Go p.tables e below (s₁.setTop (mkF m 4 #[iv p0, iv p1, iv p2, iv p3, iv p4, iv p5, .unset, .unset, .unset, .unset, .unset, .unset, .unset, .unset, .unset, .unset, .unset, .unset, .unset, .unset, .unset, .unset] [(.int (p0 &&& (65535 : Int32)))])) _
  rw [hx0]
  show own_Go p.tables e below (s₁.setTop (mkF m 4 #[iv p0, iv p1, iv p2, iv p3, iv p4, iv p5, .unset, .unset, .unset, .unset, .unset, .unset, .unset, .unset, .unset, .unset, .unset, .unset, .unset, .unset, .unset, .unset] [(.int x0)])) _
  have sg2 : ∀ t, Steps p.tables e below (s₁.setTop (mkF m 10 #[iv p0, iv p1, iv p2, iv p3, iv p4, iv p5, iv x0, .unset, .unset, .unset, .unset, .unset, .unset, .unset, .unset, .unset, .unset, .unset, .unset, .unset, .unset, .unset] [(.int (p1 &&& (65535 : Int32)))])) t → Steps p.tables e below (s₁.setTop (mkF m 4 #[iv p0, iv p1, iv p2, iv p3, iv p4, iv p5, .unset, .unset, .unset, .unset, .unset, .unset, .unset, .unset, .unset, .unset, .unset, .unset, .unset, .unset, .unset, .unset] [(.int x0)])) t := by
    intro t k
    refine XS.istore X0.here hx rfl (hb hby at_4) rfl (l' := #[iv p0, iv p1, iv p2, iv p3, iv p4, iv p5, iv x0, .unset, .unset, .unset, .unset, .unset, .unset, .unset, .unset, .unset, .unset, .unset, .unset, .unset, .unset, .unset]) rfl ?_
    show Steps p.tables e below (s₁.setTop (mkF m 6 #[iv p0, iv p1, iv p2, iv p3, iv p4, iv p5, iv x0, .unset, .unset, .unset, .unset, .unset, .unset, .unset, .unset, .unset, .unset, .unset, .unset, .unset, .unset, .unset] [])) _
    refine XS.iloadN X0.here hx rfl (hb hby at_6) rfl ?_
    refine X0.ldcInt hx hown (mvT hZ (wd hw 0 rfl)) (g := (mkF m 7 #[iv p0, iv p1, iv p2, iv p3, iv p4, iv p5, iv x0, .unset, .unset, .unset, .unset, .unset, .unset, .unset, .unset, .unset, .unset, .unset, .unset, .unset, .unset, .unset] [(.int p1)])) rfl (hb hby at_7) _ ?_
    show Steps p.tables e below (s₁.setTop (mkF m 9 #[iv p0, iv p1, iv p2, iv p3, iv p4, iv p5, iv x0, .unset, .unset, .unset, .unset, .unset, .unset, .unset, .unset, .unset, .unset, .unset, .unset, .unset, .unset, .unset] [(.int 65535), (.int p1)])) _
    refine XS.iand X0.here hx rfl (hb hby at_9) rfl ?_
    show Steps p.tables e below (s₁.setTop (mkF m 10 #[iv p0, iv p1, iv p2, iv p3, iv p4, iv p5, iv x0, .unset, .unset, .unset, .unset, .unset, .unset, .unset, .unset, .unset, .unset, .unset, .unset, .unset, .unset, .unset] [(.int (p1 &&& (65535 : Int32)))])) _
    exact k
  refine own_lift sg2 ?_
  show own_Go p.tables e below (s₁.setTop (mkF m 10 #[iv p0, iv p1, iv p2, iv p3, iv p4, iv p5, iv x0, .unset, .unset, .unset, .unset, .unset, .unset, .unset, .unset, .unset, .unset, .unset, .unset, .unset, .unset, .unset] [(.int (p1 &&& (65535 : Int32)))])) _
  rw [hx1]
  show own_Go p.tables e below (s₁.setTop (mkF m 10 #[iv p0, iv p1, iv p2, iv p3, iv p4, iv p5, iv x0, .unset, .unset, .unset, .unset, .unset, .unset, .unset, .unset, .unset, .unset, .unset, .unset, .unset, .unset, .unset] [(.int x1)])) _
  have sg3 : ∀ t, Steps p.tables e below (s₁.setTop (mkF m 17 #[iv p0, iv p1, iv p2, iv p3, iv p4, iv p5, iv x0, iv x1, .unset, .unset, .unset, .unset, .unset, .unset, .unset, .unset, .unset, .unset, .unset, .unset, .unset, .unset] [(.int (p2 &&& (255 : Int32)))])) t → Steps p.tables e below (s₁.setTop (mkF m 10 #[iv p0, iv p1, iv p2, iv p3, iv p4, iv p5, iv x0, .unset, .unset, .unset, .unset, .unset, .unset, .unset, .unset, .unset, .unset, .unset, .unset, .unset, .unset, .unset] [(.int x1)])) t := by
    intro t k
    refine XS.istore X0.here hx rfl (hb hby at_10) rfl (l' := #[iv p0, iv p1, iv p2, iv p3, iv p4, iv p5, iv x0, iv x1, .unset, .unset, .unset, .unset, .unset, .unset, .unset, .unset, .unset, .unset, .unset, .unset, .unset, .unset]) rfl ?_
    show Steps p.tables e below (s₁.setTop (mkF m 12 #[iv p0, iv p1, iv p2, iv p3, iv p4, iv p5, iv x0, iv x1, .unset, .unset, .unset, .unset, .unset, .unset, .unset, .unset, .unset, .unset, .unset, .unset, .unset, .unset] [])) _
    refine XS.iloadN X0.here hx rfl (hb hby at_12) rfl ?_
    refine XS.sipush X0.here hx rfl (hb hby at_13) ?_
    show Steps p.tables e below (s₁.setTop (mkF m 16 #[iv p0, iv p1, iv p2, iv p3, iv p4, iv p5, iv x0, iv x1, .unset, .unset, .unset, .unset, .unset, .unset, .unset, .unset, .unset, .unset, .unset, .unset, .unset, .unset] [(.int 255), (.int p2)])) _
    refine XS.iand X0.here hx rfl (hb hby at_16) rfl ?_
    show Steps p.tables e below (s₁.setTop (mkF m 17 #[iv p0, iv p1, iv p2, iv p3, iv p4, iv p5, iv x0, iv x1, .unset, .unset, .unset, .unset, .unset, .unset, .unset, .unset, .unset, .unset, .unset, .unset, .unset, .unset] [(.int (p2 &&& (255 : Int32)))])) _
    exact k
  refine own_lift sg3 ?_
  show own_Go p.tables e below (s₁.setTop (mkF m 17 #[iv p0, iv p1, iv p2, iv p3, iv p4, iv p5, iv x0, iv x1, .unset, .unset, .unset, .unset, .unset, .unset, .unset, .unset, .unset, .unset, .unset, .unset, .unset, .unset] [(.int (p2 &&& (255 : Int32)))])) _
  rw [hx2]
  show own_Go p.tables e below (s₁.setTop (mkF m 17 #[iv p0, iv p1, iv p2, iv p3, iv p4, iv p5, iv x0, iv x1, .unset, .unset, .unset, .unset, .unset, .unset, .unset, .unset, .unset, .unset, .unset, .unset, .unset, .unset] [(.int x2)])) _
  have sg4 : ∀ t, Steps p.tables e below (s₁.setTop (mkF m 26 #[iv p0, iv p1, iv p2, iv p3, iv p4, iv p5, iv x0, iv x1, iv x2, .unset, .unset, .unset, .unset, .unset, .unset, .unset, .unset, .unset, .unset, .unset, .unset, .unset] [(.int ((p3 <<< ((8 : Int32) &&& 31)) >>> ((8 : Int32) &&& 31)))])) t → Steps p.tables e below (s₁.setTop (mkF m 17 #[iv p0, iv p1, iv p2, iv p3, iv p4, iv p5, iv x0, iv x1, .unset, .unset, .unset, .unset, .unset, .unset, .unset, .unset, .unset, .unset, .unset, .unset, .unset, .unset] [(.int x2)])) t := by
    intro t k
    refine XS.istore X0.here hx rfl (hb hby at_17) rfl (l' := #[iv p0, iv p1, iv p2, iv p3, iv p4, iv p5, iv x0, iv x1, iv x2, .unset, .unset, .unset, .unset, .unset, .unset, .unset, .unset, .unset, .unset, .unset, .unset, .unset]) rfl ?_
    show Steps p.tables e below (s₁.setTop (mkF m 19 #[iv p0, iv p1, iv p2, iv p3, iv p4, iv p5, iv x0, iv x1, iv x2, .unset, .unset, .unset, .unset, .unset, .unset, .unset, .unset, .unset, .unset, .unset, .unset, .unset] [])) _
    refine XS.iloadN X0.here hx rfl (hb hby at_19) rfl ?_
    refine XS.bipush X0.here hx rfl (hb hby at_20) ?_
    show Steps p.tables e below (s₁.setTop (mkF m 22 #[iv p0, iv p1, iv p2, iv p3, iv p4, iv p5, iv x0, iv x1, iv x2, .unset, .unset, .unset, .unset, .unset, .unset, .unset, .unset, .unset, .unset, .unset, .unset, .unset] [(.int 8), (.int p3)])) _
    refine XS.ishl X0.here hx rfl (hb hby at_22) rfl ?_
    refine XS.bipush X0.here hx rfl (hb hby at_23) ?_
    show Steps p.tables e below (s₁.setTop (mkF m 25 #[iv p0, iv p1, iv p2, iv p3, iv p4, iv p5, iv x0, iv x1, iv x2, .unset, .unset, .unset, .unset, .unset, .unset, .unset, .unset, .unset, .unset, .unset, .unset, .unset] [(.int 8), (.int (p3 <<< ((8 : Int32) &&& 31)))])) _
    refine XS.ishr X0.here hx rfl (hb hby at_25) rfl ?_
    show Steps p.tables e below (s₁.setTop (mkF m 26 #[iv p0, iv p1, iv p2, iv p3, iv p4, iv p5, iv x0, iv x1, iv x2, .unset, .unset, .unset, .unset, .unset, .unset, .unset, .unset, .unset, .unset, .unset, .unset, .unset] [(.int ((p3 <<< ((8 : Int32) &&& 31)) >>> ((8 : Int32) &&& 31)))])) _
    exact k
  refine own_lift sg4 ?_
  show own_Go p.tables e below (s₁.setTop (mkF m 26 #[iv p0, iv p1, iv p2, iv p3, iv p4, iv p5, iv x0, iv x1, iv x2, .unset, .unset, .unset, .unset, .unset, .unset, .unset, .unset, .unset, .unset, .unset, .unset, .unset] [(.int ((p3 <<< ((8 : Int32) &&& 31)) >>> ((8 : Int32) &&& 31)))])) _
  rw [hx3]
  show own_Go p.tables e below (s₁.setTop (mkF m 26 #[iv p0, iv p1, iv p2, iv p3, iv p4, iv p5, iv x0, iv x1, iv x2, .unset, .unset, .unset, .unset, .unset, .unset, .unset, .unset, .unset, .unset, .unset, .unset, .unset] [(.int x3)])) _
  have sg5 : ∀ t, Steps p.tables e below (s₁.setTop (mkF m 28 #[iv p0, iv p1, iv p2, iv p3, iv p4, iv p5, iv x0, iv x1, iv x2, iv x3, .unset, .unset, .unset, .unset, .unset, .unset, .unset, .unset, .unset, .unset, .unset, .unset] [])) t → Steps p.tables e below (s₁.setTop (mkF m 26 #[iv p0, iv p1, iv p2, iv p3, iv p4, iv p5, iv x0, iv x1, iv x2, .unset, .unset, .unset, .unset, .unset, .unset, .unset, .unset, .unset, .unset, .unset, .unset, .unset] [(.int x3)])) t := by
    intro t k
    refine XS.istore X0.here hx rfl (hb hby at_26) rfl (l' := #[iv p0, iv p1, iv p2, iv p3, iv p4, iv p5, iv x0, iv x1, iv x2, iv x3, .unset, .unset, .unset, .unset, .unset, .unset, .unset, .unset, .unset, .unset, .unset, .unset]) rfl ?_
    show Steps p.tables e below (s₁.setTop (mkF m 28 #[iv p0, iv p1, iv p2, iv p3, iv p4, iv p5, iv x0, iv x1, iv x2, iv x3, .unset, .unset, .unset, .unset, .unset, .unset, .unset, .unset, .unset, .unset, .unset, .unset] [])) _
    exact k
  refine own_lift sg5 ?_
  show own_Go p.tables e below (s₁.setTop (mkF m 28 #[iv p0, iv p1, iv p2, iv p3, iv p4, iv p5, iv x0, iv x1, iv x2, iv x3, .unset, .unset, .unset, .unset, .unset, .unset, .unset, .unset, .unset, .unset, .unset, .unset] [])) _
  have join6 : ∀ (T6 : State) (locs6 : List Loc), Stand p l e room_1 s m #[(.int p0), (.int p1), (.int p2), (.int p3), (.int p4), (.int p5)] below meth c T6 locs6 0 0 → T6.heap = h0 → Fr n0 locs6 → own_Go p.tables e below (T6.setTop (mkF m 45 #[iv p0, iv p1, iv p2, iv p3, iv p4, iv p5, iv x0, iv x1, iv x2, iv x3, .unset, .unset, .unset, .unset, .unset, .unset, .unset, .unset, .unset, .unset, .unset, .unset] [(.int y0)])) (fun s₂ o => s₂.status = .running ∧ Ended s₂ below o ∧ ∃ v L, o = .returned v ∧ Q0 Z  h0 n0 v s₂.heap L ∧ FrameEnd s o s₂ L 24 128) := by
    intro T6 locs6 X6 e6 N6
    have sg7 : ∀ t, Steps p.tables e below (T6.setTop (mkF m 47 #[iv p0, iv p1, iv p2, iv p3, iv p4, iv p5, iv x0, iv x1, iv x2, iv x3, iv y0, .unset, .unset, .unset, .unset, .unset, .unset, .unset, .unset, .unset, .unset, .unset] [])) t → Steps p.tables e below (T6.setTop (mkF m 45 #[iv p0, iv p1, iv p2, iv p3, iv p4, iv p5, iv x0, iv x1, iv x2, iv x3, .unset, .unset, .unset, .unset, .unset, .unset, .unset, .unset, .unset, .unset, .unset, .unset] [(.int y0)])) t := by
      intro t k
      refine XS.istore X6.here hx rfl (hb hby at_45) rfl (l' := #[iv p0, iv p1, iv p2, iv p3, iv p4, iv p5, iv x0, iv x1, iv x2, iv x3, iv y0, .unset, .unset, .unset, .unset, .unset, .unset, .unset, .unset, .unset, .unset, .unset]) rfl ?_
      show Steps p.tables e below (T6.setTop (mkF m 47 #[iv p0, iv p1, iv p2, iv p3, iv p4, iv p5, iv x0, iv x1, iv x2, iv x3, iv y0, .unset, .unset, .unset, .unset, .unset, .unset, .unset, .unset, .unset, .unset, .unset] [])) _
      exact k
    refine own_lift sg7 ?_
    show own_Go p.tables e below (T6.setTop (mkF m 47 #[iv p0, iv p1, iv p2, iv p3, iv p4, iv p5, iv x0, iv x1, iv x2, iv x3, iv y0, .unset, .unset, .unset, .unset, .unset, .unset, .unset, .unset, .unset, .unset, .unset] [])) _
    have join8 : ∀ (T8 : State) (locs8 : List Loc), Stand p l e room_1 s m #[(.int p0), (.int p1), (.int p2), (.int p3), (.int p4), (.int p5)] below meth c T8 locs8 0 0 → T8.heap = h0 → Fr n0 locs8 → own_Go p.tables e below (T8.setTop (mkF m 64 #[iv p0, iv p1, iv p2, iv p3, iv p4, iv p5, iv x0, iv x1, iv x2, iv x3, iv y0, .unset, .unset, .unset, .unset, .unset, .unset, .unset, .unset, .unset, .unset, .unset] [(.int y1)])) (fun s₂ o => s₂.status = .running ∧ Ended s₂ below o ∧ ∃ v L, o = .returned v ∧ Q0 Z  h0 n0 v s₂.heap L ∧ FrameEnd s o s₂ L 24 128) := by
      intro T8 locs8 X8 e8 N8
      have sg9 : ∀ t, Steps p.tables e below (T8.setTop (mkF m 66 #[iv p0, iv p1, iv p2, iv p3, iv p4, iv p5, iv x0, iv x1, iv x2, iv x3, iv y0, iv y1, .unset, .unset, .unset, .unset, .unset, .unset, .unset, .unset, .unset, .unset] [])) t → Steps p.tables e below (T8.setTop (mkF m 64 #[iv p0, iv p1, iv p2, iv p3, iv p4, iv p5, iv x0, iv x1, iv x2, iv x3, iv y0, .unset, .unset, .unset, .unset, .unset, .unset, .unset, .unset, .unset, .unset, .unset] [(.int y1)])) t := by
        intro t k
        refine XS.istore X8.here hx rfl (hb hby at_64) rfl (l' := #[iv p0, iv p1, iv p2, iv p3, iv p4, iv p5, iv x0, iv x1, iv x2, iv x3, iv y0, iv y1, .unset, .unset, .unset, .unset, .unset, .unset, .unset, .unset, .unset, .unset]) rfl ?_
        show Steps p.tables e below (T8.setTop (mkF m 66 #[iv p0, iv p1, iv p2, iv p3, iv p4, iv p5, iv x0, iv x1, iv x2, iv x3, iv y0, iv y1, .unset, .unset, .unset, .unset, .unset, .unset, .unset, .unset, .unset, .unset] [])) _
        exact k
      refine own_lift sg9 ?_
      show own_Go p.tables e below (T8.setTop (mkF m 66 #[iv p0, iv p1, iv p2, iv p3, iv p4, iv p5, iv x0, iv x1, iv x2, iv x3, iv y0, iv y1, .unset, .unset, .unset, .unset, .unset, .unset, .unset, .unset, .unset, .unset] [])) _
      have join10 : ∀ (T10 : State) (locs10 : List Loc), Stand p l e room_1 s m #[(.int p0), (.int p1), (.int p2), (.int p3), (.int p4), (.int p5)] below meth c T10 locs10 0 0 → T10.heap = h0 → Fr n0 locs10 → own_Go p.tables e below (T10.setTop (mkF m 87 #[iv p0, iv p1, iv p2, iv p3, iv p4, iv p5, iv x0, iv x1, iv x2, iv x3, iv y0, iv y1, .unset, .unset, .unset, .unset, .unset, .unset, .unset, .unset, .unset, .unset] [(.int y2)])) (fun s₂ o => s₂.status = .running ∧ Ended s₂ below o ∧ ∃ v L, o = .returned v ∧ Q0 Z  h0 n0 v s₂.heap L ∧ FrameEnd s o s₂ L 24 128) := by
        intro T10 locs10 X10 e10 N10
        have sg11 : ∀ t, Steps p.tables e below (T10.setTop (mkF m 89 #[iv p0, iv p1, iv p2, iv p3, iv p4, iv p5, iv x0, iv x1, iv x2, iv x3, iv y0, iv y1, iv y2, .unset, .unset, .unset, .unset, .unset, .unset, .unset, .unset, .unset] [])) t → Steps p.tables e below (T10.setTop (mkF m 87 #[iv p0, iv p1, iv p2, iv p3, iv p4, iv p5, iv x0, iv x1, iv x2, iv x3, iv y0, iv y1, .unset, .unset, .unset, .unset, .unset, .unset, .unset, .unset, .unset, .unset] [(.int y2)])) t := by
          intro t k
          refine XS.istore X10.here hx rfl (hb hby at_87) rfl (l' := #[iv p0, iv p1, iv p2, iv p3, iv p4, iv p5, iv x0, iv x1, iv x2, iv x3, iv y0, iv y1, iv y2, .unset, .unset, .unset, .unset, .unset, .unset, .unset, .unset, .unset]) rfl ?_
          show Steps p.tables e below (T10.setTop (mkF m 89 #[iv p0, iv p1, iv p2, iv p3, iv p4, iv p5, iv x0, iv x1, iv x2, iv x3, iv y0, iv y1, iv y2, .unset, .unset, .unset, .unset, .unset, .unset, .unset, .unset, .unset] [])) _
          exact k
        refine own_lift sg11 ?_
        show own_Go p.tables e below (T10.setTop (mkF m 89 #[iv p0, iv p1, iv p2, iv p3, iv p4, iv p5, iv x0, iv x1, iv x2, iv x3, iv y0, iv y1, iv y2, .unset, .unset, .unset, .unset, .unset, .unset, .unset, .unset, .unset] [])) _
        have join12 : ∀ (T12 : State) (locs12 : List Loc), Stand p l e room_1 s m #[(.int p0), (.int p1), (.int p2), (.int p3), (.int p4), (.int p5)] below meth c T12 locs12 0 0 → T12.heap = h0 → Fr n0 locs12 → own_Go p.tables e below (T12.setTop (mkF m 110 #[iv p0, iv p1, iv p2, iv p3, iv p4, iv p5, iv x0, iv x1, iv x2, iv x3, iv y0, iv y1, iv y2, .unset, .unset, .unset, .unset, .unset, .unset, .unset, .unset, .unset] [(.int y3)])) (fun s₂ o => s₂.status = .running ∧ Ended s₂ below o ∧ ∃ v L, o = .returned v ∧ Q0 Z  h0 n0 v s₂.heap L ∧ FrameEnd s o s₂ L 24 128) := by
          intro T12 locs12 X12 e12 N12
          have sg13 : ∀ t, Steps p.tables e below (T12.setTop (mkF m 118 #[iv p0, iv p1, iv p2, iv p3, iv p4, iv p5, iv x0, iv x1, iv x2, iv x3, iv y0, iv y1, iv y2, iv y3, .unset, .unset, .unset, .unset, .unset, .unset, .unset, .unset] [(.int (((p5.toUInt32 >>> ((4 : Int32) &&& 31).toUInt32).toInt32) &&& (3 : Int32)))])) t → Steps p.tables e below (T12.setTop (mkF m 110 #[iv p0, iv p1, iv p2, iv p3, iv p4, iv p5, iv x0, iv x1, iv x2, iv x3, iv y0, iv y1, iv y2, .unset, .unset, .unset, .unset, .unset, .unset, .unset, .unset, .unset] [(.int y3)])) t := by
            intro t k
            refine XS.istore X12.here hx rfl (hb hby at_110) rfl (l' := #[iv p0, iv p1, iv p2, iv p3, iv p4, iv p5, iv x0, iv x1, iv x2, iv x3, iv y0, iv y1, iv y2, iv y3, .unset, .unset, .unset, .unset, .unset, .unset, .unset, .unset]) rfl ?_
            show Steps p.tables e below (T12.setTop (mkF m 112 #[iv p0, iv p1, iv p2, iv p3, iv p4, iv p5, iv x0, iv x1, iv x2, iv x3, iv y0, iv y1, iv y2, iv y3, .unset, .unset, .unset, .unset, .unset, .unset, .unset, .unset] [])) _
            refine XS.iload X12.here hx rfl (hb hby at_112) rfl ?_
            refine XS.iconst X12.here hx rfl (hb hby at_114) ?_
            show Steps p.tables e below (T12.setTop (mkF m 115 #[iv p0, iv p1, iv p2, iv p3, iv p4, iv p5, iv x0, iv x1, iv x2, iv x3, iv y0, iv y1, iv y2, iv y3, .unset, .unset, .unset, .unset, .unset, .unset, .unset, .unset] [(.int 4), (.int p5)])) _
            refine XS.iushr X12.here hx rfl (hb hby at_115) rfl ?_
            refine XS.iconst X12.here hx rfl (hb hby at_116) ?_
            show Steps p.tables e below (T12.setTop (mkF m 117 #[iv p0, iv p1, iv p2, iv p3, iv p4, iv p5, iv x0, iv x1, iv x2, iv x3, iv y0, iv y1, iv y2, iv y3, .unset, .unset, .unset, .unset, .unset, .unset, .unset, .unset] [(.int 3), (.int ((p5.toUInt32 >>> ((4 : Int32) &&& 31).toUInt32).toInt32))])) _
            refine XS.iand X12.here hx rfl (hb hby at_117) rfl ?_
            show Steps p.tables e below (T12.setTop (mkF m 118 #[iv p0, iv p1, iv p2, iv p3, iv p4, iv p5, iv x0, iv x1, iv x2, iv x3, iv y0, iv y1, iv y2, iv y3, .unset, .unset, .unset, .unset, .unset, .unset, .unset, .unset] [(.int (((p5.toUInt32 >>> ((4 : Int32) &&& 31).toUInt32).toInt32) &&& (3 : Int32)))])) _
            exact k
          refine own_lift sg13 ?_
          show own_Go p.tables e below (T12.setTop (mkF m 118 #[iv p0, iv p1, iv p2, iv p3, iv p4, iv p5, iv x0, iv x1, iv x2, iv x3, iv y0, iv y1, iv y2, iv y3, .unset, .unset, .unset, .unset, .unset, .unset, .unset, .unset] [(.int (((p5.toUInt32 >>> ((4 : Int32) &&& 31).toUInt32).toInt32) &&& (3 : Int32)))])) _
          rw [hk]
          show own_Go p.tables e below (T12.setTop (mkF m 118 #[iv p0, iv p1, iv p2, iv p3, iv p4, iv p5, iv x0, iv x1, iv x2, iv x3, iv y0, iv y1, iv y2, iv y3, .unset, .unset, .unset, .unset, .unset, .unset, .unset, .unset] [(.int kk)])) _
          have sg14 : ∀ t, Steps p.tables e below (T12.setTop (mkF m 120 #[iv p0, iv p1, iv p2, iv p3, iv p4, iv p5, iv x0, iv x1, iv x2, iv x3, iv y0, iv y1, iv y2, iv y3, iv kk, .unset, .unset, .unset, .unset, .unset, .unset, .unset] [])) t → Steps p.tables e below (T12.setTop (mkF m 118 #[iv p0, iv p1, iv p2, iv p3, iv p4, iv p5, iv x0, iv x1, iv x2, iv x3, iv y0, iv y1, iv y2, iv y3, .unset, .unset, .unset, .unset, .unset, .unset, .unset, .unset] [(.int kk)])) t := by
            intro t k
            refine XS.istore X12.here hx rfl (hb hby at_118) rfl (l' := #[iv p0, iv p1, iv p2, iv p3, iv p4, iv p5, iv x0, iv x1, iv x2, iv x3, iv y0, iv y1, iv y2, iv y3, iv kk, .unset, .unset, .unset, .unset, .unset, .unset, .unset]) rfl ?_
            show Steps p.tables e below (T12.setTop (mkF m 120 #[iv p0, iv p1, iv p2, iv p3, iv p4, iv p5, iv x0, iv x1, iv x2, iv x3, iv y0, iv y1, iv y2, iv y3, iv kk, .unset, .unset, .unset, .unset, .unset, .unset, .unset] [])) _
            exact k
          refine own_lift sg14 ?_
          show own_Go p.tables e below (T12.setTop (mkF m 120 #[iv p0, iv p1, iv p2, iv p3, iv p4, iv p5, iv x0, iv x1, iv x2, iv x3, iv y0, iv y1, iv y2, iv y3, iv kk, .unset, .unset, .unset, .unset, .unset, .unset, .unset] [])) _
          obtain ⟨T15, h15, X15, e15, Ex15, Ax15, Dx15, Ux15, st15⟩ := newO X12 hx hZ hown (wd hw 1 rfl) (wd hw 2 rfl) (wd hw 3 rfl) e12 (g := (mkF m 120 #[iv p0, iv p1, iv p2, iv p3, iv p4, iv p5, iv x0, iv x1, iv x2, iv x3, iv y0, iv y1, iv y2, iv y3, iv kk, .unset, .unset, .unset, .unset, .unset, .unset, .unset] [])) rfl (hb hby at_120) (by decide) (by decide)
          obtain ⟨ob15, g15⟩ : ∃ z, z = h0.size := ⟨_, rfl⟩
          rw [← g15] at Ax15 Dx15 Ux15 st15
          have Z15 : n0 ≤ h15.size := Nat.le_trans Z0 Ex15.1
          have ge15 : n0 ≤ ob15 := Nat.le_trans Z0 (Nat.le_of_eq g15.symm)
          have Fn15_14 : Fld Z h15 ob15 "com/example/halyard/halyard/core/mal/TypeId" "area" "I" (.int 0) := Dx15 (Or.inr (wd hw 14 rfl)) (ty := .int) (by decide)
          have Fn15_16 : Fld Z h15 ob15 "com/example/halyard/halyard/core/mal/TypeId" "service" "I" (.int 0) := Dx15 (Or.inr (wd hw 16 rfl)) (ty := .int) (by decide)
          have Fn15_18 : Fld Z h15 ob15 "com/example/halyard/halyard/core/mal/TypeId" "areaVersion" "I" (.int 0) := Dx15 (Or.inr (wd hw 18 rfl)) (ty := .int) (by decide)
          have Fn15_20 : Fld Z h15 ob15 "com/example/halyard/halyard/core/mal/TypeId" "shortFormPart" "I" (.int 0) := Dx15 (Or.inr (wd hw 20 rfl)) (ty := .int) (by decide)
          refine own_lift st15 ?_
          show own_Go p.tables e below (T15.setTop (mkF m 123 #[iv p0, iv p1, iv p2, iv p3, iv p4, iv p5, iv x0, iv x1, iv x2, iv x3, iv y0, iv y1, iv y2, iv y3, iv kk, .unset, .unset, .unset, .unset, .unset, .unset, .unset] [(.ref ob15)])) _
          have sg16 : ∀ t, Steps p.tables e below (T15.setTop (mkF m 132 #[iv p0, iv p1, iv p2, iv p3, iv p4, iv p5, iv x0, iv x1, iv x2, iv x3, iv y0, iv y1, iv y2, iv y3, iv kk, .unset, .unset, .unset, .unset, .unset, .unset, .unset] [(.int x3), (.int x2), (.int x1), (.int x0), (.ref ob15), (.ref ob15)])) t → Steps p.tables e below (T15.setTop (mkF m 123 #[iv p0, iv p1, iv p2, iv p3, iv p4, iv p5, iv x0, iv x1, iv x2, iv x3, iv y0, iv y1, iv y2, iv y3, iv kk, .unset, .unset, .unset, .unset, .unset, .unset, .unset] [(.ref ob15)])) t := by
            intro t k
            refine XS.dup X15.here hx rfl (hb hby at_123) rfl rfl ?_
            show Steps p.tables e below (T15.setTop (mkF m 124 #[iv p0, iv p1, iv p2, iv p3, iv p4, iv p5, iv x0, iv x1, iv x2, iv x3, iv y0, iv y1, iv y2, iv y3, iv kk, .unset, .unset, .unset, .unset, .unset, .unset, .unset] [(.ref ob15), (.ref ob15)])) _
            refine XS.iload X15.here hx rfl (hb hby at_124) rfl ?_
            refine XS.iload X15.here hx rfl (hb hby at_126) rfl ?_
            show Steps p.tables e below (T15.setTop (mkF m 128 #[iv p0, iv p1, iv p2, iv p3, iv p4, iv p5, iv x0, iv x1, iv x2, iv x3, iv y0, iv y1, iv y2, iv y3, iv kk, .unset, .unset, .unset, .unset, .unset, .unset, .unset] [(.int x1), (.int x0), (.ref ob15), (.ref ob15)])) _
            refine XS.iload X15.here hx rfl (hb hby at_128) rfl ?_
            refine XS.iload X15.here hx rfl (hb hby at_130) rfl ?_
            show Steps p.tables e below (T15.setTop (mkF m 132 #[iv p0, iv p1, iv p2, iv p3, iv p4, iv p5, iv x0, iv x1, iv x2, iv x3, iv y0, iv y1, iv y2, iv y3, iv kk, .unset, .unset, .unset, .unset, .unset, .unset, .unset] [(.int x3), (.int x2), (.int x1), (.int x0), (.ref ob15), (.ref ob15)])) _
            exact k
          refine own_lift sg16 ?_
          show own_Go p.tables e below (T15.setTop (mkF m 132 #[iv p0, iv p1, iv p2, iv p3, iv p4, iv p5, iv x0, iv x1, iv x2, iv x3, iv y0, iv y1, iv y2, iv y3, iv kk, .unset, .unset, .unset, .unset, .unset, .unset, .unset] [(.int x3), (.int x2), (.int x1), (.int x0), (.ref ob15), (.ref ob15)])) _
          obtain ⟨_, _, ⟨T17, Lx17, kx17, nx17⟩, -, X17, ⟨Lc17, hQ17, lx17, yx17, zx17⟩, st17⟩ := X15.specialBack hx (y := (⟨"com/example/halyard/halyard/core/mal/TypeId", "<init>", "(IIII)V"⟩ : MethodName)) rfl hown (mvT hZ (wd hw 4 rfl)) (mvT hZ (wd hw 5 rfl)) (mvT hZ (wd hw 6 rfl)) (by decide) (backOf (W := 1) (rmInit l Z a0 hw [] ob15 x0 x1 x2 x3 h15 n0 Z15 Fn15_14 Fn15_16 Fn15_18 Fn15_20 Ax15 ge15 rx0.1 rx0.2 rx1.1 rx1.2 rx2.1 rx2.2 rx3.1 rx3.2) hZ (wd hw 6 rfl) (wd hw 3 rfl) (by decide) (by decide)) (g := (mkF m 132 #[iv p0, iv p1, iv p2, iv p3, iv p4, iv p5, iv x0, iv x1, iv x2, iv x3, iv y0, iv y1, iv y2, iv y3, iv kk, .unset, .unset, .unset, .unset, .unset, .unset, .unset] [(.int x3), (.int x2), (.int x1), (.int x0), (.ref ob15), (.ref ob15)])) rfl (by rw [hml]; rfl) (Steps.refl _) (a := ob15) (argsL := [(.int x0), (.int x1), (.int x2), (.int x3)]) (rest := [(.ref ob15)]) (lenOf pd_0 rfl) rfl (by show 2 * 0 + _ ≤ _; exact Nat.le_of_eq rfl) (hb hby at_132) (fun _ _ => ⟨rfl, e15, (by decide : 1 + 0 ≤ _), (by decide : 4 + 0 ≤ _)⟩)
          dsimp only [Pt.U, Pt.locs, Pt.cells, Pt.slots] at X17 lx17 yx17 zx17 st17 hQ17
          subst lx17 yx17 zx17
          obtain ⟨rfl, N17q, p17_0, p17_1, p17_2, p17_3, p17_4, p17_5⟩ := hQ17
          have N17 := Fr.app N12 N17q
          have Z17 : n0 ≤ T17.heap.size := Nat.le_trans Z15 p17_0.1
          refine own_lift (fun t k => st17.trans k) ?_
          show own_Go p.tables e below (T17.setTop (mkF m 135 #[iv p0, iv p1, iv p2, iv p3, iv p4, iv p5, iv x0, iv x1, iv x2, iv x3, iv y0, iv y1, iv y2, iv y3, iv kk, .unset, .unset, .unset, .unset, .unset, .unset, .unset] [(.ref ob15)])) _
          have sg18 : ∀ t, Steps p.tables e below (T17.setTop (mkF m 137 #[iv p0, iv p1, iv p2, iv p3, iv p4, iv p5, iv x0, iv x1, iv x2, iv x3, iv y0, iv y1, iv y2, iv y3, iv kk, rv ob15, .unset, .unset, .unset, .unset, .unset, .unset] [])) t → Steps p.tables e below (T17.setTop (mkF m 135 #[iv p0, iv p1, iv p2, iv p3, iv p4, iv p5, iv x0, iv x1, iv x2, iv x3, iv y0, iv y1, iv y2, iv y3, iv kk, .unset, .unset, .unset, .unset, .unset, .unset, .unset] [(.ref ob15)])) t := by
            intro t k
            refine XS.astore X17.here hx rfl (hb hby at_135) rfl rfl (l' := #[iv p0, iv p1, iv p2, iv p3, iv p4, iv p5, iv x0, iv x1, iv x2, iv x3, iv y0, iv y1, iv y2, iv y3, iv kk, rv ob15, .unset, .unset, .unset, .unset, .unset, .unset]) rfl ?_
            show Steps p.tables e below (T17.setTop (mkF m 137 #[iv p0, iv p1, iv p2, iv p3, iv p4, iv p5, iv x0, iv x1, iv x2, iv x3, iv y0, iv y1, iv y2, iv y3, iv kk, rv ob15, .unset, .unset, .unset, .unset, .unset, .unset] [])) _
            exact k
          refine own_lift sg18 ?_
          show own_Go p.tables e below (T17.setTop (mkF m 137 #[iv p0, iv p1, iv p2, iv p3, iv p4, iv p5, iv x0, iv x1, iv x2, iv x3, iv y0, iv y1, iv y2, iv y3, iv kk, rv ob15, .unset, .unset, .unset, .unset, .unset, .unset] [])) _
          obtain ⟨T19, h19, X19, e19, Ex19, Ax19, Dx19, Ux19, st19⟩ := newO X17 hx hZ hown (wd hw 1 rfl) (wd hw 2 rfl) (wd hw 3 rfl) rfl (g := (mkF m 137 #[iv p0, iv p1, iv p2, iv p3, iv p4, iv p5, iv x0, iv x1, iv x2, iv x3, iv y0, iv y1, iv y2, iv y3, iv kk, rv ob15, .unset, .unset, .unset, .unset, .unset, .unset] [])) rfl (hb hby at_137) (by decide) (by decide)
          obtain ⟨ob19, g19⟩ : ∃ z, z = T17.heap.size := ⟨_, rfl⟩
          rw [← g19] at Ax19 Dx19 Ux19 st19
          have ne20 : ob15 ≠ ob19 := Nat.ne_of_lt (Nat.lt_of_lt_of_le p17_1.lt (Nat.le_of_eq g19.symm))
          have Z19 : n0 ≤ h19.size := Nat.le_trans Z17 Ex19.1
          have ge19 : n0 ≤ ob19 := Nat.le_trans Z17 (Nat.le_of_eq g19.symm)
          have Fn19_14 : Fld Z h19 ob19 "com/example/halyard/halyard/core/mal/TypeId" "area" "I" (.int 0) := Dx19 (Or.inr (wd hw 14 rfl)) (ty := .int) (by decide)
          have Fn19_16 : Fld Z h19 ob19 "com/example/halyard/halyard/core/mal/TypeId" "service" "I" (.int 0) := Dx19 (Or.inr (wd hw 16 rfl)) (ty := .int) (by decide)
          have Fn19_18 : Fld Z h19 ob19 "com/example/halyard/halyard/core/mal/TypeId" "areaVersion" "I" (.int 0) := Dx19 (Or.inr (wd hw 18 rfl)) (ty := .int) (by decide)
          have Fn19_20 : Fld Z h19 ob19 "com/example/halyard/halyard/core/mal/TypeId" "shortFormPart" "I" (.int 0) := Dx19 (Or.inr (wd hw 20 rfl)) (ty := .int) (by decide)
          refine own_lift st19 ?_
          show own_Go p.tables e below (T19.setTop (mkF m 140 #[iv p0, iv p1, iv p2, iv p3, iv p4, iv p5, iv x0, iv x1, iv x2, iv x3, iv y0, iv y1, iv y2, iv y3, iv kk, rv ob15, .unset, .unset, .unset, .unset, .unset, .unset] [(.ref ob19)])) _
          have sg21 : ∀ t, Steps p.tables e below (T19.setTop (mkF m 149 #[iv p0, iv p1, iv p2, iv p3, iv p4, iv p5, iv x0, iv x1, iv x2, iv x3, iv y0, iv y1, iv y2, iv y3, iv kk, rv ob15, .unset, .unset, .unset, .unset, .unset, .unset] [(.int y3), (.int y2), (.int y1), (.int y0), (.ref ob19), (.ref ob19)])) t → Steps p.tables e below (T19.setTop (mkF m 140 #[iv p0, iv p1, iv p2, iv p3, iv p4, iv p5, iv x0, iv x1, iv x2, iv x3, iv y0, iv y1, iv y2, iv y3, iv kk, rv ob15, .unset, .unset, .unset, .unset, .unset, .unset] [(.ref ob19)])) t := by
            intro t k
            refine XS.dup X19.here hx rfl (hb hby at_140) rfl rfl ?_
            show Steps p.tables e below (T19.setTop (mkF m 141 #[iv p0, iv p1, iv p2, iv p3, iv p4, iv p5, iv x0, iv x1, iv x2, iv x3, iv y0, iv y1, iv y2, iv y3, iv kk, rv ob15, .unset, .unset, .unset, .unset, .unset, .unset] [(.ref ob19), (.ref ob19)])) _
            refine XS.iload X19.here hx rfl (hb hby at_141) rfl ?_
            refine XS.iload X19.here hx rfl (hb hby at_143) rfl ?_
            show Steps p.tables e below (T19.setTop (mkF m 145 #[iv p0, iv p1, iv p2, iv p3, iv p4, iv p5, iv x0, iv x1, iv x2, iv x3, iv y0, iv y1, iv y2, iv y3, iv kk, rv ob15, .unset, .unset, .unset, .unset, .unset, .unset] [(.int y1), (.int y0), (.ref ob19), (.ref ob19)])) _
            refine XS.iload X19.here hx rfl (hb hby at_145) rfl ?_
            refine XS.iload X19.here hx rfl (hb hby at_147) rfl ?_
            show Steps p.tables e below (T19.setTop (mkF m 149 #[iv p0, iv p1, iv p2, iv p3, iv p4, iv p5, iv x0, iv x1, iv x2, iv x3, iv y0, iv y1, iv y2, iv y3, iv kk, rv ob15, .unset, .unset, .unset, .unset, .unset, .unset] [(.int y3), (.int y2), (.int y1), (.int y0), (.ref ob19), (.ref ob19)])) _
            exact k
          refine own_lift sg21 ?_
          show own_Go p.tables e below (T19.setTop (mkF m 149 #[iv p0, iv p1, iv p2, iv p3, iv p4, iv p5, iv x0, iv x1, iv x2, iv x3, iv y0, iv y1, iv y2, iv y3, iv kk, rv ob15, .unset, .unset, .unset, .unset, .unset, .unset] [(.int y3), (.int y2), (.int y1), (.int y0), (.ref ob19), (.ref ob19)])) _
          obtain ⟨_, _, ⟨T22, Lx22, kx22, nx22⟩, -, X22, ⟨Lc22, hQ22, lx22, yx22, zx22⟩, st22⟩ := X19.specialBack hx (y := (⟨"com/example/halyard/halyard/core/mal/TypeId", "<init>", "(IIII)V"⟩ : MethodName)) rfl hown (mvT hZ (wd hw 4 rfl)) (mvT hZ (wd hw 5 rfl)) (mvT hZ (wd hw 6 rfl)) (by decide) (backOf (W := 1) (rmInit l Z a0 hw [] ob19 y0 y1 y2 y3 h19 n0 Z19 Fn19_14 Fn19_16 Fn19_18 Fn19_20 Ax19 ge19 ry0.1 ry0.2 ry1.1 ry1.2 ry2.1 ry2.2 ry3.1 ry3.2) hZ (wd hw 6 rfl) (wd hw 3 rfl) (by decide) (by decide)) (g := (mkF m 149 #[iv p0, iv p1, iv p2, iv p3, iv p4, iv p5, iv x0, iv x1, iv x2, iv x3, iv y0, iv y1, iv y2, iv y3, iv kk, rv ob15, .unset, .unset, .unset, .unset, .unset, .unset] [(.int y3), (.int y2), (.int y1), (.int y0), (.ref ob19), (.ref ob19)])) rfl (by rw [hml]; rfl) (Steps.refl _) (a := ob19) (argsL := [(.int y0), (.int y1), (.int y2), (.int y3)]) (rest := [(.ref ob19)]) (lenOf pd_0 rfl) rfl (by show 2 * 0 + _ ≤ _; exact Nat.le_of_eq rfl) (hb hby at_149) (fun _ _ => ⟨rfl, e19, (by decide : 2 + 0 ≤ _), (by decide : 8 + 0 ≤ _)⟩)
          dsimp only [Pt.U, Pt.locs, Pt.cells, Pt.slots] at X22 lx22 yx22 zx22 st22 hQ22
          subst lx22 yx22 zx22
          obtain ⟨rfl, N22q, p22_0, p22_1, p22_2, p22_3, p22_4, p22_5⟩ := hQ22
          have N22 := Fr.app N17 N22q
          have Z22 : n0 ≤ T22.heap.size := Nat.le_trans Z19 p22_0.1
          refine own_lift (fun t k => st22.trans k) ?_
          show own_Go p.tables e below (T22.setTop (mkF m 152 #[iv p0, iv p1, iv p2, iv p3, iv p4, iv p5, iv x0, iv x1, iv x2, iv x3, iv y0, iv y1, iv y2, iv y3, iv kk, rv ob15, .unset, .unset, .unset, .unset, .unset, .unset] [(.ref ob19)])) _
          have sg23 : ∀ t, Steps p.tables e below (T22.setTop (mkF m 155 #[iv p0, iv p1, iv p2, iv p3, iv p4, iv p5, iv x0, iv x1, iv x2, iv x3, iv y0, iv y1, iv y2, iv y3, iv kk, rv ob15, rv ob19, .unset, .unset, .unset, .unset, .unset] [(.int 2)])) t → Steps p.tables e below (T22.setTop (mkF m 152 #[iv p0, iv p1, iv p2, iv p3, iv p4, iv p5, iv x0, iv x1, iv x2, iv x3, iv y0, iv y1, iv y2, iv y3, iv kk, rv ob15, .unset, .unset, .unset, .unset, .unset, .unset] [(.ref ob19)])) t := by
            intro t k
            refine XS.astore X22.here hx rfl (hb hby at_152) rfl rfl (l' := #[iv p0, iv p1, iv p2, iv p3, iv p4, iv p5, iv x0, iv x1, iv x2, iv x3, iv y0, iv y1, iv y2, iv y3, iv kk, rv ob15, rv ob19, .unset, .unset, .unset, .unset, .unset]) rfl ?_
            show Steps p.tables e below (T22.setTop (mkF m 154 #[iv p0, iv p1, iv p2, iv p3, iv p4, iv p5, iv x0, iv x1, iv x2, iv x3, iv y0, iv y1, iv y2, iv y3, iv kk, rv ob15, rv ob19, .unset, .unset, .unset, .unset, .unset] [])) _
            refine XS.iconst X22.here hx rfl (hb hby at_154) ?_
            show Steps p.tables e below (T22.setTop (mkF m 155 #[iv p0, iv p1, iv p2, iv p3, iv p4, iv p5, iv x0, iv x1, iv x2, iv x3, iv y0, iv y1, iv y2, iv y3, iv kk, rv ob15, rv ob19, .unset, .unset, .unset, .unset, .unset] [(.int 2)])) _
            exact k
          refine own_lift sg23 ?_
          show own_Go p.tables e below (T22.setTop (mkF m 155 #[iv p0, iv p1, iv p2, iv p3, iv p4, iv p5, iv x0, iv x1, iv x2, iv x3, iv y0, iv y1, iv y2, iv y3, iv kk, rv ob15, rv ob19, .unset, .unset, .unset, .unset, .unset] [(.int 2)])) _
          obtain ⟨T24, h24, ka24, X24, e24, Ex24, Ax24, st24⟩ := newP X22 hx hZ (wd hw 21 rfl) rfl (g := (mkF m 155 #[iv p0, iv p1, iv p2, iv p3, iv p4, iv p5, iv x0, iv x1, iv x2, iv x3, iv y0, iv y1, iv y2, iv y3, iv kk, rv ob15, rv ob19, .unset, .unset, .unset, .unset, .unset] [(.int 2)])) rfl (hb hby at_155) rfl (by decide) (cap := 2) (by decide) (by decide) (by decide) (by decide)
          obtain ⟨ob24, g24⟩ : ∃ z, z = T22.heap.size := ⟨_, rfl⟩
          rw [← g24] at Ax24 st24
          have Fc25 : Exa Z T22.heap ob15 "com/example/halyard/halyard/core/mal/TypeId" := ((p17_1.ext Ex19).keep p22_0)
          have ne26 : ob15 ≠ ob24 := Nat.ne_of_lt (Nat.lt_of_lt_of_le Fc25.lt (Nat.le_of_eq g24.symm))
          have ne27 : ob19 ≠ ob24 := Nat.ne_of_lt (Nat.lt_of_lt_of_le p22_1.lt (Nat.le_of_eq g24.symm))
          have Z24 : n0 ≤ h24.size := Nat.le_trans Z22 Ex24.1
          have ge24 : n0 ≤ ob24 := Nat.le_trans Z22 (Nat.le_of_eq g24.symm)
          have Vn24 : Arv Z h24 ob24 ka24 .char (2 : Int32) [(.int 0), (.int 0)] (.int 0) := (Arv.new Ax24 (by decide)).pad (pad_rep [] (.int 0) 2)
          refine own_lift st24 ?_
          show own_Go p.tables e below (T24.setTop (mkF m 157 #[iv p0, iv p1, iv p2, iv p3, iv p4, iv p5, iv x0, iv x1, iv x2, iv x3, iv y0, iv y1, iv y2, iv y3, iv kk, rv ob15, rv ob19, .unset, .unset, .unset, .unset, .unset] [(.ref ob24)])) _
          have sg28 : ∀ t, Steps p.tables e below (T24.setTop (mkF m 169 #[iv p0, iv p1, iv p2, iv p3, iv p4, iv p5, iv x0, iv x1, iv x2, iv x3, iv y0, iv y1, iv y2, iv y3, iv kk, rv ob15, rv ob19, rv ob24, .unset, .unset, .unset, .unset] [(.int ((p4 &&& (255 : Int32)).toUInt32.toUInt16.toUInt32.toInt32)), (.int 0), (.ref ob24)])) t → Steps p.tables e below (T24.setTop (mkF m 157 #[iv p0, iv p1, iv p2, iv p3, iv p4, iv p5, iv x0, iv x1, iv x2, iv x3, iv y0, iv y1, iv y2, iv y3, iv kk, rv ob15, rv ob19, .unset, .unset, .unset, .unset, .unset] [(.ref ob24)])) t := by
            intro t k
            refine XS.astore X24.here hx rfl (hb hby at_157) rfl rfl (l' := #[iv p0, iv p1, iv p2, iv p3, iv p4, iv p5, iv x0, iv x1, iv x2, iv x3, iv y0, iv y1, iv y2, iv y3, iv kk, rv ob15, rv ob19, rv ob24, .unset, .unset, .unset, .unset]) rfl ?_
            show Steps p.tables e below (T24.setTop (mkF m 159 #[iv p0, iv p1, iv p2, iv p3, iv p4, iv p5, iv x0, iv x1, iv x2, iv x3, iv y0, iv y1, iv y2, iv y3, iv kk, rv ob15, rv ob19, rv ob24, .unset, .unset, .unset, .unset] [])) _
            refine XS.aload X24.here hx rfl (hb hby at_159) rfl rfl ?_
            refine XS.iconst X24.here hx rfl (hb hby at_161) ?_
            show Steps p.tables e below (T24.setTop (mkF m 162 #[iv p0, iv p1, iv p2, iv p3, iv p4, iv p5, iv x0, iv x1, iv x2, iv x3, iv y0, iv y1, iv y2, iv y3, iv kk, rv ob15, rv ob19, rv ob24, .unset, .unset, .unset, .unset] [(.int 0), (.ref ob24)])) _
            refine XS.iload X24.here hx rfl (hb hby at_162) rfl ?_
            refine XS.sipush X24.here hx rfl (hb hby at_164) ?_
            show Steps p.tables e below (T24.setTop (mkF m 167 #[iv p0, iv p1, iv p2, iv p3, iv p4, iv p5, iv x0, iv x1, iv x2, iv x3, iv y0, iv y1, iv y2, iv y3, iv kk, rv ob15, rv ob19, rv ob24, .unset, .unset, .unset, .unset] [(.int 255), (.int p4), (.int 0), (.ref ob24)])) _
            refine XS.iand X24.here hx rfl (hb hby at_167) rfl ?_
            refine XS.i2c X24.here hx rfl (hb hby at_168) rfl ?_
            show Steps p.tables e below (T24.setTop (mkF m 169 #[iv p0, iv p1, iv p2, iv p3, iv p4, iv p5, iv x0, iv x1, iv x2, iv x3, iv y0, iv y1, iv y2, iv y3, iv kk, rv ob15, rv ob19, rv ob24, .unset, .unset, .unset, .unset] [(.int ((p4 &&& (255 : Int32)).toUInt32.toUInt16.toUInt32.toInt32)), (.int 0), (.ref ob24)])) _
            exact k
          refine own_lift sg28 ?_
          show own_Go p.tables e below (T24.setTop (mkF m 169 #[iv p0, iv p1, iv p2, iv p3, iv p4, iv p5, iv x0, iv x1, iv x2, iv x3, iv y0, iv y1, iv y2, iv y3, iv kk, rv ob15, rv ob19, rv ob24, .unset, .unset, .unset, .unset] [(.int ((p4 &&& (255 : Int32)).toUInt32.toUInt16.toUInt32.toInt32)), (.int 0), (.ref ob24)])) _
          obtain ⟨cl29, Ar29, qx29, Sx29, N29', H29', G29'⟩ := id (Vn24)
          have hin29 : ¬ ((0 : Int32) < 0 ∨ cl29.slots.size ≤ ((0 : Int32)).toNatClampNeg) := inb_of Sx29 ⟨(by decide : ¬ ((0 : Int32) < (0 : Int32))), (by decide : (0 : Int32) < (2 : Int32))⟩
          obtain ⟨T30, h30, X30, e30, W30, st30⟩ := stC X24 hx hZ e24 Ar29 (j := (0 : Int32)) hin29 (g := (mkF m 169 #[iv p0, iv p1, iv p2, iv p3, iv p4, iv p5, iv x0, iv x1, iv x2, iv x3, iv y0, iv y1, iv y2, iv y3, iv kk, rv ob15, rv ob19, rv ob24, .unset, .unset, .unset, .unset] [(.int ((p4 &&& (255 : Int32)).toUInt32.toUInt16.toUInt32.toInt32)), (.int 0), (.ref ob24)])) rfl rfl (hb hby at_169)
          have N30 := Fr.snoc X30 N22 ge24
          have Z30 : n0 ≤ h30.size := Nat.le_trans Z24 (Nat.le_of_eq W30.size.symm)
          have Vn30 : Arv Z h30 ob24 ka24 .char (2 : Int32) [(.int (nar .char ((p4 &&& (255 : Int32)).toUInt32.toUInt16.toUInt32.toInt32))), (.int 0)] (.int 0) := Arv.set Ar29 qx29 Sx29 N29' H29' G29' (fits_nar_char _) W30 0 rfl (Nat.le_of_ble_eq_true rfl)
          refine own_lift st30 ?_
          show own_Go p.tables e below (T30.setTop (mkF m 170 #[iv p0, iv p1, iv p2, iv p3, iv p4, iv p5, iv x0, iv x1, iv x2, iv x3, iv y0, iv y1, iv y2, iv y3, iv kk, rv ob15, rv ob19, rv ob24, .unset, .unset, .unset, .unset] [])) _
          have sg31 : ∀ t, Steps p.tables e below (T30.setTop (mkF m 183 #[iv p0, iv p1, iv p2, iv p3, iv p4, iv p5, iv x0, iv x1, iv x2, iv x3, iv y0, iv y1, iv y2, iv y3, iv kk, rv ob15, rv ob19, rv ob24, .unset, .unset, .unset, .unset] [(.int ((((p4.toUInt32 >>> ((8 : Int32) &&& 31).toUInt32).toInt32) &&& (255 : Int32)).toUInt32.toUInt16.toUInt32.toInt32)), (.int 1), (.ref ob24)])) t → Steps p.tables e below (T30.setTop (mkF m 170 #[iv p0, iv p1, iv p2, iv p3, iv p4, iv p5, iv x0, iv x1, iv x2, iv x3, iv y0, iv y1, iv y2, iv y3, iv kk, rv ob15, rv ob19, rv ob24, .unset, .unset, .unset, .unset] [])) t := by
            intro t k
            refine XS.aload X30.here hx rfl (hb hby at_170) rfl rfl ?_
            show Steps p.tables e below (T30.setTop (mkF m 172 #[iv p0, iv p1, iv p2, iv p3, iv p4, iv p5, iv x0, iv x1, iv x2, iv x3, iv y0, iv y1, iv y2, iv y3, iv kk, rv ob15, rv ob19, rv ob24, .unset, .unset, .unset, .unset] [(.ref ob24)])) _
            refine XS.iconst X30.here hx rfl (hb hby at_172) ?_
            refine XS.iload X30.here hx rfl (hb hby at_173) rfl ?_
            show Steps p.tables e below (T30.setTop (mkF m 175 #[iv p0, iv p1, iv p2, iv p3, iv p4, iv p5, iv x0, iv x1, iv x2, iv x3, iv y0, iv y1, iv y2, iv y3, iv kk, rv ob15, rv ob19, rv ob24, .unset, .unset, .unset, .unset] [(.int p4), (.int 1), (.ref ob24)])) _
            refine XS.bipush X30.here hx rfl (hb hby at_175) ?_
            refine XS.iushr X30.here hx rfl (hb hby at_177) rfl ?_
            show Steps p.tables e below (T30.setTop (mkF m 178 #[iv p0, iv p1, iv p2, iv p3, iv p4, iv p5, iv x0, iv x1, iv x2, iv x3, iv y0, iv y1, iv y2, iv y3, iv kk, rv ob15, rv ob19, rv ob24, .unset, .unset, .unset, .unset] [(.int ((p4.toUInt32 >>> ((8 : Int32) &&& 31).toUInt32).toInt32)), (.int 1), (.ref ob24)])) _
            refine XS.sipush X30.here hx rfl (hb hby at_178) ?_
            refine XS.iand X30.here hx rfl (hb hby at_181) rfl ?_
            show Steps p.tables e below (T30.setTop (mkF m 182 #[iv p0, iv p1, iv p2, iv p3, iv p4, iv p5, iv x0, iv x1, iv x2, iv x3, iv y0, iv y1, iv y2, iv y3, iv kk, rv ob15, rv ob19, rv ob24, .unset, .unset, .unset, .unset] [(.int (((p4.toUInt32 >>> ((8 : Int32) &&& 31).toUInt32).toInt32) &&& (255 : Int32))), (.int 1), (.ref ob24)])) _
            refine XS.i2c X30.here hx rfl (hb hby at_182) rfl ?_
            show Steps p.tables e below (T30.setTop (mkF m 183 #[iv p0, iv p1, iv p2, iv p3, iv p4, iv p5, iv x0, iv x1, iv x2, iv x3, iv y0, iv y1, iv y2, iv y3, iv kk, rv ob15, rv ob19, rv ob24, .unset, .unset, .unset, .unset] [(.int ((((p4.toUInt32 >>> ((8 : Int32) &&& 31).toUInt32).toInt32) &&& (255 : Int32)).toUInt32.toUInt16.toUInt32.toInt32)), (.int 1), (.ref ob24)])) _
            exact k
          refine own_lift sg31 ?_
          show own_Go p.tables e below (T30.setTop (mkF m 183 #[iv p0, iv p1, iv p2, iv p3, iv p4, iv p5, iv x0, iv x1, iv x2, iv x3, iv y0, iv y1, iv y2, iv y3, iv kk, rv ob15, rv ob19, rv ob24, .unset, .unset, .unset, .unset] [(.int ((((p4.toUInt32 >>> ((8 : Int32) &&& 31).toUInt32).toInt32) &&& (255 : Int32)).toUInt32.toUInt16.toUInt32.toInt32)), (.int 1), (.ref ob24)])) _
          obtain ⟨cl32, Ar32, qx32, Sx32, N32', H32', G32'⟩ := id (Vn30)
          have hin32 : ¬ ((1 : Int32) < 0 ∨ cl32.slots.size ≤ ((1 : Int32)).toNatClampNeg) := inb_of Sx32 ⟨(by decide : ¬ ((1 : Int32) < (0 : Int32))), (by decide : (1 : Int32) < (2 : Int32))⟩
          obtain ⟨T33, h33, X33, e33, W33, st33⟩ := stC X30 hx hZ e30 Ar32 (j := (1 : Int32)) hin32 (g := (mkF m 183 #[iv p0, iv p1, iv p2, iv p3, iv p4, iv p5, iv x0, iv x1, iv x2, iv x3, iv y0, iv y1, iv y2, iv y3, iv kk, rv ob15, rv ob19, rv ob24, .unset, .unset, .unset, .unset] [(.int ((((p4.toUInt32 >>> ((8 : Int32) &&& 31).toUInt32).toInt32) &&& (255 : Int32)).toUInt32.toUInt16.toUInt32.toInt32)), (.int 1), (.ref ob24)])) rfl rfl (hb hby at_183)
          have N33 := Fr.snoc X33 N30 ge24
          have Z33 : n0 ≤ h33.size := Nat.le_trans Z30 (Nat.le_of_eq W33.size.symm)
          have Vn33 : Arv Z h33 ob24 ka24 .char (2 : Int32) [(.int (nar .char ((p4 &&& (255 : Int32)).toUInt32.toUInt16.toUInt32.toInt32))), (.int (nar .char ((((p4.toUInt32 >>> ((8 : Int32) &&& 31).toUInt32).toInt32) &&& (255 : Int32)).toUInt32.toUInt16.toUInt32.toInt32)))] (.int 0) := Arv.set Ar32 qx32 Sx32 N32' H32' G32' (fits_nar_char _) W33 1 rfl (Nat.le_of_ble_eq_true rfl)
          refine own_lift st33 ?_
          show own_Go p.tables e below (T33.setTop (mkF m 184 #[iv p0, iv p1, iv p2, iv p3, iv p4, iv p5, iv x0, iv x1, iv x2, iv x3, iv y0, iv y1, iv y2, iv y3, iv kk, rv ob15, rv ob19, rv ob24, .unset, .unset, .unset, .unset] [])) _
          obtain ⟨T34, h34, X34, e34, Ex34, Ax34, Dx34, Ux34, st34⟩ := newO X33 hx hZ hown (wd hw 22 rfl) (wd hw 23 rfl) (wd hw 24 rfl) e33 (g := (mkF m 184 #[iv p0, iv p1, iv p2, iv p3, iv p4, iv p5, iv x0, iv x1, iv x2, iv x3, iv y0, iv y1, iv y2, iv y3, iv kk, rv ob15, rv ob19, rv ob24, .unset, .unset, .unset, .unset] [])) rfl (hb hby at_184) (by decide) (by decide)
          obtain ⟨ob34, g34⟩ : ∃ z, z = h33.size := ⟨_, rfl⟩
          rw [← g34] at Ax34 Dx34 Ux34 st34
          have Fc35 : Exa Z h33 ob15 "com/example/halyard/halyard/core/mal/TypeId" := (((Fc25.ext Ex24).wr W30).wr W33)
          have ne36 : ob15 ≠ ob34 := Nat.ne_of_lt (Nat.lt_of_lt_of_le Fc35.lt (Nat.le_of_eq g34.symm))
          have Fc37 : Exa Z h33 ob19 "com/example/halyard/halyard/core/mal/TypeId" := (((p22_1.ext Ex24).wr W30).wr W33)
          have ne38 : ob19 ≠ ob34 := Nat.ne_of_lt (Nat.lt_of_lt_of_le Fc37.lt (Nat.le_of_eq g34.symm))
          have ne39 : ob24 ≠ ob34 := Nat.ne_of_lt (Nat.lt_of_lt_of_le Vn33.lt (Nat.le_of_eq g34.symm))
          have Z34 : n0 ≤ h34.size := Nat.le_trans Z33 Ex34.1
          have ge34 : n0 ≤ ob34 := Nat.le_trans Z33 (Nat.le_of_eq g34.symm)
          have Fn34_46 : Fld Z h34 ob34 "java/lang/String" "coder" "B" (.int 0) := Dx34 (Or.inr (wd hw 46 rfl)) (ty := .byte) (by decide)
          have Fn34_48 : Fld Z h34 ob34 "java/lang/String" "value" "[B" .null := Dx34 (Or.inr (wd hw 48 rfl)) (ty := (.array .byte)) (by decide)
          refine own_lift st34 ?_
          show own_Go p.tables e below (T34.setTop (mkF m 187 #[iv p0, iv p1, iv p2, iv p3, iv p4, iv p5, iv x0, iv x1, iv x2, iv x3, iv y0, iv y1, iv y2, iv y3, iv kk, rv ob15, rv ob19, rv ob24, .unset, .unset, .unset, .unset] [(.ref ob34)])) _
          have sg40 : ∀ t, Steps p.tables e below (T34.setTop (mkF m 190 #[iv p0, iv p1, iv p2, iv p3, iv p4, iv p5, iv x0, iv x1, iv x2, iv x3, iv y0, iv y1, iv y2, iv y3, iv kk, rv ob15, rv ob19, rv ob24, .unset, .unset, .unset, .unset] [(.ref ob24), (.ref ob34), (.ref ob34)])) t → Steps p.tables e below (T34.setTop (mkF m 187 #[iv p0, iv p1, iv p2, iv p3, iv p4, iv p5, iv x0, iv x1, iv x2, iv x3, iv y0, iv y1, iv y2, iv y3, iv kk, rv ob15, rv ob19, rv ob24, .unset, .unset, .unset, .unset] [(.ref ob34)])) t := by
            intro t k
            refine XS.dup X34.here hx rfl (hb hby at_187) rfl rfl ?_
            show Steps p.tables e below (T34.setTop (mkF m 188 #[iv p0, iv p1, iv p2, iv p3, iv p4, iv p5, iv x0, iv x1, iv x2, iv x3, iv y0, iv y1, iv y2, iv y3, iv kk, rv ob15, rv ob19, rv ob24, .unset, .unset, .unset, .unset] [(.ref ob34), (.ref ob34)])) _
            refine XS.aload X34.here hx rfl (hb hby at_188) rfl rfl ?_
            show Steps p.tables e below (T34.setTop (mkF m 190 #[iv p0, iv p1, iv p2, iv p3, iv p4, iv p5, iv x0, iv x1, iv x2, iv x3, iv y0, iv y1, iv y2, iv y3, iv kk, rv ob15, rv ob19, rv ob24, .unset, .unset, .unset, .unset] [(.ref ob24), (.ref ob34), (.ref ob34)])) _
            exact k
          refine own_lift sg40 ?_
          show own_Go p.tables e below (T34.setTop (mkF m 190 #[iv p0, iv p1, iv p2, iv p3, iv p4, iv p5, iv x0, iv x1, iv x2, iv x3, iv y0, iv y1, iv y2, iv y3, iv kk, rv ob15, rv ob19, rv ob24, .unset, .unset, .unset, .unset] [(.ref ob24), (.ref ob34), (.ref ob34)])) _
          have Fc41 : Arv Z h34 ob24 ka24 .char (2 : Int32) [(.int (nar .char ((p4 &&& (255 : Int32)).toUInt32.toUInt16.toUInt32.toInt32))), (.int (nar .char ((((p4.toUInt32 >>> ((8 : Int32) &&& 31).toUInt32).toInt32) &&& (255 : Int32)).toUInt32.toUInt16.toUInt32.toInt32)))] (.int 0) := (Vn33.ext Ex34)
          have Fc42 : Sta Z h34 "java/lang/String" "COMPACT_STRINGS" "Z" (.int cs) := (((((own_Sta_keep ((own_Sta_keep (S_cs.ext Ex15) p17_0 (allS (own_plain Ax15) all0)).ext Ex19) p22_0 (allS (own_plain Ax19) all0)).ext Ex24).wr W30).wr W33).ext Ex34)
          have hws43 : ∀ d ∈ StrChars.Road.words, d.before a0 Z = true := fun d hd => hw d (own_words d hd)
          have hlat43 : ∀ c ∈ [(nar .char ((p4 &&& (255 : Int32)).toUInt32.toUInt16.toUInt32.toInt32)), (nar .char ((((p4.toUInt32 >>> ((8 : Int32) &&& 31).toUInt32).toInt32) &&& (255 : Int32)).toUInt32.toUInt16.toUInt32.toInt32))], ¬ c < 0 ∧ ¬ (255 : Int32) < c := own_lat p4
          obtain ⟨_, _, ⟨T43, Lx43, kx43, nx43⟩, -, X43, ⟨Lc43, hQ43, lx43, yx43, zx43⟩, st43⟩ := X34.specialBack hx (y := (⟨"java/lang/String", "<init>", "([C)V"⟩ : MethodName)) rfl hown (mvT hZ (wd hw 25 rfl)) (mvT hZ (wd hw 26 rfl)) (mvT hZ (wd hw 27 rfl)) (by decide) (StrChars.Road.backV (W := 1) hZ hws43 (kI := 4) (wd hw 23 rfl) (cs := [(nar .char ((p4 &&& (255 : Int32)).toUInt32.toUInt16.toUInt32.toInt32)), (nar .char ((((p4.toUInt32 >>> ((8 : Int32) &&& 31).toUInt32).toInt32) &&& (255 : Int32)).toUInt32.toUInt16.toUInt32.toInt32))]) (bs := [((nar .char ((p4 &&& (255 : Int32)).toUInt32.toUInt16.toUInt32.toInt32))).toInt8.toInt32, ((nar .char ((((p4.toUInt32 >>> ((8 : Int32) &&& 31).toUInt32).toInt32) &&& (255 : Int32)).toUInt32.toUInt16.toUInt32.toInt32))).toInt8.toInt32]) (n := 2) ge34 Z34 Ax34 Fn34_48 Fn34_46 Fc41 Fc42 P_cs rfl rfl (by decide) (by decide) hlat43 rfl (by decide) (by decide)) (g := (mkF m 190 #[iv p0, iv p1, iv p2, iv p3, iv p4, iv p5, iv x0, iv x1, iv x2, iv x3, iv y0, iv y1, iv y2, iv y3, iv kk, rv ob15, rv ob19, rv ob24, .unset, .unset, .unset, .unset] [(.ref ob24), (.ref ob34), (.ref ob34)])) rfl (by rw [hml]; rfl) (Steps.refl _) (a := ob34) (argsL := [(.ref ob24)]) (rest := [(.ref ob34)]) (lenOf pd_1 rfl) rfl (by show 2 * 0 + _ ≤ _; exact Nat.le_of_eq rfl) (hb hby at_190) (fun _ _ => ⟨rfl, e34, (by decide : 4 + 1 ≤ _), (by decide : 14 + 2 ≤ _)⟩)
          dsimp only [Pt.U, Pt.locs, Pt.cells, Pt.slots] at X43 lx43 yx43 zx43 st43 hQ43
          subst lx43 yx43 zx43
          obtain ⟨rfl, N43q, Kq43, Eq43, Cq43, tb43, kb43, gt43, gh43, nt43, Vq43, Aq43⟩ := hQ43
          have N43 := Fr.app N33 N43q
          have Fc44 : Exa Z h34 ob15 "com/example/halyard/halyard/core/mal/TypeId" := (Fc35.ext Ex34)
          have ne45 : ob15 ≠ tb43 := Nat.ne_of_lt (Nat.lt_of_lt_of_le Fc44.lt gh43)
          have Fc46 : Exa Z h34 ob19 "com/example/halyard/halyard/core/mal/TypeId" := (Fc37.ext Ex34)
          have ne47 : ob19 ≠ tb43 := Nat.ne_of_lt (Nat.lt_of_lt_of_le Fc46.lt gh43)
          have ne48 : ob24 ≠ tb43 := Nat.ne_of_lt (Nat.lt_of_lt_of_le Fc41.lt gh43)
          have ne49 : ob34 ≠ tb43 := Nat.ne_of_lt (Nat.lt_of_lt_of_le Ax34.lt gh43)
          have Z43 : n0 ≤ T43.heap.size := Nat.le_trans Z34 Kq43.1
          refine own_lift (fun t k => st43.trans k) ?_
          show own_Go p.tables e below (T43.setTop (mkF m 193 #[iv p0, iv p1, iv p2, iv p3, iv p4, iv p5, iv x0, iv x1, iv x2, iv x3, iv y0, iv y1, iv y2, iv y3, iv kk, rv ob15, rv ob19, rv ob24, .unset, .unset, .unset, .unset] [(.ref ob34)])) _
          have sg50 : ∀ t, Steps p.tables e below (T43.setTop (mkF m 269 #[iv p0, iv p1, iv p2, iv p3, iv p4, iv p5, iv x0, iv x1, iv x2, iv x3, iv y0, iv y1, iv y2, iv y3, iv kk, rv ob15, rv ob19, rv ob24, rv ob34, rv ob19, iv 0, .unset] [(.ref ob19), (.ref ob15)])) t → Steps p.tables e below (T43.setTop (mkF m 193 #[iv p0, iv p1, iv p2, iv p3, iv p4, iv p5, iv x0, iv x1, iv x2, iv x3, iv y0, iv y1, iv y2, iv y3, iv kk, rv ob15, rv ob19, rv ob24, .unset, .unset, .unset, .unset] [(.ref ob34)])) t := by
            intro t k
            refine XS.astore X43.here hx rfl (hb hby at_193) rfl rfl (l' := #[iv p0, iv p1, iv p2, iv p3, iv p4, iv p5, iv x0, iv x1, iv x2, iv x3, iv y0, iv y1, iv y2, iv y3, iv kk, rv ob15, rv ob19, rv ob24, rv ob34, .unset, .unset, .unset]) rfl ?_
            show Steps p.tables e below (T43.setTop (mkF m 195 #[iv p0, iv p1, iv p2, iv p3, iv p4, iv p5, iv x0, iv x1, iv x2, iv x3, iv y0, iv y1, iv y2, iv y3, iv kk, rv ob15, rv ob19, rv ob24, rv ob34, .unset, .unset, .unset] [])) _
            refine XS.iload X43.here hx rfl (hb hby at_195) rfl ?_
            refine XS.iconst X43.here hx rfl (hb hby at_197) ?_
            show Steps p.tables e below (T43.setTop (mkF m 198 #[iv p0, iv p1, iv p2, iv p3, iv p4, iv p5, iv x0, iv x1, iv x2, iv x3, iv y0, iv y1, iv y2, iv y3, iv kk, rv ob15, rv ob19, rv ob24, rv ob34, .unset, .unset, .unset] [(.int 2), (.int kk)])) _
            refine XS.icmpNo X43.here hx rfl (hb hby at_198) rfl (tlt k2).2.1 ?_
            refine XS.aload X43.here hx rfl (hb hby at_201) rfl rfl ?_
            show Steps p.tables e below (T43.setTop (mkF m 203 #[iv p0, iv p1, iv p2, iv p3, iv p4, iv p5, iv x0, iv x1, iv x2, iv x3, iv y0, iv y1, iv y2, iv y3, iv kk, rv ob15, rv ob19, rv ob24, rv ob34, .unset, .unset, .unset] [(.ref ob19)])) _
            refine XS.astore X43.here hx rfl (hb hby at_203) rfl rfl (l' := #[iv p0, iv p1, iv p2, iv p3, iv p4, iv p5, iv x0, iv x1, iv x2, iv x3, iv y0, iv y1, iv y2, iv y3, iv kk, rv ob15, rv ob19, rv ob24, rv ob34, rv ob19, .unset, .unset]) rfl ?_
            refine XS.goto X43.here hx rfl (pc0 := 205) (pc' := 224) rfl (hb hby at_205) (by decide) (by decide) ?_
            show Steps p.tables e below (T43.setTop (mkF m 224 #[iv p0, iv p1, iv p2, iv p3, iv p4, iv p5, iv x0, iv x1, iv x2, iv x3, iv y0, iv y1, iv y2, iv y3, iv kk, rv ob15, rv ob19, rv ob24, rv ob34, rv ob19, .unset, .unset] [])) _
            refine XS.iload X43.here hx rfl (hb hby at_224) rfl ?_
            refine XS.iconst X43.here hx rfl (hb hby at_226) ?_
            show Steps p.tables e below (T43.setTop (mkF m 227 #[iv p0, iv p1, iv p2, iv p3, iv p4, iv p5, iv x0, iv x1, iv x2, iv x3, iv y0, iv y1, iv y2, iv y3, iv kk, rv ob15, rv ob19, rv ob24, rv ob34, rv ob19, .unset, .unset] [(.int 2), (.int kk)])) _
            refine XS.icmpNo X43.here hx rfl (hb hby at_227) rfl (tlt k2).2.1 ?_
            refine XS.iload X43.here hx rfl (hb hby at_230) rfl ?_
            show Steps p.tables e below (T43.setTop (mkF m 232 #[iv p0, iv p1, iv p2, iv p3, iv p4, iv p5, iv x0, iv x1, iv x2, iv x3, iv y0, iv y1, iv y2, iv y3, iv kk, rv ob15, rv ob19, rv ob24, rv ob34, rv ob19, .unset, .unset] [(.int x0)])) _
            refine XS.iload X43.here hx rfl (hb hby at_232) rfl ?_
            refine XS.icmpYes X43.here hx rfl (pc0 := 234) (pc' := 262) rfl (hb hby at_234) rfl (feq d0).2 (by decide) (by decide) ?_
            show Steps p.tables e below (T43.setTop (mkF m 262 #[iv p0, iv p1, iv p2, iv p3, iv p4, iv p5, iv x0, iv x1, iv x2, iv x3, iv y0, iv y1, iv y2, iv y3, iv kk, rv ob15, rv ob19, rv ob24, rv ob34, rv ob19, .unset, .unset] [])) _
            refine XS.iconst X43.here hx rfl (hb hby at_262) ?_
            refine XS.istore X43.here hx rfl (hb hby at_263) rfl (l' := #[iv p0, iv p1, iv p2, iv p3, iv p4, iv p5, iv x0, iv x1, iv x2, iv x3, iv y0, iv y1, iv y2, iv y3, iv kk, rv ob15, rv ob19, rv ob24, rv ob34, rv ob19, iv 0, .unset]) rfl ?_
            show Steps p.tables e below (T43.setTop (mkF m 265 #[iv p0, iv p1, iv p2, iv p3, iv p4, iv p5, iv x0, iv x1, iv x2, iv x3, iv y0, iv y1, iv y2, iv y3, iv kk, rv ob15, rv ob19, rv ob24, rv ob34, rv ob19, iv 0, .unset] [])) _
            refine XS.aload X43.here hx rfl (hb hby at_265) rfl rfl ?_
            refine XS.aload X43.here hx rfl (hb hby at_267) rfl rfl ?_
            show Steps p.tables e below (T43.setTop (mkF m 269 #[iv p0, iv p1, iv p2, iv p3, iv p4, iv p5, iv x0, iv x1, iv x2, iv x3, iv y0, iv y1, iv y2, iv y3, iv kk, rv ob15, rv ob19, rv ob24, rv ob34, rv ob19, iv 0, .unset] [(.ref ob19), (.ref ob15)])) _
            exact k
          refine own_lift sg50 ?_
          show own_Go p.tables e below (T43.setTop (mkF m 269 #[iv p0, iv p1, iv p2, iv p3, iv p4, iv p5, iv x0, iv x1, iv x2, iv x3, iv y0, iv y1, iv y2, iv y3, iv kk, rv ob15, rv ob19, rv ob24, rv ob34, rv ob19, iv 0, .unset] [(.ref ob19), (.ref ob15)])) _
          have Fc51 : Fld Z T43.heap ob15 "com/example/halyard/halyard/core/mal/TypeId" "area" "I" (.int x0) := (((((((p17_2.ext Ex19).keep p22_0 (ninS ne20 nin0)).ext Ex24).other W30 (Or.inl ne26)).other W33 (Or.inl ne26)).ext Ex34).keep Kq43 (ninS ne36 nin0))
          have Fc52 : Fld Z T43.heap ob15 "com/example/halyard/halyard/core/mal/TypeId" "service" "I" (.int x1) := (((((((p17_3.ext Ex19).keep p22_0 (ninS ne20 nin0)).ext Ex24).other W30 (Or.inl ne26)).other W33 (Or.inl ne26)).ext Ex34).keep Kq43 (ninS ne36 nin0))
          have Fc53 : Fld Z T43.heap ob15 "com/example/halyard/halyard/core/mal/TypeId" "areaVersion" "I" (.int x2) := (((((((p17_4.ext Ex19).keep p22_0 (ninS ne20 nin0)).ext Ex24).other W30 (Or.inl ne26)).other W33 (Or.inl ne26)).ext Ex34).keep Kq43 (ninS ne36 nin0))
          have Fc54 : Fld Z T43.heap ob15 "com/example/halyard/halyard/core/mal/TypeId" "shortFormPart" "I" (.int x3) := (((((((p17_5.ext Ex19).keep p22_0 (ninS ne20 nin0)).ext Ex24).other W30 (Or.inl ne26)).other W33 (Or.inl ne26)).ext Ex34).keep Kq43 (ninS ne36 nin0))
          have Fc55 : Fld Z T43.heap ob19 "com/example/halyard/halyard/core/mal/TypeId" "area" "I" (.int y0) := (((((p22_2.ext Ex24).other W30 (Or.inl ne27)).other W33 (Or.inl ne27)).ext Ex34).keep Kq43 (ninS ne38 nin0))
          have Fc56 : Fld Z T43.heap ob19 "com/example/halyard/halyard/core/mal/TypeId" "service" "I" (.int y1) := (((((p22_3.ext Ex24).other W30 (Or.inl ne27)).other W33 (Or.inl ne27)).ext Ex34).keep Kq43 (ninS ne38 nin0))
          have Fc57 : Fld Z T43.heap ob19 "com/example/halyard/halyard/core/mal/TypeId" "areaVersion" "I" (.int y2) := (((((p22_4.ext Ex24).other W30 (Or.inl ne27)).other W33 (Or.inl ne27)).ext Ex34).keep Kq43 (ninS ne38 nin0))
          have Fc58 : Fld Z T43.heap ob19 "com/example/halyard/halyard/core/mal/TypeId" "shortFormPart" "I" (.int y3) := (((((p22_5.ext Ex24).other W30 (Or.inl ne27)).other W33 (Or.inl ne27)).ext Ex34).keep Kq43 (ninS ne38 nin0))
          have Fc59 : Exa Z T43.heap ob19 "com/example/halyard/halyard/core/mal/TypeId" := (Fc46.keep Kq43)
          have Fc61 : Exa Z T43.heap ob15 "com/example/halyard/halyard/core/mal/TypeId" := (Fc44.keep Kq43)
          obtain ⟨cq60, kq60, q60a, q60b, q60c⟩ := isOf hZ rfl Fc61
          obtain ⟨_, _, ⟨T60, Lx60, kx60, nx60⟩, -, X60, ⟨Lc60, hQ60, lx60, yx60, zx60⟩, st60⟩ := X43.virtualBack hx (y := (⟨"com/example/halyard/halyard/core/mal/TypeId", "equals", "(Ljava/lang/Object;)Z"⟩ : MethodName)) (z := (⟨"com/example/halyard/halyard/core/mal/TypeId", "equals", "(Ljava/lang/Object;)Z"⟩ : MethodName)) hown (mvT hZ (wd hw 49 rfl)) (mvT hZ (wd hw 50 rfl)) (notFace_of_selects (args := #[]) (mvT hZ (wd hw 52 rfl))) (mvT hZ (wd hw 52 rfl)) (mvT hZ (wd hw 51 rfl)) (by decide) (backOf (W := 0) (rmEq0 l Z a0 hw [] ob15 ob19 x0 x1 x2 x3 y0 y1 y2 y3 T43.heap n0 Z43 Fc51 Fc52 Fc53 Fc54 Fc55 Fc56 Fc57 Fc58 Fc59 d0) hZ (wd hw 53 rfl) (wd hw 3 rfl) (by decide) (by decide)) q60a q60c (g := (mkF m 269 #[iv p0, iv p1, iv p2, iv p3, iv p4, iv p5, iv x0, iv x1, iv x2, iv x3, iv y0, iv y1, iv y2, iv y3, iv kk, rv ob15, rv ob19, rv ob24, rv ob34, rv ob19, iv 0, .unset] [(.ref ob19), (.ref ob15)])) rfl (by rw [hml]; rfl) (Steps.refl _) (argsL := [(.ref ob19)]) (rest := []) (lenOf pd_2 rfl) rfl (by show 2 * 0 + _ ≤ _; exact Nat.le_of_eq rfl) (hb hby at_269) (fun _ _ => ⟨rfl, rfl, (by decide : 5 + 0 ≤ _), (by decide : 16 + 0 ≤ _)⟩)
          dsimp only [Pt.U, Pt.locs, Pt.cells, Pt.slots] at X60 lx60 yx60 zx60 st60 hQ60
          subst lx60 yx60 zx60
          obtain ⟨rfl, N60q, e60⟩ := hQ60
          have N60 := Fr.app N43 N60q
          refine own_lift (fun t k => st60.trans k) ?_
          show own_Go p.tables e below (T60.setTop (mkF m 272 #[iv p0, iv p1, iv p2, iv p3, iv p4, iv p5, iv x0, iv x1, iv x2, iv x3, iv y0, iv y1, iv y2, iv y3, iv kk, rv ob15, rv ob19, rv ob24, rv ob34, rv ob19, iv 0, .unset] [(.int 0)])) _
          have sg62 : ∀ t, Steps p.tables e below (T60.setTop (mkF m 299 #[iv p0, iv p1, iv p2, iv p3, iv p4, iv p5, iv x0, iv x1, iv x2, iv x3, iv y0, iv y1, iv y2, iv y3, iv kk, rv ob15, rv ob19, rv ob24, rv ob34, rv ob19, iv 0, iv 1] [(.ref ob15), (.ref ob19)])) t → Steps p.tables e below (T60.setTop (mkF m 272 #[iv p0, iv p1, iv p2, iv p3, iv p4, iv p5, iv x0, iv x1, iv x2, iv x3, iv y0, iv y1, iv y2, iv y3, iv kk, rv ob15, rv ob19, rv ob24, rv ob34, rv ob19, iv 0, .unset] [(.int 0)])) t := by
            intro t k
            refine XS.iload X60.here hx rfl (hb hby at_272) rfl ?_
            show Steps p.tables e below (T60.setTop (mkF m 274 #[iv p0, iv p1, iv p2, iv p3, iv p4, iv p5, iv x0, iv x1, iv x2, iv x3, iv y0, iv y1, iv y2, iv y3, iv kk, rv ob15, rv ob19, rv ob24, rv ob34, rv ob19, iv 0, .unset] [(.int 0), (.int 0)])) _
            refine XS.icmpNo X60.here hx rfl (hb hby at_274) rfl (teq (by decide : (0 : Int32) = (0 : Int32))).2 ?_
            refine XS.iconst X60.here hx rfl (hb hby at_277) ?_
            show Steps p.tables e below (T60.setTop (mkF m 278 #[iv p0, iv p1, iv p2, iv p3, iv p4, iv p5, iv x0, iv x1, iv x2, iv x3, iv y0, iv y1, iv y2, iv y3, iv kk, rv ob15, rv ob19, rv ob24, rv ob34, rv ob19, iv 0, .unset] [(.int 1)])) _
            refine XS.goto X60.here hx rfl (pc0 := 278) (pc' := 282) rfl (hb hby at_278) (by decide) (by decide) ?_
            refine XS.istore X60.here hx rfl (hb hby at_282) rfl (l' := #[iv p0, iv p1, iv p2, iv p3, iv p4, iv p5, iv x0, iv x1, iv x2, iv x3, iv y0, iv y1, iv y2, iv y3, iv kk, rv ob15, rv ob19, rv ob24, rv ob34, rv ob19, iv 0, iv 1]) rfl ?_
            show Steps p.tables e below (T60.setTop (mkF m 284 #[iv p0, iv p1, iv p2, iv p3, iv p4, iv p5, iv x0, iv x1, iv x2, iv x3, iv y0, iv y1, iv y2, iv y3, iv kk, rv ob15, rv ob19, rv ob24, rv ob34, rv ob19, iv 0, iv 1] [])) _
            refine XS.iload X60.here hx rfl (hb hby at_284) rfl ?_
            refine XS.iconst X60.here hx rfl (hb hby at_286) ?_
            show Steps p.tables e below (T60.setTop (mkF m 287 #[iv p0, iv p1, iv p2, iv p3, iv p4, iv p5, iv x0, iv x1, iv x2, iv x3, iv y0, iv y1, iv y2, iv y3, iv kk, rv ob15, rv ob19, rv ob24, rv ob34, rv ob19, iv 0, iv 1] [(.int 2), (.int kk)])) _
            refine XS.icmpNo X60.here hx rfl (hb hby at_287) rfl (tlt k2).2.1 ?_
            refine XS.iload X60.here hx rfl (hb hby at_290) rfl ?_
            show Steps p.tables e below (T60.setTop (mkF m 292 #[iv p0, iv p1, iv p2, iv p3, iv p4, iv p5, iv x0, iv x1, iv x2, iv x3, iv y0, iv y1, iv y2, iv y3, iv kk, rv ob15, rv ob19, rv ob24, rv ob34, rv ob19, iv 0, iv 1] [(.int 1)])) _
            refine XS.ifNo X60.here hx rfl (hb hby at_292) rfl ((if0 _ _).trans (feq (by decide : ¬ ((1 : Int32) = (0 : Int32)))).1) ?_
            refine XS.aload X60.here hx rfl (hb hby at_295) rfl rfl ?_
            show Steps p.tables e below (T60.setTop (mkF m 297 #[iv p0, iv p1, iv p2, iv p3, iv p4, iv p5, iv x0, iv x1, iv x2, iv x3, iv y0, iv y1, iv y2, iv y3, iv kk, rv ob15, rv ob19, rv ob24, rv ob34, rv ob19, iv 0, iv 1] [(.ref ob19)])) _
            refine XS.aload X60.here hx rfl (hb hby at_297) rfl rfl ?_
            show Steps p.tables e below (T60.setTop (mkF m 299 #[iv p0, iv p1, iv p2, iv p3, iv p4, iv p5, iv x0, iv x1, iv x2, iv x3, iv y0, iv y1, iv y2, iv y3, iv kk, rv ob15, rv ob19, rv ob24, rv ob34, rv ob19, iv 0, iv 1] [(.ref ob15), (.ref ob19)])) _
            exact k
          refine own_lift sg62 ?_
          show own_Go p.tables e below (T60.setTop (mkF m 299 #[iv p0, iv p1, iv p2, iv p3, iv p4, iv p5, iv x0, iv x1, iv x2, iv x3, iv y0, iv y1, iv y2, iv y3, iv kk, rv ob15, rv ob19, rv ob24, rv ob34, rv ob19, iv 0, iv 1] [(.ref ob15), (.ref ob19)])) _
          obtain ⟨cq63, kq63, q63a, q63b, q63c⟩ := isOf hZ e60 Fc59
          obtain ⟨_, _, ⟨T63, Lx63, kx63, nx63⟩, -, X63, ⟨Lc63, hQ63, lx63, yx63, zx63⟩, st63⟩ := X60.virtualBack hx (y := (⟨"com/example/halyard/halyard/core/mal/TypeId", "equals", "(Ljava/lang/Object;)Z"⟩ : MethodName)) (z := (⟨"com/example/halyard/halyard/core/mal/TypeId", "equals", "(Ljava/lang/Object;)Z"⟩ : MethodName)) hown (mvT hZ (wd hw 49 rfl)) (mvT hZ (wd hw 50 rfl)) (notFace_of_selects (args := #[]) (mvT hZ (wd hw 52 rfl))) (mvT hZ (wd hw 52 rfl)) (mvT hZ (wd hw 51 rfl)) (by decide) (backOf (W := 0) (rmEq0 l Z a0 hw [] ob19 ob15 y0 y1 y2 y3 x0 x1 x2 x3 T43.heap n0 Z43 Fc55 Fc56 Fc57 Fc58 Fc51 Fc52 Fc53 Fc54 Fc61 (fun q => d0 (Eq.symm q))) hZ (wd hw 53 rfl) (wd hw 3 rfl) (by decide) (by decide)) q63a q63c (g := (mkF m 299 #[iv p0, iv p1, iv p2, iv p3, iv p4, iv p5, iv x0, iv x1, iv x2, iv x3, iv y0, iv y1, iv y2, iv y3, iv kk, rv ob15, rv ob19, rv ob24, rv ob34, rv ob19, iv 0, iv 1] [(.ref ob15), (.ref ob19)])) rfl (by rw [hml]; rfl) (Steps.refl _) (argsL := [(.ref ob15)]) (rest := []) (lenOf pd_2 rfl) rfl (by show 2 * 0 + _ ≤ _; exact Nat.le_of_eq rfl) (hb hby at_299) (fun _ _ => ⟨rfl, e60, (by decide : 5 + 0 ≤ _), (by decide : 16 + 0 ≤ _)⟩)
          dsimp only [Pt.U, Pt.locs, Pt.cells, Pt.slots] at X63 lx63 yx63 zx63 st63 hQ63
          subst lx63 yx63 zx63
          obtain ⟨rfl, N63q, e63⟩ := hQ63
          have N63 := Fr.app N60 N63q
          refine own_lift (fun t k => st63.trans k) ?_
          show own_Go p.tables e below (T63.setTop (mkF m 302 #[iv p0, iv p1, iv p2, iv p3, iv p4, iv p5, iv x0, iv x1, iv x2, iv x3, iv y0, iv y1, iv y2, iv y3, iv kk, rv ob15, rv ob19, rv ob24, rv ob34, rv ob19, iv 0, iv 1] [(.int 0)])) _
          have sg64 : ∀ t, Steps p.tables e below (T63.setTop (mkF m 323 #[iv p0, iv p1, iv p2, iv p3, iv p4, iv p5, iv x0, iv x1, iv x2, iv x3, iv y0, iv y1, iv y2, iv y3, iv kk, rv ob15, rv ob19, rv ob24, rv ob34, rv ob19, iv 0, iv 1] [(.ref ob15), (.ref ob15)])) t → Steps p.tables e below (T63.setTop (mkF m 302 #[iv p0, iv p1, iv p2, iv p3, iv p4, iv p5, iv x0, iv x1, iv x2, iv x3, iv y0, iv y1, iv y2, iv y3, iv kk, rv ob15, rv ob19, rv ob24, rv ob34, rv ob19, iv 0, iv 1] [(.int 0)])) t := by
            intro t k
            refine XS.iload X63.here hx rfl (hb hby at_302) rfl ?_
            show Steps p.tables e below (T63.setTop (mkF m 304 #[iv p0, iv p1, iv p2, iv p3, iv p4, iv p5, iv x0, iv x1, iv x2, iv x3, iv y0, iv y1, iv y2, iv y3, iv kk, rv ob15, rv ob19, rv ob24, rv ob34, rv ob19, iv 0, iv 1] [(.int 0), (.int 0)])) _
            refine XS.icmpNo X63.here hx rfl (hb hby at_304) rfl (teq (by decide : (0 : Int32) = (0 : Int32))).2 ?_
            refine XS.iconst X63.here hx rfl (hb hby at_307) ?_
            show Steps p.tables e below (T63.setTop (mkF m 308 #[iv p0, iv p1, iv p2, iv p3, iv p4, iv p5, iv x0, iv x1, iv x2, iv x3, iv y0, iv y1, iv y2, iv y3, iv kk, rv ob15, rv ob19, rv ob24, rv ob34, rv ob19, iv 0, iv 1] [(.int 1)])) _
            refine XS.goto X63.here hx rfl (pc0 := 308) (pc' := 312) rfl (hb hby at_308) (by decide) (by decide) ?_
            refine XS.istore X63.here hx rfl (hb hby at_312) rfl (l' := #[iv p0, iv p1, iv p2, iv p3, iv p4, iv p5, iv x0, iv x1, iv x2, iv x3, iv y0, iv y1, iv y2, iv y3, iv kk, rv ob15, rv ob19, rv ob24, rv ob34, rv ob19, iv 0, iv 1]) rfl ?_
            show Steps p.tables e below (T63.setTop (mkF m 314 #[iv p0, iv p1, iv p2, iv p3, iv p4, iv p5, iv x0, iv x1, iv x2, iv x3, iv y0, iv y1, iv y2, iv y3, iv kk, rv ob15, rv ob19, rv ob24, rv ob34, rv ob19, iv 0, iv 1] [])) _
            refine XS.iload X63.here hx rfl (hb hby at_314) rfl ?_
            refine XS.ifNo X63.here hx rfl (hb hby at_316) rfl ((if0 _ _).trans (feq (by decide : ¬ ((1 : Int32) = (0 : Int32)))).1) ?_
            show Steps p.tables e below (T63.setTop (mkF m 319 #[iv p0, iv p1, iv p2, iv p3, iv p4, iv p5, iv x0, iv x1, iv x2, iv x3, iv y0, iv y1, iv y2, iv y3, iv kk, rv ob15, rv ob19, rv ob24, rv ob34, rv ob19, iv 0, iv 1] [])) _
            refine XS.aload X63.here hx rfl (hb hby at_319) rfl rfl ?_
            refine XS.aload X63.here hx rfl (hb hby at_321) rfl rfl ?_
            show Steps p.tables e below (T63.setTop (mkF m 323 #[iv p0, iv p1, iv p2, iv p3, iv p4, iv p5, iv x0, iv x1, iv x2, iv x3, iv y0, iv y1, iv y2, iv y3, iv kk, rv ob15, rv ob19, rv ob24, rv ob34, rv ob19, iv 0, iv 1] [(.ref ob15), (.ref ob15)])) _
            exact k
          refine own_lift sg64 ?_
          show own_Go p.tables e below (T63.setTop (mkF m 323 #[iv p0, iv p1, iv p2, iv p3, iv p4, iv p5, iv x0, iv x1, iv x2, iv x3, iv y0, iv y1, iv y2, iv y3, iv kk, rv ob15, rv ob19, rv ob24, rv ob34, rv ob19, iv 0, iv 1] [(.ref ob15), (.ref ob15)])) _
          obtain ⟨cq65, kq65, q65a, q65b, q65c⟩ := isOf hZ e63 Fc61
          obtain ⟨_, _, ⟨T65, Lx65, kx65, nx65⟩, -, X65, ⟨Lc65, hQ65, lx65, yx65, zx65⟩, st65⟩ := X63.virtualBack hx (y := (⟨"com/example/halyard/halyard/core/mal/TypeId", "equals", "(Ljava/lang/Object;)Z"⟩ : MethodName)) (z := (⟨"com/example/halyard/halyard/core/mal/TypeId", "equals", "(Ljava/lang/Object;)Z"⟩ : MethodName)) hown (mvT hZ (wd hw 49 rfl)) (mvT hZ (wd hw 50 rfl)) (notFace_of_selects (args := #[]) (mvT hZ (wd hw 52 rfl))) (mvT hZ (wd hw 52 rfl)) (mvT hZ (wd hw 51 rfl)) (by decide) (backOf (W := 0) (rmEq4 l Z a0 hw [] ob15 ob15 x0 x1 x2 x3 x0 x1 x2 x3 T43.heap n0 Z43 Fc51 Fc52 Fc53 Fc54 Fc51 Fc52 Fc53 Fc54 Fc61 (rfl : x0 = x0) (rfl : x1 = x1) (rfl : x2 = x2) (rfl : x3 = x3)) hZ (wd hw 53 rfl) (wd hw 3 rfl) (by decide) (by decide)) q65a q65c (g := (mkF m 323 #[iv p0, iv p1, iv p2, iv p3, iv p4, iv p5, iv x0, iv x1, iv x2, iv x3, iv y0, iv y1, iv y2, iv y3, iv kk, rv ob15, rv ob19, rv ob24, rv ob34, rv ob19, iv 0, iv 1] [(.ref ob15), (.ref ob15)])) rfl (by rw [hml]; rfl) (Steps.refl _) (argsL := [(.ref ob15)]) (rest := []) (lenOf pd_2 rfl) rfl (by show 2 * 0 + _ ≤ _; exact Nat.le_of_eq rfl) (hb hby at_323) (fun _ _ => ⟨rfl, e63, (by decide : 5 + 0 ≤ _), (by decide : 16 + 0 ≤ _)⟩)
          dsimp only [Pt.U, Pt.locs, Pt.cells, Pt.slots] at X65 lx65 yx65 zx65 st65 hQ65
          subst lx65 yx65 zx65
          obtain ⟨rfl, N65q, e65⟩ := hQ65
          have N65 := Fr.app N63 N65q
          refine own_lift (fun t k => st65.trans k) ?_
          show own_Go p.tables e below (T65.setTop (mkF m 326 #[iv p0, iv p1, iv p2, iv p3, iv p4, iv p5, iv x0, iv x1, iv x2, iv x3, iv y0, iv y1, iv y2, iv y3, iv kk, rv ob15, rv ob19, rv ob24, rv ob34, rv ob19, iv 0, iv 1] [(.int 1)])) _
          have sg66 : ∀ t, Steps p.tables e below (T65.setTop (mkF m 338 #[iv p0, iv p1, iv p2, iv p3, iv p4, iv p5, iv x0, iv x1, iv x2, iv x3, iv y0, iv y1, iv y2, iv y3, iv kk, rv ob15, rv ob19, rv ob24, rv ob34, rv ob19, iv 0, iv 1] [(.int 1)])) t → Steps p.tables e below (T65.setTop (mkF m 326 #[iv p0, iv p1, iv p2, iv p3, iv p4, iv p5, iv x0, iv x1, iv x2, iv x3, iv y0, iv y1, iv y2, iv y3, iv kk, rv ob15, rv ob19, rv ob24, rv ob34, rv ob19, iv 0, iv 1] [(.int 1)])) t := by
            intro t k
            refine XS.ifNo X65.here hx rfl (hb hby at_326) rfl ((if0 _ _).trans (feq (by decide : ¬ ((1 : Int32) = (0 : Int32)))).1) ?_
            show Steps p.tables e below (T65.setTop (mkF m 329 #[iv p0, iv p1, iv p2, iv p3, iv p4, iv p5, iv x0, iv x1, iv x2, iv x3, iv y0, iv y1, iv y2, iv y3, iv kk, rv ob15, rv ob19, rv ob24, rv ob34, rv ob19, iv 0, iv 1] [])) _
            refine XS.iconst X65.here hx rfl (hb hby at_329) ?_
            refine XS.goto X65.here hx rfl (pc0 := 330) (pc' := 334) rfl (hb hby at_330) (by decide) (by decide) ?_
            show Steps p.tables e below (T65.setTop (mkF m 334 #[iv p0, iv p1, iv p2, iv p3, iv p4, iv p5, iv x0, iv x1, iv x2, iv x3, iv y0, iv y1, iv y2, iv y3, iv kk, rv ob15, rv ob19, rv ob24, rv ob34, rv ob19, iv 0, iv 1] [(.int 1)])) _
            refine XS.istore X65.here hx rfl (hb hby at_334) rfl (l' := #[iv p0, iv p1, iv p2, iv p3, iv p4, iv p5, iv x0, iv x1, iv x2, iv x3, iv y0, iv y1, iv y2, iv y3, iv kk, rv ob15, rv ob19, rv ob24, rv ob34, rv ob19, iv 0, iv 1]) rfl ?_
            refine XS.iload X65.here hx rfl (hb hby at_336) rfl ?_
            show Steps p.tables e below (T65.setTop (mkF m 338 #[iv p0, iv p1, iv p2, iv p3, iv p4, iv p5, iv x0, iv x1, iv x2, iv x3, iv y0, iv y1, iv y2, iv y3, iv kk, rv ob15, rv ob19, rv ob24, rv ob34, rv ob19, iv 0, iv 1] [(.int 1)])) _
            exact k
          refine own_lift sg66 ?_
          show own_Go p.tables e below (T65.setTop (mkF m 338 #[iv p0, iv p1, iv p2, iv p3, iv p4, iv p5, iv x0, iv x1, iv x2, iv x3, iv y0, iv y1, iv y2, iv y3, iv kk, rv ob15, rv ob19, rv ob24, rv ob34, rv ob19, iv 0, iv 1] [(.int 1)])) _
          obtain ⟨fs, hr, hrun, hended, hW, hsame⟩ := X65.leave (v := some (.int 1)) (fun h => by rw [Bd.returns] at h; cases h)
          refine ⟨_, _, ?_, hrun, hended, _, _, rfl, ?_, ⟨_, rfl⟩, hW, hsame.mono (by decide) (by decide)⟩
          · exact retN X65 hx (t := .boolean) Bd.returns (by simp) (hb hby at_338) hr
          · show Q0 Z  h0 n0 _ T65.heap _
            rw [e65]
            exact ⟨rfl, N65⟩
        by_cases b : (p5 &&& (8 : Int32)) = (0 : Int32)
        · have sg67 : ∀ t, Steps p.tables e below (T10.setTop (mkF m 110 #[iv p0, iv p1, iv p2, iv p3, iv p4, iv p5, iv x0, iv x1, iv x2, iv x3, iv y0, iv y1, iv y2, .unset, .unset, .unset, .unset, .unset, .unset, .unset, .unset, .unset] [(.int ((p4 <<< ((8 : Int32) &&& 31)) >>> ((8 : Int32) &&& 31)))])) t → Steps p.tables e below (T10.setTop (mkF m 89 #[iv p0, iv p1, iv p2, iv p3, iv p4, iv p5, iv x0, iv x1, iv x2, iv x3, iv y0, iv y1, iv y2, .unset, .unset, .unset, .unset, .unset, .unset, .unset, .unset, .unset] [])) t := by
            intro t k
            refine XS.iload X10.here hx rfl (hb hby at_89) rfl ?_
            show Steps p.tables e below (T10.setTop (mkF m 91 #[iv p0, iv p1, iv p2, iv p3, iv p4, iv p5, iv x0, iv x1, iv x2, iv x3, iv y0, iv y1, iv y2, .unset, .unset, .unset, .unset, .unset, .unset, .unset, .unset, .unset] [(.int p5)])) _
            refine XS.bipush X10.here hx rfl (hb hby at_91) ?_
            refine XS.iand X10.here hx rfl (hb hby at_93) rfl ?_
            show Steps p.tables e below (T10.setTop (mkF m 94 #[iv p0, iv p1, iv p2, iv p3, iv p4, iv p5, iv x0, iv x1, iv x2, iv x3, iv y0, iv y1, iv y2, .unset, .unset, .unset, .unset, .unset, .unset, .unset, .unset, .unset] [(.int (p5 &&& (8 : Int32)))])) _
            refine XS.ifYes X10.here hx rfl (pc0 := 94) (pc' := 102) rfl (hb hby at_94) rfl ((if0 _ _).trans (teq b).1) (by decide) (by decide) ?_
            refine XS.iload X10.here hx rfl (hb hby at_102) rfl ?_
            show Steps p.tables e below (T10.setTop (mkF m 104 #[iv p0, iv p1, iv p2, iv p3, iv p4, iv p5, iv x0, iv x1, iv x2, iv x3, iv y0, iv y1, iv y2, .unset, .unset, .unset, .unset, .unset, .unset, .unset, .unset, .unset] [(.int p4)])) _
            refine XS.bipush X10.here hx rfl (hb hby at_104) ?_
            refine XS.ishl X10.here hx rfl (hb hby at_106) rfl ?_
            show Steps p.tables e below (T10.setTop (mkF m 107 #[iv p0, iv p1, iv p2, iv p3, iv p4, iv p5, iv x0, iv x1, iv x2, iv x3, iv y0, iv y1, iv y2, .unset, .unset, .unset, .unset, .unset, .unset, .unset, .unset, .unset] [(.int (p4 <<< ((8 : Int32) &&& 31)))])) _
            refine XS.bipush X10.here hx rfl (hb hby at_107) ?_
            refine XS.ishr X10.here hx rfl (hb hby at_109) rfl ?_
            show Steps p.tables e below (T10.setTop (mkF m 110 #[iv p0, iv p1, iv p2, iv p3, iv p4, iv p5, iv x0, iv x1, iv x2, iv x3, iv y0, iv y1, iv y2, .unset, .unset, .unset, .unset, .unset, .unset, .unset, .unset, .unset] [(.int ((p4 <<< ((8 : Int32) &&& 31)) >>> ((8 : Int32) &&& 31)))])) _
            exact k
          refine own_lift sg67 ?_
          show own_Go p.tables e below (T10.setTop (mkF m 110 #[iv p0, iv p1, iv p2, iv p3, iv p4, iv p5, iv x0, iv x1, iv x2, iv x3, iv y0, iv y1, iv y2, .unset, .unset, .unset, .unset, .unset, .unset, .unset, .unset, .unset] [(.int ((p4 <<< ((8 : Int32) &&& 31)) >>> ((8 : Int32) &&& 31)))])) _
          rw [show y3 = ((p4 <<< ((8 : Int32) &&& 31)) >>> ((8 : Int32) &&& 31)) from (hy3.trans (if_pos b))] at join12
          exact join12 _ _ X10 e10 N10
        · have sg68 : ∀ t, Steps p.tables e below (T10.setTop (mkF m 110 #[iv p0, iv p1, iv p2, iv p3, iv p4, iv p5, iv x0, iv x1, iv x2, iv x3, iv y0, iv y1, iv y2, .unset, .unset, .unset, .unset, .unset, .unset, .unset, .unset, .unset] [(.int x3)])) t → Steps p.tables e below (T10.setTop (mkF m 89 #[iv p0, iv p1, iv p2, iv p3, iv p4, iv p5, iv x0, iv x1, iv x2, iv x3, iv y0, iv y1, iv y2, .unset, .unset, .unset, .unset, .unset, .unset, .unset, .unset, .unset] [])) t := by
            intro t k
            refine XS.iload X10.here hx rfl (hb hby at_89) rfl ?_
            show Steps p.tables e below (T10.setTop (mkF m 91 #[iv p0, iv p1, iv p2, iv p3, iv p4, iv p5, iv x0, iv x1, iv x2, iv x3, iv y0, iv y1, iv y2, .unset, .unset, .unset, .unset, .unset, .unset, .unset, .unset, .unset] [(.int p5)])) _
            refine XS.bipush X10.here hx rfl (hb hby at_91) ?_
            refine XS.iand X10.here hx rfl (hb hby at_93) rfl ?_
            show Steps p.tables e below (T10.setTop (mkF m 94 #[iv p0, iv p1, iv p2, iv p3, iv p4, iv p5, iv x0, iv x1, iv x2, iv x3, iv y0, iv y1, iv y2, .unset, .unset, .unset, .unset, .unset, .unset, .unset, .unset, .unset] [(.int (p5 &&& (8 : Int32)))])) _
            refine XS.ifNo X10.here hx rfl (hb hby at_94) rfl ((if0 _ _).trans (feq b).1) ?_
            refine XS.iload X10.here hx rfl (hb hby at_97) rfl ?_
            show Steps p.tables e below (T10.setTop (mkF m 99 #[iv p0, iv p1, iv p2, iv p3, iv p4, iv p5, iv x0, iv x1, iv x2, iv x3, iv y0, iv y1, iv y2, .unset, .unset, .unset, .unset, .unset, .unset, .unset, .unset, .unset] [(.int x3)])) _
            refine XS.goto X10.here hx rfl (pc0 := 99) (pc' := 110) rfl (hb hby at_99) (by decide) (by decide) ?_
            show Steps p.tables e below (T10.setTop (mkF m 110 #[iv p0, iv p1, iv p2, iv p3, iv p4, iv p5, iv x0, iv x1, iv x2, iv x3, iv y0, iv y1, iv y2, .unset, .unset, .unset, .unset, .unset, .unset, .unset, .unset, .unset] [(.int x3)])) _
            exact k
          refine own_lift sg68 ?_
          show own_Go p.tables e below (T10.setTop (mkF m 110 #[iv p0, iv p1, iv p2, iv p3, iv p4, iv p5, iv x0, iv x1, iv x2, iv x3, iv y0, iv y1, iv y2, .unset, .unset, .unset, .unset, .unset, .unset, .unset, .unset, .unset] [(.int x3)])) _
          rw [show y3 = x3 from (hy3.trans (if_neg b))] at join12
          exact join12 _ _ X10 e10 N10
      by_cases b : (p5 &&& (4 : Int32)) = (0 : Int32)
      · have sg69 : ∀ t, Steps p.tables e below (T8.setTop (mkF m 87 #[iv p0, iv p1, iv p2, iv p3, iv p4, iv p5, iv x0, iv x1, iv x2, iv x3, iv y0, iv y1, .unset, .unset, .unset, .unset, .unset, .unset, .unset, .unset, .unset, .unset] [(.int (((p4.toUInt32 >>> ((8 : Int32) &&& 31).toUInt32).toInt32) &&& (255 : Int32)))])) t → Steps p.tables e below (T8.setTop (mkF m 66 #[iv p0, iv p1, iv p2, iv p3, iv p4, iv p5, iv x0, iv x1, iv x2, iv x3, iv y0, iv y1, .unset, .unset, .unset, .unset, .unset, .unset, .unset, .unset, .unset, .unset] [])) t := by
          intro t k
          refine XS.iload X8.here hx rfl (hb hby at_66) rfl ?_
          show Steps p.tables e below (T8.setTop (mkF m 68 #[iv p0, iv p1, iv p2, iv p3, iv p4, iv p5, iv x0, iv x1, iv x2, iv x3, iv y0, iv y1, .unset, .unset, .unset, .unset, .unset, .unset, .unset, .unset, .unset, .unset] [(.int p5)])) _
          refine XS.iconst X8.here hx rfl (hb hby at_68) ?_
          refine XS.iand X8.here hx rfl (hb hby at_69) rfl ?_
          show Steps p.tables e below (T8.setTop (mkF m 70 #[iv p0, iv p1, iv p2, iv p3, iv p4, iv p5, iv x0, iv x1, iv x2, iv x3, iv y0, iv y1, .unset, .unset, .unset, .unset, .unset, .unset, .unset, .unset, .unset, .unset] [(.int (p5 &&& (4 : Int32)))])) _
          refine XS.ifYes X8.here hx rfl (pc0 := 70) (pc' := 78) rfl (hb hby at_70) rfl ((if0 _ _).trans (teq b).1) (by decide) (by decide) ?_
          refine XS.iload X8.here hx rfl (hb hby at_78) rfl ?_
          show Steps p.tables e below (T8.setTop (mkF m 80 #[iv p0, iv p1, iv p2, iv p3, iv p4, iv p5, iv x0, iv x1, iv x2, iv x3, iv y0, iv y1, .unset, .unset, .unset, .unset, .unset, .unset, .unset, .unset, .unset, .unset] [(.int p4)])) _
          refine XS.bipush X8.here hx rfl (hb hby at_80) ?_
          refine XS.iushr X8.here hx rfl (hb hby at_82) rfl ?_
          show Steps p.tables e below (T8.setTop (mkF m 83 #[iv p0, iv p1, iv p2, iv p3, iv p4, iv p5, iv x0, iv x1, iv x2, iv x3, iv y0, iv y1, .unset, .unset, .unset, .unset, .unset, .unset, .unset, .unset, .unset, .unset] [(.int ((p4.toUInt32 >>> ((8 : Int32) &&& 31).toUInt32).toInt32))])) _
          refine XS.sipush X8.here hx rfl (hb hby at_83) ?_
          refine XS.iand X8.here hx rfl (hb hby at_86) rfl ?_
          show Steps p.tables e below (T8.setTop (mkF m 87 #[iv p0, iv p1, iv p2, iv p3, iv p4, iv p5, iv x0, iv x1, iv x2, iv x3, iv y0, iv y1, .unset, .unset, .unset, .unset, .unset, .unset, .unset, .unset, .unset, .unset] [(.int (((p4.toUInt32 >>> ((8 : Int32) &&& 31).toUInt32).toInt32) &&& (255 : Int32)))])) _
          exact k
        refine own_lift sg69 ?_
        show own_Go p.tables e below (T8.setTop (mkF m 87 #[iv p0, iv p1, iv p2, iv p3, iv p4, iv p5, iv x0, iv x1, iv x2, iv x3, iv y0, iv y1, .unset, .unset, .unset, .unset, .unset, .unset, .unset, .unset, .unset, .unset] [(.int (((p4.toUInt32 >>> ((8 : Int32) &&& 31).toUInt32).toInt32) &&& (255 : Int32)))])) _
        rw [show y2 = (((p4.toUInt32 >>> ((8 : Int32) &&& 31).toUInt32).toInt32) &&& (255 : Int32)) from (hy2.trans (if_pos b))] at join10
        exact join10 _ _ X8 e8 N8
      · have sg70 : ∀ t, Steps p.tables e below (T8.setTop (mkF m 87 #[iv p0, iv p1, iv p2, iv p3, iv p4, iv p5, iv x0, iv x1, iv x2, iv x3, iv y0, iv y1, .unset, .unset, .unset, .unset, .unset, .unset, .unset, .unset, .unset, .unset] [(.int x2)])) t → Steps p.tables e below (T8.setTop (mkF m 66 #[iv p0, iv p1, iv p2, iv p3, iv p4, iv p5, iv x0, iv x1, iv x2, iv x3, iv y0, iv y1, .unset, .unset, .unset, .unset, .unset, .unset, .unset, .unset, .unset, .unset] [])) t := by
          intro t k
          refine XS.iload X8.here hx rfl (hb hby at_66) rfl ?_
          show Steps p.tables e below (T8.setTop (mkF m 68 #[iv p0, iv p1, iv p2, iv p3, iv p4, iv p5, iv x0, iv x1, iv x2, iv x3, iv y0, iv y1, .unset, .unset, .unset, .unset, .unset, .unset, .unset, .unset, .unset, .unset] [(.int p5)])) _
          refine XS.iconst X8.here hx rfl (hb hby at_68) ?_
          refine XS.iand X8.here hx rfl (hb hby at_69) rfl ?_
          show Steps p.tables e below (T8.setTop (mkF m 70 #[iv p0, iv p1, iv p2, iv p3, iv p4, iv p5, iv x0, iv x1, iv x2, iv x3, iv y0, iv y1, .unset, .unset, .unset, .unset, .unset, .unset, .unset, .unset, .unset, .unset] [(.int (p5 &&& (4 : Int32)))])) _
          refine XS.ifNo X8.here hx rfl (hb hby at_70) rfl ((if0 _ _).trans (feq b).1) ?_
          refine XS.iload X8.here hx rfl (hb hby at_73) rfl ?_
          show Steps p.tables e below (T8.setTop (mkF m 75 #[iv p0, iv p1, iv p2, iv p3, iv p4, iv p5, iv x0, iv x1, iv x2, iv x3, iv y0, iv y1, .unset, .unset, .unset, .unset, .unset, .unset, .unset, .unset, .unset, .unset] [(.int x2)])) _
          refine XS.goto X8.here hx rfl (pc0 := 75) (pc' := 87) rfl (hb hby at_75) (by decide) (by decide) ?_
          show Steps p.tables e below (T8.setTop (mkF m 87 #[iv p0, iv p1, iv p2, iv p3, iv p4, iv p5, iv x0, iv x1, iv x2, iv x3, iv y0, iv y1, .unset, .unset, .unset, .unset, .unset, .unset, .unset, .unset, .unset, .unset] [(.int x2)])) _
          exact k
        refine own_lift sg70 ?_
        show own_Go p.tables e below (T8.setTop (mkF m 87 #[iv p0, iv p1, iv p2, iv p3, iv p4, iv p5, iv x0, iv x1, iv x2, iv x3, iv y0, iv y1, .unset, .unset, .unset, .unset, .unset, .unset, .unset, .unset, .unset, .unset] [(.int x2)])) _
        rw [show y2 = x2 from (hy2.trans (if_neg b))] at join10
        exact join10 _ _ X8 e8 N8
    by_cases b : (p5 &&& (2 : Int32)) = (0 : Int32)
    · have sg71 : ∀ t, Steps p.tables e below (T6.setTop (mkF m 64 #[iv p0, iv p1, iv p2, iv p3, iv p4, iv p5, iv x0, iv x1, iv x2, iv x3, iv y0, .unset, .unset, .unset, .unset, .unset, .unset, .unset, .unset, .unset, .unset, .unset] [(.int ((p4.toUInt32 >>> ((16 : Int32) &&& 31).toUInt32).toInt32))])) t → Steps p.tables e below (T6.setTop (mkF m 47 #[iv p0, iv p1, iv p2, iv p3, iv p4, iv p5, iv x0, iv x1, iv x2, iv x3, iv y0, .unset, .unset, .unset, .unset, .unset, .unset, .unset, .unset, .unset, .unset, .unset] [])) t := by
        intro t k
        refine XS.iload X6.here hx rfl (hb hby at_47) rfl ?_
        show Steps p.tables e below (T6.setTop (mkF m 49 #[iv p0, iv p1, iv p2, iv p3, iv p4, iv p5, iv x0, iv x1, iv x2, iv x3, iv y0, .unset, .unset, .unset, .unset, .unset, .unset, .unset, .unset, .unset, .unset, .unset] [(.int p5)])) _
        refine XS.iconst X6.here hx rfl (hb hby at_49) ?_
        refine XS.iand X6.here hx rfl (hb hby at_50) rfl ?_
        show Steps p.tables e below (T6.setTop (mkF m 51 #[iv p0, iv p1, iv p2, iv p3, iv p4, iv p5, iv x0, iv x1, iv x2, iv x3, iv y0, .unset, .unset, .unset, .unset, .unset, .unset, .unset, .unset, .unset, .unset, .unset] [(.int (p5 &&& (2 : Int32)))])) _
        refine XS.ifYes X6.here hx rfl (pc0 := 51) (pc' := 59) rfl (hb hby at_51) rfl ((if0 _ _).trans (teq b).1) (by decide) (by decide) ?_
        refine XS.iload X6.here hx rfl (hb hby at_59) rfl ?_
        show Steps p.tables e below (T6.setTop (mkF m 61 #[iv p0, iv p1, iv p2, iv p3, iv p4, iv p5, iv x0, iv x1, iv x2, iv x3, iv y0, .unset, .unset, .unset, .unset, .unset, .unset, .unset, .unset, .unset, .unset, .unset] [(.int p4)])) _
        refine XS.bipush X6.here hx rfl (hb hby at_61) ?_
        refine XS.iushr X6.here hx rfl (hb hby at_63) rfl ?_
        show Steps p.tables e below (T6.setTop (mkF m 64 #[iv p0, iv p1, iv p2, iv p3, iv p4, iv p5, iv x0, iv x1, iv x2, iv x3, iv y0, .unset, .unset, .unset, .unset, .unset, .unset, .unset, .unset, .unset, .unset, .unset] [(.int ((p4.toUInt32 >>> ((16 : Int32) &&& 31).toUInt32).toInt32))])) _
        exact k
      refine own_lift sg71 ?_
      show own_Go p.tables e below (T6.setTop (mkF m 64 #[iv p0, iv p1, iv p2, iv p3, iv p4, iv p5, iv x0, iv x1, iv x2, iv x3, iv y0, .unset, .unset, .unset, .unset, .unset, .unset, .unset, .unset, .unset, .unset, .unset] [(.int ((p4.toUInt32 >>> ((16 : Int32) &&& 31).toUInt32).toInt32))])) _
      rw [show y1 = ((p4.toUInt32 >>> ((16 : Int32) &&& 31).toUInt32).toInt32) from (hy1.trans (if_pos b))] at join8
      exact join8 _ _ X6 e6 N6
    · have sg72 : ∀ t, Steps p.tables e below (T6.setTop (mkF m 64 #[iv p0, iv p1, iv p2, iv p3, iv p4, iv p5, iv x0, iv x1, iv x2, iv x3, iv y0, .unset, .unset, .unset, .unset, .unset, .unset, .unset, .unset, .unset, .unset, .unset] [(.int x1)])) t → Steps p.tables e below (T6.setTop (mkF m 47 #[iv p0, iv p1, iv p2, iv p3, iv p4, iv p5, iv x0, iv x1, iv x2, iv x3, iv y0, .unset, .unset, .unset, .unset, .unset, .unset, .unset, .unset, .unset, .unset, .unset] [])) t := by
        intro t k
        refine XS.iload X6.here hx rfl (hb hby at_47) rfl ?_
        show Steps p.tables e below (T6.setTop (mkF m 49 #[iv p0, iv p1, iv p2, iv p3, iv p4, iv p5, iv x0, iv x1, iv x2, iv x3, iv y0, .unset, .unset, .unset, .unset, .unset, .unset, .unset, .unset, .unset, .unset, .unset] [(.int p5)])) _
        refine XS.iconst X6.here hx rfl (hb hby at_49) ?_
        refine XS.iand X6.here hx rfl (hb hby at_50) rfl ?_
        show Steps p.tables e below (T6.setTop (mkF m 51 #[iv p0, iv p1, iv p2, iv p3, iv p4, iv p5, iv x0, iv x1, iv x2, iv x3, iv y0, .unset, .unset, .unset, .unset, .unset, .unset, .unset, .unset, .unset, .unset, .unset] [(.int (p5 &&& (2 : Int32)))])) _
        refine XS.ifNo X6.here hx rfl (hb hby at_51) rfl ((if0 _ _).trans (feq b).1) ?_
        refine XS.iload X6.here hx rfl (hb hby at_54) rfl ?_
        show Steps p.tables e below (T6.setTop (mkF m 56 #[iv p0, iv p1, iv p2, iv p3, iv p4, iv p5, iv x0, iv x1, iv x2, iv x3, iv y0, .unset, .unset, .unset, .unset, .unset, .unset, .unset, .unset, .unset, .unset, .unset] [(.int x1)])) _
        refine XS.goto X6.here hx rfl (pc0 := 56) (pc' := 64) rfl (hb hby at_56) (by decide) (by decide) ?_
        show Steps p.tables e below (T6.setTop (mkF m 64 #[iv p0, iv p1, iv p2, iv p3, iv p4, iv p5, iv x0, iv x1, iv x2, iv x3, iv y0, .unset, .unset, .unset, .unset, .unset, .unset, .unset, .unset, .unset, .unset, .unset] [(.int x1)])) _
        exact k
      refine own_lift sg72 ?_
      show own_Go p.tables e below (T6.setTop (mkF m 64 #[iv p0, iv p1, iv p2, iv p3, iv p4, iv p5, iv x0, iv x1, iv x2, iv x3, iv y0, .unset, .unset, .unset, .unset, .unset, .unset, .unset, .unset, .unset, .unset, .unset] [(.int x1)])) _
      rw [show y1 = x1 from (hy1.trans (if_neg b))] at join8
      exact join8 _ _ X6 e6 N6
  by_cases b : (p5 &&& (1 : Int32)) = (0 : Int32)
  · have sg73 : ∀ t, Steps p.tables e below (s₁.setTop (mkF m 45 #[iv p0, iv p1, iv p2, iv p3, iv p4, iv p5, iv x0, iv x1, iv x2, iv x3, .unset, .unset, .unset, .unset, .unset, .unset, .unset, .unset, .unset, .unset, .unset, .unset] [(.int (p4 &&& (65535 : Int32)))])) t → Steps p.tables e below (s₁.setTop (mkF m 28 #[iv p0, iv p1, iv p2, iv p3, iv p4, iv p5, iv x0, iv x1, iv x2, iv x3, .unset, .unset, .unset, .unset, .unset, .unset, .unset, .unset, .unset, .unset, .unset, .unset] [])) t := by
      intro t k
      refine XS.iload X0.here hx rfl (hb hby at_28) rfl ?_
      show Steps p.tables e below (s₁.setTop (mkF m 30 #[iv p0, iv p1, iv p2, iv p3, iv p4, iv p5, iv x0, iv x1, iv x2, iv x3, .unset, .unset, .unset, .unset, .unset, .unset, .unset, .unset, .unset, .unset, .unset, .unset] [(.int p5)])) _
      refine XS.iconst X0.here hx rfl (hb hby at_30) ?_
      refine XS.iand X0.here hx rfl (hb hby at_31) rfl ?_
      show Steps p.tables e below (s₁.setTop (mkF m 32 #[iv p0, iv p1, iv p2, iv p3, iv p4, iv p5, iv x0, iv x1, iv x2, iv x3, .unset, .unset, .unset, .unset, .unset, .unset, .unset, .unset, .unset, .unset, .unset, .unset] [(.int (p5 &&& (1 : Int32)))])) _
      refine XS.ifYes X0.here hx rfl (pc0 := 32) (pc' := 40) rfl (hb hby at_32) rfl ((if0 _ _).trans (teq b).1) (by decide) (by decide) ?_
      refine XS.iload X0.here hx rfl (hb hby at_40) rfl ?_
      show Steps p.tables e below (s₁.setTop (mkF m 42 #[iv p0, iv p1, iv p2, iv p3, iv p4, iv p5, iv x0, iv x1, iv x2, iv x3, .unset, .unset, .unset, .unset, .unset, .unset, .unset, .unset, .unset, .unset, .unset, .unset] [(.int p4)])) _
      refine X0.ldcInt hx hown (mvT hZ (wd hw 0 rfl)) (g := (mkF m 42 #[iv p0, iv p1, iv p2, iv p3, iv p4, iv p5, iv x0, iv x1, iv x2, iv x3, .unset, .unset, .unset, .unset, .unset, .unset, .unset, .unset, .unset, .unset, .unset, .unset] [(.int p4)])) rfl (hb hby at_42) _ ?_
      refine XS.iand X0.here hx rfl (hb hby at_44) rfl ?_
      show Steps p.tables e below (s₁.setTop (mkF m 45 #[iv p0, iv p1, iv p2, iv p3, iv p4, iv p5, iv x0, iv x1, iv x2, iv x3, .unset, .unset, .unset, .unset, .unset, .unset, .unset, .unset, .unset, .unset, .unset, .unset] [(.int (p4 &&& (65535 : Int32)))])) _
      exact k
    refine own_lift sg73 ?_
    show own_Go p.tables e below (s₁.setTop (mkF m 45 #[iv p0, iv p1, iv p2, iv p3, iv p4, iv p5, iv x0, iv x1, iv x2, iv x3, .unset, .unset, .unset, .unset, .unset, .unset, .unset, .unset, .unset, .unset, .unset, .unset] [(.int (p4 &&& (65535 : Int32)))])) _
    rw [show y0 = (p4 &&& (65535 : Int32)) from (hy0.trans (if_pos b))] at join6
    exact join6 _ _ X0 e0 N0
  · have sg74 : ∀ t, Steps p.tables e below (s₁.setTop (mkF m 45 #[iv p0, iv p1, iv p2, iv p3, iv p4, iv p5, iv x0, iv x1, iv x2, iv x3, .unset, .unset, .unset, .unset, .unset, .unset, .unset, .unset, .unset, .unset, .unset, .unset] [(.int x0)])) t → Steps p.tables e below (s₁.setTop (mkF m 28 #[iv p0, iv p1, iv p2, iv p3, iv p4, iv p5, iv x0, iv x1, iv x2, iv x3, .unset, .unset, .unset, .unset, .unset, .unset, .unset, .unset, .unset, .unset, .unset, .unset] [])) t := by
      intro t k
      refine XS.iload X0.here hx rfl (hb hby at_28) rfl ?_
      show Steps p.tables e below (s₁.setTop (mkF m 30 #[iv p0, iv p1, iv p2, iv p3, iv p4, iv p5, iv x0, iv x1, iv x2, iv x3, .unset, .unset, .unset, .unset, .unset, .unset, .unset, .unset, .unset, .unset, .unset, .unset] [(.int p5)])) _
      refine XS.iconst X0.here hx rfl (hb hby at_30) ?_
      refine XS.iand X0.here hx rfl (hb hby at_31) rfl ?_
      show Steps p.tables e below (s₁.setTop (mkF m 32 #[iv p0, iv p1, iv p2, iv p3, iv p4, iv p5, iv x0, iv x1, iv x2, iv x3, .unset, .unset, .unset, .unset, .unset, .unset, .unset, .unset, .unset, .unset, .unset, .unset] [(.int (p5 &&& (1 : Int32)))])) _
      refine XS.ifNo X0.here hx rfl (hb hby at_32) rfl ((if0 _ _).trans (feq b).1) ?_
      refine XS.iload X0.here hx rfl (hb hby at_35) rfl ?_
      show Steps p.tables e below (s₁.setTop (mkF m 37 #[iv p0, iv p1, iv p2, iv p3, iv p4, iv p5, iv x0, iv x1, iv x2, iv x3, .unset, .unset, .unset, .unset, .unset, .unset, .unset, .unset, .unset, .unset, .unset, .unset] [(.int x0)])) _
      refine XS.goto X0.here hx rfl (pc0 := 37) (pc' := 45) rfl (hb hby at_37) (by decide) (by decide) ?_
      show Steps p.tables e below (s₁.setTop (mkF m 45 #[iv p0, iv p1, iv p2, iv p3, iv p4, iv p5, iv x0, iv x1, iv x2, iv x3, .unset, .unset, .unset, .unset, .unset, .unset, .unset, .unset, .unset, .unset, .unset, .unset] [(.int x0)])) _
      exact k
    refine own_lift sg74 ?_
    show own_Go p.tables e below (s₁.setTop (mkF m 45 #[iv p0, iv p1, iv p2, iv p3, iv p4, iv p5, iv x0, iv x1, iv x2, iv x3, .unset, .unset, .unset, .unset, .unset, .unset, .unset, .unset, .unset, .unset, .unset, .unset] [(.int x0)])) _
    rw [show y0 = x0 from (hy0.trans (if_neg b))] at join6
    exact join6 _ _ X0 e0 N0
theorem ef_rm0_1 (m : MethodId) (x0 : Int32) (x1 : Int32) (x2 : Int32) (x3 : Int32) (x4 : Int32) (x5 : Int32) : entryFrame m #[(.int x0), (.int x1), (.int x2), (.int x3), (.int x4), (.int x5)] maxLocals = mkF m 0 #[.val (.int x0), .val (.int x1), .val (.int x2), .val (.int x3), .val (.int x4), .val (.int x5), .unset, .unset, .unset, .unset, .unset, .unset, .unset, .unset, .unset, .unset, .unset, .unset, .unset, .unset, .unset, .unset] [] := by first | (simp [entryFrame, mkF, argsToLocals, Value.category, maxLocals]; done) | rfl
set_option maxRecDepth 65536 in
set_option maxHeartbeats 40000000 in
theorem rm0_1 (l : Launch) (Z : State) (a0 : Array Value) (hw : ∀ d ∈ tables_1, d.before a0 Z = true) (ws : List Jvm.Cond) (p0 : Int32) (p1 : Int32) (p2 : Int32) (p3 : Int32) (p4 : Int32) (p5 : Int32) (cs : Int32) (x0 : Int32) (x1 : Int32) (x2 : Int32) (x3 : Int32) (y0 : Int32) (y1 : Int32) (y2 : Int32) (y3 : Int32) (kk : Int32) (h0 : Heap) (n0 : Nat) (Z0 : n0 ≤ h0.size) (S_cs : Sta Z h0 "java/lang/String" "COMPACT_STRINGS" "Z" (.int cs)) (P_cs : ¬ cs = 0) (hx0 : (p0 &&& (65535 : Int32)) = x0) (hx1 : (p1 &&& (65535 : Int32)) = x1) (hx2 : (p2 &&& (255 : Int32)) = x2) (hx3 : ((p3 <<< ((8 : Int32) &&& 31)) >>> ((8 : Int32) &&& 31)) = x3) (hy0 : y0 = if (p5 &&& (1 : Int32)) = (0 : Int32) then (p4 &&& (65535 : Int32)) else x0) (hy1 : y1 = if (p5 &&& (2 : Int32)) = (0 : Int32) then ((p4.toUInt32 >>> ((16 : Int32) &&& 31).toUInt32).toInt32) else x1) (hy2 : y2 = if (p5 &&& (4 : Int32)) = (0 : Int32) then (((p4.toUInt32 >>> ((8 : Int32) &&& 31).toUInt32).toInt32) &&& (255 : Int32)) else x2) (hy3 : y3 = if (p5 &&& (8 : Int32)) = (0 : Int32) then ((p4 <<< ((8 : Int32) &&& 31)) >>> ((8 : Int32) &&& 31)) else x3) (hk : (((p5.toUInt32 >>> ((4 : Int32) &&& 31).toUInt32).toInt32) &&& (3 : Int32)) = kk) (rx0 : ¬ (x0 < (0 : Int32)) ∧ ¬ ((65535 : Int32) < x0)) (rx1 : ¬ (x1 < (0 : Int32)) ∧ ¬ ((65535 : Int32) < x1)) (rx2 : ¬ (x2 < (0 : Int32)) ∧ ¬ ((255 : Int32) < x2)) (rx3 : ¬ (x3 < (-8388608 : Int32)) ∧ ¬ ((8388607 : Int32) < x3)) (ry0 : ¬ (y0 < (0 : Int32)) ∧ ¬ ((65535 : Int32) < y0)) (ry1 : ¬ (y1 < (0 : Int32)) ∧ ¬ ((65535 : Int32) < y1)) (ry2 : ¬ (y2 < (0 : Int32)) ∧ ¬ ((255 : Int32) < y2)) (ry3 : ¬ (y3 < (-8388608 : Int32)) ∧ ¬ ((8388607 : Int32) < y3)) (k2 : kk < (2 : Int32)) (d0 : x0 = y0) (d1 : ¬ (x1 = y1)) :
    MetFree l x (head1 (Jvm.Cond.code x code maxLocals ret :: ws) room_1) (fun a U => a = #[(.int p0), (.int p1), (.int p2), (.int p3), (.int p4), (.int p5)] ∧ Z.Warmed39 U.vm ∧ U.heap = h0) (fun _ _ _ _ _ => True) (fun _ U o U' => ∃ v L, o = .returned v ∧ Q0 Z  h0 n0 v U'.heap L ∧ FrameEnd U o U' L 24 128) := by
  refine MetFree.of_bodySF (plainFor_of_name pn_1) hisR ?_
  intro p e s m args below meth c s₁ Bd hml0 hP hK
  obtain ⟨rfl, hZ, hh⟩ := hP
  have hx := Bd.exec
  have hby := Bd.bytes
  have hml : c.maxLocals = 22 := hml0
  have hown : s.vm.findClass "com/example/halyard/halyard/core/mal/TypeIdEqualsPinLaw" = some m.cls := findClass_of_methodNamed Bd.named
  have hnm := (name_of_methodNamed Bd.named Bd.method).1
  have X0 : Stand p l e room_1 s m #[(.int p0), (.int p1), (.int p2), (.int p3), (.int p4), (.int p5)] below meth c s₁ [] 0 0 := Stand.of_body Bd
  have e0 : s₁.heap = h0 := by rw [← hh, Bd.state]; rfl
  have N0 := Fr.nil n0
  refine own_go (own_lift (fun t k => castTop (ef_rm0_1 m p0 p1 p2 p3 p4 p5) k) ?_)
  show own_Go p.tables e below (s₁.setTop (mkF m 0 #[iv p0, iv p1, iv p2, iv p3, iv p4, iv p5, .unset, .unset, .unset, .unset, .unset, .unset, .unset, .unset, .unset, .unset, .unset, .unset, .unset, .unset, .unset, .unset] [])) _
  have sg1 : ∀ t, Steps p.tables e below (s₁.setTop (mkF m 4 #[iv p0, iv p1, iv p2, iv p3, iv p4, iv p5, .unset, .unset, .unset, .unset, .unset, .unset, .unset, .unset, .unset, .unset, .unset, .unset, .unset, .unset, .unset, .unset] [(.int (p0 &&& (65535 : Int32)))])) t → Steps p.tables e below (s₁.setTop (mkF m 0 #[iv p0, iv p1, iv p2, iv p3, iv p4, iv p5, .unset, .unset, .unset, .unset, .unset, .unset, .unset, .unset, .unset, .unset, .unset, .unset, .unset, .unset, .unset, .unset] [])) t := by
    intro t k
    refine XS.iloadN X0.here hx rfl (hb hby at_0) rfl ?_
    show Steps p.tables e below (s₁.setTop (mkF m 1 #[iv p0, iv p1, iv p2, iv p3, iv p4, iv p5, .unset, .unset, .unset, .unset, .unset, .unset, .unset, .unset, .unset, .unset, .unset, .unset, .unset, .unset, .unset, .unset] [(.int p0)])) _
    refine X0.ldcInt hx hown (mvT hZ (wd hw 0 rfl)) (g := (mkF m 1 #[iv p0, iv p1, iv p2, iv p3, iv p4, iv p5, .unset, .unset, .unset, .unset, .unset, .unset, .unset, .unset, .unset, .unset, .unset, .unset, .unset, .unset, .unset, .unset] [(.int p0)])) rfl (hb hby at_1) _ ?_
    refine XS.iand X0.here hx rfl (hb hby at_3) rfl ?_
    show Steps p.tables e below (s₁.setTop (mkF m 4 #[iv p0, iv p1, iv p2, iv p3, iv p4, iv p5, .unset, .unset, .unset, .unset, .unset, .unset, .unset, .unset, .unset, .unset, .unset, .unset, .unset, .unset, .unset, .unset] [(.int (p0 &&& (65535 : Int32)))])) _
    exact k
  refine own_lift sg1 ?_
  show own_Go p.tables e below (s₁.setTop (mkF m 4 #[iv p0, iv p1, iv p2, iv p3, iv p4, iv p5, .unset, .unset, .unset, .unset, .unset, .unset, .unset, .unset, .unset, .unset, .unset, .unset, .unset, .unset, .unset, .unset] [(.int (p0 &&& (65535 : Int32)))])) _
  rw [hx0]
  show own_Go p.tables e below (s₁.setTop (mkF m 4 #[iv p0, iv p1, iv p2, iv p3, iv p4, iv p5, .unset, .unset, .unset, .unset, .unset, .unset, .unset, .unset, .unset, .unset, .unset, .unset, .unset, .unset, .unset, .unset] [(.int x0)])) _
  have sg2 : ∀ t, Steps p.tables e below (s₁.setTop (mkF m 10 #[iv p0, iv p1, iv p2, iv p3, iv p4, iv p5, iv x0, .unset, .unset, .unset, .unset, .unset, .unset, .unset, .unset, .unset, .unset, .unset, .unset, .unset, .unset, .unset] [(.int (p1 &&& (65535 : Int32)))])) t → Steps p.tables e below (s₁.setTop (mkF m 4 #[iv p0, iv p1, iv p2, iv p3, iv p4, iv p5, .unset, .unset, .unset, .unset, .unset, .unset, .unset, .unset, .unset, .unset, .unset, .unset, .unset, .unset, .unset, .unset] [(.int x0)])) t := by
    intro t k
    refine XS.istore X0.here hx rfl (hb hby at_4) rfl (l' := #[iv p0, iv p1, iv p2, iv p3, iv p4, iv p5, iv x0, .unset, .unset, .unset, .unset, .unset, .unset, .unset, .unset, .unset, .unset, .unset, .unset, .unset, .unset, .unset]) rfl ?_
    show Steps p.tables e below (s₁.setTop (mkF m 6 #[iv p0, iv p1, iv p2, iv p3, iv p4, iv p5, iv x0, .unset, .unset, .unset, .unset, .unset, .unset, .unset, .unset, .unset, .unset, .unset, .unset, .unset, .unset, .unset] [])) _
    refine XS.iloadN X0.here hx rfl (hb hby at_6) rfl ?_
    refine X0.ldcInt hx hown (mvT hZ (wd hw 0 rfl)) (g := (mkF m 7 #[iv p0, iv p1, iv p2, iv p3, iv p4, iv p5, iv x0, .unset, .unset, .unset, .unset, .unset, .unset, .unset, .unset, .unset, .unset, .unset, .unset, .unset, .unset, .unset] [(.int p1)])) rfl (hb hby at_7) _ ?_
    show Steps p.tables e below (s₁.setTop (mkF m 9 #[iv p0, iv p1, iv p2, iv p3, iv p4, iv p5, iv x0, .unset, .unset, .unset, .unset, .unset, .unset, .unset, .unset, .unset, .unset, .unset, .unset, .unset, .unset, .unset] [(.int 65535), (.int p1)])) _
    refine XS.iand X0.here hx rfl (hb hby at_9) rfl ?_
    show Steps p.tables e below (s₁.setTop (mkF m 10 #[iv p0, iv p1, iv p2, iv p3, iv p4, iv p5, iv x0, .unset, .unset, .unset, .unset, .unset, .unset, .unset, .unset, .unset, .unset, .unset, .unset, .unset, .unset, .unset] [(.int (p1 &&& (65535 : Int32)))])) _
    exact k
  refine own_lift sg2 ?_
  show own_Go p.tables e below (s₁.setTop (mkF m 10 #[iv p0, iv p1, iv p2, iv p3, iv p4, iv p5, iv x0, .unset, .unset, .unset, .unset, .unset, .unset, .unset, .unset, .unset, .unset, .unset, .unset, .unset, .unset, .unset] [(.int (p1 &&& (65535 : Int32)))])) _
  rw [hx1]
  show own_Go p.tables e below (s₁.setTop (mkF m 10 #[iv p0, iv p1, iv p2, iv p3, iv p4, iv p5, iv x0, .unset, .unset, .unset, .unset, .unset, .unset, .unset, .unset, .unset, .unset, .unset, .unset, .unset, .unset, .unset] [(.int x1)])) _
  have sg3 : ∀ t, Steps p.tables e below (s₁.setTop (mkF m 17 #[iv p0, iv p1, iv p2, iv p3, iv p4, iv p5, iv x0, iv x1, .unset, .unset, .unset, .unset, .unset, .unset, .unset, .unset, .unset, .unset, .unset, .unset, .unset, .unset] [(.int (p2 &&& (255 : Int32)))])) t → Steps p.tables e below (s₁.setTop (mkF m 10 #[iv p0, iv p1, iv p2, iv p3, iv p4, iv p5, iv x0, .unset, .unset, .unset, .unset, .unset, .unset, .unset, .unset, .unset, .unset, .unset, .unset, .unset, .unset, .unset] [(.int x1)])) t := by
    intro t k
    refine XS.istore X0.here hx rfl (hb hby at_10) rfl (l' := #[iv p0, iv p1, iv p2, iv p3, iv p4, iv p5, iv x0, iv x1, .unset, .unset, .unset, .unset, .unset, .unset, .unset, .unset, .unset, .unset, .unset, .unset, .unset, .unset]) rfl ?_
    show Steps p.tables e below (s₁.setTop (mkF m 12 #[iv p0, iv p1, iv p2, iv p3, iv p4, iv p5, iv x0, iv x1, .unset, .unset, .unset, .unset, .unset, .unset, .unset, .unset, .unset, .unset, .unset, .unset, .unset, .unset] [])) _
    refine XS.iloadN X0.here hx rfl (hb hby at_12) rfl ?_
    refine XS.sipush X0.here hx rfl (hb hby at_13) ?_
    show Steps p.tables e below (s₁.setTop (mkF m 16 #[iv p0, iv p1, iv p2, iv p3, iv p4, iv p5, iv x0, iv x1, .unset, .unset, .unset, .unset, .unset, .unset, .unset, .unset, .unset, .unset, .unset, .unset, .unset, .unset] [(.int 255), (.int p2)])) _
    refine XS.iand X0.here hx rfl (hb hby at_16) rfl ?_
    show Steps p.tables e below (s₁.setTop (mkF m 17 #[iv p0, iv p1, iv p2, iv p3, iv p4, iv p5, iv x0, iv x1, .unset, .unset, .unset, .unset, .unset, .unset, .unset, .unset, .unset, .unset, .unset, .unset, .unset, .unset] [(.int (p2 &&& (255 : Int32)))])) _
    exact k
  refine own_lift sg3 ?_
  show own_Go p.tables e below (s₁.setTop (mkF m 17 #[iv p0, iv p1, iv p2, iv p3, iv p4, iv p5, iv x0, iv x1, .unset, .unset, .unset, .unset, .unset, .unset, .unset, .unset, .unset, .unset, .unset, .unset, .unset, .unset] [(.int (p2 &&& (255 : Int32)))])) _
  rw [hx2]
  show own_Go p.tables e below (s₁.setTop (mkF m 17 #[iv p0, iv p1, iv p2, iv p3, iv p4, iv p5, iv x0, iv x1, .unset, .unset, .unset, .unset, .unset, .unset, .unset, .unset, .unset, .unset, .unset, .unset, .unset, .unset] [(.int x2)])) _
  have sg4 : ∀ t, Steps p.tables e below (s₁.setTop (mkF m 26 #[iv p0, iv p1, iv p2, iv p3, iv p4, iv p5, iv x0, iv x1, iv x2, .unset, .unset, .unset, .unset, .unset, .unset, .unset, .unset, .unset, .unset, .unset, .unset, .unset] [(.int ((p3 <<< ((8 : Int32) &&& 31)) >>> ((8 : Int32) &&& 31)))])) t → Steps p.tables e below (s₁.setTop (mkF m 17 #[iv p0, iv p1, iv p2, iv p3, iv p4, iv p5, iv x0, iv x1, .unset, .unset, .unset, .unset, .unset, .unset, .unset, .unset, .unset, .unset, .unset, .unset, .unset, .unset] [(.int x2)])) t := by
    intro t k
    refine XS.istore X0.here hx rfl (hb hby at_17) rfl (l' := #[iv p0, iv p1, iv p2, iv p3, iv p4, iv p5, iv x0, iv x1, iv x2, .unset, .unset, .unset, .unset, .unset, .unset, .unset, .unset, .unset, .unset, .unset, .unset, .unset]) rfl ?_
    show Steps p.tables e below (s₁.setTop (mkF m 19 #[iv p0, iv p1, iv p2, iv p3, iv p4, iv p5, iv x0, iv x1, iv x2, .unset, .unset, .unset, .unset, .unset, .unset, .unset, .unset, .unset, .unset, .unset, .unset, .unset] [])) _
    refine XS.iloadN X0.here hx rfl (hb hby at_19) rfl ?_
    refine XS.bipush X0.here hx rfl (hb hby at_20) ?_
    show Steps p.tables e below (s₁.setTop (mkF m 22 #[iv p0, iv p1, iv p2, iv p3, iv p4, iv p5, iv x0, iv x1, iv x2, .unset, .unset, .unset, .unset, .unset, .unset, .unset, .unset, .unset, .unset, .unset, .unset, .unset] [(.int 8), (.int p3)])) _
    refine XS.ishl X0.here hx rfl (hb hby at_22) rfl ?_
    refine XS.bipush X0.here hx rfl (hb hby at_23) ?_
    show Steps p.tables e below (s₁.setTop (mkF m 25 #[iv p0, iv p1, iv p2, iv p3, iv p4, iv p5, iv x0, iv x1, iv x2, .unset, .unset, .unset, .unset, .unset, .unset, .unset, .unset, .unset, .unset, .unset, .unset, .unset] [(.int 8), (.int (p3 <<< ((8 : Int32) &&& 31)))])) _
    refine XS.ishr X0.here hx rfl (hb hby at_25) rfl ?_
    show Steps p.tables e below (s₁.setTop (mkF m 26 #[iv p0, iv p1, iv p2, iv p3, iv p4, iv p5, iv x0, iv x1, iv x2, .unset, .unset, .unset, .unset, .unset, .unset, .unset, .unset, .unset, .unset, .unset, .unset, .unset] [(.int ((p3 <<< ((8 : Int32) &&& 31)) >>> ((8 : Int32) &&& 31)))])) _
    exact k
  refine own_lift sg4 ?_
  show own_Go p.tables e below (s₁.setTop (mkF m 26 #[iv p0, iv p1, iv p2, iv p3, iv p4, iv p5, iv x0, iv x1, iv x2, .unset, .unset, .unset, .unset, .unset, .unset, .unset, .unset, .unset, .unset, .unset, .unset, .unset] [(.int ((p3 <<< ((8 : Int32) &&& 31)) >>> ((8 : Int32) &&& 31)))])) _
  rw [hx3]
  show own_Go p.tables e below (s₁.setTop (mkF m 26 #[iv p0, iv p1, iv p2, iv p3, iv p4, iv p5, iv x0, iv x1, iv x2, .unset, .unset, .unset, .unset, .unset, .unset, .unset, .unset, .unset, .unset, .unset, .unset, .unset] [(.int x3)])) _
  have sg5 : ∀ t, Steps p.tables e below (s₁.setTop (mkF m 28 #[iv p0, iv p1, iv p2, iv p3, iv p4, iv p5, iv x0, iv x1, iv x2, iv x3, .unset, .unset, .unset, .unset, .unset, .unset, .unset, .unset, .unset, .unset, .unset, .unset] [])) t → Steps p.tables e below (s₁.setTop (mkF m 26 #[iv p0, iv p1, iv p2, iv p3, iv p4, iv p5, iv x0, iv x1, iv x2, .unset, .unset, .unset, .unset, .unset, .unset, .unset, .unset, .unset, .unset, .unset, .unset, .unset] [(.int x3)])) t := by
    intro t k
    refine XS.istore X0.here hx rfl (hb hby at_26) rfl (l' := #[iv p0, iv p1, iv p2, iv p3, iv p4, iv p5, iv x0, iv x1, iv x2, iv x3, .unset, .unset, .unset, .unset, .unset, .unset, .unset, .unset, .unset, .unset, .unset, .unset]) rfl ?_
    show Steps p.tables e below (s₁.setTop (mkF m 28 #[iv p0, iv p1, iv p2, iv p3, iv p4, iv p5, iv x0, iv x1, iv x2, iv x3, .unset, .unset, .unset, .unset, .unset, .unset, .unset, .unset, .unset, .unset, .unset, .unset] [])) _
    exact k
  refine own_lift sg5 ?_
  show own_Go p.tables e below (s₁.setTop (mkF m 28 #[iv p0, iv p1, iv p2, iv p3, iv p4, iv p5, iv x0, iv x1, iv x2, iv x3, .unset, .unset, .unset, .unset, .unset, .unset, .unset, .unset, .unset, .unset, .unset, .unset] [])) _
  have join6 : ∀ (T6 : State) (locs6 : List Loc), Stand p l e room_1 s m #[(.int p0), (.int p1), (.int p2), (.int p3), (.int p4), (.int p5)] below meth c T6 locs6 0 0 → T6.heap = h0 → Fr n0 locs6 → own_Go p.tables e below (T6.setTop (mkF m 45 #[iv p0, iv p1, iv p2, iv p3, iv p4, iv p5, iv x0, iv x1, iv x2, iv x3, .unset, .unset, .unset, .unset, .unset, .unset, .unset, .unset, .unset, .unset, .unset, .unset] [(.int y0)])) (fun s₂ o => s₂.status = .running ∧ Ended s₂ below o ∧ ∃ v L, o = .returned v ∧ Q0 Z  h0 n0 v s₂.heap L ∧ FrameEnd s o s₂ L 24 128) := by
    intro T6 locs6 X6 e6 N6
    have sg7 : ∀ t, Steps p.tables e below (T6.setTop (mkF m 47 #[iv p0, iv p1, iv p2, iv p3, iv p4, iv p5, iv x0, iv x1, iv x2, iv x3, iv y0, .unset, .unset, .unset, .unset, .unset, .unset, .unset, .unset, .unset, .unset, .unset] [])) t → Steps p.tables e below (T6.setTop (mkF m 45 #[iv p0, iv p1, iv p2, iv p3, iv p4, iv p5, iv x0, iv x1, iv x2, iv x3, .unset, .unset, .unset, .unset, .unset, .unset, .unset, .unset, .unset, .unset, .unset, .unset] [(.int y0)])) t := by
      intro t k
      refine XS.istore X6.here hx rfl (hb hby at_45) rfl (l' := #[iv p0, iv p1, iv p2, iv p3, iv p4, iv p5, iv x0, iv x1, iv x2, iv x3, iv y0, .unset, .unset, .unset, .unset, .unset, .unset, .unset, .unset, .unset, .unset, .unset]) rfl ?_
      show Steps p.tables e below (T6.setTop (mkF m 47 #[iv p0, iv p1, iv p2, iv p3, iv p4, iv p5, iv x0, iv x1, iv x2, iv x3, iv y0, .unset, .unset, .unset, .unset, .unset, .unset, .unset, .unset, .unset, .unset, .unset] [])) _
      exact k
    refine own_lift sg7 ?_
    show own_Go p.tables e below (T6.setTop (mkF m 47 #[iv p0, iv p1, iv p2, iv p3, iv p4, iv p5, iv x0, iv x1, iv x2, iv x3, iv y0, .unset, .unset, .unset, .unset, .unset, .unset, .unset, .unset, .unset, .unset, .unset] [])) _
    have join8 : ∀ (T8 : State) (locs8 : List Loc), Stand p l e room_1 s m #[(.int p0), (.int p1), (.int p2), (.int p3), (.int p4), (.int p5)] below meth c T8 locs8 0 0 → T8.heap = h0 → Fr n0 locs8 → own_Go p.tables e below (T8.setTop (mkF m 64 #[iv p0, iv p1, iv p2, iv p3, iv p4, iv p5, iv x0, iv x1, iv x2, iv x3, iv y0, .unset, .unset, .unset, .unset, .unset, .unset, .unset, .unset, .unset, .unset, .unset] [(.int y1)])) (fun s₂ o => s₂.status = .running ∧ Ended s₂ below o ∧ ∃ v L, o = .returned v ∧ Q0 Z  h0 n0 v s₂.heap L ∧ FrameEnd s o s₂ L 24 128) := by
      intro T8 locs8 X8 e8 N8
      have sg9 : ∀ t, Steps p.tables e below (T8.setTop (mkF m 66 #[iv p0, iv p1, iv p2, iv p3, iv p4, iv p5, iv x0, iv x1, iv x2, iv x3, iv y0, iv y1, .unset, .unset, .unset, .unset, .unset, .unset, .unset, .unset, .unset, .unset] [])) t → Steps p.tables e below (T8.setTop (mkF m 64 #[iv p0, iv p1, iv p2, iv p3, iv p4, iv p5, iv x0, iv x1, iv x2, iv x3, iv y0, .unset, .unset, .unset, .unset, .unset, .unset, .unset, .unset, .unset, .unset, .unset] [(.int y1)])) t := by
        intro t k
        refine XS.istore X8.here hx rfl (hb hby at_64) rfl (l' := #[iv p0, iv p1, iv p2, iv p3, iv p4, iv p5, iv x0, iv x1, iv x2, iv x3, iv y0, iv y1, .unset, .unset, .unset, .unset, .unset, .unset, .unset, .unset, .unset, .unset]) rfl ?_
        show Steps p.tables e below (T8.setTop (mkF m 66 #[iv p0, iv p1, iv p2, iv p3, iv p4, iv p5, iv x0, iv x1, iv x2, iv x3, iv y0, iv y1, .unset, .unset, .unset, .unset, .unset, .unset, .unset, .unset, .unset, .unset] [])) _
        exact k
      refine own_lift sg9 ?_
      show own_Go p.tables e below (T8.setTop (mkF m 66 #[iv p0, iv p1, iv p2, iv p3, iv p4, iv p5, iv x0, iv x1, iv x2, iv x3, iv y0, iv y1, .unset, .unset, .unset, .unset, .unset, .unset, .unset, .unset, .unset, .unset] [])) _
      have join10 : ∀ (T10 : State) (locs10 : List Loc), Stand p l e room_1 s m #[(.int p0), (.int p1), (.int p2), (.int p3), (.int p4), (.int p5)] below meth c T10 locs10 0 0 → T10.heap = h0 → Fr n0 locs10 → own_Go p.tables e below (T10.setTop (mkF m 87 #[iv p0, iv p1, iv p2, iv p3, iv p4, iv p5, iv x0, iv x1, iv x2, iv x3, iv y0, iv y1, .unset, .unset, .unset, .unset, .unset, .unset, .unset, .unset, .unset, .unset] [(.int y2)])) (fun s₂ o => s₂.status = .running ∧ Ended s₂ below o ∧ ∃ v L, o = .returned v ∧ Q0 Z  h0 n0 v s₂.heap L ∧ FrameEnd s o s₂ L 24 128) := by
        intro T10 locs10 X10 e10 N10
        have sg11 : ∀ t, Steps p.tables e below (T10.setTop (mkF m 89 #[iv p0, iv p1, iv p2, iv p3, iv p4, iv p5, iv x0, iv x1, iv x2, iv x3, iv y0, iv y1, iv y2, .unset, .unset, .unset, .unset, .unset, .unset, .unset, .unset, .unset] [])) t → Steps p.tables e below (T10.setTop (mkF m 87 #[iv p0, iv p1, iv p2, iv p3, iv p4, iv p5, iv x0, iv x1, iv x2, iv x3, iv y0, iv y1, .unset, .unset, .unset, .unset, .unset, .unset, .unset, .unset, .unset, .unset] [(.int y2)])) t := by
          intro t k
          refine XS.istore X10.here hx rfl (hb hby at_87) rfl (l' := #[iv p0, iv p1, iv p2, iv p3, iv p4, iv p5, iv x0, iv x1, iv x2, iv x3, iv y0, iv y1, iv y2, .unset, .unset, .unset, .unset, .unset, .unset, .unset, .unset, .unset]) rfl ?_
          show Steps p.tables e below (T10.setTop (mkF m 89 #[iv p0, iv p1, iv p2, iv p3, iv p4, iv p5, iv x0, iv x1, iv x2, iv x3, iv y0, iv y1, iv y2, .unset, .unset, .unset, .unset, .unset, .unset, .unset, .unset, .unset] [])) _
          exact k
        refine own_lift sg11 ?_
        show own_Go p.tables e below (T10.setTop (mkF m 89 #[iv p0, iv p1, iv p2, iv p3, iv p4, iv p5, iv x0, iv x1, iv x2, iv x3, iv y0, iv y1, iv y2, .unset, .unset, .unset, .unset, .unset, .unset, .unset, .unset, .unset] [])) _
        have join12 : ∀ (T12 : State) (locs12 : List Loc), Stand p l e room_1 s m #[(.int p0), (.int p1), (.int p2), (.int p3), (.int p4), (.int p5)] below meth c T12 locs12 0 0 → T12.heap = h0 → Fr n0 locs12 → own_Go p.tables e below (T12.setTop (mkF m 110 #[iv p0, iv p1, iv p2, iv p3, iv p4, iv p5, iv x0, iv x1, iv x2, iv x3, iv y0, iv y1, iv y2, .unset, .unset, .unset, .unset, .unset, .unset, .unset, .unset, .unset] [(.int y3)])) (fun s₂ o => s₂.status = .running ∧ Ended s₂ below o ∧ ∃ v L, o = .returned v ∧ Q0 Z  h0 n0 v s₂.heap L ∧ FrameEnd s o s₂ L 24 128) := by
          intro T12 locs12 X12 e12 N12
          have sg13 : ∀ t, Steps p.tables e below (T12.setTop (mkF m 118 #[iv p0, iv p1, iv p2, iv p3, iv p4, iv p5, iv x0, iv x1, iv x2, iv x3, iv y0, iv y1, iv y2, iv y3, .unset, .unset, .unset, .unset, .unset, .unset, .unset, .unset] [(.int (((p5.toUInt32 >>> ((4 : Int32) &&& 31).toUInt32).toInt32) &&& (3 : Int32)))])) t → Steps p.tables e below (T12.setTop (mkF m 110 #[iv p0, iv p1, iv p2, iv p3, iv p4, iv p5, iv x0, iv x1, iv x2, iv x3, iv y0, iv y1, iv y2, .unset, .unset, .unset, .unset, .unset, .unset, .unset, .unset, .unset] [(.int y3)])) t := by
            intro t k
            refine XS.istore X12.here hx rfl (hb hby at_110) rfl (l' := #[iv p0, iv p1, iv p2, iv p3, iv p4, iv p5, iv x0, iv x1, iv x2, iv x3, iv y0, iv y1, iv y2, iv y3, .unset, .unset, .unset, .unset, .unset, .unset, .unset, .unset]) rfl ?_
            show Steps p.tables e below (T12.setTop (mkF m 112 #[iv p0, iv p1, iv p2, iv p3, iv p4, iv p5, iv x0, iv x1, iv x2, iv x3, iv y0, iv y1, iv y2, iv y3, .unset, .unset, .unset, .unset, .unset, .unset, .unset, .unset] [])) _
            refine XS.iload X12.here hx rfl (hb hby at_112) rfl ?_
            refine XS.iconst X12.here hx rfl (hb hby at_114) ?_
            show Steps p.tables e below (T12.setTop (mkF m 115 #[iv p0, iv p1, iv p2, iv p3, iv p4, iv p5, iv x0, iv x1, iv x2, iv x3, iv y0, iv y1, iv y2, iv y3, .unset, .unset, .unset, .unset, .unset, .unset, .unset, .unset] [(.int 4), (.int p5)])) _
            refine XS.iushr X12.here hx rfl (hb hby at_115) rfl ?_
            refine XS.iconst X12.here hx rfl (hb hby at_116) ?_
            show Steps p.tables e below (T12.setTop (mkF m 117 #[iv p0, iv p1, iv p2, iv p3, iv p4, iv p5, iv x0, iv x1, iv x2, iv x3, iv y0, iv y1, iv y2, iv y3, .unset, .unset, .unset, .unset, .unset, .unset, .unset, .unset] [(.int 3), (.int ((p5.toUInt32 >>> ((4 : Int32) &&& 31).toUInt32).toInt32))])) _
            refine XS.iand X12.here hx rfl (hb hby at_117) rfl ?_
            show Steps p.tables e below (T12.setTop (mkF m 118 #[iv p0, iv p1, iv p2, iv p3, iv p4, iv p5, iv x0, iv x1, iv x2, iv x3, iv y0, iv y1, iv y2, iv y3, .unset, .unset, .unset, .unset, .unset, .unset, .unset, .unset] [(.int (((p5.toUInt32 >>> ((4 : Int32) &&& 31).toUInt32).toInt32) &&& (3 : Int32)))])) _
            exact k
          refine own_lift sg13 ?_
          show own_Go p.tables e below (T12.setTop (mkF m 118 #[iv p0, iv p1, iv p2, iv p3, iv p4, iv p5, iv x0, iv x1, iv x2, iv x3, iv y0, iv y1, iv y2, iv y3, .unset, .unset, .unset, .unset, .unset, .unset, .unset, .unset] [(.int (((p5.toUInt32 >>> ((4 : Int32) &&& 31).toUInt32).toInt32) &&& (3 : Int32)))])) _
          rw [hk]
          show own_Go p.tables e below (T12.setTop (mkF m 118 #[iv p0, iv p1, iv p2, iv p3, iv p4, iv p5, iv x0, iv x1, iv x2, iv x3, iv y0, iv y1, iv y2, iv y3, .unset, .unset, .unset, .unset, .unset, .unset, .unset, .unset] [(.int kk)])) _
          have sg14 : ∀ t, Steps p.tables e below (T12.setTop (mkF m 120 #[iv p0, iv p1, iv p2, iv p3, iv p4, iv p5, iv x0, iv x1, iv x2, iv x3, iv y0, iv y1, iv y2, iv y3, iv kk, .unset, .unset, .unset, .unset, .unset, .unset, .unset] [])) t → Steps p.tables e below (T12.setTop (mkF m 118 #[iv p0, iv p1, iv p2, iv p3, iv p4, iv p5, iv x0, iv x1, iv x2, iv x3, iv y0, iv y1, iv y2, iv y3, .unset, .unset, .unset, .unset, .unset, .unset, .unset, .unset] [(.int kk)])) t := by
            intro t k
            refine XS.istore X12.here hx rfl (hb hby at_118) rfl (l' := #[iv p0, iv p1, iv p2, iv p3, iv p4, iv p5, iv x0, iv x1, iv x2, iv x3, iv y0, iv y1, iv y2, iv y3, iv kk, .unset, .unset, .unset, .unset, .unset, .unset, .unset]) rfl ?_
            show Steps p.tables e below (T12.setTop (mkF m 120 #[iv p0, iv p1, iv p2, iv p3, iv p4, iv p5, iv x0, iv x1, iv x2, iv x3, iv y0, iv y1, iv y2, iv y3, iv kk, .unset, .unset, .unset, .unset, .unset, .unset, .unset] [])) _
            exact k
          refine own_lift sg14 ?_
          show own_Go p.tables e below (T12.setTop (mkF m 120 #[iv p0, iv p1, iv p2, iv p3, iv p4, iv p5, iv x0, iv x1, iv x2, iv x3, iv y0, iv y1, iv y2, iv y3, iv kk, .unset, .unset, .unset, .unset, .unset, .unset, .unset] [])) _
          obtain ⟨T15, h15, X15, e15, Ex15, Ax15, Dx15, Ux15, st15⟩ := newO X12 hx hZ hown (wd hw 1 rfl) (wd hw 2 rfl) (wd hw 3 rfl) e12 (g := (mkF m 120 #[iv p0, iv p1, iv p2, iv p3, iv p4, iv p5, iv x0, iv x1, iv x2, iv x3, iv y0, iv y1, iv y2, iv y3, iv kk, .unset, .unset, .unset, .unset, .unset, .unset, .unset] [])) rfl (hb hby at_120) (by decide) (by decide)
          obtain ⟨ob15, g15⟩ : ∃ z, z = h0.size := ⟨_, rfl⟩
          rw [← g15] at Ax15 Dx15 Ux15 st15
          have Z15 : n0 ≤ h15.size := Nat.le_trans Z0 Ex15.1
          have ge15 : n0 ≤ ob15 := Nat.le_trans Z0 (Nat.le_of_eq g15.symm)
          have Fn15_14 : Fld Z h15 ob15 "com/example/halyard/halyard/core/mal/TypeId" "area" "I" (.int 0) := Dx15 (Or.inr (wd hw 14 rfl)) (ty := .int) (by decide)
          have Fn15_16 : Fld Z h15 ob15 "com/example/halyard/halyard/core/mal/TypeId" "service" "I" (.int 0) := Dx15 (Or.inr (wd hw 16 rfl)) (ty := .int) (by decide)
          have Fn15_18 : Fld Z h15 ob15 "com/example/halyard/halyard/core/mal/TypeId" "areaVersion" "I" (.int 0) := Dx15 (Or.inr (wd hw 18 rfl)) (ty := .int) (by decide)
          have Fn15_20 : Fld Z h15 ob15 "com/example/halyard/halyard/core/mal/TypeId" "shortFormPart" "I" (.int 0) := Dx15 (Or.inr (wd hw 20 rfl)) (ty := .int) (by decide)
          refine own_lift st15 ?_
          show own_Go p.tables e below (T15.setTop (mkF m 123 #[iv p0, iv p1, iv p2, iv p3, iv p4, iv p5, iv x0, iv x1, iv x2, iv x3, iv y0, iv y1, iv y2, iv y3, iv kk, .unset, .unset, .unset, .unset, .unset, .unset, .unset] [(.ref ob15)])) _
          have sg16 : ∀ t, Steps p.tables e below (T15.setTop (mkF m 132 #[iv p0, iv p1, iv p2, iv p3, iv p4, iv p5, iv x0, iv x1, iv x2, iv x3, iv y0, iv y1, iv y2, iv y3, iv kk, .unset, .unset, .unset, .unset, .unset, .unset, .unset] [(.int x3), (.int x2), (.int x1), (.int x0), (.ref ob15), (.ref ob15)])) t → Steps p.tables e below (T15.setTop (mkF m 123 #[iv p0, iv p1, iv p2, iv p3, iv p4, iv p5, iv x0, iv x1, iv x2, iv x3, iv y0, iv y1, iv y2, iv y3, iv kk, .unset, .unset, .unset, .unset, .unset, .unset, .unset] [(.ref ob15)])) t := by
            intro t k
            refine XS.dup X15.here hx rfl (hb hby at_123) rfl rfl ?_
            show Steps p.tables e below (T15.setTop (mkF m 124 #[iv p0, iv p1, iv p2, iv p3, iv p4, iv p5, iv x0, iv x1, iv x2, iv x3, iv y0, iv y1, iv y2, iv y3, iv kk, .unset, .unset, .unset, .unset, .unset, .unset, .unset] [(.ref ob15), (.ref ob15)])) _
            refine XS.iload X15.here hx rfl (hb hby at_124) rfl ?_
            refine XS.iload X15.here hx rfl (hb hby at_126) rfl ?_
            show Steps p.tables e below (T15.setTop (mkF m 128 #[iv p0, iv p1, iv p2, iv p3, iv p4, iv p5, iv x0, iv x1, iv x2, iv x3, iv y0, iv y1, iv y2, iv y3, iv kk, .unset, .unset, .unset, .unset, .unset, .unset, .unset] [(.int x1), (.int x0), (.ref ob15), (.ref ob15)])) _
            refine XS.iload X15.here hx rfl (hb hby at_128) rfl ?_
            refine XS.iload X15.here hx rfl (hb hby at_130) rfl ?_
            show Steps p.tables e below (T15.setTop (mkF m 132 #[iv p0, iv p1, iv p2, iv p3, iv p4, iv p5, iv x0, iv x1, iv x2, iv x3, iv y0, iv y1, iv y2, iv y3, iv kk, .unset, .unset, .unset, .unset, .unset, .unset, .unset] [(.int x3), (.int x2), (.int x1), (.int x0), (.ref ob15), (.ref ob15)])) _
            exact k
          refine own_lift sg16 ?_
          show own_Go p.tables e below (T15.setTop (mkF m 132 #[iv p0, iv p1, iv p2, iv p3, iv p4, iv p5, iv x0, iv x1, iv x2, iv x3, iv y0, iv y1, iv y2, iv y3, iv kk, .unset, .unset, .unset, .unset, .unset, .unset, .unset] [(.int x3), (.int x2), (.int x1), (.int x0), (.ref ob15), (.ref ob15)])) _
          obtain ⟨_, _, ⟨T17, Lx17, kx17, nx17⟩, -, X17, ⟨Lc17, hQ17, lx17, yx17, zx17⟩, st17⟩ := X15.specialBack hx (y := (⟨"com/example/halyard/halyard/core/mal/TypeId", "<init>", "(IIII)V"⟩ : MethodName)) rfl hown (mvT hZ (wd hw 4 rfl)) (mvT hZ (wd hw 5 rfl)) (mvT hZ (wd hw 6 rfl)) (by decide) (backOf (W := 1) (rmInit l Z a0 hw [] ob15 x0 x1 x2 x3 h15 n0 Z15 Fn15_14 Fn15_16 Fn15_18 Fn15_20 Ax15 ge15 rx0.1 rx0.2 rx1.1 rx1.2 rx2.1 rx2.2 rx3.1 rx3.2) hZ (wd hw 6 rfl) (wd hw 3 rfl) (by decide) (by decide)) (g := (mkF m 132 #[iv p0, iv p1, iv p2, iv p3, iv p4, iv p5, iv x0, iv x1, iv x2, iv x3, iv y0, iv y1, iv y2, iv y3, iv kk, .unset, .unset, .unset, .unset, .unset, .unset, .unset] [(.int x3), (.int x2), (.int x1), (.int x0), (.ref ob15), (.ref ob15)])) rfl (by rw [hml]; rfl) (Steps.refl _) (a := ob15) (argsL := [(.int x0), (.int x1), (.int x2), (.int x3)]) (rest := [(.ref ob15)]) (lenOf pd_0 rfl) rfl (by show 2 * 0 + _ ≤ _; exact Nat.le_of_eq rfl) (hb hby at_132) (fun _ _ => ⟨rfl, e15, (by decide : 1 + 0 ≤ _), (by decide : 4 + 0 ≤ _)⟩)
          dsimp only [Pt.U, Pt.locs, Pt.cells, Pt.slots] at X17 lx17 yx17 zx17 st17 hQ17
          subst lx17 yx17 zx17
          obtain ⟨rfl, N17q, p17_0, p17_1, p17_2, p17_3, p17_4, p17_5⟩ := hQ17
          have N17 := Fr.app N12 N17q
          have Z17 : n0 ≤ T17.heap.size := Nat.le_trans Z15 p17_0.1
          refine own_lift (fun t k => st17.trans k) ?_
          show own_Go p.tables e below (T17.setTop (mkF m 135 #[iv p0, iv p1, iv p2, iv p3, iv p4, iv p5, iv x0, iv x1, iv x2, iv x3, iv y0, iv y1, iv y2, iv y3, iv kk, .unset, .unset, .unset, .unset, .unset, .unset, .unset] [(.ref ob15)])) _
          have sg18 : ∀ t, Steps p.tables e below (T17.setTop (mkF m 137 #[iv p0, iv p1, iv p2, iv p3, iv p4, iv p5, iv x0, iv x1, iv x2, iv x3, iv y0, iv y1, iv y2, iv y3, iv kk, rv ob15, .unset, .unset, .unset, .unset, .unset, .unset] [])) t → Steps p.tables e below (T17.setTop (mkF m 135 #[iv p0, iv p1, iv p2, iv p3, iv p4, iv p5, iv x0, iv x1, iv x2, iv x3, iv y0, iv y1, iv y2, iv y3, iv kk, .unset, .unset, .unset, .unset, .unset, .unset, .unset] [(.ref ob15)])) t := by
            intro t k
            refine XS.astore X17.here hx rfl (hb hby at_135) rfl rfl (l' := #[iv p0, iv p1, iv p2, iv p3, iv p4, iv p5, iv x0, iv x1, iv x2, iv x3, iv y0, iv y1, iv y2, iv y3, iv kk, rv ob15, .unset, .unset, .unset, .unset, .unset, .unset]) rfl ?_
            show Steps p.tables e below (T17.setTop (mkF m 137 #[iv p0, iv p1, iv p2, iv p3, iv p4, iv p5, iv x0, iv x1, iv x2, iv x3, iv y0, iv y1, iv y2, iv y3, iv kk, rv ob15, .unset, .unset, .unset, .unset, .unset, .unset] [])) _
            exact k
          refine own_lift sg18 ?_
          show own_Go p.tables e below (T17.setTop (mkF m 137 #[iv p0, iv p1, iv p2, iv p3, iv p4, iv p5, iv x0, iv x1, iv x2, iv x3, iv y0, iv y1, iv y2, iv y3, iv kk, rv ob15, .unset, .unset, .unset, .unset, .unset, .unset] [])) _
          obtain ⟨T19, h19, X19, e19, Ex19, Ax19, Dx19, Ux19, st19⟩ := newO X17 hx hZ hown (wd hw 1 rfl) (wd hw 2 rfl) (wd hw 3 rfl) rfl (g := (mkF m 137 #[iv p0, iv p1, iv p2, iv p3, iv p4, iv p5, iv x0, iv x1, iv x2, iv x3, iv y0, iv y1, iv y2, iv y3, iv kk, rv ob15, .unset, .unset, .unset, .unset, .unset, .unset] [])) rfl (hb hby at_137) (by decide) (by decide)
          obtain ⟨ob19, g19⟩ : ∃ z, z = T17.heap.size := ⟨_, rfl⟩
          rw [← g19] at Ax19 Dx19 Ux19 st19
          have ne20 : ob15 ≠ ob19 := Nat.ne_of_lt (Nat.lt_of_lt_of_le p17_1.lt (Nat.le_of_eq g19.symm))
          have Z19 : n0 ≤ h19.size := Nat.le_trans Z17 Ex19.1
          have ge19 : n0 ≤ ob19 := Nat.le_trans Z17 (Nat.le_of_eq g19.symm)
          have Fn19_14 : Fld Z h19 ob19 "com/example/halyard/halyard/core/mal/TypeId" "area" "I" (.int 0) := Dx19 (Or.inr (wd hw 14 rfl)) (ty := .int) (by decide)
          have Fn19_16 : Fld Z h19 ob19 "com/example/halyard/halyard/core/mal/TypeId" "service" "I" (.int 0) := Dx19 (Or.inr (wd hw 16 rfl)) (ty := .int) (by decide)
          have Fn19_18 : Fld Z h19 ob19 "com/example/halyard/halyard/core/mal/TypeId" "areaVersion" "I" (.int 0) := Dx19 (Or.inr (wd hw 18 rfl)) (ty := .int) (by decide)
          have Fn19_20 : Fld Z h19 ob19 "com/example/halyard/halyard/core/mal/TypeId" "shortFormPart" "I" (.int 0) := Dx19 (Or.inr (wd hw 20 rfl)) (ty := .int) (by decide)
          refine own_lift st19 ?_
          show own_Go p.tables e below (T19.setTop (mkF m 140 #[iv p0, iv p1, iv p2, iv p3, iv p4, iv p5, iv x0, iv x1, iv x2, iv x3, iv y0, iv y1, iv y2, iv y3, iv kk, rv ob15, .unset, .unset, .unset, .unset, .unset, .unset] [(.ref ob19)])) _
          have sg21 : ∀ t, Steps p.tables e below (T19.setTop (mkF m 149 #[iv p0, iv p1, iv p2, iv p3, iv p4, iv p5, iv x0, iv x1, iv x2, iv x3, iv y0, iv y1, iv y2, iv y3, iv kk, rv ob15, .unset, .unset, .unset, .unset, .unset, .unset] [(.int y3), (.int y2), (.int y1), (.int y0), (.ref ob19), (.ref ob19)])) t → Steps p.tables e below (T19.setTop (mkF m 140 #[iv p0, iv p1, iv p2, iv p3, iv p4, iv p5, iv x0, iv x1, iv x2, iv x3, iv y0, iv y1, iv y2, iv y3, iv kk, rv ob15, .unset, .unset, .unset, .unset, .unset, .unset] [(.ref ob19)])) t := by
            intro t k
            refine XS.dup X19.here hx rfl (hb hby at_140) rfl rfl ?_
            show Steps p.tables e below (T19.setTop (mkF m 141 #[iv p0, iv p1, iv p2, iv p3, iv p4, iv p5, iv x0, iv x1, iv x2, iv x3, iv y0, iv y1, iv y2, iv y3, iv kk, rv ob15, .unset, .unset, .unset, .unset, .unset, .unset] [(.ref ob19), (.ref ob19)])) _
            refine XS.iload X19.here hx rfl (hb hby at_141) rfl ?_
            refine XS.iload X19.here hx rfl (hb hby at_143) rfl ?_
            show Steps p.tables e below (T19.setTop (mkF m 145 #[iv p0, iv p1, iv p2, iv p3, iv p4, iv p5, iv x0, iv x1, iv x2, iv x3, iv y0, iv y1, iv y2, iv y3, iv kk, rv ob15, .unset, .unset, .unset, .unset, .unset, .unset] [(.int y1), (.int y0), (.ref ob19), (.ref ob19)])) _
            refine XS.iload X19.here hx rfl (hb hby at_145) rfl ?_
            refine XS.iload X19.here hx rfl (hb hby at_147) rfl ?_
            show Steps p.tables e below (T19.setTop (mkF m 149 #[iv p0, iv p1, iv p2, iv p3, iv p4, iv p5, iv x0, iv x1, iv x2, iv x3, iv y0, iv y1, iv y2, iv y3, iv kk, rv ob15, .unset, .unset, .unset, .unset, .unset, .unset] [(.int y3), (.int y2), (.int y1), (.int y0), (.ref ob19), (.ref ob19)])) _
            exact k
          refine own_lift sg21 ?_
          show own_Go p.tables e below (T19.setTop (mkF m 149 #[iv p0, iv p1, iv p2, iv p3, iv p4, iv p5, iv x0, iv x1, iv x2, iv x3, iv y0, iv y1, iv y2, iv y3, iv kk, rv ob15, .unset, .unset, .unset, .unset, .unset, .unset] [(.int y3), (.int y2), (.int y1), (.int y0), (.ref ob19), (.ref ob19)])) _
          obtain ⟨_, _, ⟨T22, Lx22, kx22, nx22⟩, -, X22, ⟨Lc22, hQ22, lx22, yx22, zx22⟩, st22⟩ := X19.specialBack hx (y := (⟨"com/example/halyard/halyard/core/mal/TypeId", "<init>", "(IIII)V"⟩ : MethodName)) rfl hown (mvT hZ (wd hw 4 rfl)) (mvT hZ (wd hw 5 rfl)) (mvT hZ (wd hw 6 rfl)) (by decide) (backOf (W := 1) (rmInit l Z a0 hw [] ob19 y0 y1 y2 y3 h19 n0 Z19 Fn19_14 Fn19_16 Fn19_18 Fn19_20 Ax19 ge19 ry0.1 ry0.2 ry1.1 ry1.2 ry2.1 ry2.2 ry3.1 ry3.2) hZ (wd hw 6 rfl) (wd hw 3 rfl) (by decide) (by decide)) (g := (mkF m 149 #[iv p0, iv p1, iv p2, iv p3, iv p4, iv p5, iv x0, iv x1, iv x2, iv x3, iv y0, iv y1, iv y2, iv y3, iv kk, rv ob15, .unset, .unset, .unset, .unset, .unset, .unset] [(.int y3), (.int y2), (.int y1), (.int y0), (.ref ob19), (.ref ob19)])) rfl (by rw [hml]; rfl) (Steps.refl _) (a := ob19) (argsL := [(.int y0), (.int y1), (.int y2), (.int y3)]) (rest := [(.ref ob19)]) (lenOf pd_0 rfl) rfl (by show 2 * 0 + _ ≤ _; exact Nat.le_of_eq rfl) (hb hby at_149) (fun _ _ => ⟨rfl, e19, (by decide : 2 + 0 ≤ _), (by decide : 8 + 0 ≤ _)⟩)
          dsimp only [Pt.U, Pt.locs, Pt.cells, Pt.slots] at X22 lx22 yx22 zx22 st22 hQ22
          subst lx22 yx22 zx22
          obtain ⟨rfl, N22q, p22_0, p22_1, p22_2, p22_3, p22_4, p22_5⟩ := hQ22
          have N22 := Fr.app N17 N22q
          have Z22 : n0 ≤ T22.heap.size := Nat.le_trans Z19 p22_0.1
          refine own_lift (fun t k => st22.trans k) ?_
          show own_Go p.tables e below (T22.setTop (mkF m 152 #[iv p0, iv p1, iv p2, iv p3, iv p4, iv p5, iv x0, iv x1, iv x2, iv x3, iv y0, iv y1, iv y2, iv y3, iv kk, rv ob15, .unset, .unset, .unset, .unset, .unset, .unset] [(.ref ob19)])) _
          have sg23 : ∀ t, Steps p.tables e below (T22.setTop (mkF m 155 #[iv p0, iv p1, iv p2, iv p3, iv p4, iv p5, iv x0, iv x1, iv x2, iv x3, iv y0, iv y1, iv y2, iv y3, iv kk, rv ob15, rv ob19, .unset, .unset, .unset, .unset, .unset] [(.int 2)])) t → Steps p.tables e below (T22.setTop (mkF m 152 #[iv p0, iv p1, iv p2, iv p3, iv p4, iv p5, iv x0, iv x1, iv x2, iv x3, iv y0, iv y1, iv y2, iv y3, iv kk, rv ob15, .unset, .unset, .unset, .unset, .unset, .unset] [(.ref ob19)])) t := by
            intro t k
            refine XS.astore X22.here hx rfl (hb hby at_152) rfl rfl (l' := #[iv p0, iv p1, iv p2, iv p3, iv p4, iv p5, iv x0, iv x1, iv x2, iv x3, iv y0, iv y1, iv y2, iv y3, iv kk, rv ob15, rv ob19, .unset, .unset, .unset, .unset, .unset]) rfl ?_
            show Steps p.tables e below (T22.setTop (mkF m 154 #[iv p0, iv p1, iv p2, iv p3, iv p4, iv p5, iv x0, iv x1, iv x2, iv x3, iv y0, iv y1, iv y2, iv y3, iv kk, rv ob15, rv ob19, .unset, .unset, .unset, .unset, .unset] [])) _
            refine XS.iconst X22.here hx rfl (hb hby at_154) ?_
            show Steps p.tables e below (T22.setTop (mkF m 155 #[iv p0, iv p1, iv p2, iv p3, iv p4, iv p5, iv x0, iv x1, iv x2, iv x3, iv y0, iv y1, iv y2, iv y3, iv kk, rv ob15, rv ob19, .unset, .unset, .unset, .unset, .unset] [(.int 2)])) _
            exact k
          refine own_lift sg23 ?_
          show own_Go p.tables e below (T22.setTop (mkF m 155 #[iv p0, iv p1, iv p2, iv p3, iv p4, iv p5, iv x0, iv x1, iv x2, iv x3, iv y0, iv y1, iv y2, iv y3, iv kk, rv ob15, rv ob19, .unset, .unset, .unset, .unset, .unset] [(.int 2)])) _
          obtain ⟨T24, h24, ka24, X24, e24, Ex24, Ax24, st24⟩ := newP X22 hx hZ (wd hw 21 rfl) rfl (g := (mkF m 155 #[iv p0, iv p1, iv p2, iv p3, iv p4, iv p5, iv x0, iv x1, iv x2, iv x3, iv y0, iv y1, iv y2, iv y3, iv kk, rv ob15, rv ob19, .unset, .unset, .unset, .unset, .unset] [(.int 2)])) rfl (hb hby at_155) rfl (by decide) (cap := 2) (by decide) (by decide) (by decide) (by decide)
          obtain ⟨ob24, g24⟩ : ∃ z, z = T22.heap.size := ⟨_, rfl⟩
          rw [← g24] at Ax24 st24
          have Fc25 : Exa Z T22.heap ob15 "com/example/halyard/halyard/core/mal/TypeId" := ((p17_1.ext Ex19).keep p22_0)
          have ne26 : ob15 ≠ ob24 := Nat.ne_of_lt (Nat.lt_of_lt_of_le Fc25.lt (Nat.le_of_eq g24.symm))
          have ne27 : ob19 ≠ ob24 := Nat.ne_of_lt (Nat.lt_of_lt_of_le p22_1.lt (Nat.le_of_eq g24.symm))
          have Z24 : n0 ≤ h24.size := Nat.le_trans Z22 Ex24.1
          have ge24 : n0 ≤ ob24 := Nat.le_trans Z22 (Nat.le_of_eq g24.symm)
          have Vn24 : Arv Z h24 ob24 ka24 .char (2 : Int32) [(.int 0), (.int 0)] (.int 0) := (Arv.new Ax24 (by decide)).pad (pad_rep [] (.int 0) 2)
          refine own_lift st24 ?_
          show own_Go p.tables e below (T24.setTop (mkF m 157 #[iv p0, iv p1, iv p2, iv p3, iv p4, iv p5, iv x0, iv x1, iv x2, iv x3, iv y0, iv y1, iv y2, iv y3, iv kk, rv ob15, rv ob19, .unset, .unset, .unset, .unset, .unset] [(.ref ob24)])) _
          have sg28 : ∀ t, Steps p.tables e below (T24.setTop (mkF m 169 #[iv p0, iv p1, iv p2, iv p3, iv p4, iv p5, iv x0, iv x1, iv x2, iv x3, iv y0, iv y1, iv y2, iv y3, iv kk, rv ob15, rv ob19, rv ob24, .unset, .unset, .unset, .unset] [(.int ((p4 &&& (255 : Int32)).toUInt32.toUInt16.toUInt32.toInt32)), (.int 0), (.ref ob24)])) t → Steps p.tables e below (T24.setTop (mkF m 157 #[iv p0, iv p1, iv p2, iv p3, iv p4, iv p5, iv x0, iv x1, iv x2, iv x3, iv y0, iv y1, iv y2, iv y3, iv kk, rv ob15, rv ob19, .unset, .unset, .unset, .unset, .unset] [(.ref ob24)])) t := by
            intro t k
            refine XS.astore X24.here hx rfl (hb hby at_157) rfl rfl (l' := #[iv p0, iv p1, iv p2, iv p3, iv p4, iv p5, iv x0, iv x1, iv x2, iv x3, iv y0, iv y1, iv y2, iv y3, iv kk, rv ob15, rv ob19, rv ob24, .unset, .unset, .unset, .unset]) rfl ?_
            show Steps p.tables e below (T24.setTop (mkF m 159 #[iv p0, iv p1, iv p2, iv p3, iv p4, iv p5, iv x0, iv x1, iv x2, iv x3, iv y0, iv y1, iv y2, iv y3, iv kk, rv ob15, rv ob19, rv ob24, .unset, .unset, .unset, .unset] [])) _
            refine XS.aload X24.here hx rfl (hb hby at_159) rfl rfl ?_
            refine XS.iconst X24.here hx rfl (hb hby at_161) ?_
            show Steps p.tables e below (T24.setTop (mkF m 162 #[iv p0, iv p1, iv p2, iv p3, iv p4, iv p5, iv x0, iv x1, iv x2, iv x3, iv y0, iv y1, iv y2, iv y3, iv kk, rv ob15, rv ob19, rv ob24, .unset, .unset, .unset, .unset] [(.int 0), (.ref ob24)])) _
            refine XS.iload X24.here hx rfl (hb hby at_162) rfl ?_
            refine XS.sipush X24.here hx rfl (hb hby at_164) ?_
            show Steps p.tables e below (T24.setTop (mkF m 167 #[iv p0, iv p1, iv p2, iv p3, iv p4, iv p5, iv x0, iv x1, iv x2, iv x3, iv y0, iv y1, iv y2, iv y3, iv kk, rv ob15, rv ob19, rv ob24, .unset, .unset, .unset, .unset] [(.int 255), (.int p4), (.int 0), (.ref ob24)])) _
            refine XS.iand X24.here hx rfl (hb hby at_167) rfl ?_
            refine XS.i2c X24.here hx rfl (hb hby at_168) rfl ?_
            show Steps p.tables e below (T24.setTop (mkF m 169 #[iv p0, iv p1, iv p2, iv p3, iv p4, iv p5, iv x0, iv x1, iv x2, iv x3, iv y0, iv y1, iv y2, iv y3, iv kk, rv ob15, rv ob19, rv ob24, .unset, .unset, .unset, .unset] [(.int ((p4 &&& (255 : Int32)).toUInt32.toUInt16.toUInt32.toInt32)), (.int 0), (.ref ob24)])) _
            exact k
          refine own_lift sg28 ?_
          show own_Go p.tables e below (T24.setTop (mkF m 169 #[iv p0, iv p1, iv p2, iv p3, iv p4, iv p5, iv x0, iv x1, iv x2, iv x3, iv y0, iv y1, iv y2, iv y3, iv kk, rv ob15, rv ob19, rv ob24, .unset, .unset, .unset, .unset] [(.int ((p4 &&& (255 : Int32)).toUInt32.toUInt16.toUInt32.toInt32)), (.int 0), (.ref ob24)])) _
          obtain ⟨cl29, Ar29, qx29, Sx29, N29', H29', G29'⟩ := id (Vn24)
          have hin29 : ¬ ((0 : Int32) < 0 ∨ cl29.slots.size ≤ ((0 : Int32)).toNatClampNeg) := inb_of Sx29 ⟨(by decide : ¬ ((0 : Int32) < (0 : Int32))), (by decide : (0 : Int32) < (2 : Int32))⟩
          obtain ⟨T30, h30, X30, e30, W30, st30⟩ := stC X24 hx hZ e24 Ar29 (j := (0 : Int32)) hin29 (g := (mkF m 169 #[iv p0, iv p1, iv p2, iv p3, iv p4, iv p5, iv x0, iv x1, iv x2, iv x3, iv y0, iv y1, iv y2, iv y3, iv kk, rv ob15, rv ob19, rv ob24, .unset, .unset, .unset, .unset] [(.int ((p4 &&& (255 : Int32)).toUInt32.toUInt16.toUInt32.toInt32)), (.int 0), (.ref ob24)])) rfl rfl (hb hby at_169)
          have N30 := Fr.snoc X30 N22 ge24
          have Z30 : n0 ≤ h30.size := Nat.le_trans Z24 (Nat.le_of_eq W30.size.symm)
          have Vn30 : Arv Z h30 ob24 ka24 .char (2 : Int32) [(.int (nar .char ((p4 &&& (255 : Int32)).toUInt32.toUInt16.toUInt32.toInt32))), (.int 0)] (.int 0) := Arv.set Ar29 qx29 Sx29 N29' H29' G29' (fits_nar_char _) W30 0 rfl (Nat.le_of_ble_eq_true rfl)
          refine own_lift st30 ?_
          show own_Go p.tables e below (T30.setTop (mkF m 170 #[iv p0, iv p1, iv p2, iv p3, iv p4, iv p5, iv x0, iv x1, iv x2, iv x3, iv y0, iv y1, iv y2, iv y3, iv kk, rv ob15, rv ob19, rv ob24, .unset, .unset, .unset, .unset] [])) _
          have sg31 : ∀ t, Steps p.tables e below (T30.setTop (mkF m 183 #[iv p0, iv p1, iv p2, iv p3, iv p4, iv p5, iv x0, iv x1, iv x2, iv x3, iv y0, iv y1, iv y2, iv y3, iv kk, rv ob15, rv ob19, rv ob24, .unset, .unset, .unset, .unset] [(.int ((((p4.toUInt32 >>> ((8 : Int32) &&& 31).toUInt32).toInt32) &&& (255 : Int32)).toUInt32.toUInt16.toUInt32.toInt32)), (.int 1), (.ref ob24)])) t → Steps p.tables e below (T30.setTop (mkF m 170 #[iv p0, iv p1, iv p2, iv p3, iv p4, iv p5, iv x0, iv x1, iv x2, iv x3, iv y0, iv y1, iv y2, iv y3, iv kk, rv ob15, rv ob19, rv ob24, .unset, .unset, .unset, .unset] [])) t := by
            intro t k
            refine XS.aload X30.here hx rfl (hb hby at_170) rfl rfl ?_
            show Steps p.tables e below (T30.setTop (mkF m 172 #[iv p0, iv p1, iv p2, iv p3, iv p4, iv p5, iv x0, iv x1, iv x2, iv x3, iv y0, iv y1, iv y2, iv y3, iv kk, rv ob15, rv ob19, rv ob24, .unset, .unset, .unset, .unset] [(.ref ob24)])) _
            refine XS.iconst X30.here hx rfl (hb hby at_172) ?_
            refine XS.iload X30.here hx rfl (hb hby at_173) rfl ?_
            show Steps p.tables e below (T30.setTop (mkF m 175 #[iv p0, iv p1, iv p2, iv p3, iv p4, iv p5, iv x0, iv x1, iv x2, iv x3, iv y0, iv y1, iv y2, iv y3, iv kk, rv ob15, rv ob19, rv ob24, .unset, .unset, .unset, .unset] [(.int p4), (.int 1), (.ref ob24)])) _
            refine XS.bipush X30.here hx rfl (hb hby at_175) ?_
            refine XS.iushr X30.here hx rfl (hb hby at_177) rfl ?_
            show Steps p.tables e below (T30.setTop (mkF m 178 #[iv p0, iv p1, iv p2, iv p3, iv p4, iv p5, iv x0, iv x1, iv x2, iv x3, iv y0, iv y1, iv y2, iv y3, iv kk, rv ob15, rv ob19, rv ob24, .unset, .unset, .unset, .unset] [(.int ((p4.toUInt32 >>> ((8 : Int32) &&& 31).toUInt32).toInt32)), (.int 1), (.ref ob24)])) _
            refine XS.sipush X30.here hx rfl (hb hby at_178) ?_
            refine XS.iand X30.here hx rfl (hb hby at_181) rfl ?_
            show Steps p.tables e below (T30.setTop (mkF m 182 #[iv p0, iv p1, iv p2, iv p3, iv p4, iv p5, iv x0, iv x1, iv x2, iv x3, iv y0, iv y1, iv y2, iv y3, iv kk, rv ob15, rv ob19, rv ob24, .unset, .unset, .unset, .unset] [(.int (((p4.toUInt32 >>> ((8 : Int32) &&& 31).toUInt32).toInt32) &&& (255 : Int32))), (.int 1), (.ref ob24)])) _
            refine XS.i2c X30.here hx rfl (hb hby at_182) rfl ?_
            show Steps p.tables e below (T30.setTop (mkF m 183 #[iv p0, iv p1, iv p2, iv p3, iv p4, iv p5, iv x0, iv x1, iv x2, iv x3, iv y0, iv y1, iv y2, iv y3, iv kk, rv ob15, rv ob19, rv ob24, .unset, .unset, .unset, .unset] [(.int ((((p4.toUInt32 >>> ((8 : Int32) &&& 31).toUInt32).toInt32) &&& (255 : Int32)).toUInt32.toUInt16.toUInt32.toInt32)), (.int 1), (.ref ob24)])) _
            exact k
          refine own_lift sg31 ?_
          show own_Go p.tables e below (T30.setTop (mkF m 183 #[iv p0, iv p1, iv p2, iv p3, iv p4, iv p5, iv x0, iv x1, iv x2, iv x3, iv y0, iv y1, iv y2, iv y3, iv kk, rv ob15, rv ob19, rv ob24, .unset, .unset, .unset, .unset] [(.int ((((p4.toUInt32 >>> ((8 : Int32) &&& 31).toUInt32).toInt32) &&& (255 : Int32)).toUInt32.toUInt16.toUInt32.toInt32)), (.int 1), (.ref ob24)])) _
          obtain ⟨cl32, Ar32, qx32, Sx32, N32', H32', G32'⟩ := id (Vn30)
          have hin32 : ¬ ((1 : Int32) < 0 ∨ cl32.slots.size ≤ ((1 : Int32)).toNatClampNeg) := inb_of Sx32 ⟨(by decide : ¬ ((1 : Int32) < (0 : Int32))), (by decide : (1 : Int32) < (2 : Int32))⟩
          obtain ⟨T33, h33, X33, e33, W33, st33⟩ := stC X30 hx hZ e30 Ar32 (j := (1 : Int32)) hin32 (g := (mkF m 183 #[iv p0, iv p1, iv p2, iv p3, iv p4, iv p5, iv x0, iv x1, iv x2, iv x3, iv y0, iv y1, iv y2, iv y3, iv kk, rv ob15, rv ob19, rv ob24, .unset, .unset, .unset, .unset] [(.int ((((p4.toUInt32 >>> ((8 : Int32) &&& 31).toUInt32).toInt32) &&& (255 : Int32)).toUInt32.toUInt16.toUInt32.toInt32)), (.int 1), (.ref ob24)])) rfl rfl (hb hby at_183)
          have N33 := Fr.snoc X33 N30 ge24
          have Z33 : n0 ≤ h33.size := Nat.le_trans Z30 (Nat.le_of_eq W33.size.symm)
          have Vn33 : Arv Z h33 ob24 ka24 .char (2 : Int32) [(.int (nar .char ((p4 &&& (255 : Int32)).toUInt32.toUInt16.toUInt32.toInt32))), (.int (nar .char ((((p4.toUInt32 >>> ((8 : Int32) &&& 31).toUInt32).toInt32) &&& (255 : Int32)).toUInt32.toUInt16.toUInt32.toInt32)))] (.int 0) := Arv.set Ar32 qx32 Sx32 N32' H32' G32' (fits_nar_char _) W33 1 rfl (Nat.le_of_ble_eq_true rfl)
          refine own_lift st33 ?_
          show own_Go p.tables e below (T33.setTop (mkF m 184 #[iv p0, iv p1, iv p2, iv p3, iv p4, iv p5, iv x0, iv x1, iv x2, iv x3, iv y0, iv y1, iv y2, iv y3, iv kk, rv ob15, rv ob19, rv ob24, .unset, .unset, .unset, .unset] [])) _
          obtain ⟨T34, h34, X34, e34, Ex34, Ax34, Dx34, Ux34, st34⟩ := newO X33 hx hZ hown (wd hw 22 rfl) (wd hw 23 rfl) (wd hw 24 rfl) e33 (g := (mkF m 184 #[iv p0, iv p1, iv p2, iv p3, iv p4, iv p5, iv x0, iv x1, iv x2, iv x3, iv y0, iv y1, iv y2, iv y3, iv kk, rv ob15, rv ob19, rv ob24, .unset, .unset, .unset, .unset] [])) rfl (hb hby at_184) (by decide) (by decide)
          obtain ⟨ob34, g34⟩ : ∃ z, z = h33.size := ⟨_, rfl⟩
          rw [← g34] at Ax34 Dx34 Ux34 st34
          have Fc35 : Exa Z h33 ob15 "com/example/halyard/halyard/core/mal/TypeId" := (((Fc25.ext Ex24).wr W30).wr W33)
          have ne36 : ob15 ≠ ob34 := Nat.ne_of_lt (Nat.lt_of_lt_of_le Fc35.lt (Nat.le_of_eq g34.symm))
          have Fc37 : Exa Z h33 ob19 "com/example/halyard/halyard/core/mal/TypeId" := (((p22_1.ext Ex24).wr W30).wr W33)
          have ne38 : ob19 ≠ ob34 := Nat.ne_of_lt (Nat.lt_of_lt_of_le Fc37.lt (Nat.le_of_eq g34.symm))
          have ne39 : ob24 ≠ ob34 := Nat.ne_of_lt (Nat.lt_of_lt_of_le Vn33.lt (Nat.le_of_eq g34.symm))
          have Z34 : n0 ≤ h34.size := Nat.le_trans Z33 Ex34.1
          have ge34 : n0 ≤ ob34 := Nat.le_trans Z33 (Nat.le_of_eq g34.symm)
          have Fn34_46 : Fld Z h34 ob34 "java/lang/String" "coder" "B" (.int 0) := Dx34 (Or.inr (wd hw 46 rfl)) (ty := .byte) (by decide)
          have Fn34_48 : Fld Z h34 ob34 "java/lang/String" "value" "[B" .null := Dx34 (Or.inr (wd hw 48 rfl)) (ty := (.array .byte)) (by decide)
          refine own_lift st34 ?_
          show own_Go p.tables e below (T34.setTop (mkF m 187 #[iv p0, iv p1, iv p2, iv p3, iv p4, iv p5, iv x0, iv x1, iv x2, iv x3, iv y0, iv y1, iv y2, iv y3, iv kk, rv ob15, rv ob19, rv ob24, .unset, .unset, .unset, .unset] [(.ref ob34)])) _
          have sg40 : ∀ t, Steps p.tables e below (T34.setTop (mkF m 190 #[iv p0, iv p1, iv p2, iv p3, iv p4, iv p5, iv x0, iv x1, iv x2, iv x3, iv y0, iv y1, iv y2, iv y3, iv kk, rv ob15, rv ob19, rv ob24, .unset, .unset, .unset, .unset] [(.ref ob24), (.ref ob34), (.ref ob34)])) t → Steps p.tables e below (T34.setTop (mkF m 187 #[iv p0, iv p1, iv p2, iv p3, iv p4, iv p5, iv x0, iv x1, iv x2, iv x3, iv y0, iv y1, iv y2, iv y3, iv kk, rv ob15, rv ob19, rv ob24, .unset, .unset, .unset, .unset] [(.ref ob34)])) t := by
            intro t k
            refine XS.dup X34.here hx rfl (hb hby at_187) rfl rfl ?_
            show Steps p.tables e below (T34.setTop (mkF m 188 #[iv p0, iv p1, iv p2, iv p3, iv p4, iv p5, iv x0, iv x1, iv x2, iv x3, iv y0, iv y1, iv y2, iv y3, iv kk, rv ob15, rv ob19, rv ob24, .unset, .unset, .unset, .unset] [(.ref ob34), (.ref ob34)])) _
            refine XS.aload X34.here hx rfl (hb hby at_188) rfl rfl ?_
            show Steps p.tables e below (T34.setTop (mkF m 190 #[iv p0, iv p1, iv p2, iv p3, iv p4, iv p5, iv x0, iv x1, iv x2, iv x3, iv y0, iv y1, iv y2, iv y3, iv kk, rv ob15, rv ob19, rv ob24, .unset, .unset, .unset, .unset] [(.ref ob24), (.ref ob34), (.ref ob34)])) _
            exact k
          refine own_lift sg40 ?_
          show own_Go p.tables e below (T34.setTop (mkF m 190 #[iv p0, iv p1, iv p2, iv p3, iv p4, iv p5, iv x0, iv x1, iv x2, iv x3, iv y0, iv y1, iv y2, iv y3, iv kk, rv ob15, rv ob19, rv ob24, .unset, .unset, .unset, .unset] [(.ref ob24), (.ref ob34), (.ref ob34)])) _
          have Fc41 : Arv Z h34 ob24 ka24 .char (2 : Int32) [(.int (nar .char ((p4 &&& (255 : Int32)).toUInt32.toUInt16.toUInt32.toInt32))), (.int (nar .char ((((p4.toUInt32 >>> ((8 : Int32) &&& 31).toUInt32).toInt32) &&& (255 : Int32)).toUInt32.toUInt16.toUInt32.toInt32)))] (.int 0) := (Vn33.ext Ex34)
          have Fc42 : Sta Z h34 "java/lang/String" "COMPACT_STRINGS" "Z" (.int cs) := (((((own_Sta_keep ((own_Sta_keep (S_cs.ext Ex15) p17_0 (allS (own_plain Ax15) all0)).ext Ex19) p22_0 (allS (own_plain Ax19) all0)).ext Ex24).wr W30).wr W33).ext Ex34)
          have hws43 : ∀ d ∈ StrChars.Road.words, d.before a0 Z = true := fun d hd => hw d (own_words d hd)
          have hlat43 : ∀ c ∈ [(nar .char ((p4 &&& (255 : Int32)).toUInt32.toUInt16.toUInt32.toInt32)), (nar .char ((((p4.toUInt32 >>> ((8 : Int32) &&& 31).toUInt32).toInt32) &&& (255 : Int32)).toUInt32.toUInt16.toUInt32.toInt32))], ¬ c < 0 ∧ ¬ (255 : Int32) < c := own_lat p4
          obtain ⟨_, _, ⟨T43, Lx43, kx43, nx43⟩, -, X43, ⟨Lc43, hQ43, lx43, yx43, zx43⟩, st43⟩ := X34.specialBack hx (y := (⟨"java/lang/String", "<init>", "([C)V"⟩ : MethodName)) rfl hown (mvT hZ (wd hw 25 rfl)) (mvT hZ (wd hw 26 rfl)) (mvT hZ (wd hw 27 rfl)) (by decide) (StrChars.Road.backV (W := 1) hZ hws43 (kI := 4) (wd hw 23 rfl) (cs := [(nar .char ((p4 &&& (255 : Int32)).toUInt32.toUInt16.toUInt32.toInt32)), (nar .char ((((p4.toUInt32 >>> ((8 : Int32) &&& 31).toUInt32).toInt32) &&& (255 : Int32)).toUInt32.toUInt16.toUInt32.toInt32))]) (bs := [((nar .char ((p4 &&& (255 : Int32)).toUInt32.toUInt16.toUInt32.toInt32))).toInt8.toInt32, ((nar .char ((((p4.toUInt32 >>> ((8 : Int32) &&& 31).toUInt32).toInt32) &&& (255 : Int32)).toUInt32.toUInt16.toUInt32.toInt32))).toInt8.toInt32]) (n := 2) ge34 Z34 Ax34 Fn34_48 Fn34_46 Fc41 Fc42 P_cs rfl rfl (by decide) (by decide) hlat43 rfl (by decide) (by decide)) (g := (mkF m 190 #[iv p0, iv p1, iv p2, iv p3, iv p4, iv p5, iv x0, iv x1, iv x2, iv x3, iv y0, iv y1, iv y2, iv y3, iv kk, rv ob15, rv ob19, rv ob24, .unset, .unset, .unset, .unset] [(.ref ob24), (.ref ob34), (.ref ob34)])) rfl (by rw [hml]; rfl) (Steps.refl _) (a := ob34) (argsL := [(.ref ob24)]) (rest := [(.ref ob34)]) (lenOf pd_1 rfl) rfl (by show 2 * 0 + _ ≤ _; exact Nat.le_of_eq rfl) (hb hby at_190) (fun _ _ => ⟨rfl, e34, (by decide : 4 + 1 ≤ _), (by decide : 14 + 2 ≤ _)⟩)
          dsimp only [Pt.U, Pt.locs, Pt.cells, Pt.slots] at X43 lx43 yx43 zx43 st43 hQ43
          subst lx43 yx43 zx43
          obtain ⟨rfl, N43q, Kq43, Eq43, Cq43, tb43, kb43, gt43, gh43, nt43, Vq43, Aq43⟩ := hQ43
          have N43 := Fr.app N33 N43q
          have Fc44 : Exa Z h34 ob15 "com/example/halyard/halyard/core/mal/TypeId" := (Fc35.ext Ex34)
          have ne45 : ob15 ≠ tb43 := Nat.ne_of_lt (Nat.lt_of_lt_of_le Fc44.lt gh43)
          have Fc46 : Exa Z h34 ob19 "com/example/halyard/halyard/core/mal/TypeId" := (Fc37.ext Ex34)
          have ne47 : ob19 ≠ tb43 := Nat.ne_of_lt (Nat.lt_of_lt_of_le Fc46.lt gh43)
          have ne48 : ob24 ≠ tb43 := Nat.ne_of_lt (Nat.lt_of_lt_of_le Fc41.lt gh43)
          have ne49 : ob34 ≠ tb43 := Nat.ne_of_lt (Nat.lt_of_lt_of_le Ax34.lt gh43)
          have Z43 : n0 ≤ T43.heap.size := Nat.le_trans Z34 Kq43.1
          refine own_lift (fun t k => st43.trans k) ?_
          show own_Go p.tables e below (T43.setTop (mkF m 193 #[iv p0, iv p1, iv p2, iv p3, iv p4, iv p5, iv x0, iv x1, iv x2, iv x3, iv y0, iv y1, iv y2, iv y3, iv kk, rv ob15, rv ob19, rv ob24, .unset, .unset, .unset, .unset] [(.ref ob34)])) _
          have sg50 : ∀ t, Steps p.tables e below (T43.setTop (mkF m 269 #[iv p0, iv p1, iv p2, iv p3, iv p4, iv p5, iv x0, iv x1, iv x2, iv x3, iv y0, iv y1, iv y2, iv y3, iv kk, rv ob15, rv ob19, rv ob24, rv ob34, rv ob19, iv 0, .unset] [(.ref ob19), (.ref ob15)])) t → Steps p.tables e below (T43.setTop (mkF m 193 #[iv p0, iv p1, iv p2, iv p3, iv p4, iv p5, iv x0, iv x1, iv x2, iv x3, iv y0, iv y1, iv y2, iv y3, iv kk, rv ob15, rv ob19, rv ob24, .unset, .unset, .unset, .unset] [(.ref ob34)])) t := by
            intro t k
            refine XS.astore X43.here hx rfl (hb hby at_193) rfl rfl (l' := #[iv p0, iv p1, iv p2, iv p3, iv p4, iv p5, iv x0, iv x1, iv x2, iv x3, iv y0, iv y1, iv y2, iv y3, iv kk, rv ob15, rv ob19, rv ob24, rv ob34, .unset, .unset, .unset]) rfl ?_
            show Steps p.tables e below (T43.setTop (mkF m 195 #[iv p0, iv p1, iv p2, iv p3, iv p4, iv p5, iv x0, iv x1, iv x2, iv x3, iv y0, iv y1, iv y2, iv y3, iv kk, rv ob15, rv ob19, rv ob24, rv ob34, .unset, .unset, .unset] [])) _
            refine XS.iload X43.here hx rfl (hb hby at_195) rfl ?_
            refine XS.iconst X43.here hx rfl (hb hby at_197) ?_
            show Steps p.tables e below (T43.setTop (mkF m 198 #[iv p0, iv p1, iv p2, iv p3, iv p4, iv p5, iv x0, iv x1, iv x2, iv x3, iv y0, iv y1, iv y2, iv y3, iv kk, rv ob15, rv ob19, rv ob24, rv ob34, .unset, .unset, .unset] [(.int 2), (.int kk)])) _
            refine XS.icmpNo X43.here hx rfl (hb hby at_198) rfl (tlt k2).2.1 ?_
            refine XS.aload X43.here hx rfl (hb hby at_201) rfl rfl ?_
            show Steps p.tables e below (T43.setTop (mkF m 203 #[iv p0, iv p1, iv p2, iv p3, iv p4, iv p5, iv x0, iv x1, iv x2, iv x3, iv y0, iv y1, iv y2, iv y3, iv kk, rv ob15, rv ob19, rv ob24, rv ob34, .unset, .unset, .unset] [(.ref ob19)])) _
            refine XS.astore X43.here hx rfl (hb hby at_203) rfl rfl (l' := #[iv p0, iv p1, iv p2, iv p3, iv p4, iv p5, iv x0, iv x1, iv x2, iv x3, iv y0, iv y1, iv y2, iv y3, iv kk, rv ob15, rv ob19, rv ob24, rv ob34, rv ob19, .unset, .unset]) rfl ?_
            refine XS.goto X43.here hx rfl (pc0 := 205) (pc' := 224) rfl (hb hby at_205) (by decide) (by decide) ?_
            show Steps p.tables e below (T43.setTop (mkF m 224 #[iv p0, iv p1, iv p2, iv p3, iv p4, iv p5, iv x0, iv x1, iv x2, iv x3, iv y0, iv y1, iv y2, iv y3, iv kk, rv ob15, rv ob19, rv ob24, rv ob34, rv ob19, .unset, .unset] [])) _
            refine XS.iload X43.here hx rfl (hb hby at_224) rfl ?_
            refine XS.iconst X43.here hx rfl (hb hby at_226) ?_
            show Steps p.tables e below (T43.setTop (mkF m 227 #[iv p0, iv p1, iv p2, iv p3, iv p4, iv p5, iv x0, iv x1, iv x2, iv x3, iv y0, iv y1, iv y2, iv y3, iv kk, rv ob15, rv ob19, rv ob24, rv ob34, rv ob19, .unset, .unset] [(.int 2), (.int kk)])) _
            refine XS.icmpNo X43.here hx rfl (hb hby at_227) rfl (tlt k2).2.1 ?_
            refine XS.iload X43.here hx rfl (hb hby at_230) rfl ?_
            show Steps p.tables e below (T43.setTop (mkF m 232 #[iv p0, iv p1, iv p2, iv p3, iv p4, iv p5, iv x0, iv x1, iv x2, iv x3, iv y0, iv y1, iv y2, iv y3, iv kk, rv ob15, rv ob19, rv ob24, rv ob34, rv ob19, .unset, .unset] [(.int x0)])) _
            refine XS.iload X43.here hx rfl (hb hby at_232) rfl ?_
            refine XS.icmpNo X43.here hx rfl (hb hby at_234) rfl (teq d0).2 ?_
            show Steps p.tables e below (T43.setTop (mkF m 237 #[iv p0, iv p1, iv p2, iv p3, iv p4, iv p5, iv x0, iv x1, iv x2, iv x3, iv y0, iv y1, iv y2, iv y3, iv kk, rv ob15, rv ob19, rv ob24, rv ob34, rv ob19, .unset, .unset] [])) _
            refine XS.iload X43.here hx rfl (hb hby at_237) rfl ?_
            refine XS.iload X43.here hx rfl (hb hby at_239) rfl ?_
            show Steps p.tables e below (T43.setTop (mkF m 241 #[iv p0, iv p1, iv p2, iv p3, iv p4, iv p5, iv x0, iv x1, iv x2, iv x3, iv y0, iv y1, iv y2, iv y3, iv kk, rv ob15, rv ob19, rv ob24, rv ob34, rv ob19, .unset, .unset] [(.int y1), (.int x1)])) _
            refine XS.icmpYes X43.here hx rfl (pc0 := 241) (pc' := 262) rfl (hb hby at_241) rfl (feq d1).2 (by decide) (by decide) ?_
            refine XS.iconst X43.here hx rfl (hb hby at_262) ?_
            show Steps p.tables e below (T43.setTop (mkF m 263 #[iv p0, iv p1, iv p2, iv p3, iv p4, iv p5, iv x0, iv x1, iv x2, iv x3, iv y0, iv y1, iv y2, iv y3, iv kk, rv ob15, rv ob19, rv ob24, rv ob34, rv ob19, .unset, .unset] [(.int 0)])) _
            refine XS.istore X43.here hx rfl (hb hby at_263) rfl (l' := #[iv p0, iv p1, iv p2, iv p3, iv p4, iv p5, iv x0, iv x1, iv x2, iv x3, iv y0, iv y1, iv y2, iv y3, iv kk, rv ob15, rv ob19, rv ob24, rv ob34, rv ob19, iv 0, .unset]) rfl ?_
            refine XS.aload X43.here hx rfl (hb hby at_265) rfl rfl ?_
            show Steps p.tables e below (T43.setTop (mkF m 267 #[iv p0, iv p1, iv p2, iv p3, iv p4, iv p5, iv x0, iv x1, iv x2, iv x3, iv y0, iv y1, iv y2, iv y3, iv kk, rv ob15, rv ob19, rv ob24, rv ob34, rv ob19, iv 0, .unset] [(.ref ob15)])) _
            refine XS.aload X43.here hx rfl (hb hby at_267) rfl rfl ?_
            show Steps p.tables e below (T43.setTop (mkF m 269 #[iv p0, iv p1, iv p2, iv p3, iv p4, iv p5, iv x0, iv x1, iv x2, iv x3, iv y0, iv y1, iv y2, iv y3, iv kk, rv ob15, rv ob19, rv ob24, rv ob34, rv ob19, iv 0, .unset] [(.ref ob19), (.ref ob15)])) _
            exact k
          refine own_lift sg50 ?_
          show own_Go p.tables e below (T43.setTop (mkF m 269 #[iv p0, iv p1, iv p2, iv p3, iv p4, iv p5, iv x0, iv x1, iv x2, iv x3, iv y0, iv y1, iv y2, iv y3, iv kk, rv ob15, rv ob19, rv ob24, rv ob34, rv ob19, iv 0, .unset] [(.ref ob19), (.ref ob15)])) _
          have Fc51 : Fld Z T43.heap ob15 "com/example/halyard/halyard/core/mal/TypeId" "area" "I" (.int x0) := (((((((p17_2.ext Ex19).keep p22_0 (ninS ne20 nin0)).ext Ex24).other W30 (Or.inl ne26)).other W33 (Or.inl ne26)).ext Ex34).keep Kq43 (ninS ne36 nin0))
          have Fc52 : Fld Z T43.heap ob15 "com/example/halyard/halyard/core/mal/TypeId" "service" "I" (.int x1) := (((((((p17_3.ext Ex19).keep p22_0 (ninS ne20 nin0)).ext Ex24).other W30 (Or.inl ne26)).other W33 (Or.inl ne26)).ext Ex34).keep Kq43 (ninS ne36 nin0))
          have Fc53 : Fld Z T43.heap ob15 "com/example/halyard/halyard/core/mal/TypeId" "areaVersion" "I" (.int x2) := (((((((p17_4.ext Ex19).keep p22_0 (ninS ne20 nin0)).ext Ex24).other W30 (Or.inl ne26)).other W33 (Or.inl ne26)).ext Ex34).keep Kq43 (ninS ne36 nin0))
          have Fc54 : Fld Z T43.heap ob15 "com/example/halyard/halyard/core/mal/TypeId" "shortFormPart" "I" (.int x3) := (((((((p17_5.ext Ex19).keep p22_0 (ninS ne20 nin0)).ext Ex24).other W30 (Or.inl ne26)).other W33 (Or.inl ne26)).ext Ex34).keep Kq43 (ninS ne36 nin0))
          have Fc55 : Fld Z T43.heap ob19 "com/example/halyard/halyard/core/mal/TypeId" "area" "I" (.int y0) := (((((p22_2.ext Ex24).other W30 (Or.inl ne27)).other W33 (Or.inl ne27)).ext Ex34).keep Kq43 (ninS ne38 nin0))
          have Fc56 : Fld Z T43.heap ob19 "com/example/halyard/halyard/core/mal/TypeId" "service" "I" (.int y1) := (((((p22_3.ext Ex24).other W30 (Or.inl ne27)).other W33 (Or.inl ne27)).ext Ex34).keep Kq43 (ninS ne38 nin0))
          have Fc57 : Fld Z T43.heap ob19 "com/example/halyard/halyard/core/mal/TypeId" "areaVersion" "I" (.int y2) := (((((p22_4.ext Ex24).other W30 (Or.inl ne27)).other W33 (Or.inl ne27)).ext Ex34).keep Kq43 (ninS ne38 nin0))
          have Fc58 : Fld Z T43.heap ob19 "com/example/halyard/halyard/core/mal/TypeId" "shortFormPart" "I" (.int y3) := (((((p22_5.ext Ex24).other W30 (Or.inl ne27)).other W33 (Or.inl ne27)).ext Ex34).keep Kq43 (ninS ne38 nin0))
          have Fc59 : Exa Z T43.heap ob19 "com/example/halyard/halyard/core/mal/TypeId" := (Fc46.keep Kq43)
          have Fc61 : Exa Z T43.heap ob15 "com/example/halyard/halyard/core/mal/TypeId" := (Fc44.keep Kq43)
          obtain ⟨cq60, kq60, q60a, q60b, q60c⟩ := isOf hZ rfl Fc61
          obtain ⟨_, _, ⟨T60, Lx60, kx60, nx60⟩, -, X60, ⟨Lc60, hQ60, lx60, yx60, zx60⟩, st60⟩ := X43.virtualBack hx (y := (⟨"com/example/halyard/halyard/core/mal/TypeId", "equals", "(Ljava/lang/Object;)Z"⟩ : MethodName)) (z := (⟨"com/example/halyard/halyard/core/mal/TypeId", "equals", "(Ljava/lang/Object;)Z"⟩ : MethodName)) hown (mvT hZ (wd hw 49 rfl)) (mvT hZ (wd hw 50 rfl)) (notFace_of_selects (args := #[]) (mvT hZ (wd hw 52 rfl))) (mvT hZ (wd hw 52 rfl)) (mvT hZ (wd hw 51 rfl)) (by decide) (backOf (W := 0) (rmEq1 l Z a0 hw [] ob15 ob19 x0 x1 x2 x3 y0 y1 y2 y3 T43.heap n0 Z43 Fc51 Fc52 Fc53 Fc54 Fc55 Fc56 Fc57 Fc58 Fc59 d0 d1) hZ (wd hw 53 rfl) (wd hw 3 rfl) (by decide) (by decide)) q60a q60c (g := (mkF m 269 #[iv p0, iv p1, iv p2, iv p3, iv p4, iv p5, iv x0, iv x1, iv x2, iv x3, iv y0, iv y1, iv y2, iv y3, iv kk, rv ob15, rv ob19, rv ob24, rv ob34, rv ob19, iv 0, .unset] [(.ref ob19), (.ref ob15)])) rfl (by rw [hml]; rfl) (Steps.refl _) (argsL := [(.ref ob19)]) (rest := []) (lenOf pd_2 rfl) rfl (by show 2 * 0 + _ ≤ _; exact Nat.le_of_eq rfl) (hb hby at_269) (fun _ _ => ⟨rfl, rfl, (by decide : 5 + 0 ≤ _), (by decide : 16 + 0 ≤ _)⟩)
          dsimp only [Pt.U, Pt.locs, Pt.cells, Pt.slots] at X60 lx60 yx60 zx60 st60 hQ60
          subst lx60 yx60 zx60
          obtain ⟨rfl, N60q, e60⟩ := hQ60
          have N60 := Fr.app N43 N60q
          refine own_lift (fun t k => st60.trans k) ?_
          show own_Go p.tables e below (T60.setTop (mkF m 272 #[iv p0, iv p1, iv p2, iv p3, iv p4, iv p5, iv x0, iv x1, iv x2, iv x3, iv y0, iv y1, iv y2, iv y3, iv kk, rv ob15, rv ob19, rv ob24, rv ob34, rv ob19, iv 0, .unset] [(.int 0)])) _
          have sg62 : ∀ t, Steps p.tables e below (T60.setTop (mkF m 299 #[iv p0, iv p1, iv p2, iv p3, iv p4, iv p5, iv x0, iv x1, iv x2, iv x3, iv y0, iv y1, iv y2, iv y3, iv kk, rv ob15, rv ob19, rv ob24, rv ob34, rv ob19, iv 0, iv 1] [(.ref ob15), (.ref ob19)])) t → Steps p.tables e below (T60.setTop (mkF m 272 #[iv p0, iv p1, iv p2, iv p3, iv p4, iv p5, iv x0, iv x1, iv x2, iv x3, iv y0, iv y1, iv y2, iv y3, iv kk, rv ob15, rv ob19, rv ob24, rv ob34, rv ob19, iv 0, .unset] [(.int 0)])) t := by
            intro t k
            refine XS.iload X60.here hx rfl (hb hby at_272) rfl ?_
            show Steps p.tables e below (T60.setTop (mkF m 274 #[iv p0, iv p1, iv p2, iv p3, iv p4, iv p5, iv x0, iv x1, iv x2, iv x3, iv y0, iv y1, iv y2, iv y3, iv kk, rv ob15, rv ob19, rv ob24, rv ob34, rv ob19, iv 0, .unset] [(.int 0), (.int 0)])) _
            refine XS.icmpNo X60.here hx rfl (hb hby at_274) rfl (teq (by decide : (0 : Int32) = (0 : Int32))).2 ?_
            refine XS.iconst X60.here hx rfl (hb hby at_277) ?_
            show Steps p.tables e below (T60.setTop (mkF m 278 #[iv p0, iv p1, iv p2, iv p3, iv p4, iv p5, iv x0, iv x1, iv x2, iv x3, iv y0, iv y1, iv y2, iv y3, iv kk, rv ob15, rv ob19, rv ob24, rv ob34, rv ob19, iv 0, .unset] [(.int 1)])) _
            refine XS.goto X60.here hx rfl (pc0 := 278) (pc' := 282) rfl (hb hby at_278) (by decide) (by decide) ?_
            refine XS.istore X60.here hx rfl (hb hby at_282) rfl (l' := #[iv p0, iv p1, iv p2, iv p3, iv p4, iv p5, iv x0, iv x1, iv x2, iv x3, iv y0, iv y1, iv y2, iv y3, iv kk, rv ob15, rv ob19, rv ob24, rv ob34, rv ob19, iv 0, iv 1]) rfl ?_
            show Steps p.tables e below (T60.setTop (mkF m 284 #[iv p0, iv p1, iv p2, iv p3, iv p4, iv p5, iv x0, iv x1, iv x2, iv x3, iv y0, iv y1, iv y2, iv y3, iv kk, rv ob15, rv ob19, rv ob24, rv ob34, rv ob19, iv 0, iv 1] [])) _
            refine XS.iload X60.here hx rfl (hb hby at_284) rfl ?_
            refine XS.iconst X60.here hx rfl (hb hby at_286) ?_
            show Steps p.tables e below (T60.setTop (mkF m 287 #[iv p0, iv p1, iv p2, iv p3, iv p4, iv p5, iv x0, iv x1, iv x2, iv x3, iv y0, iv y1, iv y2, iv y3, iv kk, rv ob15, rv ob19, rv ob24, rv ob34, rv ob19, iv 0, iv 1] [(.int 2), (.int kk)])) _
            refine XS.icmpNo X60.here hx rfl (hb hby at_287) rfl (tlt k2).2.1 ?_
            refine XS.iload X60.here hx rfl (hb hby at_290) rfl ?_
            show Steps p.tables e below (T60.setTop (mkF m 292 #[iv p0, iv p1, iv p2, iv p3, iv p4, iv p5, iv x0, iv x1, iv x2, iv x3, iv y0, iv y1, iv y2, iv y3, iv kk, rv ob15, rv ob19, rv ob24, rv ob34, rv ob19, iv 0, iv 1] [(.int 1)])) _
            refine XS.ifNo X60.here hx rfl (hb hby at_292) rfl ((if0 _ _).trans (feq (by decide : ¬ ((1 : Int32) = (0 : Int32)))).1) ?_
            refine XS.aload X60.here hx rfl (hb hby at_295) rfl rfl ?_
            show Steps p.tables e below (T60.setTop (mkF m 297 #[iv p0, iv p1, iv p2, iv p3, iv p4, iv p5, iv x0, iv x1, iv x2, iv x3, iv y0, iv y1, iv y2, iv y3, iv kk, rv ob15, rv ob19, rv ob24, rv ob34, rv ob19, iv 0, iv 1] [(.ref ob19)])) _
            refine XS.aload X60.here hx rfl (hb hby at_297) rfl rfl ?_
            show Steps p.tables e below (T60.setTop (mkF m 299 #[iv p0, iv p1, iv p2, iv p3, iv p4, iv p5, iv x0, iv x1, iv x2, iv x3, iv y0, iv y1, iv y2, iv y3, iv kk, rv ob15, rv ob19, rv ob24, rv ob34, rv ob19, iv 0, iv 1] [(.ref ob15), (.ref ob19)])) _
            exact k
          refine own_lift sg62 ?_
          show own_Go p.tables e below (T60.setTop (mkF m 299 #[iv p0, iv p1, iv p2, iv p3, iv p4, iv p5, iv x0, iv x1, iv x2, iv x3, iv y0, iv y1, iv y2, iv y3, iv kk, rv ob15, rv ob19, rv ob24, rv ob34, rv ob19, iv 0, iv 1] [(.ref ob15), (.ref ob19)])) _
          obtain ⟨cq63, kq63, q63a, q63b, q63c⟩ := isOf hZ e60 Fc59
          obtain ⟨_, _, ⟨T63, Lx63, kx63, nx63⟩, -, X63, ⟨Lc63, hQ63, lx63, yx63, zx63⟩, st63⟩ := X60.virtualBack hx (y := (⟨"com/example/halyard/halyard/core/mal/TypeId", "equals", "(Ljava/lang/Object;)Z"⟩ : MethodName)) (z := (⟨"com/example/halyard/halyard/core/mal/TypeId", "equals", "(Ljava/lang/Object;)Z"⟩ : MethodName)) hown (mvT hZ (wd hw 49 rfl)) (mvT hZ (wd hw 50 rfl)) (notFace_of_selects (args := #[]) (mvT hZ (wd hw 52 rfl))) (mvT hZ (wd hw 52 rfl)) (mvT hZ (wd hw 51 rfl)) (by decide) (backOf (W := 0) (rmEq1 l Z a0 hw [] ob19 ob15 y0 y1 y2 y3 x0 x1 x2 x3 T43.heap n0 Z43 Fc55 Fc56 Fc57 Fc58 Fc51 Fc52 Fc53 Fc54 Fc61 (Eq.symm d0) (fun q => d1 (Eq.symm q))) hZ (wd hw 53 rfl) (wd hw 3 rfl) (by decide) (by decide)) q63a q63c (g := (mkF m 299 #[iv p0, iv p1, iv p2, iv p3, iv p4, iv p5, iv x0, iv x1, iv x2, iv x3, iv y0, iv y1, iv y2, iv y3, iv kk, rv ob15, rv ob19, rv ob24, rv ob34, rv ob19, iv 0, iv 1] [(.ref ob15), (.ref ob19)])) rfl (by rw [hml]; rfl) (Steps.refl _) (argsL := [(.ref ob15)]) (rest := []) (lenOf pd_2 rfl) rfl (by show 2 * 0 + _ ≤ _; exact Nat.le_of_eq rfl) (hb hby at_299) (fun _ _ => ⟨rfl, e60, (by decide : 5 + 0 ≤ _), (by decide : 16 + 0 ≤ _)⟩)
          dsimp only [Pt.U, Pt.locs, Pt.cells, Pt.slots] at X63 lx63 yx63 zx63 st63 hQ63
          subst lx63 yx63 zx63
          obtain ⟨rfl, N63q, e63⟩ := hQ63
          have N63 := Fr.app N60 N63q
          refine own_lift (fun t k => st63.trans k) ?_
          show own_Go p.tables e below (T63.setTop (mkF m 302 #[iv p0, iv p1, iv p2, iv p3, iv p4, iv p5, iv x0, iv x1, iv x2, iv x3, iv y0, iv y1, iv y2, iv y3, iv kk, rv ob15, rv ob19, rv ob24, rv ob34, rv ob19, iv 0, iv 1] [(.int 0)])) _
          have sg64 : ∀ t, Steps p.tables e below (T63.setTop (mkF m 323 #[iv p0, iv p1, iv p2, iv p3, iv p4, iv p5, iv x0, iv x1, iv x2, iv x3, iv y0, iv y1, iv y2, iv y3, iv kk, rv ob15, rv ob19, rv ob24, rv ob34, rv ob19, iv 0, iv 1] [(.ref ob15), (.ref ob15)])) t → Steps p.tables e below (T63.setTop (mkF m 302 #[iv p0, iv p1, iv p2, iv p3, iv p4, iv p5, iv x0, iv x1, iv x2, iv x3, iv y0, iv y1, iv y2, iv y3, iv kk, rv ob15, rv ob19, rv ob24, rv ob34, rv ob19, iv 0, iv 1] [(.int 0)])) t := by
            intro t k
            refine XS.iload X63.here hx rfl (hb hby at_302) rfl ?_
            show Steps p.tables e below (T63.setTop (mkF m 304 #[iv p0, iv p1, iv p2, iv p3, iv p4, iv p5, iv x0, iv x1, iv x2, iv x3, iv y0, iv y1, iv y2, iv y3, iv kk, rv ob15, rv ob19, rv ob24, rv ob34, rv ob19, iv 0, iv 1] [(.int 0), (.int 0)])) _
            refine XS.icmpNo X63.here hx rfl (hb hby at_304) rfl (teq (by decide : (0 : Int32) = (0 : Int32))).2 ?_
            refine XS.iconst X63.here hx rfl (hb hby at_307) ?_
            show Steps p.tables e below (T63.setTop (mkF m 308 #[iv p0, iv p1, iv p2, iv p3, iv p4, iv p5, iv x0, iv x1, iv x2, iv x3, iv y0, iv y1, iv y2, iv y3, iv kk, rv ob15, rv ob19, rv ob24, rv ob34, rv ob19, iv 0, iv 1] [(.int 1)])) _
            refine XS.goto X63.here hx rfl (pc0 := 308) (pc' := 312) rfl (hb hby at_308) (by decide) (by decide) ?_
            refine XS.istore X63.here hx rfl (hb hby at_312) rfl (l' := #[iv p0, iv p1, iv p2, iv p3, iv p4, iv p5, iv x0, iv x1, iv x2, iv x3, iv y0, iv y1, iv y2, iv y3, iv kk, rv ob15, rv ob19, rv ob24, rv ob34, rv ob19, iv 0, iv 1]) rfl ?_
            show Steps p.tables e below (T63.setTop (mkF m 314 #[iv p0, iv p1, iv p2, iv p3, iv p4, iv p5, iv x0, iv x1, iv x2, iv x3, iv y0, iv y1, iv y2, iv y3, iv kk, rv ob15, rv ob19, rv ob24, rv ob34, rv ob19, iv 0, iv 1] [])) _
            refine XS.iload X63.here hx rfl (hb hby at_314) rfl ?_
            refine XS.ifNo X63.here hx rfl (hb hby at_316) rfl ((if0 _ _).trans (feq (by decide : ¬ ((1 : Int32) = (0 : Int32)))).1) ?_
            show Steps p.tables e below (T63.setTop (mkF m 319 #[iv p0, iv p1, iv p2, iv p3, iv p4, iv p5, iv x0, iv x1, iv x2, iv x3, iv y0, iv y1, iv y2, iv y3, iv kk, rv ob15, rv ob19, rv ob24, rv ob34, rv ob19, iv 0, iv 1] [])) _
            refine XS.aload X63.here hx rfl (hb hby at_319) rfl rfl ?_
            refine XS.aload X63.here hx rfl (hb hby at_321) rfl rfl ?_
            show Steps p.tables e below (T63.setTop (mkF m 323 #[iv p0, iv p1, iv p2, iv p3, iv p4, iv p5, iv x0, iv x1, iv x2, iv x3, iv y0, iv y1, iv y2, iv y3, iv kk, rv ob15, rv ob19, rv ob24, rv ob34, rv ob19, iv 0, iv 1] [(.ref ob15), (.ref ob15)])) _
            exact k
          refine own_lift sg64 ?_
          show own_Go p.tables e below (T63.setTop (mkF m 323 #[iv p0, iv p1, iv p2, iv p3, iv p4, iv p5, iv x0, iv x1, iv x2, iv x3, iv y0, iv y1, iv y2, iv y3, iv kk, rv ob15, rv ob19, rv ob24, rv ob34, rv ob19, iv 0, iv 1] [(.ref ob15), (.ref ob15)])) _
          obtain ⟨cq65, kq65, q65a, q65b, q65c⟩ := isOf hZ e63 Fc61
          obtain ⟨_, _, ⟨T65, Lx65, kx65, nx65⟩, -, X65, ⟨Lc65, hQ65, lx65, yx65, zx65⟩, st65⟩ := X63.virtualBack hx (y := (⟨"com/example/halyard/halyard/core/mal/TypeId", "equals", "(Ljava/lang/Object;)Z"⟩ : MethodName)) (z := (⟨"com/example/halyard/halyard/core/mal/TypeId", "equals", "(Ljava/lang/Object;)Z"⟩ : MethodName)) hown (mvT hZ (wd hw 49 rfl)) (mvT hZ (wd hw 50 rfl)) (notFace_of_selects (args := #[]) (mvT hZ (wd hw 52 rfl))) (mvT hZ (wd hw 52 rfl)) (mvT hZ (wd hw 51 rfl)) (by decide) (backOf (W := 0) (rmEq4 l Z a0 hw [] ob15 ob15 x0 x1 x2 x3 x0 x1 x2 x3 T43.heap n0 Z43 Fc51 Fc52 Fc53 Fc54 Fc51 Fc52 Fc53 Fc54 Fc61 (rfl : x0 = x0) (rfl : x1 = x1) (rfl : x2 = x2) (rfl : x3 = x3)) hZ (wd hw 53 rfl) (wd hw 3 rfl) (by decide) (by decide)) q65a q65c (g := (mkF m 323 #[iv p0, iv p1, iv p2, iv p3, iv p4, iv p5, iv x0, iv x1, iv x2, iv x3, iv y0, iv y1, iv y2, iv y3, iv kk, rv ob15, rv ob19, rv ob24, rv ob34, rv ob19, iv 0, iv 1] [(.ref ob15), (.ref ob15)])) rfl (by rw [hml]; rfl) (Steps.refl _) (argsL := [(.ref ob15)]) (rest := []) (lenOf pd_2 rfl) rfl (by show 2 * 0 + _ ≤ _; exact Nat.le_of_eq rfl) (hb hby at_323) (fun _ _ => ⟨rfl, e63, (by decide : 5 + 0 ≤ _), (by decide : 16 + 0 ≤ _)⟩)
          dsimp only [Pt.U, Pt.locs, Pt.cells, Pt.slots] at X65 lx65 yx65 zx65 st65 hQ65
          subst lx65 yx65 zx65
          obtain ⟨rfl, N65q, e65⟩ := hQ65
          have N65 := Fr.app N63 N65q
          refine own_lift (fun t k => st65.trans k) ?_
          show own_Go p.tables e below (T65.setTop (mkF m 326 #[iv p0, iv p1, iv p2, iv p3, iv p4, iv p5, iv x0, iv x1, iv x2, iv x3, iv y0, iv y1, iv y2, iv y3, iv kk, rv ob15, rv ob19, rv ob24, rv ob34, rv ob19, iv 0, iv 1] [(.int 1)])) _
          have sg66 : ∀ t, Steps p.tables e below (T65.setTop (mkF m 338 #[iv p0, iv p1, iv p2, iv p3, iv p4, iv p5, iv x0, iv x1, iv x2, iv x3, iv y0, iv y1, iv y2, iv y3, iv kk, rv ob15, rv ob19, rv ob24, rv ob34, rv ob19, iv 0, iv 1] [(.int 1)])) t → Steps p.tables e below (T65.setTop (mkF m 326 #[iv p0, iv p1, iv p2, iv p3, iv p4, iv p5, iv x0, iv x1, iv x2, iv x3, iv y0, iv y1, iv y2, iv y3, iv kk, rv ob15, rv ob19, rv ob24, rv ob34, rv ob19, iv 0, iv 1] [(.int 1)])) t := by
            intro t k
            refine XS.ifNo X65.here hx rfl (hb hby at_326) rfl ((if0 _ _).trans (feq (by decide : ¬ ((1 : Int32) = (0 : Int32)))).1) ?_
            show Steps p.tables e below (T65.setTop (mkF m 329 #[iv p0, iv p1, iv p2, iv p3, iv p4, iv p5, iv x0, iv x1, iv x2, iv x3, iv y0, iv y1, iv y2, iv y3, iv kk, rv ob15, rv ob19, rv ob24, rv ob34, rv ob19, iv 0, iv 1] [])) _
            refine XS.iconst X65.here hx rfl (hb hby at_329) ?_
            refine XS.goto X65.here hx rfl (pc0 := 330) (pc' := 334) rfl (hb hby at_330) (by decide) (by decide) ?_
            show Steps p.tables e below (T65.setTop (mkF m 334 #[iv p0, iv p1, iv p2, iv p3, iv p4, iv p5, iv x0, iv x1, iv x2, iv x3, iv y0, iv y1, iv y2, iv y3, iv kk, rv ob15, rv ob19, rv ob24, rv ob34, rv ob19, iv 0, iv 1] [(.int 1)])) _
            refine XS.istore X65.here hx rfl (hb hby at_334) rfl (l' := #[iv p0, iv p1, iv p2, iv p3, iv p4, iv p5, iv x0, iv x1, iv x2, iv x3, iv y0, iv y1, iv y2, iv y3, iv kk, rv ob15, rv ob19, rv ob24, rv ob34, rv ob19, iv 0, iv 1]) rfl ?_
            refine XS.iload X65.here hx rfl (hb hby at_336) rfl ?_
            show Steps p.tables e below (T65.setTop (mkF m 338 #[iv p0, iv p1, iv p2, iv p3, iv p4, iv p5, iv x0, iv x1, iv x2, iv x3, iv y0, iv y1, iv y2, iv y3, iv kk, rv ob15, rv ob19, rv ob24, rv ob34, rv ob19, iv 0, iv 1] [(.int 1)])) _
            exact k
          refine own_lift sg66 ?_
          show own_Go p.tables e below (T65.setTop (mkF m 338 #[iv p0, iv p1, iv p2, iv p3, iv p4, iv p5, iv x0, iv x1, iv x2, iv x3, iv y0, iv y1, iv y2, iv y3, iv kk, rv ob15, rv ob19, rv ob24, rv ob34, rv ob19, iv 0, iv 1] [(.int 1)])) _
          obtain ⟨fs, hr, hrun, hended, hW, hsame⟩ := X65.leave (v := some (.int 1)) (fun h => by rw [Bd.returns] at h; cases h)
          refine ⟨_, _, ?_, hrun, hended, _, _, rfl, ?_, ⟨_, rfl⟩, hW, hsame.mono (by decide) (by decide)⟩
          · exact retN X65 hx (t := .boolean) Bd.returns (by simp) (hb hby at_338) hr
          · show Q0 Z  h0 n0 _ T65.heap _
            rw [e65]
            exact ⟨rfl, N65⟩
        by_cases b : (p5 &&& (8 : Int32)) = (0 : Int32)
        · have sg67 : ∀ t, Steps p.tables e below (T10.setTop (mkF m 110 #[iv p0, iv p1, iv p2, iv p3, iv p4, iv p5, iv x0, iv x1, iv x2, iv x3, iv y0, iv y1, iv y2, .unset, .unset, .unset, .unset, .unset, .unset, .unset, .unset, .unset] [(.int ((p4 <<< ((8 : Int32) &&& 31)) >>> ((8 : Int32) &&& 31)))])) t → Steps p.tables e below (T10.setTop (mkF m 89 #[iv p0, iv p1, iv p2, iv p3, iv p4, iv p5, iv x0, iv x1, iv x2, iv x3, iv y0, iv y1, iv y2, .unset, .unset, .unset, .unset, .unset, .unset, .unset, .unset, .unset] [])) t := by
            intro t k
            refine XS.iload X10.here hx rfl (hb hby at_89) rfl ?_
            show Steps p.tables e below (T10.setTop (mkF m 91 #[iv p0, iv p1, iv p2, iv p3, iv p4, iv p5, iv x0, iv x1, iv x2, iv x3, iv y0, iv y1, iv y2, .unset, .unset, .unset, .unset, .unset, .unset, .unset, .unset, .unset] [(.int p5)])) _
            refine XS.bipush X10.here hx rfl (hb hby at_91) ?_
            refine XS.iand X10.here hx rfl (hb hby at_93) rfl ?_
            show Steps p.tables e below (T10.setTop (mkF m 94 #[iv p0, iv p1, iv p2, iv p3, iv p4, iv p5, iv x0, iv x1, iv x2, iv x3, iv y0, iv y1, iv y2, .unset, .unset, .unset, .unset, .unset, .unset, .unset, .unset, .unset] [(.int (p5 &&& (8 : Int32)))])) _
            refine XS.ifYes X10.here hx rfl (pc0 := 94) (pc' := 102) rfl (hb hby at_94) rfl ((if0 _ _).trans (teq b).1) (by decide) (by decide) ?_
            refine XS.iload X10.here hx rfl (hb hby at_102) rfl ?_
            show Steps p.tables e below (T10.setTop (mkF m 104 #[iv p0, iv p1, iv p2, iv p3, iv p4, iv p5, iv x0, iv x1, iv x2, iv x3, iv y0, iv y1, iv y2, .unset, .unset, .unset, .unset, .unset, .unset, .unset, .unset, .unset] [(.int p4)])) _
            refine XS.bipush X10.here hx rfl (hb hby at_104) ?_
            refine XS.ishl X10.here hx rfl (hb hby at_106) rfl ?_
            show Steps p.tables e below (T10.setTop (mkF m 107 #[iv p0, iv p1, iv p2, iv p3, iv p4, iv p5, iv x0, iv x1, iv x2, iv x3, iv y0, iv y1, iv y2, .unset, .unset, .unset, .unset, .unset, .unset, .unset, .unset, .unset] [(.int (p4 <<< ((8 : Int32) &&& 31)))])) _
            refine XS.bipush X10.here hx rfl (hb hby at_107) ?_
            refine XS.ishr X10.here hx rfl (hb hby at_109) rfl ?_
            show Steps p.tables e below (T10.setTop (mkF m 110 #[iv p0, iv p1, iv p2, iv p3, iv p4, iv p5, iv x0, iv x1, iv x2, iv x3, iv y0, iv y1, iv y2, .unset, .unset, .unset, .unset, .unset, .unset, .unset, .unset, .unset] [(.int ((p4 <<< ((8 : Int32) &&& 31)) >>> ((8 : Int32) &&& 31)))])) _
            exact k
          refine own_lift sg67 ?_
          show own_Go p.tables e below (T10.setTop (mkF m 110 #[iv p0, iv p1, iv p2, iv p3, iv p4, iv p5, iv x0, iv x1, iv x2, iv x3, iv y0, iv y1, iv y2, .unset, .unset, .unset, .unset, .unset, .unset, .unset, .unset, .unset] [(.int ((p4 <<< ((8 : Int32) &&& 31)) >>> ((8 : Int32) &&& 31)))])) _
          rw [show y3 = ((p4 <<< ((8 : Int32) &&& 31)) >>> ((8 : Int32) &&& 31)) from (hy3.trans (if_pos b))] at join12
          exact join12 _ _ X10 e10 N10
        · have sg68 : ∀ t, Steps p.tables e below (T10.setTop (mkF m 110 #[iv p0, iv p1, iv p2, iv p3, iv p4, iv p5, iv x0, iv x1, iv x2, iv x3, iv y0, iv y1, iv y2, .unset, .unset, .unset, .unset, .unset, .unset, .unset, .unset, .unset] [(.int x3)])) t → Steps p.tables e below (T10.setTop (mkF m 89 #[iv p0, iv p1, iv p2, iv p3, iv p4, iv p5, iv x0, iv x1, iv x2, iv x3, iv y0, iv y1, iv y2, .unset, .unset, .unset, .unset, .unset, .unset, .unset, .unset, .unset] [])) t := by
            intro t k
            refine XS.iload X10.here hx rfl (hb hby at_89) rfl ?_
            show Steps p.tables e below (T10.setTop (mkF m 91 #[iv p0, iv p1, iv p2, iv p3, iv p4, iv p5, iv x0, iv x1, iv x2, iv x3, iv y0, iv y1, iv y2, .unset, .unset, .unset, .unset, .unset, .unset, .unset, .unset, .unset] [(.int p5)])) _
            refine XS.bipush X10.here hx rfl (hb hby at_91) ?_
            refine XS.iand X10.here hx rfl (hb hby at_93) rfl ?_
            show Steps p.tables e below (T10.setTop (mkF m 94 #[iv p0, iv p1, iv p2, iv p3, iv p4, iv p5, iv x0, iv x1, iv x2, iv x3, iv y0, iv y1, iv y2, .unset, .unset, .unset, .unset, .unset, .unset, .unset, .unset, .unset] [(.int (p5 &&& (8 : Int32)))])) _
            refine XS.ifNo X10.here hx rfl (hb hby at_94) rfl ((if0 _ _).trans (feq b).1) ?_
            refine XS.iload X10.here hx rfl (hb hby at_97) rfl ?_
            show Steps p.tables e below (T10.setTop (mkF m 99 #[iv p0, iv p1, iv p2, iv p3, iv p4, iv p5, iv x0, iv x1, iv x2, iv x3, iv y0, iv y1, iv y2, .unset, .unset, .unset, .unset, .unset, .unset, .unset, .unset, .unset] [(.int x3)])) _
            refine XS.goto X10.here hx rfl (pc0 := 99) (pc' := 110) rfl (hb hby at_99) (by decide) (by decide) ?_
            show Steps p.tables e below (T10.setTop (mkF m 110 #[iv p0, iv p1, iv p2, iv p3, iv p4, iv p5, iv x0, iv x1, iv x2, iv x3, iv y0, iv y1, iv y2, .unset, .unset, .unset, .unset, .unset, .unset, .unset, .unset, .unset] [(.int x3)])) _
            exact k
          refine own_lift sg68 ?_
          show own_Go p.tables e below (T10.setTop (mkF m 110 #[iv p0, iv p1, iv p2, iv p3, iv p4, iv p5, iv x0, iv x1, iv x2, iv x3, iv y0, iv y1, iv y2, .unset, .unset, .unset, .unset, .unset, .unset, .unset, .unset, .unset] [(.int x3)])) _
          rw [show y3 = x3 from (hy3.trans (if_neg b))] at join12
          exact join12 _ _ X10 e10 N10
      by_cases b : (p5 &&& (4 : Int32)) = (0 : Int32)
      · have sg69 : ∀ t, Steps p.tables e below (T8.setTop (mkF m 87 #[iv p0, iv p1, iv p2, iv p3, iv p4, iv p5, iv x0, iv x1, iv x2, iv x3, iv y0, iv y1, .unset, .unset, .unset, .unset, .unset, .unset, .unset, .unset, .unset, .unset] [(.int (((p4.toUInt32 >>> ((8 : Int32) &&& 31).toUInt32).toInt32) &&& (255 : Int32)))])) t → Steps p.tables e below (T8.setTop (mkF m 66 #[iv p0, iv p1, iv p2, iv p3, iv p4, iv p5, iv x0, iv x1, iv x2, iv x3, iv y0, iv y1, .unset, .unset, .unset, .unset, .unset, .unset, .unset, .unset, .unset, .unset] [])) t := by
          intro t k
          refine XS.iload X8.here hx rfl (hb hby at_66) rfl ?_
          show Steps p.tables e below (T8.setTop (mkF m 68 #[iv p0, iv p1, iv p2, iv p3, iv p4, iv p5, iv x0, iv x1, iv x2, iv x3, iv y0, iv y1, .unset, .unset, .unset, .unset, .unset, .unset, .unset, .unset, .unset, .unset] [(.int p5)])) _
          refine XS.iconst X8.here hx rfl (hb hby at_68) ?_
          refine XS.iand X8.here hx rfl (hb hby at_69) rfl ?_
          show Steps p.tables e below (T8.setTop (mkF m 70 #[iv p0, iv p1, iv p2, iv p3, iv p4, iv p5, iv x0, iv x1, iv x2, iv x3, iv y0, iv y1, .unset, .unset, .unset, .unset, .unset, .unset, .unset, .unset, .unset, .unset] [(.int (p5 &&& (4 : Int32)))])) _
          refine XS.ifYes X8.here hx rfl (pc0 := 70) (pc' := 78) rfl (hb hby at_70) rfl ((if0 _ _).trans (teq b).1) (by decide) (by decide) ?_
          refine XS.iload X8.here hx rfl (hb hby at_78) rfl ?_
          show Steps p.tables e below (T8.setTop (mkF m 80 #[iv p0, iv p1, iv p2, iv p3, iv p4, iv p5, iv x0, iv x1, iv x2, iv x3, iv y0, iv y1, .unset, .unset, .unset, .unset, .unset, .unset, .unset, .unset, .unset, .unset] [(.int p4)])) _
          refine XS.bipush X8.here hx rfl (hb hby at_80) ?_
          refine XS.iushr X8.here hx rfl (hb hby at_82) rfl ?_
          show Steps p.tables e below (T8.setTop (mkF m 83 #[iv p0, iv p1, iv p2, iv p3, iv p4, iv p5, iv x0, iv x1, iv x2, iv x3, iv y0, iv y1, .unset, .unset, .unset, .unset, .unset, .unset, .unset, .unset, .unset, .unset] [(.int ((p4.toUInt32 >>> ((8 : Int32) &&& 31).toUInt32).toInt32))])) _
          refine XS.sipush X8.here hx rfl (hb hby at_83) ?_
          refine XS.iand X8.here hx rfl (hb hby at_86) rfl ?_
          show Steps p.tables e below (T8.setTop (mkF m 87 #[iv p0, iv p1, iv p2, iv p3, iv p4, iv p5, iv x0, iv x1, iv x2, iv x3, iv y0, iv y1, .unset, .unset, .unset, .unset, .unset, .unset, .unset, .unset, .unset, .unset] [(.int (((p4.toUInt32 >>> ((8 : Int32) &&& 31).toUInt32).toInt32) &&& (255 : Int32)))])) _
          exact k
        refine own_lift sg69 ?_
        show own_Go p.tables e below (T8.setTop (mkF m 87 #[iv p0, iv p1, iv p2, iv p3, iv p4, iv p5, iv x0, iv x1, iv x2, iv x3, iv y0, iv y1, .unset, .unset, .unset, .unset, .unset, .unset, .unset, .unset, .unset, .unset] [(.int (((p4.toUInt32 >>> ((8 : Int32) &&& 31).toUInt32).toInt32) &&& (255 : Int32)))])) _
        rw [show y2 = (((p4.toUInt32 >>> ((8 : Int32) &&& 31).toUInt32).toInt32) &&& (255 : Int32)) from (hy2.trans (if_pos b))] at join10
        exact join10 _ _ X8 e8 N8
      · have sg70 : ∀ t, Steps p.tables e below (T8.setTop (mkF m 87 #[iv p0, iv p1, iv p2, iv p3, iv p4, iv p5, iv x0, iv x1, iv x2, iv x3, iv y0, iv y1, .unset, .unset, .unset, .unset, .unset, .unset, .unset, .unset, .unset, .unset] [(.int x2)])) t → Steps p.tables e below (T8.setTop (mkF m 66 #[iv p0, iv p1, iv p2, iv p3, iv p4, iv p5, iv x0, iv x1, iv x2, iv x3, iv y0, iv y1, .unset, .unset, .unset, .unset, .unset, .unset, .unset, .unset, .unset, .unset] [])) t := by
          intro t k
          refine XS.iload X8.here hx rfl (hb hby at_66) rfl ?_
          show Steps p.tables e below (T8.setTop (mkF m 68 #[iv p0, iv p1, iv p2, iv p3, iv p4, iv p5, iv x0, iv x1, iv x2, iv x3, iv y0, iv y1, .unset, .unset, .unset, .unset, .unset, .unset, .unset, .unset, .unset, .unset] [(.int p5)])) _
          refine XS.iconst X8.here hx rfl (hb hby at_68) ?_
          refine XS.iand X8.here hx rfl (hb hby at_69) rfl ?_
          show Steps p.tables e below (T8.setTop (mkF m 70 #[iv p0, iv p1, iv p2, iv p3, iv p4, iv p5, iv x0, iv x1, iv x2, iv x3, iv y0, iv y1, .unset, .unset, .unset, .unset, .unset, .unset, .unset, .unset, .unset, .unset] [(.int (p5 &&& (4 : Int32)))])) _
          refine XS.ifNo X8.here hx rfl (hb hby at_70) rfl ((if0 _ _).trans (feq b).1) ?_
          refine XS.iload X8.here hx rfl (hb hby at_73) rfl ?_
          show Steps p.tables e below (T8.setTop (mkF m 75 #[iv p0, iv p1, iv p2, iv p3, iv p4, iv p5, iv x0, iv x1, iv x2, iv x3, iv y0, iv y1, .unset, .unset, .unset, .unset, .unset, .unset, .unset, .unset, .unset, .unset] [(.int x2)])) _
          refine XS.goto X8.here hx rfl (pc0 := 75) (pc' := 87) rfl (hb hby at_75) (by decide) (by decide) ?_
          show Steps p.tables e below (T8.setTop (mkF m 87 #[iv p0, iv p1, iv p2, iv p3, iv p4, iv p5, iv x0, iv x1, iv x2, iv x3, iv y0, iv y1, .unset, .unset, .unset, .unset, .unset, .unset, .unset, .unset, .unset, .unset] [(.int x2)])) _
          exact k
        refine own_lift sg70 ?_
        show own_Go p.tables e below (T8.setTop (mkF m 87 #[iv p0, iv p1, iv p2, iv p3, iv p4, iv p5, iv x0, iv x1, iv x2, iv x3, iv y0, iv y1, .unset, .unset, .unset, .unset, .unset, .unset, .unset, .unset, .unset, .unset] [(.int x2)])) _
        rw [show y2 = x2 from (hy2.trans (if_neg b))] at join10
        exact join10 _ _ X8 e8 N8
    by_cases b : (p5 &&& (2 : Int32)) = (0 : Int32)
    · have sg71 : ∀ t, Steps p.tables e below (T6.setTop (mkF m 64 #[iv p0, iv p1, iv p2, iv p3, iv p4, iv p5, iv x0, iv x1, iv x2, iv x3, iv y0, .unset, .unset, .unset, .unset, .unset, .unset, .unset, .unset, .unset, .unset, .unset] [(.int ((p4.toUInt32 >>> ((16 : Int32) &&& 31).toUInt32).toInt32))])) t → Steps p.tables e below (T6.setTop (mkF m 47 #[iv p0, iv p1, iv p2, iv p3, iv p4, iv p5, iv x0, iv x1, iv x2, iv x3, iv y0, .unset, .unset, .unset, .unset, .unset, .unset, .unset, .unset, .unset, .unset, .unset] [])) t := by
        intro t k
        refine XS.iload X6.here hx rfl (hb hby at_47) rfl ?_
        show Steps p.tables e below (T6.setTop (mkF m 49 #[iv p0, iv p1, iv p2, iv p3, iv p4, iv p5, iv x0, iv x1, iv x2, iv x3, iv y0, .unset, .unset, .unset, .unset, .unset, .unset, .unset, .unset, .unset, .unset, .unset] [(.int p5)])) _
        refine XS.iconst X6.here hx rfl (hb hby at_49) ?_
        refine XS.iand X6.here hx rfl (hb hby at_50) rfl ?_
        show Steps p.tables e below (T6.setTop (mkF m 51 #[iv p0, iv p1, iv p2, iv p3, iv p4, iv p5, iv x0, iv x1, iv x2, iv x3, iv y0, .unset, .unset, .unset, .unset, .unset, .unset, .unset, .unset, .unset, .unset, .unset] [(.int (p5 &&& (2 : Int32)))])) _
        refine XS.ifYes X6.here hx rfl (pc0 := 51) (pc' := 59) rfl (hb hby at_51) rfl ((if0 _ _).trans (teq b).1) (by decide) (by decide) ?_
        refine XS.iload X6.here hx rfl (hb hby at_59) rfl ?_
        show Steps p.tables e below (T6.setTop (mkF m 61 #[iv p0, iv p1, iv p2, iv p3, iv p4, iv p5, iv x0, iv x1, iv x2, iv x3, iv y0, .unset, .unset, .unset, .unset, .unset, .unset, .unset, .unset, .unset, .unset, .unset] [(.int p4)])) _
        refine XS.bipush X6.here hx rfl (hb hby at_61) ?_
        refine XS.iushr X6.here hx rfl (hb hby at_63) rfl ?_
        show Steps p.tables e below (T6.setTop (mkF m 64 #[iv p0, iv p1, iv p2, iv p3, iv p4, iv p5, iv x0, iv x1, iv x2, iv x3, iv y0, .unset, .unset, .unset, .unset, .unset, .unset, .unset, .unset, .unset, .unset, .unset] [(.int ((p4.toUInt32 >>> ((16 : Int32) &&& 31).toUInt32).toInt32))])) _
        exact k
      refine own_lift sg71 ?_
      show own_Go p.tables e below (T6.setTop (mkF m 64 #[iv p0, iv p1, iv p2, iv p3, iv p4, iv p5, iv x0, iv x1, iv x2, iv x3, iv y0, .unset, .unset, .unset, .unset, .unset, .unset, .unset, .unset, .unset, .unset, .unset] [(.int ((p4.toUInt32 >>> ((16 : Int32) &&& 31).toUInt32).toInt32))])) _
      rw [show y1 = ((p4.toUInt32 >>> ((16 : Int32) &&& 31).toUInt32).toInt32) from (hy1.trans (if_pos b))] at join8
      exact join8 _ _ X6 e6 N6
    · have sg72 : ∀ t, Steps p.tables e below (T6.setTop (mkF m 64 #[iv p0, iv p1, iv p2, iv p3, iv p4, iv p5, iv x0, iv x1, iv x2, iv x3, iv y0, .unset, .unset, .unset, .unset, .unset, .unset, .unset, .unset, .unset, .unset, .unset] [(.int x1)])) t → Steps p.tables e below (T6.setTop (mkF m 47 #[iv p0, iv p1, iv p2, iv p3, iv p4, iv p5, iv x0, iv x1, iv x2, iv x3, iv y0, .unset, .unset, .unset, .unset, .unset, .unset, .unset, .unset, .unset, .unset, .unset] [])) t := by
        intro t k
        refine XS.iload X6.here hx rfl (hb hby at_47) rfl ?_
        show Steps p.tables e below (T6.setTop (mkF m 49 #[iv p0, iv p1, iv p2, iv p3, iv p4, iv p5, iv x0, iv x1, iv x2, iv x3, iv y0, .unset, .unset, .unset, .unset, .unset, .unset, .unset, .unset, .unset, .unset, .unset] [(.int p5)])) _
        refine XS.iconst X6.here hx rfl (hb hby at_49) ?_
        refine XS.iand X6.here hx rfl (hb hby at_50) rfl ?_
        show Steps p.tables e below (T6.setTop (mkF m 51 #[iv p0, iv p1, iv p2, iv p3, iv p4, iv p5, iv x0, iv x1, iv x2, iv x3, iv y0, .unset, .unset, .unset, .unset, .unset, .unset, .unset, .unset, .unset, .unset, .unset] [(.int (p5 &&& (2 : Int32)))])) _
        refine XS.ifNo X6.here hx rfl (hb hby at_51) rfl ((if0 _ _).trans (feq b).1) ?_
        refine XS.iload X6.here hx rfl (hb hby at_54) rfl ?_
        show Steps p.tables e below (T6.setTop (mkF m 56 #[iv p0, iv p1, iv p2, iv p3, iv p4, iv p5, iv x0, iv x1, iv x2, iv x3, iv y0, .unset, .unset, .unset, .unset, .unset, .unset, .unset, .unset, .unset, .unset, .unset] [(.int x1)])) _
        refine XS.goto X6.here hx rfl (pc0 := 56) (pc' := 64) rfl (hb hby at_56) (by decide) (by decide) ?_
        show Steps p.tables e below (T6.setTop (mkF m 64 #[iv p0, iv p1, iv p2, iv p3, iv p4, iv p5, iv x0, iv x1, iv x2, iv x3, iv y0, .unset, .unset, .unset, .unset, .unset, .unset, .unset, .unset, .unset, .unset, .unset] [(.int x1)])) _
        exact k
      refine own_lift sg72 ?_
      show own_Go p.tables e below (T6.setTop (mkF m 64 #[iv p0, iv p1, iv p2, iv p3, iv p4, iv p5, iv x0, iv x1, iv x2, iv x3, iv y0, .unset, .unset, .unset, .unset, .unset, .unset, .unset, .unset, .unset, .unset, .unset] [(.int x1)])) _
      rw [show y1 = x1 from (hy1.trans (if_neg b))] at join8
      exact join8 _ _ X6 e6 N6
  by_cases b : (p5 &&& (1 : Int32)) = (0 : Int32)
  · have sg73 : ∀ t, Steps p.tables e below (s₁.setTop (mkF m 45 #[iv p0, iv p1, iv p2, iv p3, iv p4, iv p5, iv x0, iv x1, iv x2, iv x3, .unset, .unset, .unset, .unset, .unset, .unset, .unset, .unset, .unset, .unset, .unset, .unset] [(.int (p4 &&& (65535 : Int32)))])) t → Steps p.tables e below (s₁.setTop (mkF m 28 #[iv p0, iv p1, iv p2, iv p3, iv p4, iv p5, iv x0, iv x1, iv x2, iv x3, .unset, .unset, .unset, .unset, .unset, .unset, .unset, .unset, .unset, .unset, .unset, .unset] [])) t := by
      intro t k
      refine XS.iload X0.here hx rfl (hb hby at_28) rfl ?_
      show Steps p.tables e below (s₁.setTop (mkF m 30 #[iv p0, iv p1, iv p2, iv p3, iv p4, iv p5, iv x0, iv x1, iv x2, iv x3, .unset, .unset, .unset, .unset, .unset, .unset, .unset, .unset, .unset, .unset, .unset, .unset] [(.int p5)])) _
      refine XS.iconst X0.here hx rfl (hb hby at_30) ?_
      refine XS.iand X0.here hx rfl (hb hby at_31) rfl ?_
      show Steps p.tables e below (s₁.setTop (mkF m 32 #[iv p0, iv p1, iv p2, iv p3, iv p4, iv p5, iv x0, iv x1, iv x2, iv x3, .unset, .unset, .unset, .unset, .unset, .unset, .unset, .unset, .unset, .unset, .unset, .unset] [(.int (p5 &&& (1 : Int32)))])) _
      refine XS.ifYes X0.here hx rfl (pc0 := 32) (pc' := 40) rfl (hb hby at_32) rfl ((if0 _ _).trans (teq b).1) (by decide) (by decide) ?_
      refine XS.iload X0.here hx rfl (hb hby at_40) rfl ?_
      show Steps p.tables e below (s₁.setTop (mkF m 42 #[iv p0, iv p1, iv p2, iv p3, iv p4, iv p5, iv x0, iv x1, iv x2, iv x3, .unset, .unset, .unset, .unset, .unset, .unset, .unset, .unset, .unset, .unset, .unset, .unset] [(.int p4)])) _
      refine X0.ldcInt hx hown (mvT hZ (wd hw 0 rfl)) (g := (mkF m 42 #[iv p0, iv p1, iv p2, iv p3, iv p4, iv p5, iv x0, iv x1, iv x2, iv x3, .unset, .unset, .unset, .unset, .unset, .unset, .unset, .unset, .unset, .unset, .unset, .unset] [(.int p4)])) rfl (hb hby at_42) _ ?_
      refine XS.iand X0.here hx rfl (hb hby at_44) rfl ?_
      show Steps p.tables e below (s₁.setTop (mkF m 45 #[iv p0, iv p1, iv p2, iv p3, iv p4, iv p5, iv x0, iv x1, iv x2, iv x3, .unset, .unset, .unset, .unset, .unset, .unset, .unset, .unset, .unset, .unset, .unset, .unset] [(.int (p4 &&& (65535 : Int32)))])) _
      exact k
    refine own_lift sg73 ?_
    show own_Go p.tables e below (s₁.setTop (mkF m 45 #[iv p0, iv p1, iv p2, iv p3, iv p4, iv p5, iv x0, iv x1, iv x2, iv x3, .unset, .unset, .unset, .unset, .unset, .unset, .unset, .unset, .unset, .unset, .unset, .unset] [(.int (p4 &&& (65535 : Int32)))])) _
    rw [show y0 = (p4 &&& (65535 : Int32)) from (hy0.trans (if_pos b))] at join6
    exact join6 _ _ X0 e0 N0
  · have sg74 : ∀ t, Steps p.tables e below (s₁.setTop (mkF m 45 #[iv p0, iv p1, iv p2, iv p3, iv p4, iv p5, iv x0, iv x1, iv x2, iv x3, .unset, .unset, .unset, .unset, .unset, .unset, .unset, .unset, .unset, .unset, .unset, .unset] [(.int x0)])) t → Steps p.tables e below (s₁.setTop (mkF m 28 #[iv p0, iv p1, iv p2, iv p3, iv p4, iv p5, iv x0, iv x1, iv x2, iv x3, .unset, .unset, .unset, .unset, .unset, .unset, .unset, .unset, .unset, .unset, .unset, .unset] [])) t := by
      intro t k
      refine XS.iload X0.here hx rfl (hb hby at_28) rfl ?_
      show Steps p.tables e below (s₁.setTop (mkF m 30 #[iv p0, iv p1, iv p2, iv p3, iv p4, iv p5, iv x0, iv x1, iv x2, iv x3, .unset, .unset, .unset, .unset, .unset, .unset, .unset, .unset, .unset, .unset, .unset, .unset] [(.int p5)])) _
      refine XS.iconst X0.here hx rfl (hb hby at_30) ?_
      refine XS.iand X0.here hx rfl (hb hby at_31) rfl ?_
      show Steps p.tables e below (s₁.setTop (mkF m 32 #[iv p0, iv p1, iv p2, iv p3, iv p4, iv p5, iv x0, iv x1, iv x2, iv x3, .unset, .unset, .unset, .unset, .unset, .unset, .unset, .unset, .unset, .unset, .unset, .unset] [(.int (p5 &&& (1 : Int32)))])) _
      refine XS.ifNo X0.here hx rfl (hb hby at_32) rfl ((if0 _ _).trans (feq b).1) ?_
      refine XS.iload X0.here hx rfl (hb hby at_35) rfl ?_
      show Steps p.tables e below (s₁.setTop (mkF m 37 #[iv p0, iv p1, iv p2, iv p3, iv p4, iv p5, iv x0, iv x1, iv x2, iv x3, .unset, .unset, .unset, .unset, .unset, .unset, .unset, .unset, .unset, .unset, .unset, .unset] [(.int x0)])) _
      refine XS.goto X0.here hx rfl (pc0 := 37) (pc' := 45) rfl (hb hby at_37) (by decide) (by decide) ?_
      show Steps p.tables e below (s₁.setTop (mkF m 45 #[iv p0, iv p1, iv p2, iv p3, iv p4, iv p5, iv x0, iv x1, iv x2, iv x3, .unset, .unset, .unset, .unset, .unset, .unset, .unset, .unset, .unset, .unset, .unset, .unset] [(.int x0)])) _
      exact k
    refine own_lift sg74 ?_
    show own_Go p.tables e below (s₁.setTop (mkF m 45 #[iv p0, iv p1, iv p2, iv p3, iv p4, iv p5, iv x0, iv x1, iv x2, iv x3, .unset, .unset, .unset, .unset, .unset, .unset, .unset, .unset, .unset, .unset, .unset, .unset] [(.int x0)])) _
    rw [show y0 = x0 from (hy0.trans (if_neg b))] at join6
    exact join6 _ _ X0 e0 N0
theorem ef_rm0_2 (m : MethodId) (x0 : Int32) (x1 : Int32) (x2 : Int32) (x3 : Int32) (x4 : Int32) (x5 : Int32) : entryFrame m #[(.int x0), (.int x1), (.int x2), (.int x3), (.int x4), (.int x5)] maxLocals = mkF m 0 #[.val (.int x0), .val (.int x1), .val (.int x2), .val (.int x3), .val (.int x4), .val (.int x5), .unset, .unset, .unset, .unset, .unset, .unset, .unset, .unset, .unset, .unset, .unset, .unset, .unset, .unset, .unset, .unset] [] := by first | (simp [entryFrame, mkF, argsToLocals, Value.category, maxLocals]; done) | rfl
set_option maxRecDepth 65536 in
set_option maxHeartbeats 40000000 in
theorem rm0_2 (l : Launch) (Z : State) (a0 : Array Value) (hw : ∀ d ∈ tables_1, d.before a0 Z = true) (ws : List Jvm.Cond) (p0 : Int32) (p1 : Int32) (p2 : Int32) (p3 : Int32) (p4 : Int32) (p5 : Int32) (cs : Int32) (x0 : Int32) (x1 : Int32) (x2 : Int32) (x3 : Int32) (y0 : Int32) (y1 : Int32) (y2 : Int32) (y3 : Int32) (kk : Int32) (h0 : Heap) (n0 : Nat) (Z0 : n0 ≤ h0.size) (S_cs : Sta Z h0 "java/lang/String" "COMPACT_STRINGS" "Z" (.int cs)) (P_cs : ¬ cs = 0) (hx0 : (p0 &&& (65535 : Int32)) = x0) (hx1 : (p1 &&& (65535 : Int32)) = x1) (hx2 : (p2 &&& (255 : Int32)) = x2) (hx3 : ((p3 <<< ((8 : Int32) &&& 31)) >>> ((8 : Int32) &&& 31)) = x3) (hy0 : y0 = if (p5 &&& (1 : Int32)) = (0 : Int32) then (p4 &&& (65535 : Int32)) else x0) (hy1 : y1 = if (p5 &&& (2 : Int32)) = (0 : Int32) then ((p4.toUInt32 >>> ((16 : Int32) &&& 31).toUInt32).toInt32) else x1) (hy2 : y2 = if (p5 &&& (4 : Int32)) = (0 : Int32) then (((p4.toUInt32 >>> ((8 : Int32) &&& 31).toUInt32).toInt32) &&& (255 : Int32)) else x2) (hy3 : y3 = if (p5 &&& (8 : Int32)) = (0 : Int32) then ((p4 <<< ((8 : Int32) &&& 31)) >>> ((8 : Int32) &&& 31)) else x3) (hk : (((p5.toUInt32 >>> ((4 : Int32) &&& 31).toUInt32).toInt32) &&& (3 : Int32)) = kk) (rx0 : ¬ (x0 < (0 : Int32)) ∧ ¬ ((65535 : Int32) < x0)) (rx1 : ¬ (x1 < (0 : Int32)) ∧ ¬ ((65535 : Int32) < x1)) (rx2 : ¬ (x2 < (0 : Int32)) ∧ ¬ ((255 : Int32) < x2)) (rx3 : ¬ (x3 < (-8388608 : Int32)) ∧ ¬ ((8388607 : Int32) < x3)) (ry0 : ¬ (y0 < (0 : Int32)) ∧ ¬ ((65535 : Int32) < y0)) (ry1 : ¬ (y1 < (0 : Int32)) ∧ ¬ ((65535 : Int32) < y1)) (ry2 : ¬ (y2 < (0 : Int32)) ∧ ¬ ((255 : Int32) < y2)) (ry3 : ¬ (y3 < (-8388608 : Int32)) ∧ ¬ ((8388607 : Int32) < y3)) (k2 : kk < (2 : Int32)) (d0 : x0 = y0) (d1 : x1 = y1) (d2 : ¬ (x2 = y2)) :
    MetFree l x (head1 (Jvm.Cond.code x code maxLocals ret :: ws) room_1) (fun a U => a = #[(.int p0), (.int p1), (.int p2), (.int p3), (.int p4), (.int p5)] ∧ Z.Warmed39 U.vm ∧ U.heap = h0) (fun _ _ _ _ _ => True) (fun _ U o U' => ∃ v L, o = .returned v ∧ Q0 Z  h0 n0 v U'.heap L ∧ FrameEnd U o U' L 24 128) := by
  refine MetFree.of_bodySF (plainFor_of_name pn_1) hisR ?_
  intro p e s m args below meth c s₁ Bd hml0 hP hK
  obtain ⟨rfl, hZ, hh⟩ := hP
  have hx := Bd.exec
  have hby := Bd.bytes
  have hml : c.maxLocals = 22 := hml0
  have hown : s.vm.findClass "com/example/halyard/halyard/core/mal/TypeIdEqualsPinLaw" = some m.cls := findClass_of_methodNamed Bd.named
  have hnm := (name_of_methodNamed Bd.named Bd.method).1
  have X0 : Stand p l e room_1 s m #[(.int p0), (.int p1), (.int p2), (.int p3), (.int p4), (.int p5)] below meth c s₁ [] 0 0 := Stand.of_body Bd
  have e0 : s₁.heap = h0 := by rw [← hh, Bd.state]; rfl
  have N0 := Fr.nil n0
  refine own_go (own_lift (fun t k => castTop (ef_rm0_2 m p0 p1 p2 p3 p4 p5) k) ?_)
  show own_Go p.tables e below (s₁.setTop (mkF m 0 #[iv p0, iv p1, iv p2, iv p3, iv p4, iv p5, .unset, .unset, .unset, .unset, .unset, .unset, .unset, .unset, .unset, .unset, .unset, .unset, .unset, .unset, .unset, .unset] [])) _
  have sg1 : ∀ t, Steps p.tables e below (s₁.setTop (mkF m 4 #[iv p0, iv p1, iv p2, iv p3, iv p4, iv p5, .unset, .unset, .unset, .unset, .unset, .unset, .unset, .unset, .unset, .unset, .unset, .unset, .unset, .unset, .unset, .unset] [(.int (p0 &&& (65535 : Int32)))])) t → Steps p.tables e below (s₁.setTop (mkF m 0 #[iv p0, iv p1, iv p2, iv p3, iv p4, iv p5, .unset, .unset, .unset, .unset, .unset, .unset, .unset, .unset, .unset, .unset, .unset, .unset, .unset, .unset, .unset, .unset] [])) t := by
    intro t k
    refine XS.iloadN X0.here hx rfl (hb hby at_0) rfl ?_
    show Steps p.tables e below (s₁.setTop (mkF m 1 #[iv p0, iv p1, iv p2, iv p3, iv p4, iv p5, .unset, .unset, .unset, .unset, .unset, .unset, .unset, .unset, .unset, .unset, .unset, .unset, .unset, .unset, .unset, .unset] [(.int p0)])) _
    refine X0.ldcInt hx hown (mvT hZ (wd hw 0 rfl)) (g := (mkF m 1 #[iv p0, iv p1, iv p2, iv p3, iv p4, iv p5, .unset, .unset, .unset, .unset, .unset, .unset, .unset, .unset, .unset, .unset, .unset, .unset, .unset, .unset, .unset, .unset] [(.int p0)])) rfl (hb hby at_1) _ ?_
    refine XS.iand X0.here hx rfl (hb hby at_3) rfl ?_
    show Steps p.tables e below (s₁.setTop (mkF m 4 #[iv p0, iv p1, iv p2, iv p3, iv p4, iv p5, .unset, .unset, .unset, .unset, .unset, .unset, .unset, .unset, .unset, .unset, .unset, .unset, .unset, .unset, .unset, .unset] [(.int (p0 &&& (65535 : Int32)))])) _
    exact k
  refine own_lift sg1 ?_
  show own_Go p.tables e below (s₁.setTop (mkF m 4 #[iv p0, iv p1, iv p2, iv p3, iv p4, iv p5, .unset, .unset, .unset, .unset, .unset, .unset, .unset, .unset, .unset, .unset, .unset, .unset, .unset, .unset, .unset, .unset] [(.int (p0 &&& (65535 : Int32)))])) _
  rw [hx0]
  show own_Go p.tables e below (s₁.setTop (mkF m 4 #[iv p0, iv p1, iv p2, iv p3, iv p4, iv p5, .unset, .unset, .unset, .unset, .unset, .unset, .unset, .unset, .unset, .unset, .unset, .unset, .unset, .unset, .unset, .unset] [(.int x0)])) _
  have sg2 : ∀ t, Steps p.tables e below (s₁.setTop (mkF m 10 #[iv p0, iv p1, iv p2, iv p3, iv p4, iv p5, iv x0, .unset, .unset, .unset, .unset, .unset, .unset, .unset, .unset, .unset, .unset, .unset, .unset, .unset, .unset, .unset] [(.int (p1 &&& (65535 : Int32)))])) t → Steps p.tables e below (s₁.setTop (mkF m 4 #[iv p0, iv p1, iv p2, iv p3, iv p4, iv p5, .unset, .unset, .unset, .unset, .unset, .unset, .unset, .unset, .unset, .unset, .unset, .unset, .unset, .unset, .unset, .unset] [(.int x0)])) t := by
    intro t k
    refine XS.istore X0.here hx rfl (hb hby at_4) rfl (l' := #[iv p0, iv p1, iv p2, iv p3, iv p4, iv p5, iv x0, .unset, .unset, .unset, .unset, .unset, .unset, .unset, .unset, .unset, .unset, .unset, .unset, .unset, .unset, .unset]) rfl ?_
    show Steps p.tables e below (s₁.setTop (mkF m 6 #[iv p0, iv p1, iv p2, iv p3, iv p4, iv p5, iv x0, .unset, .unset, .unset, .unset, .unset, .unset, .unset, .unset, .unset, .unset, .unset, .unset, .unset, .unset, .unset] [])) _
    refine XS.iloadN X0.here hx rfl (hb hby at_6) rfl ?_
    refine X0.ldcInt hx hown (mvT hZ (wd hw 0 rfl)) (g := (mkF m 7 #[iv p0, iv p1, iv p2, iv p3, iv p4, iv p5, iv x0, .unset, .unset, .unset, .unset, .unset, .unset, .unset, .unset, .unset, .unset, .unset, .unset, .unset, .unset, .unset] [(.int p1)])) rfl (hb hby at_7) _ ?_
    show Steps p.tables e below (s₁.setTop (mkF m 9 #[iv p0, iv p1, iv p2, iv p3, iv p4, iv p5, iv x0, .unset, .unset, .unset, .unset, .unset, .unset, .unset, .unset, .unset, .unset, .unset, .unset, .unset, .unset, .unset] [(.int 65535), (.int p1)])) _
    refine XS.iand X0.here hx rfl (hb hby at_9) rfl ?_
    show Steps p.tables e below (s₁.setTop (mkF m 10 #[iv p0, iv p1, iv p2, iv p3, iv p4, iv p5, iv x0, .unset, .unset, .unset, .unset, .unset, .unset, .unset, .unset, .unset, .unset, .unset, .unset, .unset, .unset, .unset] [(.int (p1 &&& (65535 : Int32)))])) _
    exact k
  refine own_lift sg2 ?_
  show own_Go p.tables e below (s₁.setTop (mkF m 10 #[iv p0, iv p1, iv p2, iv p3, iv p4, iv p5, iv x0, .unset, .unset, .unset, .unset, .unset, .unset, .unset, .unset, .unset, .unset, .unset, .unset, .unset, .unset, .unset] [(.int (p1 &&& (65535 : Int32)))])) _
  rw [hx1]
  show own_Go p.tables e below (s₁.setTop (mkF m 10 #[iv p0, iv p1, iv p2, iv p3, iv p4, iv p5, iv x0, .unset, .unset, .unset, .unset, .unset, .unset, .unset, .unset, .unset, .unset, .unset, .unset, .unset, .unset, .unset] [(.int x1)])) _
  have sg3 : ∀ t, Steps p.tables e below (s₁.setTop (mkF m 17 #[iv p0, iv p1, iv p2, iv p3, iv p4, iv p5, iv x0, iv x1, .unset, .unset, .unset, .unset, .unset, .unset, .unset, .unset, .unset, .unset, .unset, .unset, .unset, .unset] [(.int (p2 &&& (255 : Int32)))])) t → Steps p.tables e below (s₁.setTop (mkF m 10 #[iv p0, iv p1, iv p2, iv p3, iv p4, iv p5, iv x0, .unset, .unset, .unset, .unset, .unset, .unset, .unset, .unset, .unset, .unset, .unset, .unset, .unset, .unset, .unset] [(.int x1)])) t := by
    intro t k
    refine XS.istore X0.here hx rfl (hb hby at_10) rfl (l' := #[iv p0, iv p1, iv p2, iv p3, iv p4, iv p5, iv x0, iv x1, .unset, .unset, .unset, .unset, .unset, .unset, .unset, .unset, .unset, .unset, .unset, .unset, .unset, .unset]) rfl ?_
    show Steps p.tables e below (s₁.setTop (mkF m 12 #[iv p0, iv p1, iv p2, iv p3, iv p4, iv p5, iv x0, iv x1, .unset, .unset, .unset, .unset, .unset, .unset, .unset, .unset, .unset, .unset, .unset, .unset, .unset, .unset] [])) _
    refine XS.iloadN X0.here hx rfl (hb hby at_12) rfl ?_
    refine XS.sipush X0.here hx rfl (hb hby at_13) ?_
    show Steps p.tables e below (s₁.setTop (mkF m 16 #[iv p0, iv p1, iv p2, iv p3, iv p4, iv p5, iv x0, iv x1, .unset, .unset, .unset, .unset, .unset, .unset, .unset, .unset, .unset, .unset, .unset, .unset, .unset, .unset] [(.int 255), (.int p2)])) _
    refine XS.iand X0.here hx rfl (hb hby at_16) rfl ?_
    show Steps p.tables e below (s₁.setTop (mkF m 17 #[iv p0, iv p1, iv p2, iv p3, iv p4, iv p5, iv x0, iv x1, .unset, .unset, .unset, .unset, .unset, .unset, .unset, .unset, .unset, .unset, .unset, .unset, .unset, .unset] [(.int (p2 &&& (255 : Int32)))])) _
    exact k
  refine own_lift sg3 ?_
  show own_Go p.tables e below (s₁.setTop (mkF m 17 #[iv p0, iv p1, iv p2, iv p3, iv p4, iv p5, iv x0, iv x1, .unset, .unset, .unset, .unset, .unset, .unset, .unset, .unset, .unset, .unset, .unset, .unset, .unset, .unset] [(.int (p2 &&& (255 : Int32)))])) _
  rw [hx2]
  show own_Go p.tables e below (s₁.setTop (mkF m 17 #[iv p0, iv p1, iv p2, iv p3, iv p4, iv p5, iv x0, iv x1, .unset, .unset, .unset, .unset, .unset, .unset, .unset, .unset, .unset, .unset, .unset, .unset, .unset, .unset] [(.int x2)])) _
  have sg4 : ∀ t, Steps p.tables e below (s₁.setTop (mkF m 26 #[iv p0, iv p1, iv p2, iv p3, iv p4, iv p5, iv x0, iv x1, iv x2, .unset, .unset, .unset, .unset, .unset, .unset, .unset, .unset, .unset, .unset, .unset, .unset, .unset] [(.int ((p3 <<< ((8 : Int32) &&& 31)) >>> ((8 : Int32) &&& 31)))])) t → Steps p.tables e below (s₁.setTop (mkF m 17 #[iv p0, iv p1, iv p2, iv p3, iv p4, iv p5, iv x0, iv x1, .unset, .unset, .unset, .unset, .unset, .unset, .unset, .unset, .unset, .unset, .unset, .unset, .unset, .unset] [(.int x2)])) t := by
    intro t k
    refine XS.istore X0.here hx rfl (hb hby at_17) rfl (l' := #[iv p0, iv p1, iv p2, iv p3, iv p4, iv p5, iv x0, iv x1, iv x2, .unset, .unset, .unset, .unset, .unset, .unset, .unset, .unset, .unset, .unset, .unset, .unset, .unset]) rfl ?_
    show Steps p.tables e below (s₁.setTop (mkF m 19 #[iv p0, iv p1, iv p2, iv p3, iv p4, iv p5, iv x0, iv x1, iv x2, .unset, .unset, .unset, .unset, .unset, .unset, .unset, .unset, .unset, .unset, .unset, .unset, .unset] [])) _
    refine XS.iloadN X0.here hx rfl (hb hby at_19) rfl ?_
    refine XS.bipush X0.here hx rfl (hb hby at_20) ?_
    show Steps p.tables e below (s₁.setTop (mkF m 22 #[iv p0, iv p1, iv p2, iv p3, iv p4, iv p5, iv x0, iv x1, iv x2, .unset, .unset, .unset, .unset, .unset, .unset, .unset, .unset, .unset, .unset, .unset, .unset, .unset] [(.int 8), (.int p3)])) _
    refine XS.ishl X0.here hx rfl (hb hby at_22) rfl ?_
    refine XS.bipush X0.here hx rfl (hb hby at_23) ?_
    show Steps p.tables e below (s₁.setTop (mkF m 25 #[iv p0, iv p1, iv p2, iv p3, iv p4, iv p5, iv x0, iv x1, iv x2, .unset, .unset, .unset, .unset, .unset, .unset, .unset, .unset, .unset, .unset, .unset, .unset, .unset] [(.int 8), (.int (p3 <<< ((8 : Int32) &&& 31)))])) _
    refine XS.ishr X0.here hx rfl (hb hby at_25) rfl ?_
    show Steps p.tables e below (s₁.setTop (mkF m 26 #[iv p0, iv p1, iv p2, iv p3, iv p4, iv p5, iv x0, iv x1, iv x2, .unset, .unset, .unset, .unset, .unset, .unset, .unset, .unset, .unset, .unset, .unset, .unset, .unset] [(.int ((p3 <<< ((8 : Int32) &&& 31)) >>> ((8 : Int32) &&& 31)))])) _
    exact k
  refine own_lift sg4 ?_
  show own_Go p.tables e below (s₁.setTop (mkF m 26 #[iv p0, iv p1, iv p2, iv p3, iv p4, iv p5, iv x0, iv x1, iv x2, .unset, .unset, .unset, .unset, .unset, .unset, .unset, .unset, .unset, .unset, .unset, .unset, .unset] [(.int ((p3 <<< ((8 : Int32) &&& 31)) >>> ((8 : Int32) &&& 31)))])) _
  rw [hx3]
  show own_Go p.tables e below (s₁.setTop (mkF m 26 #[iv p0, iv p1, iv p2, iv p3, iv p4, iv p5, iv x0, iv x1, iv x2, .unset, .unset, .unset, .unset, .unset, .unset, .unset, .unset, .unset, .unset, .unset, .unset, .unset] [(.int x3)])) _
  have sg5 : ∀ t, Steps p.tables e below (s₁.setTop (mkF m 28 #[iv p0, iv p1, iv p2, iv p3, iv p4, iv p5, iv x0, iv x1, iv x2, iv x3, .unset, .unset, .unset, .unset, .unset, .unset, .unset, .unset, .unset, .unset, .unset, .unset] [])) t → Steps p.tables e below (s₁.setTop (mkF m 26 #[iv p0, iv p1, iv p2, iv p3, iv p4, iv p5, iv x0, iv x1, iv x2, .unset, .unset, .unset, .unset, .unset, .unset, .unset, .unset, .unset, .unset, .unset, .unset, .unset] [(.int x3)])) t := by
    intro t k
    refine XS.istore X0.here hx rfl (hb hby at_26) rfl (l' := #[iv p0, iv p1, iv p2, iv p3, iv p4, iv p5, iv x0, iv x1, iv x2, iv x3, .unset, .unset, .unset, .unset, .unset, .unset, .unset, .unset, .unset, .unset, .unset, .unset]) rfl ?_
    show Steps p.tables e below (s₁.setTop (mkF m 28 #[iv p0, iv p1, iv p2, iv p3, iv p4, iv p5, iv x0, iv x1, iv x2, iv x3, .unset, .unset, .unset, .unset, .unset, .unset, .unset, .unset, .unset, .unset, .unset, .unset] [])) _
    exact k
  refine own_lift sg5 ?_
  show own_Go p.tables e below (s₁.setTop (mkF m 28 #[iv p0, iv p1, iv p2, iv p3, iv p4, iv p5, iv x0, iv x1, iv x2, iv x3, .unset, .unset, .unset, .unset, .unset, .unset, .unset, .unset, .unset, .unset, .unset, .unset] [])) _
  have join6 : ∀ (T6 : State) (locs6 : List Loc), Stand p l e room_1 s m #[(.int p0), (.int p1), (.int p2), (.int p3), (.int p4), (.int p5)] below meth c T6 locs6 0 0 → T6.heap = h0 → Fr n0 locs6 → own_Go p.tables e below (T6.setTop (mkF m 45 #[iv p0, iv p1, iv p2, iv p3, iv p4, iv p5, iv x0, iv x1, iv x2, iv x3, .unset, .unset, .unset, .unset, .unset, .unset, .unset, .unset, .unset, .unset, .unset, .unset] [(.int y0)])) (fun s₂ o => s₂.status = .running ∧ Ended s₂ below o ∧ ∃ v L, o = .returned v ∧ Q0 Z  h0 n0 v s₂.heap L ∧ FrameEnd s o s₂ L 24 128) := by
    intro T6 locs6 X6 e6 N6
    have sg7 : ∀ t, Steps p.tables e below (T6.setTop (mkF m 47 #[iv p0, iv p1, iv p2, iv p3, iv p4, iv p5, iv x0, iv x1, iv x2, iv x3, iv y0, .unset, .unset, .unset, .unset, .unset, .unset, .unset, .unset, .unset, .unset, .unset] [])) t → Steps p.tables e below (T6.setTop (mkF m 45 #[iv p0, iv p1, iv p2, iv p3, iv p4, iv p5, iv x0, iv x1, iv x2, iv x3, .unset, .unset, .unset, .unset, .unset, .unset, .unset, .unset, .unset, .unset, .unset, .unset] [(.int y0)])) t := by
      intro t k
      refine XS.istore X6.here hx rfl (hb hby at_45) rfl (l' := #[iv p0, iv p1, iv p2, iv p3, iv p4, iv p5, iv x0, iv x1, iv x2, iv x3, iv y0, .unset, .unset, .unset, .unset, .unset, .unset, .unset, .unset, .unset, .unset, .unset]) rfl ?_
      show Steps p.tables e below (T6.setTop (mkF m 47 #[iv p0, iv p1, iv p2, iv p3, iv p4, iv p5, iv x0, iv x1, iv x2, iv x3, iv y0, .unset, .unset, .unset, .unset, .unset, .unset, .unset, .unset, .unset, .unset, .unset] [])) _
      exact k
    refine own_lift sg7 ?_
    show own_Go p.tables e below (T6.setTop (mkF m 47 #[iv p0, iv p1, iv p2, iv p3, iv p4, iv p5, iv x0, iv x1, iv x2, iv x3, iv y0, .unset, .unset, .unset, .unset, .unset, .unset, .unset, .unset, .unset, .unset, .unset] [])) _
    have join8 : ∀ (T8 : State) (locs8 : List Loc), Stand p l e room_1 s m #[(.int p0), (.int p1), (.int p2), (.int p3), (.int p4), (.int p5)] below meth c T8 locs8 0 0 → T8.heap = h0 → Fr n0 locs8 → own_Go p.tables e below (T8.setTop (mkF m 64 #[iv p0, iv p1, iv p2, iv p3, iv p4, iv p5, iv x0, iv x1, iv x2, iv x3, iv y0, .unset, .unset, .unset, .unset, .unset, .unset, .unset, .unset, .unset, .unset, .unset] [(.int y1)])) (fun s₂ o => s₂.status = .running ∧ Ended s₂ below o ∧ ∃ v L, o = .returned v ∧ Q0 Z  h0 n0 v s₂.heap L ∧ FrameEnd s o s₂ L 24 128) := by
      intro T8 locs8 X8 e8 N8
      have sg9 : ∀ t, Steps p.tables e below (T8.setTop (mkF m 66 #[iv p0, iv p1, iv p2, iv p3, iv p4, iv p5, iv x0, iv x1, iv x2, iv x3, iv y0, iv y1, .unset, .unset, .unset, .unset, .unset, .unset, .unset, .unset, .unset, .unset] [])) t → Steps p.tables e below (T8.setTop (mkF m 64 #[iv p0, iv p1, iv p2, iv p3, iv p4, iv p5, iv x0, iv x1, iv x2, iv x3, iv y0, .unset, .unset, .unset, .unset, .unset, .unset, .unset, .unset, .unset, .unset, .unset] [(.int y1)])) t := by
        intro t k
        refine XS.istore X8.here hx rfl (hb hby at_64) rfl (l' := #[iv p0, iv p1, iv p2, iv p3, iv p4, iv p5, iv x0, iv x1, iv x2, iv x3, iv y0, iv y1, .unset, .unset, .unset, .unset, .unset, .unset, .unset, .unset, .unset, .unset]) rfl ?_
        show Steps p.tables e below (T8.setTop (mkF m 66 #[iv p0, iv p1, iv p2, iv p3, iv p4, iv p5, iv x0, iv x1, iv x2, iv x3, iv y0, iv y1, .unset, .unset, .unset, .unset, .unset, .unset, .unset, .unset, .unset, .unset] [])) _
        exact k
      refine own_lift sg9 ?_
      show own_Go p.tables e below (T8.setTop (mkF m 66 #[iv p0, iv p1, iv p2, iv p3, iv p4, iv p5, iv x0, iv x1, iv x2, iv x3, iv y0, iv y1, .unset, .unset, .unset, .unset, .unset, .unset, .unset, .unset, .unset, .unset] [])) _
      have join10 : ∀ (T10 : State) (locs10 : List Loc), Stand p l e room_1 s m #[(.int p0), (.int p1), (.int p2), (.int p3), (.int p4), (.int p5)] below meth c T10 locs10 0 0 → T10.heap = h0 → Fr n0 locs10 → own_Go p.tables e below (T10.setTop (mkF m 87 #[iv p0, iv p1, iv p2, iv p3, iv p4, iv p5, iv x0, iv x1, iv x2, iv x3, iv y0, iv y1, .unset, .unset, .unset, .unset, .unset, .unset, .unset, .unset, .unset, .unset] [(.int y2)])) (fun s₂ o => s₂.status = .running ∧ Ended s₂ below o ∧ ∃ v L, o = .returned v ∧ Q0 Z  h0 n0 v s₂.heap L ∧ FrameEnd s o s₂ L 24 128) := by
        intro T10 locs10 X10 e10 N10
        have sg11 : ∀ t, Steps p.tables e below (T10.setTop (mkF m 89 #[iv p0, iv p1, iv p2, iv p3, iv p4, iv p5, iv x0, iv x1, iv x2, iv x3, iv y0, iv y1, iv y2, .unset, .unset, .unset, .unset, .unset, .unset, .unset, .unset, .unset] [])) t → Steps p.tables e below (T10.setTop (mkF m 87 #[iv p0, iv p1, iv p2, iv p3, iv p4, iv p5, iv x0, iv x1, iv x2, iv x3, iv y0, iv y1, .unset, .unset, .unset, .unset, .unset, .unset, .unset, .unset, .unset, .unset] [(.int y2)])) t := by
          intro t k
          refine XS.istore X10.here hx rfl (hb hby at_87) rfl (l' := #[iv p0, iv p1, iv p2, iv p3, iv p4, iv p5, iv x0, iv x1, iv x2, iv x3, iv y0, iv y1, iv y2, .unset, .unset, .unset, .unset, .unset, .unset, .unset, .unset, .unset]) rfl ?_
          show Steps p.tables e below (T10.setTop (mkF m 89 #[iv p0, iv p1, iv p2, iv p3, iv p4, iv p5, iv x0, iv x1, iv x2, iv x3, iv y0, iv y1, iv y2, .unset, .unset, .unset, .unset, .unset, .unset, .unset, .unset, .unset] [])) _
          exact k
        refine own_lift sg11 ?_
        show own_Go p.tables e below (T10.setTop (mkF m 89 #[iv p0, iv p1, iv p2, iv p3, iv p4, iv p5, iv x0, iv x1, iv x2, iv x3, iv y0, iv y1, iv y2, .unset, .unset, .unset, .unset, .unset, .unset, .unset, .unset, .unset] [])) _
        have join12 : ∀ (T12 : State) (locs12 : List Loc), Stand p l e room_1 s m #[(.int p0), (.int p1), (.int p2), (.int p3), (.int p4), (.int p5)] below meth c T12 locs12 0 0 → T12.heap = h0 → Fr n0 locs12 → own_Go p.tables e below (T12.setTop (mkF m 110 #[iv p0, iv p1, iv p2, iv p3, iv p4, iv p5, iv x0, iv x1, iv x2, iv x3, iv y0, iv y1, iv y2, .unset, .unset, .unset, .unset, .unset, .unset, .unset, .unset, .unset] [(.int y3)])) (fun s₂ o => s₂.status = .running ∧ Ended s₂ below o ∧ ∃ v L, o = .returned v ∧ Q0 Z  h0 n0 v s₂.heap L ∧ FrameEnd s o s₂ L 24 128) := by
          intro T12 locs12 X12 e12 N12
          have sg13 : ∀ t, Steps p.tables e below (T12.setTop (mkF m 118 #[iv p0, iv p1, iv p2, iv p3, iv p4, iv p5, iv x0, iv x1, iv x2, iv x3, iv y0, iv y1, iv y2, iv y3, .unset, .unset, .unset, .unset, .unset, .unset, .unset, .unset] [(.int (((p5.toUInt32 >>> ((4 : Int32) &&& 31).toUInt32).toInt32) &&& (3 : Int32)))])) t → Steps p.tables e below (T12.setTop (mkF m 110 #[iv p0, iv p1, iv p2, iv p3, iv p4, iv p5, iv x0, iv x1, iv x2, iv x3, iv y0, iv y1, iv y2, .unset, .unset, .unset, .unset, .unset, .unset, .unset, .unset, .unset] [(.int y3)])) t := by
            intro t k
            refine XS.istore X12.here hx rfl (hb hby at_110) rfl (l' := #[iv p0, iv p1, iv p2, iv p3, iv p4, iv p5, iv x0, iv x1, iv x2, iv x3, iv y0, iv y1, iv y2, iv y3, .unset, .unset, .unset, .unset, .unset, .unset, .unset, .unset]) rfl ?_
            show Steps p.tables e below (T12.setTop (mkF m 112 #[iv p0, iv p1, iv p2, iv p3, iv p4, iv p5, iv x0, iv x1, iv x2, iv x3, iv y0, iv y1, iv y2, iv y3, .unset, .unset, .unset, .unset, .unset, .unset, .unset, .unset] [])) _
            refine XS.iload X12.here hx rfl (hb hby at_112) rfl ?_
            refine XS.iconst X12.here hx rfl (hb hby at_114) ?_
            show Steps p.tables e below (T12.setTop (mkF m 115 #[iv p0, iv p1, iv p2, iv p3, iv p4, iv p5, iv x0, iv x1, iv x2, iv x3, iv y0, iv y1, iv y2, iv y3, .unset, .unset, .unset, .unset, .unset, .unset, .unset, .unset] [(.int 4), (.int p5)])) _
            refine XS.iushr X12.here hx rfl (hb hby at_115) rfl ?_
            refine XS.iconst X12.here hx rfl (hb hby at_116) ?_
            show Steps p.tables e below (T12.setTop (mkF m 117 #[iv p0, iv p1, iv p2, iv p3, iv p4, iv p5, iv x0, iv x1, iv x2, iv x3, iv y0, iv y1, iv y2, iv y3, .unset, .unset, .unset, .unset, .unset, .unset, .unset, .unset] [(.int 3), (.int ((p5.toUInt32 >>> ((4 : Int32) &&& 31).toUInt32).toInt32))])) _
            refine XS.iand X12.here hx rfl (hb hby at_117) rfl ?_
            show Steps p.tables e below (T12.setTop (mkF m 118 #[iv p0, iv p1, iv p2, iv p3, iv p4, iv p5, iv x0, iv x1, iv x2, iv x3, iv y0, iv y1, iv y2, iv y3, .unset, .unset, .unset, .unset, .unset, .unset, .unset, .unset] [(.int (((p5.toUInt32 >>> ((4 : Int32) &&& 31).toUInt32).toInt32) &&& (3 : Int32)))])) _
            exact k
          refine own_lift sg13 ?_
          show own_Go p.tables e below (T12.setTop (mkF m 118 #[iv p0, iv p1, iv p2, iv p3, iv p4, iv p5, iv x0, iv x1, iv x2, iv x3, iv y0, iv y1, iv y2, iv y3, .unset, .unset, .unset, .unset, .unset, .unset, .unset, .unset] [(.int (((p5.toUInt32 >>> ((4 : Int32) &&& 31).toUInt32).toInt32) &&& (3 : Int32)))])) _
          rw [hk]
          show own_Go p.tables e below (T12.setTop (mkF m 118 #[iv p0, iv p1, iv p2, iv p3, iv p4, iv p5, iv x0, iv x1, iv x2, iv x3, iv y0, iv y1, iv y2, iv y3, .unset, .unset, .unset, .unset, .unset, .unset, .unset, .unset] [(.int kk)])) _
          have sg14 : ∀ t, Steps p.tables e below (T12.setTop (mkF m 120 #[iv p0, iv p1, iv p2, iv p3, iv p4, iv p5, iv x0, iv x1, iv x2, iv x3, iv y0, iv y1, iv y2, iv y3, iv kk, .unset, .unset, .unset, .unset, .unset, .unset, .unset] [])) t → Steps p.tables e below (T12.setTop (mkF m 118 #[iv p0, iv p1, iv p2, iv p3, iv p4, iv p5, iv x0, iv x1, iv x2, iv x3, iv y0, iv y1, iv y2, iv y3, .unset, .unset, .unset, .unset, .unset, .unset, .unset, .unset] [(.int kk)])) t := by
            intro t k
            refine XS.istore X12.here hx rfl (hb hby at_118) rfl (l' := #[iv p0, iv p1, iv p2, iv p3, iv p4, iv p5, iv x0, iv x1, iv x2, iv x3, iv y0, iv y1, iv y2, iv y3, iv kk, .unset, .unset, .unset, .unset, .unset, .unset, .unset]) rfl ?_
            show Steps p.tables e below (T12.setTop (mkF m 120 #[iv p0, iv p1, iv p2, iv p3, iv p4, iv p5, iv x0, iv x1, iv x2, iv x3, iv y0, iv y1, iv y2, iv y3, iv kk, .unset, .unset, .unset, .unset, .unset, .unset, .unset] [])) _
            exact k
          refine own_lift sg14 ?_
          show own_Go p.tables e below (T12.setTop (mkF m 120 #[iv p0, iv p1, iv p2, iv p3, iv p4, iv p5, iv x0, iv x1, iv x2, iv x3, iv y0, iv y1, iv y2, iv y3, iv kk, .unset, .unset, .unset, .unset, .unset, .unset, .unset] [])) _
          obtain ⟨T15, h15, X15, e15, Ex15, Ax15, Dx15, Ux15, st15⟩ := newO X12 hx hZ hown (wd hw 1 rfl) (wd hw 2 rfl) (wd hw 3 rfl) e12 (g := (mkF m 120 #[iv p0, iv p1, iv p2, iv p3, iv p4, iv p5, iv x0, iv x1, iv x2, iv x3, iv y0, iv y1, iv y2, iv y3, iv kk, .unset, .unset, .unset, .unset, .unset, .unset, .unset] [])) rfl (hb hby at_120) (by decide) (by decide)
          obtain ⟨ob15, g15⟩ : ∃ z, z = h0.size := ⟨_, rfl⟩
          rw [← g15] at Ax15 Dx15 Ux15 st15
          have Z15 : n0 ≤ h15.size := Nat.le_trans Z0 Ex15.1
          have ge15 : n0 ≤ ob15 := Nat.le_trans Z0 (Nat.le_of_eq g15.symm)
          have Fn15_14 : Fld Z h15 ob15 "com/example/halyard/halyard/core/mal/TypeId" "area" "I" (.int 0) := Dx15 (Or.inr (wd hw 14 rfl)) (ty := .int) (by decide)
          have Fn15_16 : Fld Z h15 ob15 "com/example/halyard/halyard/core/mal/TypeId" "service" "I" (.int 0) := Dx15 (Or.inr (wd hw 16 rfl)) (ty := .int) (by decide)
          have Fn15_18 : Fld Z h15 ob15 "com/example/halyard/halyard/core/mal/TypeId" "areaVersion" "I" (.int 0) := Dx15 (Or.inr (wd hw 18 rfl)) (ty := .int) (by decide)
          have Fn15_20 : Fld Z h15 ob15 "com/example/halyard/halyard/core/mal/TypeId" "shortFormPart" "I" (.int 0) := Dx15 (Or.inr (wd hw 20 rfl)) (ty := .int) (by decide)
          refine own_lift st15 ?_
          show own_Go p.tables e below (T15.setTop (mkF m 123 #[iv p0, iv p1, iv p2, iv p3, iv p4, iv p5, iv x0, iv x1, iv x2, iv x3, iv y0, iv y1, iv y2, iv y3, iv kk, .unset, .unset, .unset, .unset, .unset, .unset, .unset] [(.ref ob15)])) _
          have sg16 : ∀ t, Steps p.tables e below (T15.setTop (mkF m 132 #[iv p0, iv p1, iv p2, iv p3, iv p4, iv p5, iv x0, iv x1, iv x2, iv x3, iv y0, iv y1, iv y2, iv y3, iv kk, .unset, .unset, .unset, .unset, .unset, .unset, .unset] [(.int x3), (.int x2), (.int x1), (.int x0), (.ref ob15), (.ref ob15)])) t → Steps p.tables e below (T15.setTop (mkF m 123 #[iv p0, iv p1, iv p2, iv p3, iv p4, iv p5, iv x0, iv x1, iv x2, iv x3, iv y0, iv y1, iv y2, iv y3, iv kk, .unset, .unset, .unset, .unset, .unset, .unset, .unset] [(.ref ob15)])) t := by
            intro t k
            refine XS.dup X15.here hx rfl (hb hby at_123) rfl rfl ?_
            show Steps p.tables e below (T15.setTop (mkF m 124 #[iv p0, iv p1, iv p2, iv p3, iv p4, iv p5, iv x0, iv x1, iv x2, iv x3, iv y0, iv y1, iv y2, iv y3, iv kk, .unset, .unset, .unset, .unset, .unset, .unset, .unset] [(.ref ob15), (.ref ob15)])) _
            refine XS.iload X15.here hx rfl (hb hby at_124) rfl ?_
            refine XS.iload X15.here hx rfl (hb hby at_126) rfl ?_
            show Steps p.tables e below (T15.setTop (mkF m 128 #[iv p0, iv p1, iv p2, iv p3, iv p4, iv p5, iv x0, iv x1, iv x2, iv x3, iv y0, iv y1, iv y2, iv y3, iv kk, .unset, .unset, .unset, .unset, .unset, .unset, .unset] [(.int x1), (.int x0), (.ref ob15), (.ref ob15)])) _
            refine XS.iload X15.here hx rfl (hb hby at_128) rfl ?_
            refine XS.iload X15.here hx rfl (hb hby at_130) rfl ?_
            show Steps p.tables e below (T15.setTop (mkF m 132 #[iv p0, iv p1, iv p2, iv p3, iv p4, iv p5, iv x0, iv x1, iv x2, iv x3, iv y0, iv y1, iv y2, iv y3, iv kk, .unset, .unset, .unset, .unset, .unset, .unset, .unset] [(.int x3), (.int x2), (.int x1), (.int x0), (.ref ob15), (.ref ob15)])) _
            exact k
          refine own_lift sg16 ?_
          show own_Go p.tables e below (T15.setTop (mkF m 132 #[iv p0, iv p1, iv p2, iv p3, iv p4, iv p5, iv x0, iv x1, iv x2, iv x3, iv y0, iv y1, iv y2, iv y3, iv kk, .unset, .unset, .unset, .unset, .unset, .unset, .unset] [(.int x3), (.int x2), (.int x1), (.int x0), (.ref ob15), (.ref ob15)])) _
          obtain ⟨_, _, ⟨T17, Lx17, kx17, nx17⟩, -, X17, ⟨Lc17, hQ17, lx17, yx17, zx17⟩, st17⟩ := X15.specialBack hx (y := (⟨"com/example/halyard/halyard/core/mal/TypeId", "<init>", "(IIII)V"⟩ : MethodName)) rfl hown (mvT hZ (wd hw 4 rfl)) (mvT hZ (wd hw 5 rfl)) (mvT hZ (wd hw 6 rfl)) (by decide) (backOf (W := 1) (rmInit l Z a0 hw [] ob15 x0 x1 x2 x3 h15 n0 Z15 Fn15_14 Fn15_16 Fn15_18 Fn15_20 Ax15 ge15 rx0.1 rx0.2 rx1.1 rx1.2 rx2.1 rx2.2 rx3.1 rx3.2) hZ (wd hw 6 rfl) (wd hw 3 rfl) (by decide) (by decide)) (g := (mkF m 132 #[iv p0, iv p1, iv p2, iv p3, iv p4, iv p5, iv x0, iv x1, iv x2, iv x3, iv y0, iv y1, iv y2, iv y3, iv kk, .unset, .unset, .unset, .unset, .unset, .unset, .unset] [(.int x3), (.int x2), (.int x1), (.int x0), (.ref ob15), (.ref ob15)])) rfl (by rw [hml]; rfl) (Steps.refl _) (a := ob15) (argsL := [(.int x0), (.int x1), (.int x2), (.int x3)]) (rest := [(.ref ob15)]) (lenOf pd_0 rfl) rfl (by show 2 * 0 + _ ≤ _; exact Nat.le_of_eq rfl) (hb hby at_132) (fun _ _ => ⟨rfl, e15, (by decide : 1 + 0 ≤ _), (by decide : 4 + 0 ≤ _)⟩)
          dsimp only [Pt.U, Pt.locs, Pt.cells, Pt.slots] at X17 lx17 yx17 zx17 st17 hQ17
          subst lx17 yx17 zx17
          obtain ⟨rfl, N17q, p17_0, p17_1, p17_2, p17_3, p17_4, p17_5⟩ := hQ17
          have N17 := Fr.app N12 N17q
          have Z17 : n0 ≤ T17.heap.size := Nat.le_trans Z15 p17_0.1
          refine own_lift (fun t k => st17.trans k) ?_
          show own_Go p.tables e below (T17.setTop (mkF m 135 #[iv p0, iv p1, iv p2, iv p3, iv p4, iv p5, iv x0, iv x1, iv x2, iv x3, iv y0, iv y1, iv y2, iv y3, iv kk, .unset, .unset, .unset, .unset, .unset, .unset, .unset] [(.ref ob15)])) _
          have sg18 : ∀ t, Steps p.tables e below (T17.setTop (mkF m 137 #[iv p0, iv p1, iv p2, iv p3, iv p4, iv p5, iv x0, iv x1, iv x2, iv x3, iv y0, iv y1, iv y2, iv y3, iv kk, rv ob15, .unset, .unset, .unset, .unset, .unset, .unset] [])) t → Steps p.tables e below (T17.setTop (mkF m 135 #[iv p0, iv p1, iv p2, iv p3, iv p4, iv p5, iv x0, iv x1, iv x2, iv x3, iv y0, iv y1, iv y2, iv y3, iv kk, .unset, .unset, .unset, .unset, .unset, .unset, .unset] [(.ref ob15)])) t := by
            intro t k
            refine XS.astore X17.here hx rfl (hb hby at_135) rfl rfl (l' := #[iv p0, iv p1, iv p2, iv p3, iv p4, iv p5, iv x0, iv x1, iv x2, iv x3, iv y0, iv y1, iv y2, iv y3, iv kk, rv ob15, .unset, .unset, .unset, .unset, .unset, .unset]) rfl ?_
            show Steps p.tables e below (T17.setTop (mkF m 137 #[iv p0, iv p1, iv p2, iv p3, iv p4, iv p5, iv x0, iv x1, iv x2, iv x3, iv y0, iv y1, iv y2, iv y3, iv kk, rv ob15, .unset, .unset, .unset, .unset, .unset, .unset] [])) _
            exact k
          refine own_lift sg18 ?_
          show own_Go p.tables e below (T17.setTop (mkF m 137 #[iv p0, iv p1, iv p2, iv p3, iv p4, iv p5, iv x0, iv x1, iv x2, iv x3, iv y0, iv y1, iv y2, iv y3, iv kk, rv ob15, .unset, .unset, .unset, .unset, .unset, .unset] [])) _
          obtain ⟨T19, h19, X19, e19, Ex19, Ax19, Dx19, Ux19, st19⟩ := newO X17 hx hZ hown (wd hw 1 rfl) (wd hw 2 rfl) (wd hw 3 rfl) rfl (g := (mkF m 137 #[iv p0, iv p1, iv p2, iv p3, iv p4, iv p5, iv x0, iv x1, iv x2, iv x3, iv y0, iv y1, iv y2, iv y3, iv kk, rv ob15, .unset, .unset, .unset, .unset, .unset, .unset] [])) rfl (hb hby at_137) (by decide) (by decide)
          obtain ⟨ob19, g19⟩ : ∃ z, z = T17.heap.size := ⟨_, rfl⟩
          rw [← g19] at Ax19 Dx19 Ux19 st19
          have ne20 : ob15 ≠ ob19 := Nat.ne_of_lt (Nat.lt_of_lt_of_le p17_1.lt (Nat.le_of_eq g19.symm))
          have Z19 : n0 ≤ h19.size := Nat.le_trans Z17 Ex19.1
          have ge19 : n0 ≤ ob19 := Nat.le_trans Z17 (Nat.le_of_eq g19.symm)
          have Fn19_14 : Fld Z h19 ob19 "com/example/halyard/halyard/core/mal/TypeId" "area" "I" (.int 0) := Dx19 (Or.inr (wd hw 14 rfl)) (ty := .int) (by decide)
          have Fn19_16 : Fld Z h19 ob19 "com/example/halyard/halyard/core/mal/TypeId" "service" "I" (.int 0) := Dx19 (Or.inr (wd hw 16 rfl)) (ty := .int) (by decide)
          have Fn19_18 : Fld Z h19 ob19 "com/example/halyard/halyard/core/mal/TypeId" "areaVersion" "I" (.int 0) := Dx19 (Or.inr (wd hw 18 rfl)) (ty := .int) (by decide)
          have Fn19_20 : Fld Z h19 ob19 "com/example/halyard/halyard/core/mal/TypeId" "shortFormPart" "I" (.int 0) := Dx19 (Or.inr (wd hw 20 rfl)) (ty := .int) (by decide)
          refine own_lift st19 ?_
          show own_Go p.tables e below (T19.setTop (mkF m 140 #[iv p0, iv p1, iv p2, iv p3, iv p4, iv p5, iv x0, iv x1, iv x2, iv x3, iv y0, iv y1, iv y2, iv y3, iv kk, rv ob15, .unset, .unset, .unset, .unset, .unset, .unset] [(.ref ob19)])) _
          have sg21 : ∀ t, Steps p.tables e below (T19.setTop (mkF m 149 #[iv p0, iv p1, iv p2, iv p3, iv p4, iv p5, iv x0, iv x1, iv x2, iv x3, iv y0, iv y1, iv y2, iv y3, iv kk, rv ob15, .unset, .unset, .unset, .unset, .unset, .unset] [(.int y3), (.int y2), (.int y1), (.int y0), (.ref ob19), (.ref ob19)])) t → Steps p.tables e below (T19.setTop (mkF m 140 #[iv p0, iv p1, iv p2, iv p3, iv p4, iv p5, iv x0, iv x1, iv x2, iv x3, iv y0, iv y1, iv y2, iv y3, iv kk, rv ob15, .unset, .unset, .unset, .unset, .unset, .unset] [(.ref ob19)])) t := by
            intro t k
            refine XS.dup X19.here hx rfl (hb hby at_140) rfl rfl ?_
            show Steps p.tables e below (T19.setTop (mkF m 141 #[iv p0, iv p1, iv p2, iv p3, iv p4, iv p5, iv x0, iv x1, iv x2, iv x3, iv y0, iv y1, iv y2, iv y3, iv kk, rv ob15, .unset, .unset, .unset, .unset, .unset, .unset] [(.ref ob19), (.ref ob19)])) _
            refine XS.iload X19.here hx rfl (hb hby at_141) rfl ?_
            refine XS.iload X19.here hx rfl (hb hby at_143) rfl ?_
            show Steps p.tables e below (T19.setTop (mkF m 145 #[iv p0, iv p1, iv p2, iv p3, iv p4, iv p5, iv x0, iv x1, iv x2, iv x3, iv y0, iv y1, iv y2, iv y3, iv kk, rv ob15, .unset, .unset, .unset, .unset, .unset, .unset] [(.int y1), (.int y0), (.ref ob19), (.ref ob19)])) _
            refine XS.iload X19.here hx rfl (hb hby at_145) rfl ?_
            refine XS.iload X19.here hx rfl (hb hby at_147) rfl ?_
            show Steps p.tables e below (T19.setTop (mkF m 149 #[iv p0, iv p1, iv p2, iv p3, iv p4, iv p5, iv x0, iv x1, iv x2, iv x3, iv y0, iv y1, iv y2, iv y3, iv kk, rv ob15, .unset, .unset, .unset, .unset, .unset, .unset] [(.int y3), (.int y2), (.int y1), (.int y0), (.ref ob19), (.ref ob19)])) _
            exact k
          refine own_lift sg21 ?_
          show own_Go p.tables e below (T19.setTop (mkF m 149 #[iv p0, iv p1, iv p2, iv p3, iv p4, iv p5, iv x0, iv x1, iv x2, iv x3, iv y0, iv y1, iv y2, iv y3, iv kk, rv ob15, .unset, .unset, .unset, .unset, .unset, .unset] [(.int y3), (.int y2), (.int y1), (.int y0), (.ref ob19), (.ref ob19)])) _
          obtain ⟨_, _, ⟨T22, Lx22, kx22, nx22⟩, -, X22, ⟨Lc22, hQ22, lx22, yx22, zx22⟩, st22⟩ := X19.specialBack hx (y := (⟨"com/example/halyard/halyard/core/mal/TypeId", "<init>", "(IIII)V"⟩ : MethodName)) rfl hown (mvT hZ (wd hw 4 rfl)) (mvT hZ (wd hw 5 rfl)) (mvT hZ (wd hw 6 rfl)) (by decide) (backOf (W := 1) (rmInit l Z a0 hw [] ob19 y0 y1 y2 y3 h19 n0 Z19 Fn19_14 Fn19_16 Fn19_18 Fn19_20 Ax19 ge19 ry0.1 ry0.2 ry1.1 ry1.2 ry2.1 ry2.2 ry3.1 ry3.2) hZ (wd hw 6 rfl) (wd hw 3 rfl) (by decide) (by decide)) (g := (mkF m 149 #[iv p0, iv p1, iv p2, iv p3, iv p4, iv p5, iv x0, iv x1, iv x2, iv x3, iv y0, iv y1, iv y2, iv y3, iv kk, rv ob15, .unset, .unset, .unset, .unset, .unset, .unset] [(.int y3), (.int y2), (.int y1), (.int y0), (.ref ob19), (.ref ob19)])) rfl (by rw [hml]; rfl) (Steps.refl _) (a := ob19) (argsL := [(.int y0), (.int y1), (.int y2), (.int y3)]) (rest := [(.ref ob19)]) (lenOf pd_0 rfl) rfl (by show 2 * 0 + _ ≤ _; exact Nat.le_of_eq rfl) (hb hby at_149) (fun _ _ => ⟨rfl, e19, (by decide : 2 + 0 ≤ _), (by decide : 8 + 0 ≤ _)⟩)
          dsimp only [Pt.U, Pt.locs, Pt.cells, Pt.slots] at X22 lx22 yx22 zx22 st22 hQ22
          subst lx22 yx22 zx22
          obtain ⟨rfl, N22q, p22_0, p22_1, p22_2, p22_3, p22_4, p22_5⟩ := hQ22
          have N22 := Fr.app N17 N22q
          have Z22 : n0 ≤ T22.heap.size := Nat.le_trans Z19 p22_0.1
          refine own_lift (fun t k => st22.trans k) ?_
          show own_Go p.tables e below (T22.setTop (mkF m 152 #[iv p0, iv p1, iv p2, iv p3, iv p4, iv p5, iv x0, iv x1, iv x2, iv x3, iv y0, iv y1, iv y2, iv y3, iv kk, rv ob15, .unset, .unset, .unset, .unset, .unset, .unset] [(.ref ob19)])) _
          have sg23 : ∀ t, Steps p.tables e below (T22.setTop (mkF m 155 #[iv p0, iv p1, iv p2, iv p3, iv p4, iv p5, iv x0, iv x1, iv x2, iv x3, iv y0, iv y1, iv y2, iv y3, iv kk, rv ob15, rv ob19, .unset, .unset, .unset, .unset, .unset] [(.int 2)])) t → Steps p.tables e below (T22.setTop (mkF m 152 #[iv p0, iv p1, iv p2, iv p3, iv p4, iv p5, iv x0, iv x1, iv x2, iv x3, iv y0, iv y1, iv y2, iv y3, iv kk, rv ob15, .unset, .unset, .unset, .unset, .unset, .unset] [(.ref ob19)])) t := by
            intro t k
            refine XS.astore X22.here hx rfl (hb hby at_152) rfl rfl (l' := #[iv p0, iv p1, iv p2, iv p3, iv p4, iv p5, iv x0, iv x1, iv x2, iv x3, iv y0, iv y1, iv y2, iv y3, iv kk, rv ob15, rv ob19, .unset, .unset, .unset, .unset, .unset]) rfl ?_
            show Steps p.tables e below (T22.setTop (mkF m 154 #[iv p0, iv p1, iv p2, iv p3, iv p4, iv p5, iv x0, iv x1, iv x2, iv x3, iv y0, iv y1, iv y2, iv y3, iv kk, rv ob15, rv ob19, .unset, .unset, .unset, .unset, .unset] [])) _
            refine XS.iconst X22.here hx rfl (hb hby at_154) ?_
            show Steps p.tables e below (T22.setTop (mkF m 155 #[iv p0, iv p1, iv p2, iv p3, iv p4, iv p5, iv x0, iv x1, iv x2, iv x3, iv y0, iv y1, iv y2, iv y3, iv kk, rv ob15, rv ob19, .unset, .unset, .unset, .unset, .unset] [(.int 2)])) _
            exact k
          refine own_lift sg23 ?_
          show own_Go p.tables e below (T22.setTop (mkF m 155 #[iv p0, iv p1, iv p2, iv p3, iv p4, iv p5, iv x0, iv x1, iv x2, iv x3, iv y0, iv y1, iv y2, iv y3, iv kk, rv ob15, rv ob19, .unset, .unset, .unset, .unset, .unset] [(.int 2)])) _
          obtain ⟨T24, h24, ka24, X24, e24, Ex24, Ax24, st24⟩ := newP X22 hx hZ (wd hw 21 rfl) rfl (g := (mkF m 155 #[iv p0, iv p1, iv p2, iv p3, iv p4, iv p5, iv x0, iv x1, iv x2, iv x3, iv y0, iv y1, iv y2, iv y3, iv kk, rv ob15, rv ob19, .unset, .unset, .unset, .unset, .unset] [(.int 2)])) rfl (hb hby at_155) rfl (by decide) (cap := 2) (by decide) (by decide) (by decide) (by decide)
          obtain ⟨ob24, g24⟩ : ∃ z, z = T22.heap.size := ⟨_, rfl⟩
          rw [← g24] at Ax24 st24
          have Fc25 : Exa Z T22.heap ob15 "com/example/halyard/halyard/core/mal/TypeId" := ((p17_1.ext Ex19).keep p22_0)
          have ne26 : ob15 ≠ ob24 := Nat.ne_of_lt (Nat.lt_of_lt_of_le Fc25.lt (Nat.le_of_eq g24.symm))
          have ne27 : ob19 ≠ ob24 := Nat.ne_of_lt (Nat.lt_of_lt_of_le p22_1.lt (Nat.le_of_eq g24.symm))
          have Z24 : n0 ≤ h24.size := Nat.le_trans Z22 Ex24.1
          have ge24 : n0 ≤ ob24 := Nat.le_trans Z22 (Nat.le_of_eq g24.symm)
          have Vn24 : Arv Z h24 ob24 ka24 .char (2 : Int32) [(.int 0), (.int 0)] (.int 0) := (Arv.new Ax24 (by decide)).pad (pad_rep [] (.int 0) 2)
          refine own_lift st24 ?_
          show own_Go p.tables e below (T24.setTop (mkF m 157 #[iv p0, iv p1, iv p2, iv p3, iv p4, iv p5, iv x0, iv x1, iv x2, iv x3, iv y0, iv y1, iv y2, iv y3, iv kk, rv ob15, rv ob19, .unset, .unset, .unset, .unset, .unset] [(.ref ob24)])) _
          have sg28 : ∀ t, Steps p.tables e below (T24.setTop (mkF m 169 #[iv p0, iv p1, iv p2, iv p3, iv p4, iv p5, iv x0, iv x1, iv x2, iv x3, iv y0, iv y1, iv y2, iv y3, iv kk, rv ob15, rv ob19, rv ob24, .unset, .unset, .unset, .unset] [(.int ((p4 &&& (255 : Int32)).toUInt32.toUInt16.toUInt32.toInt32)), (.int 0), (.ref ob24)])) t → Steps p.tables e below (T24.setTop (mkF m 157 #[iv p0, iv p1, iv p2, iv p3, iv p4, iv p5, iv x0, iv x1, iv x2, iv x3, iv y0, iv y1, iv y2, iv y3, iv kk, rv ob15, rv ob19, .unset, .unset, .unset, .unset, .unset] [(.ref ob24)])) t := by
            intro t k
            refine XS.astore X24.here hx rfl (hb hby at_157) rfl rfl (l' := #[iv p0, iv p1, iv p2, iv p3, iv p4, iv p5, iv x0, iv x1, iv x2, iv x3, iv y0, iv y1, iv y2, iv y3, iv kk, rv ob15, rv ob19, rv ob24, .unset, .unset, .unset, .unset]) rfl ?_
            show Steps p.tables e below (T24.setTop (mkF m 159 #[iv p0, iv p1, iv p2, iv p3, iv p4, iv p5, iv x0, iv x1, iv x2, iv x3, iv y0, iv y1, iv y2, iv y3, iv kk, rv ob15, rv ob19, rv ob24, .unset, .unset, .unset, .unset] [])) _
            refine XS.aload X24.here hx rfl (hb hby at_159) rfl rfl ?_
            refine XS.iconst X24.here hx rfl (hb hby at_161) ?_
            show Steps p.tables e below (T24.setTop (mkF m 162 #[iv p0, iv p1, iv p2, iv p3, iv p4, iv p5, iv x0, iv x1, iv x2, iv x3, iv y0, iv y1, iv y2, iv y3, iv kk, rv ob15, rv ob19, rv ob24, .unset, .unset, .unset, .unset] [(.int 0), (.ref ob24)])) _
            refine XS.iload X24.here hx rfl (hb hby at_162) rfl ?_
            refine XS.sipush X24.here hx rfl (hb hby at_164) ?_
            show Steps p.tables e below (T24.setTop (mkF m 167 #[iv p0, iv p1, iv p2, iv p3, iv p4, iv p5, iv x0, iv x1, iv x2, iv x3, iv y0, iv y1, iv y2, iv y3, iv kk, rv ob15, rv ob19, rv ob24, .unset, .unset, .unset, .unset] [(.int 255), (.int p4), (.int 0), (.ref ob24)])) _
            refine XS.iand X24.here hx rfl (hb hby at_167) rfl ?_
            refine XS.i2c X24.here hx rfl (hb hby at_168) rfl ?_
            show Steps p.tables e below (T24.setTop (mkF m 169 #[iv p0, iv p1, iv p2, iv p3, iv p4, iv p5, iv x0, iv x1, iv x2, iv x3, iv y0, iv y1, iv y2, iv y3, iv kk, rv ob15, rv ob19, rv ob24, .unset, .unset, .unset, .unset] [(.int ((p4 &&& (255 : Int32)).toUInt32.toUInt16.toUInt32.toInt32)), (.int 0), (.ref ob24)])) _
            exact k
          refine own_lift sg28 ?_
          show own_Go p.tables e below (T24.setTop (mkF m 169 #[iv p0, iv p1, iv p2, iv p3, iv p4, iv p5, iv x0, iv x1, iv x2, iv x3, iv y0, iv y1, iv y2, iv y3, iv kk, rv ob15, rv ob19, rv ob24, .unset, .unset, .unset, .unset] [(.int ((p4 &&& (255 : Int32)).toUInt32.toUInt16.toUInt32.toInt32)), (.int 0), (.ref ob24)])) _
          obtain ⟨cl29, Ar29, qx29, Sx29, N29', H29', G29'⟩ := id (Vn24)
          have hin29 : ¬ ((0 : Int32) < 0 ∨ cl29.slots.size ≤ ((0 : Int32)).toNatClampNeg) := inb_of Sx29 ⟨(by decide : ¬ ((0 : Int32) < (0 : Int32))), (by decide : (0 : Int32) < (2 : Int32))⟩
          obtain ⟨T30, h30, X30, e30, W30, st30⟩ := stC X24 hx hZ e24 Ar29 (j := (0 : Int32)) hin29 (g := (mkF m 169 #[iv p0, iv p1, iv p2, iv p3, iv p4, iv p5, iv x0, iv x1, iv x2, iv x3, iv y0, iv y1, iv y2, iv y3, iv kk, rv ob15, rv ob19, rv ob24, .unset, .unset, .unset, .unset] [(.int ((p4 &&& (255 : Int32)).toUInt32.toUInt16.toUInt32.toInt32)), (.int 0), (.ref ob24)])) rfl rfl (hb hby at_169)
          have N30 := Fr.snoc X30 N22 ge24
          have Z30 : n0 ≤ h30.size := Nat.le_trans Z24 (Nat.le_of_eq W30.size.symm)
          have Vn30 : Arv Z h30 ob24 ka24 .char (2 : Int32) [(.int (nar .char ((p4 &&& (255 : Int32)).toUInt32.toUInt16.toUInt32.toInt32))), (.int 0)] (.int 0) := Arv.set Ar29 qx29 Sx29 N29' H29' G29' (fits_nar_char _) W30 0 rfl (Nat.le_of_ble_eq_true rfl)
          refine own_lift st30 ?_
          show own_Go p.tables e below (T30.setTop (mkF m 170 #[iv p0, iv p1, iv p2, iv p3, iv p4, iv p5, iv x0, iv x1, iv x2, iv x3, iv y0, iv y1, iv y2, iv y3, iv kk, rv ob15, rv ob19, rv ob24, .unset, .unset, .unset, .unset] [])) _
          have sg31 : ∀ t, Steps p.tables e below (T30.setTop (mkF m 183 #[iv p0, iv p1, iv p2, iv p3, iv p4, iv p5, iv x0, iv x1, iv x2, iv x3, iv y0, iv y1, iv y2, iv y3, iv kk, rv ob15, rv ob19, rv ob24, .unset, .unset, .unset, .unset] [(.int ((((p4.toUInt32 >>> ((8 : Int32) &&& 31).toUInt32).toInt32) &&& (255 : Int32)).toUInt32.toUInt16.toUInt32.toInt32)), (.int 1), (.ref ob24)])) t → Steps p.tables e below (T30.setTop (mkF m 170 #[iv p0, iv p1, iv p2, iv p3, iv p4, iv p5, iv x0, iv x1, iv x2, iv x3, iv y0, iv y1, iv y2, iv y3, iv kk, rv ob15, rv ob19, rv ob24, .unset, .unset, .unset, .unset] [])) t := by
            intro t k
            refine XS.aload X30.here hx rfl (hb hby at_170) rfl rfl ?_
            show Steps p.tables e below (T30.setTop (mkF m 172 #[iv p0, iv p1, iv p2, iv p3, iv p4, iv p5, iv x0, iv x1, iv x2, iv x3, iv y0, iv y1, iv y2, iv y3, iv kk, rv ob15, rv ob19, rv ob24, .unset, .unset, .unset, .unset] [(.ref ob24)])) _
            refine XS.iconst X30.here hx rfl (hb hby at_172) ?_
            refine XS.iload X30.here hx rfl (hb hby at_173) rfl ?_
            show Steps p.tables e below (T30.setTop (mkF m 175 #[iv p0, iv p1, iv p2, iv p3, iv p4, iv p5, iv x0, iv x1, iv x2, iv x3, iv y0, iv y1, iv y2, iv y3, iv kk, rv ob15, rv ob19, rv ob24, .unset, .unset, .unset, .unset] [(.int p4), (.int 1), (.ref ob24)])) _
            refine XS.bipush X30.here hx rfl (hb hby at_175) ?_
            refine XS.iushr X30.here hx rfl (hb hby at_177) rfl ?_
            show Steps p.tables e below (T30.setTop (mkF m 178 #[iv p0, iv p1, iv p2, iv p3, iv p4, iv p5, iv x0, iv x1, iv x2, iv x3, iv y0, iv y1, iv y2, iv y3, iv kk, rv ob15, rv ob19, rv ob24, .unset, .unset, .unset, .unset] [(.int ((p4.toUInt32 >>> ((8 : Int32) &&& 31).toUInt32).toInt32)), (.int 1), (.ref ob24)])) _
            refine XS.sipush X30.here hx rfl (hb hby at_178) ?_
            refine XS.iand X30.here hx rfl (hb hby at_181) rfl ?_
            show Steps p.tables e below (T30.setTop (mkF m 182 #[iv p0, iv p1, iv p2, iv p3, iv p4, iv p5, iv x0, iv x1, iv x2, iv x3, iv y0, iv y1, iv y2, iv y3, iv kk, rv ob15, rv ob19, rv ob24, .unset, .unset, .unset, .unset] [(.int (((p4.toUInt32 >>> ((8 : Int32) &&& 31).toUInt32).toInt32) &&& (255 : Int32))), (.int 1), (.ref ob24)])) _
            refine XS.i2c X30.here hx rfl (hb hby at_182) rfl ?_
            show Steps p.tables e below (T30.setTop (mkF m 183 #[iv p0, iv p1, iv p2, iv p3, iv p4, iv p5, iv x0, iv x1, iv x2, iv x3, iv y0, iv y1, iv y2, iv y3, iv kk, rv ob15, rv ob19, rv ob24, .unset, .unset, .unset, .unset] [(.int ((((p4.toUInt32 >>> ((8 : Int32) &&& 31).toUInt32).toInt32) &&& (255 : Int32)).toUInt32.toUInt16.toUInt32.toInt32)), (.int 1), (.ref ob24)])) _
            exact k
          refine own_lift sg31 ?_
          show own_Go p.tables e below (T30.setTop (mkF m 183 #[iv p0, iv p1, iv p2, iv p3, iv p4, iv p5, iv x0, iv x1, iv x2, iv x3, iv y0, iv y1, iv y2, iv y3, iv kk, rv ob15, rv ob19, rv ob24, .unset, .unset, .unset, .unset] [(.int ((((p4.toUInt32 >>> ((8 : Int32) &&& 31).toUInt32).toInt32) &&& (255 : Int32)).toUInt32.toUInt16.toUInt32.toInt32)), (.int 1), (.ref ob24)])) _
          obtain ⟨cl32, Ar32, qx32, Sx32, N32', H32', G32'⟩ := id (Vn30)
          have hin32 : ¬ ((1 : Int32) < 0 ∨ cl32.slots.size ≤ ((1 : Int32)).toNatClampNeg) := inb_of Sx32 ⟨(by decide : ¬ ((1 : Int32) < (0 : Int32))), (by decide : (1 : Int32) < (2 : Int32))⟩
          obtain ⟨T33, h33, X33, e33, W33, st33⟩ := stC X30 hx hZ e30 Ar32 (j := (1 : Int32)) hin32 (g := (mkF m 183 #[iv p0, iv p1, iv p2, iv p3, iv p4, iv p5, iv x0, iv x1, iv x2, iv x3, iv y0, iv y1, iv y2, iv y3, iv kk, rv ob15, rv ob19, rv ob24, .unset, .unset, .unset, .unset] [(.int ((((p4.toUInt32 >>> ((8 : Int32) &&& 31).toUInt32).toInt32) &&& (255 : Int32)).toUInt32.toUInt16.toUInt32.toInt32)), (.int 1), (.ref ob24)])) rfl rfl (hb hby at_183)
          have N33 := Fr.snoc X33 N30 ge24
          have Z33 : n0 ≤ h33.size := Nat.le_trans Z30 (Nat.le_of_eq W33.size.symm)
          have Vn33 : Arv Z h33 ob24 ka24 .char (2 : Int32) [(.int (nar .char ((p4 &&& (255 : Int32)).toUInt32.toUInt16.toUInt32.toInt32))), (.int (nar .char ((((p4.toUInt32 >>> ((8 : Int32) &&& 31).toUInt32).toInt32) &&& (255 : Int32)).toUInt32.toUInt16.toUInt32.toInt32)))] (.int 0) := Arv.set Ar32 qx32 Sx32 N32' H32' G32' (fits_nar_char _) W33 1 rfl (Nat.le_of_ble_eq_true rfl)
          refine own_lift st33 ?_
          show own_Go p.tables e below (T33.setTop (mkF m 184 #[iv p0, iv p1, iv p2, iv p3, iv p4, iv p5, iv x0, iv x1, iv x2, iv x3, iv y0, iv y1, iv y2, iv y3, iv kk, rv ob15, rv ob19, rv ob24, .unset, .unset, .unset, .unset] [])) _
          obtain ⟨T34, h34, X34, e34, Ex34, Ax34, Dx34, Ux34, st34⟩ := newO X33 hx hZ hown (wd hw 22 rfl) (wd hw 23 rfl) (wd hw 24 rfl) e33 (g := (mkF m 184 #[iv p0, iv p1, iv p2, iv p3, iv p4, iv p5, iv x0, iv x1, iv x2, iv x3, iv y0, iv y1, iv y2, iv y3, iv kk, rv ob15, rv ob19, rv ob24, .unset, .unset, .unset, .unset] [])) rfl (hb hby at_184) (by decide) (by decide)
          obtain ⟨ob34, g34⟩ : ∃ z, z = h33.size := ⟨_, rfl⟩
          rw [← g34] at Ax34 Dx34 Ux34 st34
          have Fc35 : Exa Z h33 ob15 "com/example/halyard/halyard/core/mal/TypeId" := (((Fc25.ext Ex24).wr W30).wr W33)
          have ne36 : ob15 ≠ ob34 := Nat.ne_of_lt (Nat.lt_of_lt_of_le Fc35.lt (Nat.le_of_eq g34.symm))
          have Fc37 : Exa Z h33 ob19 "com/example/halyard/halyard/core/mal/TypeId" := (((p22_1.ext Ex24).wr W30).wr W33)
          have ne38 : ob19 ≠ ob34 := Nat.ne_of_lt (Nat.lt_of_lt_of_le Fc37.lt (Nat.le_of_eq g34.symm))
          have ne39 : ob24 ≠ ob34 := Nat.ne_of_lt (Nat.lt_of_lt_of_le Vn33.lt (Nat.le_of_eq g34.symm))
          have Z34 : n0 ≤ h34.size := Nat.le_trans Z33 Ex34.1
          have ge34 : n0 ≤ ob34 := Nat.le_trans Z33 (Nat.le_of_eq g34.symm)
          have Fn34_46 : Fld Z h34 ob34 "java/lang/String" "coder" "B" (.int 0) := Dx34 (Or.inr (wd hw 46 rfl)) (ty := .byte) (by decide)
          have Fn34_48 : Fld Z h34 ob34 "java/lang/String" "value" "[B" .null := Dx34 (Or.inr (wd hw 48 rfl)) (ty := (.array .byte)) (by decide)
          refine own_lift st34 ?_
          show own_Go p.tables e below (T34.setTop (mkF m 187 #[iv p0, iv p1, iv p2, iv p3, iv p4, iv p5, iv x0, iv x1, iv x2, iv x3, iv y0, iv y1, iv y2, iv y3, iv kk, rv ob15, rv ob19, rv ob24, .unset, .unset, .unset, .unset] [(.ref ob34)])) _
          have sg40 : ∀ t, Steps p.tables e below (T34.setTop (mkF m 190 #[iv p0, iv p1, iv p2, iv p3, iv p4, iv p5, iv x0, iv x1, iv x2, iv x3, iv y0, iv y1, iv y2, iv y3, iv kk, rv ob15, rv ob19, rv ob24, .unset, .unset, .unset, .unset] [(.ref ob24), (.ref ob34), (.ref ob34)])) t → Steps p.tables e below (T34.setTop (mkF m 187 #[iv p0, iv p1, iv p2, iv p3, iv p4, iv p5, iv x0, iv x1, iv x2, iv x3, iv y0, iv y1, iv y2, iv y3, iv kk, rv ob15, rv ob19, rv ob24, .unset, .unset, .unset, .unset] [(.ref ob34)])) t := by
            intro t k
            refine XS.dup X34.here hx rfl (hb hby at_187) rfl rfl ?_
            show Steps p.tables e below (T34.setTop (mkF m 188 #[iv p0, iv p1, iv p2, iv p3, iv p4, iv p5, iv x0, iv x1, iv x2, iv x3, iv y0, iv y1, iv y2, iv y3, iv kk, rv ob15, rv ob19, rv ob24, .unset, .unset, .unset, .unset] [(.ref ob34), (.ref ob34)])) _
            refine XS.aload X34.here hx rfl (hb hby at_188) rfl rfl ?_
            show Steps p.tables e below (T34.setTop (mkF m 190 #[iv p0, iv p1, iv p2, iv p3, iv p4, iv p5, iv x0, iv x1, iv x2, iv x3, iv y0, iv y1, iv y2, iv y3, iv kk, rv ob15, rv ob19, rv ob24, .unset, .unset, .unset, .unset] [(.ref ob24), (.ref ob34), (.ref ob34)])) _
            exact k
          refine own_lift sg40 ?_
          show own_Go p.tables e below (T34.setTop (mkF m 190 #[iv p0, iv p1, iv p2, iv p3, iv p4, iv p5, iv x0, iv x1, iv x2, iv x3, iv y0, iv y1, iv y2, iv y3, iv kk, rv ob15, rv ob19, rv ob24, .unset, .unset, .unset, .unset] [(.ref ob24), (.ref ob34), (.ref ob34)])) _
          have Fc41 : Arv Z h34 ob24 ka24 .char (2 : Int32) [(.int (nar .char ((p4 &&& (255 : Int32)).toUInt32.toUInt16.toUInt32.toInt32))), (.int (nar .char ((((p4.toUInt32 >>> ((8 : Int32) &&& 31).toUInt32).toInt32) &&& (255 : Int32)).toUInt32.toUInt16.toUInt32.toInt32)))] (.int 0) := (Vn33.ext Ex34)
          have Fc42 : Sta Z h34 "java/lang/String" "COMPACT_STRINGS" "Z" (.int cs) := (((((own_Sta_keep ((own_Sta_keep (S_cs.ext Ex15) p17_0 (allS (own_plain Ax15) all0)).ext Ex19) p22_0 (allS (own_plain Ax19) all0)).ext Ex24).wr W30).wr W33).ext Ex34)
          have hws43 : ∀ d ∈ StrChars.Road.words, d.before a0 Z = true := fun d hd => hw d (own_words d hd)
          have hlat43 : ∀ c ∈ [(nar .char ((p4 &&& (255 : Int32)).toUInt32.toUInt16.toUInt32.toInt32)), (nar .char ((((p4.toUInt32 >>> ((8 : Int32) &&& 31).toUInt32).toInt32) &&& (255 : Int32)).toUInt32.toUInt16.toUInt32.toInt32))], ¬ c < 0 ∧ ¬ (255 : Int32) < c := own_lat p4
          obtain ⟨_, _, ⟨T43, Lx43, kx43, nx43⟩, -, X43, ⟨Lc43, hQ43, lx43, yx43, zx43⟩, st43⟩ := X34.specialBack hx (y := (⟨"java/lang/String", "<init>", "([C)V"⟩ : MethodName)) rfl hown (mvT hZ (wd hw 25 rfl)) (mvT hZ (wd hw 26 rfl)) (mvT hZ (wd hw 27 rfl)) (by decide) (StrChars.Road.backV (W := 1) hZ hws43 (kI := 4) (wd hw 23 rfl) (cs := [(nar .char ((p4 &&& (255 : Int32)).toUInt32.toUInt16.toUInt32.toInt32)), (nar .char ((((p4.toUInt32 >>> ((8 : Int32) &&& 31).toUInt32).toInt32) &&& (255 : Int32)).toUInt32.toUInt16.toUInt32.toInt32))]) (bs := [((nar .char ((p4 &&& (255 : Int32)).toUInt32.toUInt16.toUInt32.toInt32))).toInt8.toInt32, ((nar .char ((((p4.toUInt32 >>> ((8 : Int32) &&& 31).toUInt32).toInt32) &&& (255 : Int32)).toUInt32.toUInt16.toUInt32.toInt32))).toInt8.toInt32]) (n := 2) ge34 Z34 Ax34 Fn34_48 Fn34_46 Fc41 Fc42 P_cs rfl rfl (by decide) (by decide) hlat43 rfl (by decide) (by decide)) (g := (mkF m 190 #[iv p0, iv p1, iv p2, iv p3, iv p4, iv p5, iv x0, iv x1, iv x2, iv x3, iv y0, iv y1, iv y2, iv y3, iv kk, rv ob15, rv ob19, rv ob24, .unset, .unset, .unset, .unset] [(.ref ob24), (.ref ob34), (.ref ob34)])) rfl (by rw [hml]; rfl) (Steps.refl _) (a := ob34) (argsL := [(.ref ob24)]) (rest := [(.ref ob34)]) (lenOf pd_1 rfl) rfl (by show 2 * 0 + _ ≤ _; exact Nat.le_of_eq rfl) (hb hby at_190) (fun _ _ => ⟨rfl, e34, (by decide : 4 + 1 ≤ _), (by decide : 14 + 2 ≤ _)⟩)
          dsimp only [Pt.U, Pt.locs, Pt.cells, Pt.slots] at X43 lx43 yx43 zx43 st43 hQ43
          subst lx43 yx43 zx43
          obtain ⟨rfl, N43q, Kq43, Eq43, Cq43, tb43, kb43, gt43, gh43, nt43, Vq43, Aq43⟩ := hQ43
          have N43 := Fr.app N33 N43q
          have Fc44 : Exa Z h34 ob15 "com/example/halyard/halyard/core/mal/TypeId" := (Fc35.ext Ex34)
          have ne45 : ob15 ≠ tb43 := Nat.ne_of_lt (Nat.lt_of_lt_of_le Fc44.lt gh43)
          have Fc46 : Exa Z h34 ob19 "com/example/halyard/halyard/core/mal/TypeId" := (Fc37.ext Ex34)
          have ne47 : ob19 ≠ tb43 := Nat.ne_of_lt (Nat.lt_of_lt_of_le Fc46.lt gh43)
          have ne48 : ob24 ≠ tb43 := Nat.ne_of_lt (Nat.lt_of_lt_of_le Fc41.lt gh43)
          have ne49 : ob34 ≠ tb43 := Nat.ne_of_lt (Nat.lt_of_lt_of_le Ax34.lt gh43)
          have Z43 : n0 ≤ T43.heap.size := Nat.le_trans Z34 Kq43.1
          refine own_lift (fun t k => st43.trans k) ?_
          show own_Go p.tables e below (T43.setTop (mkF m 193 #[iv p0, iv p1, iv p2, iv p3, iv p4, iv p5, iv x0, iv x1, iv x2, iv x3, iv y0, iv y1, iv y2, iv y3, iv kk, rv ob15, rv ob19, rv ob24, .unset, .unset, .unset, .unset] [(.ref ob34)])) _
          have sg50 : ∀ t, Steps p.tables e below (T43.setTop (mkF m 269 #[iv p0, iv p1, iv p2, iv p3, iv p4, iv p5, iv x0, iv x1, iv x2, iv x3, iv y0, iv y1, iv y2, iv y3, iv kk, rv ob15, rv ob19, rv ob24, rv ob34, rv ob19, iv 0, .unset] [(.ref ob19), (.ref ob15)])) t → Steps p.tables e below (T43.setTop (mkF m 193 #[iv p0, iv p1, iv p2, iv p3, iv p4, iv p5, iv x0, iv x1, iv x2, iv x3, iv y0, iv y1, iv y2, iv y3, iv kk, rv ob15, rv ob19, rv ob24, .unset, .unset, .unset, .unset] [(.ref ob34)])) t := by
            intro t k
            refine XS.astore X43.here hx rfl (hb hby at_193) rfl rfl (l' := #[iv p0, iv p1, iv p2, iv p3, iv p4, iv p5, iv x0, iv x1, iv x2, iv x3, iv y0, iv y1, iv y2, iv y3, iv kk, rv ob15, rv ob19, rv ob24, rv ob34, .unset, .unset, .unset]) rfl ?_
            show Steps p.tables e below (T43.setTop (mkF m 195 #[iv p0, iv p1, iv p2, iv p3, iv p4, iv p5, iv x0, iv x1, iv x2, iv x3, iv y0, iv y1, iv y2, iv y3, iv kk, rv ob15, rv ob19, rv ob24, rv ob34, .unset, .unset, .unset] [])) _
            refine XS.iload X43.here hx rfl (hb hby at_195) rfl ?_
            refine XS.iconst X43.here hx rfl (hb hby at_197) ?_
            show Steps p.tables e below (T43.setTop (mkF m 198 #[iv p0, iv p1, iv p2, iv p3, iv p4, iv p5, iv x0, iv x1, iv x2, iv x3, iv y0, iv y1, iv y2, iv y3, iv kk, rv ob15, rv ob19, rv ob24, rv ob34, .unset, .unset, .unset] [(.int 2), (.int kk)])) _
            refine XS.icmpNo X43.here hx rfl (hb hby at_198) rfl (tlt k2).2.1 ?_
            refine XS.aload X43.here hx rfl (hb hby at_201) rfl rfl ?_
            show Steps p.tables e below (T43.setTop (mkF m 203 #[iv p0, iv p1, iv p2, iv p3, iv p4, iv p5, iv x0, iv x1, iv x2, iv x3, iv y0, iv y1, iv y2, iv y3, iv kk, rv ob15, rv ob19, rv ob24, rv ob34, .unset, .unset, .unset] [(.ref ob19)])) _
            refine XS.astore X43.here hx rfl (hb hby at_203) rfl rfl (l' := #[iv p0, iv p1, iv p2, iv p3, iv p4, iv p5, iv x0, iv x1, iv x2, iv x3, iv y0, iv y1, iv y2, iv y3, iv kk, rv ob15, rv ob19, rv ob24, rv ob34, rv ob19, .unset, .unset]) rfl ?_
            refine XS.goto X43.here hx rfl (pc0 := 205) (pc' := 224) rfl (hb hby at_205) (by decide) (by decide) ?_
            show Steps p.tables e below (T43.setTop (mkF m 224 #[iv p0, iv p1, iv p2, iv p3, iv p4, iv p5, iv x0, iv x1, iv x2, iv x3, iv y0, iv y1, iv y2, iv y3, iv kk, rv ob15, rv ob19, rv ob24, rv ob34, rv ob19, .unset, .unset] [])) _
            refine XS.iload X43.here hx rfl (hb hby at_224) rfl ?_
            refine XS.iconst X43.here hx rfl (hb hby at_226) ?_
            show Steps p.tables e below (T43.setTop (mkF m 227 #[iv p0, iv p1, iv p2, iv p3, iv p4, iv p5, iv x0, iv x1, iv x2, iv x3, iv y0, iv y1, iv y2, iv y3, iv kk, rv ob15, rv ob19, rv ob24, rv ob34, rv ob19, .unset, .unset] [(.int 2), (.int kk)])) _
            refine XS.icmpNo X43.here hx rfl (hb hby at_227) rfl (tlt k2).2.1 ?_
            refine XS.iload X43.here hx rfl (hb hby at_230) rfl ?_
            show Steps p.tables e below (T43.setTop (mkF m 232 #[iv p0, iv p1, iv p2, iv p3, iv p4, iv p5, iv x0, iv x1, iv x2, iv x3, iv y0, iv y1, iv y2, iv y3, iv kk, rv ob15, rv ob19, rv ob24, rv ob34, rv ob19, .unset, .unset] [(.int x0)])) _
            refine XS.iload X43.here hx rfl (hb hby at_232) rfl ?_
            refine XS.icmpNo X43.here hx rfl (hb hby at_234) rfl (teq d0).2 ?_
            show Steps p.tables e below (T43.setTop (mkF m 237 #[iv p0, iv p1, iv p2, iv p3, iv p4, iv p5, iv x0, iv x1, iv x2, iv x3, iv y0, iv y1, iv y2, iv y3, iv kk, rv ob15, rv ob19, rv ob24, rv ob34, rv ob19, .unset, .unset] [])) _
            refine XS.iload X43.here hx rfl (hb hby at_237) rfl ?_
            refine XS.iload X43.here hx rfl (hb hby at_239) rfl ?_
            show Steps p.tables e below (T43.setTop (mkF m 241 #[iv p0, iv p1, iv p2, iv p3, iv p4, iv p5, iv x0, iv x1, iv x2, iv x3, iv y0, iv y1, iv y2, iv y3, iv kk, rv ob15, rv ob19, rv ob24, rv ob34, rv ob19, .unset, .unset] [(.int y1), (.int x1)])) _
            refine XS.icmpNo X43.here hx rfl (hb hby at_241) rfl (teq d1).2 ?_
            refine XS.iload X43.here hx rfl (hb hby at_244) rfl ?_
            show Steps p.tables e below (T43.setTop (mkF m 246 #[iv p0, iv p1, iv p2, iv p3, iv p4, iv p5, iv x0, iv x1, iv x2, iv x3, iv y0, iv y1, iv y2, iv y3, iv kk, rv ob15, rv ob19, rv ob24, rv ob34, rv ob19, .unset, .unset] [(.int x2)])) _
            refine XS.iload X43.here hx rfl (hb hby at_246) rfl ?_
            refine XS.icmpYes X43.here hx rfl (pc0 := 248) (pc' := 262) rfl (hb hby at_248) rfl (feq d2).2 (by decide) (by decide) ?_
            show Steps p.tables e below (T43.setTop (mkF m 262 #[iv p0, iv p1, iv p2, iv p3, iv p4, iv p5, iv x0, iv x1, iv x2, iv x3, iv y0, iv y1, iv y2, iv y3, iv kk, rv ob15, rv ob19, rv ob24, rv ob34, rv ob19, .unset, .unset] [])) _
            refine XS.iconst X43.here hx rfl (hb hby at_262) ?_
            refine XS.istore X43.here hx rfl (hb hby at_263) rfl (l' := #[iv p0, iv p1, iv p2, iv p3, iv p4, iv p5, iv x0, iv x1, iv x2, iv x3, iv y0, iv y1, iv y2, iv y3, iv kk, rv ob15, rv ob19, rv ob24, rv ob34, rv ob19, iv 0, .unset]) rfl ?_
            show Steps p.tables e below (T43.setTop (mkF m 265 #[iv p0, iv p1, iv p2, iv p3, iv p4, iv p5, iv x0, iv x1, iv x2, iv x3, iv y0, iv y1, iv y2, iv y3, iv kk, rv ob15, rv ob19, rv ob24, rv ob34, rv ob19, iv 0, .unset] [])) _
            refine XS.aload X43.here hx rfl (hb hby at_265) rfl rfl ?_
            refine XS.aload X43.here hx rfl (hb hby at_267) rfl rfl ?_
            show Steps p.tables e below (T43.setTop (mkF m 269 #[iv p0, iv p1, iv p2, iv p3, iv p4, iv p5, iv x0, iv x1, iv x2, iv x3, iv y0, iv y1, iv y2, iv y3, iv kk, rv ob15, rv ob19, rv ob24, rv ob34, rv ob19, iv 0, .unset] [(.ref ob19), (.ref ob15)])) _
            exact k
          refine own_lift sg50 ?_
          show own_Go p.tables e below (T43.setTop (mkF m 269 #[iv p0, iv p1, iv p2, iv p3, iv p4, iv p5, iv x0, iv x1, iv x2, iv x3, iv y0, iv y1, iv y2, iv y3, iv kk, rv ob15, rv ob19, rv ob24, rv ob34, rv ob19, iv 0, .unset] [(.ref ob19), (.ref ob15)])) _
          have Fc51 : Fld Z T43.heap ob15 "com/example/halyard/halyard/core/mal/TypeId" "area" "I" (.int x0) := (((((((p17_2.ext Ex19).keep p22_0 (ninS ne20 nin0)).ext Ex24).other W30 (Or.inl ne26)).other W33 (Or.inl ne26)).ext Ex34).keep Kq43 (ninS ne36 nin0))
          have Fc52 : Fld Z T43.heap ob15 "com/example/halyard/halyard/core/mal/TypeId" "service" "I" (.int x1) := (((((((p17_3.ext Ex19).keep p22_0 (ninS ne20 nin0)).ext Ex24).other W30 (Or.inl ne26)).other W33 (Or.inl ne26)).ext Ex34).keep Kq43 (ninS ne36 nin0))
          have Fc53 : Fld Z T43.heap ob15 "com/example/halyard/halyard/core/mal/TypeId" "areaVersion" "I" (.int x2) := (((((((p17_4.ext Ex19).keep p22_0 (ninS ne20 nin0)).ext Ex24).other W30 (Or.inl ne26)).other W33 (Or.inl ne26)).ext Ex34).keep Kq43 (ninS ne36 nin0))
          have Fc54 : Fld Z T43.heap ob15 "com/example/halyard/halyard/core/mal/TypeId" "shortFormPart" "I" (.int x3) := (((((((p17_5.ext Ex19).keep p22_0 (ninS ne20 nin0)).ext Ex24).other W30 (Or.inl ne26)).other W33 (Or.inl ne26)).ext Ex34).keep Kq43 (ninS ne36 nin0))
          have Fc55 : Fld Z T43.heap ob19 "com/example/halyard/halyard/core/mal/TypeId" "area" "I" (.int y0) := (((((p22_2.ext Ex24).other W30 (Or.inl ne27)).other W33 (Or.inl ne27)).ext Ex34).keep Kq43 (ninS ne38 nin0))
          have Fc56 : Fld Z T43.heap ob19 "com/example/halyard/halyard/core/mal/TypeId" "service" "I" (.int y1) := (((((p22_3.ext Ex24).other W30 (Or.inl ne27)).other W33 (Or.inl ne27)).ext Ex34).keep Kq43 (ninS ne38 nin0))
          have Fc57 : Fld Z T43.heap ob19 "com/example/halyard/halyard/core/mal/TypeId" "areaVersion" "I" (.int y2) := (((((p22_4.ext Ex24).other W30 (Or.inl ne27)).other W33 (Or.inl ne27)).ext Ex34).keep Kq43 (ninS ne38 nin0))
          have Fc58 : Fld Z T43.heap ob19 "com/example/halyard/halyard/core/mal/TypeId" "shortFormPart" "I" (.int y3) := (((((p22_5.ext Ex24).other W30 (Or.inl ne27)).other W33 (Or.inl ne27)).ext Ex34).keep Kq43 (ninS ne38 nin0))
          have Fc59 : Exa Z T43.heap ob19 "com/example/halyard/halyard/core/mal/TypeId" := (Fc46.keep Kq43)
          have Fc61 : Exa Z T43.heap ob15 "com/example/halyard/halyard/core/mal/TypeId" := (Fc44.keep Kq43)
          obtain ⟨cq60, kq60, q60a, q60b, q60c⟩ := isOf hZ rfl Fc61
          obtain ⟨_, _, ⟨T60, Lx60, kx60, nx60⟩, -, X60, ⟨Lc60, hQ60, lx60, yx60, zx60⟩, st60⟩ := X43.virtualBack hx (y := (⟨"com/example/halyard/halyard/core/mal/TypeId", "equals", "(Ljava/lang/Object;)Z"⟩ : MethodName)) (z := (⟨"com/example/halyard/halyard/core/mal/TypeId", "equals", "(Ljava/lang/Object;)Z"⟩ : MethodName)) hown (mvT hZ (wd hw 49 rfl)) (mvT hZ (wd hw 50 rfl)) (notFace_of_selects (args := #[]) (mvT hZ (wd hw 52 rfl))) (mvT hZ (wd hw 52 rfl)) (mvT hZ (wd hw 51 rfl)) (by decide) (backOf (W := 0) (rmEq2 l Z a0 hw [] ob15 ob19 x0 x1 x2 x3 y0 y1 y2 y3 T43.heap n0 Z43 Fc51 Fc52 Fc53 Fc54 Fc55 Fc56 Fc57 Fc58 Fc59 d0 d1 d2) hZ (wd hw 53 rfl) (wd hw 3 rfl) (by decide) (by decide)) q60a q60c (g := (mkF m 269 #[iv p0, iv p1, iv p2, iv p3, iv p4, iv p5, iv x0, iv x1, iv x2, iv x3, iv y0, iv y1, iv y2, iv y3, iv kk, rv ob15, rv ob19, rv ob24, rv ob34, rv ob19, iv 0, .unset] [(.ref ob19), (.ref ob15)])) rfl (by rw [hml]; rfl) (Steps.refl _) (argsL := [(.ref ob19)]) (rest := []) (lenOf pd_2 rfl) rfl (by show 2 * 0 + _ ≤ _; exact Nat.le_of_eq rfl) (hb hby at_269) (fun _ _ => ⟨rfl, rfl, (by decide : 5 + 0 ≤ _), (by decide : 16 + 0 ≤ _)⟩)
          dsimp only [Pt.U, Pt.locs, Pt.cells, Pt.slots] at X60 lx60 yx60 zx60 st60 hQ60
          subst lx60 yx60 zx60
          obtain ⟨rfl, N60q, e60⟩ := hQ60
          have N60 := Fr.app N43 N60q
          refine own_lift (fun t k => st60.trans k) ?_
          show own_Go p.tables e below (T60.setTop (mkF m 272 #[iv p0, iv p1, iv p2, iv p3, iv p4, iv p5, iv x0, iv x1, iv x2, iv x3, iv y0, iv y1, iv y2, iv y3, iv kk, rv ob15, rv ob19, rv ob24, rv ob34, rv ob19, iv 0, .unset] [(.int 0)])) _
          have sg62 : ∀ t, Steps p.tables e below (T60.setTop (mkF m 299 #[iv p0, iv p1, iv p2, iv p3, iv p4, iv p5, iv x0, iv x1, iv x2, iv x3, iv y0, iv y1, iv y2, iv y3, iv kk, rv ob15, rv ob19, rv ob24, rv ob34, rv ob19, iv 0, iv 1] [(.ref ob15), (.ref ob19)])) t → Steps p.tables e below (T60.setTop (mkF m 272 #[iv p0, iv p1, iv p2, iv p3, iv p4, iv p5, iv x0, iv x1, iv x2, iv x3, iv y0, iv y1, iv y2, iv y3, iv kk, rv ob15, rv ob19, rv ob24, rv ob34, rv ob19, iv 0, .unset] [(.int 0)])) t := by
            intro t k
            refine XS.iload X60.here hx rfl (hb hby at_272) rfl ?_
            show Steps p.tables e below (T60.setTop (mkF m 274 #[iv p0, iv p1, iv p2, iv p3, iv p4, iv p5, iv x0, iv x1, iv x2, iv x3, iv y0, iv y1, iv y2, iv y3, iv kk, rv ob15, rv ob19, rv ob24, rv ob34, rv ob19, iv 0, .unset] [(.int 0), (.int 0)])) _
            refine XS.icmpNo X60.here hx rfl (hb hby at_274) rfl (teq (by decide : (0 : Int32) = (0 : Int32))).2 ?_
            refine XS.iconst X60.here hx rfl (hb hby at_277) ?_
            show Steps p.tables e below (T60.setTop (mkF m 278 #[iv p0, iv p1, iv p2, iv p3, iv p4, iv p5, iv x0, iv x1, iv x2, iv x3, iv y0, iv y1, iv y2, iv y3, iv kk, rv ob15, rv ob19, rv ob24, rv ob34, rv ob19, iv 0, .unset] [(.int 1)])) _
            refine XS.goto X60.here hx rfl (pc0 := 278) (pc' := 282) rfl (hb hby at_278) (by decide) (by decide) ?_
            refine XS.istore X60.here hx rfl (hb hby at_282) rfl (l' := #[iv p0, iv p1, iv p2, iv p3, iv p4, iv p5, iv x0, iv x1, iv x2, iv x3, iv y0, iv y1, iv y2, iv y3, iv kk, rv ob15, rv ob19, rv ob24, rv ob34, rv ob19, iv 0, iv 1]) rfl ?_
            show Steps p.tables e below (T60.setTop (mkF m 284 #[iv p0, iv p1, iv p2, iv p3, iv p4, iv p5, iv x0, iv x1, iv x2, iv x3, iv y0, iv y1, iv y2, iv y3, iv kk, rv ob15, rv ob19, rv ob24, rv ob34, rv ob19, iv 0, iv 1] [])) _
            refine XS.iload X60.here hx rfl (hb hby at_284) rfl ?_
            refine XS.iconst X60.here hx rfl (hb hby at_286) ?_
            show Steps p.tables e below (T60.setTop (mkF m 287 #[iv p0, iv p1, iv p2, iv p3, iv p4, iv p5, iv x0, iv x1, iv x2, iv x3, iv y0, iv y1, iv y2, iv y3, iv kk, rv ob15, rv ob19, rv ob24, rv ob34, rv ob19, iv 0, iv 1] [(.int 2), (.int kk)])) _
            refine XS.icmpNo X60.here hx rfl (hb hby at_287) rfl (tlt k2).2.1 ?_
            refine XS.iload X60.here hx rfl (hb hby at_290) rfl ?_
            show Steps p.tables e below (T60.setTop (mkF m 292 #[iv p0, iv p1, iv p2, iv p3, iv p4, iv p5, iv x0, iv x1, iv x2, iv x3, iv y0, iv y1, iv y2, iv y3, iv kk, rv ob15, rv ob19, rv ob24, rv ob34, rv ob19, iv 0, iv 1] [(.int 1)])) _
            refine XS.ifNo X60.here hx rfl (hb hby at_292) rfl ((if0 _ _).trans (feq (by decide : ¬ ((1 : Int32) = (0 : Int32)))).1) ?_
            refine XS.aload X60.here hx rfl (hb hby at_295) rfl rfl ?_
            show Steps p.tables e below (T60.setTop (mkF m 297 #[iv p0, iv p1, iv p2, iv p3, iv p4, iv p5, iv x0, iv x1, iv x2, iv x3, iv y0, iv y1, iv y2, iv y3, iv kk, rv ob15, rv ob19, rv ob24, rv ob34, rv ob19, iv 0, iv 1] [(.ref ob19)])) _
            refine XS.aload X60.here hx rfl (hb hby at_297) rfl rfl ?_
            show Steps p.tables e below (T60.setTop (mkF m 299 #[iv p0, iv p1, iv p2, iv p3, iv p4, iv p5, iv x0, iv x1, iv x2, iv x3, iv y0, iv y1, iv y2, iv y3, iv kk, rv ob15, rv ob19, rv ob24, rv ob34, rv ob19, iv 0, iv 1] [(.ref ob15), (.ref ob19)])) _
            exact k
          refine own_lift sg62 ?_
          show own_Go p.tables e below (T60.setTop (mkF m 299 #[iv p0, iv p1, iv p2, iv p3, iv p4, iv p5, iv x0, iv x1, iv x2, iv x3, iv y0, iv y1, iv y2, iv y3, iv kk, rv ob15, rv ob19, rv ob24, rv ob34, rv ob19, iv 0, iv 1] [(.ref ob15), (.ref ob19)])) _
          obtain ⟨cq63, kq63, q63a, q63b, q63c⟩ := isOf hZ e60 Fc59
          obtain ⟨_, _, ⟨T63, Lx63, kx63, nx63⟩, -, X63, ⟨Lc63, hQ63, lx63, yx63, zx63⟩, st63⟩ := X60.virtualBack hx (y := (⟨"com/example/halyard/halyard/core/mal/TypeId", "equals", "(Ljava/lang/Object;)Z"⟩ : MethodName)) (z := (⟨"com/example/halyard/halyard/core/mal/TypeId", "equals", "(Ljava/lang/Object;)Z"⟩ : MethodName)) hown (mvT hZ (wd hw 49 rfl)) (mvT hZ (wd hw 50 rfl)) (notFace_of_selects (args := #[]) (mvT hZ (wd hw 52 rfl))) (mvT hZ (wd hw 52 rfl)) (mvT hZ (wd hw 51 rfl)) (by decide) (backOf (W := 0) (rmEq2 l Z a0 hw [] ob19 ob15 y0 y1 y2 y3 x0 x1 x2 x3 T43.heap n0 Z43 Fc55 Fc56 Fc57 Fc58 Fc51 Fc52 Fc53 Fc54 Fc61 (Eq.symm d0) (Eq.symm d1) (fun q => d2 (Eq.symm q))) hZ (wd hw 53 rfl) (wd hw 3 rfl) (by decide) (by decide)) q63a q63c (g := (mkF m 299 #[iv p0, iv p1, iv p2, iv p3, iv p4, iv p5, iv x0, iv x1, iv x2, iv x3, iv y0, iv y1, iv y2, iv y3, iv kk, rv ob15, rv ob19, rv ob24, rv ob34, rv ob19, iv 0, iv 1] [(.ref ob15), (.ref ob19)])) rfl (by rw [hml]; rfl) (Steps.refl _) (argsL := [(.ref ob15)]) (rest := []) (lenOf pd_2 rfl) rfl (by show 2 * 0 + _ ≤ _; exact Nat.le_of_eq rfl) (hb hby at_299) (fun _ _ => ⟨rfl, e60, (by decide : 5 + 0 ≤ _), (by decide : 16 + 0 ≤ _)⟩)
          dsimp only [Pt.U, Pt.locs, Pt.cells, Pt.slots] at X63 lx63 yx63 zx63 st63 hQ63
          subst lx63 yx63 zx63
          obtain ⟨rfl, N63q, e63⟩ := hQ63
          have N63 := Fr.app N60 N63q
          refine own_lift (fun t k => st63.trans k) ?_
          show own_Go p.tables e below (T63.setTop (mkF m 302 #[iv p0, iv p1, iv p2, iv p3, iv p4, iv p5, iv x0, iv x1, iv x2, iv x3, iv y0, iv y1, iv y2, iv y3, iv kk, rv ob15, rv ob19, rv ob24, rv ob34, rv ob19, iv 0, iv 1] [(.int 0)])) _
          have sg64 : ∀ t, Steps p.tables e below (T63.setTop (mkF m 323 #[iv p0, iv p1, iv p2, iv p3, iv p4, iv p5, iv x0, iv x1, iv x2, iv x3, iv y0, iv y1, iv y2, iv y3, iv kk, rv ob15, rv ob19, rv ob24, rv ob34, rv ob19, iv 0, iv 1] [(.ref ob15), (.ref ob15)])) t → Steps p.tables e below (T63.setTop (mkF m 302 #[iv p0, iv p1, iv p2, iv p3, iv p4, iv p5, iv x0, iv x1, iv x2, iv x3, iv y0, iv y1, iv y2, iv y3, iv kk, rv ob15, rv ob19, rv ob24, rv ob34, rv ob19, iv 0, iv 1] [(.int 0)])) t := by
            intro t k
            refine XS.iload X63.here hx rfl (hb hby at_302) rfl ?_
            show Steps p.tables e below (T63.setTop (mkF m 304 #[iv p0, iv p1, iv p2, iv p3, iv p4, iv p5, iv x0, iv x1, iv x2, iv x3, iv y0, iv y1, iv y2, iv y3, iv kk, rv ob15, rv ob19, rv ob24, rv ob34, rv ob19, iv 0, iv 1] [(.int 0), (.int 0)])) _
            refine XS.icmpNo X63.here hx rfl (hb hby at_304) rfl (teq (by decide : (0 : Int32) = (0 : Int32))).2 ?_
            refine XS.iconst X63.here hx rfl (hb hby at_307) ?_
            show Steps p.tables e below (T63.setTop (mkF m 308 #[iv p0, iv p1, iv p2, iv p3, iv p4, iv p5, iv x0, iv x1, iv x2, iv x3, iv y0, iv y1, iv y2, iv y3, iv kk, rv ob15, rv ob19, rv ob24, rv ob34, rv ob19, iv 0, iv 1] [(.int 1)])) _
            refine XS.goto X63.here hx rfl (pc0 := 308) (pc' := 312) rfl (hb hby at_308) (by decide) (by decide) ?_
            refine XS.istore X63.here hx rfl (hb hby at_312) rfl (l' := #[iv p0, iv p1, iv p2, iv p3, iv p4, iv p5, iv x0, iv x1, iv x2, iv x3, iv y0, iv y1, iv y2, iv y3, iv kk, rv ob15, rv ob19, rv ob24, rv ob34, rv ob19, iv 0, iv 1]) rfl ?_
            show Steps p.tables e below (T63.setTop (mkF m 314 #[iv p0, iv p1, iv p2, iv p3, iv p4, iv p5, iv x0, iv x1, iv x2, iv x3, iv y0, iv y1, iv y2, iv y3, iv kk, rv ob15, rv ob19, rv ob24, rv ob34, rv ob19, iv 0, iv 1] [])) _
            refine XS.iload X63.here hx rfl (hb hby at_314) rfl ?_
            refine XS.ifNo X63.here hx rfl (hb hby at_316) rfl ((if0 _ _).trans (feq (by decide : ¬ ((1 : Int32) = (0 : Int32)))).1) ?_
            show Steps p.tables e below (T63.setTop (mkF m 319 #[iv p0, iv p1, iv p2, iv p3, iv p4, iv p5, iv x0, iv x1, iv x2, iv x3, iv y0, iv y1, iv y2, iv y3, iv kk, rv ob15, rv ob19, rv ob24, rv ob34, rv ob19, iv 0, iv 1] [])) _
            refine XS.aload X63.here hx rfl (hb hby at_319) rfl rfl ?_
            refine XS.aload X63.here hx rfl (hb hby at_321) rfl rfl ?_
            show Steps p.tables e below (T63.setTop (mkF m 323 #[iv p0, iv p1, iv p2, iv p3, iv p4, iv p5, iv x0, iv x1, iv x2, iv x3, iv y0, iv y1, iv y2, iv y3, iv kk, rv ob15, rv ob19, rv ob24, rv ob34, rv ob19, iv 0, iv 1] [(.ref ob15), (.ref ob15)])) _
            exact k
          refine own_lift sg64 ?_
          show own_Go p.tables e below (T63.setTop (mkF m 323 #[iv p0, iv p1, iv p2, iv p3, iv p4, iv p5, iv x0, iv x1, iv x2, iv x3, iv y0, iv y1, iv y2, iv y3, iv kk, rv ob15, rv ob19, rv ob24, rv ob34, rv ob19, iv 0, iv 1] [(.ref ob15), (.ref ob15)])) _
          obtain ⟨cq65, kq65, q65a, q65b, q65c⟩ := isOf hZ e63 Fc61
          obtain ⟨_, _, ⟨T65, Lx65, kx65, nx65⟩, -, X65, ⟨Lc65, hQ65, lx65, yx65, zx65⟩, st65⟩ := X63.virtualBack hx (y := (⟨"com/example/halyard/halyard/core/mal/TypeId", "equals", "(Ljava/lang/Object;)Z"⟩ : MethodName)) (z := (⟨"com/example/halyard/halyard/core/mal/TypeId", "equals", "(Ljava/lang/Object;)Z"⟩ : MethodName)) hown (mvT hZ (wd hw 49 rfl)) (mvT hZ (wd hw 50 rfl)) (notFace_of_selects (args := #[]) (mvT hZ (wd hw 52 rfl))) (mvT hZ (wd hw 52 rfl)) (mvT hZ (wd hw 51 rfl)) (by decide) (backOf (W := 0) (rmEq4 l Z a0 hw [] ob15 ob15 x0 x1 x2 x3 x0 x1 x2 x3 T43.heap n0 Z43 Fc51 Fc52 Fc53 Fc54 Fc51 Fc52 Fc53 Fc54 Fc61 (rfl : x0 = x0) (rfl : x1 = x1) (rfl : x2 = x2) (rfl : x3 = x3)) hZ (wd hw 53 rfl) (wd hw 3 rfl) (by decide) (by decide)) q65a q65c (g := (mkF m 323 #[iv p0, iv p1, iv p2, iv p3, iv p4, iv p5, iv x0, iv x1, iv x2, iv x3, iv y0, iv y1, iv y2, iv y3, iv kk, rv ob15, rv ob19, rv ob24, rv ob34, rv ob19, iv 0, iv 1] [(.ref ob15), (.ref ob15)])) rfl (by rw [hml]; rfl) (Steps.refl _) (argsL := [(.ref ob15)]) (rest := []) (lenOf pd_2 rfl) rfl (by show 2 * 0 + _ ≤ _; exact Nat.le_of_eq rfl) (hb hby at_323) (fun _ _ => ⟨rfl, e63, (by decide : 5 + 0 ≤ _), (by decide : 16 + 0 ≤ _)⟩)
          dsimp only [Pt.U, Pt.locs, Pt.cells, Pt.slots] at X65 lx65 yx65 zx65 st65 hQ65
          subst lx65 yx65 zx65
          obtain ⟨rfl, N65q, e65⟩ := hQ65
          have N65 := Fr.app N63 N65q
          refine own_lift (fun t k => st65.trans k) ?_
          show own_Go p.tables e below (T65.setTop (mkF m 326 #[iv p0, iv p1, iv p2, iv p3, iv p4, iv p5, iv x0, iv x1, iv x2, iv x3, iv y0, iv y1, iv y2, iv y3, iv kk, rv ob15, rv ob19, rv ob24, rv ob34, rv ob19, iv 0, iv 1] [(.int 1)])) _
          have sg66 : ∀ t, Steps p.tables e below (T65.setTop (mkF m 338 #[iv p0, iv p1, iv p2, iv p3, iv p4, iv p5, iv x0, iv x1, iv x2, iv x3, iv y0, iv y1, iv y2, iv y3, iv kk, rv ob15, rv ob19, rv ob24, rv ob34, rv ob19, iv 0, iv 1] [(.int 1)])) t → Steps p.tables e below (T65.setTop (mkF m 326 #[iv p0, iv p1, iv p2, iv p3, iv p4, iv p5, iv x0, iv x1, iv x2, iv x3, iv y0, iv y1, iv y2, iv y3, iv kk, rv ob15, rv ob19, rv ob24, rv ob34, rv ob19, iv 0, iv 1] [(.int 1)])) t := by
            intro t k
            refine XS.ifNo X65.here hx rfl (hb hby at_326) rfl ((if0 _ _).trans (feq (by decide : ¬ ((1 : Int32) = (0 : Int32)))).1) ?_
            show Steps p.tables e below (T65.setTop (mkF m 329 #[iv p0, iv p1, iv p2, iv p3, iv p4, iv p5, iv x0, iv x1, iv x2, iv x3, iv y0, iv y1, iv y2, iv y3, iv kk, rv ob15, rv ob19, rv ob24, rv ob34, rv ob19, iv 0, iv 1] [])) _
            refine XS.iconst X65.here hx rfl (hb hby at_329) ?_
            refine XS.goto X65.here hx rfl (pc0 := 330) (pc' := 334) rfl (hb hby at_330) (by decide) (by decide) ?_
            show Steps p.tables e below (T65.setTop (mkF m 334 #[iv p0, iv p1, iv p2, iv p3, iv p4, iv p5, iv x0, iv x1, iv x2, iv x3, iv y0, iv y1, iv y2, iv y3, iv kk, rv ob15, rv ob19, rv ob24, rv ob34, rv ob19, iv 0, iv 1] [(.int 1)])) _
            refine XS.istore X65.here hx rfl (hb hby at_334) rfl (l' := #[iv p0, iv p1, iv p2, iv p3, iv p4, iv p5, iv x0, iv x1, iv x2, iv x3, iv y0, iv y1, iv y2, iv y3, iv kk, rv ob15, rv ob19, rv ob24, rv ob34, rv ob19, iv 0, iv 1]) rfl ?_
            refine XS.iload X65.here hx rfl (hb hby at_336) rfl ?_
            show Steps p.tables e below (T65.setTop (mkF m 338 #[iv p0, iv p1, iv p2, iv p3, iv p4, iv p5, iv x0, iv x1, iv x2, iv x3, iv y0, iv y1, iv y2, iv y3, iv kk, rv ob15, rv ob19, rv ob24, rv ob34, rv ob19, iv 0, iv 1] [(.int 1)])) _
            exact k
          refine own_lift sg66 ?_
          show own_Go p.tables e below (T65.setTop (mkF m 338 #[iv p0, iv p1, iv p2, iv p3, iv p4, iv p5, iv x0, iv x1, iv x2, iv x3, iv y0, iv y1, iv y2, iv y3, iv kk, rv ob15, rv ob19, rv ob24, rv ob34, rv ob19, iv 0, iv 1] [(.int 1)])) _
          obtain ⟨fs, hr, hrun, hended, hW, hsame⟩ := X65.leave (v := some (.int 1)) (fun h => by rw [Bd.returns] at h; cases h)
          refine ⟨_, _, ?_, hrun, hended, _, _, rfl, ?_, ⟨_, rfl⟩, hW, hsame.mono (by decide) (by decide)⟩
          · exact retN X65 hx (t := .boolean) Bd.returns (by simp) (hb hby at_338) hr
          · show Q0 Z  h0 n0 _ T65.heap _
            rw [e65]
            exact ⟨rfl, N65⟩
        by_cases b : (p5 &&& (8 : Int32)) = (0 : Int32)
        · have sg67 : ∀ t, Steps p.tables e below (T10.setTop (mkF m 110 #[iv p0, iv p1, iv p2, iv p3, iv p4, iv p5, iv x0, iv x1, iv x2, iv x3, iv y0, iv y1, iv y2, .unset, .unset, .unset, .unset, .unset, .unset, .unset, .unset, .unset] [(.int ((p4 <<< ((8 : Int32) &&& 31)) >>> ((8 : Int32) &&& 31)))])) t → Steps p.tables e below (T10.setTop (mkF m 89 #[iv p0, iv p1, iv p2, iv p3, iv p4, iv p5, iv x0, iv x1, iv x2, iv x3, iv y0, iv y1, iv y2, .unset, .unset, .unset, .unset, .unset, .unset, .unset, .unset, .unset] [])) t := by
            intro t k
            refine XS.iload X10.here hx rfl (hb hby at_89) rfl ?_
            show Steps p.tables e below (T10.setTop (mkF m 91 #[iv p0, iv p1, iv p2, iv p3, iv p4, iv p5, iv x0, iv x1, iv x2, iv x3, iv y0, iv y1, iv y2, .unset, .unset, .unset, .unset, .unset, .unset, .unset, .unset, .unset] [(.int p5)])) _
            refine XS.bipush X10.here hx rfl (hb hby at_91) ?_
            refine XS.iand X10.here hx rfl (hb hby at_93) rfl ?_
            show Steps p.tables e below (T10.setTop (mkF m 94 #[iv p0, iv p1, iv p2, iv p3, iv p4, iv p5, iv x0, iv x1, iv x2, iv x3, iv y0, iv y1, iv y2, .unset, .unset, .unset, .unset, .unset, .unset, .unset, .unset, .unset] [(.int (p5 &&& (8 : Int32)))])) _
            refine XS.ifYes X10.here hx rfl (pc0 := 94) (pc' := 102) rfl (hb hby at_94) rfl ((if0 _ _).trans (teq b).1) (by decide) (by decide) ?_
            refine XS.iload X10.here hx rfl (hb hby at_102) rfl ?_
            show Steps p.tables e below (T10.setTop (mkF m 104 #[iv p0, iv p1, iv p2, iv p3, iv p4, iv p5, iv x0, iv x1, iv x2, iv x3, iv y0, iv y1, iv y2, .unset, .unset, .unset, .unset, .unset, .unset, .unset, .unset, .unset] [(.int p4)])) _
            refine XS.bipush X10.here hx rfl (hb hby at_104) ?_
            refine XS.ishl X10.here hx rfl (hb hby at_106) rfl ?_
            show Steps p.tables e below (T10.setTop (mkF m 107 #[iv p0, iv p1, iv p2, iv p3, iv p4, iv p5, iv x0, iv x1, iv x2, iv x3, iv y0, iv y1, iv y2, .unset, .unset, .unset, .unset, .unset, .unset, .unset, .unset, .unset] [(.int (p4 <<< ((8 : Int32) &&& 31)))])) _
            refine XS.bipush X10.here hx rfl (hb hby at_107) ?_
            refine XS.ishr X10.here hx rfl (hb hby at_109) rfl ?_
            show Steps p.tables e below (T10.setTop (mkF m 110 #[iv p0, iv p1, iv p2, iv p3, iv p4, iv p5, iv x0, iv x1, iv x2, iv x3, iv y0, iv y1, iv y2, .unset, .unset, .unset, .unset, .unset, .unset, .unset, .unset, .unset] [(.int ((p4 <<< ((8 : Int32) &&& 31)) >>> ((8 : Int32) &&& 31)))])) _
            exact k
          refine own_lift sg67 ?_
          show own_Go p.tables e below (T10.setTop (mkF m 110 #[iv p0, iv p1, iv p2, iv p3, iv p4, iv p5, iv x0, iv x1, iv x2, iv x3, iv y0, iv y1, iv y2, .unset, .unset, .unset, .unset, .unset, .unset, .unset, .unset, .unset] [(.int ((p4 <<< ((8 : Int32) &&& 31)) >>> ((8 : Int32) &&& 31)))])) _
          rw [show y3 = ((p4 <<< ((8 : Int32) &&& 31)) >>> ((8 : Int32) &&& 31)) from (hy3.trans (if_pos b))] at join12
          exact join12 _ _ X10 e10 N10
        · have sg68 : ∀ t, Steps p.tables e below (T10.setTop (mkF m 110 #[iv p0, iv p1, iv p2, iv p3, iv p4, iv p5, iv x0, iv x1, iv x2, iv x3, iv y0, iv y1, iv y2, .unset, .unset, .unset, .unset, .unset, .unset, .unset, .unset, .unset] [(.int x3)])) t → Steps p.tables e below (T10.setTop (mkF m 89 #[iv p0, iv p1, iv p2, iv p3, iv p4, iv p5, iv x0, iv x1, iv x2, iv x3, iv y0, iv y1, iv y2, .unset, .unset, .unset, .unset, .unset, .unset, .unset, .unset, .unset] [])) t := by
            intro t k
            refine XS.iload X10.here hx rfl (hb hby at_89) rfl ?_
            show Steps p.tables e below (T10.setTop (mkF m 91 #[iv p0, iv p1, iv p2, iv p3, iv p4, iv p5, iv x0, iv x1, iv x2, iv x3, iv y0, iv y1, iv y2, .unset, .unset, .unset, .unset, .unset, .unset, .unset, .unset, .unset] [(.int p5)])) _
            refine XS.bipush X10.here hx rfl (hb hby at_91) ?_
            refine XS.iand X10.here hx rfl (hb hby at_93) rfl ?_
            show Steps p.tables e below (T10.setTop (mkF m 94 #[iv p0, iv p1, iv p2, iv p3, iv p4, iv p5, iv x0, iv x1, iv x2, iv x3, iv y0, iv y1, iv y2, .unset, .unset, .unset, .unset, .unset, .unset, .unset, .unset, .unset] [(.int (p5 &&& (8 : Int32)))])) _
            refine XS.ifNo X10.here hx rfl (hb hby at_94) rfl ((if0 _ _).trans (feq b).1) ?_
            refine XS.iload X10.here hx rfl (hb hby at_97) rfl ?_
            show Steps p.tables e below (T10.setTop (mkF m 99 #[iv p0, iv p1, iv p2, iv p3, iv p4, iv p5, iv x0, iv x1, iv x2, iv x3, iv y0, iv y1, iv y2, .unset, .unset, .unset, .unset, .unset, .unset, .unset, .unset, .unset] [(.int x3)])) _
            refine XS.goto X10.here hx rfl (pc0 := 99) (pc' := 110) rfl (hb hby at_99) (by decide) (by decide) ?_
            show Steps p.tables e below (T10.setTop (mkF m 110 #[iv p0, iv p1, iv p2, iv p3, iv p4, iv p5, iv x0, iv x1, iv x2, iv x3, iv y0, iv y1, iv y2, .unset, .unset, .unset, .unset, .unset, .unset, .unset, .unset, .unset] [(.int x3)])) _
            exact k
          refine own_lift sg68 ?_
          show own_Go p.tables e below (T10.setTop (mkF m 110 #[iv p0, iv p1, iv p2, iv p3, iv p4, iv p5, iv x0, iv x1, iv x2, iv x3, iv y0, iv y1, iv y2, .unset, .unset, .unset, .unset, .unset, .unset, .unset, .unset, .unset] [(.int x3)])) _
          rw [show y3 = x3 from (hy3.trans (if_neg b))] at join12
          exact join12 _ _ X10 e10 N10
      by_cases b : (p5 &&& (4 : Int32)) = (0 : Int32)
      · have sg69 : ∀ t, Steps p.tables e below (T8.setTop (mkF m 87 #[iv p0, iv p1, iv p2, iv p3, iv p4, iv p5, iv x0, iv x1, iv x2, iv x3, iv y0, iv y1, .unset, .unset, .unset, .unset, .unset, .unset, .unset, .unset, .unset, .unset] [(.int (((p4.toUInt32 >>> ((8 : Int32) &&& 31).toUInt32).toInt32) &&& (255 : Int32)))])) t → Steps p.tables e below (T8.setTop (mkF m 66 #[iv p0, iv p1, iv p2, iv p3, iv p4, iv p5, iv x0, iv x1, iv x2, iv x3, iv y0, iv y1, .unset, .unset, .unset, .unset, .unset, .unset, .unset, .unset, .unset, .unset] [])) t := by
          intro t k
          refine XS.iload X8.here hx rfl (hb hby at_66) rfl ?_
          show Steps p.tables e below (T8.setTop (mkF m 68 #[iv p0, iv p1, iv p2, iv p3, iv p4, iv p5, iv x0, iv x1, iv x2, iv x3, iv y0, iv y1, .unset, .unset, .unset, .unset, .unset, .unset, .unset, .unset, .unset, .unset] [(.int p5)])) _
          refine XS.iconst X8.here hx rfl (hb hby at_68) ?_
          refine XS.iand X8.here hx rfl (hb hby at_69) rfl ?_
          show Steps p.tables e below (T8.setTop (mkF m 70 #[iv p0, iv p1, iv p2, iv p3, iv p4, iv p5, iv x0, iv x1, iv x2, iv x3, iv y0, iv y1, .unset, .unset, .unset, .unset, .unset, .unset, .unset, .unset, .unset, .unset] [(.int (p5 &&& (4 : Int32)))])) _
          refine XS.ifYes X8.here hx rfl (pc0 := 70) (pc' := 78) rfl (hb hby at_70) rfl ((if0 _ _).trans (teq b).1) (by decide) (by decide) ?_
          refine XS.iload X8.here hx rfl (hb hby at_78) rfl ?_
          show Steps p.tables e below (T8.setTop (mkF m 80 #[iv p0, iv p1, iv p2, iv p3, iv p4, iv p5, iv x0, iv x1, iv x2, iv x3, iv y0, iv y1, .unset, .unset, .unset, .unset, .unset, .unset, .unset, .unset, .unset, .unset] [(.int p4)])) _
          refine XS.bipush X8.here hx rfl (hb hby at_80) ?_
          refine XS.iushr X8.here hx rfl (hb hby at_82) rfl ?_
          show Steps p.tables e below (T8.setTop (mkF m 83 #[iv p0, iv p1, iv p2, iv p3, iv p4, iv p5, iv x0, iv x1, iv x2, iv x3, iv y0, iv y1, .unset, .unset, .unset, .unset, .unset, .unset, .unset, .unset, .unset, .unset] [(.int ((p4.toUInt32 >>> ((8 : Int32) &&& 31).toUInt32).toInt32))])) _
          refine XS.sipush X8.here hx rfl (hb hby at_83) ?_
          refine XS.iand X8.here hx rfl (hb hby at_86) rfl ?_
          show Steps p.tables e below (T8.setTop (mkF m 87 #[iv p0, iv p1, iv p2, iv p3, iv p4, iv p5, iv x0, iv x1, iv x2, iv x3, iv y0, iv y1, .unset, .unset, .unset, .unset, .unset, .unset, .unset, .unset, .unset, .unset] [(.int (((p4.toUInt32 >>> ((8 : Int32) &&& 31).toUInt32).toInt32) &&& (255 : Int32)))])) _
          exact k
        refine own_lift sg69 ?_
        show own_Go p.tables e below (T8.setTop (mkF m 87 #[iv p0, iv p1, iv p2, iv p3, iv p4, iv p5, iv x0, iv x1, iv x2, iv x3, iv y0, iv y1, .unset, .unset, .unset, .unset, .unset, .unset, .unset, .unset, .unset, .unset] [(.int (((p4.toUInt32 >>> ((8 : Int32) &&& 31).toUInt32).toInt32) &&& (255 : Int32)))])) _
        rw [show y2 = (((p4.toUInt32 >>> ((8 : Int32) &&& 31).toUInt32).toInt32) &&& (255 : Int32)) from (hy2.trans (if_pos b))] at join10
        exact join10 _ _ X8 e8 N8
      · have sg70 : ∀ t, Steps p.tables e below (T8.setTop (mkF m 87 #[iv p0, iv p1, iv p2, iv p3, iv p4, iv p5, iv x0, iv x1, iv x2, iv x3, iv y0, iv y1, .unset, .unset, .unset, .unset, .unset, .unset, .unset, .unset, .unset, .unset] [(.int x2)])) t → Steps p.tables e below (T8.setTop (mkF m 66 #[iv p0, iv p1, iv p2, iv p3, iv p4, iv p5, iv x0, iv x1, iv x2, iv x3, iv y0, iv y1, .unset, .unset, .unset, .unset, .unset, .unset, .unset, .unset, .unset, .unset] [])) t := by
          intro t k
          refine XS.iload X8.here hx rfl (hb hby at_66) rfl ?_
          show Steps p.tables e below (T8.setTop (mkF m 68 #[iv p0, iv p1, iv p2, iv p3, iv p4, iv p5, iv x0, iv x1, iv x2, iv x3, iv y0, iv y1, .unset, .unset, .unset, .unset, .unset, .unset, .unset, .unset, .unset, .unset] [(.int p5)])) _
          refine XS.iconst X8.here hx rfl (hb hby at_68) ?_
          refine XS.iand X8.here hx rfl (hb hby at_69) rfl ?_
          show Steps p.tables e below (T8.setTop (mkF m 70 #[iv p0, iv p1, iv p2, iv p3, iv p4, iv p5, iv x0, iv x1, iv x2, iv x3, iv y0, iv y1, .unset, .unset, .unset, .unset, .unset, .unset, .unset, .unset, .unset, .unset] [(.int (p5 &&& (4 : Int32)))])) _
          refine XS.ifNo X8.here hx rfl (hb hby at_70) rfl ((if0 _ _).trans (feq b).1) ?_
          refine XS.iload X8.here hx rfl (hb hby at_73) rfl ?_
          show Steps p.tables e below (T8.setTop (mkF m 75 #[iv p0, iv p1, iv p2, iv p3, iv p4, iv p5, iv x0, iv x1, iv x2, iv x3, iv y0, iv y1, .unset, .unset, .unset, .unset, .unset, .unset, .unset, .unset, .unset, .unset] [(.int x2)])) _
          refine XS.goto X8.here hx rfl (pc0 := 75) (pc' := 87) rfl (hb hby at_75) (by decide) (by decide) ?_
          show Steps p.tables e below (T8.setTop (mkF m 87 #[iv p0, iv p1, iv p2, iv p3, iv p4, iv p5, iv x0, iv x1, iv x2, iv x3, iv y0, iv y1, .unset, .unset, .unset, .unset, .unset, .unset, .unset, .unset, .unset, .unset] [(.int x2)])) _
          exact k
        refine own_lift sg70 ?_
        show own_Go p.tables e below (T8.setTop (mkF m 87 #[iv p0, iv p1, iv p2, iv p3, iv p4, iv p5, iv x0, iv x1, iv x2, iv x3, iv y0, iv y1, .unset, .unset, .unset, .unset, .unset, .unset, .unset, .unset, .unset, .unset] [(.int x2)])) _
        rw [show y2 = x2 from (hy2.trans (if_neg b))] at join10
        exact join10 _ _ X8 e8 N8
    by_cases b : (p5 &&& (2 : Int32)) = (0 : Int32)
    · have sg71 : ∀ t, Steps p.tables e below (T6.setTop (mkF m 64 #[iv p0, iv p1, iv p2, iv p3, iv p4, iv p5, iv x0, iv x1, iv x2, iv x3, iv y0, .unset, .unset, .unset, .unset, .unset, .unset, .unset, .unset, .unset, .unset, .unset] [(.int ((p4.toUInt32 >>> ((16 : Int32) &&& 31).toUInt32).toInt32))])) t → Steps p.tables e below (T6.setTop (mkF m 47 #[iv p0, iv p1, iv p2, iv p3, iv p4, iv p5, iv x0, iv x1, iv x2, iv x3, iv y0, .unset, .unset, .unset, .unset, .unset, .unset, .unset, .unset, .unset, .unset, .unset] [])) t := by
        intro t k
        refine XS.iload X6.here hx rfl (hb hby at_47) rfl ?_
        show Steps p.tables e below (T6.setTop (mkF m 49 #[iv p0, iv p1, iv p2, iv p3, iv p4, iv p5, iv x0, iv x1, iv x2, iv x3, iv y0, .unset, .unset, .unset, .unset, .unset, .unset, .unset, .unset, .unset, .unset, .unset] [(.int p5)])) _
        refine XS.iconst X6.here hx rfl (hb hby at_49) ?_
        refine XS.iand X6.here hx rfl (hb hby at_50) rfl ?_
        show Steps p.tables e below (T6.setTop (mkF m 51 #[iv p0, iv p1, iv p2, iv p3, iv p4, iv p5, iv x0, iv x1, iv x2, iv x3, iv y0, .unset, .unset, .unset, .unset, .unset, .unset, .unset, .unset, .unset, .unset, .unset] [(.int (p5 &&& (2 : Int32)))])) _
        refine XS.ifYes X6.here hx rfl (pc0 := 51) (pc' := 59) rfl (hb hby at_51) rfl ((if0 _ _).trans (teq b).1) (by decide) (by decide) ?_
        refine XS.iload X6.here hx rfl (hb hby at_59) rfl ?_
        show Steps p.tables e below (T6.setTop (mkF m 61 #[iv p0, iv p1, iv p2, iv p3, iv p4, iv p5, iv x0, iv x1, iv x2, iv x3, iv y0, .unset, .unset, .unset, .unset, .unset, .unset, .unset, .unset, .unset, .unset, .unset] [(.int p4)])) _
        refine XS.bipush X6.here hx rfl (hb hby at_61) ?_
        refine XS.iushr X6.here hx rfl (hb hby at_63) rfl ?_
        show Steps p.tables e below (T6.setTop (mkF m 64 #[iv p0, iv p1, iv p2, iv p3, iv p4, iv p5, iv x0, iv x1, iv x2, iv x3, iv y0, .unset, .unset, .unset, .unset, .unset, .unset, .unset, .unset, .unset, .unset, .unset] [(.int ((p4.toUInt32 >>> ((16 : Int32) &&& 31).toUInt32).toInt32))])) _
        exact k
      refine own_lift sg71 ?_
      show own_Go p.tables e below (T6.setTop (mkF m 64 #[iv p0, iv p1, iv p2, iv p3, iv p4, iv p5, iv x0, iv x1, iv x2, iv x3, iv y0, .unset, .unset, .unset, .unset, .unset, .unset, .unset, .unset, .unset, .unset, .unset] [(.int ((p4.toUInt32 >>> ((16 : Int32) &&& 31).toUInt32).toInt32))])) _
      rw [show y1 = ((p4.toUInt32 >>> ((16 : Int32) &&& 31).toUInt32).toInt32) from (hy1.trans (if_pos b))] at join8
      exact join8 _ _ X6 e6 N6
    · have sg72 : ∀ t, Steps p.tables e below (T6.setTop (mkF m 64 #[iv p0, iv p1, iv p2, iv p3, iv p4, iv p5, iv x0, iv x1, iv x2, iv x3, iv y0, .unset, .unset, .unset, .unset, .unset, .unset, .unset, .unset, .unset, .unset, .unset] [(.int x1)])) t → Steps p.tables e below (T6.setTop (mkF m 47 #[iv p0, iv p1, iv p2, iv p3, iv p4, iv p5, iv x0, iv x1, iv x2, iv x3, iv y0, .unset, .unset, .unset, .unset, .unset, .unset, .unset, .unset, .unset, .unset, .unset] [])) t := by
        intro t k
        refine XS.iload X6.here hx rfl (hb hby at_47) rfl ?_
        show Steps p.tables e below (T6.setTop (mkF m 49 #[iv p0, iv p1, iv p2, iv p3, iv p4, iv p5, iv x0, iv x1, iv x2, iv x3, iv y0, .unset, .unset, .unset, .unset, .unset, .unset, .unset, .unset, .unset, .unset, .unset] [(.int p5)])) _
        refine XS.iconst X6.here hx rfl (hb hby at_49) ?_
        refine XS.iand X6.here hx rfl (hb hby at_50) rfl ?_
        show Steps p.tables e below (T6.setTop (mkF m 51 #[iv p0, iv p1, iv p2, iv p3, iv p4, iv p5, iv x0, iv x1, iv x2, iv x3, iv y0, .unset, .unset, .unset, .unset, .unset, .unset, .unset, .unset, .unset, .unset, .unset] [(.int (p5 &&& (2 : Int32)))])) _
        refine XS.ifNo X6.here hx rfl (hb hby at_51) rfl ((if0 _ _).trans (feq b).1) ?_
        refine XS.iload X6.here hx rfl (hb hby at_54) rfl ?_
        show Steps p.tables e below (T6.setTop (mkF m 56 #[iv p0, iv p1, iv p2, iv p3, iv p4, iv p5, iv x0, iv x1, iv x2, iv x3, iv y0, .unset, .unset, .unset, .unset, .unset, .unset, .unset, .unset, .unset, .unset, .unset] [(.int x1)])) _
        refine XS.goto X6.here hx rfl (pc0 := 56) (pc' := 64) rfl (hb hby at_56) (by decide) (by decide) ?_
        show Steps p.tables e below (T6.setTop (mkF m 64 #[iv p0, iv p1, iv p2, iv p3, iv p4, iv p5, iv x0, iv x1, iv x2, iv x3, iv y0, .unset, .unset, .unset, .unset, .unset, .unset, .unset, .unset, .unset, .unset, .unset] [(.int x1)])) _
        exact k
      refine own_lift sg72 ?_
      show own_Go p.tables e below (T6.setTop (mkF m 64 #[iv p0, iv p1, iv p2, iv p3, iv p4, iv p5, iv x0, iv x1, iv x2, iv x3, iv y0, .unset, .unset, .unset, .unset, .unset, .unset, .unset, .unset, .unset, .unset, .unset] [(.int x1)])) _
      rw [show y1 = x1 from (hy1.trans (if_neg b))] at join8
      exact join8 _ _ X6 e6 N6
  by_cases b : (p5 &&& (1 : Int32)) = (0 : Int32)
  · have sg73 : ∀ t, Steps p.tables e below (s₁.setTop (mkF m 45 #[iv p0, iv p1, iv p2, iv p3, iv p4, iv p5, iv x0, iv x1, iv x2, iv x3, .unset, .unset, .unset, .unset, .unset, .unset, .unset, .unset, .unset, .unset, .unset, .unset] [(.int (p4 &&& (65535 : Int32)))])) t → Steps p.tables e below (s₁.setTop (mkF m 28 #[iv p0, iv p1, iv p2, iv p3, iv p4, iv p5, iv x0, iv x1, iv x2, iv x3, .unset, .unset, .unset, .unset, .unset, .unset, .unset, .unset, .unset, .unset, .unset, .unset] [])) t := by
      intro t k
      refine XS.iload X0.here hx rfl (hb hby at_28) rfl ?_
      show Steps p.tables e below (s₁.setTop (mkF m 30 #[iv p0, iv p1, iv p2, iv p3, iv p4, iv p5, iv x0, iv x1, iv x2, iv x3, .unset, .unset, .unset, .unset, .unset, .unset, .unset, .unset, .unset, .unset, .unset, .unset] [(.int p5)])) _
      refine XS.iconst X0.here hx rfl (hb hby at_30) ?_
      refine XS.iand X0.here hx rfl (hb hby at_31) rfl ?_
      show Steps p.tables e below (s₁.setTop (mkF m 32 #[iv p0, iv p1, iv p2, iv p3, iv p4, iv p5, iv x0, iv x1, iv x2, iv x3, .unset, .unset, .unset, .unset, .unset, .unset, .unset, .unset, .unset, .unset, .unset, .unset] [(.int (p5 &&& (1 : Int32)))])) _
      refine XS.ifYes X0.here hx rfl (pc0 := 32) (pc' := 40) rfl (hb hby at_32) rfl ((if0 _ _).trans (teq b).1) (by decide) (by decide) ?_
      refine XS.iload X0.here hx rfl (hb hby at_40) rfl ?_
      show Steps p.tables e below (s₁.setTop (mkF m 42 #[iv p0, iv p1, iv p2, iv p3, iv p4, iv p5, iv x0, iv x1, iv x2, iv x3, .unset, .unset, .unset, .unset, .unset, .unset, .unset, .unset, .unset, .unset, .unset, .unset] [(.int p4)])) _
      refine X0.ldcInt hx hown (mvT hZ (wd hw 0 rfl)) (g := (mkF m 42 #[iv p0, iv p1, iv p2, iv p3, iv p4, iv p5, iv x0, iv x1, iv x2, iv x3, .unset, .unset, .unset, .unset, .unset, .unset, .unset, .unset, .unset, .unset, .unset, .unset] [(.int p4)])) rfl (hb hby at_42) _ ?_
      refine XS.iand X0.here hx rfl (hb hby at_44) rfl ?_
      show Steps p.tables e below (s₁.setTop (mkF m 45 #[iv p0, iv p1, iv p2, iv p3, iv p4, iv p5, iv x0, iv x1, iv x2, iv x3, .unset, .unset, .unset, .unset, .unset, .unset, .unset, .unset, .unset, .unset, .unset, .unset] [(.int (p4 &&& (65535 : Int32)))])) _
      exact k
    refine own_lift sg73 ?_
    show own_Go p.tables e below (s₁.setTop (mkF m 45 #[iv p0, iv p1, iv p2, iv p3, iv p4, iv p5, iv x0, iv x1, iv x2, iv x3, .unset, .unset, .unset, .unset, .unset, .unset, .unset, .unset, .unset, .unset, .unset, .unset] [(.int (p4 &&& (65535 : Int32)))])) _
    rw [show y0 = (p4 &&& (65535 : Int32)) from (hy0.trans (if_pos b))] at join6
    exact join6 _ _ X0 e0 N0
  · have sg74 : ∀ t, Steps p.tables e below (s₁.setTop (mkF m 45 #[iv p0, iv p1, iv p2, iv p3, iv p4, iv p5, iv x0, iv x1, iv x2, iv x3, .unset, .unset, .unset, .unset, .unset, .unset, .unset, .unset, .unset, .unset, .unset, .unset] [(.int x0)])) t → Steps p.tables e below (s₁.setTop (mkF m 28 #[iv p0, iv p1, iv p2, iv p3, iv p4, iv p5, iv x0, iv x1, iv x2, iv x3, .unset, .unset, .unset, .unset, .unset, .unset, .unset, .unset, .unset, .unset, .unset, .unset] [])) t := by
      intro t k
      refine XS.iload X0.here hx rfl (hb hby at_28) rfl ?_
      show Steps p.tables e below (s₁.setTop (mkF m 30 #[iv p0, iv p1, iv p2, iv p3, iv p4, iv p5, iv x0, iv x1, iv x2, iv x3, .unset, .unset, .unset, .unset, .unset, .unset, .unset, .unset, .unset, .unset, .unset, .unset] [(.int p5)])) _
      refine XS.iconst X0.here hx rfl (hb hby at_30) ?_
      refine XS.iand X0.here hx rfl (hb hby at_31) rfl ?_
      show Steps p.tables e below (s₁.setTop (mkF m 32 #[iv p0, iv p1, iv p2, iv p3, iv p4, iv p5, iv x0, iv x1, iv x2, iv x3, .unset, .unset, .unset, .unset, .unset, .unset, .unset, .unset, .unset, .unset, .unset, .unset] [(.int (p5 &&& (1 : Int32)))])) _
      refine XS.ifNo X0.here hx rfl (hb hby at_32) rfl ((if0 _ _).trans (feq b).1) ?_
      refine XS.iload X0.here hx rfl (hb hby at_35) rfl ?_
      show Steps p.tables e below (s₁.setTop (mkF m 37 #[iv p0, iv p1, iv p2, iv p3, iv p4, iv p5, iv x0, iv x1, iv x2, iv x3, .unset, .unset, .unset, .unset, .unset, .unset, .unset, .unset, .unset, .unset, .unset, .unset] [(.int x0)])) _
      refine XS.goto X0.here hx rfl (pc0 := 37) (pc' := 45) rfl (hb hby at_37) (by decide) (by decide) ?_
      show Steps p.tables e below (s₁.setTop (mkF m 45 #[iv p0, iv p1, iv p2, iv p3, iv p4, iv p5, iv x0, iv x1, iv x2, iv x3, .unset, .unset, .unset, .unset, .unset, .unset, .unset, .unset, .unset, .unset, .unset, .unset] [(.int x0)])) _
      exact k
    refine own_lift sg74 ?_
    show own_Go p.tables e below (s₁.setTop (mkF m 45 #[iv p0, iv p1, iv p2, iv p3, iv p4, iv p5, iv x0, iv x1, iv x2, iv x3, .unset, .unset, .unset, .unset, .unset, .unset, .unset, .unset, .unset, .unset, .unset, .unset] [(.int x0)])) _
    rw [show y0 = x0 from (hy0.trans (if_neg b))] at join6
    exact join6 _ _ X0 e0 N0
theorem ef_rm0_3 (m : MethodId) (x0 : Int32) (x1 : Int32) (x2 : Int32) (x3 : Int32) (x4 : Int32) (x5 : Int32) : entryFrame m #[(.int x0), (.int x1), (.int x2), (.int x3), (.int x4), (.int x5)] maxLocals = mkF m 0 #[.val (.int x0), .val (.int x1), .val (.int x2), .val (.int x3), .val (.int x4), .val (.int x5), .unset, .unset, .unset, .unset, .unset, .unset, .unset, .unset, .unset, .unset, .unset, .unset, .unset, .unset, .unset, .unset] [] := by first | (simp [entryFrame, mkF, argsToLocals, Value.category, maxLocals]; done) | rfl
set_option maxRecDepth 65536 in
set_option maxHeartbeats 40000000 in
theorem rm0_3 (l : Launch) (Z : State) (a0 : Array Value) (hw : ∀ d ∈ tables_1, d.before a0 Z = true) (ws : List Jvm.Cond) (p0 : Int32) (p1 : Int32) (p2 : Int32) (p3 : Int32) (p4 : Int32) (p5 : Int32) (cs : Int32) (x0 : Int32) (x1 : Int32) (x2 : Int32) (x3 : Int32) (y0 : Int32) (y1 : Int32) (y2 : Int32) (y3 : Int32) (kk : Int32) (h0 : Heap) (n0 : Nat) (Z0 : n0 ≤ h0.size) (S_cs : Sta Z h0 "java/lang/String" "COMPACT_STRINGS" "Z" (.int cs)) (P_cs : ¬ cs = 0) (hx0 : (p0 &&& (65535 : Int32)) = x0) (hx1 : (p1 &&& (65535 : Int32)) = x1) (hx2 : (p2 &&& (255 : Int32)) = x2) (hx3 : ((p3 <<< ((8 : Int32) &&& 31)) >>> ((8 : Int32) &&& 31)) = x3) (hy0 : y0 = if (p5 &&& (1 : Int32)) = (0 : Int32) then (p4 &&& (65535 : Int32)) else x0) (hy1 : y1 = if (p5 &&& (2 : Int32)) = (0 : Int32) then ((p4.toUInt32 >>> ((16 : Int32) &&& 31).toUInt32).toInt32) else x1) (hy2 : y2 = if (p5 &&& (4 : Int32)) = (0 : Int32) then (((p4.toUInt32 >>> ((8 : Int32) &&& 31).toUInt32).toInt32) &&& (255 : Int32)) else x2) (hy3 : y3 = if (p5 &&& (8 : Int32)) = (0 : Int32) then ((p4 <<< ((8 : Int32) &&& 31)) >>> ((8 : Int32) &&& 31)) else x3) (hk : (((p5.toUInt32 >>> ((4 : Int32) &&& 31).toUInt32).toInt32) &&& (3 : Int32)) = kk) (rx0 : ¬ (x0 < (0 : Int32)) ∧ ¬ ((65535 : Int32) < x0)) (rx1 : ¬ (x1 < (0 : Int32)) ∧ ¬ ((65535 : Int32) < x1)) (rx2 : ¬ (x2 < (0 : Int32)) ∧ ¬ ((255 : Int32) < x2)) (rx3 : ¬ (x3 < (-8388608 : Int32)) ∧ ¬ ((8388607 : Int32) < x3)) (ry0 : ¬ (y0 < (0 : Int32)) ∧ ¬ ((65535 : Int32) < y0)) (ry1 : ¬ (y1 < (0 : Int32)) ∧ ¬ ((65535 : Int32) < y1)) (ry2 : ¬ (y2 < (0 : Int32)) ∧ ¬ ((255 : Int32) < y2)) (ry3 : ¬ (y3 < (-8388608 : Int32)) ∧ ¬ ((8388607 : Int32) < y3)) (k2 : kk < (2 : Int32)) (d0 : x0 = y0) (d1 : x1 = y1) (d2 : x2 = y2) (d3 : ¬ (x3 = y3)) :
    MetFree l x (head1 (Jvm.Cond.code x code maxLocals ret :: ws) room_1) (fun a U => a = #[(.int p0), (.int p1), (.int p2), (.int p3), (.int p4), (.int p5)] ∧ Z.Warmed39 U.vm ∧ U.heap = h0) (fun _ _ _ _ _ => True) (fun _ U o U' => ∃ v L, o = .returned v ∧ Q0 Z  h0 n0 v U'.heap L ∧ FrameEnd U o U' L 24 128) := by
  refine MetFree.of_bodySF (plainFor_of_name pn_1) hisR ?_
  intro p e s m args below meth c s₁ Bd hml0 hP hK
  obtain ⟨rfl, hZ, hh⟩ := hP
  have hx := Bd.exec
  have hby := Bd.bytes
  have hml : c.maxLocals = 22 := hml0
  have hown : s.vm.findClass "com/example/halyard/halyard/core/mal/TypeIdEqualsPinLaw" = some m.cls := findClass_of_methodNamed Bd.named
  have hnm := (name_of_methodNamed Bd.named Bd.method).1
  have X0 : Stand p l e room_1 s m #[(.int p0), (.int p1), (.int p2), (.int p3), (.int p4), (.int p5)] below meth c s₁ [] 0 0 := Stand.of_body Bd
  have e0 : s₁.heap = h0 := by rw [← hh, Bd.state]; rfl
  have N0 := Fr.nil n0
  refine own_go (own_lift (fun t k => castTop (ef_rm0_3 m p0 p1 p2 p3 p4 p5) k) ?_)
  show own_Go p.tables e below (s₁.setTop (mkF m 0 #[iv p0, iv p1, iv p2, iv p3, iv p4, iv p5, .unset, .unset, .unset, .unset, .unset, .unset, .unset, .unset, .unset, .unset, .unset, .unset, .unset, .unset, .unset, .unset] [])) _
  have sg1 : ∀ t, Steps p.tables e below (s₁.setTop (mkF m 4 #[iv p0, iv p1, iv p2, iv p3, iv p4, iv p5, .unset, .unset, .unset, .unset, .unset, .unset, .unset, .unset, .unset, .unset, .unset, .unset, .unset, .unset, .unset, .unset] [(.int (p0 &&& (65535 : Int32)))])) t → Steps p.tables e below (s₁.setTop (mkF m 0 #[iv p0, iv p1, iv p2, iv p3, iv p4, iv p5, .unset, .unset, .unset, .unset, .unset, .unset, .unset, .unset, .unset, .unset, .unset, .unset, .unset, .unset, .unset, .unset] [])) t := by
    intro t k
    refine XS.iloadN X0.here hx rfl (hb hby at_0) rfl ?_
    show Steps p.tables e below (s₁.setTop (mkF m 1 #[iv p0, iv p1, iv p2, iv p3, iv p4, iv p5, .unset, .unset, .unset, .unset, .unset, .unset, .unset, .unset, .unset, .unset, .unset, .unset, .unset, .unset, .unset, .unset] [(.int p0)])) _
    refine X0.ldcInt hx hown (mvT hZ (wd hw 0 rfl)) (g := (mkF m 1 #[iv p0, iv p1, iv p2, iv p3, iv p4, iv p5, .unset, .unset, .unset, .unset, .unset, .unset, .unset, .unset, .unset, .unset, .unset, .unset, .unset, .unset, .unset, .unset] [(.int p0)])) rfl (hb hby at_1) _ ?_
    refine XS.iand X0.here hx rfl (hb hby at_3) rfl ?_
    show Steps p.tables e below (s₁.setTop (mkF m 4 #[iv p0, iv p1, iv p2, iv p3, iv p4, iv p5, .unset, .unset, .unset, .unset, .unset, .unset, .unset, .unset, .unset, .unset, .unset, .unset, .unset, .unset, .unset, .unset] [(.int (p0 &&& (65535 : Int32)))])) _
    exact k
  refine own_lift sg1 ?_
  show own_Go p.tables e below (s₁.setTop (mkF m 4 #[iv p0, iv p1, iv p2, iv p3, iv p4, iv p5, .unset, .unset, .unset, .unset, .unset, .unset, .unset, .unset, .unset, .unset, .unset, .unset, .unset, .unset, .unset, .unset] [(.int (p0 &&& (65535 : Int32)))])) _
  rw [hx0]
  show own_Go p.tables e below (s₁.setTop (mkF m 4 #[iv p0, iv p1, iv p2, iv p3, iv p4, iv p5, .unset, .unset, .unset, .unset, .unset, .unset, .unset, .unset, .unset, .unset, .unset, .unset, .unset, .unset, .unset, .unset] [(.int x0)])) _
  have sg2 : ∀ t, Steps p.tables e below (s₁.setTop (mkF m 10 #[iv p0, iv p1, iv p2, iv p3, iv p4, iv p5, iv x0, .unset, .unset, .unset, .unset, .unset, .unset, .unset, .unset, .unset, .unset, .unset, .unset, .unset, .unset, .unset] [(.int (p1 &&& (65535 : Int32)))])) t → Steps p.tables e below (s₁.setTop (mkF m 4 #[iv p0, iv p1, iv p2, iv p3, iv p4, iv p5, .unset, .unset, .unset, .unset, .unset, .unset, .unset, .unset, .unset, .unset, .unset, .unset, .unset, .unset, .unset, .unset] [(.int x0)])) t := by
    intro t k
    refine XS.istore X0.here hx rfl (hb hby at_4) rfl (l' := #[iv p0, iv p1, iv p2, iv p3, iv p4, iv p5, iv x0, .unset, .unset, .unset, .unset, .unset, .unset, .unset, .unset, .unset, .unset, .unset, .unset, .unset, .unset, .unset]) rfl ?_
    show Steps p.tables e below (s₁.setTop (mkF m 6 #[iv p0, iv p1, iv p2, iv p3, iv p4, iv p5, iv x0, .unset, .unset, .unset, .unset, .unset, .unset, .unset, .unset, .unset, .unset, .unset, .unset, .unset, .unset, .unset] [])) _
    refine XS.iloadN X0.here hx rfl (hb hby at_6) rfl ?_
    refine X0.ldcInt hx hown (mvT hZ (wd hw 0 rfl)) (g := (mkF m 7 #[iv p0, iv p1, iv p2, iv p3, iv p4, iv p5, iv x0, .unset, .unset, .unset, .unset, .unset, .unset, .unset, .unset, .unset, .unset, .unset, .unset, .unset, .unset, .unset] [(.int p1)])) rfl (hb hby at_7) _ ?_
    show Steps p.tables e below (s₁.setTop (mkF m 9 #[iv p0, iv p1, iv p2, iv p3, iv p4, iv p5, iv x0, .unset, .unset, .unset, .unset, .unset, .unset, .unset, .unset, .unset, .unset, .unset, .unset, .unset, .unset, .unset] [(.int 65535), (.int p1)])) _
    refine XS.iand X0.here hx rfl (hb hby at_9) rfl ?_
    show Steps p.tables e below (s₁.setTop (mkF m 10 #[iv p0, iv p1, iv p2, iv p3, iv p4, iv p5, iv x0, .unset, .unset, .unset, .unset, .unset, .unset, .unset, .unset, .unset, .unset, .unset, .unset, .unset, .unset, .unset] [(.int (p1 &&& (65535 : Int32)))])) _
    exact k
  refine own_lift sg2 ?_
  show own_Go p.tables e below (s₁.setTop (mkF m 10 #[iv p0, iv p1, iv p2, iv p3, iv p4, iv p5, iv x0, .unset, .unset, .unset, .unset, .unset, .unset, .unset, .unset, .unset, .unset, .unset, .unset, .unset, .unset, .unset] [(.int (p1 &&& (65535 : Int32)))])) _
  rw [hx1]
  show own_Go p.tables e below (s₁.setTop (mkF m 10 #[iv p0, iv p1, iv p2, iv p3, iv p4, iv p5, iv x0, .unset, .unset, .unset, .unset, .unset, .unset, .unset, .unset, .unset, .unset, .unset, .unset, .unset, .unset, .unset] [(.int x1)])) _
  have sg3 : ∀ t, Steps p.tables e below (s₁.setTop (mkF m 17 #[iv p0, iv p1, iv p2, iv p3, iv p4, iv p5, iv x0, iv x1, .unset, .unset, .unset, .unset, .unset, .unset, .unset, .unset, .unset, .unset, .unset, .unset, .unset, .unset] [(.int (p2 &&& (255 : Int32)))])) t → Steps p.tables e below (s₁.setTop (mkF m 10 #[iv p0, iv p1, iv p2, iv p3, iv p4, iv p5, iv x0, .unset, .unset, .unset, .unset, .unset, .unset, .unset, .unset, .unset, .unset, .unset, .unset, .unset, .unset, .unset] [(.int x1)])) t := by
    intro t k
    refine XS.istore X0.here hx rfl (hb hby at_10) rfl (l' := #[iv p0, iv p1, iv p2, iv p3, iv p4, iv p5, iv x0, iv x1, .unset, .unset, .unset, .unset, .unset, .unset, .unset, .unset, .unset, .unset, .unset, .unset, .unset, .unset]) rfl ?_
    show Steps p.tables e below (s₁.setTop (mkF m 12 #[iv p0, iv p1, iv p2, iv p3, iv p4, iv p5, iv x0, iv x1, .unset, .unset, .unset, .unset, .unset, .unset, .unset, .unset, .unset, .unset, .unset, .unset, .unset, .unset] [])) _
    refine XS.iloadN X0.here hx rfl (hb hby at_12) rfl ?_
    refine XS.sipush X0.here hx rfl (hb hby at_13) ?_
    show Steps p.tables e below (s₁.setTop (mkF m 16 #[iv p0, iv p1, iv p2, iv p3, iv p4, iv p5, iv x0, iv x1, .unset, .unset, .unset, .unset, .unset, .unset, .unset, .unset, .unset, .unset, .unset, .unset, .unset, .unset] [(.int 255), (.int p2)])) _
    refine XS.iand X0.here hx rfl (hb hby at_16) rfl ?_
    show Steps p.tables e below (s₁.setTop (mkF m 17 #[iv p0, iv p1, iv p2, iv p3, iv p4, iv p5, iv x0, iv x1, .unset, .unset, .unset, .unset, .unset, .unset, .unset, .unset, .unset, .unset, .unset, .unset, .unset, .unset] [(.int (p2 &&& (255 : Int32)))])) _
    exact k
  refine own_lift sg3 ?_
  show own_Go p.tables e below (s₁.setTop (mkF m 17 #[iv p0, iv p1, iv p2, iv p3, iv p4, iv p5, iv x0, iv x1, .unset, .unset, .unset, .unset, .unset, .unset, .unset, .unset, .unset, .unset, .unset, .unset, .unset, .unset] [(.int (p2 &&& (255 : Int32)))])) _
  rw [hx2]
  show own_Go p.tables e below (s₁.setTop (mkF m 17 #[iv p0, iv p1, iv p2, iv p3, iv p4, iv p5, iv x0, iv x1, .unset, .unset, .unset, .unset, .unset, .unset, .unset, .unset, .unset, .unset, .unset, .unset, .unset, .unset] [(.int x2)])) _
  have sg4 : ∀ t, Steps p.tables e below (s₁.setTop (mkF m 26 #[iv p0, iv p1, iv p2, iv p3, iv p4, iv p5, iv x0, iv x1, iv x2, .unset, .unset, .unset, .unset, .unset, .unset, .unset, .unset, .unset, .unset, .unset, .unset, .unset] [(.int ((p3 <<< ((8 : Int32) &&& 31)) >>> ((8 : Int32) &&& 31)))])) t → Steps p.tables e below (s₁.setTop (mkF m 17 #[iv p0, iv p1, iv p2, iv p3, iv p4, iv p5, iv x0, iv x1, .unset, .unset, .unset, .unset, .unset, .unset, .unset, .unset, .unset, .unset, .unset, .unset, .unset, .unset] [(.int x2)])) t := by
    intro t k
    refine XS.istore X0.here hx rfl (hb hby at_17) rfl (l' := #[iv p0, iv p1, iv p2, iv p3, iv p4, iv p5, iv x0, iv x1, iv x2, .unset, .unset, .unset, .unset, .unset, .unset, .unset, .unset, .unset, .unset, .unset, .unset, .unset]) rfl ?_
    show Steps p.tables e below (s₁.setTop (mkF m 19 #[iv p0, iv p1, iv p2, iv p3, iv p4, iv p5, iv x0, iv x1, iv x2, .unset, .unset, .unset, .unset, .unset, .unset, .unset, .unset, .unset, .unset, .unset, .unset, .unset] [])) _
    refine XS.iloadN X0.here hx rfl (hb hby at_19) rfl ?_
    refine XS.bipush X0.here hx rfl (hb hby at_20) ?_
    show Steps p.tables e below (s₁.setTop (mkF m 22 #[iv p0, iv p1, iv p2, iv p3, iv p4, iv p5, iv x0, iv x1, iv x2, .unset, .unset, .unset, .unset, .unset, .unset, .unset, .unset, .unset, .unset, .unset, .unset, .unset] [(.int 8), (.int p3)])) _
    refine XS.ishl X0.here hx rfl (hb hby at_22) rfl ?_
    refine XS.bipush X0.here hx rfl (hb hby at_23) ?_
    show Steps p.tables e below (s₁.setTop (mkF m 25 #[iv p0, iv p1, iv p2, iv p3, iv p4, iv p5, iv x0, iv x1, iv x2, .unset, .unset, .unset, .unset, .unset, .unset, .unset, .unset, .unset, .unset, .unset, .unset, .unset] [(.int 8), (.int (p3 <<< ((8 : Int32) &&& 31)))])) _
    refine XS.ishr X0.here hx rfl (hb hby at_25) rfl ?_
    show Steps p.tables e below (s₁.setTop (mkF m 26 #[iv p0, iv p1, iv p2, iv p3, iv p4, iv p5, iv x0, iv x1, iv x2, .unset, .unset, .unset, .unset, .unset, .unset, .unset, .unset, .unset, .unset, .unset, .unset, .unset] [(.int ((p3 <<< ((8 : Int32) &&& 31)) >>> ((8 : Int32) &&& 31)))])) _
    exact k
  refine own_lift sg4 ?_
  show own_Go p.tables e below (s₁.setTop (mkF m 26 #[iv p0, iv p1, iv p2, iv p3, iv p4, iv p5, iv x0, iv x1, iv x2, .unset, .unset, .unset, .unset, .unset, .unset, .unset, .unset, .unset, .unset, .unset, .unset, .unset] [(.int ((p3 <<< ((8 : Int32) &&& 31)) >>> ((8 : Int32) &&& 31)))])) _
  rw [hx3]
  show own_Go p.tables e below (s₁.setTop (mkF m 26 #[iv p0, iv p1, iv p2, iv p3, iv p4, iv p5, iv x0, iv x1, iv x2, .unset, .unset, .unset, .unset, .unset, .unset, .unset, .unset, .unset, .unset, .unset, .unset, .unset] [(.int x3)])) _
  have sg5 : ∀ t, Steps p.tables e below (s₁.setTop (mkF m 28 #[iv p0, iv p1, iv p2, iv p3, iv p4, iv p5, iv x0, iv x1, iv x2, iv x3, .unset, .unset, .unset, .unset, .unset, .unset, .unset, .unset, .unset, .unset, .unset, .unset] [])) t → Steps p.tables e below (s₁.setTop (mkF m 26 #[iv p0, iv p1, iv p2, iv p3, iv p4, iv p5, iv x0, iv x1, iv x2, .unset, .unset, .unset, .unset, .unset, .unset, .unset, .unset, .unset, .unset, .unset, .unset, .unset] [(.int x3)])) t := by
    intro t k
    refine XS.istore X0.here hx rfl (hb hby at_26) rfl (l' := #[iv p0, iv p1, iv p2, iv p3, iv p4, iv p5, iv x0, iv x1, iv x2, iv x3, .unset, .unset, .unset, .unset, .unset, .unset, .unset, .unset, .unset, .unset, .unset, .unset]) rfl ?_
    show Steps p.tables e below (s₁.setTop (mkF m 28 #[iv p0, iv p1, iv p2, iv p3, iv p4, iv p5, iv x0, iv x1, iv x2, iv x3, .unset, .unset, .unset, .unset, .unset, .unset, .unset, .unset, .unset, .unset, .unset, .unset] [])) _
    exact k
  refine own_lift sg5 ?_
  show own_Go p.tables e below (s₁.setTop (mkF m 28 #[iv p0, iv p1, iv p2, iv p3, iv p4, iv p5, iv x0, iv x1, iv x2, iv x3, .unset, .unset, .unset, .unset, .unset, .unset, .unset, .unset, .unset, .unset, .unset, .unset] [])) _
  have join6 : ∀ (T6 : State) (locs6 : List Loc), Stand p l e room_1 s m #[(.int p0), (.int p1), (.int p2), (.int p3), (.int p4), (.int p5)] below meth c T6 locs6 0 0 → T6.heap = h0 → Fr n0 locs6 → own_Go p.tables e below (T6.setTop (mkF m 45 #[iv p0, iv p1, iv p2, iv p3, iv p4, iv p5, iv x0, iv x1, iv x2, iv x3, .unset, .unset, .unset, .unset, .unset, .unset, .unset, .unset, .unset, .unset, .unset, .unset] [(.int y0)])) (fun s₂ o => s₂.status = .running ∧ Ended s₂ below o ∧ ∃ v L, o = .returned v ∧ Q0 Z  h0 n0 v s₂.heap L ∧ FrameEnd s o s₂ L 24 128) := by
    intro T6 locs6 X6 e6 N6
    have sg7 : ∀ t, Steps p.tables e below (T6.setTop (mkF m 47 #[iv p0, iv p1, iv p2, iv p3, iv p4, iv p5, iv x0, iv x1, iv x2, iv x3, iv y0, .unset, .unset, .unset, .unset, .unset, .unset, .unset, .unset, .unset, .unset, .unset] [])) t → Steps p.tables e below (T6.setTop (mkF m 45 #[iv p0, iv p1, iv p2, iv p3, iv p4, iv p5, iv x0, iv x1, iv x2, iv x3, .unset, .unset, .unset, .unset, .unset, .unset, .unset, .unset, .unset, .unset, .unset, .unset] [(.int y0)])) t := by
      intro t k
      refine XS.istore X6.here hx rfl (hb hby at_45) rfl (l' := #[iv p0, iv p1, iv p2, iv p3, iv p4, iv p5, iv x0, iv x1, iv x2, iv x3, iv y0, .unset, .unset, .unset, .unset, .unset, .unset, .unset, .unset, .unset, .unset, .unset]) rfl ?_
      show Steps p.tables e below (T6.setTop (mkF m 47 #[iv p0, iv p1, iv p2, iv p3, iv p4, iv p5, iv x0, iv x1, iv x2, iv x3, iv y0, .unset, .unset, .unset, .unset, .unset, .unset, .unset, .unset, .unset, .unset, .unset] [])) _
      exact k
    refine own_lift sg7 ?_
    show own_Go p.tables e below (T6.setTop (mkF m 47 #[iv p0, iv p1, iv p2, iv p3, iv p4, iv p5, iv x0, iv x1, iv x2, iv x3, iv y0, .unset, .unset, .unset, .unset, .unset, .unset, .unset, .unset, .unset, .unset, .unset] [])) _
    have join8 : ∀ (T8 : State) (locs8 : List Loc), Stand p l e room_1 s m #[(.int p0), (.int p1), (.int p2), (.int p3), (.int p4), (.int p5)] below meth c T8 locs8 0 0 → T8.heap = h0 → Fr n0 locs8 → own_Go p.tables e below (T8.setTop (mkF m 64 #[iv p0, iv p1, iv p2, iv p3, iv p4, iv p5, iv x0, iv x1, iv x2, iv x3, iv y0, .unset, .unset, .unset, .unset, .unset, .unset, .unset, .unset, .unset, .unset, .unset] [(.int y1)])) (fun s₂ o => s₂.status = .running ∧ Ended s₂ below o ∧ ∃ v L, o = .returned v ∧ Q0 Z  h0 n0 v s₂.heap L ∧ FrameEnd s o s₂ L 24 128) := by
      intro T8 locs8 X8 e8 N8
      have sg9 : ∀ t, Steps p.tables e below (T8.setTop (mkF m 66 #[iv p0, iv p1, iv p2, iv p3, iv p4, iv p5, iv x0, iv x1, iv x2, iv x3, iv y0, iv y1, .unset, .unset, .unset, .unset, .unset, .unset, .unset, .unset, .unset, .unset] [])) t → Steps p.tables e below (T8.setTop (mkF m 64 #[iv p0, iv p1, iv p2, iv p3, iv p4, iv p5, iv x0, iv x1, iv x2, iv x3, iv y0, .unset, .unset, .unset, .unset, .unset, .unset, .unset, .unset, .unset, .unset, .unset] [(.int y1)])) t := by
        intro t k
        refine XS.istore X8.here hx rfl (hb hby at_64) rfl (l' := #[iv p0, iv p1, iv p2, iv p3, iv p4, iv p5, iv x0, iv x1, iv x2, iv x3, iv y0, iv y1, .unset, .unset, .unset, .unset, .unset, .unset, .unset, .unset, .unset, .unset]) rfl ?_
        show Steps p.tables e below (T8.setTop (mkF m 66 #[iv p0, iv p1, iv p2, iv p3, iv p4, iv p5, iv x0, iv x1, iv x2, iv x3, iv y0, iv y1, .unset, .unset, .unset, .unset, .unset, .unset, .unset, .unset, .unset, .unset] [])) _
        exact k
      refine own_lift sg9 ?_
      show own_Go p.tables e below (T8.setTop (mkF m 66 #[iv p0, iv p1, iv p2, iv p3, iv p4, iv p5, iv x0, iv x1, iv x2, iv x3, iv y0, iv y1, .unset, .unset, .unset, .unset, .unset, .unset, .unset, .unset, .unset, .unset] [])) _
      have join10 : ∀ (T10 : State) (locs10 : List Loc), Stand p l e room_1 s m #[(.int p0), (.int p1), (.int p2), (.int p3), (.int p4), (.int p5)] below meth c T10 locs10 0 0 → T10.heap = h0 → Fr n0 locs10 → own_Go p.tables e below (T10.setTop (mkF m 87 #[iv p0, iv p1, iv p2, iv p3, iv p4, iv p5, iv x0, iv x1, iv x2, iv x3, iv y0, iv y1, .unset, .unset, .unset, .unset, .unset, .unset, .unset, .unset, .unset, .unset] [(.int y2)])) (fun s₂ o => s₂.status = .running ∧ Ended s₂ below o ∧ ∃ v L, o = .returned v ∧ Q0 Z  h0 n0 v s₂.heap L ∧ FrameEnd s o s₂ L 24 128) := by
        intro T10 locs10 X10 e10 N10
        have sg11 : ∀ t, Steps p.tables e below (T10.setTop (mkF m 89 #[iv p0, iv p1, iv p2, iv p3, iv p4, iv p5, iv x0, iv x1, iv x2, iv x3, iv y0, iv y1, iv y2, .unset, .unset, .unset, .unset, .unset, .unset, .unset, .unset, .unset] [])) t → Steps p.tables e below (T10.setTop (mkF m 87 #[iv p0, iv p1, iv p2, iv p3, iv p4, iv p5, iv x0, iv x1, iv x2, iv x3, iv y0, iv y1, .unset, .unset, .unset, .unset, .unset, .unset, .unset, .unset, .unset, .unset] [(.int y2)])) t := by
          intro t k
          refine XS.istore X10.here hx rfl (hb hby at_87) rfl (l' := #[iv p0, iv p1, iv p2, iv p3, iv p4, iv p5, iv x0, iv x1, iv x2, iv x3, iv y0, iv y1, iv y2, .unset, .unset, .unset, .unset, .unset, .unset, .unset, .unset, .unset]) rfl ?_
          show Steps p.tables e below (T10.setTop (mkF m 89 #[iv p0, iv p1, iv p2, iv p3, iv p4, iv p5, iv x0, iv x1, iv x2, iv x3, iv y0, iv y1, iv y2, .unset, .unset, .unset, .unset, .unset, .unset, .unset, .unset, .unset] [])) _
          exact k
        refine own_lift sg11 ?_
        show own_Go p.tables e below (T10.setTop (mkF m 89 #[iv p0, iv p1, iv p2, iv p3, iv p4, iv p5, iv x0, iv x1, iv x2, iv x3, iv y0, iv y1, iv y2, .unset, .unset, .unset, .unset, .unset, .unset, .unset, .unset, .unset] [])) _
        have join12 : ∀ (T12 : State) (locs12 : List Loc), Stand p l e room_1 s m #[(.int p0), (.int p1), (.int p2), (.int p3), (.int p4), (.int p5)] below meth c T12 locs12 0 0 → T12.heap = h0 → Fr n0 locs12 → own_Go p.tables e below (T12.setTop (mkF m 110 #[iv p0, iv p1, iv p2, iv p3, iv p4, iv p5, iv x0, iv x1, iv x2, iv x3, iv y0, iv y1, iv y2, .unset, .unset, .unset, .unset, .unset, .unset, .unset, .unset, .unset] [(.int y3)])) (fun s₂ o => s₂.status = .running ∧ Ended s₂ below o ∧ ∃ v L, o = .returned v ∧ Q0 Z  h0 n0 v s₂.heap L ∧ FrameEnd s o s₂ L 24 128) := by
          intro T12 locs12 X12 e12 N12
          have sg13 : ∀ t, Steps p.tables e below (T12.setTop (mkF m 118 #[iv p0, iv p1, iv p2, iv p3, iv p4, iv p5, iv x0, iv x1, iv x2, iv x3, iv y0, iv y1, iv y2, iv y3, .unset, .unset, .unset, .unset, .unset, .unset, .unset, .unset] [(.int (((p5.toUInt32 >>> ((4 : Int32) &&& 31).toUInt32).toInt32) &&& (3 : Int32)))])) t → Steps p.tables e below (T12.setTop (mkF m 110 #[iv p0, iv p1, iv p2, iv p3, iv p4, iv p5, iv x0, iv x1, iv x2, iv x3, iv y0, iv y1, iv y2, .unset, .unset, .unset, .unset, .unset, .unset, .unset, .unset, .unset] [(.int y3)])) t := by
            intro t k
            refine XS.istore X12.here hx rfl (hb hby at_110) rfl (l' := #[iv p0, iv p1, iv p2, iv p3, iv p4, iv p5, iv x0, iv x1, iv x2, iv x3, iv y0, iv y1, iv y2, iv y3, .unset, .unset, .unset, .unset, .unset, .unset, .unset, .unset]) rfl ?_
            show Steps p.tables e below (T12.setTop (mkF m 112 #[iv p0, iv p1, iv p2, iv p3, iv p4, iv p5, iv x0, iv x1, iv x2, iv x3, iv y0, iv y1, iv y2, iv y3, .unset, .unset, .unset, .unset, .unset, .unset, .unset, .unset] [])) _
            refine XS.iload X12.here hx rfl (hb hby at_112) rfl ?_
            refine XS.iconst X12.here hx rfl (hb hby at_114) ?_
            show Steps p.tables e below (T12.setTop (mkF m 115 #[iv p0, iv p1, iv p2, iv p3, iv p4, iv p5, iv x0, iv x1, iv x2, iv x3, iv y0, iv y1, iv y2, iv y3, .unset, .unset, .unset, .unset, .unset, .unset, .unset, .unset] [(.int 4), (.int p5)])) _
            refine XS.iushr X12.here hx rfl (hb hby at_115) rfl ?_
            refine XS.iconst X12.here hx rfl (hb hby at_116) ?_
            show Steps p.tables e below (T12.setTop (mkF m 117 #[iv p0, iv p1, iv p2, iv p3, iv p4, iv p5, iv x0, iv x1, iv x2, iv x3, iv y0, iv y1, iv y2, iv y3, .unset, .unset, .unset, .unset, .unset, .unset, .unset, .unset] [(.int 3), (.int ((p5.toUInt32 >>> ((4 : Int32) &&& 31).toUInt32).toInt32))])) _
            refine XS.iand X12.here hx rfl (hb hby at_117) rfl ?_
            show Steps p.tables e below (T12.setTop (mkF m 118 #[iv p0, iv p1, iv p2, iv p3, iv p4, iv p5, iv x0, iv x1, iv x2, iv x3, iv y0, iv y1, iv y2, iv y3, .unset, .unset, .unset, .unset, .unset, .unset, .unset, .unset] [(.int (((p5.toUInt32 >>> ((4 : Int32) &&& 31).toUInt32).toInt32) &&& (3 : Int32)))])) _
            exact k
          refine own_lift sg13 ?_
          show own_Go p.tables e below (T12.setTop (mkF m 118 #[iv p0, iv p1, iv p2, iv p3, iv p4, iv p5, iv x0, iv x1, iv x2, iv x3, iv y0, iv y1, iv y2, iv y3, .unset, .unset, .unset, .unset, .unset, .unset, .unset, .unset] [(.int (((p5.toUInt32 >>> ((4 : Int32) &&& 31).toUInt32).toInt32) &&& (3 : Int32)))])) _
          rw [hk]
          show own_Go p.tables e below (T12.setTop (mkF m 118 #[iv p0, iv p1, iv p2, iv p3, iv p4, iv p5, iv x0, iv x1, iv x2, iv x3, iv y0, iv y1, iv y2, iv y3, .unset, .unset, .unset, .unset, .unset, .unset, .unset, .unset] [(.int kk)])) _
          have sg14 : ∀ t, Steps p.tables e below (T12.setTop (mkF m 120 #[iv p0, iv p1, iv p2, iv p3, iv p4, iv p5, iv x0, iv x1, iv x2, iv x3, iv y0, iv y1, iv y2, iv y3, iv kk, .unset, .unset, .unset, .unset, .unset, .unset, .unset] [])) t → Steps p.tables e below (T12.setTop (mkF m 118 #[iv p0, iv p1, iv p2, iv p3, iv p4, iv p5, iv x0, iv x1, iv x2, iv x3, iv y0, iv y1, iv y2, iv y3, .unset, .unset, .unset, .unset, .unset, .unset, .unset, .unset] [(.int kk)])) t := by
            intro t k
            refine XS.istore X12.here hx rfl (hb hby at_118) rfl (l' := #[iv p0, iv p1, iv p2, iv p3, iv p4, iv p5, iv x0, iv x1, iv x2, iv x3, iv y0, iv y1, iv y2, iv y3, iv kk, .unset, .unset, .unset, .unset, .unset, .unset, .unset]) rfl ?_
            show Steps p.tables e below (T12.setTop (mkF m 120 #[iv p0, iv p1, iv p2, iv p3, iv p4, iv p5, iv x0, iv x1, iv x2, iv x3, iv y0, iv y1, iv y2, iv y3, iv kk, .unset, .unset, .unset, .unset, .unset, .unset, .unset] [])) _
            exact k
          refine own_lift sg14 ?_
          show own_Go p.tables e below (T12.setTop (mkF m 120 #[iv p0, iv p1, iv p2, iv p3, iv p4, iv p5, iv x0, iv x1, iv x2, iv x3, iv y0, iv y1, iv y2, iv y3, iv kk, .unset, .unset, .unset, .unset, .unset, .unset, .unset] [])) _
          obtain ⟨T15, h15, X15, e15, Ex15, Ax15, Dx15, Ux15, st15⟩ := newO X12 hx hZ hown (wd hw 1 rfl) (wd hw 2 rfl) (wd hw 3 rfl) e12 (g := (mkF m 120 #[iv p0, iv p1, iv p2, iv p3, iv p4, iv p5, iv x0, iv x1, iv x2, iv x3, iv y0, iv y1, iv y2, iv y3, iv kk, .unset, .unset, .unset, .unset, .unset, .unset, .unset] [])) rfl (hb hby at_120) (by decide) (by decide)
          obtain ⟨ob15, g15⟩ : ∃ z, z = h0.size := ⟨_, rfl⟩
          rw [← g15] at Ax15 Dx15 Ux15 st15
          have Z15 : n0 ≤ h15.size := Nat.le_trans Z0 Ex15.1
          have ge15 : n0 ≤ ob15 := Nat.le_trans Z0 (Nat.le_of_eq g15.symm)
          have Fn15_14 : Fld Z h15 ob15 "com/example/halyard/halyard/core/mal/TypeId" "area" "I" (.int 0) := Dx15 (Or.inr (wd hw 14 rfl)) (ty := .int) (by decide)
          have Fn15_16 : Fld Z h15 ob15 "com/example/halyard/halyard/core/mal/TypeId" "service" "I" (.int 0) := Dx15 (Or.inr (wd hw 16 rfl)) (ty := .int) (by decide)
          have Fn15_18 : Fld Z h15 ob15 "com/example/halyard/halyard/core/mal/TypeId" "areaVersion" "I" (.int 0) := Dx15 (Or.inr (wd hw 18 rfl)) (ty := .int) (by decide)
          have Fn15_20 : Fld Z h15 ob15 "com/example/halyard/halyard/core/mal/TypeId" "shortFormPart" "I" (.int 0) := Dx15 (Or.inr (wd hw 20 rfl)) (ty := .int) (by decide)
          refine own_lift st15 ?_
          show own_Go p.tables e below (T15.setTop (mkF m 123 #[iv p0, iv p1, iv p2, iv p3, iv p4, iv p5, iv x0, iv x1, iv x2, iv x3, iv y0, iv y1, iv y2, iv y3, iv kk, .unset, .unset, .unset, .unset, .unset, .unset, .unset] [(.ref ob15)])) _
          have sg16 : ∀ t, Steps p.tables e below (T15.setTop (mkF m 132 #[iv p0, iv p1, iv p2, iv p3, iv p4, iv p5, iv x0, iv x1, iv x2, iv x3, iv y0, iv y1, iv y2, iv y3, iv kk, .unset, .unset, .unset, .unset, .unset, .unset, .unset] [(.int x3), (.int x2), (.int x1), (.int x0), (.ref ob15), (.ref ob15)])) t → Steps p.tables e below (T15.setTop (mkF m 123 #[iv p0, iv p1, iv p2, iv p3, iv p4, iv p5, iv x0, iv x1, iv x2, iv x3, iv y0, iv y1, iv y2, iv y3, iv kk, .unset, .unset, .unset, .unset, .unset, .unset, .unset] [(.ref ob15)])) t := by
            intro t k
            refine XS.dup X15.here hx rfl (hb hby at_123) rfl rfl ?_
            show Steps p.tables e below (T15.setTop (mkF m 124 #[iv p0, iv p1, iv p2, iv p3, iv p4, iv p5, iv x0, iv x1, iv x2, iv x3, iv y0, iv y1, iv y2, iv y3, iv kk, .unset, .unset, .unset, .unset, .unset, .unset, .unset] [(.ref ob15), (.ref ob15)])) _
            refine XS.iload X15.here hx rfl (hb hby at_124) rfl ?_
            refine XS.iload X15.here hx rfl (hb hby at_126) rfl ?_
            show Steps p.tables e below (T15.setTop (mkF m 128 #[iv p0, iv p1, iv p2, iv p3, iv p4, iv p5, iv x0, iv x1, iv x2, iv x3, iv y0, iv y1, iv y2, iv y3, iv kk, .unset, .unset, .unset, .unset, .unset, .unset, .unset] [(.int x1), (.int x0), (.ref ob15), (.ref ob15)])) _
            refine XS.iload X15.here hx rfl (hb hby at_128) rfl ?_
            refine XS.iload X15.here hx rfl (hb hby at_130) rfl ?_
            show Steps p.tables e below (T15.setTop (mkF m 132 #[iv p0, iv p1, iv p2, iv p3, iv p4, iv p5, iv x0, iv x1, iv x2, iv x3, iv y0, iv y1, iv y2, iv y3, iv kk, .unset, .unset, .unset, .unset, .unset, .unset, .unset] [(.int x3), (.int x2), (.int x1), (.int x0), (.ref ob15), (.ref ob15)])) _
            exact k
          refine own_lift sg16 ?_
          show own_Go p.tables e below (T15.setTop (mkF m 132 #[iv p0, iv p1, iv p2, iv p3, iv p4, iv p5, iv x0, iv x1, iv x2, iv x3, iv y0, iv y1, iv y2, iv y3, iv kk, .unset, .unset, .unset, .unset, .unset, .unset, .unset] [(.int x3), (.int x2), (.int x1), (.int x0), (.ref ob15), (.ref ob15)])) _
          obtain ⟨_, _, ⟨T17, Lx17, kx17, nx17⟩, -, X17, ⟨Lc17, hQ17, lx17, yx17, zx17⟩, st17⟩ := X15.specialBack hx (y := (⟨"com/example/halyard/halyard/core/mal/TypeId", "<init>", "(IIII)V"⟩ : MethodName)) rfl hown (mvT hZ (wd hw 4 rfl)) (mvT hZ (wd hw 5 rfl)) (mvT hZ (wd hw 6 rfl)) (by decide) (backOf (W := 1) (rmInit l Z a0 hw [] ob15 x0 x1 x2 x3 h15 n0 Z15 Fn15_14 Fn15_16 Fn15_18 Fn15_20 Ax15 ge15 rx0.1 rx0.2 rx1.1 rx1.2 rx2.1 rx2.2 rx3.1 rx3.2) hZ (wd hw 6 rfl) (wd hw 3 rfl) (by decide) (by decide)) (g := (mkF m 132 #[iv p0, iv p1, iv p2, iv p3, iv p4, iv p5, iv x0, iv x1, iv x2, iv x3, iv y0, iv y1, iv y2, iv y3, iv kk, .unset, .unset, .unset, .unset, .unset, .unset, .unset] [(.int x3), (.int x2), (.int x1), (.int x0), (.ref ob15), (.ref ob15)])) rfl (by rw [hml]; rfl) (Steps.refl _) (a := ob15) (argsL := [(.int x0), (.int x1), (.int x2), (.int x3)]) (rest := [(.ref ob15)]) (lenOf pd_0 rfl) rfl (by show 2 * 0 + _ ≤ _; exact Nat.le_of_eq rfl) (hb hby at_132) (fun _ _ => ⟨rfl, e15, (by decide : 1 + 0 ≤ _), (by decide : 4 + 0 ≤ _)⟩)
          dsimp only [Pt.U, Pt.locs, Pt.cells, Pt.slots] at X17 lx17 yx17 zx17 st17 hQ17
          subst lx17 yx17 zx17
          obtain ⟨rfl, N17q, p17_0, p17_1, p17_2, p17_3, p17_4, p17_5⟩ := hQ17
          have N17 := Fr.app N12 N17q
          have Z17 : n0 ≤ T17.heap.size := Nat.le_trans Z15 p17_0.1
          refine own_lift (fun t k => st17.trans k) ?_
          show own_Go p.tables e below (T17.setTop (mkF m 135 #[iv p0, iv p1, iv p2, iv p3, iv p4, iv p5, iv x0, iv x1, iv x2, iv x3, iv y0, iv y1, iv y2, iv y3, iv kk, .unset, .unset, .unset, .unset, .unset, .unset, .unset] [(.ref ob15)])) _
          have sg18 : ∀ t, Steps p.tables e below (T17.setTop (mkF m 137 #[iv p0, iv p1, iv p2, iv p3, iv p4, iv p5, iv x0, iv x1, iv x2, iv x3, iv y0, iv y1, iv y2, iv y3, iv kk, rv ob15, .unset, .unset, .unset, .unset, .unset, .unset] [])) t → Steps p.tables e below (T17.setTop (mkF m 135 #[iv p0, iv p1, iv p2, iv p3, iv p4, iv p5, iv x0, iv x1, iv x2, iv x3, iv y0, iv y1, iv y2, iv y3, iv kk, .unset, .unset, .unset, .unset, .unset, .unset, .unset] [(.ref ob15)])) t := by
            intro t k
            refine XS.astore X17.here hx rfl (hb hby at_135) rfl rfl (l' := #[iv p0, iv p1, iv p2, iv p3, iv p4, iv p5, iv x0, iv x1, iv x2, iv x3, iv y0, iv y1, iv y2, iv y3, iv kk, rv ob15, .unset, .unset, .unset, .unset, .unset, .unset]) rfl ?_
            show Steps p.tables e below (T17.setTop (mkF m 137 #[iv p0, iv p1, iv p2, iv p3, iv p4, iv p5, iv x0, iv x1, iv x2, iv x3, iv y0, iv y1, iv y2, iv y3, iv kk, rv ob15, .unset, .unset, .unset, .unset, .unset, .unset] [])) _
            exact k
          refine own_lift sg18 ?_
          show own_Go p.tables e below (T17.setTop (mkF m 137 #[iv p0, iv p1, iv p2, iv p3, iv p4, iv p5, iv x0, iv x1, iv x2, iv x3, iv y0, iv y1, iv y2, iv y3, iv kk, rv ob15, .unset, .unset, .unset, .unset, .unset, .unset] [])) _
          obtain ⟨T19, h19, X19, e19, Ex19, Ax19, Dx19, Ux19, st19⟩ := newO X17 hx hZ hown (wd hw 1 rfl) (wd hw 2 rfl) (wd hw 3 rfl) rfl (g := (mkF m 137 #[iv p0, iv p1, iv p2, iv p3, iv p4, iv p5, iv x0, iv x1, iv x2, iv x3, iv y0, iv y1, iv y2, iv y3, iv kk, rv ob15, .unset, .unset, .unset, .unset, .unset, .unset] [])) rfl (hb hby at_137) (by decide) (by decide)
          obtain ⟨ob19, g19⟩ : ∃ z, z = T17.heap.size := ⟨_, rfl⟩
          rw [← g19] at Ax19 Dx19 Ux19 st19
          have ne20 : ob15 ≠ ob19 := Nat.ne_of_lt (Nat.lt_of_lt_of_le p17_1.lt (Nat.le_of_eq g19.symm))
          have Z19 : n0 ≤ h19.size := Nat.le_trans Z17 Ex19.1
          have ge19 : n0 ≤ ob19 := Nat.le_trans Z17 (Nat.le_of_eq g19.symm)
          have Fn19_14 : Fld Z h19 ob19 "com/example/halyard/halyard/core/mal/TypeId" "area" "I" (.int 0) := Dx19 (Or.inr (wd hw 14 rfl)) (ty := .int) (by decide)
          have Fn19_16 : Fld Z h19 ob19 "com/example/halyard/halyard/core/mal/TypeId" "service" "I" (.int 0) := Dx19 (Or.inr (wd hw 16 rfl)) (ty := .int) (by decide)
          have Fn19_18 : Fld Z h19 ob19 "com/example/halyard/halyard/core/mal/TypeId" "areaVersion" "I" (.int 0) := Dx19 (Or.inr (wd hw 18 rfl)) (ty := .int) (by decide)
          have Fn19_20 : Fld Z h19 ob19 "com/example/halyard/halyard/core/mal/TypeId" "shortFormPart" "I" (.int 0) := Dx19 (Or.inr (wd hw 20 rfl)) (ty := .int) (by decide)
          refine own_lift st19 ?_
          show own_Go p.tables e below (T19.setTop (mkF m 140 #[iv p0, iv p1, iv p2, iv p3, iv p4, iv p5, iv x0, iv x1, iv x2, iv x3, iv y0, iv y1, iv y2, iv y3, iv kk, rv ob15, .unset, .unset, .unset, .unset, .unset, .unset] [(.ref ob19)])) _
          have sg21 : ∀ t, Steps p.tables e below (T19.setTop (mkF m 149 #[iv p0, iv p1, iv p2, iv p3, iv p4, iv p5, iv x0, iv x1, iv x2, iv x3, iv y0, iv y1, iv y2, iv y3, iv kk, rv ob15, .unset, .unset, .unset, .unset, .unset, .unset] [(.int y3), (.int y2), (.int y1), (.int y0), (.ref ob19), (.ref ob19)])) t → Steps p.tables e below (T19.setTop (mkF m 140 #[iv p0, iv p1, iv p2, iv p3, iv p4, iv p5, iv x0, iv x1, iv x2, iv x3, iv y0, iv y1, iv y2, iv y3, iv kk, rv ob15, .unset, .unset, .unset, .unset, .unset, .unset] [(.ref ob19)])) t := by
            intro t k
            refine XS.dup X19.here hx rfl (hb hby at_140) rfl rfl ?_
            show Steps p.tables e below (T19.setTop (mkF m 141 #[iv p0, iv p1, iv p2, iv p3, iv p4, iv p5, iv x0, iv x1, iv x2, iv x3, iv y0, iv y1, iv y2, iv y3, iv kk, rv ob15, .unset, .unset, .unset, .unset, .unset, .unset] [(.ref ob19), (.ref ob19)])) _
            refine XS.iload X19.here hx rfl (hb hby at_141) rfl ?_
            refine XS.iload X19.here hx rfl (hb hby at_143) rfl ?_
            show Steps p.tables e below (T19.setTop (mkF m 145 #[iv p0, iv p1, iv p2, iv p3, iv p4, iv p5, iv x0, iv x1, iv x2, iv x3, iv y0, iv y1, iv y2, iv y3, iv kk, rv ob15, .unset, .unset, .unset, .unset, .unset, .unset] [(.int y1), (.int y0), (.ref ob19), (.ref ob19)])) _
            refine XS.iload X19.here hx rfl (hb hby at_145) rfl ?_
            refine XS.iload X19.here hx rfl (hb hby at_147) rfl ?_
            show Steps p.tables e below (T19.setTop (mkF m 149 #[iv p0, iv p1, iv p2, iv p3, iv p4, iv p5, iv x0, iv x1, iv x2, iv x3, iv y0, iv y1, iv y2, iv y3, iv kk, rv ob15, .unset, .unset, .unset, .unset, .unset, .unset] [(.int y3), (.int y2), (.int y1), (.int y0), (.ref ob19), (.ref ob19)])) _
            exact k
          refine own_lift sg21 ?_
          show own_Go p.tables e below (T19.setTop (mkF m 149 #[iv p0, iv p1, iv p2, iv p3, iv p4, iv p5, iv x0, iv x1, iv x2, iv x3, iv y0, iv y1, iv y2, iv y3, iv kk, rv ob15, .unset, .unset, .unset, .unset, .unset, .unset] [(.int y3), (.int y2), (.int y1), (.int y0), (.ref ob19), (.ref ob19)])) _
          obtain ⟨_, _, ⟨T22, Lx22, kx22, nx22⟩, -, X22, ⟨Lc22, hQ22, lx22, yx22, zx22⟩, st22⟩ := X19.specialBack hx (y := (⟨"com/example/halyard/halyard/core/mal/TypeId", "<init>", "(IIII)V"⟩ : MethodName)) rfl hown (mvT hZ (wd hw 4 rfl)) (mvT hZ (wd hw 5 rfl)) (mvT hZ (wd hw 6 rfl)) (by decide) (backOf (W := 1) (rmInit l Z a0 hw [] ob19 y0 y1 y2 y3 h19 n0 Z19 Fn19_14 Fn19_16 Fn19_18 Fn19_20 Ax19 ge19 ry0.1 ry0.2 ry1.1 ry1.2 ry2.1 ry2.2 ry3.1 ry3.2) hZ (wd hw 6 rfl) (wd hw 3 rfl) (by decide) (by decide)) (g := (mkF m 149 #[iv p0, iv p1, iv p2, iv p3, iv p4, iv p5, iv x0, iv x1, iv x2, iv x3, iv y0, iv y1, iv y2, iv y3, iv kk, rv ob15, .unset, .unset, .unset, .unset, .unset, .unset] [(.int y3), (.int y2), (.int y1), (.int y0), (.ref ob19), (.ref ob19)])) rfl (by rw [hml]; rfl) (Steps.refl _) (a := ob19) (argsL := [(.int y0), (.int y1), (.int y2), (.int y3)]) (rest := [(.ref ob19)]) (lenOf pd_0 rfl) rfl (by show 2 * 0 + _ ≤ _; exact Nat.le_of_eq rfl) (hb hby at_149) (fun _ _ => ⟨rfl, e19, (by decide : 2 + 0 ≤ _), (by decide : 8 + 0 ≤ _)⟩)
          dsimp only [Pt.U, Pt.locs, Pt.cells, Pt.slots] at X22 lx22 yx22 zx22 st22 hQ22
          subst lx22 yx22 zx22
          obtain ⟨rfl, N22q, p22_0, p22_1, p22_2, p22_3, p22_4, p22_5⟩ := hQ22
          have N22 := Fr.app N17 N22q
          have Z22 : n0 ≤ T22.heap.size := Nat.le_trans Z19 p22_0.1
          refine own_lift (fun t k => st22.trans k) ?_
          show own_Go p.tables e below (T22.setTop (mkF m 152 #[iv p0, iv p1, iv p2, iv p3, iv p4, iv p5, iv x0, iv x1, iv x2, iv x3, iv y0, iv y1, iv y2, iv y3, iv kk, rv ob15, .unset, .unset, .unset, .unset, .unset, .unset] [(.ref ob19)])) _
          have sg23 : ∀ t, Steps p.tables e below (T22.setTop (mkF m 155 #[iv p0, iv p1, iv p2, iv p3, iv p4, iv p5, iv x0, iv x1, iv x2, iv x3, iv y0, iv y1, iv y2, iv y3, iv kk, rv ob15, rv ob19, .unset, .unset, .unset, .unset, .unset] [(.int 2)])) t → Steps p.tables e below (T22.setTop (mkF m 152 #[iv p0, iv p1, iv p2, iv p3, iv p4, iv p5, iv x0, iv x1, iv x2, iv x3, iv y0, iv y1, iv y2, iv y3, iv kk, rv ob15, .unset, .unset, .unset, .unset, .unset, .unset] [(.ref ob19)])) t := by
            intro t k
            refine XS.astore X22.here hx rfl (hb hby at_152) rfl rfl (l' := #[iv p0, iv p1, iv p2, iv p3, iv p4, iv p5, iv x0, iv x1, iv x2, iv x3, iv y0, iv y1, iv y2, iv y3, iv kk, rv ob15, rv ob19, .unset, .unset, .unset, .unset, .unset]) rfl ?_
            show Steps p.tables e below (T22.setTop (mkF m 154 #[iv p0, iv p1, iv p2, iv p3, iv p4, iv p5, iv x0, iv x1, iv x2, iv x3, iv y0, iv y1, iv y2, iv y3, iv kk, rv ob15, rv ob19, .unset, .unset, .unset, .unset, .unset] [])) _
            refine XS.iconst X22.here hx rfl (hb hby at_154) ?_
            show Steps p.tables e below (T22.setTop (mkF m 155 #[iv p0, iv p1, iv p2, iv p3, iv p4, iv p5, iv x0, iv x1, iv x2, iv x3, iv y0, iv y1, iv y2, iv y3, iv kk, rv ob15, rv ob19, .unset, .unset, .unset, .unset, .unset] [(.int 2)])) _
            exact k
          refine own_lift sg23 ?_
          show own_Go p.tables e below (T22.setTop (mkF m 155 #[iv p0, iv p1, iv p2, iv p3, iv p4, iv p5, iv x0, iv x1, iv x2, iv x3, iv y0, iv y1, iv y2, iv y3, iv kk, rv ob15, rv ob19, .unset, .unset, .unset, .unset, .unset] [(.int 2)])) _
          obtain ⟨T24, h24, ka24, X24, e24, Ex24, Ax24, st24⟩ := newP X22 hx hZ (wd hw 21 rfl) rfl (g := (mkF m 155 #[iv p0, iv p1, iv p2, iv p3, iv p4, iv p5, iv x0, iv x1, iv x2, iv x3, iv y0, iv y1, iv y2, iv y3, iv kk, rv ob15, rv ob19, .unset, .unset, .unset, .unset, .unset] [(.int 2)])) rfl (hb hby at_155) rfl (by decide) (cap := 2) (by decide) (by decide) (by decide) (by decide)
          obtain ⟨ob24, g24⟩ : ∃ z, z = T22.heap.size := ⟨_, rfl⟩
          rw [← g24] at Ax24 st24
          have Fc25 : Exa Z T22.heap ob15 "com/example/halyard/halyard/core/mal/TypeId" := ((p17_1.ext Ex19).keep p22_0)
          have ne26 : ob15 ≠ ob24 := Nat.ne_of_lt (Nat.lt_of_lt_of_le Fc25.lt (Nat.le_of_eq g24.symm))
          have ne27 : ob19 ≠ ob24 := Nat.ne_of_lt (Nat.lt_of_lt_of_le p22_1.lt (Nat.le_of_eq g24.symm))
          have Z24 : n0 ≤ h24.size := Nat.le_trans Z22 Ex24.1
          have ge24 : n0 ≤ ob24 := Nat.le_trans Z22 (Nat.le_of_eq g24.symm)
          have Vn24 : Arv Z h24 ob24 ka24 .char (2 : Int32) [(.int 0), (.int 0)] (.int 0) := (Arv.new Ax24 (by decide)).pad (pad_rep [] (.int 0) 2)
          refine own_lift st24 ?_
          show own_Go p.tables e below (T24.setTop (mkF m 157 #[iv p0, iv p1, iv p2, iv p3, iv p4, iv p5, iv x0, iv x1, iv x2, iv x3, iv y0, iv y1, iv y2, iv y3, iv kk, rv ob15, rv ob19, .unset, .unset, .unset, .unset, .unset] [(.ref ob24)])) _
          have sg28 : ∀ t, Steps p.tables e below (T24.setTop (mkF m 169 #[iv p0, iv p1, iv p2, iv p3, iv p4, iv p5, iv x0, iv x1, iv x2, iv x3, iv y0, iv y1, iv y2, iv y3, iv kk, rv ob15, rv ob19, rv ob24, .unset, .unset, .unset, .unset] [(.int ((p4 &&& (255 : Int32)).toUInt32.toUInt16.toUInt32.toInt32)), (.int 0), (.ref ob24)])) t → Steps p.tables e below (T24.setTop (mkF m 157 #[iv p0, iv p1, iv p2, iv p3, iv p4, iv p5, iv x0, iv x1, iv x2, iv x3, iv y0, iv y1, iv y2, iv y3, iv kk, rv ob15, rv ob19, .unset, .unset, .unset, .unset, .unset] [(.ref ob24)])) t := by
            intro t k
            refine XS.astore X24.here hx rfl (hb hby at_157) rfl rfl (l' := #[iv p0, iv p1, iv p2, iv p3, iv p4, iv p5, iv x0, iv x1, iv x2, iv x3, iv y0, iv y1, iv y2, iv y3, iv kk, rv ob15, rv ob19, rv ob24, .unset, .unset, .unset, .unset]) rfl ?_
            show Steps p.tables e below (T24.setTop (mkF m 159 #[iv p0, iv p1, iv p2, iv p3, iv p4, iv p5, iv x0, iv x1, iv x2, iv x3, iv y0, iv y1, iv y2, iv y3, iv kk, rv ob15, rv ob19, rv ob24, .unset, .unset, .unset, .unset] [])) _
            refine XS.aload X24.here hx rfl (hb hby at_159) rfl rfl ?_
            refine XS.iconst X24.here hx rfl (hb hby at_161) ?_
            show Steps p.tables e below (T24.setTop (mkF m 162 #[iv p0, iv p1, iv p2, iv p3, iv p4, iv p5, iv x0, iv x1, iv x2, iv x3, iv y0, iv y1, iv y2, iv y3, iv kk, rv ob15, rv ob19, rv ob24, .unset, .unset, .unset, .unset] [(.int 0), (.ref ob24)])) _
            refine XS.iload X24.here hx rfl (hb hby at_162) rfl ?_
            refine XS.sipush X24.here hx rfl (hb hby at_164) ?_
            show Steps p.tables e below (T24.setTop (mkF m 167 #[iv p0, iv p1, iv p2, iv p3, iv p4, iv p5, iv x0, iv x1, iv x2, iv x3, iv y0, iv y1, iv y2, iv y3, iv kk, rv ob15, rv ob19, rv ob24, .unset, .unset, .unset, .unset] [(.int 255), (.int p4), (.int 0), (.ref ob24)])) _
            refine XS.iand X24.here hx rfl (hb hby at_167) rfl ?_
            refine XS.i2c X24.here hx rfl (hb hby at_168) rfl ?_
            show Steps p.tables e below (T24.setTop (mkF m 169 #[iv p0, iv p1, iv p2, iv p3, iv p4, iv p5, iv x0, iv x1, iv x2, iv x3, iv y0, iv y1, iv y2, iv y3, iv kk, rv ob15, rv ob19, rv ob24, .unset, .unset, .unset, .unset] [(.int ((p4 &&& (255 : Int32)).toUInt32.toUInt16.toUInt32.toInt32)), (.int 0), (.ref ob24)])) _
            exact k
          refine own_lift sg28 ?_
          show own_Go p.tables e below (T24.setTop (mkF m 169 #[iv p0, iv p1, iv p2, iv p3, iv p4, iv p5, iv x0, iv x1, iv x2, iv x3, iv y0, iv y1, iv y2, iv y3, iv kk, rv ob15, rv ob19, rv ob24, .unset, .unset, .unset, .unset] [(.int ((p4 &&& (255 : Int32)).toUInt32.toUInt16.toUInt32.toInt32)), (.int 0), (.ref ob24)])) _
          obtain ⟨cl29, Ar29, qx29, Sx29, N29', H29', G29'⟩ := id (Vn24)
          have hin29 : ¬ ((0 : Int32) < 0 ∨ cl29.slots.size ≤ ((0 : Int32)).toNatClampNeg) := inb_of Sx29 ⟨(by decide : ¬ ((0 : Int32) < (0 : Int32))), (by decide : (0 : Int32) < (2 : Int32))⟩
          obtain ⟨T30, h30, X30, e30, W30, st30⟩ := stC X24 hx hZ e24 Ar29 (j := (0 : Int32)) hin29 (g := (mkF m 169 #[iv p0, iv p1, iv p2, iv p3, iv p4, iv p5, iv x0, iv x1, iv x2, iv x3, iv y0, iv y1, iv y2, iv y3, iv kk, rv ob15, rv ob19, rv ob24, .unset, .unset, .unset, .unset] [(.int ((p4 &&& (255 : Int32)).toUInt32.toUInt16.toUInt32.toInt32)), (.int 0), (.ref ob24)])) rfl rfl (hb hby at_169)
          have N30 := Fr.snoc X30 N22 ge24
          have Z30 : n0 ≤ h30.size := Nat.le_trans Z24 (Nat.le_of_eq W30.size.symm)
          have Vn30 : Arv Z h30 ob24 ka24 .char (2 : Int32) [(.int (nar .char ((p4 &&& (255 : Int32)).toUInt32.toUInt16.toUInt32.toInt32))), (.int 0)] (.int 0) := Arv.set Ar29 qx29 Sx29 N29' H29' G29' (fits_nar_char _) W30 0 rfl (Nat.le_of_ble_eq_true rfl)
          refine own_lift st30 ?_
          show own_Go p.tables e below (T30.setTop (mkF m 170 #[iv p0, iv p1, iv p2, iv p3, iv p4, iv p5, iv x0, iv x1, iv x2, iv x3, iv y0, iv y1, iv y2, iv y3, iv kk, rv ob15, rv ob19, rv ob24, .unset, .unset, .unset, .unset] [])) _
          have sg31 : ∀ t, Steps p.tables e below (T30.setTop (mkF m 183 #[iv p0, iv p1, iv p2, iv p3, iv p4, iv p5, iv x0, iv x1, iv x2, iv x3, iv y0, iv y1, iv y2, iv y3, iv kk, rv ob15, rv ob19, rv ob24, .unset, .unset, .unset, .unset] [(.int ((((p4.toUInt32 >>> ((8 : Int32) &&& 31).toUInt32).toInt32) &&& (255 : Int32)).toUInt32.toUInt16.toUInt32.toInt32)), (.int 1), (.ref ob24)])) t → Steps p.tables e below (T30.setTop (mkF m 170 #[iv p0, iv p1, iv p2, iv p3, iv p4, iv p5, iv x0, iv x1, iv x2, iv x3, iv y0, iv y1, iv y2, iv y3, iv kk, rv ob15, rv ob19, rv ob24, .unset, .unset, .unset, .unset] [])) t := by
            intro t k
            refine XS.aload X30.here hx rfl (hb hby at_170) rfl rfl ?_
            show Steps p.tables e below (T30.setTop (mkF m 172 #[iv p0, iv p1, iv p2, iv p3, iv p4, iv p5, iv x0, iv x1, iv x2, iv x3, iv y0, iv y1, iv y2, iv y3, iv kk, rv ob15, rv ob19, rv ob24, .unset, .unset, .unset, .unset] [(.ref ob24)])) _
            refine XS.iconst X30.here hx rfl (hb hby at_172) ?_
            refine XS.iload X30.here hx rfl (hb hby at_173) rfl ?_
            show Steps p.tables e below (T30.setTop (mkF m 175 #[iv p0, iv p1, iv p2, iv p3, iv p4, iv p5, iv x0, iv x1, iv x2, iv x3, iv y0, iv y1, iv y2, iv y3, iv kk, rv ob15, rv ob19, rv ob24, .unset, .unset, .unset, .unset] [(.int p4), (.int 1), (.ref ob24)])) _
            refine XS.bipush X30.here hx rfl (hb hby at_175) ?_
            refine XS.iushr X30.here hx rfl (hb hby at_177) rfl ?_
            show Steps p.tables e below (T30.setTop (mkF m 178 #[iv p0, iv p1, iv p2, iv p3, iv p4, iv p5, iv x0, iv x1, iv x2, iv x3, iv y0, iv y1, iv y2, iv y3, iv kk, rv ob15, rv ob19, rv ob24, .unset, .unset, .unset, .unset] [(.int ((p4.toUInt32 >>> ((8 : Int32) &&& 31).toUInt32).toInt32)), (.int 1), (.ref ob24)])) _
            refine XS.sipush X30.here hx rfl (hb hby at_178) ?_
            refine XS.iand X30.here hx rfl (hb hby at_181) rfl ?_
            show Steps p.tables e below (T30.setTop (mkF m 182 #[iv p0, iv p1, iv p2, iv p3, iv p4, iv p5, iv x0, iv x1, iv x2, iv x3, iv y0, iv y1, iv y2, iv y3, iv kk, rv ob15, rv ob19, rv ob24, .unset, .unset, .unset, .unset] [(.int (((p4.toUInt32 >>> ((8 : Int32) &&& 31).toUInt32).toInt32) &&& (255 : Int32))), (.int 1), (.ref ob24)])) _
            refine XS.i2c X30.here hx rfl (hb hby at_182) rfl ?_
            show Steps p.tables e below (T30.setTop (mkF m 183 #[iv p0, iv p1, iv p2, iv p3, iv p4, iv p5, iv x0, iv x1, iv x2, iv x3, iv y0, iv y1, iv y2, iv y3, iv kk, rv ob15, rv ob19, rv ob24, .unset, .unset, .unset, .unset] [(.int ((((p4.toUInt32 >>> ((8 : Int32) &&& 31).toUInt32).toInt32) &&& (255 : Int32)).toUInt32.toUInt16.toUInt32.toInt32)), (.int 1), (.ref ob24)])) _
            exact k
          refine own_lift sg31 ?_
          show own_Go p.tables e below (T30.setTop (mkF m 183 #[iv p0, iv p1, iv p2, iv p3, iv p4, iv p5, iv x0, iv x1, iv x2, iv x3, iv y0, iv y1, iv y2, iv y3, iv kk, rv ob15, rv ob19, rv ob24, .unset, .unset, .unset, .unset] [(.int ((((p4.toUInt32 >>> ((8 : Int32) &&& 31).toUInt32).toInt32) &&& (255 : Int32)).toUInt32.toUInt16.toUInt32.toInt32)), (.int 1), (.ref ob24)])) _
          obtain ⟨cl32, Ar32, qx32, Sx32, N32', H32', G32'⟩ := id (Vn30)
          have hin32 : ¬ ((1 : Int32) < 0 ∨ cl32.slots.size ≤ ((1 : Int32)).toNatClampNeg) := inb_of Sx32 ⟨(by decide : ¬ ((1 : Int32) < (0 : Int32))), (by decide : (1 : Int32) < (2 : Int32))⟩
          obtain ⟨T33, h33, X33, e33, W33, st33⟩ := stC X30 hx hZ e30 Ar32 (j := (1 : Int32)) hin32 (g := (mkF m 183 #[iv p0, iv p1, iv p2, iv p3, iv p4, iv p5, iv x0, iv x1, iv x2, iv x3, iv y0, iv y1, iv y2, iv y3, iv kk, rv ob15, rv ob19, rv ob24, .unset, .unset, .unset, .unset] [(.int ((((p4.toUInt32 >>> ((8 : Int32) &&& 31).toUInt32).toInt32) &&& (255 : Int32)).toUInt32.toUInt16.toUInt32.toInt32)), (.int 1), (.ref ob24)])) rfl rfl (hb hby at_183)
          have N33 := Fr.snoc X33 N30 ge24
          have Z33 : n0 ≤ h33.size := Nat.le_trans Z30 (Nat.le_of_eq W33.size.symm)
          have Vn33 : Arv Z h33 ob24 ka24 .char (2 : Int32) [(.int (nar .char ((p4 &&& (255 : Int32)).toUInt32.toUInt16.toUInt32.toInt32))), (.int (nar .char ((((p4.toUInt32 >>> ((8 : Int32) &&& 31).toUInt32).toInt32) &&& (255 : Int32)).toUInt32.toUInt16.toUInt32.toInt32)))] (.int 0) := Arv.set Ar32 qx32 Sx32 N32' H32' G32' (fits_nar_char _) W33 1 rfl (Nat.le_of_ble_eq_true rfl)
          refine own_lift st33 ?_
          show own_Go p.tables e below (T33.setTop (mkF m 184 #[iv p0, iv p1, iv p2, iv p3, iv p4, iv p5, iv x0, iv x1, iv x2, iv x3, iv y0, iv y1, iv y2, iv y3, iv kk, rv ob15, rv ob19, rv ob24, .unset, .unset, .unset, .unset] [])) _
          obtain ⟨T34, h34, X34, e34, Ex34, Ax34, Dx34, Ux34, st34⟩ := newO X33 hx hZ hown (wd hw 22 rfl) (wd hw 23 rfl) (wd hw 24 rfl) e33 (g := (mkF m 184 #[iv p0, iv p1, iv p2, iv p3, iv p4, iv p5, iv x0, iv x1, iv x2, iv x3, iv y0, iv y1, iv y2, iv y3, iv kk, rv ob15, rv ob19, rv ob24, .unset, .unset, .unset, .unset] [])) rfl (hb hby at_184) (by decide) (by decide)
          obtain ⟨ob34, g34⟩ : ∃ z, z = h33.size := ⟨_, rfl⟩
          rw [← g34] at Ax34 Dx34 Ux34 st34
          have Fc35 : Exa Z h33 ob15 "com/example/halyard/halyard/core/mal/TypeId" := (((Fc25.ext Ex24).wr W30).wr W33)
          have ne36 : ob15 ≠ ob34 := Nat.ne_of_lt (Nat.lt_of_lt_of_le Fc35.lt (Nat.le_of_eq g34.symm))
          have Fc37 : Exa Z h33 ob19 "com/example/halyard/halyard/core/mal/TypeId" := (((p22_1.ext Ex24).wr W30).wr W33)
          have ne38 : ob19 ≠ ob34 := Nat.ne_of_lt (Nat.lt_of_lt_of_le Fc37.lt (Nat.le_of_eq g34.symm))
          have ne39 : ob24 ≠ ob34 := Nat.ne_of_lt (Nat.lt_of_lt_of_le Vn33.lt (Nat.le_of_eq g34.symm))
          have Z34 : n0 ≤ h34.size := Nat.le_trans Z33 Ex34.1
          have ge34 : n0 ≤ ob34 := Nat.le_trans Z33 (Nat.le_of_eq g34.symm)
          have Fn34_46 : Fld Z h34 ob34 "java/lang/String" "coder" "B" (.int 0) := Dx34 (Or.inr (wd hw 46 rfl)) (ty := .byte) (by decide)
          have Fn34_48 : Fld Z h34 ob34 "java/lang/String" "value" "[B" .null := Dx34 (Or.inr (wd hw 48 rfl)) (ty := (.array .byte)) (by decide)
          refine own_lift st34 ?_
          show own_Go p.tables e below (T34.setTop (mkF m 187 #[iv p0, iv p1, iv p2, iv p3, iv p4, iv p5, iv x0, iv x1, iv x2, iv x3, iv y0, iv y1, iv y2, iv y3, iv kk, rv ob15, rv ob19, rv ob24, .unset, .unset, .unset, .unset] [(.ref ob34)])) _
          have sg40 : ∀ t, Steps p.tables e below (T34.setTop (mkF m 190 #[iv p0, iv p1, iv p2, iv p3, iv p4, iv p5, iv x0, iv x1, iv x2, iv x3, iv y0, iv y1, iv y2, iv y3, iv kk, rv ob15, rv ob19, rv ob24, .unset, .unset, .unset, .unset] [(.ref ob24), (.ref ob34), (.ref ob34)])) t → Steps p.tables e below (T34.setTop (mkF m 187 #[iv p0, iv p1, iv p2, iv p3, iv p4, iv p5, iv x0, iv x1, iv x2, iv x3, iv y0, iv y1, iv y2, iv y3, iv kk, rv ob15, rv ob19, rv ob24, .unset, .unset, .unset, .unset] [(.ref ob34)])) t := by
            intro t k
            refine XS.dup X34.here hx rfl (hb hby at_187) rfl rfl ?_
            show Steps p.tables e below (T34.setTop (mkF m 188 #[iv p0, iv p1, iv p2, iv p3, iv p4, iv p5, iv x0, iv x1, iv x2, iv x3, iv y0, iv y1, iv y2, iv y3, iv kk, rv ob15, rv ob19, rv ob24, .unset, .unset, .unset, .unset] [(.ref ob34), (.ref ob34)])) _
            refine XS.aload X34.here hx rfl (hb hby at_188) rfl rfl ?_
            show Steps p.tables e below (T34.setTop (mkF m 190 #[iv p0, iv p1, iv p2, iv p3, iv p4, iv p5, iv x0, iv x1, iv x2, iv x3, iv y0, iv y1, iv y2, iv y3, iv kk, rv ob15, rv ob19, rv ob24, .unset, .unset, .unset, .unset] [(.ref ob24), (.ref ob34), (.ref ob34)])) _
            exact k
          refine own_lift sg40 ?_
          show own_Go p.tables e below (T34.setTop (mkF m 190 #[iv p0, iv p1, iv p2, iv p3, iv p4, iv p5, iv x0, iv x1, iv x2, iv x3, iv y0, iv y1, iv y2, iv y3, iv kk, rv ob15, rv ob19, rv ob24, .unset, .unset, .unset, .unset] [(.ref ob24), (.ref ob34), (.ref ob34)])) _
          have Fc41 : Arv Z h34 ob24 ka24 .char (2 : Int32) [(.int (nar .char ((p4 &&& (255 : Int32)).toUInt32.toUInt16.toUInt32.toInt32))), (.int (nar .char ((((p4.toUInt32 >>> ((8 : Int32) &&& 31).toUInt32).toInt32) &&& (255 : Int32)).toUInt32.toUInt16.toUInt32.toInt32)))] (.int 0) := (Vn33.ext Ex34)
          have Fc42 : Sta Z h34 "java/lang/String" "COMPACT_STRINGS" "Z" (.int cs) := (((((own_Sta_keep ((own_Sta_keep (S_cs.ext Ex15) p17_0 (allS (own_plain Ax15) all0)).ext Ex19) p22_0 (allS (own_plain Ax19) all0)).ext Ex24).wr W30).wr W33).ext Ex34)
          have hws43 : ∀ d ∈ StrChars.Road.words, d.before a0 Z = true := fun d hd => hw d (own_words d hd)
          have hlat43 : ∀ c ∈ [(nar .char ((p4 &&& (255 : Int32)).toUInt32.toUInt16.toUInt32.toInt32)), (nar .char ((((p4.toUInt32 >>> ((8 : Int32) &&& 31).toUInt32).toInt32) &&& (255 : Int32)).toUInt32.toUInt16.toUInt32.toInt32))], ¬ c < 0 ∧ ¬ (255 : Int32) < c := own_lat p4
          obtain ⟨_, _, ⟨T43, Lx43, kx43, nx43⟩, -, X43, ⟨Lc43, hQ43, lx43, yx43, zx43⟩, st43⟩ := X34.specialBack hx (y := (⟨"java/lang/String", "<init>", "([C)V"⟩ : MethodName)) rfl hown (mvT hZ (wd hw 25 rfl)) (mvT hZ (wd hw 26 rfl)) (mvT hZ (wd hw 27 rfl)) (by decide) (StrChars.Road.backV (W := 1) hZ hws43 (kI := 4) (wd hw 23 rfl) (cs := [(nar .char ((p4 &&& (255 : Int32)).toUInt32.toUInt16.toUInt32.toInt32)), (nar .char ((((p4.toUInt32 >>> ((8 : Int32) &&& 31).toUInt32).toInt32) &&& (255 : Int32)).toUInt32.toUInt16.toUInt32.toInt32))]) (bs := [((nar .char ((p4 &&& (255 : Int32)).toUInt32.toUInt16.toUInt32.toInt32))).toInt8.toInt32, ((nar .char ((((p4.toUInt32 >>> ((8 : Int32) &&& 31).toUInt32).toInt32) &&& (255 : Int32)).toUInt32.toUInt16.toUInt32.toInt32))).toInt8.toInt32]) (n := 2) ge34 Z34 Ax34 Fn34_48 Fn34_46 Fc41 Fc42 P_cs rfl rfl (by decide) (by decide) hlat43 rfl (by decide) (by decide)) (g := (mkF m 190 #[iv p0, iv p1, iv p2, iv p3, iv p4, iv p5, iv x0, iv x1, iv x2, iv x3, iv y0, iv y1, iv y2, iv y3, iv kk, rv ob15, rv ob19, rv ob24, .unset, .unset, .unset, .unset] [(.ref ob24), (.ref ob34), (.ref ob34)])) rfl (by rw [hml]; rfl) (Steps.refl _) (a := ob34) (argsL := [(.ref ob24)]) (rest := [(.ref ob34)]) (lenOf pd_1 rfl) rfl (by show 2 * 0 + _ ≤ _; exact Nat.le_of_eq rfl) (hb hby at_190) (fun _ _ => ⟨rfl, e34, (by decide : 4 + 1 ≤ _), (by decide : 14 + 2 ≤ _)⟩)
          dsimp only [Pt.U, Pt.locs, Pt.cells, Pt.slots] at X43 lx43 yx43 zx43 st43 hQ43
          subst lx43 yx43 zx43
          obtain ⟨rfl, N43q, Kq43, Eq43, Cq43, tb43, kb43, gt43, gh43, nt43, Vq43, Aq43⟩ := hQ43
          have N43 := Fr.app N33 N43q
          have Fc44 : Exa Z h34 ob15 "com/example/halyard/halyard/core/mal/TypeId" := (Fc35.ext Ex34)
          have ne45 : ob15 ≠ tb43 := Nat.ne_of_lt (Nat.lt_of_lt_of_le Fc44.lt gh43)
          have Fc46 : Exa Z h34 ob19 "com/example/halyard/halyard/core/mal/TypeId" := (Fc37.ext Ex34)
          have ne47 : ob19 ≠ tb43 := Nat.ne_of_lt (Nat.lt_of_lt_of_le Fc46.lt gh43)
          have ne48 : ob24 ≠ tb43 := Nat.ne_of_lt (Nat.lt_of_lt_of_le Fc41.lt gh43)
          have ne49 : ob34 ≠ tb43 := Nat.ne_of_lt (Nat.lt_of_lt_of_le Ax34.lt gh43)
          have Z43 : n0 ≤ T43.heap.size := Nat.le_trans Z34 Kq43.1
          refine own_lift (fun t k => st43.trans k) ?_
          show own_Go p.tables e below (T43.setTop (mkF m 193 #[iv p0, iv p1, iv p2, iv p3, iv p4, iv p5, iv x0, iv x1, iv x2, iv x3, iv y0, iv y1, iv y2, iv y3, iv kk, rv ob15, rv ob19, rv ob24, .unset, .unset, .unset, .unset] [(.ref ob34)])) _
          have sg50 : ∀ t, Steps p.tables e below (T43.setTop (mkF m 269 #[iv p0, iv p1, iv p2, iv p3, iv p4, iv p5, iv x0, iv x1, iv x2, iv x3, iv y0, iv y1, iv y2, iv y3, iv kk, rv ob15, rv ob19, rv ob24, rv ob34, rv ob19, iv 0, .unset] [(.ref ob19), (.ref ob15)])) t → Steps p.tables e below (T43.setTop (mkF m 193 #[iv p0, iv p1, iv p2, iv p3, iv p4, iv p5, iv x0, iv x1, iv x2, iv x3, iv y0, iv y1, iv y2, iv y3, iv kk, rv ob15, rv ob19, rv ob24, .unset, .unset, .unset, .unset] [(.ref ob34)])) t := by
            intro t k
            refine XS.astore X43.here hx rfl (hb hby at_193) rfl rfl (l' := #[iv p0, iv p1, iv p2, iv p3, iv p4, iv p5, iv x0, iv x1, iv x2, iv x3, iv y0, iv y1, iv y2, iv y3, iv kk, rv ob15, rv ob19, rv ob24, rv ob34, .unset, .unset, .unset]) rfl ?_
            show Steps p.tables e below (T43.setTop (mkF m 195 #[iv p0, iv p1, iv p2, iv p3, iv p4, iv p5, iv x0, iv x1, iv x2, iv x3, iv y0, iv y1, iv y2, iv y3, iv kk, rv ob15, rv ob19, rv ob24, rv ob34, .unset, .unset, .unset] [])) _
            refine XS.iload X43.here hx rfl (hb hby at_195) rfl ?_
            refine XS.iconst X43.here hx rfl (hb hby at_197) ?_
            show Steps p.tables e below (T43.setTop (mkF m 198 #[iv p0, iv p1, iv p2, iv p3, iv p4, iv p5, iv x0, iv x1, iv x2, iv x3, iv y0, iv y1, iv y2, iv y3, iv kk, rv ob15, rv ob19, rv ob24, rv ob34, .unset, .unset, .unset] [(.int 2), (.int kk)])) _
            refine XS.icmpNo X43.here hx rfl (hb hby at_198) rfl (tlt k2).2.1 ?_
            refine XS.aload X43.here hx rfl (hb hby at_201) rfl rfl ?_
            show Steps p.tables e below (T43.setTop (mkF m 203 #[iv p0, iv p1, iv p2, iv p3, iv p4, iv p5, iv x0, iv x1, iv x2, iv x3, iv y0, iv y1, iv y2, iv y3, iv kk, rv ob15, rv ob19, rv ob24, rv ob34, .unset, .unset, .unset] [(.ref ob19)])) _
            refine XS.astore X43.here hx rfl (hb hby at_203) rfl rfl (l' := #[iv p0, iv p1, iv p2, iv p3, iv p4, iv p5, iv x0, iv x1, iv x2, iv x3, iv y0, iv y1, iv y2, iv y3, iv kk, rv ob15, rv ob19, rv ob24, rv ob34, rv ob19, .unset, .unset]) rfl ?_
            refine XS.goto X43.here hx rfl (pc0 := 205) (pc' := 224) rfl (hb hby at_205) (by decide) (by decide) ?_
            show Steps p.tables e below (T43.setTop (mkF m 224 #[iv p0, iv p1, iv p2, iv p3, iv p4, iv p5, iv x0, iv x1, iv x2, iv x3, iv y0, iv y1, iv y2, iv y3, iv kk, rv ob15, rv ob19, rv ob24, rv ob34, rv ob19, .unset, .unset] [])) _
            refine XS.iload X43.here hx rfl (hb hby at_224) rfl ?_
            refine XS.iconst X43.here hx rfl (hb hby at_226) ?_
            show Steps p.tables e below (T43.setTop (mkF m 227 #[iv p0, iv p1, iv p2, iv p3, iv p4, iv p5, iv x0, iv x1, iv x2, iv x3, iv y0, iv y1, iv y2, iv y3, iv kk, rv ob15, rv ob19, rv ob24, rv ob34, rv ob19, .unset, .unset] [(.int 2), (.int kk)])) _
            refine XS.icmpNo X43.here hx rfl (hb hby at_227) rfl (tlt k2).2.1 ?_
            refine XS.iload X43.here hx rfl (hb hby at_230) rfl ?_
            show Steps p.tables e below (T43.setTop (mkF m 232 #[iv p0, iv p1, iv p2, iv p3, iv p4, iv p5, iv x0, iv x1, iv x2, iv x3, iv y0, iv y1, iv y2, iv y3, iv kk, rv ob15, rv ob19, rv ob24, rv ob34, rv ob19, .unset, .unset] [(.int x0)])) _
            refine XS.iload X43.here hx rfl (hb hby at_232) rfl ?_
            refine XS.icmpNo X43.here hx rfl (hb hby at_234) rfl (teq d0).2 ?_
            show Steps p.tables e below (T43.setTop (mkF m 237 #[iv p0, iv p1, iv p2, iv p3, iv p4, iv p5, iv x0, iv x1, iv x2, iv x3, iv y0, iv y1, iv y2, iv y3, iv kk, rv ob15, rv ob19, rv ob24, rv ob34, rv ob19, .unset, .unset] [])) _
            refine XS.iload X43.here hx rfl (hb hby at_237) rfl ?_
            refine XS.iload X43.here hx rfl (hb hby at_239) rfl ?_
            show Steps p.tables e below (T43.setTop (mkF m 241 #[iv p0, iv p1, iv p2, iv p3, iv p4, iv p5, iv x0, iv x1, iv x2, iv x3, iv y0, iv y1, iv y2, iv y3, iv kk, rv ob15, rv ob19, rv ob24, rv ob34, rv ob19, .unset, .unset] [(.int y1), (.int x1)])) _
            refine XS.icmpNo X43.here hx rfl (hb hby at_241) rfl (teq d1).2 ?_
            refine XS.iload X43.here hx rfl (hb hby at_244) rfl ?_
            show Steps p.tables e below (T43.setTop (mkF m 246 #[iv p0, iv p1, iv p2, iv p3, iv p4, iv p5, iv x0, iv x1, iv x2, iv x3, iv y0, iv y1, iv y2, iv y3, iv kk, rv ob15, rv ob19, rv ob24, rv ob34, rv ob19, .unset, .unset] [(.int x2)])) _
            refine XS.iload X43.here hx rfl (hb hby at_246) rfl ?_
            refine XS.icmpNo X43.here hx rfl (hb hby at_248) rfl (teq d2).2 ?_
            show Steps p.tables e below (T43.setTop (mkF m 251 #[iv p0, iv p1, iv p2, iv p3, iv p4, iv p5, iv x0, iv x1, iv x2, iv x3, iv y0, iv y1, iv y2, iv y3, iv kk, rv ob15, rv ob19, rv ob24, rv ob34, rv ob19, .unset, .unset] [])) _
            refine XS.iload X43.here hx rfl (hb hby at_251) rfl ?_
            refine XS.iload X43.here hx rfl (hb hby at_253) rfl ?_
            show Steps p.tables e below (T43.setTop (mkF m 255 #[iv p0, iv p1, iv p2, iv p3, iv p4, iv p5, iv x0, iv x1, iv x2, iv x3, iv y0, iv y1, iv y2, iv y3, iv kk, rv ob15, rv ob19, rv ob24, rv ob34, rv ob19, .unset, .unset] [(.int y3), (.int x3)])) _
            refine XS.icmpYes X43.here hx rfl (pc0 := 255) (pc' := 262) rfl (hb hby at_255) rfl (feq d3).2 (by decide) (by decide) ?_
            refine XS.iconst X43.here hx rfl (hb hby at_262) ?_
            show Steps p.tables e below (T43.setTop (mkF m 263 #[iv p0, iv p1, iv p2, iv p3, iv p4, iv p5, iv x0, iv x1, iv x2, iv x3, iv y0, iv y1, iv y2, iv y3, iv kk, rv ob15, rv ob19, rv ob24, rv ob34, rv ob19, .unset, .unset] [(.int 0)])) _
            refine XS.istore X43.here hx rfl (hb hby at_263) rfl (l' := #[iv p0, iv p1, iv p2, iv p3, iv p4, iv p5, iv x0, iv x1, iv x2, iv x3, iv y0, iv y1, iv y2, iv y3, iv kk, rv ob15, rv ob19, rv ob24, rv ob34, rv ob19, iv 0, .unset]) rfl ?_
            refine XS.aload X43.here hx rfl (hb hby at_265) rfl rfl ?_
            show Steps p.tables e below (T43.setTop (mkF m 267 #[iv p0, iv p1, iv p2, iv p3, iv p4, iv p5, iv x0, iv x1, iv x2, iv x3, iv y0, iv y1, iv y2, iv y3, iv kk, rv ob15, rv ob19, rv ob24, rv ob34, rv ob19, iv 0, .unset] [(.ref ob15)])) _
            refine XS.aload X43.here hx rfl (hb hby at_267) rfl rfl ?_
            show Steps p.tables e below (T43.setTop (mkF m 269 #[iv p0, iv p1, iv p2, iv p3, iv p4, iv p5, iv x0, iv x1, iv x2, iv x3, iv y0, iv y1, iv y2, iv y3, iv kk, rv ob15, rv ob19, rv ob24, rv ob34, rv ob19, iv 0, .unset] [(.ref ob19), (.ref ob15)])) _
            exact k
          refine own_lift sg50 ?_
          show own_Go p.tables e below (T43.setTop (mkF m 269 #[iv p0, iv p1, iv p2, iv p3, iv p4, iv p5, iv x0, iv x1, iv x2, iv x3, iv y0, iv y1, iv y2, iv y3, iv kk, rv ob15, rv ob19, rv ob24, rv ob34, rv ob19, iv 0, .unset] [(.ref ob19), (.ref ob15)])) _
          have Fc51 : Fld Z T43.heap ob15 "com/example/halyard/halyard/core/mal/TypeId" "area" "I" (.int x0) := (((((((p17_2.ext Ex19).keep p22_0 (ninS ne20 nin0)).ext Ex24).other W30 (Or.inl ne26)).other W33 (Or.inl ne26)).ext Ex34).keep Kq43 (ninS ne36 nin0))
          have Fc52 : Fld Z T43.heap ob15 "com/example/halyard/halyard/core/mal/TypeId" "service" "I" (.int x1) := (((((((p17_3.ext Ex19).keep p22_0 (ninS ne20 nin0)).ext Ex24).other W30 (Or.inl ne26)).other W33 (Or.inl ne26)).ext Ex34).keep Kq43 (ninS ne36 nin0))
          have Fc53 : Fld Z T43.heap ob15 "com/example/halyard/halyard/core/mal/TypeId" "areaVersion" "I" (.int x2) := (((((((p17_4.ext Ex19).keep p22_0 (ninS ne20 nin0)).ext Ex24).other W30 (Or.inl ne26)).other W33 (Or.inl ne26)).ext Ex34).keep Kq43 (ninS ne36 nin0))
          have Fc54 : Fld Z T43.heap ob15 "com/example/halyard/halyard/core/mal/TypeId" "shortFormPart" "I" (.int x3) := (((((((p17_5.ext Ex19).keep p22_0 (ninS ne20 nin0)).ext Ex24).other W30 (Or.inl ne26)).other W33 (Or.inl ne26)).ext Ex34).keep Kq43 (ninS ne36 nin0))
          have Fc55 : Fld Z T43.heap ob19 "com/example/halyard/halyard/core/mal/TypeId" "area" "I" (.int y0) := (((((p22_2.ext Ex24).other W30 (Or.inl ne27)).other W33 (Or.inl ne27)).ext Ex34).keep Kq43 (ninS ne38 nin0))
          have Fc56 : Fld Z T43.heap ob19 "com/example/halyard/halyard/core/mal/TypeId" "service" "I" (.int y1) := (((((p22_3.ext Ex24).other W30 (Or.inl ne27)).other W33 (Or.inl ne27)).ext Ex34).keep Kq43 (ninS ne38 nin0))
          have Fc57 : Fld Z T43.heap ob19 "com/example/halyard/halyard/core/mal/TypeId" "areaVersion" "I" (.int y2) := (((((p22_4.ext Ex24).other W30 (Or.inl ne27)).other W33 (Or.inl ne27)).ext Ex34).keep Kq43 (ninS ne38 nin0))
          have Fc58 : Fld Z T43.heap ob19 "com/example/halyard/halyard/core/mal/TypeId" "shortFormPart" "I" (.int y3) := (((((p22_5.ext Ex24).other W30 (Or.inl ne27)).other W33 (Or.inl ne27)).ext Ex34).keep Kq43 (ninS ne38 nin0))
          have Fc59 : Exa Z T43.heap ob19 "com/example/halyard/halyard/core/mal/TypeId" := (Fc46.keep Kq43)
          have Fc61 : Exa Z T43.heap ob15 "com/example/halyard/halyard/core/mal/TypeId" := (Fc44.keep Kq43)
          obtain ⟨cq60, kq60, q60a, q60b, q60c⟩ := isOf hZ rfl Fc61
          obtain ⟨_, _, ⟨T60, Lx60, kx60, nx60⟩, -, X60, ⟨Lc60, hQ60, lx60, yx60, zx60⟩, st60⟩ := X43.virtualBack hx (y := (⟨"com/example/halyard/halyard/core/mal/TypeId", "equals", "(Ljava/lang/Object;)Z"⟩ : MethodName)) (z := (⟨"com/example/halyard/halyard/core/mal/TypeId", "equals", "(Ljava/lang/Object;)Z"⟩ : MethodName)) hown (mvT hZ (wd hw 49 rfl)) (mvT hZ (wd hw 50 rfl)) (notFace_of_selects (args := #[]) (mvT hZ (wd hw 52 rfl))) (mvT hZ (wd hw 52 rfl)) (mvT hZ (wd hw 51 rfl)) (by decide) (backOf (W := 0) (rmEq3 l Z a0 hw [] ob15 ob19 x0 x1 x2 x3 y0 y1 y2 y3 T43.heap n0 Z43 Fc51 Fc52 Fc53 Fc54 Fc55 Fc56 Fc57 Fc58 Fc59 d0 d1 d2 d3) hZ (wd hw 53 rfl) (wd hw 3 rfl) (by decide) (by decide)) q60a q60c (g := (mkF m 269 #[iv p0, iv p1, iv p2, iv p3, iv p4, iv p5, iv x0, iv x1, iv x2, iv x3, iv y0, iv y1, iv y2, iv y3, iv kk, rv ob15, rv ob19, rv ob24, rv ob34, rv ob19, iv 0, .unset] [(.ref ob19), (.ref ob15)])) rfl (by rw [hml]; rfl) (Steps.refl _) (argsL := [(.ref ob19)]) (rest := []) (lenOf pd_2 rfl) rfl (by show 2 * 0 + _ ≤ _; exact Nat.le_of_eq rfl) (hb hby at_269) (fun _ _ => ⟨rfl, rfl, (by decide : 5 + 0 ≤ _), (by decide : 16 + 0 ≤ _)⟩)
          dsimp only [Pt.U, Pt.locs, Pt.cells, Pt.slots] at X60 lx60 yx60 zx60 st60 hQ60
          subst lx60 yx60 zx60
          obtain ⟨rfl, N60q, e60⟩ := hQ60
          have N60 := Fr.app N43 N60q
          refine own_lift (fun t k => st60.trans k) ?_
          show own_Go p.tables e below (T60.setTop (mkF m 272 #[iv p0, iv p1, iv p2, iv p3, iv p4, iv p5, iv x0, iv x1, iv x2, iv x3, iv y0, iv y1, iv y2, iv y3, iv kk, rv ob15, rv ob19, rv ob24, rv ob34, rv ob19, iv 0, .unset] [(.int 0)])) _
          have sg62 : ∀ t, Steps p.tables e below (T60.setTop (mkF m 299 #[iv p0, iv p1, iv p2, iv p3, iv p4, iv p5, iv x0, iv x1, iv x2, iv x3, iv y0, iv y1, iv y2, iv y3, iv kk, rv ob15, rv ob19, rv ob24, rv ob34, rv ob19, iv 0, iv 1] [(.ref ob15), (.ref ob19)])) t → Steps p.tables e below (T60.setTop (mkF m 272 #[iv p0, iv p1, iv p2, iv p3, iv p4, iv p5, iv x0, iv x1, iv x2, iv x3, iv y0, iv y1, iv y2, iv y3, iv kk, rv ob15, rv ob19, rv ob24, rv ob34, rv ob19, iv 0, .unset] [(.int 0)])) t := by
            intro t k
            refine XS.iload X60.here hx rfl (hb hby at_272) rfl ?_
            show Steps p.tables e below (T60.setTop (mkF m 274 #[iv p0, iv p1, iv p2, iv p3, iv p4, iv p5, iv x0, iv x1, iv x2, iv x3, iv y0, iv y1, iv y2, iv y3, iv kk, rv ob15, rv ob19, rv ob24, rv ob34, rv ob19, iv 0, .unset] [(.int 0), (.int 0)])) _
            refine XS.icmpNo X60.here hx rfl (hb hby at_274) rfl (teq (by decide : (0 : Int32) = (0 : Int32))).2 ?_
            refine XS.iconst X60.here hx rfl (hb hby at_277) ?_
            show Steps p.tables e below (T60.setTop (mkF m 278 #[iv p0, iv p1, iv p2, iv p3, iv p4, iv p5, iv x0, iv x1, iv x2, iv x3, iv y0, iv y1, iv y2, iv y3, iv kk, rv ob15, rv ob19, rv ob24, rv ob34, rv ob19, iv 0, .unset] [(.int 1)])) _
            refine XS.goto X60.here hx rfl (pc0 := 278) (pc' := 282) rfl (hb hby at_278) (by decide) (by decide) ?_
            refine XS.istore X60.here hx rfl (hb hby at_282) rfl (l' := #[iv p0, iv p1, iv p2, iv p3, iv p4, iv p5, iv x0, iv x1, iv x2, iv x3, iv y0, iv y1, iv y2, iv y3, iv kk, rv ob15, rv ob19, rv ob24, rv ob34, rv ob19, iv 0, iv 1]) rfl ?_
            show Steps p.tables e below (T60.setTop (mkF m 284 #[iv p0, iv p1, iv p2, iv p3, iv p4, iv p5, iv x0, iv x1, iv x2, iv x3, iv y0, iv y1, iv y2, iv y3, iv kk, rv ob15, rv ob19, rv ob24, rv ob34, rv ob19, iv 0, iv 1] [])) _
            refine XS.iload X60.here hx rfl (hb hby at_284) rfl ?_
            refine XS.iconst X60.here hx rfl (hb hby at_286) ?_
            show Steps p.tables e below (T60.setTop (mkF m 287 #[iv p0, iv p1, iv p2, iv p3, iv p4, iv p5, iv x0, iv x1, iv x2, iv x3, iv y0, iv y1, iv y2, iv y3, iv kk, rv ob15, rv ob19, rv ob24, rv ob34, rv ob19, iv 0, iv 1] [(.int 2), (.int kk)])) _
            refine XS.icmpNo X60.here hx rfl (hb hby at_287) rfl (tlt k2).2.1 ?_
            refine XS.iload X60.here hx rfl (hb hby at_290) rfl ?_
            show Steps p.tables e below (T60.setTop (mkF m 292 #[iv p0, iv p1, iv p2, iv p3, iv p4, iv p5, iv x0, iv x1, iv x2, iv x3, iv y0, iv y1, iv y2, iv y3, iv kk, rv ob15, rv ob19, rv ob24, rv ob34, rv ob19, iv 0, iv 1] [(.int 1)])) _
            refine XS.ifNo X60.here hx rfl (hb hby at_292) rfl ((if0 _ _).trans (feq (by decide : ¬ ((1 : Int32) = (0 : Int32)))).1) ?_
            refine XS.aload X60.here hx rfl (hb hby at_295) rfl rfl ?_
            show Steps p.tables e below (T60.setTop (mkF m 297 #[iv p0, iv p1, iv p2, iv p3, iv p4, iv p5, iv x0, iv x1, iv x2, iv x3, iv y0, iv y1, iv y2, iv y3, iv kk, rv ob15, rv ob19, rv ob24, rv ob34, rv ob19, iv 0, iv 1] [(.ref ob19)])) _
            refine XS.aload X60.here hx rfl (hb hby at_297) rfl rfl ?_
            show Steps p.tables e below (T60.setTop (mkF m 299 #[iv p0, iv p1, iv p2, iv p3, iv p4, iv p5, iv x0, iv x1, iv x2, iv x3, iv y0, iv y1, iv y2, iv y3, iv kk, rv ob15, rv ob19, rv ob24, rv ob34, rv ob19, iv 0, iv 1] [(.ref ob15), (.ref ob19)])) _
            exact k
          refine own_lift sg62 ?_
          show own_Go p.tables e below (T60.setTop (mkF m 299 #[iv p0, iv p1, iv p2, iv p3, iv p4, iv p5, iv x0, iv x1, iv x2, iv x3, iv y0, iv y1, iv y2, iv y3, iv kk, rv ob15, rv ob19, rv ob24, rv ob34, rv ob19, iv 0, iv 1] [(.ref ob15), (.ref ob19)])) _
          obtain ⟨cq63, kq63, q63a, q63b, q63c⟩ := isOf hZ e60 Fc59
          obtain ⟨_, _, ⟨T63, Lx63, kx63, nx63⟩, -, X63, ⟨Lc63, hQ63, lx63, yx63, zx63⟩, st63⟩ := X60.virtualBack hx (y := (⟨"com/example/halyard/halyard/core/mal/TypeId", "equals", "(Ljava/lang/Object;)Z"⟩ : MethodName)) (z := (⟨"com/example/halyard/halyard/core/mal/TypeId", "equals", "(Ljava/lang/Object;)Z"⟩ : MethodName)) hown (mvT hZ (wd hw 49 rfl)) (mvT hZ (wd hw 50 rfl)) (notFace_of_selects (args := #[]) (mvT hZ (wd hw 52 rfl))) (mvT hZ (wd hw 52 rfl)) (mvT hZ (wd hw 51 rfl)) (by decide) (backOf (W := 0) (rmEq3 l Z a0 hw [] ob19 ob15 y0 y1 y2 y3 x0 x1 x2 x3 T43.heap n0 Z43 Fc55 Fc56 Fc57 Fc58 Fc51 Fc52 Fc53 Fc54 Fc61 (Eq.symm d0) (Eq.symm d1) (Eq.symm d2) (fun q => d3 (Eq.symm q))) hZ (wd hw 53 rfl) (wd hw 3 rfl) (by decide) (by decide)) q63a q63c (g := (mkF m 299 #[iv p0, iv p1, iv p2, iv p3, iv p4, iv p5, iv x0, iv x1, iv x2, iv x3, iv y0, iv y1, iv y2, iv y3, iv kk, rv ob15, rv ob19, rv ob24, rv ob34, rv ob19, iv 0, iv 1] [(.ref ob15), (.ref ob19)])) rfl (by rw [hml]; rfl) (Steps.refl _) (argsL := [(.ref ob15)]) (rest := []) (lenOf pd_2 rfl) rfl (by show 2 * 0 + _ ≤ _; exact Nat.le_of_eq rfl) (hb hby at_299) (fun _ _ => ⟨rfl, e60, (by decide : 5 + 0 ≤ _), (by decide : 16 + 0 ≤ _)⟩)
          dsimp only [Pt.U, Pt.locs, Pt.cells, Pt.slots] at X63 lx63 yx63 zx63 st63 hQ63
          subst lx63 yx63 zx63
          obtain ⟨rfl, N63q, e63⟩ := hQ63
          have N63 := Fr.app N60 N63q
          refine own_lift (fun t k => st63.trans k) ?_
          show own_Go p.tables e below (T63.setTop (mkF m 302 #[iv p0, iv p1, iv p2, iv p3, iv p4, iv p5, iv x0, iv x1, iv x2, iv x3, iv y0, iv y1, iv y2, iv y3, iv kk, rv ob15, rv ob19, rv ob24, rv ob34, rv ob19, iv 0, iv 1] [(.int 0)])) _
          have sg64 : ∀ t, Steps p.tables e below (T63.setTop (mkF m 323 #[iv p0, iv p1, iv p2, iv p3, iv p4, iv p5, iv x0, iv x1, iv x2, iv x3, iv y0, iv y1, iv y2, iv y3, iv kk, rv ob15, rv ob19, rv ob24, rv ob34, rv ob19, iv 0, iv 1] [(.ref ob15), (.ref ob15)])) t → Steps p.tables e below (T63.setTop (mkF m 302 #[iv p0, iv p1, iv p2, iv p3, iv p4, iv p5, iv x0, iv x1, iv x2, iv x3, iv y0, iv y1, iv y2, iv y3, iv kk, rv ob15, rv ob19, rv ob24, rv ob34, rv ob19, iv 0, iv 1] [(.int 0)])) t := by
            intro t k
            refine XS.iload X63.here hx rfl (hb hby at_302) rfl ?_
            show Steps p.tables e below (T63.setTop (mkF m 304 #[iv p0, iv p1, iv p2, iv p3, iv p4, iv p5, iv x0, iv x1, iv x2, iv x3, iv y0, iv y1, iv y2, iv y3, iv kk, rv ob15, rv ob19, rv ob24, rv ob34, rv ob19, iv 0, iv 1] [(.int 0), (.int 0)])) _
            refine XS.icmpNo X63.here hx rfl (hb hby at_304) rfl (teq (by decide : (0 : Int32) = (0 : Int32))).2 ?_
            refine XS.iconst X63.here hx rfl (hb hby at_307) ?_
            show Steps p.tables e below (T63.setTop (mkF m 308 #[iv p0, iv p1, iv p2, iv p3, iv p4, iv p5, iv x0, iv x1, iv x2, iv x3, iv y0, iv y1, iv y2, iv y3, iv kk, rv ob15, rv ob19, rv ob24, rv ob34, rv ob19, iv 0, iv 1] [(.int 1)])) _
            refine XS.goto X63.here hx rfl (pc0 := 308) (pc' := 312) rfl (hb hby at_308) (by decide) (by decide) ?_
            refine XS.istore X63.here hx rfl (hb hby at_312) rfl (l' := #[iv p0, iv p1, iv p2, iv p3, iv p4, iv p5, iv x0, iv x1, iv x2, iv x3, iv y0, iv y1, iv y2, iv y3, iv kk, rv ob15, rv ob19, rv ob24, rv ob34, rv ob19, iv 0, iv 1]) rfl ?_
            show Steps p.tables e below (T63.setTop (mkF m 314 #[iv p0, iv p1, iv p2, iv p3, iv p4, iv p5, iv x0, iv x1, iv x2, iv x3, iv y0, iv y1, iv y2, iv y3, iv kk, rv ob15, rv ob19, rv ob24, rv ob34, rv ob19, iv 0, iv 1] [])) _
            refine XS.iload X63.here hx rfl (hb hby at_314) rfl ?_
            refine XS.ifNo X63.here hx rfl (hb hby at_316) rfl ((if0 _ _).trans (feq (by decide : ¬ ((1 : Int32) = (0 : Int32)))).1) ?_
            show Steps p.tables e below (T63.setTop (mkF m 319 #[iv p0, iv p1, iv p2, iv p3, iv p4, iv p5, iv x0, iv x1, iv x2, iv x3, iv y0, iv y1, iv y2, iv y3, iv kk, rv ob15, rv ob19, rv ob24, rv ob34, rv ob19, iv 0, iv 1] [])) _
            refine XS.aload X63.here hx rfl (hb hby at_319) rfl rfl ?_
            refine XS.aload X63.here hx rfl (hb hby at_321) rfl rfl ?_
            show Steps p.tables e below (T63.setTop (mkF m 323 #[iv p0, iv p1, iv p2, iv p3, iv p4, iv p5, iv x0, iv x1, iv x2, iv x3, iv y0, iv y1, iv y2, iv y3, iv kk, rv ob15, rv ob19, rv ob24, rv ob34, rv ob19, iv 0, iv 1] [(.ref ob15), (.ref ob15)])) _
            exact k
          refine own_lift sg64 ?_
          show own_Go p.tables e below (T63.setTop (mkF m 323 #[iv p0, iv p1, iv p2, iv p3, iv p4, iv p5, iv x0, iv x1, iv x2, iv x3, iv y0, iv y1, iv y2, iv y3, iv kk, rv ob15, rv ob19, rv ob24, rv ob34, rv ob19, iv 0, iv 1] [(.ref ob15), (.ref ob15)])) _
          obtain ⟨cq65, kq65, q65a, q65b, q65c⟩ := isOf hZ e63 Fc61
          obtain ⟨_, _, ⟨T65, Lx65, kx65, nx65⟩, -, X65, ⟨Lc65, hQ65, lx65, yx65, zx65⟩, st65⟩ := X63.virtualBack hx (y := (⟨"com/example/halyard/halyard/core/mal/TypeId", "equals", "(Ljava/lang/Object;)Z"⟩ : MethodName)) (z := (⟨"com/example/halyard/halyard/core/mal/TypeId", "equals", "(Ljava/lang/Object;)Z"⟩ : MethodName)) hown (mvT hZ (wd hw 49 rfl)) (mvT hZ (wd hw 50 rfl)) (notFace_of_selects (args := #[]) (mvT hZ (wd hw 52 rfl))) (mvT hZ (wd hw 52 rfl)) (mvT hZ (wd hw 51 rfl)) (by decide) (backOf (W := 0) (rmEq4 l Z a0 hw [] ob15 ob15 x0 x1 x2 x3 x0 x1 x2 x3 T43.heap n0 Z43 Fc51 Fc52 Fc53 Fc54 Fc51 Fc52 Fc53 Fc54 Fc61 (rfl : x0 = x0) (rfl : x1 = x1) (rfl : x2 = x2) (rfl : x3 = x3)) hZ (wd hw 53 rfl) (wd hw 3 rfl) (by decide) (by decide)) q65a q65c (g := (mkF m 323 #[iv p0, iv p1, iv p2, iv p3, iv p4, iv p5, iv x0, iv x1, iv x2, iv x3, iv y0, iv y1, iv y2, iv y3, iv kk, rv ob15, rv ob19, rv ob24, rv ob34, rv ob19, iv 0, iv 1] [(.ref ob15), (.ref ob15)])) rfl (by rw [hml]; rfl) (Steps.refl _) (argsL := [(.ref ob15)]) (rest := []) (lenOf pd_2 rfl) rfl (by show 2 * 0 + _ ≤ _; exact Nat.le_of_eq rfl) (hb hby at_323) (fun _ _ => ⟨rfl, e63, (by decide : 5 + 0 ≤ _), (by decide : 16 + 0 ≤ _)⟩)
          dsimp only [Pt.U, Pt.locs, Pt.cells, Pt.slots] at X65 lx65 yx65 zx65 st65 hQ65
          subst lx65 yx65 zx65
          obtain ⟨rfl, N65q, e65⟩ := hQ65
          have N65 := Fr.app N63 N65q
          refine own_lift (fun t k => st65.trans k) ?_
          show own_Go p.tables e below (T65.setTop (mkF m 326 #[iv p0, iv p1, iv p2, iv p3, iv p4, iv p5, iv x0, iv x1, iv x2, iv x3, iv y0, iv y1, iv y2, iv y3, iv kk, rv ob15, rv ob19, rv ob24, rv ob34, rv ob19, iv 0, iv 1] [(.int 1)])) _
          have sg66 : ∀ t, Steps p.tables e below (T65.setTop (mkF m 338 #[iv p0, iv p1, iv p2, iv p3, iv p4, iv p5, iv x0, iv x1, iv x2, iv x3, iv y0, iv y1, iv y2, iv y3, iv kk, rv ob15, rv ob19, rv ob24, rv ob34, rv ob19, iv 0, iv 1] [(.int 1)])) t → Steps p.tables e below (T65.setTop (mkF m 326 #[iv p0, iv p1, iv p2, iv p3, iv p4, iv p5, iv x0, iv x1, iv x2, iv x3, iv y0, iv y1, iv y2, iv y3, iv kk, rv ob15, rv ob19, rv ob24, rv ob34, rv ob19, iv 0, iv 1] [(.int 1)])) t := by
            intro t k
            refine XS.ifNo X65.here hx rfl (hb hby at_326) rfl ((if0 _ _).trans (feq (by decide : ¬ ((1 : Int32) = (0 : Int32)))).1) ?_
            show Steps p.tables e below (T65.setTop (mkF m 329 #[iv p0, iv p1, iv p2, iv p3, iv p4, iv p5, iv x0, iv x1, iv x2, iv x3, iv y0, iv y1, iv y2, iv y3, iv kk, rv ob15, rv ob19, rv ob24, rv ob34, rv ob19, iv 0, iv 1] [])) _
            refine XS.iconst X65.here hx rfl (hb hby at_329) ?_
            refine XS.goto X65.here hx rfl (pc0 := 330) (pc' := 334) rfl (hb hby at_330) (by decide) (by decide) ?_
            show Steps p.tables e below (T65.setTop (mkF m 334 #[iv p0, iv p1, iv p2, iv p3, iv p4, iv p5, iv x0, iv x1, iv x2, iv x3, iv y0, iv y1, iv y2, iv y3, iv kk, rv ob15, rv ob19, rv ob24, rv ob34, rv ob19, iv 0, iv 1] [(.int 1)])) _
            refine XS.istore X65.here hx rfl (hb hby at_334) rfl (l' := #[iv p0, iv p1, iv p2, iv p3, iv p4, iv p5, iv x0, iv x1, iv x2, iv x3, iv y0, iv y1, iv y2, iv y3, iv kk, rv ob15, rv ob19, rv ob24, rv ob34, rv ob19, iv 0, iv 1]) rfl ?_
            refine XS.iload X65.here hx rfl (hb hby at_336) rfl ?_
            show Steps p.tables e below (T65.setTop (mkF m 338 #[iv p0, iv p1, iv p2, iv p3, iv p4, iv p5, iv x0, iv x1, iv x2, iv x3, iv y0, iv y1, iv y2, iv y3, iv kk, rv ob15, rv ob19, rv ob24, rv ob34, rv ob19, iv 0, iv 1] [(.int 1)])) _
            exact k
          refine own_lift sg66 ?_
          show own_Go p.tables e below (T65.setTop (mkF m 338 #[iv p0, iv p1, iv p2, iv p3, iv p4, iv p5, iv x0, iv x1, iv x2, iv x3, iv y0, iv y1, iv y2, iv y3, iv kk, rv ob15, rv ob19, rv ob24, rv ob34, rv ob19, iv 0, iv 1] [(.int 1)])) _
          obtain ⟨fs, hr, hrun, hended, hW, hsame⟩ := X65.leave (v := some (.int 1)) (fun h => by rw [Bd.returns] at h; cases h)
          refine ⟨_, _, ?_, hrun, hended, _, _, rfl, ?_, ⟨_, rfl⟩, hW, hsame.mono (by decide) (by decide)⟩
          · exact retN X65 hx (t := .boolean) Bd.returns (by simp) (hb hby at_338) hr
          · show Q0 Z  h0 n0 _ T65.heap _
            rw [e65]
            exact ⟨rfl, N65⟩
        by_cases b : (p5 &&& (8 : Int32)) = (0 : Int32)
        · have sg67 : ∀ t, Steps p.tables e below (T10.setTop (mkF m 110 #[iv p0, iv p1, iv p2, iv p3, iv p4, iv p5, iv x0, iv x1, iv x2, iv x3, iv y0, iv y1, iv y2, .unset, .unset, .unset, .unset, .unset, .unset, .unset, .unset, .unset] [(.int ((p4 <<< ((8 : Int32) &&& 31)) >>> ((8 : Int32) &&& 31)))])) t → Steps p.tables e below (T10.setTop (mkF m 89 #[iv p0, iv p1, iv p2, iv p3, iv p4, iv p5, iv x0, iv x1, iv x2, iv x3, iv y0, iv y1, iv y2, .unset, .unset, .unset, .unset, .unset, .unset, .unset, .unset, .unset] [])) t := by
            intro t k
            refine XS.iload X10.here hx rfl (hb hby at_89) rfl ?_
            show Steps p.tables e below (T10.setTop (mkF m 91 #[iv p0, iv p1, iv p2, iv p3, iv p4, iv p5, iv x0, iv x1, iv x2, iv x3, iv y0, iv y1, iv y2, .unset, .unset, .unset, .unset, .unset, .unset, .unset, .unset, .unset] [(.int p5)])) _
            refine XS.bipush X10.here hx rfl (hb hby at_91) ?_
            refine XS.iand X10.here hx rfl (hb hby at_93) rfl ?_
            show Steps p.tables e below (T10.setTop (mkF m 94 #[iv p0, iv p1, iv p2, iv p3, iv p4, iv p5, iv x0, iv x1, iv x2, iv x3, iv y0, iv y1, iv y2, .unset, .unset, .unset, .unset, .unset, .unset, .unset, .unset, .unset] [(.int (p5 &&& (8 : Int32)))])) _
            refine XS.ifYes X10.here hx rfl (pc0 := 94) (pc' := 102) rfl (hb hby at_94) rfl ((if0 _ _).trans (teq b).1) (by decide) (by decide) ?_
            refine XS.iload X10.here hx rfl (hb hby at_102) rfl ?_
            show Steps p.tables e below (T10.setTop (mkF m 104 #[iv p0, iv p1, iv p2, iv p3, iv p4, iv p5, iv x0, iv x1, iv x2, iv x3, iv y0, iv y1, iv y2, .unset, .unset, .unset, .unset, .unset, .unset, .unset, .unset, .unset] [(.int p4)])) _
            refine XS.bipush X10.here hx rfl (hb hby at_104) ?_
            refine XS.ishl X10.here hx rfl (hb hby at_106) rfl ?_
            show Steps p.tables e below (T10.setTop (mkF m 107 #[iv p0, iv p1, iv p2, iv p3, iv p4, iv p5, iv x0, iv x1, iv x2, iv x3, iv y0, iv y1, iv y2, .unset, .unset, .unset, .unset, .unset, .unset, .unset, .unset, .unset] [(.int (p4 <<< ((8 : Int32) &&& 31)))])) _
            refine XS.bipush X10.here hx rfl (hb hby at_107) ?_
            refine XS.ishr X10.here hx rfl (hb hby at_109) rfl ?_
            show Steps p.tables e below (T10.setTop (mkF m 110 #[iv p0, iv p1, iv p2, iv p3, iv p4, iv p5, iv x0, iv x1, iv x2, iv x3, iv y0, iv y1, iv y2, .unset, .unset, .unset, .unset, .unset, .unset, .unset, .unset, .unset] [(.int ((p4 <<< ((8 : Int32) &&& 31)) >>> ((8 : Int32) &&& 31)))])) _
            exact k
          refine own_lift sg67 ?_
          show own_Go p.tables e below (T10.setTop (mkF m 110 #[iv p0, iv p1, iv p2, iv p3, iv p4, iv p5, iv x0, iv x1, iv x2, iv x3, iv y0, iv y1, iv y2, .unset, .unset, .unset, .unset, .unset, .unset, .unset, .unset, .unset] [(.int ((p4 <<< ((8 : Int32) &&& 31)) >>> ((8 : Int32) &&& 31)))])) _
          rw [show y3 = ((p4 <<< ((8 : Int32) &&& 31)) >>> ((8 : Int32) &&& 31)) from (hy3.trans (if_pos b))] at join12
          exact join12 _ _ X10 e10 N10
        · have sg68 : ∀ t, Steps p.tables e below (T10.setTop (mkF m 110 #[iv p0, iv p1, iv p2, iv p3, iv p4, iv p5, iv x0, iv x1, iv x2, iv x3, iv y0, iv y1, iv y2, .unset, .unset, .unset, .unset, .unset, .unset, .unset, .unset, .unset] [(.int x3)])) t → Steps p.tables e below (T10.setTop (mkF m 89 #[iv p0, iv p1, iv p2, iv p3, iv p4, iv p5, iv x0, iv x1, iv x2, iv x3, iv y0, iv y1, iv y2, .unset, .unset, .unset, .unset, .unset, .unset, .unset, .unset, .unset] [])) t := by
            intro t k
            refine XS.iload X10.here hx rfl (hb hby at_89) rfl ?_
            show Steps p.tables e below (T10.setTop (mkF m 91 #[iv p0, iv p1, iv p2, iv p3, iv p4, iv p5, iv x0, iv x1, iv x2, iv x3, iv y0, iv y1, iv y2, .unset, .unset, .unset, .unset, .unset, .unset, .unset, .unset, .unset] [(.int p5)])) _
            refine XS.bipush X10.here hx rfl (hb hby at_91) ?_
            refine XS.iand X10.here hx rfl (hb hby at_93) rfl ?_
            show Steps p.tables e below (T10.setTop (mkF m 94 #[iv p0, iv p1, iv p2, iv p3, iv p4, iv p5, iv x0, iv x1, iv x2, iv x3, iv y0, iv y1, iv y2, .unset, .unset, .unset, .unset, .unset, .unset, .unset, .unset, .unset] [(.int (p5 &&& (8 : Int32)))])) _
            refine XS.ifNo X10.here hx rfl (hb hby at_94) rfl ((if0 _ _).trans (feq b).1) ?_
            refine XS.iload X10.here hx rfl (hb hby at_97) rfl ?_
            show Steps p.tables e below (T10.setTop (mkF m 99 #[iv p0, iv p1, iv p2, iv p3, iv p4, iv p5, iv x0, iv x1, iv x2, iv x3, iv y0, iv y1, iv y2, .unset, .unset, .unset, .unset, .unset, .unset, .unset, .unset, .unset] [(.int x3)])) _
            refine XS.goto X10.here hx rfl (pc0 := 99) (pc' := 110) rfl (hb hby at_99) (by decide) (by decide) ?_
            show Steps p.tables e below (T10.setTop (mkF m 110 #[iv p0, iv p1, iv p2, iv p3, iv p4, iv p5, iv x0, iv x1, iv x2, iv x3, iv y0, iv y1, iv y2, .unset, .unset, .unset, .unset, .unset, .unset, .unset, .unset, .unset] [(.int x3)])) _
            exact k
          refine own_lift sg68 ?_
          show own_Go p.tables e below (T10.setTop (mkF m 110 #[iv p0, iv p1, iv p2, iv p3, iv p4, iv p5, iv x0, iv x1, iv x2, iv x3, iv y0, iv y1, iv y2, .unset, .unset, .unset, .unset, .unset, .unset, .unset, .unset, .unset] [(.int x3)])) _
          rw [show y3 = x3 from (hy3.trans (if_neg b))] at join12
          exact join12 _ _ X10 e10 N10
      by_cases b : (p5 &&& (4 : Int32)) = (0 : Int32)
      · have sg69 : ∀ t, Steps p.tables e below (T8.setTop (mkF m 87 #[iv p0, iv p1, iv p2, iv p3, iv p4, iv p5, iv x0, iv x1, iv x2, iv x3, iv y0, iv y1, .unset, .unset, .unset, .unset, .unset, .unset, .unset, .unset, .unset, .unset] [(.int (((p4.toUInt32 >>> ((8 : Int32) &&& 31).toUInt32).toInt32) &&& (255 : Int32)))])) t → Steps p.tables e below (T8.setTop (mkF m 66 #[iv p0, iv p1, iv p2, iv p3, iv p4, iv p5, iv x0, iv x1, iv x2, iv x3, iv y0, iv y1, .unset, .unset, .unset, .unset, .unset, .unset, .unset, .unset, .unset, .unset] [])) t := by
          intro t k
          refine XS.iload X8.here hx rfl (hb hby at_66) rfl ?_
          show Steps p.tables e below (T8.setTop (mkF m 68 #[iv p0, iv p1, iv p2, iv p3, iv p4, iv p5, iv x0, iv x1, iv x2, iv x3, iv y0, iv y1, .unset, .unset, .unset, .unset, .unset, .unset, .unset, .unset, .unset, .unset] [(.int p5)])) _
          refine XS.iconst X8.here hx rfl (hb hby at_68) ?_
          refine XS.iand X8.here hx rfl (hb hby at_69) rfl ?_
          show Steps p.tables e below (T8.setTop (mkF m 70 #[iv p0, iv p1, iv p2, iv p3, iv p4, iv p5, iv x0, iv x1, iv x2, iv x3, iv y0, iv y1, .unset, .unset, .unset, .unset, .unset, .unset, .unset, .unset, .unset, .unset] [(.int (p5 &&& (4 : Int32)))])) _
          refine XS.ifYes X8.here hx rfl (pc0 := 70) (pc' := 78) rfl (hb hby at_70) rfl ((if0 _ _).trans (teq b).1) (by decide) (by decide) ?_
          refine XS.iload X8.here hx rfl (hb hby at_78) rfl ?_
          show Steps p.tables e below (T8.setTop (mkF m 80 #[iv p0, iv p1, iv p2, iv p3, iv p4, iv p5, iv x0, iv x1, iv x2, iv x3, iv y0, iv y1, .unset, .unset, .unset, .unset, .unset, .unset, .unset, .unset, .unset, .unset] [(.int p4)])) _
          refine XS.bipush X8.here hx rfl (hb hby at_80) ?_
          refine XS.iushr X8.here hx rfl (hb hby at_82) rfl ?_
          show Steps p.tables e below (T8.setTop (mkF m 83 #[iv p0, iv p1, iv p2, iv p3, iv p4, iv p5, iv x0, iv x1, iv x2, iv x3, iv y0, iv y1, .unset, .unset, .unset, .unset, .unset, .unset, .unset, .unset, .unset, .unset] [(.int ((p4.toUInt32 >>> ((8 : Int32) &&& 31).toUInt32).toInt32))])) _
          refine XS.sipush X8.here hx rfl (hb hby at_83) ?_
          refine XS.iand X8.here hx rfl (hb hby at_86) rfl ?_
          show Steps p.tables e below (T8.setTop (mkF m 87 #[iv p0, iv p1, iv p2, iv p3, iv p4, iv p5, iv x0, iv x1, iv x2, iv x3, iv y0, iv y1, .unset, .unset, .unset, .unset, .unset, .unset, .unset, .unset, .unset, .unset] [(.int (((p4.toUInt32 >>> ((8 : Int32) &&& 31).toUInt32).toInt32) &&& (255 : Int32)))])) _
          exact k
        refine own_lift sg69 ?_
        show own_Go p.tables e below (T8.setTop (mkF m 87 #[iv p0, iv p1, iv p2, iv p3, iv p4, iv p5, iv x0, iv x1, iv x2, iv x3, iv y0, iv y1, .unset, .unset, .unset, .unset, .unset, .unset, .unset, .unset, .unset, .unset] [(.int (((p4.toUInt32 >>> ((8 : Int32) &&& 31).toUInt32).toInt32) &&& (255 : Int32)))])) _
        rw [show y2 = (((p4.toUInt32 >>> ((8 : Int32) &&& 31).toUInt32).toInt32) &&& (255 : Int32)) from (hy2.trans (if_pos b))] at join10
        exact join10 _ _ X8 e8 N8
      · have sg70 : ∀ t, Steps p.tables e below (T8.setTop (mkF m 87 #[iv p0, iv p1, iv p2, iv p3, iv p4, iv p5, iv x0, iv x1, iv x2, iv x3, iv y0, iv y1, .unset, .unset, .unset, .unset, .unset, .unset, .unset, .unset, .unset, .unset] [(.int x2)])) t → Steps p.tables e below (T8.setTop (mkF m 66 #[iv p0, iv p1, iv p2, iv p3, iv p4, iv p5, iv x0, iv x1, iv x2, iv x3, iv y0, iv y1, .unset, .unset, .unset, .unset, .unset, .unset, .unset, .unset, .unset, .unset] [])) t := by
          intro t k
          refine XS.iload X8.here hx rfl (hb hby at_66) rfl ?_
          show Steps p.tables e below (T8.setTop (mkF m 68 #[iv p0, iv p1, iv p2, iv p3, iv p4, iv p5, iv x0, iv x1, iv x2, iv x3, iv y0, iv y1, .unset, .unset, .unset, .unset, .unset, .unset, .unset, .unset, .unset, .unset] [(.int p5)])) _
          refine XS.iconst X8.here hx rfl (hb hby at_68) ?_
          refine XS.iand X8.here hx rfl (hb hby at_69) rfl ?_
          show Steps p.tables e below (T8.setTop (mkF m 70 #[iv p0, iv p1, iv p2, iv p3, iv p4, iv p5, iv x0, iv x1, iv x2, iv x3, iv y0, iv y1, .unset, .unset, .unset, .unset, .unset, .unset, .unset, .unset, .unset, .unset] [(.int (p5 &&& (4 : Int32)))])) _
          refine XS.ifNo X8.here hx rfl (hb hby at_70) rfl ((if0 _ _).trans (feq b).1) ?_
          refine XS.iload X8.here hx rfl (hb hby at_73) rfl ?_
          show Steps p.tables e below (T8.setTop (mkF m 75 #[iv p0, iv p1, iv p2, iv p3, iv p4, iv p5, iv x0, iv x1, iv x2, iv x3, iv y0, iv y1, .unset, .unset, .unset, .unset, .unset, .unset, .unset, .unset, .unset, .unset] [(.int x2)])) _
          refine XS.goto X8.here hx rfl (pc0 := 75) (pc' := 87) rfl (hb hby at_75) (by decide) (by decide) ?_
          show Steps p.tables e below (T8.setTop (mkF m 87 #[iv p0, iv p1, iv p2, iv p3, iv p4, iv p5, iv x0, iv x1, iv x2, iv x3, iv y0, iv y1, .unset, .unset, .unset, .unset, .unset, .unset, .unset, .unset, .unset, .unset] [(.int x2)])) _
          exact k
        refine own_lift sg70 ?_
        show own_Go p.tables e below (T8.setTop (mkF m 87 #[iv p0, iv p1, iv p2, iv p3, iv p4, iv p5, iv x0, iv x1, iv x2, iv x3, iv y0, iv y1, .unset, .unset, .unset, .unset, .unset, .unset, .unset, .unset, .unset, .unset] [(.int x2)])) _
        rw [show y2 = x2 from (hy2.trans (if_neg b))] at join10
        exact join10 _ _ X8 e8 N8
    by_cases b : (p5 &&& (2 : Int32)) = (0 : Int32)
    · have sg71 : ∀ t, Steps p.tables e below (T6.setTop (mkF m 64 #[iv p0, iv p1, iv p2, iv p3, iv p4, iv p5, iv x0, iv x1, iv x2, iv x3, iv y0, .unset, .unset, .unset, .unset, .unset, .unset, .unset, .unset, .unset, .unset, .unset] [(.int ((p4.toUInt32 >>> ((16 : Int32) &&& 31).toUInt32).toInt32))])) t → Steps p.tables e below (T6.setTop (mkF m 47 #[iv p0, iv p1, iv p2, iv p3, iv p4, iv p5, iv x0, iv x1, iv x2, iv x3, iv y0, .unset, .unset, .unset, .unset, .unset, .unset, .unset, .unset, .unset, .unset, .unset] [])) t := by
        intro t k
        refine XS.iload X6.here hx rfl (hb hby at_47) rfl ?_
        show Steps p.tables e below (T6.setTop (mkF m 49 #[iv p0, iv p1, iv p2, iv p3, iv p4, iv p5, iv x0, iv x1, iv x2, iv x3, iv y0, .unset, .unset, .unset, .unset, .unset, .unset, .unset, .unset, .unset, .unset, .unset] [(.int p5)])) _
        refine XS.iconst X6.here hx rfl (hb hby at_49) ?_
        refine XS.iand X6.here hx rfl (hb hby at_50) rfl ?_
        show Steps p.tables e below (T6.setTop (mkF m 51 #[iv p0, iv p1, iv p2, iv p3, iv p4, iv p5, iv x0, iv x1, iv x2, iv x3, iv y0, .unset, .unset, .unset, .unset, .unset, .unset, .unset, .unset, .unset, .unset, .unset] [(.int (p5 &&& (2 : Int32)))])) _
        refine XS.ifYes X6.here hx rfl (pc0 := 51) (pc' := 59) rfl (hb hby at_51) rfl ((if0 _ _).trans (teq b).1) (by decide) (by decide) ?_
        refine XS.iload X6.here hx rfl (hb hby at_59) rfl ?_
        show Steps p.tables e below (T6.setTop (mkF m 61 #[iv p0, iv p1, iv p2, iv p3, iv p4, iv p5, iv x0, iv x1, iv x2, iv x3, iv y0, .unset, .unset, .unset, .unset, .unset, .unset, .unset, .unset, .unset, .unset, .unset] [(.int p4)])) _
        refine XS.bipush X6.here hx rfl (hb hby at_61) ?_
        refine XS.iushr X6.here hx rfl (hb hby at_63) rfl ?_
        show Steps p.tables e below (T6.setTop (mkF m 64 #[iv p0, iv p1, iv p2, iv p3, iv p4, iv p5, iv x0, iv x1, iv x2, iv x3, iv y0, .unset, .unset, .unset, .unset, .unset, .unset, .unset, .unset, .unset, .unset, .unset] [(.int ((p4.toUInt32 >>> ((16 : Int32) &&& 31).toUInt32).toInt32))])) _
        exact k
      refine own_lift sg71 ?_
      show own_Go p.tables e below (T6.setTop (mkF m 64 #[iv p0, iv p1, iv p2, iv p3, iv p4, iv p5, iv x0, iv x1, iv x2, iv x3, iv y0, .unset, .unset, .unset, .unset, .unset, .unset, .unset, .unset, .unset, .unset, .unset] [(.int ((p4.toUInt32 >>> ((16 : Int32) &&& 31).toUInt32).toInt32))])) _
      rw [show y1 = ((p4.toUInt32 >>> ((16 : Int32) &&& 31).toUInt32).toInt32) from (hy1.trans (if_pos b))] at join8
      exact join8 _ _ X6 e6 N6
    · have sg72 : ∀ t, Steps p.tables e below (T6.setTop (mkF m 64 #[iv p0, iv p1, iv p2, iv p3, iv p4, iv p5, iv x0, iv x1, iv x2, iv x3, iv y0, .unset, .unset, .unset, .unset, .unset, .unset, .unset, .unset, .unset, .unset, .unset] [(.int x1)])) t → Steps p.tables e below (T6.setTop (mkF m 47 #[iv p0, iv p1, iv p2, iv p3, iv p4, iv p5, iv x0, iv x1, iv x2, iv x3, iv y0, .unset, .unset, .unset, .unset, .unset, .unset, .unset, .unset, .unset, .unset, .unset] [])) t := by
        intro t k
        refine XS.iload X6.here hx rfl (hb hby at_47) rfl ?_
        show Steps p.tables e below (T6.setTop (mkF m 49 #[iv p0, iv p1, iv p2, iv p3, iv p4, iv p5, iv x0, iv x1, iv x2, iv x3, iv y0, .unset, .unset, .unset, .unset, .unset, .unset, .unset, .unset, .unset, .unset, .unset] [(.int p5)])) _
        refine XS.iconst X6.here hx rfl (hb hby at_49) ?_
        refine XS.iand X6.here hx rfl (hb hby at_50) rfl ?_
        show Steps p.tables e below (T6.setTop (mkF m 51 #[iv p0, iv p1, iv p2, iv p3, iv p4, iv p5, iv x0, iv x1, iv x2, iv x3, iv y0, .unset, .unset, .unset, .unset, .unset, .unset, .unset, .unset, .unset, .unset, .unset] [(.int (p5 &&& (2 : Int32)))])) _
        refine XS.ifNo X6.here hx rfl (hb hby at_51) rfl ((if0 _ _).trans (feq b).1) ?_
        refine XS.iload X6.here hx rfl (hb hby at_54) rfl ?_
        show Steps p.tables e below (T6.setTop (mkF m 56 #[iv p0, iv p1, iv p2, iv p3, iv p4, iv p5, iv x0, iv x1, iv x2, iv x3, iv y0, .unset, .unset, .unset, .unset, .unset, .unset, .unset, .unset, .unset, .unset, .unset] [(.int x1)])) _
        refine XS.goto X6.here hx rfl (pc0 := 56) (pc' := 64) rfl (hb hby at_56) (by decide) (by decide) ?_
        show Steps p.tables e below (T6.setTop (mkF m 64 #[iv p0, iv p1, iv p2, iv p3, iv p4, iv p5, iv x0, iv x1, iv x2, iv x3, iv y0, .unset, .unset, .unset, .unset, .unset, .unset, .unset, .unset, .unset, .unset, .unset] [(.int x1)])) _
        exact k
      refine own_lift sg72 ?_
      show own_Go p.tables e below (T6.setTop (mkF m 64 #[iv p0, iv p1, iv p2, iv p3, iv p4, iv p5, iv x0, iv x1, iv x2, iv x3, iv y0, .unset, .unset, .unset, .unset, .unset, .unset, .unset, .unset, .unset, .unset, .unset] [(.int x1)])) _
      rw [show y1 = x1 from (hy1.trans (if_neg b))] at join8
      exact join8 _ _ X6 e6 N6
  by_cases b : (p5 &&& (1 : Int32)) = (0 : Int32)
  · have sg73 : ∀ t, Steps p.tables e below (s₁.setTop (mkF m 45 #[iv p0, iv p1, iv p2, iv p3, iv p4, iv p5, iv x0, iv x1, iv x2, iv x3, .unset, .unset, .unset, .unset, .unset, .unset, .unset, .unset, .unset, .unset, .unset, .unset] [(.int (p4 &&& (65535 : Int32)))])) t → Steps p.tables e below (s₁.setTop (mkF m 28 #[iv p0, iv p1, iv p2, iv p3, iv p4, iv p5, iv x0, iv x1, iv x2, iv x3, .unset, .unset, .unset, .unset, .unset, .unset, .unset, .unset, .unset, .unset, .unset, .unset] [])) t := by
      intro t k
      refine XS.iload X0.here hx rfl (hb hby at_28) rfl ?_
      show Steps p.tables e below (s₁.setTop (mkF m 30 #[iv p0, iv p1, iv p2, iv p3, iv p4, iv p5, iv x0, iv x1, iv x2, iv x3, .unset, .unset, .unset, .unset, .unset, .unset, .unset, .unset, .unset, .unset, .unset, .unset] [(.int p5)])) _
      refine XS.iconst X0.here hx rfl (hb hby at_30) ?_
      refine XS.iand X0.here hx rfl (hb hby at_31) rfl ?_
      show Steps p.tables e below (s₁.setTop (mkF m 32 #[iv p0, iv p1, iv p2, iv p3, iv p4, iv p5, iv x0, iv x1, iv x2, iv x3, .unset, .unset, .unset, .unset, .unset, .unset, .unset, .unset, .unset, .unset, .unset, .unset] [(.int (p5 &&& (1 : Int32)))])) _
      refine XS.ifYes X0.here hx rfl (pc0 := 32) (pc' := 40) rfl (hb hby at_32) rfl ((if0 _ _).trans (teq b).1) (by decide) (by decide) ?_
      refine XS.iload X0.here hx rfl (hb hby at_40) rfl ?_
      show Steps p.tables e below (s₁.setTop (mkF m 42 #[iv p0, iv p1, iv p2, iv p3, iv p4, iv p5, iv x0, iv x1, iv x2, iv x3, .unset, .unset, .unset, .unset, .unset, .unset, .unset, .unset, .unset, .unset, .unset, .unset] [(.int p4)])) _
      refine X0.ldcInt hx hown (mvT hZ (wd hw 0 rfl)) (g := (mkF m 42 #[iv p0, iv p1, iv p2, iv p3, iv p4, iv p5, iv x0, iv x1, iv x2, iv x3, .unset, .unset, .unset, .unset, .unset, .unset, .unset, .unset, .unset, .unset, .unset, .unset] [(.int p4)])) rfl (hb hby at_42) _ ?_
      refine XS.iand X0.here hx rfl (hb hby at_44) rfl ?_
      show Steps p.tables e below (s₁.setTop (mkF m 45 #[iv p0, iv p1, iv p2, iv p3, iv p4, iv p5, iv x0, iv x1, iv x2, iv x3, .unset, .unset, .unset, .unset, .unset, .unset, .unset, .unset, .unset, .unset, .unset, .unset] [(.int (p4 &&& (65535 : Int32)))])) _
      exact k
    refine own_lift sg73 ?_
    show own_Go p.tables e below (s₁.setTop (mkF m 45 #[iv p0, iv p1, iv p2, iv p3, iv p4, iv p5, iv x0, iv x1, iv x2, iv x3, .unset, .unset, .unset, .unset, .unset, .unset, .unset, .unset, .unset, .unset, .unset, .unset] [(.int (p4 &&& (65535 : Int32)))])) _
    rw [show y0 = (p4 &&& (65535 : Int32)) from (hy0.trans (if_pos b))] at join6
    exact join6 _ _ X0 e0 N0
  · have sg74 : ∀ t, Steps p.tables e below (s₁.setTop (mkF m 45 #[iv p0, iv p1, iv p2, iv p3, iv p4, iv p5, iv x0, iv x1, iv x2, iv x3, .unset, .unset, .unset, .unset, .unset, .unset, .unset, .unset, .unset, .unset, .unset, .unset] [(.int x0)])) t → Steps p.tables e below (s₁.setTop (mkF m 28 #[iv p0, iv p1, iv p2, iv p3, iv p4, iv p5, iv x0, iv x1, iv x2, iv x3, .unset, .unset, .unset, .unset, .unset, .unset, .unset, .unset, .unset, .unset, .unset, .unset] [])) t := by
      intro t k
      refine XS.iload X0.here hx rfl (hb hby at_28) rfl ?_
      show Steps p.tables e below (s₁.setTop (mkF m 30 #[iv p0, iv p1, iv p2, iv p3, iv p4, iv p5, iv x0, iv x1, iv x2, iv x3, .unset, .unset, .unset, .unset, .unset, .unset, .unset, .unset, .unset, .unset, .unset, .unset] [(.int p5)])) _
      refine XS.iconst X0.here hx rfl (hb hby at_30) ?_
      refine XS.iand X0.here hx rfl (hb hby at_31) rfl ?_
      show Steps p.tables e below (s₁.setTop (mkF m 32 #[iv p0, iv p1, iv p2, iv p3, iv p4, iv p5, iv x0, iv x1, iv x2, iv x3, .unset, .unset, .unset, .unset, .unset, .unset, .unset, .unset, .unset, .unset, .unset, .unset] [(.int (p5 &&& (1 : Int32)))])) _
      refine XS.ifNo X0.here hx rfl (hb hby at_32) rfl ((if0 _ _).trans (feq b).1) ?_
      refine XS.iload X0.here hx rfl (hb hby at_35) rfl ?_
      show Steps p.tables e below (s₁.setTop (mkF m 37 #[iv p0, iv p1, iv p2, iv p3, iv p4, iv p5, iv x0, iv x1, iv x2, iv x3, .unset, .unset, .unset, .unset, .unset, .unset, .unset, .unset, .unset, .unset, .unset, .unset] [(.int x0)])) _
      refine XS.goto X0.here hx rfl (pc0 := 37) (pc' := 45) rfl (hb hby at_37) (by decide) (by decide) ?_
      show Steps p.tables e below (s₁.setTop (mkF m 45 #[iv p0, iv p1, iv p2, iv p3, iv p4, iv p5, iv x0, iv x1, iv x2, iv x3, .unset, .unset, .unset, .unset, .unset, .unset, .unset, .unset, .unset, .unset, .unset, .unset] [(.int x0)])) _
      exact k
    refine own_lift sg74 ?_
    show own_Go p.tables e below (s₁.setTop (mkF m 45 #[iv p0, iv p1, iv p2, iv p3, iv p4, iv p5, iv x0, iv x1, iv x2, iv x3, .unset, .unset, .unset, .unset, .unset, .unset, .unset, .unset, .unset, .unset, .unset, .unset] [(.int x0)])) _
    rw [show y0 = x0 from (hy0.trans (if_neg b))] at join6
    exact join6 _ _ X0 e0 N0
theorem ef_rm0_4 (m : MethodId) (x0 : Int32) (x1 : Int32) (x2 : Int32) (x3 : Int32) (x4 : Int32) (x5 : Int32) : entryFrame m #[(.int x0), (.int x1), (.int x2), (.int x3), (.int x4), (.int x5)] maxLocals = mkF m 0 #[.val (.int x0), .val (.int x1), .val (.int x2), .val (.int x3), .val (.int x4), .val (.int x5), .unset, .unset, .unset, .unset, .unset, .unset, .unset, .unset, .unset, .unset, .unset, .unset, .unset, .unset, .unset, .unset] [] := by first | (simp [entryFrame, mkF, argsToLocals, Value.category, maxLocals]; done) | rfl
set_option maxRecDepth 65536 in
set_option maxHeartbeats 40000000 in
theorem rm0_4 (l : Launch) (Z : State) (a0 : Array Value) (hw : ∀ d ∈ tables_1, d.before a0 Z = true) (ws : List Jvm.Cond) (p0 : Int32) (p1 : Int32) (p2 : Int32) (p3 : Int32) (p4 : Int32) (p5 : Int32) (cs : Int32) (x0 : Int32) (x1 : Int32) (x2 : Int32) (x3 : Int32) (y0 : Int32) (y1 : Int32) (y2 : Int32) (y3 : Int32) (kk : Int32) (h0 : Heap) (n0 : Nat) (Z0 : n0 ≤ h0.size) (S_cs : Sta Z h0 "java/lang/String" "COMPACT_STRINGS" "Z" (.int cs)) (P_cs : ¬ cs = 0) (hx0 : (p0 &&& (65535 : Int32)) = x0) (hx1 : (p1 &&& (65535 : Int32)) = x1) (hx2 : (p2 &&& (255 : Int32)) = x2) (hx3 : ((p3 <<< ((8 : Int32) &&& 31)) >>> ((8 : Int32) &&& 31)) = x3) (hy0 : y0 = if (p5 &&& (1 : Int32)) = (0 : Int32) then (p4 &&& (65535 : Int32)) else x0) (hy1 : y1 = if (p5 &&& (2 : Int32)) = (0 : Int32) then ((p4.toUInt32 >>> ((16 : Int32) &&& 31).toUInt32).toInt32) else x1) (hy2 : y2 = if (p5 &&& (4 : Int32)) = (0 : Int32) then (((p4.toUInt32 >>> ((8 : Int32) &&& 31).toUInt32).toInt32) &&& (255 : Int32)) else x2) (hy3 : y3 = if (p5 &&& (8 : Int32)) = (0 : Int32) then ((p4 <<< ((8 : Int32) &&& 31)) >>> ((8 : Int32) &&& 31)) else x3) (hk : (((p5.toUInt32 >>> ((4 : Int32) &&& 31).toUInt32).toInt32) &&& (3 : Int32)) = kk) (rx0 : ¬ (x0 < (0 : Int32)) ∧ ¬ ((65535 : Int32) < x0)) (rx1 : ¬ (x1 < (0 : Int32)) ∧ ¬ ((65535 : Int32) < x1)) (rx2 : ¬ (x2 < (0 : Int32)) ∧ ¬ ((255 : Int32) < x2)) (rx3 : ¬ (x3 < (-8388608 : Int32)) ∧ ¬ ((8388607 : Int32) < x3)) (ry0 : ¬ (y0 < (0 : Int32)) ∧ ¬ ((65535 : Int32) < y0)) (ry1 : ¬ (y1 < (0 : Int32)) ∧ ¬ ((65535 : Int32) < y1)) (ry2 : ¬ (y2 < (0 : Int32)) ∧ ¬ ((255 : Int32) < y2)) (ry3 : ¬ (y3 < (-8388608 : Int32)) ∧ ¬ ((8388607 : Int32) < y3)) (k2 : kk < (2 : Int32)) (d0 : x0 = y0) (d1 : x1 = y1) (d2 : x2 = y2) (d3 : x3 = y3) :
    MetFree l x (head1 (Jvm.Cond.code x code maxLocals ret :: ws) room_1) (fun a U => a = #[(.int p0), (.int p1), (.int p2), (.int p3), (.int p4), (.int p5)] ∧ Z.Warmed39 U.vm ∧ U.heap = h0) (fun _ _ _ _ _ => True) (fun _ U o U' => ∃ v L, o = .returned v ∧ Q0 Z  h0 n0 v U'.heap L ∧ FrameEnd U o U' L 24 128) := by
  refine MetFree.of_bodySF (plainFor_of_name pn_1) hisR ?_
  intro p e s m args below meth c s₁ Bd hml0 hP hK
  obtain ⟨rfl, hZ, hh⟩ := hP
  have hx := Bd.exec
  have hby := Bd.bytes
  have hml : c.maxLocals = 22 := hml0
  have hown : s.vm.findClass "com/example/halyard/halyard/core/mal/TypeIdEqualsPinLaw" = some m.cls := findClass_of_methodNamed Bd.named
  have hnm := (name_of_methodNamed Bd.named Bd.method).1
  have X0 : Stand p l e room_1 s m #[(.int p0), (.int p1), (.int p2), (.int p3), (.int p4), (.int p5)] below meth c s₁ [] 0 0 := Stand.of_body Bd
  have e0 : s₁.heap = h0 := by rw [← hh, Bd.state]; rfl
  have N0 := Fr.nil n0
  refine own_go (own_lift (fun t k => castTop (ef_rm0_4 m p0 p1 p2 p3 p4 p5) k) ?_)
  show own_Go p.tables e below (s₁.setTop (mkF m 0 #[iv p0, iv p1, iv p2, iv p3, iv p4, iv p5, .unset, .unset, .unset, .unset, .unset, .unset, .unset, .unset, .unset, .unset, .unset, .unset, .unset, .unset, .unset, .unset] [])) _
  have sg1 : ∀ t, Steps p.tables e below (s₁.setTop (mkF m 4 #[iv p0, iv p1, iv p2, iv p3, iv p4, iv p5, .unset, .unset, .unset, .unset, .unset, .unset, .unset, .unset, .unset, .unset, .unset, .unset, .unset, .unset, .unset, .unset] [(.int (p0 &&& (65535 : Int32)))])) t → Steps p.tables e below (s₁.setTop (mkF m 0 #[iv p0, iv p1, iv p2, iv p3, iv p4, iv p5, .unset, .unset, .unset, .unset, .unset, .unset, .unset, .unset, .unset, .unset, .unset, .unset, .unset, .unset, .unset, .unset] [])) t := by
    intro t k
    refine XS.iloadN X0.here hx rfl (hb hby at_0) rfl ?_
    show Steps p.tables e below (s₁.setTop (mkF m 1 #[iv p0, iv p1, iv p2, iv p3, iv p4, iv p5, .unset, .unset, .unset, .unset, .unset, .unset, .unset, .unset, .unset, .unset, .unset, .unset, .unset, .unset, .unset, .unset] [(.int p0)])) _
    refine X0.ldcInt hx hown (mvT hZ (wd hw 0 rfl)) (g := (mkF m 1 #[iv p0, iv p1, iv p2, iv p3, iv p4, iv p5, .unset, .unset, .unset, .unset, .unset, .unset, .unset, .unset, .unset, .unset, .unset, .unset, .unset, .unset, .unset, .unset] [(.int p0)])) rfl (hb hby at_1) _ ?_
    refine XS.iand X0.here hx rfl (hb hby at_3) rfl ?_
    show Steps p.tables e below (s₁.setTop (mkF m 4 #[iv p0, iv p1, iv p2, iv p3, iv p4, iv p5, .unset, .unset, .unset, .unset, .unset, .unset, .unset, .unset, .unset, .unset, .unset, .unset, .unset, .unset, .unset, .unset] [(.int (p0 &&& (65535 : Int32)))])) _
    exact k
  refine own_lift sg1 ?_
  show own_Go p.tables e below (s₁.setTop (mkF m 4 #[iv p0, iv p1, iv p2, iv p3, iv p4, iv p5, .unset, .unset, .unset, .unset, .unset, .unset, .unset, .unset, .unset, .unset, .unset, .unset, .unset, .unset, .unset, .unset] [(.int (p0 &&& (65535 : Int32)))])) _
  rw [hx0]
  show own_Go p.tables e below (s₁.setTop (mkF m 4 #[iv p0, iv p1, iv p2, iv p3, iv p4, iv p5, .unset, .unset, .unset, .unset, .unset, .unset, .unset, .unset, .unset, .unset, .unset, .unset, .unset, .unset, .unset, .unset] [(.int x0)])) _
  have sg2 : ∀ t, Steps p.tables e below (s₁.setTop (mkF m 10 #[iv p0, iv p1, iv p2, iv p3, iv p4, iv p5, iv x0, .unset, .unset, .unset, .unset, .unset, .unset, .unset, .unset, .unset, .unset, .unset, .unset, .unset, .unset, .unset] [(.int (p1 &&& (65535 : Int32)))])) t → Steps p.tables e below (s₁.setTop (mkF m 4 #[iv p0, iv p1, iv p2, iv p3, iv p4, iv p5, .unset, .unset, .unset, .unset, .unset, .unset, .unset, .unset, .unset, .unset, .unset, .unset, .unset, .unset, .unset, .unset] [(.int x0)])) t := by
    intro t k
    refine XS.istore X0.here hx rfl (hb hby at_4) rfl (l' := #[iv p0, iv p1, iv p2, iv p3, iv p4, iv p5, iv x0, .unset, .unset, .unset, .unset, .unset, .unset, .unset, .unset, .unset, .unset, .unset, .unset, .unset, .unset, .unset]) rfl ?_
    show Steps p.tables e below (s₁.setTop (mkF m 6 #[iv p0, iv p1, iv p2, iv p3, iv p4, iv p5, iv x0, .unset, .unset, .unset, .unset, .unset, .unset, .unset, .unset, .unset, .unset, .unset, .unset, .unset, .unset, .unset] [])) _
    refine XS.iloadN X0.here hx rfl (hb hby at_6) rfl ?_
    refine X0.ldcInt hx hown (mvT hZ (wd hw 0 rfl)) (g := (mkF m 7 #[iv p0, iv p1, iv p2, iv p3, iv p4, iv p5, iv x0, .unset, .unset, .unset, .unset, .unset, .unset, .unset, .unset, .unset, .unset, .unset, .unset, .unset, .unset, .unset] [(.int p1)])) rfl (hb hby at_7) _ ?_
    show Steps p.tables e below (s₁.setTop (mkF m 9 #[iv p0, iv p1, iv p2, iv p3, iv p4, iv p5, iv x0, .unset, .unset, .unset, .unset, .unset, .unset, .unset, .unset, .unset, .unset, .unset, .unset, .unset, .unset, .unset] [(.int 65535), (.int p1)])) _
    refine XS.iand X0.here hx rfl (hb hby at_9) rfl ?_
    show Steps p.tables e below (s₁.setTop (mkF m 10 #[iv p0, iv p1, iv p2, iv p3, iv p4, iv p5, iv x0, .unset, .unset, .unset, .unset, .unset, .unset, .unset, .unset, .unset, .unset, .unset, .unset, .unset, .unset, .unset] [(.int (p1 &&& (65535 : Int32)))])) _
    exact k
  refine own_lift sg2 ?_
  show own_Go p.tables e below (s₁.setTop (mkF m 10 #[iv p0, iv p1, iv p2, iv p3, iv p4, iv p5, iv x0, .unset, .unset, .unset, .unset, .unset, .unset, .unset, .unset, .unset, .unset, .unset, .unset, .unset, .unset, .unset] [(.int (p1 &&& (65535 : Int32)))])) _
  rw [hx1]
  show own_Go p.tables e below (s₁.setTop (mkF m 10 #[iv p0, iv p1, iv p2, iv p3, iv p4, iv p5, iv x0, .unset, .unset, .unset, .unset, .unset, .unset, .unset, .unset, .unset, .unset, .unset, .unset, .unset, .unset, .unset] [(.int x1)])) _
  have sg3 : ∀ t, Steps p.tables e below (s₁.setTop (mkF m 17 #[iv p0, iv p1, iv p2, iv p3, iv p4, iv p5, iv x0, iv x1, .unset, .unset, .unset, .unset, .unset, .unset, .unset, .unset, .unset, .unset, .unset, .unset, .unset, .unset] [(.int (p2 &&& (255 : Int32)))])) t → Steps p.tables e below (s₁.setTop (mkF m 10 #[iv p0, iv p1, iv p2, iv p3, iv p4, iv p5, iv x0, .unset, .unset, .unset, .unset, .unset, .unset, .unset, .unset, .unset, .unset, .unset, .unset, .unset, .unset, .unset] [(.int x1)])) t := by
    intro t k
    refine XS.istore X0.here hx rfl (hb hby at_10) rfl (l' := #[iv p0, iv p1, iv p2, iv p3, iv p4, iv p5, iv x0, iv x1, .unset, .unset, .unset, .unset, .unset, .unset, .unset, .unset, .unset, .unset, .unset, .unset, .unset, .unset]) rfl ?_
    show Steps p.tables e below (s₁.setTop (mkF m 12 #[iv p0, iv p1, iv p2, iv p3, iv p4, iv p5, iv x0, iv x1, .unset, .unset, .unset, .unset, .unset, .unset, .unset, .unset, .unset, .unset, .unset, .unset, .unset, .unset] [])) _
    refine XS.iloadN X0.here hx rfl (hb hby at_12) rfl ?_
    refine XS.sipush X0.here hx rfl (hb hby at_13) ?_
    show Steps p.tables e below (s₁.setTop (mkF m 16 #[iv p0, iv p1, iv p2, iv p3, iv p4, iv p5, iv x0, iv x1, .unset, .unset, .unset, .unset, .unset, .unset, .unset, .unset, .unset, .unset, .unset, .unset, .unset, .unset] [(.int 255), (.int p2)])) _
    refine XS.iand X0.here hx rfl (hb hby at_16) rfl ?_
    show Steps p.tables e below (s₁.setTop (mkF m 17 #[iv p0, iv p1, iv p2, iv p3, iv p4, iv p5, iv x0, iv x1, .unset, .unset, .unset, .unset, .unset, .unset, .unset, .unset, .unset, .unset, .unset, .unset, .unset, .unset] [(.int (p2 &&& (255 : Int32)))])) _
    exact k
  refine own_lift sg3 ?_
  show own_Go p.tables e below (s₁.setTop (mkF m 17 #[iv p0, iv p1, iv p2, iv p3, iv p4, iv p5, iv x0, iv x1, .unset, .unset, .unset, .unset, .unset, .unset, .unset, .unset, .unset, .unset, .unset, .unset, .unset, .unset] [(.int (p2 &&& (255 : Int32)))])) _
  rw [hx2]
  show own_Go p.tables e below (s₁.setTop (mkF m 17 #[iv p0, iv p1, iv p2, iv p3, iv p4, iv p5, iv x0, iv x1, .unset, .unset, .unset, .unset, .unset, .unset, .unset, .unset, .unset, .unset, .unset, .unset, .unset, .unset] [(.int x2)])) _
  have sg4 : ∀ t, Steps p.tables e below (s₁.setTop (mkF m 26 #[iv p0, iv p1, iv p2, iv p3, iv p4, iv p5, iv x0, iv x1, iv x2, .unset, .unset, .unset, .unset, .unset, .unset, .unset, .unset, .unset, .unset, .unset, .unset, .unset] [(.int ((p3 <<< ((8 : Int32) &&& 31)) >>> ((8 : Int32) &&& 31)))])) t → Steps p.tables e below (s₁.setTop (mkF m 17 #[iv p0, iv p1, iv p2, iv p3, iv p4, iv p5, iv x0, iv x1, .unset, .unset, .unset, .unset, .unset, .unset, .unset, .unset, .unset, .unset, .unset, .unset, .unset, .unset] [(.int x2)])) t := by
    intro t k
    refine XS.istore X0.here hx rfl (hb hby at_17) rfl (l' := #[iv p0, iv p1, iv p2, iv p3, iv p4, iv p5, iv x0, iv x1, iv x2, .unset, .unset, .unset, .unset, .unset, .unset, .unset, .unset, .unset, .unset, .unset, .unset, .unset]) rfl ?_
    show Steps p.tables e below (s₁.setTop (mkF m 19 #[iv p0, iv p1, iv p2, iv p3, iv p4, iv p5, iv x0, iv x1, iv x2, .unset, .unset, .unset, .unset, .unset, .unset, .unset, .unset, .unset, .unset, .unset, .unset, .unset] [])) _
    refine XS.iloadN X0.here hx rfl (hb hby at_19) rfl ?_
    refine XS.bipush X0.here hx rfl (hb hby at_20) ?_
    show Steps p.tables e below (s₁.setTop (mkF m 22 #[iv p0, iv p1, iv p2, iv p3, iv p4, iv p5, iv x0, iv x1, iv x2, .unset, .unset, .unset, .unset, .unset, .unset, .unset, .unset, .unset, .unset, .unset, .unset, .unset] [(.int 8), (.int p3)])) _
    refine XS.ishl X0.here hx rfl (hb hby at_22) rfl ?_
    refine XS.bipush X0.here hx rfl (hb hby at_23) ?_
    show Steps p.tables e below (s₁.setTop (mkF m 25 #[iv p0, iv p1, iv p2, iv p3, iv p4, iv p5, iv x0, iv x1, iv x2, .unset, .unset, .unset, .unset, .unset, .unset, .unset, .unset, .unset, .unset, .unset, .unset, .unset] [(.int 8), (.int (p3 <<< ((8 : Int32) &&& 31)))])) _
    refine XS.ishr X0.here hx rfl (hb hby at_25) rfl ?_
    show Steps p.tables e below (s₁.setTop (mkF m 26 #[iv p0, iv p1, iv p2, iv p3, iv p4, iv p5, iv x0, iv x1, iv x2, .unset, .unset, .unset, .unset, .unset, .unset, .unset, .unset, .unset, .unset, .unset, .unset, .unset] [(.int ((p3 <<< ((8 : Int32) &&& 31)) >>> ((8 : Int32) &&& 31)))])) _
    exact k
  refine own_lift sg4 ?_
  show own_Go p.tables e below (s₁.setTop (mkF m 26 #[iv p0, iv p1, iv p2, iv p3, iv p4, iv p5, iv x0, iv x1, iv x2, .unset, .unset, .unset, .unset, .unset, .unset, .unset, .unset, .unset, .unset, .unset, .unset, .unset] [(.int ((p3 <<< ((8 : Int32) &&& 31)) >>> ((8 : Int32) &&& 31)))])) _
  rw [hx3]
  show own_Go p.tables e below (s₁.setTop (mkF m 26 #[iv p0, iv p1, iv p2, iv p3, iv p4, iv p5, iv x0, iv x1, iv x2, .unset, .unset, .unset, .unset, .unset, .unset, .unset, .unset, .unset, .unset, .unset, .unset, .unset] [(.int x3)])) _
  have sg5 : ∀ t, Steps p.tables e below (s₁.setTop (mkF m 28 #[iv p0, iv p1, iv p2, iv p3, iv p4, iv p5, iv x0, iv x1, iv x2, iv x3, .unset, .unset, .unset, .unset, .unset, .unset, .unset, .unset, .unset, .unset, .unset, .unset] [])) t → Steps p.tables e below (s₁.setTop (mkF m 26 #[iv p0, iv p1, iv p2, iv p3, iv p4, iv p5, iv x0, iv x1, iv x2, .unset, .unset, .unset, .unset, .unset, .unset, .unset, .unset, .unset, .unset, .unset, .unset, .unset] [(.int x3)])) t := by
    intro t k
    refine XS.istore X0.here hx rfl (hb hby at_26) rfl (l' := #[iv p0, iv p1, iv p2, iv p3, iv p4, iv p5, iv x0, iv x1, iv x2, iv x3, .unset, .unset, .unset, .unset, .unset, .unset, .unset, .unset, .unset, .unset, .unset, .unset]) rfl ?_
    show Steps p.tables e below (s₁.setTop (mkF m 28 #[iv p0, iv p1, iv p2, iv p3, iv p4, iv p5, iv x0, iv x1, iv x2, iv x3, .unset, .unset, .unset, .unset, .unset, .unset, .unset, .unset, .unset, .unset, .unset, .unset] [])) _
    exact k
  refine own_lift sg5 ?_
  show own_Go p.tables e below (s₁.setTop (mkF m 28 #[iv p0, iv p1, iv p2, iv p3, iv p4, iv p5, iv x0, iv x1, iv x2, iv x3, .unset, .unset, .unset, .unset, .unset, .unset, .unset, .unset, .unset, .unset, .unset, .unset] [])) _
  have join6 : ∀ (T6 : State) (locs6 : List Loc), Stand p l e room_1 s m #[(.int p0), (.int p1), (.int p2), (.int p3), (.int p4), (.int p5)] below meth c T6 locs6 0 0 → T6.heap = h0 → Fr n0 locs6 → own_Go p.tables e below (T6.setTop (mkF m 45 #[iv p0, iv p1, iv p2, iv p3, iv p4, iv p5, iv x0, iv x1, iv x2, iv x3, .unset, .unset, .unset, .unset, .unset, .unset, .unset, .unset, .unset, .unset, .unset, .unset] [(.int y0)])) (fun s₂ o => s₂.status = .running ∧ Ended s₂ below o ∧ ∃ v L, o = .returned v ∧ Q0 Z  h0 n0 v s₂.heap L ∧ FrameEnd s o s₂ L 24 128) := by
    intro T6 locs6 X6 e6 N6
    have sg7 : ∀ t, Steps p.tables e below (T6.setTop (mkF m 47 #[iv p0, iv p1, iv p2, iv p3, iv p4, iv p5, iv x0, iv x1, iv x2, iv x3, iv y0, .unset, .unset, .unset, .unset, .unset, .unset, .unset, .unset, .unset, .unset, .unset] [])) t → Steps p.tables e below (T6.setTop (mkF m 45 #[iv p0, iv p1, iv p2, iv p3, iv p4, iv p5, iv x0, iv x1, iv x2, iv x3, .unset, .unset, .unset, .unset, .unset, .unset, .unset, .unset, .unset, .unset, .unset, .unset] [(.int y0)])) t := by
      intro t k
      refine XS.istore X6.here hx rfl (hb hby at_45) rfl (l' := #[iv p0, iv p1, iv p2, iv p3, iv p4, iv p5, iv x0, iv x1, iv x2, iv x3, iv y0, .unset, .unset, .unset, .unset, .unset, .unset, .unset, .unset, .unset, .unset, .unset]) rfl ?_
      show Steps p.tables e below (T6.setTop (mkF m 47 #[iv p0, iv p1, iv p2, iv p3, iv p4, iv p5, iv x0, iv x1, iv x2, iv x3, iv y0, .unset, .unset, .unset, .unset, .unset, .unset, .unset, .unset, .unset, .unset, .unset] [])) _
      exact k
    refine own_lift sg7 ?_
    show own_Go p.tables e below (T6.setTop (mkF m 47 #[iv p0, iv p1, iv p2, iv p3, iv p4, iv p5, iv x0, iv x1, iv x2, iv x3, iv y0, .unset, .unset, .unset, .unset, .unset, .unset, .unset, .unset, .unset, .unset, .unset] [])) _
    have join8 : ∀ (T8 : State) (locs8 : List Loc), Stand p l e room_1 s m #[(.int p0), (.int p1), (.int p2), (.int p3), (.int p4), (.int p5)] below meth c T8 locs8 0 0 → T8.heap = h0 → Fr n0 locs8 → own_Go p.tables e below (T8.setTop (mkF m 64 #[iv p0, iv p1, iv p2, iv p3, iv p4, iv p5, iv x0, iv x1, iv x2, iv x3, iv y0, .unset, .unset, .unset, .unset, .unset, .unset, .unset, .unset, .unset, .unset, .unset] [(.int y1)])) (fun s₂ o => s₂.status = .running ∧ Ended s₂ below o ∧ ∃ v L, o = .returned v ∧ Q0 Z  h0 n0 v s₂.heap L ∧ FrameEnd s o s₂ L 24 128) := by
      intro T8 locs8 X8 e8 N8
      have sg9 : ∀ t, Steps p.tables e below (T8.setTop (mkF m 66 #[iv p0, iv p1, iv p2, iv p3, iv p4, iv p5, iv x0, iv x1, iv x2, iv x3, iv y0, iv y1, .unset, .unset, .unset, .unset, .unset, .unset, .unset, .unset, .unset, .unset] [])) t → Steps p.tables e below (T8.setTop (mkF m 64 #[iv p0, iv p1, iv p2, iv p3, iv p4, iv p5, iv x0, iv x1, iv x2, iv x3, iv y0, .unset, .unset, .unset, .unset, .unset, .unset, .unset, .unset, .unset, .unset, .unset] [(.int y1)])) t := by
        intro t k
        refine XS.istore X8.here hx rfl (hb hby at_64) rfl (l' := #[iv p0, iv p1, iv p2, iv p3, iv p4, iv p5, iv x0, iv x1, iv x2, iv x3, iv y0, iv y1, .unset, .unset, .unset, .unset, .unset, .unset, .unset, .unset, .unset, .unset]) rfl ?_
        show Steps p.tables e below (T8.setTop (mkF m 66 #[iv p0, iv p1, iv p2, iv p3, iv p4, iv p5, iv x0, iv x1, iv x2, iv x3, iv y0, iv y1, .unset, .unset, .unset, .unset, .unset, .unset, .unset, .unset, .unset, .unset] [])) _
        exact k
      refine own_lift sg9 ?_
      show own_Go p.tables e below (T8.setTop (mkF m 66 #[iv p0, iv p1, iv p2, iv p3, iv p4, iv p5, iv x0, iv x1, iv x2, iv x3, iv y0, iv y1, .unset, .unset, .unset, .unset, .unset, .unset, .unset, .unset, .unset, .unset] [])) _
      have join10 : ∀ (T10 : State) (locs10 : List Loc), Stand p l e room_1 s m #[(.int p0), (.int p1), (.int p2), (.int p3), (.int p4), (.int p5)] below meth c T10 locs10 0 0 → T10.heap = h0 → Fr n0 locs10 → own_Go p.tables e below (T10.setTop (mkF m 87 #[iv p0, iv p1, iv p2, iv p3, iv p4, iv p5, iv x0, iv x1, iv x2, iv x3, iv y0, iv y1, .unset, .unset, .unset, .unset, .unset, .unset, .unset, .unset, .unset, .unset] [(.int y2)])) (fun s₂ o => s₂.status = .running ∧ Ended s₂ below o ∧ ∃ v L, o = .returned v ∧ Q0 Z  h0 n0 v s₂.heap L ∧ FrameEnd s o s₂ L 24 128) := by
        intro T10 locs10 X10 e10 N10
        have sg11 : ∀ t, Steps p.tables e below (T10.setTop (mkF m 89 #[iv p0, iv p1, iv p2, iv p3, iv p4, iv p5, iv x0, iv x1, iv x2, iv x3, iv y0, iv y1, iv y2, .unset, .unset, .unset, .unset, .unset, .unset, .unset, .unset, .unset] [])) t → Steps p.tables e below (T10.setTop (mkF m 87 #[iv p0, iv p1, iv p2, iv p3, iv p4, iv p5, iv x0, iv x1, iv x2, iv x3, iv y0, iv y1, .unset, .unset, .unset, .unset, .unset, .unset, .unset, .unset, .unset, .unset] [(.int y2)])) t := by
          intro t k
          refine XS.istore X10.here hx rfl (hb hby at_87) rfl (l' := #[iv p0, iv p1, iv p2, iv p3, iv p4, iv p5, iv x0, iv x1, iv x2, iv x3, iv y0, iv y1, iv y2, .unset, .unset, .unset, .unset, .unset, .unset, .unset, .unset, .unset]) rfl ?_
          show Steps p.tables e below (T10.setTop (mkF m 89 #[iv p0, iv p1, iv p2, iv p3, iv p4, iv p5, iv x0, iv x1, iv x2, iv x3, iv y0, iv y1, iv y2, .unset, .unset, .unset, .unset, .unset, .unset, .unset, .unset, .unset] [])) _
          exact k
        refine own_lift sg11 ?_
        show own_Go p.tables e below (T10.setTop (mkF m 89 #[iv p0, iv p1, iv p2, iv p3, iv p4, iv p5, iv x0, iv x1, iv x2, iv x3, iv y0, iv y1, iv y2, .unset, .unset, .unset, .unset, .unset, .unset, .unset, .unset, .unset] [])) _
        have join12 : ∀ (T12 : State) (locs12 : List Loc), Stand p l e room_1 s m #[(.int p0), (.int p1), (.int p2), (.int p3), (.int p4), (.int p5)] below meth c T12 locs12 0 0 → T12.heap = h0 → Fr n0 locs12 → own_Go p.tables e below (T12.setTop (mkF m 110 #[iv p0, iv p1, iv p2, iv p3, iv p4, iv p5, iv x0, iv x1, iv x2, iv x3, iv y0, iv y1, iv y2, .unset, .unset, .unset, .unset, .unset, .unset, .unset, .unset, .unset] [(.int y3)])) (fun s₂ o => s₂.status = .running ∧ Ended s₂ below o ∧ ∃ v L, o = .returned v ∧ Q0 Z  h0 n0 v s₂.heap L ∧ FrameEnd s o s₂ L 24 128) := by
          intro T12 locs12 X12 e12 N12
          have sg13 : ∀ t, Steps p.tables e below (T12.setTop (mkF m 118 #[iv p0, iv p1, iv p2, iv p3, iv p4, iv p5, iv x0, iv x1, iv x2, iv x3, iv y0, iv y1, iv y2, iv y3, .unset, .unset, .unset, .unset, .unset, .unset, .unset, .unset] [(.int (((p5.toUInt32 >>> ((4 : Int32) &&& 31).toUInt32).toInt32) &&& (3 : Int32)))])) t → Steps p.tables e below (T12.setTop (mkF m 110 #[iv p0, iv p1, iv p2, iv p3, iv p4, iv p5, iv x0, iv x1, iv x2, iv x3, iv y0, iv y1, iv y2, .unset, .unset, .unset, .unset, .unset, .unset, .unset, .unset, .unset] [(.int y3)])) t := by
            intro t k
            refine XS.istore X12.here hx rfl (hb hby at_110) rfl (l' := #[iv p0, iv p1, iv p2, iv p3, iv p4, iv p5, iv x0, iv x1, iv x2, iv x3, iv y0, iv y1, iv y2, iv y3, .unset, .unset, .unset, .unset, .unset, .unset, .unset, .unset]) rfl ?_
            show Steps p.tables e below (T12.setTop (mkF m 112 #[iv p0, iv p1, iv p2, iv p3, iv p4, iv p5, iv x0, iv x1, iv x2, iv x3, iv y0, iv y1, iv y2, iv y3, .unset, .unset, .unset, .unset, .unset, .unset, .unset, .unset] [])) _
            refine XS.iload X12.here hx rfl (hb hby at_112) rfl ?_
            refine XS.iconst X12.here hx rfl (hb hby at_114) ?_
            show Steps p.tables e below (T12.setTop (mkF m 115 #[iv p0, iv p1, iv p2, iv p3, iv p4, iv p5, iv x0, iv x1, iv x2, iv x3, iv y0, iv y1, iv y2, iv y3, .unset, .unset, .unset, .unset, .unset, .unset, .unset, .unset] [(.int 4), (.int p5)])) _
            refine XS.iushr X12.here hx rfl (hb hby at_115) rfl ?_
            refine XS.iconst X12.here hx rfl (hb hby at_116) ?_
            show Steps p.tables e below (T12.setTop (mkF m 117 #[iv p0, iv p1, iv p2, iv p3, iv p4, iv p5, iv x0, iv x1, iv x2, iv x3, iv y0, iv y1, iv y2, iv y3, .unset, .unset, .unset, .unset, .unset, .unset, .unset, .unset] [(.int 3), (.int ((p5.toUInt32 >>> ((4 : Int32) &&& 31).toUInt32).toInt32))])) _
            refine XS.iand X12.here hx rfl (hb hby at_117) rfl ?_
            show Steps p.tables e below (T12.setTop (mkF m 118 #[iv p0, iv p1, iv p2, iv p3, iv p4, iv p5, iv x0, iv x1, iv x2, iv x3, iv y0, iv y1, iv y2, iv y3, .unset, .unset, .unset, .unset, .unset, .unset, .unset, .unset] [(.int (((p5.toUInt32 >>> ((4 : Int32) &&& 31).toUInt32).toInt32) &&& (3 : Int32)))])) _
            exact k
          refine own_lift sg13 ?_
          show own_Go p.tables e below (T12.setTop (mkF m 118 #[iv p0, iv p1, iv p2, iv p3, iv p4, iv p5, iv x0, iv x1, iv x2, iv x3, iv y0, iv y1, iv y2, iv y3, .unset, .unset, .unset, .unset, .unset, .unset, .unset, .unset] [(.int (((p5.toUInt32 >>> ((4 : Int32) &&& 31).toUInt32).toInt32) &&& (3 : Int32)))])) _
          rw [hk]
          show own_Go p.tables e below (T12.setTop (mkF m 118 #[iv p0, iv p1, iv p2, iv p3, iv p4, iv p5, iv x0, iv x1, iv x2, iv x3, iv y0, iv y1, iv y2, iv y3, .unset, .unset, .unset, .unset, .unset, .unset, .unset, .unset] [(.int kk)])) _
          have sg14 : ∀ t, Steps p.tables e below (T12.setTop (mkF m 120 #[iv p0, iv p1, iv p2, iv p3, iv p4, iv p5, iv x0, iv x1, iv x2, iv x3, iv y0, iv y1, iv y2, iv y3, iv kk, .unset, .unset, .unset, .unset, .unset, .unset, .unset] [])) t → Steps p.tables e below (T12.setTop (mkF m 118 #[iv p0, iv p1, iv p2, iv p3, iv p4, iv p5, iv x0, iv x1, iv x2, iv x3, iv y0, iv y1, iv y2, iv y3, .unset, .unset, .unset, .unset, .unset, .unset, .unset, .unset] [(.int kk)])) t := by
            intro t k
            refine XS.istore X12.here hx rfl (hb hby at_118) rfl (l' := #[iv p0, iv p1, iv p2, iv p3, iv p4, iv p5, iv x0, iv x1, iv x2, iv x3, iv y0, iv y1, iv y2, iv y3, iv kk, .unset, .unset, .unset, .unset, .unset, .unset, .unset]) rfl ?_
            show Steps p.tables e below (T12.setTop (mkF m 120 #[iv p0, iv p1, iv p2, iv p3, iv p4, iv p5, iv x0, iv x1, iv x2, iv x3, iv y0, iv y1, iv y2, iv y3, iv kk, .unset, .unset, .unset, .unset, .unset, .unset, .unset] [])) _
            exact k
          refine own_lift sg14 ?_
          show own_Go p.tables e below (T12.setTop (mkF m 120 #[iv p0, iv p1, iv p2, iv p3, iv p4, iv p5, iv x0, iv x1, iv x2, iv x3, iv y0, iv y1, iv y2, iv y3, iv kk, .unset, .unset, .unset, .unset, .unset, .unset, .unset] [])) _
          obtain ⟨T15, h15, X15, e15, Ex15, Ax15, Dx15, Ux15, st15⟩ := newO X12 hx hZ hown (wd hw 1 rfl) (wd hw 2 rfl) (wd hw 3 rfl) e12 (g := (mkF m 120 #[iv p0, iv p1, iv p2, iv p3, iv p4, iv p5, iv x0, iv x1, iv x2, iv x3, iv y0, iv y1, iv y2, iv y3, iv kk, .unset, .unset, .unset, .unset, .unset, .unset, .unset] [])) rfl (hb hby at_120) (by decide) (by decide)
          obtain ⟨ob15, g15⟩ : ∃ z, z = h0.size := ⟨_, rfl⟩
          rw [← g15] at Ax15 Dx15 Ux15 st15
          have Z15 : n0 ≤ h15.size := Nat.le_trans Z0 Ex15.1
          have ge15 : n0 ≤ ob15 := Nat.le_trans Z0 (Nat.le_of_eq g15.symm)
          have Fn15_14 : Fld Z h15 ob15 "com/example/halyard/halyard/core/mal/TypeId" "area" "I" (.int 0) := Dx15 (Or.inr (wd hw 14 rfl)) (ty := .int) (by decide)
          have Fn15_16 : Fld Z h15 ob15 "com/example/halyard/halyard/core/mal/TypeId" "service" "I" (.int 0) := Dx15 (Or.inr (wd hw 16 rfl)) (ty := .int) (by decide)
          have Fn15_18 : Fld Z h15 ob15 "com/example/halyard/halyard/core/mal/TypeId" "areaVersion" "I" (.int 0) := Dx15 (Or.inr (wd hw 18 rfl)) (ty := .int) (by decide)
          have Fn15_20 : Fld Z h15 ob15 "com/example/halyard/halyard/core/mal/TypeId" "shortFormPart" "I" (.int 0) := Dx15 (Or.inr (wd hw 20 rfl)) (ty := .int) (by decide)
          refine own_lift st15 ?_
          show own_Go p.tables e below (T15.setTop (mkF m 123 #[iv p0, iv p1, iv p2, iv p3, iv p4, iv p5, iv x0, iv x1, iv x2, iv x3, iv y0, iv y1, iv y2, iv y3, iv kk, .unset, .unset, .unset, .unset, .unset, .unset, .unset] [(.ref ob15)])) _
          have sg16 : ∀ t, Steps p.tables e below (T15.setTop (mkF m 132 #[iv p0, iv p1, iv p2, iv p3, iv p4, iv p5, iv x0, iv x1, iv x2, iv x3, iv y0, iv y1, iv y2, iv y3, iv kk, .unset, .unset, .unset, .unset, .unset, .unset, .unset] [(.int x3), (.int x2), (.int x1), (.int x0), (.ref ob15), (.ref ob15)])) t → Steps p.tables e below (T15.setTop (mkF m 123 #[iv p0, iv p1, iv p2, iv p3, iv p4, iv p5, iv x0, iv x1, iv x2, iv x3, iv y0, iv y1, iv y2, iv y3, iv kk, .unset, .unset, .unset, .unset, .unset, .unset, .unset] [(.ref ob15)])) t := by
            intro t k
            refine XS.dup X15.here hx rfl (hb hby at_123) rfl rfl ?_
            show Steps p.tables e below (T15.setTop (mkF m 124 #[iv p0, iv p1, iv p2, iv p3, iv p4, iv p5, iv x0, iv x1, iv x2, iv x3, iv y0, iv y1, iv y2, iv y3, iv kk, .unset, .unset, .unset, .unset, .unset, .unset, .unset] [(.ref ob15), (.ref ob15)])) _
            refine XS.iload X15.here hx rfl (hb hby at_124) rfl ?_
            refine XS.iload X15.here hx rfl (hb hby at_126) rfl ?_
            show Steps p.tables e below (T15.setTop (mkF m 128 #[iv p0, iv p1, iv p2, iv p3, iv p4, iv p5, iv x0, iv x1, iv x2, iv x3, iv y0, iv y1, iv y2, iv y3, iv kk, .unset, .unset, .unset, .unset, .unset, .unset, .unset] [(.int x1), (.int x0), (.ref ob15), (.ref ob15)])) _
            refine XS.iload X15.here hx rfl (hb hby at_128) rfl ?_
            refine XS.iload X15.here hx rfl (hb hby at_130) rfl ?_
            show Steps p.tables e below (T15.setTop (mkF m 132 #[iv p0, iv p1, iv p2, iv p3, iv p4, iv p5, iv x0, iv x1, iv x2, iv x3, iv y0, iv y1, iv y2, iv y3, iv kk, .unset, .unset, .unset, .unset, .unset, .unset, .unset] [(.int x3), (.int x2), (.int x1), (.int x0), (.ref ob15), (.ref ob15)])) _
            exact k
          refine own_lift sg16 ?_
          show own_Go p.tables e below (T15.setTop (mkF m 132 #[iv p0, iv p1, iv p2, iv p3, iv p4, iv p5, iv x0, iv x1, iv x2, iv x3, iv y0, iv y1, iv y2, iv y3, iv kk, .unset, .unset, .unset, .unset, .unset, .unset, .unset] [(.int x3), (.int x2), (.int x1), (.int x0), (.ref ob15), (.ref ob15)])) _
          obtain ⟨_, _, ⟨T17, Lx17, kx17, nx17⟩, -, X17, ⟨Lc17, hQ17, lx17, yx17, zx17⟩, st17⟩ := X15.specialBack hx (y := (⟨"com/example/halyard/halyard/core/mal/TypeId", "<init>", "(IIII)V"⟩ : MethodName)) rfl hown (mvT hZ (wd hw 4 rfl)) (mvT hZ (wd hw 5 rfl)) (mvT hZ (wd hw 6 rfl)) (by decide) (backOf (W := 1) (rmInit l Z a0 hw [] ob15 x0 x1 x2 x3 h15 n0 Z15 Fn15_14 Fn15_16 Fn15_18 Fn15_20 Ax15 ge15 rx0.1 rx0.2 rx1.1 rx1.2 rx2.1 rx2.2 rx3.1 rx3.2) hZ (wd hw 6 rfl) (wd hw 3 rfl) (by decide) (by decide)) (g := (mkF m 132 #[iv p0, iv p1, iv p2, iv p3, iv p4, iv p5, iv x0, iv x1, iv x2, iv x3, iv y0, iv y1, iv y2, iv y3, iv kk, .unset, .unset, .unset, .unset, .unset, .unset, .unset] [(.int x3), (.int x2), (.int x1), (.int x0), (.ref ob15), (.ref ob15)])) rfl (by rw [hml]; rfl) (Steps.refl _) (a := ob15) (argsL := [(.int x0), (.int x1), (.int x2), (.int x3)]) (rest := [(.ref ob15)]) (lenOf pd_0 rfl) rfl (by show 2 * 0 + _ ≤ _; exact Nat.le_of_eq rfl) (hb hby at_132) (fun _ _ => ⟨rfl, e15, (by decide : 1 + 0 ≤ _), (by decide : 4 + 0 ≤ _)⟩)
          dsimp only [Pt.U, Pt.locs, Pt.cells, Pt.slots] at X17 lx17 yx17 zx17 st17 hQ17
          subst lx17 yx17 zx17
          obtain ⟨rfl, N17q, p17_0, p17_1, p17_2, p17_3, p17_4, p17_5⟩ := hQ17
          have N17 := Fr.app N12 N17q
          have Z17 : n0 ≤ T17.heap.size := Nat.le_trans Z15 p17_0.1
          refine own_lift (fun t k => st17.trans k) ?_
          show own_Go p.tables e below (T17.setTop (mkF m 135 #[iv p0, iv p1, iv p2, iv p3, iv p4, iv p5, iv x0, iv x1, iv x2, iv x3, iv y0, iv y1, iv y2, iv y3, iv kk, .unset, .unset, .unset, .unset, .unset, .unset, .unset] [(.ref ob15)])) _
          have sg18 : ∀ t, Steps p.tables e below (T17.setTop (mkF m 137 #[iv p0, iv p1, iv p2, iv p3, iv p4, iv p5, iv x0, iv x1, iv x2, iv x3, iv y0, iv y1, iv y2, iv y3, iv kk, rv ob15, .unset, .unset, .unset, .unset, .unset, .unset] [])) t → Steps p.tables e below (T17.setTop (mkF m 135 #[iv p0, iv p1, iv p2, iv p3, iv p4, iv p5, iv x0, iv x1, iv x2, iv x3, iv y0, iv y1, iv y2, iv y3, iv kk, .unset, .unset, .unset, .unset, .unset, .unset, .unset] [(.ref ob15)])) t := by
            intro t k
            refine XS.astore X17.here hx rfl (hb hby at_135) rfl rfl (l' := #[iv p0, iv p1, iv p2, iv p3, iv p4, iv p5, iv x0, iv x1, iv x2, iv x3, iv y0, iv y1, iv y2, iv y3, iv kk, rv ob15, .unset, .unset, .unset, .unset, .unset, .unset]) rfl ?_
            show Steps p.tables e below (T17.setTop (mkF m 137 #[iv p0, iv p1, iv p2, iv p3, iv p4, iv p5, iv x0, iv x1, iv x2, iv x3, iv y0, iv y1, iv y2, iv y3, iv kk, rv ob15, .unset, .unset, .unset, .unset, .unset, .unset] [])) _
            exact k
          refine own_lift sg18 ?_
          show own_Go p.tables e below (T17.setTop (mkF m 137 #[iv p0, iv p1, iv p2, iv p3, iv p4, iv p5, iv x0, iv x1, iv x2, iv x3, iv y0, iv y1, iv y2, iv y3, iv kk, rv ob15, .unset, .unset, .unset, .unset, .unset, .unset] [])) _
          obtain ⟨T19, h19, X19, e19, Ex19, Ax19, Dx19, Ux19, st19⟩ := newO X17 hx hZ hown (wd hw 1 rfl) (wd hw 2 rfl) (wd hw 3 rfl) rfl (g := (mkF m 137 #[iv p0, iv p1, iv p2, iv p3, iv p4, iv p5, iv x0, iv x1, iv x2, iv x3, iv y0, iv y1, iv y2, iv y3, iv kk, rv ob15, .unset, .unset, .unset, .unset, .unset, .unset] [])) rfl (hb hby at_137) (by decide) (by decide)
          obtain ⟨ob19, g19⟩ : ∃ z, z = T17.heap.size := ⟨_, rfl⟩
          rw [← g19] at Ax19 Dx19 Ux19 st19
          have ne20 : ob15 ≠ ob19 := Nat.ne_of_lt (Nat.lt_of_lt_of_le p17_1.lt (Nat.le_of_eq g19.symm))
          have Z19 : n0 ≤ h19.size := Nat.le_trans Z17 Ex19.1
          have ge19 : n0 ≤ ob19 := Nat.le_trans Z17 (Nat.le_of_eq g19.symm)
          have Fn19_14 : Fld Z h19 ob19 "com/example/halyard/halyard/core/mal/TypeId" "area" "I" (.int 0) := Dx19 (Or.inr (wd hw 14 rfl)) (ty := .int) (by decide)
          have Fn19_16 : Fld Z h19 ob19 "com/example/halyard/halyard/core/mal/TypeId" "service" "I" (.int 0) := Dx19 (Or.inr (wd hw 16 rfl)) (ty := .int) (by decide)
          have Fn19_18 : Fld Z h19 ob19 "com/example/halyard/halyard/core/mal/TypeId" "areaVersion" "I" (.int 0) := Dx19 (Or.inr (wd hw 18 rfl)) (ty := .int) (by decide)
          have Fn19_20 : Fld Z h19 ob19 "com/example/halyard/halyard/core/mal/TypeId" "shortFormPart" "I" (.int 0) := Dx19 (Or.inr (wd hw 20 rfl)) (ty := .int) (by decide)
          refine own_lift st19 ?_
          show own_Go p.tables e below (T19.setTop (mkF m 140 #[iv p0, iv p1, iv p2, iv p3, iv p4, iv p5, iv x0, iv x1, iv x2, iv x3, iv y0, iv y1, iv y2, iv y3, iv kk, rv ob15, .unset, .unset, .unset, .unset, .unset, .unset] [(.ref ob19)])) _
          have sg21 : ∀ t, Steps p.tables e below (T19.setTop (mkF m 149 #[iv p0, iv p1, iv p2, iv p3, iv p4, iv p5, iv x0, iv x1, iv x2, iv x3, iv y0, iv y1, iv y2, iv y3, iv kk, rv ob15, .unset, .unset, .unset, .unset, .unset, .unset] [(.int y3), (.int y2), (.int y1), (.int y0), (.ref ob19), (.ref ob19)])) t → Steps p.tables e below (T19.setTop (mkF m 140 #[iv p0, iv p1, iv p2, iv p3, iv p4, iv p5, iv x0, iv x1, iv x2, iv x3, iv y0, iv y1, iv y2, iv y3, iv kk, rv ob15, .unset, .unset, .unset, .unset, .unset, .unset] [(.ref ob19)])) t := by
            intro t k
            refine XS.dup X19.here hx rfl (hb hby at_140) rfl rfl ?_
            show Steps p.tables e below (T19.setTop (mkF m 141 #[iv p0, iv p1, iv p2, iv p3, iv p4, iv p5, iv x0, iv x1, iv x2, iv x3, iv y0, iv y1, iv y2, iv y3, iv kk, rv ob15, .unset, .unset, .unset, .unset, .unset, .unset] [(.ref ob19), (.ref ob19)])) _
            refine XS.iload X19.here hx rfl (hb hby at_141) rfl ?_
            refine XS.iload X19.here hx rfl (hb hby at_143) rfl ?_
            show Steps p.tables e below (T19.setTop (mkF m 145 #[iv p0, iv p1, iv p2, iv p3, iv p4, iv p5, iv x0, iv x1, iv x2, iv x3, iv y0, iv y1, iv y2, iv y3, iv kk, rv ob15, .unset, .unset, .unset, .unset, .unset, .unset] [(.int y1), (.int y0), (.ref ob19), (.ref ob19)])) _
            refine XS.iload X19.here hx rfl (hb hby at_145) rfl ?_
            refine XS.iload X19.here hx rfl (hb hby at_147) rfl ?_
            show Steps p.tables e below (T19.setTop (mkF m 149 #[iv p0, iv p1, iv p2, iv p3, iv p4, iv p5, iv x0, iv x1, iv x2, iv x3, iv y0, iv y1, iv y2, iv y3, iv kk, rv ob15, .unset, .unset, .unset, .unset, .unset, .unset] [(.int y3), (.int y2), (.int y1), (.int y0), (.ref ob19), (.ref ob19)])) _
            exact k
          refine own_lift sg21 ?_
          show own_Go p.tables e below (T19.setTop (mkF m 149 #[iv p0, iv p1, iv p2, iv p3, iv p4, iv p5, iv x0, iv x1, iv x2, iv x3, iv y0, iv y1, iv y2, iv y3, iv kk, rv ob15, .unset, .unset, .unset, .unset, .unset, .unset] [(.int y3), (.int y2), (.int y1), (.int y0), (.ref ob19), (.ref ob19)])) _
          obtain ⟨_, _, ⟨T22, Lx22, kx22, nx22⟩, -, X22, ⟨Lc22, hQ22, lx22, yx22, zx22⟩, st22⟩ := X19.specialBack hx (y := (⟨"com/example/halyard/halyard/core/mal/TypeId", "<init>", "(IIII)V"⟩ : MethodName)) rfl hown (mvT hZ (wd hw 4 rfl)) (mvT hZ (wd hw 5 rfl)) (mvT hZ (wd hw 6 rfl)) (by decide) (backOf (W := 1) (rmInit l Z a0 hw [] ob19 y0 y1 y2 y3 h19 n0 Z19 Fn19_14 Fn19_16 Fn19_18 Fn19_20 Ax19 ge19 ry0.1 ry0.2 ry1.1 ry1.2 ry2.1 ry2.2 ry3.1 ry3.2) hZ (wd hw 6 rfl) (wd hw 3 rfl) (by decide) (by decide)) (g := (mkF m 149 #[iv p0, iv p1, iv p2, iv p3, iv p4, iv p5, iv x0, iv x1, iv x2, iv x3, iv y0, iv y1, iv y2, iv y3, iv kk, rv ob15, .unset, .unset, .unset, .unset, .unset, .unset] [(.int y3), (.int y2), (.int y1), (.int y0), (.ref ob19), (.ref ob19)])) rfl (by rw [hml]; rfl) (Steps.refl _) (a := ob19) (argsL := [(.int y0), (.int y1), (.int y2), (.int y3)]) (rest := [(.ref ob19)]) (lenOf pd_0 rfl) rfl (by show 2 * 0 + _ ≤ _; exact Nat.le_of_eq rfl) (hb hby at_149) (fun _ _ => ⟨rfl, e19, (by decide : 2 + 0 ≤ _), (by decide : 8 + 0 ≤ _)⟩)
          dsimp only [Pt.U, Pt.locs, Pt.cells, Pt.slots] at X22 lx22 yx22 zx22 st22 hQ22
          subst lx22 yx22 zx22
          obtain ⟨rfl, N22q, p22_0, p22_1, p22_2, p22_3, p22_4, p22_5⟩ := hQ22
          have N22 := Fr.app N17 N22q
          have Z22 : n0 ≤ T22.heap.size := Nat.le_trans Z19 p22_0.1
          refine own_lift (fun t k => st22.trans k) ?_
          show own_Go p.tables e below (T22.setTop (mkF m 152 #[iv p0, iv p1, iv p2, iv p3, iv p4, iv p5, iv x0, iv x1, iv x2, iv x3, iv y0, iv y1, iv y2, iv y3, iv kk, rv ob15, .unset, .unset, .unset, .unset, .unset, .unset] [(.ref ob19)])) _
          have sg23 : ∀ t, Steps p.tables e below (T22.setTop (mkF m 155 #[iv p0, iv p1, iv p2, iv p3, iv p4, iv p5, iv x0, iv x1, iv x2, iv x3, iv y0, iv y1, iv y2, iv y3, iv kk, rv ob15, rv ob19, .unset, .unset, .unset, .unset, .unset] [(.int 2)])) t → Steps p.tables e below (T22.setTop (mkF m 152 #[iv p0, iv p1, iv p2, iv p3, iv p4, iv p5, iv x0, iv x1, iv x2, iv x3, iv y0, iv y1, iv y2, iv y3, iv kk, rv ob15, .unset, .unset, .unset, .unset, .unset, .unset] [(.ref ob19)])) t := by
            intro t k
            refine XS.astore X22.here hx rfl (hb hby at_152) rfl rfl (l' := #[iv p0, iv p1, iv p2, iv p3, iv p4, iv p5, iv x0, iv x1, iv x2, iv x3, iv y0, iv y1, iv y2, iv y3, iv kk, rv ob15, rv ob19, .unset, .unset, .unset, .unset, .unset]) rfl ?_
            show Steps p.tables e below (T22.setTop (mkF m 154 #[iv p0, iv p1, iv p2, iv p3, iv p4, iv p5, iv x0, iv x1, iv x2, iv x3, iv y0, iv y1, iv y2, iv y3, iv kk, rv ob15, rv ob19, .unset, .unset, .unset, .unset, .unset] [])) _
            refine XS.iconst X22.here hx rfl (hb hby at_154) ?_
            show Steps p.tables e below (T22.setTop (mkF m 155 #[iv p0, iv p1, iv p2, iv p3, iv p4, iv p5, iv x0, iv x1, iv x2, iv x3, iv y0, iv y1, iv y2, iv y3, iv kk, rv ob15, rv ob19, .unset, .unset, .unset, .unset, .unset] [(.int 2)])) _
            exact k
          refine own_lift sg23 ?_
          show own_Go p.tables e below (T22.setTop (mkF m 155 #[iv p0, iv p1, iv p2, iv p3, iv p4, iv p5, iv x0, iv x1, iv x2, iv x3, iv y0, iv y1, iv y2, iv y3, iv kk, rv ob15, rv ob19, .unset, .unset, .unset, .unset, .unset] [(.int 2)])) _
          obtain ⟨T24, h24, ka24, X24, e24, Ex24, Ax24, st24⟩ := newP X22 hx hZ (wd hw 21 rfl) rfl (g := (mkF m 155 #[iv p0, iv p1, iv p2, iv p3, iv p4, iv p5, iv x0, iv x1, iv x2, iv x3, iv y0, iv y1, iv y2, iv y3, iv kk, rv ob15, rv ob19, .unset, .unset, .unset, .unset, .unset] [(.int 2)])) rfl (hb hby at_155) rfl (by decide) (cap := 2) (by decide) (by decide) (by decide) (by decide)
          obtain ⟨ob24, g24⟩ : ∃ z, z = T22.heap.size := ⟨_, rfl⟩
          rw [← g24] at Ax24 st24
          have Fc25 : Exa Z T22.heap ob15 "com/example/halyard/halyard/core/mal/TypeId" := ((p17_1.ext Ex19).keep p22_0)
          have ne26 : ob15 ≠ ob24 := Nat.ne_of_lt (Nat.lt_of_lt_of_le Fc25.lt (Nat.le_of_eq g24.symm))
          have ne27 : ob19 ≠ ob24 := Nat.ne_of_lt (Nat.lt_of_lt_of_le p22_1.lt (Nat.le_of_eq g24.symm))
          have Z24 : n0 ≤ h24.size := Nat.le_trans Z22 Ex24.1
          have ge24 : n0 ≤ ob24 := Nat.le_trans Z22 (Nat.le_of_eq g24.symm)
          have Vn24 : Arv Z h24 ob24 ka24 .char (2 : Int32) [(.int 0), (.int 0)] (.int 0) := (Arv.new Ax24 (by decide)).pad (pad_rep [] (.int 0) 2)
          refine own_lift st24 ?_
          show own_Go p.tables e below (T24.setTop (mkF m 157 #[iv p0, iv p1, iv p2, iv p3, iv p4, iv p5, iv x0, iv x1, iv x2, iv x3, iv y0, iv y1, iv y2, iv y3, iv kk, rv ob15, rv ob19, .unset, .unset, .unset, .unset, .unset] [(.ref ob24)])) _
          have sg28 : ∀ t, Steps p.tables e below (T24.setTop (mkF m 169 #[iv p0, iv p1, iv p2, iv p3, iv p4, iv p5, iv x0, iv x1, iv x2, iv x3, iv y0, iv y1, iv y2, iv y3, iv kk, rv ob15, rv ob19, rv ob24, .unset, .unset, .unset, .unset] [(.int ((p4 &&& (255 : Int32)).toUInt32.toUInt16.toUInt32.toInt32)), (.int 0), (.ref ob24)])) t → Steps p.tables e below (T24.setTop (mkF m 157 #[iv p0, iv p1, iv p2, iv p3, iv p4, iv p5, iv x0, iv x1, iv x2, iv x3, iv y0, iv y1, iv y2, iv y3, iv kk, rv ob15, rv ob19, .unset, .unset, .unset, .unset, .unset] [(.ref ob24)])) t := by
            intro t k
            refine XS.astore X24.here hx rfl (hb hby at_157) rfl rfl (l' := #[iv p0, iv p1, iv p2, iv p3, iv p4, iv p5, iv x0, iv x1, iv x2, iv x3, iv y0, iv y1, iv y2, iv y3, iv kk, rv ob15, rv ob19, rv ob24, .unset, .unset, .unset, .unset]) rfl ?_
            show Steps p.tables e below (T24.setTop (mkF m 159 #[iv p0, iv p1, iv p2, iv p3, iv p4, iv p5, iv x0, iv x1, iv x2, iv x3, iv y0, iv y1, iv y2, iv y3, iv kk, rv ob15, rv ob19, rv ob24, .unset, .unset, .unset, .unset] [])) _
            refine XS.aload X24.here hx rfl (hb hby at_159) rfl rfl ?_
            refine XS.iconst X24.here hx rfl (hb hby at_161) ?_
            show Steps p.tables e below (T24.setTop (mkF m 162 #[iv p0, iv p1, iv p2, iv p3, iv p4, iv p5, iv x0, iv x1, iv x2, iv x3, iv y0, iv y1, iv y2, iv y3, iv kk, rv ob15, rv ob19, rv ob24, .unset, .unset, .unset, .unset] [(.int 0), (.ref ob24)])) _
            refine XS.iload X24.here hx rfl (hb hby at_162) rfl ?_
            refine XS.sipush X24.here hx rfl (hb hby at_164) ?_
            show Steps p.tables e below (T24.setTop (mkF m 167 #[iv p0, iv p1, iv p2, iv p3, iv p4, iv p5, iv x0, iv x1, iv x2, iv x3, iv y0, iv y1, iv y2, iv y3, iv kk, rv ob15, rv ob19, rv ob24, .unset, .unset, .unset, .unset] [(.int 255), (.int p4), (.int 0), (.ref ob24)])) _
            refine XS.iand X24.here hx rfl (hb hby at_167) rfl ?_
            refine XS.i2c X24.here hx rfl (hb hby at_168) rfl ?_
            show Steps p.tables e below (T24.setTop (mkF m 169 #[iv p0, iv p1, iv p2, iv p3, iv p4, iv p5, iv x0, iv x1, iv x2, iv x3, iv y0, iv y1, iv y2, iv y3, iv kk, rv ob15, rv ob19, rv ob24, .unset, .unset, .unset, .unset] [(.int ((p4 &&& (255 : Int32)).toUInt32.toUInt16.toUInt32.toInt32)), (.int 0), (.ref ob24)])) _
            exact k
          refine own_lift sg28 ?_
          show own_Go p.tables e below (T24.setTop (mkF m 169 #[iv p0, iv p1, iv p2, iv p3, iv p4, iv p5, iv x0, iv x1, iv x2, iv x3, iv y0, iv y1, iv y2, iv y3, iv kk, rv ob15, rv ob19, rv ob24, .unset, .unset, .unset, .unset] [(.int ((p4 &&& (255 : Int32)).toUInt32.toUInt16.toUInt32.toInt32)), (.int 0), (.ref ob24)])) _
          obtain ⟨cl29, Ar29, qx29, Sx29, N29', H29', G29'⟩ := id (Vn24)
          have hin29 : ¬ ((0 : Int32) < 0 ∨ cl29.slots.size ≤ ((0 : Int32)).toNatClampNeg) := inb_of Sx29 ⟨(by decide : ¬ ((0 : Int32) < (0 : Int32))), (by decide : (0 : Int32) < (2 : Int32))⟩
          obtain ⟨T30, h30, X30, e30, W30, st30⟩ := stC X24 hx hZ e24 Ar29 (j := (0 : Int32)) hin29 (g := (mkF m 169 #[iv p0, iv p1, iv p2, iv p3, iv p4, iv p5, iv x0, iv x1, iv x2, iv x3, iv y0, iv y1, iv y2, iv y3, iv kk, rv ob15, rv ob19, rv ob24, .unset, .unset, .unset, .unset] [(.int ((p4 &&& (255 : Int32)).toUInt32.toUInt16.toUInt32.toInt32)), (.int 0), (.ref ob24)])) rfl rfl (hb hby at_169)
          have N30 := Fr.snoc X30 N22 ge24
          have Z30 : n0 ≤ h30.size := Nat.le_trans Z24 (Nat.le_of_eq W30.size.symm)
          have Vn30 : Arv Z h30 ob24 ka24 .char (2 : Int32) [(.int (nar .char ((p4 &&& (255 : Int32)).toUInt32.toUInt16.toUInt32.toInt32))), (.int 0)] (.int 0) := Arv.set Ar29 qx29 Sx29 N29' H29' G29' (fits_nar_char _) W30 0 rfl (Nat.le_of_ble_eq_true rfl)
          refine own_lift st30 ?_
          show own_Go p.tables e below (T30.setTop (mkF m 170 #[iv p0, iv p1, iv p2, iv p3, iv p4, iv p5, iv x0, iv x1, iv x2, iv x3, iv y0, iv y1, iv y2, iv y3, iv kk, rv ob15, rv ob19, rv ob24, .unset, .unset, .unset, .unset] [])) _
          have sg31 : ∀ t, Steps p.tables e below (T30.setTop (mkF m 183 #[iv p0, iv p1, iv p2, iv p3, iv p4, iv p5, iv x0, iv x1, iv x2, iv x3, iv y0, iv y1, iv y2, iv y3, iv kk, rv ob15, rv ob19, rv ob24, .unset, .unset, .unset, .unset] [(.int ((((p4.toUInt32 >>> ((8 : Int32) &&& 31).toUInt32).toInt32) &&& (255 : Int32)).toUInt32.toUInt16.toUInt32.toInt32)), (.int 1), (.ref ob24)])) t → Steps p.tables e below (T30.setTop (mkF m 170 #[iv p0, iv p1, iv p2, iv p3, iv p4, iv p5, iv x0, iv x1, iv x2, iv x3, iv y0, iv y1, iv y2, iv y3, iv kk, rv ob15, rv ob19, rv ob24, .unset, .unset, .unset, .unset] [])) t := by
            intro t k
            refine XS.aload X30.here hx rfl (hb hby at_170) rfl rfl ?_
            show Steps p.tables e below (T30.setTop (mkF m 172 #[iv p0, iv p1, iv p2, iv p3, iv p4, iv p5, iv x0, iv x1, iv x2, iv x3, iv y0, iv y1, iv y2, iv y3, iv kk, rv ob15, rv ob19, rv ob24, .unset, .unset, .unset, .unset] [(.ref ob24)])) _
            refine XS.iconst X30.here hx rfl (hb hby at_172) ?_
            refine XS.iload X30.here hx rfl (hb hby at_173) rfl ?_
            show Steps p.tables e below (T30.setTop (mkF m 175 #[iv p0, iv p1, iv p2, iv p3, iv p4, iv p5, iv x0, iv x1, iv x2, iv x3, iv y0, iv y1, iv y2, iv y3, iv kk, rv ob15, rv ob19, rv ob24, .unset, .unset, .unset, .unset] [(.int p4), (.int 1), (.ref ob24)])) _
            refine XS.bipush X30.here hx rfl (hb hby at_175) ?_
            refine XS.iushr X30.here hx rfl (hb hby at_177) rfl ?_
            show Steps p.tables e below (T30.setTop (mkF m 178 #[iv p0, iv p1, iv p2, iv p3, iv p4, iv p5, iv x0, iv x1, iv x2, iv x3, iv y0, iv y1, iv y2, iv y3, iv kk, rv ob15, rv ob19, rv ob24, .unset, .unset, .unset, .unset] [(.int ((p4.toUInt32 >>> ((8 : Int32) &&& 31).toUInt32).toInt32)), (.int 1), (.ref ob24)])) _
            refine XS.sipush X30.here hx rfl (hb hby at_178) ?_
            refine XS.iand X30.here hx rfl (hb hby at_181) rfl ?_
            show Steps p.tables e below (T30.setTop (mkF m 182 #[iv p0, iv p1, iv p2, iv p3, iv p4, iv p5, iv x0, iv x1, iv x2, iv x3, iv y0, iv y1, iv y2, iv y3, iv kk, rv ob15, rv ob19, rv ob24, .unset, .unset, .unset, .unset] [(.int (((p4.toUInt32 >>> ((8 : Int32) &&& 31).toUInt32).toInt32) &&& (255 : Int32))), (.int 1), (.ref ob24)])) _
            refine XS.i2c X30.here hx rfl (hb hby at_182) rfl ?_
            show Steps p.tables e below (T30.setTop (mkF m 183 #[iv p0, iv p1, iv p2, iv p3, iv p4, iv p5, iv x0, iv x1, iv x2, iv x3, iv y0, iv y1, iv y2, iv y3, iv kk, rv ob15, rv ob19, rv ob24, .unset, .unset, .unset, .unset] [(.int ((((p4.toUInt32 >>> ((8 : Int32) &&& 31).toUInt32).toInt32) &&& (255 : Int32)).toUInt32.toUInt16.toUInt32.toInt32)), (.int 1), (.ref ob24)])) _
            exact k
          refine own_lift sg31 ?_
          show own_Go p.tables e below (T30.setTop (mkF m 183 #[iv p0, iv p1, iv p2, iv p3, iv p4, iv p5, iv x0, iv x1, iv x2, iv x3, iv y0, iv y1, iv y2, iv y3, iv kk, rv ob15, rv ob19, rv ob24, .unset, .unset, .unset, .unset] [(.int ((((p4.toUInt32 >>> ((8 : Int32) &&& 31).toUInt32).toInt32) &&& (255 : Int32)).toUInt32.toUInt16.toUInt32.toInt32)), (.int 1), (.ref ob24)])) _
          obtain ⟨cl32, Ar32, qx32, Sx32, N32', H32', G32'⟩ := id (Vn30)
          have hin32 : ¬ ((1 : Int32) < 0 ∨ cl32.slots.size ≤ ((1 : Int32)).toNatClampNeg) := inb_of Sx32 ⟨(by decide : ¬ ((1 : Int32) < (0 : Int32))), (by decide : (1 : Int32) < (2 : Int32))⟩
          obtain ⟨T33, h33, X33, e33, W33, st33⟩ := stC X30 hx hZ e30 Ar32 (j := (1 : Int32)) hin32 (g := (mkF m 183 #[iv p0, iv p1, iv p2, iv p3, iv p4, iv p5, iv x0, iv x1, iv x2, iv x3, iv y0, iv y1, iv y2, iv y3, iv kk, rv ob15, rv ob19, rv ob24, .unset, .unset, .unset, .unset] [(.int ((((p4.toUInt32 >>> ((8 : Int32) &&& 31).toUInt32).toInt32) &&& (255 : Int32)).toUInt32.toUInt16.toUInt32.toInt32)), (.int 1), (.ref ob24)])) rfl rfl (hb hby at_183)
          have N33 := Fr.snoc X33 N30 ge24
          have Z33 : n0 ≤ h33.size := Nat.le_trans Z30 (Nat.le_of_eq W33.size.symm)
          have Vn33 : Arv Z h33 ob24 ka24 .char (2 : Int32) [(.int (nar .char ((p4 &&& (255 : Int32)).toUInt32.toUInt16.toUInt32.toInt32))), (.int (nar .char ((((p4.toUInt32 >>> ((8 : Int32) &&& 31).toUInt32).toInt32) &&& (255 : Int32)).toUInt32.toUInt16.toUInt32.toInt32)))] (.int 0) := Arv.set Ar32 qx32 Sx32 N32' H32' G32' (fits_nar_char _) W33 1 rfl (Nat.le_of_ble_eq_true rfl)
          refine own_lift st33 ?_
          show own_Go p.tables e below (T33.setTop (mkF m 184 #[iv p0, iv p1, iv p2, iv p3, iv p4, iv p5, iv x0, iv x1, iv x2, iv x3, iv y0, iv y1, iv y2, iv y3, iv kk, rv ob15, rv ob19, rv ob24, .unset, .unset, .unset, .unset] [])) _
          obtain ⟨T34, h34, X34, e34, Ex34, Ax34, Dx34, Ux34, st34⟩ := newO X33 hx hZ hown (wd hw 22 rfl) (wd hw 23 rfl) (wd hw 24 rfl) e33 (g := (mkF m 184 #[iv p0, iv p1, iv p2, iv p3, iv p4, iv p5, iv x0, iv x1, iv x2, iv x3, iv y0, iv y1, iv y2, iv y3, iv kk, rv ob15, rv ob19, rv ob24, .unset, .unset, .unset, .unset] [])) rfl (hb hby at_184) (by decide) (by decide)
          obtain ⟨ob34, g34⟩ : ∃ z, z = h33.size := ⟨_, rfl⟩
          rw [← g34] at Ax34 Dx34 Ux34 st34
          have Fc35 : Exa Z h33 ob15 "com/example/halyard/halyard/core/mal/TypeId" := (((Fc25.ext Ex24).wr W30).wr W33)
          have ne36 : ob15 ≠ ob34 := Nat.ne_of_lt (Nat.lt_of_lt_of_le Fc35.lt (Nat.le_of_eq g34.symm))
          have Fc37 : Exa Z h33 ob19 "com/example/halyard/halyard/core/mal/TypeId" := (((p22_1.ext Ex24).wr W30).wr W33)
          have ne38 : ob19 ≠ ob34 := Nat.ne_of_lt (Nat.lt_of_lt_of_le Fc37.lt (Nat.le_of_eq g34.symm))
          have ne39 : ob24 ≠ ob34 := Nat.ne_of_lt (Nat.lt_of_lt_of_le Vn33.lt (Nat.le_of_eq g34.symm))
          have Z34 : n0 ≤ h34.size := Nat.le_trans Z33 Ex34.1
          have ge34 : n0 ≤ ob34 := Nat.le_trans Z33 (Nat.le_of_eq g34.symm)
          have Fn34_46 : Fld Z h34 ob34 "java/lang/String" "coder" "B" (.int 0) := Dx34 (Or.inr (wd hw 46 rfl)) (ty := .byte) (by decide)
          have Fn34_48 : Fld Z h34 ob34 "java/lang/String" "value" "[B" .null := Dx34 (Or.inr (wd hw 48 rfl)) (ty := (.array .byte)) (by decide)
          refine own_lift st34 ?_
          show own_Go p.tables e below (T34.setTop (mkF m 187 #[iv p0, iv p1, iv p2, iv p3, iv p4, iv p5, iv x0, iv x1, iv x2, iv x3, iv y0, iv y1, iv y2, iv y3, iv kk, rv ob15, rv ob19, rv ob24, .unset, .unset, .unset, .unset] [(.ref ob34)])) _
          have sg40 : ∀ t, Steps p.tables e below (T34.setTop (mkF m 190 #[iv p0, iv p1, iv p2, iv p3, iv p4, iv p5, iv x0, iv x1, iv x2, iv x3, iv y0, iv y1, iv y2, iv y3, iv kk, rv ob15, rv ob19, rv ob24, .unset, .unset, .unset, .unset] [(.ref ob24), (.ref ob34), (.ref ob34)])) t → Steps p.tables e below (T34.setTop (mkF m 187 #[iv p0, iv p1, iv p2, iv p3, iv p4, iv p5, iv x0, iv x1, iv x2, iv x3, iv y0, iv y1, iv y2, iv y3, iv kk, rv ob15, rv ob19, rv ob24, .unset, .unset, .unset, .unset] [(.ref ob34)])) t := by
            intro t k
            refine XS.dup X34.here hx rfl (hb hby at_187) rfl rfl ?_
            show Steps p.tables e below (T34.setTop (mkF m 188 #[iv p0, iv p1, iv p2, iv p3, iv p4, iv p5, iv x0, iv x1, iv x2, iv x3, iv y0, iv y1, iv y2, iv y3, iv kk, rv ob15, rv ob19, rv ob24, .unset, .unset, .unset, .unset] [(.ref ob34), (.ref ob34)])) _
            refine XS.aload X34.here hx rfl (hb hby at_188) rfl rfl ?_
            show Steps p.tables e below (T34.setTop (mkF m 190 #[iv p0, iv p1, iv p2, iv p3, iv p4, iv p5, iv x0, iv x1, iv x2, iv x3, iv y0, iv y1, iv y2, iv y3, iv kk, rv ob15, rv ob19, rv ob24, .unset, .unset, .unset, .unset] [(.ref ob24), (.ref ob34), (.ref ob34)])) _
            exact k
          refine own_lift sg40 ?_
          show own_Go p.tables e below (T34.setTop (mkF m 190 #[iv p0, iv p1, iv p2, iv p3, iv p4, iv p5, iv x0, iv x1, iv x2, iv x3, iv y0, iv y1, iv y2, iv y3, iv kk, rv ob15, rv ob19, rv ob24, .unset, .unset, .unset, .unset] [(.ref ob24), (.ref ob34), (.ref ob34)])) _
          have Fc41 : Arv Z h34 ob24 ka24 .char (2 : Int32) [(.int (nar .char ((p4 &&& (255 : Int32)).toUInt32.toUInt16.toUInt32.toInt32))), (.int (nar .char ((((p4.toUInt32 >>> ((8 : Int32) &&& 31).toUInt32).toInt32) &&& (255 : Int32)).toUInt32.toUInt16.toUInt32.toInt32)))] (.int 0) := (Vn33.ext Ex34)
          have Fc42 : Sta Z h34 "java/lang/String" "COMPACT_STRINGS" "Z" (.int cs) := (((((own_Sta_keep ((own_Sta_keep (S_cs.ext Ex15) p17_0 (allS (own_plain Ax15) all0)).ext Ex19) p22_0 (allS (own_plain Ax19) all0)).ext Ex24).wr W30).wr W33).ext Ex34)
          have hws43 : ∀ d ∈ StrChars.Road.words, d.before a0 Z = true := fun d hd => hw d (own_words d hd)
          have hlat43 : ∀ c ∈ [(nar .char ((p4 &&& (255 : Int32)).toUInt32.toUInt16.toUInt32.toInt32)), (nar .char ((((p4.toUInt32 >>> ((8 : Int32) &&& 31).toUInt32).toInt32) &&& (255 : Int32)).toUInt32.toUInt16.toUInt32.toInt32))], ¬ c < 0 ∧ ¬ (255 : Int32) < c := own_lat p4
          obtain ⟨_, _, ⟨T43, Lx43, kx43, nx43⟩, -, X43, ⟨Lc43, hQ43, lx43, yx43, zx43⟩, st43⟩ := X34.specialBack hx (y := (⟨"java/lang/String", "<init>", "([C)V"⟩ : MethodName)) rfl hown (mvT hZ (wd hw 25 rfl)) (mvT hZ (wd hw 26 rfl)) (mvT hZ (wd hw 27 rfl)) (by decide) (StrChars.Road.backV (W := 1) hZ hws43 (kI := 4) (wd hw 23 rfl) (cs := [(nar .char ((p4 &&& (255 : Int32)).toUInt32.toUInt16.toUInt32.toInt32)), (nar .char ((((p4.toUInt32 >>> ((8 : Int32) &&& 31).toUInt32).toInt32) &&& (255 : Int32)).toUInt32.toUInt16.toUInt32.toInt32))]) (bs := [((nar .char ((p4 &&& (255 : Int32)).toUInt32.toUInt16.toUInt32.toInt32))).toInt8.toInt32, ((nar .char ((((p4.toUInt32 >>> ((8 : Int32) &&& 31).toUInt32).toInt32) &&& (255 : Int32)).toUInt32.toUInt16.toUInt32.toInt32))).toInt8.toInt32]) (n := 2) ge34 Z34 Ax34 Fn34_48 Fn34_46 Fc41 Fc42 P_cs rfl rfl (by decide) (by decide) hlat43 rfl (by decide) (by decide)) (g := (mkF m 190 #[iv p0, iv p1, iv p2, iv p3, iv p4, iv p5, iv x0, iv x1, iv x2, iv x3, iv y0, iv y1, iv y2, iv y3, iv kk, rv ob15, rv ob19, rv ob24, .unset, .unset, .unset, .unset] [(.ref ob24), (.ref ob34), (.ref ob34)])) rfl (by rw [hml]; rfl) (Steps.refl _) (a := ob34) (argsL := [(.ref ob24)]) (rest := [(.ref ob34)]) (lenOf pd_1 rfl) rfl (by show 2 * 0 + _ ≤ _; exact Nat.le_of_eq rfl) (hb hby at_190) (fun _ _ => ⟨rfl, e34, (by decide : 4 + 1 ≤ _), (by decide : 14 + 2 ≤ _)⟩)
          dsimp only [Pt.U, Pt.locs, Pt.cells, Pt.slots] at X43 lx43 yx43 zx43 st43 hQ43
          subst lx43 yx43 zx43
          obtain ⟨rfl, N43q, Kq43, Eq43, Cq43, tb43, kb43, gt43, gh43, nt43, Vq43, Aq43⟩ := hQ43
          have N43 := Fr.app N33 N43q
          have Fc44 : Exa Z h34 ob15 "com/example/halyard/halyard/core/mal/TypeId" := (Fc35.ext Ex34)
          have ne45 : ob15 ≠ tb43 := Nat.ne_of_lt (Nat.lt_of_lt_of_le Fc44.lt gh43)
          have Fc46 : Exa Z h34 ob19 "com/example/halyard/halyard/core/mal/TypeId" := (Fc37.ext Ex34)
          have ne47 : ob19 ≠ tb43 := Nat.ne_of_lt (Nat.lt_of_lt_of_le Fc46.lt gh43)
          have ne48 : ob24 ≠ tb43 := Nat.ne_of_lt (Nat.lt_of_lt_of_le Fc41.lt gh43)
          have ne49 : ob34 ≠ tb43 := Nat.ne_of_lt (Nat.lt_of_lt_of_le Ax34.lt gh43)
          have Z43 : n0 ≤ T43.heap.size := Nat.le_trans Z34 Kq43.1
          refine own_lift (fun t k => st43.trans k) ?_
          show own_Go p.tables e below (T43.setTop (mkF m 193 #[iv p0, iv p1, iv p2, iv p3, iv p4, iv p5, iv x0, iv x1, iv x2, iv x3, iv y0, iv y1, iv y2, iv y3, iv kk, rv ob15, rv ob19, rv ob24, .unset, .unset, .unset, .unset] [(.ref ob34)])) _
          have sg50 : ∀ t, Steps p.tables e below (T43.setTop (mkF m 269 #[iv p0, iv p1, iv p2, iv p3, iv p4, iv p5, iv x0, iv x1, iv x2, iv x3, iv y0, iv y1, iv y2, iv y3, iv kk, rv ob15, rv ob19, rv ob24, rv ob34, rv ob19, iv 1, .unset] [(.ref ob19), (.ref ob15)])) t → Steps p.tables e below (T43.setTop (mkF m 193 #[iv p0, iv p1, iv p2, iv p3, iv p4, iv p5, iv x0, iv x1, iv x2, iv x3, iv y0, iv y1, iv y2, iv y3, iv kk, rv ob15, rv ob19, rv ob24, .unset, .unset, .unset, .unset] [(.ref ob34)])) t := by
            intro t k
            refine XS.astore X43.here hx rfl (hb hby at_193) rfl rfl (l' := #[iv p0, iv p1, iv p2, iv p3, iv p4, iv p5, iv x0, iv x1, iv x2, iv x3, iv y0, iv y1, iv y2, iv y3, iv kk, rv ob15, rv ob19, rv ob24, rv ob34, .unset, .unset, .unset]) rfl ?_
            show Steps p.tables e below (T43.setTop (mkF m 195 #[iv p0, iv p1, iv p2, iv p3, iv p4, iv p5, iv x0, iv x1, iv x2, iv x3, iv y0, iv y1, iv y2, iv y3, iv kk, rv ob15, rv ob19, rv ob24, rv ob34, .unset, .unset, .unset] [])) _
            refine XS.iload X43.here hx rfl (hb hby at_195) rfl ?_
            refine XS.iconst X43.here hx rfl (hb hby at_197) ?_
            show Steps p.tables e below (T43.setTop (mkF m 198 #[iv p0, iv p1, iv p2, iv p3, iv p4, iv p5, iv x0, iv x1, iv x2, iv x3, iv y0, iv y1, iv y2, iv y3, iv kk, rv ob15, rv ob19, rv ob24, rv ob34, .unset, .unset, .unset] [(.int 2), (.int kk)])) _
            refine XS.icmpNo X43.here hx rfl (hb hby at_198) rfl (tlt k2).2.1 ?_
            refine XS.aload X43.here hx rfl (hb hby at_201) rfl rfl ?_
            show Steps p.tables e below (T43.setTop (mkF m 203 #[iv p0, iv p1, iv p2, iv p3, iv p4, iv p5, iv x0, iv x1, iv x2, iv x3, iv y0, iv y1, iv y2, iv y3, iv kk, rv ob15, rv ob19, rv ob24, rv ob34, .unset, .unset, .unset] [(.ref ob19)])) _
            refine XS.astore X43.here hx rfl (hb hby at_203) rfl rfl (l' := #[iv p0, iv p1, iv p2, iv p3, iv p4, iv p5, iv x0, iv x1, iv x2, iv x3, iv y0, iv y1, iv y2, iv y3, iv kk, rv ob15, rv ob19, rv ob24, rv ob34, rv ob19, .unset, .unset]) rfl ?_
            refine XS.goto X43.here hx rfl (pc0 := 205) (pc' := 224) rfl (hb hby at_205) (by decide) (by decide) ?_
            show Steps p.tables e below (T43.setTop (mkF m 224 #[iv p0, iv p1, iv p2, iv p3, iv p4, iv p5, iv x0, iv x1, iv x2, iv x3, iv y0, iv y1, iv y2, iv y3, iv kk, rv ob15, rv ob19, rv ob24, rv ob34, rv ob19, .unset, .unset] [])) _
            refine XS.iload X43.here hx rfl (hb hby at_224) rfl ?_
            refine XS.iconst X43.here hx rfl (hb hby at_226) ?_
            show Steps p.tables e below (T43.setTop (mkF m 227 #[iv p0, iv p1, iv p2, iv p3, iv p4, iv p5, iv x0, iv x1, iv x2, iv x3, iv y0, iv y1, iv y2, iv y3, iv kk, rv ob15, rv ob19, rv ob24, rv ob34, rv ob19, .unset, .unset] [(.int 2), (.int kk)])) _
            refine XS.icmpNo X43.here hx rfl (hb hby at_227) rfl (tlt k2).2.1 ?_
            refine XS.iload X43.here hx rfl (hb hby at_230) rfl ?_
            show Steps p.tables e below (T43.setTop (mkF m 232 #[iv p0, iv p1, iv p2, iv p3, iv p4, iv p5, iv x0, iv x1, iv x2, iv x3, iv y0, iv y1, iv y2, iv y3, iv kk, rv ob15, rv ob19, rv ob24, rv ob34, rv ob19, .unset, .unset] [(.int x0)])) _
            refine XS.iload X43.here hx rfl (hb hby at_232) rfl ?_
            refine XS.icmpNo X43.here hx rfl (hb hby at_234) rfl (teq d0).2 ?_
            show Steps p.tables e below (T43.setTop (mkF m 237 #[iv p0, iv p1, iv p2, iv p3, iv p4, iv p5, iv x0, iv x1, iv x2, iv x3, iv y0, iv y1, iv y2, iv y3, iv kk, rv ob15, rv ob19, rv ob24, rv ob34, rv ob19, .unset, .unset] [])) _
            refine XS.iload X43.here hx rfl (hb hby at_237) rfl ?_
            refine XS.iload X43.here hx rfl (hb hby at_239) rfl ?_
            show Steps p.tables e below (T43.setTop (mkF m 241 #[iv p0, iv p1, iv p2, iv p3, iv p4, iv p5, iv x0, iv x1, iv x2, iv x3, iv y0, iv y1, iv y2, iv y3, iv kk, rv ob15, rv ob19, rv ob24, rv ob34, rv ob19, .unset, .unset] [(.int y1), (.int x1)])) _
            refine XS.icmpNo X43.here hx rfl (hb hby at_241) rfl (teq d1).2 ?_
            refine XS.iload X43.here hx rfl (hb hby at_244) rfl ?_
            show Steps p.tables e below (T43.setTop (mkF m 246 #[iv p0, iv p1, iv p2, iv p3, iv p4, iv p5, iv x0, iv x1, iv x2, iv x3, iv y0, iv y1, iv y2, iv y3, iv kk, rv ob15, rv ob19, rv ob24, rv ob34, rv ob19, .unset, .unset] [(.int x2)])) _
            refine XS.iload X43.here hx rfl (hb hby at_246) rfl ?_
            refine XS.icmpNo X43.here hx rfl (hb hby at_248) rfl (teq d2).2 ?_
            show Steps p.tables e below (T43.setTop (mkF m 251 #[iv p0, iv p1, iv p2, iv p3, iv p4, iv p5, iv x0, iv x1, iv x2, iv x3, iv y0, iv y1, iv y2, iv y3, iv kk, rv ob15, rv ob19, rv ob24, rv ob34, rv ob19, .unset, .unset] [])) _
            refine XS.iload X43.here hx rfl (hb hby at_251) rfl ?_
            refine XS.iload X43.here hx rfl (hb hby at_253) rfl ?_
            show Steps p.tables e below (T43.setTop (mkF m 255 #[iv p0, iv p1, iv p2, iv p3, iv p4, iv p5, iv x0, iv x1, iv x2, iv x3, iv y0, iv y1, iv y2, iv y3, iv kk, rv ob15, rv ob19, rv ob24, rv ob34, rv ob19, .unset, .unset] [(.int y3), (.int x3)])) _
            refine XS.icmpNo X43.here hx rfl (hb hby at_255) rfl (teq d3).2 ?_
            refine XS.iconst X43.here hx rfl (hb hby at_258) ?_
            show Steps p.tables e below (T43.setTop (mkF m 259 #[iv p0, iv p1, iv p2, iv p3, iv p4, iv p5, iv x0, iv x1, iv x2, iv x3, iv y0, iv y1, iv y2, iv y3, iv kk, rv ob15, rv ob19, rv ob24, rv ob34, rv ob19, .unset, .unset] [(.int 1)])) _
            refine XS.goto X43.here hx rfl (pc0 := 259) (pc' := 263) rfl (hb hby at_259) (by decide) (by decide) ?_
            refine XS.istore X43.here hx rfl (hb hby at_263) rfl (l' := #[iv p0, iv p1, iv p2, iv p3, iv p4, iv p5, iv x0, iv x1, iv x2, iv x3, iv y0, iv y1, iv y2, iv y3, iv kk, rv ob15, rv ob19, rv ob24, rv ob34, rv ob19, iv 1, .unset]) rfl ?_
            show Steps p.tables e below (T43.setTop (mkF m 265 #[iv p0, iv p1, iv p2, iv p3, iv p4, iv p5, iv x0, iv x1, iv x2, iv x3, iv y0, iv y1, iv y2, iv y3, iv kk, rv ob15, rv ob19, rv ob24, rv ob34, rv ob19, iv 1, .unset] [])) _
            refine XS.aload X43.here hx rfl (hb hby at_265) rfl rfl ?_
            refine XS.aload X43.here hx rfl (hb hby at_267) rfl rfl ?_
            show Steps p.tables e below (T43.setTop (mkF m 269 #[iv p0, iv p1, iv p2, iv p3, iv p4, iv p5, iv x0, iv x1, iv x2, iv x3, iv y0, iv y1, iv y2, iv y3, iv kk, rv ob15, rv ob19, rv ob24, rv ob34, rv ob19, iv 1, .unset] [(.ref ob19), (.ref ob15)])) _
            exact k
          refine own_lift sg50 ?_
          show own_Go p.tables e below (T43.setTop (mkF m 269 #[iv p0, iv p1, iv p2, iv p3, iv p4, iv p5, iv x0, iv x1, iv x2, iv x3, iv y0, iv y1, iv y2, iv y3, iv kk, rv ob15, rv ob19, rv ob24, rv ob34, rv ob19, iv 1, .unset] [(.ref ob19), (.ref ob15)])) _
          have Fc51 : Fld Z T43.heap ob15 "com/example/halyard/halyard/core/mal/TypeId" "area" "I" (.int x0) := (((((((p17_2.ext Ex19).keep p22_0 (ninS ne20 nin0)).ext Ex24).other W30 (Or.inl ne26)).other W33 (Or.inl ne26)).ext Ex34).keep Kq43 (ninS ne36 nin0))
          have Fc52 : Fld Z T43.heap ob15 "com/example/halyard/halyard/core/mal/TypeId" "service" "I" (.int x1) := (((((((p17_3.ext Ex19).keep p22_0 (ninS ne20 nin0)).ext Ex24).other W30 (Or.inl ne26)).other W33 (Or.inl ne26)).ext Ex34).keep Kq43 (ninS ne36 nin0))
          have Fc53 : Fld Z T43.heap ob15 "com/example/halyard/halyard/core/mal/TypeId" "areaVersion" "I" (.int x2) := (((((((p17_4.ext Ex19).keep p22_0 (ninS ne20 nin0)).ext Ex24).other W30 (Or.inl ne26)).other W33 (Or.inl ne26)).ext Ex34).keep Kq43 (ninS ne36 nin0))
          have Fc54 : Fld Z T43.heap ob15 "com/example/halyard/halyard/core/mal/TypeId" "shortFormPart" "I" (.int x3) := (((((((p17_5.ext Ex19).keep p22_0 (ninS ne20 nin0)).ext Ex24).other W30 (Or.inl ne26)).other W33 (Or.inl ne26)).ext Ex34).keep Kq43 (ninS ne36 nin0))
          have Fc55 : Fld Z T43.heap ob19 "com/example/halyard/halyard/core/mal/TypeId" "area" "I" (.int y0) := (((((p22_2.ext Ex24).other W30 (Or.inl ne27)).other W33 (Or.inl ne27)).ext Ex34).keep Kq43 (ninS ne38 nin0))
          have Fc56 : Fld Z T43.heap ob19 "com/example/halyard/halyard/core/mal/TypeId" "service" "I" (.int y1) := (((((p22_3.ext Ex24).other W30 (Or.inl ne27)).other W33 (Or.inl ne27)).ext Ex34).keep Kq43 (ninS ne38 nin0))
          have Fc57 : Fld Z T43.heap ob19 "com/example/halyard/halyard/core/mal/TypeId" "areaVersion" "I" (.int y2) := (((((p22_4.ext Ex24).other W30 (Or.inl ne27)).other W33 (Or.inl ne27)).ext Ex34).keep Kq43 (ninS ne38 nin0))
          have Fc58 : Fld Z T43.heap ob19 "com/example/halyard/halyard/core/mal/TypeId" "shortFormPart" "I" (.int y3) := (((((p22_5.ext Ex24).other W30 (Or.inl ne27)).other W33 (Or.inl ne27)).ext Ex34).keep Kq43 (ninS ne38 nin0))
          have Fc59 : Exa Z T43.heap ob19 "com/example/halyard/halyard/core/mal/TypeId" := (Fc46.keep Kq43)
          have Fc61 : Exa Z T43.heap ob15 "com/example/halyard/halyard/core/mal/TypeId" := (Fc44.keep Kq43)
          obtain ⟨cq60, kq60, q60a, q60b, q60c⟩ := isOf hZ rfl Fc61
          obtain ⟨_, _, ⟨T60, Lx60, kx60, nx60⟩, -, X60, ⟨Lc60, hQ60, lx60, yx60, zx60⟩, st60⟩ := X43.virtualBack hx (y := (⟨"com/example/halyard/halyard/core/mal/TypeId", "equals", "(Ljava/lang/Object;)Z"⟩ : MethodName)) (z := (⟨"com/example/halyard/halyard/core/mal/TypeId", "equals", "(Ljava/lang/Object;)Z"⟩ : MethodName)) hown (mvT hZ (wd hw 49 rfl)) (mvT hZ (wd hw 50 rfl)) (notFace_of_selects (args := #[]) (mvT hZ (wd hw 52 rfl))) (mvT hZ (wd hw 52 rfl)) (mvT hZ (wd hw 51 rfl)) (by decide) (backOf (W := 0) (rmEq4 l Z a0 hw [] ob15 ob19 x0 x1 x2 x3 y0 y1 y2 y3 T43.heap n0 Z43 Fc51 Fc52 Fc53 Fc54 Fc55 Fc56 Fc57 Fc58 Fc59 d0 d1 d2 d3) hZ (wd hw 53 rfl) (wd hw 3 rfl) (by decide) (by decide)) q60a q60c (g := (mkF m 269 #[iv p0, iv p1, iv p2, iv p3, iv p4, iv p5, iv x0, iv x1, iv x2, iv x3, iv y0, iv y1, iv y2, iv y3, iv kk, rv ob15, rv ob19, rv ob24, rv ob34, rv ob19, iv 1, .unset] [(.ref ob19), (.ref ob15)])) rfl (by rw [hml]; rfl) (Steps.refl _) (argsL := [(.ref ob19)]) (rest := []) (lenOf pd_2 rfl) rfl (by show 2 * 0 + _ ≤ _; exact Nat.le_of_eq rfl) (hb hby at_269) (fun _ _ => ⟨rfl, rfl, (by decide : 5 + 0 ≤ _), (by decide : 16 + 0 ≤ _)⟩)
          dsimp only [Pt.U, Pt.locs, Pt.cells, Pt.slots] at X60 lx60 yx60 zx60 st60 hQ60
          subst lx60 yx60 zx60
          obtain ⟨rfl, N60q, e60⟩ := hQ60
          have N60 := Fr.app N43 N60q
          refine own_lift (fun t k => st60.trans k) ?_
          show own_Go p.tables e below (T60.setTop (mkF m 272 #[iv p0, iv p1, iv p2, iv p3, iv p4, iv p5, iv x0, iv x1, iv x2, iv x3, iv y0, iv y1, iv y2, iv y3, iv kk, rv ob15, rv ob19, rv ob24, rv ob34, rv ob19, iv 1, .unset] [(.int 1)])) _
          have sg62 : ∀ t, Steps p.tables e below (T60.setTop (mkF m 299 #[iv p0, iv p1, iv p2, iv p3, iv p4, iv p5, iv x0, iv x1, iv x2, iv x3, iv y0, iv y1, iv y2, iv y3, iv kk, rv ob15, rv ob19, rv ob24, rv ob34, rv ob19, iv 1, iv 1] [(.ref ob15), (.ref ob19)])) t → Steps p.tables e below (T60.setTop (mkF m 272 #[iv p0, iv p1, iv p2, iv p3, iv p4, iv p5, iv x0, iv x1, iv x2, iv x3, iv y0, iv y1, iv y2, iv y3, iv kk, rv ob15, rv ob19, rv ob24, rv ob34, rv ob19, iv 1, .unset] [(.int 1)])) t := by
            intro t k
            refine XS.iload X60.here hx rfl (hb hby at_272) rfl ?_
            show Steps p.tables e below (T60.setTop (mkF m 274 #[iv p0, iv p1, iv p2, iv p3, iv p4, iv p5, iv x0, iv x1, iv x2, iv x3, iv y0, iv y1, iv y2, iv y3, iv kk, rv ob15, rv ob19, rv ob24, rv ob34, rv ob19, iv 1, .unset] [(.int 1), (.int 1)])) _
            refine XS.icmpNo X60.here hx rfl (hb hby at_274) rfl (teq (by decide : (1 : Int32) = (1 : Int32))).2 ?_
            refine XS.iconst X60.here hx rfl (hb hby at_277) ?_
            show Steps p.tables e below (T60.setTop (mkF m 278 #[iv p0, iv p1, iv p2, iv p3, iv p4, iv p5, iv x0, iv x1, iv x2, iv x3, iv y0, iv y1, iv y2, iv y3, iv kk, rv ob15, rv ob19, rv ob24, rv ob34, rv ob19, iv 1, .unset] [(.int 1)])) _
            refine XS.goto X60.here hx rfl (pc0 := 278) (pc' := 282) rfl (hb hby at_278) (by decide) (by decide) ?_
            refine XS.istore X60.here hx rfl (hb hby at_282) rfl (l' := #[iv p0, iv p1, iv p2, iv p3, iv p4, iv p5, iv x0, iv x1, iv x2, iv x3, iv y0, iv y1, iv y2, iv y3, iv kk, rv ob15, rv ob19, rv ob24, rv ob34, rv ob19, iv 1, iv 1]) rfl ?_
            show Steps p.tables e below (T60.setTop (mkF m 284 #[iv p0, iv p1, iv p2, iv p3, iv p4, iv p5, iv x0, iv x1, iv x2, iv x3, iv y0, iv y1, iv y2, iv y3, iv kk, rv ob15, rv ob19, rv ob24, rv ob34, rv ob19, iv 1, iv 1] [])) _
            refine XS.iload X60.here hx rfl (hb hby at_284) rfl ?_
            refine XS.iconst X60.here hx rfl (hb hby at_286) ?_
            show Steps p.tables e below (T60.setTop (mkF m 287 #[iv p0, iv p1, iv p2, iv p3, iv p4, iv p5, iv x0, iv x1, iv x2, iv x3, iv y0, iv y1, iv y2, iv y3, iv kk, rv ob15, rv ob19, rv ob24, rv ob34, rv ob19, iv 1, iv 1] [(.int 2), (.int kk)])) _
            refine XS.icmpNo X60.here hx rfl (hb hby at_287) rfl (tlt k2).2.1 ?_
            refine XS.iload X60.here hx rfl (hb hby at_290) rfl ?_
            show Steps p.tables e below (T60.setTop (mkF m 292 #[iv p0, iv p1, iv p2, iv p3, iv p4, iv p5, iv x0, iv x1, iv x2, iv x3, iv y0, iv y1, iv y2, iv y3, iv kk, rv ob15, rv ob19, rv ob24, rv ob34, rv ob19, iv 1, iv 1] [(.int 1)])) _
            refine XS.ifNo X60.here hx rfl (hb hby at_292) rfl ((if0 _ _).trans (feq (by decide : ¬ ((1 : Int32) = (0 : Int32)))).1) ?_
            refine XS.aload X60.here hx rfl (hb hby at_295) rfl rfl ?_
            show Steps p.tables e below (T60.setTop (mkF m 297 #[iv p0, iv p1, iv p2, iv p3, iv p4, iv p5, iv x0, iv x1, iv x2, iv x3, iv y0, iv y1, iv y2, iv y3, iv kk, rv ob15, rv ob19, rv ob24, rv ob34, rv ob19, iv 1, iv 1] [(.ref ob19)])) _
            refine XS.aload X60.here hx rfl (hb hby at_297) rfl rfl ?_
            show Steps p.tables e below (T60.setTop (mkF m 299 #[iv p0, iv p1, iv p2, iv p3, iv p4, iv p5, iv x0, iv x1, iv x2, iv x3, iv y0, iv y1, iv y2, iv y3, iv kk, rv ob15, rv ob19, rv ob24, rv ob34, rv ob19, iv 1, iv 1] [(.ref ob15), (.ref ob19)])) _
            exact k
          refine own_lift sg62 ?_
          show own_Go p.tables e below (T60.setTop (mkF m 299 #[iv p0, iv p1, iv p2, iv p3, iv p4, iv p5, iv x0, iv x1, iv x2, iv x3, iv y0, iv y1, iv y2, iv y3, iv kk, rv ob15, rv ob19, rv ob24, rv ob34, rv ob19, iv 1, iv 1] [(.ref ob15), (.ref ob19)])) _
          obtain ⟨cq63, kq63, q63a, q63b, q63c⟩ := isOf hZ e60 Fc59
          obtain ⟨_, _, ⟨T63, Lx63, kx63, nx63⟩, -, X63, ⟨Lc63, hQ63, lx63, yx63, zx63⟩, st63⟩ := X60.virtualBack hx (y := (⟨"com/example/halyard/halyard/core/mal/TypeId", "equals", "(Ljava/lang/Object;)Z"⟩ : MethodName)) (z := (⟨"com/example/halyard/halyard/core/mal/TypeId", "equals", "(Ljava/lang/Object;)Z"⟩ : MethodName)) hown (mvT hZ (wd hw 49 rfl)) (mvT hZ (wd hw 50 rfl)) (notFace_of_selects (args := #[]) (mvT hZ (wd hw 52 rfl))) (mvT hZ (wd hw 52 rfl)) (mvT hZ (wd hw 51 rfl)) (by decide) (backOf (W := 0) (rmEq4 l Z a0 hw [] ob19 ob15 y0 y1 y2 y3 x0 x1 x2 x3 T43.heap n0 Z43 Fc55 Fc56 Fc57 Fc58 Fc51 Fc52 Fc53 Fc54 Fc61 (Eq.symm d0) (Eq.symm d1) (Eq.symm d2) (Eq.symm d3)) hZ (wd hw 53 rfl) (wd hw 3 rfl) (by decide) (by decide)) q63a q63c (g := (mkF m 299 #[iv p0, iv p1, iv p2, iv p3, iv p4, iv p5, iv x0, iv x1, iv x2, iv x3, iv y0, iv y1, iv y2, iv y3, iv kk, rv ob15, rv ob19, rv ob24, rv ob34, rv ob19, iv 1, iv 1] [(.ref ob15), (.ref ob19)])) rfl (by rw [hml]; rfl) (Steps.refl _) (argsL := [(.ref ob15)]) (rest := []) (lenOf pd_2 rfl) rfl (by show 2 * 0 + _ ≤ _; exact Nat.le_of_eq rfl) (hb hby at_299) (fun _ _ => ⟨rfl, e60, (by decide : 5 + 0 ≤ _), (by decide : 16 + 0 ≤ _)⟩)
          dsimp only [Pt.U, Pt.locs, Pt.cells, Pt.slots] at X63 lx63 yx63 zx63 st63 hQ63
          subst lx63 yx63 zx63
          obtain ⟨rfl, N63q, e63⟩ := hQ63
          have N63 := Fr.app N60 N63q
          refine own_lift (fun t k => st63.trans k) ?_
          show own_Go p.tables e below (T63.setTop (mkF m 302 #[iv p0, iv p1, iv p2, iv p3, iv p4, iv p5, iv x0, iv x1, iv x2, iv x3, iv y0, iv y1, iv y2, iv y3, iv kk, rv ob15, rv ob19, rv ob24, rv ob34, rv ob19, iv 1, iv 1] [(.int 1)])) _
          have sg64 : ∀ t, Steps p.tables e below (T63.setTop (mkF m 323 #[iv p0, iv p1, iv p2, iv p3, iv p4, iv p5, iv x0, iv x1, iv x2, iv x3, iv y0, iv y1, iv y2, iv y3, iv kk, rv ob15, rv ob19, rv ob24, rv ob34, rv ob19, iv 1, iv 1] [(.ref ob15), (.ref ob15)])) t → Steps p.tables e below (T63.setTop (mkF m 302 #[iv p0, iv p1, iv p2, iv p3, iv p4, iv p5, iv x0, iv x1, iv x2, iv x3, iv y0, iv y1, iv y2, iv y3, iv kk, rv ob15, rv ob19, rv ob24, rv ob34, rv ob19, iv 1, iv 1] [(.int 1)])) t := by
            intro t k
            refine XS.iload X63.here hx rfl (hb hby at_302) rfl ?_
            show Steps p.tables e below (T63.setTop (mkF m 304 #[iv p0, iv p1, iv p2, iv p3, iv p4, iv p5, iv x0, iv x1, iv x2, iv x3, iv y0, iv y1, iv y2, iv y3, iv kk, rv ob15, rv ob19, rv ob24, rv ob34, rv ob19, iv 1, iv 1] [(.int 1), (.int 1)])) _
            refine XS.icmpNo X63.here hx rfl (hb hby at_304) rfl (teq (by decide : (1 : Int32) = (1 : Int32))).2 ?_
            refine XS.iconst X63.here hx rfl (hb hby at_307) ?_
            show Steps p.tables e below (T63.setTop (mkF m 308 #[iv p0, iv p1, iv p2, iv p3, iv p4, iv p5, iv x0, iv x1, iv x2, iv x3, iv y0, iv y1, iv y2, iv y3, iv kk, rv ob15, rv ob19, rv ob24, rv ob34, rv ob19, iv 1, iv 1] [(.int 1)])) _
            refine XS.goto X63.here hx rfl (pc0 := 308) (pc' := 312) rfl (hb hby at_308) (by decide) (by decide) ?_
            refine XS.istore X63.here hx rfl (hb hby at_312) rfl (l' := #[iv p0, iv p1, iv p2, iv p3, iv p4, iv p5, iv x0, iv x1, iv x2, iv x3, iv y0, iv y1, iv y2, iv y3, iv kk, rv ob15, rv ob19, rv ob24, rv ob34, rv ob19, iv 1, iv 1]) rfl ?_
            show Steps p.tables e below (T63.setTop (mkF m 314 #[iv p0, iv p1, iv p2, iv p3, iv p4, iv p5, iv x0, iv x1, iv x2, iv x3, iv y0, iv y1, iv y2, iv y3, iv kk, rv ob15, rv ob19, rv ob24, rv ob34, rv ob19, iv 1, iv 1] [])) _
            refine XS.iload X63.here hx rfl (hb hby at_314) rfl ?_
            refine XS.ifNo X63.here hx rfl (hb hby at_316) rfl ((if0 _ _).trans (feq (by decide : ¬ ((1 : Int32) = (0 : Int32)))).1) ?_
            show Steps p.tables e below (T63.setTop (mkF m 319 #[iv p0, iv p1, iv p2, iv p3, iv p4, iv p5, iv x0, iv x1, iv x2, iv x3, iv y0, iv y1, iv y2, iv y3, iv kk, rv ob15, rv ob19, rv ob24, rv ob34, rv ob19, iv 1, iv 1] [])) _
            refine XS.aload X63.here hx rfl (hb hby at_319) rfl rfl ?_
            refine XS.aload X63.here hx rfl (hb hby at_321) rfl rfl ?_
            show Steps p.tables e below (T63.setTop (mkF m 323 #[iv p0, iv p1, iv p2, iv p3, iv p4, iv p5, iv x0, iv x1, iv x2, iv x3, iv y0, iv y1, iv y2, iv y3, iv kk, rv ob15, rv ob19, rv ob24, rv ob34, rv ob19, iv 1, iv 1] [(.ref ob15), (.ref ob15)])) _
            exact k
          refine own_lift sg64 ?_
          show own_Go p.tables e below (T63.setTop (mkF m 323 #[iv p0, iv p1, iv p2, iv p3, iv p4, iv p5, iv x0, iv x1, iv x2, iv x3, iv y0, iv y1, iv y2, iv y3, iv kk, rv ob15, rv ob19, rv ob24, rv ob34, rv ob19, iv 1, iv 1] [(.ref ob15), (.ref ob15)])) _
          obtain ⟨cq65, kq65, q65a, q65b, q65c⟩ := isOf hZ e63 Fc61
          obtain ⟨_, _, ⟨T65, Lx65, kx65, nx65⟩, -, X65, ⟨Lc65, hQ65, lx65, yx65, zx65⟩, st65⟩ := X63.virtualBack hx (y := (⟨"com/example/halyard/halyard/core/mal/TypeId", "equals", "(Ljava/lang/Object;)Z"⟩ : MethodName)) (z := (⟨"com/example/halyard/halyard/core/mal/TypeId", "equals", "(Ljava/lang/Object;)Z"⟩ : MethodName)) hown (mvT hZ (wd hw 49 rfl)) (mvT hZ (wd hw 50 rfl)) (notFace_of_selects (args := #[]) (mvT hZ (wd hw 52 rfl))) (mvT hZ (wd hw 52 rfl)) (mvT hZ (wd hw 51 rfl)) (by decide) (backOf (W := 0) (rmEq4 l Z a0 hw [] ob15 ob15 x0 x1 x2 x3 x0 x1 x2 x3 T43.heap n0 Z43 Fc51 Fc52 Fc53 Fc54 Fc51 Fc52 Fc53 Fc54 Fc61 (rfl : x0 = x0) (rfl : x1 = x1) (rfl : x2 = x2) (rfl : x3 = x3)) hZ (wd hw 53 rfl) (wd hw 3 rfl) (by decide) (by decide)) q65a q65c (g := (mkF m 323 #[iv p0, iv p1, iv p2, iv p3, iv p4, iv p5, iv x0, iv x1, iv x2, iv x3, iv y0, iv y1, iv y2, iv y3, iv kk, rv ob15, rv ob19, rv ob24, rv ob34, rv ob19, iv 1, iv 1] [(.ref ob15), (.ref ob15)])) rfl (by rw [hml]; rfl) (Steps.refl _) (argsL := [(.ref ob15)]) (rest := []) (lenOf pd_2 rfl) rfl (by show 2 * 0 + _ ≤ _; exact Nat.le_of_eq rfl) (hb hby at_323) (fun _ _ => ⟨rfl, e63, (by decide : 5 + 0 ≤ _), (by decide : 16 + 0 ≤ _)⟩)
          dsimp only [Pt.U, Pt.locs, Pt.cells, Pt.slots] at X65 lx65 yx65 zx65 st65 hQ65
          subst lx65 yx65 zx65
          obtain ⟨rfl, N65q, e65⟩ := hQ65
          have N65 := Fr.app N63 N65q
          refine own_lift (fun t k => st65.trans k) ?_
          show own_Go p.tables e below (T65.setTop (mkF m 326 #[iv p0, iv p1, iv p2, iv p3, iv p4, iv p5, iv x0, iv x1, iv x2, iv x3, iv y0, iv y1, iv y2, iv y3, iv kk, rv ob15, rv ob19, rv ob24, rv ob34, rv ob19, iv 1, iv 1] [(.int 1)])) _
          have sg66 : ∀ t, Steps p.tables e below (T65.setTop (mkF m 338 #[iv p0, iv p1, iv p2, iv p3, iv p4, iv p5, iv x0, iv x1, iv x2, iv x3, iv y0, iv y1, iv y2, iv y3, iv kk, rv ob15, rv ob19, rv ob24, rv ob34, rv ob19, iv 1, iv 1] [(.int 1)])) t → Steps p.tables e below (T65.setTop (mkF m 326 #[iv p0, iv p1, iv p2, iv p3, iv p4, iv p5, iv x0, iv x1, iv x2, iv x3, iv y0, iv y1, iv y2, iv y3, iv kk, rv ob15, rv ob19, rv ob24, rv ob34, rv ob19, iv 1, iv 1] [(.int 1)])) t := by
            intro t k
            refine XS.ifNo X65.here hx rfl (hb hby at_326) rfl ((if0 _ _).trans (feq (by decide : ¬ ((1 : Int32) = (0 : Int32)))).1) ?_
            show Steps p.tables e below (T65.setTop (mkF m 329 #[iv p0, iv p1, iv p2, iv p3, iv p4, iv p5, iv x0, iv x1, iv x2, iv x3, iv y0, iv y1, iv y2, iv y3, iv kk, rv ob15, rv ob19, rv ob24, rv ob34, rv ob19, iv 1, iv 1] [])) _
            refine XS.iconst X65.here hx rfl (hb hby at_329) ?_
            refine XS.goto X65.here hx rfl (pc0 := 330) (pc' := 334) rfl (hb hby at_330) (by decide) (by decide) ?_
            show Steps p.tables e below (T65.setTop (mkF m 334 #[iv p0, iv p1, iv p2, iv p3, iv p4, iv p5, iv x0, iv x1, iv x2, iv x3, iv y0, iv y1, iv y2, iv y3, iv kk, rv ob15, rv ob19, rv ob24, rv ob34, rv ob19, iv 1, iv 1] [(.int 1)])) _
            refine XS.istore X65.here hx rfl (hb hby at_334) rfl (l' := #[iv p0, iv p1, iv p2, iv p3, iv p4, iv p5, iv x0, iv x1, iv x2, iv x3, iv y0, iv y1, iv y2, iv y3, iv kk, rv ob15, rv ob19, rv ob24, rv ob34, rv ob19, iv 1, iv 1]) rfl ?_
            refine XS.iload X65.here hx rfl (hb hby at_336) rfl ?_
            show Steps p.tables e below (T65.setTop (mkF m 338 #[iv p0, iv p1, iv p2, iv p3, iv p4, iv p5, iv x0, iv x1, iv x2, iv x3, iv y0, iv y1, iv y2, iv y3, iv kk, rv ob15, rv ob19, rv ob24, rv ob34, rv ob19, iv 1, iv 1] [(.int 1)])) _
            exact k
          refine own_lift sg66 ?_
          show own_Go p.tables e below (T65.setTop (mkF m 338 #[iv p0, iv p1, iv p2, iv p3, iv p4, iv p5, iv x0, iv x1, iv x2, iv x3, iv y0, iv y1, iv y2, iv y3, iv kk, rv ob15, rv ob19, rv ob24, rv ob34, rv ob19, iv 1, iv 1] [(.int 1)])) _
          obtain ⟨fs, hr, hrun, hended, hW, hsame⟩ := X65.leave (v := some (.int 1)) (fun h => by rw [Bd.returns] at h; cases h)
          refine ⟨_, _, ?_, hrun, hended, _, _, rfl, ?_, ⟨_, rfl⟩, hW, hsame.mono (by decide) (by decide)⟩
          · exact retN X65 hx (t := .boolean) Bd.returns (by simp) (hb hby at_338) hr
          · show Q0 Z  h0 n0 _ T65.heap _
            rw [e65]
            exact ⟨rfl, N65⟩
        by_cases b : (p5 &&& (8 : Int32)) = (0 : Int32)
        · have sg67 : ∀ t, Steps p.tables e below (T10.setTop (mkF m 110 #[iv p0, iv p1, iv p2, iv p3, iv p4, iv p5, iv x0, iv x1, iv x2, iv x3, iv y0, iv y1, iv y2, .unset, .unset, .unset, .unset, .unset, .unset, .unset, .unset, .unset] [(.int ((p4 <<< ((8 : Int32) &&& 31)) >>> ((8 : Int32) &&& 31)))])) t → Steps p.tables e below (T10.setTop (mkF m 89 #[iv p0, iv p1, iv p2, iv p3, iv p4, iv p5, iv x0, iv x1, iv x2, iv x3, iv y0, iv y1, iv y2, .unset, .unset, .unset, .unset, .unset, .unset, .unset, .unset, .unset] [])) t := by
            intro t k
            refine XS.iload X10.here hx rfl (hb hby at_89) rfl ?_
            show Steps p.tables e below (T10.setTop (mkF m 91 #[iv p0, iv p1, iv p2, iv p3, iv p4, iv p5, iv x0, iv x1, iv x2, iv x3, iv y0, iv y1, iv y2, .unset, .unset, .unset, .unset, .unset, .unset, .unset, .unset, .unset] [(.int p5)])) _
            refine XS.bipush X10.here hx rfl (hb hby at_91) ?_
            refine XS.iand X10.here hx rfl (hb hby at_93) rfl ?_
            show Steps p.tables e below (T10.setTop (mkF m 94 #[iv p0, iv p1, iv p2, iv p3, iv p4, iv p5, iv x0, iv x1, iv x2, iv x3, iv y0, iv y1, iv y2, .unset, .unset, .unset, .unset, .unset, .unset, .unset, .unset, .unset] [(.int (p5 &&& (8 : Int32)))])) _
            refine XS.ifYes X10.here hx rfl (pc0 := 94) (pc' := 102) rfl (hb hby at_94) rfl ((if0 _ _).trans (teq b).1) (by decide) (by decide) ?_
            refine XS.iload X10.here hx rfl (hb hby at_102) rfl ?_
            show Steps p.tables e below (T10.setTop (mkF m 104 #[iv p0, iv p1, iv p2, iv p3, iv p4, iv p5, iv x0, iv x1, iv x2, iv x3, iv y0, iv y1, iv y2, .unset, .unset, .unset, .unset, .unset, .unset, .unset, .unset, .unset] [(.int p4)])) _
            refine XS.bipush X10.here hx rfl (hb hby at_104) ?_
            refine XS.ishl X10.here hx rfl (hb hby at_106) rfl ?_
            show Steps p.tables e below (T10.setTop (mkF m 107 #[iv p0, iv p1, iv p2, iv p3, iv p4, iv p5, iv x0, iv x1, iv x2, iv x3, iv y0, iv y1, iv y2, .unset, .unset, .unset, .unset, .unset, .unset, .unset, .unset, .unset] [(.int (p4 <<< ((8 : Int32) &&& 31)))])) _
            refine XS.bipush X10.here hx rfl (hb hby at_107) ?_
            refine XS.ishr X10.here hx rfl (hb hby at_109) rfl ?_
            show Steps p.tables e below (T10.setTop (mkF m 110 #[iv p0, iv p1, iv p2, iv p3, iv p4, iv p5, iv x0, iv x1, iv x2, iv x3, iv y0, iv y1, iv y2, .unset, .unset, .unset, .unset, .unset, .unset, .unset, .unset, .unset] [(.int ((p4 <<< ((8 : Int32) &&& 31)) >>> ((8 : Int32) &&& 31)))])) _
            exact k
          refine own_lift sg67 ?_
          show own_Go p.tables e below (T10.setTop (mkF m 110 #[iv p0, iv p1, iv p2, iv p3, iv p4, iv p5, iv x0, iv x1, iv x2, iv x3, iv y0, iv y1, iv y2, .unset, .unset, .unset, .unset, .unset, .unset, .unset, .unset, .unset] [(.int ((p4 <<< ((8 : Int32) &&& 31)) >>> ((8 : Int32) &&& 31)))])) _
          rw [show y3 = ((p4 <<< ((8 : Int32) &&& 31)) >>> ((8 : Int32) &&& 31)) from (hy3.trans (if_pos b))] at join12
          exact join12 _ _ X10 e10 N10
        · have sg68 : ∀ t, Steps p.tables e below (T10.setTop (mkF m 110 #[iv p0, iv p1, iv p2, iv p3, iv p4, iv p5, iv x0, iv x1, iv x2, iv x3, iv y0, iv y1, iv y2, .unset, .unset, .unset, .unset, .unset, .unset, .unset, .unset, .unset] [(.int x3)])) t → Steps p.tables e below (T10.setTop (mkF m 89 #[iv p0, iv p1, iv p2, iv p3, iv p4, iv p5, iv x0, iv x1, iv x2, iv x3, iv y0, iv y1, iv y2, .unset, .unset, .unset, .unset, .unset, .unset, .unset, .unset, .unset] [])) t := by
            intro t k
            refine XS.iload X10.here hx rfl (hb hby at_89) rfl ?_
            show Steps p.tables e below (T10.setTop (mkF m 91 #[iv p0, iv p1, iv p2, iv p3, iv p4, iv p5, iv x0, iv x1, iv x2, iv x3, iv y0, iv y1, iv y2, .unset, .unset, .unset, .unset, .unset, .unset, .unset, .unset, .unset] [(.int p5)])) _
            refine XS.bipush X10.here hx rfl (hb hby at_91) ?_
            refine XS.iand X10.here hx rfl (hb hby at_93) rfl ?_
            show Steps p.tables e below (T10.setTop (mkF m 94 #[iv p0, iv p1, iv p2, iv p3, iv p4, iv p5, iv x0, iv x1, iv x2, iv x3, iv y0, iv y1, iv y2, .unset, .unset, .unset, .unset, .unset, .unset, .unset, .unset, .unset] [(.int (p5 &&& (8 : Int32)))])) _
            refine XS.ifNo X10.here hx rfl (hb hby at_94) rfl ((if0 _ _).trans (feq b).1) ?_
            refine XS.iload X10.here hx rfl (hb hby at_97) rfl ?_
            show Steps p.tables e below (T10.setTop (mkF m 99 #[iv p0, iv p1, iv p2, iv p3, iv p4, iv p5, iv x0, iv x1, iv x2, iv x3, iv y0, iv y1, iv y2, .unset, .unset, .unset, .unset, .unset, .unset, .unset, .unset, .unset] [(.int x3)])) _
            refine XS.goto X10.here hx rfl (pc0 := 99) (pc' := 110) rfl (hb hby at_99) (by decide) (by decide) ?_
            show Steps p.tables e below (T10.setTop (mkF m 110 #[iv p0, iv p1, iv p2, iv p3, iv p4, iv p5, iv x0, iv x1, iv x2, iv x3, iv y0, iv y1, iv y2, .unset, .unset, .unset, .unset, .unset, .unset, .unset, .unset, .unset] [(.int x3)])) _
            exact k
          refine own_lift sg68 ?_
          show own_Go p.tables e below (T10.setTop (mkF m 110 #[iv p0, iv p1, iv p2, iv p3, iv p4, iv p5, iv x0, iv x1, iv x2, iv x3, iv y0, iv y1, iv y2, .unset, .unset, .unset, .unset, .unset, .unset, .unset, .unset, .unset] [(.int x3)])) _
          rw [show y3 = x3 from (hy3.trans (if_neg b))] at join12
          exact join12 _ _ X10 e10 N10
      by_cases b : (p5 &&& (4 : Int32)) = (0 : Int32)
      · have sg69 : ∀ t, Steps p.tables e below (T8.setTop (mkF m 87 #[iv p0, iv p1, iv p2, iv p3, iv p4, iv p5, iv x0, iv x1, iv x2, iv x3, iv y0, iv y1, .unset, .unset, .unset, .unset, .unset, .unset, .unset, .unset, .unset, .unset] [(.int (((p4.toUInt32 >>> ((8 : Int32) &&& 31).toUInt32).toInt32) &&& (255 : Int32)))])) t → Steps p.tables e below (T8.setTop (mkF m 66 #[iv p0, iv p1, iv p2, iv p3, iv p4, iv p5, iv x0, iv x1, iv x2, iv x3, iv y0, iv y1, .unset, .unset, .unset, .unset, .unset, .unset, .unset, .unset, .unset, .unset] [])) t := by
          intro t k
          refine XS.iload X8.here hx rfl (hb hby at_66) rfl ?_
          show Steps p.tables e below (T8.setTop (mkF m 68 #[iv p0, iv p1, iv p2, iv p3, iv p4, iv p5, iv x0, iv x1, iv x2, iv x3, iv y0, iv y1, .unset, .unset, .unset, .unset, .unset, .unset, .unset, .unset, .unset, .unset] [(.int p5)])) _
          refine XS.iconst X8.here hx rfl (hb hby at_68) ?_
          refine XS.iand X8.here hx rfl (hb hby at_69) rfl ?_
          show Steps p.tables e below (T8.setTop (mkF m 70 #[iv p0, iv p1, iv p2, iv p3, iv p4, iv p5, iv x0, iv x1, iv x2, iv x3, iv y0, iv y1, .unset, .unset, .unset, .unset, .unset, .unset, .unset, .unset, .unset, .unset] [(.int (p5 &&& (4 : Int32)))])) _
          refine XS.ifYes X8.here hx rfl (pc0 := 70) (pc' := 78) rfl (hb hby at_70) rfl ((if0 _ _).trans (teq b).1) (by decide) (by decide) ?_
          refine XS.iload X8.here hx rfl (hb hby at_78) rfl ?_
          show Steps p.tables e below (T8.setTop (mkF m 80 #[iv p0, iv p1, iv p2, iv p3, iv p4, iv p5, iv x0, iv x1, iv x2, iv x3, iv y0, iv y1, .unset, .unset, .unset, .unset, .unset, .unset, .unset, .unset, .unset, .unset] [(.int p4)])) _
          refine XS.bipush X8.here hx rfl (hb hby at_80) ?_
          refine XS.iushr X8.here hx rfl (hb hby at_82) rfl ?_
          show Steps p.tables e below (T8.setTop (mkF m 83 #[iv p0, iv p1, iv p2, iv p3, iv p4, iv p5, iv x0, iv x1, iv x2, iv x3, iv y0, iv y1, .unset, .unset, .unset, .unset, .unset, .unset, .unset, .unset, .unset, .unset] [(.int ((p4.toUInt32 >>> ((8 : Int32) &&& 31).toUInt32).toInt32))])) _
          refine XS.sipush X8.here hx rfl (hb hby at_83) ?_
          refine XS.iand X8.here hx rfl (hb hby at_86) rfl ?_
          show Steps p.tables e below (T8.setTop (mkF m 87 #[iv p0, iv p1, iv p2, iv p3, iv p4, iv p5, iv x0, iv x1, iv x2, iv x3, iv y0, iv y1, .unset, .unset, .unset, .unset, .unset, .unset, .unset, .unset, .unset, .unset] [(.int (((p4.toUInt32 >>> ((8 : Int32) &&& 31).toUInt32).toInt32) &&& (255 : Int32)))])) _
          exact k
        refine own_lift sg69 ?_
        show own_Go p.tables e below (T8.setTop (mkF m 87 #[iv p0, iv p1, iv p2, iv p3, iv p4, iv p5, iv x0, iv x1, iv x2, iv x3, iv y0, iv y1, .unset, .unset, .unset, .unset, .unset, .unset, .unset, .unset, .unset, .unset] [(.int (((p4.toUInt32 >>> ((8 : Int32) &&& 31).toUInt32).toInt32) &&& (255 : Int32)))])) _
        rw [show y2 = (((p4.toUInt32 >>> ((8 : Int32) &&& 31).toUInt32).toInt32) &&& (255 : Int32)) from (hy2.trans (if_pos b))] at join10
        exact join10 _ _ X8 e8 N8
      · have sg70 : ∀ t, Steps p.tables e below (T8.setTop (mkF m 87 #[iv p0, iv p1, iv p2, iv p3, iv p4, iv p5, iv x0, iv x1, iv x2, iv x3, iv y0, iv y1, .unset, .unset, .unset, .unset, .unset, .unset, .unset, .unset, .unset, .unset] [(.int x2)])) t → Steps p.tables e below (T8.setTop (mkF m 66 #[iv p0, iv p1, iv p2, iv p3, iv p4, iv p5, iv x0, iv x1, iv x2, iv x3, iv y0, iv y1, .unset, .unset, .unset, .unset, .unset, .unset, .unset, .unset, .unset, .unset] [])) t := by
          intro t k
          refine XS.iload X8.here hx rfl (hb hby at_66) rfl ?_
          show Steps p.tables e below (T8.setTop (mkF m 68 #[iv p0, iv p1, iv p2, iv p3, iv p4, iv p5, iv x0, iv x1, iv x2, iv x3, iv y0, iv y1, .unset, .unset, .unset, .unset, .unset, .unset, .unset, .unset, .unset, .unset] [(.int p5)])) _
          refine XS.iconst X8.here hx rfl (hb hby at_68) ?_
          refine XS.iand X8.here hx rfl (hb hby at_69) rfl ?_
          show Steps p.tables e below (T8.setTop (mkF m 70 #[iv p0, iv p1, iv p2, iv p3, iv p4, iv p5, iv x0, iv x1, iv x2, iv x3, iv y0, iv y1, .unset, .unset, .unset, .unset, .unset, .unset, .unset, .unset, .unset, .unset] [(.int (p5 &&& (4 : Int32)))])) _
          refine XS.ifNo X8.here hx rfl (hb hby at_70) rfl ((if0 _ _).trans (feq b).1) ?_
          refine XS.iload X8.here hx rfl (hb hby at_73) rfl ?_
          show Steps p.tables e below (T8.setTop (mkF m 75 #[iv p0, iv p1, iv p2, iv p3, iv p4, iv p5, iv x0, iv x1, iv x2, iv x3, iv y0, iv y1, .unset, .unset, .unset, .unset, .unset, .unset, .unset, .unset, .unset, .unset] [(.int x2)])) _
          refine XS.goto X8.here hx rfl (pc0 := 75) (pc' := 87) rfl (hb hby at_75) (by decide) (by decide) ?_
          show Steps p.tables e below (T8.setTop (mkF m 87 #[iv p0, iv p1, iv p2, iv p3, iv p4, iv p5, iv x0, iv x1, iv x2, iv x3, iv y0, iv y1, .unset, .unset, .unset, .unset, .unset, .unset, .unset, .unset, .unset, .unset] [(.int x2)])) _
          exact k
        refine own_lift sg70 ?_
        show own_Go p.tables e below (T8.setTop (mkF m 87 #[iv p0, iv p1, iv p2, iv p3, iv p4, iv p5, iv x0, iv x1, iv x2, iv x3, iv y0, iv y1, .unset, .unset, .unset, .unset, .unset, .unset, .unset, .unset, .unset, .unset] [(.int x2)])) _
        rw [show y2 = x2 from (hy2.trans (if_neg b))] at join10
        exact join10 _ _ X8 e8 N8
    by_cases b : (p5 &&& (2 : Int32)) = (0 : Int32)
    · have sg71 : ∀ t, Steps p.tables e below (T6.setTop (mkF m 64 #[iv p0, iv p1, iv p2, iv p3, iv p4, iv p5, iv x0, iv x1, iv x2, iv x3, iv y0, .unset, .unset, .unset, .unset, .unset, .unset, .unset, .unset, .unset, .unset, .unset] [(.int ((p4.toUInt32 >>> ((16 : Int32) &&& 31).toUInt32).toInt32))])) t → Steps p.tables e below (T6.setTop (mkF m 47 #[iv p0, iv p1, iv p2, iv p3, iv p4, iv p5, iv x0, iv x1, iv x2, iv x3, iv y0, .unset, .unset, .unset, .unset, .unset, .unset, .unset, .unset, .unset, .unset, .unset] [])) t := by
        intro t k
        refine XS.iload X6.here hx rfl (hb hby at_47) rfl ?_
        show Steps p.tables e below (T6.setTop (mkF m 49 #[iv p0, iv p1, iv p2, iv p3, iv p4, iv p5, iv x0, iv x1, iv x2, iv x3, iv y0, .unset, .unset, .unset, .unset, .unset, .unset, .unset, .unset, .unset, .unset, .unset] [(.int p5)])) _
        refine XS.iconst X6.here hx rfl (hb hby at_49) ?_
        refine XS.iand X6.here hx rfl (hb hby at_50) rfl ?_
        show Steps p.tables e below (T6.setTop (mkF m 51 #[iv p0, iv p1, iv p2, iv p3, iv p4, iv p5, iv x0, iv x1, iv x2, iv x3, iv y0, .unset, .unset, .unset, .unset, .unset, .unset, .unset, .unset, .unset, .unset, .unset] [(.int (p5 &&& (2 : Int32)))])) _
        refine XS.ifYes X6.here hx rfl (pc0 := 51) (pc' := 59) rfl (hb hby at_51) rfl ((if0 _ _).trans (teq b).1) (by decide) (by decide) ?_
        refine XS.iload X6.here hx rfl (hb hby at_59) rfl ?_
        show Steps p.tables e below (T6.setTop (mkF m 61 #[iv p0, iv p1, iv p2, iv p3, iv p4, iv p5, iv x0, iv x1, iv x2, iv x3, iv y0, .unset, .unset, .unset, .unset, .unset, .unset, .unset, .unset, .unset, .unset, .unset] [(.int p4)])) _
        refine XS.bipush X6.here hx rfl (hb hby at_61) ?_
        refine XS.iushr X6.here hx rfl (hb hby at_63) rfl ?_
        show Steps p.tables e below (T6.setTop (mkF m 64 #[iv p0, iv p1, iv p2, iv p3, iv p4, iv p5, iv x0, iv x1, iv x2, iv x3, iv y0, .unset, .unset, .unset, .unset, .unset, .unset, .unset, .unset, .unset, .unset, .unset] [(.int ((p4.toUInt32 >>> ((16 : Int32) &&& 31).toUInt32).toInt32))])) _
        exact k
      refine own_lift sg71 ?_
      show own_Go p.tables e below (T6.setTop (mkF m 64 #[iv p0, iv p1, iv p2, iv p3, iv p4, iv p5, iv x0, iv x1, iv x2, iv x3, iv y0, .unset, .unset, .unset, .unset, .unset, .unset, .unset, .unset, .unset, .unset, .unset] [(.int ((p4.toUInt32 >>> ((16 : Int32) &&& 31).toUInt32).toInt32))])) _
      rw [show y1 = ((p4.toUInt32 >>> ((16 : Int32) &&& 31).toUInt32).toInt32) from (hy1.trans (if_pos b))] at join8
      exact join8 _ _ X6 e6 N6
    · have sg72 : ∀ t, Steps p.tables e below (T6.setTop (mkF m 64 #[iv p0, iv p1, iv p2, iv p3, iv p4, iv p5, iv x0, iv x1, iv x2, iv x3, iv y0, .unset, .unset, .unset, .unset, .unset, .unset, .unset, .unset, .unset, .unset, .unset] [(.int x1)])) t → Steps p.tables e below (T6.setTop (mkF m 47 #[iv p0, iv p1, iv p2, iv p3, iv p4, iv p5, iv x0, iv x1, iv x2, iv x3, iv y0, .unset, .unset, .unset, .unset, .unset, .unset, .unset, .unset, .unset, .unset, .unset] [])) t := by
        intro t k
        refine XS.iload X6.here hx rfl (hb hby at_47) rfl ?_
        show Steps p.tables e below (T6.setTop (mkF m 49 #[iv p0, iv p1, iv p2, iv p3, iv p4, iv p5, iv x0, iv x1, iv x2, iv x3, iv y0, .unset, .unset, .unset, .unset, .unset, .unset, .unset, .unset, .unset, .unset, .unset] [(.int p5)])) _
        refine XS.iconst X6.here hx rfl (hb hby at_49) ?_
        refine XS.iand X6.here hx rfl (hb hby at_50) rfl ?_
        show Steps p.tables e below (T6.setTop (mkF m 51 #[iv p0, iv p1, iv p2, iv p3, iv p4, iv p5, iv x0, iv x1, iv x2, iv x3, iv y0, .unset, .unset, .unset, .unset, .unset, .unset, .unset, .unset, .unset, .unset, .unset] [(.int (p5 &&& (2 : Int32)))])) _
        refine XS.ifNo X6.here hx rfl (hb hby at_51) rfl ((if0 _ _).trans (feq b).1) ?_
        refine XS.iload X6.here hx rfl (hb hby at_54) rfl ?_
        show Steps p.tables e below (T6.setTop (mkF m 56 #[iv p0, iv p1, iv p2, iv p3, iv p4, iv p5, iv x0, iv x1, iv x2, iv x3, iv y0, .unset, .unset, .unset, .unset, .unset, .unset, .unset, .unset, .unset, .unset, .unset] [(.int x1)])) _
        refine XS.goto X6.here hx rfl (pc0 := 56) (pc' := 64) rfl (hb hby at_56) (by decide) (by decide) ?_
        show Steps p.tables e below (T6.setTop (mkF m 64 #[iv p0, iv p1, iv p2, iv p3, iv p4, iv p5, iv x0, iv x1, iv x2, iv x3, iv y0, .unset, .unset, .unset, .unset, .unset, .unset, .unset, .unset, .unset, .unset, .unset] [(.int x1)])) _
        exact k
      refine own_lift sg72 ?_
      show own_Go p.tables e below (T6.setTop (mkF m 64 #[iv p0, iv p1, iv p2, iv p3, iv p4, iv p5, iv x0, iv x1, iv x2, iv x3, iv y0, .unset, .unset, .unset, .unset, .unset, .unset, .unset, .unset, .unset, .unset, .unset] [(.int x1)])) _
      rw [show y1 = x1 from (hy1.trans (if_neg b))] at join8
      exact join8 _ _ X6 e6 N6
  by_cases b : (p5 &&& (1 : Int32)) = (0 : Int32)
  · have sg73 : ∀ t, Steps p.tables e below (s₁.setTop (mkF m 45 #[iv p0, iv p1, iv p2, iv p3, iv p4, iv p5, iv x0, iv x1, iv x2, iv x3, .unset, .unset, .unset, .unset, .unset, .unset, .unset, .unset, .unset, .unset, .unset, .unset] [(.int (p4 &&& (65535 : Int32)))])) t → Steps p.tables e below (s₁.setTop (mkF m 28 #[iv p0, iv p1, iv p2, iv p3, iv p4, iv p5, iv x0, iv x1, iv x2, iv x3, .unset, .unset, .unset, .unset, .unset, .unset, .unset, .unset, .unset, .unset, .unset, .unset] [])) t := by
      intro t k
      refine XS.iload X0.here hx rfl (hb hby at_28) rfl ?_
      show Steps p.tables e below (s₁.setTop (mkF m 30 #[iv p0, iv p1, iv p2, iv p3, iv p4, iv p5, iv x0, iv x1, iv x2, iv x3, .unset, .unset, .unset, .unset, .unset, .unset, .unset, .unset, .unset, .unset, .unset, .unset] [(.int p5)])) _
      refine XS.iconst X0.here hx rfl (hb hby at_30) ?_
      refine XS.iand X0.here hx rfl (hb hby at_31) rfl ?_
      show Steps p.tables e below (s₁.setTop (mkF m 32 #[iv p0, iv p1, iv p2, iv p3, iv p4, iv p5, iv x0, iv x1, iv x2, iv x3, .unset, .unset, .unset, .unset, .unset, .unset, .unset, .unset, .unset, .unset, .unset, .unset] [(.int (p5 &&& (1 : Int32)))])) _
      refine XS.ifYes X0.here hx rfl (pc0 := 32) (pc' := 40) rfl (hb hby at_32) rfl ((if0 _ _).trans (teq b).1) (by decide) (by decide) ?_
      refine XS.iload X0.here hx rfl (hb hby at_40) rfl ?_
      show Steps p.tables e below (s₁.setTop (mkF m 42 #[iv p0, iv p1, iv p2, iv p3, iv p4, iv p5, iv x0, iv x1, iv x2, iv x3, .unset, .unset, .unset, .unset, .unset, .unset, .unset, .unset, .unset, .unset, .unset, .unset] [(.int p4)])) _
      refine X0.ldcInt hx hown (mvT hZ (wd hw 0 rfl)) (g := (mkF m 42 #[iv p0, iv p1, iv p2, iv p3, iv p4, iv p5, iv x0, iv x1, iv x2, iv x3, .unset, .unset, .unset, .unset, .unset, .unset, .unset, .unset, .unset, .unset, .unset, .unset] [(.int p4)])) rfl (hb hby at_42) _ ?_
      refine XS.iand X0.here hx rfl (hb hby at_44) rfl ?_
      show Steps p.tables e below (s₁.setTop (mkF m 45 #[iv p0, iv p1, iv p2, iv p3, iv p4, iv p5, iv x0, iv x1, iv x2, iv x3, .unset, .unset, .unset, .unset, .unset, .unset, .unset, .unset, .unset, .unset, .unset, .unset] [(.int (p4 &&& (65535 : Int32)))])) _
      exact k
    refine own_lift sg73 ?_
    show own_Go p.tables e below (s₁.setTop (mkF m 45 #[iv p0, iv p1, iv p2, iv p3, iv p4, iv p5, iv x0, iv x1, iv x2, iv x3, .unset, .unset, .unset, .unset, .unset, .unset, .unset, .unset, .unset, .unset, .unset, .unset] [(.int (p4 &&& (65535 : Int32)))])) _
    rw [show y0 = (p4 &&& (65535 : Int32)) from (hy0.trans (if_pos b))] at join6
    exact join6 _ _ X0 e0 N0
  · have sg74 : ∀ t, Steps p.tables e below (s₁.setTop (mkF m 45 #[iv p0, iv p1, iv p2, iv p3, iv p4, iv p5, iv x0, iv x1, iv x2, iv x3, .unset, .unset, .unset, .unset, .unset, .unset, .unset, .unset, .unset, .unset, .unset, .unset] [(.int x0)])) t → Steps p.tables e below (s₁.setTop (mkF m 28 #[iv p0, iv p1, iv p2, iv p3, iv p4, iv p5, iv x0, iv x1, iv x2, iv x3, .unset, .unset, .unset, .unset, .unset, .unset, .unset, .unset, .unset, .unset, .unset, .unset] [])) t := by
      intro t k
      refine XS.iload X0.here hx rfl (hb hby at_28) rfl ?_
      show Steps p.tables e below (s₁.setTop (mkF m 30 #[iv p0, iv p1, iv p2, iv p3, iv p4, iv p5, iv x0, iv x1, iv x2, iv x3, .unset, .unset, .unset, .unset, .unset, .unset, .unset, .unset, .unset, .unset, .unset, .unset] [(.int p5)])) _
      refine XS.iconst X0.here hx rfl (hb hby at_30) ?_
      refine XS.iand X0.here hx rfl (hb hby at_31) rfl ?_
      show Steps p.tables e below (s₁.setTop (mkF m 32 #[iv p0, iv p1, iv p2, iv p3, iv p4, iv p5, iv x0, iv x1, iv x2, iv x3, .unset, .unset, .unset, .unset, .unset, .unset, .unset, .unset, .unset, .unset, .unset, .unset] [(.int (p5 &&& (1 : Int32)))])) _
      refine XS.ifNo X0.here hx rfl (hb hby at_32) rfl ((if0 _ _).trans (feq b).1) ?_
      refine XS.iload X0.here hx rfl (hb hby at_35) rfl ?_
      show Steps p.tables e below (s₁.setTop (mkF m 37 #[iv p0, iv p1, iv p2, iv p3, iv p4, iv p5, iv x0, iv x1, iv x2, iv x3, .unset, .unset, .unset, .unset, .unset, .unset, .unset, .unset, .unset, .unset, .unset, .unset] [(.int x0)])) _
      refine XS.goto X0.here hx rfl (pc0 := 37) (pc' := 45) rfl (hb hby at_37) (by decide) (by decide) ?_
      show Steps p.tables e below (s₁.setTop (mkF m 45 #[iv p0, iv p1, iv p2, iv p3, iv p4, iv p5, iv x0, iv x1, iv x2, iv x3, .unset, .unset, .unset, .unset, .unset, .unset, .unset, .unset, .unset, .unset, .unset, .unset] [(.int x0)])) _
      exact k
    refine own_lift sg74 ?_
    show own_Go p.tables e below (s₁.setTop (mkF m 45 #[iv p0, iv p1, iv p2, iv p3, iv p4, iv p5, iv x0, iv x1, iv x2, iv x3, .unset, .unset, .unset, .unset, .unset, .unset, .unset, .unset, .unset, .unset, .unset, .unset] [(.int x0)])) _
    rw [show y0 = x0 from (hy0.trans (if_neg b))] at join6
    exact join6 _ _ X0 e0 N0
theorem ef_rm0_N (m : MethodId) (x0 : Int32) (x1 : Int32) (x2 : Int32) (x3 : Int32) (x4 : Int32) (x5 : Int32) : entryFrame m #[(.int x0), (.int x1), (.int x2), (.int x3), (.int x4), (.int x5)] maxLocals = mkF m 0 #[.val (.int x0), .val (.int x1), .val (.int x2), .val (.int x3), .val (.int x4), .val (.int x5), .unset, .unset, .unset, .unset, .unset, .unset, .unset, .unset, .unset, .unset, .unset, .unset, .unset, .unset, .unset, .unset] [] := by first | (simp [entryFrame, mkF, argsToLocals, Value.category, maxLocals]; done) | rfl
set_option maxRecDepth 65536 in
set_option maxHeartbeats 40000000 in
theorem rm0_N (l : Launch) (Z : State) (a0 : Array Value) (hw : ∀ d ∈ tables_1, d.before a0 Z = true) (ws : List Jvm.Cond) (p0 : Int32) (p1 : Int32) (p2 : Int32) (p3 : Int32) (p4 : Int32) (p5 : Int32) (cs : Int32) (x0 : Int32) (x1 : Int32) (x2 : Int32) (x3 : Int32) (y0 : Int32) (y1 : Int32) (y2 : Int32) (y3 : Int32) (kk : Int32) (h0 : Heap) (n0 : Nat) (Z0 : n0 ≤ h0.size) (S_cs : Sta Z h0 "java/lang/String" "COMPACT_STRINGS" "Z" (.int cs)) (P_cs : ¬ cs = 0) (hx0 : (p0 &&& (65535 : Int32)) = x0) (hx1 : (p1 &&& (65535 : Int32)) = x1) (hx2 : (p2 &&& (255 : Int32)) = x2) (hx3 : ((p3 <<< ((8 : Int32) &&& 31)) >>> ((8 : Int32) &&& 31)) = x3) (hy0 : y0 = if (p5 &&& (1 : Int32)) = (0 : Int32) then (p4 &&& (65535 : Int32)) else x0) (hy1 : y1 = if (p5 &&& (2 : Int32)) = (0 : Int32) then ((p4.toUInt32 >>> ((16 : Int32) &&& 31).toUInt32).toInt32) else x1) (hy2 : y2 = if (p5 &&& (4 : Int32)) = (0 : Int32) then (((p4.toUInt32 >>> ((8 : Int32) &&& 31).toUInt32).toInt32) &&& (255 : Int32)) else x2) (hy3 : y3 = if (p5 &&& (8 : Int32)) = (0 : Int32) then ((p4 <<< ((8 : Int32) &&& 31)) >>> ((8 : Int32) &&& 31)) else x3) (hk : (((p5.toUInt32 >>> ((4 : Int32) &&& 31).toUInt32).toInt32) &&& (3 : Int32)) = kk) (rx0 : ¬ (x0 < (0 : Int32)) ∧ ¬ ((65535 : Int32) < x0)) (rx1 : ¬ (x1 < (0 : Int32)) ∧ ¬ ((65535 : Int32) < x1)) (rx2 : ¬ (x2 < (0 : Int32)) ∧ ¬ ((255 : Int32) < x2)) (rx3 : ¬ (x3 < (-8388608 : Int32)) ∧ ¬ ((8388607 : Int32) < x3)) (ry0 : ¬ (y0 < (0 : Int32)) ∧ ¬ ((65535 : Int32) < y0)) (ry1 : ¬ (y1 < (0 : Int32)) ∧ ¬ ((65535 : Int32) < y1)) (ry2 : ¬ (y2 < (0 : Int32)) ∧ ¬ ((255 : Int32) < y2)) (ry3 : ¬ (y3 < (-8388608 : Int32)) ∧ ¬ ((8388607 : Int32) < y3)) (k2 : ¬ (kk < (2 : Int32))) (k3 : kk = (2 : Int32)) :
    MetFree l x (head1 (Jvm.Cond.code x code maxLocals ret :: ws) room_1) (fun a U => a = #[(.int p0), (.int p1), (.int p2), (.int p3), (.int p4), (.int p5)] ∧ Z.Warmed39 U.vm ∧ U.heap = h0) (fun _ _ _ _ _ => True) (fun _ U o U' => ∃ v L, o = .returned v ∧ Q0 Z  h0 n0 v U'.heap L ∧ FrameEnd U o U' L 24 128) := by
  refine MetFree.of_bodySF (plainFor_of_name pn_1) hisR ?_
  intro p e s m args below meth c s₁ Bd hml0 hP hK
  obtain ⟨rfl, hZ, hh⟩ := hP
  have hx := Bd.exec
  have hby := Bd.bytes
  have hml : c.maxLocals = 22 := hml0
  have hown : s.vm.findClass "com/example/halyard/halyard/core/mal/TypeIdEqualsPinLaw" = some m.cls := findClass_of_methodNamed Bd.named
  have hnm := (name_of_methodNamed Bd.named Bd.method).1
  have X0 : Stand p l e room_1 s m #[(.int p0), (.int p1), (.int p2), (.int p3), (.int p4), (.int p5)] below meth c s₁ [] 0 0 := Stand.of_body Bd
  have e0 : s₁.heap = h0 := by rw [← hh, Bd.state]; rfl
  have N0 := Fr.nil n0
  refine own_go (own_lift (fun t k => castTop (ef_rm0_N m p0 p1 p2 p3 p4 p5) k) ?_)
  show own_Go p.tables e below (s₁.setTop (mkF m 0 #[iv p0, iv p1, iv p2, iv p3, iv p4, iv p5, .unset, .unset, .unset, .unset, .unset, .unset, .unset, .unset, .unset, .unset, .unset, .unset, .unset, .unset, .unset, .unset] [])) _
  have sg1 : ∀ t, Steps p.tables e below (s₁.setTop (mkF m 4 #[iv p0, iv p1, iv p2, iv p3, iv p4, iv p5, .unset, .unset, .unset, .unset, .unset, .unset, .unset, .unset, .unset, .unset, .unset, .unset, .unset, .unset, .unset, .unset] [(.int (p0 &&& (65535 : Int32)))])) t → Steps p.tables e below (s₁.setTop (mkF m 0 #[iv p0, iv p1, iv p2, iv p3, iv p4, iv p5, .unset, .unset, .unset, .unset, .unset, .unset, .unset, .unset, .unset, .unset, .unset, .unset, .unset, .unset, .unset, .unset] [])) t := by
    intro t k
    refine XS.iloadN X0.here hx rfl (hb hby at_0) rfl ?_
    show Steps p.tables e below (s₁.setTop (mkF m 1 #[iv p0, iv p1, iv p2, iv p3, iv p4, iv p5, .unset, .unset, .unset, .unset, .unset, .unset, .unset, .unset, .unset, .unset, .unset, .unset, .unset, .unset, .unset, .unset] [(.int p0)])) _
    refine X0.ldcInt hx hown (mvT hZ (wd hw 0 rfl)) (g := (mkF m 1 #[iv p0, iv p1, iv p2, iv p3, iv p4, iv p5, .unset, .unset, .unset, .unset, .unset, .unset, .unset, .unset, .unset, .unset, .unset, .unset, .unset, .unset, .unset, .unset] [(.int p0)])) rfl (hb hby at_1) _ ?_
    refine XS.iand X0.here hx rfl (hb hby at_3) rfl ?_
    show Steps p.tables e below (s₁.setTop (mkF m 4 #[iv p0, iv p1, iv p2, iv p3, iv p4, iv p5, .unset, .unset, .unset, .unset, .unset, .unset, .unset, .unset, .unset, .unset, .unset, .unset, .unset, .unset, .unset, .unset] [(.int (p0 &&& (65535 : Int32)))])) _
    exact k
  refine own_lift sg1 ?_
  show own_Go p.tables e below (s₁.setTop (mkF m 4 #[iv p0, iv p1, iv p2, iv p3, iv p4, iv p5, .unset, .unset, .unset, .unset, .unset, .unset, .unset, .unset, .unset, .unset, .unset, .unset, .unset, .unset, .unset, .unset] [(.int (p0 &&& (65535 : Int32)))])) _
  rw [hx0]
  show own_Go p.tables e below (s₁.setTop (mkF m 4 #[iv p0, iv p1, iv p2, iv p3, iv p4, iv p5, .unset, .unset, .unset, .unset, .unset, .unset, .unset, .unset, .unset, .unset, .unset, .unset, .unset, .unset, .unset, .unset] [(.int x0)])) _
  have sg2 : ∀ t, Steps p.tables e below (s₁.setTop (mkF m 10 #[iv p0, iv p1, iv p2, iv p3, iv p4, iv p5, iv x0, .unset, .unset, .unset, .unset, .unset, .unset, .unset, .unset, .unset, .unset, .unset, .unset, .unset, .unset, .unset] [(.int (p1 &&& (65535 : Int32)))])) t → Steps p.tables e below (s₁.setTop (mkF m 4 #[iv p0, iv p1, iv p2, iv p3, iv p4, iv p5, .unset, .unset, .unset, .unset, .unset, .unset, .unset, .unset, .unset, .unset, .unset, .unset, .unset, .unset, .unset, .unset] [(.int x0)])) t := by
    intro t k
    refine XS.istore X0.here hx rfl (hb hby at_4) rfl (l' := #[iv p0, iv p1, iv p2, iv p3, iv p4, iv p5, iv x0, .unset, .unset, .unset, .unset, .unset, .unset, .unset, .unset, .unset, .unset, .unset, .unset, .unset, .unset, .unset]) rfl ?_
    show Steps p.tables e below (s₁.setTop (mkF m 6 #[iv p0, iv p1, iv p2, iv p3, iv p4, iv p5, iv x0, .unset, .unset, .unset, .unset, .unset, .unset, .unset, .unset, .unset, .unset, .unset, .unset, .unset, .unset, .unset] [])) _
    refine XS.iloadN X0.here hx rfl (hb hby at_6) rfl ?_
    refine X0.ldcInt hx hown (mvT hZ (wd hw 0 rfl)) (g := (mkF m 7 #[iv p0, iv p1, iv p2, iv p3, iv p4, iv p5, iv x0, .unset, .unset, .unset, .unset, .unset, .unset, .unset, .unset, .unset, .unset, .unset, .unset, .unset, .unset, .unset] [(.int p1)])) rfl (hb hby at_7) _ ?_
    show Steps p.tables e below (s₁.setTop (mkF m 9 #[iv p0, iv p1, iv p2, iv p3, iv p4, iv p5, iv x0, .unset, .unset, .unset, .unset, .unset, .unset, .unset, .unset, .unset, .unset, .unset, .unset, .unset, .unset, .unset] [(.int 65535), (.int p1)])) _
    refine XS.iand X0.here hx rfl (hb hby at_9) rfl ?_
    show Steps p.tables e below (s₁.setTop (mkF m 10 #[iv p0, iv p1, iv p2, iv p3, iv p4, iv p5, iv x0, .unset, .unset, .unset, .unset, .unset, .unset, .unset, .unset, .unset, .unset, .unset, .unset, .unset, .unset, .unset] [(.int (p1 &&& (65535 : Int32)))])) _
    exact k
  refine own_lift sg2 ?_
  show own_Go p.tables e below (s₁.setTop (mkF m 10 #[iv p0, iv p1, iv p2, iv p3, iv p4, iv p5, iv x0, .unset, .unset, .unset, .unset, .unset, .unset, .unset, .unset, .unset, .unset, .unset, .unset, .unset, .unset, .unset] [(.int (p1 &&& (65535 : Int32)))])) _
  rw [hx1]
  show own_Go p.tables e below (s₁.setTop (mkF m 10 #[iv p0, iv p1, iv p2, iv p3, iv p4, iv p5, iv x0, .unset, .unset, .unset, .unset, .unset, .unset, .unset, .unset, .unset, .unset, .unset, .unset, .unset, .unset, .unset] [(.int x1)])) _
  have sg3 : ∀ t, Steps p.tables e below (s₁.setTop (mkF m 17 #[iv p0, iv p1, iv p2, iv p3, iv p4, iv p5, iv x0, iv x1, .unset, .unset, .unset, .unset, .unset, .unset, .unset, .unset, .unset, .unset, .unset, .unset, .unset, .unset] [(.int (p2 &&& (255 : Int32)))])) t → Steps p.tables e below (s₁.setTop (mkF m 10 #[iv p0, iv p1, iv p2, iv p3, iv p4, iv p5, iv x0, .unset, .unset, .unset, .unset, .unset, .unset, .unset, .unset, .unset, .unset, .unset, .unset, .unset, .unset, .unset] [(.int x1)])) t := by
    intro t k
    refine XS.istore X0.here hx rfl (hb hby at_10) rfl (l' := #[iv p0, iv p1, iv p2, iv p3, iv p4, iv p5, iv x0, iv x1, .unset, .unset, .unset, .unset, .unset, .unset, .unset, .unset, .unset, .unset, .unset, .unset, .unset, .unset]) rfl ?_
    show Steps p.tables e below (s₁.setTop (mkF m 12 #[iv p0, iv p1, iv p2, iv p3, iv p4, iv p5, iv x0, iv x1, .unset, .unset, .unset, .unset, .unset, .unset, .unset, .unset, .unset, .unset, .unset, .unset, .unset, .unset] [])) _
    refine XS.iloadN X0.here hx rfl (hb hby at_12) rfl ?_
    refine XS.sipush X0.here hx rfl (hb hby at_13) ?_
    show Steps p.tables e below (s₁.setTop (mkF m 16 #[iv p0, iv p1, iv p2, iv p3, iv p4, iv p5, iv x0, iv x1, .unset, .unset, .unset, .unset, .unset, .unset, .unset, .unset, .unset, .unset, .unset, .unset, .unset, .unset] [(.int 255), (.int p2)])) _
    refine XS.iand X0.here hx rfl (hb hby at_16) rfl ?_
    show Steps p.tables e below (s₁.setTop (mkF m 17 #[iv p0, iv p1, iv p2, iv p3, iv p4, iv p5, iv x0, iv x1, .unset, .unset, .unset, .unset, .unset, .unset, .unset, .unset, .unset, .unset, .unset, .unset, .unset, .unset] [(.int (p2 &&& (255 : Int32)))])) _
    exact k
  refine own_lift sg3 ?_
  show own_Go p.tables e below (s₁.setTop (mkF m 17 #[iv p0, iv p1, iv p2, iv p3, iv p4, iv p5, iv x0, iv x1, .unset, .unset, .unset, .unset, .unset, .unset, .unset, .unset, .unset, .unset, .unset, .unset, .unset, .unset] [(.int (p2 &&& (255 : Int32)))])) _
  rw [hx2]
  show own_Go p.tables e below (s₁.setTop (mkF m 17 #[iv p0, iv p1, iv p2, iv p3, iv p4, iv p5, iv x0, iv x1, .unset, .unset, .unset, .unset, .unset, .unset, .unset, .unset, .unset, .unset, .unset, .unset, .unset, .unset] [(.int x2)])) _
  have sg4 : ∀ t, Steps p.tables e below (s₁.setTop (mkF m 26 #[iv p0, iv p1, iv p2, iv p3, iv p4, iv p5, iv x0, iv x1, iv x2, .unset, .unset, .unset, .unset, .unset, .unset, .unset, .unset, .unset, .unset, .unset, .unset, .unset] [(.int ((p3 <<< ((8 : Int32) &&& 31)) >>> ((8 : Int32) &&& 31)))])) t → Steps p.tables e below (s₁.setTop (mkF m 17 #[iv p0, iv p1, iv p2, iv p3, iv p4, iv p5, iv x0, iv x1, .unset, .unset, .unset, .unset, .unset, .unset, .unset, .unset, .unset, .unset, .unset, .unset, .unset, .unset] [(.int x2)])) t := by
    intro t k
    refine XS.istore X0.here hx rfl (hb hby at_17) rfl (l' := #[iv p0, iv p1, iv p2, iv p3, iv p4, iv p5, iv x0, iv x1, iv x2, .unset, .unset, .unset, .unset, .unset, .unset, .unset, .unset, .unset, .unset, .unset, .unset, .unset]) rfl ?_
    show Steps p.tables e below (s₁.setTop (mkF m 19 #[iv p0, iv p1, iv p2, iv p3, iv p4, iv p5, iv x0, iv x1, iv x2, .unset, .unset, .unset, .unset, .unset, .unset, .unset, .unset, .unset, .unset, .unset, .unset, .unset] [])) _
    refine XS.iloadN X0.here hx rfl (hb hby at_19) rfl ?_
    refine XS.bipush X0.here hx rfl (hb hby at_20) ?_
    show Steps p.tables e below (s₁.setTop (mkF m 22 #[iv p0, iv p1, iv p2, iv p3, iv p4, iv p5, iv x0, iv x1, iv x2, .unset, .unset, .unset, .unset, .unset, .unset, .unset, .unset, .unset, .unset, .unset, .unset, .unset] [(.int 8), (.int p3)])) _
    refine XS.ishl X0.here hx rfl (hb hby at_22) rfl ?_
    refine XS.bipush X0.here hx rfl (hb hby at_23) ?_
    show Steps p.tables e below (s₁.setTop (mkF m 25 #[iv p0, iv p1, iv p2, iv p3, iv p4, iv p5, iv x0, iv x1, iv x2, .unset, .unset, .unset, .unset, .unset, .unset, .unset, .unset, .unset, .unset, .unset, .unset, .unset] [(.int 8), (.int (p3 <<< ((8 : Int32) &&& 31)))])) _
    refine XS.ishr X0.here hx rfl (hb hby at_25) rfl ?_
    show Steps p.tables e below (s₁.setTop (mkF m 26 #[iv p0, iv p1, iv p2, iv p3, iv p4, iv p5, iv x0, iv x1, iv x2, .unset, .unset, .unset, .unset, .unset, .unset, .unset, .unset, .unset, .unset, .unset, .unset, .unset] [(.int ((p3 <<< ((8 : Int32) &&& 31)) >>> ((8 : Int32) &&& 31)))])) _
    exact k
  refine own_lift sg4 ?_
  show own_Go p.tables e below (s₁.setTop (mkF m 26 #[iv p0, iv p1, iv p2, iv p3, iv p4, iv p5, iv x0, iv x1, iv x2, .unset, .unset, .unset, .unset, .unset, .unset, .unset, .unset, .unset, .unset, .unset, .unset, .unset] [(.int ((p3 <<< ((8 : Int32) &&& 31)) >>> ((8 : Int32) &&& 31)))])) _
  rw [hx3]
  show own_Go p.tables e below (s₁.setTop (mkF m 26 #[iv p0, iv p1, iv p2, iv p3, iv p4, iv p5, iv x0, iv x1, iv x2, .unset, .unset, .unset, .unset, .unset, .unset, .unset, .unset, .unset, .unset, .unset, .unset, .unset] [(.int x3)])) _
  have sg5 : ∀ t, Steps p.tables e below (s₁.setTop (mkF m 28 #[iv p0, iv p1, iv p2, iv p3, iv p4, iv p5, iv x0, iv x1, iv x2, iv x3, .unset, .unset, .unset, .unset, .unset, .unset, .unset, .unset, .unset, .unset, .unset, .unset] [])) t → Steps p.tables e below (s₁.setTop (mkF m 26 #[iv p0, iv p1, iv p2, iv p3, iv p4, iv p5, iv x0, iv x1, iv x2, .unset, .unset, .unset, .unset, .unset, .unset, .unset, .unset, .unset, .unset, .unset, .unset, .unset] [(.int x3)])) t := by
    intro t k
    refine XS.istore X0.here hx rfl (hb hby at_26) rfl (l' := #[iv p0, iv p1, iv p2, iv p3, iv p4, iv p5, iv x0, iv x1, iv x2, iv x3, .unset, .unset, .unset, .unset, .unset, .unset, .unset, .unset, .unset, .unset, .unset, .unset]) rfl ?_
    show Steps p.tables e below (s₁.setTop (mkF m 28 #[iv p0, iv p1, iv p2, iv p3, iv p4, iv p5, iv x0, iv x1, iv x2, iv x3, .unset, .unset, .unset, .unset, .unset, .unset, .unset, .unset, .unset, .unset, .unset, .unset] [])) _
    exact k
  refine own_lift sg5 ?_
  show own_Go p.tables e below (s₁.setTop (mkF m 28 #[iv p0, iv p1, iv p2, iv p3, iv p4, iv p5, iv x0, iv x1, iv x2, iv x3, .unset, .unset, .unset, .unset, .unset, .unset, .unset, .unset, .unset, .unset, .unset, .unset] [])) _
  have join6 : ∀ (T6 : State) (locs6 : List Loc), Stand p l e room_1 s m #[(.int p0), (.int p1), (.int p2), (.int p3), (.int p4), (.int p5)] below meth c T6 locs6 0 0 → T6.heap = h0 → Fr n0 locs6 → own_Go p.tables e below (T6.setTop (mkF m 45 #[iv p0, iv p1, iv p2, iv p3, iv p4, iv p5, iv x0, iv x1, iv x2, iv x3, .unset, .unset, .unset, .unset, .unset, .unset, .unset, .unset, .unset, .unset, .unset, .unset] [(.int y0)])) (fun s₂ o => s₂.status = .running ∧ Ended s₂ below o ∧ ∃ v L, o = .returned v ∧ Q0 Z  h0 n0 v s₂.heap L ∧ FrameEnd s o s₂ L 24 128) := by
    intro T6 locs6 X6 e6 N6
    have sg7 : ∀ t, Steps p.tables e below (T6.setTop (mkF m 47 #[iv p0, iv p1, iv p2, iv p3, iv p4, iv p5, iv x0, iv x1, iv x2, iv x3, iv y0, .unset, .unset, .unset, .unset, .unset, .unset, .unset, .unset, .unset, .unset, .unset] [])) t → Steps p.tables e below (T6.setTop (mkF m 45 #[iv p0, iv p1, iv p2, iv p3, iv p4, iv p5, iv x0, iv x1, iv x2, iv x3, .unset, .unset, .unset, .unset, .unset, .unset, .unset, .unset, .unset, .unset, .unset, .unset] [(.int y0)])) t := by
      intro t k
      refine XS.istore X6.here hx rfl (hb hby at_45) rfl (l' := #[iv p0, iv p1, iv p2, iv p3, iv p4, iv p5, iv x0, iv x1, iv x2, iv x3, iv y0, .unset, .unset, .unset, .unset, .unset, .unset, .unset, .unset, .unset, .unset, .unset]) rfl ?_
      show Steps p.tables e below (T6.setTop (mkF m 47 #[iv p0, iv p1, iv p2, iv p3, iv p4, iv p5, iv x0, iv x1, iv x2, iv x3, iv y0, .unset, .unset, .unset, .unset, .unset, .unset, .unset, .unset, .unset, .unset, .unset] [])) _
      exact k
    refine own_lift sg7 ?_
    show own_Go p.tables e below (T6.setTop (mkF m 47 #[iv p0, iv p1, iv p2, iv p3, iv p4, iv p5, iv x0, iv x1, iv x2, iv x3, iv y0, .unset, .unset, .unset, .unset, .unset, .unset, .unset, .unset, .unset, .unset, .unset] [])) _
    have join8 : ∀ (T8 : State) (locs8 : List Loc), Stand p l e room_1 s m #[(.int p0), (.int p1), (.int p2), (.int p3), (.int p4), (.int p5)] below meth c T8 locs8 0 0 → T8.heap = h0 → Fr n0 locs8 → own_Go p.tables e below (T8.setTop (mkF m 64 #[iv p0, iv p1, iv p2, iv p3, iv p4, iv p5, iv x0, iv x1, iv x2, iv x3, iv y0, .unset, .unset, .unset, .unset, .unset, .unset, .unset, .unset, .unset, .unset, .unset] [(.int y1)])) (fun s₂ o => s₂.status = .running ∧ Ended s₂ below o ∧ ∃ v L, o = .returned v ∧ Q0 Z  h0 n0 v s₂.heap L ∧ FrameEnd s o s₂ L 24 128) := by
      intro T8 locs8 X8 e8 N8
      have sg9 : ∀ t, Steps p.tables e below (T8.setTop (mkF m 66 #[iv p0, iv p1, iv p2, iv p3, iv p4, iv p5, iv x0, iv x1, iv x2, iv x3, iv y0, iv y1, .unset, .unset, .unset, .unset, .unset, .unset, .unset, .unset, .unset, .unset] [])) t → Steps p.tables e below (T8.setTop (mkF m 64 #[iv p0, iv p1, iv p2, iv p3, iv p4, iv p5, iv x0, iv x1, iv x2, iv x3, iv y0, .unset, .unset, .unset, .unset, .unset, .unset, .unset, .unset, .unset, .unset, .unset] [(.int y1)])) t := by
        intro t k
        refine XS.istore X8.here hx rfl (hb hby at_64) rfl (l' := #[iv p0, iv p1, iv p2, iv p3, iv p4, iv p5, iv x0, iv x1, iv x2, iv x3, iv y0, iv y1, .unset, .unset, .unset, .unset, .unset, .unset, .unset, .unset, .unset, .unset]) rfl ?_
        show Steps p.tables e below (T8.setTop (mkF m 66 #[iv p0, iv p1, iv p2, iv p3, iv p4, iv p5, iv x0, iv x1, iv x2, iv x3, iv y0, iv y1, .unset, .unset, .unset, .unset, .unset, .unset, .unset, .unset, .unset, .unset] [])) _
        exact k
      refine own_lift sg9 ?_
      show own_Go p.tables e below (T8.setTop (mkF m 66 #[iv p0, iv p1, iv p2, iv p3, iv p4, iv p5, iv x0, iv x1, iv x2, iv x3, iv y0, iv y1, .unset, .unset, .unset, .unset, .unset, .unset, .unset, .unset, .unset, .unset] [])) _
      have join10 : ∀ (T10 : State) (locs10 : List Loc), Stand p l e room_1 s m #[(.int p0), (.int p1), (.int p2), (.int p3), (.int p4), (.int p5)] below meth c T10 locs10 0 0 → T10.heap = h0 → Fr n0 locs10 → own_Go p.tables e below (T10.setTop (mkF m 87 #[iv p0, iv p1, iv p2, iv p3, iv p4, iv p5, iv x0, iv x1, iv x2, iv x3, iv y0, iv y1, .unset, .unset, .unset, .unset, .unset, .unset, .unset, .unset, .unset, .unset] [(.int y2)])) (fun s₂ o => s₂.status = .running ∧ Ended s₂ below o ∧ ∃ v L, o = .returned v ∧ Q0 Z  h0 n0 v s₂.heap L ∧ FrameEnd s o s₂ L 24 128) := by
        intro T10 locs10 X10 e10 N10
        have sg11 : ∀ t, Steps p.tables e below (T10.setTop (mkF m 89 #[iv p0, iv p1, iv p2, iv p3, iv p4, iv p5, iv x0, iv x1, iv x2, iv x3, iv y0, iv y1, iv y2, .unset, .unset, .unset, .unset, .unset, .unset, .unset, .unset, .unset] [])) t → Steps p.tables e below (T10.setTop (mkF m 87 #[iv p0, iv p1, iv p2, iv p3, iv p4, iv p5, iv x0, iv x1, iv x2, iv x3, iv y0, iv y1, .unset, .unset, .unset, .unset, .unset, .unset, .unset, .unset, .unset, .unset] [(.int y2)])) t := by
          intro t k
          refine XS.istore X10.here hx rfl (hb hby at_87) rfl (l' := #[iv p0, iv p1, iv p2, iv p3, iv p4, iv p5, iv x0, iv x1, iv x2, iv x3, iv y0, iv y1, iv y2, .unset, .unset, .unset, .unset, .unset, .unset, .unset, .unset, .unset]) rfl ?_
          show Steps p.tables e below (T10.setTop (mkF m 89 #[iv p0, iv p1, iv p2, iv p3, iv p4, iv p5, iv x0, iv x1, iv x2, iv x3, iv y0, iv y1, iv y2, .unset, .unset, .unset, .unset, .unset, .unset, .unset, .unset, .unset] [])) _
          exact k
        refine own_lift sg11 ?_
        show own_Go p.tables e below (T10.setTop (mkF m 89 #[iv p0, iv p1, iv p2, iv p3, iv p4, iv p5, iv x0, iv x1, iv x2, iv x3, iv y0, iv y1, iv y2, .unset, .unset, .unset, .unset, .unset, .unset, .unset, .unset, .unset] [])) _
        have join12 : ∀ (T12 : State) (locs12 : List Loc), Stand p l e room_1 s m #[(.int p0), (.int p1), (.int p2), (.int p3), (.int p4), (.int p5)] below meth c T12 locs12 0 0 → T12.heap = h0 → Fr n0 locs12 → own_Go p.tables e below (T12.setTop (mkF m 110 #[iv p0, iv p1, iv p2, iv p3, iv p4, iv p5, iv x0, iv x1, iv x2, iv x3, iv y0, iv y1, iv y2, .unset, .unset, .unset, .unset, .unset, .unset, .unset, .unset, .unset] [(.int y3)])) (fun s₂ o => s₂.status = .running ∧ Ended s₂ below o ∧ ∃ v L, o = .returned v ∧ Q0 Z  h0 n0 v s₂.heap L ∧ FrameEnd s o s₂ L 24 128) := by
          intro T12 locs12 X12 e12 N12
          have sg13 : ∀ t, Steps p.tables e below (T12.setTop (mkF m 118 #[iv p0, iv p1, iv p2, iv p3, iv p4, iv p5, iv x0, iv x1, iv x2, iv x3, iv y0, iv y1, iv y2, iv y3, .unset, .unset, .unset, .unset, .unset, .unset, .unset, .unset] [(.int (((p5.toUInt32 >>> ((4 : Int32) &&& 31).toUInt32).toInt32) &&& (3 : Int32)))])) t → Steps p.tables e below (T12.setTop (mkF m 110 #[iv p0, iv p1, iv p2, iv p3, iv p4, iv p5, iv x0, iv x1, iv x2, iv x3, iv y0, iv y1, iv y2, .unset, .unset, .unset, .unset, .unset, .unset, .unset, .unset, .unset] [(.int y3)])) t := by
            intro t k
            refine XS.istore X12.here hx rfl (hb hby at_110) rfl (l' := #[iv p0, iv p1, iv p2, iv p3, iv p4, iv p5, iv x0, iv x1, iv x2, iv x3, iv y0, iv y1, iv y2, iv y3, .unset, .unset, .unset, .unset, .unset, .unset, .unset, .unset]) rfl ?_
            show Steps p.tables e below (T12.setTop (mkF m 112 #[iv p0, iv p1, iv p2, iv p3, iv p4, iv p5, iv x0, iv x1, iv x2, iv x3, iv y0, iv y1, iv y2, iv y3, .unset, .unset, .unset, .unset, .unset, .unset, .unset, .unset] [])) _
            refine XS.iload X12.here hx rfl (hb hby at_112) rfl ?_
            refine XS.iconst X12.here hx rfl (hb hby at_114) ?_
            show Steps p.tables e below (T12.setTop (mkF m 115 #[iv p0, iv p1, iv p2, iv p3, iv p4, iv p5, iv x0, iv x1, iv x2, iv x3, iv y0, iv y1, iv y2, iv y3, .unset, .unset, .unset, .unset, .unset, .unset, .unset, .unset] [(.int 4), (.int p5)])) _
            refine XS.iushr X12.here hx rfl (hb hby at_115) rfl ?_
            refine XS.iconst X12.here hx rfl (hb hby at_116) ?_
            show Steps p.tables e below (T12.setTop (mkF m 117 #[iv p0, iv p1, iv p2, iv p3, iv p4, iv p5, iv x0, iv x1, iv x2, iv x3, iv y0, iv y1, iv y2, iv y3, .unset, .unset, .unset, .unset, .unset, .unset, .unset, .unset] [(.int 3), (.int ((p5.toUInt32 >>> ((4 : Int32) &&& 31).toUInt32).toInt32))])) _
            refine XS.iand X12.here hx rfl (hb hby at_117) rfl ?_
            show Steps p.tables e below (T12.setTop (mkF m 118 #[iv p0, iv p1, iv p2, iv p3, iv p4, iv p5, iv x0, iv x1, iv x2, iv x3, iv y0, iv y1, iv y2, iv y3, .unset, .unset, .unset, .unset, .unset, .unset, .unset, .unset] [(.int (((p5.toUInt32 >>> ((4 : Int32) &&& 31).toUInt32).toInt32) &&& (3 : Int32)))])) _
            exact k
          refine own_lift sg13 ?_
          show own_Go p.tables e below (T12.setTop (mkF m 118 #[iv p0, iv p1, iv p2, iv p3, iv p4, iv p5, iv x0, iv x1, iv x2, iv x3, iv y0, iv y1, iv y2, iv y3, .unset, .unset, .unset, .unset, .unset, .unset, .unset, .unset] [(.int (((p5.toUInt32 >>> ((4 : Int32) &&& 31).toUInt32).toInt32) &&& (3 : Int32)))])) _
          rw [hk]
          show own_Go p.tables e below (T12.setTop (mkF m 118 #[iv p0, iv p1, iv p2, iv p3, iv p4, iv p5, iv x0, iv x1, iv x2, iv x3, iv y0, iv y1, iv y2, iv y3, .unset, .unset, .unset, .unset, .unset, .unset, .unset, .unset] [(.int kk)])) _
          have sg14 : ∀ t, Steps p.tables e below (T12.setTop (mkF m 120 #[iv p0, iv p1, iv p2, iv p3, iv p4, iv p5, iv x0, iv x1, iv x2, iv x3, iv y0, iv y1, iv y2, iv y3, iv kk, .unset, .unset, .unset, .unset, .unset, .unset, .unset] [])) t → Steps p.tables e below (T12.setTop (mkF m 118 #[iv p0, iv p1, iv p2, iv p3, iv p4, iv p5, iv x0, iv x1, iv x2, iv x3, iv y0, iv y1, iv y2, iv y3, .unset, .unset, .unset, .unset, .unset, .unset, .unset, .unset] [(.int kk)])) t := by
            intro t k
            refine XS.istore X12.here hx rfl (hb hby at_118) rfl (l' := #[iv p0, iv p1, iv p2, iv p3, iv p4, iv p5, iv x0, iv x1, iv x2, iv x3, iv y0, iv y1, iv y2, iv y3, iv kk, .unset, .unset, .unset, .unset, .unset, .unset, .unset]) rfl ?_
            show Steps p.tables e below (T12.setTop (mkF m 120 #[iv p0, iv p1, iv p2, iv p3, iv p4, iv p5, iv x0, iv x1, iv x2, iv x3, iv y0, iv y1, iv y2, iv y3, iv kk, .unset, .unset, .unset, .unset, .unset, .unset, .unset] [])) _
            exact k
          refine own_lift sg14 ?_
          show own_Go p.tables e below (T12.setTop (mkF m 120 #[iv p0, iv p1, iv p2, iv p3, iv p4, iv p5, iv x0, iv x1, iv x2, iv x3, iv y0, iv y1, iv y2, iv y3, iv kk, .unset, .unset, .unset, .unset, .unset, .unset, .unset] [])) _
          obtain ⟨T15, h15, X15, e15, Ex15, Ax15, Dx15, Ux15, st15⟩ := newO X12 hx hZ hown (wd hw 1 rfl) (wd hw 2 rfl) (wd hw 3 rfl) e12 (g := (mkF m 120 #[iv p0, iv p1, iv p2, iv p3, iv p4, iv p5, iv x0, iv x1, iv x2, iv x3, iv y0, iv y1, iv y2, iv y3, iv kk, .unset, .unset, .unset, .unset, .unset, .unset, .unset] [])) rfl (hb hby at_120) (by decide) (by decide)
          obtain ⟨ob15, g15⟩ : ∃ z, z = h0.size := ⟨_, rfl⟩
          rw [← g15] at Ax15 Dx15 Ux15 st15
          have Z15 : n0 ≤ h15.size := Nat.le_trans Z0 Ex15.1
          have ge15 : n0 ≤ ob15 := Nat.le_trans Z0 (Nat.le_of_eq g15.symm)
          have Fn15_14 : Fld Z h15 ob15 "com/example/halyard/halyard/core/mal/TypeId" "area" "I" (.int 0) := Dx15 (Or.inr (wd hw 14 rfl)) (ty := .int) (by decide)
          have Fn15_16 : Fld Z h15 ob15 "com/example/halyard/halyard/core/mal/TypeId" "service" "I" (.int 0) := Dx15 (Or.inr (wd hw 16 rfl)) (ty := .int) (by decide)
          have Fn15_18 : Fld Z h15 ob15 "com/example/halyard/halyard/core/mal/TypeId" "areaVersion" "I" (.int 0) := Dx15 (Or.inr (wd hw 18 rfl)) (ty := .int) (by decide)
          have Fn15_20 : Fld Z h15 ob15 "com/example/halyard/halyard/core/mal/TypeId" "shortFormPart" "I" (.int 0) := Dx15 (Or.inr (wd hw 20 rfl)) (ty := .int) (by decide)
          refine own_lift st15 ?_
          show own_Go p.tables e below (T15.setTop (mkF m 123 #[iv p0, iv p1, iv p2, iv p3, iv p4, iv p5, iv x0, iv x1, iv x2, iv x3, iv y0, iv y1, iv y2, iv y3, iv kk, .unset, .unset, .unset, .unset, .unset, .unset, .unset] [(.ref ob15)])) _
          have sg16 : ∀ t, Steps p.tables e below (T15.setTop (mkF m 132 #[iv p0, iv p1, iv p2, iv p3, iv p4, iv p5, iv x0, iv x1, iv x2, iv x3, iv y0, iv y1, iv y2, iv y3, iv kk, .unset, .unset, .unset, .unset, .unset, .unset, .unset] [(.int x3), (.int x2), (.int x1), (.int x0), (.ref ob15), (.ref ob15)])) t → Steps p.tables e below (T15.setTop (mkF m 123 #[iv p0, iv p1, iv p2, iv p3, iv p4, iv p5, iv x0, iv x1, iv x2, iv x3, iv y0, iv y1, iv y2, iv y3, iv kk, .unset, .unset, .unset, .unset, .unset, .unset, .unset] [(.ref ob15)])) t := by
            intro t k
            refine XS.dup X15.here hx rfl (hb hby at_123) rfl rfl ?_
            show Steps p.tables e below (T15.setTop (mkF m 124 #[iv p0, iv p1, iv p2, iv p3, iv p4, iv p5, iv x0, iv x1, iv x2, iv x3, iv y0, iv y1, iv y2, iv y3, iv kk, .unset, .unset, .unset, .unset, .unset, .unset, .unset] [(.ref ob15), (.ref ob15)])) _
            refine XS.iload X15.here hx rfl (hb hby at_124) rfl ?_
            refine XS.iload X15.here hx rfl (hb hby at_126) rfl ?_
            show Steps p.tables e below (T15.setTop (mkF m 128 #[iv p0, iv p1, iv p2, iv p3, iv p4, iv p5, iv x0, iv x1, iv x2, iv x3, iv y0, iv y1, iv y2, iv y3, iv kk, .unset, .unset, .unset, .unset, .unset, .unset, .unset] [(.int x1), (.int x0), (.ref ob15), (.ref ob15)])) _
            refine XS.iload X15.here hx rfl (hb hby at_128) rfl ?_
            refine XS.iload X15.here hx rfl (hb hby at_130) rfl ?_
            show Steps p.tables e below (T15.setTop (mkF m 132 #[iv p0, iv p1, iv p2, iv p3, iv p4, iv p5, iv x0, iv x1, iv x2, iv x3, iv y0, iv y1, iv y2, iv y3, iv kk, .unset, .unset, .unset, .unset, .unset, .unset, .unset] [(.int x3), (.int x2), (.int x1), (.int x0), (.ref ob15), (.ref ob15)])) _
            exact k
          refine own_lift sg16 ?_
          show own_Go p.tables e below (T15.setTop (mkF m 132 #[iv p0, iv p1, iv p2, iv p3, iv p4, iv p5, iv x0, iv x1, iv x2, iv x3, iv y0, iv y1, iv y2, iv y3, iv kk, .unset, .unset, .unset, .unset, .unset, .unset, .unset] [(.int x3), (.int x2), (.int x1), (.int x0), (.ref ob15), (.ref ob15)])) _
          obtain ⟨_, _, ⟨T17, Lx17, kx17, nx17⟩, -, X17, ⟨Lc17, hQ17, lx17, yx17, zx17⟩, st17⟩ := X15.specialBack hx (y := (⟨"com/example/halyard/halyard/core/mal/TypeId", "<init>", "(IIII)V"⟩ : MethodName)) rfl hown (mvT hZ (wd hw 4 rfl)) (mvT hZ (wd hw 5 rfl)) (mvT hZ (wd hw 6 rfl)) (by decide) (backOf (W := 1) (rmInit l Z a0 hw [] ob15 x0 x1 x2 x3 h15 n0 Z15 Fn15_14 Fn15_16 Fn15_18 Fn15_20 Ax15 ge15 rx0.1 rx0.2 rx1.1 rx1.2 rx2.1 rx2.2 rx3.1 rx3.2) hZ (wd hw 6 rfl) (wd hw 3 rfl) (by decide) (by decide)) (g := (mkF m 132 #[iv p0, iv p1, iv p2, iv p3, iv p4, iv p5, iv x0, iv x1, iv x2, iv x3, iv y0, iv y1, iv y2, iv y3, iv kk, .unset, .unset, .unset, .unset, .unset, .unset, .unset] [(.int x3), (.int x2), (.int x1), (.int x0), (.ref ob15), (.ref ob15)])) rfl (by rw [hml]; rfl) (Steps.refl _) (a := ob15) (argsL := [(.int x0), (.int x1), (.int x2), (.int x3)]) (rest := [(.ref ob15)]) (lenOf pd_0 rfl) rfl (by show 2 * 0 + _ ≤ _; exact Nat.le_of_eq rfl) (hb hby at_132) (fun _ _ => ⟨rfl, e15, (by decide : 1 + 0 ≤ _), (by decide : 4 + 0 ≤ _)⟩)
          dsimp only [Pt.U, Pt.locs, Pt.cells, Pt.slots] at X17 lx17 yx17 zx17 st17 hQ17
          subst lx17 yx17 zx17
          obtain ⟨rfl, N17q, p17_0, p17_1, p17_2, p17_3, p17_4, p17_5⟩ := hQ17
          have N17 := Fr.app N12 N17q
          have Z17 : n0 ≤ T17.heap.size := Nat.le_trans Z15 p17_0.1
          refine own_lift (fun t k => st17.trans k) ?_
          show own_Go p.tables e below (T17.setTop (mkF m 135 #[iv p0, iv p1, iv p2, iv p3, iv p4, iv p5, iv x0, iv x1, iv x2, iv x3, iv y0, iv y1, iv y2, iv y3, iv kk, .unset, .unset, .unset, .unset, .unset, .unset, .unset] [(.ref ob15)])) _
          have sg18 : ∀ t, Steps p.tables e below (T17.setTop (mkF m 137 #[iv p0, iv p1, iv p2, iv p3, iv p4, iv p5, iv x0, iv x1, iv x2, iv x3, iv y0, iv y1, iv y2, iv y3, iv kk, rv ob15, .unset, .unset, .unset, .unset, .unset, .unset] [])) t → Steps p.tables e below (T17.setTop (mkF m 135 #[iv p0, iv p1, iv p2, iv p3, iv p4, iv p5, iv x0, iv x1, iv x2, iv x3, iv y0, iv y1, iv y2, iv y3, iv kk, .unset, .unset, .unset, .unset, .unset, .unset, .unset] [(.ref ob15)])) t := by
            intro t k
            refine XS.astore X17.here hx rfl (hb hby at_135) rfl rfl (l' := #[iv p0, iv p1, iv p2, iv p3, iv p4, iv p5, iv x0, iv x1, iv x2, iv x3, iv y0, iv y1, iv y2, iv y3, iv kk, rv ob15, .unset, .unset, .unset, .unset, .unset, .unset]) rfl ?_
            show Steps p.tables e below (T17.setTop (mkF m 137 #[iv p0, iv p1, iv p2, iv p3, iv p4, iv p5, iv x0, iv x1, iv x2, iv x3, iv y0, iv y1, iv y2, iv y3, iv kk, rv ob15, .unset, .unset, .unset, .unset, .unset, .unset] [])) _
            exact k
          refine own_lift sg18 ?_
          show own_Go p.tables e below (T17.setTop (mkF m 137 #[iv p0, iv p1, iv p2, iv p3, iv p4, iv p5, iv x0, iv x1, iv x2, iv x3, iv y0, iv y1, iv y2, iv y3, iv kk, rv ob15, .unset, .unset, .unset, .unset, .unset, .unset] [])) _
          obtain ⟨T19, h19, X19, e19, Ex19, Ax19, Dx19, Ux19, st19⟩ := newO X17 hx hZ hown (wd hw 1 rfl) (wd hw 2 rfl) (wd hw 3 rfl) rfl (g := (mkF m 137 #[iv p0, iv p1, iv p2, iv p3, iv p4, iv p5, iv x0, iv x1, iv x2, iv x3, iv y0, iv y1, iv y2, iv y3, iv kk, rv ob15, .unset, .unset, .unset, .unset, .unset, .unset] [])) rfl (hb hby at_137) (by decide) (by decide)
          obtain ⟨ob19, g19⟩ : ∃ z, z = T17.heap.size := ⟨_, rfl⟩
          rw [← g19] at Ax19 Dx19 Ux19 st19
          have ne20 : ob15 ≠ ob19 := Nat.ne_of_lt (Nat.lt_of_lt_of_le p17_1.lt (Nat.le_of_eq g19.symm))
          have Z19 : n0 ≤ h19.size := Nat.le_trans Z17 Ex19.1
          have ge19 : n0 ≤ ob19 := Nat.le_trans Z17 (Nat.le_of_eq g19.symm)
          have Fn19_14 : Fld Z h19 ob19 "com/example/halyard/halyard/core/mal/TypeId" "area" "I" (.int 0) := Dx19 (Or.inr (wd hw 14 rfl)) (ty := .int) (by decide)
          have Fn19_16 : Fld Z h19 ob19 "com/example/halyard/halyard/core/mal/TypeId" "service" "I" (.int 0) := Dx19 (Or.inr (wd hw 16 rfl)) (ty := .int) (by decide)
          have Fn19_18 : Fld Z h19 ob19 "com/example/halyard/halyard/core/mal/TypeId" "areaVersion" "I" (.int 0) := Dx19 (Or.inr (wd hw 18 rfl)) (ty := .int) (by decide)
          have Fn19_20 : Fld Z h19 ob19 "com/example/halyard/halyard/core/mal/TypeId" "shortFormPart" "I" (.int 0) := Dx19 (Or.inr (wd hw 20 rfl)) (ty := .int) (by decide)
          refine own_lift st19 ?_
          show own_Go p.tables e below (T19.setTop (mkF m 140 #[iv p0, iv p1, iv p2, iv p3, iv p4, iv p5, iv x0, iv x1, iv x2, iv x3, iv y0, iv y1, iv y2, iv y3, iv kk, rv ob15, .unset, .unset, .unset, .unset, .unset, .unset] [(.ref ob19)])) _
          have sg21 : ∀ t, Steps p.tables e below (T19.setTop (mkF m 149 #[iv p0, iv p1, iv p2, iv p3, iv p4, iv p5, iv x0, iv x1, iv x2, iv x3, iv y0, iv y1, iv y2, iv y3, iv kk, rv ob15, .unset, .unset, .unset, .unset, .unset, .unset] [(.int y3), (.int y2), (.int y1), (.int y0), (.ref ob19), (.ref ob19)])) t → Steps p.tables e below (T19.setTop (mkF m 140 #[iv p0, iv p1, iv p2, iv p3, iv p4, iv p5, iv x0, iv x1, iv x2, iv x3, iv y0, iv y1, iv y2, iv y3, iv kk, rv ob15, .unset, .unset, .unset, .unset, .unset, .unset] [(.ref ob19)])) t := by
            intro t k
            refine XS.dup X19.here hx rfl (hb hby at_140) rfl rfl ?_
            show Steps p.tables e below (T19.setTop (mkF m 141 #[iv p0, iv p1, iv p2, iv p3, iv p4, iv p5, iv x0, iv x1, iv x2, iv x3, iv y0, iv y1, iv y2, iv y3, iv kk, rv ob15, .unset, .unset, .unset, .unset, .unset, .unset] [(.ref ob19), (.ref ob19)])) _
            refine XS.iload X19.here hx rfl (hb hby at_141) rfl ?_
            refine XS.iload X19.here hx rfl (hb hby at_143) rfl ?_
            show Steps p.tables e below (T19.setTop (mkF m 145 #[iv p0, iv p1, iv p2, iv p3, iv p4, iv p5, iv x0, iv x1, iv x2, iv x3, iv y0, iv y1, iv y2, iv y3, iv kk, rv ob15, .unset, .unset, .unset, .unset, .unset, .unset] [(.int y1), (.int y0), (.ref ob19), (.ref ob19)])) _
            refine XS.iload X19.here hx rfl (hb hby at_145) rfl ?_
            refine XS.iload X19.here hx rfl (hb hby at_147) rfl ?_
            show Steps p.tables e below (T19.setTop (mkF m 149 #[iv p0, iv p1, iv p2, iv p3, iv p4, iv p5, iv x0, iv x1, iv x2, iv x3, iv y0, iv y1, iv y2, iv y3, iv kk, rv ob15, .unset, .unset, .unset, .unset, .unset, .unset] [(.int y3), (.int y2), (.int y1), (.int y0), (.ref ob19), (.ref ob19)])) _
            exact k
          refine own_lift sg21 ?_
          show own_Go p.tables e below (T19.setTop (mkF m 149 #[iv p0, iv p1, iv p2, iv p3, iv p4, iv p5, iv x0, iv x1, iv x2, iv x3, iv y0, iv y1, iv y2, iv y3, iv kk, rv ob15, .unset, .unset, .unset, .unset, .unset, .unset] [(.int y3), (.int y2), (.int y1), (.int y0), (.ref ob19), (.ref ob19)])) _
          obtain ⟨_, _, ⟨T22, Lx22, kx22, nx22⟩, -, X22, ⟨Lc22, hQ22, lx22, yx22, zx22⟩, st22⟩ := X19.specialBack hx (y := (⟨"com/example/halyard/halyard/core/mal/TypeId", "<init>", "(IIII)V"⟩ : MethodName)) rfl hown (mvT hZ (wd hw 4 rfl)) (mvT hZ (wd hw 5 rfl)) (mvT hZ (wd hw 6 rfl)) (by decide) (backOf (W := 1) (rmInit l Z a0 hw [] ob19 y0 y1 y2 y3 h19 n0 Z19 Fn19_14 Fn19_16 Fn19_18 Fn19_20 Ax19 ge19 ry0.1 ry0.2 ry1.1 ry1.2 ry2.1 ry2.2 ry3.1 ry3.2) hZ (wd hw 6 rfl) (wd hw 3 rfl) (by decide) (by decide)) (g := (mkF m 149 #[iv p0, iv p1, iv p2, iv p3, iv p4, iv p5, iv x0, iv x1, iv x2, iv x3, iv y0, iv y1, iv y2, iv y3, iv kk, rv ob15, .unset, .unset, .unset, .unset, .unset, .unset] [(.int y3), (.int y2), (.int y1), (.int y0), (.ref ob19), (.ref ob19)])) rfl (by rw [hml]; rfl) (Steps.refl _) (a := ob19) (argsL := [(.int y0), (.int y1), (.int y2), (.int y3)]) (rest := [(.ref ob19)]) (lenOf pd_0 rfl) rfl (by show 2 * 0 + _ ≤ _; exact Nat.le_of_eq rfl) (hb hby at_149) (fun _ _ => ⟨rfl, e19, (by decide : 2 + 0 ≤ _), (by decide : 8 + 0 ≤ _)⟩)
          dsimp only [Pt.U, Pt.locs, Pt.cells, Pt.slots] at X22 lx22 yx22 zx22 st22 hQ22
          subst lx22 yx22 zx22
          obtain ⟨rfl, N22q, p22_0, p22_1, p22_2, p22_3, p22_4, p22_5⟩ := hQ22
          have N22 := Fr.app N17 N22q
          have Z22 : n0 ≤ T22.heap.size := Nat.le_trans Z19 p22_0.1
          refine own_lift (fun t k => st22.trans k) ?_
          show own_Go p.tables e below (T22.setTop (mkF m 152 #[iv p0, iv p1, iv p2, iv p3, iv p4, iv p5, iv x0, iv x1, iv x2, iv x3, iv y0, iv y1, iv y2, iv y3, iv kk, rv ob15, .unset, .unset, .unset, .unset, .unset, .unset] [(.ref ob19)])) _
          have sg23 : ∀ t, Steps p.tables e below (T22.setTop (mkF m 155 #[iv p0, iv p1, iv p2, iv p3, iv p4, iv p5, iv x0, iv x1, iv x2, iv x3, iv y0, iv y1, iv y2, iv y3, iv kk, rv ob15, rv ob19, .unset, .unset, .unset, .unset, .unset] [(.int 2)])) t → Steps p.tables e below (T22.setTop (mkF m 152 #[iv p0, iv p1, iv p2, iv p3, iv p4, iv p5, iv x0, iv x1, iv x2, iv x3, iv y0, iv y1, iv y2, iv y3, iv kk, rv ob15, .unset, .unset, .unset, .unset, .unset, .unset] [(.ref ob19)])) t := by
            intro t k
            refine XS.astore X22.here hx rfl (hb hby at_152) rfl rfl (l' := #[iv p0, iv p1, iv p2, iv p3, iv p4, iv p5, iv x0, iv x1, iv x2, iv x3, iv y0, iv y1, iv y2, iv y3, iv kk, rv ob15, rv ob19, .unset, .unset, .unset, .unset, .unset]) rfl ?_
            show Steps p.tables e below (T22.setTop (mkF m 154 #[iv p0, iv p1, iv p2, iv p3, iv p4, iv p5, iv x0, iv x1, iv x2, iv x3, iv y0, iv y1, iv y2, iv y3, iv kk, rv ob15, rv ob19, .unset, .unset, .unset, .unset, .unset] [])) _
            refine XS.iconst X22.here hx rfl (hb hby at_154) ?_
            show Steps p.tables e below (T22.setTop (mkF m 155 #[iv p0, iv p1, iv p2, iv p3, iv p4, iv p5, iv x0, iv x1, iv x2, iv x3, iv y0, iv y1, iv y2, iv y3, iv kk, rv ob15, rv ob19, .unset, .unset, .unset, .unset, .unset] [(.int 2)])) _
            exact k
          refine own_lift sg23 ?_
          show own_Go p.tables e below (T22.setTop (mkF m 155 #[iv p0, iv p1, iv p2, iv p3, iv p4, iv p5, iv x0, iv x1, iv x2, iv x3, iv y0, iv y1, iv y2, iv y3, iv kk, rv ob15, rv ob19, .unset, .unset, .unset, .unset, .unset] [(.int 2)])) _
          obtain ⟨T24, h24, ka24, X24, e24, Ex24, Ax24, st24⟩ := newP X22 hx hZ (wd hw 21 rfl) rfl (g := (mkF m 155 #[iv p0, iv p1, iv p2, iv p3, iv p4, iv p5, iv x0, iv x1, iv x2, iv x3, iv y0, iv y1, iv y2, iv y3, iv kk, rv ob15, rv ob19, .unset, .unset, .unset, .unset, .unset] [(.int 2)])) rfl (hb hby at_155) rfl (by decide) (cap := 2) (by decide) (by decide) (by decide) (by decide)
          obtain ⟨ob24, g24⟩ : ∃ z, z = T22.heap.size := ⟨_, rfl⟩
          rw [← g24] at Ax24 st24
          have Fc25 : Exa Z T22.heap ob15 "com/example/halyard/halyard/core/mal/TypeId" := ((p17_1.ext Ex19).keep p22_0)
          have ne26 : ob15 ≠ ob24 := Nat.ne_of_lt (Nat.lt_of_lt_of_le Fc25.lt (Nat.le_of_eq g24.symm))
          have ne27 : ob19 ≠ ob24 := Nat.ne_of_lt (Nat.lt_of_lt_of_le p22_1.lt (Nat.le_of_eq g24.symm))
          have Z24 : n0 ≤ h24.size := Nat.le_trans Z22 Ex24.1
          have ge24 : n0 ≤ ob24 := Nat.le_trans Z22 (Nat.le_of_eq g24.symm)
          have Vn24 : Arv Z h24 ob24 ka24 .char (2 : Int32) [(.int 0), (.int 0)] (.int 0) := (Arv.new Ax24 (by decide)).pad (pad_rep [] (.int 0) 2)
          refine own_lift st24 ?_
          show own_Go p.tables e below (T24.setTop (mkF m 157 #[iv p0, iv p1, iv p2, iv p3, iv p4, iv p5, iv x0, iv x1, iv x2, iv x3, iv y0, iv y1, iv y2, iv y3, iv kk, rv ob15, rv ob19, .unset, .unset, .unset, .unset, .unset] [(.ref ob24)])) _
          have sg28 : ∀ t, Steps p.tables e below (T24.setTop (mkF m 169 #[iv p0, iv p1, iv p2, iv p3, iv p4, iv p5, iv x0, iv x1, iv x2, iv x3, iv y0, iv y1, iv y2, iv y3, iv kk, rv ob15, rv ob19, rv ob24, .unset, .unset, .unset, .unset] [(.int ((p4 &&& (255 : Int32)).toUInt32.toUInt16.toUInt32.toInt32)), (.int 0), (.ref ob24)])) t → Steps p.tables e below (T24.setTop (mkF m 157 #[iv p0, iv p1, iv p2, iv p3, iv p4, iv p5, iv x0, iv x1, iv x2, iv x3, iv y0, iv y1, iv y2, iv y3, iv kk, rv ob15, rv ob19, .unset, .unset, .unset, .unset, .unset] [(.ref ob24)])) t := by
            intro t k
            refine XS.astore X24.here hx rfl (hb hby at_157) rfl rfl (l' := #[iv p0, iv p1, iv p2, iv p3, iv p4, iv p5, iv x0, iv x1, iv x2, iv x3, iv y0, iv y1, iv y2, iv y3, iv kk, rv ob15, rv ob19, rv ob24, .unset, .unset, .unset, .unset]) rfl ?_
            show Steps p.tables e below (T24.setTop (mkF m 159 #[iv p0, iv p1, iv p2, iv p3, iv p4, iv p5, iv x0, iv x1, iv x2, iv x3, iv y0, iv y1, iv y2, iv y3, iv kk, rv ob15, rv ob19, rv ob24, .unset, .unset, .unset, .unset] [])) _
            refine XS.aload X24.here hx rfl (hb hby at_159) rfl rfl ?_
            refine XS.iconst X24.here hx rfl (hb hby at_161) ?_
            show Steps p.tables e below (T24.setTop (mkF m 162 #[iv p0, iv p1, iv p2, iv p3, iv p4, iv p5, iv x0, iv x1, iv x2, iv x3, iv y0, iv y1, iv y2, iv y3, iv kk, rv ob15, rv ob19, rv ob24, .unset, .unset, .unset, .unset] [(.int 0), (.ref ob24)])) _
            refine XS.iload X24.here hx rfl (hb hby at_162) rfl ?_
            refine XS.sipush X24.here hx rfl (hb hby at_164) ?_
            show Steps p.tables e below (T24.setTop (mkF m 167 #[iv p0, iv p1, iv p2, iv p3, iv p4, iv p5, iv x0, iv x1, iv x2, iv x3, iv y0, iv y1, iv y2, iv y3, iv kk, rv ob15, rv ob19, rv ob24, .unset, .unset, .unset, .unset] [(.int 255), (.int p4), (.int 0), (.ref ob24)])) _
            refine XS.iand X24.here hx rfl (hb hby at_167) rfl ?_
            refine XS.i2c X24.here hx rfl (hb hby at_168) rfl ?_
            show Steps p.tables e below (T24.setTop (mkF m 169 #[iv p0, iv p1, iv p2, iv p3, iv p4, iv p5, iv x0, iv x1, iv x2, iv x3, iv y0, iv y1, iv y2, iv y3, iv kk, rv ob15, rv ob19, rv ob24, .unset, .unset, .unset, .unset] [(.int ((p4 &&& (255 : Int32)).toUInt32.toUInt16.toUInt32.toInt32)), (.int 0), (.ref ob24)])) _
            exact k
          refine own_lift sg28 ?_
          show own_Go p.tables e below (T24.setTop (mkF m 169 #[iv p0, iv p1, iv p2, iv p3, iv p4, iv p5, iv x0, iv x1, iv x2, iv x3, iv y0, iv y1, iv y2, iv y3, iv kk, rv ob15, rv ob19, rv ob24, .unset, .unset, .unset, .unset] [(.int ((p4 &&& (255 : Int32)).toUInt32.toUInt16.toUInt32.toInt32)), (.int 0), (.ref ob24)])) _
          obtain ⟨cl29, Ar29, qx29, Sx29, N29', H29', G29'⟩ := id (Vn24)
          have hin29 : ¬ ((0 : Int32) < 0 ∨ cl29.slots.size ≤ ((0 : Int32)).toNatClampNeg) := inb_of Sx29 ⟨(by decide : ¬ ((0 : Int32) < (0 : Int32))), (by decide : (0 : Int32) < (2 : Int32))⟩
          obtain ⟨T30, h30, X30, e30, W30, st30⟩ := stC X24 hx hZ e24 Ar29 (j := (0 : Int32)) hin29 (g := (mkF m 169 #[iv p0, iv p1, iv p2, iv p3, iv p4, iv p5, iv x0, iv x1, iv x2, iv x3, iv y0, iv y1, iv y2, iv y3, iv kk, rv ob15, rv ob19, rv ob24, .unset, .unset, .unset, .unset] [(.int ((p4 &&& (255 : Int32)).toUInt32.toUInt16.toUInt32.toInt32)), (.int 0), (.ref ob24)])) rfl rfl (hb hby at_169)
          have N30 := Fr.snoc X30 N22 ge24
          have Z30 : n0 ≤ h30.size := Nat.le_trans Z24 (Nat.le_of_eq W30.size.symm)
          have Vn30 : Arv Z h30 ob24 ka24 .char (2 : Int32) [(.int (nar .char ((p4 &&& (255 : Int32)).toUInt32.toUInt16.toUInt32.toInt32))), (.int 0)] (.int 0) := Arv.set Ar29 qx29 Sx29 N29' H29' G29' (fits_nar_char _) W30 0 rfl (Nat.le_of_ble_eq_true rfl)
          refine own_lift st30 ?_
          show own_Go p.tables e below (T30.setTop (mkF m 170 #[iv p0, iv p1, iv p2, iv p3, iv p4, iv p5, iv x0, iv x1, iv x2, iv x3, iv y0, iv y1, iv y2, iv y3, iv kk, rv ob15, rv ob19, rv ob24, .unset, .unset, .unset, .unset] [])) _
          have sg31 : ∀ t, Steps p.tables e below (T30.setTop (mkF m 183 #[iv p0, iv p1, iv p2, iv p3, iv p4, iv p5, iv x0, iv x1, iv x2, iv x3, iv y0, iv y1, iv y2, iv y3, iv kk, rv ob15, rv ob19, rv ob24, .unset, .unset, .unset, .unset] [(.int ((((p4.toUInt32 >>> ((8 : Int32) &&& 31).toUInt32).toInt32) &&& (255 : Int32)).toUInt32.toUInt16.toUInt32.toInt32)), (.int 1), (.ref ob24)])) t → Steps p.tables e below (T30.setTop (mkF m 170 #[iv p0, iv p1, iv p2, iv p3, iv p4, iv p5, iv x0, iv x1, iv x2, iv x3, iv y0, iv y1, iv y2, iv y3, iv kk, rv ob15, rv ob19, rv ob24, .unset, .unset, .unset, .unset] [])) t := by
            intro t k
            refine XS.aload X30.here hx rfl (hb hby at_170) rfl rfl ?_
            show Steps p.tables e below (T30.setTop (mkF m 172 #[iv p0, iv p1, iv p2, iv p3, iv p4, iv p5, iv x0, iv x1, iv x2, iv x3, iv y0, iv y1, iv y2, iv y3, iv kk, rv ob15, rv ob19, rv ob24, .unset, .unset, .unset, .unset] [(.ref ob24)])) _
            refine XS.iconst X30.here hx rfl (hb hby at_172) ?_
            refine XS.iload X30.here hx rfl (hb hby at_173) rfl ?_
            show Steps p.tables e below (T30.setTop (mkF m 175 #[iv p0, iv p1, iv p2, iv p3, iv p4, iv p5, iv x0, iv x1, iv x2, iv x3, iv y0, iv y1, iv y2, iv y3, iv kk, rv ob15, rv ob19, rv ob24, .unset, .unset, .unset, .unset] [(.int p4), (.int 1), (.ref ob24)])) _
            refine XS.bipush X30.here hx rfl (hb hby at_175) ?_
            refine XS.iushr X30.here hx rfl (hb hby at_177) rfl ?_
            show Steps p.tables e below (T30.setTop (mkF m 178 #[iv p0, iv p1, iv p2, iv p3, iv p4, iv p5, iv x0, iv x1, iv x2, iv x3, iv y0, iv y1, iv y2, iv y3, iv kk, rv ob15, rv ob19, rv ob24, .unset, .unset, .unset, .unset] [(.int ((p4.toUInt32 >>> ((8 : Int32) &&& 31).toUInt32).toInt32)), (.int 1), (.ref ob24)])) _
            refine XS.sipush X30.here hx rfl (hb hby at_178) ?_
            refine XS.iand X30.here hx rfl (hb hby at_181) rfl ?_
            show Steps p.tables e below (T30.setTop (mkF m 182 #[iv p0, iv p1, iv p2, iv p3, iv p4, iv p5, iv x0, iv x1, iv x2, iv x3, iv y0, iv y1, iv y2, iv y3, iv kk, rv ob15, rv ob19, rv ob24, .unset, .unset, .unset, .unset] [(.int (((p4.toUInt32 >>> ((8 : Int32) &&& 31).toUInt32).toInt32) &&& (255 : Int32))), (.int 1), (.ref ob24)])) _
            refine XS.i2c X30.here hx rfl (hb hby at_182) rfl ?_
            show Steps p.tables e below (T30.setTop (mkF m 183 #[iv p0, iv p1, iv p2, iv p3, iv p4, iv p5, iv x0, iv x1, iv x2, iv x3, iv y0, iv y1, iv y2, iv y3, iv kk, rv ob15, rv ob19, rv ob24, .unset, .unset, .unset, .unset] [(.int ((((p4.toUInt32 >>> ((8 : Int32) &&& 31).toUInt32).toInt32) &&& (255 : Int32)).toUInt32.toUInt16.toUInt32.toInt32)), (.int 1), (.ref ob24)])) _
            exact k
          refine own_lift sg31 ?_
          show own_Go p.tables e below (T30.setTop (mkF m 183 #[iv p0, iv p1, iv p2, iv p3, iv p4, iv p5, iv x0, iv x1, iv x2, iv x3, iv y0, iv y1, iv y2, iv y3, iv kk, rv ob15, rv ob19, rv ob24, .unset, .unset, .unset, .unset] [(.int ((((p4.toUInt32 >>> ((8 : Int32) &&& 31).toUInt32).toInt32) &&& (255 : Int32)).toUInt32.toUInt16.toUInt32.toInt32)), (.int 1), (.ref ob24)])) _
          obtain ⟨cl32, Ar32, qx32, Sx32, N32', H32', G32'⟩ := id (Vn30)
          have hin32 : ¬ ((1 : Int32) < 0 ∨ cl32.slots.size ≤ ((1 : Int32)).toNatClampNeg) := inb_of Sx32 ⟨(by decide : ¬ ((1 : Int32) < (0 : Int32))), (by decide : (1 : Int32) < (2 : Int32))⟩
          obtain ⟨T33, h33, X33, e33, W33, st33⟩ := stC X30 hx hZ e30 Ar32 (j := (1 : Int32)) hin32 (g := (mkF m 183 #[iv p0, iv p1, iv p2, iv p3, iv p4, iv p5, iv x0, iv x1, iv x2, iv x3, iv y0, iv y1, iv y2, iv y3, iv kk, rv ob15, rv ob19, rv ob24, .unset, .unset, .unset, .unset] [(.int ((((p4.toUInt32 >>> ((8 : Int32) &&& 31).toUInt32).toInt32) &&& (255 : Int32)).toUInt32.toUInt16.toUInt32.toInt32)), (.int 1), (.ref ob24)])) rfl rfl (hb hby at_183)
          have N33 := Fr.snoc X33 N30 ge24
          have Z33 : n0 ≤ h33.size := Nat.le_trans Z30 (Nat.le_of_eq W33.size.symm)
          have Vn33 : Arv Z h33 ob24 ka24 .char (2 : Int32) [(.int (nar .char ((p4 &&& (255 : Int32)).toUInt32.toUInt16.toUInt32.toInt32))), (.int (nar .char ((((p4.toUInt32 >>> ((8 : Int32) &&& 31).toUInt32).toInt32) &&& (255 : Int32)).toUInt32.toUInt16.toUInt32.toInt32)))] (.int 0) := Arv.set Ar32 qx32 Sx32 N32' H32' G32' (fits_nar_char _) W33 1 rfl (Nat.le_of_ble_eq_true rfl)
          refine own_lift st33 ?_
          show own_Go p.tables e below (T33.setTop (mkF m 184 #[iv p0, iv p1, iv p2, iv p3, iv p4, iv p5, iv x0, iv x1, iv x2, iv x3, iv y0, iv y1, iv y2, iv y3, iv kk, rv ob15, rv ob19, rv ob24, .unset, .unset, .unset, .unset] [])) _
          obtain ⟨T34, h34, X34, e34, Ex34, Ax34, Dx34, Ux34, st34⟩ := newO X33 hx hZ hown (wd hw 22 rfl) (wd hw 23 rfl) (wd hw 24 rfl) e33 (g := (mkF m 184 #[iv p0, iv p1, iv p2, iv p3, iv p4, iv p5, iv x0, iv x1, iv x2, iv x3, iv y0, iv y1, iv y2, iv y3, iv kk, rv ob15, rv ob19, rv ob24, .unset, .unset, .unset, .unset] [])) rfl (hb hby at_184) (by decide) (by decide)
          obtain ⟨ob34, g34⟩ : ∃ z, z = h33.size := ⟨_, rfl⟩
          rw [← g34] at Ax34 Dx34 Ux34 st34
          have Fc35 : Exa Z h33 ob15 "com/example/halyard/halyard/core/mal/TypeId" := (((Fc25.ext Ex24).wr W30).wr W33)
          have ne36 : ob15 ≠ ob34 := Nat.ne_of_lt (Nat.lt_of_lt_of_le Fc35.lt (Nat.le_of_eq g34.symm))
          have Fc37 : Exa Z h33 ob19 "com/example/halyard/halyard/core/mal/TypeId" := (((p22_1.ext Ex24).wr W30).wr W33)
          have ne38 : ob19 ≠ ob34 := Nat.ne_of_lt (Nat.lt_of_lt_of_le Fc37.lt (Nat.le_of_eq g34.symm))
          have ne39 : ob24 ≠ ob34 := Nat.ne_of_lt (Nat.lt_of_lt_of_le Vn33.lt (Nat.le_of_eq g34.symm))
          have Z34 : n0 ≤ h34.size := Nat.le_trans Z33 Ex34.1
          have ge34 : n0 ≤ ob34 := Nat.le_trans Z33 (Nat.le_of_eq g34.symm)
          have Fn34_46 : Fld Z h34 ob34 "java/lang/String" "coder" "B" (.int 0) := Dx34 (Or.inr (wd hw 46 rfl)) (ty := .byte) (by decide)
          have Fn34_48 : Fld Z h34 ob34 "java/lang/String" "value" "[B" .null := Dx34 (Or.inr (wd hw 48 rfl)) (ty := (.array .byte)) (by decide)
          refine own_lift st34 ?_
          show own_Go p.tables e below (T34.setTop (mkF m 187 #[iv p0, iv p1, iv p2, iv p3, iv p4, iv p5, iv x0, iv x1, iv x2, iv x3, iv y0, iv y1, iv y2, iv y3, iv kk, rv ob15, rv ob19, rv ob24, .unset, .unset, .unset, .unset] [(.ref ob34)])) _
          have sg40 : ∀ t, Steps p.tables e below (T34.setTop (mkF m 190 #[iv p0, iv p1, iv p2, iv p3, iv p4, iv p5, iv x0, iv x1, iv x2, iv x3, iv y0, iv y1, iv y2, iv y3, iv kk, rv ob15, rv ob19, rv ob24, .unset, .unset, .unset, .unset] [(.ref ob24), (.ref ob34), (.ref ob34)])) t → Steps p.tables e below (T34.setTop (mkF m 187 #[iv p0, iv p1, iv p2, iv p3, iv p4, iv p5, iv x0, iv x1, iv x2, iv x3, iv y0, iv y1, iv y2, iv y3, iv kk, rv ob15, rv ob19, rv ob24, .unset, .unset, .unset, .unset] [(.ref ob34)])) t := by
            intro t k
            refine XS.dup X34.here hx rfl (hb hby at_187) rfl rfl ?_
            show Steps p.tables e below (T34.setTop (mkF m 188 #[iv p0, iv p1, iv p2, iv p3, iv p4, iv p5, iv x0, iv x1, iv x2, iv x3, iv y0, iv y1, iv y2, iv y3, iv kk, rv ob15, rv ob19, rv ob24, .unset, .unset, .unset, .unset] [(.ref ob34), (.ref ob34)])) _
            refine XS.aload X34.here hx rfl (hb hby at_188) rfl rfl ?_
            show Steps p.tables e below (T34.setTop (mkF m 190 #[iv p0, iv p1, iv p2, iv p3, iv p4, iv p5, iv x0, iv x1, iv x2, iv x3, iv y0, iv y1, iv y2, iv y3, iv kk, rv ob15, rv ob19, rv ob24, .unset, .unset, .unset, .unset] [(.ref ob24), (.ref ob34), (.ref ob34)])) _
            exact k
          refine own_lift sg40 ?_
          show own_Go p.tables e below (T34.setTop (mkF m 190 #[iv p0, iv p1, iv p2, iv p3, iv p4, iv p5, iv x0, iv x1, iv x2, iv x3, iv y0, iv y1, iv y2, iv y3, iv kk, rv ob15, rv ob19, rv ob24, .unset, .unset, .unset, .unset] [(.ref ob24), (.ref ob34), (.ref ob34)])) _
          have Fc41 : Arv Z h34 ob24 ka24 .char (2 : Int32) [(.int (nar .char ((p4 &&& (255 : Int32)).toUInt32.toUInt16.toUInt32.toInt32))), (.int (nar .char ((((p4.toUInt32 >>> ((8 : Int32) &&& 31).toUInt32).toInt32) &&& (255 : Int32)).toUInt32.toUInt16.toUInt32.toInt32)))] (.int 0) := (Vn33.ext Ex34)
          have Fc42 : Sta Z h34 "java/lang/String" "COMPACT_STRINGS" "Z" (.int cs) := (((((own_Sta_keep ((own_Sta_keep (S_cs.ext Ex15) p17_0 (allS (own_plain Ax15) all0)).ext Ex19) p22_0 (allS (own_plain Ax19) all0)).ext Ex24).wr W30).wr W33).ext Ex34)
          have hws43 : ∀ d ∈ StrChars.Road.words, d.before a0 Z = true := fun d hd => hw d (own_words d hd)
          have hlat43 : ∀ c ∈ [(nar .char ((p4 &&& (255 : Int32)).toUInt32.toUInt16.toUInt32.toInt32)), (nar .char ((((p4.toUInt32 >>> ((8 : Int32) &&& 31).toUInt32).toInt32) &&& (255 : Int32)).toUInt32.toUInt16.toUInt32.toInt32))], ¬ c < 0 ∧ ¬ (255 : Int32) < c := own_lat p4
          obtain ⟨_, _, ⟨T43, Lx43, kx43, nx43⟩, -, X43, ⟨Lc43, hQ43, lx43, yx43, zx43⟩, st43⟩ := X34.specialBack hx (y := (⟨"java/lang/String", "<init>", "([C)V"⟩ : MethodName)) rfl hown (mvT hZ (wd hw 25 rfl)) (mvT hZ (wd hw 26 rfl)) (mvT hZ (wd hw 27 rfl)) (by decide) (StrChars.Road.backV (W := 1) hZ hws43 (kI := 4) (wd hw 23 rfl) (cs := [(nar .char ((p4 &&& (255 : Int32)).toUInt32.toUInt16.toUInt32.toInt32)), (nar .char ((((p4.toUInt32 >>> ((8 : Int32) &&& 31).toUInt32).toInt32) &&& (255 : Int32)).toUInt32.toUInt16.toUInt32.toInt32))]) (bs := [((nar .char ((p4 &&& (255 : Int32)).toUInt32.toUInt16.toUInt32.toInt32))).toInt8.toInt32, ((nar .char ((((p4.toUInt32 >>> ((8 : Int32) &&& 31).toUInt32).toInt32) &&& (255 : Int32)).toUInt32.toUInt16.toUInt32.toInt32))).toInt8.toInt32]) (n := 2) ge34 Z34 Ax34 Fn34_48 Fn34_46 Fc41 Fc42 P_cs rfl rfl (by decide) (by decide) hlat43 rfl (by decide) (by decide)) (g := (mkF m 190 #[iv p0, iv p1, iv p2, iv p3, iv p4, iv p5, iv x0, iv x1, iv x2, iv x3, iv y0, iv y1, iv y2, iv y3, iv kk, rv ob15, rv ob19, rv ob24, .unset, .unset, .unset, .unset] [(.ref ob24), (.ref ob34), (.ref ob34)])) rfl (by rw [hml]; rfl) (Steps.refl _) (a := ob34) (argsL := [(.ref ob24)]) (rest := [(.ref ob34)]) (lenOf pd_1 rfl) rfl (by show 2 * 0 + _ ≤ _; exact Nat.le_of_eq rfl) (hb hby at_190) (fun _ _ => ⟨rfl, e34, (by decide : 4 + 1 ≤ _), (by decide : 14 + 2 ≤ _)⟩)
          dsimp only [Pt.U, Pt.locs, Pt.cells, Pt.slots] at X43 lx43 yx43 zx43 st43 hQ43
          subst lx43 yx43 zx43
          obtain ⟨rfl, N43q, Kq43, Eq43, Cq43, tb43, kb43, gt43, gh43, nt43, Vq43, Aq43⟩ := hQ43
          have N43 := Fr.app N33 N43q
          have Fc44 : Exa Z h34 ob15 "com/example/halyard/halyard/core/mal/TypeId" := (Fc35.ext Ex34)
          have ne45 : ob15 ≠ tb43 := Nat.ne_of_lt (Nat.lt_of_lt_of_le Fc44.lt gh43)
          have Fc46 : Exa Z h34 ob19 "com/example/halyard/halyard/core/mal/TypeId" := (Fc37.ext Ex34)
          have ne47 : ob19 ≠ tb43 := Nat.ne_of_lt (Nat.lt_of_lt_of_le Fc46.lt gh43)
          have ne48 : ob24 ≠ tb43 := Nat.ne_of_lt (Nat.lt_of_lt_of_le Fc41.lt gh43)
          have ne49 : ob34 ≠ tb43 := Nat.ne_of_lt (Nat.lt_of_lt_of_le Ax34.lt gh43)
          have Z43 : n0 ≤ T43.heap.size := Nat.le_trans Z34 Kq43.1
          refine own_lift (fun t k => st43.trans k) ?_
          show own_Go p.tables e below (T43.setTop (mkF m 193 #[iv p0, iv p1, iv p2, iv p3, iv p4, iv p5, iv x0, iv x1, iv x2, iv x3, iv y0, iv y1, iv y2, iv y3, iv kk, rv ob15, rv ob19, rv ob24, .unset, .unset, .unset, .unset] [(.ref ob34)])) _
          have sg50 : ∀ t, Steps p.tables e below (T43.setTop (mkF m 269 #[iv p0, iv p1, iv p2, iv p3, iv p4, iv p5, iv x0, iv x1, iv x2, iv x3, iv y0, iv y1, iv y2, iv y3, iv kk, rv ob15, rv ob19, rv ob24, rv ob34, .val .null, iv 0, .unset] [.null, (.ref ob15)])) t → Steps p.tables e below (T43.setTop (mkF m 193 #[iv p0, iv p1, iv p2, iv p3, iv p4, iv p5, iv x0, iv x1, iv x2, iv x3, iv y0, iv y1, iv y2, iv y3, iv kk, rv ob15, rv ob19, rv ob24, .unset, .unset, .unset, .unset] [(.ref ob34)])) t := by
            intro t k
            refine XS.astore X43.here hx rfl (hb hby at_193) rfl rfl (l' := #[iv p0, iv p1, iv p2, iv p3, iv p4, iv p5, iv x0, iv x1, iv x2, iv x3, iv y0, iv y1, iv y2, iv y3, iv kk, rv ob15, rv ob19, rv ob24, rv ob34, .unset, .unset, .unset]) rfl ?_
            show Steps p.tables e below (T43.setTop (mkF m 195 #[iv p0, iv p1, iv p2, iv p3, iv p4, iv p5, iv x0, iv x1, iv x2, iv x3, iv y0, iv y1, iv y2, iv y3, iv kk, rv ob15, rv ob19, rv ob24, rv ob34, .unset, .unset, .unset] [])) _
            refine XS.iload X43.here hx rfl (hb hby at_195) rfl ?_
            refine XS.iconst X43.here hx rfl (hb hby at_197) ?_
            show Steps p.tables e below (T43.setTop (mkF m 198 #[iv p0, iv p1, iv p2, iv p3, iv p4, iv p5, iv x0, iv x1, iv x2, iv x3, iv y0, iv y1, iv y2, iv y3, iv kk, rv ob15, rv ob19, rv ob24, rv ob34, .unset, .unset, .unset] [(.int 2), (.int kk)])) _
            refine XS.icmpYes X43.here hx rfl (pc0 := 198) (pc' := 208) rfl (hb hby at_198) rfl (flt k2).2.1 (by decide) (by decide) ?_
            refine XS.iload X43.here hx rfl (hb hby at_208) rfl ?_
            show Steps p.tables e below (T43.setTop (mkF m 210 #[iv p0, iv p1, iv p2, iv p3, iv p4, iv p5, iv x0, iv x1, iv x2, iv x3, iv y0, iv y1, iv y2, iv y3, iv kk, rv ob15, rv ob19, rv ob24, rv ob34, .unset, .unset, .unset] [(.int kk)])) _
            refine XS.iconst X43.here hx rfl (hb hby at_210) ?_
            refine XS.icmpNo X43.here hx rfl (hb hby at_211) rfl (teq k3).2 ?_
            show Steps p.tables e below (T43.setTop (mkF m 214 #[iv p0, iv p1, iv p2, iv p3, iv p4, iv p5, iv x0, iv x1, iv x2, iv x3, iv y0, iv y1, iv y2, iv y3, iv kk, rv ob15, rv ob19, rv ob24, rv ob34, .unset, .unset, .unset] [])) _
            refine XS.aconstNull X43.here hx rfl (hb hby at_214) ?_
            refine XS.astore X43.here hx rfl (hb hby at_215) rfl rfl (l' := #[iv p0, iv p1, iv p2, iv p3, iv p4, iv p5, iv x0, iv x1, iv x2, iv x3, iv y0, iv y1, iv y2, iv y3, iv kk, rv ob15, rv ob19, rv ob24, rv ob34, .val .null, .unset, .unset]) rfl ?_
            show Steps p.tables e below (T43.setTop (mkF m 217 #[iv p0, iv p1, iv p2, iv p3, iv p4, iv p5, iv x0, iv x1, iv x2, iv x3, iv y0, iv y1, iv y2, iv y3, iv kk, rv ob15, rv ob19, rv ob24, rv ob34, .val .null, .unset, .unset] [])) _
            refine XS.goto X43.here hx rfl (pc0 := 217) (pc' := 224) rfl (hb hby at_217) (by decide) (by decide) ?_
            refine XS.iload X43.here hx rfl (hb hby at_224) rfl ?_
            show Steps p.tables e below (T43.setTop (mkF m 226 #[iv p0, iv p1, iv p2, iv p3, iv p4, iv p5, iv x0, iv x1, iv x2, iv x3, iv y0, iv y1, iv y2, iv y3, iv kk, rv ob15, rv ob19, rv ob24, rv ob34, .val .null, .unset, .unset] [(.int kk)])) _
            refine XS.iconst X43.here hx rfl (hb hby at_226) ?_
            refine XS.icmpYes X43.here hx rfl (pc0 := 227) (pc' := 262) rfl (hb hby at_227) rfl (flt k2).2.1 (by decide) (by decide) ?_
            show Steps p.tables e below (T43.setTop (mkF m 262 #[iv p0, iv p1, iv p2, iv p3, iv p4, iv p5, iv x0, iv x1, iv x2, iv x3, iv y0, iv y1, iv y2, iv y3, iv kk, rv ob15, rv ob19, rv ob24, rv ob34, .val .null, .unset, .unset] [])) _
            refine XS.iconst X43.here hx rfl (hb hby at_262) ?_
            refine XS.istore X43.here hx rfl (hb hby at_263) rfl (l' := #[iv p0, iv p1, iv p2, iv p3, iv p4, iv p5, iv x0, iv x1, iv x2, iv x3, iv y0, iv y1, iv y2, iv y3, iv kk, rv ob15, rv ob19, rv ob24, rv ob34, .val .null, iv 0, .unset]) rfl ?_
            show Steps p.tables e below (T43.setTop (mkF m 265 #[iv p0, iv p1, iv p2, iv p3, iv p4, iv p5, iv x0, iv x1, iv x2, iv x3, iv y0, iv y1, iv y2, iv y3, iv kk, rv ob15, rv ob19, rv ob24, rv ob34, .val .null, iv 0, .unset] [])) _
            refine XS.aload X43.here hx rfl (hb hby at_265) rfl rfl ?_
            refine XS.aload X43.here hx rfl (hb hby at_267) rfl rfl ?_
            show Steps p.tables e below (T43.setTop (mkF m 269 #[iv p0, iv p1, iv p2, iv p3, iv p4, iv p5, iv x0, iv x1, iv x2, iv x3, iv y0, iv y1, iv y2, iv y3, iv kk, rv ob15, rv ob19, rv ob24, rv ob34, .val .null, iv 0, .unset] [.null, (.ref ob15)])) _
            exact k
          refine own_lift sg50 ?_
          show own_Go p.tables e below (T43.setTop (mkF m 269 #[iv p0, iv p1, iv p2, iv p3, iv p4, iv p5, iv x0, iv x1, iv x2, iv x3, iv y0, iv y1, iv y2, iv y3, iv kk, rv ob15, rv ob19, rv ob24, rv ob34, .val .null, iv 0, .unset] [.null, (.ref ob15)])) _
          have Fc52 : Exa Z T43.heap ob15 "com/example/halyard/halyard/core/mal/TypeId" := (Fc44.keep Kq43)
          obtain ⟨cq51, kq51, q51a, q51b, q51c⟩ := isOf hZ rfl Fc52
          obtain ⟨_, _, ⟨T51, Lx51, kx51, nx51⟩, -, X51, ⟨Lc51, hQ51, lx51, yx51, zx51⟩, st51⟩ := X43.virtualBack hx (y := (⟨"com/example/halyard/halyard/core/mal/TypeId", "equals", "(Ljava/lang/Object;)Z"⟩ : MethodName)) (z := (⟨"com/example/halyard/halyard/core/mal/TypeId", "equals", "(Ljava/lang/Object;)Z"⟩ : MethodName)) hown (mvT hZ (wd hw 49 rfl)) (mvT hZ (wd hw 50 rfl)) (notFace_of_selects (args := #[]) (mvT hZ (wd hw 52 rfl))) (mvT hZ (wd hw 52 rfl)) (mvT hZ (wd hw 51 rfl)) (by decide) (backOf (W := 0) (rmEqNull l Z a0 hw [] ob15 T43.heap n0 Z43 ) hZ (wd hw 53 rfl) (wd hw 3 rfl) (by decide) (by decide)) q51a q51c (g := (mkF m 269 #[iv p0, iv p1, iv p2, iv p3, iv p4, iv p5, iv x0, iv x1, iv x2, iv x3, iv y0, iv y1, iv y2, iv y3, iv kk, rv ob15, rv ob19, rv ob24, rv ob34, .val .null, iv 0, .unset] [.null, (.ref ob15)])) rfl (by rw [hml]; rfl) (Steps.refl _) (argsL := [.null]) (rest := []) (lenOf pd_2 rfl) rfl (by show 2 * 0 + _ ≤ _; exact Nat.le_of_eq rfl) (hb hby at_269) (fun _ _ => ⟨rfl, rfl, (by decide : 5 + 0 ≤ _), (by decide : 16 + 0 ≤ _)⟩)
          dsimp only [Pt.U, Pt.locs, Pt.cells, Pt.slots] at X51 lx51 yx51 zx51 st51 hQ51
          subst lx51 yx51 zx51
          obtain ⟨rfl, N51q, e51⟩ := hQ51
          have N51 := Fr.app N43 N51q
          refine own_lift (fun t k => st51.trans k) ?_
          show own_Go p.tables e below (T51.setTop (mkF m 272 #[iv p0, iv p1, iv p2, iv p3, iv p4, iv p5, iv x0, iv x1, iv x2, iv x3, iv y0, iv y1, iv y2, iv y3, iv kk, rv ob15, rv ob19, rv ob24, rv ob34, .val .null, iv 0, .unset] [(.int 0)])) _
          have sg53 : ∀ t, Steps p.tables e below (T51.setTop (mkF m 323 #[iv p0, iv p1, iv p2, iv p3, iv p4, iv p5, iv x0, iv x1, iv x2, iv x3, iv y0, iv y1, iv y2, iv y3, iv kk, rv ob15, rv ob19, rv ob24, rv ob34, .val .null, iv 0, iv 1] [(.ref ob15), (.ref ob15)])) t → Steps p.tables e below (T51.setTop (mkF m 272 #[iv p0, iv p1, iv p2, iv p3, iv p4, iv p5, iv x0, iv x1, iv x2, iv x3, iv y0, iv y1, iv y2, iv y3, iv kk, rv ob15, rv ob19, rv ob24, rv ob34, .val .null, iv 0, .unset] [(.int 0)])) t := by
            intro t k
            refine XS.iload X51.here hx rfl (hb hby at_272) rfl ?_
            show Steps p.tables e below (T51.setTop (mkF m 274 #[iv p0, iv p1, iv p2, iv p3, iv p4, iv p5, iv x0, iv x1, iv x2, iv x3, iv y0, iv y1, iv y2, iv y3, iv kk, rv ob15, rv ob19, rv ob24, rv ob34, .val .null, iv 0, .unset] [(.int 0), (.int 0)])) _
            refine XS.icmpNo X51.here hx rfl (hb hby at_274) rfl (teq (by decide : (0 : Int32) = (0 : Int32))).2 ?_
            refine XS.iconst X51.here hx rfl (hb hby at_277) ?_
            show Steps p.tables e below (T51.setTop (mkF m 278 #[iv p0, iv p1, iv p2, iv p3, iv p4, iv p5, iv x0, iv x1, iv x2, iv x3, iv y0, iv y1, iv y2, iv y3, iv kk, rv ob15, rv ob19, rv ob24, rv ob34, .val .null, iv 0, .unset] [(.int 1)])) _
            refine XS.goto X51.here hx rfl (pc0 := 278) (pc' := 282) rfl (hb hby at_278) (by decide) (by decide) ?_
            refine XS.istore X51.here hx rfl (hb hby at_282) rfl (l' := #[iv p0, iv p1, iv p2, iv p3, iv p4, iv p5, iv x0, iv x1, iv x2, iv x3, iv y0, iv y1, iv y2, iv y3, iv kk, rv ob15, rv ob19, rv ob24, rv ob34, .val .null, iv 0, iv 1]) rfl ?_
            show Steps p.tables e below (T51.setTop (mkF m 284 #[iv p0, iv p1, iv p2, iv p3, iv p4, iv p5, iv x0, iv x1, iv x2, iv x3, iv y0, iv y1, iv y2, iv y3, iv kk, rv ob15, rv ob19, rv ob24, rv ob34, .val .null, iv 0, iv 1] [])) _
            refine XS.iload X51.here hx rfl (hb hby at_284) rfl ?_
            refine XS.iconst X51.here hx rfl (hb hby at_286) ?_
            show Steps p.tables e below (T51.setTop (mkF m 287 #[iv p0, iv p1, iv p2, iv p3, iv p4, iv p5, iv x0, iv x1, iv x2, iv x3, iv y0, iv y1, iv y2, iv y3, iv kk, rv ob15, rv ob19, rv ob24, rv ob34, .val .null, iv 0, iv 1] [(.int 2), (.int kk)])) _
            refine XS.icmpYes X51.here hx rfl (pc0 := 287) (pc' := 314) rfl (hb hby at_287) rfl (flt k2).2.1 (by decide) (by decide) ?_
            refine XS.iload X51.here hx rfl (hb hby at_314) rfl ?_
            show Steps p.tables e below (T51.setTop (mkF m 316 #[iv p0, iv p1, iv p2, iv p3, iv p4, iv p5, iv x0, iv x1, iv x2, iv x3, iv y0, iv y1, iv y2, iv y3, iv kk, rv ob15, rv ob19, rv ob24, rv ob34, .val .null, iv 0, iv 1] [(.int 1)])) _
            refine XS.ifNo X51.here hx rfl (hb hby at_316) rfl ((if0 _ _).trans (feq (by decide : ¬ ((1 : Int32) = (0 : Int32)))).1) ?_
            refine XS.aload X51.here hx rfl (hb hby at_319) rfl rfl ?_
            show Steps p.tables e below (T51.setTop (mkF m 321 #[iv p0, iv p1, iv p2, iv p3, iv p4, iv p5, iv x0, iv x1, iv x2, iv x3, iv y0, iv y1, iv y2, iv y3, iv kk, rv ob15, rv ob19, rv ob24, rv ob34, .val .null, iv 0, iv 1] [(.ref ob15)])) _
            refine XS.aload X51.here hx rfl (hb hby at_321) rfl rfl ?_
            show Steps p.tables e below (T51.setTop (mkF m 323 #[iv p0, iv p1, iv p2, iv p3, iv p4, iv p5, iv x0, iv x1, iv x2, iv x3, iv y0, iv y1, iv y2, iv y3, iv kk, rv ob15, rv ob19, rv ob24, rv ob34, .val .null, iv 0, iv 1] [(.ref ob15), (.ref ob15)])) _
            exact k
          refine own_lift sg53 ?_
          show own_Go p.tables e below (T51.setTop (mkF m 323 #[iv p0, iv p1, iv p2, iv p3, iv p4, iv p5, iv x0, iv x1, iv x2, iv x3, iv y0, iv y1, iv y2, iv y3, iv kk, rv ob15, rv ob19, rv ob24, rv ob34, .val .null, iv 0, iv 1] [(.ref ob15), (.ref ob15)])) _
          have Fc54 : Fld Z T43.heap ob15 "com/example/halyard/halyard/core/mal/TypeId" "area" "I" (.int x0) := (((((((p17_2.ext Ex19).keep p22_0 (ninS ne20 nin0)).ext Ex24).other W30 (Or.inl ne26)).other W33 (Or.inl ne26)).ext Ex34).keep Kq43 (ninS ne36 nin0))
          have Fc55 : Fld Z T43.heap ob15 "com/example/halyard/halyard/core/mal/TypeId" "service" "I" (.int x1) := (((((((p17_3.ext Ex19).keep p22_0 (ninS ne20 nin0)).ext Ex24).other W30 (Or.inl ne26)).other W33 (Or.inl ne26)).ext Ex34).keep Kq43 (ninS ne36 nin0))
          have Fc56 : Fld Z T43.heap ob15 "com/example/halyard/halyard/core/mal/TypeId" "areaVersion" "I" (.int x2) := (((((((p17_4.ext Ex19).keep p22_0 (ninS ne20 nin0)).ext Ex24).other W30 (Or.inl ne26)).other W33 (Or.inl ne26)).ext Ex34).keep Kq43 (ninS ne36 nin0))
          have Fc57 : Fld Z T43.heap ob15 "com/example/halyard/halyard/core/mal/TypeId" "shortFormPart" "I" (.int x3) := (((((((p17_5.ext Ex19).keep p22_0 (ninS ne20 nin0)).ext Ex24).other W30 (Or.inl ne26)).other W33 (Or.inl ne26)).ext Ex34).keep Kq43 (ninS ne36 nin0))
          obtain ⟨cq58, kq58, q58a, q58b, q58c⟩ := isOf hZ e51 Fc52
          obtain ⟨_, _, ⟨T58, Lx58, kx58, nx58⟩, -, X58, ⟨Lc58, hQ58, lx58, yx58, zx58⟩, st58⟩ := X51.virtualBack hx (y := (⟨"com/example/halyard/halyard/core/mal/TypeId", "equals", "(Ljava/lang/Object;)Z"⟩ : MethodName)) (z := (⟨"com/example/halyard/halyard/core/mal/TypeId", "equals", "(Ljava/lang/Object;)Z"⟩ : MethodName)) hown (mvT hZ (wd hw 49 rfl)) (mvT hZ (wd hw 50 rfl)) (notFace_of_selects (args := #[]) (mvT hZ (wd hw 52 rfl))) (mvT hZ (wd hw 52 rfl)) (mvT hZ (wd hw 51 rfl)) (by decide) (backOf (W := 0) (rmEq4 l Z a0 hw [] ob15 ob15 x0 x1 x2 x3 x0 x1 x2 x3 T43.heap n0 Z43 Fc54 Fc55 Fc56 Fc57 Fc54 Fc55 Fc56 Fc57 Fc52 (rfl : x0 = x0) (rfl : x1 = x1) (rfl : x2 = x2) (rfl : x3 = x3)) hZ (wd hw 53 rfl) (wd hw 3 rfl) (by decide) (by decide)) q58a q58c (g := (mkF m 323 #[iv p0, iv p1, iv p2, iv p3, iv p4, iv p5, iv x0, iv x1, iv x2, iv x3, iv y0, iv y1, iv y2, iv y3, iv kk, rv ob15, rv ob19, rv ob24, rv ob34, .val .null, iv 0, iv 1] [(.ref ob15), (.ref ob15)])) rfl (by rw [hml]; rfl) (Steps.refl _) (argsL := [(.ref ob15)]) (rest := []) (lenOf pd_2 rfl) rfl (by show 2 * 0 + _ ≤ _; exact Nat.le_of_eq rfl) (hb hby at_323) (fun _ _ => ⟨rfl, e51, (by decide : 5 + 0 ≤ _), (by decide : 16 + 0 ≤ _)⟩)
          dsimp only [Pt.U, Pt.locs, Pt.cells, Pt.slots] at X58 lx58 yx58 zx58 st58 hQ58
          subst lx58 yx58 zx58
          obtain ⟨rfl, N58q, e58⟩ := hQ58
          have N58 := Fr.app N51 N58q
          refine own_lift (fun t k => st58.trans k) ?_
          show own_Go p.tables e below (T58.setTop (mkF m 326 #[iv p0, iv p1, iv p2, iv p3, iv p4, iv p5, iv x0, iv x1, iv x2, iv x3, iv y0, iv y1, iv y2, iv y3, iv kk, rv ob15, rv ob19, rv ob24, rv ob34, .val .null, iv 0, iv 1] [(.int 1)])) _
          have sg59 : ∀ t, Steps p.tables e below (T58.setTop (mkF m 338 #[iv p0, iv p1, iv p2, iv p3, iv p4, iv p5, iv x0, iv x1, iv x2, iv x3, iv y0, iv y1, iv y2, iv y3, iv kk, rv ob15, rv ob19, rv ob24, rv ob34, .val .null, iv 0, iv 1] [(.int 1)])) t → Steps p.tables e below (T58.setTop (mkF m 326 #[iv p0, iv p1, iv p2, iv p3, iv p4, iv p5, iv x0, iv x1, iv x2, iv x3, iv y0, iv y1, iv y2, iv y3, iv kk, rv ob15, rv ob19, rv ob24, rv ob34, .val .null, iv 0, iv 1] [(.int 1)])) t := by
            intro t k
            refine XS.ifNo X58.here hx rfl (hb hby at_326) rfl ((if0 _ _).trans (feq (by decide : ¬ ((1 : Int32) = (0 : Int32)))).1) ?_
            show Steps p.tables e below (T58.setTop (mkF m 329 #[iv p0, iv p1, iv p2, iv p3, iv p4, iv p5, iv x0, iv x1, iv x2, iv x3, iv y0, iv y1, iv y2, iv y3, iv kk, rv ob15, rv ob19, rv ob24, rv ob34, .val .null, iv 0, iv 1] [])) _
            refine XS.iconst X58.here hx rfl (hb hby at_329) ?_
            refine XS.goto X58.here hx rfl (pc0 := 330) (pc' := 334) rfl (hb hby at_330) (by decide) (by decide) ?_
            show Steps p.tables e below (T58.setTop (mkF m 334 #[iv p0, iv p1, iv p2, iv p3, iv p4, iv p5, iv x0, iv x1, iv x2, iv x3, iv y0, iv y1, iv y2, iv y3, iv kk, rv ob15, rv ob19, rv ob24, rv ob34, .val .null, iv 0, iv 1] [(.int 1)])) _
            refine XS.istore X58.here hx rfl (hb hby at_334) rfl (l' := #[iv p0, iv p1, iv p2, iv p3, iv p4, iv p5, iv x0, iv x1, iv x2, iv x3, iv y0, iv y1, iv y2, iv y3, iv kk, rv ob15, rv ob19, rv ob24, rv ob34, .val .null, iv 0, iv 1]) rfl ?_
            refine XS.iload X58.here hx rfl (hb hby at_336) rfl ?_
            show Steps p.tables e below (T58.setTop (mkF m 338 #[iv p0, iv p1, iv p2, iv p3, iv p4, iv p5, iv x0, iv x1, iv x2, iv x3, iv y0, iv y1, iv y2, iv y3, iv kk, rv ob15, rv ob19, rv ob24, rv ob34, .val .null, iv 0, iv 1] [(.int 1)])) _
            exact k
          refine own_lift sg59 ?_
          show own_Go p.tables e below (T58.setTop (mkF m 338 #[iv p0, iv p1, iv p2, iv p3, iv p4, iv p5, iv x0, iv x1, iv x2, iv x3, iv y0, iv y1, iv y2, iv y3, iv kk, rv ob15, rv ob19, rv ob24, rv ob34, .val .null, iv 0, iv 1] [(.int 1)])) _
          obtain ⟨fs, hr, hrun, hended, hW, hsame⟩ := X58.leave (v := some (.int 1)) (fun h => by rw [Bd.returns] at h; cases h)
          refine ⟨_, _, ?_, hrun, hended, _, _, rfl, ?_, ⟨_, rfl⟩, hW, hsame.mono (by decide) (by decide)⟩
          · exact retN X58 hx (t := .boolean) Bd.returns (by simp) (hb hby at_338) hr
          · show Q0 Z  h0 n0 _ T58.heap _
            rw [e58]
            exact ⟨rfl, N58⟩
        by_cases b : (p5 &&& (8 : Int32)) = (0 : Int32)
        · have sg60 : ∀ t, Steps p.tables e below (T10.setTop (mkF m 110 #[iv p0, iv p1, iv p2, iv p3, iv p4, iv p5, iv x0, iv x1, iv x2, iv x3, iv y0, iv y1, iv y2, .unset, .unset, .unset, .unset, .unset, .unset, .unset, .unset, .unset] [(.int ((p4 <<< ((8 : Int32) &&& 31)) >>> ((8 : Int32) &&& 31)))])) t → Steps p.tables e below (T10.setTop (mkF m 89 #[iv p0, iv p1, iv p2, iv p3, iv p4, iv p5, iv x0, iv x1, iv x2, iv x3, iv y0, iv y1, iv y2, .unset, .unset, .unset, .unset, .unset, .unset, .unset, .unset, .unset] [])) t := by
            intro t k
            refine XS.iload X10.here hx rfl (hb hby at_89) rfl ?_
            show Steps p.tables e below (T10.setTop (mkF m 91 #[iv p0, iv p1, iv p2, iv p3, iv p4, iv p5, iv x0, iv x1, iv x2, iv x3, iv y0, iv y1, iv y2, .unset, .unset, .unset, .unset, .unset, .unset, .unset, .unset, .unset] [(.int p5)])) _
            refine XS.bipush X10.here hx rfl (hb hby at_91) ?_
            refine XS.iand X10.here hx rfl (hb hby at_93) rfl ?_
            show Steps p.tables e below (T10.setTop (mkF m 94 #[iv p0, iv p1, iv p2, iv p3, iv p4, iv p5, iv x0, iv x1, iv x2, iv x3, iv y0, iv y1, iv y2, .unset, .unset, .unset, .unset, .unset, .unset, .unset, .unset, .unset] [(.int (p5 &&& (8 : Int32)))])) _
            refine XS.ifYes X10.here hx rfl (pc0 := 94) (pc' := 102) rfl (hb hby at_94) rfl ((if0 _ _).trans (teq b).1) (by decide) (by decide) ?_
            refine XS.iload X10.here hx rfl (hb hby at_102) rfl ?_
            show Steps p.tables e below (T10.setTop (mkF m 104 #[iv p0, iv p1, iv p2, iv p3, iv p4, iv p5, iv x0, iv x1, iv x2, iv x3, iv y0, iv y1, iv y2, .unset, .unset, .unset, .unset, .unset, .unset, .unset, .unset, .unset] [(.int p4)])) _
            refine XS.bipush X10.here hx rfl (hb hby at_104) ?_
            refine XS.ishl X10.here hx rfl (hb hby at_106) rfl ?_
            show Steps p.tables e below (T10.setTop (mkF m 107 #[iv p0, iv p1, iv p2, iv p3, iv p4, iv p5, iv x0, iv x1, iv x2, iv x3, iv y0, iv y1, iv y2, .unset, .unset, .unset, .unset, .unset, .unset, .unset, .unset, .unset] [(.int (p4 <<< ((8 : Int32) &&& 31)))])) _
            refine XS.bipush X10.here hx rfl (hb hby at_107) ?_
            refine XS.ishr X10.here hx rfl (hb hby at_109) rfl ?_
            show Steps p.tables e below (T10.setTop (mkF m 110 #[iv p0, iv p1, iv p2, iv p3, iv p4, iv p5, iv x0, iv x1, iv x2, iv x3, iv y0, iv y1, iv y2, .unset, .unset, .unset, .unset, .unset, .unset, .unset, .unset, .unset] [(.int ((p4 <<< ((8 : Int32) &&& 31)) >>> ((8 : Int32) &&& 31)))])) _
            exact k
          refine own_lift sg60 ?_
          show own_Go p.tables e below (T10.setTop (mkF m 110 #[iv p0, iv p1, iv p2, iv p3, iv p4, iv p5, iv x0, iv x1, iv x2, iv x3, iv y0, iv y1, iv y2, .unset, .unset, .unset, .unset, .unset, .unset, .unset, .unset, .unset] [(.int ((p4 <<< ((8 : Int32) &&& 31)) >>> ((8 : Int32) &&& 31)))])) _
          rw [show y3 = ((p4 <<< ((8 : Int32) &&& 31)) >>> ((8 : Int32) &&& 31)) from (hy3.trans (if_pos b))] at join12
          exact join12 _ _ X10 e10 N10
        · have sg61 : ∀ t, Steps p.tables e below (T10.setTop (mkF m 110 #[iv p0, iv p1, iv p2, iv p3, iv p4, iv p5, iv x0, iv x1, iv x2, iv x3, iv y0, iv y1, iv y2, .unset, .unset, .unset, .unset, .unset, .unset, .unset, .unset, .unset] [(.int x3)])) t → Steps p.tables e below (T10.setTop (mkF m 89 #[iv p0, iv p1, iv p2, iv p3, iv p4, iv p5, iv x0, iv x1, iv x2, iv x3, iv y0, iv y1, iv y2, .unset, .unset, .unset, .unset, .unset, .unset, .unset, .unset, .unset] [])) t := by
            intro t k
            refine XS.iload X10.here hx rfl (hb hby at_89) rfl ?_
            show Steps p.tables e below (T10.setTop (mkF m 91 #[iv p0, iv p1, iv p2, iv p3, iv p4, iv p5, iv x0, iv x1, iv x2, iv x3, iv y0, iv y1, iv y2, .unset, .unset, .unset, .unset, .unset, .unset, .unset, .unset, .unset] [(.int p5)])) _
            refine XS.bipush X10.here hx rfl (hb hby at_91) ?_
            refine XS.iand X10.here hx rfl (hb hby at_93) rfl ?_
            show Steps p.tables e below (T10.setTop (mkF m 94 #[iv p0, iv p1, iv p2, iv p3, iv p4, iv p5, iv x0, iv x1, iv x2, iv x3, iv y0, iv y1, iv y2, .unset, .unset, .unset, .unset, .unset, .unset, .unset, .unset, .unset] [(.int (p5 &&& (8 : Int32)))])) _
            refine XS.ifNo X10.here hx rfl (hb hby at_94) rfl ((if0 _ _).trans (feq b).1) ?_
            refine XS.iload X10.here hx rfl (hb hby at_97) rfl ?_
            show Steps p.tables e below (T10.setTop (mkF m 99 #[iv p0, iv p1, iv p2, iv p3, iv p4, iv p5, iv x0, iv x1, iv x2, iv x3, iv y0, iv y1, iv y2, .unset, .unset, .unset, .unset, .unset, .unset, .unset, .unset, .unset] [(.int x3)])) _
            refine XS.goto X10.here hx rfl (pc0 := 99) (pc' := 110) rfl (hb hby at_99) (by decide) (by decide) ?_
            show Steps p.tables e below (T10.setTop (mkF m 110 #[iv p0, iv p1, iv p2, iv p3, iv p4, iv p5, iv x0, iv x1, iv x2, iv x3, iv y0, iv y1, iv y2, .unset, .unset, .unset, .unset, .unset, .unset, .unset, .unset, .unset] [(.int x3)])) _
            exact k
          refine own_lift sg61 ?_
          show own_Go p.tables e below (T10.setTop (mkF m 110 #[iv p0, iv p1, iv p2, iv p3, iv p4, iv p5, iv x0, iv x1, iv x2, iv x3, iv y0, iv y1, iv y2, .unset, .unset, .unset, .unset, .unset, .unset, .unset, .unset, .unset] [(.int x3)])) _
          rw [show y3 = x3 from (hy3.trans (if_neg b))] at join12
          exact join12 _ _ X10 e10 N10
      by_cases b : (p5 &&& (4 : Int32)) = (0 : Int32)
      · have sg62 : ∀ t, Steps p.tables e below (T8.setTop (mkF m 87 #[iv p0, iv p1, iv p2, iv p3, iv p4, iv p5, iv x0, iv x1, iv x2, iv x3, iv y0, iv y1, .unset, .unset, .unset, .unset, .unset, .unset, .unset, .unset, .unset, .unset] [(.int (((p4.toUInt32 >>> ((8 : Int32) &&& 31).toUInt32).toInt32) &&& (255 : Int32)))])) t → Steps p.tables e below (T8.setTop (mkF m 66 #[iv p0, iv p1, iv p2, iv p3, iv p4, iv p5, iv x0, iv x1, iv x2, iv x3, iv y0, iv y1, .unset, .unset, .unset, .unset, .unset, .unset, .unset, .unset, .unset, .unset] [])) t := by
          intro t k
          refine XS.iload X8.here hx rfl (hb hby at_66) rfl ?_
          show Steps p.tables e below (T8.setTop (mkF m 68 #[iv p0, iv p1, iv p2, iv p3, iv p4, iv p5, iv x0, iv x1, iv x2, iv x3, iv y0, iv y1, .unset, .unset, .unset, .unset, .unset, .unset, .unset, .unset, .unset, .unset] [(.int p5)])) _
          refine XS.iconst X8.here hx rfl (hb hby at_68) ?_
          refine XS.iand X8.here hx rfl (hb hby at_69) rfl ?_
          show Steps p.tables e below (T8.setTop (mkF m 70 #[iv p0, iv p1, iv p2, iv p3, iv p4, iv p5, iv x0, iv x1, iv x2, iv x3, iv y0, iv y1, .unset, .unset, .unset, .unset, .unset, .unset, .unset, .unset, .unset, .unset] [(.int (p5 &&& (4 : Int32)))])) _
          refine XS.ifYes X8.here hx rfl (pc0 := 70) (pc' := 78) rfl (hb hby at_70) rfl ((if0 _ _).trans (teq b).1) (by decide) (by decide) ?_
          refine XS.iload X8.here hx rfl (hb hby at_78) rfl ?_
          show Steps p.tables e below (T8.setTop (mkF m 80 #[iv p0, iv p1, iv p2, iv p3, iv p4, iv p5, iv x0, iv x1, iv x2, iv x3, iv y0, iv y1, .unset, .unset, .unset, .unset, .unset, .unset, .unset, .unset, .unset, .unset] [(.int p4)])) _
          refine XS.bipush X8.here hx rfl (hb hby at_80) ?_
          refine XS.iushr X8.here hx rfl (hb hby at_82) rfl ?_
          show Steps p.tables e below (T8.setTop (mkF m 83 #[iv p0, iv p1, iv p2, iv p3, iv p4, iv p5, iv x0, iv x1, iv x2, iv x3, iv y0, iv y1, .unset, .unset, .unset, .unset, .unset, .unset, .unset, .unset, .unset, .unset] [(.int ((p4.toUInt32 >>> ((8 : Int32) &&& 31).toUInt32).toInt32))])) _
          refine XS.sipush X8.here hx rfl (hb hby at_83) ?_
          refine XS.iand X8.here hx rfl (hb hby at_86) rfl ?_
          show Steps p.tables e below (T8.setTop (mkF m 87 #[iv p0, iv p1, iv p2, iv p3, iv p4, iv p5, iv x0, iv x1, iv x2, iv x3, iv y0, iv y1, .unset, .unset, .unset, .unset, .unset, .unset, .unset, .unset, .unset, .unset] [(.int (((p4.toUInt32 >>> ((8 : Int32) &&& 31).toUInt32).toInt32) &&& (255 : Int32)))])) _
          exact k
        refine own_lift sg62 ?_
        show own_Go p.tables e below (T8.setTop (mkF m 87 #[iv p0, iv p1, iv p2, iv p3, iv p4, iv p5, iv x0, iv x1, iv x2, iv x3, iv y0, iv y1, .unset, .unset, .unset, .unset, .unset, .unset, .unset, .unset, .unset, .unset] [(.int (((p4.toUInt32 >>> ((8 : Int32) &&& 31).toUInt32).toInt32) &&& (255 : Int32)))])) _
        rw [show y2 = (((p4.toUInt32 >>> ((8 : Int32) &&& 31).toUInt32).toInt32) &&& (255 : Int32)) from (hy2.trans (if_pos b))] at join10
        exact join10 _ _ X8 e8 N8
      · have sg63 : ∀ t, Steps p.tables e below (T8.setTop (mkF m 87 #[iv p0, iv p1, iv p2, iv p3, iv p4, iv p5, iv x0, iv x1, iv x2, iv x3, iv y0, iv y1, .unset, .unset, .unset, .unset, .unset, .unset, .unset, .unset, .unset, .unset] [(.int x2)])) t → Steps p.tables e below (T8.setTop (mkF m 66 #[iv p0, iv p1, iv p2, iv p3, iv p4, iv p5, iv x0, iv x1, iv x2, iv x3, iv y0, iv y1, .unset, .unset, .unset, .unset, .unset, .unset, .unset, .unset, .unset, .unset] [])) t := by
          intro t k
          refine XS.iload X8.here hx rfl (hb hby at_66) rfl ?_
          show Steps p.tables e below (T8.setTop (mkF m 68 #[iv p0, iv p1, iv p2, iv p3, iv p4, iv p5, iv x0, iv x1, iv x2, iv x3, iv y0, iv y1, .unset, .unset, .unset, .unset, .unset, .unset, .unset, .unset, .unset, .unset] [(.int p5)])) _
          refine XS.iconst X8.here hx rfl (hb hby at_68) ?_
          refine XS.iand X8.here hx rfl (hb hby at_69) rfl ?_
          show Steps p.tables e below (T8.setTop (mkF m 70 #[iv p0, iv p1, iv p2, iv p3, iv p4, iv p5, iv x0, iv x1, iv x2, iv x3, iv y0, iv y1, .unset, .unset, .unset, .unset, .unset, .unset, .unset, .unset, .unset, .unset] [(.int (p5 &&& (4 : Int32)))])) _
          refine XS.ifNo X8.here hx rfl (hb hby at_70) rfl ((if0 _ _).trans (feq b).1) ?_
          refine XS.iload X8.here hx rfl (hb hby at_73) rfl ?_
          show Steps p.tables e below (T8.setTop (mkF m 75 #[iv p0, iv p1, iv p2, iv p3, iv p4, iv p5, iv x0, iv x1, iv x2, iv x3, iv y0, iv y1, .unset, .unset, .unset, .unset, .unset, .unset, .unset, .unset, .unset, .unset] [(.int x2)])) _
          refine XS.goto X8.here hx rfl (pc0 := 75) (pc' := 87) rfl (hb hby at_75) (by decide) (by decide) ?_
          show Steps p.tables e below (T8.setTop (mkF m 87 #[iv p0, iv p1, iv p2, iv p3, iv p4, iv p5, iv x0, iv x1, iv x2, iv x3, iv y0, iv y1, .unset, .unset, .unset, .unset, .unset, .unset, .unset, .unset, .unset, .unset] [(.int x2)])) _
          exact k
        refine own_lift sg63 ?_
        show own_Go p.tables e below (T8.setTop (mkF m 87 #[iv p0, iv p1, iv p2, iv p3, iv p4, iv p5, iv x0, iv x1, iv x2, iv x3, iv y0, iv y1, .unset, .unset, .unset, .unset, .unset, .unset, .unset, .unset, .unset, .unset] [(.int x2)])) _
        rw [show y2 = x2 from (hy2.trans (if_neg b))] at join10
        exact join10 _ _ X8 e8 N8
    by_cases b : (p5 &&& (2 : Int32)) = (0 : Int32)
    · have sg64 : ∀ t, Steps p.tables e below (T6.setTop (mkF m 64 #[iv p0, iv p1, iv p2, iv p3, iv p4, iv p5, iv x0, iv x1, iv x2, iv x3, iv y0, .unset, .unset, .unset, .unset, .unset, .unset, .unset, .unset, .unset, .unset, .unset] [(.int ((p4.toUInt32 >>> ((16 : Int32) &&& 31).toUInt32).toInt32))])) t → Steps p.tables e below (T6.setTop (mkF m 47 #[iv p0, iv p1, iv p2, iv p3, iv p4, iv p5, iv x0, iv x1, iv x2, iv x3, iv y0, .unset, .unset, .unset, .unset, .unset, .unset, .unset, .unset, .unset, .unset, .unset] [])) t := by
        intro t k
        refine XS.iload X6.here hx rfl (hb hby at_47) rfl ?_
        show Steps p.tables e below (T6.setTop (mkF m 49 #[iv p0, iv p1, iv p2, iv p3, iv p4, iv p5, iv x0, iv x1, iv x2, iv x3, iv y0, .unset, .unset, .unset, .unset, .unset, .unset, .unset, .unset, .unset, .unset, .unset] [(.int p5)])) _
        refine XS.iconst X6.here hx rfl (hb hby at_49) ?_
        refine XS.iand X6.here hx rfl (hb hby at_50) rfl ?_
        show Steps p.tables e below (T6.setTop (mkF m 51 #[iv p0, iv p1, iv p2, iv p3, iv p4, iv p5, iv x0, iv x1, iv x2, iv x3, iv y0, .unset, .unset, .unset, .unset, .unset, .unset, .unset, .unset, .unset, .unset, .unset] [(.int (p5 &&& (2 : Int32)))])) _
        refine XS.ifYes X6.here hx rfl (pc0 := 51) (pc' := 59) rfl (hb hby at_51) rfl ((if0 _ _).trans (teq b).1) (by decide) (by decide) ?_
        refine XS.iload X6.here hx rfl (hb hby at_59) rfl ?_
        show Steps p.tables e below (T6.setTop (mkF m 61 #[iv p0, iv p1, iv p2, iv p3, iv p4, iv p5, iv x0, iv x1, iv x2, iv x3, iv y0, .unset, .unset, .unset, .unset, .unset, .unset, .unset, .unset, .unset, .unset, .unset] [(.int p4)])) _
        refine XS.bipush X6.here hx rfl (hb hby at_61) ?_
        refine XS.iushr X6.here hx rfl (hb hby at_63) rfl ?_
        show Steps p.tables e below (T6.setTop (mkF m 64 #[iv p0, iv p1, iv p2, iv p3, iv p4, iv p5, iv x0, iv x1, iv x2, iv x3, iv y0, .unset, .unset, .unset, .unset, .unset, .unset, .unset, .unset, .unset, .unset, .unset] [(.int ((p4.toUInt32 >>> ((16 : Int32) &&& 31).toUInt32).toInt32))])) _
        exact k
      refine own_lift sg64 ?_
      show own_Go p.tables e below (T6.setTop (mkF m 64 #[iv p0, iv p1, iv p2, iv p3, iv p4, iv p5, iv x0, iv x1, iv x2, iv x3, iv y0, .unset, .unset, .unset, .unset, .unset, .unset, .unset, .unset, .unset, .unset, .unset] [(.int ((p4.toUInt32 >>> ((16 : Int32) &&& 31).toUInt32).toInt32))])) _
      rw [show y1 = ((p4.toUInt32 >>> ((16 : Int32) &&& 31).toUInt32).toInt32) from (hy1.trans (if_pos b))] at join8
      exact join8 _ _ X6 e6 N6
    · have sg65 : ∀ t, Steps p.tables e below (T6.setTop (mkF m 64 #[iv p0, iv p1, iv p2, iv p3, iv p4, iv p5, iv x0, iv x1, iv x2, iv x3, iv y0, .unset, .unset, .unset, .unset, .unset, .unset, .unset, .unset, .unset, .unset, .unset] [(.int x1)])) t → Steps p.tables e below (T6.setTop (mkF m 47 #[iv p0, iv p1, iv p2, iv p3, iv p4, iv p5, iv x0, iv x1, iv x2, iv x3, iv y0, .unset, .unset, .unset, .unset, .unset, .unset, .unset, .unset, .unset, .unset, .unset] [])) t := by
        intro t k
        refine XS.iload X6.here hx rfl (hb hby at_47) rfl ?_
        show Steps p.tables e below (T6.setTop (mkF m 49 #[iv p0, iv p1, iv p2, iv p3, iv p4, iv p5, iv x0, iv x1, iv x2, iv x3, iv y0, .unset, .unset, .unset, .unset, .unset, .unset, .unset, .unset, .unset, .unset, .unset] [(.int p5)])) _
        refine XS.iconst X6.here hx rfl (hb hby at_49) ?_
        refine XS.iand X6.here hx rfl (hb hby at_50) rfl ?_
        show Steps p.tables e below (T6.setTop (mkF m 51 #[iv p0, iv p1, iv p2, iv p3, iv p4, iv p5, iv x0, iv x1, iv x2, iv x3, iv y0, .unset, .unset, .unset, .unset, .unset, .unset, .unset, .unset, .unset, .unset, .unset] [(.int (p5 &&& (2 : Int32)))])) _
        refine XS.ifNo X6.here hx rfl (hb hby at_51) rfl ((if0 _ _).trans (feq b).1) ?_
        refine XS.iload X6.here hx rfl (hb hby at_54) rfl ?_
        show Steps p.tables e below (T6.setTop (mkF m 56 #[iv p0, iv p1, iv p2, iv p3, iv p4, iv p5, iv x0, iv x1, iv x2, iv x3, iv y0, .unset, .unset, .unset, .unset, .unset, .unset, .unset, .unset, .unset, .unset, .unset] [(.int x1)])) _
        refine XS.goto X6.here hx rfl (pc0 := 56) (pc' := 64) rfl (hb hby at_56) (by decide) (by decide) ?_
        show Steps p.tables e below (T6.setTop (mkF m 64 #[iv p0, iv p1, iv p2, iv p3, iv p4, iv p5, iv x0, iv x1, iv x2, iv x3, iv y0, .unset, .unset, .unset, .unset, .unset, .unset, .unset, .unset, .unset, .unset, .unset] [(.int x1)])) _
        exact k
      refine own_lift sg65 ?_
      show own_Go p.tables e below (T6.setTop (mkF m 64 #[iv p0, iv p1, iv p2, iv p3, iv p4, iv p5, iv x0, iv x1, iv x2, iv x3, iv y0, .unset, .unset, .unset, .unset, .unset, .unset, .unset, .unset, .unset, .unset, .unset] [(.int x1)])) _
      rw [show y1 = x1 from (hy1.trans (if_neg b))] at join8
      exact join8 _ _ X6 e6 N6
  by_cases b : (p5 &&& (1 : Int32)) = (0 : Int32)
  · have sg66 : ∀ t, Steps p.tables e below (s₁.setTop (mkF m 45 #[iv p0, iv p1, iv p2, iv p3, iv p4, iv p5, iv x0, iv x1, iv x2, iv x3, .unset, .unset, .unset, .unset, .unset, .unset, .unset, .unset, .unset, .unset, .unset, .unset] [(.int (p4 &&& (65535 : Int32)))])) t → Steps p.tables e below (s₁.setTop (mkF m 28 #[iv p0, iv p1, iv p2, iv p3, iv p4, iv p5, iv x0, iv x1, iv x2, iv x3, .unset, .unset, .unset, .unset, .unset, .unset, .unset, .unset, .unset, .unset, .unset, .unset] [])) t := by
      intro t k
      refine XS.iload X0.here hx rfl (hb hby at_28) rfl ?_
      show Steps p.tables e below (s₁.setTop (mkF m 30 #[iv p0, iv p1, iv p2, iv p3, iv p4, iv p5, iv x0, iv x1, iv x2, iv x3, .unset, .unset, .unset, .unset, .unset, .unset, .unset, .unset, .unset, .unset, .unset, .unset] [(.int p5)])) _
      refine XS.iconst X0.here hx rfl (hb hby at_30) ?_
      refine XS.iand X0.here hx rfl (hb hby at_31) rfl ?_
      show Steps p.tables e below (s₁.setTop (mkF m 32 #[iv p0, iv p1, iv p2, iv p3, iv p4, iv p5, iv x0, iv x1, iv x2, iv x3, .unset, .unset, .unset, .unset, .unset, .unset, .unset, .unset, .unset, .unset, .unset, .unset] [(.int (p5 &&& (1 : Int32)))])) _
      refine XS.ifYes X0.here hx rfl (pc0 := 32) (pc' := 40) rfl (hb hby at_32) rfl ((if0 _ _).trans (teq b).1) (by decide) (by decide) ?_
      refine XS.iload X0.here hx rfl (hb hby at_40) rfl ?_
      show Steps p.tables e below (s₁.setTop (mkF m 42 #[iv p0, iv p1, iv p2, iv p3, iv p4, iv p5, iv x0, iv x1, iv x2, iv x3, .unset, .unset, .unset, .unset, .unset, .unset, .unset, .unset, .unset, .unset, .unset, .unset] [(.int p4)])) _
      refine X0.ldcInt hx hown (mvT hZ (wd hw 0 rfl)) (g := (mkF m 42 #[iv p0, iv p1, iv p2, iv p3, iv p4, iv p5, iv x0, iv x1, iv x2, iv x3, .unset, .unset, .unset, .unset, .unset, .unset, .unset, .unset, .unset, .unset, .unset, .unset] [(.int p4)])) rfl (hb hby at_42) _ ?_
      refine XS.iand X0.here hx rfl (hb hby at_44) rfl ?_
      show Steps p.tables e below (s₁.setTop (mkF m 45 #[iv p0, iv p1, iv p2, iv p3, iv p4, iv p5, iv x0, iv x1, iv x2, iv x3, .unset, .unset, .unset, .unset, .unset, .unset, .unset, .unset, .unset, .unset, .unset, .unset] [(.int (p4 &&& (65535 : Int32)))])) _
      exact k
    refine own_lift sg66 ?_
    show own_Go p.tables e below (s₁.setTop (mkF m 45 #[iv p0, iv p1, iv p2, iv p3, iv p4, iv p5, iv x0, iv x1, iv x2, iv x3, .unset, .unset, .unset, .unset, .unset, .unset, .unset, .unset, .unset, .unset, .unset, .unset] [(.int (p4 &&& (65535 : Int32)))])) _
    rw [show y0 = (p4 &&& (65535 : Int32)) from (hy0.trans (if_pos b))] at join6
    exact join6 _ _ X0 e0 N0
  · have sg67 : ∀ t, Steps p.tables e below (s₁.setTop (mkF m 45 #[iv p0, iv p1, iv p2, iv p3, iv p4, iv p5, iv x0, iv x1, iv x2, iv x3, .unset, .unset, .unset, .unset, .unset, .unset, .unset, .unset, .unset, .unset, .unset, .unset] [(.int x0)])) t → Steps p.tables e below (s₁.setTop (mkF m 28 #[iv p0, iv p1, iv p2, iv p3, iv p4, iv p5, iv x0, iv x1, iv x2, iv x3, .unset, .unset, .unset, .unset, .unset, .unset, .unset, .unset, .unset, .unset, .unset, .unset] [])) t := by
      intro t k
      refine XS.iload X0.here hx rfl (hb hby at_28) rfl ?_
      show Steps p.tables e below (s₁.setTop (mkF m 30 #[iv p0, iv p1, iv p2, iv p3, iv p4, iv p5, iv x0, iv x1, iv x2, iv x3, .unset, .unset, .unset, .unset, .unset, .unset, .unset, .unset, .unset, .unset, .unset, .unset] [(.int p5)])) _
      refine XS.iconst X0.here hx rfl (hb hby at_30) ?_
      refine XS.iand X0.here hx rfl (hb hby at_31) rfl ?_
      show Steps p.tables e below (s₁.setTop (mkF m 32 #[iv p0, iv p1, iv p2, iv p3, iv p4, iv p5, iv x0, iv x1, iv x2, iv x3, .unset, .unset, .unset, .unset, .unset, .unset, .unset, .unset, .unset, .unset, .unset, .unset] [(.int (p5 &&& (1 : Int32)))])) _
      refine XS.ifNo X0.here hx rfl (hb hby at_32) rfl ((if0 _ _).trans (feq b).1) ?_
      refine XS.iload X0.here hx rfl (hb hby at_35) rfl ?_
      show Steps p.tables e below (s₁.setTop (mkF m 37 #[iv p0, iv p1, iv p2, iv p3, iv p4, iv p5, iv x0, iv x1, iv x2, iv x3, .unset, .unset, .unset, .unset, .unset, .unset, .unset, .unset, .unset, .unset, .unset, .unset] [(.int x0)])) _
      refine XS.goto X0.here hx rfl (pc0 := 37) (pc' := 45) rfl (hb hby at_37) (by decide) (by decide) ?_
      show Steps p.tables e below (s₁.setTop (mkF m 45 #[iv p0, iv p1, iv p2, iv p3, iv p4, iv p5, iv x0, iv x1, iv x2, iv x3, .unset, .unset, .unset, .unset, .unset, .unset, .unset, .unset, .unset, .unset, .unset, .unset] [(.int x0)])) _
      exact k
    refine own_lift sg67 ?_
    show own_Go p.tables e below (s₁.setTop (mkF m 45 #[iv p0, iv p1, iv p2, iv p3, iv p4, iv p5, iv x0, iv x1, iv x2, iv x3, .unset, .unset, .unset, .unset, .unset, .unset, .unset, .unset, .unset, .unset, .unset, .unset] [(.int x0)])) _
    rw [show y0 = x0 from (hy0.trans (if_neg b))] at join6
    exact join6 _ _ X0 e0 N0
theorem ef_rm0_S (m : MethodId) (x0 : Int32) (x1 : Int32) (x2 : Int32) (x3 : Int32) (x4 : Int32) (x5 : Int32) : entryFrame m #[(.int x0), (.int x1), (.int x2), (.int x3), (.int x4), (.int x5)] maxLocals = mkF m 0 #[.val (.int x0), .val (.int x1), .val (.int x2), .val (.int x3), .val (.int x4), .val (.int x5), .unset, .unset, .unset, .unset, .unset, .unset, .unset, .unset, .unset, .unset, .unset, .unset, .unset, .unset, .unset, .unset] [] := by first | (simp [entryFrame, mkF, argsToLocals, Value.category, maxLocals]; done) | rfl
set_option maxRecDepth 65536 in
set_option maxHeartbeats 40000000 in
theorem rm0_S (l : Launch) (Z : State) (a0 : Array Value) (hw : ∀ d ∈ tables_1, d.before a0 Z = true) (ws : List Jvm.Cond) (p0 : Int32) (p1 : Int32) (p2 : Int32) (p3 : Int32) (p4 : Int32) (p5 : Int32) (cs : Int32) (x0 : Int32) (x1 : Int32) (x2 : Int32) (x3 : Int32) (y0 : Int32) (y1 : Int32) (y2 : Int32) (y3 : Int32) (kk : Int32) (h0 : Heap) (n0 : Nat) (Z0 : n0 ≤ h0.size) (S_cs : Sta Z h0 "java/lang/String" "COMPACT_STRINGS" "Z" (.int cs)) (P_cs : ¬ cs = 0) (hx0 : (p0 &&& (65535 : Int32)) = x0) (hx1 : (p1 &&& (65535 : Int32)) = x1) (hx2 : (p2 &&& (255 : Int32)) = x2) (hx3 : ((p3 <<< ((8 : Int32) &&& 31)) >>> ((8 : Int32) &&& 31)) = x3) (hy0 : y0 = if (p5 &&& (1 : Int32)) = (0 : Int32) then (p4 &&& (65535 : Int32)) else x0) (hy1 : y1 = if (p5 &&& (2 : Int32)) = (0 : Int32) then ((p4.toUInt32 >>> ((16 : Int32) &&& 31).toUInt32).toInt32) else x1) (hy2 : y2 = if (p5 &&& (4 : Int32)) = (0 : Int32) then (((p4.toUInt32 >>> ((8 : Int32) &&& 31).toUInt32).toInt32) &&& (255 : Int32)) else x2) (hy3 : y3 = if (p5 &&& (8 : Int32)) = (0 : Int32) then ((p4 <<< ((8 : Int32) &&& 31)) >>> ((8 : Int32) &&& 31)) else x3) (hk : (((p5.toUInt32 >>> ((4 : Int32) &&& 31).toUInt32).toInt32) &&& (3 : Int32)) = kk) (rx0 : ¬ (x0 < (0 : Int32)) ∧ ¬ ((65535 : Int32) < x0)) (rx1 : ¬ (x1 < (0 : Int32)) ∧ ¬ ((65535 : Int32) < x1)) (rx2 : ¬ (x2 < (0 : Int32)) ∧ ¬ ((255 : Int32) < x2)) (rx3 : ¬ (x3 < (-8388608 : Int32)) ∧ ¬ ((8388607 : Int32) < x3)) (ry0 : ¬ (y0 < (0 : Int32)) ∧ ¬ ((65535 : Int32) < y0)) (ry1 : ¬ (y1 < (0 : Int32)) ∧ ¬ ((65535 : Int32) < y1)) (ry2 : ¬ (y2 < (0 : Int32)) ∧ ¬ ((255 : Int32) < y2)) (ry3 : ¬ (y3 < (-8388608 : Int32)) ∧ ¬ ((8388607 : Int32) < y3)) (k2 : ¬ (kk < (2 : Int32))) (k3 : ¬ (kk = (2 : Int32))) :
    MetFree l x (head1 (Jvm.Cond.code x code maxLocals ret :: ws) room_1) (fun a U => a = #[(.int p0), (.int p1), (.int p2), (.int p3), (.int p4), (.int p5)] ∧ Z.Warmed39 U.vm ∧ U.heap = h0) (fun _ _ _ _ _ => True) (fun _ U o U' => ∃ v L, o = .returned v ∧ Q0 Z  h0 n0 v U'.heap L ∧ FrameEnd U o U' L 24 128) := by
  refine MetFree.of_bodySF (plainFor_of_name pn_1) hisR ?_
  intro p e s m args below meth c s₁ Bd hml0 hP hK
  obtain ⟨rfl, hZ, hh⟩ := hP
  have hx := Bd.exec
  have hby := Bd.bytes
  have hml : c.maxLocals = 22 := hml0
  have hown : s.vm.findClass "com/example/halyard/halyard/core/mal/TypeIdEqualsPinLaw" = some m.cls := findClass_of_methodNamed Bd.named
  have hnm := (name_of_methodNamed Bd.named Bd.method).1
  have X0 : Stand p l e room_1 s m #[(.int p0), (.int p1), (.int p2), (.int p3), (.int p4), (.int p5)] below meth c s₁ [] 0 0 := Stand.of_body Bd
  have e0 : s₁.heap = h0 := by rw [← hh, Bd.state]; rfl
  have N0 := Fr.nil n0
  refine own_go (own_lift (fun t k => castTop (ef_rm0_S m p0 p1 p2 p3 p4 p5) k) ?_)
  show own_Go p.tables e below (s₁.setTop (mkF m 0 #[iv p0, iv p1, iv p2, iv p3, iv p4, iv p5, .unset, .unset, .unset, .unset, .unset, .unset, .unset, .unset, .unset, .unset, .unset, .unset, .unset, .unset, .unset, .unset] [])) _
  have sg1 : ∀ t, Steps p.tables e below (s₁.setTop (mkF m 4 #[iv p0, iv p1, iv p2, iv p3, iv p4, iv p5, .unset, .unset, .unset, .unset, .unset, .unset, .unset, .unset, .unset, .unset, .unset, .unset, .unset, .unset, .unset, .unset] [(.int (p0 &&& (65535 : Int32)))])) t → Steps p.tables e below (s₁.setTop (mkF m 0 #[iv p0, iv p1, iv p2, iv p3, iv p4, iv p5, .unset, .unset, .unset, .unset, .unset, .unset, .unset, .unset, .unset, .unset, .unset, .unset, .unset, .unset, .unset, .unset] [])) t := by
    intro t k
    refine XS.iloadN X0.here hx rfl (hb hby at_0) rfl ?_
    show Steps p.tables e below (s₁.setTop (mkF m 1 #[iv p0, iv p1, iv p2, iv p3, iv p4, iv p5, .unset, .unset, .unset, .unset, .unset, .unset, .unset, .unset, .unset, .unset, .unset, .unset, .unset, .unset, .unset, .unset] [(.int p0)])) _
    refine X0.ldcInt hx hown (mvT hZ (wd hw 0 rfl)) (g := (mkF m 1 #[iv p0, iv p1, iv p2, iv p3, iv p4, iv p5, .unset, .unset, .unset, .unset, .unset, .unset, .unset, .unset, .unset, .unset, .unset, .unset, .unset, .unset, .unset, .unset] [(.int p0)])) rfl (hb hby at_1) _ ?_
    refine XS.iand X0.here hx rfl (hb hby at_3) rfl ?_
    show Steps p.tables e below (s₁.setTop (mkF m 4 #[iv p0, iv p1, iv p2, iv p3, iv p4, iv p5, .unset, .unset, .unset, .unset, .unset, .unset, .unset, .unset, .unset, .unset, .unset, .unset, .unset, .unset, .unset, .unset] [(.int (p0 &&& (65535 : Int32)))])) _
    exact k
  refine own_lift sg1 ?_
  show own_Go p.tables e below (s₁.setTop (mkF m 4 #[iv p0, iv p1, iv p2, iv p3, iv p4, iv p5, .unset, .unset, .unset, .unset, .unset, .unset, .unset, .unset, .unset, .unset, .unset, .unset, .unset, .unset, .unset, .unset] [(.int (p0 &&& (65535 : Int32)))])) _
  rw [hx0]
  show own_Go p.tables e below (s₁.setTop (mkF m 4 #[iv p0, iv p1, iv p2, iv p3, iv p4, iv p5, .unset, .unset, .unset, .unset, .unset, .unset, .unset, .unset, .unset, .unset, .unset, .unset, .unset, .unset, .unset, .unset] [(.int x0)])) _
  have sg2 : ∀ t, Steps p.tables e below (s₁.setTop (mkF m 10 #[iv p0, iv p1, iv p2, iv p3, iv p4, iv p5, iv x0, .unset, .unset, .unset, .unset, .unset, .unset, .unset, .unset, .unset, .unset, .unset, .unset, .unset, .unset, .unset] [(.int (p1 &&& (65535 : Int32)))])) t → Steps p.tables e below (s₁.setTop (mkF m 4 #[iv p0, iv p1, iv p2, iv p3, iv p4, iv p5, .unset, .unset, .unset, .unset, .unset, .unset, .unset, .unset, .unset, .unset, .unset, .unset, .unset, .unset, .unset, .unset] [(.int x0)])) t := by
    intro t k
    refine XS.istore X0.here hx rfl (hb hby at_4) rfl (l' := #[iv p0, iv p1, iv p2, iv p3, iv p4, iv p5, iv x0, .unset, .unset, .unset, .unset, .unset, .unset, .unset, .unset, .unset, .unset, .unset, .unset, .unset, .unset, .unset]) rfl ?_
    show Steps p.tables e below (s₁.setTop (mkF m 6 #[iv p0, iv p1, iv p2, iv p3, iv p4, iv p5, iv x0, .unset, .unset, .unset, .unset, .unset, .unset, .unset, .unset, .unset, .unset, .unset, .unset, .unset, .unset, .unset] [])) _
    refine XS.iloadN X0.here hx rfl (hb hby at_6) rfl ?_
    refine X0.ldcInt hx hown (mvT hZ (wd hw 0 rfl)) (g := (mkF m 7 #[iv p0, iv p1, iv p2, iv p3, iv p4, iv p5, iv x0, .unset, .unset, .unset, .unset, .unset, .unset, .unset, .unset, .unset, .unset, .unset, .unset, .unset, .unset, .unset] [(.int p1)])) rfl (hb hby at_7) _ ?_
    show Steps p.tables e below (s₁.setTop (mkF m 9 #[iv p0, iv p1, iv p2, iv p3, iv p4, iv p5, iv x0, .unset, .unset, .unset, .unset, .unset, .unset, .unset, .unset, .unset, .unset, .unset, .unset, .unset, .unset, .unset] [(.int 65535), (.int p1)])) _
    refine XS.iand X0.here hx rfl (hb hby at_9) rfl ?_
    show Steps p.tables e below (s₁.setTop (mkF m 10 #[iv p0, iv p1, iv p2, iv p3, iv p4, iv p5, iv x0, .unset, .unset, .unset, .unset, .unset, .unset, .unset, .unset, .unset, .unset, .unset, .unset, .unset, .unset, .unset] [(.int (p1 &&& (65535 : Int32)))])) _
    exact k
  refine own_lift sg2 ?_
  show own_Go p.tables e below (s₁.setTop (mkF m 10 #[iv p0, iv p1, iv p2, iv p3, iv p4, iv p5, iv x0, .unset, .unset, .unset, .unset, .unset, .unset, .unset, .unset, .unset, .unset, .unset, .unset, .unset, .unset, .unset] [(.int (p1 &&& (65535 : Int32)))])) _
  rw [hx1]
  show own_Go p.tables e below (s₁.setTop (mkF m 10 #[iv p0, iv p1, iv p2, iv p3, iv p4, iv p5, iv x0, .unset, .unset, .unset, .unset, .unset, .unset, .unset, .unset, .unset, .unset, .unset, .unset, .unset, .unset, .unset] [(.int x1)])) _
  have sg3 : ∀ t, Steps p.tables e below (s₁.setTop (mkF m 17 #[iv p0, iv p1, iv p2, iv p3, iv p4, iv p5, iv x0, iv x1, .unset, .unset, .unset, .unset, .unset, .unset, .unset, .unset, .unset, .unset, .unset, .unset, .unset, .unset] [(.int (p2 &&& (255 : Int32)))])) t → Steps p.tables e below (s₁.setTop (mkF m 10 #[iv p0, iv p1, iv p2, iv p3, iv p4, iv p5, iv x0, .unset, .unset, .unset, .unset, .unset, .unset, .unset, .unset, .unset, .unset, .unset, .unset, .unset, .unset, .unset] [(.int x1)])) t := by
    intro t k
    refine XS.istore X0.here hx rfl (hb hby at_10) rfl (l' := #[iv p0, iv p1, iv p2, iv p3, iv p4, iv p5, iv x0, iv x1, .unset, .unset, .unset, .unset, .unset, .unset, .unset, .unset, .unset, .unset, .unset, .unset, .unset, .unset]) rfl ?_
    show Steps p.tables e below (s₁.setTop (mkF m 12 #[iv p0, iv p1, iv p2, iv p3, iv p4, iv p5, iv x0, iv x1, .unset, .unset, .unset, .unset, .unset, .unset, .unset, .unset, .unset, .unset, .unset, .unset, .unset, .unset] [])) _
    refine XS.iloadN X0.here hx rfl (hb hby at_12) rfl ?_
    refine XS.sipush X0.here hx rfl (hb hby at_13) ?_
    show Steps p.tables e below (s₁.setTop (mkF m 16 #[iv p0, iv p1, iv p2, iv p3, iv p4, iv p5, iv x0, iv x1, .unset, .unset, .unset, .unset, .unset, .unset, .unset, .unset, .unset, .unset, .unset, .unset, .unset, .unset] [(.int 255), (.int p2)])) _
    refine XS.iand X0.here hx rfl (hb hby at_16) rfl ?_
    show Steps p.tables e below (s₁.setTop (mkF m 17 #[iv p0, iv p1, iv p2, iv p3, iv p4, iv p5, iv x0, iv x1, .unset, .unset, .unset, .unset, .unset, .unset, .unset, .unset, .unset, .unset, .unset, .unset, .unset, .unset] [(.int (p2 &&& (255 : Int32)))])) _
    exact k
  refine own_lift sg3 ?_
  show own_Go p.tables e below (s₁.setTop (mkF m 17 #[iv p0, iv p1, iv p2, iv p3, iv p4, iv p5, iv x0, iv x1, .unset, .unset, .unset, .unset, .unset, .unset, .unset, .unset, .unset, .unset, .unset, .unset, .unset, .unset] [(.int (p2 &&& (255 : Int32)))])) _
  rw [hx2]
  show own_Go p.tables e below (s₁.setTop (mkF m 17 #[iv p0, iv p1, iv p2, iv p3, iv p4, iv p5, iv x0, iv x1, .unset, .unset, .unset, .unset, .unset, .unset, .unset, .unset, .unset, .unset, .unset, .unset, .unset, .unset] [(.int x2)])) _
  have sg4 : ∀ t, Steps p.tables e below (s₁.setTop (mkF m 26 #[iv p0, iv p1, iv p2, iv p3, iv p4, iv p5, iv x0, iv x1, iv x2, .unset, .unset, .unset, .unset, .unset, .unset, .unset, .unset, .unset, .unset, .unset, .unset, .unset] [(.int ((p3 <<< ((8 : Int32) &&& 31)) >>> ((8 : Int32) &&& 31)))])) t → Steps p.tables e below (s₁.setTop (mkF m 17 #[iv p0, iv p1, iv p2, iv p3, iv p4, iv p5, iv x0, iv x1, .unset, .unset, .unset, .unset, .unset, .unset, .unset, .unset, .unset, .unset, .unset, .unset, .unset, .unset] [(.int x2)])) t := by
    intro t k
    refine XS.istore X0.here hx rfl (hb hby at_17) rfl (l' := #[iv p0, iv p1, iv p2, iv p3, iv p4, iv p5, iv x0, iv x1, iv x2, .unset, .unset, .unset, .unset, .unset, .unset, .unset, .unset, .unset, .unset, .unset, .unset, .unset]) rfl ?_
    show Steps p.tables e below (s₁.setTop (mkF m 19 #[iv p0, iv p1, iv p2, iv p3, iv p4, iv p5, iv x0, iv x1, iv x2, .unset, .unset, .unset, .unset, .unset, .unset, .unset, .unset, .unset, .unset, .unset, .unset, .unset] [])) _
    refine XS.iloadN X0.here hx rfl (hb hby at_19) rfl ?_
    refine XS.bipush X0.here hx rfl (hb hby at_20) ?_
    show Steps p.tables e below (s₁.setTop (mkF m 22 #[iv p0, iv p1, iv p2, iv p3, iv p4, iv p5, iv x0, iv x1, iv x2, .unset, .unset, .unset, .unset, .unset, .unset, .unset, .unset, .unset, .unset, .unset, .unset, .unset] [(.int 8), (.int p3)])) _
    refine XS.ishl X0.here hx rfl (hb hby at_22) rfl ?_
    refine XS.bipush X0.here hx rfl (hb hby at_23) ?_
    show Steps p.tables e below (s₁.setTop (mkF m 25 #[iv p0, iv p1, iv p2, iv p3, iv p4, iv p5, iv x0, iv x1, iv x2, .unset, .unset, .unset, .unset, .unset, .unset, .unset, .unset, .unset, .unset, .unset, .unset, .unset] [(.int 8), (.int (p3 <<< ((8 : Int32) &&& 31)))])) _
    refine XS.ishr X0.here hx rfl (hb hby at_25) rfl ?_
    show Steps p.tables e below (s₁.setTop (mkF m 26 #[iv p0, iv p1, iv p2, iv p3, iv p4, iv p5, iv x0, iv x1, iv x2, .unset, .unset, .unset, .unset, .unset, .unset, .unset, .unset, .unset, .unset, .unset, .unset, .unset] [(.int ((p3 <<< ((8 : Int32) &&& 31)) >>> ((8 : Int32) &&& 31)))])) _
    exact k
  refine own_lift sg4 ?_
  show own_Go p.tables e below (s₁.setTop (mkF m 26 #[iv p0, iv p1, iv p2, iv p3, iv p4, iv p5, iv x0, iv x1, iv x2, .unset, .unset, .unset, .unset, .unset, .unset, .unset, .unset, .unset, .unset, .unset, .unset, .unset] [(.int ((p3 <<< ((8 : Int32) &&& 31)) >>> ((8 : Int32) &&& 31)))])) _
  rw [hx3]
  show own_Go p.tables e below (s₁.setTop (mkF m 26 #[iv p0, iv p1, iv p2, iv p3, iv p4, iv p5, iv x0, iv x1, iv x2, .unset, .unset, .unset, .unset, .unset, .unset, .unset, .unset, .unset, .unset, .unset, .unset, .unset] [(.int x3)])) _
  have sg5 : ∀ t, Steps p.tables e below (s₁.setTop (mkF m 28 #[iv p0, iv p1, iv p2, iv p3, iv p4, iv p5, iv x0, iv x1, iv x2, iv x3, .unset, .unset, .unset, .unset, .unset, .unset, .unset, .unset, .unset, .unset, .unset, .unset] [])) t → Steps p.tables e below (s₁.setTop (mkF m 26 #[iv p0, iv p1, iv p2, iv p3, iv p4, iv p5, iv x0, iv x1, iv x2, .unset, .unset, .unset, .unset, .unset, .unset, .unset, .unset, .unset, .unset, .unset, .unset, .unset] [(.int x3)])) t := by
    intro t k
    refine XS.istore X0.here hx rfl (hb hby at_26) rfl (l' := #[iv p0, iv p1, iv p2, iv p3, iv p4, iv p5, iv x0, iv x1, iv x2, iv x3, .unset, .unset, .unset, .unset, .unset, .unset, .unset, .unset, .unset, .unset, .unset, .unset]) rfl ?_
    show Steps p.tables e below (s₁.setTop (mkF m 28 #[iv p0, iv p1, iv p2, iv p3, iv p4, iv p5, iv x0, iv x1, iv x2, iv x3, .unset, .unset, .unset, .unset, .unset, .unset, .unset, .unset, .unset, .unset, .unset, .unset] [])) _
    exact k
  refine own_lift sg5 ?_
  show own_Go p.tables e below (s₁.setTop (mkF m 28 #[iv p0, iv p1, iv p2, iv p3, iv p4, iv p5, iv x0, iv x1, iv x2, iv x3, .unset, .unset, .unset, .unset, .unset, .unset, .unset, .unset, .unset, .unset, .unset, .unset] [])) _
  have join6 : ∀ (T6 : State) (locs6 : List Loc), Stand p l e room_1 s m #[(.int p0), (.int p1), (.int p2), (.int p3), (.int p4), (.int p5)] below meth c T6 locs6 0 0 → T6.heap = h0 → Fr n0 locs6 → own_Go p.tables e below (T6.setTop (mkF m 45 #[iv p0, iv p1, iv p2, iv p3, iv p4, iv p5, iv x0, iv x1, iv x2, iv x3, .unset, .unset, .unset, .unset, .unset, .unset, .unset, .unset, .unset, .unset, .unset, .unset] [(.int y0)])) (fun s₂ o => s₂.status = .running ∧ Ended s₂ below o ∧ ∃ v L, o = .returned v ∧ Q0 Z  h0 n0 v s₂.heap L ∧ FrameEnd s o s₂ L 24 128) := by
    intro T6 locs6 X6 e6 N6
    have sg7 : ∀ t, Steps p.tables e below (T6.setTop (mkF m 47 #[iv p0, iv p1, iv p2, iv p3, iv p4, iv p5, iv x0, iv x1, iv x2, iv x3, iv y0, .unset, .unset, .unset, .unset, .unset, .unset, .unset, .unset, .unset, .unset, .unset] [])) t → Steps p.tables e below (T6.setTop (mkF m 45 #[iv p0, iv p1, iv p2, iv p3, iv p4, iv p5, iv x0, iv x1, iv x2, iv x3, .unset, .unset, .unset, .unset, .unset, .unset, .unset, .unset, .unset, .unset, .unset, .unset] [(.int y0)])) t := by
      intro t k
      refine XS.istore X6.here hx rfl (hb hby at_45) rfl (l' := #[iv p0, iv p1, iv p2, iv p3, iv p4, iv p5, iv x0, iv x1, iv x2, iv x3, iv y0, .unset, .unset, .unset, .unset, .unset, .unset, .unset, .unset, .unset, .unset, .unset]) rfl ?_
      show Steps p.tables e below (T6.setTop (mkF m 47 #[iv p0, iv p1, iv p2, iv p3, iv p4, iv p5, iv x0, iv x1, iv x2, iv x3, iv y0, .unset, .unset, .unset, .unset, .unset, .unset, .unset, .unset, .unset, .unset, .unset] [])) _
      exact k
    refine own_lift sg7 ?_
    show own_Go p.tables e below (T6.setTop (mkF m 47 #[iv p0, iv p1, iv p2, iv p3, iv p4, iv p5, iv x0, iv x1, iv x2, iv x3, iv y0, .unset, .unset, .unset, .unset, .unset, .unset, .unset, .unset, .unset, .unset, .unset] [])) _
    have join8 : ∀ (T8 : State) (locs8 : List Loc), Stand p l e room_1 s m #[(.int p0), (.int p1), (.int p2), (.int p3), (.int p4), (.int p5)] below meth c T8 locs8 0 0 → T8.heap = h0 → Fr n0 locs8 → own_Go p.tables e below (T8.setTop (mkF m 64 #[iv p0, iv p1, iv p2, iv p3, iv p4, iv p5, iv x0, iv x1, iv x2, iv x3, iv y0, .unset, .unset, .unset, .unset, .unset, .unset, .unset, .unset, .unset, .unset, .unset] [(.int y1)])) (fun s₂ o => s₂.status = .running ∧ Ended s₂ below o ∧ ∃ v L, o = .returned v ∧ Q0 Z  h0 n0 v s₂.heap L ∧ FrameEnd s o s₂ L 24 128) := by
      intro T8 locs8 X8 e8 N8
      have sg9 : ∀ t, Steps p.tables e below (T8.setTop (mkF m 66 #[iv p0, iv p1, iv p2, iv p3, iv p4, iv p5, iv x0, iv x1, iv x2, iv x3, iv y0, iv y1, .unset, .unset, .unset, .unset, .unset, .unset, .unset, .unset, .unset, .unset] [])) t → Steps p.tables e below (T8.setTop (mkF m 64 #[iv p0, iv p1, iv p2, iv p3, iv p4, iv p5, iv x0, iv x1, iv x2, iv x3, iv y0, .unset, .unset, .unset, .unset, .unset, .unset, .unset, .unset, .unset, .unset, .unset] [(.int y1)])) t := by
        intro t k
        refine XS.istore X8.here hx rfl (hb hby at_64) rfl (l' := #[iv p0, iv p1, iv p2, iv p3, iv p4, iv p5, iv x0, iv x1, iv x2, iv x3, iv y0, iv y1, .unset, .unset, .unset, .unset, .unset, .unset, .unset, .unset, .unset, .unset]) rfl ?_
        show Steps p.tables e below (T8.setTop (mkF m 66 #[iv p0, iv p1, iv p2, iv p3, iv p4, iv p5, iv x0, iv x1, iv x2, iv x3, iv y0, iv y1, .unset, .unset, .unset, .unset, .unset, .unset, .unset, .unset, .unset, .unset] [])) _
        exact k
      refine own_lift sg9 ?_
      show own_Go p.tables e below (T8.setTop (mkF m 66 #[iv p0, iv p1, iv p2, iv p3, iv p4, iv p5, iv x0, iv x1, iv x2, iv x3, iv y0, iv y1, .unset, .unset, .unset, .unset, .unset, .unset, .unset, .unset, .unset, .unset] [])) _
      have join10 : ∀ (T10 : State) (locs10 : List Loc), Stand p l e room_1 s m #[(.int p0), (.int p1), (.int p2), (.int p3), (.int p4), (.int p5)] below meth c T10 locs10 0 0 → T10.heap = h0 → Fr n0 locs10 → own_Go p.tables e below (T10.setTop (mkF m 87 #[iv p0, iv p1, iv p2, iv p3, iv p4, iv p5, iv x0, iv x1, iv x2, iv x3, iv y0, iv y1, .unset, .unset, .unset, .unset, .unset, .unset, .unset, .unset, .unset, .unset] [(.int y2)])) (fun s₂ o => s₂.status = .running ∧ Ended s₂ below o ∧ ∃ v L, o = .returned v ∧ Q0 Z  h0 n0 v s₂.heap L ∧ FrameEnd s o s₂ L 24 128) := by
        intro T10 locs10 X10 e10 N10
        have sg11 : ∀ t, Steps p.tables e below (T10.setTop (mkF m 89 #[iv p0, iv p1, iv p2, iv p3, iv p4, iv p5, iv x0, iv x1, iv x2, iv x3, iv y0, iv y1, iv y2, .unset, .unset, .unset, .unset, .unset, .unset, .unset, .unset, .unset] [])) t → Steps p.tables e below (T10.setTop (mkF m 87 #[iv p0, iv p1, iv p2, iv p3, iv p4, iv p5, iv x0, iv x1, iv x2, iv x3, iv y0, iv y1, .unset, .unset, .unset, .unset, .unset, .unset, .unset, .unset, .unset, .unset] [(.int y2)])) t := by
          intro t k
          refine XS.istore X10.here hx rfl (hb hby at_87) rfl (l' := #[iv p0, iv p1, iv p2, iv p3, iv p4, iv p5, iv x0, iv x1, iv x2, iv x3, iv y0, iv y1, iv y2, .unset, .unset, .unset, .unset, .unset, .unset, .unset, .unset, .unset]) rfl ?_
          show Steps p.tables e below (T10.setTop (mkF m 89 #[iv p0, iv p1, iv p2, iv p3, iv p4, iv p5, iv x0, iv x1, iv x2, iv x3, iv y0, iv y1, iv y2, .unset, .unset, .unset, .unset, .unset, .unset, .unset, .unset, .unset] [])) _
          exact k
        refine own_lift sg11 ?_
        show own_Go p.tables e below (T10.setTop (mkF m 89 #[iv p0, iv p1, iv p2, iv p3, iv p4, iv p5, iv x0, iv x1, iv x2, iv x3, iv y0, iv y1, iv y2, .unset, .unset, .unset, .unset, .unset, .unset, .unset, .unset, .unset] [])) _
        have join12 : ∀ (T12 : State) (locs12 : List Loc), Stand p l e room_1 s m #[(.int p0), (.int p1), (.int p2), (.int p3), (.int p4), (.int p5)] below meth c T12 locs12 0 0 → T12.heap = h0 → Fr n0 locs12 → own_Go p.tables e below (T12.setTop (mkF m 110 #[iv p0, iv p1, iv p2, iv p3, iv p4, iv p5, iv x0, iv x1, iv x2, iv x3, iv y0, iv y1, iv y2, .unset, .unset, .unset, .unset, .unset, .unset, .unset, .unset, .unset] [(.int y3)])) (fun s₂ o => s₂.status = .running ∧ Ended s₂ below o ∧ ∃ v L, o = .returned v ∧ Q0 Z  h0 n0 v s₂.heap L ∧ FrameEnd s o s₂ L 24 128) := by
          intro T12 locs12 X12 e12 N12
          have sg13 : ∀ t, Steps p.tables e below (T12.setTop (mkF m 118 #[iv p0, iv p1, iv p2, iv p3, iv p4, iv p5, iv x0, iv x1, iv x2, iv x3, iv y0, iv y1, iv y2, iv y3, .unset, .unset, .unset, .unset, .unset, .unset, .unset, .unset] [(.int (((p5.toUInt32 >>> ((4 : Int32) &&& 31).toUInt32).toInt32) &&& (3 : Int32)))])) t → Steps p.tables e below (T12.setTop (mkF m 110 #[iv p0, iv p1, iv p2, iv p3, iv p4, iv p5, iv x0, iv x1, iv x2, iv x3, iv y0, iv y1, iv y2, .unset, .unset, .unset, .unset, .unset, .unset, .unset, .unset, .unset] [(.int y3)])) t := by
            intro t k
            refine XS.istore X12.here hx rfl (hb hby at_110) rfl (l' := #[iv p0, iv p1, iv p2, iv p3, iv p4, iv p5, iv x0, iv x1, iv x2, iv x3, iv y0, iv y1, iv y2, iv y3, .unset, .unset, .unset, .unset, .unset, .unset, .unset, .unset]) rfl ?_
            show Steps p.tables e below (T12.setTop (mkF m 112 #[iv p0, iv p1, iv p2, iv p3, iv p4, iv p5, iv x0, iv x1, iv x2, iv x3, iv y0, iv y1, iv y2, iv y3, .unset, .unset, .unset, .unset, .unset, .unset, .unset, .unset] [])) _
            refine XS.iload X12.here hx rfl (hb hby at_112) rfl ?_
            refine XS.iconst X12.here hx rfl (hb hby at_114) ?_
            show Steps p.tables e below (T12.setTop (mkF m 115 #[iv p0, iv p1, iv p2, iv p3, iv p4, iv p5, iv x0, iv x1, iv x2, iv x3, iv y0, iv y1, iv y2, iv y3, .unset, .unset, .unset, .unset, .unset, .unset, .unset, .unset] [(.int 4), (.int p5)])) _
            refine XS.iushr X12.here hx rfl (hb hby at_115) rfl ?_
            refine XS.iconst X12.here hx rfl (hb hby at_116) ?_
            show Steps p.tables e below (T12.setTop (mkF m 117 #[iv p0, iv p1, iv p2, iv p3, iv p4, iv p5, iv x0, iv x1, iv x2, iv x3, iv y0, iv y1, iv y2, iv y3, .unset, .unset, .unset, .unset, .unset, .unset, .unset, .unset] [(.int 3), (.int ((p5.toUInt32 >>> ((4 : Int32) &&& 31).toUInt32).toInt32))])) _
            refine XS.iand X12.here hx rfl (hb hby at_117) rfl ?_
            show Steps p.tables e below (T12.setTop (mkF m 118 #[iv p0, iv p1, iv p2, iv p3, iv p4, iv p5, iv x0, iv x1, iv x2, iv x3, iv y0, iv y1, iv y2, iv y3, .unset, .unset, .unset, .unset, .unset, .unset, .unset, .unset] [(.int (((p5.toUInt32 >>> ((4 : Int32) &&& 31).toUInt32).toInt32) &&& (3 : Int32)))])) _
            exact k
          refine own_lift sg13 ?_
          show own_Go p.tables e below (T12.setTop (mkF m 118 #[iv p0, iv p1, iv p2, iv p3, iv p4, iv p5, iv x0, iv x1, iv x2, iv x3, iv y0, iv y1, iv y2, iv y3, .unset, .unset, .unset, .unset, .unset, .unset, .unset, .unset] [(.int (((p5.toUInt32 >>> ((4 : Int32) &&& 31).toUInt32).toInt32) &&& (3 : Int32)))])) _
          rw [hk]
          show own_Go p.tables e below (T12.setTop (mkF m 118 #[iv p0, iv p1, iv p2, iv p3, iv p4, iv p5, iv x0, iv x1, iv x2, iv x3, iv y0, iv y1, iv y2, iv y3, .unset, .unset, .unset, .unset, .unset, .unset, .unset, .unset] [(.int kk)])) _
          have sg14 : ∀ t, Steps p.tables e below (T12.setTop (mkF m 120 #[iv p0, iv p1, iv p2, iv p3, iv p4, iv p5, iv x0, iv x1, iv x2, iv x3, iv y0, iv y1, iv y2, iv y3, iv kk, .unset, .unset, .unset, .unset, .unset, .unset, .unset] [])) t → Steps p.tables e below (T12.setTop (mkF m 118 #[iv p0, iv p1, iv p2, iv p3, iv p4, iv p5, iv x0, iv x1, iv x2, iv x3, iv y0, iv y1, iv y2, iv y3, .unset, .unset, .unset, .unset, .unset, .unset, .unset, .unset] [(.int kk)])) t := by
            intro t k
            refine XS.istore X12.here hx rfl (hb hby at_118) rfl (l' := #[iv p0, iv p1, iv p2, iv p3, iv p4, iv p5, iv x0, iv x1, iv x2, iv x3, iv y0, iv y1, iv y2, iv y3, iv kk, .unset, .unset, .unset, .unset, .unset, .unset, .unset]) rfl ?_
            show Steps p.tables e below (T12.setTop (mkF m 120 #[iv p0, iv p1, iv p2, iv p3, iv p4, iv p5, iv x0, iv x1, iv x2, iv x3, iv y0, iv y1, iv y2, iv y3, iv kk, .unset, .unset, .unset, .unset, .unset, .unset, .unset] [])) _
            exact k
          refine own_lift sg14 ?_
          show own_Go p.tables e below (T12.setTop (mkF m 120 #[iv p0, iv p1, iv p2, iv p3, iv p4, iv p5, iv x0, iv x1, iv x2, iv x3, iv y0, iv y1, iv y2, iv y3, iv kk, .unset, .unset, .unset, .unset, .unset, .unset, .unset] [])) _
          obtain ⟨T15, h15, X15, e15, Ex15, Ax15, Dx15, Ux15, st15⟩ := newO X12 hx hZ hown (wd hw 1 rfl) (wd hw 2 rfl) (wd hw 3 rfl) e12 (g := (mkF m 120 #[iv p0, iv p1, iv p2, iv p3, iv p4, iv p5, iv x0, iv x1, iv x2, iv x3, iv y0, iv y1, iv y2, iv y3, iv kk, .unset, .unset, .unset, .unset, .unset, .unset, .unset] [])) rfl (hb hby at_120) (by decide) (by decide)
          obtain ⟨ob15, g15⟩ : ∃ z, z = h0.size := ⟨_, rfl⟩
          rw [← g15] at Ax15 Dx15 Ux15 st15
          have Z15 : n0 ≤ h15.size := Nat.le_trans Z0 Ex15.1
          have ge15 : n0 ≤ ob15 := Nat.le_trans Z0 (Nat.le_of_eq g15.symm)
          have Fn15_14 : Fld Z h15 ob15 "com/example/halyard/halyard/core/mal/TypeId" "area" "I" (.int 0) := Dx15 (Or.inr (wd hw 14 rfl)) (ty := .int) (by decide)
          have Fn15_16 : Fld Z h15 ob15 "com/example/halyard/halyard/core/mal/TypeId" "service" "I" (.int 0) := Dx15 (Or.inr (wd hw 16 rfl)) (ty := .int) (by decide)
          have Fn15_18 : Fld Z h15 ob15 "com/example/halyard/halyard/core/mal/TypeId" "areaVersion" "I" (.int 0) := Dx15 (Or.inr (wd hw 18 rfl)) (ty := .int) (by decide)
          have Fn15_20 : Fld Z h15 ob15 "com/example/halyard/halyard/core/mal/TypeId" "shortFormPart" "I" (.int 0) := Dx15 (Or.inr (wd hw 20 rfl)) (ty := .int) (by decide)
          refine own_lift st15 ?_
          show own_Go p.tables e below (T15.setTop (mkF m 123 #[iv p0, iv p1, iv p2, iv p3, iv p4, iv p5, iv x0, iv x1, iv x2, iv x3, iv y0, iv y1, iv y2, iv y3, iv kk, .unset, .unset, .unset, .unset, .unset, .unset, .unset] [(.ref ob15)])) _
          have sg16 : ∀ t, Steps p.tables e below (T15.setTop (mkF m 132 #[iv p0, iv p1, iv p2, iv p3, iv p4, iv p5, iv x0, iv x1, iv x2, iv x3, iv y0, iv y1, iv y2, iv y3, iv kk, .unset, .unset, .unset, .unset, .unset, .unset, .unset] [(.int x3), (.int x2), (.int x1), (.int x0), (.ref ob15), (.ref ob15)])) t → Steps p.tables e below (T15.setTop (mkF m 123 #[iv p0, iv p1, iv p2, iv p3, iv p4, iv p5, iv x0, iv x1, iv x2, iv x3, iv y0, iv y1, iv y2, iv y3, iv kk, .unset, .unset, .unset, .unset, .unset, .unset, .unset] [(.ref ob15)])) t := by
            intro t k
            refine XS.dup X15.here hx rfl (hb hby at_123) rfl rfl ?_
            show Steps p.tables e below (T15.setTop (mkF m 124 #[iv p0, iv p1, iv p2, iv p3, iv p4, iv p5, iv x0, iv x1, iv x2, iv x3, iv y0, iv y1, iv y2, iv y3, iv kk, .unset, .unset, .unset, .unset, .unset, .unset, .unset] [(.ref ob15), (.ref ob15)])) _
            refine XS.iload X15.here hx rfl (hb hby at_124) rfl ?_
            refine XS.iload X15.here hx rfl (hb hby at_126) rfl ?_
            show Steps p.tables e below (T15.setTop (mkF m 128 #[iv p0, iv p1, iv p2, iv p3, iv p4, iv p5, iv x0, iv x1, iv x2, iv x3, iv y0, iv y1, iv y2, iv y3, iv kk, .unset, .unset, .unset, .unset, .unset, .unset, .unset] [(.int x1), (.int x0), (.ref ob15), (.ref ob15)])) _
            refine XS.iload X15.here hx rfl (hb hby at_128) rfl ?_
            refine XS.iload X15.here hx rfl (hb hby at_130) rfl ?_
            show Steps p.tables e below (T15.setTop (mkF m 132 #[iv p0, iv p1, iv p2, iv p3, iv p4, iv p5, iv x0, iv x1, iv x2, iv x3, iv y0, iv y1, iv y2, iv y3, iv kk, .unset, .unset, .unset, .unset, .unset, .unset, .unset] [(.int x3), (.int x2), (.int x1), (.int x0), (.ref ob15), (.ref ob15)])) _
            exact k
          refine own_lift sg16 ?_
          show own_Go p.tables e below (T15.setTop (mkF m 132 #[iv p0, iv p1, iv p2, iv p3, iv p4, iv p5, iv x0, iv x1, iv x2, iv x3, iv y0, iv y1, iv y2, iv y3, iv kk, .unset, .unset, .unset, .unset, .unset, .unset, .unset] [(.int x3), (.int x2), (.int x1), (.int x0), (.ref ob15), (.ref ob15)])) _
          obtain ⟨_, _, ⟨T17, Lx17, kx17, nx17⟩, -, X17, ⟨Lc17, hQ17, lx17, yx17, zx17⟩, st17⟩ := X15.specialBack hx (y := (⟨"com/example/halyard/halyard/core/mal/TypeId", "<init>", "(IIII)V"⟩ : MethodName)) rfl hown (mvT hZ (wd hw 4 rfl)) (mvT hZ (wd hw 5 rfl)) (mvT hZ (wd hw 6 rfl)) (by decide) (backOf (W := 1) (rmInit l Z a0 hw [] ob15 x0 x1 x2 x3 h15 n0 Z15 Fn15_14 Fn15_16 Fn15_18 Fn15_20 Ax15 ge15 rx0.1 rx0.2 rx1.1 rx1.2 rx2.1 rx2.2 rx3.1 rx3.2) hZ (wd hw 6 rfl) (wd hw 3 rfl) (by decide) (by decide)) (g := (mkF m 132 #[iv p0, iv p1, iv p2, iv p3, iv p4, iv p5, iv x0, iv x1, iv x2, iv x3, iv y0, iv y1, iv y2, iv y3, iv kk, .unset, .unset, .unset, .unset, .unset, .unset, .unset] [(.int x3), (.int x2), (.int x1), (.int x0), (.ref ob15), (.ref ob15)])) rfl (by rw [hml]; rfl) (Steps.refl _) (a := ob15) (argsL := [(.int x0), (.int x1), (.int x2), (.int x3)]) (rest := [(.ref ob15)]) (lenOf pd_0 rfl) rfl (by show 2 * 0 + _ ≤ _; exact Nat.le_of_eq rfl) (hb hby at_132) (fun _ _ => ⟨rfl, e15, (by decide : 1 + 0 ≤ _), (by decide : 4 + 0 ≤ _)⟩)
          dsimp only [Pt.U, Pt.locs, Pt.cells, Pt.slots] at X17 lx17 yx17 zx17 st17 hQ17
          subst lx17 yx17 zx17
          obtain ⟨rfl, N17q, p17_0, p17_1, p17_2, p17_3, p17_4, p17_5⟩ := hQ17
          have N17 := Fr.app N12 N17q
          have Z17 : n0 ≤ T17.heap.size := Nat.le_trans Z15 p17_0.1
          refine own_lift (fun t k => st17.trans k) ?_
          show own_Go p.tables e below (T17.setTop (mkF m 135 #[iv p0, iv p1, iv p2, iv p3, iv p4, iv p5, iv x0, iv x1, iv x2, iv x3, iv y0, iv y1, iv y2, iv y3, iv kk, .unset, .unset, .unset, .unset, .unset, .unset, .unset] [(.ref ob15)])) _
          have sg18 : ∀ t, Steps p.tables e below (T17.setTop (mkF m 137 #[iv p0, iv p1, iv p2, iv p3, iv p4, iv p5, iv x0, iv x1, iv x2, iv x3, iv y0, iv y1, iv y2, iv y3, iv kk, rv ob15, .unset, .unset, .unset, .unset, .unset, .unset] [])) t → Steps p.tables e below (T17.setTop (mkF m 135 #[iv p0, iv p1, iv p2, iv p3, iv p4, iv p5, iv x0, iv x1, iv x2, iv x3, iv y0, iv y1, iv y2, iv y3, iv kk, .unset, .unset, .unset, .unset, .unset, .unset, .unset] [(.ref ob15)])) t := by
            intro t k
            refine XS.astore X17.here hx rfl (hb hby at_135) rfl rfl (l' := #[iv p0, iv p1, iv p2, iv p3, iv p4, iv p5, iv x0, iv x1, iv x2, iv x3, iv y0, iv y1, iv y2, iv y3, iv kk, rv ob15, .unset, .unset, .unset, .unset, .unset, .unset]) rfl ?_
            show Steps p.tables e below (T17.setTop (mkF m 137 #[iv p0, iv p1, iv p2, iv p3, iv p4, iv p5, iv x0, iv x1, iv x2, iv x3, iv y0, iv y1, iv y2, iv y3, iv kk, rv ob15, .unset, .unset, .unset, .unset, .unset, .unset] [])) _
            exact k
          refine own_lift sg18 ?_
          show own_Go p.tables e below (T17.setTop (mkF m 137 #[iv p0, iv p1, iv p2, iv p3, iv p4, iv p5, iv x0, iv x1, iv x2, iv x3, iv y0, iv y1, iv y2, iv y3, iv kk, rv ob15, .unset, .unset, .unset, .unset, .unset, .unset] [])) _
          obtain ⟨T19, h19, X19, e19, Ex19, Ax19, Dx19, Ux19, st19⟩ := newO X17 hx hZ hown (wd hw 1 rfl) (wd hw 2 rfl) (wd hw 3 rfl) rfl (g := (mkF m 137 #[iv p0, iv p1, iv p2, iv p3, iv p4, iv p5, iv x0, iv x1, iv x2, iv x3, iv y0, iv y1, iv y2, iv y3, iv kk, rv ob15, .unset, .unset, .unset, .unset, .unset, .unset] [])) rfl (hb hby at_137) (by decide) (by decide)
          obtain ⟨ob19, g19⟩ : ∃ z, z = T17.heap.size := ⟨_, rfl⟩
          rw [← g19] at Ax19 Dx19 Ux19 st19
          have ne20 : ob15 ≠ ob19 := Nat.ne_of_lt (Nat.lt_of_lt_of_le p17_1.lt (Nat.le_of_eq g19.symm))
          have Z19 : n0 ≤ h19.size := Nat.le_trans Z17 Ex19.1
          have ge19 : n0 ≤ ob19 := Nat.le_trans Z17 (Nat.le_of_eq g19.symm)
          have Fn19_14 : Fld Z h19 ob19 "com/example/halyard/halyard/core/mal/TypeId" "area" "I" (.int 0) := Dx19 (Or.inr (wd hw 14 rfl)) (ty := .int) (by decide)
          have Fn19_16 : Fld Z h19 ob19 "com/example/halyard/halyard/core/mal/TypeId" "service" "I" (.int 0) := Dx19 (Or.inr (wd hw 16 rfl)) (ty := .int) (by decide)
          have Fn19_18 : Fld Z h19 ob19 "com/example/halyard/halyard/core/mal/TypeId" "areaVersion" "I" (.int 0) := Dx19 (Or.inr (wd hw 18 rfl)) (ty := .int) (by decide)
          have Fn19_20 : Fld Z h19 ob19 "com/example/halyard/halyard/core/mal/TypeId" "shortFormPart" "I" (.int 0) := Dx19 (Or.inr (wd hw 20 rfl)) (ty := .int) (by decide)
          refine own_lift st19 ?_
          show own_Go p.tables e below (T19.setTop (mkF m 140 #[iv p0, iv p1, iv p2, iv p3, iv p4, iv p5, iv x0, iv x1, iv x2, iv x3, iv y0, iv y1, iv y2, iv y3, iv kk, rv ob15, .unset, .unset, .unset, .unset, .unset, .unset] [(.ref ob19)])) _
          have sg21 : ∀ t, Steps p.tables e below (T19.setTop (mkF m 149 #[iv p0, iv p1, iv p2, iv p3, iv p4, iv p5, iv x0, iv x1, iv x2, iv x3, iv y0, iv y1, iv y2, iv y3, iv kk, rv ob15, .unset, .unset, .unset, .unset, .unset, .unset] [(.int y3), (.int y2), (.int y1), (.int y0), (.ref ob19), (.ref ob19)])) t → Steps p.tables e below (T19.setTop (mkF m 140 #[iv p0, iv p1, iv p2, iv p3, iv p4, iv p5, iv x0, iv x1, iv x2, iv x3, iv y0, iv y1, iv y2, iv y3, iv kk, rv ob15, .unset, .unset, .unset, .unset, .unset, .unset] [(.ref ob19)])) t := by
            intro t k
            refine XS.dup X19.here hx rfl (hb hby at_140) rfl rfl ?_
            show Steps p.tables e below (T19.setTop (mkF m 141 #[iv p0, iv p1, iv p2, iv p3, iv p4, iv p5, iv x0, iv x1, iv x2, iv x3, iv y0, iv y1, iv y2, iv y3, iv kk, rv ob15, .unset, .unset, .unset, .unset, .unset, .unset] [(.ref ob19), (.ref ob19)])) _
            refine XS.iload X19.here hx rfl (hb hby at_141) rfl ?_
            refine XS.iload X19.here hx rfl (hb hby at_143) rfl ?_
            show Steps p.tables e below (T19.setTop (mkF m 145 #[iv p0, iv p1, iv p2, iv p3, iv p4, iv p5, iv x0, iv x1, iv x2, iv x3, iv y0, iv y1, iv y2, iv y3, iv kk, rv ob15, .unset, .unset, .unset, .unset, .unset, .unset] [(.int y1), (.int y0), (.ref ob19), (.ref ob19)])) _
            refine XS.iload X19.here hx rfl (hb hby at_145) rfl ?_
            refine XS.iload X19.here hx rfl (hb hby at_147) rfl ?_
            show Steps p.tables e below (T19.setTop (mkF m 149 #[iv p0, iv p1, iv p2, iv p3, iv p4, iv p5, iv x0, iv x1, iv x2, iv x3, iv y0, iv y1, iv y2, iv y3, iv kk, rv ob15, .unset, .unset, .unset, .unset, .unset, .unset] [(.int y3), (.int y2), (.int y1), (.int y0), (.ref ob19), (.ref ob19)])) _
            exact k
          refine own_lift sg21 ?_
          show own_Go p.tables e below (T19.setTop (mkF m 149 #[iv p0, iv p1, iv p2, iv p3, iv p4, iv p5, iv x0, iv x1, iv x2, iv x3, iv y0, iv y1, iv y2, iv y3, iv kk, rv ob15, .unset, .unset, .unset, .unset, .unset, .unset] [(.int y3), (.int y2), (.int y1), (.int y0), (.ref ob19), (.ref ob19)])) _
          obtain ⟨_, _, ⟨T22, Lx22, kx22, nx22⟩, -, X22, ⟨Lc22, hQ22, lx22, yx22, zx22⟩, st22⟩ := X19.specialBack hx (y := (⟨"com/example/halyard/halyard/core/mal/TypeId", "<init>", "(IIII)V"⟩ : MethodName)) rfl hown (mvT hZ (wd hw 4 rfl)) (mvT hZ (wd hw 5 rfl)) (mvT hZ (wd hw 6 rfl)) (by decide) (backOf (W := 1) (rmInit l Z a0 hw [] ob19 y0 y1 y2 y3 h19 n0 Z19 Fn19_14 Fn19_16 Fn19_18 Fn19_20 Ax19 ge19 ry0.1 ry0.2 ry1.1 ry1.2 ry2.1 ry2.2 ry3.1 ry3.2) hZ (wd hw 6 rfl) (wd hw 3 rfl) (by decide) (by decide)) (g := (mkF m 149 #[iv p0, iv p1, iv p2, iv p3, iv p4, iv p5, iv x0, iv x1, iv x2, iv x3, iv y0, iv y1, iv y2, iv y3, iv kk, rv ob15, .unset, .unset, .unset, .unset, .unset, .unset] [(.int y3), (.int y2), (.int y1), (.int y0), (.ref ob19), (.ref ob19)])) rfl (by rw [hml]; rfl) (Steps.refl _) (a := ob19) (argsL := [(.int y0), (.int y1), (.int y2), (.int y3)]) (rest := [(.ref ob19)]) (lenOf pd_0 rfl) rfl (by show 2 * 0 + _ ≤ _; exact Nat.le_of_eq rfl) (hb hby at_149) (fun _ _ => ⟨rfl, e19, (by decide : 2 + 0 ≤ _), (by decide : 8 + 0 ≤ _)⟩)
          dsimp only [Pt.U, Pt.locs, Pt.cells, Pt.slots] at X22 lx22 yx22 zx22 st22 hQ22
          subst lx22 yx22 zx22
          obtain ⟨rfl, N22q, p22_0, p22_1, p22_2, p22_3, p22_4, p22_5⟩ := hQ22
          have N22 := Fr.app N17 N22q
          have Z22 : n0 ≤ T22.heap.size := Nat.le_trans Z19 p22_0.1
          refine own_lift (fun t k => st22.trans k) ?_
          show own_Go p.tables e below (T22.setTop (mkF m 152 #[iv p0, iv p1, iv p2, iv p3, iv p4, iv p5, iv x0, iv x1, iv x2, iv x3, iv y0, iv y1, iv y2, iv y3, iv kk, rv ob15, .unset, .unset, .unset, .unset, .unset, .unset] [(.ref ob19)])) _
          have sg23 : ∀ t, Steps p.tables e below (T22.setTop (mkF m 155 #[iv p0, iv p1, iv p2, iv p3, iv p4, iv p5, iv x0, iv x1, iv x2, iv x3, iv y0, iv y1, iv y2, iv y3, iv kk, rv ob15, rv ob19, .unset, .unset, .unset, .unset, .unset] [(.int 2)])) t → Steps p.tables e below (T22.setTop (mkF m 152 #[iv p0, iv p1, iv p2, iv p3, iv p4, iv p5, iv x0, iv x1, iv x2, iv x3, iv y0, iv y1, iv y2, iv y3, iv kk, rv ob15, .unset, .unset, .unset, .unset, .unset, .unset] [(.ref ob19)])) t := by
            intro t k
            refine XS.astore X22.here hx rfl (hb hby at_152) rfl rfl (l' := #[iv p0, iv p1, iv p2, iv p3, iv p4, iv p5, iv x0, iv x1, iv x2, iv x3, iv y0, iv y1, iv y2, iv y3, iv kk, rv ob15, rv ob19, .unset, .unset, .unset, .unset, .unset]) rfl ?_
            show Steps p.tables e below (T22.setTop (mkF m 154 #[iv p0, iv p1, iv p2, iv p3, iv p4, iv p5, iv x0, iv x1, iv x2, iv x3, iv y0, iv y1, iv y2, iv y3, iv kk, rv ob15, rv ob19, .unset, .unset, .unset, .unset, .unset] [])) _
            refine XS.iconst X22.here hx rfl (hb hby at_154) ?_
            show Steps p.tables e below (T22.setTop (mkF m 155 #[iv p0, iv p1, iv p2, iv p3, iv p4, iv p5, iv x0, iv x1, iv x2, iv x3, iv y0, iv y1, iv y2, iv y3, iv kk, rv ob15, rv ob19, .unset, .unset, .unset, .unset, .unset] [(.int 2)])) _
            exact k
          refine own_lift sg23 ?_
          show own_Go p.tables e below (T22.setTop (mkF m 155 #[iv p0, iv p1, iv p2, iv p3, iv p4, iv p5, iv x0, iv x1, iv x2, iv x3, iv y0, iv y1, iv y2, iv y3, iv kk, rv ob15, rv ob19, .unset, .unset, .unset, .unset, .unset] [(.int 2)])) _
          obtain ⟨T24, h24, ka24, X24, e24, Ex24, Ax24, st24⟩ := newP X22 hx hZ (wd hw 21 rfl) rfl (g := (mkF m 155 #[iv p0, iv p1, iv p2, iv p3, iv p4, iv p5, iv x0, iv x1, iv x2, iv x3, iv y0, iv y1, iv y2, iv y3, iv kk, rv ob15, rv ob19, .unset, .unset, .unset, .unset, .unset] [(.int 2)])) rfl (hb hby at_155) rfl (by decide) (cap := 2) (by decide) (by decide) (by decide) (by decide)
          obtain ⟨ob24, g24⟩ : ∃ z, z = T22.heap.size := ⟨_, rfl⟩
          rw [← g24] at Ax24 st24
          have Fc25 : Exa Z T22.heap ob15 "com/example/halyard/halyard/core/mal/TypeId" := ((p17_1.ext Ex19).keep p22_0)
          have ne26 : ob15 ≠ ob24 := Nat.ne_of_lt (Nat.lt_of_lt_of_le Fc25.lt (Nat.le_of_eq g24.symm))
          have ne27 : ob19 ≠ ob24 := Nat.ne_of_lt (Nat.lt_of_lt_of_le p22_1.lt (Nat.le_of_eq g24.symm))
          have Z24 : n0 ≤ h24.size := Nat.le_trans Z22 Ex24.1
          have ge24 : n0 ≤ ob24 := Nat.le_trans Z22 (Nat.le_of_eq g24.symm)
          have Vn24 : Arv Z h24 ob24 ka24 .char (2 : Int32) [(.int 0), (.int 0)] (.int 0) := (Arv.new Ax24 (by decide)).pad (pad_rep [] (.int 0) 2)
          refine own_lift st24 ?_
          show own_Go p.tables e below (T24.setTop (mkF m 157 #[iv p0, iv p1, iv p2, iv p3, iv p4, iv p5, iv x0, iv x1, iv x2, iv x3, iv y0, iv y1, iv y2, iv y3, iv kk, rv ob15, rv ob19, .unset, .unset, .unset, .unset, .unset] [(.ref ob24)])) _
          have sg28 : ∀ t, Steps p.tables e below (T24.setTop (mkF m 169 #[iv p0, iv p1, iv p2, iv p3, iv p4, iv p5, iv x0, iv x1, iv x2, iv x3, iv y0, iv y1, iv y2, iv y3, iv kk, rv ob15, rv ob19, rv ob24, .unset, .unset, .unset, .unset] [(.int ((p4 &&& (255 : Int32)).toUInt32.toUInt16.toUInt32.toInt32)), (.int 0), (.ref ob24)])) t → Steps p.tables e below (T24.setTop (mkF m 157 #[iv p0, iv p1, iv p2, iv p3, iv p4, iv p5, iv x0, iv x1, iv x2, iv x3, iv y0, iv y1, iv y2, iv y3, iv kk, rv ob15, rv ob19, .unset, .unset, .unset, .unset, .unset] [(.ref ob24)])) t := by
            intro t k
            refine XS.astore X24.here hx rfl (hb hby at_157) rfl rfl (l' := #[iv p0, iv p1, iv p2, iv p3, iv p4, iv p5, iv x0, iv x1, iv x2, iv x3, iv y0, iv y1, iv y2, iv y3, iv kk, rv ob15, rv ob19, rv ob24, .unset, .unset, .unset, .unset]) rfl ?_
            show Steps p.tables e below (T24.setTop (mkF m 159 #[iv p0, iv p1, iv p2, iv p3, iv p4, iv p5, iv x0, iv x1, iv x2, iv x3, iv y0, iv y1, iv y2, iv y3, iv kk, rv ob15, rv ob19, rv ob24, .unset, .unset, .unset, .unset] [])) _
            refine XS.aload X24.here hx rfl (hb hby at_159) rfl rfl ?_
            refine XS.iconst X24.here hx rfl (hb hby at_161) ?_
            show Steps p.tables e below (T24.setTop (mkF m 162 #[iv p0, iv p1, iv p2, iv p3, iv p4, iv p5, iv x0, iv x1, iv x2, iv x3, iv y0, iv y1, iv y2, iv y3, iv kk, rv ob15, rv ob19, rv ob24, .unset, .unset, .unset, .unset] [(.int 0), (.ref ob24)])) _
            refine XS.iload X24.here hx rfl (hb hby at_162) rfl ?_
            refine XS.sipush X24.here hx rfl (hb hby at_164) ?_
            show Steps p.tables e below (T24.setTop (mkF m 167 #[iv p0, iv p1, iv p2, iv p3, iv p4, iv p5, iv x0, iv x1, iv x2, iv x3, iv y0, iv y1, iv y2, iv y3, iv kk, rv ob15, rv ob19, rv ob24, .unset, .unset, .unset, .unset] [(.int 255), (.int p4), (.int 0), (.ref ob24)])) _
            refine XS.iand X24.here hx rfl (hb hby at_167) rfl ?_
            refine XS.i2c X24.here hx rfl (hb hby at_168) rfl ?_
            show Steps p.tables e below (T24.setTop (mkF m 169 #[iv p0, iv p1, iv p2, iv p3, iv p4, iv p5, iv x0, iv x1, iv x2, iv x3, iv y0, iv y1, iv y2, iv y3, iv kk, rv ob15, rv ob19, rv ob24, .unset, .unset, .unset, .unset] [(.int ((p4 &&& (255 : Int32)).toUInt32.toUInt16.toUInt32.toInt32)), (.int 0), (.ref ob24)])) _
            exact k
          refine own_lift sg28 ?_
          show own_Go p.tables e below (T24.setTop (mkF m 169 #[iv p0, iv p1, iv p2, iv p3, iv p4, iv p5, iv x0, iv x1, iv x2, iv x3, iv y0, iv y1, iv y2, iv y3, iv kk, rv ob15, rv ob19, rv ob24, .unset, .unset, .unset, .unset] [(.int ((p4 &&& (255 : Int32)).toUInt32.toUInt16.toUInt32.toInt32)), (.int 0), (.ref ob24)])) _
          obtain ⟨cl29, Ar29, qx29, Sx29, N29', H29', G29'⟩ := id (Vn24)
          have hin29 : ¬ ((0 : Int32) < 0 ∨ cl29.slots.size ≤ ((0 : Int32)).toNatClampNeg) := inb_of Sx29 ⟨(by decide : ¬ ((0 : Int32) < (0 : Int32))), (by decide : (0 : Int32) < (2 : Int32))⟩
          obtain ⟨T30, h30, X30, e30, W30, st30⟩ := stC X24 hx hZ e24 Ar29 (j := (0 : Int32)) hin29 (g := (mkF m 169 #[iv p0, iv p1, iv p2, iv p3, iv p4, iv p5, iv x0, iv x1, iv x2, iv x3, iv y0, iv y1, iv y2, iv y3, iv kk, rv ob15, rv ob19, rv ob24, .unset, .unset, .unset, .unset] [(.int ((p4 &&& (255 : Int32)).toUInt32.toUInt16.toUInt32.toInt32)), (.int 0), (.ref ob24)])) rfl rfl (hb hby at_169)
          have N30 := Fr.snoc X30 N22 ge24
          have Z30 : n0 ≤ h30.size := Nat.le_trans Z24 (Nat.le_of_eq W30.size.symm)
          have Vn30 : Arv Z h30 ob24 ka24 .char (2 : Int32) [(.int (nar .char ((p4 &&& (255 : Int32)).toUInt32.toUInt16.toUInt32.toInt32))), (.int 0)] (.int 0) := Arv.set Ar29 qx29 Sx29 N29' H29' G29' (fits_nar_char _) W30 0 rfl (Nat.le_of_ble_eq_true rfl)
          refine own_lift st30 ?_
          show own_Go p.tables e below (T30.setTop (mkF m 170 #[iv p0, iv p1, iv p2, iv p3, iv p4, iv p5, iv x0, iv x1, iv x2, iv x3, iv y0, iv y1, iv y2, iv y3, iv kk, rv ob15, rv ob19, rv ob24, .unset, .unset, .unset, .unset] [])) _
          have sg31 : ∀ t, Steps p.tables e below (T30.setTop (mkF m 183 #[iv p0, iv p1, iv p2, iv p3, iv p4, iv p5, iv x0, iv x1, iv x2, iv x3, iv y0, iv y1, iv y2, iv y3, iv kk, rv ob15, rv ob19, rv ob24, .unset, .unset, .unset, .unset] [(.int ((((p4.toUInt32 >>> ((8 : Int32) &&& 31).toUInt32).toInt32) &&& (255 : Int32)).toUInt32.toUInt16.toUInt32.toInt32)), (.int 1), (.ref ob24)])) t → Steps p.tables e below (T30.setTop (mkF m 170 #[iv p0, iv p1, iv p2, iv p3, iv p4, iv p5, iv x0, iv x1, iv x2, iv x3, iv y0, iv y1, iv y2, iv y3, iv kk, rv ob15, rv ob19, rv ob24, .unset, .unset, .unset, .unset] [])) t := by
            intro t k
            refine XS.aload X30.here hx rfl (hb hby at_170) rfl rfl ?_
            show Steps p.tables e below (T30.setTop (mkF m 172 #[iv p0, iv p1, iv p2, iv p3, iv p4, iv p5, iv x0, iv x1, iv x2, iv x3, iv y0, iv y1, iv y2, iv y3, iv kk, rv ob15, rv ob19, rv ob24, .unset, .unset, .unset, .unset] [(.ref ob24)])) _
            refine XS.iconst X30.here hx rfl (hb hby at_172) ?_
            refine XS.iload X30.here hx rfl (hb hby at_173) rfl ?_
            show Steps p.tables e below (T30.setTop (mkF m 175 #[iv p0, iv p1, iv p2, iv p3, iv p4, iv p5, iv x0, iv x1, iv x2, iv x3, iv y0, iv y1, iv y2, iv y3, iv kk, rv ob15, rv ob19, rv ob24, .unset, .unset, .unset, .unset] [(.int p4), (.int 1), (.ref ob24)])) _
            refine XS.bipush X30.here hx rfl (hb hby at_175) ?_
            refine XS.iushr X30.here hx rfl (hb hby at_177) rfl ?_
            show Steps p.tables e below (T30.setTop (mkF m 178 #[iv p0, iv p1, iv p2, iv p3, iv p4, iv p5, iv x0, iv x1, iv x2, iv x3, iv y0, iv y1, iv y2, iv y3, iv kk, rv ob15, rv ob19, rv ob24, .unset, .unset, .unset, .unset] [(.int ((p4.toUInt32 >>> ((8 : Int32) &&& 31).toUInt32).toInt32)), (.int 1), (.ref ob24)])) _
            refine XS.sipush X30.here hx rfl (hb hby at_178) ?_
            refine XS.iand X30.here hx rfl (hb hby at_181) rfl ?_
            show Steps p.tables e below (T30.setTop (mkF m 182 #[iv p0, iv p1, iv p2, iv p3, iv p4, iv p5, iv x0, iv x1, iv x2, iv x3, iv y0, iv y1, iv y2, iv y3, iv kk, rv ob15, rv ob19, rv ob24, .unset, .unset, .unset, .unset] [(.int (((p4.toUInt32 >>> ((8 : Int32) &&& 31).toUInt32).toInt32) &&& (255 : Int32))), (.int 1), (.ref ob24)])) _
            refine XS.i2c X30.here hx rfl (hb hby at_182) rfl ?_
            show Steps p.tables e below (T30.setTop (mkF m 183 #[iv p0, iv p1, iv p2, iv p3, iv p4, iv p5, iv x0, iv x1, iv x2, iv x3, iv y0, iv y1, iv y2, iv y3, iv kk, rv ob15, rv ob19, rv ob24, .unset, .unset, .unset, .unset] [(.int ((((p4.toUInt32 >>> ((8 : Int32) &&& 31).toUInt32).toInt32) &&& (255 : Int32)).toUInt32.toUInt16.toUInt32.toInt32)), (.int 1), (.ref ob24)])) _
            exact k
          refine own_lift sg31 ?_
          show own_Go p.tables e below (T30.setTop (mkF m 183 #[iv p0, iv p1, iv p2, iv p3, iv p4, iv p5, iv x0, iv x1, iv x2, iv x3, iv y0, iv y1, iv y2, iv y3, iv kk, rv ob15, rv ob19, rv ob24, .unset, .unset, .unset, .unset] [(.int ((((p4.toUInt32 >>> ((8 : Int32) &&& 31).toUInt32).toInt32) &&& (255 : Int32)).toUInt32.toUInt16.toUInt32.toInt32)), (.int 1), (.ref ob24)])) _
          obtain ⟨cl32, Ar32, qx32, Sx32, N32', H32', G32'⟩ := id (Vn30)
          have hin32 : ¬ ((1 : Int32) < 0 ∨ cl32.slots.size ≤ ((1 : Int32)).toNatClampNeg) := inb_of Sx32 ⟨(by decide : ¬ ((1 : Int32) < (0 : Int32))), (by decide : (1 : Int32) < (2 : Int32))⟩
          obtain ⟨T33, h33, X33, e33, W33, st33⟩ := stC X30 hx hZ e30 Ar32 (j := (1 : Int32)) hin32 (g := (mkF m 183 #[iv p0, iv p1, iv p2, iv p3, iv p4, iv p5, iv x0, iv x1, iv x2, iv x3, iv y0, iv y1, iv y2, iv y3, iv kk, rv ob15, rv ob19, rv ob24, .unset, .unset, .unset, .unset] [(.int ((((p4.toUInt32 >>> ((8 : Int32) &&& 31).toUInt32).toInt32) &&& (255 : Int32)).toUInt32.toUInt16.toUInt32.toInt32)), (.int 1), (.ref ob24)])) rfl rfl (hb hby at_183)
          have N33 := Fr.snoc X33 N30 ge24
          have Z33 : n0 ≤ h33.size := Nat.le_trans Z30 (Nat.le_of_eq W33.size.symm)
          have Vn33 : Arv Z h33 ob24 ka24 .char (2 : Int32) [(.int (nar .char ((p4 &&& (255 : Int32)).toUInt32.toUInt16.toUInt32.toInt32))), (.int (nar .char ((((p4.toUInt32 >>> ((8 : Int32) &&& 31).toUInt32).toInt32) &&& (255 : Int32)).toUInt32.toUInt16.toUInt32.toInt32)))] (.int 0) := Arv.set Ar32 qx32 Sx32 N32' H32' G32' (fits_nar_char _) W33 1 rfl (Nat.le_of_ble_eq_true rfl)
          refine own_lift st33 ?_
          show own_Go p.tables e below (T33.setTop (mkF m 184 #[iv p0, iv p1, iv p2, iv p3, iv p4, iv p5, iv x0, iv x1, iv x2, iv x3, iv y0, iv y1, iv y2, iv y3, iv kk, rv ob15, rv ob19, rv ob24, .unset, .unset, .unset, .unset] [])) _
          obtain ⟨T34, h34, X34, e34, Ex34, Ax34, Dx34, Ux34, st34⟩ := newO X33 hx hZ hown (wd hw 22 rfl) (wd hw 23 rfl) (wd hw 24 rfl) e33 (g := (mkF m 184 #[iv p0, iv p1, iv p2, iv p3, iv p4, iv p5, iv x0, iv x1, iv x2, iv x3, iv y0, iv y1, iv y2, iv y3, iv kk, rv ob15, rv ob19, rv ob24, .unset, .unset, .unset, .unset] [])) rfl (hb hby at_184) (by decide) (by decide)
          obtain ⟨ob34, g34⟩ : ∃ z, z = h33.size := ⟨_, rfl⟩
          rw [← g34] at Ax34 Dx34 Ux34 st34
          have Fc35 : Exa Z h33 ob15 "com/example/halyard/halyard/core/mal/TypeId" := (((Fc25.ext Ex24).wr W30).wr W33)
          have ne36 : ob15 ≠ ob34 := Nat.ne_of_lt (Nat.lt_of_lt_of_le Fc35.lt (Nat.le_of_eq g34.symm))
          have Fc37 : Exa Z h33 ob19 "com/example/halyard/halyard/core/mal/TypeId" := (((p22_1.ext Ex24).wr W30).wr W33)
          have ne38 : ob19 ≠ ob34 := Nat.ne_of_lt (Nat.lt_of_lt_of_le Fc37.lt (Nat.le_of_eq g34.symm))
          have ne39 : ob24 ≠ ob34 := Nat.ne_of_lt (Nat.lt_of_lt_of_le Vn33.lt (Nat.le_of_eq g34.symm))
          have Z34 : n0 ≤ h34.size := Nat.le_trans Z33 Ex34.1
          have ge34 : n0 ≤ ob34 := Nat.le_trans Z33 (Nat.le_of_eq g34.symm)
          have Fn34_46 : Fld Z h34 ob34 "java/lang/String" "coder" "B" (.int 0) := Dx34 (Or.inr (wd hw 46 rfl)) (ty := .byte) (by decide)
          have Fn34_48 : Fld Z h34 ob34 "java/lang/String" "value" "[B" .null := Dx34 (Or.inr (wd hw 48 rfl)) (ty := (.array .byte)) (by decide)
          refine own_lift st34 ?_
          show own_Go p.tables e below (T34.setTop (mkF m 187 #[iv p0, iv p1, iv p2, iv p3, iv p4, iv p5, iv x0, iv x1, iv x2, iv x3, iv y0, iv y1, iv y2, iv y3, iv kk, rv ob15, rv ob19, rv ob24, .unset, .unset, .unset, .unset] [(.ref ob34)])) _
          have sg40 : ∀ t, Steps p.tables e below (T34.setTop (mkF m 190 #[iv p0, iv p1, iv p2, iv p3, iv p4, iv p5, iv x0, iv x1, iv x2, iv x3, iv y0, iv y1, iv y2, iv y3, iv kk, rv ob15, rv ob19, rv ob24, .unset, .unset, .unset, .unset] [(.ref ob24), (.ref ob34), (.ref ob34)])) t → Steps p.tables e below (T34.setTop (mkF m 187 #[iv p0, iv p1, iv p2, iv p3, iv p4, iv p5, iv x0, iv x1, iv x2, iv x3, iv y0, iv y1, iv y2, iv y3, iv kk, rv ob15, rv ob19, rv ob24, .unset, .unset, .unset, .unset] [(.ref ob34)])) t := by
            intro t k
            refine XS.dup X34.here hx rfl (hb hby at_187) rfl rfl ?_
            show Steps p.tables e below (T34.setTop (mkF m 188 #[iv p0, iv p1, iv p2, iv p3, iv p4, iv p5, iv x0, iv x1, iv x2, iv x3, iv y0, iv y1, iv y2, iv y3, iv kk, rv ob15, rv ob19, rv ob24, .unset, .unset, .unset, .unset] [(.ref ob34), (.ref ob34)])) _
            refine XS.aload X34.here hx rfl (hb hby at_188) rfl rfl ?_
            show Steps p.tables e below (T34.setTop (mkF m 190 #[iv p0, iv p1, iv p2, iv p3, iv p4, iv p5, iv x0, iv x1, iv x2, iv x3, iv y0, iv y1, iv y2, iv y3, iv kk, rv ob15, rv ob19, rv ob24, .unset, .unset, .unset, .unset] [(.ref ob24), (.ref ob34), (.ref ob34)])) _
            exact k
          refine own_lift sg40 ?_
          show own_Go p.tables e below (T34.setTop (mkF m 190 #[iv p0, iv p1, iv p2, iv p3, iv p4, iv p5, iv x0, iv x1, iv x2, iv x3, iv y0, iv y1, iv y2, iv y3, iv kk, rv ob15, rv ob19, rv ob24, .unset, .unset, .unset, .unset] [(.ref ob24), (.ref ob34), (.ref ob34)])) _
          have Fc41 : Arv Z h34 ob24 ka24 .char (2 : Int32) [(.int (nar .char ((p4 &&& (255 : Int32)).toUInt32.toUInt16.toUInt32.toInt32))), (.int (nar .char ((((p4.toUInt32 >>> ((8 : Int32) &&& 31).toUInt32).toInt32) &&& (255 : Int32)).toUInt32.toUInt16.toUInt32.toInt32)))] (.int 0) := (Vn33.ext Ex34)
          have Fc42 : Sta Z h34 "java/lang/String" "COMPACT_STRINGS" "Z" (.int cs) := (((((own_Sta_keep ((own_Sta_keep (S_cs.ext Ex15) p17_0 (allS (own_plain Ax15) all0)).ext Ex19) p22_0 (allS (own_plain Ax19) all0)).ext Ex24).wr W30).wr W33).ext Ex34)
          have hws43 : ∀ d ∈ StrChars.Road.words, d.before a0 Z = true := fun d hd => hw d (own_words d hd)
          have hlat43 : ∀ c ∈ [(nar .char ((p4 &&& (255 : Int32)).toUInt32.toUInt16.toUInt32.toInt32)), (nar .char ((((p4.toUInt32 >>> ((8 : Int32) &&& 31).toUInt32).toInt32) &&& (255 : Int32)).toUInt32.toUInt16.toUInt32.toInt32))], ¬ c < 0 ∧ ¬ (255 : Int32) < c := own_lat p4
          obtain ⟨_, _, ⟨T43, Lx43, kx43, nx43⟩, -, X43, ⟨Lc43, hQ43, lx43, yx43, zx43⟩, st43⟩ := X34.specialBack hx (y := (⟨"java/lang/String", "<init>", "([C)V"⟩ : MethodName)) rfl hown (mvT hZ (wd hw 25 rfl)) (mvT hZ (wd hw 26 rfl)) (mvT hZ (wd hw 27 rfl)) (by decide) (StrChars.Road.backV (W := 1) hZ hws43 (kI := 4) (wd hw 23 rfl) (cs := [(nar .char ((p4 &&& (255 : Int32)).toUInt32.toUInt16.toUInt32.toInt32)), (nar .char ((((p4.toUInt32 >>> ((8 : Int32) &&& 31).toUInt32).toInt32) &&& (255 : Int32)).toUInt32.toUInt16.toUInt32.toInt32))]) (bs := [((nar .char ((p4 &&& (255 : Int32)).toUInt32.toUInt16.toUInt32.toInt32))).toInt8.toInt32, ((nar .char ((((p4.toUInt32 >>> ((8 : Int32) &&& 31).toUInt32).toInt32) &&& (255 : Int32)).toUInt32.toUInt16.toUInt32.toInt32))).toInt8.toInt32]) (n := 2) ge34 Z34 Ax34 Fn34_48 Fn34_46 Fc41 Fc42 P_cs rfl rfl (by decide) (by decide) hlat43 rfl (by decide) (by decide)) (g := (mkF m 190 #[iv p0, iv p1, iv p2, iv p3, iv p4, iv p5, iv x0, iv x1, iv x2, iv x3, iv y0, iv y1, iv y2, iv y3, iv kk, rv ob15, rv ob19, rv ob24, .unset, .unset, .unset, .unset] [(.ref ob24), (.ref ob34), (.ref ob34)])) rfl (by rw [hml]; rfl) (Steps.refl _) (a := ob34) (argsL := [(.ref ob24)]) (rest := [(.ref ob34)]) (lenOf pd_1 rfl) rfl (by show 2 * 0 + _ ≤ _; exact Nat.le_of_eq rfl) (hb hby at_190) (fun _ _ => ⟨rfl, e34, (by decide : 4 + 1 ≤ _), (by decide : 14 + 2 ≤ _)⟩)
          dsimp only [Pt.U, Pt.locs, Pt.cells, Pt.slots] at X43 lx43 yx43 zx43 st43 hQ43
          subst lx43 yx43 zx43
          obtain ⟨rfl, N43q, Kq43, Eq43, Cq43, tb43, kb43, gt43, gh43, nt43, Vq43, Aq43⟩ := hQ43
          have N43 := Fr.app N33 N43q
          have Fc44 : Exa Z h34 ob15 "com/example/halyard/halyard/core/mal/TypeId" := (Fc35.ext Ex34)
          have ne45 : ob15 ≠ tb43 := Nat.ne_of_lt (Nat.lt_of_lt_of_le Fc44.lt gh43)
          have Fc46 : Exa Z h34 ob19 "com/example/halyard/halyard/core/mal/TypeId" := (Fc37.ext Ex34)
          have ne47 : ob19 ≠ tb43 := Nat.ne_of_lt (Nat.lt_of_lt_of_le Fc46.lt gh43)
          have ne48 : ob24 ≠ tb43 := Nat.ne_of_lt (Nat.lt_of_lt_of_le Fc41.lt gh43)
          have ne49 : ob34 ≠ tb43 := Nat.ne_of_lt (Nat.lt_of_lt_of_le Ax34.lt gh43)
          have Z43 : n0 ≤ T43.heap.size := Nat.le_trans Z34 Kq43.1
          refine own_lift (fun t k => st43.trans k) ?_
          show own_Go p.tables e below (T43.setTop (mkF m 193 #[iv p0, iv p1, iv p2, iv p3, iv p4, iv p5, iv x0, iv x1, iv x2, iv x3, iv y0, iv y1, iv y2, iv y3, iv kk, rv ob15, rv ob19, rv ob24, .unset, .unset, .unset, .unset] [(.ref ob34)])) _
          have sg50 : ∀ t, Steps p.tables e below (T43.setTop (mkF m 269 #[iv p0, iv p1, iv p2, iv p3, iv p4, iv p5, iv x0, iv x1, iv x2, iv x3, iv y0, iv y1, iv y2, iv y3, iv kk, rv ob15, rv ob19, rv ob24, rv ob34, rv ob34, iv 0, .unset] [(.ref ob34), (.ref ob15)])) t → Steps p.tables e below (T43.setTop (mkF m 193 #[iv p0, iv p1, iv p2, iv p3, iv p4, iv p5, iv x0, iv x1, iv x2, iv x3, iv y0, iv y1, iv y2, iv y3, iv kk, rv ob15, rv ob19, rv ob24, .unset, .unset, .unset, .unset] [(.ref ob34)])) t := by
            intro t k
            refine XS.astore X43.here hx rfl (hb hby at_193) rfl rfl (l' := #[iv p0, iv p1, iv p2, iv p3, iv p4, iv p5, iv x0, iv x1, iv x2, iv x3, iv y0, iv y1, iv y2, iv y3, iv kk, rv ob15, rv ob19, rv ob24, rv ob34, .unset, .unset, .unset]) rfl ?_
            show Steps p.tables e below (T43.setTop (mkF m 195 #[iv p0, iv p1, iv p2, iv p3, iv p4, iv p5, iv x0, iv x1, iv x2, iv x3, iv y0, iv y1, iv y2, iv y3, iv kk, rv ob15, rv ob19, rv ob24, rv ob34, .unset, .unset, .unset] [])) _
            refine XS.iload X43.here hx rfl (hb hby at_195) rfl ?_
            refine XS.iconst X43.here hx rfl (hb hby at_197) ?_
            show Steps p.tables e below (T43.setTop (mkF m 198 #[iv p0, iv p1, iv p2, iv p3, iv p4, iv p5, iv x0, iv x1, iv x2, iv x3, iv y0, iv y1, iv y2, iv y3, iv kk, rv ob15, rv ob19, rv ob24, rv ob34, .unset, .unset, .unset] [(.int 2), (.int kk)])) _
            refine XS.icmpYes X43.here hx rfl (pc0 := 198) (pc' := 208) rfl (hb hby at_198) rfl (flt k2).2.1 (by decide) (by decide) ?_
            refine XS.iload X43.here hx rfl (hb hby at_208) rfl ?_
            show Steps p.tables e below (T43.setTop (mkF m 210 #[iv p0, iv p1, iv p2, iv p3, iv p4, iv p5, iv x0, iv x1, iv x2, iv x3, iv y0, iv y1, iv y2, iv y3, iv kk, rv ob15, rv ob19, rv ob24, rv ob34, .unset, .unset, .unset] [(.int kk)])) _
            refine XS.iconst X43.here hx rfl (hb hby at_210) ?_
            refine XS.icmpYes X43.here hx rfl (pc0 := 211) (pc' := 220) rfl (hb hby at_211) rfl (feq k3).2 (by decide) (by decide) ?_
            show Steps p.tables e below (T43.setTop (mkF m 220 #[iv p0, iv p1, iv p2, iv p3, iv p4, iv p5, iv x0, iv x1, iv x2, iv x3, iv y0, iv y1, iv y2, iv y3, iv kk, rv ob15, rv ob19, rv ob24, rv ob34, .unset, .unset, .unset] [])) _
            refine XS.aload X43.here hx rfl (hb hby at_220) rfl rfl ?_
            refine XS.astore X43.here hx rfl (hb hby at_222) rfl rfl (l' := #[iv p0, iv p1, iv p2, iv p3, iv p4, iv p5, iv x0, iv x1, iv x2, iv x3, iv y0, iv y1, iv y2, iv y3, iv kk, rv ob15, rv ob19, rv ob24, rv ob34, rv ob34, .unset, .unset]) rfl ?_
            show Steps p.tables e below (T43.setTop (mkF m 224 #[iv p0, iv p1, iv p2, iv p3, iv p4, iv p5, iv x0, iv x1, iv x2, iv x3, iv y0, iv y1, iv y2, iv y3, iv kk, rv ob15, rv ob19, rv ob24, rv ob34, rv ob34, .unset, .unset] [])) _
            refine XS.iload X43.here hx rfl (hb hby at_224) rfl ?_
            refine XS.iconst X43.here hx rfl (hb hby at_226) ?_
            show Steps p.tables e below (T43.setTop (mkF m 227 #[iv p0, iv p1, iv p2, iv p3, iv p4, iv p5, iv x0, iv x1, iv x2, iv x3, iv y0, iv y1, iv y2, iv y3, iv kk, rv ob15, rv ob19, rv ob24, rv ob34, rv ob34, .unset, .unset] [(.int 2), (.int kk)])) _
            refine XS.icmpYes X43.here hx rfl (pc0 := 227) (pc' := 262) rfl (hb hby at_227) rfl (flt k2).2.1 (by decide) (by decide) ?_
            refine XS.iconst X43.here hx rfl (hb hby at_262) ?_
            show Steps p.tables e below (T43.setTop (mkF m 263 #[iv p0, iv p1, iv p2, iv p3, iv p4, iv p5, iv x0, iv x1, iv x2, iv x3, iv y0, iv y1, iv y2, iv y3, iv kk, rv ob15, rv ob19, rv ob24, rv ob34, rv ob34, .unset, .unset] [(.int 0)])) _
            refine XS.istore X43.here hx rfl (hb hby at_263) rfl (l' := #[iv p0, iv p1, iv p2, iv p3, iv p4, iv p5, iv x0, iv x1, iv x2, iv x3, iv y0, iv y1, iv y2, iv y3, iv kk, rv ob15, rv ob19, rv ob24, rv ob34, rv ob34, iv 0, .unset]) rfl ?_
            refine XS.aload X43.here hx rfl (hb hby at_265) rfl rfl ?_
            show Steps p.tables e below (T43.setTop (mkF m 267 #[iv p0, iv p1, iv p2, iv p3, iv p4, iv p5, iv x0, iv x1, iv x2, iv x3, iv y0, iv y1, iv y2, iv y3, iv kk, rv ob15, rv ob19, rv ob24, rv ob34, rv ob34, iv 0, .unset] [(.ref ob15)])) _
            refine XS.aload X43.here hx rfl (hb hby at_267) rfl rfl ?_
            show Steps p.tables e below (T43.setTop (mkF m 269 #[iv p0, iv p1, iv p2, iv p3, iv p4, iv p5, iv x0, iv x1, iv x2, iv x3, iv y0, iv y1, iv y2, iv y3, iv kk, rv ob15, rv ob19, rv ob24, rv ob34, rv ob34, iv 0, .unset] [(.ref ob34), (.ref ob15)])) _
            exact k
          refine own_lift sg50 ?_
          show own_Go p.tables e below (T43.setTop (mkF m 269 #[iv p0, iv p1, iv p2, iv p3, iv p4, iv p5, iv x0, iv x1, iv x2, iv x3, iv y0, iv y1, iv y2, iv y3, iv kk, rv ob15, rv ob19, rv ob24, rv ob34, rv ob34, iv 0, .unset] [(.ref ob34), (.ref ob15)])) _
          have Fc52 : Exa Z T43.heap ob15 "com/example/halyard/halyard/core/mal/TypeId" := (Fc44.keep Kq43)
          obtain ⟨cq51, kq51, q51a, q51b, q51c⟩ := isOf hZ rfl Fc52
          obtain ⟨_, _, ⟨T51, Lx51, kx51, nx51⟩, -, X51, ⟨Lc51, hQ51, lx51, yx51, zx51⟩, st51⟩ := X43.virtualBack hx (y := (⟨"com/example/halyard/halyard/core/mal/TypeId", "equals", "(Ljava/lang/Object;)Z"⟩ : MethodName)) (z := (⟨"com/example/halyard/halyard/core/mal/TypeId", "equals", "(Ljava/lang/Object;)Z"⟩ : MethodName)) hown (mvT hZ (wd hw 49 rfl)) (mvT hZ (wd hw 50 rfl)) (notFace_of_selects (args := #[]) (mvT hZ (wd hw 52 rfl))) (mvT hZ (wd hw 52 rfl)) (mvT hZ (wd hw 51 rfl)) (by decide) (backOf (W := 0) (rmEqStr l Z a0 hw [] ob15 ob34 T43.heap n0 Z43 Eq43) hZ (wd hw 53 rfl) (wd hw 3 rfl) (by decide) (by decide)) q51a q51c (g := (mkF m 269 #[iv p0, iv p1, iv p2, iv p3, iv p4, iv p5, iv x0, iv x1, iv x2, iv x3, iv y0, iv y1, iv y2, iv y3, iv kk, rv ob15, rv ob19, rv ob24, rv ob34, rv ob34, iv 0, .unset] [(.ref ob34), (.ref ob15)])) rfl (by rw [hml]; rfl) (Steps.refl _) (argsL := [(.ref ob34)]) (rest := []) (lenOf pd_2 rfl) rfl (by show 2 * 0 + _ ≤ _; exact Nat.le_of_eq rfl) (hb hby at_269) (fun _ _ => ⟨rfl, rfl, (by decide : 5 + 0 ≤ _), (by decide : 16 + 0 ≤ _)⟩)
          dsimp only [Pt.U, Pt.locs, Pt.cells, Pt.slots] at X51 lx51 yx51 zx51 st51 hQ51
          subst lx51 yx51 zx51
          obtain ⟨rfl, N51q, e51⟩ := hQ51
          have N51 := Fr.app N43 N51q
          refine own_lift (fun t k => st51.trans k) ?_
          show own_Go p.tables e below (T51.setTop (mkF m 272 #[iv p0, iv p1, iv p2, iv p3, iv p4, iv p5, iv x0, iv x1, iv x2, iv x3, iv y0, iv y1, iv y2, iv y3, iv kk, rv ob15, rv ob19, rv ob24, rv ob34, rv ob34, iv 0, .unset] [(.int 0)])) _
          have sg53 : ∀ t, Steps p.tables e below (T51.setTop (mkF m 323 #[iv p0, iv p1, iv p2, iv p3, iv p4, iv p5, iv x0, iv x1, iv x2, iv x3, iv y0, iv y1, iv y2, iv y3, iv kk, rv ob15, rv ob19, rv ob24, rv ob34, rv ob34, iv 0, iv 1] [(.ref ob15), (.ref ob15)])) t → Steps p.tables e below (T51.setTop (mkF m 272 #[iv p0, iv p1, iv p2, iv p3, iv p4, iv p5, iv x0, iv x1, iv x2, iv x3, iv y0, iv y1, iv y2, iv y3, iv kk, rv ob15, rv ob19, rv ob24, rv ob34, rv ob34, iv 0, .unset] [(.int 0)])) t := by
            intro t k
            refine XS.iload X51.here hx rfl (hb hby at_272) rfl ?_
            show Steps p.tables e below (T51.setTop (mkF m 274 #[iv p0, iv p1, iv p2, iv p3, iv p4, iv p5, iv x0, iv x1, iv x2, iv x3, iv y0, iv y1, iv y2, iv y3, iv kk, rv ob15, rv ob19, rv ob24, rv ob34, rv ob34, iv 0, .unset] [(.int 0), (.int 0)])) _
            refine XS.icmpNo X51.here hx rfl (hb hby at_274) rfl (teq (by decide : (0 : Int32) = (0 : Int32))).2 ?_
            refine XS.iconst X51.here hx rfl (hb hby at_277) ?_
            show Steps p.tables e below (T51.setTop (mkF m 278 #[iv p0, iv p1, iv p2, iv p3, iv p4, iv p5, iv x0, iv x1, iv x2, iv x3, iv y0, iv y1, iv y2, iv y3, iv kk, rv ob15, rv ob19, rv ob24, rv ob34, rv ob34, iv 0, .unset] [(.int 1)])) _
            refine XS.goto X51.here hx rfl (pc0 := 278) (pc' := 282) rfl (hb hby at_278) (by decide) (by decide) ?_
            refine XS.istore X51.here hx rfl (hb hby at_282) rfl (l' := #[iv p0, iv p1, iv p2, iv p3, iv p4, iv p5, iv x0, iv x1, iv x2, iv x3, iv y0, iv y1, iv y2, iv y3, iv kk, rv ob15, rv ob19, rv ob24, rv ob34, rv ob34, iv 0, iv 1]) rfl ?_
            show Steps p.tables e below (T51.setTop (mkF m 284 #[iv p0, iv p1, iv p2, iv p3, iv p4, iv p5, iv x0, iv x1, iv x2, iv x3, iv y0, iv y1, iv y2, iv y3, iv kk, rv ob15, rv ob19, rv ob24, rv ob34, rv ob34, iv 0, iv 1] [])) _
            refine XS.iload X51.here hx rfl (hb hby at_284) rfl ?_
            refine XS.iconst X51.here hx rfl (hb hby at_286) ?_
            show Steps p.tables e below (T51.setTop (mkF m 287 #[iv p0, iv p1, iv p2, iv p3, iv p4, iv p5, iv x0, iv x1, iv x2, iv x3, iv y0, iv y1, iv y2, iv y3, iv kk, rv ob15, rv ob19, rv ob24, rv ob34, rv ob34, iv 0, iv 1] [(.int 2), (.int kk)])) _
            refine XS.icmpYes X51.here hx rfl (pc0 := 287) (pc' := 314) rfl (hb hby at_287) rfl (flt k2).2.1 (by decide) (by decide) ?_
            refine XS.iload X51.here hx rfl (hb hby at_314) rfl ?_
            show Steps p.tables e below (T51.setTop (mkF m 316 #[iv p0, iv p1, iv p2, iv p3, iv p4, iv p5, iv x0, iv x1, iv x2, iv x3, iv y0, iv y1, iv y2, iv y3, iv kk, rv ob15, rv ob19, rv ob24, rv ob34, rv ob34, iv 0, iv 1] [(.int 1)])) _
            refine XS.ifNo X51.here hx rfl (hb hby at_316) rfl ((if0 _ _).trans (feq (by decide : ¬ ((1 : Int32) = (0 : Int32)))).1) ?_
            refine XS.aload X51.here hx rfl (hb hby at_319) rfl rfl ?_
            show Steps p.tables e below (T51.setTop (mkF m 321 #[iv p0, iv p1, iv p2, iv p3, iv p4, iv p5, iv x0, iv x1, iv x2, iv x3, iv y0, iv y1, iv y2, iv y3, iv kk, rv ob15, rv ob19, rv ob24, rv ob34, rv ob34, iv 0, iv 1] [(.ref ob15)])) _
            refine XS.aload X51.here hx rfl (hb hby at_321) rfl rfl ?_
            show Steps p.tables e below (T51.setTop (mkF m 323 #[iv p0, iv p1, iv p2, iv p3, iv p4, iv p5, iv x0, iv x1, iv x2, iv x3, iv y0, iv y1, iv y2, iv y3, iv kk, rv ob15, rv ob19, rv ob24, rv ob34, rv ob34, iv 0, iv 1] [(.ref ob15), (.ref ob15)])) _
            exact k
          refine own_lift sg53 ?_
          show own_Go p.tables e below (T51.setTop (mkF m 323 #[iv p0, iv p1, iv p2, iv p3, iv p4, iv p5, iv x0, iv x1, iv x2, iv x3, iv y0, iv y1, iv y2, iv y3, iv kk, rv ob15, rv ob19, rv ob24, rv ob34, rv ob34, iv 0, iv 1] [(.ref ob15), (.ref ob15)])) _
          have Fc54 : Fld Z T43.heap ob15 "com/example/halyard/halyard/core/mal/TypeId" "area" "I" (.int x0) := (((((((p17_2.ext Ex19).keep p22_0 (ninS ne20 nin0)).ext Ex24).other W30 (Or.inl ne26)).other W33 (Or.inl ne26)).ext Ex34).keep Kq43 (ninS ne36 nin0))
          have Fc55 : Fld Z T43.heap ob15 "com/example/halyard/halyard/core/mal/TypeId" "service" "I" (.int x1) := (((((((p17_3.ext Ex19).keep p22_0 (ninS ne20 nin0)).ext Ex24).other W30 (Or.inl ne26)).other W33 (Or.inl ne26)).ext Ex34).keep Kq43 (ninS ne36 nin0))
          have Fc56 : Fld Z T43.heap ob15 "com/example/halyard/halyard/core/mal/TypeId" "areaVersion" "I" (.int x2) := (((((((p17_4.ext Ex19).keep p22_0 (ninS ne20 nin0)).ext Ex24).other W30 (Or.inl ne26)).other W33 (Or.inl ne26)).ext Ex34).keep Kq43 (ninS ne36 nin0))
          have Fc57 : Fld Z T43.heap ob15 "com/example/halyard/halyard/core/mal/TypeId" "shortFormPart" "I" (.int x3) := (((((((p17_5.ext Ex19).keep p22_0 (ninS ne20 nin0)).ext Ex24).other W30 (Or.inl ne26)).other W33 (Or.inl ne26)).ext Ex34).keep Kq43 (ninS ne36 nin0))
          obtain ⟨cq58, kq58, q58a, q58b, q58c⟩ := isOf hZ e51 Fc52
          obtain ⟨_, _, ⟨T58, Lx58, kx58, nx58⟩, -, X58, ⟨Lc58, hQ58, lx58, yx58, zx58⟩, st58⟩ := X51.virtualBack hx (y := (⟨"com/example/halyard/halyard/core/mal/TypeId", "equals", "(Ljava/lang/Object;)Z"⟩ : MethodName)) (z := (⟨"com/example/halyard/halyard/core/mal/TypeId", "equals", "(Ljava/lang/Object;)Z"⟩ : MethodName)) hown (mvT hZ (wd hw 49 rfl)) (mvT hZ (wd hw 50 rfl)) (notFace_of_selects (args := #[]) (mvT hZ (wd hw 52 rfl))) (mvT hZ (wd hw 52 rfl)) (mvT hZ (wd hw 51 rfl)) (by decide) (backOf (W := 0) (rmEq4 l Z a0 hw [] ob15 ob15 x0 x1 x2 x3 x0 x1 x2 x3 T43.heap n0 Z43 Fc54 Fc55 Fc56 Fc57 Fc54 Fc55 Fc56 Fc57 Fc52 (rfl : x0 = x0) (rfl : x1 = x1) (rfl : x2 = x2) (rfl : x3 = x3)) hZ (wd hw 53 rfl) (wd hw 3 rfl) (by decide) (by decide)) q58a q58c (g := (mkF m 323 #[iv p0, iv p1, iv p2, iv p3, iv p4, iv p5, iv x0, iv x1, iv x2, iv x3, iv y0, iv y1, iv y2, iv y3, iv kk, rv ob15, rv ob19, rv ob24, rv ob34, rv ob34, iv 0, iv 1] [(.ref ob15), (.ref ob15)])) rfl (by rw [hml]; rfl) (Steps.refl _) (argsL := [(.ref ob15)]) (rest := []) (lenOf pd_2 rfl) rfl (by show 2 * 0 + _ ≤ _; exact Nat.le_of_eq rfl) (hb hby at_323) (fun _ _ => ⟨rfl, e51, (by decide : 5 + 0 ≤ _), (by decide : 16 + 0 ≤ _)⟩)
          dsimp only [Pt.U, Pt.locs, Pt.cells, Pt.slots] at X58 lx58 yx58 zx58 st58 hQ58
          subst lx58 yx58 zx58
          obtain ⟨rfl, N58q, e58⟩ := hQ58
          have N58 := Fr.app N51 N58q
          refine own_lift (fun t k => st58.trans k) ?_
          show own_Go p.tables e below (T58.setTop (mkF m 326 #[iv p0, iv p1, iv p2, iv p3, iv p4, iv p5, iv x0, iv x1, iv x2, iv x3, iv y0, iv y1, iv y2, iv y3, iv kk, rv ob15, rv ob19, rv ob24, rv ob34, rv ob34, iv 0, iv 1] [(.int 1)])) _
          have sg59 : ∀ t, Steps p.tables e below (T58.setTop (mkF m 338 #[iv p0, iv p1, iv p2, iv p3, iv p4, iv p5, iv x0, iv x1, iv x2, iv x3, iv y0, iv y1, iv y2, iv y3, iv kk, rv ob15, rv ob19, rv ob24, rv ob34, rv ob34, iv 0, iv 1] [(.int 1)])) t → Steps p.tables e below (T58.setTop (mkF m 326 #[iv p0, iv p1, iv p2, iv p3, iv p4, iv p5, iv x0, iv x1, iv x2, iv x3, iv y0, iv y1, iv y2, iv y3, iv kk, rv ob15, rv ob19, rv ob24, rv ob34, rv ob34, iv 0, iv 1] [(.int 1)])) t := by
            intro t k
            refine XS.ifNo X58.here hx rfl (hb hby at_326) rfl ((if0 _ _).trans (feq (by decide : ¬ ((1 : Int32) = (0 : Int32)))).1) ?_
            show Steps p.tables e below (T58.setTop (mkF m 329 #[iv p0, iv p1, iv p2, iv p3, iv p4, iv p5, iv x0, iv x1, iv x2, iv x3, iv y0, iv y1, iv y2, iv y3, iv kk, rv ob15, rv ob19, rv ob24, rv ob34, rv ob34, iv 0, iv 1] [])) _
            refine XS.iconst X58.here hx rfl (hb hby at_329) ?_
            refine XS.goto X58.here hx rfl (pc0 := 330) (pc' := 334) rfl (hb hby at_330) (by decide) (by decide) ?_
            show Steps p.tables e below (T58.setTop (mkF m 334 #[iv p0, iv p1, iv p2, iv p3, iv p4, iv p5, iv x0, iv x1, iv x2, iv x3, iv y0, iv y1, iv y2, iv y3, iv kk, rv ob15, rv ob19, rv ob24, rv ob34, rv ob34, iv 0, iv 1] [(.int 1)])) _
            refine XS.istore X58.here hx rfl (hb hby at_334) rfl (l' := #[iv p0, iv p1, iv p2, iv p3, iv p4, iv p5, iv x0, iv x1, iv x2, iv x3, iv y0, iv y1, iv y2, iv y3, iv kk, rv ob15, rv ob19, rv ob24, rv ob34, rv ob34, iv 0, iv 1]) rfl ?_
            refine XS.iload X58.here hx rfl (hb hby at_336) rfl ?_
            show Steps p.tables e below (T58.setTop (mkF m 338 #[iv p0, iv p1, iv p2, iv p3, iv p4, iv p5, iv x0, iv x1, iv x2, iv x3, iv y0, iv y1, iv y2, iv y3, iv kk, rv ob15, rv ob19, rv ob24, rv ob34, rv ob34, iv 0, iv 1] [(.int 1)])) _
            exact k
          refine own_lift sg59 ?_
          show own_Go p.tables e below (T58.setTop (mkF m 338 #[iv p0, iv p1, iv p2, iv p3, iv p4, iv p5, iv x0, iv x1, iv x2, iv x3, iv y0, iv y1, iv y2, iv y3, iv kk, rv ob15, rv ob19, rv ob24, rv ob34, rv ob34, iv 0, iv 1] [(.int 1)])) _
          obtain ⟨fs, hr, hrun, hended, hW, hsame⟩ := X58.leave (v := some (.int 1)) (fun h => by rw [Bd.returns] at h; cases h)
          refine ⟨_, _, ?_, hrun, hended, _, _, rfl, ?_, ⟨_, rfl⟩, hW, hsame.mono (by decide) (by decide)⟩
          · exact retN X58 hx (t := .boolean) Bd.returns (by simp) (hb hby at_338) hr
          · show Q0 Z  h0 n0 _ T58.heap _
            rw [e58]
            exact ⟨rfl, N58⟩
        by_cases b : (p5 &&& (8 : Int32)) = (0 : Int32)
        · have sg60 : ∀ t, Steps p.tables e below (T10.setTop (mkF m 110 #[iv p0, iv p1, iv p2, iv p3, iv p4, iv p5, iv x0, iv x1, iv x2, iv x3, iv y0, iv y1, iv y2, .unset, .unset, .unset, .unset, .unset, .unset, .unset, .unset, .unset] [(.int ((p4 <<< ((8 : Int32) &&& 31)) >>> ((8 : Int32) &&& 31)))])) t → Steps p.tables e below (T10.setTop (mkF m 89 #[iv p0, iv p1, iv p2, iv p3, iv p4, iv p5, iv x0, iv x1, iv x2, iv x3, iv y0, iv y1, iv y2, .unset, .unset, .unset, .unset, .unset, .unset, .unset, .unset, .unset] [])) t := by
            intro t k
            refine XS.iload X10.here hx rfl (hb hby at_89) rfl ?_
            show Steps p.tables e below (T10.setTop (mkF m 91 #[iv p0, iv p1, iv p2, iv p3, iv p4, iv p5, iv x0, iv x1, iv x2, iv x3, iv y0, iv y1, iv y2, .unset, .unset, .unset, .unset, .unset, .unset, .unset, .unset, .unset] [(.int p5)])) _
            refine XS.bipush X10.here hx rfl (hb hby at_91) ?_
            refine XS.iand X10.here hx rfl (hb hby at_93) rfl ?_
            show Steps p.tables e below (T10.setTop (mkF m 94 #[iv p0, iv p1, iv p2, iv p3, iv p4, iv p5, iv x0, iv x1, iv x2, iv x3, iv y0, iv y1, iv y2, .unset, .unset, .unset, .unset, .unset, .unset, .unset, .unset, .unset] [(.int (p5 &&& (8 : Int32)))])) _
            refine XS.ifYes X10.here hx rfl (pc0 := 94) (pc' := 102) rfl (hb hby at_94) rfl ((if0 _ _).trans (teq b).1) (by decide) (by decide) ?_
            refine XS.iload X10.here hx rfl (hb hby at_102) rfl ?_
            show Steps p.tables e below (T10.setTop (mkF m 104 #[iv p0, iv p1, iv p2, iv p3, iv p4, iv p5, iv x0, iv x1, iv x2, iv x3, iv y0, iv y1, iv y2, .unset, .unset, .unset, .unset, .unset, .unset, .unset, .unset, .unset] [(.int p4)])) _
            refine XS.bipush X10.here hx rfl (hb hby at_104) ?_
            refine XS.ishl X10.here hx rfl (hb hby at_106) rfl ?_
            show Steps p.tables e below (T10.setTop (mkF m 107 #[iv p0, iv p1, iv p2, iv p3, iv p4, iv p5, iv x0, iv x1, iv x2, iv x3, iv y0, iv y1, iv y2, .unset, .unset, .unset, .unset, .unset, .unset, .unset, .unset, .unset] [(.int (p4 <<< ((8 : Int32) &&& 31)))])) _
            refine XS.bipush X10.here hx rfl (hb hby at_107) ?_
            refine XS.ishr X10.here hx rfl (hb hby at_109) rfl ?_
            show Steps p.tables e below (T10.setTop (mkF m 110 #[iv p0, iv p1, iv p2, iv p3, iv p4, iv p5, iv x0, iv x1, iv x2, iv x3, iv y0, iv y1, iv y2, .unset, .unset, .unset, .unset, .unset, .unset, .unset, .unset, .unset] [(.int ((p4 <<< ((8 : Int32) &&& 31)) >>> ((8 : Int32) &&& 31)))])) _
            exact k
          refine own_lift sg60 ?_
          show own_Go p.tables e below (T10.setTop (mkF m 110 #[iv p0, iv p1, iv p2, iv p3, iv p4, iv p5, iv x0, iv x1, iv x2, iv x3, iv y0, iv y1, iv y2, .unset, .unset, .unset, .unset, .unset, .unset, .unset, .unset, .unset] [(.int ((p4 <<< ((8 : Int32) &&& 31)) >>> ((8 : Int32) &&& 31)))])) _
          rw [show y3 = ((p4 <<< ((8 : Int32) &&& 31)) >>> ((8 : Int32) &&& 31)) from (hy3.trans (if_pos b))] at join12
          exact join12 _ _ X10 e10 N10
        · have sg61 : ∀ t, Steps p.tables e below (T10.setTop (mkF m 110 #[iv p0, iv p1, iv p2, iv p3, iv p4, iv p5, iv x0, iv x1, iv x2, iv x3, iv y0, iv y1, iv y2, .unset, .unset, .unset, .unset, .unset, .unset, .unset, .unset, .unset] [(.int x3)])) t → Steps p.tables e below (T10.setTop (mkF m 89 #[iv p0, iv p1, iv p2, iv p3, iv p4, iv p5, iv x0, iv x1, iv x2, iv x3, iv y0, iv y1, iv y2, .unset, .unset, .unset, .unset, .unset, .unset, .unset, .unset, .unset] [])) t := by
            intro t k
            refine XS.iload X10.here hx rfl (hb hby at_89) rfl ?_
            show Steps p.tables e below (T10.setTop (mkF m 91 #[iv p0, iv p1, iv p2, iv p3, iv p4, iv p5, iv x0, iv x1, iv x2, iv x3, iv y0, iv y1, iv y2, .unset, .unset, .unset, .unset, .unset, .unset, .unset, .unset, .unset] [(.int p5)])) _
            refine XS.bipush X10.here hx rfl (hb hby at_91) ?_
            refine XS.iand X10.here hx rfl (hb hby at_93) rfl ?_
            show Steps p.tables e below (T10.setTop (mkF m 94 #[iv p0, iv p1, iv p2, iv p3, iv p4, iv p5, iv x0, iv x1, iv x2, iv x3, iv y0, iv y1, iv y2, .unset, .unset, .unset, .unset, .unset, .unset, .unset, .unset, .unset] [(.int (p5 &&& (8 : Int32)))])) _
            refine XS.ifNo X10.here hx rfl (hb hby at_94) rfl ((if0 _ _).trans (feq b).1) ?_
            refine XS.iload X10.here hx rfl (hb hby at_97) rfl ?_
            show Steps p.tables e below (T10.setTop (mkF m 99 #[iv p0, iv p1, iv p2, iv p3, iv p4, iv p5, iv x0, iv x1, iv x2, iv x3, iv y0, iv y1, iv y2, .unset, .unset, .unset, .unset, .unset, .unset, .unset, .unset, .unset] [(.int x3)])) _
            refine XS.goto X10.here hx rfl (pc0 := 99) (pc' := 110) rfl (hb hby at_99) (by decide) (by decide) ?_
            show Steps p.tables e below (T10.setTop (mkF m 110 #[iv p0, iv p1, iv p2, iv p3, iv p4, iv p5, iv x0, iv x1, iv x2, iv x3, iv y0, iv y1, iv y2, .unset, .unset, .unset, .unset, .unset, .unset, .unset, .unset, .unset] [(.int x3)])) _
            exact k
          refine own_lift sg61 ?_
          show own_Go p.tables e below (T10.setTop (mkF m 110 #[iv p0, iv p1, iv p2, iv p3, iv p4, iv p5, iv x0, iv x1, iv x2, iv x3, iv y0, iv y1, iv y2, .unset, .unset, .unset, .unset, .unset, .unset, .unset, .unset, .unset] [(.int x3)])) _
          rw [show y3 = x3 from (hy3.trans (if_neg b))] at join12
          exact join12 _ _ X10 e10 N10
      by_cases b : (p5 &&& (4 : Int32)) = (0 : Int32)
      · have sg62 : ∀ t, Steps p.tables e below (T8.setTop (mkF m 87 #[iv p0, iv p1, iv p2, iv p3, iv p4, iv p5, iv x0, iv x1, iv x2, iv x3, iv y0, iv y1, .unset, .unset, .unset, .unset, .unset, .unset, .unset, .unset, .unset, .unset] [(.int (((p4.toUInt32 >>> ((8 : Int32) &&& 31).toUInt32).toInt32) &&& (255 : Int32)))])) t → Steps p.tables e below (T8.setTop (mkF m 66 #[iv p0, iv p1, iv p2, iv p3, iv p4, iv p5, iv x0, iv x1, iv x2, iv x3, iv y0, iv y1, .unset, .unset, .unset, .unset, .unset, .unset, .unset, .unset, .unset, .unset] [])) t := by
          intro t k
          refine XS.iload X8.here hx rfl (hb hby at_66) rfl ?_
          show Steps p.tables e below (T8.setTop (mkF m 68 #[iv p0, iv p1, iv p2, iv p3, iv p4, iv p5, iv x0, iv x1, iv x2, iv x3, iv y0, iv y1, .unset, .unset, .unset, .unset, .unset, .unset, .unset, .unset, .unset, .unset] [(.int p5)])) _
          refine XS.iconst X8.here hx rfl (hb hby at_68) ?_
          refine XS.iand X8.here hx rfl (hb hby at_69) rfl ?_
          show Steps p.tables e below (T8.setTop (mkF m 70 #[iv p0, iv p1, iv p2, iv p3, iv p4, iv p5, iv x0, iv x1, iv x2, iv x3, iv y0, iv y1, .unset, .unset, .unset, .unset, .unset, .unset, .unset, .unset, .unset, .unset] [(.int (p5 &&& (4 : Int32)))])) _
          refine XS.ifYes X8.here hx rfl (pc0 := 70) (pc' := 78) rfl (hb hby at_70) rfl ((if0 _ _).trans (teq b).1) (by decide) (by decide) ?_
          refine XS.iload X8.here hx rfl (hb hby at_78) rfl ?_
          show Steps p.tables e below (T8.setTop (mkF m 80 #[iv p0, iv p1, iv p2, iv p3, iv p4, iv p5, iv x0, iv x1, iv x2, iv x3, iv y0, iv y1, .unset, .unset, .unset, .unset, .unset, .unset, .unset, .unset, .unset, .unset] [(.int p4)])) _
          refine XS.bipush X8.here hx rfl (hb hby at_80) ?_
          refine XS.iushr X8.here hx rfl (hb hby at_82) rfl ?_
          show Steps p.tables e below (T8.setTop (mkF m 83 #[iv p0, iv p1, iv p2, iv p3, iv p4, iv p5, iv x0, iv x1, iv x2, iv x3, iv y0, iv y1, .unset, .unset, .unset, .unset, .unset, .unset, .unset, .unset, .unset, .unset] [(.int ((p4.toUInt32 >>> ((8 : Int32) &&& 31).toUInt32).toInt32))])) _
          refine XS.sipush X8.here hx rfl (hb hby at_83) ?_
          refine XS.iand X8.here hx rfl (hb hby at_86) rfl ?_
          show Steps p.tables e below (T8.setTop (mkF m 87 #[iv p0, iv p1, iv p2, iv p3, iv p4, iv p5, iv x0, iv x1, iv x2, iv x3, iv y0, iv y1, .unset, .unset, .unset, .unset, .unset, .unset, .unset, .unset, .unset, .unset] [(.int (((p4.toUInt32 >>> ((8 : Int32) &&& 31).toUInt32).toInt32) &&& (255 : Int32)))])) _
          exact k
        refine own_lift sg62 ?_
        show own_Go p.tables e below (T8.setTop (mkF m 87 #[iv p0, iv p1, iv p2, iv p3, iv p4, iv p5, iv x0, iv x1, iv x2, iv x3, iv y0, iv y1, .unset, .unset, .unset, .unset, .unset, .unset, .unset, .unset, .unset, .unset] [(.int (((p4.toUInt32 >>> ((8 : Int32) &&& 31).toUInt32).toInt32) &&& (255 : Int32)))])) _
        rw [show y2 = (((p4.toUInt32 >>> ((8 : Int32) &&& 31).toUInt32).toInt32) &&& (255 : Int32)) from (hy2.trans (if_pos b))] at join10
        exact join10 _ _ X8 e8 N8
      · have sg63 : ∀ t, Steps p.tables e below (T8.setTop (mkF m 87 #[iv p0, iv p1, iv p2, iv p3, iv p4, iv p5, iv x0, iv x1, iv x2, iv x3, iv y0, iv y1, .unset, .unset, .unset, .unset, .unset, .unset, .unset, .unset, .unset, .unset] [(.int x2)])) t → Steps p.tables e below (T8.setTop (mkF m 66 #[iv p0, iv p1, iv p2, iv p3, iv p4, iv p5, iv x0, iv x1, iv x2, iv x3, iv y0, iv y1, .unset, .unset, .unset, .unset, .unset, .unset, .unset, .unset, .unset, .unset] [])) t := by
          intro t k
          refine XS.iload X8.here hx rfl (hb hby at_66) rfl ?_
          show Steps p.tables e below (T8.setTop (mkF m 68 #[iv p0, iv p1, iv p2, iv p3, iv p4, iv p5, iv x0, iv x1, iv x2, iv x3, iv y0, iv y1, .unset, .unset, .unset, .unset, .unset, .unset, .unset, .unset, .unset, .unset] [(.int p5)])) _
          refine XS.iconst X8.here hx rfl (hb hby at_68) ?_
          refine XS.iand X8.here hx rfl (hb hby at_69) rfl ?_
          show Steps p.tables e below (T8.setTop (mkF m 70 #[iv p0, iv p1, iv p2, iv p3, iv p4, iv p5, iv x0, iv x1, iv x2, iv x3, iv y0, iv y1, .unset, .unset, .unset, .unset, .unset, .unset, .unset, .unset, .unset, .unset] [(.int (p5 &&& (4 : Int32)))])) _
          refine XS.ifNo X8.here hx rfl (hb hby at_70) rfl ((if0 _ _).trans (feq b).1) ?_
          refine XS.iload X8.here hx rfl (hb hby at_73) rfl ?_
          show Steps p.tables e below (T8.setTop (mkF m 75 #[iv p0, iv p1, iv p2, iv p3, iv p4, iv p5, iv x0, iv x1, iv x2, iv x3, iv y0, iv y1, .unset, .unset, .unset, .unset, .unset, .unset, .unset, .unset, .unset, .unset] [(.int x2)])) _
          refine XS.goto X8.here hx rfl (pc0 := 75) (pc' := 87) rfl (hb hby at_75) (by decide) (by decide) ?_
          show Steps p.tables e below (T8.setTop (mkF m 87 #[iv p0, iv p1, iv p2, iv p3, iv p4, iv p5, iv x0, iv x1, iv x2, iv x3, iv y0, iv y1, .unset, .unset, .unset, .unset, .unset, .unset, .unset, .unset, .unset, .unset] [(.int x2)])) _
          exact k
        refine own_lift sg63 ?_
        show own_Go p.tables e below (T8.setTop (mkF m 87 #[iv p0, iv p1, iv p2, iv p3, iv p4, iv p5, iv x0, iv x1, iv x2, iv x3, iv y0, iv y1, .unset, .unset, .unset, .unset, .unset, .unset, .unset, .unset, .unset, .unset] [(.int x2)])) _
        rw [show y2 = x2 from (hy2.trans (if_neg b))] at join10
        exact join10 _ _ X8 e8 N8
    by_cases b : (p5 &&& (2 : Int32)) = (0 : Int32)
    · have sg64 : ∀ t, Steps p.tables e below (T6.setTop (mkF m 64 #[iv p0, iv p1, iv p2, iv p3, iv p4, iv p5, iv x0, iv x1, iv x2, iv x3, iv y0, .unset, .unset, .unset, .unset, .unset, .unset, .unset, .unset, .unset, .unset, .unset] [(.int ((p4.toUInt32 >>> ((16 : Int32) &&& 31).toUInt32).toInt32))])) t → Steps p.tables e below (T6.setTop (mkF m 47 #[iv p0, iv p1, iv p2, iv p3, iv p4, iv p5, iv x0, iv x1, iv x2, iv x3, iv y0, .unset, .unset, .unset, .unset, .unset, .unset, .unset, .unset, .unset, .unset, .unset] [])) t := by
        intro t k
        refine XS.iload X6.here hx rfl (hb hby at_47) rfl ?_
        show Steps p.tables e below (T6.setTop (mkF m 49 #[iv p0, iv p1, iv p2, iv p3, iv p4, iv p5, iv x0, iv x1, iv x2, iv x3, iv y0, .unset, .unset, .unset, .unset, .unset, .unset, .unset, .unset, .unset, .unset, .unset] [(.int p5)])) _
        refine XS.iconst X6.here hx rfl (hb hby at_49) ?_
        refine XS.iand X6.here hx rfl (hb hby at_50) rfl ?_
        show Steps p.tables e below (T6.setTop (mkF m 51 #[iv p0, iv p1, iv p2, iv p3, iv p4, iv p5, iv x0, iv x1, iv x2, iv x3, iv y0, .unset, .unset, .unset, .unset, .unset, .unset, .unset, .unset, .unset, .unset, .unset] [(.int (p5 &&& (2 : Int32)))])) _
        refine XS.ifYes X6.here hx rfl (pc0 := 51) (pc' := 59) rfl (hb hby at_51) rfl ((if0 _ _).trans (teq b).1) (by decide) (by decide) ?_
        refine XS.iload X6.here hx rfl (hb hby at_59) rfl ?_
        show Steps p.tables e below (T6.setTop (mkF m 61 #[iv p0, iv p1, iv p2, iv p3, iv p4, iv p5, iv x0, iv x1, iv x2, iv x3, iv y0, .unset, .unset, .unset, .unset, .unset, .unset, .unset, .unset, .unset, .unset, .unset] [(.int p4)])) _
        refine XS.bipush X6.here hx rfl (hb hby at_61) ?_
        refine XS.iushr X6.here hx rfl (hb hby at_63) rfl ?_
        show Steps p.tables e below (T6.setTop (mkF m 64 #[iv p0, iv p1, iv p2, iv p3, iv p4, iv p5, iv x0, iv x1, iv x2, iv x3, iv y0, .unset, .unset, .unset, .unset, .unset, .unset, .unset, .unset, .unset, .unset, .unset] [(.int ((p4.toUInt32 >>> ((16 : Int32) &&& 31).toUInt32).toInt32))])) _
        exact k
      refine own_lift sg64 ?_
      show own_Go p.tables e below (T6.setTop (mkF m 64 #[iv p0, iv p1, iv p2, iv p3, iv p4, iv p5, iv x0, iv x1, iv x2, iv x3, iv y0, .unset, .unset, .unset, .unset, .unset, .unset, .unset, .unset, .unset, .unset, .unset] [(.int ((p4.toUInt32 >>> ((16 : Int32) &&& 31).toUInt32).toInt32))])) _
      rw [show y1 = ((p4.toUInt32 >>> ((16 : Int32) &&& 31).toUInt32).toInt32) from (hy1.trans (if_pos b))] at join8
      exact join8 _ _ X6 e6 N6
    · have sg65 : ∀ t, Steps p.tables e below (T6.setTop (mkF m 64 #[iv p0, iv p1, iv p2, iv p3, iv p4, iv p5, iv x0, iv x1, iv x2, iv x3, iv y0, .unset, .unset, .unset, .unset, .unset, .unset, .unset, .unset, .unset, .unset, .unset] [(.int x1)])) t → Steps p.tables e below (T6.setTop (mkF m 47 #[iv p0, iv p1, iv p2, iv p3, iv p4, iv p5, iv x0, iv x1, iv x2, iv x3, iv y0, .unset, .unset, .unset, .unset, .unset, .unset, .unset, .unset, .unset, .unset, .unset] [])) t := by
        intro t k
        refine XS.iload X6.here hx rfl (hb hby at_47) rfl ?_
        show Steps p.tables e below (T6.setTop (mkF m 49 #[iv p0, iv p1, iv p2, iv p3, iv p4, iv p5, iv x0, iv x1, iv x2, iv x3, iv y0, .unset, .unset, .unset, .unset, .unset, .unset, .unset, .unset, .unset, .unset, .unset] [(.int p5)])) _
        refine XS.iconst X6.here hx rfl (hb hby at_49) ?_
        refine XS.iand X6.here hx rfl (hb hby at_50) rfl ?_
        show Steps p.tables e below (T6.setTop (mkF m 51 #[iv p0, iv p1, iv p2, iv p3, iv p4, iv p5, iv x0, iv x1, iv x2, iv x3, iv y0, .unset, .unset, .unset, .unset, .unset, .unset, .unset, .unset, .unset, .unset, .unset] [(.int (p5 &&& (2 : Int32)))])) _
        refine XS.ifNo X6.here hx rfl (hb hby at_51) rfl ((if0 _ _).trans (feq b).1) ?_
        refine XS.iload X6.here hx rfl (hb hby at_54) rfl ?_
        show Steps p.tables e below (T6.setTop (mkF m 56 #[iv p0, iv p1, iv p2, iv p3, iv p4, iv p5, iv x0, iv x1, iv x2, iv x3, iv y0, .unset, .unset, .unset, .unset, .unset, .unset, .unset, .unset, .unset, .unset, .unset] [(.int x1)])) _
        refine XS.goto X6.here hx rfl (pc0 := 56) (pc' := 64) rfl (hb hby at_56) (by decide) (by decide) ?_
        show Steps p.tables e below (T6.setTop (mkF m 64 #[iv p0, iv p1, iv p2, iv p3, iv p4, iv p5, iv x0, iv x1, iv x2, iv x3, iv y0, .unset, .unset, .unset, .unset, .unset, .unset, .unset, .unset, .unset, .unset, .unset] [(.int x1)])) _
        exact k
      refine own_lift sg65 ?_
      show own_Go p.tables e below (T6.setTop (mkF m 64 #[iv p0, iv p1, iv p2, iv p3, iv p4, iv p5, iv x0, iv x1, iv x2, iv x3, iv y0, .unset, .unset, .unset, .unset, .unset, .unset, .unset, .unset, .unset, .unset, .unset] [(.int x1)])) _
      rw [show y1 = x1 from (hy1.trans (if_neg b))] at join8
      exact join8 _ _ X6 e6 N6
  by_cases b : (p5 &&& (1 : Int32)) = (0 : Int32)
  · have sg66 : ∀ t, Steps p.tables e below (s₁.setTop (mkF m 45 #[iv p0, iv p1, iv p2, iv p3, iv p4, iv p5, iv x0, iv x1, iv x2, iv x3, .unset, .unset, .unset, .unset, .unset, .unset, .unset, .unset, .unset, .unset, .unset, .unset] [(.int (p4 &&& (65535 : Int32)))])) t → Steps p.tables e below (s₁.setTop (mkF m 28 #[iv p0, iv p1, iv p2, iv p3, iv p4, iv p5, iv x0, iv x1, iv x2, iv x3, .unset, .unset, .unset, .unset, .unset, .unset, .unset, .unset, .unset, .unset, .unset, .unset] [])) t := by
      intro t k
      refine XS.iload X0.here hx rfl (hb hby at_28) rfl ?_
      show Steps p.tables e below (s₁.setTop (mkF m 30 #[iv p0, iv p1, iv p2, iv p3, iv p4, iv p5, iv x0, iv x1, iv x2, iv x3, .unset, .unset, .unset, .unset, .unset, .unset, .unset, .unset, .unset, .unset, .unset, .unset] [(.int p5)])) _
      refine XS.iconst X0.here hx rfl (hb hby at_30) ?_
      refine XS.iand X0.here hx rfl (hb hby at_31) rfl ?_
      show Steps p.tables e below (s₁.setTop (mkF m 32 #[iv p0, iv p1, iv p2, iv p3, iv p4, iv p5, iv x0, iv x1, iv x2, iv x3, .unset, .unset, .unset, .unset, .unset, .unset, .unset, .unset, .unset, .unset, .unset, .unset] [(.int (p5 &&& (1 : Int32)))])) _
      refine XS.ifYes X0.here hx rfl (pc0 := 32) (pc' := 40) rfl (hb hby at_32) rfl ((if0 _ _).trans (teq b).1) (by decide) (by decide) ?_
      refine XS.iload X0.here hx rfl (hb hby at_40) rfl ?_
      show Steps p.tables e below (s₁.setTop (mkF m 42 #[iv p0, iv p1, iv p2, iv p3, iv p4, iv p5, iv x0, iv x1, iv x2, iv x3, .unset, .unset, .unset, .unset, .unset, .unset, .unset, .unset, .unset, .unset, .unset, .unset] [(.int p4)])) _
      refine X0.ldcInt hx hown (mvT hZ (wd hw 0 rfl)) (g := (mkF m 42 #[iv p0, iv p1, iv p2, iv p3, iv p4, iv p5, iv x0, iv x1, iv x2, iv x3, .unset, .unset, .unset, .unset, .unset, .unset, .unset, .unset, .unset, .unset, .unset, .unset] [(.int p4)])) rfl (hb hby at_42) _ ?_
      refine XS.iand X0.here hx rfl (hb hby at_44) rfl ?_
      show Steps p.tables e below (s₁.setTop (mkF m 45 #[iv p0, iv p1, iv p2, iv p3, iv p4, iv p5, iv x0, iv x1, iv x2, iv x3, .unset, .unset, .unset, .unset, .unset, .unset, .unset, .unset, .unset, .unset, .unset, .unset] [(.int (p4 &&& (65535 : Int32)))])) _
      exact k
    refine own_lift sg66 ?_
    show own_Go p.tables e below (s₁.setTop (mkF m 45 #[iv p0, iv p1, iv p2, iv p3, iv p4, iv p5, iv x0, iv x1, iv x2, iv x3, .unset, .unset, .unset, .unset, .unset, .unset, .unset, .unset, .unset, .unset, .unset, .unset] [(.int (p4 &&& (65535 : Int32)))])) _
    rw [show y0 = (p4 &&& (65535 : Int32)) from (hy0.trans (if_pos b))] at join6
    exact join6 _ _ X0 e0 N0
  · have sg67 : ∀ t, Steps p.tables e below (s₁.setTop (mkF m 45 #[iv p0, iv p1, iv p2, iv p3, iv p4, iv p5, iv x0, iv x1, iv x2, iv x3, .unset, .unset, .unset, .unset, .unset, .unset, .unset, .unset, .unset, .unset, .unset, .unset] [(.int x0)])) t → Steps p.tables e below (s₁.setTop (mkF m 28 #[iv p0, iv p1, iv p2, iv p3, iv p4, iv p5, iv x0, iv x1, iv x2, iv x3, .unset, .unset, .unset, .unset, .unset, .unset, .unset, .unset, .unset, .unset, .unset, .unset] [])) t := by
      intro t k
      refine XS.iload X0.here hx rfl (hb hby at_28) rfl ?_
      show Steps p.tables e below (s₁.setTop (mkF m 30 #[iv p0, iv p1, iv p2, iv p3, iv p4, iv p5, iv x0, iv x1, iv x2, iv x3, .unset, .unset, .unset, .unset, .unset, .unset, .unset, .unset, .unset, .unset, .unset, .unset] [(.int p5)])) _
      refine XS.iconst X0.here hx rfl (hb hby at_30) ?_
      refine XS.iand X0.here hx rfl (hb hby at_31) rfl ?_
      show Steps p.tables e below (s₁.setTop (mkF m 32 #[iv p0, iv p1, iv p2, iv p3, iv p4, iv p5, iv x0, iv x1, iv x2, iv x3, .unset, .unset, .unset, .unset, .unset, .unset, .unset, .unset, .unset, .unset, .unset, .unset] [(.int (p5 &&& (1 : Int32)))])) _
      refine XS.ifNo X0.here hx rfl (hb hby at_32) rfl ((if0 _ _).trans (feq b).1) ?_
      refine XS.iload X0.here hx rfl (hb hby at_35) rfl ?_
      show Steps p.tables e below (s₁.setTop (mkF m 37 #[iv p0, iv p1, iv p2, iv p3, iv p4, iv p5, iv x0, iv x1, iv x2, iv x3, .unset, .unset, .unset, .unset, .unset, .unset, .unset, .unset, .unset, .unset, .unset, .unset] [(.int x0)])) _
      refine XS.goto X0.here hx rfl (pc0 := 37) (pc' := 45) rfl (hb hby at_37) (by decide) (by decide) ?_
      show Steps p.tables e below (s₁.setTop (mkF m 45 #[iv p0, iv p1, iv p2, iv p3, iv p4, iv p5, iv x0, iv x1, iv x2, iv x3, .unset, .unset, .unset, .unset, .unset, .unset, .unset, .unset, .unset, .unset, .unset, .unset] [(.int x0)])) _
      exact k
    refine own_lift sg67 ?_
    show own_Go p.tables e below (s₁.setTop (mkF m 45 #[iv p0, iv p1, iv p2, iv p3, iv p4, iv p5, iv x0, iv x1, iv x2, iv x3, .unset, .unset, .unset, .unset, .unset, .unset, .unset, .unset, .unset, .unset, .unset, .unset] [(.int x0)])) _
    rw [show y0 = x0 from (hy0.trans (if_neg b))] at join6
    exact join6 _ _ X0 e0 N0
set_option maxRecDepth 65536 in
theorem rm0 (l : Launch) (Z : State) (a0 : Array Value) (hw : ∀ d ∈ tables_1, d.before a0 Z = true) (ws : List Jvm.Cond) (p0 : Int32) (p1 : Int32) (p2 : Int32) (p3 : Int32) (p4 : Int32) (p5 : Int32) (cs : Int32) (h0 : Heap) (n0 : Nat) (Z0 : n0 ≤ h0.size) (S_cs : Sta Z h0 "java/lang/String" "COMPACT_STRINGS" "Z" (.int cs)) (P_cs : ¬ cs = 0) :
    MetFree l x (head1 (Jvm.Cond.code x code maxLocals ret :: ws) room_1) (fun a U => a = #[(.int p0), (.int p1), (.int p2), (.int p3), (.int p4), (.int p5)] ∧ Z.Warmed39 U.vm ∧ U.heap = h0) (fun _ _ _ _ _ => True) (fun _ U o U' => ∃ v L, o = .returned v ∧ Q0 Z h0 n0 v U'.heap L ∧ FrameEnd U o U' L 24 128) := by
  obtain ⟨x0, hx0⟩ : ∃ z, (p0 &&& (65535 : Int32)) = z := ⟨_, rfl⟩
  obtain ⟨x1, hx1⟩ : ∃ z, (p1 &&& (65535 : Int32)) = z := ⟨_, rfl⟩
  obtain ⟨x2, hx2⟩ : ∃ z, (p2 &&& (255 : Int32)) = z := ⟨_, rfl⟩
  obtain ⟨x3, hx3⟩ : ∃ z, ((p3 <<< ((8 : Int32) &&& 31)) >>> ((8 : Int32) &&& 31)) = z := ⟨_, rfl⟩
  obtain ⟨y0, hy0⟩ : ∃ z, z = if (p5 &&& (1 : Int32)) = (0 : Int32) then (p4 &&& (65535 : Int32)) else x0 := ⟨_, rfl⟩
  obtain ⟨y1, hy1⟩ : ∃ z, z = if (p5 &&& (2 : Int32)) = (0 : Int32) then ((p4.toUInt32 >>> ((16 : Int32) &&& 31).toUInt32).toInt32) else x1 := ⟨_, rfl⟩
  obtain ⟨y2, hy2⟩ : ∃ z, z = if (p5 &&& (4 : Int32)) = (0 : Int32) then (((p4.toUInt32 >>> ((8 : Int32) &&& 31).toUInt32).toInt32) &&& (255 : Int32)) else x2 := ⟨_, rfl⟩
  obtain ⟨y3, hy3⟩ : ∃ z, z = if (p5 &&& (8 : Int32)) = (0 : Int32) then ((p4 <<< ((8 : Int32) &&& 31)) >>> ((8 : Int32) &&& 31)) else x3 := ⟨_, rfl⟩
  obtain ⟨kk, hk⟩ : ∃ z, (((p5.toUInt32 >>> ((4 : Int32) &&& 31).toUInt32).toInt32) &&& (3 : Int32)) = z := ⟨_, rfl⟩
  have rx0 : ¬ (x0 < (0 : Int32)) ∧ ¬ ((65535 : Int32) < x0) := by rw [← hx0]; exact own_m16 p0
  have rx1 : ¬ (x1 < (0 : Int32)) ∧ ¬ ((65535 : Int32) < x1) := by rw [← hx1]; exact own_m16 p1
  have rx2 : ¬ (x2 < (0 : Int32)) ∧ ¬ ((255 : Int32) < x2) := by rw [← hx2]; exact own_m8 p2
  have rx3 : ¬ (x3 < (-8388608 : Int32)) ∧ ¬ ((8388607 : Int32) < x3) := by rw [← hx3]; exact own_s24 p3
  have ry0 : ¬ (y0 < (0 : Int32)) ∧ ¬ ((65535 : Int32) < y0) := by
    rw [hy0]; split
    · exact own_m16 p4
    · exact rx0
  have ry1 : ¬ (y1 < (0 : Int32)) ∧ ¬ ((65535 : Int32) < y1) := by
    rw [hy1]; split
    · exact own_u16 p4
    · exact rx1
  have ry2 : ¬ (y2 < (0 : Int32)) ∧ ¬ ((255 : Int32) < y2) := by
    rw [hy2]; split
    · exact own_m8 _
    · exact rx2
  have ry3 : ¬ (y3 < (-8388608 : Int32)) ∧ ¬ ((8388607 : Int32) < y3) := by
    rw [hy3]; split
    · exact own_s24 p4
    · exact rx3
  by_cases k2 : kk < (2 : Int32)
  · by_cases d0 : x0 = y0
    · by_cases d1 : x1 = y1
      · by_cases d2 : x2 = y2
        · by_cases d3 : x3 = y3
          · exact rm0_4 l Z a0 hw ws p0 p1 p2 p3 p4 p5 cs x0 x1 x2 x3 y0 y1 y2 y3 kk h0 n0 Z0 S_cs P_cs hx0 hx1 hx2 hx3 hy0 hy1 hy2 hy3 hk rx0 rx1 rx2 rx3 ry0 ry1 ry2 ry3 k2 d0 d1 d2 d3
          · exact rm0_3 l Z a0 hw ws p0 p1 p2 p3 p4 p5 cs x0 x1 x2 x3 y0 y1 y2 y3 kk h0 n0 Z0 S_cs P_cs hx0 hx1 hx2 hx3 hy0 hy1 hy2 hy3 hk rx0 rx1 rx2 rx3 ry0 ry1 ry2 ry3 k2 d0 d1 d2 d3
        · exact rm0_2 l Z a0 hw ws p0 p1 p2 p3 p4 p5 cs x0 x1 x2 x3 y0 y1 y2 y3 kk h0 n0 Z0 S_cs P_cs hx0 hx1 hx2 hx3 hy0 hy1 hy2 hy3 hk rx0 rx1 rx2 rx3 ry0 ry1 ry2 ry3 k2 d0 d1 d2
      · exact rm0_1 l Z a0 hw ws p0 p1 p2 p3 p4 p5 cs x0 x1 x2 x3 y0 y1 y2 y3 kk h0 n0 Z0 S_cs P_cs hx0 hx1 hx2 hx3 hy0 hy1 hy2 hy3 hk rx0 rx1 rx2 rx3 ry0 ry1 ry2 ry3 k2 d0 d1
    · exact rm0_0 l Z a0 hw ws p0 p1 p2 p3 p4 p5 cs x0 x1 x2 x3 y0 y1 y2 y3 kk h0 n0 Z0 S_cs P_cs hx0 hx1 hx2 hx3 hy0 hy1 hy2 hy3 hk rx0 rx1 rx2 rx3 ry0 ry1 ry2 ry3 k2 d0
  · by_cases k3 : kk = (2 : Int32)
    · exact rm0_N l Z a0 hw ws p0 p1 p2 p3 p4 p5 cs x0 x1 x2 x3 y0 y1 y2 y3 kk h0 n0 Z0 S_cs P_cs hx0 hx1 hx2 hx3 hy0 hy1 hy2 hy3 hk rx0 rx1 rx2 rx3 ry0 ry1 ry2 ry3 k2 k3
    · exact rm0_S l Z a0 hw ws p0 p1 p2 p3 p4 p5 cs x0 x1 x2 x3 y0 y1 y2 y3 kk h0 n0 Z0 S_cs P_cs hx0 hx1 hx2 hx3 hy0 hy1 hy2 hy3 hk rx0 rx1 rx2 rx3 ry0 ry1 ry2 ry3 k2 k3
set_option maxRecDepth 65536 in
set_option maxHeartbeats 40000000 in
theorem comes_1 {Post : Tables → Env → Array Value → State → Outcome → State → Prop} (hpost : ∀ tb e args s v u, (limb_1_1.after args s (.returned v) u = true ∧ limb_1_2.after args s (.returned v) u = true ∧ True) → FrameEnd s (.returned v) u (Jvm.fieldLocs frame_1_writes args s ++ Jvm.arrayLocs frame_1_arrays args s ++ Jvm.staticLocs frame_1_statics s) 24 128 → Post tb e args s (.returned v) u) :
    ArmFor flags0 classFile x code maxLocals ret World_1 tables_1 room_1 Calls_1 rest_1 Pre_1 Post := by
  intro l hfl _ _ p e ha hc hk s m args below hf hA hF happ hP
  obtain ⟨hcalls, hrest, hpre⟩ := hP
  obtain ⟨-, -, -, hnamed, -, -, -, hat⟩ := (Spec.applies_iff hf).mp happ
  obtain ⟨hg, hn⟩ := and_e (Cond.before_iff.mp (show (Jvm.Cond.and given_1 narrow_1).before args s = true from hpre))
  obtain ⟨gv0, gr0⟩ := and_e hg
  obtain ⟨gv1, gr1⟩ := and_e gr0
  obtain ⟨gv2, gr2⟩ := and_e gr1
  obtain ⟨gv3, gr3⟩ := and_e gr2
  obtain ⟨gv4, gr4⟩ := and_e gr3
  obtain ⟨gv5, gr5⟩ := and_e gr4
  obtain ⟨w0, w1, w2, w3, w4, w5, rfl⟩ : ∃ w0 w1 w2 w3 w4 w5 : Value, args = #[w0, w1, w2, w3, w4, w5] := by
    have hs : args.size = 6 := by simpa [Cond.value, given_1] using gv0
    obtain ⟨L⟩ := args
    match L, hs with
    | [w0, w1, w2, w3, w4, w5], _ => exact ⟨w0, w1, w2, w3, w4, w5, rfl⟩
  have hw := fun d (hd : d ∈ tables_1) => atoms_spec (ws := Jvm.Cond.code x code maxLocals ret :: tables_1) hat d (List.mem_cons_of_mem _ hd)
  have hfit : Fit s := fun {y c} hc i hi => by
    obtain ⟨ha, rfl⟩ := Array.getElem?_eq_some_iff.mp hc
    have q := List.all_eq_true.mp ((Array.all_eq_true_iff_forall_mem.mp hF) _ (Array.getElem_mem ha)) i (List.mem_range.mpr hi)
    simpa [Array.getElem?_eq_getElem hi] using q
  obtain ⟨hsets, hown0⟩ := atoms_of _ (rest_1_c_eq ▸ (show rest_1_c.before _ s = true from hrest))
  have hr0 := Cond.before_iff.mp hown0
  obtain ⟨i0, ei0⟩ := is_v gv1
  obtain rfl : w0 = (.int i0) := Option.some.inj ei0
  obtain ⟨i1, ei1⟩ := is_v gv2
  obtain rfl : w1 = (.int i1) := Option.some.inj ei1
  obtain ⟨i2, ei2⟩ := is_v gv3
  obtain rfl : w2 = (.int i2) := Option.some.inj ei2
  obtain ⟨i3, ei3⟩ := is_v gv4
  obtain rfl : w3 = (.int i3) := Option.some.inj ei3
  obtain ⟨i4, ei4⟩ := is_v gv5
  obtain rfl : w4 = (.int i4) := Option.some.inj ei4
  obtain ⟨i5, ei5⟩ := is_v gr5
  obtain rfl : w5 = (.int i5) := Option.some.inj ei5
  have n3 := not_v (Cond.before_iff.mp (hsets _ (List.mem_of_getElem? (i := 2) rfl)))
  obtain ⟨ics, ecs⟩ := is_v (Cond.before_iff.mp (hsets _ (List.mem_of_getElem? (i := 1) rfl)))
  have S_cs : Sta s s.heap "java/lang/String" "COMPACT_STRINGS" "Z" (.int ics) := Sta.start ecs (Or.inl (hsets _ (List.mem_of_getElem? (i := 0) rfl)))
  have P_cs : ¬ (ics = (0 : Int32)) := gotF (Cond.eq_ints ecs (Term.int_eval (0))) n3
  obtain ⟨n, o, h1, h2, h3, _, L, rfl, ⟨rfl, N⟩, hq⟩ := rm0 l s _ hw tables_1 i0 i1 i2 i3 i4 i5 ics s.heap s.heap.size (Nat.le_refl _) S_cs P_cs p e ha hc hk s m _ below hf ((Spec.applies_iff_loose hf).mp happ).1 ⟨rfl, State.Warmed39.refl s, rfl⟩ trivial
  refine ⟨n, _, h1, h2, h3, hpost _ _ _ _ _ _ ⟨Cond.after_iff.mpr rfl, Cond.after_iff.mpr (eq_i res_at (Term.int_eval (1)) rfl), trivial⟩ ⟨hq.1, hq.2.1, (hq.2.2.sift fun y hy => Or.inr (N y hy)).mono (by decide) (by decide)⟩⟩
theorem main_1_1 : Claimed_1_1 := comes_1 fun _ _ _ _ _ _ h hF => ⟨h.1, hF⟩
theorem main_1_2 : Claimed_1_2 := comes_1 fun _ _ _ _ _ _ h hF => ⟨h.2.1, hF⟩
end Jvm.Pilot.@@N@@
namespace Jvm.Pilot.@@N@@
open Jvm Jvm.ClassFile Sem Op Lib Jvm.Free Jvm.Stand Jvm.Pilot.@@N@@.Jvm.D
/-! MADE BY PROGRAM (witnessworld.py) out of the Statement's table words and the real class files: 18 classes; the members and pool entries that the words name. The judged class is class 1, her method 1. -/
namespace start1
open Jvm.ClassFile
def u (s : String) : CpInfo := .utf8 (stringToUtf16 s)
/-- a pool by its gaps: so many unusable entries, then the entry; so many at the end -/
def gap : Nat → List CpInfo → List CpInfo
  | 0, r => r
  | n + 1, r => .unusable :: gap n r
def poolList (es : List (Nat × CpInfo)) (last : Nat) : List CpInfo := es.foldr (fun e r => gap e.1 (e.2 :: r)) (gap last [])
def pool (es : List (Nat × CpInfo)) (last : Nat) : Array CpInfo := ⟨poolList es last⟩
def fileOf (pool : Array CpInfo) (this : Nat) (attrs : Array Attribute := #[]) (ms : Array MethodInfo := #[]) (fl : Nat := 33) (sup : Nat := 0) (ifs : Array Nat := #[]) (fds : Array FieldInfo := #[]) : ClassFile where
  minorVersion := 0
  majorVersion := 65
  constantPool := pool
  accessFlags := fl
  thisClass := this
  superClass := sup
  interfaces := ifs
  fields := fds
  methods := ms
  attributes := attrs
def plain (name : String) (sup : Option ClassId) : Class where
  name := name
  kind := .ordinary
  loader := none
  accessFlags := 33
  super := sup
  interfaces := #[]
  cf := none
  fields := #[]
  methods := #[]
  instanceTypes := #[]
  staticTypes := #[]
  resolved := #[]
  callSites := []
  init := .initialized
  statics := none
  mirror := none

def pool0 : Array CpInfo := pool [(5, u "<init>"), (0, u "()V"), (1, .class_ 10), (1, u "java/lang/Object")] 113

def k0c0 : Code := { maxStack := 0, maxLocals := 1, code := object_method_1_code, exceptionTable := #[], attributes := #[] }
def k0m0 : Method := { name := "<init>", desc := "()V", sig := { parameters := [], returnType := none }, accessFlags := 1, code := some k0c0 }
/-- java/lang/Object -/
def k0 : Class := { plain "java/lang/Object" none with
  accessFlags := 33
  interfaces := #[]
  cf := some (fileOf pool0 8 #[] #[{ accessFlags := 1, nameIndex := 5, descriptorIndex := 6, attributes := #[] }] 33 0 #[] #[])
  fields := #[]
  methods := #[k0m0]
  instanceTypes := #[]
  staticTypes := #[]
  resolved := Array.replicate 124 none
  statics := none }

def pool1 : Array CpInfo := pool [(2, .class_ 4), (1, u "java/lang/Object"), (0, u "<init>"), (0, u "()V"), (0, .integer 65535), (0, .class_ 9), (0, u "com/example/halyard/halyard/core/mal/TypeId"), (0, .methodref 8 11), (0, .nameAndType 5 12), (0, u "(IIII)V"), (0, .class_ 14), (0, u "java/lang/String"), (0, .methodref 13 16), (0, .nameAndType 5 17), (0, u "([C)V"), (0, .methodref 8 19), (0, .nameAndType 20 21), (0, u "equals"), (0, u "(Ljava/lang/Object;)Z"), (0, .class_ 23), (0, u "com/example/halyard/halyard/core/mal/TypeIdEqualsPinLaw"), (2, u "law"), (0, u "(IIIIII)Z")] 5

def k1m0 : Method := { name := "<init>", desc := "()V", sig := { parameters := [], returnType := none }, accessFlags := 1, code := none }
def k1c1 : Code := { maxStack := 6, maxLocals := 22, code := code, exceptionTable := #[], attributes := #[] }
def k1m1 : Method := { name := "law", desc := "(IIIIII)Z", sig := { parameters := [.int, .int, .int, .int, .int, .int], returnType := some .boolean }, accessFlags := 9, code := some k1c1 }
/-- com/example/halyard/halyard/core/mal/TypeIdEqualsPinLaw -/
def k1 : Class := { plain "com/example/halyard/halyard/core/mal/TypeIdEqualsPinLaw" (some 0) with
  accessFlags := 49
  interfaces := #[]
  cf := some (fileOf pool1 22 #[] #[{ accessFlags := 1, nameIndex := 5, descriptorIndex := 6, attributes := #[] }, { accessFlags := 9, nameIndex := 26, descriptorIndex := 27, attributes := #[] }] 49 2 #[] #[])
  fields := #[]
  methods := #[k1m0, k1m1]
  instanceTypes := #[]
  staticTypes := #[]
  resolved := Array.replicate 33 none
  statics := none }

def pool2 : Array CpInfo := pool [(1, .methodref 2 3), (0, .class_ 4), (0, .nameAndType 5 6), (0, u "java/lang/Object"), (0, u "<init>"), (0, u "()V"), (0, .integer 65535), (0, .class_ 9), (0, u "com/example/halyard/halyard/core/mal/TypeId"), (0, .integer 4286578688), (0, .integer 8388607), (9, .fieldref 8 22), (0, .nameAndType 23 24), (0, u "area"), (0, u "I"), (0, .fieldref 8 26), (0, .nameAndType 27 24), (0, u "service"), (0, .fieldref 8 29), (0, .nameAndType 30 24), (0, u "areaVersion"), (0, .fieldref 8 32), (0, .nameAndType 33 24), (0, u "shortFormPart"), (4, u "(IIII)V"), (33, u "MIN_SHORT_FORM_PART"), (1, u "MAX_SHORT_FORM_PART"), (0, u "SHORT_FORM_BITS"), (7, u "equals"), (0, u "(Ljava/lang/Object;)Z")] 19

def k2c0 : Code := { maxStack := 6, maxLocals := 5, code := prog_48_method_1_code, exceptionTable := #[], attributes := #[] }
def k2m0 : Method := { name := "<init>", desc := "(IIII)V", sig := { parameters := [.int, .int, .int, .int], returnType := none }, accessFlags := 1, code := some k2c0 }
def k2c1 : Code := { maxStack := 2, maxLocals := 3, code := prog_48_method_8_code, exceptionTable := #[], attributes := #[] }
def k2m1 : Method := { name := "equals", desc := "(Ljava/lang/Object;)Z", sig := { parameters := [(.object "java/lang/Object")], returnType := some .boolean }, accessFlags := 1, code := some k2c1 }
/-- com/example/halyard/halyard/core/mal/TypeId -/
def k2 : Class := { plain "com/example/halyard/halyard/core/mal/TypeId" (some 0) with
  accessFlags := 49
  interfaces := #[]
  cf := some (fileOf pool2 8 #[] #[{ accessFlags := 1, nameIndex := 5, descriptorIndex := 38, attributes := #[] }, { accessFlags := 1, nameIndex := 83, descriptorIndex := 84, attributes := #[] }] 49 2 #[] #[{ accessFlags := 25, nameIndex := 72, descriptorIndex := 24, attributes := #[] }, { accessFlags := 25, nameIndex := 74, descriptorIndex := 24, attributes := #[] }, { accessFlags := 26, nameIndex := 75, descriptorIndex := 24, attributes := #[] }, { accessFlags := 18, nameIndex := 23, descriptorIndex := 24, attributes := #[] }, { accessFlags := 18, nameIndex := 27, descriptorIndex := 24, attributes := #[] }, { accessFlags := 18, nameIndex := 30, descriptorIndex := 24, attributes := #[] }, { accessFlags := 18, nameIndex := 33, descriptorIndex := 24, attributes := #[] }])
  fields := #[{ name := "MIN_SHORT_FORM_PART", type := .int, accessFlags := 25, slot := 0, constantValue := 0 }, { name := "MAX_SHORT_FORM_PART", type := .int, accessFlags := 25, slot := 1, constantValue := 0 }, { name := "SHORT_FORM_BITS", type := .int, accessFlags := 26, slot := 2, constantValue := 0 }, { name := "area", type := .int, accessFlags := 18, slot := 0, constantValue := 0 }, { name := "service", type := .int, accessFlags := 18, slot := 1, constantValue := 0 }, { name := "areaVersion", type := .int, accessFlags := 18, slot := 2, constantValue := 0 }, { name := "shortFormPart", type := .int, accessFlags := 18, slot := 3, constantValue := 0 }]
  methods := #[k2m0, k2m1]
  instanceTypes := #[.int, .int, .int, .int]
  staticTypes := #[.int, .int, .int]
  resolved := Array.replicate 104 none
  statics := none }

def pool3 : Array CpInfo := pool [(1, .class_ 2), (0, u "java/io/Serializable"), (0, .class_ 4), (0, u "java/lang/Object")] 2

/-- java/io/Serializable -/
def k3 : Class := { plain "java/io/Serializable" (some 0) with
  accessFlags := 1537
  interfaces := #[]
  cf := some (fileOf pool3 1 #[] #[] 1537 3 #[] #[])
  fields := #[]
  methods := #[]
  instanceTypes := #[]
  staticTypes := #[]
  resolved := Array.replicate 7 none
  statics := none }

def pool4 : Array CpInfo := pool [(1, .class_ 2), (0, u "java/lang/Comparable"), (0, .class_ 4), (0, u "java/lang/Object")] 7

/-- java/lang/Comparable -/
def k4 : Class := { plain "java/lang/Comparable" (some 0) with
  accessFlags := 1537
  interfaces := #[]
  cf := some (fileOf pool4 1 #[] #[] 1537 3 #[] #[])
  fields := #[]
  methods := #[]
  instanceTypes := #[]
  staticTypes := #[]
  resolved := Array.replicate 12 none
  statics := none }

def pool5 : Array CpInfo := pool [(2, .class_ 4), (1, u "java/lang/CharSequence"), (42, .class_ 48), (0, u "java/lang/CharSequence$1CodePointIterator"), (10, .class_ 60), (0, u "java/lang/CharSequence$1CharIterator"), (5, .class_ 67), (0, u "java/lang/Object")] 63

/-- java/lang/CharSequence -/
def k5 : Class := { plain "java/lang/CharSequence" (some 0) with
  accessFlags := 1537
  interfaces := #[]
  cf := some (fileOf pool5 2 #[.nestMembers #[47, 59]] #[] 1537 66 #[] #[])
  fields := #[]
  methods := #[]
  instanceTypes := #[]
  staticTypes := #[]
  resolved := Array.replicate 131 none
  statics := none }

def pool6 : Array CpInfo := pool [(1, .class_ 2), (0, u "java/lang/constant/Constable"), (0, .class_ 4), (0, u "java/lang/Object")] 6

/-- java/lang/constant/Constable -/
def k6 : Class := { plain "java/lang/constant/Constable" (some 0) with
  accessFlags := 1537
  interfaces := #[]
  cf := some (fileOf pool6 1 #[] #[] 1537 3 #[] #[])
  fields := #[]
  methods := #[]
  instanceTypes := #[]
  staticTypes := #[]
  resolved := Array.replicate 11 none
  statics := none }

def pool7 : Array CpInfo := pool [(1, .class_ 2), (0, u "java/lang/constant/ConstantDesc"), (0, .class_ 4), (0, u "java/lang/Object")] 32

/-- java/lang/constant/ConstantDesc -/
def k7 : Class := { plain "java/lang/constant/ConstantDesc" (some 0) with
  accessFlags := 1537
  interfaces := #[]
  cf := some (fileOf pool7 1 #[] #[] 1537 3 #[] #[])
  fields := #[]
  methods := #[]
  instanceTypes := #[]
  staticTypes := #[]
  resolved := Array.replicate 37 none
  statics := none }

def pool8 : Array CpInfo := pool [(1, .methodref 2 3), (0, .class_ 4), (0, .nameAndType 5 6), (0, u "java/lang/Object"), (0, u "<init>"), (0, u "()V"), (2, .fieldref 10 11), (0, .class_ 12), (0, .nameAndType 13 14), (0, u "java/lang/String"), (0, u "value"), (0, u "[B"), (0, .fieldref 10 16), (0, .nameAndType 17 18), (0, u "coder"), (0, u "B"), (2, u "hash"), (0, u "I"), (2, u "hashIsZero"), (0, u "Z"), (0, .methodref 10 28), (0, .nameAndType 5 29), (0, u "([CIILjava/lang/Void;)V"), (8, .fieldref 10 39), (0, .nameAndType 40 26), (0, u "COMPACT_STRINGS"), (1, .class_ 44), (1, u "java/lang/StringUTF16"), (0, u "compress"), (1, .methodref 42 48), (0, .nameAndType 49 50), (0, u "coderFromArrayLen"), (0, u "([BI)B"), (126, .methodref 42 178), (0, .nameAndType 45 179), (0, u "([CII)[B"), (395, .class_ 576), (0, u "java/lang/CharSequence"), (22, u "CASE_INSENSITIVE_ORDER"), (0, u "Ljava/util/Comparator;"), (409, u "([C)V"), (90, u "serialPersistentFields"), (0, u "[Ljava/io/ObjectStreamField;"), (0, .class_ 1104), (0, u "java/lang/String$CaseInsensitiveComparator"), (1, .class_ 1107), (0, u "java/io/Serializable"), (0, .class_ 1109), (0, u "java/lang/Comparable"), (0, .class_ 1111), (0, u "java/lang/constant/Constable"), (0, .class_ 1113), (0, u "java/lang/constant/ConstantDesc"), (2, u "serialVersionUID"), (0, u "J"), (3, u "REPL"), (0, u "C"), (2, u "LATIN1"), (1, u "UTF16")] 323

def k8m0 : Method := { name := "<init>", desc := "()V", sig := { parameters := [], returnType := none }, accessFlags := 1, code := none }
def k8c1 : Code := { maxStack := 5, maxLocals := 2, code := jdk_42_method_3_code, exceptionTable := #[], attributes := #[] }
def k8m1 : Method := { name := "<init>", desc := "([C)V", sig := { parameters := [(.array .char)], returnType := none }, accessFlags := 1, code := some k8c1 }
def k8c2 : Code := { maxStack := 4, maxLocals := 6, code := jdk_42_method_149_code, exceptionTable := #[], attributes := #[] }
def k8m2 : Method := { name := "<init>", desc := "([CIILjava/lang/Void;)V", sig := { parameters := [(.array .char), .int, .int, (.object "java/lang/Void")], returnType := none }, accessFlags := 2, code := some k8c2 }
/-- java/lang/String -/
def k8 : Class := { plain "java/lang/String" (some 0) with
  accessFlags := 49
  interfaces := #[3, 4, 5, 6, 7]
  cf := some (fileOf pool8 10 #[.nestMembers #[1103]] #[{ accessFlags := 1, nameIndex := 5, descriptorIndex := 6, attributes := #[] }, { accessFlags := 1, nameIndex := 5, descriptorIndex := 1010, attributes := #[] }, { accessFlags := 2, nameIndex := 5, descriptorIndex := 29, attributes := #[] }] 49 2 #[1106, 1108, 575, 1110, 1112] #[{ accessFlags := 18, nameIndex := 13, descriptorIndex := 14, attributes := #[] }, { accessFlags := 18, nameIndex := 17, descriptorIndex := 18, attributes := #[] }, { accessFlags := 2, nameIndex := 21, descriptorIndex := 22, attributes := #[] }, { accessFlags := 2, nameIndex := 25, descriptorIndex := 26, attributes := #[] }, { accessFlags := 26, nameIndex := 1116, descriptorIndex := 1117, attributes := #[] }, { accessFlags := 24, nameIndex := 40, descriptorIndex := 26, attributes := #[] }, { accessFlags := 26, nameIndex := 1101, descriptorIndex := 1102, attributes := #[] }, { accessFlags := 26, nameIndex := 1121, descriptorIndex := 1122, attributes := #[] }, { accessFlags := 25, nameIndex := 599, descriptorIndex := 600, attributes := #[] }, { accessFlags := 24, nameIndex := 1125, descriptorIndex := 18, attributes := #[] }, { accessFlags := 24, nameIndex := 1127, descriptorIndex := 18, attributes := #[] }])
  fields := #[{ name := "value", type := (.array .byte), accessFlags := 18, slot := 0, constantValue := 0 }, { name := "coder", type := .byte, accessFlags := 18, slot := 1, constantValue := 0 }, { name := "hash", type := .int, accessFlags := 2, slot := 2, constantValue := 0 }, { name := "hashIsZero", type := .boolean, accessFlags := 2, slot := 3, constantValue := 0 }, { name := "serialVersionUID", type := .long, accessFlags := 26, slot := 0, constantValue := 0 }, { name := "COMPACT_STRINGS", type := .boolean, accessFlags := 24, slot := 1, constantValue := 0 }, { name := "serialPersistentFields", type := (.array (.object "java/io/ObjectStreamField")), accessFlags := 26, slot := 2, constantValue := 0 }, { name := "REPL", type := .char, accessFlags := 26, slot := 3, constantValue := 0 }, { name := "CASE_INSENSITIVE_ORDER", type := (.object "java/util/Comparator"), accessFlags := 25, slot := 4, constantValue := 0 }, { name := "LATIN1", type := .byte, accessFlags := 24, slot := 5, constantValue := 0 }, { name := "UTF16", type := .byte, accessFlags := 24, slot := 6, constantValue := 0 }]
  methods := #[k8m0, k8m1, k8m2]
  instanceTypes := #[(.array .byte), .byte, .int, .boolean]
  staticTypes := #[.long, .boolean, (.array (.object "java/io/ObjectStreamField")), .char, (.object "java/util/Comparator"), .byte, .byte]
  resolved := Array.replicate 1451 none
  statics := some 0 }

def pool9 : Array CpInfo := pool [(6, .class_ 8), (1, u "java/lang/Object"), (0, u "<init>"), (0, u "()V"), (1, .class_ 14), (1, u "java/lang/StringUTF16"), (31, u "$assertionsDisabled"), (0, u "Z"), (13, u "HI_BYTE_SHIFT"), (0, u "I"), (2, u "LO_BYTE_SHIFT"), (49, .methodref 12 116), (0, .nameAndType 117 118), (0, u "compress"), (0, u "([CI[BII)I"), (3, u "([CII)[B"), (138, u "coderFromArrayLen"), (0, u "([BI)B"), (106, .class_ 371), (1, u "java/lang/StringUTF16$LinesSpliterator"), (58, u "MAX_LENGTH"), (196, .class_ 628), (0, u "java/lang/StringUTF16$CodePointsSpliterator"), (0, .class_ 630), (0, u "java/lang/StringUTF16$CharsSpliterator")] 4

def k9m0 : Method := { name := "<init>", desc := "()V", sig := { parameters := [], returnType := none }, accessFlags := 0, code := none }
def k9c1 : Code := { maxStack := 2, maxLocals := 2, code := jdk_52_method_15_code, exceptionTable := #[], attributes := #[] }
def k9m1 : Method := { name := "coderFromArrayLen", desc := "([BI)B", sig := { parameters := [(.array .byte), .int], returnType := some .byte }, accessFlags := 8, code := some k9c1 }
def k9c2 : Code := { maxStack := 5, maxLocals := 6, code := jdk_52_method_16_code, exceptionTable := #[], attributes := #[] }
def k9m2 : Method := { name := "compress", desc := "([CII)[B", sig := { parameters := [(.array .char), .int, .int], returnType := some (.array .byte) }, accessFlags := 9, code := some k9c2 }
def k9c3 : Code := { maxStack := 3, maxLocals := 7, code := jdk_52_method_21_code, exceptionTable := #[], attributes := #[] }
def k9m3 : Method := { name := "compress", desc := "([CI[BII)I", sig := { parameters := [(.array .char), .int, (.array .byte), .int, .int], returnType := some .int }, accessFlags := 9, code := some k9c3 }
/-- java/lang/StringUTF16 -/
def k9 : Class := { plain "java/lang/StringUTF16" (some 0) with
  accessFlags := 48
  interfaces := #[]
  cf := some (fileOf pool9 12 #[.nestMembers #[627, 629, 369]] #[{ accessFlags := 0, nameIndex := 9, descriptorIndex := 10, attributes := #[] }, { accessFlags := 8, nameIndex := 261, descriptorIndex := 262, attributes := #[] }, { accessFlags := 9, nameIndex := 117, descriptorIndex := 122, attributes := #[] }, { accessFlags := 9, nameIndex := 117, descriptorIndex := 118, attributes := #[] }] 48 6 #[] #[{ accessFlags := 26, nameIndex := 61, descriptorIndex := 62, attributes := #[] }, { accessFlags := 26, nameIndex := 65, descriptorIndex := 62, attributes := #[] }, { accessFlags := 24, nameIndex := 430, descriptorIndex := 62, attributes := #[] }, { accessFlags := 4120, nameIndex := 46, descriptorIndex := 47, attributes := #[] }])
  fields := #[{ name := "HI_BYTE_SHIFT", type := .int, accessFlags := 26, slot := 0, constantValue := 0 }, { name := "LO_BYTE_SHIFT", type := .int, accessFlags := 26, slot := 1, constantValue := 0 }, { name := "MAX_LENGTH", type := .int, accessFlags := 24, slot := 2, constantValue := 0 }, { name := "$assertionsDisabled", type := .boolean, accessFlags := 4120, slot := 3, constantValue := 0 }]
  methods := #[k9m0, k9m1, k9m2, k9m3]
  instanceTypes := #[]
  staticTypes := #[.int, .int, .int, .boolean]
  resolved := Array.replicate 635 none
  statics := none }

def pool10 : Array CpInfo := pool [(4, .class_ 6), (1, u "java/lang/Object"), (0, u "<init>"), (0, u "()V"), (5, .class_ 16), (1, u "java/lang/StringLatin1"), (104, u "$assertionsDisabled"), (0, u "Z"), (98, .class_ 223), (1, u "java/lang/StringLatin1$LinesSpliterator"), (166, .class_ 391), (0, u "java/lang/StringLatin1$CharsSpliterator")] 3

def k10m0 : Method := { name := "<init>", desc := "()V", sig := { parameters := [], returnType := none }, accessFlags := 0, code := none }
/-- java/lang/StringLatin1 -/
def k10 : Class := { plain "java/lang/StringLatin1" (some 0) with
  accessFlags := 48
  interfaces := #[]
  cf := some (fileOf pool10 14 #[.nestMembers #[390, 221]] #[{ accessFlags := 0, nameIndex := 7, descriptorIndex := 8, attributes := #[] }] 48 4 #[] #[{ accessFlags := 4120, nameIndex := 121, descriptorIndex := 122, attributes := #[] }])
  fields := #[{ name := "$assertionsDisabled", type := .boolean, accessFlags := 4120, slot := 0, constantValue := 0 }]
  methods := #[k10m0]
  instanceTypes := #[]
  staticTypes := #[.boolean]
  resolved := Array.replicate 395 none
  statics := none }

def pool11 : Array CpInfo := pool [(2, .class_ 4), (1, u "java/lang/Object"), (0, u "<init>"), (0, u "()V"), (17, .class_ 26), (1, u "jdk/internal/util/Preconditions"), (28, .class_ 56), (0, u "jdk/internal/util/Preconditions$4"), (57, .class_ 115), (0, u "jdk/internal/util/Preconditions$1"), (7, u "SIOOBE_FORMATTER"), (0, u "Ljava/util/function/BiFunction;"), (0, .class_ 126), (0, u "jdk/internal/util/Preconditions$2"), (3, u "AIOOBE_FORMATTER"), (0, .class_ 132), (0, u "jdk/internal/util/Preconditions$3"), (3, u "IOOBE_FORMATTER")] 57

def k11m0 : Method := { name := "<init>", desc := "()V", sig := { parameters := [], returnType := none }, accessFlags := 1, code := none }
/-- jdk/internal/util/Preconditions -/
def k11 : Class := { plain "jdk/internal/util/Preconditions" (some 0) with
  accessFlags := 33
  interfaces := #[]
  cf := some (fileOf pool11 24 #[.nestMembers #[55, 131, 125, 114]] #[{ accessFlags := 1, nameIndex := 5, descriptorIndex := 6, attributes := #[] }] 33 2 #[] #[{ accessFlags := 25, nameIndex := 123, descriptorIndex := 124, attributes := #[] }, { accessFlags := 25, nameIndex := 130, descriptorIndex := 124, attributes := #[] }, { accessFlags := 25, nameIndex := 136, descriptorIndex := 124, attributes := #[] }])
  fields := #[{ name := "SIOOBE_FORMATTER", type := (.object "java/util/function/BiFunction"), accessFlags := 25, slot := 0, constantValue := 0 }, { name := "AIOOBE_FORMATTER", type := (.object "java/util/function/BiFunction"), accessFlags := 25, slot := 1, constantValue := 0 }, { name := "IOOBE_FORMATTER", type := (.object "java/util/function/BiFunction"), accessFlags := 25, slot := 2, constantValue := 0 }]
  methods := #[k11m0]
  instanceTypes := #[]
  staticTypes := #[(.object "java/util/function/BiFunction"), (.object "java/util/function/BiFunction"), (.object "java/util/function/BiFunction")]
  resolved := Array.replicate 194 none
  statics := some 1 }

def pool12 : Array CpInfo := pool [(9, u "<init>"), (6, .class_ 18), (1, u "java/lang/Object"), (0, u "()V"), (1, .class_ 23), (1, u "jdk/internal/util/ArraysSupport"), (0, u "LOG2_ARRAY_LONG_INDEX_SCALE"), (0, u "I"), (2, u "U"), (0, u "Ljdk/internal/misc/Unsafe;"), (8, u "BIG_ENDIAN"), (0, u "Z"), (8, u "LOG2_BYTE_BIT_SIZE"), (4, u "LOG2_ARRAY_INT_INDEX_SCALE"), (54, u "JLA"), (0, u "Ljdk/internal/access/JavaLangAccess;"), (11, u "LOG2_ARRAY_BOOLEAN_INDEX_SCALE"), (9, u "LOG2_ARRAY_BYTE_INDEX_SCALE"), (5, u "LOG2_ARRAY_CHAR_INDEX_SCALE"), (5, u "LOG2_ARRAY_SHORT_INDEX_SCALE"), (18, u "LOG2_ARRAY_FLOAT_INDEX_SCALE"), (24, u "LOG2_ARRAY_DOUBLE_INDEX_SCALE"), (89, u "T_BOOLEAN"), (2, u "T_CHAR"), (1, u "T_FLOAT"), (1, u "T_DOUBLE"), (1, u "T_BYTE"), (1, u "T_SHORT"), (1, u "T_INT"), (1, u "T_LONG"), (1, u "SOFT_MAX_ARRAY_LENGTH")] 83

def k12m0 : Method := { name := "<init>", desc := "()V", sig := { parameters := [], returnType := none }, accessFlags := 2, code := none }
/-- jdk/internal/util/ArraysSupport -/
def k12 : Class := { plain "jdk/internal/util/ArraysSupport" (some 0) with
  accessFlags := 33
  interfaces := #[]
  cf := some (fileOf pool12 21 #[] #[{ accessFlags := 2, nameIndex := 9, descriptorIndex := 19, attributes := #[] }] 33 16 #[] #[{ accessFlags := 24, nameIndex := 28, descriptorIndex := 29, attributes := #[] }, { accessFlags := 26, nameIndex := 38, descriptorIndex := 39, attributes := #[] }, { accessFlags := 25, nameIndex := 121, descriptorIndex := 25, attributes := #[] }, { accessFlags := 25, nameIndex := 131, descriptorIndex := 25, attributes := #[] }, { accessFlags := 25, nameIndex := 137, descriptorIndex := 25, attributes := #[] }, { accessFlags := 25, nameIndex := 143, descriptorIndex := 25, attributes := #[] }, { accessFlags := 25, nameIndex := 53, descriptorIndex := 25, attributes := #[] }, { accessFlags := 25, nameIndex := 24, descriptorIndex := 25, attributes := #[] }, { accessFlags := 25, nameIndex := 162, descriptorIndex := 25, attributes := #[] }, { accessFlags := 25, nameIndex := 187, descriptorIndex := 25, attributes := #[] }, { accessFlags := 26, nameIndex := 48, descriptorIndex := 25, attributes := #[] }, { accessFlags := 25, nameIndex := 277, descriptorIndex := 25, attributes := #[] }, { accessFlags := 25, nameIndex := 280, descriptorIndex := 25, attributes := #[] }, { accessFlags := 25, nameIndex := 282, descriptorIndex := 25, attributes := #[] }, { accessFlags := 25, nameIndex := 284, descriptorIndex := 25, attributes := #[] }, { accessFlags := 25, nameIndex := 286, descriptorIndex := 25, attributes := #[] }, { accessFlags := 25, nameIndex := 288, descriptorIndex := 25, attributes := #[] }, { accessFlags := 25, nameIndex := 290, descriptorIndex := 25, attributes := #[] }, { accessFlags := 25, nameIndex := 292, descriptorIndex := 25, attributes := #[] }, { accessFlags := 26, nameIndex := 108, descriptorIndex := 109, attributes := #[] }, { accessFlags := 25, nameIndex := 294, descriptorIndex := 25, attributes := #[] }])
  fields := #[{ name := "U", type := (.object "jdk/internal/misc/Unsafe"), accessFlags := 24, slot := 0, constantValue := 0 }, { name := "BIG_ENDIAN", type := .boolean, accessFlags := 26, slot := 1, constantValue := 0 }, { name := "LOG2_ARRAY_BOOLEAN_INDEX_SCALE", type := .int, accessFlags := 25, slot := 2, constantValue := 0 }, { name := "LOG2_ARRAY_BYTE_INDEX_SCALE", type := .int, accessFlags := 25, slot := 3, constantValue := 0 }, { name := "LOG2_ARRAY_CHAR_INDEX_SCALE", type := .int, accessFlags := 25, slot := 4, constantValue := 0 }, { name := "LOG2_ARRAY_SHORT_INDEX_SCALE", type := .int, accessFlags := 25, slot := 5, constantValue := 0 }, { name := "LOG2_ARRAY_INT_INDEX_SCALE", type := .int, accessFlags := 25, slot := 6, constantValue := 0 }, { name := "LOG2_ARRAY_LONG_INDEX_SCALE", type := .int, accessFlags := 25, slot := 7, constantValue := 0 }, { name := "LOG2_ARRAY_FLOAT_INDEX_SCALE", type := .int, accessFlags := 25, slot := 8, constantValue := 0 }, { name := "LOG2_ARRAY_DOUBLE_INDEX_SCALE", type := .int, accessFlags := 25, slot := 9, constantValue := 0 }, { name := "LOG2_BYTE_BIT_SIZE", type := .int, accessFlags := 26, slot := 10, constantValue := 0 }, { name := "T_BOOLEAN", type := .int, accessFlags := 25, slot := 11, constantValue := 0 }, { name := "T_CHAR", type := .int, accessFlags := 25, slot := 12, constantValue := 0 }, { name := "T_FLOAT", type := .int, accessFlags := 25, slot := 13, constantValue := 0 }, { name := "T_DOUBLE", type := .int, accessFlags := 25, slot := 14, constantValue := 0 }, { name := "T_BYTE", type := .int, accessFlags := 25, slot := 15, constantValue := 0 }, { name := "T_SHORT", type := .int, accessFlags := 25, slot := 16, constantValue := 0 }, { name := "T_INT", type := .int, accessFlags := 25, slot := 17, constantValue := 0 }, { name := "T_LONG", type := .int, accessFlags := 25, slot := 18, constantValue := 0 }, { name := "JLA", type := (.object "jdk/internal/access/JavaLangAccess"), accessFlags := 26, slot := 19, constantValue := 0 }, { name := "SOFT_MAX_ARRAY_LENGTH", type := .int, accessFlags := 25, slot := 20, constantValue := 0 }]
  methods := #[k12m0]
  instanceTypes := #[]
  staticTypes := #[(.object "jdk/internal/misc/Unsafe"), .boolean, .int, .int, .int, .int, .int, .int, .int, .int, .int, .int, .int, .int, .int, .int, .int, .int, .int, (.object "jdk/internal/access/JavaLangAccess"), .int]
  resolved := Array.replicate 378 none
  statics := none }

def pool13 : Array CpInfo := pool [(1, u "java/lang/Cloneable"), (0, .class_ 1), (0, u "java/lang/Object"), (0, .class_ 3)] 3

/-- java/lang/Cloneable -/
def k13 : Class := { plain "java/lang/Cloneable" (some 0) with
  accessFlags := 1537
  interfaces := #[]
  cf := some (fileOf pool13 2 #[] #[] 1537 4 #[] #[])
  fields := #[]
  methods := #[]
  instanceTypes := #[]
  staticTypes := #[]
  resolved := Array.replicate 8 none
  statics := none }

/-- the primitive byte -/
def k14 : Class := { plain "byte" none with kind := .primitive 'B', accessFlags := 0x411 }
/-- [B -/
def k15 : Class := { plain "[B" (some 0) with kind := .array 14 .byte, interfaces := #[13, 3], accessFlags := 1041 }

/-- the primitive char -/
def k16 : Class := { plain "char" none with kind := .primitive 'C', accessFlags := 0x411 }
/-- [C -/
def k17 : Class := { plain "[C" (some 0) with kind := .array 16 .char, interfaces := #[13, 3], accessFlags := 1041 }

def heap : Heap := #[{ cls := 8, slots := #[.long 0, .int 1, .null, .int 0, .null, .int 0, .int 0], vm := .statics 8 },
  { cls := 11, slots := #[.null, .null, .null], vm := .statics 11 }]
def classes : Array Class := #[k0, k1, k2, k3, k4, k5, k6, k7, k8, k9, k10, k11, k12, k13, k14, k15, k16, k17]
def interned : List (Array UInt16 × Addr) := []
def slotsUsed : Nat := 10
def theMethod : MethodId := ⟨1, 1⟩
def args0 : Array Value := #[.int 5, .int 5, .int 5, .int 5, .int 5, .int 5]
def aboutOver (below : List Frame) : State where
  vm := { classes := classes, interned := interned.toArray }
  heap := heap
  slotsUsed := slotsUsed
  threads := #[{ frames := .invoking theMethod args0 :: below }]
def below0 : List Frame := [.native { method := ⟨0, 0⟩, args := #[] }]
def about1 : State := aboutOver below0
def p0 : Program := .bare "" "" ""
def e0 : Env := launch0.env 0 0 0
theorem w_frames : about1.frames = Frame.invoking theMethod args0 :: below0 := rfl
set_option maxRecDepth 65536 in
theorem w_args : argsFit about1.vm theMethod args0 = true := by decide +kernel
set_option maxRecDepth 65536 in
theorem w_heap : heapFits about1 = true := by decide +kernel
set_option maxRecDepth 65536 in
theorem w_runnable : about1.curStatus? = some .runnable := by decide +kernel
set_option maxRecDepth 65536 in
theorem w_alone : about1.alone = true := by decide +kernel
set_option maxRecDepth 65536 in
theorem w_named : about1.methodNamed? x = some theMethod := by decide +kernel
set_option maxRecDepth 65536 in
theorem w_hears : about1.hears theMethod below0 = true := by decide +kernel
set_option maxRecDepth 65536 in
theorem w_ripe : about1.ripe theMethod args0 below0 = true := by decide +kernel
theorem w_running : about1.status = .running := rfl
set_option maxRecDepth 65536 in
theorem w_room : about1.hasRoom e0.platform room_1 = true :=
  launch0.hasRoom_least _ room_1 (by decide +kernel) (by decide +kernel) (by decide +kernel) (by decide +kernel) (by decide +kernel) (by decide +kernel)
theorem allAtoms_all (ts : List Jvm.Cond) (a : Array Jvm.Value) (st : Jvm.State) : (allAtoms ts).before a st = ts.all (fun c => c.before a st) := by
  induction ts with
  | nil => rfl
  | cons c t ih =>
    show (Jvm.Cond.and c (allAtoms t)).before a st = _
    rw [Jvm.Cond.before_and, ih, List.all_cons]
def words1 : List Jvm.Cond := Jvm.Cond.code x code maxLocals ret :: tables_1
/-- a 'code' word, met by the world's own term for the bytes: nothing is compared byte by byte -/
theorem code_word {y : MethodName} {bytes : ByteArray} {mx : Nat} {rt : Option FieldType} {a : Array Value} {s : State} {m : MethodId} {meth : Method} {c : Code} (h1 : s.methodNamed? y = some m) (h2 : s.vm.method? m = some meth) (h3 : meth.code = some c) (h4 : c.code = bytes)
    (h5 : (c.maxLocals == mx && c.exceptionTable.isEmpty && decide (c.maxStack ≤ mostOperands) && decide (meth.sig.returnType = rt) && !meth.locks && decide (parseMethodDescriptor y.desc = some meth.sig)) = true) : (Jvm.Cond.code y bytes mx rt).before a s = true := by
  simp only [Bool.and_eq_true, beq_iff_eq, Bool.not_eq_true', decide_eq_true_eq] at h5
  obtain ⟨⟨⟨⟨⟨g1, g2⟩, g3⟩, g4⟩, g5⟩, g6⟩ := h5
  simp [Cond.before, Cond.holds, Cond.value, h1, h2, h3, h4, g1, g2, g3, g4, g5, g6]
def isCode : Jvm.Cond → Bool
  | .code _ _ _ _ => true
  | _ => false
theorem all_split {L : List Jvm.Cond} {P : Jvm.Cond → Bool} (h1 : L.all (fun c => isCode c || P c) = true) (h2 : ∀ c ∈ L.filter isCode, P c = true) : L.all P = true := by
  refine List.all_eq_true.mpr fun c hc => ?_
  have h := List.all_eq_true.mp h1 c hc
  rcases Bool.eq_false_or_eq_true (isCode c) with hi | hi
  · exact h2 c (List.mem_filter.mpr ⟨hc, hi⟩)
  · simpa [hi] using h
set_option maxRecDepth 65536 in
theorem w_c0 : (Jvm.Cond.code x code maxLocals ret).before args0 about1 = true := code_word (m := ⟨1, 1⟩) (meth := k1m1) (c := k1c1) (by decide +kernel) rfl rfl rfl (by decide +kernel)
set_option maxRecDepth 65536 in
theorem w_c1 : (Jvm.Cond.code ({ cls := "com/example/halyard/halyard/core/mal/TypeId", name := "<init>", desc := "(IIII)V" } : Jvm.MethodName) prog_48_method_1_code (5 : Nat) (Option.none : Option Jvm.ClassFile.FieldType)).before args0 about1 = true := code_word (m := ⟨2, 0⟩) (meth := k2m0) (c := k2c0) (by decide +kernel) rfl rfl rfl (by decide +kernel)
set_option maxRecDepth 65536 in
theorem w_c2 : (Jvm.Cond.code ({ cls := "java/lang/Object", name := "<init>", desc := "()V" } : Jvm.MethodName) object_method_1_code (1 : Nat) (Option.none : Option Jvm.ClassFile.FieldType)).before args0 about1 = true := code_word (m := ⟨0, 0⟩) (meth := k0m0) (c := k0c0) (by decide +kernel) rfl rfl rfl (by decide +kernel)
set_option maxRecDepth 65536 in
theorem w_c3 : (Jvm.Cond.code ({ cls := "java/lang/String", name := "<init>", desc := "([C)V" } : Jvm.MethodName) jdk_42_method_3_code (2 : Nat) (Option.none : Option Jvm.ClassFile.FieldType)).before args0 about1 = true := code_word (m := ⟨8, 1⟩) (meth := k8m1) (c := k8c1) (by decide +kernel) rfl rfl rfl (by decide +kernel)
set_option maxRecDepth 65536 in
theorem w_c4 : (Jvm.Cond.code ({ cls := "java/lang/String", name := "<init>", desc := "([CIILjava/lang/Void;)V" } : Jvm.MethodName) jdk_42_method_149_code (6 : Nat) (Option.none : Option Jvm.ClassFile.FieldType)).before args0 about1 = true := code_word (m := ⟨8, 2⟩) (meth := k8m2) (c := k8c2) (by decide +kernel) rfl rfl rfl (by decide +kernel)
set_option maxRecDepth 65536 in
theorem w_c5 : (Jvm.Cond.code ({ cls := "java/lang/StringUTF16", name := "compress", desc := "([CII)[B" } : Jvm.MethodName) jdk_52_method_16_code (6 : Nat) (Option.some (Jvm.ClassFile.FieldType.array Jvm.ClassFile.FieldType.byte))).before args0 about1 = true := code_word (m := ⟨9, 2⟩) (meth := k9m2) (c := k9c2) (by decide +kernel) rfl rfl rfl (by decide +kernel)
set_option maxRecDepth 65536 in
theorem w_c6 : (Jvm.Cond.code ({ cls := "java/lang/StringUTF16", name := "compress", desc := "([CI[BII)I" } : Jvm.MethodName) jdk_52_method_21_code (7 : Nat) (Option.some Jvm.ClassFile.FieldType.int)).before args0 about1 = true := code_word (m := ⟨9, 3⟩) (meth := k9m3) (c := k9c3) (by decide +kernel) rfl rfl rfl (by decide +kernel)
set_option maxRecDepth 65536 in
theorem w_c7 : (Jvm.Cond.code ({ cls := "java/lang/StringUTF16", name := "coderFromArrayLen", desc := "([BI)B" } : Jvm.MethodName) jdk_52_method_15_code (2 : Nat) (Option.some Jvm.ClassFile.FieldType.byte)).before args0 about1 = true := code_word (m := ⟨9, 1⟩) (meth := k9m1) (c := k9c1) (by decide +kernel) rfl rfl rfl (by decide +kernel)
set_option maxRecDepth 65536 in
theorem w_c8 : (Jvm.Cond.code ({ cls := "com/example/halyard/halyard/core/mal/TypeId", name := "equals", desc := "(Ljava/lang/Object;)Z" } : Jvm.MethodName) prog_48_method_8_code (3 : Nat) (Option.some Jvm.ClassFile.FieldType.boolean)).before args0 about1 = true := code_word (m := ⟨2, 1⟩) (meth := k2m1) (c := k2c1) (by decide +kernel) rfl rfl rfl (by decide +kernel)
def codes1 : List Jvm.Cond := [Jvm.Cond.code x code maxLocals ret, Jvm.Cond.code ({ cls := "com/example/halyard/halyard/core/mal/TypeId", name := "<init>", desc := "(IIII)V" } : Jvm.MethodName) prog_48_method_1_code (5 : Nat) (Option.none : Option Jvm.ClassFile.FieldType), Jvm.Cond.code ({ cls := "java/lang/Object", name := "<init>", desc := "()V" } : Jvm.MethodName) object_method_1_code (1 : Nat) (Option.none : Option Jvm.ClassFile.FieldType), Jvm.Cond.code ({ cls := "java/lang/String", name := "<init>", desc := "([C)V" } : Jvm.MethodName) jdk_42_method_3_code (2 : Nat) (Option.none : Option Jvm.ClassFile.FieldType), Jvm.Cond.code ({ cls := "java/lang/String", name := "<init>", desc := "([CIILjava/lang/Void;)V" } : Jvm.MethodName) jdk_42_method_149_code (6 : Nat) (Option.none : Option Jvm.ClassFile.FieldType), Jvm.Cond.code ({ cls := "java/lang/StringUTF16", name := "compress", desc := "([CII)[B" } : Jvm.MethodName) jdk_52_method_16_code (6 : Nat) (Option.some (Jvm.ClassFile.FieldType.array Jvm.ClassFile.FieldType.byte)), Jvm.Cond.code ({ cls := "java/lang/StringUTF16", name := "compress", desc := "([CI[BII)I" } : Jvm.MethodName) jdk_52_method_21_code (7 : Nat) (Option.some Jvm.ClassFile.FieldType.int), Jvm.Cond.code ({ cls := "java/lang/StringUTF16", name := "coderFromArrayLen", desc := "([BI)B" } : Jvm.MethodName) jdk_52_method_15_code (2 : Nat) (Option.some Jvm.ClassFile.FieldType.byte), Jvm.Cond.code ({ cls := "com/example/halyard/halyard/core/mal/TypeId", name := "equals", desc := "(Ljava/lang/Object;)Z" } : Jvm.MethodName) prog_48_method_8_code (3 : Nat) (Option.some Jvm.ClassFile.FieldType.boolean)]
set_option maxRecDepth 65536 in
theorem codes_eq : words1.filter isCode = codes1 := rfl
theorem w_codes : ∀ c ∈ words1.filter isCode, c.before args0 about1 = true := by
  rw [codes_eq]
  intro c hc
  simp only [codes1, List.mem_cons, List.not_mem_nil, or_false] at hc
  rcases hc with rfl | rfl | rfl | rfl | rfl | rfl | rfl | rfl | rfl
  · exact w_c0
  · exact w_c1
  · exact w_c2
  · exact w_c3
  · exact w_c4
  · exact w_c5
  · exact w_c6
  · exact w_c7
  · exact w_c8
set_option maxRecDepth 65536 in
theorem w_t1 : (words1.take 24).all (fun c => isCode c || c.before args0 about1) = true := by decide +kernel
set_option maxRecDepth 65536 in
theorem w_t2 : ((words1.drop 24).take 24).all (fun c => isCode c || c.before args0 about1) = true := by decide +kernel
set_option maxRecDepth 65536 in
theorem w_t3 : ((words1.drop 24).drop 24).all (fun c => isCode c || c.before args0 about1) = true := by decide +kernel
theorem w_tables : (allAtoms (Jvm.Cond.code x code maxLocals ret :: tables_1)).before args0 about1 = true := by
  rw [allAtoms_all]
  show words1.all (fun c => c.before args0 about1) = true
  refine all_split ?_ w_codes
  rw [← List.take_append_drop 24 words1, List.all_append, w_t1, ← List.take_append_drop 24 (words1.drop 24), List.all_append, w_t2, w_t3]
  rfl
set_option maxRecDepth 65536 in
theorem w_rest : rest_1_c.before args0 about1 = true := by decide +kernel
set_option maxRecDepth 65536 in
theorem w_case : (Jvm.Cond.and given_1 narrow_1).before args0 about1 = true := by decide +kernel
theorem w_applies : (headSpec (Jvm.Cond.code x code maxLocals ret :: tables_1) room_1).applies x e0.platform about1 = true :=
  (Spec.applies_iff w_frames).mpr ⟨w_running, w_runnable, w_alone, w_named, w_hears, w_ripe, w_room, w_tables⟩
theorem atStart : AtStart classFile x code maxLocals ret World_1 tables_1 room_1 Calls_1 rest_1 Pre_1 launch0 p0 e0 about1 theMethod args0 below0 :=
  ⟨lists_1, trivial, launch0.admits_env _ _ _, launch0.least_env, fairChoices_fair.cas, fairChoices_fair.clock, w_frames, w_args, w_heap, w_applies, trivial, w_rest, w_case⟩
end start1
theorem witness_1 : WitnessClaimed_1 := ⟨start1.p0, start1.e0, start1.about1, start1.theMethod, start1.args0, start1.below0, start1.atStart⟩
end Jvm.Pilot.@@N@@
