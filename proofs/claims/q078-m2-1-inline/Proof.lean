import JvmDerived
import JvmDerived.Pilot.@@N@@Statement
import JvmDerived.Pilot.@@N@@Code
set_option linter.unusedVariables false
set_option linter.unusedSimpArgs false
/- laws to paste: StrChars.shr0, StrChars.shr1, StrChars.pair_says, StrChars.chr8_lo8, StrChars.narrow_ch, Road.wide_lo, Road.wide_hi, Road.low_at, Road.CodA, Road.codOf, Road.backV (cut by pick.py; bodies as the Statement names them) -/
namespace Jvm.Pilot.@@N@@
namespace StrChars
open Jvm Sem ClassFile Op Lib Jvm.Stand Jvm.Free.XT Jvm.Free.ALB Jvm.Free.JM Jvm.Free
open Jvm.Lib.Cold (StaticIs)
/-- a char array whose places are chars -/
def Ch (a : Addr) (A : Cell) (U : State) : Prop := Arr .char a A U ∧ Typed .char A
theorem Ch.mv {a : Addr} {A : Cell} {U U' : State} (h : Ch a A U) (hal : U.vm.Alike U'.vm) (hh : U'.heap = U.heap) : Ch a A U' := ⟨h.1.mv hal hh, h.2⟩
theorem Ch.keep {a : Addr} {A : Cell} {U U' : State} (h : Ch a A U) (hal : U.vm.Alike U'.vm) (hk : U'.heap[a]? = some A) : Ch a A U' := ⟨h.1.keep hal hk, h.2⟩
/-- what place i of a char[]'s cell holds -/
def cv (A : Cell) (i : Nat) : Int32 := match A.slots[i]? with | some (.int x) => x | _ => 0
theorem Ch.get {a : Addr} {A : Cell} {U : State} (h : Ch a A U) {i : Nat} (hi : i < A.slots.size) : A.slots[i]? = some (.int (cv A i)) := by
  have e := Array.getElem?_eq_getElem hi
  have f := h.2 i _ e
  unfold cv; rw [e]
  generalize A.slots[i] = v at f
  cases v <;> simp [fits] at f ⊢
/-- the byte that i2b leaves of a char -/
def lo8 (x : Int32) : Int32 := x.toInt8.toInt32
theorem fits_lo8 (y : Int32) : fits .byte (.int (lo8 y)) = true := by
  have h1 := y.toInt8.le_toInt
  have h2 := y.toInt8.toInt_lt
  simp only [lo8, fits, Bool.and_eq_true, decide_eq_true_eq, Int32.le_iff_toInt_le, Int8.toInt_toInt32, show (-128 : Int32).toInt = -128 from by decide, show (127 : Int32).toInt = 127 from by decide]
  omega
/-- A' is A but that each place j of lo .. hi - 1 holds f j -/
def Laid (A A' : Cell) (lo hi : Nat) (f : Nat → Value) : Prop := A'.cls = A.cls ∧ A'.vm = A.vm ∧ A'.slots.size = A.slots.size ∧ ∀ i, A'.slots[i]? = if lo ≤ i ∧ i < hi then some (f i) else A.slots[i]?
theorem Laid.zero (A : Cell) (lo : Nat) (f : Nat → Value) : Laid A A lo (lo + 0) f := ⟨rfl, rfl, rfl, fun i => by rw [if_neg (by omega)]⟩
theorem Laid.step {A Ak : Cell} {lo k : Nat} {f : Nat → Value} {v : Value} (h : Laid A Ak lo k f) (hlo : lo ≤ k) (hk : k < Ak.slots.size) (hv : v = f k) : Laid A (Ak.setSlot k v) lo (k + 1) f := by
  refine ⟨h.1, h.2.1, by simpa [Cell.setSlot] using h.2.2.1, fun i => ?_⟩
  by_cases e : k = i
  · subst e; rw [Cell.slots_setSlot_self v hk, if_pos (by omega), hv]
  · rw [Cell.slots_setSlot_ne v e, h.2.2.2 i]
    by_cases q : lo ≤ i ∧ i < k
    · rw [if_pos q, if_pos (by omega)]
    · rw [if_neg q, if_neg (by omega)]
def U16 : String := "java/lang/StringUTF16"
namespace Cmp5
def yN : MethodName := ⟨"java/lang/StringUTF16", "compress", "([CI[BII)I"⟩
abbrev yB : ByteArray := jdk_52_method_21_code
theorem d0 : decode yB 0 = .ok (.iconst 0, 1) := by decide +kernel
theorem d1 : decode yB 1 = .ok (.istore 5, 2) := by decide +kernel
theorem d3 : decode yB 3 = .ok (.iload 5, 2) := by decide +kernel
theorem d5 : decode yB 5 = .ok (.iload 4, 2) := by decide +kernel
theorem d7 : decode yB 7 = .ok (.if_icmp (.ge) 37, 3) := by decide +kernel
theorem d10 : decode yB 10 = .ok (.aload_n 0, 1) := by decide +kernel
theorem d11 : decode yB 11 = .ok (.iload_n 1, 1) := by decide +kernel
theorem d12 : decode yB 12 = .ok (.caload, 1) := by decide +kernel
theorem d13 : decode yB 13 = .ok (.istore 6, 2) := by decide +kernel
theorem d15 : decode yB 15 = .ok (.iload 6, 2) := by decide +kernel
theorem d17 : decode yB 17 = .ok (.sipush 255, 3) := by decide +kernel
theorem d20 : decode yB 20 = .ok (.if_icmp (.le) 6, 3) := by decide +kernel
theorem d26 : decode yB 26 = .ok (.aload_n 2, 1) := by decide +kernel
theorem d27 : decode yB 27 = .ok (.iload_n 3, 1) := by decide +kernel
theorem d28 : decode yB 28 = .ok (.iload 6, 2) := by decide +kernel
theorem d30 : decode yB 30 = .ok (.i2b, 1) := by decide +kernel
theorem d31 : decode yB 31 = .ok (.bastore, 1) := by decide +kernel
theorem d32 : decode yB 32 = .ok (.iinc 1 1, 3) := by decide +kernel
theorem d35 : decode yB 35 = .ok (.iinc 3 1, 3) := by decide +kernel
theorem d38 : decode yB 38 = .ok (.iinc 5 1, 3) := by decide +kernel
theorem d41 : decode yB 41 = .ok (.goto (-38), 3) := by decide +kernel
theorem d44 : decode yB 44 = .ok (.iload 4, 2) := by decide +kernel
theorem d46 : decode yB 46 = .ok (.ireturn, 1) := by decide +kernel
def site : List Cond := []
def tab : Cond := tabOf yN yB 7 (some .int) site
def P (b : Addr) (A : Cell) (d : Addr) (B : Cell) (o q len : Nat) (args : Array Value) (s : State) : Prop := args = #[.ref b, .int (Int32.ofNat o), .ref d, .int (Int32.ofNat q), .int (Int32.ofNat len)] ∧ Ch b A s ∧ Arr .byte d B s ∧ b ≠ d ∧ o + len ≤ A.slots.size ∧ q + len ≤ B.slots.size ∧ ∀ i, i < len → ¬ 255 < cv A (o + i)
def E (b : Addr) (A : Cell) (d : Addr) (B : Cell) (o q len : Nat) (r : Option Value) (s u : State) : Prop := r = some (.int (Int32.ofNat len)) ∧ ∃ B', Put d B' s u ∧ Laid B B' q (q + len) (fun j => Value.int (lo8 (cv A (o + (j - q)))))
/-- no char of the range above 255: len; the places written hold each char's low byte -/
theorem law (l : Launch) (b : Addr) (A : Cell) (d : Addr) (B : Cell) (o q len : Nat) : Law l yN 5 5 0 0 yB 7 (some .int) site (P b A d B o q len) (E b A d B o q len) (copyLocs d q len) 0 0 := by
  refine Law.of_walk (plainFor_of_name (by decide +kernel)) (by decide +kernel) (by decide +kernel) (by decide) (fun _ _ h => by rw [h.1]; rfl) (fun _ U U' hal hh h => ⟨h.1, h.2.1.mv hal hh, h.2.2.1.mv hal hh, h.2.2.2⟩) (fun r U U' V V' h1 hal h2 h => ⟨h.1, h.2.elim fun B' q => ⟨B', q.1.mv h1 h2, q.2⟩⟩) ?_
  intro p e s m args below meth c s₁ X0 hexec hbytes hml hret hlk hnm hown hh0 W hP
  obtain ⟨rfl, hA, hB, hne, l1, l2, hp⟩ := hP
  have c1 : Steps p.tables e below (s₁.setTop (entryFrame m #[.ref b, .int (Int32.ofNat o), .ref d, .int (Int32.ofNat q), .int (Int32.ofNat len)] 7)) (s₁.setTop (mkF m 0 #[.val (.ref b), .val (.int (Int32.ofNat o)), .val (.ref d), .val (.int (Int32.ofNat q)), .val (.int (Int32.ofNat len)), .unset, .unset] [])) := entry rfl
  have hA0 := hA.1.mv X0.warmed.alike hh0
  have hB0 := hB.mv X0.warmed.alike hh0
  have a31 := hA.1.2.2.2
  have c2 : Steps p.tables e below (s₁.setTop (entryFrame m #[.ref b, .int (Int32.ofNat o), .ref d, .int (Int32.ofNat q), .int (Int32.ofNat len)] 7)) (s₁.setTop (mkF m 3 #[.val (.ref b), .val (.int (Int32.ofNat o)), .val (.ref d), .val (.int (Int32.ofNat q)), .val (.int (Int32.ofNat len)), .val (.int 0), .unset] [])) := c1.trans (by
    refine iconstV X0.here hexec rfl 0 (hb hbytes d0) (by decide) ?_
    refine XS.istore X0.here hexec rfl (hb hbytes d1) rfl rfl ?_
    exact Steps.refl _)
  have loop : ∀ (r i : Nat), i + r = len → ∀ (z : Slot), (z = .unset ∨ ∃ w, z = .val w ∧ w.category = 1) → ∀ (Tl : State) (Bk : Cell), Stand p l e { frames := 0, locals := 0, cells := 0, slots := 0 } s m #[.ref b, .int (Int32.ofNat o), .ref d, .int (Int32.ofNat q), .int (Int32.ofNat len)] below meth c Tl ([] ++ copyLocs d q i) 0 0 → Put d Bk s₁ Tl → Laid B Bk q (q + i) (fun j => Value.int (lo8 (cv A (o + (j - q))))) →
      Steps p.tables e below (s₁.setTop (entryFrame m #[.ref b, .int (Int32.ofNat o), .ref d, .int (Int32.ofNat q), .int (Int32.ofNat len)] 7)) (Tl.setTop (mkF m 3 #[.val (.ref b), .val (.int (Int32.ofNat (o + i))), .val (.ref d), .val (.int (Int32.ofNat (q + i))), .val (.int (Int32.ofNat len)), .val (.int (Int32.ofNat i)), z] [])) → ∃ (T' : State) (B' : Cell) (z' : Slot), Stand p l e { frames := 0, locals := 0, cells := 0, slots := 0 } s m #[.ref b, .int (Int32.ofNat o), .ref d, .int (Int32.ofNat q), .int (Int32.ofNat len)] below meth c T' ([] ++ copyLocs d q len) 0 0 ∧ Put d B' s₁ T' ∧ Laid B B' q (q + len) (fun j => Value.int (lo8 (cv A (o + (j - q))))) ∧
      Steps p.tables e below (s₁.setTop (entryFrame m #[.ref b, .int (Int32.ofNat o), .ref d, .int (Int32.ofNat q), .int (Int32.ofNat len)] 7)) (T'.setTop (mkF m 3 #[.val (.ref b), .val (.int (Int32.ofNat (o + len))), .val (.ref d), .val (.int (Int32.ofNat (q + len))), .val (.int (Int32.ofNat len)), .val (.int (Int32.ofNat len)), z'] [])) := by
    intro r
    induction r with
    | zero =>
      intro i hi z hz Tl Bk Xl pl fl cl
      have hil : i = len := by omega
      rw [hil] at Xl fl cl
      exact ⟨Tl, Bk, z, Xl, pl, fl, cl⟩
    | succ r ih =>
      intro i hi z hz Tl Bk Xl pl fl cl
      have all := X0.warmed.alike.symm.trans Xl.warmed.alike
      have hAl := hA0.keep all (pl.other hne hA0.1)
      have hBk := hB0.like all pl.1 fl.1 fl.2.1 fl.2.2.1
      have hlt : q + i < Bk.slots.size := by rw [fl.2.2.1]; omega
      have c3 : Steps p.tables e below (s₁.setTop (entryFrame m #[.ref b, .int (Int32.ofNat o), .ref d, .int (Int32.ofNat q), .int (Int32.ofNat len)] 7)) (Tl.setTop (mkF m 12 #[.val (.ref b), .val (.int (Int32.ofNat (o + i))), .val (.ref d), .val (.int (Int32.ofNat (q + i))), .val (.int (Int32.ofNat len)), .val (.int (Int32.ofNat i)), z] [.int (Int32.ofNat (o + i)), .ref b])) := cl.trans (by
        refine XS.iload Xl.here hexec rfl (hb hbytes d3) rfl ?_
        refine XS.iload Xl.here hexec rfl (hb hbytes d5) rfl ?_
        refine XS.icmpNo Xl.here hexec rfl (hb hbytes d7) rfl (ii_ge_f (lt32 (by omega) (by omega))) ?_
        refine XS.aloadN Xl.here hexec rfl (hb hbytes d10) rfl rfl ?_
        refine XS.iloadN Xl.here hexec rfl (hb hbytes d11) rfl ?_
        exact Steps.refl _)
      have c4 : Steps p.tables e below (s₁.setTop (entryFrame m #[.ref b, .int (Int32.ofNat o), .ref d, .int (Int32.ofNat q), .int (Int32.ofNat len)] 7)) (Tl.setTop (mkF m 13 #[.val (.ref b), .val (.int (Int32.ofNat (o + i))), .val (.ref d), .val (.int (Int32.ofNat (q + i))), .val (.int (Int32.ofNat len)), .val (.int (Int32.ofNat i)), z] [.int (cv A (o + i))])) := c3.trans (by
        refine Xl.aget hexec hAl rfl (hA.get (i := o + i) (by omega)) rfl rfl (hb hbytes d12) ?_
        exact Steps.refl _)
      have c5 : Steps p.tables e below (s₁.setTop (entryFrame m #[.ref b, .int (Int32.ofNat o), .ref d, .int (Int32.ofNat q), .int (Int32.ofNat len)] 7)) (Tl.setTop (mkF m 15 #[.val (.ref b), .val (.int (Int32.ofNat (o + i))), .val (.ref d), .val (.int (Int32.ofNat (q + i))), .val (.int (Int32.ofNat len)), .val (.int (Int32.ofNat i)), .val (.int (cv A (o + i)))] [])) := c4.trans (by
        refine XS.istoreS Xl.here hexec rfl (hb hbytes d13) rfl rfl hz ?_
        exact Steps.refl _)
      have c6 : Steps p.tables e below (s₁.setTop (entryFrame m #[.ref b, .int (Int32.ofNat o), .ref d, .int (Int32.ofNat q), .int (Int32.ofNat len)] 7)) (Tl.setTop (mkF m 31 #[.val (.ref b), .val (.int (Int32.ofNat (o + i))), .val (.ref d), .val (.int (Int32.ofNat (q + i))), .val (.int (Int32.ofNat len)), .val (.int (Int32.ofNat i)), .val (.int (cv A (o + i)))] [.int (lo8 (cv A (o + i))), .int (Int32.ofNat (q + i)), .ref d])) := c5.trans (by
        refine XS.iload Xl.here hexec rfl (hb hbytes d15) rfl ?_
        refine sipushV Xl.here hexec rfl 255 (hb hbytes d17) (by decide) ?_
        refine XS.icmpYes Xl.here hexec rfl (pc0 := 20) rfl (hb hbytes d20) rfl (ii_le_t (hp i (by omega))) (by decide) rfl ?_
        refine XS.aloadN Xl.here hexec rfl (hb hbytes d26) rfl rfl ?_
        refine XS.iloadN Xl.here hexec rfl (hb hbytes d27) rfl ?_
        refine XS.iload Xl.here hexec rfl (hb hbytes d28) rfl ?_
        refine i2b Xl.here hexec rfl (hb hbytes d30) rfl ?_
        exact Steps.refl _)
      obtain ⟨T7, X7, p7, st7⟩ := Xl.aput hexec hBk rfl hlt rfl (fits_lo8 (cv A (o + i))) (g := (mkF m 31 #[.val (.ref b), .val (.int (Int32.ofNat (o + i))), .val (.ref d), .val (.int (Int32.ofNat (q + i))), .val (.int (Int32.ofNat len)), .val (.int (Int32.ofNat i)), .val (.int (cv A (o + i)))] [.int (lo8 (cv A (o + i))), .int (Int32.ofNat (q + i)), .ref d])) rfl (rest := []) rfl (hb hbytes d31)
      have c8 : Steps p.tables e below (s₁.setTop (entryFrame m #[.ref b, .int (Int32.ofNat o), .ref d, .int (Int32.ofNat q), .int (Int32.ofNat len)] 7)) (T7.setTop (mkF m 32 #[.val (.ref b), .val (.int (Int32.ofNat (o + i))), .val (.ref d), .val (.int (Int32.ofNat (q + i))), .val (.int (Int32.ofNat len)), .val (.int (Int32.ofNat i)), .val (.int (cv A (o + i)))] [])) := c6.trans (st7 _ (Steps.refl _))
      have c9 : Steps p.tables e below (s₁.setTop (entryFrame m #[.ref b, .int (Int32.ofNat o), .ref d, .int (Int32.ofNat q), .int (Int32.ofNat len)] 7)) (T7.setTop (mkF m 3 #[.val (.ref b), .val (.int (Int32.ofNat (o + i) + 1)), .val (.ref d), .val (.int (Int32.ofNat (q + i) + 1)), .val (.int (Int32.ofNat len)), .val (.int (Int32.ofNat i + 1)), .val (.int (cv A (o + i)))] [])) := c8.trans (by
        refine iincV X7.here hexec rfl 1 (hb hbytes d32) (by decide) rfl rfl ?_
        refine iincV X7.here hexec rfl 1 (hb hbytes d35) (by decide) rfl rfl ?_
        refine iincV X7.here hexec rfl 1 (hb hbytes d38) (by decide) rfl rfl ?_
        refine XS.goto X7.here hexec rfl (pc0 := 41) rfl (hb hbytes d41) (by decide) rfl ?_
        exact Steps.refl _)
      have c10 : Steps p.tables e below (s₁.setTop (entryFrame m #[.ref b, .int (Int32.ofNat o), .ref d, .int (Int32.ofNat q), .int (Int32.ofNat len)] 7)) (T7.setTop (mkF m 3 #[.val (.ref b), .val (.int (Int32.ofNat (o + (i + 1)))), .val (.ref d), .val (.int (Int32.ofNat (q + (i + 1)))), .val (.int (Int32.ofNat len)), .val (.int (Int32.ofNat (i + 1))), .val (.int (cv A (o + i)))] [])) := by
        have := c9
        rw [succ32, succ32, succ32] at this
        exact this
      exact ih (i + 1) (by omega) _ (Or.inr ⟨_, rfl, rfl⟩) T7 _ (by rw [copyLocs_step, ← List.append_assoc]; exact X7) (pl.trans p7) (fl.step (by omega) hlt (by simp)) c10
  obtain ⟨T9, B9, z9, X9, p9, f9, g9⟩ := loop len 0 (by omega) .unset (Or.inl rfl) s₁ B (by simpa [copyLocs] using X0) ⟨hB0.1, fun _ _ => rfl, rfl⟩ (Laid.zero _ _ _) c2
  have c11 : Steps p.tables e below (s₁.setTop (entryFrame m #[.ref b, .int (Int32.ofNat o), .ref d, .int (Int32.ofNat q), .int (Int32.ofNat len)] 7)) (T9.setTop (mkF m 46 #[.val (.ref b), .val (.int (Int32.ofNat (o + len))), .val (.ref d), .val (.int (Int32.ofNat (q + len))), .val (.int (Int32.ofNat len)), .val (.int (Int32.ofNat len)), z9] [.int (Int32.ofNat len)])) := g9.trans (by
    refine XS.iload X9.here hexec rfl (hb hbytes d3) rfl ?_
    refine XS.iload X9.here hexec rfl (hb hbytes d5) rfl ?_
    refine XS.icmpYes X9.here hexec rfl (pc0 := 7) rfl (hb hbytes d7) rfl (ii_ge_t (nlt32 (by omega) (Nat.le_refl _))) (by decide) rfl ?_
    refine XS.iload X9.here hexec rfl (hb hbytes d44) rfl ?_
    exact Steps.refl _)
  exact ⟨T9, some (.int (Int32.ofNat len)), _, _, _, X9, by simp, rfl, rfl, (fun h => by cases h), ⟨rfl, B9, p9.from hh0, f9⟩, fun fs hl => c11.trans (X9.ireturnOut hexec hret rfl (Or.inl rfl) (hb hbytes d46) hl)⟩
end Cmp5
namespace Cmp3
def yN : MethodName := ⟨"java/lang/StringUTF16", "compress", "([CII)[B"⟩
abbrev yB : ByteArray := jdk_52_method_16_code
theorem d0 : decode yB 0 = .ok (.iload_n 2, 1) := by decide +kernel
theorem d1 : decode yB 1 = .ok (.newarray .byte, 2) := by decide +kernel
theorem d3 : decode yB 3 = .ok (.astore_n 3, 1) := by decide +kernel
theorem d4 : decode yB 4 = .ok (.aload_n 0, 1) := by decide +kernel
theorem d5 : decode yB 5 = .ok (.iload_n 1, 1) := by decide +kernel
theorem d6 : decode yB 6 = .ok (.aload_n 3, 1) := by decide +kernel
theorem d7 : decode yB 7 = .ok (.iconst 0, 1) := by decide +kernel
theorem d8 : decode yB 8 = .ok (.iload_n 2, 1) := by decide +kernel
theorem d9 : decode yB 9 = .ok (.invokestatic 115, 3) := by decide +kernel
theorem d12 : decode yB 12 = .ok (.istore 4, 2) := by decide +kernel
theorem d14 : decode yB 14 = .ok (.iload 4, 2) := by decide +kernel
theorem d16 : decode yB 16 = .ok (.iload_n 2, 1) := by decide +kernel
theorem d17 : decode yB 17 = .ok (.if_icmp (.eq) 40, 3) := by decide +kernel
theorem d57 : decode yB 57 = .ok (.aload_n 3, 1) := by decide +kernel
theorem d58 : decode yB 58 = .ok (.areturn, 1) := by decide +kernel
def site : List Cond := [.arrayClass .byte, Cmp5.tab] ++ staticW U16 115 Cmp5.yN
def tab : Cond := tabOf yN yB 6 (some (.array .byte)) site
def P (b : Addr) (A : Cell) (o len : Nat) (args : Array Value) (s : State) : Prop := args = #[.ref b, .int (Int32.ofNat o), .int (Int32.ofNat len)] ∧ Ch b A s ∧ o + len ≤ A.slots.size ∧ len ≤ 536870912 ∧ ∀ i, i < len → ¬ 255 < cv A (o + i)
def E (b : Addr) (A : Cell) (o len : Nat) (r : Option Value) (s u : State) : Prop := NewArr .byte "[B" len (fun j => .int (lo8 (cv A (o + j)))) r s u ∧ u.heap.size = s.heap.size + 1
/-- no char of the range above 255: a new byte[] of their low bytes -/
theorem law (l : Launch) (b : Addr) (A : Cell) (o len : Nat) : Law l yN 3 3 1 18 yB 6 (some (.array .byte)) site (P b A o len) (E b A o len) [] 1 len := by
  refine Law.of_walk (plainFor_of_name (by decide +kernel)) (by decide +kernel) (by decide +kernel) (by decide) (fun _ _ h => by rw [h.1]; rfl) (fun _ U U' hal hh h => ⟨h.1, h.2.1.mv hal hh, h.2.2⟩) (fun r U U' V V' h1 hal h2 h => ⟨NewArr.mv r U U' V V' h1 hal h2 h.1, by rw [h1, h2]; exact h.2⟩) ?_
  intro p e s m args below meth c s₁ X0 hexec hbytes hml hret hlk hnm hown hh0 W hP
  obtain ⟨rfl, hA, l1, l2, hp⟩ := hP
  have a31 := hA.1.2.2.2
  have c1 : Steps p.tables e below (s₁.setTop (entryFrame m #[.ref b, .int (Int32.ofNat o), .int (Int32.ofNat len)] 6)) (s₁.setTop (mkF m 0 #[.val (.ref b), .val (.int (Int32.ofNat o)), .val (.int (Int32.ofNat len)), .unset, .unset, .unset] [])) := entry rfl
  have c2 : Steps p.tables e below (s₁.setTop (entryFrame m #[.ref b, .int (Int32.ofNat o), .int (Int32.ofNat len)] 6)) (s₁.setTop (mkF m 1 #[.val (.ref b), .val (.int (Int32.ofNat o)), .val (.int (Int32.ofNat len)), .unset, .unset, .unset] [.int (Int32.ofNat len)])) := c1.trans (by
    refine XS.iloadN X0.here hexec rfl (hb hbytes d0) rfl ?_
    exact Steps.refl _)
  obtain ⟨T3, B3, X3, ba3, bs3, bv3, bh3, bf3, st3⟩ := X0.anew hexec (atype := .byte) (wk W (.arrayClass .byte)) rfl (by show len * 1 ≤ _; omega) (by omega) (g := (mkF m 1 #[.val (.ref b), .val (.int (Int32.ofNat o)), .val (.int (Int32.ofNat len)), .unset, .unset, .unset] [.int (Int32.ofNat len)])) rfl (hb hbytes d1) (rest := []) rfl (Nat.le_refl _) (by show 0 + len ≤ len; omega)
  rw [hh0] at ba3 st3
  have kp3 : XT.Kept s T3 := (XT.Kept.of_eq hh0).push bh3
  have hA3 := hA.keep X3.warmed.alike (kp3 _ _ hA.1.1)
  have hne : b ≠ s.heap.size := hA.1.ne
  have c4 : Steps p.tables e below (s₁.setTop (entryFrame m #[.ref b, .int (Int32.ofNat o), .int (Int32.ofNat len)] 6)) (T3.setTop (mkF m 3 #[.val (.ref b), .val (.int (Int32.ofNat o)), .val (.int (Int32.ofNat len)), .unset, .unset, .unset] [.ref s.heap.size])) := c2.trans (st3 _ (Steps.refl _))
  have c5 : Steps p.tables e below (s₁.setTop (entryFrame m #[.ref b, .int (Int32.ofNat o), .int (Int32.ofNat len)] 6)) (T3.setTop (mkF m 9 #[.val (.ref b), .val (.int (Int32.ofNat o)), .val (.int (Int32.ofNat len)), .val (.ref s.heap.size), .unset, .unset] [.int (Int32.ofNat len), .int 0, .ref s.heap.size, .int (Int32.ofNat o), .ref b])) := c4.trans (by
    refine XS.astoreN X3.here hexec rfl (hb hbytes d3) rfl rfl rfl ?_
    refine XS.aloadN X3.here hexec rfl (hb hbytes d4) rfl rfl ?_
    refine XS.iloadN X3.here hexec rfl (hb hbytes d5) rfl ?_
    refine XS.aloadN X3.here hexec rfl (hb hbytes d6) rfl rfl ?_
    refine iconstV X3.here hexec rfl 0 (hb hbytes d7) (by decide) ?_
    refine XS.iloadN X3.here hexec rfl (hb hbytes d8) rfl ?_
    exact Steps.refl _)
  obtain ⟨v6, T6, X6, E6, g6⟩ := X3.callS hexec (Cmp5.law l b A s.heap.size B3 o 0 len) hown (wks W (staticW U16 115 Cmp5.yN)) (wk W Cmp5.tab) (W := 0) (Nat.le_of_ble_eq_true rfl) (Nat.le_of_ble_eq_true rfl) (Nat.le_refl _) (by show 0 + len + 0 ≤ len; omega) (g := (mkF m 9 #[.val (.ref b), .val (.int (Int32.ofNat o)), .val (.int (Int32.ofNat len)), .val (.ref s.heap.size), .unset, .unset] [.int (Int32.ofNat len), .int (Int32.ofNat 0), .ref s.heap.size, .int (Int32.ofNat o), .ref b])) rfl (by rw [hml]; rfl) c5 (argsL := [.ref b, .int (Int32.ofNat o), .ref s.heap.size, .int (Int32.ofNat 0), .int (Int32.ofNat len)]) (rest := []) rfl rfl (by show 2 * 0 + 0 ≤ _; decide) (hb hbytes d9) (⟨rfl, hA3, ba3, hne, l1, by rw [bs3]; simp, hp⟩)
  obtain ⟨rfl, B6, p6, f6⟩ := E6
  have c7 : Steps p.tables e below (s₁.setTop (entryFrame m #[.ref b, .int (Int32.ofNat o), .int (Int32.ofNat len)] 6)) (T6.setTop (mkF m 12 #[.val (.ref b), .val (.int (Int32.ofNat o)), .val (.int (Int32.ofNat len)), .val (.ref s.heap.size), .unset, .unset] [.int (Int32.ofNat len)])) := g6
  have c8 : Steps p.tables e below (s₁.setTop (entryFrame m #[.ref b, .int (Int32.ofNat o), .int (Int32.ofNat len)] 6)) (T6.setTop (mkF m 58 #[.val (.ref b), .val (.int (Int32.ofNat o)), .val (.int (Int32.ofNat len)), .val (.ref s.heap.size), .val (.int (Int32.ofNat len)), .unset] [.ref s.heap.size])) := c7.trans (by
    refine XS.istore X6.here hexec rfl (hb hbytes d12) rfl rfl ?_
    refine XS.iload X6.here hexec rfl (hb hbytes d14) rfl ?_
    refine XS.iloadN X6.here hexec rfl (hb hbytes d16) rfl ?_
    refine XS.icmpYes X6.here hexec rfl (pc0 := 17) rfl (hb hbytes d17) rfl (ii_eq_t rfl) (by decide) rfl ?_
    refine XS.aloadN X6.here hexec rfl (hb hbytes d57) rfl rfl ?_
    exact Steps.refl _)
  have X8 := X6.wide (L' := []) (cells' := 1) (slots' := len) (fun x hx hlt => by
    simp only [List.nil_append, copyLocs, List.mem_map, List.mem_range] at hx
    obtain ⟨i, -, rfl⟩ := hx
    exact absurd hlt (Nat.lt_irrefl _)) (Nat.le_refl _) (by omega)
  exact ⟨T6, some (.ref s.heap.size), _, _, _, X8, rfl, rfl, rfl, (fun h => by cases h), ⟨⟨rfl, B6, ba3.like (X3.warmed.alike.symm.trans X6.warmed.alike) p6.1 f6.1 f6.2.1 f6.2.2.1, f6.2.1.trans bv3, by rw [X6.warmed.alike.findClass, f6.1]; exact bf3, by rw [f6.2.2.1, bs3]; simp, fun j hj => by rw [f6.2.2.2 j, if_pos (by omega)]; rfl, kp3.put p6 (Nat.le_refl _)⟩, by rw [p6.2.2, bh3, hh0]; simp⟩, fun fs hl => c8.trans (X8.areturnOut hexec rfl hret rfl (hb hbytes d58) hl)⟩
end Cmp3
namespace CodL
def yN : MethodName := ⟨"java/lang/StringUTF16", "coderFromArrayLen", "([BI)B"⟩
abbrev yB : ByteArray := jdk_52_method_15_code
theorem d0 : decode yB 0 = .ok (.iload_n 1, 1) := by decide +kernel
theorem d1 : decode yB 1 = .ok (.aload_n 0, 1) := by decide +kernel
theorem d2 : decode yB 2 = .ok (.arraylength, 1) := by decide +kernel
theorem d3 : decode yB 3 = .ok (.isub, 1) := by decide +kernel
theorem d4 : decode yB 4 = .ok (.bipush 31, 2) := by decide +kernel
theorem d6 : decode yB 6 = .ok (.iushr, 1) := by decide +kernel
theorem d7 : decode yB 7 = .ok (.i2b, 1) := by decide +kernel
theorem d8 : decode yB 8 = .ok (.ireturn, 1) := by decide +kernel
def site : List Cond := []
def tab : Cond := tabOf yN yB 2 (some .byte) site
def P (d : Addr) (B : Cell) (args : Array Value) (s : State) : Prop := args = #[.ref d, .int (Int32.ofNat B.slots.size)] ∧ Arr .byte d B s
def E (r : Option Value) (s u : State) : Prop := XT.PureE (some (.int 0)) r s u
/-- an array as long as the number of chars: LATIN1 -/
theorem law (l : Launch) (d : Addr) (B : Cell) : Law l yN 2 2 0 0 yB 2 (some .byte) site (P d B) E [] 0 0 := by
  refine Law.of_walk (plainFor_of_name (by decide +kernel)) (by decide +kernel) (by decide +kernel) (by decide) (fun _ _ h => by rw [h.1]; rfl) (fun _ U U' hal hh h => ⟨h.1, h.2.mv hal hh⟩) (fun r U U' V V' h1 hal h2 h => XT.PureE.mv r U U' V V' h1 hal h2 h) ?_
  intro p e s m args below meth c s₁ X0 hexec hbytes hml hret hlk hnm hown hh0 W hP
  obtain ⟨rfl, hB⟩ := hP
  have hB0 := hB.mv X0.warmed.alike hh0
  have c1 : Steps p.tables e below (s₁.setTop (entryFrame m #[.ref d, .int (Int32.ofNat B.slots.size)] 2)) (s₁.setTop (mkF m 0 #[.val (.ref d), .val (.int (Int32.ofNat B.slots.size))] [])) := entry rfl
  have c2 : Steps p.tables e below (s₁.setTop (entryFrame m #[.ref d, .int (Int32.ofNat B.slots.size)] 2)) (s₁.setTop (mkF m 2 #[.val (.ref d), .val (.int (Int32.ofNat B.slots.size))] [.ref d, .int (Int32.ofNat B.slots.size)])) := c1.trans (by
    refine XS.iloadN X0.here hexec rfl (hb hbytes d0) rfl ?_
    refine XS.aloadN X0.here hexec rfl (hb hbytes d1) rfl rfl ?_
    exact Steps.refl _)
  have c3 : Steps p.tables e below (s₁.setTop (entryFrame m #[.ref d, .int (Int32.ofNat B.slots.size)] 2)) (s₁.setTop (mkF m 8 #[.val (.ref d), .val (.int (Int32.ofNat B.slots.size))] [.int (lo8 (ushr (Int32.ofNat B.slots.size - Int32.ofNat B.slots.size) 31))])) := c2.trans (by
    refine X0.alen hexec hB0 rfl rfl (hb hbytes d2) ?_
    refine XS.isub X0.here hexec rfl (hb hbytes d3) rfl ?_
    refine bipushV X0.here hexec rfl 31 (hb hbytes d4) (by decide) ?_
    refine iushr X0.here hexec rfl (hb hbytes d6) rfl ?_
    refine i2b X0.here hexec rfl (hb hbytes d7) rfl ?_
    exact Steps.refl _)
  have e0 : lo8 (ushr (Int32.ofNat B.slots.size - Int32.ofNat B.slots.size) 31) = 0 := by rw [Int32.sub_self]; decide
  rw [e0] at c3
  exact ⟨s₁, some (.int 0), _, _, _, X0, rfl, rfl, rfl, (fun h => by cases h), ⟨rfl, hh0⟩, fun fs hl => c3.trans (X0.ireturnOut hexec hret rfl (Or.inr (Or.inr (Or.inl rfl))) (hb hbytes d8) hl)⟩
end CodL
/-- the String at a is Latin-1 over a new byte[] (the heap's one new cell): the low bytes of the len chars of A from o on; every cell but a is kept -/
def Got (a : Addr) (D : Cell) (fV fC : Field) (A : Cell) (o len : Nat) (r : Option Value) (s u : State) : Prop := r = none ∧ ∃ D' V : Cell, Blank "java/lang/String" a D' u ∧ Same D D' [fV.slot, fC.slot] ∧ D'.slots[fV.slot]? = some (.ref s.heap.size) ∧ D'.slots[fC.slot]? = some (.int 0) ∧ Arr .byte s.heap.size V u ∧ V.vm = .none ∧ u.vm.findClass "[B" = some V.cls ∧ V.slots.size = len ∧ (∀ j, j < len → V.slots[j]? = some (.int (lo8 (cv A (o + j))))) ∧ (∀ (y : Addr) (c : Cell), y ≠ a → s.heap[y]? = some c → u.heap[y]? = some c) ∧ u.heap.size = s.heap.size + 1
theorem Got.mv {a : Addr} {D A : Cell} {fV fC : Field} {o len : Nat} : ∀ r (U U' V V' : State), U'.heap = U.heap → V.vm.Alike V'.vm → V'.heap = V.heap → Got a D fV fC A o len r U V → Got a D fV fC A o len r U' V' :=
  fun r U U' V V' h1 hal h2 ⟨e0, D', X, a1, a2, a3, a4, a5, a6, a7, a8, a9, a10, a11⟩ => ⟨e0, D', X, a1.mv hal h2, a2, by rw [h1]; exact a3, a4, by rw [h1]; exact a5.mv hal h2, a6, by rw [hal.findClass]; exact a7, a8, a9, by rw [h1, h2]; exact a10, by rw [h1, h2]; exact a11⟩
namespace New4
def yN : MethodName := ⟨"java/lang/String", "<init>", "([CIILjava/lang/Void;)V"⟩
abbrev yB : ByteArray := jdk_42_method_149_code
theorem d0 : decode yB 0 = .ok (.aload_n 0, 1) := by decide +kernel
theorem d1 : decode yB 1 = .ok (.invokespecial 1, 3) := by decide +kernel
theorem d4 : decode yB 4 = .ok (.iload_n 3, 1) := by decide +kernel
theorem d5 : decode yB 5 = .ok (.ifCond (.ne) 22, 3) := by decide +kernel
theorem d27 : decode yB 27 = .ok (.getstatic 38, 3) := by decide +kernel
theorem d30 : decode yB 30 = .ok (.ifCond (.eq) 28, 3) := by decide +kernel
theorem d33 : decode yB 33 = .ok (.aload_n 1, 1) := by decide +kernel
theorem d34 : decode yB 34 = .ok (.iload_n 2, 1) := by decide +kernel
theorem d35 : decode yB 35 = .ok (.iload_n 3, 1) := by decide +kernel
theorem d36 : decode yB 36 = .ok (.invokestatic 177, 3) := by decide +kernel
theorem d39 : decode yB 39 = .ok (.astore 5, 2) := by decide +kernel
theorem d41 : decode yB 41 = .ok (.aload_n 0, 1) := by decide +kernel
theorem d42 : decode yB 42 = .ok (.aload 5, 2) := by decide +kernel
theorem d44 : decode yB 44 = .ok (.iload_n 3, 1) := by decide +kernel
theorem d45 : decode yB 45 = .ok (.invokestatic 47, 3) := by decide +kernel
theorem d48 : decode yB 48 = .ok (.putfield 15, 3) := by decide +kernel
theorem d51 : decode yB 51 = .ok (.aload_n 0, 1) := by decide +kernel
theorem d52 : decode yB 52 = .ok (.aload 5, 2) := by decide +kernel
theorem d54 : decode yB 54 = .ok (.putfield 9, 3) := by decide +kernel
theorem d57 : decode yB 57 = .ok (.return_, 1) := by decide +kernel
def site : List Cond := [.fieldLink "java/lang/String" 38 "java/lang/String" "COMPACT_STRINGS" "Z", Cmp3.tab, CodL.tab, .laysFinal "java/lang/String" "java/lang/String" "value" "[B", .fieldLink "java/lang/String" 9 "java/lang/String" "value" "[B", .laysFinal "java/lang/String" "java/lang/String" "coder" "B", .fieldLink "java/lang/String" 15 "java/lang/String" "coder" "B"] ++ objW "java/lang/String" 1 ++ staticW "java/lang/String" 177 Cmp3.yN ++ staticW "java/lang/String" 47 CodL.yN
def tab : Cond := tabOf yN yB 6 none site
def P (a : Addr) (D : Cell) (fV fC : Field) (b : Addr) (A : Cell) (z : Int32) (o len : Nat) (args : Array Value) (s : State) : Prop := args = #[.ref a, .ref b, .int (Int32.ofNat o), .int (Int32.ofNat len), .null] ∧ Blank "java/lang/String" a D s ∧ Found "java/lang/String" "value" "[B" fV s ∧ Found "java/lang/String" "coder" "B" fC s ∧ Ch b A s ∧ StaticIs s "java/lang/String" "COMPACT_STRINGS" "Z" (.int z) ∧ ¬ z = 0 ∧ 0 < len ∧ o + len ≤ A.slots.size ∧ len ≤ 536870912 ∧ ∀ i, i < len → ¬ 255 < cv A (o + i)
def E (a : Addr) (D : Cell) (fV fC : Field) (A : Cell) (o len : Nat) (r : Option Value) (s u : State) : Prop := Got a D fV fC A o len r s u
/-- len > 0, no char of the range above 255: a Latin-1 String of their low bytes -/
theorem law (l : Launch) (a : Addr) (D : Cell) (fV fC : Field) (b : Addr) (A : Cell) (z : Int32) (o len : Nat) : Law l yN 5 4 2 35 yB 6 none site (P a D fV fC b A z o len) (E a D fV fC A o len) [⟨a, fC.slot⟩, ⟨a, fV.slot⟩] 1 len := by
  refine Law.of_walk (plainFor_of_name (by decide +kernel)) (by decide +kernel) (by decide +kernel) (by decide) (fun _ _ h => by rw [h.1]; rfl) (fun _ U U' hal hh h => ⟨h.1, h.2.1.mv hal hh, h.2.2.1.al hal, h.2.2.2.1.al hal, h.2.2.2.2.1.mv hal hh, h.2.2.2.2.2.1.there hal hh, h.2.2.2.2.2.2⟩) (fun r U U' V V' h1 hal h2 h => Got.mv r U U' V V' h1 hal h2 h) ?_
  intro p e s m args below meth c s₁ X0 hexec hbytes hml hret hlk hnm hown hh0 W hP
  obtain ⟨rfl, hB, f1, f2, hA, s1, hz, l0, l1, l2, hp⟩ := hP
  have a31 := hA.1.2.2.2
  have c1 : Steps p.tables e below (s₁.setTop (entryFrame m #[.ref a, .ref b, .int (Int32.ofNat o), .int (Int32.ofNat len), .null] 6)) (s₁.setTop (mkF m 0 #[.val (.ref a), .val (.ref b), .val (.int (Int32.ofNat o)), .val (.int (Int32.ofNat len)), .val .null, .unset] [])) := entry rfl
  have c2 : Steps p.tables e below (s₁.setTop (entryFrame m #[.ref a, .ref b, .int (Int32.ofNat o), .int (Int32.ofNat len), .null] 6)) (s₁.setTop (mkF m 1 #[.val (.ref a), .val (.ref b), .val (.int (Int32.ofNat o)), .val (.int (Int32.ofNat len)), .val .null, .unset] [.ref a])) := c1.trans (by
    refine XS.aloadN X0.here hexec rfl (hb hbytes d0) rfl rfl ?_
    exact Steps.refl _)
  obtain ⟨T3, X3, q3, st3⟩ := X0.oinit hexec hown (wks W (objW "java/lang/String" 1)) (g := (mkF m 1 #[.val (.ref a), .val (.ref b), .val (.int (Int32.ofNat o)), .val (.int (Int32.ofNat len)), .val .null, .unset] [.ref a])) rfl (by rw [hml]; rfl) (rest := []) rfl (hb hbytes d1) (W := 0) (by show 2 * 0 + 0 ≤ _; decide) (Nat.le_of_ble_eq_true rfl) (Nat.le_of_ble_eq_true rfl)
  have hh3 := q3.trans hh0
  have c4 : Steps p.tables e below (s₁.setTop (entryFrame m #[.ref a, .ref b, .int (Int32.ofNat o), .int (Int32.ofNat len), .null] 6)) (T3.setTop (mkF m 27 #[.val (.ref a), .val (.ref b), .val (.int (Int32.ofNat o)), .val (.int (Int32.ofNat len)), .val .null, .unset] [])) := (c2.trans (st3 _ (Steps.refl _))).trans (by
    refine XS.iloadN X3.here hexec rfl (hb hbytes d4) rfl ?_
    refine XS.ifYes X3.here hexec rfl (pc0 := 5) rfl (hb hbytes d5) rfl (i0_ne_t (nz32 (by omega) l0)) (by decide) rfl ?_
    exact Steps.refl _)
  obtain ⟨T5, X5, q5, st5⟩ := X3.sget hexec hown (wk W (.fieldLink "java/lang/String" 38 "java/lang/String" "COMPACT_STRINGS" "Z")) s1 (fun _ _ h => by rw [hh3]; exact h) (g := (mkF m 27 #[.val (.ref a), .val (.ref b), .val (.int (Int32.ofNat o)), .val (.int (Int32.ofNat len)), .val .null, .unset] [])) rfl (hb hbytes d27)
  have hh5 := q5.trans hh3
  have c6 : Steps p.tables e below (s₁.setTop (entryFrame m #[.ref a, .ref b, .int (Int32.ofNat o), .int (Int32.ofNat len), .null] 6)) (T5.setTop (mkF m 30 #[.val (.ref a), .val (.ref b), .val (.int (Int32.ofNat o)), .val (.int (Int32.ofNat len)), .val .null, .unset] [.int z])) := c4.trans (st5 _ (Steps.refl _))
  have c7 : Steps p.tables e below (s₁.setTop (entryFrame m #[.ref a, .ref b, .int (Int32.ofNat o), .int (Int32.ofNat len), .null] 6)) (T5.setTop (mkF m 36 #[.val (.ref a), .val (.ref b), .val (.int (Int32.ofNat o)), .val (.int (Int32.ofNat len)), .val .null, .unset] [.int (Int32.ofNat len), .int (Int32.ofNat o), .ref b])) := c6.trans (by
    refine XS.ifNo X5.here hexec rfl (hb hbytes d30) rfl (i0_eq_f hz) ?_
    refine XS.aloadN X5.here hexec rfl (hb hbytes d33) rfl rfl ?_
    refine XS.iloadN X5.here hexec rfl (hb hbytes d34) rfl ?_
    refine XS.iloadN X5.here hexec rfl (hb hbytes d35) rfl ?_
    exact Steps.refl _)
  obtain ⟨v8, T8, X8, E8, g8⟩ := X5.callS hexec (Cmp3.law l b A o len) hown (wks W (staticW "java/lang/String" 177 Cmp3.yN)) (wk W Cmp3.tab) (W := 0) (Nat.le_of_ble_eq_true rfl) (Nat.le_of_ble_eq_true rfl) (Nat.le_refl _) (by show 0 + len ≤ len; omega) (g := (mkF m 36 #[.val (.ref a), .val (.ref b), .val (.int (Int32.ofNat o)), .val (.int (Int32.ofNat len)), .val .null, .unset] [.int (Int32.ofNat len), .int (Int32.ofNat o), .ref b])) rfl (by rw [hml]; rfl) c7 (argsL := [.ref b, .int (Int32.ofNat o), .int (Int32.ofNat len)]) (rest := []) rfl rfl (by show 2 * 0 + 0 ≤ _; decide) (hb hbytes d36) (⟨rfl, hA.mv X5.warmed.alike hh5, l1, l2, hp⟩)
  obtain ⟨e8, z8⟩ := E8
  obtain ⟨rfl, N, n1, n2, n3, n4, n5, n6⟩ := NewArr.mv _ T5 s _ _ hh5.symm (Vm.Alike.refl _) rfl e8
  rw [hh5] at z8
  have hB1 := hB.keep X8.warmed.alike (n6 _ _ hB.1)
  have hne : s.heap.size ≠ a := (Nat.ne_of_lt (Array.getElem?_eq_some_iff.mp hB.1).1).symm
  have c9 : Steps p.tables e below (s₁.setTop (entryFrame m #[.ref a, .ref b, .int (Int32.ofNat o), .int (Int32.ofNat len), .null] 6)) (T8.setTop (mkF m 39 #[.val (.ref a), .val (.ref b), .val (.int (Int32.ofNat o)), .val (.int (Int32.ofNat len)), .val .null, .unset] [.ref s.heap.size])) := g8
  have c10 : Steps p.tables e below (s₁.setTop (entryFrame m #[.ref a, .ref b, .int (Int32.ofNat o), .int (Int32.ofNat len), .null] 6)) (T8.setTop (mkF m 45 #[.val (.ref a), .val (.ref b), .val (.int (Int32.ofNat o)), .val (.int (Int32.ofNat len)), .val .null, .val (.ref s.heap.size)] [.int (Int32.ofNat N.slots.size), .ref s.heap.size, .ref a])) := by
    have hc : Steps p.tables e below (s₁.setTop (entryFrame m #[.ref a, .ref b, .int (Int32.ofNat o), .int (Int32.ofNat len), .null] 6)) (T8.setTop (mkF m 45 #[.val (.ref a), .val (.ref b), .val (.int (Int32.ofNat o)), .val (.int (Int32.ofNat len)), .val .null, .val (.ref s.heap.size)] [.int (Int32.ofNat len), .ref s.heap.size, .ref a])) := c9.trans (by
      refine XS.astore X8.here hexec rfl (hb hbytes d39) rfl rfl rfl ?_
      refine XS.aloadN X8.here hexec rfl (hb hbytes d41) rfl rfl ?_
      refine XS.aload X8.here hexec rfl (hb hbytes d42) rfl rfl ?_
      refine XS.iloadN X8.here hexec rfl (hb hbytes d44) rfl ?_
      exact Steps.refl _)
    rw [n4]; exact hc
  obtain ⟨v11, T11, X11, E11, g11⟩ := X8.callS hexec (CodL.law l s.heap.size N) hown (wks W (staticW "java/lang/String" 47 CodL.yN)) (wk W CodL.tab) (W := 1) (Nat.le_of_ble_eq_true rfl) (Nat.le_of_ble_eq_true rfl) (Nat.le_refl _) (by show 0 + len + 0 ≤ len; omega) (g := (mkF m 45 #[.val (.ref a), .val (.ref b), .val (.int (Int32.ofNat o)), .val (.int (Int32.ofNat len)), .val .null, .val (.ref s.heap.size)] [.int (Int32.ofNat N.slots.size), .ref s.heap.size, .ref a])) rfl (by rw [hml]; rfl) c10 (argsL := [.ref s.heap.size, .int (Int32.ofNat N.slots.size)]) (rest := [.ref a]) rfl rfl (by show 2 * 0 + (1 + 0) ≤ _; decide) (hb hbytes d45) (⟨rfl, n1⟩)
  obtain ⟨rfl, q11⟩ := E11
  have hB11 := hB1.mv (X8.warmed.alike.symm.trans X11.warmed.alike) q11
  have c12 : Steps p.tables e below (s₁.setTop (entryFrame m #[.ref a, .ref b, .int (Int32.ofNat o), .int (Int32.ofNat len), .null] 6)) (T11.setTop (mkF m 48 #[.val (.ref a), .val (.ref b), .val (.int (Int32.ofNat o)), .val (.int (Int32.ofNat len)), .val .null, .val (.ref s.heap.size)] [.int 0, .ref a])) := g11
  obtain ⟨T13, X13, p13, bl13, sl13, st13⟩ := X11.finit hexec hown (wk W (.fieldLink "java/lang/String" 15 "java/lang/String" "coder" "B")) (Or.inr ⟨_, (wk W (.laysFinal "java/lang/String" "java/lang/String" "coder" "B"))⟩) (Or.inl ⟨rfl, hnm⟩) f2 (Or.inl rfl) hB11 (t := .byte) (by decide +kernel) rfl (g := (mkF m 48 #[.val (.ref a), .val (.ref b), .val (.int (Int32.ofNat o)), .val (.int (Int32.ofNat len)), .val .null, .val (.ref s.heap.size)] [.int 0, .ref a])) rfl (rest := []) rfl (hb hbytes d48)
  have c14 : Steps p.tables e below (s₁.setTop (entryFrame m #[.ref a, .ref b, .int (Int32.ofNat o), .int (Int32.ofNat len), .null] 6)) (T13.setTop (mkF m 54 #[.val (.ref a), .val (.ref b), .val (.int (Int32.ofNat o)), .val (.int (Int32.ofNat len)), .val .null, .val (.ref s.heap.size)] [.ref s.heap.size, .ref a])) := (c12.trans (st13 _ (Steps.refl _))).trans (by
    refine XS.aloadN X13.here hexec rfl (hb hbytes d51) rfl rfl ?_
    refine XS.aload X13.here hexec rfl (hb hbytes d52) rfl rfl ?_
    exact Steps.refl _)
  obtain ⟨T15, X15, p15, bl15, sl15, st15⟩ := X13.finit hexec hown (wk W (.fieldLink "java/lang/String" 9 "java/lang/String" "value" "[B")) (Or.inr ⟨_, (wk W (.laysFinal "java/lang/String" "java/lang/String" "value" "[B"))⟩) (Or.inl ⟨rfl, hnm⟩) f1 (Or.inl rfl) bl13 (t := (.array .byte)) (by decide +kernel) rfl (g := (mkF m 54 #[.val (.ref a), .val (.ref b), .val (.int (Int32.ofNat o)), .val (.int (Int32.ofNat len)), .val .null, .val (.ref s.heap.size)] [.ref s.heap.size, .ref a])) rfl (rest := []) rfl (hb hbytes d54)
  have c16 : Steps p.tables e below (s₁.setTop (entryFrame m #[.ref a, .ref b, .int (Int32.ofNat o), .int (Int32.ofNat len), .null] 6)) (T15.setTop (mkF m 57 #[.val (.ref a), .val (.ref b), .val (.int (Int32.ofNat o)), .val (.int (Int32.ofNat len)), .val .null, .val (.ref s.heap.size)] [])) := c14.trans (st15 _ (Steps.refl _))
  have ap := apart (Or.inr ⟨_, (wk W (.laysFinal "java/lang/String" "java/lang/String" "value" "[B"))⟩) (Or.inr ⟨_, (wk W (.laysFinal "java/lang/String" "java/lang/String" "coder" "B"))⟩) f1 f2 (t₁ := .array .byte) (t₂ := .byte) (by decide +kernel) (by decide +kernel) (by decide)
  have al := X8.warmed.alike.symm.trans X15.warmed.alike
  have n7 : T11.heap[s.heap.size]? = some N := by rw [q11]; exact n1.1
  exact ⟨T15, none, _, _, _, X15, by simp, rfl, by omega, (fun _ => rfl), ⟨rfl, _, N, bl15, ((Same.refl D _).set _ (by simp)).set _ (by simp), sl15, (Cell.slots_setSlot_ne _ ap).trans sl13, n1.keep al (p15.other hne (p13.other hne n7)), n2, by rw [al.findClass]; exact n3, n4, n5, fun y c h1 h2 => p15.other h1 (p13.other h1 (by rw [q11]; exact n6 y c h2)), by rw [p15.2.2, p13.2.2, q11]; exact z8⟩, fun fs hl => c16.trans (X15.returnOut hexec hret (hb hbytes d57) hl)⟩
end New4
namespace New1
def yN : MethodName := ⟨"java/lang/String", "<init>", "([C)V"⟩
abbrev yB : ByteArray := jdk_42_method_3_code
theorem d0 : decode yB 0 = .ok (.aload_n 0, 1) := by decide +kernel
theorem d1 : decode yB 1 = .ok (.aload_n 1, 1) := by decide +kernel
theorem d2 : decode yB 2 = .ok (.iconst 0, 1) := by decide +kernel
theorem d3 : decode yB 3 = .ok (.aload_n 1, 1) := by decide +kernel
theorem d4 : decode yB 4 = .ok (.arraylength, 1) := by decide +kernel
theorem d5 : decode yB 5 = .ok (.aconst_null, 1) := by decide +kernel
theorem d6 : decode yB 6 = .ok (.invokespecial 27, 3) := by decide +kernel
theorem d9 : decode yB 9 = .ok (.return_, 1) := by decide +kernel
def site : List Cond := [New4.tab] ++ initW "java/lang/String" 27 New4.yN
def tab : Cond := tabOf yN yB 2 none site
def P (a : Addr) (D : Cell) (fV fC : Field) (b : Addr) (A : Cell) (z : Int32) (args : Array Value) (s : State) : Prop := args = #[.ref a, .ref b] ∧ Blank "java/lang/String" a D s ∧ Found "java/lang/String" "value" "[B" fV s ∧ Found "java/lang/String" "coder" "B" fC s ∧ Ch b A s ∧ StaticIs s "java/lang/String" "COMPACT_STRINGS" "Z" (.int z) ∧ ¬ z = 0 ∧ 0 < A.slots.size ∧ A.slots.size ≤ 536870912 ∧ ∀ i, i < A.slots.size → ¬ 255 < cv A i
def E (a : Addr) (D : Cell) (fV fC : Field) (A : Cell) (r : Option Value) (s u : State) : Prop := Got a D fV fC A 0 A.slots.size r s u
/-- new String(chars), not empty, no char above 255: a Latin-1 String of their low bytes -/
theorem law (l : Launch) (a : Addr) (D : Cell) (fV fC : Field) (b : Addr) (A : Cell) (z : Int32) : Law l yN 2 1 3 52 yB 2 none site (P a D fV fC b A z) (E a D fV fC A) [⟨a, fC.slot⟩, ⟨a, fV.slot⟩] 1 A.slots.size := by
  refine Law.of_walk (plainFor_of_name (by decide +kernel)) (by decide +kernel) (by decide +kernel) (by decide) (fun _ _ h => by rw [h.1]; rfl) (fun _ U U' hal hh h => ⟨h.1, h.2.1.mv hal hh, h.2.2.1.al hal, h.2.2.2.1.al hal, h.2.2.2.2.1.mv hal hh, h.2.2.2.2.2.1.there hal hh, h.2.2.2.2.2.2⟩) (fun r U U' V V' h1 hal h2 h => Got.mv r U U' V V' h1 hal h2 h) ?_
  intro p e s m args below meth c s₁ X0 hexec hbytes hml hret hlk hnm hown hh0 W hP
  obtain ⟨rfl, hB, f1, f2, hA, s1, hz, l0, l2, hp⟩ := hP
  have c1 : Steps p.tables e below (s₁.setTop (entryFrame m #[.ref a, .ref b] 2)) (s₁.setTop (mkF m 0 #[.val (.ref a), .val (.ref b)] [])) := entry rfl
  have c2 : Steps p.tables e below (s₁.setTop (entryFrame m #[.ref a, .ref b] 2)) (s₁.setTop (mkF m 6 #[.val (.ref a), .val (.ref b)] [.null, .int (Int32.ofNat A.slots.size), .int 0, .ref b, .ref a])) := c1.trans (by
    refine XS.aloadN X0.here hexec rfl (hb hbytes d0) rfl rfl ?_
    refine XS.aloadN X0.here hexec rfl (hb hbytes d1) rfl rfl ?_
    refine iconstV X0.here hexec rfl 0 (hb hbytes d2) (by decide) ?_
    refine XS.aloadN X0.here hexec rfl (hb hbytes d3) rfl rfl ?_
    refine X0.alen hexec (hA.1.mv X0.warmed.alike hh0) rfl rfl (hb hbytes d4) ?_
    refine XS.aconstNull X0.here hexec rfl (hb hbytes d5) ?_
    exact Steps.refl _)
  obtain ⟨v3, T3, X3, E3, g3⟩ := X0.callN hexec (New4.law l a D fV fC b A z 0 A.slots.size) rfl hown (wks W (initW "java/lang/String" 27 New4.yN)) (W New4.tab (by simp only [site, List.mem_cons, List.mem_append, true_or, or_true])) (W := 0) (Nat.le_of_ble_eq_true rfl) (Nat.le_of_ble_eq_true rfl) (Nat.le_refl _) (by show 0 + A.slots.size ≤ A.slots.size; omega) (g := (mkF m 6 #[.val (.ref a), .val (.ref b)] [.null, .int (Int32.ofNat A.slots.size), .int (Int32.ofNat 0), .ref b, .ref a])) rfl (by rw [hml]; rfl) c2 (argsL := [.ref b, .int (Int32.ofNat 0), .int (Int32.ofNat A.slots.size), .null]) (rest := []) rfl rfl (by show 2 * 0 + 0 ≤ _; decide) (hb hbytes d6) (⟨rfl, hB.mv X0.warmed.alike hh0, f1.al X0.warmed.alike, f2.al X0.warmed.alike, hA.mv X0.warmed.alike hh0, s1.there X0.warmed.alike hh0, hz, l0, by omega, l2, fun i hi => by rw [Nat.zero_add]; exact hp i hi⟩)
  have e0 := Got.mv _ s₁ s _ _ hh0.symm (Vm.Alike.refl _) rfl E3
  obtain rfl := e0.1
  have c4 : Steps p.tables e below (s₁.setTop (entryFrame m #[.ref a, .ref b] 2)) (T3.setTop (mkF m 9 #[.val (.ref a), .val (.ref b)] [])) := g3
  exact ⟨T3, none, _, _, _, X3, by simp, rfl, by omega, (fun _ => rfl), e0, fun fs hl => c4.trans (X3.returnOut hexec hret (hb hbytes d9) hl)⟩
theorem pays {l : Launch} {R : Room} {p : Program} {e : Env} {below : List Frame} {s : State} {sargs : Array Value} {len W : Nat} (a : Addr) (D : Cell) (fV fC : Field) (b : Addr) (A : Cell) (z : Int32) (htab : tab.before sargs s = true) (hfr : 4 ≤ R.frames) (hlo : W + 65 ≤ R.locals) :
    Back l R p e below s sargs yN len W (fun A₁ a₁ => A₁.cells + 1 ≤ R.cells ∧ A₁.slots + A.slots.size ≤ R.slots ∧ P a D fV fC b A z a₁ A₁.U) (fun A₁ _ v₁ B₁ => E a D fV fC A v₁ A₁.U B₁.U ∧ B₁.locs = A₁.locs ++ [⟨a, fC.slot⟩, ⟨a, fV.slot⟩] ∧ B₁.cells = A₁.cells + 1 ∧ B₁.slots = A₁.slots + A.slots.size) :=
  (law l a D fV fC b A z).pays htab hfr (by omega)
end New1
/-- the byte, read back as charAt reads it, is the char -/
theorem lo8_mask {x : Int32} (h0 : ¬ x < 0) (h1 : ¬ 255 < x) : lo8 x &&& 255 = x := by
  have t : ∀ k : Fin 256, lo8 (Int32.ofNat k.val) &&& 255 = Int32.ofNat k.val := by decide +kernel
  rw [Int32.lt_iff_toInt_lt] at h0 h1
  have e0 : (0 : Int32).toInt = 0 := rfl
  have e1 : (255 : Int32).toInt = 255 := rfl
  obtain ⟨k, hk⟩ : ∃ k : Nat, x.toInt = k := ⟨x.toInt.toNat, by omega⟩
  have hx : x = Int32.ofNat k := Int32.toInt_inj.mp (by rw [hk, Int32.toInt_ofNat_small (by omega)])
  rw [hx]
  exact t ⟨k, by omega⟩
end StrChars
namespace StrChars.Road
open Jvm Sem ClassFile Op Lib Jvm.Stand Jvm.Free Jvm.Free.XT
open Jvm.Lib.Cold (StaticIs)
abbrev ST : String := "java/lang/String"
/-- every table word that New1's law asks, flat -/
abbrev words : List Jvm.Cond := [.code New1.yN New1.yB 2 none, .initialized ST, .methodLink ST 27 New4.yN, .instanceMethod New4.yN,
  .code New4.yN New4.yB 6 none, .fieldLink ST 38 ST "COMPACT_STRINGS" "Z", .laysFinal ST ST "value" "[B", .fieldLink ST 9 ST "value" "[B", .laysFinal ST ST "coder" "B", .fieldLink ST 15 ST "coder" "B",
  .methodLink ST 1 Lib.objectInit, .instanceMethod Lib.objectInit, .code Lib.objectInit ⟨#[0xb1]⟩ 1 none, .methodLink ST 177 Cmp3.yN, .static Cmp3.yN, .methodLink ST 47 CodL.yN, .static CodL.yN,
  .code Cmp3.yN Cmp3.yB 6 (some (.array .byte)), .initialized U16, .arrayClass .byte, .methodLink U16 115 Cmp5.yN, .static Cmp5.yN, .code Cmp5.yN Cmp5.yB 7 (some .int), .code CodL.yN CodL.yB 2 (some .byte)]
theorem tab_of {a : Array Value} {s : State} (h : ∀ w ∈ words, w.before a s = true) : New1.tab.before a s = true := by
  have h5 : Cmp5.tab.before a s = true := unparts (wk h (.code Cmp5.yN Cmp5.yB 7 (some .int))) (wks h (.initialized Cmp5.yN.cls :: Cmp5.site))
  have hc : CodL.tab.before a s = true := unparts (wk h (.code CodL.yN CodL.yB 2 (some .byte))) (wks h (.initialized CodL.yN.cls :: CodL.site))
  have q5 : ∀ w ∈ Cmp5.tab :: words, w.before a s = true := fun w hw => (List.mem_cons.mp hw).elim (fun e => e ▸ h5) (h w)
  have h3 : Cmp3.tab.before a s = true := unparts (wk q5 (.code Cmp3.yN Cmp3.yB 6 (some (.array .byte)))) (wks q5 (.initialized Cmp3.yN.cls :: Cmp3.site))
  have q3 : ∀ w ∈ Cmp3.tab :: CodL.tab :: words, w.before a s = true := fun w hw => (List.mem_cons.mp hw).elim (fun e => e ▸ h3) fun hw => (List.mem_cons.mp hw).elim (fun e => e ▸ hc) (h w)
  have h4 : New4.tab.before a s = true := unparts (wk q3 (.code New4.yN New4.yB 6 none)) (wks q3 (.initialized New4.yN.cls :: New4.site))
  have q4 : ∀ w ∈ New4.tab :: words, w.before a s = true := fun w hw => (List.mem_cons.mp hw).elim (fun e => e ▸ h4) (h w)
  exact unparts (wk q4 (.code New1.yN New1.yB 2 none)) (wks q4 (.initialized New1.yN.cls :: New1.site))
/-- the words ride from the start Z to the walk's own state -/
theorem moved {Z s : State} {a0 args : Array Value} (hZ : Z.Warmed39 s.vm) (hw : ∀ d ∈ words, d.before a0 Z = true) : ∀ d ∈ words, d.before args s = true := fun d hd => by
  have q := hw d hd
  have t : ∀ d ∈ words, d = .arrayClass .byte ∨ (d.onTables && d.keepsFace) = true := by decide +kernel
  rcases t d hd with rfl | t
  · exact RoadKit.mvA hZ q
  · exact RoadKit.mv hZ q t
/-- WHAT COMES BACK, over the tables of the start Z: h the heap at the call, h' behind it -/
def Q (Z : State) (x : Addr) (A : Cell) (h : Heap) (v : Option Value) (h' : Heap) (L : List Loc) : Prop := v = none ∧ (∀ y ∈ L, y.base = x) ∧ RoadKit.Keep h h' [x] ∧ h'.size = h.size + 1 ∧ RoadKit.Exa Z h' x ST ∧ RoadKit.Fld Z h' x ST "value" "[B" (.ref h.size) ∧ RoadKit.Fld Z h' x ST "coder" "B" (.int 0) ∧
  (∃ V : Cell, RoadKit.Arr Z h' h.size V .byte ∧ V.vm = .none ∧ Z.vm.findClass "[B" = some V.cls ∧ V.slots.size = A.slots.size ∧ ∀ j, j < A.slots.size → V.slots[j]? = some (.int (lo8 (cv A j)))) ∧
  ∀ (O n d : String) (w : Value), RoadKit.Fld Z h x O n d w → RoadKit.slotOf Z O n d ≠ RoadKit.slotOf Z ST "value" "[B" → RoadKit.slotOf Z O n d ≠ RoadKit.slotOf Z ST "coder" "B" → RoadKit.Fld Z h' x O n d w
/-- **new String(chars) AT A CALL, IN THE ROAD'S FORM**: for specialBack behind newO: x the fresh String, b the char[] with the cell A -/
theorem back {p : Program} {l : Launch} {e : Env} {R : Room} {s : State} {args : Array Value} {below : List Frame} {len W : Nat} {Z : State} {a0 : Array Value} {h : Heap} (hZ : Z.Warmed39 s.vm) (hw : ∀ d ∈ words, d.before a0 Z = true) {kI : Nat} (wi : (Jvm.Cond.instantiable ST kI).before a0 Z = true)
    {x b : Addr} {A : Cell} {z : Int32} {v0 c0 : Value} (E : RoadKit.Exa Z h x ST) (V : RoadKit.Fld Z h x ST "value" "[B" v0) (C : RoadKit.Fld Z h x ST "coder" "B" c0) (K : RoadKit.Arr Z h b A .char) (hty : Typed .char A) (S : RoadKit.Sta Z h ST "COMPACT_STRINGS" "Z" (.int z)) (hz : ¬ z = 0)
    (l0 : 0 < A.slots.size) (l2 : A.slots.size ≤ 536870912) (hp : ∀ i, i < A.slots.size → ¬ 255 < cv A i) (hfr : 4 ≤ R.frames) (hlo : W + 65 ≤ R.locals) :
    Back l R p e below s args New1.yN len W (fun P a => a = #[.ref x, .ref b] ∧ P.U.heap = h ∧ P.cells + 1 ≤ R.cells ∧ P.slots + A.slots.size ≤ R.slots)
      (fun P _ v B => ∃ L, Q Z x A h v B.U.heap L ∧ B.locs = P.locs ++ L ∧ B.cells = P.cells + 1 ∧ B.slots = P.slots + A.slots.size) := by
  intro m meth c P g ig mk a X hg hsize hdg hW hn hp'
  obtain ⟨rfl, rfl, r1, r2⟩ := hp'
  have al : Z.vm.Alike P.U.vm := hZ.alike.trans X.warmed.alike
  obtain ⟨D, cfV, kV, iV, fV, hD, gV, stV, knV, obV, asV, slV⟩ := id V
  obtain ⟨D', cfC, kC, iC, fC, hD', gC, stC, -, -, asC, slC⟩ := id C
  cases hD.symm.trans hD'
  obtain ⟨D2, kD, e1, e2, e3, e4, e5⟩ := id E
  cases hD.symm.trans e1
  obtain ⟨c2, k2, i1, i2, i3, -⟩ := Cond.instantiable_spec wi
  cases e2.symm.trans i1
  cases e3.symm.trans i2
  obtain ⟨kU, u1, u2⟩ := al.2.2 _ _ e3
  have hB : Blank ST x D P.U := ⟨hD, ⟨knV, fun q hq => by rw [hq] at obV; cases obV⟩, by rw [al.findClass]; exact e2, kU, u1, by rw [u2]; exact i3, by rw [u2]; exact e5 i3⟩
  have F1 : Found ST "value" "[B" fV P.U := ⟨SBG.found_only al ⟨cfV, kV, iV, gV⟩, stV⟩
  have F2 : Found ST "coder" "B" fC P.U := ⟨SBG.found_only al ⟨cfC, kC, iC, gC⟩, stC⟩
  have hA : Ch b A P.U := ⟨⟨K.1, State.isArrayOf_alike al K.2.1, K.2.2, by omega⟩, hty⟩
  have hS : StaticIs P.U ST "COMPACT_STRINGS" "Z" (.int z) := by
    obtain ⟨cfS, iS, kS, fS, st, cS, t1, t2, t3, t4, t5, t6, t7⟩ := S
    exact StaticIs.there (s := { Z with heap := P.U.heap }) ⟨cfS, iS, kS, fS, st, cS, t1, t2, t3, t4, t5, (fun q => by rw [q] at t6; cases t6), t7⟩ al rfl
  obtain ⟨v, B, X', ⟨⟨hv, E', V', q1, q2, q3, q4, q5, q6, q7, q8, q9, q10, q11⟩, hl, hc, hs⟩, st⟩ := New1.pays x D fV fC b A z (tab_of (moved hZ hw)) hfr hlo m meth c P g ig mk _ X hg hsize hdg hW hn ⟨r1, r2, rfl, hB, F1, F2, hA, hS, hz, l0, l2, hp⟩
  have al' : Z.vm.Alike B.U.vm := hZ.alike.trans X'.warmed.alike
  have hsz : E'.slots.size = D.slots.size := by
    obtain ⟨-, -, -, kB, w1, w2, w3⟩ := q1
    obtain ⟨kB', y1, y2⟩ := al'.2.2 _ _ e3
    rw [q2.2.1] at w1
    cases w1.symm.trans y1
    rw [w3, e5 i3, y2]
  refine ⟨v, B, X', ⟨_, ⟨hv, ?_, ⟨by omega, fun y cy hy hn' => q10 y cy (by simpa using hn') hy, fun y cy hy => ?_⟩, q11, ⟨E', _, q1.1, by rw [q2.2.1]; exact e2, by rw [q2.2.1]; exact e3, by rw [q2.1]; exact obV, fun _ => by rw [hsz]; exact e5 i3⟩,
    ⟨E', cfV, kV, iV, fV, q1.1, gV, stV, by rw [q2.1]; exact knV, by rw [q2.1]; exact obV, by rw [q2.2.1]; exact asV, q3⟩, ⟨E', cfC, kC, iC, fC, q1.1, gC, stC, by rw [q2.1]; exact knV, by rw [q2.1]; exact obV, by rw [q2.2.1]; exact asC, q4⟩,
    ⟨V', ⟨q5.1, State.isArrayOf_alike al'.symm q5.2.1, q5.2.2.1⟩, q6, by rw [← al'.findClass]; exact q7, q8, fun j hj => by have := q9 j hj; rwa [Nat.zero_add] at this⟩, fun O n d w F n1 n2 => ?_⟩, hl, hc, hs⟩, st⟩
  · intro y hy
    simp only [List.mem_cons, List.not_mem_nil, or_false] at hy
    rcases hy with rfl | rfl <;> rfl
  · by_cases q : y = x
    · subst q
      cases hD.symm.trans hy
      exact ⟨E', q1.1, q2.2.1, q2.1, hsz⟩
    · exact ⟨cy, q10 y cy q hy, rfl, rfl, rfl⟩
  · obtain ⟨D3, cf, k, i, f, g1, g2, g3, g4, g5, g6, g7⟩ := F
    cases hD.symm.trans g1
    simp only [RoadKit.slotOf, g2, gV, gC, Option.map_some, Option.getD_some] at n1 n2
    exact ⟨E', cf, k, i, f, q1.1, g2, g3, by rw [q2.1]; exact g4, by rw [q2.1]; exact g5, by rw [q2.2.1]; exact g6, by rw [q2.2.2 f.slot (by simp [n1, n2])]; exact g7⟩
end StrChars.Road
namespace StrChars.Road
open Jvm Sem ClassFile Op Lib Jvm.Stand Jvm.Free Jvm.Free.XT
/-- WHAT COMES BACK, the byte[] as a list of values -/
def QA (Z : State) (x : Addr) (zn : Int32) (cs : List Int32) (h : Heap) (v : Option Value) (h' : Heap) (L : List Loc) : Prop := v = none ∧ (∀ y ∈ L, y.base = x) ∧ RoadKit.Keep h h' [x] ∧ h'.size = h.size + 1 ∧ RoadKit.Exa Z h' x ST ∧ RoadKit.Fld Z h' x ST "value" "[B" (.ref h.size) ∧ RoadKit.Fld Z h' x ST "coder" "B" (.int 0) ∧
  (∃ kb, Z.vm.findClass "[B" = some kb ∧ RoadKit.Arv Z h' h.size kb .byte zn (cs.map fun c => .int (lo8 c)) (.int 0)) ∧
  ∀ (O n d : String) (w : Value), RoadKit.Fld Z h x O n d w → RoadKit.slotOf Z O n d ≠ RoadKit.slotOf Z ST "value" "[B" → RoadKit.slotOf Z O n d ≠ RoadKit.slotOf Z ST "coder" "B" → RoadKit.Fld Z h' x O n d w
/-- **new String(chars) AT A CALL, THE ARRAYS AS LISTS**: the char[] at b holds cs, not empty, no char above 255 -/
theorem backArv {p : Program} {l : Launch} {e : Env} {R : Room} {s : State} {args : Array Value} {below : List Frame} {len W : Nat} {Z : State} {a0 : Array Value} {h : Heap} (hZ : Z.Warmed39 s.vm) (hw : ∀ d ∈ words, d.before a0 Z = true) {kI : Nat} (wi : (Jvm.Cond.instantiable ST kI).before a0 Z = true)
    {x b : Addr} {k : ClassId} {zn z : Int32} {cs : List Int32} {dv v0 c0 : Value} (E : RoadKit.Exa Z h x ST) (V : RoadKit.Fld Z h x ST "value" "[B" v0) (C : RoadKit.Fld Z h x ST "coder" "B" c0) (K : RoadKit.Arv Z h b k .char zn (cs.map Value.int) dv) (S : RoadKit.Sta Z h ST "COMPACT_STRINGS" "Z" (.int z)) (hz : ¬ z = 0)
    (hlen : zn.toNatClampNeg = cs.length) (h0 : 0 < cs.length) (hbig : cs.length ≤ 536870912) (hall : ∀ c ∈ cs, ¬ 255 < c) (hfr : 4 ≤ R.frames) (hlo : W + 65 ≤ R.locals) :
    Back l R p e below s args New1.yN len W (fun P a => a = #[.ref x, .ref b] ∧ P.U.heap = h ∧ P.cells + 1 ≤ R.cells ∧ P.slots + cs.length ≤ R.slots)
      (fun P _ v B => ∃ L, QA Z x zn cs h v B.U.heap L ∧ B.locs = P.locs ++ L ∧ B.cells = P.cells + 1 ∧ B.slots = P.slots + cs.length) := by
  obtain ⟨A, K1, K2, K3, K4, K5, K6⟩ := K
  have e : A.slots.size = cs.length := K3.trans hlen
  have hat : ∀ (i : Nat) (hi : i < cs.length), A.slots[i]? = some (.int cs[i]) := fun i hi => by rw [K5 i (by omega)]; simp [List.getD_eq_getElem?_getD, hi]
  have hcv : ∀ (i : Nat) (hi : i < cs.length), cv A i = cs[i] := fun i hi => by unfold cv; rw [hat i hi]
  have hty : Typed .char A := fun i v hv => by
    have hi : i < A.slots.size := (Array.getElem?_eq_some_iff.mp hv).1
    have q := K5 i hi
    rw [hv] at q
    rw [Option.some.inj q]
    exact K6 i hi
  refine Back.mono (back hZ hw wi E V C K1 hty S hz (by omega) (by omega) (fun i hi => by rw [hcv i (by omega)]; exact hall _ (List.getElem_mem _)) hfr hlo) (fun P a hp => ⟨hp.1, hp.2.1, hp.2.2.1, by rw [e]; exact hp.2.2.2⟩) (fun P a v B hp hq => ?_)
  obtain ⟨L, ⟨q1, q2, q3, q4, q5, q6, q7, ⟨V', v1, v2, v3, v4, v5⟩, q9⟩, hl, hc, hs⟩ := hq
  refine ⟨L, ⟨q1, q2, q3, q4, q5, q6, q7, ⟨V'.cls, v3, V', v1, rfl, by rw [v4, e, hlen], K4, fun i hi => ?_, fun i hi => ?_⟩, q9⟩, hl, hc, by rw [hs, e]⟩
  · have hi' : i < cs.length := by omega
    rw [v5 i (by omega), hcv i hi']; simp [List.getD_eq_getElem?_getD, hi']
  · have hi' : i < cs.length := by omega
    simp only [List.getD_eq_getElem?_getD, List.getElem?_map, List.getElem?_eq_getElem hi', Option.map_some, Option.getD_some]
    exact fits_lo8 _
end StrChars.Road
namespace StrChars.Road
open Jvm Sem ClassFile Op Lib Jvm.Stand Jvm.Free Jvm.Free.XT
/-- WHAT COMES BACK, in the writer's own shape -/
def QV (Z : State) (x : Addr) (N : Int32) (bs : List Int32) (h : Heap) (n0 : Nat) (v : Option Value) (h' : Heap) (L : List Loc) : Prop := v = none ∧ RoadKit.Fr n0 L ∧ RoadKit.Keep h h' [x] ∧ RoadKit.Exa Z h' x ST ∧ RoadKit.Fld Z h' x ST "coder" "B" (.int 0) ∧
  ∃ (t : Addr) (kb : ClassId), n0 ≤ t ∧ h.size ≤ t ∧ ¬ t = x ∧ RoadKit.Fld Z h' x ST "value" "[B" (.ref t) ∧ RoadKit.Arv Z h' t kb .byte N (bs.map Value.int) (.int 0)
/-- **new String(chars) AT A CALL, FOR THE WRITER**: a char[] of n known ints, each 0 to 255 -/
theorem backV {p : Program} {l : Launch} {e : Env} {R : Room} {s : State} {args : Array Value} {below : List Frame} {len W : Nat} {Z : State} {a0 : Array Value} {h : Heap} (hZ : Z.Warmed39 s.vm) (hw : ∀ d ∈ words, d.before a0 Z = true) {kI : Nat} (wi : (Jvm.Cond.instantiable ST kI).before a0 Z = true)
    {x b : Addr} {kC : ClassId} {cs bs : List Int32} {d v0 c0 : Value} {z N : Int32} {n n0 : Nat} (hx0 : n0 ≤ x) (hh0 : n0 ≤ h.size) (E : RoadKit.Exa Z h x ST) (V : RoadKit.Fld Z h x ST "value" "[B" v0) (C : RoadKit.Fld Z h x ST "coder" "B" c0) (K : RoadKit.Arv Z h b kC .char N (cs.map Value.int) d) (S : RoadKit.Sta Z h ST "COMPACT_STRINGS" "Z" (.int z)) (hz : ¬ z = 0)
    (hn : cs.length = n) (hN : N = Int32.ofNat n) (l0 : 0 < n) (l2 : n ≤ 4000) (hp : ∀ c ∈ cs, ¬ c < 0 ∧ ¬ (255 : Int32) < c) (hb : bs = cs.map (fun c => c.toInt8.toInt32)) (hfr : 4 ≤ R.frames) (hlo : W + 65 ≤ R.locals) :
    Back l R p e below s args (⟨"java/lang/String", "<init>", "([C)V"⟩ : MethodName) len W (fun P a => a = #[.ref x, .ref b] ∧ P.U.heap = h ∧ P.cells + 1 ≤ R.cells ∧ P.slots + n ≤ R.slots)
      (fun P _ v B => ∃ L, QV Z x N bs h n0 v B.U.heap L ∧ B.locs = P.locs ++ L ∧ B.cells = P.cells + 1 ∧ B.slots = P.slots + n) := by
  subst hn hN hb
  refine Back.mono (backArv hZ hw wi E V C K S hz (n32 (by omega)) l0 (by omega) (fun c hc => (hp c hc).2) hfr hlo) (fun P a hp => hp) (fun P a v B hp hq => ?_)
  obtain ⟨L, ⟨q1, q2, q3, q4, q5, q6, q7, ⟨kb, v1, v2⟩, q9⟩, hl, hc, hs⟩ := hq
  exact ⟨L, ⟨q1, fun y hy => by rw [q2 y hy]; exact hx0, q3, q5, q7, h.size, kb, hh0, Nat.le_refl _, Nat.ne_of_gt E.lt, q6, by rw [List.map_map]; exact v2⟩, hl, hc, hs⟩
end StrChars.Road
namespace StrChars
open Jvm Sem ClassFile Op Lib Jvm.Stand Jvm.Free.XT Jvm.Free.ALB Jvm.Free.JM Jvm.Free
open Jvm.Lib.Cold (StaticIs)
def hi8 (x : Int32) : Int32 := lo8 (x >>> ((8 : Int32) &&& 31))
/-- what StringUTF16.getChar makes of two bytes -/
def pairCh (u v : Int32) : Int32 := (((u &&& 255) <<< ((0 : Int32) &&& 31)) ||| ((v &&& 255) <<< ((8 : Int32) &&& 31))).toUInt32.toUInt16.toUInt32.toInt32
theorem shr0 (c : Int32) : c >>> ((0 : Int32) &&& 31) = c := by
  have e : ((0 : Int32) &&& 31) = 0 := by decide
  rw [e]
  apply Int32.toBitVec_inj.mp
  rw [Int32.toBitVec_shiftRight]
  have e1 : ((0 : Int32).toBitVec.smod 32) = 0#32 := by decide
  rw [e1, BitVec.sshiftRight_eq']
  exact BitVec.sshiftRight_zero
theorem lo8_and (x : Int32) : (lo8 x &&& 255).toBitVec.toNat = x.toBitVec.toNat % 256 := by
  have h : (lo8 x).toBitVec = (x.toBitVec.signExtend 8).signExtend 32 := by rw [lo8, Int8.toBitVec_toInt32, Int32.toBitVec_toInt8]
  rw [Int32.toBitVec_and, BitVec.toNat_and, h]
  have e : ((x.toBitVec.signExtend 8).signExtend 32).toNat % 256 = x.toBitVec.toNat % 256 := by
    rw [BitVec.toNat_signExtend]
    have hlt := x.toBitVec.isLt
    simp only [BitVec.toNat_setWidth, BitVec.toNat_signExtend]
    split <;> split <;> omega
  rw [← e]
  exact Nat.and_two_pow_sub_one_eq_mod _ 8
theorem pair_says {c : Int32} (h0 : ¬ c < 0) (h1 : ¬ 65535 < c) : pairCh (lo8 c) (hi8 c) = c := by
  rw [Int32.lt_iff_toInt_lt] at h0 h1
  have e0 : (0 : Int32).toInt = 0 := rfl
  have e1 : (65535 : Int32).toInt = 65535 := rfl
  have hc : c.toInt = c.toBitVec.toNat := by
    have := c.toBitVec.isLt
    have e : c.toInt = c.toBitVec.toInt := rfl
    rw [e] at h0 h1
    rw [e]
    rw [BitVec.toInt_eq_toNat_cond] at h0 h1 ⊢
    split at h0 <;> split <;> omega
  have hn : c.toBitVec.toNat < 65536 := by omega
  have a1 := lo8_and c
  have a2 : (hi8 c &&& 255).toBitVec.toNat = c.toBitVec.toNat / 256 := by
    rw [hi8, lo8_and]
    have e : ((8 : Int32) &&& 31) = 8 := by decide
    rw [e, Int32.toBitVec_shiftRight]
    have e2 : ((8 : Int32).toBitVec.smod 32) = 8#32 := by decide
    rw [e2, BitVec.sshiftRight_eq', BitVec.toNat_sshiftRight_of_msb_false (by rw [BitVec.msb_eq_false_iff_two_mul_lt]; omega)]
    show c.toBitVec.toNat >>> 8 % 256 = _
    rw [Nat.shiftRight_eq_div_pow]
    omega
  unfold pairCh
  apply Int32.toBitVec_inj.mp
  apply BitVec.eq_of_toNat_eq
  have f0 : ((0 : Int32) &&& 31) = 0 := by decide
  have f8 : ((8 : Int32) &&& 31) = 8 := by decide
  rw [f0, f8]
  have g : (((lo8 c &&& 255) <<< (0 : Int32)) ||| ((hi8 c &&& 255) <<< (8 : Int32))).toBitVec.toNat = c.toBitVec.toNat := by
    rw [Int32.toBitVec_or, Int32.toBitVec_shiftLeft, Int32.toBitVec_shiftLeft]
    have s0 : ((0 : Int32).toBitVec.smod 32) = 0#32 := by decide
    have s8 : ((8 : Int32).toBitVec.smod 32) = 8#32 := by decide
    rw [s0, s8, BitVec.toNat_or]
    simp only [BitVec.shiftLeft_eq', BitVec.toNat_shiftLeft, a1, a2]
    show (c.toBitVec.toNat % 256) <<< 0 % 2 ^ 32 ||| (c.toBitVec.toNat / 256) <<< 8 % 2 ^ 32 = _
    rw [Nat.shiftLeft_zero, Nat.mod_eq_of_lt (show c.toBitVec.toNat % 256 < 2 ^ 32 by omega), Nat.mod_eq_of_lt (show (c.toBitVec.toNat / 256) <<< 8 < 2 ^ 32 by rw [Nat.shiftLeft_eq]; omega), Nat.or_comm, ← Nat.shiftLeft_add_eq_or_of_lt (by omega), Nat.shiftLeft_eq]
    omega
  show BitVec.toNat (((((lo8 c &&& 255) <<< (0 : Int32)) ||| ((hi8 c &&& 255) <<< (8 : Int32))).toBitVec.setWidth 16).setWidth 32) = _
  rw [BitVec.toNat_setWidth, BitVec.toNat_setWidth, g]
  omega
end StrChars
namespace StrChars
open Jvm Sem ClassFile Op Lib Jvm.Stand Jvm.Free.XT Jvm.Free.ALB Jvm.Free.JM Jvm.Free
open Jvm.Lib.Cold (StaticIs)
theorem shr1 {n : Nat} (h : 2 * n < 2 ^ 31) : Int32.ofNat (2 * n) >>> ((1 : Int32) &&& 31) = Int32.ofNat n := by
  have e : ((1 : Int32) &&& 31) = 1 := by decide
  rw [e]
  apply Int32.toBitVec_inj.mp
  rw [Int32.toBitVec_shiftRight]
  have e1 : ((1 : Int32).toBitVec.smod 32) = 1#32 := by decide
  have hm : (BitVec.ofNat 32 (2 * n)).toNat = 2 * n := by rw [BitVec.toNat_ofNat, Nat.mod_eq_of_lt (by omega)]
  rw [e1, BitVec.sshiftRight_eq']
  apply BitVec.eq_of_toNat_eq
  show ((BitVec.ofNat 32 (2 * n)).sshiftRight 1).toNat = (BitVec.ofNat 32 n).toNat
  rw [BitVec.toNat_sshiftRight_of_msb_false (by rw [BitVec.msb_eq_false_iff_two_mul_lt, hm]; omega), hm, BitVec.toNat_ofNat, Nat.shiftRight_eq_div_pow]
  omega
/-- charAt's cast of a byte read back -/
def chr8 (u : Int32) : Int32 := (u &&& 255).toUInt32.toUInt16.toUInt32.toInt32
theorem chr8_lo8 {c : Int32} (h0 : ¬ c < 0) (h1 : ¬ 255 < c) : chr8 (lo8 c) = c := by
  have t : ∀ k : Fin 256, (Int32.ofNat k.val).toUInt32.toUInt16.toUInt32.toInt32 = Int32.ofNat k.val := by decide +kernel
  unfold chr8
  rw [lo8_mask h0 h1]
  rw [Int32.lt_iff_toInt_lt] at h0 h1
  have e0 : (0 : Int32).toInt = 0 := rfl
  have e1 : (255 : Int32).toInt = 255 := rfl
  obtain ⟨k, hk⟩ : ∃ k : Nat, c.toInt = k := ⟨c.toInt.toNat, by omega⟩
  have hx : c = Int32.ofNat k := Int32.toInt_inj.mp (by rw [hk, Int32.toInt_ofNat_small (by omega)])
  rw [hx]
  exact t ⟨k, by omega⟩
theorem narrow_ch {c : Int32} (h0 : ¬ c < 0) (h1 : ¬ 65535 < c) : narrow .char (.int c) = .int c := by
  have q : narrow .char (.int (pairCh (lo8 c) (hi8 c))) = .int (pairCh (lo8 c) (hi8 c)) := narrow_c _
  rwa [pair_says h0 h1] at q
end StrChars
namespace StrChars.Road
open Jvm Sem ClassFile Op Lib Jvm.Stand Jvm.Free Jvm.Free.XT
open Jvm.Lib.Cold (StaticIs)
/-- the bytes of the chars cs, low before high -/
def wideBytes : List Int32 → List Value
  | [] => []
  | c :: cs => .int (lo8 c) :: .int (hi8 c) :: wideBytes cs
theorem wide_lo (d : Value) : ∀ (cs : List Int32) (j : Nat), j < cs.length → (wideBytes cs).getD (2 * j) d = .int (lo8 (cs.getD j 0))
  | [], j, h => absurd h (Nat.not_lt_zero j)
  | c :: cs, 0, _ => rfl
  | c :: cs, j + 1, h => by
    have q := wide_lo d cs j (by simpa using h)
    rw [show 2 * (j + 1) = 2 * j + 1 + 1 from by omega]
    simpa [wideBytes] using q
theorem wide_hi (d : Value) : ∀ (cs : List Int32) (j : Nat), j < cs.length → (wideBytes cs).getD (2 * j + 1) d = .int (hi8 (cs.getD j 0))
  | [], j, h => absurd h (Nat.not_lt_zero j)
  | c :: cs, 0, _ => rfl
  | c :: cs, j + 1, h => by
    have q := wide_hi d cs j (by simpa using h)
    rw [show 2 * (j + 1) + 1 = 2 * j + 1 + 1 + 1 from by omega]
    simpa [wideBytes] using q
theorem low_at (d : Value) (cs : List Int32) (j : Nat) (h : j < cs.length) : (cs.map fun c => Value.int (lo8 c)).getD j d = .int (lo8 (cs.getD j 0)) := by
  simp [List.getD_eq_getElem?_getD, h]
/-- an array of N2 bytes vs codes the chars cs by the coder cd -/
def CodA (cs : List Int32) (cd N2 : Int32) (vs : List Value) : Prop := (cd = 0 ∧ N2 = Int32.ofNat cs.length ∧ vs = (cs.map fun c => Value.int (lo8 c)) ∧ ∀ c ∈ cs, ¬ 255 < c) ∨ (cd = 1 ∧ N2 = Int32.ofNat (2 * cs.length) ∧ vs = wideBytes cs ∧ ∃ c ∈ cs, 255 < c)
end StrChars.Road
namespace StrChars.Road
open Jvm Sem ClassFile Op Lib Jvm.Stand Jvm.Free Jvm.Free.XT
open Jvm.Lib.Cold (StaticIs)
/-- what backV says of its String, as the contracts of this text ask it: cs's low bytes, coder 0 -/
theorem codOf {cs : List Int32} {n : Nat} (hn : cs.length = n) (hb : ∀ c ∈ cs, ¬ 255 < c) : CodA cs 0 (Int32.ofNat n) ((cs.map lo8).map Value.int) := Or.inl ⟨rfl, by rw [hn], by simp [List.map_map, Function.comp_def], hb⟩
end StrChars.Road
end Jvm.Pilot.@@N@@
namespace Jvm.Pilot.@@N@@
open Jvm Jvm.ClassFile Sem Op Lib Jvm.Free Jvm.Stand Jvm.LawKit Jvm.RoadKit Bundle Jvm.Pilot.@@N@@.Jvm.D
section OwnKit
variable {p : Program} {l : Launch} {e : Env} {R : Room} {s : State} {m : MethodId} {args : Array Value} {below : List Frame} {meth : Method} {c : Code} {T T' : State} {locs : List Loc} {cells slots : Nat} {g g' : JFrame} {G : State → Outcome → Prop} {Z : State} {a0 : Array Value} {h : Heap} {y : MethodName} {own : String} {index : Nat} {bytes : ByteArray} {maxL : Nat} {ret : Option FieldType} {W : Nat} {as' : Array Value} {rc rs : Nat} {Q : Option Value → Heap → List Loc → Prop} {argsL rest : List Value} {a b : Addr} {k : ClassId} {ty : FieldType} {n j : Int32} {vs : List Value} {d v : Value}
/-- the run from this frame comes to the end that the body owes -/
def own_Fin (p : Program) (e : Env) (below : List Frame) (G : State → Outcome → Prop) (T : State) (g : JFrame) : Prop := ∃ s₂ o, Steps p.tables e below (T.setTop g) s₂ ∧ s₂.status = .running ∧ Ended s₂ below o ∧ G s₂ o
theorem own_step (h1 : ∀ t, Steps p.tables e below (T'.setTop g') t → Steps p.tables e below (T.setTop g) t) (k1 : own_Fin p e below G T' g') : own_Fin p e below G T g := by
  obtain ⟨s2, o, q, r⟩ := k1; exact ⟨s2, o, h1 _ q, r⟩
theorem own_cast (q : g = g') (k1 : own_Fin p e below G T g') : own_Fin p e below G T g := q ▸ k1
/-- what a body owes at its end -/
abbrev own_G (s : State) (Q : Option Value → Heap → List Loc → Prop) (rc rs : Nat) : State → Outcome → Prop := fun s₂ o => ∃ v L, o = .returned v ∧ Q v s₂.heap L ∧ FrameEnd s o s₂ L rc rs
theorem own_end (X : Stand p l e R s m args below meth c T locs cells slots) {v : Option Value} (hv : meth.sig.returnType = none → v = none) (hlk : meth.locks = false)
    (st : ∀ fs, (∀ (f : JFrame) (acts : List Action), f.method = m → f.locked = none → f.entered = [] → (doReturn e (T.setTop f) acts v).1 = T.setFrames fs) → Steps p.tables e below (T.setTop g) (T.setFrames fs))
    (hQ : Q v T.heap locs) (hc : cells ≤ rc) (hs : slots ≤ rs) : own_Fin p e below (own_G s Q rc rs) T g := by
  obtain ⟨fs, hr, hrun, hended, hW, hsame⟩ := X.leave hv hlk
  exact ⟨_, _, st fs hr, hrun, hended, v, locs, rfl, hQ, ⟨_, rfl⟩, hW, hsame.mono hc hs⟩
theorem own_cat_int (z : Int32) : (Value.int z).category = 1 := rfl
theorem own_cat_long (z : Int64) : (Value.long z).category = 2 := rfl
theorem own_cat_ref (z : Addr) : (Value.ref z).category = 1 := rfl
theorem own_cat_null : Value.null.category = 1 := rfl
theorem own_fixv {ws : List Value} (q : vs = ws) (A : Arv Z h a k ty n vs d) : Arv Z h a k ty n ws d := by subst q; exact A
theorem own_fixn {n' : Int32} (q : n = n') (A : Arv Z h a k ty n vs d) : Arv Z h a k ty n' vs d := by subst q; exact A
theorem own_narR {w : Value} (h1 : w.isRef = true) {t : FieldType} (ht : t.isReference = true) : narrow t w = w := by cases w <;> cases t <;> first | rfl | (exact absurd h1 (by decide)) | (exact absurd ht (by decide)) | simp_all [Value.isRef, FieldType.isReference]
theorem own_fitR {w : Value} (h1 : w.isRef = true) {t : FieldType} (ht : t.isReference = true) : fits t w = true := by cases w <;> cases t <;> first | rfl | (exact absurd h1 (by decide)) | (exact absurd ht (by decide)) | simp_all [Value.isRef, FieldType.isReference]
theorem own_retI (X : Stand p l e R s m args below meth c T locs cells slots) (hx : p.tables.exec = Jvm.exec) {pc : Nat} {Ls : Array Slot} {z : Int32} (hret : meth.sig.returnType = some .int) (hd : decode c.code pc = .ok (.ireturn, 1)) (hlk : meth.locks = false)
    (hQ : Q (some (.int z)) T.heap locs) (hc : cells ≤ rc) (hs : slots ≤ rs) : own_Fin p e below (own_G s Q rc rs) T (mkF m pc Ls (.int z :: rest)) :=
  own_end X (fun q => by rw [hret] at q; cases q) hlk (fun fs hr => retOut X hx hret rfl (Or.inl ⟨rfl, Or.inl rfl, z, rfl⟩) hd hr) hQ hc hs
theorem own_retN (X : Stand p l e R s m args below meth c T locs cells slots) (hx : p.tables.exec = Jvm.exec) {pc : Nat} {Ls : Array Slot} {z : Int32} {t : FieldType} (hret : meth.sig.returnType = some t) (ht : t = .boolean ∨ t = .byte ∨ t = .char ∨ t = .short) (hd : decode c.code pc = .ok (.ireturn, 1)) (hlk : meth.locks = false)
    (hQ : Q (some (.int (nar t z))) T.heap locs) (hc : cells ≤ rc) (hs : slots ≤ rs) : own_Fin p e below (own_G s Q rc rs) T (mkF m pc Ls (.int z :: rest)) :=
  own_end X (fun q => by rw [hret] at q; cases q) hlk (fun fs hr => retN X hx hret ht hd hr) hQ hc hs
theorem own_retL (X : Stand p l e R s m args below meth c T locs cells slots) (hx : p.tables.exec = Jvm.exec) {pc : Nat} {Ls : Array Slot} {z : Int64} (hret : meth.sig.returnType = some .long) (hd : decode c.code pc = .ok (.lreturn, 1)) (hlk : meth.locks = false)
    (hQ : Q (some (.long z)) T.heap locs) (hc : cells ≤ rc) (hs : slots ≤ rs) : own_Fin p e below (own_G s Q rc rs) T (mkF m pc Ls (.long z :: rest)) :=
  own_end X (fun q => by rw [hret] at q; cases q) hlk (fun fs hr => retOut X hx hret rfl (Or.inr (Or.inl ⟨rfl, rfl, z, rfl⟩)) hd hr) hQ hc hs
theorem own_retA (X : Stand p l e R s m args below meth c T locs cells slots) (hx : p.tables.exec = Jvm.exec) {pc : Nat} {Ls : Array Slot} {w : Value} {t : FieldType} (hret : meth.sig.returnType = some t) (ht : t.isReference = true) (hw : w.isRef = true) (hd : decode c.code pc = .ok (.areturn, 1)) (hlk : meth.locks = false)
    (hQ : Q (some w) T.heap locs) (hc : cells ≤ rc) (hs : slots ≤ rs) : own_Fin p e below (own_G s Q rc rs) T (mkF m pc Ls (w :: rest)) :=
  own_end X (fun q => by rw [hret] at q; cases q) hlk (fun fs hr => retOut X hx hret (own_narR hw ht) (Or.inr (Or.inr (Or.inr (Or.inr ⟨rfl, ht, hw⟩)))) hd hr) hQ hc hs
theorem own_retV (X : Stand p l e R s m args below meth c T locs cells slots) (hx : p.tables.exec = Jvm.exec) {pc : Nat} {Ls : Array Slot} (hret : meth.sig.returnType = none) (hd : decode c.code pc = .ok (.return_, 1)) (hlk : meth.locks = false)
    (hQ : Q none T.heap locs) (hc : cells ≤ rc) (hs : slots ≤ rs) : own_Fin p e below (own_G s Q rc rs) T (mkF m pc Ls []) :=
  own_end X (fun _ => rfl) hlk (fun fs hr => X.returnOut hx hret hd hr) hQ hc hs
/-- the entry -/
theorem own_body {ws : List Jvm.Cond} {rm : Room} {h0 : Heap} (hy : plainFor y = true)
    (body : ∀ p e s m below meth c s₁, BodyLoose p l y (head1 (Jvm.Cond.code y bytes maxL ret :: ws) rm) bytes maxL ret e s m as' below meth c s₁ → c.maxLocals = maxL → Z.Warmed39 s.vm → s₁.heap = h0 → own_Fin p e below (own_G s Q rm.cells rm.slots) s₁ (entryFrame m as' maxL)) :
    MetFree l y (head1 (Jvm.Cond.code y bytes maxL ret :: ws) rm) (fun a U => a = as' ∧ Z.Warmed39 U.vm ∧ U.heap = h0) (fun _ _ _ _ _ => True) (fun _ U o U' => ∃ v L, o = .returned v ∧ Q v U'.heap L ∧ FrameEnd U o U' L rm.cells rm.slots) := by
  refine MetFree.of_bodySF hy hisR ?_
  intro p e s m args below meth c s₁ Bd hml0 hP hK
  obtain ⟨rfl, hZ, hh⟩ := hP
  exact body p e s m below meth c s₁ Bd hml0 hZ (by rw [← hh, Bd.state]; rfl)
/-! calls, each by what pays it -/
theorem own_callS (X : Stand p l e R s m args below meth c T locs cells slots) (hx : p.tables.exec = Jvm.exec) (hZ : Z.Warmed39 s.vm) (hown : s.vm.findClass own = some m.cls) (w1 : (Jvm.Cond.methodLink own index y).before a0 Z = true) (w2 : (Jvm.Cond.static y).before a0 Z = true) (w3 : (Jvm.Cond.initialized y.cls).before a0 Z = true) (w4 : (Jvm.Cond.code y bytes maxL ret).before a0 Z = true)
    (hy : y.cls ≠ "java/lang/invoke/MethodHandle" ∧ y.cls ≠ "java/lang/invoke/VarHandle")
    (hK : Back l R p e below s args y 3 W (fun A a => a = as' ∧ A.U.heap = h ∧ A.cells + rc ≤ R.cells ∧ A.slots + rs ≤ R.slots) (fun A _ v B => ∃ L, Q v B.U.heap L ∧ B.locs = A.locs ++ L ∧ B.cells = A.cells + rc ∧ B.slots = A.slots + rs))
    (eT : T.heap = h) (hc : cells + rc ≤ R.cells) (hs : slots + rs ≤ R.slots) (hg : g.method = m) (hsize : g.locals.size = c.maxLocals) (hlen : ∀ sig, parseMethodDescriptor y.desc = some sig → argsL.length = sig.parameters.length) (hstack : g.stack = argsL.reverse ++ rest) (has : argsL.toArray = as') (hW : 2 * g.monitorRoom + (rest.map fun v => v.category).sum ≤ W) (hd : decode c.code g.pc = .ok (.invokestatic index, 3))
    (k1 : ∀ (v : Option Value) (T' : State) (L : List Loc), Stand p l e R s m args below meth c T' (locs ++ L) (cells + rc) (slots + rs) → Q v T'.heap L → own_Fin p e below G T' { g with pc := g.pc + 3, stack := v.toList ++ rest }) : own_Fin p e below G T g := by
  obtain ⟨v, _, ⟨T2, L2, k2, n2⟩, -, X2, ⟨L, hQ, e1, e2, e3⟩, st⟩ := Jvm.LawKit.callS X hx hown (mvT hZ w1) (mvT hZ w2) (mvT hZ w3) (mvT hZ w4) hy hK hg hsize hlen hstack hW hd (fun _ _ => ⟨has, eT, hc, hs⟩)
  try dsimp only at X2 e1 e2 e3 st hQ
  subst e1 e2 e3
  exact own_step st (k1 v T2 L X2 hQ)
theorem own_callC (X : Stand p l e R s m args below meth c T locs cells slots) (hx : p.tables.exec = Jvm.exec) (hZ : Z.Warmed39 s.vm) (hown : s.vm.findClass own = some m.cls) (hy1 : y.name = "<init>") (w1 : (Jvm.Cond.methodLink own index y).before a0 Z = true) (w2 : (Jvm.Cond.instanceMethod y).before a0 Z = true) (w4 : (Jvm.Cond.code y bytes maxL none).before a0 Z = true)
    (hy : y.cls ≠ "java/lang/invoke/MethodHandle" ∧ y.cls ≠ "java/lang/invoke/VarHandle")
    (hK : Back l R p e below s args y 3 W (fun A a => a = as' ∧ A.U.heap = h ∧ A.cells + rc ≤ R.cells ∧ A.slots + rs ≤ R.slots) (fun A _ v B => ∃ L, Q v B.U.heap L ∧ B.locs = A.locs ++ L ∧ B.cells = A.cells + rc ∧ B.slots = A.slots + rs))
    (eT : T.heap = h) (hc : cells + rc ≤ R.cells) (hs : slots + rs ≤ R.slots) (hg : g.method = m) (hsize : g.locals.size = c.maxLocals) (hlen : ∀ sig, parseMethodDescriptor y.desc = some sig → argsL.length = sig.parameters.length) (hstack : g.stack = argsL.reverse ++ .ref a :: rest) (has : (.ref a :: argsL).toArray = as') (hW : 2 * g.monitorRoom + (rest.map fun v => v.category).sum ≤ W) (hd : decode c.code g.pc = .ok (.invokespecial index, 3))
    (k1 : ∀ (v : Option Value) (T' : State) (L : List Loc), Stand p l e R s m args below meth c T' (locs ++ L) (cells + rc) (slots + rs) → Q v T'.heap L → own_Fin p e below G T' { g with pc := g.pc + 3, stack := v.toList ++ rest }) : own_Fin p e below G T g := by
  obtain ⟨v, _, ⟨T2, L2, k2, n2⟩, -, X2, ⟨L, hQ, e1, e2, e3⟩, st⟩ := X.specialBack hx hy1 hown (mvT hZ w1) (mvT hZ w2) (mvT hZ w4) hy hK hg hsize (Steps.refl _) hlen hstack hW hd (fun _ _ => ⟨has, eT, hc, hs⟩)
  try dsimp only at X2 e1 e2 e3 st hQ
  subst e1 e2 e3
  exact own_step (fun _ q => st.trans q) (k1 v T2 L X2 hQ)
theorem own_callCN {host : String} (X : Stand p l e R s m args below meth c T locs cells slots) (hx : p.tables.exec = Jvm.exec) (hZ : Z.Warmed39 s.vm) (hown : s.vm.findClass own = some m.cls) (hy1 : y.name = "<init>") (w1 : (Jvm.Cond.methodLinkNest own index y host).before a0 Z = true) (w2 : (Jvm.Cond.instanceMethod y).before a0 Z = true) (w4 : (Jvm.Cond.code y bytes maxL none).before a0 Z = true)
    (hy : y.cls ≠ "java/lang/invoke/MethodHandle" ∧ y.cls ≠ "java/lang/invoke/VarHandle")
    (hK : Back l R p e below s args y 3 W (fun A a => a = as' ∧ A.U.heap = h ∧ A.cells + rc ≤ R.cells ∧ A.slots + rs ≤ R.slots) (fun A _ v B => ∃ L, Q v B.U.heap L ∧ B.locs = A.locs ++ L ∧ B.cells = A.cells + rc ∧ B.slots = A.slots + rs))
    (eT : T.heap = h) (hc : cells + rc ≤ R.cells) (hs : slots + rs ≤ R.slots) (hg : g.method = m) (hsize : g.locals.size = c.maxLocals) (hlen : ∀ sig, parseMethodDescriptor y.desc = some sig → argsL.length = sig.parameters.length) (hstack : g.stack = argsL.reverse ++ .ref a :: rest) (has : (.ref a :: argsL).toArray = as') (hW : 2 * g.monitorRoom + (rest.map fun v => v.category).sum ≤ W) (hd : decode c.code g.pc = .ok (.invokespecial index, 3))
    (k1 : ∀ (v : Option Value) (T' : State) (L : List Loc), Stand p l e R s m args below meth c T' (locs ++ L) (cells + rc) (slots + rs) → Q v T'.heap L → own_Fin p e below G T' { g with pc := g.pc + 3, stack := v.toList ++ rest }) : own_Fin p e below G T g := by
  obtain ⟨v, _, ⟨T2, L2, k2, n2⟩, -, X2, ⟨L, hQ, e1, e2, e3⟩, st⟩ := X.specialBackNest hx hy1 hown (Cond.methodLinkNest_wide hZ w1 :) (mvT hZ w2) (mvT hZ w4) hy hK hg hsize (Steps.refl _) hlen hstack hW hd (fun _ _ => ⟨has, eT, hc, hs⟩)
  try dsimp only at X2 e1 e2 e3 st hQ
  subst e1 e2 e3
  exact own_step (fun _ q => st.trans q) (k1 v T2 L X2 hQ)
theorem own_callV {z : MethodName} {C : String} (X : Stand p l e R s m args below meth c T locs cells slots) (hx : p.tables.exec = Jvm.exec) (hZ : Z.Warmed39 s.vm) (hown : s.vm.findClass own = some m.cls) (w1 : (Jvm.Cond.methodLink own index y).before a0 Z = true) (w2 : (Jvm.Cond.declares y).before a0 Z = true) (hnf : NotFace s y) (w3 : (Jvm.Cond.selects C y z).before a0 Z = true) (w4 : (Jvm.Cond.instanceMethod z).before a0 Z = true)
    (hy : y.cls ≠ "java/lang/invoke/MethodHandle" ∧ y.cls ≠ "java/lang/invoke/VarHandle")
    (hK : Back l R p e below s args z 3 W (fun A a => a = as' ∧ A.U.heap = h ∧ A.cells + rc ≤ R.cells ∧ A.slots + rs ≤ R.slots) (fun A _ v B => ∃ L, Q v B.U.heap L ∧ B.locs = A.locs ++ L ∧ B.cells = A.cells + rc ∧ B.slots = A.slots + rs))
    (eT : T.heap = h) (E : Exa Z h a C) (hc : cells + rc ≤ R.cells) (hs : slots + rs ≤ R.slots) (hg : g.method = m) (hsize : g.locals.size = c.maxLocals) (hlen : ∀ sig, parseMethodDescriptor y.desc = some sig → argsL.length = sig.parameters.length) (hstack : g.stack = argsL.reverse ++ .ref a :: rest) (has : (.ref a :: argsL).toArray = as') (hW : 2 * g.monitorRoom + (rest.map fun v => v.category).sum ≤ W) (hd : decode c.code g.pc = .ok (.invokevirtual index, 3))
    (k1 : ∀ (v : Option Value) (T' : State) (L : List Loc), Stand p l e R s m args below meth c T' (locs ++ L) (cells + rc) (slots + rs) → Q v T'.heap L → own_Fin p e below G T' { g with pc := g.pc + 3, stack := v.toList ++ rest }) : own_Fin p e below G T g := by
  obtain ⟨cq, kq, qa, qb, qc⟩ := isOf hZ eT E
  obtain ⟨v, _, ⟨T2, L2, k2, n2⟩, -, X2, ⟨L, hQ, e1, e2, e3⟩, st⟩ := X.virtualBack hx hown (mvT hZ w1) (mvT hZ w2) hnf (mvT hZ w3) (mvT hZ w4) hy hK qa qc hg hsize (Steps.refl _) hlen hstack hW hd (fun _ _ => ⟨has, eT, hc, hs⟩)
  try dsimp only at X2 e1 e2 e3 st hQ
  subst e1 e2 e3
  exact own_step (fun _ q => st.trans q) (k1 v T2 L X2 hQ)
theorem own_callI {z : MethodName} {C : String} {count : Nat} (X : Stand p l e R s m args below meth c T locs cells slots) (hx : p.tables.exec = Jvm.exec) (hZ : Z.Warmed39 s.vm) (hown : s.vm.findClass own = some m.cls) (w1 : (Jvm.Cond.methodLink own index y).before a0 Z = true) (w2 : (Jvm.Cond.declares y).before a0 Z = true) (w3 : (Jvm.Cond.interfaceMethod y.cls y.cls y.name y.desc).before a0 Z = true) (w4 : (Jvm.Cond.selects C y z).before a0 Z = true) (w5 : (Jvm.Cond.instanceMethod z).before a0 Z = true) (w6 : (Jvm.Cond.publicMethod z).before a0 Z = true) (w7 : (Jvm.Cond.unhidden C y.name y.desc).before a0 Z = true) (w8 : (Jvm.Cond.castable C y.cls).before a0 Z = true) (hd3 : ((Jvm.Cond.interfaceMethod y.cls y.cls y.name y.desc).onTables && (Jvm.Cond.interfaceMethod y.cls y.cls y.name y.desc).keepsFace) = true)
    (hy : y.cls ≠ "java/lang/invoke/MethodHandle" ∧ y.cls ≠ "java/lang/invoke/VarHandle")
    (hK : Back l R p e below s args z 5 W (fun A a => a = as' ∧ A.U.heap = h ∧ A.cells + rc ≤ R.cells ∧ A.slots + rs ≤ R.slots) (fun A _ v B => ∃ L, Q v B.U.heap L ∧ B.locs = A.locs ++ L ∧ B.cells = A.cells + rc ∧ B.slots = A.slots + rs))
    (eT : T.heap = h) (E : Exa Z h a C) (hc : cells + rc ≤ R.cells) (hs : slots + rs ≤ R.slots) (hg : g.method = m) (hsize : g.locals.size = c.maxLocals) (hlen : ∀ sig, parseMethodDescriptor y.desc = some sig → argsL.length = sig.parameters.length) (hstack : g.stack = argsL.reverse ++ .ref a :: rest) (has : (.ref a :: argsL).toArray = as') (hW : 2 * g.monitorRoom + (rest.map fun v => v.category).sum ≤ W) (hd : decode c.code g.pc = .ok (.invokeinterface index count, 5))
    (k1 : ∀ (v : Option Value) (T' : State) (L : List Loc), Stand p l e R s m args below meth c T' (locs ++ L) (cells + rc) (slots + rs) → Q v T'.heap L → own_Fin p e below G T' { g with pc := g.pc + 5, stack := v.toList ++ rest }) : own_Fin p e below G T g := by
  obtain ⟨cq, kq, qa, qb, qc⟩ := isOf hZ eT E
  obtain ⟨v, _, ⟨T2, L2, k2, n2⟩, -, X2, ⟨L, hQ, e1, e2, e3⟩, st⟩ := X.interfaceBack hx hown (mvT hZ w1) (mvT hZ w2) (mvT hZ w3 hd3) (mvT hZ w4) (mvT hZ w5) (mvT hZ w6) (mvT hZ w7) (mvT hZ w8) hy hK qa qb qc hg hsize (Steps.refl _) hlen hstack hW hd (fun _ _ => ⟨has, eT, hc, hs⟩)
  try dsimp only at X2 e1 e2 e3 st hQ
  subst e1 e2 e3
  exact own_step (fun _ q => st.trans q) (k1 v T2 L X2 hQ)
theorem own_selP (hZ : Z.Warmed39 s.vm) {kn : Nat} (wi : (Jvm.Cond.instantiable y.cls kn).before a0 Z = true) (w2 : (Jvm.Cond.instanceMethod y).before a0 Z = true) (w4 : (Jvm.Cond.privateMethod y).before a0 Z = true) (hy : y.cls ≠ "java/lang/invoke/MethodHandle" ∧ y.cls ≠ "java/lang/invoke/VarHandle") : (Jvm.Cond.selects y.cls y y).before args s = true := by
  obtain ⟨cc, kk, h1, h2, -, h4, -⟩ := Cond.instantiable_spec (mvT (args := args) hZ wi)
  exact selects_self_of_private h1 h2 (by simp at h4; exact h4.1) (Cond.privateMethod_at (mvP hZ w4 (args := #[]))) (mvT hZ w2) hy
theorem own_nf_move {s : State} {y z : MethodName} {a : Array Value} (h : NotFace s y) (w : (Jvm.Cond.instanceMethod y).before a s = true) (hc : z.cls = y.cls) : NotFace s z := fun r0 h0 => by
  obtain ⟨mk, methM, hnamed, -⟩ := Cond.instanceMethod_spec w
  have c1 := findClass_of_methodNamed hnamed
  have c2 := findClass_of_methodNamed h0
  rw [hc, c1] at c2
  have e : mk.cls = r0.cls := Option.some.inj c2
  obtain ⟨k, q1, q2⟩ := h mk hnamed
  exact ⟨k, by rw [← e]; exact q1, q2⟩
theorem own_same {s : State} {y : MethodName} {a : Array Value} (h : NotFace s y) (w : (Jvm.Cond.instanceMethod y).before a s = true) (hy : y.cls ≠ "java/lang/invoke/MethodHandle" ∧ y.cls ≠ "java/lang/invoke/VarHandle") : (Jvm.Cond.sameMethod y.cls y.cls y.name y.desc).before a s = true := by
  obtain ⟨mk, methM, hnamed, -⟩ := Cond.instanceMethod_spec w
  have hf := State.methodFound?_of_named hnamed hy
  have hc := findClass_of_methodNamed hnamed
  obtain ⟨k, q1, q2⟩ := h mk hnamed
  have hn' : s.methodNamed? ⟨y.cls, y.name, y.desc⟩ = some mk := hnamed
  simp [Cond.before, Cond.holds, Cond.value, hc, hf, hn', q1, q2]
theorem own_selQ (hZ : Z.Warmed39 s.vm) (hnf : NotFace s y) (w2 : (Jvm.Cond.instanceMethod y).before a0 Z = true) (w4 : (Jvm.Cond.privateMethod y).before a0 Z = true) (hy : y.cls ≠ "java/lang/invoke/MethodHandle" ∧ y.cls ≠ "java/lang/invoke/VarHandle") : (Jvm.Cond.selects y.cls y y).before args s = true := by
  obtain ⟨mk, methM, hnamed, -⟩ := Cond.instanceMethod_spec (mvT (args := args) hZ w2)
  obtain ⟨k, q1, q2⟩ := hnf mk hnamed
  exact selects_self_of_private (findClass_of_methodNamed hnamed) q1 q2 (Cond.privateMethod_at (mvP hZ w4 (args := #[]))) (mvT hZ w2) hy
theorem own_callU {K : String} (X : Stand p l e R s m args below meth c T locs cells slots) (hx : p.tables.exec = Jvm.exec) (hZ : Z.Warmed39 s.vm) (hown : s.vm.findClass own = some m.cls) (hy1 : y.name ≠ "<init>") (w1 : (Jvm.Cond.methodLink own index y).before a0 Z = true) (w2 : (Jvm.Cond.instanceMethod y).before a0 Z = true) (w3 : (Jvm.Cond.sameMethod y.cls y.cls y.name y.desc).before a0 Z = true) (w5 : (Jvm.Cond.superclass own y.cls).before a0 Z = true) (w4 : (Jvm.Cond.code y bytes maxL ret).before a0 Z = true)
    (hy : y.cls ≠ "java/lang/invoke/MethodHandle" ∧ y.cls ≠ "java/lang/invoke/VarHandle")
    (hK : Back l R p e below s args y 3 W (fun A a => a = as' ∧ A.U.heap = h ∧ A.cells + rc ≤ R.cells ∧ A.slots + rs ≤ R.slots) (fun A _ v B => ∃ L, Q v B.U.heap L ∧ B.locs = A.locs ++ L ∧ B.cells = A.cells + rc ∧ B.slots = A.slots + rs))
    (eT : T.heap = h) (E : Exa Z h a K) (hc : cells + rc ≤ R.cells) (hs : slots + rs ≤ R.slots) (hg : g.method = m) (hsize : g.locals.size = c.maxLocals) (hlen : ∀ sig, parseMethodDescriptor y.desc = some sig → argsL.length = sig.parameters.length) (hstack : g.stack = argsL.reverse ++ .ref a :: rest) (has : (.ref a :: argsL).toArray = as') (hW : 2 * g.monitorRoom + (rest.map fun v => v.category).sum ≤ W) (hd : decode c.code g.pc = .ok (.invokespecial index, 3))
    (k1 : ∀ (v : Option Value) (T' : State) (L : List Loc), Stand p l e R s m args below meth c T' (locs ++ L) (cells + rc) (slots + rs) → Q v T'.heap L → own_Fin p e below G T' { g with pc := g.pc + 3, stack := v.toList ++ rest }) : own_Fin p e below G T g := by
  obtain ⟨v, _, ⟨T2, L2, k2, n2⟩, -, X2, ⟨L, hQ, e1, e2, e3⟩, st⟩ := superBack X hx hZ hown w1 w3 w2 w5 hy1 hK eT (Ins.self E) hg hsize w4 hlen hstack hW hd (fun _ _ => ⟨has, eT, hc, hs⟩)
  try dsimp only at X2 e1 e2 e3 st hQ
  subst e1 e2 e3
  exact own_step (fun _ q => st.trans q) (k1 v T2 L X2 hQ)
theorem own_callP {C : String} (X : Stand p l e R s m args below meth c T locs cells slots) (hx : p.tables.exec = Jvm.exec) (hZ : Z.Warmed39 s.vm) (hown : s.vm.findClass own = some m.cls) (w1 : (Jvm.Cond.methodLink own index y).before a0 Z = true) (w2 : (Jvm.Cond.instanceMethod y).before a0 Z = true) (w3 : (Jvm.Cond.selects y.cls y y).before args s = true) (w4 : (Jvm.Cond.privateMethod y).before a0 Z = true) (w5 : (Jvm.Cond.code y bytes maxL ret).before a0 Z = true)
    (hy : y.cls ≠ "java/lang/invoke/MethodHandle" ∧ y.cls ≠ "java/lang/invoke/VarHandle")
    (hK : Back l R p e below s args y 3 W (fun A a => a = as' ∧ A.U.heap = h ∧ A.cells + rc ≤ R.cells ∧ A.slots + rs ≤ R.slots) (fun A _ v B => ∃ L, Q v B.U.heap L ∧ B.locs = A.locs ++ L ∧ B.cells = A.cells + rc ∧ B.slots = A.slots + rs))
    (eT : T.heap = h) (E : Exa Z h a C) (hc : cells + rc ≤ R.cells) (hs : slots + rs ≤ R.slots) (hg : g.method = m) (hsize : g.locals.size = c.maxLocals) (hlen : ∀ sig, parseMethodDescriptor y.desc = some sig → argsL.length = sig.parameters.length) (hstack : g.stack = argsL.reverse ++ .ref a :: rest) (has : (.ref a :: argsL).toArray = as') (hW : 2 * g.monitorRoom + (rest.map fun v => v.category).sum ≤ W) (hd : decode c.code g.pc = .ok (.invokevirtual index, 3))
    (k1 : ∀ (v : Option Value) (T' : State) (L : List Loc), Stand p l e R s m args below meth c T' (locs ++ L) (cells + rc) (slots + rs) → Q v T'.heap L → own_Fin p e below G T' { g with pc := g.pc + 3, stack := v.toList ++ rest }) : own_Fin p e below G T g := by
  obtain ⟨cq, q, q'⟩ := E.cell
  obtain ⟨v, _, ⟨T2, L2, k2, n2⟩, -, X2, ⟨L, hQ, e1, e2, e3⟩, st⟩ := X.privateBack hx hown (mvT hZ w1) (mvT hZ w2) w3 (Cond.privateMethod_at (mvP hZ w4 (args := #[]))) (mvT hZ w5) hy hK hg hsize (Steps.refl _) (a := a) (by rw [eT]; exact q) q' hlen hstack hW hd (fun _ _ => ⟨has, eT, hc, hs⟩)
  try dsimp only at X2 e1 e2 e3 st hQ
  subst e1 e2 e3
  exact own_step (fun _ q => st.trans q) (k1 v T2 L X2 hQ)
/-! arrays -/
theorem own_ldC (X : Stand p l e R s m args below meth c T locs cells slots) (hx : p.tables.exec = Jvm.exec) (hZ : Z.Warmed39 s.vm) (eT : T.heap = h) (F : Arv Z h a k .char n vs d) (hj : ¬ j < 0 ∧ j < n) (hu : vs.getD j.toNatClampNeg d = v) (hg : g.method = m) (hs : g.stack = .int j :: .ref a :: rest) (hd : decode c.code g.pc = .ok (.caload, 1)) : ∀ t, Steps p.tables e below (T.setTop { g with pc := g.pc + 1, stack := v :: rest }) t → Steps p.tables e below (T.setTop g) t := by
  obtain ⟨cl, A, q1, S, q3, H, q5⟩ := F
  exact fun t k1 => X.caload hx (by rw [eT]; exact A.1) (State.isArrayOf_alike hZ.alike A.2.1) A.2.2 (inb_of S hj) (H.at (inb_of S hj) hu) hg hs hd t k1
theorem own_ldI (X : Stand p l e R s m args below meth c T locs cells slots) (hx : p.tables.exec = Jvm.exec) (hZ : Z.Warmed39 s.vm) (eT : T.heap = h) (F : Arv Z h a k .int n vs d) (hj : ¬ j < 0 ∧ j < n) (hu : vs.getD j.toNatClampNeg d = v) (hg : g.method = m) (hs : g.stack = .int j :: .ref a :: rest) (hd : decode c.code g.pc = .ok (.iaload, 1)) : ∀ t, Steps p.tables e below (T.setTop { g with pc := g.pc + 1, stack := v :: rest }) t → Steps p.tables e below (T.setTop g) t := by
  obtain ⟨cl, A, q1, S, q3, H, q5⟩ := F
  exact fun t k1 => X.iaload hx (by rw [eT]; exact A.1) (State.isArrayOf_alike hZ.alike A.2.1) A.2.2 (inb_of S hj) (H.at (inb_of S hj) hu) hg hs hd t k1
theorem own_ldJ (X : Stand p l e R s m args below meth c T locs cells slots) (hx : p.tables.exec = Jvm.exec) (hZ : Z.Warmed39 s.vm) (eT : T.heap = h) (F : Arv Z h a k .long n vs d) (hj : ¬ j < 0 ∧ j < n) (hu : vs.getD j.toNatClampNeg d = v) (hg : g.method = m) (hs : g.stack = .int j :: .ref a :: rest) (hd : decode c.code g.pc = .ok (.laload, 1)) : ∀ t, Steps p.tables e below (T.setTop { g with pc := g.pc + 1, stack := v :: rest }) t → Steps p.tables e below (T.setTop g) t := by
  obtain ⟨cl, A, q1, S, q3, H, q5⟩ := F
  exact fun t k1 => X.laload hx (by rw [eT]; exact A.1) (State.isArrayOf_alike hZ.alike A.2.1) A.2.2 (inb_of S hj) (H.at (inb_of S hj) hu) hg hs hd t k1
theorem own_ldB (X : Stand p l e R s m args below meth c T locs cells slots) (hx : p.tables.exec = Jvm.exec) (hZ : Z.Warmed39 s.vm) (eT : T.heap = h) (F : Arv Z h a k .byte n vs d) (hj : ¬ j < 0 ∧ j < n) (hu : vs.getD j.toNatClampNeg d = v) (hg : g.method = m) (hs : g.stack = .int j :: .ref a :: rest) (hd : decode c.code g.pc = .ok (.baload, 1)) : ∀ t, Steps p.tables e below (T.setTop { g with pc := g.pc + 1, stack := v :: rest }) t → Steps p.tables e below (T.setTop g) t := by
  obtain ⟨cl, A, q1, S, q3, H, q5⟩ := F
  exact fun t k1 => X.baloadBytes hx (by rw [eT]; exact A.1) (State.isArrayOf_alike hZ.alike A.2.1) A.2.2 (inb_of S hj) (H.at (inb_of S hj) hu) hg hs hd t k1
theorem own_ldA (X : Stand p l e R s m args below meth c T locs cells slots) (hx : p.tables.exec = Jvm.exec) (hZ : Z.Warmed39 s.vm) (eT : T.heap = h) (F : Arv Z h a k ty n vs d) (hty : ty.isReference = true) (hj : ¬ j < 0 ∧ j < n) (hu : vs.getD j.toNatClampNeg d = v) (hg : g.method = m) (hs : g.stack = .int j :: .ref a :: rest) (hd : decode c.code g.pc = .ok (.aaload, 1)) : ∀ t, Steps p.tables e below (T.setTop { g with pc := g.pc + 1, stack := v :: rest }) t → Steps p.tables e below (T.setTop g) t := by
  obtain ⟨cl, A, q1, S, q3, H, q5⟩ := F
  exact fun t k1 => X.aaload hx (by rw [eT]; exact A.1) (State.isArrayOf_alike hZ.alike A.2.1) hty A.2.2 (inb_of S hj) (H.at (inb_of S hj) hu) hg hs hd t k1
theorem own_len (X : Stand p l e R s m args below meth c T locs cells slots) (hx : p.tables.exec = Jvm.exec) (hZ : Z.Warmed39 s.vm) (eT : T.heap = h) (F : Arv Z h a k ty n vs d) (hg : g.method = m) (hs : g.stack = .ref a :: rest) (hd : decode c.code g.pc = .ok (.arraylength, 1)) : ∀ t, Steps p.tables e below (T.setTop { g with pc := g.pc + 1, stack := .int n :: rest }) t → Steps p.tables e below (T.setTop g) t := by
  obtain ⟨cl, A, q1, S, q3, H, q5⟩ := F
  refine fun t k1 => X.arraylength hx (by rw [eT]; exact A.1) (State.isArrayOf_alike hZ.alike A.2.1) hg hs hd t ?_
  rw [len_of S q3]; exact k1
theorem own_stC (X : Stand p l e R s m args below meth c T locs cells slots) (hx : p.tables.exec = Jvm.exec) (hZ : Z.Warmed39 s.vm) (eT : T.heap = h) (F : Arv Z h a k .char n vs d) {x : Int32} (hj : ¬ j < 0 ∧ j < n) {i : Nat} (hi : j.toNatClampNeg = i) (hl : i < vs.length) (hg : g.method = m) (hs : g.stack = .int x :: .int j :: .ref a :: rest) (hd : decode c.code g.pc = .ok (.castore, 1)) :
    ∃ T' h', Stand p l e R s m args below meth c T' (locs ++ [⟨a, j.toNatClampNeg⟩]) cells slots ∧ T'.heap = h' ∧ Wr h h' a j.toNatClampNeg (.int (nar .char x)) ∧ Arv Z h' a k .char n (vs.set i (.int (nar .char x))) d ∧ ∀ t, Steps p.tables e below (T'.setTop { g with pc := g.pc + 1, stack := rest }) t → Steps p.tables e below (T.setTop g) t := by
  obtain ⟨cl, A, q1, S, q3, H, q5⟩ := F
  obtain ⟨T', h', X', e', W', st⟩ := stC X hx hZ eT A (inb_of S hj) hg hs hd
  exact ⟨T', h', X', e', W', Arv.set A q1 S q3 H q5 (fits_nar_char _) W' i hi hl, st⟩
theorem own_stI (X : Stand p l e R s m args below meth c T locs cells slots) (hx : p.tables.exec = Jvm.exec) (hZ : Z.Warmed39 s.vm) (eT : T.heap = h) (F : Arv Z h a k .int n vs d) {x : Int32} (hj : ¬ j < 0 ∧ j < n) {i : Nat} (hi : j.toNatClampNeg = i) (hl : i < vs.length) (hg : g.method = m) (hs : g.stack = .int x :: .int j :: .ref a :: rest) (hd : decode c.code g.pc = .ok (.iastore, 1)) :
    ∃ T' h', Stand p l e R s m args below meth c T' (locs ++ [⟨a, j.toNatClampNeg⟩]) cells slots ∧ T'.heap = h' ∧ Wr h h' a j.toNatClampNeg (.int x) ∧ Arv Z h' a k .int n (vs.set i (.int x)) d ∧ ∀ t, Steps p.tables e below (T'.setTop { g with pc := g.pc + 1, stack := rest }) t → Steps p.tables e below (T.setTop g) t := by
  obtain ⟨cl, A, q1, S, q3, H, q5⟩ := F
  obtain ⟨T', h', X', e', W', st⟩ := stI X hx hZ eT A (inb_of S hj) hg hs hd
  exact ⟨T', h', X', e', W', Arv.set A q1 S q3 H q5 rfl W' i hi hl, st⟩
theorem own_stJ (X : Stand p l e R s m args below meth c T locs cells slots) (hx : p.tables.exec = Jvm.exec) (hZ : Z.Warmed39 s.vm) (eT : T.heap = h) (F : Arv Z h a k .long n vs d) {x : Int64} (hj : ¬ j < 0 ∧ j < n) {i : Nat} (hi : j.toNatClampNeg = i) (hl : i < vs.length) (hg : g.method = m) (hs : g.stack = .long x :: .int j :: .ref a :: rest) (hd : decode c.code g.pc = .ok (.lastore, 1)) :
    ∃ T' h', Stand p l e R s m args below meth c T' (locs ++ [⟨a, j.toNatClampNeg⟩]) cells slots ∧ T'.heap = h' ∧ Wr h h' a j.toNatClampNeg (.long x) ∧ Arv Z h' a k .long n (vs.set i (.long x)) d ∧ ∀ t, Steps p.tables e below (T'.setTop { g with pc := g.pc + 1, stack := rest }) t → Steps p.tables e below (T.setTop g) t := by
  obtain ⟨cl, A, q1, S, q3, H, q5⟩ := F
  obtain ⟨T', h', X', e', W', st⟩ := stJ X hx hZ eT A (inb_of S hj) hg hs hd
  exact ⟨T', h', X', e', W', Arv.set A q1 S q3 H q5 rfl W' i hi hl, st⟩
theorem own_stB (X : Stand p l e R s m args below meth c T locs cells slots) (hx : p.tables.exec = Jvm.exec) (hZ : Z.Warmed39 s.vm) (eT : T.heap = h) (F : Arv Z h a k .byte n vs d) {x : Int32} (hj : ¬ j < 0 ∧ j < n) {i : Nat} (hi : j.toNatClampNeg = i) (hl : i < vs.length) (hg : g.method = m) (hs : g.stack = .int x :: .int j :: .ref a :: rest) (hd : decode c.code g.pc = .ok (.bastore, 1)) :
    ∃ T' h', Stand p l e R s m args below meth c T' (locs ++ [⟨a, j.toNatClampNeg⟩]) cells slots ∧ T'.heap = h' ∧ Wr h h' a j.toNatClampNeg (.int x.toInt8.toInt32) ∧ Arv Z h' a k .byte n (vs.set i (.int x.toInt8.toInt32)) d ∧ ∀ t, Steps p.tables e below (T'.setTop { g with pc := g.pc + 1, stack := rest }) t → Steps p.tables e below (T.setTop g) t := by
  obtain ⟨cl, A, q1, S, q3, H, q5⟩ := F
  obtain ⟨T', h', X', e', W', st⟩ := stB X hx hZ eT A (inb_of S hj) hg hs hd
  exact ⟨T', h', X', e', W', Arv.set A q1 S q3 H q5 (fits_nar_byte _) W' i hi hl, st⟩
theorem own_stR (X : Stand p l e R s m args below meth c T locs cells slots) (hx : p.tables.exec = Jvm.exec) (hZ : Z.Warmed39 s.vm) (eT : T.heap = h) (F : Arv Z h a k ty n vs d) (hty : ty.isReference = true) {x : Value} (hxr : fits ty x = true) (hsto : ∀ cl, Arr Z h a cl ty → cl.cls = k → Sto Z h a x) (hj : ¬ j < 0 ∧ j < n) {i : Nat} (hi : j.toNatClampNeg = i) (hl : i < vs.length) (hg : g.method = m) (hs : g.stack = x :: .int j :: .ref a :: rest) (hd : decode c.code g.pc = .ok (.aastore, 1)) :
    ∃ T' h', Stand p l e R s m args below meth c T' (locs ++ [⟨a, j.toNatClampNeg⟩]) cells slots ∧ T'.heap = h' ∧ Wr h h' a j.toNatClampNeg x ∧ Arv Z h' a k ty n (vs.set i x) d ∧ ∀ t, Steps p.tables e below (T'.setTop { g with pc := g.pc + 1, stack := rest }) t → Steps p.tables e below (T.setTop g) t := by
  obtain ⟨cl, A, q1, S, q3, H, q5⟩ := F
  obtain ⟨T', h', X', e', W', st⟩ := stR X hx hZ eT A (inb_of S hj) hty (hsto cl A q1) hg hs hd
  exact ⟨T', h', X', e', W', Arv.set A q1 S q3 H q5 hxr W' i hi hl, st⟩
/-! small things -/
theorem own_ne {x y n : Nat} (h1 : x < n) (h2 : n ≤ y) : x ≠ y := Nat.ne_of_lt (Nat.lt_of_lt_of_le h1 h2)
theorem own_lt {x n n' : Nat} (h1 : x < n) (h2 : n ≤ n') : x < n' := Nat.lt_of_lt_of_le h1 h2
theorem own_arr_ne {ty' : FieldType} {k' : ClassId} {n' : Int32} {vs' : List Value} {d' : Value} (A : Arv Z h a k ty n vs d) (B : Arv Z h b k' ty' n' vs' d') (ht : ty ≠ ty') : a ≠ b := fun q => by
  subst q
  obtain ⟨c1, ⟨h1, ⟨-, kk, g1, comp, g2⟩, -⟩, -⟩ := A
  obtain ⟨c2, ⟨h2, ⟨-, kk', g3, comp', g4⟩, -⟩, -⟩ := B
  cases h1.symm.trans h2
  cases g1.symm.trans g3
  have := g2.symm.trans g4
  cases this
  exact ht rfl
theorem own_and255 (x : Int32) : ¬ nar .char ((x &&& (255 : Int32)).toUInt32.toUInt16.toUInt32.toInt32) < 0 ∧ ¬ (255 : Int32) < nar .char ((x &&& (255 : Int32)).toUInt32.toUInt16.toUInt32.toInt32) := by
  have t : ∀ k : Fin 256, ¬ nar .char ((Int32.ofNat k.val).toUInt32.toUInt16.toUInt32.toInt32) < 0 ∧ ¬ (255 : Int32) < nar .char ((Int32.ofNat k.val).toUInt32.toUInt16.toUInt32.toInt32) := by decide +kernel
  have h : (x &&& 255).toBitVec.toNat < 256 := by
    simp only [Int32.toBitVec_and, BitVec.toNat_and]
    exact Nat.lt_succ_of_le Nat.and_le_right
  have e : (x &&& 255) = Int32.ofNat (x &&& 255).toBitVec.toNat := by
    apply Int32.toBitVec_inj.mp
    show _ = BitVec.ofNat 32 _
    rw [BitVec.ofNat_toNat]; simp
  rw [e]
  exact t ⟨_, h⟩
theorem own_up (cs : List Int32) (h : ∀ c ∈ cs, ¬ c < 0 ∧ ¬ (255 : Int32) < c) : ∀ c ∈ cs, ¬ c < 0 ∧ ¬ (65535 : Int32) < c := fun c hc => ⟨(h c hc).1, fun q => (h c hc).2 (by rw [Int32.lt_iff_toInt_lt] at q ⊢; have e1 : (65535 : Int32).toInt = 65535 := rfl; have e2 : (255 : Int32).toInt = 255 := rfl; omega)⟩
theorem own_all0 {P : Int32 → Prop} : ∀ c ∈ ([] : List Int32), P c := fun _ q => nomatch q
theorem own_allS {P : Int32 → Prop} {x : Int32} {L : List Int32} (q : P x) (r : ∀ c ∈ L, P c) : ∀ c ∈ x :: L, P c := fun c z => (List.mem_cons.mp z).elim (fun u => u ▸ q) (r c)
end OwnKit
end Jvm.Pilot.@@N@@
namespace Jvm.Pilot.@@N@@
open Jvm Jvm.ClassFile Sem Op Lib Jvm.Free Jvm.Stand Jvm.LawKit Jvm.RoadKit Bundle Jvm.Pilot.@@N@@.Jvm.D
section OwnWide
variable {p : Program} {l : Launch} {e : Env} {R : Room} {s : State} {m : MethodId} {args : Array Value} {below : List Frame} {meth : Method} {c : Code} {T T' : State} {locs : List Loc} {cells slots : Nat} {g g' : JFrame} {G : State → Outcome → Prop} {Z : State} {a0 : Array Value} {h : Heap} {y : MethodName} {own : String} {index : Nat} {bytes : ByteArray} {maxL : Nat} {ret : Option FieldType} {W : Nat} {as' : Array Value} {rc rs : Nat} {Q : Option Value → Heap → List Loc → Prop} {argsL rest : List Value} {a b : Addr} {k : ClassId} {ty : FieldType} {n j : Int32} {vs : List Value} {d v : Value} {EL : List (String × Nat)} {vm0 : Vm} {k0 : Nat}
/-- what a body owes at its end, where it (or what it calls) may load literals -/
abbrev own_GW (Z : State) (EL : List (String × Nat)) (s : State) (Q : Option Value → Heap → List Loc → Prop) (rc rs : Nat) : State → Outcome → Prop := fun s₂ o => ∃ v L, o = .returned v ∧ Q v s₂.heap L ∧ CHr Z EL s.vm s.heap s₂.vm s₂.heap ∧ ReturnedEndW s o s₂ L rc rs
theorem own_endW (X : Stand p l e R (s.setVm vm0) m args below meth c T locs cells slots) (hZ : Z.Warmed39 vm0) (hEL : EW Z a0 EL) (hS : s.Since vm0 k0) (hk : k0 ≤ T.heap.size) (CH : CHr Z EL s.vm s.heap vm0 T.heap) {v : Option Value} (hv : meth.sig.returnType = none → v = none) (hlk : meth.locks = false)
    (st : ∀ fs, (∀ (f : JFrame) (acts : List Action), f.method = m → f.locked = none → f.entered = [] → (doReturn e (T.setTop f) acts v).1 = T.setFrames fs) → Steps p.tables e below (T.setTop g) (T.setFrames fs))
    (hQ : Q v T.heap locs) (hc : cells ≤ rc) (hs : slots ≤ rs) : own_Fin p e below (own_GW Z EL s Q rc rs) T g := by
  obtain ⟨fs, hr, hrun, hended, hW, hsame⟩ := X.leave hv hlk
  obtain ⟨q1, q2, q3⟩ := hS.ended hW hk hsame
  exact ⟨_, _, st fs hr, hrun, hended, v, locs, rfl, hQ, (show CHr Z EL s.vm s.heap T.vm T.heap from CH.trans (CHv.at X hZ hEL CH.1)), ⟨_, rfl⟩, q1, q2, q3.mono hc hs⟩
theorem own_retIW (X : Stand p l e R (s.setVm vm0) m args below meth c T locs cells slots) (hx : p.tables.exec = Jvm.exec) (hZ : Z.Warmed39 vm0) (hEL : EW Z a0 EL) (hS : s.Since vm0 k0) (hk : k0 ≤ T.heap.size) (CH : CHr Z EL s.vm s.heap vm0 T.heap) {pc : Nat} {Ls : Array Slot} {z : Int32} (hret : meth.sig.returnType = some .int) (hd : decode c.code pc = .ok (.ireturn, 1)) (hlk : meth.locks = false)
    (hQ : Q (some (.int z)) T.heap locs) (hc : cells ≤ rc) (hs : slots ≤ rs) : own_Fin p e below (own_GW Z EL s Q rc rs) T (mkF m pc Ls (.int z :: rest)) :=
  own_endW X hZ hEL hS hk CH (fun q => by rw [hret] at q; cases q) hlk (fun fs hr => retOut X hx hret rfl (Or.inl ⟨rfl, Or.inl rfl, z, rfl⟩) hd hr) hQ hc hs
theorem own_retNW (X : Stand p l e R (s.setVm vm0) m args below meth c T locs cells slots) (hx : p.tables.exec = Jvm.exec) (hZ : Z.Warmed39 vm0) (hEL : EW Z a0 EL) (hS : s.Since vm0 k0) (hk : k0 ≤ T.heap.size) (CH : CHr Z EL s.vm s.heap vm0 T.heap) {pc : Nat} {Ls : Array Slot} {z : Int32} {t : FieldType} (hret : meth.sig.returnType = some t) (ht : t = .boolean ∨ t = .byte ∨ t = .char ∨ t = .short) (hd : decode c.code pc = .ok (.ireturn, 1)) (hlk : meth.locks = false)
    (hQ : Q (some (.int (nar t z))) T.heap locs) (hc : cells ≤ rc) (hs : slots ≤ rs) : own_Fin p e below (own_GW Z EL s Q rc rs) T (mkF m pc Ls (.int z :: rest)) :=
  own_endW X hZ hEL hS hk CH (fun q => by rw [hret] at q; cases q) hlk (fun fs hr => retN X hx hret ht hd hr) hQ hc hs
theorem own_retLW (X : Stand p l e R (s.setVm vm0) m args below meth c T locs cells slots) (hx : p.tables.exec = Jvm.exec) (hZ : Z.Warmed39 vm0) (hEL : EW Z a0 EL) (hS : s.Since vm0 k0) (hk : k0 ≤ T.heap.size) (CH : CHr Z EL s.vm s.heap vm0 T.heap) {pc : Nat} {Ls : Array Slot} {z : Int64} (hret : meth.sig.returnType = some .long) (hd : decode c.code pc = .ok (.lreturn, 1)) (hlk : meth.locks = false)
    (hQ : Q (some (.long z)) T.heap locs) (hc : cells ≤ rc) (hs : slots ≤ rs) : own_Fin p e below (own_GW Z EL s Q rc rs) T (mkF m pc Ls (.long z :: rest)) :=
  own_endW X hZ hEL hS hk CH (fun q => by rw [hret] at q; cases q) hlk (fun fs hr => retOut X hx hret rfl (Or.inr (Or.inl ⟨rfl, rfl, z, rfl⟩)) hd hr) hQ hc hs
theorem own_retAW (X : Stand p l e R (s.setVm vm0) m args below meth c T locs cells slots) (hx : p.tables.exec = Jvm.exec) (hZ : Z.Warmed39 vm0) (hEL : EW Z a0 EL) (hS : s.Since vm0 k0) (hk : k0 ≤ T.heap.size) (CH : CHr Z EL s.vm s.heap vm0 T.heap) {pc : Nat} {Ls : Array Slot} {w : Value} {t : FieldType} (hret : meth.sig.returnType = some t) (ht : t.isReference = true) (hw : w.isRef = true) (hd : decode c.code pc = .ok (.areturn, 1)) (hlk : meth.locks = false)
    (hQ : Q (some w) T.heap locs) (hc : cells ≤ rc) (hs : slots ≤ rs) : own_Fin p e below (own_GW Z EL s Q rc rs) T (mkF m pc Ls (w :: rest)) :=
  own_endW X hZ hEL hS hk CH (fun q => by rw [hret] at q; cases q) hlk (fun fs hr => retOut X hx hret (own_narR hw ht) (Or.inr (Or.inr (Or.inr (Or.inr ⟨rfl, ht, hw⟩)))) hd hr) hQ hc hs
theorem own_retVW (X : Stand p l e R (s.setVm vm0) m args below meth c T locs cells slots) (hx : p.tables.exec = Jvm.exec) (hZ : Z.Warmed39 vm0) (hEL : EW Z a0 EL) (hS : s.Since vm0 k0) (hk : k0 ≤ T.heap.size) (CH : CHr Z EL s.vm s.heap vm0 T.heap) {pc : Nat} {Ls : Array Slot} (hret : meth.sig.returnType = none) (hd : decode c.code pc = .ok (.return_, 1)) (hlk : meth.locks = false)
    (hQ : Q none T.heap locs) (hc : cells ≤ rc) (hs : slots ≤ rs) : own_Fin p e below (own_GW Z EL s Q rc rs) T (mkF m pc Ls []) :=
  own_endW X hZ hEL hS hk CH (fun _ => rfl) hlk (fun fs hr => X.returnOut hx hret hd hr) hQ hc hs
theorem own_bodyW {ws : List Jvm.Cond} {rm : Room} {h0 : Heap} (hy : plainFor y = true)
    (body : ∀ p e s m below meth c s₁, BodyLoose p l y (head1 (Jvm.Cond.code y bytes maxL ret :: ws) rm) bytes maxL ret e s m as' below meth c s₁ → c.maxLocals = maxL → Z.Warmed39 s.vm → s₁.heap = h0 → s.heap = h0 → CHr Z EL s.vm s.heap s.vm h0 → own_Fin p e below (own_GW Z EL s Q rm.cells rm.slots) s₁ (entryFrame m as' maxL)) :
    MetFree l y (head1 (Jvm.Cond.code y bytes maxL ret :: ws) rm) (fun a U => a = as' ∧ Z.Warmed39 U.vm ∧ U.heap = h0 ∧ CHv Z EL U.vm h0) (fun _ _ _ _ _ => True) (fun _ U o U' => ∃ v L, o = .returned v ∧ Q v U'.heap L ∧ CHr Z EL U.vm U.heap U'.vm U'.heap ∧ ReturnedEndW U o U' L rm.cells rm.slots) := by
  refine MetFree.of_bodySF hy hisR ?_
  intro p e s m args below meth c s₁ Bd hml0 hP hK
  obtain ⟨rfl, hZ, hh, hC⟩ := hP
  exact body p e s m below meth c s₁ Bd hml0 hZ (by rw [← hh, Bd.state]; rfl) hh (by rw [hh]; exact CHr.refl hC)
theorem own_callSW (X : Stand p l e R (s.setVm vm0) m args below meth c T locs cells slots) (hx : p.tables.exec = Jvm.exec) (hZ : Z.Warmed39 (s.setVm vm0).vm) (hown : (s.setVm vm0).vm.findClass own = some m.cls) (hS : s.Since vm0 k0) (hk : k0 ≤ h.size) (w1 : (Jvm.Cond.methodLink own index y).before a0 Z = true) (w2 : (Jvm.Cond.static y).before a0 Z = true) (w3 : (Jvm.Cond.initialized y.cls).before a0 Z = true) (w4 : (Jvm.Cond.code y bytes maxL ret).before a0 Z = true) (hy : y.cls ≠ "java/lang/invoke/MethodHandle" ∧ y.cls ≠ "java/lang/invoke/VarHandle")
    (hK : BackS l R p e below (s.setVm vm0) args y 3 W (fun A a => a = as' ∧ A.U.heap = h ∧ A.cells + rc ≤ R.cells ∧ A.slots + rs ≤ R.slots) (fun A _ v B => ∃ L, Q v B.U.heap L ∧ B.locs = A.locs ++ L ∧ B.cells = A.cells + rc ∧ B.slots = A.slots + rs ∧ CHr Z EL vm0 h B.U.vm B.U.heap))
    (eT : T.heap = h) (hc : cells + rc ≤ R.cells) (hs : slots + rs ≤ R.slots) (hg : g.method = m) (hsize : g.locals.size = c.maxLocals) (hlen : ∀ sig, parseMethodDescriptor y.desc = some sig → argsL.length = sig.parameters.length) (hstack : g.stack = argsL.reverse ++ rest) (has : argsL.toArray = as') (hW : 2 * g.monitorRoom + (rest.map fun v => v.category).sum ≤ W) (hd : decode c.code g.pc = .ok (.invokestatic index, 3))
    (k1 : ∀ (v : Option Value) (T' : State) (L : List Loc), Stand p l e R (s.setVm T'.vm) m args below meth c T' (locs ++ L) (cells + rc) (slots + rs) → s.Since T'.vm T'.heap.size → Z.Warmed39 (s.setVm T'.vm).vm → (s.setVm T'.vm).vm.findClass own = some m.cls → CHr Z EL vm0 h T'.vm T'.heap → Q v T'.heap L → own_Fin p e below G T' { g with pc := g.pc + 3, stack := v.toList ++ rest }) : own_Fin p e below G T g := by
  obtain ⟨v, _, ⟨T2, L2, k2, n2⟩, -, X2, hS2, hg2, ⟨L, hQ, e1, e2, e3, hC⟩, st⟩ := callSS X hx hown (mvT hZ w1) (mvT hZ w2) (mvT hZ w3) (mvT hZ w4) hy hK hg hsize hlen hstack hW hd (fun _ _ => ⟨has, eT, hc, hs⟩)
  try dsimp only at X2 e1 e2 e3 st hQ hg2 hS2 hC
  subst e1 e2 e3
  obtain ⟨X3, hS3, hZ3, hown3⟩ := rebS hS hk X2 hS2 (by rw [← eT]; exact hg2) hZ hown
  exact own_step (fun _ q => st.trans q) (k1 v T2 L X3 hS3 hZ3 hown3 hC hQ)
theorem own_callCW (X : Stand p l e R (s.setVm vm0) m args below meth c T locs cells slots) (hx : p.tables.exec = Jvm.exec) (hZ : Z.Warmed39 (s.setVm vm0).vm) (hown : (s.setVm vm0).vm.findClass own = some m.cls) (hS : s.Since vm0 k0) (hk : k0 ≤ h.size) (hy1 : y.name = "<init>") (w1 : (Jvm.Cond.methodLink own index y).before a0 Z = true) (w2 : (Jvm.Cond.instanceMethod y).before a0 Z = true) (w4 : (Jvm.Cond.code y bytes maxL none).before a0 Z = true) (hy : y.cls ≠ "java/lang/invoke/MethodHandle" ∧ y.cls ≠ "java/lang/invoke/VarHandle")
    (hK : BackS l R p e below (s.setVm vm0) args y 3 W (fun A a => a = as' ∧ A.U.heap = h ∧ A.cells + rc ≤ R.cells ∧ A.slots + rs ≤ R.slots) (fun A _ v B => ∃ L, Q v B.U.heap L ∧ B.locs = A.locs ++ L ∧ B.cells = A.cells + rc ∧ B.slots = A.slots + rs ∧ CHr Z EL vm0 h B.U.vm B.U.heap))
    (eT : T.heap = h) (hc : cells + rc ≤ R.cells) (hs : slots + rs ≤ R.slots) (hg : g.method = m) (hsize : g.locals.size = c.maxLocals) (hlen : ∀ sig, parseMethodDescriptor y.desc = some sig → argsL.length = sig.parameters.length) (hstack : g.stack = argsL.reverse ++ .ref a :: rest) (has : (.ref a :: argsL).toArray = as') (hW : 2 * g.monitorRoom + (rest.map fun v => v.category).sum ≤ W) (hd : decode c.code g.pc = .ok (.invokespecial index, 3))
    (k1 : ∀ (v : Option Value) (T' : State) (L : List Loc), Stand p l e R (s.setVm T'.vm) m args below meth c T' (locs ++ L) (cells + rc) (slots + rs) → s.Since T'.vm T'.heap.size → Z.Warmed39 (s.setVm T'.vm).vm → (s.setVm T'.vm).vm.findClass own = some m.cls → CHr Z EL vm0 h T'.vm T'.heap → Q v T'.heap L → own_Fin p e below G T' { g with pc := g.pc + 3, stack := v.toList ++ rest }) : own_Fin p e below G T g := by
  obtain ⟨v, _, ⟨T2, L2, k2, n2⟩, -, X2, hS2, hg2, ⟨L, hQ, e1, e2, e3, hC⟩, st⟩ := X.specialBackS hx hy1 hown (mvT hZ w1) (mvT hZ w2) (mvT hZ w4) hy hK hg hsize (Steps.refl _) hlen hstack hW hd (fun _ _ => ⟨has, eT, hc, hs⟩)
  try dsimp only at X2 e1 e2 e3 st hQ hg2 hS2 hC
  subst e1 e2 e3
  obtain ⟨X3, hS3, hZ3, hown3⟩ := rebS hS hk X2 hS2 (by rw [← eT]; exact hg2) hZ hown
  exact own_step (fun _ q => st.trans q) (k1 v T2 L X3 hS3 hZ3 hown3 hC hQ)
theorem own_callVW {z : MethodName} {C : String} (X : Stand p l e R (s.setVm vm0) m args below meth c T locs cells slots) (hx : p.tables.exec = Jvm.exec) (hZ : Z.Warmed39 (s.setVm vm0).vm) (hown : (s.setVm vm0).vm.findClass own = some m.cls) (hS : s.Since vm0 k0) (hk : k0 ≤ h.size) (w1 : (Jvm.Cond.methodLink own index y).before a0 Z = true) (w2 : (Jvm.Cond.declares y).before a0 Z = true) (hnf : NotFace (s.setVm vm0) y) (w3 : (Jvm.Cond.selects C y z).before a0 Z = true) (w4 : (Jvm.Cond.instanceMethod z).before a0 Z = true) (hy : y.cls ≠ "java/lang/invoke/MethodHandle" ∧ y.cls ≠ "java/lang/invoke/VarHandle")
    (hK : BackS l R p e below (s.setVm vm0) args z 3 W (fun A a => a = as' ∧ A.U.heap = h ∧ A.cells + rc ≤ R.cells ∧ A.slots + rs ≤ R.slots) (fun A _ v B => ∃ L, Q v B.U.heap L ∧ B.locs = A.locs ++ L ∧ B.cells = A.cells + rc ∧ B.slots = A.slots + rs ∧ CHr Z EL vm0 h B.U.vm B.U.heap))
    (eT : T.heap = h) (E : Exa Z h a C) (hc : cells + rc ≤ R.cells) (hs : slots + rs ≤ R.slots) (hg : g.method = m) (hsize : g.locals.size = c.maxLocals) (hlen : ∀ sig, parseMethodDescriptor y.desc = some sig → argsL.length = sig.parameters.length) (hstack : g.stack = argsL.reverse ++ .ref a :: rest) (has : (.ref a :: argsL).toArray = as') (hW : 2 * g.monitorRoom + (rest.map fun v => v.category).sum ≤ W) (hd : decode c.code g.pc = .ok (.invokevirtual index, 3))
    (k1 : ∀ (v : Option Value) (T' : State) (L : List Loc), Stand p l e R (s.setVm T'.vm) m args below meth c T' (locs ++ L) (cells + rc) (slots + rs) → s.Since T'.vm T'.heap.size → Z.Warmed39 (s.setVm T'.vm).vm → (s.setVm T'.vm).vm.findClass own = some m.cls → CHr Z EL vm0 h T'.vm T'.heap → Q v T'.heap L → own_Fin p e below G T' { g with pc := g.pc + 3, stack := v.toList ++ rest }) : own_Fin p e below G T g := by
  obtain ⟨cq, kq, qa, qb, qc⟩ := isOf hZ eT E
  obtain ⟨v, _, ⟨T2, L2, k2, n2⟩, -, X2, hS2, hg2, ⟨L, hQ, e1, e2, e3, hC⟩, st⟩ := X.virtualBackS hx hown (mvT hZ w1) (mvT hZ w2) hnf (mvT hZ w3) (mvT hZ w4) hy hK qa qc hg hsize (Steps.refl _) hlen hstack hW hd (fun _ _ => ⟨has, eT, hc, hs⟩)
  try dsimp only at X2 e1 e2 e3 st hQ hg2 hS2 hC
  subst e1 e2 e3
  obtain ⟨X3, hS3, hZ3, hown3⟩ := rebS hS hk X2 hS2 (by rw [← eT]; exact hg2) hZ hown
  exact own_step (fun _ q => st.trans q) (k1 v T2 L X3 hS3 hZ3 hown3 hC hQ)
theorem own_callIW {z : MethodName} {C : String} {count : Nat} (X : Stand p l e R (s.setVm vm0) m args below meth c T locs cells slots) (hx : p.tables.exec = Jvm.exec) (hZ : Z.Warmed39 (s.setVm vm0).vm) (hown : (s.setVm vm0).vm.findClass own = some m.cls) (hS : s.Since vm0 k0) (hk : k0 ≤ h.size) (w1 : (Jvm.Cond.methodLink own index y).before a0 Z = true) (w2 : (Jvm.Cond.declares y).before a0 Z = true) (w3 : (Jvm.Cond.interfaceMethod y.cls y.cls y.name y.desc).before a0 Z = true) (w4 : (Jvm.Cond.selects C y z).before a0 Z = true) (w5 : (Jvm.Cond.instanceMethod z).before a0 Z = true) (w6 : (Jvm.Cond.publicMethod z).before a0 Z = true) (w7 : (Jvm.Cond.unhidden C y.name y.desc).before a0 Z = true) (w8 : (Jvm.Cond.castable C y.cls).before a0 Z = true) (hd3 : ((Jvm.Cond.interfaceMethod y.cls y.cls y.name y.desc).onTables && (Jvm.Cond.interfaceMethod y.cls y.cls y.name y.desc).keepsFace) = true) (hy : y.cls ≠ "java/lang/invoke/MethodHandle" ∧ y.cls ≠ "java/lang/invoke/VarHandle")
    (hK : BackS l R p e below (s.setVm vm0) args z 5 W (fun A a => a = as' ∧ A.U.heap = h ∧ A.cells + rc ≤ R.cells ∧ A.slots + rs ≤ R.slots) (fun A _ v B => ∃ L, Q v B.U.heap L ∧ B.locs = A.locs ++ L ∧ B.cells = A.cells + rc ∧ B.slots = A.slots + rs ∧ CHr Z EL vm0 h B.U.vm B.U.heap))
    (eT : T.heap = h) (E : Exa Z h a C) (hc : cells + rc ≤ R.cells) (hs : slots + rs ≤ R.slots) (hg : g.method = m) (hsize : g.locals.size = c.maxLocals) (hlen : ∀ sig, parseMethodDescriptor y.desc = some sig → argsL.length = sig.parameters.length) (hstack : g.stack = argsL.reverse ++ .ref a :: rest) (has : (.ref a :: argsL).toArray = as') (hW : 2 * g.monitorRoom + (rest.map fun v => v.category).sum ≤ W) (hd : decode c.code g.pc = .ok (.invokeinterface index count, 5))
    (k1 : ∀ (v : Option Value) (T' : State) (L : List Loc), Stand p l e R (s.setVm T'.vm) m args below meth c T' (locs ++ L) (cells + rc) (slots + rs) → s.Since T'.vm T'.heap.size → Z.Warmed39 (s.setVm T'.vm).vm → (s.setVm T'.vm).vm.findClass own = some m.cls → CHr Z EL vm0 h T'.vm T'.heap → Q v T'.heap L → own_Fin p e below G T' { g with pc := g.pc + 5, stack := v.toList ++ rest }) : own_Fin p e below G T g := by
  obtain ⟨cq, kq, qa, qb, qc⟩ := isOf hZ eT E
  obtain ⟨v, _, ⟨T2, L2, k2, n2⟩, -, X2, hS2, hg2, ⟨L, hQ, e1, e2, e3, hC⟩, st⟩ := X.interfaceBackS hx hown (mvT hZ w1) (mvT hZ w2) (mvT hZ w3 hd3) (mvT hZ w4) (mvT hZ w5) (mvT hZ w6) (mvT hZ w7) (mvT hZ w8) hy hK qa qb qc hg hsize (Steps.refl _) hlen hstack hW hd (fun _ _ => ⟨has, eT, hc, hs⟩)
  try dsimp only at X2 e1 e2 e3 st hQ hg2 hS2 hC
  subst e1 e2 e3
  obtain ⟨X3, hS3, hZ3, hown3⟩ := rebS hS hk X2 hS2 (by rw [← eT]; exact hg2) hZ hown
  exact own_step (fun _ q => st.trans q) (k1 v T2 L X3 hS3 hZ3 hown3 hC hQ)
theorem own_callPW {C : String} (X : Stand p l e R (s.setVm vm0) m args below meth c T locs cells slots) (hx : p.tables.exec = Jvm.exec) (hZ : Z.Warmed39 (s.setVm vm0).vm) (hown : (s.setVm vm0).vm.findClass own = some m.cls) (hS : s.Since vm0 k0) (hk : k0 ≤ h.size) (w1 : (Jvm.Cond.methodLink own index y).before a0 Z = true) (w2 : (Jvm.Cond.instanceMethod y).before a0 Z = true) (w3 : (Jvm.Cond.selects y.cls y y).before args (s.setVm vm0) = true) (w4 : (Jvm.Cond.privateMethod y).before a0 Z = true) (w5 : (Jvm.Cond.code y bytes maxL ret).before a0 Z = true) (hy : y.cls ≠ "java/lang/invoke/MethodHandle" ∧ y.cls ≠ "java/lang/invoke/VarHandle")
    (hK : BackS l R p e below (s.setVm vm0) args y 3 W (fun A a => a = as' ∧ A.U.heap = h ∧ A.cells + rc ≤ R.cells ∧ A.slots + rs ≤ R.slots) (fun A _ v B => ∃ L, Q v B.U.heap L ∧ B.locs = A.locs ++ L ∧ B.cells = A.cells + rc ∧ B.slots = A.slots + rs ∧ CHr Z EL vm0 h B.U.vm B.U.heap))
    (eT : T.heap = h) (E : Exa Z h a C) (hc : cells + rc ≤ R.cells) (hs : slots + rs ≤ R.slots) (hg : g.method = m) (hsize : g.locals.size = c.maxLocals) (hlen : ∀ sig, parseMethodDescriptor y.desc = some sig → argsL.length = sig.parameters.length) (hstack : g.stack = argsL.reverse ++ .ref a :: rest) (has : (.ref a :: argsL).toArray = as') (hW : 2 * g.monitorRoom + (rest.map fun v => v.category).sum ≤ W) (hd : decode c.code g.pc = .ok (.invokevirtual index, 3))
    (k1 : ∀ (v : Option Value) (T' : State) (L : List Loc), Stand p l e R (s.setVm T'.vm) m args below meth c T' (locs ++ L) (cells + rc) (slots + rs) → s.Since T'.vm T'.heap.size → Z.Warmed39 (s.setVm T'.vm).vm → (s.setVm T'.vm).vm.findClass own = some m.cls → CHr Z EL vm0 h T'.vm T'.heap → Q v T'.heap L → own_Fin p e below G T' { g with pc := g.pc + 3, stack := v.toList ++ rest }) : own_Fin p e below G T g := by
  obtain ⟨cq, q, q'⟩ := E.cell
  obtain ⟨v, _, ⟨T2, L2, k2, n2⟩, -, X2, hS2, hg2, ⟨L, hQ, e1, e2, e3, hC⟩, st⟩ := X.privateBackS hx hown (mvT hZ w1) (mvT hZ w2) w3 (Cond.privateMethod_at (mvP hZ w4 (args := #[]))) (mvT hZ w5) hy hK hg hsize (Steps.refl _) (a := a) (by rw [eT]; exact q) q' hlen hstack hW hd (fun _ _ => ⟨has, eT, hc, hs⟩)
  try dsimp only at X2 e1 e2 e3 st hQ hg2 hS2 hC
  subst e1 e2 e3
  obtain ⟨X3, hS3, hZ3, hown3⟩ := rebS hS hk X2 hS2 (by rw [← eT]; exact hg2) hZ hown
  exact own_step (fun _ q => st.trans q) (k1 v T2 L X3 hS3 hZ3 hown3 hC hQ)
/-- a String whose value is still null is no literal's -/
theorem own_safe_null {vm : Vm} (hal : Z.vm.Alike vm) {x : Addr} (E : Exa Z h x "java/lang/String") (F : Fld Z h x "java/lang/String" "value" "[B" .null) : Safe Z EL vm h x := fun B => by
  obtain ⟨p, -, u, a, -, q, hq, S, hy⟩ := B
  obtain ⟨cS, ⟨⟨s1, s2, s3, ⟨cv, kv, iv, s4, s4'⟩, -, s6, s7, s8, s9, s10, s11, s12, -⟩, hfS, hcS⟩, ⟨kS, k1, k2, k3⟩, hB, hbyt⟩ := S
  rcases hy with rfl | rfl
  · obtain ⟨cell, cf, k, i, f, h1, h2, h3, h4, h5, h6, h7⟩ := F
    obtain ⟨kv', z4⟩ := ff_back (U := Wst Z vm h) hal s4
    cases h2.symm.trans z4
    have s1' : h[q.sa]? = some q.sC := s1
    cases h1.symm.trans s1'
    rw [s8] at h7; cases h7
  · obtain ⟨cell, k, h1, h2, h3, h4, h5⟩ := E
    have s10' : h[q.sd]? = some q.SA := s10
    cases h1.symm.trans s10'
    have hB' : vm.findClass "[B" = some q.SA.cls := hB
    rw [hal.findClass] at hB'
    exact ids_ne h2 hB' (by decide) rfl
end OwnWide
end Jvm.Pilot.@@N@@
namespace Jvm.Pilot.@@N@@
open Jvm Jvm.ClassFile Sem Op Lib Jvm.Free Jvm.Stand Jvm.LawKit Jvm.RoadKit Bundle Jvm.Pilot.@@N@@.Jvm.D
theorem own_ws {Z : State} {a0 : Array Value} (hw : ∀ d ∈ tables_1, d.before a0 Z = true) : ∀ d ∈ StrChars.Road.words, d.before a0 Z = true := fun d hd => hw d ((by decide +kernel : ∀ d ∈ StrChars.Road.words, d ∈ tables_1) d hd)
theorem own_nat {a : Nat} (h : a < 2 ^ 31) : (Int32.ofNat a).toNatClampNeg = a := by
  have e : (Int32.ofNat a).toInt = (a : Int) := Int32.toInt_ofNat_of_lt (by omega)
  rw [Int32.toNatClampNeg, e]; rfl
theorem own_toInt {a : Nat} (h : a < 2 ^ 31) : (Int32.ofNat a).toInt = (a : Int) := Int32.toInt_ofNat_of_lt (by omega)
theorem own_clamp_lt (x : Int32) : x.toNatClampNeg < 2 ^ 31 := by
  have h1 := x.toInt_lt
  rw [Int32.toNatClampNeg]; omega
theorem own_ixin {a : Nat} {N : Int32} (hN : ¬ N < 0) (h : a < N.toNatClampNeg) : ¬ Int32.ofNat a < 0 ∧ Int32.ofNat a < N := by
  have hb := own_clamp_lt N
  have e := own_toInt (a := a) (by omega)
  rw [Int32.lt_iff_toInt_lt] at hN
  rw [Int32.lt_iff_toInt_lt, Int32.lt_iff_toInt_lt, e]
  have z : (0 : Int32).toInt = 0 := rfl
  rw [z] at *
  rw [Int32.toNatClampNeg] at h
  omega
theorem own_inc (a : Nat) : Int32.ofNat a + (1 : Int32) = Int32.ofNat (a + 1) := (inc_ofNat a).symm
theorem own_shl1 {i : Nat} (h : 2 * i < 2 ^ 31) : Int32.ofNat i <<< ((1 : Int32) &&& 31) = Int32.ofNat (2 * i) := by
  have e : ((1 : Int32) &&& 31) = 1 := by decide
  rw [e]
  apply Int32.toBitVec_inj.mp
  show (BitVec.ofNat 32 i) <<< _ = BitVec.ofNat 32 (2 * i)
  apply BitVec.eq_of_toNat_eq
  simp [BitVec.toNat_shiftLeft, Nat.shiftLeft_eq]
  omega
theorem own_ltN {a b : Nat} (ha : a < 2 ^ 31) (hb : b < 2 ^ 31) : Int32.ofNat a < Int32.ofNat b ↔ a < b := by
  rw [Int32.lt_iff_toInt_lt, own_toInt ha, own_toInt hb]; omega
theorem own_nneg {a : Nat} (h : a < 2 ^ 31) : ¬ Int32.ofNat a < 0 := by
  rw [Int32.lt_iff_toInt_lt, own_toInt h]; have z : (0 : Int32).toInt = 0 := rfl; omega
theorem own_narC {c : Int32} (h0 : ¬ c < 0) (h1 : ¬ 65535 < c) : nar .char c = c := by
  have q := StrChars.narrow_ch h0 h1
  have e : narrow .char (.int c) = .int (nar .char c) := rfl
  rw [e] at q; exact Value.int.inj q
theorem own_getD_mem {cs : List Int32} {i : Nat} (h : i < cs.length) : cs.getD i 0 ∈ cs := by
  rw [List.getD_eq_getElem?_getD, List.getElem?_eq_getElem h]; exact List.getElem_mem h
theorem own_lo8lo8 (x : Int32) : (StrChars.lo8 x).toInt8.toInt32 = StrChars.lo8 x := by simp [StrChars.lo8]
theorem own_getD_set {vs : List Value} {i j : Nat} {u dv : Value} (h : i < vs.length) : (vs.set i u).getD j dv = if j = i then u else vs.getD j dv := by
  rw [List.getD_eq_getElem?_getD, List.getD_eq_getElem?_getD, List.getElem?_set]
  by_cases q : i = j
  · subst q; simp [h]
  · have q' : ¬ j = i := fun z => q z.symm
    simp [q, q']
theorem own_mapD {cs : List Int32} {i : Nat} (h : i < cs.length) {dv : Value} : (cs.map Value.int).getD i dv = .int (cs.getD i 0) := by
  rw [List.getD_eq_getElem?_getD, List.getD_eq_getElem?_getD, List.getElem?_map, List.getElem?_eq_getElem h]; rfl
def own_Wide (cs : List Int32) (i : Nat) (vs : List Value) : Prop := ∀ j, j < i → vs.getD (2 * j) (.int 0) = .int (StrChars.lo8 (cs.getD j 0)) ∧ vs.getD (2 * j + 1) (.int 0) = .int (StrChars.hi8 (cs.getD j 0))
theorem own_Wide.step {cs : List Int32} {i : Nat} {vs : List Value} (h : own_Wide cs i vs) (hl : 2 * i + 1 < vs.length) : own_Wide cs (i + 1) ((vs.set (2 * i) (.int (StrChars.lo8 (cs.getD i 0)))).set (2 * i + 1) (.int (StrChars.hi8 (cs.getD i 0)))) := fun j hj => by
  have e : ∀ (u w : Value) (k : Nat), ((vs.set (2 * i) u).set (2 * i + 1) w).getD k (.int 0) = if k = 2 * i + 1 then w else if k = 2 * i then u else vs.getD k (.int 0) := fun u w k => by
    rw [own_getD_set (by rw [List.length_set]; omega), own_getD_set (by omega)]
  rw [e, e]
  by_cases q : j = i
  · subst q; exact ⟨by rw [if_neg (by omega), if_pos rfl], if_pos rfl⟩
  · rw [if_neg (by omega), if_neg (by omega), if_neg (by omega), if_neg (by omega)]; exact h j (by omega)
theorem own_wide_len : ∀ cs : List Int32, (StrChars.Road.wideBytes cs).length = 2 * cs.length
  | [] => rfl
  | c :: cs => by rw [StrChars.Road.wideBytes]; simp [own_wide_len cs]; omega
theorem own_Wide.eq {cs : List Int32} {vs : List Value} (h : own_Wide cs cs.length vs) (hl : vs.length = 2 * cs.length) : vs = StrChars.Road.wideBytes cs := by
  apply List.ext_getElem (by rw [hl, own_wide_len])
  intro i h1 h2
  have g1 : vs.getD i (.int 0) = vs[i] := by rw [List.getD_eq_getElem?_getD, List.getElem?_eq_getElem h1]; rfl
  have g2 : (StrChars.Road.wideBytes cs).getD i (.int 0) = (StrChars.Road.wideBytes cs)[i] := by rw [List.getD_eq_getElem?_getD, List.getElem?_eq_getElem h2]; rfl
  rw [← g1, ← g2]
  rcases Nat.mod_two_eq_zero_or_one i with q | q
  · obtain ⟨j, rfl⟩ : ∃ j, i = 2 * j := ⟨i / 2, by omega⟩
    rw [(h j (by omega)).1, StrChars.Road.wide_lo _ _ _ (by omega)]
  · obtain ⟨j, rfl⟩ : ∃ j, i = 2 * j + 1 := ⟨i / 2, by omega⟩
    rw [(h j (by omega)).2, StrChars.Road.wide_hi _ _ _ (by omega)]
def own_Lat (cs : List Int32) (i : Nat) (vs : List Value) : Prop := ∀ j, j < i → vs.getD j (.int 0) = .int (StrChars.lo8 (cs.getD j 0)) ∧ ¬ 255 < cs.getD j 0
theorem own_Lat.step {cs : List Int32} {i : Nat} {vs : List Value} (h : own_Lat cs i vs) (hl : i < vs.length) (hc : ¬ 255 < cs.getD i 0) : own_Lat cs (i + 1) (vs.set i (.int (StrChars.lo8 (cs.getD i 0)))) := fun j hj => by
  rw [own_getD_set hl]
  by_cases q : j = i
  · subst q; exact ⟨if_pos rfl, hc⟩
  · rw [if_neg q]; exact h j (by omega)
def own_Cmp (cs : List Int32) (r : Nat) (vs : List Value) : Prop := (r = cs.length ∧ vs = (cs.map fun z => Value.int (StrChars.lo8 z)) ∧ ∀ z ∈ cs, ¬ 255 < z) ∨ (r < cs.length ∧ 255 < cs.getD r 0)
theorem own_Lat.all {cs : List Int32} {vs : List Value} (h : own_Lat cs cs.length vs) (hl : vs.length = cs.length) : own_Cmp cs cs.length vs := by
  refine Or.inl ⟨rfl, ?_, fun z hz => ?_⟩
  · apply List.ext_getElem (by simp [hl])
    intro i h1 h2
    have g1 : vs.getD i (.int 0) = vs[i] := by rw [List.getD_eq_getElem?_getD, List.getElem?_eq_getElem h1]; rfl
    have hi : i < cs.length := by omega
    have g2 : cs.getD i 0 = cs[i] := by rw [List.getD_eq_getElem?_getD, List.getElem?_eq_getElem hi]; rfl
    rw [← g1, (h i hi).1, g2]; simp
  · obtain ⟨i, hi, rfl⟩ := List.getElem_of_mem hz
    have g2 : cs.getD i 0 = cs[i] := by rw [List.getD_eq_getElem?_getD, List.getElem?_eq_getElem hi]; rfl
    rw [← g2]; exact (h i hi).2
theorem own_cfal_eq {cs : List Int32} {cd N2 : Int32} {vs : List Value} (hc : StrChars.Road.CodA cs cd N2 vs) (h0 : 0 < cs.length) (h1 : cs.length ≤ 400) : nar .byte ((XT.ushr (Int32.ofNat cs.length - N2) (31 : Int32)).toInt8.toInt32) = cd := by
  rcases hc with ⟨rfl, rfl, -, -⟩ | ⟨rfl, rfl, -, -⟩
  · have e : Int32.ofNat cs.length - Int32.ofNat cs.length = 0 := by apply Int32.toBitVec_inj.mp; simp
    rw [e]; decide
  · have t : ∀ k : Fin 400, nar .byte ((XT.ushr (Int32.ofNat (k.val + 1) - Int32.ofNat (2 * (k.val + 1))) (31 : Int32)).toInt8.toInt32) = 1 := by decide +kernel
    have q := t ⟨cs.length - 1, by omega⟩
    have e : cs.length - 1 + 1 = cs.length := by omega
    simp only [e] at q; exact q
theorem own_CodA.cd {cs : List Int32} {cd N2 : Int32} {vs : List Value} (hc : StrChars.Road.CodA cs cd N2 vs) : cd = 0 ∨ cd = 1 := hc.imp (·.1) (·.1)
theorem own_narB {cs : List Int32} {cd N2 : Int32} {vs : List Value} (hc : StrChars.Road.CodA cs cd N2 vs) : narrow .byte (.int cd) = .int cd := by rcases own_CodA.cd hc with rfl | rfl <;> rfl
theorem own_fitB {cs : List Int32} {cd N2 : Int32} {vs : List Value} (hc : StrChars.Road.CodA cs cd N2 vs) : fits .byte (.int cd) = true := by rcases own_CodA.cd hc with rfl | rfl <;> rfl
def own_pad (bs : List Value) : List Value := bs ++ List.replicate (16 - bs.length) (Value.int 0)
theorem own_nfw : nativeFrameWords "java/lang/System" "arraycopy" 5 = 7 := by decide
theorem own_z32 : (0 : Int32).toNatClampNeg = 0 := rfl
theorem own_rngA (bs xs : List Value) (dv : Value) (h : bs.length < 2 ^ 31) : bs = (List.range (Int32.ofNat bs.length).toNatClampNeg).map fun i => (bs ++ xs).getD ((0 : Int32).toNatClampNeg + i) dv := by
  rw [own_nat h, own_z32]
  apply List.ext_getElem (by simp)
  intro i h1 h2
  rw [List.getElem_map, List.getElem_range, Nat.zero_add, List.getD_eq_getElem?_getD, List.getElem?_append_left h1, List.getElem?_eq_getElem h1]; rfl
theorem own_rng0 (ts : List Value) (dv : Value) (h : ts.length < 2 ^ 31) : ts = (List.range (Int32.ofNat ts.length).toNatClampNeg).map fun i => ts.getD ((0 : Int32).toNatClampNeg + i) dv := by
  have q := own_rngA ts [] dv h; rw [List.append_nil] at q; exact q
theorem own_padlen {bs : List Value} (h : bs.length ≤ 16) : (own_pad bs).length = 16 := by
  unfold own_pad; rw [List.length_append, List.length_replicate]; omega
theorem own_pad_cp {bs ts : List Value} (h : bs.length + ts.length ≤ 16) : (own_pad bs).take (Int32.ofNat bs.length).toNatClampNeg ++ ts ++ (own_pad bs).drop ((Int32.ofNat bs.length).toNatClampNeg + (Int32.ofNat ts.length).toNatClampNeg) = own_pad (bs ++ ts) := by
  rw [own_nat (by omega), own_nat (by omega)]
  have e : 16 - bs.length - ts.length = 16 - (bs.length + ts.length) := by omega
  simp [own_pad, List.take_append, List.drop_append, List.append_assoc, e]
theorem own_cp0 {bs : List Value} (h : bs.length < 16) : (List.replicate (Int32.ofNat bs.length).toNatClampNeg (Value.int 0)).take (0 : Int32).toNatClampNeg ++ bs ++ (List.replicate (Int32.ofNat bs.length).toNatClampNeg (Value.int 0)).drop ((0 : Int32).toNatClampNeg + (Int32.ofNat bs.length).toNatClampNeg) = bs := by
  rw [own_nat (by omega), own_z32]; simp
theorem own_le16 {m : Nat} (h : m ≤ 16) : ¬ (0 : Int32) < Int32.ofNat m - 16 := by
  have t : ∀ k : Fin 17, ¬ (0 : Int32) < Int32.ofNat k.val - 16 := by decide
  exact t ⟨m, by omega⟩
theorem own_ne16 {m : Nat} (h : m < 16) : ¬ Int32.ofNat m = (16 : Int32) := by
  have t : ∀ k : Fin 16, ¬ Int32.ofNat k.val = (16 : Int32) := by decide
  exact t ⟨m, h⟩
theorem own_lt16 {m : Nat} (h : m < 16) : Int32.ofNat m < (16 : Int32) := by
  have t : ∀ k : Fin 16, Int32.ofNat k.val < (16 : Int32) := by decide
  exact t ⟨m, h⟩
theorem own_sub0 (x : Int32) : x - (0 : Int32) = x := by apply Int32.toBitVec_inj.mp; simp
theorem own_shl0 (x : Int32) : x <<< ((0 : Int32) &&& 31) = x := by
  have e : ((0 : Int32) &&& 31) = 0 := rfl
  rw [e]; apply Int32.toBitVec_inj.mp; simp
theorem own_addN (a b : Nat) : Int32.ofNat a + Int32.ofNat b = Int32.ofNat (a + b) := by
  apply Int32.toBitVec_inj.mp
  show BitVec.ofNat 32 a + BitVec.ofNat 32 b = BitVec.ofNat 32 (a + b)
  rw [BitVec.ofNat_add]
theorem own_nar8 {z : Int32} (h : ¬ z < 0 ∧ ¬ (255 : Int32) < z) : nar .char z = z := own_narC h.1 (fun q => h.2 (by rw [Int32.lt_iff_toInt_lt] at q ⊢; have e1 : (65535 : Int32).toInt = 65535 := rfl; have e2 : (255 : Int32).toInt = 255 := rfl; omega))
def own_bs (cs : List Int32) : List Value := cs.map fun z => Value.int (StrChars.lo8 z)
theorem own_bs_len (cs : List Int32) : (own_bs cs).length = cs.length := List.length_map _
theorem own_bs_app (cs ds : List Int32) : own_bs cs ++ own_bs ds = own_bs (cs ++ ds) := (List.map_append ..).symm
theorem own_low_at {cs : List Int32} {i : Nat} (h : i < cs.length) : (own_bs cs).getD i (.int 0) = .int (StrChars.lo8 (cs.getD i 0)) := by
  rw [own_bs, List.getD_eq_getElem?_getD, List.getD_eq_getElem?_getD, List.getElem?_map, List.getElem?_eq_getElem h]; rfl
theorem own_c255 (x : Int32) : ¬ ((x &&& (255 : Int32)).toUInt32.toUInt16.toUInt32.toInt32) < 0 ∧ ¬ (255 : Int32) < ((x &&& (255 : Int32)).toUInt32.toUInt16.toUInt32.toInt32) := by
  have t : ∀ k : Fin 256, ¬ ((Int32.ofNat k.val).toUInt32.toUInt16.toUInt32.toInt32) < 0 ∧ ¬ (255 : Int32) < ((Int32.ofNat k.val).toUInt32.toUInt16.toUInt32.toInt32) := by decide +kernel
  have h : (x &&& 255).toBitVec.toNat < 256 := by
    simp only [Int32.toBitVec_and, BitVec.toNat_and]
    exact Nat.lt_succ_of_le Nat.and_le_right
  have e : (x &&& 255) = Int32.ofNat (x &&& 255).toBitVec.toNat := by
    apply Int32.toBitVec_inj.mp
    show _ = BitVec.ofNat 32 _
    rw [BitVec.ofNat_toNat]; simp
  rw [e]
  exact t ⟨_, h⟩
def own_sl (k c0 c1 : Int32) : List Int32 := if k = 0 then [] else if k = (1 : Int32) then [c0] else [c0, c1]
theorem own_sl_len (k c0 c1 : Int32) : (own_bs (own_sl k c0 c1)).length ≤ 2 := by
  rw [own_bs_len, own_sl]; split <;> (try split) <;> simp
def own_R (A B : List Int32) : List Int32 := A ++ [58, 32] ++ B
theorem own_R_bs (A B : List Int32) : (([] ++ own_bs A) ++ [Value.int (58 : Int32), Value.int (32 : Int32)]) ++ own_bs B = own_bs (own_R A B) := by
  rw [own_R, ← own_bs_app, ← own_bs_app]; rfl
theorem own_rem3 (x : Int32) : (x &&& (255 : Int32)) % (3 : Int32) = 0 ∨ (x &&& (255 : Int32)) % (3 : Int32) = 1 ∨ (x &&& (255 : Int32)) % (3 : Int32) = 2 := by
  have t : ∀ k : Fin 256, (Int32.ofNat k.val) % (3 : Int32) = 0 ∨ (Int32.ofNat k.val) % (3 : Int32) = 1 ∨ (Int32.ofNat k.val) % (3 : Int32) = 2 := by decide +kernel
  have h : (x &&& 255).toBitVec.toNat < 256 := by
    simp only [Int32.toBitVec_and, BitVec.toNat_and]
    exact Nat.lt_succ_of_le Nat.and_le_right
  have e : (x &&& 255) = Int32.ofNat (x &&& 255).toBitVec.toNat := by
    apply Int32.toBitVec_inj.mp
    show _ = BitVec.ofNat 32 _
    rw [BitVec.ofNat_toNat]; simp
  rw [e]
  exact t ⟨_, h⟩
def own_atv (i k c0 c1 d0 d1 : Int32) : Int32 := nar .char (if i < k then (if i = 0 then c0 else c1) else if i = k then 58 else if i = (k + (1 : Int32)) then 32 else if ((i - k) - (2 : Int32)) = 0 then d0 else d1)
theorem own_R_len {k1 k2 : Int32} (c0 c1 d0 d1 : Int32) (h1 : k1 = 0 ∨ k1 = 1 ∨ k1 = 2) (h2 : k2 = 0 ∨ k2 = 1 ∨ k2 = 2) : Int32.ofNat (own_R (own_sl k1 c0 c1) (own_sl k2 d0 d1)).length = (k1 + (2 : Int32)) + k2 := by
  rcases h1 with rfl | rfl | rfl <;> rcases h2 with rfl | rfl | rfl <;> rfl
theorem own_R_all {k1 k2 c0 c1 d0 d1 : Int32} (hc0 : ¬ c0 < 0 ∧ ¬ (255 : Int32) < c0) (hc1 : ¬ c1 < 0 ∧ ¬ (255 : Int32) < c1) (hd0 : ¬ d0 < 0 ∧ ¬ (255 : Int32) < d0) (hd1 : ¬ d1 < 0 ∧ ¬ (255 : Int32) < d1) : ∀ z ∈ own_R (own_sl k1 c0 c1) (own_sl k2 d0 d1), ¬ z < 0 ∧ ¬ (255 : Int32) < z := by
  have t : ∀ k a b : Int32, (¬ a < 0 ∧ ¬ (255 : Int32) < a) → (¬ b < 0 ∧ ¬ (255 : Int32) < b) → ∀ z ∈ own_sl k a b, ¬ z < 0 ∧ ¬ (255 : Int32) < z := by
    intro k a b ha hb z hz
    rw [own_sl] at hz
    split at hz
    · cases hz
    · split at hz
      · rw [List.mem_singleton] at hz; rw [hz]; exact ha
      · rcases List.mem_cons.mp hz with q | q
        · rw [q]; exact ha
        · rw [List.mem_singleton] at q; rw [q]; exact hb
  intro z hz
  rw [own_R, List.mem_append, List.mem_append] at hz
  rcases hz with (q | q) | q
  · exact t _ _ _ hc0 hc1 z q
  · rcases List.mem_cons.mp q with r | r
    · rw [r]; decide
    · rw [List.mem_singleton] at r; rw [r]; decide
  · exact t _ _ _ hd0 hd1 z q
theorem own_R_small {k1 k2 c0 c1 d0 d1 : Int32} : (own_R (own_sl k1 c0 c1) (own_sl k2 d0 d1)).length ≤ 400 := by
  have h1 := own_sl_len k1 c0 c1; have h2 := own_sl_len k2 d0 d1; rw [own_bs_len] at h1 h2
  rw [own_R, List.length_append, List.length_append]; simp only [List.length_cons, List.length_nil]; omega
theorem own_R_at {k1 k2 c0 c1 d0 d1 : Int32} (h1 : k1 = 0 ∨ k1 = 1 ∨ k1 = 2) (h2 : k2 = 0 ∨ k2 = 1 ∨ k2 = 2) (hc0 : ¬ c0 < 0 ∧ ¬ (255 : Int32) < c0) (hc1 : ¬ c1 < 0 ∧ ¬ (255 : Int32) < c1) (hd0 : ¬ d0 < 0 ∧ ¬ (255 : Int32) < d0) (hd1 : ¬ d1 < 0 ∧ ¬ (255 : Int32) < d1) :
    ∀ i, i < 6 → Int32.ofNat i < (k1 + (2 : Int32)) + k2 → i < (own_R (own_sl k1 c0 c1) (own_sl k2 d0 d1)).length ∧ (own_R (own_sl k1 c0 c1) (own_sl k2 d0 d1)).getD i 0 = own_atv (Int32.ofNat i) k1 c0 c1 d0 d1 := by
  intro i hi
  rcases i with _ | _ | _ | _ | _ | _ | i
  case succ.succ.succ.succ.succ.succ => omega
  all_goals
    rcases h1 with rfl | rfl | rfl <;> rcases h2 with rfl | rfl | rfl <;> intro h <;> first
      | exact absurd h (by decide)
      | exact ⟨Nat.le_of_ble_eq_true rfl, (own_nar8 hc0).symm⟩
      | exact ⟨Nat.le_of_ble_eq_true rfl, (own_nar8 hc1).symm⟩
      | exact ⟨Nat.le_of_ble_eq_true rfl, (own_nar8 hd0).symm⟩
      | exact ⟨Nat.le_of_ble_eq_true rfl, (own_nar8 hd1).symm⟩
      | exact ⟨Nat.le_of_ble_eq_true rfl, rfl⟩

theorem w0 {Z : State} {a0 : Array Value} (hw : ∀ d ∈ tables_1, d.before a0 Z = true) : Jvm.Cond.before (Jvm.Cond.classLink "com/example/linewire/linewire/SchemaViolationToStringPinLaw" (26 : Nat) "com/example/linewire/linewire/SchemaViolation") a0 Z = true := hw _ (List.mem_of_getElem? (i := 0) rfl)
theorem w1 {Z : State} {a0 : Array Value} (hw : ∀ d ∈ tables_1, d.before a0 Z = true) : Jvm.Cond.before (Jvm.Cond.instantiable "com/example/linewire/linewire/SchemaViolation" (2 : Nat)) a0 Z = true := hw _ (List.mem_of_getElem? (i := 1) rfl)
theorem w2 {Z : State} {a0 : Array Value} (hw : ∀ d ∈ tables_1, d.before a0 Z = true) : Jvm.Cond.before (Jvm.Cond.initialized "com/example/linewire/linewire/SchemaViolation") a0 Z = true := hw _ (List.mem_of_getElem? (i := 2) rfl)
theorem w3 {Z : State} {a0 : Array Value} (hw : ∀ d ∈ tables_1, d.before a0 Z = true) : Jvm.Cond.before (Jvm.Cond.methodLink "com/example/linewire/linewire/SchemaViolationToStringPinLaw" (28 : Nat) ({ cls := "com/example/linewire/linewire/SchemaViolationToStringPinLaw", name := "str", desc := "(ICC)Ljava/lang/String;" } : Jvm.MethodName)) a0 Z = true := hw _ (List.mem_of_getElem? (i := 3) rfl)
theorem w4 {Z : State} {a0 : Array Value} (hw : ∀ d ∈ tables_1, d.before a0 Z = true) : Jvm.Cond.before (Jvm.Cond.static ({ cls := "com/example/linewire/linewire/SchemaViolationToStringPinLaw", name := "str", desc := "(ICC)Ljava/lang/String;" } : Jvm.MethodName)) a0 Z = true := hw _ (List.mem_of_getElem? (i := 4) rfl)
theorem w5 {Z : State} {a0 : Array Value} (hw : ∀ d ∈ tables_1, d.before a0 Z = true) : Jvm.Cond.before (Jvm.Cond.initialized "com/example/linewire/linewire/SchemaViolationToStringPinLaw") a0 Z = true := hw _ (List.mem_of_getElem? (i := 5) rfl)
theorem w6 {Z : State} {a0 : Array Value} (hw : ∀ d ∈ tables_1, d.before a0 Z = true) : Jvm.Cond.before (Jvm.Cond.code ({ cls := "com/example/linewire/linewire/SchemaViolationToStringPinLaw", name := "str", desc := "(ICC)Ljava/lang/String;" } : Jvm.MethodName) method_2_code (3 : Nat) (Option.some (Jvm.ClassFile.FieldType.object "java/lang/String"))) a0 Z = true := hw _ (List.mem_of_getElem? (i := 6) rfl)
theorem w7 {Z : State} {a0 : Array Value} (hw : ∀ d ∈ tables_1, d.before a0 Z = true) : Jvm.Cond.before (Jvm.Cond.classLink "com/example/linewire/linewire/SchemaViolationToStringPinLaw" (7 : Nat) "java/lang/String") a0 Z = true := hw _ (List.mem_of_getElem? (i := 7) rfl)
theorem w8 {Z : State} {a0 : Array Value} (hw : ∀ d ∈ tables_1, d.before a0 Z = true) : Jvm.Cond.before (Jvm.Cond.instantiable "java/lang/String" (4 : Nat)) a0 Z = true := hw _ (List.mem_of_getElem? (i := 8) rfl)
theorem w9 {Z : State} {a0 : Array Value} (hw : ∀ d ∈ tables_1, d.before a0 Z = true) : Jvm.Cond.before (Jvm.Cond.initialized "java/lang/String") a0 Z = true := hw _ (List.mem_of_getElem? (i := 9) rfl)
theorem w10 {Z : State} {a0 : Array Value} (hw : ∀ d ∈ tables_1, d.before a0 Z = true) : Jvm.Cond.before (Jvm.Cond.arrayClass Jvm.ClassFile.FieldType.char) a0 Z = true := hw _ (List.mem_of_getElem? (i := 10) rfl)
theorem w11 {Z : State} {a0 : Array Value} (hw : ∀ d ∈ tables_1, d.before a0 Z = true) : Jvm.Cond.before (Jvm.Cond.methodLink "com/example/linewire/linewire/SchemaViolationToStringPinLaw" (9 : Nat) ({ cls := "java/lang/String", name := "<init>", desc := "([C)V" } : Jvm.MethodName)) a0 Z = true := hw _ (List.mem_of_getElem? (i := 11) rfl)
theorem w12 {Z : State} {a0 : Array Value} (hw : ∀ d ∈ tables_1, d.before a0 Z = true) : Jvm.Cond.before (Jvm.Cond.instanceMethod ({ cls := "java/lang/String", name := "<init>", desc := "([C)V" } : Jvm.MethodName)) a0 Z = true := hw _ (List.mem_of_getElem? (i := 12) rfl)
theorem w13 {Z : State} {a0 : Array Value} (hw : ∀ d ∈ tables_1, d.before a0 Z = true) : Jvm.Cond.before (Jvm.Cond.code ({ cls := "java/lang/String", name := "<init>", desc := "([C)V" } : Jvm.MethodName) jdk_42_method_3_code (2 : Nat) (Option.none : Option Jvm.ClassFile.FieldType)) a0 Z = true := hw _ (List.mem_of_getElem? (i := 13) rfl)
theorem w14 {Z : State} {a0 : Array Value} (hw : ∀ d ∈ tables_1, d.before a0 Z = true) : Jvm.Cond.before (Jvm.Cond.methodLink "java/lang/String" (27 : Nat) ({ cls := "java/lang/String", name := "<init>", desc := "([CIILjava/lang/Void;)V" } : Jvm.MethodName)) a0 Z = true := hw _ (List.mem_of_getElem? (i := 14) rfl)
theorem w15 {Z : State} {a0 : Array Value} (hw : ∀ d ∈ tables_1, d.before a0 Z = true) : Jvm.Cond.before (Jvm.Cond.instanceMethod ({ cls := "java/lang/String", name := "<init>", desc := "([CIILjava/lang/Void;)V" } : Jvm.MethodName)) a0 Z = true := hw _ (List.mem_of_getElem? (i := 15) rfl)
theorem w17 {Z : State} {a0 : Array Value} (hw : ∀ d ∈ tables_1, d.before a0 Z = true) : Jvm.Cond.before (Jvm.Cond.code ({ cls := "java/lang/String", name := "<init>", desc := "([CIILjava/lang/Void;)V" } : Jvm.MethodName) jdk_42_method_149_code (6 : Nat) (Option.none : Option Jvm.ClassFile.FieldType)) a0 Z = true := hw _ (List.mem_of_getElem? (i := 17) rfl)
theorem w18 {Z : State} {a0 : Array Value} (hw : ∀ d ∈ tables_1, d.before a0 Z = true) : Jvm.Cond.before (Jvm.Cond.methodLink "java/lang/String" (1 : Nat) ({ cls := "java/lang/Object", name := "<init>", desc := "()V" } : Jvm.MethodName)) a0 Z = true := hw _ (List.mem_of_getElem? (i := 18) rfl)
theorem w19 {Z : State} {a0 : Array Value} (hw : ∀ d ∈ tables_1, d.before a0 Z = true) : Jvm.Cond.before (Jvm.Cond.instanceMethod ({ cls := "java/lang/Object", name := "<init>", desc := "()V" } : Jvm.MethodName)) a0 Z = true := hw _ (List.mem_of_getElem? (i := 19) rfl)
theorem w20 {Z : State} {a0 : Array Value} (hw : ∀ d ∈ tables_1, d.before a0 Z = true) : Jvm.Cond.before (Jvm.Cond.code ({ cls := "java/lang/Object", name := "<init>", desc := "()V" } : Jvm.MethodName) object_method_1_code (1 : Nat) (Option.none : Option Jvm.ClassFile.FieldType)) a0 Z = true := hw _ (List.mem_of_getElem? (i := 20) rfl)
theorem w21 {Z : State} {a0 : Array Value} (hw : ∀ d ∈ tables_1, d.before a0 Z = true) : Jvm.Cond.before (Jvm.Cond.stringLink "java/lang/String" (7 : Nat) "") a0 Z = true := hw _ (List.mem_of_getElem? (i := 21) rfl)
theorem w22 {Z : State} {a0 : Array Value} (hw : ∀ d ∈ tables_1, d.before a0 Z = true) : Jvm.Cond.before (Jvm.Cond.arrayClass Jvm.ClassFile.FieldType.byte) a0 Z = true := hw _ (List.mem_of_getElem? (i := 22) rfl)
theorem w23 {Z : State} {a0 : Array Value} (hw : ∀ d ∈ tables_1, d.before a0 Z = true) : Jvm.Cond.before (Jvm.Cond.laysFinal "java/lang/String" "java/lang/String" "value" "[B") a0 Z = true := hw _ (List.mem_of_getElem? (i := 23) rfl)
theorem w24 {Z : State} {a0 : Array Value} (hw : ∀ d ∈ tables_1, d.before a0 Z = true) : Jvm.Cond.before (Jvm.Cond.laysFinal "java/lang/String" "java/lang/String" "coder" "B") a0 Z = true := hw _ (List.mem_of_getElem? (i := 24) rfl)
theorem w27 {Z : State} {a0 : Array Value} (hw : ∀ d ∈ tables_1, d.before a0 Z = true) : Jvm.Cond.before (Jvm.Cond.fieldLink "java/lang/String" (9 : Nat) "java/lang/String" "value" "[B") a0 Z = true := hw _ (List.mem_of_getElem? (i := 27) rfl)
theorem w28 {Z : State} {a0 : Array Value} (hw : ∀ d ∈ tables_1, d.before a0 Z = true) : Jvm.Cond.before (Jvm.Cond.fieldLink "java/lang/String" (15 : Nat) "java/lang/String" "coder" "B") a0 Z = true := hw _ (List.mem_of_getElem? (i := 28) rfl)
theorem w29 {Z : State} {a0 : Array Value} (hw : ∀ d ∈ tables_1, d.before a0 Z = true) : Jvm.Cond.before (Jvm.Cond.methodLink "com/example/linewire/linewire/SchemaViolationToStringPinLaw" (32 : Nat) ({ cls := "com/example/linewire/linewire/SchemaViolation", name := "<init>", desc := "(Ljava/lang/String;Ljava/lang/String;)V" } : Jvm.MethodName)) a0 Z = true := hw _ (List.mem_of_getElem? (i := 29) rfl)
theorem w30 {Z : State} {a0 : Array Value} (hw : ∀ d ∈ tables_1, d.before a0 Z = true) : Jvm.Cond.before (Jvm.Cond.instanceMethod ({ cls := "com/example/linewire/linewire/SchemaViolation", name := "<init>", desc := "(Ljava/lang/String;Ljava/lang/String;)V" } : Jvm.MethodName)) a0 Z = true := hw _ (List.mem_of_getElem? (i := 30) rfl)
theorem w31 {Z : State} {a0 : Array Value} (hw : ∀ d ∈ tables_1, d.before a0 Z = true) : Jvm.Cond.before (Jvm.Cond.code ({ cls := "com/example/linewire/linewire/SchemaViolation", name := "<init>", desc := "(Ljava/lang/String;Ljava/lang/String;)V" } : Jvm.MethodName) prog_23_method_1_code (3 : Nat) (Option.none : Option Jvm.ClassFile.FieldType)) a0 Z = true := hw _ (List.mem_of_getElem? (i := 31) rfl)
theorem w32 {Z : State} {a0 : Array Value} (hw : ∀ d ∈ tables_1, d.before a0 Z = true) : Jvm.Cond.before (Jvm.Cond.methodLink "com/example/linewire/linewire/SchemaViolation" (1 : Nat) ({ cls := "java/lang/Object", name := "<init>", desc := "()V" } : Jvm.MethodName)) a0 Z = true := hw _ (List.mem_of_getElem? (i := 32) rfl)
theorem w33 {Z : State} {a0 : Array Value} (hw : ∀ d ∈ tables_1, d.before a0 Z = true) : Jvm.Cond.before (Jvm.Cond.fieldLink "com/example/linewire/linewire/SchemaViolation" (7 : Nat) "com/example/linewire/linewire/SchemaViolation" "pointer" "Ljava/lang/String;") a0 Z = true := hw _ (List.mem_of_getElem? (i := 33) rfl)
theorem w34 {Z : State} {a0 : Array Value} (hw : ∀ d ∈ tables_1, d.before a0 Z = true) : Jvm.Cond.before (Jvm.Cond.laysFinal "com/example/linewire/linewire/SchemaViolation" "com/example/linewire/linewire/SchemaViolation" "pointer" "Ljava/lang/String;") a0 Z = true := hw _ (List.mem_of_getElem? (i := 34) rfl)
theorem w35 {Z : State} {a0 : Array Value} (hw : ∀ d ∈ tables_1, d.before a0 Z = true) : Jvm.Cond.before (Jvm.Cond.fieldLink "com/example/linewire/linewire/SchemaViolation" (13 : Nat) "com/example/linewire/linewire/SchemaViolation" "reason" "Ljava/lang/String;") a0 Z = true := hw _ (List.mem_of_getElem? (i := 35) rfl)
theorem w36 {Z : State} {a0 : Array Value} (hw : ∀ d ∈ tables_1, d.before a0 Z = true) : Jvm.Cond.before (Jvm.Cond.laysFinal "com/example/linewire/linewire/SchemaViolation" "com/example/linewire/linewire/SchemaViolation" "reason" "Ljava/lang/String;") a0 Z = true := hw _ (List.mem_of_getElem? (i := 36) rfl)
theorem w37 {Z : State} {a0 : Array Value} (hw : ∀ d ∈ tables_1, d.before a0 Z = true) : Jvm.Cond.before (Jvm.Cond.methodLink "com/example/linewire/linewire/SchemaViolationToStringPinLaw" (35 : Nat) ({ cls := "com/example/linewire/linewire/SchemaViolation", name := "toString", desc := "()Ljava/lang/String;" } : Jvm.MethodName)) a0 Z = true := hw _ (List.mem_of_getElem? (i := 37) rfl)
theorem w38 {Z : State} {a0 : Array Value} (hw : ∀ d ∈ tables_1, d.before a0 Z = true) : Jvm.Cond.before (Jvm.Cond.declares ({ cls := "com/example/linewire/linewire/SchemaViolation", name := "toString", desc := "()Ljava/lang/String;" } : Jvm.MethodName)) a0 Z = true := hw _ (List.mem_of_getElem? (i := 38) rfl)
theorem w39 {Z : State} {a0 : Array Value} (hw : ∀ d ∈ tables_1, d.before a0 Z = true) : Jvm.Cond.before (Jvm.Cond.instanceMethod ({ cls := "com/example/linewire/linewire/SchemaViolation", name := "toString", desc := "()Ljava/lang/String;" } : Jvm.MethodName)) a0 Z = true := hw _ (List.mem_of_getElem? (i := 39) rfl)
theorem w40 {Z : State} {a0 : Array Value} (hw : ∀ d ∈ tables_1, d.before a0 Z = true) : Jvm.Cond.before (Jvm.Cond.selects "com/example/linewire/linewire/SchemaViolation" ({ cls := "com/example/linewire/linewire/SchemaViolation", name := "toString", desc := "()Ljava/lang/String;" } : Jvm.MethodName) ({ cls := "com/example/linewire/linewire/SchemaViolation", name := "toString", desc := "()Ljava/lang/String;" } : Jvm.MethodName)) a0 Z = true := hw _ (List.mem_of_getElem? (i := 40) rfl)
theorem w41 {Z : State} {a0 : Array Value} (hw : ∀ d ∈ tables_1, d.before a0 Z = true) : Jvm.Cond.before (Jvm.Cond.code ({ cls := "com/example/linewire/linewire/SchemaViolation", name := "toString", desc := "()Ljava/lang/String;" } : Jvm.MethodName) prog_23_method_4_code (1 : Nat) (Option.some (Jvm.ClassFile.FieldType.object "java/lang/String"))) a0 Z = true := hw _ (List.mem_of_getElem? (i := 41) rfl)
theorem w42 {Z : State} {a0 : Array Value} (hw : ∀ d ∈ tables_1, d.before a0 Z = true) : Jvm.Cond.before (Jvm.Cond.classLink "com/example/linewire/linewire/SchemaViolation" (16 : Nat) "java/lang/StringBuilder") a0 Z = true := hw _ (List.mem_of_getElem? (i := 42) rfl)
theorem w43 {Z : State} {a0 : Array Value} (hw : ∀ d ∈ tables_1, d.before a0 Z = true) : Jvm.Cond.before (Jvm.Cond.instantiable "java/lang/StringBuilder" (4 : Nat)) a0 Z = true := hw _ (List.mem_of_getElem? (i := 43) rfl)
theorem w44 {Z : State} {a0 : Array Value} (hw : ∀ d ∈ tables_1, d.before a0 Z = true) : Jvm.Cond.before (Jvm.Cond.initialized "java/lang/StringBuilder") a0 Z = true := hw _ (List.mem_of_getElem? (i := 44) rfl)
theorem w45 {Z : State} {a0 : Array Value} (hw : ∀ d ∈ tables_1, d.before a0 Z = true) : Jvm.Cond.before (Jvm.Cond.methodLink "com/example/linewire/linewire/SchemaViolation" (18 : Nat) ({ cls := "java/lang/StringBuilder", name := "<init>", desc := "()V" } : Jvm.MethodName)) a0 Z = true := hw _ (List.mem_of_getElem? (i := 45) rfl)
theorem w46 {Z : State} {a0 : Array Value} (hw : ∀ d ∈ tables_1, d.before a0 Z = true) : Jvm.Cond.before (Jvm.Cond.instanceMethod ({ cls := "java/lang/StringBuilder", name := "<init>", desc := "()V" } : Jvm.MethodName)) a0 Z = true := hw _ (List.mem_of_getElem? (i := 46) rfl)
theorem w47 {Z : State} {a0 : Array Value} (hw : ∀ d ∈ tables_1, d.before a0 Z = true) : Jvm.Cond.before (Jvm.Cond.code ({ cls := "java/lang/StringBuilder", name := "<init>", desc := "()V" } : Jvm.MethodName) jdk_67_method_1_code (1 : Nat) (Option.none : Option Jvm.ClassFile.FieldType)) a0 Z = true := hw _ (List.mem_of_getElem? (i := 47) rfl)
theorem w48 {Z : State} {a0 : Array Value} (hw : ∀ d ∈ tables_1, d.before a0 Z = true) : Jvm.Cond.before (Jvm.Cond.methodLink "java/lang/StringBuilder" (1 : Nat) ({ cls := "java/lang/AbstractStringBuilder", name := "<init>", desc := "(I)V" } : Jvm.MethodName)) a0 Z = true := hw _ (List.mem_of_getElem? (i := 48) rfl)
theorem w49 {Z : State} {a0 : Array Value} (hw : ∀ d ∈ tables_1, d.before a0 Z = true) : Jvm.Cond.before (Jvm.Cond.instanceMethod ({ cls := "java/lang/AbstractStringBuilder", name := "<init>", desc := "(I)V" } : Jvm.MethodName)) a0 Z = true := hw _ (List.mem_of_getElem? (i := 49) rfl)
theorem w52 {Z : State} {a0 : Array Value} (hw : ∀ d ∈ tables_1, d.before a0 Z = true) : Jvm.Cond.before (Jvm.Cond.initialized "java/lang/AbstractStringBuilder") a0 Z = true := hw _ (List.mem_of_getElem? (i := 52) rfl)
theorem w53 {Z : State} {a0 : Array Value} (hw : ∀ d ∈ tables_1, d.before a0 Z = true) : Jvm.Cond.before (Jvm.Cond.code ({ cls := "java/lang/AbstractStringBuilder", name := "<init>", desc := "(I)V" } : Jvm.MethodName) jdk_68_method_2_code (2 : Nat) (Option.none : Option Jvm.ClassFile.FieldType)) a0 Z = true := hw _ (List.mem_of_getElem? (i := 53) rfl)
theorem w54 {Z : State} {a0 : Array Value} (hw : ∀ d ∈ tables_1, d.before a0 Z = true) : Jvm.Cond.before (Jvm.Cond.methodLink "java/lang/AbstractStringBuilder" (3 : Nat) ({ cls := "java/lang/Object", name := "<init>", desc := "()V" } : Jvm.MethodName)) a0 Z = true := hw _ (List.mem_of_getElem? (i := 54) rfl)
theorem w55 {Z : State} {a0 : Array Value} (hw : ∀ d ∈ tables_1, d.before a0 Z = true) : Jvm.Cond.before (Jvm.Cond.fieldLink "java/lang/AbstractStringBuilder" (18 : Nat) "java/lang/String" "COMPACT_STRINGS" "Z") a0 Z = true := hw _ (List.mem_of_getElem? (i := 55) rfl)
theorem w56 {Z : State} {a0 : Array Value} (hw : ∀ d ∈ tables_1, d.before a0 Z = true) : Jvm.Cond.before (Jvm.Cond.fieldLink "java/lang/AbstractStringBuilder" (15 : Nat) "java/lang/AbstractStringBuilder" "value" "[B") a0 Z = true := hw _ (List.mem_of_getElem? (i := 56) rfl)
theorem w57 {Z : State} {a0 : Array Value} (hw : ∀ d ∈ tables_1, d.before a0 Z = true) : Jvm.Cond.before (Jvm.Cond.lays "java/lang/StringBuilder" "java/lang/AbstractStringBuilder" "value" "[B") a0 Z = true := hw _ (List.mem_of_getElem? (i := 57) rfl)
theorem w58 {Z : State} {a0 : Array Value} (hw : ∀ d ∈ tables_1, d.before a0 Z = true) : Jvm.Cond.before (Jvm.Cond.fieldLink "java/lang/AbstractStringBuilder" (22 : Nat) "java/lang/AbstractStringBuilder" "coder" "B") a0 Z = true := hw _ (List.mem_of_getElem? (i := 58) rfl)
theorem w59 {Z : State} {a0 : Array Value} (hw : ∀ d ∈ tables_1, d.before a0 Z = true) : Jvm.Cond.before (Jvm.Cond.lays "java/lang/StringBuilder" "java/lang/AbstractStringBuilder" "coder" "B") a0 Z = true := hw _ (List.mem_of_getElem? (i := 59) rfl)
theorem w60 {Z : State} {a0 : Array Value} (hw : ∀ d ∈ tables_1, d.before a0 Z = true) : Jvm.Cond.before (Jvm.Cond.methodLink "com/example/linewire/linewire/SchemaViolation" (19 : Nat) ({ cls := "java/lang/StringBuilder", name := "append", desc := "(Ljava/lang/String;)Ljava/lang/StringBuilder;" } : Jvm.MethodName)) a0 Z = true := hw _ (List.mem_of_getElem? (i := 60) rfl)
theorem w61 {Z : State} {a0 : Array Value} (hw : ∀ d ∈ tables_1, d.before a0 Z = true) : Jvm.Cond.before (Jvm.Cond.declares ({ cls := "java/lang/StringBuilder", name := "append", desc := "(Ljava/lang/String;)Ljava/lang/StringBuilder;" } : Jvm.MethodName)) a0 Z = true := hw _ (List.mem_of_getElem? (i := 61) rfl)
theorem w62 {Z : State} {a0 : Array Value} (hw : ∀ d ∈ tables_1, d.before a0 Z = true) : Jvm.Cond.before (Jvm.Cond.instanceMethod ({ cls := "java/lang/StringBuilder", name := "append", desc := "(Ljava/lang/String;)Ljava/lang/StringBuilder;" } : Jvm.MethodName)) a0 Z = true := hw _ (List.mem_of_getElem? (i := 62) rfl)
theorem w63 {Z : State} {a0 : Array Value} (hw : ∀ d ∈ tables_1, d.before a0 Z = true) : Jvm.Cond.before (Jvm.Cond.selects "java/lang/StringBuilder" ({ cls := "java/lang/StringBuilder", name := "append", desc := "(Ljava/lang/String;)Ljava/lang/StringBuilder;" } : Jvm.MethodName) ({ cls := "java/lang/StringBuilder", name := "append", desc := "(Ljava/lang/String;)Ljava/lang/StringBuilder;" } : Jvm.MethodName)) a0 Z = true := hw _ (List.mem_of_getElem? (i := 63) rfl)
theorem w64 {Z : State} {a0 : Array Value} (hw : ∀ d ∈ tables_1, d.before a0 Z = true) : Jvm.Cond.before (Jvm.Cond.code ({ cls := "java/lang/StringBuilder", name := "append", desc := "(Ljava/lang/String;)Ljava/lang/StringBuilder;" } : Jvm.MethodName) jdk_67_method_7_code (2 : Nat) (Option.some (Jvm.ClassFile.FieldType.object "java/lang/StringBuilder"))) a0 Z = true := hw _ (List.mem_of_getElem? (i := 64) rfl)
theorem w65 {Z : State} {a0 : Array Value} (hw : ∀ d ∈ tables_1, d.before a0 Z = true) : Jvm.Cond.before (Jvm.Cond.methodLink "java/lang/StringBuilder" (29 : Nat) ({ cls := "java/lang/AbstractStringBuilder", name := "append", desc := "(Ljava/lang/String;)Ljava/lang/AbstractStringBuilder;" } : Jvm.MethodName)) a0 Z = true := hw _ (List.mem_of_getElem? (i := 65) rfl)
theorem w66 {Z : State} {a0 : Array Value} (hw : ∀ d ∈ tables_1, d.before a0 Z = true) : Jvm.Cond.before (Jvm.Cond.instanceMethod ({ cls := "java/lang/AbstractStringBuilder", name := "append", desc := "(Ljava/lang/String;)Ljava/lang/AbstractStringBuilder;" } : Jvm.MethodName)) a0 Z = true := hw _ (List.mem_of_getElem? (i := 66) rfl)
theorem w67 {Z : State} {a0 : Array Value} (hw : ∀ d ∈ tables_1, d.before a0 Z = true) : Jvm.Cond.before (Jvm.Cond.superclass "java/lang/StringBuilder" "java/lang/AbstractStringBuilder") a0 Z = true := hw _ (List.mem_of_getElem? (i := 67) rfl)
theorem w69 {Z : State} {a0 : Array Value} (hw : ∀ d ∈ tables_1, d.before a0 Z = true) : Jvm.Cond.before (Jvm.Cond.code ({ cls := "java/lang/AbstractStringBuilder", name := "append", desc := "(Ljava/lang/String;)Ljava/lang/AbstractStringBuilder;" } : Jvm.MethodName) jdk_68_method_22_code (3 : Nat) (Option.some (Jvm.ClassFile.FieldType.object "java/lang/AbstractStringBuilder"))) a0 Z = true := hw _ (List.mem_of_getElem? (i := 69) rfl)
theorem w70 {Z : State} {a0 : Array Value} (hw : ∀ d ∈ tables_1, d.before a0 Z = true) : Jvm.Cond.before (Jvm.Cond.methodLink "java/lang/AbstractStringBuilder" (32 : Nat) ({ cls := "java/lang/String", name := "length", desc := "()I" } : Jvm.MethodName)) a0 Z = true := hw _ (List.mem_of_getElem? (i := 70) rfl)
theorem w71 {Z : State} {a0 : Array Value} (hw : ∀ d ∈ tables_1, d.before a0 Z = true) : Jvm.Cond.before (Jvm.Cond.declares ({ cls := "java/lang/String", name := "length", desc := "()I" } : Jvm.MethodName)) a0 Z = true := hw _ (List.mem_of_getElem? (i := 71) rfl)
theorem w72 {Z : State} {a0 : Array Value} (hw : ∀ d ∈ tables_1, d.before a0 Z = true) : Jvm.Cond.before (Jvm.Cond.instanceMethod ({ cls := "java/lang/String", name := "length", desc := "()I" } : Jvm.MethodName)) a0 Z = true := hw _ (List.mem_of_getElem? (i := 72) rfl)
theorem w73 {Z : State} {a0 : Array Value} (hw : ∀ d ∈ tables_1, d.before a0 Z = true) : Jvm.Cond.before (Jvm.Cond.selects "java/lang/String" ({ cls := "java/lang/String", name := "length", desc := "()I" } : Jvm.MethodName) ({ cls := "java/lang/String", name := "length", desc := "()I" } : Jvm.MethodName)) a0 Z = true := hw _ (List.mem_of_getElem? (i := 73) rfl)
theorem w74 {Z : State} {a0 : Array Value} (hw : ∀ d ∈ tables_1, d.before a0 Z = true) : Jvm.Cond.before (Jvm.Cond.code ({ cls := "java/lang/String", name := "length", desc := "()I" } : Jvm.MethodName) jdk_42_method_54_code (1 : Nat) (Option.some Jvm.ClassFile.FieldType.int)) a0 Z = true := hw _ (List.mem_of_getElem? (i := 74) rfl)
theorem w75 {Z : State} {a0 : Array Value} (hw : ∀ d ∈ tables_1, d.before a0 Z = true) : Jvm.Cond.before (Jvm.Cond.methodLink "java/lang/String" (335 : Nat) ({ cls := "java/lang/String", name := "coder", desc := "()B" } : Jvm.MethodName)) a0 Z = true := hw _ (List.mem_of_getElem? (i := 75) rfl)
theorem w76 {Z : State} {a0 : Array Value} (hw : ∀ d ∈ tables_1, d.before a0 Z = true) : Jvm.Cond.before (Jvm.Cond.declares ({ cls := "java/lang/String", name := "coder", desc := "()B" } : Jvm.MethodName)) a0 Z = true := hw _ (List.mem_of_getElem? (i := 76) rfl)
theorem w77 {Z : State} {a0 : Array Value} (hw : ∀ d ∈ tables_1, d.before a0 Z = true) : Jvm.Cond.before (Jvm.Cond.instanceMethod ({ cls := "java/lang/String", name := "coder", desc := "()B" } : Jvm.MethodName)) a0 Z = true := hw _ (List.mem_of_getElem? (i := 77) rfl)
theorem w78 {Z : State} {a0 : Array Value} (hw : ∀ d ∈ tables_1, d.before a0 Z = true) : Jvm.Cond.before (Jvm.Cond.selects "java/lang/String" ({ cls := "java/lang/String", name := "coder", desc := "()B" } : Jvm.MethodName) ({ cls := "java/lang/String", name := "coder", desc := "()B" } : Jvm.MethodName)) a0 Z = true := hw _ (List.mem_of_getElem? (i := 78) rfl)
theorem w79 {Z : State} {a0 : Array Value} (hw : ∀ d ∈ tables_1, d.before a0 Z = true) : Jvm.Cond.before (Jvm.Cond.code ({ cls := "java/lang/String", name := "coder", desc := "()B" } : Jvm.MethodName) jdk_42_method_152_code (1 : Nat) (Option.some Jvm.ClassFile.FieldType.byte)) a0 Z = true := hw _ (List.mem_of_getElem? (i := 79) rfl)
theorem w80 {Z : State} {a0 : Array Value} (hw : ∀ d ∈ tables_1, d.before a0 Z = true) : Jvm.Cond.before (Jvm.Cond.fieldLink "java/lang/String" (38 : Nat) "java/lang/String" "COMPACT_STRINGS" "Z") a0 Z = true := hw _ (List.mem_of_getElem? (i := 80) rfl)
theorem w81 {Z : State} {a0 : Array Value} (hw : ∀ d ∈ tables_1, d.before a0 Z = true) : Jvm.Cond.before (Jvm.Cond.fieldLink "java/lang/AbstractStringBuilder" (79 : Nat) "java/lang/AbstractStringBuilder" "count" "I") a0 Z = true := hw _ (List.mem_of_getElem? (i := 81) rfl)
theorem w82 {Z : State} {a0 : Array Value} (hw : ∀ d ∈ tables_1, d.before a0 Z = true) : Jvm.Cond.before (Jvm.Cond.lays "java/lang/StringBuilder" "java/lang/AbstractStringBuilder" "count" "I") a0 Z = true := hw _ (List.mem_of_getElem? (i := 82) rfl)
theorem w83 {Z : State} {a0 : Array Value} (hw : ∀ d ∈ tables_1, d.before a0 Z = true) : Jvm.Cond.before (Jvm.Cond.methodLink "java/lang/AbstractStringBuilder" (100 : Nat) ({ cls := "java/lang/AbstractStringBuilder", name := "ensureCapacityInternal", desc := "(I)V" } : Jvm.MethodName)) a0 Z = true := hw _ (List.mem_of_getElem? (i := 83) rfl)
theorem w84 {Z : State} {a0 : Array Value} (hw : ∀ d ∈ tables_1, d.before a0 Z = true) : Jvm.Cond.before (Jvm.Cond.instanceMethod ({ cls := "java/lang/AbstractStringBuilder", name := "ensureCapacityInternal", desc := "(I)V" } : Jvm.MethodName)) a0 Z = true := hw _ (List.mem_of_getElem? (i := 84) rfl)
theorem w85 {Z : State} {a0 : Array Value} (hw : ∀ d ∈ tables_1, d.before a0 Z = true) : Jvm.Cond.before (Jvm.Cond.privateMethod ({ cls := "java/lang/AbstractStringBuilder", name := "ensureCapacityInternal", desc := "(I)V" } : Jvm.MethodName)) a0 Z = true := hw _ (List.mem_of_getElem? (i := 85) rfl)
theorem w86 {Z : State} {a0 : Array Value} (hw : ∀ d ∈ tables_1, d.before a0 Z = true) : Jvm.Cond.before (Jvm.Cond.selects "java/lang/StringBuilder" ({ cls := "java/lang/AbstractStringBuilder", name := "ensureCapacityInternal", desc := "(I)V" } : Jvm.MethodName) ({ cls := "java/lang/AbstractStringBuilder", name := "ensureCapacityInternal", desc := "(I)V" } : Jvm.MethodName)) a0 Z = true := hw _ (List.mem_of_getElem? (i := 86) rfl)
theorem w87 {Z : State} {a0 : Array Value} (hw : ∀ d ∈ tables_1, d.before a0 Z = true) : Jvm.Cond.before (Jvm.Cond.code ({ cls := "java/lang/AbstractStringBuilder", name := "ensureCapacityInternal", desc := "(I)V" } : Jvm.MethodName) jdk_68_method_9_code (3 : Nat) (Option.none : Option Jvm.ClassFile.FieldType)) a0 Z = true := hw _ (List.mem_of_getElem? (i := 87) rfl)
theorem w88 {Z : State} {a0 : Array Value} (hw : ∀ d ∈ tables_1, d.before a0 Z = true) : Jvm.Cond.before (Jvm.Cond.methodLink "java/lang/AbstractStringBuilder" (208 : Nat) ({ cls := "java/lang/AbstractStringBuilder", name := "putStringAt", desc := "(ILjava/lang/String;)V" } : Jvm.MethodName)) a0 Z = true := hw _ (List.mem_of_getElem? (i := 88) rfl)
theorem w89 {Z : State} {a0 : Array Value} (hw : ∀ d ∈ tables_1, d.before a0 Z = true) : Jvm.Cond.before (Jvm.Cond.instanceMethod ({ cls := "java/lang/AbstractStringBuilder", name := "putStringAt", desc := "(ILjava/lang/String;)V" } : Jvm.MethodName)) a0 Z = true := hw _ (List.mem_of_getElem? (i := 89) rfl)
theorem w90 {Z : State} {a0 : Array Value} (hw : ∀ d ∈ tables_1, d.before a0 Z = true) : Jvm.Cond.before (Jvm.Cond.privateMethod ({ cls := "java/lang/AbstractStringBuilder", name := "putStringAt", desc := "(ILjava/lang/String;)V" } : Jvm.MethodName)) a0 Z = true := hw _ (List.mem_of_getElem? (i := 90) rfl)
theorem w91 {Z : State} {a0 : Array Value} (hw : ∀ d ∈ tables_1, d.before a0 Z = true) : Jvm.Cond.before (Jvm.Cond.selects "java/lang/StringBuilder" ({ cls := "java/lang/AbstractStringBuilder", name := "putStringAt", desc := "(ILjava/lang/String;)V" } : Jvm.MethodName) ({ cls := "java/lang/AbstractStringBuilder", name := "putStringAt", desc := "(ILjava/lang/String;)V" } : Jvm.MethodName)) a0 Z = true := hw _ (List.mem_of_getElem? (i := 91) rfl)
theorem w92 {Z : State} {a0 : Array Value} (hw : ∀ d ∈ tables_1, d.before a0 Z = true) : Jvm.Cond.before (Jvm.Cond.code ({ cls := "java/lang/AbstractStringBuilder", name := "putStringAt", desc := "(ILjava/lang/String;)V" } : Jvm.MethodName) jdk_68_method_73_code (3 : Nat) (Option.none : Option Jvm.ClassFile.FieldType)) a0 Z = true := hw _ (List.mem_of_getElem? (i := 92) rfl)
theorem w93 {Z : State} {a0 : Array Value} (hw : ∀ d ∈ tables_1, d.before a0 Z = true) : Jvm.Cond.before (Jvm.Cond.methodLink "java/lang/AbstractStringBuilder" (397 : Nat) ({ cls := "java/lang/AbstractStringBuilder", name := "inflateIfNeededFor", desc := "(Ljava/lang/String;)V" } : Jvm.MethodName)) a0 Z = true := hw _ (List.mem_of_getElem? (i := 93) rfl)
theorem w94 {Z : State} {a0 : Array Value} (hw : ∀ d ∈ tables_1, d.before a0 Z = true) : Jvm.Cond.before (Jvm.Cond.instanceMethod ({ cls := "java/lang/AbstractStringBuilder", name := "inflateIfNeededFor", desc := "(Ljava/lang/String;)V" } : Jvm.MethodName)) a0 Z = true := hw _ (List.mem_of_getElem? (i := 94) rfl)
theorem w95 {Z : State} {a0 : Array Value} (hw : ∀ d ∈ tables_1, d.before a0 Z = true) : Jvm.Cond.before (Jvm.Cond.privateMethod ({ cls := "java/lang/AbstractStringBuilder", name := "inflateIfNeededFor", desc := "(Ljava/lang/String;)V" } : Jvm.MethodName)) a0 Z = true := hw _ (List.mem_of_getElem? (i := 95) rfl)
theorem w96 {Z : State} {a0 : Array Value} (hw : ∀ d ∈ tables_1, d.before a0 Z = true) : Jvm.Cond.before (Jvm.Cond.selects "java/lang/StringBuilder" ({ cls := "java/lang/AbstractStringBuilder", name := "inflateIfNeededFor", desc := "(Ljava/lang/String;)V" } : Jvm.MethodName) ({ cls := "java/lang/AbstractStringBuilder", name := "inflateIfNeededFor", desc := "(Ljava/lang/String;)V" } : Jvm.MethodName)) a0 Z = true := hw _ (List.mem_of_getElem? (i := 96) rfl)
theorem w97 {Z : State} {a0 : Array Value} (hw : ∀ d ∈ tables_1, d.before a0 Z = true) : Jvm.Cond.before (Jvm.Cond.code ({ cls := "java/lang/AbstractStringBuilder", name := "inflateIfNeededFor", desc := "(Ljava/lang/String;)V" } : Jvm.MethodName) jdk_68_method_71_code (2 : Nat) (Option.none : Option Jvm.ClassFile.FieldType)) a0 Z = true := hw _ (List.mem_of_getElem? (i := 97) rfl)
theorem w98 {Z : State} {a0 : Array Value} (hw : ∀ d ∈ tables_1, d.before a0 Z = true) : Jvm.Cond.before (Jvm.Cond.methodLink "java/lang/AbstractStringBuilder" (40 : Nat) ({ cls := "java/lang/String", name := "coder", desc := "()B" } : Jvm.MethodName)) a0 Z = true := hw _ (List.mem_of_getElem? (i := 98) rfl)
theorem w99 {Z : State} {a0 : Array Value} (hw : ∀ d ∈ tables_1, d.before a0 Z = true) : Jvm.Cond.before (Jvm.Cond.methodLink "java/lang/AbstractStringBuilder" (399 : Nat) ({ cls := "java/lang/String", name := "getBytes", desc := "([BIB)V" } : Jvm.MethodName)) a0 Z = true := hw _ (List.mem_of_getElem? (i := 99) rfl)
theorem w100 {Z : State} {a0 : Array Value} (hw : ∀ d ∈ tables_1, d.before a0 Z = true) : Jvm.Cond.before (Jvm.Cond.declares ({ cls := "java/lang/String", name := "getBytes", desc := "([BIB)V" } : Jvm.MethodName)) a0 Z = true := hw _ (List.mem_of_getElem? (i := 100) rfl)
theorem w101 {Z : State} {a0 : Array Value} (hw : ∀ d ∈ tables_1, d.before a0 Z = true) : Jvm.Cond.before (Jvm.Cond.instanceMethod ({ cls := "java/lang/String", name := "getBytes", desc := "([BIB)V" } : Jvm.MethodName)) a0 Z = true := hw _ (List.mem_of_getElem? (i := 101) rfl)
theorem w102 {Z : State} {a0 : Array Value} (hw : ∀ d ∈ tables_1, d.before a0 Z = true) : Jvm.Cond.before (Jvm.Cond.selects "java/lang/String" ({ cls := "java/lang/String", name := "getBytes", desc := "([BIB)V" } : Jvm.MethodName) ({ cls := "java/lang/String", name := "getBytes", desc := "([BIB)V" } : Jvm.MethodName)) a0 Z = true := hw _ (List.mem_of_getElem? (i := 102) rfl)
theorem w103 {Z : State} {a0 : Array Value} (hw : ∀ d ∈ tables_1, d.before a0 Z = true) : Jvm.Cond.before (Jvm.Cond.code ({ cls := "java/lang/String", name := "getBytes", desc := "([BIB)V" } : Jvm.MethodName) jdk_42_method_147_code (4 : Nat) (Option.none : Option Jvm.ClassFile.FieldType)) a0 Z = true := hw _ (List.mem_of_getElem? (i := 103) rfl)
theorem w104 {Z : State} {a0 : Array Value} (hw : ∀ d ∈ tables_1, d.before a0 Z = true) : Jvm.Cond.before (Jvm.Cond.methodLink "java/lang/String" (212 : Nat) ({ cls := "java/lang/System", name := "arraycopy", desc := "(Ljava/lang/Object;ILjava/lang/Object;II)V" } : Jvm.MethodName)) a0 Z = true := hw _ (List.mem_of_getElem? (i := 104) rfl)
theorem w105 {Z : State} {a0 : Array Value} (hw : ∀ d ∈ tables_1, d.before a0 Z = true) : Jvm.Cond.before (Jvm.Cond.static ({ cls := "java/lang/System", name := "arraycopy", desc := "(Ljava/lang/Object;ILjava/lang/Object;II)V" } : Jvm.MethodName)) a0 Z = true := hw _ (List.mem_of_getElem? (i := 105) rfl)
theorem w106 {Z : State} {a0 : Array Value} (hw : ∀ d ∈ tables_1, d.before a0 Z = true) : Jvm.Cond.before (Jvm.Cond.initialized "java/lang/System") a0 Z = true := hw _ (List.mem_of_getElem? (i := 106) rfl)
theorem w107 {Z : State} {a0 : Array Value} (hw : ∀ d ∈ tables_1, d.before a0 Z = true) : Jvm.Cond.before (Jvm.Cond.native ({ cls := "java/lang/System", name := "arraycopy", desc := "(Ljava/lang/Object;ILjava/lang/Object;II)V" } : Jvm.MethodName)) a0 Z = true := hw _ (List.mem_of_getElem? (i := 107) rfl)
theorem w108 {Z : State} {a0 : Array Value} (hw : ∀ d ∈ tables_1, d.before a0 Z = true) : Jvm.Cond.before (Jvm.Cond.stringLink "com/example/linewire/linewire/SchemaViolation" (23 : Nat) ": ") a0 Z = true := hw _ (List.mem_of_getElem? (i := 108) rfl)
theorem w109 {Z : State} {a0 : Array Value} (hw : ∀ d ∈ tables_1, d.before a0 Z = true) : Jvm.Cond.before (Jvm.Cond.methodLink "com/example/linewire/linewire/SchemaViolation" (25 : Nat) ({ cls := "java/lang/StringBuilder", name := "toString", desc := "()Ljava/lang/String;" } : Jvm.MethodName)) a0 Z = true := hw _ (List.mem_of_getElem? (i := 109) rfl)
theorem w110 {Z : State} {a0 : Array Value} (hw : ∀ d ∈ tables_1, d.before a0 Z = true) : Jvm.Cond.before (Jvm.Cond.declares ({ cls := "java/lang/StringBuilder", name := "toString", desc := "()Ljava/lang/String;" } : Jvm.MethodName)) a0 Z = true := hw _ (List.mem_of_getElem? (i := 110) rfl)
theorem w111 {Z : State} {a0 : Array Value} (hw : ∀ d ∈ tables_1, d.before a0 Z = true) : Jvm.Cond.before (Jvm.Cond.instanceMethod ({ cls := "java/lang/StringBuilder", name := "toString", desc := "()Ljava/lang/String;" } : Jvm.MethodName)) a0 Z = true := hw _ (List.mem_of_getElem? (i := 111) rfl)
theorem w112 {Z : State} {a0 : Array Value} (hw : ∀ d ∈ tables_1, d.before a0 Z = true) : Jvm.Cond.before (Jvm.Cond.selects "java/lang/StringBuilder" ({ cls := "java/lang/StringBuilder", name := "toString", desc := "()Ljava/lang/String;" } : Jvm.MethodName) ({ cls := "java/lang/StringBuilder", name := "toString", desc := "()Ljava/lang/String;" } : Jvm.MethodName)) a0 Z = true := hw _ (List.mem_of_getElem? (i := 112) rfl)
theorem w113 {Z : State} {a0 : Array Value} (hw : ∀ d ∈ tables_1, d.before a0 Z = true) : Jvm.Cond.before (Jvm.Cond.code ({ cls := "java/lang/StringBuilder", name := "toString", desc := "()Ljava/lang/String;" } : Jvm.MethodName) jdk_67_method_42_code (1 : Nat) (Option.some (Jvm.ClassFile.FieldType.object "java/lang/String"))) a0 Z = true := hw _ (List.mem_of_getElem? (i := 113) rfl)
theorem w114 {Z : State} {a0 : Array Value} (hw : ∀ d ∈ tables_1, d.before a0 Z = true) : Jvm.Cond.before (Jvm.Cond.classLink "java/lang/StringBuilder" (18 : Nat) "java/lang/String") a0 Z = true := hw _ (List.mem_of_getElem? (i := 114) rfl)
theorem w115 {Z : State} {a0 : Array Value} (hw : ∀ d ∈ tables_1, d.before a0 Z = true) : Jvm.Cond.before (Jvm.Cond.methodLink "java/lang/StringBuilder" (137 : Nat) ({ cls := "java/lang/String", name := "<init>", desc := "(Ljava/lang/StringBuilder;)V" } : Jvm.MethodName)) a0 Z = true := hw _ (List.mem_of_getElem? (i := 115) rfl)
theorem w116 {Z : State} {a0 : Array Value} (hw : ∀ d ∈ tables_1, d.before a0 Z = true) : Jvm.Cond.before (Jvm.Cond.instanceMethod ({ cls := "java/lang/String", name := "<init>", desc := "(Ljava/lang/StringBuilder;)V" } : Jvm.MethodName)) a0 Z = true := hw _ (List.mem_of_getElem? (i := 116) rfl)
theorem w117 {Z : State} {a0 : Array Value} (hw : ∀ d ∈ tables_1, d.before a0 Z = true) : Jvm.Cond.before (Jvm.Cond.code ({ cls := "java/lang/String", name := "<init>", desc := "(Ljava/lang/StringBuilder;)V" } : Jvm.MethodName) jdk_42_method_53_code (2 : Nat) (Option.none : Option Jvm.ClassFile.FieldType)) a0 Z = true := hw _ (List.mem_of_getElem? (i := 117) rfl)
theorem w118 {Z : State} {a0 : Array Value} (hw : ∀ d ∈ tables_1, d.before a0 Z = true) : Jvm.Cond.before (Jvm.Cond.methodLink "java/lang/String" (489 : Nat) ({ cls := "java/lang/String", name := "<init>", desc := "(Ljava/lang/AbstractStringBuilder;Ljava/lang/Void;)V" } : Jvm.MethodName)) a0 Z = true := hw _ (List.mem_of_getElem? (i := 118) rfl)
theorem w119 {Z : State} {a0 : Array Value} (hw : ∀ d ∈ tables_1, d.before a0 Z = true) : Jvm.Cond.before (Jvm.Cond.instanceMethod ({ cls := "java/lang/String", name := "<init>", desc := "(Ljava/lang/AbstractStringBuilder;Ljava/lang/Void;)V" } : Jvm.MethodName)) a0 Z = true := hw _ (List.mem_of_getElem? (i := 119) rfl)
theorem w120 {Z : State} {a0 : Array Value} (hw : ∀ d ∈ tables_1, d.before a0 Z = true) : Jvm.Cond.before (Jvm.Cond.code ({ cls := "java/lang/String", name := "<init>", desc := "(Ljava/lang/AbstractStringBuilder;Ljava/lang/Void;)V" } : Jvm.MethodName) jdk_42_method_150_code (5 : Nat) (Option.none : Option Jvm.ClassFile.FieldType)) a0 Z = true := hw _ (List.mem_of_getElem? (i := 120) rfl)
theorem w121 {Z : State} {a0 : Array Value} (hw : ∀ d ∈ tables_1, d.before a0 Z = true) : Jvm.Cond.before (Jvm.Cond.methodLink "java/lang/String" (552 : Nat) ({ cls := "java/lang/AbstractStringBuilder", name := "getValue", desc := "()[B" } : Jvm.MethodName)) a0 Z = true := hw _ (List.mem_of_getElem? (i := 121) rfl)
theorem w122 {Z : State} {a0 : Array Value} (hw : ∀ d ∈ tables_1, d.before a0 Z = true) : Jvm.Cond.before (Jvm.Cond.declares ({ cls := "java/lang/AbstractStringBuilder", name := "getValue", desc := "()[B" } : Jvm.MethodName)) a0 Z = true := hw _ (List.mem_of_getElem? (i := 122) rfl)
theorem w123 {Z : State} {a0 : Array Value} (hw : ∀ d ∈ tables_1, d.before a0 Z = true) : Jvm.Cond.before (Jvm.Cond.instanceMethod ({ cls := "java/lang/AbstractStringBuilder", name := "getValue", desc := "()[B" } : Jvm.MethodName)) a0 Z = true := hw _ (List.mem_of_getElem? (i := 123) rfl)
theorem w124 {Z : State} {a0 : Array Value} (hw : ∀ d ∈ tables_1, d.before a0 Z = true) : Jvm.Cond.before (Jvm.Cond.selects "java/lang/StringBuilder" ({ cls := "java/lang/AbstractStringBuilder", name := "getValue", desc := "()[B" } : Jvm.MethodName) ({ cls := "java/lang/AbstractStringBuilder", name := "getValue", desc := "()[B" } : Jvm.MethodName)) a0 Z = true := hw _ (List.mem_of_getElem? (i := 124) rfl)
theorem w125 {Z : State} {a0 : Array Value} (hw : ∀ d ∈ tables_1, d.before a0 Z = true) : Jvm.Cond.before (Jvm.Cond.code ({ cls := "java/lang/AbstractStringBuilder", name := "getValue", desc := "()[B" } : Jvm.MethodName) jdk_68_method_64_code (1 : Nat) (Option.some (Jvm.ClassFile.FieldType.array Jvm.ClassFile.FieldType.byte))) a0 Z = true := hw _ (List.mem_of_getElem? (i := 125) rfl)
theorem w126 {Z : State} {a0 : Array Value} (hw : ∀ d ∈ tables_1, d.before a0 Z = true) : Jvm.Cond.before (Jvm.Cond.methodLink "java/lang/String" (549 : Nat) ({ cls := "java/lang/AbstractStringBuilder", name := "length", desc := "()I" } : Jvm.MethodName)) a0 Z = true := hw _ (List.mem_of_getElem? (i := 126) rfl)
theorem w127 {Z : State} {a0 : Array Value} (hw : ∀ d ∈ tables_1, d.before a0 Z = true) : Jvm.Cond.before (Jvm.Cond.declares ({ cls := "java/lang/AbstractStringBuilder", name := "length", desc := "()I" } : Jvm.MethodName)) a0 Z = true := hw _ (List.mem_of_getElem? (i := 127) rfl)
theorem w128 {Z : State} {a0 : Array Value} (hw : ∀ d ∈ tables_1, d.before a0 Z = true) : Jvm.Cond.before (Jvm.Cond.instanceMethod ({ cls := "java/lang/AbstractStringBuilder", name := "length", desc := "()I" } : Jvm.MethodName)) a0 Z = true := hw _ (List.mem_of_getElem? (i := 128) rfl)
theorem w129 {Z : State} {a0 : Array Value} (hw : ∀ d ∈ tables_1, d.before a0 Z = true) : Jvm.Cond.before (Jvm.Cond.selects "java/lang/StringBuilder" ({ cls := "java/lang/AbstractStringBuilder", name := "length", desc := "()I" } : Jvm.MethodName) ({ cls := "java/lang/StringBuilder", name := "length", desc := "()I" } : Jvm.MethodName)) a0 Z = true := hw _ (List.mem_of_getElem? (i := 129) rfl)
theorem w130 {Z : State} {a0 : Array Value} (hw : ∀ d ∈ tables_1, d.before a0 Z = true) : Jvm.Cond.before (Jvm.Cond.instanceMethod ({ cls := "java/lang/StringBuilder", name := "length", desc := "()I" } : Jvm.MethodName)) a0 Z = true := hw _ (List.mem_of_getElem? (i := 130) rfl)
theorem w131 {Z : State} {a0 : Array Value} (hw : ∀ d ∈ tables_1, d.before a0 Z = true) : Jvm.Cond.before (Jvm.Cond.code ({ cls := "java/lang/StringBuilder", name := "length", desc := "()I" } : Jvm.MethodName) jdk_67_method_93_code (1 : Nat) (Option.some Jvm.ClassFile.FieldType.int)) a0 Z = true := hw _ (List.mem_of_getElem? (i := 131) rfl)
theorem w132 {Z : State} {a0 : Array Value} (hw : ∀ d ∈ tables_1, d.before a0 Z = true) : Jvm.Cond.before (Jvm.Cond.methodLink "java/lang/StringBuilder" (343 : Nat) ({ cls := "java/lang/AbstractStringBuilder", name := "length", desc := "()I" } : Jvm.MethodName)) a0 Z = true := hw _ (List.mem_of_getElem? (i := 132) rfl)
theorem w133 {Z : State} {a0 : Array Value} (hw : ∀ d ∈ tables_1, d.before a0 Z = true) : Jvm.Cond.before (Jvm.Cond.code ({ cls := "java/lang/AbstractStringBuilder", name := "length", desc := "()I" } : Jvm.MethodName) jdk_68_method_6_code (1 : Nat) (Option.some Jvm.ClassFile.FieldType.int)) a0 Z = true := hw _ (List.mem_of_getElem? (i := 133) rfl)
theorem w134 {Z : State} {a0 : Array Value} (hw : ∀ d ∈ tables_1, d.before a0 Z = true) : Jvm.Cond.before (Jvm.Cond.methodLink "java/lang/String" (1047 : Nat) ({ cls := "java/lang/AbstractStringBuilder", name := "isLatin1", desc := "()Z" } : Jvm.MethodName)) a0 Z = true := hw _ (List.mem_of_getElem? (i := 134) rfl)
theorem w135 {Z : State} {a0 : Array Value} (hw : ∀ d ∈ tables_1, d.before a0 Z = true) : Jvm.Cond.before (Jvm.Cond.declares ({ cls := "java/lang/AbstractStringBuilder", name := "isLatin1", desc := "()Z" } : Jvm.MethodName)) a0 Z = true := hw _ (List.mem_of_getElem? (i := 135) rfl)
theorem w136 {Z : State} {a0 : Array Value} (hw : ∀ d ∈ tables_1, d.before a0 Z = true) : Jvm.Cond.before (Jvm.Cond.instanceMethod ({ cls := "java/lang/AbstractStringBuilder", name := "isLatin1", desc := "()Z" } : Jvm.MethodName)) a0 Z = true := hw _ (List.mem_of_getElem? (i := 136) rfl)
theorem w137 {Z : State} {a0 : Array Value} (hw : ∀ d ∈ tables_1, d.before a0 Z = true) : Jvm.Cond.before (Jvm.Cond.selects "java/lang/StringBuilder" ({ cls := "java/lang/AbstractStringBuilder", name := "isLatin1", desc := "()Z" } : Jvm.MethodName) ({ cls := "java/lang/AbstractStringBuilder", name := "isLatin1", desc := "()Z" } : Jvm.MethodName)) a0 Z = true := hw _ (List.mem_of_getElem? (i := 137) rfl)
theorem w138 {Z : State} {a0 : Array Value} (hw : ∀ d ∈ tables_1, d.before a0 Z = true) : Jvm.Cond.before (Jvm.Cond.code ({ cls := "java/lang/AbstractStringBuilder", name := "isLatin1", desc := "()Z" } : Jvm.MethodName) jdk_68_method_68_code (1 : Nat) (Option.some Jvm.ClassFile.FieldType.boolean)) a0 Z = true := hw _ (List.mem_of_getElem? (i := 138) rfl)
theorem w139 {Z : State} {a0 : Array Value} (hw : ∀ d ∈ tables_1, d.before a0 Z = true) : Jvm.Cond.before (Jvm.Cond.methodLink "java/lang/String" (54 : Nat) ({ cls := "java/util/Arrays", name := "copyOfRange", desc := "([BII)[B" } : Jvm.MethodName)) a0 Z = true := hw _ (List.mem_of_getElem? (i := 139) rfl)
theorem w140 {Z : State} {a0 : Array Value} (hw : ∀ d ∈ tables_1, d.before a0 Z = true) : Jvm.Cond.before (Jvm.Cond.static ({ cls := "java/util/Arrays", name := "copyOfRange", desc := "([BII)[B" } : Jvm.MethodName)) a0 Z = true := hw _ (List.mem_of_getElem? (i := 140) rfl)
theorem w141 {Z : State} {a0 : Array Value} (hw : ∀ d ∈ tables_1, d.before a0 Z = true) : Jvm.Cond.before (Jvm.Cond.initialized "java/util/Arrays") a0 Z = true := hw _ (List.mem_of_getElem? (i := 141) rfl)
theorem w142 {Z : State} {a0 : Array Value} (hw : ∀ d ∈ tables_1, d.before a0 Z = true) : Jvm.Cond.before (Jvm.Cond.code ({ cls := "java/util/Arrays", name := "copyOfRange", desc := "([BII)[B" } : Jvm.MethodName) jdk_65_method_132_code (3 : Nat) (Option.some (Jvm.ClassFile.FieldType.array Jvm.ClassFile.FieldType.byte))) a0 Z = true := hw _ (List.mem_of_getElem? (i := 142) rfl)
theorem w143 {Z : State} {a0 : Array Value} (hw : ∀ d ∈ tables_1, d.before a0 Z = true) : Jvm.Cond.before (Jvm.Cond.methodLink "java/util/Arrays" (339 : Nat) ({ cls := "java/util/Arrays", name := "copyOfRangeByte", desc := "([BII)[B" } : Jvm.MethodName)) a0 Z = true := hw _ (List.mem_of_getElem? (i := 143) rfl)
theorem w144 {Z : State} {a0 : Array Value} (hw : ∀ d ∈ tables_1, d.before a0 Z = true) : Jvm.Cond.before (Jvm.Cond.static ({ cls := "java/util/Arrays", name := "copyOfRangeByte", desc := "([BII)[B" } : Jvm.MethodName)) a0 Z = true := hw _ (List.mem_of_getElem? (i := 144) rfl)
theorem w145 {Z : State} {a0 : Array Value} (hw : ∀ d ∈ tables_1, d.before a0 Z = true) : Jvm.Cond.before (Jvm.Cond.code ({ cls := "java/util/Arrays", name := "copyOfRangeByte", desc := "([BII)[B" } : Jvm.MethodName) jdk_65_method_133_code (5 : Nat) (Option.some (Jvm.ClassFile.FieldType.array Jvm.ClassFile.FieldType.byte))) a0 Z = true := hw _ (List.mem_of_getElem? (i := 145) rfl)
theorem w146 {Z : State} {a0 : Array Value} (hw : ∀ d ∈ tables_1, d.before a0 Z = true) : Jvm.Cond.before (Jvm.Cond.methodLink "java/util/Arrays" (343 : Nat) ({ cls := "java/util/Arrays", name := "checkLength", desc := "(II)V" } : Jvm.MethodName)) a0 Z = true := hw _ (List.mem_of_getElem? (i := 146) rfl)
theorem w147 {Z : State} {a0 : Array Value} (hw : ∀ d ∈ tables_1, d.before a0 Z = true) : Jvm.Cond.before (Jvm.Cond.static ({ cls := "java/util/Arrays", name := "checkLength", desc := "(II)V" } : Jvm.MethodName)) a0 Z = true := hw _ (List.mem_of_getElem? (i := 147) rfl)
theorem w148 {Z : State} {a0 : Array Value} (hw : ∀ d ∈ tables_1, d.before a0 Z = true) : Jvm.Cond.before (Jvm.Cond.code ({ cls := "java/util/Arrays", name := "checkLength", desc := "(II)V" } : Jvm.MethodName) jdk_65_method_131_code (2 : Nat) (Option.none : Option Jvm.ClassFile.FieldType)) a0 Z = true := hw _ (List.mem_of_getElem? (i := 148) rfl)
theorem w149 {Z : State} {a0 : Array Value} (hw : ∀ d ∈ tables_1, d.before a0 Z = true) : Jvm.Cond.before (Jvm.Cond.methodLink "java/util/Arrays" (304 : Nat) ({ cls := "java/lang/Math", name := "min", desc := "(II)I" } : Jvm.MethodName)) a0 Z = true := hw _ (List.mem_of_getElem? (i := 149) rfl)
theorem w150 {Z : State} {a0 : Array Value} (hw : ∀ d ∈ tables_1, d.before a0 Z = true) : Jvm.Cond.before (Jvm.Cond.static ({ cls := "java/lang/Math", name := "min", desc := "(II)I" } : Jvm.MethodName)) a0 Z = true := hw _ (List.mem_of_getElem? (i := 150) rfl)
theorem w151 {Z : State} {a0 : Array Value} (hw : ∀ d ∈ tables_1, d.before a0 Z = true) : Jvm.Cond.before (Jvm.Cond.initialized "java/lang/Math") a0 Z = true := hw _ (List.mem_of_getElem? (i := 151) rfl)
theorem w152 {Z : State} {a0 : Array Value} (hw : ∀ d ∈ tables_1, d.before a0 Z = true) : Jvm.Cond.before (Jvm.Cond.code ({ cls := "java/lang/Math", name := "min", desc := "(II)I" } : Jvm.MethodName) jdk_29_method_69_code (2 : Nat) (Option.some Jvm.ClassFile.FieldType.int)) a0 Z = true := hw _ (List.mem_of_getElem? (i := 152) rfl)
theorem w153 {Z : State} {a0 : Array Value} (hw : ∀ d ∈ tables_1, d.before a0 Z = true) : Jvm.Cond.before (Jvm.Cond.methodLink "java/util/Arrays" (150 : Nat) ({ cls := "java/lang/System", name := "arraycopy", desc := "(Ljava/lang/Object;ILjava/lang/Object;II)V" } : Jvm.MethodName)) a0 Z = true := hw _ (List.mem_of_getElem? (i := 153) rfl)
theorem w154 {Z : State} {a0 : Array Value} (hw : ∀ d ∈ tables_1, d.before a0 Z = true) : Jvm.Cond.before (Jvm.Cond.methodLink "com/example/linewire/linewire/SchemaViolationToStringPinLaw" (39 : Nat) ({ cls := "java/lang/String", name := "length", desc := "()I" } : Jvm.MethodName)) a0 Z = true := hw _ (List.mem_of_getElem? (i := 154) rfl)
theorem w155 {Z : State} {a0 : Array Value} (hw : ∀ d ∈ tables_1, d.before a0 Z = true) : Jvm.Cond.before (Jvm.Cond.methodLink "com/example/linewire/linewire/SchemaViolationToStringPinLaw" (43 : Nat) ({ cls := "com/example/linewire/linewire/SchemaViolationToStringPinLaw", name := "check", desc := "(Ljava/lang/String;IIICCCC)Z" } : Jvm.MethodName)) a0 Z = true := hw _ (List.mem_of_getElem? (i := 155) rfl)
theorem w156 {Z : State} {a0 : Array Value} (hw : ∀ d ∈ tables_1, d.before a0 Z = true) : Jvm.Cond.before (Jvm.Cond.static ({ cls := "com/example/linewire/linewire/SchemaViolationToStringPinLaw", name := "check", desc := "(Ljava/lang/String;IIICCCC)Z" } : Jvm.MethodName)) a0 Z = true := hw _ (List.mem_of_getElem? (i := 156) rfl)
theorem w157 {Z : State} {a0 : Array Value} (hw : ∀ d ∈ tables_1, d.before a0 Z = true) : Jvm.Cond.before (Jvm.Cond.code ({ cls := "com/example/linewire/linewire/SchemaViolationToStringPinLaw", name := "check", desc := "(Ljava/lang/String;IIICCCC)Z" } : Jvm.MethodName) method_4_code (8 : Nat) (Option.some Jvm.ClassFile.FieldType.boolean)) a0 Z = true := hw _ (List.mem_of_getElem? (i := 157) rfl)
theorem w158 {Z : State} {a0 : Array Value} (hw : ∀ d ∈ tables_1, d.before a0 Z = true) : Jvm.Cond.before (Jvm.Cond.methodLink "com/example/linewire/linewire/SchemaViolationToStringPinLaw" (16 : Nat) ({ cls := "java/lang/String", name := "charAt", desc := "(I)C" } : Jvm.MethodName)) a0 Z = true := hw _ (List.mem_of_getElem? (i := 158) rfl)
theorem w159 {Z : State} {a0 : Array Value} (hw : ∀ d ∈ tables_1, d.before a0 Z = true) : Jvm.Cond.before (Jvm.Cond.declares ({ cls := "java/lang/String", name := "charAt", desc := "(I)C" } : Jvm.MethodName)) a0 Z = true := hw _ (List.mem_of_getElem? (i := 159) rfl)
theorem w160 {Z : State} {a0 : Array Value} (hw : ∀ d ∈ tables_1, d.before a0 Z = true) : Jvm.Cond.before (Jvm.Cond.instanceMethod ({ cls := "java/lang/String", name := "charAt", desc := "(I)C" } : Jvm.MethodName)) a0 Z = true := hw _ (List.mem_of_getElem? (i := 160) rfl)
theorem w161 {Z : State} {a0 : Array Value} (hw : ∀ d ∈ tables_1, d.before a0 Z = true) : Jvm.Cond.before (Jvm.Cond.selects "java/lang/String" ({ cls := "java/lang/String", name := "charAt", desc := "(I)C" } : Jvm.MethodName) ({ cls := "java/lang/String", name := "charAt", desc := "(I)C" } : Jvm.MethodName)) a0 Z = true := hw _ (List.mem_of_getElem? (i := 161) rfl)
theorem w162 {Z : State} {a0 : Array Value} (hw : ∀ d ∈ tables_1, d.before a0 Z = true) : Jvm.Cond.before (Jvm.Cond.code ({ cls := "java/lang/String", name := "charAt", desc := "(I)C" } : Jvm.MethodName) jdk_42_method_56_code (2 : Nat) (Option.some Jvm.ClassFile.FieldType.char)) a0 Z = true := hw _ (List.mem_of_getElem? (i := 162) rfl)
theorem w163 {Z : State} {a0 : Array Value} (hw : ∀ d ∈ tables_1, d.before a0 Z = true) : Jvm.Cond.before (Jvm.Cond.methodLink "java/lang/String" (492 : Nat) ({ cls := "java/lang/String", name := "isLatin1", desc := "()Z" } : Jvm.MethodName)) a0 Z = true := hw _ (List.mem_of_getElem? (i := 163) rfl)
theorem w164 {Z : State} {a0 : Array Value} (hw : ∀ d ∈ tables_1, d.before a0 Z = true) : Jvm.Cond.before (Jvm.Cond.declares ({ cls := "java/lang/String", name := "isLatin1", desc := "()Z" } : Jvm.MethodName)) a0 Z = true := hw _ (List.mem_of_getElem? (i := 164) rfl)
theorem w165 {Z : State} {a0 : Array Value} (hw : ∀ d ∈ tables_1, d.before a0 Z = true) : Jvm.Cond.before (Jvm.Cond.instanceMethod ({ cls := "java/lang/String", name := "isLatin1", desc := "()Z" } : Jvm.MethodName)) a0 Z = true := hw _ (List.mem_of_getElem? (i := 165) rfl)
theorem w166 {Z : State} {a0 : Array Value} (hw : ∀ d ∈ tables_1, d.before a0 Z = true) : Jvm.Cond.before (Jvm.Cond.selects "java/lang/String" ({ cls := "java/lang/String", name := "isLatin1", desc := "()Z" } : Jvm.MethodName) ({ cls := "java/lang/String", name := "isLatin1", desc := "()Z" } : Jvm.MethodName)) a0 Z = true := hw _ (List.mem_of_getElem? (i := 166) rfl)
theorem w167 {Z : State} {a0 : Array Value} (hw : ∀ d ∈ tables_1, d.before a0 Z = true) : Jvm.Cond.before (Jvm.Cond.code ({ cls := "java/lang/String", name := "isLatin1", desc := "()Z" } : Jvm.MethodName) jdk_42_method_154_code (1 : Nat) (Option.some Jvm.ClassFile.FieldType.boolean)) a0 Z = true := hw _ (List.mem_of_getElem? (i := 167) rfl)
theorem w168 {Z : State} {a0 : Array Value} (hw : ∀ d ∈ tables_1, d.before a0 Z = true) : Jvm.Cond.before (Jvm.Cond.methodLink "java/lang/String" (495 : Nat) ({ cls := "java/lang/StringLatin1", name := "charAt", desc := "([BI)C" } : Jvm.MethodName)) a0 Z = true := hw _ (List.mem_of_getElem? (i := 168) rfl)
theorem w169 {Z : State} {a0 : Array Value} (hw : ∀ d ∈ tables_1, d.before a0 Z = true) : Jvm.Cond.before (Jvm.Cond.static ({ cls := "java/lang/StringLatin1", name := "charAt", desc := "([BI)C" } : Jvm.MethodName)) a0 Z = true := hw _ (List.mem_of_getElem? (i := 169) rfl)
theorem w170 {Z : State} {a0 : Array Value} (hw : ∀ d ∈ tables_1, d.before a0 Z = true) : Jvm.Cond.before (Jvm.Cond.initialized "java/lang/StringLatin1") a0 Z = true := hw _ (List.mem_of_getElem? (i := 170) rfl)
theorem w171 {Z : State} {a0 : Array Value} (hw : ∀ d ∈ tables_1, d.before a0 Z = true) : Jvm.Cond.before (Jvm.Cond.code ({ cls := "java/lang/StringLatin1", name := "charAt", desc := "([BI)C" } : Jvm.MethodName) jdk_43_method_2_code (2 : Nat) (Option.some Jvm.ClassFile.FieldType.char)) a0 Z = true := hw _ (List.mem_of_getElem? (i := 171) rfl)
theorem w172 {Z : State} {a0 : Array Value} (hw : ∀ d ∈ tables_1, d.before a0 Z = true) : Jvm.Cond.before (Jvm.Cond.methodLink "java/lang/StringLatin1" (9 : Nat) ({ cls := "java/lang/String", name := "checkIndex", desc := "(II)V" } : Jvm.MethodName)) a0 Z = true := hw _ (List.mem_of_getElem? (i := 172) rfl)
theorem w173 {Z : State} {a0 : Array Value} (hw : ∀ d ∈ tables_1, d.before a0 Z = true) : Jvm.Cond.before (Jvm.Cond.static ({ cls := "java/lang/String", name := "checkIndex", desc := "(II)V" } : Jvm.MethodName)) a0 Z = true := hw _ (List.mem_of_getElem? (i := 173) rfl)
theorem w174 {Z : State} {a0 : Array Value} (hw : ∀ d ∈ tables_1, d.before a0 Z = true) : Jvm.Cond.before (Jvm.Cond.code ({ cls := "java/lang/String", name := "checkIndex", desc := "(II)V" } : Jvm.MethodName) jdk_42_method_155_code (2 : Nat) (Option.none : Option Jvm.ClassFile.FieldType)) a0 Z = true := hw _ (List.mem_of_getElem? (i := 174) rfl)
theorem w175 {Z : State} {a0 : Array Value} (hw : ∀ d ∈ tables_1, d.before a0 Z = true) : Jvm.Cond.before (Jvm.Cond.fieldLink "java/lang/String" (1053 : Nat) "jdk/internal/util/Preconditions" "SIOOBE_FORMATTER" "Ljava/util/function/BiFunction;") a0 Z = true := hw _ (List.mem_of_getElem? (i := 175) rfl)
theorem w176 {Z : State} {a0 : Array Value} (hw : ∀ d ∈ tables_1, d.before a0 Z = true) : Jvm.Cond.before (Jvm.Cond.initialized "jdk/internal/util/Preconditions") a0 Z = true := hw _ (List.mem_of_getElem? (i := 176) rfl)
theorem w177 {Z : State} {a0 : Array Value} (hw : ∀ d ∈ tables_1, d.before a0 Z = true) : Jvm.Cond.before (Jvm.Cond.methodLink "java/lang/String" (1059 : Nat) ({ cls := "jdk/internal/util/Preconditions", name := "checkIndex", desc := "(IILjava/util/function/BiFunction;)I" } : Jvm.MethodName)) a0 Z = true := hw _ (List.mem_of_getElem? (i := 177) rfl)
theorem w178 {Z : State} {a0 : Array Value} (hw : ∀ d ∈ tables_1, d.before a0 Z = true) : Jvm.Cond.before (Jvm.Cond.static ({ cls := "jdk/internal/util/Preconditions", name := "checkIndex", desc := "(IILjava/util/function/BiFunction;)I" } : Jvm.MethodName)) a0 Z = true := hw _ (List.mem_of_getElem? (i := 178) rfl)
theorem w179 {Z : State} {a0 : Array Value} (hw : ∀ d ∈ tables_1, d.before a0 Z = true) : Jvm.Cond.before (Jvm.Cond.code ({ cls := "jdk/internal/util/Preconditions", name := "checkIndex", desc := "(IILjava/util/function/BiFunction;)I" } : Jvm.MethodName) jdk_41_method_11_code (3 : Nat) (Option.some Jvm.ClassFile.FieldType.int)) a0 Z = true := hw _ (List.mem_of_getElem? (i := 179) rfl)
theorem w180 {Z : State} {a0 : Array Value} (hw : ∀ d ∈ tables_1, d.before a0 Z = true) : Jvm.Cond.before (Jvm.Cond.methodLink "com/example/linewire/linewire/SchemaViolationToStringPinLaw" (20 : Nat) ({ cls := "com/example/linewire/linewire/SchemaViolationToStringPinLaw", name := "at", desc := "(IICCCC)C" } : Jvm.MethodName)) a0 Z = true := hw _ (List.mem_of_getElem? (i := 180) rfl)
theorem w181 {Z : State} {a0 : Array Value} (hw : ∀ d ∈ tables_1, d.before a0 Z = true) : Jvm.Cond.before (Jvm.Cond.static ({ cls := "com/example/linewire/linewire/SchemaViolationToStringPinLaw", name := "at", desc := "(IICCCC)C" } : Jvm.MethodName)) a0 Z = true := hw _ (List.mem_of_getElem? (i := 181) rfl)
theorem w182 {Z : State} {a0 : Array Value} (hw : ∀ d ∈ tables_1, d.before a0 Z = true) : Jvm.Cond.before (Jvm.Cond.code ({ cls := "com/example/linewire/linewire/SchemaViolationToStringPinLaw", name := "at", desc := "(IICCCC)C" } : Jvm.MethodName) method_3_code (7 : Nat) (Option.some Jvm.ClassFile.FieldType.char)) a0 Z = true := hw _ (List.mem_of_getElem? (i := 182) rfl)
theorem w193 {Z : State} {a0 : Array Value} (hw : ∀ d ∈ tables_1, d.before a0 Z = true) : Jvm.Cond.before (Jvm.Cond.methodLink "com/example/linewire/linewire/SchemaViolationToStringPinLaw" (12 : Nat) ({ cls := "java/lang/String", name := "valueOf", desc := "(C)Ljava/lang/String;" } : Jvm.MethodName)) a0 Z = true := hw _ (List.mem_of_getElem? (i := 193) rfl)
theorem w194 {Z : State} {a0 : Array Value} (hw : ∀ d ∈ tables_1, d.before a0 Z = true) : Jvm.Cond.before (Jvm.Cond.static ({ cls := "java/lang/String", name := "valueOf", desc := "(C)Ljava/lang/String;" } : Jvm.MethodName)) a0 Z = true := hw _ (List.mem_of_getElem? (i := 194) rfl)
theorem w195 {Z : State} {a0 : Array Value} (hw : ∀ d ∈ tables_1, d.before a0 Z = true) : Jvm.Cond.before (Jvm.Cond.code ({ cls := "java/lang/String", name := "valueOf", desc := "(C)Ljava/lang/String;" } : Jvm.MethodName) jdk_42_method_139_code (1 : Nat) (Option.some (Jvm.ClassFile.FieldType.object "java/lang/String"))) a0 Z = true := hw _ (List.mem_of_getElem? (i := 195) rfl)
theorem w196 {Z : State} {a0 : Array Value} (hw : ∀ d ∈ tables_1, d.before a0 Z = true) : Jvm.Cond.before (Jvm.Cond.methodLink "java/lang/String" (1015 : Nat) ({ cls := "java/lang/StringLatin1", name := "canEncode", desc := "(C)Z" } : Jvm.MethodName)) a0 Z = true := hw _ (List.mem_of_getElem? (i := 196) rfl)
theorem w197 {Z : State} {a0 : Array Value} (hw : ∀ d ∈ tables_1, d.before a0 Z = true) : Jvm.Cond.before (Jvm.Cond.static ({ cls := "java/lang/StringLatin1", name := "canEncode", desc := "(C)Z" } : Jvm.MethodName)) a0 Z = true := hw _ (List.mem_of_getElem? (i := 197) rfl)
theorem w198 {Z : State} {a0 : Array Value} (hw : ∀ d ∈ tables_1, d.before a0 Z = true) : Jvm.Cond.before (Jvm.Cond.code ({ cls := "java/lang/StringLatin1", name := "canEncode", desc := "(C)Z" } : Jvm.MethodName) jdk_43_method_3_code (1 : Nat) (Option.some Jvm.ClassFile.FieldType.boolean)) a0 Z = true := hw _ (List.mem_of_getElem? (i := 198) rfl)
theorem w199 {Z : State} {a0 : Array Value} (hw : ∀ d ∈ tables_1, d.before a0 Z = true) : Jvm.Cond.before (Jvm.Cond.classLink "java/lang/String" (10 : Nat) "java/lang/String") a0 Z = true := hw _ (List.mem_of_getElem? (i := 199) rfl)
theorem w200 {Z : State} {a0 : Array Value} (hw : ∀ d ∈ tables_1, d.before a0 Z = true) : Jvm.Cond.before (Jvm.Cond.methodLink "java/lang/String" (1018 : Nat) ({ cls := "java/lang/StringLatin1", name := "toBytes", desc := "(C)[B" } : Jvm.MethodName)) a0 Z = true := hw _ (List.mem_of_getElem? (i := 200) rfl)
theorem w201 {Z : State} {a0 : Array Value} (hw : ∀ d ∈ tables_1, d.before a0 Z = true) : Jvm.Cond.before (Jvm.Cond.static ({ cls := "java/lang/StringLatin1", name := "toBytes", desc := "(C)[B" } : Jvm.MethodName)) a0 Z = true := hw _ (List.mem_of_getElem? (i := 201) rfl)
theorem w202 {Z : State} {a0 : Array Value} (hw : ∀ d ∈ tables_1, d.before a0 Z = true) : Jvm.Cond.before (Jvm.Cond.code ({ cls := "java/lang/StringLatin1", name := "toBytes", desc := "(C)[B" } : Jvm.MethodName) jdk_43_method_46_code (1 : Nat) (Option.some (Jvm.ClassFile.FieldType.array Jvm.ClassFile.FieldType.byte))) a0 Z = true := hw _ (List.mem_of_getElem? (i := 202) rfl)
theorem w203 {Z : State} {a0 : Array Value} (hw : ∀ d ∈ tables_1, d.before a0 Z = true) : Jvm.Cond.before (Jvm.Cond.methodLink "java/lang/String" (209 : Nat) ({ cls := "java/lang/String", name := "<init>", desc := "([BB)V" } : Jvm.MethodName)) a0 Z = true := hw _ (List.mem_of_getElem? (i := 203) rfl)
theorem w204 {Z : State} {a0 : Array Value} (hw : ∀ d ∈ tables_1, d.before a0 Z = true) : Jvm.Cond.before (Jvm.Cond.instanceMethod ({ cls := "java/lang/String", name := "<init>", desc := "([BB)V" } : Jvm.MethodName)) a0 Z = true := hw _ (List.mem_of_getElem? (i := 204) rfl)
theorem w205 {Z : State} {a0 : Array Value} (hw : ∀ d ∈ tables_1, d.before a0 Z = true) : Jvm.Cond.before (Jvm.Cond.code ({ cls := "java/lang/String", name := "<init>", desc := "([BB)V" } : Jvm.MethodName) jdk_42_method_151_code (3 : Nat) (Option.none : Option Jvm.ClassFile.FieldType)) a0 Z = true := hw _ (List.mem_of_getElem? (i := 205) rfl)
def own_EL : List (String × Nat) := [("com/example/linewire/linewire/SchemaViolation", 23), ("java/lang/String", 7)]
theorem own_hEL {Z : State} {a0 : Array Value} (hw : ∀ d ∈ tables_1, d.before a0 Z = true) : EW Z a0 own_EL := EW.cons (w108 hw) (by decide) (EW.cons (w21 hw) (by decide) (EW.nil))
theorem own_wS {Z : State} {a0 : Array Value} (hw : ∀ d ∈ tables_1, d.before a0 Z = true) : ∀ d ∈ Bundle.stringAtoms, d.before a0 Z = true := fun d hd => hw d ((by decide +kernel : ∀ d ∈ Bundle.stringAtoms, d ∈ tables_1) d hd)
theorem pn_0 : plainName "java/lang/StringLatin1" = true := by first | (simp [plainName, overriddenIn]; done) | decide +kernel
theorem d39_0 : decode jdk_43_method_3_code 0 = .ok (.iload_n 0, 1) := by decide +kernel
theorem d39_1 : decode jdk_43_method_3_code 1 = .ok (.sipush 255, 3) := by decide +kernel
theorem d39_4 : decode jdk_43_method_3_code 4 = .ok (.if_icmp .gt 7, 3) := by decide +kernel
theorem d39_7 : decode jdk_43_method_3_code 7 = .ok (.iconst 1, 1) := by decide +kernel
theorem d39_8 : decode jdk_43_method_3_code 8 = .ok (.goto 4, 3) := by decide +kernel
theorem d39_12 : decode jdk_43_method_3_code 12 = .ok (.ireturn, 1) := by decide +kernel
def Q_own_can (Z : State) (z : Int32) (h0 : Heap) (n0 : Nat) (v : Option Value) (h : Heap) (L : List Loc) : Prop := v = some (.int (1 : Int32)) ∧ Fr n0 L ∧ h = h0
set_option maxRecDepth 65536 in
set_option maxHeartbeats 40000000 in
theorem own_can (l : Launch) (Z : State) (a0 : Array Value) (hw : ∀ d ∈ tables_1, d.before a0 Z = true) (ws : List Jvm.Cond) (z : Int32) (h0 : Heap) (n0 : Nat) (Z0 : n0 ≤ h0.size) (hz : ¬ (255 : Int32) < z) :
    MetFree l (⟨"java/lang/StringLatin1", "canEncode", "(C)Z"⟩ : MethodName) (head1 (Jvm.Cond.code (⟨"java/lang/StringLatin1", "canEncode", "(C)Z"⟩ : MethodName) jdk_43_method_3_code 1 (some .boolean) :: ws) ({ frames := 0, cells := 0, slots := 0, locals := 0 } : Room)) (fun ag U => ag = #[(.int z)] ∧ Z.Warmed39 U.vm ∧ U.heap = h0) (fun _ _ _ _ _ => True) (fun _ U o U' => ∃ v L, o = .returned v ∧ Q_own_can Z z h0 n0 v U'.heap L ∧ FrameEnd U o U' L ({ frames := 0, cells := 0, slots := 0, locals := 0 } : Room).cells ({ frames := 0, cells := 0, slots := 0, locals := 0 } : Room).slots) := by
  refine own_body (plainFor_of_name pn_0) ?_
  intro p e s m below meth c s₁ Bd hml hZ e0
  have hx := Bd.exec
  have hby := Bd.bytes
  have hlk : meth.locks = false := BodyLoose.notSynchronized Bd
  have hown : s.vm.findClass "java/lang/StringLatin1" = some m.cls := findClass_of_methodNamed Bd.named
  have hnm := (name_of_methodNamed Bd.named Bd.method).1
  have X0 : Stand p l e ({ frames := 0, cells := 0, slots := 0, locals := 0 } : Room) s m #[(.int z)] below meth c s₁ [] 0 0 := Stand.of_body Bd
  have N0 := Fr.nil n0
  have KP0 : Keep h0 h0 [] := Keep.refl h0 []
  refine own_cast (g' := (mkF m 0 #[.val (.int z)] [])) (by first | (simp [entryFrame, mkF, argsToLocals, own_cat_int, own_cat_long, own_cat_ref, own_cat_null]; done) | rfl) ?_
  refine own_step (T' := s₁) (g' := (mkF m 1 #[.val (.int z)] [(.int z)])) (fun _ q => XS.iloadN X0.here hx rfl (hb hby d39_0) rfl q) ?_
  refine own_step (T' := s₁) (g' := (mkF m 4 #[.val (.int z)] [(.int (255 : Int32)), (.int z)])) (fun _ q => XS.sipush X0.here hx rfl (hb hby d39_1) q) ?_
  have hc1 : ¬ ((255 : Int32) < z) := hz
  refine own_step (T' := s₁) (g' := (mkF m 7 #[.val (.int z)] [])) (fun _ q => XS.icmpNo X0.here hx rfl (hb hby d39_4) rfl (XT.ii_gt_f hc1) q) ?_
  refine own_step (T' := s₁) (g' := (mkF m 8 #[.val (.int z)] [(.int (1 : Int32))])) (fun _ q => XS.iconst X0.here hx rfl (hb hby d39_7) q) ?_
  refine own_step (T' := s₁) (g' := (mkF m 12 #[.val (.int z)] [(.int (1 : Int32))])) (fun _ q => XS.goto X0.here hx rfl (pc0 := 8) (pc' := 12) rfl (hb hby d39_8) (by decide) (by decide) q) ?_
  exact own_retN X0 hx Bd.returns (by simp) (hb hby d39_12) hlk ⟨rfl, N0, e0⟩ (by first | decide | (dsimp only; omega)) (by first | decide | (dsimp only; omega))
theorem d40_0 : decode jdk_43_method_46_code 0 = .ok (.iconst 1, 1) := by decide +kernel
theorem d40_1 : decode jdk_43_method_46_code 1 = .ok (.newarray .byte, 2) := by decide +kernel
theorem d40_3 : decode jdk_43_method_46_code 3 = .ok (.dup, 1) := by decide +kernel
theorem d40_4 : decode jdk_43_method_46_code 4 = .ok (.iconst 0, 1) := by decide +kernel
theorem d40_5 : decode jdk_43_method_46_code 5 = .ok (.iload_n 0, 1) := by decide +kernel
theorem d40_6 : decode jdk_43_method_46_code 6 = .ok (.i2b, 1) := by decide +kernel
theorem d40_7 : decode jdk_43_method_46_code 7 = .ok (.bastore, 1) := by decide +kernel
theorem d40_8 : decode jdk_43_method_46_code 8 = .ok (.areturn, 1) := by decide +kernel
def Q_own_tob1 (Z : State) (z : Int32) (h0 : Heap) (n0 : Nat) (v : Option Value) (h : Heap) (L : List Loc) : Prop := ∃ (t : Addr), ∃ (kb : ClassId), v = some (.ref t) ∧ Fr n0 L ∧ Keep h0 h [] ∧ h0.size ≤ t ∧ Arv Z h t kb .byte (1 : Int32) [(.int (StrChars.lo8 z))] (.int 0)
set_option maxRecDepth 65536 in
set_option maxHeartbeats 40000000 in
theorem own_tob1 (l : Launch) (Z : State) (a0 : Array Value) (hw : ∀ d ∈ tables_1, d.before a0 Z = true) (ws : List Jvm.Cond) (z : Int32) (h0 : Heap) (n0 : Nat) (Z0 : n0 ≤ h0.size)  :
    MetFree l (⟨"java/lang/StringLatin1", "toBytes", "(C)[B"⟩ : MethodName) (head1 (Jvm.Cond.code (⟨"java/lang/StringLatin1", "toBytes", "(C)[B"⟩ : MethodName) jdk_43_method_46_code 1 (some (.array .byte)) :: ws) ({ frames := 0, cells := 1, slots := 1, locals := 0 } : Room)) (fun ag U => ag = #[(.int z)] ∧ Z.Warmed39 U.vm ∧ U.heap = h0) (fun _ _ _ _ _ => True) (fun _ U o U' => ∃ v L, o = .returned v ∧ Q_own_tob1 Z z h0 n0 v U'.heap L ∧ FrameEnd U o U' L ({ frames := 0, cells := 1, slots := 1, locals := 0 } : Room).cells ({ frames := 0, cells := 1, slots := 1, locals := 0 } : Room).slots) := by
  refine own_body (plainFor_of_name pn_0) ?_
  intro p e s m below meth c s₁ Bd hml hZ e0
  have hx := Bd.exec
  have hby := Bd.bytes
  have hlk : meth.locks = false := BodyLoose.notSynchronized Bd
  have hown : s.vm.findClass "java/lang/StringLatin1" = some m.cls := findClass_of_methodNamed Bd.named
  have hnm := (name_of_methodNamed Bd.named Bd.method).1
  have X0 : Stand p l e ({ frames := 0, cells := 1, slots := 1, locals := 0 } : Room) s m #[(.int z)] below meth c s₁ [] 0 0 := Stand.of_body Bd
  have N0 := Fr.nil n0
  have KP0 : Keep h0 h0 [] := Keep.refl h0 []
  refine own_cast (g' := (mkF m 0 #[.val (.int z)] [])) (by first | (simp [entryFrame, mkF, argsToLocals, own_cat_int, own_cat_long, own_cat_ref, own_cat_null]; done) | rfl) ?_
  refine own_step (T' := s₁) (g' := (mkF m 1 #[.val (.int z)] [(.int (1 : Int32))])) (fun _ q => XS.iconst X0.here hx rfl (hb hby d40_0) q) ?_
  obtain ⟨T2, h2, k2, X2, e2, E2, A2, st2⟩ := newP X0 hx hZ (aty := .byte) (w22 hw) e0 (g := (mkF m 1 #[.val (.int z)] [(.int (1 : Int32))])) rfl (hb hby d40_1) rfl (by decide) (cap := 1) (by decide) (by first | decide | omega) (by first | decide | (dsimp only; omega)) (by first | decide | (dsimp only; omega))
  obtain ⟨b2, g2⟩ : ∃ z, z = h0.size := ⟨_, rfl⟩
  rw [← g2] at A2 st2
  have n0_3 : n0 ≤ b2 := Nat.le_trans Z0 (Nat.le_of_eq g2.symm)
  have sz0_4 := Nat.le_trans KP0.1 (Nat.le_of_eq g2.symm)
  have V2 : Arv Z h2 b2 k2 .byte (1 : Int32) [(.int (0 : Int32))] (.int (0 : Int32)) := (Arv.new A2 (by decide)).pad (pad_rep [] (.int (0 : Int32)) 1)
  have ltb2 := V2.lt
  refine own_step (T' := T2) (g' := (mkF m 3 #[.val (.int z)] [(.ref b2)])) st2 ?_
  refine own_step (T' := T2) (g' := (mkF m 4 #[.val (.int z)] [(.ref b2), (.ref b2)])) (fun _ q => XS.dup X2.here hx rfl (hb hby d40_3) rfl rfl q) ?_
  refine own_step (T' := T2) (g' := (mkF m 5 #[.val (.int z)] [(.int (0 : Int32)), (.ref b2), (.ref b2)])) (fun _ q => XS.iconst X2.here hx rfl (hb hby d40_4) q) ?_
  refine own_step (T' := T2) (g' := (mkF m 6 #[.val (.int z)] [(.int z), (.int (0 : Int32)), (.ref b2), (.ref b2)])) (fun _ q => XS.iloadN X2.here hx rfl (hb hby d40_5) rfl q) ?_
  refine own_step (T' := T2) (g' := (mkF m 7 #[.val (.int z)] [(.int (z.toInt8.toInt32)), (.int (0 : Int32)), (.ref b2), (.ref b2)])) (fun _ q => XT.i2b X2.here hx rfl (hb hby d40_6) rfl q) ?_
  rw [show (z.toInt8.toInt32) = (StrChars.lo8 z) from rfl]
  obtain ⟨T5, h5, X5, e5, W5, V5, st5⟩ := own_stB X2 hx hZ e2 V2 (j := (0 : Int32)) ⟨by decide, by decide⟩ (i := 0) rfl (Nat.le_of_ble_eq_true rfl) (g := (mkF m 7 #[.val (.int z)] [(.int (StrChars.lo8 z)), (.int (0 : Int32)), (.ref b2), (.ref b2)])) rfl rfl (hb hby d40_7)
  rw [show ((StrChars.lo8 z).toInt8.toInt32) = (StrChars.lo8 z) from (own_lo8lo8 z)] at V5
  replace V5 : Arv Z h5 b2 k2 .byte (1 : Int32) [(.int (StrChars.lo8 z))] (.int (0 : Int32)) := V5
  have N6 := Fr.snoc X5 N0 n0_3
  refine own_step (T' := T5) (g' := (mkF m 8 #[.val (.int z)] [(.ref b2)])) st5 ?_
  have c7 := ((KP0.ext E2).wr W5 (Or.inr sz0_4))
  exact own_retA X5 hx Bd.returns rfl rfl (hb hby d40_8) hlk (by rw [e5]; exact ⟨b2, k2, rfl, N6, c7, sz0_4, V5⟩) (by first | decide | (dsimp only; omega)) (by first | decide | (dsimp only; omega))
theorem pn_1 : plainName "java/lang/String" = true := by first | (simp [plainName, overriddenIn]; done) | decide +kernel
theorem d41_0 : decode jdk_42_method_151_code 0 = .ok (.aload_n 0, 1) := by decide +kernel
theorem d41_1 : decode jdk_42_method_151_code 1 = .ok (.invokespecial 1, 3) := by decide +kernel
theorem d41_4 : decode jdk_42_method_151_code 4 = .ok (.aload_n 0, 1) := by decide +kernel
theorem d41_5 : decode jdk_42_method_151_code 5 = .ok (.aload_n 1, 1) := by decide +kernel
theorem d41_6 : decode jdk_42_method_151_code 6 = .ok (.putfield 9, 3) := by decide +kernel
theorem d41_9 : decode jdk_42_method_151_code 9 = .ok (.aload_n 0, 1) := by decide +kernel
theorem d41_10 : decode jdk_42_method_151_code 10 = .ok (.iload_n 2, 1) := by decide +kernel
theorem d41_11 : decode jdk_42_method_151_code 11 = .ok (.putfield 15, 3) := by decide +kernel
theorem d41_14 : decode jdk_42_method_151_code 14 = .ok (.return_, 1) := by decide +kernel
def Q_own_newbb (Z : State) (a : Addr) (t : Addr) (h0 : Heap) (n0 : Nat) (v : Option Value) (h : Heap) (L : List Loc) : Prop := v = none ∧ Fr n0 L ∧ Keep h0 h [a] ∧ Exa Z h a "java/lang/String" ∧ Fld Z h a "java/lang/String" "value" "[B" (.ref t) ∧ Fld Z h a "java/lang/String" "coder" "B" (.int (0 : Int32))
set_option maxRecDepth 65536 in
set_option maxHeartbeats 40000000 in
theorem own_newbb (l : Launch) (Z : State) (a0 : Array Value) (hw : ∀ d ∈ tables_1, d.before a0 Z = true) (ws : List Jvm.Cond) (a : Addr) (t : Addr) (h0 : Heap) (n0 : Nat) (Z0 : n0 ≤ h0.size) (E_a : Exa Z h0 a "java/lang/String") (ge_a : n0 ≤ a) (F_value_a : Fld Z h0 a "java/lang/String" "value" "[B" .null) (F_coder_a : Fld Z h0 a "java/lang/String" "coder" "B" (.int (0 : Int32))) :
    MetFree l (⟨"java/lang/String", "<init>", "([BB)V"⟩ : MethodName) (head1 (Jvm.Cond.code (⟨"java/lang/String", "<init>", "([BB)V"⟩ : MethodName) jdk_42_method_151_code 3 none :: ws) ({ frames := 1, cells := 0, slots := 0, locals := 12 } : Room)) (fun ag U => ag = #[(.ref a), (.ref t), (.int (0 : Int32))] ∧ Z.Warmed39 U.vm ∧ U.heap = h0) (fun _ _ _ _ _ => True) (fun _ U o U' => ∃ v L, o = .returned v ∧ Q_own_newbb Z a t h0 n0 v U'.heap L ∧ FrameEnd U o U' L ({ frames := 1, cells := 0, slots := 0, locals := 12 } : Room).cells ({ frames := 1, cells := 0, slots := 0, locals := 12 } : Room).slots) := by
  refine own_body (plainFor_of_name pn_1) ?_
  intro p e s m below meth c s₁ Bd hml hZ e0
  have hx := Bd.exec
  have hby := Bd.bytes
  have hlk : meth.locks = false := BodyLoose.notSynchronized Bd
  have hown : s.vm.findClass "java/lang/String" = some m.cls := findClass_of_methodNamed Bd.named
  have hnm := (name_of_methodNamed Bd.named Bd.method).1
  have X0 : Stand p l e ({ frames := 1, cells := 0, slots := 0, locals := 12 } : Room) s m #[(.ref a), (.ref t), (.int (0 : Int32))] below meth c s₁ [] 0 0 := Stand.of_body Bd
  have N0 := Fr.nil n0
  have KP0 : Keep h0 h0 [a] := Keep.refl h0 [a]
  have lt_a := E_a.lt
  refine own_cast (g' := (mkF m 0 #[.val (.ref a), .val (.ref t), .val (.int (0 : Int32))] [])) (by first | (simp [entryFrame, mkF, argsToLocals, own_cat_int, own_cat_long, own_cat_ref, own_cat_null]; done) | rfl) ?_
  refine own_step (T' := s₁) (g' := (mkF m 1 #[.val (.ref a), .val (.ref t), .val (.int (0 : Int32))] [(.ref a)])) (fun _ q => XS.aloadN X0.here hx rfl (hb hby d41_0) rfl rfl q) ?_
  obtain ⟨T8, X8, e8, st8⟩ := initO X0 hx hZ hown (w18 hw) (w19 hw) (w20 hw) e0 (g := (mkF m 1 #[.val (.ref a), .val (.ref t), .val (.int (0 : Int32))] [(.ref a)])) rfl (by rw [hml]; rfl) rfl (hb hby d41_1) (Nat.le_of_ble_eq_true rfl) (W := 0) (by show 2 * 0 + _ ≤ _; exact Nat.le_of_eq rfl) (Nat.le_of_ble_eq_true rfl)
  refine own_step (T' := T8) (g' := (mkF m 4 #[.val (.ref a), .val (.ref t), .val (.int (0 : Int32))] [])) st8 ?_
  refine own_step (T' := T8) (g' := (mkF m 5 #[.val (.ref a), .val (.ref t), .val (.int (0 : Int32))] [(.ref a)])) (fun _ q => XS.aloadN X8.here hx rfl (hb hby d41_4) rfl rfl q) ?_
  refine own_step (T' := T8) (g' := (mkF m 6 #[.val (.ref a), .val (.ref t), .val (.int (0 : Int32))] [(.ref t), (.ref a)])) (fun _ q => XS.aloadN X8.here hx rfl (hb hby d41_5) rfl rfl q) ?_
  obtain ⟨T9, h9, X9, e9, W9, st9⟩ := putF X8 hx hZ hown (host := "") (Or.inl (w27 hw)) Via.refl e8 F_value_a E_a (Or.inr ⟨(w23 hw), rfl, hnm⟩) (w8 hw) (ty := (.array .byte)) (by decide) rfl rfl (g := (mkF m 6 #[.val (.ref a), .val (.ref t), .val (.int (0 : Int32))] [(.ref t), (.ref a)])) rfl rfl (hb hby d41_6)
  have F10 := F_value_a.same W9
  have N11 := Fr.snoc X9 N0 ge_a
  refine own_step (T' := T9) (g' := (mkF m 9 #[.val (.ref a), .val (.ref t), .val (.int (0 : Int32))] [])) st9 ?_
  refine own_step (T' := T9) (g' := (mkF m 10 #[.val (.ref a), .val (.ref t), .val (.int (0 : Int32))] [(.ref a)])) (fun _ q => XS.aloadN X9.here hx rfl (hb hby d41_9) rfl rfl q) ?_
  refine own_step (T' := T9) (g' := (mkF m 11 #[.val (.ref a), .val (.ref t), .val (.int (0 : Int32))] [(.int (0 : Int32)), (.ref a)])) (fun _ q => XS.iloadN X9.here hx rfl (hb hby d41_10) rfl q) ?_
  have c12 := (E_a.wr W9)
  have c13 := (F_coder_a.other W9 (Or.inr (RoadKit.slot_ne (t := .byte) (t' := (.array .byte)) (Or.inr (w24 hw)) (Or.inr (w23 hw)) (by decide) (by decide) (by decide))))
  obtain ⟨T14, h14, X14, e14, W14, st14⟩ := putFN X9 hx hZ hown (w28 hw) Via.refl e9 c13 c12 (Or.inr ⟨(w24 hw), rfl, hnm⟩) (w8 hw) (ty := .byte) (v' := (.int (0 : Int32))) (by decide) rfl rfl (g := (mkF m 11 #[.val (.ref a), .val (.ref t), .val (.int (0 : Int32))] [(.int (0 : Int32)), (.ref a)])) rfl rfl (hb hby d41_11)
  have F15 := c13.same W14
  have N16 := Fr.snoc X14 N11 ge_a
  refine own_step (T' := T14) (g' := (mkF m 14 #[.val (.ref a), .val (.ref t), .val (.int (0 : Int32))] [])) st14 ?_
  have c17 := ((KP0.wr W9 (Or.inl (List.mem_of_getElem? (i := 0) rfl))).wr W14 (Or.inl (List.mem_of_getElem? (i := 0) rfl)))
  have c18 := (c12.wr W14)
  have c19 := (F10.other W14 (Or.inr (RoadKit.slot_ne (t := (.array .byte)) (t' := .byte) (Or.inr (w23 hw)) (Or.inr (w24 hw)) (by decide) (by decide) (by decide))))
  exact own_retV X14 hx Bd.returns (hb hby d41_14) hlk (by rw [e14]; exact ⟨rfl, N16, c17, c18, c19, F15⟩) (by first | decide | (dsimp only; omega)) (by first | decide | (dsimp only; omega))
theorem pd_0 : parseMethodDescriptor "(C)Z" = some ⟨[.char], some .boolean⟩ := by decide +kernel
theorem pd_1 : parseMethodDescriptor "(C)[B" = some ⟨[.char], some (.array .byte)⟩ := by decide +kernel
theorem pd_2 : parseMethodDescriptor "([BB)V" = some ⟨[(.array .byte), .byte], none⟩ := by decide +kernel
theorem d38_0 : decode jdk_42_method_139_code 0 = .ok (.getstatic 38, 3) := by decide +kernel
theorem d38_3 : decode jdk_42_method_139_code 3 = .ok (.ifCond .eq 23, 3) := by decide +kernel
theorem d38_6 : decode jdk_42_method_139_code 6 = .ok (.iload_n 0, 1) := by decide +kernel
theorem d38_7 : decode jdk_42_method_139_code 7 = .ok (.invokestatic 1015, 3) := by decide +kernel
theorem d38_10 : decode jdk_42_method_139_code 10 = .ok (.ifCond .eq 16, 3) := by decide +kernel
theorem d38_13 : decode jdk_42_method_139_code 13 = .ok (.new 10, 3) := by decide +kernel
theorem d38_16 : decode jdk_42_method_139_code 16 = .ok (.dup, 1) := by decide +kernel
theorem d38_17 : decode jdk_42_method_139_code 17 = .ok (.iload_n 0, 1) := by decide +kernel
theorem d38_18 : decode jdk_42_method_139_code 18 = .ok (.invokestatic 1018, 3) := by decide +kernel
theorem d38_21 : decode jdk_42_method_139_code 21 = .ok (.iconst 0, 1) := by decide +kernel
theorem d38_22 : decode jdk_42_method_139_code 22 = .ok (.invokespecial 209, 3) := by decide +kernel
theorem d38_25 : decode jdk_42_method_139_code 25 = .ok (.areturn, 1) := by decide +kernel
def Q_own_vof (Z : State) (G1 : Int32) (G3 : Value) (z : Int32) (h0 : Heap) (n0 : Nat) (v : Option Value) (h : Heap) (L : List Loc) : Prop := ∃ (a : Addr), ∃ (t : Addr), ∃ (kb : ClassId), v = some (.ref a) ∧ Fr n0 L ∧ Keep h0 h [] ∧ h0.size ≤ a ∧ h0.size ≤ t ∧ Exa Z h a "java/lang/String" ∧ Fld Z h a "java/lang/String" "value" "[B" (.ref t) ∧ Fld Z h a "java/lang/String" "coder" "B" (.int (0 : Int32)) ∧ Arv Z h t kb .byte (1 : Int32) [(.int (StrChars.lo8 z))] (.int 0)
set_option maxRecDepth 65536 in
set_option maxHeartbeats 40000000 in
theorem own_vof (l : Launch) (Z : State) (a0 : Array Value) (hw : ∀ d ∈ tables_1, d.before a0 Z = true) (ws : List Jvm.Cond) (G1 : Int32) (G3 : Value) (z : Int32) (h0 : Heap) (n0 : Nat) (Z0 : n0 ≤ h0.size) (O2 : Sta Z Z.heap "java/lang/String" "COMPACT_STRINGS" "Z" (.int G1)) (O4 : Sta Z Z.heap "jdk/internal/util/Preconditions" "SIOOBE_FORMATTER" "Ljava/util/function/BiFunction;" G3) (P5 : ¬ (G1 = (0 : Int32))) (rG3 : G3.isRef = true) (OLD0 : Old Z n0 h0) (hz : ¬ (255 : Int32) < z) :
    MetFree l (⟨"java/lang/String", "valueOf", "(C)Ljava/lang/String;"⟩ : MethodName) (head1 (Jvm.Cond.code (⟨"java/lang/String", "valueOf", "(C)Ljava/lang/String;"⟩ : MethodName) jdk_42_method_139_code 1 (some (.object "java/lang/String")) :: ws) ({ frames := 2, cells := 2, slots := 5, locals := 27 } : Room)) (fun ag U => ag = #[(.int z)] ∧ Z.Warmed39 U.vm ∧ U.heap = h0) (fun _ _ _ _ _ => True) (fun _ U o U' => ∃ v L, o = .returned v ∧ Q_own_vof Z G1 G3 z h0 n0 v U'.heap L ∧ FrameEnd U o U' L ({ frames := 2, cells := 2, slots := 5, locals := 27 } : Room).cells ({ frames := 2, cells := 2, slots := 5, locals := 27 } : Room).slots) := by
  refine own_body (plainFor_of_name pn_1) ?_
  intro p e s m below meth c s₁ Bd hml hZ e0
  have hx := Bd.exec
  have hby := Bd.bytes
  have hlk : meth.locks = false := BodyLoose.notSynchronized Bd
  have hown : s.vm.findClass "java/lang/String" = some m.cls := findClass_of_methodNamed Bd.named
  have hnm := (name_of_methodNamed Bd.named Bd.method).1
  have X0 : Stand p l e ({ frames := 2, cells := 2, slots := 5, locals := 27 } : Room) s m #[(.int z)] below meth c s₁ [] 0 0 := Stand.of_body Bd
  have N0 := Fr.nil n0
  have KP0 : Keep h0 h0 [] := Keep.refl h0 []
  refine own_cast (g' := (mkF m 0 #[.val (.int z)] [])) (by first | (simp [entryFrame, mkF, argsToLocals, own_cat_int, own_cat_long, own_cat_ref, own_cat_null]; done) | rfl) ?_
  obtain ⟨T20, X20, e20, st20⟩ := getS2 X0 hx hZ hown (host := "") (Or.inl (w80 hw)) Via.refl e0 (O2.ext OLD0.2) (g := (mkF m 0 #[.val (.int z)] [])) rfl (hb hby d38_0)
  refine own_step (T' := T20) (g' := (mkF m 3 #[.val (.int z)] [(.int G1)])) st20 ?_
  have hc21 : ¬ (G1 = 0) := P5
  refine own_step (T' := T20) (g' := (mkF m 6 #[.val (.int z)] [])) (fun _ q => XS.ifNo X20.here hx rfl (hb hby d38_3) rfl (XT.i0_eq_f hc21) q) ?_
  refine own_step (T' := T20) (g' := (mkF m 7 #[.val (.int z)] [(.int z)])) (fun _ q => XS.iloadN X20.here hx rfl (hb hby d38_6) rfl q) ?_
  refine own_callS X20 hx hZ hown (w196 hw) (w197 hw) (w170 hw) (w198 hw) (by decide) (backOf (W := 0) (own_can l Z a0 hw [] z h0 n0 Z0 hz) hZ (w198 hw) (w170 hw) (Nat.le_of_ble_eq_true rfl) (Nat.le_of_ble_eq_true rfl)) e20  (by first | decide | (dsimp only; omega)) (by first | decide | (dsimp only; omega)) (g := (mkF m 7 #[.val (.int z)] [(.int z)])) (argsL := [(.int z)]) (rest := []) rfl (by rw [hml]; rfl) (lenOf pd_0 rfl) rfl rfl (by show 2 * 0 + _ ≤ _; exact Nat.le_of_eq rfl) (hb hby d38_7) ?_
  rintro _ T22 L22 X22 ⟨rfl, N22q, e22⟩
  have N23 := Fr.app N0 N22q
  show own_Fin p e below _ T22 (mkF m 10 #[.val (.int z)] [(.int (1 : Int32))])
  refine own_step (T' := T22) (g' := (mkF m 13 #[.val (.int z)] [])) (fun _ q => XS.ifNo X22.here hx rfl (hb hby d38_10) rfl (by decide) q) ?_
  obtain ⟨T24, h24, X24, e24, E24, A24, D24, -, st24⟩ := newO X22 hx hZ hown (w199 hw) (w8 hw) (w9 hw) e22 (g := (mkF m 13 #[.val (.int z)] [])) rfl (hb hby d38_13) (by first | decide | (dsimp only; omega)) (by first | decide | (dsimp only; omega))
  obtain ⟨b24, g24⟩ : ∃ z, z = h0.size := ⟨_, rfl⟩
  rw [← g24] at A24 D24 st24
  have n0_25 : n0 ≤ b24 := Nat.le_trans Z0 (Nat.le_of_eq g24.symm)
  have sz0_26 := Nat.le_trans KP0.1 (Nat.le_of_eq g24.symm)
  have ltb24 := A24.lt
  have F27 : Fld Z h24 b24 "java/lang/String" "value" "[B" .null := D24 (Or.inr (w23 hw)) (ty := (.array .byte)) (by decide)
  have F28 : Fld Z h24 b24 "java/lang/String" "coder" "B" (.int (0 : Int32)) := D24 (Or.inr (w24 hw)) (ty := .byte) (by decide)
  refine own_step (T' := T24) (g' := (mkF m 16 #[.val (.int z)] [(.ref b24)])) st24 ?_
  refine own_step (T' := T24) (g' := (mkF m 17 #[.val (.int z)] [(.ref b24), (.ref b24)])) (fun _ q => XS.dup X24.here hx rfl (hb hby d38_16) rfl rfl q) ?_
  refine own_step (T' := T24) (g' := (mkF m 18 #[.val (.int z)] [(.int z), (.ref b24), (.ref b24)])) (fun _ q => XS.iloadN X24.here hx rfl (hb hby d38_17) rfl q) ?_
  have c29 := (Nat.le_trans Z0 E24.1)
  refine own_callS X24 hx hZ hown (w200 hw) (w201 hw) (w170 hw) (w202 hw) (by decide) (backOf (W := 2) (own_tob1 l Z a0 hw [] z h24 n0 c29 ) hZ (w202 hw) (w170 hw) (Nat.le_of_ble_eq_true rfl) (Nat.le_of_ble_eq_true rfl)) e24  (by first | decide | (dsimp only; omega)) (by first | decide | (dsimp only; omega)) (g := (mkF m 18 #[.val (.int z)] [(.int z), (.ref b24), (.ref b24)])) (argsL := [(.int z)]) (rest := [(.ref b24), (.ref b24)]) rfl (by rw [hml]; rfl) (lenOf pd_1 rfl) rfl rfl (by show 2 * 0 + _ ≤ _; exact Nat.le_of_eq rfl) (hb hby d38_18) ?_
  rintro _ T30 L30 X30 ⟨t30, kb30, rfl, N30q, K30, f0_30, f1_30⟩
  have n0_31 : n0 ≤ t30 := Nat.le_trans c29 f0_30
  have c32 := (KP0.ext E24)
  have sz0_33 := Nat.le_trans c32.1 f0_30
  have ne34 : b24 ≠ t30 := own_ne ltb24 f0_30
  have lt35 := f1_30.lt
  have N36 := Fr.app N23 N30q
  show own_Fin p e below _ T30 (mkF m 21 #[.val (.int z)] [(.ref t30), (.ref b24), (.ref b24)])
  refine own_step (T' := T30) (g' := (mkF m 22 #[.val (.int z)] [(.int (0 : Int32)), (.ref t30), (.ref b24), (.ref b24)])) (fun _ q => XS.iconst X30.here hx rfl (hb hby d38_21) q) ?_
  have c37 := (A24.keep K30)
  have c38 := (F27.keep K30 nin0)
  have c39 := (F28.keep K30 nin0)
  have c40 := (Nat.le_trans c29 K30.1)
  refine own_callC X30 hx hZ hown rfl (w203 hw) (w204 hw) (w205 hw) (by decide) (backOf (W := 1) (own_newbb l Z a0 hw [] b24 t30 T30.heap n0 c40 c37 n0_25 c38 c39) hZ (w205 hw) (w9 hw) (Nat.le_of_ble_eq_true rfl) (Nat.le_of_ble_eq_true rfl)) rfl  (by first | decide | (dsimp only; omega)) (by first | decide | (dsimp only; omega)) (g := (mkF m 22 #[.val (.int z)] [(.int (0 : Int32)), (.ref t30), (.ref b24), (.ref b24)])) (argsL := [(.ref t30), (.int (0 : Int32))]) (rest := [(.ref b24)]) rfl (by rw [hml]; rfl) (lenOf pd_2 rfl) rfl rfl (by show 2 * 0 + _ ≤ _; exact Nat.le_of_eq rfl) (hb hby d38_22) ?_
  rintro _ T41 L41 X41 ⟨rfl, N41q, K41, f0_41, f1_41, f2_41⟩
  have N42 := Fr.app N36 N41q
  show own_Fin p e below _ T41 (mkF m 25 #[.val (.int z)] [(.ref b24)])
  have c43 := ((c32.trans K30 all0).trans K41 (allS (Or.inr sz0_26) all0))
  have c44 := (f1_30.keep K41 (ninS (Ne.symm ne34) nin0))
  exact own_retA X41 hx Bd.returns rfl rfl (hb hby d38_25) hlk ⟨b24, t30, kb30, rfl, N42, c43, sz0_26, sz0_33, f0_41, f1_41, f2_41, c44⟩ (by first | decide | (dsimp only; omega)) (by first | decide | (dsimp only; omega))
theorem d3_0 : decode jdk_42_method_149_code 0 = .ok (.aload_n 0, 1) := by decide +kernel
theorem d3_1 : decode jdk_42_method_149_code 1 = .ok (.invokespecial 1, 3) := by decide +kernel
theorem d3_4 : decode jdk_42_method_149_code 4 = .ok (.iload_n 3, 1) := by decide +kernel
theorem d3_5 : decode jdk_42_method_149_code 5 = .ok (.ifCond .ne 22, 3) := by decide +kernel
theorem d3_8 : decode jdk_42_method_149_code 8 = .ok (.aload_n 0, 1) := by decide +kernel
theorem d3_9 : decode jdk_42_method_149_code 9 = .ok (.ldc 7, 2) := by decide +kernel
theorem d3_11 : decode jdk_42_method_149_code 11 = .ok (.getfield 9, 3) := by decide +kernel
theorem d3_14 : decode jdk_42_method_149_code 14 = .ok (.putfield 9, 3) := by decide +kernel
theorem d3_17 : decode jdk_42_method_149_code 17 = .ok (.aload_n 0, 1) := by decide +kernel
theorem d3_18 : decode jdk_42_method_149_code 18 = .ok (.ldc 7, 2) := by decide +kernel
theorem d3_20 : decode jdk_42_method_149_code 20 = .ok (.getfield 15, 3) := by decide +kernel
theorem d3_23 : decode jdk_42_method_149_code 23 = .ok (.putfield 15, 3) := by decide +kernel
theorem d3_26 : decode jdk_42_method_149_code 26 = .ok (.return_, 1) := by decide +kernel
def Q_own_new4e (Z : State) (G1 : Int32) (G3 : Value) (a : Addr) (b : Addr) (h0 : Heap) (n0 : Nat) (v : Option Value) (h : Heap) (L : List Loc) : Prop := ∃ (t : Addr), ∃ (kb : ClassId), v = none ∧ Fr n0 L ∧ Keep h0 h [a] ∧ Exa Z h a "java/lang/String" ∧ Fld Z h a "java/lang/String" "value" "[B" (.ref t) ∧ Fld Z h a "java/lang/String" "coder" "B" (.int (0 : Int32)) ∧ Arv Z h t kb .byte (0 : Int32) [] (.int 0)
set_option maxRecDepth 65536 in
set_option maxHeartbeats 40000000 in
theorem own_new4e (l : Launch) (Z : State) (a0 : Array Value) (hw : ∀ d ∈ tables_1, d.before a0 Z = true) (ws : List Jvm.Cond) (G1 : Int32) (G3 : Value) (a : Addr) (b : Addr) (h0 : Heap) (n0 : Nat) (Z0 : n0 ≤ h0.size) (O2 : Sta Z Z.heap "java/lang/String" "COMPACT_STRINGS" "Z" (.int G1)) (O4 : Sta Z Z.heap "jdk/internal/util/Preconditions" "SIOOBE_FORMATTER" "Ljava/util/function/BiFunction;" G3) (P5 : ¬ (G1 = (0 : Int32))) (rG3 : G3.isRef = true) (OLD0 : Old Z n0 h0) (E_a : Exa Z h0 a "java/lang/String") (ge_a : n0 ≤ a) (F_value_a : Fld Z h0 a "java/lang/String" "value" "[B" .null) (F_coder_a : Fld Z h0 a "java/lang/String" "coder" "B" (.int (0 : Int32))) :
    MetFree l (⟨"java/lang/String", "<init>", "([CIILjava/lang/Void;)V"⟩ : MethodName) (head1 (Jvm.Cond.code (⟨"java/lang/String", "<init>", "([CIILjava/lang/Void;)V"⟩ : MethodName) jdk_42_method_149_code 6 none :: ws) ({ frames := 1, cells := 4, slots := 8, locals := 12 } : Room)) (fun ag U => ag = #[(.ref a), (.ref b), (.int (0 : Int32)), (.int (0 : Int32)), .null] ∧ Z.Warmed39 U.vm ∧ U.heap = h0 ∧ CHv Z own_EL U.vm h0) (fun _ _ _ _ _ => True) (fun _ U o U' => ∃ v L, o = .returned v ∧ Q_own_new4e Z G1 G3 a b h0 n0 v U'.heap L ∧ CHr Z own_EL U.vm U.heap U'.vm U'.heap ∧ ReturnedEndW U o U' L ({ frames := 1, cells := 4, slots := 8, locals := 12 } : Room).cells ({ frames := 1, cells := 4, slots := 8, locals := 12 } : Room).slots) := by
  refine own_bodyW (plainFor_of_name pn_1) ?_
  intro p e s m below meth c s₁ Bd hml hZ e0 hh0 CH0
  have hx := Bd.exec
  have hby := Bd.bytes
  have hlk : meth.locks = false := BodyLoose.notSynchronized Bd
  have hown : s.vm.findClass "java/lang/String" = some m.cls := findClass_of_methodNamed Bd.named
  have hnm := (name_of_methodNamed Bd.named Bd.method).1
  have X0 : Stand p l e ({ frames := 1, cells := 4, slots := 8, locals := 12 } : Room) (s.setVm s.vm) m #[(.ref a), (.ref b), (.int (0 : Int32)), (.int (0 : Int32)), .null] below meth c s₁ [] 0 0 := Stand.of_body Bd
  have N0 := Fr.nil n0
  have hS := (State.WarmedH.refl s).since h0.size
  have hk0 : h0.size ≤ h0.size := Nat.le_refl _
  have KP0 : Keep h0 h0 [a] := Keep.refl h0 [a]
  have lt_a := E_a.lt
  refine own_cast (g' := (mkF m 0 #[.val (.ref a), .val (.ref b), .val (.int (0 : Int32)), .val (.int (0 : Int32)), .val .null, .unset] [])) (by first | (simp [entryFrame, mkF, argsToLocals, own_cat_int, own_cat_long, own_cat_ref, own_cat_null]; done) | rfl) ?_
  refine own_step (T' := s₁) (g' := (mkF m 1 #[.val (.ref a), .val (.ref b), .val (.int (0 : Int32)), .val (.int (0 : Int32)), .val .null, .unset] [(.ref a)])) (fun _ q => XS.aloadN X0.here hx rfl (hb hby d3_0) rfl rfl q) ?_
  obtain ⟨T45, X45, e45, st45⟩ := initO X0 hx hZ hown (w18 hw) (w19 hw) (w20 hw) e0 (g := (mkF m 1 #[.val (.ref a), .val (.ref b), .val (.int (0 : Int32)), .val (.int (0 : Int32)), .val .null, .unset] [(.ref a)])) rfl (by rw [hml]; rfl) rfl (hb hby d3_1) (Nat.le_of_ble_eq_true rfl) (W := 0) (by show 2 * 0 + _ ≤ _; exact Nat.le_of_eq rfl) (Nat.le_of_ble_eq_true rfl)
  refine own_step (T' := T45) (g' := (mkF m 4 #[.val (.ref a), .val (.ref b), .val (.int (0 : Int32)), .val (.int (0 : Int32)), .val .null, .unset] [])) st45 ?_
  refine own_step (T' := T45) (g' := (mkF m 5 #[.val (.ref a), .val (.ref b), .val (.int (0 : Int32)), .val (.int (0 : Int32)), .val .null, .unset] [(.int (0 : Int32))])) (fun _ q => XS.iloadN X45.here hx rfl (hb hby d3_4) rfl q) ?_
  refine own_step (T' := T45) (g' := (mkF m 8 #[.val (.ref a), .val (.ref b), .val (.int (0 : Int32)), .val (.int (0 : Int32)), .val .null, .unset] [])) (fun _ q => XS.ifNo X45.here hx rfl (hb hby d3_5) rfl (by decide) q) ?_
  refine own_step (T' := T45) (g' := (mkF m 9 #[.val (.ref a), .val (.ref b), .val (.int (0 : Int32)), .val (.int (0 : Int32)), .val .null, .unset] [(.ref a)])) (fun _ q => XS.aloadN X45.here hx rfl (hb hby d3_8) rfl rfl q) ?_
  obtain ⟨a46, T46, h46, k46, b46, kb46, X46, e46, E46, hS, hk46, hZ, hown, fE46, fC46, fV46, fA46, lta46, ltb46, C46, Li46, sf46, st46⟩ := ldcCH X45 hx hZ hown (w21 hw) (own_wS hw) e45 hS hk0 (own_hEL hw) (by decide) CH0.1 (vs := []) (z := (0 : Int32)) ⟨by decide, by decide⟩ (by decide) rfl (g := (mkF m 9 #[.val (.ref a), .val (.ref b), .val (.int (0 : Int32)), .val (.int (0 : Int32)), .val .null, .unset] [(.ref a)])) rfl (hb hby d3_9) (n := 0) (by decide) (by decide) (by first | decide | (dsimp only; omega)) (by first | decide | (dsimp only; omega))
  have CH47 := CH0.trans C46
  have c49 := (E_a.ext E46)
  have c50 := (F_value_a.ext E46)
  have sf48 := own_safe_null (EL := own_EL) hZ.alike c49 c50
  have ne51 := sf46 a sf48
  refine own_step (T' := T46) (g' := (mkF m 11 #[.val (.ref a), .val (.ref b), .val (.int (0 : Int32)), .val (.int (0 : Int32)), .val .null, .unset] [(.ref a46), (.ref a)])) st46 ?_
  obtain ⟨T52, X52, e52, st52⟩ := getF X46 hx hZ hown (host := "") (Or.inl (w27 hw)) Via.refl e46 fV46 (g := (mkF m 11 #[.val (.ref a), .val (.ref b), .val (.int (0 : Int32)), .val (.int (0 : Int32)), .val .null, .unset] [(.ref a46), (.ref a)])) rfl rfl (hb hby d3_11)
  refine own_step (T' := T52) (g' := (mkF m 14 #[.val (.ref a), .val (.ref b), .val (.int (0 : Int32)), .val (.int (0 : Int32)), .val .null, .unset] [(.ref b46), (.ref a)])) st52 ?_
  obtain ⟨T53, h53, X53, e53, W53, st53⟩ := putF X52 hx hZ hown (host := "") (Or.inl (w27 hw)) Via.refl e52 c50 c49 (Or.inr ⟨(w23 hw), rfl, hnm⟩) (w8 hw) (ty := (.array .byte)) (by decide) rfl rfl (g := (mkF m 14 #[.val (.ref a), .val (.ref b), .val (.int (0 : Int32)), .val (.int (0 : Int32)), .val .null, .unset] [(.ref b46), (.ref a)])) rfl rfl (hb hby d3_14)
  have F54 := c50.same W53
  have N55 := Fr.snoc X53 N0 ge_a
  have CH56 := CH47.trans (CHr.wr W53 sf48 CH47.1)
  refine own_step (T' := T53) (g' := (mkF m 17 #[.val (.ref a), .val (.ref b), .val (.int (0 : Int32)), .val (.int (0 : Int32)), .val .null, .unset] [])) st53 ?_
  refine own_step (T' := T53) (g' := (mkF m 18 #[.val (.ref a), .val (.ref b), .val (.int (0 : Int32)), .val (.int (0 : Int32)), .val .null, .unset] [(.ref a)])) (fun _ q => XS.aloadN X53.here hx rfl (hb hby d3_17) rfl rfl q) ?_
  have c58 := (Nat.le_trans hk46 (Keep.of_wr W53).1)
  obtain ⟨a57, T57, h57, k57, b57, kb57, X57, e57, E57, hS, hk57, hZ, hown, fE57, fC57, fV57, fA57, lta57, ltb57, C57, Li57, sf57, st57⟩ := ldcCH X53 hx hZ hown (w21 hw) (own_wS hw) e53 hS c58 (own_hEL hw) (by decide) CH56.1 (vs := []) (z := (0 : Int32)) ⟨by decide, by decide⟩ (by decide) rfl (g := (mkF m 18 #[.val (.ref a), .val (.ref b), .val (.int (0 : Int32)), .val (.int (0 : Int32)), .val .null, .unset] [(.ref a)])) rfl (hb hby d3_18) (n := 0) (by decide) (by decide) (by first | decide | (dsimp only; omega)) (by first | decide | (dsimp only; omega))
  have CH59 := CH56.trans C57
  have c60 := (CHr.safe C57 (own_lt (own_lt lt_a E46.1) (Keep.of_wr W53).1) (Safe.wr W53 sf48 CH47.1 sf48))
  have ne61 := sf57 a c60
  refine own_step (T' := T57) (g' := (mkF m 20 #[.val (.ref a), .val (.ref b), .val (.int (0 : Int32)), .val (.int (0 : Int32)), .val .null, .unset] [(.ref a57), (.ref a)])) st57 ?_
  obtain ⟨T62, X62, e62, st62⟩ := getF X57 hx hZ hown (host := "") (Or.inl (w28 hw)) Via.refl e57 fC57 (g := (mkF m 20 #[.val (.ref a), .val (.ref b), .val (.int (0 : Int32)), .val (.int (0 : Int32)), .val .null, .unset] [(.ref a57), (.ref a)])) rfl rfl (hb hby d3_20)
  refine own_step (T' := T62) (g' := (mkF m 23 #[.val (.ref a), .val (.ref b), .val (.int (0 : Int32)), .val (.int (0 : Int32)), .val .null, .unset] [(.int (0 : Int32)), (.ref a)])) st62 ?_
  have c63 := ((c49.wr W53).ext E57)
  have c64 := (((F_coder_a.ext E46).other W53 (Or.inr (RoadKit.slot_ne (t := .byte) (t' := (.array .byte)) (Or.inr (w24 hw)) (Or.inr (w23 hw)) (by decide) (by decide) (by decide)))).ext E57)
  obtain ⟨T65, h65, X65, e65, W65, st65⟩ := putFN X62 hx hZ hown (w28 hw) Via.refl e62 c64 c63 (Or.inr ⟨(w24 hw), rfl, hnm⟩) (w8 hw) (ty := .byte) (v' := (.int (0 : Int32))) (by decide) rfl rfl (g := (mkF m 23 #[.val (.ref a), .val (.ref b), .val (.int (0 : Int32)), .val (.int (0 : Int32)), .val .null, .unset] [(.int (0 : Int32)), (.ref a)])) rfl rfl (hb hby d3_23)
  have F66 := c64.same W65
  have N67 := Fr.snoc X65 N55 ge_a
  have CH68 := CH59.trans (CHr.wr W65 c60 CH59.1)
  refine own_step (T' := T65) (g' := (mkF m 26 #[.val (.ref a), .val (.ref b), .val (.int (0 : Int32)), .val (.int (0 : Int32)), .val .null, .unset] [])) st65 ?_
  have c69 := ((((KP0.ext E46).wr W53 (Or.inl (List.mem_of_getElem? (i := 0) rfl))).ext E57).wr W65 (Or.inl (List.mem_of_getElem? (i := 0) rfl)))
  have c70 := (c63.wr W65)
  have c71 := ((F54.ext E57).other W65 (Or.inr (RoadKit.slot_ne (t := (.array .byte)) (t' := .byte) (Or.inr (w23 hw)) (Or.inr (w24 hw)) (by decide) (by decide) (by decide))))
  have c72 := (((fA46.other W53 (Ne.symm ne51.2)).ext E57).other W65 (Ne.symm ne51.2))
  have c73 := (Nat.le_trans hk57 (Keep.of_wr W65).1)
  exact own_retVW X65 hx hZ (own_hEL hw) hS (by rw [e65]; exact c73) (by rw [e65]; exact CH68) Bd.returns (hb hby d3_26) hlk (by rw [e65]; exact ⟨b46, kb46, rfl, N67, c69, c70, c71, F66, c72⟩) (by first | decide | (dsimp only; omega)) (by first | decide | (dsimp only; omega))
theorem pd_3 : parseMethodDescriptor "([CIILjava/lang/Void;)V" = some ⟨[(.array .char), .int, .int, (.object "java/lang/Void")], none⟩ := by decide +kernel
theorem d2_0 : decode jdk_42_method_3_code 0 = .ok (.aload_n 0, 1) := by decide +kernel
theorem d2_1 : decode jdk_42_method_3_code 1 = .ok (.aload_n 1, 1) := by decide +kernel
theorem d2_2 : decode jdk_42_method_3_code 2 = .ok (.iconst 0, 1) := by decide +kernel
theorem d2_3 : decode jdk_42_method_3_code 3 = .ok (.aload_n 1, 1) := by decide +kernel
theorem d2_4 : decode jdk_42_method_3_code 4 = .ok (.arraylength, 1) := by decide +kernel
theorem d2_5 : decode jdk_42_method_3_code 5 = .ok (.aconst_null, 1) := by decide +kernel
theorem d2_6 : decode jdk_42_method_3_code 6 = .ok (.invokespecial 27, 3) := by decide +kernel
theorem d2_9 : decode jdk_42_method_3_code 9 = .ok (.return_, 1) := by decide +kernel
def Q_own_new1e (Z : State) (G1 : Int32) (G3 : Value) (a : Addr) (b : Addr) (kc : ClassId) (dv : Value) (h0 : Heap) (n0 : Nat) (v : Option Value) (h : Heap) (L : List Loc) : Prop := ∃ (t : Addr), ∃ (kb : ClassId), v = none ∧ Fr n0 L ∧ Keep h0 h [a] ∧ Exa Z h a "java/lang/String" ∧ Fld Z h a "java/lang/String" "value" "[B" (.ref t) ∧ Fld Z h a "java/lang/String" "coder" "B" (.int (0 : Int32)) ∧ Arv Z h t kb .byte (0 : Int32) [] (.int 0)
set_option maxRecDepth 65536 in
set_option maxHeartbeats 40000000 in
theorem own_new1e (l : Launch) (Z : State) (a0 : Array Value) (hw : ∀ d ∈ tables_1, d.before a0 Z = true) (ws : List Jvm.Cond) (G1 : Int32) (G3 : Value) (a : Addr) (b : Addr) (kc : ClassId) (dv : Value) (h0 : Heap) (n0 : Nat) (Z0 : n0 ≤ h0.size) (O2 : Sta Z Z.heap "java/lang/String" "COMPACT_STRINGS" "Z" (.int G1)) (O4 : Sta Z Z.heap "jdk/internal/util/Preconditions" "SIOOBE_FORMATTER" "Ljava/util/function/BiFunction;" G3) (P5 : ¬ (G1 = (0 : Int32))) (rG3 : G3.isRef = true) (OLD0 : Old Z n0 h0) (E_a : Exa Z h0 a "java/lang/String") (ge_a : n0 ≤ a) (F_value_a : Fld Z h0 a "java/lang/String" "value" "[B" .null) (F_coder_a : Fld Z h0 a "java/lang/String" "coder" "B" (.int (0 : Int32))) (V_b : Arv Z h0 b kc .char (0 : Int32) [] dv) :
    MetFree l (⟨"java/lang/String", "<init>", "([C)V"⟩ : MethodName) (head1 (Jvm.Cond.code (⟨"java/lang/String", "<init>", "([C)V"⟩ : MethodName) jdk_42_method_3_code 2 none :: ws) ({ frames := 2, cells := 4, slots := 8, locals := 29 } : Room)) (fun ag U => ag = #[(.ref a), (.ref b)] ∧ Z.Warmed39 U.vm ∧ U.heap = h0 ∧ CHv Z own_EL U.vm h0) (fun _ _ _ _ _ => True) (fun _ U o U' => ∃ v L, o = .returned v ∧ Q_own_new1e Z G1 G3 a b kc dv h0 n0 v U'.heap L ∧ CHr Z own_EL U.vm U.heap U'.vm U'.heap ∧ ReturnedEndW U o U' L ({ frames := 2, cells := 4, slots := 8, locals := 29 } : Room).cells ({ frames := 2, cells := 4, slots := 8, locals := 29 } : Room).slots) := by
  refine own_bodyW (plainFor_of_name pn_1) ?_
  intro p e s m below meth c s₁ Bd hml hZ e0 hh0 CH0
  have hx := Bd.exec
  have hby := Bd.bytes
  have hlk : meth.locks = false := BodyLoose.notSynchronized Bd
  have hown : s.vm.findClass "java/lang/String" = some m.cls := findClass_of_methodNamed Bd.named
  have hnm := (name_of_methodNamed Bd.named Bd.method).1
  have X0 : Stand p l e ({ frames := 2, cells := 4, slots := 8, locals := 29 } : Room) (s.setVm s.vm) m #[(.ref a), (.ref b)] below meth c s₁ [] 0 0 := Stand.of_body Bd
  have N0 := Fr.nil n0
  have hS := (State.WarmedH.refl s).since h0.size
  have hk0 : h0.size ≤ h0.size := Nat.le_refl _
  have KP0 : Keep h0 h0 [a] := Keep.refl h0 [a]
  have lt_a := E_a.lt
  have lt_b := V_b.lt
  have ty_a_b : a ≠ b := (Exa.neArv E_a V_b (w8 hw))
  refine own_cast (g' := (mkF m 0 #[.val (.ref a), .val (.ref b)] [])) (by first | (simp [entryFrame, mkF, argsToLocals, own_cat_int, own_cat_long, own_cat_ref, own_cat_null]; done) | rfl) ?_
  refine own_step (T' := s₁) (g' := (mkF m 1 #[.val (.ref a), .val (.ref b)] [(.ref a)])) (fun _ q => XS.aloadN X0.here hx rfl (hb hby d2_0) rfl rfl q) ?_
  refine own_step (T' := s₁) (g' := (mkF m 2 #[.val (.ref a), .val (.ref b)] [(.ref b), (.ref a)])) (fun _ q => XS.aloadN X0.here hx rfl (hb hby d2_1) rfl rfl q) ?_
  refine own_step (T' := s₁) (g' := (mkF m 3 #[.val (.ref a), .val (.ref b)] [(.int (0 : Int32)), (.ref b), (.ref a)])) (fun _ q => XS.iconst X0.here hx rfl (hb hby d2_2) q) ?_
  refine own_step (T' := s₁) (g' := (mkF m 4 #[.val (.ref a), .val (.ref b)] [(.ref b), (.int (0 : Int32)), (.ref b), (.ref a)])) (fun _ q => XS.aloadN X0.here hx rfl (hb hby d2_3) rfl rfl q) ?_
  refine own_step (T' := s₁) (g' := (mkF m 5 #[.val (.ref a), .val (.ref b)] [(.int (0 : Int32)), (.int (0 : Int32)), (.ref b), (.ref a)])) (fun _ q => own_len X0 hx hZ e0 V_b (g := (mkF m 4 #[.val (.ref a), .val (.ref b)] [(.ref b), (.int (0 : Int32)), (.ref b), (.ref a)])) rfl rfl (hb hby d2_4) _ q) ?_
  refine own_step (T' := s₁) (g' := (mkF m 6 #[.val (.ref a), .val (.ref b)] [.null, (.int (0 : Int32)), (.int (0 : Int32)), (.ref b), (.ref a)])) (fun _ q => XS.aconstNull X0.here hx rfl (hb hby d2_5) q) ?_
  refine own_callCW X0 hx hZ hown hS hk0 rfl (w14 hw) (w15 hw) (w17 hw) (by decide) (backOfSH (W := 0) (own_new4e l Z a0 hw [] G1 G3 a b h0 n0 Z0 O2 O4 P5 rG3 OLD0 E_a ge_a F_value_a F_coder_a) hZ (w17 hw) (w9 hw) (Nat.le_of_ble_eq_true rfl) (Nat.le_of_ble_eq_true rfl) (own_hEL hw) CH0.1) e0  (by first | decide | (dsimp only; omega)) (by first | decide | (dsimp only; omega)) (g := (mkF m 6 #[.val (.ref a), .val (.ref b)] [.null, (.int (0 : Int32)), (.int (0 : Int32)), (.ref b), (.ref a)])) (argsL := [(.ref b), (.int (0 : Int32)), (.int (0 : Int32)), .null]) (rest := []) rfl (by rw [hml]; rfl) (lenOf pd_3 rfl) rfl rfl (by show 2 * 0 + _ ≤ _; exact Nat.le_of_eq rfl) (hb hby d2_6) ?_
  rintro _ T74 L74 X74 hS hZ hown C74 ⟨t74, kb74, rfl, N74q, K74, f0_74, f1_74, f2_74, f3_74⟩
  have CH75 := CH0.trans C74
  have lt76 := f3_74.lt
  have ty77 : a ≠ t74 := (Exa.neArv f0_74 f3_74 (w8 hw))
  have c78 := (V_b.keep K74 (ninS (Ne.symm ty_a_b) nin0))
  have ty79 : b ≠ t74 := (own_arr_ne c78 f3_74 (by decide))
  have N80 := Fr.app N0 N74q
  show own_Fin p e below _ T74 (mkF m 9 #[.val (.ref a), .val (.ref b)] [])
  have c81 := (KP0.trans K74 (allS (Or.inl (List.mem_of_getElem? (i := 0) rfl)) all0))
  exact own_retVW X74 hx hZ (own_hEL hw) hS (Nat.le_refl _) CH75 Bd.returns (hb hby d2_9) hlk ⟨t74, kb74, rfl, N80, c81, f0_74, f1_74, f2_74, f3_74⟩ (by first | decide | (dsimp only; omega)) (by first | decide | (dsimp only; omega))
theorem d12_0 : decode jdk_42_method_152_code 0 = .ok (.getstatic 38, 3) := by decide +kernel
theorem d12_3 : decode jdk_42_method_152_code 3 = .ok (.ifCond .eq 10, 3) := by decide +kernel
theorem d12_6 : decode jdk_42_method_152_code 6 = .ok (.aload_n 0, 1) := by decide +kernel
theorem d12_7 : decode jdk_42_method_152_code 7 = .ok (.getfield 15, 3) := by decide +kernel
theorem d12_10 : decode jdk_42_method_152_code 10 = .ok (.goto 4, 3) := by decide +kernel
theorem d12_14 : decode jdk_42_method_152_code 14 = .ok (.ireturn, 1) := by decide +kernel
def Q_own_cod0 (Z : State) (G1 : Int32) (G3 : Value) (a : Addr) (h0 : Heap) (n0 : Nat) (v : Option Value) (h : Heap) (L : List Loc) : Prop := v = some (.int (0 : Int32)) ∧ Fr n0 L ∧ h = h0
set_option maxRecDepth 65536 in
set_option maxHeartbeats 40000000 in
theorem own_cod0 (l : Launch) (Z : State) (a0 : Array Value) (hw : ∀ d ∈ tables_1, d.before a0 Z = true) (ws : List Jvm.Cond) (G1 : Int32) (G3 : Value) (a : Addr) (h0 : Heap) (n0 : Nat) (Z0 : n0 ≤ h0.size) (O2 : Sta Z Z.heap "java/lang/String" "COMPACT_STRINGS" "Z" (.int G1)) (O4 : Sta Z Z.heap "jdk/internal/util/Preconditions" "SIOOBE_FORMATTER" "Ljava/util/function/BiFunction;" G3) (P5 : ¬ (G1 = (0 : Int32))) (rG3 : G3.isRef = true) (OLD0 : Old Z n0 h0) (F_coder_a : Fld Z h0 a "java/lang/String" "coder" "B" (.int (0 : Int32))) :
    MetFree l (⟨"java/lang/String", "coder", "()B"⟩ : MethodName) (head1 (Jvm.Cond.code (⟨"java/lang/String", "coder", "()B"⟩ : MethodName) jdk_42_method_152_code 1 (some .byte) :: ws) ({ frames := 0, cells := 0, slots := 0, locals := 0 } : Room)) (fun ag U => ag = #[(.ref a)] ∧ Z.Warmed39 U.vm ∧ U.heap = h0) (fun _ _ _ _ _ => True) (fun _ U o U' => ∃ v L, o = .returned v ∧ Q_own_cod0 Z G1 G3 a h0 n0 v U'.heap L ∧ FrameEnd U o U' L ({ frames := 0, cells := 0, slots := 0, locals := 0 } : Room).cells ({ frames := 0, cells := 0, slots := 0, locals := 0 } : Room).slots) := by
  refine own_body (plainFor_of_name pn_1) ?_
  intro p e s m below meth c s₁ Bd hml hZ e0
  have hx := Bd.exec
  have hby := Bd.bytes
  have hlk : meth.locks = false := BodyLoose.notSynchronized Bd
  have hown : s.vm.findClass "java/lang/String" = some m.cls := findClass_of_methodNamed Bd.named
  have hnm := (name_of_methodNamed Bd.named Bd.method).1
  have X0 : Stand p l e ({ frames := 0, cells := 0, slots := 0, locals := 0 } : Room) s m #[(.ref a)] below meth c s₁ [] 0 0 := Stand.of_body Bd
  have N0 := Fr.nil n0
  have KP0 : Keep h0 h0 [] := Keep.refl h0 []
  have lt_a := F_coder_a.lt
  refine own_cast (g' := (mkF m 0 #[.val (.ref a)] [])) (by first | (simp [entryFrame, mkF, argsToLocals, own_cat_int, own_cat_long, own_cat_ref, own_cat_null]; done) | rfl) ?_
  obtain ⟨T82, X82, e82, st82⟩ := getS2 X0 hx hZ hown (host := "") (Or.inl (w80 hw)) Via.refl e0 (O2.ext OLD0.2) (g := (mkF m 0 #[.val (.ref a)] [])) rfl (hb hby d12_0)
  refine own_step (T' := T82) (g' := (mkF m 3 #[.val (.ref a)] [(.int G1)])) st82 ?_
  have hc83 : ¬ (G1 = 0) := P5
  refine own_step (T' := T82) (g' := (mkF m 6 #[.val (.ref a)] [])) (fun _ q => XS.ifNo X82.here hx rfl (hb hby d12_3) rfl (XT.i0_eq_f hc83) q) ?_
  refine own_step (T' := T82) (g' := (mkF m 7 #[.val (.ref a)] [(.ref a)])) (fun _ q => XS.aloadN X82.here hx rfl (hb hby d12_6) rfl rfl q) ?_
  obtain ⟨T84, X84, e84, st84⟩ := getF X82 hx hZ hown (host := "") (Or.inl (w28 hw)) Via.refl e82 F_coder_a (g := (mkF m 7 #[.val (.ref a)] [(.ref a)])) rfl rfl (hb hby d12_7)
  refine own_step (T' := T84) (g' := (mkF m 10 #[.val (.ref a)] [(.int (0 : Int32))])) st84 ?_
  refine own_step (T' := T84) (g' := (mkF m 14 #[.val (.ref a)] [(.int (0 : Int32))])) (fun _ q => XS.goto X84.here hx rfl (pc0 := 10) (pc' := 14) rfl (hb hby d12_10) (by decide) (by decide) q) ?_
  exact own_retN X84 hx Bd.returns (by simp) (hb hby d12_14) hlk ⟨rfl, N0, e84⟩ (by first | decide | (dsimp only; omega)) (by first | decide | (dsimp only; omega))
theorem pd_4 : parseMethodDescriptor "()B" = some ⟨[], some .byte⟩ := by decide +kernel
theorem d11_0 : decode jdk_42_method_54_code 0 = .ok (.aload_n 0, 1) := by decide +kernel
theorem d11_1 : decode jdk_42_method_54_code 1 = .ok (.getfield 9, 3) := by decide +kernel
theorem d11_4 : decode jdk_42_method_54_code 4 = .ok (.arraylength, 1) := by decide +kernel
theorem d11_5 : decode jdk_42_method_54_code 5 = .ok (.aload_n 0, 1) := by decide +kernel
theorem d11_6 : decode jdk_42_method_54_code 6 = .ok (.invokevirtual 335, 3) := by decide +kernel
theorem d11_9 : decode jdk_42_method_54_code 9 = .ok (.ishr, 1) := by decide +kernel
theorem d11_10 : decode jdk_42_method_54_code 10 = .ok (.ireturn, 1) := by decide +kernel
def Q_own_len0 (Z : State) (G1 : Int32) (G3 : Value) (a : Addr) (t : Addr) (kb : ClassId) (N2 : Int32) (vs : List Value) (h0 : Heap) (n0 : Nat) (v : Option Value) (h : Heap) (L : List Loc) : Prop := v = some (.int N2) ∧ Fr n0 L ∧ h = h0
set_option maxRecDepth 65536 in
set_option maxHeartbeats 40000000 in
theorem own_len0 (l : Launch) (Z : State) (a0 : Array Value) (hw : ∀ d ∈ tables_1, d.before a0 Z = true) (ws : List Jvm.Cond) (G1 : Int32) (G3 : Value) (a : Addr) (t : Addr) (kb : ClassId) (N2 : Int32) (vs : List Value) (h0 : Heap) (n0 : Nat) (Z0 : n0 ≤ h0.size) (O2 : Sta Z Z.heap "java/lang/String" "COMPACT_STRINGS" "Z" (.int G1)) (O4 : Sta Z Z.heap "jdk/internal/util/Preconditions" "SIOOBE_FORMATTER" "Ljava/util/function/BiFunction;" G3) (P5 : ¬ (G1 = (0 : Int32))) (rG3 : G3.isRef = true) (OLD0 : Old Z n0 h0) (E_a : Exa Z h0 a "java/lang/String") (F_value_a : Fld Z h0 a "java/lang/String" "value" "[B" (.ref t)) (F_coder_a : Fld Z h0 a "java/lang/String" "coder" "B" (.int (0 : Int32))) (V_t : Arv Z h0 t kb .byte N2 vs (.int 0)) :
    MetFree l (⟨"java/lang/String", "length", "()I"⟩ : MethodName) (head1 (Jvm.Cond.code (⟨"java/lang/String", "length", "()I"⟩ : MethodName) jdk_42_method_54_code 1 (some .int) :: ws) ({ frames := 1, cells := 0, slots := 0, locals := 13 } : Room)) (fun ag U => ag = #[(.ref a)] ∧ Z.Warmed39 U.vm ∧ U.heap = h0) (fun _ _ _ _ _ => True) (fun _ U o U' => ∃ v L, o = .returned v ∧ Q_own_len0 Z G1 G3 a t kb N2 vs h0 n0 v U'.heap L ∧ FrameEnd U o U' L ({ frames := 1, cells := 0, slots := 0, locals := 13 } : Room).cells ({ frames := 1, cells := 0, slots := 0, locals := 13 } : Room).slots) := by
  refine own_body (plainFor_of_name pn_1) ?_
  intro p e s m below meth c s₁ Bd hml hZ e0
  have hx := Bd.exec
  have hby := Bd.bytes
  have hlk : meth.locks = false := BodyLoose.notSynchronized Bd
  have hown : s.vm.findClass "java/lang/String" = some m.cls := findClass_of_methodNamed Bd.named
  have hnm := (name_of_methodNamed Bd.named Bd.method).1
  have X0 : Stand p l e ({ frames := 1, cells := 0, slots := 0, locals := 13 } : Room) s m #[(.ref a)] below meth c s₁ [] 0 0 := Stand.of_body Bd
  have N0 := Fr.nil n0
  have KP0 : Keep h0 h0 [] := Keep.refl h0 []
  have lt_a := E_a.lt
  have lt_t := V_t.lt
  have ty_a_t : a ≠ t := (Exa.neArv E_a V_t (w8 hw))
  refine own_cast (g' := (mkF m 0 #[.val (.ref a)] [])) (by first | (simp [entryFrame, mkF, argsToLocals, own_cat_int, own_cat_long, own_cat_ref, own_cat_null]; done) | rfl) ?_
  refine own_step (T' := s₁) (g' := (mkF m 1 #[.val (.ref a)] [(.ref a)])) (fun _ q => XS.aloadN X0.here hx rfl (hb hby d11_0) rfl rfl q) ?_
  obtain ⟨T85, X85, e85, st85⟩ := getF X0 hx hZ hown (host := "") (Or.inl (w27 hw)) Via.refl e0 F_value_a (g := (mkF m 1 #[.val (.ref a)] [(.ref a)])) rfl rfl (hb hby d11_1)
  refine own_step (T' := T85) (g' := (mkF m 4 #[.val (.ref a)] [(.ref t)])) st85 ?_
  refine own_step (T' := T85) (g' := (mkF m 5 #[.val (.ref a)] [(.int N2)])) (fun _ q => own_len X85 hx hZ e85 V_t (g := (mkF m 4 #[.val (.ref a)] [(.ref t)])) rfl rfl (hb hby d11_4) _ q) ?_
  refine own_step (T' := T85) (g' := (mkF m 6 #[.val (.ref a)] [(.ref a), (.int N2)])) (fun _ q => XS.aloadN X85.here hx rfl (hb hby d11_5) rfl rfl q) ?_
  refine own_callV (y := (⟨"java/lang/String", "coder", "()B"⟩ : MethodName)) (z := (⟨"java/lang/String", "coder", "()B"⟩ : MethodName)) X85 hx hZ hown (w75 hw) (w76 hw) (notFace_of_selects (args := #[]) (mvT hZ (w78 hw))) (w78 hw) (w77 hw) (by decide) (backOf (W := 1) (own_cod0 l Z a0 hw [] G1 G3 a h0 n0 Z0 O2 O4 P5 rG3 OLD0 F_coder_a) hZ (w79 hw) (w9 hw) (Nat.le_of_ble_eq_true rfl) (Nat.le_of_ble_eq_true rfl)) e85 E_a  (by first | decide | (dsimp only; omega)) (by first | decide | (dsimp only; omega)) (g := (mkF m 6 #[.val (.ref a)] [(.ref a), (.int N2)])) (argsL := []) (rest := [(.int N2)]) rfl (by rw [hml]; rfl) (lenOf pd_4 rfl) rfl rfl (by show 2 * 0 + _ ≤ _; exact Nat.le_of_eq rfl) (hb hby d11_6) ?_
  rintro _ T86 L86 X86 ⟨rfl, N86q, e86⟩
  have N87 := Fr.app N0 N86q
  show own_Fin p e below _ T86 (mkF m 9 #[.val (.ref a)] [(.int (0 : Int32)), (.int N2)])
  refine own_step (T' := T86) (g' := (mkF m 10 #[.val (.ref a)] [(.int (N2 >>> ((0 : Int32) &&& 31)))])) (fun _ q => XT.ishr X86.here hx rfl (hb hby d11_9) rfl q) ?_
  rw [show (N2 >>> ((0 : Int32) &&& 31)) = N2 from (StrChars.shr0 _)]
  exact own_retI X86 hx Bd.returns (hb hby d11_10) hlk ⟨rfl, N87, e86⟩ (by first | decide | (dsimp only; omega)) (by first | decide | (dsimp only; omega))
theorem pn_2 : plainName "jdk/internal/util/Preconditions" = true := by first | (simp [plainName, overriddenIn]; done) | decide +kernel
theorem d33_0 : decode jdk_41_method_11_code 0 = .ok (.iload_n 0, 1) := by decide +kernel
theorem d33_1 : decode jdk_41_method_11_code 1 = .ok (.ifCond .lt 8, 3) := by decide +kernel
theorem d33_4 : decode jdk_41_method_11_code 4 = .ok (.iload_n 0, 1) := by decide +kernel
theorem d33_5 : decode jdk_41_method_11_code 5 = .ok (.iload_n 1, 1) := by decide +kernel
theorem d33_6 : decode jdk_41_method_11_code 6 = .ok (.if_icmp .lt 10, 3) := by decide +kernel
theorem d33_16 : decode jdk_41_method_11_code 16 = .ok (.iload_n 0, 1) := by decide +kernel
theorem d33_17 : decode jdk_41_method_11_code 17 = .ok (.ireturn, 1) := by decide +kernel
def Q_own_ckidx (Z : State) (i : Int32) (n : Int32) (f : Value) (h0 : Heap) (n0 : Nat) (v : Option Value) (h : Heap) (L : List Loc) : Prop := v = some (.int i) ∧ Fr n0 L ∧ h = h0
set_option maxRecDepth 65536 in
set_option maxHeartbeats 40000000 in
theorem own_ckidx (l : Launch) (Z : State) (a0 : Array Value) (hw : ∀ d ∈ tables_1, d.before a0 Z = true) (ws : List Jvm.Cond) (i : Int32) (n : Int32) (f : Value) (h0 : Heap) (n0 : Nat) (Z0 : n0 ≤ h0.size) (rf : f.isRef = true) (h1 : ¬ i < 0) (h2 : i < n) :
    MetFree l (⟨"jdk/internal/util/Preconditions", "checkIndex", "(IILjava/util/function/BiFunction;)I"⟩ : MethodName) (head1 (Jvm.Cond.code (⟨"jdk/internal/util/Preconditions", "checkIndex", "(IILjava/util/function/BiFunction;)I"⟩ : MethodName) jdk_41_method_11_code 3 (some .int) :: ws) ({ frames := 0, cells := 0, slots := 0, locals := 0 } : Room)) (fun ag U => ag = #[(.int i), (.int n), f] ∧ Z.Warmed39 U.vm ∧ U.heap = h0) (fun _ _ _ _ _ => True) (fun _ U o U' => ∃ v L, o = .returned v ∧ Q_own_ckidx Z i n f h0 n0 v U'.heap L ∧ FrameEnd U o U' L ({ frames := 0, cells := 0, slots := 0, locals := 0 } : Room).cells ({ frames := 0, cells := 0, slots := 0, locals := 0 } : Room).slots) := by
  refine own_body (plainFor_of_name pn_2) ?_
  intro p e s m below meth c s₁ Bd hml hZ e0
  have hx := Bd.exec
  have hby := Bd.bytes
  have hlk : meth.locks = false := BodyLoose.notSynchronized Bd
  have hown : s.vm.findClass "jdk/internal/util/Preconditions" = some m.cls := findClass_of_methodNamed Bd.named
  have hnm := (name_of_methodNamed Bd.named Bd.method).1
  have X0 : Stand p l e ({ frames := 0, cells := 0, slots := 0, locals := 0 } : Room) s m #[(.int i), (.int n), f] below meth c s₁ [] 0 0 := Stand.of_body Bd
  have N0 := Fr.nil n0
  have KP0 : Keep h0 h0 [] := Keep.refl h0 []
  refine own_cast (g' := (mkF m 0 #[.val (.int i), .val (.int n), .val f] [])) (by first | (simp [entryFrame, mkF, argsToLocals, own_cat_int, own_cat_long, own_cat_ref, own_cat_null, XT.cat1 rf]; done) | rfl) ?_
  refine own_step (T' := s₁) (g' := (mkF m 1 #[.val (.int i), .val (.int n), .val f] [(.int i)])) (fun _ q => XS.iloadN X0.here hx rfl (hb hby d33_0) rfl q) ?_
  have hc88 : ¬ (i < 0) := h1
  refine own_step (T' := s₁) (g' := (mkF m 4 #[.val (.int i), .val (.int n), .val f] [])) (fun _ q => XS.ifNo X0.here hx rfl (hb hby d33_1) rfl (XT.i0_lt_f hc88) q) ?_
  refine own_step (T' := s₁) (g' := (mkF m 5 #[.val (.int i), .val (.int n), .val f] [(.int i)])) (fun _ q => XS.iloadN X0.here hx rfl (hb hby d33_4) rfl q) ?_
  refine own_step (T' := s₁) (g' := (mkF m 6 #[.val (.int i), .val (.int n), .val f] [(.int n), (.int i)])) (fun _ q => XS.iloadN X0.here hx rfl (hb hby d33_5) rfl q) ?_
  have hc89 : (i < n) := h2
  refine own_step (T' := s₁) (g' := (mkF m 16 #[.val (.int i), .val (.int n), .val f] [])) (fun _ q => XS.icmpYes X0.here hx rfl (pc0 := 6) (pc' := 16) rfl (hb hby d33_6) rfl (XT.ii_lt_t hc89) (by decide) (by decide) q) ?_
  refine own_step (T' := s₁) (g' := (mkF m 17 #[.val (.int i), .val (.int n), .val f] [(.int i)])) (fun _ q => XS.iloadN X0.here hx rfl (hb hby d33_16) rfl q) ?_
  exact own_retI X0 hx Bd.returns (hb hby d33_17) hlk ⟨rfl, N0, e0⟩ (by first | decide | (dsimp only; omega)) (by first | decide | (dsimp only; omega))
theorem pd_5 : parseMethodDescriptor "(IILjava/util/function/BiFunction;)I" = some ⟨[.int, .int, (.object "java/util/function/BiFunction")], some .int⟩ := by decide +kernel
theorem d32_0 : decode jdk_42_method_155_code 0 = .ok (.iload_n 0, 1) := by decide +kernel
theorem d32_1 : decode jdk_42_method_155_code 1 = .ok (.iload_n 1, 1) := by decide +kernel
theorem d32_2 : decode jdk_42_method_155_code 2 = .ok (.getstatic 1053, 3) := by decide +kernel
theorem d32_5 : decode jdk_42_method_155_code 5 = .ok (.invokestatic 1059, 3) := by decide +kernel
theorem d32_8 : decode jdk_42_method_155_code 8 = .ok (.pop, 1) := by decide +kernel
theorem d32_9 : decode jdk_42_method_155_code 9 = .ok (.return_, 1) := by decide +kernel
def Q_own_sckidx (Z : State) (G1 : Int32) (G3 : Value) (i : Int32) (n : Int32) (h0 : Heap) (n0 : Nat) (v : Option Value) (h : Heap) (L : List Loc) : Prop := v = none ∧ Fr n0 L ∧ h = h0
set_option maxRecDepth 65536 in
set_option maxHeartbeats 40000000 in
theorem own_sckidx (l : Launch) (Z : State) (a0 : Array Value) (hw : ∀ d ∈ tables_1, d.before a0 Z = true) (ws : List Jvm.Cond) (G1 : Int32) (G3 : Value) (i : Int32) (n : Int32) (h0 : Heap) (n0 : Nat) (Z0 : n0 ≤ h0.size) (O2 : Sta Z Z.heap "java/lang/String" "COMPACT_STRINGS" "Z" (.int G1)) (O4 : Sta Z Z.heap "jdk/internal/util/Preconditions" "SIOOBE_FORMATTER" "Ljava/util/function/BiFunction;" G3) (P5 : ¬ (G1 = (0 : Int32))) (rG3 : G3.isRef = true) (OLD0 : Old Z n0 h0) (h1 : ¬ i < 0) (h2 : i < n) :
    MetFree l (⟨"java/lang/String", "checkIndex", "(II)V"⟩ : MethodName) (head1 (Jvm.Cond.code (⟨"java/lang/String", "checkIndex", "(II)V"⟩ : MethodName) jdk_42_method_155_code 2 none :: ws) ({ frames := 1, cells := 0, slots := 0, locals := 14 } : Room)) (fun ag U => ag = #[(.int i), (.int n)] ∧ Z.Warmed39 U.vm ∧ U.heap = h0) (fun _ _ _ _ _ => True) (fun _ U o U' => ∃ v L, o = .returned v ∧ Q_own_sckidx Z G1 G3 i n h0 n0 v U'.heap L ∧ FrameEnd U o U' L ({ frames := 1, cells := 0, slots := 0, locals := 14 } : Room).cells ({ frames := 1, cells := 0, slots := 0, locals := 14 } : Room).slots) := by
  refine own_body (plainFor_of_name pn_1) ?_
  intro p e s m below meth c s₁ Bd hml hZ e0
  have hx := Bd.exec
  have hby := Bd.bytes
  have hlk : meth.locks = false := BodyLoose.notSynchronized Bd
  have hown : s.vm.findClass "java/lang/String" = some m.cls := findClass_of_methodNamed Bd.named
  have hnm := (name_of_methodNamed Bd.named Bd.method).1
  have X0 : Stand p l e ({ frames := 1, cells := 0, slots := 0, locals := 14 } : Room) s m #[(.int i), (.int n)] below meth c s₁ [] 0 0 := Stand.of_body Bd
  have N0 := Fr.nil n0
  have KP0 : Keep h0 h0 [] := Keep.refl h0 []
  refine own_cast (g' := (mkF m 0 #[.val (.int i), .val (.int n)] [])) (by first | (simp [entryFrame, mkF, argsToLocals, own_cat_int, own_cat_long, own_cat_ref, own_cat_null]; done) | rfl) ?_
  refine own_step (T' := s₁) (g' := (mkF m 1 #[.val (.int i), .val (.int n)] [(.int i)])) (fun _ q => XS.iloadN X0.here hx rfl (hb hby d32_0) rfl q) ?_
  refine own_step (T' := s₁) (g' := (mkF m 2 #[.val (.int i), .val (.int n)] [(.int n), (.int i)])) (fun _ q => XS.iloadN X0.here hx rfl (hb hby d32_1) rfl q) ?_
  obtain ⟨T90, X90, e90, st90⟩ := getS2 X0 hx hZ hown (host := "") (Or.inl (w175 hw)) Via.refl e0 (O4.ext OLD0.2) (g := (mkF m 2 #[.val (.int i), .val (.int n)] [(.int n), (.int i)])) rfl (hb hby d32_2)
  refine own_step (T' := T90) (g' := (mkF m 5 #[.val (.int i), .val (.int n)] [G3, (.int n), (.int i)])) st90 ?_
  refine own_callS X90 hx hZ hown (w177 hw) (w178 hw) (w176 hw) (w179 hw) (by decide) (backOf (W := 0) (own_ckidx l Z a0 hw [] i n G3 h0 n0 Z0 (rG3 : G3.isRef = true) h1 h2) hZ (w179 hw) (w176 hw) (Nat.le_of_ble_eq_true rfl) (Nat.le_of_ble_eq_true rfl)) e90  (by first | decide | (dsimp only; omega)) (by first | decide | (dsimp only; omega)) (g := (mkF m 5 #[.val (.int i), .val (.int n)] [G3, (.int n), (.int i)])) (argsL := [(.int i), (.int n), G3]) (rest := []) rfl (by rw [hml]; rfl) (lenOf pd_5 rfl) rfl rfl (by show 2 * 0 + _ ≤ _; exact Nat.le_of_eq rfl) (hb hby d32_5) ?_
  rintro _ T91 L91 X91 ⟨rfl, N91q, e91⟩
  have N92 := Fr.app N0 N91q
  show own_Fin p e below _ T91 (mkF m 8 #[.val (.int i), .val (.int n)] [(.int i)])
  refine own_step (T' := T91) (g' := (mkF m 9 #[.val (.int i), .val (.int n)] [])) (fun _ q => XT.pop X91.here hx rfl (hb hby d32_8) rfl rfl q) ?_
  exact own_retV X91 hx Bd.returns (hb hby d32_9) hlk ⟨rfl, N92, e91⟩ (by first | decide | (dsimp only; omega)) (by first | decide | (dsimp only; omega))
theorem d30_0 : decode jdk_42_method_154_code 0 = .ok (.getstatic 38, 3) := by decide +kernel
theorem d30_3 : decode jdk_42_method_154_code 3 = .ok (.ifCond .eq 14, 3) := by decide +kernel
theorem d30_6 : decode jdk_42_method_154_code 6 = .ok (.aload_n 0, 1) := by decide +kernel
theorem d30_7 : decode jdk_42_method_154_code 7 = .ok (.getfield 15, 3) := by decide +kernel
theorem d30_10 : decode jdk_42_method_154_code 10 = .ok (.ifCond .ne 7, 3) := by decide +kernel
theorem d30_13 : decode jdk_42_method_154_code 13 = .ok (.iconst 1, 1) := by decide +kernel
theorem d30_14 : decode jdk_42_method_154_code 14 = .ok (.goto 4, 3) := by decide +kernel
theorem d30_18 : decode jdk_42_method_154_code 18 = .ok (.ireturn, 1) := by decide +kernel
def Q_own_isl0 (Z : State) (G1 : Int32) (G3 : Value) (a : Addr) (h0 : Heap) (n0 : Nat) (v : Option Value) (h : Heap) (L : List Loc) : Prop := v = some (.int (1 : Int32)) ∧ Fr n0 L ∧ h = h0
set_option maxRecDepth 65536 in
set_option maxHeartbeats 40000000 in
theorem own_isl0 (l : Launch) (Z : State) (a0 : Array Value) (hw : ∀ d ∈ tables_1, d.before a0 Z = true) (ws : List Jvm.Cond) (G1 : Int32) (G3 : Value) (a : Addr) (h0 : Heap) (n0 : Nat) (Z0 : n0 ≤ h0.size) (O2 : Sta Z Z.heap "java/lang/String" "COMPACT_STRINGS" "Z" (.int G1)) (O4 : Sta Z Z.heap "jdk/internal/util/Preconditions" "SIOOBE_FORMATTER" "Ljava/util/function/BiFunction;" G3) (P5 : ¬ (G1 = (0 : Int32))) (rG3 : G3.isRef = true) (OLD0 : Old Z n0 h0) (F_coder_a : Fld Z h0 a "java/lang/String" "coder" "B" (.int (0 : Int32))) :
    MetFree l (⟨"java/lang/String", "isLatin1", "()Z"⟩ : MethodName) (head1 (Jvm.Cond.code (⟨"java/lang/String", "isLatin1", "()Z"⟩ : MethodName) jdk_42_method_154_code 1 (some .boolean) :: ws) ({ frames := 0, cells := 0, slots := 0, locals := 0 } : Room)) (fun ag U => ag = #[(.ref a)] ∧ Z.Warmed39 U.vm ∧ U.heap = h0) (fun _ _ _ _ _ => True) (fun _ U o U' => ∃ v L, o = .returned v ∧ Q_own_isl0 Z G1 G3 a h0 n0 v U'.heap L ∧ FrameEnd U o U' L ({ frames := 0, cells := 0, slots := 0, locals := 0 } : Room).cells ({ frames := 0, cells := 0, slots := 0, locals := 0 } : Room).slots) := by
  refine own_body (plainFor_of_name pn_1) ?_
  intro p e s m below meth c s₁ Bd hml hZ e0
  have hx := Bd.exec
  have hby := Bd.bytes
  have hlk : meth.locks = false := BodyLoose.notSynchronized Bd
  have hown : s.vm.findClass "java/lang/String" = some m.cls := findClass_of_methodNamed Bd.named
  have hnm := (name_of_methodNamed Bd.named Bd.method).1
  have X0 : Stand p l e ({ frames := 0, cells := 0, slots := 0, locals := 0 } : Room) s m #[(.ref a)] below meth c s₁ [] 0 0 := Stand.of_body Bd
  have N0 := Fr.nil n0
  have KP0 : Keep h0 h0 [] := Keep.refl h0 []
  have lt_a := F_coder_a.lt
  refine own_cast (g' := (mkF m 0 #[.val (.ref a)] [])) (by first | (simp [entryFrame, mkF, argsToLocals, own_cat_int, own_cat_long, own_cat_ref, own_cat_null]; done) | rfl) ?_
  obtain ⟨T93, X93, e93, st93⟩ := getS2 X0 hx hZ hown (host := "") (Or.inl (w80 hw)) Via.refl e0 (O2.ext OLD0.2) (g := (mkF m 0 #[.val (.ref a)] [])) rfl (hb hby d30_0)
  refine own_step (T' := T93) (g' := (mkF m 3 #[.val (.ref a)] [(.int G1)])) st93 ?_
  have hc94 : ¬ (G1 = 0) := P5
  refine own_step (T' := T93) (g' := (mkF m 6 #[.val (.ref a)] [])) (fun _ q => XS.ifNo X93.here hx rfl (hb hby d30_3) rfl (XT.i0_eq_f hc94) q) ?_
  refine own_step (T' := T93) (g' := (mkF m 7 #[.val (.ref a)] [(.ref a)])) (fun _ q => XS.aloadN X93.here hx rfl (hb hby d30_6) rfl rfl q) ?_
  obtain ⟨T95, X95, e95, st95⟩ := getF X93 hx hZ hown (host := "") (Or.inl (w28 hw)) Via.refl e93 F_coder_a (g := (mkF m 7 #[.val (.ref a)] [(.ref a)])) rfl rfl (hb hby d30_7)
  refine own_step (T' := T95) (g' := (mkF m 10 #[.val (.ref a)] [(.int (0 : Int32))])) st95 ?_
  refine own_step (T' := T95) (g' := (mkF m 13 #[.val (.ref a)] [])) (fun _ q => XS.ifNo X95.here hx rfl (hb hby d30_10) rfl (by decide) q) ?_
  refine own_step (T' := T95) (g' := (mkF m 14 #[.val (.ref a)] [(.int (1 : Int32))])) (fun _ q => XS.iconst X95.here hx rfl (hb hby d30_13) q) ?_
  refine own_step (T' := T95) (g' := (mkF m 18 #[.val (.ref a)] [(.int (1 : Int32))])) (fun _ q => XS.goto X95.here hx rfl (pc0 := 14) (pc' := 18) rfl (hb hby d30_14) (by decide) (by decide) q) ?_
  exact own_retN X95 hx Bd.returns (by simp) (hb hby d30_18) hlk ⟨rfl, N0, e95⟩ (by first | decide | (dsimp only; omega)) (by first | decide | (dsimp only; omega))
theorem pd_6 : parseMethodDescriptor "(II)V" = some ⟨[.int, .int], none⟩ := by decide +kernel
theorem d31_0 : decode jdk_43_method_2_code 0 = .ok (.iload_n 1, 1) := by decide +kernel
theorem d31_1 : decode jdk_43_method_2_code 1 = .ok (.aload_n 0, 1) := by decide +kernel
theorem d31_2 : decode jdk_43_method_2_code 2 = .ok (.arraylength, 1) := by decide +kernel
theorem d31_3 : decode jdk_43_method_2_code 3 = .ok (.invokestatic 9, 3) := by decide +kernel
theorem d31_6 : decode jdk_43_method_2_code 6 = .ok (.aload_n 0, 1) := by decide +kernel
theorem d31_7 : decode jdk_43_method_2_code 7 = .ok (.iload_n 1, 1) := by decide +kernel
theorem d31_8 : decode jdk_43_method_2_code 8 = .ok (.baload, 1) := by decide +kernel
theorem d31_9 : decode jdk_43_method_2_code 9 = .ok (.sipush 255, 3) := by decide +kernel
theorem d31_12 : decode jdk_43_method_2_code 12 = .ok (.iand, 1) := by decide +kernel
theorem d31_13 : decode jdk_43_method_2_code 13 = .ok (.i2c, 1) := by decide +kernel
theorem d31_14 : decode jdk_43_method_2_code 14 = .ok (.ireturn, 1) := by decide +kernel
def Q_own_lchar (Z : State) (G1 : Int32) (G3 : Value) (t : Addr) (kb : ClassId) (N2 : Int32) (vs : List Value) (i : Nat) (u : Int32) (h0 : Heap) (n0 : Nat) (v : Option Value) (h : Heap) (L : List Loc) : Prop := v = some (.int (nar .char (StrChars.chr8 u))) ∧ Fr n0 L ∧ h = h0
set_option maxRecDepth 65536 in
set_option maxHeartbeats 40000000 in
theorem own_lchar (l : Launch) (Z : State) (a0 : Array Value) (hw : ∀ d ∈ tables_1, d.before a0 Z = true) (ws : List Jvm.Cond) (G1 : Int32) (G3 : Value) (t : Addr) (kb : ClassId) (N2 : Int32) (vs : List Value) (i : Nat) (u : Int32) (h0 : Heap) (n0 : Nat) (Z0 : n0 ≤ h0.size) (O2 : Sta Z Z.heap "java/lang/String" "COMPACT_STRINGS" "Z" (.int G1)) (O4 : Sta Z Z.heap "jdk/internal/util/Preconditions" "SIOOBE_FORMATTER" "Ljava/util/function/BiFunction;" G3) (P5 : ¬ (G1 = (0 : Int32))) (rG3 : G3.isRef = true) (OLD0 : Old Z n0 h0) (V_t : Arv Z h0 t kb .byte N2 vs (.int 0)) (hN : ¬ N2 < 0) (hi : i < N2.toNatClampNeg) (hu : vs.getD i (.int 0) = .int u) :
    MetFree l (⟨"java/lang/StringLatin1", "charAt", "([BI)C"⟩ : MethodName) (head1 (Jvm.Cond.code (⟨"java/lang/StringLatin1", "charAt", "([BI)C"⟩ : MethodName) jdk_43_method_2_code 2 (some .char) :: ws) ({ frames := 2, cells := 0, slots := 0, locals := 27 } : Room)) (fun ag U => ag = #[(.ref t), (.int (Int32.ofNat i))] ∧ Z.Warmed39 U.vm ∧ U.heap = h0) (fun _ _ _ _ _ => True) (fun _ U o U' => ∃ v L, o = .returned v ∧ Q_own_lchar Z G1 G3 t kb N2 vs i u h0 n0 v U'.heap L ∧ FrameEnd U o U' L ({ frames := 2, cells := 0, slots := 0, locals := 27 } : Room).cells ({ frames := 2, cells := 0, slots := 0, locals := 27 } : Room).slots) := by
  refine own_body (plainFor_of_name pn_0) ?_
  intro p e s m below meth c s₁ Bd hml hZ e0
  have hx := Bd.exec
  have hby := Bd.bytes
  have hlk : meth.locks = false := BodyLoose.notSynchronized Bd
  have hown : s.vm.findClass "java/lang/StringLatin1" = some m.cls := findClass_of_methodNamed Bd.named
  have hnm := (name_of_methodNamed Bd.named Bd.method).1
  have X0 : Stand p l e ({ frames := 2, cells := 0, slots := 0, locals := 27 } : Room) s m #[(.ref t), (.int (Int32.ofNat i))] below meth c s₁ [] 0 0 := Stand.of_body Bd
  have N0 := Fr.nil n0
  have KP0 : Keep h0 h0 [] := Keep.refl h0 []
  have lt_t := V_t.lt
  refine own_cast (g' := (mkF m 0 #[.val (.ref t), .val (.int (Int32.ofNat i))] [])) (by first | (simp [entryFrame, mkF, argsToLocals, own_cat_int, own_cat_long, own_cat_ref, own_cat_null]; done) | rfl) ?_
  refine own_step (T' := s₁) (g' := (mkF m 1 #[.val (.ref t), .val (.int (Int32.ofNat i))] [(.int (Int32.ofNat i))])) (fun _ q => XS.iloadN X0.here hx rfl (hb hby d31_0) rfl q) ?_
  refine own_step (T' := s₁) (g' := (mkF m 2 #[.val (.ref t), .val (.int (Int32.ofNat i))] [(.ref t), (.int (Int32.ofNat i))])) (fun _ q => XS.aloadN X0.here hx rfl (hb hby d31_1) rfl rfl q) ?_
  refine own_step (T' := s₁) (g' := (mkF m 3 #[.val (.ref t), .val (.int (Int32.ofNat i))] [(.int N2), (.int (Int32.ofNat i))])) (fun _ q => own_len X0 hx hZ e0 V_t (g := (mkF m 2 #[.val (.ref t), .val (.int (Int32.ofNat i))] [(.ref t), (.int (Int32.ofNat i))])) rfl rfl (hb hby d31_2) _ q) ?_
  refine own_callS X0 hx hZ hown (w172 hw) (w173 hw) (w9 hw) (w174 hw) (by decide) (backOf (W := 0) (own_sckidx l Z a0 hw [] G1 G3 (Int32.ofNat i) N2 h0 n0 Z0 O2 O4 P5 rG3 OLD0 ((own_ixin hN hi).1 : ¬ (Int32.ofNat i) < 0) ((own_ixin hN hi).2 : (Int32.ofNat i) < N2)) hZ (w174 hw) (w9 hw) (Nat.le_of_ble_eq_true rfl) (Nat.le_of_ble_eq_true rfl)) e0  (by first | decide | (dsimp only; omega)) (by first | decide | (dsimp only; omega)) (g := (mkF m 3 #[.val (.ref t), .val (.int (Int32.ofNat i))] [(.int N2), (.int (Int32.ofNat i))])) (argsL := [(.int (Int32.ofNat i)), (.int N2)]) (rest := []) rfl (by rw [hml]; rfl) (lenOf pd_6 rfl) rfl rfl (by show 2 * 0 + _ ≤ _; exact Nat.le_of_eq rfl) (hb hby d31_3) ?_
  rintro _ T96 L96 X96 ⟨rfl, N96q, e96⟩
  have N97 := Fr.app N0 N96q
  show own_Fin p e below _ T96 (mkF m 6 #[.val (.ref t), .val (.int (Int32.ofNat i))] [])
  refine own_step (T' := T96) (g' := (mkF m 7 #[.val (.ref t), .val (.int (Int32.ofNat i))] [(.ref t)])) (fun _ q => XS.aloadN X96.here hx rfl (hb hby d31_6) rfl rfl q) ?_
  refine own_step (T' := T96) (g' := (mkF m 8 #[.val (.ref t), .val (.int (Int32.ofNat i))] [(.int (Int32.ofNat i)), (.ref t)])) (fun _ q => XS.iloadN X96.here hx rfl (hb hby d31_7) rfl q) ?_
  refine own_step (T' := T96) (g' := (mkF m 9 #[.val (.ref t), .val (.int (Int32.ofNat i))] [(.int u)])) (fun _ q => own_ldB X96 hx hZ e96 V_t (j := (Int32.ofNat i)) (own_ixin hN hi) (v := (.int u)) (by rw [own_nat (by have := own_clamp_lt N2; omega)]; exact hu) (g := (mkF m 8 #[.val (.ref t), .val (.int (Int32.ofNat i))] [(.int (Int32.ofNat i)), (.ref t)])) rfl rfl (hb hby d31_8) _ q) ?_
  refine own_step (T' := T96) (g' := (mkF m 12 #[.val (.ref t), .val (.int (Int32.ofNat i))] [(.int (255 : Int32)), (.int u)])) (fun _ q => XS.sipush X96.here hx rfl (hb hby d31_9) q) ?_
  refine own_step (T' := T96) (g' := (mkF m 13 #[.val (.ref t), .val (.int (Int32.ofNat i))] [(.int (u &&& (255 : Int32)))])) (fun _ q => XS.iand X96.here hx rfl (hb hby d31_12) rfl q) ?_
  refine own_step (T' := T96) (g' := (mkF m 14 #[.val (.ref t), .val (.int (Int32.ofNat i))] [(.int ((u &&& (255 : Int32)).toUInt32.toUInt16.toUInt32.toInt32))])) (fun _ q => XT.i2c X96.here hx rfl (hb hby d31_13) rfl q) ?_
  exact own_retN X96 hx Bd.returns (by simp) (hb hby d31_14) hlk ⟨rfl, N97, e96⟩ (by first | decide | (dsimp only; omega)) (by first | decide | (dsimp only; omega))
theorem pd_7 : parseMethodDescriptor "()Z" = some ⟨[], some .boolean⟩ := by decide +kernel
theorem pd_8 : parseMethodDescriptor "([BI)C" = some ⟨[(.array .byte), .int], some .char⟩ := by decide +kernel
theorem d29_0 : decode jdk_42_method_56_code 0 = .ok (.aload_n 0, 1) := by decide +kernel
theorem d29_1 : decode jdk_42_method_56_code 1 = .ok (.invokevirtual 492, 3) := by decide +kernel
theorem d29_4 : decode jdk_42_method_56_code 4 = .ok (.ifCond .eq 12, 3) := by decide +kernel
theorem d29_7 : decode jdk_42_method_56_code 7 = .ok (.aload_n 0, 1) := by decide +kernel
theorem d29_8 : decode jdk_42_method_56_code 8 = .ok (.getfield 9, 3) := by decide +kernel
theorem d29_11 : decode jdk_42_method_56_code 11 = .ok (.iload_n 1, 1) := by decide +kernel
theorem d29_12 : decode jdk_42_method_56_code 12 = .ok (.invokestatic 495, 3) := by decide +kernel
theorem d29_15 : decode jdk_42_method_56_code 15 = .ok (.ireturn, 1) := by decide +kernel
def Q_own_chL (Z : State) (G1 : Int32) (G3 : Value) (a : Addr) (t : Addr) (kb : ClassId) (cs : List Int32) (i : Nat) (h0 : Heap) (n0 : Nat) (v : Option Value) (h : Heap) (L : List Loc) : Prop := v = some (.int (cs.getD i 0)) ∧ Fr n0 L ∧ h = h0
set_option maxRecDepth 65536 in
set_option maxHeartbeats 40000000 in
theorem own_chL (l : Launch) (Z : State) (a0 : Array Value) (hw : ∀ d ∈ tables_1, d.before a0 Z = true) (ws : List Jvm.Cond) (G1 : Int32) (G3 : Value) (a : Addr) (t : Addr) (kb : ClassId) (cs : List Int32) (i : Nat) (h0 : Heap) (n0 : Nat) (Z0 : n0 ≤ h0.size) (O2 : Sta Z Z.heap "java/lang/String" "COMPACT_STRINGS" "Z" (.int G1)) (O4 : Sta Z Z.heap "jdk/internal/util/Preconditions" "SIOOBE_FORMATTER" "Ljava/util/function/BiFunction;" G3) (P5 : ¬ (G1 = (0 : Int32))) (rG3 : G3.isRef = true) (OLD0 : Old Z n0 h0) (E_a : Exa Z h0 a "java/lang/String") (F_value_a : Fld Z h0 a "java/lang/String" "value" "[B" (.ref t)) (F_coder_a : Fld Z h0 a "java/lang/String" "coder" "B" (.int (0 : Int32))) (V_t : Arv Z h0 t kb .byte (Int32.ofNat cs.length) (own_bs cs) (.int 0)) (hl : cs.length ≤ 400) (h255 : ∀ z ∈ cs, ¬ z < 0 ∧ ¬ (255 : Int32) < z) (hi : i < cs.length) :
    MetFree l (⟨"java/lang/String", "charAt", "(I)C"⟩ : MethodName) (head1 (Jvm.Cond.code (⟨"java/lang/String", "charAt", "(I)C"⟩ : MethodName) jdk_42_method_56_code 2 (some .char) :: ws) ({ frames := 3, cells := 0, slots := 0, locals := 40 } : Room)) (fun ag U => ag = #[(.ref a), (.int (Int32.ofNat i))] ∧ Z.Warmed39 U.vm ∧ U.heap = h0) (fun _ _ _ _ _ => True) (fun _ U o U' => ∃ v L, o = .returned v ∧ Q_own_chL Z G1 G3 a t kb cs i h0 n0 v U'.heap L ∧ FrameEnd U o U' L ({ frames := 3, cells := 0, slots := 0, locals := 40 } : Room).cells ({ frames := 3, cells := 0, slots := 0, locals := 40 } : Room).slots) := by
  refine own_body (plainFor_of_name pn_1) ?_
  intro p e s m below meth c s₁ Bd hml hZ e0
  have hx := Bd.exec
  have hby := Bd.bytes
  have hlk : meth.locks = false := BodyLoose.notSynchronized Bd
  have hown : s.vm.findClass "java/lang/String" = some m.cls := findClass_of_methodNamed Bd.named
  have hnm := (name_of_methodNamed Bd.named Bd.method).1
  have X0 : Stand p l e ({ frames := 3, cells := 0, slots := 0, locals := 40 } : Room) s m #[(.ref a), (.int (Int32.ofNat i))] below meth c s₁ [] 0 0 := Stand.of_body Bd
  have N0 := Fr.nil n0
  have KP0 : Keep h0 h0 [] := Keep.refl h0 []
  have lt_a := E_a.lt
  have lt_t := V_t.lt
  have ty_a_t : a ≠ t := (Exa.neArv E_a V_t (w8 hw))
  refine own_cast (g' := (mkF m 0 #[.val (.ref a), .val (.int (Int32.ofNat i))] [])) (by first | (simp [entryFrame, mkF, argsToLocals, own_cat_int, own_cat_long, own_cat_ref, own_cat_null]; done) | rfl) ?_
  refine own_step (T' := s₁) (g' := (mkF m 1 #[.val (.ref a), .val (.int (Int32.ofNat i))] [(.ref a)])) (fun _ q => XS.aloadN X0.here hx rfl (hb hby d29_0) rfl rfl q) ?_
  refine own_callV (y := (⟨"java/lang/String", "isLatin1", "()Z"⟩ : MethodName)) (z := (⟨"java/lang/String", "isLatin1", "()Z"⟩ : MethodName)) X0 hx hZ hown (w163 hw) (w164 hw) (notFace_of_selects (args := #[]) (mvT hZ (w166 hw))) (w166 hw) (w165 hw) (by decide) (backOf (W := 0) (own_isl0 l Z a0 hw [] G1 G3 a h0 n0 Z0 O2 O4 P5 rG3 OLD0 F_coder_a) hZ (w167 hw) (w9 hw) (Nat.le_of_ble_eq_true rfl) (Nat.le_of_ble_eq_true rfl)) e0 E_a  (by first | decide | (dsimp only; omega)) (by first | decide | (dsimp only; omega)) (g := (mkF m 1 #[.val (.ref a), .val (.int (Int32.ofNat i))] [(.ref a)])) (argsL := []) (rest := []) rfl (by rw [hml]; rfl) (lenOf pd_7 rfl) rfl rfl (by show 2 * 0 + _ ≤ _; exact Nat.le_of_eq rfl) (hb hby d29_1) ?_
  rintro _ T98 L98 X98 ⟨rfl, N98q, e98⟩
  have N99 := Fr.app N0 N98q
  show own_Fin p e below _ T98 (mkF m 4 #[.val (.ref a), .val (.int (Int32.ofNat i))] [(.int (1 : Int32))])
  refine own_step (T' := T98) (g' := (mkF m 7 #[.val (.ref a), .val (.int (Int32.ofNat i))] [])) (fun _ q => XS.ifNo X98.here hx rfl (hb hby d29_4) rfl (by decide) q) ?_
  refine own_step (T' := T98) (g' := (mkF m 8 #[.val (.ref a), .val (.int (Int32.ofNat i))] [(.ref a)])) (fun _ q => XS.aloadN X98.here hx rfl (hb hby d29_7) rfl rfl q) ?_
  obtain ⟨T100, X100, e100, st100⟩ := getF X98 hx hZ hown (host := "") (Or.inl (w27 hw)) Via.refl e98 F_value_a (g := (mkF m 8 #[.val (.ref a), .val (.int (Int32.ofNat i))] [(.ref a)])) rfl rfl (hb hby d29_8)
  refine own_step (T' := T100) (g' := (mkF m 11 #[.val (.ref a), .val (.int (Int32.ofNat i))] [(.ref t)])) st100 ?_
  refine own_step (T' := T100) (g' := (mkF m 12 #[.val (.ref a), .val (.int (Int32.ofNat i))] [(.int (Int32.ofNat i)), (.ref t)])) (fun _ q => XS.iloadN X100.here hx rfl (hb hby d29_11) rfl q) ?_
  refine own_callS X100 hx hZ hown (w168 hw) (w169 hw) (w170 hw) (w171 hw) (by decide) (backOf (W := 0) (own_lchar l Z a0 hw [] G1 G3 t kb (Int32.ofNat cs.length) (own_bs cs) i (StrChars.lo8 (cs.getD i 0)) h0 n0 Z0 O2 O4 P5 rG3 OLD0 V_t (own_nneg (by omega) : ¬ (Int32.ofNat cs.length) < 0) (by rw [own_nat (by omega)]; exact hi : i < (Int32.ofNat cs.length).toNatClampNeg) (own_low_at hi : (own_bs cs).getD i (.int 0) = .int (StrChars.lo8 (cs.getD i 0)))) hZ (w171 hw) (w170 hw) (Nat.le_of_ble_eq_true rfl) (Nat.le_of_ble_eq_true rfl)) e100  (by first | decide | (dsimp only; omega)) (by first | decide | (dsimp only; omega)) (g := (mkF m 12 #[.val (.ref a), .val (.int (Int32.ofNat i))] [(.int (Int32.ofNat i)), (.ref t)])) (argsL := [(.ref t), (.int (Int32.ofNat i))]) (rest := []) rfl (by rw [hml]; rfl) (lenOf pd_8 rfl) rfl rfl (by show 2 * 0 + _ ≤ _; exact Nat.le_of_eq rfl) (hb hby d29_12) ?_
  rintro _ T101 L101 X101 ⟨rfl, N101q, e101⟩
  have N102 := Fr.app N99 N101q
  show own_Fin p e below _ T101 (mkF m 15 #[.val (.ref a), .val (.int (Int32.ofNat i))] [(.int (nar .char (StrChars.chr8 (StrChars.lo8 (cs.getD i 0)))))])
  exact own_retN X101 hx Bd.returns (by simp) (hb hby d29_15) hlk ⟨(by rw [StrChars.chr8_lo8 (h255 _ (own_getD_mem hi)).1 (h255 _ (own_getD_mem hi)).2, own_nar8 (h255 _ (own_getD_mem hi)), own_nar8 (h255 _ (own_getD_mem hi))]), N102, e101⟩ (by first | decide | (dsimp only; omega)) (by first | decide | (dsimp only; omega))
theorem pn_3 : plainName "java/lang/AbstractStringBuilder" = true := by first | (simp [plainName, overriddenIn]; done) | decide +kernel
theorem d8_0 : decode jdk_68_method_2_code 0 = .ok (.aload_n 0, 1) := by decide +kernel
theorem d8_1 : decode jdk_68_method_2_code 1 = .ok (.invokespecial 3, 3) := by decide +kernel
theorem d8_4 : decode jdk_68_method_2_code 4 = .ok (.getstatic 18, 3) := by decide +kernel
theorem d8_7 : decode jdk_68_method_2_code 7 = .ok (.ifCond .eq 18, 3) := by decide +kernel
theorem d8_10 : decode jdk_68_method_2_code 10 = .ok (.aload_n 0, 1) := by decide +kernel
theorem d8_11 : decode jdk_68_method_2_code 11 = .ok (.iload_n 1, 1) := by decide +kernel
theorem d8_12 : decode jdk_68_method_2_code 12 = .ok (.newarray .byte, 2) := by decide +kernel
theorem d8_14 : decode jdk_68_method_2_code 14 = .ok (.putfield 15, 3) := by decide +kernel
theorem d8_17 : decode jdk_68_method_2_code 17 = .ok (.aload_n 0, 1) := by decide +kernel
theorem d8_18 : decode jdk_68_method_2_code 18 = .ok (.iconst 0, 1) := by decide +kernel
theorem d8_19 : decode jdk_68_method_2_code 19 = .ok (.putfield 22, 3) := by decide +kernel
theorem d8_22 : decode jdk_68_method_2_code 22 = .ok (.goto 16, 3) := by decide +kernel
theorem d8_38 : decode jdk_68_method_2_code 38 = .ok (.return_, 1) := by decide +kernel
def Q_own_asb (Z : State) (G1 : Int32) (G3 : Value) (a : Addr) (h0 : Heap) (n0 : Nat) (v : Option Value) (h : Heap) (L : List Loc) : Prop := ∃ (u : Addr), ∃ (ku : ClassId), v = none ∧ Fr n0 L ∧ Keep h0 h [a] ∧ h0.size ≤ u ∧ Exa Z h a "java/lang/StringBuilder" ∧ Fld Z h a "java/lang/AbstractStringBuilder" "value" "[B" (.ref u) ∧ Fld Z h a "java/lang/AbstractStringBuilder" "coder" "B" (.int (0 : Int32)) ∧ Fld Z h a "java/lang/AbstractStringBuilder" "count" "I" (.int (0 : Int32)) ∧ Arv Z h u ku .byte (16 : Int32) (own_pad []) (.int 0)
set_option maxRecDepth 65536 in
set_option maxHeartbeats 40000000 in
theorem own_asb (l : Launch) (Z : State) (a0 : Array Value) (hw : ∀ d ∈ tables_1, d.before a0 Z = true) (ws : List Jvm.Cond) (G1 : Int32) (G3 : Value) (a : Addr) (h0 : Heap) (n0 : Nat) (Z0 : n0 ≤ h0.size) (O2 : Sta Z Z.heap "java/lang/String" "COMPACT_STRINGS" "Z" (.int G1)) (O4 : Sta Z Z.heap "jdk/internal/util/Preconditions" "SIOOBE_FORMATTER" "Ljava/util/function/BiFunction;" G3) (P5 : ¬ (G1 = (0 : Int32))) (rG3 : G3.isRef = true) (OLD0 : Old Z n0 h0) (E_a : Exa Z h0 a "java/lang/StringBuilder") (ge_a : n0 ≤ a) (F_value_a : Fld Z h0 a "java/lang/AbstractStringBuilder" "value" "[B" .null) (F_coder_a : Fld Z h0 a "java/lang/AbstractStringBuilder" "coder" "B" (.int (0 : Int32))) (F_count_a : Fld Z h0 a "java/lang/AbstractStringBuilder" "count" "I" (.int (0 : Int32))) :
    MetFree l (⟨"java/lang/AbstractStringBuilder", "<init>", "(I)V"⟩ : MethodName) (head1 (Jvm.Cond.code (⟨"java/lang/AbstractStringBuilder", "<init>", "(I)V"⟩ : MethodName) jdk_68_method_2_code 2 none :: ws) ({ frames := 1, cells := 1, slots := 16, locals := 12 } : Room)) (fun ag U => ag = #[(.ref a), (.int (16 : Int32))] ∧ Z.Warmed39 U.vm ∧ U.heap = h0) (fun _ _ _ _ _ => True) (fun _ U o U' => ∃ v L, o = .returned v ∧ Q_own_asb Z G1 G3 a h0 n0 v U'.heap L ∧ FrameEnd U o U' L ({ frames := 1, cells := 1, slots := 16, locals := 12 } : Room).cells ({ frames := 1, cells := 1, slots := 16, locals := 12 } : Room).slots) := by
  refine own_body (plainFor_of_name pn_3) ?_
  intro p e s m below meth c s₁ Bd hml hZ e0
  have hx := Bd.exec
  have hby := Bd.bytes
  have hlk : meth.locks = false := BodyLoose.notSynchronized Bd
  have hown : s.vm.findClass "java/lang/AbstractStringBuilder" = some m.cls := findClass_of_methodNamed Bd.named
  have hnm := (name_of_methodNamed Bd.named Bd.method).1
  have X0 : Stand p l e ({ frames := 1, cells := 1, slots := 16, locals := 12 } : Room) s m #[(.ref a), (.int (16 : Int32))] below meth c s₁ [] 0 0 := Stand.of_body Bd
  have N0 := Fr.nil n0
  have KP0 : Keep h0 h0 [a] := Keep.refl h0 [a]
  have lt_a := E_a.lt
  refine own_cast (g' := (mkF m 0 #[.val (.ref a), .val (.int (16 : Int32))] [])) (by first | (simp [entryFrame, mkF, argsToLocals, own_cat_int, own_cat_long, own_cat_ref, own_cat_null]; done) | rfl) ?_
  refine own_step (T' := s₁) (g' := (mkF m 1 #[.val (.ref a), .val (.int (16 : Int32))] [(.ref a)])) (fun _ q => XS.aloadN X0.here hx rfl (hb hby d8_0) rfl rfl q) ?_
  obtain ⟨T103, X103, e103, st103⟩ := initO X0 hx hZ hown (w54 hw) (w19 hw) (w20 hw) e0 (g := (mkF m 1 #[.val (.ref a), .val (.int (16 : Int32))] [(.ref a)])) rfl (by rw [hml]; rfl) rfl (hb hby d8_1) (Nat.le_of_ble_eq_true rfl) (W := 0) (by show 2 * 0 + _ ≤ _; exact Nat.le_of_eq rfl) (Nat.le_of_ble_eq_true rfl)
  refine own_step (T' := T103) (g' := (mkF m 4 #[.val (.ref a), .val (.int (16 : Int32))] [])) st103 ?_
  obtain ⟨T104, X104, e104, st104⟩ := getS2 X103 hx hZ hown (host := "") (Or.inl (w55 hw)) Via.refl e103 (O2.ext OLD0.2) (g := (mkF m 4 #[.val (.ref a), .val (.int (16 : Int32))] [])) rfl (hb hby d8_4)
  refine own_step (T' := T104) (g' := (mkF m 7 #[.val (.ref a), .val (.int (16 : Int32))] [(.int G1)])) st104 ?_
  have hc105 : ¬ (G1 = 0) := P5
  refine own_step (T' := T104) (g' := (mkF m 10 #[.val (.ref a), .val (.int (16 : Int32))] [])) (fun _ q => XS.ifNo X104.here hx rfl (hb hby d8_7) rfl (XT.i0_eq_f hc105) q) ?_
  refine own_step (T' := T104) (g' := (mkF m 11 #[.val (.ref a), .val (.int (16 : Int32))] [(.ref a)])) (fun _ q => XS.aloadN X104.here hx rfl (hb hby d8_10) rfl rfl q) ?_
  refine own_step (T' := T104) (g' := (mkF m 12 #[.val (.ref a), .val (.int (16 : Int32))] [(.int (16 : Int32)), (.ref a)])) (fun _ q => XS.iloadN X104.here hx rfl (hb hby d8_11) rfl q) ?_
  obtain ⟨T106, h106, k106, X106, e106, E106, A106, st106⟩ := newP X104 hx hZ (aty := .byte) (w22 hw) e104 (g := (mkF m 12 #[.val (.ref a), .val (.int (16 : Int32))] [(.int (16 : Int32)), (.ref a)])) rfl (hb hby d8_12) rfl (by decide) (cap := 16) (by decide) (by first | decide | omega) (by first | decide | (dsimp only; omega)) (by first | decide | (dsimp only; omega))
  obtain ⟨b106, g106⟩ : ∃ z, z = h0.size := ⟨_, rfl⟩
  rw [← g106] at A106 st106
  have n0_107 : n0 ≤ b106 := Nat.le_trans Z0 (Nat.le_of_eq g106.symm)
  have sz0_108 := Nat.le_trans KP0.1 (Nat.le_of_eq g106.symm)
  have ne109 : a ≠ b106 := own_ne lt_a (Nat.le_of_eq g106.symm)
  have V106 : Arv Z h106 b106 k106 .byte (16 : Int32) [(.int (0 : Int32)), (.int (0 : Int32)), (.int (0 : Int32)), (.int (0 : Int32)), (.int (0 : Int32)), (.int (0 : Int32)), (.int (0 : Int32)), (.int (0 : Int32)), (.int (0 : Int32)), (.int (0 : Int32)), (.int (0 : Int32)), (.int (0 : Int32)), (.int (0 : Int32)), (.int (0 : Int32)), (.int (0 : Int32)), (.int (0 : Int32))] (.int (0 : Int32)) := (Arv.new A106 (by decide)).pad (pad_rep [] (.int (0 : Int32)) 16)
  have ltb106 := V106.lt
  refine own_step (T' := T106) (g' := (mkF m 14 #[.val (.ref a), .val (.int (16 : Int32))] [(.ref b106), (.ref a)])) st106 ?_
  have qV110 : ([(.int (0 : Int32)), (.int (0 : Int32)), (.int (0 : Int32)), (.int (0 : Int32)), (.int (0 : Int32)), (.int (0 : Int32)), (.int (0 : Int32)), (.int (0 : Int32)), (.int (0 : Int32)), (.int (0 : Int32)), (.int (0 : Int32)), (.int (0 : Int32)), (.int (0 : Int32)), (.int (0 : Int32)), (.int (0 : Int32)), (.int (0 : Int32))] : List Value) = (own_pad []) := rfl
  have V110 : Arv Z h106 b106 k106 .byte (16 : Int32) (own_pad []) (.int (0 : Int32)) := own_fixv qV110 V106
  have c111 := (E_a.ext E106)
  have c112 := (F_value_a.ext E106)
  obtain ⟨T113, h113, X113, e113, W113, st113⟩ := putF X106 hx hZ hown (host := "") (Or.inl (w56 hw)) Via.refl e106 c112 c111 (Or.inl (w57 hw)) (w43 hw) (ty := (.array .byte)) (by decide) rfl rfl (g := (mkF m 14 #[.val (.ref a), .val (.int (16 : Int32))] [(.ref b106), (.ref a)])) rfl rfl (hb hby d8_14)
  have F114 := c112.same W113
  have N115 := Fr.snoc X113 N0 ge_a
  refine own_step (T' := T113) (g' := (mkF m 17 #[.val (.ref a), .val (.int (16 : Int32))] [])) st113 ?_
  refine own_step (T' := T113) (g' := (mkF m 18 #[.val (.ref a), .val (.int (16 : Int32))] [(.ref a)])) (fun _ q => XS.aloadN X113.here hx rfl (hb hby d8_17) rfl rfl q) ?_
  refine own_step (T' := T113) (g' := (mkF m 19 #[.val (.ref a), .val (.int (16 : Int32))] [(.int (0 : Int32)), (.ref a)])) (fun _ q => XS.iconst X113.here hx rfl (hb hby d8_18) q) ?_
  have c116 := (c111.wr W113)
  have c117 := ((F_coder_a.ext E106).other W113 (Or.inr (RoadKit.slot_ne (t := .byte) (t' := (.array .byte)) (Or.inl (w59 hw)) (Or.inl (w57 hw)) (by decide) (by decide) (by decide))))
  obtain ⟨T118, h118, X118, e118, W118, st118⟩ := putFN X113 hx hZ hown (w58 hw) Via.refl e113 c117 c116 (Or.inl (w59 hw)) (w43 hw) (ty := .byte) (v' := (.int (0 : Int32))) (by decide) rfl rfl (g := (mkF m 19 #[.val (.ref a), .val (.int (16 : Int32))] [(.int (0 : Int32)), (.ref a)])) rfl rfl (hb hby d8_19)
  have F119 := c117.same W118
  have N120 := Fr.snoc X118 N115 ge_a
  refine own_step (T' := T118) (g' := (mkF m 22 #[.val (.ref a), .val (.int (16 : Int32))] [])) st118 ?_
  refine own_step (T' := T118) (g' := (mkF m 38 #[.val (.ref a), .val (.int (16 : Int32))] [])) (fun _ q => XS.goto X118.here hx rfl (pc0 := 22) (pc' := 38) rfl (hb hby d8_22) (by decide) (by decide) q) ?_
  have c121 := (((KP0.ext E106).wr W113 (Or.inl (List.mem_of_getElem? (i := 0) rfl))).wr W118 (Or.inl (List.mem_of_getElem? (i := 0) rfl)))
  have c122 := (c116.wr W118)
  have c123 := (F114.other W118 (Or.inr (RoadKit.slot_ne (t := (.array .byte)) (t' := .byte) (Or.inl (w57 hw)) (Or.inl (w59 hw)) (by decide) (by decide) (by decide))))
  have c124 := (((F_count_a.ext E106).other W113 (Or.inr (RoadKit.slot_ne (t := .int) (t' := (.array .byte)) (Or.inl (w82 hw)) (Or.inl (w57 hw)) (by decide) (by decide) (by decide)))).other W118 (Or.inr (RoadKit.slot_ne (t := .int) (t' := .byte) (Or.inl (w82 hw)) (Or.inl (w59 hw)) (by decide) (by decide) (by decide))))
  have c125 := ((V110.other W113 (Ne.symm ne109)).other W118 (Ne.symm ne109))
  exact own_retV X118 hx Bd.returns (hb hby d8_38) hlk (by rw [e118]; exact ⟨b106, k106, rfl, N120, c121, sz0_108, c122, c123, F119, c124, c125⟩) (by first | decide | (dsimp only; omega)) (by first | decide | (dsimp only; omega))
theorem pn_4 : plainName "java/lang/StringBuilder" = true := by first | (simp [plainName, overriddenIn]; done) | decide +kernel
theorem pd_9 : parseMethodDescriptor "(I)V" = some ⟨[.int], none⟩ := by decide +kernel
theorem d7_0 : decode jdk_67_method_1_code 0 = .ok (.aload_n 0, 1) := by decide +kernel
theorem d7_1 : decode jdk_67_method_1_code 1 = .ok (.bipush 16, 2) := by decide +kernel
theorem d7_3 : decode jdk_67_method_1_code 3 = .ok (.invokespecial 1, 3) := by decide +kernel
theorem d7_6 : decode jdk_67_method_1_code 6 = .ok (.return_, 1) := by decide +kernel
def Q_own_sbi (Z : State) (G1 : Int32) (G3 : Value) (a : Addr) (h0 : Heap) (n0 : Nat) (v : Option Value) (h : Heap) (L : List Loc) : Prop := ∃ (u : Addr), ∃ (ku : ClassId), v = none ∧ Fr n0 L ∧ Keep h0 h [a] ∧ h0.size ≤ u ∧ Exa Z h a "java/lang/StringBuilder" ∧ Fld Z h a "java/lang/AbstractStringBuilder" "value" "[B" (.ref u) ∧ Fld Z h a "java/lang/AbstractStringBuilder" "coder" "B" (.int (0 : Int32)) ∧ Fld Z h a "java/lang/AbstractStringBuilder" "count" "I" (.int (0 : Int32)) ∧ Arv Z h u ku .byte (16 : Int32) (own_pad []) (.int 0)
set_option maxRecDepth 65536 in
set_option maxHeartbeats 40000000 in
theorem own_sbi (l : Launch) (Z : State) (a0 : Array Value) (hw : ∀ d ∈ tables_1, d.before a0 Z = true) (ws : List Jvm.Cond) (G1 : Int32) (G3 : Value) (a : Addr) (h0 : Heap) (n0 : Nat) (Z0 : n0 ≤ h0.size) (O2 : Sta Z Z.heap "java/lang/String" "COMPACT_STRINGS" "Z" (.int G1)) (O4 : Sta Z Z.heap "jdk/internal/util/Preconditions" "SIOOBE_FORMATTER" "Ljava/util/function/BiFunction;" G3) (P5 : ¬ (G1 = (0 : Int32))) (rG3 : G3.isRef = true) (OLD0 : Old Z n0 h0) (E_a : Exa Z h0 a "java/lang/StringBuilder") (ge_a : n0 ≤ a) (F_value_a : Fld Z h0 a "java/lang/AbstractStringBuilder" "value" "[B" .null) (F_coder_a : Fld Z h0 a "java/lang/AbstractStringBuilder" "coder" "B" (.int (0 : Int32))) (F_count_a : Fld Z h0 a "java/lang/AbstractStringBuilder" "count" "I" (.int (0 : Int32))) :
    MetFree l (⟨"java/lang/StringBuilder", "<init>", "()V"⟩ : MethodName) (head1 (Jvm.Cond.code (⟨"java/lang/StringBuilder", "<init>", "()V"⟩ : MethodName) jdk_67_method_1_code 1 none :: ws) ({ frames := 2, cells := 1, slots := 16, locals := 25 } : Room)) (fun ag U => ag = #[(.ref a)] ∧ Z.Warmed39 U.vm ∧ U.heap = h0) (fun _ _ _ _ _ => True) (fun _ U o U' => ∃ v L, o = .returned v ∧ Q_own_sbi Z G1 G3 a h0 n0 v U'.heap L ∧ FrameEnd U o U' L ({ frames := 2, cells := 1, slots := 16, locals := 25 } : Room).cells ({ frames := 2, cells := 1, slots := 16, locals := 25 } : Room).slots) := by
  refine own_body (plainFor_of_name pn_4) ?_
  intro p e s m below meth c s₁ Bd hml hZ e0
  have hx := Bd.exec
  have hby := Bd.bytes
  have hlk : meth.locks = false := BodyLoose.notSynchronized Bd
  have hown : s.vm.findClass "java/lang/StringBuilder" = some m.cls := findClass_of_methodNamed Bd.named
  have hnm := (name_of_methodNamed Bd.named Bd.method).1
  have X0 : Stand p l e ({ frames := 2, cells := 1, slots := 16, locals := 25 } : Room) s m #[(.ref a)] below meth c s₁ [] 0 0 := Stand.of_body Bd
  have N0 := Fr.nil n0
  have KP0 : Keep h0 h0 [a] := Keep.refl h0 [a]
  have lt_a := E_a.lt
  refine own_cast (g' := (mkF m 0 #[.val (.ref a)] [])) (by first | (simp [entryFrame, mkF, argsToLocals, own_cat_int, own_cat_long, own_cat_ref, own_cat_null]; done) | rfl) ?_
  refine own_step (T' := s₁) (g' := (mkF m 1 #[.val (.ref a)] [(.ref a)])) (fun _ q => XS.aloadN X0.here hx rfl (hb hby d7_0) rfl rfl q) ?_
  refine own_step (T' := s₁) (g' := (mkF m 3 #[.val (.ref a)] [(.int (16 : Int32)), (.ref a)])) (fun _ q => XS.bipush X0.here hx rfl (hb hby d7_1) q) ?_
  refine own_callC X0 hx hZ hown rfl (w48 hw) (w49 hw) (w53 hw) (by decide) (backOf (W := 0) (own_asb l Z a0 hw [] G1 G3 a h0 n0 Z0 O2 O4 P5 rG3 OLD0 E_a ge_a F_value_a F_coder_a F_count_a) hZ (w53 hw) (w52 hw) (Nat.le_of_ble_eq_true rfl) (Nat.le_of_ble_eq_true rfl)) e0  (by first | decide | (dsimp only; omega)) (by first | decide | (dsimp only; omega)) (g := (mkF m 3 #[.val (.ref a)] [(.int (16 : Int32)), (.ref a)])) (argsL := [(.int (16 : Int32))]) (rest := []) rfl (by rw [hml]; rfl) (lenOf pd_9 rfl) rfl rfl (by show 2 * 0 + _ ≤ _; exact Nat.le_of_eq rfl) (hb hby d7_3) ?_
  rintro _ T126 L126 X126 ⟨u126, ku126, rfl, N126q, K126, f0_126, f1_126, f2_126, f3_126, f4_126, f5_126⟩
  have n0_127 : n0 ≤ u126 := Nat.le_trans Z0 f0_126
  have sz0_128 := Nat.le_trans KP0.1 f0_126
  have ne129 : a ≠ u126 := own_ne lt_a f0_126
  have lt130 := f5_126.lt
  have N131 := Fr.app N0 N126q
  show own_Fin p e below _ T126 (mkF m 6 #[.val (.ref a)] [])
  have c132 := (KP0.trans K126 (allS (Or.inl (List.mem_of_getElem? (i := 0) rfl)) all0))
  exact own_retV X126 hx Bd.returns (hb hby d7_6) hlk ⟨u126, ku126, rfl, N131, c132, sz0_128, f1_126, f2_126, f3_126, f4_126, f5_126⟩ (by first | decide | (dsimp only; omega)) (by first | decide | (dsimp only; omega))
theorem d13_0 : decode jdk_68_method_9_code 0 = .ok (.aload_n 0, 1) := by decide +kernel
theorem d13_1 : decode jdk_68_method_9_code 1 = .ok (.getfield 15, 3) := by decide +kernel
theorem d13_4 : decode jdk_68_method_9_code 4 = .ok (.arraylength, 1) := by decide +kernel
theorem d13_5 : decode jdk_68_method_9_code 5 = .ok (.aload_n 0, 1) := by decide +kernel
theorem d13_6 : decode jdk_68_method_9_code 6 = .ok (.getfield 22, 3) := by decide +kernel
theorem d13_9 : decode jdk_68_method_9_code 9 = .ok (.ishr, 1) := by decide +kernel
theorem d13_10 : decode jdk_68_method_9_code 10 = .ok (.istore_n 2, 1) := by decide +kernel
theorem d13_11 : decode jdk_68_method_9_code 11 = .ok (.iload_n 1, 1) := by decide +kernel
theorem d13_12 : decode jdk_68_method_9_code 12 = .ok (.iload_n 2, 1) := by decide +kernel
theorem d13_13 : decode jdk_68_method_9_code 13 = .ok (.isub, 1) := by decide +kernel
theorem d13_14 : decode jdk_68_method_9_code 14 = .ok (.ifCond .le 24, 3) := by decide +kernel
theorem d13_38 : decode jdk_68_method_9_code 38 = .ok (.return_, 1) := by decide +kernel
def Q_own_ens (Z : State) (a : Addr) (u : Addr) (ku : ClassId) (bs : List Value) (mn : Nat) (h0 : Heap) (n0 : Nat) (v : Option Value) (h : Heap) (L : List Loc) : Prop := v = none ∧ Fr n0 L ∧ h = h0
set_option maxRecDepth 65536 in
set_option maxHeartbeats 40000000 in
theorem own_ens (l : Launch) (Z : State) (a0 : Array Value) (hw : ∀ d ∈ tables_1, d.before a0 Z = true) (ws : List Jvm.Cond) (a : Addr) (u : Addr) (ku : ClassId) (bs : List Value) (mn : Nat) (h0 : Heap) (n0 : Nat) (Z0 : n0 ≤ h0.size) (E_a : Exa Z h0 a "java/lang/StringBuilder") (F_value_a : Fld Z h0 a "java/lang/AbstractStringBuilder" "value" "[B" (.ref u)) (F_coder_a : Fld Z h0 a "java/lang/AbstractStringBuilder" "coder" "B" (.int (0 : Int32))) (F_count_a : Fld Z h0 a "java/lang/AbstractStringBuilder" "count" "I" (.int (Int32.ofNat bs.length))) (V_u : Arv Z h0 u ku .byte (16 : Int32) (own_pad bs) (.int 0)) (hm : mn ≤ 16) :
    MetFree l (⟨"java/lang/AbstractStringBuilder", "ensureCapacityInternal", "(I)V"⟩ : MethodName) (head1 (Jvm.Cond.code (⟨"java/lang/AbstractStringBuilder", "ensureCapacityInternal", "(I)V"⟩ : MethodName) jdk_68_method_9_code 3 none :: ws) ({ frames := 0, cells := 0, slots := 0, locals := 0 } : Room)) (fun ag U => ag = #[(.ref a), (.int (Int32.ofNat mn))] ∧ Z.Warmed39 U.vm ∧ U.heap = h0) (fun _ _ _ _ _ => True) (fun _ U o U' => ∃ v L, o = .returned v ∧ Q_own_ens Z a u ku bs mn h0 n0 v U'.heap L ∧ FrameEnd U o U' L ({ frames := 0, cells := 0, slots := 0, locals := 0 } : Room).cells ({ frames := 0, cells := 0, slots := 0, locals := 0 } : Room).slots) := by
  refine own_body (plainFor_of_name pn_3) ?_
  intro p e s m below meth c s₁ Bd hml hZ e0
  have hx := Bd.exec
  have hby := Bd.bytes
  have hlk : meth.locks = false := BodyLoose.notSynchronized Bd
  have hown : s.vm.findClass "java/lang/AbstractStringBuilder" = some m.cls := findClass_of_methodNamed Bd.named
  have hnm := (name_of_methodNamed Bd.named Bd.method).1
  have X0 : Stand p l e ({ frames := 0, cells := 0, slots := 0, locals := 0 } : Room) s m #[(.ref a), (.int (Int32.ofNat mn))] below meth c s₁ [] 0 0 := Stand.of_body Bd
  have N0 := Fr.nil n0
  have KP0 : Keep h0 h0 [] := Keep.refl h0 []
  have lt_a := E_a.lt
  have lt_u := V_u.lt
  have ty_a_u : a ≠ u := (Exa.neArv E_a V_u (w43 hw))
  refine own_cast (g' := (mkF m 0 #[.val (.ref a), .val (.int (Int32.ofNat mn)), .unset] [])) (by first | (simp [entryFrame, mkF, argsToLocals, own_cat_int, own_cat_long, own_cat_ref, own_cat_null]; done) | rfl) ?_
  refine own_step (T' := s₁) (g' := (mkF m 1 #[.val (.ref a), .val (.int (Int32.ofNat mn)), .unset] [(.ref a)])) (fun _ q => XS.aloadN X0.here hx rfl (hb hby d13_0) rfl rfl q) ?_
  obtain ⟨T133, X133, e133, st133⟩ := getF X0 hx hZ hown (host := "") (Or.inl (w56 hw)) Via.refl e0 F_value_a (g := (mkF m 1 #[.val (.ref a), .val (.int (Int32.ofNat mn)), .unset] [(.ref a)])) rfl rfl (hb hby d13_1)
  refine own_step (T' := T133) (g' := (mkF m 4 #[.val (.ref a), .val (.int (Int32.ofNat mn)), .unset] [(.ref u)])) st133 ?_
  refine own_step (T' := T133) (g' := (mkF m 5 #[.val (.ref a), .val (.int (Int32.ofNat mn)), .unset] [(.int (16 : Int32))])) (fun _ q => own_len X133 hx hZ e133 V_u (g := (mkF m 4 #[.val (.ref a), .val (.int (Int32.ofNat mn)), .unset] [(.ref u)])) rfl rfl (hb hby d13_4) _ q) ?_
  refine own_step (T' := T133) (g' := (mkF m 6 #[.val (.ref a), .val (.int (Int32.ofNat mn)), .unset] [(.ref a), (.int (16 : Int32))])) (fun _ q => XS.aloadN X133.here hx rfl (hb hby d13_5) rfl rfl q) ?_
  obtain ⟨T134, X134, e134, st134⟩ := getF X133 hx hZ hown (host := "") (Or.inl (w58 hw)) Via.refl e133 F_coder_a (g := (mkF m 6 #[.val (.ref a), .val (.int (Int32.ofNat mn)), .unset] [(.ref a), (.int (16 : Int32))])) rfl rfl (hb hby d13_6)
  refine own_step (T' := T134) (g' := (mkF m 9 #[.val (.ref a), .val (.int (Int32.ofNat mn)), .unset] [(.int (0 : Int32)), (.int (16 : Int32))])) st134 ?_
  refine own_step (T' := T134) (g' := (mkF m 10 #[.val (.ref a), .val (.int (Int32.ofNat mn)), .unset] [(.int (16 : Int32))])) (fun _ q => XT.ishr X134.here hx rfl (hb hby d13_9) rfl q) ?_
  refine own_step (T' := T134) (g' := (mkF m 11 #[.val (.ref a), .val (.int (Int32.ofNat mn)), .val (.int (16 : Int32))] [])) (fun _ q => XS.istoreN X134.here hx rfl (hb hby d13_10) rfl (l' := #[.val (.ref a), .val (.int (Int32.ofNat mn)), .val (.int (16 : Int32))]) rfl q) ?_
  refine own_step (T' := T134) (g' := (mkF m 12 #[.val (.ref a), .val (.int (Int32.ofNat mn)), .val (.int (16 : Int32))] [(.int (Int32.ofNat mn))])) (fun _ q => XS.iloadN X134.here hx rfl (hb hby d13_11) rfl q) ?_
  refine own_step (T' := T134) (g' := (mkF m 13 #[.val (.ref a), .val (.int (Int32.ofNat mn)), .val (.int (16 : Int32))] [(.int (16 : Int32)), (.int (Int32.ofNat mn))])) (fun _ q => XS.iloadN X134.here hx rfl (hb hby d13_12) rfl q) ?_
  refine own_step (T' := T134) (g' := (mkF m 14 #[.val (.ref a), .val (.int (Int32.ofNat mn)), .val (.int (16 : Int32))] [(.int ((Int32.ofNat mn) - (16 : Int32)))])) (fun _ q => XS.isub X134.here hx rfl (hb hby d13_13) rfl q) ?_
  have hc135 : ¬ (0 < ((Int32.ofNat mn) - (16 : Int32))) := own_le16 hm
  refine own_step (T' := T134) (g' := (mkF m 38 #[.val (.ref a), .val (.int (Int32.ofNat mn)), .val (.int (16 : Int32))] [])) (fun _ q => XS.ifYes X134.here hx rfl (pc0 := 14) (pc' := 38) rfl (hb hby d13_14) rfl (XT.i0_le_t hc135) (by decide) (by decide) q) ?_
  exact own_retV X134 hx Bd.returns (hb hby d13_38) hlk ⟨rfl, N0, e134⟩ (by first | decide | (dsimp only; omega)) (by first | decide | (dsimp only; omega))
theorem d15_0 : decode jdk_68_method_71_code 0 = .ok (.getstatic 18, 3) := by decide +kernel
theorem d15_3 : decode jdk_68_method_71_code 3 = .ok (.ifCond .eq 18, 3) := by decide +kernel
theorem d15_6 : decode jdk_68_method_71_code 6 = .ok (.aload_n 0, 1) := by decide +kernel
theorem d15_7 : decode jdk_68_method_71_code 7 = .ok (.getfield 22, 3) := by decide +kernel
theorem d15_10 : decode jdk_68_method_71_code 10 = .ok (.aload_n 1, 1) := by decide +kernel
theorem d15_11 : decode jdk_68_method_71_code 11 = .ok (.invokevirtual 40, 3) := by decide +kernel
theorem d15_14 : decode jdk_68_method_71_code 14 = .ok (.if_icmp .eq 7, 3) := by decide +kernel
theorem d15_21 : decode jdk_68_method_71_code 21 = .ok (.return_, 1) := by decide +kernel
def Q_own_inf (Z : State) (G1 : Int32) (G3 : Value) (a : Addr) (f : Addr) (h0 : Heap) (n0 : Nat) (v : Option Value) (h : Heap) (L : List Loc) : Prop := v = none ∧ Fr n0 L ∧ h = h0
set_option maxRecDepth 65536 in
set_option maxHeartbeats 40000000 in
theorem own_inf (l : Launch) (Z : State) (a0 : Array Value) (hw : ∀ d ∈ tables_1, d.before a0 Z = true) (ws : List Jvm.Cond) (G1 : Int32) (G3 : Value) (a : Addr) (f : Addr) (h0 : Heap) (n0 : Nat) (Z0 : n0 ≤ h0.size) (O2 : Sta Z Z.heap "java/lang/String" "COMPACT_STRINGS" "Z" (.int G1)) (O4 : Sta Z Z.heap "jdk/internal/util/Preconditions" "SIOOBE_FORMATTER" "Ljava/util/function/BiFunction;" G3) (P5 : ¬ (G1 = (0 : Int32))) (rG3 : G3.isRef = true) (OLD0 : Old Z n0 h0) (F_coder_a : Fld Z h0 a "java/lang/AbstractStringBuilder" "coder" "B" (.int (0 : Int32))) (E_f : Exa Z h0 f "java/lang/String") (F_coder_f : Fld Z h0 f "java/lang/String" "coder" "B" (.int (0 : Int32))) :
    MetFree l (⟨"java/lang/AbstractStringBuilder", "inflateIfNeededFor", "(Ljava/lang/String;)V"⟩ : MethodName) (head1 (Jvm.Cond.code (⟨"java/lang/AbstractStringBuilder", "inflateIfNeededFor", "(Ljava/lang/String;)V"⟩ : MethodName) jdk_68_method_71_code 2 none :: ws) ({ frames := 1, cells := 0, slots := 0, locals := 13 } : Room)) (fun ag U => ag = #[(.ref a), (.ref f)] ∧ Z.Warmed39 U.vm ∧ U.heap = h0) (fun _ _ _ _ _ => True) (fun _ U o U' => ∃ v L, o = .returned v ∧ Q_own_inf Z G1 G3 a f h0 n0 v U'.heap L ∧ FrameEnd U o U' L ({ frames := 1, cells := 0, slots := 0, locals := 13 } : Room).cells ({ frames := 1, cells := 0, slots := 0, locals := 13 } : Room).slots) := by
  refine own_body (plainFor_of_name pn_3) ?_
  intro p e s m below meth c s₁ Bd hml hZ e0
  have hx := Bd.exec
  have hby := Bd.bytes
  have hlk : meth.locks = false := BodyLoose.notSynchronized Bd
  have hown : s.vm.findClass "java/lang/AbstractStringBuilder" = some m.cls := findClass_of_methodNamed Bd.named
  have hnm := (name_of_methodNamed Bd.named Bd.method).1
  have X0 : Stand p l e ({ frames := 1, cells := 0, slots := 0, locals := 13 } : Room) s m #[(.ref a), (.ref f)] below meth c s₁ [] 0 0 := Stand.of_body Bd
  have N0 := Fr.nil n0
  have KP0 : Keep h0 h0 [] := Keep.refl h0 []
  have lt_a := F_coder_a.lt
  have lt_f := E_f.lt
  refine own_cast (g' := (mkF m 0 #[.val (.ref a), .val (.ref f)] [])) (by first | (simp [entryFrame, mkF, argsToLocals, own_cat_int, own_cat_long, own_cat_ref, own_cat_null]; done) | rfl) ?_
  obtain ⟨T136, X136, e136, st136⟩ := getS2 X0 hx hZ hown (host := "") (Or.inl (w55 hw)) Via.refl e0 (O2.ext OLD0.2) (g := (mkF m 0 #[.val (.ref a), .val (.ref f)] [])) rfl (hb hby d15_0)
  refine own_step (T' := T136) (g' := (mkF m 3 #[.val (.ref a), .val (.ref f)] [(.int G1)])) st136 ?_
  have hc137 : ¬ (G1 = 0) := P5
  refine own_step (T' := T136) (g' := (mkF m 6 #[.val (.ref a), .val (.ref f)] [])) (fun _ q => XS.ifNo X136.here hx rfl (hb hby d15_3) rfl (XT.i0_eq_f hc137) q) ?_
  refine own_step (T' := T136) (g' := (mkF m 7 #[.val (.ref a), .val (.ref f)] [(.ref a)])) (fun _ q => XS.aloadN X136.here hx rfl (hb hby d15_6) rfl rfl q) ?_
  obtain ⟨T138, X138, e138, st138⟩ := getF X136 hx hZ hown (host := "") (Or.inl (w58 hw)) Via.refl e136 F_coder_a (g := (mkF m 7 #[.val (.ref a), .val (.ref f)] [(.ref a)])) rfl rfl (hb hby d15_7)
  refine own_step (T' := T138) (g' := (mkF m 10 #[.val (.ref a), .val (.ref f)] [(.int (0 : Int32))])) st138 ?_
  refine own_step (T' := T138) (g' := (mkF m 11 #[.val (.ref a), .val (.ref f)] [(.ref f), (.int (0 : Int32))])) (fun _ q => XS.aloadN X138.here hx rfl (hb hby d15_10) rfl rfl q) ?_
  refine own_callV (y := (⟨"java/lang/String", "coder", "()B"⟩ : MethodName)) (z := (⟨"java/lang/String", "coder", "()B"⟩ : MethodName)) X138 hx hZ hown (w98 hw) (w76 hw) (notFace_of_selects (args := #[]) (mvT hZ (w78 hw))) (w78 hw) (w77 hw) (by decide) (backOf (W := 1) (own_cod0 l Z a0 hw [] G1 G3 f h0 n0 Z0 O2 O4 P5 rG3 OLD0 F_coder_f) hZ (w79 hw) (w9 hw) (Nat.le_of_ble_eq_true rfl) (Nat.le_of_ble_eq_true rfl)) e138 E_f  (by first | decide | (dsimp only; omega)) (by first | decide | (dsimp only; omega)) (g := (mkF m 11 #[.val (.ref a), .val (.ref f)] [(.ref f), (.int (0 : Int32))])) (argsL := []) (rest := [(.int (0 : Int32))]) rfl (by rw [hml]; rfl) (lenOf pd_4 rfl) rfl rfl (by show 2 * 0 + _ ≤ _; exact Nat.le_of_eq rfl) (hb hby d15_11) ?_
  rintro _ T139 L139 X139 ⟨rfl, N139q, e139⟩
  have N140 := Fr.app N0 N139q
  show own_Fin p e below _ T139 (mkF m 14 #[.val (.ref a), .val (.ref f)] [(.int (0 : Int32)), (.int (0 : Int32))])
  refine own_step (T' := T139) (g' := (mkF m 21 #[.val (.ref a), .val (.ref f)] [])) (fun _ q => XS.icmpYes X139.here hx rfl (pc0 := 14) (pc' := 21) rfl (hb hby d15_14) rfl (by decide) (by decide) (by decide) q) ?_
  exact own_retV X139 hx Bd.returns (hb hby d15_21) hlk ⟨rfl, N140, e139⟩ (by first | decide | (dsimp only; omega)) (by first | decide | (dsimp only; omega))
theorem d16_0 : decode jdk_42_method_147_code 0 = .ok (.aload_n 0, 1) := by decide +kernel
theorem d16_1 : decode jdk_42_method_147_code 1 = .ok (.invokevirtual 335, 3) := by decide +kernel
theorem d16_4 : decode jdk_42_method_147_code 4 = .ok (.iload_n 3, 1) := by decide +kernel
theorem d16_5 : decode jdk_42_method_147_code 5 = .ok (.if_icmp .ne 23, 3) := by decide +kernel
theorem d16_8 : decode jdk_42_method_147_code 8 = .ok (.aload_n 0, 1) := by decide +kernel
theorem d16_9 : decode jdk_42_method_147_code 9 = .ok (.getfield 9, 3) := by decide +kernel
theorem d16_12 : decode jdk_42_method_147_code 12 = .ok (.iconst 0, 1) := by decide +kernel
theorem d16_13 : decode jdk_42_method_147_code 13 = .ok (.aload_n 1, 1) := by decide +kernel
theorem d16_14 : decode jdk_42_method_147_code 14 = .ok (.iload_n 2, 1) := by decide +kernel
theorem d16_15 : decode jdk_42_method_147_code 15 = .ok (.iload_n 3, 1) := by decide +kernel
theorem d16_16 : decode jdk_42_method_147_code 16 = .ok (.ishl, 1) := by decide +kernel
theorem d16_17 : decode jdk_42_method_147_code 17 = .ok (.aload_n 0, 1) := by decide +kernel
theorem d16_18 : decode jdk_42_method_147_code 18 = .ok (.getfield 9, 3) := by decide +kernel
theorem d16_21 : decode jdk_42_method_147_code 21 = .ok (.arraylength, 1) := by decide +kernel
theorem d16_22 : decode jdk_42_method_147_code 22 = .ok (.invokestatic 212, 3) := by decide +kernel
theorem d16_25 : decode jdk_42_method_147_code 25 = .ok (.goto 18, 3) := by decide +kernel
theorem d16_43 : decode jdk_42_method_147_code 43 = .ok (.return_, 1) := by decide +kernel
def Q_own_gby (Z : State) (G1 : Int32) (G3 : Value) (f : Addr) (t : Addr) (kb : ClassId) (ts : List Value) (u : Addr) (ku : ClassId) (bs : List Value) (h0 : Heap) (n0 : Nat) (v : Option Value) (h : Heap) (L : List Loc) : Prop := v = none ∧ Fr n0 L ∧ Keep h0 h [u] ∧ Arv Z h u ku .byte (16 : Int32) (own_pad (bs ++ ts)) (.int 0)
set_option maxRecDepth 65536 in
set_option maxHeartbeats 40000000 in
theorem own_gby (l : Launch) (Z : State) (a0 : Array Value) (hw : ∀ d ∈ tables_1, d.before a0 Z = true) (ws : List Jvm.Cond) (G1 : Int32) (G3 : Value) (f : Addr) (t : Addr) (kb : ClassId) (ts : List Value) (u : Addr) (ku : ClassId) (bs : List Value) (h0 : Heap) (n0 : Nat) (Z0 : n0 ≤ h0.size) (O2 : Sta Z Z.heap "java/lang/String" "COMPACT_STRINGS" "Z" (.int G1)) (O4 : Sta Z Z.heap "jdk/internal/util/Preconditions" "SIOOBE_FORMATTER" "Ljava/util/function/BiFunction;" G3) (P5 : ¬ (G1 = (0 : Int32))) (rG3 : G3.isRef = true) (OLD0 : Old Z n0 h0) (E_f : Exa Z h0 f "java/lang/String") (F_value_f : Fld Z h0 f "java/lang/String" "value" "[B" (.ref t)) (F_coder_f : Fld Z h0 f "java/lang/String" "coder" "B" (.int (0 : Int32))) (V_t : Arv Z h0 t kb .byte (Int32.ofNat ts.length) ts (.int 0)) (V_u : Arv Z h0 u ku .byte (16 : Int32) (own_pad bs) (.int 0)) (ge_u : n0 ≤ u) (hbl : bs.length + ts.length ≤ 16) :
    MetFree l (⟨"java/lang/String", "getBytes", "([BIB)V"⟩ : MethodName) (head1 (Jvm.Cond.code (⟨"java/lang/String", "getBytes", "([BIB)V"⟩ : MethodName) jdk_42_method_147_code 4 none :: ws) ({ frames := 1, cells := 0, slots := 0, locals := 18 } : Room)) (fun ag U => ag = #[(.ref f), (.ref u), (.int (Int32.ofNat bs.length)), (.int (0 : Int32))] ∧ Z.Warmed39 U.vm ∧ U.heap = h0) (fun _ _ _ _ _ => True) (fun _ U o U' => ∃ v L, o = .returned v ∧ Q_own_gby Z G1 G3 f t kb ts u ku bs h0 n0 v U'.heap L ∧ FrameEnd U o U' L ({ frames := 1, cells := 0, slots := 0, locals := 18 } : Room).cells ({ frames := 1, cells := 0, slots := 0, locals := 18 } : Room).slots) := by
  refine own_body (plainFor_of_name pn_1) ?_
  intro p e s m below meth c s₁ Bd hml hZ e0
  have hx := Bd.exec
  have hby := Bd.bytes
  have hlk : meth.locks = false := BodyLoose.notSynchronized Bd
  have hown : s.vm.findClass "java/lang/String" = some m.cls := findClass_of_methodNamed Bd.named
  have hnm := (name_of_methodNamed Bd.named Bd.method).1
  have X0 : Stand p l e ({ frames := 1, cells := 0, slots := 0, locals := 18 } : Room) s m #[(.ref f), (.ref u), (.int (Int32.ofNat bs.length)), (.int (0 : Int32))] below meth c s₁ [] 0 0 := Stand.of_body Bd
  have N0 := Fr.nil n0
  have KP0 : Keep h0 h0 [u] := Keep.refl h0 [u]
  have lt_f := E_f.lt
  have lt_t := V_t.lt
  have lt_u := V_u.lt
  have ty_f_t : f ≠ t := (Exa.neArv E_f V_t (w8 hw))
  have ty_f_u : f ≠ u := (Exa.neArv E_f V_u (w8 hw))
  refine own_cast (g' := (mkF m 0 #[.val (.ref f), .val (.ref u), .val (.int (Int32.ofNat bs.length)), .val (.int (0 : Int32))] [])) (by first | (simp [entryFrame, mkF, argsToLocals, own_cat_int, own_cat_long, own_cat_ref, own_cat_null]; done) | rfl) ?_
  refine own_step (T' := s₁) (g' := (mkF m 1 #[.val (.ref f), .val (.ref u), .val (.int (Int32.ofNat bs.length)), .val (.int (0 : Int32))] [(.ref f)])) (fun _ q => XS.aloadN X0.here hx rfl (hb hby d16_0) rfl rfl q) ?_
  refine own_callV (y := (⟨"java/lang/String", "coder", "()B"⟩ : MethodName)) (z := (⟨"java/lang/String", "coder", "()B"⟩ : MethodName)) X0 hx hZ hown (w75 hw) (w76 hw) (notFace_of_selects (args := #[]) (mvT hZ (w78 hw))) (w78 hw) (w77 hw) (by decide) (backOf (W := 0) (own_cod0 l Z a0 hw [] G1 G3 f h0 n0 Z0 O2 O4 P5 rG3 OLD0 F_coder_f) hZ (w79 hw) (w9 hw) (Nat.le_of_ble_eq_true rfl) (Nat.le_of_ble_eq_true rfl)) e0 E_f  (by first | decide | (dsimp only; omega)) (by first | decide | (dsimp only; omega)) (g := (mkF m 1 #[.val (.ref f), .val (.ref u), .val (.int (Int32.ofNat bs.length)), .val (.int (0 : Int32))] [(.ref f)])) (argsL := []) (rest := []) rfl (by rw [hml]; rfl) (lenOf pd_4 rfl) rfl rfl (by show 2 * 0 + _ ≤ _; exact Nat.le_of_eq rfl) (hb hby d16_1) ?_
  rintro _ T141 L141 X141 ⟨rfl, N141q, e141⟩
  have N142 := Fr.app N0 N141q
  show own_Fin p e below _ T141 (mkF m 4 #[.val (.ref f), .val (.ref u), .val (.int (Int32.ofNat bs.length)), .val (.int (0 : Int32))] [(.int (0 : Int32))])
  refine own_step (T' := T141) (g' := (mkF m 5 #[.val (.ref f), .val (.ref u), .val (.int (Int32.ofNat bs.length)), .val (.int (0 : Int32))] [(.int (0 : Int32)), (.int (0 : Int32))])) (fun _ q => XS.iloadN X141.here hx rfl (hb hby d16_4) rfl q) ?_
  refine own_step (T' := T141) (g' := (mkF m 8 #[.val (.ref f), .val (.ref u), .val (.int (Int32.ofNat bs.length)), .val (.int (0 : Int32))] [])) (fun _ q => XS.icmpNo X141.here hx rfl (hb hby d16_5) rfl (by decide) q) ?_
  refine own_step (T' := T141) (g' := (mkF m 9 #[.val (.ref f), .val (.ref u), .val (.int (Int32.ofNat bs.length)), .val (.int (0 : Int32))] [(.ref f)])) (fun _ q => XS.aloadN X141.here hx rfl (hb hby d16_8) rfl rfl q) ?_
  obtain ⟨T143, X143, e143, st143⟩ := getF X141 hx hZ hown (host := "") (Or.inl (w27 hw)) Via.refl e141 F_value_f (g := (mkF m 9 #[.val (.ref f), .val (.ref u), .val (.int (Int32.ofNat bs.length)), .val (.int (0 : Int32))] [(.ref f)])) rfl rfl (hb hby d16_9)
  refine own_step (T' := T143) (g' := (mkF m 12 #[.val (.ref f), .val (.ref u), .val (.int (Int32.ofNat bs.length)), .val (.int (0 : Int32))] [(.ref t)])) st143 ?_
  refine own_step (T' := T143) (g' := (mkF m 13 #[.val (.ref f), .val (.ref u), .val (.int (Int32.ofNat bs.length)), .val (.int (0 : Int32))] [(.int (0 : Int32)), (.ref t)])) (fun _ q => XS.iconst X143.here hx rfl (hb hby d16_12) q) ?_
  refine own_step (T' := T143) (g' := (mkF m 14 #[.val (.ref f), .val (.ref u), .val (.int (Int32.ofNat bs.length)), .val (.int (0 : Int32))] [(.ref u), (.int (0 : Int32)), (.ref t)])) (fun _ q => XS.aloadN X143.here hx rfl (hb hby d16_13) rfl rfl q) ?_
  refine own_step (T' := T143) (g' := (mkF m 15 #[.val (.ref f), .val (.ref u), .val (.int (Int32.ofNat bs.length)), .val (.int (0 : Int32))] [(.int (Int32.ofNat bs.length)), (.ref u), (.int (0 : Int32)), (.ref t)])) (fun _ q => XS.iloadN X143.here hx rfl (hb hby d16_14) rfl q) ?_
  refine own_step (T' := T143) (g' := (mkF m 16 #[.val (.ref f), .val (.ref u), .val (.int (Int32.ofNat bs.length)), .val (.int (0 : Int32))] [(.int (0 : Int32)), (.int (Int32.ofNat bs.length)), (.ref u), (.int (0 : Int32)), (.ref t)])) (fun _ q => XS.iloadN X143.here hx rfl (hb hby d16_15) rfl q) ?_
  refine own_step (T' := T143) (g' := (mkF m 17 #[.val (.ref f), .val (.ref u), .val (.int (Int32.ofNat bs.length)), .val (.int (0 : Int32))] [(.int ((Int32.ofNat bs.length) <<< ((0 : Int32) &&& 31))), (.ref u), (.int (0 : Int32)), (.ref t)])) (fun _ q => XT.ishl X143.here hx rfl (hb hby d16_16) rfl q) ?_
  rw [show ((Int32.ofNat bs.length) <<< ((0 : Int32) &&& 31)) = (Int32.ofNat bs.length) from (own_shl0 _)]
  refine own_step (T' := T143) (g' := (mkF m 18 #[.val (.ref f), .val (.ref u), .val (.int (Int32.ofNat bs.length)), .val (.int (0 : Int32))] [(.ref f), (.int (Int32.ofNat bs.length)), (.ref u), (.int (0 : Int32)), (.ref t)])) (fun _ q => XS.aloadN X143.here hx rfl (hb hby d16_17) rfl rfl q) ?_
  obtain ⟨T144, X144, e144, st144⟩ := getF X143 hx hZ hown (host := "") (Or.inl (w27 hw)) Via.refl e143 F_value_f (g := (mkF m 18 #[.val (.ref f), .val (.ref u), .val (.int (Int32.ofNat bs.length)), .val (.int (0 : Int32))] [(.ref f), (.int (Int32.ofNat bs.length)), (.ref u), (.int (0 : Int32)), (.ref t)])) rfl rfl (hb hby d16_18)
  refine own_step (T' := T144) (g' := (mkF m 21 #[.val (.ref f), .val (.ref u), .val (.int (Int32.ofNat bs.length)), .val (.int (0 : Int32))] [(.ref t), (.int (Int32.ofNat bs.length)), (.ref u), (.int (0 : Int32)), (.ref t)])) st144 ?_
  refine own_step (T' := T144) (g' := (mkF m 22 #[.val (.ref f), .val (.ref u), .val (.int (Int32.ofNat bs.length)), .val (.int (0 : Int32))] [(.int (Int32.ofNat ts.length)), (.int (Int32.ofNat bs.length)), (.ref u), (.int (0 : Int32)), (.ref t)])) (fun _ q => own_len X144 hx hZ e144 V_t (g := (mkF m 21 #[.val (.ref f), .val (.ref u), .val (.int (Int32.ofNat bs.length)), .val (.int (0 : Int32))] [(.ref t), (.int (Int32.ofNat bs.length)), (.ref u), (.int (0 : Int32)), (.ref t)])) rfl rfl (hb hby d16_21) _ q) ?_
  obtain ⟨T145, h145, L145, X145, e145, N145, K145, A145, st145⟩ := cpA X144 hx hZ hown (w104 hw) (w107 hw) (w105 hw) (w106 hw) e144 V_t V_u (us := ts) (Or.inl ⟨rfl, rfl⟩) (by decide) (own_nneg (by omega)) (own_nneg (by omega)) (by rw [own_z32]; omega) (by rw [own_nat (by omega), own_nat (by omega)]; exact hbl) (own_rng0 ts _ (by omega)) (by rw [own_nat (by omega), own_nat (by omega), own_padlen (by omega)]; exact hbl) N142 ge_u (g := (mkF m 22 #[.val (.ref f), .val (.ref u), .val (.int (Int32.ofNat bs.length)), .val (.int (0 : Int32))] [(.int (Int32.ofNat ts.length)), (.int (Int32.ofNat bs.length)), (.ref u), (.int (0 : Int32)), (.ref t)])) rfl (by rw [hml]; rfl) (rest := []) rfl (hb hby d16_22) (Nat.le_of_ble_eq_true rfl) (W := 0) (by show 2 * 0 + _ ≤ _; exact Nat.le_of_eq rfl) (by rw [own_nfw]; exact Nat.le_of_ble_eq_true rfl)
  have qV146 : (((own_pad bs).take (Int32.ofNat bs.length).toNatClampNeg ++ ts ++ (own_pad bs).drop ((Int32.ofNat bs.length).toNatClampNeg + (Int32.ofNat ts.length).toNatClampNeg)) : List Value) = (own_pad (bs ++ ts)) := (own_pad_cp hbl)
  have V146 : Arv Z h145 u ku .byte (16 : Int32) (own_pad (bs ++ ts)) (.int 0) := own_fixv qV146 A145
  refine own_step (T' := T145) (g' := (mkF m 25 #[.val (.ref f), .val (.ref u), .val (.int (Int32.ofNat bs.length)), .val (.int (0 : Int32))] [])) st145 ?_
  refine own_step (T' := T145) (g' := (mkF m 43 #[.val (.ref f), .val (.ref u), .val (.int (Int32.ofNat bs.length)), .val (.int (0 : Int32))] [])) (fun _ q => XS.goto X145.here hx rfl (pc0 := 25) (pc' := 43) rfl (hb hby d16_25) (by decide) (by decide) q) ?_
  have c147 := (KP0.trans K145 (allS (Or.inl (List.mem_of_getElem? (i := 0) rfl)) all0))
  exact own_retV X145 hx Bd.returns (hb hby d16_43) hlk (by rw [e145]; exact ⟨rfl, N145, c147, V146⟩) (by first | decide | (dsimp only; omega)) (by first | decide | (dsimp only; omega))
theorem pd_10 : parseMethodDescriptor "(Ljava/lang/String;)V" = some ⟨[(.object "java/lang/String")], none⟩ := by decide +kernel
theorem pd_11 : parseMethodDescriptor "([BIB)V" = some ⟨[(.array .byte), .int, .byte], none⟩ := by decide +kernel
theorem d14_0 : decode jdk_68_method_73_code 0 = .ok (.aload_n 0, 1) := by decide +kernel
theorem d14_1 : decode jdk_68_method_73_code 1 = .ok (.aload_n 2, 1) := by decide +kernel
theorem d14_2 : decode jdk_68_method_73_code 2 = .ok (.invokevirtual 397, 3) := by decide +kernel
theorem d14_5 : decode jdk_68_method_73_code 5 = .ok (.aload_n 2, 1) := by decide +kernel
theorem d14_6 : decode jdk_68_method_73_code 6 = .ok (.aload_n 0, 1) := by decide +kernel
theorem d14_7 : decode jdk_68_method_73_code 7 = .ok (.getfield 15, 3) := by decide +kernel
theorem d14_10 : decode jdk_68_method_73_code 10 = .ok (.iload_n 1, 1) := by decide +kernel
theorem d14_11 : decode jdk_68_method_73_code 11 = .ok (.aload_n 0, 1) := by decide +kernel
theorem d14_12 : decode jdk_68_method_73_code 12 = .ok (.getfield 22, 3) := by decide +kernel
theorem d14_15 : decode jdk_68_method_73_code 15 = .ok (.invokevirtual 399, 3) := by decide +kernel
theorem d14_18 : decode jdk_68_method_73_code 18 = .ok (.return_, 1) := by decide +kernel
def Q_own_psa (Z : State) (G1 : Int32) (G3 : Value) (a : Addr) (u : Addr) (ku : ClassId) (bs : List Value) (f : Addr) (t : Addr) (kb : ClassId) (ts : List Value) (h0 : Heap) (n0 : Nat) (v : Option Value) (h : Heap) (L : List Loc) : Prop := v = none ∧ Fr n0 L ∧ Keep h0 h [u] ∧ Arv Z h u ku .byte (16 : Int32) (own_pad (bs ++ ts)) (.int 0)
set_option maxRecDepth 65536 in
set_option maxHeartbeats 40000000 in
theorem own_psa (l : Launch) (Z : State) (a0 : Array Value) (hw : ∀ d ∈ tables_1, d.before a0 Z = true) (ws : List Jvm.Cond) (G1 : Int32) (G3 : Value) (a : Addr) (u : Addr) (ku : ClassId) (bs : List Value) (f : Addr) (t : Addr) (kb : ClassId) (ts : List Value) (h0 : Heap) (n0 : Nat) (Z0 : n0 ≤ h0.size) (O2 : Sta Z Z.heap "java/lang/String" "COMPACT_STRINGS" "Z" (.int G1)) (O4 : Sta Z Z.heap "jdk/internal/util/Preconditions" "SIOOBE_FORMATTER" "Ljava/util/function/BiFunction;" G3) (P5 : ¬ (G1 = (0 : Int32))) (rG3 : G3.isRef = true) (OLD0 : Old Z n0 h0) (E_a : Exa Z h0 a "java/lang/StringBuilder") (F_value_a : Fld Z h0 a "java/lang/AbstractStringBuilder" "value" "[B" (.ref u)) (F_coder_a : Fld Z h0 a "java/lang/AbstractStringBuilder" "coder" "B" (.int (0 : Int32))) (F_count_a : Fld Z h0 a "java/lang/AbstractStringBuilder" "count" "I" (.int (Int32.ofNat bs.length))) (V_u : Arv Z h0 u ku .byte (16 : Int32) (own_pad bs) (.int 0)) (E_f : Exa Z h0 f "java/lang/String") (F_value_f : Fld Z h0 f "java/lang/String" "value" "[B" (.ref t)) (F_coder_f : Fld Z h0 f "java/lang/String" "coder" "B" (.int (0 : Int32))) (V_t : Arv Z h0 t kb .byte (Int32.ofNat ts.length) ts (.int 0)) (ge_u : n0 ≤ u) (hbl : bs.length + ts.length ≤ 16) :
    MetFree l (⟨"java/lang/AbstractStringBuilder", "putStringAt", "(ILjava/lang/String;)V"⟩ : MethodName) (head1 (Jvm.Cond.code (⟨"java/lang/AbstractStringBuilder", "putStringAt", "(ILjava/lang/String;)V"⟩ : MethodName) jdk_68_method_73_code 3 none :: ws) ({ frames := 2, cells := 0, slots := 0, locals := 33 } : Room)) (fun ag U => ag = #[(.ref a), (.int (Int32.ofNat bs.length)), (.ref f)] ∧ Z.Warmed39 U.vm ∧ U.heap = h0) (fun _ _ _ _ _ => True) (fun _ U o U' => ∃ v L, o = .returned v ∧ Q_own_psa Z G1 G3 a u ku bs f t kb ts h0 n0 v U'.heap L ∧ FrameEnd U o U' L ({ frames := 2, cells := 0, slots := 0, locals := 33 } : Room).cells ({ frames := 2, cells := 0, slots := 0, locals := 33 } : Room).slots) := by
  refine own_body (plainFor_of_name pn_3) ?_
  intro p e s m below meth c s₁ Bd hml hZ e0
  have hx := Bd.exec
  have hby := Bd.bytes
  have hlk : meth.locks = false := BodyLoose.notSynchronized Bd
  have hown : s.vm.findClass "java/lang/AbstractStringBuilder" = some m.cls := findClass_of_methodNamed Bd.named
  have hnm := (name_of_methodNamed Bd.named Bd.method).1
  have X0 : Stand p l e ({ frames := 2, cells := 0, slots := 0, locals := 33 } : Room) s m #[(.ref a), (.int (Int32.ofNat bs.length)), (.ref f)] below meth c s₁ [] 0 0 := Stand.of_body Bd
  have N0 := Fr.nil n0
  have KP0 : Keep h0 h0 [u] := Keep.refl h0 [u]
  have lt_a := E_a.lt
  have lt_u := V_u.lt
  have lt_f := E_f.lt
  have lt_t := V_t.lt
  have ty_a_u : a ≠ u := (Exa.neArv E_a V_u (w43 hw))
  have ty_a_f : a ≠ f := (Exa.ne E_a E_f (by decide))
  have ty_a_t : a ≠ t := (Exa.neArv E_a V_t (w43 hw))
  have ty_u_f : u ≠ f := (Ne.symm (Exa.neArv E_f V_u (w8 hw)))
  have ty_f_t : f ≠ t := (Exa.neArv E_f V_t (w8 hw))
  refine own_cast (g' := (mkF m 0 #[.val (.ref a), .val (.int (Int32.ofNat bs.length)), .val (.ref f)] [])) (by first | (simp [entryFrame, mkF, argsToLocals, own_cat_int, own_cat_long, own_cat_ref, own_cat_null]; done) | rfl) ?_
  refine own_step (T' := s₁) (g' := (mkF m 1 #[.val (.ref a), .val (.int (Int32.ofNat bs.length)), .val (.ref f)] [(.ref a)])) (fun _ q => XS.aloadN X0.here hx rfl (hb hby d14_0) rfl rfl q) ?_
  refine own_step (T' := s₁) (g' := (mkF m 2 #[.val (.ref a), .val (.int (Int32.ofNat bs.length)), .val (.ref f)] [(.ref f), (.ref a)])) (fun _ q => XS.aloadN X0.here hx rfl (hb hby d14_1) rfl rfl q) ?_
  refine own_callP X0 hx hZ hown (w93 hw) (w94 hw) (own_selQ hZ (notFace_of_selects (args := #[]) (mvT hZ (w96 hw))) (w94 hw) (w95 hw) (by decide)) (w95 hw) (w97 hw) (by decide) (backOf (W := 0) (own_inf l Z a0 hw [] G1 G3 a f h0 n0 Z0 O2 O4 P5 rG3 OLD0 F_coder_a E_f F_coder_f) hZ (w97 hw) (w52 hw) (Nat.le_of_ble_eq_true rfl) (Nat.le_of_ble_eq_true rfl)) e0 E_a  (by first | decide | (dsimp only; omega)) (by first | decide | (dsimp only; omega)) (g := (mkF m 2 #[.val (.ref a), .val (.int (Int32.ofNat bs.length)), .val (.ref f)] [(.ref f), (.ref a)])) (argsL := [(.ref f)]) (rest := []) rfl (by rw [hml]; rfl) (lenOf pd_10 rfl) rfl rfl (by show 2 * 0 + _ ≤ _; exact Nat.le_of_eq rfl) (hb hby d14_2) ?_
  rintro _ T148 L148 X148 ⟨rfl, N148q, e148⟩
  have N149 := Fr.app N0 N148q
  show own_Fin p e below _ T148 (mkF m 5 #[.val (.ref a), .val (.int (Int32.ofNat bs.length)), .val (.ref f)] [])
  refine own_step (T' := T148) (g' := (mkF m 6 #[.val (.ref a), .val (.int (Int32.ofNat bs.length)), .val (.ref f)] [(.ref f)])) (fun _ q => XS.aloadN X148.here hx rfl (hb hby d14_5) rfl rfl q) ?_
  refine own_step (T' := T148) (g' := (mkF m 7 #[.val (.ref a), .val (.int (Int32.ofNat bs.length)), .val (.ref f)] [(.ref a), (.ref f)])) (fun _ q => XS.aloadN X148.here hx rfl (hb hby d14_6) rfl rfl q) ?_
  obtain ⟨T150, X150, e150, st150⟩ := getF X148 hx hZ hown (host := "") (Or.inl (w56 hw)) Via.refl e148 F_value_a (g := (mkF m 7 #[.val (.ref a), .val (.int (Int32.ofNat bs.length)), .val (.ref f)] [(.ref a), (.ref f)])) rfl rfl (hb hby d14_7)
  refine own_step (T' := T150) (g' := (mkF m 10 #[.val (.ref a), .val (.int (Int32.ofNat bs.length)), .val (.ref f)] [(.ref u), (.ref f)])) st150 ?_
  refine own_step (T' := T150) (g' := (mkF m 11 #[.val (.ref a), .val (.int (Int32.ofNat bs.length)), .val (.ref f)] [(.int (Int32.ofNat bs.length)), (.ref u), (.ref f)])) (fun _ q => XS.iloadN X150.here hx rfl (hb hby d14_10) rfl q) ?_
  refine own_step (T' := T150) (g' := (mkF m 12 #[.val (.ref a), .val (.int (Int32.ofNat bs.length)), .val (.ref f)] [(.ref a), (.int (Int32.ofNat bs.length)), (.ref u), (.ref f)])) (fun _ q => XS.aloadN X150.here hx rfl (hb hby d14_11) rfl rfl q) ?_
  obtain ⟨T151, X151, e151, st151⟩ := getF X150 hx hZ hown (host := "") (Or.inl (w58 hw)) Via.refl e150 F_coder_a (g := (mkF m 12 #[.val (.ref a), .val (.int (Int32.ofNat bs.length)), .val (.ref f)] [(.ref a), (.int (Int32.ofNat bs.length)), (.ref u), (.ref f)])) rfl rfl (hb hby d14_12)
  refine own_step (T' := T151) (g' := (mkF m 15 #[.val (.ref a), .val (.int (Int32.ofNat bs.length)), .val (.ref f)] [(.int (0 : Int32)), (.int (Int32.ofNat bs.length)), (.ref u), (.ref f)])) st151 ?_
  refine own_callV (y := (⟨"java/lang/String", "getBytes", "([BIB)V"⟩ : MethodName)) (z := (⟨"java/lang/String", "getBytes", "([BIB)V"⟩ : MethodName)) X151 hx hZ hown (w99 hw) (w100 hw) (notFace_of_selects (args := #[]) (mvT hZ (w102 hw))) (w102 hw) (w101 hw) (by decide) (backOf (W := 0) (own_gby l Z a0 hw [] G1 G3 f t kb ts u ku bs h0 n0 Z0 O2 O4 P5 rG3 OLD0 E_f F_value_f F_coder_f V_t V_u ge_u hbl) hZ (w103 hw) (w9 hw) (Nat.le_of_ble_eq_true rfl) (Nat.le_of_ble_eq_true rfl)) e151 E_f  (by first | decide | (dsimp only; omega)) (by first | decide | (dsimp only; omega)) (g := (mkF m 15 #[.val (.ref a), .val (.int (Int32.ofNat bs.length)), .val (.ref f)] [(.int (0 : Int32)), (.int (Int32.ofNat bs.length)), (.ref u), (.ref f)])) (argsL := [(.ref u), (.int (Int32.ofNat bs.length)), (.int (0 : Int32))]) (rest := []) rfl (by rw [hml]; rfl) (lenOf pd_11 rfl) rfl rfl (by show 2 * 0 + _ ≤ _; exact Nat.le_of_eq rfl) (hb hby d14_15) ?_
  rintro _ T152 L152 X152 ⟨rfl, N152q, K152, f0_152⟩
  have N153 := Fr.app N149 N152q
  show own_Fin p e below _ T152 (mkF m 18 #[.val (.ref a), .val (.int (Int32.ofNat bs.length)), .val (.ref f)] [])
  have c154 := (KP0.trans K152 (allS (Or.inl (List.mem_of_getElem? (i := 0) rfl)) all0))
  exact own_retV X152 hx Bd.returns (hb hby d14_18) hlk ⟨rfl, N153, c154, f0_152⟩ (by first | decide | (dsimp only; omega)) (by first | decide | (dsimp only; omega))
theorem pd_12 : parseMethodDescriptor "()I" = some ⟨[], some .int⟩ := by decide +kernel
theorem pd_13 : parseMethodDescriptor "(ILjava/lang/String;)V" = some ⟨[.int, (.object "java/lang/String")], none⟩ := by decide +kernel
theorem d10_0 : decode jdk_68_method_22_code 0 = .ok (.aload_n 1, 1) := by decide +kernel
theorem d10_1 : decode jdk_68_method_22_code 1 = .ok (.ifnonnull 8, 3) := by decide +kernel
theorem d10_9 : decode jdk_68_method_22_code 9 = .ok (.aload_n 1, 1) := by decide +kernel
theorem d10_10 : decode jdk_68_method_22_code 10 = .ok (.invokevirtual 32, 3) := by decide +kernel
theorem d10_13 : decode jdk_68_method_22_code 13 = .ok (.istore_n 2, 1) := by decide +kernel
theorem d10_14 : decode jdk_68_method_22_code 14 = .ok (.aload_n 0, 1) := by decide +kernel
theorem d10_15 : decode jdk_68_method_22_code 15 = .ok (.aload_n 0, 1) := by decide +kernel
theorem d10_16 : decode jdk_68_method_22_code 16 = .ok (.getfield 79, 3) := by decide +kernel
theorem d10_19 : decode jdk_68_method_22_code 19 = .ok (.iload_n 2, 1) := by decide +kernel
theorem d10_20 : decode jdk_68_method_22_code 20 = .ok (.iadd, 1) := by decide +kernel
theorem d10_21 : decode jdk_68_method_22_code 21 = .ok (.invokevirtual 100, 3) := by decide +kernel
theorem d10_24 : decode jdk_68_method_22_code 24 = .ok (.aload_n 0, 1) := by decide +kernel
theorem d10_25 : decode jdk_68_method_22_code 25 = .ok (.aload_n 0, 1) := by decide +kernel
theorem d10_26 : decode jdk_68_method_22_code 26 = .ok (.getfield 79, 3) := by decide +kernel
theorem d10_29 : decode jdk_68_method_22_code 29 = .ok (.aload_n 1, 1) := by decide +kernel
theorem d10_30 : decode jdk_68_method_22_code 30 = .ok (.invokevirtual 208, 3) := by decide +kernel
theorem d10_33 : decode jdk_68_method_22_code 33 = .ok (.aload_n 0, 1) := by decide +kernel
theorem d10_34 : decode jdk_68_method_22_code 34 = .ok (.dup, 1) := by decide +kernel
theorem d10_35 : decode jdk_68_method_22_code 35 = .ok (.getfield 79, 3) := by decide +kernel
theorem d10_38 : decode jdk_68_method_22_code 38 = .ok (.iload_n 2, 1) := by decide +kernel
theorem d10_39 : decode jdk_68_method_22_code 39 = .ok (.iadd, 1) := by decide +kernel
theorem d10_40 : decode jdk_68_method_22_code 40 = .ok (.putfield 79, 3) := by decide +kernel
theorem d10_43 : decode jdk_68_method_22_code 43 = .ok (.aload_n 0, 1) := by decide +kernel
theorem d10_44 : decode jdk_68_method_22_code 44 = .ok (.areturn, 1) := by decide +kernel
def Q_own_asap (Z : State) (G1 : Int32) (G3 : Value) (a : Addr) (u : Addr) (ku : ClassId) (bs : List Value) (f : Addr) (t : Addr) (kb : ClassId) (ts : List Value) (h0 : Heap) (n0 : Nat) (v : Option Value) (h : Heap) (L : List Loc) : Prop := v = some (.ref a) ∧ Fr n0 L ∧ Keep h0 h [a, u] ∧ Exa Z h a "java/lang/StringBuilder" ∧ Fld Z h a "java/lang/AbstractStringBuilder" "value" "[B" (.ref u) ∧ Fld Z h a "java/lang/AbstractStringBuilder" "coder" "B" (.int (0 : Int32)) ∧ Fld Z h a "java/lang/AbstractStringBuilder" "count" "I" (.int (Int32.ofNat (bs ++ ts).length)) ∧ Arv Z h u ku .byte (16 : Int32) (own_pad (bs ++ ts)) (.int 0)
set_option maxRecDepth 65536 in
set_option maxHeartbeats 40000000 in
theorem own_asap (l : Launch) (Z : State) (a0 : Array Value) (hw : ∀ d ∈ tables_1, d.before a0 Z = true) (ws : List Jvm.Cond) (G1 : Int32) (G3 : Value) (a : Addr) (u : Addr) (ku : ClassId) (bs : List Value) (f : Addr) (t : Addr) (kb : ClassId) (ts : List Value) (h0 : Heap) (n0 : Nat) (Z0 : n0 ≤ h0.size) (O2 : Sta Z Z.heap "java/lang/String" "COMPACT_STRINGS" "Z" (.int G1)) (O4 : Sta Z Z.heap "jdk/internal/util/Preconditions" "SIOOBE_FORMATTER" "Ljava/util/function/BiFunction;" G3) (P5 : ¬ (G1 = (0 : Int32))) (rG3 : G3.isRef = true) (OLD0 : Old Z n0 h0) (E_a : Exa Z h0 a "java/lang/StringBuilder") (F_value_a : Fld Z h0 a "java/lang/AbstractStringBuilder" "value" "[B" (.ref u)) (F_coder_a : Fld Z h0 a "java/lang/AbstractStringBuilder" "coder" "B" (.int (0 : Int32))) (F_count_a : Fld Z h0 a "java/lang/AbstractStringBuilder" "count" "I" (.int (Int32.ofNat bs.length))) (V_u : Arv Z h0 u ku .byte (16 : Int32) (own_pad bs) (.int 0)) (E_f : Exa Z h0 f "java/lang/String") (F_value_f : Fld Z h0 f "java/lang/String" "value" "[B" (.ref t)) (F_coder_f : Fld Z h0 f "java/lang/String" "coder" "B" (.int (0 : Int32))) (V_t : Arv Z h0 t kb .byte (Int32.ofNat ts.length) ts (.int 0)) (ge_a : n0 ≤ a) (ge_u : n0 ≤ u) (hbl : bs.length + ts.length ≤ 16) :
    MetFree l (⟨"java/lang/AbstractStringBuilder", "append", "(Ljava/lang/String;)Ljava/lang/AbstractStringBuilder;"⟩ : MethodName) (head1 (Jvm.Cond.code (⟨"java/lang/AbstractStringBuilder", "append", "(Ljava/lang/String;)Ljava/lang/AbstractStringBuilder;"⟩ : MethodName) jdk_68_method_22_code 3 (some (.object "java/lang/AbstractStringBuilder")) :: ws) ({ frames := 3, cells := 0, slots := 0, locals := 47 } : Room)) (fun ag U => ag = #[(.ref a), (.ref f)] ∧ Z.Warmed39 U.vm ∧ U.heap = h0) (fun _ _ _ _ _ => True) (fun _ U o U' => ∃ v L, o = .returned v ∧ Q_own_asap Z G1 G3 a u ku bs f t kb ts h0 n0 v U'.heap L ∧ FrameEnd U o U' L ({ frames := 3, cells := 0, slots := 0, locals := 47 } : Room).cells ({ frames := 3, cells := 0, slots := 0, locals := 47 } : Room).slots) := by
  refine own_body (plainFor_of_name pn_3) ?_
  intro p e s m below meth c s₁ Bd hml hZ e0
  have hx := Bd.exec
  have hby := Bd.bytes
  have hlk : meth.locks = false := BodyLoose.notSynchronized Bd
  have hown : s.vm.findClass "java/lang/AbstractStringBuilder" = some m.cls := findClass_of_methodNamed Bd.named
  have hnm := (name_of_methodNamed Bd.named Bd.method).1
  have X0 : Stand p l e ({ frames := 3, cells := 0, slots := 0, locals := 47 } : Room) s m #[(.ref a), (.ref f)] below meth c s₁ [] 0 0 := Stand.of_body Bd
  have N0 := Fr.nil n0
  have KP0 : Keep h0 h0 [a, u] := Keep.refl h0 [a, u]
  have lt_a := E_a.lt
  have lt_u := V_u.lt
  have lt_f := E_f.lt
  have lt_t := V_t.lt
  have ty_a_u : a ≠ u := (Exa.neArv E_a V_u (w43 hw))
  have ty_a_f : a ≠ f := (Exa.ne E_a E_f (by decide))
  have ty_a_t : a ≠ t := (Exa.neArv E_a V_t (w43 hw))
  have ty_u_f : u ≠ f := (Ne.symm (Exa.neArv E_f V_u (w8 hw)))
  have ty_f_t : f ≠ t := (Exa.neArv E_f V_t (w8 hw))
  refine own_cast (g' := (mkF m 0 #[.val (.ref a), .val (.ref f), .unset] [])) (by first | (simp [entryFrame, mkF, argsToLocals, own_cat_int, own_cat_long, own_cat_ref, own_cat_null]; done) | rfl) ?_
  refine own_step (T' := s₁) (g' := (mkF m 1 #[.val (.ref a), .val (.ref f), .unset] [(.ref f)])) (fun _ q => XS.aloadN X0.here hx rfl (hb hby d10_0) rfl rfl q) ?_
  refine own_step (T' := s₁) (g' := (mkF m 9 #[.val (.ref a), .val (.ref f), .unset] [])) (fun _ q => XT.ifnonnullYes X0.here hx rfl (pc0 := 1) (pc' := 9) rfl (hb hby d10_1) rfl (by decide) (by decide) q) ?_
  refine own_step (T' := s₁) (g' := (mkF m 10 #[.val (.ref a), .val (.ref f), .unset] [(.ref f)])) (fun _ q => XS.aloadN X0.here hx rfl (hb hby d10_9) rfl rfl q) ?_
  refine own_callV (y := (⟨"java/lang/String", "length", "()I"⟩ : MethodName)) (z := (⟨"java/lang/String", "length", "()I"⟩ : MethodName)) X0 hx hZ hown (w70 hw) (w71 hw) (notFace_of_selects (args := #[]) (mvT hZ (w73 hw))) (w73 hw) (w72 hw) (by decide) (backOf (W := 0) (own_len0 l Z a0 hw [] G1 G3 f t kb (Int32.ofNat ts.length) ts h0 n0 Z0 O2 O4 P5 rG3 OLD0 E_f F_value_f F_coder_f V_t) hZ (w74 hw) (w9 hw) (Nat.le_of_ble_eq_true rfl) (Nat.le_of_ble_eq_true rfl)) e0 E_f  (by first | decide | (dsimp only; omega)) (by first | decide | (dsimp only; omega)) (g := (mkF m 10 #[.val (.ref a), .val (.ref f), .unset] [(.ref f)])) (argsL := []) (rest := []) rfl (by rw [hml]; rfl) (lenOf pd_12 rfl) rfl rfl (by show 2 * 0 + _ ≤ _; exact Nat.le_of_eq rfl) (hb hby d10_10) ?_
  rintro _ T155 L155 X155 ⟨rfl, N155q, e155⟩
  have N156 := Fr.app N0 N155q
  show own_Fin p e below _ T155 (mkF m 13 #[.val (.ref a), .val (.ref f), .unset] [(.int (Int32.ofNat ts.length))])
  refine own_step (T' := T155) (g' := (mkF m 14 #[.val (.ref a), .val (.ref f), .val (.int (Int32.ofNat ts.length))] [])) (fun _ q => XS.istoreN X155.here hx rfl (hb hby d10_13) rfl (l' := #[.val (.ref a), .val (.ref f), .val (.int (Int32.ofNat ts.length))]) rfl q) ?_
  refine own_step (T' := T155) (g' := (mkF m 15 #[.val (.ref a), .val (.ref f), .val (.int (Int32.ofNat ts.length))] [(.ref a)])) (fun _ q => XS.aloadN X155.here hx rfl (hb hby d10_14) rfl rfl q) ?_
  refine own_step (T' := T155) (g' := (mkF m 16 #[.val (.ref a), .val (.ref f), .val (.int (Int32.ofNat ts.length))] [(.ref a), (.ref a)])) (fun _ q => XS.aloadN X155.here hx rfl (hb hby d10_15) rfl rfl q) ?_
  obtain ⟨T157, X157, e157, st157⟩ := getF X155 hx hZ hown (host := "") (Or.inl (w81 hw)) Via.refl e155 F_count_a (g := (mkF m 16 #[.val (.ref a), .val (.ref f), .val (.int (Int32.ofNat ts.length))] [(.ref a), (.ref a)])) rfl rfl (hb hby d10_16)
  refine own_step (T' := T157) (g' := (mkF m 19 #[.val (.ref a), .val (.ref f), .val (.int (Int32.ofNat ts.length))] [(.int (Int32.ofNat bs.length)), (.ref a)])) st157 ?_
  refine own_step (T' := T157) (g' := (mkF m 20 #[.val (.ref a), .val (.ref f), .val (.int (Int32.ofNat ts.length))] [(.int (Int32.ofNat ts.length)), (.int (Int32.ofNat bs.length)), (.ref a)])) (fun _ q => XS.iloadN X157.here hx rfl (hb hby d10_19) rfl q) ?_
  refine own_step (T' := T157) (g' := (mkF m 21 #[.val (.ref a), .val (.ref f), .val (.int (Int32.ofNat ts.length))] [(.int ((Int32.ofNat bs.length) + (Int32.ofNat ts.length))), (.ref a)])) (fun _ q => XS.iadd X157.here hx rfl (hb hby d10_20) rfl q) ?_
  rw [show ((Int32.ofNat bs.length) + (Int32.ofNat ts.length)) = (Int32.ofNat (bs.length + ts.length)) from (own_addN _ _)]
  refine own_callP X157 hx hZ hown (w83 hw) (w84 hw) (own_selQ hZ (notFace_of_selects (args := #[]) (mvT hZ (w86 hw))) (w84 hw) (w85 hw) (by decide)) (w85 hw) (w87 hw) (by decide) (backOf (W := 0) (own_ens l Z a0 hw [] a u ku bs (bs.length + ts.length) h0 n0 Z0 E_a F_value_a F_coder_a F_count_a V_u (hbl : (bs.length + ts.length) ≤ 16)) hZ (w87 hw) (w52 hw) (Nat.le_of_ble_eq_true rfl) (Nat.le_of_ble_eq_true rfl)) e157 E_a  (by first | decide | (dsimp only; omega)) (by first | decide | (dsimp only; omega)) (g := (mkF m 21 #[.val (.ref a), .val (.ref f), .val (.int (Int32.ofNat ts.length))] [(.int (Int32.ofNat (bs.length + ts.length))), (.ref a)])) (argsL := [(.int (Int32.ofNat (bs.length + ts.length)))]) (rest := []) rfl (by rw [hml]; rfl) (lenOf pd_9 rfl) rfl rfl (by show 2 * 0 + _ ≤ _; exact Nat.le_of_eq rfl) (hb hby d10_21) ?_
  rintro _ T158 L158 X158 ⟨rfl, N158q, e158⟩
  have N159 := Fr.app N156 N158q
  show own_Fin p e below _ T158 (mkF m 24 #[.val (.ref a), .val (.ref f), .val (.int (Int32.ofNat ts.length))] [])
  refine own_step (T' := T158) (g' := (mkF m 25 #[.val (.ref a), .val (.ref f), .val (.int (Int32.ofNat ts.length))] [(.ref a)])) (fun _ q => XS.aloadN X158.here hx rfl (hb hby d10_24) rfl rfl q) ?_
  refine own_step (T' := T158) (g' := (mkF m 26 #[.val (.ref a), .val (.ref f), .val (.int (Int32.ofNat ts.length))] [(.ref a), (.ref a)])) (fun _ q => XS.aloadN X158.here hx rfl (hb hby d10_25) rfl rfl q) ?_
  obtain ⟨T160, X160, e160, st160⟩ := getF X158 hx hZ hown (host := "") (Or.inl (w81 hw)) Via.refl e158 F_count_a (g := (mkF m 26 #[.val (.ref a), .val (.ref f), .val (.int (Int32.ofNat ts.length))] [(.ref a), (.ref a)])) rfl rfl (hb hby d10_26)
  refine own_step (T' := T160) (g' := (mkF m 29 #[.val (.ref a), .val (.ref f), .val (.int (Int32.ofNat ts.length))] [(.int (Int32.ofNat bs.length)), (.ref a)])) st160 ?_
  refine own_step (T' := T160) (g' := (mkF m 30 #[.val (.ref a), .val (.ref f), .val (.int (Int32.ofNat ts.length))] [(.ref f), (.int (Int32.ofNat bs.length)), (.ref a)])) (fun _ q => XS.aloadN X160.here hx rfl (hb hby d10_29) rfl rfl q) ?_
  refine own_callP X160 hx hZ hown (w88 hw) (w89 hw) (own_selQ hZ (notFace_of_selects (args := #[]) (mvT hZ (w91 hw))) (w89 hw) (w90 hw) (by decide)) (w90 hw) (w92 hw) (by decide) (backOf (W := 0) (own_psa l Z a0 hw [] G1 G3 a u ku bs f t kb ts h0 n0 Z0 O2 O4 P5 rG3 OLD0 E_a F_value_a F_coder_a F_count_a V_u E_f F_value_f F_coder_f V_t ge_u hbl) hZ (w92 hw) (w52 hw) (Nat.le_of_ble_eq_true rfl) (Nat.le_of_ble_eq_true rfl)) e160 E_a  (by first | decide | (dsimp only; omega)) (by first | decide | (dsimp only; omega)) (g := (mkF m 30 #[.val (.ref a), .val (.ref f), .val (.int (Int32.ofNat ts.length))] [(.ref f), (.int (Int32.ofNat bs.length)), (.ref a)])) (argsL := [(.int (Int32.ofNat bs.length)), (.ref f)]) (rest := []) rfl (by rw [hml]; rfl) (lenOf pd_13 rfl) rfl rfl (by show 2 * 0 + _ ≤ _; exact Nat.le_of_eq rfl) (hb hby d10_30) ?_
  rintro _ T161 L161 X161 ⟨rfl, N161q, K161, f0_161⟩
  have N162 := Fr.app N159 N161q
  show own_Fin p e below _ T161 (mkF m 33 #[.val (.ref a), .val (.ref f), .val (.int (Int32.ofNat ts.length))] [])
  refine own_step (T' := T161) (g' := (mkF m 34 #[.val (.ref a), .val (.ref f), .val (.int (Int32.ofNat ts.length))] [(.ref a)])) (fun _ q => XS.aloadN X161.here hx rfl (hb hby d10_33) rfl rfl q) ?_
  refine own_step (T' := T161) (g' := (mkF m 35 #[.val (.ref a), .val (.ref f), .val (.int (Int32.ofNat ts.length))] [(.ref a), (.ref a)])) (fun _ q => XS.dup X161.here hx rfl (hb hby d10_34) rfl rfl q) ?_
  have c163 := (F_count_a.keep K161 (ninS ty_a_u nin0))
  obtain ⟨T164, X164, e164, st164⟩ := getF X161 hx hZ hown (host := "") (Or.inl (w81 hw)) Via.refl rfl c163 (g := (mkF m 35 #[.val (.ref a), .val (.ref f), .val (.int (Int32.ofNat ts.length))] [(.ref a), (.ref a)])) rfl rfl (hb hby d10_35)
  refine own_step (T' := T164) (g' := (mkF m 38 #[.val (.ref a), .val (.ref f), .val (.int (Int32.ofNat ts.length))] [(.int (Int32.ofNat bs.length)), (.ref a)])) st164 ?_
  refine own_step (T' := T164) (g' := (mkF m 39 #[.val (.ref a), .val (.ref f), .val (.int (Int32.ofNat ts.length))] [(.int (Int32.ofNat ts.length)), (.int (Int32.ofNat bs.length)), (.ref a)])) (fun _ q => XS.iloadN X164.here hx rfl (hb hby d10_38) rfl q) ?_
  refine own_step (T' := T164) (g' := (mkF m 40 #[.val (.ref a), .val (.ref f), .val (.int (Int32.ofNat ts.length))] [(.int ((Int32.ofNat bs.length) + (Int32.ofNat ts.length))), (.ref a)])) (fun _ q => XS.iadd X164.here hx rfl (hb hby d10_39) rfl q) ?_
  rw [show ((Int32.ofNat bs.length) + (Int32.ofNat ts.length)) = (Int32.ofNat (bs ++ ts).length) from (by rw [own_addN, List.length_append])]
  have c165 := (E_a.keep K161)
  obtain ⟨T166, h166, X166, e166, W166, st166⟩ := putF X164 hx hZ hown (host := "") (Or.inl (w81 hw)) Via.refl e164 c163 c165 (Or.inl (w82 hw)) (w43 hw) (ty := .int) (by decide) rfl rfl (g := (mkF m 40 #[.val (.ref a), .val (.ref f), .val (.int (Int32.ofNat ts.length))] [(.int (Int32.ofNat (bs ++ ts).length)), (.ref a)])) rfl rfl (hb hby d10_40)
  have F167 := c163.same W166
  have N168 := Fr.snoc X166 N162 ge_a
  refine own_step (T' := T166) (g' := (mkF m 43 #[.val (.ref a), .val (.ref f), .val (.int (Int32.ofNat ts.length))] [])) st166 ?_
  refine own_step (T' := T166) (g' := (mkF m 44 #[.val (.ref a), .val (.ref f), .val (.int (Int32.ofNat ts.length))] [(.ref a)])) (fun _ q => XS.aloadN X166.here hx rfl (hb hby d10_43) rfl rfl q) ?_
  have c169 := ((KP0.trans K161 (allS (Or.inl (List.mem_of_getElem? (i := 1) rfl)) all0)).wr W166 (Or.inl (List.mem_of_getElem? (i := 0) rfl)))
  have c170 := (c165.wr W166)
  have c171 := ((F_value_a.keep K161 (ninS ty_a_u nin0)).other W166 (Or.inr (RoadKit.slot_ne (t := (.array .byte)) (t' := .int) (Or.inl (w57 hw)) (Or.inl (w82 hw)) (by decide) (by decide) (by decide))))
  have c172 := ((F_coder_a.keep K161 (ninS ty_a_u nin0)).other W166 (Or.inr (RoadKit.slot_ne (t := .byte) (t' := .int) (Or.inl (w59 hw)) (Or.inl (w82 hw)) (by decide) (by decide) (by decide))))
  have c173 := (f0_161.other W166 (Ne.symm ty_a_u))
  exact own_retA X166 hx Bd.returns rfl rfl (hb hby d10_44) hlk (by rw [e166]; exact ⟨rfl, N168, c169, c170, c171, c172, F167, c173⟩) (by first | decide | (dsimp only; omega)) (by first | decide | (dsimp only; omega))
theorem pd_14 : parseMethodDescriptor "(Ljava/lang/String;)Ljava/lang/AbstractStringBuilder;" = some ⟨[(.object "java/lang/String")], some (.object "java/lang/AbstractStringBuilder")⟩ := by decide +kernel
theorem d9_0 : decode jdk_67_method_7_code 0 = .ok (.aload_n 0, 1) := by decide +kernel
theorem d9_1 : decode jdk_67_method_7_code 1 = .ok (.aload_n 1, 1) := by decide +kernel
theorem d9_2 : decode jdk_67_method_7_code 2 = .ok (.invokespecial 29, 3) := by decide +kernel
theorem d9_5 : decode jdk_67_method_7_code 5 = .ok (.pop, 1) := by decide +kernel
theorem d9_6 : decode jdk_67_method_7_code 6 = .ok (.aload_n 0, 1) := by decide +kernel
theorem d9_7 : decode jdk_67_method_7_code 7 = .ok (.areturn, 1) := by decide +kernel
def Q_own_sbap (Z : State) (G1 : Int32) (G3 : Value) (a : Addr) (u : Addr) (ku : ClassId) (bs : List Value) (f : Addr) (t : Addr) (kb : ClassId) (ts : List Value) (h0 : Heap) (n0 : Nat) (v : Option Value) (h : Heap) (L : List Loc) : Prop := v = some (.ref a) ∧ Fr n0 L ∧ Keep h0 h [a, u] ∧ Exa Z h a "java/lang/StringBuilder" ∧ Fld Z h a "java/lang/AbstractStringBuilder" "value" "[B" (.ref u) ∧ Fld Z h a "java/lang/AbstractStringBuilder" "coder" "B" (.int (0 : Int32)) ∧ Fld Z h a "java/lang/AbstractStringBuilder" "count" "I" (.int (Int32.ofNat (bs ++ ts).length)) ∧ Arv Z h u ku .byte (16 : Int32) (own_pad (bs ++ ts)) (.int 0)
set_option maxRecDepth 65536 in
set_option maxHeartbeats 40000000 in
theorem own_sbap (l : Launch) (Z : State) (a0 : Array Value) (hw : ∀ d ∈ tables_1, d.before a0 Z = true) (ws : List Jvm.Cond) (G1 : Int32) (G3 : Value) (a : Addr) (u : Addr) (ku : ClassId) (bs : List Value) (f : Addr) (t : Addr) (kb : ClassId) (ts : List Value) (h0 : Heap) (n0 : Nat) (Z0 : n0 ≤ h0.size) (O2 : Sta Z Z.heap "java/lang/String" "COMPACT_STRINGS" "Z" (.int G1)) (O4 : Sta Z Z.heap "jdk/internal/util/Preconditions" "SIOOBE_FORMATTER" "Ljava/util/function/BiFunction;" G3) (P5 : ¬ (G1 = (0 : Int32))) (rG3 : G3.isRef = true) (OLD0 : Old Z n0 h0) (E_a : Exa Z h0 a "java/lang/StringBuilder") (F_value_a : Fld Z h0 a "java/lang/AbstractStringBuilder" "value" "[B" (.ref u)) (F_coder_a : Fld Z h0 a "java/lang/AbstractStringBuilder" "coder" "B" (.int (0 : Int32))) (F_count_a : Fld Z h0 a "java/lang/AbstractStringBuilder" "count" "I" (.int (Int32.ofNat bs.length))) (V_u : Arv Z h0 u ku .byte (16 : Int32) (own_pad bs) (.int 0)) (E_f : Exa Z h0 f "java/lang/String") (F_value_f : Fld Z h0 f "java/lang/String" "value" "[B" (.ref t)) (F_coder_f : Fld Z h0 f "java/lang/String" "coder" "B" (.int (0 : Int32))) (V_t : Arv Z h0 t kb .byte (Int32.ofNat ts.length) ts (.int 0)) (ge_a : n0 ≤ a) (ge_u : n0 ≤ u) (hbl : bs.length + ts.length ≤ 16) :
    MetFree l (⟨"java/lang/StringBuilder", "append", "(Ljava/lang/String;)Ljava/lang/StringBuilder;"⟩ : MethodName) (head1 (Jvm.Cond.code (⟨"java/lang/StringBuilder", "append", "(Ljava/lang/String;)Ljava/lang/StringBuilder;"⟩ : MethodName) jdk_67_method_7_code 2 (some (.object "java/lang/StringBuilder")) :: ws) ({ frames := 4, cells := 0, slots := 0, locals := 61 } : Room)) (fun ag U => ag = #[(.ref a), (.ref f)] ∧ Z.Warmed39 U.vm ∧ U.heap = h0) (fun _ _ _ _ _ => True) (fun _ U o U' => ∃ v L, o = .returned v ∧ Q_own_sbap Z G1 G3 a u ku bs f t kb ts h0 n0 v U'.heap L ∧ FrameEnd U o U' L ({ frames := 4, cells := 0, slots := 0, locals := 61 } : Room).cells ({ frames := 4, cells := 0, slots := 0, locals := 61 } : Room).slots) := by
  refine own_body (plainFor_of_name pn_4) ?_
  intro p e s m below meth c s₁ Bd hml hZ e0
  have hx := Bd.exec
  have hby := Bd.bytes
  have hlk : meth.locks = false := BodyLoose.notSynchronized Bd
  have hown : s.vm.findClass "java/lang/StringBuilder" = some m.cls := findClass_of_methodNamed Bd.named
  have hnm := (name_of_methodNamed Bd.named Bd.method).1
  have X0 : Stand p l e ({ frames := 4, cells := 0, slots := 0, locals := 61 } : Room) s m #[(.ref a), (.ref f)] below meth c s₁ [] 0 0 := Stand.of_body Bd
  have N0 := Fr.nil n0
  have KP0 : Keep h0 h0 [a, u] := Keep.refl h0 [a, u]
  have lt_a := E_a.lt
  have lt_u := V_u.lt
  have lt_f := E_f.lt
  have lt_t := V_t.lt
  have ty_a_u : a ≠ u := (Exa.neArv E_a V_u (w43 hw))
  have ty_a_f : a ≠ f := (Exa.ne E_a E_f (by decide))
  have ty_a_t : a ≠ t := (Exa.neArv E_a V_t (w43 hw))
  have ty_u_f : u ≠ f := (Ne.symm (Exa.neArv E_f V_u (w8 hw)))
  have ty_f_t : f ≠ t := (Exa.neArv E_f V_t (w8 hw))
  refine own_cast (g' := (mkF m 0 #[.val (.ref a), .val (.ref f)] [])) (by first | (simp [entryFrame, mkF, argsToLocals, own_cat_int, own_cat_long, own_cat_ref, own_cat_null]; done) | rfl) ?_
  refine own_step (T' := s₁) (g' := (mkF m 1 #[.val (.ref a), .val (.ref f)] [(.ref a)])) (fun _ q => XS.aloadN X0.here hx rfl (hb hby d9_0) rfl rfl q) ?_
  refine own_step (T' := s₁) (g' := (mkF m 2 #[.val (.ref a), .val (.ref f)] [(.ref f), (.ref a)])) (fun _ q => XS.aloadN X0.here hx rfl (hb hby d9_1) rfl rfl q) ?_
  refine own_callU X0 hx hZ hown (by decide) (w65 hw) (w66 hw) (own_same (own_nf_move (notFace_of_selects (args := a0) (w86 hw)) (w84 hw) rfl) (w66 hw) (by decide)) (w67 hw) (w69 hw) (by decide) (backOf (W := 0) (own_asap l Z a0 hw [] G1 G3 a u ku bs f t kb ts h0 n0 Z0 O2 O4 P5 rG3 OLD0 E_a F_value_a F_coder_a F_count_a V_u E_f F_value_f F_coder_f V_t ge_a ge_u hbl) hZ (w69 hw) (w52 hw) (Nat.le_of_ble_eq_true rfl) (Nat.le_of_ble_eq_true rfl)) e0 E_a  (by first | decide | (dsimp only; omega)) (by first | decide | (dsimp only; omega)) (g := (mkF m 2 #[.val (.ref a), .val (.ref f)] [(.ref f), (.ref a)])) (argsL := [(.ref f)]) (rest := []) rfl (by rw [hml]; rfl) (lenOf pd_14 rfl) rfl rfl (by show 2 * 0 + _ ≤ _; exact Nat.le_of_eq rfl) (hb hby d9_2) ?_
  rintro _ T174 L174 X174 ⟨rfl, N174q, K174, f0_174, f1_174, f2_174, f3_174, f4_174⟩
  have N175 := Fr.app N0 N174q
  show own_Fin p e below _ T174 (mkF m 5 #[.val (.ref a), .val (.ref f)] [(.ref a)])
  refine own_step (T' := T174) (g' := (mkF m 6 #[.val (.ref a), .val (.ref f)] [])) (fun _ q => XT.pop X174.here hx rfl (hb hby d9_5) rfl rfl q) ?_
  refine own_step (T' := T174) (g' := (mkF m 7 #[.val (.ref a), .val (.ref f)] [(.ref a)])) (fun _ q => XS.aloadN X174.here hx rfl (hb hby d9_6) rfl rfl q) ?_
  have c176 := (KP0.trans K174 (allS (Or.inl (List.mem_of_getElem? (i := 0) rfl)) (allS (Or.inl (List.mem_of_getElem? (i := 1) rfl)) all0)))
  exact own_retA X174 hx Bd.returns rfl rfl (hb hby d9_7) hlk ⟨rfl, N175, c176, f0_174, f1_174, f2_174, f3_174, f4_174⟩ (by first | decide | (dsimp only; omega)) (by first | decide | (dsimp only; omega))
theorem d20_0 : decode jdk_68_method_64_code 0 = .ok (.aload_n 0, 1) := by decide +kernel
theorem d20_1 : decode jdk_68_method_64_code 1 = .ok (.getfield 15, 3) := by decide +kernel
theorem d20_4 : decode jdk_68_method_64_code 4 = .ok (.areturn, 1) := by decide +kernel
def Q_own_gv (Z : State) (a : Addr) (u : Addr) (h0 : Heap) (n0 : Nat) (v : Option Value) (h : Heap) (L : List Loc) : Prop := v = some (.ref u) ∧ Fr n0 L ∧ h = h0
set_option maxRecDepth 65536 in
set_option maxHeartbeats 40000000 in
theorem own_gv (l : Launch) (Z : State) (a0 : Array Value) (hw : ∀ d ∈ tables_1, d.before a0 Z = true) (ws : List Jvm.Cond) (a : Addr) (u : Addr) (h0 : Heap) (n0 : Nat) (Z0 : n0 ≤ h0.size) (F_value_a : Fld Z h0 a "java/lang/AbstractStringBuilder" "value" "[B" (.ref u)) :
    MetFree l (⟨"java/lang/AbstractStringBuilder", "getValue", "()[B"⟩ : MethodName) (head1 (Jvm.Cond.code (⟨"java/lang/AbstractStringBuilder", "getValue", "()[B"⟩ : MethodName) jdk_68_method_64_code 1 (some (.array .byte)) :: ws) ({ frames := 0, cells := 0, slots := 0, locals := 0 } : Room)) (fun ag U => ag = #[(.ref a)] ∧ Z.Warmed39 U.vm ∧ U.heap = h0) (fun _ _ _ _ _ => True) (fun _ U o U' => ∃ v L, o = .returned v ∧ Q_own_gv Z a u h0 n0 v U'.heap L ∧ FrameEnd U o U' L ({ frames := 0, cells := 0, slots := 0, locals := 0 } : Room).cells ({ frames := 0, cells := 0, slots := 0, locals := 0 } : Room).slots) := by
  refine own_body (plainFor_of_name pn_3) ?_
  intro p e s m below meth c s₁ Bd hml hZ e0
  have hx := Bd.exec
  have hby := Bd.bytes
  have hlk : meth.locks = false := BodyLoose.notSynchronized Bd
  have hown : s.vm.findClass "java/lang/AbstractStringBuilder" = some m.cls := findClass_of_methodNamed Bd.named
  have hnm := (name_of_methodNamed Bd.named Bd.method).1
  have X0 : Stand p l e ({ frames := 0, cells := 0, slots := 0, locals := 0 } : Room) s m #[(.ref a)] below meth c s₁ [] 0 0 := Stand.of_body Bd
  have N0 := Fr.nil n0
  have KP0 : Keep h0 h0 [] := Keep.refl h0 []
  have lt_a := F_value_a.lt
  refine own_cast (g' := (mkF m 0 #[.val (.ref a)] [])) (by first | (simp [entryFrame, mkF, argsToLocals, own_cat_int, own_cat_long, own_cat_ref, own_cat_null]; done) | rfl) ?_
  refine own_step (T' := s₁) (g' := (mkF m 1 #[.val (.ref a)] [(.ref a)])) (fun _ q => XS.aloadN X0.here hx rfl (hb hby d20_0) rfl rfl q) ?_
  obtain ⟨T177, X177, e177, st177⟩ := getF X0 hx hZ hown (host := "") (Or.inl (w56 hw)) Via.refl e0 F_value_a (g := (mkF m 1 #[.val (.ref a)] [(.ref a)])) rfl rfl (hb hby d20_1)
  refine own_step (T' := T177) (g' := (mkF m 4 #[.val (.ref a)] [(.ref u)])) st177 ?_
  exact own_retA X177 hx Bd.returns rfl rfl (hb hby d20_4) hlk ⟨rfl, N0, e177⟩ (by first | decide | (dsimp only; omega)) (by first | decide | (dsimp only; omega))
theorem d22_0 : decode jdk_68_method_6_code 0 = .ok (.aload_n 0, 1) := by decide +kernel
theorem d22_1 : decode jdk_68_method_6_code 1 = .ok (.getfield 79, 3) := by decide +kernel
theorem d22_4 : decode jdk_68_method_6_code 4 = .ok (.ireturn, 1) := by decide +kernel
def Q_own_asl (Z : State) (a : Addr) (z : Int32) (h0 : Heap) (n0 : Nat) (v : Option Value) (h : Heap) (L : List Loc) : Prop := v = some (.int z) ∧ Fr n0 L ∧ h = h0
set_option maxRecDepth 65536 in
set_option maxHeartbeats 40000000 in
theorem own_asl (l : Launch) (Z : State) (a0 : Array Value) (hw : ∀ d ∈ tables_1, d.before a0 Z = true) (ws : List Jvm.Cond) (a : Addr) (z : Int32) (h0 : Heap) (n0 : Nat) (Z0 : n0 ≤ h0.size) (F_count_a : Fld Z h0 a "java/lang/AbstractStringBuilder" "count" "I" (.int z)) :
    MetFree l (⟨"java/lang/AbstractStringBuilder", "length", "()I"⟩ : MethodName) (head1 (Jvm.Cond.code (⟨"java/lang/AbstractStringBuilder", "length", "()I"⟩ : MethodName) jdk_68_method_6_code 1 (some .int) :: ws) ({ frames := 0, cells := 0, slots := 0, locals := 0 } : Room)) (fun ag U => ag = #[(.ref a)] ∧ Z.Warmed39 U.vm ∧ U.heap = h0) (fun _ _ _ _ _ => True) (fun _ U o U' => ∃ v L, o = .returned v ∧ Q_own_asl Z a z h0 n0 v U'.heap L ∧ FrameEnd U o U' L ({ frames := 0, cells := 0, slots := 0, locals := 0 } : Room).cells ({ frames := 0, cells := 0, slots := 0, locals := 0 } : Room).slots) := by
  refine own_body (plainFor_of_name pn_3) ?_
  intro p e s m below meth c s₁ Bd hml hZ e0
  have hx := Bd.exec
  have hby := Bd.bytes
  have hlk : meth.locks = false := BodyLoose.notSynchronized Bd
  have hown : s.vm.findClass "java/lang/AbstractStringBuilder" = some m.cls := findClass_of_methodNamed Bd.named
  have hnm := (name_of_methodNamed Bd.named Bd.method).1
  have X0 : Stand p l e ({ frames := 0, cells := 0, slots := 0, locals := 0 } : Room) s m #[(.ref a)] below meth c s₁ [] 0 0 := Stand.of_body Bd
  have N0 := Fr.nil n0
  have KP0 : Keep h0 h0 [] := Keep.refl h0 []
  have lt_a := F_count_a.lt
  refine own_cast (g' := (mkF m 0 #[.val (.ref a)] [])) (by first | (simp [entryFrame, mkF, argsToLocals, own_cat_int, own_cat_long, own_cat_ref, own_cat_null]; done) | rfl) ?_
  refine own_step (T' := s₁) (g' := (mkF m 1 #[.val (.ref a)] [(.ref a)])) (fun _ q => XS.aloadN X0.here hx rfl (hb hby d22_0) rfl rfl q) ?_
  obtain ⟨T178, X178, e178, st178⟩ := getF X0 hx hZ hown (host := "") (Or.inl (w81 hw)) Via.refl e0 F_count_a (g := (mkF m 1 #[.val (.ref a)] [(.ref a)])) rfl rfl (hb hby d22_1)
  refine own_step (T' := T178) (g' := (mkF m 4 #[.val (.ref a)] [(.int z)])) st178 ?_
  exact own_retI X178 hx Bd.returns (hb hby d22_4) hlk ⟨rfl, N0, e178⟩ (by first | decide | (dsimp only; omega)) (by first | decide | (dsimp only; omega))
theorem d21_0 : decode jdk_67_method_93_code 0 = .ok (.aload_n 0, 1) := by decide +kernel
theorem d21_1 : decode jdk_67_method_93_code 1 = .ok (.invokespecial 343, 3) := by decide +kernel
theorem d21_4 : decode jdk_67_method_93_code 4 = .ok (.ireturn, 1) := by decide +kernel
def Q_own_sbl (Z : State) (a : Addr) (z : Int32) (h0 : Heap) (n0 : Nat) (v : Option Value) (h : Heap) (L : List Loc) : Prop := v = some (.int z) ∧ Fr n0 L ∧ h = h0
set_option maxRecDepth 65536 in
set_option maxHeartbeats 40000000 in
theorem own_sbl (l : Launch) (Z : State) (a0 : Array Value) (hw : ∀ d ∈ tables_1, d.before a0 Z = true) (ws : List Jvm.Cond) (a : Addr) (z : Int32) (h0 : Heap) (n0 : Nat) (Z0 : n0 ≤ h0.size) (E_a : Exa Z h0 a "java/lang/StringBuilder") (F_count_a : Fld Z h0 a "java/lang/AbstractStringBuilder" "count" "I" (.int z)) :
    MetFree l (⟨"java/lang/StringBuilder", "length", "()I"⟩ : MethodName) (head1 (Jvm.Cond.code (⟨"java/lang/StringBuilder", "length", "()I"⟩ : MethodName) jdk_67_method_93_code 1 (some .int) :: ws) ({ frames := 1, cells := 0, slots := 0, locals := 12 } : Room)) (fun ag U => ag = #[(.ref a)] ∧ Z.Warmed39 U.vm ∧ U.heap = h0) (fun _ _ _ _ _ => True) (fun _ U o U' => ∃ v L, o = .returned v ∧ Q_own_sbl Z a z h0 n0 v U'.heap L ∧ FrameEnd U o U' L ({ frames := 1, cells := 0, slots := 0, locals := 12 } : Room).cells ({ frames := 1, cells := 0, slots := 0, locals := 12 } : Room).slots) := by
  refine own_body (plainFor_of_name pn_4) ?_
  intro p e s m below meth c s₁ Bd hml hZ e0
  have hx := Bd.exec
  have hby := Bd.bytes
  have hlk : meth.locks = false := BodyLoose.notSynchronized Bd
  have hown : s.vm.findClass "java/lang/StringBuilder" = some m.cls := findClass_of_methodNamed Bd.named
  have hnm := (name_of_methodNamed Bd.named Bd.method).1
  have X0 : Stand p l e ({ frames := 1, cells := 0, slots := 0, locals := 12 } : Room) s m #[(.ref a)] below meth c s₁ [] 0 0 := Stand.of_body Bd
  have N0 := Fr.nil n0
  have KP0 : Keep h0 h0 [] := Keep.refl h0 []
  have lt_a := E_a.lt
  refine own_cast (g' := (mkF m 0 #[.val (.ref a)] [])) (by first | (simp [entryFrame, mkF, argsToLocals, own_cat_int, own_cat_long, own_cat_ref, own_cat_null]; done) | rfl) ?_
  refine own_step (T' := s₁) (g' := (mkF m 1 #[.val (.ref a)] [(.ref a)])) (fun _ q => XS.aloadN X0.here hx rfl (hb hby d21_0) rfl rfl q) ?_
  refine own_callU X0 hx hZ hown (by decide) (w132 hw) (w128 hw) (own_same (own_nf_move (notFace_of_selects (args := a0) (w86 hw)) (w84 hw) rfl) (w128 hw) (by decide)) (w67 hw) (w133 hw) (by decide) (backOf (W := 0) (own_asl l Z a0 hw [] a z h0 n0 Z0 F_count_a) hZ (w133 hw) (w52 hw) (Nat.le_of_ble_eq_true rfl) (Nat.le_of_ble_eq_true rfl)) e0 E_a  (by first | decide | (dsimp only; omega)) (by first | decide | (dsimp only; omega)) (g := (mkF m 1 #[.val (.ref a)] [(.ref a)])) (argsL := []) (rest := []) rfl (by rw [hml]; rfl) (lenOf pd_12 rfl) rfl rfl (by show 2 * 0 + _ ≤ _; exact Nat.le_of_eq rfl) (hb hby d21_1) ?_
  rintro _ T179 L179 X179 ⟨rfl, N179q, e179⟩
  have N180 := Fr.app N0 N179q
  show own_Fin p e below _ T179 (mkF m 4 #[.val (.ref a)] [(.int z)])
  exact own_retI X179 hx Bd.returns (hb hby d21_4) hlk ⟨rfl, N180, e179⟩ (by first | decide | (dsimp only; omega)) (by first | decide | (dsimp only; omega))
theorem d23_0 : decode jdk_68_method_68_code 0 = .ok (.getstatic 18, 3) := by decide +kernel
theorem d23_3 : decode jdk_68_method_68_code 3 = .ok (.ifCond .eq 14, 3) := by decide +kernel
theorem d23_6 : decode jdk_68_method_68_code 6 = .ok (.aload_n 0, 1) := by decide +kernel
theorem d23_7 : decode jdk_68_method_68_code 7 = .ok (.getfield 22, 3) := by decide +kernel
theorem d23_10 : decode jdk_68_method_68_code 10 = .ok (.ifCond .ne 7, 3) := by decide +kernel
theorem d23_13 : decode jdk_68_method_68_code 13 = .ok (.iconst 1, 1) := by decide +kernel
theorem d23_14 : decode jdk_68_method_68_code 14 = .ok (.goto 4, 3) := by decide +kernel
theorem d23_18 : decode jdk_68_method_68_code 18 = .ok (.ireturn, 1) := by decide +kernel
def Q_own_asi (Z : State) (G1 : Int32) (G3 : Value) (a : Addr) (h0 : Heap) (n0 : Nat) (v : Option Value) (h : Heap) (L : List Loc) : Prop := v = some (.int (1 : Int32)) ∧ Fr n0 L ∧ h = h0
set_option maxRecDepth 65536 in
set_option maxHeartbeats 40000000 in
theorem own_asi (l : Launch) (Z : State) (a0 : Array Value) (hw : ∀ d ∈ tables_1, d.before a0 Z = true) (ws : List Jvm.Cond) (G1 : Int32) (G3 : Value) (a : Addr) (h0 : Heap) (n0 : Nat) (Z0 : n0 ≤ h0.size) (O2 : Sta Z Z.heap "java/lang/String" "COMPACT_STRINGS" "Z" (.int G1)) (O4 : Sta Z Z.heap "jdk/internal/util/Preconditions" "SIOOBE_FORMATTER" "Ljava/util/function/BiFunction;" G3) (P5 : ¬ (G1 = (0 : Int32))) (rG3 : G3.isRef = true) (OLD0 : Old Z n0 h0) (F_coder_a : Fld Z h0 a "java/lang/AbstractStringBuilder" "coder" "B" (.int (0 : Int32))) :
    MetFree l (⟨"java/lang/AbstractStringBuilder", "isLatin1", "()Z"⟩ : MethodName) (head1 (Jvm.Cond.code (⟨"java/lang/AbstractStringBuilder", "isLatin1", "()Z"⟩ : MethodName) jdk_68_method_68_code 1 (some .boolean) :: ws) ({ frames := 0, cells := 0, slots := 0, locals := 0 } : Room)) (fun ag U => ag = #[(.ref a)] ∧ Z.Warmed39 U.vm ∧ U.heap = h0) (fun _ _ _ _ _ => True) (fun _ U o U' => ∃ v L, o = .returned v ∧ Q_own_asi Z G1 G3 a h0 n0 v U'.heap L ∧ FrameEnd U o U' L ({ frames := 0, cells := 0, slots := 0, locals := 0 } : Room).cells ({ frames := 0, cells := 0, slots := 0, locals := 0 } : Room).slots) := by
  refine own_body (plainFor_of_name pn_3) ?_
  intro p e s m below meth c s₁ Bd hml hZ e0
  have hx := Bd.exec
  have hby := Bd.bytes
  have hlk : meth.locks = false := BodyLoose.notSynchronized Bd
  have hown : s.vm.findClass "java/lang/AbstractStringBuilder" = some m.cls := findClass_of_methodNamed Bd.named
  have hnm := (name_of_methodNamed Bd.named Bd.method).1
  have X0 : Stand p l e ({ frames := 0, cells := 0, slots := 0, locals := 0 } : Room) s m #[(.ref a)] below meth c s₁ [] 0 0 := Stand.of_body Bd
  have N0 := Fr.nil n0
  have KP0 : Keep h0 h0 [] := Keep.refl h0 []
  have lt_a := F_coder_a.lt
  refine own_cast (g' := (mkF m 0 #[.val (.ref a)] [])) (by first | (simp [entryFrame, mkF, argsToLocals, own_cat_int, own_cat_long, own_cat_ref, own_cat_null]; done) | rfl) ?_
  obtain ⟨T181, X181, e181, st181⟩ := getS2 X0 hx hZ hown (host := "") (Or.inl (w55 hw)) Via.refl e0 (O2.ext OLD0.2) (g := (mkF m 0 #[.val (.ref a)] [])) rfl (hb hby d23_0)
  refine own_step (T' := T181) (g' := (mkF m 3 #[.val (.ref a)] [(.int G1)])) st181 ?_
  have hc182 : ¬ (G1 = 0) := P5
  refine own_step (T' := T181) (g' := (mkF m 6 #[.val (.ref a)] [])) (fun _ q => XS.ifNo X181.here hx rfl (hb hby d23_3) rfl (XT.i0_eq_f hc182) q) ?_
  refine own_step (T' := T181) (g' := (mkF m 7 #[.val (.ref a)] [(.ref a)])) (fun _ q => XS.aloadN X181.here hx rfl (hb hby d23_6) rfl rfl q) ?_
  obtain ⟨T183, X183, e183, st183⟩ := getF X181 hx hZ hown (host := "") (Or.inl (w58 hw)) Via.refl e181 F_coder_a (g := (mkF m 7 #[.val (.ref a)] [(.ref a)])) rfl rfl (hb hby d23_7)
  refine own_step (T' := T183) (g' := (mkF m 10 #[.val (.ref a)] [(.int (0 : Int32))])) st183 ?_
  refine own_step (T' := T183) (g' := (mkF m 13 #[.val (.ref a)] [])) (fun _ q => XS.ifNo X183.here hx rfl (hb hby d23_10) rfl (by decide) q) ?_
  refine own_step (T' := T183) (g' := (mkF m 14 #[.val (.ref a)] [(.int (1 : Int32))])) (fun _ q => XS.iconst X183.here hx rfl (hb hby d23_13) q) ?_
  refine own_step (T' := T183) (g' := (mkF m 18 #[.val (.ref a)] [(.int (1 : Int32))])) (fun _ q => XS.goto X183.here hx rfl (pc0 := 14) (pc' := 18) rfl (hb hby d23_14) (by decide) (by decide) q) ?_
  exact own_retN X183 hx Bd.returns (by simp) (hb hby d23_18) hlk ⟨rfl, N0, e183⟩ (by first | decide | (dsimp only; omega)) (by first | decide | (dsimp only; omega))
theorem d27_0 : decode jdk_29_method_69_code 0 = .ok (.iload_n 0, 1) := by decide +kernel
theorem d27_1 : decode jdk_29_method_69_code 1 = .ok (.iload_n 1, 1) := by decide +kernel
theorem d27_2 : decode jdk_29_method_69_code 2 = .ok (.if_icmp .gt 7, 3) := by decide +kernel
theorem d27_9 : decode jdk_29_method_69_code 9 = .ok (.iload_n 1, 1) := by decide +kernel
theorem d27_10 : decode jdk_29_method_69_code 10 = .ok (.ireturn, 1) := by decide +kernel
def Q_own_min (Z : State) (n : Nat) (h0 : Heap) (n0 : Nat) (v : Option Value) (h : Heap) (L : List Loc) : Prop := v = some (.int (Int32.ofNat n)) ∧ Fr n0 L ∧ h = h0
set_option maxRecDepth 65536 in
set_option maxHeartbeats 40000000 in
theorem own_min (l : Launch) (Z : State) (a0 : Array Value) (hw : ∀ d ∈ tables_1, d.before a0 Z = true) (ws : List Jvm.Cond) (n : Nat) (h0 : Heap) (n0 : Nat) (Z0 : n0 ≤ h0.size) (hn : n < 16) :
    MetFree l (⟨"java/lang/Math", "min", "(II)I"⟩ : MethodName) (head1 (Jvm.Cond.code (⟨"java/lang/Math", "min", "(II)I"⟩ : MethodName) jdk_29_method_69_code 2 (some .int) :: ws) ({ frames := 0, cells := 0, slots := 0, locals := 0 } : Room)) (fun ag U => ag = #[(.int (16 : Int32)), (.int (Int32.ofNat n))] ∧ Z.Warmed39 U.vm ∧ U.heap = h0) (fun _ _ _ _ _ => True) (fun _ U o U' => ∃ v L, o = .returned v ∧ Q_own_min Z n h0 n0 v U'.heap L ∧ FrameEnd U o U' L ({ frames := 0, cells := 0, slots := 0, locals := 0 } : Room).cells ({ frames := 0, cells := 0, slots := 0, locals := 0 } : Room).slots) := by
  refine own_body (Jvm.Free.JP.mathPlain rfl (by decide +kernel)) ?_
  intro p e s m below meth c s₁ Bd hml hZ e0
  have hx := Bd.exec
  have hby := Bd.bytes
  have hlk : meth.locks = false := BodyLoose.notSynchronized Bd
  have hown : s.vm.findClass "java/lang/Math" = some m.cls := findClass_of_methodNamed Bd.named
  have hnm := (name_of_methodNamed Bd.named Bd.method).1
  have X0 : Stand p l e ({ frames := 0, cells := 0, slots := 0, locals := 0 } : Room) s m #[(.int (16 : Int32)), (.int (Int32.ofNat n))] below meth c s₁ [] 0 0 := Stand.of_body Bd
  have N0 := Fr.nil n0
  have KP0 : Keep h0 h0 [] := Keep.refl h0 []
  refine own_cast (g' := (mkF m 0 #[.val (.int (16 : Int32)), .val (.int (Int32.ofNat n))] [])) (by first | (simp [entryFrame, mkF, argsToLocals, own_cat_int, own_cat_long, own_cat_ref, own_cat_null]; done) | rfl) ?_
  refine own_step (T' := s₁) (g' := (mkF m 1 #[.val (.int (16 : Int32)), .val (.int (Int32.ofNat n))] [(.int (16 : Int32))])) (fun _ q => XS.iloadN X0.here hx rfl (hb hby d27_0) rfl q) ?_
  refine own_step (T' := s₁) (g' := (mkF m 2 #[.val (.int (16 : Int32)), .val (.int (Int32.ofNat n))] [(.int (Int32.ofNat n)), (.int (16 : Int32))])) (fun _ q => XS.iloadN X0.here hx rfl (hb hby d27_1) rfl q) ?_
  have hc184 : ((Int32.ofNat n) < (16 : Int32)) := own_lt16 hn
  refine own_step (T' := s₁) (g' := (mkF m 9 #[.val (.int (16 : Int32)), .val (.int (Int32.ofNat n))] [])) (fun _ q => XS.icmpYes X0.here hx rfl (pc0 := 2) (pc' := 9) rfl (hb hby d27_2) rfl (XT.ii_gt_t hc184) (by decide) (by decide) q) ?_
  refine own_step (T' := s₁) (g' := (mkF m 10 #[.val (.int (16 : Int32)), .val (.int (Int32.ofNat n))] [(.int (Int32.ofNat n))])) (fun _ q => XS.iloadN X0.here hx rfl (hb hby d27_9) rfl q) ?_
  exact own_retI X0 hx Bd.returns (hb hby d27_10) hlk ⟨rfl, N0, e0⟩ (by first | decide | (dsimp only; omega)) (by first | decide | (dsimp only; omega))
theorem pn_5 : plainName "java/util/Arrays" = true := by first | (simp [plainName, overriddenIn]; done) | decide +kernel
theorem d26_0 : decode jdk_65_method_131_code 0 = .ok (.iload_n 1, 1) := by decide +kernel
theorem d26_1 : decode jdk_65_method_131_code 1 = .ok (.iload_n 0, 1) := by decide +kernel
theorem d26_2 : decode jdk_65_method_131_code 2 = .ok (.if_icmp .ge 35, 3) := by decide +kernel
theorem d26_37 : decode jdk_65_method_131_code 37 = .ok (.return_, 1) := by decide +kernel
def Q_own_ckl (Z : State) (n : Nat) (h0 : Heap) (n0 : Nat) (v : Option Value) (h : Heap) (L : List Loc) : Prop := v = none ∧ Fr n0 L ∧ h = h0
set_option maxRecDepth 65536 in
set_option maxHeartbeats 40000000 in
theorem own_ckl (l : Launch) (Z : State) (a0 : Array Value) (hw : ∀ d ∈ tables_1, d.before a0 Z = true) (ws : List Jvm.Cond) (n : Nat) (h0 : Heap) (n0 : Nat) (Z0 : n0 ≤ h0.size) (hn : n < 16) :
    MetFree l (⟨"java/util/Arrays", "checkLength", "(II)V"⟩ : MethodName) (head1 (Jvm.Cond.code (⟨"java/util/Arrays", "checkLength", "(II)V"⟩ : MethodName) jdk_65_method_131_code 2 none :: ws) ({ frames := 0, cells := 0, slots := 0, locals := 0 } : Room)) (fun ag U => ag = #[(.int (0 : Int32)), (.int (Int32.ofNat n))] ∧ Z.Warmed39 U.vm ∧ U.heap = h0) (fun _ _ _ _ _ => True) (fun _ U o U' => ∃ v L, o = .returned v ∧ Q_own_ckl Z n h0 n0 v U'.heap L ∧ FrameEnd U o U' L ({ frames := 0, cells := 0, slots := 0, locals := 0 } : Room).cells ({ frames := 0, cells := 0, slots := 0, locals := 0 } : Room).slots) := by
  refine own_body (plainFor_of_name pn_5) ?_
  intro p e s m below meth c s₁ Bd hml hZ e0
  have hx := Bd.exec
  have hby := Bd.bytes
  have hlk : meth.locks = false := BodyLoose.notSynchronized Bd
  have hown : s.vm.findClass "java/util/Arrays" = some m.cls := findClass_of_methodNamed Bd.named
  have hnm := (name_of_methodNamed Bd.named Bd.method).1
  have X0 : Stand p l e ({ frames := 0, cells := 0, slots := 0, locals := 0 } : Room) s m #[(.int (0 : Int32)), (.int (Int32.ofNat n))] below meth c s₁ [] 0 0 := Stand.of_body Bd
  have N0 := Fr.nil n0
  have KP0 : Keep h0 h0 [] := Keep.refl h0 []
  refine own_cast (g' := (mkF m 0 #[.val (.int (0 : Int32)), .val (.int (Int32.ofNat n))] [])) (by first | (simp [entryFrame, mkF, argsToLocals, own_cat_int, own_cat_long, own_cat_ref, own_cat_null]; done) | rfl) ?_
  refine own_step (T' := s₁) (g' := (mkF m 1 #[.val (.int (0 : Int32)), .val (.int (Int32.ofNat n))] [(.int (Int32.ofNat n))])) (fun _ q => XS.iloadN X0.here hx rfl (hb hby d26_0) rfl q) ?_
  refine own_step (T' := s₁) (g' := (mkF m 2 #[.val (.int (0 : Int32)), .val (.int (Int32.ofNat n))] [(.int (0 : Int32)), (.int (Int32.ofNat n))])) (fun _ q => XS.iloadN X0.here hx rfl (hb hby d26_1) rfl q) ?_
  have hc185 : ¬ ((Int32.ofNat n) < (0 : Int32)) := own_nneg (by omega)
  refine own_step (T' := s₁) (g' := (mkF m 37 #[.val (.int (0 : Int32)), .val (.int (Int32.ofNat n))] [])) (fun _ q => XS.icmpYes X0.here hx rfl (pc0 := 2) (pc' := 37) rfl (hb hby d26_2) rfl (XT.ii_ge_t hc185) (by decide) (by decide) q) ?_
  exact own_retV X0 hx Bd.returns (hb hby d26_37) hlk ⟨rfl, N0, e0⟩ (by first | decide | (dsimp only; omega)) (by first | decide | (dsimp only; omega))
theorem pd_15 : parseMethodDescriptor "(II)I" = some ⟨[.int, .int], some .int⟩ := by decide +kernel
theorem d25_0 : decode jdk_65_method_133_code 0 = .ok (.iload_n 1, 1) := by decide +kernel
theorem d25_1 : decode jdk_65_method_133_code 1 = .ok (.iload_n 2, 1) := by decide +kernel
theorem d25_2 : decode jdk_65_method_133_code 2 = .ok (.invokestatic 343, 3) := by decide +kernel
theorem d25_5 : decode jdk_65_method_133_code 5 = .ok (.iload_n 2, 1) := by decide +kernel
theorem d25_6 : decode jdk_65_method_133_code 6 = .ok (.iload_n 1, 1) := by decide +kernel
theorem d25_7 : decode jdk_65_method_133_code 7 = .ok (.isub, 1) := by decide +kernel
theorem d25_8 : decode jdk_65_method_133_code 8 = .ok (.istore_n 3, 1) := by decide +kernel
theorem d25_9 : decode jdk_65_method_133_code 9 = .ok (.iload_n 3, 1) := by decide +kernel
theorem d25_10 : decode jdk_65_method_133_code 10 = .ok (.newarray .byte, 2) := by decide +kernel
theorem d25_12 : decode jdk_65_method_133_code 12 = .ok (.astore 4, 2) := by decide +kernel
theorem d25_14 : decode jdk_65_method_133_code 14 = .ok (.aload_n 0, 1) := by decide +kernel
theorem d25_15 : decode jdk_65_method_133_code 15 = .ok (.iload_n 1, 1) := by decide +kernel
theorem d25_16 : decode jdk_65_method_133_code 16 = .ok (.aload 4, 2) := by decide +kernel
theorem d25_18 : decode jdk_65_method_133_code 18 = .ok (.iconst 0, 1) := by decide +kernel
theorem d25_19 : decode jdk_65_method_133_code 19 = .ok (.aload_n 0, 1) := by decide +kernel
theorem d25_20 : decode jdk_65_method_133_code 20 = .ok (.arraylength, 1) := by decide +kernel
theorem d25_21 : decode jdk_65_method_133_code 21 = .ok (.iload_n 1, 1) := by decide +kernel
theorem d25_22 : decode jdk_65_method_133_code 22 = .ok (.isub, 1) := by decide +kernel
theorem d25_23 : decode jdk_65_method_133_code 23 = .ok (.iload_n 3, 1) := by decide +kernel
theorem d25_24 : decode jdk_65_method_133_code 24 = .ok (.invokestatic 304, 3) := by decide +kernel
theorem d25_27 : decode jdk_65_method_133_code 27 = .ok (.invokestatic 150, 3) := by decide +kernel
theorem d25_30 : decode jdk_65_method_133_code 30 = .ok (.aload 4, 2) := by decide +kernel
theorem d25_32 : decode jdk_65_method_133_code 32 = .ok (.areturn, 1) := by decide +kernel
def Q_own_crb (Z : State) (u : Addr) (ku : ClassId) (bs : List Value) (h0 : Heap) (n0 : Nat) (v : Option Value) (h : Heap) (L : List Loc) : Prop := ∃ (t : Addr), ∃ (kb : ClassId), v = some (.ref t) ∧ Fr n0 L ∧ Keep h0 h [] ∧ h0.size ≤ t ∧ Arv Z h t kb .byte (Int32.ofNat bs.length) bs (.int 0)
set_option maxRecDepth 65536 in
set_option maxHeartbeats 40000000 in
theorem own_crb (l : Launch) (Z : State) (a0 : Array Value) (hw : ∀ d ∈ tables_1, d.before a0 Z = true) (ws : List Jvm.Cond) (u : Addr) (ku : ClassId) (bs : List Value) (h0 : Heap) (n0 : Nat) (Z0 : n0 ≤ h0.size) (V_u : Arv Z h0 u ku .byte (16 : Int32) (own_pad bs) (.int 0)) (hbl : bs.length < 16) :
    MetFree l (⟨"java/util/Arrays", "copyOfRangeByte", "([BII)[B"⟩ : MethodName) (head1 (Jvm.Cond.code (⟨"java/util/Arrays", "copyOfRangeByte", "([BII)[B"⟩ : MethodName) jdk_65_method_133_code 5 (some (.array .byte)) :: ws) ({ frames := 1, cells := 1, slots := 16, locals := 18 } : Room)) (fun ag U => ag = #[(.ref u), (.int (0 : Int32)), (.int (Int32.ofNat bs.length))] ∧ Z.Warmed39 U.vm ∧ U.heap = h0) (fun _ _ _ _ _ => True) (fun _ U o U' => ∃ v L, o = .returned v ∧ Q_own_crb Z u ku bs h0 n0 v U'.heap L ∧ FrameEnd U o U' L ({ frames := 1, cells := 1, slots := 16, locals := 18 } : Room).cells ({ frames := 1, cells := 1, slots := 16, locals := 18 } : Room).slots) := by
  refine own_body (plainFor_of_name pn_5) ?_
  intro p e s m below meth c s₁ Bd hml hZ e0
  have hx := Bd.exec
  have hby := Bd.bytes
  have hlk : meth.locks = false := BodyLoose.notSynchronized Bd
  have hown : s.vm.findClass "java/util/Arrays" = some m.cls := findClass_of_methodNamed Bd.named
  have hnm := (name_of_methodNamed Bd.named Bd.method).1
  have X0 : Stand p l e ({ frames := 1, cells := 1, slots := 16, locals := 18 } : Room) s m #[(.ref u), (.int (0 : Int32)), (.int (Int32.ofNat bs.length))] below meth c s₁ [] 0 0 := Stand.of_body Bd
  have N0 := Fr.nil n0
  have KP0 : Keep h0 h0 [] := Keep.refl h0 []
  have lt_u := V_u.lt
  refine own_cast (g' := (mkF m 0 #[.val (.ref u), .val (.int (0 : Int32)), .val (.int (Int32.ofNat bs.length)), .unset, .unset] [])) (by first | (simp [entryFrame, mkF, argsToLocals, own_cat_int, own_cat_long, own_cat_ref, own_cat_null]; done) | rfl) ?_
  refine own_step (T' := s₁) (g' := (mkF m 1 #[.val (.ref u), .val (.int (0 : Int32)), .val (.int (Int32.ofNat bs.length)), .unset, .unset] [(.int (0 : Int32))])) (fun _ q => XS.iloadN X0.here hx rfl (hb hby d25_0) rfl q) ?_
  refine own_step (T' := s₁) (g' := (mkF m 2 #[.val (.ref u), .val (.int (0 : Int32)), .val (.int (Int32.ofNat bs.length)), .unset, .unset] [(.int (Int32.ofNat bs.length)), (.int (0 : Int32))])) (fun _ q => XS.iloadN X0.here hx rfl (hb hby d25_1) rfl q) ?_
  refine own_callS X0 hx hZ hown (w146 hw) (w147 hw) (w141 hw) (w148 hw) (by decide) (backOf (W := 0) (own_ckl l Z a0 hw [] bs.length h0 n0 Z0 (hbl : bs.length < 16)) hZ (w148 hw) (w141 hw) (Nat.le_of_ble_eq_true rfl) (Nat.le_of_ble_eq_true rfl)) e0  (by first | decide | (dsimp only; omega)) (by first | decide | (dsimp only; omega)) (g := (mkF m 2 #[.val (.ref u), .val (.int (0 : Int32)), .val (.int (Int32.ofNat bs.length)), .unset, .unset] [(.int (Int32.ofNat bs.length)), (.int (0 : Int32))])) (argsL := [(.int (0 : Int32)), (.int (Int32.ofNat bs.length))]) (rest := []) rfl (by rw [hml]; rfl) (lenOf pd_6 rfl) rfl rfl (by show 2 * 0 + _ ≤ _; exact Nat.le_of_eq rfl) (hb hby d25_2) ?_
  rintro _ T186 L186 X186 ⟨rfl, N186q, e186⟩
  have N187 := Fr.app N0 N186q
  show own_Fin p e below _ T186 (mkF m 5 #[.val (.ref u), .val (.int (0 : Int32)), .val (.int (Int32.ofNat bs.length)), .unset, .unset] [])
  refine own_step (T' := T186) (g' := (mkF m 6 #[.val (.ref u), .val (.int (0 : Int32)), .val (.int (Int32.ofNat bs.length)), .unset, .unset] [(.int (Int32.ofNat bs.length))])) (fun _ q => XS.iloadN X186.here hx rfl (hb hby d25_5) rfl q) ?_
  refine own_step (T' := T186) (g' := (mkF m 7 #[.val (.ref u), .val (.int (0 : Int32)), .val (.int (Int32.ofNat bs.length)), .unset, .unset] [(.int (0 : Int32)), (.int (Int32.ofNat bs.length))])) (fun _ q => XS.iloadN X186.here hx rfl (hb hby d25_6) rfl q) ?_
  refine own_step (T' := T186) (g' := (mkF m 8 #[.val (.ref u), .val (.int (0 : Int32)), .val (.int (Int32.ofNat bs.length)), .unset, .unset] [(.int ((Int32.ofNat bs.length) - (0 : Int32)))])) (fun _ q => XS.isub X186.here hx rfl (hb hby d25_7) rfl q) ?_
  rw [show ((Int32.ofNat bs.length) - (0 : Int32)) = (Int32.ofNat bs.length) from (own_sub0 _)]
  refine own_step (T' := T186) (g' := (mkF m 9 #[.val (.ref u), .val (.int (0 : Int32)), .val (.int (Int32.ofNat bs.length)), .val (.int (Int32.ofNat bs.length)), .unset] [])) (fun _ q => XS.istoreN X186.here hx rfl (hb hby d25_8) rfl (l' := #[.val (.ref u), .val (.int (0 : Int32)), .val (.int (Int32.ofNat bs.length)), .val (.int (Int32.ofNat bs.length)), .unset]) rfl q) ?_
  refine own_step (T' := T186) (g' := (mkF m 10 #[.val (.ref u), .val (.int (0 : Int32)), .val (.int (Int32.ofNat bs.length)), .val (.int (Int32.ofNat bs.length)), .unset] [(.int (Int32.ofNat bs.length))])) (fun _ q => XS.iloadN X186.here hx rfl (hb hby d25_9) rfl q) ?_
  obtain ⟨T188, h188, k188, X188, e188, E188, A188, st188⟩ := newP X186 hx hZ (aty := .byte) (w22 hw) e186 (g := (mkF m 10 #[.val (.ref u), .val (.int (0 : Int32)), .val (.int (Int32.ofNat bs.length)), .val (.int (Int32.ofNat bs.length)), .unset] [(.int (Int32.ofNat bs.length))])) rfl (hb hby d25_10) rfl (own_nneg (by omega)) (cap := 16) (by rw [own_nat (by omega)]; omega) (by first | decide | omega) (by first | decide | (dsimp only; omega)) (by first | decide | (dsimp only; omega))
  obtain ⟨b188, g188⟩ : ∃ z, z = h0.size := ⟨_, rfl⟩
  rw [← g188] at A188 st188
  have n0_189 : n0 ≤ b188 := Nat.le_trans Z0 (Nat.le_of_eq g188.symm)
  have sz0_190 := Nat.le_trans KP0.1 (Nat.le_of_eq g188.symm)
  have ne191 : u ≠ b188 := own_ne lt_u (Nat.le_of_eq g188.symm)
  have V188 : Arv Z h188 b188 k188 .byte (Int32.ofNat bs.length) (List.replicate (Int32.ofNat bs.length).toNatClampNeg (.int (0 : Int32))) (.int (0 : Int32)) := (Arv.new A188 (own_nneg (by omega))).pad (pad_rep [] (.int (0 : Int32)) _)
  have ltb188 := V188.lt
  refine own_step (T' := T188) (g' := (mkF m 12 #[.val (.ref u), .val (.int (0 : Int32)), .val (.int (Int32.ofNat bs.length)), .val (.int (Int32.ofNat bs.length)), .unset] [(.ref b188)])) st188 ?_
  refine own_step (T' := T188) (g' := (mkF m 14 #[.val (.ref u), .val (.int (0 : Int32)), .val (.int (Int32.ofNat bs.length)), .val (.int (Int32.ofNat bs.length)), .val (.ref b188)] [])) (fun _ q => XS.astore X188.here hx rfl (hb hby d25_12) rfl rfl (l' := #[.val (.ref u), .val (.int (0 : Int32)), .val (.int (Int32.ofNat bs.length)), .val (.int (Int32.ofNat bs.length)), .val (.ref b188)]) rfl q) ?_
  refine own_step (T' := T188) (g' := (mkF m 15 #[.val (.ref u), .val (.int (0 : Int32)), .val (.int (Int32.ofNat bs.length)), .val (.int (Int32.ofNat bs.length)), .val (.ref b188)] [(.ref u)])) (fun _ q => XS.aloadN X188.here hx rfl (hb hby d25_14) rfl rfl q) ?_
  refine own_step (T' := T188) (g' := (mkF m 16 #[.val (.ref u), .val (.int (0 : Int32)), .val (.int (Int32.ofNat bs.length)), .val (.int (Int32.ofNat bs.length)), .val (.ref b188)] [(.int (0 : Int32)), (.ref u)])) (fun _ q => XS.iloadN X188.here hx rfl (hb hby d25_15) rfl q) ?_
  refine own_step (T' := T188) (g' := (mkF m 18 #[.val (.ref u), .val (.int (0 : Int32)), .val (.int (Int32.ofNat bs.length)), .val (.int (Int32.ofNat bs.length)), .val (.ref b188)] [(.ref b188), (.int (0 : Int32)), (.ref u)])) (fun _ q => XS.aload X188.here hx rfl (hb hby d25_16) rfl rfl q) ?_
  refine own_step (T' := T188) (g' := (mkF m 19 #[.val (.ref u), .val (.int (0 : Int32)), .val (.int (Int32.ofNat bs.length)), .val (.int (Int32.ofNat bs.length)), .val (.ref b188)] [(.int (0 : Int32)), (.ref b188), (.int (0 : Int32)), (.ref u)])) (fun _ q => XS.iconst X188.here hx rfl (hb hby d25_18) q) ?_
  refine own_step (T' := T188) (g' := (mkF m 20 #[.val (.ref u), .val (.int (0 : Int32)), .val (.int (Int32.ofNat bs.length)), .val (.int (Int32.ofNat bs.length)), .val (.ref b188)] [(.ref u), (.int (0 : Int32)), (.ref b188), (.int (0 : Int32)), (.ref u)])) (fun _ q => XS.aloadN X188.here hx rfl (hb hby d25_19) rfl rfl q) ?_
  have c192 := (V_u.ext E188)
  refine own_step (T' := T188) (g' := (mkF m 21 #[.val (.ref u), .val (.int (0 : Int32)), .val (.int (Int32.ofNat bs.length)), .val (.int (Int32.ofNat bs.length)), .val (.ref b188)] [(.int (16 : Int32)), (.int (0 : Int32)), (.ref b188), (.int (0 : Int32)), (.ref u)])) (fun _ q => own_len X188 hx hZ e188 c192 (g := (mkF m 20 #[.val (.ref u), .val (.int (0 : Int32)), .val (.int (Int32.ofNat bs.length)), .val (.int (Int32.ofNat bs.length)), .val (.ref b188)] [(.ref u), (.int (0 : Int32)), (.ref b188), (.int (0 : Int32)), (.ref u)])) rfl rfl (hb hby d25_20) _ q) ?_
  refine own_step (T' := T188) (g' := (mkF m 22 #[.val (.ref u), .val (.int (0 : Int32)), .val (.int (Int32.ofNat bs.length)), .val (.int (Int32.ofNat bs.length)), .val (.ref b188)] [(.int (0 : Int32)), (.int (16 : Int32)), (.int (0 : Int32)), (.ref b188), (.int (0 : Int32)), (.ref u)])) (fun _ q => XS.iloadN X188.here hx rfl (hb hby d25_21) rfl q) ?_
  refine own_step (T' := T188) (g' := (mkF m 23 #[.val (.ref u), .val (.int (0 : Int32)), .val (.int (Int32.ofNat bs.length)), .val (.int (Int32.ofNat bs.length)), .val (.ref b188)] [(.int (16 : Int32)), (.int (0 : Int32)), (.ref b188), (.int (0 : Int32)), (.ref u)])) (fun _ q => XS.isub X188.here hx rfl (hb hby d25_22) rfl q) ?_
  refine own_step (T' := T188) (g' := (mkF m 24 #[.val (.ref u), .val (.int (0 : Int32)), .val (.int (Int32.ofNat bs.length)), .val (.int (Int32.ofNat bs.length)), .val (.ref b188)] [(.int (Int32.ofNat bs.length)), (.int (16 : Int32)), (.int (0 : Int32)), (.ref b188), (.int (0 : Int32)), (.ref u)])) (fun _ q => XS.iloadN X188.here hx rfl (hb hby d25_23) rfl q) ?_
  have c193 := (Nat.le_trans Z0 E188.1)
  refine own_callS X188 hx hZ hown (w149 hw) (w150 hw) (w151 hw) (w152 hw) (by decide) (backOf (W := 4) (own_min l Z a0 hw [] bs.length h188 n0 c193 (hbl : bs.length < 16)) hZ (w152 hw) (w151 hw) (Nat.le_of_ble_eq_true rfl) (Nat.le_of_ble_eq_true rfl)) e188  (by first | decide | (dsimp only; omega)) (by first | decide | (dsimp only; omega)) (g := (mkF m 24 #[.val (.ref u), .val (.int (0 : Int32)), .val (.int (Int32.ofNat bs.length)), .val (.int (Int32.ofNat bs.length)), .val (.ref b188)] [(.int (Int32.ofNat bs.length)), (.int (16 : Int32)), (.int (0 : Int32)), (.ref b188), (.int (0 : Int32)), (.ref u)])) (argsL := [(.int (16 : Int32)), (.int (Int32.ofNat bs.length))]) (rest := [(.int (0 : Int32)), (.ref b188), (.int (0 : Int32)), (.ref u)]) rfl (by rw [hml]; rfl) (lenOf pd_15 rfl) rfl rfl (by show 2 * 0 + _ ≤ _; exact Nat.le_of_eq rfl) (hb hby d25_24) ?_
  rintro _ T194 L194 X194 ⟨rfl, N194q, e194⟩
  have N195 := Fr.app N187 N194q
  show own_Fin p e below _ T194 (mkF m 27 #[.val (.ref u), .val (.int (0 : Int32)), .val (.int (Int32.ofNat bs.length)), .val (.int (Int32.ofNat bs.length)), .val (.ref b188)] [(.int (Int32.ofNat bs.length)), (.int (0 : Int32)), (.ref b188), (.int (0 : Int32)), (.ref u)])
  obtain ⟨T196, h196, L196, X196, e196, N196, K196, A196, st196⟩ := cpA X194 hx hZ hown (w153 hw) (w107 hw) (w105 hw) (w106 hw) e194 c192 V188 (us := bs) (Or.inl ⟨rfl, rfl⟩) (by decide) (by decide) (own_nneg (by omega)) (by rw [own_nat (by omega), own_z32]; show 0 + bs.length ≤ 16; omega) (by rw [own_nat (by omega), own_z32]; omega) (own_rngA bs _ _ (by omega)) (by rw [own_nat (by omega), own_z32, List.length_replicate]; omega) N195 n0_189 (g := (mkF m 27 #[.val (.ref u), .val (.int (0 : Int32)), .val (.int (Int32.ofNat bs.length)), .val (.int (Int32.ofNat bs.length)), .val (.ref b188)] [(.int (Int32.ofNat bs.length)), (.int (0 : Int32)), (.ref b188), (.int (0 : Int32)), (.ref u)])) rfl (by rw [hml]; rfl) (rest := []) rfl (hb hby d25_27) (Nat.le_of_ble_eq_true rfl) (W := 0) (by show 2 * 0 + _ ≤ _; exact Nat.le_of_eq rfl) (by rw [own_nfw]; exact Nat.le_of_ble_eq_true rfl)
  have qV197 : (((List.replicate (Int32.ofNat bs.length).toNatClampNeg (.int (0 : Int32))).take (0 : Int32).toNatClampNeg ++ bs ++ (List.replicate (Int32.ofNat bs.length).toNatClampNeg (.int (0 : Int32))).drop ((0 : Int32).toNatClampNeg + (Int32.ofNat bs.length).toNatClampNeg)) : List Value) = bs := (own_cp0 hbl)
  have V197 : Arv Z h196 b188 k188 .byte (Int32.ofNat bs.length) bs (.int (0 : Int32)) := own_fixv qV197 A196
  refine own_step (T' := T196) (g' := (mkF m 30 #[.val (.ref u), .val (.int (0 : Int32)), .val (.int (Int32.ofNat bs.length)), .val (.int (Int32.ofNat bs.length)), .val (.ref b188)] [])) st196 ?_
  refine own_step (T' := T196) (g' := (mkF m 32 #[.val (.ref u), .val (.int (0 : Int32)), .val (.int (Int32.ofNat bs.length)), .val (.int (Int32.ofNat bs.length)), .val (.ref b188)] [(.ref b188)])) (fun _ q => XS.aload X196.here hx rfl (hb hby d25_30) rfl rfl q) ?_
  have c198 := ((KP0.ext E188).trans K196 (allS (Or.inr sz0_190) all0))
  exact own_retA X196 hx Bd.returns rfl rfl (hb hby d25_32) hlk (by rw [e196]; exact ⟨b188, k188, rfl, N196, c198, sz0_190, V197⟩) (by first | decide | (dsimp only; omega)) (by first | decide | (dsimp only; omega))
theorem pd_16 : parseMethodDescriptor "([BII)[B" = some ⟨[(.array .byte), .int, .int], some (.array .byte)⟩ := by decide +kernel
theorem d24_0 : decode jdk_65_method_132_code 0 = .ok (.iload_n 1, 1) := by decide +kernel
theorem d24_1 : decode jdk_65_method_132_code 1 = .ok (.ifCond .ne 9, 3) := by decide +kernel
theorem d24_4 : decode jdk_65_method_132_code 4 = .ok (.iload_n 2, 1) := by decide +kernel
theorem d24_5 : decode jdk_65_method_132_code 5 = .ok (.aload_n 0, 1) := by decide +kernel
theorem d24_6 : decode jdk_65_method_132_code 6 = .ok (.arraylength, 1) := by decide +kernel
theorem d24_7 : decode jdk_65_method_132_code 7 = .ok (.if_icmp .eq 10, 3) := by decide +kernel
theorem d24_10 : decode jdk_65_method_132_code 10 = .ok (.aload_n 0, 1) := by decide +kernel
theorem d24_11 : decode jdk_65_method_132_code 11 = .ok (.iload_n 1, 1) := by decide +kernel
theorem d24_12 : decode jdk_65_method_132_code 12 = .ok (.iload_n 2, 1) := by decide +kernel
theorem d24_13 : decode jdk_65_method_132_code 13 = .ok (.invokestatic 339, 3) := by decide +kernel
theorem d24_16 : decode jdk_65_method_132_code 16 = .ok (.areturn, 1) := by decide +kernel
def Q_own_cr (Z : State) (u : Addr) (ku : ClassId) (bs : List Value) (h0 : Heap) (n0 : Nat) (v : Option Value) (h : Heap) (L : List Loc) : Prop := ∃ (t : Addr), ∃ (kb : ClassId), v = some (.ref t) ∧ Fr n0 L ∧ Keep h0 h [] ∧ h0.size ≤ t ∧ Arv Z h t kb .byte (Int32.ofNat bs.length) bs (.int 0)
set_option maxRecDepth 65536 in
set_option maxHeartbeats 40000000 in
theorem own_cr (l : Launch) (Z : State) (a0 : Array Value) (hw : ∀ d ∈ tables_1, d.before a0 Z = true) (ws : List Jvm.Cond) (u : Addr) (ku : ClassId) (bs : List Value) (h0 : Heap) (n0 : Nat) (Z0 : n0 ≤ h0.size) (V_u : Arv Z h0 u ku .byte (16 : Int32) (own_pad bs) (.int 0)) (hbl : bs.length < 16) :
    MetFree l (⟨"java/util/Arrays", "copyOfRange", "([BII)[B"⟩ : MethodName) (head1 (Jvm.Cond.code (⟨"java/util/Arrays", "copyOfRange", "([BII)[B"⟩ : MethodName) jdk_65_method_132_code 3 (some (.array .byte)) :: ws) ({ frames := 2, cells := 1, slots := 16, locals := 34 } : Room)) (fun ag U => ag = #[(.ref u), (.int (0 : Int32)), (.int (Int32.ofNat bs.length))] ∧ Z.Warmed39 U.vm ∧ U.heap = h0) (fun _ _ _ _ _ => True) (fun _ U o U' => ∃ v L, o = .returned v ∧ Q_own_cr Z u ku bs h0 n0 v U'.heap L ∧ FrameEnd U o U' L ({ frames := 2, cells := 1, slots := 16, locals := 34 } : Room).cells ({ frames := 2, cells := 1, slots := 16, locals := 34 } : Room).slots) := by
  refine own_body (plainFor_of_name pn_5) ?_
  intro p e s m below meth c s₁ Bd hml hZ e0
  have hx := Bd.exec
  have hby := Bd.bytes
  have hlk : meth.locks = false := BodyLoose.notSynchronized Bd
  have hown : s.vm.findClass "java/util/Arrays" = some m.cls := findClass_of_methodNamed Bd.named
  have hnm := (name_of_methodNamed Bd.named Bd.method).1
  have X0 : Stand p l e ({ frames := 2, cells := 1, slots := 16, locals := 34 } : Room) s m #[(.ref u), (.int (0 : Int32)), (.int (Int32.ofNat bs.length))] below meth c s₁ [] 0 0 := Stand.of_body Bd
  have N0 := Fr.nil n0
  have KP0 : Keep h0 h0 [] := Keep.refl h0 []
  have lt_u := V_u.lt
  refine own_cast (g' := (mkF m 0 #[.val (.ref u), .val (.int (0 : Int32)), .val (.int (Int32.ofNat bs.length))] [])) (by first | (simp [entryFrame, mkF, argsToLocals, own_cat_int, own_cat_long, own_cat_ref, own_cat_null]; done) | rfl) ?_
  refine own_step (T' := s₁) (g' := (mkF m 1 #[.val (.ref u), .val (.int (0 : Int32)), .val (.int (Int32.ofNat bs.length))] [(.int (0 : Int32))])) (fun _ q => XS.iloadN X0.here hx rfl (hb hby d24_0) rfl q) ?_
  refine own_step (T' := s₁) (g' := (mkF m 4 #[.val (.ref u), .val (.int (0 : Int32)), .val (.int (Int32.ofNat bs.length))] [])) (fun _ q => XS.ifNo X0.here hx rfl (hb hby d24_1) rfl (by decide) q) ?_
  refine own_step (T' := s₁) (g' := (mkF m 5 #[.val (.ref u), .val (.int (0 : Int32)), .val (.int (Int32.ofNat bs.length))] [(.int (Int32.ofNat bs.length))])) (fun _ q => XS.iloadN X0.here hx rfl (hb hby d24_4) rfl q) ?_
  refine own_step (T' := s₁) (g' := (mkF m 6 #[.val (.ref u), .val (.int (0 : Int32)), .val (.int (Int32.ofNat bs.length))] [(.ref u), (.int (Int32.ofNat bs.length))])) (fun _ q => XS.aloadN X0.here hx rfl (hb hby d24_5) rfl rfl q) ?_
  refine own_step (T' := s₁) (g' := (mkF m 7 #[.val (.ref u), .val (.int (0 : Int32)), .val (.int (Int32.ofNat bs.length))] [(.int (16 : Int32)), (.int (Int32.ofNat bs.length))])) (fun _ q => own_len X0 hx hZ e0 V_u (g := (mkF m 6 #[.val (.ref u), .val (.int (0 : Int32)), .val (.int (Int32.ofNat bs.length))] [(.ref u), (.int (Int32.ofNat bs.length))])) rfl rfl (hb hby d24_6) _ q) ?_
  have hc199 : ¬ ((Int32.ofNat bs.length) = (16 : Int32)) := own_ne16 hbl
  refine own_step (T' := s₁) (g' := (mkF m 10 #[.val (.ref u), .val (.int (0 : Int32)), .val (.int (Int32.ofNat bs.length))] [])) (fun _ q => XS.icmpNo X0.here hx rfl (hb hby d24_7) rfl (XT.ii_eq_f hc199) q) ?_
  refine own_step (T' := s₁) (g' := (mkF m 11 #[.val (.ref u), .val (.int (0 : Int32)), .val (.int (Int32.ofNat bs.length))] [(.ref u)])) (fun _ q => XS.aloadN X0.here hx rfl (hb hby d24_10) rfl rfl q) ?_
  refine own_step (T' := s₁) (g' := (mkF m 12 #[.val (.ref u), .val (.int (0 : Int32)), .val (.int (Int32.ofNat bs.length))] [(.int (0 : Int32)), (.ref u)])) (fun _ q => XS.iloadN X0.here hx rfl (hb hby d24_11) rfl q) ?_
  refine own_step (T' := s₁) (g' := (mkF m 13 #[.val (.ref u), .val (.int (0 : Int32)), .val (.int (Int32.ofNat bs.length))] [(.int (Int32.ofNat bs.length)), (.int (0 : Int32)), (.ref u)])) (fun _ q => XS.iloadN X0.here hx rfl (hb hby d24_12) rfl q) ?_
  refine own_callS X0 hx hZ hown (w143 hw) (w144 hw) (w141 hw) (w145 hw) (by decide) (backOf (W := 0) (own_crb l Z a0 hw [] u ku bs h0 n0 Z0 V_u hbl) hZ (w145 hw) (w141 hw) (Nat.le_of_ble_eq_true rfl) (Nat.le_of_ble_eq_true rfl)) e0  (by first | decide | (dsimp only; omega)) (by first | decide | (dsimp only; omega)) (g := (mkF m 13 #[.val (.ref u), .val (.int (0 : Int32)), .val (.int (Int32.ofNat bs.length))] [(.int (Int32.ofNat bs.length)), (.int (0 : Int32)), (.ref u)])) (argsL := [(.ref u), (.int (0 : Int32)), (.int (Int32.ofNat bs.length))]) (rest := []) rfl (by rw [hml]; rfl) (lenOf pd_16 rfl) rfl rfl (by show 2 * 0 + _ ≤ _; exact Nat.le_of_eq rfl) (hb hby d24_13) ?_
  rintro _ T200 L200 X200 ⟨t200, kb200, rfl, N200q, K200, f0_200, f1_200⟩
  have n0_201 : n0 ≤ t200 := Nat.le_trans Z0 f0_200
  have sz0_202 := Nat.le_trans KP0.1 f0_200
  have ne203 : u ≠ t200 := own_ne lt_u f0_200
  have lt204 := f1_200.lt
  have N205 := Fr.app N0 N200q
  show own_Fin p e below _ T200 (mkF m 16 #[.val (.ref u), .val (.int (0 : Int32)), .val (.int (Int32.ofNat bs.length))] [(.ref t200)])
  have c206 := (KP0.trans K200 all0)
  exact own_retA X200 hx Bd.returns rfl rfl (hb hby d24_16) hlk ⟨t200, kb200, rfl, N205, c206, sz0_202, f1_200⟩ (by first | decide | (dsimp only; omega)) (by first | decide | (dsimp only; omega))
theorem pd_17 : parseMethodDescriptor "()[B" = some ⟨[], some (.array .byte)⟩ := by decide +kernel
theorem d19_0 : decode jdk_42_method_150_code 0 = .ok (.aload_n 0, 1) := by decide +kernel
theorem d19_1 : decode jdk_42_method_150_code 1 = .ok (.invokespecial 1, 3) := by decide +kernel
theorem d19_4 : decode jdk_42_method_150_code 4 = .ok (.aload_n 1, 1) := by decide +kernel
theorem d19_5 : decode jdk_42_method_150_code 5 = .ok (.invokevirtual 552, 3) := by decide +kernel
theorem d19_8 : decode jdk_42_method_150_code 8 = .ok (.astore_n 3, 1) := by decide +kernel
theorem d19_9 : decode jdk_42_method_150_code 9 = .ok (.aload_n 1, 1) := by decide +kernel
theorem d19_10 : decode jdk_42_method_150_code 10 = .ok (.invokevirtual 549, 3) := by decide +kernel
theorem d19_13 : decode jdk_42_method_150_code 13 = .ok (.istore 4, 2) := by decide +kernel
theorem d19_15 : decode jdk_42_method_150_code 15 = .ok (.aload_n 1, 1) := by decide +kernel
theorem d19_16 : decode jdk_42_method_150_code 16 = .ok (.invokevirtual 1047, 3) := by decide +kernel
theorem d19_19 : decode jdk_42_method_150_code 19 = .ok (.ifCond .eq 22, 3) := by decide +kernel
theorem d19_22 : decode jdk_42_method_150_code 22 = .ok (.aload_n 0, 1) := by decide +kernel
theorem d19_23 : decode jdk_42_method_150_code 23 = .ok (.iconst 0, 1) := by decide +kernel
theorem d19_24 : decode jdk_42_method_150_code 24 = .ok (.putfield 15, 3) := by decide +kernel
theorem d19_27 : decode jdk_42_method_150_code 27 = .ok (.aload_n 0, 1) := by decide +kernel
theorem d19_28 : decode jdk_42_method_150_code 28 = .ok (.aload_n 3, 1) := by decide +kernel
theorem d19_29 : decode jdk_42_method_150_code 29 = .ok (.iconst 0, 1) := by decide +kernel
theorem d19_30 : decode jdk_42_method_150_code 30 = .ok (.iload 4, 2) := by decide +kernel
theorem d19_32 : decode jdk_42_method_150_code 32 = .ok (.invokestatic 54, 3) := by decide +kernel
theorem d19_35 : decode jdk_42_method_150_code 35 = .ok (.putfield 9, 3) := by decide +kernel
theorem d19_38 : decode jdk_42_method_150_code 38 = .ok (.goto 59, 3) := by decide +kernel
theorem d19_97 : decode jdk_42_method_150_code 97 = .ok (.return_, 1) := by decide +kernel
def Q_own_sa (Z : State) (G1 : Int32) (G3 : Value) (r : Addr) (a : Addr) (u : Addr) (ku : ClassId) (bs : List Value) (h0 : Heap) (n0 : Nat) (v : Option Value) (h : Heap) (L : List Loc) : Prop := ∃ (t : Addr), ∃ (kb : ClassId), v = none ∧ Fr n0 L ∧ Keep h0 h [r] ∧ h0.size ≤ t ∧ Exa Z h r "java/lang/String" ∧ Fld Z h r "java/lang/String" "value" "[B" (.ref t) ∧ Fld Z h r "java/lang/String" "coder" "B" (.int (0 : Int32)) ∧ Arv Z h t kb .byte (Int32.ofNat bs.length) bs (.int 0)
set_option maxRecDepth 65536 in
set_option maxHeartbeats 40000000 in
theorem own_sa (l : Launch) (Z : State) (a0 : Array Value) (hw : ∀ d ∈ tables_1, d.before a0 Z = true) (ws : List Jvm.Cond) (G1 : Int32) (G3 : Value) (r : Addr) (a : Addr) (u : Addr) (ku : ClassId) (bs : List Value) (h0 : Heap) (n0 : Nat) (Z0 : n0 ≤ h0.size) (O2 : Sta Z Z.heap "java/lang/String" "COMPACT_STRINGS" "Z" (.int G1)) (O4 : Sta Z Z.heap "jdk/internal/util/Preconditions" "SIOOBE_FORMATTER" "Ljava/util/function/BiFunction;" G3) (P5 : ¬ (G1 = (0 : Int32))) (rG3 : G3.isRef = true) (OLD0 : Old Z n0 h0) (E_r : Exa Z h0 r "java/lang/String") (ge_r : n0 ≤ r) (F_value_r : Fld Z h0 r "java/lang/String" "value" "[B" .null) (F_coder_r : Fld Z h0 r "java/lang/String" "coder" "B" (.int (0 : Int32))) (E_a : Exa Z h0 a "java/lang/StringBuilder") (F_value_a : Fld Z h0 a "java/lang/AbstractStringBuilder" "value" "[B" (.ref u)) (F_coder_a : Fld Z h0 a "java/lang/AbstractStringBuilder" "coder" "B" (.int (0 : Int32))) (F_count_a : Fld Z h0 a "java/lang/AbstractStringBuilder" "count" "I" (.int (Int32.ofNat bs.length))) (V_u : Arv Z h0 u ku .byte (16 : Int32) (own_pad bs) (.int 0)) (hbl : bs.length < 16) :
    MetFree l (⟨"java/lang/String", "<init>", "(Ljava/lang/AbstractStringBuilder;Ljava/lang/Void;)V"⟩ : MethodName) (head1 (Jvm.Cond.code (⟨"java/lang/String", "<init>", "(Ljava/lang/AbstractStringBuilder;Ljava/lang/Void;)V"⟩ : MethodName) jdk_42_method_150_code 5 none :: ws) ({ frames := 3, cells := 1, slots := 16, locals := 49 } : Room)) (fun ag U => ag = #[(.ref r), (.ref a), .null] ∧ Z.Warmed39 U.vm ∧ U.heap = h0) (fun _ _ _ _ _ => True) (fun _ U o U' => ∃ v L, o = .returned v ∧ Q_own_sa Z G1 G3 r a u ku bs h0 n0 v U'.heap L ∧ FrameEnd U o U' L ({ frames := 3, cells := 1, slots := 16, locals := 49 } : Room).cells ({ frames := 3, cells := 1, slots := 16, locals := 49 } : Room).slots) := by
  refine own_body (plainFor_of_name pn_1) ?_
  intro p e s m below meth c s₁ Bd hml hZ e0
  have hx := Bd.exec
  have hby := Bd.bytes
  have hlk : meth.locks = false := BodyLoose.notSynchronized Bd
  have hown : s.vm.findClass "java/lang/String" = some m.cls := findClass_of_methodNamed Bd.named
  have hnm := (name_of_methodNamed Bd.named Bd.method).1
  have X0 : Stand p l e ({ frames := 3, cells := 1, slots := 16, locals := 49 } : Room) s m #[(.ref r), (.ref a), .null] below meth c s₁ [] 0 0 := Stand.of_body Bd
  have N0 := Fr.nil n0
  have KP0 : Keep h0 h0 [r] := Keep.refl h0 [r]
  have lt_r := E_r.lt
  have lt_a := E_a.lt
  have lt_u := V_u.lt
  have ty_r_a : r ≠ a := (Exa.ne E_r E_a (by decide))
  have ty_r_u : r ≠ u := (Exa.neArv E_r V_u (w8 hw))
  have ty_a_u : a ≠ u := (Exa.neArv E_a V_u (w43 hw))
  refine own_cast (g' := (mkF m 0 #[.val (.ref r), .val (.ref a), .val .null, .unset, .unset] [])) (by first | (simp [entryFrame, mkF, argsToLocals, own_cat_int, own_cat_long, own_cat_ref, own_cat_null]; done) | rfl) ?_
  refine own_step (T' := s₁) (g' := (mkF m 1 #[.val (.ref r), .val (.ref a), .val .null, .unset, .unset] [(.ref r)])) (fun _ q => XS.aloadN X0.here hx rfl (hb hby d19_0) rfl rfl q) ?_
  obtain ⟨T207, X207, e207, st207⟩ := initO X0 hx hZ hown (w18 hw) (w19 hw) (w20 hw) e0 (g := (mkF m 1 #[.val (.ref r), .val (.ref a), .val .null, .unset, .unset] [(.ref r)])) rfl (by rw [hml]; rfl) rfl (hb hby d19_1) (Nat.le_of_ble_eq_true rfl) (W := 0) (by show 2 * 0 + _ ≤ _; exact Nat.le_of_eq rfl) (Nat.le_of_ble_eq_true rfl)
  refine own_step (T' := T207) (g' := (mkF m 4 #[.val (.ref r), .val (.ref a), .val .null, .unset, .unset] [])) st207 ?_
  refine own_step (T' := T207) (g' := (mkF m 5 #[.val (.ref r), .val (.ref a), .val .null, .unset, .unset] [(.ref a)])) (fun _ q => XS.aloadN X207.here hx rfl (hb hby d19_4) rfl rfl q) ?_
  refine own_callV (y := (⟨"java/lang/AbstractStringBuilder", "getValue", "()[B"⟩ : MethodName)) (z := (⟨"java/lang/AbstractStringBuilder", "getValue", "()[B"⟩ : MethodName)) X207 hx hZ hown (w121 hw) (w122 hw) (notFace_of_selects (args := #[]) (mvT hZ (w124 hw))) (w124 hw) (w123 hw) (by decide) (backOf (W := 0) (own_gv l Z a0 hw [] a u h0 n0 Z0 F_value_a) hZ (w125 hw) (w52 hw) (Nat.le_of_ble_eq_true rfl) (Nat.le_of_ble_eq_true rfl)) e207 E_a  (by first | decide | (dsimp only; omega)) (by first | decide | (dsimp only; omega)) (g := (mkF m 5 #[.val (.ref r), .val (.ref a), .val .null, .unset, .unset] [(.ref a)])) (argsL := []) (rest := []) rfl (by rw [hml]; rfl) (lenOf pd_17 rfl) rfl rfl (by show 2 * 0 + _ ≤ _; exact Nat.le_of_eq rfl) (hb hby d19_5) ?_
  rintro _ T208 L208 X208 ⟨rfl, N208q, e208⟩
  have N209 := Fr.app N0 N208q
  show own_Fin p e below _ T208 (mkF m 8 #[.val (.ref r), .val (.ref a), .val .null, .unset, .unset] [(.ref u)])
  refine own_step (T' := T208) (g' := (mkF m 9 #[.val (.ref r), .val (.ref a), .val .null, .val (.ref u), .unset] [])) (fun _ q => XS.astoreN X208.here hx rfl (hb hby d19_8) rfl rfl (l' := #[.val (.ref r), .val (.ref a), .val .null, .val (.ref u), .unset]) rfl q) ?_
  refine own_step (T' := T208) (g' := (mkF m 10 #[.val (.ref r), .val (.ref a), .val .null, .val (.ref u), .unset] [(.ref a)])) (fun _ q => XS.aloadN X208.here hx rfl (hb hby d19_9) rfl rfl q) ?_
  refine own_callV (y := (⟨"java/lang/AbstractStringBuilder", "length", "()I"⟩ : MethodName)) (z := (⟨"java/lang/StringBuilder", "length", "()I"⟩ : MethodName)) X208 hx hZ hown (w126 hw) (w127 hw) (own_nf_move (notFace_of_selects (args := #[]) (mvT hZ (w124 hw))) (mvT (args := #[]) hZ (w123 hw)) rfl) (w129 hw) (w130 hw) (by decide) (backOf (W := 0) (own_sbl l Z a0 hw [] a (Int32.ofNat bs.length) h0 n0 Z0 E_a F_count_a) hZ (w131 hw) (w44 hw) (Nat.le_of_ble_eq_true rfl) (Nat.le_of_ble_eq_true rfl)) e208 E_a  (by first | decide | (dsimp only; omega)) (by first | decide | (dsimp only; omega)) (g := (mkF m 10 #[.val (.ref r), .val (.ref a), .val .null, .val (.ref u), .unset] [(.ref a)])) (argsL := []) (rest := []) rfl (by rw [hml]; rfl) (lenOf pd_12 rfl) rfl rfl (by show 2 * 0 + _ ≤ _; exact Nat.le_of_eq rfl) (hb hby d19_10) ?_
  rintro _ T210 L210 X210 ⟨rfl, N210q, e210⟩
  have N211 := Fr.app N209 N210q
  show own_Fin p e below _ T210 (mkF m 13 #[.val (.ref r), .val (.ref a), .val .null, .val (.ref u), .unset] [(.int (Int32.ofNat bs.length))])
  refine own_step (T' := T210) (g' := (mkF m 15 #[.val (.ref r), .val (.ref a), .val .null, .val (.ref u), .val (.int (Int32.ofNat bs.length))] [])) (fun _ q => XS.istore X210.here hx rfl (hb hby d19_13) rfl (l' := #[.val (.ref r), .val (.ref a), .val .null, .val (.ref u), .val (.int (Int32.ofNat bs.length))]) rfl q) ?_
  refine own_step (T' := T210) (g' := (mkF m 16 #[.val (.ref r), .val (.ref a), .val .null, .val (.ref u), .val (.int (Int32.ofNat bs.length))] [(.ref a)])) (fun _ q => XS.aloadN X210.here hx rfl (hb hby d19_15) rfl rfl q) ?_
  refine own_callV (y := (⟨"java/lang/AbstractStringBuilder", "isLatin1", "()Z"⟩ : MethodName)) (z := (⟨"java/lang/AbstractStringBuilder", "isLatin1", "()Z"⟩ : MethodName)) X210 hx hZ hown (w134 hw) (w135 hw) (notFace_of_selects (args := #[]) (mvT hZ (w137 hw))) (w137 hw) (w136 hw) (by decide) (backOf (W := 0) (own_asi l Z a0 hw [] G1 G3 a h0 n0 Z0 O2 O4 P5 rG3 OLD0 F_coder_a) hZ (w138 hw) (w52 hw) (Nat.le_of_ble_eq_true rfl) (Nat.le_of_ble_eq_true rfl)) e210 E_a  (by first | decide | (dsimp only; omega)) (by first | decide | (dsimp only; omega)) (g := (mkF m 16 #[.val (.ref r), .val (.ref a), .val .null, .val (.ref u), .val (.int (Int32.ofNat bs.length))] [(.ref a)])) (argsL := []) (rest := []) rfl (by rw [hml]; rfl) (lenOf pd_7 rfl) rfl rfl (by show 2 * 0 + _ ≤ _; exact Nat.le_of_eq rfl) (hb hby d19_16) ?_
  rintro _ T212 L212 X212 ⟨rfl, N212q, e212⟩
  have N213 := Fr.app N211 N212q
  show own_Fin p e below _ T212 (mkF m 19 #[.val (.ref r), .val (.ref a), .val .null, .val (.ref u), .val (.int (Int32.ofNat bs.length))] [(.int (1 : Int32))])
  refine own_step (T' := T212) (g' := (mkF m 22 #[.val (.ref r), .val (.ref a), .val .null, .val (.ref u), .val (.int (Int32.ofNat bs.length))] [])) (fun _ q => XS.ifNo X212.here hx rfl (hb hby d19_19) rfl (by decide) q) ?_
  refine own_step (T' := T212) (g' := (mkF m 23 #[.val (.ref r), .val (.ref a), .val .null, .val (.ref u), .val (.int (Int32.ofNat bs.length))] [(.ref r)])) (fun _ q => XS.aloadN X212.here hx rfl (hb hby d19_22) rfl rfl q) ?_
  refine own_step (T' := T212) (g' := (mkF m 24 #[.val (.ref r), .val (.ref a), .val .null, .val (.ref u), .val (.int (Int32.ofNat bs.length))] [(.int (0 : Int32)), (.ref r)])) (fun _ q => XS.iconst X212.here hx rfl (hb hby d19_23) q) ?_
  obtain ⟨T214, h214, X214, e214, W214, st214⟩ := putFN X212 hx hZ hown (w28 hw) Via.refl e212 F_coder_r E_r (Or.inr ⟨(w24 hw), rfl, hnm⟩) (w8 hw) (ty := .byte) (v' := (.int (0 : Int32))) (by decide) rfl rfl (g := (mkF m 24 #[.val (.ref r), .val (.ref a), .val .null, .val (.ref u), .val (.int (Int32.ofNat bs.length))] [(.int (0 : Int32)), (.ref r)])) rfl rfl (hb hby d19_24)
  have F215 := F_coder_r.same W214
  have N216 := Fr.snoc X214 N213 ge_r
  refine own_step (T' := T214) (g' := (mkF m 27 #[.val (.ref r), .val (.ref a), .val .null, .val (.ref u), .val (.int (Int32.ofNat bs.length))] [])) st214 ?_
  refine own_step (T' := T214) (g' := (mkF m 28 #[.val (.ref r), .val (.ref a), .val .null, .val (.ref u), .val (.int (Int32.ofNat bs.length))] [(.ref r)])) (fun _ q => XS.aloadN X214.here hx rfl (hb hby d19_27) rfl rfl q) ?_
  refine own_step (T' := T214) (g' := (mkF m 29 #[.val (.ref r), .val (.ref a), .val .null, .val (.ref u), .val (.int (Int32.ofNat bs.length))] [(.ref u), (.ref r)])) (fun _ q => XS.aloadN X214.here hx rfl (hb hby d19_28) rfl rfl q) ?_
  refine own_step (T' := T214) (g' := (mkF m 30 #[.val (.ref r), .val (.ref a), .val .null, .val (.ref u), .val (.int (Int32.ofNat bs.length))] [(.int (0 : Int32)), (.ref u), (.ref r)])) (fun _ q => XS.iconst X214.here hx rfl (hb hby d19_29) q) ?_
  refine own_step (T' := T214) (g' := (mkF m 32 #[.val (.ref r), .val (.ref a), .val .null, .val (.ref u), .val (.int (Int32.ofNat bs.length))] [(.int (Int32.ofNat bs.length)), (.int (0 : Int32)), (.ref u), (.ref r)])) (fun _ q => XS.iload X214.here hx rfl (hb hby d19_30) rfl q) ?_
  have c217 := (V_u.other W214 (Ne.symm ty_r_u))
  have c218 := (Nat.le_trans Z0 (Keep.of_wr W214).1)
  refine own_callS X214 hx hZ hown (w139 hw) (w140 hw) (w141 hw) (w142 hw) (by decide) (backOf (W := 1) (own_cr l Z a0 hw [] u ku bs h214 n0 c218 c217 hbl) hZ (w142 hw) (w141 hw) (Nat.le_of_ble_eq_true rfl) (Nat.le_of_ble_eq_true rfl)) e214  (by first | decide | (dsimp only; omega)) (by first | decide | (dsimp only; omega)) (g := (mkF m 32 #[.val (.ref r), .val (.ref a), .val .null, .val (.ref u), .val (.int (Int32.ofNat bs.length))] [(.int (Int32.ofNat bs.length)), (.int (0 : Int32)), (.ref u), (.ref r)])) (argsL := [(.ref u), (.int (0 : Int32)), (.int (Int32.ofNat bs.length))]) (rest := [(.ref r)]) rfl (by rw [hml]; rfl) (lenOf pd_16 rfl) rfl rfl (by show 2 * 0 + _ ≤ _; exact Nat.le_of_eq rfl) (hb hby d19_32) ?_
  rintro _ T219 L219 X219 ⟨t219, kb219, rfl, N219q, K219, f0_219, f1_219⟩
  have n0_220 : n0 ≤ t219 := Nat.le_trans c218 f0_219
  have c221 := (KP0.wr W214 (Or.inl (List.mem_of_getElem? (i := 0) rfl)))
  have sz0_222 := Nat.le_trans c221.1 f0_219
  have c223 := (own_lt lt_r (Keep.of_wr W214).1)
  have ne224 : r ≠ t219 := own_ne c223 f0_219
  have c225 := (own_lt lt_a (Keep.of_wr W214).1)
  have ne226 : a ≠ t219 := own_ne c225 f0_219
  have c227 := (own_lt lt_u (Keep.of_wr W214).1)
  have ne228 : u ≠ t219 := own_ne c227 f0_219
  have lt229 := f1_219.lt
  have N230 := Fr.app N216 N219q
  show own_Fin p e below _ T219 (mkF m 35 #[.val (.ref r), .val (.ref a), .val .null, .val (.ref u), .val (.int (Int32.ofNat bs.length))] [(.ref t219), (.ref r)])
  have c231 := ((E_r.wr W214).keep K219)
  have c232 := ((F_value_r.other W214 (Or.inr (RoadKit.slot_ne (t := (.array .byte)) (t' := .byte) (Or.inr (w23 hw)) (Or.inr (w24 hw)) (by decide) (by decide) (by decide)))).keep K219 nin0)
  obtain ⟨T233, h233, X233, e233, W233, st233⟩ := putF X219 hx hZ hown (host := "") (Or.inl (w27 hw)) Via.refl rfl c232 c231 (Or.inr ⟨(w23 hw), rfl, hnm⟩) (w8 hw) (ty := (.array .byte)) (by decide) rfl rfl (g := (mkF m 35 #[.val (.ref r), .val (.ref a), .val .null, .val (.ref u), .val (.int (Int32.ofNat bs.length))] [(.ref t219), (.ref r)])) rfl rfl (hb hby d19_35)
  have F234 := c232.same W233
  have N235 := Fr.snoc X233 N230 ge_r
  refine own_step (T' := T233) (g' := (mkF m 38 #[.val (.ref r), .val (.ref a), .val .null, .val (.ref u), .val (.int (Int32.ofNat bs.length))] [])) st233 ?_
  refine own_step (T' := T233) (g' := (mkF m 97 #[.val (.ref r), .val (.ref a), .val .null, .val (.ref u), .val (.int (Int32.ofNat bs.length))] [])) (fun _ q => XS.goto X233.here hx rfl (pc0 := 38) (pc' := 97) rfl (hb hby d19_38) (by decide) (by decide) q) ?_
  have c236 := ((c221.trans K219 all0).wr W233 (Or.inl (List.mem_of_getElem? (i := 0) rfl)))
  have c237 := (c231.wr W233)
  have c238 := ((F215.keep K219 nin0).other W233 (Or.inr (RoadKit.slot_ne (t := .byte) (t' := (.array .byte)) (Or.inr (w24 hw)) (Or.inr (w23 hw)) (by decide) (by decide) (by decide))))
  have c239 := (f1_219.other W233 (Ne.symm ne224))
  exact own_retV X233 hx Bd.returns (hb hby d19_97) hlk (by rw [e233]; exact ⟨t219, kb219, rfl, N235, c236, sz0_222, c237, F234, c238, c239⟩) (by first | decide | (dsimp only; omega)) (by first | decide | (dsimp only; omega))
theorem pd_18 : parseMethodDescriptor "(Ljava/lang/AbstractStringBuilder;Ljava/lang/Void;)V" = some ⟨[(.object "java/lang/AbstractStringBuilder"), (.object "java/lang/Void")], none⟩ := by decide +kernel
theorem d18_0 : decode jdk_42_method_53_code 0 = .ok (.aload_n 0, 1) := by decide +kernel
theorem d18_1 : decode jdk_42_method_53_code 1 = .ok (.aload_n 1, 1) := by decide +kernel
theorem d18_2 : decode jdk_42_method_53_code 2 = .ok (.aconst_null, 1) := by decide +kernel
theorem d18_3 : decode jdk_42_method_53_code 3 = .ok (.invokespecial 489, 3) := by decide +kernel
theorem d18_6 : decode jdk_42_method_53_code 6 = .ok (.return_, 1) := by decide +kernel
def Q_own_ss (Z : State) (G1 : Int32) (G3 : Value) (r : Addr) (a : Addr) (u : Addr) (ku : ClassId) (bs : List Value) (h0 : Heap) (n0 : Nat) (v : Option Value) (h : Heap) (L : List Loc) : Prop := ∃ (t : Addr), ∃ (kb : ClassId), v = none ∧ Fr n0 L ∧ Keep h0 h [r] ∧ h0.size ≤ t ∧ Exa Z h r "java/lang/String" ∧ Fld Z h r "java/lang/String" "value" "[B" (.ref t) ∧ Fld Z h r "java/lang/String" "coder" "B" (.int (0 : Int32)) ∧ Arv Z h t kb .byte (Int32.ofNat bs.length) bs (.int 0)
set_option maxRecDepth 65536 in
set_option maxHeartbeats 40000000 in
theorem own_ss (l : Launch) (Z : State) (a0 : Array Value) (hw : ∀ d ∈ tables_1, d.before a0 Z = true) (ws : List Jvm.Cond) (G1 : Int32) (G3 : Value) (r : Addr) (a : Addr) (u : Addr) (ku : ClassId) (bs : List Value) (h0 : Heap) (n0 : Nat) (Z0 : n0 ≤ h0.size) (O2 : Sta Z Z.heap "java/lang/String" "COMPACT_STRINGS" "Z" (.int G1)) (O4 : Sta Z Z.heap "jdk/internal/util/Preconditions" "SIOOBE_FORMATTER" "Ljava/util/function/BiFunction;" G3) (P5 : ¬ (G1 = (0 : Int32))) (rG3 : G3.isRef = true) (OLD0 : Old Z n0 h0) (E_r : Exa Z h0 r "java/lang/String") (ge_r : n0 ≤ r) (F_value_r : Fld Z h0 r "java/lang/String" "value" "[B" .null) (F_coder_r : Fld Z h0 r "java/lang/String" "coder" "B" (.int (0 : Int32))) (E_a : Exa Z h0 a "java/lang/StringBuilder") (F_value_a : Fld Z h0 a "java/lang/AbstractStringBuilder" "value" "[B" (.ref u)) (F_coder_a : Fld Z h0 a "java/lang/AbstractStringBuilder" "coder" "B" (.int (0 : Int32))) (F_count_a : Fld Z h0 a "java/lang/AbstractStringBuilder" "count" "I" (.int (Int32.ofNat bs.length))) (V_u : Arv Z h0 u ku .byte (16 : Int32) (own_pad bs) (.int 0)) (hbl : bs.length < 16) :
    MetFree l (⟨"java/lang/String", "<init>", "(Ljava/lang/StringBuilder;)V"⟩ : MethodName) (head1 (Jvm.Cond.code (⟨"java/lang/String", "<init>", "(Ljava/lang/StringBuilder;)V"⟩ : MethodName) jdk_42_method_53_code 2 none :: ws) ({ frames := 4, cells := 1, slots := 16, locals := 65 } : Room)) (fun ag U => ag = #[(.ref r), (.ref a)] ∧ Z.Warmed39 U.vm ∧ U.heap = h0) (fun _ _ _ _ _ => True) (fun _ U o U' => ∃ v L, o = .returned v ∧ Q_own_ss Z G1 G3 r a u ku bs h0 n0 v U'.heap L ∧ FrameEnd U o U' L ({ frames := 4, cells := 1, slots := 16, locals := 65 } : Room).cells ({ frames := 4, cells := 1, slots := 16, locals := 65 } : Room).slots) := by
  refine own_body (plainFor_of_name pn_1) ?_
  intro p e s m below meth c s₁ Bd hml hZ e0
  have hx := Bd.exec
  have hby := Bd.bytes
  have hlk : meth.locks = false := BodyLoose.notSynchronized Bd
  have hown : s.vm.findClass "java/lang/String" = some m.cls := findClass_of_methodNamed Bd.named
  have hnm := (name_of_methodNamed Bd.named Bd.method).1
  have X0 : Stand p l e ({ frames := 4, cells := 1, slots := 16, locals := 65 } : Room) s m #[(.ref r), (.ref a)] below meth c s₁ [] 0 0 := Stand.of_body Bd
  have N0 := Fr.nil n0
  have KP0 : Keep h0 h0 [r] := Keep.refl h0 [r]
  have lt_r := E_r.lt
  have lt_a := E_a.lt
  have lt_u := V_u.lt
  have ty_r_a : r ≠ a := (Exa.ne E_r E_a (by decide))
  have ty_r_u : r ≠ u := (Exa.neArv E_r V_u (w8 hw))
  have ty_a_u : a ≠ u := (Exa.neArv E_a V_u (w43 hw))
  refine own_cast (g' := (mkF m 0 #[.val (.ref r), .val (.ref a)] [])) (by first | (simp [entryFrame, mkF, argsToLocals, own_cat_int, own_cat_long, own_cat_ref, own_cat_null]; done) | rfl) ?_
  refine own_step (T' := s₁) (g' := (mkF m 1 #[.val (.ref r), .val (.ref a)] [(.ref r)])) (fun _ q => XS.aloadN X0.here hx rfl (hb hby d18_0) rfl rfl q) ?_
  refine own_step (T' := s₁) (g' := (mkF m 2 #[.val (.ref r), .val (.ref a)] [(.ref a), (.ref r)])) (fun _ q => XS.aloadN X0.here hx rfl (hb hby d18_1) rfl rfl q) ?_
  refine own_step (T' := s₁) (g' := (mkF m 3 #[.val (.ref r), .val (.ref a)] [.null, (.ref a), (.ref r)])) (fun _ q => XS.aconstNull X0.here hx rfl (hb hby d18_2) q) ?_
  refine own_callC X0 hx hZ hown rfl (w118 hw) (w119 hw) (w120 hw) (by decide) (backOf (W := 0) (own_sa l Z a0 hw [] G1 G3 r a u ku bs h0 n0 Z0 O2 O4 P5 rG3 OLD0 E_r ge_r F_value_r F_coder_r E_a F_value_a F_coder_a F_count_a V_u hbl) hZ (w120 hw) (w9 hw) (Nat.le_of_ble_eq_true rfl) (Nat.le_of_ble_eq_true rfl)) e0  (by first | decide | (dsimp only; omega)) (by first | decide | (dsimp only; omega)) (g := (mkF m 3 #[.val (.ref r), .val (.ref a)] [.null, (.ref a), (.ref r)])) (argsL := [(.ref a), .null]) (rest := []) rfl (by rw [hml]; rfl) (lenOf pd_18 rfl) rfl rfl (by show 2 * 0 + _ ≤ _; exact Nat.le_of_eq rfl) (hb hby d18_3) ?_
  rintro _ T240 L240 X240 ⟨t240, kb240, rfl, N240q, K240, f0_240, f1_240, f2_240, f3_240, f4_240⟩
  have n0_241 : n0 ≤ t240 := Nat.le_trans Z0 f0_240
  have sz0_242 := Nat.le_trans KP0.1 f0_240
  have ne243 : r ≠ t240 := own_ne lt_r f0_240
  have ne244 : a ≠ t240 := own_ne lt_a f0_240
  have ne245 : u ≠ t240 := own_ne lt_u f0_240
  have lt246 := f4_240.lt
  have N247 := Fr.app N0 N240q
  show own_Fin p e below _ T240 (mkF m 6 #[.val (.ref r), .val (.ref a)] [])
  have c248 := (KP0.trans K240 (allS (Or.inl (List.mem_of_getElem? (i := 0) rfl)) all0))
  exact own_retV X240 hx Bd.returns (hb hby d18_6) hlk ⟨t240, kb240, rfl, N247, c248, sz0_242, f1_240, f2_240, f3_240, f4_240⟩ (by first | decide | (dsimp only; omega)) (by first | decide | (dsimp only; omega))
theorem pd_19 : parseMethodDescriptor "(Ljava/lang/StringBuilder;)V" = some ⟨[(.object "java/lang/StringBuilder")], none⟩ := by decide +kernel
theorem d17_0 : decode jdk_67_method_42_code 0 = .ok (.new 18, 3) := by decide +kernel
theorem d17_3 : decode jdk_67_method_42_code 3 = .ok (.dup, 1) := by decide +kernel
theorem d17_4 : decode jdk_67_method_42_code 4 = .ok (.aload_n 0, 1) := by decide +kernel
theorem d17_5 : decode jdk_67_method_42_code 5 = .ok (.invokespecial 137, 3) := by decide +kernel
theorem d17_8 : decode jdk_67_method_42_code 8 = .ok (.areturn, 1) := by decide +kernel
def Q_own_sts (Z : State) (G1 : Int32) (G3 : Value) (a : Addr) (u : Addr) (ku : ClassId) (bs : List Value) (h0 : Heap) (n0 : Nat) (v : Option Value) (h : Heap) (L : List Loc) : Prop := ∃ (r : Addr), ∃ (t : Addr), ∃ (kb : ClassId), v = some (.ref r) ∧ Fr n0 L ∧ Keep h0 h [] ∧ h0.size ≤ r ∧ h0.size ≤ t ∧ Exa Z h r "java/lang/String" ∧ Fld Z h r "java/lang/String" "value" "[B" (.ref t) ∧ Fld Z h r "java/lang/String" "coder" "B" (.int (0 : Int32)) ∧ Arv Z h t kb .byte (Int32.ofNat bs.length) bs (.int 0)
set_option maxRecDepth 65536 in
set_option maxHeartbeats 40000000 in
theorem own_sts (l : Launch) (Z : State) (a0 : Array Value) (hw : ∀ d ∈ tables_1, d.before a0 Z = true) (ws : List Jvm.Cond) (G1 : Int32) (G3 : Value) (a : Addr) (u : Addr) (ku : ClassId) (bs : List Value) (h0 : Heap) (n0 : Nat) (Z0 : n0 ≤ h0.size) (O2 : Sta Z Z.heap "java/lang/String" "COMPACT_STRINGS" "Z" (.int G1)) (O4 : Sta Z Z.heap "jdk/internal/util/Preconditions" "SIOOBE_FORMATTER" "Ljava/util/function/BiFunction;" G3) (P5 : ¬ (G1 = (0 : Int32))) (rG3 : G3.isRef = true) (OLD0 : Old Z n0 h0) (E_a : Exa Z h0 a "java/lang/StringBuilder") (F_value_a : Fld Z h0 a "java/lang/AbstractStringBuilder" "value" "[B" (.ref u)) (F_coder_a : Fld Z h0 a "java/lang/AbstractStringBuilder" "coder" "B" (.int (0 : Int32))) (F_count_a : Fld Z h0 a "java/lang/AbstractStringBuilder" "count" "I" (.int (Int32.ofNat bs.length))) (V_u : Arv Z h0 u ku .byte (16 : Int32) (own_pad bs) (.int 0)) (hbl : bs.length < 16) :
    MetFree l (⟨"java/lang/StringBuilder", "toString", "()Ljava/lang/String;"⟩ : MethodName) (head1 (Jvm.Cond.code (⟨"java/lang/StringBuilder", "toString", "()Ljava/lang/String;"⟩ : MethodName) jdk_67_method_42_code 1 (some (.object "java/lang/String")) :: ws) ({ frames := 5, cells := 2, slots := 20, locals := 79 } : Room)) (fun ag U => ag = #[(.ref a)] ∧ Z.Warmed39 U.vm ∧ U.heap = h0) (fun _ _ _ _ _ => True) (fun _ U o U' => ∃ v L, o = .returned v ∧ Q_own_sts Z G1 G3 a u ku bs h0 n0 v U'.heap L ∧ FrameEnd U o U' L ({ frames := 5, cells := 2, slots := 20, locals := 79 } : Room).cells ({ frames := 5, cells := 2, slots := 20, locals := 79 } : Room).slots) := by
  refine own_body (plainFor_of_name pn_4) ?_
  intro p e s m below meth c s₁ Bd hml hZ e0
  have hx := Bd.exec
  have hby := Bd.bytes
  have hlk : meth.locks = false := BodyLoose.notSynchronized Bd
  have hown : s.vm.findClass "java/lang/StringBuilder" = some m.cls := findClass_of_methodNamed Bd.named
  have hnm := (name_of_methodNamed Bd.named Bd.method).1
  have X0 : Stand p l e ({ frames := 5, cells := 2, slots := 20, locals := 79 } : Room) s m #[(.ref a)] below meth c s₁ [] 0 0 := Stand.of_body Bd
  have N0 := Fr.nil n0
  have KP0 : Keep h0 h0 [] := Keep.refl h0 []
  have lt_a := E_a.lt
  have lt_u := V_u.lt
  have ty_a_u : a ≠ u := (Exa.neArv E_a V_u (w43 hw))
  refine own_cast (g' := (mkF m 0 #[.val (.ref a)] [])) (by first | (simp [entryFrame, mkF, argsToLocals, own_cat_int, own_cat_long, own_cat_ref, own_cat_null]; done) | rfl) ?_
  obtain ⟨T249, h249, X249, e249, E249, A249, D249, -, st249⟩ := newO X0 hx hZ hown (w114 hw) (w8 hw) (w9 hw) e0 (g := (mkF m 0 #[.val (.ref a)] [])) rfl (hb hby d17_0) (by first | decide | (dsimp only; omega)) (by first | decide | (dsimp only; omega))
  obtain ⟨b249, g249⟩ : ∃ z, z = h0.size := ⟨_, rfl⟩
  rw [← g249] at A249 D249 st249
  have n0_250 : n0 ≤ b249 := Nat.le_trans Z0 (Nat.le_of_eq g249.symm)
  have sz0_251 := Nat.le_trans KP0.1 (Nat.le_of_eq g249.symm)
  have ne252 : a ≠ b249 := own_ne lt_a (Nat.le_of_eq g249.symm)
  have ne253 : u ≠ b249 := own_ne lt_u (Nat.le_of_eq g249.symm)
  have ltb249 := A249.lt
  have F254 : Fld Z h249 b249 "java/lang/String" "value" "[B" .null := D249 (Or.inr (w23 hw)) (ty := (.array .byte)) (by decide)
  have F255 : Fld Z h249 b249 "java/lang/String" "coder" "B" (.int (0 : Int32)) := D249 (Or.inr (w24 hw)) (ty := .byte) (by decide)
  refine own_step (T' := T249) (g' := (mkF m 3 #[.val (.ref a)] [(.ref b249)])) st249 ?_
  refine own_step (T' := T249) (g' := (mkF m 4 #[.val (.ref a)] [(.ref b249), (.ref b249)])) (fun _ q => XS.dup X249.here hx rfl (hb hby d17_3) rfl rfl q) ?_
  refine own_step (T' := T249) (g' := (mkF m 5 #[.val (.ref a)] [(.ref a), (.ref b249), (.ref b249)])) (fun _ q => XS.aloadN X249.here hx rfl (hb hby d17_4) rfl rfl q) ?_
  have c256 := (OLD0.ext E249)
  have c257 := (E_a.ext E249)
  have c258 := (F_value_a.ext E249)
  have c259 := (F_coder_a.ext E249)
  have c260 := (F_count_a.ext E249)
  have c261 := (V_u.ext E249)
  have c262 := (Nat.le_trans Z0 E249.1)
  refine own_callC X249 hx hZ hown rfl (w115 hw) (w116 hw) (w117 hw) (by decide) (backOf (W := 1) (own_ss l Z a0 hw [] G1 G3 b249 a u ku bs h249 n0 c262 O2 O4 P5 rG3 c256 A249 n0_250 F254 F255 c257 c258 c259 c260 c261 hbl) hZ (w117 hw) (w9 hw) (Nat.le_of_ble_eq_true rfl) (Nat.le_of_ble_eq_true rfl)) e249  (by first | decide | (dsimp only; omega)) (by first | decide | (dsimp only; omega)) (g := (mkF m 5 #[.val (.ref a)] [(.ref a), (.ref b249), (.ref b249)])) (argsL := [(.ref a)]) (rest := [(.ref b249)]) rfl (by rw [hml]; rfl) (lenOf pd_19 rfl) rfl rfl (by show 2 * 0 + _ ≤ _; exact Nat.le_of_eq rfl) (hb hby d17_5) ?_
  rintro _ T263 L263 X263 ⟨t263, kb263, rfl, N263q, K263, f0_263, f1_263, f2_263, f3_263, f4_263⟩
  have n0_264 : n0 ≤ t263 := Nat.le_trans c262 f0_263
  have c265 := (KP0.ext E249)
  have sz0_266 := Nat.le_trans c265.1 f0_263
  have c267 := (own_lt lt_a E249.1)
  have ne268 : a ≠ t263 := own_ne c267 f0_263
  have c269 := (own_lt lt_u E249.1)
  have ne270 : u ≠ t263 := own_ne c269 f0_263
  have ne271 : b249 ≠ t263 := own_ne ltb249 f0_263
  have lt272 := f4_263.lt
  have N273 := Fr.app N0 N263q
  show own_Fin p e below _ T263 (mkF m 8 #[.val (.ref a)] [(.ref b249)])
  have c274 := (c265.trans K263 (allS (Or.inr sz0_251) all0))
  exact own_retA X263 hx Bd.returns rfl rfl (hb hby d17_8) hlk ⟨b249, t263, kb263, rfl, N273, c274, sz0_251, sz0_266, f1_263, f2_263, f3_263, f4_263⟩ (by first | decide | (dsimp only; omega)) (by first | decide | (dsimp only; omega))
theorem pn_6 : plainName "com/example/linewire/linewire/SchemaViolationToStringPinLaw" = true := by first | (simp [plainName, overriddenIn]; done) | decide +kernel
theorem pd_20 : parseMethodDescriptor "([C)V" = some ⟨[(.array .char)], none⟩ := by decide +kernel
theorem pd_21 : parseMethodDescriptor "(C)Ljava/lang/String;" = some ⟨[.char], some (.object "java/lang/String")⟩ := by decide +kernel
theorem d1_0 : decode method_2_code 0 = .ok (.iload_n 0, 1) := by decide +kernel
theorem d1_1 : decode method_2_code 1 = .ok (.ifCond .ne 14, 3) := by decide +kernel
theorem d1_4 : decode method_2_code 4 = .ok (.new 7, 3) := by decide +kernel
theorem d1_7 : decode method_2_code 7 = .ok (.dup, 1) := by decide +kernel
theorem d1_8 : decode method_2_code 8 = .ok (.iconst 0, 1) := by decide +kernel
theorem d1_9 : decode method_2_code 9 = .ok (.newarray .char, 2) := by decide +kernel
theorem d1_11 : decode method_2_code 11 = .ok (.invokespecial 9, 3) := by decide +kernel
theorem d1_14 : decode method_2_code 14 = .ok (.areturn, 1) := by decide +kernel
theorem d1_15 : decode method_2_code 15 = .ok (.iload_n 0, 1) := by decide +kernel
theorem d1_16 : decode method_2_code 16 = .ok (.iconst 1, 1) := by decide +kernel
theorem d1_17 : decode method_2_code 17 = .ok (.if_icmp .ne 8, 3) := by decide +kernel
theorem d1_20 : decode method_2_code 20 = .ok (.iload_n 1, 1) := by decide +kernel
theorem d1_21 : decode method_2_code 21 = .ok (.invokestatic 12, 3) := by decide +kernel
theorem d1_24 : decode method_2_code 24 = .ok (.areturn, 1) := by decide +kernel
theorem d1_25 : decode method_2_code 25 = .ok (.new 7, 3) := by decide +kernel
theorem d1_28 : decode method_2_code 28 = .ok (.dup, 1) := by decide +kernel
theorem d1_29 : decode method_2_code 29 = .ok (.iconst 2, 1) := by decide +kernel
theorem d1_30 : decode method_2_code 30 = .ok (.newarray .char, 2) := by decide +kernel
theorem d1_32 : decode method_2_code 32 = .ok (.dup, 1) := by decide +kernel
theorem d1_33 : decode method_2_code 33 = .ok (.iconst 0, 1) := by decide +kernel
theorem d1_34 : decode method_2_code 34 = .ok (.iload_n 1, 1) := by decide +kernel
theorem d1_35 : decode method_2_code 35 = .ok (.castore, 1) := by decide +kernel
theorem d1_36 : decode method_2_code 36 = .ok (.dup, 1) := by decide +kernel
theorem d1_37 : decode method_2_code 37 = .ok (.iconst 1, 1) := by decide +kernel
theorem d1_38 : decode method_2_code 38 = .ok (.iload_n 2, 1) := by decide +kernel
theorem d1_39 : decode method_2_code 39 = .ok (.castore, 1) := by decide +kernel
theorem d1_40 : decode method_2_code 40 = .ok (.invokespecial 9, 3) := by decide +kernel
theorem d1_43 : decode method_2_code 43 = .ok (.areturn, 1) := by decide +kernel
def Q_own_str (Z : State) (G1 : Int32) (G3 : Value) (k : Int32) (c0 : Int32) (c1 : Int32) (h0 : Heap) (n0 : Nat) (v : Option Value) (h : Heap) (L : List Loc) : Prop := ∃ (a : Addr), ∃ (t : Addr), ∃ (kb : ClassId), v = some (.ref a) ∧ Fr n0 L ∧ Keep h0 h [] ∧ h0.size ≤ a ∧ Exa Z h a "java/lang/String" ∧ Fld Z h a "java/lang/String" "value" "[B" (.ref t) ∧ Fld Z h a "java/lang/String" "coder" "B" (.int (0 : Int32)) ∧ Arv Z h t kb .byte (Int32.ofNat (own_bs (own_sl k c0 c1)).length) (own_bs (own_sl k c0 c1)) (.int 0)
set_option maxRecDepth 65536 in
set_option maxHeartbeats 40000000 in
theorem own_str (l : Launch) (Z : State) (a0 : Array Value) (hw : ∀ d ∈ tables_1, d.before a0 Z = true) (ws : List Jvm.Cond) (G1 : Int32) (G3 : Value) (k : Int32) (c0 : Int32) (c1 : Int32) (h0 : Heap) (n0 : Nat) (Z0 : n0 ≤ h0.size) (O2 : Sta Z Z.heap "java/lang/String" "COMPACT_STRINGS" "Z" (.int G1)) (O4 : Sta Z Z.heap "jdk/internal/util/Preconditions" "SIOOBE_FORMATTER" "Ljava/util/function/BiFunction;" G3) (P5 : ¬ (G1 = (0 : Int32))) (rG3 : G3.isRef = true) (OLD0 : Old Z n0 h0) (hc0 : ¬ c0 < 0 ∧ ¬ (255 : Int32) < c0) (hc1 : ¬ c1 < 0 ∧ ¬ (255 : Int32) < c1) :
    MetFree l (⟨"com/example/linewire/linewire/SchemaViolationToStringPinLaw", "str", "(ICC)Ljava/lang/String;"⟩ : MethodName) (head1 (Jvm.Cond.code (⟨"com/example/linewire/linewire/SchemaViolationToStringPinLaw", "str", "(ICC)Ljava/lang/String;"⟩ : MethodName) method_2_code 3 (some (.object "java/lang/String")) :: ws) ({ frames := 4, cells := 6, slots := 12, locals := 66 } : Room)) (fun ag U => ag = #[(.int k), (.int c0), (.int c1)] ∧ Z.Warmed39 U.vm ∧ U.heap = h0 ∧ CHv Z own_EL U.vm h0) (fun _ _ _ _ _ => True) (fun _ U o U' => ∃ v L, o = .returned v ∧ Q_own_str Z G1 G3 k c0 c1 h0 n0 v U'.heap L ∧ CHr Z own_EL U.vm U.heap U'.vm U'.heap ∧ ReturnedEndW U o U' L ({ frames := 4, cells := 6, slots := 12, locals := 66 } : Room).cells ({ frames := 4, cells := 6, slots := 12, locals := 66 } : Room).slots) := by
  refine own_bodyW (plainFor_of_name pn_6) ?_
  intro p e s m below meth c s₁ Bd hml hZ e0 hh0 CH0
  have hx := Bd.exec
  have hby := Bd.bytes
  have hlk : meth.locks = false := BodyLoose.notSynchronized Bd
  have hown : s.vm.findClass "com/example/linewire/linewire/SchemaViolationToStringPinLaw" = some m.cls := findClass_of_methodNamed Bd.named
  have hnm := (name_of_methodNamed Bd.named Bd.method).1
  have X0 : Stand p l e ({ frames := 4, cells := 6, slots := 12, locals := 66 } : Room) (s.setVm s.vm) m #[(.int k), (.int c0), (.int c1)] below meth c s₁ [] 0 0 := Stand.of_body Bd
  have N0 := Fr.nil n0
  have hS := (State.WarmedH.refl s).since h0.size
  have hk0 : h0.size ≤ h0.size := Nat.le_refl _
  have KP0 : Keep h0 h0 [] := Keep.refl h0 []
  refine own_cast (g' := (mkF m 0 #[.val (.int k), .val (.int c0), .val (.int c1)] [])) (by first | (simp [entryFrame, mkF, argsToLocals, own_cat_int, own_cat_long, own_cat_ref, own_cat_null]; done) | rfl) ?_
  refine own_step (T' := s₁) (g' := (mkF m 1 #[.val (.int k), .val (.int c0), .val (.int c1)] [(.int k)])) (fun _ q => XS.iloadN X0.here hx rfl (hb hby d1_0) rfl q) ?_
  by_cases hc275 : k = 0
  · refine own_step (T' := s₁) (g' := (mkF m 4 #[.val (.int k), .val (.int c0), .val (.int c1)] [])) (fun _ q => XS.ifNo X0.here hx rfl (hb hby d1_1) rfl (XT.i0_ne_f hc275) q) ?_
    obtain ⟨T276, h276, X276, e276, E276, A276, D276, -, st276⟩ := newO X0 hx hZ hown (w7 hw) (w8 hw) (w9 hw) e0 (g := (mkF m 4 #[.val (.int k), .val (.int c0), .val (.int c1)] [])) rfl (hb hby d1_4) (by first | decide | (dsimp only; omega)) (by first | decide | (dsimp only; omega))
    obtain ⟨b276, g276⟩ : ∃ z, z = h0.size := ⟨_, rfl⟩
    rw [← g276] at A276 D276 st276
    have n0_277 : n0 ≤ b276 := Nat.le_trans Z0 (Nat.le_of_eq g276.symm)
    have sz0_278 := Nat.le_trans KP0.1 (Nat.le_of_eq g276.symm)
    have sf279 : Safe Z own_EL _ _ b276 := Safe.new (EL := own_EL) (Z := Z) (vm := s.vm) (Nat.le_of_eq g276.symm)
    have CH280 := CH0.trans (CHr.ext E276 CH0.1)
    have ltb276 := A276.lt
    have F281 : Fld Z h276 b276 "java/lang/String" "value" "[B" .null := D276 (Or.inr (w23 hw)) (ty := (.array .byte)) (by decide)
    have F282 : Fld Z h276 b276 "java/lang/String" "coder" "B" (.int (0 : Int32)) := D276 (Or.inr (w24 hw)) (ty := .byte) (by decide)
    refine own_step (T' := T276) (g' := (mkF m 7 #[.val (.int k), .val (.int c0), .val (.int c1)] [(.ref b276)])) st276 ?_
    refine own_step (T' := T276) (g' := (mkF m 8 #[.val (.int k), .val (.int c0), .val (.int c1)] [(.ref b276), (.ref b276)])) (fun _ q => XS.dup X276.here hx rfl (hb hby d1_7) rfl rfl q) ?_
    refine own_step (T' := T276) (g' := (mkF m 9 #[.val (.int k), .val (.int c0), .val (.int c1)] [(.int (0 : Int32)), (.ref b276), (.ref b276)])) (fun _ q => XS.iconst X276.here hx rfl (hb hby d1_8) q) ?_
    obtain ⟨T283, h283, k283, X283, e283, E283, A283, st283⟩ := newP X276 hx hZ (aty := .char) (w10 hw) e276 (g := (mkF m 9 #[.val (.int k), .val (.int c0), .val (.int c1)] [(.int (0 : Int32)), (.ref b276), (.ref b276)])) rfl (hb hby d1_9) rfl (by decide) (cap := 0) (by decide) (by first | decide | omega) (by first | decide | (dsimp only; omega)) (by first | decide | (dsimp only; omega))
    obtain ⟨b283, g283⟩ : ∃ z, z = h276.size := ⟨_, rfl⟩
    rw [← g283] at A283 st283
    have c284 := (Nat.le_trans Z0 E276.1)
    have n0_285 : n0 ≤ b283 := Nat.le_trans c284 (Nat.le_of_eq g283.symm)
    have c286 := (KP0.ext E276)
    have sz0_287 := Nat.le_trans c286.1 (Nat.le_of_eq g283.symm)
    have ne288 : b276 ≠ b283 := own_ne ltb276 (Nat.le_of_eq g283.symm)
    have sf289 : Safe Z own_EL _ _ b283 := Safe.new (EL := own_EL) (Z := Z) (vm := s.vm) (Nat.le_of_eq g283.symm)
    have CH290 := CH280.trans (CHr.ext E283 CH280.1)
    have V283 : Arv Z h283 b283 k283 .char (0 : Int32) [] (.int (0 : Int32)) := (Arv.new A283 (by decide)).pad (pad_rep [] (.int (0 : Int32)) 0)
    have ltb283 := V283.lt
    refine own_step (T' := T283) (g' := (mkF m 11 #[.val (.int k), .val (.int c0), .val (.int c1)] [(.ref b283), (.ref b276), (.ref b276)])) st283 ?_
    have c291 := ((OLD0.ext E276).ext E283)
    have c292 := (A276.ext E283)
    have c293 := (F281.ext E283)
    have c294 := (F282.ext E283)
    have c295 := (Nat.le_trans c284 E283.1)
    have c297 := (Nat.le_trans (Nat.le_trans hk0 E276.1) E283.1)
    refine own_callCW X283 hx hZ hown hS c297 rfl (w11 hw) (w12 hw) (w13 hw) (by decide) (backOfSH (W := 1) (own_new1e l Z a0 hw [] G1 G3 b276 b283 k283 (.int (0 : Int32)) h283 n0 c295 O2 O4 P5 rG3 c291 c292 n0_277 c293 c294 V283) hZ (w13 hw) (w9 hw) (Nat.le_of_ble_eq_true rfl) (Nat.le_of_ble_eq_true rfl) (own_hEL hw) CH290.1) e283  (by first | decide | (dsimp only; omega)) (by first | decide | (dsimp only; omega)) (g := (mkF m 11 #[.val (.int k), .val (.int c0), .val (.int c1)] [(.ref b283), (.ref b276), (.ref b276)])) (argsL := [(.ref b283)]) (rest := [(.ref b276)]) rfl (by rw [hml]; rfl) (lenOf pd_20 rfl) rfl rfl (by show 2 * 0 + _ ≤ _; exact Nat.le_of_eq rfl) (hb hby d1_11) ?_
    rintro _ T296 L296 X296 hS hZ hown C296 ⟨t296, kb296, rfl, N296q, K296, f0_296, f1_296, f2_296, f3_296⟩
    have CH298 := CH290.trans C296
    have lt299 := f3_296.lt
    have ty300 : b276 ≠ t296 := (Exa.neArv f0_296 f3_296 (w8 hw))
    have c301 := (V283.keep K296 (ninS (Ne.symm ne288) nin0))
    have ty302 : b283 ≠ t296 := (own_arr_ne c301 f3_296 (by decide))
    have N303 := Fr.app N0 N296q
    show own_Fin p e below _ T296 (mkF m 14 #[.val (.int k), .val (.int c0), .val (.int c1)] [(.ref b276)])
    have qV304 : ([] : List Value) = (own_bs (own_sl k c0 c1)) := (by rw [own_sl, if_pos hc275]; rfl)
    have V304 : Arv Z T296.heap t296 kb296 .byte (0 : Int32) (own_bs (own_sl k c0 c1)) (.int 0) := own_fixv qV304 f3_296
    have qV305 : ((0 : Int32) : Int32) = (Int32.ofNat (own_bs (own_sl k c0 c1)).length) := (by rw [own_sl, if_pos hc275]; rfl)
    have V305 : Arv Z T296.heap t296 kb296 .byte (Int32.ofNat (own_bs (own_sl k c0 c1)).length) (own_bs (own_sl k c0 c1)) (.int 0) := own_fixn qV305 V304
    have c306 := ((c286.ext E283).trans K296 (allS (Or.inr sz0_278) all0))
    exact own_retAW X296 hx hZ (own_hEL hw) hS (Nat.le_refl _) CH298 Bd.returns rfl rfl (hb hby d1_14) hlk ⟨b276, t296, kb296, rfl, N303, c306, sz0_278, f0_296, f1_296, f2_296, V305⟩ (by first | decide | (dsimp only; omega)) (by first | decide | (dsimp only; omega))
  · refine own_step (T' := s₁) (g' := (mkF m 15 #[.val (.int k), .val (.int c0), .val (.int c1)] [])) (fun _ q => XS.ifYes X0.here hx rfl (pc0 := 1) (pc' := 15) rfl (hb hby d1_1) rfl (XT.i0_ne_t hc275) (by decide) (by decide) q) ?_
    refine own_step (T' := s₁) (g' := (mkF m 16 #[.val (.int k), .val (.int c0), .val (.int c1)] [(.int k)])) (fun _ q => XS.iloadN X0.here hx rfl (hb hby d1_15) rfl q) ?_
    refine own_step (T' := s₁) (g' := (mkF m 17 #[.val (.int k), .val (.int c0), .val (.int c1)] [(.int (1 : Int32)), (.int k)])) (fun _ q => XS.iconst X0.here hx rfl (hb hby d1_16) q) ?_
    by_cases hc307 : k = (1 : Int32)
    · refine own_step (T' := s₁) (g' := (mkF m 20 #[.val (.int k), .val (.int c0), .val (.int c1)] [])) (fun _ q => XS.icmpNo X0.here hx rfl (hb hby d1_17) rfl (XT.ii_ne_f hc307) q) ?_
      refine own_step (T' := s₁) (g' := (mkF m 21 #[.val (.int k), .val (.int c0), .val (.int c1)] [(.int c0)])) (fun _ q => XS.iloadN X0.here hx rfl (hb hby d1_20) rfl q) ?_
      refine own_callS X0 hx hZ hown (w193 hw) (w194 hw) (w9 hw) (w195 hw) (by decide) (backOf (W := 0) (own_vof l Z a0 hw [] G1 G3 c0 h0 n0 Z0 O2 O4 P5 rG3 OLD0 (hc0.2 : ¬ (255 : Int32) < c0)) hZ (w195 hw) (w9 hw) (Nat.le_of_ble_eq_true rfl) (Nat.le_of_ble_eq_true rfl)) e0  (by first | decide | (dsimp only; omega)) (by first | decide | (dsimp only; omega)) (g := (mkF m 21 #[.val (.int k), .val (.int c0), .val (.int c1)] [(.int c0)])) (argsL := [(.int c0)]) (rest := []) rfl (by rw [hml]; rfl) (lenOf pd_21 rfl) rfl rfl (by show 2 * 0 + _ ≤ _; exact Nat.le_of_eq rfl) (hb hby d1_21) ?_
      rintro _ T308 L308 X308 ⟨a308, t308, kb308, rfl, N308q, K308, f0_308, f1_308, f2_308, f3_308, f4_308, f5_308⟩
      have n0_309 : n0 ≤ a308 := Nat.le_trans Z0 f0_308
      have sz0_310 := Nat.le_trans KP0.1 f0_308
      have sf311 : Safe Z own_EL _ _ a308 := Safe.new (EL := own_EL) (Z := Z) (vm := s.vm) f0_308
      have n0_312 : n0 ≤ t308 := Nat.le_trans Z0 f1_308
      have sz0_313 := Nat.le_trans KP0.1 f1_308
      have sf314 : Safe Z own_EL _ _ t308 := Safe.new (EL := own_EL) (Z := Z) (vm := s.vm) f1_308
      have CH315 := CH0.trans (CHr.keep K308 sf0 CH0.1)
      have lt316 := f2_308.lt
      have lt317 := f5_308.lt
      have N318 := Fr.app N0 N308q
      show own_Fin p e below _ T308 (mkF m 24 #[.val (.int k), .val (.int c0), .val (.int c1)] [(.ref a308)])
      have qV319 : ([(.int (StrChars.lo8 c0))] : List Value) = (own_bs (own_sl k c0 c1)) := (by rw [own_sl, if_neg hc275, if_pos hc307]; rfl)
      have V319 : Arv Z T308.heap t308 kb308 .byte (1 : Int32) (own_bs (own_sl k c0 c1)) (.int 0) := own_fixv qV319 f5_308
      have qV320 : ((1 : Int32) : Int32) = (Int32.ofNat (own_bs (own_sl k c0 c1)).length) := (by rw [own_sl, if_neg hc275, if_pos hc307]; rfl)
      have V320 : Arv Z T308.heap t308 kb308 .byte (Int32.ofNat (own_bs (own_sl k c0 c1)).length) (own_bs (own_sl k c0 c1)) (.int 0) := own_fixn qV320 V319
      have c321 := (KP0.trans K308 all0)
      have c322 := (Nat.le_trans hk0 K308.1)
      exact own_retAW X308 hx hZ (own_hEL hw) hS c322 CH315 Bd.returns rfl rfl (hb hby d1_24) hlk ⟨a308, t308, kb308, rfl, N318, c321, sz0_310, f2_308, f3_308, f4_308, V320⟩ (by first | decide | (dsimp only; omega)) (by first | decide | (dsimp only; omega))
    · refine own_step (T' := s₁) (g' := (mkF m 25 #[.val (.int k), .val (.int c0), .val (.int c1)] [])) (fun _ q => XS.icmpYes X0.here hx rfl (pc0 := 17) (pc' := 25) rfl (hb hby d1_17) rfl (XT.ii_ne_t hc307) (by decide) (by decide) q) ?_
      obtain ⟨T323, h323, X323, e323, E323, A323, D323, -, st323⟩ := newO X0 hx hZ hown (w7 hw) (w8 hw) (w9 hw) e0 (g := (mkF m 25 #[.val (.int k), .val (.int c0), .val (.int c1)] [])) rfl (hb hby d1_25) (by first | decide | (dsimp only; omega)) (by first | decide | (dsimp only; omega))
      obtain ⟨b323, g323⟩ : ∃ z, z = h0.size := ⟨_, rfl⟩
      rw [← g323] at A323 D323 st323
      have n0_324 : n0 ≤ b323 := Nat.le_trans Z0 (Nat.le_of_eq g323.symm)
      have sz0_325 := Nat.le_trans KP0.1 (Nat.le_of_eq g323.symm)
      have sf326 : Safe Z own_EL _ _ b323 := Safe.new (EL := own_EL) (Z := Z) (vm := s.vm) (Nat.le_of_eq g323.symm)
      have CH327 := CH0.trans (CHr.ext E323 CH0.1)
      have ltb323 := A323.lt
      have F328 : Fld Z h323 b323 "java/lang/String" "value" "[B" .null := D323 (Or.inr (w23 hw)) (ty := (.array .byte)) (by decide)
      have F329 : Fld Z h323 b323 "java/lang/String" "coder" "B" (.int (0 : Int32)) := D323 (Or.inr (w24 hw)) (ty := .byte) (by decide)
      refine own_step (T' := T323) (g' := (mkF m 28 #[.val (.int k), .val (.int c0), .val (.int c1)] [(.ref b323)])) st323 ?_
      refine own_step (T' := T323) (g' := (mkF m 29 #[.val (.int k), .val (.int c0), .val (.int c1)] [(.ref b323), (.ref b323)])) (fun _ q => XS.dup X323.here hx rfl (hb hby d1_28) rfl rfl q) ?_
      refine own_step (T' := T323) (g' := (mkF m 30 #[.val (.int k), .val (.int c0), .val (.int c1)] [(.int (2 : Int32)), (.ref b323), (.ref b323)])) (fun _ q => XS.iconst X323.here hx rfl (hb hby d1_29) q) ?_
      obtain ⟨T330, h330, k330, X330, e330, E330, A330, st330⟩ := newP X323 hx hZ (aty := .char) (w10 hw) e323 (g := (mkF m 30 #[.val (.int k), .val (.int c0), .val (.int c1)] [(.int (2 : Int32)), (.ref b323), (.ref b323)])) rfl (hb hby d1_30) rfl (by decide) (cap := 2) (by decide) (by first | decide | omega) (by first | decide | (dsimp only; omega)) (by first | decide | (dsimp only; omega))
      obtain ⟨b330, g330⟩ : ∃ z, z = h323.size := ⟨_, rfl⟩
      rw [← g330] at A330 st330
      have c331 := (Nat.le_trans Z0 E323.1)
      have n0_332 : n0 ≤ b330 := Nat.le_trans c331 (Nat.le_of_eq g330.symm)
      have c333 := (KP0.ext E323)
      have sz0_334 := Nat.le_trans c333.1 (Nat.le_of_eq g330.symm)
      have ne335 : b323 ≠ b330 := own_ne ltb323 (Nat.le_of_eq g330.symm)
      have sf336 : Safe Z own_EL _ _ b330 := Safe.new (EL := own_EL) (Z := Z) (vm := s.vm) (Nat.le_of_eq g330.symm)
      have CH337 := CH327.trans (CHr.ext E330 CH327.1)
      have V330 : Arv Z h330 b330 k330 .char (2 : Int32) [(.int (0 : Int32)), (.int (0 : Int32))] (.int (0 : Int32)) := (Arv.new A330 (by decide)).pad (pad_rep [] (.int (0 : Int32)) 2)
      have ltb330 := V330.lt
      refine own_step (T' := T330) (g' := (mkF m 32 #[.val (.int k), .val (.int c0), .val (.int c1)] [(.ref b330), (.ref b323), (.ref b323)])) st330 ?_
      refine own_step (T' := T330) (g' := (mkF m 33 #[.val (.int k), .val (.int c0), .val (.int c1)] [(.ref b330), (.ref b330), (.ref b323), (.ref b323)])) (fun _ q => XS.dup X330.here hx rfl (hb hby d1_32) rfl rfl q) ?_
      refine own_step (T' := T330) (g' := (mkF m 34 #[.val (.int k), .val (.int c0), .val (.int c1)] [(.int (0 : Int32)), (.ref b330), (.ref b330), (.ref b323), (.ref b323)])) (fun _ q => XS.iconst X330.here hx rfl (hb hby d1_33) q) ?_
      refine own_step (T' := T330) (g' := (mkF m 35 #[.val (.int k), .val (.int c0), .val (.int c1)] [(.int c0), (.int (0 : Int32)), (.ref b330), (.ref b330), (.ref b323), (.ref b323)])) (fun _ q => XS.iloadN X330.here hx rfl (hb hby d1_34) rfl q) ?_
      obtain ⟨T338, h338, X338, e338, W338, V338, st338⟩ := own_stC X330 hx hZ e330 V330 (j := (0 : Int32)) ⟨by decide, by decide⟩ (i := 0) rfl (Nat.le_of_ble_eq_true rfl) (g := (mkF m 35 #[.val (.int k), .val (.int c0), .val (.int c1)] [(.int c0), (.int (0 : Int32)), (.ref b330), (.ref b330), (.ref b323), (.ref b323)])) rfl rfl (hb hby d1_35)
      rw [show (nar .char c0) = c0 from own_nar8 hc0] at V338
      replace V338 : Arv Z h338 b330 k330 .char (2 : Int32) [(.int c0), (.int (0 : Int32))] (.int (0 : Int32)) := V338
      have N339 := Fr.snoc X338 N0 n0_332
      have c341 := (Safe.ext E330 CH327.1 sf336)
      have CH340 := CH337.trans (CHr.wr W338 c341 CH337.1)
      refine own_step (T' := T338) (g' := (mkF m 36 #[.val (.int k), .val (.int c0), .val (.int c1)] [(.ref b330), (.ref b323), (.ref b323)])) st338 ?_
      refine own_step (T' := T338) (g' := (mkF m 37 #[.val (.int k), .val (.int c0), .val (.int c1)] [(.ref b330), (.ref b330), (.ref b323), (.ref b323)])) (fun _ q => XS.dup X338.here hx rfl (hb hby d1_36) rfl rfl q) ?_
      refine own_step (T' := T338) (g' := (mkF m 38 #[.val (.int k), .val (.int c0), .val (.int c1)] [(.int (1 : Int32)), (.ref b330), (.ref b330), (.ref b323), (.ref b323)])) (fun _ q => XS.iconst X338.here hx rfl (hb hby d1_37) q) ?_
      refine own_step (T' := T338) (g' := (mkF m 39 #[.val (.int k), .val (.int c0), .val (.int c1)] [(.int c1), (.int (1 : Int32)), (.ref b330), (.ref b330), (.ref b323), (.ref b323)])) (fun _ q => XS.iloadN X338.here hx rfl (hb hby d1_38) rfl q) ?_
      obtain ⟨T342, h342, X342, e342, W342, V342, st342⟩ := own_stC X338 hx hZ e338 V338 (j := (1 : Int32)) ⟨by decide, by decide⟩ (i := 1) rfl (Nat.le_of_ble_eq_true rfl) (g := (mkF m 39 #[.val (.int k), .val (.int c0), .val (.int c1)] [(.int c1), (.int (1 : Int32)), (.ref b330), (.ref b330), (.ref b323), (.ref b323)])) rfl rfl (hb hby d1_39)
      rw [show (nar .char c1) = c1 from own_nar8 hc1] at V342
      replace V342 : Arv Z h342 b330 k330 .char (2 : Int32) [(.int c0), (.int c1)] (.int (0 : Int32)) := V342
      have N343 := Fr.snoc X342 N339 n0_332
      have c345 := (Safe.wr W338 c341 CH337.1 c341)
      have CH344 := CH340.trans (CHr.wr W342 c345 CH340.1)
      refine own_step (T' := T342) (g' := (mkF m 40 #[.val (.int k), .val (.int c0), .val (.int c1)] [(.ref b330), (.ref b323), (.ref b323)])) st342 ?_
      have c346 := (((A323.ext E330).wr W338).wr W342)
      have c347 := (((F328.ext E330).other W338 (Or.inl ne335)).other W342 (Or.inl ne335))
      have c348 := (((F329.ext E330).other W338 (Or.inl ne335)).other W342 (Or.inl ne335))
      have c349 := (Nat.le_trans (Nat.le_trans (Nat.le_trans c331 E330.1) (Keep.of_wr W338).1) (Keep.of_wr W342).1)
      have c350 := ((((OLD0.ext E323).ext E330).wr W338 n0_332).wr W342 n0_332)
      have hp351 : ∀ c ∈ ([c0, c1] : List Int32), ¬ c < 0 ∧ ¬ (255 : Int32) < c := (own_allS hc0 (own_allS hc1 own_all0))
      refine own_callC X342 hx hZ hown rfl (w11 hw) (w12 hw) (w13 hw) (by decide) (StrChars.Road.backV (W := 1) hZ (own_ws hw) (kI := 4) (w8 hw) (cs := ([c0, c1] : List Int32)) (bs := (([c0, c1] : List Int32)).map (fun c => c.toInt8.toInt32)) (n := 2) n0_324 c349 c346 c347 c348 V342 (O2.ext c350.2) P5 rfl rfl (by decide) (by decide) hp351 rfl (by decide) (by decide)) e342  (by first | decide | (dsimp only; omega)) (by first | decide | (dsimp only; omega)) (g := (mkF m 40 #[.val (.int k), .val (.int c0), .val (.int c1)] [(.ref b330), (.ref b323), (.ref b323)])) (argsL := [(.ref b330)]) (rest := [(.ref b323)]) rfl (by rw [hml]; rfl) (lenOf pd_20 rfl) rfl rfl (by show 2 * 0 + _ ≤ _; exact Nat.le_of_eq rfl) (hb hby d1_40) ?_
      rintro _ T352 L352 X352 ⟨rfl, N352q, K352, fE352, fC352, t352, kb352, ge352, sz352, nx352, fV352, fA352⟩
      have n0_353 : n0 ≤ t352 := Nat.le_trans c349 sz352
      have c354 := (((c333.ext E330).wr W338 (Or.inr sz0_334)).wr W342 (Or.inr sz0_334))
      have sz0_355 := Nat.le_trans c354.1 sz352
      have c356 := (own_lt (own_lt (own_lt ltb323 E330.1) (Keep.of_wr W338).1) (Keep.of_wr W342).1)
      have ne357 : b323 ≠ t352 := own_ne c356 sz352
      have c358 := (own_lt (own_lt ltb330 (Keep.of_wr W338).1) (Keep.of_wr W342).1)
      have ne359 : b330 ≠ t352 := own_ne c358 sz352
      have sf360 : Safe Z own_EL _ _ t352 := Safe.new (EL := own_EL) (Z := Z) (vm := s.vm) sz352
      have c362 := (Safe.wr W342 c345 CH340.1 (Safe.wr W338 c341 CH337.1 (Safe.ext E330 CH327.1 (Safe.ext E323 CH0.1 sf326))))
      have CH361 := CH344.trans (CHr.keep K352 (sfS c362 sf0) CH344.1)
      have ltt352 := fA352.lt
      have hcd363 : StrChars.Road.CodA ([c0, c1] : List Int32) 0 (2 : Int32) (((([c0, c1] : List Int32)).map (fun c => c.toInt8.toInt32)).map Value.int) := StrChars.Road.codOf (n := 2) rfl (fun c hc => (hp351 c hc).2)
      have N364 := Fr.app N343 N352q
      show own_Fin p e below _ T352 (mkF m 43 #[.val (.int k), .val (.int c0), .val (.int c1)] [(.ref b323)])
      have qV365 : (((([c0, c1] : List Int32)).map (fun c => c.toInt8.toInt32)).map Value.int : List Value) = (own_bs (own_sl k c0 c1)) := (by rw [own_sl, if_neg hc275, if_neg hc307]; rfl)
      have V365 : Arv Z T352.heap t352 kb352 .byte (2 : Int32) (own_bs (own_sl k c0 c1)) (.int 0) := own_fixv qV365 fA352
      have qV366 : ((2 : Int32) : Int32) = (Int32.ofNat (own_bs (own_sl k c0 c1)).length) := (by rw [own_sl, if_neg hc275, if_neg hc307]; rfl)
      have V366 : Arv Z T352.heap t352 kb352 .byte (Int32.ofNat (own_bs (own_sl k c0 c1)).length) (own_bs (own_sl k c0 c1)) (.int 0) := own_fixn qV366 V365
      have c367 := (c354.trans K352 (allS (Or.inr sz0_325) all0))
      have c368 := (Nat.le_trans (Nat.le_trans (Nat.le_trans (Nat.le_trans (Nat.le_trans hk0 E323.1) E330.1) (Keep.of_wr W338).1) (Keep.of_wr W342).1) K352.1)
      exact own_retAW X352 hx hZ (own_hEL hw) hS c368 CH361 Bd.returns rfl rfl (hb hby d1_43) hlk ⟨b323, t352, kb352, rfl, N364, c367, sz0_325, fE352, fV352, fC352, V366⟩ (by first | decide | (dsimp only; omega)) (by first | decide | (dsimp only; omega))
theorem pn_7 : plainName "com/example/linewire/linewire/SchemaViolation" = true := by first | (simp [plainName, overriddenIn]; done) | decide +kernel
theorem d5_0 : decode prog_23_method_1_code 0 = .ok (.aload_n 0, 1) := by decide +kernel
theorem d5_1 : decode prog_23_method_1_code 1 = .ok (.invokespecial 1, 3) := by decide +kernel
theorem d5_4 : decode prog_23_method_1_code 4 = .ok (.aload_n 0, 1) := by decide +kernel
theorem d5_5 : decode prog_23_method_1_code 5 = .ok (.aload_n 1, 1) := by decide +kernel
theorem d5_6 : decode prog_23_method_1_code 6 = .ok (.putfield 7, 3) := by decide +kernel
theorem d5_9 : decode prog_23_method_1_code 9 = .ok (.aload_n 0, 1) := by decide +kernel
theorem d5_10 : decode prog_23_method_1_code 10 = .ok (.aload_n 2, 1) := by decide +kernel
theorem d5_11 : decode prog_23_method_1_code 11 = .ok (.putfield 13, 3) := by decide +kernel
theorem d5_14 : decode prog_23_method_1_code 14 = .ok (.return_, 1) := by decide +kernel
def Q_own_svi (Z : State) (a : Addr) (f : Addr) (f2 : Addr) (h0 : Heap) (n0 : Nat) (v : Option Value) (h : Heap) (L : List Loc) : Prop := v = none ∧ Fr n0 L ∧ Keep h0 h [a] ∧ Exa Z h a "com/example/linewire/linewire/SchemaViolation" ∧ Fld Z h a "com/example/linewire/linewire/SchemaViolation" "pointer" "Ljava/lang/String;" (.ref f) ∧ Fld Z h a "com/example/linewire/linewire/SchemaViolation" "reason" "Ljava/lang/String;" (.ref f2)
set_option maxRecDepth 65536 in
set_option maxHeartbeats 40000000 in
theorem own_svi (l : Launch) (Z : State) (a0 : Array Value) (hw : ∀ d ∈ tables_1, d.before a0 Z = true) (ws : List Jvm.Cond) (a : Addr) (f : Addr) (f2 : Addr) (h0 : Heap) (n0 : Nat) (Z0 : n0 ≤ h0.size) (E_a : Exa Z h0 a "com/example/linewire/linewire/SchemaViolation") (ge_a : n0 ≤ a) (F_pointer_a : Fld Z h0 a "com/example/linewire/linewire/SchemaViolation" "pointer" "Ljava/lang/String;" .null) (F_reason_a : Fld Z h0 a "com/example/linewire/linewire/SchemaViolation" "reason" "Ljava/lang/String;" .null) :
    MetFree l (⟨"com/example/linewire/linewire/SchemaViolation", "<init>", "(Ljava/lang/String;Ljava/lang/String;)V"⟩ : MethodName) (head1 (Jvm.Cond.code (⟨"com/example/linewire/linewire/SchemaViolation", "<init>", "(Ljava/lang/String;Ljava/lang/String;)V"⟩ : MethodName) prog_23_method_1_code 3 none :: ws) ({ frames := 1, cells := 0, slots := 0, locals := 12 } : Room)) (fun ag U => ag = #[(.ref a), (.ref f), (.ref f2)] ∧ Z.Warmed39 U.vm ∧ U.heap = h0) (fun _ _ _ _ _ => True) (fun _ U o U' => ∃ v L, o = .returned v ∧ Q_own_svi Z a f f2 h0 n0 v U'.heap L ∧ FrameEnd U o U' L ({ frames := 1, cells := 0, slots := 0, locals := 12 } : Room).cells ({ frames := 1, cells := 0, slots := 0, locals := 12 } : Room).slots) := by
  refine own_body (plainFor_of_name pn_7) ?_
  intro p e s m below meth c s₁ Bd hml hZ e0
  have hx := Bd.exec
  have hby := Bd.bytes
  have hlk : meth.locks = false := BodyLoose.notSynchronized Bd
  have hown : s.vm.findClass "com/example/linewire/linewire/SchemaViolation" = some m.cls := findClass_of_methodNamed Bd.named
  have hnm := (name_of_methodNamed Bd.named Bd.method).1
  have X0 : Stand p l e ({ frames := 1, cells := 0, slots := 0, locals := 12 } : Room) s m #[(.ref a), (.ref f), (.ref f2)] below meth c s₁ [] 0 0 := Stand.of_body Bd
  have N0 := Fr.nil n0
  have KP0 : Keep h0 h0 [a] := Keep.refl h0 [a]
  have lt_a := E_a.lt
  refine own_cast (g' := (mkF m 0 #[.val (.ref a), .val (.ref f), .val (.ref f2)] [])) (by first | (simp [entryFrame, mkF, argsToLocals, own_cat_int, own_cat_long, own_cat_ref, own_cat_null]; done) | rfl) ?_
  refine own_step (T' := s₁) (g' := (mkF m 1 #[.val (.ref a), .val (.ref f), .val (.ref f2)] [(.ref a)])) (fun _ q => XS.aloadN X0.here hx rfl (hb hby d5_0) rfl rfl q) ?_
  obtain ⟨T369, X369, e369, st369⟩ := initO X0 hx hZ hown (w32 hw) (w19 hw) (w20 hw) e0 (g := (mkF m 1 #[.val (.ref a), .val (.ref f), .val (.ref f2)] [(.ref a)])) rfl (by rw [hml]; rfl) rfl (hb hby d5_1) (Nat.le_of_ble_eq_true rfl) (W := 0) (by show 2 * 0 + _ ≤ _; exact Nat.le_of_eq rfl) (Nat.le_of_ble_eq_true rfl)
  refine own_step (T' := T369) (g' := (mkF m 4 #[.val (.ref a), .val (.ref f), .val (.ref f2)] [])) st369 ?_
  refine own_step (T' := T369) (g' := (mkF m 5 #[.val (.ref a), .val (.ref f), .val (.ref f2)] [(.ref a)])) (fun _ q => XS.aloadN X369.here hx rfl (hb hby d5_4) rfl rfl q) ?_
  refine own_step (T' := T369) (g' := (mkF m 6 #[.val (.ref a), .val (.ref f), .val (.ref f2)] [(.ref f), (.ref a)])) (fun _ q => XS.aloadN X369.here hx rfl (hb hby d5_5) rfl rfl q) ?_
  obtain ⟨T370, h370, X370, e370, W370, st370⟩ := putF X369 hx hZ hown (host := "") (Or.inl (w33 hw)) Via.refl e369 F_pointer_a E_a (Or.inr ⟨(w34 hw), rfl, hnm⟩) (w1 hw) (ty := (.object "java/lang/String")) (by decide) rfl rfl (g := (mkF m 6 #[.val (.ref a), .val (.ref f), .val (.ref f2)] [(.ref f), (.ref a)])) rfl rfl (hb hby d5_6)
  have F371 := F_pointer_a.same W370
  have N372 := Fr.snoc X370 N0 ge_a
  refine own_step (T' := T370) (g' := (mkF m 9 #[.val (.ref a), .val (.ref f), .val (.ref f2)] [])) st370 ?_
  refine own_step (T' := T370) (g' := (mkF m 10 #[.val (.ref a), .val (.ref f), .val (.ref f2)] [(.ref a)])) (fun _ q => XS.aloadN X370.here hx rfl (hb hby d5_9) rfl rfl q) ?_
  refine own_step (T' := T370) (g' := (mkF m 11 #[.val (.ref a), .val (.ref f), .val (.ref f2)] [(.ref f2), (.ref a)])) (fun _ q => XS.aloadN X370.here hx rfl (hb hby d5_10) rfl rfl q) ?_
  have c373 := (E_a.wr W370)
  have c374 := (F_reason_a.other W370 (Or.inr (RoadKit.slot_ne (t := (.object "java/lang/String")) (t' := (.object "java/lang/String")) (Or.inr (w36 hw)) (Or.inr (w34 hw)) (by decide) (by decide) (by decide))))
  obtain ⟨T375, h375, X375, e375, W375, st375⟩ := putF X370 hx hZ hown (host := "") (Or.inl (w35 hw)) Via.refl e370 c374 c373 (Or.inr ⟨(w36 hw), rfl, hnm⟩) (w1 hw) (ty := (.object "java/lang/String")) (by decide) rfl rfl (g := (mkF m 11 #[.val (.ref a), .val (.ref f), .val (.ref f2)] [(.ref f2), (.ref a)])) rfl rfl (hb hby d5_11)
  have F376 := c374.same W375
  have N377 := Fr.snoc X375 N372 ge_a
  refine own_step (T' := T375) (g' := (mkF m 14 #[.val (.ref a), .val (.ref f), .val (.ref f2)] [])) st375 ?_
  have c378 := ((KP0.wr W370 (Or.inl (List.mem_of_getElem? (i := 0) rfl))).wr W375 (Or.inl (List.mem_of_getElem? (i := 0) rfl)))
  have c379 := (c373.wr W375)
  have c380 := (F371.other W375 (Or.inr (RoadKit.slot_ne (t := (.object "java/lang/String")) (t' := (.object "java/lang/String")) (Or.inr (w34 hw)) (Or.inr (w36 hw)) (by decide) (by decide) (by decide))))
  exact own_retV X375 hx Bd.returns (hb hby d5_14) hlk (by rw [e375]; exact ⟨rfl, N377, c378, c379, c380, F376⟩) (by first | decide | (dsimp only; omega)) (by first | decide | (dsimp only; omega))
theorem pd_22 : parseMethodDescriptor "()V" = some ⟨[], none⟩ := by decide +kernel
theorem pd_23 : parseMethodDescriptor "(Ljava/lang/String;)Ljava/lang/StringBuilder;" = some ⟨[(.object "java/lang/String")], some (.object "java/lang/StringBuilder")⟩ := by decide +kernel
theorem pd_24 : parseMethodDescriptor "()Ljava/lang/String;" = some ⟨[], some (.object "java/lang/String")⟩ := by decide +kernel
theorem d6_0 : decode prog_23_method_4_code 0 = .ok (.new 16, 3) := by decide +kernel
theorem d6_3 : decode prog_23_method_4_code 3 = .ok (.dup, 1) := by decide +kernel
theorem d6_4 : decode prog_23_method_4_code 4 = .ok (.invokespecial 18, 3) := by decide +kernel
theorem d6_7 : decode prog_23_method_4_code 7 = .ok (.aload_n 0, 1) := by decide +kernel
theorem d6_8 : decode prog_23_method_4_code 8 = .ok (.getfield 7, 3) := by decide +kernel
theorem d6_11 : decode prog_23_method_4_code 11 = .ok (.invokevirtual 19, 3) := by decide +kernel
theorem d6_14 : decode prog_23_method_4_code 14 = .ok (.ldc 23, 2) := by decide +kernel
theorem d6_16 : decode prog_23_method_4_code 16 = .ok (.invokevirtual 19, 3) := by decide +kernel
theorem d6_19 : decode prog_23_method_4_code 19 = .ok (.aload_n 0, 1) := by decide +kernel
theorem d6_20 : decode prog_23_method_4_code 20 = .ok (.getfield 13, 3) := by decide +kernel
theorem d6_23 : decode prog_23_method_4_code 23 = .ok (.invokevirtual 19, 3) := by decide +kernel
theorem d6_26 : decode prog_23_method_4_code 26 = .ok (.invokevirtual 25, 3) := by decide +kernel
theorem d6_29 : decode prog_23_method_4_code 29 = .ok (.areturn, 1) := by decide +kernel
def Q_own_svt (Z : State) (G1 : Int32) (G3 : Value) (a : Addr) (f : Addr) (t : Addr) (kb : ClassId) (ts : List Value) (f2 : Addr) (t2 : Addr) (kb2 : ClassId) (ts2 : List Value) (h0 : Heap) (n0 : Nat) (v : Option Value) (h : Heap) (L : List Loc) : Prop := ∃ (r : Addr), ∃ (tr : Addr), ∃ (kr : ClassId), v = some (.ref r) ∧ Fr n0 L ∧ Keep h0 h [] ∧ h0.size ≤ r ∧ h0.size ≤ tr ∧ Exa Z h r "java/lang/String" ∧ Fld Z h r "java/lang/String" "value" "[B" (.ref tr) ∧ Fld Z h r "java/lang/String" "coder" "B" (.int (0 : Int32)) ∧ Arv Z h tr kr .byte (Int32.ofNat ((([] ++ ts) ++ [Value.int (58 : Int32), Value.int (32 : Int32)]) ++ ts2).length) ((([] ++ ts) ++ [Value.int (58 : Int32), Value.int (32 : Int32)]) ++ ts2) (.int 0)
set_option maxRecDepth 65536 in
set_option maxHeartbeats 40000000 in
theorem own_svt (l : Launch) (Z : State) (a0 : Array Value) (hw : ∀ d ∈ tables_1, d.before a0 Z = true) (ws : List Jvm.Cond) (G1 : Int32) (G3 : Value) (a : Addr) (f : Addr) (t : Addr) (kb : ClassId) (ts : List Value) (f2 : Addr) (t2 : Addr) (kb2 : ClassId) (ts2 : List Value) (h0 : Heap) (n0 : Nat) (Z0 : n0 ≤ h0.size) (O2 : Sta Z Z.heap "java/lang/String" "COMPACT_STRINGS" "Z" (.int G1)) (O4 : Sta Z Z.heap "jdk/internal/util/Preconditions" "SIOOBE_FORMATTER" "Ljava/util/function/BiFunction;" G3) (P5 : ¬ (G1 = (0 : Int32))) (rG3 : G3.isRef = true) (OLD0 : Old Z n0 h0) (E_a : Exa Z h0 a "com/example/linewire/linewire/SchemaViolation") (F_pointer_a : Fld Z h0 a "com/example/linewire/linewire/SchemaViolation" "pointer" "Ljava/lang/String;" (.ref f)) (F_reason_a : Fld Z h0 a "com/example/linewire/linewire/SchemaViolation" "reason" "Ljava/lang/String;" (.ref f2)) (E_f : Exa Z h0 f "java/lang/String") (F_value_f : Fld Z h0 f "java/lang/String" "value" "[B" (.ref t)) (F_coder_f : Fld Z h0 f "java/lang/String" "coder" "B" (.int (0 : Int32))) (V_t : Arv Z h0 t kb .byte (Int32.ofNat ts.length) ts (.int 0)) (E_f2 : Exa Z h0 f2 "java/lang/String") (F_value_f2 : Fld Z h0 f2 "java/lang/String" "value" "[B" (.ref t2)) (F_coder_f2 : Fld Z h0 f2 "java/lang/String" "coder" "B" (.int (0 : Int32))) (V_t2 : Arv Z h0 t2 kb2 .byte (Int32.ofNat ts2.length) ts2 (.int 0)) (hbl : ts.length + 2 + ts2.length < 16) :
    MetFree l (⟨"com/example/linewire/linewire/SchemaViolation", "toString", "()Ljava/lang/String;"⟩ : MethodName) (head1 (Jvm.Cond.code (⟨"com/example/linewire/linewire/SchemaViolation", "toString", "()Ljava/lang/String;"⟩ : MethodName) prog_23_method_4_code 1 (some (.object "java/lang/String")) :: ws) ({ frames := 6, cells := 6, slots := 52, locals := 91 } : Room)) (fun ag U => ag = #[(.ref a)] ∧ Z.Warmed39 U.vm ∧ U.heap = h0 ∧ CHv Z own_EL U.vm h0) (fun _ _ _ _ _ => True) (fun _ U o U' => ∃ v L, o = .returned v ∧ Q_own_svt Z G1 G3 a f t kb ts f2 t2 kb2 ts2 h0 n0 v U'.heap L ∧ CHr Z own_EL U.vm U.heap U'.vm U'.heap ∧ ReturnedEndW U o U' L ({ frames := 6, cells := 6, slots := 52, locals := 91 } : Room).cells ({ frames := 6, cells := 6, slots := 52, locals := 91 } : Room).slots) := by
  refine own_bodyW (plainFor_of_name pn_7) ?_
  intro p e s m below meth c s₁ Bd hml hZ e0 hh0 CH0
  have hx := Bd.exec
  have hby := Bd.bytes
  have hlk : meth.locks = false := BodyLoose.notSynchronized Bd
  have hown : s.vm.findClass "com/example/linewire/linewire/SchemaViolation" = some m.cls := findClass_of_methodNamed Bd.named
  have hnm := (name_of_methodNamed Bd.named Bd.method).1
  have X0 : Stand p l e ({ frames := 6, cells := 6, slots := 52, locals := 91 } : Room) (s.setVm s.vm) m #[(.ref a)] below meth c s₁ [] 0 0 := Stand.of_body Bd
  have N0 := Fr.nil n0
  have hS := (State.WarmedH.refl s).since h0.size
  have hk0 : h0.size ≤ h0.size := Nat.le_refl _
  have KP0 : Keep h0 h0 [] := Keep.refl h0 []
  have lt_a := E_a.lt
  have lt_f := E_f.lt
  have lt_t := V_t.lt
  have lt_f2 := E_f2.lt
  have lt_t2 := V_t2.lt
  have ty_a_f : a ≠ f := (Exa.ne E_a E_f (by decide))
  have ty_a_t : a ≠ t := (Exa.neArv E_a V_t (w1 hw))
  have ty_a_f2 : a ≠ f2 := (Exa.ne E_a E_f2 (by decide))
  have ty_a_t2 : a ≠ t2 := (Exa.neArv E_a V_t2 (w1 hw))
  have ty_f_t : f ≠ t := (Exa.neArv E_f V_t (w8 hw))
  have ty_f_t2 : f ≠ t2 := (Exa.neArv E_f V_t2 (w8 hw))
  have ty_t_f2 : t ≠ f2 := (Ne.symm (Exa.neArv E_f2 V_t (w8 hw)))
  have ty_f2_t2 : f2 ≠ t2 := (Exa.neArv E_f2 V_t2 (w8 hw))
  refine own_cast (g' := (mkF m 0 #[.val (.ref a)] [])) (by first | (simp [entryFrame, mkF, argsToLocals, own_cat_int, own_cat_long, own_cat_ref, own_cat_null]; done) | rfl) ?_
  obtain ⟨T381, h381, X381, e381, E381, A381, D381, -, st381⟩ := newO X0 hx hZ hown (w42 hw) (w43 hw) (w44 hw) e0 (g := (mkF m 0 #[.val (.ref a)] [])) rfl (hb hby d6_0) (by first | decide | (dsimp only; omega)) (by first | decide | (dsimp only; omega))
  obtain ⟨b381, g381⟩ : ∃ z, z = h0.size := ⟨_, rfl⟩
  rw [← g381] at A381 D381 st381
  have n0_382 : n0 ≤ b381 := Nat.le_trans Z0 (Nat.le_of_eq g381.symm)
  have sz0_383 := Nat.le_trans KP0.1 (Nat.le_of_eq g381.symm)
  have ne384 : a ≠ b381 := own_ne lt_a (Nat.le_of_eq g381.symm)
  have ne385 : f ≠ b381 := own_ne lt_f (Nat.le_of_eq g381.symm)
  have ne386 : t ≠ b381 := own_ne lt_t (Nat.le_of_eq g381.symm)
  have ne387 : f2 ≠ b381 := own_ne lt_f2 (Nat.le_of_eq g381.symm)
  have ne388 : t2 ≠ b381 := own_ne lt_t2 (Nat.le_of_eq g381.symm)
  have sf389 : Safe Z own_EL _ _ b381 := Safe.new (EL := own_EL) (Z := Z) (vm := s.vm) (Nat.le_of_eq g381.symm)
  have CH390 := CH0.trans (CHr.ext E381 CH0.1)
  have ltb381 := A381.lt
  have F391 : Fld Z h381 b381 "java/lang/AbstractStringBuilder" "value" "[B" .null := D381 (Or.inl (w57 hw)) (ty := (.array .byte)) (by decide)
  have F392 : Fld Z h381 b381 "java/lang/AbstractStringBuilder" "coder" "B" (.int (0 : Int32)) := D381 (Or.inl (w59 hw)) (ty := .byte) (by decide)
  have F393 : Fld Z h381 b381 "java/lang/AbstractStringBuilder" "count" "I" (.int (0 : Int32)) := D381 (Or.inl (w82 hw)) (ty := .int) (by decide)
  refine own_step (T' := T381) (g' := (mkF m 3 #[.val (.ref a)] [(.ref b381)])) st381 ?_
  refine own_step (T' := T381) (g' := (mkF m 4 #[.val (.ref a)] [(.ref b381), (.ref b381)])) (fun _ q => XS.dup X381.here hx rfl (hb hby d6_3) rfl rfl q) ?_
  have c394 := (OLD0.ext E381)
  have c395 := (Nat.le_trans Z0 E381.1)
  refine own_callC X381 hx hZ hown rfl (w45 hw) (w46 hw) (w47 hw) (by decide) (backOf (W := 1) (own_sbi l Z a0 hw [] G1 G3 b381 h381 n0 c395 O2 O4 P5 rG3 c394 A381 n0_382 F391 F392 F393) hZ (w47 hw) (w44 hw) (Nat.le_of_ble_eq_true rfl) (Nat.le_of_ble_eq_true rfl)) e381  (by first | decide | (dsimp only; omega)) (by first | decide | (dsimp only; omega)) (g := (mkF m 4 #[.val (.ref a)] [(.ref b381), (.ref b381)])) (argsL := []) (rest := [(.ref b381)]) rfl (by rw [hml]; rfl) (lenOf pd_22 rfl) rfl rfl (by show 2 * 0 + _ ≤ _; exact Nat.le_of_eq rfl) (hb hby d6_4) ?_
  rintro _ T396 L396 X396 ⟨u396, ku396, rfl, N396q, K396, f0_396, f1_396, f2_396, f3_396, f4_396, f5_396⟩
  have n0_397 : n0 ≤ u396 := Nat.le_trans c395 f0_396
  have c398 := (KP0.ext E381)
  have sz0_399 := Nat.le_trans c398.1 f0_396
  have c400 := (own_lt lt_a E381.1)
  have ne401 : a ≠ u396 := own_ne c400 f0_396
  have c402 := (own_lt lt_f E381.1)
  have ne403 : f ≠ u396 := own_ne c402 f0_396
  have c404 := (own_lt lt_t E381.1)
  have ne405 : t ≠ u396 := own_ne c404 f0_396
  have c406 := (own_lt lt_f2 E381.1)
  have ne407 : f2 ≠ u396 := own_ne c406 f0_396
  have c408 := (own_lt lt_t2 E381.1)
  have ne409 : t2 ≠ u396 := own_ne c408 f0_396
  have ne410 : b381 ≠ u396 := own_ne ltb381 f0_396
  have sf411 : Safe Z own_EL _ _ u396 := Safe.new (EL := own_EL) (Z := Z) (vm := s.vm) f0_396
  have c413 := (Safe.ext E381 CH0.1 sf389)
  have CH412 := CH390.trans (CHr.keep K396 (sfS c413 sf0) CH390.1)
  have lt414 := f5_396.lt
  have N415 := Fr.app N0 N396q
  show own_Fin p e below _ T396 (mkF m 7 #[.val (.ref a)] [(.ref b381)])
  refine own_step (T' := T396) (g' := (mkF m 8 #[.val (.ref a)] [(.ref a), (.ref b381)])) (fun _ q => XS.aloadN X396.here hx rfl (hb hby d6_7) rfl rfl q) ?_
  have c416 := ((F_pointer_a.ext E381).keep K396 (ninS ne384 nin0))
  obtain ⟨T417, X417, e417, st417⟩ := getF X396 hx hZ hown (host := "") (Or.inl (w33 hw)) Via.refl rfl c416 (g := (mkF m 8 #[.val (.ref a)] [(.ref a), (.ref b381)])) rfl rfl (hb hby d6_8)
  refine own_step (T' := T417) (g' := (mkF m 11 #[.val (.ref a)] [(.ref f), (.ref b381)])) st417 ?_
  have c418 := (c394.keep K396 (allS n0_382 all0))
  have c419 := ((E_f.ext E381).keep K396)
  have c420 := ((F_value_f.ext E381).keep K396 (ninS ne385 nin0))
  have c421 := ((F_coder_f.ext E381).keep K396 (ninS ne385 nin0))
  have c422 := ((V_t.ext E381).keep K396 (ninS ne386 nin0))
  have c423 := (Nat.le_trans c395 K396.1)
  refine own_callV (y := (⟨"java/lang/StringBuilder", "append", "(Ljava/lang/String;)Ljava/lang/StringBuilder;"⟩ : MethodName)) (z := (⟨"java/lang/StringBuilder", "append", "(Ljava/lang/String;)Ljava/lang/StringBuilder;"⟩ : MethodName)) X417 hx hZ hown (w60 hw) (w61 hw) (notFace_of_selects (args := #[]) (mvT hZ (w63 hw))) (w63 hw) (w62 hw) (by decide) (backOf (W := 0) (own_sbap l Z a0 hw [] G1 G3 b381 u396 ku396 [] f t kb ts T396.heap n0 c423 O2 O4 P5 rG3 c418 f1_396 f2_396 f3_396 f4_396 f5_396 c419 c420 c421 c422 n0_382 n0_397 ((by simp only [List.length_append, List.length_nil, List.length_cons]; omega) : [].length + ts.length ≤ 16)) hZ (w64 hw) (w44 hw) (Nat.le_of_ble_eq_true rfl) (Nat.le_of_ble_eq_true rfl)) e417 f1_396  (by first | decide | (dsimp only; omega)) (by first | decide | (dsimp only; omega)) (g := (mkF m 11 #[.val (.ref a)] [(.ref f), (.ref b381)])) (argsL := [(.ref f)]) (rest := []) rfl (by rw [hml]; rfl) (lenOf pd_23 rfl) rfl rfl (by show 2 * 0 + _ ≤ _; exact Nat.le_of_eq rfl) (hb hby d6_11) ?_
  rintro _ T424 L424 X424 ⟨rfl, N424q, K424, f0_424, f1_424, f2_424, f3_424, f4_424⟩
  have c426 := (Safe.keep K396 (sfS c413 sf0) CH390.1 sf411)
  have c427 := (Safe.keep K396 (sfS c413 sf0) CH390.1 c413)
  have CH425 := CH412.trans (CHr.keep K424 (sfS c427 (sfS c426 sf0)) CH412.1)
  have N428 := Fr.app N415 N424q
  show own_Fin p e below _ T424 (mkF m 14 #[.val (.ref a)] [(.ref b381)])
  have c430 := (Nat.le_trans (Nat.le_trans (Nat.le_trans hk0 E381.1) K396.1) K424.1)
  obtain ⟨a429, T429, h429, k429, b429, kb429, X429, e429, E429, hS, hk429, hZ, hown, fE429, fC429, fV429, fA429, lta429, ltb429, C429, Li429, sf429, st429⟩ := ldcCH X424 hx hZ hown (w108 hw) (own_wS hw) rfl hS c430 (own_hEL hw) (by decide) CH425.1 (vs := [(.int (58 : Int32)), (.int (32 : Int32))]) (z := (2 : Int32)) ⟨by decide, by decide⟩ (by decide) rfl (g := (mkF m 14 #[.val (.ref a)] [(.ref b381)])) rfl (hb hby d6_14) (n := 8) (by decide) (by decide) (by first | decide | (dsimp only; omega)) (by first | decide | (dsimp only; omega))
  have CH431 := CH425.trans C429
  have c432 := ((((E_a.ext E381).keep K396).keep K424).ext E429)
  have ne433 := sf429 a (Safe.exa hZ.alike c432 (by decide) (by decide))
  have c434 := (CHr.safe C429 (own_lt (own_lt ltb381 K396.1) K424.1) (Safe.keep K424 (sfS c427 (sfS c426 sf0)) CH412.1 c427))
  have ne435 := sf429 b381 c434
  have c436 := (CHr.safe C429 (own_lt lt414 K424.1) (Safe.keep K424 (sfS c427 (sfS c426 sf0)) CH412.1 c426))
  have ne437 := sf429 u396 c436
  refine own_step (T' := T429) (g' := (mkF m 16 #[.val (.ref a)] [(.ref a429), (.ref b381)])) st429 ?_
  have qV438 : ([(.int (58 : Int32)), (.int (32 : Int32))] : List Value) = [Value.int (58 : Int32), Value.int (32 : Int32)] := rfl
  have V438 : Arv Z h429 b429 kb429 .byte (2 : Int32) [Value.int (58 : Int32), Value.int (32 : Int32)] (.int 0) := own_fixv qV438 fA429
  have qV439 : ((2 : Int32) : Int32) = (Int32.ofNat ([Value.int (58 : Int32), Value.int (32 : Int32)] : List Value).length) := rfl
  have V439 : Arv Z h429 b429 kb429 .byte (Int32.ofNat ([Value.int (58 : Int32), Value.int (32 : Int32)] : List Value).length) [Value.int (58 : Int32), Value.int (32 : Int32)] (.int 0) := own_fixn qV439 V438
  have c440 := ((c418.keep K424 (allS n0_382 (allS n0_397 all0))).ext E429)
  have c441 := (f0_424.ext E429)
  have c442 := (f1_424.ext E429)
  have c443 := (f2_424.ext E429)
  have c444 := (f3_424.ext E429)
  have c445 := (f4_424.ext E429)
  have c446 := (Nat.le_trans (Nat.le_trans c423 K424.1) E429.1)
  refine own_callV (y := (⟨"java/lang/StringBuilder", "append", "(Ljava/lang/String;)Ljava/lang/StringBuilder;"⟩ : MethodName)) (z := (⟨"java/lang/StringBuilder", "append", "(Ljava/lang/String;)Ljava/lang/StringBuilder;"⟩ : MethodName)) X429 hx hZ hown (w60 hw) (w61 hw) (notFace_of_selects (args := #[]) (mvT hZ (w63 hw))) (w63 hw) (w62 hw) (by decide) (backOf (W := 0) (own_sbap l Z a0 hw [] G1 G3 b381 u396 ku396 ([] ++ ts) a429 b429 kb429 [Value.int (58 : Int32), Value.int (32 : Int32)] h429 n0 c446 O2 O4 P5 rG3 c440 c441 c442 c443 c444 c445 fE429 fV429 fC429 V439 n0_382 n0_397 ((by simp only [List.length_append, List.length_nil, List.length_cons]; omega) : ([] ++ ts).length + [Value.int (58 : Int32), Value.int (32 : Int32)].length ≤ 16)) hZ (w64 hw) (w44 hw) (Nat.le_of_ble_eq_true rfl) (Nat.le_of_ble_eq_true rfl)) e429 c441  (by first | decide | (dsimp only; omega)) (by first | decide | (dsimp only; omega)) (g := (mkF m 16 #[.val (.ref a)] [(.ref a429), (.ref b381)])) (argsL := [(.ref a429)]) (rest := []) rfl (by rw [hml]; rfl) (lenOf pd_23 rfl) rfl rfl (by show 2 * 0 + _ ≤ _; exact Nat.le_of_eq rfl) (hb hby d6_16) ?_
  rintro _ T447 L447 X447 ⟨rfl, N447q, K447, f0_447, f1_447, f2_447, f3_447, f4_447⟩
  have CH448 := CH431.trans (CHr.keep K447 (sfS c434 (sfS c436 sf0)) CH431.1)
  have N449 := Fr.app N428 N447q
  show own_Fin p e below _ T447 (mkF m 19 #[.val (.ref a)] [(.ref b381)])
  refine own_step (T' := T447) (g' := (mkF m 20 #[.val (.ref a)] [(.ref a), (.ref b381)])) (fun _ q => XS.aloadN X447.here hx rfl (hb hby d6_19) rfl rfl q) ?_
  have c450 := (((((F_reason_a.ext E381).keep K396 (ninS ne384 nin0)).keep K424 (ninS ne384 (ninS ne401 nin0))).ext E429).keep K447 (ninS ne384 (ninS ne401 nin0)))
  obtain ⟨T451, X451, e451, st451⟩ := getF X447 hx hZ hown (host := "") (Or.inl (w35 hw)) Via.refl rfl c450 (g := (mkF m 20 #[.val (.ref a)] [(.ref a), (.ref b381)])) rfl rfl (hb hby d6_20)
  refine own_step (T' := T451) (g' := (mkF m 23 #[.val (.ref a)] [(.ref f2), (.ref b381)])) st451 ?_
  have c452 := (c440.keep K447 (allS n0_382 (allS n0_397 all0)))
  have c453 := (((((E_f2.ext E381).keep K396).keep K424).ext E429).keep K447)
  have c454 := (((((F_value_f2.ext E381).keep K396 (ninS ne387 nin0)).keep K424 (ninS ne387 (ninS ne407 nin0))).ext E429).keep K447 (ninS ne387 (ninS ne407 nin0)))
  have c455 := (((((F_coder_f2.ext E381).keep K396 (ninS ne387 nin0)).keep K424 (ninS ne387 (ninS ne407 nin0))).ext E429).keep K447 (ninS ne387 (ninS ne407 nin0)))
  have c456 := (((((V_t2.ext E381).keep K396 (ninS ne388 nin0)).keep K424 (ninS ne388 (ninS ne409 nin0))).ext E429).keep K447 (ninS ne388 (ninS ne409 nin0)))
  have c457 := (Nat.le_trans c446 K447.1)
  refine own_callV (y := (⟨"java/lang/StringBuilder", "append", "(Ljava/lang/String;)Ljava/lang/StringBuilder;"⟩ : MethodName)) (z := (⟨"java/lang/StringBuilder", "append", "(Ljava/lang/String;)Ljava/lang/StringBuilder;"⟩ : MethodName)) X451 hx hZ hown (w60 hw) (w61 hw) (notFace_of_selects (args := #[]) (mvT hZ (w63 hw))) (w63 hw) (w62 hw) (by decide) (backOf (W := 0) (own_sbap l Z a0 hw [] G1 G3 b381 u396 ku396 (([] ++ ts) ++ [Value.int (58 : Int32), Value.int (32 : Int32)]) f2 t2 kb2 ts2 T447.heap n0 c457 O2 O4 P5 rG3 c452 f0_447 f1_447 f2_447 f3_447 f4_447 c453 c454 c455 c456 n0_382 n0_397 ((by simp only [List.length_append, List.length_nil, List.length_cons]; omega) : (([] ++ ts) ++ [Value.int (58 : Int32), Value.int (32 : Int32)]).length + ts2.length ≤ 16)) hZ (w64 hw) (w44 hw) (Nat.le_of_ble_eq_true rfl) (Nat.le_of_ble_eq_true rfl)) e451 f0_447  (by first | decide | (dsimp only; omega)) (by first | decide | (dsimp only; omega)) (g := (mkF m 23 #[.val (.ref a)] [(.ref f2), (.ref b381)])) (argsL := [(.ref f2)]) (rest := []) rfl (by rw [hml]; rfl) (lenOf pd_23 rfl) rfl rfl (by show 2 * 0 + _ ≤ _; exact Nat.le_of_eq rfl) (hb hby d6_23) ?_
  rintro _ T458 L458 X458 ⟨rfl, N458q, K458, f0_458, f1_458, f2_458, f3_458, f4_458⟩
  have c460 := (Safe.keep K447 (sfS c434 (sfS c436 sf0)) CH431.1 c436)
  have c461 := (Safe.keep K447 (sfS c434 (sfS c436 sf0)) CH431.1 c434)
  have CH459 := CH448.trans (CHr.keep K458 (sfS c461 (sfS c460 sf0)) CH448.1)
  have N462 := Fr.app N449 N458q
  show own_Fin p e below _ T458 (mkF m 26 #[.val (.ref a)] [(.ref b381)])
  have c463 := (c452.keep K458 (allS n0_382 (allS n0_397 all0)))
  have c464 := (Nat.le_trans c457 K458.1)
  refine own_callV (y := (⟨"java/lang/StringBuilder", "toString", "()Ljava/lang/String;"⟩ : MethodName)) (z := (⟨"java/lang/StringBuilder", "toString", "()Ljava/lang/String;"⟩ : MethodName)) X458 hx hZ hown (w109 hw) (w110 hw) (notFace_of_selects (args := #[]) (mvT hZ (w112 hw))) (w112 hw) (w111 hw) (by decide) (backOf (W := 0) (own_sts l Z a0 hw [] G1 G3 b381 u396 ku396 ((([] ++ ts) ++ [Value.int (58 : Int32), Value.int (32 : Int32)]) ++ ts2) T458.heap n0 c464 O2 O4 P5 rG3 c463 f0_458 f1_458 f2_458 f3_458 f4_458 ((by simp only [List.length_append, List.length_nil, List.length_cons]; omega) : ((([] ++ ts) ++ [Value.int (58 : Int32), Value.int (32 : Int32)]) ++ ts2).length < 16)) hZ (w113 hw) (w44 hw) (Nat.le_of_ble_eq_true rfl) (Nat.le_of_ble_eq_true rfl)) rfl f0_458  (by first | decide | (dsimp only; omega)) (by first | decide | (dsimp only; omega)) (g := (mkF m 26 #[.val (.ref a)] [(.ref b381)])) (argsL := []) (rest := []) rfl (by rw [hml]; rfl) (lenOf pd_24 rfl) rfl rfl (by show 2 * 0 + _ ≤ _; exact Nat.le_of_eq rfl) (hb hby d6_26) ?_
  rintro _ T465 L465 X465 ⟨r465, t465, kb465, rfl, N465q, K465, f0_465, f1_465, f2_465, f3_465, f4_465, f5_465⟩
  have n0_466 : n0 ≤ r465 := Nat.le_trans c464 f0_465
  have c467 := (((((c398.trans K396 (allS (Or.inr sz0_383) all0)).trans K424 (allS (Or.inr sz0_383) (allS (Or.inr sz0_399) all0))).ext E429).trans K447 (allS (Or.inr sz0_383) (allS (Or.inr sz0_399) all0))).trans K458 (allS (Or.inr sz0_383) (allS (Or.inr sz0_399) all0)))
  have sz0_468 := Nat.le_trans c467.1 f0_465
  have c469 := (own_lt (own_lt (own_lt (own_lt (own_lt c400 K396.1) K424.1) E429.1) K447.1) K458.1)
  have ne470 : a ≠ r465 := own_ne c469 f0_465
  have c471 := (own_lt (own_lt (own_lt (own_lt (own_lt c402 K396.1) K424.1) E429.1) K447.1) K458.1)
  have ne472 : f ≠ r465 := own_ne c471 f0_465
  have c473 := (own_lt (own_lt (own_lt (own_lt (own_lt c404 K396.1) K424.1) E429.1) K447.1) K458.1)
  have ne474 : t ≠ r465 := own_ne c473 f0_465
  have c475 := (own_lt (own_lt (own_lt (own_lt (own_lt c406 K396.1) K424.1) E429.1) K447.1) K458.1)
  have ne476 : f2 ≠ r465 := own_ne c475 f0_465
  have c477 := (own_lt (own_lt (own_lt (own_lt (own_lt c408 K396.1) K424.1) E429.1) K447.1) K458.1)
  have ne478 : t2 ≠ r465 := own_ne c477 f0_465
  have c479 := (own_lt (own_lt (own_lt (own_lt (own_lt ltb381 K396.1) K424.1) E429.1) K447.1) K458.1)
  have ne480 : b381 ≠ r465 := own_ne c479 f0_465
  have c481 := (own_lt (own_lt (own_lt (own_lt lt414 K424.1) E429.1) K447.1) K458.1)
  have ne482 : u396 ≠ r465 := own_ne c481 f0_465
  have c483 := (own_lt (own_lt lta429 K447.1) K458.1)
  have ne484 : a429 ≠ r465 := own_ne c483 f0_465
  have c485 := (own_lt (own_lt ltb429 K447.1) K458.1)
  have ne486 : b429 ≠ r465 := own_ne c485 f0_465
  have sf487 : Safe Z own_EL _ _ r465 := Safe.new (EL := own_EL) (Z := Z) (vm := T429.vm) f0_465
  have n0_488 : n0 ≤ t465 := Nat.le_trans c464 f1_465
  have sz0_489 := Nat.le_trans c467.1 f1_465
  have ne490 : a ≠ t465 := own_ne c469 f1_465
  have ne491 : f ≠ t465 := own_ne c471 f1_465
  have ne492 : t ≠ t465 := own_ne c473 f1_465
  have ne493 : f2 ≠ t465 := own_ne c475 f1_465
  have ne494 : t2 ≠ t465 := own_ne c477 f1_465
  have ne495 : b381 ≠ t465 := own_ne c479 f1_465
  have ne496 : u396 ≠ t465 := own_ne c481 f1_465
  have ne497 : a429 ≠ t465 := own_ne c483 f1_465
  have ne498 : b429 ≠ t465 := own_ne c485 f1_465
  have sf499 : Safe Z own_EL _ _ t465 := Safe.new (EL := own_EL) (Z := Z) (vm := T429.vm) f1_465
  have CH500 := CH459.trans (CHr.keep K465 sf0 CH459.1)
  have lt501 := f2_465.lt
  have lt502 := f5_465.lt
  have N503 := Fr.app N462 N465q
  show own_Fin p e below _ T465 (mkF m 29 #[.val (.ref a)] [(.ref r465)])
  have c504 := (c467.trans K465 all0)
  have c505 := (Nat.le_trans (Nat.le_trans (Nat.le_trans hk429 K447.1) K458.1) K465.1)
  exact own_retAW X465 hx hZ (own_hEL hw) hS c505 CH500 Bd.returns rfl rfl (hb hby d6_29) hlk ⟨r465, t465, kb465, rfl, N503, c504, sz0_468, sz0_489, f2_465, f3_465, f4_465, f5_465⟩ (by first | decide | (dsimp only; omega)) (by first | decide | (dsimp only; omega))
theorem d34_0 : decode method_3_code 0 = .ok (.iload_n 0, 1) := by decide +kernel
theorem d34_1 : decode method_3_code 1 = .ok (.iload_n 1, 1) := by decide +kernel
theorem d34_2 : decode method_3_code 2 = .ok (.if_icmp .ge 13, 3) := by decide +kernel
theorem d34_5 : decode method_3_code 5 = .ok (.iload_n 0, 1) := by decide +kernel
theorem d34_6 : decode method_3_code 6 = .ok (.ifCond .ne 7, 3) := by decide +kernel
theorem d34_9 : decode method_3_code 9 = .ok (.iload_n 2, 1) := by decide +kernel
theorem d34_10 : decode method_3_code 10 = .ok (.goto 4, 3) := by decide +kernel
theorem d34_13 : decode method_3_code 13 = .ok (.iload_n 3, 1) := by decide +kernel
theorem d34_14 : decode method_3_code 14 = .ok (.ireturn, 1) := by decide +kernel
theorem d34_15 : decode method_3_code 15 = .ok (.iload_n 0, 1) := by decide +kernel
theorem d34_16 : decode method_3_code 16 = .ok (.iload_n 1, 1) := by decide +kernel
theorem d34_17 : decode method_3_code 17 = .ok (.if_icmp .ne 6, 3) := by decide +kernel
theorem d34_20 : decode method_3_code 20 = .ok (.bipush 58, 2) := by decide +kernel
theorem d34_22 : decode method_3_code 22 = .ok (.ireturn, 1) := by decide +kernel
theorem d34_23 : decode method_3_code 23 = .ok (.iload_n 0, 1) := by decide +kernel
theorem d34_24 : decode method_3_code 24 = .ok (.iload_n 1, 1) := by decide +kernel
theorem d34_25 : decode method_3_code 25 = .ok (.iconst 1, 1) := by decide +kernel
theorem d34_26 : decode method_3_code 26 = .ok (.iadd, 1) := by decide +kernel
theorem d34_27 : decode method_3_code 27 = .ok (.if_icmp .ne 6, 3) := by decide +kernel
theorem d34_30 : decode method_3_code 30 = .ok (.bipush 32, 2) := by decide +kernel
theorem d34_32 : decode method_3_code 32 = .ok (.ireturn, 1) := by decide +kernel
theorem d34_33 : decode method_3_code 33 = .ok (.iload_n 0, 1) := by decide +kernel
theorem d34_34 : decode method_3_code 34 = .ok (.iload_n 1, 1) := by decide +kernel
theorem d34_35 : decode method_3_code 35 = .ok (.isub, 1) := by decide +kernel
theorem d34_36 : decode method_3_code 36 = .ok (.iconst 2, 1) := by decide +kernel
theorem d34_37 : decode method_3_code 37 = .ok (.isub, 1) := by decide +kernel
theorem d34_38 : decode method_3_code 38 = .ok (.istore 6, 2) := by decide +kernel
theorem d34_40 : decode method_3_code 40 = .ok (.iload 6, 2) := by decide +kernel
theorem d34_42 : decode method_3_code 42 = .ok (.ifCond .ne 8, 3) := by decide +kernel
theorem d34_45 : decode method_3_code 45 = .ok (.iload 4, 2) := by decide +kernel
theorem d34_47 : decode method_3_code 47 = .ok (.goto 5, 3) := by decide +kernel
theorem d34_50 : decode method_3_code 50 = .ok (.iload 5, 2) := by decide +kernel
theorem d34_52 : decode method_3_code 52 = .ok (.ireturn, 1) := by decide +kernel
def Q_own_at (Z : State) (i : Int32) (k : Int32) (c0 : Int32) (c1 : Int32) (d0 : Int32) (d1 : Int32) (h0 : Heap) (n0 : Nat) (v : Option Value) (h : Heap) (L : List Loc) : Prop := v = some (.int (own_atv i k c0 c1 d0 d1)) ∧ Fr n0 L ∧ h = h0
set_option maxRecDepth 65536 in
set_option maxHeartbeats 40000000 in
theorem own_at (l : Launch) (Z : State) (a0 : Array Value) (hw : ∀ d ∈ tables_1, d.before a0 Z = true) (ws : List Jvm.Cond) (i : Int32) (k : Int32) (c0 : Int32) (c1 : Int32) (d0 : Int32) (d1 : Int32) (h0 : Heap) (n0 : Nat) (Z0 : n0 ≤ h0.size)  :
    MetFree l (⟨"com/example/linewire/linewire/SchemaViolationToStringPinLaw", "at", "(IICCCC)C"⟩ : MethodName) (head1 (Jvm.Cond.code (⟨"com/example/linewire/linewire/SchemaViolationToStringPinLaw", "at", "(IICCCC)C"⟩ : MethodName) method_3_code 7 (some .char) :: ws) ({ frames := 0, cells := 0, slots := 0, locals := 0 } : Room)) (fun ag U => ag = #[(.int i), (.int k), (.int c0), (.int c1), (.int d0), (.int d1)] ∧ Z.Warmed39 U.vm ∧ U.heap = h0) (fun _ _ _ _ _ => True) (fun _ U o U' => ∃ v L, o = .returned v ∧ Q_own_at Z i k c0 c1 d0 d1 h0 n0 v U'.heap L ∧ FrameEnd U o U' L ({ frames := 0, cells := 0, slots := 0, locals := 0 } : Room).cells ({ frames := 0, cells := 0, slots := 0, locals := 0 } : Room).slots) := by
  refine own_body (plainFor_of_name pn_6) ?_
  intro p e s m below meth c s₁ Bd hml hZ e0
  have hx := Bd.exec
  have hby := Bd.bytes
  have hlk : meth.locks = false := BodyLoose.notSynchronized Bd
  have hown : s.vm.findClass "com/example/linewire/linewire/SchemaViolationToStringPinLaw" = some m.cls := findClass_of_methodNamed Bd.named
  have hnm := (name_of_methodNamed Bd.named Bd.method).1
  have X0 : Stand p l e ({ frames := 0, cells := 0, slots := 0, locals := 0 } : Room) s m #[(.int i), (.int k), (.int c0), (.int c1), (.int d0), (.int d1)] below meth c s₁ [] 0 0 := Stand.of_body Bd
  have N0 := Fr.nil n0
  have KP0 : Keep h0 h0 [] := Keep.refl h0 []
  refine own_cast (g' := (mkF m 0 #[.val (.int i), .val (.int k), .val (.int c0), .val (.int c1), .val (.int d0), .val (.int d1), .unset] [])) (by first | (simp [entryFrame, mkF, argsToLocals, own_cat_int, own_cat_long, own_cat_ref, own_cat_null]; done) | rfl) ?_
  refine own_step (T' := s₁) (g' := (mkF m 1 #[.val (.int i), .val (.int k), .val (.int c0), .val (.int c1), .val (.int d0), .val (.int d1), .unset] [(.int i)])) (fun _ q => XS.iloadN X0.here hx rfl (hb hby d34_0) rfl q) ?_
  refine own_step (T' := s₁) (g' := (mkF m 2 #[.val (.int i), .val (.int k), .val (.int c0), .val (.int c1), .val (.int d0), .val (.int d1), .unset] [(.int k), (.int i)])) (fun _ q => XS.iloadN X0.here hx rfl (hb hby d34_1) rfl q) ?_
  by_cases hc506 : i < k
  · refine own_step (T' := s₁) (g' := (mkF m 5 #[.val (.int i), .val (.int k), .val (.int c0), .val (.int c1), .val (.int d0), .val (.int d1), .unset] [])) (fun _ q => XS.icmpNo X0.here hx rfl (hb hby d34_2) rfl (XT.ii_ge_f hc506) q) ?_
    refine own_step (T' := s₁) (g' := (mkF m 6 #[.val (.int i), .val (.int k), .val (.int c0), .val (.int c1), .val (.int d0), .val (.int d1), .unset] [(.int i)])) (fun _ q => XS.iloadN X0.here hx rfl (hb hby d34_5) rfl q) ?_
    by_cases hc507 : i = 0
    · refine own_step (T' := s₁) (g' := (mkF m 9 #[.val (.int i), .val (.int k), .val (.int c0), .val (.int c1), .val (.int d0), .val (.int d1), .unset] [])) (fun _ q => XS.ifNo X0.here hx rfl (hb hby d34_6) rfl (XT.i0_ne_f hc507) q) ?_
      refine own_step (T' := s₁) (g' := (mkF m 10 #[.val (.int i), .val (.int k), .val (.int c0), .val (.int c1), .val (.int d0), .val (.int d1), .unset] [(.int c0)])) (fun _ q => XS.iloadN X0.here hx rfl (hb hby d34_9) rfl q) ?_
      refine own_step (T' := s₁) (g' := (mkF m 14 #[.val (.int i), .val (.int k), .val (.int c0), .val (.int c1), .val (.int d0), .val (.int d1), .unset] [(.int c0)])) (fun _ q => XS.goto X0.here hx rfl (pc0 := 10) (pc' := 14) rfl (hb hby d34_10) (by decide) (by decide) q) ?_
      exact own_retN X0 hx Bd.returns (by simp) (hb hby d34_14) hlk ⟨(by rw [own_atv, if_pos hc506, if_pos hc507]), N0, e0⟩ (by first | decide | (dsimp only; omega)) (by first | decide | (dsimp only; omega))
    · refine own_step (T' := s₁) (g' := (mkF m 13 #[.val (.int i), .val (.int k), .val (.int c0), .val (.int c1), .val (.int d0), .val (.int d1), .unset] [])) (fun _ q => XS.ifYes X0.here hx rfl (pc0 := 6) (pc' := 13) rfl (hb hby d34_6) rfl (XT.i0_ne_t hc507) (by decide) (by decide) q) ?_
      refine own_step (T' := s₁) (g' := (mkF m 14 #[.val (.int i), .val (.int k), .val (.int c0), .val (.int c1), .val (.int d0), .val (.int d1), .unset] [(.int c1)])) (fun _ q => XS.iloadN X0.here hx rfl (hb hby d34_13) rfl q) ?_
      exact own_retN X0 hx Bd.returns (by simp) (hb hby d34_14) hlk ⟨(by rw [own_atv, if_pos hc506, if_neg hc507]), N0, e0⟩ (by first | decide | (dsimp only; omega)) (by first | decide | (dsimp only; omega))
  · refine own_step (T' := s₁) (g' := (mkF m 15 #[.val (.int i), .val (.int k), .val (.int c0), .val (.int c1), .val (.int d0), .val (.int d1), .unset] [])) (fun _ q => XS.icmpYes X0.here hx rfl (pc0 := 2) (pc' := 15) rfl (hb hby d34_2) rfl (XT.ii_ge_t hc506) (by decide) (by decide) q) ?_
    refine own_step (T' := s₁) (g' := (mkF m 16 #[.val (.int i), .val (.int k), .val (.int c0), .val (.int c1), .val (.int d0), .val (.int d1), .unset] [(.int i)])) (fun _ q => XS.iloadN X0.here hx rfl (hb hby d34_15) rfl q) ?_
    refine own_step (T' := s₁) (g' := (mkF m 17 #[.val (.int i), .val (.int k), .val (.int c0), .val (.int c1), .val (.int d0), .val (.int d1), .unset] [(.int k), (.int i)])) (fun _ q => XS.iloadN X0.here hx rfl (hb hby d34_16) rfl q) ?_
    by_cases hc508 : i = k
    · refine own_step (T' := s₁) (g' := (mkF m 20 #[.val (.int i), .val (.int k), .val (.int c0), .val (.int c1), .val (.int d0), .val (.int d1), .unset] [])) (fun _ q => XS.icmpNo X0.here hx rfl (hb hby d34_17) rfl (XT.ii_ne_f hc508) q) ?_
      refine own_step (T' := s₁) (g' := (mkF m 22 #[.val (.int i), .val (.int k), .val (.int c0), .val (.int c1), .val (.int d0), .val (.int d1), .unset] [(.int (58 : Int32))])) (fun _ q => XS.bipush X0.here hx rfl (hb hby d34_20) q) ?_
      exact own_retN X0 hx Bd.returns (by simp) (hb hby d34_22) hlk ⟨(by rw [own_atv, if_neg hc506, if_pos hc508]), N0, e0⟩ (by first | decide | (dsimp only; omega)) (by first | decide | (dsimp only; omega))
    · refine own_step (T' := s₁) (g' := (mkF m 23 #[.val (.int i), .val (.int k), .val (.int c0), .val (.int c1), .val (.int d0), .val (.int d1), .unset] [])) (fun _ q => XS.icmpYes X0.here hx rfl (pc0 := 17) (pc' := 23) rfl (hb hby d34_17) rfl (XT.ii_ne_t hc508) (by decide) (by decide) q) ?_
      refine own_step (T' := s₁) (g' := (mkF m 24 #[.val (.int i), .val (.int k), .val (.int c0), .val (.int c1), .val (.int d0), .val (.int d1), .unset] [(.int i)])) (fun _ q => XS.iloadN X0.here hx rfl (hb hby d34_23) rfl q) ?_
      refine own_step (T' := s₁) (g' := (mkF m 25 #[.val (.int i), .val (.int k), .val (.int c0), .val (.int c1), .val (.int d0), .val (.int d1), .unset] [(.int k), (.int i)])) (fun _ q => XS.iloadN X0.here hx rfl (hb hby d34_24) rfl q) ?_
      refine own_step (T' := s₁) (g' := (mkF m 26 #[.val (.int i), .val (.int k), .val (.int c0), .val (.int c1), .val (.int d0), .val (.int d1), .unset] [(.int (1 : Int32)), (.int k), (.int i)])) (fun _ q => XS.iconst X0.here hx rfl (hb hby d34_25) q) ?_
      refine own_step (T' := s₁) (g' := (mkF m 27 #[.val (.int i), .val (.int k), .val (.int c0), .val (.int c1), .val (.int d0), .val (.int d1), .unset] [(.int (k + (1 : Int32))), (.int i)])) (fun _ q => XS.iadd X0.here hx rfl (hb hby d34_26) rfl q) ?_
      by_cases hc509 : i = (k + (1 : Int32))
      · refine own_step (T' := s₁) (g' := (mkF m 30 #[.val (.int i), .val (.int k), .val (.int c0), .val (.int c1), .val (.int d0), .val (.int d1), .unset] [])) (fun _ q => XS.icmpNo X0.here hx rfl (hb hby d34_27) rfl (XT.ii_ne_f hc509) q) ?_
        refine own_step (T' := s₁) (g' := (mkF m 32 #[.val (.int i), .val (.int k), .val (.int c0), .val (.int c1), .val (.int d0), .val (.int d1), .unset] [(.int (32 : Int32))])) (fun _ q => XS.bipush X0.here hx rfl (hb hby d34_30) q) ?_
        exact own_retN X0 hx Bd.returns (by simp) (hb hby d34_32) hlk ⟨(by rw [own_atv, if_neg hc506, if_neg hc508, if_pos hc509]), N0, e0⟩ (by first | decide | (dsimp only; omega)) (by first | decide | (dsimp only; omega))
      · refine own_step (T' := s₁) (g' := (mkF m 33 #[.val (.int i), .val (.int k), .val (.int c0), .val (.int c1), .val (.int d0), .val (.int d1), .unset] [])) (fun _ q => XS.icmpYes X0.here hx rfl (pc0 := 27) (pc' := 33) rfl (hb hby d34_27) rfl (XT.ii_ne_t hc509) (by decide) (by decide) q) ?_
        refine own_step (T' := s₁) (g' := (mkF m 34 #[.val (.int i), .val (.int k), .val (.int c0), .val (.int c1), .val (.int d0), .val (.int d1), .unset] [(.int i)])) (fun _ q => XS.iloadN X0.here hx rfl (hb hby d34_33) rfl q) ?_
        refine own_step (T' := s₁) (g' := (mkF m 35 #[.val (.int i), .val (.int k), .val (.int c0), .val (.int c1), .val (.int d0), .val (.int d1), .unset] [(.int k), (.int i)])) (fun _ q => XS.iloadN X0.here hx rfl (hb hby d34_34) rfl q) ?_
        refine own_step (T' := s₁) (g' := (mkF m 36 #[.val (.int i), .val (.int k), .val (.int c0), .val (.int c1), .val (.int d0), .val (.int d1), .unset] [(.int (i - k))])) (fun _ q => XS.isub X0.here hx rfl (hb hby d34_35) rfl q) ?_
        refine own_step (T' := s₁) (g' := (mkF m 37 #[.val (.int i), .val (.int k), .val (.int c0), .val (.int c1), .val (.int d0), .val (.int d1), .unset] [(.int (2 : Int32)), (.int (i - k))])) (fun _ q => XS.iconst X0.here hx rfl (hb hby d34_36) q) ?_
        refine own_step (T' := s₁) (g' := (mkF m 38 #[.val (.int i), .val (.int k), .val (.int c0), .val (.int c1), .val (.int d0), .val (.int d1), .unset] [(.int ((i - k) - (2 : Int32)))])) (fun _ q => XS.isub X0.here hx rfl (hb hby d34_37) rfl q) ?_
        refine own_step (T' := s₁) (g' := (mkF m 40 #[.val (.int i), .val (.int k), .val (.int c0), .val (.int c1), .val (.int d0), .val (.int d1), .val (.int ((i - k) - (2 : Int32)))] [])) (fun _ q => XS.istore X0.here hx rfl (hb hby d34_38) rfl (l' := #[.val (.int i), .val (.int k), .val (.int c0), .val (.int c1), .val (.int d0), .val (.int d1), .val (.int ((i - k) - (2 : Int32)))]) rfl q) ?_
        refine own_step (T' := s₁) (g' := (mkF m 42 #[.val (.int i), .val (.int k), .val (.int c0), .val (.int c1), .val (.int d0), .val (.int d1), .val (.int ((i - k) - (2 : Int32)))] [(.int ((i - k) - (2 : Int32)))])) (fun _ q => XS.iload X0.here hx rfl (hb hby d34_40) rfl q) ?_
        by_cases hc510 : ((i - k) - (2 : Int32)) = 0
        · refine own_step (T' := s₁) (g' := (mkF m 45 #[.val (.int i), .val (.int k), .val (.int c0), .val (.int c1), .val (.int d0), .val (.int d1), .val (.int ((i - k) - (2 : Int32)))] [])) (fun _ q => XS.ifNo X0.here hx rfl (hb hby d34_42) rfl (XT.i0_ne_f hc510) q) ?_
          refine own_step (T' := s₁) (g' := (mkF m 47 #[.val (.int i), .val (.int k), .val (.int c0), .val (.int c1), .val (.int d0), .val (.int d1), .val (.int ((i - k) - (2 : Int32)))] [(.int d0)])) (fun _ q => XS.iload X0.here hx rfl (hb hby d34_45) rfl q) ?_
          refine own_step (T' := s₁) (g' := (mkF m 52 #[.val (.int i), .val (.int k), .val (.int c0), .val (.int c1), .val (.int d0), .val (.int d1), .val (.int ((i - k) - (2 : Int32)))] [(.int d0)])) (fun _ q => XS.goto X0.here hx rfl (pc0 := 47) (pc' := 52) rfl (hb hby d34_47) (by decide) (by decide) q) ?_
          exact own_retN X0 hx Bd.returns (by simp) (hb hby d34_52) hlk ⟨(by rw [own_atv, if_neg hc506, if_neg hc508, if_neg hc509, if_pos hc510]), N0, e0⟩ (by first | decide | (dsimp only; omega)) (by first | decide | (dsimp only; omega))
        · refine own_step (T' := s₁) (g' := (mkF m 50 #[.val (.int i), .val (.int k), .val (.int c0), .val (.int c1), .val (.int d0), .val (.int d1), .val (.int ((i - k) - (2 : Int32)))] [])) (fun _ q => XS.ifYes X0.here hx rfl (pc0 := 42) (pc' := 50) rfl (hb hby d34_42) rfl (XT.i0_ne_t hc510) (by decide) (by decide) q) ?_
          refine own_step (T' := s₁) (g' := (mkF m 52 #[.val (.int i), .val (.int k), .val (.int c0), .val (.int c1), .val (.int d0), .val (.int d1), .val (.int ((i - k) - (2 : Int32)))] [(.int d1)])) (fun _ q => XS.iload X0.here hx rfl (hb hby d34_50) rfl q) ?_
          exact own_retN X0 hx Bd.returns (by simp) (hb hby d34_52) hlk ⟨(by rw [own_atv, if_neg hc506, if_neg hc508, if_neg hc509, if_neg hc510]), N0, e0⟩ (by first | decide | (dsimp only; omega)) (by first | decide | (dsimp only; omega))
theorem pd_25 : parseMethodDescriptor "(I)C" = some ⟨[.int], some .char⟩ := by decide +kernel
theorem pd_26 : parseMethodDescriptor "(IICCCC)C" = some ⟨[.int, .int, .char, .char, .char, .char], some .char⟩ := by decide +kernel
theorem d28_0 : decode method_4_code 0 = .ok (.iload_n 1, 1) := by decide +kernel
theorem d28_1 : decode method_4_code 1 = .ok (.iload_n 2, 1) := by decide +kernel
theorem d28_2 : decode method_4_code 2 = .ok (.if_icmp .ge 24, 3) := by decide +kernel
theorem d28_5 : decode method_4_code 5 = .ok (.aload_n 0, 1) := by decide +kernel
theorem d28_6 : decode method_4_code 6 = .ok (.iload_n 1, 1) := by decide +kernel
theorem d28_7 : decode method_4_code 7 = .ok (.invokevirtual 16, 3) := by decide +kernel
theorem d28_10 : decode method_4_code 10 = .ok (.iload_n 1, 1) := by decide +kernel
theorem d28_11 : decode method_4_code 11 = .ok (.iload_n 3, 1) := by decide +kernel
theorem d28_12 : decode method_4_code 12 = .ok (.iload 4, 2) := by decide +kernel
theorem d28_14 : decode method_4_code 14 = .ok (.iload 5, 2) := by decide +kernel
theorem d28_16 : decode method_4_code 16 = .ok (.iload 6, 2) := by decide +kernel
theorem d28_18 : decode method_4_code 18 = .ok (.iload 7, 2) := by decide +kernel
theorem d28_20 : decode method_4_code 20 = .ok (.invokestatic 20, 3) := by decide +kernel
theorem d28_23 : decode method_4_code 23 = .ok (.if_icmp .ne 7, 3) := by decide +kernel
theorem d28_26 : decode method_4_code 26 = .ok (.iconst 1, 1) := by decide +kernel
theorem d28_27 : decode method_4_code 27 = .ok (.goto 4, 3) := by decide +kernel
theorem d28_31 : decode method_4_code 31 = .ok (.ireturn, 1) := by decide +kernel
def Q_own_chk (Z : State) (G1 : Int32) (G3 : Value) (r : Addr) (t : Addr) (kb : ClassId) (cs : List Int32) (i : Nat) (nn : Int32) (k : Int32) (c0 : Int32) (c1 : Int32) (d0 : Int32) (d1 : Int32) (h0 : Heap) (n0 : Nat) (v : Option Value) (h : Heap) (L : List Loc) : Prop := v = some (.int (1 : Int32)) ∧ Fr n0 L ∧ h = h0
set_option maxRecDepth 65536 in
set_option maxHeartbeats 40000000 in
theorem own_chk (l : Launch) (Z : State) (a0 : Array Value) (hw : ∀ d ∈ tables_1, d.before a0 Z = true) (ws : List Jvm.Cond) (G1 : Int32) (G3 : Value) (r : Addr) (t : Addr) (kb : ClassId) (cs : List Int32) (i : Nat) (nn : Int32) (k : Int32) (c0 : Int32) (c1 : Int32) (d0 : Int32) (d1 : Int32) (h0 : Heap) (n0 : Nat) (Z0 : n0 ≤ h0.size) (O2 : Sta Z Z.heap "java/lang/String" "COMPACT_STRINGS" "Z" (.int G1)) (O4 : Sta Z Z.heap "jdk/internal/util/Preconditions" "SIOOBE_FORMATTER" "Ljava/util/function/BiFunction;" G3) (P5 : ¬ (G1 = (0 : Int32))) (rG3 : G3.isRef = true) (OLD0 : Old Z n0 h0) (E_r : Exa Z h0 r "java/lang/String") (F_value_r : Fld Z h0 r "java/lang/String" "value" "[B" (.ref t)) (F_coder_r : Fld Z h0 r "java/lang/String" "coder" "B" (.int (0 : Int32))) (V_t : Arv Z h0 t kb .byte (Int32.ofNat cs.length) (own_bs cs) (.int 0)) (hl : cs.length ≤ 400) (h255 : ∀ z ∈ cs, ¬ z < 0 ∧ ¬ (255 : Int32) < z) (hat : Int32.ofNat i < nn → i < cs.length ∧ cs.getD i 0 = own_atv (Int32.ofNat i) k c0 c1 d0 d1) :
    MetFree l (⟨"com/example/linewire/linewire/SchemaViolationToStringPinLaw", "check", "(Ljava/lang/String;IIICCCC)Z"⟩ : MethodName) (head1 (Jvm.Cond.code (⟨"com/example/linewire/linewire/SchemaViolationToStringPinLaw", "check", "(Ljava/lang/String;IIICCCC)Z"⟩ : MethodName) method_4_code 8 (some .boolean) :: ws) ({ frames := 4, cells := 0, slots := 0, locals := 53 } : Room)) (fun ag U => ag = #[(.ref r), (.int (Int32.ofNat i)), (.int nn), (.int k), (.int c0), (.int c1), (.int d0), (.int d1)] ∧ Z.Warmed39 U.vm ∧ U.heap = h0) (fun _ _ _ _ _ => True) (fun _ U o U' => ∃ v L, o = .returned v ∧ Q_own_chk Z G1 G3 r t kb cs i nn k c0 c1 d0 d1 h0 n0 v U'.heap L ∧ FrameEnd U o U' L ({ frames := 4, cells := 0, slots := 0, locals := 53 } : Room).cells ({ frames := 4, cells := 0, slots := 0, locals := 53 } : Room).slots) := by
  refine own_body (plainFor_of_name pn_6) ?_
  intro p e s m below meth c s₁ Bd hml hZ e0
  have hx := Bd.exec
  have hby := Bd.bytes
  have hlk : meth.locks = false := BodyLoose.notSynchronized Bd
  have hown : s.vm.findClass "com/example/linewire/linewire/SchemaViolationToStringPinLaw" = some m.cls := findClass_of_methodNamed Bd.named
  have hnm := (name_of_methodNamed Bd.named Bd.method).1
  have X0 : Stand p l e ({ frames := 4, cells := 0, slots := 0, locals := 53 } : Room) s m #[(.ref r), (.int (Int32.ofNat i)), (.int nn), (.int k), (.int c0), (.int c1), (.int d0), (.int d1)] below meth c s₁ [] 0 0 := Stand.of_body Bd
  have N0 := Fr.nil n0
  have KP0 : Keep h0 h0 [] := Keep.refl h0 []
  have lt_r := E_r.lt
  have lt_t := V_t.lt
  have ty_r_t : r ≠ t := (Exa.neArv E_r V_t (w8 hw))
  refine own_cast (g' := (mkF m 0 #[.val (.ref r), .val (.int (Int32.ofNat i)), .val (.int nn), .val (.int k), .val (.int c0), .val (.int c1), .val (.int d0), .val (.int d1)] [])) (by first | (simp [entryFrame, mkF, argsToLocals, own_cat_int, own_cat_long, own_cat_ref, own_cat_null]; done) | rfl) ?_
  refine own_step (T' := s₁) (g' := (mkF m 1 #[.val (.ref r), .val (.int (Int32.ofNat i)), .val (.int nn), .val (.int k), .val (.int c0), .val (.int c1), .val (.int d0), .val (.int d1)] [(.int (Int32.ofNat i))])) (fun _ q => XS.iloadN X0.here hx rfl (hb hby d28_0) rfl q) ?_
  refine own_step (T' := s₁) (g' := (mkF m 2 #[.val (.ref r), .val (.int (Int32.ofNat i)), .val (.int nn), .val (.int k), .val (.int c0), .val (.int c1), .val (.int d0), .val (.int d1)] [(.int nn), (.int (Int32.ofNat i))])) (fun _ q => XS.iloadN X0.here hx rfl (hb hby d28_1) rfl q) ?_
  by_cases hc511 : (Int32.ofNat i) < nn
  · refine own_step (T' := s₁) (g' := (mkF m 5 #[.val (.ref r), .val (.int (Int32.ofNat i)), .val (.int nn), .val (.int k), .val (.int c0), .val (.int c1), .val (.int d0), .val (.int d1)] [])) (fun _ q => XS.icmpNo X0.here hx rfl (hb hby d28_2) rfl (XT.ii_ge_f hc511) q) ?_
    refine own_step (T' := s₁) (g' := (mkF m 6 #[.val (.ref r), .val (.int (Int32.ofNat i)), .val (.int nn), .val (.int k), .val (.int c0), .val (.int c1), .val (.int d0), .val (.int d1)] [(.ref r)])) (fun _ q => XS.aloadN X0.here hx rfl (hb hby d28_5) rfl rfl q) ?_
    refine own_step (T' := s₁) (g' := (mkF m 7 #[.val (.ref r), .val (.int (Int32.ofNat i)), .val (.int nn), .val (.int k), .val (.int c0), .val (.int c1), .val (.int d0), .val (.int d1)] [(.int (Int32.ofNat i)), (.ref r)])) (fun _ q => XS.iloadN X0.here hx rfl (hb hby d28_6) rfl q) ?_
    refine own_callV (y := (⟨"java/lang/String", "charAt", "(I)C"⟩ : MethodName)) (z := (⟨"java/lang/String", "charAt", "(I)C"⟩ : MethodName)) X0 hx hZ hown (w158 hw) (w159 hw) (notFace_of_selects (args := #[]) (mvT hZ (w161 hw))) (w161 hw) (w160 hw) (by decide) (backOf (W := 0) (own_chL l Z a0 hw [] G1 G3 r t kb cs i h0 n0 Z0 O2 O4 P5 rG3 OLD0 E_r F_value_r F_coder_r V_t hl h255 ((hat hc511).1 : i < cs.length)) hZ (w162 hw) (w9 hw) (Nat.le_of_ble_eq_true rfl) (Nat.le_of_ble_eq_true rfl)) e0 E_r  (by first | decide | (dsimp only; omega)) (by first | decide | (dsimp only; omega)) (g := (mkF m 7 #[.val (.ref r), .val (.int (Int32.ofNat i)), .val (.int nn), .val (.int k), .val (.int c0), .val (.int c1), .val (.int d0), .val (.int d1)] [(.int (Int32.ofNat i)), (.ref r)])) (argsL := [(.int (Int32.ofNat i))]) (rest := []) rfl (by rw [hml]; rfl) (lenOf pd_25 rfl) rfl rfl (by show 2 * 0 + _ ≤ _; exact Nat.le_of_eq rfl) (hb hby d28_7) ?_
    rintro _ T512 L512 X512 ⟨rfl, N512q, e512⟩
    have N513 := Fr.app N0 N512q
    show own_Fin p e below _ T512 (mkF m 10 #[.val (.ref r), .val (.int (Int32.ofNat i)), .val (.int nn), .val (.int k), .val (.int c0), .val (.int c1), .val (.int d0), .val (.int d1)] [(.int (cs.getD i 0))])
    refine own_step (T' := T512) (g' := (mkF m 11 #[.val (.ref r), .val (.int (Int32.ofNat i)), .val (.int nn), .val (.int k), .val (.int c0), .val (.int c1), .val (.int d0), .val (.int d1)] [(.int (Int32.ofNat i)), (.int (cs.getD i 0))])) (fun _ q => XS.iloadN X512.here hx rfl (hb hby d28_10) rfl q) ?_
    refine own_step (T' := T512) (g' := (mkF m 12 #[.val (.ref r), .val (.int (Int32.ofNat i)), .val (.int nn), .val (.int k), .val (.int c0), .val (.int c1), .val (.int d0), .val (.int d1)] [(.int k), (.int (Int32.ofNat i)), (.int (cs.getD i 0))])) (fun _ q => XS.iloadN X512.here hx rfl (hb hby d28_11) rfl q) ?_
    refine own_step (T' := T512) (g' := (mkF m 14 #[.val (.ref r), .val (.int (Int32.ofNat i)), .val (.int nn), .val (.int k), .val (.int c0), .val (.int c1), .val (.int d0), .val (.int d1)] [(.int c0), (.int k), (.int (Int32.ofNat i)), (.int (cs.getD i 0))])) (fun _ q => XS.iload X512.here hx rfl (hb hby d28_12) rfl q) ?_
    refine own_step (T' := T512) (g' := (mkF m 16 #[.val (.ref r), .val (.int (Int32.ofNat i)), .val (.int nn), .val (.int k), .val (.int c0), .val (.int c1), .val (.int d0), .val (.int d1)] [(.int c1), (.int c0), (.int k), (.int (Int32.ofNat i)), (.int (cs.getD i 0))])) (fun _ q => XS.iload X512.here hx rfl (hb hby d28_14) rfl q) ?_
    refine own_step (T' := T512) (g' := (mkF m 18 #[.val (.ref r), .val (.int (Int32.ofNat i)), .val (.int nn), .val (.int k), .val (.int c0), .val (.int c1), .val (.int d0), .val (.int d1)] [(.int d0), (.int c1), (.int c0), (.int k), (.int (Int32.ofNat i)), (.int (cs.getD i 0))])) (fun _ q => XS.iload X512.here hx rfl (hb hby d28_16) rfl q) ?_
    refine own_step (T' := T512) (g' := (mkF m 20 #[.val (.ref r), .val (.int (Int32.ofNat i)), .val (.int nn), .val (.int k), .val (.int c0), .val (.int c1), .val (.int d0), .val (.int d1)] [(.int d1), (.int d0), (.int c1), (.int c0), (.int k), (.int (Int32.ofNat i)), (.int (cs.getD i 0))])) (fun _ q => XS.iload X512.here hx rfl (hb hby d28_18) rfl q) ?_
    refine own_callS X512 hx hZ hown (w180 hw) (w181 hw) (w5 hw) (w182 hw) (by decide) (backOf (W := 1) (own_at l Z a0 hw [] (Int32.ofNat i) k c0 c1 d0 d1 h0 n0 Z0 ) hZ (w182 hw) (w5 hw) (Nat.le_of_ble_eq_true rfl) (Nat.le_of_ble_eq_true rfl)) e512  (by first | decide | (dsimp only; omega)) (by first | decide | (dsimp only; omega)) (g := (mkF m 20 #[.val (.ref r), .val (.int (Int32.ofNat i)), .val (.int nn), .val (.int k), .val (.int c0), .val (.int c1), .val (.int d0), .val (.int d1)] [(.int d1), (.int d0), (.int c1), (.int c0), (.int k), (.int (Int32.ofNat i)), (.int (cs.getD i 0))])) (argsL := [(.int (Int32.ofNat i)), (.int k), (.int c0), (.int c1), (.int d0), (.int d1)]) (rest := [(.int (cs.getD i 0))]) rfl (by rw [hml]; rfl) (lenOf pd_26 rfl) rfl rfl (by show 2 * 0 + _ ≤ _; exact Nat.le_of_eq rfl) (hb hby d28_20) ?_
    rintro _ T514 L514 X514 ⟨rfl, N514q, e514⟩
    have N515 := Fr.app N513 N514q
    show own_Fin p e below _ T514 (mkF m 23 #[.val (.ref r), .val (.int (Int32.ofNat i)), .val (.int nn), .val (.int k), .val (.int c0), .val (.int c1), .val (.int d0), .val (.int d1)] [(.int (own_atv (Int32.ofNat i) k c0 c1 d0 d1)), (.int (cs.getD i 0))])
    have hc516 : ((cs.getD i 0) = (own_atv (Int32.ofNat i) k c0 c1 d0 d1)) := (hat hc511).2
    refine own_step (T' := T514) (g' := (mkF m 26 #[.val (.ref r), .val (.int (Int32.ofNat i)), .val (.int nn), .val (.int k), .val (.int c0), .val (.int c1), .val (.int d0), .val (.int d1)] [])) (fun _ q => XS.icmpNo X514.here hx rfl (hb hby d28_23) rfl (XT.ii_ne_f hc516) q) ?_
    refine own_step (T' := T514) (g' := (mkF m 27 #[.val (.ref r), .val (.int (Int32.ofNat i)), .val (.int nn), .val (.int k), .val (.int c0), .val (.int c1), .val (.int d0), .val (.int d1)] [(.int (1 : Int32))])) (fun _ q => XS.iconst X514.here hx rfl (hb hby d28_26) q) ?_
    refine own_step (T' := T514) (g' := (mkF m 31 #[.val (.ref r), .val (.int (Int32.ofNat i)), .val (.int nn), .val (.int k), .val (.int c0), .val (.int c1), .val (.int d0), .val (.int d1)] [(.int (1 : Int32))])) (fun _ q => XS.goto X514.here hx rfl (pc0 := 27) (pc' := 31) rfl (hb hby d28_27) (by decide) (by decide) q) ?_
    exact own_retN X514 hx Bd.returns (by simp) (hb hby d28_31) hlk ⟨rfl, N515, e514⟩ (by first | decide | (dsimp only; omega)) (by first | decide | (dsimp only; omega))
  · refine own_step (T' := s₁) (g' := (mkF m 26 #[.val (.ref r), .val (.int (Int32.ofNat i)), .val (.int nn), .val (.int k), .val (.int c0), .val (.int c1), .val (.int d0), .val (.int d1)] [])) (fun _ q => XS.icmpYes X0.here hx rfl (pc0 := 2) (pc' := 26) rfl (hb hby d28_2) rfl (XT.ii_ge_t hc511) (by decide) (by decide) q) ?_
    refine own_step (T' := s₁) (g' := (mkF m 27 #[.val (.ref r), .val (.int (Int32.ofNat i)), .val (.int nn), .val (.int k), .val (.int c0), .val (.int c1), .val (.int d0), .val (.int d1)] [(.int (1 : Int32))])) (fun _ q => XS.iconst X0.here hx rfl (hb hby d28_26) q) ?_
    refine own_step (T' := s₁) (g' := (mkF m 31 #[.val (.ref r), .val (.int (Int32.ofNat i)), .val (.int nn), .val (.int k), .val (.int c0), .val (.int c1), .val (.int d0), .val (.int d1)] [(.int (1 : Int32))])) (fun _ q => XS.goto X0.here hx rfl (pc0 := 27) (pc' := 31) rfl (hb hby d28_27) (by decide) (by decide) q) ?_
    exact own_retN X0 hx Bd.returns (by simp) (hb hby d28_31) hlk ⟨rfl, N0, e0⟩ (by first | decide | (dsimp only; omega)) (by first | decide | (dsimp only; omega))
theorem pd_27 : parseMethodDescriptor "(ICC)Ljava/lang/String;" = some ⟨[.int, .char, .char], some (.object "java/lang/String")⟩ := by decide +kernel
theorem pd_28 : parseMethodDescriptor "(Ljava/lang/String;Ljava/lang/String;)V" = some ⟨[(.object "java/lang/String"), (.object "java/lang/String")], none⟩ := by decide +kernel
theorem pd_29 : parseMethodDescriptor "(Ljava/lang/String;IIICCCC)Z" = some ⟨[(.object "java/lang/String"), .int, .int, .int, .char, .char, .char, .char], some .boolean⟩ := by decide +kernel
def Q_own_law (Z : State) (G1 : Int32) (G3 : Value) (p1 : Int32) (p2 : Int32) (h0 : Heap) (n0 : Nat) (v : Option Value) (h : Heap) (L : List Loc) : Prop := v = some (.int (1 : Int32)) ∧ Fr n0 L ∧ Keep h0 h []
set_option maxRecDepth 65536 in
set_option maxHeartbeats 40000000 in
theorem own_law (l : Launch) (Z : State) (a0 : Array Value) (hw : ∀ d ∈ tables_1, d.before a0 Z = true) (ws : List Jvm.Cond) (G1 : Int32) (G3 : Value) (p1 : Int32) (p2 : Int32) (h0 : Heap) (n0 : Nat) (Z0 : n0 ≤ h0.size) (O2 : Sta Z Z.heap "java/lang/String" "COMPACT_STRINGS" "Z" (.int G1)) (O4 : Sta Z Z.heap "jdk/internal/util/Preconditions" "SIOOBE_FORMATTER" "Ljava/util/function/BiFunction;" G3) (P5 : ¬ (G1 = (0 : Int32))) (rG3 : G3.isRef = true) (OLD0 : Old Z n0 h0) :
    MetFree l x (head1 (Jvm.Cond.code x code maxLocals ret :: ws) room_1) (fun ag U => ag = #[(.int p1), (.int p2)] ∧ Z.Warmed39 U.vm ∧ U.heap = h0 ∧ CHv Z own_EL U.vm h0) (fun _ _ _ _ _ => True) (fun _ U o U' => ∃ v L, o = .returned v ∧ Q_own_law Z G1 G3 p1 p2 h0 n0 v U'.heap L ∧ CHr Z own_EL U.vm U.heap U'.vm U'.heap ∧ ReturnedEndW U o U' L room_1.cells room_1.slots) := by
  refine own_bodyW (plainFor_of_name pn_6) ?_
  intro p e s m below meth c s₁ Bd hml hZ e0 hh0 CH0
  have hx := Bd.exec
  have hby := Bd.bytes
  have hlk : meth.locks = false := BodyLoose.notSynchronized Bd
  have hown : s.vm.findClass "com/example/linewire/linewire/SchemaViolationToStringPinLaw" = some m.cls := findClass_of_methodNamed Bd.named
  have hnm := (name_of_methodNamed Bd.named Bd.method).1
  have X0 : Stand p l e room_1 (s.setVm s.vm) m #[(.int p1), (.int p2)] below meth c s₁ [] 0 0 := Stand.of_body Bd
  have N0 := Fr.nil n0
  have hS := (State.WarmedH.refl s).since h0.size
  have hk0 : h0.size ≤ h0.size := Nat.le_refl _
  have KP0 : Keep h0 h0 [] := Keep.refl h0 []
  refine own_cast (g' := (mkF m 0 #[.val (.int p1), .val (.int p2), .unset, .unset, .unset, .unset, .unset, .unset, .unset, .unset] [])) (by first | (simp [entryFrame, mkF, argsToLocals, own_cat_int, own_cat_long, own_cat_ref, own_cat_null, maxLocals]; done) | rfl) ?_
  refine own_step (T' := s₁) (g' := (mkF m 1 #[.val (.int p1), .val (.int p2), .unset, .unset, .unset, .unset, .unset, .unset, .unset, .unset] [(.int p1)])) (fun _ q => XS.iloadN X0.here hx rfl (hb hby at_0) rfl q) ?_
  refine own_step (T' := s₁) (g' := (mkF m 4 #[.val (.int p1), .val (.int p2), .unset, .unset, .unset, .unset, .unset, .unset, .unset, .unset] [(.int (255 : Int32)), (.int p1)])) (fun _ q => XS.sipush X0.here hx rfl (hb hby at_1) q) ?_
  refine own_step (T' := s₁) (g' := (mkF m 5 #[.val (.int p1), .val (.int p2), .unset, .unset, .unset, .unset, .unset, .unset, .unset, .unset] [(.int (p1 &&& (255 : Int32)))])) (fun _ q => XS.iand X0.here hx rfl (hb hby at_4) rfl q) ?_
  refine own_step (T' := s₁) (g' := (mkF m 6 #[.val (.int p1), .val (.int p2), .unset, .unset, .unset, .unset, .unset, .unset, .unset, .unset] [(.int ((p1 &&& (255 : Int32)).toUInt32.toUInt16.toUInt32.toInt32))])) (fun _ q => XT.i2c X0.here hx rfl (hb hby at_5) rfl q) ?_
  obtain ⟨c0, ec0⟩ : ∃ z, z = ((p1 &&& (255 : Int32)).toUInt32.toUInt16.toUInt32.toInt32) := ⟨_, rfl⟩
  have hc0 := own_c255 p1
  rw [← ec0] at hc0
  rw [show ((p1 &&& (255 : Int32)).toUInt32.toUInt16.toUInt32.toInt32) = c0 from ec0.symm]
  refine own_step (T' := s₁) (g' := (mkF m 7 #[.val (.int p1), .val (.int p2), .val (.int c0), .unset, .unset, .unset, .unset, .unset, .unset, .unset] [])) (fun _ q => XS.istoreN X0.here hx rfl (hb hby at_6) rfl (l' := #[.val (.int p1), .val (.int p2), .val (.int c0), .unset, .unset, .unset, .unset, .unset, .unset, .unset]) rfl q) ?_
  refine own_step (T' := s₁) (g' := (mkF m 8 #[.val (.int p1), .val (.int p2), .val (.int c0), .unset, .unset, .unset, .unset, .unset, .unset, .unset] [(.int p1)])) (fun _ q => XS.iloadN X0.here hx rfl (hb hby at_7) rfl q) ?_
  refine own_step (T' := s₁) (g' := (mkF m 10 #[.val (.int p1), .val (.int p2), .val (.int c0), .unset, .unset, .unset, .unset, .unset, .unset, .unset] [(.int (8 : Int32)), (.int p1)])) (fun _ q => XS.bipush X0.here hx rfl (hb hby at_8) q) ?_
  refine own_step (T' := s₁) (g' := (mkF m 11 #[.val (.int p1), .val (.int p2), .val (.int c0), .unset, .unset, .unset, .unset, .unset, .unset, .unset] [(.int (XT.ushr p1 (8 : Int32)))])) (fun _ q => XT.iushr X0.here hx rfl (hb hby at_10) rfl q) ?_
  refine own_step (T' := s₁) (g' := (mkF m 14 #[.val (.int p1), .val (.int p2), .val (.int c0), .unset, .unset, .unset, .unset, .unset, .unset, .unset] [(.int (255 : Int32)), (.int (XT.ushr p1 (8 : Int32)))])) (fun _ q => XS.sipush X0.here hx rfl (hb hby at_11) q) ?_
  refine own_step (T' := s₁) (g' := (mkF m 15 #[.val (.int p1), .val (.int p2), .val (.int c0), .unset, .unset, .unset, .unset, .unset, .unset, .unset] [(.int ((XT.ushr p1 (8 : Int32)) &&& (255 : Int32)))])) (fun _ q => XS.iand X0.here hx rfl (hb hby at_14) rfl q) ?_
  refine own_step (T' := s₁) (g' := (mkF m 16 #[.val (.int p1), .val (.int p2), .val (.int c0), .unset, .unset, .unset, .unset, .unset, .unset, .unset] [(.int (((XT.ushr p1 (8 : Int32)) &&& (255 : Int32)).toUInt32.toUInt16.toUInt32.toInt32))])) (fun _ q => XT.i2c X0.here hx rfl (hb hby at_15) rfl q) ?_
  obtain ⟨c1, ec1⟩ : ∃ z, z = (((XT.ushr p1 (8 : Int32)) &&& (255 : Int32)).toUInt32.toUInt16.toUInt32.toInt32) := ⟨_, rfl⟩
  have hc1 := own_c255 (XT.ushr p1 (8 : Int32))
  rw [← ec1] at hc1
  rw [show (((XT.ushr p1 (8 : Int32)) &&& (255 : Int32)).toUInt32.toUInt16.toUInt32.toInt32) = c1 from ec1.symm]
  refine own_step (T' := s₁) (g' := (mkF m 17 #[.val (.int p1), .val (.int p2), .val (.int c0), .val (.int c1), .unset, .unset, .unset, .unset, .unset, .unset] [])) (fun _ q => XS.istoreN X0.here hx rfl (hb hby at_16) rfl (l' := #[.val (.int p1), .val (.int p2), .val (.int c0), .val (.int c1), .unset, .unset, .unset, .unset, .unset, .unset]) rfl q) ?_
  refine own_step (T' := s₁) (g' := (mkF m 18 #[.val (.int p1), .val (.int p2), .val (.int c0), .val (.int c1), .unset, .unset, .unset, .unset, .unset, .unset] [(.int p1)])) (fun _ q => XS.iloadN X0.here hx rfl (hb hby at_17) rfl q) ?_
  refine own_step (T' := s₁) (g' := (mkF m 20 #[.val (.int p1), .val (.int p2), .val (.int c0), .val (.int c1), .unset, .unset, .unset, .unset, .unset, .unset] [(.int (16 : Int32)), (.int p1)])) (fun _ q => XS.bipush X0.here hx rfl (hb hby at_18) q) ?_
  refine own_step (T' := s₁) (g' := (mkF m 21 #[.val (.int p1), .val (.int p2), .val (.int c0), .val (.int c1), .unset, .unset, .unset, .unset, .unset, .unset] [(.int (XT.ushr p1 (16 : Int32)))])) (fun _ q => XT.iushr X0.here hx rfl (hb hby at_20) rfl q) ?_
  refine own_step (T' := s₁) (g' := (mkF m 24 #[.val (.int p1), .val (.int p2), .val (.int c0), .val (.int c1), .unset, .unset, .unset, .unset, .unset, .unset] [(.int (255 : Int32)), (.int (XT.ushr p1 (16 : Int32)))])) (fun _ q => XS.sipush X0.here hx rfl (hb hby at_21) q) ?_
  refine own_step (T' := s₁) (g' := (mkF m 25 #[.val (.int p1), .val (.int p2), .val (.int c0), .val (.int c1), .unset, .unset, .unset, .unset, .unset, .unset] [(.int ((XT.ushr p1 (16 : Int32)) &&& (255 : Int32)))])) (fun _ q => XS.iand X0.here hx rfl (hb hby at_24) rfl q) ?_
  refine own_step (T' := s₁) (g' := (mkF m 26 #[.val (.int p1), .val (.int p2), .val (.int c0), .val (.int c1), .unset, .unset, .unset, .unset, .unset, .unset] [(.int (3 : Int32)), (.int ((XT.ushr p1 (16 : Int32)) &&& (255 : Int32)))])) (fun _ q => XS.iconst X0.here hx rfl (hb hby at_25) q) ?_
  refine own_step (T' := s₁) (g' := (mkF m 27 #[.val (.int p1), .val (.int p2), .val (.int c0), .val (.int c1), .unset, .unset, .unset, .unset, .unset, .unset] [(.int (((XT.ushr p1 (16 : Int32)) &&& (255 : Int32)) % (3 : Int32)))])) (fun _ q => iremM X0 hx rfl (hb hby at_26) rfl (by decide) q) ?_
  obtain ⟨k1, ek1⟩ : ∃ z, z = (((XT.ushr p1 (16 : Int32)) &&& (255 : Int32)) % (3 : Int32)) := ⟨_, rfl⟩
  have hk1 := own_rem3 (XT.ushr p1 (16 : Int32))
  rw [← ek1] at hk1
  rw [show (((XT.ushr p1 (16 : Int32)) &&& (255 : Int32)) % (3 : Int32)) = k1 from ek1.symm]
  refine own_step (T' := s₁) (g' := (mkF m 29 #[.val (.int p1), .val (.int p2), .val (.int c0), .val (.int c1), .val (.int k1), .unset, .unset, .unset, .unset, .unset] [])) (fun _ q => XS.istore X0.here hx rfl (hb hby at_27) rfl (l' := #[.val (.int p1), .val (.int p2), .val (.int c0), .val (.int c1), .val (.int k1), .unset, .unset, .unset, .unset, .unset]) rfl q) ?_
  refine own_step (T' := s₁) (g' := (mkF m 30 #[.val (.int p1), .val (.int p2), .val (.int c0), .val (.int c1), .val (.int k1), .unset, .unset, .unset, .unset, .unset] [(.int p2)])) (fun _ q => XS.iloadN X0.here hx rfl (hb hby at_29) rfl q) ?_
  refine own_step (T' := s₁) (g' := (mkF m 33 #[.val (.int p1), .val (.int p2), .val (.int c0), .val (.int c1), .val (.int k1), .unset, .unset, .unset, .unset, .unset] [(.int (255 : Int32)), (.int p2)])) (fun _ q => XS.sipush X0.here hx rfl (hb hby at_30) q) ?_
  refine own_step (T' := s₁) (g' := (mkF m 34 #[.val (.int p1), .val (.int p2), .val (.int c0), .val (.int c1), .val (.int k1), .unset, .unset, .unset, .unset, .unset] [(.int (p2 &&& (255 : Int32)))])) (fun _ q => XS.iand X0.here hx rfl (hb hby at_33) rfl q) ?_
  refine own_step (T' := s₁) (g' := (mkF m 35 #[.val (.int p1), .val (.int p2), .val (.int c0), .val (.int c1), .val (.int k1), .unset, .unset, .unset, .unset, .unset] [(.int ((p2 &&& (255 : Int32)).toUInt32.toUInt16.toUInt32.toInt32))])) (fun _ q => XT.i2c X0.here hx rfl (hb hby at_34) rfl q) ?_
  obtain ⟨d0, ed0⟩ : ∃ z, z = ((p2 &&& (255 : Int32)).toUInt32.toUInt16.toUInt32.toInt32) := ⟨_, rfl⟩
  have hd0 := own_c255 p2
  rw [← ed0] at hd0
  rw [show ((p2 &&& (255 : Int32)).toUInt32.toUInt16.toUInt32.toInt32) = d0 from ed0.symm]
  refine own_step (T' := s₁) (g' := (mkF m 37 #[.val (.int p1), .val (.int p2), .val (.int c0), .val (.int c1), .val (.int k1), .val (.int d0), .unset, .unset, .unset, .unset] [])) (fun _ q => XS.istore X0.here hx rfl (hb hby at_35) rfl (l' := #[.val (.int p1), .val (.int p2), .val (.int c0), .val (.int c1), .val (.int k1), .val (.int d0), .unset, .unset, .unset, .unset]) rfl q) ?_
  refine own_step (T' := s₁) (g' := (mkF m 38 #[.val (.int p1), .val (.int p2), .val (.int c0), .val (.int c1), .val (.int k1), .val (.int d0), .unset, .unset, .unset, .unset] [(.int p2)])) (fun _ q => XS.iloadN X0.here hx rfl (hb hby at_37) rfl q) ?_
  refine own_step (T' := s₁) (g' := (mkF m 40 #[.val (.int p1), .val (.int p2), .val (.int c0), .val (.int c1), .val (.int k1), .val (.int d0), .unset, .unset, .unset, .unset] [(.int (8 : Int32)), (.int p2)])) (fun _ q => XS.bipush X0.here hx rfl (hb hby at_38) q) ?_
  refine own_step (T' := s₁) (g' := (mkF m 41 #[.val (.int p1), .val (.int p2), .val (.int c0), .val (.int c1), .val (.int k1), .val (.int d0), .unset, .unset, .unset, .unset] [(.int (XT.ushr p2 (8 : Int32)))])) (fun _ q => XT.iushr X0.here hx rfl (hb hby at_40) rfl q) ?_
  refine own_step (T' := s₁) (g' := (mkF m 44 #[.val (.int p1), .val (.int p2), .val (.int c0), .val (.int c1), .val (.int k1), .val (.int d0), .unset, .unset, .unset, .unset] [(.int (255 : Int32)), (.int (XT.ushr p2 (8 : Int32)))])) (fun _ q => XS.sipush X0.here hx rfl (hb hby at_41) q) ?_
  refine own_step (T' := s₁) (g' := (mkF m 45 #[.val (.int p1), .val (.int p2), .val (.int c0), .val (.int c1), .val (.int k1), .val (.int d0), .unset, .unset, .unset, .unset] [(.int ((XT.ushr p2 (8 : Int32)) &&& (255 : Int32)))])) (fun _ q => XS.iand X0.here hx rfl (hb hby at_44) rfl q) ?_
  refine own_step (T' := s₁) (g' := (mkF m 46 #[.val (.int p1), .val (.int p2), .val (.int c0), .val (.int c1), .val (.int k1), .val (.int d0), .unset, .unset, .unset, .unset] [(.int (((XT.ushr p2 (8 : Int32)) &&& (255 : Int32)).toUInt32.toUInt16.toUInt32.toInt32))])) (fun _ q => XT.i2c X0.here hx rfl (hb hby at_45) rfl q) ?_
  obtain ⟨d1, ed1⟩ : ∃ z, z = (((XT.ushr p2 (8 : Int32)) &&& (255 : Int32)).toUInt32.toUInt16.toUInt32.toInt32) := ⟨_, rfl⟩
  have hd1 := own_c255 (XT.ushr p2 (8 : Int32))
  rw [← ed1] at hd1
  rw [show (((XT.ushr p2 (8 : Int32)) &&& (255 : Int32)).toUInt32.toUInt16.toUInt32.toInt32) = d1 from ed1.symm]
  refine own_step (T' := s₁) (g' := (mkF m 48 #[.val (.int p1), .val (.int p2), .val (.int c0), .val (.int c1), .val (.int k1), .val (.int d0), .val (.int d1), .unset, .unset, .unset] [])) (fun _ q => XS.istore X0.here hx rfl (hb hby at_46) rfl (l' := #[.val (.int p1), .val (.int p2), .val (.int c0), .val (.int c1), .val (.int k1), .val (.int d0), .val (.int d1), .unset, .unset, .unset]) rfl q) ?_
  refine own_step (T' := s₁) (g' := (mkF m 49 #[.val (.int p1), .val (.int p2), .val (.int c0), .val (.int c1), .val (.int k1), .val (.int d0), .val (.int d1), .unset, .unset, .unset] [(.int p2)])) (fun _ q => XS.iloadN X0.here hx rfl (hb hby at_48) rfl q) ?_
  refine own_step (T' := s₁) (g' := (mkF m 51 #[.val (.int p1), .val (.int p2), .val (.int c0), .val (.int c1), .val (.int k1), .val (.int d0), .val (.int d1), .unset, .unset, .unset] [(.int (16 : Int32)), (.int p2)])) (fun _ q => XS.bipush X0.here hx rfl (hb hby at_49) q) ?_
  refine own_step (T' := s₁) (g' := (mkF m 52 #[.val (.int p1), .val (.int p2), .val (.int c0), .val (.int c1), .val (.int k1), .val (.int d0), .val (.int d1), .unset, .unset, .unset] [(.int (XT.ushr p2 (16 : Int32)))])) (fun _ q => XT.iushr X0.here hx rfl (hb hby at_51) rfl q) ?_
  refine own_step (T' := s₁) (g' := (mkF m 55 #[.val (.int p1), .val (.int p2), .val (.int c0), .val (.int c1), .val (.int k1), .val (.int d0), .val (.int d1), .unset, .unset, .unset] [(.int (255 : Int32)), (.int (XT.ushr p2 (16 : Int32)))])) (fun _ q => XS.sipush X0.here hx rfl (hb hby at_52) q) ?_
  refine own_step (T' := s₁) (g' := (mkF m 56 #[.val (.int p1), .val (.int p2), .val (.int c0), .val (.int c1), .val (.int k1), .val (.int d0), .val (.int d1), .unset, .unset, .unset] [(.int ((XT.ushr p2 (16 : Int32)) &&& (255 : Int32)))])) (fun _ q => XS.iand X0.here hx rfl (hb hby at_55) rfl q) ?_
  refine own_step (T' := s₁) (g' := (mkF m 57 #[.val (.int p1), .val (.int p2), .val (.int c0), .val (.int c1), .val (.int k1), .val (.int d0), .val (.int d1), .unset, .unset, .unset] [(.int (3 : Int32)), (.int ((XT.ushr p2 (16 : Int32)) &&& (255 : Int32)))])) (fun _ q => XS.iconst X0.here hx rfl (hb hby at_56) q) ?_
  refine own_step (T' := s₁) (g' := (mkF m 58 #[.val (.int p1), .val (.int p2), .val (.int c0), .val (.int c1), .val (.int k1), .val (.int d0), .val (.int d1), .unset, .unset, .unset] [(.int (((XT.ushr p2 (16 : Int32)) &&& (255 : Int32)) % (3 : Int32)))])) (fun _ q => iremM X0 hx rfl (hb hby at_57) rfl (by decide) q) ?_
  obtain ⟨k2, ek2⟩ : ∃ z, z = (((XT.ushr p2 (16 : Int32)) &&& (255 : Int32)) % (3 : Int32)) := ⟨_, rfl⟩
  have hk2 := own_rem3 (XT.ushr p2 (16 : Int32))
  rw [← ek2] at hk2
  rw [show (((XT.ushr p2 (16 : Int32)) &&& (255 : Int32)) % (3 : Int32)) = k2 from ek2.symm]
  refine own_step (T' := s₁) (g' := (mkF m 60 #[.val (.int p1), .val (.int p2), .val (.int c0), .val (.int c1), .val (.int k1), .val (.int d0), .val (.int d1), .val (.int k2), .unset, .unset] [])) (fun _ q => XS.istore X0.here hx rfl (hb hby at_58) rfl (l' := #[.val (.int p1), .val (.int p2), .val (.int c0), .val (.int c1), .val (.int k1), .val (.int d0), .val (.int d1), .val (.int k2), .unset, .unset]) rfl q) ?_
  obtain ⟨T517, h517, X517, e517, E517, A517, D517, -, st517⟩ := newO X0 hx hZ hown (w0 hw) (w1 hw) (w2 hw) e0 (g := (mkF m 60 #[.val (.int p1), .val (.int p2), .val (.int c0), .val (.int c1), .val (.int k1), .val (.int d0), .val (.int d1), .val (.int k2), .unset, .unset] [])) rfl (hb hby at_60) (by first | decide | (show _ ≤ (40 : Nat); first | omega | (dsimp only; omega))) (by first | decide | (show _ ≤ (2240 : Nat); first | omega | (dsimp only; omega)))
  obtain ⟨b517, g517⟩ : ∃ z, z = h0.size := ⟨_, rfl⟩
  rw [← g517] at A517 D517 st517
  have n0_518 : n0 ≤ b517 := Nat.le_trans Z0 (Nat.le_of_eq g517.symm)
  have sz0_519 := Nat.le_trans KP0.1 (Nat.le_of_eq g517.symm)
  have sf520 : Safe Z own_EL _ _ b517 := Safe.new (EL := own_EL) (Z := Z) (vm := s.vm) (Nat.le_of_eq g517.symm)
  have CH521 := CH0.trans (CHr.ext E517 CH0.1)
  have ltb517 := A517.lt
  have F522 : Fld Z h517 b517 "com/example/linewire/linewire/SchemaViolation" "pointer" "Ljava/lang/String;" .null := D517 (Or.inr (w34 hw)) (ty := (.object "java/lang/String")) (by decide)
  have F523 : Fld Z h517 b517 "com/example/linewire/linewire/SchemaViolation" "reason" "Ljava/lang/String;" .null := D517 (Or.inr (w36 hw)) (ty := (.object "java/lang/String")) (by decide)
  refine own_step (T' := T517) (g' := (mkF m 63 #[.val (.int p1), .val (.int p2), .val (.int c0), .val (.int c1), .val (.int k1), .val (.int d0), .val (.int d1), .val (.int k2), .unset, .unset] [(.ref b517)])) st517 ?_
  refine own_step (T' := T517) (g' := (mkF m 64 #[.val (.int p1), .val (.int p2), .val (.int c0), .val (.int c1), .val (.int k1), .val (.int d0), .val (.int d1), .val (.int k2), .unset, .unset] [(.ref b517), (.ref b517)])) (fun _ q => XS.dup X517.here hx rfl (hb hby at_63) rfl rfl q) ?_
  refine own_step (T' := T517) (g' := (mkF m 66 #[.val (.int p1), .val (.int p2), .val (.int c0), .val (.int c1), .val (.int k1), .val (.int d0), .val (.int d1), .val (.int k2), .unset, .unset] [(.int k1), (.ref b517), (.ref b517)])) (fun _ q => XS.iload X517.here hx rfl (hb hby at_64) rfl q) ?_
  refine own_step (T' := T517) (g' := (mkF m 67 #[.val (.int p1), .val (.int p2), .val (.int c0), .val (.int c1), .val (.int k1), .val (.int d0), .val (.int d1), .val (.int k2), .unset, .unset] [(.int c0), (.int k1), (.ref b517), (.ref b517)])) (fun _ q => XS.iloadN X517.here hx rfl (hb hby at_66) rfl q) ?_
  refine own_step (T' := T517) (g' := (mkF m 68 #[.val (.int p1), .val (.int p2), .val (.int c0), .val (.int c1), .val (.int k1), .val (.int d0), .val (.int d1), .val (.int k2), .unset, .unset] [(.int c1), (.int c0), (.int k1), (.ref b517), (.ref b517)])) (fun _ q => XS.iloadN X517.here hx rfl (hb hby at_67) rfl q) ?_
  have c524 := (OLD0.ext E517)
  have c525 := (Nat.le_trans Z0 E517.1)
  have c527 := (Nat.le_trans hk0 E517.1)
  refine own_callSW X517 hx hZ hown hS c527 (w3 hw) (w4 hw) (w5 hw) (w6 hw) (by decide) (backOfSH (W := 2) (own_str l Z a0 hw [] G1 G3 k1 c0 c1 h517 n0 c525 O2 O4 P5 rG3 c524 (hc0 : ¬ c0 < 0 ∧ ¬ (255 : Int32) < c0) (hc1 : ¬ c1 < 0 ∧ ¬ (255 : Int32) < c1)) hZ (w6 hw) (w5 hw) (Nat.le_of_ble_eq_true rfl) (Nat.le_of_ble_eq_true rfl) (own_hEL hw) CH521.1) e517  (by first | decide | (show _ ≤ (40 : Nat); first | omega | (dsimp only; omega))) (by first | decide | (show _ ≤ (2240 : Nat); first | omega | (dsimp only; omega))) (g := (mkF m 68 #[.val (.int p1), .val (.int p2), .val (.int c0), .val (.int c1), .val (.int k1), .val (.int d0), .val (.int d1), .val (.int k2), .unset, .unset] [(.int c1), (.int c0), (.int k1), (.ref b517), (.ref b517)])) (argsL := [(.int k1), (.int c0), (.int c1)]) (rest := [(.ref b517), (.ref b517)]) rfl (by rw [hml]; rfl) (lenOf pd_27 rfl) rfl rfl (by show 2 * 0 + _ ≤ _; exact Nat.le_of_eq rfl) (hb hby at_68) ?_
  rintro _ T526 L526 X526 hS hZ hown C526 ⟨a526, t526, kb526, rfl, N526q, K526, f0_526, f1_526, f2_526, f3_526, f4_526⟩
  have n0_528 : n0 ≤ a526 := Nat.le_trans c525 f0_526
  have c529 := (KP0.ext E517)
  have sz0_530 := Nat.le_trans c529.1 f0_526
  have ne531 : b517 ≠ a526 := own_ne ltb517 f0_526
  have sf532 : Safe Z own_EL _ _ a526 := Safe.new (EL := own_EL) (Z := Z) (vm := s.vm) f0_526
  have CH533 := CH521.trans C526
  have lt534 := f1_526.lt
  have lt535 := f4_526.lt
  have c536 := (A517.keep K526)
  have ty537 : b517 ≠ t526 := (Exa.neArv c536 f4_526 (w1 hw))
  have ty538 : a526 ≠ t526 := (Exa.neArv f1_526 f4_526 (w8 hw))
  have N539 := Fr.app N0 N526q
  show own_Fin p e below _ T526 (mkF m 71 #[.val (.int p1), .val (.int p2), .val (.int c0), .val (.int c1), .val (.int k1), .val (.int d0), .val (.int d1), .val (.int k2), .unset, .unset] [(.ref a526), (.ref b517), (.ref b517)])
  refine own_step (T' := T526) (g' := (mkF m 73 #[.val (.int p1), .val (.int p2), .val (.int c0), .val (.int c1), .val (.int k1), .val (.int d0), .val (.int d1), .val (.int k2), .unset, .unset] [(.int k2), (.ref a526), (.ref b517), (.ref b517)])) (fun _ q => XS.iload X526.here hx rfl (hb hby at_71) rfl q) ?_
  refine own_step (T' := T526) (g' := (mkF m 75 #[.val (.int p1), .val (.int p2), .val (.int c0), .val (.int c1), .val (.int k1), .val (.int d0), .val (.int d1), .val (.int k2), .unset, .unset] [(.int d0), (.int k2), (.ref a526), (.ref b517), (.ref b517)])) (fun _ q => XS.iload X526.here hx rfl (hb hby at_73) rfl q) ?_
  refine own_step (T' := T526) (g' := (mkF m 77 #[.val (.int p1), .val (.int p2), .val (.int c0), .val (.int c1), .val (.int k1), .val (.int d0), .val (.int d1), .val (.int k2), .unset, .unset] [(.int d1), (.int d0), (.int k2), (.ref a526), (.ref b517), (.ref b517)])) (fun _ q => XS.iload X526.here hx rfl (hb hby at_75) rfl q) ?_
  have c540 := (c524.keep K526 all0)
  have c541 := (Nat.le_trans c525 K526.1)
  refine own_callSW X526 hx hZ hown hS (Nat.le_refl _) (w3 hw) (w4 hw) (w5 hw) (w6 hw) (by decide) (backOfSH (W := 3) (own_str l Z a0 hw [] G1 G3 k2 d0 d1 T526.heap n0 c541 O2 O4 P5 rG3 c540 (hd0 : ¬ d0 < 0 ∧ ¬ (255 : Int32) < d0) (hd1 : ¬ d1 < 0 ∧ ¬ (255 : Int32) < d1)) hZ (w6 hw) (w5 hw) (Nat.le_of_ble_eq_true rfl) (Nat.le_of_ble_eq_true rfl) (own_hEL hw) CH533.1) rfl  (by first | decide | (show _ ≤ (40 : Nat); first | omega | (dsimp only; omega))) (by first | decide | (show _ ≤ (2240 : Nat); first | omega | (dsimp only; omega))) (g := (mkF m 77 #[.val (.int p1), .val (.int p2), .val (.int c0), .val (.int c1), .val (.int k1), .val (.int d0), .val (.int d1), .val (.int k2), .unset, .unset] [(.int d1), (.int d0), (.int k2), (.ref a526), (.ref b517), (.ref b517)])) (argsL := [(.int k2), (.int d0), (.int d1)]) (rest := [(.ref a526), (.ref b517), (.ref b517)]) rfl (by rw [hml]; rfl) (lenOf pd_27 rfl) rfl rfl (by show 2 * 0 + _ ≤ _; exact Nat.le_of_eq rfl) (hb hby at_77) ?_
  rintro _ T542 L542 X542 hS hZ hown C542 ⟨a542, t542, kb542, rfl, N542q, K542, f0_542, f1_542, f2_542, f3_542, f4_542⟩
  have n0_543 : n0 ≤ a542 := Nat.le_trans c541 f0_542
  have c544 := (c529.trans K526 all0)
  have sz0_545 := Nat.le_trans c544.1 f0_542
  have c546 := (own_lt ltb517 K526.1)
  have ne547 : b517 ≠ a542 := own_ne c546 f0_542
  have ne548 : a526 ≠ a542 := own_ne lt534 f0_542
  have ne549 : t526 ≠ a542 := own_ne lt535 f0_542
  have sf550 : Safe Z own_EL _ _ a542 := Safe.new (EL := own_EL) (Z := Z) (vm := T526.vm) f0_542
  have CH551 := CH533.trans C542
  have lt552 := f1_542.lt
  have lt553 := f4_542.lt
  have c554 := (c536.keep K542)
  have ty555 : b517 ≠ t542 := (Exa.neArv c554 f4_542 (w1 hw))
  have c556 := (f1_526.keep K542)
  have ty557 : a526 ≠ t542 := (Exa.neArv c556 f4_542 (w8 hw))
  have ty558 : a542 ≠ t542 := (Exa.neArv f1_542 f4_542 (w8 hw))
  have N559 := Fr.app N539 N542q
  show own_Fin p e below _ T542 (mkF m 80 #[.val (.int p1), .val (.int p2), .val (.int c0), .val (.int c1), .val (.int k1), .val (.int d0), .val (.int d1), .val (.int k2), .unset, .unset] [(.ref a542), (.ref a526), (.ref b517), (.ref b517)])
  have c560 := ((F522.keep K526 nin0).keep K542 nin0)
  have c561 := ((F523.keep K526 nin0).keep K542 nin0)
  have c562 := (Nat.le_trans c541 K542.1)
  refine own_callC X542 hx hZ hown rfl (w29 hw) (w30 hw) (w31 hw) (by decide) (backOf (W := 1) (own_svi l Z a0 hw [] b517 a526 a542 T542.heap n0 c562 c554 n0_518 c560 c561) hZ (w31 hw) (w2 hw) (Nat.le_of_ble_eq_true rfl) (Nat.le_of_ble_eq_true rfl)) rfl  (by first | decide | (show _ ≤ (40 : Nat); first | omega | (dsimp only; omega))) (by first | decide | (show _ ≤ (2240 : Nat); first | omega | (dsimp only; omega))) (g := (mkF m 80 #[.val (.int p1), .val (.int p2), .val (.int c0), .val (.int c1), .val (.int k1), .val (.int d0), .val (.int d1), .val (.int k2), .unset, .unset] [(.ref a542), (.ref a526), (.ref b517), (.ref b517)])) (argsL := [(.ref a526), (.ref a542)]) (rest := [(.ref b517)]) rfl (by rw [hml]; rfl) (lenOf pd_28 rfl) rfl rfl (by show 2 * 0 + _ ≤ _; exact Nat.le_of_eq rfl) (hb hby at_80) ?_
  rintro _ T563 L563 X563 ⟨rfl, N563q, K563, f0_563, f1_563, f2_563⟩
  have c565 := (CHr.safe C542 (own_lt ltb517 K526.1) (CHr.safe C526 ltb517 (Safe.ext E517 CH0.1 sf520)))
  have CH564 := CH551.trans (CHr.keep K563 (sfS c565 sf0) CH551.1)
  have N566 := Fr.app N559 N563q
  show own_Fin p e below _ T563 (mkF m 83 #[.val (.int p1), .val (.int p2), .val (.int c0), .val (.int c1), .val (.int k1), .val (.int d0), .val (.int d1), .val (.int k2), .unset, .unset] [(.ref b517)])
  have c567 := ((c540.keep K542 all0).keep K563 (allS n0_518 all0))
  have c568 := (c556.keep K563)
  have c569 := ((f2_526.keep K542 nin0).keep K563 (ninS (Ne.symm ne531) nin0))
  have c570 := ((f3_526.keep K542 nin0).keep K563 (ninS (Ne.symm ne531) nin0))
  have c571 := ((f4_526.keep K542 nin0).keep K563 (ninS (Ne.symm ty537) nin0))
  have c572 := (f1_542.keep K563)
  have c573 := (f2_542.keep K563 (ninS (Ne.symm ne547) nin0))
  have c574 := (f3_542.keep K563 (ninS (Ne.symm ne547) nin0))
  have c575 := (f4_542.keep K563 (ninS (Ne.symm ty555) nin0))
  have c576 := (Nat.le_trans c562 K563.1)
  have c578 := (Nat.le_trans (Nat.le_refl _) K563.1)
  refine own_callVW (y := (⟨"com/example/linewire/linewire/SchemaViolation", "toString", "()Ljava/lang/String;"⟩ : MethodName)) (z := (⟨"com/example/linewire/linewire/SchemaViolation", "toString", "()Ljava/lang/String;"⟩ : MethodName)) X563 hx hZ hown hS c578 (w37 hw) (w38 hw) (notFace_of_selects (args := #[]) (mvT hZ (w40 hw))) (w40 hw) (w39 hw) (by decide) (backOfSH (W := 0) (own_svt l Z a0 hw [] G1 G3 b517 a526 t526 kb526 (own_bs (own_sl k1 c0 c1)) a542 t542 kb542 (own_bs (own_sl k2 d0 d1)) T563.heap n0 c576 O2 O4 P5 rG3 c567 f0_563 f1_563 f2_563 c568 c569 c570 c571 c572 c573 c574 c575 (by have h1 := own_sl_len k1 c0 c1; have h2 := own_sl_len k2 d0 d1; omega : (own_bs (own_sl k1 c0 c1)).length + 2 + (own_bs (own_sl k2 d0 d1)).length < 16)) hZ (w41 hw) (w2 hw) (Nat.le_of_ble_eq_true rfl) (Nat.le_of_ble_eq_true rfl) (own_hEL hw) CH564.1) rfl f0_563  (by first | decide | (show _ ≤ (40 : Nat); first | omega | (dsimp only; omega))) (by first | decide | (show _ ≤ (2240 : Nat); first | omega | (dsimp only; omega))) (g := (mkF m 83 #[.val (.int p1), .val (.int p2), .val (.int c0), .val (.int c1), .val (.int k1), .val (.int d0), .val (.int d1), .val (.int k2), .unset, .unset] [(.ref b517)])) (argsL := []) (rest := []) rfl (by rw [hml]; rfl) (lenOf pd_24 rfl) rfl rfl (by show 2 * 0 + _ ≤ _; exact Nat.le_of_eq rfl) (hb hby at_83) ?_
  rintro _ T577 L577 X577 hS hZ hown C577 ⟨r577, tr577, kr577, rfl, N577q, K577, f0_577, f1_577, f2_577, f3_577, f4_577, f5_577⟩
  have n0_579 : n0 ≤ r577 := Nat.le_trans c576 f0_577
  have c580 := ((c544.trans K542 all0).trans K563 (allS (Or.inr sz0_519) all0))
  have sz0_581 := Nat.le_trans c580.1 f0_577
  have c582 := (own_lt (own_lt c546 K542.1) K563.1)
  have ne583 : b517 ≠ r577 := own_ne c582 f0_577
  have c584 := (own_lt (own_lt lt534 K542.1) K563.1)
  have ne585 : a526 ≠ r577 := own_ne c584 f0_577
  have c586 := (own_lt (own_lt lt535 K542.1) K563.1)
  have ne587 : t526 ≠ r577 := own_ne c586 f0_577
  have c588 := (own_lt lt552 K563.1)
  have ne589 : a542 ≠ r577 := own_ne c588 f0_577
  have c590 := (own_lt lt553 K563.1)
  have ne591 : t542 ≠ r577 := own_ne c590 f0_577
  have sf592 : Safe Z own_EL _ _ r577 := Safe.new (EL := own_EL) (Z := Z) (vm := T542.vm) f0_577
  have n0_593 : n0 ≤ tr577 := Nat.le_trans c576 f1_577
  have sz0_594 := Nat.le_trans c580.1 f1_577
  have ne595 : b517 ≠ tr577 := own_ne c582 f1_577
  have ne596 : a526 ≠ tr577 := own_ne c584 f1_577
  have ne597 : t526 ≠ tr577 := own_ne c586 f1_577
  have ne598 : a542 ≠ tr577 := own_ne c588 f1_577
  have ne599 : t542 ≠ tr577 := own_ne c590 f1_577
  have sf600 : Safe Z own_EL _ _ tr577 := Safe.new (EL := own_EL) (Z := Z) (vm := T542.vm) f1_577
  have CH601 := CH564.trans C577
  have lt602 := f2_577.lt
  have lt603 := f5_577.lt
  have N604 := Fr.app N566 N577q
  show own_Fin p e below _ T577 (mkF m 86 #[.val (.int p1), .val (.int p2), .val (.int c0), .val (.int c1), .val (.int k1), .val (.int d0), .val (.int d1), .val (.int k2), .unset, .unset] [(.ref r577)])
  have qV605 : (((([] ++ (own_bs (own_sl k1 c0 c1))) ++ [Value.int (58 : Int32), Value.int (32 : Int32)]) ++ (own_bs (own_sl k2 d0 d1))) : List Value) = (own_bs (own_R (own_sl k1 c0 c1) (own_sl k2 d0 d1))) := (own_R_bs _ _)
  have V605 : Arv Z T577.heap tr577 kr577 .byte (Int32.ofNat ((([] ++ (own_bs (own_sl k1 c0 c1))) ++ [Value.int (58 : Int32), Value.int (32 : Int32)]) ++ (own_bs (own_sl k2 d0 d1))).length) (own_bs (own_R (own_sl k1 c0 c1) (own_sl k2 d0 d1))) (.int 0) := own_fixv qV605 f5_577
  have qV606 : ((Int32.ofNat ((([] ++ (own_bs (own_sl k1 c0 c1))) ++ [Value.int (58 : Int32), Value.int (32 : Int32)]) ++ (own_bs (own_sl k2 d0 d1))).length) : Int32) = (Int32.ofNat (own_R (own_sl k1 c0 c1) (own_sl k2 d0 d1)).length) := (by rw [own_R_bs, own_bs_len])
  have V606 : Arv Z T577.heap tr577 kr577 .byte (Int32.ofNat (own_R (own_sl k1 c0 c1) (own_sl k2 d0 d1)).length) (own_bs (own_R (own_sl k1 c0 c1) (own_sl k2 d0 d1))) (.int 0) := own_fixn qV606 V605
  refine own_step (T' := T577) (g' := (mkF m 88 #[.val (.int p1), .val (.int p2), .val (.int c0), .val (.int c1), .val (.int k1), .val (.int d0), .val (.int d1), .val (.int k2), .val (.ref r577), .unset] [])) (fun _ q => XS.astore X577.here hx rfl (hb hby at_86) rfl rfl (l' := #[.val (.int p1), .val (.int p2), .val (.int c0), .val (.int c1), .val (.int k1), .val (.int d0), .val (.int d1), .val (.int k2), .val (.ref r577), .unset]) rfl q) ?_
  refine own_step (T' := T577) (g' := (mkF m 90 #[.val (.int p1), .val (.int p2), .val (.int c0), .val (.int c1), .val (.int k1), .val (.int d0), .val (.int d1), .val (.int k2), .val (.ref r577), .unset] [(.int k1)])) (fun _ q => XS.iload X577.here hx rfl (hb hby at_88) rfl q) ?_
  refine own_step (T' := T577) (g' := (mkF m 91 #[.val (.int p1), .val (.int p2), .val (.int c0), .val (.int c1), .val (.int k1), .val (.int d0), .val (.int d1), .val (.int k2), .val (.ref r577), .unset] [(.int (2 : Int32)), (.int k1)])) (fun _ q => XS.iconst X577.here hx rfl (hb hby at_90) q) ?_
  refine own_step (T' := T577) (g' := (mkF m 92 #[.val (.int p1), .val (.int p2), .val (.int c0), .val (.int c1), .val (.int k1), .val (.int d0), .val (.int d1), .val (.int k2), .val (.ref r577), .unset] [(.int (k1 + (2 : Int32)))])) (fun _ q => XS.iadd X577.here hx rfl (hb hby at_91) rfl q) ?_
  refine own_step (T' := T577) (g' := (mkF m 94 #[.val (.int p1), .val (.int p2), .val (.int c0), .val (.int c1), .val (.int k1), .val (.int d0), .val (.int d1), .val (.int k2), .val (.ref r577), .unset] [(.int k2), (.int (k1 + (2 : Int32)))])) (fun _ q => XS.iload X577.here hx rfl (hb hby at_92) rfl q) ?_
  refine own_step (T' := T577) (g' := (mkF m 95 #[.val (.int p1), .val (.int p2), .val (.int c0), .val (.int c1), .val (.int k1), .val (.int d0), .val (.int d1), .val (.int k2), .val (.ref r577), .unset] [(.int ((k1 + (2 : Int32)) + k2))])) (fun _ q => XS.iadd X577.here hx rfl (hb hby at_94) rfl q) ?_
  refine own_step (T' := T577) (g' := (mkF m 97 #[.val (.int p1), .val (.int p2), .val (.int c0), .val (.int c1), .val (.int k1), .val (.int d0), .val (.int d1), .val (.int k2), .val (.ref r577), .val (.int ((k1 + (2 : Int32)) + k2))] [])) (fun _ q => XS.istore X577.here hx rfl (hb hby at_95) rfl (l' := #[.val (.int p1), .val (.int p2), .val (.int c0), .val (.int c1), .val (.int k1), .val (.int d0), .val (.int d1), .val (.int k2), .val (.ref r577), .val (.int ((k1 + (2 : Int32)) + k2))]) rfl q) ?_
  refine own_step (T' := T577) (g' := (mkF m 99 #[.val (.int p1), .val (.int p2), .val (.int c0), .val (.int c1), .val (.int k1), .val (.int d0), .val (.int d1), .val (.int k2), .val (.ref r577), .val (.int ((k1 + (2 : Int32)) + k2))] [(.ref r577)])) (fun _ q => XS.aload X577.here hx rfl (hb hby at_97) rfl rfl q) ?_
  refine own_step (T' := T577) (g' := (mkF m 102 #[.val (.int p1), .val (.int p2), .val (.int c0), .val (.int c1), .val (.int k1), .val (.int d0), .val (.int d1), .val (.int k2), .val (.ref r577), .val (.int ((k1 + (2 : Int32)) + k2))] [])) (fun _ q => XS.ifnullNo X577.here hx rfl (hb hby at_99) rfl q) ?_
  refine own_step (T' := T577) (g' := (mkF m 104 #[.val (.int p1), .val (.int p2), .val (.int c0), .val (.int c1), .val (.int k1), .val (.int d0), .val (.int d1), .val (.int k2), .val (.ref r577), .val (.int ((k1 + (2 : Int32)) + k2))] [(.ref r577)])) (fun _ q => XS.aload X577.here hx rfl (hb hby at_102) rfl rfl q) ?_
  have c607 := (c567.keep K577 all0)
  have c608 := (Nat.le_trans c576 K577.1)
  refine own_callV (y := (⟨"java/lang/String", "length", "()I"⟩ : MethodName)) (z := (⟨"java/lang/String", "length", "()I"⟩ : MethodName)) X577 hx hZ hown (w154 hw) (w71 hw) (notFace_of_selects (args := #[]) (mvT hZ (w73 hw))) (w73 hw) (w72 hw) (by decide) (backOf (W := 0) (own_len0 l Z a0 hw [] G1 G3 r577 tr577 kr577 (Int32.ofNat (own_R (own_sl k1 c0 c1) (own_sl k2 d0 d1)).length) (own_bs (own_R (own_sl k1 c0 c1) (own_sl k2 d0 d1))) T577.heap n0 c608 O2 O4 P5 rG3 c607 f2_577 f3_577 f4_577 V606) hZ (w74 hw) (w9 hw) (Nat.le_of_ble_eq_true rfl) (Nat.le_of_ble_eq_true rfl)) rfl f2_577  (by first | decide | (show _ ≤ (40 : Nat); first | omega | (dsimp only; omega))) (by first | decide | (show _ ≤ (2240 : Nat); first | omega | (dsimp only; omega))) (g := (mkF m 104 #[.val (.int p1), .val (.int p2), .val (.int c0), .val (.int c1), .val (.int k1), .val (.int d0), .val (.int d1), .val (.int k2), .val (.ref r577), .val (.int ((k1 + (2 : Int32)) + k2))] [(.ref r577)])) (argsL := []) (rest := []) rfl (by rw [hml]; rfl) (lenOf pd_12 rfl) rfl rfl (by show 2 * 0 + _ ≤ _; exact Nat.le_of_eq rfl) (hb hby at_104) ?_
  rintro _ T609 L609 X609 ⟨rfl, N609q, e609⟩
  have N610 := Fr.app N604 N609q
  show own_Fin p e below _ T609 (mkF m 107 #[.val (.int p1), .val (.int p2), .val (.int c0), .val (.int c1), .val (.int k1), .val (.int d0), .val (.int d1), .val (.int k2), .val (.ref r577), .val (.int ((k1 + (2 : Int32)) + k2))] [(.int (Int32.ofNat (own_R (own_sl k1 c0 c1) (own_sl k2 d0 d1)).length))])
  refine own_step (T' := T609) (g' := (mkF m 109 #[.val (.int p1), .val (.int p2), .val (.int c0), .val (.int c1), .val (.int k1), .val (.int d0), .val (.int d1), .val (.int k2), .val (.ref r577), .val (.int ((k1 + (2 : Int32)) + k2))] [(.int ((k1 + (2 : Int32)) + k2)), (.int (Int32.ofNat (own_R (own_sl k1 c0 c1) (own_sl k2 d0 d1)).length))])) (fun _ q => XS.iload X609.here hx rfl (hb hby at_107) rfl q) ?_
  have hc611 : ((Int32.ofNat (own_R (own_sl k1 c0 c1) (own_sl k2 d0 d1)).length) = ((k1 + (2 : Int32)) + k2)) := own_R_len _ _ _ _ hk1 hk2
  refine own_step (T' := T609) (g' := (mkF m 114 #[.val (.int p1), .val (.int p2), .val (.int c0), .val (.int c1), .val (.int k1), .val (.int d0), .val (.int d1), .val (.int k2), .val (.ref r577), .val (.int ((k1 + (2 : Int32)) + k2))] [])) (fun _ q => XS.icmpYes X609.here hx rfl (pc0 := 109) (pc' := 114) rfl (hb hby at_109) rfl (XT.ii_eq_t hc611) (by decide) (by decide) q) ?_
  refine own_step (T' := T609) (g' := (mkF m 116 #[.val (.int p1), .val (.int p2), .val (.int c0), .val (.int c1), .val (.int k1), .val (.int d0), .val (.int d1), .val (.int k2), .val (.ref r577), .val (.int ((k1 + (2 : Int32)) + k2))] [(.ref r577)])) (fun _ q => XS.aload X609.here hx rfl (hb hby at_114) rfl rfl q) ?_
  refine own_step (T' := T609) (g' := (mkF m 117 #[.val (.int p1), .val (.int p2), .val (.int c0), .val (.int c1), .val (.int k1), .val (.int d0), .val (.int d1), .val (.int k2), .val (.ref r577), .val (.int ((k1 + (2 : Int32)) + k2))] [(.int (0 : Int32)), (.ref r577)])) (fun _ q => XS.iconst X609.here hx rfl (hb hby at_116) q) ?_
  refine own_step (T' := T609) (g' := (mkF m 119 #[.val (.int p1), .val (.int p2), .val (.int c0), .val (.int c1), .val (.int k1), .val (.int d0), .val (.int d1), .val (.int k2), .val (.ref r577), .val (.int ((k1 + (2 : Int32)) + k2))] [(.int ((k1 + (2 : Int32)) + k2)), (.int (0 : Int32)), (.ref r577)])) (fun _ q => XS.iload X609.here hx rfl (hb hby at_117) rfl q) ?_
  refine own_step (T' := T609) (g' := (mkF m 121 #[.val (.int p1), .val (.int p2), .val (.int c0), .val (.int c1), .val (.int k1), .val (.int d0), .val (.int d1), .val (.int k2), .val (.ref r577), .val (.int ((k1 + (2 : Int32)) + k2))] [(.int k1), (.int ((k1 + (2 : Int32)) + k2)), (.int (0 : Int32)), (.ref r577)])) (fun _ q => XS.iload X609.here hx rfl (hb hby at_119) rfl q) ?_
  refine own_step (T' := T609) (g' := (mkF m 122 #[.val (.int p1), .val (.int p2), .val (.int c0), .val (.int c1), .val (.int k1), .val (.int d0), .val (.int d1), .val (.int k2), .val (.ref r577), .val (.int ((k1 + (2 : Int32)) + k2))] [(.int c0), (.int k1), (.int ((k1 + (2 : Int32)) + k2)), (.int (0 : Int32)), (.ref r577)])) (fun _ q => XS.iloadN X609.here hx rfl (hb hby at_121) rfl q) ?_
  refine own_step (T' := T609) (g' := (mkF m 123 #[.val (.int p1), .val (.int p2), .val (.int c0), .val (.int c1), .val (.int k1), .val (.int d0), .val (.int d1), .val (.int k2), .val (.ref r577), .val (.int ((k1 + (2 : Int32)) + k2))] [(.int c1), (.int c0), (.int k1), (.int ((k1 + (2 : Int32)) + k2)), (.int (0 : Int32)), (.ref r577)])) (fun _ q => XS.iloadN X609.here hx rfl (hb hby at_122) rfl q) ?_
  refine own_step (T' := T609) (g' := (mkF m 125 #[.val (.int p1), .val (.int p2), .val (.int c0), .val (.int c1), .val (.int k1), .val (.int d0), .val (.int d1), .val (.int k2), .val (.ref r577), .val (.int ((k1 + (2 : Int32)) + k2))] [(.int d0), (.int c1), (.int c0), (.int k1), (.int ((k1 + (2 : Int32)) + k2)), (.int (0 : Int32)), (.ref r577)])) (fun _ q => XS.iload X609.here hx rfl (hb hby at_123) rfl q) ?_
  refine own_step (T' := T609) (g' := (mkF m 127 #[.val (.int p1), .val (.int p2), .val (.int c0), .val (.int c1), .val (.int k1), .val (.int d0), .val (.int d1), .val (.int k2), .val (.ref r577), .val (.int ((k1 + (2 : Int32)) + k2))] [(.int d1), (.int d0), (.int c1), (.int c0), (.int k1), (.int ((k1 + (2 : Int32)) + k2)), (.int (0 : Int32)), (.ref r577)])) (fun _ q => XS.iload X609.here hx rfl (hb hby at_125) rfl q) ?_
  refine own_callS X609 hx hZ hown (w155 hw) (w156 hw) (w5 hw) (w157 hw) (by decide) (backOf (W := 0) (own_chk l Z a0 hw [] G1 G3 r577 tr577 kr577 (own_R (own_sl k1 c0 c1) (own_sl k2 d0 d1)) 0 ((k1 + (2 : Int32)) + k2) k1 c0 c1 d0 d1 T577.heap n0 c608 O2 O4 P5 rG3 c607 f2_577 f3_577 f4_577 V606 (own_R_small : (own_R (own_sl k1 c0 c1) (own_sl k2 d0 d1)).length ≤ 400) (own_R_all hc0 hc1 hd0 hd1 : ∀ z ∈ (own_R (own_sl k1 c0 c1) (own_sl k2 d0 d1)), ¬ z < 0 ∧ ¬ (255 : Int32) < z) (own_R_at hk1 hk2 hc0 hc1 hd0 hd1 0 (by decide) : Int32.ofNat 0 < ((k1 + (2 : Int32)) + k2) → 0 < (own_R (own_sl k1 c0 c1) (own_sl k2 d0 d1)).length ∧ (own_R (own_sl k1 c0 c1) (own_sl k2 d0 d1)).getD 0 0 = own_atv (Int32.ofNat 0) k1 c0 c1 d0 d1)) hZ (w157 hw) (w5 hw) (Nat.le_of_ble_eq_true rfl) (Nat.le_of_ble_eq_true rfl)) e609  (by first | decide | (show _ ≤ (40 : Nat); first | omega | (dsimp only; omega))) (by first | decide | (show _ ≤ (2240 : Nat); first | omega | (dsimp only; omega))) (g := (mkF m 127 #[.val (.int p1), .val (.int p2), .val (.int c0), .val (.int c1), .val (.int k1), .val (.int d0), .val (.int d1), .val (.int k2), .val (.ref r577), .val (.int ((k1 + (2 : Int32)) + k2))] [(.int d1), (.int d0), (.int c1), (.int c0), (.int k1), (.int ((k1 + (2 : Int32)) + k2)), (.int (0 : Int32)), (.ref r577)])) (argsL := [(.ref r577), (.int (0 : Int32)), (.int ((k1 + (2 : Int32)) + k2)), (.int k1), (.int c0), (.int c1), (.int d0), (.int d1)]) (rest := []) rfl (by rw [hml]; rfl) (lenOf pd_29 rfl) rfl rfl (by show 2 * 0 + _ ≤ _; exact Nat.le_of_eq rfl) (hb hby at_127) ?_
  rintro _ T612 L612 X612 ⟨rfl, N612q, e612⟩
  have N613 := Fr.app N610 N612q
  show own_Fin p e below _ T612 (mkF m 130 #[.val (.int p1), .val (.int p2), .val (.int c0), .val (.int c1), .val (.int k1), .val (.int d0), .val (.int d1), .val (.int k2), .val (.ref r577), .val (.int ((k1 + (2 : Int32)) + k2))] [(.int (1 : Int32))])
  refine own_step (T' := T612) (g' := (mkF m 133 #[.val (.int p1), .val (.int p2), .val (.int c0), .val (.int c1), .val (.int k1), .val (.int d0), .val (.int d1), .val (.int k2), .val (.ref r577), .val (.int ((k1 + (2 : Int32)) + k2))] [])) (fun _ q => XS.ifNo X612.here hx rfl (hb hby at_130) rfl (by decide) q) ?_
  refine own_step (T' := T612) (g' := (mkF m 135 #[.val (.int p1), .val (.int p2), .val (.int c0), .val (.int c1), .val (.int k1), .val (.int d0), .val (.int d1), .val (.int k2), .val (.ref r577), .val (.int ((k1 + (2 : Int32)) + k2))] [(.ref r577)])) (fun _ q => XS.aload X612.here hx rfl (hb hby at_133) rfl rfl q) ?_
  refine own_step (T' := T612) (g' := (mkF m 136 #[.val (.int p1), .val (.int p2), .val (.int c0), .val (.int c1), .val (.int k1), .val (.int d0), .val (.int d1), .val (.int k2), .val (.ref r577), .val (.int ((k1 + (2 : Int32)) + k2))] [(.int (1 : Int32)), (.ref r577)])) (fun _ q => XS.iconst X612.here hx rfl (hb hby at_135) q) ?_
  refine own_step (T' := T612) (g' := (mkF m 138 #[.val (.int p1), .val (.int p2), .val (.int c0), .val (.int c1), .val (.int k1), .val (.int d0), .val (.int d1), .val (.int k2), .val (.ref r577), .val (.int ((k1 + (2 : Int32)) + k2))] [(.int ((k1 + (2 : Int32)) + k2)), (.int (1 : Int32)), (.ref r577)])) (fun _ q => XS.iload X612.here hx rfl (hb hby at_136) rfl q) ?_
  refine own_step (T' := T612) (g' := (mkF m 140 #[.val (.int p1), .val (.int p2), .val (.int c0), .val (.int c1), .val (.int k1), .val (.int d0), .val (.int d1), .val (.int k2), .val (.ref r577), .val (.int ((k1 + (2 : Int32)) + k2))] [(.int k1), (.int ((k1 + (2 : Int32)) + k2)), (.int (1 : Int32)), (.ref r577)])) (fun _ q => XS.iload X612.here hx rfl (hb hby at_138) rfl q) ?_
  refine own_step (T' := T612) (g' := (mkF m 141 #[.val (.int p1), .val (.int p2), .val (.int c0), .val (.int c1), .val (.int k1), .val (.int d0), .val (.int d1), .val (.int k2), .val (.ref r577), .val (.int ((k1 + (2 : Int32)) + k2))] [(.int c0), (.int k1), (.int ((k1 + (2 : Int32)) + k2)), (.int (1 : Int32)), (.ref r577)])) (fun _ q => XS.iloadN X612.here hx rfl (hb hby at_140) rfl q) ?_
  refine own_step (T' := T612) (g' := (mkF m 142 #[.val (.int p1), .val (.int p2), .val (.int c0), .val (.int c1), .val (.int k1), .val (.int d0), .val (.int d1), .val (.int k2), .val (.ref r577), .val (.int ((k1 + (2 : Int32)) + k2))] [(.int c1), (.int c0), (.int k1), (.int ((k1 + (2 : Int32)) + k2)), (.int (1 : Int32)), (.ref r577)])) (fun _ q => XS.iloadN X612.here hx rfl (hb hby at_141) rfl q) ?_
  refine own_step (T' := T612) (g' := (mkF m 144 #[.val (.int p1), .val (.int p2), .val (.int c0), .val (.int c1), .val (.int k1), .val (.int d0), .val (.int d1), .val (.int k2), .val (.ref r577), .val (.int ((k1 + (2 : Int32)) + k2))] [(.int d0), (.int c1), (.int c0), (.int k1), (.int ((k1 + (2 : Int32)) + k2)), (.int (1 : Int32)), (.ref r577)])) (fun _ q => XS.iload X612.here hx rfl (hb hby at_142) rfl q) ?_
  refine own_step (T' := T612) (g' := (mkF m 146 #[.val (.int p1), .val (.int p2), .val (.int c0), .val (.int c1), .val (.int k1), .val (.int d0), .val (.int d1), .val (.int k2), .val (.ref r577), .val (.int ((k1 + (2 : Int32)) + k2))] [(.int d1), (.int d0), (.int c1), (.int c0), (.int k1), (.int ((k1 + (2 : Int32)) + k2)), (.int (1 : Int32)), (.ref r577)])) (fun _ q => XS.iload X612.here hx rfl (hb hby at_144) rfl q) ?_
  refine own_callS X612 hx hZ hown (w155 hw) (w156 hw) (w5 hw) (w157 hw) (by decide) (backOf (W := 0) (own_chk l Z a0 hw [] G1 G3 r577 tr577 kr577 (own_R (own_sl k1 c0 c1) (own_sl k2 d0 d1)) 1 ((k1 + (2 : Int32)) + k2) k1 c0 c1 d0 d1 T577.heap n0 c608 O2 O4 P5 rG3 c607 f2_577 f3_577 f4_577 V606 (own_R_small : (own_R (own_sl k1 c0 c1) (own_sl k2 d0 d1)).length ≤ 400) (own_R_all hc0 hc1 hd0 hd1 : ∀ z ∈ (own_R (own_sl k1 c0 c1) (own_sl k2 d0 d1)), ¬ z < 0 ∧ ¬ (255 : Int32) < z) (own_R_at hk1 hk2 hc0 hc1 hd0 hd1 1 (by decide) : Int32.ofNat 1 < ((k1 + (2 : Int32)) + k2) → 1 < (own_R (own_sl k1 c0 c1) (own_sl k2 d0 d1)).length ∧ (own_R (own_sl k1 c0 c1) (own_sl k2 d0 d1)).getD 1 0 = own_atv (Int32.ofNat 1) k1 c0 c1 d0 d1)) hZ (w157 hw) (w5 hw) (Nat.le_of_ble_eq_true rfl) (Nat.le_of_ble_eq_true rfl)) e612  (by first | decide | (show _ ≤ (40 : Nat); first | omega | (dsimp only; omega))) (by first | decide | (show _ ≤ (2240 : Nat); first | omega | (dsimp only; omega))) (g := (mkF m 146 #[.val (.int p1), .val (.int p2), .val (.int c0), .val (.int c1), .val (.int k1), .val (.int d0), .val (.int d1), .val (.int k2), .val (.ref r577), .val (.int ((k1 + (2 : Int32)) + k2))] [(.int d1), (.int d0), (.int c1), (.int c0), (.int k1), (.int ((k1 + (2 : Int32)) + k2)), (.int (1 : Int32)), (.ref r577)])) (argsL := [(.ref r577), (.int (1 : Int32)), (.int ((k1 + (2 : Int32)) + k2)), (.int k1), (.int c0), (.int c1), (.int d0), (.int d1)]) (rest := []) rfl (by rw [hml]; rfl) (lenOf pd_29 rfl) rfl rfl (by show 2 * 0 + _ ≤ _; exact Nat.le_of_eq rfl) (hb hby at_146) ?_
  rintro _ T614 L614 X614 ⟨rfl, N614q, e614⟩
  have N615 := Fr.app N613 N614q
  show own_Fin p e below _ T614 (mkF m 149 #[.val (.int p1), .val (.int p2), .val (.int c0), .val (.int c1), .val (.int k1), .val (.int d0), .val (.int d1), .val (.int k2), .val (.ref r577), .val (.int ((k1 + (2 : Int32)) + k2))] [(.int (1 : Int32))])
  refine own_step (T' := T614) (g' := (mkF m 152 #[.val (.int p1), .val (.int p2), .val (.int c0), .val (.int c1), .val (.int k1), .val (.int d0), .val (.int d1), .val (.int k2), .val (.ref r577), .val (.int ((k1 + (2 : Int32)) + k2))] [])) (fun _ q => XS.ifNo X614.here hx rfl (hb hby at_149) rfl (by decide) q) ?_
  refine own_step (T' := T614) (g' := (mkF m 154 #[.val (.int p1), .val (.int p2), .val (.int c0), .val (.int c1), .val (.int k1), .val (.int d0), .val (.int d1), .val (.int k2), .val (.ref r577), .val (.int ((k1 + (2 : Int32)) + k2))] [(.ref r577)])) (fun _ q => XS.aload X614.here hx rfl (hb hby at_152) rfl rfl q) ?_
  refine own_step (T' := T614) (g' := (mkF m 155 #[.val (.int p1), .val (.int p2), .val (.int c0), .val (.int c1), .val (.int k1), .val (.int d0), .val (.int d1), .val (.int k2), .val (.ref r577), .val (.int ((k1 + (2 : Int32)) + k2))] [(.int (2 : Int32)), (.ref r577)])) (fun _ q => XS.iconst X614.here hx rfl (hb hby at_154) q) ?_
  refine own_step (T' := T614) (g' := (mkF m 157 #[.val (.int p1), .val (.int p2), .val (.int c0), .val (.int c1), .val (.int k1), .val (.int d0), .val (.int d1), .val (.int k2), .val (.ref r577), .val (.int ((k1 + (2 : Int32)) + k2))] [(.int ((k1 + (2 : Int32)) + k2)), (.int (2 : Int32)), (.ref r577)])) (fun _ q => XS.iload X614.here hx rfl (hb hby at_155) rfl q) ?_
  refine own_step (T' := T614) (g' := (mkF m 159 #[.val (.int p1), .val (.int p2), .val (.int c0), .val (.int c1), .val (.int k1), .val (.int d0), .val (.int d1), .val (.int k2), .val (.ref r577), .val (.int ((k1 + (2 : Int32)) + k2))] [(.int k1), (.int ((k1 + (2 : Int32)) + k2)), (.int (2 : Int32)), (.ref r577)])) (fun _ q => XS.iload X614.here hx rfl (hb hby at_157) rfl q) ?_
  refine own_step (T' := T614) (g' := (mkF m 160 #[.val (.int p1), .val (.int p2), .val (.int c0), .val (.int c1), .val (.int k1), .val (.int d0), .val (.int d1), .val (.int k2), .val (.ref r577), .val (.int ((k1 + (2 : Int32)) + k2))] [(.int c0), (.int k1), (.int ((k1 + (2 : Int32)) + k2)), (.int (2 : Int32)), (.ref r577)])) (fun _ q => XS.iloadN X614.here hx rfl (hb hby at_159) rfl q) ?_
  refine own_step (T' := T614) (g' := (mkF m 161 #[.val (.int p1), .val (.int p2), .val (.int c0), .val (.int c1), .val (.int k1), .val (.int d0), .val (.int d1), .val (.int k2), .val (.ref r577), .val (.int ((k1 + (2 : Int32)) + k2))] [(.int c1), (.int c0), (.int k1), (.int ((k1 + (2 : Int32)) + k2)), (.int (2 : Int32)), (.ref r577)])) (fun _ q => XS.iloadN X614.here hx rfl (hb hby at_160) rfl q) ?_
  refine own_step (T' := T614) (g' := (mkF m 163 #[.val (.int p1), .val (.int p2), .val (.int c0), .val (.int c1), .val (.int k1), .val (.int d0), .val (.int d1), .val (.int k2), .val (.ref r577), .val (.int ((k1 + (2 : Int32)) + k2))] [(.int d0), (.int c1), (.int c0), (.int k1), (.int ((k1 + (2 : Int32)) + k2)), (.int (2 : Int32)), (.ref r577)])) (fun _ q => XS.iload X614.here hx rfl (hb hby at_161) rfl q) ?_
  refine own_step (T' := T614) (g' := (mkF m 165 #[.val (.int p1), .val (.int p2), .val (.int c0), .val (.int c1), .val (.int k1), .val (.int d0), .val (.int d1), .val (.int k2), .val (.ref r577), .val (.int ((k1 + (2 : Int32)) + k2))] [(.int d1), (.int d0), (.int c1), (.int c0), (.int k1), (.int ((k1 + (2 : Int32)) + k2)), (.int (2 : Int32)), (.ref r577)])) (fun _ q => XS.iload X614.here hx rfl (hb hby at_163) rfl q) ?_
  refine own_callS X614 hx hZ hown (w155 hw) (w156 hw) (w5 hw) (w157 hw) (by decide) (backOf (W := 0) (own_chk l Z a0 hw [] G1 G3 r577 tr577 kr577 (own_R (own_sl k1 c0 c1) (own_sl k2 d0 d1)) 2 ((k1 + (2 : Int32)) + k2) k1 c0 c1 d0 d1 T577.heap n0 c608 O2 O4 P5 rG3 c607 f2_577 f3_577 f4_577 V606 (own_R_small : (own_R (own_sl k1 c0 c1) (own_sl k2 d0 d1)).length ≤ 400) (own_R_all hc0 hc1 hd0 hd1 : ∀ z ∈ (own_R (own_sl k1 c0 c1) (own_sl k2 d0 d1)), ¬ z < 0 ∧ ¬ (255 : Int32) < z) (own_R_at hk1 hk2 hc0 hc1 hd0 hd1 2 (by decide) : Int32.ofNat 2 < ((k1 + (2 : Int32)) + k2) → 2 < (own_R (own_sl k1 c0 c1) (own_sl k2 d0 d1)).length ∧ (own_R (own_sl k1 c0 c1) (own_sl k2 d0 d1)).getD 2 0 = own_atv (Int32.ofNat 2) k1 c0 c1 d0 d1)) hZ (w157 hw) (w5 hw) (Nat.le_of_ble_eq_true rfl) (Nat.le_of_ble_eq_true rfl)) e614  (by first | decide | (show _ ≤ (40 : Nat); first | omega | (dsimp only; omega))) (by first | decide | (show _ ≤ (2240 : Nat); first | omega | (dsimp only; omega))) (g := (mkF m 165 #[.val (.int p1), .val (.int p2), .val (.int c0), .val (.int c1), .val (.int k1), .val (.int d0), .val (.int d1), .val (.int k2), .val (.ref r577), .val (.int ((k1 + (2 : Int32)) + k2))] [(.int d1), (.int d0), (.int c1), (.int c0), (.int k1), (.int ((k1 + (2 : Int32)) + k2)), (.int (2 : Int32)), (.ref r577)])) (argsL := [(.ref r577), (.int (2 : Int32)), (.int ((k1 + (2 : Int32)) + k2)), (.int k1), (.int c0), (.int c1), (.int d0), (.int d1)]) (rest := []) rfl (by rw [hml]; rfl) (lenOf pd_29 rfl) rfl rfl (by show 2 * 0 + _ ≤ _; exact Nat.le_of_eq rfl) (hb hby at_165) ?_
  rintro _ T616 L616 X616 ⟨rfl, N616q, e616⟩
  have N617 := Fr.app N615 N616q
  show own_Fin p e below _ T616 (mkF m 168 #[.val (.int p1), .val (.int p2), .val (.int c0), .val (.int c1), .val (.int k1), .val (.int d0), .val (.int d1), .val (.int k2), .val (.ref r577), .val (.int ((k1 + (2 : Int32)) + k2))] [(.int (1 : Int32))])
  refine own_step (T' := T616) (g' := (mkF m 171 #[.val (.int p1), .val (.int p2), .val (.int c0), .val (.int c1), .val (.int k1), .val (.int d0), .val (.int d1), .val (.int k2), .val (.ref r577), .val (.int ((k1 + (2 : Int32)) + k2))] [])) (fun _ q => XS.ifNo X616.here hx rfl (hb hby at_168) rfl (by decide) q) ?_
  refine own_step (T' := T616) (g' := (mkF m 173 #[.val (.int p1), .val (.int p2), .val (.int c0), .val (.int c1), .val (.int k1), .val (.int d0), .val (.int d1), .val (.int k2), .val (.ref r577), .val (.int ((k1 + (2 : Int32)) + k2))] [(.ref r577)])) (fun _ q => XS.aload X616.here hx rfl (hb hby at_171) rfl rfl q) ?_
  refine own_step (T' := T616) (g' := (mkF m 174 #[.val (.int p1), .val (.int p2), .val (.int c0), .val (.int c1), .val (.int k1), .val (.int d0), .val (.int d1), .val (.int k2), .val (.ref r577), .val (.int ((k1 + (2 : Int32)) + k2))] [(.int (3 : Int32)), (.ref r577)])) (fun _ q => XS.iconst X616.here hx rfl (hb hby at_173) q) ?_
  refine own_step (T' := T616) (g' := (mkF m 176 #[.val (.int p1), .val (.int p2), .val (.int c0), .val (.int c1), .val (.int k1), .val (.int d0), .val (.int d1), .val (.int k2), .val (.ref r577), .val (.int ((k1 + (2 : Int32)) + k2))] [(.int ((k1 + (2 : Int32)) + k2)), (.int (3 : Int32)), (.ref r577)])) (fun _ q => XS.iload X616.here hx rfl (hb hby at_174) rfl q) ?_
  refine own_step (T' := T616) (g' := (mkF m 178 #[.val (.int p1), .val (.int p2), .val (.int c0), .val (.int c1), .val (.int k1), .val (.int d0), .val (.int d1), .val (.int k2), .val (.ref r577), .val (.int ((k1 + (2 : Int32)) + k2))] [(.int k1), (.int ((k1 + (2 : Int32)) + k2)), (.int (3 : Int32)), (.ref r577)])) (fun _ q => XS.iload X616.here hx rfl (hb hby at_176) rfl q) ?_
  refine own_step (T' := T616) (g' := (mkF m 179 #[.val (.int p1), .val (.int p2), .val (.int c0), .val (.int c1), .val (.int k1), .val (.int d0), .val (.int d1), .val (.int k2), .val (.ref r577), .val (.int ((k1 + (2 : Int32)) + k2))] [(.int c0), (.int k1), (.int ((k1 + (2 : Int32)) + k2)), (.int (3 : Int32)), (.ref r577)])) (fun _ q => XS.iloadN X616.here hx rfl (hb hby at_178) rfl q) ?_
  refine own_step (T' := T616) (g' := (mkF m 180 #[.val (.int p1), .val (.int p2), .val (.int c0), .val (.int c1), .val (.int k1), .val (.int d0), .val (.int d1), .val (.int k2), .val (.ref r577), .val (.int ((k1 + (2 : Int32)) + k2))] [(.int c1), (.int c0), (.int k1), (.int ((k1 + (2 : Int32)) + k2)), (.int (3 : Int32)), (.ref r577)])) (fun _ q => XS.iloadN X616.here hx rfl (hb hby at_179) rfl q) ?_
  refine own_step (T' := T616) (g' := (mkF m 182 #[.val (.int p1), .val (.int p2), .val (.int c0), .val (.int c1), .val (.int k1), .val (.int d0), .val (.int d1), .val (.int k2), .val (.ref r577), .val (.int ((k1 + (2 : Int32)) + k2))] [(.int d0), (.int c1), (.int c0), (.int k1), (.int ((k1 + (2 : Int32)) + k2)), (.int (3 : Int32)), (.ref r577)])) (fun _ q => XS.iload X616.here hx rfl (hb hby at_180) rfl q) ?_
  refine own_step (T' := T616) (g' := (mkF m 184 #[.val (.int p1), .val (.int p2), .val (.int c0), .val (.int c1), .val (.int k1), .val (.int d0), .val (.int d1), .val (.int k2), .val (.ref r577), .val (.int ((k1 + (2 : Int32)) + k2))] [(.int d1), (.int d0), (.int c1), (.int c0), (.int k1), (.int ((k1 + (2 : Int32)) + k2)), (.int (3 : Int32)), (.ref r577)])) (fun _ q => XS.iload X616.here hx rfl (hb hby at_182) rfl q) ?_
  refine own_callS X616 hx hZ hown (w155 hw) (w156 hw) (w5 hw) (w157 hw) (by decide) (backOf (W := 0) (own_chk l Z a0 hw [] G1 G3 r577 tr577 kr577 (own_R (own_sl k1 c0 c1) (own_sl k2 d0 d1)) 3 ((k1 + (2 : Int32)) + k2) k1 c0 c1 d0 d1 T577.heap n0 c608 O2 O4 P5 rG3 c607 f2_577 f3_577 f4_577 V606 (own_R_small : (own_R (own_sl k1 c0 c1) (own_sl k2 d0 d1)).length ≤ 400) (own_R_all hc0 hc1 hd0 hd1 : ∀ z ∈ (own_R (own_sl k1 c0 c1) (own_sl k2 d0 d1)), ¬ z < 0 ∧ ¬ (255 : Int32) < z) (own_R_at hk1 hk2 hc0 hc1 hd0 hd1 3 (by decide) : Int32.ofNat 3 < ((k1 + (2 : Int32)) + k2) → 3 < (own_R (own_sl k1 c0 c1) (own_sl k2 d0 d1)).length ∧ (own_R (own_sl k1 c0 c1) (own_sl k2 d0 d1)).getD 3 0 = own_atv (Int32.ofNat 3) k1 c0 c1 d0 d1)) hZ (w157 hw) (w5 hw) (Nat.le_of_ble_eq_true rfl) (Nat.le_of_ble_eq_true rfl)) e616  (by first | decide | (show _ ≤ (40 : Nat); first | omega | (dsimp only; omega))) (by first | decide | (show _ ≤ (2240 : Nat); first | omega | (dsimp only; omega))) (g := (mkF m 184 #[.val (.int p1), .val (.int p2), .val (.int c0), .val (.int c1), .val (.int k1), .val (.int d0), .val (.int d1), .val (.int k2), .val (.ref r577), .val (.int ((k1 + (2 : Int32)) + k2))] [(.int d1), (.int d0), (.int c1), (.int c0), (.int k1), (.int ((k1 + (2 : Int32)) + k2)), (.int (3 : Int32)), (.ref r577)])) (argsL := [(.ref r577), (.int (3 : Int32)), (.int ((k1 + (2 : Int32)) + k2)), (.int k1), (.int c0), (.int c1), (.int d0), (.int d1)]) (rest := []) rfl (by rw [hml]; rfl) (lenOf pd_29 rfl) rfl rfl (by show 2 * 0 + _ ≤ _; exact Nat.le_of_eq rfl) (hb hby at_184) ?_
  rintro _ T618 L618 X618 ⟨rfl, N618q, e618⟩
  have N619 := Fr.app N617 N618q
  show own_Fin p e below _ T618 (mkF m 187 #[.val (.int p1), .val (.int p2), .val (.int c0), .val (.int c1), .val (.int k1), .val (.int d0), .val (.int d1), .val (.int k2), .val (.ref r577), .val (.int ((k1 + (2 : Int32)) + k2))] [(.int (1 : Int32))])
  refine own_step (T' := T618) (g' := (mkF m 190 #[.val (.int p1), .val (.int p2), .val (.int c0), .val (.int c1), .val (.int k1), .val (.int d0), .val (.int d1), .val (.int k2), .val (.ref r577), .val (.int ((k1 + (2 : Int32)) + k2))] [])) (fun _ q => XS.ifNo X618.here hx rfl (hb hby at_187) rfl (by decide) q) ?_
  refine own_step (T' := T618) (g' := (mkF m 192 #[.val (.int p1), .val (.int p2), .val (.int c0), .val (.int c1), .val (.int k1), .val (.int d0), .val (.int d1), .val (.int k2), .val (.ref r577), .val (.int ((k1 + (2 : Int32)) + k2))] [(.ref r577)])) (fun _ q => XS.aload X618.here hx rfl (hb hby at_190) rfl rfl q) ?_
  refine own_step (T' := T618) (g' := (mkF m 193 #[.val (.int p1), .val (.int p2), .val (.int c0), .val (.int c1), .val (.int k1), .val (.int d0), .val (.int d1), .val (.int k2), .val (.ref r577), .val (.int ((k1 + (2 : Int32)) + k2))] [(.int (4 : Int32)), (.ref r577)])) (fun _ q => XS.iconst X618.here hx rfl (hb hby at_192) q) ?_
  refine own_step (T' := T618) (g' := (mkF m 195 #[.val (.int p1), .val (.int p2), .val (.int c0), .val (.int c1), .val (.int k1), .val (.int d0), .val (.int d1), .val (.int k2), .val (.ref r577), .val (.int ((k1 + (2 : Int32)) + k2))] [(.int ((k1 + (2 : Int32)) + k2)), (.int (4 : Int32)), (.ref r577)])) (fun _ q => XS.iload X618.here hx rfl (hb hby at_193) rfl q) ?_
  refine own_step (T' := T618) (g' := (mkF m 197 #[.val (.int p1), .val (.int p2), .val (.int c0), .val (.int c1), .val (.int k1), .val (.int d0), .val (.int d1), .val (.int k2), .val (.ref r577), .val (.int ((k1 + (2 : Int32)) + k2))] [(.int k1), (.int ((k1 + (2 : Int32)) + k2)), (.int (4 : Int32)), (.ref r577)])) (fun _ q => XS.iload X618.here hx rfl (hb hby at_195) rfl q) ?_
  refine own_step (T' := T618) (g' := (mkF m 198 #[.val (.int p1), .val (.int p2), .val (.int c0), .val (.int c1), .val (.int k1), .val (.int d0), .val (.int d1), .val (.int k2), .val (.ref r577), .val (.int ((k1 + (2 : Int32)) + k2))] [(.int c0), (.int k1), (.int ((k1 + (2 : Int32)) + k2)), (.int (4 : Int32)), (.ref r577)])) (fun _ q => XS.iloadN X618.here hx rfl (hb hby at_197) rfl q) ?_
  refine own_step (T' := T618) (g' := (mkF m 199 #[.val (.int p1), .val (.int p2), .val (.int c0), .val (.int c1), .val (.int k1), .val (.int d0), .val (.int d1), .val (.int k2), .val (.ref r577), .val (.int ((k1 + (2 : Int32)) + k2))] [(.int c1), (.int c0), (.int k1), (.int ((k1 + (2 : Int32)) + k2)), (.int (4 : Int32)), (.ref r577)])) (fun _ q => XS.iloadN X618.here hx rfl (hb hby at_198) rfl q) ?_
  refine own_step (T' := T618) (g' := (mkF m 201 #[.val (.int p1), .val (.int p2), .val (.int c0), .val (.int c1), .val (.int k1), .val (.int d0), .val (.int d1), .val (.int k2), .val (.ref r577), .val (.int ((k1 + (2 : Int32)) + k2))] [(.int d0), (.int c1), (.int c0), (.int k1), (.int ((k1 + (2 : Int32)) + k2)), (.int (4 : Int32)), (.ref r577)])) (fun _ q => XS.iload X618.here hx rfl (hb hby at_199) rfl q) ?_
  refine own_step (T' := T618) (g' := (mkF m 203 #[.val (.int p1), .val (.int p2), .val (.int c0), .val (.int c1), .val (.int k1), .val (.int d0), .val (.int d1), .val (.int k2), .val (.ref r577), .val (.int ((k1 + (2 : Int32)) + k2))] [(.int d1), (.int d0), (.int c1), (.int c0), (.int k1), (.int ((k1 + (2 : Int32)) + k2)), (.int (4 : Int32)), (.ref r577)])) (fun _ q => XS.iload X618.here hx rfl (hb hby at_201) rfl q) ?_
  refine own_callS X618 hx hZ hown (w155 hw) (w156 hw) (w5 hw) (w157 hw) (by decide) (backOf (W := 0) (own_chk l Z a0 hw [] G1 G3 r577 tr577 kr577 (own_R (own_sl k1 c0 c1) (own_sl k2 d0 d1)) 4 ((k1 + (2 : Int32)) + k2) k1 c0 c1 d0 d1 T577.heap n0 c608 O2 O4 P5 rG3 c607 f2_577 f3_577 f4_577 V606 (own_R_small : (own_R (own_sl k1 c0 c1) (own_sl k2 d0 d1)).length ≤ 400) (own_R_all hc0 hc1 hd0 hd1 : ∀ z ∈ (own_R (own_sl k1 c0 c1) (own_sl k2 d0 d1)), ¬ z < 0 ∧ ¬ (255 : Int32) < z) (own_R_at hk1 hk2 hc0 hc1 hd0 hd1 4 (by decide) : Int32.ofNat 4 < ((k1 + (2 : Int32)) + k2) → 4 < (own_R (own_sl k1 c0 c1) (own_sl k2 d0 d1)).length ∧ (own_R (own_sl k1 c0 c1) (own_sl k2 d0 d1)).getD 4 0 = own_atv (Int32.ofNat 4) k1 c0 c1 d0 d1)) hZ (w157 hw) (w5 hw) (Nat.le_of_ble_eq_true rfl) (Nat.le_of_ble_eq_true rfl)) e618  (by first | decide | (show _ ≤ (40 : Nat); first | omega | (dsimp only; omega))) (by first | decide | (show _ ≤ (2240 : Nat); first | omega | (dsimp only; omega))) (g := (mkF m 203 #[.val (.int p1), .val (.int p2), .val (.int c0), .val (.int c1), .val (.int k1), .val (.int d0), .val (.int d1), .val (.int k2), .val (.ref r577), .val (.int ((k1 + (2 : Int32)) + k2))] [(.int d1), (.int d0), (.int c1), (.int c0), (.int k1), (.int ((k1 + (2 : Int32)) + k2)), (.int (4 : Int32)), (.ref r577)])) (argsL := [(.ref r577), (.int (4 : Int32)), (.int ((k1 + (2 : Int32)) + k2)), (.int k1), (.int c0), (.int c1), (.int d0), (.int d1)]) (rest := []) rfl (by rw [hml]; rfl) (lenOf pd_29 rfl) rfl rfl (by show 2 * 0 + _ ≤ _; exact Nat.le_of_eq rfl) (hb hby at_203) ?_
  rintro _ T620 L620 X620 ⟨rfl, N620q, e620⟩
  have N621 := Fr.app N619 N620q
  show own_Fin p e below _ T620 (mkF m 206 #[.val (.int p1), .val (.int p2), .val (.int c0), .val (.int c1), .val (.int k1), .val (.int d0), .val (.int d1), .val (.int k2), .val (.ref r577), .val (.int ((k1 + (2 : Int32)) + k2))] [(.int (1 : Int32))])
  refine own_step (T' := T620) (g' := (mkF m 209 #[.val (.int p1), .val (.int p2), .val (.int c0), .val (.int c1), .val (.int k1), .val (.int d0), .val (.int d1), .val (.int k2), .val (.ref r577), .val (.int ((k1 + (2 : Int32)) + k2))] [])) (fun _ q => XS.ifNo X620.here hx rfl (hb hby at_206) rfl (by decide) q) ?_
  refine own_step (T' := T620) (g' := (mkF m 211 #[.val (.int p1), .val (.int p2), .val (.int c0), .val (.int c1), .val (.int k1), .val (.int d0), .val (.int d1), .val (.int k2), .val (.ref r577), .val (.int ((k1 + (2 : Int32)) + k2))] [(.ref r577)])) (fun _ q => XS.aload X620.here hx rfl (hb hby at_209) rfl rfl q) ?_
  refine own_step (T' := T620) (g' := (mkF m 212 #[.val (.int p1), .val (.int p2), .val (.int c0), .val (.int c1), .val (.int k1), .val (.int d0), .val (.int d1), .val (.int k2), .val (.ref r577), .val (.int ((k1 + (2 : Int32)) + k2))] [(.int (5 : Int32)), (.ref r577)])) (fun _ q => XS.iconst X620.here hx rfl (hb hby at_211) q) ?_
  refine own_step (T' := T620) (g' := (mkF m 214 #[.val (.int p1), .val (.int p2), .val (.int c0), .val (.int c1), .val (.int k1), .val (.int d0), .val (.int d1), .val (.int k2), .val (.ref r577), .val (.int ((k1 + (2 : Int32)) + k2))] [(.int ((k1 + (2 : Int32)) + k2)), (.int (5 : Int32)), (.ref r577)])) (fun _ q => XS.iload X620.here hx rfl (hb hby at_212) rfl q) ?_
  refine own_step (T' := T620) (g' := (mkF m 216 #[.val (.int p1), .val (.int p2), .val (.int c0), .val (.int c1), .val (.int k1), .val (.int d0), .val (.int d1), .val (.int k2), .val (.ref r577), .val (.int ((k1 + (2 : Int32)) + k2))] [(.int k1), (.int ((k1 + (2 : Int32)) + k2)), (.int (5 : Int32)), (.ref r577)])) (fun _ q => XS.iload X620.here hx rfl (hb hby at_214) rfl q) ?_
  refine own_step (T' := T620) (g' := (mkF m 217 #[.val (.int p1), .val (.int p2), .val (.int c0), .val (.int c1), .val (.int k1), .val (.int d0), .val (.int d1), .val (.int k2), .val (.ref r577), .val (.int ((k1 + (2 : Int32)) + k2))] [(.int c0), (.int k1), (.int ((k1 + (2 : Int32)) + k2)), (.int (5 : Int32)), (.ref r577)])) (fun _ q => XS.iloadN X620.here hx rfl (hb hby at_216) rfl q) ?_
  refine own_step (T' := T620) (g' := (mkF m 218 #[.val (.int p1), .val (.int p2), .val (.int c0), .val (.int c1), .val (.int k1), .val (.int d0), .val (.int d1), .val (.int k2), .val (.ref r577), .val (.int ((k1 + (2 : Int32)) + k2))] [(.int c1), (.int c0), (.int k1), (.int ((k1 + (2 : Int32)) + k2)), (.int (5 : Int32)), (.ref r577)])) (fun _ q => XS.iloadN X620.here hx rfl (hb hby at_217) rfl q) ?_
  refine own_step (T' := T620) (g' := (mkF m 220 #[.val (.int p1), .val (.int p2), .val (.int c0), .val (.int c1), .val (.int k1), .val (.int d0), .val (.int d1), .val (.int k2), .val (.ref r577), .val (.int ((k1 + (2 : Int32)) + k2))] [(.int d0), (.int c1), (.int c0), (.int k1), (.int ((k1 + (2 : Int32)) + k2)), (.int (5 : Int32)), (.ref r577)])) (fun _ q => XS.iload X620.here hx rfl (hb hby at_218) rfl q) ?_
  refine own_step (T' := T620) (g' := (mkF m 222 #[.val (.int p1), .val (.int p2), .val (.int c0), .val (.int c1), .val (.int k1), .val (.int d0), .val (.int d1), .val (.int k2), .val (.ref r577), .val (.int ((k1 + (2 : Int32)) + k2))] [(.int d1), (.int d0), (.int c1), (.int c0), (.int k1), (.int ((k1 + (2 : Int32)) + k2)), (.int (5 : Int32)), (.ref r577)])) (fun _ q => XS.iload X620.here hx rfl (hb hby at_220) rfl q) ?_
  refine own_callS X620 hx hZ hown (w155 hw) (w156 hw) (w5 hw) (w157 hw) (by decide) (backOf (W := 0) (own_chk l Z a0 hw [] G1 G3 r577 tr577 kr577 (own_R (own_sl k1 c0 c1) (own_sl k2 d0 d1)) 5 ((k1 + (2 : Int32)) + k2) k1 c0 c1 d0 d1 T577.heap n0 c608 O2 O4 P5 rG3 c607 f2_577 f3_577 f4_577 V606 (own_R_small : (own_R (own_sl k1 c0 c1) (own_sl k2 d0 d1)).length ≤ 400) (own_R_all hc0 hc1 hd0 hd1 : ∀ z ∈ (own_R (own_sl k1 c0 c1) (own_sl k2 d0 d1)), ¬ z < 0 ∧ ¬ (255 : Int32) < z) (own_R_at hk1 hk2 hc0 hc1 hd0 hd1 5 (by decide) : Int32.ofNat 5 < ((k1 + (2 : Int32)) + k2) → 5 < (own_R (own_sl k1 c0 c1) (own_sl k2 d0 d1)).length ∧ (own_R (own_sl k1 c0 c1) (own_sl k2 d0 d1)).getD 5 0 = own_atv (Int32.ofNat 5) k1 c0 c1 d0 d1)) hZ (w157 hw) (w5 hw) (Nat.le_of_ble_eq_true rfl) (Nat.le_of_ble_eq_true rfl)) e620  (by first | decide | (show _ ≤ (40 : Nat); first | omega | (dsimp only; omega))) (by first | decide | (show _ ≤ (2240 : Nat); first | omega | (dsimp only; omega))) (g := (mkF m 222 #[.val (.int p1), .val (.int p2), .val (.int c0), .val (.int c1), .val (.int k1), .val (.int d0), .val (.int d1), .val (.int k2), .val (.ref r577), .val (.int ((k1 + (2 : Int32)) + k2))] [(.int d1), (.int d0), (.int c1), (.int c0), (.int k1), (.int ((k1 + (2 : Int32)) + k2)), (.int (5 : Int32)), (.ref r577)])) (argsL := [(.ref r577), (.int (5 : Int32)), (.int ((k1 + (2 : Int32)) + k2)), (.int k1), (.int c0), (.int c1), (.int d0), (.int d1)]) (rest := []) rfl (by rw [hml]; rfl) (lenOf pd_29 rfl) rfl rfl (by show 2 * 0 + _ ≤ _; exact Nat.le_of_eq rfl) (hb hby at_222) ?_
  rintro _ T622 L622 X622 ⟨rfl, N622q, e622⟩
  have N623 := Fr.app N621 N622q
  show own_Fin p e below _ T622 (mkF m 225 #[.val (.int p1), .val (.int p2), .val (.int c0), .val (.int c1), .val (.int k1), .val (.int d0), .val (.int d1), .val (.int k2), .val (.ref r577), .val (.int ((k1 + (2 : Int32)) + k2))] [(.int (1 : Int32))])
  refine own_step (T' := T622) (g' := (mkF m 228 #[.val (.int p1), .val (.int p2), .val (.int c0), .val (.int c1), .val (.int k1), .val (.int d0), .val (.int d1), .val (.int k2), .val (.ref r577), .val (.int ((k1 + (2 : Int32)) + k2))] [])) (fun _ q => XS.ifNo X622.here hx rfl (hb hby at_225) rfl (by decide) q) ?_
  refine own_step (T' := T622) (g' := (mkF m 229 #[.val (.int p1), .val (.int p2), .val (.int c0), .val (.int c1), .val (.int k1), .val (.int d0), .val (.int d1), .val (.int k2), .val (.ref r577), .val (.int ((k1 + (2 : Int32)) + k2))] [(.int (1 : Int32))])) (fun _ q => XS.iconst X622.here hx rfl (hb hby at_228) q) ?_
  refine own_step (T' := T622) (g' := (mkF m 233 #[.val (.int p1), .val (.int p2), .val (.int c0), .val (.int c1), .val (.int k1), .val (.int d0), .val (.int d1), .val (.int k2), .val (.ref r577), .val (.int ((k1 + (2 : Int32)) + k2))] [(.int (1 : Int32))])) (fun _ q => XS.goto X622.here hx rfl (pc0 := 229) (pc' := 233) rfl (hb hby at_229) (by decide) (by decide) q) ?_
  have c624 := (c580.trans K577 all0)
  exact own_retNW X622 hx hZ (own_hEL hw) hS (by rw [e622]; exact (Nat.le_refl _)) (by rw [e622]; exact CH601) Bd.returns (by simp) (hb hby at_233) hlk (by rw [e622]; exact ⟨rfl, N623, c624⟩) (by first | decide | (show _ ≤ (40 : Nat); first | omega | (dsimp only; omega))) (by first | decide | (show _ ≤ (2240 : Nat); first | omega | (dsimp only; omega)))
set_option maxRecDepth 65536 in
set_option maxHeartbeats 40000000 in
theorem comes_1 {Post : Tables → Env → Array Value → State → Outcome → State → Prop} (hpost : ∀ tb e args s v u, (limb_1_1.after args s (.returned v) u = true ∧ limb_1_2.after args s (.returned v) u = true ∧ True) → ReturnedEndW s (.returned v) u (Jvm.fieldLocs frame_1_writes args s ++ Jvm.arrayLocs frame_1_arrays args s ++ Jvm.staticLocs frame_1_statics s) 40 2240 → Post tb e args s (.returned v) u) :
    ArmFor flags0 classFile x code maxLocals ret World_1 tables_1 room_1 Calls_1 rest_1 Pre_1 Post := by
  intro l hfl _ _ p e ha hc hk s m args below hf hA hF happ hP
  obtain ⟨hcalls, hrest, hpre⟩ := hP
  obtain ⟨-, -, -, hnamed, -, -, -, hat⟩ := (Spec.applies_iff hf).mp happ
  obtain ⟨hg, hn⟩ := and_e (Cond.before_iff.mp (show (Jvm.Cond.and given_1 narrow_1).before args s = true from hpre))
  obtain ⟨hcnt, r0⟩ := and_e hg
  obtain ⟨q0, r1⟩ := and_e r0
  have q1 := r1
  obtain ⟨u0, u1, rfl⟩ : ∃ u0 u1 : Value, args = #[u0, u1] := by
    have hs : args.size = 2 := by simpa [Cond.value, given_1] using hcnt
    obtain ⟨L⟩ := args
    match L, hs with
    | [u0, u1], _ => exact ⟨u0, u1, rfl⟩
  have hw := fun d (hd : d ∈ tables_1) => atoms_spec (ws := Jvm.Cond.code x code maxLocals ret :: tables_1) hat d (List.mem_cons_of_mem _ hd)
  obtain ⟨hsets, hown0⟩ := atoms_of _ (rest_1_c_eq ▸ (show rest_1_c.before _ s = true from hrest))
  have n3 := not_v (Cond.before_iff.mp (hsets _ (List.mem_of_getElem? (i := 2) rfl)))
  obtain ⟨G1, eG1⟩ := is_v (Cond.before_iff.mp (hsets _ (List.mem_of_getElem? (i := 1) rfl)))
  have S8 : Sta s s.heap "java/lang/String" "COMPACT_STRINGS" "Z" (.int G1) := Sta.start eG1 (Or.inl (hsets _ (List.mem_of_getElem? (i := 0) rfl)))
  obtain ⟨G3, eG3, rG3⟩ := isR_v (Cond.before_iff.mp (hsets _ (List.mem_of_getElem? (i := 8) rfl)))
  have S12 : Sta s s.heap "jdk/internal/util/Preconditions" "SIOOBE_FORMATTER" "Ljava/util/function/BiFunction;" G3 := Sta.start eG3 (Or.inl (hsets _ (List.mem_of_getElem? (i := 7) rfl)))
  have c13 : ¬ (G1 = (0 : Int32)) := gotF (Cond.eq_ints eG1 (Term.int_eval (0))) n3
  have CHs := CHv.start (EL := own_EL) (Z := s) (own_hEL hw) (fun p hp => hcalls.1 p hp) (by exact (hsets _ (List.mem_of_getElem? (i := 2) rfl))) (w22 hw) (w8 hw)
  obtain ⟨i0, ei0⟩ := is_v q0
  obtain rfl : u0 = (.int i0) := Option.some.inj ei0
  obtain ⟨i1, ei1⟩ := is_v q1
  obtain rfl : u1 = (.int i1) := Option.some.inj ei1
  obtain ⟨n, o, h1, h2, h3, _, L, rfl, ⟨rfl, N, -⟩, -, hq⟩ := own_law l s _ hw tables_1 G1 G3 i0 i1 s.heap s.heap.size (Nat.le_refl _) S8 S12 c13 rG3 (Old.start s) p e ha hc hk s m _ below hf ((Spec.applies_iff_loose hf).mp happ).1 ⟨rfl, State.Warmed39.refl s, rfl, CHs⟩ trivial
  refine ⟨n, _, h1, h2, h3, hpost _ _ _ _ _ _ ⟨Cond.after_iff.mpr rfl, Cond.after_iff.mpr (eq_i res_at (Term.int_eval (1)) rfl), trivial⟩ ⟨hq.1, hq.2.1, hq.2.2.1, (hq.2.2.2.sift fun y hy => Or.inr (N y hy)).mono (by decide) (by decide)⟩⟩
theorem main_1_1 : Claimed_1_1 := comes_1 fun _ _ _ _ _ _ h hF => ⟨h.1, hF⟩
theorem main_1_2 : Claimed_1_2 := comes_1 fun _ _ _ _ _ _ h hF => ⟨h.2.1, hF⟩
end Jvm.Pilot.@@N@@
namespace Jvm.Pilot.@@N@@
open Jvm Jvm.ClassFile Sem Op Lib Jvm.Free Jvm.Stand Jvm.Pilot.@@N@@.Jvm.D
/-! MADE BY PROGRAM (witnessworld.py) out of the Statement's table words and the real class files: 26 classes; the members and pool entries that the words name. The judged class is class 1, her method 4. -/
namespace start1
open Jvm.ClassFile
def u (s : String) : CpInfo := .utf8 (stringToUtf16 s)
/-- a pool by its gaps: so many unusable entries, then the entry; so many at the end -/
def gap : Nat → List CpInfo → List CpInfo
  | 0, r => r
  | n + 1, r => .unusable :: gap n r
def poolList (es : List (Nat × CpInfo)) (last : Nat) : List CpInfo := es.foldr (fun e r => gap e.1 (e.2 :: r)) (gap last [])
def pool (es : List (Nat × CpInfo)) (last : Nat) : Array CpInfo := ⟨poolList es last⟩
def fileOf (pool : Array CpInfo) (this : Nat) (attrs : Array Attribute := #[]) (ms : Array MethodInfo := #[]) (fl : Nat := 33) (sup : Nat := 0) (ifs : Array Nat := #[]) (fds : Array FieldInfo := #[]) : ClassFile where
  minorVersion := 0
  majorVersion := 65
  constantPool := pool
  accessFlags := fl
  thisClass := this
  superClass := sup
  interfaces := ifs
  fields := fds
  methods := ms
  attributes := attrs
def plain (name : String) (sup : Option ClassId) : Class where
  name := name
  kind := .ordinary
  loader := none
  accessFlags := 33
  super := sup
  interfaces := #[]
  cf := none
  fields := #[]
  methods := #[]
  instanceTypes := #[]
  staticTypes := #[]
  resolved := #[]
  callSites := []
  init := .initialized
  statics := none
  mirror := none

def pool0 : Array CpInfo := pool [(5, u "<init>"), (0, u "()V"), (1, .class_ 10), (1, u "java/lang/Object")] 113

def k0c0 : Code := { maxStack := 0, maxLocals := 1, code := object_method_1_code, exceptionTable := #[], attributes := #[] }
def k0m0 : Method := { name := "<init>", desc := "()V", sig := { parameters := [], returnType := none }, accessFlags := 1, code := some k0c0 }
/-- java/lang/Object -/
def k0 : Class := { plain "java/lang/Object" none with
  accessFlags := 33
  interfaces := #[]
  cf := some (fileOf pool0 8 #[] #[{ accessFlags := 1, nameIndex := 5, descriptorIndex := 6, attributes := #[] }] 33 0 #[] #[])
  fields := #[]
  methods := #[k0m0]
  instanceTypes := #[]
  staticTypes := #[]
  resolved := Array.replicate 124 none
  statics := none }

def pool1 : Array CpInfo := pool [(2, .class_ 4), (1, u "java/lang/Object"), (0, u "<init>"), (0, u "()V"), (0, .class_ 8), (0, u "java/lang/String"), (0, .methodref 7 10), (0, .nameAndType 5 11), (0, u "([C)V"), (0, .methodref 7 13), (0, .nameAndType 14 15), (0, u "valueOf"), (0, u "(C)Ljava/lang/String;"), (0, .methodref 7 17), (0, .nameAndType 18 19), (0, u "charAt"), (0, u "(I)C"), (0, .methodref 21 22), (0, .class_ 23), (0, .nameAndType 24 25), (0, u "com/example/linewire/linewire/SchemaViolationToStringPinLaw"), (0, u "at"), (0, u "(IICCCC)C"), (0, .class_ 27), (0, u "com/example/linewire/linewire/SchemaViolation"), (0, .methodref 21 29), (0, .nameAndType 30 31), (0, u "str"), (0, u "(ICC)Ljava/lang/String;"), (0, .methodref 26 33), (0, .nameAndType 5 34), (0, u "(Ljava/lang/String;Ljava/lang/String;)V"), (0, .methodref 26 36), (0, .nameAndType 37 38), (0, u "toString"), (0, u "()Ljava/lang/String;"), (0, .methodref 7 40), (0, .nameAndType 41 42), (0, u "length"), (0, u "()I"), (0, .methodref 21 44), (0, .nameAndType 45 46), (0, u "check"), (0, u "(Ljava/lang/String;IIICCCC)Z"), (3, u "law"), (0, u "(II)Z")] 2

def k1m0 : Method := { name := "<init>", desc := "()V", sig := { parameters := [], returnType := none }, accessFlags := 1, code := none }
def k1c1 : Code := { maxStack := 6, maxLocals := 3, code := method_2_code, exceptionTable := #[], attributes := #[] }
def k1m1 : Method := { name := "str", desc := "(ICC)Ljava/lang/String;", sig := { parameters := [.int, .char, .char], returnType := some (.object "java/lang/String") }, accessFlags := 10, code := some k1c1 }
def k1c2 : Code := { maxStack := 3, maxLocals := 7, code := method_3_code, exceptionTable := #[], attributes := #[] }
def k1m2 : Method := { name := "at", desc := "(IICCCC)C", sig := { parameters := [.int, .int, .char, .char, .char, .char], returnType := some .char }, accessFlags := 10, code := some k1c2 }
def k1c3 : Code := { maxStack := 7, maxLocals := 8, code := method_4_code, exceptionTable := #[], attributes := #[] }
def k1m3 : Method := { name := "check", desc := "(Ljava/lang/String;IIICCCC)Z", sig := { parameters := [(.object "java/lang/String"), .int, .int, .int, .char, .char, .char, .char], returnType := some .boolean }, accessFlags := 10, code := some k1c3 }
def k1c4 : Code := { maxStack := 8, maxLocals := 10, code := code, exceptionTable := #[], attributes := #[] }
def k1m4 : Method := { name := "law", desc := "(II)Z", sig := { parameters := [.int, .int], returnType := some .boolean }, accessFlags := 9, code := some k1c4 }
/-- com/example/linewire/linewire/SchemaViolationToStringPinLaw -/
def k1 : Class := { plain "com/example/linewire/linewire/SchemaViolationToStringPinLaw" (some 0) with
  accessFlags := 49
  interfaces := #[]
  cf := some (fileOf pool1 21 #[] #[{ accessFlags := 1, nameIndex := 5, descriptorIndex := 6, attributes := #[] }, { accessFlags := 10, nameIndex := 30, descriptorIndex := 31, attributes := #[] }, { accessFlags := 10, nameIndex := 24, descriptorIndex := 25, attributes := #[] }, { accessFlags := 10, nameIndex := 45, descriptorIndex := 46, attributes := #[] }, { accessFlags := 9, nameIndex := 50, descriptorIndex := 51, attributes := #[] }] 49 2 #[] #[])
  fields := #[]
  methods := #[k1m0, k1m1, k1m2, k1m3, k1m4]
  instanceTypes := #[]
  staticTypes := #[]
  resolved := Array.replicate 54 none
  statics := none }

def pool2 : Array CpInfo := pool [(1, .methodref 2 3), (0, .class_ 4), (0, .nameAndType 5 6), (0, u "java/lang/Object"), (0, u "<init>"), (0, u "()V"), (0, .fieldref 8 9), (0, .class_ 10), (0, .nameAndType 11 12), (0, u "com/example/linewire/linewire/SchemaViolation"), (0, u "pointer"), (0, u "Ljava/lang/String;"), (0, .fieldref 8 14), (0, .nameAndType 15 12), (0, u "reason"), (0, .class_ 17), (0, u "java/lang/StringBuilder"), (0, .methodref 16 3), (0, .methodref 16 20), (0, .nameAndType 21 22), (0, u "append"), (0, u "(Ljava/lang/String;)Ljava/lang/StringBuilder;"), (0, .string 24), (0, u ": "), (0, .methodref 16 26), (0, .nameAndType 27 28), (0, u "toString"), (0, u "()Ljava/lang/String;"), (8, u "(Ljava/lang/String;Ljava/lang/String;)V")] 6

def k2c0 : Code := { maxStack := 2, maxLocals := 3, code := prog_23_method_1_code, exceptionTable := #[], attributes := #[] }
def k2m0 : Method := { name := "<init>", desc := "(Ljava/lang/String;Ljava/lang/String;)V", sig := { parameters := [(.object "java/lang/String"), (.object "java/lang/String")], returnType := none }, accessFlags := 0, code := some k2c0 }
def k2c1 : Code := { maxStack := 2, maxLocals := 1, code := prog_23_method_4_code, exceptionTable := #[], attributes := #[] }
def k2m1 : Method := { name := "toString", desc := "()Ljava/lang/String;", sig := { parameters := [], returnType := some (.object "java/lang/String") }, accessFlags := 1, code := some k2c1 }
/-- com/example/linewire/linewire/SchemaViolation -/
def k2 : Class := { plain "com/example/linewire/linewire/SchemaViolation" (some 0) with
  accessFlags := 49
  interfaces := #[]
  cf := some (fileOf pool2 8 #[] #[{ accessFlags := 0, nameIndex := 5, descriptorIndex := 37, attributes := #[] }, { accessFlags := 1, nameIndex := 27, descriptorIndex := 28, attributes := #[] }] 49 2 #[] #[{ accessFlags := 18, nameIndex := 11, descriptorIndex := 12, attributes := #[] }, { accessFlags := 18, nameIndex := 15, descriptorIndex := 12, attributes := #[] }])
  fields := #[{ name := "pointer", type := (.object "java/lang/String"), accessFlags := 18, slot := 0, constantValue := 0 }, { name := "reason", type := (.object "java/lang/String"), accessFlags := 18, slot := 1, constantValue := 0 }]
  methods := #[k2m0, k2m1]
  instanceTypes := #[(.object "java/lang/String"), (.object "java/lang/String")]
  staticTypes := #[]
  resolved := Array.replicate 44 none
  statics := none }

def pool3 : Array CpInfo := pool [(1, .class_ 2), (0, u "java/io/Serializable"), (0, .class_ 4), (0, u "java/lang/Object")] 2

/-- java/io/Serializable -/
def k3 : Class := { plain "java/io/Serializable" (some 0) with
  accessFlags := 1537
  interfaces := #[]
  cf := some (fileOf pool3 1 #[] #[] 1537 3 #[] #[])
  fields := #[]
  methods := #[]
  instanceTypes := #[]
  staticTypes := #[]
  resolved := Array.replicate 7 none
  statics := none }

def pool4 : Array CpInfo := pool [(1, .class_ 2), (0, u "java/lang/Comparable"), (0, .class_ 4), (0, u "java/lang/Object")] 7

/-- java/lang/Comparable -/
def k4 : Class := { plain "java/lang/Comparable" (some 0) with
  accessFlags := 1537
  interfaces := #[]
  cf := some (fileOf pool4 1 #[] #[] 1537 3 #[] #[])
  fields := #[]
  methods := #[]
  instanceTypes := #[]
  staticTypes := #[]
  resolved := Array.replicate 12 none
  statics := none }

def pool5 : Array CpInfo := pool [(2, .class_ 4), (1, u "java/lang/CharSequence"), (42, .class_ 48), (0, u "java/lang/CharSequence$1CodePointIterator"), (10, .class_ 60), (0, u "java/lang/CharSequence$1CharIterator"), (5, .class_ 67), (0, u "java/lang/Object")] 63

/-- java/lang/CharSequence -/
def k5 : Class := { plain "java/lang/CharSequence" (some 0) with
  accessFlags := 1537
  interfaces := #[]
  cf := some (fileOf pool5 2 #[.nestMembers #[47, 59]] #[] 1537 66 #[] #[])
  fields := #[]
  methods := #[]
  instanceTypes := #[]
  staticTypes := #[]
  resolved := Array.replicate 131 none
  statics := none }

def pool6 : Array CpInfo := pool [(1, .class_ 2), (0, u "java/lang/constant/Constable"), (0, .class_ 4), (0, u "java/lang/Object")] 6

/-- java/lang/constant/Constable -/
def k6 : Class := { plain "java/lang/constant/Constable" (some 0) with
  accessFlags := 1537
  interfaces := #[]
  cf := some (fileOf pool6 1 #[] #[] 1537 3 #[] #[])
  fields := #[]
  methods := #[]
  instanceTypes := #[]
  staticTypes := #[]
  resolved := Array.replicate 11 none
  statics := none }

def pool7 : Array CpInfo := pool [(1, .class_ 2), (0, u "java/lang/constant/ConstantDesc"), (0, .class_ 4), (0, u "java/lang/Object")] 32

/-- java/lang/constant/ConstantDesc -/
def k7 : Class := { plain "java/lang/constant/ConstantDesc" (some 0) with
  accessFlags := 1537
  interfaces := #[]
  cf := some (fileOf pool7 1 #[] #[] 1537 3 #[] #[])
  fields := #[]
  methods := #[]
  instanceTypes := #[]
  staticTypes := #[]
  resolved := Array.replicate 37 none
  statics := none }

def pool8 : Array CpInfo := pool [(1, .methodref 2 3), (0, .class_ 4), (0, .nameAndType 5 6), (0, u "java/lang/Object"), (0, u "<init>"), (0, u "()V"), (0, .string 8), (0, u ""), (0, .fieldref 10 11), (0, .class_ 12), (0, .nameAndType 13 14), (0, u "java/lang/String"), (0, u "value"), (0, u "[B"), (0, .fieldref 10 16), (0, .nameAndType 17 18), (0, u "coder"), (0, u "B"), (2, u "hash"), (0, u "I"), (2, u "hashIsZero"), (0, u "Z"), (0, .methodref 10 28), (0, .nameAndType 5 29), (0, u "([CIILjava/lang/Void;)V"), (8, .fieldref 10 39), (0, .nameAndType 40 26), (0, u "COMPACT_STRINGS"), (1, .class_ 44), (1, u "java/lang/StringUTF16"), (0, u "compress"), (1, .methodref 42 48), (0, .nameAndType 49 50), (0, u "coderFromArrayLen"), (0, u "([BI)B"), (2, u "toBytes"), (0, .methodref 55 56), (0, .class_ 57), (0, .nameAndType 58 59), (0, u "java/util/Arrays"), (0, u "copyOfRange"), (0, u "([BII)[B"), (47, .class_ 109), (1, u "java/lang/StringLatin1"), (32, u "()Z"), (34, .methodref 42 178), (0, .nameAndType 45 179), (0, u "([CII)[B"), (13, .class_ 195), (1, u "java/lang/System"), (13, .methodref 10 210), (0, .nameAndType 5 211), (0, u "([BB)V"), (0, .methodref 193 213), (0, .nameAndType 214 215), (0, u "arraycopy"), (0, u "(Ljava/lang/Object;ILjava/lang/Object;II)V"), (118, u "()I"), (0, .methodref 10 336), (0, .nameAndType 17 337), (0, u "()B"), (2, u "()[B"), (22, u "([BI)C"), (5, u "(C)Z"), (21, u "(II)V"), (35, u "(I)C"), (61, .methodref 10 490), (0, .nameAndType 5 491), (0, u "(Ljava/lang/AbstractStringBuilder;Ljava/lang/Void;)V"), (0, .methodref 10 493), (0, .nameAndType 494 142), (0, u "isLatin1"), (0, .methodref 107 496), (0, .nameAndType 497 363), (0, u "charAt"), (3, u "checkIndex"), (4, .nameAndType 507 334), (0, u "length"), (24, u "getBytes"), (16, .methodref 550 506), (0, .class_ 551), (0, u "java/lang/AbstractStringBuilder"), (0, .methodref 550 553), (0, .nameAndType 554 340), (0, u "getValue"), (20, .class_ 576), (0, u "java/lang/CharSequence"), (22, u "CASE_INSENSITIVE_ORDER"), (0, u "Ljava/util/Comparator;"), (181, u "valueOf"), (0, u "(C)Ljava/lang/String;"), (37, u "([BIB)V"), (188, u "([C)V"), (4, .methodref 107 1016), (0, .nameAndType 1017 369), (0, u "canEncode"), (0, .methodref 107 1019), (0, .nameAndType 53 1020), (0, u "(C)[B"), (26, .methodref 550 493), (5, .fieldref 1054 1055), (0, .class_ 1056), (0, .nameAndType 1057 1058), (0, u "jdk/internal/util/Preconditions"), (0, u "SIOOBE_FORMATTER"), (0, u "Ljava/util/function/BiFunction;"), (0, .methodref 1054 1060), (0, .nameAndType 501 1061), (0, u "(IILjava/util/function/BiFunction;)I"), (39, u "serialPersistentFields"), (0, u "[Ljava/io/ObjectStreamField;"), (0, .class_ 1104), (0, u "java/lang/String$CaseInsensitiveComparator"), (1, .class_ 1107), (0, u "java/io/Serializable"), (0, .class_ 1109), (0, u "java/lang/Comparable"), (0, .class_ 1111), (0, u "java/lang/constant/Constable"), (0, .class_ 1113), (0, u "java/lang/constant/ConstantDesc"), (2, u "serialVersionUID"), (0, u "J"), (3, u "REPL"), (0, u "C"), (2, u "LATIN1"), (1, u "UTF16"), (105, u "(Ljava/lang/StringBuilder;)V")] 217

def k8m0 : Method := { name := "<init>", desc := "()V", sig := { parameters := [], returnType := none }, accessFlags := 1, code := none }
def k8c1 : Code := { maxStack := 5, maxLocals := 2, code := jdk_42_method_3_code, exceptionTable := #[], attributes := #[] }
def k8m1 : Method := { name := "<init>", desc := "([C)V", sig := { parameters := [(.array .char)], returnType := none }, accessFlags := 1, code := some k8c1 }
def k8c2 : Code := { maxStack := 3, maxLocals := 2, code := jdk_42_method_53_code, exceptionTable := #[], attributes := #[] }
def k8m2 : Method := { name := "<init>", desc := "(Ljava/lang/StringBuilder;)V", sig := { parameters := [(.object "java/lang/StringBuilder")], returnType := none }, accessFlags := 1, code := some k8c2 }
def k8c3 : Code := { maxStack := 2, maxLocals := 1, code := jdk_42_method_54_code, exceptionTable := #[], attributes := #[] }
def k8m3 : Method := { name := "length", desc := "()I", sig := { parameters := [], returnType := some .int }, accessFlags := 1, code := some k8c3 }
def k8c4 : Code := { maxStack := 2, maxLocals := 2, code := jdk_42_method_56_code, exceptionTable := #[], attributes := #[] }
def k8m4 : Method := { name := "charAt", desc := "(I)C", sig := { parameters := [.int], returnType := some .char }, accessFlags := 1, code := some k8c4 }
def k8c5 : Code := { maxStack := 4, maxLocals := 1, code := jdk_42_method_139_code, exceptionTable := #[], attributes := #[] }
def k8m5 : Method := { name := "valueOf", desc := "(C)Ljava/lang/String;", sig := { parameters := [.char], returnType := some (.object "java/lang/String") }, accessFlags := 9, code := some k8c5 }
def k8c6 : Code := { maxStack := 5, maxLocals := 4, code := jdk_42_method_147_code, exceptionTable := #[], attributes := #[] }
def k8m6 : Method := { name := "getBytes", desc := "([BIB)V", sig := { parameters := [(.array .byte), .int, .byte], returnType := none }, accessFlags := 0, code := some k8c6 }
def k8c7 : Code := { maxStack := 4, maxLocals := 6, code := jdk_42_method_149_code, exceptionTable := #[], attributes := #[] }
def k8m7 : Method := { name := "<init>", desc := "([CIILjava/lang/Void;)V", sig := { parameters := [(.array .char), .int, .int, (.object "java/lang/Void")], returnType := none }, accessFlags := 2, code := some k8c7 }
def k8c8 : Code := { maxStack := 5, maxLocals := 5, code := jdk_42_method_150_code, exceptionTable := #[], attributes := #[] }
def k8m8 : Method := { name := "<init>", desc := "(Ljava/lang/AbstractStringBuilder;Ljava/lang/Void;)V", sig := { parameters := [(.object "java/lang/AbstractStringBuilder"), (.object "java/lang/Void")], returnType := none }, accessFlags := 0, code := some k8c8 }
def k8c9 : Code := { maxStack := 2, maxLocals := 3, code := jdk_42_method_151_code, exceptionTable := #[], attributes := #[] }
def k8m9 : Method := { name := "<init>", desc := "([BB)V", sig := { parameters := [(.array .byte), .byte], returnType := none }, accessFlags := 0, code := some k8c9 }
def k8c10 : Code := { maxStack := 1, maxLocals := 1, code := jdk_42_method_152_code, exceptionTable := #[], attributes := #[] }
def k8m10 : Method := { name := "coder", desc := "()B", sig := { parameters := [], returnType := some .byte }, accessFlags := 0, code := some k8c10 }
def k8c11 : Code := { maxStack := 1, maxLocals := 1, code := jdk_42_method_154_code, exceptionTable := #[], attributes := #[] }
def k8m11 : Method := { name := "isLatin1", desc := "()Z", sig := { parameters := [], returnType := some .boolean }, accessFlags := 0, code := some k8c11 }
def k8c12 : Code := { maxStack := 3, maxLocals := 2, code := jdk_42_method_155_code, exceptionTable := #[], attributes := #[] }
def k8m12 : Method := { name := "checkIndex", desc := "(II)V", sig := { parameters := [.int, .int], returnType := none }, accessFlags := 8, code := some k8c12 }
/-- java/lang/String -/
def k8 : Class := { plain "java/lang/String" (some 0) with
  accessFlags := 49
  interfaces := #[3, 4, 5, 6, 7]
  cf := some (fileOf pool8 10 #[.nestMembers #[1103]] #[{ accessFlags := 1, nameIndex := 5, descriptorIndex := 6, attributes := #[] }, { accessFlags := 1, nameIndex := 5, descriptorIndex := 1010, attributes := #[] }, { accessFlags := 1, nameIndex := 5, descriptorIndex := 1233, attributes := #[] }, { accessFlags := 1, nameIndex := 507, descriptorIndex := 334, attributes := #[] }, { accessFlags := 1, nameIndex := 497, descriptorIndex := 427, attributes := #[] }, { accessFlags := 9, nameIndex := 782, descriptorIndex := 783, attributes := #[] }, { accessFlags := 0, nameIndex := 532, descriptorIndex := 821, attributes := #[] }, { accessFlags := 2, nameIndex := 5, descriptorIndex := 29, attributes := #[] }, { accessFlags := 0, nameIndex := 5, descriptorIndex := 491, attributes := #[] }, { accessFlags := 0, nameIndex := 5, descriptorIndex := 211, attributes := #[] }, { accessFlags := 0, nameIndex := 17, descriptorIndex := 337, attributes := #[] }, { accessFlags := 0, nameIndex := 494, descriptorIndex := 142, attributes := #[] }, { accessFlags := 8, nameIndex := 501, descriptorIndex := 391, attributes := #[] }] 49 2 #[1106, 1108, 575, 1110, 1112] #[{ accessFlags := 18, nameIndex := 13, descriptorIndex := 14, attributes := #[] }, { accessFlags := 18, nameIndex := 17, descriptorIndex := 18, attributes := #[] }, { accessFlags := 2, nameIndex := 21, descriptorIndex := 22, attributes := #[] }, { accessFlags := 2, nameIndex := 25, descriptorIndex := 26, attributes := #[] }, { accessFlags := 26, nameIndex := 1116, descriptorIndex := 1117, attributes := #[] }, { accessFlags := 24, nameIndex := 40, descriptorIndex := 26, attributes := #[] }, { accessFlags := 26, nameIndex := 1101, descriptorIndex := 1102, attributes := #[] }, { accessFlags := 26, nameIndex := 1121, descriptorIndex := 1122, attributes := #[] }, { accessFlags := 25, nameIndex := 599, descriptorIndex := 600, attributes := #[] }, { accessFlags := 24, nameIndex := 1125, descriptorIndex := 18, attributes := #[] }, { accessFlags := 24, nameIndex := 1127, descriptorIndex := 18, attributes := #[] }])
  fields := #[{ name := "value", type := (.array .byte), accessFlags := 18, slot := 0, constantValue := 0 }, { name := "coder", type := .byte, accessFlags := 18, slot := 1, constantValue := 0 }, { name := "hash", type := .int, accessFlags := 2, slot := 2, constantValue := 0 }, { name := "hashIsZero", type := .boolean, accessFlags := 2, slot := 3, constantValue := 0 }, { name := "serialVersionUID", type := .long, accessFlags := 26, slot := 0, constantValue := 0 }, { name := "COMPACT_STRINGS", type := .boolean, accessFlags := 24, slot := 1, constantValue := 0 }, { name := "serialPersistentFields", type := (.array (.object "java/io/ObjectStreamField")), accessFlags := 26, slot := 2, constantValue := 0 }, { name := "REPL", type := .char, accessFlags := 26, slot := 3, constantValue := 0 }, { name := "CASE_INSENSITIVE_ORDER", type := (.object "java/util/Comparator"), accessFlags := 25, slot := 4, constantValue := 0 }, { name := "LATIN1", type := .byte, accessFlags := 24, slot := 5, constantValue := 0 }, { name := "UTF16", type := .byte, accessFlags := 24, slot := 6, constantValue := 0 }]
  methods := #[k8m0, k8m1, k8m2, k8m3, k8m4, k8m5, k8m6, k8m7, k8m8, k8m9, k8m10, k8m11, k8m12]
  instanceTypes := #[(.array .byte), .byte, .int, .boolean]
  staticTypes := #[.long, .boolean, (.array (.object "java/io/ObjectStreamField")), .char, (.object "java/util/Comparator"), .byte, .byte]
  resolved := Array.replicate 1451 none
  statics := some 0 }

def pool9 : Array CpInfo := pool [(1, .class_ 2), (0, u "java/lang/Appendable"), (0, .class_ 4), (0, u "java/lang/Object")] 9

/-- java/lang/Appendable -/
def k9 : Class := { plain "java/lang/Appendable" (some 0) with
  accessFlags := 1537
  interfaces := #[]
  cf := some (fileOf pool9 1 #[] #[] 1537 3 #[] #[])
  fields := #[]
  methods := #[]
  instanceTypes := #[]
  staticTypes := #[]
  resolved := Array.replicate 14 none
  statics := none }

def pool10 : Array CpInfo := pool [(1, .class_ 2), (0, u "java/lang/String"), (0, .methodref 4 5), (0, .class_ 6), (0, .nameAndType 7 8), (0, u "java/lang/Object"), (0, u "<init>"), (0, u "()V"), (1, .class_ 12), (1, u "java/lang/AbstractStringBuilder"), (0, u "EMPTYVALUE"), (0, u "[B"), (0, .fieldref 10 16), (0, .nameAndType 17 14), (0, u "value"), (0, .fieldref 1 19), (0, .nameAndType 20 21), (0, u "COMPACT_STRINGS"), (0, u "Z"), (0, .fieldref 10 23), (0, .nameAndType 24 25), (0, u "coder"), (0, u "B"), (6, .methodref 1 33), (0, .nameAndType 34 35), (0, u "length"), (0, u "()I"), (4, .methodref 1 41), (0, .nameAndType 24 42), (0, u "()B"), (2, u "append"), (0, u "(Ljava/lang/String;)Ljava/lang/AbstractStringBuilder;"), (1, .class_ 49), (0, u "java/lang/CharSequence"), (19, u "(Ljava/lang/String;)V"), (5, u "maybeLatin1"), (3, .fieldref 10 80), (0, .nameAndType 81 82), (0, u "count"), (0, u "I"), (2, u "isLatin1"), (0, u "()Z"), (13, .methodref 10 101), (0, .nameAndType 102 103), (0, u "ensureCapacityInternal"), (0, u "(I)V"), (104, .methodref 10 209), (0, .nameAndType 210 211), (0, u "putStringAt"), (0, u "(ILjava/lang/String;)V"), (5, u "inflateIfNeededFor"), (2, .nameAndType 221 222), (0, u "getBytes"), (0, u "([BIB)V"), (174, .methodref 10 398), (0, .nameAndType 217 69), (0, .methodref 1 220), (3, u "()[B"), (40, .class_ 445), (0, u "java/lang/Appendable"), (106, u "getValue")] 56

def k10m0 : Method := { name := "<init>", desc := "()V", sig := { parameters := [], returnType := none }, accessFlags := 0, code := none }
def k10c1 : Code := { maxStack := 2, maxLocals := 2, code := jdk_68_method_2_code, exceptionTable := #[], attributes := #[] }
def k10m1 : Method := { name := "<init>", desc := "(I)V", sig := { parameters := [.int], returnType := none }, accessFlags := 0, code := some k10c1 }
def k10c2 : Code := { maxStack := 1, maxLocals := 1, code := jdk_68_method_6_code, exceptionTable := #[], attributes := #[] }
def k10m2 : Method := { name := "length", desc := "()I", sig := { parameters := [], returnType := some .int }, accessFlags := 1, code := some k10c2 }
def k10c3 : Code := { maxStack := 4, maxLocals := 3, code := jdk_68_method_9_code, exceptionTable := #[], attributes := #[] }
def k10m3 : Method := { name := "ensureCapacityInternal", desc := "(I)V", sig := { parameters := [.int], returnType := none }, accessFlags := 2, code := some k10c3 }
def k10c4 : Code := { maxStack := 3, maxLocals := 3, code := jdk_68_method_22_code, exceptionTable := #[], attributes := #[] }
def k10m4 : Method := { name := "append", desc := "(Ljava/lang/String;)Ljava/lang/AbstractStringBuilder;", sig := { parameters := [(.object "java/lang/String")], returnType := some (.object "java/lang/AbstractStringBuilder") }, accessFlags := 1, code := some k10c4 }
def k10c5 : Code := { maxStack := 1, maxLocals := 1, code := jdk_68_method_64_code, exceptionTable := #[], attributes := #[] }
def k10m5 : Method := { name := "getValue", desc := "()[B", sig := { parameters := [], returnType := some (.array .byte) }, accessFlags := 16, code := some k10c5 }
def k10c6 : Code := { maxStack := 1, maxLocals := 1, code := jdk_68_method_68_code, exceptionTable := #[], attributes := #[] }
def k10m6 : Method := { name := "isLatin1", desc := "()Z", sig := { parameters := [], returnType := some .boolean }, accessFlags := 16, code := some k10c6 }
def k10c7 : Code := { maxStack := 2, maxLocals := 2, code := jdk_68_method_71_code, exceptionTable := #[], attributes := #[] }
def k10m7 : Method := { name := "inflateIfNeededFor", desc := "(Ljava/lang/String;)V", sig := { parameters := [(.object "java/lang/String")], returnType := none }, accessFlags := 2, code := some k10c7 }
def k10c8 : Code := { maxStack := 4, maxLocals := 3, code := jdk_68_method_73_code, exceptionTable := #[], attributes := #[] }
def k10m8 : Method := { name := "putStringAt", desc := "(ILjava/lang/String;)V", sig := { parameters := [.int, (.object "java/lang/String")], returnType := none }, accessFlags := 2, code := some k10c8 }
/-- java/lang/AbstractStringBuilder -/
def k10 : Class := { plain "java/lang/AbstractStringBuilder" (some 0) with
  accessFlags := 1056
  interfaces := #[9, 5]
  cf := some (fileOf pool10 10 #[] #[{ accessFlags := 0, nameIndex := 7, descriptorIndex := 8, attributes := #[] }, { accessFlags := 0, nameIndex := 7, descriptorIndex := 103, attributes := #[] }, { accessFlags := 1, nameIndex := 34, descriptorIndex := 35, attributes := #[] }, { accessFlags := 2, nameIndex := 102, descriptorIndex := 103, attributes := #[] }, { accessFlags := 1, nameIndex := 45, descriptorIndex := 46, attributes := #[] }, { accessFlags := 16, nameIndex := 552, descriptorIndex := 403, attributes := #[] }, { accessFlags := 16, nameIndex := 85, descriptorIndex := 86, attributes := #[] }, { accessFlags := 2, nameIndex := 217, descriptorIndex := 69, attributes := #[] }, { accessFlags := 2, nameIndex := 210, descriptorIndex := 211, attributes := #[] }] 1056 4 #[444, 48] #[{ accessFlags := 0, nameIndex := 17, descriptorIndex := 14, attributes := #[] }, { accessFlags := 0, nameIndex := 24, descriptorIndex := 25, attributes := #[] }, { accessFlags := 0, nameIndex := 75, descriptorIndex := 21, attributes := #[] }, { accessFlags := 0, nameIndex := 81, descriptorIndex := 82, attributes := #[] }, { accessFlags := 26, nameIndex := 13, descriptorIndex := 14, attributes := #[] }])
  fields := #[{ name := "value", type := (.array .byte), accessFlags := 0, slot := 0, constantValue := 0 }, { name := "coder", type := .byte, accessFlags := 0, slot := 1, constantValue := 0 }, { name := "maybeLatin1", type := .boolean, accessFlags := 0, slot := 2, constantValue := 0 }, { name := "count", type := .int, accessFlags := 0, slot := 3, constantValue := 0 }, { name := "EMPTYVALUE", type := (.array .byte), accessFlags := 26, slot := 0, constantValue := 0 }]
  methods := #[k10m0, k10m1, k10m2, k10m3, k10m4, k10m5, k10m6, k10m7, k10m8]
  instanceTypes := #[(.array .byte), .byte, .boolean, .int]
  staticTypes := #[(.array .byte)]
  resolved := Array.replicate 609 none
  statics := none }

def pool11 : Array CpInfo := pool [(1, .methodref 2 3), (0, .class_ 4), (0, .nameAndType 5 6), (0, u "java/lang/AbstractStringBuilder"), (0, u "<init>"), (0, u "(I)V"), (11, .class_ 20), (1, u "java/lang/String"), (3, .class_ 26), (1, u "java/lang/StringBuilder"), (0, u "append"), (0, u "(Ljava/lang/String;)Ljava/lang/StringBuilder;"), (0, .methodref 2 30), (0, .nameAndType 27 31), (0, u "(Ljava/lang/String;)Ljava/lang/AbstractStringBuilder;"), (105, .methodref 18 138), (0, .nameAndType 5 139), (0, u "(Ljava/lang/StringBuilder;)V"), (5, u "()V"), (10, u "()I"), (186, .methodref 2 344), (0, .nameAndType 345 156), (0, u "length"), (3, .class_ 350), (0, u "java/lang/Appendable"), (0, .class_ 352), (0, u "java/io/Serializable"), (0, .class_ 354), (0, u "java/lang/Comparable"), (0, .class_ 356), (0, u "java/lang/CharSequence"), (0, u "serialVersionUID"), (0, u "J"), (40, u "toString"), (0, u "()Ljava/lang/String;")] 21

def k11c0 : Code := { maxStack := 2, maxLocals := 1, code := jdk_67_method_1_code, exceptionTable := #[], attributes := #[] }
def k11m0 : Method := { name := "<init>", desc := "()V", sig := { parameters := [], returnType := none }, accessFlags := 1, code := some k11c0 }
def k11c1 : Code := { maxStack := 2, maxLocals := 2, code := jdk_67_method_7_code, exceptionTable := #[], attributes := #[] }
def k11m1 : Method := { name := "append", desc := "(Ljava/lang/String;)Ljava/lang/StringBuilder;", sig := { parameters := [(.object "java/lang/String")], returnType := some (.object "java/lang/StringBuilder") }, accessFlags := 1, code := some k11c1 }
def k11c2 : Code := { maxStack := 3, maxLocals := 1, code := jdk_67_method_42_code, exceptionTable := #[], attributes := #[] }
def k11m2 : Method := { name := "toString", desc := "()Ljava/lang/String;", sig := { parameters := [], returnType := some (.object "java/lang/String") }, accessFlags := 1, code := some k11c2 }
def k11c3 : Code := { maxStack := 1, maxLocals := 1, code := jdk_67_method_93_code, exceptionTable := #[], attributes := #[] }
def k11m3 : Method := { name := "length", desc := "()I", sig := { parameters := [], returnType := some .int }, accessFlags := 4161, code := some k11c3 }
/-- java/lang/StringBuilder -/
def k11 : Class := { plain "java/lang/StringBuilder" (some 10) with
  accessFlags := 49
  interfaces := #[9, 3, 4, 5]
  cf := some (fileOf pool11 24 #[] #[{ accessFlags := 1, nameIndex := 5, descriptorIndex := 145, attributes := #[] }, { accessFlags := 1, nameIndex := 27, descriptorIndex := 28, attributes := #[] }, { accessFlags := 1, nameIndex := 399, descriptorIndex := 400, attributes := #[] }, { accessFlags := 4161, nameIndex := 345, descriptorIndex := 156, attributes := #[] }] 49 2 #[349, 351, 353, 355] #[{ accessFlags := 24, nameIndex := 357, descriptorIndex := 358, attributes := #[] }])
  fields := #[{ name := "serialVersionUID", type := .long, accessFlags := 24, slot := 0, constantValue := 0 }]
  methods := #[k11m0, k11m1, k11m2, k11m3]
  instanceTypes := #[(.array .byte), .byte, .boolean, .int]
  staticTypes := #[.long]
  resolved := Array.replicate 422 none
  statics := none }

def pool12 : Array CpInfo := pool [(2, .class_ 4), (1, u "java/lang/Object"), (0, u "<init>"), (0, u "()V"), (1, .class_ 10), (1, u "java/lang/System"), (0, u "allowSecurityManager"), (0, u "I"), (16, u "cons"), (0, u "Ljava/io/Console;"), (77, .class_ 110), (1, u "java/lang/System$CallersHolder"), (43, u "initialErrStream"), (0, u "Ljava/io/PrintStream;"), (19, u "security"), (0, u "Ljava/lang/SecurityManager;"), (31, .class_ 209), (0, u "java/lang/System$1"), (7, u "props"), (0, u "Ljava/util/Properties;"), (2, u "lineSeparator"), (0, u "Ljava/lang/String;"), (96, .class_ 321), (1, u "java/lang/System$LoggerFinder"), (5, .class_ 328), (0, u "java/lang/System$Logger"), (67, u "err"), (2, u "out"), (91, u "notSupportedJnuEncoding"), (15, u "in"), (17, u "initialIn"), (0, u "Ljava/io/InputStream;"), (35, u "bootLayer"), (0, u "Ljava/lang/ModuleLayer;"), (99, .class_ 664), (0, u "java/lang/System$2"), (9, u "NEVER"), (2, u "MAYBE"), (49, u "arraycopy"), (0, u "(Ljava/lang/Object;ILjava/lang/Object;II)V"), (72, .class_ 802), (0, u "java/lang/System$Logger$Level")] 31

def k12m0 : Method := { name := "<init>", desc := "()V", sig := { parameters := [], returnType := none }, accessFlags := 2, code := none }
def k12m1 : Method := { name := "arraycopy", desc := "(Ljava/lang/Object;ILjava/lang/Object;II)V", sig := { parameters := [(.object "java/lang/Object"), .int, (.object "java/lang/Object"), .int, .int], returnType := none }, accessFlags := 265, code := none }
/-- java/lang/System -/
def k12 : Class := { plain "java/lang/System" (some 0) with
  accessFlags := 49
  interfaces := #[]
  cf := some (fileOf pool12 8 #[.nestMembers #[319, 327, 801, 108, 663, 208]] #[{ accessFlags := 2, nameIndex := 5, descriptorIndex := 6, attributes := #[] }, { accessFlags := 265, nameIndex := 727, descriptorIndex := 728, attributes := #[] }] 49 2 #[] #[{ accessFlags := 25, nameIndex := 507, descriptorIndex := 526, attributes := #[] }, { accessFlags := 25, nameIndex := 399, descriptorIndex := 155, attributes := #[] }, { accessFlags := 25, nameIndex := 396, descriptorIndex := 155, attributes := #[] }, { accessFlags := 10, nameIndex := 525, descriptorIndex := 526, attributes := #[] }, { accessFlags := 26, nameIndex := 674, descriptorIndex := 12, attributes := #[] }, { accessFlags := 26, nameIndex := 677, descriptorIndex := 12, attributes := #[] }, { accessFlags := 10, nameIndex := 11, descriptorIndex := 12, attributes := #[] }, { accessFlags := 74, nameIndex := 175, descriptorIndex := 176, attributes := #[] }, { accessFlags := 10, nameIndex := 491, descriptorIndex := 222, attributes := #[] }, { accessFlags := 74, nameIndex := 29, descriptorIndex := 30, attributes := #[] }, { accessFlags := 74, nameIndex := 154, descriptorIndex := 155, attributes := #[] }, { accessFlags := 10, nameIndex := 217, descriptorIndex := 218, attributes := #[] }, { accessFlags := 10, nameIndex := 221, descriptorIndex := 222, attributes := #[] }, { accessFlags := 8, nameIndex := 562, descriptorIndex := 563, attributes := #[] }])
  fields := #[{ name := "in", type := (.object "java/io/InputStream"), accessFlags := 25, slot := 0, constantValue := 0 }, { name := "out", type := (.object "java/io/PrintStream"), accessFlags := 25, slot := 1, constantValue := 0 }, { name := "err", type := (.object "java/io/PrintStream"), accessFlags := 25, slot := 2, constantValue := 0 }, { name := "initialIn", type := (.object "java/io/InputStream"), accessFlags := 10, slot := 3, constantValue := 0 }, { name := "NEVER", type := .int, accessFlags := 26, slot := 4, constantValue := 0 }, { name := "MAYBE", type := .int, accessFlags := 26, slot := 5, constantValue := 0 }, { name := "allowSecurityManager", type := .int, accessFlags := 10, slot := 6, constantValue := 0 }, { name := "security", type := (.object "java/lang/SecurityManager"), accessFlags := 74, slot := 7, constantValue := 0 }, { name := "notSupportedJnuEncoding", type := (.object "java/lang/String"), accessFlags := 10, slot := 8, constantValue := 0 }, { name := "cons", type := (.object "java/io/Console"), accessFlags := 74, slot := 9, constantValue := 0 }, { name := "initialErrStream", type := (.object "java/io/PrintStream"), accessFlags := 74, slot := 10, constantValue := 0 }, { name := "props", type := (.object "java/util/Properties"), accessFlags := 10, slot := 11, constantValue := 0 }, { name := "lineSeparator", type := (.object "java/lang/String"), accessFlags := 10, slot := 12, constantValue := 0 }, { name := "bootLayer", type := (.object "java/lang/ModuleLayer"), accessFlags := 8, slot := 13, constantValue := 0 }]
  methods := #[k12m0, k12m1]
  instanceTypes := #[]
  staticTypes := #[(.object "java/io/InputStream"), (.object "java/io/PrintStream"), (.object "java/io/PrintStream"), (.object "java/io/InputStream"), .int, .int, .int, (.object "java/lang/SecurityManager"), (.object "java/lang/String"), (.object "java/io/Console"), (.object "java/io/PrintStream"), (.object "java/util/Properties"), (.object "java/lang/String"), (.object "java/lang/ModuleLayer")]
  resolved := Array.replicate 834 none
  statics := none }

def pool13 : Array CpInfo := pool [(2, .class_ 4), (1, u "java/lang/Object"), (0, u "<init>"), (0, u "()V"), (7, .class_ 16), (1, u "java/util/Arrays"), (57, .class_ 76), (1, u "java/util/Arrays$NaturalOrder"), (36, .class_ 115), (1, u "java/util/Arrays$LegacyMergeSort"), (1, u "Z"), (21, u "copyOfRange"), (10, .methodref 151 152), (0, .class_ 153), (0, .nameAndType 154 155), (0, u "java/lang/System"), (0, u "arraycopy"), (0, u "(Ljava/lang/Object;ILjava/lang/Object;II)V"), (148, .methodref 305 306), (0, .class_ 307), (0, .nameAndType 308 309), (0, u "java/lang/Math"), (0, u "min"), (0, u "(II)I"), (29, .methodref 14 340), (0, .nameAndType 341 342), (0, u "copyOfRangeByte"), (0, u "([BII)[B"), (0, .methodref 14 344), (0, .nameAndType 345 346), (0, u "checkLength"), (0, u "(II)V"), (28, .class_ 376), (0, u "java/util/Arrays$ArrayList"), (68, u "$assertionsDisabled"), (269, u "MIN_ARRAY_SORT_GRAN"), (0, u "I"), (2, u "INSERTIONSORT_THRESHOLD"), (255, .class_ 976), (0, u "java/util/Arrays$ArrayItr")] 52

def k13m0 : Method := { name := "<init>", desc := "()V", sig := { parameters := [], returnType := none }, accessFlags := 2, code := none }
def k13c1 : Code := { maxStack := 4, maxLocals := 2, code := jdk_65_method_131_code, exceptionTable := #[], attributes := #[] }
def k13m1 : Method := { name := "checkLength", desc := "(II)V", sig := { parameters := [.int, .int], returnType := none }, accessFlags := 10, code := some k13c1 }
def k13c2 : Code := { maxStack := 3, maxLocals := 3, code := jdk_65_method_132_code, exceptionTable := #[], attributes := #[] }
def k13m2 : Method := { name := "copyOfRange", desc := "([BII)[B", sig := { parameters := [(.array .byte), .int, .int], returnType := some (.array .byte) }, accessFlags := 9, code := some k13c2 }
def k13c3 : Code := { maxStack := 6, maxLocals := 5, code := jdk_65_method_133_code, exceptionTable := #[], attributes := #[] }
def k13m3 : Method := { name := "copyOfRangeByte", desc := "([BII)[B", sig := { parameters := [(.array .byte), .int, .int], returnType := some (.array .byte) }, accessFlags := 10, code := some k13c3 }
/-- java/util/Arrays -/
def k13 : Class := { plain "java/util/Arrays" (some 0) with
  accessFlags := 49
  interfaces := #[]
  cf := some (fileOf pool13 14 #[.nestMembers #[975, 375, 113, 74]] #[{ accessFlags := 2, nameIndex := 5, descriptorIndex := 6, attributes := #[] }, { accessFlags := 10, nameIndex := 345, descriptorIndex := 346, attributes := #[] }, { accessFlags := 9, nameIndex := 139, descriptorIndex := 342, attributes := #[] }, { accessFlags := 10, nameIndex := 341, descriptorIndex := 342, attributes := #[] }] 49 2 #[] #[{ accessFlags := 26, nameIndex := 715, descriptorIndex := 716, attributes := #[] }, { accessFlags := 26, nameIndex := 719, descriptorIndex := 716, attributes := #[] }, { accessFlags := 4120, nameIndex := 445, descriptorIndex := 117, attributes := #[] }])
  fields := #[{ name := "MIN_ARRAY_SORT_GRAN", type := .int, accessFlags := 26, slot := 0, constantValue := 0 }, { name := "INSERTIONSORT_THRESHOLD", type := .int, accessFlags := 26, slot := 1, constantValue := 0 }, { name := "$assertionsDisabled", type := .boolean, accessFlags := 4120, slot := 2, constantValue := 0 }]
  methods := #[k13m0, k13m1, k13m2, k13m3]
  instanceTypes := #[]
  staticTypes := #[.int, .int, .boolean]
  resolved := Array.replicate 1029 none
  statics := none }

def pool14 : Array CpInfo := pool [(1, .class_ 2), (0, u "java/lang/Math"), (1, .class_ 6), (1, u "java/lang/Object"), (0, u "<init>"), (0, u "()V"), (89, .class_ 100), (1, u "java/lang/Math$RandomNumberGeneratorHolder"), (71, u "negativeZeroFloatBits"), (0, u "J"), (2, u "negativeZeroDoubleBits"), (24, u "min"), (43, u "$assertionsDisabled"), (0, u "Z"), (88, u "(II)I"), (2, u "twoToTheDoubleScaleDown"), (0, u "D"), (4, u "twoToTheDoubleScaleUp"), (9, u "E"), (3, u "PI"), (2, u "TAU"), (2, u "DEGREES_TO_RADIANS"), (0, u "RADIANS_TO_DEGREES")] 94

def k14m0 : Method := { name := "<init>", desc := "()V", sig := { parameters := [], returnType := none }, accessFlags := 2, code := none }
def k14c1 : Code := { maxStack := 2, maxLocals := 2, code := jdk_29_method_69_code, exceptionTable := #[], attributes := #[] }
def k14m1 : Method := { name := "min", desc := "(II)I", sig := { parameters := [.int, .int], returnType := some .int }, accessFlags := 9, code := some k14c1 }
/-- java/lang/Math -/
def k14 : Class := { plain "java/lang/Math" (some 0) with
  accessFlags := 49
  interfaces := #[]
  cf := some (fileOf pool14 1 #[.nestMembers #[98]] #[{ accessFlags := 2, nameIndex := 7, descriptorIndex := 8, attributes := #[] }, { accessFlags := 9, nameIndex := 201, descriptorIndex := 335, attributes := #[] }] 49 4 #[] #[{ accessFlags := 25, nameIndex := 354, descriptorIndex := 339, attributes := #[] }, { accessFlags := 25, nameIndex := 358, descriptorIndex := 339, attributes := #[] }, { accessFlags := 25, nameIndex := 361, descriptorIndex := 339, attributes := #[] }, { accessFlags := 26, nameIndex := 364, descriptorIndex := 339, attributes := #[] }, { accessFlags := 26, nameIndex := 365, descriptorIndex := 339, attributes := #[] }, { accessFlags := 26, nameIndex := 172, descriptorIndex := 173, attributes := #[] }, { accessFlags := 26, nameIndex := 176, descriptorIndex := 173, attributes := #[] }, { accessFlags := 8, nameIndex := 344, descriptorIndex := 339, attributes := #[] }, { accessFlags := 8, nameIndex := 338, descriptorIndex := 339, attributes := #[] }, { accessFlags := 4120, nameIndex := 245, descriptorIndex := 246, attributes := #[] }])
  fields := #[{ name := "E", type := .double, accessFlags := 25, slot := 0, constantValue := 0 }, { name := "PI", type := .double, accessFlags := 25, slot := 1, constantValue := 0 }, { name := "TAU", type := .double, accessFlags := 25, slot := 2, constantValue := 0 }, { name := "DEGREES_TO_RADIANS", type := .double, accessFlags := 26, slot := 3, constantValue := 0 }, { name := "RADIANS_TO_DEGREES", type := .double, accessFlags := 26, slot := 4, constantValue := 0 }, { name := "negativeZeroFloatBits", type := .long, accessFlags := 26, slot := 5, constantValue := 0 }, { name := "negativeZeroDoubleBits", type := .long, accessFlags := 26, slot := 6, constantValue := 0 }, { name := "twoToTheDoubleScaleUp", type := .double, accessFlags := 8, slot := 7, constantValue := 0 }, { name := "twoToTheDoubleScaleDown", type := .double, accessFlags := 8, slot := 8, constantValue := 0 }, { name := "$assertionsDisabled", type := .boolean, accessFlags := 4120, slot := 9, constantValue := 0 }]
  methods := #[k14m0, k14m1]
  instanceTypes := #[]
  staticTypes := #[.double, .double, .double, .double, .double, .long, .long, .double, .double, .boolean]
  resolved := Array.replicate 460 none
  statics := none }

def pool15 : Array CpInfo := pool [(1, .class_ 2), (0, u "java/lang/String"), (1, .class_ 6), (1, u "java/lang/Object"), (0, u "<init>"), (0, u "()V"), (0, .methodref 1 10), (0, .nameAndType 11 12), (0, u "checkIndex"), (0, u "(II)V"), (1, .class_ 16), (1, u "java/lang/StringLatin1"), (36, u "([BI)C"), (36, u "canEncode"), (14, u "(C)Z"), (15, u "$assertionsDisabled"), (0, u "Z"), (98, .class_ 223), (1, u "java/lang/StringLatin1$LinesSpliterator"), (28, u "charAt"), (127, u "toBytes"), (1, u "(C)[B"), (7, .class_ 391), (0, u "java/lang/StringLatin1$CharsSpliterator")] 3

def k15m0 : Method := { name := "<init>", desc := "()V", sig := { parameters := [], returnType := none }, accessFlags := 0, code := none }
def k15c1 : Code := { maxStack := 2, maxLocals := 2, code := jdk_43_method_2_code, exceptionTable := #[], attributes := #[] }
def k15m1 : Method := { name := "charAt", desc := "([BI)C", sig := { parameters := [(.array .byte), .int], returnType := some .char }, accessFlags := 9, code := some k15c1 }
def k15c2 : Code := { maxStack := 2, maxLocals := 1, code := jdk_43_method_3_code, exceptionTable := #[], attributes := #[] }
def k15m2 : Method := { name := "canEncode", desc := "(C)Z", sig := { parameters := [.char], returnType := some .boolean }, accessFlags := 9, code := some k15c2 }
def k15c3 : Code := { maxStack := 4, maxLocals := 1, code := jdk_43_method_46_code, exceptionTable := #[], attributes := #[] }
def k15m3 : Method := { name := "toBytes", desc := "(C)[B", sig := { parameters := [.char], returnType := some (.array .byte) }, accessFlags := 9, code := some k15c3 }
/-- java/lang/StringLatin1 -/
def k15 : Class := { plain "java/lang/StringLatin1" (some 0) with
  accessFlags := 48
  interfaces := #[]
  cf := some (fileOf pool15 14 #[.nestMembers #[390, 221]] #[{ accessFlags := 0, nameIndex := 7, descriptorIndex := 8, attributes := #[] }, { accessFlags := 9, nameIndex := 252, descriptorIndex := 53, attributes := #[] }, { accessFlags := 9, nameIndex := 90, descriptorIndex := 105, attributes := #[] }, { accessFlags := 9, nameIndex := 380, descriptorIndex := 382, attributes := #[] }] 48 4 #[] #[{ accessFlags := 4120, nameIndex := 121, descriptorIndex := 122, attributes := #[] }])
  fields := #[{ name := "$assertionsDisabled", type := .boolean, accessFlags := 4120, slot := 0, constantValue := 0 }]
  methods := #[k15m0, k15m1, k15m2, k15m3]
  instanceTypes := #[]
  staticTypes := #[.boolean]
  resolved := Array.replicate 395 none
  statics := none }

def pool16 : Array CpInfo := pool [(2, .class_ 4), (1, u "java/lang/Object"), (0, u "<init>"), (0, u "()V"), (17, .class_ 26), (1, u "jdk/internal/util/Preconditions"), (6, u "checkIndex"), (21, .class_ 56), (0, u "jdk/internal/util/Preconditions$4"), (57, .class_ 115), (0, u "jdk/internal/util/Preconditions$1"), (7, u "SIOOBE_FORMATTER"), (0, u "Ljava/util/function/BiFunction;"), (0, .class_ 126), (0, u "jdk/internal/util/Preconditions$2"), (3, u "AIOOBE_FORMATTER"), (0, .class_ 132), (0, u "jdk/internal/util/Preconditions$3"), (3, u "IOOBE_FORMATTER"), (41, u "(IILjava/util/function/BiFunction;)I")] 15

def k16m0 : Method := { name := "<init>", desc := "()V", sig := { parameters := [], returnType := none }, accessFlags := 1, code := none }
def k16c1 : Code := { maxStack := 3, maxLocals := 3, code := jdk_41_method_11_code, exceptionTable := #[], attributes := #[] }
def k16m1 : Method := { name := "checkIndex", desc := "(IILjava/util/function/BiFunction;)I", sig := { parameters := [.int, .int, (.object "java/util/function/BiFunction")], returnType := some .int }, accessFlags := 9, code := some k16c1 }
/-- jdk/internal/util/Preconditions -/
def k16 : Class := { plain "jdk/internal/util/Preconditions" (some 0) with
  accessFlags := 33
  interfaces := #[]
  cf := some (fileOf pool16 24 #[.nestMembers #[55, 131, 125, 114]] #[{ accessFlags := 1, nameIndex := 5, descriptorIndex := 6, attributes := #[] }, { accessFlags := 9, nameIndex := 33, descriptorIndex := 178, attributes := #[] }] 33 2 #[] #[{ accessFlags := 25, nameIndex := 123, descriptorIndex := 124, attributes := #[] }, { accessFlags := 25, nameIndex := 130, descriptorIndex := 124, attributes := #[] }, { accessFlags := 25, nameIndex := 136, descriptorIndex := 124, attributes := #[] }])
  fields := #[{ name := "SIOOBE_FORMATTER", type := (.object "java/util/function/BiFunction"), accessFlags := 25, slot := 0, constantValue := 0 }, { name := "AIOOBE_FORMATTER", type := (.object "java/util/function/BiFunction"), accessFlags := 25, slot := 1, constantValue := 0 }, { name := "IOOBE_FORMATTER", type := (.object "java/util/function/BiFunction"), accessFlags := 25, slot := 2, constantValue := 0 }]
  methods := #[k16m0, k16m1]
  instanceTypes := #[]
  staticTypes := #[(.object "java/util/function/BiFunction"), (.object "java/util/function/BiFunction"), (.object "java/util/function/BiFunction")]
  resolved := Array.replicate 194 none
  statics := some 1 }

def pool17 : Array CpInfo := pool [(6, .class_ 8), (1, u "java/lang/Object"), (0, u "<init>"), (0, u "()V"), (1, .class_ 14), (1, u "java/lang/StringUTF16"), (31, u "$assertionsDisabled"), (0, u "Z"), (13, u "HI_BYTE_SHIFT"), (0, u "I"), (2, u "LO_BYTE_SHIFT"), (49, .methodref 12 116), (0, .nameAndType 117 118), (0, u "compress"), (0, u "([CI[BII)I"), (3, u "([CII)[B"), (138, u "coderFromArrayLen"), (0, u "([BI)B"), (106, .class_ 371), (1, u "java/lang/StringUTF16$LinesSpliterator"), (58, u "MAX_LENGTH"), (196, .class_ 628), (0, u "java/lang/StringUTF16$CodePointsSpliterator"), (0, .class_ 630), (0, u "java/lang/StringUTF16$CharsSpliterator")] 4

def k17m0 : Method := { name := "<init>", desc := "()V", sig := { parameters := [], returnType := none }, accessFlags := 0, code := none }
def k17c1 : Code := { maxStack := 2, maxLocals := 2, code := jdk_52_method_15_code, exceptionTable := #[], attributes := #[] }
def k17m1 : Method := { name := "coderFromArrayLen", desc := "([BI)B", sig := { parameters := [(.array .byte), .int], returnType := some .byte }, accessFlags := 8, code := some k17c1 }
def k17c2 : Code := { maxStack := 5, maxLocals := 6, code := jdk_52_method_16_code, exceptionTable := #[], attributes := #[] }
def k17m2 : Method := { name := "compress", desc := "([CII)[B", sig := { parameters := [(.array .char), .int, .int], returnType := some (.array .byte) }, accessFlags := 9, code := some k17c2 }
def k17c3 : Code := { maxStack := 3, maxLocals := 7, code := jdk_52_method_21_code, exceptionTable := #[], attributes := #[] }
def k17m3 : Method := { name := "compress", desc := "([CI[BII)I", sig := { parameters := [(.array .char), .int, (.array .byte), .int, .int], returnType := some .int }, accessFlags := 9, code := some k17c3 }
/-- java/lang/StringUTF16 -/
def k17 : Class := { plain "java/lang/StringUTF16" (some 0) with
  accessFlags := 48
  interfaces := #[]
  cf := some (fileOf pool17 12 #[.nestMembers #[627, 629, 369]] #[{ accessFlags := 0, nameIndex := 9, descriptorIndex := 10, attributes := #[] }, { accessFlags := 8, nameIndex := 261, descriptorIndex := 262, attributes := #[] }, { accessFlags := 9, nameIndex := 117, descriptorIndex := 122, attributes := #[] }, { accessFlags := 9, nameIndex := 117, descriptorIndex := 118, attributes := #[] }] 48 6 #[] #[{ accessFlags := 26, nameIndex := 61, descriptorIndex := 62, attributes := #[] }, { accessFlags := 26, nameIndex := 65, descriptorIndex := 62, attributes := #[] }, { accessFlags := 24, nameIndex := 430, descriptorIndex := 62, attributes := #[] }, { accessFlags := 4120, nameIndex := 46, descriptorIndex := 47, attributes := #[] }])
  fields := #[{ name := "HI_BYTE_SHIFT", type := .int, accessFlags := 26, slot := 0, constantValue := 0 }, { name := "LO_BYTE_SHIFT", type := .int, accessFlags := 26, slot := 1, constantValue := 0 }, { name := "MAX_LENGTH", type := .int, accessFlags := 24, slot := 2, constantValue := 0 }, { name := "$assertionsDisabled", type := .boolean, accessFlags := 4120, slot := 3, constantValue := 0 }]
  methods := #[k17m0, k17m1, k17m2, k17m3]
  instanceTypes := #[]
  staticTypes := #[.int, .int, .int, .boolean]
  resolved := Array.replicate 635 none
  statics := none }

def pool18 : Array CpInfo := pool [(9, u "<init>"), (6, .class_ 18), (1, u "java/lang/Object"), (0, u "()V"), (1, .class_ 23), (1, u "jdk/internal/util/ArraysSupport"), (0, u "LOG2_ARRAY_LONG_INDEX_SCALE"), (0, u "I"), (2, u "U"), (0, u "Ljdk/internal/misc/Unsafe;"), (8, u "BIG_ENDIAN"), (0, u "Z"), (8, u "LOG2_BYTE_BIT_SIZE"), (4, u "LOG2_ARRAY_INT_INDEX_SCALE"), (54, u "JLA"), (0, u "Ljdk/internal/access/JavaLangAccess;"), (11, u "LOG2_ARRAY_BOOLEAN_INDEX_SCALE"), (9, u "LOG2_ARRAY_BYTE_INDEX_SCALE"), (5, u "LOG2_ARRAY_CHAR_INDEX_SCALE"), (5, u "LOG2_ARRAY_SHORT_INDEX_SCALE"), (18, u "LOG2_ARRAY_FLOAT_INDEX_SCALE"), (24, u "LOG2_ARRAY_DOUBLE_INDEX_SCALE"), (89, u "T_BOOLEAN"), (2, u "T_CHAR"), (1, u "T_FLOAT"), (1, u "T_DOUBLE"), (1, u "T_BYTE"), (1, u "T_SHORT"), (1, u "T_INT"), (1, u "T_LONG"), (1, u "SOFT_MAX_ARRAY_LENGTH")] 83

def k18m0 : Method := { name := "<init>", desc := "()V", sig := { parameters := [], returnType := none }, accessFlags := 2, code := none }
/-- jdk/internal/util/ArraysSupport -/
def k18 : Class := { plain "jdk/internal/util/ArraysSupport" (some 0) with
  accessFlags := 33
  interfaces := #[]
  cf := some (fileOf pool18 21 #[] #[{ accessFlags := 2, nameIndex := 9, descriptorIndex := 19, attributes := #[] }] 33 16 #[] #[{ accessFlags := 24, nameIndex := 28, descriptorIndex := 29, attributes := #[] }, { accessFlags := 26, nameIndex := 38, descriptorIndex := 39, attributes := #[] }, { accessFlags := 25, nameIndex := 121, descriptorIndex := 25, attributes := #[] }, { accessFlags := 25, nameIndex := 131, descriptorIndex := 25, attributes := #[] }, { accessFlags := 25, nameIndex := 137, descriptorIndex := 25, attributes := #[] }, { accessFlags := 25, nameIndex := 143, descriptorIndex := 25, attributes := #[] }, { accessFlags := 25, nameIndex := 53, descriptorIndex := 25, attributes := #[] }, { accessFlags := 25, nameIndex := 24, descriptorIndex := 25, attributes := #[] }, { accessFlags := 25, nameIndex := 162, descriptorIndex := 25, attributes := #[] }, { accessFlags := 25, nameIndex := 187, descriptorIndex := 25, attributes := #[] }, { accessFlags := 26, nameIndex := 48, descriptorIndex := 25, attributes := #[] }, { accessFlags := 25, nameIndex := 277, descriptorIndex := 25, attributes := #[] }, { accessFlags := 25, nameIndex := 280, descriptorIndex := 25, attributes := #[] }, { accessFlags := 25, nameIndex := 282, descriptorIndex := 25, attributes := #[] }, { accessFlags := 25, nameIndex := 284, descriptorIndex := 25, attributes := #[] }, { accessFlags := 25, nameIndex := 286, descriptorIndex := 25, attributes := #[] }, { accessFlags := 25, nameIndex := 288, descriptorIndex := 25, attributes := #[] }, { accessFlags := 25, nameIndex := 290, descriptorIndex := 25, attributes := #[] }, { accessFlags := 25, nameIndex := 292, descriptorIndex := 25, attributes := #[] }, { accessFlags := 26, nameIndex := 108, descriptorIndex := 109, attributes := #[] }, { accessFlags := 25, nameIndex := 294, descriptorIndex := 25, attributes := #[] }])
  fields := #[{ name := "U", type := (.object "jdk/internal/misc/Unsafe"), accessFlags := 24, slot := 0, constantValue := 0 }, { name := "BIG_ENDIAN", type := .boolean, accessFlags := 26, slot := 1, constantValue := 0 }, { name := "LOG2_ARRAY_BOOLEAN_INDEX_SCALE", type := .int, accessFlags := 25, slot := 2, constantValue := 0 }, { name := "LOG2_ARRAY_BYTE_INDEX_SCALE", type := .int, accessFlags := 25, slot := 3, constantValue := 0 }, { name := "LOG2_ARRAY_CHAR_INDEX_SCALE", type := .int, accessFlags := 25, slot := 4, constantValue := 0 }, { name := "LOG2_ARRAY_SHORT_INDEX_SCALE", type := .int, accessFlags := 25, slot := 5, constantValue := 0 }, { name := "LOG2_ARRAY_INT_INDEX_SCALE", type := .int, accessFlags := 25, slot := 6, constantValue := 0 }, { name := "LOG2_ARRAY_LONG_INDEX_SCALE", type := .int, accessFlags := 25, slot := 7, constantValue := 0 }, { name := "LOG2_ARRAY_FLOAT_INDEX_SCALE", type := .int, accessFlags := 25, slot := 8, constantValue := 0 }, { name := "LOG2_ARRAY_DOUBLE_INDEX_SCALE", type := .int, accessFlags := 25, slot := 9, constantValue := 0 }, { name := "LOG2_BYTE_BIT_SIZE", type := .int, accessFlags := 26, slot := 10, constantValue := 0 }, { name := "T_BOOLEAN", type := .int, accessFlags := 25, slot := 11, constantValue := 0 }, { name := "T_CHAR", type := .int, accessFlags := 25, slot := 12, constantValue := 0 }, { name := "T_FLOAT", type := .int, accessFlags := 25, slot := 13, constantValue := 0 }, { name := "T_DOUBLE", type := .int, accessFlags := 25, slot := 14, constantValue := 0 }, { name := "T_BYTE", type := .int, accessFlags := 25, slot := 15, constantValue := 0 }, { name := "T_SHORT", type := .int, accessFlags := 25, slot := 16, constantValue := 0 }, { name := "T_INT", type := .int, accessFlags := 25, slot := 17, constantValue := 0 }, { name := "T_LONG", type := .int, accessFlags := 25, slot := 18, constantValue := 0 }, { name := "JLA", type := (.object "jdk/internal/access/JavaLangAccess"), accessFlags := 26, slot := 19, constantValue := 0 }, { name := "SOFT_MAX_ARRAY_LENGTH", type := .int, accessFlags := 25, slot := 20, constantValue := 0 }]
  methods := #[k18m0]
  instanceTypes := #[]
  staticTypes := #[(.object "jdk/internal/misc/Unsafe"), .boolean, .int, .int, .int, .int, .int, .int, .int, .int, .int, .int, .int, .int, .int, .int, .int, .int, .int, (.object "jdk/internal/access/JavaLangAccess"), .int]
  resolved := Array.replicate 378 none
  statics := none }

def pool19 : Array CpInfo := pool [(1, u "java/lang/Cloneable"), (0, .class_ 1), (0, u "java/lang/Object"), (0, .class_ 3)] 3

/-- java/lang/Cloneable -/
def k19 : Class := { plain "java/lang/Cloneable" (some 0) with
  accessFlags := 1537
  interfaces := #[]
  cf := some (fileOf pool19 2 #[] #[] 1537 4 #[] #[])
  fields := #[]
  methods := #[]
  instanceTypes := #[]
  staticTypes := #[]
  resolved := Array.replicate 8 none
  statics := none }

/-- the primitive byte -/
def k20 : Class := { plain "byte" none with kind := .primitive 'B', accessFlags := 0x411 }
/-- [B -/
def k21 : Class := { plain "[B" (some 0) with kind := .array 20 .byte, interfaces := #[19, 3], accessFlags := 1041 }

/-- the primitive char -/
def k22 : Class := { plain "char" none with kind := .primitive 'C', accessFlags := 0x411 }
/-- [C -/
def k23 : Class := { plain "[C" (some 0) with kind := .array 22 .char, interfaces := #[19, 3], accessFlags := 1041 }

/-- the primitive int -/
def k24 : Class := { plain "int" none with kind := .primitive 'I', accessFlags := 0x411 }
/-- [I -/
def k25 : Class := { plain "[I" (some 0) with kind := .array 24 .int, interfaces := #[19, 3], accessFlags := 1041 }

def heap : Heap := #[{ cls := 8, slots := #[.long 0, .int 1, .null, .int 0, .null, .int 0, .int 0], vm := .statics 8 },
  { cls := 16, slots := #[.null, .null, .null], vm := .statics 16 }]
def classes : Array Class := #[k0, k1, k2, k3, k4, k5, k6, k7, k8, k9, k10, k11, k12, k13, k14, k15, k16, k17, k18, k19, k20, k21, k22, k23, k24, k25]
def interned : List (Array UInt16 × Addr) := []
def slotsUsed : Nat := 10
def theMethod : MethodId := ⟨1, 4⟩
def args0 : Array Value := #[.int 1, .int 2]
def aboutOver (below : List Frame) : State where
  vm := { classes := classes, interned := interned.toArray }
  heap := heap
  slotsUsed := slotsUsed
  threads := #[{ frames := .invoking theMethod args0 :: below }]
def below0 : List Frame := [.native { method := ⟨0, 0⟩, args := #[] }]
def about1 : State := aboutOver below0
def p0 : Program := .bare "" "" ""
def e0 : Env := launch0.env 0 0 0
theorem w_frames : about1.frames = Frame.invoking theMethod args0 :: below0 := rfl
set_option maxRecDepth 65536 in
theorem w_args : argsFit about1.vm theMethod args0 = true := by decide +kernel
set_option maxRecDepth 65536 in
theorem w_heap : heapFits about1 = true := by decide +kernel
set_option maxRecDepth 65536 in
theorem w_runnable : about1.curStatus? = some .runnable := by decide +kernel
set_option maxRecDepth 65536 in
theorem w_alone : about1.alone = true := by decide +kernel
set_option maxRecDepth 65536 in
theorem w_named : about1.methodNamed? x = some theMethod := by decide +kernel
set_option maxRecDepth 65536 in
theorem w_hears : about1.hears theMethod below0 = true := by decide +kernel
set_option maxRecDepth 65536 in
theorem w_ripe : about1.ripe theMethod args0 below0 = true := by decide +kernel
theorem w_running : about1.status = .running := rfl
set_option maxRecDepth 65536 in
theorem w_room : about1.hasRoom e0.platform room_1 = true :=
  launch0.hasRoom_least _ room_1 (by decide +kernel) (by decide +kernel) (by decide +kernel) (by decide +kernel) (by decide +kernel) (by decide +kernel)
theorem allAtoms_all (ts : List Jvm.Cond) (a : Array Jvm.Value) (st : Jvm.State) : (allAtoms ts).before a st = ts.all (fun c => c.before a st) := by
  induction ts with
  | nil => rfl
  | cons c t ih =>
    show (Jvm.Cond.and c (allAtoms t)).before a st = _
    rw [Jvm.Cond.before_and, ih, List.all_cons]
def words1 : List Jvm.Cond := Jvm.Cond.code x code maxLocals ret :: tables_1
/-- a 'code' word, met by the world's own term for the bytes: nothing is compared byte by byte -/
theorem code_word {y : MethodName} {bytes : ByteArray} {mx : Nat} {rt : Option FieldType} {a : Array Value} {s : State} {m : MethodId} {meth : Method} {c : Code} (h1 : s.methodNamed? y = some m) (h2 : s.vm.method? m = some meth) (h3 : meth.code = some c) (h4 : c.code = bytes)
    (h5 : (c.maxLocals == mx && c.exceptionTable.isEmpty && decide (c.maxStack ≤ mostOperands) && decide (meth.sig.returnType = rt) && !meth.locks && decide (parseMethodDescriptor y.desc = some meth.sig)) = true) : (Jvm.Cond.code y bytes mx rt).before a s = true := by
  simp only [Bool.and_eq_true, beq_iff_eq, Bool.not_eq_true', decide_eq_true_eq] at h5
  obtain ⟨⟨⟨⟨⟨g1, g2⟩, g3⟩, g4⟩, g5⟩, g6⟩ := h5
  simp [Cond.before, Cond.holds, Cond.value, h1, h2, h3, h4, g1, g2, g3, g4, g5, g6]
def isCode : Jvm.Cond → Bool
  | .code _ _ _ _ => true
  | _ => false
theorem all_split {L : List Jvm.Cond} {P : Jvm.Cond → Bool} (h1 : L.all (fun c => isCode c || P c) = true) (h2 : ∀ c ∈ L.filter isCode, P c = true) : L.all P = true := by
  refine List.all_eq_true.mpr fun c hc => ?_
  have h := List.all_eq_true.mp h1 c hc
  rcases Bool.eq_false_or_eq_true (isCode c) with hi | hi
  · exact h2 c (List.mem_filter.mpr ⟨hc, hi⟩)
  · simpa [hi] using h
set_option maxRecDepth 65536 in
theorem w_c0 : (Jvm.Cond.code x code maxLocals ret).before args0 about1 = true := code_word (m := ⟨1, 4⟩) (meth := k1m4) (c := k1c4) (by decide +kernel) rfl rfl rfl (by decide +kernel)
set_option maxRecDepth 65536 in
theorem w_c1 : (Jvm.Cond.code ({ cls := "com/example/linewire/linewire/SchemaViolationToStringPinLaw", name := "str", desc := "(ICC)Ljava/lang/String;" } : Jvm.MethodName) method_2_code (3 : Nat) (Option.some (Jvm.ClassFile.FieldType.object "java/lang/String"))).before args0 about1 = true := code_word (m := ⟨1, 1⟩) (meth := k1m1) (c := k1c1) (by decide +kernel) rfl rfl rfl (by decide +kernel)
set_option maxRecDepth 65536 in
theorem w_c2 : (Jvm.Cond.code ({ cls := "java/lang/String", name := "<init>", desc := "([C)V" } : Jvm.MethodName) jdk_42_method_3_code (2 : Nat) (Option.none : Option Jvm.ClassFile.FieldType)).before args0 about1 = true := code_word (m := ⟨8, 1⟩) (meth := k8m1) (c := k8c1) (by decide +kernel) rfl rfl rfl (by decide +kernel)
set_option maxRecDepth 65536 in
theorem w_c3 : (Jvm.Cond.code ({ cls := "java/lang/String", name := "<init>", desc := "([CIILjava/lang/Void;)V" } : Jvm.MethodName) jdk_42_method_149_code (6 : Nat) (Option.none : Option Jvm.ClassFile.FieldType)).before args0 about1 = true := code_word (m := ⟨8, 7⟩) (meth := k8m7) (c := k8c7) (by decide +kernel) rfl rfl rfl (by decide +kernel)
set_option maxRecDepth 65536 in
theorem w_c4 : (Jvm.Cond.code ({ cls := "java/lang/Object", name := "<init>", desc := "()V" } : Jvm.MethodName) object_method_1_code (1 : Nat) (Option.none : Option Jvm.ClassFile.FieldType)).before args0 about1 = true := code_word (m := ⟨0, 0⟩) (meth := k0m0) (c := k0c0) (by decide +kernel) rfl rfl rfl (by decide +kernel)
set_option maxRecDepth 65536 in
theorem w_c5 : (Jvm.Cond.code ({ cls := "com/example/linewire/linewire/SchemaViolation", name := "<init>", desc := "(Ljava/lang/String;Ljava/lang/String;)V" } : Jvm.MethodName) prog_23_method_1_code (3 : Nat) (Option.none : Option Jvm.ClassFile.FieldType)).before args0 about1 = true := code_word (m := ⟨2, 0⟩) (meth := k2m0) (c := k2c0) (by decide +kernel) rfl rfl rfl (by decide +kernel)
set_option maxRecDepth 65536 in
theorem w_c6 : (Jvm.Cond.code ({ cls := "com/example/linewire/linewire/SchemaViolation", name := "toString", desc := "()Ljava/lang/String;" } : Jvm.MethodName) prog_23_method_4_code (1 : Nat) (Option.some (Jvm.ClassFile.FieldType.object "java/lang/String"))).before args0 about1 = true := code_word (m := ⟨2, 1⟩) (meth := k2m1) (c := k2c1) (by decide +kernel) rfl rfl rfl (by decide +kernel)
set_option maxRecDepth 65536 in
theorem w_c7 : (Jvm.Cond.code ({ cls := "java/lang/StringBuilder", name := "<init>", desc := "()V" } : Jvm.MethodName) jdk_67_method_1_code (1 : Nat) (Option.none : Option Jvm.ClassFile.FieldType)).before args0 about1 = true := code_word (m := ⟨11, 0⟩) (meth := k11m0) (c := k11c0) (by decide +kernel) rfl rfl rfl (by decide +kernel)
set_option maxRecDepth 65536 in
theorem w_c8 : (Jvm.Cond.code ({ cls := "java/lang/AbstractStringBuilder", name := "<init>", desc := "(I)V" } : Jvm.MethodName) jdk_68_method_2_code (2 : Nat) (Option.none : Option Jvm.ClassFile.FieldType)).before args0 about1 = true := code_word (m := ⟨10, 1⟩) (meth := k10m1) (c := k10c1) (by decide +kernel) rfl rfl rfl (by decide +kernel)
set_option maxRecDepth 65536 in
theorem w_c9 : (Jvm.Cond.code ({ cls := "java/lang/StringBuilder", name := "append", desc := "(Ljava/lang/String;)Ljava/lang/StringBuilder;" } : Jvm.MethodName) jdk_67_method_7_code (2 : Nat) (Option.some (Jvm.ClassFile.FieldType.object "java/lang/StringBuilder"))).before args0 about1 = true := code_word (m := ⟨11, 1⟩) (meth := k11m1) (c := k11c1) (by decide +kernel) rfl rfl rfl (by decide +kernel)
set_option maxRecDepth 65536 in
theorem w_c10 : (Jvm.Cond.code ({ cls := "java/lang/AbstractStringBuilder", name := "append", desc := "(Ljava/lang/String;)Ljava/lang/AbstractStringBuilder;" } : Jvm.MethodName) jdk_68_method_22_code (3 : Nat) (Option.some (Jvm.ClassFile.FieldType.object "java/lang/AbstractStringBuilder"))).before args0 about1 = true := code_word (m := ⟨10, 4⟩) (meth := k10m4) (c := k10c4) (by decide +kernel) rfl rfl rfl (by decide +kernel)
set_option maxRecDepth 65536 in
theorem w_c11 : (Jvm.Cond.code ({ cls := "java/lang/String", name := "length", desc := "()I" } : Jvm.MethodName) jdk_42_method_54_code (1 : Nat) (Option.some Jvm.ClassFile.FieldType.int)).before args0 about1 = true := code_word (m := ⟨8, 3⟩) (meth := k8m3) (c := k8c3) (by decide +kernel) rfl rfl rfl (by decide +kernel)
set_option maxRecDepth 65536 in
theorem w_c12 : (Jvm.Cond.code ({ cls := "java/lang/String", name := "coder", desc := "()B" } : Jvm.MethodName) jdk_42_method_152_code (1 : Nat) (Option.some Jvm.ClassFile.FieldType.byte)).before args0 about1 = true := code_word (m := ⟨8, 10⟩) (meth := k8m10) (c := k8c10) (by decide +kernel) rfl rfl rfl (by decide +kernel)
set_option maxRecDepth 65536 in
theorem w_c13 : (Jvm.Cond.code ({ cls := "java/lang/AbstractStringBuilder", name := "ensureCapacityInternal", desc := "(I)V" } : Jvm.MethodName) jdk_68_method_9_code (3 : Nat) (Option.none : Option Jvm.ClassFile.FieldType)).before args0 about1 = true := code_word (m := ⟨10, 3⟩) (meth := k10m3) (c := k10c3) (by decide +kernel) rfl rfl rfl (by decide +kernel)
set_option maxRecDepth 65536 in
theorem w_c14 : (Jvm.Cond.code ({ cls := "java/lang/AbstractStringBuilder", name := "putStringAt", desc := "(ILjava/lang/String;)V" } : Jvm.MethodName) jdk_68_method_73_code (3 : Nat) (Option.none : Option Jvm.ClassFile.FieldType)).before args0 about1 = true := code_word (m := ⟨10, 8⟩) (meth := k10m8) (c := k10c8) (by decide +kernel) rfl rfl rfl (by decide +kernel)
set_option maxRecDepth 65536 in
theorem w_c15 : (Jvm.Cond.code ({ cls := "java/lang/AbstractStringBuilder", name := "inflateIfNeededFor", desc := "(Ljava/lang/String;)V" } : Jvm.MethodName) jdk_68_method_71_code (2 : Nat) (Option.none : Option Jvm.ClassFile.FieldType)).before args0 about1 = true := code_word (m := ⟨10, 7⟩) (meth := k10m7) (c := k10c7) (by decide +kernel) rfl rfl rfl (by decide +kernel)
set_option maxRecDepth 65536 in
theorem w_c16 : (Jvm.Cond.code ({ cls := "java/lang/String", name := "getBytes", desc := "([BIB)V" } : Jvm.MethodName) jdk_42_method_147_code (4 : Nat) (Option.none : Option Jvm.ClassFile.FieldType)).before args0 about1 = true := code_word (m := ⟨8, 6⟩) (meth := k8m6) (c := k8c6) (by decide +kernel) rfl rfl rfl (by decide +kernel)
set_option maxRecDepth 65536 in
theorem w_c17 : (Jvm.Cond.code ({ cls := "java/lang/StringBuilder", name := "toString", desc := "()Ljava/lang/String;" } : Jvm.MethodName) jdk_67_method_42_code (1 : Nat) (Option.some (Jvm.ClassFile.FieldType.object "java/lang/String"))).before args0 about1 = true := code_word (m := ⟨11, 2⟩) (meth := k11m2) (c := k11c2) (by decide +kernel) rfl rfl rfl (by decide +kernel)
set_option maxRecDepth 65536 in
theorem w_c18 : (Jvm.Cond.code ({ cls := "java/lang/String", name := "<init>", desc := "(Ljava/lang/StringBuilder;)V" } : Jvm.MethodName) jdk_42_method_53_code (2 : Nat) (Option.none : Option Jvm.ClassFile.FieldType)).before args0 about1 = true := code_word (m := ⟨8, 2⟩) (meth := k8m2) (c := k8c2) (by decide +kernel) rfl rfl rfl (by decide +kernel)
set_option maxRecDepth 65536 in
theorem w_c19 : (Jvm.Cond.code ({ cls := "java/lang/String", name := "<init>", desc := "(Ljava/lang/AbstractStringBuilder;Ljava/lang/Void;)V" } : Jvm.MethodName) jdk_42_method_150_code (5 : Nat) (Option.none : Option Jvm.ClassFile.FieldType)).before args0 about1 = true := code_word (m := ⟨8, 8⟩) (meth := k8m8) (c := k8c8) (by decide +kernel) rfl rfl rfl (by decide +kernel)
set_option maxRecDepth 65536 in
theorem w_c20 : (Jvm.Cond.code ({ cls := "java/lang/AbstractStringBuilder", name := "getValue", desc := "()[B" } : Jvm.MethodName) jdk_68_method_64_code (1 : Nat) (Option.some (Jvm.ClassFile.FieldType.array Jvm.ClassFile.FieldType.byte))).before args0 about1 = true := code_word (m := ⟨10, 5⟩) (meth := k10m5) (c := k10c5) (by decide +kernel) rfl rfl rfl (by decide +kernel)
set_option maxRecDepth 65536 in
theorem w_c21 : (Jvm.Cond.code ({ cls := "java/lang/StringBuilder", name := "length", desc := "()I" } : Jvm.MethodName) jdk_67_method_93_code (1 : Nat) (Option.some Jvm.ClassFile.FieldType.int)).before args0 about1 = true := code_word (m := ⟨11, 3⟩) (meth := k11m3) (c := k11c3) (by decide +kernel) rfl rfl rfl (by decide +kernel)
set_option maxRecDepth 65536 in
theorem w_c22 : (Jvm.Cond.code ({ cls := "java/lang/AbstractStringBuilder", name := "length", desc := "()I" } : Jvm.MethodName) jdk_68_method_6_code (1 : Nat) (Option.some Jvm.ClassFile.FieldType.int)).before args0 about1 = true := code_word (m := ⟨10, 2⟩) (meth := k10m2) (c := k10c2) (by decide +kernel) rfl rfl rfl (by decide +kernel)
set_option maxRecDepth 65536 in
theorem w_c23 : (Jvm.Cond.code ({ cls := "java/lang/AbstractStringBuilder", name := "isLatin1", desc := "()Z" } : Jvm.MethodName) jdk_68_method_68_code (1 : Nat) (Option.some Jvm.ClassFile.FieldType.boolean)).before args0 about1 = true := code_word (m := ⟨10, 6⟩) (meth := k10m6) (c := k10c6) (by decide +kernel) rfl rfl rfl (by decide +kernel)
set_option maxRecDepth 65536 in
theorem w_c24 : (Jvm.Cond.code ({ cls := "java/util/Arrays", name := "copyOfRange", desc := "([BII)[B" } : Jvm.MethodName) jdk_65_method_132_code (3 : Nat) (Option.some (Jvm.ClassFile.FieldType.array Jvm.ClassFile.FieldType.byte))).before args0 about1 = true := code_word (m := ⟨13, 2⟩) (meth := k13m2) (c := k13c2) (by decide +kernel) rfl rfl rfl (by decide +kernel)
set_option maxRecDepth 65536 in
theorem w_c25 : (Jvm.Cond.code ({ cls := "java/util/Arrays", name := "copyOfRangeByte", desc := "([BII)[B" } : Jvm.MethodName) jdk_65_method_133_code (5 : Nat) (Option.some (Jvm.ClassFile.FieldType.array Jvm.ClassFile.FieldType.byte))).before args0 about1 = true := code_word (m := ⟨13, 3⟩) (meth := k13m3) (c := k13c3) (by decide +kernel) rfl rfl rfl (by decide +kernel)
set_option maxRecDepth 65536 in
theorem w_c26 : (Jvm.Cond.code ({ cls := "java/util/Arrays", name := "checkLength", desc := "(II)V" } : Jvm.MethodName) jdk_65_method_131_code (2 : Nat) (Option.none : Option Jvm.ClassFile.FieldType)).before args0 about1 = true := code_word (m := ⟨13, 1⟩) (meth := k13m1) (c := k13c1) (by decide +kernel) rfl rfl rfl (by decide +kernel)
set_option maxRecDepth 65536 in
theorem w_c27 : (Jvm.Cond.code ({ cls := "java/lang/Math", name := "min", desc := "(II)I" } : Jvm.MethodName) jdk_29_method_69_code (2 : Nat) (Option.some Jvm.ClassFile.FieldType.int)).before args0 about1 = true := code_word (m := ⟨14, 1⟩) (meth := k14m1) (c := k14c1) (by decide +kernel) rfl rfl rfl (by decide +kernel)
set_option maxRecDepth 65536 in
theorem w_c28 : (Jvm.Cond.code ({ cls := "com/example/linewire/linewire/SchemaViolationToStringPinLaw", name := "check", desc := "(Ljava/lang/String;IIICCCC)Z" } : Jvm.MethodName) method_4_code (8 : Nat) (Option.some Jvm.ClassFile.FieldType.boolean)).before args0 about1 = true := code_word (m := ⟨1, 3⟩) (meth := k1m3) (c := k1c3) (by decide +kernel) rfl rfl rfl (by decide +kernel)
set_option maxRecDepth 65536 in
theorem w_c29 : (Jvm.Cond.code ({ cls := "java/lang/String", name := "charAt", desc := "(I)C" } : Jvm.MethodName) jdk_42_method_56_code (2 : Nat) (Option.some Jvm.ClassFile.FieldType.char)).before args0 about1 = true := code_word (m := ⟨8, 4⟩) (meth := k8m4) (c := k8c4) (by decide +kernel) rfl rfl rfl (by decide +kernel)
set_option maxRecDepth 65536 in
theorem w_c30 : (Jvm.Cond.code ({ cls := "java/lang/String", name := "isLatin1", desc := "()Z" } : Jvm.MethodName) jdk_42_method_154_code (1 : Nat) (Option.some Jvm.ClassFile.FieldType.boolean)).before args0 about1 = true := code_word (m := ⟨8, 11⟩) (meth := k8m11) (c := k8c11) (by decide +kernel) rfl rfl rfl (by decide +kernel)
set_option maxRecDepth 65536 in
theorem w_c31 : (Jvm.Cond.code ({ cls := "java/lang/StringLatin1", name := "charAt", desc := "([BI)C" } : Jvm.MethodName) jdk_43_method_2_code (2 : Nat) (Option.some Jvm.ClassFile.FieldType.char)).before args0 about1 = true := code_word (m := ⟨15, 1⟩) (meth := k15m1) (c := k15c1) (by decide +kernel) rfl rfl rfl (by decide +kernel)
set_option maxRecDepth 65536 in
theorem w_c32 : (Jvm.Cond.code ({ cls := "java/lang/String", name := "checkIndex", desc := "(II)V" } : Jvm.MethodName) jdk_42_method_155_code (2 : Nat) (Option.none : Option Jvm.ClassFile.FieldType)).before args0 about1 = true := code_word (m := ⟨8, 12⟩) (meth := k8m12) (c := k8c12) (by decide +kernel) rfl rfl rfl (by decide +kernel)
set_option maxRecDepth 65536 in
theorem w_c33 : (Jvm.Cond.code ({ cls := "jdk/internal/util/Preconditions", name := "checkIndex", desc := "(IILjava/util/function/BiFunction;)I" } : Jvm.MethodName) jdk_41_method_11_code (3 : Nat) (Option.some Jvm.ClassFile.FieldType.int)).before args0 about1 = true := code_word (m := ⟨16, 1⟩) (meth := k16m1) (c := k16c1) (by decide +kernel) rfl rfl rfl (by decide +kernel)
set_option maxRecDepth 65536 in
theorem w_c34 : (Jvm.Cond.code ({ cls := "com/example/linewire/linewire/SchemaViolationToStringPinLaw", name := "at", desc := "(IICCCC)C" } : Jvm.MethodName) method_3_code (7 : Nat) (Option.some Jvm.ClassFile.FieldType.char)).before args0 about1 = true := code_word (m := ⟨1, 2⟩) (meth := k1m2) (c := k1c2) (by decide +kernel) rfl rfl rfl (by decide +kernel)
set_option maxRecDepth 65536 in
theorem w_c35 : (Jvm.Cond.code ({ cls := "java/lang/StringUTF16", name := "compress", desc := "([CII)[B" } : Jvm.MethodName) jdk_52_method_16_code (6 : Nat) (Option.some (Jvm.ClassFile.FieldType.array Jvm.ClassFile.FieldType.byte))).before args0 about1 = true := code_word (m := ⟨17, 2⟩) (meth := k17m2) (c := k17c2) (by decide +kernel) rfl rfl rfl (by decide +kernel)
set_option maxRecDepth 65536 in
theorem w_c36 : (Jvm.Cond.code ({ cls := "java/lang/StringUTF16", name := "compress", desc := "([CI[BII)I" } : Jvm.MethodName) jdk_52_method_21_code (7 : Nat) (Option.some Jvm.ClassFile.FieldType.int)).before args0 about1 = true := code_word (m := ⟨17, 3⟩) (meth := k17m3) (c := k17c3) (by decide +kernel) rfl rfl rfl (by decide +kernel)
set_option maxRecDepth 65536 in
theorem w_c37 : (Jvm.Cond.code ({ cls := "java/lang/StringUTF16", name := "coderFromArrayLen", desc := "([BI)B" } : Jvm.MethodName) jdk_52_method_15_code (2 : Nat) (Option.some Jvm.ClassFile.FieldType.byte)).before args0 about1 = true := code_word (m := ⟨17, 1⟩) (meth := k17m1) (c := k17c1) (by decide +kernel) rfl rfl rfl (by decide +kernel)
set_option maxRecDepth 65536 in
theorem w_c38 : (Jvm.Cond.code ({ cls := "java/lang/String", name := "valueOf", desc := "(C)Ljava/lang/String;" } : Jvm.MethodName) jdk_42_method_139_code (1 : Nat) (Option.some (Jvm.ClassFile.FieldType.object "java/lang/String"))).before args0 about1 = true := code_word (m := ⟨8, 5⟩) (meth := k8m5) (c := k8c5) (by decide +kernel) rfl rfl rfl (by decide +kernel)
set_option maxRecDepth 65536 in
theorem w_c39 : (Jvm.Cond.code ({ cls := "java/lang/StringLatin1", name := "canEncode", desc := "(C)Z" } : Jvm.MethodName) jdk_43_method_3_code (1 : Nat) (Option.some Jvm.ClassFile.FieldType.boolean)).before args0 about1 = true := code_word (m := ⟨15, 2⟩) (meth := k15m2) (c := k15c2) (by decide +kernel) rfl rfl rfl (by decide +kernel)
set_option maxRecDepth 65536 in
theorem w_c40 : (Jvm.Cond.code ({ cls := "java/lang/StringLatin1", name := "toBytes", desc := "(C)[B" } : Jvm.MethodName) jdk_43_method_46_code (1 : Nat) (Option.some (Jvm.ClassFile.FieldType.array Jvm.ClassFile.FieldType.byte))).before args0 about1 = true := code_word (m := ⟨15, 3⟩) (meth := k15m3) (c := k15c3) (by decide +kernel) rfl rfl rfl (by decide +kernel)
set_option maxRecDepth 65536 in
theorem w_c41 : (Jvm.Cond.code ({ cls := "java/lang/String", name := "<init>", desc := "([BB)V" } : Jvm.MethodName) jdk_42_method_151_code (3 : Nat) (Option.none : Option Jvm.ClassFile.FieldType)).before args0 about1 = true := code_word (m := ⟨8, 9⟩) (meth := k8m9) (c := k8c9) (by decide +kernel) rfl rfl rfl (by decide +kernel)
def codes1 : List Jvm.Cond := [Jvm.Cond.code x code maxLocals ret, Jvm.Cond.code ({ cls := "com/example/linewire/linewire/SchemaViolationToStringPinLaw", name := "str", desc := "(ICC)Ljava/lang/String;" } : Jvm.MethodName) method_2_code (3 : Nat) (Option.some (Jvm.ClassFile.FieldType.object "java/lang/String")), Jvm.Cond.code ({ cls := "java/lang/String", name := "<init>", desc := "([C)V" } : Jvm.MethodName) jdk_42_method_3_code (2 : Nat) (Option.none : Option Jvm.ClassFile.FieldType), Jvm.Cond.code ({ cls := "java/lang/String", name := "<init>", desc := "([CIILjava/lang/Void;)V" } : Jvm.MethodName) jdk_42_method_149_code (6 : Nat) (Option.none : Option Jvm.ClassFile.FieldType), Jvm.Cond.code ({ cls := "java/lang/Object", name := "<init>", desc := "()V" } : Jvm.MethodName) object_method_1_code (1 : Nat) (Option.none : Option Jvm.ClassFile.FieldType), Jvm.Cond.code ({ cls := "com/example/linewire/linewire/SchemaViolation", name := "<init>", desc := "(Ljava/lang/String;Ljava/lang/String;)V" } : Jvm.MethodName) prog_23_method_1_code (3 : Nat) (Option.none : Option Jvm.ClassFile.FieldType), Jvm.Cond.code ({ cls := "com/example/linewire/linewire/SchemaViolation", name := "toString", desc := "()Ljava/lang/String;" } : Jvm.MethodName) prog_23_method_4_code (1 : Nat) (Option.some (Jvm.ClassFile.FieldType.object "java/lang/String")), Jvm.Cond.code ({ cls := "java/lang/StringBuilder", name := "<init>", desc := "()V" } : Jvm.MethodName) jdk_67_method_1_code (1 : Nat) (Option.none : Option Jvm.ClassFile.FieldType), Jvm.Cond.code ({ cls := "java/lang/AbstractStringBuilder", name := "<init>", desc := "(I)V" } : Jvm.MethodName) jdk_68_method_2_code (2 : Nat) (Option.none : Option Jvm.ClassFile.FieldType), Jvm.Cond.code ({ cls := "java/lang/StringBuilder", name := "append", desc := "(Ljava/lang/String;)Ljava/lang/StringBuilder;" } : Jvm.MethodName) jdk_67_method_7_code (2 : Nat) (Option.some (Jvm.ClassFile.FieldType.object "java/lang/StringBuilder")), Jvm.Cond.code ({ cls := "java/lang/AbstractStringBuilder", name := "append", desc := "(Ljava/lang/String;)Ljava/lang/AbstractStringBuilder;" } : Jvm.MethodName) jdk_68_method_22_code (3 : Nat) (Option.some (Jvm.ClassFile.FieldType.object "java/lang/AbstractStringBuilder")), Jvm.Cond.code ({ cls := "java/lang/String", name := "length", desc := "()I" } : Jvm.MethodName) jdk_42_method_54_code (1 : Nat) (Option.some Jvm.ClassFile.FieldType.int), Jvm.Cond.code ({ cls := "java/lang/String", name := "coder", desc := "()B" } : Jvm.MethodName) jdk_42_method_152_code (1 : Nat) (Option.some Jvm.ClassFile.FieldType.byte), Jvm.Cond.code ({ cls := "java/lang/AbstractStringBuilder", name := "ensureCapacityInternal", desc := "(I)V" } : Jvm.MethodName) jdk_68_method_9_code (3 : Nat) (Option.none : Option Jvm.ClassFile.FieldType), Jvm.Cond.code ({ cls := "java/lang/AbstractStringBuilder", name := "putStringAt", desc := "(ILjava/lang/String;)V" } : Jvm.MethodName) jdk_68_method_73_code (3 : Nat) (Option.none : Option Jvm.ClassFile.FieldType), Jvm.Cond.code ({ cls := "java/lang/AbstractStringBuilder", name := "inflateIfNeededFor", desc := "(Ljava/lang/String;)V" } : Jvm.MethodName) jdk_68_method_71_code (2 : Nat) (Option.none : Option Jvm.ClassFile.FieldType), Jvm.Cond.code ({ cls := "java/lang/String", name := "getBytes", desc := "([BIB)V" } : Jvm.MethodName) jdk_42_method_147_code (4 : Nat) (Option.none : Option Jvm.ClassFile.FieldType), Jvm.Cond.code ({ cls := "java/lang/StringBuilder", name := "toString", desc := "()Ljava/lang/String;" } : Jvm.MethodName) jdk_67_method_42_code (1 : Nat) (Option.some (Jvm.ClassFile.FieldType.object "java/lang/String")), Jvm.Cond.code ({ cls := "java/lang/String", name := "<init>", desc := "(Ljava/lang/StringBuilder;)V" } : Jvm.MethodName) jdk_42_method_53_code (2 : Nat) (Option.none : Option Jvm.ClassFile.FieldType), Jvm.Cond.code ({ cls := "java/lang/String", name := "<init>", desc := "(Ljava/lang/AbstractStringBuilder;Ljava/lang/Void;)V" } : Jvm.MethodName) jdk_42_method_150_code (5 : Nat) (Option.none : Option Jvm.ClassFile.FieldType), Jvm.Cond.code ({ cls := "java/lang/AbstractStringBuilder", name := "getValue", desc := "()[B" } : Jvm.MethodName) jdk_68_method_64_code (1 : Nat) (Option.some (Jvm.ClassFile.FieldType.array Jvm.ClassFile.FieldType.byte)), Jvm.Cond.code ({ cls := "java/lang/StringBuilder", name := "length", desc := "()I" } : Jvm.MethodName) jdk_67_method_93_code (1 : Nat) (Option.some Jvm.ClassFile.FieldType.int), Jvm.Cond.code ({ cls := "java/lang/AbstractStringBuilder", name := "length", desc := "()I" } : Jvm.MethodName) jdk_68_method_6_code (1 : Nat) (Option.some Jvm.ClassFile.FieldType.int), Jvm.Cond.code ({ cls := "java/lang/AbstractStringBuilder", name := "isLatin1", desc := "()Z" } : Jvm.MethodName) jdk_68_method_68_code (1 : Nat) (Option.some Jvm.ClassFile.FieldType.boolean), Jvm.Cond.code ({ cls := "java/util/Arrays", name := "copyOfRange", desc := "([BII)[B" } : Jvm.MethodName) jdk_65_method_132_code (3 : Nat) (Option.some (Jvm.ClassFile.FieldType.array Jvm.ClassFile.FieldType.byte)), Jvm.Cond.code ({ cls := "java/util/Arrays", name := "copyOfRangeByte", desc := "([BII)[B" } : Jvm.MethodName) jdk_65_method_133_code (5 : Nat) (Option.some (Jvm.ClassFile.FieldType.array Jvm.ClassFile.FieldType.byte)), Jvm.Cond.code ({ cls := "java/util/Arrays", name := "checkLength", desc := "(II)V" } : Jvm.MethodName) jdk_65_method_131_code (2 : Nat) (Option.none : Option Jvm.ClassFile.FieldType), Jvm.Cond.code ({ cls := "java/lang/Math", name := "min", desc := "(II)I" } : Jvm.MethodName) jdk_29_method_69_code (2 : Nat) (Option.some Jvm.ClassFile.FieldType.int), Jvm.Cond.code ({ cls := "com/example/linewire/linewire/SchemaViolationToStringPinLaw", name := "check", desc := "(Ljava/lang/String;IIICCCC)Z" } : Jvm.MethodName) method_4_code (8 : Nat) (Option.some Jvm.ClassFile.FieldType.boolean), Jvm.Cond.code ({ cls := "java/lang/String", name := "charAt", desc := "(I)C" } : Jvm.MethodName) jdk_42_method_56_code (2 : Nat) (Option.some Jvm.ClassFile.FieldType.char), Jvm.Cond.code ({ cls := "java/lang/String", name := "isLatin1", desc := "()Z" } : Jvm.MethodName) jdk_42_method_154_code (1 : Nat) (Option.some Jvm.ClassFile.FieldType.boolean), Jvm.Cond.code ({ cls := "java/lang/StringLatin1", name := "charAt", desc := "([BI)C" } : Jvm.MethodName) jdk_43_method_2_code (2 : Nat) (Option.some Jvm.ClassFile.FieldType.char), Jvm.Cond.code ({ cls := "java/lang/String", name := "checkIndex", desc := "(II)V" } : Jvm.MethodName) jdk_42_method_155_code (2 : Nat) (Option.none : Option Jvm.ClassFile.FieldType), Jvm.Cond.code ({ cls := "jdk/internal/util/Preconditions", name := "checkIndex", desc := "(IILjava/util/function/BiFunction;)I" } : Jvm.MethodName) jdk_41_method_11_code (3 : Nat) (Option.some Jvm.ClassFile.FieldType.int), Jvm.Cond.code ({ cls := "com/example/linewire/linewire/SchemaViolationToStringPinLaw", name := "at", desc := "(IICCCC)C" } : Jvm.MethodName) method_3_code (7 : Nat) (Option.some Jvm.ClassFile.FieldType.char), Jvm.Cond.code ({ cls := "java/lang/StringUTF16", name := "compress", desc := "([CII)[B" } : Jvm.MethodName) jdk_52_method_16_code (6 : Nat) (Option.some (Jvm.ClassFile.FieldType.array Jvm.ClassFile.FieldType.byte)), Jvm.Cond.code ({ cls := "java/lang/StringUTF16", name := "compress", desc := "([CI[BII)I" } : Jvm.MethodName) jdk_52_method_21_code (7 : Nat) (Option.some Jvm.ClassFile.FieldType.int), Jvm.Cond.code ({ cls := "java/lang/StringUTF16", name := "coderFromArrayLen", desc := "([BI)B" } : Jvm.MethodName) jdk_52_method_15_code (2 : Nat) (Option.some Jvm.ClassFile.FieldType.byte), Jvm.Cond.code ({ cls := "java/lang/String", name := "valueOf", desc := "(C)Ljava/lang/String;" } : Jvm.MethodName) jdk_42_method_139_code (1 : Nat) (Option.some (Jvm.ClassFile.FieldType.object "java/lang/String")), Jvm.Cond.code ({ cls := "java/lang/StringLatin1", name := "canEncode", desc := "(C)Z" } : Jvm.MethodName) jdk_43_method_3_code (1 : Nat) (Option.some Jvm.ClassFile.FieldType.boolean), Jvm.Cond.code ({ cls := "java/lang/StringLatin1", name := "toBytes", desc := "(C)[B" } : Jvm.MethodName) jdk_43_method_46_code (1 : Nat) (Option.some (Jvm.ClassFile.FieldType.array Jvm.ClassFile.FieldType.byte)), Jvm.Cond.code ({ cls := "java/lang/String", name := "<init>", desc := "([BB)V" } : Jvm.MethodName) jdk_42_method_151_code (3 : Nat) (Option.none : Option Jvm.ClassFile.FieldType)]
set_option maxRecDepth 65536 in
theorem codes_eq : words1.filter isCode = codes1 := rfl
theorem w_codes : ∀ c ∈ words1.filter isCode, c.before args0 about1 = true := by
  rw [codes_eq]
  intro c hc
  simp only [codes1, List.mem_cons, List.not_mem_nil, or_false] at hc
  rcases hc with rfl | rfl | rfl | rfl | rfl | rfl | rfl | rfl | rfl | rfl | rfl | rfl | rfl | rfl | rfl | rfl | rfl | rfl | rfl | rfl | rfl | rfl | rfl | rfl | rfl | rfl | rfl | rfl | rfl | rfl | rfl | rfl | rfl | rfl | rfl | rfl | rfl | rfl | rfl | rfl | rfl | rfl
  · exact w_c0
  · exact w_c1
  · exact w_c2
  · exact w_c3
  · exact w_c4
  · exact w_c5
  · exact w_c6
  · exact w_c7
  · exact w_c8
  · exact w_c9
  · exact w_c10
  · exact w_c11
  · exact w_c12
  · exact w_c13
  · exact w_c14
  · exact w_c15
  · exact w_c16
  · exact w_c17
  · exact w_c18
  · exact w_c19
  · exact w_c20
  · exact w_c21
  · exact w_c22
  · exact w_c23
  · exact w_c24
  · exact w_c25
  · exact w_c26
  · exact w_c27
  · exact w_c28
  · exact w_c29
  · exact w_c30
  · exact w_c31
  · exact w_c32
  · exact w_c33
  · exact w_c34
  · exact w_c35
  · exact w_c36
  · exact w_c37
  · exact w_c38
  · exact w_c39
  · exact w_c40
  · exact w_c41
set_option maxRecDepth 65536 in
theorem w_t1 : (words1.take 24).all (fun c => isCode c || c.before args0 about1) = true := by decide +kernel
set_option maxRecDepth 65536 in
theorem w_t2 : ((words1.drop 24).take 24).all (fun c => isCode c || c.before args0 about1) = true := by decide +kernel
set_option maxRecDepth 65536 in
theorem w_t3 : (((words1.drop 24).drop 24).take 24).all (fun c => isCode c || c.before args0 about1) = true := by decide +kernel
set_option maxRecDepth 65536 in
theorem w_t4 : ((((words1.drop 24).drop 24).drop 24).take 24).all (fun c => isCode c || c.before args0 about1) = true := by decide +kernel
set_option maxRecDepth 65536 in
theorem w_t5 : (((((words1.drop 24).drop 24).drop 24).drop 24).take 24).all (fun c => isCode c || c.before args0 about1) = true := by decide +kernel
set_option maxRecDepth 65536 in
theorem w_t6 : ((((((words1.drop 24).drop 24).drop 24).drop 24).drop 24).take 24).all (fun c => isCode c || c.before args0 about1) = true := by decide +kernel
set_option maxRecDepth 65536 in
theorem w_t7 : (((((((words1.drop 24).drop 24).drop 24).drop 24).drop 24).drop 24).take 24).all (fun c => isCode c || c.before args0 about1) = true := by decide +kernel
set_option maxRecDepth 65536 in
theorem w_t8 : ((((((((words1.drop 24).drop 24).drop 24).drop 24).drop 24).drop 24).drop 24).take 24).all (fun c => isCode c || c.before args0 about1) = true := by decide +kernel
set_option maxRecDepth 65536 in
theorem w_t9 : ((((((((words1.drop 24).drop 24).drop 24).drop 24).drop 24).drop 24).drop 24).drop 24).all (fun c => isCode c || c.before args0 about1) = true := by decide +kernel
theorem w_tables : (allAtoms (Jvm.Cond.code x code maxLocals ret :: tables_1)).before args0 about1 = true := by
  rw [allAtoms_all]
  show words1.all (fun c => c.before args0 about1) = true
  refine all_split ?_ w_codes
  rw [← List.take_append_drop 24 words1, List.all_append, w_t1, ← List.take_append_drop 24 (words1.drop 24), List.all_append, w_t2, ← List.take_append_drop 24 ((words1.drop 24).drop 24), List.all_append, w_t3, ← List.take_append_drop 24 (((words1.drop 24).drop 24).drop 24), List.all_append, w_t4, ← List.take_append_drop 24 ((((words1.drop 24).drop 24).drop 24).drop 24), List.all_append, w_t5, ← List.take_append_drop 24 (((((words1.drop 24).drop 24).drop 24).drop 24).drop 24), List.all_append, w_t6, ← List.take_append_drop 24 ((((((words1.drop 24).drop 24).drop 24).drop 24).drop 24).drop 24), List.all_append, w_t7, ← List.take_append_drop 24 (((((((words1.drop 24).drop 24).drop 24).drop 24).drop 24).drop 24).drop 24), List.all_append, w_t8, w_t9]
  rfl
set_option maxRecDepth 65536 in
theorem w_rest : rest_1_c.before args0 about1 = true := by decide +kernel
set_option maxRecDepth 65536 in
theorem w_case : (Jvm.Cond.and given_1 narrow_1).before args0 about1 = true := by decide +kernel
set_option maxRecDepth 65536 in
theorem w_consts : constsHeld consts_1 about1 := Jvm.Lit.constsHeldB_iff.mp (by decide +kernel)
theorem w_applies : (headSpec (Jvm.Cond.code x code maxLocals ret :: tables_1) room_1).applies x e0.platform about1 = true :=
  (Spec.applies_iff w_frames).mpr ⟨w_running, w_runnable, w_alone, w_named, w_hears, w_ripe, w_room, w_tables⟩
theorem atStart : AtStart classFile x code maxLocals ret World_1 tables_1 room_1 Calls_1 rest_1 Pre_1 launch0 p0 e0 about1 theMethod args0 below0 :=
  ⟨lists_1, trivial, launch0.admits_env _ _ _, launch0.least_env, fairChoices_fair.cas, fairChoices_fair.clock, w_frames, w_args, w_heap, w_applies, ⟨w_consts, trivial⟩, w_rest, w_case⟩
end start1
theorem witness_1 : WitnessClaimed_1 := ⟨start1.p0, start1.e0, start1.about1, start1.theMethod, start1.args0, start1.below0, start1.atStart⟩
end Jvm.Pilot.@@N@@
