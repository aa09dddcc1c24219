import JvmDerived
import JvmDerived.Pilot.@@N@@Statement
import JvmDerived.Pilot.@@N@@Code
set_option linter.unusedVariables false
set_option linter.unusedSimpArgs false
/- laws to paste: StrChars.shr0, StrChars.shr1, StrChars.pair_says, StrChars.chr8_lo8, StrChars.narrow_ch, Road.wide_lo, Road.wide_hi, Road.low_at, Road.CodA, Road.codOf, Road.backV (cut by pick.py; bodies as the Statement names them) -/
namespace Jvm.Pilot.@@N@@
namespace StrChars
open Jvm Sem ClassFile Op Lib Jvm.Stand Jvm.Free.XT Jvm.Free.ALB Jvm.Free.JM Jvm.Free
open Jvm.Lib.Cold (StaticIs)
/-- a char array whose places are chars -/
def Ch (a : Addr) (A : Cell) (U : State) : Prop := Arr .char a A U ∧ Typed .char A
theorem Ch.mv {a : Addr} {A : Cell} {U U' : State} (h : Ch a A U) (hal : U.vm.Alike U'.vm) (hh : U'.heap = U.heap) : Ch a A U' := ⟨h.1.mv hal hh, h.2⟩
theorem Ch.keep {a : Addr} {A : Cell} {U U' : State} (h : Ch a A U) (hal : U.vm.Alike U'.vm) (hk : U'.heap[a]? = some A) : Ch a A U' := ⟨h.1.keep hal hk, h.2⟩
/-- what place i of a char[]'s cell holds -/
def cv (A : Cell) (i : Nat) : Int32 := match A.slots[i]? with | some (.int x) => x | _ => 0
theorem Ch.get {a : Addr} {A : Cell} {U : State} (h : Ch a A U) {i : Nat} (hi : i < A.slots.size) : A.slots[i]? = some (.int (cv A i)) := by
  have e := Array.getElem?_eq_getElem hi
  have f := h.2 i _ e
  unfold cv; rw [e]
  generalize A.slots[i] = v at f
  cases v <;> simp [fits] at f ⊢
/-- the byte that i2b leaves of a char -/
def lo8 (x : Int32) : Int32 := x.toInt8.toInt32
theorem fits_lo8 (y : Int32) : fits .byte (.int (lo8 y)) = true := by
  have h1 := y.toInt8.le_toInt
  have h2 := y.toInt8.toInt_lt
  simp only [lo8, fits, Bool.and_eq_true, decide_eq_true_eq, Int32.le_iff_toInt_le, Int8.toInt_toInt32, show (-128 : Int32).toInt = -128 from by decide, show (127 : Int32).toInt = 127 from by decide]
  omega
/-- A' is A but that each place j of lo .. hi - 1 holds f j -/
def Laid (A A' : Cell) (lo hi : Nat) (f : Nat → Value) : Prop := A'.cls = A.cls ∧ A'.vm = A.vm ∧ A'.slots.size = A.slots.size ∧ ∀ i, A'.slots[i]? = if lo ≤ i ∧ i < hi then some (f i) else A.slots[i]?
theorem Laid.zero (A : Cell) (lo : Nat) (f : Nat → Value) : Laid A A lo (lo + 0) f := ⟨rfl, rfl, rfl, fun i => by rw [if_neg (by omega)]⟩
theorem Laid.step {A Ak : Cell} {lo k : Nat} {f : Nat → Value} {v : Value} (h : Laid A Ak lo k f) (hlo : lo ≤ k) (hk : k < Ak.slots.size) (hv : v = f k) : Laid A (Ak.setSlot k v) lo (k + 1) f := by
  refine ⟨h.1, h.2.1, by simpa [Cell.setSlot] using h.2.2.1, fun i => ?_⟩
  by_cases e : k = i
  · subst e; rw [Cell.slots_setSlot_self v hk, if_pos (by omega), hv]
  · rw [Cell.slots_setSlot_ne v e, h.2.2.2 i]
    by_cases q : lo ≤ i ∧ i < k
    · rw [if_pos q, if_pos (by omega)]
    · rw [if_neg q, if_neg (by omega)]
def U16 : String := "java/lang/StringUTF16"
namespace Cmp5
def yN : MethodName := ⟨"java/lang/StringUTF16", "compress", "([CI[BII)I"⟩
abbrev yB : ByteArray := jdk_52_method_21_code
theorem d0 : decode yB 0 = .ok (.iconst 0, 1) := by decide +kernel
theorem d1 : decode yB 1 = .ok (.istore 5, 2) := by decide +kernel
theorem d3 : decode yB 3 = .ok (.iload 5, 2) := by decide +kernel
theorem d5 : decode yB 5 = .ok (.iload 4, 2) := by decide +kernel
theorem d7 : decode yB 7 = .ok (.if_icmp (.ge) 37, 3) := by decide +kernel
theorem d10 : decode yB 10 = .ok (.aload_n 0, 1) := by decide +kernel
theorem d11 : decode yB 11 = .ok (.iload_n 1, 1) := by decide +kernel
theorem d12 : decode yB 12 = .ok (.caload, 1) := by decide +kernel
theorem d13 : decode yB 13 = .ok (.istore 6, 2) := by decide +kernel
theorem d15 : decode yB 15 = .ok (.iload 6, 2) := by decide +kernel
theorem d17 : decode yB 17 = .ok (.sipush 255, 3) := by decide +kernel
theorem d20 : decode yB 20 = .ok (.if_icmp (.le) 6, 3) := by decide +kernel
theorem d26 : decode yB 26 = .ok (.aload_n 2, 1) := by decide +kernel
theorem d27 : decode yB 27 = .ok (.iload_n 3, 1) := by decide +kernel
theorem d28 : decode yB 28 = .ok (.iload 6, 2) := by decide +kernel
theorem d30 : decode yB 30 = .ok (.i2b, 1) := by decide +kernel
theorem d31 : decode yB 31 = .ok (.bastore, 1) := by decide +kernel
theorem d32 : decode yB 32 = .ok (.iinc 1 1, 3) := by decide +kernel
theorem d35 : decode yB 35 = .ok (.iinc 3 1, 3) := by decide +kernel
theorem d38 : decode yB 38 = .ok (.iinc 5 1, 3) := by decide +kernel
theorem d41 : decode yB 41 = .ok (.goto (-38), 3) := by decide +kernel
theorem d44 : decode yB 44 = .ok (.iload 4, 2) := by decide +kernel
theorem d46 : decode yB 46 = .ok (.ireturn, 1) := by decide +kernel
def site : List Cond := []
def tab : Cond := tabOf yN yB 7 (some .int) site
def P (b : Addr) (A : Cell) (d : Addr) (B : Cell) (o q len : Nat) (args : Array Value) (s : State) : Prop := args = #[.ref b, .int (Int32.ofNat o), .ref d, .int (Int32.ofNat q), .int (Int32.ofNat len)] ∧ Ch b A s ∧ Arr .byte d B s ∧ b ≠ d ∧ o + len ≤ A.slots.size ∧ q + len ≤ B.slots.size ∧ ∀ i, i < len → ¬ 255 < cv A (o + i)
def E (b : Addr) (A : Cell) (d : Addr) (B : Cell) (o q len : Nat) (r : Option Value) (s u : State) : Prop := r = some (.int (Int32.ofNat len)) ∧ ∃ B', Put d B' s u ∧ Laid B B' q (q + len) (fun j => Value.int (lo8 (cv A (o + (j - q)))))
/-- no char of the range above 255: len; the places written hold each char's low byte -/
theorem law (l : Launch) (b : Addr) (A : Cell) (d : Addr) (B : Cell) (o q len : Nat) : Law l yN 5 5 0 0 yB 7 (some .int) site (P b A d B o q len) (E b A d B o q len) (copyLocs d q len) 0 0 := by
  refine Law.of_walk (plainFor_of_name (by decide +kernel)) (by decide +kernel) (by decide +kernel) (by decide) (fun _ _ h => by rw [h.1]; rfl) (fun _ U U' hal hh h => ⟨h.1, h.2.1.mv hal hh, h.2.2.1.mv hal hh, h.2.2.2⟩) (fun r U U' V V' h1 hal h2 h => ⟨h.1, h.2.elim fun B' q => ⟨B', q.1.mv h1 h2, q.2⟩⟩) ?_
  intro p e s m args below meth c s₁ X0 hexec hbytes hml hret hlk hnm hown hh0 W hP
  obtain ⟨rfl, hA, hB, hne, l1, l2, hp⟩ := hP
  have c1 : Steps p.tables e below (s₁.setTop (entryFrame m #[.ref b, .int (Int32.ofNat o), .ref d, .int (Int32.ofNat q), .int (Int32.ofNat len)] 7)) (s₁.setTop (mkF m 0 #[.val (.ref b), .val (.int (Int32.ofNat o)), .val (.ref d), .val (.int (Int32.ofNat q)), .val (.int (Int32.ofNat len)), .unset, .unset] [])) := entry rfl
  have hA0 := hA.1.mv X0.warmed.alike hh0
  have hB0 := hB.mv X0.warmed.alike hh0
  have a31 := hA.1.2.2.2
  have c2 : Steps p.tables e below (s₁.setTop (entryFrame m #[.ref b, .int (Int32.ofNat o), .ref d, .int (Int32.ofNat q), .int (Int32.ofNat len)] 7)) (s₁.setTop (mkF m 3 #[.val (.ref b), .val (.int (Int32.ofNat o)), .val (.ref d), .val (.int (Int32.ofNat q)), .val (.int (Int32.ofNat len)), .val (.int 0), .unset] [])) := c1.trans (by
    refine iconstV X0.here hexec rfl 0 (hb hbytes d0) (by decide) ?_
    refine XS.istore X0.here hexec rfl (hb hbytes d1) rfl rfl ?_
    exact Steps.refl _)
  have loop : ∀ (r i : Nat), i + r = len → ∀ (z : Slot), (z = .unset ∨ ∃ w, z = .val w ∧ w.category = 1) → ∀ (Tl : State) (Bk : Cell), Stand p l e { frames := 0, locals := 0, cells := 0, slots := 0 } s m #[.ref b, .int (Int32.ofNat o), .ref d, .int (Int32.ofNat q), .int (Int32.ofNat len)] below meth c Tl ([] ++ copyLocs d q i) 0 0 → Put d Bk s₁ Tl → Laid B Bk q (q + i) (fun j => Value.int (lo8 (cv A (o + (j - q))))) →
      Steps p.tables e below (s₁.setTop (entryFrame m #[.ref b, .int (Int32.ofNat o), .ref d, .int (Int32.ofNat q), .int (Int32.ofNat len)] 7)) (Tl.setTop (mkF m 3 #[.val (.ref b), .val (.int (Int32.ofNat (o + i))), .val (.ref d), .val (.int (Int32.ofNat (q + i))), .val (.int (Int32.ofNat len)), .val (.int (Int32.ofNat i)), z] [])) → ∃ (T' : State) (B' : Cell) (z' : Slot), Stand p l e { frames := 0, locals := 0, cells := 0, slots := 0 } s m #[.ref b, .int (Int32.ofNat o), .ref d, .int (Int32.ofNat q), .int (Int32.ofNat len)] below meth c T' ([] ++ copyLocs d q len) 0 0 ∧ Put d B' s₁ T' ∧ Laid B B' q (q + len) (fun j => Value.int (lo8 (cv A (o + (j - q))))) ∧
      Steps p.tables e below (s₁.setTop (entryFrame m #[.ref b, .int (Int32.ofNat o), .ref d, .int (Int32.ofNat q), .int (Int32.ofNat len)] 7)) (T'.setTop (mkF m 3 #[.val (.ref b), .val (.int (Int32.ofNat (o + len))), .val (.ref d), .val (.int (Int32.ofNat (q + len))), .val (.int (Int32.ofNat len)), .val (.int (Int32.ofNat len)), z'] [])) := by
    intro r
    induction r with
    | zero =>
      intro i hi z hz Tl Bk Xl pl fl cl
      have hil : i = len := by omega
      rw [hil] at Xl fl cl
      exact ⟨Tl, Bk, z, Xl, pl, fl, cl⟩
    | succ r ih =>
      intro i hi z hz Tl Bk Xl pl fl cl
      have all := X0.warmed.alike.symm.trans Xl.warmed.alike
      have hAl := hA0.keep all (pl.other hne hA0.1)
      have hBk := hB0.like all pl.1 fl.1 fl.2.1 fl.2.2.1
      have hlt : q + i < Bk.slots.size := by rw [fl.2.2.1]; omega
      have c3 : Steps p.tables e below (s₁.setTop (entryFrame m #[.ref b, .int (Int32.ofNat o), .ref d, .int (Int32.ofNat q), .int (Int32.ofNat len)] 7)) (Tl.setTop (mkF m 12 #[.val (.ref b), .val (.int (Int32.ofNat (o + i))), .val (.ref d), .val (.int (Int32.ofNat (q + i))), .val (.int (Int32.ofNat len)), .val (.int (Int32.ofNat i)), z] [.int (Int32.ofNat (o + i)), .ref b])) := cl.trans (by
        refine XS.iload Xl.here hexec rfl (hb hbytes d3) rfl ?_
        refine XS.iload Xl.here hexec rfl (hb hbytes d5) rfl ?_
        refine XS.icmpNo Xl.here hexec rfl (hb hbytes d7) rfl (ii_ge_f (lt32 (by omega) (by omega))) ?_
        refine XS.aloadN Xl.here hexec rfl (hb hbytes d10) rfl rfl ?_
        refine XS.iloadN Xl.here hexec rfl (hb hbytes d11) rfl ?_
        exact Steps.refl _)
      have c4 : Steps p.tables e below (s₁.setTop (entryFrame m #[.ref b, .int (Int32.ofNat o), .ref d, .int (Int32.ofNat q), .int (Int32.ofNat len)] 7)) (Tl.setTop (mkF m 13 #[.val (.ref b), .val (.int (Int32.ofNat (o + i))), .val (.ref d), .val (.int (Int32.ofNat (q + i))), .val (.int (Int32.ofNat len)), .val (.int (Int32.ofNat i)), z] [.int (cv A (o + i))])) := c3.trans (by
        refine Xl.aget hexec hAl rfl (hA.get (i := o + i) (by omega)) rfl rfl (hb hbytes d12) ?_
        exact Steps.refl _)
      have c5 : Steps p.tables e below (s₁.setTop (entryFrame m #[.ref b, .int (Int32.ofNat o), .ref d, .int (Int32.ofNat q), .int (Int32.ofNat len)] 7)) (Tl.setTop (mkF m 15 #[.val (.ref b), .val (.int (Int32.ofNat (o + i))), .val (.ref d), .val (.int (Int32.ofNat (q + i))), .val (.int (Int32.ofNat len)), .val (.int (Int32.ofNat i)), .val (.int (cv A (o + i)))] [])) := c4.trans (by
        refine XS.istoreS Xl.here hexec rfl (hb hbytes d13) rfl rfl hz ?_
        exact Steps.refl _)
      have c6 : Steps p.tables e below (s₁.setTop (entryFrame m #[.ref b, .int (Int32.ofNat o), .ref d, .int (Int32.ofNat q), .int (Int32.ofNat len)] 7)) (Tl.setTop (mkF m 31 #[.val (.ref b), .val (.int (Int32.ofNat (o + i))), .val (.ref d), .val (.int (Int32.ofNat (q + i))), .val (.int (Int32.ofNat len)), .val (.int (Int32.ofNat i)), .val (.int (cv A (o + i)))] [.int (lo8 (cv A (o + i))), .int (Int32.ofNat (q + i)), .ref d])) := c5.trans (by
        refine XS.iload Xl.here hexec rfl (hb hbytes d15) rfl ?_
        refine sipushV Xl.here hexec rfl 255 (hb hbytes d17) (by decide) ?_
        refine XS.icmpYes Xl.here hexec rfl (pc0 := 20) rfl (hb hbytes d20) rfl (ii_le_t (hp i (by omega))) (by decide) rfl ?_
        refine XS.aloadN Xl.here hexec rfl (hb hbytes d26) rfl rfl ?_
        refine XS.iloadN Xl.here hexec rfl (hb hbytes d27) rfl ?_
        refine XS.iload Xl.here hexec rfl (hb hbytes d28) rfl ?_
        refine i2b Xl.here hexec rfl (hb hbytes d30) rfl ?_
        exact Steps.refl _)
      obtain ⟨T7, X7, p7, st7⟩ := Xl.aput hexec hBk rfl hlt rfl (fits_lo8 (cv A (o + i))) (g := (mkF m 31 #[.val (.ref b), .val (.int (Int32.ofNat (o + i))), .val (.ref d), .val (.int (Int32.ofNat (q + i))), .val (.int (Int32.ofNat len)), .val (.int (Int32.ofNat i)), .val (.int (cv A (o + i)))] [.int (lo8 (cv A (o + i))), .int (Int32.ofNat (q + i)), .ref d])) rfl (rest := []) rfl (hb hbytes d31)
      have c8 : Steps p.tables e below (s₁.setTop (entryFrame m #[.ref b, .int (Int32.ofNat o), .ref d, .int (Int32.ofNat q), .int (Int32.ofNat len)] 7)) (T7.setTop (mkF m 32 #[.val (.ref b), .val (.int (Int32.ofNat (o + i))), .val (.ref d), .val (.int (Int32.ofNat (q + i))), .val (.int (Int32.ofNat len)), .val (.int (Int32.ofNat i)), .val (.int (cv A (o + i)))] [])) := c6.trans (st7 _ (Steps.refl _))
      have c9 : Steps p.tables e below (s₁.setTop (entryFrame m #[.ref b, .int (Int32.ofNat o), .ref d, .int (Int32.ofNat q), .int (Int32.ofNat len)] 7)) (T7.setTop (mkF m 3 #[.val (.ref b), .val (.int (Int32.ofNat (o + i) + 1)), .val (.ref d), .val (.int (Int32.ofNat (q + i) + 1)), .val (.int (Int32.ofNat len)), .val (.int (Int32.ofNat i + 1)), .val (.int (cv A (o + i)))] [])) := c8.trans (by
        refine iincV X7.here hexec rfl 1 (hb hbytes d32) (by decide) rfl rfl ?_
        refine iincV X7.here hexec rfl 1 (hb hbytes d35) (by decide) rfl rfl ?_
        refine iincV X7.here hexec rfl 1 (hb hbytes d38) (by decide) rfl rfl ?_
        refine XS.goto X7.here hexec rfl (pc0 := 41) rfl (hb hbytes d41) (by decide) rfl ?_
        exact Steps.refl _)
      have c10 : Steps p.tables e below (s₁.setTop (entryFrame m #[.ref b, .int (Int32.ofNat o), .ref d, .int (Int32.ofNat q), .int (Int32.ofNat len)] 7)) (T7.setTop (mkF m 3 #[.val (.ref b), .val (.int (Int32.ofNat (o + (i + 1)))), .val (.ref d), .val (.int (Int32.ofNat (q + (i + 1)))), .val (.int (Int32.ofNat len)), .val (.int (Int32.ofNat (i + 1))), .val (.int (cv A (o + i)))] [])) := by
        have := c9
        rw [succ32, succ32, succ32] at this
        exact this
      exact ih (i + 1) (by omega) _ (Or.inr ⟨_, rfl, rfl⟩) T7 _ (by rw [copyLocs_step, ← List.append_assoc]; exact X7) (pl.trans p7) (fl.step (by omega) hlt (by simp)) c10
  obtain ⟨T9, B9, z9, X9, p9, f9, g9⟩ := loop len 0 (by omega) .unset (Or.inl rfl) s₁ B (by simpa [copyLocs] using X0) ⟨hB0.1, fun _ _ => rfl, rfl⟩ (Laid.zero _ _ _) c2
  have c11 : Steps p.tables e below (s₁.setTop (entryFrame m #[.ref b, .int (Int32.ofNat o), .ref d, .int (Int32.ofNat q), .int (Int32.ofNat len)] 7)) (T9.setTop (mkF m 46 #[.val (.ref b), .val (.int (Int32.ofNat (o + len))), .val (.ref d), .val (.int (Int32.ofNat (q + len))), .val (.int (Int32.ofNat len)), .val (.int (Int32.ofNat len)), z9] [.int (Int32.ofNat len)])) := g9.trans (by
    refine XS.iload X9.here hexec rfl (hb hbytes d3) rfl ?_
    refine XS.iload X9.here hexec rfl (hb hbytes d5) rfl ?_
    refine XS.icmpYes X9.here hexec rfl (pc0 := 7) rfl (hb hbytes d7) rfl (ii_ge_t (nlt32 (by omega) (Nat.le_refl _))) (by decide) rfl ?_
    refine XS.iload X9.here hexec rfl (hb hbytes d44) rfl ?_
    exact Steps.refl _)
  exact ⟨T9, some (.int (Int32.ofNat len)), _, _, _, X9, by simp, rfl, rfl, (fun h => by cases h), ⟨rfl, B9, p9.from hh0, f9⟩, fun fs hl => c11.trans (X9.ireturnOut hexec hret rfl (Or.inl rfl) (hb hbytes d46) hl)⟩
end Cmp5
namespace Cmp3
def yN : MethodName := ⟨"java/lang/StringUTF16", "compress", "([CII)[B"⟩
abbrev yB : ByteArray := jdk_52_method_16_code
theorem d0 : decode yB 0 = .ok (.iload_n 2, 1) := by decide +kernel
theorem d1 : decode yB 1 = .ok (.newarray .byte, 2) := by decide +kernel
theorem d3 : decode yB 3 = .ok (.astore_n 3, 1) := by decide +kernel
theorem d4 : decode yB 4 = .ok (.aload_n 0, 1) := by decide +kernel
theorem d5 : decode yB 5 = .ok (.iload_n 1, 1) := by decide +kernel
theorem d6 : decode yB 6 = .ok (.aload_n 3, 1) := by decide +kernel
theorem d7 : decode yB 7 = .ok (.iconst 0, 1) := by decide +kernel
theorem d8 : decode yB 8 = .ok (.iload_n 2, 1) := by decide +kernel
theorem d9 : decode yB 9 = .ok (.invokestatic 115, 3) := by decide +kernel
theorem d12 : decode yB 12 = .ok (.istore 4, 2) := by decide +kernel
theorem d14 : decode yB 14 = .ok (.iload 4, 2) := by decide +kernel
theorem d16 : decode yB 16 = .ok (.iload_n 2, 1) := by decide +kernel
theorem d17 : decode yB 17 = .ok (.if_icmp (.eq) 40, 3) := by decide +kernel
theorem d57 : decode yB 57 = .ok (.aload_n 3, 1) := by decide +kernel
theorem d58 : decode yB 58 = .ok (.areturn, 1) := by decide +kernel
def site : List Cond := [.arrayClass .byte, Cmp5.tab] ++ staticW U16 115 Cmp5.yN
def tab : Cond := tabOf yN yB 6 (some (.array .byte)) site
def P (b : Addr) (A : Cell) (o len : Nat) (args : Array Value) (s : State) : Prop := args = #[.ref b, .int (Int32.ofNat o), .int (Int32.ofNat len)] ∧ Ch b A s ∧ o + len ≤ A.slots.size ∧ len ≤ 536870912 ∧ ∀ i, i < len → ¬ 255 < cv A (o + i)
def E (b : Addr) (A : Cell) (o len : Nat) (r : Option Value) (s u : State) : Prop := NewArr .byte "[B" len (fun j => .int (lo8 (cv A (o + j)))) r s u ∧ u.heap.size = s.heap.size + 1
/-- no char of the range above 255: a new byte[] of their low bytes -/
theorem law (l : Launch) (b : Addr) (A : Cell) (o len : Nat) : Law l yN 3 3 1 18 yB 6 (some (.array .byte)) site (P b A o len) (E b A o len) [] 1 len := by
  refine Law.of_walk (plainFor_of_name (by decide +kernel)) (by decide +kernel) (by decide +kernel) (by decide) (fun _ _ h => by rw [h.1]; rfl) (fun _ U U' hal hh h => ⟨h.1, h.2.1.mv hal hh, h.2.2⟩) (fun r U U' V V' h1 hal h2 h => ⟨NewArr.mv r U U' V V' h1 hal h2 h.1, by rw [h1, h2]; exact h.2⟩) ?_
  intro p e s m args below meth c s₁ X0 hexec hbytes hml hret hlk hnm hown hh0 W hP
  obtain ⟨rfl, hA, l1, l2, hp⟩ := hP
  have a31 := hA.1.2.2.2
  have c1 : Steps p.tables e below (s₁.setTop (entryFrame m #[.ref b, .int (Int32.ofNat o), .int (Int32.ofNat len)] 6)) (s₁.setTop (mkF m 0 #[.val (.ref b), .val (.int (Int32.ofNat o)), .val (.int (Int32.ofNat len)), .unset, .unset, .unset] [])) := entry rfl
  have c2 : Steps p.tables e below (s₁.setTop (entryFrame m #[.ref b, .int (Int32.ofNat o), .int (Int32.ofNat len)] 6)) (s₁.setTop (mkF m 1 #[.val (.ref b), .val (.int (Int32.ofNat o)), .val (.int (Int32.ofNat len)), .unset, .unset, .unset] [.int (Int32.ofNat len)])) := c1.trans (by
    refine XS.iloadN X0.here hexec rfl (hb hbytes d0) rfl ?_
    exact Steps.refl _)
  obtain ⟨T3, B3, X3, ba3, bs3, bv3, bh3, bf3, st3⟩ := X0.anew hexec (atype := .byte) (wk W (.arrayClass .byte)) rfl (by show len * 1 ≤ _; omega) (by omega) (g := (mkF m 1 #[.val (.ref b), .val (.int (Int32.ofNat o)), .val (.int (Int32.ofNat len)), .unset, .unset, .unset] [.int (Int32.ofNat len)])) rfl (hb hbytes d1) (rest := []) rfl (Nat.le_refl _) (by show 0 + len ≤ len; omega)
  rw [hh0] at ba3 st3
  have kp3 : XT.Kept s T3 := (XT.Kept.of_eq hh0).push bh3
  have hA3 := hA.keep X3.warmed.alike (kp3 _ _ hA.1.1)
  have hne : b ≠ s.heap.size := hA.1.ne
  have c4 : Steps p.tables e below (s₁.setTop (entryFrame m #[.ref b, .int (Int32.ofNat o), .int (Int32.ofNat len)] 6)) (T3.setTop (mkF m 3 #[.val (.ref b), .val (.int (Int32.ofNat o)), .val (.int (Int32.ofNat len)), .unset, .unset, .unset] [.ref s.heap.size])) := c2.trans (st3 _ (Steps.refl _))
  have c5 : Steps p.tables e below (s₁.setTop (entryFrame m #[.ref b, .int (Int32.ofNat o), .int (Int32.ofNat len)] 6)) (T3.setTop (mkF m 9 #[.val (.ref b), .val (.int (Int32.ofNat o)), .val (.int (Int32.ofNat len)), .val (.ref s.heap.size), .unset, .unset] [.int (Int32.ofNat len), .int 0, .ref s.heap.size, .int (Int32.ofNat o), .ref b])) := c4.trans (by
    refine XS.astoreN X3.here hexec rfl (hb hbytes d3) rfl rfl rfl ?_
    refine XS.aloadN X3.here hexec rfl (hb hbytes d4) rfl rfl ?_
    refine XS.iloadN X3.here hexec rfl (hb hbytes d5) rfl ?_
    refine XS.aloadN X3.here hexec rfl (hb hbytes d6) rfl rfl ?_
    refine iconstV X3.here hexec rfl 0 (hb hbytes d7) (by decide) ?_
    refine XS.iloadN X3.here hexec rfl (hb hbytes d8) rfl ?_
    exact Steps.refl _)
  obtain ⟨v6, T6, X6, E6, g6⟩ := X3.callS hexec (Cmp5.law l b A s.heap.size B3 o 0 len) hown (wks W (staticW U16 115 Cmp5.yN)) (wk W Cmp5.tab) (W := 0) (Nat.le_of_ble_eq_true rfl) (Nat.le_of_ble_eq_true rfl) (Nat.le_refl _) (by show 0 + len + 0 ≤ len; omega) (g := (mkF m 9 #[.val (.ref b), .val (.int (Int32.ofNat o)), .val (.int (Int32.ofNat len)), .val (.ref s.heap.size), .unset, .unset] [.int (Int32.ofNat len), .int (Int32.ofNat 0), .ref s.heap.size, .int (Int32.ofNat o), .ref b])) rfl (by rw [hml]; rfl) c5 (argsL := [.ref b, .int (Int32.ofNat o), .ref s.heap.size, .int (Int32.ofNat 0), .int (Int32.ofNat len)]) (rest := []) rfl rfl (by show 2 * 0 + 0 ≤ _; decide) (hb hbytes d9) (⟨rfl, hA3, ba3, hne, l1, by rw [bs3]; simp, hp⟩)
  obtain ⟨rfl, B6, p6, f6⟩ := E6
  have c7 : Steps p.tables e below (s₁.setTop (entryFrame m #[.ref b, .int (Int32.ofNat o), .int (Int32.ofNat len)] 6)) (T6.setTop (mkF m 12 #[.val (.ref b), .val (.int (Int32.ofNat o)), .val (.int (Int32.ofNat len)), .val (.ref s.heap.size), .unset, .unset] [.int (Int32.ofNat len)])) := g6
  have c8 : Steps p.tables e below (s₁.setTop (entryFrame m #[.ref b, .int (Int32.ofNat o), .int (Int32.ofNat len)] 6)) (T6.setTop (mkF m 58 #[.val (.ref b), .val (.int (Int32.ofNat o)), .val (.int (Int32.ofNat len)), .val (.ref s.heap.size), .val (.int (Int32.ofNat len)), .unset] [.ref s.heap.size])) := c7.trans (by
    refine XS.istore X6.here hexec rfl (hb hbytes d12) rfl rfl ?_
    refine XS.iload X6.here hexec rfl (hb hbytes d14) rfl ?_
    refine XS.iloadN X6.here hexec rfl (hb hbytes d16) rfl ?_
    refine XS.icmpYes X6.here hexec rfl (pc0 := 17) rfl (hb hbytes d17) rfl (ii_eq_t rfl) (by decide) rfl ?_
    refine XS.aloadN X6.here hexec rfl (hb hbytes d57) rfl rfl ?_
    exact Steps.refl _)
  have X8 := X6.wide (L' := []) (cells' := 1) (slots' := len) (fun x hx hlt => by
    simp only [List.nil_append, copyLocs, List.mem_map, List.mem_range] at hx
    obtain ⟨i, -, rfl⟩ := hx
    exact absurd hlt (Nat.lt_irrefl _)) (Nat.le_refl _) (by omega)
  exact ⟨T6, some (.ref s.heap.size), _, _, _, X8, rfl, rfl, rfl, (fun h => by cases h), ⟨⟨rfl, B6, ba3.like (X3.warmed.alike.symm.trans X6.warmed.alike) p6.1 f6.1 f6.2.1 f6.2.2.1, f6.2.1.trans bv3, by rw [X6.warmed.alike.findClass, f6.1]; exact bf3, by rw [f6.2.2.1, bs3]; simp, fun j hj => by rw [f6.2.2.2 j, if_pos (by omega)]; rfl, kp3.put p6 (Nat.le_refl _)⟩, by rw [p6.2.2, bh3, hh0]; simp⟩, fun fs hl => c8.trans (X8.areturnOut hexec rfl hret rfl (hb hbytes d58) hl)⟩
end Cmp3
namespace CodL
def yN : MethodName := ⟨"java/lang/StringUTF16", "coderFromArrayLen", "([BI)B"⟩
abbrev yB : ByteArray := jdk_52_method_15_code
theorem d0 : decode yB 0 = .ok (.iload_n 1, 1) := by decide +kernel
theorem d1 : decode yB 1 = .ok (.aload_n 0, 1) := by decide +kernel
theorem d2 : decode yB 2 = .ok (.arraylength, 1) := by decide +kernel
theorem d3 : decode yB 3 = .ok (.isub, 1) := by decide +kernel
theorem d4 : decode yB 4 = .ok (.bipush 31, 2) := by decide +kernel
theorem d6 : decode yB 6 = .ok (.iushr, 1) := by decide +kernel
theorem d7 : decode yB 7 = .ok (.i2b, 1) := by decide +kernel
theorem d8 : decode yB 8 = .ok (.ireturn, 1) := by decide +kernel
def site : List Cond := []
def tab : Cond := tabOf yN yB 2 (some .byte) site
def P (d : Addr) (B : Cell) (args : Array Value) (s : State) : Prop := args = #[.ref d, .int (Int32.ofNat B.slots.size)] ∧ Arr .byte d B s
def E (r : Option Value) (s u : State) : Prop := XT.PureE (some (.int 0)) r s u
/-- an array as long as the number of chars: LATIN1 -/
theorem law (l : Launch) (d : Addr) (B : Cell) : Law l yN 2 2 0 0 yB 2 (some .byte) site (P d B) E [] 0 0 := by
  refine Law.of_walk (plainFor_of_name (by decide +kernel)) (by decide +kernel) (by decide +kernel) (by decide) (fun _ _ h => by rw [h.1]; rfl) (fun _ U U' hal hh h => ⟨h.1, h.2.mv hal hh⟩) (fun r U U' V V' h1 hal h2 h => XT.PureE.mv r U U' V V' h1 hal h2 h) ?_
  intro p e s m args below meth c s₁ X0 hexec hbytes hml hret hlk hnm hown hh0 W hP
  obtain ⟨rfl, hB⟩ := hP
  have hB0 := hB.mv X0.warmed.alike hh0
  have c1 : Steps p.tables e below (s₁.setTop (entryFrame m #[.ref d, .int (Int32.ofNat B.slots.size)] 2)) (s₁.setTop (mkF m 0 #[.val (.ref d), .val (.int (Int32.ofNat B.slots.size))] [])) := entry rfl
  have c2 : Steps p.tables e below (s₁.setTop (entryFrame m #[.ref d, .int (Int32.ofNat B.slots.size)] 2)) (s₁.setTop (mkF m 2 #[.val (.ref d), .val (.int (Int32.ofNat B.slots.size))] [.ref d, .int (Int32.ofNat B.slots.size)])) := c1.trans (by
    refine XS.iloadN X0.here hexec rfl (hb hbytes d0) rfl ?_
    refine XS.aloadN X0.here hexec rfl (hb hbytes d1) rfl rfl ?_
    exact Steps.refl _)
  have c3 : Steps p.tables e below (s₁.setTop (entryFrame m #[.ref d, .int (Int32.ofNat B.slots.size)] 2)) (s₁.setTop (mkF m 8 #[.val (.ref d), .val (.int (Int32.ofNat B.slots.size))] [.int (lo8 (ushr (Int32.ofNat B.slots.size - Int32.ofNat B.slots.size) 31))])) := c2.trans (by
    refine X0.alen hexec hB0 rfl rfl (hb hbytes d2) ?_
    refine XS.isub X0.here hexec rfl (hb hbytes d3) rfl ?_
    refine bipushV X0.here hexec rfl 31 (hb hbytes d4) (by decide) ?_
    refine iushr X0.here hexec rfl (hb hbytes d6) rfl ?_
    refine i2b X0.here hexec rfl (hb hbytes d7) rfl ?_
    exact Steps.refl _)
  have e0 : lo8 (ushr (Int32.ofNat B.slots.size - Int32.ofNat B.slots.size) 31) = 0 := by rw [Int32.sub_self]; decide
  rw [e0] at c3
  exact ⟨s₁, some (.int 0), _, _, _, X0, rfl, rfl, rfl, (fun h => by cases h), ⟨rfl, hh0⟩, fun fs hl => c3.trans (X0.ireturnOut hexec hret rfl (Or.inr (Or.inr (Or.inl rfl))) (hb hbytes d8) hl)⟩
end CodL
/-- the String at a is Latin-1 over a new byte[] (the heap's one new cell): the low bytes of the len chars of A from o on; every cell but a is kept -/
def Got (a : Addr) (D : Cell) (fV fC : Field) (A : Cell) (o len : Nat) (r : Option Value) (s u : State) : Prop := r = none ∧ ∃ D' V : Cell, Blank "java/lang/String" a D' u ∧ Same D D' [fV.slot, fC.slot] ∧ D'.slots[fV.slot]? = some (.ref s.heap.size) ∧ D'.slots[fC.slot]? = some (.int 0) ∧ Arr .byte s.heap.size V u ∧ V.vm = .none ∧ u.vm.findClass "[B" = some V.cls ∧ V.slots.size = len ∧ (∀ j, j < len → V.slots[j]? = some (.int (lo8 (cv A (o + j))))) ∧ (∀ (y : Addr) (c : Cell), y ≠ a → s.heap[y]? = some c → u.heap[y]? = some c) ∧ u.heap.size = s.heap.size + 1
theorem Got.mv {a : Addr} {D A : Cell} {fV fC : Field} {o len : Nat} : ∀ r (U U' V V' : State), U'.heap = U.heap → V.vm.Alike V'.vm → V'.heap = V.heap → Got a D fV fC A o len r U V → Got a D fV fC A o len r U' V' :=
  fun r U U' V V' h1 hal h2 ⟨e0, D', X, a1, a2, a3, a4, a5, a6, a7, a8, a9, a10, a11⟩ => ⟨e0, D', X, a1.mv hal h2, a2, by rw [h1]; exact a3, a4, by rw [h1]; exact a5.mv hal h2, a6, by rw [hal.findClass]; exact a7, a8, a9, by rw [h1, h2]; exact a10, by rw [h1, h2]; exact a11⟩
namespace New4
def yN : MethodName := ⟨"java/lang/String", "<init>", "([CIILjava/lang/Void;)V"⟩
abbrev yB : ByteArray := jdk_42_method_149_code
theorem d0 : decode yB 0 = .ok (.aload_n 0, 1) := by decide +kernel
theorem d1 : decode yB 1 = .ok (.invokespecial 1, 3) := by decide +kernel
theorem d4 : decode yB 4 = .ok (.iload_n 3, 1) := by decide +kernel
theorem d5 : decode yB 5 = .ok (.ifCond (.ne) 22, 3) := by decide +kernel
theorem d27 : decode yB 27 = .ok (.getstatic 38, 3) := by decide +kernel
theorem d30 : decode yB 30 = .ok (.ifCond (.eq) 28, 3) := by decide +kernel
theorem d33 : decode yB 33 = .ok (.aload_n 1, 1) := by decide +kernel
theorem d34 : decode yB 34 = .ok (.iload_n 2, 1) := by decide +kernel
theorem d35 : decode yB 35 = .ok (.iload_n 3, 1) := by decide +kernel
theorem d36 : decode yB 36 = .ok (.invokestatic 177, 3) := by decide +kernel
theorem d39 : decode yB 39 = .ok (.astore 5, 2) := by decide +kernel
theorem d41 : decode yB 41 = .ok (.aload_n 0, 1) := by decide +kernel
theorem d42 : decode yB 42 = .ok (.aload 5, 2) := by decide +kernel
theorem d44 : decode yB 44 = .ok (.iload_n 3, 1) := by decide +kernel
theorem d45 : decode yB 45 = .ok (.invokestatic 47, 3) := by decide +kernel
theorem d48 : decode yB 48 = .ok (.putfield 15, 3) := by decide +kernel
theorem d51 : decode yB 51 = .ok (.aload_n 0, 1) := by decide +kernel
theorem d52 : decode yB 52 = .ok (.aload 5, 2) := by decide +kernel
theorem d54 : decode yB 54 = .ok (.putfield 9, 3) := by decide +kernel
theorem d57 : decode yB 57 = .ok (.return_, 1) := by decide +kernel
def site : List Cond := [.fieldLink "java/lang/String" 38 "java/lang/String" "COMPACT_STRINGS" "Z", Cmp3.tab, CodL.tab, .laysFinal "java/lang/String" "java/lang/String" "value" "[B", .fieldLink "java/lang/String" 9 "java/lang/String" "value" "[B", .laysFinal "java/lang/String" "java/lang/String" "coder" "B", .fieldLink "java/lang/String" 15 "java/lang/String" "coder" "B"] ++ objW "java/lang/String" 1 ++ staticW "java/lang/String" 177 Cmp3.yN ++ staticW "java/lang/String" 47 CodL.yN
def tab : Cond := tabOf yN yB 6 none site
def P (a : Addr) (D : Cell) (fV fC : Field) (b : Addr) (A : Cell) (z : Int32) (o len : Nat) (args : Array Value) (s : State) : Prop := args = #[.ref a, .ref b, .int (Int32.ofNat o), .int (Int32.ofNat len), .null] ∧ Blank "java/lang/String" a D s ∧ Found "java/lang/String" "value" "[B" fV s ∧ Found "java/lang/String" "coder" "B" fC s ∧ Ch b A s ∧ StaticIs s "java/lang/String" "COMPACT_STRINGS" "Z" (.int z) ∧ ¬ z = 0 ∧ 0 < len ∧ o + len ≤ A.slots.size ∧ len ≤ 536870912 ∧ ∀ i, i < len → ¬ 255 < cv A (o + i)
def E (a : Addr) (D : Cell) (fV fC : Field) (A : Cell) (o len : Nat) (r : Option Value) (s u : State) : Prop := Got a D fV fC A o len r s u
/-- len > 0, no char of the range above 255: a Latin-1 String of their low bytes -/
theorem law (l : Launch) (a : Addr) (D : Cell) (fV fC : Field) (b : Addr) (A : Cell) (z : Int32) (o len : Nat) : Law l yN 5 4 2 35 yB 6 none site (P a D fV fC b A z o len) (E a D fV fC A o len) [⟨a, fC.slot⟩, ⟨a, fV.slot⟩] 1 len := by
  refine Law.of_walk (plainFor_of_name (by decide +kernel)) (by decide +kernel) (by decide +kernel) (by decide) (fun _ _ h => by rw [h.1]; rfl) (fun _ U U' hal hh h => ⟨h.1, h.2.1.mv hal hh, h.2.2.1.al hal, h.2.2.2.1.al hal, h.2.2.2.2.1.mv hal hh, h.2.2.2.2.2.1.there hal hh, h.2.2.2.2.2.2⟩) (fun r U U' V V' h1 hal h2 h => Got.mv r U U' V V' h1 hal h2 h) ?_
  intro p e s m args below meth c s₁ X0 hexec hbytes hml hret hlk hnm hown hh0 W hP
  obtain ⟨rfl, hB, f1, f2, hA, s1, hz, l0, l1, l2, hp⟩ := hP
  have a31 := hA.1.2.2.2
  have c1 : Steps p.tables e below (s₁.setTop (entryFrame m #[.ref a, .ref b, .int (Int32.ofNat o), .int (Int32.ofNat len), .null] 6)) (s₁.setTop (mkF m 0 #[.val (.ref a), .val (.ref b), .val (.int (Int32.ofNat o)), .val (.int (Int32.ofNat len)), .val .null, .unset] [])) := entry rfl
  have c2 : Steps p.tables e below (s₁.setTop (entryFrame m #[.ref a, .ref b, .int (Int32.ofNat o), .int (Int32.ofNat len), .null] 6)) (s₁.setTop (mkF m 1 #[.val (.ref a), .val (.ref b), .val (.int (Int32.ofNat o)), .val (.int (Int32.ofNat len)), .val .null, .unset] [.ref a])) := c1.trans (by
    refine XS.aloadN X0.here hexec rfl (hb hbytes d0) rfl rfl ?_
    exact Steps.refl _)
  obtain ⟨T3, X3, q3, st3⟩ := X0.oinit hexec hown (wks W (objW "java/lang/String" 1)) (g := (mkF m 1 #[.val (.ref a), .val (.ref b), .val (.int (Int32.ofNat o)), .val (.int (Int32.ofNat len)), .val .null, .unset] [.ref a])) rfl (by rw [hml]; rfl) (rest := []) rfl (hb hbytes d1) (W := 0) (by show 2 * 0 + 0 ≤ _; decide) (Nat.le_of_ble_eq_true rfl) (Nat.le_of_ble_eq_true rfl)
  have hh3 := q3.trans hh0
  have c4 : Steps p.tables e below (s₁.setTop (entryFrame m #[.ref a, .ref b, .int (Int32.ofNat o), .int (Int32.ofNat len), .null] 6)) (T3.setTop (mkF m 27 #[.val (.ref a), .val (.ref b), .val (.int (Int32.ofNat o)), .val (.int (Int32.ofNat len)), .val .null, .unset] [])) := (c2.trans (st3 _ (Steps.refl _))).trans (by
    refine XS.iloadN X3.here hexec rfl (hb hbytes d4) rfl ?_
    refine XS.ifYes X3.here hexec rfl (pc0 := 5) rfl (hb hbytes d5) rfl (i0_ne_t (nz32 (by omega) l0)) (by decide) rfl ?_
    exact Steps.refl _)
  obtain ⟨T5, X5, q5, st5⟩ := X3.sget hexec hown (wk W (.fieldLink "java/lang/String" 38 "java/lang/String" "COMPACT_STRINGS" "Z")) s1 (fun _ _ h => by rw [hh3]; exact h) (g := (mkF m 27 #[.val (.ref a), .val (.ref b), .val (.int (Int32.ofNat o)), .val (.int (Int32.ofNat len)), .val .null, .unset] [])) rfl (hb hbytes d27)
  have hh5 := q5.trans hh3
  have c6 : Steps p.tables e below (s₁.setTop (entryFrame m #[.ref a, .ref b, .int (Int32.ofNat o), .int (Int32.ofNat len), .null] 6)) (T5.setTop (mkF m 30 #[.val (.ref a), .val (.ref b), .val (.int (Int32.ofNat o)), .val (.int (Int32.ofNat len)), .val .null, .unset] [.int z])) := c4.trans (st5 _ (Steps.refl _))
  have c7 : Steps p.tables e below (s₁.setTop (entryFrame m #[.ref a, .ref b, .int (Int32.ofNat o), .int (Int32.ofNat len), .null] 6)) (T5.setTop (mkF m 36 #[.val (.ref a), .val (.ref b), .val (.int (Int32.ofNat o)), .val (.int (Int32.ofNat len)), .val .null, .unset] [.int (Int32.ofNat len), .int (Int32.ofNat o), .ref b])) := c6.trans (by
    refine XS.ifNo X5.here hexec rfl (hb hbytes d30) rfl (i0_eq_f hz) ?_
    refine XS.aloadN X5.here hexec rfl (hb hbytes d33) rfl rfl ?_
    refine XS.iloadN X5.here hexec rfl (hb hbytes d34) rfl ?_
    refine XS.iloadN X5.here hexec rfl (hb hbytes d35) rfl ?_
    exact Steps.refl _)
  obtain ⟨v8, T8, X8, E8, g8⟩ := X5.callS hexec (Cmp3.law l b A o len) hown (wks W (staticW "java/lang/String" 177 Cmp3.yN)) (wk W Cmp3.tab) (W := 0) (Nat.le_of_ble_eq_true rfl) (Nat.le_of_ble_eq_true rfl) (Nat.le_refl _) (by show 0 + len ≤ len; omega) (g := (mkF m 36 #[.val (.ref a), .val (.ref b), .val (.int (Int32.ofNat o)), .val (.int (Int32.ofNat len)), .val .null, .unset] [.int (Int32.ofNat len), .int (Int32.ofNat o), .ref b])) rfl (by rw [hml]; rfl) c7 (argsL := [.ref b, .int (Int32.ofNat o), .int (Int32.ofNat len)]) (rest := []) rfl rfl (by show 2 * 0 + 0 ≤ _; decide) (hb hbytes d36) (⟨rfl, hA.mv X5.warmed.alike hh5, l1, l2, hp⟩)
  obtain ⟨e8, z8⟩ := E8
  obtain ⟨rfl, N, n1, n2, n3, n4, n5, n6⟩ := NewArr.mv _ T5 s _ _ hh5.symm (Vm.Alike.refl _) rfl e8
  rw [hh5] at z8
  have hB1 := hB.keep X8.warmed.alike (n6 _ _ hB.1)
  have hne : s.heap.size ≠ a := (Nat.ne_of_lt (Array.getElem?_eq_some_iff.mp hB.1).1).symm
  have c9 : Steps p.tables e below (s₁.setTop (entryFrame m #[.ref a, .ref b, .int (Int32.ofNat o), .int (Int32.ofNat len), .null] 6)) (T8.setTop (mkF m 39 #[.val (.ref a), .val (.ref b), .val (.int (Int32.ofNat o)), .val (.int (Int32.ofNat len)), .val .null, .unset] [.ref s.heap.size])) := g8
  have c10 : Steps p.tables e below (s₁.setTop (entryFrame m #[.ref a, .ref b, .int (Int32.ofNat o), .int (Int32.ofNat len), .null] 6)) (T8.setTop (mkF m 45 #[.val (.ref a), .val (.ref b), .val (.int (Int32.ofNat o)), .val (.int (Int32.ofNat len)), .val .null, .val (.ref s.heap.size)] [.int (Int32.ofNat N.slots.size), .ref s.heap.size, .ref a])) := by
    have hc : Steps p.tables e below (s₁.setTop (entryFrame m #[.ref a, .ref b, .int (Int32.ofNat o), .int (Int32.ofNat len), .null] 6)) (T8.setTop (mkF m 45 #[.val (.ref a), .val (.ref b), .val (.int (Int32.ofNat o)), .val (.int (Int32.ofNat len)), .val .null, .val (.ref s.heap.size)] [.int (Int32.ofNat len), .ref s.heap.size, .ref a])) := c9.trans (by
      refine XS.astore X8.here hexec rfl (hb hbytes d39) rfl rfl rfl ?_
      refine XS.aloadN X8.here hexec rfl (hb hbytes d41) rfl rfl ?_
      refine XS.aload X8.here hexec rfl (hb hbytes d42) rfl rfl ?_
      refine XS.iloadN X8.here hexec rfl (hb hbytes d44) rfl ?_
      exact Steps.refl _)
    rw [n4]; exact hc
  obtain ⟨v11, T11, X11, E11, g11⟩ := X8.callS hexec (CodL.law l s.heap.size N) hown (wks W (staticW "java/lang/String" 47 CodL.yN)) (wk W CodL.tab) (W := 1) (Nat.le_of_ble_eq_true rfl) (Nat.le_of_ble_eq_true rfl) (Nat.le_refl _) (by show 0 + len + 0 ≤ len; omega) (g := (mkF m 45 #[.val (.ref a), .val (.ref b), .val (.int (Int32.ofNat o)), .val (.int (Int32.ofNat len)), .val .null, .val (.ref s.heap.size)] [.int (Int32.ofNat N.slots.size), .ref s.heap.size, .ref a])) rfl (by rw [hml]; rfl) c10 (argsL := [.ref s.heap.size, .int (Int32.ofNat N.slots.size)]) (rest := [.ref a]) rfl rfl (by show 2 * 0 + (1 + 0) ≤ _; decide) (hb hbytes d45) (⟨rfl, n1⟩)
  obtain ⟨rfl, q11⟩ := E11
  have hB11 := hB1.mv (X8.warmed.alike.symm.trans X11.warmed.alike) q11
  have c12 : Steps p.tables e below (s₁.setTop (entryFrame m #[.ref a, .ref b, .int (Int32.ofNat o), .int (Int32.ofNat len), .null] 6)) (T11.setTop (mkF m 48 #[.val (.ref a), .val (.ref b), .val (.int (Int32.ofNat o)), .val (.int (Int32.ofNat len)), .val .null, .val (.ref s.heap.size)] [.int 0, .ref a])) := g11
  obtain ⟨T13, X13, p13, bl13, sl13, st13⟩ := X11.finit hexec hown (wk W (.fieldLink "java/lang/String" 15 "java/lang/String" "coder" "B")) (Or.inr ⟨_, (wk W (.laysFinal "java/lang/String" "java/lang/String" "coder" "B"))⟩) (Or.inl ⟨rfl, hnm⟩) f2 (Or.inl rfl) hB11 (t := .byte) (by decide +kernel) rfl (g := (mkF m 48 #[.val (.ref a), .val (.ref b), .val (.int (Int32.ofNat o)), .val (.int (Int32.ofNat len)), .val .null, .val (.ref s.heap.size)] [.int 0, .ref a])) rfl (rest := []) rfl (hb hbytes d48)
  have c14 : Steps p.tables e below (s₁.setTop (entryFrame m #[.ref a, .ref b, .int (Int32.ofNat o), .int (Int32.ofNat len), .null] 6)) (T13.setTop (mkF m 54 #[.val (.ref a), .val (.ref b), .val (.int (Int32.ofNat o)), .val (.int (Int32.ofNat len)), .val .null, .val (.ref s.heap.size)] [.ref s.heap.size, .ref a])) := (c12.trans (st13 _ (Steps.refl _))).trans (by
    refine XS.aloadN X13.here hexec rfl (hb hbytes d51) rfl rfl ?_
    refine XS.aload X13.here hexec rfl (hb hbytes d52) rfl rfl ?_
    exact Steps.refl _)
  obtain ⟨T15, X15, p15, bl15, sl15, st15⟩ := X13.finit hexec hown (wk W (.fieldLink "java/lang/String" 9 "java/lang/String" "value" "[B")) (Or.inr ⟨_, (wk W (.laysFinal "java/lang/String" "java/lang/String" "value" "[B"))⟩) (Or.inl ⟨rfl, hnm⟩) f1 (Or.inl rfl) bl13 (t := (.array .byte)) (by decide +kernel) rfl (g := (mkF m 54 #[.val (.ref a), .val (.ref b), .val (.int (Int32.ofNat o)), .val (.int (Int32.ofNat len)), .val .null, .val (.ref s.heap.size)] [.ref s.heap.size, .ref a])) rfl (rest := []) rfl (hb hbytes d54)
  have c16 : Steps p.tables e below (s₁.setTop (entryFrame m #[.ref a, .ref b, .int (Int32.ofNat o), .int (Int32.ofNat len), .null] 6)) (T15.setTop (mkF m 57 #[.val (.ref a), .val (.ref b), .val (.int (Int32.ofNat o)), .val (.int (Int32.ofNat len)), .val .null, .val (.ref s.heap.size)] [])) := c14.trans (st15 _ (Steps.refl _))
  have ap := apart (Or.inr ⟨_, (wk W (.laysFinal "java/lang/String" "java/lang/String" "value" "[B"))⟩) (Or.inr ⟨_, (wk W (.laysFinal "java/lang/String" "java/lang/String" "coder" "B"))⟩) f1 f2 (t₁ := .array .byte) (t₂ := .byte) (by decide +kernel) (by decide +kernel) (by decide)
  have al := X8.warmed.alike.symm.trans X15.warmed.alike
  have n7 : T11.heap[s.heap.size]? = some N := by rw [q11]; exact n1.1
  exact ⟨T15, none, _, _, _, X15, by simp, rfl, by omega, (fun _ => rfl), ⟨rfl, _, N, bl15, ((Same.refl D _).set _ (by simp)).set _ (by simp), sl15, (Cell.slots_setSlot_ne _ ap).trans sl13, n1.keep al (p15.other hne (p13.other hne n7)), n2, by rw [al.findClass]; exact n3, n4, n5, fun y c h1 h2 => p15.other h1 (p13.other h1 (by rw [q11]; exact n6 y c h2)), by rw [p15.2.2, p13.2.2, q11]; exact z8⟩, fun fs hl => c16.trans (X15.returnOut hexec hret (hb hbytes d57) hl)⟩
end New4
namespace New1
def yN : MethodName := ⟨"java/lang/String", "<init>", "([C)V"⟩
abbrev yB : ByteArray := jdk_42_method_3_code
theorem d0 : decode yB 0 = .ok (.aload_n 0, 1) := by decide +kernel
theorem d1 : decode yB 1 = .ok (.aload_n 1, 1) := by decide +kernel
theorem d2 : decode yB 2 = .ok (.iconst 0, 1) := by decide +kernel
theorem d3 : decode yB 3 = .ok (.aload_n 1, 1) := by decide +kernel
theorem d4 : decode yB 4 = .ok (.arraylength, 1) := by decide +kernel
theorem d5 : decode yB 5 = .ok (.aconst_null, 1) := by decide +kernel
theorem d6 : decode yB 6 = .ok (.invokespecial 27, 3) := by decide +kernel
theorem d9 : decode yB 9 = .ok (.return_, 1) := by decide +kernel
def site : List Cond := [New4.tab] ++ initW "java/lang/String" 27 New4.yN
def tab : Cond := tabOf yN yB 2 none site
def P (a : Addr) (D : Cell) (fV fC : Field) (b : Addr) (A : Cell) (z : Int32) (args : Array Value) (s : State) : Prop := args = #[.ref a, .ref b] ∧ Blank "java/lang/String" a D s ∧ Found "java/lang/String" "value" "[B" fV s ∧ Found "java/lang/String" "coder" "B" fC s ∧ Ch b A s ∧ StaticIs s "java/lang/String" "COMPACT_STRINGS" "Z" (.int z) ∧ ¬ z = 0 ∧ 0 < A.slots.size ∧ A.slots.size ≤ 536870912 ∧ ∀ i, i < A.slots.size → ¬ 255 < cv A i
def E (a : Addr) (D : Cell) (fV fC : Field) (A : Cell) (r : Option Value) (s u : State) : Prop := Got a D fV fC A 0 A.slots.size r s u
/-- new String(chars), not empty, no char above 255: a Latin-1 String of their low bytes -/
theorem law (l : Launch) (a : Addr) (D : Cell) (fV fC : Field) (b : Addr) (A : Cell) (z : Int32) : Law l yN 2 1 3 52 yB 2 none site (P a D fV fC b A z) (E a D fV fC A) [⟨a, fC.slot⟩, ⟨a, fV.slot⟩] 1 A.slots.size := by
  refine Law.of_walk (plainFor_of_name (by decide +kernel)) (by decide +kernel) (by decide +kernel) (by decide) (fun _ _ h => by rw [h.1]; rfl) (fun _ U U' hal hh h => ⟨h.1, h.2.1.mv hal hh, h.2.2.1.al hal, h.2.2.2.1.al hal, h.2.2.2.2.1.mv hal hh, h.2.2.2.2.2.1.there hal hh, h.2.2.2.2.2.2⟩) (fun r U U' V V' h1 hal h2 h => Got.mv r U U' V V' h1 hal h2 h) ?_
  intro p e s m args below meth c s₁ X0 hexec hbytes hml hret hlk hnm hown hh0 W hP
  obtain ⟨rfl, hB, f1, f2, hA, s1, hz, l0, l2, hp⟩ := hP
  have c1 : Steps p.tables e below (s₁.setTop (entryFrame m #[.ref a, .ref b] 2)) (s₁.setTop (mkF m 0 #[.val (.ref a), .val (.ref b)] [])) := entry rfl
  have c2 : Steps p.tables e below (s₁.setTop (entryFrame m #[.ref a, .ref b] 2)) (s₁.setTop (mkF m 6 #[.val (.ref a), .val (.ref b)] [.null, .int (Int32.ofNat A.slots.size), .int 0, .ref b, .ref a])) := c1.trans (by
    refine XS.aloadN X0.here hexec rfl (hb hbytes d0) rfl rfl ?_
    refine XS.aloadN X0.here hexec rfl (hb hbytes d1) rfl rfl ?_
    refine iconstV X0.here hexec rfl 0 (hb hbytes d2) (by decide) ?_
    refine XS.aloadN X0.here hexec rfl (hb hbytes d3) rfl rfl ?_
    refine X0.alen hexec (hA.1.mv X0.warmed.alike hh0) rfl rfl (hb hbytes d4) ?_
    refine XS.aconstNull X0.here hexec rfl (hb hbytes d5) ?_
    exact Steps.refl _)
  obtain ⟨v3, T3, X3, E3, g3⟩ := X0.callN hexec (New4.law l a D fV fC b A z 0 A.slots.size) rfl hown (wks W (initW "java/lang/String" 27 New4.yN)) (W New4.tab (by simp only [site, List.mem_cons, List.mem_append, true_or, or_true])) (W := 0) (Nat.le_of_ble_eq_true rfl) (Nat.le_of_ble_eq_true rfl) (Nat.le_refl _) (by show 0 + A.slots.size ≤ A.slots.size; omega) (g := (mkF m 6 #[.val (.ref a), .val (.ref b)] [.null, .int (Int32.ofNat A.slots.size), .int (Int32.ofNat 0), .ref b, .ref a])) rfl (by rw [hml]; rfl) c2 (argsL := [.ref b, .int (Int32.ofNat 0), .int (Int32.ofNat A.slots.size), .null]) (rest := []) rfl rfl (by show 2 * 0 + 0 ≤ _; decide) (hb hbytes d6) (⟨rfl, hB.mv X0.warmed.alike hh0, f1.al X0.warmed.alike, f2.al X0.warmed.alike, hA.mv X0.warmed.alike hh0, s1.there X0.warmed.alike hh0, hz, l0, by omega, l2, fun i hi => by rw [Nat.zero_add]; exact hp i hi⟩)
  have e0 := Got.mv _ s₁ s _ _ hh0.symm (Vm.Alike.refl _) rfl E3
  obtain rfl := e0.1
  have c4 : Steps p.tables e below (s₁.setTop (entryFrame m #[.ref a, .ref b] 2)) (T3.setTop (mkF m 9 #[.val (.ref a), .val (.ref b)] [])) := g3
  exact ⟨T3, none, _, _, _, X3, by simp, rfl, by omega, (fun _ => rfl), e0, fun fs hl => c4.trans (X3.returnOut hexec hret (hb hbytes d9) hl)⟩
theorem pays {l : Launch} {R : Room} {p : Program} {e : Env} {below : List Frame} {s : State} {sargs : Array Value} {len W : Nat} (a : Addr) (D : Cell) (fV fC : Field) (b : Addr) (A : Cell) (z : Int32) (htab : tab.before sargs s = true) (hfr : 4 ≤ R.frames) (hlo : W + 65 ≤ R.locals) :
    Back l R p e below s sargs yN len W (fun A₁ a₁ => A₁.cells + 1 ≤ R.cells ∧ A₁.slots + A.slots.size ≤ R.slots ∧ P a D fV fC b A z a₁ A₁.U) (fun A₁ _ v₁ B₁ => E a D fV fC A v₁ A₁.U B₁.U ∧ B₁.locs = A₁.locs ++ [⟨a, fC.slot⟩, ⟨a, fV.slot⟩] ∧ B₁.cells = A₁.cells + 1 ∧ B₁.slots = A₁.slots + A.slots.size) :=
  (law l a D fV fC b A z).pays htab hfr (by omega)
end New1
/-- the byte, read back as charAt reads it, is the char -/
theorem lo8_mask {x : Int32} (h0 : ¬ x < 0) (h1 : ¬ 255 < x) : lo8 x &&& 255 = x := by
  have t : ∀ k : Fin 256, lo8 (Int32.ofNat k.val) &&& 255 = Int32.ofNat k.val := by decide +kernel
  rw [Int32.lt_iff_toInt_lt] at h0 h1
  have e0 : (0 : Int32).toInt = 0 := rfl
  have e1 : (255 : Int32).toInt = 255 := rfl
  obtain ⟨k, hk⟩ : ∃ k : Nat, x.toInt = k := ⟨x.toInt.toNat, by omega⟩
  have hx : x = Int32.ofNat k := Int32.toInt_inj.mp (by rw [hk, Int32.toInt_ofNat_small (by omega)])
  rw [hx]
  exact t ⟨k, by omega⟩
end StrChars
namespace StrChars.Road
open Jvm Sem ClassFile Op Lib Jvm.Stand Jvm.Free Jvm.Free.XT
open Jvm.Lib.Cold (StaticIs)
abbrev ST : String := "java/lang/String"
/-- every table word that New1's law asks, flat -/
abbrev words : List Jvm.Cond := [.code New1.yN New1.yB 2 none, .initialized ST, .methodLink ST 27 New4.yN, .instanceMethod New4.yN,
  .code New4.yN New4.yB 6 none, .fieldLink ST 38 ST "COMPACT_STRINGS" "Z", .laysFinal ST ST "value" "[B", .fieldLink ST 9 ST "value" "[B", .laysFinal ST ST "coder" "B", .fieldLink ST 15 ST "coder" "B",
  .methodLink ST 1 Lib.objectInit, .instanceMethod Lib.objectInit, .code Lib.objectInit ⟨#[0xb1]⟩ 1 none, .methodLink ST 177 Cmp3.yN, .static Cmp3.yN, .methodLink ST 47 CodL.yN, .static CodL.yN,
  .code Cmp3.yN Cmp3.yB 6 (some (.array .byte)), .initialized U16, .arrayClass .byte, .methodLink U16 115 Cmp5.yN, .static Cmp5.yN, .code Cmp5.yN Cmp5.yB 7 (some .int), .code CodL.yN CodL.yB 2 (some .byte)]
theorem tab_of {a : Array Value} {s : State} (h : ∀ w ∈ words, w.before a s = true) : New1.tab.before a s = true := by
  have h5 : Cmp5.tab.before a s = true := unparts (wk h (.code Cmp5.yN Cmp5.yB 7 (some .int))) (wks h (.initialized Cmp5.yN.cls :: Cmp5.site))
  have hc : CodL.tab.before a s = true := unparts (wk h (.code CodL.yN CodL.yB 2 (some .byte))) (wks h (.initialized CodL.yN.cls :: CodL.site))
  have q5 : ∀ w ∈ Cmp5.tab :: words, w.before a s = true := fun w hw => (List.mem_cons.mp hw).elim (fun e => e ▸ h5) (h w)
  have h3 : Cmp3.tab.before a s = true := unparts (wk q5 (.code Cmp3.yN Cmp3.yB 6 (some (.array .byte)))) (wks q5 (.initialized Cmp3.yN.cls :: Cmp3.site))
  have q3 : ∀ w ∈ Cmp3.tab :: CodL.tab :: words, w.before a s = true := fun w hw => (List.mem_cons.mp hw).elim (fun e => e ▸ h3) fun hw => (List.mem_cons.mp hw).elim (fun e => e ▸ hc) (h w)
  have h4 : New4.tab.before a s = true := unparts (wk q3 (.code New4.yN New4.yB 6 none)) (wks q3 (.initialized New4.yN.cls :: New4.site))
  have q4 : ∀ w ∈ New4.tab :: words, w.before a s = true := fun w hw => (List.mem_cons.mp hw).elim (fun e => e ▸ h4) (h w)
  exact unparts (wk q4 (.code New1.yN New1.yB 2 none)) (wks q4 (.initialized New1.yN.cls :: New1.site))
/-- the words ride from the start Z to the walk's own state -/
theorem moved {Z s : State} {a0 args : Array Value} (hZ : Z.Warmed39 s.vm) (hw : ∀ d ∈ words, d.before a0 Z = true) : ∀ d ∈ words, d.before args s = true := fun d hd => by
  have q := hw d hd
  have t : ∀ d ∈ words, d = .arrayClass .byte ∨ (d.onTables && d.keepsFace) = true := by decide +kernel
  rcases t d hd with rfl | t
  · exact RoadKit.mvA hZ q
  · exact RoadKit.mv hZ q t
/-- WHAT COMES BACK, over the tables of the start Z: h the heap at the call, h' behind it -/
def Q (Z : State) (x : Addr) (A : Cell) (h : Heap) (v : Option Value) (h' : Heap) (L : List Loc) : Prop := v = none ∧ (∀ y ∈ L, y.base = x) ∧ RoadKit.Keep h h' [x] ∧ h'.size = h.size + 1 ∧ RoadKit.Exa Z h' x ST ∧ RoadKit.Fld Z h' x ST "value" "[B" (.ref h.size) ∧ RoadKit.Fld Z h' x ST "coder" "B" (.int 0) ∧
  (∃ V : Cell, RoadKit.Arr Z h' h.size V .byte ∧ V.vm = .none ∧ Z.vm.findClass "[B" = some V.cls ∧ V.slots.size = A.slots.size ∧ ∀ j, j < A.slots.size → V.slots[j]? = some (.int (lo8 (cv A j)))) ∧
  ∀ (O n d : String) (w : Value), RoadKit.Fld Z h x O n d w → RoadKit.slotOf Z O n d ≠ RoadKit.slotOf Z ST "value" "[B" → RoadKit.slotOf Z O n d ≠ RoadKit.slotOf Z ST "coder" "B" → RoadKit.Fld Z h' x O n d w
/-- **new String(chars) AT A CALL, IN THE ROAD'S FORM**: for specialBack behind newO: x the fresh String, b the char[] with the cell A -/
theorem back {p : Program} {l : Launch} {e : Env} {R : Room} {s : State} {args : Array Value} {below : List Frame} {len W : Nat} {Z : State} {a0 : Array Value} {h : Heap} (hZ : Z.Warmed39 s.vm) (hw : ∀ d ∈ words, d.before a0 Z = true) {kI : Nat} (wi : (Jvm.Cond.instantiable ST kI).before a0 Z = true)
    {x b : Addr} {A : Cell} {z : Int32} {v0 c0 : Value} (E : RoadKit.Exa Z h x ST) (V : RoadKit.Fld Z h x ST "value" "[B" v0) (C : RoadKit.Fld Z h x ST "coder" "B" c0) (K : RoadKit.Arr Z h b A .char) (hty : Typed .char A) (S : RoadKit.Sta Z h ST "COMPACT_STRINGS" "Z" (.int z)) (hz : ¬ z = 0)
    (l0 : 0 < A.slots.size) (l2 : A.slots.size ≤ 536870912) (hp : ∀ i, i < A.slots.size → ¬ 255 < cv A i) (hfr : 4 ≤ R.frames) (hlo : W + 65 ≤ R.locals) :
    Back l R p e below s args New1.yN len W (fun P a => a = #[.ref x, .ref b] ∧ P.U.heap = h ∧ P.cells + 1 ≤ R.cells ∧ P.slots + A.slots.size ≤ R.slots)
      (fun P _ v B => ∃ L, Q Z x A h v B.U.heap L ∧ B.locs = P.locs ++ L ∧ B.cells = P.cells + 1 ∧ B.slots = P.slots + A.slots.size) := by
  intro m meth c P g ig mk a X hg hsize hdg hW hn hp'
  obtain ⟨rfl, rfl, r1, r2⟩ := hp'
  have al : Z.vm.Alike P.U.vm := hZ.alike.trans X.warmed.alike
  obtain ⟨D, cfV, kV, iV, fV, hD, gV, stV, knV, obV, asV, slV⟩ := id V
  obtain ⟨D', cfC, kC, iC, fC, hD', gC, stC, -, -, asC, slC⟩ := id C
  cases hD.symm.trans hD'
  obtain ⟨D2, kD, e1, e2, e3, e4, e5⟩ := id E
  cases hD.symm.trans e1
  obtain ⟨c2, k2, i1, i2, i3, -⟩ := Cond.instantiable_spec wi
  cases e2.symm.trans i1
  cases e3.symm.trans i2
  obtain ⟨kU, u1, u2⟩ := al.2.2 _ _ e3
  have hB : Blank ST x D P.U := ⟨hD, ⟨knV, fun q hq => by rw [hq] at obV; cases obV⟩, by rw [al.findClass]; exact e2, kU, u1, by rw [u2]; exact i3, by rw [u2]; exact e5 i3⟩
  have F1 : Found ST "value" "[B" fV P.U := ⟨SBG.found_only al ⟨cfV, kV, iV, gV⟩, stV⟩
  have F2 : Found ST "coder" "B" fC P.U := ⟨SBG.found_only al ⟨cfC, kC, iC, gC⟩, stC⟩
  have hA : Ch b A P.U := ⟨⟨K.1, State.isArrayOf_alike al K.2.1, K.2.2, by omega⟩, hty⟩
  have hS : StaticIs P.U ST "COMPACT_STRINGS" "Z" (.int z) := by
    obtain ⟨cfS, iS, kS, fS, st, cS, t1, t2, t3, t4, t5, t6, t7⟩ := S
    exact StaticIs.there (s := { Z with heap := P.U.heap }) ⟨cfS, iS, kS, fS, st, cS, t1, t2, t3, t4, t5, (fun q => by rw [q] at t6; cases t6), t7⟩ al rfl
  obtain ⟨v, B, X', ⟨⟨hv, E', V', q1, q2, q3, q4, q5, q6, q7, q8, q9, q10, q11⟩, hl, hc, hs⟩, st⟩ := New1.pays x D fV fC b A z (tab_of (moved hZ hw)) hfr hlo m meth c P g ig mk _ X hg hsize hdg hW hn ⟨r1, r2, rfl, hB, F1, F2, hA, hS, hz, l0, l2, hp⟩
  have al' : Z.vm.Alike B.U.vm := hZ.alike.trans X'.warmed.alike
  have hsz : E'.slots.size = D.slots.size := by
    obtain ⟨-, -, -, kB, w1, w2, w3⟩ := q1
    obtain ⟨kB', y1, y2⟩ := al'.2.2 _ _ e3
    rw [q2.2.1] at w1
    cases w1.symm.trans y1
    rw [w3, e5 i3, y2]
  refine ⟨v, B, X', ⟨_, ⟨hv, ?_, ⟨by omega, fun y cy hy hn' => q10 y cy (by simpa using hn') hy, fun y cy hy => ?_⟩, q11, ⟨E', _, q1.1, by rw [q2.2.1]; exact e2, by rw [q2.2.1]; exact e3, by rw [q2.1]; exact obV, fun _ => by rw [hsz]; exact e5 i3⟩,
    ⟨E', cfV, kV, iV, fV, q1.1, gV, stV, by rw [q2.1]; exact knV, by rw [q2.1]; exact obV, by rw [q2.2.1]; exact asV, q3⟩, ⟨E', cfC, kC, iC, fC, q1.1, gC, stC, by rw [q2.1]; exact knV, by rw [q2.1]; exact obV, by rw [q2.2.1]; exact asC, q4⟩,
    ⟨V', ⟨q5.1, State.isArrayOf_alike al'.symm q5.2.1, q5.2.2.1⟩, q6, by rw [← al'.findClass]; exact q7, q8, fun j hj => by have := q9 j hj; rwa [Nat.zero_add] at this⟩, fun O n d w F n1 n2 => ?_⟩, hl, hc, hs⟩, st⟩
  · intro y hy
    simp only [List.mem_cons, List.not_mem_nil, or_false] at hy
    rcases hy with rfl | rfl <;> rfl
  · by_cases q : y = x
    · subst q
      cases hD.symm.trans hy
      exact ⟨E', q1.1, q2.2.1, q2.1, hsz⟩
    · exact ⟨cy, q10 y cy q hy, rfl, rfl, rfl⟩
  · obtain ⟨D3, cf, k, i, f, g1, g2, g3, g4, g5, g6, g7⟩ := F
    cases hD.symm.trans g1
    simp only [RoadKit.slotOf, g2, gV, gC, Option.map_some, Option.getD_some] at n1 n2
    exact ⟨E', cf, k, i, f, q1.1, g2, g3, by rw [q2.1]; exact g4, by rw [q2.1]; exact g5, by rw [q2.2.1]; exact g6, by rw [q2.2.2 f.slot (by simp [n1, n2])]; exact g7⟩
end StrChars.Road
namespace StrChars.Road
open Jvm Sem ClassFile Op Lib Jvm.Stand Jvm.Free Jvm.Free.XT
/-- WHAT COMES BACK, the byte[] as a list of values -/
def QA (Z : State) (x : Addr) (zn : Int32) (cs : List Int32) (h : Heap) (v : Option Value) (h' : Heap) (L : List Loc) : Prop := v = none ∧ (∀ y ∈ L, y.base = x) ∧ RoadKit.Keep h h' [x] ∧ h'.size = h.size + 1 ∧ RoadKit.Exa Z h' x ST ∧ RoadKit.Fld Z h' x ST "value" "[B" (.ref h.size) ∧ RoadKit.Fld Z h' x ST "coder" "B" (.int 0) ∧
  (∃ kb, Z.vm.findClass "[B" = some kb ∧ RoadKit.Arv Z h' h.size kb .byte zn (cs.map fun c => .int (lo8 c)) (.int 0)) ∧
  ∀ (O n d : String) (w : Value), RoadKit.Fld Z h x O n d w → RoadKit.slotOf Z O n d ≠ RoadKit.slotOf Z ST "value" "[B" → RoadKit.slotOf Z O n d ≠ RoadKit.slotOf Z ST "coder" "B" → RoadKit.Fld Z h' x O n d w
/-- **new String(chars) AT A CALL, THE ARRAYS AS LISTS**: the char[] at b holds cs, not empty, no char above 255 -/
theorem backArv {p : Program} {l : Launch} {e : Env} {R : Room} {s : State} {args : Array Value} {below : List Frame} {len W : Nat} {Z : State} {a0 : Array Value} {h : Heap} (hZ : Z.Warmed39 s.vm) (hw : ∀ d ∈ words, d.before a0 Z = true) {kI : Nat} (wi : (Jvm.Cond.instantiable ST kI).before a0 Z = true)
    {x b : Addr} {k : ClassId} {zn z : Int32} {cs : List Int32} {dv v0 c0 : Value} (E : RoadKit.Exa Z h x ST) (V : RoadKit.Fld Z h x ST "value" "[B" v0) (C : RoadKit.Fld Z h x ST "coder" "B" c0) (K : RoadKit.Arv Z h b k .char zn (cs.map Value.int) dv) (S : RoadKit.Sta Z h ST "COMPACT_STRINGS" "Z" (.int z)) (hz : ¬ z = 0)
    (hlen : zn.toNatClampNeg = cs.length) (h0 : 0 < cs.length) (hbig : cs.length ≤ 536870912) (hall : ∀ c ∈ cs, ¬ 255 < c) (hfr : 4 ≤ R.frames) (hlo : W + 65 ≤ R.locals) :
    Back l R p e below s args New1.yN len W (fun P a => a = #[.ref x, .ref b] ∧ P.U.heap = h ∧ P.cells + 1 ≤ R.cells ∧ P.slots + cs.length ≤ R.slots)
      (fun P _ v B => ∃ L, QA Z x zn cs h v B.U.heap L ∧ B.locs = P.locs ++ L ∧ B.cells = P.cells + 1 ∧ B.slots = P.slots + cs.length) := by
  obtain ⟨A, K1, K2, K3, K4, K5, K6⟩ := K
  have e : A.slots.size = cs.length := K3.trans hlen
  have hat : ∀ (i : Nat) (hi : i < cs.length), A.slots[i]? = some (.int cs[i]) := fun i hi => by rw [K5 i (by omega)]; simp [List.getD_eq_getElem?_getD, hi]
  have hcv : ∀ (i : Nat) (hi : i < cs.length), cv A i = cs[i] := fun i hi => by unfold cv; rw [hat i hi]
  have hty : Typed .char A := fun i v hv => by
    have hi : i < A.slots.size := (Array.getElem?_eq_some_iff.mp hv).1
    have q := K5 i hi
    rw [hv] at q
    rw [Option.some.inj q]
    exact K6 i hi
  refine Back.mono (back hZ hw wi E V C K1 hty S hz (by omega) (by omega) (fun i hi => by rw [hcv i (by omega)]; exact hall _ (List.getElem_mem _)) hfr hlo) (fun P a hp => ⟨hp.1, hp.2.1, hp.2.2.1, by rw [e]; exact hp.2.2.2⟩) (fun P a v B hp hq => ?_)
  obtain ⟨L, ⟨q1, q2, q3, q4, q5, q6, q7, ⟨V', v1, v2, v3, v4, v5⟩, q9⟩, hl, hc, hs⟩ := hq
  refine ⟨L, ⟨q1, q2, q3, q4, q5, q6, q7, ⟨V'.cls, v3, V', v1, rfl, by rw [v4, e, hlen], K4, fun i hi => ?_, fun i hi => ?_⟩, q9⟩, hl, hc, by rw [hs, e]⟩
  · have hi' : i < cs.length := by omega
    rw [v5 i (by omega), hcv i hi']; simp [List.getD_eq_getElem?_getD, hi']
  · have hi' : i < cs.length := by omega
    simp only [List.getD_eq_getElem?_getD, List.getElem?_map, List.getElem?_eq_getElem hi', Option.map_some, Option.getD_some]
    exact fits_lo8 _
end StrChars.Road
namespace StrChars.Road
open Jvm Sem ClassFile Op Lib Jvm.Stand Jvm.Free Jvm.Free.XT
/-- WHAT COMES BACK, in the writer's own shape -/
def QV (Z : State) (x : Addr) (N : Int32) (bs : List Int32) (h : Heap) (n0 : Nat) (v : Option Value) (h' : Heap) (L : List Loc) : Prop := v = none ∧ RoadKit.Fr n0 L ∧ RoadKit.Keep h h' [x] ∧ RoadKit.Exa Z h' x ST ∧ RoadKit.Fld Z h' x ST "coder" "B" (.int 0) ∧
  ∃ (t : Addr) (kb : ClassId), n0 ≤ t ∧ h.size ≤ t ∧ ¬ t = x ∧ RoadKit.Fld Z h' x ST "value" "[B" (.ref t) ∧ RoadKit.Arv Z h' t kb .byte N (bs.map Value.int) (.int 0)
/-- **new String(chars) AT A CALL, FOR THE WRITER**: a char[] of n known ints, each 0 to 255 -/
theorem backV {p : Program} {l : Launch} {e : Env} {R : Room} {s : State} {args : Array Value} {below : List Frame} {len W : Nat} {Z : State} {a0 : Array Value} {h : Heap} (hZ : Z.Warmed39 s.vm) (hw : ∀ d ∈ words, d.before a0 Z = true) {kI : Nat} (wi : (Jvm.Cond.instantiable ST kI).before a0 Z = true)
    {x b : Addr} {kC : ClassId} {cs bs : List Int32} {d v0 c0 : Value} {z N : Int32} {n n0 : Nat} (hx0 : n0 ≤ x) (hh0 : n0 ≤ h.size) (E : RoadKit.Exa Z h x ST) (V : RoadKit.Fld Z h x ST "value" "[B" v0) (C : RoadKit.Fld Z h x ST "coder" "B" c0) (K : RoadKit.Arv Z h b kC .char N (cs.map Value.int) d) (S : RoadKit.Sta Z h ST "COMPACT_STRINGS" "Z" (.int z)) (hz : ¬ z = 0)
    (hn : cs.length = n) (hN : N = Int32.ofNat n) (l0 : 0 < n) (l2 : n ≤ 4000) (hp : ∀ c ∈ cs, ¬ c < 0 ∧ ¬ (255 : Int32) < c) (hb : bs = cs.map (fun c => c.toInt8.toInt32)) (hfr : 4 ≤ R.frames) (hlo : W + 65 ≤ R.locals) :
    Back l R p e below s args (⟨"java/lang/String", "<init>", "([C)V"⟩ : MethodName) len W (fun P a => a = #[.ref x, .ref b] ∧ P.U.heap = h ∧ P.cells + 1 ≤ R.cells ∧ P.slots + n ≤ R.slots)
      (fun P _ v B => ∃ L, QV Z x N bs h n0 v B.U.heap L ∧ B.locs = P.locs ++ L ∧ B.cells = P.cells + 1 ∧ B.slots = P.slots + n) := by
  subst hn hN hb
  refine Back.mono (backArv hZ hw wi E V C K S hz (n32 (by omega)) l0 (by omega) (fun c hc => (hp c hc).2) hfr hlo) (fun P a hp => hp) (fun P a v B hp hq => ?_)
  obtain ⟨L, ⟨q1, q2, q3, q4, q5, q6, q7, ⟨kb, v1, v2⟩, q9⟩, hl, hc, hs⟩ := hq
  exact ⟨L, ⟨q1, fun y hy => by rw [q2 y hy]; exact hx0, q3, q5, q7, h.size, kb, hh0, Nat.le_refl _, Nat.ne_of_gt E.lt, q6, by rw [List.map_map]; exact v2⟩, hl, hc, hs⟩
end StrChars.Road
namespace StrChars
open Jvm Sem ClassFile Op Lib Jvm.Stand Jvm.Free.XT Jvm.Free.ALB Jvm.Free.JM Jvm.Free
open Jvm.Lib.Cold (StaticIs)
def hi8 (x : Int32) : Int32 := lo8 (x >>> ((8 : Int32) &&& 31))
/-- what StringUTF16.getChar makes of two bytes -/
def pairCh (u v : Int32) : Int32 := (((u &&& 255) <<< ((0 : Int32) &&& 31)) ||| ((v &&& 255) <<< ((8 : Int32) &&& 31))).toUInt32.toUInt16.toUInt32.toInt32
theorem shr0 (c : Int32) : c >>> ((0 : Int32) &&& 31) = c := by
  have e : ((0 : Int32) &&& 31) = 0 := by decide
  rw [e]
  apply Int32.toBitVec_inj.mp
  rw [Int32.toBitVec_shiftRight]
  have e1 : ((0 : Int32).toBitVec.smod 32) = 0#32 := by decide
  rw [e1, BitVec.sshiftRight_eq']
  exact BitVec.sshiftRight_zero
theorem lo8_and (x : Int32) : (lo8 x &&& 255).toBitVec.toNat = x.toBitVec.toNat % 256 := by
  have h : (lo8 x).toBitVec = (x.toBitVec.signExtend 8).signExtend 32 := by rw [lo8, Int8.toBitVec_toInt32, Int32.toBitVec_toInt8]
  rw [Int32.toBitVec_and, BitVec.toNat_and, h]
  have e : ((x.toBitVec.signExtend 8).signExtend 32).toNat % 256 = x.toBitVec.toNat % 256 := by
    rw [BitVec.toNat_signExtend]
    have hlt := x.toBitVec.isLt
    simp only [BitVec.toNat_setWidth, BitVec.toNat_signExtend]
    split <;> split <;> omega
  rw [← e]
  exact Nat.and_two_pow_sub_one_eq_mod _ 8
theorem pair_says {c : Int32} (h0 : ¬ c < 0) (h1 : ¬ 65535 < c) : pairCh (lo8 c) (hi8 c) = c := by
  rw [Int32.lt_iff_toInt_lt] at h0 h1
  have e0 : (0 : Int32).toInt = 0 := rfl
  have e1 : (65535 : Int32).toInt = 65535 := rfl
  have hc : c.toInt = c.toBitVec.toNat := by
    have := c.toBitVec.isLt
    have e : c.toInt = c.toBitVec.toInt := rfl
    rw [e] at h0 h1
    rw [e]
    rw [BitVec.toInt_eq_toNat_cond] at h0 h1 ⊢
    split at h0 <;> split <;> omega
  have hn : c.toBitVec.toNat < 65536 := by omega
  have a1 := lo8_and c
  have a2 : (hi8 c &&& 255).toBitVec.toNat = c.toBitVec.toNat / 256 := by
    rw [hi8, lo8_and]
    have e : ((8 : Int32) &&& 31) = 8 := by decide
    rw [e, Int32.toBitVec_shiftRight]
    have e2 : ((8 : Int32).toBitVec.smod 32) = 8#32 := by decide
    rw [e2, BitVec.sshiftRight_eq', BitVec.toNat_sshiftRight_of_msb_false (by rw [BitVec.msb_eq_false_iff_two_mul_lt]; omega)]
    show c.toBitVec.toNat >>> 8 % 256 = _
    rw [Nat.shiftRight_eq_div_pow]
    omega
  unfold pairCh
  apply Int32.toBitVec_inj.mp
  apply BitVec.eq_of_toNat_eq
  have f0 : ((0 : Int32) &&& 31) = 0 := by decide
  have f8 : ((8 : Int32) &&& 31) = 8 := by decide
  rw [f0, f8]
  have g : (((lo8 c &&& 255) <<< (0 : Int32)) ||| ((hi8 c &&& 255) <<< (8 : Int32))).toBitVec.toNat = c.toBitVec.toNat := by
    rw [Int32.toBitVec_or, Int32.toBitVec_shiftLeft, Int32.toBitVec_shiftLeft]
    have s0 : ((0 : Int32).toBitVec.smod 32) = 0#32 := by decide
    have s8 : ((8 : Int32).toBitVec.smod 32) = 8#32 := by decide
    rw [s0, s8, BitVec.toNat_or]
    simp only [BitVec.shiftLeft_eq', BitVec.toNat_shiftLeft, a1, a2]
    show (c.toBitVec.toNat % 256) <<< 0 % 2 ^ 32 ||| (c.toBitVec.toNat / 256) <<< 8 % 2 ^ 32 = _
    rw [Nat.shiftLeft_zero, Nat.mod_eq_of_lt (show c.toBitVec.toNat % 256 < 2 ^ 32 by omega), Nat.mod_eq_of_lt (show (c.toBitVec.toNat / 256) <<< 8 < 2 ^ 32 by rw [Nat.shiftLeft_eq]; omega), Nat.or_comm, ← Nat.shiftLeft_add_eq_or_of_lt (by omega), Nat.shiftLeft_eq]
    omega
  show BitVec.toNat (((((lo8 c &&& 255) <<< (0 : Int32)) ||| ((hi8 c &&& 255) <<< (8 : Int32))).toBitVec.setWidth 16).setWidth 32) = _
  rw [BitVec.toNat_setWidth, BitVec.toNat_setWidth, g]
  omega
end StrChars
namespace StrChars
open Jvm Sem ClassFile Op Lib Jvm.Stand Jvm.Free.XT Jvm.Free.ALB Jvm.Free.JM Jvm.Free
open Jvm.Lib.Cold (StaticIs)
theorem shr1 {n : Nat} (h : 2 * n < 2 ^ 31) : Int32.ofNat (2 * n) >>> ((1 : Int32) &&& 31) = Int32.ofNat n := by
  have e : ((1 : Int32) &&& 31) = 1 := by decide
  rw [e]
  apply Int32.toBitVec_inj.mp
  rw [Int32.toBitVec_shiftRight]
  have e1 : ((1 : Int32).toBitVec.smod 32) = 1#32 := by decide
  have hm : (BitVec.ofNat 32 (2 * n)).toNat = 2 * n := by rw [BitVec.toNat_ofNat, Nat.mod_eq_of_lt (by omega)]
  rw [e1, BitVec.sshiftRight_eq']
  apply BitVec.eq_of_toNat_eq
  show ((BitVec.ofNat 32 (2 * n)).sshiftRight 1).toNat = (BitVec.ofNat 32 n).toNat
  rw [BitVec.toNat_sshiftRight_of_msb_false (by rw [BitVec.msb_eq_false_iff_two_mul_lt, hm]; omega), hm, BitVec.toNat_ofNat, Nat.shiftRight_eq_div_pow]
  omega
/-- charAt's cast of a byte read back -/
def chr8 (u : Int32) : Int32 := (u &&& 255).toUInt32.toUInt16.toUInt32.toInt32
theorem chr8_lo8 {c : Int32} (h0 : ¬ c < 0) (h1 : ¬ 255 < c) : chr8 (lo8 c) = c := by
  have t : ∀ k : Fin 256, (Int32.ofNat k.val).toUInt32.toUInt16.toUInt32.toInt32 = Int32.ofNat k.val := by decide +kernel
  unfold chr8
  rw [lo8_mask h0 h1]
  rw [Int32.lt_iff_toInt_lt] at h0 h1
  have e0 : (0 : Int32).toInt = 0 := rfl
  have e1 : (255 : Int32).toInt = 255 := rfl
  obtain ⟨k, hk⟩ : ∃ k : Nat, c.toInt = k := ⟨c.toInt.toNat, by omega⟩
  have hx : c = Int32.ofNat k := Int32.toInt_inj.mp (by rw [hk, Int32.toInt_ofNat_small (by omega)])
  rw [hx]
  exact t ⟨k, by omega⟩
theorem narrow_ch {c : Int32} (h0 : ¬ c < 0) (h1 : ¬ 65535 < c) : narrow .char (.int c) = .int c := by
  have q : narrow .char (.int (pairCh (lo8 c) (hi8 c))) = .int (pairCh (lo8 c) (hi8 c)) := narrow_c _
  rwa [pair_says h0 h1] at q
end StrChars
namespace StrChars.Road
open Jvm Sem ClassFile Op Lib Jvm.Stand Jvm.Free Jvm.Free.XT
open Jvm.Lib.Cold (StaticIs)
/-- the bytes of the chars cs, low before high -/
def wideBytes : List Int32 → List Value
  | [] => []
  | c :: cs => .int (lo8 c) :: .int (hi8 c) :: wideBytes cs
theorem wide_lo (d : Value) : ∀ (cs : List Int32) (j : Nat), j < cs.length → (wideBytes cs).getD (2 * j) d = .int (lo8 (cs.getD j 0))
  | [], j, h => absurd h (Nat.not_lt_zero j)
  | c :: cs, 0, _ => rfl
  | c :: cs, j + 1, h => by
    have q := wide_lo d cs j (by simpa using h)
    rw [show 2 * (j + 1) = 2 * j + 1 + 1 from by omega]
    simpa [wideBytes] using q
theorem wide_hi (d : Value) : ∀ (cs : List Int32) (j : Nat), j < cs.length → (wideBytes cs).getD (2 * j + 1) d = .int (hi8 (cs.getD j 0))
  | [], j, h => absurd h (Nat.not_lt_zero j)
  | c :: cs, 0, _ => rfl
  | c :: cs, j + 1, h => by
    have q := wide_hi d cs j (by simpa using h)
    rw [show 2 * (j + 1) + 1 = 2 * j + 1 + 1 + 1 from by omega]
    simpa [wideBytes] using q
theorem low_at (d : Value) (cs : List Int32) (j : Nat) (h : j < cs.length) : (cs.map fun c => Value.int (lo8 c)).getD j d = .int (lo8 (cs.getD j 0)) := by
  simp [List.getD_eq_getElem?_getD, h]
/-- an array of N2 bytes vs codes the chars cs by the coder cd -/
def CodA (cs : List Int32) (cd N2 : Int32) (vs : List Value) : Prop := (cd = 0 ∧ N2 = Int32.ofNat cs.length ∧ vs = (cs.map fun c => Value.int (lo8 c)) ∧ ∀ c ∈ cs, ¬ 255 < c) ∨ (cd = 1 ∧ N2 = Int32.ofNat (2 * cs.length) ∧ vs = wideBytes cs ∧ ∃ c ∈ cs, 255 < c)
end StrChars.Road
namespace StrChars.Road
open Jvm Sem ClassFile Op Lib Jvm.Stand Jvm.Free Jvm.Free.XT
open Jvm.Lib.Cold (StaticIs)
/-- what backV says of its String, as the contracts of this text ask it: cs's low bytes, coder 0 -/
theorem codOf {cs : List Int32} {n : Nat} (hn : cs.length = n) (hb : ∀ c ∈ cs, ¬ 255 < c) : CodA cs 0 (Int32.ofNat n) ((cs.map lo8).map Value.int) := Or.inl ⟨rfl, by rw [hn], by simp [List.map_map, Function.comp_def], hb⟩
end StrChars.Road
end Jvm.Pilot.@@N@@
namespace Jvm.Pilot.@@N@@
open Jvm Jvm.ClassFile Sem Op Lib Jvm.Free Jvm.Stand Jvm.LawKit Jvm.RoadKit Bundle Jvm.Pilot.@@N@@.Jvm.D
section OwnKit
variable {p : Program} {l : Launch} {e : Env} {R : Room} {s : State} {m : MethodId} {args : Array Value} {below : List Frame} {meth : Method} {c : Code} {T T' : State} {locs : List Loc} {cells slots : Nat} {g g' : JFrame} {G : State → Outcome → Prop} {Z : State} {a0 : Array Value} {h : Heap} {y : MethodName} {own : String} {index : Nat} {bytes : ByteArray} {maxL : Nat} {ret : Option FieldType} {W : Nat} {as' : Array Value} {rc rs : Nat} {Q : Option Value → Heap → List Loc → Prop} {argsL rest : List Value} {a b : Addr} {k : ClassId} {ty : FieldType} {n j : Int32} {vs : List Value} {d v : Value}
/-- the run from this frame comes to the end that the body owes -/
def own_Fin (p : Program) (e : Env) (below : List Frame) (G : State → Outcome → Prop) (T : State) (g : JFrame) : Prop := ∃ s₂ o, Steps p.tables e below (T.setTop g) s₂ ∧ s₂.status = .running ∧ Ended s₂ below o ∧ G s₂ o
theorem own_step (h1 : ∀ t, Steps p.tables e below (T'.setTop g') t → Steps p.tables e below (T.setTop g) t) (k1 : own_Fin p e below G T' g') : own_Fin p e below G T g := by
  obtain ⟨s2, o, q, r⟩ := k1; exact ⟨s2, o, h1 _ q, r⟩
theorem own_cast (q : g = g') (k1 : own_Fin p e below G T g') : own_Fin p e below G T g := q ▸ k1
/-- what a body owes at its end -/
abbrev own_G (s : State) (Q : Option Value → Heap → List Loc → Prop) (rc rs : Nat) : State → Outcome → Prop := fun s₂ o => ∃ v L, o = .returned v ∧ Q v s₂.heap L ∧ FrameEnd s o s₂ L rc rs
theorem own_end (X : Stand p l e R s m args below meth c T locs cells slots) {v : Option Value} (hv : meth.sig.returnType = none → v = none) (hlk : meth.locks = false)
    (st : ∀ fs, (∀ (f : JFrame) (acts : List Action), f.method = m → f.locked = none → f.entered = [] → (doReturn e (T.setTop f) acts v).1 = T.setFrames fs) → Steps p.tables e below (T.setTop g) (T.setFrames fs))
    (hQ : Q v T.heap locs) (hc : cells ≤ rc) (hs : slots ≤ rs) : own_Fin p e below (own_G s Q rc rs) T g := by
  obtain ⟨fs, hr, hrun, hended, hW, hsame⟩ := X.leave hv hlk
  exact ⟨_, _, st fs hr, hrun, hended, v, locs, rfl, hQ, ⟨_, rfl⟩, hW, hsame.mono hc hs⟩
theorem own_cat_int (z : Int32) : (Value.int z).category = 1 := rfl
theorem own_cat_long (z : Int64) : (Value.long z).category = 2 := rfl
theorem own_cat_ref (z : Addr) : (Value.ref z).category = 1 := rfl
theorem own_cat_null : Value.null.category = 1 := rfl
theorem own_fixv {ws : List Value} (q : vs = ws) (A : Arv Z h a k ty n vs d) : Arv Z h a k ty n ws d := by subst q; exact A
theorem own_fixn {n' : Int32} (q : n = n') (A : Arv Z h a k ty n vs d) : Arv Z h a k ty n' vs d := by subst q; exact A
theorem own_narR {w : Value} (h1 : w.isRef = true) {t : FieldType} (ht : t.isReference = true) : narrow t w = w := by cases w <;> cases t <;> first | rfl | (exact absurd h1 (by decide)) | (exact absurd ht (by decide)) | simp_all [Value.isRef, FieldType.isReference]
theorem own_fitR {w : Value} (h1 : w.isRef = true) {t : FieldType} (ht : t.isReference = true) : fits t w = true := by cases w <;> cases t <;> first | rfl | (exact absurd h1 (by decide)) | (exact absurd ht (by decide)) | simp_all [Value.isRef, FieldType.isReference]
theorem own_retI (X : Stand p l e R s m args below meth c T locs cells slots) (hx : p.tables.exec = Jvm.exec) {pc : Nat} {Ls : Array Slot} {z : Int32} (hret : meth.sig.returnType = some .int) (hd : decode c.code pc = .ok (.ireturn, 1)) (hlk : meth.locks = false)
    (hQ : Q (some (.int z)) T.heap locs) (hc : cells ≤ rc) (hs : slots ≤ rs) : own_Fin p e below (own_G s Q rc rs) T (mkF m pc Ls (.int z :: rest)) :=
  own_end X (fun q => by rw [hret] at q; cases q) hlk (fun fs hr => retOut X hx hret rfl (Or.inl ⟨rfl, Or.inl rfl, z, rfl⟩) hd hr) hQ hc hs
theorem own_retN (X : Stand p l e R s m args below meth c T locs cells slots) (hx : p.tables.exec = Jvm.exec) {pc : Nat} {Ls : Array Slot} {z : Int32} {t : FieldType} (hret : meth.sig.returnType = some t) (ht : t = .boolean ∨ t = .byte ∨ t = .char ∨ t = .short) (hd : decode c.code pc = .ok (.ireturn, 1)) (hlk : meth.locks = false)
    (hQ : Q (some (.int (nar t z))) T.heap locs) (hc : cells ≤ rc) (hs : slots ≤ rs) : own_Fin p e below (own_G s Q rc rs) T (mkF m pc Ls (.int z :: rest)) :=
  own_end X (fun q => by rw [hret] at q; cases q) hlk (fun fs hr => retN X hx hret ht hd hr) hQ hc hs
theorem own_retL (X : Stand p l e R s m args below meth c T locs cells slots) (hx : p.tables.exec = Jvm.exec) {pc : Nat} {Ls : Array Slot} {z : Int64} (hret : meth.sig.returnType = some .long) (hd : decode c.code pc = .ok (.lreturn, 1)) (hlk : meth.locks = false)
    (hQ : Q (some (.long z)) T.heap locs) (hc : cells ≤ rc) (hs : slots ≤ rs) : own_Fin p e below (own_G s Q rc rs) T (mkF m pc Ls (.long z :: rest)) :=
  own_end X (fun q => by rw [hret] at q; cases q) hlk (fun fs hr => retOut X hx hret rfl (Or.inr (Or.inl ⟨rfl, rfl, z, rfl⟩)) hd hr) hQ hc hs
theorem own_retA (X : Stand p l e R s m args below meth c T locs cells slots) (hx : p.tables.exec = Jvm.exec) {pc : Nat} {Ls : Array Slot} {w : Value} {t : FieldType} (hret : meth.sig.returnType = some t) (ht : t.isReference = true) (hw : w.isRef = true) (hd : decode c.code pc = .ok (.areturn, 1)) (hlk : meth.locks = false)
    (hQ : Q (some w) T.heap locs) (hc : cells ≤ rc) (hs : slots ≤ rs) : own_Fin p e below (own_G s Q rc rs) T (mkF m pc Ls (w :: rest)) :=
  own_end X (fun q => by rw [hret] at q; cases q) hlk (fun fs hr => retOut X hx hret (own_narR hw ht) (Or.inr (Or.inr (Or.inr (Or.inr ⟨rfl, ht, hw⟩)))) hd hr) hQ hc hs
theorem own_retV (X : Stand p l e R s m args below meth c T locs cells slots) (hx : p.tables.exec = Jvm.exec) {pc : Nat} {Ls : Array Slot} (hret : meth.sig.returnType = none) (hd : decode c.code pc = .ok (.return_, 1)) (hlk : meth.locks = false)
    (hQ : Q none T.heap locs) (hc : cells ≤ rc) (hs : slots ≤ rs) : own_Fin p e below (own_G s Q rc rs) T (mkF m pc Ls []) :=
  own_end X (fun _ => rfl) hlk (fun fs hr => X.returnOut hx hret hd hr) hQ hc hs
/-- the entry -/
theorem own_body {ws : List Jvm.Cond} {rm : Room} {h0 : Heap} (hy : plainFor y = true)
    (body : ∀ p e s m below meth c s₁, BodyLoose p l y (head1 (Jvm.Cond.code y bytes maxL ret :: ws) rm) bytes maxL ret e s m as' below meth c s₁ → c.maxLocals = maxL → Z.Warmed39 s.vm → s₁.heap = h0 → own_Fin p e below (own_G s Q rm.cells rm.slots) s₁ (entryFrame m as' maxL)) :
    MetFree l y (head1 (Jvm.Cond.code y bytes maxL ret :: ws) rm) (fun a U => a = as' ∧ Z.Warmed39 U.vm ∧ U.heap = h0) (fun _ _ _ _ _ => True) (fun _ U o U' => ∃ v L, o = .returned v ∧ Q v U'.heap L ∧ FrameEnd U o U' L rm.cells rm.slots) := by
  refine MetFree.of_bodySF hy hisR ?_
  intro p e s m args below meth c s₁ Bd hml0 hP hK
  obtain ⟨rfl, hZ, hh⟩ := hP
  exact body p e s m below meth c s₁ Bd hml0 hZ (by rw [← hh, Bd.state]; rfl)
/-! calls, each by what pays it -/
theorem own_callS (X : Stand p l e R s m args below meth c T locs cells slots) (hx : p.tables.exec = Jvm.exec) (hZ : Z.Warmed39 s.vm) (hown : s.vm.findClass own = some m.cls) (w1 : (Jvm.Cond.methodLink own index y).before a0 Z = true) (w2 : (Jvm.Cond.static y).before a0 Z = true) (w3 : (Jvm.Cond.initialized y.cls).before a0 Z = true) (w4 : (Jvm.Cond.code y bytes maxL ret).before a0 Z = true)
    (hy : y.cls ≠ "java/lang/invoke/MethodHandle" ∧ y.cls ≠ "java/lang/invoke/VarHandle")
    (hK : Back l R p e below s args y 3 W (fun A a => a = as' ∧ A.U.heap = h ∧ A.cells + rc ≤ R.cells ∧ A.slots + rs ≤ R.slots) (fun A _ v B => ∃ L, Q v B.U.heap L ∧ B.locs = A.locs ++ L ∧ B.cells = A.cells + rc ∧ B.slots = A.slots + rs))
    (eT : T.heap = h) (hc : cells + rc ≤ R.cells) (hs : slots + rs ≤ R.slots) (hg : g.method = m) (hsize : g.locals.size = c.maxLocals) (hlen : ∀ sig, parseMethodDescriptor y.desc = some sig → argsL.length = sig.parameters.length) (hstack : g.stack = argsL.reverse ++ rest) (has : argsL.toArray = as') (hW : 2 * g.monitorRoom + (rest.map fun v => v.category).sum ≤ W) (hd : decode c.code g.pc = .ok (.invokestatic index, 3))
    (k1 : ∀ (v : Option Value) (T' : State) (L : List Loc), Stand p l e R s m args below meth c T' (locs ++ L) (cells + rc) (slots + rs) → Q v T'.heap L → own_Fin p e below G T' { g with pc := g.pc + 3, stack := v.toList ++ rest }) : own_Fin p e below G T g := by
  obtain ⟨v, _, ⟨T2, L2, k2, n2⟩, -, X2, ⟨L, hQ, e1, e2, e3⟩, st⟩ := Jvm.LawKit.callS X hx hown (mvT hZ w1) (mvT hZ w2) (mvT hZ w3) (mvT hZ w4) hy hK hg hsize hlen hstack hW hd (fun _ _ => ⟨has, eT, hc, hs⟩)
  try dsimp only at X2 e1 e2 e3 st hQ
  subst e1 e2 e3
  exact own_step st (k1 v T2 L X2 hQ)
theorem own_callC (X : Stand p l e R s m args below meth c T locs cells slots) (hx : p.tables.exec = Jvm.exec) (hZ : Z.Warmed39 s.vm) (hown : s.vm.findClass own = some m.cls) (hy1 : y.name = "<init>") (w1 : (Jvm.Cond.methodLink own index y).before a0 Z = true) (w2 : (Jvm.Cond.instanceMethod y).before a0 Z = true) (w4 : (Jvm.Cond.code y bytes maxL none).before a0 Z = true)
    (hy : y.cls ≠ "java/lang/invoke/MethodHandle" ∧ y.cls ≠ "java/lang/invoke/VarHandle")
    (hK : Back l R p e below s args y 3 W (fun A a => a = as' ∧ A.U.heap = h ∧ A.cells + rc ≤ R.cells ∧ A.slots + rs ≤ R.slots) (fun A _ v B => ∃ L, Q v B.U.heap L ∧ B.locs = A.locs ++ L ∧ B.cells = A.cells + rc ∧ B.slots = A.slots + rs))
    (eT : T.heap = h) (hc : cells + rc ≤ R.cells) (hs : slots + rs ≤ R.slots) (hg : g.method = m) (hsize : g.locals.size = c.maxLocals) (hlen : ∀ sig, parseMethodDescriptor y.desc = some sig → argsL.length = sig.parameters.length) (hstack : g.stack = argsL.reverse ++ .ref a :: rest) (has : (.ref a :: argsL).toArray = as') (hW : 2 * g.monitorRoom + (rest.map fun v => v.category).sum ≤ W) (hd : decode c.code g.pc = .ok (.invokespecial index, 3))
    (k1 : ∀ (v : Option Value) (T' : State) (L : List Loc), Stand p l e R s m args below meth c T' (locs ++ L) (cells + rc) (slots + rs) → Q v T'.heap L → own_Fin p e below G T' { g with pc := g.pc + 3, stack := v.toList ++ rest }) : own_Fin p e below G T g := by
  obtain ⟨v, _, ⟨T2, L2, k2, n2⟩, -, X2, ⟨L, hQ, e1, e2, e3⟩, st⟩ := X.specialBack hx hy1 hown (mvT hZ w1) (mvT hZ w2) (mvT hZ w4) hy hK hg hsize (Steps.refl _) hlen hstack hW hd (fun _ _ => ⟨has, eT, hc, hs⟩)
  try dsimp only at X2 e1 e2 e3 st hQ
  subst e1 e2 e3
  exact own_step (fun _ q => st.trans q) (k1 v T2 L X2 hQ)
theorem own_callCN {host : String} (X : Stand p l e R s m args below meth c T locs cells slots) (hx : p.tables.exec = Jvm.exec) (hZ : Z.Warmed39 s.vm) (hown : s.vm.findClass own = some m.cls) (hy1 : y.name = "<init>") (w1 : (Jvm.Cond.methodLinkNest own index y host).before a0 Z = true) (w2 : (Jvm.Cond.instanceMethod y).before a0 Z = true) (w4 : (Jvm.Cond.code y bytes maxL none).before a0 Z = true)
    (hy : y.cls ≠ "java/lang/invoke/MethodHandle" ∧ y.cls ≠ "java/lang/invoke/VarHandle")
    (hK : Back l R p e below s args y 3 W (fun A a => a = as' ∧ A.U.heap = h ∧ A.cells + rc ≤ R.cells ∧ A.slots + rs ≤ R.slots) (fun A _ v B => ∃ L, Q v B.U.heap L ∧ B.locs = A.locs ++ L ∧ B.cells = A.cells + rc ∧ B.slots = A.slots + rs))
    (eT : T.heap = h) (hc : cells + rc ≤ R.cells) (hs : slots + rs ≤ R.slots) (hg : g.method = m) (hsize : g.locals.size = c.maxLocals) (hlen : ∀ sig, parseMethodDescriptor y.desc = some sig → argsL.length = sig.parameters.length) (hstack : g.stack = argsL.reverse ++ .ref a :: rest) (has : (.ref a :: argsL).toArray = as') (hW : 2 * g.monitorRoom + (rest.map fun v => v.category).sum ≤ W) (hd : decode c.code g.pc = .ok (.invokespecial index, 3))
    (k1 : ∀ (v : Option Value) (T' : State) (L : List Loc), Stand p l e R s m args below meth c T' (locs ++ L) (cells + rc) (slots + rs) → Q v T'.heap L → own_Fin p e below G T' { g with pc := g.pc + 3, stack := v.toList ++ rest }) : own_Fin p e below G T g := by
  obtain ⟨v, _, ⟨T2, L2, k2, n2⟩, -, X2, ⟨L, hQ, e1, e2, e3⟩, st⟩ := X.specialBackNest hx hy1 hown (Cond.methodLinkNest_wide hZ w1 :) (mvT hZ w2) (mvT hZ w4) hy hK hg hsize (Steps.refl _) hlen hstack hW hd (fun _ _ => ⟨has, eT, hc, hs⟩)
  try dsimp only at X2 e1 e2 e3 st hQ
  subst e1 e2 e3
  exact own_step (fun _ q => st.trans q) (k1 v T2 L X2 hQ)
theorem own_callV {z : MethodName} {C : String} (X : Stand p l e R s m args below meth c T locs cells slots) (hx : p.tables.exec = Jvm.exec) (hZ : Z.Warmed39 s.vm) (hown : s.vm.findClass own = some m.cls) (w1 : (Jvm.Cond.methodLink own index y).before a0 Z = true) (w2 : (Jvm.Cond.declares y).before a0 Z = true) (hnf : NotFace s y) (w3 : (Jvm.Cond.selects C y z).before a0 Z = true) (w4 : (Jvm.Cond.instanceMethod z).before a0 Z = true)
    (hy : y.cls ≠ "java/lang/invoke/MethodHandle" ∧ y.cls ≠ "java/lang/invoke/VarHandle")
    (hK : Back l R p e below s args z 3 W (fun A a => a = as' ∧ A.U.heap = h ∧ A.cells + rc ≤ R.cells ∧ A.slots + rs ≤ R.slots) (fun A _ v B => ∃ L, Q v B.U.heap L ∧ B.locs = A.locs ++ L ∧ B.cells = A.cells + rc ∧ B.slots = A.slots + rs))
    (eT : T.heap = h) (E : Exa Z h a C) (hc : cells + rc ≤ R.cells) (hs : slots + rs ≤ R.slots) (hg : g.method = m) (hsize : g.locals.size = c.maxLocals) (hlen : ∀ sig, parseMethodDescriptor y.desc = some sig → argsL.length = sig.parameters.length) (hstack : g.stack = argsL.reverse ++ .ref a :: rest) (has : (.ref a :: argsL).toArray = as') (hW : 2 * g.monitorRoom + (rest.map fun v => v.category).sum ≤ W) (hd : decode c.code g.pc = .ok (.invokevirtual index, 3))
    (k1 : ∀ (v : Option Value) (T' : State) (L : List Loc), Stand p l e R s m args below meth c T' (locs ++ L) (cells + rc) (slots + rs) → Q v T'.heap L → own_Fin p e below G T' { g with pc := g.pc + 3, stack := v.toList ++ rest }) : own_Fin p e below G T g := by
  obtain ⟨cq, kq, qa, qb, qc⟩ := isOf hZ eT E
  obtain ⟨v, _, ⟨T2, L2, k2, n2⟩, -, X2, ⟨L, hQ, e1, e2, e3⟩, st⟩ := X.virtualBack hx hown (mvT hZ w1) (mvT hZ w2) hnf (mvT hZ w3) (mvT hZ w4) hy hK qa qc hg hsize (Steps.refl _) hlen hstack hW hd (fun _ _ => ⟨has, eT, hc, hs⟩)
  try dsimp only at X2 e1 e2 e3 st hQ
  subst e1 e2 e3
  exact own_step (fun _ q => st.trans q) (k1 v T2 L X2 hQ)
theorem own_callVU {z : MethodName} {C owner : String} (X : Stand p l e R s m args below meth c T locs cells slots) (hx : p.tables.exec = Jvm.exec) (hZ : Z.Warmed39 s.vm) (hown : s.vm.findClass own = some m.cls) (w1 : (Jvm.Cond.methodLink own index y).before a0 Z = true) (w2 : (Jvm.Cond.sameMethod y.cls owner y.name y.desc).before a0 Z = true) (w5 : (Jvm.Cond.declares ⟨owner, y.name, y.desc⟩).before a0 Z = true) (w3 : (Jvm.Cond.selects C y z).before a0 Z = true) (w4 : (Jvm.Cond.instanceMethod z).before a0 Z = true)
    (hy : owner ≠ "java/lang/invoke/MethodHandle" ∧ owner ≠ "java/lang/invoke/VarHandle")
    (hK : Back l R p e below s args z 3 W (fun A a => a = as' ∧ A.U.heap = h ∧ A.cells + rc ≤ R.cells ∧ A.slots + rs ≤ R.slots) (fun A _ v B => ∃ L, Q v B.U.heap L ∧ B.locs = A.locs ++ L ∧ B.cells = A.cells + rc ∧ B.slots = A.slots + rs))
    (eT : T.heap = h) (E : Exa Z h a C) (hc : cells + rc ≤ R.cells) (hs : slots + rs ≤ R.slots) (hg : g.method = m) (hsize : g.locals.size = c.maxLocals) (hlen : ∀ sig, parseMethodDescriptor y.desc = some sig → argsL.length = sig.parameters.length) (hstack : g.stack = argsL.reverse ++ .ref a :: rest) (has : (.ref a :: argsL).toArray = as') (hW : 2 * g.monitorRoom + (rest.map fun v => v.category).sum ≤ W) (hd : decode c.code g.pc = .ok (.invokevirtual index, 3))
    (k1 : ∀ (v : Option Value) (T' : State) (L : List Loc), Stand p l e R s m args below meth c T' (locs ++ L) (cells + rc) (slots + rs) → Q v T'.heap L → own_Fin p e below G T' { g with pc := g.pc + 3, stack := v.toList ++ rest }) : own_Fin p e below G T g := by
  obtain ⟨cq, kq, qa, qb, qc⟩ := isOf hZ eT E
  obtain ⟨v, _, ⟨T2, L2, k2, n2⟩, -, X2, ⟨L, hQ, e1, e2, e3⟩, st⟩ := X.virtualBackUp hx hown (mvT hZ w1) (mvT hZ w2) (mvT hZ w5) hy (mvT hZ w3) (mvT hZ w4) hK qa qc hg hsize (Steps.refl _) hlen hstack hW hd (fun _ _ => ⟨has, eT, hc, hs⟩)
  try dsimp only at X2 e1 e2 e3 st hQ
  subst e1 e2 e3
  exact own_step (fun _ q => st.trans q) (k1 v T2 L X2 hQ)
theorem own_callI {z : MethodName} {C : String} {count : Nat} (X : Stand p l e R s m args below meth c T locs cells slots) (hx : p.tables.exec = Jvm.exec) (hZ : Z.Warmed39 s.vm) (hown : s.vm.findClass own = some m.cls) (w1 : (Jvm.Cond.methodLink own index y).before a0 Z = true) (w2 : (Jvm.Cond.declares y).before a0 Z = true) (w3 : (Jvm.Cond.interfaceMethod y.cls y.cls y.name y.desc).before a0 Z = true) (w4 : (Jvm.Cond.selects C y z).before a0 Z = true) (w5 : (Jvm.Cond.instanceMethod z).before a0 Z = true) (w6 : (Jvm.Cond.publicMethod z).before a0 Z = true) (w7 : (Jvm.Cond.unhidden C y.name y.desc).before a0 Z = true) (w8 : (Jvm.Cond.castable C y.cls).before a0 Z = true) (hd3 : ((Jvm.Cond.interfaceMethod y.cls y.cls y.name y.desc).onTables && (Jvm.Cond.interfaceMethod y.cls y.cls y.name y.desc).keepsFace) = true)
    (hy : y.cls ≠ "java/lang/invoke/MethodHandle" ∧ y.cls ≠ "java/lang/invoke/VarHandle")
    (hK : Back l R p e below s args z 5 W (fun A a => a = as' ∧ A.U.heap = h ∧ A.cells + rc ≤ R.cells ∧ A.slots + rs ≤ R.slots) (fun A _ v B => ∃ L, Q v B.U.heap L ∧ B.locs = A.locs ++ L ∧ B.cells = A.cells + rc ∧ B.slots = A.slots + rs))
    (eT : T.heap = h) (E : Exa Z h a C) (hc : cells + rc ≤ R.cells) (hs : slots + rs ≤ R.slots) (hg : g.method = m) (hsize : g.locals.size = c.maxLocals) (hlen : ∀ sig, parseMethodDescriptor y.desc = some sig → argsL.length = sig.parameters.length) (hstack : g.stack = argsL.reverse ++ .ref a :: rest) (has : (.ref a :: argsL).toArray = as') (hW : 2 * g.monitorRoom + (rest.map fun v => v.category).sum ≤ W) (hd : decode c.code g.pc = .ok (.invokeinterface index count, 5))
    (k1 : ∀ (v : Option Value) (T' : State) (L : List Loc), Stand p l e R s m args below meth c T' (locs ++ L) (cells + rc) (slots + rs) → Q v T'.heap L → own_Fin p e below G T' { g with pc := g.pc + 5, stack := v.toList ++ rest }) : own_Fin p e below G T g := by
  obtain ⟨cq, kq, qa, qb, qc⟩ := isOf hZ eT E
  obtain ⟨v, _, ⟨T2, L2, k2, n2⟩, -, X2, ⟨L, hQ, e1, e2, e3⟩, st⟩ := X.interfaceBack hx hown (mvT hZ w1) (mvT hZ w2) (mvT hZ w3 hd3) (mvT hZ w4) (mvT hZ w5) (mvT hZ w6) (mvT hZ w7) (mvT hZ w8) hy hK qa qb qc hg hsize (Steps.refl _) hlen hstack hW hd (fun _ _ => ⟨has, eT, hc, hs⟩)
  try dsimp only at X2 e1 e2 e3 st hQ
  subst e1 e2 e3
  exact own_step (fun _ q => st.trans q) (k1 v T2 L X2 hQ)
theorem own_selP (hZ : Z.Warmed39 s.vm) {kn : Nat} (wi : (Jvm.Cond.instantiable y.cls kn).before a0 Z = true) (w2 : (Jvm.Cond.instanceMethod y).before a0 Z = true) (w4 : (Jvm.Cond.privateMethod y).before a0 Z = true) (hy : y.cls ≠ "java/lang/invoke/MethodHandle" ∧ y.cls ≠ "java/lang/invoke/VarHandle") : (Jvm.Cond.selects y.cls y y).before args s = true := by
  obtain ⟨cc, kk, h1, h2, -, h4, -⟩ := Cond.instantiable_spec (mvT (args := args) hZ wi)
  exact selects_self_of_private h1 h2 (by simp at h4; exact h4.1) (Cond.privateMethod_at (mvP hZ w4 (args := #[]))) (mvT hZ w2) hy
theorem own_nf_move {s : State} {y z : MethodName} {a : Array Value} (h : NotFace s y) (w : (Jvm.Cond.instanceMethod y).before a s = true) (hc : z.cls = y.cls) : NotFace s z := fun r0 h0 => by
  obtain ⟨mk, methM, hnamed, -⟩ := Cond.instanceMethod_spec w
  have c1 := findClass_of_methodNamed hnamed
  have c2 := findClass_of_methodNamed h0
  rw [hc, c1] at c2
  have e : mk.cls = r0.cls := Option.some.inj c2
  obtain ⟨k, q1, q2⟩ := h mk hnamed
  exact ⟨k, by rw [← e]; exact q1, q2⟩
theorem own_same {s : State} {y : MethodName} {a : Array Value} (h : NotFace s y) (w : (Jvm.Cond.instanceMethod y).before a s = true) (hy : y.cls ≠ "java/lang/invoke/MethodHandle" ∧ y.cls ≠ "java/lang/invoke/VarHandle") : (Jvm.Cond.sameMethod y.cls y.cls y.name y.desc).before a s = true := by
  obtain ⟨mk, methM, hnamed, -⟩ := Cond.instanceMethod_spec w
  have hf := State.methodFound?_of_named hnamed hy
  have hc := findClass_of_methodNamed hnamed
  obtain ⟨k, q1, q2⟩ := h mk hnamed
  have hn' : s.methodNamed? ⟨y.cls, y.name, y.desc⟩ = some mk := hnamed
  simp [Cond.before, Cond.holds, Cond.value, hc, hf, hn', q1, q2]
theorem own_selQ (hZ : Z.Warmed39 s.vm) (hnf : NotFace s y) (w2 : (Jvm.Cond.instanceMethod y).before a0 Z = true) (w4 : (Jvm.Cond.privateMethod y).before a0 Z = true) (hy : y.cls ≠ "java/lang/invoke/MethodHandle" ∧ y.cls ≠ "java/lang/invoke/VarHandle") : (Jvm.Cond.selects y.cls y y).before args s = true := by
  obtain ⟨mk, methM, hnamed, -⟩ := Cond.instanceMethod_spec (mvT (args := args) hZ w2)
  obtain ⟨k, q1, q2⟩ := hnf mk hnamed
  exact selects_self_of_private (findClass_of_methodNamed hnamed) q1 q2 (Cond.privateMethod_at (mvP hZ w4 (args := #[]))) (mvT hZ w2) hy
theorem own_callU {K : String} (X : Stand p l e R s m args below meth c T locs cells slots) (hx : p.tables.exec = Jvm.exec) (hZ : Z.Warmed39 s.vm) (hown : s.vm.findClass own = some m.cls) (hy1 : y.name ≠ "<init>") (w1 : (Jvm.Cond.methodLink own index y).before a0 Z = true) (w2 : (Jvm.Cond.instanceMethod y).before a0 Z = true) (w3 : (Jvm.Cond.sameMethod y.cls y.cls y.name y.desc).before a0 Z = true) (w5 : (Jvm.Cond.superclass own y.cls).before a0 Z = true) (w4 : (Jvm.Cond.code y bytes maxL ret).before a0 Z = true)
    (hy : y.cls ≠ "java/lang/invoke/MethodHandle" ∧ y.cls ≠ "java/lang/invoke/VarHandle")
    (hK : Back l R p e below s args y 3 W (fun A a => a = as' ∧ A.U.heap = h ∧ A.cells + rc ≤ R.cells ∧ A.slots + rs ≤ R.slots) (fun A _ v B => ∃ L, Q v B.U.heap L ∧ B.locs = A.locs ++ L ∧ B.cells = A.cells + rc ∧ B.slots = A.slots + rs))
    (eT : T.heap = h) (E : Exa Z h a K) (hc : cells + rc ≤ R.cells) (hs : slots + rs ≤ R.slots) (hg : g.method = m) (hsize : g.locals.size = c.maxLocals) (hlen : ∀ sig, parseMethodDescriptor y.desc = some sig → argsL.length = sig.parameters.length) (hstack : g.stack = argsL.reverse ++ .ref a :: rest) (has : (.ref a :: argsL).toArray = as') (hW : 2 * g.monitorRoom + (rest.map fun v => v.category).sum ≤ W) (hd : decode c.code g.pc = .ok (.invokespecial index, 3))
    (k1 : ∀ (v : Option Value) (T' : State) (L : List Loc), Stand p l e R s m args below meth c T' (locs ++ L) (cells + rc) (slots + rs) → Q v T'.heap L → own_Fin p e below G T' { g with pc := g.pc + 3, stack := v.toList ++ rest }) : own_Fin p e below G T g := by
  obtain ⟨v, _, ⟨T2, L2, k2, n2⟩, -, X2, ⟨L, hQ, e1, e2, e3⟩, st⟩ := superBack X hx hZ hown w1 w3 w2 w5 hy1 hK eT (Ins.self E) hg hsize w4 hlen hstack hW hd (fun _ _ => ⟨has, eT, hc, hs⟩)
  try dsimp only at X2 e1 e2 e3 st hQ
  subst e1 e2 e3
  exact own_step (fun _ q => st.trans q) (k1 v T2 L X2 hQ)
theorem own_callP {C : String} (X : Stand p l e R s m args below meth c T locs cells slots) (hx : p.tables.exec = Jvm.exec) (hZ : Z.Warmed39 s.vm) (hown : s.vm.findClass own = some m.cls) (w1 : (Jvm.Cond.methodLink own index y).before a0 Z = true) (w2 : (Jvm.Cond.instanceMethod y).before a0 Z = true) (w3 : (Jvm.Cond.selects y.cls y y).before args s = true) (w4 : (Jvm.Cond.privateMethod y).before a0 Z = true) (w5 : (Jvm.Cond.code y bytes maxL ret).before a0 Z = true)
    (hy : y.cls ≠ "java/lang/invoke/MethodHandle" ∧ y.cls ≠ "java/lang/invoke/VarHandle")
    (hK : Back l R p e below s args y 3 W (fun A a => a = as' ∧ A.U.heap = h ∧ A.cells + rc ≤ R.cells ∧ A.slots + rs ≤ R.slots) (fun A _ v B => ∃ L, Q v B.U.heap L ∧ B.locs = A.locs ++ L ∧ B.cells = A.cells + rc ∧ B.slots = A.slots + rs))
    (eT : T.heap = h) (E : Exa Z h a C) (hc : cells + rc ≤ R.cells) (hs : slots + rs ≤ R.slots) (hg : g.method = m) (hsize : g.locals.size = c.maxLocals) (hlen : ∀ sig, parseMethodDescriptor y.desc = some sig → argsL.length = sig.parameters.length) (hstack : g.stack = argsL.reverse ++ .ref a :: rest) (has : (.ref a :: argsL).toArray = as') (hW : 2 * g.monitorRoom + (rest.map fun v => v.category).sum ≤ W) (hd : decode c.code g.pc = .ok (.invokevirtual index, 3))
    (k1 : ∀ (v : Option Value) (T' : State) (L : List Loc), Stand p l e R s m args below meth c T' (locs ++ L) (cells + rc) (slots + rs) → Q v T'.heap L → own_Fin p e below G T' { g with pc := g.pc + 3, stack := v.toList ++ rest }) : own_Fin p e below G T g := by
  obtain ⟨cq, q, q'⟩ := E.cell
  obtain ⟨v, _, ⟨T2, L2, k2, n2⟩, -, X2, ⟨L, hQ, e1, e2, e3⟩, st⟩ := X.privateBack hx hown (mvT hZ w1) (mvT hZ w2) w3 (Cond.privateMethod_at (mvP hZ w4 (args := #[]))) (mvT hZ w5) hy hK hg hsize (Steps.refl _) (a := a) (by rw [eT]; exact q) q' hlen hstack hW hd (fun _ _ => ⟨has, eT, hc, hs⟩)
  try dsimp only at X2 e1 e2 e3 st hQ
  subst e1 e2 e3
  exact own_step (fun _ q => st.trans q) (k1 v T2 L X2 hQ)
/-! arrays -/
theorem own_ldC (X : Stand p l e R s m args below meth c T locs cells slots) (hx : p.tables.exec = Jvm.exec) (hZ : Z.Warmed39 s.vm) (eT : T.heap = h) (F : Arv Z h a k .char n vs d) (hj : ¬ j < 0 ∧ j < n) (hu : vs.getD j.toNatClampNeg d = v) (hg : g.method = m) (hs : g.stack = .int j :: .ref a :: rest) (hd : decode c.code g.pc = .ok (.caload, 1)) : ∀ t, Steps p.tables e below (T.setTop { g with pc := g.pc + 1, stack := v :: rest }) t → Steps p.tables e below (T.setTop g) t := by
  obtain ⟨cl, A, q1, S, q3, H, q5⟩ := F
  exact fun t k1 => X.caload hx (by rw [eT]; exact A.1) (State.isArrayOf_alike hZ.alike A.2.1) A.2.2 (inb_of S hj) (H.at (inb_of S hj) hu) hg hs hd t k1
theorem own_ldI (X : Stand p l e R s m args below meth c T locs cells slots) (hx : p.tables.exec = Jvm.exec) (hZ : Z.Warmed39 s.vm) (eT : T.heap = h) (F : Arv Z h a k .int n vs d) (hj : ¬ j < 0 ∧ j < n) (hu : vs.getD j.toNatClampNeg d = v) (hg : g.method = m) (hs : g.stack = .int j :: .ref a :: rest) (hd : decode c.code g.pc = .ok (.iaload, 1)) : ∀ t, Steps p.tables e below (T.setTop { g with pc := g.pc + 1, stack := v :: rest }) t → Steps p.tables e below (T.setTop g) t := by
  obtain ⟨cl, A, q1, S, q3, H, q5⟩ := F
  exact fun t k1 => X.iaload hx (by rw [eT]; exact A.1) (State.isArrayOf_alike hZ.alike A.2.1) A.2.2 (inb_of S hj) (H.at (inb_of S hj) hu) hg hs hd t k1
theorem own_ldJ (X : Stand p l e R s m args below meth c T locs cells slots) (hx : p.tables.exec = Jvm.exec) (hZ : Z.Warmed39 s.vm) (eT : T.heap = h) (F : Arv Z h a k .long n vs d) (hj : ¬ j < 0 ∧ j < n) (hu : vs.getD j.toNatClampNeg d = v) (hg : g.method = m) (hs : g.stack = .int j :: .ref a :: rest) (hd : decode c.code g.pc = .ok (.laload, 1)) : ∀ t, Steps p.tables e below (T.setTop { g with pc := g.pc + 1, stack := v :: rest }) t → Steps p.tables e below (T.setTop g) t := by
  obtain ⟨cl, A, q1, S, q3, H, q5⟩ := F
  exact fun t k1 => X.laload hx (by rw [eT]; exact A.1) (State.isArrayOf_alike hZ.alike A.2.1) A.2.2 (inb_of S hj) (H.at (inb_of S hj) hu) hg hs hd t k1
theorem own_ldB (X : Stand p l e R s m args below meth c T locs cells slots) (hx : p.tables.exec = Jvm.exec) (hZ : Z.Warmed39 s.vm) (eT : T.heap = h) (F : Arv Z h a k .byte n vs d) (hj : ¬ j < 0 ∧ j < n) (hu : vs.getD j.toNatClampNeg d = v) (hg : g.method = m) (hs : g.stack = .int j :: .ref a :: rest) (hd : decode c.code g.pc = .ok (.baload, 1)) : ∀ t, Steps p.tables e below (T.setTop { g with pc := g.pc + 1, stack := v :: rest }) t → Steps p.tables e below (T.setTop g) t := by
  obtain ⟨cl, A, q1, S, q3, H, q5⟩ := F
  exact fun t k1 => X.baloadBytes hx (by rw [eT]; exact A.1) (State.isArrayOf_alike hZ.alike A.2.1) A.2.2 (inb_of S hj) (H.at (inb_of S hj) hu) hg hs hd t k1
theorem own_ldA (X : Stand p l e R s m args below meth c T locs cells slots) (hx : p.tables.exec = Jvm.exec) (hZ : Z.Warmed39 s.vm) (eT : T.heap = h) (F : Arv Z h a k ty n vs d) (hty : ty.isReference = true) (hj : ¬ j < 0 ∧ j < n) (hu : vs.getD j.toNatClampNeg d = v) (hg : g.method = m) (hs : g.stack = .int j :: .ref a :: rest) (hd : decode c.code g.pc = .ok (.aaload, 1)) : ∀ t, Steps p.tables e below (T.setTop { g with pc := g.pc + 1, stack := v :: rest }) t → Steps p.tables e below (T.setTop g) t := by
  obtain ⟨cl, A, q1, S, q3, H, q5⟩ := F
  exact fun t k1 => X.aaload hx (by rw [eT]; exact A.1) (State.isArrayOf_alike hZ.alike A.2.1) hty A.2.2 (inb_of S hj) (H.at (inb_of S hj) hu) hg hs hd t k1
theorem own_len (X : Stand p l e R s m args below meth c T locs cells slots) (hx : p.tables.exec = Jvm.exec) (hZ : Z.Warmed39 s.vm) (eT : T.heap = h) (F : Arv Z h a k ty n vs d) (hg : g.method = m) (hs : g.stack = .ref a :: rest) (hd : decode c.code g.pc = .ok (.arraylength, 1)) : ∀ t, Steps p.tables e below (T.setTop { g with pc := g.pc + 1, stack := .int n :: rest }) t → Steps p.tables e below (T.setTop g) t := by
  obtain ⟨cl, A, q1, S, q3, H, q5⟩ := F
  refine fun t k1 => X.arraylength hx (by rw [eT]; exact A.1) (State.isArrayOf_alike hZ.alike A.2.1) hg hs hd t ?_
  rw [len_of S q3]; exact k1
theorem own_stC (X : Stand p l e R s m args below meth c T locs cells slots) (hx : p.tables.exec = Jvm.exec) (hZ : Z.Warmed39 s.vm) (eT : T.heap = h) (F : Arv Z h a k .char n vs d) {x : Int32} (hj : ¬ j < 0 ∧ j < n) {i : Nat} (hi : j.toNatClampNeg = i) (hl : i < vs.length) (hg : g.method = m) (hs : g.stack = .int x :: .int j :: .ref a :: rest) (hd : decode c.code g.pc = .ok (.castore, 1)) :
    ∃ T' h', Stand p l e R s m args below meth c T' (locs ++ [⟨a, j.toNatClampNeg⟩]) cells slots ∧ T'.heap = h' ∧ Wr h h' a j.toNatClampNeg (.int (nar .char x)) ∧ Arv Z h' a k .char n (vs.set i (.int (nar .char x))) d ∧ ∀ t, Steps p.tables e below (T'.setTop { g with pc := g.pc + 1, stack := rest }) t → Steps p.tables e below (T.setTop g) t := by
  obtain ⟨cl, A, q1, S, q3, H, q5⟩ := F
  obtain ⟨T', h', X', e', W', st⟩ := stC X hx hZ eT A (inb_of S hj) hg hs hd
  exact ⟨T', h', X', e', W', Arv.set A q1 S q3 H q5 (fits_nar_char _) W' i hi hl, st⟩
theorem own_stI (X : Stand p l e R s m args below meth c T locs cells slots) (hx : p.tables.exec = Jvm.exec) (hZ : Z.Warmed39 s.vm) (eT : T.heap = h) (F : Arv Z h a k .int n vs d) {x : Int32} (hj : ¬ j < 0 ∧ j < n) {i : Nat} (hi : j.toNatClampNeg = i) (hl : i < vs.length) (hg : g.method = m) (hs : g.stack = .int x :: .int j :: .ref a :: rest) (hd : decode c.code g.pc = .ok (.iastore, 1)) :
    ∃ T' h', Stand p l e R s m args below meth c T' (locs ++ [⟨a, j.toNatClampNeg⟩]) cells slots ∧ T'.heap = h' ∧ Wr h h' a j.toNatClampNeg (.int x) ∧ Arv Z h' a k .int n (vs.set i (.int x)) d ∧ ∀ t, Steps p.tables e below (T'.setTop { g with pc := g.pc + 1, stack := rest }) t → Steps p.tables e below (T.setTop g) t := by
  obtain ⟨cl, A, q1, S, q3, H, q5⟩ := F
  obtain ⟨T', h', X', e', W', st⟩ := stI X hx hZ eT A (inb_of S hj) hg hs hd
  exact ⟨T', h', X', e', W', Arv.set A q1 S q3 H q5 rfl W' i hi hl, st⟩
theorem own_stJ (X : Stand p l e R s m args below meth c T locs cells slots) (hx : p.tables.exec = Jvm.exec) (hZ : Z.Warmed39 s.vm) (eT : T.heap = h) (F : Arv Z h a k .long n vs d) {x : Int64} (hj : ¬ j < 0 ∧ j < n) {i : Nat} (hi : j.toNatClampNeg = i) (hl : i < vs.length) (hg : g.method = m) (hs : g.stack = .long x :: .int j :: .ref a :: rest) (hd : decode c.code g.pc = .ok (.lastore, 1)) :
    ∃ T' h', Stand p l e R s m args below meth c T' (locs ++ [⟨a, j.toNatClampNeg⟩]) cells slots ∧ T'.heap = h' ∧ Wr h h' a j.toNatClampNeg (.long x) ∧ Arv Z h' a k .long n (vs.set i (.long x)) d ∧ ∀ t, Steps p.tables e below (T'.setTop { g with pc := g.pc + 1, stack := rest }) t → Steps p.tables e below (T.setTop g) t := by
  obtain ⟨cl, A, q1, S, q3, H, q5⟩ := F
  obtain ⟨T', h', X', e', W', st⟩ := stJ X hx hZ eT A (inb_of S hj) hg hs hd
  exact ⟨T', h', X', e', W', Arv.set A q1 S q3 H q5 rfl W' i hi hl, st⟩
theorem own_stB (X : Stand p l e R s m args below meth c T locs cells slots) (hx : p.tables.exec = Jvm.exec) (hZ : Z.Warmed39 s.vm) (eT : T.heap = h) (F : Arv Z h a k .byte n vs d) {x : Int32} (hj : ¬ j < 0 ∧ j < n) {i : Nat} (hi : j.toNatClampNeg = i) (hl : i < vs.length) (hg : g.method = m) (hs : g.stack = .int x :: .int j :: .ref a :: rest) (hd : decode c.code g.pc = .ok (.bastore, 1)) :
    ∃ T' h', Stand p l e R s m args below meth c T' (locs ++ [⟨a, j.toNatClampNeg⟩]) cells slots ∧ T'.heap = h' ∧ Wr h h' a j.toNatClampNeg (.int x.toInt8.toInt32) ∧ Arv Z h' a k .byte n (vs.set i (.int x.toInt8.toInt32)) d ∧ ∀ t, Steps p.tables e below (T'.setTop { g with pc := g.pc + 1, stack := rest }) t → Steps p.tables e below (T.setTop g) t := by
  obtain ⟨cl, A, q1, S, q3, H, q5⟩ := F
  obtain ⟨T', h', X', e', W', st⟩ := stB X hx hZ eT A (inb_of S hj) hg hs hd
  exact ⟨T', h', X', e', W', Arv.set A q1 S q3 H q5 (fits_nar_byte _) W' i hi hl, st⟩
theorem own_stR (X : Stand p l e R s m args below meth c T locs cells slots) (hx : p.tables.exec = Jvm.exec) (hZ : Z.Warmed39 s.vm) (eT : T.heap = h) (F : Arv Z h a k ty n vs d) (hty : ty.isReference = true) {x : Value} (hxr : fits ty x = true) (hsto : ∀ cl, Arr Z h a cl ty → cl.cls = k → Sto Z h a x) (hj : ¬ j < 0 ∧ j < n) {i : Nat} (hi : j.toNatClampNeg = i) (hl : i < vs.length) (hg : g.method = m) (hs : g.stack = x :: .int j :: .ref a :: rest) (hd : decode c.code g.pc = .ok (.aastore, 1)) :
    ∃ T' h', Stand p l e R s m args below meth c T' (locs ++ [⟨a, j.toNatClampNeg⟩]) cells slots ∧ T'.heap = h' ∧ Wr h h' a j.toNatClampNeg x ∧ Arv Z h' a k ty n (vs.set i x) d ∧ ∀ t, Steps p.tables e below (T'.setTop { g with pc := g.pc + 1, stack := rest }) t → Steps p.tables e below (T.setTop g) t := by
  obtain ⟨cl, A, q1, S, q3, H, q5⟩ := F
  obtain ⟨T', h', X', e', W', st⟩ := stR X hx hZ eT A (inb_of S hj) hty (hsto cl A q1) hg hs hd
  exact ⟨T', h', X', e', W', Arv.set A q1 S q3 H q5 hxr W' i hi hl, st⟩
/-! small things -/
theorem own_ne {x y n : Nat} (h1 : x < n) (h2 : n ≤ y) : x ≠ y := Nat.ne_of_lt (Nat.lt_of_lt_of_le h1 h2)
theorem own_lt {x n n' : Nat} (h1 : x < n) (h2 : n ≤ n') : x < n' := Nat.lt_of_lt_of_le h1 h2
theorem own_arr_ne {ty' : FieldType} {k' : ClassId} {n' : Int32} {vs' : List Value} {d' : Value} (A : Arv Z h a k ty n vs d) (B : Arv Z h b k' ty' n' vs' d') (ht : ty ≠ ty') : a ≠ b := fun q => by
  subst q
  obtain ⟨c1, ⟨h1, ⟨-, kk, g1, comp, g2⟩, -⟩, -⟩ := A
  obtain ⟨c2, ⟨h2, ⟨-, kk', g3, comp', g4⟩, -⟩, -⟩ := B
  cases h1.symm.trans h2
  cases g1.symm.trans g3
  have := g2.symm.trans g4
  cases this
  exact ht rfl
theorem own_and255 (x : Int32) : ¬ nar .char ((x &&& (255 : Int32)).toUInt32.toUInt16.toUInt32.toInt32) < 0 ∧ ¬ (255 : Int32) < nar .char ((x &&& (255 : Int32)).toUInt32.toUInt16.toUInt32.toInt32) := by
  have t : ∀ k : Fin 256, ¬ nar .char ((Int32.ofNat k.val).toUInt32.toUInt16.toUInt32.toInt32) < 0 ∧ ¬ (255 : Int32) < nar .char ((Int32.ofNat k.val).toUInt32.toUInt16.toUInt32.toInt32) := by decide +kernel
  have h : (x &&& 255).toBitVec.toNat < 256 := by
    simp only [Int32.toBitVec_and, BitVec.toNat_and]
    exact Nat.lt_succ_of_le Nat.and_le_right
  have e : (x &&& 255) = Int32.ofNat (x &&& 255).toBitVec.toNat := by
    apply Int32.toBitVec_inj.mp
    show _ = BitVec.ofNat 32 _
    rw [BitVec.ofNat_toNat]; simp
  rw [e]
  exact t ⟨_, h⟩
theorem own_up (cs : List Int32) (h : ∀ c ∈ cs, ¬ c < 0 ∧ ¬ (255 : Int32) < c) : ∀ c ∈ cs, ¬ c < 0 ∧ ¬ (65535 : Int32) < c := fun c hc => ⟨(h c hc).1, fun q => (h c hc).2 (by rw [Int32.lt_iff_toInt_lt] at q ⊢; have e1 : (65535 : Int32).toInt = 65535 := rfl; have e2 : (255 : Int32).toInt = 255 := rfl; omega)⟩
theorem own_all0 {P : Int32 → Prop} : ∀ c ∈ ([] : List Int32), P c := fun _ q => nomatch q
theorem own_allS {P : Int32 → Prop} {x : Int32} {L : List Int32} (q : P x) (r : ∀ c ∈ L, P c) : ∀ c ∈ x :: L, P c := fun c z => (List.mem_cons.mp z).elim (fun u => u ▸ q) (r c)
end OwnKit
end Jvm.Pilot.@@N@@
namespace Jvm.Pilot.@@N@@
open Jvm Jvm.ClassFile Sem Op Lib Jvm.Free Jvm.Stand Jvm.LawKit Jvm.RoadKit Bundle Jvm.Pilot.@@N@@.Jvm.D
section OwnWide
variable {p : Program} {l : Launch} {e : Env} {R : Room} {s : State} {m : MethodId} {args : Array Value} {below : List Frame} {meth : Method} {c : Code} {T T' : State} {locs : List Loc} {cells slots : Nat} {g g' : JFrame} {G : State → Outcome → Prop} {Z : State} {a0 : Array Value} {h : Heap} {y : MethodName} {own : String} {index : Nat} {bytes : ByteArray} {maxL : Nat} {ret : Option FieldType} {W : Nat} {as' : Array Value} {rc rs : Nat} {Q : Option Value → Heap → List Loc → Prop} {argsL rest : List Value} {a b : Addr} {k : ClassId} {ty : FieldType} {n j : Int32} {vs : List Value} {d v : Value} {EL : List (String × Nat)} {vm0 : Vm} {k0 : Nat}
/-- what a body owes at its end, where it (or what it calls) may load literals -/
abbrev own_GW (Z : State) (EL : List (String × Nat)) (s : State) (Q : Option Value → Heap → List Loc → Prop) (rc rs : Nat) : State → Outcome → Prop := fun s₂ o => ∃ v L, o = .returned v ∧ Q v s₂.heap L ∧ CHr Z EL s.vm s.heap s₂.vm s₂.heap ∧ ReturnedEndW s o s₂ L rc rs
theorem own_endW (X : Stand p l e R (s.setVm vm0) m args below meth c T locs cells slots) (hZ : Z.Warmed39 vm0) (hEL : EW Z a0 EL) (hS : s.Since vm0 k0) (hk : k0 ≤ T.heap.size) (CH : CHr Z EL s.vm s.heap vm0 T.heap) {v : Option Value} (hv : meth.sig.returnType = none → v = none) (hlk : meth.locks = false)
    (st : ∀ fs, (∀ (f : JFrame) (acts : List Action), f.method = m → f.locked = none → f.entered = [] → (doReturn e (T.setTop f) acts v).1 = T.setFrames fs) → Steps p.tables e below (T.setTop g) (T.setFrames fs))
    (hQ : Q v T.heap locs) (hc : cells ≤ rc) (hs : slots ≤ rs) : own_Fin p e below (own_GW Z EL s Q rc rs) T g := by
  obtain ⟨fs, hr, hrun, hended, hW, hsame⟩ := X.leave hv hlk
  obtain ⟨q1, q2, q3⟩ := hS.ended hW hk hsame
  exact ⟨_, _, st fs hr, hrun, hended, v, locs, rfl, hQ, (show CHr Z EL s.vm s.heap T.vm T.heap from CH.trans (CHv.at X hZ hEL CH.1)), ⟨_, rfl⟩, q1, q2, q3.mono hc hs⟩
theorem own_retIW (X : Stand p l e R (s.setVm vm0) m args below meth c T locs cells slots) (hx : p.tables.exec = Jvm.exec) (hZ : Z.Warmed39 vm0) (hEL : EW Z a0 EL) (hS : s.Since vm0 k0) (hk : k0 ≤ T.heap.size) (CH : CHr Z EL s.vm s.heap vm0 T.heap) {pc : Nat} {Ls : Array Slot} {z : Int32} (hret : meth.sig.returnType = some .int) (hd : decode c.code pc = .ok (.ireturn, 1)) (hlk : meth.locks = false)
    (hQ : Q (some (.int z)) T.heap locs) (hc : cells ≤ rc) (hs : slots ≤ rs) : own_Fin p e below (own_GW Z EL s Q rc rs) T (mkF m pc Ls (.int z :: rest)) :=
  own_endW X hZ hEL hS hk CH (fun q => by rw [hret] at q; cases q) hlk (fun fs hr => retOut X hx hret rfl (Or.inl ⟨rfl, Or.inl rfl, z, rfl⟩) hd hr) hQ hc hs
theorem own_retNW (X : Stand p l e R (s.setVm vm0) m args below meth c T locs cells slots) (hx : p.tables.exec = Jvm.exec) (hZ : Z.Warmed39 vm0) (hEL : EW Z a0 EL) (hS : s.Since vm0 k0) (hk : k0 ≤ T.heap.size) (CH : CHr Z EL s.vm s.heap vm0 T.heap) {pc : Nat} {Ls : Array Slot} {z : Int32} {t : FieldType} (hret : meth.sig.returnType = some t) (ht : t = .boolean ∨ t = .byte ∨ t = .char ∨ t = .short) (hd : decode c.code pc = .ok (.ireturn, 1)) (hlk : meth.locks = false)
    (hQ : Q (some (.int (nar t z))) T.heap locs) (hc : cells ≤ rc) (hs : slots ≤ rs) : own_Fin p e below (own_GW Z EL s Q rc rs) T (mkF m pc Ls (.int z :: rest)) :=
  own_endW X hZ hEL hS hk CH (fun q => by rw [hret] at q; cases q) hlk (fun fs hr => retN X hx hret ht hd hr) hQ hc hs
theorem own_retLW (X : Stand p l e R (s.setVm vm0) m args below meth c T locs cells slots) (hx : p.tables.exec = Jvm.exec) (hZ : Z.Warmed39 vm0) (hEL : EW Z a0 EL) (hS : s.Since vm0 k0) (hk : k0 ≤ T.heap.size) (CH : CHr Z EL s.vm s.heap vm0 T.heap) {pc : Nat} {Ls : Array Slot} {z : Int64} (hret : meth.sig.returnType = some .long) (hd : decode c.code pc = .ok (.lreturn, 1)) (hlk : meth.locks = false)
    (hQ : Q (some (.long z)) T.heap locs) (hc : cells ≤ rc) (hs : slots ≤ rs) : own_Fin p e below (own_GW Z EL s Q rc rs) T (mkF m pc Ls (.long z :: rest)) :=
  own_endW X hZ hEL hS hk CH (fun q => by rw [hret] at q; cases q) hlk (fun fs hr => retOut X hx hret rfl (Or.inr (Or.inl ⟨rfl, rfl, z, rfl⟩)) hd hr) hQ hc hs
theorem own_retAW (X : Stand p l e R (s.setVm vm0) m args below meth c T locs cells slots) (hx : p.tables.exec = Jvm.exec) (hZ : Z.Warmed39 vm0) (hEL : EW Z a0 EL) (hS : s.Since vm0 k0) (hk : k0 ≤ T.heap.size) (CH : CHr Z EL s.vm s.heap vm0 T.heap) {pc : Nat} {Ls : Array Slot} {w : Value} {t : FieldType} (hret : meth.sig.returnType = some t) (ht : t.isReference = true) (hw : w.isRef = true) (hd : decode c.code pc = .ok (.areturn, 1)) (hlk : meth.locks = false)
    (hQ : Q (some w) T.heap locs) (hc : cells ≤ rc) (hs : slots ≤ rs) : own_Fin p e below (own_GW Z EL s Q rc rs) T (mkF m pc Ls (w :: rest)) :=
  own_endW X hZ hEL hS hk CH (fun q => by rw [hret] at q; cases q) hlk (fun fs hr => retOut X hx hret (own_narR hw ht) (Or.inr (Or.inr (Or.inr (Or.inr ⟨rfl, ht, hw⟩)))) hd hr) hQ hc hs
theorem own_retVW (X : Stand p l e R (s.setVm vm0) m args below meth c T locs cells slots) (hx : p.tables.exec = Jvm.exec) (hZ : Z.Warmed39 vm0) (hEL : EW Z a0 EL) (hS : s.Since vm0 k0) (hk : k0 ≤ T.heap.size) (CH : CHr Z EL s.vm s.heap vm0 T.heap) {pc : Nat} {Ls : Array Slot} (hret : meth.sig.returnType = none) (hd : decode c.code pc = .ok (.return_, 1)) (hlk : meth.locks = false)
    (hQ : Q none T.heap locs) (hc : cells ≤ rc) (hs : slots ≤ rs) : own_Fin p e below (own_GW Z EL s Q rc rs) T (mkF m pc Ls []) :=
  own_endW X hZ hEL hS hk CH (fun _ => rfl) hlk (fun fs hr => X.returnOut hx hret hd hr) hQ hc hs
theorem own_bodyW {ws : List Jvm.Cond} {rm : Room} {h0 : Heap} (hy : plainFor y = true)
    (body : ∀ p e s m below meth c s₁, BodyLoose p l y (head1 (Jvm.Cond.code y bytes maxL ret :: ws) rm) bytes maxL ret e s m as' below meth c s₁ → c.maxLocals = maxL → Z.Warmed39 s.vm → s₁.heap = h0 → s.heap = h0 → CHr Z EL s.vm s.heap s.vm h0 → own_Fin p e below (own_GW Z EL s Q rm.cells rm.slots) s₁ (entryFrame m as' maxL)) :
    MetFree l y (head1 (Jvm.Cond.code y bytes maxL ret :: ws) rm) (fun a U => a = as' ∧ Z.Warmed39 U.vm ∧ U.heap = h0 ∧ CHv Z EL U.vm h0) (fun _ _ _ _ _ => True) (fun _ U o U' => ∃ v L, o = .returned v ∧ Q v U'.heap L ∧ CHr Z EL U.vm U.heap U'.vm U'.heap ∧ ReturnedEndW U o U' L rm.cells rm.slots) := by
  refine MetFree.of_bodySF hy hisR ?_
  intro p e s m args below meth c s₁ Bd hml0 hP hK
  obtain ⟨rfl, hZ, hh, hC⟩ := hP
  exact body p e s m below meth c s₁ Bd hml0 hZ (by rw [← hh, Bd.state]; rfl) hh (by rw [hh]; exact CHr.refl hC)
theorem own_callSW (X : Stand p l e R (s.setVm vm0) m args below meth c T locs cells slots) (hx : p.tables.exec = Jvm.exec) (hZ : Z.Warmed39 (s.setVm vm0).vm) (hown : (s.setVm vm0).vm.findClass own = some m.cls) (hS : s.Since vm0 k0) (hk : k0 ≤ h.size) (w1 : (Jvm.Cond.methodLink own index y).before a0 Z = true) (w2 : (Jvm.Cond.static y).before a0 Z = true) (w3 : (Jvm.Cond.initialized y.cls).before a0 Z = true) (w4 : (Jvm.Cond.code y bytes maxL ret).before a0 Z = true) (hy : y.cls ≠ "java/lang/invoke/MethodHandle" ∧ y.cls ≠ "java/lang/invoke/VarHandle")
    (hK : BackS l R p e below (s.setVm vm0) args y 3 W (fun A a => a = as' ∧ A.U.heap = h ∧ A.cells + rc ≤ R.cells ∧ A.slots + rs ≤ R.slots) (fun A _ v B => ∃ L, Q v B.U.heap L ∧ B.locs = A.locs ++ L ∧ B.cells = A.cells + rc ∧ B.slots = A.slots + rs ∧ CHr Z EL vm0 h B.U.vm B.U.heap))
    (eT : T.heap = h) (hc : cells + rc ≤ R.cells) (hs : slots + rs ≤ R.slots) (hg : g.method = m) (hsize : g.locals.size = c.maxLocals) (hlen : ∀ sig, parseMethodDescriptor y.desc = some sig → argsL.length = sig.parameters.length) (hstack : g.stack = argsL.reverse ++ rest) (has : argsL.toArray = as') (hW : 2 * g.monitorRoom + (rest.map fun v => v.category).sum ≤ W) (hd : decode c.code g.pc = .ok (.invokestatic index, 3))
    (k1 : ∀ (v : Option Value) (T' : State) (L : List Loc), Stand p l e R (s.setVm T'.vm) m args below meth c T' (locs ++ L) (cells + rc) (slots + rs) → s.Since T'.vm T'.heap.size → Z.Warmed39 (s.setVm T'.vm).vm → (s.setVm T'.vm).vm.findClass own = some m.cls → CHr Z EL vm0 h T'.vm T'.heap → Q v T'.heap L → own_Fin p e below G T' { g with pc := g.pc + 3, stack := v.toList ++ rest }) : own_Fin p e below G T g := by
  obtain ⟨v, _, ⟨T2, L2, k2, n2⟩, -, X2, hS2, hg2, ⟨L, hQ, e1, e2, e3, hC⟩, st⟩ := callSS X hx hown (mvT hZ w1) (mvT hZ w2) (mvT hZ w3) (mvT hZ w4) hy hK hg hsize hlen hstack hW hd (fun _ _ => ⟨has, eT, hc, hs⟩)
  try dsimp only at X2 e1 e2 e3 st hQ hg2 hS2 hC
  subst e1 e2 e3
  obtain ⟨X3, hS3, hZ3, hown3⟩ := rebS hS hk X2 hS2 (by rw [← eT]; exact hg2) hZ hown
  exact own_step (fun _ q => st.trans q) (k1 v T2 L X3 hS3 hZ3 hown3 hC hQ)
theorem own_callCW (X : Stand p l e R (s.setVm vm0) m args below meth c T locs cells slots) (hx : p.tables.exec = Jvm.exec) (hZ : Z.Warmed39 (s.setVm vm0).vm) (hown : (s.setVm vm0).vm.findClass own = some m.cls) (hS : s.Since vm0 k0) (hk : k0 ≤ h.size) (hy1 : y.name = "<init>") (w1 : (Jvm.Cond.methodLink own index y).before a0 Z = true) (w2 : (Jvm.Cond.instanceMethod y).before a0 Z = true) (w4 : (Jvm.Cond.code y bytes maxL none).before a0 Z = true) (hy : y.cls ≠ "java/lang/invoke/MethodHandle" ∧ y.cls ≠ "java/lang/invoke/VarHandle")
    (hK : BackS l R p e below (s.setVm vm0) args y 3 W (fun A a => a = as' ∧ A.U.heap = h ∧ A.cells + rc ≤ R.cells ∧ A.slots + rs ≤ R.slots) (fun A _ v B => ∃ L, Q v B.U.heap L ∧ B.locs = A.locs ++ L ∧ B.cells = A.cells + rc ∧ B.slots = A.slots + rs ∧ CHr Z EL vm0 h B.U.vm B.U.heap))
    (eT : T.heap = h) (hc : cells + rc ≤ R.cells) (hs : slots + rs ≤ R.slots) (hg : g.method = m) (hsize : g.locals.size = c.maxLocals) (hlen : ∀ sig, parseMethodDescriptor y.desc = some sig → argsL.length = sig.parameters.length) (hstack : g.stack = argsL.reverse ++ .ref a :: rest) (has : (.ref a :: argsL).toArray = as') (hW : 2 * g.monitorRoom + (rest.map fun v => v.category).sum ≤ W) (hd : decode c.code g.pc = .ok (.invokespecial index, 3))
    (k1 : ∀ (v : Option Value) (T' : State) (L : List Loc), Stand p l e R (s.setVm T'.vm) m args below meth c T' (locs ++ L) (cells + rc) (slots + rs) → s.Since T'.vm T'.heap.size → Z.Warmed39 (s.setVm T'.vm).vm → (s.setVm T'.vm).vm.findClass own = some m.cls → CHr Z EL vm0 h T'.vm T'.heap → Q v T'.heap L → own_Fin p e below G T' { g with pc := g.pc + 3, stack := v.toList ++ rest }) : own_Fin p e below G T g := by
  obtain ⟨v, _, ⟨T2, L2, k2, n2⟩, -, X2, hS2, hg2, ⟨L, hQ, e1, e2, e3, hC⟩, st⟩ := X.specialBackS hx hy1 hown (mvT hZ w1) (mvT hZ w2) (mvT hZ w4) hy hK hg hsize (Steps.refl _) hlen hstack hW hd (fun _ _ => ⟨has, eT, hc, hs⟩)
  try dsimp only at X2 e1 e2 e3 st hQ hg2 hS2 hC
  subst e1 e2 e3
  obtain ⟨X3, hS3, hZ3, hown3⟩ := rebS hS hk X2 hS2 (by rw [← eT]; exact hg2) hZ hown
  exact own_step (fun _ q => st.trans q) (k1 v T2 L X3 hS3 hZ3 hown3 hC hQ)
theorem own_callVW {z : MethodName} {C : String} (X : Stand p l e R (s.setVm vm0) m args below meth c T locs cells slots) (hx : p.tables.exec = Jvm.exec) (hZ : Z.Warmed39 (s.setVm vm0).vm) (hown : (s.setVm vm0).vm.findClass own = some m.cls) (hS : s.Since vm0 k0) (hk : k0 ≤ h.size) (w1 : (Jvm.Cond.methodLink own index y).before a0 Z = true) (w2 : (Jvm.Cond.declares y).before a0 Z = true) (hnf : NotFace (s.setVm vm0) y) (w3 : (Jvm.Cond.selects C y z).before a0 Z = true) (w4 : (Jvm.Cond.instanceMethod z).before a0 Z = true) (hy : y.cls ≠ "java/lang/invoke/MethodHandle" ∧ y.cls ≠ "java/lang/invoke/VarHandle")
    (hK : BackS l R p e below (s.setVm vm0) args z 3 W (fun A a => a = as' ∧ A.U.heap = h ∧ A.cells + rc ≤ R.cells ∧ A.slots + rs ≤ R.slots) (fun A _ v B => ∃ L, Q v B.U.heap L ∧ B.locs = A.locs ++ L ∧ B.cells = A.cells + rc ∧ B.slots = A.slots + rs ∧ CHr Z EL vm0 h B.U.vm B.U.heap))
    (eT : T.heap = h) (E : Exa Z h a C) (hc : cells + rc ≤ R.cells) (hs : slots + rs ≤ R.slots) (hg : g.method = m) (hsize : g.locals.size = c.maxLocals) (hlen : ∀ sig, parseMethodDescriptor y.desc = some sig → argsL.length = sig.parameters.length) (hstack : g.stack = argsL.reverse ++ .ref a :: rest) (has : (.ref a :: argsL).toArray = as') (hW : 2 * g.monitorRoom + (rest.map fun v => v.category).sum ≤ W) (hd : decode c.code g.pc = .ok (.invokevirtual index, 3))
    (k1 : ∀ (v : Option Value) (T' : State) (L : List Loc), Stand p l e R (s.setVm T'.vm) m args below meth c T' (locs ++ L) (cells + rc) (slots + rs) → s.Since T'.vm T'.heap.size → Z.Warmed39 (s.setVm T'.vm).vm → (s.setVm T'.vm).vm.findClass own = some m.cls → CHr Z EL vm0 h T'.vm T'.heap → Q v T'.heap L → own_Fin p e below G T' { g with pc := g.pc + 3, stack := v.toList ++ rest }) : own_Fin p e below G T g := by
  obtain ⟨cq, kq, qa, qb, qc⟩ := isOf hZ eT E
  obtain ⟨v, _, ⟨T2, L2, k2, n2⟩, -, X2, hS2, hg2, ⟨L, hQ, e1, e2, e3, hC⟩, st⟩ := X.virtualBackS hx hown (mvT hZ w1) (mvT hZ w2) hnf (mvT hZ w3) (mvT hZ w4) hy hK qa qc hg hsize (Steps.refl _) hlen hstack hW hd (fun _ _ => ⟨has, eT, hc, hs⟩)
  try dsimp only at X2 e1 e2 e3 st hQ hg2 hS2 hC
  subst e1 e2 e3
  obtain ⟨X3, hS3, hZ3, hown3⟩ := rebS hS hk X2 hS2 (by rw [← eT]; exact hg2) hZ hown
  exact own_step (fun _ q => st.trans q) (k1 v T2 L X3 hS3 hZ3 hown3 hC hQ)
theorem own_callIW {z : MethodName} {C : String} {count : Nat} (X : Stand p l e R (s.setVm vm0) m args below meth c T locs cells slots) (hx : p.tables.exec = Jvm.exec) (hZ : Z.Warmed39 (s.setVm vm0).vm) (hown : (s.setVm vm0).vm.findClass own = some m.cls) (hS : s.Since vm0 k0) (hk : k0 ≤ h.size) (w1 : (Jvm.Cond.methodLink own index y).before a0 Z = true) (w2 : (Jvm.Cond.declares y).before a0 Z = true) (w3 : (Jvm.Cond.interfaceMethod y.cls y.cls y.name y.desc).before a0 Z = true) (w4 : (Jvm.Cond.selects C y z).before a0 Z = true) (w5 : (Jvm.Cond.instanceMethod z).before a0 Z = true) (w6 : (Jvm.Cond.publicMethod z).before a0 Z = true) (w7 : (Jvm.Cond.unhidden C y.name y.desc).before a0 Z = true) (w8 : (Jvm.Cond.castable C y.cls).before a0 Z = true) (hd3 : ((Jvm.Cond.interfaceMethod y.cls y.cls y.name y.desc).onTables && (Jvm.Cond.interfaceMethod y.cls y.cls y.name y.desc).keepsFace) = true) (hy : y.cls ≠ "java/lang/invoke/MethodHandle" ∧ y.cls ≠ "java/lang/invoke/VarHandle")
    (hK : BackS l R p e below (s.setVm vm0) args z 5 W (fun A a => a = as' ∧ A.U.heap = h ∧ A.cells + rc ≤ R.cells ∧ A.slots + rs ≤ R.slots) (fun A _ v B => ∃ L, Q v B.U.heap L ∧ B.locs = A.locs ++ L ∧ B.cells = A.cells + rc ∧ B.slots = A.slots + rs ∧ CHr Z EL vm0 h B.U.vm B.U.heap))
    (eT : T.heap = h) (E : Exa Z h a C) (hc : cells + rc ≤ R.cells) (hs : slots + rs ≤ R.slots) (hg : g.method = m) (hsize : g.locals.size = c.maxLocals) (hlen : ∀ sig, parseMethodDescriptor y.desc = some sig → argsL.length = sig.parameters.length) (hstack : g.stack = argsL.reverse ++ .ref a :: rest) (has : (.ref a :: argsL).toArray = as') (hW : 2 * g.monitorRoom + (rest.map fun v => v.category).sum ≤ W) (hd : decode c.code g.pc = .ok (.invokeinterface index count, 5))
    (k1 : ∀ (v : Option Value) (T' : State) (L : List Loc), Stand p l e R (s.setVm T'.vm) m args below meth c T' (locs ++ L) (cells + rc) (slots + rs) → s.Since T'.vm T'.heap.size → Z.Warmed39 (s.setVm T'.vm).vm → (s.setVm T'.vm).vm.findClass own = some m.cls → CHr Z EL vm0 h T'.vm T'.heap → Q v T'.heap L → own_Fin p e below G T' { g with pc := g.pc + 5, stack := v.toList ++ rest }) : own_Fin p e below G T g := by
  obtain ⟨cq, kq, qa, qb, qc⟩ := isOf hZ eT E
  obtain ⟨v, _, ⟨T2, L2, k2, n2⟩, -, X2, hS2, hg2, ⟨L, hQ, e1, e2, e3, hC⟩, st⟩ := X.interfaceBackS hx hown (mvT hZ w1) (mvT hZ w2) (mvT hZ w3 hd3) (mvT hZ w4) (mvT hZ w5) (mvT hZ w6) (mvT hZ w7) (mvT hZ w8) hy hK qa qb qc hg hsize (Steps.refl _) hlen hstack hW hd (fun _ _ => ⟨has, eT, hc, hs⟩)
  try dsimp only at X2 e1 e2 e3 st hQ hg2 hS2 hC
  subst e1 e2 e3
  obtain ⟨X3, hS3, hZ3, hown3⟩ := rebS hS hk X2 hS2 (by rw [← eT]; exact hg2) hZ hown
  exact own_step (fun _ q => st.trans q) (k1 v T2 L X3 hS3 hZ3 hown3 hC hQ)
theorem own_callPW {C : String} (X : Stand p l e R (s.setVm vm0) m args below meth c T locs cells slots) (hx : p.tables.exec = Jvm.exec) (hZ : Z.Warmed39 (s.setVm vm0).vm) (hown : (s.setVm vm0).vm.findClass own = some m.cls) (hS : s.Since vm0 k0) (hk : k0 ≤ h.size) (w1 : (Jvm.Cond.methodLink own index y).before a0 Z = true) (w2 : (Jvm.Cond.instanceMethod y).before a0 Z = true) (w3 : (Jvm.Cond.selects y.cls y y).before args (s.setVm vm0) = true) (w4 : (Jvm.Cond.privateMethod y).before a0 Z = true) (w5 : (Jvm.Cond.code y bytes maxL ret).before a0 Z = true) (hy : y.cls ≠ "java/lang/invoke/MethodHandle" ∧ y.cls ≠ "java/lang/invoke/VarHandle")
    (hK : BackS l R p e below (s.setVm vm0) args y 3 W (fun A a => a = as' ∧ A.U.heap = h ∧ A.cells + rc ≤ R.cells ∧ A.slots + rs ≤ R.slots) (fun A _ v B => ∃ L, Q v B.U.heap L ∧ B.locs = A.locs ++ L ∧ B.cells = A.cells + rc ∧ B.slots = A.slots + rs ∧ CHr Z EL vm0 h B.U.vm B.U.heap))
    (eT : T.heap = h) (E : Exa Z h a C) (hc : cells + rc ≤ R.cells) (hs : slots + rs ≤ R.slots) (hg : g.method = m) (hsize : g.locals.size = c.maxLocals) (hlen : ∀ sig, parseMethodDescriptor y.desc = some sig → argsL.length = sig.parameters.length) (hstack : g.stack = argsL.reverse ++ .ref a :: rest) (has : (.ref a :: argsL).toArray = as') (hW : 2 * g.monitorRoom + (rest.map fun v => v.category).sum ≤ W) (hd : decode c.code g.pc = .ok (.invokevirtual index, 3))
    (k1 : ∀ (v : Option Value) (T' : State) (L : List Loc), Stand p l e R (s.setVm T'.vm) m args below meth c T' (locs ++ L) (cells + rc) (slots + rs) → s.Since T'.vm T'.heap.size → Z.Warmed39 (s.setVm T'.vm).vm → (s.setVm T'.vm).vm.findClass own = some m.cls → CHr Z EL vm0 h T'.vm T'.heap → Q v T'.heap L → own_Fin p e below G T' { g with pc := g.pc + 3, stack := v.toList ++ rest }) : own_Fin p e below G T g := by
  obtain ⟨cq, q, q'⟩ := E.cell
  obtain ⟨v, _, ⟨T2, L2, k2, n2⟩, -, X2, hS2, hg2, ⟨L, hQ, e1, e2, e3, hC⟩, st⟩ := X.privateBackS hx hown (mvT hZ w1) (mvT hZ w2) w3 (Cond.privateMethod_at (mvP hZ w4 (args := #[]))) (mvT hZ w5) hy hK hg hsize (Steps.refl _) (a := a) (by rw [eT]; exact q) q' hlen hstack hW hd (fun _ _ => ⟨has, eT, hc, hs⟩)
  try dsimp only at X2 e1 e2 e3 st hQ hg2 hS2 hC
  subst e1 e2 e3
  obtain ⟨X3, hS3, hZ3, hown3⟩ := rebS hS hk X2 hS2 (by rw [← eT]; exact hg2) hZ hown
  exact own_step (fun _ q => st.trans q) (k1 v T2 L X3 hS3 hZ3 hown3 hC hQ)
/-- a String whose value is still null is no literal's -/
theorem own_safe_null {vm : Vm} (hal : Z.vm.Alike vm) {x : Addr} (E : Exa Z h x "java/lang/String") (F : Fld Z h x "java/lang/String" "value" "[B" .null) : Safe Z EL vm h x := fun B => by
  obtain ⟨p, -, u, a, -, q, hq, S, hy⟩ := B
  obtain ⟨cS, ⟨⟨s1, s2, s3, ⟨cv, kv, iv, s4, s4'⟩, -, s6, s7, s8, s9, s10, s11, s12, -⟩, hfS, hcS⟩, ⟨kS, k1, k2, k3⟩, hB, hbyt⟩ := S
  rcases hy with rfl | rfl
  · obtain ⟨cell, cf, k, i, f, h1, h2, h3, h4, h5, h6, h7⟩ := F
    obtain ⟨kv', z4⟩ := ff_back (U := Wst Z vm h) hal s4
    cases h2.symm.trans z4
    have s1' : h[q.sa]? = some q.sC := s1
    cases h1.symm.trans s1'
    rw [s8] at h7; cases h7
  · obtain ⟨cell, k, h1, h2, h3, h4, h5⟩ := E
    have s10' : h[q.sd]? = some q.SA := s10
    cases h1.symm.trans s10'
    have hB' : vm.findClass "[B" = some q.SA.cls := hB
    rw [hal.findClass] at hB'
    exact ids_ne h2 hB' (by decide) rfl
end OwnWide
end Jvm.Pilot.@@N@@
namespace Jvm.Pilot.@@N@@
open Jvm Jvm.ClassFile Sem Op Lib Jvm.Free Jvm.Stand Jvm.LawKit Jvm.RoadKit Bundle Jvm.Pilot.@@N@@.Jvm.D
theorem own_ws {Z : State} {a0 : Array Value} (hw : ∀ d ∈ tables_1, d.before a0 Z = true) : ∀ d ∈ StrChars.Road.words, d.before a0 Z = true := fun d hd => hw d ((by decide +kernel : ∀ d ∈ StrChars.Road.words, d ∈ tables_1) d hd)
theorem own_nat {a : Nat} (h : a < 2 ^ 31) : (Int32.ofNat a).toNatClampNeg = a := by
  have e : (Int32.ofNat a).toInt = (a : Int) := Int32.toInt_ofNat_of_lt (by omega)
  rw [Int32.toNatClampNeg, e]; rfl
theorem own_toInt {a : Nat} (h : a < 2 ^ 31) : (Int32.ofNat a).toInt = (a : Int) := Int32.toInt_ofNat_of_lt (by omega)
theorem own_clamp_lt (x : Int32) : x.toNatClampNeg < 2 ^ 31 := by
  have h1 := x.toInt_lt
  rw [Int32.toNatClampNeg]; omega
theorem own_ixin {a : Nat} {N : Int32} (hN : ¬ N < 0) (h : a < N.toNatClampNeg) : ¬ Int32.ofNat a < 0 ∧ Int32.ofNat a < N := by
  have hb := own_clamp_lt N
  have e := own_toInt (a := a) (by omega)
  rw [Int32.lt_iff_toInt_lt] at hN
  rw [Int32.lt_iff_toInt_lt, Int32.lt_iff_toInt_lt, e]
  have z : (0 : Int32).toInt = 0 := rfl
  rw [z] at *
  rw [Int32.toNatClampNeg] at h
  omega
theorem own_inc (a : Nat) : Int32.ofNat a + (1 : Int32) = Int32.ofNat (a + 1) := (inc_ofNat a).symm
theorem own_shl1 {i : Nat} (h : 2 * i < 2 ^ 31) : Int32.ofNat i <<< ((1 : Int32) &&& 31) = Int32.ofNat (2 * i) := by
  have e : ((1 : Int32) &&& 31) = 1 := by decide
  rw [e]
  apply Int32.toBitVec_inj.mp
  show (BitVec.ofNat 32 i) <<< _ = BitVec.ofNat 32 (2 * i)
  apply BitVec.eq_of_toNat_eq
  simp [BitVec.toNat_shiftLeft, Nat.shiftLeft_eq]
  omega
theorem own_ltN {a b : Nat} (ha : a < 2 ^ 31) (hb : b < 2 ^ 31) : Int32.ofNat a < Int32.ofNat b ↔ a < b := by
  rw [Int32.lt_iff_toInt_lt, own_toInt ha, own_toInt hb]; omega
theorem own_nneg {a : Nat} (h : a < 2 ^ 31) : ¬ Int32.ofNat a < 0 := by
  rw [Int32.lt_iff_toInt_lt, own_toInt h]; have z : (0 : Int32).toInt = 0 := rfl; omega
theorem own_narC {c : Int32} (h0 : ¬ c < 0) (h1 : ¬ 65535 < c) : nar .char c = c := by
  have q := StrChars.narrow_ch h0 h1
  have e : narrow .char (.int c) = .int (nar .char c) := rfl
  rw [e] at q; exact Value.int.inj q
theorem own_getD_mem {cs : List Int32} {i : Nat} (h : i < cs.length) : cs.getD i 0 ∈ cs := by
  rw [List.getD_eq_getElem?_getD, List.getElem?_eq_getElem h]; exact List.getElem_mem h
theorem own_lo8lo8 (x : Int32) : (StrChars.lo8 x).toInt8.toInt32 = StrChars.lo8 x := by simp [StrChars.lo8]
theorem own_getD_set {vs : List Value} {i j : Nat} {u dv : Value} (h : i < vs.length) : (vs.set i u).getD j dv = if j = i then u else vs.getD j dv := by
  rw [List.getD_eq_getElem?_getD, List.getD_eq_getElem?_getD, List.getElem?_set]
  by_cases q : i = j
  · subst q; simp [h]
  · have q' : ¬ j = i := fun z => q z.symm
    simp [q, q']
theorem own_mapD {cs : List Int32} {i : Nat} (h : i < cs.length) {dv : Value} : (cs.map Value.int).getD i dv = .int (cs.getD i 0) := by
  rw [List.getD_eq_getElem?_getD, List.getD_eq_getElem?_getD, List.getElem?_map, List.getElem?_eq_getElem h]; rfl
def own_Wide (cs : List Int32) (i : Nat) (vs : List Value) : Prop := ∀ j, j < i → vs.getD (2 * j) (.int 0) = .int (StrChars.lo8 (cs.getD j 0)) ∧ vs.getD (2 * j + 1) (.int 0) = .int (StrChars.hi8 (cs.getD j 0))
theorem own_Wide.step {cs : List Int32} {i : Nat} {vs : List Value} (h : own_Wide cs i vs) (hl : 2 * i + 1 < vs.length) : own_Wide cs (i + 1) ((vs.set (2 * i) (.int (StrChars.lo8 (cs.getD i 0)))).set (2 * i + 1) (.int (StrChars.hi8 (cs.getD i 0)))) := fun j hj => by
  have e : ∀ (u w : Value) (k : Nat), ((vs.set (2 * i) u).set (2 * i + 1) w).getD k (.int 0) = if k = 2 * i + 1 then w else if k = 2 * i then u else vs.getD k (.int 0) := fun u w k => by
    rw [own_getD_set (by rw [List.length_set]; omega), own_getD_set (by omega)]
  rw [e, e]
  by_cases q : j = i
  · subst q; exact ⟨by rw [if_neg (by omega), if_pos rfl], if_pos rfl⟩
  · rw [if_neg (by omega), if_neg (by omega), if_neg (by omega), if_neg (by omega)]; exact h j (by omega)
theorem own_wide_len : ∀ cs : List Int32, (StrChars.Road.wideBytes cs).length = 2 * cs.length
  | [] => rfl
  | c :: cs => by rw [StrChars.Road.wideBytes]; simp [own_wide_len cs]; omega
theorem own_Wide.eq {cs : List Int32} {vs : List Value} (h : own_Wide cs cs.length vs) (hl : vs.length = 2 * cs.length) : vs = StrChars.Road.wideBytes cs := by
  apply List.ext_getElem (by rw [hl, own_wide_len])
  intro i h1 h2
  have g1 : vs.getD i (.int 0) = vs[i] := by rw [List.getD_eq_getElem?_getD, List.getElem?_eq_getElem h1]; rfl
  have g2 : (StrChars.Road.wideBytes cs).getD i (.int 0) = (StrChars.Road.wideBytes cs)[i] := by rw [List.getD_eq_getElem?_getD, List.getElem?_eq_getElem h2]; rfl
  rw [← g1, ← g2]
  rcases Nat.mod_two_eq_zero_or_one i with q | q
  · obtain ⟨j, rfl⟩ : ∃ j, i = 2 * j := ⟨i / 2, by omega⟩
    rw [(h j (by omega)).1, StrChars.Road.wide_lo _ _ _ (by omega)]
  · obtain ⟨j, rfl⟩ : ∃ j, i = 2 * j + 1 := ⟨i / 2, by omega⟩
    rw [(h j (by omega)).2, StrChars.Road.wide_hi _ _ _ (by omega)]
def own_Lat (cs : List Int32) (i : Nat) (vs : List Value) : Prop := ∀ j, j < i → vs.getD j (.int 0) = .int (StrChars.lo8 (cs.getD j 0)) ∧ ¬ 255 < cs.getD j 0
theorem own_Lat.step {cs : List Int32} {i : Nat} {vs : List Value} (h : own_Lat cs i vs) (hl : i < vs.length) (hc : ¬ 255 < cs.getD i 0) : own_Lat cs (i + 1) (vs.set i (.int (StrChars.lo8 (cs.getD i 0)))) := fun j hj => by
  rw [own_getD_set hl]
  by_cases q : j = i
  · subst q; exact ⟨if_pos rfl, hc⟩
  · rw [if_neg q]; exact h j (by omega)
def own_Cmp (cs : List Int32) (r : Nat) (vs : List Value) : Prop := (r = cs.length ∧ vs = (cs.map fun z => Value.int (StrChars.lo8 z)) ∧ ∀ z ∈ cs, ¬ 255 < z) ∨ (r < cs.length ∧ 255 < cs.getD r 0)
theorem own_Lat.all {cs : List Int32} {vs : List Value} (h : own_Lat cs cs.length vs) (hl : vs.length = cs.length) : own_Cmp cs cs.length vs := by
  refine Or.inl ⟨rfl, ?_, fun z hz => ?_⟩
  · apply List.ext_getElem (by simp [hl])
    intro i h1 h2
    have g1 : vs.getD i (.int 0) = vs[i] := by rw [List.getD_eq_getElem?_getD, List.getElem?_eq_getElem h1]; rfl
    have hi : i < cs.length := by omega
    have g2 : cs.getD i 0 = cs[i] := by rw [List.getD_eq_getElem?_getD, List.getElem?_eq_getElem hi]; rfl
    rw [← g1, (h i hi).1, g2]; simp
  · obtain ⟨i, hi, rfl⟩ := List.getElem_of_mem hz
    have g2 : cs.getD i 0 = cs[i] := by rw [List.getD_eq_getElem?_getD, List.getElem?_eq_getElem hi]; rfl
    rw [← g2]; exact (h i hi).2
theorem own_cfal_eq {cs : List Int32} {cd N2 : Int32} {vs : List Value} (hc : StrChars.Road.CodA cs cd N2 vs) (h0 : 0 < cs.length) (h1 : cs.length ≤ 400) : nar .byte ((XT.ushr (Int32.ofNat cs.length - N2) (31 : Int32)).toInt8.toInt32) = cd := by
  rcases hc with ⟨rfl, rfl, -, -⟩ | ⟨rfl, rfl, -, -⟩
  · have e : Int32.ofNat cs.length - Int32.ofNat cs.length = 0 := by apply Int32.toBitVec_inj.mp; simp
    rw [e]; decide
  · have t : ∀ k : Fin 400, nar .byte ((XT.ushr (Int32.ofNat (k.val + 1) - Int32.ofNat (2 * (k.val + 1))) (31 : Int32)).toInt8.toInt32) = 1 := by decide +kernel
    have q := t ⟨cs.length - 1, by omega⟩
    have e : cs.length - 1 + 1 = cs.length := by omega
    simp only [e] at q; exact q
theorem own_CodA.cd {cs : List Int32} {cd N2 : Int32} {vs : List Value} (hc : StrChars.Road.CodA cs cd N2 vs) : cd = 0 ∨ cd = 1 := hc.imp (·.1) (·.1)
theorem own_narB {cs : List Int32} {cd N2 : Int32} {vs : List Value} (hc : StrChars.Road.CodA cs cd N2 vs) : narrow .byte (.int cd) = .int cd := by rcases own_CodA.cd hc with rfl | rfl <;> rfl
theorem own_fitB {cs : List Int32} {cd N2 : Int32} {vs : List Value} (hc : StrChars.Road.CodA cs cd N2 vs) : fits .byte (.int cd) = true := by rcases own_CodA.cd hc with rfl | rfl <;> rfl
def own_pad (bs : List Value) : List Value := bs ++ List.replicate (16 - bs.length) (Value.int 0)
theorem own_nfw : nativeFrameWords "java/lang/System" "arraycopy" 5 = 7 := by decide
theorem own_z32 : (0 : Int32).toNatClampNeg = 0 := rfl
theorem own_rngA (bs xs : List Value) (dv : Value) (h : bs.length < 2 ^ 31) : bs = (List.range (Int32.ofNat bs.length).toNatClampNeg).map fun i => (bs ++ xs).getD ((0 : Int32).toNatClampNeg + i) dv := by
  rw [own_nat h, own_z32]
  apply List.ext_getElem (by simp)
  intro i h1 h2
  rw [List.getElem_map, List.getElem_range, Nat.zero_add, List.getD_eq_getElem?_getD, List.getElem?_append_left h1, List.getElem?_eq_getElem h1]; rfl
theorem own_rng0 (ts : List Value) (dv : Value) (h : ts.length < 2 ^ 31) : ts = (List.range (Int32.ofNat ts.length).toNatClampNeg).map fun i => ts.getD ((0 : Int32).toNatClampNeg + i) dv := by
  have q := own_rngA ts [] dv h; rw [List.append_nil] at q; exact q
theorem own_padlen {bs : List Value} (h : bs.length ≤ 16) : (own_pad bs).length = 16 := by
  unfold own_pad; rw [List.length_append, List.length_replicate]; omega
theorem own_pad_cp {bs ts : List Value} (h : bs.length + ts.length ≤ 16) : (own_pad bs).take (Int32.ofNat bs.length).toNatClampNeg ++ ts ++ (own_pad bs).drop ((Int32.ofNat bs.length).toNatClampNeg + (Int32.ofNat ts.length).toNatClampNeg) = own_pad (bs ++ ts) := by
  rw [own_nat (by omega), own_nat (by omega)]
  have e : 16 - bs.length - ts.length = 16 - (bs.length + ts.length) := by omega
  simp [own_pad, List.take_append, List.drop_append, List.append_assoc, e]
theorem own_cp0 {bs : List Value} (h : bs.length < 16) : (List.replicate (Int32.ofNat bs.length).toNatClampNeg (Value.int 0)).take (0 : Int32).toNatClampNeg ++ bs ++ (List.replicate (Int32.ofNat bs.length).toNatClampNeg (Value.int 0)).drop ((0 : Int32).toNatClampNeg + (Int32.ofNat bs.length).toNatClampNeg) = bs := by
  rw [own_nat (by omega), own_z32]; simp
theorem own_le16 {m : Nat} (h : m ≤ 16) : ¬ (0 : Int32) < Int32.ofNat m - 16 := by
  have t : ∀ k : Fin 17, ¬ (0 : Int32) < Int32.ofNat k.val - 16 := by decide
  exact t ⟨m, by omega⟩
theorem own_ne16 {m : Nat} (h : m < 16) : ¬ Int32.ofNat m = (16 : Int32) := by
  have t : ∀ k : Fin 16, ¬ Int32.ofNat k.val = (16 : Int32) := by decide
  exact t ⟨m, h⟩
theorem own_lt16 {m : Nat} (h : m < 16) : Int32.ofNat m < (16 : Int32) := by
  have t : ∀ k : Fin 16, Int32.ofNat k.val < (16 : Int32) := by decide
  exact t ⟨m, h⟩
theorem own_sub0 (x : Int32) : x - (0 : Int32) = x := by apply Int32.toBitVec_inj.mp; simp
theorem own_shl0 (x : Int32) : x <<< ((0 : Int32) &&& 31) = x := by
  have e : ((0 : Int32) &&& 31) = 0 := rfl
  rw [e]; apply Int32.toBitVec_inj.mp; simp
theorem own_addN (a b : Nat) : Int32.ofNat a + Int32.ofNat b = Int32.ofNat (a + b) := by
  apply Int32.toBitVec_inj.mp
  show BitVec.ofNat 32 a + BitVec.ofNat 32 b = BitVec.ofNat 32 (a + b)
  rw [BitVec.ofNat_add]
theorem own_nar8 {z : Int32} (h : ¬ z < 0 ∧ ¬ (255 : Int32) < z) : nar .char z = z := own_narC h.1 (fun q => h.2 (by rw [Int32.lt_iff_toInt_lt] at q ⊢; have e1 : (65535 : Int32).toInt = 65535 := rfl; have e2 : (255 : Int32).toInt = 255 := rfl; omega))
def own_bs (cs : List Int32) : List Value := cs.map fun z => Value.int (StrChars.lo8 z)
theorem own_bs_len (cs : List Int32) : (own_bs cs).length = cs.length := List.length_map _
theorem own_bs_app (cs ds : List Int32) : own_bs cs ++ own_bs ds = own_bs (cs ++ ds) := (List.map_append ..).symm
theorem own_low_at {cs : List Int32} {i : Nat} (h : i < cs.length) : (own_bs cs).getD i (.int 0) = .int (StrChars.lo8 (cs.getD i 0)) := by
  rw [own_bs, List.getD_eq_getElem?_getD, List.getD_eq_getElem?_getD, List.getElem?_map, List.getElem?_eq_getElem h]; rfl
theorem own_c255 (x : Int32) : ¬ ((x &&& (255 : Int32)).toUInt32.toUInt16.toUInt32.toInt32) < 0 ∧ ¬ (255 : Int32) < ((x &&& (255 : Int32)).toUInt32.toUInt16.toUInt32.toInt32) := by
  have t : ∀ k : Fin 256, ¬ ((Int32.ofNat k.val).toUInt32.toUInt16.toUInt32.toInt32) < 0 ∧ ¬ (255 : Int32) < ((Int32.ofNat k.val).toUInt32.toUInt16.toUInt32.toInt32) := by decide +kernel
  have h : (x &&& 255).toBitVec.toNat < 256 := by
    simp only [Int32.toBitVec_and, BitVec.toNat_and]
    exact Nat.lt_succ_of_le Nat.and_le_right
  have e : (x &&& 255) = Int32.ofNat (x &&& 255).toBitVec.toNat := by
    apply Int32.toBitVec_inj.mp
    show _ = BitVec.ofNat 32 _
    rw [BitVec.ofNat_toNat]; simp
  rw [e]
  exact t ⟨_, h⟩
def own_tl (k c0 c1 c2 : Int32) : List Int32 := if k = 0 then [] else if k = (1 : Int32) then [c0] else if k = (2 : Int32) then [c0, c1] else [c0, c1, c2]
theorem own_tl_len (k c0 c1 c2 : Int32) : (own_tl k c0 c1 c2).length ≤ 3 := by
  rw [own_tl]; split <;> (try split) <;> (try split) <;> simp
theorem own_R_bs (A : List Int32) : (([] ++ [Value.int (58 : Int32)]) ++ own_bs A) = own_bs ((58 : Int32) :: A) := rfl

theorem w0 {Z : State} {a0 : Array Value} (hw : ∀ d ∈ tables_1, d.before a0 Z = true) : Jvm.Cond.before (Jvm.Cond.methodLink "com/example/kvasir/kvasir/jpql/InputParameterNamedPinLaw" (12 : Nat) ({ cls := "com/example/kvasir/kvasir/jpql/InputParameterNamedPinLaw", name := "text", desc := "(CCCI)Ljava/lang/String;" } : Jvm.MethodName)) a0 Z = true := hw _ (List.mem_of_getElem? (i := 0) rfl)
theorem w1 {Z : State} {a0 : Array Value} (hw : ∀ d ∈ tables_1, d.before a0 Z = true) : Jvm.Cond.before (Jvm.Cond.static ({ cls := "com/example/kvasir/kvasir/jpql/InputParameterNamedPinLaw", name := "text", desc := "(CCCI)Ljava/lang/String;" } : Jvm.MethodName)) a0 Z = true := hw _ (List.mem_of_getElem? (i := 1) rfl)
theorem w2 {Z : State} {a0 : Array Value} (hw : ∀ d ∈ tables_1, d.before a0 Z = true) : Jvm.Cond.before (Jvm.Cond.initialized "com/example/kvasir/kvasir/jpql/InputParameterNamedPinLaw") a0 Z = true := hw _ (List.mem_of_getElem? (i := 2) rfl)
theorem w3 {Z : State} {a0 : Array Value} (hw : ∀ d ∈ tables_1, d.before a0 Z = true) : Jvm.Cond.before (Jvm.Cond.code ({ cls := "com/example/kvasir/kvasir/jpql/InputParameterNamedPinLaw", name := "text", desc := "(CCCI)Ljava/lang/String;" } : Jvm.MethodName) method_2_code (4 : Nat) (Option.some (Jvm.ClassFile.FieldType.object "java/lang/String"))) a0 Z = true := hw _ (List.mem_of_getElem? (i := 3) rfl)
theorem w4 {Z : State} {a0 : Array Value} (hw : ∀ d ∈ tables_1, d.before a0 Z = true) : Jvm.Cond.before (Jvm.Cond.classLink "com/example/kvasir/kvasir/jpql/InputParameterNamedPinLaw" (7 : Nat) "java/lang/String") a0 Z = true := hw _ (List.mem_of_getElem? (i := 4) rfl)
theorem w5 {Z : State} {a0 : Array Value} (hw : ∀ d ∈ tables_1, d.before a0 Z = true) : Jvm.Cond.before (Jvm.Cond.instantiable "java/lang/String" (4 : Nat)) a0 Z = true := hw _ (List.mem_of_getElem? (i := 5) rfl)
theorem w6 {Z : State} {a0 : Array Value} (hw : ∀ d ∈ tables_1, d.before a0 Z = true) : Jvm.Cond.before (Jvm.Cond.initialized "java/lang/String") a0 Z = true := hw _ (List.mem_of_getElem? (i := 6) rfl)
theorem w7 {Z : State} {a0 : Array Value} (hw : ∀ d ∈ tables_1, d.before a0 Z = true) : Jvm.Cond.before (Jvm.Cond.arrayClass Jvm.ClassFile.FieldType.char) a0 Z = true := hw _ (List.mem_of_getElem? (i := 7) rfl)
theorem w8 {Z : State} {a0 : Array Value} (hw : ∀ d ∈ tables_1, d.before a0 Z = true) : Jvm.Cond.before (Jvm.Cond.methodLink "com/example/kvasir/kvasir/jpql/InputParameterNamedPinLaw" (9 : Nat) ({ cls := "java/lang/String", name := "<init>", desc := "([C)V" } : Jvm.MethodName)) a0 Z = true := hw _ (List.mem_of_getElem? (i := 8) rfl)
theorem w9 {Z : State} {a0 : Array Value} (hw : ∀ d ∈ tables_1, d.before a0 Z = true) : Jvm.Cond.before (Jvm.Cond.instanceMethod ({ cls := "java/lang/String", name := "<init>", desc := "([C)V" } : Jvm.MethodName)) a0 Z = true := hw _ (List.mem_of_getElem? (i := 9) rfl)
theorem w10 {Z : State} {a0 : Array Value} (hw : ∀ d ∈ tables_1, d.before a0 Z = true) : Jvm.Cond.before (Jvm.Cond.code ({ cls := "java/lang/String", name := "<init>", desc := "([C)V" } : Jvm.MethodName) jdk_42_method_3_code (2 : Nat) (Option.none : Option Jvm.ClassFile.FieldType)) a0 Z = true := hw _ (List.mem_of_getElem? (i := 10) rfl)
theorem w11 {Z : State} {a0 : Array Value} (hw : ∀ d ∈ tables_1, d.before a0 Z = true) : Jvm.Cond.before (Jvm.Cond.methodLink "java/lang/String" (27 : Nat) ({ cls := "java/lang/String", name := "<init>", desc := "([CIILjava/lang/Void;)V" } : Jvm.MethodName)) a0 Z = true := hw _ (List.mem_of_getElem? (i := 11) rfl)
theorem w12 {Z : State} {a0 : Array Value} (hw : ∀ d ∈ tables_1, d.before a0 Z = true) : Jvm.Cond.before (Jvm.Cond.instanceMethod ({ cls := "java/lang/String", name := "<init>", desc := "([CIILjava/lang/Void;)V" } : Jvm.MethodName)) a0 Z = true := hw _ (List.mem_of_getElem? (i := 12) rfl)
theorem w14 {Z : State} {a0 : Array Value} (hw : ∀ d ∈ tables_1, d.before a0 Z = true) : Jvm.Cond.before (Jvm.Cond.code ({ cls := "java/lang/String", name := "<init>", desc := "([CIILjava/lang/Void;)V" } : Jvm.MethodName) jdk_42_method_149_code (6 : Nat) (Option.none : Option Jvm.ClassFile.FieldType)) a0 Z = true := hw _ (List.mem_of_getElem? (i := 14) rfl)
theorem w15 {Z : State} {a0 : Array Value} (hw : ∀ d ∈ tables_1, d.before a0 Z = true) : Jvm.Cond.before (Jvm.Cond.methodLink "java/lang/String" (1 : Nat) ({ cls := "java/lang/Object", name := "<init>", desc := "()V" } : Jvm.MethodName)) a0 Z = true := hw _ (List.mem_of_getElem? (i := 15) rfl)
theorem w16 {Z : State} {a0 : Array Value} (hw : ∀ d ∈ tables_1, d.before a0 Z = true) : Jvm.Cond.before (Jvm.Cond.instanceMethod ({ cls := "java/lang/Object", name := "<init>", desc := "()V" } : Jvm.MethodName)) a0 Z = true := hw _ (List.mem_of_getElem? (i := 16) rfl)
theorem w17 {Z : State} {a0 : Array Value} (hw : ∀ d ∈ tables_1, d.before a0 Z = true) : Jvm.Cond.before (Jvm.Cond.code ({ cls := "java/lang/Object", name := "<init>", desc := "()V" } : Jvm.MethodName) object_method_1_code (1 : Nat) (Option.none : Option Jvm.ClassFile.FieldType)) a0 Z = true := hw _ (List.mem_of_getElem? (i := 17) rfl)
theorem w18 {Z : State} {a0 : Array Value} (hw : ∀ d ∈ tables_1, d.before a0 Z = true) : Jvm.Cond.before (Jvm.Cond.stringLink "java/lang/String" (7 : Nat) "") a0 Z = true := hw _ (List.mem_of_getElem? (i := 18) rfl)
theorem w19 {Z : State} {a0 : Array Value} (hw : ∀ d ∈ tables_1, d.before a0 Z = true) : Jvm.Cond.before (Jvm.Cond.arrayClass Jvm.ClassFile.FieldType.byte) a0 Z = true := hw _ (List.mem_of_getElem? (i := 19) rfl)
theorem w20 {Z : State} {a0 : Array Value} (hw : ∀ d ∈ tables_1, d.before a0 Z = true) : Jvm.Cond.before (Jvm.Cond.laysFinal "java/lang/String" "java/lang/String" "value" "[B") a0 Z = true := hw _ (List.mem_of_getElem? (i := 20) rfl)
theorem w21 {Z : State} {a0 : Array Value} (hw : ∀ d ∈ tables_1, d.before a0 Z = true) : Jvm.Cond.before (Jvm.Cond.laysFinal "java/lang/String" "java/lang/String" "coder" "B") a0 Z = true := hw _ (List.mem_of_getElem? (i := 21) rfl)
theorem w24 {Z : State} {a0 : Array Value} (hw : ∀ d ∈ tables_1, d.before a0 Z = true) : Jvm.Cond.before (Jvm.Cond.fieldLink "java/lang/String" (9 : Nat) "java/lang/String" "value" "[B") a0 Z = true := hw _ (List.mem_of_getElem? (i := 24) rfl)
theorem w25 {Z : State} {a0 : Array Value} (hw : ∀ d ∈ tables_1, d.before a0 Z = true) : Jvm.Cond.before (Jvm.Cond.fieldLink "java/lang/String" (15 : Nat) "java/lang/String" "coder" "B") a0 Z = true := hw _ (List.mem_of_getElem? (i := 25) rfl)
theorem w26 {Z : State} {a0 : Array Value} (hw : ∀ d ∈ tables_1, d.before a0 Z = true) : Jvm.Cond.before (Jvm.Cond.methodLink "com/example/kvasir/kvasir/jpql/InputParameterNamedPinLaw" (18 : Nat) ({ cls := "com/example/kvasir/kvasir/jpql/InputParameterNamedPinLaw", name := "colonText", desc := "(CCCI)Ljava/lang/String;" } : Jvm.MethodName)) a0 Z = true := hw _ (List.mem_of_getElem? (i := 26) rfl)
theorem w27 {Z : State} {a0 : Array Value} (hw : ∀ d ∈ tables_1, d.before a0 Z = true) : Jvm.Cond.before (Jvm.Cond.static ({ cls := "com/example/kvasir/kvasir/jpql/InputParameterNamedPinLaw", name := "colonText", desc := "(CCCI)Ljava/lang/String;" } : Jvm.MethodName)) a0 Z = true := hw _ (List.mem_of_getElem? (i := 27) rfl)
theorem w28 {Z : State} {a0 : Array Value} (hw : ∀ d ∈ tables_1, d.before a0 Z = true) : Jvm.Cond.before (Jvm.Cond.code ({ cls := "com/example/kvasir/kvasir/jpql/InputParameterNamedPinLaw", name := "colonText", desc := "(CCCI)Ljava/lang/String;" } : Jvm.MethodName) method_3_code (4 : Nat) (Option.some (Jvm.ClassFile.FieldType.object "java/lang/String"))) a0 Z = true := hw _ (List.mem_of_getElem? (i := 28) rfl)
theorem w29 {Z : State} {a0 : Array Value} (hw : ∀ d ∈ tables_1, d.before a0 Z = true) : Jvm.Cond.before (Jvm.Cond.fieldLink "java/lang/String" (38 : Nat) "java/lang/String" "COMPACT_STRINGS" "Z") a0 Z = true := hw _ (List.mem_of_getElem? (i := 29) rfl)
theorem w40 {Z : State} {a0 : Array Value} (hw : ∀ d ∈ tables_1, d.before a0 Z = true) : Jvm.Cond.before (Jvm.Cond.classLink "com/example/kvasir/kvasir/jpql/InputParameterNamedPinLaw" (21 : Nat) "com/example/kvasir/kvasir/jpql/Position") a0 Z = true := hw _ (List.mem_of_getElem? (i := 40) rfl)
theorem w41 {Z : State} {a0 : Array Value} (hw : ∀ d ∈ tables_1, d.before a0 Z = true) : Jvm.Cond.before (Jvm.Cond.instantiable "com/example/kvasir/kvasir/jpql/Position" (2 : Nat)) a0 Z = true := hw _ (List.mem_of_getElem? (i := 41) rfl)
theorem w42 {Z : State} {a0 : Array Value} (hw : ∀ d ∈ tables_1, d.before a0 Z = true) : Jvm.Cond.before (Jvm.Cond.initialized "com/example/kvasir/kvasir/jpql/Position") a0 Z = true := hw _ (List.mem_of_getElem? (i := 42) rfl)
theorem w43 {Z : State} {a0 : Array Value} (hw : ∀ d ∈ tables_1, d.before a0 Z = true) : Jvm.Cond.before (Jvm.Cond.methodLink "com/example/kvasir/kvasir/jpql/InputParameterNamedPinLaw" (23 : Nat) ({ cls := "com/example/kvasir/kvasir/jpql/Position", name := "<init>", desc := "(II)V" } : Jvm.MethodName)) a0 Z = true := hw _ (List.mem_of_getElem? (i := 43) rfl)
theorem w44 {Z : State} {a0 : Array Value} (hw : ∀ d ∈ tables_1, d.before a0 Z = true) : Jvm.Cond.before (Jvm.Cond.instanceMethod ({ cls := "com/example/kvasir/kvasir/jpql/Position", name := "<init>", desc := "(II)V" } : Jvm.MethodName)) a0 Z = true := hw _ (List.mem_of_getElem? (i := 44) rfl)
theorem w45 {Z : State} {a0 : Array Value} (hw : ∀ d ∈ tables_1, d.before a0 Z = true) : Jvm.Cond.before (Jvm.Cond.code ({ cls := "com/example/kvasir/kvasir/jpql/Position", name := "<init>", desc := "(II)V" } : Jvm.MethodName) prog_61_method_1_code (3 : Nat) (Option.none : Option Jvm.ClassFile.FieldType)) a0 Z = true := hw _ (List.mem_of_getElem? (i := 45) rfl)
theorem w46 {Z : State} {a0 : Array Value} (hw : ∀ d ∈ tables_1, d.before a0 Z = true) : Jvm.Cond.before (Jvm.Cond.methodLink "com/example/kvasir/kvasir/jpql/Position" (1 : Nat) ({ cls := "java/lang/Object", name := "<init>", desc := "()V" } : Jvm.MethodName)) a0 Z = true := hw _ (List.mem_of_getElem? (i := 46) rfl)
theorem w47 {Z : State} {a0 : Array Value} (hw : ∀ d ∈ tables_1, d.before a0 Z = true) : Jvm.Cond.before (Jvm.Cond.fieldLink "com/example/kvasir/kvasir/jpql/Position" (7 : Nat) "com/example/kvasir/kvasir/jpql/Position" "line" "I") a0 Z = true := hw _ (List.mem_of_getElem? (i := 47) rfl)
theorem w48 {Z : State} {a0 : Array Value} (hw : ∀ d ∈ tables_1, d.before a0 Z = true) : Jvm.Cond.before (Jvm.Cond.laysFinal "com/example/kvasir/kvasir/jpql/Position" "com/example/kvasir/kvasir/jpql/Position" "line" "I") a0 Z = true := hw _ (List.mem_of_getElem? (i := 48) rfl)
theorem w49 {Z : State} {a0 : Array Value} (hw : ∀ d ∈ tables_1, d.before a0 Z = true) : Jvm.Cond.before (Jvm.Cond.fieldLink "com/example/kvasir/kvasir/jpql/Position" (13 : Nat) "com/example/kvasir/kvasir/jpql/Position" "column" "I") a0 Z = true := hw _ (List.mem_of_getElem? (i := 49) rfl)
theorem w50 {Z : State} {a0 : Array Value} (hw : ∀ d ∈ tables_1, d.before a0 Z = true) : Jvm.Cond.before (Jvm.Cond.laysFinal "com/example/kvasir/kvasir/jpql/Position" "com/example/kvasir/kvasir/jpql/Position" "column" "I") a0 Z = true := hw _ (List.mem_of_getElem? (i := 50) rfl)
theorem w51 {Z : State} {a0 : Array Value} (hw : ∀ d ∈ tables_1, d.before a0 Z = true) : Jvm.Cond.before (Jvm.Cond.methodLink "com/example/kvasir/kvasir/jpql/InputParameterNamedPinLaw" (26 : Nat) ({ cls := "com/example/kvasir/kvasir/jpql/InputParameter", name := "named", desc := "(Ljava/lang/String;ZLcom/example/kvasir/kvasir/jpql/Position;)Lcom/example/kvasir/kvasir/jpql/InputParameter;" } : Jvm.MethodName)) a0 Z = true := hw _ (List.mem_of_getElem? (i := 51) rfl)
theorem w52 {Z : State} {a0 : Array Value} (hw : ∀ d ∈ tables_1, d.before a0 Z = true) : Jvm.Cond.before (Jvm.Cond.static ({ cls := "com/example/kvasir/kvasir/jpql/InputParameter", name := "named", desc := "(Ljava/lang/String;ZLcom/example/kvasir/kvasir/jpql/Position;)Lcom/example/kvasir/kvasir/jpql/InputParameter;" } : Jvm.MethodName)) a0 Z = true := hw _ (List.mem_of_getElem? (i := 52) rfl)
theorem w53 {Z : State} {a0 : Array Value} (hw : ∀ d ∈ tables_1, d.before a0 Z = true) : Jvm.Cond.before (Jvm.Cond.initialized "com/example/kvasir/kvasir/jpql/InputParameter") a0 Z = true := hw _ (List.mem_of_getElem? (i := 53) rfl)
theorem w54 {Z : State} {a0 : Array Value} (hw : ∀ d ∈ tables_1, d.before a0 Z = true) : Jvm.Cond.before (Jvm.Cond.code ({ cls := "com/example/kvasir/kvasir/jpql/InputParameter", name := "named", desc := "(Ljava/lang/String;ZLcom/example/kvasir/kvasir/jpql/Position;)Lcom/example/kvasir/kvasir/jpql/InputParameter;" } : Jvm.MethodName) prog_39_method_2_code (3 : Nat) (Option.some (Jvm.ClassFile.FieldType.object "com/example/kvasir/kvasir/jpql/InputParameter"))) a0 Z = true := hw _ (List.mem_of_getElem? (i := 54) rfl)
theorem w55 {Z : State} {a0 : Array Value} (hw : ∀ d ∈ tables_1, d.before a0 Z = true) : Jvm.Cond.before (Jvm.Cond.classLink "com/example/kvasir/kvasir/jpql/InputParameter" (8 : Nat) "com/example/kvasir/kvasir/jpql/InputParameter") a0 Z = true := hw _ (List.mem_of_getElem? (i := 55) rfl)
theorem w56 {Z : State} {a0 : Array Value} (hw : ∀ d ∈ tables_1, d.before a0 Z = true) : Jvm.Cond.before (Jvm.Cond.instantiable "com/example/kvasir/kvasir/jpql/InputParameter" (9 : Nat)) a0 Z = true := hw _ (List.mem_of_getElem? (i := 56) rfl)
theorem w57 {Z : State} {a0 : Array Value} (hw : ∀ d ∈ tables_1, d.before a0 Z = true) : Jvm.Cond.before (Jvm.Cond.methodLink "com/example/kvasir/kvasir/jpql/InputParameter" (21 : Nat) ({ cls := "com/example/kvasir/kvasir/jpql/InputParameter", name := "<init>", desc := "(Ljava/lang/String;IZLcom/example/kvasir/kvasir/jpql/Position;)V" } : Jvm.MethodName)) a0 Z = true := hw _ (List.mem_of_getElem? (i := 57) rfl)
theorem w58 {Z : State} {a0 : Array Value} (hw : ∀ d ∈ tables_1, d.before a0 Z = true) : Jvm.Cond.before (Jvm.Cond.instanceMethod ({ cls := "com/example/kvasir/kvasir/jpql/InputParameter", name := "<init>", desc := "(Ljava/lang/String;IZLcom/example/kvasir/kvasir/jpql/Position;)V" } : Jvm.MethodName)) a0 Z = true := hw _ (List.mem_of_getElem? (i := 58) rfl)
theorem w59 {Z : State} {a0 : Array Value} (hw : ∀ d ∈ tables_1, d.before a0 Z = true) : Jvm.Cond.before (Jvm.Cond.code ({ cls := "com/example/kvasir/kvasir/jpql/InputParameter", name := "<init>", desc := "(Ljava/lang/String;IZLcom/example/kvasir/kvasir/jpql/Position;)V" } : Jvm.MethodName) prog_39_method_1_code (5 : Nat) (Option.none : Option Jvm.ClassFile.FieldType)) a0 Z = true := hw _ (List.mem_of_getElem? (i := 59) rfl)
theorem w60 {Z : State} {a0 : Array Value} (hw : ∀ d ∈ tables_1, d.before a0 Z = true) : Jvm.Cond.before (Jvm.Cond.methodLink "com/example/kvasir/kvasir/jpql/InputParameter" (1 : Nat) ({ cls := "com/example/kvasir/kvasir/jpql/Expression", name := "<init>", desc := "(Lcom/example/kvasir/kvasir/jpql/Position;)V" } : Jvm.MethodName)) a0 Z = true := hw _ (List.mem_of_getElem? (i := 60) rfl)
theorem w61 {Z : State} {a0 : Array Value} (hw : ∀ d ∈ tables_1, d.before a0 Z = true) : Jvm.Cond.before (Jvm.Cond.instanceMethod ({ cls := "com/example/kvasir/kvasir/jpql/Expression", name := "<init>", desc := "(Lcom/example/kvasir/kvasir/jpql/Position;)V" } : Jvm.MethodName)) a0 Z = true := hw _ (List.mem_of_getElem? (i := 61) rfl)
theorem w63 {Z : State} {a0 : Array Value} (hw : ∀ d ∈ tables_1, d.before a0 Z = true) : Jvm.Cond.before (Jvm.Cond.initialized "com/example/kvasir/kvasir/jpql/Expression") a0 Z = true := hw _ (List.mem_of_getElem? (i := 63) rfl)
theorem w64 {Z : State} {a0 : Array Value} (hw : ∀ d ∈ tables_1, d.before a0 Z = true) : Jvm.Cond.before (Jvm.Cond.code ({ cls := "com/example/kvasir/kvasir/jpql/Expression", name := "<init>", desc := "(Lcom/example/kvasir/kvasir/jpql/Position;)V" } : Jvm.MethodName) prog_31_method_1_code (2 : Nat) (Option.none : Option Jvm.ClassFile.FieldType)) a0 Z = true := hw _ (List.mem_of_getElem? (i := 64) rfl)
theorem w65 {Z : State} {a0 : Array Value} (hw : ∀ d ∈ tables_1, d.before a0 Z = true) : Jvm.Cond.before (Jvm.Cond.methodLink "com/example/kvasir/kvasir/jpql/Expression" (1 : Nat) ({ cls := "java/lang/Object", name := "<init>", desc := "()V" } : Jvm.MethodName)) a0 Z = true := hw _ (List.mem_of_getElem? (i := 65) rfl)
theorem w66 {Z : State} {a0 : Array Value} (hw : ∀ d ∈ tables_1, d.before a0 Z = true) : Jvm.Cond.before (Jvm.Cond.fieldLink "com/example/kvasir/kvasir/jpql/Expression" (7 : Nat) "com/example/kvasir/kvasir/jpql/Expression" "position" "Lcom/example/kvasir/kvasir/jpql/Position;") a0 Z = true := hw _ (List.mem_of_getElem? (i := 66) rfl)
theorem w67 {Z : State} {a0 : Array Value} (hw : ∀ d ∈ tables_1, d.before a0 Z = true) : Jvm.Cond.before (Jvm.Cond.lays "com/example/kvasir/kvasir/jpql/InputParameter" "com/example/kvasir/kvasir/jpql/Expression" "position" "Lcom/example/kvasir/kvasir/jpql/Position;") a0 Z = true := hw _ (List.mem_of_getElem? (i := 67) rfl)
theorem w68 {Z : State} {a0 : Array Value} (hw : ∀ d ∈ tables_1, d.before a0 Z = true) : Jvm.Cond.before (Jvm.Cond.fieldLink "com/example/kvasir/kvasir/jpql/InputParameter" (7 : Nat) "com/example/kvasir/kvasir/jpql/InputParameter" "name" "Ljava/lang/String;") a0 Z = true := hw _ (List.mem_of_getElem? (i := 68) rfl)
theorem w69 {Z : State} {a0 : Array Value} (hw : ∀ d ∈ tables_1, d.before a0 Z = true) : Jvm.Cond.before (Jvm.Cond.laysFinal "com/example/kvasir/kvasir/jpql/InputParameter" "com/example/kvasir/kvasir/jpql/InputParameter" "name" "Ljava/lang/String;") a0 Z = true := hw _ (List.mem_of_getElem? (i := 69) rfl)
theorem w70 {Z : State} {a0 : Array Value} (hw : ∀ d ∈ tables_1, d.before a0 Z = true) : Jvm.Cond.before (Jvm.Cond.fieldLink "com/example/kvasir/kvasir/jpql/InputParameter" (13 : Nat) "com/example/kvasir/kvasir/jpql/InputParameter" "number" "I") a0 Z = true := hw _ (List.mem_of_getElem? (i := 70) rfl)
theorem w71 {Z : State} {a0 : Array Value} (hw : ∀ d ∈ tables_1, d.before a0 Z = true) : Jvm.Cond.before (Jvm.Cond.laysFinal "com/example/kvasir/kvasir/jpql/InputParameter" "com/example/kvasir/kvasir/jpql/InputParameter" "number" "I") a0 Z = true := hw _ (List.mem_of_getElem? (i := 71) rfl)
theorem w72 {Z : State} {a0 : Array Value} (hw : ∀ d ∈ tables_1, d.before a0 Z = true) : Jvm.Cond.before (Jvm.Cond.fieldLink "com/example/kvasir/kvasir/jpql/InputParameter" (17 : Nat) "com/example/kvasir/kvasir/jpql/InputParameter" "collectionValued" "Z") a0 Z = true := hw _ (List.mem_of_getElem? (i := 72) rfl)
theorem w73 {Z : State} {a0 : Array Value} (hw : ∀ d ∈ tables_1, d.before a0 Z = true) : Jvm.Cond.before (Jvm.Cond.laysFinal "com/example/kvasir/kvasir/jpql/InputParameter" "com/example/kvasir/kvasir/jpql/InputParameter" "collectionValued" "Z") a0 Z = true := hw _ (List.mem_of_getElem? (i := 73) rfl)
theorem w74 {Z : State} {a0 : Array Value} (hw : ∀ d ∈ tables_1, d.before a0 Z = true) : Jvm.Cond.before (Jvm.Cond.methodLink "com/example/kvasir/kvasir/jpql/InputParameterNamedPinLaw" (32 : Nat) ({ cls := "com/example/kvasir/kvasir/jpql/InputParameter", name := "getName", desc := "()Ljava/lang/String;" } : Jvm.MethodName)) a0 Z = true := hw _ (List.mem_of_getElem? (i := 74) rfl)
theorem w75 {Z : State} {a0 : Array Value} (hw : ∀ d ∈ tables_1, d.before a0 Z = true) : Jvm.Cond.before (Jvm.Cond.declares ({ cls := "com/example/kvasir/kvasir/jpql/InputParameter", name := "getName", desc := "()Ljava/lang/String;" } : Jvm.MethodName)) a0 Z = true := hw _ (List.mem_of_getElem? (i := 75) rfl)
theorem w76 {Z : State} {a0 : Array Value} (hw : ∀ d ∈ tables_1, d.before a0 Z = true) : Jvm.Cond.before (Jvm.Cond.instanceMethod ({ cls := "com/example/kvasir/kvasir/jpql/InputParameter", name := "getName", desc := "()Ljava/lang/String;" } : Jvm.MethodName)) a0 Z = true := hw _ (List.mem_of_getElem? (i := 76) rfl)
theorem w77 {Z : State} {a0 : Array Value} (hw : ∀ d ∈ tables_1, d.before a0 Z = true) : Jvm.Cond.before (Jvm.Cond.selects "com/example/kvasir/kvasir/jpql/InputParameter" ({ cls := "com/example/kvasir/kvasir/jpql/InputParameter", name := "getName", desc := "()Ljava/lang/String;" } : Jvm.MethodName) ({ cls := "com/example/kvasir/kvasir/jpql/InputParameter", name := "getName", desc := "()Ljava/lang/String;" } : Jvm.MethodName)) a0 Z = true := hw _ (List.mem_of_getElem? (i := 77) rfl)
theorem w78 {Z : State} {a0 : Array Value} (hw : ∀ d ∈ tables_1, d.before a0 Z = true) : Jvm.Cond.before (Jvm.Cond.code ({ cls := "com/example/kvasir/kvasir/jpql/InputParameter", name := "getName", desc := "()Ljava/lang/String;" } : Jvm.MethodName) prog_39_method_4_code (1 : Nat) (Option.some (Jvm.ClassFile.FieldType.object "java/lang/String"))) a0 Z = true := hw _ (List.mem_of_getElem? (i := 78) rfl)
theorem w79 {Z : State} {a0 : Array Value} (hw : ∀ d ∈ tables_1, d.before a0 Z = true) : Jvm.Cond.before (Jvm.Cond.methodLink "com/example/kvasir/kvasir/jpql/InputParameterNamedPinLaw" (36 : Nat) ({ cls := "com/example/kvasir/kvasir/jpql/InputParameter", name := "toString", desc := "()Ljava/lang/String;" } : Jvm.MethodName)) a0 Z = true := hw _ (List.mem_of_getElem? (i := 79) rfl)
theorem w80 {Z : State} {a0 : Array Value} (hw : ∀ d ∈ tables_1, d.before a0 Z = true) : Jvm.Cond.before (Jvm.Cond.declares ({ cls := "com/example/kvasir/kvasir/jpql/InputParameter", name := "toString", desc := "()Ljava/lang/String;" } : Jvm.MethodName)) a0 Z = true := hw _ (List.mem_of_getElem? (i := 80) rfl)
theorem w81 {Z : State} {a0 : Array Value} (hw : ∀ d ∈ tables_1, d.before a0 Z = true) : Jvm.Cond.before (Jvm.Cond.instanceMethod ({ cls := "com/example/kvasir/kvasir/jpql/InputParameter", name := "toString", desc := "()Ljava/lang/String;" } : Jvm.MethodName)) a0 Z = true := hw _ (List.mem_of_getElem? (i := 81) rfl)
theorem w82 {Z : State} {a0 : Array Value} (hw : ∀ d ∈ tables_1, d.before a0 Z = true) : Jvm.Cond.before (Jvm.Cond.selects "com/example/kvasir/kvasir/jpql/InputParameter" ({ cls := "com/example/kvasir/kvasir/jpql/InputParameter", name := "toString", desc := "()Ljava/lang/String;" } : Jvm.MethodName) ({ cls := "com/example/kvasir/kvasir/jpql/InputParameter", name := "toString", desc := "()Ljava/lang/String;" } : Jvm.MethodName)) a0 Z = true := hw _ (List.mem_of_getElem? (i := 82) rfl)
theorem w83 {Z : State} {a0 : Array Value} (hw : ∀ d ∈ tables_1, d.before a0 Z = true) : Jvm.Cond.before (Jvm.Cond.code ({ cls := "com/example/kvasir/kvasir/jpql/InputParameter", name := "toString", desc := "()Ljava/lang/String;" } : Jvm.MethodName) prog_39_method_13_code (1 : Nat) (Option.some (Jvm.ClassFile.FieldType.object "java/lang/String"))) a0 Z = true := hw _ (List.mem_of_getElem? (i := 83) rfl)
theorem w84 {Z : State} {a0 : Array Value} (hw : ∀ d ∈ tables_1, d.before a0 Z = true) : Jvm.Cond.before (Jvm.Cond.classLink "com/example/kvasir/kvasir/jpql/InputParameter" (105 : Nat) "java/lang/StringBuilder") a0 Z = true := hw _ (List.mem_of_getElem? (i := 84) rfl)
theorem w85 {Z : State} {a0 : Array Value} (hw : ∀ d ∈ tables_1, d.before a0 Z = true) : Jvm.Cond.before (Jvm.Cond.instantiable "java/lang/StringBuilder" (4 : Nat)) a0 Z = true := hw _ (List.mem_of_getElem? (i := 85) rfl)
theorem w86 {Z : State} {a0 : Array Value} (hw : ∀ d ∈ tables_1, d.before a0 Z = true) : Jvm.Cond.before (Jvm.Cond.initialized "java/lang/StringBuilder") a0 Z = true := hw _ (List.mem_of_getElem? (i := 86) rfl)
theorem w87 {Z : State} {a0 : Array Value} (hw : ∀ d ∈ tables_1, d.before a0 Z = true) : Jvm.Cond.before (Jvm.Cond.methodLink "com/example/kvasir/kvasir/jpql/InputParameter" (107 : Nat) ({ cls := "java/lang/StringBuilder", name := "<init>", desc := "()V" } : Jvm.MethodName)) a0 Z = true := hw _ (List.mem_of_getElem? (i := 87) rfl)
theorem w88 {Z : State} {a0 : Array Value} (hw : ∀ d ∈ tables_1, d.before a0 Z = true) : Jvm.Cond.before (Jvm.Cond.instanceMethod ({ cls := "java/lang/StringBuilder", name := "<init>", desc := "()V" } : Jvm.MethodName)) a0 Z = true := hw _ (List.mem_of_getElem? (i := 88) rfl)
theorem w89 {Z : State} {a0 : Array Value} (hw : ∀ d ∈ tables_1, d.before a0 Z = true) : Jvm.Cond.before (Jvm.Cond.code ({ cls := "java/lang/StringBuilder", name := "<init>", desc := "()V" } : Jvm.MethodName) jdk_67_method_1_code (1 : Nat) (Option.none : Option Jvm.ClassFile.FieldType)) a0 Z = true := hw _ (List.mem_of_getElem? (i := 89) rfl)
theorem w90 {Z : State} {a0 : Array Value} (hw : ∀ d ∈ tables_1, d.before a0 Z = true) : Jvm.Cond.before (Jvm.Cond.methodLink "java/lang/StringBuilder" (1 : Nat) ({ cls := "java/lang/AbstractStringBuilder", name := "<init>", desc := "(I)V" } : Jvm.MethodName)) a0 Z = true := hw _ (List.mem_of_getElem? (i := 90) rfl)
theorem w91 {Z : State} {a0 : Array Value} (hw : ∀ d ∈ tables_1, d.before a0 Z = true) : Jvm.Cond.before (Jvm.Cond.instanceMethod ({ cls := "java/lang/AbstractStringBuilder", name := "<init>", desc := "(I)V" } : Jvm.MethodName)) a0 Z = true := hw _ (List.mem_of_getElem? (i := 91) rfl)
theorem w94 {Z : State} {a0 : Array Value} (hw : ∀ d ∈ tables_1, d.before a0 Z = true) : Jvm.Cond.before (Jvm.Cond.initialized "java/lang/AbstractStringBuilder") a0 Z = true := hw _ (List.mem_of_getElem? (i := 94) rfl)
theorem w95 {Z : State} {a0 : Array Value} (hw : ∀ d ∈ tables_1, d.before a0 Z = true) : Jvm.Cond.before (Jvm.Cond.code ({ cls := "java/lang/AbstractStringBuilder", name := "<init>", desc := "(I)V" } : Jvm.MethodName) jdk_68_method_2_code (2 : Nat) (Option.none : Option Jvm.ClassFile.FieldType)) a0 Z = true := hw _ (List.mem_of_getElem? (i := 95) rfl)
theorem w96 {Z : State} {a0 : Array Value} (hw : ∀ d ∈ tables_1, d.before a0 Z = true) : Jvm.Cond.before (Jvm.Cond.methodLink "java/lang/AbstractStringBuilder" (3 : Nat) ({ cls := "java/lang/Object", name := "<init>", desc := "()V" } : Jvm.MethodName)) a0 Z = true := hw _ (List.mem_of_getElem? (i := 96) rfl)
theorem w97 {Z : State} {a0 : Array Value} (hw : ∀ d ∈ tables_1, d.before a0 Z = true) : Jvm.Cond.before (Jvm.Cond.fieldLink "java/lang/AbstractStringBuilder" (18 : Nat) "java/lang/String" "COMPACT_STRINGS" "Z") a0 Z = true := hw _ (List.mem_of_getElem? (i := 97) rfl)
theorem w98 {Z : State} {a0 : Array Value} (hw : ∀ d ∈ tables_1, d.before a0 Z = true) : Jvm.Cond.before (Jvm.Cond.fieldLink "java/lang/AbstractStringBuilder" (15 : Nat) "java/lang/AbstractStringBuilder" "value" "[B") a0 Z = true := hw _ (List.mem_of_getElem? (i := 98) rfl)
theorem w99 {Z : State} {a0 : Array Value} (hw : ∀ d ∈ tables_1, d.before a0 Z = true) : Jvm.Cond.before (Jvm.Cond.lays "java/lang/StringBuilder" "java/lang/AbstractStringBuilder" "value" "[B") a0 Z = true := hw _ (List.mem_of_getElem? (i := 99) rfl)
theorem w100 {Z : State} {a0 : Array Value} (hw : ∀ d ∈ tables_1, d.before a0 Z = true) : Jvm.Cond.before (Jvm.Cond.fieldLink "java/lang/AbstractStringBuilder" (22 : Nat) "java/lang/AbstractStringBuilder" "coder" "B") a0 Z = true := hw _ (List.mem_of_getElem? (i := 100) rfl)
theorem w101 {Z : State} {a0 : Array Value} (hw : ∀ d ∈ tables_1, d.before a0 Z = true) : Jvm.Cond.before (Jvm.Cond.lays "java/lang/StringBuilder" "java/lang/AbstractStringBuilder" "coder" "B") a0 Z = true := hw _ (List.mem_of_getElem? (i := 101) rfl)
theorem w102 {Z : State} {a0 : Array Value} (hw : ∀ d ∈ tables_1, d.before a0 Z = true) : Jvm.Cond.before (Jvm.Cond.stringLink "com/example/kvasir/kvasir/jpql/InputParameter" (129 : Nat) ":") a0 Z = true := hw _ (List.mem_of_getElem? (i := 102) rfl)
theorem w103 {Z : State} {a0 : Array Value} (hw : ∀ d ∈ tables_1, d.before a0 Z = true) : Jvm.Cond.before (Jvm.Cond.methodLink "com/example/kvasir/kvasir/jpql/InputParameter" (108 : Nat) ({ cls := "java/lang/StringBuilder", name := "append", desc := "(Ljava/lang/String;)Ljava/lang/StringBuilder;" } : Jvm.MethodName)) a0 Z = true := hw _ (List.mem_of_getElem? (i := 103) rfl)
theorem w104 {Z : State} {a0 : Array Value} (hw : ∀ d ∈ tables_1, d.before a0 Z = true) : Jvm.Cond.before (Jvm.Cond.declares ({ cls := "java/lang/StringBuilder", name := "append", desc := "(Ljava/lang/String;)Ljava/lang/StringBuilder;" } : Jvm.MethodName)) a0 Z = true := hw _ (List.mem_of_getElem? (i := 104) rfl)
theorem w105 {Z : State} {a0 : Array Value} (hw : ∀ d ∈ tables_1, d.before a0 Z = true) : Jvm.Cond.before (Jvm.Cond.instanceMethod ({ cls := "java/lang/StringBuilder", name := "append", desc := "(Ljava/lang/String;)Ljava/lang/StringBuilder;" } : Jvm.MethodName)) a0 Z = true := hw _ (List.mem_of_getElem? (i := 105) rfl)
theorem w106 {Z : State} {a0 : Array Value} (hw : ∀ d ∈ tables_1, d.before a0 Z = true) : Jvm.Cond.before (Jvm.Cond.selects "java/lang/StringBuilder" ({ cls := "java/lang/StringBuilder", name := "append", desc := "(Ljava/lang/String;)Ljava/lang/StringBuilder;" } : Jvm.MethodName) ({ cls := "java/lang/StringBuilder", name := "append", desc := "(Ljava/lang/String;)Ljava/lang/StringBuilder;" } : Jvm.MethodName)) a0 Z = true := hw _ (List.mem_of_getElem? (i := 106) rfl)
theorem w107 {Z : State} {a0 : Array Value} (hw : ∀ d ∈ tables_1, d.before a0 Z = true) : Jvm.Cond.before (Jvm.Cond.code ({ cls := "java/lang/StringBuilder", name := "append", desc := "(Ljava/lang/String;)Ljava/lang/StringBuilder;" } : Jvm.MethodName) jdk_67_method_7_code (2 : Nat) (Option.some (Jvm.ClassFile.FieldType.object "java/lang/StringBuilder"))) a0 Z = true := hw _ (List.mem_of_getElem? (i := 107) rfl)
theorem w108 {Z : State} {a0 : Array Value} (hw : ∀ d ∈ tables_1, d.before a0 Z = true) : Jvm.Cond.before (Jvm.Cond.methodLink "java/lang/StringBuilder" (29 : Nat) ({ cls := "java/lang/AbstractStringBuilder", name := "append", desc := "(Ljava/lang/String;)Ljava/lang/AbstractStringBuilder;" } : Jvm.MethodName)) a0 Z = true := hw _ (List.mem_of_getElem? (i := 108) rfl)
theorem w109 {Z : State} {a0 : Array Value} (hw : ∀ d ∈ tables_1, d.before a0 Z = true) : Jvm.Cond.before (Jvm.Cond.instanceMethod ({ cls := "java/lang/AbstractStringBuilder", name := "append", desc := "(Ljava/lang/String;)Ljava/lang/AbstractStringBuilder;" } : Jvm.MethodName)) a0 Z = true := hw _ (List.mem_of_getElem? (i := 109) rfl)
theorem w110 {Z : State} {a0 : Array Value} (hw : ∀ d ∈ tables_1, d.before a0 Z = true) : Jvm.Cond.before (Jvm.Cond.superclass "java/lang/StringBuilder" "java/lang/AbstractStringBuilder") a0 Z = true := hw _ (List.mem_of_getElem? (i := 110) rfl)
theorem w112 {Z : State} {a0 : Array Value} (hw : ∀ d ∈ tables_1, d.before a0 Z = true) : Jvm.Cond.before (Jvm.Cond.code ({ cls := "java/lang/AbstractStringBuilder", name := "append", desc := "(Ljava/lang/String;)Ljava/lang/AbstractStringBuilder;" } : Jvm.MethodName) jdk_68_method_22_code (3 : Nat) (Option.some (Jvm.ClassFile.FieldType.object "java/lang/AbstractStringBuilder"))) a0 Z = true := hw _ (List.mem_of_getElem? (i := 112) rfl)
theorem w113 {Z : State} {a0 : Array Value} (hw : ∀ d ∈ tables_1, d.before a0 Z = true) : Jvm.Cond.before (Jvm.Cond.methodLink "java/lang/AbstractStringBuilder" (32 : Nat) ({ cls := "java/lang/String", name := "length", desc := "()I" } : Jvm.MethodName)) a0 Z = true := hw _ (List.mem_of_getElem? (i := 113) rfl)
theorem w114 {Z : State} {a0 : Array Value} (hw : ∀ d ∈ tables_1, d.before a0 Z = true) : Jvm.Cond.before (Jvm.Cond.declares ({ cls := "java/lang/String", name := "length", desc := "()I" } : Jvm.MethodName)) a0 Z = true := hw _ (List.mem_of_getElem? (i := 114) rfl)
theorem w115 {Z : State} {a0 : Array Value} (hw : ∀ d ∈ tables_1, d.before a0 Z = true) : Jvm.Cond.before (Jvm.Cond.instanceMethod ({ cls := "java/lang/String", name := "length", desc := "()I" } : Jvm.MethodName)) a0 Z = true := hw _ (List.mem_of_getElem? (i := 115) rfl)
theorem w116 {Z : State} {a0 : Array Value} (hw : ∀ d ∈ tables_1, d.before a0 Z = true) : Jvm.Cond.before (Jvm.Cond.selects "java/lang/String" ({ cls := "java/lang/String", name := "length", desc := "()I" } : Jvm.MethodName) ({ cls := "java/lang/String", name := "length", desc := "()I" } : Jvm.MethodName)) a0 Z = true := hw _ (List.mem_of_getElem? (i := 116) rfl)
theorem w117 {Z : State} {a0 : Array Value} (hw : ∀ d ∈ tables_1, d.before a0 Z = true) : Jvm.Cond.before (Jvm.Cond.code ({ cls := "java/lang/String", name := "length", desc := "()I" } : Jvm.MethodName) jdk_42_method_54_code (1 : Nat) (Option.some Jvm.ClassFile.FieldType.int)) a0 Z = true := hw _ (List.mem_of_getElem? (i := 117) rfl)
theorem w118 {Z : State} {a0 : Array Value} (hw : ∀ d ∈ tables_1, d.before a0 Z = true) : Jvm.Cond.before (Jvm.Cond.methodLink "java/lang/String" (335 : Nat) ({ cls := "java/lang/String", name := "coder", desc := "()B" } : Jvm.MethodName)) a0 Z = true := hw _ (List.mem_of_getElem? (i := 118) rfl)
theorem w119 {Z : State} {a0 : Array Value} (hw : ∀ d ∈ tables_1, d.before a0 Z = true) : Jvm.Cond.before (Jvm.Cond.declares ({ cls := "java/lang/String", name := "coder", desc := "()B" } : Jvm.MethodName)) a0 Z = true := hw _ (List.mem_of_getElem? (i := 119) rfl)
theorem w120 {Z : State} {a0 : Array Value} (hw : ∀ d ∈ tables_1, d.before a0 Z = true) : Jvm.Cond.before (Jvm.Cond.instanceMethod ({ cls := "java/lang/String", name := "coder", desc := "()B" } : Jvm.MethodName)) a0 Z = true := hw _ (List.mem_of_getElem? (i := 120) rfl)
theorem w121 {Z : State} {a0 : Array Value} (hw : ∀ d ∈ tables_1, d.before a0 Z = true) : Jvm.Cond.before (Jvm.Cond.selects "java/lang/String" ({ cls := "java/lang/String", name := "coder", desc := "()B" } : Jvm.MethodName) ({ cls := "java/lang/String", name := "coder", desc := "()B" } : Jvm.MethodName)) a0 Z = true := hw _ (List.mem_of_getElem? (i := 121) rfl)
theorem w122 {Z : State} {a0 : Array Value} (hw : ∀ d ∈ tables_1, d.before a0 Z = true) : Jvm.Cond.before (Jvm.Cond.code ({ cls := "java/lang/String", name := "coder", desc := "()B" } : Jvm.MethodName) jdk_42_method_152_code (1 : Nat) (Option.some Jvm.ClassFile.FieldType.byte)) a0 Z = true := hw _ (List.mem_of_getElem? (i := 122) rfl)
theorem w123 {Z : State} {a0 : Array Value} (hw : ∀ d ∈ tables_1, d.before a0 Z = true) : Jvm.Cond.before (Jvm.Cond.fieldLink "java/lang/AbstractStringBuilder" (79 : Nat) "java/lang/AbstractStringBuilder" "count" "I") a0 Z = true := hw _ (List.mem_of_getElem? (i := 123) rfl)
theorem w124 {Z : State} {a0 : Array Value} (hw : ∀ d ∈ tables_1, d.before a0 Z = true) : Jvm.Cond.before (Jvm.Cond.lays "java/lang/StringBuilder" "java/lang/AbstractStringBuilder" "count" "I") a0 Z = true := hw _ (List.mem_of_getElem? (i := 124) rfl)
theorem w125 {Z : State} {a0 : Array Value} (hw : ∀ d ∈ tables_1, d.before a0 Z = true) : Jvm.Cond.before (Jvm.Cond.methodLink "java/lang/AbstractStringBuilder" (100 : Nat) ({ cls := "java/lang/AbstractStringBuilder", name := "ensureCapacityInternal", desc := "(I)V" } : Jvm.MethodName)) a0 Z = true := hw _ (List.mem_of_getElem? (i := 125) rfl)
theorem w126 {Z : State} {a0 : Array Value} (hw : ∀ d ∈ tables_1, d.before a0 Z = true) : Jvm.Cond.before (Jvm.Cond.instanceMethod ({ cls := "java/lang/AbstractStringBuilder", name := "ensureCapacityInternal", desc := "(I)V" } : Jvm.MethodName)) a0 Z = true := hw _ (List.mem_of_getElem? (i := 126) rfl)
theorem w127 {Z : State} {a0 : Array Value} (hw : ∀ d ∈ tables_1, d.before a0 Z = true) : Jvm.Cond.before (Jvm.Cond.privateMethod ({ cls := "java/lang/AbstractStringBuilder", name := "ensureCapacityInternal", desc := "(I)V" } : Jvm.MethodName)) a0 Z = true := hw _ (List.mem_of_getElem? (i := 127) rfl)
theorem w128 {Z : State} {a0 : Array Value} (hw : ∀ d ∈ tables_1, d.before a0 Z = true) : Jvm.Cond.before (Jvm.Cond.selects "java/lang/StringBuilder" ({ cls := "java/lang/AbstractStringBuilder", name := "ensureCapacityInternal", desc := "(I)V" } : Jvm.MethodName) ({ cls := "java/lang/AbstractStringBuilder", name := "ensureCapacityInternal", desc := "(I)V" } : Jvm.MethodName)) a0 Z = true := hw _ (List.mem_of_getElem? (i := 128) rfl)
theorem w129 {Z : State} {a0 : Array Value} (hw : ∀ d ∈ tables_1, d.before a0 Z = true) : Jvm.Cond.before (Jvm.Cond.code ({ cls := "java/lang/AbstractStringBuilder", name := "ensureCapacityInternal", desc := "(I)V" } : Jvm.MethodName) jdk_68_method_9_code (3 : Nat) (Option.none : Option Jvm.ClassFile.FieldType)) a0 Z = true := hw _ (List.mem_of_getElem? (i := 129) rfl)
theorem w130 {Z : State} {a0 : Array Value} (hw : ∀ d ∈ tables_1, d.before a0 Z = true) : Jvm.Cond.before (Jvm.Cond.methodLink "java/lang/AbstractStringBuilder" (208 : Nat) ({ cls := "java/lang/AbstractStringBuilder", name := "putStringAt", desc := "(ILjava/lang/String;)V" } : Jvm.MethodName)) a0 Z = true := hw _ (List.mem_of_getElem? (i := 130) rfl)
theorem w131 {Z : State} {a0 : Array Value} (hw : ∀ d ∈ tables_1, d.before a0 Z = true) : Jvm.Cond.before (Jvm.Cond.instanceMethod ({ cls := "java/lang/AbstractStringBuilder", name := "putStringAt", desc := "(ILjava/lang/String;)V" } : Jvm.MethodName)) a0 Z = true := hw _ (List.mem_of_getElem? (i := 131) rfl)
theorem w132 {Z : State} {a0 : Array Value} (hw : ∀ d ∈ tables_1, d.before a0 Z = true) : Jvm.Cond.before (Jvm.Cond.privateMethod ({ cls := "java/lang/AbstractStringBuilder", name := "putStringAt", desc := "(ILjava/lang/String;)V" } : Jvm.MethodName)) a0 Z = true := hw _ (List.mem_of_getElem? (i := 132) rfl)
theorem w133 {Z : State} {a0 : Array Value} (hw : ∀ d ∈ tables_1, d.before a0 Z = true) : Jvm.Cond.before (Jvm.Cond.selects "java/lang/StringBuilder" ({ cls := "java/lang/AbstractStringBuilder", name := "putStringAt", desc := "(ILjava/lang/String;)V" } : Jvm.MethodName) ({ cls := "java/lang/AbstractStringBuilder", name := "putStringAt", desc := "(ILjava/lang/String;)V" } : Jvm.MethodName)) a0 Z = true := hw _ (List.mem_of_getElem? (i := 133) rfl)
theorem w134 {Z : State} {a0 : Array Value} (hw : ∀ d ∈ tables_1, d.before a0 Z = true) : Jvm.Cond.before (Jvm.Cond.code ({ cls := "java/lang/AbstractStringBuilder", name := "putStringAt", desc := "(ILjava/lang/String;)V" } : Jvm.MethodName) jdk_68_method_73_code (3 : Nat) (Option.none : Option Jvm.ClassFile.FieldType)) a0 Z = true := hw _ (List.mem_of_getElem? (i := 134) rfl)
theorem w135 {Z : State} {a0 : Array Value} (hw : ∀ d ∈ tables_1, d.before a0 Z = true) : Jvm.Cond.before (Jvm.Cond.methodLink "java/lang/AbstractStringBuilder" (397 : Nat) ({ cls := "java/lang/AbstractStringBuilder", name := "inflateIfNeededFor", desc := "(Ljava/lang/String;)V" } : Jvm.MethodName)) a0 Z = true := hw _ (List.mem_of_getElem? (i := 135) rfl)
theorem w136 {Z : State} {a0 : Array Value} (hw : ∀ d ∈ tables_1, d.before a0 Z = true) : Jvm.Cond.before (Jvm.Cond.instanceMethod ({ cls := "java/lang/AbstractStringBuilder", name := "inflateIfNeededFor", desc := "(Ljava/lang/String;)V" } : Jvm.MethodName)) a0 Z = true := hw _ (List.mem_of_getElem? (i := 136) rfl)
theorem w137 {Z : State} {a0 : Array Value} (hw : ∀ d ∈ tables_1, d.before a0 Z = true) : Jvm.Cond.before (Jvm.Cond.privateMethod ({ cls := "java/lang/AbstractStringBuilder", name := "inflateIfNeededFor", desc := "(Ljava/lang/String;)V" } : Jvm.MethodName)) a0 Z = true := hw _ (List.mem_of_getElem? (i := 137) rfl)
theorem w138 {Z : State} {a0 : Array Value} (hw : ∀ d ∈ tables_1, d.before a0 Z = true) : Jvm.Cond.before (Jvm.Cond.selects "java/lang/StringBuilder" ({ cls := "java/lang/AbstractStringBuilder", name := "inflateIfNeededFor", desc := "(Ljava/lang/String;)V" } : Jvm.MethodName) ({ cls := "java/lang/AbstractStringBuilder", name := "inflateIfNeededFor", desc := "(Ljava/lang/String;)V" } : Jvm.MethodName)) a0 Z = true := hw _ (List.mem_of_getElem? (i := 138) rfl)
theorem w139 {Z : State} {a0 : Array Value} (hw : ∀ d ∈ tables_1, d.before a0 Z = true) : Jvm.Cond.before (Jvm.Cond.code ({ cls := "java/lang/AbstractStringBuilder", name := "inflateIfNeededFor", desc := "(Ljava/lang/String;)V" } : Jvm.MethodName) jdk_68_method_71_code (2 : Nat) (Option.none : Option Jvm.ClassFile.FieldType)) a0 Z = true := hw _ (List.mem_of_getElem? (i := 139) rfl)
theorem w140 {Z : State} {a0 : Array Value} (hw : ∀ d ∈ tables_1, d.before a0 Z = true) : Jvm.Cond.before (Jvm.Cond.methodLink "java/lang/AbstractStringBuilder" (40 : Nat) ({ cls := "java/lang/String", name := "coder", desc := "()B" } : Jvm.MethodName)) a0 Z = true := hw _ (List.mem_of_getElem? (i := 140) rfl)
theorem w141 {Z : State} {a0 : Array Value} (hw : ∀ d ∈ tables_1, d.before a0 Z = true) : Jvm.Cond.before (Jvm.Cond.methodLink "java/lang/AbstractStringBuilder" (399 : Nat) ({ cls := "java/lang/String", name := "getBytes", desc := "([BIB)V" } : Jvm.MethodName)) a0 Z = true := hw _ (List.mem_of_getElem? (i := 141) rfl)
theorem w142 {Z : State} {a0 : Array Value} (hw : ∀ d ∈ tables_1, d.before a0 Z = true) : Jvm.Cond.before (Jvm.Cond.declares ({ cls := "java/lang/String", name := "getBytes", desc := "([BIB)V" } : Jvm.MethodName)) a0 Z = true := hw _ (List.mem_of_getElem? (i := 142) rfl)
theorem w143 {Z : State} {a0 : Array Value} (hw : ∀ d ∈ tables_1, d.before a0 Z = true) : Jvm.Cond.before (Jvm.Cond.instanceMethod ({ cls := "java/lang/String", name := "getBytes", desc := "([BIB)V" } : Jvm.MethodName)) a0 Z = true := hw _ (List.mem_of_getElem? (i := 143) rfl)
theorem w144 {Z : State} {a0 : Array Value} (hw : ∀ d ∈ tables_1, d.before a0 Z = true) : Jvm.Cond.before (Jvm.Cond.selects "java/lang/String" ({ cls := "java/lang/String", name := "getBytes", desc := "([BIB)V" } : Jvm.MethodName) ({ cls := "java/lang/String", name := "getBytes", desc := "([BIB)V" } : Jvm.MethodName)) a0 Z = true := hw _ (List.mem_of_getElem? (i := 144) rfl)
theorem w145 {Z : State} {a0 : Array Value} (hw : ∀ d ∈ tables_1, d.before a0 Z = true) : Jvm.Cond.before (Jvm.Cond.code ({ cls := "java/lang/String", name := "getBytes", desc := "([BIB)V" } : Jvm.MethodName) jdk_42_method_147_code (4 : Nat) (Option.none : Option Jvm.ClassFile.FieldType)) a0 Z = true := hw _ (List.mem_of_getElem? (i := 145) rfl)
theorem w146 {Z : State} {a0 : Array Value} (hw : ∀ d ∈ tables_1, d.before a0 Z = true) : Jvm.Cond.before (Jvm.Cond.methodLink "java/lang/String" (212 : Nat) ({ cls := "java/lang/System", name := "arraycopy", desc := "(Ljava/lang/Object;ILjava/lang/Object;II)V" } : Jvm.MethodName)) a0 Z = true := hw _ (List.mem_of_getElem? (i := 146) rfl)
theorem w147 {Z : State} {a0 : Array Value} (hw : ∀ d ∈ tables_1, d.before a0 Z = true) : Jvm.Cond.before (Jvm.Cond.static ({ cls := "java/lang/System", name := "arraycopy", desc := "(Ljava/lang/Object;ILjava/lang/Object;II)V" } : Jvm.MethodName)) a0 Z = true := hw _ (List.mem_of_getElem? (i := 147) rfl)
theorem w148 {Z : State} {a0 : Array Value} (hw : ∀ d ∈ tables_1, d.before a0 Z = true) : Jvm.Cond.before (Jvm.Cond.initialized "java/lang/System") a0 Z = true := hw _ (List.mem_of_getElem? (i := 148) rfl)
theorem w149 {Z : State} {a0 : Array Value} (hw : ∀ d ∈ tables_1, d.before a0 Z = true) : Jvm.Cond.before (Jvm.Cond.native ({ cls := "java/lang/System", name := "arraycopy", desc := "(Ljava/lang/Object;ILjava/lang/Object;II)V" } : Jvm.MethodName)) a0 Z = true := hw _ (List.mem_of_getElem? (i := 149) rfl)
theorem w150 {Z : State} {a0 : Array Value} (hw : ∀ d ∈ tables_1, d.before a0 Z = true) : Jvm.Cond.before (Jvm.Cond.methodLink "com/example/kvasir/kvasir/jpql/InputParameter" (116 : Nat) ({ cls := "java/lang/StringBuilder", name := "toString", desc := "()Ljava/lang/String;" } : Jvm.MethodName)) a0 Z = true := hw _ (List.mem_of_getElem? (i := 150) rfl)
theorem w151 {Z : State} {a0 : Array Value} (hw : ∀ d ∈ tables_1, d.before a0 Z = true) : Jvm.Cond.before (Jvm.Cond.declares ({ cls := "java/lang/StringBuilder", name := "toString", desc := "()Ljava/lang/String;" } : Jvm.MethodName)) a0 Z = true := hw _ (List.mem_of_getElem? (i := 151) rfl)
theorem w152 {Z : State} {a0 : Array Value} (hw : ∀ d ∈ tables_1, d.before a0 Z = true) : Jvm.Cond.before (Jvm.Cond.instanceMethod ({ cls := "java/lang/StringBuilder", name := "toString", desc := "()Ljava/lang/String;" } : Jvm.MethodName)) a0 Z = true := hw _ (List.mem_of_getElem? (i := 152) rfl)
theorem w153 {Z : State} {a0 : Array Value} (hw : ∀ d ∈ tables_1, d.before a0 Z = true) : Jvm.Cond.before (Jvm.Cond.selects "java/lang/StringBuilder" ({ cls := "java/lang/StringBuilder", name := "toString", desc := "()Ljava/lang/String;" } : Jvm.MethodName) ({ cls := "java/lang/StringBuilder", name := "toString", desc := "()Ljava/lang/String;" } : Jvm.MethodName)) a0 Z = true := hw _ (List.mem_of_getElem? (i := 153) rfl)
theorem w154 {Z : State} {a0 : Array Value} (hw : ∀ d ∈ tables_1, d.before a0 Z = true) : Jvm.Cond.before (Jvm.Cond.code ({ cls := "java/lang/StringBuilder", name := "toString", desc := "()Ljava/lang/String;" } : Jvm.MethodName) jdk_67_method_42_code (1 : Nat) (Option.some (Jvm.ClassFile.FieldType.object "java/lang/String"))) a0 Z = true := hw _ (List.mem_of_getElem? (i := 154) rfl)
theorem w155 {Z : State} {a0 : Array Value} (hw : ∀ d ∈ tables_1, d.before a0 Z = true) : Jvm.Cond.before (Jvm.Cond.classLink "java/lang/StringBuilder" (18 : Nat) "java/lang/String") a0 Z = true := hw _ (List.mem_of_getElem? (i := 155) rfl)
theorem w156 {Z : State} {a0 : Array Value} (hw : ∀ d ∈ tables_1, d.before a0 Z = true) : Jvm.Cond.before (Jvm.Cond.methodLink "java/lang/StringBuilder" (137 : Nat) ({ cls := "java/lang/String", name := "<init>", desc := "(Ljava/lang/StringBuilder;)V" } : Jvm.MethodName)) a0 Z = true := hw _ (List.mem_of_getElem? (i := 156) rfl)
theorem w157 {Z : State} {a0 : Array Value} (hw : ∀ d ∈ tables_1, d.before a0 Z = true) : Jvm.Cond.before (Jvm.Cond.instanceMethod ({ cls := "java/lang/String", name := "<init>", desc := "(Ljava/lang/StringBuilder;)V" } : Jvm.MethodName)) a0 Z = true := hw _ (List.mem_of_getElem? (i := 157) rfl)
theorem w158 {Z : State} {a0 : Array Value} (hw : ∀ d ∈ tables_1, d.before a0 Z = true) : Jvm.Cond.before (Jvm.Cond.code ({ cls := "java/lang/String", name := "<init>", desc := "(Ljava/lang/StringBuilder;)V" } : Jvm.MethodName) jdk_42_method_53_code (2 : Nat) (Option.none : Option Jvm.ClassFile.FieldType)) a0 Z = true := hw _ (List.mem_of_getElem? (i := 158) rfl)
theorem w159 {Z : State} {a0 : Array Value} (hw : ∀ d ∈ tables_1, d.before a0 Z = true) : Jvm.Cond.before (Jvm.Cond.methodLink "java/lang/String" (489 : Nat) ({ cls := "java/lang/String", name := "<init>", desc := "(Ljava/lang/AbstractStringBuilder;Ljava/lang/Void;)V" } : Jvm.MethodName)) a0 Z = true := hw _ (List.mem_of_getElem? (i := 159) rfl)
theorem w160 {Z : State} {a0 : Array Value} (hw : ∀ d ∈ tables_1, d.before a0 Z = true) : Jvm.Cond.before (Jvm.Cond.instanceMethod ({ cls := "java/lang/String", name := "<init>", desc := "(Ljava/lang/AbstractStringBuilder;Ljava/lang/Void;)V" } : Jvm.MethodName)) a0 Z = true := hw _ (List.mem_of_getElem? (i := 160) rfl)
theorem w161 {Z : State} {a0 : Array Value} (hw : ∀ d ∈ tables_1, d.before a0 Z = true) : Jvm.Cond.before (Jvm.Cond.code ({ cls := "java/lang/String", name := "<init>", desc := "(Ljava/lang/AbstractStringBuilder;Ljava/lang/Void;)V" } : Jvm.MethodName) jdk_42_method_150_code (5 : Nat) (Option.none : Option Jvm.ClassFile.FieldType)) a0 Z = true := hw _ (List.mem_of_getElem? (i := 161) rfl)
theorem w162 {Z : State} {a0 : Array Value} (hw : ∀ d ∈ tables_1, d.before a0 Z = true) : Jvm.Cond.before (Jvm.Cond.methodLink "java/lang/String" (552 : Nat) ({ cls := "java/lang/AbstractStringBuilder", name := "getValue", desc := "()[B" } : Jvm.MethodName)) a0 Z = true := hw _ (List.mem_of_getElem? (i := 162) rfl)
theorem w163 {Z : State} {a0 : Array Value} (hw : ∀ d ∈ tables_1, d.before a0 Z = true) : Jvm.Cond.before (Jvm.Cond.declares ({ cls := "java/lang/AbstractStringBuilder", name := "getValue", desc := "()[B" } : Jvm.MethodName)) a0 Z = true := hw _ (List.mem_of_getElem? (i := 163) rfl)
theorem w164 {Z : State} {a0 : Array Value} (hw : ∀ d ∈ tables_1, d.before a0 Z = true) : Jvm.Cond.before (Jvm.Cond.instanceMethod ({ cls := "java/lang/AbstractStringBuilder", name := "getValue", desc := "()[B" } : Jvm.MethodName)) a0 Z = true := hw _ (List.mem_of_getElem? (i := 164) rfl)
theorem w165 {Z : State} {a0 : Array Value} (hw : ∀ d ∈ tables_1, d.before a0 Z = true) : Jvm.Cond.before (Jvm.Cond.selects "java/lang/StringBuilder" ({ cls := "java/lang/AbstractStringBuilder", name := "getValue", desc := "()[B" } : Jvm.MethodName) ({ cls := "java/lang/AbstractStringBuilder", name := "getValue", desc := "()[B" } : Jvm.MethodName)) a0 Z = true := hw _ (List.mem_of_getElem? (i := 165) rfl)
theorem w166 {Z : State} {a0 : Array Value} (hw : ∀ d ∈ tables_1, d.before a0 Z = true) : Jvm.Cond.before (Jvm.Cond.code ({ cls := "java/lang/AbstractStringBuilder", name := "getValue", desc := "()[B" } : Jvm.MethodName) jdk_68_method_64_code (1 : Nat) (Option.some (Jvm.ClassFile.FieldType.array Jvm.ClassFile.FieldType.byte))) a0 Z = true := hw _ (List.mem_of_getElem? (i := 166) rfl)
theorem w167 {Z : State} {a0 : Array Value} (hw : ∀ d ∈ tables_1, d.before a0 Z = true) : Jvm.Cond.before (Jvm.Cond.methodLink "java/lang/String" (549 : Nat) ({ cls := "java/lang/AbstractStringBuilder", name := "length", desc := "()I" } : Jvm.MethodName)) a0 Z = true := hw _ (List.mem_of_getElem? (i := 167) rfl)
theorem w168 {Z : State} {a0 : Array Value} (hw : ∀ d ∈ tables_1, d.before a0 Z = true) : Jvm.Cond.before (Jvm.Cond.declares ({ cls := "java/lang/AbstractStringBuilder", name := "length", desc := "()I" } : Jvm.MethodName)) a0 Z = true := hw _ (List.mem_of_getElem? (i := 168) rfl)
theorem w169 {Z : State} {a0 : Array Value} (hw : ∀ d ∈ tables_1, d.before a0 Z = true) : Jvm.Cond.before (Jvm.Cond.instanceMethod ({ cls := "java/lang/AbstractStringBuilder", name := "length", desc := "()I" } : Jvm.MethodName)) a0 Z = true := hw _ (List.mem_of_getElem? (i := 169) rfl)
theorem w170 {Z : State} {a0 : Array Value} (hw : ∀ d ∈ tables_1, d.before a0 Z = true) : Jvm.Cond.before (Jvm.Cond.selects "java/lang/StringBuilder" ({ cls := "java/lang/AbstractStringBuilder", name := "length", desc := "()I" } : Jvm.MethodName) ({ cls := "java/lang/StringBuilder", name := "length", desc := "()I" } : Jvm.MethodName)) a0 Z = true := hw _ (List.mem_of_getElem? (i := 170) rfl)
theorem w171 {Z : State} {a0 : Array Value} (hw : ∀ d ∈ tables_1, d.before a0 Z = true) : Jvm.Cond.before (Jvm.Cond.instanceMethod ({ cls := "java/lang/StringBuilder", name := "length", desc := "()I" } : Jvm.MethodName)) a0 Z = true := hw _ (List.mem_of_getElem? (i := 171) rfl)
theorem w172 {Z : State} {a0 : Array Value} (hw : ∀ d ∈ tables_1, d.before a0 Z = true) : Jvm.Cond.before (Jvm.Cond.code ({ cls := "java/lang/StringBuilder", name := "length", desc := "()I" } : Jvm.MethodName) jdk_67_method_93_code (1 : Nat) (Option.some Jvm.ClassFile.FieldType.int)) a0 Z = true := hw _ (List.mem_of_getElem? (i := 172) rfl)
theorem w173 {Z : State} {a0 : Array Value} (hw : ∀ d ∈ tables_1, d.before a0 Z = true) : Jvm.Cond.before (Jvm.Cond.methodLink "java/lang/StringBuilder" (343 : Nat) ({ cls := "java/lang/AbstractStringBuilder", name := "length", desc := "()I" } : Jvm.MethodName)) a0 Z = true := hw _ (List.mem_of_getElem? (i := 173) rfl)
theorem w174 {Z : State} {a0 : Array Value} (hw : ∀ d ∈ tables_1, d.before a0 Z = true) : Jvm.Cond.before (Jvm.Cond.code ({ cls := "java/lang/AbstractStringBuilder", name := "length", desc := "()I" } : Jvm.MethodName) jdk_68_method_6_code (1 : Nat) (Option.some Jvm.ClassFile.FieldType.int)) a0 Z = true := hw _ (List.mem_of_getElem? (i := 174) rfl)
theorem w175 {Z : State} {a0 : Array Value} (hw : ∀ d ∈ tables_1, d.before a0 Z = true) : Jvm.Cond.before (Jvm.Cond.methodLink "java/lang/String" (1047 : Nat) ({ cls := "java/lang/AbstractStringBuilder", name := "isLatin1", desc := "()Z" } : Jvm.MethodName)) a0 Z = true := hw _ (List.mem_of_getElem? (i := 175) rfl)
theorem w176 {Z : State} {a0 : Array Value} (hw : ∀ d ∈ tables_1, d.before a0 Z = true) : Jvm.Cond.before (Jvm.Cond.declares ({ cls := "java/lang/AbstractStringBuilder", name := "isLatin1", desc := "()Z" } : Jvm.MethodName)) a0 Z = true := hw _ (List.mem_of_getElem? (i := 176) rfl)
theorem w177 {Z : State} {a0 : Array Value} (hw : ∀ d ∈ tables_1, d.before a0 Z = true) : Jvm.Cond.before (Jvm.Cond.instanceMethod ({ cls := "java/lang/AbstractStringBuilder", name := "isLatin1", desc := "()Z" } : Jvm.MethodName)) a0 Z = true := hw _ (List.mem_of_getElem? (i := 177) rfl)
theorem w178 {Z : State} {a0 : Array Value} (hw : ∀ d ∈ tables_1, d.before a0 Z = true) : Jvm.Cond.before (Jvm.Cond.selects "java/lang/StringBuilder" ({ cls := "java/lang/AbstractStringBuilder", name := "isLatin1", desc := "()Z" } : Jvm.MethodName) ({ cls := "java/lang/AbstractStringBuilder", name := "isLatin1", desc := "()Z" } : Jvm.MethodName)) a0 Z = true := hw _ (List.mem_of_getElem? (i := 178) rfl)
theorem w179 {Z : State} {a0 : Array Value} (hw : ∀ d ∈ tables_1, d.before a0 Z = true) : Jvm.Cond.before (Jvm.Cond.code ({ cls := "java/lang/AbstractStringBuilder", name := "isLatin1", desc := "()Z" } : Jvm.MethodName) jdk_68_method_68_code (1 : Nat) (Option.some Jvm.ClassFile.FieldType.boolean)) a0 Z = true := hw _ (List.mem_of_getElem? (i := 179) rfl)
theorem w180 {Z : State} {a0 : Array Value} (hw : ∀ d ∈ tables_1, d.before a0 Z = true) : Jvm.Cond.before (Jvm.Cond.methodLink "java/lang/String" (54 : Nat) ({ cls := "java/util/Arrays", name := "copyOfRange", desc := "([BII)[B" } : Jvm.MethodName)) a0 Z = true := hw _ (List.mem_of_getElem? (i := 180) rfl)
theorem w181 {Z : State} {a0 : Array Value} (hw : ∀ d ∈ tables_1, d.before a0 Z = true) : Jvm.Cond.before (Jvm.Cond.static ({ cls := "java/util/Arrays", name := "copyOfRange", desc := "([BII)[B" } : Jvm.MethodName)) a0 Z = true := hw _ (List.mem_of_getElem? (i := 181) rfl)
theorem w182 {Z : State} {a0 : Array Value} (hw : ∀ d ∈ tables_1, d.before a0 Z = true) : Jvm.Cond.before (Jvm.Cond.initialized "java/util/Arrays") a0 Z = true := hw _ (List.mem_of_getElem? (i := 182) rfl)
theorem w183 {Z : State} {a0 : Array Value} (hw : ∀ d ∈ tables_1, d.before a0 Z = true) : Jvm.Cond.before (Jvm.Cond.code ({ cls := "java/util/Arrays", name := "copyOfRange", desc := "([BII)[B" } : Jvm.MethodName) jdk_65_method_132_code (3 : Nat) (Option.some (Jvm.ClassFile.FieldType.array Jvm.ClassFile.FieldType.byte))) a0 Z = true := hw _ (List.mem_of_getElem? (i := 183) rfl)
theorem w184 {Z : State} {a0 : Array Value} (hw : ∀ d ∈ tables_1, d.before a0 Z = true) : Jvm.Cond.before (Jvm.Cond.methodLink "java/util/Arrays" (339 : Nat) ({ cls := "java/util/Arrays", name := "copyOfRangeByte", desc := "([BII)[B" } : Jvm.MethodName)) a0 Z = true := hw _ (List.mem_of_getElem? (i := 184) rfl)
theorem w185 {Z : State} {a0 : Array Value} (hw : ∀ d ∈ tables_1, d.before a0 Z = true) : Jvm.Cond.before (Jvm.Cond.static ({ cls := "java/util/Arrays", name := "copyOfRangeByte", desc := "([BII)[B" } : Jvm.MethodName)) a0 Z = true := hw _ (List.mem_of_getElem? (i := 185) rfl)
theorem w186 {Z : State} {a0 : Array Value} (hw : ∀ d ∈ tables_1, d.before a0 Z = true) : Jvm.Cond.before (Jvm.Cond.code ({ cls := "java/util/Arrays", name := "copyOfRangeByte", desc := "([BII)[B" } : Jvm.MethodName) jdk_65_method_133_code (5 : Nat) (Option.some (Jvm.ClassFile.FieldType.array Jvm.ClassFile.FieldType.byte))) a0 Z = true := hw _ (List.mem_of_getElem? (i := 186) rfl)
theorem w187 {Z : State} {a0 : Array Value} (hw : ∀ d ∈ tables_1, d.before a0 Z = true) : Jvm.Cond.before (Jvm.Cond.methodLink "java/util/Arrays" (343 : Nat) ({ cls := "java/util/Arrays", name := "checkLength", desc := "(II)V" } : Jvm.MethodName)) a0 Z = true := hw _ (List.mem_of_getElem? (i := 187) rfl)
theorem w188 {Z : State} {a0 : Array Value} (hw : ∀ d ∈ tables_1, d.before a0 Z = true) : Jvm.Cond.before (Jvm.Cond.static ({ cls := "java/util/Arrays", name := "checkLength", desc := "(II)V" } : Jvm.MethodName)) a0 Z = true := hw _ (List.mem_of_getElem? (i := 188) rfl)
theorem w189 {Z : State} {a0 : Array Value} (hw : ∀ d ∈ tables_1, d.before a0 Z = true) : Jvm.Cond.before (Jvm.Cond.code ({ cls := "java/util/Arrays", name := "checkLength", desc := "(II)V" } : Jvm.MethodName) jdk_65_method_131_code (2 : Nat) (Option.none : Option Jvm.ClassFile.FieldType)) a0 Z = true := hw _ (List.mem_of_getElem? (i := 189) rfl)
theorem w190 {Z : State} {a0 : Array Value} (hw : ∀ d ∈ tables_1, d.before a0 Z = true) : Jvm.Cond.before (Jvm.Cond.methodLink "java/util/Arrays" (304 : Nat) ({ cls := "java/lang/Math", name := "min", desc := "(II)I" } : Jvm.MethodName)) a0 Z = true := hw _ (List.mem_of_getElem? (i := 190) rfl)
theorem w191 {Z : State} {a0 : Array Value} (hw : ∀ d ∈ tables_1, d.before a0 Z = true) : Jvm.Cond.before (Jvm.Cond.static ({ cls := "java/lang/Math", name := "min", desc := "(II)I" } : Jvm.MethodName)) a0 Z = true := hw _ (List.mem_of_getElem? (i := 191) rfl)
theorem w192 {Z : State} {a0 : Array Value} (hw : ∀ d ∈ tables_1, d.before a0 Z = true) : Jvm.Cond.before (Jvm.Cond.initialized "java/lang/Math") a0 Z = true := hw _ (List.mem_of_getElem? (i := 192) rfl)
theorem w193 {Z : State} {a0 : Array Value} (hw : ∀ d ∈ tables_1, d.before a0 Z = true) : Jvm.Cond.before (Jvm.Cond.code ({ cls := "java/lang/Math", name := "min", desc := "(II)I" } : Jvm.MethodName) jdk_29_method_69_code (2 : Nat) (Option.some Jvm.ClassFile.FieldType.int)) a0 Z = true := hw _ (List.mem_of_getElem? (i := 193) rfl)
theorem w194 {Z : State} {a0 : Array Value} (hw : ∀ d ∈ tables_1, d.before a0 Z = true) : Jvm.Cond.before (Jvm.Cond.methodLink "java/util/Arrays" (150 : Nat) ({ cls := "java/lang/System", name := "arraycopy", desc := "(Ljava/lang/Object;ILjava/lang/Object;II)V" } : Jvm.MethodName)) a0 Z = true := hw _ (List.mem_of_getElem? (i := 194) rfl)
theorem w195 {Z : State} {a0 : Array Value} (hw : ∀ d ∈ tables_1, d.before a0 Z = true) : Jvm.Cond.before (Jvm.Cond.methodLink "com/example/kvasir/kvasir/jpql/InputParameterNamedPinLaw" (39 : Nat) ({ cls := "java/lang/String", name := "equals", desc := "(Ljava/lang/Object;)Z" } : Jvm.MethodName)) a0 Z = true := hw _ (List.mem_of_getElem? (i := 195) rfl)
theorem w196 {Z : State} {a0 : Array Value} (hw : ∀ d ∈ tables_1, d.before a0 Z = true) : Jvm.Cond.before (Jvm.Cond.declares ({ cls := "java/lang/String", name := "equals", desc := "(Ljava/lang/Object;)Z" } : Jvm.MethodName)) a0 Z = true := hw _ (List.mem_of_getElem? (i := 196) rfl)
theorem w197 {Z : State} {a0 : Array Value} (hw : ∀ d ∈ tables_1, d.before a0 Z = true) : Jvm.Cond.before (Jvm.Cond.instanceMethod ({ cls := "java/lang/String", name := "equals", desc := "(Ljava/lang/Object;)Z" } : Jvm.MethodName)) a0 Z = true := hw _ (List.mem_of_getElem? (i := 197) rfl)
theorem w198 {Z : State} {a0 : Array Value} (hw : ∀ d ∈ tables_1, d.before a0 Z = true) : Jvm.Cond.before (Jvm.Cond.selects "java/lang/String" ({ cls := "java/lang/String", name := "equals", desc := "(Ljava/lang/Object;)Z" } : Jvm.MethodName) ({ cls := "java/lang/String", name := "equals", desc := "(Ljava/lang/Object;)Z" } : Jvm.MethodName)) a0 Z = true := hw _ (List.mem_of_getElem? (i := 198) rfl)
theorem w199 {Z : State} {a0 : Array Value} (hw : ∀ d ∈ tables_1, d.before a0 Z = true) : Jvm.Cond.before (Jvm.Cond.code ({ cls := "java/lang/String", name := "equals", desc := "(Ljava/lang/Object;)Z" } : Jvm.MethodName) jdk_42_method_66_code (3 : Nat) (Option.some Jvm.ClassFile.FieldType.boolean)) a0 Z = true := hw _ (List.mem_of_getElem? (i := 199) rfl)
theorem w200 {Z : State} {a0 : Array Value} (hw : ∀ d ∈ tables_1, d.before a0 Z = true) : Jvm.Cond.before (Jvm.Cond.methodLink "com/example/kvasir/kvasir/jpql/InputParameterNamedPinLaw" (43 : Nat) ({ cls := "com/example/kvasir/kvasir/jpql/InputParameter", name := "getNumber", desc := "()I" } : Jvm.MethodName)) a0 Z = true := hw _ (List.mem_of_getElem? (i := 200) rfl)
theorem w201 {Z : State} {a0 : Array Value} (hw : ∀ d ∈ tables_1, d.before a0 Z = true) : Jvm.Cond.before (Jvm.Cond.declares ({ cls := "com/example/kvasir/kvasir/jpql/InputParameter", name := "getNumber", desc := "()I" } : Jvm.MethodName)) a0 Z = true := hw _ (List.mem_of_getElem? (i := 201) rfl)
theorem w202 {Z : State} {a0 : Array Value} (hw : ∀ d ∈ tables_1, d.before a0 Z = true) : Jvm.Cond.before (Jvm.Cond.instanceMethod ({ cls := "com/example/kvasir/kvasir/jpql/InputParameter", name := "getNumber", desc := "()I" } : Jvm.MethodName)) a0 Z = true := hw _ (List.mem_of_getElem? (i := 202) rfl)
theorem w203 {Z : State} {a0 : Array Value} (hw : ∀ d ∈ tables_1, d.before a0 Z = true) : Jvm.Cond.before (Jvm.Cond.selects "com/example/kvasir/kvasir/jpql/InputParameter" ({ cls := "com/example/kvasir/kvasir/jpql/InputParameter", name := "getNumber", desc := "()I" } : Jvm.MethodName) ({ cls := "com/example/kvasir/kvasir/jpql/InputParameter", name := "getNumber", desc := "()I" } : Jvm.MethodName)) a0 Z = true := hw _ (List.mem_of_getElem? (i := 203) rfl)
theorem w204 {Z : State} {a0 : Array Value} (hw : ∀ d ∈ tables_1, d.before a0 Z = true) : Jvm.Cond.before (Jvm.Cond.code ({ cls := "com/example/kvasir/kvasir/jpql/InputParameter", name := "getNumber", desc := "()I" } : Jvm.MethodName) prog_39_method_5_code (1 : Nat) (Option.some Jvm.ClassFile.FieldType.int)) a0 Z = true := hw _ (List.mem_of_getElem? (i := 204) rfl)
theorem w205 {Z : State} {a0 : Array Value} (hw : ∀ d ∈ tables_1, d.before a0 Z = true) : Jvm.Cond.before (Jvm.Cond.methodLink "com/example/kvasir/kvasir/jpql/InputParameterNamedPinLaw" (47 : Nat) ({ cls := "com/example/kvasir/kvasir/jpql/InputParameter", name := "isCollectionValued", desc := "()Z" } : Jvm.MethodName)) a0 Z = true := hw _ (List.mem_of_getElem? (i := 205) rfl)
theorem w206 {Z : State} {a0 : Array Value} (hw : ∀ d ∈ tables_1, d.before a0 Z = true) : Jvm.Cond.before (Jvm.Cond.declares ({ cls := "com/example/kvasir/kvasir/jpql/InputParameter", name := "isCollectionValued", desc := "()Z" } : Jvm.MethodName)) a0 Z = true := hw _ (List.mem_of_getElem? (i := 206) rfl)
theorem w207 {Z : State} {a0 : Array Value} (hw : ∀ d ∈ tables_1, d.before a0 Z = true) : Jvm.Cond.before (Jvm.Cond.instanceMethod ({ cls := "com/example/kvasir/kvasir/jpql/InputParameter", name := "isCollectionValued", desc := "()Z" } : Jvm.MethodName)) a0 Z = true := hw _ (List.mem_of_getElem? (i := 207) rfl)
theorem w208 {Z : State} {a0 : Array Value} (hw : ∀ d ∈ tables_1, d.before a0 Z = true) : Jvm.Cond.before (Jvm.Cond.selects "com/example/kvasir/kvasir/jpql/InputParameter" ({ cls := "com/example/kvasir/kvasir/jpql/InputParameter", name := "isCollectionValued", desc := "()Z" } : Jvm.MethodName) ({ cls := "com/example/kvasir/kvasir/jpql/InputParameter", name := "isCollectionValued", desc := "()Z" } : Jvm.MethodName)) a0 Z = true := hw _ (List.mem_of_getElem? (i := 208) rfl)
theorem w209 {Z : State} {a0 : Array Value} (hw : ∀ d ∈ tables_1, d.before a0 Z = true) : Jvm.Cond.before (Jvm.Cond.code ({ cls := "com/example/kvasir/kvasir/jpql/InputParameter", name := "isCollectionValued", desc := "()Z" } : Jvm.MethodName) prog_39_method_6_code (1 : Nat) (Option.some Jvm.ClassFile.FieldType.boolean)) a0 Z = true := hw _ (List.mem_of_getElem? (i := 209) rfl)
theorem w210 {Z : State} {a0 : Array Value} (hw : ∀ d ∈ tables_1, d.before a0 Z = true) : Jvm.Cond.before (Jvm.Cond.methodLink "com/example/kvasir/kvasir/jpql/InputParameterNamedPinLaw" (51 : Nat) ({ cls := "com/example/kvasir/kvasir/jpql/InputParameter", name := "getPosition", desc := "()Lcom/example/kvasir/kvasir/jpql/Position;" } : Jvm.MethodName)) a0 Z = true := hw _ (List.mem_of_getElem? (i := 210) rfl)
theorem w211 {Z : State} {a0 : Array Value} (hw : ∀ d ∈ tables_1, d.before a0 Z = true) : Jvm.Cond.before (Jvm.Cond.sameMethod "com/example/kvasir/kvasir/jpql/InputParameter" "com/example/kvasir/kvasir/jpql/Expression" "getPosition" "()Lcom/example/kvasir/kvasir/jpql/Position;") a0 Z = true := hw _ (List.mem_of_getElem? (i := 211) rfl)
theorem w212 {Z : State} {a0 : Array Value} (hw : ∀ d ∈ tables_1, d.before a0 Z = true) : Jvm.Cond.before (Jvm.Cond.declares ({ cls := "com/example/kvasir/kvasir/jpql/Expression", name := "getPosition", desc := "()Lcom/example/kvasir/kvasir/jpql/Position;" } : Jvm.MethodName)) a0 Z = true := hw _ (List.mem_of_getElem? (i := 212) rfl)
theorem w213 {Z : State} {a0 : Array Value} (hw : ∀ d ∈ tables_1, d.before a0 Z = true) : Jvm.Cond.before (Jvm.Cond.instanceMethod ({ cls := "com/example/kvasir/kvasir/jpql/Expression", name := "getPosition", desc := "()Lcom/example/kvasir/kvasir/jpql/Position;" } : Jvm.MethodName)) a0 Z = true := hw _ (List.mem_of_getElem? (i := 213) rfl)
theorem w214 {Z : State} {a0 : Array Value} (hw : ∀ d ∈ tables_1, d.before a0 Z = true) : Jvm.Cond.before (Jvm.Cond.selects "com/example/kvasir/kvasir/jpql/InputParameter" ({ cls := "com/example/kvasir/kvasir/jpql/InputParameter", name := "getPosition", desc := "()Lcom/example/kvasir/kvasir/jpql/Position;" } : Jvm.MethodName) ({ cls := "com/example/kvasir/kvasir/jpql/Expression", name := "getPosition", desc := "()Lcom/example/kvasir/kvasir/jpql/Position;" } : Jvm.MethodName)) a0 Z = true := hw _ (List.mem_of_getElem? (i := 214) rfl)
theorem w215 {Z : State} {a0 : Array Value} (hw : ∀ d ∈ tables_1, d.before a0 Z = true) : Jvm.Cond.before (Jvm.Cond.code ({ cls := "com/example/kvasir/kvasir/jpql/Expression", name := "getPosition", desc := "()Lcom/example/kvasir/kvasir/jpql/Position;" } : Jvm.MethodName) prog_31_method_2_code (1 : Nat) (Option.some (Jvm.ClassFile.FieldType.object "com/example/kvasir/kvasir/jpql/Position"))) a0 Z = true := hw _ (List.mem_of_getElem? (i := 215) rfl)
theorem w216 {Z : State} {a0 : Array Value} (hw : ∀ d ∈ tables_1, d.before a0 Z = true) : Jvm.Cond.before (Jvm.Cond.methodLink "com/example/kvasir/kvasir/jpql/InputParameterNamedPinLaw" (55 : Nat) ({ cls := "com/example/kvasir/kvasir/jpql/InputParameter", name := "isBound", desc := "()Z" } : Jvm.MethodName)) a0 Z = true := hw _ (List.mem_of_getElem? (i := 216) rfl)
theorem w217 {Z : State} {a0 : Array Value} (hw : ∀ d ∈ tables_1, d.before a0 Z = true) : Jvm.Cond.before (Jvm.Cond.declares ({ cls := "com/example/kvasir/kvasir/jpql/InputParameter", name := "isBound", desc := "()Z" } : Jvm.MethodName)) a0 Z = true := hw _ (List.mem_of_getElem? (i := 217) rfl)
theorem w218 {Z : State} {a0 : Array Value} (hw : ∀ d ∈ tables_1, d.before a0 Z = true) : Jvm.Cond.before (Jvm.Cond.instanceMethod ({ cls := "com/example/kvasir/kvasir/jpql/InputParameter", name := "isBound", desc := "()Z" } : Jvm.MethodName)) a0 Z = true := hw _ (List.mem_of_getElem? (i := 218) rfl)
theorem w219 {Z : State} {a0 : Array Value} (hw : ∀ d ∈ tables_1, d.before a0 Z = true) : Jvm.Cond.before (Jvm.Cond.selects "com/example/kvasir/kvasir/jpql/InputParameter" ({ cls := "com/example/kvasir/kvasir/jpql/InputParameter", name := "isBound", desc := "()Z" } : Jvm.MethodName) ({ cls := "com/example/kvasir/kvasir/jpql/InputParameter", name := "isBound", desc := "()Z" } : Jvm.MethodName)) a0 Z = true := hw _ (List.mem_of_getElem? (i := 219) rfl)
theorem w220 {Z : State} {a0 : Array Value} (hw : ∀ d ∈ tables_1, d.before a0 Z = true) : Jvm.Cond.before (Jvm.Cond.code ({ cls := "com/example/kvasir/kvasir/jpql/InputParameter", name := "isBound", desc := "()Z" } : Jvm.MethodName) prog_39_method_7_code (1 : Nat) (Option.some Jvm.ClassFile.FieldType.boolean)) a0 Z = true := hw _ (List.mem_of_getElem? (i := 220) rfl)
theorem w221 {Z : State} {a0 : Array Value} (hw : ∀ d ∈ tables_1, d.before a0 Z = true) : Jvm.Cond.before (Jvm.Cond.fieldLink "com/example/kvasir/kvasir/jpql/InputParameter" (24 : Nat) "com/example/kvasir/kvasir/jpql/InputParameter" "bound" "Z") a0 Z = true := hw _ (List.mem_of_getElem? (i := 221) rfl)
theorem w222 {Z : State} {a0 : Array Value} (hw : ∀ d ∈ tables_1, d.before a0 Z = true) : Jvm.Cond.before (Jvm.Cond.lays "com/example/kvasir/kvasir/jpql/InputParameter" "com/example/kvasir/kvasir/jpql/InputParameter" "bound" "Z") a0 Z = true := hw _ (List.mem_of_getElem? (i := 222) rfl)
theorem w223 {Z : State} {a0 : Array Value} (hw : ∀ d ∈ tables_1, d.before a0 Z = true) : Jvm.Cond.before (Jvm.Cond.methodLink "com/example/kvasir/kvasir/jpql/InputParameterNamedPinLaw" (58 : Nat) ({ cls := "com/example/kvasir/kvasir/jpql/InputParameter", name := "getValue", desc := "()Ljava/lang/Object;" } : Jvm.MethodName)) a0 Z = true := hw _ (List.mem_of_getElem? (i := 223) rfl)
theorem w224 {Z : State} {a0 : Array Value} (hw : ∀ d ∈ tables_1, d.before a0 Z = true) : Jvm.Cond.before (Jvm.Cond.declares ({ cls := "com/example/kvasir/kvasir/jpql/InputParameter", name := "getValue", desc := "()Ljava/lang/Object;" } : Jvm.MethodName)) a0 Z = true := hw _ (List.mem_of_getElem? (i := 224) rfl)
theorem w225 {Z : State} {a0 : Array Value} (hw : ∀ d ∈ tables_1, d.before a0 Z = true) : Jvm.Cond.before (Jvm.Cond.instanceMethod ({ cls := "com/example/kvasir/kvasir/jpql/InputParameter", name := "getValue", desc := "()Ljava/lang/Object;" } : Jvm.MethodName)) a0 Z = true := hw _ (List.mem_of_getElem? (i := 225) rfl)
theorem w226 {Z : State} {a0 : Array Value} (hw : ∀ d ∈ tables_1, d.before a0 Z = true) : Jvm.Cond.before (Jvm.Cond.selects "com/example/kvasir/kvasir/jpql/InputParameter" ({ cls := "com/example/kvasir/kvasir/jpql/InputParameter", name := "getValue", desc := "()Ljava/lang/Object;" } : Jvm.MethodName) ({ cls := "com/example/kvasir/kvasir/jpql/InputParameter", name := "getValue", desc := "()Ljava/lang/Object;" } : Jvm.MethodName)) a0 Z = true := hw _ (List.mem_of_getElem? (i := 226) rfl)
theorem w227 {Z : State} {a0 : Array Value} (hw : ∀ d ∈ tables_1, d.before a0 Z = true) : Jvm.Cond.before (Jvm.Cond.code ({ cls := "com/example/kvasir/kvasir/jpql/InputParameter", name := "getValue", desc := "()Ljava/lang/Object;" } : Jvm.MethodName) prog_39_method_8_code (1 : Nat) (Option.some (Jvm.ClassFile.FieldType.object "java/lang/Object"))) a0 Z = true := hw _ (List.mem_of_getElem? (i := 227) rfl)
theorem w228 {Z : State} {a0 : Array Value} (hw : ∀ d ∈ tables_1, d.before a0 Z = true) : Jvm.Cond.before (Jvm.Cond.fieldLink "com/example/kvasir/kvasir/jpql/InputParameter" (27 : Nat) "com/example/kvasir/kvasir/jpql/InputParameter" "value" "Ljava/lang/Object;") a0 Z = true := hw _ (List.mem_of_getElem? (i := 228) rfl)
theorem w229 {Z : State} {a0 : Array Value} (hw : ∀ d ∈ tables_1, d.before a0 Z = true) : Jvm.Cond.before (Jvm.Cond.lays "com/example/kvasir/kvasir/jpql/InputParameter" "com/example/kvasir/kvasir/jpql/InputParameter" "value" "Ljava/lang/Object;") a0 Z = true := hw _ (List.mem_of_getElem? (i := 229) rfl)
theorem w230 {Z : State} {a0 : Array Value} (hw : ∀ d ∈ tables_1, d.before a0 Z = true) : Jvm.Cond.before (Jvm.Cond.methodLink "com/example/kvasir/kvasir/jpql/InputParameterNamedPinLaw" (62 : Nat) ({ cls := "com/example/kvasir/kvasir/jpql/InputParameter", name := "getMembers", desc := "()Ljava/util/List;" } : Jvm.MethodName)) a0 Z = true := hw _ (List.mem_of_getElem? (i := 230) rfl)
theorem w231 {Z : State} {a0 : Array Value} (hw : ∀ d ∈ tables_1, d.before a0 Z = true) : Jvm.Cond.before (Jvm.Cond.declares ({ cls := "com/example/kvasir/kvasir/jpql/InputParameter", name := "getMembers", desc := "()Ljava/util/List;" } : Jvm.MethodName)) a0 Z = true := hw _ (List.mem_of_getElem? (i := 231) rfl)
theorem w232 {Z : State} {a0 : Array Value} (hw : ∀ d ∈ tables_1, d.before a0 Z = true) : Jvm.Cond.before (Jvm.Cond.instanceMethod ({ cls := "com/example/kvasir/kvasir/jpql/InputParameter", name := "getMembers", desc := "()Ljava/util/List;" } : Jvm.MethodName)) a0 Z = true := hw _ (List.mem_of_getElem? (i := 232) rfl)
theorem w233 {Z : State} {a0 : Array Value} (hw : ∀ d ∈ tables_1, d.before a0 Z = true) : Jvm.Cond.before (Jvm.Cond.selects "com/example/kvasir/kvasir/jpql/InputParameter" ({ cls := "com/example/kvasir/kvasir/jpql/InputParameter", name := "getMembers", desc := "()Ljava/util/List;" } : Jvm.MethodName) ({ cls := "com/example/kvasir/kvasir/jpql/InputParameter", name := "getMembers", desc := "()Ljava/util/List;" } : Jvm.MethodName)) a0 Z = true := hw _ (List.mem_of_getElem? (i := 233) rfl)
theorem w234 {Z : State} {a0 : Array Value} (hw : ∀ d ∈ tables_1, d.before a0 Z = true) : Jvm.Cond.before (Jvm.Cond.code ({ cls := "com/example/kvasir/kvasir/jpql/InputParameter", name := "getMembers", desc := "()Ljava/util/List;" } : Jvm.MethodName) prog_39_method_9_code (1 : Nat) (Option.some (Jvm.ClassFile.FieldType.object "java/util/List"))) a0 Z = true := hw _ (List.mem_of_getElem? (i := 234) rfl)
theorem w235 {Z : State} {a0 : Array Value} (hw : ∀ d ∈ tables_1, d.before a0 Z = true) : Jvm.Cond.before (Jvm.Cond.fieldLink "com/example/kvasir/kvasir/jpql/InputParameter" (31 : Nat) "com/example/kvasir/kvasir/jpql/InputParameter" "members" "Ljava/util/List;") a0 Z = true := hw _ (List.mem_of_getElem? (i := 235) rfl)
theorem w236 {Z : State} {a0 : Array Value} (hw : ∀ d ∈ tables_1, d.before a0 Z = true) : Jvm.Cond.before (Jvm.Cond.lays "com/example/kvasir/kvasir/jpql/InputParameter" "com/example/kvasir/kvasir/jpql/InputParameter" "members" "Ljava/util/List;") a0 Z = true := hw _ (List.mem_of_getElem? (i := 236) rfl)
theorem w237 {Z : State} {a0 : Array Value} (hw : ∀ d ∈ tables_1, d.before a0 Z = true) : Jvm.Cond.before (Jvm.Cond.classLink "java/lang/String" (10 : Nat) "java/lang/String") a0 Z = true := hw _ (List.mem_of_getElem? (i := 237) rfl)
theorem w238 {Z : State} {a0 : Array Value} (hw : ∀ d ∈ tables_1, d.before a0 Z = true) : Jvm.Cond.before (Jvm.Cond.methodLink "java/lang/String" (541 : Nat) ({ cls := "java/lang/StringLatin1", name := "equals", desc := "([B[B)Z" } : Jvm.MethodName)) a0 Z = true := hw _ (List.mem_of_getElem? (i := 238) rfl)
theorem w239 {Z : State} {a0 : Array Value} (hw : ∀ d ∈ tables_1, d.before a0 Z = true) : Jvm.Cond.before (Jvm.Cond.static ({ cls := "java/lang/StringLatin1", name := "equals", desc := "([B[B)Z" } : Jvm.MethodName)) a0 Z = true := hw _ (List.mem_of_getElem? (i := 239) rfl)
theorem w240 {Z : State} {a0 : Array Value} (hw : ∀ d ∈ tables_1, d.before a0 Z = true) : Jvm.Cond.before (Jvm.Cond.initialized "java/lang/StringLatin1") a0 Z = true := hw _ (List.mem_of_getElem? (i := 240) rfl)
theorem w241 {Z : State} {a0 : Array Value} (hw : ∀ d ∈ tables_1, d.before a0 Z = true) : Jvm.Cond.before (Jvm.Cond.code ({ cls := "java/lang/StringLatin1", name := "equals", desc := "([B[B)Z" } : Jvm.MethodName) jdk_43_method_13_code (3 : Nat) (Option.some Jvm.ClassFile.FieldType.boolean)) a0 Z = true := hw _ (List.mem_of_getElem? (i := 241) rfl)
def own_EL : List (String × Nat) := [("com/example/kvasir/kvasir/jpql/InputParameter", 129), ("java/lang/String", 7)]
theorem own_hEL {Z : State} {a0 : Array Value} (hw : ∀ d ∈ tables_1, d.before a0 Z = true) : EW Z a0 own_EL := EW.cons (w102 hw) (by decide) (EW.cons (w18 hw) (by decide) (EW.nil))
theorem own_wS {Z : State} {a0 : Array Value} (hw : ∀ d ∈ tables_1, d.before a0 Z = true) : ∀ d ∈ Bundle.stringAtoms, d.before a0 Z = true := fun d hd => hw d ((by decide +kernel : ∀ d ∈ Bundle.stringAtoms, d ∈ tables_1) d hd)
theorem pn_0 : plainName "java/lang/String" = true := by first | (simp [plainName, overriddenIn]; done) | decide +kernel
theorem d3_0 : decode jdk_42_method_149_code 0 = .ok (.aload_n 0, 1) := by decide +kernel
theorem d3_1 : decode jdk_42_method_149_code 1 = .ok (.invokespecial 1, 3) := by decide +kernel
theorem d3_4 : decode jdk_42_method_149_code 4 = .ok (.iload_n 3, 1) := by decide +kernel
theorem d3_5 : decode jdk_42_method_149_code 5 = .ok (.ifCond .ne 22, 3) := by decide +kernel
theorem d3_8 : decode jdk_42_method_149_code 8 = .ok (.aload_n 0, 1) := by decide +kernel
theorem d3_9 : decode jdk_42_method_149_code 9 = .ok (.ldc 7, 2) := by decide +kernel
theorem d3_11 : decode jdk_42_method_149_code 11 = .ok (.getfield 9, 3) := by decide +kernel
theorem d3_14 : decode jdk_42_method_149_code 14 = .ok (.putfield 9, 3) := by decide +kernel
theorem d3_17 : decode jdk_42_method_149_code 17 = .ok (.aload_n 0, 1) := by decide +kernel
theorem d3_18 : decode jdk_42_method_149_code 18 = .ok (.ldc 7, 2) := by decide +kernel
theorem d3_20 : decode jdk_42_method_149_code 20 = .ok (.getfield 15, 3) := by decide +kernel
theorem d3_23 : decode jdk_42_method_149_code 23 = .ok (.putfield 15, 3) := by decide +kernel
theorem d3_26 : decode jdk_42_method_149_code 26 = .ok (.return_, 1) := by decide +kernel
def Q_own_new4e (Z : State) (G1 : Int32) (G3 : Value) (a : Addr) (b : Addr) (h0 : Heap) (n0 : Nat) (v : Option Value) (h : Heap) (L : List Loc) : Prop := ∃ (t : Addr), ∃ (kb : ClassId), v = none ∧ Fr n0 L ∧ Keep h0 h [a] ∧ Exa Z h a "java/lang/String" ∧ Fld Z h a "java/lang/String" "value" "[B" (.ref t) ∧ Fld Z h a "java/lang/String" "coder" "B" (.int (0 : Int32)) ∧ Arv Z h t kb .byte (0 : Int32) [] (.int 0)
set_option maxRecDepth 65536 in
set_option maxHeartbeats 40000000 in
theorem own_new4e (l : Launch) (Z : State) (a0 : Array Value) (hw : ∀ d ∈ tables_1, d.before a0 Z = true) (ws : List Jvm.Cond) (G1 : Int32) (G3 : Value) (a : Addr) (b : Addr) (h0 : Heap) (n0 : Nat) (Z0 : n0 ≤ h0.size) (O2 : Sta Z Z.heap "java/lang/String" "COMPACT_STRINGS" "Z" (.int G1)) (O4 : Sta Z Z.heap "jdk/internal/util/Preconditions" "SIOOBE_FORMATTER" "Ljava/util/function/BiFunction;" G3) (P5 : ¬ (G1 = (0 : Int32))) (rG3 : G3.isRef = true) (OLD0 : Old Z n0 h0) (E_a : Exa Z h0 a "java/lang/String") (ge_a : n0 ≤ a) (F_value_a : Fld Z h0 a "java/lang/String" "value" "[B" .null) (F_coder_a : Fld Z h0 a "java/lang/String" "coder" "B" (.int (0 : Int32))) :
    MetFree l (⟨"java/lang/String", "<init>", "([CIILjava/lang/Void;)V"⟩ : MethodName) (head1 (Jvm.Cond.code (⟨"java/lang/String", "<init>", "([CIILjava/lang/Void;)V"⟩ : MethodName) jdk_42_method_149_code 6 none :: ws) ({ frames := 1, cells := 4, slots := 8, locals := 12 } : Room)) (fun ag U => ag = #[(.ref a), (.ref b), (.int (0 : Int32)), (.int (0 : Int32)), .null] ∧ Z.Warmed39 U.vm ∧ U.heap = h0 ∧ CHv Z own_EL U.vm h0) (fun _ _ _ _ _ => True) (fun _ U o U' => ∃ v L, o = .returned v ∧ Q_own_new4e Z G1 G3 a b h0 n0 v U'.heap L ∧ CHr Z own_EL U.vm U.heap U'.vm U'.heap ∧ ReturnedEndW U o U' L ({ frames := 1, cells := 4, slots := 8, locals := 12 } : Room).cells ({ frames := 1, cells := 4, slots := 8, locals := 12 } : Room).slots) := by
  refine own_bodyW (plainFor_of_name pn_0) ?_
  intro p e s m below meth c s₁ Bd hml hZ e0 hh0 CH0
  have hx := Bd.exec
  have hby := Bd.bytes
  have hlk : meth.locks = false := BodyLoose.notSynchronized Bd
  have hown : s.vm.findClass "java/lang/String" = some m.cls := findClass_of_methodNamed Bd.named
  have hnm := (name_of_methodNamed Bd.named Bd.method).1
  have X0 : Stand p l e ({ frames := 1, cells := 4, slots := 8, locals := 12 } : Room) (s.setVm s.vm) m #[(.ref a), (.ref b), (.int (0 : Int32)), (.int (0 : Int32)), .null] below meth c s₁ [] 0 0 := Stand.of_body Bd
  have N0 := Fr.nil n0
  have hS := (State.WarmedH.refl s).since h0.size
  have hk0 : h0.size ≤ h0.size := Nat.le_refl _
  have KP0 : Keep h0 h0 [a] := Keep.refl h0 [a]
  have lt_a := E_a.lt
  refine own_cast (g' := (mkF m 0 #[.val (.ref a), .val (.ref b), .val (.int (0 : Int32)), .val (.int (0 : Int32)), .val .null, .unset] [])) (by first | (simp [entryFrame, mkF, argsToLocals, own_cat_int, own_cat_long, own_cat_ref, own_cat_null]; done) | rfl) ?_
  refine own_step (T' := s₁) (g' := (mkF m 1 #[.val (.ref a), .val (.ref b), .val (.int (0 : Int32)), .val (.int (0 : Int32)), .val .null, .unset] [(.ref a)])) (fun _ q => XS.aloadN X0.here hx rfl (hb hby d3_0) rfl rfl q) ?_
  obtain ⟨T1, X1, e1, st1⟩ := initO X0 hx hZ hown (w15 hw) (w16 hw) (w17 hw) e0 (g := (mkF m 1 #[.val (.ref a), .val (.ref b), .val (.int (0 : Int32)), .val (.int (0 : Int32)), .val .null, .unset] [(.ref a)])) rfl (by rw [hml]; rfl) rfl (hb hby d3_1) (Nat.le_of_ble_eq_true rfl) (W := 0) (by show 2 * 0 + _ ≤ _; exact Nat.le_of_eq rfl) (Nat.le_of_ble_eq_true rfl)
  refine own_step (T' := T1) (g' := (mkF m 4 #[.val (.ref a), .val (.ref b), .val (.int (0 : Int32)), .val (.int (0 : Int32)), .val .null, .unset] [])) st1 ?_
  refine own_step (T' := T1) (g' := (mkF m 5 #[.val (.ref a), .val (.ref b), .val (.int (0 : Int32)), .val (.int (0 : Int32)), .val .null, .unset] [(.int (0 : Int32))])) (fun _ q => XS.iloadN X1.here hx rfl (hb hby d3_4) rfl q) ?_
  refine own_step (T' := T1) (g' := (mkF m 8 #[.val (.ref a), .val (.ref b), .val (.int (0 : Int32)), .val (.int (0 : Int32)), .val .null, .unset] [])) (fun _ q => XS.ifNo X1.here hx rfl (hb hby d3_5) rfl (by decide) q) ?_
  refine own_step (T' := T1) (g' := (mkF m 9 #[.val (.ref a), .val (.ref b), .val (.int (0 : Int32)), .val (.int (0 : Int32)), .val .null, .unset] [(.ref a)])) (fun _ q => XS.aloadN X1.here hx rfl (hb hby d3_8) rfl rfl q) ?_
  obtain ⟨a2, T2, h2, k2, b2, kb2, X2, e2, E2, hS, hk2, hZ, hown, fE2, fC2, fV2, fA2, lta2, ltb2, C2, Li2, sf2, st2⟩ := ldcCH X1 hx hZ hown (w18 hw) (own_wS hw) e1 hS hk0 (own_hEL hw) (by decide) CH0.1 (vs := []) (z := (0 : Int32)) ⟨by decide, by decide⟩ (by decide) rfl (g := (mkF m 9 #[.val (.ref a), .val (.ref b), .val (.int (0 : Int32)), .val (.int (0 : Int32)), .val .null, .unset] [(.ref a)])) rfl (hb hby d3_9) (n := 0) (by decide) (by decide) (by first | decide | (dsimp only; omega)) (by first | decide | (dsimp only; omega))
  have CH3 := CH0.trans C2
  have c5 := (E_a.ext E2)
  have c6 := (F_value_a.ext E2)
  have sf4 := own_safe_null (EL := own_EL) hZ.alike c5 c6
  have ne7 := sf2 a sf4
  refine own_step (T' := T2) (g' := (mkF m 11 #[.val (.ref a), .val (.ref b), .val (.int (0 : Int32)), .val (.int (0 : Int32)), .val .null, .unset] [(.ref a2), (.ref a)])) st2 ?_
  obtain ⟨T8, X8, e8, st8⟩ := getF X2 hx hZ hown (host := "") (Or.inl (w24 hw)) Via.refl e2 fV2 (g := (mkF m 11 #[.val (.ref a), .val (.ref b), .val (.int (0 : Int32)), .val (.int (0 : Int32)), .val .null, .unset] [(.ref a2), (.ref a)])) rfl rfl (hb hby d3_11)
  refine own_step (T' := T8) (g' := (mkF m 14 #[.val (.ref a), .val (.ref b), .val (.int (0 : Int32)), .val (.int (0 : Int32)), .val .null, .unset] [(.ref b2), (.ref a)])) st8 ?_
  obtain ⟨T9, h9, X9, e9, W9, st9⟩ := putF X8 hx hZ hown (host := "") (Or.inl (w24 hw)) Via.refl e8 c6 c5 (Or.inr ⟨(w20 hw), rfl, hnm⟩) (w5 hw) (ty := (.array .byte)) (by decide) rfl rfl (g := (mkF m 14 #[.val (.ref a), .val (.ref b), .val (.int (0 : Int32)), .val (.int (0 : Int32)), .val .null, .unset] [(.ref b2), (.ref a)])) rfl rfl (hb hby d3_14)
  have F10 := c6.same W9
  have N11 := Fr.snoc X9 N0 ge_a
  have CH12 := CH3.trans (CHr.wr W9 sf4 CH3.1)
  refine own_step (T' := T9) (g' := (mkF m 17 #[.val (.ref a), .val (.ref b), .val (.int (0 : Int32)), .val (.int (0 : Int32)), .val .null, .unset] [])) st9 ?_
  refine own_step (T' := T9) (g' := (mkF m 18 #[.val (.ref a), .val (.ref b), .val (.int (0 : Int32)), .val (.int (0 : Int32)), .val .null, .unset] [(.ref a)])) (fun _ q => XS.aloadN X9.here hx rfl (hb hby d3_17) rfl rfl q) ?_
  have c14 := (Nat.le_trans hk2 (Keep.of_wr W9).1)
  obtain ⟨a13, T13, h13, k13, b13, kb13, X13, e13, E13, hS, hk13, hZ, hown, fE13, fC13, fV13, fA13, lta13, ltb13, C13, Li13, sf13, st13⟩ := ldcCH X9 hx hZ hown (w18 hw) (own_wS hw) e9 hS c14 (own_hEL hw) (by decide) CH12.1 (vs := []) (z := (0 : Int32)) ⟨by decide, by decide⟩ (by decide) rfl (g := (mkF m 18 #[.val (.ref a), .val (.ref b), .val (.int (0 : Int32)), .val (.int (0 : Int32)), .val .null, .unset] [(.ref a)])) rfl (hb hby d3_18) (n := 0) (by decide) (by decide) (by first | decide | (dsimp only; omega)) (by first | decide | (dsimp only; omega))
  have CH15 := CH12.trans C13
  have c16 := (CHr.safe C13 (own_lt (own_lt lt_a E2.1) (Keep.of_wr W9).1) (Safe.wr W9 sf4 CH3.1 sf4))
  have ne17 := sf13 a c16
  refine own_step (T' := T13) (g' := (mkF m 20 #[.val (.ref a), .val (.ref b), .val (.int (0 : Int32)), .val (.int (0 : Int32)), .val .null, .unset] [(.ref a13), (.ref a)])) st13 ?_
  obtain ⟨T18, X18, e18, st18⟩ := getF X13 hx hZ hown (host := "") (Or.inl (w25 hw)) Via.refl e13 fC13 (g := (mkF m 20 #[.val (.ref a), .val (.ref b), .val (.int (0 : Int32)), .val (.int (0 : Int32)), .val .null, .unset] [(.ref a13), (.ref a)])) rfl rfl (hb hby d3_20)
  refine own_step (T' := T18) (g' := (mkF m 23 #[.val (.ref a), .val (.ref b), .val (.int (0 : Int32)), .val (.int (0 : Int32)), .val .null, .unset] [(.int (0 : Int32)), (.ref a)])) st18 ?_
  have c19 := ((c5.wr W9).ext E13)
  have c20 := (((F_coder_a.ext E2).other W9 (Or.inr (RoadKit.slot_ne (t := .byte) (t' := (.array .byte)) (Or.inr (w21 hw)) (Or.inr (w20 hw)) (by decide) (by decide) (by decide)))).ext E13)
  obtain ⟨T21, h21, X21, e21, W21, st21⟩ := putFN X18 hx hZ hown (w25 hw) Via.refl e18 c20 c19 (Or.inr ⟨(w21 hw), rfl, hnm⟩) (w5 hw) (ty := .byte) (v' := (.int (0 : Int32))) (by decide) rfl rfl (g := (mkF m 23 #[.val (.ref a), .val (.ref b), .val (.int (0 : Int32)), .val (.int (0 : Int32)), .val .null, .unset] [(.int (0 : Int32)), (.ref a)])) rfl rfl (hb hby d3_23)
  have F22 := c20.same W21
  have N23 := Fr.snoc X21 N11 ge_a
  have CH24 := CH15.trans (CHr.wr W21 c16 CH15.1)
  refine own_step (T' := T21) (g' := (mkF m 26 #[.val (.ref a), .val (.ref b), .val (.int (0 : Int32)), .val (.int (0 : Int32)), .val .null, .unset] [])) st21 ?_
  have c25 := ((((KP0.ext E2).wr W9 (Or.inl (List.mem_of_getElem? (i := 0) rfl))).ext E13).wr W21 (Or.inl (List.mem_of_getElem? (i := 0) rfl)))
  have c26 := (c19.wr W21)
  have c27 := ((F10.ext E13).other W21 (Or.inr (RoadKit.slot_ne (t := (.array .byte)) (t' := .byte) (Or.inr (w20 hw)) (Or.inr (w21 hw)) (by decide) (by decide) (by decide))))
  have c28 := (((fA2.other W9 (Ne.symm ne7.2)).ext E13).other W21 (Ne.symm ne7.2))
  have c29 := (Nat.le_trans hk13 (Keep.of_wr W21).1)
  exact own_retVW X21 hx hZ (own_hEL hw) hS (by rw [e21]; exact c29) (by rw [e21]; exact CH24) Bd.returns (hb hby d3_26) hlk (by rw [e21]; exact ⟨b2, kb2, rfl, N23, c25, c26, c27, F22, c28⟩) (by first | decide | (dsimp only; omega)) (by first | decide | (dsimp only; omega))
theorem pd_0 : parseMethodDescriptor "([CIILjava/lang/Void;)V" = some ⟨[(.array .char), .int, .int, (.object "java/lang/Void")], none⟩ := by decide +kernel
theorem d2_0 : decode jdk_42_method_3_code 0 = .ok (.aload_n 0, 1) := by decide +kernel
theorem d2_1 : decode jdk_42_method_3_code 1 = .ok (.aload_n 1, 1) := by decide +kernel
theorem d2_2 : decode jdk_42_method_3_code 2 = .ok (.iconst 0, 1) := by decide +kernel
theorem d2_3 : decode jdk_42_method_3_code 3 = .ok (.aload_n 1, 1) := by decide +kernel
theorem d2_4 : decode jdk_42_method_3_code 4 = .ok (.arraylength, 1) := by decide +kernel
theorem d2_5 : decode jdk_42_method_3_code 5 = .ok (.aconst_null, 1) := by decide +kernel
theorem d2_6 : decode jdk_42_method_3_code 6 = .ok (.invokespecial 27, 3) := by decide +kernel
theorem d2_9 : decode jdk_42_method_3_code 9 = .ok (.return_, 1) := by decide +kernel
def Q_own_new1e (Z : State) (G1 : Int32) (G3 : Value) (a : Addr) (b : Addr) (kc : ClassId) (dv : Value) (h0 : Heap) (n0 : Nat) (v : Option Value) (h : Heap) (L : List Loc) : Prop := ∃ (t : Addr), ∃ (kb : ClassId), v = none ∧ Fr n0 L ∧ Keep h0 h [a] ∧ Exa Z h a "java/lang/String" ∧ Fld Z h a "java/lang/String" "value" "[B" (.ref t) ∧ Fld Z h a "java/lang/String" "coder" "B" (.int (0 : Int32)) ∧ Arv Z h t kb .byte (0 : Int32) [] (.int 0)
set_option maxRecDepth 65536 in
set_option maxHeartbeats 40000000 in
theorem own_new1e (l : Launch) (Z : State) (a0 : Array Value) (hw : ∀ d ∈ tables_1, d.before a0 Z = true) (ws : List Jvm.Cond) (G1 : Int32) (G3 : Value) (a : Addr) (b : Addr) (kc : ClassId) (dv : Value) (h0 : Heap) (n0 : Nat) (Z0 : n0 ≤ h0.size) (O2 : Sta Z Z.heap "java/lang/String" "COMPACT_STRINGS" "Z" (.int G1)) (O4 : Sta Z Z.heap "jdk/internal/util/Preconditions" "SIOOBE_FORMATTER" "Ljava/util/function/BiFunction;" G3) (P5 : ¬ (G1 = (0 : Int32))) (rG3 : G3.isRef = true) (OLD0 : Old Z n0 h0) (E_a : Exa Z h0 a "java/lang/String") (ge_a : n0 ≤ a) (F_value_a : Fld Z h0 a "java/lang/String" "value" "[B" .null) (F_coder_a : Fld Z h0 a "java/lang/String" "coder" "B" (.int (0 : Int32))) (V_b : Arv Z h0 b kc .char (0 : Int32) [] dv) :
    MetFree l (⟨"java/lang/String", "<init>", "([C)V"⟩ : MethodName) (head1 (Jvm.Cond.code (⟨"java/lang/String", "<init>", "([C)V"⟩ : MethodName) jdk_42_method_3_code 2 none :: ws) ({ frames := 2, cells := 4, slots := 8, locals := 29 } : Room)) (fun ag U => ag = #[(.ref a), (.ref b)] ∧ Z.Warmed39 U.vm ∧ U.heap = h0 ∧ CHv Z own_EL U.vm h0) (fun _ _ _ _ _ => True) (fun _ U o U' => ∃ v L, o = .returned v ∧ Q_own_new1e Z G1 G3 a b kc dv h0 n0 v U'.heap L ∧ CHr Z own_EL U.vm U.heap U'.vm U'.heap ∧ ReturnedEndW U o U' L ({ frames := 2, cells := 4, slots := 8, locals := 29 } : Room).cells ({ frames := 2, cells := 4, slots := 8, locals := 29 } : Room).slots) := by
  refine own_bodyW (plainFor_of_name pn_0) ?_
  intro p e s m below meth c s₁ Bd hml hZ e0 hh0 CH0
  have hx := Bd.exec
  have hby := Bd.bytes
  have hlk : meth.locks = false := BodyLoose.notSynchronized Bd
  have hown : s.vm.findClass "java/lang/String" = some m.cls := findClass_of_methodNamed Bd.named
  have hnm := (name_of_methodNamed Bd.named Bd.method).1
  have X0 : Stand p l e ({ frames := 2, cells := 4, slots := 8, locals := 29 } : Room) (s.setVm s.vm) m #[(.ref a), (.ref b)] below meth c s₁ [] 0 0 := Stand.of_body Bd
  have N0 := Fr.nil n0
  have hS := (State.WarmedH.refl s).since h0.size
  have hk0 : h0.size ≤ h0.size := Nat.le_refl _
  have KP0 : Keep h0 h0 [a] := Keep.refl h0 [a]
  have lt_a := E_a.lt
  have lt_b := V_b.lt
  have ty_a_b : a ≠ b := (Exa.neArv E_a V_b (w5 hw))
  refine own_cast (g' := (mkF m 0 #[.val (.ref a), .val (.ref b)] [])) (by first | (simp [entryFrame, mkF, argsToLocals, own_cat_int, own_cat_long, own_cat_ref, own_cat_null]; done) | rfl) ?_
  refine own_step (T' := s₁) (g' := (mkF m 1 #[.val (.ref a), .val (.ref b)] [(.ref a)])) (fun _ q => XS.aloadN X0.here hx rfl (hb hby d2_0) rfl rfl q) ?_
  refine own_step (T' := s₁) (g' := (mkF m 2 #[.val (.ref a), .val (.ref b)] [(.ref b), (.ref a)])) (fun _ q => XS.aloadN X0.here hx rfl (hb hby d2_1) rfl rfl q) ?_
  refine own_step (T' := s₁) (g' := (mkF m 3 #[.val (.ref a), .val (.ref b)] [(.int (0 : Int32)), (.ref b), (.ref a)])) (fun _ q => XS.iconst X0.here hx rfl (hb hby d2_2) q) ?_
  refine own_step (T' := s₁) (g' := (mkF m 4 #[.val (.ref a), .val (.ref b)] [(.ref b), (.int (0 : Int32)), (.ref b), (.ref a)])) (fun _ q => XS.aloadN X0.here hx rfl (hb hby d2_3) rfl rfl q) ?_
  refine own_step (T' := s₁) (g' := (mkF m 5 #[.val (.ref a), .val (.ref b)] [(.int (0 : Int32)), (.int (0 : Int32)), (.ref b), (.ref a)])) (fun _ q => own_len X0 hx hZ e0 V_b (g := (mkF m 4 #[.val (.ref a), .val (.ref b)] [(.ref b), (.int (0 : Int32)), (.ref b), (.ref a)])) rfl rfl (hb hby d2_4) _ q) ?_
  refine own_step (T' := s₁) (g' := (mkF m 6 #[.val (.ref a), .val (.ref b)] [.null, (.int (0 : Int32)), (.int (0 : Int32)), (.ref b), (.ref a)])) (fun _ q => XS.aconstNull X0.here hx rfl (hb hby d2_5) q) ?_
  refine own_callCW X0 hx hZ hown hS hk0 rfl (w11 hw) (w12 hw) (w14 hw) (by decide) (backOfSH (W := 0) (own_new4e l Z a0 hw [] G1 G3 a b h0 n0 Z0 O2 O4 P5 rG3 OLD0 E_a ge_a F_value_a F_coder_a) hZ (w14 hw) (w6 hw) (Nat.le_of_ble_eq_true rfl) (Nat.le_of_ble_eq_true rfl) (own_hEL hw) CH0.1) e0  (by first | decide | (dsimp only; omega)) (by first | decide | (dsimp only; omega)) (g := (mkF m 6 #[.val (.ref a), .val (.ref b)] [.null, (.int (0 : Int32)), (.int (0 : Int32)), (.ref b), (.ref a)])) (argsL := [(.ref b), (.int (0 : Int32)), (.int (0 : Int32)), .null]) (rest := []) rfl (by rw [hml]; rfl) (lenOf pd_0 rfl) rfl rfl (by show 2 * 0 + _ ≤ _; exact Nat.le_of_eq rfl) (hb hby d2_6) ?_
  rintro _ T30 L30 X30 hS hZ hown C30 ⟨t30, kb30, rfl, N30q, K30, f0_30, f1_30, f2_30, f3_30⟩
  have CH31 := CH0.trans C30
  have lt32 := f3_30.lt
  have ty33 : a ≠ t30 := (Exa.neArv f0_30 f3_30 (w5 hw))
  have c34 := (V_b.keep K30 (ninS (Ne.symm ty_a_b) nin0))
  have ty35 : b ≠ t30 := (own_arr_ne c34 f3_30 (by decide))
  have N36 := Fr.app N0 N30q
  show own_Fin p e below _ T30 (mkF m 9 #[.val (.ref a), .val (.ref b)] [])
  have c37 := (KP0.trans K30 (allS (Or.inl (List.mem_of_getElem? (i := 0) rfl)) all0))
  exact own_retVW X30 hx hZ (own_hEL hw) hS (Nat.le_refl _) CH31 Bd.returns (hb hby d2_9) hlk ⟨t30, kb30, rfl, N36, c37, f0_30, f1_30, f2_30, f3_30⟩ (by first | decide | (dsimp only; omega)) (by first | decide | (dsimp only; omega))
theorem d20_0 : decode jdk_42_method_152_code 0 = .ok (.getstatic 38, 3) := by decide +kernel
theorem d20_3 : decode jdk_42_method_152_code 3 = .ok (.ifCond .eq 10, 3) := by decide +kernel
theorem d20_6 : decode jdk_42_method_152_code 6 = .ok (.aload_n 0, 1) := by decide +kernel
theorem d20_7 : decode jdk_42_method_152_code 7 = .ok (.getfield 15, 3) := by decide +kernel
theorem d20_10 : decode jdk_42_method_152_code 10 = .ok (.goto 4, 3) := by decide +kernel
theorem d20_14 : decode jdk_42_method_152_code 14 = .ok (.ireturn, 1) := by decide +kernel
def Q_own_cod0 (Z : State) (G1 : Int32) (G3 : Value) (a : Addr) (h0 : Heap) (n0 : Nat) (v : Option Value) (h : Heap) (L : List Loc) : Prop := v = some (.int (0 : Int32)) ∧ Fr n0 L ∧ h = h0
set_option maxRecDepth 65536 in
set_option maxHeartbeats 40000000 in
theorem own_cod0 (l : Launch) (Z : State) (a0 : Array Value) (hw : ∀ d ∈ tables_1, d.before a0 Z = true) (ws : List Jvm.Cond) (G1 : Int32) (G3 : Value) (a : Addr) (h0 : Heap) (n0 : Nat) (Z0 : n0 ≤ h0.size) (O2 : Sta Z Z.heap "java/lang/String" "COMPACT_STRINGS" "Z" (.int G1)) (O4 : Sta Z Z.heap "jdk/internal/util/Preconditions" "SIOOBE_FORMATTER" "Ljava/util/function/BiFunction;" G3) (P5 : ¬ (G1 = (0 : Int32))) (rG3 : G3.isRef = true) (OLD0 : Old Z n0 h0) (F_coder_a : Fld Z h0 a "java/lang/String" "coder" "B" (.int (0 : Int32))) :
    MetFree l (⟨"java/lang/String", "coder", "()B"⟩ : MethodName) (head1 (Jvm.Cond.code (⟨"java/lang/String", "coder", "()B"⟩ : MethodName) jdk_42_method_152_code 1 (some .byte) :: ws) ({ frames := 0, cells := 0, slots := 0, locals := 0 } : Room)) (fun ag U => ag = #[(.ref a)] ∧ Z.Warmed39 U.vm ∧ U.heap = h0) (fun _ _ _ _ _ => True) (fun _ U o U' => ∃ v L, o = .returned v ∧ Q_own_cod0 Z G1 G3 a h0 n0 v U'.heap L ∧ FrameEnd U o U' L ({ frames := 0, cells := 0, slots := 0, locals := 0 } : Room).cells ({ frames := 0, cells := 0, slots := 0, locals := 0 } : Room).slots) := by
  refine own_body (plainFor_of_name pn_0) ?_
  intro p e s m below meth c s₁ Bd hml hZ e0
  have hx := Bd.exec
  have hby := Bd.bytes
  have hlk : meth.locks = false := BodyLoose.notSynchronized Bd
  have hown : s.vm.findClass "java/lang/String" = some m.cls := findClass_of_methodNamed Bd.named
  have hnm := (name_of_methodNamed Bd.named Bd.method).1
  have X0 : Stand p l e ({ frames := 0, cells := 0, slots := 0, locals := 0 } : Room) s m #[(.ref a)] below meth c s₁ [] 0 0 := Stand.of_body Bd
  have N0 := Fr.nil n0
  have KP0 : Keep h0 h0 [] := Keep.refl h0 []
  have lt_a := F_coder_a.lt
  refine own_cast (g' := (mkF m 0 #[.val (.ref a)] [])) (by first | (simp [entryFrame, mkF, argsToLocals, own_cat_int, own_cat_long, own_cat_ref, own_cat_null]; done) | rfl) ?_
  obtain ⟨T38, X38, e38, st38⟩ := getS2 X0 hx hZ hown (host := "") (Or.inl (w29 hw)) Via.refl e0 (O2.ext OLD0.2) (g := (mkF m 0 #[.val (.ref a)] [])) rfl (hb hby d20_0)
  refine own_step (T' := T38) (g' := (mkF m 3 #[.val (.ref a)] [(.int G1)])) st38 ?_
  have hc39 : ¬ (G1 = 0) := P5
  refine own_step (T' := T38) (g' := (mkF m 6 #[.val (.ref a)] [])) (fun _ q => XS.ifNo X38.here hx rfl (hb hby d20_3) rfl (XT.i0_eq_f hc39) q) ?_
  refine own_step (T' := T38) (g' := (mkF m 7 #[.val (.ref a)] [(.ref a)])) (fun _ q => XS.aloadN X38.here hx rfl (hb hby d20_6) rfl rfl q) ?_
  obtain ⟨T40, X40, e40, st40⟩ := getF X38 hx hZ hown (host := "") (Or.inl (w25 hw)) Via.refl e38 F_coder_a (g := (mkF m 7 #[.val (.ref a)] [(.ref a)])) rfl rfl (hb hby d20_7)
  refine own_step (T' := T40) (g' := (mkF m 10 #[.val (.ref a)] [(.int (0 : Int32))])) st40 ?_
  refine own_step (T' := T40) (g' := (mkF m 14 #[.val (.ref a)] [(.int (0 : Int32))])) (fun _ q => XS.goto X40.here hx rfl (pc0 := 10) (pc' := 14) rfl (hb hby d20_10) (by decide) (by decide) q) ?_
  exact own_retN X40 hx Bd.returns (by simp) (hb hby d20_14) hlk ⟨rfl, N0, e40⟩ (by first | decide | (dsimp only; omega)) (by first | decide | (dsimp only; omega))
theorem pd_1 : parseMethodDescriptor "()B" = some ⟨[], some .byte⟩ := by decide +kernel
theorem d19_0 : decode jdk_42_method_54_code 0 = .ok (.aload_n 0, 1) := by decide +kernel
theorem d19_1 : decode jdk_42_method_54_code 1 = .ok (.getfield 9, 3) := by decide +kernel
theorem d19_4 : decode jdk_42_method_54_code 4 = .ok (.arraylength, 1) := by decide +kernel
theorem d19_5 : decode jdk_42_method_54_code 5 = .ok (.aload_n 0, 1) := by decide +kernel
theorem d19_6 : decode jdk_42_method_54_code 6 = .ok (.invokevirtual 335, 3) := by decide +kernel
theorem d19_9 : decode jdk_42_method_54_code 9 = .ok (.ishr, 1) := by decide +kernel
theorem d19_10 : decode jdk_42_method_54_code 10 = .ok (.ireturn, 1) := by decide +kernel
def Q_own_len0 (Z : State) (G1 : Int32) (G3 : Value) (a : Addr) (t : Addr) (kb : ClassId) (N2 : Int32) (vs : List Value) (h0 : Heap) (n0 : Nat) (v : Option Value) (h : Heap) (L : List Loc) : Prop := v = some (.int N2) ∧ Fr n0 L ∧ h = h0
set_option maxRecDepth 65536 in
set_option maxHeartbeats 40000000 in
theorem own_len0 (l : Launch) (Z : State) (a0 : Array Value) (hw : ∀ d ∈ tables_1, d.before a0 Z = true) (ws : List Jvm.Cond) (G1 : Int32) (G3 : Value) (a : Addr) (t : Addr) (kb : ClassId) (N2 : Int32) (vs : List Value) (h0 : Heap) (n0 : Nat) (Z0 : n0 ≤ h0.size) (O2 : Sta Z Z.heap "java/lang/String" "COMPACT_STRINGS" "Z" (.int G1)) (O4 : Sta Z Z.heap "jdk/internal/util/Preconditions" "SIOOBE_FORMATTER" "Ljava/util/function/BiFunction;" G3) (P5 : ¬ (G1 = (0 : Int32))) (rG3 : G3.isRef = true) (OLD0 : Old Z n0 h0) (E_a : Exa Z h0 a "java/lang/String") (F_value_a : Fld Z h0 a "java/lang/String" "value" "[B" (.ref t)) (F_coder_a : Fld Z h0 a "java/lang/String" "coder" "B" (.int (0 : Int32))) (V_t : Arv Z h0 t kb .byte N2 vs (.int 0)) :
    MetFree l (⟨"java/lang/String", "length", "()I"⟩ : MethodName) (head1 (Jvm.Cond.code (⟨"java/lang/String", "length", "()I"⟩ : MethodName) jdk_42_method_54_code 1 (some .int) :: ws) ({ frames := 1, cells := 0, slots := 0, locals := 13 } : Room)) (fun ag U => ag = #[(.ref a)] ∧ Z.Warmed39 U.vm ∧ U.heap = h0) (fun _ _ _ _ _ => True) (fun _ U o U' => ∃ v L, o = .returned v ∧ Q_own_len0 Z G1 G3 a t kb N2 vs h0 n0 v U'.heap L ∧ FrameEnd U o U' L ({ frames := 1, cells := 0, slots := 0, locals := 13 } : Room).cells ({ frames := 1, cells := 0, slots := 0, locals := 13 } : Room).slots) := by
  refine own_body (plainFor_of_name pn_0) ?_
  intro p e s m below meth c s₁ Bd hml hZ e0
  have hx := Bd.exec
  have hby := Bd.bytes
  have hlk : meth.locks = false := BodyLoose.notSynchronized Bd
  have hown : s.vm.findClass "java/lang/String" = some m.cls := findClass_of_methodNamed Bd.named
  have hnm := (name_of_methodNamed Bd.named Bd.method).1
  have X0 : Stand p l e ({ frames := 1, cells := 0, slots := 0, locals := 13 } : Room) s m #[(.ref a)] below meth c s₁ [] 0 0 := Stand.of_body Bd
  have N0 := Fr.nil n0
  have KP0 : Keep h0 h0 [] := Keep.refl h0 []
  have lt_a := E_a.lt
  have lt_t := V_t.lt
  have ty_a_t : a ≠ t := (Exa.neArv E_a V_t (w5 hw))
  refine own_cast (g' := (mkF m 0 #[.val (.ref a)] [])) (by first | (simp [entryFrame, mkF, argsToLocals, own_cat_int, own_cat_long, own_cat_ref, own_cat_null]; done) | rfl) ?_
  refine own_step (T' := s₁) (g' := (mkF m 1 #[.val (.ref a)] [(.ref a)])) (fun _ q => XS.aloadN X0.here hx rfl (hb hby d19_0) rfl rfl q) ?_
  obtain ⟨T41, X41, e41, st41⟩ := getF X0 hx hZ hown (host := "") (Or.inl (w24 hw)) Via.refl e0 F_value_a (g := (mkF m 1 #[.val (.ref a)] [(.ref a)])) rfl rfl (hb hby d19_1)
  refine own_step (T' := T41) (g' := (mkF m 4 #[.val (.ref a)] [(.ref t)])) st41 ?_
  refine own_step (T' := T41) (g' := (mkF m 5 #[.val (.ref a)] [(.int N2)])) (fun _ q => own_len X41 hx hZ e41 V_t (g := (mkF m 4 #[.val (.ref a)] [(.ref t)])) rfl rfl (hb hby d19_4) _ q) ?_
  refine own_step (T' := T41) (g' := (mkF m 6 #[.val (.ref a)] [(.ref a), (.int N2)])) (fun _ q => XS.aloadN X41.here hx rfl (hb hby d19_5) rfl rfl q) ?_
  refine own_callV (y := (⟨"java/lang/String", "coder", "()B"⟩ : MethodName)) (z := (⟨"java/lang/String", "coder", "()B"⟩ : MethodName)) X41 hx hZ hown (w118 hw) (w119 hw) (notFace_of_selects (args := #[]) (mvT hZ (w121 hw))) (w121 hw) (w120 hw) (by decide) (backOf (W := 1) (own_cod0 l Z a0 hw [] G1 G3 a h0 n0 Z0 O2 O4 P5 rG3 OLD0 F_coder_a) hZ (w122 hw) (w6 hw) (Nat.le_of_ble_eq_true rfl) (Nat.le_of_ble_eq_true rfl)) e41 E_a  (by first | decide | (dsimp only; omega)) (by first | decide | (dsimp only; omega)) (g := (mkF m 6 #[.val (.ref a)] [(.ref a), (.int N2)])) (argsL := []) (rest := [(.int N2)]) rfl (by rw [hml]; rfl) (lenOf pd_1 rfl) rfl rfl (by show 2 * 0 + _ ≤ _; exact Nat.le_of_eq rfl) (hb hby d19_6) ?_
  rintro _ T42 L42 X42 ⟨rfl, N42q, e42⟩
  have N43 := Fr.app N0 N42q
  show own_Fin p e below _ T42 (mkF m 9 #[.val (.ref a)] [(.int (0 : Int32)), (.int N2)])
  refine own_step (T' := T42) (g' := (mkF m 10 #[.val (.ref a)] [(.int (N2 >>> ((0 : Int32) &&& 31)))])) (fun _ q => XT.ishr X42.here hx rfl (hb hby d19_9) rfl q) ?_
  rw [show (N2 >>> ((0 : Int32) &&& 31)) = N2 from (StrChars.shr0 _)]
  exact own_retI X42 hx Bd.returns (hb hby d19_10) hlk ⟨rfl, N43, e42⟩ (by first | decide | (dsimp only; omega)) (by first | decide | (dsimp only; omega))
theorem pn_1 : plainName "java/lang/AbstractStringBuilder" = true := by first | (simp [plainName, overriddenIn]; done) | decide +kernel
theorem d16_0 : decode jdk_68_method_2_code 0 = .ok (.aload_n 0, 1) := by decide +kernel
theorem d16_1 : decode jdk_68_method_2_code 1 = .ok (.invokespecial 3, 3) := by decide +kernel
theorem d16_4 : decode jdk_68_method_2_code 4 = .ok (.getstatic 18, 3) := by decide +kernel
theorem d16_7 : decode jdk_68_method_2_code 7 = .ok (.ifCond .eq 18, 3) := by decide +kernel
theorem d16_10 : decode jdk_68_method_2_code 10 = .ok (.aload_n 0, 1) := by decide +kernel
theorem d16_11 : decode jdk_68_method_2_code 11 = .ok (.iload_n 1, 1) := by decide +kernel
theorem d16_12 : decode jdk_68_method_2_code 12 = .ok (.newarray .byte, 2) := by decide +kernel
theorem d16_14 : decode jdk_68_method_2_code 14 = .ok (.putfield 15, 3) := by decide +kernel
theorem d16_17 : decode jdk_68_method_2_code 17 = .ok (.aload_n 0, 1) := by decide +kernel
theorem d16_18 : decode jdk_68_method_2_code 18 = .ok (.iconst 0, 1) := by decide +kernel
theorem d16_19 : decode jdk_68_method_2_code 19 = .ok (.putfield 22, 3) := by decide +kernel
theorem d16_22 : decode jdk_68_method_2_code 22 = .ok (.goto 16, 3) := by decide +kernel
theorem d16_38 : decode jdk_68_method_2_code 38 = .ok (.return_, 1) := by decide +kernel
def Q_own_asb (Z : State) (G1 : Int32) (G3 : Value) (a : Addr) (h0 : Heap) (n0 : Nat) (v : Option Value) (h : Heap) (L : List Loc) : Prop := ∃ (u : Addr), ∃ (ku : ClassId), v = none ∧ Fr n0 L ∧ Keep h0 h [a] ∧ h0.size ≤ u ∧ Exa Z h a "java/lang/StringBuilder" ∧ Fld Z h a "java/lang/AbstractStringBuilder" "value" "[B" (.ref u) ∧ Fld Z h a "java/lang/AbstractStringBuilder" "coder" "B" (.int (0 : Int32)) ∧ Fld Z h a "java/lang/AbstractStringBuilder" "count" "I" (.int (0 : Int32)) ∧ Arv Z h u ku .byte (16 : Int32) (own_pad []) (.int 0)
set_option maxRecDepth 65536 in
set_option maxHeartbeats 40000000 in
theorem own_asb (l : Launch) (Z : State) (a0 : Array Value) (hw : ∀ d ∈ tables_1, d.before a0 Z = true) (ws : List Jvm.Cond) (G1 : Int32) (G3 : Value) (a : Addr) (h0 : Heap) (n0 : Nat) (Z0 : n0 ≤ h0.size) (O2 : Sta Z Z.heap "java/lang/String" "COMPACT_STRINGS" "Z" (.int G1)) (O4 : Sta Z Z.heap "jdk/internal/util/Preconditions" "SIOOBE_FORMATTER" "Ljava/util/function/BiFunction;" G3) (P5 : ¬ (G1 = (0 : Int32))) (rG3 : G3.isRef = true) (OLD0 : Old Z n0 h0) (E_a : Exa Z h0 a "java/lang/StringBuilder") (ge_a : n0 ≤ a) (F_value_a : Fld Z h0 a "java/lang/AbstractStringBuilder" "value" "[B" .null) (F_coder_a : Fld Z h0 a "java/lang/AbstractStringBuilder" "coder" "B" (.int (0 : Int32))) (F_count_a : Fld Z h0 a "java/lang/AbstractStringBuilder" "count" "I" (.int (0 : Int32))) :
    MetFree l (⟨"java/lang/AbstractStringBuilder", "<init>", "(I)V"⟩ : MethodName) (head1 (Jvm.Cond.code (⟨"java/lang/AbstractStringBuilder", "<init>", "(I)V"⟩ : MethodName) jdk_68_method_2_code 2 none :: ws) ({ frames := 1, cells := 1, slots := 16, locals := 12 } : Room)) (fun ag U => ag = #[(.ref a), (.int (16 : Int32))] ∧ Z.Warmed39 U.vm ∧ U.heap = h0) (fun _ _ _ _ _ => True) (fun _ U o U' => ∃ v L, o = .returned v ∧ Q_own_asb Z G1 G3 a h0 n0 v U'.heap L ∧ FrameEnd U o U' L ({ frames := 1, cells := 1, slots := 16, locals := 12 } : Room).cells ({ frames := 1, cells := 1, slots := 16, locals := 12 } : Room).slots) := by
  refine own_body (plainFor_of_name pn_1) ?_
  intro p e s m below meth c s₁ Bd hml hZ e0
  have hx := Bd.exec
  have hby := Bd.bytes
  have hlk : meth.locks = false := BodyLoose.notSynchronized Bd
  have hown : s.vm.findClass "java/lang/AbstractStringBuilder" = some m.cls := findClass_of_methodNamed Bd.named
  have hnm := (name_of_methodNamed Bd.named Bd.method).1
  have X0 : Stand p l e ({ frames := 1, cells := 1, slots := 16, locals := 12 } : Room) s m #[(.ref a), (.int (16 : Int32))] below meth c s₁ [] 0 0 := Stand.of_body Bd
  have N0 := Fr.nil n0
  have KP0 : Keep h0 h0 [a] := Keep.refl h0 [a]
  have lt_a := E_a.lt
  refine own_cast (g' := (mkF m 0 #[.val (.ref a), .val (.int (16 : Int32))] [])) (by first | (simp [entryFrame, mkF, argsToLocals, own_cat_int, own_cat_long, own_cat_ref, own_cat_null]; done) | rfl) ?_
  refine own_step (T' := s₁) (g' := (mkF m 1 #[.val (.ref a), .val (.int (16 : Int32))] [(.ref a)])) (fun _ q => XS.aloadN X0.here hx rfl (hb hby d16_0) rfl rfl q) ?_
  obtain ⟨T44, X44, e44, st44⟩ := initO X0 hx hZ hown (w96 hw) (w16 hw) (w17 hw) e0 (g := (mkF m 1 #[.val (.ref a), .val (.int (16 : Int32))] [(.ref a)])) rfl (by rw [hml]; rfl) rfl (hb hby d16_1) (Nat.le_of_ble_eq_true rfl) (W := 0) (by show 2 * 0 + _ ≤ _; exact Nat.le_of_eq rfl) (Nat.le_of_ble_eq_true rfl)
  refine own_step (T' := T44) (g' := (mkF m 4 #[.val (.ref a), .val (.int (16 : Int32))] [])) st44 ?_
  obtain ⟨T45, X45, e45, st45⟩ := getS2 X44 hx hZ hown (host := "") (Or.inl (w97 hw)) Via.refl e44 (O2.ext OLD0.2) (g := (mkF m 4 #[.val (.ref a), .val (.int (16 : Int32))] [])) rfl (hb hby d16_4)
  refine own_step (T' := T45) (g' := (mkF m 7 #[.val (.ref a), .val (.int (16 : Int32))] [(.int G1)])) st45 ?_
  have hc46 : ¬ (G1 = 0) := P5
  refine own_step (T' := T45) (g' := (mkF m 10 #[.val (.ref a), .val (.int (16 : Int32))] [])) (fun _ q => XS.ifNo X45.here hx rfl (hb hby d16_7) rfl (XT.i0_eq_f hc46) q) ?_
  refine own_step (T' := T45) (g' := (mkF m 11 #[.val (.ref a), .val (.int (16 : Int32))] [(.ref a)])) (fun _ q => XS.aloadN X45.here hx rfl (hb hby d16_10) rfl rfl q) ?_
  refine own_step (T' := T45) (g' := (mkF m 12 #[.val (.ref a), .val (.int (16 : Int32))] [(.int (16 : Int32)), (.ref a)])) (fun _ q => XS.iloadN X45.here hx rfl (hb hby d16_11) rfl q) ?_
  obtain ⟨T47, h47, k47, X47, e47, E47, A47, st47⟩ := newP X45 hx hZ (aty := .byte) (w19 hw) e45 (g := (mkF m 12 #[.val (.ref a), .val (.int (16 : Int32))] [(.int (16 : Int32)), (.ref a)])) rfl (hb hby d16_12) rfl (by decide) (cap := 16) (by decide) (by first | decide | omega) (by first | decide | (dsimp only; omega)) (by first | decide | (dsimp only; omega))
  obtain ⟨b47, g47⟩ : ∃ z, z = h0.size := ⟨_, rfl⟩
  rw [← g47] at A47 st47
  have n0_48 : n0 ≤ b47 := Nat.le_trans Z0 (Nat.le_of_eq g47.symm)
  have sz0_49 := Nat.le_trans KP0.1 (Nat.le_of_eq g47.symm)
  have ne50 : a ≠ b47 := own_ne lt_a (Nat.le_of_eq g47.symm)
  have V47 : Arv Z h47 b47 k47 .byte (16 : Int32) [(.int (0 : Int32)), (.int (0 : Int32)), (.int (0 : Int32)), (.int (0 : Int32)), (.int (0 : Int32)), (.int (0 : Int32)), (.int (0 : Int32)), (.int (0 : Int32)), (.int (0 : Int32)), (.int (0 : Int32)), (.int (0 : Int32)), (.int (0 : Int32)), (.int (0 : Int32)), (.int (0 : Int32)), (.int (0 : Int32)), (.int (0 : Int32))] (.int (0 : Int32)) := (Arv.new A47 (by decide)).pad (pad_rep [] (.int (0 : Int32)) 16)
  have ltb47 := V47.lt
  refine own_step (T' := T47) (g' := (mkF m 14 #[.val (.ref a), .val (.int (16 : Int32))] [(.ref b47), (.ref a)])) st47 ?_
  have qV51 : ([(.int (0 : Int32)), (.int (0 : Int32)), (.int (0 : Int32)), (.int (0 : Int32)), (.int (0 : Int32)), (.int (0 : Int32)), (.int (0 : Int32)), (.int (0 : Int32)), (.int (0 : Int32)), (.int (0 : Int32)), (.int (0 : Int32)), (.int (0 : Int32)), (.int (0 : Int32)), (.int (0 : Int32)), (.int (0 : Int32)), (.int (0 : Int32))] : List Value) = (own_pad []) := rfl
  have V51 : Arv Z h47 b47 k47 .byte (16 : Int32) (own_pad []) (.int (0 : Int32)) := own_fixv qV51 V47
  have c52 := (E_a.ext E47)
  have c53 := (F_value_a.ext E47)
  obtain ⟨T54, h54, X54, e54, W54, st54⟩ := putF X47 hx hZ hown (host := "") (Or.inl (w98 hw)) Via.refl e47 c53 c52 (Or.inl (w99 hw)) (w85 hw) (ty := (.array .byte)) (by decide) rfl rfl (g := (mkF m 14 #[.val (.ref a), .val (.int (16 : Int32))] [(.ref b47), (.ref a)])) rfl rfl (hb hby d16_14)
  have F55 := c53.same W54
  have N56 := Fr.snoc X54 N0 ge_a
  refine own_step (T' := T54) (g' := (mkF m 17 #[.val (.ref a), .val (.int (16 : Int32))] [])) st54 ?_
  refine own_step (T' := T54) (g' := (mkF m 18 #[.val (.ref a), .val (.int (16 : Int32))] [(.ref a)])) (fun _ q => XS.aloadN X54.here hx rfl (hb hby d16_17) rfl rfl q) ?_
  refine own_step (T' := T54) (g' := (mkF m 19 #[.val (.ref a), .val (.int (16 : Int32))] [(.int (0 : Int32)), (.ref a)])) (fun _ q => XS.iconst X54.here hx rfl (hb hby d16_18) q) ?_
  have c57 := (c52.wr W54)
  have c58 := ((F_coder_a.ext E47).other W54 (Or.inr (RoadKit.slot_ne (t := .byte) (t' := (.array .byte)) (Or.inl (w101 hw)) (Or.inl (w99 hw)) (by decide) (by decide) (by decide))))
  obtain ⟨T59, h59, X59, e59, W59, st59⟩ := putFN X54 hx hZ hown (w100 hw) Via.refl e54 c58 c57 (Or.inl (w101 hw)) (w85 hw) (ty := .byte) (v' := (.int (0 : Int32))) (by decide) rfl rfl (g := (mkF m 19 #[.val (.ref a), .val (.int (16 : Int32))] [(.int (0 : Int32)), (.ref a)])) rfl rfl (hb hby d16_19)
  have F60 := c58.same W59
  have N61 := Fr.snoc X59 N56 ge_a
  refine own_step (T' := T59) (g' := (mkF m 22 #[.val (.ref a), .val (.int (16 : Int32))] [])) st59 ?_
  refine own_step (T' := T59) (g' := (mkF m 38 #[.val (.ref a), .val (.int (16 : Int32))] [])) (fun _ q => XS.goto X59.here hx rfl (pc0 := 22) (pc' := 38) rfl (hb hby d16_22) (by decide) (by decide) q) ?_
  have c62 := (((KP0.ext E47).wr W54 (Or.inl (List.mem_of_getElem? (i := 0) rfl))).wr W59 (Or.inl (List.mem_of_getElem? (i := 0) rfl)))
  have c63 := (c57.wr W59)
  have c64 := (F55.other W59 (Or.inr (RoadKit.slot_ne (t := (.array .byte)) (t' := .byte) (Or.inl (w99 hw)) (Or.inl (w101 hw)) (by decide) (by decide) (by decide))))
  have c65 := (((F_count_a.ext E47).other W54 (Or.inr (RoadKit.slot_ne (t := .int) (t' := (.array .byte)) (Or.inl (w124 hw)) (Or.inl (w99 hw)) (by decide) (by decide) (by decide)))).other W59 (Or.inr (RoadKit.slot_ne (t := .int) (t' := .byte) (Or.inl (w124 hw)) (Or.inl (w101 hw)) (by decide) (by decide) (by decide))))
  have c66 := ((V51.other W54 (Ne.symm ne50)).other W59 (Ne.symm ne50))
  exact own_retV X59 hx Bd.returns (hb hby d16_38) hlk (by rw [e59]; exact ⟨b47, k47, rfl, N61, c62, sz0_49, c63, c64, F60, c65, c66⟩) (by first | decide | (dsimp only; omega)) (by first | decide | (dsimp only; omega))
theorem pn_2 : plainName "java/lang/StringBuilder" = true := by first | (simp [plainName, overriddenIn]; done) | decide +kernel
theorem pd_2 : parseMethodDescriptor "(I)V" = some ⟨[.int], none⟩ := by decide +kernel
theorem d15_0 : decode jdk_67_method_1_code 0 = .ok (.aload_n 0, 1) := by decide +kernel
theorem d15_1 : decode jdk_67_method_1_code 1 = .ok (.bipush 16, 2) := by decide +kernel
theorem d15_3 : decode jdk_67_method_1_code 3 = .ok (.invokespecial 1, 3) := by decide +kernel
theorem d15_6 : decode jdk_67_method_1_code 6 = .ok (.return_, 1) := by decide +kernel
def Q_own_sbi (Z : State) (G1 : Int32) (G3 : Value) (a : Addr) (h0 : Heap) (n0 : Nat) (v : Option Value) (h : Heap) (L : List Loc) : Prop := ∃ (u : Addr), ∃ (ku : ClassId), v = none ∧ Fr n0 L ∧ Keep h0 h [a] ∧ h0.size ≤ u ∧ Exa Z h a "java/lang/StringBuilder" ∧ Fld Z h a "java/lang/AbstractStringBuilder" "value" "[B" (.ref u) ∧ Fld Z h a "java/lang/AbstractStringBuilder" "coder" "B" (.int (0 : Int32)) ∧ Fld Z h a "java/lang/AbstractStringBuilder" "count" "I" (.int (0 : Int32)) ∧ Arv Z h u ku .byte (16 : Int32) (own_pad []) (.int 0)
set_option maxRecDepth 65536 in
set_option maxHeartbeats 40000000 in
theorem own_sbi (l : Launch) (Z : State) (a0 : Array Value) (hw : ∀ d ∈ tables_1, d.before a0 Z = true) (ws : List Jvm.Cond) (G1 : Int32) (G3 : Value) (a : Addr) (h0 : Heap) (n0 : Nat) (Z0 : n0 ≤ h0.size) (O2 : Sta Z Z.heap "java/lang/String" "COMPACT_STRINGS" "Z" (.int G1)) (O4 : Sta Z Z.heap "jdk/internal/util/Preconditions" "SIOOBE_FORMATTER" "Ljava/util/function/BiFunction;" G3) (P5 : ¬ (G1 = (0 : Int32))) (rG3 : G3.isRef = true) (OLD0 : Old Z n0 h0) (E_a : Exa Z h0 a "java/lang/StringBuilder") (ge_a : n0 ≤ a) (F_value_a : Fld Z h0 a "java/lang/AbstractStringBuilder" "value" "[B" .null) (F_coder_a : Fld Z h0 a "java/lang/AbstractStringBuilder" "coder" "B" (.int (0 : Int32))) (F_count_a : Fld Z h0 a "java/lang/AbstractStringBuilder" "count" "I" (.int (0 : Int32))) :
    MetFree l (⟨"java/lang/StringBuilder", "<init>", "()V"⟩ : MethodName) (head1 (Jvm.Cond.code (⟨"java/lang/StringBuilder", "<init>", "()V"⟩ : MethodName) jdk_67_method_1_code 1 none :: ws) ({ frames := 2, cells := 1, slots := 16, locals := 25 } : Room)) (fun ag U => ag = #[(.ref a)] ∧ Z.Warmed39 U.vm ∧ U.heap = h0) (fun _ _ _ _ _ => True) (fun _ U o U' => ∃ v L, o = .returned v ∧ Q_own_sbi Z G1 G3 a h0 n0 v U'.heap L ∧ FrameEnd U o U' L ({ frames := 2, cells := 1, slots := 16, locals := 25 } : Room).cells ({ frames := 2, cells := 1, slots := 16, locals := 25 } : Room).slots) := by
  refine own_body (plainFor_of_name pn_2) ?_
  intro p e s m below meth c s₁ Bd hml hZ e0
  have hx := Bd.exec
  have hby := Bd.bytes
  have hlk : meth.locks = false := BodyLoose.notSynchronized Bd
  have hown : s.vm.findClass "java/lang/StringBuilder" = some m.cls := findClass_of_methodNamed Bd.named
  have hnm := (name_of_methodNamed Bd.named Bd.method).1
  have X0 : Stand p l e ({ frames := 2, cells := 1, slots := 16, locals := 25 } : Room) s m #[(.ref a)] below meth c s₁ [] 0 0 := Stand.of_body Bd
  have N0 := Fr.nil n0
  have KP0 : Keep h0 h0 [a] := Keep.refl h0 [a]
  have lt_a := E_a.lt
  refine own_cast (g' := (mkF m 0 #[.val (.ref a)] [])) (by first | (simp [entryFrame, mkF, argsToLocals, own_cat_int, own_cat_long, own_cat_ref, own_cat_null]; done) | rfl) ?_
  refine own_step (T' := s₁) (g' := (mkF m 1 #[.val (.ref a)] [(.ref a)])) (fun _ q => XS.aloadN X0.here hx rfl (hb hby d15_0) rfl rfl q) ?_
  refine own_step (T' := s₁) (g' := (mkF m 3 #[.val (.ref a)] [(.int (16 : Int32)), (.ref a)])) (fun _ q => XS.bipush X0.here hx rfl (hb hby d15_1) q) ?_
  refine own_callC X0 hx hZ hown rfl (w90 hw) (w91 hw) (w95 hw) (by decide) (backOf (W := 0) (own_asb l Z a0 hw [] G1 G3 a h0 n0 Z0 O2 O4 P5 rG3 OLD0 E_a ge_a F_value_a F_coder_a F_count_a) hZ (w95 hw) (w94 hw) (Nat.le_of_ble_eq_true rfl) (Nat.le_of_ble_eq_true rfl)) e0  (by first | decide | (dsimp only; omega)) (by first | decide | (dsimp only; omega)) (g := (mkF m 3 #[.val (.ref a)] [(.int (16 : Int32)), (.ref a)])) (argsL := [(.int (16 : Int32))]) (rest := []) rfl (by rw [hml]; rfl) (lenOf pd_2 rfl) rfl rfl (by show 2 * 0 + _ ≤ _; exact Nat.le_of_eq rfl) (hb hby d15_3) ?_
  rintro _ T67 L67 X67 ⟨u67, ku67, rfl, N67q, K67, f0_67, f1_67, f2_67, f3_67, f4_67, f5_67⟩
  have n0_68 : n0 ≤ u67 := Nat.le_trans Z0 f0_67
  have sz0_69 := Nat.le_trans KP0.1 f0_67
  have ne70 : a ≠ u67 := own_ne lt_a f0_67
  have lt71 := f5_67.lt
  have N72 := Fr.app N0 N67q
  show own_Fin p e below _ T67 (mkF m 6 #[.val (.ref a)] [])
  have c73 := (KP0.trans K67 (allS (Or.inl (List.mem_of_getElem? (i := 0) rfl)) all0))
  exact own_retV X67 hx Bd.returns (hb hby d15_6) hlk ⟨u67, ku67, rfl, N72, c73, sz0_69, f1_67, f2_67, f3_67, f4_67, f5_67⟩ (by first | decide | (dsimp only; omega)) (by first | decide | (dsimp only; omega))
theorem d21_0 : decode jdk_68_method_9_code 0 = .ok (.aload_n 0, 1) := by decide +kernel
theorem d21_1 : decode jdk_68_method_9_code 1 = .ok (.getfield 15, 3) := by decide +kernel
theorem d21_4 : decode jdk_68_method_9_code 4 = .ok (.arraylength, 1) := by decide +kernel
theorem d21_5 : decode jdk_68_method_9_code 5 = .ok (.aload_n 0, 1) := by decide +kernel
theorem d21_6 : decode jdk_68_method_9_code 6 = .ok (.getfield 22, 3) := by decide +kernel
theorem d21_9 : decode jdk_68_method_9_code 9 = .ok (.ishr, 1) := by decide +kernel
theorem d21_10 : decode jdk_68_method_9_code 10 = .ok (.istore_n 2, 1) := by decide +kernel
theorem d21_11 : decode jdk_68_method_9_code 11 = .ok (.iload_n 1, 1) := by decide +kernel
theorem d21_12 : decode jdk_68_method_9_code 12 = .ok (.iload_n 2, 1) := by decide +kernel
theorem d21_13 : decode jdk_68_method_9_code 13 = .ok (.isub, 1) := by decide +kernel
theorem d21_14 : decode jdk_68_method_9_code 14 = .ok (.ifCond .le 24, 3) := by decide +kernel
theorem d21_38 : decode jdk_68_method_9_code 38 = .ok (.return_, 1) := by decide +kernel
def Q_own_ens (Z : State) (a : Addr) (u : Addr) (ku : ClassId) (bs : List Value) (mn : Nat) (h0 : Heap) (n0 : Nat) (v : Option Value) (h : Heap) (L : List Loc) : Prop := v = none ∧ Fr n0 L ∧ h = h0
set_option maxRecDepth 65536 in
set_option maxHeartbeats 40000000 in
theorem own_ens (l : Launch) (Z : State) (a0 : Array Value) (hw : ∀ d ∈ tables_1, d.before a0 Z = true) (ws : List Jvm.Cond) (a : Addr) (u : Addr) (ku : ClassId) (bs : List Value) (mn : Nat) (h0 : Heap) (n0 : Nat) (Z0 : n0 ≤ h0.size) (E_a : Exa Z h0 a "java/lang/StringBuilder") (F_value_a : Fld Z h0 a "java/lang/AbstractStringBuilder" "value" "[B" (.ref u)) (F_coder_a : Fld Z h0 a "java/lang/AbstractStringBuilder" "coder" "B" (.int (0 : Int32))) (F_count_a : Fld Z h0 a "java/lang/AbstractStringBuilder" "count" "I" (.int (Int32.ofNat bs.length))) (V_u : Arv Z h0 u ku .byte (16 : Int32) (own_pad bs) (.int 0)) (hm : mn ≤ 16) :
    MetFree l (⟨"java/lang/AbstractStringBuilder", "ensureCapacityInternal", "(I)V"⟩ : MethodName) (head1 (Jvm.Cond.code (⟨"java/lang/AbstractStringBuilder", "ensureCapacityInternal", "(I)V"⟩ : MethodName) jdk_68_method_9_code 3 none :: ws) ({ frames := 0, cells := 0, slots := 0, locals := 0 } : Room)) (fun ag U => ag = #[(.ref a), (.int (Int32.ofNat mn))] ∧ Z.Warmed39 U.vm ∧ U.heap = h0) (fun _ _ _ _ _ => True) (fun _ U o U' => ∃ v L, o = .returned v ∧ Q_own_ens Z a u ku bs mn h0 n0 v U'.heap L ∧ FrameEnd U o U' L ({ frames := 0, cells := 0, slots := 0, locals := 0 } : Room).cells ({ frames := 0, cells := 0, slots := 0, locals := 0 } : Room).slots) := by
  refine own_body (plainFor_of_name pn_1) ?_
  intro p e s m below meth c s₁ Bd hml hZ e0
  have hx := Bd.exec
  have hby := Bd.bytes
  have hlk : meth.locks = false := BodyLoose.notSynchronized Bd
  have hown : s.vm.findClass "java/lang/AbstractStringBuilder" = some m.cls := findClass_of_methodNamed Bd.named
  have hnm := (name_of_methodNamed Bd.named Bd.method).1
  have X0 : Stand p l e ({ frames := 0, cells := 0, slots := 0, locals := 0 } : Room) s m #[(.ref a), (.int (Int32.ofNat mn))] below meth c s₁ [] 0 0 := Stand.of_body Bd
  have N0 := Fr.nil n0
  have KP0 : Keep h0 h0 [] := Keep.refl h0 []
  have lt_a := E_a.lt
  have lt_u := V_u.lt
  have ty_a_u : a ≠ u := (Exa.neArv E_a V_u (w85 hw))
  refine own_cast (g' := (mkF m 0 #[.val (.ref a), .val (.int (Int32.ofNat mn)), .unset] [])) (by first | (simp [entryFrame, mkF, argsToLocals, own_cat_int, own_cat_long, own_cat_ref, own_cat_null]; done) | rfl) ?_
  refine own_step (T' := s₁) (g' := (mkF m 1 #[.val (.ref a), .val (.int (Int32.ofNat mn)), .unset] [(.ref a)])) (fun _ q => XS.aloadN X0.here hx rfl (hb hby d21_0) rfl rfl q) ?_
  obtain ⟨T74, X74, e74, st74⟩ := getF X0 hx hZ hown (host := "") (Or.inl (w98 hw)) Via.refl e0 F_value_a (g := (mkF m 1 #[.val (.ref a), .val (.int (Int32.ofNat mn)), .unset] [(.ref a)])) rfl rfl (hb hby d21_1)
  refine own_step (T' := T74) (g' := (mkF m 4 #[.val (.ref a), .val (.int (Int32.ofNat mn)), .unset] [(.ref u)])) st74 ?_
  refine own_step (T' := T74) (g' := (mkF m 5 #[.val (.ref a), .val (.int (Int32.ofNat mn)), .unset] [(.int (16 : Int32))])) (fun _ q => own_len X74 hx hZ e74 V_u (g := (mkF m 4 #[.val (.ref a), .val (.int (Int32.ofNat mn)), .unset] [(.ref u)])) rfl rfl (hb hby d21_4) _ q) ?_
  refine own_step (T' := T74) (g' := (mkF m 6 #[.val (.ref a), .val (.int (Int32.ofNat mn)), .unset] [(.ref a), (.int (16 : Int32))])) (fun _ q => XS.aloadN X74.here hx rfl (hb hby d21_5) rfl rfl q) ?_
  obtain ⟨T75, X75, e75, st75⟩ := getF X74 hx hZ hown (host := "") (Or.inl (w100 hw)) Via.refl e74 F_coder_a (g := (mkF m 6 #[.val (.ref a), .val (.int (Int32.ofNat mn)), .unset] [(.ref a), (.int (16 : Int32))])) rfl rfl (hb hby d21_6)
  refine own_step (T' := T75) (g' := (mkF m 9 #[.val (.ref a), .val (.int (Int32.ofNat mn)), .unset] [(.int (0 : Int32)), (.int (16 : Int32))])) st75 ?_
  refine own_step (T' := T75) (g' := (mkF m 10 #[.val (.ref a), .val (.int (Int32.ofNat mn)), .unset] [(.int (16 : Int32))])) (fun _ q => XT.ishr X75.here hx rfl (hb hby d21_9) rfl q) ?_
  refine own_step (T' := T75) (g' := (mkF m 11 #[.val (.ref a), .val (.int (Int32.ofNat mn)), .val (.int (16 : Int32))] [])) (fun _ q => XS.istoreN X75.here hx rfl (hb hby d21_10) rfl (l' := #[.val (.ref a), .val (.int (Int32.ofNat mn)), .val (.int (16 : Int32))]) rfl q) ?_
  refine own_step (T' := T75) (g' := (mkF m 12 #[.val (.ref a), .val (.int (Int32.ofNat mn)), .val (.int (16 : Int32))] [(.int (Int32.ofNat mn))])) (fun _ q => XS.iloadN X75.here hx rfl (hb hby d21_11) rfl q) ?_
  refine own_step (T' := T75) (g' := (mkF m 13 #[.val (.ref a), .val (.int (Int32.ofNat mn)), .val (.int (16 : Int32))] [(.int (16 : Int32)), (.int (Int32.ofNat mn))])) (fun _ q => XS.iloadN X75.here hx rfl (hb hby d21_12) rfl q) ?_
  refine own_step (T' := T75) (g' := (mkF m 14 #[.val (.ref a), .val (.int (Int32.ofNat mn)), .val (.int (16 : Int32))] [(.int ((Int32.ofNat mn) - (16 : Int32)))])) (fun _ q => XS.isub X75.here hx rfl (hb hby d21_13) rfl q) ?_
  have hc76 : ¬ (0 < ((Int32.ofNat mn) - (16 : Int32))) := own_le16 hm
  refine own_step (T' := T75) (g' := (mkF m 38 #[.val (.ref a), .val (.int (Int32.ofNat mn)), .val (.int (16 : Int32))] [])) (fun _ q => XS.ifYes X75.here hx rfl (pc0 := 14) (pc' := 38) rfl (hb hby d21_14) rfl (XT.i0_le_t hc76) (by decide) (by decide) q) ?_
  exact own_retV X75 hx Bd.returns (hb hby d21_38) hlk ⟨rfl, N0, e75⟩ (by first | decide | (dsimp only; omega)) (by first | decide | (dsimp only; omega))
theorem d23_0 : decode jdk_68_method_71_code 0 = .ok (.getstatic 18, 3) := by decide +kernel
theorem d23_3 : decode jdk_68_method_71_code 3 = .ok (.ifCond .eq 18, 3) := by decide +kernel
theorem d23_6 : decode jdk_68_method_71_code 6 = .ok (.aload_n 0, 1) := by decide +kernel
theorem d23_7 : decode jdk_68_method_71_code 7 = .ok (.getfield 22, 3) := by decide +kernel
theorem d23_10 : decode jdk_68_method_71_code 10 = .ok (.aload_n 1, 1) := by decide +kernel
theorem d23_11 : decode jdk_68_method_71_code 11 = .ok (.invokevirtual 40, 3) := by decide +kernel
theorem d23_14 : decode jdk_68_method_71_code 14 = .ok (.if_icmp .eq 7, 3) := by decide +kernel
theorem d23_21 : decode jdk_68_method_71_code 21 = .ok (.return_, 1) := by decide +kernel
def Q_own_inf (Z : State) (G1 : Int32) (G3 : Value) (a : Addr) (f : Addr) (h0 : Heap) (n0 : Nat) (v : Option Value) (h : Heap) (L : List Loc) : Prop := v = none ∧ Fr n0 L ∧ h = h0
set_option maxRecDepth 65536 in
set_option maxHeartbeats 40000000 in
theorem own_inf (l : Launch) (Z : State) (a0 : Array Value) (hw : ∀ d ∈ tables_1, d.before a0 Z = true) (ws : List Jvm.Cond) (G1 : Int32) (G3 : Value) (a : Addr) (f : Addr) (h0 : Heap) (n0 : Nat) (Z0 : n0 ≤ h0.size) (O2 : Sta Z Z.heap "java/lang/String" "COMPACT_STRINGS" "Z" (.int G1)) (O4 : Sta Z Z.heap "jdk/internal/util/Preconditions" "SIOOBE_FORMATTER" "Ljava/util/function/BiFunction;" G3) (P5 : ¬ (G1 = (0 : Int32))) (rG3 : G3.isRef = true) (OLD0 : Old Z n0 h0) (F_coder_a : Fld Z h0 a "java/lang/AbstractStringBuilder" "coder" "B" (.int (0 : Int32))) (E_f : Exa Z h0 f "java/lang/String") (F_coder_f : Fld Z h0 f "java/lang/String" "coder" "B" (.int (0 : Int32))) :
    MetFree l (⟨"java/lang/AbstractStringBuilder", "inflateIfNeededFor", "(Ljava/lang/String;)V"⟩ : MethodName) (head1 (Jvm.Cond.code (⟨"java/lang/AbstractStringBuilder", "inflateIfNeededFor", "(Ljava/lang/String;)V"⟩ : MethodName) jdk_68_method_71_code 2 none :: ws) ({ frames := 1, cells := 0, slots := 0, locals := 13 } : Room)) (fun ag U => ag = #[(.ref a), (.ref f)] ∧ Z.Warmed39 U.vm ∧ U.heap = h0) (fun _ _ _ _ _ => True) (fun _ U o U' => ∃ v L, o = .returned v ∧ Q_own_inf Z G1 G3 a f h0 n0 v U'.heap L ∧ FrameEnd U o U' L ({ frames := 1, cells := 0, slots := 0, locals := 13 } : Room).cells ({ frames := 1, cells := 0, slots := 0, locals := 13 } : Room).slots) := by
  refine own_body (plainFor_of_name pn_1) ?_
  intro p e s m below meth c s₁ Bd hml hZ e0
  have hx := Bd.exec
  have hby := Bd.bytes
  have hlk : meth.locks = false := BodyLoose.notSynchronized Bd
  have hown : s.vm.findClass "java/lang/AbstractStringBuilder" = some m.cls := findClass_of_methodNamed Bd.named
  have hnm := (name_of_methodNamed Bd.named Bd.method).1
  have X0 : Stand p l e ({ frames := 1, cells := 0, slots := 0, locals := 13 } : Room) s m #[(.ref a), (.ref f)] below meth c s₁ [] 0 0 := Stand.of_body Bd
  have N0 := Fr.nil n0
  have KP0 : Keep h0 h0 [] := Keep.refl h0 []
  have lt_a := F_coder_a.lt
  have lt_f := E_f.lt
  refine own_cast (g' := (mkF m 0 #[.val (.ref a), .val (.ref f)] [])) (by first | (simp [entryFrame, mkF, argsToLocals, own_cat_int, own_cat_long, own_cat_ref, own_cat_null]; done) | rfl) ?_
  obtain ⟨T77, X77, e77, st77⟩ := getS2 X0 hx hZ hown (host := "") (Or.inl (w97 hw)) Via.refl e0 (O2.ext OLD0.2) (g := (mkF m 0 #[.val (.ref a), .val (.ref f)] [])) rfl (hb hby d23_0)
  refine own_step (T' := T77) (g' := (mkF m 3 #[.val (.ref a), .val (.ref f)] [(.int G1)])) st77 ?_
  have hc78 : ¬ (G1 = 0) := P5
  refine own_step (T' := T77) (g' := (mkF m 6 #[.val (.ref a), .val (.ref f)] [])) (fun _ q => XS.ifNo X77.here hx rfl (hb hby d23_3) rfl (XT.i0_eq_f hc78) q) ?_
  refine own_step (T' := T77) (g' := (mkF m 7 #[.val (.ref a), .val (.ref f)] [(.ref a)])) (fun _ q => XS.aloadN X77.here hx rfl (hb hby d23_6) rfl rfl q) ?_
  obtain ⟨T79, X79, e79, st79⟩ := getF X77 hx hZ hown (host := "") (Or.inl (w100 hw)) Via.refl e77 F_coder_a (g := (mkF m 7 #[.val (.ref a), .val (.ref f)] [(.ref a)])) rfl rfl (hb hby d23_7)
  refine own_step (T' := T79) (g' := (mkF m 10 #[.val (.ref a), .val (.ref f)] [(.int (0 : Int32))])) st79 ?_
  refine own_step (T' := T79) (g' := (mkF m 11 #[.val (.ref a), .val (.ref f)] [(.ref f), (.int (0 : Int32))])) (fun _ q => XS.aloadN X79.here hx rfl (hb hby d23_10) rfl rfl q) ?_
  refine own_callV (y := (⟨"java/lang/String", "coder", "()B"⟩ : MethodName)) (z := (⟨"java/lang/String", "coder", "()B"⟩ : MethodName)) X79 hx hZ hown (w140 hw) (w119 hw) (notFace_of_selects (args := #[]) (mvT hZ (w121 hw))) (w121 hw) (w120 hw) (by decide) (backOf (W := 1) (own_cod0 l Z a0 hw [] G1 G3 f h0 n0 Z0 O2 O4 P5 rG3 OLD0 F_coder_f) hZ (w122 hw) (w6 hw) (Nat.le_of_ble_eq_true rfl) (Nat.le_of_ble_eq_true rfl)) e79 E_f  (by first | decide | (dsimp only; omega)) (by first | decide | (dsimp only; omega)) (g := (mkF m 11 #[.val (.ref a), .val (.ref f)] [(.ref f), (.int (0 : Int32))])) (argsL := []) (rest := [(.int (0 : Int32))]) rfl (by rw [hml]; rfl) (lenOf pd_1 rfl) rfl rfl (by show 2 * 0 + _ ≤ _; exact Nat.le_of_eq rfl) (hb hby d23_11) ?_
  rintro _ T80 L80 X80 ⟨rfl, N80q, e80⟩
  have N81 := Fr.app N0 N80q
  show own_Fin p e below _ T80 (mkF m 14 #[.val (.ref a), .val (.ref f)] [(.int (0 : Int32)), (.int (0 : Int32))])
  refine own_step (T' := T80) (g' := (mkF m 21 #[.val (.ref a), .val (.ref f)] [])) (fun _ q => XS.icmpYes X80.here hx rfl (pc0 := 14) (pc' := 21) rfl (hb hby d23_14) rfl (by decide) (by decide) (by decide) q) ?_
  exact own_retV X80 hx Bd.returns (hb hby d23_21) hlk ⟨rfl, N81, e80⟩ (by first | decide | (dsimp only; omega)) (by first | decide | (dsimp only; omega))
theorem d24_0 : decode jdk_42_method_147_code 0 = .ok (.aload_n 0, 1) := by decide +kernel
theorem d24_1 : decode jdk_42_method_147_code 1 = .ok (.invokevirtual 335, 3) := by decide +kernel
theorem d24_4 : decode jdk_42_method_147_code 4 = .ok (.iload_n 3, 1) := by decide +kernel
theorem d24_5 : decode jdk_42_method_147_code 5 = .ok (.if_icmp .ne 23, 3) := by decide +kernel
theorem d24_8 : decode jdk_42_method_147_code 8 = .ok (.aload_n 0, 1) := by decide +kernel
theorem d24_9 : decode jdk_42_method_147_code 9 = .ok (.getfield 9, 3) := by decide +kernel
theorem d24_12 : decode jdk_42_method_147_code 12 = .ok (.iconst 0, 1) := by decide +kernel
theorem d24_13 : decode jdk_42_method_147_code 13 = .ok (.aload_n 1, 1) := by decide +kernel
theorem d24_14 : decode jdk_42_method_147_code 14 = .ok (.iload_n 2, 1) := by decide +kernel
theorem d24_15 : decode jdk_42_method_147_code 15 = .ok (.iload_n 3, 1) := by decide +kernel
theorem d24_16 : decode jdk_42_method_147_code 16 = .ok (.ishl, 1) := by decide +kernel
theorem d24_17 : decode jdk_42_method_147_code 17 = .ok (.aload_n 0, 1) := by decide +kernel
theorem d24_18 : decode jdk_42_method_147_code 18 = .ok (.getfield 9, 3) := by decide +kernel
theorem d24_21 : decode jdk_42_method_147_code 21 = .ok (.arraylength, 1) := by decide +kernel
theorem d24_22 : decode jdk_42_method_147_code 22 = .ok (.invokestatic 212, 3) := by decide +kernel
theorem d24_25 : decode jdk_42_method_147_code 25 = .ok (.goto 18, 3) := by decide +kernel
theorem d24_43 : decode jdk_42_method_147_code 43 = .ok (.return_, 1) := by decide +kernel
def Q_own_gby (Z : State) (G1 : Int32) (G3 : Value) (f : Addr) (t : Addr) (kb : ClassId) (ts : List Value) (u : Addr) (ku : ClassId) (bs : List Value) (h0 : Heap) (n0 : Nat) (v : Option Value) (h : Heap) (L : List Loc) : Prop := v = none ∧ Fr n0 L ∧ Keep h0 h [u] ∧ Arv Z h u ku .byte (16 : Int32) (own_pad (bs ++ ts)) (.int 0)
set_option maxRecDepth 65536 in
set_option maxHeartbeats 40000000 in
theorem own_gby (l : Launch) (Z : State) (a0 : Array Value) (hw : ∀ d ∈ tables_1, d.before a0 Z = true) (ws : List Jvm.Cond) (G1 : Int32) (G3 : Value) (f : Addr) (t : Addr) (kb : ClassId) (ts : List Value) (u : Addr) (ku : ClassId) (bs : List Value) (h0 : Heap) (n0 : Nat) (Z0 : n0 ≤ h0.size) (O2 : Sta Z Z.heap "java/lang/String" "COMPACT_STRINGS" "Z" (.int G1)) (O4 : Sta Z Z.heap "jdk/internal/util/Preconditions" "SIOOBE_FORMATTER" "Ljava/util/function/BiFunction;" G3) (P5 : ¬ (G1 = (0 : Int32))) (rG3 : G3.isRef = true) (OLD0 : Old Z n0 h0) (E_f : Exa Z h0 f "java/lang/String") (F_value_f : Fld Z h0 f "java/lang/String" "value" "[B" (.ref t)) (F_coder_f : Fld Z h0 f "java/lang/String" "coder" "B" (.int (0 : Int32))) (V_t : Arv Z h0 t kb .byte (Int32.ofNat ts.length) ts (.int 0)) (V_u : Arv Z h0 u ku .byte (16 : Int32) (own_pad bs) (.int 0)) (ge_u : n0 ≤ u) (hbl : bs.length + ts.length ≤ 16) :
    MetFree l (⟨"java/lang/String", "getBytes", "([BIB)V"⟩ : MethodName) (head1 (Jvm.Cond.code (⟨"java/lang/String", "getBytes", "([BIB)V"⟩ : MethodName) jdk_42_method_147_code 4 none :: ws) ({ frames := 1, cells := 0, slots := 0, locals := 18 } : Room)) (fun ag U => ag = #[(.ref f), (.ref u), (.int (Int32.ofNat bs.length)), (.int (0 : Int32))] ∧ Z.Warmed39 U.vm ∧ U.heap = h0) (fun _ _ _ _ _ => True) (fun _ U o U' => ∃ v L, o = .returned v ∧ Q_own_gby Z G1 G3 f t kb ts u ku bs h0 n0 v U'.heap L ∧ FrameEnd U o U' L ({ frames := 1, cells := 0, slots := 0, locals := 18 } : Room).cells ({ frames := 1, cells := 0, slots := 0, locals := 18 } : Room).slots) := by
  refine own_body (plainFor_of_name pn_0) ?_
  intro p e s m below meth c s₁ Bd hml hZ e0
  have hx := Bd.exec
  have hby := Bd.bytes
  have hlk : meth.locks = false := BodyLoose.notSynchronized Bd
  have hown : s.vm.findClass "java/lang/String" = some m.cls := findClass_of_methodNamed Bd.named
  have hnm := (name_of_methodNamed Bd.named Bd.method).1
  have X0 : Stand p l e ({ frames := 1, cells := 0, slots := 0, locals := 18 } : Room) s m #[(.ref f), (.ref u), (.int (Int32.ofNat bs.length)), (.int (0 : Int32))] below meth c s₁ [] 0 0 := Stand.of_body Bd
  have N0 := Fr.nil n0
  have KP0 : Keep h0 h0 [u] := Keep.refl h0 [u]
  have lt_f := E_f.lt
  have lt_t := V_t.lt
  have lt_u := V_u.lt
  have ty_f_t : f ≠ t := (Exa.neArv E_f V_t (w5 hw))
  have ty_f_u : f ≠ u := (Exa.neArv E_f V_u (w5 hw))
  refine own_cast (g' := (mkF m 0 #[.val (.ref f), .val (.ref u), .val (.int (Int32.ofNat bs.length)), .val (.int (0 : Int32))] [])) (by first | (simp [entryFrame, mkF, argsToLocals, own_cat_int, own_cat_long, own_cat_ref, own_cat_null]; done) | rfl) ?_
  refine own_step (T' := s₁) (g' := (mkF m 1 #[.val (.ref f), .val (.ref u), .val (.int (Int32.ofNat bs.length)), .val (.int (0 : Int32))] [(.ref f)])) (fun _ q => XS.aloadN X0.here hx rfl (hb hby d24_0) rfl rfl q) ?_
  refine own_callV (y := (⟨"java/lang/String", "coder", "()B"⟩ : MethodName)) (z := (⟨"java/lang/String", "coder", "()B"⟩ : MethodName)) X0 hx hZ hown (w118 hw) (w119 hw) (notFace_of_selects (args := #[]) (mvT hZ (w121 hw))) (w121 hw) (w120 hw) (by decide) (backOf (W := 0) (own_cod0 l Z a0 hw [] G1 G3 f h0 n0 Z0 O2 O4 P5 rG3 OLD0 F_coder_f) hZ (w122 hw) (w6 hw) (Nat.le_of_ble_eq_true rfl) (Nat.le_of_ble_eq_true rfl)) e0 E_f  (by first | decide | (dsimp only; omega)) (by first | decide | (dsimp only; omega)) (g := (mkF m 1 #[.val (.ref f), .val (.ref u), .val (.int (Int32.ofNat bs.length)), .val (.int (0 : Int32))] [(.ref f)])) (argsL := []) (rest := []) rfl (by rw [hml]; rfl) (lenOf pd_1 rfl) rfl rfl (by show 2 * 0 + _ ≤ _; exact Nat.le_of_eq rfl) (hb hby d24_1) ?_
  rintro _ T82 L82 X82 ⟨rfl, N82q, e82⟩
  have N83 := Fr.app N0 N82q
  show own_Fin p e below _ T82 (mkF m 4 #[.val (.ref f), .val (.ref u), .val (.int (Int32.ofNat bs.length)), .val (.int (0 : Int32))] [(.int (0 : Int32))])
  refine own_step (T' := T82) (g' := (mkF m 5 #[.val (.ref f), .val (.ref u), .val (.int (Int32.ofNat bs.length)), .val (.int (0 : Int32))] [(.int (0 : Int32)), (.int (0 : Int32))])) (fun _ q => XS.iloadN X82.here hx rfl (hb hby d24_4) rfl q) ?_
  refine own_step (T' := T82) (g' := (mkF m 8 #[.val (.ref f), .val (.ref u), .val (.int (Int32.ofNat bs.length)), .val (.int (0 : Int32))] [])) (fun _ q => XS.icmpNo X82.here hx rfl (hb hby d24_5) rfl (by decide) q) ?_
  refine own_step (T' := T82) (g' := (mkF m 9 #[.val (.ref f), .val (.ref u), .val (.int (Int32.ofNat bs.length)), .val (.int (0 : Int32))] [(.ref f)])) (fun _ q => XS.aloadN X82.here hx rfl (hb hby d24_8) rfl rfl q) ?_
  obtain ⟨T84, X84, e84, st84⟩ := getF X82 hx hZ hown (host := "") (Or.inl (w24 hw)) Via.refl e82 F_value_f (g := (mkF m 9 #[.val (.ref f), .val (.ref u), .val (.int (Int32.ofNat bs.length)), .val (.int (0 : Int32))] [(.ref f)])) rfl rfl (hb hby d24_9)
  refine own_step (T' := T84) (g' := (mkF m 12 #[.val (.ref f), .val (.ref u), .val (.int (Int32.ofNat bs.length)), .val (.int (0 : Int32))] [(.ref t)])) st84 ?_
  refine own_step (T' := T84) (g' := (mkF m 13 #[.val (.ref f), .val (.ref u), .val (.int (Int32.ofNat bs.length)), .val (.int (0 : Int32))] [(.int (0 : Int32)), (.ref t)])) (fun _ q => XS.iconst X84.here hx rfl (hb hby d24_12) q) ?_
  refine own_step (T' := T84) (g' := (mkF m 14 #[.val (.ref f), .val (.ref u), .val (.int (Int32.ofNat bs.length)), .val (.int (0 : Int32))] [(.ref u), (.int (0 : Int32)), (.ref t)])) (fun _ q => XS.aloadN X84.here hx rfl (hb hby d24_13) rfl rfl q) ?_
  refine own_step (T' := T84) (g' := (mkF m 15 #[.val (.ref f), .val (.ref u), .val (.int (Int32.ofNat bs.length)), .val (.int (0 : Int32))] [(.int (Int32.ofNat bs.length)), (.ref u), (.int (0 : Int32)), (.ref t)])) (fun _ q => XS.iloadN X84.here hx rfl (hb hby d24_14) rfl q) ?_
  refine own_step (T' := T84) (g' := (mkF m 16 #[.val (.ref f), .val (.ref u), .val (.int (Int32.ofNat bs.length)), .val (.int (0 : Int32))] [(.int (0 : Int32)), (.int (Int32.ofNat bs.length)), (.ref u), (.int (0 : Int32)), (.ref t)])) (fun _ q => XS.iloadN X84.here hx rfl (hb hby d24_15) rfl q) ?_
  refine own_step (T' := T84) (g' := (mkF m 17 #[.val (.ref f), .val (.ref u), .val (.int (Int32.ofNat bs.length)), .val (.int (0 : Int32))] [(.int ((Int32.ofNat bs.length) <<< ((0 : Int32) &&& 31))), (.ref u), (.int (0 : Int32)), (.ref t)])) (fun _ q => XT.ishl X84.here hx rfl (hb hby d24_16) rfl q) ?_
  rw [show ((Int32.ofNat bs.length) <<< ((0 : Int32) &&& 31)) = (Int32.ofNat bs.length) from (own_shl0 _)]
  refine own_step (T' := T84) (g' := (mkF m 18 #[.val (.ref f), .val (.ref u), .val (.int (Int32.ofNat bs.length)), .val (.int (0 : Int32))] [(.ref f), (.int (Int32.ofNat bs.length)), (.ref u), (.int (0 : Int32)), (.ref t)])) (fun _ q => XS.aloadN X84.here hx rfl (hb hby d24_17) rfl rfl q) ?_
  obtain ⟨T85, X85, e85, st85⟩ := getF X84 hx hZ hown (host := "") (Or.inl (w24 hw)) Via.refl e84 F_value_f (g := (mkF m 18 #[.val (.ref f), .val (.ref u), .val (.int (Int32.ofNat bs.length)), .val (.int (0 : Int32))] [(.ref f), (.int (Int32.ofNat bs.length)), (.ref u), (.int (0 : Int32)), (.ref t)])) rfl rfl (hb hby d24_18)
  refine own_step (T' := T85) (g' := (mkF m 21 #[.val (.ref f), .val (.ref u), .val (.int (Int32.ofNat bs.length)), .val (.int (0 : Int32))] [(.ref t), (.int (Int32.ofNat bs.length)), (.ref u), (.int (0 : Int32)), (.ref t)])) st85 ?_
  refine own_step (T' := T85) (g' := (mkF m 22 #[.val (.ref f), .val (.ref u), .val (.int (Int32.ofNat bs.length)), .val (.int (0 : Int32))] [(.int (Int32.ofNat ts.length)), (.int (Int32.ofNat bs.length)), (.ref u), (.int (0 : Int32)), (.ref t)])) (fun _ q => own_len X85 hx hZ e85 V_t (g := (mkF m 21 #[.val (.ref f), .val (.ref u), .val (.int (Int32.ofNat bs.length)), .val (.int (0 : Int32))] [(.ref t), (.int (Int32.ofNat bs.length)), (.ref u), (.int (0 : Int32)), (.ref t)])) rfl rfl (hb hby d24_21) _ q) ?_
  obtain ⟨T86, h86, L86, X86, e86, N86, K86, A86, st86⟩ := cpA X85 hx hZ hown (w146 hw) (w149 hw) (w147 hw) (w148 hw) e85 V_t V_u (us := ts) (Or.inl ⟨rfl, rfl⟩) (by decide) (own_nneg (by omega)) (own_nneg (by omega)) (by rw [own_z32]; omega) (by rw [own_nat (by omega), own_nat (by omega)]; exact hbl) (own_rng0 ts _ (by omega)) (by rw [own_nat (by omega), own_nat (by omega), own_padlen (by omega)]; exact hbl) N83 ge_u (g := (mkF m 22 #[.val (.ref f), .val (.ref u), .val (.int (Int32.ofNat bs.length)), .val (.int (0 : Int32))] [(.int (Int32.ofNat ts.length)), (.int (Int32.ofNat bs.length)), (.ref u), (.int (0 : Int32)), (.ref t)])) rfl (by rw [hml]; rfl) (rest := []) rfl (hb hby d24_22) (Nat.le_of_ble_eq_true rfl) (W := 0) (by show 2 * 0 + _ ≤ _; exact Nat.le_of_eq rfl) (by rw [own_nfw]; exact Nat.le_of_ble_eq_true rfl)
  have qV87 : (((own_pad bs).take (Int32.ofNat bs.length).toNatClampNeg ++ ts ++ (own_pad bs).drop ((Int32.ofNat bs.length).toNatClampNeg + (Int32.ofNat ts.length).toNatClampNeg)) : List Value) = (own_pad (bs ++ ts)) := (own_pad_cp hbl)
  have V87 : Arv Z h86 u ku .byte (16 : Int32) (own_pad (bs ++ ts)) (.int 0) := own_fixv qV87 A86
  refine own_step (T' := T86) (g' := (mkF m 25 #[.val (.ref f), .val (.ref u), .val (.int (Int32.ofNat bs.length)), .val (.int (0 : Int32))] [])) st86 ?_
  refine own_step (T' := T86) (g' := (mkF m 43 #[.val (.ref f), .val (.ref u), .val (.int (Int32.ofNat bs.length)), .val (.int (0 : Int32))] [])) (fun _ q => XS.goto X86.here hx rfl (pc0 := 25) (pc' := 43) rfl (hb hby d24_25) (by decide) (by decide) q) ?_
  have c88 := (KP0.trans K86 (allS (Or.inl (List.mem_of_getElem? (i := 0) rfl)) all0))
  exact own_retV X86 hx Bd.returns (hb hby d24_43) hlk (by rw [e86]; exact ⟨rfl, N86, c88, V87⟩) (by first | decide | (dsimp only; omega)) (by first | decide | (dsimp only; omega))
theorem pd_3 : parseMethodDescriptor "(Ljava/lang/String;)V" = some ⟨[(.object "java/lang/String")], none⟩ := by decide +kernel
theorem pd_4 : parseMethodDescriptor "([BIB)V" = some ⟨[(.array .byte), .int, .byte], none⟩ := by decide +kernel
theorem d22_0 : decode jdk_68_method_73_code 0 = .ok (.aload_n 0, 1) := by decide +kernel
theorem d22_1 : decode jdk_68_method_73_code 1 = .ok (.aload_n 2, 1) := by decide +kernel
theorem d22_2 : decode jdk_68_method_73_code 2 = .ok (.invokevirtual 397, 3) := by decide +kernel
theorem d22_5 : decode jdk_68_method_73_code 5 = .ok (.aload_n 2, 1) := by decide +kernel
theorem d22_6 : decode jdk_68_method_73_code 6 = .ok (.aload_n 0, 1) := by decide +kernel
theorem d22_7 : decode jdk_68_method_73_code 7 = .ok (.getfield 15, 3) := by decide +kernel
theorem d22_10 : decode jdk_68_method_73_code 10 = .ok (.iload_n 1, 1) := by decide +kernel
theorem d22_11 : decode jdk_68_method_73_code 11 = .ok (.aload_n 0, 1) := by decide +kernel
theorem d22_12 : decode jdk_68_method_73_code 12 = .ok (.getfield 22, 3) := by decide +kernel
theorem d22_15 : decode jdk_68_method_73_code 15 = .ok (.invokevirtual 399, 3) := by decide +kernel
theorem d22_18 : decode jdk_68_method_73_code 18 = .ok (.return_, 1) := by decide +kernel
def Q_own_psa (Z : State) (G1 : Int32) (G3 : Value) (a : Addr) (u : Addr) (ku : ClassId) (bs : List Value) (f : Addr) (t : Addr) (kb : ClassId) (ts : List Value) (h0 : Heap) (n0 : Nat) (v : Option Value) (h : Heap) (L : List Loc) : Prop := v = none ∧ Fr n0 L ∧ Keep h0 h [u] ∧ Arv Z h u ku .byte (16 : Int32) (own_pad (bs ++ ts)) (.int 0)
set_option maxRecDepth 65536 in
set_option maxHeartbeats 40000000 in
theorem own_psa (l : Launch) (Z : State) (a0 : Array Value) (hw : ∀ d ∈ tables_1, d.before a0 Z = true) (ws : List Jvm.Cond) (G1 : Int32) (G3 : Value) (a : Addr) (u : Addr) (ku : ClassId) (bs : List Value) (f : Addr) (t : Addr) (kb : ClassId) (ts : List Value) (h0 : Heap) (n0 : Nat) (Z0 : n0 ≤ h0.size) (O2 : Sta Z Z.heap "java/lang/String" "COMPACT_STRINGS" "Z" (.int G1)) (O4 : Sta Z Z.heap "jdk/internal/util/Preconditions" "SIOOBE_FORMATTER" "Ljava/util/function/BiFunction;" G3) (P5 : ¬ (G1 = (0 : Int32))) (rG3 : G3.isRef = true) (OLD0 : Old Z n0 h0) (E_a : Exa Z h0 a "java/lang/StringBuilder") (F_value_a : Fld Z h0 a "java/lang/AbstractStringBuilder" "value" "[B" (.ref u)) (F_coder_a : Fld Z h0 a "java/lang/AbstractStringBuilder" "coder" "B" (.int (0 : Int32))) (F_count_a : Fld Z h0 a "java/lang/AbstractStringBuilder" "count" "I" (.int (Int32.ofNat bs.length))) (V_u : Arv Z h0 u ku .byte (16 : Int32) (own_pad bs) (.int 0)) (E_f : Exa Z h0 f "java/lang/String") (F_value_f : Fld Z h0 f "java/lang/String" "value" "[B" (.ref t)) (F_coder_f : Fld Z h0 f "java/lang/String" "coder" "B" (.int (0 : Int32))) (V_t : Arv Z h0 t kb .byte (Int32.ofNat ts.length) ts (.int 0)) (ge_u : n0 ≤ u) (hbl : bs.length + ts.length ≤ 16) :
    MetFree l (⟨"java/lang/AbstractStringBuilder", "putStringAt", "(ILjava/lang/String;)V"⟩ : MethodName) (head1 (Jvm.Cond.code (⟨"java/lang/AbstractStringBuilder", "putStringAt", "(ILjava/lang/String;)V"⟩ : MethodName) jdk_68_method_73_code 3 none :: ws) ({ frames := 2, cells := 0, slots := 0, locals := 33 } : Room)) (fun ag U => ag = #[(.ref a), (.int (Int32.ofNat bs.length)), (.ref f)] ∧ Z.Warmed39 U.vm ∧ U.heap = h0) (fun _ _ _ _ _ => True) (fun _ U o U' => ∃ v L, o = .returned v ∧ Q_own_psa Z G1 G3 a u ku bs f t kb ts h0 n0 v U'.heap L ∧ FrameEnd U o U' L ({ frames := 2, cells := 0, slots := 0, locals := 33 } : Room).cells ({ frames := 2, cells := 0, slots := 0, locals := 33 } : Room).slots) := by
  refine own_body (plainFor_of_name pn_1) ?_
  intro p e s m below meth c s₁ Bd hml hZ e0
  have hx := Bd.exec
  have hby := Bd.bytes
  have hlk : meth.locks = false := BodyLoose.notSynchronized Bd
  have hown : s.vm.findClass "java/lang/AbstractStringBuilder" = some m.cls := findClass_of_methodNamed Bd.named
  have hnm := (name_of_methodNamed Bd.named Bd.method).1
  have X0 : Stand p l e ({ frames := 2, cells := 0, slots := 0, locals := 33 } : Room) s m #[(.ref a), (.int (Int32.ofNat bs.length)), (.ref f)] below meth c s₁ [] 0 0 := Stand.of_body Bd
  have N0 := Fr.nil n0
  have KP0 : Keep h0 h0 [u] := Keep.refl h0 [u]
  have lt_a := E_a.lt
  have lt_u := V_u.lt
  have lt_f := E_f.lt
  have lt_t := V_t.lt
  have ty_a_u : a ≠ u := (Exa.neArv E_a V_u (w85 hw))
  have ty_a_f : a ≠ f := (Exa.ne E_a E_f (by decide))
  have ty_a_t : a ≠ t := (Exa.neArv E_a V_t (w85 hw))
  have ty_u_f : u ≠ f := (Ne.symm (Exa.neArv E_f V_u (w5 hw)))
  have ty_f_t : f ≠ t := (Exa.neArv E_f V_t (w5 hw))
  refine own_cast (g' := (mkF m 0 #[.val (.ref a), .val (.int (Int32.ofNat bs.length)), .val (.ref f)] [])) (by first | (simp [entryFrame, mkF, argsToLocals, own_cat_int, own_cat_long, own_cat_ref, own_cat_null]; done) | rfl) ?_
  refine own_step (T' := s₁) (g' := (mkF m 1 #[.val (.ref a), .val (.int (Int32.ofNat bs.length)), .val (.ref f)] [(.ref a)])) (fun _ q => XS.aloadN X0.here hx rfl (hb hby d22_0) rfl rfl q) ?_
  refine own_step (T' := s₁) (g' := (mkF m 2 #[.val (.ref a), .val (.int (Int32.ofNat bs.length)), .val (.ref f)] [(.ref f), (.ref a)])) (fun _ q => XS.aloadN X0.here hx rfl (hb hby d22_1) rfl rfl q) ?_
  refine own_callP X0 hx hZ hown (w135 hw) (w136 hw) (own_selQ hZ (notFace_of_selects (args := #[]) (mvT hZ (w138 hw))) (w136 hw) (w137 hw) (by decide)) (w137 hw) (w139 hw) (by decide) (backOf (W := 0) (own_inf l Z a0 hw [] G1 G3 a f h0 n0 Z0 O2 O4 P5 rG3 OLD0 F_coder_a E_f F_coder_f) hZ (w139 hw) (w94 hw) (Nat.le_of_ble_eq_true rfl) (Nat.le_of_ble_eq_true rfl)) e0 E_a  (by first | decide | (dsimp only; omega)) (by first | decide | (dsimp only; omega)) (g := (mkF m 2 #[.val (.ref a), .val (.int (Int32.ofNat bs.length)), .val (.ref f)] [(.ref f), (.ref a)])) (argsL := [(.ref f)]) (rest := []) rfl (by rw [hml]; rfl) (lenOf pd_3 rfl) rfl rfl (by show 2 * 0 + _ ≤ _; exact Nat.le_of_eq rfl) (hb hby d22_2) ?_
  rintro _ T89 L89 X89 ⟨rfl, N89q, e89⟩
  have N90 := Fr.app N0 N89q
  show own_Fin p e below _ T89 (mkF m 5 #[.val (.ref a), .val (.int (Int32.ofNat bs.length)), .val (.ref f)] [])
  refine own_step (T' := T89) (g' := (mkF m 6 #[.val (.ref a), .val (.int (Int32.ofNat bs.length)), .val (.ref f)] [(.ref f)])) (fun _ q => XS.aloadN X89.here hx rfl (hb hby d22_5) rfl rfl q) ?_
  refine own_step (T' := T89) (g' := (mkF m 7 #[.val (.ref a), .val (.int (Int32.ofNat bs.length)), .val (.ref f)] [(.ref a), (.ref f)])) (fun _ q => XS.aloadN X89.here hx rfl (hb hby d22_6) rfl rfl q) ?_
  obtain ⟨T91, X91, e91, st91⟩ := getF X89 hx hZ hown (host := "") (Or.inl (w98 hw)) Via.refl e89 F_value_a (g := (mkF m 7 #[.val (.ref a), .val (.int (Int32.ofNat bs.length)), .val (.ref f)] [(.ref a), (.ref f)])) rfl rfl (hb hby d22_7)
  refine own_step (T' := T91) (g' := (mkF m 10 #[.val (.ref a), .val (.int (Int32.ofNat bs.length)), .val (.ref f)] [(.ref u), (.ref f)])) st91 ?_
  refine own_step (T' := T91) (g' := (mkF m 11 #[.val (.ref a), .val (.int (Int32.ofNat bs.length)), .val (.ref f)] [(.int (Int32.ofNat bs.length)), (.ref u), (.ref f)])) (fun _ q => XS.iloadN X91.here hx rfl (hb hby d22_10) rfl q) ?_
  refine own_step (T' := T91) (g' := (mkF m 12 #[.val (.ref a), .val (.int (Int32.ofNat bs.length)), .val (.ref f)] [(.ref a), (.int (Int32.ofNat bs.length)), (.ref u), (.ref f)])) (fun _ q => XS.aloadN X91.here hx rfl (hb hby d22_11) rfl rfl q) ?_
  obtain ⟨T92, X92, e92, st92⟩ := getF X91 hx hZ hown (host := "") (Or.inl (w100 hw)) Via.refl e91 F_coder_a (g := (mkF m 12 #[.val (.ref a), .val (.int (Int32.ofNat bs.length)), .val (.ref f)] [(.ref a), (.int (Int32.ofNat bs.length)), (.ref u), (.ref f)])) rfl rfl (hb hby d22_12)
  refine own_step (T' := T92) (g' := (mkF m 15 #[.val (.ref a), .val (.int (Int32.ofNat bs.length)), .val (.ref f)] [(.int (0 : Int32)), (.int (Int32.ofNat bs.length)), (.ref u), (.ref f)])) st92 ?_
  refine own_callV (y := (⟨"java/lang/String", "getBytes", "([BIB)V"⟩ : MethodName)) (z := (⟨"java/lang/String", "getBytes", "([BIB)V"⟩ : MethodName)) X92 hx hZ hown (w141 hw) (w142 hw) (notFace_of_selects (args := #[]) (mvT hZ (w144 hw))) (w144 hw) (w143 hw) (by decide) (backOf (W := 0) (own_gby l Z a0 hw [] G1 G3 f t kb ts u ku bs h0 n0 Z0 O2 O4 P5 rG3 OLD0 E_f F_value_f F_coder_f V_t V_u ge_u hbl) hZ (w145 hw) (w6 hw) (Nat.le_of_ble_eq_true rfl) (Nat.le_of_ble_eq_true rfl)) e92 E_f  (by first | decide | (dsimp only; omega)) (by first | decide | (dsimp only; omega)) (g := (mkF m 15 #[.val (.ref a), .val (.int (Int32.ofNat bs.length)), .val (.ref f)] [(.int (0 : Int32)), (.int (Int32.ofNat bs.length)), (.ref u), (.ref f)])) (argsL := [(.ref u), (.int (Int32.ofNat bs.length)), (.int (0 : Int32))]) (rest := []) rfl (by rw [hml]; rfl) (lenOf pd_4 rfl) rfl rfl (by show 2 * 0 + _ ≤ _; exact Nat.le_of_eq rfl) (hb hby d22_15) ?_
  rintro _ T93 L93 X93 ⟨rfl, N93q, K93, f0_93⟩
  have N94 := Fr.app N90 N93q
  show own_Fin p e below _ T93 (mkF m 18 #[.val (.ref a), .val (.int (Int32.ofNat bs.length)), .val (.ref f)] [])
  have c95 := (KP0.trans K93 (allS (Or.inl (List.mem_of_getElem? (i := 0) rfl)) all0))
  exact own_retV X93 hx Bd.returns (hb hby d22_18) hlk ⟨rfl, N94, c95, f0_93⟩ (by first | decide | (dsimp only; omega)) (by first | decide | (dsimp only; omega))
theorem pd_5 : parseMethodDescriptor "()I" = some ⟨[], some .int⟩ := by decide +kernel
theorem pd_6 : parseMethodDescriptor "(ILjava/lang/String;)V" = some ⟨[.int, (.object "java/lang/String")], none⟩ := by decide +kernel
theorem d18_0 : decode jdk_68_method_22_code 0 = .ok (.aload_n 1, 1) := by decide +kernel
theorem d18_1 : decode jdk_68_method_22_code 1 = .ok (.ifnonnull 8, 3) := by decide +kernel
theorem d18_9 : decode jdk_68_method_22_code 9 = .ok (.aload_n 1, 1) := by decide +kernel
theorem d18_10 : decode jdk_68_method_22_code 10 = .ok (.invokevirtual 32, 3) := by decide +kernel
theorem d18_13 : decode jdk_68_method_22_code 13 = .ok (.istore_n 2, 1) := by decide +kernel
theorem d18_14 : decode jdk_68_method_22_code 14 = .ok (.aload_n 0, 1) := by decide +kernel
theorem d18_15 : decode jdk_68_method_22_code 15 = .ok (.aload_n 0, 1) := by decide +kernel
theorem d18_16 : decode jdk_68_method_22_code 16 = .ok (.getfield 79, 3) := by decide +kernel
theorem d18_19 : decode jdk_68_method_22_code 19 = .ok (.iload_n 2, 1) := by decide +kernel
theorem d18_20 : decode jdk_68_method_22_code 20 = .ok (.iadd, 1) := by decide +kernel
theorem d18_21 : decode jdk_68_method_22_code 21 = .ok (.invokevirtual 100, 3) := by decide +kernel
theorem d18_24 : decode jdk_68_method_22_code 24 = .ok (.aload_n 0, 1) := by decide +kernel
theorem d18_25 : decode jdk_68_method_22_code 25 = .ok (.aload_n 0, 1) := by decide +kernel
theorem d18_26 : decode jdk_68_method_22_code 26 = .ok (.getfield 79, 3) := by decide +kernel
theorem d18_29 : decode jdk_68_method_22_code 29 = .ok (.aload_n 1, 1) := by decide +kernel
theorem d18_30 : decode jdk_68_method_22_code 30 = .ok (.invokevirtual 208, 3) := by decide +kernel
theorem d18_33 : decode jdk_68_method_22_code 33 = .ok (.aload_n 0, 1) := by decide +kernel
theorem d18_34 : decode jdk_68_method_22_code 34 = .ok (.dup, 1) := by decide +kernel
theorem d18_35 : decode jdk_68_method_22_code 35 = .ok (.getfield 79, 3) := by decide +kernel
theorem d18_38 : decode jdk_68_method_22_code 38 = .ok (.iload_n 2, 1) := by decide +kernel
theorem d18_39 : decode jdk_68_method_22_code 39 = .ok (.iadd, 1) := by decide +kernel
theorem d18_40 : decode jdk_68_method_22_code 40 = .ok (.putfield 79, 3) := by decide +kernel
theorem d18_43 : decode jdk_68_method_22_code 43 = .ok (.aload_n 0, 1) := by decide +kernel
theorem d18_44 : decode jdk_68_method_22_code 44 = .ok (.areturn, 1) := by decide +kernel
def Q_own_asap (Z : State) (G1 : Int32) (G3 : Value) (a : Addr) (u : Addr) (ku : ClassId) (bs : List Value) (f : Addr) (t : Addr) (kb : ClassId) (ts : List Value) (h0 : Heap) (n0 : Nat) (v : Option Value) (h : Heap) (L : List Loc) : Prop := v = some (.ref a) ∧ Fr n0 L ∧ Keep h0 h [a, u] ∧ Exa Z h a "java/lang/StringBuilder" ∧ Fld Z h a "java/lang/AbstractStringBuilder" "value" "[B" (.ref u) ∧ Fld Z h a "java/lang/AbstractStringBuilder" "coder" "B" (.int (0 : Int32)) ∧ Fld Z h a "java/lang/AbstractStringBuilder" "count" "I" (.int (Int32.ofNat (bs ++ ts).length)) ∧ Arv Z h u ku .byte (16 : Int32) (own_pad (bs ++ ts)) (.int 0)
set_option maxRecDepth 65536 in
set_option maxHeartbeats 40000000 in
theorem own_asap (l : Launch) (Z : State) (a0 : Array Value) (hw : ∀ d ∈ tables_1, d.before a0 Z = true) (ws : List Jvm.Cond) (G1 : Int32) (G3 : Value) (a : Addr) (u : Addr) (ku : ClassId) (bs : List Value) (f : Addr) (t : Addr) (kb : ClassId) (ts : List Value) (h0 : Heap) (n0 : Nat) (Z0 : n0 ≤ h0.size) (O2 : Sta Z Z.heap "java/lang/String" "COMPACT_STRINGS" "Z" (.int G1)) (O4 : Sta Z Z.heap "jdk/internal/util/Preconditions" "SIOOBE_FORMATTER" "Ljava/util/function/BiFunction;" G3) (P5 : ¬ (G1 = (0 : Int32))) (rG3 : G3.isRef = true) (OLD0 : Old Z n0 h0) (E_a : Exa Z h0 a "java/lang/StringBuilder") (F_value_a : Fld Z h0 a "java/lang/AbstractStringBuilder" "value" "[B" (.ref u)) (F_coder_a : Fld Z h0 a "java/lang/AbstractStringBuilder" "coder" "B" (.int (0 : Int32))) (F_count_a : Fld Z h0 a "java/lang/AbstractStringBuilder" "count" "I" (.int (Int32.ofNat bs.length))) (V_u : Arv Z h0 u ku .byte (16 : Int32) (own_pad bs) (.int 0)) (E_f : Exa Z h0 f "java/lang/String") (F_value_f : Fld Z h0 f "java/lang/String" "value" "[B" (.ref t)) (F_coder_f : Fld Z h0 f "java/lang/String" "coder" "B" (.int (0 : Int32))) (V_t : Arv Z h0 t kb .byte (Int32.ofNat ts.length) ts (.int 0)) (ge_a : n0 ≤ a) (ge_u : n0 ≤ u) (hbl : bs.length + ts.length ≤ 16) :
    MetFree l (⟨"java/lang/AbstractStringBuilder", "append", "(Ljava/lang/String;)Ljava/lang/AbstractStringBuilder;"⟩ : MethodName) (head1 (Jvm.Cond.code (⟨"java/lang/AbstractStringBuilder", "append", "(Ljava/lang/String;)Ljava/lang/AbstractStringBuilder;"⟩ : MethodName) jdk_68_method_22_code 3 (some (.object "java/lang/AbstractStringBuilder")) :: ws) ({ frames := 3, cells := 0, slots := 0, locals := 47 } : Room)) (fun ag U => ag = #[(.ref a), (.ref f)] ∧ Z.Warmed39 U.vm ∧ U.heap = h0) (fun _ _ _ _ _ => True) (fun _ U o U' => ∃ v L, o = .returned v ∧ Q_own_asap Z G1 G3 a u ku bs f t kb ts h0 n0 v U'.heap L ∧ FrameEnd U o U' L ({ frames := 3, cells := 0, slots := 0, locals := 47 } : Room).cells ({ frames := 3, cells := 0, slots := 0, locals := 47 } : Room).slots) := by
  refine own_body (plainFor_of_name pn_1) ?_
  intro p e s m below meth c s₁ Bd hml hZ e0
  have hx := Bd.exec
  have hby := Bd.bytes
  have hlk : meth.locks = false := BodyLoose.notSynchronized Bd
  have hown : s.vm.findClass "java/lang/AbstractStringBuilder" = some m.cls := findClass_of_methodNamed Bd.named
  have hnm := (name_of_methodNamed Bd.named Bd.method).1
  have X0 : Stand p l e ({ frames := 3, cells := 0, slots := 0, locals := 47 } : Room) s m #[(.ref a), (.ref f)] below meth c s₁ [] 0 0 := Stand.of_body Bd
  have N0 := Fr.nil n0
  have KP0 : Keep h0 h0 [a, u] := Keep.refl h0 [a, u]
  have lt_a := E_a.lt
  have lt_u := V_u.lt
  have lt_f := E_f.lt
  have lt_t := V_t.lt
  have ty_a_u : a ≠ u := (Exa.neArv E_a V_u (w85 hw))
  have ty_a_f : a ≠ f := (Exa.ne E_a E_f (by decide))
  have ty_a_t : a ≠ t := (Exa.neArv E_a V_t (w85 hw))
  have ty_u_f : u ≠ f := (Ne.symm (Exa.neArv E_f V_u (w5 hw)))
  have ty_f_t : f ≠ t := (Exa.neArv E_f V_t (w5 hw))
  refine own_cast (g' := (mkF m 0 #[.val (.ref a), .val (.ref f), .unset] [])) (by first | (simp [entryFrame, mkF, argsToLocals, own_cat_int, own_cat_long, own_cat_ref, own_cat_null]; done) | rfl) ?_
  refine own_step (T' := s₁) (g' := (mkF m 1 #[.val (.ref a), .val (.ref f), .unset] [(.ref f)])) (fun _ q => XS.aloadN X0.here hx rfl (hb hby d18_0) rfl rfl q) ?_
  refine own_step (T' := s₁) (g' := (mkF m 9 #[.val (.ref a), .val (.ref f), .unset] [])) (fun _ q => XT.ifnonnullYes X0.here hx rfl (pc0 := 1) (pc' := 9) rfl (hb hby d18_1) rfl (by decide) (by decide) q) ?_
  refine own_step (T' := s₁) (g' := (mkF m 10 #[.val (.ref a), .val (.ref f), .unset] [(.ref f)])) (fun _ q => XS.aloadN X0.here hx rfl (hb hby d18_9) rfl rfl q) ?_
  refine own_callV (y := (⟨"java/lang/String", "length", "()I"⟩ : MethodName)) (z := (⟨"java/lang/String", "length", "()I"⟩ : MethodName)) X0 hx hZ hown (w113 hw) (w114 hw) (notFace_of_selects (args := #[]) (mvT hZ (w116 hw))) (w116 hw) (w115 hw) (by decide) (backOf (W := 0) (own_len0 l Z a0 hw [] G1 G3 f t kb (Int32.ofNat ts.length) ts h0 n0 Z0 O2 O4 P5 rG3 OLD0 E_f F_value_f F_coder_f V_t) hZ (w117 hw) (w6 hw) (Nat.le_of_ble_eq_true rfl) (Nat.le_of_ble_eq_true rfl)) e0 E_f  (by first | decide | (dsimp only; omega)) (by first | decide | (dsimp only; omega)) (g := (mkF m 10 #[.val (.ref a), .val (.ref f), .unset] [(.ref f)])) (argsL := []) (rest := []) rfl (by rw [hml]; rfl) (lenOf pd_5 rfl) rfl rfl (by show 2 * 0 + _ ≤ _; exact Nat.le_of_eq rfl) (hb hby d18_10) ?_
  rintro _ T96 L96 X96 ⟨rfl, N96q, e96⟩
  have N97 := Fr.app N0 N96q
  show own_Fin p e below _ T96 (mkF m 13 #[.val (.ref a), .val (.ref f), .unset] [(.int (Int32.ofNat ts.length))])
  refine own_step (T' := T96) (g' := (mkF m 14 #[.val (.ref a), .val (.ref f), .val (.int (Int32.ofNat ts.length))] [])) (fun _ q => XS.istoreN X96.here hx rfl (hb hby d18_13) rfl (l' := #[.val (.ref a), .val (.ref f), .val (.int (Int32.ofNat ts.length))]) rfl q) ?_
  refine own_step (T' := T96) (g' := (mkF m 15 #[.val (.ref a), .val (.ref f), .val (.int (Int32.ofNat ts.length))] [(.ref a)])) (fun _ q => XS.aloadN X96.here hx rfl (hb hby d18_14) rfl rfl q) ?_
  refine own_step (T' := T96) (g' := (mkF m 16 #[.val (.ref a), .val (.ref f), .val (.int (Int32.ofNat ts.length))] [(.ref a), (.ref a)])) (fun _ q => XS.aloadN X96.here hx rfl (hb hby d18_15) rfl rfl q) ?_
  obtain ⟨T98, X98, e98, st98⟩ := getF X96 hx hZ hown (host := "") (Or.inl (w123 hw)) Via.refl e96 F_count_a (g := (mkF m 16 #[.val (.ref a), .val (.ref f), .val (.int (Int32.ofNat ts.length))] [(.ref a), (.ref a)])) rfl rfl (hb hby d18_16)
  refine own_step (T' := T98) (g' := (mkF m 19 #[.val (.ref a), .val (.ref f), .val (.int (Int32.ofNat ts.length))] [(.int (Int32.ofNat bs.length)), (.ref a)])) st98 ?_
  refine own_step (T' := T98) (g' := (mkF m 20 #[.val (.ref a), .val (.ref f), .val (.int (Int32.ofNat ts.length))] [(.int (Int32.ofNat ts.length)), (.int (Int32.ofNat bs.length)), (.ref a)])) (fun _ q => XS.iloadN X98.here hx rfl (hb hby d18_19) rfl q) ?_
  refine own_step (T' := T98) (g' := (mkF m 21 #[.val (.ref a), .val (.ref f), .val (.int (Int32.ofNat ts.length))] [(.int ((Int32.ofNat bs.length) + (Int32.ofNat ts.length))), (.ref a)])) (fun _ q => XS.iadd X98.here hx rfl (hb hby d18_20) rfl q) ?_
  rw [show ((Int32.ofNat bs.length) + (Int32.ofNat ts.length)) = (Int32.ofNat (bs.length + ts.length)) from (own_addN _ _)]
  refine own_callP X98 hx hZ hown (w125 hw) (w126 hw) (own_selQ hZ (notFace_of_selects (args := #[]) (mvT hZ (w128 hw))) (w126 hw) (w127 hw) (by decide)) (w127 hw) (w129 hw) (by decide) (backOf (W := 0) (own_ens l Z a0 hw [] a u ku bs (bs.length + ts.length) h0 n0 Z0 E_a F_value_a F_coder_a F_count_a V_u (hbl : (bs.length + ts.length) ≤ 16)) hZ (w129 hw) (w94 hw) (Nat.le_of_ble_eq_true rfl) (Nat.le_of_ble_eq_true rfl)) e98 E_a  (by first | decide | (dsimp only; omega)) (by first | decide | (dsimp only; omega)) (g := (mkF m 21 #[.val (.ref a), .val (.ref f), .val (.int (Int32.ofNat ts.length))] [(.int (Int32.ofNat (bs.length + ts.length))), (.ref a)])) (argsL := [(.int (Int32.ofNat (bs.length + ts.length)))]) (rest := []) rfl (by rw [hml]; rfl) (lenOf pd_2 rfl) rfl rfl (by show 2 * 0 + _ ≤ _; exact Nat.le_of_eq rfl) (hb hby d18_21) ?_
  rintro _ T99 L99 X99 ⟨rfl, N99q, e99⟩
  have N100 := Fr.app N97 N99q
  show own_Fin p e below _ T99 (mkF m 24 #[.val (.ref a), .val (.ref f), .val (.int (Int32.ofNat ts.length))] [])
  refine own_step (T' := T99) (g' := (mkF m 25 #[.val (.ref a), .val (.ref f), .val (.int (Int32.ofNat ts.length))] [(.ref a)])) (fun _ q => XS.aloadN X99.here hx rfl (hb hby d18_24) rfl rfl q) ?_
  refine own_step (T' := T99) (g' := (mkF m 26 #[.val (.ref a), .val (.ref f), .val (.int (Int32.ofNat ts.length))] [(.ref a), (.ref a)])) (fun _ q => XS.aloadN X99.here hx rfl (hb hby d18_25) rfl rfl q) ?_
  obtain ⟨T101, X101, e101, st101⟩ := getF X99 hx hZ hown (host := "") (Or.inl (w123 hw)) Via.refl e99 F_count_a (g := (mkF m 26 #[.val (.ref a), .val (.ref f), .val (.int (Int32.ofNat ts.length))] [(.ref a), (.ref a)])) rfl rfl (hb hby d18_26)
  refine own_step (T' := T101) (g' := (mkF m 29 #[.val (.ref a), .val (.ref f), .val (.int (Int32.ofNat ts.length))] [(.int (Int32.ofNat bs.length)), (.ref a)])) st101 ?_
  refine own_step (T' := T101) (g' := (mkF m 30 #[.val (.ref a), .val (.ref f), .val (.int (Int32.ofNat ts.length))] [(.ref f), (.int (Int32.ofNat bs.length)), (.ref a)])) (fun _ q => XS.aloadN X101.here hx rfl (hb hby d18_29) rfl rfl q) ?_
  refine own_callP X101 hx hZ hown (w130 hw) (w131 hw) (own_selQ hZ (notFace_of_selects (args := #[]) (mvT hZ (w133 hw))) (w131 hw) (w132 hw) (by decide)) (w132 hw) (w134 hw) (by decide) (backOf (W := 0) (own_psa l Z a0 hw [] G1 G3 a u ku bs f t kb ts h0 n0 Z0 O2 O4 P5 rG3 OLD0 E_a F_value_a F_coder_a F_count_a V_u E_f F_value_f F_coder_f V_t ge_u hbl) hZ (w134 hw) (w94 hw) (Nat.le_of_ble_eq_true rfl) (Nat.le_of_ble_eq_true rfl)) e101 E_a  (by first | decide | (dsimp only; omega)) (by first | decide | (dsimp only; omega)) (g := (mkF m 30 #[.val (.ref a), .val (.ref f), .val (.int (Int32.ofNat ts.length))] [(.ref f), (.int (Int32.ofNat bs.length)), (.ref a)])) (argsL := [(.int (Int32.ofNat bs.length)), (.ref f)]) (rest := []) rfl (by rw [hml]; rfl) (lenOf pd_6 rfl) rfl rfl (by show 2 * 0 + _ ≤ _; exact Nat.le_of_eq rfl) (hb hby d18_30) ?_
  rintro _ T102 L102 X102 ⟨rfl, N102q, K102, f0_102⟩
  have N103 := Fr.app N100 N102q
  show own_Fin p e below _ T102 (mkF m 33 #[.val (.ref a), .val (.ref f), .val (.int (Int32.ofNat ts.length))] [])
  refine own_step (T' := T102) (g' := (mkF m 34 #[.val (.ref a), .val (.ref f), .val (.int (Int32.ofNat ts.length))] [(.ref a)])) (fun _ q => XS.aloadN X102.here hx rfl (hb hby d18_33) rfl rfl q) ?_
  refine own_step (T' := T102) (g' := (mkF m 35 #[.val (.ref a), .val (.ref f), .val (.int (Int32.ofNat ts.length))] [(.ref a), (.ref a)])) (fun _ q => XS.dup X102.here hx rfl (hb hby d18_34) rfl rfl q) ?_
  have c104 := (F_count_a.keep K102 (ninS ty_a_u nin0))
  obtain ⟨T105, X105, e105, st105⟩ := getF X102 hx hZ hown (host := "") (Or.inl (w123 hw)) Via.refl rfl c104 (g := (mkF m 35 #[.val (.ref a), .val (.ref f), .val (.int (Int32.ofNat ts.length))] [(.ref a), (.ref a)])) rfl rfl (hb hby d18_35)
  refine own_step (T' := T105) (g' := (mkF m 38 #[.val (.ref a), .val (.ref f), .val (.int (Int32.ofNat ts.length))] [(.int (Int32.ofNat bs.length)), (.ref a)])) st105 ?_
  refine own_step (T' := T105) (g' := (mkF m 39 #[.val (.ref a), .val (.ref f), .val (.int (Int32.ofNat ts.length))] [(.int (Int32.ofNat ts.length)), (.int (Int32.ofNat bs.length)), (.ref a)])) (fun _ q => XS.iloadN X105.here hx rfl (hb hby d18_38) rfl q) ?_
  refine own_step (T' := T105) (g' := (mkF m 40 #[.val (.ref a), .val (.ref f), .val (.int (Int32.ofNat ts.length))] [(.int ((Int32.ofNat bs.length) + (Int32.ofNat ts.length))), (.ref a)])) (fun _ q => XS.iadd X105.here hx rfl (hb hby d18_39) rfl q) ?_
  rw [show ((Int32.ofNat bs.length) + (Int32.ofNat ts.length)) = (Int32.ofNat (bs ++ ts).length) from (by rw [own_addN, List.length_append])]
  have c106 := (E_a.keep K102)
  obtain ⟨T107, h107, X107, e107, W107, st107⟩ := putF X105 hx hZ hown (host := "") (Or.inl (w123 hw)) Via.refl e105 c104 c106 (Or.inl (w124 hw)) (w85 hw) (ty := .int) (by decide) rfl rfl (g := (mkF m 40 #[.val (.ref a), .val (.ref f), .val (.int (Int32.ofNat ts.length))] [(.int (Int32.ofNat (bs ++ ts).length)), (.ref a)])) rfl rfl (hb hby d18_40)
  have F108 := c104.same W107
  have N109 := Fr.snoc X107 N103 ge_a
  refine own_step (T' := T107) (g' := (mkF m 43 #[.val (.ref a), .val (.ref f), .val (.int (Int32.ofNat ts.length))] [])) st107 ?_
  refine own_step (T' := T107) (g' := (mkF m 44 #[.val (.ref a), .val (.ref f), .val (.int (Int32.ofNat ts.length))] [(.ref a)])) (fun _ q => XS.aloadN X107.here hx rfl (hb hby d18_43) rfl rfl q) ?_
  have c110 := ((KP0.trans K102 (allS (Or.inl (List.mem_of_getElem? (i := 1) rfl)) all0)).wr W107 (Or.inl (List.mem_of_getElem? (i := 0) rfl)))
  have c111 := (c106.wr W107)
  have c112 := ((F_value_a.keep K102 (ninS ty_a_u nin0)).other W107 (Or.inr (RoadKit.slot_ne (t := (.array .byte)) (t' := .int) (Or.inl (w99 hw)) (Or.inl (w124 hw)) (by decide) (by decide) (by decide))))
  have c113 := ((F_coder_a.keep K102 (ninS ty_a_u nin0)).other W107 (Or.inr (RoadKit.slot_ne (t := .byte) (t' := .int) (Or.inl (w101 hw)) (Or.inl (w124 hw)) (by decide) (by decide) (by decide))))
  have c114 := (f0_102.other W107 (Ne.symm ty_a_u))
  exact own_retA X107 hx Bd.returns rfl rfl (hb hby d18_44) hlk (by rw [e107]; exact ⟨rfl, N109, c110, c111, c112, c113, F108, c114⟩) (by first | decide | (dsimp only; omega)) (by first | decide | (dsimp only; omega))
theorem pd_7 : parseMethodDescriptor "(Ljava/lang/String;)Ljava/lang/AbstractStringBuilder;" = some ⟨[(.object "java/lang/String")], some (.object "java/lang/AbstractStringBuilder")⟩ := by decide +kernel
theorem d17_0 : decode jdk_67_method_7_code 0 = .ok (.aload_n 0, 1) := by decide +kernel
theorem d17_1 : decode jdk_67_method_7_code 1 = .ok (.aload_n 1, 1) := by decide +kernel
theorem d17_2 : decode jdk_67_method_7_code 2 = .ok (.invokespecial 29, 3) := by decide +kernel
theorem d17_5 : decode jdk_67_method_7_code 5 = .ok (.pop, 1) := by decide +kernel
theorem d17_6 : decode jdk_67_method_7_code 6 = .ok (.aload_n 0, 1) := by decide +kernel
theorem d17_7 : decode jdk_67_method_7_code 7 = .ok (.areturn, 1) := by decide +kernel
def Q_own_sbap (Z : State) (G1 : Int32) (G3 : Value) (a : Addr) (u : Addr) (ku : ClassId) (bs : List Value) (f : Addr) (t : Addr) (kb : ClassId) (ts : List Value) (h0 : Heap) (n0 : Nat) (v : Option Value) (h : Heap) (L : List Loc) : Prop := v = some (.ref a) ∧ Fr n0 L ∧ Keep h0 h [a, u] ∧ Exa Z h a "java/lang/StringBuilder" ∧ Fld Z h a "java/lang/AbstractStringBuilder" "value" "[B" (.ref u) ∧ Fld Z h a "java/lang/AbstractStringBuilder" "coder" "B" (.int (0 : Int32)) ∧ Fld Z h a "java/lang/AbstractStringBuilder" "count" "I" (.int (Int32.ofNat (bs ++ ts).length)) ∧ Arv Z h u ku .byte (16 : Int32) (own_pad (bs ++ ts)) (.int 0)
set_option maxRecDepth 65536 in
set_option maxHeartbeats 40000000 in
theorem own_sbap (l : Launch) (Z : State) (a0 : Array Value) (hw : ∀ d ∈ tables_1, d.before a0 Z = true) (ws : List Jvm.Cond) (G1 : Int32) (G3 : Value) (a : Addr) (u : Addr) (ku : ClassId) (bs : List Value) (f : Addr) (t : Addr) (kb : ClassId) (ts : List Value) (h0 : Heap) (n0 : Nat) (Z0 : n0 ≤ h0.size) (O2 : Sta Z Z.heap "java/lang/String" "COMPACT_STRINGS" "Z" (.int G1)) (O4 : Sta Z Z.heap "jdk/internal/util/Preconditions" "SIOOBE_FORMATTER" "Ljava/util/function/BiFunction;" G3) (P5 : ¬ (G1 = (0 : Int32))) (rG3 : G3.isRef = true) (OLD0 : Old Z n0 h0) (E_a : Exa Z h0 a "java/lang/StringBuilder") (F_value_a : Fld Z h0 a "java/lang/AbstractStringBuilder" "value" "[B" (.ref u)) (F_coder_a : Fld Z h0 a "java/lang/AbstractStringBuilder" "coder" "B" (.int (0 : Int32))) (F_count_a : Fld Z h0 a "java/lang/AbstractStringBuilder" "count" "I" (.int (Int32.ofNat bs.length))) (V_u : Arv Z h0 u ku .byte (16 : Int32) (own_pad bs) (.int 0)) (E_f : Exa Z h0 f "java/lang/String") (F_value_f : Fld Z h0 f "java/lang/String" "value" "[B" (.ref t)) (F_coder_f : Fld Z h0 f "java/lang/String" "coder" "B" (.int (0 : Int32))) (V_t : Arv Z h0 t kb .byte (Int32.ofNat ts.length) ts (.int 0)) (ge_a : n0 ≤ a) (ge_u : n0 ≤ u) (hbl : bs.length + ts.length ≤ 16) :
    MetFree l (⟨"java/lang/StringBuilder", "append", "(Ljava/lang/String;)Ljava/lang/StringBuilder;"⟩ : MethodName) (head1 (Jvm.Cond.code (⟨"java/lang/StringBuilder", "append", "(Ljava/lang/String;)Ljava/lang/StringBuilder;"⟩ : MethodName) jdk_67_method_7_code 2 (some (.object "java/lang/StringBuilder")) :: ws) ({ frames := 4, cells := 0, slots := 0, locals := 61 } : Room)) (fun ag U => ag = #[(.ref a), (.ref f)] ∧ Z.Warmed39 U.vm ∧ U.heap = h0) (fun _ _ _ _ _ => True) (fun _ U o U' => ∃ v L, o = .returned v ∧ Q_own_sbap Z G1 G3 a u ku bs f t kb ts h0 n0 v U'.heap L ∧ FrameEnd U o U' L ({ frames := 4, cells := 0, slots := 0, locals := 61 } : Room).cells ({ frames := 4, cells := 0, slots := 0, locals := 61 } : Room).slots) := by
  refine own_body (plainFor_of_name pn_2) ?_
  intro p e s m below meth c s₁ Bd hml hZ e0
  have hx := Bd.exec
  have hby := Bd.bytes
  have hlk : meth.locks = false := BodyLoose.notSynchronized Bd
  have hown : s.vm.findClass "java/lang/StringBuilder" = some m.cls := findClass_of_methodNamed Bd.named
  have hnm := (name_of_methodNamed Bd.named Bd.method).1
  have X0 : Stand p l e ({ frames := 4, cells := 0, slots := 0, locals := 61 } : Room) s m #[(.ref a), (.ref f)] below meth c s₁ [] 0 0 := Stand.of_body Bd
  have N0 := Fr.nil n0
  have KP0 : Keep h0 h0 [a, u] := Keep.refl h0 [a, u]
  have lt_a := E_a.lt
  have lt_u := V_u.lt
  have lt_f := E_f.lt
  have lt_t := V_t.lt
  have ty_a_u : a ≠ u := (Exa.neArv E_a V_u (w85 hw))
  have ty_a_f : a ≠ f := (Exa.ne E_a E_f (by decide))
  have ty_a_t : a ≠ t := (Exa.neArv E_a V_t (w85 hw))
  have ty_u_f : u ≠ f := (Ne.symm (Exa.neArv E_f V_u (w5 hw)))
  have ty_f_t : f ≠ t := (Exa.neArv E_f V_t (w5 hw))
  refine own_cast (g' := (mkF m 0 #[.val (.ref a), .val (.ref f)] [])) (by first | (simp [entryFrame, mkF, argsToLocals, own_cat_int, own_cat_long, own_cat_ref, own_cat_null]; done) | rfl) ?_
  refine own_step (T' := s₁) (g' := (mkF m 1 #[.val (.ref a), .val (.ref f)] [(.ref a)])) (fun _ q => XS.aloadN X0.here hx rfl (hb hby d17_0) rfl rfl q) ?_
  refine own_step (T' := s₁) (g' := (mkF m 2 #[.val (.ref a), .val (.ref f)] [(.ref f), (.ref a)])) (fun _ q => XS.aloadN X0.here hx rfl (hb hby d17_1) rfl rfl q) ?_
  refine own_callU X0 hx hZ hown (by decide) (w108 hw) (w109 hw) (own_same (own_nf_move (notFace_of_selects (args := a0) (w128 hw)) (w126 hw) rfl) (w109 hw) (by decide)) (w110 hw) (w112 hw) (by decide) (backOf (W := 0) (own_asap l Z a0 hw [] G1 G3 a u ku bs f t kb ts h0 n0 Z0 O2 O4 P5 rG3 OLD0 E_a F_value_a F_coder_a F_count_a V_u E_f F_value_f F_coder_f V_t ge_a ge_u hbl) hZ (w112 hw) (w94 hw) (Nat.le_of_ble_eq_true rfl) (Nat.le_of_ble_eq_true rfl)) e0 E_a  (by first | decide | (dsimp only; omega)) (by first | decide | (dsimp only; omega)) (g := (mkF m 2 #[.val (.ref a), .val (.ref f)] [(.ref f), (.ref a)])) (argsL := [(.ref f)]) (rest := []) rfl (by rw [hml]; rfl) (lenOf pd_7 rfl) rfl rfl (by show 2 * 0 + _ ≤ _; exact Nat.le_of_eq rfl) (hb hby d17_2) ?_
  rintro _ T115 L115 X115 ⟨rfl, N115q, K115, f0_115, f1_115, f2_115, f3_115, f4_115⟩
  have N116 := Fr.app N0 N115q
  show own_Fin p e below _ T115 (mkF m 5 #[.val (.ref a), .val (.ref f)] [(.ref a)])
  refine own_step (T' := T115) (g' := (mkF m 6 #[.val (.ref a), .val (.ref f)] [])) (fun _ q => XT.pop X115.here hx rfl (hb hby d17_5) rfl rfl q) ?_
  refine own_step (T' := T115) (g' := (mkF m 7 #[.val (.ref a), .val (.ref f)] [(.ref a)])) (fun _ q => XS.aloadN X115.here hx rfl (hb hby d17_6) rfl rfl q) ?_
  have c117 := (KP0.trans K115 (allS (Or.inl (List.mem_of_getElem? (i := 0) rfl)) (allS (Or.inl (List.mem_of_getElem? (i := 1) rfl)) all0)))
  exact own_retA X115 hx Bd.returns rfl rfl (hb hby d17_7) hlk ⟨rfl, N116, c117, f0_115, f1_115, f2_115, f3_115, f4_115⟩ (by first | decide | (dsimp only; omega)) (by first | decide | (dsimp only; omega))
theorem d28_0 : decode jdk_68_method_64_code 0 = .ok (.aload_n 0, 1) := by decide +kernel
theorem d28_1 : decode jdk_68_method_64_code 1 = .ok (.getfield 15, 3) := by decide +kernel
theorem d28_4 : decode jdk_68_method_64_code 4 = .ok (.areturn, 1) := by decide +kernel
def Q_own_gv (Z : State) (a : Addr) (u : Addr) (h0 : Heap) (n0 : Nat) (v : Option Value) (h : Heap) (L : List Loc) : Prop := v = some (.ref u) ∧ Fr n0 L ∧ h = h0
set_option maxRecDepth 65536 in
set_option maxHeartbeats 40000000 in
theorem own_gv (l : Launch) (Z : State) (a0 : Array Value) (hw : ∀ d ∈ tables_1, d.before a0 Z = true) (ws : List Jvm.Cond) (a : Addr) (u : Addr) (h0 : Heap) (n0 : Nat) (Z0 : n0 ≤ h0.size) (F_value_a : Fld Z h0 a "java/lang/AbstractStringBuilder" "value" "[B" (.ref u)) :
    MetFree l (⟨"java/lang/AbstractStringBuilder", "getValue", "()[B"⟩ : MethodName) (head1 (Jvm.Cond.code (⟨"java/lang/AbstractStringBuilder", "getValue", "()[B"⟩ : MethodName) jdk_68_method_64_code 1 (some (.array .byte)) :: ws) ({ frames := 0, cells := 0, slots := 0, locals := 0 } : Room)) (fun ag U => ag = #[(.ref a)] ∧ Z.Warmed39 U.vm ∧ U.heap = h0) (fun _ _ _ _ _ => True) (fun _ U o U' => ∃ v L, o = .returned v ∧ Q_own_gv Z a u h0 n0 v U'.heap L ∧ FrameEnd U o U' L ({ frames := 0, cells := 0, slots := 0, locals := 0 } : Room).cells ({ frames := 0, cells := 0, slots := 0, locals := 0 } : Room).slots) := by
  refine own_body (plainFor_of_name pn_1) ?_
  intro p e s m below meth c s₁ Bd hml hZ e0
  have hx := Bd.exec
  have hby := Bd.bytes
  have hlk : meth.locks = false := BodyLoose.notSynchronized Bd
  have hown : s.vm.findClass "java/lang/AbstractStringBuilder" = some m.cls := findClass_of_methodNamed Bd.named
  have hnm := (name_of_methodNamed Bd.named Bd.method).1
  have X0 : Stand p l e ({ frames := 0, cells := 0, slots := 0, locals := 0 } : Room) s m #[(.ref a)] below meth c s₁ [] 0 0 := Stand.of_body Bd
  have N0 := Fr.nil n0
  have KP0 : Keep h0 h0 [] := Keep.refl h0 []
  have lt_a := F_value_a.lt
  refine own_cast (g' := (mkF m 0 #[.val (.ref a)] [])) (by first | (simp [entryFrame, mkF, argsToLocals, own_cat_int, own_cat_long, own_cat_ref, own_cat_null]; done) | rfl) ?_
  refine own_step (T' := s₁) (g' := (mkF m 1 #[.val (.ref a)] [(.ref a)])) (fun _ q => XS.aloadN X0.here hx rfl (hb hby d28_0) rfl rfl q) ?_
  obtain ⟨T118, X118, e118, st118⟩ := getF X0 hx hZ hown (host := "") (Or.inl (w98 hw)) Via.refl e0 F_value_a (g := (mkF m 1 #[.val (.ref a)] [(.ref a)])) rfl rfl (hb hby d28_1)
  refine own_step (T' := T118) (g' := (mkF m 4 #[.val (.ref a)] [(.ref u)])) st118 ?_
  exact own_retA X118 hx Bd.returns rfl rfl (hb hby d28_4) hlk ⟨rfl, N0, e118⟩ (by first | decide | (dsimp only; omega)) (by first | decide | (dsimp only; omega))
theorem d30_0 : decode jdk_68_method_6_code 0 = .ok (.aload_n 0, 1) := by decide +kernel
theorem d30_1 : decode jdk_68_method_6_code 1 = .ok (.getfield 79, 3) := by decide +kernel
theorem d30_4 : decode jdk_68_method_6_code 4 = .ok (.ireturn, 1) := by decide +kernel
def Q_own_asl (Z : State) (a : Addr) (z : Int32) (h0 : Heap) (n0 : Nat) (v : Option Value) (h : Heap) (L : List Loc) : Prop := v = some (.int z) ∧ Fr n0 L ∧ h = h0
set_option maxRecDepth 65536 in
set_option maxHeartbeats 40000000 in
theorem own_asl (l : Launch) (Z : State) (a0 : Array Value) (hw : ∀ d ∈ tables_1, d.before a0 Z = true) (ws : List Jvm.Cond) (a : Addr) (z : Int32) (h0 : Heap) (n0 : Nat) (Z0 : n0 ≤ h0.size) (F_count_a : Fld Z h0 a "java/lang/AbstractStringBuilder" "count" "I" (.int z)) :
    MetFree l (⟨"java/lang/AbstractStringBuilder", "length", "()I"⟩ : MethodName) (head1 (Jvm.Cond.code (⟨"java/lang/AbstractStringBuilder", "length", "()I"⟩ : MethodName) jdk_68_method_6_code 1 (some .int) :: ws) ({ frames := 0, cells := 0, slots := 0, locals := 0 } : Room)) (fun ag U => ag = #[(.ref a)] ∧ Z.Warmed39 U.vm ∧ U.heap = h0) (fun _ _ _ _ _ => True) (fun _ U o U' => ∃ v L, o = .returned v ∧ Q_own_asl Z a z h0 n0 v U'.heap L ∧ FrameEnd U o U' L ({ frames := 0, cells := 0, slots := 0, locals := 0 } : Room).cells ({ frames := 0, cells := 0, slots := 0, locals := 0 } : Room).slots) := by
  refine own_body (plainFor_of_name pn_1) ?_
  intro p e s m below meth c s₁ Bd hml hZ e0
  have hx := Bd.exec
  have hby := Bd.bytes
  have hlk : meth.locks = false := BodyLoose.notSynchronized Bd
  have hown : s.vm.findClass "java/lang/AbstractStringBuilder" = some m.cls := findClass_of_methodNamed Bd.named
  have hnm := (name_of_methodNamed Bd.named Bd.method).1
  have X0 : Stand p l e ({ frames := 0, cells := 0, slots := 0, locals := 0 } : Room) s m #[(.ref a)] below meth c s₁ [] 0 0 := Stand.of_body Bd
  have N0 := Fr.nil n0
  have KP0 : Keep h0 h0 [] := Keep.refl h0 []
  have lt_a := F_count_a.lt
  refine own_cast (g' := (mkF m 0 #[.val (.ref a)] [])) (by first | (simp [entryFrame, mkF, argsToLocals, own_cat_int, own_cat_long, own_cat_ref, own_cat_null]; done) | rfl) ?_
  refine own_step (T' := s₁) (g' := (mkF m 1 #[.val (.ref a)] [(.ref a)])) (fun _ q => XS.aloadN X0.here hx rfl (hb hby d30_0) rfl rfl q) ?_
  obtain ⟨T119, X119, e119, st119⟩ := getF X0 hx hZ hown (host := "") (Or.inl (w123 hw)) Via.refl e0 F_count_a (g := (mkF m 1 #[.val (.ref a)] [(.ref a)])) rfl rfl (hb hby d30_1)
  refine own_step (T' := T119) (g' := (mkF m 4 #[.val (.ref a)] [(.int z)])) st119 ?_
  exact own_retI X119 hx Bd.returns (hb hby d30_4) hlk ⟨rfl, N0, e119⟩ (by first | decide | (dsimp only; omega)) (by first | decide | (dsimp only; omega))
theorem d29_0 : decode jdk_67_method_93_code 0 = .ok (.aload_n 0, 1) := by decide +kernel
theorem d29_1 : decode jdk_67_method_93_code 1 = .ok (.invokespecial 343, 3) := by decide +kernel
theorem d29_4 : decode jdk_67_method_93_code 4 = .ok (.ireturn, 1) := by decide +kernel
def Q_own_sbl (Z : State) (a : Addr) (z : Int32) (h0 : Heap) (n0 : Nat) (v : Option Value) (h : Heap) (L : List Loc) : Prop := v = some (.int z) ∧ Fr n0 L ∧ h = h0
set_option maxRecDepth 65536 in
set_option maxHeartbeats 40000000 in
theorem own_sbl (l : Launch) (Z : State) (a0 : Array Value) (hw : ∀ d ∈ tables_1, d.before a0 Z = true) (ws : List Jvm.Cond) (a : Addr) (z : Int32) (h0 : Heap) (n0 : Nat) (Z0 : n0 ≤ h0.size) (E_a : Exa Z h0 a "java/lang/StringBuilder") (F_count_a : Fld Z h0 a "java/lang/AbstractStringBuilder" "count" "I" (.int z)) :
    MetFree l (⟨"java/lang/StringBuilder", "length", "()I"⟩ : MethodName) (head1 (Jvm.Cond.code (⟨"java/lang/StringBuilder", "length", "()I"⟩ : MethodName) jdk_67_method_93_code 1 (some .int) :: ws) ({ frames := 1, cells := 0, slots := 0, locals := 12 } : Room)) (fun ag U => ag = #[(.ref a)] ∧ Z.Warmed39 U.vm ∧ U.heap = h0) (fun _ _ _ _ _ => True) (fun _ U o U' => ∃ v L, o = .returned v ∧ Q_own_sbl Z a z h0 n0 v U'.heap L ∧ FrameEnd U o U' L ({ frames := 1, cells := 0, slots := 0, locals := 12 } : Room).cells ({ frames := 1, cells := 0, slots := 0, locals := 12 } : Room).slots) := by
  refine own_body (plainFor_of_name pn_2) ?_
  intro p e s m below meth c s₁ Bd hml hZ e0
  have hx := Bd.exec
  have hby := Bd.bytes
  have hlk : meth.locks = false := BodyLoose.notSynchronized Bd
  have hown : s.vm.findClass "java/lang/StringBuilder" = some m.cls := findClass_of_methodNamed Bd.named
  have hnm := (name_of_methodNamed Bd.named Bd.method).1
  have X0 : Stand p l e ({ frames := 1, cells := 0, slots := 0, locals := 12 } : Room) s m #[(.ref a)] below meth c s₁ [] 0 0 := Stand.of_body Bd
  have N0 := Fr.nil n0
  have KP0 : Keep h0 h0 [] := Keep.refl h0 []
  have lt_a := E_a.lt
  refine own_cast (g' := (mkF m 0 #[.val (.ref a)] [])) (by first | (simp [entryFrame, mkF, argsToLocals, own_cat_int, own_cat_long, own_cat_ref, own_cat_null]; done) | rfl) ?_
  refine own_step (T' := s₁) (g' := (mkF m 1 #[.val (.ref a)] [(.ref a)])) (fun _ q => XS.aloadN X0.here hx rfl (hb hby d29_0) rfl rfl q) ?_
  refine own_callU X0 hx hZ hown (by decide) (w173 hw) (w169 hw) (own_same (own_nf_move (notFace_of_selects (args := a0) (w128 hw)) (w126 hw) rfl) (w169 hw) (by decide)) (w110 hw) (w174 hw) (by decide) (backOf (W := 0) (own_asl l Z a0 hw [] a z h0 n0 Z0 F_count_a) hZ (w174 hw) (w94 hw) (Nat.le_of_ble_eq_true rfl) (Nat.le_of_ble_eq_true rfl)) e0 E_a  (by first | decide | (dsimp only; omega)) (by first | decide | (dsimp only; omega)) (g := (mkF m 1 #[.val (.ref a)] [(.ref a)])) (argsL := []) (rest := []) rfl (by rw [hml]; rfl) (lenOf pd_5 rfl) rfl rfl (by show 2 * 0 + _ ≤ _; exact Nat.le_of_eq rfl) (hb hby d29_1) ?_
  rintro _ T120 L120 X120 ⟨rfl, N120q, e120⟩
  have N121 := Fr.app N0 N120q
  show own_Fin p e below _ T120 (mkF m 4 #[.val (.ref a)] [(.int z)])
  exact own_retI X120 hx Bd.returns (hb hby d29_4) hlk ⟨rfl, N121, e120⟩ (by first | decide | (dsimp only; omega)) (by first | decide | (dsimp only; omega))
theorem d31_0 : decode jdk_68_method_68_code 0 = .ok (.getstatic 18, 3) := by decide +kernel
theorem d31_3 : decode jdk_68_method_68_code 3 = .ok (.ifCond .eq 14, 3) := by decide +kernel
theorem d31_6 : decode jdk_68_method_68_code 6 = .ok (.aload_n 0, 1) := by decide +kernel
theorem d31_7 : decode jdk_68_method_68_code 7 = .ok (.getfield 22, 3) := by decide +kernel
theorem d31_10 : decode jdk_68_method_68_code 10 = .ok (.ifCond .ne 7, 3) := by decide +kernel
theorem d31_13 : decode jdk_68_method_68_code 13 = .ok (.iconst 1, 1) := by decide +kernel
theorem d31_14 : decode jdk_68_method_68_code 14 = .ok (.goto 4, 3) := by decide +kernel
theorem d31_18 : decode jdk_68_method_68_code 18 = .ok (.ireturn, 1) := by decide +kernel
def Q_own_asi (Z : State) (G1 : Int32) (G3 : Value) (a : Addr) (h0 : Heap) (n0 : Nat) (v : Option Value) (h : Heap) (L : List Loc) : Prop := v = some (.int (1 : Int32)) ∧ Fr n0 L ∧ h = h0
set_option maxRecDepth 65536 in
set_option maxHeartbeats 40000000 in
theorem own_asi (l : Launch) (Z : State) (a0 : Array Value) (hw : ∀ d ∈ tables_1, d.before a0 Z = true) (ws : List Jvm.Cond) (G1 : Int32) (G3 : Value) (a : Addr) (h0 : Heap) (n0 : Nat) (Z0 : n0 ≤ h0.size) (O2 : Sta Z Z.heap "java/lang/String" "COMPACT_STRINGS" "Z" (.int G1)) (O4 : Sta Z Z.heap "jdk/internal/util/Preconditions" "SIOOBE_FORMATTER" "Ljava/util/function/BiFunction;" G3) (P5 : ¬ (G1 = (0 : Int32))) (rG3 : G3.isRef = true) (OLD0 : Old Z n0 h0) (F_coder_a : Fld Z h0 a "java/lang/AbstractStringBuilder" "coder" "B" (.int (0 : Int32))) :
    MetFree l (⟨"java/lang/AbstractStringBuilder", "isLatin1", "()Z"⟩ : MethodName) (head1 (Jvm.Cond.code (⟨"java/lang/AbstractStringBuilder", "isLatin1", "()Z"⟩ : MethodName) jdk_68_method_68_code 1 (some .boolean) :: ws) ({ frames := 0, cells := 0, slots := 0, locals := 0 } : Room)) (fun ag U => ag = #[(.ref a)] ∧ Z.Warmed39 U.vm ∧ U.heap = h0) (fun _ _ _ _ _ => True) (fun _ U o U' => ∃ v L, o = .returned v ∧ Q_own_asi Z G1 G3 a h0 n0 v U'.heap L ∧ FrameEnd U o U' L ({ frames := 0, cells := 0, slots := 0, locals := 0 } : Room).cells ({ frames := 0, cells := 0, slots := 0, locals := 0 } : Room).slots) := by
  refine own_body (plainFor_of_name pn_1) ?_
  intro p e s m below meth c s₁ Bd hml hZ e0
  have hx := Bd.exec
  have hby := Bd.bytes
  have hlk : meth.locks = false := BodyLoose.notSynchronized Bd
  have hown : s.vm.findClass "java/lang/AbstractStringBuilder" = some m.cls := findClass_of_methodNamed Bd.named
  have hnm := (name_of_methodNamed Bd.named Bd.method).1
  have X0 : Stand p l e ({ frames := 0, cells := 0, slots := 0, locals := 0 } : Room) s m #[(.ref a)] below meth c s₁ [] 0 0 := Stand.of_body Bd
  have N0 := Fr.nil n0
  have KP0 : Keep h0 h0 [] := Keep.refl h0 []
  have lt_a := F_coder_a.lt
  refine own_cast (g' := (mkF m 0 #[.val (.ref a)] [])) (by first | (simp [entryFrame, mkF, argsToLocals, own_cat_int, own_cat_long, own_cat_ref, own_cat_null]; done) | rfl) ?_
  obtain ⟨T122, X122, e122, st122⟩ := getS2 X0 hx hZ hown (host := "") (Or.inl (w97 hw)) Via.refl e0 (O2.ext OLD0.2) (g := (mkF m 0 #[.val (.ref a)] [])) rfl (hb hby d31_0)
  refine own_step (T' := T122) (g' := (mkF m 3 #[.val (.ref a)] [(.int G1)])) st122 ?_
  have hc123 : ¬ (G1 = 0) := P5
  refine own_step (T' := T122) (g' := (mkF m 6 #[.val (.ref a)] [])) (fun _ q => XS.ifNo X122.here hx rfl (hb hby d31_3) rfl (XT.i0_eq_f hc123) q) ?_
  refine own_step (T' := T122) (g' := (mkF m 7 #[.val (.ref a)] [(.ref a)])) (fun _ q => XS.aloadN X122.here hx rfl (hb hby d31_6) rfl rfl q) ?_
  obtain ⟨T124, X124, e124, st124⟩ := getF X122 hx hZ hown (host := "") (Or.inl (w100 hw)) Via.refl e122 F_coder_a (g := (mkF m 7 #[.val (.ref a)] [(.ref a)])) rfl rfl (hb hby d31_7)
  refine own_step (T' := T124) (g' := (mkF m 10 #[.val (.ref a)] [(.int (0 : Int32))])) st124 ?_
  refine own_step (T' := T124) (g' := (mkF m 13 #[.val (.ref a)] [])) (fun _ q => XS.ifNo X124.here hx rfl (hb hby d31_10) rfl (by decide) q) ?_
  refine own_step (T' := T124) (g' := (mkF m 14 #[.val (.ref a)] [(.int (1 : Int32))])) (fun _ q => XS.iconst X124.here hx rfl (hb hby d31_13) q) ?_
  refine own_step (T' := T124) (g' := (mkF m 18 #[.val (.ref a)] [(.int (1 : Int32))])) (fun _ q => XS.goto X124.here hx rfl (pc0 := 14) (pc' := 18) rfl (hb hby d31_14) (by decide) (by decide) q) ?_
  exact own_retN X124 hx Bd.returns (by simp) (hb hby d31_18) hlk ⟨rfl, N0, e124⟩ (by first | decide | (dsimp only; omega)) (by first | decide | (dsimp only; omega))
theorem d35_0 : decode jdk_29_method_69_code 0 = .ok (.iload_n 0, 1) := by decide +kernel
theorem d35_1 : decode jdk_29_method_69_code 1 = .ok (.iload_n 1, 1) := by decide +kernel
theorem d35_2 : decode jdk_29_method_69_code 2 = .ok (.if_icmp .gt 7, 3) := by decide +kernel
theorem d35_9 : decode jdk_29_method_69_code 9 = .ok (.iload_n 1, 1) := by decide +kernel
theorem d35_10 : decode jdk_29_method_69_code 10 = .ok (.ireturn, 1) := by decide +kernel
def Q_own_min (Z : State) (n : Nat) (h0 : Heap) (n0 : Nat) (v : Option Value) (h : Heap) (L : List Loc) : Prop := v = some (.int (Int32.ofNat n)) ∧ Fr n0 L ∧ h = h0
set_option maxRecDepth 65536 in
set_option maxHeartbeats 40000000 in
theorem own_min (l : Launch) (Z : State) (a0 : Array Value) (hw : ∀ d ∈ tables_1, d.before a0 Z = true) (ws : List Jvm.Cond) (n : Nat) (h0 : Heap) (n0 : Nat) (Z0 : n0 ≤ h0.size) (hn : n < 16) :
    MetFree l (⟨"java/lang/Math", "min", "(II)I"⟩ : MethodName) (head1 (Jvm.Cond.code (⟨"java/lang/Math", "min", "(II)I"⟩ : MethodName) jdk_29_method_69_code 2 (some .int) :: ws) ({ frames := 0, cells := 0, slots := 0, locals := 0 } : Room)) (fun ag U => ag = #[(.int (16 : Int32)), (.int (Int32.ofNat n))] ∧ Z.Warmed39 U.vm ∧ U.heap = h0) (fun _ _ _ _ _ => True) (fun _ U o U' => ∃ v L, o = .returned v ∧ Q_own_min Z n h0 n0 v U'.heap L ∧ FrameEnd U o U' L ({ frames := 0, cells := 0, slots := 0, locals := 0 } : Room).cells ({ frames := 0, cells := 0, slots := 0, locals := 0 } : Room).slots) := by
  refine own_body (Jvm.Free.JP.mathPlain rfl (by decide +kernel)) ?_
  intro p e s m below meth c s₁ Bd hml hZ e0
  have hx := Bd.exec
  have hby := Bd.bytes
  have hlk : meth.locks = false := BodyLoose.notSynchronized Bd
  have hown : s.vm.findClass "java/lang/Math" = some m.cls := findClass_of_methodNamed Bd.named
  have hnm := (name_of_methodNamed Bd.named Bd.method).1
  have X0 : Stand p l e ({ frames := 0, cells := 0, slots := 0, locals := 0 } : Room) s m #[(.int (16 : Int32)), (.int (Int32.ofNat n))] below meth c s₁ [] 0 0 := Stand.of_body Bd
  have N0 := Fr.nil n0
  have KP0 : Keep h0 h0 [] := Keep.refl h0 []
  refine own_cast (g' := (mkF m 0 #[.val (.int (16 : Int32)), .val (.int (Int32.ofNat n))] [])) (by first | (simp [entryFrame, mkF, argsToLocals, own_cat_int, own_cat_long, own_cat_ref, own_cat_null]; done) | rfl) ?_
  refine own_step (T' := s₁) (g' := (mkF m 1 #[.val (.int (16 : Int32)), .val (.int (Int32.ofNat n))] [(.int (16 : Int32))])) (fun _ q => XS.iloadN X0.here hx rfl (hb hby d35_0) rfl q) ?_
  refine own_step (T' := s₁) (g' := (mkF m 2 #[.val (.int (16 : Int32)), .val (.int (Int32.ofNat n))] [(.int (Int32.ofNat n)), (.int (16 : Int32))])) (fun _ q => XS.iloadN X0.here hx rfl (hb hby d35_1) rfl q) ?_
  have hc125 : ((Int32.ofNat n) < (16 : Int32)) := own_lt16 hn
  refine own_step (T' := s₁) (g' := (mkF m 9 #[.val (.int (16 : Int32)), .val (.int (Int32.ofNat n))] [])) (fun _ q => XS.icmpYes X0.here hx rfl (pc0 := 2) (pc' := 9) rfl (hb hby d35_2) rfl (XT.ii_gt_t hc125) (by decide) (by decide) q) ?_
  refine own_step (T' := s₁) (g' := (mkF m 10 #[.val (.int (16 : Int32)), .val (.int (Int32.ofNat n))] [(.int (Int32.ofNat n))])) (fun _ q => XS.iloadN X0.here hx rfl (hb hby d35_9) rfl q) ?_
  exact own_retI X0 hx Bd.returns (hb hby d35_10) hlk ⟨rfl, N0, e0⟩ (by first | decide | (dsimp only; omega)) (by first | decide | (dsimp only; omega))
theorem pn_3 : plainName "java/util/Arrays" = true := by first | (simp [plainName, overriddenIn]; done) | decide +kernel
theorem d34_0 : decode jdk_65_method_131_code 0 = .ok (.iload_n 1, 1) := by decide +kernel
theorem d34_1 : decode jdk_65_method_131_code 1 = .ok (.iload_n 0, 1) := by decide +kernel
theorem d34_2 : decode jdk_65_method_131_code 2 = .ok (.if_icmp .ge 35, 3) := by decide +kernel
theorem d34_37 : decode jdk_65_method_131_code 37 = .ok (.return_, 1) := by decide +kernel
def Q_own_ckl (Z : State) (n : Nat) (h0 : Heap) (n0 : Nat) (v : Option Value) (h : Heap) (L : List Loc) : Prop := v = none ∧ Fr n0 L ∧ h = h0
set_option maxRecDepth 65536 in
set_option maxHeartbeats 40000000 in
theorem own_ckl (l : Launch) (Z : State) (a0 : Array Value) (hw : ∀ d ∈ tables_1, d.before a0 Z = true) (ws : List Jvm.Cond) (n : Nat) (h0 : Heap) (n0 : Nat) (Z0 : n0 ≤ h0.size) (hn : n < 16) :
    MetFree l (⟨"java/util/Arrays", "checkLength", "(II)V"⟩ : MethodName) (head1 (Jvm.Cond.code (⟨"java/util/Arrays", "checkLength", "(II)V"⟩ : MethodName) jdk_65_method_131_code 2 none :: ws) ({ frames := 0, cells := 0, slots := 0, locals := 0 } : Room)) (fun ag U => ag = #[(.int (0 : Int32)), (.int (Int32.ofNat n))] ∧ Z.Warmed39 U.vm ∧ U.heap = h0) (fun _ _ _ _ _ => True) (fun _ U o U' => ∃ v L, o = .returned v ∧ Q_own_ckl Z n h0 n0 v U'.heap L ∧ FrameEnd U o U' L ({ frames := 0, cells := 0, slots := 0, locals := 0 } : Room).cells ({ frames := 0, cells := 0, slots := 0, locals := 0 } : Room).slots) := by
  refine own_body (plainFor_of_name pn_3) ?_
  intro p e s m below meth c s₁ Bd hml hZ e0
  have hx := Bd.exec
  have hby := Bd.bytes
  have hlk : meth.locks = false := BodyLoose.notSynchronized Bd
  have hown : s.vm.findClass "java/util/Arrays" = some m.cls := findClass_of_methodNamed Bd.named
  have hnm := (name_of_methodNamed Bd.named Bd.method).1
  have X0 : Stand p l e ({ frames := 0, cells := 0, slots := 0, locals := 0 } : Room) s m #[(.int (0 : Int32)), (.int (Int32.ofNat n))] below meth c s₁ [] 0 0 := Stand.of_body Bd
  have N0 := Fr.nil n0
  have KP0 : Keep h0 h0 [] := Keep.refl h0 []
  refine own_cast (g' := (mkF m 0 #[.val (.int (0 : Int32)), .val (.int (Int32.ofNat n))] [])) (by first | (simp [entryFrame, mkF, argsToLocals, own_cat_int, own_cat_long, own_cat_ref, own_cat_null]; done) | rfl) ?_
  refine own_step (T' := s₁) (g' := (mkF m 1 #[.val (.int (0 : Int32)), .val (.int (Int32.ofNat n))] [(.int (Int32.ofNat n))])) (fun _ q => XS.iloadN X0.here hx rfl (hb hby d34_0) rfl q) ?_
  refine own_step (T' := s₁) (g' := (mkF m 2 #[.val (.int (0 : Int32)), .val (.int (Int32.ofNat n))] [(.int (0 : Int32)), (.int (Int32.ofNat n))])) (fun _ q => XS.iloadN X0.here hx rfl (hb hby d34_1) rfl q) ?_
  have hc126 : ¬ ((Int32.ofNat n) < (0 : Int32)) := own_nneg (by omega)
  refine own_step (T' := s₁) (g' := (mkF m 37 #[.val (.int (0 : Int32)), .val (.int (Int32.ofNat n))] [])) (fun _ q => XS.icmpYes X0.here hx rfl (pc0 := 2) (pc' := 37) rfl (hb hby d34_2) rfl (XT.ii_ge_t hc126) (by decide) (by decide) q) ?_
  exact own_retV X0 hx Bd.returns (hb hby d34_37) hlk ⟨rfl, N0, e0⟩ (by first | decide | (dsimp only; omega)) (by first | decide | (dsimp only; omega))
theorem pd_8 : parseMethodDescriptor "(II)V" = some ⟨[.int, .int], none⟩ := by decide +kernel
theorem pd_9 : parseMethodDescriptor "(II)I" = some ⟨[.int, .int], some .int⟩ := by decide +kernel
theorem d33_0 : decode jdk_65_method_133_code 0 = .ok (.iload_n 1, 1) := by decide +kernel
theorem d33_1 : decode jdk_65_method_133_code 1 = .ok (.iload_n 2, 1) := by decide +kernel
theorem d33_2 : decode jdk_65_method_133_code 2 = .ok (.invokestatic 343, 3) := by decide +kernel
theorem d33_5 : decode jdk_65_method_133_code 5 = .ok (.iload_n 2, 1) := by decide +kernel
theorem d33_6 : decode jdk_65_method_133_code 6 = .ok (.iload_n 1, 1) := by decide +kernel
theorem d33_7 : decode jdk_65_method_133_code 7 = .ok (.isub, 1) := by decide +kernel
theorem d33_8 : decode jdk_65_method_133_code 8 = .ok (.istore_n 3, 1) := by decide +kernel
theorem d33_9 : decode jdk_65_method_133_code 9 = .ok (.iload_n 3, 1) := by decide +kernel
theorem d33_10 : decode jdk_65_method_133_code 10 = .ok (.newarray .byte, 2) := by decide +kernel
theorem d33_12 : decode jdk_65_method_133_code 12 = .ok (.astore 4, 2) := by decide +kernel
theorem d33_14 : decode jdk_65_method_133_code 14 = .ok (.aload_n 0, 1) := by decide +kernel
theorem d33_15 : decode jdk_65_method_133_code 15 = .ok (.iload_n 1, 1) := by decide +kernel
theorem d33_16 : decode jdk_65_method_133_code 16 = .ok (.aload 4, 2) := by decide +kernel
theorem d33_18 : decode jdk_65_method_133_code 18 = .ok (.iconst 0, 1) := by decide +kernel
theorem d33_19 : decode jdk_65_method_133_code 19 = .ok (.aload_n 0, 1) := by decide +kernel
theorem d33_20 : decode jdk_65_method_133_code 20 = .ok (.arraylength, 1) := by decide +kernel
theorem d33_21 : decode jdk_65_method_133_code 21 = .ok (.iload_n 1, 1) := by decide +kernel
theorem d33_22 : decode jdk_65_method_133_code 22 = .ok (.isub, 1) := by decide +kernel
theorem d33_23 : decode jdk_65_method_133_code 23 = .ok (.iload_n 3, 1) := by decide +kernel
theorem d33_24 : decode jdk_65_method_133_code 24 = .ok (.invokestatic 304, 3) := by decide +kernel
theorem d33_27 : decode jdk_65_method_133_code 27 = .ok (.invokestatic 150, 3) := by decide +kernel
theorem d33_30 : decode jdk_65_method_133_code 30 = .ok (.aload 4, 2) := by decide +kernel
theorem d33_32 : decode jdk_65_method_133_code 32 = .ok (.areturn, 1) := by decide +kernel
def Q_own_crb (Z : State) (u : Addr) (ku : ClassId) (bs : List Value) (h0 : Heap) (n0 : Nat) (v : Option Value) (h : Heap) (L : List Loc) : Prop := ∃ (t : Addr), ∃ (kb : ClassId), v = some (.ref t) ∧ Fr n0 L ∧ Keep h0 h [] ∧ h0.size ≤ t ∧ Arv Z h t kb .byte (Int32.ofNat bs.length) bs (.int 0)
set_option maxRecDepth 65536 in
set_option maxHeartbeats 40000000 in
theorem own_crb (l : Launch) (Z : State) (a0 : Array Value) (hw : ∀ d ∈ tables_1, d.before a0 Z = true) (ws : List Jvm.Cond) (u : Addr) (ku : ClassId) (bs : List Value) (h0 : Heap) (n0 : Nat) (Z0 : n0 ≤ h0.size) (V_u : Arv Z h0 u ku .byte (16 : Int32) (own_pad bs) (.int 0)) (hbl : bs.length < 16) :
    MetFree l (⟨"java/util/Arrays", "copyOfRangeByte", "([BII)[B"⟩ : MethodName) (head1 (Jvm.Cond.code (⟨"java/util/Arrays", "copyOfRangeByte", "([BII)[B"⟩ : MethodName) jdk_65_method_133_code 5 (some (.array .byte)) :: ws) ({ frames := 1, cells := 1, slots := 16, locals := 18 } : Room)) (fun ag U => ag = #[(.ref u), (.int (0 : Int32)), (.int (Int32.ofNat bs.length))] ∧ Z.Warmed39 U.vm ∧ U.heap = h0) (fun _ _ _ _ _ => True) (fun _ U o U' => ∃ v L, o = .returned v ∧ Q_own_crb Z u ku bs h0 n0 v U'.heap L ∧ FrameEnd U o U' L ({ frames := 1, cells := 1, slots := 16, locals := 18 } : Room).cells ({ frames := 1, cells := 1, slots := 16, locals := 18 } : Room).slots) := by
  refine own_body (plainFor_of_name pn_3) ?_
  intro p e s m below meth c s₁ Bd hml hZ e0
  have hx := Bd.exec
  have hby := Bd.bytes
  have hlk : meth.locks = false := BodyLoose.notSynchronized Bd
  have hown : s.vm.findClass "java/util/Arrays" = some m.cls := findClass_of_methodNamed Bd.named
  have hnm := (name_of_methodNamed Bd.named Bd.method).1
  have X0 : Stand p l e ({ frames := 1, cells := 1, slots := 16, locals := 18 } : Room) s m #[(.ref u), (.int (0 : Int32)), (.int (Int32.ofNat bs.length))] below meth c s₁ [] 0 0 := Stand.of_body Bd
  have N0 := Fr.nil n0
  have KP0 : Keep h0 h0 [] := Keep.refl h0 []
  have lt_u := V_u.lt
  refine own_cast (g' := (mkF m 0 #[.val (.ref u), .val (.int (0 : Int32)), .val (.int (Int32.ofNat bs.length)), .unset, .unset] [])) (by first | (simp [entryFrame, mkF, argsToLocals, own_cat_int, own_cat_long, own_cat_ref, own_cat_null]; done) | rfl) ?_
  refine own_step (T' := s₁) (g' := (mkF m 1 #[.val (.ref u), .val (.int (0 : Int32)), .val (.int (Int32.ofNat bs.length)), .unset, .unset] [(.int (0 : Int32))])) (fun _ q => XS.iloadN X0.here hx rfl (hb hby d33_0) rfl q) ?_
  refine own_step (T' := s₁) (g' := (mkF m 2 #[.val (.ref u), .val (.int (0 : Int32)), .val (.int (Int32.ofNat bs.length)), .unset, .unset] [(.int (Int32.ofNat bs.length)), (.int (0 : Int32))])) (fun _ q => XS.iloadN X0.here hx rfl (hb hby d33_1) rfl q) ?_
  refine own_callS X0 hx hZ hown (w187 hw) (w188 hw) (w182 hw) (w189 hw) (by decide) (backOf (W := 0) (own_ckl l Z a0 hw [] bs.length h0 n0 Z0 (hbl : bs.length < 16)) hZ (w189 hw) (w182 hw) (Nat.le_of_ble_eq_true rfl) (Nat.le_of_ble_eq_true rfl)) e0  (by first | decide | (dsimp only; omega)) (by first | decide | (dsimp only; omega)) (g := (mkF m 2 #[.val (.ref u), .val (.int (0 : Int32)), .val (.int (Int32.ofNat bs.length)), .unset, .unset] [(.int (Int32.ofNat bs.length)), (.int (0 : Int32))])) (argsL := [(.int (0 : Int32)), (.int (Int32.ofNat bs.length))]) (rest := []) rfl (by rw [hml]; rfl) (lenOf pd_8 rfl) rfl rfl (by show 2 * 0 + _ ≤ _; exact Nat.le_of_eq rfl) (hb hby d33_2) ?_
  rintro _ T127 L127 X127 ⟨rfl, N127q, e127⟩
  have N128 := Fr.app N0 N127q
  show own_Fin p e below _ T127 (mkF m 5 #[.val (.ref u), .val (.int (0 : Int32)), .val (.int (Int32.ofNat bs.length)), .unset, .unset] [])
  refine own_step (T' := T127) (g' := (mkF m 6 #[.val (.ref u), .val (.int (0 : Int32)), .val (.int (Int32.ofNat bs.length)), .unset, .unset] [(.int (Int32.ofNat bs.length))])) (fun _ q => XS.iloadN X127.here hx rfl (hb hby d33_5) rfl q) ?_
  refine own_step (T' := T127) (g' := (mkF m 7 #[.val (.ref u), .val (.int (0 : Int32)), .val (.int (Int32.ofNat bs.length)), .unset, .unset] [(.int (0 : Int32)), (.int (Int32.ofNat bs.length))])) (fun _ q => XS.iloadN X127.here hx rfl (hb hby d33_6) rfl q) ?_
  refine own_step (T' := T127) (g' := (mkF m 8 #[.val (.ref u), .val (.int (0 : Int32)), .val (.int (Int32.ofNat bs.length)), .unset, .unset] [(.int ((Int32.ofNat bs.length) - (0 : Int32)))])) (fun _ q => XS.isub X127.here hx rfl (hb hby d33_7) rfl q) ?_
  rw [show ((Int32.ofNat bs.length) - (0 : Int32)) = (Int32.ofNat bs.length) from (own_sub0 _)]
  refine own_step (T' := T127) (g' := (mkF m 9 #[.val (.ref u), .val (.int (0 : Int32)), .val (.int (Int32.ofNat bs.length)), .val (.int (Int32.ofNat bs.length)), .unset] [])) (fun _ q => XS.istoreN X127.here hx rfl (hb hby d33_8) rfl (l' := #[.val (.ref u), .val (.int (0 : Int32)), .val (.int (Int32.ofNat bs.length)), .val (.int (Int32.ofNat bs.length)), .unset]) rfl q) ?_
  refine own_step (T' := T127) (g' := (mkF m 10 #[.val (.ref u), .val (.int (0 : Int32)), .val (.int (Int32.ofNat bs.length)), .val (.int (Int32.ofNat bs.length)), .unset] [(.int (Int32.ofNat bs.length))])) (fun _ q => XS.iloadN X127.here hx rfl (hb hby d33_9) rfl q) ?_
  obtain ⟨T129, h129, k129, X129, e129, E129, A129, st129⟩ := newP X127 hx hZ (aty := .byte) (w19 hw) e127 (g := (mkF m 10 #[.val (.ref u), .val (.int (0 : Int32)), .val (.int (Int32.ofNat bs.length)), .val (.int (Int32.ofNat bs.length)), .unset] [(.int (Int32.ofNat bs.length))])) rfl (hb hby d33_10) rfl (own_nneg (by omega)) (cap := 16) (by rw [own_nat (by omega)]; omega) (by first | decide | omega) (by first | decide | (dsimp only; omega)) (by first | decide | (dsimp only; omega))
  obtain ⟨b129, g129⟩ : ∃ z, z = h0.size := ⟨_, rfl⟩
  rw [← g129] at A129 st129
  have n0_130 : n0 ≤ b129 := Nat.le_trans Z0 (Nat.le_of_eq g129.symm)
  have sz0_131 := Nat.le_trans KP0.1 (Nat.le_of_eq g129.symm)
  have ne132 : u ≠ b129 := own_ne lt_u (Nat.le_of_eq g129.symm)
  have V129 : Arv Z h129 b129 k129 .byte (Int32.ofNat bs.length) (List.replicate (Int32.ofNat bs.length).toNatClampNeg (.int (0 : Int32))) (.int (0 : Int32)) := (Arv.new A129 (own_nneg (by omega))).pad (pad_rep [] (.int (0 : Int32)) _)
  have ltb129 := V129.lt
  refine own_step (T' := T129) (g' := (mkF m 12 #[.val (.ref u), .val (.int (0 : Int32)), .val (.int (Int32.ofNat bs.length)), .val (.int (Int32.ofNat bs.length)), .unset] [(.ref b129)])) st129 ?_
  refine own_step (T' := T129) (g' := (mkF m 14 #[.val (.ref u), .val (.int (0 : Int32)), .val (.int (Int32.ofNat bs.length)), .val (.int (Int32.ofNat bs.length)), .val (.ref b129)] [])) (fun _ q => XS.astore X129.here hx rfl (hb hby d33_12) rfl rfl (l' := #[.val (.ref u), .val (.int (0 : Int32)), .val (.int (Int32.ofNat bs.length)), .val (.int (Int32.ofNat bs.length)), .val (.ref b129)]) rfl q) ?_
  refine own_step (T' := T129) (g' := (mkF m 15 #[.val (.ref u), .val (.int (0 : Int32)), .val (.int (Int32.ofNat bs.length)), .val (.int (Int32.ofNat bs.length)), .val (.ref b129)] [(.ref u)])) (fun _ q => XS.aloadN X129.here hx rfl (hb hby d33_14) rfl rfl q) ?_
  refine own_step (T' := T129) (g' := (mkF m 16 #[.val (.ref u), .val (.int (0 : Int32)), .val (.int (Int32.ofNat bs.length)), .val (.int (Int32.ofNat bs.length)), .val (.ref b129)] [(.int (0 : Int32)), (.ref u)])) (fun _ q => XS.iloadN X129.here hx rfl (hb hby d33_15) rfl q) ?_
  refine own_step (T' := T129) (g' := (mkF m 18 #[.val (.ref u), .val (.int (0 : Int32)), .val (.int (Int32.ofNat bs.length)), .val (.int (Int32.ofNat bs.length)), .val (.ref b129)] [(.ref b129), (.int (0 : Int32)), (.ref u)])) (fun _ q => XS.aload X129.here hx rfl (hb hby d33_16) rfl rfl q) ?_
  refine own_step (T' := T129) (g' := (mkF m 19 #[.val (.ref u), .val (.int (0 : Int32)), .val (.int (Int32.ofNat bs.length)), .val (.int (Int32.ofNat bs.length)), .val (.ref b129)] [(.int (0 : Int32)), (.ref b129), (.int (0 : Int32)), (.ref u)])) (fun _ q => XS.iconst X129.here hx rfl (hb hby d33_18) q) ?_
  refine own_step (T' := T129) (g' := (mkF m 20 #[.val (.ref u), .val (.int (0 : Int32)), .val (.int (Int32.ofNat bs.length)), .val (.int (Int32.ofNat bs.length)), .val (.ref b129)] [(.ref u), (.int (0 : Int32)), (.ref b129), (.int (0 : Int32)), (.ref u)])) (fun _ q => XS.aloadN X129.here hx rfl (hb hby d33_19) rfl rfl q) ?_
  have c133 := (V_u.ext E129)
  refine own_step (T' := T129) (g' := (mkF m 21 #[.val (.ref u), .val (.int (0 : Int32)), .val (.int (Int32.ofNat bs.length)), .val (.int (Int32.ofNat bs.length)), .val (.ref b129)] [(.int (16 : Int32)), (.int (0 : Int32)), (.ref b129), (.int (0 : Int32)), (.ref u)])) (fun _ q => own_len X129 hx hZ e129 c133 (g := (mkF m 20 #[.val (.ref u), .val (.int (0 : Int32)), .val (.int (Int32.ofNat bs.length)), .val (.int (Int32.ofNat bs.length)), .val (.ref b129)] [(.ref u), (.int (0 : Int32)), (.ref b129), (.int (0 : Int32)), (.ref u)])) rfl rfl (hb hby d33_20) _ q) ?_
  refine own_step (T' := T129) (g' := (mkF m 22 #[.val (.ref u), .val (.int (0 : Int32)), .val (.int (Int32.ofNat bs.length)), .val (.int (Int32.ofNat bs.length)), .val (.ref b129)] [(.int (0 : Int32)), (.int (16 : Int32)), (.int (0 : Int32)), (.ref b129), (.int (0 : Int32)), (.ref u)])) (fun _ q => XS.iloadN X129.here hx rfl (hb hby d33_21) rfl q) ?_
  refine own_step (T' := T129) (g' := (mkF m 23 #[.val (.ref u), .val (.int (0 : Int32)), .val (.int (Int32.ofNat bs.length)), .val (.int (Int32.ofNat bs.length)), .val (.ref b129)] [(.int (16 : Int32)), (.int (0 : Int32)), (.ref b129), (.int (0 : Int32)), (.ref u)])) (fun _ q => XS.isub X129.here hx rfl (hb hby d33_22) rfl q) ?_
  refine own_step (T' := T129) (g' := (mkF m 24 #[.val (.ref u), .val (.int (0 : Int32)), .val (.int (Int32.ofNat bs.length)), .val (.int (Int32.ofNat bs.length)), .val (.ref b129)] [(.int (Int32.ofNat bs.length)), (.int (16 : Int32)), (.int (0 : Int32)), (.ref b129), (.int (0 : Int32)), (.ref u)])) (fun _ q => XS.iloadN X129.here hx rfl (hb hby d33_23) rfl q) ?_
  have c134 := (Nat.le_trans Z0 E129.1)
  refine own_callS X129 hx hZ hown (w190 hw) (w191 hw) (w192 hw) (w193 hw) (by decide) (backOf (W := 4) (own_min l Z a0 hw [] bs.length h129 n0 c134 (hbl : bs.length < 16)) hZ (w193 hw) (w192 hw) (Nat.le_of_ble_eq_true rfl) (Nat.le_of_ble_eq_true rfl)) e129  (by first | decide | (dsimp only; omega)) (by first | decide | (dsimp only; omega)) (g := (mkF m 24 #[.val (.ref u), .val (.int (0 : Int32)), .val (.int (Int32.ofNat bs.length)), .val (.int (Int32.ofNat bs.length)), .val (.ref b129)] [(.int (Int32.ofNat bs.length)), (.int (16 : Int32)), (.int (0 : Int32)), (.ref b129), (.int (0 : Int32)), (.ref u)])) (argsL := [(.int (16 : Int32)), (.int (Int32.ofNat bs.length))]) (rest := [(.int (0 : Int32)), (.ref b129), (.int (0 : Int32)), (.ref u)]) rfl (by rw [hml]; rfl) (lenOf pd_9 rfl) rfl rfl (by show 2 * 0 + _ ≤ _; exact Nat.le_of_eq rfl) (hb hby d33_24) ?_
  rintro _ T135 L135 X135 ⟨rfl, N135q, e135⟩
  have N136 := Fr.app N128 N135q
  show own_Fin p e below _ T135 (mkF m 27 #[.val (.ref u), .val (.int (0 : Int32)), .val (.int (Int32.ofNat bs.length)), .val (.int (Int32.ofNat bs.length)), .val (.ref b129)] [(.int (Int32.ofNat bs.length)), (.int (0 : Int32)), (.ref b129), (.int (0 : Int32)), (.ref u)])
  obtain ⟨T137, h137, L137, X137, e137, N137, K137, A137, st137⟩ := cpA X135 hx hZ hown (w194 hw) (w149 hw) (w147 hw) (w148 hw) e135 c133 V129 (us := bs) (Or.inl ⟨rfl, rfl⟩) (by decide) (by decide) (own_nneg (by omega)) (by rw [own_nat (by omega), own_z32]; show 0 + bs.length ≤ 16; omega) (by rw [own_nat (by omega), own_z32]; omega) (own_rngA bs _ _ (by omega)) (by rw [own_nat (by omega), own_z32, List.length_replicate]; omega) N136 n0_130 (g := (mkF m 27 #[.val (.ref u), .val (.int (0 : Int32)), .val (.int (Int32.ofNat bs.length)), .val (.int (Int32.ofNat bs.length)), .val (.ref b129)] [(.int (Int32.ofNat bs.length)), (.int (0 : Int32)), (.ref b129), (.int (0 : Int32)), (.ref u)])) rfl (by rw [hml]; rfl) (rest := []) rfl (hb hby d33_27) (Nat.le_of_ble_eq_true rfl) (W := 0) (by show 2 * 0 + _ ≤ _; exact Nat.le_of_eq rfl) (by rw [own_nfw]; exact Nat.le_of_ble_eq_true rfl)
  have qV138 : (((List.replicate (Int32.ofNat bs.length).toNatClampNeg (.int (0 : Int32))).take (0 : Int32).toNatClampNeg ++ bs ++ (List.replicate (Int32.ofNat bs.length).toNatClampNeg (.int (0 : Int32))).drop ((0 : Int32).toNatClampNeg + (Int32.ofNat bs.length).toNatClampNeg)) : List Value) = bs := (own_cp0 hbl)
  have V138 : Arv Z h137 b129 k129 .byte (Int32.ofNat bs.length) bs (.int (0 : Int32)) := own_fixv qV138 A137
  refine own_step (T' := T137) (g' := (mkF m 30 #[.val (.ref u), .val (.int (0 : Int32)), .val (.int (Int32.ofNat bs.length)), .val (.int (Int32.ofNat bs.length)), .val (.ref b129)] [])) st137 ?_
  refine own_step (T' := T137) (g' := (mkF m 32 #[.val (.ref u), .val (.int (0 : Int32)), .val (.int (Int32.ofNat bs.length)), .val (.int (Int32.ofNat bs.length)), .val (.ref b129)] [(.ref b129)])) (fun _ q => XS.aload X137.here hx rfl (hb hby d33_30) rfl rfl q) ?_
  have c139 := ((KP0.ext E129).trans K137 (allS (Or.inr sz0_131) all0))
  exact own_retA X137 hx Bd.returns rfl rfl (hb hby d33_32) hlk (by rw [e137]; exact ⟨b129, k129, rfl, N137, c139, sz0_131, V138⟩) (by first | decide | (dsimp only; omega)) (by first | decide | (dsimp only; omega))
theorem pd_10 : parseMethodDescriptor "([BII)[B" = some ⟨[(.array .byte), .int, .int], some (.array .byte)⟩ := by decide +kernel
theorem d32_0 : decode jdk_65_method_132_code 0 = .ok (.iload_n 1, 1) := by decide +kernel
theorem d32_1 : decode jdk_65_method_132_code 1 = .ok (.ifCond .ne 9, 3) := by decide +kernel
theorem d32_4 : decode jdk_65_method_132_code 4 = .ok (.iload_n 2, 1) := by decide +kernel
theorem d32_5 : decode jdk_65_method_132_code 5 = .ok (.aload_n 0, 1) := by decide +kernel
theorem d32_6 : decode jdk_65_method_132_code 6 = .ok (.arraylength, 1) := by decide +kernel
theorem d32_7 : decode jdk_65_method_132_code 7 = .ok (.if_icmp .eq 10, 3) := by decide +kernel
theorem d32_10 : decode jdk_65_method_132_code 10 = .ok (.aload_n 0, 1) := by decide +kernel
theorem d32_11 : decode jdk_65_method_132_code 11 = .ok (.iload_n 1, 1) := by decide +kernel
theorem d32_12 : decode jdk_65_method_132_code 12 = .ok (.iload_n 2, 1) := by decide +kernel
theorem d32_13 : decode jdk_65_method_132_code 13 = .ok (.invokestatic 339, 3) := by decide +kernel
theorem d32_16 : decode jdk_65_method_132_code 16 = .ok (.areturn, 1) := by decide +kernel
def Q_own_cr (Z : State) (u : Addr) (ku : ClassId) (bs : List Value) (h0 : Heap) (n0 : Nat) (v : Option Value) (h : Heap) (L : List Loc) : Prop := ∃ (t : Addr), ∃ (kb : ClassId), v = some (.ref t) ∧ Fr n0 L ∧ Keep h0 h [] ∧ h0.size ≤ t ∧ Arv Z h t kb .byte (Int32.ofNat bs.length) bs (.int 0)
set_option maxRecDepth 65536 in
set_option maxHeartbeats 40000000 in
theorem own_cr (l : Launch) (Z : State) (a0 : Array Value) (hw : ∀ d ∈ tables_1, d.before a0 Z = true) (ws : List Jvm.Cond) (u : Addr) (ku : ClassId) (bs : List Value) (h0 : Heap) (n0 : Nat) (Z0 : n0 ≤ h0.size) (V_u : Arv Z h0 u ku .byte (16 : Int32) (own_pad bs) (.int 0)) (hbl : bs.length < 16) :
    MetFree l (⟨"java/util/Arrays", "copyOfRange", "([BII)[B"⟩ : MethodName) (head1 (Jvm.Cond.code (⟨"java/util/Arrays", "copyOfRange", "([BII)[B"⟩ : MethodName) jdk_65_method_132_code 3 (some (.array .byte)) :: ws) ({ frames := 2, cells := 1, slots := 16, locals := 34 } : Room)) (fun ag U => ag = #[(.ref u), (.int (0 : Int32)), (.int (Int32.ofNat bs.length))] ∧ Z.Warmed39 U.vm ∧ U.heap = h0) (fun _ _ _ _ _ => True) (fun _ U o U' => ∃ v L, o = .returned v ∧ Q_own_cr Z u ku bs h0 n0 v U'.heap L ∧ FrameEnd U o U' L ({ frames := 2, cells := 1, slots := 16, locals := 34 } : Room).cells ({ frames := 2, cells := 1, slots := 16, locals := 34 } : Room).slots) := by
  refine own_body (plainFor_of_name pn_3) ?_
  intro p e s m below meth c s₁ Bd hml hZ e0
  have hx := Bd.exec
  have hby := Bd.bytes
  have hlk : meth.locks = false := BodyLoose.notSynchronized Bd
  have hown : s.vm.findClass "java/util/Arrays" = some m.cls := findClass_of_methodNamed Bd.named
  have hnm := (name_of_methodNamed Bd.named Bd.method).1
  have X0 : Stand p l e ({ frames := 2, cells := 1, slots := 16, locals := 34 } : Room) s m #[(.ref u), (.int (0 : Int32)), (.int (Int32.ofNat bs.length))] below meth c s₁ [] 0 0 := Stand.of_body Bd
  have N0 := Fr.nil n0
  have KP0 : Keep h0 h0 [] := Keep.refl h0 []
  have lt_u := V_u.lt
  refine own_cast (g' := (mkF m 0 #[.val (.ref u), .val (.int (0 : Int32)), .val (.int (Int32.ofNat bs.length))] [])) (by first | (simp [entryFrame, mkF, argsToLocals, own_cat_int, own_cat_long, own_cat_ref, own_cat_null]; done) | rfl) ?_
  refine own_step (T' := s₁) (g' := (mkF m 1 #[.val (.ref u), .val (.int (0 : Int32)), .val (.int (Int32.ofNat bs.length))] [(.int (0 : Int32))])) (fun _ q => XS.iloadN X0.here hx rfl (hb hby d32_0) rfl q) ?_
  refine own_step (T' := s₁) (g' := (mkF m 4 #[.val (.ref u), .val (.int (0 : Int32)), .val (.int (Int32.ofNat bs.length))] [])) (fun _ q => XS.ifNo X0.here hx rfl (hb hby d32_1) rfl (by decide) q) ?_
  refine own_step (T' := s₁) (g' := (mkF m 5 #[.val (.ref u), .val (.int (0 : Int32)), .val (.int (Int32.ofNat bs.length))] [(.int (Int32.ofNat bs.length))])) (fun _ q => XS.iloadN X0.here hx rfl (hb hby d32_4) rfl q) ?_
  refine own_step (T' := s₁) (g' := (mkF m 6 #[.val (.ref u), .val (.int (0 : Int32)), .val (.int (Int32.ofNat bs.length))] [(.ref u), (.int (Int32.ofNat bs.length))])) (fun _ q => XS.aloadN X0.here hx rfl (hb hby d32_5) rfl rfl q) ?_
  refine own_step (T' := s₁) (g' := (mkF m 7 #[.val (.ref u), .val (.int (0 : Int32)), .val (.int (Int32.ofNat bs.length))] [(.int (16 : Int32)), (.int (Int32.ofNat bs.length))])) (fun _ q => own_len X0 hx hZ e0 V_u (g := (mkF m 6 #[.val (.ref u), .val (.int (0 : Int32)), .val (.int (Int32.ofNat bs.length))] [(.ref u), (.int (Int32.ofNat bs.length))])) rfl rfl (hb hby d32_6) _ q) ?_
  have hc140 : ¬ ((Int32.ofNat bs.length) = (16 : Int32)) := own_ne16 hbl
  refine own_step (T' := s₁) (g' := (mkF m 10 #[.val (.ref u), .val (.int (0 : Int32)), .val (.int (Int32.ofNat bs.length))] [])) (fun _ q => XS.icmpNo X0.here hx rfl (hb hby d32_7) rfl (XT.ii_eq_f hc140) q) ?_
  refine own_step (T' := s₁) (g' := (mkF m 11 #[.val (.ref u), .val (.int (0 : Int32)), .val (.int (Int32.ofNat bs.length))] [(.ref u)])) (fun _ q => XS.aloadN X0.here hx rfl (hb hby d32_10) rfl rfl q) ?_
  refine own_step (T' := s₁) (g' := (mkF m 12 #[.val (.ref u), .val (.int (0 : Int32)), .val (.int (Int32.ofNat bs.length))] [(.int (0 : Int32)), (.ref u)])) (fun _ q => XS.iloadN X0.here hx rfl (hb hby d32_11) rfl q) ?_
  refine own_step (T' := s₁) (g' := (mkF m 13 #[.val (.ref u), .val (.int (0 : Int32)), .val (.int (Int32.ofNat bs.length))] [(.int (Int32.ofNat bs.length)), (.int (0 : Int32)), (.ref u)])) (fun _ q => XS.iloadN X0.here hx rfl (hb hby d32_12) rfl q) ?_
  refine own_callS X0 hx hZ hown (w184 hw) (w185 hw) (w182 hw) (w186 hw) (by decide) (backOf (W := 0) (own_crb l Z a0 hw [] u ku bs h0 n0 Z0 V_u hbl) hZ (w186 hw) (w182 hw) (Nat.le_of_ble_eq_true rfl) (Nat.le_of_ble_eq_true rfl)) e0  (by first | decide | (dsimp only; omega)) (by first | decide | (dsimp only; omega)) (g := (mkF m 13 #[.val (.ref u), .val (.int (0 : Int32)), .val (.int (Int32.ofNat bs.length))] [(.int (Int32.ofNat bs.length)), (.int (0 : Int32)), (.ref u)])) (argsL := [(.ref u), (.int (0 : Int32)), (.int (Int32.ofNat bs.length))]) (rest := []) rfl (by rw [hml]; rfl) (lenOf pd_10 rfl) rfl rfl (by show 2 * 0 + _ ≤ _; exact Nat.le_of_eq rfl) (hb hby d32_13) ?_
  rintro _ T141 L141 X141 ⟨t141, kb141, rfl, N141q, K141, f0_141, f1_141⟩
  have n0_142 : n0 ≤ t141 := Nat.le_trans Z0 f0_141
  have sz0_143 := Nat.le_trans KP0.1 f0_141
  have ne144 : u ≠ t141 := own_ne lt_u f0_141
  have lt145 := f1_141.lt
  have N146 := Fr.app N0 N141q
  show own_Fin p e below _ T141 (mkF m 16 #[.val (.ref u), .val (.int (0 : Int32)), .val (.int (Int32.ofNat bs.length))] [(.ref t141)])
  have c147 := (KP0.trans K141 all0)
  exact own_retA X141 hx Bd.returns rfl rfl (hb hby d32_16) hlk ⟨t141, kb141, rfl, N146, c147, sz0_143, f1_141⟩ (by first | decide | (dsimp only; omega)) (by first | decide | (dsimp only; omega))
theorem pd_11 : parseMethodDescriptor "()[B" = some ⟨[], some (.array .byte)⟩ := by decide +kernel
theorem pd_12 : parseMethodDescriptor "()Z" = some ⟨[], some .boolean⟩ := by decide +kernel
theorem d27_0 : decode jdk_42_method_150_code 0 = .ok (.aload_n 0, 1) := by decide +kernel
theorem d27_1 : decode jdk_42_method_150_code 1 = .ok (.invokespecial 1, 3) := by decide +kernel
theorem d27_4 : decode jdk_42_method_150_code 4 = .ok (.aload_n 1, 1) := by decide +kernel
theorem d27_5 : decode jdk_42_method_150_code 5 = .ok (.invokevirtual 552, 3) := by decide +kernel
theorem d27_8 : decode jdk_42_method_150_code 8 = .ok (.astore_n 3, 1) := by decide +kernel
theorem d27_9 : decode jdk_42_method_150_code 9 = .ok (.aload_n 1, 1) := by decide +kernel
theorem d27_10 : decode jdk_42_method_150_code 10 = .ok (.invokevirtual 549, 3) := by decide +kernel
theorem d27_13 : decode jdk_42_method_150_code 13 = .ok (.istore 4, 2) := by decide +kernel
theorem d27_15 : decode jdk_42_method_150_code 15 = .ok (.aload_n 1, 1) := by decide +kernel
theorem d27_16 : decode jdk_42_method_150_code 16 = .ok (.invokevirtual 1047, 3) := by decide +kernel
theorem d27_19 : decode jdk_42_method_150_code 19 = .ok (.ifCond .eq 22, 3) := by decide +kernel
theorem d27_22 : decode jdk_42_method_150_code 22 = .ok (.aload_n 0, 1) := by decide +kernel
theorem d27_23 : decode jdk_42_method_150_code 23 = .ok (.iconst 0, 1) := by decide +kernel
theorem d27_24 : decode jdk_42_method_150_code 24 = .ok (.putfield 15, 3) := by decide +kernel
theorem d27_27 : decode jdk_42_method_150_code 27 = .ok (.aload_n 0, 1) := by decide +kernel
theorem d27_28 : decode jdk_42_method_150_code 28 = .ok (.aload_n 3, 1) := by decide +kernel
theorem d27_29 : decode jdk_42_method_150_code 29 = .ok (.iconst 0, 1) := by decide +kernel
theorem d27_30 : decode jdk_42_method_150_code 30 = .ok (.iload 4, 2) := by decide +kernel
theorem d27_32 : decode jdk_42_method_150_code 32 = .ok (.invokestatic 54, 3) := by decide +kernel
theorem d27_35 : decode jdk_42_method_150_code 35 = .ok (.putfield 9, 3) := by decide +kernel
theorem d27_38 : decode jdk_42_method_150_code 38 = .ok (.goto 59, 3) := by decide +kernel
theorem d27_97 : decode jdk_42_method_150_code 97 = .ok (.return_, 1) := by decide +kernel
def Q_own_sa (Z : State) (G1 : Int32) (G3 : Value) (r : Addr) (a : Addr) (u : Addr) (ku : ClassId) (bs : List Value) (h0 : Heap) (n0 : Nat) (v : Option Value) (h : Heap) (L : List Loc) : Prop := ∃ (t : Addr), ∃ (kb : ClassId), v = none ∧ Fr n0 L ∧ Keep h0 h [r] ∧ h0.size ≤ t ∧ Exa Z h r "java/lang/String" ∧ Fld Z h r "java/lang/String" "value" "[B" (.ref t) ∧ Fld Z h r "java/lang/String" "coder" "B" (.int (0 : Int32)) ∧ Arv Z h t kb .byte (Int32.ofNat bs.length) bs (.int 0)
set_option maxRecDepth 65536 in
set_option maxHeartbeats 40000000 in
theorem own_sa (l : Launch) (Z : State) (a0 : Array Value) (hw : ∀ d ∈ tables_1, d.before a0 Z = true) (ws : List Jvm.Cond) (G1 : Int32) (G3 : Value) (r : Addr) (a : Addr) (u : Addr) (ku : ClassId) (bs : List Value) (h0 : Heap) (n0 : Nat) (Z0 : n0 ≤ h0.size) (O2 : Sta Z Z.heap "java/lang/String" "COMPACT_STRINGS" "Z" (.int G1)) (O4 : Sta Z Z.heap "jdk/internal/util/Preconditions" "SIOOBE_FORMATTER" "Ljava/util/function/BiFunction;" G3) (P5 : ¬ (G1 = (0 : Int32))) (rG3 : G3.isRef = true) (OLD0 : Old Z n0 h0) (E_r : Exa Z h0 r "java/lang/String") (ge_r : n0 ≤ r) (F_value_r : Fld Z h0 r "java/lang/String" "value" "[B" .null) (F_coder_r : Fld Z h0 r "java/lang/String" "coder" "B" (.int (0 : Int32))) (E_a : Exa Z h0 a "java/lang/StringBuilder") (F_value_a : Fld Z h0 a "java/lang/AbstractStringBuilder" "value" "[B" (.ref u)) (F_coder_a : Fld Z h0 a "java/lang/AbstractStringBuilder" "coder" "B" (.int (0 : Int32))) (F_count_a : Fld Z h0 a "java/lang/AbstractStringBuilder" "count" "I" (.int (Int32.ofNat bs.length))) (V_u : Arv Z h0 u ku .byte (16 : Int32) (own_pad bs) (.int 0)) (hbl : bs.length < 16) :
    MetFree l (⟨"java/lang/String", "<init>", "(Ljava/lang/AbstractStringBuilder;Ljava/lang/Void;)V"⟩ : MethodName) (head1 (Jvm.Cond.code (⟨"java/lang/String", "<init>", "(Ljava/lang/AbstractStringBuilder;Ljava/lang/Void;)V"⟩ : MethodName) jdk_42_method_150_code 5 none :: ws) ({ frames := 3, cells := 1, slots := 16, locals := 49 } : Room)) (fun ag U => ag = #[(.ref r), (.ref a), .null] ∧ Z.Warmed39 U.vm ∧ U.heap = h0) (fun _ _ _ _ _ => True) (fun _ U o U' => ∃ v L, o = .returned v ∧ Q_own_sa Z G1 G3 r a u ku bs h0 n0 v U'.heap L ∧ FrameEnd U o U' L ({ frames := 3, cells := 1, slots := 16, locals := 49 } : Room).cells ({ frames := 3, cells := 1, slots := 16, locals := 49 } : Room).slots) := by
  refine own_body (plainFor_of_name pn_0) ?_
  intro p e s m below meth c s₁ Bd hml hZ e0
  have hx := Bd.exec
  have hby := Bd.bytes
  have hlk : meth.locks = false := BodyLoose.notSynchronized Bd
  have hown : s.vm.findClass "java/lang/String" = some m.cls := findClass_of_methodNamed Bd.named
  have hnm := (name_of_methodNamed Bd.named Bd.method).1
  have X0 : Stand p l e ({ frames := 3, cells := 1, slots := 16, locals := 49 } : Room) s m #[(.ref r), (.ref a), .null] below meth c s₁ [] 0 0 := Stand.of_body Bd
  have N0 := Fr.nil n0
  have KP0 : Keep h0 h0 [r] := Keep.refl h0 [r]
  have lt_r := E_r.lt
  have lt_a := E_a.lt
  have lt_u := V_u.lt
  have ty_r_a : r ≠ a := (Exa.ne E_r E_a (by decide))
  have ty_r_u : r ≠ u := (Exa.neArv E_r V_u (w5 hw))
  have ty_a_u : a ≠ u := (Exa.neArv E_a V_u (w85 hw))
  refine own_cast (g' := (mkF m 0 #[.val (.ref r), .val (.ref a), .val .null, .unset, .unset] [])) (by first | (simp [entryFrame, mkF, argsToLocals, own_cat_int, own_cat_long, own_cat_ref, own_cat_null]; done) | rfl) ?_
  refine own_step (T' := s₁) (g' := (mkF m 1 #[.val (.ref r), .val (.ref a), .val .null, .unset, .unset] [(.ref r)])) (fun _ q => XS.aloadN X0.here hx rfl (hb hby d27_0) rfl rfl q) ?_
  obtain ⟨T148, X148, e148, st148⟩ := initO X0 hx hZ hown (w15 hw) (w16 hw) (w17 hw) e0 (g := (mkF m 1 #[.val (.ref r), .val (.ref a), .val .null, .unset, .unset] [(.ref r)])) rfl (by rw [hml]; rfl) rfl (hb hby d27_1) (Nat.le_of_ble_eq_true rfl) (W := 0) (by show 2 * 0 + _ ≤ _; exact Nat.le_of_eq rfl) (Nat.le_of_ble_eq_true rfl)
  refine own_step (T' := T148) (g' := (mkF m 4 #[.val (.ref r), .val (.ref a), .val .null, .unset, .unset] [])) st148 ?_
  refine own_step (T' := T148) (g' := (mkF m 5 #[.val (.ref r), .val (.ref a), .val .null, .unset, .unset] [(.ref a)])) (fun _ q => XS.aloadN X148.here hx rfl (hb hby d27_4) rfl rfl q) ?_
  refine own_callV (y := (⟨"java/lang/AbstractStringBuilder", "getValue", "()[B"⟩ : MethodName)) (z := (⟨"java/lang/AbstractStringBuilder", "getValue", "()[B"⟩ : MethodName)) X148 hx hZ hown (w162 hw) (w163 hw) (notFace_of_selects (args := #[]) (mvT hZ (w165 hw))) (w165 hw) (w164 hw) (by decide) (backOf (W := 0) (own_gv l Z a0 hw [] a u h0 n0 Z0 F_value_a) hZ (w166 hw) (w94 hw) (Nat.le_of_ble_eq_true rfl) (Nat.le_of_ble_eq_true rfl)) e148 E_a  (by first | decide | (dsimp only; omega)) (by first | decide | (dsimp only; omega)) (g := (mkF m 5 #[.val (.ref r), .val (.ref a), .val .null, .unset, .unset] [(.ref a)])) (argsL := []) (rest := []) rfl (by rw [hml]; rfl) (lenOf pd_11 rfl) rfl rfl (by show 2 * 0 + _ ≤ _; exact Nat.le_of_eq rfl) (hb hby d27_5) ?_
  rintro _ T149 L149 X149 ⟨rfl, N149q, e149⟩
  have N150 := Fr.app N0 N149q
  show own_Fin p e below _ T149 (mkF m 8 #[.val (.ref r), .val (.ref a), .val .null, .unset, .unset] [(.ref u)])
  refine own_step (T' := T149) (g' := (mkF m 9 #[.val (.ref r), .val (.ref a), .val .null, .val (.ref u), .unset] [])) (fun _ q => XS.astoreN X149.here hx rfl (hb hby d27_8) rfl rfl (l' := #[.val (.ref r), .val (.ref a), .val .null, .val (.ref u), .unset]) rfl q) ?_
  refine own_step (T' := T149) (g' := (mkF m 10 #[.val (.ref r), .val (.ref a), .val .null, .val (.ref u), .unset] [(.ref a)])) (fun _ q => XS.aloadN X149.here hx rfl (hb hby d27_9) rfl rfl q) ?_
  refine own_callV (y := (⟨"java/lang/AbstractStringBuilder", "length", "()I"⟩ : MethodName)) (z := (⟨"java/lang/StringBuilder", "length", "()I"⟩ : MethodName)) X149 hx hZ hown (w167 hw) (w168 hw) (own_nf_move (notFace_of_selects (args := #[]) (mvT hZ (w165 hw))) (mvT (args := #[]) hZ (w164 hw)) rfl) (w170 hw) (w171 hw) (by decide) (backOf (W := 0) (own_sbl l Z a0 hw [] a (Int32.ofNat bs.length) h0 n0 Z0 E_a F_count_a) hZ (w172 hw) (w86 hw) (Nat.le_of_ble_eq_true rfl) (Nat.le_of_ble_eq_true rfl)) e149 E_a  (by first | decide | (dsimp only; omega)) (by first | decide | (dsimp only; omega)) (g := (mkF m 10 #[.val (.ref r), .val (.ref a), .val .null, .val (.ref u), .unset] [(.ref a)])) (argsL := []) (rest := []) rfl (by rw [hml]; rfl) (lenOf pd_5 rfl) rfl rfl (by show 2 * 0 + _ ≤ _; exact Nat.le_of_eq rfl) (hb hby d27_10) ?_
  rintro _ T151 L151 X151 ⟨rfl, N151q, e151⟩
  have N152 := Fr.app N150 N151q
  show own_Fin p e below _ T151 (mkF m 13 #[.val (.ref r), .val (.ref a), .val .null, .val (.ref u), .unset] [(.int (Int32.ofNat bs.length))])
  refine own_step (T' := T151) (g' := (mkF m 15 #[.val (.ref r), .val (.ref a), .val .null, .val (.ref u), .val (.int (Int32.ofNat bs.length))] [])) (fun _ q => XS.istore X151.here hx rfl (hb hby d27_13) rfl (l' := #[.val (.ref r), .val (.ref a), .val .null, .val (.ref u), .val (.int (Int32.ofNat bs.length))]) rfl q) ?_
  refine own_step (T' := T151) (g' := (mkF m 16 #[.val (.ref r), .val (.ref a), .val .null, .val (.ref u), .val (.int (Int32.ofNat bs.length))] [(.ref a)])) (fun _ q => XS.aloadN X151.here hx rfl (hb hby d27_15) rfl rfl q) ?_
  refine own_callV (y := (⟨"java/lang/AbstractStringBuilder", "isLatin1", "()Z"⟩ : MethodName)) (z := (⟨"java/lang/AbstractStringBuilder", "isLatin1", "()Z"⟩ : MethodName)) X151 hx hZ hown (w175 hw) (w176 hw) (notFace_of_selects (args := #[]) (mvT hZ (w178 hw))) (w178 hw) (w177 hw) (by decide) (backOf (W := 0) (own_asi l Z a0 hw [] G1 G3 a h0 n0 Z0 O2 O4 P5 rG3 OLD0 F_coder_a) hZ (w179 hw) (w94 hw) (Nat.le_of_ble_eq_true rfl) (Nat.le_of_ble_eq_true rfl)) e151 E_a  (by first | decide | (dsimp only; omega)) (by first | decide | (dsimp only; omega)) (g := (mkF m 16 #[.val (.ref r), .val (.ref a), .val .null, .val (.ref u), .val (.int (Int32.ofNat bs.length))] [(.ref a)])) (argsL := []) (rest := []) rfl (by rw [hml]; rfl) (lenOf pd_12 rfl) rfl rfl (by show 2 * 0 + _ ≤ _; exact Nat.le_of_eq rfl) (hb hby d27_16) ?_
  rintro _ T153 L153 X153 ⟨rfl, N153q, e153⟩
  have N154 := Fr.app N152 N153q
  show own_Fin p e below _ T153 (mkF m 19 #[.val (.ref r), .val (.ref a), .val .null, .val (.ref u), .val (.int (Int32.ofNat bs.length))] [(.int (1 : Int32))])
  refine own_step (T' := T153) (g' := (mkF m 22 #[.val (.ref r), .val (.ref a), .val .null, .val (.ref u), .val (.int (Int32.ofNat bs.length))] [])) (fun _ q => XS.ifNo X153.here hx rfl (hb hby d27_19) rfl (by decide) q) ?_
  refine own_step (T' := T153) (g' := (mkF m 23 #[.val (.ref r), .val (.ref a), .val .null, .val (.ref u), .val (.int (Int32.ofNat bs.length))] [(.ref r)])) (fun _ q => XS.aloadN X153.here hx rfl (hb hby d27_22) rfl rfl q) ?_
  refine own_step (T' := T153) (g' := (mkF m 24 #[.val (.ref r), .val (.ref a), .val .null, .val (.ref u), .val (.int (Int32.ofNat bs.length))] [(.int (0 : Int32)), (.ref r)])) (fun _ q => XS.iconst X153.here hx rfl (hb hby d27_23) q) ?_
  obtain ⟨T155, h155, X155, e155, W155, st155⟩ := putFN X153 hx hZ hown (w25 hw) Via.refl e153 F_coder_r E_r (Or.inr ⟨(w21 hw), rfl, hnm⟩) (w5 hw) (ty := .byte) (v' := (.int (0 : Int32))) (by decide) rfl rfl (g := (mkF m 24 #[.val (.ref r), .val (.ref a), .val .null, .val (.ref u), .val (.int (Int32.ofNat bs.length))] [(.int (0 : Int32)), (.ref r)])) rfl rfl (hb hby d27_24)
  have F156 := F_coder_r.same W155
  have N157 := Fr.snoc X155 N154 ge_r
  refine own_step (T' := T155) (g' := (mkF m 27 #[.val (.ref r), .val (.ref a), .val .null, .val (.ref u), .val (.int (Int32.ofNat bs.length))] [])) st155 ?_
  refine own_step (T' := T155) (g' := (mkF m 28 #[.val (.ref r), .val (.ref a), .val .null, .val (.ref u), .val (.int (Int32.ofNat bs.length))] [(.ref r)])) (fun _ q => XS.aloadN X155.here hx rfl (hb hby d27_27) rfl rfl q) ?_
  refine own_step (T' := T155) (g' := (mkF m 29 #[.val (.ref r), .val (.ref a), .val .null, .val (.ref u), .val (.int (Int32.ofNat bs.length))] [(.ref u), (.ref r)])) (fun _ q => XS.aloadN X155.here hx rfl (hb hby d27_28) rfl rfl q) ?_
  refine own_step (T' := T155) (g' := (mkF m 30 #[.val (.ref r), .val (.ref a), .val .null, .val (.ref u), .val (.int (Int32.ofNat bs.length))] [(.int (0 : Int32)), (.ref u), (.ref r)])) (fun _ q => XS.iconst X155.here hx rfl (hb hby d27_29) q) ?_
  refine own_step (T' := T155) (g' := (mkF m 32 #[.val (.ref r), .val (.ref a), .val .null, .val (.ref u), .val (.int (Int32.ofNat bs.length))] [(.int (Int32.ofNat bs.length)), (.int (0 : Int32)), (.ref u), (.ref r)])) (fun _ q => XS.iload X155.here hx rfl (hb hby d27_30) rfl q) ?_
  have c158 := (V_u.other W155 (Ne.symm ty_r_u))
  have c159 := (Nat.le_trans Z0 (Keep.of_wr W155).1)
  refine own_callS X155 hx hZ hown (w180 hw) (w181 hw) (w182 hw) (w183 hw) (by decide) (backOf (W := 1) (own_cr l Z a0 hw [] u ku bs h155 n0 c159 c158 hbl) hZ (w183 hw) (w182 hw) (Nat.le_of_ble_eq_true rfl) (Nat.le_of_ble_eq_true rfl)) e155  (by first | decide | (dsimp only; omega)) (by first | decide | (dsimp only; omega)) (g := (mkF m 32 #[.val (.ref r), .val (.ref a), .val .null, .val (.ref u), .val (.int (Int32.ofNat bs.length))] [(.int (Int32.ofNat bs.length)), (.int (0 : Int32)), (.ref u), (.ref r)])) (argsL := [(.ref u), (.int (0 : Int32)), (.int (Int32.ofNat bs.length))]) (rest := [(.ref r)]) rfl (by rw [hml]; rfl) (lenOf pd_10 rfl) rfl rfl (by show 2 * 0 + _ ≤ _; exact Nat.le_of_eq rfl) (hb hby d27_32) ?_
  rintro _ T160 L160 X160 ⟨t160, kb160, rfl, N160q, K160, f0_160, f1_160⟩
  have n0_161 : n0 ≤ t160 := Nat.le_trans c159 f0_160
  have c162 := (KP0.wr W155 (Or.inl (List.mem_of_getElem? (i := 0) rfl)))
  have sz0_163 := Nat.le_trans c162.1 f0_160
  have c164 := (own_lt lt_r (Keep.of_wr W155).1)
  have ne165 : r ≠ t160 := own_ne c164 f0_160
  have c166 := (own_lt lt_a (Keep.of_wr W155).1)
  have ne167 : a ≠ t160 := own_ne c166 f0_160
  have c168 := (own_lt lt_u (Keep.of_wr W155).1)
  have ne169 : u ≠ t160 := own_ne c168 f0_160
  have lt170 := f1_160.lt
  have N171 := Fr.app N157 N160q
  show own_Fin p e below _ T160 (mkF m 35 #[.val (.ref r), .val (.ref a), .val .null, .val (.ref u), .val (.int (Int32.ofNat bs.length))] [(.ref t160), (.ref r)])
  have c172 := ((E_r.wr W155).keep K160)
  have c173 := ((F_value_r.other W155 (Or.inr (RoadKit.slot_ne (t := (.array .byte)) (t' := .byte) (Or.inr (w20 hw)) (Or.inr (w21 hw)) (by decide) (by decide) (by decide)))).keep K160 nin0)
  obtain ⟨T174, h174, X174, e174, W174, st174⟩ := putF X160 hx hZ hown (host := "") (Or.inl (w24 hw)) Via.refl rfl c173 c172 (Or.inr ⟨(w20 hw), rfl, hnm⟩) (w5 hw) (ty := (.array .byte)) (by decide) rfl rfl (g := (mkF m 35 #[.val (.ref r), .val (.ref a), .val .null, .val (.ref u), .val (.int (Int32.ofNat bs.length))] [(.ref t160), (.ref r)])) rfl rfl (hb hby d27_35)
  have F175 := c173.same W174
  have N176 := Fr.snoc X174 N171 ge_r
  refine own_step (T' := T174) (g' := (mkF m 38 #[.val (.ref r), .val (.ref a), .val .null, .val (.ref u), .val (.int (Int32.ofNat bs.length))] [])) st174 ?_
  refine own_step (T' := T174) (g' := (mkF m 97 #[.val (.ref r), .val (.ref a), .val .null, .val (.ref u), .val (.int (Int32.ofNat bs.length))] [])) (fun _ q => XS.goto X174.here hx rfl (pc0 := 38) (pc' := 97) rfl (hb hby d27_38) (by decide) (by decide) q) ?_
  have c177 := ((c162.trans K160 all0).wr W174 (Or.inl (List.mem_of_getElem? (i := 0) rfl)))
  have c178 := (c172.wr W174)
  have c179 := ((F156.keep K160 nin0).other W174 (Or.inr (RoadKit.slot_ne (t := .byte) (t' := (.array .byte)) (Or.inr (w21 hw)) (Or.inr (w20 hw)) (by decide) (by decide) (by decide))))
  have c180 := (f1_160.other W174 (Ne.symm ne165))
  exact own_retV X174 hx Bd.returns (hb hby d27_97) hlk (by rw [e174]; exact ⟨t160, kb160, rfl, N176, c177, sz0_163, c178, F175, c179, c180⟩) (by first | decide | (dsimp only; omega)) (by first | decide | (dsimp only; omega))
theorem pd_13 : parseMethodDescriptor "(Ljava/lang/AbstractStringBuilder;Ljava/lang/Void;)V" = some ⟨[(.object "java/lang/AbstractStringBuilder"), (.object "java/lang/Void")], none⟩ := by decide +kernel
theorem d26_0 : decode jdk_42_method_53_code 0 = .ok (.aload_n 0, 1) := by decide +kernel
theorem d26_1 : decode jdk_42_method_53_code 1 = .ok (.aload_n 1, 1) := by decide +kernel
theorem d26_2 : decode jdk_42_method_53_code 2 = .ok (.aconst_null, 1) := by decide +kernel
theorem d26_3 : decode jdk_42_method_53_code 3 = .ok (.invokespecial 489, 3) := by decide +kernel
theorem d26_6 : decode jdk_42_method_53_code 6 = .ok (.return_, 1) := by decide +kernel
def Q_own_ss (Z : State) (G1 : Int32) (G3 : Value) (r : Addr) (a : Addr) (u : Addr) (ku : ClassId) (bs : List Value) (h0 : Heap) (n0 : Nat) (v : Option Value) (h : Heap) (L : List Loc) : Prop := ∃ (t : Addr), ∃ (kb : ClassId), v = none ∧ Fr n0 L ∧ Keep h0 h [r] ∧ h0.size ≤ t ∧ Exa Z h r "java/lang/String" ∧ Fld Z h r "java/lang/String" "value" "[B" (.ref t) ∧ Fld Z h r "java/lang/String" "coder" "B" (.int (0 : Int32)) ∧ Arv Z h t kb .byte (Int32.ofNat bs.length) bs (.int 0)
set_option maxRecDepth 65536 in
set_option maxHeartbeats 40000000 in
theorem own_ss (l : Launch) (Z : State) (a0 : Array Value) (hw : ∀ d ∈ tables_1, d.before a0 Z = true) (ws : List Jvm.Cond) (G1 : Int32) (G3 : Value) (r : Addr) (a : Addr) (u : Addr) (ku : ClassId) (bs : List Value) (h0 : Heap) (n0 : Nat) (Z0 : n0 ≤ h0.size) (O2 : Sta Z Z.heap "java/lang/String" "COMPACT_STRINGS" "Z" (.int G1)) (O4 : Sta Z Z.heap "jdk/internal/util/Preconditions" "SIOOBE_FORMATTER" "Ljava/util/function/BiFunction;" G3) (P5 : ¬ (G1 = (0 : Int32))) (rG3 : G3.isRef = true) (OLD0 : Old Z n0 h0) (E_r : Exa Z h0 r "java/lang/String") (ge_r : n0 ≤ r) (F_value_r : Fld Z h0 r "java/lang/String" "value" "[B" .null) (F_coder_r : Fld Z h0 r "java/lang/String" "coder" "B" (.int (0 : Int32))) (E_a : Exa Z h0 a "java/lang/StringBuilder") (F_value_a : Fld Z h0 a "java/lang/AbstractStringBuilder" "value" "[B" (.ref u)) (F_coder_a : Fld Z h0 a "java/lang/AbstractStringBuilder" "coder" "B" (.int (0 : Int32))) (F_count_a : Fld Z h0 a "java/lang/AbstractStringBuilder" "count" "I" (.int (Int32.ofNat bs.length))) (V_u : Arv Z h0 u ku .byte (16 : Int32) (own_pad bs) (.int 0)) (hbl : bs.length < 16) :
    MetFree l (⟨"java/lang/String", "<init>", "(Ljava/lang/StringBuilder;)V"⟩ : MethodName) (head1 (Jvm.Cond.code (⟨"java/lang/String", "<init>", "(Ljava/lang/StringBuilder;)V"⟩ : MethodName) jdk_42_method_53_code 2 none :: ws) ({ frames := 4, cells := 1, slots := 16, locals := 65 } : Room)) (fun ag U => ag = #[(.ref r), (.ref a)] ∧ Z.Warmed39 U.vm ∧ U.heap = h0) (fun _ _ _ _ _ => True) (fun _ U o U' => ∃ v L, o = .returned v ∧ Q_own_ss Z G1 G3 r a u ku bs h0 n0 v U'.heap L ∧ FrameEnd U o U' L ({ frames := 4, cells := 1, slots := 16, locals := 65 } : Room).cells ({ frames := 4, cells := 1, slots := 16, locals := 65 } : Room).slots) := by
  refine own_body (plainFor_of_name pn_0) ?_
  intro p e s m below meth c s₁ Bd hml hZ e0
  have hx := Bd.exec
  have hby := Bd.bytes
  have hlk : meth.locks = false := BodyLoose.notSynchronized Bd
  have hown : s.vm.findClass "java/lang/String" = some m.cls := findClass_of_methodNamed Bd.named
  have hnm := (name_of_methodNamed Bd.named Bd.method).1
  have X0 : Stand p l e ({ frames := 4, cells := 1, slots := 16, locals := 65 } : Room) s m #[(.ref r), (.ref a)] below meth c s₁ [] 0 0 := Stand.of_body Bd
  have N0 := Fr.nil n0
  have KP0 : Keep h0 h0 [r] := Keep.refl h0 [r]
  have lt_r := E_r.lt
  have lt_a := E_a.lt
  have lt_u := V_u.lt
  have ty_r_a : r ≠ a := (Exa.ne E_r E_a (by decide))
  have ty_r_u : r ≠ u := (Exa.neArv E_r V_u (w5 hw))
  have ty_a_u : a ≠ u := (Exa.neArv E_a V_u (w85 hw))
  refine own_cast (g' := (mkF m 0 #[.val (.ref r), .val (.ref a)] [])) (by first | (simp [entryFrame, mkF, argsToLocals, own_cat_int, own_cat_long, own_cat_ref, own_cat_null]; done) | rfl) ?_
  refine own_step (T' := s₁) (g' := (mkF m 1 #[.val (.ref r), .val (.ref a)] [(.ref r)])) (fun _ q => XS.aloadN X0.here hx rfl (hb hby d26_0) rfl rfl q) ?_
  refine own_step (T' := s₁) (g' := (mkF m 2 #[.val (.ref r), .val (.ref a)] [(.ref a), (.ref r)])) (fun _ q => XS.aloadN X0.here hx rfl (hb hby d26_1) rfl rfl q) ?_
  refine own_step (T' := s₁) (g' := (mkF m 3 #[.val (.ref r), .val (.ref a)] [.null, (.ref a), (.ref r)])) (fun _ q => XS.aconstNull X0.here hx rfl (hb hby d26_2) q) ?_
  refine own_callC X0 hx hZ hown rfl (w159 hw) (w160 hw) (w161 hw) (by decide) (backOf (W := 0) (own_sa l Z a0 hw [] G1 G3 r a u ku bs h0 n0 Z0 O2 O4 P5 rG3 OLD0 E_r ge_r F_value_r F_coder_r E_a F_value_a F_coder_a F_count_a V_u hbl) hZ (w161 hw) (w6 hw) (Nat.le_of_ble_eq_true rfl) (Nat.le_of_ble_eq_true rfl)) e0  (by first | decide | (dsimp only; omega)) (by first | decide | (dsimp only; omega)) (g := (mkF m 3 #[.val (.ref r), .val (.ref a)] [.null, (.ref a), (.ref r)])) (argsL := [(.ref a), .null]) (rest := []) rfl (by rw [hml]; rfl) (lenOf pd_13 rfl) rfl rfl (by show 2 * 0 + _ ≤ _; exact Nat.le_of_eq rfl) (hb hby d26_3) ?_
  rintro _ T181 L181 X181 ⟨t181, kb181, rfl, N181q, K181, f0_181, f1_181, f2_181, f3_181, f4_181⟩
  have n0_182 : n0 ≤ t181 := Nat.le_trans Z0 f0_181
  have sz0_183 := Nat.le_trans KP0.1 f0_181
  have ne184 : r ≠ t181 := own_ne lt_r f0_181
  have ne185 : a ≠ t181 := own_ne lt_a f0_181
  have ne186 : u ≠ t181 := own_ne lt_u f0_181
  have lt187 := f4_181.lt
  have N188 := Fr.app N0 N181q
  show own_Fin p e below _ T181 (mkF m 6 #[.val (.ref r), .val (.ref a)] [])
  have c189 := (KP0.trans K181 (allS (Or.inl (List.mem_of_getElem? (i := 0) rfl)) all0))
  exact own_retV X181 hx Bd.returns (hb hby d26_6) hlk ⟨t181, kb181, rfl, N188, c189, sz0_183, f1_181, f2_181, f3_181, f4_181⟩ (by first | decide | (dsimp only; omega)) (by first | decide | (dsimp only; omega))
theorem pd_14 : parseMethodDescriptor "(Ljava/lang/StringBuilder;)V" = some ⟨[(.object "java/lang/StringBuilder")], none⟩ := by decide +kernel
theorem d25_0 : decode jdk_67_method_42_code 0 = .ok (.new 18, 3) := by decide +kernel
theorem d25_3 : decode jdk_67_method_42_code 3 = .ok (.dup, 1) := by decide +kernel
theorem d25_4 : decode jdk_67_method_42_code 4 = .ok (.aload_n 0, 1) := by decide +kernel
theorem d25_5 : decode jdk_67_method_42_code 5 = .ok (.invokespecial 137, 3) := by decide +kernel
theorem d25_8 : decode jdk_67_method_42_code 8 = .ok (.areturn, 1) := by decide +kernel
def Q_own_sts (Z : State) (G1 : Int32) (G3 : Value) (a : Addr) (u : Addr) (ku : ClassId) (bs : List Value) (h0 : Heap) (n0 : Nat) (v : Option Value) (h : Heap) (L : List Loc) : Prop := ∃ (r : Addr), ∃ (t : Addr), ∃ (kb : ClassId), v = some (.ref r) ∧ Fr n0 L ∧ Keep h0 h [] ∧ h0.size ≤ r ∧ h0.size ≤ t ∧ Exa Z h r "java/lang/String" ∧ Fld Z h r "java/lang/String" "value" "[B" (.ref t) ∧ Fld Z h r "java/lang/String" "coder" "B" (.int (0 : Int32)) ∧ Arv Z h t kb .byte (Int32.ofNat bs.length) bs (.int 0)
set_option maxRecDepth 65536 in
set_option maxHeartbeats 40000000 in
theorem own_sts (l : Launch) (Z : State) (a0 : Array Value) (hw : ∀ d ∈ tables_1, d.before a0 Z = true) (ws : List Jvm.Cond) (G1 : Int32) (G3 : Value) (a : Addr) (u : Addr) (ku : ClassId) (bs : List Value) (h0 : Heap) (n0 : Nat) (Z0 : n0 ≤ h0.size) (O2 : Sta Z Z.heap "java/lang/String" "COMPACT_STRINGS" "Z" (.int G1)) (O4 : Sta Z Z.heap "jdk/internal/util/Preconditions" "SIOOBE_FORMATTER" "Ljava/util/function/BiFunction;" G3) (P5 : ¬ (G1 = (0 : Int32))) (rG3 : G3.isRef = true) (OLD0 : Old Z n0 h0) (E_a : Exa Z h0 a "java/lang/StringBuilder") (F_value_a : Fld Z h0 a "java/lang/AbstractStringBuilder" "value" "[B" (.ref u)) (F_coder_a : Fld Z h0 a "java/lang/AbstractStringBuilder" "coder" "B" (.int (0 : Int32))) (F_count_a : Fld Z h0 a "java/lang/AbstractStringBuilder" "count" "I" (.int (Int32.ofNat bs.length))) (V_u : Arv Z h0 u ku .byte (16 : Int32) (own_pad bs) (.int 0)) (hbl : bs.length < 16) :
    MetFree l (⟨"java/lang/StringBuilder", "toString", "()Ljava/lang/String;"⟩ : MethodName) (head1 (Jvm.Cond.code (⟨"java/lang/StringBuilder", "toString", "()Ljava/lang/String;"⟩ : MethodName) jdk_67_method_42_code 1 (some (.object "java/lang/String")) :: ws) ({ frames := 5, cells := 2, slots := 20, locals := 79 } : Room)) (fun ag U => ag = #[(.ref a)] ∧ Z.Warmed39 U.vm ∧ U.heap = h0) (fun _ _ _ _ _ => True) (fun _ U o U' => ∃ v L, o = .returned v ∧ Q_own_sts Z G1 G3 a u ku bs h0 n0 v U'.heap L ∧ FrameEnd U o U' L ({ frames := 5, cells := 2, slots := 20, locals := 79 } : Room).cells ({ frames := 5, cells := 2, slots := 20, locals := 79 } : Room).slots) := by
  refine own_body (plainFor_of_name pn_2) ?_
  intro p e s m below meth c s₁ Bd hml hZ e0
  have hx := Bd.exec
  have hby := Bd.bytes
  have hlk : meth.locks = false := BodyLoose.notSynchronized Bd
  have hown : s.vm.findClass "java/lang/StringBuilder" = some m.cls := findClass_of_methodNamed Bd.named
  have hnm := (name_of_methodNamed Bd.named Bd.method).1
  have X0 : Stand p l e ({ frames := 5, cells := 2, slots := 20, locals := 79 } : Room) s m #[(.ref a)] below meth c s₁ [] 0 0 := Stand.of_body Bd
  have N0 := Fr.nil n0
  have KP0 : Keep h0 h0 [] := Keep.refl h0 []
  have lt_a := E_a.lt
  have lt_u := V_u.lt
  have ty_a_u : a ≠ u := (Exa.neArv E_a V_u (w85 hw))
  refine own_cast (g' := (mkF m 0 #[.val (.ref a)] [])) (by first | (simp [entryFrame, mkF, argsToLocals, own_cat_int, own_cat_long, own_cat_ref, own_cat_null]; done) | rfl) ?_
  obtain ⟨T190, h190, X190, e190, E190, A190, D190, -, st190⟩ := newO X0 hx hZ hown (w155 hw) (w5 hw) (w6 hw) e0 (g := (mkF m 0 #[.val (.ref a)] [])) rfl (hb hby d25_0) (by first | decide | (dsimp only; omega)) (by first | decide | (dsimp only; omega))
  obtain ⟨b190, g190⟩ : ∃ z, z = h0.size := ⟨_, rfl⟩
  rw [← g190] at A190 D190 st190
  have n0_191 : n0 ≤ b190 := Nat.le_trans Z0 (Nat.le_of_eq g190.symm)
  have sz0_192 := Nat.le_trans KP0.1 (Nat.le_of_eq g190.symm)
  have ne193 : a ≠ b190 := own_ne lt_a (Nat.le_of_eq g190.symm)
  have ne194 : u ≠ b190 := own_ne lt_u (Nat.le_of_eq g190.symm)
  have ltb190 := A190.lt
  have F195 : Fld Z h190 b190 "java/lang/String" "value" "[B" .null := D190 (Or.inr (w20 hw)) (ty := (.array .byte)) (by decide)
  have F196 : Fld Z h190 b190 "java/lang/String" "coder" "B" (.int (0 : Int32)) := D190 (Or.inr (w21 hw)) (ty := .byte) (by decide)
  refine own_step (T' := T190) (g' := (mkF m 3 #[.val (.ref a)] [(.ref b190)])) st190 ?_
  refine own_step (T' := T190) (g' := (mkF m 4 #[.val (.ref a)] [(.ref b190), (.ref b190)])) (fun _ q => XS.dup X190.here hx rfl (hb hby d25_3) rfl rfl q) ?_
  refine own_step (T' := T190) (g' := (mkF m 5 #[.val (.ref a)] [(.ref a), (.ref b190), (.ref b190)])) (fun _ q => XS.aloadN X190.here hx rfl (hb hby d25_4) rfl rfl q) ?_
  have c197 := (OLD0.ext E190)
  have c198 := (E_a.ext E190)
  have c199 := (F_value_a.ext E190)
  have c200 := (F_coder_a.ext E190)
  have c201 := (F_count_a.ext E190)
  have c202 := (V_u.ext E190)
  have c203 := (Nat.le_trans Z0 E190.1)
  refine own_callC X190 hx hZ hown rfl (w156 hw) (w157 hw) (w158 hw) (by decide) (backOf (W := 1) (own_ss l Z a0 hw [] G1 G3 b190 a u ku bs h190 n0 c203 O2 O4 P5 rG3 c197 A190 n0_191 F195 F196 c198 c199 c200 c201 c202 hbl) hZ (w158 hw) (w6 hw) (Nat.le_of_ble_eq_true rfl) (Nat.le_of_ble_eq_true rfl)) e190  (by first | decide | (dsimp only; omega)) (by first | decide | (dsimp only; omega)) (g := (mkF m 5 #[.val (.ref a)] [(.ref a), (.ref b190), (.ref b190)])) (argsL := [(.ref a)]) (rest := [(.ref b190)]) rfl (by rw [hml]; rfl) (lenOf pd_14 rfl) rfl rfl (by show 2 * 0 + _ ≤ _; exact Nat.le_of_eq rfl) (hb hby d25_5) ?_
  rintro _ T204 L204 X204 ⟨t204, kb204, rfl, N204q, K204, f0_204, f1_204, f2_204, f3_204, f4_204⟩
  have n0_205 : n0 ≤ t204 := Nat.le_trans c203 f0_204
  have c206 := (KP0.ext E190)
  have sz0_207 := Nat.le_trans c206.1 f0_204
  have c208 := (own_lt lt_a E190.1)
  have ne209 : a ≠ t204 := own_ne c208 f0_204
  have c210 := (own_lt lt_u E190.1)
  have ne211 : u ≠ t204 := own_ne c210 f0_204
  have ne212 : b190 ≠ t204 := own_ne ltb190 f0_204
  have lt213 := f4_204.lt
  have N214 := Fr.app N0 N204q
  show own_Fin p e below _ T204 (mkF m 8 #[.val (.ref a)] [(.ref b190)])
  have c215 := (c206.trans K204 (allS (Or.inr sz0_192) all0))
  exact own_retA X204 hx Bd.returns rfl rfl (hb hby d25_8) hlk ⟨b190, t204, kb204, rfl, N214, c215, sz0_192, sz0_207, f1_204, f2_204, f3_204, f4_204⟩ (by first | decide | (dsimp only; omega)) (by first | decide | (dsimp only; omega))
theorem pn_4 : plainName "com/example/kvasir/kvasir/jpql/InputParameterNamedPinLaw" = true := by first | (simp [plainName, overriddenIn]; done) | decide +kernel
theorem pd_15 : parseMethodDescriptor "([C)V" = some ⟨[(.array .char)], none⟩ := by decide +kernel
theorem d1_0 : decode method_2_code 0 = .ok (.iload_n 3, 1) := by decide +kernel
theorem d1_1 : decode method_2_code 1 = .ok (.ifCond .ne 14, 3) := by decide +kernel
theorem d1_4 : decode method_2_code 4 = .ok (.new 7, 3) := by decide +kernel
theorem d1_7 : decode method_2_code 7 = .ok (.dup, 1) := by decide +kernel
theorem d1_8 : decode method_2_code 8 = .ok (.iconst 0, 1) := by decide +kernel
theorem d1_9 : decode method_2_code 9 = .ok (.newarray .char, 2) := by decide +kernel
theorem d1_11 : decode method_2_code 11 = .ok (.invokespecial 9, 3) := by decide +kernel
theorem d1_14 : decode method_2_code 14 = .ok (.areturn, 1) := by decide +kernel
theorem d1_15 : decode method_2_code 15 = .ok (.iload_n 3, 1) := by decide +kernel
theorem d1_16 : decode method_2_code 16 = .ok (.iconst 1, 1) := by decide +kernel
theorem d1_17 : decode method_2_code 17 = .ok (.if_icmp .ne 18, 3) := by decide +kernel
theorem d1_20 : decode method_2_code 20 = .ok (.new 7, 3) := by decide +kernel
theorem d1_23 : decode method_2_code 23 = .ok (.dup, 1) := by decide +kernel
theorem d1_24 : decode method_2_code 24 = .ok (.iconst 1, 1) := by decide +kernel
theorem d1_25 : decode method_2_code 25 = .ok (.newarray .char, 2) := by decide +kernel
theorem d1_27 : decode method_2_code 27 = .ok (.dup, 1) := by decide +kernel
theorem d1_28 : decode method_2_code 28 = .ok (.iconst 0, 1) := by decide +kernel
theorem d1_29 : decode method_2_code 29 = .ok (.iload_n 0, 1) := by decide +kernel
theorem d1_30 : decode method_2_code 30 = .ok (.castore, 1) := by decide +kernel
theorem d1_31 : decode method_2_code 31 = .ok (.invokespecial 9, 3) := by decide +kernel
theorem d1_34 : decode method_2_code 34 = .ok (.areturn, 1) := by decide +kernel
theorem d1_35 : decode method_2_code 35 = .ok (.iload_n 3, 1) := by decide +kernel
theorem d1_36 : decode method_2_code 36 = .ok (.iconst 2, 1) := by decide +kernel
theorem d1_37 : decode method_2_code 37 = .ok (.if_icmp .ne 22, 3) := by decide +kernel
theorem d1_40 : decode method_2_code 40 = .ok (.new 7, 3) := by decide +kernel
theorem d1_43 : decode method_2_code 43 = .ok (.dup, 1) := by decide +kernel
theorem d1_44 : decode method_2_code 44 = .ok (.iconst 2, 1) := by decide +kernel
theorem d1_45 : decode method_2_code 45 = .ok (.newarray .char, 2) := by decide +kernel
theorem d1_47 : decode method_2_code 47 = .ok (.dup, 1) := by decide +kernel
theorem d1_48 : decode method_2_code 48 = .ok (.iconst 0, 1) := by decide +kernel
theorem d1_49 : decode method_2_code 49 = .ok (.iload_n 0, 1) := by decide +kernel
theorem d1_50 : decode method_2_code 50 = .ok (.castore, 1) := by decide +kernel
theorem d1_51 : decode method_2_code 51 = .ok (.dup, 1) := by decide +kernel
theorem d1_52 : decode method_2_code 52 = .ok (.iconst 1, 1) := by decide +kernel
theorem d1_53 : decode method_2_code 53 = .ok (.iload_n 1, 1) := by decide +kernel
theorem d1_54 : decode method_2_code 54 = .ok (.castore, 1) := by decide +kernel
theorem d1_55 : decode method_2_code 55 = .ok (.invokespecial 9, 3) := by decide +kernel
theorem d1_58 : decode method_2_code 58 = .ok (.areturn, 1) := by decide +kernel
theorem d1_59 : decode method_2_code 59 = .ok (.new 7, 3) := by decide +kernel
theorem d1_62 : decode method_2_code 62 = .ok (.dup, 1) := by decide +kernel
theorem d1_63 : decode method_2_code 63 = .ok (.iconst 3, 1) := by decide +kernel
theorem d1_64 : decode method_2_code 64 = .ok (.newarray .char, 2) := by decide +kernel
theorem d1_66 : decode method_2_code 66 = .ok (.dup, 1) := by decide +kernel
theorem d1_67 : decode method_2_code 67 = .ok (.iconst 0, 1) := by decide +kernel
theorem d1_68 : decode method_2_code 68 = .ok (.iload_n 0, 1) := by decide +kernel
theorem d1_69 : decode method_2_code 69 = .ok (.castore, 1) := by decide +kernel
theorem d1_70 : decode method_2_code 70 = .ok (.dup, 1) := by decide +kernel
theorem d1_71 : decode method_2_code 71 = .ok (.iconst 1, 1) := by decide +kernel
theorem d1_72 : decode method_2_code 72 = .ok (.iload_n 1, 1) := by decide +kernel
theorem d1_73 : decode method_2_code 73 = .ok (.castore, 1) := by decide +kernel
theorem d1_74 : decode method_2_code 74 = .ok (.dup, 1) := by decide +kernel
theorem d1_75 : decode method_2_code 75 = .ok (.iconst 2, 1) := by decide +kernel
theorem d1_76 : decode method_2_code 76 = .ok (.iload_n 2, 1) := by decide +kernel
theorem d1_77 : decode method_2_code 77 = .ok (.castore, 1) := by decide +kernel
theorem d1_78 : decode method_2_code 78 = .ok (.invokespecial 9, 3) := by decide +kernel
theorem d1_81 : decode method_2_code 81 = .ok (.areturn, 1) := by decide +kernel
def Q_own_txt (Z : State) (G1 : Int32) (G3 : Value) (c0 : Int32) (c1 : Int32) (c2 : Int32) (k : Int32) (h0 : Heap) (n0 : Nat) (v : Option Value) (h : Heap) (L : List Loc) : Prop := ∃ (a : Addr), ∃ (t : Addr), ∃ (kb : ClassId), v = some (.ref a) ∧ Fr n0 L ∧ Keep h0 h [] ∧ h0.size ≤ a ∧ Exa Z h a "java/lang/String" ∧ Fld Z h a "java/lang/String" "value" "[B" (.ref t) ∧ Fld Z h a "java/lang/String" "coder" "B" (.int (0 : Int32)) ∧ Arv Z h t kb .byte (Int32.ofNat (own_bs (own_tl k c0 c1 c2)).length) (own_bs (own_tl k c0 c1 c2)) (.int 0)
set_option maxRecDepth 65536 in
set_option maxHeartbeats 40000000 in
theorem own_txt (l : Launch) (Z : State) (a0 : Array Value) (hw : ∀ d ∈ tables_1, d.before a0 Z = true) (ws : List Jvm.Cond) (G1 : Int32) (G3 : Value) (c0 : Int32) (c1 : Int32) (c2 : Int32) (k : Int32) (h0 : Heap) (n0 : Nat) (Z0 : n0 ≤ h0.size) (O2 : Sta Z Z.heap "java/lang/String" "COMPACT_STRINGS" "Z" (.int G1)) (O4 : Sta Z Z.heap "jdk/internal/util/Preconditions" "SIOOBE_FORMATTER" "Ljava/util/function/BiFunction;" G3) (P5 : ¬ (G1 = (0 : Int32))) (rG3 : G3.isRef = true) (OLD0 : Old Z n0 h0) (hc0 : ¬ c0 < 0 ∧ ¬ (255 : Int32) < c0) (hc1 : ¬ c1 < 0 ∧ ¬ (255 : Int32) < c1) (hc2 : ¬ c2 < 0 ∧ ¬ (255 : Int32) < c2) :
    MetFree l (⟨"com/example/kvasir/kvasir/jpql/InputParameterNamedPinLaw", "text", "(CCCI)Ljava/lang/String;"⟩ : MethodName) (head1 (Jvm.Cond.code (⟨"com/example/kvasir/kvasir/jpql/InputParameterNamedPinLaw", "text", "(CCCI)Ljava/lang/String;"⟩ : MethodName) method_2_code 4 (some (.object "java/lang/String")) :: ws) ({ frames := 4, cells := 6, slots := 12, locals := 66 } : Room)) (fun ag U => ag = #[(.int c0), (.int c1), (.int c2), (.int k)] ∧ Z.Warmed39 U.vm ∧ U.heap = h0 ∧ CHv Z own_EL U.vm h0) (fun _ _ _ _ _ => True) (fun _ U o U' => ∃ v L, o = .returned v ∧ Q_own_txt Z G1 G3 c0 c1 c2 k h0 n0 v U'.heap L ∧ CHr Z own_EL U.vm U.heap U'.vm U'.heap ∧ ReturnedEndW U o U' L ({ frames := 4, cells := 6, slots := 12, locals := 66 } : Room).cells ({ frames := 4, cells := 6, slots := 12, locals := 66 } : Room).slots) := by
  refine own_bodyW (plainFor_of_name pn_4) ?_
  intro p e s m below meth c s₁ Bd hml hZ e0 hh0 CH0
  have hx := Bd.exec
  have hby := Bd.bytes
  have hlk : meth.locks = false := BodyLoose.notSynchronized Bd
  have hown : s.vm.findClass "com/example/kvasir/kvasir/jpql/InputParameterNamedPinLaw" = some m.cls := findClass_of_methodNamed Bd.named
  have hnm := (name_of_methodNamed Bd.named Bd.method).1
  have X0 : Stand p l e ({ frames := 4, cells := 6, slots := 12, locals := 66 } : Room) (s.setVm s.vm) m #[(.int c0), (.int c1), (.int c2), (.int k)] below meth c s₁ [] 0 0 := Stand.of_body Bd
  have N0 := Fr.nil n0
  have hS := (State.WarmedH.refl s).since h0.size
  have hk0 : h0.size ≤ h0.size := Nat.le_refl _
  have KP0 : Keep h0 h0 [] := Keep.refl h0 []
  refine own_cast (g' := (mkF m 0 #[.val (.int c0), .val (.int c1), .val (.int c2), .val (.int k)] [])) (by first | (simp [entryFrame, mkF, argsToLocals, own_cat_int, own_cat_long, own_cat_ref, own_cat_null]; done) | rfl) ?_
  refine own_step (T' := s₁) (g' := (mkF m 1 #[.val (.int c0), .val (.int c1), .val (.int c2), .val (.int k)] [(.int k)])) (fun _ q => XS.iloadN X0.here hx rfl (hb hby d1_0) rfl q) ?_
  by_cases hc216 : k = 0
  · refine own_step (T' := s₁) (g' := (mkF m 4 #[.val (.int c0), .val (.int c1), .val (.int c2), .val (.int k)] [])) (fun _ q => XS.ifNo X0.here hx rfl (hb hby d1_1) rfl (XT.i0_ne_f hc216) q) ?_
    obtain ⟨T217, h217, X217, e217, E217, A217, D217, -, st217⟩ := newO X0 hx hZ hown (w4 hw) (w5 hw) (w6 hw) e0 (g := (mkF m 4 #[.val (.int c0), .val (.int c1), .val (.int c2), .val (.int k)] [])) rfl (hb hby d1_4) (by first | decide | (dsimp only; omega)) (by first | decide | (dsimp only; omega))
    obtain ⟨b217, g217⟩ : ∃ z, z = h0.size := ⟨_, rfl⟩
    rw [← g217] at A217 D217 st217
    have n0_218 : n0 ≤ b217 := Nat.le_trans Z0 (Nat.le_of_eq g217.symm)
    have sz0_219 := Nat.le_trans KP0.1 (Nat.le_of_eq g217.symm)
    have sf220 : Safe Z own_EL _ _ b217 := Safe.new (EL := own_EL) (Z := Z) (vm := s.vm) (Nat.le_of_eq g217.symm)
    have CH221 := CH0.trans (CHr.ext E217 CH0.1)
    have ltb217 := A217.lt
    have F222 : Fld Z h217 b217 "java/lang/String" "value" "[B" .null := D217 (Or.inr (w20 hw)) (ty := (.array .byte)) (by decide)
    have F223 : Fld Z h217 b217 "java/lang/String" "coder" "B" (.int (0 : Int32)) := D217 (Or.inr (w21 hw)) (ty := .byte) (by decide)
    refine own_step (T' := T217) (g' := (mkF m 7 #[.val (.int c0), .val (.int c1), .val (.int c2), .val (.int k)] [(.ref b217)])) st217 ?_
    refine own_step (T' := T217) (g' := (mkF m 8 #[.val (.int c0), .val (.int c1), .val (.int c2), .val (.int k)] [(.ref b217), (.ref b217)])) (fun _ q => XS.dup X217.here hx rfl (hb hby d1_7) rfl rfl q) ?_
    refine own_step (T' := T217) (g' := (mkF m 9 #[.val (.int c0), .val (.int c1), .val (.int c2), .val (.int k)] [(.int (0 : Int32)), (.ref b217), (.ref b217)])) (fun _ q => XS.iconst X217.here hx rfl (hb hby d1_8) q) ?_
    obtain ⟨T224, h224, k224, X224, e224, E224, A224, st224⟩ := newP X217 hx hZ (aty := .char) (w7 hw) e217 (g := (mkF m 9 #[.val (.int c0), .val (.int c1), .val (.int c2), .val (.int k)] [(.int (0 : Int32)), (.ref b217), (.ref b217)])) rfl (hb hby d1_9) rfl (by decide) (cap := 0) (by decide) (by first | decide | omega) (by first | decide | (dsimp only; omega)) (by first | decide | (dsimp only; omega))
    obtain ⟨b224, g224⟩ : ∃ z, z = h217.size := ⟨_, rfl⟩
    rw [← g224] at A224 st224
    have c225 := (Nat.le_trans Z0 E217.1)
    have n0_226 : n0 ≤ b224 := Nat.le_trans c225 (Nat.le_of_eq g224.symm)
    have c227 := (KP0.ext E217)
    have sz0_228 := Nat.le_trans c227.1 (Nat.le_of_eq g224.symm)
    have ne229 : b217 ≠ b224 := own_ne ltb217 (Nat.le_of_eq g224.symm)
    have sf230 : Safe Z own_EL _ _ b224 := Safe.new (EL := own_EL) (Z := Z) (vm := s.vm) (Nat.le_of_eq g224.symm)
    have CH231 := CH221.trans (CHr.ext E224 CH221.1)
    have V224 : Arv Z h224 b224 k224 .char (0 : Int32) [] (.int (0 : Int32)) := (Arv.new A224 (by decide)).pad (pad_rep [] (.int (0 : Int32)) 0)
    have ltb224 := V224.lt
    refine own_step (T' := T224) (g' := (mkF m 11 #[.val (.int c0), .val (.int c1), .val (.int c2), .val (.int k)] [(.ref b224), (.ref b217), (.ref b217)])) st224 ?_
    have c232 := ((OLD0.ext E217).ext E224)
    have c233 := (A217.ext E224)
    have c234 := (F222.ext E224)
    have c235 := (F223.ext E224)
    have c236 := (Nat.le_trans c225 E224.1)
    have c238 := (Nat.le_trans (Nat.le_trans hk0 E217.1) E224.1)
    refine own_callCW X224 hx hZ hown hS c238 rfl (w8 hw) (w9 hw) (w10 hw) (by decide) (backOfSH (W := 1) (own_new1e l Z a0 hw [] G1 G3 b217 b224 k224 (.int (0 : Int32)) h224 n0 c236 O2 O4 P5 rG3 c232 c233 n0_218 c234 c235 V224) hZ (w10 hw) (w6 hw) (Nat.le_of_ble_eq_true rfl) (Nat.le_of_ble_eq_true rfl) (own_hEL hw) CH231.1) e224  (by first | decide | (dsimp only; omega)) (by first | decide | (dsimp only; omega)) (g := (mkF m 11 #[.val (.int c0), .val (.int c1), .val (.int c2), .val (.int k)] [(.ref b224), (.ref b217), (.ref b217)])) (argsL := [(.ref b224)]) (rest := [(.ref b217)]) rfl (by rw [hml]; rfl) (lenOf pd_15 rfl) rfl rfl (by show 2 * 0 + _ ≤ _; exact Nat.le_of_eq rfl) (hb hby d1_11) ?_
    rintro _ T237 L237 X237 hS hZ hown C237 ⟨t237, kb237, rfl, N237q, K237, f0_237, f1_237, f2_237, f3_237⟩
    have CH239 := CH231.trans C237
    have lt240 := f3_237.lt
    have ty241 : b217 ≠ t237 := (Exa.neArv f0_237 f3_237 (w5 hw))
    have c242 := (V224.keep K237 (ninS (Ne.symm ne229) nin0))
    have ty243 : b224 ≠ t237 := (own_arr_ne c242 f3_237 (by decide))
    have N244 := Fr.app N0 N237q
    show own_Fin p e below _ T237 (mkF m 14 #[.val (.int c0), .val (.int c1), .val (.int c2), .val (.int k)] [(.ref b217)])
    have qV245 : ([] : List Value) = (own_bs (own_tl k c0 c1 c2)) := (by rw [own_tl, if_pos hc216]; rfl)
    have V245 : Arv Z T237.heap t237 kb237 .byte (0 : Int32) (own_bs (own_tl k c0 c1 c2)) (.int 0) := own_fixv qV245 f3_237
    have qV246 : ((0 : Int32) : Int32) = (Int32.ofNat (own_bs (own_tl k c0 c1 c2)).length) := (by rw [own_tl, if_pos hc216]; rfl)
    have V246 : Arv Z T237.heap t237 kb237 .byte (Int32.ofNat (own_bs (own_tl k c0 c1 c2)).length) (own_bs (own_tl k c0 c1 c2)) (.int 0) := own_fixn qV246 V245
    have c247 := ((c227.ext E224).trans K237 (allS (Or.inr sz0_219) all0))
    exact own_retAW X237 hx hZ (own_hEL hw) hS (Nat.le_refl _) CH239 Bd.returns rfl rfl (hb hby d1_14) hlk ⟨b217, t237, kb237, rfl, N244, c247, sz0_219, f0_237, f1_237, f2_237, V246⟩ (by first | decide | (dsimp only; omega)) (by first | decide | (dsimp only; omega))
  · refine own_step (T' := s₁) (g' := (mkF m 15 #[.val (.int c0), .val (.int c1), .val (.int c2), .val (.int k)] [])) (fun _ q => XS.ifYes X0.here hx rfl (pc0 := 1) (pc' := 15) rfl (hb hby d1_1) rfl (XT.i0_ne_t hc216) (by decide) (by decide) q) ?_
    refine own_step (T' := s₁) (g' := (mkF m 16 #[.val (.int c0), .val (.int c1), .val (.int c2), .val (.int k)] [(.int k)])) (fun _ q => XS.iloadN X0.here hx rfl (hb hby d1_15) rfl q) ?_
    refine own_step (T' := s₁) (g' := (mkF m 17 #[.val (.int c0), .val (.int c1), .val (.int c2), .val (.int k)] [(.int (1 : Int32)), (.int k)])) (fun _ q => XS.iconst X0.here hx rfl (hb hby d1_16) q) ?_
    by_cases hc248 : k = (1 : Int32)
    · refine own_step (T' := s₁) (g' := (mkF m 20 #[.val (.int c0), .val (.int c1), .val (.int c2), .val (.int k)] [])) (fun _ q => XS.icmpNo X0.here hx rfl (hb hby d1_17) rfl (XT.ii_ne_f hc248) q) ?_
      obtain ⟨T249, h249, X249, e249, E249, A249, D249, -, st249⟩ := newO X0 hx hZ hown (w4 hw) (w5 hw) (w6 hw) e0 (g := (mkF m 20 #[.val (.int c0), .val (.int c1), .val (.int c2), .val (.int k)] [])) rfl (hb hby d1_20) (by first | decide | (dsimp only; omega)) (by first | decide | (dsimp only; omega))
      obtain ⟨b249, g249⟩ : ∃ z, z = h0.size := ⟨_, rfl⟩
      rw [← g249] at A249 D249 st249
      have n0_250 : n0 ≤ b249 := Nat.le_trans Z0 (Nat.le_of_eq g249.symm)
      have sz0_251 := Nat.le_trans KP0.1 (Nat.le_of_eq g249.symm)
      have sf252 : Safe Z own_EL _ _ b249 := Safe.new (EL := own_EL) (Z := Z) (vm := s.vm) (Nat.le_of_eq g249.symm)
      have CH253 := CH0.trans (CHr.ext E249 CH0.1)
      have ltb249 := A249.lt
      have F254 : Fld Z h249 b249 "java/lang/String" "value" "[B" .null := D249 (Or.inr (w20 hw)) (ty := (.array .byte)) (by decide)
      have F255 : Fld Z h249 b249 "java/lang/String" "coder" "B" (.int (0 : Int32)) := D249 (Or.inr (w21 hw)) (ty := .byte) (by decide)
      refine own_step (T' := T249) (g' := (mkF m 23 #[.val (.int c0), .val (.int c1), .val (.int c2), .val (.int k)] [(.ref b249)])) st249 ?_
      refine own_step (T' := T249) (g' := (mkF m 24 #[.val (.int c0), .val (.int c1), .val (.int c2), .val (.int k)] [(.ref b249), (.ref b249)])) (fun _ q => XS.dup X249.here hx rfl (hb hby d1_23) rfl rfl q) ?_
      refine own_step (T' := T249) (g' := (mkF m 25 #[.val (.int c0), .val (.int c1), .val (.int c2), .val (.int k)] [(.int (1 : Int32)), (.ref b249), (.ref b249)])) (fun _ q => XS.iconst X249.here hx rfl (hb hby d1_24) q) ?_
      obtain ⟨T256, h256, k256, X256, e256, E256, A256, st256⟩ := newP X249 hx hZ (aty := .char) (w7 hw) e249 (g := (mkF m 25 #[.val (.int c0), .val (.int c1), .val (.int c2), .val (.int k)] [(.int (1 : Int32)), (.ref b249), (.ref b249)])) rfl (hb hby d1_25) rfl (by decide) (cap := 1) (by decide) (by first | decide | omega) (by first | decide | (dsimp only; omega)) (by first | decide | (dsimp only; omega))
      obtain ⟨b256, g256⟩ : ∃ z, z = h249.size := ⟨_, rfl⟩
      rw [← g256] at A256 st256
      have c257 := (Nat.le_trans Z0 E249.1)
      have n0_258 : n0 ≤ b256 := Nat.le_trans c257 (Nat.le_of_eq g256.symm)
      have c259 := (KP0.ext E249)
      have sz0_260 := Nat.le_trans c259.1 (Nat.le_of_eq g256.symm)
      have ne261 : b249 ≠ b256 := own_ne ltb249 (Nat.le_of_eq g256.symm)
      have sf262 : Safe Z own_EL _ _ b256 := Safe.new (EL := own_EL) (Z := Z) (vm := s.vm) (Nat.le_of_eq g256.symm)
      have CH263 := CH253.trans (CHr.ext E256 CH253.1)
      have V256 : Arv Z h256 b256 k256 .char (1 : Int32) [(.int (0 : Int32))] (.int (0 : Int32)) := (Arv.new A256 (by decide)).pad (pad_rep [] (.int (0 : Int32)) 1)
      have ltb256 := V256.lt
      refine own_step (T' := T256) (g' := (mkF m 27 #[.val (.int c0), .val (.int c1), .val (.int c2), .val (.int k)] [(.ref b256), (.ref b249), (.ref b249)])) st256 ?_
      refine own_step (T' := T256) (g' := (mkF m 28 #[.val (.int c0), .val (.int c1), .val (.int c2), .val (.int k)] [(.ref b256), (.ref b256), (.ref b249), (.ref b249)])) (fun _ q => XS.dup X256.here hx rfl (hb hby d1_27) rfl rfl q) ?_
      refine own_step (T' := T256) (g' := (mkF m 29 #[.val (.int c0), .val (.int c1), .val (.int c2), .val (.int k)] [(.int (0 : Int32)), (.ref b256), (.ref b256), (.ref b249), (.ref b249)])) (fun _ q => XS.iconst X256.here hx rfl (hb hby d1_28) q) ?_
      refine own_step (T' := T256) (g' := (mkF m 30 #[.val (.int c0), .val (.int c1), .val (.int c2), .val (.int k)] [(.int c0), (.int (0 : Int32)), (.ref b256), (.ref b256), (.ref b249), (.ref b249)])) (fun _ q => XS.iloadN X256.here hx rfl (hb hby d1_29) rfl q) ?_
      obtain ⟨T264, h264, X264, e264, W264, V264, st264⟩ := own_stC X256 hx hZ e256 V256 (j := (0 : Int32)) ⟨by decide, by decide⟩ (i := 0) rfl (Nat.le_of_ble_eq_true rfl) (g := (mkF m 30 #[.val (.int c0), .val (.int c1), .val (.int c2), .val (.int k)] [(.int c0), (.int (0 : Int32)), (.ref b256), (.ref b256), (.ref b249), (.ref b249)])) rfl rfl (hb hby d1_30)
      rw [show (nar .char c0) = c0 from own_nar8 hc0] at V264
      replace V264 : Arv Z h264 b256 k256 .char (1 : Int32) [(.int c0)] (.int (0 : Int32)) := V264
      have N265 := Fr.snoc X264 N0 n0_258
      have c267 := (Safe.ext E256 CH253.1 sf262)
      have CH266 := CH263.trans (CHr.wr W264 c267 CH263.1)
      refine own_step (T' := T264) (g' := (mkF m 31 #[.val (.int c0), .val (.int c1), .val (.int c2), .val (.int k)] [(.ref b256), (.ref b249), (.ref b249)])) st264 ?_
      have c268 := ((A249.ext E256).wr W264)
      have c269 := ((F254.ext E256).other W264 (Or.inl ne261))
      have c270 := ((F255.ext E256).other W264 (Or.inl ne261))
      have c271 := (Nat.le_trans (Nat.le_trans c257 E256.1) (Keep.of_wr W264).1)
      have c272 := (((OLD0.ext E249).ext E256).wr W264 n0_258)
      have hp273 : ∀ c ∈ ([c0] : List Int32), ¬ c < 0 ∧ ¬ (255 : Int32) < c := (own_allS hc0 own_all0)
      refine own_callC X264 hx hZ hown rfl (w8 hw) (w9 hw) (w10 hw) (by decide) (StrChars.Road.backV (W := 1) hZ (own_ws hw) (kI := 4) (w5 hw) (cs := ([c0] : List Int32)) (bs := (([c0] : List Int32)).map (fun c => c.toInt8.toInt32)) (n := 1) n0_250 c271 c268 c269 c270 V264 (O2.ext c272.2) P5 rfl rfl (by decide) (by decide) hp273 rfl (by decide) (by decide)) e264  (by first | decide | (dsimp only; omega)) (by first | decide | (dsimp only; omega)) (g := (mkF m 31 #[.val (.int c0), .val (.int c1), .val (.int c2), .val (.int k)] [(.ref b256), (.ref b249), (.ref b249)])) (argsL := [(.ref b256)]) (rest := [(.ref b249)]) rfl (by rw [hml]; rfl) (lenOf pd_15 rfl) rfl rfl (by show 2 * 0 + _ ≤ _; exact Nat.le_of_eq rfl) (hb hby d1_31) ?_
      rintro _ T274 L274 X274 ⟨rfl, N274q, K274, fE274, fC274, t274, kb274, ge274, sz274, nx274, fV274, fA274⟩
      have n0_275 : n0 ≤ t274 := Nat.le_trans c271 sz274
      have c276 := ((c259.ext E256).wr W264 (Or.inr sz0_260))
      have sz0_277 := Nat.le_trans c276.1 sz274
      have c278 := (own_lt (own_lt ltb249 E256.1) (Keep.of_wr W264).1)
      have ne279 : b249 ≠ t274 := own_ne c278 sz274
      have c280 := (own_lt ltb256 (Keep.of_wr W264).1)
      have ne281 : b256 ≠ t274 := own_ne c280 sz274
      have sf282 : Safe Z own_EL _ _ t274 := Safe.new (EL := own_EL) (Z := Z) (vm := s.vm) sz274
      have c284 := (Safe.wr W264 c267 CH263.1 (Safe.ext E256 CH253.1 (Safe.ext E249 CH0.1 sf252)))
      have CH283 := CH266.trans (CHr.keep K274 (sfS c284 sf0) CH266.1)
      have ltt274 := fA274.lt
      have hcd285 : StrChars.Road.CodA ([c0] : List Int32) 0 (1 : Int32) (((([c0] : List Int32)).map (fun c => c.toInt8.toInt32)).map Value.int) := StrChars.Road.codOf (n := 1) rfl (fun c hc => (hp273 c hc).2)
      have N286 := Fr.app N265 N274q
      show own_Fin p e below _ T274 (mkF m 34 #[.val (.int c0), .val (.int c1), .val (.int c2), .val (.int k)] [(.ref b249)])
      have qV287 : (((([c0] : List Int32)).map (fun c => c.toInt8.toInt32)).map Value.int : List Value) = (own_bs (own_tl k c0 c1 c2)) := (by rw [own_tl, if_neg hc216, if_pos hc248]; rfl)
      have V287 : Arv Z T274.heap t274 kb274 .byte (1 : Int32) (own_bs (own_tl k c0 c1 c2)) (.int 0) := own_fixv qV287 fA274
      have qV288 : ((1 : Int32) : Int32) = (Int32.ofNat (own_bs (own_tl k c0 c1 c2)).length) := (by rw [own_tl, if_neg hc216, if_pos hc248]; rfl)
      have V288 : Arv Z T274.heap t274 kb274 .byte (Int32.ofNat (own_bs (own_tl k c0 c1 c2)).length) (own_bs (own_tl k c0 c1 c2)) (.int 0) := own_fixn qV288 V287
      have c289 := (c276.trans K274 (allS (Or.inr sz0_251) all0))
      have c290 := (Nat.le_trans (Nat.le_trans (Nat.le_trans (Nat.le_trans hk0 E249.1) E256.1) (Keep.of_wr W264).1) K274.1)
      exact own_retAW X274 hx hZ (own_hEL hw) hS c290 CH283 Bd.returns rfl rfl (hb hby d1_34) hlk ⟨b249, t274, kb274, rfl, N286, c289, sz0_251, fE274, fV274, fC274, V288⟩ (by first | decide | (dsimp only; omega)) (by first | decide | (dsimp only; omega))
    · refine own_step (T' := s₁) (g' := (mkF m 35 #[.val (.int c0), .val (.int c1), .val (.int c2), .val (.int k)] [])) (fun _ q => XS.icmpYes X0.here hx rfl (pc0 := 17) (pc' := 35) rfl (hb hby d1_17) rfl (XT.ii_ne_t hc248) (by decide) (by decide) q) ?_
      refine own_step (T' := s₁) (g' := (mkF m 36 #[.val (.int c0), .val (.int c1), .val (.int c2), .val (.int k)] [(.int k)])) (fun _ q => XS.iloadN X0.here hx rfl (hb hby d1_35) rfl q) ?_
      refine own_step (T' := s₁) (g' := (mkF m 37 #[.val (.int c0), .val (.int c1), .val (.int c2), .val (.int k)] [(.int (2 : Int32)), (.int k)])) (fun _ q => XS.iconst X0.here hx rfl (hb hby d1_36) q) ?_
      by_cases hc291 : k = (2 : Int32)
      · refine own_step (T' := s₁) (g' := (mkF m 40 #[.val (.int c0), .val (.int c1), .val (.int c2), .val (.int k)] [])) (fun _ q => XS.icmpNo X0.here hx rfl (hb hby d1_37) rfl (XT.ii_ne_f hc291) q) ?_
        obtain ⟨T292, h292, X292, e292, E292, A292, D292, -, st292⟩ := newO X0 hx hZ hown (w4 hw) (w5 hw) (w6 hw) e0 (g := (mkF m 40 #[.val (.int c0), .val (.int c1), .val (.int c2), .val (.int k)] [])) rfl (hb hby d1_40) (by first | decide | (dsimp only; omega)) (by first | decide | (dsimp only; omega))
        obtain ⟨b292, g292⟩ : ∃ z, z = h0.size := ⟨_, rfl⟩
        rw [← g292] at A292 D292 st292
        have n0_293 : n0 ≤ b292 := Nat.le_trans Z0 (Nat.le_of_eq g292.symm)
        have sz0_294 := Nat.le_trans KP0.1 (Nat.le_of_eq g292.symm)
        have sf295 : Safe Z own_EL _ _ b292 := Safe.new (EL := own_EL) (Z := Z) (vm := s.vm) (Nat.le_of_eq g292.symm)
        have CH296 := CH0.trans (CHr.ext E292 CH0.1)
        have ltb292 := A292.lt
        have F297 : Fld Z h292 b292 "java/lang/String" "value" "[B" .null := D292 (Or.inr (w20 hw)) (ty := (.array .byte)) (by decide)
        have F298 : Fld Z h292 b292 "java/lang/String" "coder" "B" (.int (0 : Int32)) := D292 (Or.inr (w21 hw)) (ty := .byte) (by decide)
        refine own_step (T' := T292) (g' := (mkF m 43 #[.val (.int c0), .val (.int c1), .val (.int c2), .val (.int k)] [(.ref b292)])) st292 ?_
        refine own_step (T' := T292) (g' := (mkF m 44 #[.val (.int c0), .val (.int c1), .val (.int c2), .val (.int k)] [(.ref b292), (.ref b292)])) (fun _ q => XS.dup X292.here hx rfl (hb hby d1_43) rfl rfl q) ?_
        refine own_step (T' := T292) (g' := (mkF m 45 #[.val (.int c0), .val (.int c1), .val (.int c2), .val (.int k)] [(.int (2 : Int32)), (.ref b292), (.ref b292)])) (fun _ q => XS.iconst X292.here hx rfl (hb hby d1_44) q) ?_
        obtain ⟨T299, h299, k299, X299, e299, E299, A299, st299⟩ := newP X292 hx hZ (aty := .char) (w7 hw) e292 (g := (mkF m 45 #[.val (.int c0), .val (.int c1), .val (.int c2), .val (.int k)] [(.int (2 : Int32)), (.ref b292), (.ref b292)])) rfl (hb hby d1_45) rfl (by decide) (cap := 2) (by decide) (by first | decide | omega) (by first | decide | (dsimp only; omega)) (by first | decide | (dsimp only; omega))
        obtain ⟨b299, g299⟩ : ∃ z, z = h292.size := ⟨_, rfl⟩
        rw [← g299] at A299 st299
        have c300 := (Nat.le_trans Z0 E292.1)
        have n0_301 : n0 ≤ b299 := Nat.le_trans c300 (Nat.le_of_eq g299.symm)
        have c302 := (KP0.ext E292)
        have sz0_303 := Nat.le_trans c302.1 (Nat.le_of_eq g299.symm)
        have ne304 : b292 ≠ b299 := own_ne ltb292 (Nat.le_of_eq g299.symm)
        have sf305 : Safe Z own_EL _ _ b299 := Safe.new (EL := own_EL) (Z := Z) (vm := s.vm) (Nat.le_of_eq g299.symm)
        have CH306 := CH296.trans (CHr.ext E299 CH296.1)
        have V299 : Arv Z h299 b299 k299 .char (2 : Int32) [(.int (0 : Int32)), (.int (0 : Int32))] (.int (0 : Int32)) := (Arv.new A299 (by decide)).pad (pad_rep [] (.int (0 : Int32)) 2)
        have ltb299 := V299.lt
        refine own_step (T' := T299) (g' := (mkF m 47 #[.val (.int c0), .val (.int c1), .val (.int c2), .val (.int k)] [(.ref b299), (.ref b292), (.ref b292)])) st299 ?_
        refine own_step (T' := T299) (g' := (mkF m 48 #[.val (.int c0), .val (.int c1), .val (.int c2), .val (.int k)] [(.ref b299), (.ref b299), (.ref b292), (.ref b292)])) (fun _ q => XS.dup X299.here hx rfl (hb hby d1_47) rfl rfl q) ?_
        refine own_step (T' := T299) (g' := (mkF m 49 #[.val (.int c0), .val (.int c1), .val (.int c2), .val (.int k)] [(.int (0 : Int32)), (.ref b299), (.ref b299), (.ref b292), (.ref b292)])) (fun _ q => XS.iconst X299.here hx rfl (hb hby d1_48) q) ?_
        refine own_step (T' := T299) (g' := (mkF m 50 #[.val (.int c0), .val (.int c1), .val (.int c2), .val (.int k)] [(.int c0), (.int (0 : Int32)), (.ref b299), (.ref b299), (.ref b292), (.ref b292)])) (fun _ q => XS.iloadN X299.here hx rfl (hb hby d1_49) rfl q) ?_
        obtain ⟨T307, h307, X307, e307, W307, V307, st307⟩ := own_stC X299 hx hZ e299 V299 (j := (0 : Int32)) ⟨by decide, by decide⟩ (i := 0) rfl (Nat.le_of_ble_eq_true rfl) (g := (mkF m 50 #[.val (.int c0), .val (.int c1), .val (.int c2), .val (.int k)] [(.int c0), (.int (0 : Int32)), (.ref b299), (.ref b299), (.ref b292), (.ref b292)])) rfl rfl (hb hby d1_50)
        rw [show (nar .char c0) = c0 from own_nar8 hc0] at V307
        replace V307 : Arv Z h307 b299 k299 .char (2 : Int32) [(.int c0), (.int (0 : Int32))] (.int (0 : Int32)) := V307
        have N308 := Fr.snoc X307 N0 n0_301
        have c310 := (Safe.ext E299 CH296.1 sf305)
        have CH309 := CH306.trans (CHr.wr W307 c310 CH306.1)
        refine own_step (T' := T307) (g' := (mkF m 51 #[.val (.int c0), .val (.int c1), .val (.int c2), .val (.int k)] [(.ref b299), (.ref b292), (.ref b292)])) st307 ?_
        refine own_step (T' := T307) (g' := (mkF m 52 #[.val (.int c0), .val (.int c1), .val (.int c2), .val (.int k)] [(.ref b299), (.ref b299), (.ref b292), (.ref b292)])) (fun _ q => XS.dup X307.here hx rfl (hb hby d1_51) rfl rfl q) ?_
        refine own_step (T' := T307) (g' := (mkF m 53 #[.val (.int c0), .val (.int c1), .val (.int c2), .val (.int k)] [(.int (1 : Int32)), (.ref b299), (.ref b299), (.ref b292), (.ref b292)])) (fun _ q => XS.iconst X307.here hx rfl (hb hby d1_52) q) ?_
        refine own_step (T' := T307) (g' := (mkF m 54 #[.val (.int c0), .val (.int c1), .val (.int c2), .val (.int k)] [(.int c1), (.int (1 : Int32)), (.ref b299), (.ref b299), (.ref b292), (.ref b292)])) (fun _ q => XS.iloadN X307.here hx rfl (hb hby d1_53) rfl q) ?_
        obtain ⟨T311, h311, X311, e311, W311, V311, st311⟩ := own_stC X307 hx hZ e307 V307 (j := (1 : Int32)) ⟨by decide, by decide⟩ (i := 1) rfl (Nat.le_of_ble_eq_true rfl) (g := (mkF m 54 #[.val (.int c0), .val (.int c1), .val (.int c2), .val (.int k)] [(.int c1), (.int (1 : Int32)), (.ref b299), (.ref b299), (.ref b292), (.ref b292)])) rfl rfl (hb hby d1_54)
        rw [show (nar .char c1) = c1 from own_nar8 hc1] at V311
        replace V311 : Arv Z h311 b299 k299 .char (2 : Int32) [(.int c0), (.int c1)] (.int (0 : Int32)) := V311
        have N312 := Fr.snoc X311 N308 n0_301
        have c314 := (Safe.wr W307 c310 CH306.1 c310)
        have CH313 := CH309.trans (CHr.wr W311 c314 CH309.1)
        refine own_step (T' := T311) (g' := (mkF m 55 #[.val (.int c0), .val (.int c1), .val (.int c2), .val (.int k)] [(.ref b299), (.ref b292), (.ref b292)])) st311 ?_
        have c315 := (((A292.ext E299).wr W307).wr W311)
        have c316 := (((F297.ext E299).other W307 (Or.inl ne304)).other W311 (Or.inl ne304))
        have c317 := (((F298.ext E299).other W307 (Or.inl ne304)).other W311 (Or.inl ne304))
        have c318 := (Nat.le_trans (Nat.le_trans (Nat.le_trans c300 E299.1) (Keep.of_wr W307).1) (Keep.of_wr W311).1)
        have c319 := ((((OLD0.ext E292).ext E299).wr W307 n0_301).wr W311 n0_301)
        have hp320 : ∀ c ∈ ([c0, c1] : List Int32), ¬ c < 0 ∧ ¬ (255 : Int32) < c := (own_allS hc0 (own_allS hc1 own_all0))
        refine own_callC X311 hx hZ hown rfl (w8 hw) (w9 hw) (w10 hw) (by decide) (StrChars.Road.backV (W := 1) hZ (own_ws hw) (kI := 4) (w5 hw) (cs := ([c0, c1] : List Int32)) (bs := (([c0, c1] : List Int32)).map (fun c => c.toInt8.toInt32)) (n := 2) n0_293 c318 c315 c316 c317 V311 (O2.ext c319.2) P5 rfl rfl (by decide) (by decide) hp320 rfl (by decide) (by decide)) e311  (by first | decide | (dsimp only; omega)) (by first | decide | (dsimp only; omega)) (g := (mkF m 55 #[.val (.int c0), .val (.int c1), .val (.int c2), .val (.int k)] [(.ref b299), (.ref b292), (.ref b292)])) (argsL := [(.ref b299)]) (rest := [(.ref b292)]) rfl (by rw [hml]; rfl) (lenOf pd_15 rfl) rfl rfl (by show 2 * 0 + _ ≤ _; exact Nat.le_of_eq rfl) (hb hby d1_55) ?_
        rintro _ T321 L321 X321 ⟨rfl, N321q, K321, fE321, fC321, t321, kb321, ge321, sz321, nx321, fV321, fA321⟩
        have n0_322 : n0 ≤ t321 := Nat.le_trans c318 sz321
        have c323 := (((c302.ext E299).wr W307 (Or.inr sz0_303)).wr W311 (Or.inr sz0_303))
        have sz0_324 := Nat.le_trans c323.1 sz321
        have c325 := (own_lt (own_lt (own_lt ltb292 E299.1) (Keep.of_wr W307).1) (Keep.of_wr W311).1)
        have ne326 : b292 ≠ t321 := own_ne c325 sz321
        have c327 := (own_lt (own_lt ltb299 (Keep.of_wr W307).1) (Keep.of_wr W311).1)
        have ne328 : b299 ≠ t321 := own_ne c327 sz321
        have sf329 : Safe Z own_EL _ _ t321 := Safe.new (EL := own_EL) (Z := Z) (vm := s.vm) sz321
        have c331 := (Safe.wr W311 c314 CH309.1 (Safe.wr W307 c310 CH306.1 (Safe.ext E299 CH296.1 (Safe.ext E292 CH0.1 sf295))))
        have CH330 := CH313.trans (CHr.keep K321 (sfS c331 sf0) CH313.1)
        have ltt321 := fA321.lt
        have hcd332 : StrChars.Road.CodA ([c0, c1] : List Int32) 0 (2 : Int32) (((([c0, c1] : List Int32)).map (fun c => c.toInt8.toInt32)).map Value.int) := StrChars.Road.codOf (n := 2) rfl (fun c hc => (hp320 c hc).2)
        have N333 := Fr.app N312 N321q
        show own_Fin p e below _ T321 (mkF m 58 #[.val (.int c0), .val (.int c1), .val (.int c2), .val (.int k)] [(.ref b292)])
        have qV334 : (((([c0, c1] : List Int32)).map (fun c => c.toInt8.toInt32)).map Value.int : List Value) = (own_bs (own_tl k c0 c1 c2)) := (by rw [own_tl, if_neg hc216, if_neg hc248, if_pos hc291]; rfl)
        have V334 : Arv Z T321.heap t321 kb321 .byte (2 : Int32) (own_bs (own_tl k c0 c1 c2)) (.int 0) := own_fixv qV334 fA321
        have qV335 : ((2 : Int32) : Int32) = (Int32.ofNat (own_bs (own_tl k c0 c1 c2)).length) := (by rw [own_tl, if_neg hc216, if_neg hc248, if_pos hc291]; rfl)
        have V335 : Arv Z T321.heap t321 kb321 .byte (Int32.ofNat (own_bs (own_tl k c0 c1 c2)).length) (own_bs (own_tl k c0 c1 c2)) (.int 0) := own_fixn qV335 V334
        have c336 := (c323.trans K321 (allS (Or.inr sz0_294) all0))
        have c337 := (Nat.le_trans (Nat.le_trans (Nat.le_trans (Nat.le_trans (Nat.le_trans hk0 E292.1) E299.1) (Keep.of_wr W307).1) (Keep.of_wr W311).1) K321.1)
        exact own_retAW X321 hx hZ (own_hEL hw) hS c337 CH330 Bd.returns rfl rfl (hb hby d1_58) hlk ⟨b292, t321, kb321, rfl, N333, c336, sz0_294, fE321, fV321, fC321, V335⟩ (by first | decide | (dsimp only; omega)) (by first | decide | (dsimp only; omega))
      · refine own_step (T' := s₁) (g' := (mkF m 59 #[.val (.int c0), .val (.int c1), .val (.int c2), .val (.int k)] [])) (fun _ q => XS.icmpYes X0.here hx rfl (pc0 := 37) (pc' := 59) rfl (hb hby d1_37) rfl (XT.ii_ne_t hc291) (by decide) (by decide) q) ?_
        obtain ⟨T338, h338, X338, e338, E338, A338, D338, -, st338⟩ := newO X0 hx hZ hown (w4 hw) (w5 hw) (w6 hw) e0 (g := (mkF m 59 #[.val (.int c0), .val (.int c1), .val (.int c2), .val (.int k)] [])) rfl (hb hby d1_59) (by first | decide | (dsimp only; omega)) (by first | decide | (dsimp only; omega))
        obtain ⟨b338, g338⟩ : ∃ z, z = h0.size := ⟨_, rfl⟩
        rw [← g338] at A338 D338 st338
        have n0_339 : n0 ≤ b338 := Nat.le_trans Z0 (Nat.le_of_eq g338.symm)
        have sz0_340 := Nat.le_trans KP0.1 (Nat.le_of_eq g338.symm)
        have sf341 : Safe Z own_EL _ _ b338 := Safe.new (EL := own_EL) (Z := Z) (vm := s.vm) (Nat.le_of_eq g338.symm)
        have CH342 := CH0.trans (CHr.ext E338 CH0.1)
        have ltb338 := A338.lt
        have F343 : Fld Z h338 b338 "java/lang/String" "value" "[B" .null := D338 (Or.inr (w20 hw)) (ty := (.array .byte)) (by decide)
        have F344 : Fld Z h338 b338 "java/lang/String" "coder" "B" (.int (0 : Int32)) := D338 (Or.inr (w21 hw)) (ty := .byte) (by decide)
        refine own_step (T' := T338) (g' := (mkF m 62 #[.val (.int c0), .val (.int c1), .val (.int c2), .val (.int k)] [(.ref b338)])) st338 ?_
        refine own_step (T' := T338) (g' := (mkF m 63 #[.val (.int c0), .val (.int c1), .val (.int c2), .val (.int k)] [(.ref b338), (.ref b338)])) (fun _ q => XS.dup X338.here hx rfl (hb hby d1_62) rfl rfl q) ?_
        refine own_step (T' := T338) (g' := (mkF m 64 #[.val (.int c0), .val (.int c1), .val (.int c2), .val (.int k)] [(.int (3 : Int32)), (.ref b338), (.ref b338)])) (fun _ q => XS.iconst X338.here hx rfl (hb hby d1_63) q) ?_
        obtain ⟨T345, h345, k345, X345, e345, E345, A345, st345⟩ := newP X338 hx hZ (aty := .char) (w7 hw) e338 (g := (mkF m 64 #[.val (.int c0), .val (.int c1), .val (.int c2), .val (.int k)] [(.int (3 : Int32)), (.ref b338), (.ref b338)])) rfl (hb hby d1_64) rfl (by decide) (cap := 3) (by decide) (by first | decide | omega) (by first | decide | (dsimp only; omega)) (by first | decide | (dsimp only; omega))
        obtain ⟨b345, g345⟩ : ∃ z, z = h338.size := ⟨_, rfl⟩
        rw [← g345] at A345 st345
        have c346 := (Nat.le_trans Z0 E338.1)
        have n0_347 : n0 ≤ b345 := Nat.le_trans c346 (Nat.le_of_eq g345.symm)
        have c348 := (KP0.ext E338)
        have sz0_349 := Nat.le_trans c348.1 (Nat.le_of_eq g345.symm)
        have ne350 : b338 ≠ b345 := own_ne ltb338 (Nat.le_of_eq g345.symm)
        have sf351 : Safe Z own_EL _ _ b345 := Safe.new (EL := own_EL) (Z := Z) (vm := s.vm) (Nat.le_of_eq g345.symm)
        have CH352 := CH342.trans (CHr.ext E345 CH342.1)
        have V345 : Arv Z h345 b345 k345 .char (3 : Int32) [(.int (0 : Int32)), (.int (0 : Int32)), (.int (0 : Int32))] (.int (0 : Int32)) := (Arv.new A345 (by decide)).pad (pad_rep [] (.int (0 : Int32)) 3)
        have ltb345 := V345.lt
        refine own_step (T' := T345) (g' := (mkF m 66 #[.val (.int c0), .val (.int c1), .val (.int c2), .val (.int k)] [(.ref b345), (.ref b338), (.ref b338)])) st345 ?_
        refine own_step (T' := T345) (g' := (mkF m 67 #[.val (.int c0), .val (.int c1), .val (.int c2), .val (.int k)] [(.ref b345), (.ref b345), (.ref b338), (.ref b338)])) (fun _ q => XS.dup X345.here hx rfl (hb hby d1_66) rfl rfl q) ?_
        refine own_step (T' := T345) (g' := (mkF m 68 #[.val (.int c0), .val (.int c1), .val (.int c2), .val (.int k)] [(.int (0 : Int32)), (.ref b345), (.ref b345), (.ref b338), (.ref b338)])) (fun _ q => XS.iconst X345.here hx rfl (hb hby d1_67) q) ?_
        refine own_step (T' := T345) (g' := (mkF m 69 #[.val (.int c0), .val (.int c1), .val (.int c2), .val (.int k)] [(.int c0), (.int (0 : Int32)), (.ref b345), (.ref b345), (.ref b338), (.ref b338)])) (fun _ q => XS.iloadN X345.here hx rfl (hb hby d1_68) rfl q) ?_
        obtain ⟨T353, h353, X353, e353, W353, V353, st353⟩ := own_stC X345 hx hZ e345 V345 (j := (0 : Int32)) ⟨by decide, by decide⟩ (i := 0) rfl (Nat.le_of_ble_eq_true rfl) (g := (mkF m 69 #[.val (.int c0), .val (.int c1), .val (.int c2), .val (.int k)] [(.int c0), (.int (0 : Int32)), (.ref b345), (.ref b345), (.ref b338), (.ref b338)])) rfl rfl (hb hby d1_69)
        rw [show (nar .char c0) = c0 from own_nar8 hc0] at V353
        replace V353 : Arv Z h353 b345 k345 .char (3 : Int32) [(.int c0), (.int (0 : Int32)), (.int (0 : Int32))] (.int (0 : Int32)) := V353
        have N354 := Fr.snoc X353 N0 n0_347
        have c356 := (Safe.ext E345 CH342.1 sf351)
        have CH355 := CH352.trans (CHr.wr W353 c356 CH352.1)
        refine own_step (T' := T353) (g' := (mkF m 70 #[.val (.int c0), .val (.int c1), .val (.int c2), .val (.int k)] [(.ref b345), (.ref b338), (.ref b338)])) st353 ?_
        refine own_step (T' := T353) (g' := (mkF m 71 #[.val (.int c0), .val (.int c1), .val (.int c2), .val (.int k)] [(.ref b345), (.ref b345), (.ref b338), (.ref b338)])) (fun _ q => XS.dup X353.here hx rfl (hb hby d1_70) rfl rfl q) ?_
        refine own_step (T' := T353) (g' := (mkF m 72 #[.val (.int c0), .val (.int c1), .val (.int c2), .val (.int k)] [(.int (1 : Int32)), (.ref b345), (.ref b345), (.ref b338), (.ref b338)])) (fun _ q => XS.iconst X353.here hx rfl (hb hby d1_71) q) ?_
        refine own_step (T' := T353) (g' := (mkF m 73 #[.val (.int c0), .val (.int c1), .val (.int c2), .val (.int k)] [(.int c1), (.int (1 : Int32)), (.ref b345), (.ref b345), (.ref b338), (.ref b338)])) (fun _ q => XS.iloadN X353.here hx rfl (hb hby d1_72) rfl q) ?_
        obtain ⟨T357, h357, X357, e357, W357, V357, st357⟩ := own_stC X353 hx hZ e353 V353 (j := (1 : Int32)) ⟨by decide, by decide⟩ (i := 1) rfl (Nat.le_of_ble_eq_true rfl) (g := (mkF m 73 #[.val (.int c0), .val (.int c1), .val (.int c2), .val (.int k)] [(.int c1), (.int (1 : Int32)), (.ref b345), (.ref b345), (.ref b338), (.ref b338)])) rfl rfl (hb hby d1_73)
        rw [show (nar .char c1) = c1 from own_nar8 hc1] at V357
        replace V357 : Arv Z h357 b345 k345 .char (3 : Int32) [(.int c0), (.int c1), (.int (0 : Int32))] (.int (0 : Int32)) := V357
        have N358 := Fr.snoc X357 N354 n0_347
        have c360 := (Safe.wr W353 c356 CH352.1 c356)
        have CH359 := CH355.trans (CHr.wr W357 c360 CH355.1)
        refine own_step (T' := T357) (g' := (mkF m 74 #[.val (.int c0), .val (.int c1), .val (.int c2), .val (.int k)] [(.ref b345), (.ref b338), (.ref b338)])) st357 ?_
        refine own_step (T' := T357) (g' := (mkF m 75 #[.val (.int c0), .val (.int c1), .val (.int c2), .val (.int k)] [(.ref b345), (.ref b345), (.ref b338), (.ref b338)])) (fun _ q => XS.dup X357.here hx rfl (hb hby d1_74) rfl rfl q) ?_
        refine own_step (T' := T357) (g' := (mkF m 76 #[.val (.int c0), .val (.int c1), .val (.int c2), .val (.int k)] [(.int (2 : Int32)), (.ref b345), (.ref b345), (.ref b338), (.ref b338)])) (fun _ q => XS.iconst X357.here hx rfl (hb hby d1_75) q) ?_
        refine own_step (T' := T357) (g' := (mkF m 77 #[.val (.int c0), .val (.int c1), .val (.int c2), .val (.int k)] [(.int c2), (.int (2 : Int32)), (.ref b345), (.ref b345), (.ref b338), (.ref b338)])) (fun _ q => XS.iloadN X357.here hx rfl (hb hby d1_76) rfl q) ?_
        obtain ⟨T361, h361, X361, e361, W361, V361, st361⟩ := own_stC X357 hx hZ e357 V357 (j := (2 : Int32)) ⟨by decide, by decide⟩ (i := 2) rfl (Nat.le_of_ble_eq_true rfl) (g := (mkF m 77 #[.val (.int c0), .val (.int c1), .val (.int c2), .val (.int k)] [(.int c2), (.int (2 : Int32)), (.ref b345), (.ref b345), (.ref b338), (.ref b338)])) rfl rfl (hb hby d1_77)
        rw [show (nar .char c2) = c2 from own_nar8 hc2] at V361
        replace V361 : Arv Z h361 b345 k345 .char (3 : Int32) [(.int c0), (.int c1), (.int c2)] (.int (0 : Int32)) := V361
        have N362 := Fr.snoc X361 N358 n0_347
        have c364 := (Safe.wr W357 c360 CH355.1 c360)
        have CH363 := CH359.trans (CHr.wr W361 c364 CH359.1)
        refine own_step (T' := T361) (g' := (mkF m 78 #[.val (.int c0), .val (.int c1), .val (.int c2), .val (.int k)] [(.ref b345), (.ref b338), (.ref b338)])) st361 ?_
        have c365 := ((((A338.ext E345).wr W353).wr W357).wr W361)
        have c366 := ((((F343.ext E345).other W353 (Or.inl ne350)).other W357 (Or.inl ne350)).other W361 (Or.inl ne350))
        have c367 := ((((F344.ext E345).other W353 (Or.inl ne350)).other W357 (Or.inl ne350)).other W361 (Or.inl ne350))
        have c368 := (Nat.le_trans (Nat.le_trans (Nat.le_trans (Nat.le_trans c346 E345.1) (Keep.of_wr W353).1) (Keep.of_wr W357).1) (Keep.of_wr W361).1)
        have c369 := (((((OLD0.ext E338).ext E345).wr W353 n0_347).wr W357 n0_347).wr W361 n0_347)
        have hp370 : ∀ c ∈ ([c0, c1, c2] : List Int32), ¬ c < 0 ∧ ¬ (255 : Int32) < c := (own_allS hc0 (own_allS hc1 (own_allS hc2 own_all0)))
        refine own_callC X361 hx hZ hown rfl (w8 hw) (w9 hw) (w10 hw) (by decide) (StrChars.Road.backV (W := 1) hZ (own_ws hw) (kI := 4) (w5 hw) (cs := ([c0, c1, c2] : List Int32)) (bs := (([c0, c1, c2] : List Int32)).map (fun c => c.toInt8.toInt32)) (n := 3) n0_339 c368 c365 c366 c367 V361 (O2.ext c369.2) P5 rfl rfl (by decide) (by decide) hp370 rfl (by decide) (by decide)) e361  (by first | decide | (dsimp only; omega)) (by first | decide | (dsimp only; omega)) (g := (mkF m 78 #[.val (.int c0), .val (.int c1), .val (.int c2), .val (.int k)] [(.ref b345), (.ref b338), (.ref b338)])) (argsL := [(.ref b345)]) (rest := [(.ref b338)]) rfl (by rw [hml]; rfl) (lenOf pd_15 rfl) rfl rfl (by show 2 * 0 + _ ≤ _; exact Nat.le_of_eq rfl) (hb hby d1_78) ?_
        rintro _ T371 L371 X371 ⟨rfl, N371q, K371, fE371, fC371, t371, kb371, ge371, sz371, nx371, fV371, fA371⟩
        have n0_372 : n0 ≤ t371 := Nat.le_trans c368 sz371
        have c373 := ((((c348.ext E345).wr W353 (Or.inr sz0_349)).wr W357 (Or.inr sz0_349)).wr W361 (Or.inr sz0_349))
        have sz0_374 := Nat.le_trans c373.1 sz371
        have c375 := (own_lt (own_lt (own_lt (own_lt ltb338 E345.1) (Keep.of_wr W353).1) (Keep.of_wr W357).1) (Keep.of_wr W361).1)
        have ne376 : b338 ≠ t371 := own_ne c375 sz371
        have c377 := (own_lt (own_lt (own_lt ltb345 (Keep.of_wr W353).1) (Keep.of_wr W357).1) (Keep.of_wr W361).1)
        have ne378 : b345 ≠ t371 := own_ne c377 sz371
        have sf379 : Safe Z own_EL _ _ t371 := Safe.new (EL := own_EL) (Z := Z) (vm := s.vm) sz371
        have c381 := (Safe.wr W361 c364 CH359.1 (Safe.wr W357 c360 CH355.1 (Safe.wr W353 c356 CH352.1 (Safe.ext E345 CH342.1 (Safe.ext E338 CH0.1 sf341)))))
        have CH380 := CH363.trans (CHr.keep K371 (sfS c381 sf0) CH363.1)
        have ltt371 := fA371.lt
        have hcd382 : StrChars.Road.CodA ([c0, c1, c2] : List Int32) 0 (3 : Int32) (((([c0, c1, c2] : List Int32)).map (fun c => c.toInt8.toInt32)).map Value.int) := StrChars.Road.codOf (n := 3) rfl (fun c hc => (hp370 c hc).2)
        have N383 := Fr.app N362 N371q
        show own_Fin p e below _ T371 (mkF m 81 #[.val (.int c0), .val (.int c1), .val (.int c2), .val (.int k)] [(.ref b338)])
        have qV384 : (((([c0, c1, c2] : List Int32)).map (fun c => c.toInt8.toInt32)).map Value.int : List Value) = (own_bs (own_tl k c0 c1 c2)) := (by rw [own_tl, if_neg hc216, if_neg hc248, if_neg hc291]; rfl)
        have V384 : Arv Z T371.heap t371 kb371 .byte (3 : Int32) (own_bs (own_tl k c0 c1 c2)) (.int 0) := own_fixv qV384 fA371
        have qV385 : ((3 : Int32) : Int32) = (Int32.ofNat (own_bs (own_tl k c0 c1 c2)).length) := (by rw [own_tl, if_neg hc216, if_neg hc248, if_neg hc291]; rfl)
        have V385 : Arv Z T371.heap t371 kb371 .byte (Int32.ofNat (own_bs (own_tl k c0 c1 c2)).length) (own_bs (own_tl k c0 c1 c2)) (.int 0) := own_fixn qV385 V384
        have c386 := (c373.trans K371 (allS (Or.inr sz0_340) all0))
        have c387 := (Nat.le_trans (Nat.le_trans (Nat.le_trans (Nat.le_trans (Nat.le_trans (Nat.le_trans hk0 E338.1) E345.1) (Keep.of_wr W353).1) (Keep.of_wr W357).1) (Keep.of_wr W361).1) K371.1)
        exact own_retAW X371 hx hZ (own_hEL hw) hS c387 CH380 Bd.returns rfl rfl (hb hby d1_81) hlk ⟨b338, t371, kb371, rfl, N383, c386, sz0_340, fE371, fV371, fC371, V385⟩ (by first | decide | (dsimp only; omega)) (by first | decide | (dsimp only; omega))
theorem d5_0 : decode method_3_code 0 = .ok (.iload_n 3, 1) := by decide +kernel
theorem d5_1 : decode method_3_code 1 = .ok (.ifCond .ne 19, 3) := by decide +kernel
theorem d5_4 : decode method_3_code 4 = .ok (.new 7, 3) := by decide +kernel
theorem d5_7 : decode method_3_code 7 = .ok (.dup, 1) := by decide +kernel
theorem d5_8 : decode method_3_code 8 = .ok (.iconst 1, 1) := by decide +kernel
theorem d5_9 : decode method_3_code 9 = .ok (.newarray .char, 2) := by decide +kernel
theorem d5_11 : decode method_3_code 11 = .ok (.dup, 1) := by decide +kernel
theorem d5_12 : decode method_3_code 12 = .ok (.iconst 0, 1) := by decide +kernel
theorem d5_13 : decode method_3_code 13 = .ok (.bipush 58, 2) := by decide +kernel
theorem d5_15 : decode method_3_code 15 = .ok (.castore, 1) := by decide +kernel
theorem d5_16 : decode method_3_code 16 = .ok (.invokespecial 9, 3) := by decide +kernel
theorem d5_19 : decode method_3_code 19 = .ok (.areturn, 1) := by decide +kernel
theorem d5_20 : decode method_3_code 20 = .ok (.iload_n 3, 1) := by decide +kernel
theorem d5_21 : decode method_3_code 21 = .ok (.iconst 1, 1) := by decide +kernel
theorem d5_22 : decode method_3_code 22 = .ok (.if_icmp .ne 23, 3) := by decide +kernel
theorem d5_25 : decode method_3_code 25 = .ok (.new 7, 3) := by decide +kernel
theorem d5_28 : decode method_3_code 28 = .ok (.dup, 1) := by decide +kernel
theorem d5_29 : decode method_3_code 29 = .ok (.iconst 2, 1) := by decide +kernel
theorem d5_30 : decode method_3_code 30 = .ok (.newarray .char, 2) := by decide +kernel
theorem d5_32 : decode method_3_code 32 = .ok (.dup, 1) := by decide +kernel
theorem d5_33 : decode method_3_code 33 = .ok (.iconst 0, 1) := by decide +kernel
theorem d5_34 : decode method_3_code 34 = .ok (.bipush 58, 2) := by decide +kernel
theorem d5_36 : decode method_3_code 36 = .ok (.castore, 1) := by decide +kernel
theorem d5_37 : decode method_3_code 37 = .ok (.dup, 1) := by decide +kernel
theorem d5_38 : decode method_3_code 38 = .ok (.iconst 1, 1) := by decide +kernel
theorem d5_39 : decode method_3_code 39 = .ok (.iload_n 0, 1) := by decide +kernel
theorem d5_40 : decode method_3_code 40 = .ok (.castore, 1) := by decide +kernel
theorem d5_41 : decode method_3_code 41 = .ok (.invokespecial 9, 3) := by decide +kernel
theorem d5_44 : decode method_3_code 44 = .ok (.areturn, 1) := by decide +kernel
theorem d5_45 : decode method_3_code 45 = .ok (.iload_n 3, 1) := by decide +kernel
theorem d5_46 : decode method_3_code 46 = .ok (.iconst 2, 1) := by decide +kernel
theorem d5_47 : decode method_3_code 47 = .ok (.if_icmp .ne 27, 3) := by decide +kernel
theorem d5_50 : decode method_3_code 50 = .ok (.new 7, 3) := by decide +kernel
theorem d5_53 : decode method_3_code 53 = .ok (.dup, 1) := by decide +kernel
theorem d5_54 : decode method_3_code 54 = .ok (.iconst 3, 1) := by decide +kernel
theorem d5_55 : decode method_3_code 55 = .ok (.newarray .char, 2) := by decide +kernel
theorem d5_57 : decode method_3_code 57 = .ok (.dup, 1) := by decide +kernel
theorem d5_58 : decode method_3_code 58 = .ok (.iconst 0, 1) := by decide +kernel
theorem d5_59 : decode method_3_code 59 = .ok (.bipush 58, 2) := by decide +kernel
theorem d5_61 : decode method_3_code 61 = .ok (.castore, 1) := by decide +kernel
theorem d5_62 : decode method_3_code 62 = .ok (.dup, 1) := by decide +kernel
theorem d5_63 : decode method_3_code 63 = .ok (.iconst 1, 1) := by decide +kernel
theorem d5_64 : decode method_3_code 64 = .ok (.iload_n 0, 1) := by decide +kernel
theorem d5_65 : decode method_3_code 65 = .ok (.castore, 1) := by decide +kernel
theorem d5_66 : decode method_3_code 66 = .ok (.dup, 1) := by decide +kernel
theorem d5_67 : decode method_3_code 67 = .ok (.iconst 2, 1) := by decide +kernel
theorem d5_68 : decode method_3_code 68 = .ok (.iload_n 1, 1) := by decide +kernel
theorem d5_69 : decode method_3_code 69 = .ok (.castore, 1) := by decide +kernel
theorem d5_70 : decode method_3_code 70 = .ok (.invokespecial 9, 3) := by decide +kernel
theorem d5_73 : decode method_3_code 73 = .ok (.areturn, 1) := by decide +kernel
theorem d5_74 : decode method_3_code 74 = .ok (.new 7, 3) := by decide +kernel
theorem d5_77 : decode method_3_code 77 = .ok (.dup, 1) := by decide +kernel
theorem d5_78 : decode method_3_code 78 = .ok (.iconst 4, 1) := by decide +kernel
theorem d5_79 : decode method_3_code 79 = .ok (.newarray .char, 2) := by decide +kernel
theorem d5_81 : decode method_3_code 81 = .ok (.dup, 1) := by decide +kernel
theorem d5_82 : decode method_3_code 82 = .ok (.iconst 0, 1) := by decide +kernel
theorem d5_83 : decode method_3_code 83 = .ok (.bipush 58, 2) := by decide +kernel
theorem d5_85 : decode method_3_code 85 = .ok (.castore, 1) := by decide +kernel
theorem d5_86 : decode method_3_code 86 = .ok (.dup, 1) := by decide +kernel
theorem d5_87 : decode method_3_code 87 = .ok (.iconst 1, 1) := by decide +kernel
theorem d5_88 : decode method_3_code 88 = .ok (.iload_n 0, 1) := by decide +kernel
theorem d5_89 : decode method_3_code 89 = .ok (.castore, 1) := by decide +kernel
theorem d5_90 : decode method_3_code 90 = .ok (.dup, 1) := by decide +kernel
theorem d5_91 : decode method_3_code 91 = .ok (.iconst 2, 1) := by decide +kernel
theorem d5_92 : decode method_3_code 92 = .ok (.iload_n 1, 1) := by decide +kernel
theorem d5_93 : decode method_3_code 93 = .ok (.castore, 1) := by decide +kernel
theorem d5_94 : decode method_3_code 94 = .ok (.dup, 1) := by decide +kernel
theorem d5_95 : decode method_3_code 95 = .ok (.iconst 3, 1) := by decide +kernel
theorem d5_96 : decode method_3_code 96 = .ok (.iload_n 2, 1) := by decide +kernel
theorem d5_97 : decode method_3_code 97 = .ok (.castore, 1) := by decide +kernel
theorem d5_98 : decode method_3_code 98 = .ok (.invokespecial 9, 3) := by decide +kernel
theorem d5_101 : decode method_3_code 101 = .ok (.areturn, 1) := by decide +kernel
def Q_own_col (Z : State) (G1 : Int32) (G3 : Value) (c0 : Int32) (c1 : Int32) (c2 : Int32) (k : Int32) (h0 : Heap) (n0 : Nat) (v : Option Value) (h : Heap) (L : List Loc) : Prop := ∃ (a : Addr), ∃ (t : Addr), ∃ (kb : ClassId), v = some (.ref a) ∧ Fr n0 L ∧ Keep h0 h [] ∧ h0.size ≤ a ∧ h0.size ≤ t ∧ Exa Z h a "java/lang/String" ∧ Fld Z h a "java/lang/String" "value" "[B" (.ref t) ∧ Fld Z h a "java/lang/String" "coder" "B" (.int (0 : Int32)) ∧ Arv Z h t kb .byte (Int32.ofNat (own_bs ((58 : Int32) :: own_tl k c0 c1 c2)).length) (own_bs ((58 : Int32) :: own_tl k c0 c1 c2)) (.int 0)
set_option maxRecDepth 65536 in
set_option maxHeartbeats 40000000 in
theorem own_col (l : Launch) (Z : State) (a0 : Array Value) (hw : ∀ d ∈ tables_1, d.before a0 Z = true) (ws : List Jvm.Cond) (G1 : Int32) (G3 : Value) (c0 : Int32) (c1 : Int32) (c2 : Int32) (k : Int32) (h0 : Heap) (n0 : Nat) (Z0 : n0 ≤ h0.size) (O2 : Sta Z Z.heap "java/lang/String" "COMPACT_STRINGS" "Z" (.int G1)) (O4 : Sta Z Z.heap "jdk/internal/util/Preconditions" "SIOOBE_FORMATTER" "Ljava/util/function/BiFunction;" G3) (P5 : ¬ (G1 = (0 : Int32))) (rG3 : G3.isRef = true) (OLD0 : Old Z n0 h0) (hc0 : ¬ c0 < 0 ∧ ¬ (255 : Int32) < c0) (hc1 : ¬ c1 < 0 ∧ ¬ (255 : Int32) < c1) (hc2 : ¬ c2 < 0 ∧ ¬ (255 : Int32) < c2) :
    MetFree l (⟨"com/example/kvasir/kvasir/jpql/InputParameterNamedPinLaw", "colonText", "(CCCI)Ljava/lang/String;"⟩ : MethodName) (head1 (Jvm.Cond.code (⟨"com/example/kvasir/kvasir/jpql/InputParameterNamedPinLaw", "colonText", "(CCCI)Ljava/lang/String;"⟩ : MethodName) method_3_code 4 (some (.object "java/lang/String")) :: ws) ({ frames := 4, cells := 3, slots := 12, locals := 66 } : Room)) (fun ag U => ag = #[(.int c0), (.int c1), (.int c2), (.int k)] ∧ Z.Warmed39 U.vm ∧ U.heap = h0) (fun _ _ _ _ _ => True) (fun _ U o U' => ∃ v L, o = .returned v ∧ Q_own_col Z G1 G3 c0 c1 c2 k h0 n0 v U'.heap L ∧ FrameEnd U o U' L ({ frames := 4, cells := 3, slots := 12, locals := 66 } : Room).cells ({ frames := 4, cells := 3, slots := 12, locals := 66 } : Room).slots) := by
  refine own_body (plainFor_of_name pn_4) ?_
  intro p e s m below meth c s₁ Bd hml hZ e0
  have hx := Bd.exec
  have hby := Bd.bytes
  have hlk : meth.locks = false := BodyLoose.notSynchronized Bd
  have hown : s.vm.findClass "com/example/kvasir/kvasir/jpql/InputParameterNamedPinLaw" = some m.cls := findClass_of_methodNamed Bd.named
  have hnm := (name_of_methodNamed Bd.named Bd.method).1
  have X0 : Stand p l e ({ frames := 4, cells := 3, slots := 12, locals := 66 } : Room) s m #[(.int c0), (.int c1), (.int c2), (.int k)] below meth c s₁ [] 0 0 := Stand.of_body Bd
  have N0 := Fr.nil n0
  have KP0 : Keep h0 h0 [] := Keep.refl h0 []
  refine own_cast (g' := (mkF m 0 #[.val (.int c0), .val (.int c1), .val (.int c2), .val (.int k)] [])) (by first | (simp [entryFrame, mkF, argsToLocals, own_cat_int, own_cat_long, own_cat_ref, own_cat_null]; done) | rfl) ?_
  refine own_step (T' := s₁) (g' := (mkF m 1 #[.val (.int c0), .val (.int c1), .val (.int c2), .val (.int k)] [(.int k)])) (fun _ q => XS.iloadN X0.here hx rfl (hb hby d5_0) rfl q) ?_
  by_cases hc388 : k = 0
  · refine own_step (T' := s₁) (g' := (mkF m 4 #[.val (.int c0), .val (.int c1), .val (.int c2), .val (.int k)] [])) (fun _ q => XS.ifNo X0.here hx rfl (hb hby d5_1) rfl (XT.i0_ne_f hc388) q) ?_
    obtain ⟨T389, h389, X389, e389, E389, A389, D389, -, st389⟩ := newO X0 hx hZ hown (w4 hw) (w5 hw) (w6 hw) e0 (g := (mkF m 4 #[.val (.int c0), .val (.int c1), .val (.int c2), .val (.int k)] [])) rfl (hb hby d5_4) (by first | decide | (dsimp only; omega)) (by first | decide | (dsimp only; omega))
    obtain ⟨b389, g389⟩ : ∃ z, z = h0.size := ⟨_, rfl⟩
    rw [← g389] at A389 D389 st389
    have n0_390 : n0 ≤ b389 := Nat.le_trans Z0 (Nat.le_of_eq g389.symm)
    have sz0_391 := Nat.le_trans KP0.1 (Nat.le_of_eq g389.symm)
    have ltb389 := A389.lt
    have F392 : Fld Z h389 b389 "java/lang/String" "value" "[B" .null := D389 (Or.inr (w20 hw)) (ty := (.array .byte)) (by decide)
    have F393 : Fld Z h389 b389 "java/lang/String" "coder" "B" (.int (0 : Int32)) := D389 (Or.inr (w21 hw)) (ty := .byte) (by decide)
    refine own_step (T' := T389) (g' := (mkF m 7 #[.val (.int c0), .val (.int c1), .val (.int c2), .val (.int k)] [(.ref b389)])) st389 ?_
    refine own_step (T' := T389) (g' := (mkF m 8 #[.val (.int c0), .val (.int c1), .val (.int c2), .val (.int k)] [(.ref b389), (.ref b389)])) (fun _ q => XS.dup X389.here hx rfl (hb hby d5_7) rfl rfl q) ?_
    refine own_step (T' := T389) (g' := (mkF m 9 #[.val (.int c0), .val (.int c1), .val (.int c2), .val (.int k)] [(.int (1 : Int32)), (.ref b389), (.ref b389)])) (fun _ q => XS.iconst X389.here hx rfl (hb hby d5_8) q) ?_
    obtain ⟨T394, h394, k394, X394, e394, E394, A394, st394⟩ := newP X389 hx hZ (aty := .char) (w7 hw) e389 (g := (mkF m 9 #[.val (.int c0), .val (.int c1), .val (.int c2), .val (.int k)] [(.int (1 : Int32)), (.ref b389), (.ref b389)])) rfl (hb hby d5_9) rfl (by decide) (cap := 1) (by decide) (by first | decide | omega) (by first | decide | (dsimp only; omega)) (by first | decide | (dsimp only; omega))
    obtain ⟨b394, g394⟩ : ∃ z, z = h389.size := ⟨_, rfl⟩
    rw [← g394] at A394 st394
    have c395 := (Nat.le_trans Z0 E389.1)
    have n0_396 : n0 ≤ b394 := Nat.le_trans c395 (Nat.le_of_eq g394.symm)
    have c397 := (KP0.ext E389)
    have sz0_398 := Nat.le_trans c397.1 (Nat.le_of_eq g394.symm)
    have ne399 : b389 ≠ b394 := own_ne ltb389 (Nat.le_of_eq g394.symm)
    have V394 : Arv Z h394 b394 k394 .char (1 : Int32) [(.int (0 : Int32))] (.int (0 : Int32)) := (Arv.new A394 (by decide)).pad (pad_rep [] (.int (0 : Int32)) 1)
    have ltb394 := V394.lt
    refine own_step (T' := T394) (g' := (mkF m 11 #[.val (.int c0), .val (.int c1), .val (.int c2), .val (.int k)] [(.ref b394), (.ref b389), (.ref b389)])) st394 ?_
    refine own_step (T' := T394) (g' := (mkF m 12 #[.val (.int c0), .val (.int c1), .val (.int c2), .val (.int k)] [(.ref b394), (.ref b394), (.ref b389), (.ref b389)])) (fun _ q => XS.dup X394.here hx rfl (hb hby d5_11) rfl rfl q) ?_
    refine own_step (T' := T394) (g' := (mkF m 13 #[.val (.int c0), .val (.int c1), .val (.int c2), .val (.int k)] [(.int (0 : Int32)), (.ref b394), (.ref b394), (.ref b389), (.ref b389)])) (fun _ q => XS.iconst X394.here hx rfl (hb hby d5_12) q) ?_
    refine own_step (T' := T394) (g' := (mkF m 15 #[.val (.int c0), .val (.int c1), .val (.int c2), .val (.int k)] [(.int (58 : Int32)), (.int (0 : Int32)), (.ref b394), (.ref b394), (.ref b389), (.ref b389)])) (fun _ q => XS.bipush X394.here hx rfl (hb hby d5_13) q) ?_
    obtain ⟨T400, h400, X400, e400, W400, V400, st400⟩ := own_stC X394 hx hZ e394 V394 (j := (0 : Int32)) ⟨by decide, by decide⟩ (i := 0) rfl (Nat.le_of_ble_eq_true rfl) (g := (mkF m 15 #[.val (.int c0), .val (.int c1), .val (.int c2), .val (.int k)] [(.int (58 : Int32)), (.int (0 : Int32)), (.ref b394), (.ref b394), (.ref b389), (.ref b389)])) rfl rfl (hb hby d5_15)
    replace V400 : Arv Z h400 b394 k394 .char (1 : Int32) [(.int (58 : Int32))] (.int (0 : Int32)) := V400
    have N401 := Fr.snoc X400 N0 n0_396
    refine own_step (T' := T400) (g' := (mkF m 16 #[.val (.int c0), .val (.int c1), .val (.int c2), .val (.int k)] [(.ref b394), (.ref b389), (.ref b389)])) st400 ?_
    have c402 := ((A389.ext E394).wr W400)
    have c403 := ((F392.ext E394).other W400 (Or.inl ne399))
    have c404 := ((F393.ext E394).other W400 (Or.inl ne399))
    have c405 := (Nat.le_trans (Nat.le_trans c395 E394.1) (Keep.of_wr W400).1)
    have c406 := (((OLD0.ext E389).ext E394).wr W400 n0_396)
    have hp407 : ∀ c ∈ ([(58 : Int32)] : List Int32), ¬ c < 0 ∧ ¬ (255 : Int32) < c := (own_allS ⟨by decide, by decide⟩ own_all0)
    refine own_callC X400 hx hZ hown rfl (w8 hw) (w9 hw) (w10 hw) (by decide) (StrChars.Road.backV (W := 1) hZ (own_ws hw) (kI := 4) (w5 hw) (cs := ([(58 : Int32)] : List Int32)) (bs := (([(58 : Int32)] : List Int32)).map (fun c => c.toInt8.toInt32)) (n := 1) n0_390 c405 c402 c403 c404 V400 (O2.ext c406.2) P5 rfl rfl (by decide) (by decide) hp407 rfl (by decide) (by decide)) e400  (by first | decide | (dsimp only; omega)) (by first | decide | (dsimp only; omega)) (g := (mkF m 16 #[.val (.int c0), .val (.int c1), .val (.int c2), .val (.int k)] [(.ref b394), (.ref b389), (.ref b389)])) (argsL := [(.ref b394)]) (rest := [(.ref b389)]) rfl (by rw [hml]; rfl) (lenOf pd_15 rfl) rfl rfl (by show 2 * 0 + _ ≤ _; exact Nat.le_of_eq rfl) (hb hby d5_16) ?_
    rintro _ T408 L408 X408 ⟨rfl, N408q, K408, fE408, fC408, t408, kb408, ge408, sz408, nx408, fV408, fA408⟩
    have n0_409 : n0 ≤ t408 := Nat.le_trans c405 sz408
    have c410 := ((c397.ext E394).wr W400 (Or.inr sz0_398))
    have sz0_411 := Nat.le_trans c410.1 sz408
    have c412 := (own_lt (own_lt ltb389 E394.1) (Keep.of_wr W400).1)
    have ne413 : b389 ≠ t408 := own_ne c412 sz408
    have c414 := (own_lt ltb394 (Keep.of_wr W400).1)
    have ne415 : b394 ≠ t408 := own_ne c414 sz408
    have ltt408 := fA408.lt
    have hcd416 : StrChars.Road.CodA ([(58 : Int32)] : List Int32) 0 (1 : Int32) (((([(58 : Int32)] : List Int32)).map (fun c => c.toInt8.toInt32)).map Value.int) := StrChars.Road.codOf (n := 1) rfl (fun c hc => (hp407 c hc).2)
    have N417 := Fr.app N401 N408q
    show own_Fin p e below _ T408 (mkF m 19 #[.val (.int c0), .val (.int c1), .val (.int c2), .val (.int k)] [(.ref b389)])
    have qV418 : (((([(58 : Int32)] : List Int32)).map (fun c => c.toInt8.toInt32)).map Value.int : List Value) = (own_bs ((58 : Int32) :: own_tl k c0 c1 c2)) := (by rw [own_tl, if_pos hc388]; rfl)
    have V418 : Arv Z T408.heap t408 kb408 .byte (1 : Int32) (own_bs ((58 : Int32) :: own_tl k c0 c1 c2)) (.int 0) := own_fixv qV418 fA408
    have qV419 : ((1 : Int32) : Int32) = (Int32.ofNat (own_bs ((58 : Int32) :: own_tl k c0 c1 c2)).length) := (by rw [own_tl, if_pos hc388]; rfl)
    have V419 : Arv Z T408.heap t408 kb408 .byte (Int32.ofNat (own_bs ((58 : Int32) :: own_tl k c0 c1 c2)).length) (own_bs ((58 : Int32) :: own_tl k c0 c1 c2)) (.int 0) := own_fixn qV419 V418
    have c420 := (c410.trans K408 (allS (Or.inr sz0_391) all0))
    exact own_retA X408 hx Bd.returns rfl rfl (hb hby d5_19) hlk ⟨b389, t408, kb408, rfl, N417, c420, sz0_391, sz0_411, fE408, fV408, fC408, V419⟩ (by first | decide | (dsimp only; omega)) (by first | decide | (dsimp only; omega))
  · refine own_step (T' := s₁) (g' := (mkF m 20 #[.val (.int c0), .val (.int c1), .val (.int c2), .val (.int k)] [])) (fun _ q => XS.ifYes X0.here hx rfl (pc0 := 1) (pc' := 20) rfl (hb hby d5_1) rfl (XT.i0_ne_t hc388) (by decide) (by decide) q) ?_
    refine own_step (T' := s₁) (g' := (mkF m 21 #[.val (.int c0), .val (.int c1), .val (.int c2), .val (.int k)] [(.int k)])) (fun _ q => XS.iloadN X0.here hx rfl (hb hby d5_20) rfl q) ?_
    refine own_step (T' := s₁) (g' := (mkF m 22 #[.val (.int c0), .val (.int c1), .val (.int c2), .val (.int k)] [(.int (1 : Int32)), (.int k)])) (fun _ q => XS.iconst X0.here hx rfl (hb hby d5_21) q) ?_
    by_cases hc421 : k = (1 : Int32)
    · refine own_step (T' := s₁) (g' := (mkF m 25 #[.val (.int c0), .val (.int c1), .val (.int c2), .val (.int k)] [])) (fun _ q => XS.icmpNo X0.here hx rfl (hb hby d5_22) rfl (XT.ii_ne_f hc421) q) ?_
      obtain ⟨T422, h422, X422, e422, E422, A422, D422, -, st422⟩ := newO X0 hx hZ hown (w4 hw) (w5 hw) (w6 hw) e0 (g := (mkF m 25 #[.val (.int c0), .val (.int c1), .val (.int c2), .val (.int k)] [])) rfl (hb hby d5_25) (by first | decide | (dsimp only; omega)) (by first | decide | (dsimp only; omega))
      obtain ⟨b422, g422⟩ : ∃ z, z = h0.size := ⟨_, rfl⟩
      rw [← g422] at A422 D422 st422
      have n0_423 : n0 ≤ b422 := Nat.le_trans Z0 (Nat.le_of_eq g422.symm)
      have sz0_424 := Nat.le_trans KP0.1 (Nat.le_of_eq g422.symm)
      have ltb422 := A422.lt
      have F425 : Fld Z h422 b422 "java/lang/String" "value" "[B" .null := D422 (Or.inr (w20 hw)) (ty := (.array .byte)) (by decide)
      have F426 : Fld Z h422 b422 "java/lang/String" "coder" "B" (.int (0 : Int32)) := D422 (Or.inr (w21 hw)) (ty := .byte) (by decide)
      refine own_step (T' := T422) (g' := (mkF m 28 #[.val (.int c0), .val (.int c1), .val (.int c2), .val (.int k)] [(.ref b422)])) st422 ?_
      refine own_step (T' := T422) (g' := (mkF m 29 #[.val (.int c0), .val (.int c1), .val (.int c2), .val (.int k)] [(.ref b422), (.ref b422)])) (fun _ q => XS.dup X422.here hx rfl (hb hby d5_28) rfl rfl q) ?_
      refine own_step (T' := T422) (g' := (mkF m 30 #[.val (.int c0), .val (.int c1), .val (.int c2), .val (.int k)] [(.int (2 : Int32)), (.ref b422), (.ref b422)])) (fun _ q => XS.iconst X422.here hx rfl (hb hby d5_29) q) ?_
      obtain ⟨T427, h427, k427, X427, e427, E427, A427, st427⟩ := newP X422 hx hZ (aty := .char) (w7 hw) e422 (g := (mkF m 30 #[.val (.int c0), .val (.int c1), .val (.int c2), .val (.int k)] [(.int (2 : Int32)), (.ref b422), (.ref b422)])) rfl (hb hby d5_30) rfl (by decide) (cap := 2) (by decide) (by first | decide | omega) (by first | decide | (dsimp only; omega)) (by first | decide | (dsimp only; omega))
      obtain ⟨b427, g427⟩ : ∃ z, z = h422.size := ⟨_, rfl⟩
      rw [← g427] at A427 st427
      have c428 := (Nat.le_trans Z0 E422.1)
      have n0_429 : n0 ≤ b427 := Nat.le_trans c428 (Nat.le_of_eq g427.symm)
      have c430 := (KP0.ext E422)
      have sz0_431 := Nat.le_trans c430.1 (Nat.le_of_eq g427.symm)
      have ne432 : b422 ≠ b427 := own_ne ltb422 (Nat.le_of_eq g427.symm)
      have V427 : Arv Z h427 b427 k427 .char (2 : Int32) [(.int (0 : Int32)), (.int (0 : Int32))] (.int (0 : Int32)) := (Arv.new A427 (by decide)).pad (pad_rep [] (.int (0 : Int32)) 2)
      have ltb427 := V427.lt
      refine own_step (T' := T427) (g' := (mkF m 32 #[.val (.int c0), .val (.int c1), .val (.int c2), .val (.int k)] [(.ref b427), (.ref b422), (.ref b422)])) st427 ?_
      refine own_step (T' := T427) (g' := (mkF m 33 #[.val (.int c0), .val (.int c1), .val (.int c2), .val (.int k)] [(.ref b427), (.ref b427), (.ref b422), (.ref b422)])) (fun _ q => XS.dup X427.here hx rfl (hb hby d5_32) rfl rfl q) ?_
      refine own_step (T' := T427) (g' := (mkF m 34 #[.val (.int c0), .val (.int c1), .val (.int c2), .val (.int k)] [(.int (0 : Int32)), (.ref b427), (.ref b427), (.ref b422), (.ref b422)])) (fun _ q => XS.iconst X427.here hx rfl (hb hby d5_33) q) ?_
      refine own_step (T' := T427) (g' := (mkF m 36 #[.val (.int c0), .val (.int c1), .val (.int c2), .val (.int k)] [(.int (58 : Int32)), (.int (0 : Int32)), (.ref b427), (.ref b427), (.ref b422), (.ref b422)])) (fun _ q => XS.bipush X427.here hx rfl (hb hby d5_34) q) ?_
      obtain ⟨T433, h433, X433, e433, W433, V433, st433⟩ := own_stC X427 hx hZ e427 V427 (j := (0 : Int32)) ⟨by decide, by decide⟩ (i := 0) rfl (Nat.le_of_ble_eq_true rfl) (g := (mkF m 36 #[.val (.int c0), .val (.int c1), .val (.int c2), .val (.int k)] [(.int (58 : Int32)), (.int (0 : Int32)), (.ref b427), (.ref b427), (.ref b422), (.ref b422)])) rfl rfl (hb hby d5_36)
      replace V433 : Arv Z h433 b427 k427 .char (2 : Int32) [(.int (58 : Int32)), (.int (0 : Int32))] (.int (0 : Int32)) := V433
      have N434 := Fr.snoc X433 N0 n0_429
      refine own_step (T' := T433) (g' := (mkF m 37 #[.val (.int c0), .val (.int c1), .val (.int c2), .val (.int k)] [(.ref b427), (.ref b422), (.ref b422)])) st433 ?_
      refine own_step (T' := T433) (g' := (mkF m 38 #[.val (.int c0), .val (.int c1), .val (.int c2), .val (.int k)] [(.ref b427), (.ref b427), (.ref b422), (.ref b422)])) (fun _ q => XS.dup X433.here hx rfl (hb hby d5_37) rfl rfl q) ?_
      refine own_step (T' := T433) (g' := (mkF m 39 #[.val (.int c0), .val (.int c1), .val (.int c2), .val (.int k)] [(.int (1 : Int32)), (.ref b427), (.ref b427), (.ref b422), (.ref b422)])) (fun _ q => XS.iconst X433.here hx rfl (hb hby d5_38) q) ?_
      refine own_step (T' := T433) (g' := (mkF m 40 #[.val (.int c0), .val (.int c1), .val (.int c2), .val (.int k)] [(.int c0), (.int (1 : Int32)), (.ref b427), (.ref b427), (.ref b422), (.ref b422)])) (fun _ q => XS.iloadN X433.here hx rfl (hb hby d5_39) rfl q) ?_
      obtain ⟨T435, h435, X435, e435, W435, V435, st435⟩ := own_stC X433 hx hZ e433 V433 (j := (1 : Int32)) ⟨by decide, by decide⟩ (i := 1) rfl (Nat.le_of_ble_eq_true rfl) (g := (mkF m 40 #[.val (.int c0), .val (.int c1), .val (.int c2), .val (.int k)] [(.int c0), (.int (1 : Int32)), (.ref b427), (.ref b427), (.ref b422), (.ref b422)])) rfl rfl (hb hby d5_40)
      rw [show (nar .char c0) = c0 from own_nar8 hc0] at V435
      replace V435 : Arv Z h435 b427 k427 .char (2 : Int32) [(.int (58 : Int32)), (.int c0)] (.int (0 : Int32)) := V435
      have N436 := Fr.snoc X435 N434 n0_429
      refine own_step (T' := T435) (g' := (mkF m 41 #[.val (.int c0), .val (.int c1), .val (.int c2), .val (.int k)] [(.ref b427), (.ref b422), (.ref b422)])) st435 ?_
      have c437 := (((A422.ext E427).wr W433).wr W435)
      have c438 := (((F425.ext E427).other W433 (Or.inl ne432)).other W435 (Or.inl ne432))
      have c439 := (((F426.ext E427).other W433 (Or.inl ne432)).other W435 (Or.inl ne432))
      have c440 := (Nat.le_trans (Nat.le_trans (Nat.le_trans c428 E427.1) (Keep.of_wr W433).1) (Keep.of_wr W435).1)
      have c441 := ((((OLD0.ext E422).ext E427).wr W433 n0_429).wr W435 n0_429)
      have hp442 : ∀ c ∈ ([(58 : Int32), c0] : List Int32), ¬ c < 0 ∧ ¬ (255 : Int32) < c := (own_allS ⟨by decide, by decide⟩ (own_allS hc0 own_all0))
      refine own_callC X435 hx hZ hown rfl (w8 hw) (w9 hw) (w10 hw) (by decide) (StrChars.Road.backV (W := 1) hZ (own_ws hw) (kI := 4) (w5 hw) (cs := ([(58 : Int32), c0] : List Int32)) (bs := (([(58 : Int32), c0] : List Int32)).map (fun c => c.toInt8.toInt32)) (n := 2) n0_423 c440 c437 c438 c439 V435 (O2.ext c441.2) P5 rfl rfl (by decide) (by decide) hp442 rfl (by decide) (by decide)) e435  (by first | decide | (dsimp only; omega)) (by first | decide | (dsimp only; omega)) (g := (mkF m 41 #[.val (.int c0), .val (.int c1), .val (.int c2), .val (.int k)] [(.ref b427), (.ref b422), (.ref b422)])) (argsL := [(.ref b427)]) (rest := [(.ref b422)]) rfl (by rw [hml]; rfl) (lenOf pd_15 rfl) rfl rfl (by show 2 * 0 + _ ≤ _; exact Nat.le_of_eq rfl) (hb hby d5_41) ?_
      rintro _ T443 L443 X443 ⟨rfl, N443q, K443, fE443, fC443, t443, kb443, ge443, sz443, nx443, fV443, fA443⟩
      have n0_444 : n0 ≤ t443 := Nat.le_trans c440 sz443
      have c445 := (((c430.ext E427).wr W433 (Or.inr sz0_431)).wr W435 (Or.inr sz0_431))
      have sz0_446 := Nat.le_trans c445.1 sz443
      have c447 := (own_lt (own_lt (own_lt ltb422 E427.1) (Keep.of_wr W433).1) (Keep.of_wr W435).1)
      have ne448 : b422 ≠ t443 := own_ne c447 sz443
      have c449 := (own_lt (own_lt ltb427 (Keep.of_wr W433).1) (Keep.of_wr W435).1)
      have ne450 : b427 ≠ t443 := own_ne c449 sz443
      have ltt443 := fA443.lt
      have hcd451 : StrChars.Road.CodA ([(58 : Int32), c0] : List Int32) 0 (2 : Int32) (((([(58 : Int32), c0] : List Int32)).map (fun c => c.toInt8.toInt32)).map Value.int) := StrChars.Road.codOf (n := 2) rfl (fun c hc => (hp442 c hc).2)
      have N452 := Fr.app N436 N443q
      show own_Fin p e below _ T443 (mkF m 44 #[.val (.int c0), .val (.int c1), .val (.int c2), .val (.int k)] [(.ref b422)])
      have qV453 : (((([(58 : Int32), c0] : List Int32)).map (fun c => c.toInt8.toInt32)).map Value.int : List Value) = (own_bs ((58 : Int32) :: own_tl k c0 c1 c2)) := (by rw [own_tl, if_neg hc388, if_pos hc421]; rfl)
      have V453 : Arv Z T443.heap t443 kb443 .byte (2 : Int32) (own_bs ((58 : Int32) :: own_tl k c0 c1 c2)) (.int 0) := own_fixv qV453 fA443
      have qV454 : ((2 : Int32) : Int32) = (Int32.ofNat (own_bs ((58 : Int32) :: own_tl k c0 c1 c2)).length) := (by rw [own_tl, if_neg hc388, if_pos hc421]; rfl)
      have V454 : Arv Z T443.heap t443 kb443 .byte (Int32.ofNat (own_bs ((58 : Int32) :: own_tl k c0 c1 c2)).length) (own_bs ((58 : Int32) :: own_tl k c0 c1 c2)) (.int 0) := own_fixn qV454 V453
      have c455 := (c445.trans K443 (allS (Or.inr sz0_424) all0))
      exact own_retA X443 hx Bd.returns rfl rfl (hb hby d5_44) hlk ⟨b422, t443, kb443, rfl, N452, c455, sz0_424, sz0_446, fE443, fV443, fC443, V454⟩ (by first | decide | (dsimp only; omega)) (by first | decide | (dsimp only; omega))
    · refine own_step (T' := s₁) (g' := (mkF m 45 #[.val (.int c0), .val (.int c1), .val (.int c2), .val (.int k)] [])) (fun _ q => XS.icmpYes X0.here hx rfl (pc0 := 22) (pc' := 45) rfl (hb hby d5_22) rfl (XT.ii_ne_t hc421) (by decide) (by decide) q) ?_
      refine own_step (T' := s₁) (g' := (mkF m 46 #[.val (.int c0), .val (.int c1), .val (.int c2), .val (.int k)] [(.int k)])) (fun _ q => XS.iloadN X0.here hx rfl (hb hby d5_45) rfl q) ?_
      refine own_step (T' := s₁) (g' := (mkF m 47 #[.val (.int c0), .val (.int c1), .val (.int c2), .val (.int k)] [(.int (2 : Int32)), (.int k)])) (fun _ q => XS.iconst X0.here hx rfl (hb hby d5_46) q) ?_
      by_cases hc456 : k = (2 : Int32)
      · refine own_step (T' := s₁) (g' := (mkF m 50 #[.val (.int c0), .val (.int c1), .val (.int c2), .val (.int k)] [])) (fun _ q => XS.icmpNo X0.here hx rfl (hb hby d5_47) rfl (XT.ii_ne_f hc456) q) ?_
        obtain ⟨T457, h457, X457, e457, E457, A457, D457, -, st457⟩ := newO X0 hx hZ hown (w4 hw) (w5 hw) (w6 hw) e0 (g := (mkF m 50 #[.val (.int c0), .val (.int c1), .val (.int c2), .val (.int k)] [])) rfl (hb hby d5_50) (by first | decide | (dsimp only; omega)) (by first | decide | (dsimp only; omega))
        obtain ⟨b457, g457⟩ : ∃ z, z = h0.size := ⟨_, rfl⟩
        rw [← g457] at A457 D457 st457
        have n0_458 : n0 ≤ b457 := Nat.le_trans Z0 (Nat.le_of_eq g457.symm)
        have sz0_459 := Nat.le_trans KP0.1 (Nat.le_of_eq g457.symm)
        have ltb457 := A457.lt
        have F460 : Fld Z h457 b457 "java/lang/String" "value" "[B" .null := D457 (Or.inr (w20 hw)) (ty := (.array .byte)) (by decide)
        have F461 : Fld Z h457 b457 "java/lang/String" "coder" "B" (.int (0 : Int32)) := D457 (Or.inr (w21 hw)) (ty := .byte) (by decide)
        refine own_step (T' := T457) (g' := (mkF m 53 #[.val (.int c0), .val (.int c1), .val (.int c2), .val (.int k)] [(.ref b457)])) st457 ?_
        refine own_step (T' := T457) (g' := (mkF m 54 #[.val (.int c0), .val (.int c1), .val (.int c2), .val (.int k)] [(.ref b457), (.ref b457)])) (fun _ q => XS.dup X457.here hx rfl (hb hby d5_53) rfl rfl q) ?_
        refine own_step (T' := T457) (g' := (mkF m 55 #[.val (.int c0), .val (.int c1), .val (.int c2), .val (.int k)] [(.int (3 : Int32)), (.ref b457), (.ref b457)])) (fun _ q => XS.iconst X457.here hx rfl (hb hby d5_54) q) ?_
        obtain ⟨T462, h462, k462, X462, e462, E462, A462, st462⟩ := newP X457 hx hZ (aty := .char) (w7 hw) e457 (g := (mkF m 55 #[.val (.int c0), .val (.int c1), .val (.int c2), .val (.int k)] [(.int (3 : Int32)), (.ref b457), (.ref b457)])) rfl (hb hby d5_55) rfl (by decide) (cap := 3) (by decide) (by first | decide | omega) (by first | decide | (dsimp only; omega)) (by first | decide | (dsimp only; omega))
        obtain ⟨b462, g462⟩ : ∃ z, z = h457.size := ⟨_, rfl⟩
        rw [← g462] at A462 st462
        have c463 := (Nat.le_trans Z0 E457.1)
        have n0_464 : n0 ≤ b462 := Nat.le_trans c463 (Nat.le_of_eq g462.symm)
        have c465 := (KP0.ext E457)
        have sz0_466 := Nat.le_trans c465.1 (Nat.le_of_eq g462.symm)
        have ne467 : b457 ≠ b462 := own_ne ltb457 (Nat.le_of_eq g462.symm)
        have V462 : Arv Z h462 b462 k462 .char (3 : Int32) [(.int (0 : Int32)), (.int (0 : Int32)), (.int (0 : Int32))] (.int (0 : Int32)) := (Arv.new A462 (by decide)).pad (pad_rep [] (.int (0 : Int32)) 3)
        have ltb462 := V462.lt
        refine own_step (T' := T462) (g' := (mkF m 57 #[.val (.int c0), .val (.int c1), .val (.int c2), .val (.int k)] [(.ref b462), (.ref b457), (.ref b457)])) st462 ?_
        refine own_step (T' := T462) (g' := (mkF m 58 #[.val (.int c0), .val (.int c1), .val (.int c2), .val (.int k)] [(.ref b462), (.ref b462), (.ref b457), (.ref b457)])) (fun _ q => XS.dup X462.here hx rfl (hb hby d5_57) rfl rfl q) ?_
        refine own_step (T' := T462) (g' := (mkF m 59 #[.val (.int c0), .val (.int c1), .val (.int c2), .val (.int k)] [(.int (0 : Int32)), (.ref b462), (.ref b462), (.ref b457), (.ref b457)])) (fun _ q => XS.iconst X462.here hx rfl (hb hby d5_58) q) ?_
        refine own_step (T' := T462) (g' := (mkF m 61 #[.val (.int c0), .val (.int c1), .val (.int c2), .val (.int k)] [(.int (58 : Int32)), (.int (0 : Int32)), (.ref b462), (.ref b462), (.ref b457), (.ref b457)])) (fun _ q => XS.bipush X462.here hx rfl (hb hby d5_59) q) ?_
        obtain ⟨T468, h468, X468, e468, W468, V468, st468⟩ := own_stC X462 hx hZ e462 V462 (j := (0 : Int32)) ⟨by decide, by decide⟩ (i := 0) rfl (Nat.le_of_ble_eq_true rfl) (g := (mkF m 61 #[.val (.int c0), .val (.int c1), .val (.int c2), .val (.int k)] [(.int (58 : Int32)), (.int (0 : Int32)), (.ref b462), (.ref b462), (.ref b457), (.ref b457)])) rfl rfl (hb hby d5_61)
        replace V468 : Arv Z h468 b462 k462 .char (3 : Int32) [(.int (58 : Int32)), (.int (0 : Int32)), (.int (0 : Int32))] (.int (0 : Int32)) := V468
        have N469 := Fr.snoc X468 N0 n0_464
        refine own_step (T' := T468) (g' := (mkF m 62 #[.val (.int c0), .val (.int c1), .val (.int c2), .val (.int k)] [(.ref b462), (.ref b457), (.ref b457)])) st468 ?_
        refine own_step (T' := T468) (g' := (mkF m 63 #[.val (.int c0), .val (.int c1), .val (.int c2), .val (.int k)] [(.ref b462), (.ref b462), (.ref b457), (.ref b457)])) (fun _ q => XS.dup X468.here hx rfl (hb hby d5_62) rfl rfl q) ?_
        refine own_step (T' := T468) (g' := (mkF m 64 #[.val (.int c0), .val (.int c1), .val (.int c2), .val (.int k)] [(.int (1 : Int32)), (.ref b462), (.ref b462), (.ref b457), (.ref b457)])) (fun _ q => XS.iconst X468.here hx rfl (hb hby d5_63) q) ?_
        refine own_step (T' := T468) (g' := (mkF m 65 #[.val (.int c0), .val (.int c1), .val (.int c2), .val (.int k)] [(.int c0), (.int (1 : Int32)), (.ref b462), (.ref b462), (.ref b457), (.ref b457)])) (fun _ q => XS.iloadN X468.here hx rfl (hb hby d5_64) rfl q) ?_
        obtain ⟨T470, h470, X470, e470, W470, V470, st470⟩ := own_stC X468 hx hZ e468 V468 (j := (1 : Int32)) ⟨by decide, by decide⟩ (i := 1) rfl (Nat.le_of_ble_eq_true rfl) (g := (mkF m 65 #[.val (.int c0), .val (.int c1), .val (.int c2), .val (.int k)] [(.int c0), (.int (1 : Int32)), (.ref b462), (.ref b462), (.ref b457), (.ref b457)])) rfl rfl (hb hby d5_65)
        rw [show (nar .char c0) = c0 from own_nar8 hc0] at V470
        replace V470 : Arv Z h470 b462 k462 .char (3 : Int32) [(.int (58 : Int32)), (.int c0), (.int (0 : Int32))] (.int (0 : Int32)) := V470
        have N471 := Fr.snoc X470 N469 n0_464
        refine own_step (T' := T470) (g' := (mkF m 66 #[.val (.int c0), .val (.int c1), .val (.int c2), .val (.int k)] [(.ref b462), (.ref b457), (.ref b457)])) st470 ?_
        refine own_step (T' := T470) (g' := (mkF m 67 #[.val (.int c0), .val (.int c1), .val (.int c2), .val (.int k)] [(.ref b462), (.ref b462), (.ref b457), (.ref b457)])) (fun _ q => XS.dup X470.here hx rfl (hb hby d5_66) rfl rfl q) ?_
        refine own_step (T' := T470) (g' := (mkF m 68 #[.val (.int c0), .val (.int c1), .val (.int c2), .val (.int k)] [(.int (2 : Int32)), (.ref b462), (.ref b462), (.ref b457), (.ref b457)])) (fun _ q => XS.iconst X470.here hx rfl (hb hby d5_67) q) ?_
        refine own_step (T' := T470) (g' := (mkF m 69 #[.val (.int c0), .val (.int c1), .val (.int c2), .val (.int k)] [(.int c1), (.int (2 : Int32)), (.ref b462), (.ref b462), (.ref b457), (.ref b457)])) (fun _ q => XS.iloadN X470.here hx rfl (hb hby d5_68) rfl q) ?_
        obtain ⟨T472, h472, X472, e472, W472, V472, st472⟩ := own_stC X470 hx hZ e470 V470 (j := (2 : Int32)) ⟨by decide, by decide⟩ (i := 2) rfl (Nat.le_of_ble_eq_true rfl) (g := (mkF m 69 #[.val (.int c0), .val (.int c1), .val (.int c2), .val (.int k)] [(.int c1), (.int (2 : Int32)), (.ref b462), (.ref b462), (.ref b457), (.ref b457)])) rfl rfl (hb hby d5_69)
        rw [show (nar .char c1) = c1 from own_nar8 hc1] at V472
        replace V472 : Arv Z h472 b462 k462 .char (3 : Int32) [(.int (58 : Int32)), (.int c0), (.int c1)] (.int (0 : Int32)) := V472
        have N473 := Fr.snoc X472 N471 n0_464
        refine own_step (T' := T472) (g' := (mkF m 70 #[.val (.int c0), .val (.int c1), .val (.int c2), .val (.int k)] [(.ref b462), (.ref b457), (.ref b457)])) st472 ?_
        have c474 := ((((A457.ext E462).wr W468).wr W470).wr W472)
        have c475 := ((((F460.ext E462).other W468 (Or.inl ne467)).other W470 (Or.inl ne467)).other W472 (Or.inl ne467))
        have c476 := ((((F461.ext E462).other W468 (Or.inl ne467)).other W470 (Or.inl ne467)).other W472 (Or.inl ne467))
        have c477 := (Nat.le_trans (Nat.le_trans (Nat.le_trans (Nat.le_trans c463 E462.1) (Keep.of_wr W468).1) (Keep.of_wr W470).1) (Keep.of_wr W472).1)
        have c478 := (((((OLD0.ext E457).ext E462).wr W468 n0_464).wr W470 n0_464).wr W472 n0_464)
        have hp479 : ∀ c ∈ ([(58 : Int32), c0, c1] : List Int32), ¬ c < 0 ∧ ¬ (255 : Int32) < c := (own_allS ⟨by decide, by decide⟩ (own_allS hc0 (own_allS hc1 own_all0)))
        refine own_callC X472 hx hZ hown rfl (w8 hw) (w9 hw) (w10 hw) (by decide) (StrChars.Road.backV (W := 1) hZ (own_ws hw) (kI := 4) (w5 hw) (cs := ([(58 : Int32), c0, c1] : List Int32)) (bs := (([(58 : Int32), c0, c1] : List Int32)).map (fun c => c.toInt8.toInt32)) (n := 3) n0_458 c477 c474 c475 c476 V472 (O2.ext c478.2) P5 rfl rfl (by decide) (by decide) hp479 rfl (by decide) (by decide)) e472  (by first | decide | (dsimp only; omega)) (by first | decide | (dsimp only; omega)) (g := (mkF m 70 #[.val (.int c0), .val (.int c1), .val (.int c2), .val (.int k)] [(.ref b462), (.ref b457), (.ref b457)])) (argsL := [(.ref b462)]) (rest := [(.ref b457)]) rfl (by rw [hml]; rfl) (lenOf pd_15 rfl) rfl rfl (by show 2 * 0 + _ ≤ _; exact Nat.le_of_eq rfl) (hb hby d5_70) ?_
        rintro _ T480 L480 X480 ⟨rfl, N480q, K480, fE480, fC480, t480, kb480, ge480, sz480, nx480, fV480, fA480⟩
        have n0_481 : n0 ≤ t480 := Nat.le_trans c477 sz480
        have c482 := ((((c465.ext E462).wr W468 (Or.inr sz0_466)).wr W470 (Or.inr sz0_466)).wr W472 (Or.inr sz0_466))
        have sz0_483 := Nat.le_trans c482.1 sz480
        have c484 := (own_lt (own_lt (own_lt (own_lt ltb457 E462.1) (Keep.of_wr W468).1) (Keep.of_wr W470).1) (Keep.of_wr W472).1)
        have ne485 : b457 ≠ t480 := own_ne c484 sz480
        have c486 := (own_lt (own_lt (own_lt ltb462 (Keep.of_wr W468).1) (Keep.of_wr W470).1) (Keep.of_wr W472).1)
        have ne487 : b462 ≠ t480 := own_ne c486 sz480
        have ltt480 := fA480.lt
        have hcd488 : StrChars.Road.CodA ([(58 : Int32), c0, c1] : List Int32) 0 (3 : Int32) (((([(58 : Int32), c0, c1] : List Int32)).map (fun c => c.toInt8.toInt32)).map Value.int) := StrChars.Road.codOf (n := 3) rfl (fun c hc => (hp479 c hc).2)
        have N489 := Fr.app N473 N480q
        show own_Fin p e below _ T480 (mkF m 73 #[.val (.int c0), .val (.int c1), .val (.int c2), .val (.int k)] [(.ref b457)])
        have qV490 : (((([(58 : Int32), c0, c1] : List Int32)).map (fun c => c.toInt8.toInt32)).map Value.int : List Value) = (own_bs ((58 : Int32) :: own_tl k c0 c1 c2)) := (by rw [own_tl, if_neg hc388, if_neg hc421, if_pos hc456]; rfl)
        have V490 : Arv Z T480.heap t480 kb480 .byte (3 : Int32) (own_bs ((58 : Int32) :: own_tl k c0 c1 c2)) (.int 0) := own_fixv qV490 fA480
        have qV491 : ((3 : Int32) : Int32) = (Int32.ofNat (own_bs ((58 : Int32) :: own_tl k c0 c1 c2)).length) := (by rw [own_tl, if_neg hc388, if_neg hc421, if_pos hc456]; rfl)
        have V491 : Arv Z T480.heap t480 kb480 .byte (Int32.ofNat (own_bs ((58 : Int32) :: own_tl k c0 c1 c2)).length) (own_bs ((58 : Int32) :: own_tl k c0 c1 c2)) (.int 0) := own_fixn qV491 V490
        have c492 := (c482.trans K480 (allS (Or.inr sz0_459) all0))
        exact own_retA X480 hx Bd.returns rfl rfl (hb hby d5_73) hlk ⟨b457, t480, kb480, rfl, N489, c492, sz0_459, sz0_483, fE480, fV480, fC480, V491⟩ (by first | decide | (dsimp only; omega)) (by first | decide | (dsimp only; omega))
      · refine own_step (T' := s₁) (g' := (mkF m 74 #[.val (.int c0), .val (.int c1), .val (.int c2), .val (.int k)] [])) (fun _ q => XS.icmpYes X0.here hx rfl (pc0 := 47) (pc' := 74) rfl (hb hby d5_47) rfl (XT.ii_ne_t hc456) (by decide) (by decide) q) ?_
        obtain ⟨T493, h493, X493, e493, E493, A493, D493, -, st493⟩ := newO X0 hx hZ hown (w4 hw) (w5 hw) (w6 hw) e0 (g := (mkF m 74 #[.val (.int c0), .val (.int c1), .val (.int c2), .val (.int k)] [])) rfl (hb hby d5_74) (by first | decide | (dsimp only; omega)) (by first | decide | (dsimp only; omega))
        obtain ⟨b493, g493⟩ : ∃ z, z = h0.size := ⟨_, rfl⟩
        rw [← g493] at A493 D493 st493
        have n0_494 : n0 ≤ b493 := Nat.le_trans Z0 (Nat.le_of_eq g493.symm)
        have sz0_495 := Nat.le_trans KP0.1 (Nat.le_of_eq g493.symm)
        have ltb493 := A493.lt
        have F496 : Fld Z h493 b493 "java/lang/String" "value" "[B" .null := D493 (Or.inr (w20 hw)) (ty := (.array .byte)) (by decide)
        have F497 : Fld Z h493 b493 "java/lang/String" "coder" "B" (.int (0 : Int32)) := D493 (Or.inr (w21 hw)) (ty := .byte) (by decide)
        refine own_step (T' := T493) (g' := (mkF m 77 #[.val (.int c0), .val (.int c1), .val (.int c2), .val (.int k)] [(.ref b493)])) st493 ?_
        refine own_step (T' := T493) (g' := (mkF m 78 #[.val (.int c0), .val (.int c1), .val (.int c2), .val (.int k)] [(.ref b493), (.ref b493)])) (fun _ q => XS.dup X493.here hx rfl (hb hby d5_77) rfl rfl q) ?_
        refine own_step (T' := T493) (g' := (mkF m 79 #[.val (.int c0), .val (.int c1), .val (.int c2), .val (.int k)] [(.int (4 : Int32)), (.ref b493), (.ref b493)])) (fun _ q => XS.iconst X493.here hx rfl (hb hby d5_78) q) ?_
        obtain ⟨T498, h498, k498, X498, e498, E498, A498, st498⟩ := newP X493 hx hZ (aty := .char) (w7 hw) e493 (g := (mkF m 79 #[.val (.int c0), .val (.int c1), .val (.int c2), .val (.int k)] [(.int (4 : Int32)), (.ref b493), (.ref b493)])) rfl (hb hby d5_79) rfl (by decide) (cap := 4) (by decide) (by first | decide | omega) (by first | decide | (dsimp only; omega)) (by first | decide | (dsimp only; omega))
        obtain ⟨b498, g498⟩ : ∃ z, z = h493.size := ⟨_, rfl⟩
        rw [← g498] at A498 st498
        have c499 := (Nat.le_trans Z0 E493.1)
        have n0_500 : n0 ≤ b498 := Nat.le_trans c499 (Nat.le_of_eq g498.symm)
        have c501 := (KP0.ext E493)
        have sz0_502 := Nat.le_trans c501.1 (Nat.le_of_eq g498.symm)
        have ne503 : b493 ≠ b498 := own_ne ltb493 (Nat.le_of_eq g498.symm)
        have V498 : Arv Z h498 b498 k498 .char (4 : Int32) [(.int (0 : Int32)), (.int (0 : Int32)), (.int (0 : Int32)), (.int (0 : Int32))] (.int (0 : Int32)) := (Arv.new A498 (by decide)).pad (pad_rep [] (.int (0 : Int32)) 4)
        have ltb498 := V498.lt
        refine own_step (T' := T498) (g' := (mkF m 81 #[.val (.int c0), .val (.int c1), .val (.int c2), .val (.int k)] [(.ref b498), (.ref b493), (.ref b493)])) st498 ?_
        refine own_step (T' := T498) (g' := (mkF m 82 #[.val (.int c0), .val (.int c1), .val (.int c2), .val (.int k)] [(.ref b498), (.ref b498), (.ref b493), (.ref b493)])) (fun _ q => XS.dup X498.here hx rfl (hb hby d5_81) rfl rfl q) ?_
        refine own_step (T' := T498) (g' := (mkF m 83 #[.val (.int c0), .val (.int c1), .val (.int c2), .val (.int k)] [(.int (0 : Int32)), (.ref b498), (.ref b498), (.ref b493), (.ref b493)])) (fun _ q => XS.iconst X498.here hx rfl (hb hby d5_82) q) ?_
        refine own_step (T' := T498) (g' := (mkF m 85 #[.val (.int c0), .val (.int c1), .val (.int c2), .val (.int k)] [(.int (58 : Int32)), (.int (0 : Int32)), (.ref b498), (.ref b498), (.ref b493), (.ref b493)])) (fun _ q => XS.bipush X498.here hx rfl (hb hby d5_83) q) ?_
        obtain ⟨T504, h504, X504, e504, W504, V504, st504⟩ := own_stC X498 hx hZ e498 V498 (j := (0 : Int32)) ⟨by decide, by decide⟩ (i := 0) rfl (Nat.le_of_ble_eq_true rfl) (g := (mkF m 85 #[.val (.int c0), .val (.int c1), .val (.int c2), .val (.int k)] [(.int (58 : Int32)), (.int (0 : Int32)), (.ref b498), (.ref b498), (.ref b493), (.ref b493)])) rfl rfl (hb hby d5_85)
        replace V504 : Arv Z h504 b498 k498 .char (4 : Int32) [(.int (58 : Int32)), (.int (0 : Int32)), (.int (0 : Int32)), (.int (0 : Int32))] (.int (0 : Int32)) := V504
        have N505 := Fr.snoc X504 N0 n0_500
        refine own_step (T' := T504) (g' := (mkF m 86 #[.val (.int c0), .val (.int c1), .val (.int c2), .val (.int k)] [(.ref b498), (.ref b493), (.ref b493)])) st504 ?_
        refine own_step (T' := T504) (g' := (mkF m 87 #[.val (.int c0), .val (.int c1), .val (.int c2), .val (.int k)] [(.ref b498), (.ref b498), (.ref b493), (.ref b493)])) (fun _ q => XS.dup X504.here hx rfl (hb hby d5_86) rfl rfl q) ?_
        refine own_step (T' := T504) (g' := (mkF m 88 #[.val (.int c0), .val (.int c1), .val (.int c2), .val (.int k)] [(.int (1 : Int32)), (.ref b498), (.ref b498), (.ref b493), (.ref b493)])) (fun _ q => XS.iconst X504.here hx rfl (hb hby d5_87) q) ?_
        refine own_step (T' := T504) (g' := (mkF m 89 #[.val (.int c0), .val (.int c1), .val (.int c2), .val (.int k)] [(.int c0), (.int (1 : Int32)), (.ref b498), (.ref b498), (.ref b493), (.ref b493)])) (fun _ q => XS.iloadN X504.here hx rfl (hb hby d5_88) rfl q) ?_
        obtain ⟨T506, h506, X506, e506, W506, V506, st506⟩ := own_stC X504 hx hZ e504 V504 (j := (1 : Int32)) ⟨by decide, by decide⟩ (i := 1) rfl (Nat.le_of_ble_eq_true rfl) (g := (mkF m 89 #[.val (.int c0), .val (.int c1), .val (.int c2), .val (.int k)] [(.int c0), (.int (1 : Int32)), (.ref b498), (.ref b498), (.ref b493), (.ref b493)])) rfl rfl (hb hby d5_89)
        rw [show (nar .char c0) = c0 from own_nar8 hc0] at V506
        replace V506 : Arv Z h506 b498 k498 .char (4 : Int32) [(.int (58 : Int32)), (.int c0), (.int (0 : Int32)), (.int (0 : Int32))] (.int (0 : Int32)) := V506
        have N507 := Fr.snoc X506 N505 n0_500
        refine own_step (T' := T506) (g' := (mkF m 90 #[.val (.int c0), .val (.int c1), .val (.int c2), .val (.int k)] [(.ref b498), (.ref b493), (.ref b493)])) st506 ?_
        refine own_step (T' := T506) (g' := (mkF m 91 #[.val (.int c0), .val (.int c1), .val (.int c2), .val (.int k)] [(.ref b498), (.ref b498), (.ref b493), (.ref b493)])) (fun _ q => XS.dup X506.here hx rfl (hb hby d5_90) rfl rfl q) ?_
        refine own_step (T' := T506) (g' := (mkF m 92 #[.val (.int c0), .val (.int c1), .val (.int c2), .val (.int k)] [(.int (2 : Int32)), (.ref b498), (.ref b498), (.ref b493), (.ref b493)])) (fun _ q => XS.iconst X506.here hx rfl (hb hby d5_91) q) ?_
        refine own_step (T' := T506) (g' := (mkF m 93 #[.val (.int c0), .val (.int c1), .val (.int c2), .val (.int k)] [(.int c1), (.int (2 : Int32)), (.ref b498), (.ref b498), (.ref b493), (.ref b493)])) (fun _ q => XS.iloadN X506.here hx rfl (hb hby d5_92) rfl q) ?_
        obtain ⟨T508, h508, X508, e508, W508, V508, st508⟩ := own_stC X506 hx hZ e506 V506 (j := (2 : Int32)) ⟨by decide, by decide⟩ (i := 2) rfl (Nat.le_of_ble_eq_true rfl) (g := (mkF m 93 #[.val (.int c0), .val (.int c1), .val (.int c2), .val (.int k)] [(.int c1), (.int (2 : Int32)), (.ref b498), (.ref b498), (.ref b493), (.ref b493)])) rfl rfl (hb hby d5_93)
        rw [show (nar .char c1) = c1 from own_nar8 hc1] at V508
        replace V508 : Arv Z h508 b498 k498 .char (4 : Int32) [(.int (58 : Int32)), (.int c0), (.int c1), (.int (0 : Int32))] (.int (0 : Int32)) := V508
        have N509 := Fr.snoc X508 N507 n0_500
        refine own_step (T' := T508) (g' := (mkF m 94 #[.val (.int c0), .val (.int c1), .val (.int c2), .val (.int k)] [(.ref b498), (.ref b493), (.ref b493)])) st508 ?_
        refine own_step (T' := T508) (g' := (mkF m 95 #[.val (.int c0), .val (.int c1), .val (.int c2), .val (.int k)] [(.ref b498), (.ref b498), (.ref b493), (.ref b493)])) (fun _ q => XS.dup X508.here hx rfl (hb hby d5_94) rfl rfl q) ?_
        refine own_step (T' := T508) (g' := (mkF m 96 #[.val (.int c0), .val (.int c1), .val (.int c2), .val (.int k)] [(.int (3 : Int32)), (.ref b498), (.ref b498), (.ref b493), (.ref b493)])) (fun _ q => XS.iconst X508.here hx rfl (hb hby d5_95) q) ?_
        refine own_step (T' := T508) (g' := (mkF m 97 #[.val (.int c0), .val (.int c1), .val (.int c2), .val (.int k)] [(.int c2), (.int (3 : Int32)), (.ref b498), (.ref b498), (.ref b493), (.ref b493)])) (fun _ q => XS.iloadN X508.here hx rfl (hb hby d5_96) rfl q) ?_
        obtain ⟨T510, h510, X510, e510, W510, V510, st510⟩ := own_stC X508 hx hZ e508 V508 (j := (3 : Int32)) ⟨by decide, by decide⟩ (i := 3) rfl (Nat.le_of_ble_eq_true rfl) (g := (mkF m 97 #[.val (.int c0), .val (.int c1), .val (.int c2), .val (.int k)] [(.int c2), (.int (3 : Int32)), (.ref b498), (.ref b498), (.ref b493), (.ref b493)])) rfl rfl (hb hby d5_97)
        rw [show (nar .char c2) = c2 from own_nar8 hc2] at V510
        replace V510 : Arv Z h510 b498 k498 .char (4 : Int32) [(.int (58 : Int32)), (.int c0), (.int c1), (.int c2)] (.int (0 : Int32)) := V510
        have N511 := Fr.snoc X510 N509 n0_500
        refine own_step (T' := T510) (g' := (mkF m 98 #[.val (.int c0), .val (.int c1), .val (.int c2), .val (.int k)] [(.ref b498), (.ref b493), (.ref b493)])) st510 ?_
        have c512 := (((((A493.ext E498).wr W504).wr W506).wr W508).wr W510)
        have c513 := (((((F496.ext E498).other W504 (Or.inl ne503)).other W506 (Or.inl ne503)).other W508 (Or.inl ne503)).other W510 (Or.inl ne503))
        have c514 := (((((F497.ext E498).other W504 (Or.inl ne503)).other W506 (Or.inl ne503)).other W508 (Or.inl ne503)).other W510 (Or.inl ne503))
        have c515 := (Nat.le_trans (Nat.le_trans (Nat.le_trans (Nat.le_trans (Nat.le_trans c499 E498.1) (Keep.of_wr W504).1) (Keep.of_wr W506).1) (Keep.of_wr W508).1) (Keep.of_wr W510).1)
        have c516 := ((((((OLD0.ext E493).ext E498).wr W504 n0_500).wr W506 n0_500).wr W508 n0_500).wr W510 n0_500)
        have hp517 : ∀ c ∈ ([(58 : Int32), c0, c1, c2] : List Int32), ¬ c < 0 ∧ ¬ (255 : Int32) < c := (own_allS ⟨by decide, by decide⟩ (own_allS hc0 (own_allS hc1 (own_allS hc2 own_all0))))
        refine own_callC X510 hx hZ hown rfl (w8 hw) (w9 hw) (w10 hw) (by decide) (StrChars.Road.backV (W := 1) hZ (own_ws hw) (kI := 4) (w5 hw) (cs := ([(58 : Int32), c0, c1, c2] : List Int32)) (bs := (([(58 : Int32), c0, c1, c2] : List Int32)).map (fun c => c.toInt8.toInt32)) (n := 4) n0_494 c515 c512 c513 c514 V510 (O2.ext c516.2) P5 rfl rfl (by decide) (by decide) hp517 rfl (by decide) (by decide)) e510  (by first | decide | (dsimp only; omega)) (by first | decide | (dsimp only; omega)) (g := (mkF m 98 #[.val (.int c0), .val (.int c1), .val (.int c2), .val (.int k)] [(.ref b498), (.ref b493), (.ref b493)])) (argsL := [(.ref b498)]) (rest := [(.ref b493)]) rfl (by rw [hml]; rfl) (lenOf pd_15 rfl) rfl rfl (by show 2 * 0 + _ ≤ _; exact Nat.le_of_eq rfl) (hb hby d5_98) ?_
        rintro _ T518 L518 X518 ⟨rfl, N518q, K518, fE518, fC518, t518, kb518, ge518, sz518, nx518, fV518, fA518⟩
        have n0_519 : n0 ≤ t518 := Nat.le_trans c515 sz518
        have c520 := (((((c501.ext E498).wr W504 (Or.inr sz0_502)).wr W506 (Or.inr sz0_502)).wr W508 (Or.inr sz0_502)).wr W510 (Or.inr sz0_502))
        have sz0_521 := Nat.le_trans c520.1 sz518
        have c522 := (own_lt (own_lt (own_lt (own_lt (own_lt ltb493 E498.1) (Keep.of_wr W504).1) (Keep.of_wr W506).1) (Keep.of_wr W508).1) (Keep.of_wr W510).1)
        have ne523 : b493 ≠ t518 := own_ne c522 sz518
        have c524 := (own_lt (own_lt (own_lt (own_lt ltb498 (Keep.of_wr W504).1) (Keep.of_wr W506).1) (Keep.of_wr W508).1) (Keep.of_wr W510).1)
        have ne525 : b498 ≠ t518 := own_ne c524 sz518
        have ltt518 := fA518.lt
        have hcd526 : StrChars.Road.CodA ([(58 : Int32), c0, c1, c2] : List Int32) 0 (4 : Int32) (((([(58 : Int32), c0, c1, c2] : List Int32)).map (fun c => c.toInt8.toInt32)).map Value.int) := StrChars.Road.codOf (n := 4) rfl (fun c hc => (hp517 c hc).2)
        have N527 := Fr.app N511 N518q
        show own_Fin p e below _ T518 (mkF m 101 #[.val (.int c0), .val (.int c1), .val (.int c2), .val (.int k)] [(.ref b493)])
        have qV528 : (((([(58 : Int32), c0, c1, c2] : List Int32)).map (fun c => c.toInt8.toInt32)).map Value.int : List Value) = (own_bs ((58 : Int32) :: own_tl k c0 c1 c2)) := (by rw [own_tl, if_neg hc388, if_neg hc421, if_neg hc456]; rfl)
        have V528 : Arv Z T518.heap t518 kb518 .byte (4 : Int32) (own_bs ((58 : Int32) :: own_tl k c0 c1 c2)) (.int 0) := own_fixv qV528 fA518
        have qV529 : ((4 : Int32) : Int32) = (Int32.ofNat (own_bs ((58 : Int32) :: own_tl k c0 c1 c2)).length) := (by rw [own_tl, if_neg hc388, if_neg hc421, if_neg hc456]; rfl)
        have V529 : Arv Z T518.heap t518 kb518 .byte (Int32.ofNat (own_bs ((58 : Int32) :: own_tl k c0 c1 c2)).length) (own_bs ((58 : Int32) :: own_tl k c0 c1 c2)) (.int 0) := own_fixn qV529 V528
        have c530 := (c520.trans K518 (allS (Or.inr sz0_495) all0))
        exact own_retA X518 hx Bd.returns rfl rfl (hb hby d5_101) hlk ⟨b493, t518, kb518, rfl, N527, c530, sz0_495, sz0_521, fE518, fV518, fC518, V529⟩ (by first | decide | (dsimp only; omega)) (by first | decide | (dsimp only; omega))
theorem pn_5 : plainName "com/example/kvasir/kvasir/jpql/Position" = true := by first | (simp [plainName, overriddenIn]; done) | decide +kernel
theorem d9_0 : decode prog_61_method_1_code 0 = .ok (.aload_n 0, 1) := by decide +kernel
theorem d9_1 : decode prog_61_method_1_code 1 = .ok (.invokespecial 1, 3) := by decide +kernel
theorem d9_4 : decode prog_61_method_1_code 4 = .ok (.aload_n 0, 1) := by decide +kernel
theorem d9_5 : decode prog_61_method_1_code 5 = .ok (.iload_n 1, 1) := by decide +kernel
theorem d9_6 : decode prog_61_method_1_code 6 = .ok (.putfield 7, 3) := by decide +kernel
theorem d9_9 : decode prog_61_method_1_code 9 = .ok (.aload_n 0, 1) := by decide +kernel
theorem d9_10 : decode prog_61_method_1_code 10 = .ok (.iload_n 2, 1) := by decide +kernel
theorem d9_11 : decode prog_61_method_1_code 11 = .ok (.putfield 13, 3) := by decide +kernel
theorem d9_14 : decode prog_61_method_1_code 14 = .ok (.return_, 1) := by decide +kernel
def Q_own_poi (Z : State) (a : Addr) (i : Int32) (j : Int32) (h0 : Heap) (n0 : Nat) (v : Option Value) (h : Heap) (L : List Loc) : Prop := v = none ∧ Fr n0 L ∧ Keep h0 h [a] ∧ Exa Z h a "com/example/kvasir/kvasir/jpql/Position"
set_option maxRecDepth 65536 in
set_option maxHeartbeats 40000000 in
theorem own_poi (l : Launch) (Z : State) (a0 : Array Value) (hw : ∀ d ∈ tables_1, d.before a0 Z = true) (ws : List Jvm.Cond) (a : Addr) (i : Int32) (j : Int32) (h0 : Heap) (n0 : Nat) (Z0 : n0 ≤ h0.size) (E_a : Exa Z h0 a "com/example/kvasir/kvasir/jpql/Position") (ge_a : n0 ≤ a) (F_line_a : Fld Z h0 a "com/example/kvasir/kvasir/jpql/Position" "line" "I" (.int (0 : Int32))) (F_column_a : Fld Z h0 a "com/example/kvasir/kvasir/jpql/Position" "column" "I" (.int (0 : Int32))) :
    MetFree l (⟨"com/example/kvasir/kvasir/jpql/Position", "<init>", "(II)V"⟩ : MethodName) (head1 (Jvm.Cond.code (⟨"com/example/kvasir/kvasir/jpql/Position", "<init>", "(II)V"⟩ : MethodName) prog_61_method_1_code 3 none :: ws) ({ frames := 1, cells := 0, slots := 0, locals := 12 } : Room)) (fun ag U => ag = #[(.ref a), (.int i), (.int j)] ∧ Z.Warmed39 U.vm ∧ U.heap = h0) (fun _ _ _ _ _ => True) (fun _ U o U' => ∃ v L, o = .returned v ∧ Q_own_poi Z a i j h0 n0 v U'.heap L ∧ FrameEnd U o U' L ({ frames := 1, cells := 0, slots := 0, locals := 12 } : Room).cells ({ frames := 1, cells := 0, slots := 0, locals := 12 } : Room).slots) := by
  refine own_body (plainFor_of_name pn_5) ?_
  intro p e s m below meth c s₁ Bd hml hZ e0
  have hx := Bd.exec
  have hby := Bd.bytes
  have hlk : meth.locks = false := BodyLoose.notSynchronized Bd
  have hown : s.vm.findClass "com/example/kvasir/kvasir/jpql/Position" = some m.cls := findClass_of_methodNamed Bd.named
  have hnm := (name_of_methodNamed Bd.named Bd.method).1
  have X0 : Stand p l e ({ frames := 1, cells := 0, slots := 0, locals := 12 } : Room) s m #[(.ref a), (.int i), (.int j)] below meth c s₁ [] 0 0 := Stand.of_body Bd
  have N0 := Fr.nil n0
  have KP0 : Keep h0 h0 [a] := Keep.refl h0 [a]
  have lt_a := E_a.lt
  refine own_cast (g' := (mkF m 0 #[.val (.ref a), .val (.int i), .val (.int j)] [])) (by first | (simp [entryFrame, mkF, argsToLocals, own_cat_int, own_cat_long, own_cat_ref, own_cat_null]; done) | rfl) ?_
  refine own_step (T' := s₁) (g' := (mkF m 1 #[.val (.ref a), .val (.int i), .val (.int j)] [(.ref a)])) (fun _ q => XS.aloadN X0.here hx rfl (hb hby d9_0) rfl rfl q) ?_
  obtain ⟨T531, X531, e531, st531⟩ := initO X0 hx hZ hown (w46 hw) (w16 hw) (w17 hw) e0 (g := (mkF m 1 #[.val (.ref a), .val (.int i), .val (.int j)] [(.ref a)])) rfl (by rw [hml]; rfl) rfl (hb hby d9_1) (Nat.le_of_ble_eq_true rfl) (W := 0) (by show 2 * 0 + _ ≤ _; exact Nat.le_of_eq rfl) (Nat.le_of_ble_eq_true rfl)
  refine own_step (T' := T531) (g' := (mkF m 4 #[.val (.ref a), .val (.int i), .val (.int j)] [])) st531 ?_
  refine own_step (T' := T531) (g' := (mkF m 5 #[.val (.ref a), .val (.int i), .val (.int j)] [(.ref a)])) (fun _ q => XS.aloadN X531.here hx rfl (hb hby d9_4) rfl rfl q) ?_
  refine own_step (T' := T531) (g' := (mkF m 6 #[.val (.ref a), .val (.int i), .val (.int j)] [(.int i), (.ref a)])) (fun _ q => XS.iloadN X531.here hx rfl (hb hby d9_5) rfl q) ?_
  obtain ⟨T532, h532, X532, e532, W532, st532⟩ := putF X531 hx hZ hown (host := "") (Or.inl (w47 hw)) Via.refl e531 F_line_a E_a (Or.inr ⟨(w48 hw), rfl, hnm⟩) (w41 hw) (ty := .int) (by decide) rfl rfl (g := (mkF m 6 #[.val (.ref a), .val (.int i), .val (.int j)] [(.int i), (.ref a)])) rfl rfl (hb hby d9_6)
  have F533 := F_line_a.same W532
  have N534 := Fr.snoc X532 N0 ge_a
  refine own_step (T' := T532) (g' := (mkF m 9 #[.val (.ref a), .val (.int i), .val (.int j)] [])) st532 ?_
  refine own_step (T' := T532) (g' := (mkF m 10 #[.val (.ref a), .val (.int i), .val (.int j)] [(.ref a)])) (fun _ q => XS.aloadN X532.here hx rfl (hb hby d9_9) rfl rfl q) ?_
  refine own_step (T' := T532) (g' := (mkF m 11 #[.val (.ref a), .val (.int i), .val (.int j)] [(.int j), (.ref a)])) (fun _ q => XS.iloadN X532.here hx rfl (hb hby d9_10) rfl q) ?_
  have c535 := (E_a.wr W532)
  have c536 := (F_column_a.other W532 (Or.inr (RoadKit.slot_ne (t := .int) (t' := .int) (Or.inr (w50 hw)) (Or.inr (w48 hw)) (by decide) (by decide) (by decide))))
  obtain ⟨T537, h537, X537, e537, W537, st537⟩ := putF X532 hx hZ hown (host := "") (Or.inl (w49 hw)) Via.refl e532 c536 c535 (Or.inr ⟨(w50 hw), rfl, hnm⟩) (w41 hw) (ty := .int) (by decide) rfl rfl (g := (mkF m 11 #[.val (.ref a), .val (.int i), .val (.int j)] [(.int j), (.ref a)])) rfl rfl (hb hby d9_11)
  have F538 := c536.same W537
  have N539 := Fr.snoc X537 N534 ge_a
  refine own_step (T' := T537) (g' := (mkF m 14 #[.val (.ref a), .val (.int i), .val (.int j)] [])) st537 ?_
  have c540 := ((KP0.wr W532 (Or.inl (List.mem_of_getElem? (i := 0) rfl))).wr W537 (Or.inl (List.mem_of_getElem? (i := 0) rfl)))
  have c541 := (c535.wr W537)
  exact own_retV X537 hx Bd.returns (hb hby d9_14) hlk (by rw [e537]; exact ⟨rfl, N539, c540, c541⟩) (by first | decide | (dsimp only; omega)) (by first | decide | (dsimp only; omega))
theorem pn_6 : plainName "com/example/kvasir/kvasir/jpql/Expression" = true := by first | (simp [plainName, overriddenIn]; done) | decide +kernel
theorem d12_0 : decode prog_31_method_1_code 0 = .ok (.aload_n 0, 1) := by decide +kernel
theorem d12_1 : decode prog_31_method_1_code 1 = .ok (.invokespecial 1, 3) := by decide +kernel
theorem d12_4 : decode prog_31_method_1_code 4 = .ok (.aload_n 0, 1) := by decide +kernel
theorem d12_5 : decode prog_31_method_1_code 5 = .ok (.aload_n 1, 1) := by decide +kernel
theorem d12_6 : decode prog_31_method_1_code 6 = .ok (.putfield 7, 3) := by decide +kernel
theorem d12_9 : decode prog_31_method_1_code 9 = .ok (.return_, 1) := by decide +kernel
def Q_own_exi (Z : State) (a : Addr) (f : Addr) (h0 : Heap) (n0 : Nat) (v : Option Value) (h : Heap) (L : List Loc) : Prop := v = none ∧ Fr n0 L ∧ Keep h0 h [a] ∧ Exa Z h a "com/example/kvasir/kvasir/jpql/InputParameter" ∧ Fld Z h a "com/example/kvasir/kvasir/jpql/Expression" "position" "Lcom/example/kvasir/kvasir/jpql/Position;" (.ref f) ∧ Fld Z h a "com/example/kvasir/kvasir/jpql/InputParameter" "name" "Ljava/lang/String;" .null ∧ Fld Z h a "com/example/kvasir/kvasir/jpql/InputParameter" "number" "I" (.int (0 : Int32)) ∧ Fld Z h a "com/example/kvasir/kvasir/jpql/InputParameter" "collectionValued" "Z" (.int (0 : Int32)) ∧ Fld Z h a "com/example/kvasir/kvasir/jpql/InputParameter" "bound" "Z" (.int (0 : Int32)) ∧ Fld Z h a "com/example/kvasir/kvasir/jpql/InputParameter" "value" "Ljava/lang/Object;" .null ∧ Fld Z h a "com/example/kvasir/kvasir/jpql/InputParameter" "members" "Ljava/util/List;" .null
set_option maxRecDepth 65536 in
set_option maxHeartbeats 40000000 in
theorem own_exi (l : Launch) (Z : State) (a0 : Array Value) (hw : ∀ d ∈ tables_1, d.before a0 Z = true) (ws : List Jvm.Cond) (a : Addr) (f : Addr) (h0 : Heap) (n0 : Nat) (Z0 : n0 ≤ h0.size) (E_a : Exa Z h0 a "com/example/kvasir/kvasir/jpql/InputParameter") (ge_a : n0 ≤ a) (F_position_a : Fld Z h0 a "com/example/kvasir/kvasir/jpql/Expression" "position" "Lcom/example/kvasir/kvasir/jpql/Position;" .null) (F_name_a : Fld Z h0 a "com/example/kvasir/kvasir/jpql/InputParameter" "name" "Ljava/lang/String;" .null) (F_number_a : Fld Z h0 a "com/example/kvasir/kvasir/jpql/InputParameter" "number" "I" (.int (0 : Int32))) (F_collectionValued_a : Fld Z h0 a "com/example/kvasir/kvasir/jpql/InputParameter" "collectionValued" "Z" (.int (0 : Int32))) (F_bound_a : Fld Z h0 a "com/example/kvasir/kvasir/jpql/InputParameter" "bound" "Z" (.int (0 : Int32))) (F_value_a : Fld Z h0 a "com/example/kvasir/kvasir/jpql/InputParameter" "value" "Ljava/lang/Object;" .null) (F_members_a : Fld Z h0 a "com/example/kvasir/kvasir/jpql/InputParameter" "members" "Ljava/util/List;" .null) :
    MetFree l (⟨"com/example/kvasir/kvasir/jpql/Expression", "<init>", "(Lcom/example/kvasir/kvasir/jpql/Position;)V"⟩ : MethodName) (head1 (Jvm.Cond.code (⟨"com/example/kvasir/kvasir/jpql/Expression", "<init>", "(Lcom/example/kvasir/kvasir/jpql/Position;)V"⟩ : MethodName) prog_31_method_1_code 2 none :: ws) ({ frames := 1, cells := 0, slots := 0, locals := 12 } : Room)) (fun ag U => ag = #[(.ref a), (.ref f)] ∧ Z.Warmed39 U.vm ∧ U.heap = h0) (fun _ _ _ _ _ => True) (fun _ U o U' => ∃ v L, o = .returned v ∧ Q_own_exi Z a f h0 n0 v U'.heap L ∧ FrameEnd U o U' L ({ frames := 1, cells := 0, slots := 0, locals := 12 } : Room).cells ({ frames := 1, cells := 0, slots := 0, locals := 12 } : Room).slots) := by
  refine own_body (plainFor_of_name pn_6) ?_
  intro p e s m below meth c s₁ Bd hml hZ e0
  have hx := Bd.exec
  have hby := Bd.bytes
  have hlk : meth.locks = false := BodyLoose.notSynchronized Bd
  have hown : s.vm.findClass "com/example/kvasir/kvasir/jpql/Expression" = some m.cls := findClass_of_methodNamed Bd.named
  have hnm := (name_of_methodNamed Bd.named Bd.method).1
  have X0 : Stand p l e ({ frames := 1, cells := 0, slots := 0, locals := 12 } : Room) s m #[(.ref a), (.ref f)] below meth c s₁ [] 0 0 := Stand.of_body Bd
  have N0 := Fr.nil n0
  have KP0 : Keep h0 h0 [a] := Keep.refl h0 [a]
  have lt_a := E_a.lt
  refine own_cast (g' := (mkF m 0 #[.val (.ref a), .val (.ref f)] [])) (by first | (simp [entryFrame, mkF, argsToLocals, own_cat_int, own_cat_long, own_cat_ref, own_cat_null]; done) | rfl) ?_
  refine own_step (T' := s₁) (g' := (mkF m 1 #[.val (.ref a), .val (.ref f)] [(.ref a)])) (fun _ q => XS.aloadN X0.here hx rfl (hb hby d12_0) rfl rfl q) ?_
  obtain ⟨T542, X542, e542, st542⟩ := initO X0 hx hZ hown (w65 hw) (w16 hw) (w17 hw) e0 (g := (mkF m 1 #[.val (.ref a), .val (.ref f)] [(.ref a)])) rfl (by rw [hml]; rfl) rfl (hb hby d12_1) (Nat.le_of_ble_eq_true rfl) (W := 0) (by show 2 * 0 + _ ≤ _; exact Nat.le_of_eq rfl) (Nat.le_of_ble_eq_true rfl)
  refine own_step (T' := T542) (g' := (mkF m 4 #[.val (.ref a), .val (.ref f)] [])) st542 ?_
  refine own_step (T' := T542) (g' := (mkF m 5 #[.val (.ref a), .val (.ref f)] [(.ref a)])) (fun _ q => XS.aloadN X542.here hx rfl (hb hby d12_4) rfl rfl q) ?_
  refine own_step (T' := T542) (g' := (mkF m 6 #[.val (.ref a), .val (.ref f)] [(.ref f), (.ref a)])) (fun _ q => XS.aloadN X542.here hx rfl (hb hby d12_5) rfl rfl q) ?_
  obtain ⟨T543, h543, X543, e543, W543, st543⟩ := putF X542 hx hZ hown (host := "") (Or.inl (w66 hw)) Via.refl e542 F_position_a E_a (Or.inl (w67 hw)) (w56 hw) (ty := (.object "com/example/kvasir/kvasir/jpql/Position")) (by decide) rfl rfl (g := (mkF m 6 #[.val (.ref a), .val (.ref f)] [(.ref f), (.ref a)])) rfl rfl (hb hby d12_6)
  have F544 := F_position_a.same W543
  have N545 := Fr.snoc X543 N0 ge_a
  refine own_step (T' := T543) (g' := (mkF m 9 #[.val (.ref a), .val (.ref f)] [])) st543 ?_
  have c546 := (KP0.wr W543 (Or.inl (List.mem_of_getElem? (i := 0) rfl)))
  have c547 := (E_a.wr W543)
  have c548 := (F_name_a.other W543 (Or.inr (RoadKit.slot_ne (t := (.object "java/lang/String")) (t' := (.object "com/example/kvasir/kvasir/jpql/Position")) (Or.inr (w69 hw)) (Or.inl (w67 hw)) (by decide) (by decide) (by decide))))
  have c549 := (F_number_a.other W543 (Or.inr (RoadKit.slot_ne (t := .int) (t' := (.object "com/example/kvasir/kvasir/jpql/Position")) (Or.inr (w71 hw)) (Or.inl (w67 hw)) (by decide) (by decide) (by decide))))
  have c550 := (F_collectionValued_a.other W543 (Or.inr (RoadKit.slot_ne (t := .boolean) (t' := (.object "com/example/kvasir/kvasir/jpql/Position")) (Or.inr (w73 hw)) (Or.inl (w67 hw)) (by decide) (by decide) (by decide))))
  have c551 := (F_bound_a.other W543 (Or.inr (RoadKit.slot_ne (t := .boolean) (t' := (.object "com/example/kvasir/kvasir/jpql/Position")) (Or.inl (w222 hw)) (Or.inl (w67 hw)) (by decide) (by decide) (by decide))))
  have c552 := (F_value_a.other W543 (Or.inr (RoadKit.slot_ne (t := (.object "java/lang/Object")) (t' := (.object "com/example/kvasir/kvasir/jpql/Position")) (Or.inl (w229 hw)) (Or.inl (w67 hw)) (by decide) (by decide) (by decide))))
  have c553 := (F_members_a.other W543 (Or.inr (RoadKit.slot_ne (t := (.object "java/util/List")) (t' := (.object "com/example/kvasir/kvasir/jpql/Position")) (Or.inl (w236 hw)) (Or.inl (w67 hw)) (by decide) (by decide) (by decide))))
  exact own_retV X543 hx Bd.returns (hb hby d12_9) hlk (by rw [e543]; exact ⟨rfl, N545, c546, c547, F544, c548, c549, c550, c551, c552, c553⟩) (by first | decide | (dsimp only; omega)) (by first | decide | (dsimp only; omega))
theorem pn_7 : plainName "com/example/kvasir/kvasir/jpql/InputParameter" = true := by first | (simp [plainName, overriddenIn]; done) | decide +kernel
theorem pd_16 : parseMethodDescriptor "(Lcom/example/kvasir/kvasir/jpql/Position;)V" = some ⟨[(.object "com/example/kvasir/kvasir/jpql/Position")], none⟩ := by decide +kernel
theorem d11_0 : decode prog_39_method_1_code 0 = .ok (.aload_n 0, 1) := by decide +kernel
theorem d11_1 : decode prog_39_method_1_code 1 = .ok (.aload 4, 2) := by decide +kernel
theorem d11_3 : decode prog_39_method_1_code 3 = .ok (.invokespecial 1, 3) := by decide +kernel
theorem d11_6 : decode prog_39_method_1_code 6 = .ok (.aload_n 0, 1) := by decide +kernel
theorem d11_7 : decode prog_39_method_1_code 7 = .ok (.aload_n 1, 1) := by decide +kernel
theorem d11_8 : decode prog_39_method_1_code 8 = .ok (.putfield 7, 3) := by decide +kernel
theorem d11_11 : decode prog_39_method_1_code 11 = .ok (.aload_n 0, 1) := by decide +kernel
theorem d11_12 : decode prog_39_method_1_code 12 = .ok (.iload_n 2, 1) := by decide +kernel
theorem d11_13 : decode prog_39_method_1_code 13 = .ok (.putfield 13, 3) := by decide +kernel
theorem d11_16 : decode prog_39_method_1_code 16 = .ok (.aload_n 0, 1) := by decide +kernel
theorem d11_17 : decode prog_39_method_1_code 17 = .ok (.iload_n 3, 1) := by decide +kernel
theorem d11_18 : decode prog_39_method_1_code 18 = .ok (.putfield 17, 3) := by decide +kernel
theorem d11_21 : decode prog_39_method_1_code 21 = .ok (.return_, 1) := by decide +kernel
def Q_own_ipi0 (Z : State) (a : Addr) (f : Addr) (f2 : Addr) (h0 : Heap) (n0 : Nat) (v : Option Value) (h : Heap) (L : List Loc) : Prop := v = none ∧ Fr n0 L ∧ Keep h0 h [a] ∧ Exa Z h a "com/example/kvasir/kvasir/jpql/InputParameter" ∧ Fld Z h a "com/example/kvasir/kvasir/jpql/Expression" "position" "Lcom/example/kvasir/kvasir/jpql/Position;" (.ref f2) ∧ Fld Z h a "com/example/kvasir/kvasir/jpql/InputParameter" "name" "Ljava/lang/String;" (.ref f) ∧ Fld Z h a "com/example/kvasir/kvasir/jpql/InputParameter" "number" "I" (.int (0 : Int32)) ∧ Fld Z h a "com/example/kvasir/kvasir/jpql/InputParameter" "collectionValued" "Z" (.int (0 : Int32)) ∧ Fld Z h a "com/example/kvasir/kvasir/jpql/InputParameter" "bound" "Z" (.int (0 : Int32)) ∧ Fld Z h a "com/example/kvasir/kvasir/jpql/InputParameter" "value" "Ljava/lang/Object;" .null ∧ Fld Z h a "com/example/kvasir/kvasir/jpql/InputParameter" "members" "Ljava/util/List;" .null
set_option maxRecDepth 65536 in
set_option maxHeartbeats 40000000 in
theorem own_ipi0 (l : Launch) (Z : State) (a0 : Array Value) (hw : ∀ d ∈ tables_1, d.before a0 Z = true) (ws : List Jvm.Cond) (a : Addr) (f : Addr) (f2 : Addr) (h0 : Heap) (n0 : Nat) (Z0 : n0 ≤ h0.size) (E_a : Exa Z h0 a "com/example/kvasir/kvasir/jpql/InputParameter") (ge_a : n0 ≤ a) (F_position_a : Fld Z h0 a "com/example/kvasir/kvasir/jpql/Expression" "position" "Lcom/example/kvasir/kvasir/jpql/Position;" .null) (F_name_a : Fld Z h0 a "com/example/kvasir/kvasir/jpql/InputParameter" "name" "Ljava/lang/String;" .null) (F_number_a : Fld Z h0 a "com/example/kvasir/kvasir/jpql/InputParameter" "number" "I" (.int (0 : Int32))) (F_collectionValued_a : Fld Z h0 a "com/example/kvasir/kvasir/jpql/InputParameter" "collectionValued" "Z" (.int (0 : Int32))) (F_bound_a : Fld Z h0 a "com/example/kvasir/kvasir/jpql/InputParameter" "bound" "Z" (.int (0 : Int32))) (F_value_a : Fld Z h0 a "com/example/kvasir/kvasir/jpql/InputParameter" "value" "Ljava/lang/Object;" .null) (F_members_a : Fld Z h0 a "com/example/kvasir/kvasir/jpql/InputParameter" "members" "Ljava/util/List;" .null) :
    MetFree l (⟨"com/example/kvasir/kvasir/jpql/InputParameter", "<init>", "(Ljava/lang/String;IZLcom/example/kvasir/kvasir/jpql/Position;)V"⟩ : MethodName) (head1 (Jvm.Cond.code (⟨"com/example/kvasir/kvasir/jpql/InputParameter", "<init>", "(Ljava/lang/String;IZLcom/example/kvasir/kvasir/jpql/Position;)V"⟩ : MethodName) prog_39_method_1_code 5 none :: ws) ({ frames := 2, cells := 0, slots := 0, locals := 25 } : Room)) (fun ag U => ag = #[(.ref a), (.ref f), (.int (0 : Int32)), (.int (0 : Int32)), (.ref f2)] ∧ Z.Warmed39 U.vm ∧ U.heap = h0) (fun _ _ _ _ _ => True) (fun _ U o U' => ∃ v L, o = .returned v ∧ Q_own_ipi0 Z a f f2 h0 n0 v U'.heap L ∧ FrameEnd U o U' L ({ frames := 2, cells := 0, slots := 0, locals := 25 } : Room).cells ({ frames := 2, cells := 0, slots := 0, locals := 25 } : Room).slots) := by
  refine own_body (plainFor_of_name pn_7) ?_
  intro p e s m below meth c s₁ Bd hml hZ e0
  have hx := Bd.exec
  have hby := Bd.bytes
  have hlk : meth.locks = false := BodyLoose.notSynchronized Bd
  have hown : s.vm.findClass "com/example/kvasir/kvasir/jpql/InputParameter" = some m.cls := findClass_of_methodNamed Bd.named
  have hnm := (name_of_methodNamed Bd.named Bd.method).1
  have X0 : Stand p l e ({ frames := 2, cells := 0, slots := 0, locals := 25 } : Room) s m #[(.ref a), (.ref f), (.int (0 : Int32)), (.int (0 : Int32)), (.ref f2)] below meth c s₁ [] 0 0 := Stand.of_body Bd
  have N0 := Fr.nil n0
  have KP0 : Keep h0 h0 [a] := Keep.refl h0 [a]
  have lt_a := E_a.lt
  refine own_cast (g' := (mkF m 0 #[.val (.ref a), .val (.ref f), .val (.int (0 : Int32)), .val (.int (0 : Int32)), .val (.ref f2)] [])) (by first | (simp [entryFrame, mkF, argsToLocals, own_cat_int, own_cat_long, own_cat_ref, own_cat_null]; done) | rfl) ?_
  refine own_step (T' := s₁) (g' := (mkF m 1 #[.val (.ref a), .val (.ref f), .val (.int (0 : Int32)), .val (.int (0 : Int32)), .val (.ref f2)] [(.ref a)])) (fun _ q => XS.aloadN X0.here hx rfl (hb hby d11_0) rfl rfl q) ?_
  refine own_step (T' := s₁) (g' := (mkF m 3 #[.val (.ref a), .val (.ref f), .val (.int (0 : Int32)), .val (.int (0 : Int32)), .val (.ref f2)] [(.ref f2), (.ref a)])) (fun _ q => XS.aload X0.here hx rfl (hb hby d11_1) rfl rfl q) ?_
  refine own_callC X0 hx hZ hown rfl (w60 hw) (w61 hw) (w64 hw) (by decide) (backOf (W := 0) (own_exi l Z a0 hw [] a f2 h0 n0 Z0 E_a ge_a F_position_a F_name_a F_number_a F_collectionValued_a F_bound_a F_value_a F_members_a) hZ (w64 hw) (w63 hw) (Nat.le_of_ble_eq_true rfl) (Nat.le_of_ble_eq_true rfl)) e0  (by first | decide | (dsimp only; omega)) (by first | decide | (dsimp only; omega)) (g := (mkF m 3 #[.val (.ref a), .val (.ref f), .val (.int (0 : Int32)), .val (.int (0 : Int32)), .val (.ref f2)] [(.ref f2), (.ref a)])) (argsL := [(.ref f2)]) (rest := []) rfl (by rw [hml]; rfl) (lenOf pd_16 rfl) rfl rfl (by show 2 * 0 + _ ≤ _; exact Nat.le_of_eq rfl) (hb hby d11_3) ?_
  rintro _ T554 L554 X554 ⟨rfl, N554q, K554, f0_554, f1_554, f2_554, f3_554, f4_554, f5_554, f6_554, f7_554⟩
  have N555 := Fr.app N0 N554q
  show own_Fin p e below _ T554 (mkF m 6 #[.val (.ref a), .val (.ref f), .val (.int (0 : Int32)), .val (.int (0 : Int32)), .val (.ref f2)] [])
  refine own_step (T' := T554) (g' := (mkF m 7 #[.val (.ref a), .val (.ref f), .val (.int (0 : Int32)), .val (.int (0 : Int32)), .val (.ref f2)] [(.ref a)])) (fun _ q => XS.aloadN X554.here hx rfl (hb hby d11_6) rfl rfl q) ?_
  refine own_step (T' := T554) (g' := (mkF m 8 #[.val (.ref a), .val (.ref f), .val (.int (0 : Int32)), .val (.int (0 : Int32)), .val (.ref f2)] [(.ref f), (.ref a)])) (fun _ q => XS.aloadN X554.here hx rfl (hb hby d11_7) rfl rfl q) ?_
  obtain ⟨T556, h556, X556, e556, W556, st556⟩ := putF X554 hx hZ hown (host := "") (Or.inl (w68 hw)) Via.refl rfl f2_554 f0_554 (Or.inr ⟨(w69 hw), rfl, hnm⟩) (w56 hw) (ty := (.object "java/lang/String")) (by decide) rfl rfl (g := (mkF m 8 #[.val (.ref a), .val (.ref f), .val (.int (0 : Int32)), .val (.int (0 : Int32)), .val (.ref f2)] [(.ref f), (.ref a)])) rfl rfl (hb hby d11_8)
  have F557 := f2_554.same W556
  have N558 := Fr.snoc X556 N555 ge_a
  refine own_step (T' := T556) (g' := (mkF m 11 #[.val (.ref a), .val (.ref f), .val (.int (0 : Int32)), .val (.int (0 : Int32)), .val (.ref f2)] [])) st556 ?_
  refine own_step (T' := T556) (g' := (mkF m 12 #[.val (.ref a), .val (.ref f), .val (.int (0 : Int32)), .val (.int (0 : Int32)), .val (.ref f2)] [(.ref a)])) (fun _ q => XS.aloadN X556.here hx rfl (hb hby d11_11) rfl rfl q) ?_
  refine own_step (T' := T556) (g' := (mkF m 13 #[.val (.ref a), .val (.ref f), .val (.int (0 : Int32)), .val (.int (0 : Int32)), .val (.ref f2)] [(.int (0 : Int32)), (.ref a)])) (fun _ q => XS.iloadN X556.here hx rfl (hb hby d11_12) rfl q) ?_
  have c559 := (f0_554.wr W556)
  have c560 := (f3_554.other W556 (Or.inr (RoadKit.slot_ne (t := .int) (t' := (.object "java/lang/String")) (Or.inr (w71 hw)) (Or.inr (w69 hw)) (by decide) (by decide) (by decide))))
  obtain ⟨T561, h561, X561, e561, W561, st561⟩ := putF X556 hx hZ hown (host := "") (Or.inl (w70 hw)) Via.refl e556 c560 c559 (Or.inr ⟨(w71 hw), rfl, hnm⟩) (w56 hw) (ty := .int) (by decide) rfl rfl (g := (mkF m 13 #[.val (.ref a), .val (.ref f), .val (.int (0 : Int32)), .val (.int (0 : Int32)), .val (.ref f2)] [(.int (0 : Int32)), (.ref a)])) rfl rfl (hb hby d11_13)
  have F562 := c560.same W561
  have N563 := Fr.snoc X561 N558 ge_a
  refine own_step (T' := T561) (g' := (mkF m 16 #[.val (.ref a), .val (.ref f), .val (.int (0 : Int32)), .val (.int (0 : Int32)), .val (.ref f2)] [])) st561 ?_
  refine own_step (T' := T561) (g' := (mkF m 17 #[.val (.ref a), .val (.ref f), .val (.int (0 : Int32)), .val (.int (0 : Int32)), .val (.ref f2)] [(.ref a)])) (fun _ q => XS.aloadN X561.here hx rfl (hb hby d11_16) rfl rfl q) ?_
  refine own_step (T' := T561) (g' := (mkF m 18 #[.val (.ref a), .val (.ref f), .val (.int (0 : Int32)), .val (.int (0 : Int32)), .val (.ref f2)] [(.int (0 : Int32)), (.ref a)])) (fun _ q => XS.iloadN X561.here hx rfl (hb hby d11_17) rfl q) ?_
  have c564 := (c559.wr W561)
  have c565 := ((f4_554.other W556 (Or.inr (RoadKit.slot_ne (t := .boolean) (t' := (.object "java/lang/String")) (Or.inr (w73 hw)) (Or.inr (w69 hw)) (by decide) (by decide) (by decide)))).other W561 (Or.inr (RoadKit.slot_ne (t := .boolean) (t' := .int) (Or.inr (w73 hw)) (Or.inr (w71 hw)) (by decide) (by decide) (by decide))))
  obtain ⟨T566, h566, X566, e566, W566, st566⟩ := putFN X561 hx hZ hown (w72 hw) Via.refl e561 c565 c564 (Or.inr ⟨(w73 hw), rfl, hnm⟩) (w56 hw) (ty := .boolean) (v' := (.int (0 : Int32))) (by decide) rfl rfl (g := (mkF m 18 #[.val (.ref a), .val (.ref f), .val (.int (0 : Int32)), .val (.int (0 : Int32)), .val (.ref f2)] [(.int (0 : Int32)), (.ref a)])) rfl rfl (hb hby d11_18)
  have F567 := c565.same W566
  have N568 := Fr.snoc X566 N563 ge_a
  refine own_step (T' := T566) (g' := (mkF m 21 #[.val (.ref a), .val (.ref f), .val (.int (0 : Int32)), .val (.int (0 : Int32)), .val (.ref f2)] [])) st566 ?_
  have c569 := ((((KP0.trans K554 (allS (Or.inl (List.mem_of_getElem? (i := 0) rfl)) all0)).wr W556 (Or.inl (List.mem_of_getElem? (i := 0) rfl))).wr W561 (Or.inl (List.mem_of_getElem? (i := 0) rfl))).wr W566 (Or.inl (List.mem_of_getElem? (i := 0) rfl)))
  have c570 := (c564.wr W566)
  have c571 := (((f1_554.other W556 (Or.inr (RoadKit.slot_ne (t := (.object "com/example/kvasir/kvasir/jpql/Position")) (t' := (.object "java/lang/String")) (Or.inl (w67 hw)) (Or.inr (w69 hw)) (by decide) (by decide) (by decide)))).other W561 (Or.inr (RoadKit.slot_ne (t := (.object "com/example/kvasir/kvasir/jpql/Position")) (t' := .int) (Or.inl (w67 hw)) (Or.inr (w71 hw)) (by decide) (by decide) (by decide)))).other W566 (Or.inr (RoadKit.slot_ne (t := (.object "com/example/kvasir/kvasir/jpql/Position")) (t' := .boolean) (Or.inl (w67 hw)) (Or.inr (w73 hw)) (by decide) (by decide) (by decide))))
  have c572 := ((F557.other W561 (Or.inr (RoadKit.slot_ne (t := (.object "java/lang/String")) (t' := .int) (Or.inr (w69 hw)) (Or.inr (w71 hw)) (by decide) (by decide) (by decide)))).other W566 (Or.inr (RoadKit.slot_ne (t := (.object "java/lang/String")) (t' := .boolean) (Or.inr (w69 hw)) (Or.inr (w73 hw)) (by decide) (by decide) (by decide))))
  have c573 := (F562.other W566 (Or.inr (RoadKit.slot_ne (t := .int) (t' := .boolean) (Or.inr (w71 hw)) (Or.inr (w73 hw)) (by decide) (by decide) (by decide))))
  have c574 := (((f5_554.other W556 (Or.inr (RoadKit.slot_ne (t := .boolean) (t' := (.object "java/lang/String")) (Or.inl (w222 hw)) (Or.inr (w69 hw)) (by decide) (by decide) (by decide)))).other W561 (Or.inr (RoadKit.slot_ne (t := .boolean) (t' := .int) (Or.inl (w222 hw)) (Or.inr (w71 hw)) (by decide) (by decide) (by decide)))).other W566 (Or.inr (RoadKit.slot_ne (t := .boolean) (t' := .boolean) (Or.inl (w222 hw)) (Or.inr (w73 hw)) (by decide) (by decide) (by decide))))
  have c575 := (((f6_554.other W556 (Or.inr (RoadKit.slot_ne (t := (.object "java/lang/Object")) (t' := (.object "java/lang/String")) (Or.inl (w229 hw)) (Or.inr (w69 hw)) (by decide) (by decide) (by decide)))).other W561 (Or.inr (RoadKit.slot_ne (t := (.object "java/lang/Object")) (t' := .int) (Or.inl (w229 hw)) (Or.inr (w71 hw)) (by decide) (by decide) (by decide)))).other W566 (Or.inr (RoadKit.slot_ne (t := (.object "java/lang/Object")) (t' := .boolean) (Or.inl (w229 hw)) (Or.inr (w73 hw)) (by decide) (by decide) (by decide))))
  have c576 := (((f7_554.other W556 (Or.inr (RoadKit.slot_ne (t := (.object "java/util/List")) (t' := (.object "java/lang/String")) (Or.inl (w236 hw)) (Or.inr (w69 hw)) (by decide) (by decide) (by decide)))).other W561 (Or.inr (RoadKit.slot_ne (t := (.object "java/util/List")) (t' := .int) (Or.inl (w236 hw)) (Or.inr (w71 hw)) (by decide) (by decide) (by decide)))).other W566 (Or.inr (RoadKit.slot_ne (t := (.object "java/util/List")) (t' := .boolean) (Or.inl (w236 hw)) (Or.inr (w73 hw)) (by decide) (by decide) (by decide))))
  exact own_retV X566 hx Bd.returns (hb hby d11_21) hlk (by rw [e566]; exact ⟨rfl, N568, c569, c570, c571, c572, c573, F567, c574, c575, c576⟩) (by first | decide | (dsimp only; omega)) (by first | decide | (dsimp only; omega))
theorem pd_17 : parseMethodDescriptor "(Ljava/lang/String;IZLcom/example/kvasir/kvasir/jpql/Position;)V" = some ⟨[(.object "java/lang/String"), .int, .boolean, (.object "com/example/kvasir/kvasir/jpql/Position")], none⟩ := by decide +kernel
theorem d10_0 : decode prog_39_method_2_code 0 = .ok (.new 8, 3) := by decide +kernel
theorem d10_3 : decode prog_39_method_2_code 3 = .ok (.dup, 1) := by decide +kernel
theorem d10_4 : decode prog_39_method_2_code 4 = .ok (.aload_n 0, 1) := by decide +kernel
theorem d10_5 : decode prog_39_method_2_code 5 = .ok (.iconst 0, 1) := by decide +kernel
theorem d10_6 : decode prog_39_method_2_code 6 = .ok (.iload_n 1, 1) := by decide +kernel
theorem d10_7 : decode prog_39_method_2_code 7 = .ok (.aload_n 2, 1) := by decide +kernel
theorem d10_8 : decode prog_39_method_2_code 8 = .ok (.invokespecial 21, 3) := by decide +kernel
theorem d10_11 : decode prog_39_method_2_code 11 = .ok (.areturn, 1) := by decide +kernel
def Q_own_named0 (Z : State) (f : Addr) (f2 : Addr) (h0 : Heap) (n0 : Nat) (v : Option Value) (h : Heap) (L : List Loc) : Prop := ∃ (a : Addr), v = some (.ref a) ∧ Fr n0 L ∧ Keep h0 h [] ∧ h0.size ≤ a ∧ Exa Z h a "com/example/kvasir/kvasir/jpql/InputParameter" ∧ Fld Z h a "com/example/kvasir/kvasir/jpql/Expression" "position" "Lcom/example/kvasir/kvasir/jpql/Position;" (.ref f2) ∧ Fld Z h a "com/example/kvasir/kvasir/jpql/InputParameter" "name" "Ljava/lang/String;" (.ref f) ∧ Fld Z h a "com/example/kvasir/kvasir/jpql/InputParameter" "number" "I" (.int (0 : Int32)) ∧ Fld Z h a "com/example/kvasir/kvasir/jpql/InputParameter" "collectionValued" "Z" (.int (0 : Int32)) ∧ Fld Z h a "com/example/kvasir/kvasir/jpql/InputParameter" "bound" "Z" (.int (0 : Int32)) ∧ Fld Z h a "com/example/kvasir/kvasir/jpql/InputParameter" "value" "Ljava/lang/Object;" .null ∧ Fld Z h a "com/example/kvasir/kvasir/jpql/InputParameter" "members" "Ljava/util/List;" .null
set_option maxRecDepth 65536 in
set_option maxHeartbeats 40000000 in
theorem own_named0 (l : Launch) (Z : State) (a0 : Array Value) (hw : ∀ d ∈ tables_1, d.before a0 Z = true) (ws : List Jvm.Cond) (f : Addr) (f2 : Addr) (h0 : Heap) (n0 : Nat) (Z0 : n0 ≤ h0.size)  :
    MetFree l (⟨"com/example/kvasir/kvasir/jpql/InputParameter", "named", "(Ljava/lang/String;ZLcom/example/kvasir/kvasir/jpql/Position;)Lcom/example/kvasir/kvasir/jpql/InputParameter;"⟩ : MethodName) (head1 (Jvm.Cond.code (⟨"com/example/kvasir/kvasir/jpql/InputParameter", "named", "(Ljava/lang/String;ZLcom/example/kvasir/kvasir/jpql/Position;)Lcom/example/kvasir/kvasir/jpql/InputParameter;"⟩ : MethodName) prog_39_method_2_code 3 (some (.object "com/example/kvasir/kvasir/jpql/InputParameter")) :: ws) ({ frames := 3, cells := 1, slots := 9, locals := 42 } : Room)) (fun ag U => ag = #[(.ref f), (.int (0 : Int32)), (.ref f2)] ∧ Z.Warmed39 U.vm ∧ U.heap = h0) (fun _ _ _ _ _ => True) (fun _ U o U' => ∃ v L, o = .returned v ∧ Q_own_named0 Z f f2 h0 n0 v U'.heap L ∧ FrameEnd U o U' L ({ frames := 3, cells := 1, slots := 9, locals := 42 } : Room).cells ({ frames := 3, cells := 1, slots := 9, locals := 42 } : Room).slots) := by
  refine own_body (plainFor_of_name pn_7) ?_
  intro p e s m below meth c s₁ Bd hml hZ e0
  have hx := Bd.exec
  have hby := Bd.bytes
  have hlk : meth.locks = false := BodyLoose.notSynchronized Bd
  have hown : s.vm.findClass "com/example/kvasir/kvasir/jpql/InputParameter" = some m.cls := findClass_of_methodNamed Bd.named
  have hnm := (name_of_methodNamed Bd.named Bd.method).1
  have X0 : Stand p l e ({ frames := 3, cells := 1, slots := 9, locals := 42 } : Room) s m #[(.ref f), (.int (0 : Int32)), (.ref f2)] below meth c s₁ [] 0 0 := Stand.of_body Bd
  have N0 := Fr.nil n0
  have KP0 : Keep h0 h0 [] := Keep.refl h0 []
  refine own_cast (g' := (mkF m 0 #[.val (.ref f), .val (.int (0 : Int32)), .val (.ref f2)] [])) (by first | (simp [entryFrame, mkF, argsToLocals, own_cat_int, own_cat_long, own_cat_ref, own_cat_null]; done) | rfl) ?_
  obtain ⟨T577, h577, X577, e577, E577, A577, D577, -, st577⟩ := newO X0 hx hZ hown (w55 hw) (w56 hw) (w53 hw) e0 (g := (mkF m 0 #[.val (.ref f), .val (.int (0 : Int32)), .val (.ref f2)] [])) rfl (hb hby d10_0) (by first | decide | (dsimp only; omega)) (by first | decide | (dsimp only; omega))
  obtain ⟨b577, g577⟩ : ∃ z, z = h0.size := ⟨_, rfl⟩
  rw [← g577] at A577 D577 st577
  have n0_578 : n0 ≤ b577 := Nat.le_trans Z0 (Nat.le_of_eq g577.symm)
  have sz0_579 := Nat.le_trans KP0.1 (Nat.le_of_eq g577.symm)
  have ltb577 := A577.lt
  have F580 : Fld Z h577 b577 "com/example/kvasir/kvasir/jpql/Expression" "position" "Lcom/example/kvasir/kvasir/jpql/Position;" .null := D577 (Or.inl (w67 hw)) (ty := (.object "com/example/kvasir/kvasir/jpql/Position")) (by decide)
  have F581 : Fld Z h577 b577 "com/example/kvasir/kvasir/jpql/InputParameter" "name" "Ljava/lang/String;" .null := D577 (Or.inr (w69 hw)) (ty := (.object "java/lang/String")) (by decide)
  have F582 : Fld Z h577 b577 "com/example/kvasir/kvasir/jpql/InputParameter" "number" "I" (.int (0 : Int32)) := D577 (Or.inr (w71 hw)) (ty := .int) (by decide)
  have F583 : Fld Z h577 b577 "com/example/kvasir/kvasir/jpql/InputParameter" "collectionValued" "Z" (.int (0 : Int32)) := D577 (Or.inr (w73 hw)) (ty := .boolean) (by decide)
  have F584 : Fld Z h577 b577 "com/example/kvasir/kvasir/jpql/InputParameter" "bound" "Z" (.int (0 : Int32)) := D577 (Or.inl (w222 hw)) (ty := .boolean) (by decide)
  have F585 : Fld Z h577 b577 "com/example/kvasir/kvasir/jpql/InputParameter" "value" "Ljava/lang/Object;" .null := D577 (Or.inl (w229 hw)) (ty := (.object "java/lang/Object")) (by decide)
  have F586 : Fld Z h577 b577 "com/example/kvasir/kvasir/jpql/InputParameter" "members" "Ljava/util/List;" .null := D577 (Or.inl (w236 hw)) (ty := (.object "java/util/List")) (by decide)
  refine own_step (T' := T577) (g' := (mkF m 3 #[.val (.ref f), .val (.int (0 : Int32)), .val (.ref f2)] [(.ref b577)])) st577 ?_
  refine own_step (T' := T577) (g' := (mkF m 4 #[.val (.ref f), .val (.int (0 : Int32)), .val (.ref f2)] [(.ref b577), (.ref b577)])) (fun _ q => XS.dup X577.here hx rfl (hb hby d10_3) rfl rfl q) ?_
  refine own_step (T' := T577) (g' := (mkF m 5 #[.val (.ref f), .val (.int (0 : Int32)), .val (.ref f2)] [(.ref f), (.ref b577), (.ref b577)])) (fun _ q => XS.aloadN X577.here hx rfl (hb hby d10_4) rfl rfl q) ?_
  refine own_step (T' := T577) (g' := (mkF m 6 #[.val (.ref f), .val (.int (0 : Int32)), .val (.ref f2)] [(.int (0 : Int32)), (.ref f), (.ref b577), (.ref b577)])) (fun _ q => XS.iconst X577.here hx rfl (hb hby d10_5) q) ?_
  refine own_step (T' := T577) (g' := (mkF m 7 #[.val (.ref f), .val (.int (0 : Int32)), .val (.ref f2)] [(.int (0 : Int32)), (.int (0 : Int32)), (.ref f), (.ref b577), (.ref b577)])) (fun _ q => XS.iloadN X577.here hx rfl (hb hby d10_6) rfl q) ?_
  refine own_step (T' := T577) (g' := (mkF m 8 #[.val (.ref f), .val (.int (0 : Int32)), .val (.ref f2)] [(.ref f2), (.int (0 : Int32)), (.int (0 : Int32)), (.ref f), (.ref b577), (.ref b577)])) (fun _ q => XS.aloadN X577.here hx rfl (hb hby d10_7) rfl rfl q) ?_
  have c587 := (Nat.le_trans Z0 E577.1)
  refine own_callC X577 hx hZ hown rfl (w57 hw) (w58 hw) (w59 hw) (by decide) (backOf (W := 1) (own_ipi0 l Z a0 hw [] b577 f f2 h577 n0 c587 A577 n0_578 F580 F581 F582 F583 F584 F585 F586) hZ (w59 hw) (w53 hw) (Nat.le_of_ble_eq_true rfl) (Nat.le_of_ble_eq_true rfl)) e577  (by first | decide | (dsimp only; omega)) (by first | decide | (dsimp only; omega)) (g := (mkF m 8 #[.val (.ref f), .val (.int (0 : Int32)), .val (.ref f2)] [(.ref f2), (.int (0 : Int32)), (.int (0 : Int32)), (.ref f), (.ref b577), (.ref b577)])) (argsL := [(.ref f), (.int (0 : Int32)), (.int (0 : Int32)), (.ref f2)]) (rest := [(.ref b577)]) rfl (by rw [hml]; rfl) (lenOf pd_17 rfl) rfl rfl (by show 2 * 0 + _ ≤ _; exact Nat.le_of_eq rfl) (hb hby d10_8) ?_
  rintro _ T588 L588 X588 ⟨rfl, N588q, K588, f0_588, f1_588, f2_588, f3_588, f4_588, f5_588, f6_588, f7_588⟩
  have N589 := Fr.app N0 N588q
  show own_Fin p e below _ T588 (mkF m 11 #[.val (.ref f), .val (.int (0 : Int32)), .val (.ref f2)] [(.ref b577)])
  have c590 := ((KP0.ext E577).trans K588 (allS (Or.inr sz0_579) all0))
  exact own_retA X588 hx Bd.returns rfl rfl (hb hby d10_11) hlk ⟨b577, rfl, N589, c590, sz0_579, f0_588, f1_588, f2_588, f3_588, f4_588, f5_588, f6_588, f7_588⟩ (by first | decide | (dsimp only; omega)) (by first | decide | (dsimp only; omega))
theorem d38_0 : decode prog_39_method_6_code 0 = .ok (.aload_n 0, 1) := by decide +kernel
theorem d38_1 : decode prog_39_method_6_code 1 = .ok (.getfield 17, 3) := by decide +kernel
theorem d38_4 : decode prog_39_method_6_code 4 = .ok (.ireturn, 1) := by decide +kernel
def Q_own_icv0 (Z : State) (a : Addr) (h0 : Heap) (n0 : Nat) (v : Option Value) (h : Heap) (L : List Loc) : Prop := v = some (.int (0 : Int32)) ∧ Fr n0 L ∧ h = h0
set_option maxRecDepth 65536 in
set_option maxHeartbeats 40000000 in
theorem own_icv0 (l : Launch) (Z : State) (a0 : Array Value) (hw : ∀ d ∈ tables_1, d.before a0 Z = true) (ws : List Jvm.Cond) (a : Addr) (h0 : Heap) (n0 : Nat) (Z0 : n0 ≤ h0.size) (F_collectionValued_a : Fld Z h0 a "com/example/kvasir/kvasir/jpql/InputParameter" "collectionValued" "Z" (.int (0 : Int32))) :
    MetFree l (⟨"com/example/kvasir/kvasir/jpql/InputParameter", "isCollectionValued", "()Z"⟩ : MethodName) (head1 (Jvm.Cond.code (⟨"com/example/kvasir/kvasir/jpql/InputParameter", "isCollectionValued", "()Z"⟩ : MethodName) prog_39_method_6_code 1 (some .boolean) :: ws) ({ frames := 0, cells := 0, slots := 0, locals := 0 } : Room)) (fun ag U => ag = #[(.ref a)] ∧ Z.Warmed39 U.vm ∧ U.heap = h0) (fun _ _ _ _ _ => True) (fun _ U o U' => ∃ v L, o = .returned v ∧ Q_own_icv0 Z a h0 n0 v U'.heap L ∧ FrameEnd U o U' L ({ frames := 0, cells := 0, slots := 0, locals := 0 } : Room).cells ({ frames := 0, cells := 0, slots := 0, locals := 0 } : Room).slots) := by
  refine own_body (plainFor_of_name pn_7) ?_
  intro p e s m below meth c s₁ Bd hml hZ e0
  have hx := Bd.exec
  have hby := Bd.bytes
  have hlk : meth.locks = false := BodyLoose.notSynchronized Bd
  have hown : s.vm.findClass "com/example/kvasir/kvasir/jpql/InputParameter" = some m.cls := findClass_of_methodNamed Bd.named
  have hnm := (name_of_methodNamed Bd.named Bd.method).1
  have X0 : Stand p l e ({ frames := 0, cells := 0, slots := 0, locals := 0 } : Room) s m #[(.ref a)] below meth c s₁ [] 0 0 := Stand.of_body Bd
  have N0 := Fr.nil n0
  have KP0 : Keep h0 h0 [] := Keep.refl h0 []
  have lt_a := F_collectionValued_a.lt
  refine own_cast (g' := (mkF m 0 #[.val (.ref a)] [])) (by first | (simp [entryFrame, mkF, argsToLocals, own_cat_int, own_cat_long, own_cat_ref, own_cat_null]; done) | rfl) ?_
  refine own_step (T' := s₁) (g' := (mkF m 1 #[.val (.ref a)] [(.ref a)])) (fun _ q => XS.aloadN X0.here hx rfl (hb hby d38_0) rfl rfl q) ?_
  obtain ⟨T591, X591, e591, st591⟩ := getF X0 hx hZ hown (host := "") (Or.inl (w72 hw)) Via.refl e0 F_collectionValued_a (g := (mkF m 1 #[.val (.ref a)] [(.ref a)])) rfl rfl (hb hby d38_1)
  refine own_step (T' := T591) (g' := (mkF m 4 #[.val (.ref a)] [(.int (0 : Int32))])) st591 ?_
  exact own_retN X591 hx Bd.returns (by simp) (hb hby d38_4) hlk ⟨rfl, N0, e591⟩ (by first | decide | (dsimp only; omega)) (by first | decide | (dsimp only; omega))
def Q_own_ipi1 (Z : State) (a : Addr) (f : Addr) (f2 : Addr) (h0 : Heap) (n0 : Nat) (v : Option Value) (h : Heap) (L : List Loc) : Prop := v = none ∧ Fr n0 L ∧ Keep h0 h [a] ∧ Exa Z h a "com/example/kvasir/kvasir/jpql/InputParameter" ∧ Fld Z h a "com/example/kvasir/kvasir/jpql/Expression" "position" "Lcom/example/kvasir/kvasir/jpql/Position;" (.ref f2) ∧ Fld Z h a "com/example/kvasir/kvasir/jpql/InputParameter" "name" "Ljava/lang/String;" (.ref f) ∧ Fld Z h a "com/example/kvasir/kvasir/jpql/InputParameter" "number" "I" (.int (0 : Int32)) ∧ Fld Z h a "com/example/kvasir/kvasir/jpql/InputParameter" "collectionValued" "Z" (.int (1 : Int32)) ∧ Fld Z h a "com/example/kvasir/kvasir/jpql/InputParameter" "bound" "Z" (.int (0 : Int32)) ∧ Fld Z h a "com/example/kvasir/kvasir/jpql/InputParameter" "value" "Ljava/lang/Object;" .null ∧ Fld Z h a "com/example/kvasir/kvasir/jpql/InputParameter" "members" "Ljava/util/List;" .null
set_option maxRecDepth 65536 in
set_option maxHeartbeats 40000000 in
theorem own_ipi1 (l : Launch) (Z : State) (a0 : Array Value) (hw : ∀ d ∈ tables_1, d.before a0 Z = true) (ws : List Jvm.Cond) (a : Addr) (f : Addr) (f2 : Addr) (h0 : Heap) (n0 : Nat) (Z0 : n0 ≤ h0.size) (E_a : Exa Z h0 a "com/example/kvasir/kvasir/jpql/InputParameter") (ge_a : n0 ≤ a) (F_position_a : Fld Z h0 a "com/example/kvasir/kvasir/jpql/Expression" "position" "Lcom/example/kvasir/kvasir/jpql/Position;" .null) (F_name_a : Fld Z h0 a "com/example/kvasir/kvasir/jpql/InputParameter" "name" "Ljava/lang/String;" .null) (F_number_a : Fld Z h0 a "com/example/kvasir/kvasir/jpql/InputParameter" "number" "I" (.int (0 : Int32))) (F_collectionValued_a : Fld Z h0 a "com/example/kvasir/kvasir/jpql/InputParameter" "collectionValued" "Z" (.int (0 : Int32))) (F_bound_a : Fld Z h0 a "com/example/kvasir/kvasir/jpql/InputParameter" "bound" "Z" (.int (0 : Int32))) (F_value_a : Fld Z h0 a "com/example/kvasir/kvasir/jpql/InputParameter" "value" "Ljava/lang/Object;" .null) (F_members_a : Fld Z h0 a "com/example/kvasir/kvasir/jpql/InputParameter" "members" "Ljava/util/List;" .null) :
    MetFree l (⟨"com/example/kvasir/kvasir/jpql/InputParameter", "<init>", "(Ljava/lang/String;IZLcom/example/kvasir/kvasir/jpql/Position;)V"⟩ : MethodName) (head1 (Jvm.Cond.code (⟨"com/example/kvasir/kvasir/jpql/InputParameter", "<init>", "(Ljava/lang/String;IZLcom/example/kvasir/kvasir/jpql/Position;)V"⟩ : MethodName) prog_39_method_1_code 5 none :: ws) ({ frames := 2, cells := 0, slots := 0, locals := 25 } : Room)) (fun ag U => ag = #[(.ref a), (.ref f), (.int (0 : Int32)), (.int (1 : Int32)), (.ref f2)] ∧ Z.Warmed39 U.vm ∧ U.heap = h0) (fun _ _ _ _ _ => True) (fun _ U o U' => ∃ v L, o = .returned v ∧ Q_own_ipi1 Z a f f2 h0 n0 v U'.heap L ∧ FrameEnd U o U' L ({ frames := 2, cells := 0, slots := 0, locals := 25 } : Room).cells ({ frames := 2, cells := 0, slots := 0, locals := 25 } : Room).slots) := by
  refine own_body (plainFor_of_name pn_7) ?_
  intro p e s m below meth c s₁ Bd hml hZ e0
  have hx := Bd.exec
  have hby := Bd.bytes
  have hlk : meth.locks = false := BodyLoose.notSynchronized Bd
  have hown : s.vm.findClass "com/example/kvasir/kvasir/jpql/InputParameter" = some m.cls := findClass_of_methodNamed Bd.named
  have hnm := (name_of_methodNamed Bd.named Bd.method).1
  have X0 : Stand p l e ({ frames := 2, cells := 0, slots := 0, locals := 25 } : Room) s m #[(.ref a), (.ref f), (.int (0 : Int32)), (.int (1 : Int32)), (.ref f2)] below meth c s₁ [] 0 0 := Stand.of_body Bd
  have N0 := Fr.nil n0
  have KP0 : Keep h0 h0 [a] := Keep.refl h0 [a]
  have lt_a := E_a.lt
  refine own_cast (g' := (mkF m 0 #[.val (.ref a), .val (.ref f), .val (.int (0 : Int32)), .val (.int (1 : Int32)), .val (.ref f2)] [])) (by first | (simp [entryFrame, mkF, argsToLocals, own_cat_int, own_cat_long, own_cat_ref, own_cat_null]; done) | rfl) ?_
  refine own_step (T' := s₁) (g' := (mkF m 1 #[.val (.ref a), .val (.ref f), .val (.int (0 : Int32)), .val (.int (1 : Int32)), .val (.ref f2)] [(.ref a)])) (fun _ q => XS.aloadN X0.here hx rfl (hb hby d11_0) rfl rfl q) ?_
  refine own_step (T' := s₁) (g' := (mkF m 3 #[.val (.ref a), .val (.ref f), .val (.int (0 : Int32)), .val (.int (1 : Int32)), .val (.ref f2)] [(.ref f2), (.ref a)])) (fun _ q => XS.aload X0.here hx rfl (hb hby d11_1) rfl rfl q) ?_
  refine own_callC X0 hx hZ hown rfl (w60 hw) (w61 hw) (w64 hw) (by decide) (backOf (W := 0) (own_exi l Z a0 hw [] a f2 h0 n0 Z0 E_a ge_a F_position_a F_name_a F_number_a F_collectionValued_a F_bound_a F_value_a F_members_a) hZ (w64 hw) (w63 hw) (Nat.le_of_ble_eq_true rfl) (Nat.le_of_ble_eq_true rfl)) e0  (by first | decide | (dsimp only; omega)) (by first | decide | (dsimp only; omega)) (g := (mkF m 3 #[.val (.ref a), .val (.ref f), .val (.int (0 : Int32)), .val (.int (1 : Int32)), .val (.ref f2)] [(.ref f2), (.ref a)])) (argsL := [(.ref f2)]) (rest := []) rfl (by rw [hml]; rfl) (lenOf pd_16 rfl) rfl rfl (by show 2 * 0 + _ ≤ _; exact Nat.le_of_eq rfl) (hb hby d11_3) ?_
  rintro _ T592 L592 X592 ⟨rfl, N592q, K592, f0_592, f1_592, f2_592, f3_592, f4_592, f5_592, f6_592, f7_592⟩
  have N593 := Fr.app N0 N592q
  show own_Fin p e below _ T592 (mkF m 6 #[.val (.ref a), .val (.ref f), .val (.int (0 : Int32)), .val (.int (1 : Int32)), .val (.ref f2)] [])
  refine own_step (T' := T592) (g' := (mkF m 7 #[.val (.ref a), .val (.ref f), .val (.int (0 : Int32)), .val (.int (1 : Int32)), .val (.ref f2)] [(.ref a)])) (fun _ q => XS.aloadN X592.here hx rfl (hb hby d11_6) rfl rfl q) ?_
  refine own_step (T' := T592) (g' := (mkF m 8 #[.val (.ref a), .val (.ref f), .val (.int (0 : Int32)), .val (.int (1 : Int32)), .val (.ref f2)] [(.ref f), (.ref a)])) (fun _ q => XS.aloadN X592.here hx rfl (hb hby d11_7) rfl rfl q) ?_
  obtain ⟨T594, h594, X594, e594, W594, st594⟩ := putF X592 hx hZ hown (host := "") (Or.inl (w68 hw)) Via.refl rfl f2_592 f0_592 (Or.inr ⟨(w69 hw), rfl, hnm⟩) (w56 hw) (ty := (.object "java/lang/String")) (by decide) rfl rfl (g := (mkF m 8 #[.val (.ref a), .val (.ref f), .val (.int (0 : Int32)), .val (.int (1 : Int32)), .val (.ref f2)] [(.ref f), (.ref a)])) rfl rfl (hb hby d11_8)
  have F595 := f2_592.same W594
  have N596 := Fr.snoc X594 N593 ge_a
  refine own_step (T' := T594) (g' := (mkF m 11 #[.val (.ref a), .val (.ref f), .val (.int (0 : Int32)), .val (.int (1 : Int32)), .val (.ref f2)] [])) st594 ?_
  refine own_step (T' := T594) (g' := (mkF m 12 #[.val (.ref a), .val (.ref f), .val (.int (0 : Int32)), .val (.int (1 : Int32)), .val (.ref f2)] [(.ref a)])) (fun _ q => XS.aloadN X594.here hx rfl (hb hby d11_11) rfl rfl q) ?_
  refine own_step (T' := T594) (g' := (mkF m 13 #[.val (.ref a), .val (.ref f), .val (.int (0 : Int32)), .val (.int (1 : Int32)), .val (.ref f2)] [(.int (0 : Int32)), (.ref a)])) (fun _ q => XS.iloadN X594.here hx rfl (hb hby d11_12) rfl q) ?_
  have c597 := (f0_592.wr W594)
  have c598 := (f3_592.other W594 (Or.inr (RoadKit.slot_ne (t := .int) (t' := (.object "java/lang/String")) (Or.inr (w71 hw)) (Or.inr (w69 hw)) (by decide) (by decide) (by decide))))
  obtain ⟨T599, h599, X599, e599, W599, st599⟩ := putF X594 hx hZ hown (host := "") (Or.inl (w70 hw)) Via.refl e594 c598 c597 (Or.inr ⟨(w71 hw), rfl, hnm⟩) (w56 hw) (ty := .int) (by decide) rfl rfl (g := (mkF m 13 #[.val (.ref a), .val (.ref f), .val (.int (0 : Int32)), .val (.int (1 : Int32)), .val (.ref f2)] [(.int (0 : Int32)), (.ref a)])) rfl rfl (hb hby d11_13)
  have F600 := c598.same W599
  have N601 := Fr.snoc X599 N596 ge_a
  refine own_step (T' := T599) (g' := (mkF m 16 #[.val (.ref a), .val (.ref f), .val (.int (0 : Int32)), .val (.int (1 : Int32)), .val (.ref f2)] [])) st599 ?_
  refine own_step (T' := T599) (g' := (mkF m 17 #[.val (.ref a), .val (.ref f), .val (.int (0 : Int32)), .val (.int (1 : Int32)), .val (.ref f2)] [(.ref a)])) (fun _ q => XS.aloadN X599.here hx rfl (hb hby d11_16) rfl rfl q) ?_
  refine own_step (T' := T599) (g' := (mkF m 18 #[.val (.ref a), .val (.ref f), .val (.int (0 : Int32)), .val (.int (1 : Int32)), .val (.ref f2)] [(.int (1 : Int32)), (.ref a)])) (fun _ q => XS.iloadN X599.here hx rfl (hb hby d11_17) rfl q) ?_
  have c602 := (c597.wr W599)
  have c603 := ((f4_592.other W594 (Or.inr (RoadKit.slot_ne (t := .boolean) (t' := (.object "java/lang/String")) (Or.inr (w73 hw)) (Or.inr (w69 hw)) (by decide) (by decide) (by decide)))).other W599 (Or.inr (RoadKit.slot_ne (t := .boolean) (t' := .int) (Or.inr (w73 hw)) (Or.inr (w71 hw)) (by decide) (by decide) (by decide))))
  obtain ⟨T604, h604, X604, e604, W604, st604⟩ := putFN X599 hx hZ hown (w72 hw) Via.refl e599 c603 c602 (Or.inr ⟨(w73 hw), rfl, hnm⟩) (w56 hw) (ty := .boolean) (v' := (.int (1 : Int32))) (by decide) rfl rfl (g := (mkF m 18 #[.val (.ref a), .val (.ref f), .val (.int (0 : Int32)), .val (.int (1 : Int32)), .val (.ref f2)] [(.int (1 : Int32)), (.ref a)])) rfl rfl (hb hby d11_18)
  have F605 := c603.same W604
  have N606 := Fr.snoc X604 N601 ge_a
  refine own_step (T' := T604) (g' := (mkF m 21 #[.val (.ref a), .val (.ref f), .val (.int (0 : Int32)), .val (.int (1 : Int32)), .val (.ref f2)] [])) st604 ?_
  have c607 := ((((KP0.trans K592 (allS (Or.inl (List.mem_of_getElem? (i := 0) rfl)) all0)).wr W594 (Or.inl (List.mem_of_getElem? (i := 0) rfl))).wr W599 (Or.inl (List.mem_of_getElem? (i := 0) rfl))).wr W604 (Or.inl (List.mem_of_getElem? (i := 0) rfl)))
  have c608 := (c602.wr W604)
  have c609 := (((f1_592.other W594 (Or.inr (RoadKit.slot_ne (t := (.object "com/example/kvasir/kvasir/jpql/Position")) (t' := (.object "java/lang/String")) (Or.inl (w67 hw)) (Or.inr (w69 hw)) (by decide) (by decide) (by decide)))).other W599 (Or.inr (RoadKit.slot_ne (t := (.object "com/example/kvasir/kvasir/jpql/Position")) (t' := .int) (Or.inl (w67 hw)) (Or.inr (w71 hw)) (by decide) (by decide) (by decide)))).other W604 (Or.inr (RoadKit.slot_ne (t := (.object "com/example/kvasir/kvasir/jpql/Position")) (t' := .boolean) (Or.inl (w67 hw)) (Or.inr (w73 hw)) (by decide) (by decide) (by decide))))
  have c610 := ((F595.other W599 (Or.inr (RoadKit.slot_ne (t := (.object "java/lang/String")) (t' := .int) (Or.inr (w69 hw)) (Or.inr (w71 hw)) (by decide) (by decide) (by decide)))).other W604 (Or.inr (RoadKit.slot_ne (t := (.object "java/lang/String")) (t' := .boolean) (Or.inr (w69 hw)) (Or.inr (w73 hw)) (by decide) (by decide) (by decide))))
  have c611 := (F600.other W604 (Or.inr (RoadKit.slot_ne (t := .int) (t' := .boolean) (Or.inr (w71 hw)) (Or.inr (w73 hw)) (by decide) (by decide) (by decide))))
  have c612 := (((f5_592.other W594 (Or.inr (RoadKit.slot_ne (t := .boolean) (t' := (.object "java/lang/String")) (Or.inl (w222 hw)) (Or.inr (w69 hw)) (by decide) (by decide) (by decide)))).other W599 (Or.inr (RoadKit.slot_ne (t := .boolean) (t' := .int) (Or.inl (w222 hw)) (Or.inr (w71 hw)) (by decide) (by decide) (by decide)))).other W604 (Or.inr (RoadKit.slot_ne (t := .boolean) (t' := .boolean) (Or.inl (w222 hw)) (Or.inr (w73 hw)) (by decide) (by decide) (by decide))))
  have c613 := (((f6_592.other W594 (Or.inr (RoadKit.slot_ne (t := (.object "java/lang/Object")) (t' := (.object "java/lang/String")) (Or.inl (w229 hw)) (Or.inr (w69 hw)) (by decide) (by decide) (by decide)))).other W599 (Or.inr (RoadKit.slot_ne (t := (.object "java/lang/Object")) (t' := .int) (Or.inl (w229 hw)) (Or.inr (w71 hw)) (by decide) (by decide) (by decide)))).other W604 (Or.inr (RoadKit.slot_ne (t := (.object "java/lang/Object")) (t' := .boolean) (Or.inl (w229 hw)) (Or.inr (w73 hw)) (by decide) (by decide) (by decide))))
  have c614 := (((f7_592.other W594 (Or.inr (RoadKit.slot_ne (t := (.object "java/util/List")) (t' := (.object "java/lang/String")) (Or.inl (w236 hw)) (Or.inr (w69 hw)) (by decide) (by decide) (by decide)))).other W599 (Or.inr (RoadKit.slot_ne (t := (.object "java/util/List")) (t' := .int) (Or.inl (w236 hw)) (Or.inr (w71 hw)) (by decide) (by decide) (by decide)))).other W604 (Or.inr (RoadKit.slot_ne (t := (.object "java/util/List")) (t' := .boolean) (Or.inl (w236 hw)) (Or.inr (w73 hw)) (by decide) (by decide) (by decide))))
  exact own_retV X604 hx Bd.returns (hb hby d11_21) hlk (by rw [e604]; exact ⟨rfl, N606, c607, c608, c609, c610, c611, F605, c612, c613, c614⟩) (by first | decide | (dsimp only; omega)) (by first | decide | (dsimp only; omega))
def Q_own_named1 (Z : State) (f : Addr) (f2 : Addr) (h0 : Heap) (n0 : Nat) (v : Option Value) (h : Heap) (L : List Loc) : Prop := ∃ (a : Addr), v = some (.ref a) ∧ Fr n0 L ∧ Keep h0 h [] ∧ h0.size ≤ a ∧ Exa Z h a "com/example/kvasir/kvasir/jpql/InputParameter" ∧ Fld Z h a "com/example/kvasir/kvasir/jpql/Expression" "position" "Lcom/example/kvasir/kvasir/jpql/Position;" (.ref f2) ∧ Fld Z h a "com/example/kvasir/kvasir/jpql/InputParameter" "name" "Ljava/lang/String;" (.ref f) ∧ Fld Z h a "com/example/kvasir/kvasir/jpql/InputParameter" "number" "I" (.int (0 : Int32)) ∧ Fld Z h a "com/example/kvasir/kvasir/jpql/InputParameter" "collectionValued" "Z" (.int (1 : Int32)) ∧ Fld Z h a "com/example/kvasir/kvasir/jpql/InputParameter" "bound" "Z" (.int (0 : Int32)) ∧ Fld Z h a "com/example/kvasir/kvasir/jpql/InputParameter" "value" "Ljava/lang/Object;" .null ∧ Fld Z h a "com/example/kvasir/kvasir/jpql/InputParameter" "members" "Ljava/util/List;" .null
set_option maxRecDepth 65536 in
set_option maxHeartbeats 40000000 in
theorem own_named1 (l : Launch) (Z : State) (a0 : Array Value) (hw : ∀ d ∈ tables_1, d.before a0 Z = true) (ws : List Jvm.Cond) (f : Addr) (f2 : Addr) (h0 : Heap) (n0 : Nat) (Z0 : n0 ≤ h0.size)  :
    MetFree l (⟨"com/example/kvasir/kvasir/jpql/InputParameter", "named", "(Ljava/lang/String;ZLcom/example/kvasir/kvasir/jpql/Position;)Lcom/example/kvasir/kvasir/jpql/InputParameter;"⟩ : MethodName) (head1 (Jvm.Cond.code (⟨"com/example/kvasir/kvasir/jpql/InputParameter", "named", "(Ljava/lang/String;ZLcom/example/kvasir/kvasir/jpql/Position;)Lcom/example/kvasir/kvasir/jpql/InputParameter;"⟩ : MethodName) prog_39_method_2_code 3 (some (.object "com/example/kvasir/kvasir/jpql/InputParameter")) :: ws) ({ frames := 3, cells := 1, slots := 9, locals := 42 } : Room)) (fun ag U => ag = #[(.ref f), (.int (1 : Int32)), (.ref f2)] ∧ Z.Warmed39 U.vm ∧ U.heap = h0) (fun _ _ _ _ _ => True) (fun _ U o U' => ∃ v L, o = .returned v ∧ Q_own_named1 Z f f2 h0 n0 v U'.heap L ∧ FrameEnd U o U' L ({ frames := 3, cells := 1, slots := 9, locals := 42 } : Room).cells ({ frames := 3, cells := 1, slots := 9, locals := 42 } : Room).slots) := by
  refine own_body (plainFor_of_name pn_7) ?_
  intro p e s m below meth c s₁ Bd hml hZ e0
  have hx := Bd.exec
  have hby := Bd.bytes
  have hlk : meth.locks = false := BodyLoose.notSynchronized Bd
  have hown : s.vm.findClass "com/example/kvasir/kvasir/jpql/InputParameter" = some m.cls := findClass_of_methodNamed Bd.named
  have hnm := (name_of_methodNamed Bd.named Bd.method).1
  have X0 : Stand p l e ({ frames := 3, cells := 1, slots := 9, locals := 42 } : Room) s m #[(.ref f), (.int (1 : Int32)), (.ref f2)] below meth c s₁ [] 0 0 := Stand.of_body Bd
  have N0 := Fr.nil n0
  have KP0 : Keep h0 h0 [] := Keep.refl h0 []
  refine own_cast (g' := (mkF m 0 #[.val (.ref f), .val (.int (1 : Int32)), .val (.ref f2)] [])) (by first | (simp [entryFrame, mkF, argsToLocals, own_cat_int, own_cat_long, own_cat_ref, own_cat_null]; done) | rfl) ?_
  obtain ⟨T615, h615, X615, e615, E615, A615, D615, -, st615⟩ := newO X0 hx hZ hown (w55 hw) (w56 hw) (w53 hw) e0 (g := (mkF m 0 #[.val (.ref f), .val (.int (1 : Int32)), .val (.ref f2)] [])) rfl (hb hby d10_0) (by first | decide | (dsimp only; omega)) (by first | decide | (dsimp only; omega))
  obtain ⟨b615, g615⟩ : ∃ z, z = h0.size := ⟨_, rfl⟩
  rw [← g615] at A615 D615 st615
  have n0_616 : n0 ≤ b615 := Nat.le_trans Z0 (Nat.le_of_eq g615.symm)
  have sz0_617 := Nat.le_trans KP0.1 (Nat.le_of_eq g615.symm)
  have ltb615 := A615.lt
  have F618 : Fld Z h615 b615 "com/example/kvasir/kvasir/jpql/Expression" "position" "Lcom/example/kvasir/kvasir/jpql/Position;" .null := D615 (Or.inl (w67 hw)) (ty := (.object "com/example/kvasir/kvasir/jpql/Position")) (by decide)
  have F619 : Fld Z h615 b615 "com/example/kvasir/kvasir/jpql/InputParameter" "name" "Ljava/lang/String;" .null := D615 (Or.inr (w69 hw)) (ty := (.object "java/lang/String")) (by decide)
  have F620 : Fld Z h615 b615 "com/example/kvasir/kvasir/jpql/InputParameter" "number" "I" (.int (0 : Int32)) := D615 (Or.inr (w71 hw)) (ty := .int) (by decide)
  have F621 : Fld Z h615 b615 "com/example/kvasir/kvasir/jpql/InputParameter" "collectionValued" "Z" (.int (0 : Int32)) := D615 (Or.inr (w73 hw)) (ty := .boolean) (by decide)
  have F622 : Fld Z h615 b615 "com/example/kvasir/kvasir/jpql/InputParameter" "bound" "Z" (.int (0 : Int32)) := D615 (Or.inl (w222 hw)) (ty := .boolean) (by decide)
  have F623 : Fld Z h615 b615 "com/example/kvasir/kvasir/jpql/InputParameter" "value" "Ljava/lang/Object;" .null := D615 (Or.inl (w229 hw)) (ty := (.object "java/lang/Object")) (by decide)
  have F624 : Fld Z h615 b615 "com/example/kvasir/kvasir/jpql/InputParameter" "members" "Ljava/util/List;" .null := D615 (Or.inl (w236 hw)) (ty := (.object "java/util/List")) (by decide)
  refine own_step (T' := T615) (g' := (mkF m 3 #[.val (.ref f), .val (.int (1 : Int32)), .val (.ref f2)] [(.ref b615)])) st615 ?_
  refine own_step (T' := T615) (g' := (mkF m 4 #[.val (.ref f), .val (.int (1 : Int32)), .val (.ref f2)] [(.ref b615), (.ref b615)])) (fun _ q => XS.dup X615.here hx rfl (hb hby d10_3) rfl rfl q) ?_
  refine own_step (T' := T615) (g' := (mkF m 5 #[.val (.ref f), .val (.int (1 : Int32)), .val (.ref f2)] [(.ref f), (.ref b615), (.ref b615)])) (fun _ q => XS.aloadN X615.here hx rfl (hb hby d10_4) rfl rfl q) ?_
  refine own_step (T' := T615) (g' := (mkF m 6 #[.val (.ref f), .val (.int (1 : Int32)), .val (.ref f2)] [(.int (0 : Int32)), (.ref f), (.ref b615), (.ref b615)])) (fun _ q => XS.iconst X615.here hx rfl (hb hby d10_5) q) ?_
  refine own_step (T' := T615) (g' := (mkF m 7 #[.val (.ref f), .val (.int (1 : Int32)), .val (.ref f2)] [(.int (1 : Int32)), (.int (0 : Int32)), (.ref f), (.ref b615), (.ref b615)])) (fun _ q => XS.iloadN X615.here hx rfl (hb hby d10_6) rfl q) ?_
  refine own_step (T' := T615) (g' := (mkF m 8 #[.val (.ref f), .val (.int (1 : Int32)), .val (.ref f2)] [(.ref f2), (.int (1 : Int32)), (.int (0 : Int32)), (.ref f), (.ref b615), (.ref b615)])) (fun _ q => XS.aloadN X615.here hx rfl (hb hby d10_7) rfl rfl q) ?_
  have c625 := (Nat.le_trans Z0 E615.1)
  refine own_callC X615 hx hZ hown rfl (w57 hw) (w58 hw) (w59 hw) (by decide) (backOf (W := 1) (own_ipi1 l Z a0 hw [] b615 f f2 h615 n0 c625 A615 n0_616 F618 F619 F620 F621 F622 F623 F624) hZ (w59 hw) (w53 hw) (Nat.le_of_ble_eq_true rfl) (Nat.le_of_ble_eq_true rfl)) e615  (by first | decide | (dsimp only; omega)) (by first | decide | (dsimp only; omega)) (g := (mkF m 8 #[.val (.ref f), .val (.int (1 : Int32)), .val (.ref f2)] [(.ref f2), (.int (1 : Int32)), (.int (0 : Int32)), (.ref f), (.ref b615), (.ref b615)])) (argsL := [(.ref f), (.int (0 : Int32)), (.int (1 : Int32)), (.ref f2)]) (rest := [(.ref b615)]) rfl (by rw [hml]; rfl) (lenOf pd_17 rfl) rfl rfl (by show 2 * 0 + _ ≤ _; exact Nat.le_of_eq rfl) (hb hby d10_8) ?_
  rintro _ T626 L626 X626 ⟨rfl, N626q, K626, f0_626, f1_626, f2_626, f3_626, f4_626, f5_626, f6_626, f7_626⟩
  have N627 := Fr.app N0 N626q
  show own_Fin p e below _ T626 (mkF m 11 #[.val (.ref f), .val (.int (1 : Int32)), .val (.ref f2)] [(.ref b615)])
  have c628 := ((KP0.ext E615).trans K626 (allS (Or.inr sz0_617) all0))
  exact own_retA X626 hx Bd.returns rfl rfl (hb hby d10_11) hlk ⟨b615, rfl, N627, c628, sz0_617, f0_626, f1_626, f2_626, f3_626, f4_626, f5_626, f6_626, f7_626⟩ (by first | decide | (dsimp only; omega)) (by first | decide | (dsimp only; omega))
def Q_own_icv1 (Z : State) (a : Addr) (h0 : Heap) (n0 : Nat) (v : Option Value) (h : Heap) (L : List Loc) : Prop := v = some (.int (1 : Int32)) ∧ Fr n0 L ∧ h = h0
set_option maxRecDepth 65536 in
set_option maxHeartbeats 40000000 in
theorem own_icv1 (l : Launch) (Z : State) (a0 : Array Value) (hw : ∀ d ∈ tables_1, d.before a0 Z = true) (ws : List Jvm.Cond) (a : Addr) (h0 : Heap) (n0 : Nat) (Z0 : n0 ≤ h0.size) (F_collectionValued_a : Fld Z h0 a "com/example/kvasir/kvasir/jpql/InputParameter" "collectionValued" "Z" (.int (1 : Int32))) :
    MetFree l (⟨"com/example/kvasir/kvasir/jpql/InputParameter", "isCollectionValued", "()Z"⟩ : MethodName) (head1 (Jvm.Cond.code (⟨"com/example/kvasir/kvasir/jpql/InputParameter", "isCollectionValued", "()Z"⟩ : MethodName) prog_39_method_6_code 1 (some .boolean) :: ws) ({ frames := 0, cells := 0, slots := 0, locals := 0 } : Room)) (fun ag U => ag = #[(.ref a)] ∧ Z.Warmed39 U.vm ∧ U.heap = h0) (fun _ _ _ _ _ => True) (fun _ U o U' => ∃ v L, o = .returned v ∧ Q_own_icv1 Z a h0 n0 v U'.heap L ∧ FrameEnd U o U' L ({ frames := 0, cells := 0, slots := 0, locals := 0 } : Room).cells ({ frames := 0, cells := 0, slots := 0, locals := 0 } : Room).slots) := by
  refine own_body (plainFor_of_name pn_7) ?_
  intro p e s m below meth c s₁ Bd hml hZ e0
  have hx := Bd.exec
  have hby := Bd.bytes
  have hlk : meth.locks = false := BodyLoose.notSynchronized Bd
  have hown : s.vm.findClass "com/example/kvasir/kvasir/jpql/InputParameter" = some m.cls := findClass_of_methodNamed Bd.named
  have hnm := (name_of_methodNamed Bd.named Bd.method).1
  have X0 : Stand p l e ({ frames := 0, cells := 0, slots := 0, locals := 0 } : Room) s m #[(.ref a)] below meth c s₁ [] 0 0 := Stand.of_body Bd
  have N0 := Fr.nil n0
  have KP0 : Keep h0 h0 [] := Keep.refl h0 []
  have lt_a := F_collectionValued_a.lt
  refine own_cast (g' := (mkF m 0 #[.val (.ref a)] [])) (by first | (simp [entryFrame, mkF, argsToLocals, own_cat_int, own_cat_long, own_cat_ref, own_cat_null]; done) | rfl) ?_
  refine own_step (T' := s₁) (g' := (mkF m 1 #[.val (.ref a)] [(.ref a)])) (fun _ q => XS.aloadN X0.here hx rfl (hb hby d38_0) rfl rfl q) ?_
  obtain ⟨T629, X629, e629, st629⟩ := getF X0 hx hZ hown (host := "") (Or.inl (w72 hw)) Via.refl e0 F_collectionValued_a (g := (mkF m 1 #[.val (.ref a)] [(.ref a)])) rfl rfl (hb hby d38_1)
  refine own_step (T' := T629) (g' := (mkF m 4 #[.val (.ref a)] [(.int (1 : Int32))])) st629 ?_
  exact own_retN X629 hx Bd.returns (by simp) (hb hby d38_4) hlk ⟨rfl, N0, e629⟩ (by first | decide | (dsimp only; omega)) (by first | decide | (dsimp only; omega))
theorem d13_0 : decode prog_39_method_4_code 0 = .ok (.aload_n 0, 1) := by decide +kernel
theorem d13_1 : decode prog_39_method_4_code 1 = .ok (.getfield 7, 3) := by decide +kernel
theorem d13_4 : decode prog_39_method_4_code 4 = .ok (.areturn, 1) := by decide +kernel
def Q_own_g_getName (Z : State) (a : Addr) (f : Addr) (h0 : Heap) (n0 : Nat) (v : Option Value) (h : Heap) (L : List Loc) : Prop := v = some (.ref f) ∧ Fr n0 L ∧ h = h0
set_option maxRecDepth 65536 in
set_option maxHeartbeats 40000000 in
theorem own_g_getName (l : Launch) (Z : State) (a0 : Array Value) (hw : ∀ d ∈ tables_1, d.before a0 Z = true) (ws : List Jvm.Cond) (a : Addr) (f : Addr) (h0 : Heap) (n0 : Nat) (Z0 : n0 ≤ h0.size) (F_name_a : Fld Z h0 a "com/example/kvasir/kvasir/jpql/InputParameter" "name" "Ljava/lang/String;" (.ref f)) :
    MetFree l (⟨"com/example/kvasir/kvasir/jpql/InputParameter", "getName", "()Ljava/lang/String;"⟩ : MethodName) (head1 (Jvm.Cond.code (⟨"com/example/kvasir/kvasir/jpql/InputParameter", "getName", "()Ljava/lang/String;"⟩ : MethodName) prog_39_method_4_code 1 (some (.object "java/lang/String")) :: ws) ({ frames := 0, cells := 0, slots := 0, locals := 0 } : Room)) (fun ag U => ag = #[(.ref a)] ∧ Z.Warmed39 U.vm ∧ U.heap = h0) (fun _ _ _ _ _ => True) (fun _ U o U' => ∃ v L, o = .returned v ∧ Q_own_g_getName Z a f h0 n0 v U'.heap L ∧ FrameEnd U o U' L ({ frames := 0, cells := 0, slots := 0, locals := 0 } : Room).cells ({ frames := 0, cells := 0, slots := 0, locals := 0 } : Room).slots) := by
  refine own_body (plainFor_of_name pn_7) ?_
  intro p e s m below meth c s₁ Bd hml hZ e0
  have hx := Bd.exec
  have hby := Bd.bytes
  have hlk : meth.locks = false := BodyLoose.notSynchronized Bd
  have hown : s.vm.findClass "com/example/kvasir/kvasir/jpql/InputParameter" = some m.cls := findClass_of_methodNamed Bd.named
  have hnm := (name_of_methodNamed Bd.named Bd.method).1
  have X0 : Stand p l e ({ frames := 0, cells := 0, slots := 0, locals := 0 } : Room) s m #[(.ref a)] below meth c s₁ [] 0 0 := Stand.of_body Bd
  have N0 := Fr.nil n0
  have KP0 : Keep h0 h0 [] := Keep.refl h0 []
  have lt_a := F_name_a.lt
  refine own_cast (g' := (mkF m 0 #[.val (.ref a)] [])) (by first | (simp [entryFrame, mkF, argsToLocals, own_cat_int, own_cat_long, own_cat_ref, own_cat_null]; done) | rfl) ?_
  refine own_step (T' := s₁) (g' := (mkF m 1 #[.val (.ref a)] [(.ref a)])) (fun _ q => XS.aloadN X0.here hx rfl (hb hby d13_0) rfl rfl q) ?_
  obtain ⟨T630, X630, e630, st630⟩ := getF X0 hx hZ hown (host := "") (Or.inl (w68 hw)) Via.refl e0 F_name_a (g := (mkF m 1 #[.val (.ref a)] [(.ref a)])) rfl rfl (hb hby d13_1)
  refine own_step (T' := T630) (g' := (mkF m 4 #[.val (.ref a)] [(.ref f)])) st630 ?_
  exact own_retA X630 hx Bd.returns rfl rfl (hb hby d13_4) hlk ⟨rfl, N0, e630⟩ (by first | decide | (dsimp only; omega)) (by first | decide | (dsimp only; omega))
theorem d37_0 : decode prog_39_method_5_code 0 = .ok (.aload_n 0, 1) := by decide +kernel
theorem d37_1 : decode prog_39_method_5_code 1 = .ok (.getfield 13, 3) := by decide +kernel
theorem d37_4 : decode prog_39_method_5_code 4 = .ok (.ireturn, 1) := by decide +kernel
def Q_own_g_getNumber (Z : State) (a : Addr) (h0 : Heap) (n0 : Nat) (v : Option Value) (h : Heap) (L : List Loc) : Prop := v = some (.int (0 : Int32)) ∧ Fr n0 L ∧ h = h0
set_option maxRecDepth 65536 in
set_option maxHeartbeats 40000000 in
theorem own_g_getNumber (l : Launch) (Z : State) (a0 : Array Value) (hw : ∀ d ∈ tables_1, d.before a0 Z = true) (ws : List Jvm.Cond) (a : Addr) (h0 : Heap) (n0 : Nat) (Z0 : n0 ≤ h0.size) (F_number_a : Fld Z h0 a "com/example/kvasir/kvasir/jpql/InputParameter" "number" "I" (.int (0 : Int32))) :
    MetFree l (⟨"com/example/kvasir/kvasir/jpql/InputParameter", "getNumber", "()I"⟩ : MethodName) (head1 (Jvm.Cond.code (⟨"com/example/kvasir/kvasir/jpql/InputParameter", "getNumber", "()I"⟩ : MethodName) prog_39_method_5_code 1 (some .int) :: ws) ({ frames := 0, cells := 0, slots := 0, locals := 0 } : Room)) (fun ag U => ag = #[(.ref a)] ∧ Z.Warmed39 U.vm ∧ U.heap = h0) (fun _ _ _ _ _ => True) (fun _ U o U' => ∃ v L, o = .returned v ∧ Q_own_g_getNumber Z a h0 n0 v U'.heap L ∧ FrameEnd U o U' L ({ frames := 0, cells := 0, slots := 0, locals := 0 } : Room).cells ({ frames := 0, cells := 0, slots := 0, locals := 0 } : Room).slots) := by
  refine own_body (plainFor_of_name pn_7) ?_
  intro p e s m below meth c s₁ Bd hml hZ e0
  have hx := Bd.exec
  have hby := Bd.bytes
  have hlk : meth.locks = false := BodyLoose.notSynchronized Bd
  have hown : s.vm.findClass "com/example/kvasir/kvasir/jpql/InputParameter" = some m.cls := findClass_of_methodNamed Bd.named
  have hnm := (name_of_methodNamed Bd.named Bd.method).1
  have X0 : Stand p l e ({ frames := 0, cells := 0, slots := 0, locals := 0 } : Room) s m #[(.ref a)] below meth c s₁ [] 0 0 := Stand.of_body Bd
  have N0 := Fr.nil n0
  have KP0 : Keep h0 h0 [] := Keep.refl h0 []
  have lt_a := F_number_a.lt
  refine own_cast (g' := (mkF m 0 #[.val (.ref a)] [])) (by first | (simp [entryFrame, mkF, argsToLocals, own_cat_int, own_cat_long, own_cat_ref, own_cat_null]; done) | rfl) ?_
  refine own_step (T' := s₁) (g' := (mkF m 1 #[.val (.ref a)] [(.ref a)])) (fun _ q => XS.aloadN X0.here hx rfl (hb hby d37_0) rfl rfl q) ?_
  obtain ⟨T631, X631, e631, st631⟩ := getF X0 hx hZ hown (host := "") (Or.inl (w70 hw)) Via.refl e0 F_number_a (g := (mkF m 1 #[.val (.ref a)] [(.ref a)])) rfl rfl (hb hby d37_1)
  refine own_step (T' := T631) (g' := (mkF m 4 #[.val (.ref a)] [(.int (0 : Int32))])) st631 ?_
  exact own_retI X631 hx Bd.returns (hb hby d37_4) hlk ⟨rfl, N0, e631⟩ (by first | decide | (dsimp only; omega)) (by first | decide | (dsimp only; omega))
theorem d40_0 : decode prog_39_method_7_code 0 = .ok (.aload_n 0, 1) := by decide +kernel
theorem d40_1 : decode prog_39_method_7_code 1 = .ok (.getfield 24, 3) := by decide +kernel
theorem d40_4 : decode prog_39_method_7_code 4 = .ok (.ireturn, 1) := by decide +kernel
def Q_own_g_isBound (Z : State) (a : Addr) (h0 : Heap) (n0 : Nat) (v : Option Value) (h : Heap) (L : List Loc) : Prop := v = some (.int (0 : Int32)) ∧ Fr n0 L ∧ h = h0
set_option maxRecDepth 65536 in
set_option maxHeartbeats 40000000 in
theorem own_g_isBound (l : Launch) (Z : State) (a0 : Array Value) (hw : ∀ d ∈ tables_1, d.before a0 Z = true) (ws : List Jvm.Cond) (a : Addr) (h0 : Heap) (n0 : Nat) (Z0 : n0 ≤ h0.size) (F_bound_a : Fld Z h0 a "com/example/kvasir/kvasir/jpql/InputParameter" "bound" "Z" (.int (0 : Int32))) :
    MetFree l (⟨"com/example/kvasir/kvasir/jpql/InputParameter", "isBound", "()Z"⟩ : MethodName) (head1 (Jvm.Cond.code (⟨"com/example/kvasir/kvasir/jpql/InputParameter", "isBound", "()Z"⟩ : MethodName) prog_39_method_7_code 1 (some .boolean) :: ws) ({ frames := 0, cells := 0, slots := 0, locals := 0 } : Room)) (fun ag U => ag = #[(.ref a)] ∧ Z.Warmed39 U.vm ∧ U.heap = h0) (fun _ _ _ _ _ => True) (fun _ U o U' => ∃ v L, o = .returned v ∧ Q_own_g_isBound Z a h0 n0 v U'.heap L ∧ FrameEnd U o U' L ({ frames := 0, cells := 0, slots := 0, locals := 0 } : Room).cells ({ frames := 0, cells := 0, slots := 0, locals := 0 } : Room).slots) := by
  refine own_body (plainFor_of_name pn_7) ?_
  intro p e s m below meth c s₁ Bd hml hZ e0
  have hx := Bd.exec
  have hby := Bd.bytes
  have hlk : meth.locks = false := BodyLoose.notSynchronized Bd
  have hown : s.vm.findClass "com/example/kvasir/kvasir/jpql/InputParameter" = some m.cls := findClass_of_methodNamed Bd.named
  have hnm := (name_of_methodNamed Bd.named Bd.method).1
  have X0 : Stand p l e ({ frames := 0, cells := 0, slots := 0, locals := 0 } : Room) s m #[(.ref a)] below meth c s₁ [] 0 0 := Stand.of_body Bd
  have N0 := Fr.nil n0
  have KP0 : Keep h0 h0 [] := Keep.refl h0 []
  have lt_a := F_bound_a.lt
  refine own_cast (g' := (mkF m 0 #[.val (.ref a)] [])) (by first | (simp [entryFrame, mkF, argsToLocals, own_cat_int, own_cat_long, own_cat_ref, own_cat_null]; done) | rfl) ?_
  refine own_step (T' := s₁) (g' := (mkF m 1 #[.val (.ref a)] [(.ref a)])) (fun _ q => XS.aloadN X0.here hx rfl (hb hby d40_0) rfl rfl q) ?_
  obtain ⟨T632, X632, e632, st632⟩ := getF X0 hx hZ hown (host := "") (Or.inl (w221 hw)) Via.refl e0 F_bound_a (g := (mkF m 1 #[.val (.ref a)] [(.ref a)])) rfl rfl (hb hby d40_1)
  refine own_step (T' := T632) (g' := (mkF m 4 #[.val (.ref a)] [(.int (0 : Int32))])) st632 ?_
  exact own_retN X632 hx Bd.returns (by simp) (hb hby d40_4) hlk ⟨rfl, N0, e632⟩ (by first | decide | (dsimp only; omega)) (by first | decide | (dsimp only; omega))
theorem d41_0 : decode prog_39_method_8_code 0 = .ok (.aload_n 0, 1) := by decide +kernel
theorem d41_1 : decode prog_39_method_8_code 1 = .ok (.getfield 27, 3) := by decide +kernel
theorem d41_4 : decode prog_39_method_8_code 4 = .ok (.areturn, 1) := by decide +kernel
def Q_own_g_getValue (Z : State) (a : Addr) (h0 : Heap) (n0 : Nat) (v : Option Value) (h : Heap) (L : List Loc) : Prop := v = some .null ∧ Fr n0 L ∧ h = h0
set_option maxRecDepth 65536 in
set_option maxHeartbeats 40000000 in
theorem own_g_getValue (l : Launch) (Z : State) (a0 : Array Value) (hw : ∀ d ∈ tables_1, d.before a0 Z = true) (ws : List Jvm.Cond) (a : Addr) (h0 : Heap) (n0 : Nat) (Z0 : n0 ≤ h0.size) (F_value_a : Fld Z h0 a "com/example/kvasir/kvasir/jpql/InputParameter" "value" "Ljava/lang/Object;" .null) :
    MetFree l (⟨"com/example/kvasir/kvasir/jpql/InputParameter", "getValue", "()Ljava/lang/Object;"⟩ : MethodName) (head1 (Jvm.Cond.code (⟨"com/example/kvasir/kvasir/jpql/InputParameter", "getValue", "()Ljava/lang/Object;"⟩ : MethodName) prog_39_method_8_code 1 (some (.object "java/lang/Object")) :: ws) ({ frames := 0, cells := 0, slots := 0, locals := 0 } : Room)) (fun ag U => ag = #[(.ref a)] ∧ Z.Warmed39 U.vm ∧ U.heap = h0) (fun _ _ _ _ _ => True) (fun _ U o U' => ∃ v L, o = .returned v ∧ Q_own_g_getValue Z a h0 n0 v U'.heap L ∧ FrameEnd U o U' L ({ frames := 0, cells := 0, slots := 0, locals := 0 } : Room).cells ({ frames := 0, cells := 0, slots := 0, locals := 0 } : Room).slots) := by
  refine own_body (plainFor_of_name pn_7) ?_
  intro p e s m below meth c s₁ Bd hml hZ e0
  have hx := Bd.exec
  have hby := Bd.bytes
  have hlk : meth.locks = false := BodyLoose.notSynchronized Bd
  have hown : s.vm.findClass "com/example/kvasir/kvasir/jpql/InputParameter" = some m.cls := findClass_of_methodNamed Bd.named
  have hnm := (name_of_methodNamed Bd.named Bd.method).1
  have X0 : Stand p l e ({ frames := 0, cells := 0, slots := 0, locals := 0 } : Room) s m #[(.ref a)] below meth c s₁ [] 0 0 := Stand.of_body Bd
  have N0 := Fr.nil n0
  have KP0 : Keep h0 h0 [] := Keep.refl h0 []
  have lt_a := F_value_a.lt
  refine own_cast (g' := (mkF m 0 #[.val (.ref a)] [])) (by first | (simp [entryFrame, mkF, argsToLocals, own_cat_int, own_cat_long, own_cat_ref, own_cat_null]; done) | rfl) ?_
  refine own_step (T' := s₁) (g' := (mkF m 1 #[.val (.ref a)] [(.ref a)])) (fun _ q => XS.aloadN X0.here hx rfl (hb hby d41_0) rfl rfl q) ?_
  obtain ⟨T633, X633, e633, st633⟩ := getF X0 hx hZ hown (host := "") (Or.inl (w228 hw)) Via.refl e0 F_value_a (g := (mkF m 1 #[.val (.ref a)] [(.ref a)])) rfl rfl (hb hby d41_1)
  refine own_step (T' := T633) (g' := (mkF m 4 #[.val (.ref a)] [.null])) st633 ?_
  exact own_retA X633 hx Bd.returns rfl rfl (hb hby d41_4) hlk ⟨rfl, N0, e633⟩ (by first | decide | (dsimp only; omega)) (by first | decide | (dsimp only; omega))
theorem d42_0 : decode prog_39_method_9_code 0 = .ok (.aload_n 0, 1) := by decide +kernel
theorem d42_1 : decode prog_39_method_9_code 1 = .ok (.getfield 31, 3) := by decide +kernel
theorem d42_4 : decode prog_39_method_9_code 4 = .ok (.areturn, 1) := by decide +kernel
def Q_own_g_getMembers (Z : State) (a : Addr) (h0 : Heap) (n0 : Nat) (v : Option Value) (h : Heap) (L : List Loc) : Prop := v = some .null ∧ Fr n0 L ∧ h = h0
set_option maxRecDepth 65536 in
set_option maxHeartbeats 40000000 in
theorem own_g_getMembers (l : Launch) (Z : State) (a0 : Array Value) (hw : ∀ d ∈ tables_1, d.before a0 Z = true) (ws : List Jvm.Cond) (a : Addr) (h0 : Heap) (n0 : Nat) (Z0 : n0 ≤ h0.size) (F_members_a : Fld Z h0 a "com/example/kvasir/kvasir/jpql/InputParameter" "members" "Ljava/util/List;" .null) :
    MetFree l (⟨"com/example/kvasir/kvasir/jpql/InputParameter", "getMembers", "()Ljava/util/List;"⟩ : MethodName) (head1 (Jvm.Cond.code (⟨"com/example/kvasir/kvasir/jpql/InputParameter", "getMembers", "()Ljava/util/List;"⟩ : MethodName) prog_39_method_9_code 1 (some (.object "java/util/List")) :: ws) ({ frames := 0, cells := 0, slots := 0, locals := 0 } : Room)) (fun ag U => ag = #[(.ref a)] ∧ Z.Warmed39 U.vm ∧ U.heap = h0) (fun _ _ _ _ _ => True) (fun _ U o U' => ∃ v L, o = .returned v ∧ Q_own_g_getMembers Z a h0 n0 v U'.heap L ∧ FrameEnd U o U' L ({ frames := 0, cells := 0, slots := 0, locals := 0 } : Room).cells ({ frames := 0, cells := 0, slots := 0, locals := 0 } : Room).slots) := by
  refine own_body (plainFor_of_name pn_7) ?_
  intro p e s m below meth c s₁ Bd hml hZ e0
  have hx := Bd.exec
  have hby := Bd.bytes
  have hlk : meth.locks = false := BodyLoose.notSynchronized Bd
  have hown : s.vm.findClass "com/example/kvasir/kvasir/jpql/InputParameter" = some m.cls := findClass_of_methodNamed Bd.named
  have hnm := (name_of_methodNamed Bd.named Bd.method).1
  have X0 : Stand p l e ({ frames := 0, cells := 0, slots := 0, locals := 0 } : Room) s m #[(.ref a)] below meth c s₁ [] 0 0 := Stand.of_body Bd
  have N0 := Fr.nil n0
  have KP0 : Keep h0 h0 [] := Keep.refl h0 []
  have lt_a := F_members_a.lt
  refine own_cast (g' := (mkF m 0 #[.val (.ref a)] [])) (by first | (simp [entryFrame, mkF, argsToLocals, own_cat_int, own_cat_long, own_cat_ref, own_cat_null]; done) | rfl) ?_
  refine own_step (T' := s₁) (g' := (mkF m 1 #[.val (.ref a)] [(.ref a)])) (fun _ q => XS.aloadN X0.here hx rfl (hb hby d42_0) rfl rfl q) ?_
  obtain ⟨T634, X634, e634, st634⟩ := getF X0 hx hZ hown (host := "") (Or.inl (w235 hw)) Via.refl e0 F_members_a (g := (mkF m 1 #[.val (.ref a)] [(.ref a)])) rfl rfl (hb hby d42_1)
  refine own_step (T' := T634) (g' := (mkF m 4 #[.val (.ref a)] [.null])) st634 ?_
  exact own_retA X634 hx Bd.returns rfl rfl (hb hby d42_4) hlk ⟨rfl, N0, e634⟩ (by first | decide | (dsimp only; omega)) (by first | decide | (dsimp only; omega))
theorem d39_0 : decode prog_31_method_2_code 0 = .ok (.aload_n 0, 1) := by decide +kernel
theorem d39_1 : decode prog_31_method_2_code 1 = .ok (.getfield 7, 3) := by decide +kernel
theorem d39_4 : decode prog_31_method_2_code 4 = .ok (.areturn, 1) := by decide +kernel
def Q_own_g_pos (Z : State) (a : Addr) (f : Addr) (h0 : Heap) (n0 : Nat) (v : Option Value) (h : Heap) (L : List Loc) : Prop := v = some (.ref f) ∧ Fr n0 L ∧ h = h0
set_option maxRecDepth 65536 in
set_option maxHeartbeats 40000000 in
theorem own_g_pos (l : Launch) (Z : State) (a0 : Array Value) (hw : ∀ d ∈ tables_1, d.before a0 Z = true) (ws : List Jvm.Cond) (a : Addr) (f : Addr) (h0 : Heap) (n0 : Nat) (Z0 : n0 ≤ h0.size) (F_position_a : Fld Z h0 a "com/example/kvasir/kvasir/jpql/Expression" "position" "Lcom/example/kvasir/kvasir/jpql/Position;" (.ref f)) :
    MetFree l (⟨"com/example/kvasir/kvasir/jpql/Expression", "getPosition", "()Lcom/example/kvasir/kvasir/jpql/Position;"⟩ : MethodName) (head1 (Jvm.Cond.code (⟨"com/example/kvasir/kvasir/jpql/Expression", "getPosition", "()Lcom/example/kvasir/kvasir/jpql/Position;"⟩ : MethodName) prog_31_method_2_code 1 (some (.object "com/example/kvasir/kvasir/jpql/Position")) :: ws) ({ frames := 0, cells := 0, slots := 0, locals := 0 } : Room)) (fun ag U => ag = #[(.ref a)] ∧ Z.Warmed39 U.vm ∧ U.heap = h0) (fun _ _ _ _ _ => True) (fun _ U o U' => ∃ v L, o = .returned v ∧ Q_own_g_pos Z a f h0 n0 v U'.heap L ∧ FrameEnd U o U' L ({ frames := 0, cells := 0, slots := 0, locals := 0 } : Room).cells ({ frames := 0, cells := 0, slots := 0, locals := 0 } : Room).slots) := by
  refine own_body (plainFor_of_name pn_6) ?_
  intro p e s m below meth c s₁ Bd hml hZ e0
  have hx := Bd.exec
  have hby := Bd.bytes
  have hlk : meth.locks = false := BodyLoose.notSynchronized Bd
  have hown : s.vm.findClass "com/example/kvasir/kvasir/jpql/Expression" = some m.cls := findClass_of_methodNamed Bd.named
  have hnm := (name_of_methodNamed Bd.named Bd.method).1
  have X0 : Stand p l e ({ frames := 0, cells := 0, slots := 0, locals := 0 } : Room) s m #[(.ref a)] below meth c s₁ [] 0 0 := Stand.of_body Bd
  have N0 := Fr.nil n0
  have KP0 : Keep h0 h0 [] := Keep.refl h0 []
  have lt_a := F_position_a.lt
  refine own_cast (g' := (mkF m 0 #[.val (.ref a)] [])) (by first | (simp [entryFrame, mkF, argsToLocals, own_cat_int, own_cat_long, own_cat_ref, own_cat_null]; done) | rfl) ?_
  refine own_step (T' := s₁) (g' := (mkF m 1 #[.val (.ref a)] [(.ref a)])) (fun _ q => XS.aloadN X0.here hx rfl (hb hby d39_0) rfl rfl q) ?_
  obtain ⟨T635, X635, e635, st635⟩ := getF X0 hx hZ hown (host := "") (Or.inl (w66 hw)) Via.refl e0 F_position_a (g := (mkF m 1 #[.val (.ref a)] [(.ref a)])) rfl rfl (hb hby d39_1)
  refine own_step (T' := T635) (g' := (mkF m 4 #[.val (.ref a)] [(.ref f)])) st635 ?_
  exact own_retA X635 hx Bd.returns rfl rfl (hb hby d39_4) hlk ⟨rfl, N0, e635⟩ (by first | decide | (dsimp only; omega)) (by first | decide | (dsimp only; omega))
theorem pd_18 : parseMethodDescriptor "()V" = some ⟨[], none⟩ := by decide +kernel
theorem pd_19 : parseMethodDescriptor "(Ljava/lang/String;)Ljava/lang/StringBuilder;" = some ⟨[(.object "java/lang/String")], some (.object "java/lang/StringBuilder")⟩ := by decide +kernel
theorem pd_20 : parseMethodDescriptor "()Ljava/lang/String;" = some ⟨[], some (.object "java/lang/String")⟩ := by decide +kernel
theorem d14_0 : decode prog_39_method_13_code 0 = .ok (.aload_n 0, 1) := by decide +kernel
theorem d14_1 : decode prog_39_method_13_code 1 = .ok (.getfield 7, 3) := by decide +kernel
theorem d14_4 : decode prog_39_method_13_code 4 = .ok (.ifnonnull 28, 3) := by decide +kernel
theorem d14_32 : decode prog_39_method_13_code 32 = .ok (.new 105, 3) := by decide +kernel
theorem d14_35 : decode prog_39_method_13_code 35 = .ok (.dup, 1) := by decide +kernel
theorem d14_36 : decode prog_39_method_13_code 36 = .ok (.invokespecial 107, 3) := by decide +kernel
theorem d14_39 : decode prog_39_method_13_code 39 = .ok (.ldc 129, 2) := by decide +kernel
theorem d14_41 : decode prog_39_method_13_code 41 = .ok (.invokevirtual 108, 3) := by decide +kernel
theorem d14_44 : decode prog_39_method_13_code 44 = .ok (.aload_n 0, 1) := by decide +kernel
theorem d14_45 : decode prog_39_method_13_code 45 = .ok (.getfield 7, 3) := by decide +kernel
theorem d14_48 : decode prog_39_method_13_code 48 = .ok (.invokevirtual 108, 3) := by decide +kernel
theorem d14_51 : decode prog_39_method_13_code 51 = .ok (.invokevirtual 116, 3) := by decide +kernel
theorem d14_54 : decode prog_39_method_13_code 54 = .ok (.areturn, 1) := by decide +kernel
def Q_own_pts (Z : State) (G1 : Int32) (G3 : Value) (a : Addr) (f : Addr) (t : Addr) (kb : ClassId) (ts : List Value) (h0 : Heap) (n0 : Nat) (v : Option Value) (h : Heap) (L : List Loc) : Prop := ∃ (r : Addr), ∃ (tr : Addr), ∃ (kr : ClassId), v = some (.ref r) ∧ Fr n0 L ∧ Keep h0 h [] ∧ h0.size ≤ r ∧ h0.size ≤ tr ∧ Exa Z h r "java/lang/String" ∧ Fld Z h r "java/lang/String" "value" "[B" (.ref tr) ∧ Fld Z h r "java/lang/String" "coder" "B" (.int (0 : Int32)) ∧ Arv Z h tr kr .byte (Int32.ofNat (([] ++ [Value.int (58 : Int32)]) ++ ts).length) (([] ++ [Value.int (58 : Int32)]) ++ ts) (.int 0)
set_option maxRecDepth 65536 in
set_option maxHeartbeats 40000000 in
theorem own_pts (l : Launch) (Z : State) (a0 : Array Value) (hw : ∀ d ∈ tables_1, d.before a0 Z = true) (ws : List Jvm.Cond) (G1 : Int32) (G3 : Value) (a : Addr) (f : Addr) (t : Addr) (kb : ClassId) (ts : List Value) (h0 : Heap) (n0 : Nat) (Z0 : n0 ≤ h0.size) (O2 : Sta Z Z.heap "java/lang/String" "COMPACT_STRINGS" "Z" (.int G1)) (O4 : Sta Z Z.heap "jdk/internal/util/Preconditions" "SIOOBE_FORMATTER" "Ljava/util/function/BiFunction;" G3) (P5 : ¬ (G1 = (0 : Int32))) (rG3 : G3.isRef = true) (OLD0 : Old Z n0 h0) (E_a : Exa Z h0 a "com/example/kvasir/kvasir/jpql/InputParameter") (F_name_a : Fld Z h0 a "com/example/kvasir/kvasir/jpql/InputParameter" "name" "Ljava/lang/String;" (.ref f)) (E_f : Exa Z h0 f "java/lang/String") (F_value_f : Fld Z h0 f "java/lang/String" "value" "[B" (.ref t)) (F_coder_f : Fld Z h0 f "java/lang/String" "coder" "B" (.int (0 : Int32))) (V_t : Arv Z h0 t kb .byte (Int32.ofNat ts.length) ts (.int 0)) (hbl : 1 + ts.length < 16) :
    MetFree l (⟨"com/example/kvasir/kvasir/jpql/InputParameter", "toString", "()Ljava/lang/String;"⟩ : MethodName) (head1 (Jvm.Cond.code (⟨"com/example/kvasir/kvasir/jpql/InputParameter", "toString", "()Ljava/lang/String;"⟩ : MethodName) prog_39_method_13_code 1 (some (.object "java/lang/String")) :: ws) ({ frames := 6, cells := 6, slots := 48, locals := 91 } : Room)) (fun ag U => ag = #[(.ref a)] ∧ Z.Warmed39 U.vm ∧ U.heap = h0 ∧ CHv Z own_EL U.vm h0) (fun _ _ _ _ _ => True) (fun _ U o U' => ∃ v L, o = .returned v ∧ Q_own_pts Z G1 G3 a f t kb ts h0 n0 v U'.heap L ∧ CHr Z own_EL U.vm U.heap U'.vm U'.heap ∧ ReturnedEndW U o U' L ({ frames := 6, cells := 6, slots := 48, locals := 91 } : Room).cells ({ frames := 6, cells := 6, slots := 48, locals := 91 } : Room).slots) := by
  refine own_bodyW (plainFor_of_name pn_7) ?_
  intro p e s m below meth c s₁ Bd hml hZ e0 hh0 CH0
  have hx := Bd.exec
  have hby := Bd.bytes
  have hlk : meth.locks = false := BodyLoose.notSynchronized Bd
  have hown : s.vm.findClass "com/example/kvasir/kvasir/jpql/InputParameter" = some m.cls := findClass_of_methodNamed Bd.named
  have hnm := (name_of_methodNamed Bd.named Bd.method).1
  have X0 : Stand p l e ({ frames := 6, cells := 6, slots := 48, locals := 91 } : Room) (s.setVm s.vm) m #[(.ref a)] below meth c s₁ [] 0 0 := Stand.of_body Bd
  have N0 := Fr.nil n0
  have hS := (State.WarmedH.refl s).since h0.size
  have hk0 : h0.size ≤ h0.size := Nat.le_refl _
  have KP0 : Keep h0 h0 [] := Keep.refl h0 []
  have lt_a := E_a.lt
  have lt_f := E_f.lt
  have lt_t := V_t.lt
  have ty_a_f : a ≠ f := (Exa.ne E_a E_f (by decide))
  have ty_a_t : a ≠ t := (Exa.neArv E_a V_t (w56 hw))
  have ty_f_t : f ≠ t := (Exa.neArv E_f V_t (w5 hw))
  refine own_cast (g' := (mkF m 0 #[.val (.ref a)] [])) (by first | (simp [entryFrame, mkF, argsToLocals, own_cat_int, own_cat_long, own_cat_ref, own_cat_null]; done) | rfl) ?_
  refine own_step (T' := s₁) (g' := (mkF m 1 #[.val (.ref a)] [(.ref a)])) (fun _ q => XS.aloadN X0.here hx rfl (hb hby d14_0) rfl rfl q) ?_
  obtain ⟨T636, X636, e636, st636⟩ := getF X0 hx hZ hown (host := "") (Or.inl (w68 hw)) Via.refl e0 F_name_a (g := (mkF m 1 #[.val (.ref a)] [(.ref a)])) rfl rfl (hb hby d14_1)
  refine own_step (T' := T636) (g' := (mkF m 4 #[.val (.ref a)] [(.ref f)])) st636 ?_
  refine own_step (T' := T636) (g' := (mkF m 32 #[.val (.ref a)] [])) (fun _ q => XT.ifnonnullYes X636.here hx rfl (pc0 := 4) (pc' := 32) rfl (hb hby d14_4) rfl (by decide) (by decide) q) ?_
  obtain ⟨T637, h637, X637, e637, E637, A637, D637, -, st637⟩ := newO X636 hx hZ hown (w84 hw) (w85 hw) (w86 hw) e636 (g := (mkF m 32 #[.val (.ref a)] [])) rfl (hb hby d14_32) (by first | decide | (dsimp only; omega)) (by first | decide | (dsimp only; omega))
  obtain ⟨b637, g637⟩ : ∃ z, z = h0.size := ⟨_, rfl⟩
  rw [← g637] at A637 D637 st637
  have n0_638 : n0 ≤ b637 := Nat.le_trans Z0 (Nat.le_of_eq g637.symm)
  have sz0_639 := Nat.le_trans KP0.1 (Nat.le_of_eq g637.symm)
  have ne640 : a ≠ b637 := own_ne lt_a (Nat.le_of_eq g637.symm)
  have ne641 : f ≠ b637 := own_ne lt_f (Nat.le_of_eq g637.symm)
  have ne642 : t ≠ b637 := own_ne lt_t (Nat.le_of_eq g637.symm)
  have sf643 : Safe Z own_EL _ _ b637 := Safe.new (EL := own_EL) (Z := Z) (vm := s.vm) (Nat.le_of_eq g637.symm)
  have CH644 := CH0.trans (CHr.ext E637 CH0.1)
  have ltb637 := A637.lt
  have F645 : Fld Z h637 b637 "java/lang/AbstractStringBuilder" "value" "[B" .null := D637 (Or.inl (w99 hw)) (ty := (.array .byte)) (by decide)
  have F646 : Fld Z h637 b637 "java/lang/AbstractStringBuilder" "coder" "B" (.int (0 : Int32)) := D637 (Or.inl (w101 hw)) (ty := .byte) (by decide)
  have F647 : Fld Z h637 b637 "java/lang/AbstractStringBuilder" "count" "I" (.int (0 : Int32)) := D637 (Or.inl (w124 hw)) (ty := .int) (by decide)
  refine own_step (T' := T637) (g' := (mkF m 35 #[.val (.ref a)] [(.ref b637)])) st637 ?_
  refine own_step (T' := T637) (g' := (mkF m 36 #[.val (.ref a)] [(.ref b637), (.ref b637)])) (fun _ q => XS.dup X637.here hx rfl (hb hby d14_35) rfl rfl q) ?_
  have c648 := (OLD0.ext E637)
  have c649 := (Nat.le_trans Z0 E637.1)
  refine own_callC X637 hx hZ hown rfl (w87 hw) (w88 hw) (w89 hw) (by decide) (backOf (W := 1) (own_sbi l Z a0 hw [] G1 G3 b637 h637 n0 c649 O2 O4 P5 rG3 c648 A637 n0_638 F645 F646 F647) hZ (w89 hw) (w86 hw) (Nat.le_of_ble_eq_true rfl) (Nat.le_of_ble_eq_true rfl)) e637  (by first | decide | (dsimp only; omega)) (by first | decide | (dsimp only; omega)) (g := (mkF m 36 #[.val (.ref a)] [(.ref b637), (.ref b637)])) (argsL := []) (rest := [(.ref b637)]) rfl (by rw [hml]; rfl) (lenOf pd_18 rfl) rfl rfl (by show 2 * 0 + _ ≤ _; exact Nat.le_of_eq rfl) (hb hby d14_36) ?_
  rintro _ T650 L650 X650 ⟨u650, ku650, rfl, N650q, K650, f0_650, f1_650, f2_650, f3_650, f4_650, f5_650⟩
  have n0_651 : n0 ≤ u650 := Nat.le_trans c649 f0_650
  have c652 := (KP0.ext E637)
  have sz0_653 := Nat.le_trans c652.1 f0_650
  have c654 := (own_lt lt_a E637.1)
  have ne655 : a ≠ u650 := own_ne c654 f0_650
  have c656 := (own_lt lt_f E637.1)
  have ne657 : f ≠ u650 := own_ne c656 f0_650
  have c658 := (own_lt lt_t E637.1)
  have ne659 : t ≠ u650 := own_ne c658 f0_650
  have ne660 : b637 ≠ u650 := own_ne ltb637 f0_650
  have sf661 : Safe Z own_EL _ _ u650 := Safe.new (EL := own_EL) (Z := Z) (vm := s.vm) f0_650
  have c663 := (Safe.ext E637 CH0.1 sf643)
  have CH662 := CH644.trans (CHr.keep K650 (sfS c663 sf0) CH644.1)
  have lt664 := f5_650.lt
  have N665 := Fr.app N0 N650q
  show own_Fin p e below _ T650 (mkF m 39 #[.val (.ref a)] [(.ref b637)])
  have c667 := (Nat.le_trans (Nat.le_trans hk0 E637.1) K650.1)
  obtain ⟨a666, T666, h666, k666, b666, kb666, X666, e666, E666, hS, hk666, hZ, hown, fE666, fC666, fV666, fA666, lta666, ltb666, C666, Li666, sf666, st666⟩ := ldcCH X650 hx hZ hown (w102 hw) (own_wS hw) rfl hS c667 (own_hEL hw) (by decide) CH662.1 (vs := [(.int (58 : Int32))]) (z := (1 : Int32)) ⟨by decide, by decide⟩ (by decide) rfl (g := (mkF m 39 #[.val (.ref a)] [(.ref b637)])) rfl (hb hby d14_39) (n := 4) (by decide) (by decide) (by first | decide | (dsimp only; omega)) (by first | decide | (dsimp only; omega))
  have CH668 := CH662.trans C666
  have c669 := (((E_a.ext E637).keep K650).ext E666)
  have ne670 := sf666 a (Safe.exa hZ.alike c669 (by decide) (by decide))
  have c671 := (CHr.safe C666 (own_lt ltb637 K650.1) (Safe.keep K650 (sfS c663 sf0) CH644.1 c663))
  have ne672 := sf666 b637 c671
  have c673 := (CHr.safe C666 lt664 (Safe.keep K650 (sfS c663 sf0) CH644.1 sf661))
  have ne674 := sf666 u650 c673
  refine own_step (T' := T666) (g' := (mkF m 41 #[.val (.ref a)] [(.ref a666), (.ref b637)])) st666 ?_
  have qV675 : ([(.int (58 : Int32))] : List Value) = [Value.int (58 : Int32)] := rfl
  have V675 : Arv Z h666 b666 kb666 .byte (1 : Int32) [Value.int (58 : Int32)] (.int 0) := own_fixv qV675 fA666
  have qV676 : ((1 : Int32) : Int32) = (Int32.ofNat ([Value.int (58 : Int32)] : List Value).length) := rfl
  have V676 : Arv Z h666 b666 kb666 .byte (Int32.ofNat ([Value.int (58 : Int32)] : List Value).length) [Value.int (58 : Int32)] (.int 0) := own_fixn qV676 V675
  have c677 := ((c648.keep K650 (allS n0_638 all0)).ext E666)
  have c678 := (f1_650.ext E666)
  have c679 := (f2_650.ext E666)
  have c680 := (f3_650.ext E666)
  have c681 := (f4_650.ext E666)
  have c682 := (f5_650.ext E666)
  have c683 := (Nat.le_trans (Nat.le_trans c649 K650.1) E666.1)
  refine own_callV (y := (⟨"java/lang/StringBuilder", "append", "(Ljava/lang/String;)Ljava/lang/StringBuilder;"⟩ : MethodName)) (z := (⟨"java/lang/StringBuilder", "append", "(Ljava/lang/String;)Ljava/lang/StringBuilder;"⟩ : MethodName)) X666 hx hZ hown (w103 hw) (w104 hw) (notFace_of_selects (args := #[]) (mvT hZ (w106 hw))) (w106 hw) (w105 hw) (by decide) (backOf (W := 0) (own_sbap l Z a0 hw [] G1 G3 b637 u650 ku650 [] a666 b666 kb666 [Value.int (58 : Int32)] h666 n0 c683 O2 O4 P5 rG3 c677 c678 c679 c680 c681 c682 fE666 fV666 fC666 V676 n0_638 n0_651 ((by simp only [List.length_append, List.length_nil, List.length_cons]; omega) : [].length + [Value.int (58 : Int32)].length ≤ 16)) hZ (w107 hw) (w86 hw) (Nat.le_of_ble_eq_true rfl) (Nat.le_of_ble_eq_true rfl)) e666 c678  (by first | decide | (dsimp only; omega)) (by first | decide | (dsimp only; omega)) (g := (mkF m 41 #[.val (.ref a)] [(.ref a666), (.ref b637)])) (argsL := [(.ref a666)]) (rest := []) rfl (by rw [hml]; rfl) (lenOf pd_19 rfl) rfl rfl (by show 2 * 0 + _ ≤ _; exact Nat.le_of_eq rfl) (hb hby d14_41) ?_
  rintro _ T684 L684 X684 ⟨rfl, N684q, K684, f0_684, f1_684, f2_684, f3_684, f4_684⟩
  have CH685 := CH668.trans (CHr.keep K684 (sfS c671 (sfS c673 sf0)) CH668.1)
  have N686 := Fr.app N665 N684q
  show own_Fin p e below _ T684 (mkF m 44 #[.val (.ref a)] [(.ref b637)])
  refine own_step (T' := T684) (g' := (mkF m 45 #[.val (.ref a)] [(.ref a), (.ref b637)])) (fun _ q => XS.aloadN X684.here hx rfl (hb hby d14_44) rfl rfl q) ?_
  have c687 := ((((F_name_a.ext E637).keep K650 (ninS ne640 nin0)).ext E666).keep K684 (ninS ne640 (ninS ne655 nin0)))
  obtain ⟨T688, X688, e688, st688⟩ := getF X684 hx hZ hown (host := "") (Or.inl (w68 hw)) Via.refl rfl c687 (g := (mkF m 45 #[.val (.ref a)] [(.ref a), (.ref b637)])) rfl rfl (hb hby d14_45)
  refine own_step (T' := T688) (g' := (mkF m 48 #[.val (.ref a)] [(.ref f), (.ref b637)])) st688 ?_
  have c689 := (c677.keep K684 (allS n0_638 (allS n0_651 all0)))
  have c690 := ((((E_f.ext E637).keep K650).ext E666).keep K684)
  have c691 := ((((F_value_f.ext E637).keep K650 (ninS ne641 nin0)).ext E666).keep K684 (ninS ne641 (ninS ne657 nin0)))
  have c692 := ((((F_coder_f.ext E637).keep K650 (ninS ne641 nin0)).ext E666).keep K684 (ninS ne641 (ninS ne657 nin0)))
  have c693 := ((((V_t.ext E637).keep K650 (ninS ne642 nin0)).ext E666).keep K684 (ninS ne642 (ninS ne659 nin0)))
  have c694 := (Nat.le_trans c683 K684.1)
  refine own_callV (y := (⟨"java/lang/StringBuilder", "append", "(Ljava/lang/String;)Ljava/lang/StringBuilder;"⟩ : MethodName)) (z := (⟨"java/lang/StringBuilder", "append", "(Ljava/lang/String;)Ljava/lang/StringBuilder;"⟩ : MethodName)) X688 hx hZ hown (w103 hw) (w104 hw) (notFace_of_selects (args := #[]) (mvT hZ (w106 hw))) (w106 hw) (w105 hw) (by decide) (backOf (W := 0) (own_sbap l Z a0 hw [] G1 G3 b637 u650 ku650 ([] ++ [Value.int (58 : Int32)]) f t kb ts T684.heap n0 c694 O2 O4 P5 rG3 c689 f0_684 f1_684 f2_684 f3_684 f4_684 c690 c691 c692 c693 n0_638 n0_651 ((by simp only [List.length_append, List.length_nil, List.length_cons]; omega) : ([] ++ [Value.int (58 : Int32)]).length + ts.length ≤ 16)) hZ (w107 hw) (w86 hw) (Nat.le_of_ble_eq_true rfl) (Nat.le_of_ble_eq_true rfl)) e688 f0_684  (by first | decide | (dsimp only; omega)) (by first | decide | (dsimp only; omega)) (g := (mkF m 48 #[.val (.ref a)] [(.ref f), (.ref b637)])) (argsL := [(.ref f)]) (rest := []) rfl (by rw [hml]; rfl) (lenOf pd_19 rfl) rfl rfl (by show 2 * 0 + _ ≤ _; exact Nat.le_of_eq rfl) (hb hby d14_48) ?_
  rintro _ T695 L695 X695 ⟨rfl, N695q, K695, f0_695, f1_695, f2_695, f3_695, f4_695⟩
  have c697 := (Safe.keep K684 (sfS c671 (sfS c673 sf0)) CH668.1 c673)
  have c698 := (Safe.keep K684 (sfS c671 (sfS c673 sf0)) CH668.1 c671)
  have CH696 := CH685.trans (CHr.keep K695 (sfS c698 (sfS c697 sf0)) CH685.1)
  have N699 := Fr.app N686 N695q
  show own_Fin p e below _ T695 (mkF m 51 #[.val (.ref a)] [(.ref b637)])
  have c700 := (c689.keep K695 (allS n0_638 (allS n0_651 all0)))
  have c701 := (Nat.le_trans c694 K695.1)
  refine own_callV (y := (⟨"java/lang/StringBuilder", "toString", "()Ljava/lang/String;"⟩ : MethodName)) (z := (⟨"java/lang/StringBuilder", "toString", "()Ljava/lang/String;"⟩ : MethodName)) X695 hx hZ hown (w150 hw) (w151 hw) (notFace_of_selects (args := #[]) (mvT hZ (w153 hw))) (w153 hw) (w152 hw) (by decide) (backOf (W := 0) (own_sts l Z a0 hw [] G1 G3 b637 u650 ku650 (([] ++ [Value.int (58 : Int32)]) ++ ts) T695.heap n0 c701 O2 O4 P5 rG3 c700 f0_695 f1_695 f2_695 f3_695 f4_695 ((by simp only [List.length_append, List.length_nil, List.length_cons]; omega) : (([] ++ [Value.int (58 : Int32)]) ++ ts).length < 16)) hZ (w154 hw) (w86 hw) (Nat.le_of_ble_eq_true rfl) (Nat.le_of_ble_eq_true rfl)) rfl f0_695  (by first | decide | (dsimp only; omega)) (by first | decide | (dsimp only; omega)) (g := (mkF m 51 #[.val (.ref a)] [(.ref b637)])) (argsL := []) (rest := []) rfl (by rw [hml]; rfl) (lenOf pd_20 rfl) rfl rfl (by show 2 * 0 + _ ≤ _; exact Nat.le_of_eq rfl) (hb hby d14_51) ?_
  rintro _ T702 L702 X702 ⟨r702, t702, kb702, rfl, N702q, K702, f0_702, f1_702, f2_702, f3_702, f4_702, f5_702⟩
  have n0_703 : n0 ≤ r702 := Nat.le_trans c701 f0_702
  have c704 := ((((c652.trans K650 (allS (Or.inr sz0_639) all0)).ext E666).trans K684 (allS (Or.inr sz0_639) (allS (Or.inr sz0_653) all0))).trans K695 (allS (Or.inr sz0_639) (allS (Or.inr sz0_653) all0)))
  have sz0_705 := Nat.le_trans c704.1 f0_702
  have c706 := (own_lt (own_lt (own_lt (own_lt c654 K650.1) E666.1) K684.1) K695.1)
  have ne707 : a ≠ r702 := own_ne c706 f0_702
  have c708 := (own_lt (own_lt (own_lt (own_lt c656 K650.1) E666.1) K684.1) K695.1)
  have ne709 : f ≠ r702 := own_ne c708 f0_702
  have c710 := (own_lt (own_lt (own_lt (own_lt c658 K650.1) E666.1) K684.1) K695.1)
  have ne711 : t ≠ r702 := own_ne c710 f0_702
  have c712 := (own_lt (own_lt (own_lt (own_lt ltb637 K650.1) E666.1) K684.1) K695.1)
  have ne713 : b637 ≠ r702 := own_ne c712 f0_702
  have c714 := (own_lt (own_lt (own_lt lt664 E666.1) K684.1) K695.1)
  have ne715 : u650 ≠ r702 := own_ne c714 f0_702
  have c716 := (own_lt (own_lt lta666 K684.1) K695.1)
  have ne717 : a666 ≠ r702 := own_ne c716 f0_702
  have c718 := (own_lt (own_lt ltb666 K684.1) K695.1)
  have ne719 : b666 ≠ r702 := own_ne c718 f0_702
  have sf720 : Safe Z own_EL _ _ r702 := Safe.new (EL := own_EL) (Z := Z) (vm := T666.vm) f0_702
  have n0_721 : n0 ≤ t702 := Nat.le_trans c701 f1_702
  have sz0_722 := Nat.le_trans c704.1 f1_702
  have ne723 : a ≠ t702 := own_ne c706 f1_702
  have ne724 : f ≠ t702 := own_ne c708 f1_702
  have ne725 : t ≠ t702 := own_ne c710 f1_702
  have ne726 : b637 ≠ t702 := own_ne c712 f1_702
  have ne727 : u650 ≠ t702 := own_ne c714 f1_702
  have ne728 : a666 ≠ t702 := own_ne c716 f1_702
  have ne729 : b666 ≠ t702 := own_ne c718 f1_702
  have sf730 : Safe Z own_EL _ _ t702 := Safe.new (EL := own_EL) (Z := Z) (vm := T666.vm) f1_702
  have CH731 := CH696.trans (CHr.keep K702 sf0 CH696.1)
  have lt732 := f2_702.lt
  have lt733 := f5_702.lt
  have N734 := Fr.app N699 N702q
  show own_Fin p e below _ T702 (mkF m 54 #[.val (.ref a)] [(.ref r702)])
  have c735 := (c704.trans K702 all0)
  have c736 := (Nat.le_trans (Nat.le_trans (Nat.le_trans hk666 K684.1) K695.1) K702.1)
  exact own_retAW X702 hx hZ (own_hEL hw) hS c736 CH731 Bd.returns rfl rfl (hb hby d14_54) hlk ⟨r702, t702, kb702, rfl, N734, c735, sz0_705, sz0_722, f2_702, f3_702, f4_702, f5_702⟩ (by first | decide | (dsimp only; omega)) (by first | decide | (dsimp only; omega))
theorem pn_8 : plainName "java/lang/StringLatin1" = true := by first | (simp [plainName, overriddenIn]; done) | decide +kernel
theorem d43_0 : decode jdk_43_method_13_code 0 = .ok (.aload_n 0, 1) := by decide +kernel
theorem d43_1 : decode jdk_43_method_13_code 1 = .ok (.arraylength, 1) := by decide +kernel
theorem d43_2 : decode jdk_43_method_13_code 2 = .ok (.aload_n 1, 1) := by decide +kernel
theorem d43_3 : decode jdk_43_method_13_code 3 = .ok (.arraylength, 1) := by decide +kernel
theorem d43_4 : decode jdk_43_method_13_code 4 = .ok (.if_icmp .ne 30, 3) := by decide +kernel
theorem d43_7 : decode jdk_43_method_13_code 7 = .ok (.iconst 0, 1) := by decide +kernel
theorem d43_8 : decode jdk_43_method_13_code 8 = .ok (.istore_n 2, 1) := by decide +kernel
theorem d43_9 : decode jdk_43_method_13_code 9 = .ok (.iload_n 2, 1) := by decide +kernel
theorem d43_10 : decode jdk_43_method_13_code 10 = .ok (.aload_n 0, 1) := by decide +kernel
theorem d43_11 : decode jdk_43_method_13_code 11 = .ok (.arraylength, 1) := by decide +kernel
theorem d43_12 : decode jdk_43_method_13_code 12 = .ok (.if_icmp .ge 20, 3) := by decide +kernel
theorem d43_15 : decode jdk_43_method_13_code 15 = .ok (.aload_n 0, 1) := by decide +kernel
theorem d43_16 : decode jdk_43_method_13_code 16 = .ok (.iload_n 2, 1) := by decide +kernel
theorem d43_17 : decode jdk_43_method_13_code 17 = .ok (.baload, 1) := by decide +kernel
theorem d43_18 : decode jdk_43_method_13_code 18 = .ok (.aload_n 1, 1) := by decide +kernel
theorem d43_19 : decode jdk_43_method_13_code 19 = .ok (.iload_n 2, 1) := by decide +kernel
theorem d43_20 : decode jdk_43_method_13_code 20 = .ok (.baload, 1) := by decide +kernel
theorem d43_21 : decode jdk_43_method_13_code 21 = .ok (.if_icmp .eq 5, 3) := by decide +kernel
theorem d43_26 : decode jdk_43_method_13_code 26 = .ok (.iinc 2 1, 3) := by decide +kernel
theorem d43_29 : decode jdk_43_method_13_code 29 = .ok (.goto (-20), 3) := by decide +kernel
theorem d43_32 : decode jdk_43_method_13_code 32 = .ok (.iconst 1, 1) := by decide +kernel
theorem d43_33 : decode jdk_43_method_13_code 33 = .ok (.ireturn, 1) := by decide +kernel
def Q_own_leq (Z : State) (t : Addr) (kb : ClassId) (u : Addr) (ku : ClassId) (cs : List Int32) (h0 : Heap) (n0 : Nat) (v : Option Value) (h : Heap) (L : List Loc) : Prop := v = some (.int (1 : Int32)) ∧ Fr n0 L ∧ Keep h0 h []
set_option maxRecDepth 65536 in
set_option maxHeartbeats 40000000 in
theorem own_leq (l : Launch) (Z : State) (a0 : Array Value) (hw : ∀ d ∈ tables_1, d.before a0 Z = true) (ws : List Jvm.Cond) (t : Addr) (kb : ClassId) (u : Addr) (ku : ClassId) (cs : List Int32) (h0 : Heap) (n0 : Nat) (Z0 : n0 ≤ h0.size) (V_t : Arv Z h0 t kb .byte (Int32.ofNat cs.length) (own_bs cs) (.int 0)) (V_u : Arv Z h0 u ku .byte (Int32.ofNat cs.length) (own_bs cs) (.int 0)) (hl : cs.length ≤ 400) :
    MetFree l (⟨"java/lang/StringLatin1", "equals", "([B[B)Z"⟩ : MethodName) (head1 (Jvm.Cond.code (⟨"java/lang/StringLatin1", "equals", "([B[B)Z"⟩ : MethodName) jdk_43_method_13_code 3 (some .boolean) :: ws) ({ frames := 0, cells := 0, slots := 0, locals := 0 } : Room)) (fun ag U => ag = #[(.ref t), (.ref u)] ∧ Z.Warmed39 U.vm ∧ U.heap = h0) (fun _ _ _ _ _ => True) (fun _ U o U' => ∃ v L, o = .returned v ∧ Q_own_leq Z t kb u ku cs h0 n0 v U'.heap L ∧ FrameEnd U o U' L ({ frames := 0, cells := 0, slots := 0, locals := 0 } : Room).cells ({ frames := 0, cells := 0, slots := 0, locals := 0 } : Room).slots) := by
  refine own_body (plainFor_of_name pn_8) ?_
  intro p e s m below meth c s₁ Bd hml hZ e0
  have hx := Bd.exec
  have hby := Bd.bytes
  have hlk : meth.locks = false := BodyLoose.notSynchronized Bd
  have hown : s.vm.findClass "java/lang/StringLatin1" = some m.cls := findClass_of_methodNamed Bd.named
  have hnm := (name_of_methodNamed Bd.named Bd.method).1
  have X0 : Stand p l e ({ frames := 0, cells := 0, slots := 0, locals := 0 } : Room) s m #[(.ref t), (.ref u)] below meth c s₁ [] 0 0 := Stand.of_body Bd
  have N0 := Fr.nil n0
  have KP0 : Keep h0 h0 [] := Keep.refl h0 []
  have lt_t := V_t.lt
  have lt_u := V_u.lt
  refine own_cast (g' := (mkF m 0 #[.val (.ref t), .val (.ref u), .unset] [])) (by first | (simp [entryFrame, mkF, argsToLocals, own_cat_int, own_cat_long, own_cat_ref, own_cat_null]; done) | rfl) ?_
  refine own_step (T' := s₁) (g' := (mkF m 1 #[.val (.ref t), .val (.ref u), .unset] [(.ref t)])) (fun _ q => XS.aloadN X0.here hx rfl (hb hby d43_0) rfl rfl q) ?_
  refine own_step (T' := s₁) (g' := (mkF m 2 #[.val (.ref t), .val (.ref u), .unset] [(.int (Int32.ofNat cs.length))])) (fun _ q => own_len X0 hx hZ e0 V_t (g := (mkF m 1 #[.val (.ref t), .val (.ref u), .unset] [(.ref t)])) rfl rfl (hb hby d43_1) _ q) ?_
  refine own_step (T' := s₁) (g' := (mkF m 3 #[.val (.ref t), .val (.ref u), .unset] [(.ref u), (.int (Int32.ofNat cs.length))])) (fun _ q => XS.aloadN X0.here hx rfl (hb hby d43_2) rfl rfl q) ?_
  refine own_step (T' := s₁) (g' := (mkF m 4 #[.val (.ref t), .val (.ref u), .unset] [(.int (Int32.ofNat cs.length)), (.int (Int32.ofNat cs.length))])) (fun _ q => own_len X0 hx hZ e0 V_u (g := (mkF m 3 #[.val (.ref t), .val (.ref u), .unset] [(.ref u), (.int (Int32.ofNat cs.length))])) rfl rfl (hb hby d43_3) _ q) ?_
  refine own_step (T' := s₁) (g' := (mkF m 7 #[.val (.ref t), .val (.ref u), .unset] [])) (fun _ q => XS.icmpNo X0.here hx rfl (hb hby d43_4) rfl (XT.ii_ne_f rfl) q) ?_
  refine own_step (T' := s₁) (g' := (mkF m 8 #[.val (.ref t), .val (.ref u), .unset] [(.int (0 : Int32))])) (fun _ q => XS.iconst X0.here hx rfl (hb hby d43_7) q) ?_
  refine own_step (T' := s₁) (g' := (mkF m 9 #[.val (.ref t), .val (.ref u), .val (.int (0 : Int32))] [])) (fun _ q => XS.istoreN X0.here hx rfl (hb hby d43_8) rfl (l' := #[.val (.ref t), .val (.ref u), .val (.int (0 : Int32))]) rfl q) ?_
  have lp_eq : ∀ (k_eq : Nat) (i : Nat) (T_eq : State) (h_eq : Heap) (L_eq : List Loc) (X_eq : Stand p l e ({ frames := 0, cells := 0, slots := 0, locals := 0 } : Room) s m #[(.ref t), (.ref u)] below meth c T_eq L_eq 0 0) (e_eq : T_eq.heap = h_eq) (N_eq : Fr n0 L_eq) (KL_eq : Keep h0 h_eq [])  (hil : i ≤ cs.length) (hk_eq : cs.length - i = k_eq), own_Fin p e below (own_G s (Q_own_leq Z t kb u ku cs h0 n0) ({ frames := 0, cells := 0, slots := 0, locals := 0 } : Room).cells ({ frames := 0, cells := 0, slots := 0, locals := 0 } : Room).slots) T_eq (mkF m 9 #[.val (.ref t), .val (.ref u), .val (.int (Int32.ofNat i))] []) := by
    intro k_eq
    induction k_eq using Nat.strongRecOn with | _ k_eq ih_eq => ?_
    intro i T_eq h_eq L_eq X_eq e_eq N_eq KL_eq  hil hk_eq
    subst hk_eq
    refine own_step (T' := T_eq) (g' := (mkF m 10 #[.val (.ref t), .val (.ref u), .val (.int (Int32.ofNat i))] [(.int (Int32.ofNat i))])) (fun _ q => XS.iloadN X_eq.here hx rfl (hb hby d43_9) rfl q) ?_
    refine own_step (T' := T_eq) (g' := (mkF m 11 #[.val (.ref t), .val (.ref u), .val (.int (Int32.ofNat i))] [(.ref t), (.int (Int32.ofNat i))])) (fun _ q => XS.aloadN X_eq.here hx rfl (hb hby d43_10) rfl rfl q) ?_
    have c737 := (V_t.keep KL_eq nin0)
    refine own_step (T' := T_eq) (g' := (mkF m 12 #[.val (.ref t), .val (.ref u), .val (.int (Int32.ofNat i))] [(.int (Int32.ofNat cs.length)), (.int (Int32.ofNat i))])) (fun _ q => own_len X_eq hx hZ e_eq c737 (g := (mkF m 11 #[.val (.ref t), .val (.ref u), .val (.int (Int32.ofNat i))] [(.ref t), (.int (Int32.ofNat i))])) rfl rfl (hb hby d43_11) _ q) ?_
    by_cases hc738 : (Int32.ofNat i) < (Int32.ofNat cs.length)
    · refine own_step (T' := T_eq) (g' := (mkF m 15 #[.val (.ref t), .val (.ref u), .val (.int (Int32.ofNat i))] [])) (fun _ q => XS.icmpNo X_eq.here hx rfl (hb hby d43_12) rfl (XT.ii_ge_f hc738) q) ?_
      refine own_step (T' := T_eq) (g' := (mkF m 16 #[.val (.ref t), .val (.ref u), .val (.int (Int32.ofNat i))] [(.ref t)])) (fun _ q => XS.aloadN X_eq.here hx rfl (hb hby d43_15) rfl rfl q) ?_
      refine own_step (T' := T_eq) (g' := (mkF m 17 #[.val (.ref t), .val (.ref u), .val (.int (Int32.ofNat i))] [(.int (Int32.ofNat i)), (.ref t)])) (fun _ q => XS.iloadN X_eq.here hx rfl (hb hby d43_16) rfl q) ?_
      refine own_step (T' := T_eq) (g' := (mkF m 18 #[.val (.ref t), .val (.ref u), .val (.int (Int32.ofNat i))] [(.int (StrChars.lo8 (cs.getD i 0)))])) (fun _ q => own_ldB X_eq hx hZ e_eq c737 (j := (Int32.ofNat i)) (own_ixin (own_nneg (by omega)) (by rw [own_nat (by omega)]; exact ((own_ltN (by omega) (by omega)).mp hc738))) (v := (.int (StrChars.lo8 (cs.getD i 0)))) (by rw [own_nat (by omega)]; exact own_low_at ((own_ltN (by omega) (by omega)).mp hc738)) (g := (mkF m 17 #[.val (.ref t), .val (.ref u), .val (.int (Int32.ofNat i))] [(.int (Int32.ofNat i)), (.ref t)])) rfl rfl (hb hby d43_17) _ q) ?_
      refine own_step (T' := T_eq) (g' := (mkF m 19 #[.val (.ref t), .val (.ref u), .val (.int (Int32.ofNat i))] [(.ref u), (.int (StrChars.lo8 (cs.getD i 0)))])) (fun _ q => XS.aloadN X_eq.here hx rfl (hb hby d43_18) rfl rfl q) ?_
      refine own_step (T' := T_eq) (g' := (mkF m 20 #[.val (.ref t), .val (.ref u), .val (.int (Int32.ofNat i))] [(.int (Int32.ofNat i)), (.ref u), (.int (StrChars.lo8 (cs.getD i 0)))])) (fun _ q => XS.iloadN X_eq.here hx rfl (hb hby d43_19) rfl q) ?_
      have c739 := (V_u.keep KL_eq nin0)
      refine own_step (T' := T_eq) (g' := (mkF m 21 #[.val (.ref t), .val (.ref u), .val (.int (Int32.ofNat i))] [(.int (StrChars.lo8 (cs.getD i 0))), (.int (StrChars.lo8 (cs.getD i 0)))])) (fun _ q => own_ldB X_eq hx hZ e_eq c739 (j := (Int32.ofNat i)) (own_ixin (own_nneg (by omega)) (by rw [own_nat (by omega)]; exact ((own_ltN (by omega) (by omega)).mp hc738))) (v := (.int (StrChars.lo8 (cs.getD i 0)))) (by rw [own_nat (by omega)]; exact own_low_at ((own_ltN (by omega) (by omega)).mp hc738)) (g := (mkF m 20 #[.val (.ref t), .val (.ref u), .val (.int (Int32.ofNat i))] [(.int (Int32.ofNat i)), (.ref u), (.int (StrChars.lo8 (cs.getD i 0)))])) rfl rfl (hb hby d43_20) _ q) ?_
      refine own_step (T' := T_eq) (g' := (mkF m 26 #[.val (.ref t), .val (.ref u), .val (.int (Int32.ofNat i))] [])) (fun _ q => XS.icmpYes X_eq.here hx rfl (pc0 := 21) (pc' := 26) rfl (hb hby d43_21) rfl (XT.ii_eq_t rfl) (by decide) (by decide) q) ?_
      refine own_step (T' := T_eq) (g' := (mkF m 29 #[.val (.ref t), .val (.ref u), .val (.int ((Int32.ofNat i) + (1 : Int32)))] [])) (fun _ q => XS.iinc X_eq.here hx rfl (hb hby d43_26) rfl (l' := #[.val (.ref t), .val (.ref u), .val (.int ((Int32.ofNat i) + (1 : Int32)))]) rfl q) ?_
      rw [show ((Int32.ofNat i) + (1 : Int32)) = (Int32.ofNat (i + 1)) from (own_inc _)]
      refine own_step (T' := T_eq) (g' := (mkF m 9 #[.val (.ref t), .val (.ref u), .val (.int (Int32.ofNat (i + 1)))] [])) (fun _ q => XS.goto X_eq.here hx rfl (pc0 := 29) (pc' := 9) rfl (hb hby d43_29) (by decide) (by decide) q) ?_
      exact ih_eq _ (by have := ((own_ltN (by omega) (by omega)).mp hc738); omega) (i + 1) T_eq h_eq _ X_eq e_eq N_eq KL_eq  (by have := ((own_ltN (by omega) (by omega)).mp hc738); omega) rfl
    · refine own_step (T' := T_eq) (g' := (mkF m 32 #[.val (.ref t), .val (.ref u), .val (.int (Int32.ofNat i))] [])) (fun _ q => XS.icmpYes X_eq.here hx rfl (pc0 := 12) (pc' := 32) rfl (hb hby d43_12) rfl (XT.ii_ge_t hc738) (by decide) (by decide) q) ?_
      refine own_step (T' := T_eq) (g' := (mkF m 33 #[.val (.ref t), .val (.ref u), .val (.int (Int32.ofNat i))] [(.int (1 : Int32))])) (fun _ q => XS.iconst X_eq.here hx rfl (hb hby d43_32) q) ?_
      have c740 := (KP0.trans KL_eq all0)
      exact own_retN X_eq hx Bd.returns (by simp) (hb hby d43_33) hlk (by rw [e_eq]; exact ⟨rfl, N_eq, c740⟩) (by first | decide | (dsimp only; omega)) (by first | decide | (dsimp only; omega))
  exact lp_eq _ (0) s₁ h0 _ X0 e0 N0 (Keep.refl h0 [])  (Nat.zero_le _) rfl
theorem d36_0 : decode jdk_42_method_66_code 0 = .ok (.aload_n 0, 1) := by decide +kernel
theorem d36_1 : decode jdk_42_method_66_code 1 = .ok (.aload_n 1, 1) := by decide +kernel
theorem d36_2 : decode jdk_42_method_66_code 2 = .ok (.if_acmp .ne 5, 3) := by decide +kernel
theorem d36_5 : decode jdk_42_method_66_code 5 = .ok (.iconst 1, 1) := by decide +kernel
theorem d36_6 : decode jdk_42_method_66_code 6 = .ok (.ireturn, 1) := by decide +kernel
def Q_own_eqs (Z : State) (a : Addr) (h0 : Heap) (n0 : Nat) (v : Option Value) (h : Heap) (L : List Loc) : Prop := v = some (.int (1 : Int32)) ∧ Fr n0 L ∧ h = h0
set_option maxRecDepth 65536 in
set_option maxHeartbeats 40000000 in
theorem own_eqs (l : Launch) (Z : State) (a0 : Array Value) (hw : ∀ d ∈ tables_1, d.before a0 Z = true) (ws : List Jvm.Cond) (a : Addr) (h0 : Heap) (n0 : Nat) (Z0 : n0 ≤ h0.size)  :
    MetFree l (⟨"java/lang/String", "equals", "(Ljava/lang/Object;)Z"⟩ : MethodName) (head1 (Jvm.Cond.code (⟨"java/lang/String", "equals", "(Ljava/lang/Object;)Z"⟩ : MethodName) jdk_42_method_66_code 3 (some .boolean) :: ws) ({ frames := 0, cells := 0, slots := 0, locals := 0 } : Room)) (fun ag U => ag = #[(.ref a), (.ref a)] ∧ Z.Warmed39 U.vm ∧ U.heap = h0) (fun _ _ _ _ _ => True) (fun _ U o U' => ∃ v L, o = .returned v ∧ Q_own_eqs Z a h0 n0 v U'.heap L ∧ FrameEnd U o U' L ({ frames := 0, cells := 0, slots := 0, locals := 0 } : Room).cells ({ frames := 0, cells := 0, slots := 0, locals := 0 } : Room).slots) := by
  refine own_body (plainFor_of_name pn_0) ?_
  intro p e s m below meth c s₁ Bd hml hZ e0
  have hx := Bd.exec
  have hby := Bd.bytes
  have hlk : meth.locks = false := BodyLoose.notSynchronized Bd
  have hown : s.vm.findClass "java/lang/String" = some m.cls := findClass_of_methodNamed Bd.named
  have hnm := (name_of_methodNamed Bd.named Bd.method).1
  have X0 : Stand p l e ({ frames := 0, cells := 0, slots := 0, locals := 0 } : Room) s m #[(.ref a), (.ref a)] below meth c s₁ [] 0 0 := Stand.of_body Bd
  have N0 := Fr.nil n0
  have KP0 : Keep h0 h0 [] := Keep.refl h0 []
  refine own_cast (g' := (mkF m 0 #[.val (.ref a), .val (.ref a), .unset] [])) (by first | (simp [entryFrame, mkF, argsToLocals, own_cat_int, own_cat_long, own_cat_ref, own_cat_null]; done) | rfl) ?_
  refine own_step (T' := s₁) (g' := (mkF m 1 #[.val (.ref a), .val (.ref a), .unset] [(.ref a)])) (fun _ q => XS.aloadN X0.here hx rfl (hb hby d36_0) rfl rfl q) ?_
  refine own_step (T' := s₁) (g' := (mkF m 2 #[.val (.ref a), .val (.ref a), .unset] [(.ref a), (.ref a)])) (fun _ q => XS.aloadN X0.here hx rfl (hb hby d36_1) rfl rfl q) ?_
  refine own_step (T' := s₁) (g' := (mkF m 5 #[.val (.ref a), .val (.ref a), .unset] [])) (fun _ q => Jvm.RoadKit.acmp (g := (mkF m 2 #[.val (.ref a), .val (.ref a), .unset] [(.ref a), (.ref a)])) X0 hx rfl rfl rfl (pc0 := 2) (pc' := 5) (same := true) rfl (hb hby d36_2) rfl (decide_eq_true rfl) (by decide) (by decide) q) ?_
  refine own_step (T' := s₁) (g' := (mkF m 6 #[.val (.ref a), .val (.ref a), .unset] [(.int (1 : Int32))])) (fun _ q => XS.iconst X0.here hx rfl (hb hby d36_5) q) ?_
  exact own_retN X0 hx Bd.returns (by simp) (hb hby d36_6) hlk ⟨rfl, N0, e0⟩ (by first | decide | (dsimp only; omega)) (by first | decide | (dsimp only; omega))
theorem pd_21 : parseMethodDescriptor "([B[B)Z" = some ⟨[(.array .byte), (.array .byte)], some .boolean⟩ := by decide +kernel
theorem d36_7 : decode jdk_42_method_66_code 7 = .ok (.aload_n 1, 1) := by decide +kernel
theorem d36_8 : decode jdk_42_method_66_code 8 = .ok (.instanceof 10, 3) := by decide +kernel
theorem d36_11 : decode jdk_42_method_66_code 11 = .ok (.ifCond .eq 43, 3) := by decide +kernel
theorem d36_14 : decode jdk_42_method_66_code 14 = .ok (.aload_n 1, 1) := by decide +kernel
theorem d36_15 : decode jdk_42_method_66_code 15 = .ok (.checkcast 10, 3) := by decide +kernel
theorem d36_18 : decode jdk_42_method_66_code 18 = .ok (.astore_n 2, 1) := by decide +kernel
theorem d36_19 : decode jdk_42_method_66_code 19 = .ok (.getstatic 38, 3) := by decide +kernel
theorem d36_22 : decode jdk_42_method_66_code 22 = .ok (.ifCond .eq 14, 3) := by decide +kernel
theorem d36_25 : decode jdk_42_method_66_code 25 = .ok (.aload_n 0, 1) := by decide +kernel
theorem d36_26 : decode jdk_42_method_66_code 26 = .ok (.getfield 15, 3) := by decide +kernel
theorem d36_29 : decode jdk_42_method_66_code 29 = .ok (.aload_n 2, 1) := by decide +kernel
theorem d36_30 : decode jdk_42_method_66_code 30 = .ok (.getfield 15, 3) := by decide +kernel
theorem d36_33 : decode jdk_42_method_66_code 33 = .ok (.if_icmp .ne 21, 3) := by decide +kernel
theorem d36_36 : decode jdk_42_method_66_code 36 = .ok (.aload_n 0, 1) := by decide +kernel
theorem d36_37 : decode jdk_42_method_66_code 37 = .ok (.getfield 9, 3) := by decide +kernel
theorem d36_40 : decode jdk_42_method_66_code 40 = .ok (.aload_n 2, 1) := by decide +kernel
theorem d36_41 : decode jdk_42_method_66_code 41 = .ok (.getfield 9, 3) := by decide +kernel
theorem d36_44 : decode jdk_42_method_66_code 44 = .ok (.invokestatic 541, 3) := by decide +kernel
theorem d36_47 : decode jdk_42_method_66_code 47 = .ok (.ifCond .eq 7, 3) := by decide +kernel
theorem d36_50 : decode jdk_42_method_66_code 50 = .ok (.iconst 1, 1) := by decide +kernel
theorem d36_51 : decode jdk_42_method_66_code 51 = .ok (.goto 4, 3) := by decide +kernel
theorem d36_55 : decode jdk_42_method_66_code 55 = .ok (.ireturn, 1) := by decide +kernel
def Q_own_eq2 (Z : State) (G1 : Int32) (G3 : Value) (a : Addr) (t : Addr) (kb : ClassId) (f : Addr) (u : Addr) (ku : ClassId) (cs : List Int32) (h0 : Heap) (n0 : Nat) (v : Option Value) (h : Heap) (L : List Loc) : Prop := v = some (.int (1 : Int32)) ∧ Fr n0 L ∧ Keep h0 h []
set_option maxRecDepth 65536 in
set_option maxHeartbeats 40000000 in
theorem own_eq2 (l : Launch) (Z : State) (a0 : Array Value) (hw : ∀ d ∈ tables_1, d.before a0 Z = true) (ws : List Jvm.Cond) (G1 : Int32) (G3 : Value) (a : Addr) (t : Addr) (kb : ClassId) (f : Addr) (u : Addr) (ku : ClassId) (cs : List Int32) (h0 : Heap) (n0 : Nat) (Z0 : n0 ≤ h0.size) (O2 : Sta Z Z.heap "java/lang/String" "COMPACT_STRINGS" "Z" (.int G1)) (O4 : Sta Z Z.heap "jdk/internal/util/Preconditions" "SIOOBE_FORMATTER" "Ljava/util/function/BiFunction;" G3) (P5 : ¬ (G1 = (0 : Int32))) (rG3 : G3.isRef = true) (OLD0 : Old Z n0 h0) (E_a : Exa Z h0 a "java/lang/String") (E_f : Exa Z h0 f "java/lang/String") (F_value_a : Fld Z h0 a "java/lang/String" "value" "[B" (.ref t)) (F_coder_a : Fld Z h0 a "java/lang/String" "coder" "B" (.int (0 : Int32))) (F_value_f : Fld Z h0 f "java/lang/String" "value" "[B" (.ref u)) (F_coder_f : Fld Z h0 f "java/lang/String" "coder" "B" (.int (0 : Int32))) (V_t : Arv Z h0 t kb .byte (Int32.ofNat cs.length) (own_bs cs) (.int 0)) (V_u : Arv Z h0 u ku .byte (Int32.ofNat cs.length) (own_bs cs) (.int 0)) (ne_a_f : ¬ a = f) (hl : cs.length ≤ 400) :
    MetFree l (⟨"java/lang/String", "equals", "(Ljava/lang/Object;)Z"⟩ : MethodName) (head1 (Jvm.Cond.code (⟨"java/lang/String", "equals", "(Ljava/lang/Object;)Z"⟩ : MethodName) jdk_42_method_66_code 3 (some .boolean) :: ws) ({ frames := 1, cells := 0, slots := 0, locals := 14 } : Room)) (fun ag U => ag = #[(.ref a), (.ref f)] ∧ Z.Warmed39 U.vm ∧ U.heap = h0) (fun _ _ _ _ _ => True) (fun _ U o U' => ∃ v L, o = .returned v ∧ Q_own_eq2 Z G1 G3 a t kb f u ku cs h0 n0 v U'.heap L ∧ FrameEnd U o U' L ({ frames := 1, cells := 0, slots := 0, locals := 14 } : Room).cells ({ frames := 1, cells := 0, slots := 0, locals := 14 } : Room).slots) := by
  refine own_body (plainFor_of_name pn_0) ?_
  intro p e s m below meth c s₁ Bd hml hZ e0
  have hx := Bd.exec
  have hby := Bd.bytes
  have hlk : meth.locks = false := BodyLoose.notSynchronized Bd
  have hown : s.vm.findClass "java/lang/String" = some m.cls := findClass_of_methodNamed Bd.named
  have hnm := (name_of_methodNamed Bd.named Bd.method).1
  have X0 : Stand p l e ({ frames := 1, cells := 0, slots := 0, locals := 14 } : Room) s m #[(.ref a), (.ref f)] below meth c s₁ [] 0 0 := Stand.of_body Bd
  have N0 := Fr.nil n0
  have KP0 : Keep h0 h0 [] := Keep.refl h0 []
  have lt_a := E_a.lt
  have lt_f := E_f.lt
  have lt_t := V_t.lt
  have lt_u := V_u.lt
  have ty_a_t : a ≠ t := (Exa.neArv E_a V_t (w5 hw))
  have ty_a_u : a ≠ u := (Exa.neArv E_a V_u (w5 hw))
  have ty_f_t : f ≠ t := (Exa.neArv E_f V_t (w5 hw))
  have ty_f_u : f ≠ u := (Exa.neArv E_f V_u (w5 hw))
  refine own_cast (g' := (mkF m 0 #[.val (.ref a), .val (.ref f), .unset] [])) (by first | (simp [entryFrame, mkF, argsToLocals, own_cat_int, own_cat_long, own_cat_ref, own_cat_null]; done) | rfl) ?_
  refine own_step (T' := s₁) (g' := (mkF m 1 #[.val (.ref a), .val (.ref f), .unset] [(.ref a)])) (fun _ q => XS.aloadN X0.here hx rfl (hb hby d36_0) rfl rfl q) ?_
  refine own_step (T' := s₁) (g' := (mkF m 2 #[.val (.ref a), .val (.ref f), .unset] [(.ref f), (.ref a)])) (fun _ q => XS.aloadN X0.here hx rfl (hb hby d36_1) rfl rfl q) ?_
  refine own_step (T' := s₁) (g' := (mkF m 7 #[.val (.ref a), .val (.ref f), .unset] [])) (fun _ q => Jvm.RoadKit.acmp (g := (mkF m 2 #[.val (.ref a), .val (.ref f), .unset] [(.ref f), (.ref a)])) X0 hx rfl rfl rfl (pc0 := 2) (pc' := 7) (same := false) rfl (hb hby d36_2) rfl (decide_eq_false (fun q => ne_a_f (Value.ref.inj q))) (by decide) (by decide) q) ?_
  refine own_step (T' := s₁) (g' := (mkF m 8 #[.val (.ref a), .val (.ref f), .unset] [(.ref f)])) (fun _ q => XS.aloadN X0.here hx rfl (hb hby d36_7) rfl rfl q) ?_
  obtain ⟨T741, X741, e741, st741⟩ := instY X0 hx hZ hown (w237 hw) e0 (Ins.self E_f) (g := (mkF m 8 #[.val (.ref a), .val (.ref f), .unset] [(.ref f)])) rfl rfl (hb hby d36_8)
  refine own_step (T' := T741) (g' := (mkF m 11 #[.val (.ref a), .val (.ref f), .unset] [(.int (1 : Int32))])) st741 ?_
  refine own_step (T' := T741) (g' := (mkF m 14 #[.val (.ref a), .val (.ref f), .unset] [])) (fun _ q => XS.ifNo X741.here hx rfl (hb hby d36_11) rfl (by decide) q) ?_
  refine own_step (T' := T741) (g' := (mkF m 15 #[.val (.ref a), .val (.ref f), .unset] [(.ref f)])) (fun _ q => XS.aloadN X741.here hx rfl (hb hby d36_14) rfl rfl q) ?_
  obtain ⟨T742, X742, e742, st742⟩ := castY X741 hx hZ hown (w237 hw) e741 (Ins.self E_f) (g := (mkF m 15 #[.val (.ref a), .val (.ref f), .unset] [(.ref f)])) rfl rfl (hb hby d36_15)
  refine own_step (T' := T742) (g' := (mkF m 18 #[.val (.ref a), .val (.ref f), .unset] [(.ref f)])) st742 ?_
  refine own_step (T' := T742) (g' := (mkF m 19 #[.val (.ref a), .val (.ref f), .val (.ref f)] [])) (fun _ q => XS.astoreN X742.here hx rfl (hb hby d36_18) rfl rfl (l' := #[.val (.ref a), .val (.ref f), .val (.ref f)]) rfl q) ?_
  obtain ⟨T743, X743, e743, st743⟩ := getS2 X742 hx hZ hown (host := "") (Or.inl (w29 hw)) Via.refl e742 (O2.ext OLD0.2) (g := (mkF m 19 #[.val (.ref a), .val (.ref f), .val (.ref f)] [])) rfl (hb hby d36_19)
  refine own_step (T' := T743) (g' := (mkF m 22 #[.val (.ref a), .val (.ref f), .val (.ref f)] [(.int G1)])) st743 ?_
  have hc744 : ¬ (G1 = 0) := P5
  refine own_step (T' := T743) (g' := (mkF m 25 #[.val (.ref a), .val (.ref f), .val (.ref f)] [])) (fun _ q => XS.ifNo X743.here hx rfl (hb hby d36_22) rfl (XT.i0_eq_f hc744) q) ?_
  refine own_step (T' := T743) (g' := (mkF m 26 #[.val (.ref a), .val (.ref f), .val (.ref f)] [(.ref a)])) (fun _ q => XS.aloadN X743.here hx rfl (hb hby d36_25) rfl rfl q) ?_
  obtain ⟨T745, X745, e745, st745⟩ := getF X743 hx hZ hown (host := "") (Or.inl (w25 hw)) Via.refl e743 F_coder_a (g := (mkF m 26 #[.val (.ref a), .val (.ref f), .val (.ref f)] [(.ref a)])) rfl rfl (hb hby d36_26)
  refine own_step (T' := T745) (g' := (mkF m 29 #[.val (.ref a), .val (.ref f), .val (.ref f)] [(.int (0 : Int32))])) st745 ?_
  refine own_step (T' := T745) (g' := (mkF m 30 #[.val (.ref a), .val (.ref f), .val (.ref f)] [(.ref f), (.int (0 : Int32))])) (fun _ q => XS.aloadN X745.here hx rfl (hb hby d36_29) rfl rfl q) ?_
  obtain ⟨T746, X746, e746, st746⟩ := getF X745 hx hZ hown (host := "") (Or.inl (w25 hw)) Via.refl e745 F_coder_f (g := (mkF m 30 #[.val (.ref a), .val (.ref f), .val (.ref f)] [(.ref f), (.int (0 : Int32))])) rfl rfl (hb hby d36_30)
  refine own_step (T' := T746) (g' := (mkF m 33 #[.val (.ref a), .val (.ref f), .val (.ref f)] [(.int (0 : Int32)), (.int (0 : Int32))])) st746 ?_
  refine own_step (T' := T746) (g' := (mkF m 36 #[.val (.ref a), .val (.ref f), .val (.ref f)] [])) (fun _ q => XS.icmpNo X746.here hx rfl (hb hby d36_33) rfl (by decide) q) ?_
  refine own_step (T' := T746) (g' := (mkF m 37 #[.val (.ref a), .val (.ref f), .val (.ref f)] [(.ref a)])) (fun _ q => XS.aloadN X746.here hx rfl (hb hby d36_36) rfl rfl q) ?_
  obtain ⟨T747, X747, e747, st747⟩ := getF X746 hx hZ hown (host := "") (Or.inl (w24 hw)) Via.refl e746 F_value_a (g := (mkF m 37 #[.val (.ref a), .val (.ref f), .val (.ref f)] [(.ref a)])) rfl rfl (hb hby d36_37)
  refine own_step (T' := T747) (g' := (mkF m 40 #[.val (.ref a), .val (.ref f), .val (.ref f)] [(.ref t)])) st747 ?_
  refine own_step (T' := T747) (g' := (mkF m 41 #[.val (.ref a), .val (.ref f), .val (.ref f)] [(.ref f), (.ref t)])) (fun _ q => XS.aloadN X747.here hx rfl (hb hby d36_40) rfl rfl q) ?_
  obtain ⟨T748, X748, e748, st748⟩ := getF X747 hx hZ hown (host := "") (Or.inl (w24 hw)) Via.refl e747 F_value_f (g := (mkF m 41 #[.val (.ref a), .val (.ref f), .val (.ref f)] [(.ref f), (.ref t)])) rfl rfl (hb hby d36_41)
  refine own_step (T' := T748) (g' := (mkF m 44 #[.val (.ref a), .val (.ref f), .val (.ref f)] [(.ref u), (.ref t)])) st748 ?_
  refine own_callS X748 hx hZ hown (w238 hw) (w239 hw) (w240 hw) (w241 hw) (by decide) (backOf (W := 0) (own_leq l Z a0 hw [] t kb u ku cs h0 n0 Z0 V_t V_u hl) hZ (w241 hw) (w240 hw) (Nat.le_of_ble_eq_true rfl) (Nat.le_of_ble_eq_true rfl)) e748  (by first | decide | (dsimp only; omega)) (by first | decide | (dsimp only; omega)) (g := (mkF m 44 #[.val (.ref a), .val (.ref f), .val (.ref f)] [(.ref u), (.ref t)])) (argsL := [(.ref t), (.ref u)]) (rest := []) rfl (by rw [hml]; rfl) (lenOf pd_21 rfl) rfl rfl (by show 2 * 0 + _ ≤ _; exact Nat.le_of_eq rfl) (hb hby d36_44) ?_
  rintro _ T749 L749 X749 ⟨rfl, N749q, K749⟩
  have N750 := Fr.app N0 N749q
  show own_Fin p e below _ T749 (mkF m 47 #[.val (.ref a), .val (.ref f), .val (.ref f)] [(.int (1 : Int32))])
  refine own_step (T' := T749) (g' := (mkF m 50 #[.val (.ref a), .val (.ref f), .val (.ref f)] [])) (fun _ q => XS.ifNo X749.here hx rfl (hb hby d36_47) rfl (by decide) q) ?_
  refine own_step (T' := T749) (g' := (mkF m 51 #[.val (.ref a), .val (.ref f), .val (.ref f)] [(.int (1 : Int32))])) (fun _ q => XS.iconst X749.here hx rfl (hb hby d36_50) q) ?_
  refine own_step (T' := T749) (g' := (mkF m 55 #[.val (.ref a), .val (.ref f), .val (.ref f)] [(.int (1 : Int32))])) (fun _ q => XS.goto X749.here hx rfl (pc0 := 51) (pc' := 55) rfl (hb hby d36_51) (by decide) (by decide) q) ?_
  have c751 := (KP0.trans K749 all0)
  exact own_retN X749 hx Bd.returns (by simp) (hb hby d36_55) hlk ⟨rfl, N750, c751⟩ (by first | decide | (dsimp only; omega)) (by first | decide | (dsimp only; omega))
theorem pd_22 : parseMethodDescriptor "(CCCI)Ljava/lang/String;" = some ⟨[.char, .char, .char, .int], some (.object "java/lang/String")⟩ := by decide +kernel
theorem pd_23 : parseMethodDescriptor "(Ljava/lang/String;ZLcom/example/kvasir/kvasir/jpql/Position;)Lcom/example/kvasir/kvasir/jpql/InputParameter;" = some ⟨[(.object "java/lang/String"), .boolean, (.object "com/example/kvasir/kvasir/jpql/Position")], some (.object "com/example/kvasir/kvasir/jpql/InputParameter")⟩ := by decide +kernel
theorem pd_24 : parseMethodDescriptor "(Ljava/lang/Object;)Z" = some ⟨[(.object "java/lang/Object")], some .boolean⟩ := by decide +kernel
theorem pd_25 : parseMethodDescriptor "()Lcom/example/kvasir/kvasir/jpql/Position;" = some ⟨[], some (.object "com/example/kvasir/kvasir/jpql/Position")⟩ := by decide +kernel
theorem pd_26 : parseMethodDescriptor "()Ljava/lang/Object;" = some ⟨[], some (.object "java/lang/Object")⟩ := by decide +kernel
theorem pd_27 : parseMethodDescriptor "()Ljava/util/List;" = some ⟨[], some (.object "java/util/List")⟩ := by decide +kernel
def Q_own_law (Z : State) (G1 : Int32) (G3 : Value) (p1 : Int32) (p2 : Int32) (p3 : Int32) (p4 : Int32) (h0 : Heap) (n0 : Nat) (v : Option Value) (h : Heap) (L : List Loc) : Prop := v = some (.int (1 : Int32)) ∧ Fr n0 L ∧ Keep h0 h []
set_option maxRecDepth 65536 in
set_option maxHeartbeats 40000000 in
theorem own_law (l : Launch) (Z : State) (a0 : Array Value) (hw : ∀ d ∈ tables_1, d.before a0 Z = true) (ws : List Jvm.Cond) (G1 : Int32) (G3 : Value) (p1 : Int32) (p2 : Int32) (p3 : Int32) (p4 : Int32) (h0 : Heap) (n0 : Nat) (Z0 : n0 ≤ h0.size) (O2 : Sta Z Z.heap "java/lang/String" "COMPACT_STRINGS" "Z" (.int G1)) (O4 : Sta Z Z.heap "jdk/internal/util/Preconditions" "SIOOBE_FORMATTER" "Ljava/util/function/BiFunction;" G3) (P5 : ¬ (G1 = (0 : Int32))) (rG3 : G3.isRef = true) (OLD0 : Old Z n0 h0) :
    MetFree l x (head1 (Jvm.Cond.code x code maxLocals ret :: ws) room_1) (fun ag U => ag = #[(.int p1), (.int p2), (.int p3), (.int p4)] ∧ Z.Warmed39 U.vm ∧ U.heap = h0 ∧ CHv Z own_EL U.vm h0) (fun _ _ _ _ _ => True) (fun _ U o U' => ∃ v L, o = .returned v ∧ Q_own_law Z G1 G3 p1 p2 p3 p4 h0 n0 v U'.heap L ∧ CHr Z own_EL U.vm U.heap U'.vm U'.heap ∧ ReturnedEndW U o U' L room_1.cells room_1.slots) := by
  refine own_bodyW (plainFor_of_name pn_4) ?_
  intro p e s m below meth c s₁ Bd hml hZ e0 hh0 CH0
  have hx := Bd.exec
  have hby := Bd.bytes
  have hlk : meth.locks = false := BodyLoose.notSynchronized Bd
  have hown : s.vm.findClass "com/example/kvasir/kvasir/jpql/InputParameterNamedPinLaw" = some m.cls := findClass_of_methodNamed Bd.named
  have hnm := (name_of_methodNamed Bd.named Bd.method).1
  have X0 : Stand p l e room_1 (s.setVm s.vm) m #[(.int p1), (.int p2), (.int p3), (.int p4)] below meth c s₁ [] 0 0 := Stand.of_body Bd
  have N0 := Fr.nil n0
  have hS := (State.WarmedH.refl s).since h0.size
  have hk0 : h0.size ≤ h0.size := Nat.le_refl _
  have KP0 : Keep h0 h0 [] := Keep.refl h0 []
  refine own_cast (g' := (mkF m 0 #[.val (.int p1), .val (.int p2), .val (.int p3), .val (.int p4), .unset, .unset, .unset, .unset, .unset, .unset, .unset, .unset, .unset, .unset, .unset] [])) (by first | (simp [entryFrame, mkF, argsToLocals, own_cat_int, own_cat_long, own_cat_ref, own_cat_null, maxLocals]; done) | rfl) ?_
  refine own_step (T' := s₁) (g' := (mkF m 1 #[.val (.int p1), .val (.int p2), .val (.int p3), .val (.int p4), .unset, .unset, .unset, .unset, .unset, .unset, .unset, .unset, .unset, .unset, .unset] [(.int p1)])) (fun _ q => XS.iloadN X0.here hx rfl (hb hby at_0) rfl q) ?_
  refine own_step (T' := s₁) (g' := (mkF m 4 #[.val (.int p1), .val (.int p2), .val (.int p3), .val (.int p4), .unset, .unset, .unset, .unset, .unset, .unset, .unset, .unset, .unset, .unset, .unset] [(.int (255 : Int32)), (.int p1)])) (fun _ q => XS.sipush X0.here hx rfl (hb hby at_1) q) ?_
  refine own_step (T' := s₁) (g' := (mkF m 5 #[.val (.int p1), .val (.int p2), .val (.int p3), .val (.int p4), .unset, .unset, .unset, .unset, .unset, .unset, .unset, .unset, .unset, .unset, .unset] [(.int (p1 &&& (255 : Int32)))])) (fun _ q => XS.iand X0.here hx rfl (hb hby at_4) rfl q) ?_
  refine own_step (T' := s₁) (g' := (mkF m 6 #[.val (.int p1), .val (.int p2), .val (.int p3), .val (.int p4), .unset, .unset, .unset, .unset, .unset, .unset, .unset, .unset, .unset, .unset, .unset] [(.int ((p1 &&& (255 : Int32)).toUInt32.toUInt16.toUInt32.toInt32))])) (fun _ q => XT.i2c X0.here hx rfl (hb hby at_5) rfl q) ?_
  obtain ⟨c0, ec0⟩ : ∃ z, z = ((p1 &&& (255 : Int32)).toUInt32.toUInt16.toUInt32.toInt32) := ⟨_, rfl⟩
  have hc0 := own_c255 p1
  rw [← ec0] at hc0
  rw [show ((p1 &&& (255 : Int32)).toUInt32.toUInt16.toUInt32.toInt32) = c0 from ec0.symm]
  refine own_step (T' := s₁) (g' := (mkF m 8 #[.val (.int p1), .val (.int p2), .val (.int p3), .val (.int p4), .val (.int c0), .unset, .unset, .unset, .unset, .unset, .unset, .unset, .unset, .unset, .unset] [])) (fun _ q => XS.istore X0.here hx rfl (hb hby at_6) rfl (l' := #[.val (.int p1), .val (.int p2), .val (.int p3), .val (.int p4), .val (.int c0), .unset, .unset, .unset, .unset, .unset, .unset, .unset, .unset, .unset, .unset]) rfl q) ?_
  refine own_step (T' := s₁) (g' := (mkF m 9 #[.val (.int p1), .val (.int p2), .val (.int p3), .val (.int p4), .val (.int c0), .unset, .unset, .unset, .unset, .unset, .unset, .unset, .unset, .unset, .unset] [(.int p1)])) (fun _ q => XS.iloadN X0.here hx rfl (hb hby at_8) rfl q) ?_
  refine own_step (T' := s₁) (g' := (mkF m 11 #[.val (.int p1), .val (.int p2), .val (.int p3), .val (.int p4), .val (.int c0), .unset, .unset, .unset, .unset, .unset, .unset, .unset, .unset, .unset, .unset] [(.int (8 : Int32)), (.int p1)])) (fun _ q => XS.bipush X0.here hx rfl (hb hby at_9) q) ?_
  refine own_step (T' := s₁) (g' := (mkF m 12 #[.val (.int p1), .val (.int p2), .val (.int p3), .val (.int p4), .val (.int c0), .unset, .unset, .unset, .unset, .unset, .unset, .unset, .unset, .unset, .unset] [(.int (XT.ushr p1 (8 : Int32)))])) (fun _ q => XT.iushr X0.here hx rfl (hb hby at_11) rfl q) ?_
  refine own_step (T' := s₁) (g' := (mkF m 15 #[.val (.int p1), .val (.int p2), .val (.int p3), .val (.int p4), .val (.int c0), .unset, .unset, .unset, .unset, .unset, .unset, .unset, .unset, .unset, .unset] [(.int (255 : Int32)), (.int (XT.ushr p1 (8 : Int32)))])) (fun _ q => XS.sipush X0.here hx rfl (hb hby at_12) q) ?_
  refine own_step (T' := s₁) (g' := (mkF m 16 #[.val (.int p1), .val (.int p2), .val (.int p3), .val (.int p4), .val (.int c0), .unset, .unset, .unset, .unset, .unset, .unset, .unset, .unset, .unset, .unset] [(.int ((XT.ushr p1 (8 : Int32)) &&& (255 : Int32)))])) (fun _ q => XS.iand X0.here hx rfl (hb hby at_15) rfl q) ?_
  refine own_step (T' := s₁) (g' := (mkF m 17 #[.val (.int p1), .val (.int p2), .val (.int p3), .val (.int p4), .val (.int c0), .unset, .unset, .unset, .unset, .unset, .unset, .unset, .unset, .unset, .unset] [(.int (((XT.ushr p1 (8 : Int32)) &&& (255 : Int32)).toUInt32.toUInt16.toUInt32.toInt32))])) (fun _ q => XT.i2c X0.here hx rfl (hb hby at_16) rfl q) ?_
  obtain ⟨c1, ec1⟩ : ∃ z, z = (((XT.ushr p1 (8 : Int32)) &&& (255 : Int32)).toUInt32.toUInt16.toUInt32.toInt32) := ⟨_, rfl⟩
  have hc1 := own_c255 (XT.ushr p1 (8 : Int32))
  rw [← ec1] at hc1
  rw [show (((XT.ushr p1 (8 : Int32)) &&& (255 : Int32)).toUInt32.toUInt16.toUInt32.toInt32) = c1 from ec1.symm]
  refine own_step (T' := s₁) (g' := (mkF m 19 #[.val (.int p1), .val (.int p2), .val (.int p3), .val (.int p4), .val (.int c0), .val (.int c1), .unset, .unset, .unset, .unset, .unset, .unset, .unset, .unset, .unset] [])) (fun _ q => XS.istore X0.here hx rfl (hb hby at_17) rfl (l' := #[.val (.int p1), .val (.int p2), .val (.int p3), .val (.int p4), .val (.int c0), .val (.int c1), .unset, .unset, .unset, .unset, .unset, .unset, .unset, .unset, .unset]) rfl q) ?_
  refine own_step (T' := s₁) (g' := (mkF m 20 #[.val (.int p1), .val (.int p2), .val (.int p3), .val (.int p4), .val (.int c0), .val (.int c1), .unset, .unset, .unset, .unset, .unset, .unset, .unset, .unset, .unset] [(.int p1)])) (fun _ q => XS.iloadN X0.here hx rfl (hb hby at_19) rfl q) ?_
  refine own_step (T' := s₁) (g' := (mkF m 22 #[.val (.int p1), .val (.int p2), .val (.int p3), .val (.int p4), .val (.int c0), .val (.int c1), .unset, .unset, .unset, .unset, .unset, .unset, .unset, .unset, .unset] [(.int (16 : Int32)), (.int p1)])) (fun _ q => XS.bipush X0.here hx rfl (hb hby at_20) q) ?_
  refine own_step (T' := s₁) (g' := (mkF m 23 #[.val (.int p1), .val (.int p2), .val (.int p3), .val (.int p4), .val (.int c0), .val (.int c1), .unset, .unset, .unset, .unset, .unset, .unset, .unset, .unset, .unset] [(.int (XT.ushr p1 (16 : Int32)))])) (fun _ q => XT.iushr X0.here hx rfl (hb hby at_22) rfl q) ?_
  refine own_step (T' := s₁) (g' := (mkF m 26 #[.val (.int p1), .val (.int p2), .val (.int p3), .val (.int p4), .val (.int c0), .val (.int c1), .unset, .unset, .unset, .unset, .unset, .unset, .unset, .unset, .unset] [(.int (255 : Int32)), (.int (XT.ushr p1 (16 : Int32)))])) (fun _ q => XS.sipush X0.here hx rfl (hb hby at_23) q) ?_
  refine own_step (T' := s₁) (g' := (mkF m 27 #[.val (.int p1), .val (.int p2), .val (.int p3), .val (.int p4), .val (.int c0), .val (.int c1), .unset, .unset, .unset, .unset, .unset, .unset, .unset, .unset, .unset] [(.int ((XT.ushr p1 (16 : Int32)) &&& (255 : Int32)))])) (fun _ q => XS.iand X0.here hx rfl (hb hby at_26) rfl q) ?_
  refine own_step (T' := s₁) (g' := (mkF m 28 #[.val (.int p1), .val (.int p2), .val (.int p3), .val (.int p4), .val (.int c0), .val (.int c1), .unset, .unset, .unset, .unset, .unset, .unset, .unset, .unset, .unset] [(.int (((XT.ushr p1 (16 : Int32)) &&& (255 : Int32)).toUInt32.toUInt16.toUInt32.toInt32))])) (fun _ q => XT.i2c X0.here hx rfl (hb hby at_27) rfl q) ?_
  obtain ⟨c2, ec2⟩ : ∃ z, z = (((XT.ushr p1 (16 : Int32)) &&& (255 : Int32)).toUInt32.toUInt16.toUInt32.toInt32) := ⟨_, rfl⟩
  have hc2 := own_c255 (XT.ushr p1 (16 : Int32))
  rw [← ec2] at hc2
  rw [show (((XT.ushr p1 (16 : Int32)) &&& (255 : Int32)).toUInt32.toUInt16.toUInt32.toInt32) = c2 from ec2.symm]
  refine own_step (T' := s₁) (g' := (mkF m 30 #[.val (.int p1), .val (.int p2), .val (.int p3), .val (.int p4), .val (.int c0), .val (.int c1), .val (.int c2), .unset, .unset, .unset, .unset, .unset, .unset, .unset, .unset] [])) (fun _ q => XS.istore X0.here hx rfl (hb hby at_28) rfl (l' := #[.val (.int p1), .val (.int p2), .val (.int p3), .val (.int p4), .val (.int c0), .val (.int c1), .val (.int c2), .unset, .unset, .unset, .unset, .unset, .unset, .unset, .unset]) rfl q) ?_
  refine own_step (T' := s₁) (g' := (mkF m 31 #[.val (.int p1), .val (.int p2), .val (.int p3), .val (.int p4), .val (.int c0), .val (.int c1), .val (.int c2), .unset, .unset, .unset, .unset, .unset, .unset, .unset, .unset] [(.int p1)])) (fun _ q => XS.iloadN X0.here hx rfl (hb hby at_30) rfl q) ?_
  refine own_step (T' := s₁) (g' := (mkF m 33 #[.val (.int p1), .val (.int p2), .val (.int p3), .val (.int p4), .val (.int c0), .val (.int c1), .val (.int c2), .unset, .unset, .unset, .unset, .unset, .unset, .unset, .unset] [(.int (24 : Int32)), (.int p1)])) (fun _ q => XS.bipush X0.here hx rfl (hb hby at_31) q) ?_
  refine own_step (T' := s₁) (g' := (mkF m 34 #[.val (.int p1), .val (.int p2), .val (.int p3), .val (.int p4), .val (.int c0), .val (.int c1), .val (.int c2), .unset, .unset, .unset, .unset, .unset, .unset, .unset, .unset] [(.int (XT.ushr p1 (24 : Int32)))])) (fun _ q => XT.iushr X0.here hx rfl (hb hby at_33) rfl q) ?_
  refine own_step (T' := s₁) (g' := (mkF m 35 #[.val (.int p1), .val (.int p2), .val (.int p3), .val (.int p4), .val (.int c0), .val (.int c1), .val (.int c2), .unset, .unset, .unset, .unset, .unset, .unset, .unset, .unset] [(.int (3 : Int32)), (.int (XT.ushr p1 (24 : Int32)))])) (fun _ q => XS.iconst X0.here hx rfl (hb hby at_34) q) ?_
  refine own_step (T' := s₁) (g' := (mkF m 36 #[.val (.int p1), .val (.int p2), .val (.int p3), .val (.int p4), .val (.int c0), .val (.int c1), .val (.int c2), .unset, .unset, .unset, .unset, .unset, .unset, .unset, .unset] [(.int ((XT.ushr p1 (24 : Int32)) &&& (3 : Int32)))])) (fun _ q => XS.iand X0.here hx rfl (hb hby at_35) rfl q) ?_
  obtain ⟨k, ek⟩ : ∃ z, z = ((XT.ushr p1 (24 : Int32)) &&& (3 : Int32)) := ⟨_, rfl⟩
  rw [show ((XT.ushr p1 (24 : Int32)) &&& (3 : Int32)) = k from ek.symm]
  refine own_step (T' := s₁) (g' := (mkF m 38 #[.val (.int p1), .val (.int p2), .val (.int p3), .val (.int p4), .val (.int c0), .val (.int c1), .val (.int c2), .val (.int k), .unset, .unset, .unset, .unset, .unset, .unset, .unset] [])) (fun _ q => XS.istore X0.here hx rfl (hb hby at_36) rfl (l' := #[.val (.int p1), .val (.int p2), .val (.int p3), .val (.int p4), .val (.int c0), .val (.int c1), .val (.int c2), .val (.int k), .unset, .unset, .unset, .unset, .unset, .unset, .unset]) rfl q) ?_
  refine own_step (T' := s₁) (g' := (mkF m 39 #[.val (.int p1), .val (.int p2), .val (.int p3), .val (.int p4), .val (.int c0), .val (.int c1), .val (.int c2), .val (.int k), .unset, .unset, .unset, .unset, .unset, .unset, .unset] [(.int p2)])) (fun _ q => XS.iloadN X0.here hx rfl (hb hby at_38) rfl q) ?_
  refine own_step (T' := s₁) (g' := (mkF m 40 #[.val (.int p1), .val (.int p2), .val (.int p3), .val (.int p4), .val (.int c0), .val (.int c1), .val (.int c2), .val (.int k), .unset, .unset, .unset, .unset, .unset, .unset, .unset] [(.int (1 : Int32)), (.int p2)])) (fun _ q => XS.iconst X0.here hx rfl (hb hby at_39) q) ?_
  refine own_step (T' := s₁) (g' := (mkF m 41 #[.val (.int p1), .val (.int p2), .val (.int p3), .val (.int p4), .val (.int c0), .val (.int c1), .val (.int c2), .val (.int k), .unset, .unset, .unset, .unset, .unset, .unset, .unset] [(.int (p2 &&& (1 : Int32)))])) (fun _ q => XS.iand X0.here hx rfl (hb hby at_40) rfl q) ?_
  by_cases hc752 : (p2 &&& (1 : Int32)) = 0
  · refine own_step (T' := s₁) (g' := (mkF m 48 #[.val (.int p1), .val (.int p2), .val (.int p3), .val (.int p4), .val (.int c0), .val (.int c1), .val (.int c2), .val (.int k), .unset, .unset, .unset, .unset, .unset, .unset, .unset] [])) (fun _ q => XS.ifYes X0.here hx rfl (pc0 := 41) (pc' := 48) rfl (hb hby at_41) rfl (XT.i0_eq_t hc752) (by decide) (by decide) q) ?_
    refine own_step (T' := s₁) (g' := (mkF m 49 #[.val (.int p1), .val (.int p2), .val (.int p3), .val (.int p4), .val (.int c0), .val (.int c1), .val (.int c2), .val (.int k), .unset, .unset, .unset, .unset, .unset, .unset, .unset] [(.int (0 : Int32))])) (fun _ q => XS.iconst X0.here hx rfl (hb hby at_48) q) ?_
    refine own_step (T' := s₁) (g' := (mkF m 51 #[.val (.int p1), .val (.int p2), .val (.int p3), .val (.int p4), .val (.int c0), .val (.int c1), .val (.int c2), .val (.int k), .val (.int (0 : Int32)), .unset, .unset, .unset, .unset, .unset, .unset] [])) (fun _ q => XS.istore X0.here hx rfl (hb hby at_49) rfl (l' := #[.val (.int p1), .val (.int p2), .val (.int p3), .val (.int p4), .val (.int c0), .val (.int c1), .val (.int c2), .val (.int k), .val (.int (0 : Int32)), .unset, .unset, .unset, .unset, .unset, .unset]) rfl q) ?_
    refine own_step (T' := s₁) (g' := (mkF m 53 #[.val (.int p1), .val (.int p2), .val (.int p3), .val (.int p4), .val (.int c0), .val (.int c1), .val (.int c2), .val (.int k), .val (.int (0 : Int32)), .unset, .unset, .unset, .unset, .unset, .unset] [(.int c0)])) (fun _ q => XS.iload X0.here hx rfl (hb hby at_51) rfl q) ?_
    refine own_step (T' := s₁) (g' := (mkF m 55 #[.val (.int p1), .val (.int p2), .val (.int p3), .val (.int p4), .val (.int c0), .val (.int c1), .val (.int c2), .val (.int k), .val (.int (0 : Int32)), .unset, .unset, .unset, .unset, .unset, .unset] [(.int c1), (.int c0)])) (fun _ q => XS.iload X0.here hx rfl (hb hby at_53) rfl q) ?_
    refine own_step (T' := s₁) (g' := (mkF m 57 #[.val (.int p1), .val (.int p2), .val (.int p3), .val (.int p4), .val (.int c0), .val (.int c1), .val (.int c2), .val (.int k), .val (.int (0 : Int32)), .unset, .unset, .unset, .unset, .unset, .unset] [(.int c2), (.int c1), (.int c0)])) (fun _ q => XS.iload X0.here hx rfl (hb hby at_55) rfl q) ?_
    refine own_step (T' := s₁) (g' := (mkF m 59 #[.val (.int p1), .val (.int p2), .val (.int p3), .val (.int p4), .val (.int c0), .val (.int c1), .val (.int c2), .val (.int k), .val (.int (0 : Int32)), .unset, .unset, .unset, .unset, .unset, .unset] [(.int k), (.int c2), (.int c1), (.int c0)])) (fun _ q => XS.iload X0.here hx rfl (hb hby at_57) rfl q) ?_
    refine own_callSW X0 hx hZ hown hS hk0 (w0 hw) (w1 hw) (w2 hw) (w3 hw) (by decide) (backOfSH (W := 0) (own_txt l Z a0 hw [] G1 G3 c0 c1 c2 k h0 n0 Z0 O2 O4 P5 rG3 OLD0 (hc0 : ¬ c0 < 0 ∧ ¬ (255 : Int32) < c0) (hc1 : ¬ c1 < 0 ∧ ¬ (255 : Int32) < c1) (hc2 : ¬ c2 < 0 ∧ ¬ (255 : Int32) < c2)) hZ (w3 hw) (w2 hw) (Nat.le_of_ble_eq_true rfl) (Nat.le_of_ble_eq_true rfl) (own_hEL hw) CH0.1) e0  (by first | decide | (show _ ≤ (40 : Nat); first | omega | (dsimp only; omega))) (by first | decide | (show _ ≤ (2304 : Nat); first | omega | (dsimp only; omega))) (g := (mkF m 59 #[.val (.int p1), .val (.int p2), .val (.int p3), .val (.int p4), .val (.int c0), .val (.int c1), .val (.int c2), .val (.int k), .val (.int (0 : Int32)), .unset, .unset, .unset, .unset, .unset, .unset] [(.int k), (.int c2), (.int c1), (.int c0)])) (argsL := [(.int c0), (.int c1), (.int c2), (.int k)]) (rest := []) rfl (by rw [hml]; rfl) (lenOf pd_22 rfl) rfl rfl (by show 2 * 0 + _ ≤ _; exact Nat.le_of_eq rfl) (hb hby at_59) ?_
    rintro _ T753 L753 X753 hS hZ hown C753 ⟨a753, t753, kb753, rfl, N753q, K753, f0_753, f1_753, f2_753, f3_753, f4_753⟩
    have n0_754 : n0 ≤ a753 := Nat.le_trans Z0 f0_753
    have sz0_755 := Nat.le_trans KP0.1 f0_753
    have sf756 : Safe Z own_EL _ _ a753 := Safe.new (EL := own_EL) (Z := Z) (vm := s.vm) f0_753
    have CH757 := CH0.trans C753
    have lt758 := f1_753.lt
    have lt759 := f4_753.lt
    have ty760 : a753 ≠ t753 := (Exa.neArv f1_753 f4_753 (w5 hw))
    have N761 := Fr.app N0 N753q
    show own_Fin p e below _ T753 (mkF m 62 #[.val (.int p1), .val (.int p2), .val (.int p3), .val (.int p4), .val (.int c0), .val (.int c1), .val (.int c2), .val (.int k), .val (.int (0 : Int32)), .unset, .unset, .unset, .unset, .unset, .unset] [(.ref a753)])
    refine own_step (T' := T753) (g' := (mkF m 64 #[.val (.int p1), .val (.int p2), .val (.int p3), .val (.int p4), .val (.int c0), .val (.int c1), .val (.int c2), .val (.int k), .val (.int (0 : Int32)), .val (.ref a753), .unset, .unset, .unset, .unset, .unset] [])) (fun _ q => XS.astore X753.here hx rfl (hb hby at_62) rfl rfl (l' := #[.val (.int p1), .val (.int p2), .val (.int p3), .val (.int p4), .val (.int c0), .val (.int c1), .val (.int c2), .val (.int k), .val (.int (0 : Int32)), .val (.ref a753), .unset, .unset, .unset, .unset, .unset]) rfl q) ?_
    refine own_step (T' := T753) (g' := (mkF m 66 #[.val (.int p1), .val (.int p2), .val (.int p3), .val (.int p4), .val (.int c0), .val (.int c1), .val (.int c2), .val (.int k), .val (.int (0 : Int32)), .val (.ref a753), .unset, .unset, .unset, .unset, .unset] [(.int c0)])) (fun _ q => XS.iload X753.here hx rfl (hb hby at_64) rfl q) ?_
    refine own_step (T' := T753) (g' := (mkF m 68 #[.val (.int p1), .val (.int p2), .val (.int p3), .val (.int p4), .val (.int c0), .val (.int c1), .val (.int c2), .val (.int k), .val (.int (0 : Int32)), .val (.ref a753), .unset, .unset, .unset, .unset, .unset] [(.int c1), (.int c0)])) (fun _ q => XS.iload X753.here hx rfl (hb hby at_66) rfl q) ?_
    refine own_step (T' := T753) (g' := (mkF m 70 #[.val (.int p1), .val (.int p2), .val (.int p3), .val (.int p4), .val (.int c0), .val (.int c1), .val (.int c2), .val (.int k), .val (.int (0 : Int32)), .val (.ref a753), .unset, .unset, .unset, .unset, .unset] [(.int c2), (.int c1), (.int c0)])) (fun _ q => XS.iload X753.here hx rfl (hb hby at_68) rfl q) ?_
    refine own_step (T' := T753) (g' := (mkF m 72 #[.val (.int p1), .val (.int p2), .val (.int p3), .val (.int p4), .val (.int c0), .val (.int c1), .val (.int c2), .val (.int k), .val (.int (0 : Int32)), .val (.ref a753), .unset, .unset, .unset, .unset, .unset] [(.int k), (.int c2), (.int c1), (.int c0)])) (fun _ q => XS.iload X753.here hx rfl (hb hby at_70) rfl q) ?_
    have c762 := (OLD0.keep K753 all0)
    have c763 := (Nat.le_trans Z0 K753.1)
    refine own_callS X753 hx hZ hown (w26 hw) (w27 hw) (w2 hw) (w28 hw) (by decide) (backOf (W := 0) (own_col l Z a0 hw [] G1 G3 c0 c1 c2 k T753.heap n0 c763 O2 O4 P5 rG3 c762 (hc0 : ¬ c0 < 0 ∧ ¬ (255 : Int32) < c0) (hc1 : ¬ c1 < 0 ∧ ¬ (255 : Int32) < c1) (hc2 : ¬ c2 < 0 ∧ ¬ (255 : Int32) < c2)) hZ (w28 hw) (w2 hw) (Nat.le_of_ble_eq_true rfl) (Nat.le_of_ble_eq_true rfl)) rfl  (by first | decide | (show _ ≤ (40 : Nat); first | omega | (dsimp only; omega))) (by first | decide | (show _ ≤ (2304 : Nat); first | omega | (dsimp only; omega))) (g := (mkF m 72 #[.val (.int p1), .val (.int p2), .val (.int p3), .val (.int p4), .val (.int c0), .val (.int c1), .val (.int c2), .val (.int k), .val (.int (0 : Int32)), .val (.ref a753), .unset, .unset, .unset, .unset, .unset] [(.int k), (.int c2), (.int c1), (.int c0)])) (argsL := [(.int c0), (.int c1), (.int c2), (.int k)]) (rest := []) rfl (by rw [hml]; rfl) (lenOf pd_22 rfl) rfl rfl (by show 2 * 0 + _ ≤ _; exact Nat.le_of_eq rfl) (hb hby at_72) ?_
    rintro _ T764 L764 X764 ⟨a764, t764, kb764, rfl, N764q, K764, f0_764, f1_764, f2_764, f3_764, f4_764, f5_764⟩
    have n0_765 : n0 ≤ a764 := Nat.le_trans c763 f0_764
    have c766 := (KP0.trans K753 all0)
    have sz0_767 := Nat.le_trans c766.1 f0_764
    have ne768 : a753 ≠ a764 := own_ne lt758 f0_764
    have ne769 : t753 ≠ a764 := own_ne lt759 f0_764
    have sf770 : Safe Z own_EL _ _ a764 := Safe.new (EL := own_EL) (Z := Z) (vm := T753.vm) f0_764
    have n0_771 : n0 ≤ t764 := Nat.le_trans c763 f1_764
    have sz0_772 := Nat.le_trans c766.1 f1_764
    have ne773 : a753 ≠ t764 := own_ne lt758 f1_764
    have ne774 : t753 ≠ t764 := own_ne lt759 f1_764
    have sf775 : Safe Z own_EL _ _ t764 := Safe.new (EL := own_EL) (Z := Z) (vm := T753.vm) f1_764
    have CH776 := CH757.trans (CHr.keep K764 sf0 CH757.1)
    have lt777 := f2_764.lt
    have lt778 := f5_764.lt
    have N779 := Fr.app N761 N764q
    show own_Fin p e below _ T764 (mkF m 75 #[.val (.int p1), .val (.int p2), .val (.int p3), .val (.int p4), .val (.int c0), .val (.int c1), .val (.int c2), .val (.int k), .val (.int (0 : Int32)), .val (.ref a753), .unset, .unset, .unset, .unset, .unset] [(.ref a764)])
    refine own_step (T' := T764) (g' := (mkF m 77 #[.val (.int p1), .val (.int p2), .val (.int p3), .val (.int p4), .val (.int c0), .val (.int c1), .val (.int c2), .val (.int k), .val (.int (0 : Int32)), .val (.ref a753), .val (.ref a764), .unset, .unset, .unset, .unset] [])) (fun _ q => XS.astore X764.here hx rfl (hb hby at_75) rfl rfl (l' := #[.val (.int p1), .val (.int p2), .val (.int p3), .val (.int p4), .val (.int c0), .val (.int c1), .val (.int c2), .val (.int k), .val (.int (0 : Int32)), .val (.ref a753), .val (.ref a764), .unset, .unset, .unset, .unset]) rfl q) ?_
    obtain ⟨T780, h780, X780, e780, E780, A780, D780, -, st780⟩ := newO X764 hx hZ hown (w40 hw) (w41 hw) (w42 hw) rfl (g := (mkF m 77 #[.val (.int p1), .val (.int p2), .val (.int p3), .val (.int p4), .val (.int c0), .val (.int c1), .val (.int c2), .val (.int k), .val (.int (0 : Int32)), .val (.ref a753), .val (.ref a764), .unset, .unset, .unset, .unset] [])) rfl (hb hby at_77) (by first | decide | (show _ ≤ (40 : Nat); first | omega | (dsimp only; omega))) (by first | decide | (show _ ≤ (2304 : Nat); first | omega | (dsimp only; omega)))
    obtain ⟨b780, g780⟩ : ∃ z, z = T764.heap.size := ⟨_, rfl⟩
    rw [← g780] at A780 D780 st780
    have c781 := (Nat.le_trans c763 K764.1)
    have n0_782 : n0 ≤ b780 := Nat.le_trans c781 (Nat.le_of_eq g780.symm)
    have c783 := (c766.trans K764 all0)
    have sz0_784 := Nat.le_trans c783.1 (Nat.le_of_eq g780.symm)
    have c785 := (own_lt lt758 K764.1)
    have ne786 : a753 ≠ b780 := own_ne c785 (Nat.le_of_eq g780.symm)
    have c787 := (own_lt lt759 K764.1)
    have ne788 : t753 ≠ b780 := own_ne c787 (Nat.le_of_eq g780.symm)
    have ne789 : a764 ≠ b780 := own_ne lt777 (Nat.le_of_eq g780.symm)
    have ne790 : t764 ≠ b780 := own_ne lt778 (Nat.le_of_eq g780.symm)
    have sf791 : Safe Z own_EL _ _ b780 := Safe.new (EL := own_EL) (Z := Z) (vm := T753.vm) (Nat.le_of_eq g780.symm)
    have CH792 := CH776.trans (CHr.ext E780 CH776.1)
    have ltb780 := A780.lt
    have F793 : Fld Z h780 b780 "com/example/kvasir/kvasir/jpql/Position" "line" "I" (.int (0 : Int32)) := D780 (Or.inr (w48 hw)) (ty := .int) (by decide)
    have F794 : Fld Z h780 b780 "com/example/kvasir/kvasir/jpql/Position" "column" "I" (.int (0 : Int32)) := D780 (Or.inr (w50 hw)) (ty := .int) (by decide)
    refine own_step (T' := T780) (g' := (mkF m 80 #[.val (.int p1), .val (.int p2), .val (.int p3), .val (.int p4), .val (.int c0), .val (.int c1), .val (.int c2), .val (.int k), .val (.int (0 : Int32)), .val (.ref a753), .val (.ref a764), .unset, .unset, .unset, .unset] [(.ref b780)])) st780 ?_
    refine own_step (T' := T780) (g' := (mkF m 81 #[.val (.int p1), .val (.int p2), .val (.int p3), .val (.int p4), .val (.int c0), .val (.int c1), .val (.int c2), .val (.int k), .val (.int (0 : Int32)), .val (.ref a753), .val (.ref a764), .unset, .unset, .unset, .unset] [(.ref b780), (.ref b780)])) (fun _ q => XS.dup X780.here hx rfl (hb hby at_80) rfl rfl q) ?_
    refine own_step (T' := T780) (g' := (mkF m 82 #[.val (.int p1), .val (.int p2), .val (.int p3), .val (.int p4), .val (.int c0), .val (.int c1), .val (.int c2), .val (.int k), .val (.int (0 : Int32)), .val (.ref a753), .val (.ref a764), .unset, .unset, .unset, .unset] [(.int p3), (.ref b780), (.ref b780)])) (fun _ q => XS.iloadN X780.here hx rfl (hb hby at_81) rfl q) ?_
    refine own_step (T' := T780) (g' := (mkF m 83 #[.val (.int p1), .val (.int p2), .val (.int p3), .val (.int p4), .val (.int c0), .val (.int c1), .val (.int c2), .val (.int k), .val (.int (0 : Int32)), .val (.ref a753), .val (.ref a764), .unset, .unset, .unset, .unset] [(.int p4), (.int p3), (.ref b780), (.ref b780)])) (fun _ q => XS.iloadN X780.here hx rfl (hb hby at_82) rfl q) ?_
    have c795 := (Nat.le_trans c781 E780.1)
    refine own_callC X780 hx hZ hown rfl (w43 hw) (w44 hw) (w45 hw) (by decide) (backOf (W := 1) (own_poi l Z a0 hw [] b780 p3 p4 h780 n0 c795 A780 n0_782 F793 F794) hZ (w45 hw) (w42 hw) (Nat.le_of_ble_eq_true rfl) (Nat.le_of_ble_eq_true rfl)) e780  (by first | decide | (show _ ≤ (40 : Nat); first | omega | (dsimp only; omega))) (by first | decide | (show _ ≤ (2304 : Nat); first | omega | (dsimp only; omega))) (g := (mkF m 83 #[.val (.int p1), .val (.int p2), .val (.int p3), .val (.int p4), .val (.int c0), .val (.int c1), .val (.int c2), .val (.int k), .val (.int (0 : Int32)), .val (.ref a753), .val (.ref a764), .unset, .unset, .unset, .unset] [(.int p4), (.int p3), (.ref b780), (.ref b780)])) (argsL := [(.int p3), (.int p4)]) (rest := [(.ref b780)]) rfl (by rw [hml]; rfl) (lenOf pd_8 rfl) rfl rfl (by show 2 * 0 + _ ≤ _; exact Nat.le_of_eq rfl) (hb hby at_83) ?_
    rintro _ T796 L796 X796 ⟨rfl, N796q, K796, f0_796⟩
    have c798 := (Safe.ext E780 CH776.1 sf791)
    have CH797 := CH792.trans (CHr.keep K796 (sfS c798 sf0) CH792.1)
    have N799 := Fr.app N779 N796q
    show own_Fin p e below _ T796 (mkF m 86 #[.val (.int p1), .val (.int p2), .val (.int p3), .val (.int p4), .val (.int c0), .val (.int c1), .val (.int c2), .val (.int k), .val (.int (0 : Int32)), .val (.ref a753), .val (.ref a764), .unset, .unset, .unset, .unset] [(.ref b780)])
    refine own_step (T' := T796) (g' := (mkF m 88 #[.val (.int p1), .val (.int p2), .val (.int p3), .val (.int p4), .val (.int c0), .val (.int c1), .val (.int c2), .val (.int k), .val (.int (0 : Int32)), .val (.ref a753), .val (.ref a764), .val (.ref b780), .unset, .unset, .unset] [])) (fun _ q => XS.astore X796.here hx rfl (hb hby at_86) rfl rfl (l' := #[.val (.int p1), .val (.int p2), .val (.int p3), .val (.int p4), .val (.int c0), .val (.int c1), .val (.int c2), .val (.int k), .val (.int (0 : Int32)), .val (.ref a753), .val (.ref a764), .val (.ref b780), .unset, .unset, .unset]) rfl q) ?_
    refine own_step (T' := T796) (g' := (mkF m 90 #[.val (.int p1), .val (.int p2), .val (.int p3), .val (.int p4), .val (.int c0), .val (.int c1), .val (.int c2), .val (.int k), .val (.int (0 : Int32)), .val (.ref a753), .val (.ref a764), .val (.ref b780), .unset, .unset, .unset] [(.ref a753)])) (fun _ q => XS.aload X796.here hx rfl (hb hby at_88) rfl rfl q) ?_
    refine own_step (T' := T796) (g' := (mkF m 92 #[.val (.int p1), .val (.int p2), .val (.int p3), .val (.int p4), .val (.int c0), .val (.int c1), .val (.int c2), .val (.int k), .val (.int (0 : Int32)), .val (.ref a753), .val (.ref a764), .val (.ref b780), .unset, .unset, .unset] [(.int (0 : Int32)), (.ref a753)])) (fun _ q => XS.iload X796.here hx rfl (hb hby at_90) rfl q) ?_
    refine own_step (T' := T796) (g' := (mkF m 94 #[.val (.int p1), .val (.int p2), .val (.int p3), .val (.int p4), .val (.int c0), .val (.int c1), .val (.int c2), .val (.int k), .val (.int (0 : Int32)), .val (.ref a753), .val (.ref a764), .val (.ref b780), .unset, .unset, .unset] [(.ref b780), (.int (0 : Int32)), (.ref a753)])) (fun _ q => XS.aload X796.here hx rfl (hb hby at_92) rfl rfl q) ?_
    have c800 := (Nat.le_trans c795 K796.1)
    refine own_callS X796 hx hZ hown (w51 hw) (w52 hw) (w53 hw) (w54 hw) (by decide) (backOf (W := 0) (own_named0 l Z a0 hw [] a753 b780 T796.heap n0 c800 ) hZ (w54 hw) (w53 hw) (Nat.le_of_ble_eq_true rfl) (Nat.le_of_ble_eq_true rfl)) rfl  (by first | decide | (show _ ≤ (40 : Nat); first | omega | (dsimp only; omega))) (by first | decide | (show _ ≤ (2304 : Nat); first | omega | (dsimp only; omega))) (g := (mkF m 94 #[.val (.int p1), .val (.int p2), .val (.int p3), .val (.int p4), .val (.int c0), .val (.int c1), .val (.int c2), .val (.int k), .val (.int (0 : Int32)), .val (.ref a753), .val (.ref a764), .val (.ref b780), .unset, .unset, .unset] [(.ref b780), (.int (0 : Int32)), (.ref a753)])) (argsL := [(.ref a753), (.int (0 : Int32)), (.ref b780)]) (rest := []) rfl (by rw [hml]; rfl) (lenOf pd_23 rfl) rfl rfl (by show 2 * 0 + _ ≤ _; exact Nat.le_of_eq rfl) (hb hby at_94) ?_
    rintro _ T801 L801 X801 ⟨a801, rfl, N801q, K801, f0_801, f1_801, f2_801, f3_801, f4_801, f5_801, f6_801, f7_801, f8_801⟩
    have n0_802 : n0 ≤ a801 := Nat.le_trans c800 f0_801
    have c803 := ((c783.ext E780).trans K796 (allS (Or.inr sz0_784) all0))
    have sz0_804 := Nat.le_trans c803.1 f0_801
    have c805 := (own_lt (own_lt c785 E780.1) K796.1)
    have ne806 : a753 ≠ a801 := own_ne c805 f0_801
    have c807 := (own_lt (own_lt c787 E780.1) K796.1)
    have ne808 : t753 ≠ a801 := own_ne c807 f0_801
    have c809 := (own_lt (own_lt lt777 E780.1) K796.1)
    have ne810 : a764 ≠ a801 := own_ne c809 f0_801
    have c811 := (own_lt (own_lt lt778 E780.1) K796.1)
    have ne812 : t764 ≠ a801 := own_ne c811 f0_801
    have c813 := (own_lt ltb780 K796.1)
    have ne814 : b780 ≠ a801 := own_ne c813 f0_801
    have sf815 : Safe Z own_EL _ _ a801 := Safe.new (EL := own_EL) (Z := Z) (vm := T753.vm) f0_801
    have CH816 := CH797.trans (CHr.keep K801 sf0 CH797.1)
    have lt817 := f1_801.lt
    have N818 := Fr.app N799 N801q
    show own_Fin p e below _ T801 (mkF m 97 #[.val (.int p1), .val (.int p2), .val (.int p3), .val (.int p4), .val (.int c0), .val (.int c1), .val (.int c2), .val (.int k), .val (.int (0 : Int32)), .val (.ref a753), .val (.ref a764), .val (.ref b780), .unset, .unset, .unset] [(.ref a801)])
    refine own_step (T' := T801) (g' := (mkF m 99 #[.val (.int p1), .val (.int p2), .val (.int p3), .val (.int p4), .val (.int c0), .val (.int c1), .val (.int c2), .val (.int k), .val (.int (0 : Int32)), .val (.ref a753), .val (.ref a764), .val (.ref b780), .val (.ref a801), .unset, .unset] [])) (fun _ q => XS.astore X801.here hx rfl (hb hby at_97) rfl rfl (l' := #[.val (.int p1), .val (.int p2), .val (.int p3), .val (.int p4), .val (.int c0), .val (.int c1), .val (.int c2), .val (.int k), .val (.int (0 : Int32)), .val (.ref a753), .val (.ref a764), .val (.ref b780), .val (.ref a801), .unset, .unset]) rfl q) ?_
    refine own_step (T' := T801) (g' := (mkF m 101 #[.val (.int p1), .val (.int p2), .val (.int p3), .val (.int p4), .val (.int c0), .val (.int c1), .val (.int c2), .val (.int k), .val (.int (0 : Int32)), .val (.ref a753), .val (.ref a764), .val (.ref b780), .val (.ref a801), .unset, .unset] [(.ref a801)])) (fun _ q => XS.aload X801.here hx rfl (hb hby at_99) rfl rfl q) ?_
    have c819 := (Nat.le_trans c800 K801.1)
    refine own_callV (y := (⟨"com/example/kvasir/kvasir/jpql/InputParameter", "getName", "()Ljava/lang/String;"⟩ : MethodName)) (z := (⟨"com/example/kvasir/kvasir/jpql/InputParameter", "getName", "()Ljava/lang/String;"⟩ : MethodName)) X801 hx hZ hown (w74 hw) (w75 hw) (notFace_of_selects (args := #[]) (mvT hZ (w77 hw))) (w77 hw) (w76 hw) (by decide) (backOf (W := 0) (own_g_getName l Z a0 hw [] a801 a753 T801.heap n0 c819 f3_801) hZ (w78 hw) (w53 hw) (Nat.le_of_ble_eq_true rfl) (Nat.le_of_ble_eq_true rfl)) rfl f1_801  (by first | decide | (show _ ≤ (40 : Nat); first | omega | (dsimp only; omega))) (by first | decide | (show _ ≤ (2304 : Nat); first | omega | (dsimp only; omega))) (g := (mkF m 101 #[.val (.int p1), .val (.int p2), .val (.int p3), .val (.int p4), .val (.int c0), .val (.int c1), .val (.int c2), .val (.int k), .val (.int (0 : Int32)), .val (.ref a753), .val (.ref a764), .val (.ref b780), .val (.ref a801), .unset, .unset] [(.ref a801)])) (argsL := []) (rest := []) rfl (by rw [hml]; rfl) (lenOf pd_20 rfl) rfl rfl (by show 2 * 0 + _ ≤ _; exact Nat.le_of_eq rfl) (hb hby at_101) ?_
    rintro _ T820 L820 X820 ⟨rfl, N820q, e820⟩
    have N821 := Fr.app N818 N820q
    show own_Fin p e below _ T820 (mkF m 104 #[.val (.int p1), .val (.int p2), .val (.int p3), .val (.int p4), .val (.int c0), .val (.int c1), .val (.int c2), .val (.int k), .val (.int (0 : Int32)), .val (.ref a753), .val (.ref a764), .val (.ref b780), .val (.ref a801), .unset, .unset] [(.ref a753)])
    refine own_step (T' := T820) (g' := (mkF m 106 #[.val (.int p1), .val (.int p2), .val (.int p3), .val (.int p4), .val (.int c0), .val (.int c1), .val (.int c2), .val (.int k), .val (.int (0 : Int32)), .val (.ref a753), .val (.ref a764), .val (.ref b780), .val (.ref a801), .val (.ref a753), .unset] [])) (fun _ q => XS.astore X820.here hx rfl (hb hby at_104) rfl rfl (l' := #[.val (.int p1), .val (.int p2), .val (.int p3), .val (.int p4), .val (.int c0), .val (.int c1), .val (.int c2), .val (.int k), .val (.int (0 : Int32)), .val (.ref a753), .val (.ref a764), .val (.ref b780), .val (.ref a801), .val (.ref a753), .unset]) rfl q) ?_
    refine own_step (T' := T820) (g' := (mkF m 108 #[.val (.int p1), .val (.int p2), .val (.int p3), .val (.int p4), .val (.int c0), .val (.int c1), .val (.int c2), .val (.int k), .val (.int (0 : Int32)), .val (.ref a753), .val (.ref a764), .val (.ref b780), .val (.ref a801), .val (.ref a753), .unset] [(.ref a801)])) (fun _ q => XS.aload X820.here hx rfl (hb hby at_106) rfl rfl q) ?_
    have c822 := ((((c762.keep K764 all0).ext E780).keep K796 (allS n0_782 all0)).keep K801 all0)
    have c823 := ((((f1_753.keep K764).ext E780).keep K796).keep K801)
    have c824 := ((((f2_753.keep K764 nin0).ext E780).keep K796 (ninS ne786 nin0)).keep K801 nin0)
    have c825 := ((((f3_753.keep K764 nin0).ext E780).keep K796 (ninS ne786 nin0)).keep K801 nin0)
    have c826 := ((((f4_753.keep K764 nin0).ext E780).keep K796 (ninS ne788 nin0)).keep K801 nin0)
    have c828 := (Nat.le_trans (Nat.le_trans (Nat.le_trans (Nat.le_trans (Nat.le_refl _) K764.1) E780.1) K796.1) K801.1)
    refine own_callVW (y := (⟨"com/example/kvasir/kvasir/jpql/InputParameter", "toString", "()Ljava/lang/String;"⟩ : MethodName)) (z := (⟨"com/example/kvasir/kvasir/jpql/InputParameter", "toString", "()Ljava/lang/String;"⟩ : MethodName)) X820 hx hZ hown hS c828 (w79 hw) (w80 hw) (notFace_of_selects (args := #[]) (mvT hZ (w82 hw))) (w82 hw) (w81 hw) (by decide) (backOfSH (W := 0) (own_pts l Z a0 hw [] G1 G3 a801 a753 t753 kb753 (own_bs (own_tl k c0 c1 c2)) T801.heap n0 c819 O2 O4 P5 rG3 c822 f1_801 f3_801 c823 c824 c825 c826 (by have h := own_tl_len k c0 c1 c2; rw [own_bs_len]; omega : 1 + (own_bs (own_tl k c0 c1 c2)).length < 16)) hZ (w83 hw) (w53 hw) (Nat.le_of_ble_eq_true rfl) (Nat.le_of_ble_eq_true rfl) (own_hEL hw) CH816.1) e820 f1_801  (by first | decide | (show _ ≤ (40 : Nat); first | omega | (dsimp only; omega))) (by first | decide | (show _ ≤ (2304 : Nat); first | omega | (dsimp only; omega))) (g := (mkF m 108 #[.val (.int p1), .val (.int p2), .val (.int p3), .val (.int p4), .val (.int c0), .val (.int c1), .val (.int c2), .val (.int k), .val (.int (0 : Int32)), .val (.ref a753), .val (.ref a764), .val (.ref b780), .val (.ref a801), .val (.ref a753), .unset] [(.ref a801)])) (argsL := []) (rest := []) rfl (by rw [hml]; rfl) (lenOf pd_20 rfl) rfl rfl (by show 2 * 0 + _ ≤ _; exact Nat.le_of_eq rfl) (hb hby at_108) ?_
    rintro _ T827 L827 X827 hS hZ hown C827 ⟨r827, tr827, kr827, rfl, N827q, K827, f0_827, f1_827, f2_827, f3_827, f4_827, f5_827⟩
    have n0_829 : n0 ≤ r827 := Nat.le_trans c819 f0_827
    have c830 := (c803.trans K801 all0)
    have sz0_831 := Nat.le_trans c830.1 f0_827
    have c832 := (own_lt c805 K801.1)
    have ne833 : a753 ≠ r827 := own_ne c832 f0_827
    have c834 := (own_lt c807 K801.1)
    have ne835 : t753 ≠ r827 := own_ne c834 f0_827
    have c836 := (own_lt c809 K801.1)
    have ne837 : a764 ≠ r827 := own_ne c836 f0_827
    have c838 := (own_lt c811 K801.1)
    have ne839 : t764 ≠ r827 := own_ne c838 f0_827
    have c840 := (own_lt c813 K801.1)
    have ne841 : b780 ≠ r827 := own_ne c840 f0_827
    have ne842 : a801 ≠ r827 := own_ne lt817 f0_827
    have sf843 : Safe Z own_EL _ _ r827 := Safe.new (EL := own_EL) (Z := Z) (vm := T753.vm) f0_827
    have n0_844 : n0 ≤ tr827 := Nat.le_trans c819 f1_827
    have sz0_845 := Nat.le_trans c830.1 f1_827
    have ne846 : a753 ≠ tr827 := own_ne c832 f1_827
    have ne847 : t753 ≠ tr827 := own_ne c834 f1_827
    have ne848 : a764 ≠ tr827 := own_ne c836 f1_827
    have ne849 : t764 ≠ tr827 := own_ne c838 f1_827
    have ne850 : b780 ≠ tr827 := own_ne c840 f1_827
    have ne851 : a801 ≠ tr827 := own_ne lt817 f1_827
    have sf852 : Safe Z own_EL _ _ tr827 := Safe.new (EL := own_EL) (Z := Z) (vm := T753.vm) f1_827
    have CH853 := CH816.trans C827
    have lt854 := f2_827.lt
    have lt855 := f5_827.lt
    have N856 := Fr.app N821 N827q
    show own_Fin p e below _ T827 (mkF m 111 #[.val (.int p1), .val (.int p2), .val (.int p3), .val (.int p4), .val (.int c0), .val (.int c1), .val (.int c2), .val (.int k), .val (.int (0 : Int32)), .val (.ref a753), .val (.ref a764), .val (.ref b780), .val (.ref a801), .val (.ref a753), .unset] [(.ref r827)])
    refine own_step (T' := T827) (g' := (mkF m 113 #[.val (.int p1), .val (.int p2), .val (.int p3), .val (.int p4), .val (.int c0), .val (.int c1), .val (.int c2), .val (.int k), .val (.int (0 : Int32)), .val (.ref a753), .val (.ref a764), .val (.ref b780), .val (.ref a801), .val (.ref a753), .val (.ref r827)] [])) (fun _ q => XS.astore X827.here hx rfl (hb hby at_111) rfl rfl (l' := #[.val (.int p1), .val (.int p2), .val (.int p3), .val (.int p4), .val (.int c0), .val (.int c1), .val (.int c2), .val (.int k), .val (.int (0 : Int32)), .val (.ref a753), .val (.ref a764), .val (.ref b780), .val (.ref a801), .val (.ref a753), .val (.ref r827)]) rfl q) ?_
    refine own_step (T' := T827) (g' := (mkF m 115 #[.val (.int p1), .val (.int p2), .val (.int p3), .val (.int p4), .val (.int c0), .val (.int c1), .val (.int c2), .val (.int k), .val (.int (0 : Int32)), .val (.ref a753), .val (.ref a764), .val (.ref b780), .val (.ref a801), .val (.ref a753), .val (.ref r827)] [(.ref a753)])) (fun _ q => XS.aload X827.here hx rfl (hb hby at_113) rfl rfl q) ?_
    refine own_step (T' := T827) (g' := (mkF m 118 #[.val (.int p1), .val (.int p2), .val (.int p3), .val (.int p4), .val (.int c0), .val (.int c1), .val (.int c2), .val (.int k), .val (.int (0 : Int32)), .val (.ref a753), .val (.ref a764), .val (.ref b780), .val (.ref a801), .val (.ref a753), .val (.ref r827)] [])) (fun _ q => XS.ifnullNo X827.here hx rfl (hb hby at_115) rfl q) ?_
    refine own_step (T' := T827) (g' := (mkF m 120 #[.val (.int p1), .val (.int p2), .val (.int p3), .val (.int p4), .val (.int c0), .val (.int c1), .val (.int c2), .val (.int k), .val (.int (0 : Int32)), .val (.ref a753), .val (.ref a764), .val (.ref b780), .val (.ref a801), .val (.ref a753), .val (.ref r827)] [(.ref a753)])) (fun _ q => XS.aload X827.here hx rfl (hb hby at_118) rfl rfl q) ?_
    refine own_step (T' := T827) (g' := (mkF m 122 #[.val (.int p1), .val (.int p2), .val (.int p3), .val (.int p4), .val (.int c0), .val (.int c1), .val (.int c2), .val (.int k), .val (.int (0 : Int32)), .val (.ref a753), .val (.ref a764), .val (.ref b780), .val (.ref a801), .val (.ref a753), .val (.ref r827)] [(.ref a753), (.ref a753)])) (fun _ q => XS.aload X827.here hx rfl (hb hby at_120) rfl rfl q) ?_
    have c857 := (Nat.le_trans c819 K827.1)
    have c859 := (c823.keep K827)
    refine own_callV (y := (⟨"java/lang/String", "equals", "(Ljava/lang/Object;)Z"⟩ : MethodName)) (z := (⟨"java/lang/String", "equals", "(Ljava/lang/Object;)Z"⟩ : MethodName)) X827 hx hZ hown (w195 hw) (w196 hw) (notFace_of_selects (args := #[]) (mvT hZ (w198 hw))) (w198 hw) (w197 hw) (by decide) (backOf (W := 0) (own_eqs l Z a0 hw [] a753 T827.heap n0 c857 ) hZ (w199 hw) (w6 hw) (Nat.le_of_ble_eq_true rfl) (Nat.le_of_ble_eq_true rfl)) rfl c859  (by first | decide | (show _ ≤ (40 : Nat); first | omega | (dsimp only; omega))) (by first | decide | (show _ ≤ (2304 : Nat); first | omega | (dsimp only; omega))) (g := (mkF m 122 #[.val (.int p1), .val (.int p2), .val (.int p3), .val (.int p4), .val (.int c0), .val (.int c1), .val (.int c2), .val (.int k), .val (.int (0 : Int32)), .val (.ref a753), .val (.ref a764), .val (.ref b780), .val (.ref a801), .val (.ref a753), .val (.ref r827)] [(.ref a753), (.ref a753)])) (argsL := [(.ref a753)]) (rest := []) rfl (by rw [hml]; rfl) (lenOf pd_24 rfl) rfl rfl (by show 2 * 0 + _ ≤ _; exact Nat.le_of_eq rfl) (hb hby at_122) ?_
    rintro _ T858 L858 X858 ⟨rfl, N858q, e858⟩
    have N860 := Fr.app N856 N858q
    show own_Fin p e below _ T858 (mkF m 125 #[.val (.int p1), .val (.int p2), .val (.int p3), .val (.int p4), .val (.int c0), .val (.int c1), .val (.int c2), .val (.int k), .val (.int (0 : Int32)), .val (.ref a753), .val (.ref a764), .val (.ref b780), .val (.ref a801), .val (.ref a753), .val (.ref r827)] [(.int (1 : Int32))])
    refine own_step (T' := T858) (g' := (mkF m 128 #[.val (.int p1), .val (.int p2), .val (.int p3), .val (.int p4), .val (.int c0), .val (.int c1), .val (.int c2), .val (.int k), .val (.int (0 : Int32)), .val (.ref a753), .val (.ref a764), .val (.ref b780), .val (.ref a801), .val (.ref a753), .val (.ref r827)] [])) (fun _ q => XS.ifNo X858.here hx rfl (hb hby at_125) rfl (by decide) q) ?_
    refine own_step (T' := T858) (g' := (mkF m 130 #[.val (.int p1), .val (.int p2), .val (.int p3), .val (.int p4), .val (.int c0), .val (.int c1), .val (.int c2), .val (.int k), .val (.int (0 : Int32)), .val (.ref a753), .val (.ref a764), .val (.ref b780), .val (.ref a801), .val (.ref a753), .val (.ref r827)] [(.ref a801)])) (fun _ q => XS.aload X858.here hx rfl (hb hby at_128) rfl rfl q) ?_
    have c861 := (f4_801.keep K827 nin0)
    have c863 := (f1_801.keep K827)
    refine own_callV (y := (⟨"com/example/kvasir/kvasir/jpql/InputParameter", "getNumber", "()I"⟩ : MethodName)) (z := (⟨"com/example/kvasir/kvasir/jpql/InputParameter", "getNumber", "()I"⟩ : MethodName)) X858 hx hZ hown (w200 hw) (w201 hw) (notFace_of_selects (args := #[]) (mvT hZ (w203 hw))) (w203 hw) (w202 hw) (by decide) (backOf (W := 0) (own_g_getNumber l Z a0 hw [] a801 T827.heap n0 c857 c861) hZ (w204 hw) (w53 hw) (Nat.le_of_ble_eq_true rfl) (Nat.le_of_ble_eq_true rfl)) e858 c863  (by first | decide | (show _ ≤ (40 : Nat); first | omega | (dsimp only; omega))) (by first | decide | (show _ ≤ (2304 : Nat); first | omega | (dsimp only; omega))) (g := (mkF m 130 #[.val (.int p1), .val (.int p2), .val (.int p3), .val (.int p4), .val (.int c0), .val (.int c1), .val (.int c2), .val (.int k), .val (.int (0 : Int32)), .val (.ref a753), .val (.ref a764), .val (.ref b780), .val (.ref a801), .val (.ref a753), .val (.ref r827)] [(.ref a801)])) (argsL := []) (rest := []) rfl (by rw [hml]; rfl) (lenOf pd_5 rfl) rfl rfl (by show 2 * 0 + _ ≤ _; exact Nat.le_of_eq rfl) (hb hby at_130) ?_
    rintro _ T862 L862 X862 ⟨rfl, N862q, e862⟩
    have N864 := Fr.app N860 N862q
    show own_Fin p e below _ T862 (mkF m 133 #[.val (.int p1), .val (.int p2), .val (.int p3), .val (.int p4), .val (.int c0), .val (.int c1), .val (.int c2), .val (.int k), .val (.int (0 : Int32)), .val (.ref a753), .val (.ref a764), .val (.ref b780), .val (.ref a801), .val (.ref a753), .val (.ref r827)] [(.int (0 : Int32))])
    refine own_step (T' := T862) (g' := (mkF m 136 #[.val (.int p1), .val (.int p2), .val (.int p3), .val (.int p4), .val (.int c0), .val (.int c1), .val (.int c2), .val (.int k), .val (.int (0 : Int32)), .val (.ref a753), .val (.ref a764), .val (.ref b780), .val (.ref a801), .val (.ref a753), .val (.ref r827)] [])) (fun _ q => XS.ifNo X862.here hx rfl (hb hby at_133) rfl (by decide) q) ?_
    refine own_step (T' := T862) (g' := (mkF m 138 #[.val (.int p1), .val (.int p2), .val (.int p3), .val (.int p4), .val (.int c0), .val (.int c1), .val (.int c2), .val (.int k), .val (.int (0 : Int32)), .val (.ref a753), .val (.ref a764), .val (.ref b780), .val (.ref a801), .val (.ref a753), .val (.ref r827)] [(.ref a801)])) (fun _ q => XS.aload X862.here hx rfl (hb hby at_136) rfl rfl q) ?_
    have c865 := (f5_801.keep K827 nin0)
    refine own_callV (y := (⟨"com/example/kvasir/kvasir/jpql/InputParameter", "isCollectionValued", "()Z"⟩ : MethodName)) (z := (⟨"com/example/kvasir/kvasir/jpql/InputParameter", "isCollectionValued", "()Z"⟩ : MethodName)) X862 hx hZ hown (w205 hw) (w206 hw) (notFace_of_selects (args := #[]) (mvT hZ (w208 hw))) (w208 hw) (w207 hw) (by decide) (backOf (W := 0) (own_icv0 l Z a0 hw [] a801 T827.heap n0 c857 c865) hZ (w209 hw) (w53 hw) (Nat.le_of_ble_eq_true rfl) (Nat.le_of_ble_eq_true rfl)) e862 c863  (by first | decide | (show _ ≤ (40 : Nat); first | omega | (dsimp only; omega))) (by first | decide | (show _ ≤ (2304 : Nat); first | omega | (dsimp only; omega))) (g := (mkF m 138 #[.val (.int p1), .val (.int p2), .val (.int p3), .val (.int p4), .val (.int c0), .val (.int c1), .val (.int c2), .val (.int k), .val (.int (0 : Int32)), .val (.ref a753), .val (.ref a764), .val (.ref b780), .val (.ref a801), .val (.ref a753), .val (.ref r827)] [(.ref a801)])) (argsL := []) (rest := []) rfl (by rw [hml]; rfl) (lenOf pd_12 rfl) rfl rfl (by show 2 * 0 + _ ≤ _; exact Nat.le_of_eq rfl) (hb hby at_138) ?_
    rintro _ T866 L866 X866 ⟨rfl, N866q, e866⟩
    have N867 := Fr.app N864 N866q
    show own_Fin p e below _ T866 (mkF m 141 #[.val (.int p1), .val (.int p2), .val (.int p3), .val (.int p4), .val (.int c0), .val (.int c1), .val (.int c2), .val (.int k), .val (.int (0 : Int32)), .val (.ref a753), .val (.ref a764), .val (.ref b780), .val (.ref a801), .val (.ref a753), .val (.ref r827)] [(.int (0 : Int32))])
    refine own_step (T' := T866) (g' := (mkF m 143 #[.val (.int p1), .val (.int p2), .val (.int p3), .val (.int p4), .val (.int c0), .val (.int c1), .val (.int c2), .val (.int k), .val (.int (0 : Int32)), .val (.ref a753), .val (.ref a764), .val (.ref b780), .val (.ref a801), .val (.ref a753), .val (.ref r827)] [(.int (0 : Int32)), (.int (0 : Int32))])) (fun _ q => XS.iload X866.here hx rfl (hb hby at_141) rfl q) ?_
    refine own_step (T' := T866) (g' := (mkF m 146 #[.val (.int p1), .val (.int p2), .val (.int p3), .val (.int p4), .val (.int c0), .val (.int c1), .val (.int c2), .val (.int k), .val (.int (0 : Int32)), .val (.ref a753), .val (.ref a764), .val (.ref b780), .val (.ref a801), .val (.ref a753), .val (.ref r827)] [])) (fun _ q => XS.icmpNo X866.here hx rfl (hb hby at_143) rfl (by decide) q) ?_
    refine own_step (T' := T866) (g' := (mkF m 148 #[.val (.int p1), .val (.int p2), .val (.int p3), .val (.int p4), .val (.int c0), .val (.int c1), .val (.int c2), .val (.int k), .val (.int (0 : Int32)), .val (.ref a753), .val (.ref a764), .val (.ref b780), .val (.ref a801), .val (.ref a753), .val (.ref r827)] [(.ref a801)])) (fun _ q => XS.aload X866.here hx rfl (hb hby at_146) rfl rfl q) ?_
    have c868 := (f2_801.keep K827 nin0)
    refine own_callVU (y := (⟨"com/example/kvasir/kvasir/jpql/InputParameter", "getPosition", "()Lcom/example/kvasir/kvasir/jpql/Position;"⟩ : MethodName)) (z := (⟨"com/example/kvasir/kvasir/jpql/Expression", "getPosition", "()Lcom/example/kvasir/kvasir/jpql/Position;"⟩ : MethodName)) X866 hx hZ hown (w210 hw) (w211 hw) (w212 hw) (w214 hw) (w213 hw) (by decide) (backOf (W := 0) (own_g_pos l Z a0 hw [] a801 b780 T827.heap n0 c857 c868) hZ (w215 hw) (w63 hw) (Nat.le_of_ble_eq_true rfl) (Nat.le_of_ble_eq_true rfl)) e866 c863  (by first | decide | (show _ ≤ (40 : Nat); first | omega | (dsimp only; omega))) (by first | decide | (show _ ≤ (2304 : Nat); first | omega | (dsimp only; omega))) (g := (mkF m 148 #[.val (.int p1), .val (.int p2), .val (.int p3), .val (.int p4), .val (.int c0), .val (.int c1), .val (.int c2), .val (.int k), .val (.int (0 : Int32)), .val (.ref a753), .val (.ref a764), .val (.ref b780), .val (.ref a801), .val (.ref a753), .val (.ref r827)] [(.ref a801)])) (argsL := []) (rest := []) rfl (by rw [hml]; rfl) (lenOf pd_25 rfl) rfl rfl (by show 2 * 0 + _ ≤ _; exact Nat.le_of_eq rfl) (hb hby at_148) ?_
    rintro _ T869 L869 X869 ⟨rfl, N869q, e869⟩
    have N870 := Fr.app N867 N869q
    show own_Fin p e below _ T869 (mkF m 151 #[.val (.int p1), .val (.int p2), .val (.int p3), .val (.int p4), .val (.int c0), .val (.int c1), .val (.int c2), .val (.int k), .val (.int (0 : Int32)), .val (.ref a753), .val (.ref a764), .val (.ref b780), .val (.ref a801), .val (.ref a753), .val (.ref r827)] [(.ref b780)])
    refine own_step (T' := T869) (g' := (mkF m 153 #[.val (.int p1), .val (.int p2), .val (.int p3), .val (.int p4), .val (.int c0), .val (.int c1), .val (.int c2), .val (.int k), .val (.int (0 : Int32)), .val (.ref a753), .val (.ref a764), .val (.ref b780), .val (.ref a801), .val (.ref a753), .val (.ref r827)] [(.ref b780), (.ref b780)])) (fun _ q => XS.aload X869.here hx rfl (hb hby at_151) rfl rfl q) ?_
    refine own_step (T' := T869) (g' := (mkF m 156 #[.val (.int p1), .val (.int p2), .val (.int p3), .val (.int p4), .val (.int c0), .val (.int c1), .val (.int c2), .val (.int k), .val (.int (0 : Int32)), .val (.ref a753), .val (.ref a764), .val (.ref b780), .val (.ref a801), .val (.ref a753), .val (.ref r827)] [])) (fun _ q => Jvm.RoadKit.acmp (g := (mkF m 153 #[.val (.int p1), .val (.int p2), .val (.int p3), .val (.int p4), .val (.int c0), .val (.int c1), .val (.int c2), .val (.int k), .val (.int (0 : Int32)), .val (.ref a753), .val (.ref a764), .val (.ref b780), .val (.ref a801), .val (.ref a753), .val (.ref r827)] [(.ref b780), (.ref b780)])) X869 hx rfl rfl rfl (pc0 := 153) (pc' := 156) (same := true) rfl (hb hby at_153) rfl (decide_eq_true rfl) (by decide) (by decide) q) ?_
    refine own_step (T' := T869) (g' := (mkF m 158 #[.val (.int p1), .val (.int p2), .val (.int p3), .val (.int p4), .val (.int c0), .val (.int c1), .val (.int c2), .val (.int k), .val (.int (0 : Int32)), .val (.ref a753), .val (.ref a764), .val (.ref b780), .val (.ref a801), .val (.ref a753), .val (.ref r827)] [(.ref a801)])) (fun _ q => XS.aload X869.here hx rfl (hb hby at_156) rfl rfl q) ?_
    have c871 := (f6_801.keep K827 nin0)
    refine own_callV (y := (⟨"com/example/kvasir/kvasir/jpql/InputParameter", "isBound", "()Z"⟩ : MethodName)) (z := (⟨"com/example/kvasir/kvasir/jpql/InputParameter", "isBound", "()Z"⟩ : MethodName)) X869 hx hZ hown (w216 hw) (w217 hw) (notFace_of_selects (args := #[]) (mvT hZ (w219 hw))) (w219 hw) (w218 hw) (by decide) (backOf (W := 0) (own_g_isBound l Z a0 hw [] a801 T827.heap n0 c857 c871) hZ (w220 hw) (w53 hw) (Nat.le_of_ble_eq_true rfl) (Nat.le_of_ble_eq_true rfl)) e869 c863  (by first | decide | (show _ ≤ (40 : Nat); first | omega | (dsimp only; omega))) (by first | decide | (show _ ≤ (2304 : Nat); first | omega | (dsimp only; omega))) (g := (mkF m 158 #[.val (.int p1), .val (.int p2), .val (.int p3), .val (.int p4), .val (.int c0), .val (.int c1), .val (.int c2), .val (.int k), .val (.int (0 : Int32)), .val (.ref a753), .val (.ref a764), .val (.ref b780), .val (.ref a801), .val (.ref a753), .val (.ref r827)] [(.ref a801)])) (argsL := []) (rest := []) rfl (by rw [hml]; rfl) (lenOf pd_12 rfl) rfl rfl (by show 2 * 0 + _ ≤ _; exact Nat.le_of_eq rfl) (hb hby at_158) ?_
    rintro _ T872 L872 X872 ⟨rfl, N872q, e872⟩
    have N873 := Fr.app N870 N872q
    show own_Fin p e below _ T872 (mkF m 161 #[.val (.int p1), .val (.int p2), .val (.int p3), .val (.int p4), .val (.int c0), .val (.int c1), .val (.int c2), .val (.int k), .val (.int (0 : Int32)), .val (.ref a753), .val (.ref a764), .val (.ref b780), .val (.ref a801), .val (.ref a753), .val (.ref r827)] [(.int (0 : Int32))])
    refine own_step (T' := T872) (g' := (mkF m 164 #[.val (.int p1), .val (.int p2), .val (.int p3), .val (.int p4), .val (.int c0), .val (.int c1), .val (.int c2), .val (.int k), .val (.int (0 : Int32)), .val (.ref a753), .val (.ref a764), .val (.ref b780), .val (.ref a801), .val (.ref a753), .val (.ref r827)] [])) (fun _ q => XS.ifNo X872.here hx rfl (hb hby at_161) rfl (by decide) q) ?_
    refine own_step (T' := T872) (g' := (mkF m 166 #[.val (.int p1), .val (.int p2), .val (.int p3), .val (.int p4), .val (.int c0), .val (.int c1), .val (.int c2), .val (.int k), .val (.int (0 : Int32)), .val (.ref a753), .val (.ref a764), .val (.ref b780), .val (.ref a801), .val (.ref a753), .val (.ref r827)] [(.ref a801)])) (fun _ q => XS.aload X872.here hx rfl (hb hby at_164) rfl rfl q) ?_
    have c874 := (f7_801.keep K827 nin0)
    refine own_callV (y := (⟨"com/example/kvasir/kvasir/jpql/InputParameter", "getValue", "()Ljava/lang/Object;"⟩ : MethodName)) (z := (⟨"com/example/kvasir/kvasir/jpql/InputParameter", "getValue", "()Ljava/lang/Object;"⟩ : MethodName)) X872 hx hZ hown (w223 hw) (w224 hw) (notFace_of_selects (args := #[]) (mvT hZ (w226 hw))) (w226 hw) (w225 hw) (by decide) (backOf (W := 0) (own_g_getValue l Z a0 hw [] a801 T827.heap n0 c857 c874) hZ (w227 hw) (w53 hw) (Nat.le_of_ble_eq_true rfl) (Nat.le_of_ble_eq_true rfl)) e872 c863  (by first | decide | (show _ ≤ (40 : Nat); first | omega | (dsimp only; omega))) (by first | decide | (show _ ≤ (2304 : Nat); first | omega | (dsimp only; omega))) (g := (mkF m 166 #[.val (.int p1), .val (.int p2), .val (.int p3), .val (.int p4), .val (.int c0), .val (.int c1), .val (.int c2), .val (.int k), .val (.int (0 : Int32)), .val (.ref a753), .val (.ref a764), .val (.ref b780), .val (.ref a801), .val (.ref a753), .val (.ref r827)] [(.ref a801)])) (argsL := []) (rest := []) rfl (by rw [hml]; rfl) (lenOf pd_26 rfl) rfl rfl (by show 2 * 0 + _ ≤ _; exact Nat.le_of_eq rfl) (hb hby at_166) ?_
    rintro _ T875 L875 X875 ⟨rfl, N875q, e875⟩
    have N876 := Fr.app N873 N875q
    show own_Fin p e below _ T875 (mkF m 169 #[.val (.int p1), .val (.int p2), .val (.int p3), .val (.int p4), .val (.int c0), .val (.int c1), .val (.int c2), .val (.int k), .val (.int (0 : Int32)), .val (.ref a753), .val (.ref a764), .val (.ref b780), .val (.ref a801), .val (.ref a753), .val (.ref r827)] [.null])
    refine own_step (T' := T875) (g' := (mkF m 172 #[.val (.int p1), .val (.int p2), .val (.int p3), .val (.int p4), .val (.int c0), .val (.int c1), .val (.int c2), .val (.int k), .val (.int (0 : Int32)), .val (.ref a753), .val (.ref a764), .val (.ref b780), .val (.ref a801), .val (.ref a753), .val (.ref r827)] [])) (fun _ q => XT.ifnonnullNo X875.here hx rfl (hb hby at_169) rfl q) ?_
    refine own_step (T' := T875) (g' := (mkF m 174 #[.val (.int p1), .val (.int p2), .val (.int p3), .val (.int p4), .val (.int c0), .val (.int c1), .val (.int c2), .val (.int k), .val (.int (0 : Int32)), .val (.ref a753), .val (.ref a764), .val (.ref b780), .val (.ref a801), .val (.ref a753), .val (.ref r827)] [(.ref a801)])) (fun _ q => XS.aload X875.here hx rfl (hb hby at_172) rfl rfl q) ?_
    have c877 := (f8_801.keep K827 nin0)
    refine own_callV (y := (⟨"com/example/kvasir/kvasir/jpql/InputParameter", "getMembers", "()Ljava/util/List;"⟩ : MethodName)) (z := (⟨"com/example/kvasir/kvasir/jpql/InputParameter", "getMembers", "()Ljava/util/List;"⟩ : MethodName)) X875 hx hZ hown (w230 hw) (w231 hw) (notFace_of_selects (args := #[]) (mvT hZ (w233 hw))) (w233 hw) (w232 hw) (by decide) (backOf (W := 0) (own_g_getMembers l Z a0 hw [] a801 T827.heap n0 c857 c877) hZ (w234 hw) (w53 hw) (Nat.le_of_ble_eq_true rfl) (Nat.le_of_ble_eq_true rfl)) e875 c863  (by first | decide | (show _ ≤ (40 : Nat); first | omega | (dsimp only; omega))) (by first | decide | (show _ ≤ (2304 : Nat); first | omega | (dsimp only; omega))) (g := (mkF m 174 #[.val (.int p1), .val (.int p2), .val (.int p3), .val (.int p4), .val (.int c0), .val (.int c1), .val (.int c2), .val (.int k), .val (.int (0 : Int32)), .val (.ref a753), .val (.ref a764), .val (.ref b780), .val (.ref a801), .val (.ref a753), .val (.ref r827)] [(.ref a801)])) (argsL := []) (rest := []) rfl (by rw [hml]; rfl) (lenOf pd_27 rfl) rfl rfl (by show 2 * 0 + _ ≤ _; exact Nat.le_of_eq rfl) (hb hby at_174) ?_
    rintro _ T878 L878 X878 ⟨rfl, N878q, e878⟩
    have N879 := Fr.app N876 N878q
    show own_Fin p e below _ T878 (mkF m 177 #[.val (.int p1), .val (.int p2), .val (.int p3), .val (.int p4), .val (.int c0), .val (.int c1), .val (.int c2), .val (.int k), .val (.int (0 : Int32)), .val (.ref a753), .val (.ref a764), .val (.ref b780), .val (.ref a801), .val (.ref a753), .val (.ref r827)] [.null])
    refine own_step (T' := T878) (g' := (mkF m 180 #[.val (.int p1), .val (.int p2), .val (.int p3), .val (.int p4), .val (.int c0), .val (.int c1), .val (.int c2), .val (.int k), .val (.int (0 : Int32)), .val (.ref a753), .val (.ref a764), .val (.ref b780), .val (.ref a801), .val (.ref a753), .val (.ref r827)] [])) (fun _ q => XT.ifnonnullNo X878.here hx rfl (hb hby at_177) rfl q) ?_
    refine own_step (T' := T878) (g' := (mkF m 182 #[.val (.int p1), .val (.int p2), .val (.int p3), .val (.int p4), .val (.int c0), .val (.int c1), .val (.int c2), .val (.int k), .val (.int (0 : Int32)), .val (.ref a753), .val (.ref a764), .val (.ref b780), .val (.ref a801), .val (.ref a753), .val (.ref r827)] [(.ref r827)])) (fun _ q => XS.aload X878.here hx rfl (hb hby at_180) rfl rfl q) ?_
    refine own_step (T' := T878) (g' := (mkF m 185 #[.val (.int p1), .val (.int p2), .val (.int p3), .val (.int p4), .val (.int c0), .val (.int c1), .val (.int c2), .val (.int k), .val (.int (0 : Int32)), .val (.ref a753), .val (.ref a764), .val (.ref b780), .val (.ref a801), .val (.ref a753), .val (.ref r827)] [])) (fun _ q => XS.ifnullNo X878.here hx rfl (hb hby at_182) rfl q) ?_
    refine own_step (T' := T878) (g' := (mkF m 187 #[.val (.int p1), .val (.int p2), .val (.int p3), .val (.int p4), .val (.int c0), .val (.int c1), .val (.int c2), .val (.int k), .val (.int (0 : Int32)), .val (.ref a753), .val (.ref a764), .val (.ref b780), .val (.ref a801), .val (.ref a753), .val (.ref r827)] [(.ref r827)])) (fun _ q => XS.aload X878.here hx rfl (hb hby at_185) rfl rfl q) ?_
    refine own_step (T' := T878) (g' := (mkF m 189 #[.val (.int p1), .val (.int p2), .val (.int p3), .val (.int p4), .val (.int c0), .val (.int c1), .val (.int c2), .val (.int k), .val (.int (0 : Int32)), .val (.ref a753), .val (.ref a764), .val (.ref b780), .val (.ref a801), .val (.ref a753), .val (.ref r827)] [(.ref a764), (.ref r827)])) (fun _ q => XS.aload X878.here hx rfl (hb hby at_187) rfl rfl q) ?_
    have qV880 : ((([] ++ [Value.int (58 : Int32)]) ++ (own_bs (own_tl k c0 c1 c2))) : List Value) = (own_bs ((58 : Int32) :: own_tl k c0 c1 c2)) := (own_R_bs _)
    have V880 : Arv Z T827.heap tr827 kr827 .byte (Int32.ofNat (([] ++ [Value.int (58 : Int32)]) ++ (own_bs (own_tl k c0 c1 c2))).length) (own_bs ((58 : Int32) :: own_tl k c0 c1 c2)) (.int 0) := own_fixv qV880 f5_827
    have qV881 : ((Int32.ofNat (([] ++ [Value.int (58 : Int32)]) ++ (own_bs (own_tl k c0 c1 c2))).length) : Int32) = (Int32.ofNat ((58 : Int32) :: own_tl k c0 c1 c2).length) := (by rw [own_R_bs, own_bs_len])
    have V881 : Arv Z T827.heap tr827 kr827 .byte (Int32.ofNat ((58 : Int32) :: own_tl k c0 c1 c2).length) (own_bs ((58 : Int32) :: own_tl k c0 c1 c2)) (.int 0) := own_fixn qV881 V880
    have c882 := ((((f5_764.ext E780).keep K796 (ninS ne790 nin0)).keep K801 nin0).keep K827 nin0)
    have qV883 : ((Int32.ofNat (own_bs ((58 : Int32) :: own_tl k c0 c1 c2)).length) : Int32) = (Int32.ofNat ((58 : Int32) :: own_tl k c0 c1 c2).length) := (by rw [own_bs_len])
    have V883 : Arv Z T827.heap t764 kb764 .byte (Int32.ofNat ((58 : Int32) :: own_tl k c0 c1 c2).length) (own_bs ((58 : Int32) :: own_tl k c0 c1 c2)) (.int 0) := own_fixn qV883 c882
    have c884 := (c822.keep K827 all0)
    have c885 := ((((f2_764.ext E780).keep K796).keep K801).keep K827)
    have c886 := ((((f3_764.ext E780).keep K796 (ninS ne789 nin0)).keep K801 nin0).keep K827 nin0)
    have c887 := ((((f4_764.ext E780).keep K796 (ninS ne789 nin0)).keep K801 nin0).keep K827 nin0)
    refine own_callV (y := (⟨"java/lang/String", "equals", "(Ljava/lang/Object;)Z"⟩ : MethodName)) (z := (⟨"java/lang/String", "equals", "(Ljava/lang/Object;)Z"⟩ : MethodName)) X878 hx hZ hown (w195 hw) (w196 hw) (notFace_of_selects (args := #[]) (mvT hZ (w198 hw))) (w198 hw) (w197 hw) (by decide) (backOf (W := 0) (own_eq2 l Z a0 hw [] G1 G3 r827 tr827 kr827 a764 t764 kb764 ((58 : Int32) :: own_tl k c0 c1 c2) T827.heap n0 c857 O2 O4 P5 rG3 c884 f2_827 c885 f3_827 f4_827 c886 c887 V881 V883 (Ne.symm ne837) (by have h := own_tl_len k c0 c1 c2; rw [List.length_cons]; omega : ((58 : Int32) :: own_tl k c0 c1 c2).length ≤ 400)) hZ (w199 hw) (w6 hw) (Nat.le_of_ble_eq_true rfl) (Nat.le_of_ble_eq_true rfl)) e878 f2_827  (by first | decide | (show _ ≤ (40 : Nat); first | omega | (dsimp only; omega))) (by first | decide | (show _ ≤ (2304 : Nat); first | omega | (dsimp only; omega))) (g := (mkF m 189 #[.val (.int p1), .val (.int p2), .val (.int p3), .val (.int p4), .val (.int c0), .val (.int c1), .val (.int c2), .val (.int k), .val (.int (0 : Int32)), .val (.ref a753), .val (.ref a764), .val (.ref b780), .val (.ref a801), .val (.ref a753), .val (.ref r827)] [(.ref a764), (.ref r827)])) (argsL := [(.ref a764)]) (rest := []) rfl (by rw [hml]; rfl) (lenOf pd_24 rfl) rfl rfl (by show 2 * 0 + _ ≤ _; exact Nat.le_of_eq rfl) (hb hby at_189) ?_
    rintro _ T888 L888 X888 ⟨rfl, N888q, K888⟩
    have CH889 := CH853.trans (CHr.keep K888 sf0 CH853.1)
    have N890 := Fr.app N879 N888q
    show own_Fin p e below _ T888 (mkF m 192 #[.val (.int p1), .val (.int p2), .val (.int p3), .val (.int p4), .val (.int c0), .val (.int c1), .val (.int c2), .val (.int k), .val (.int (0 : Int32)), .val (.ref a753), .val (.ref a764), .val (.ref b780), .val (.ref a801), .val (.ref a753), .val (.ref r827)] [(.int (1 : Int32))])
    refine own_step (T' := T888) (g' := (mkF m 195 #[.val (.int p1), .val (.int p2), .val (.int p3), .val (.int p4), .val (.int c0), .val (.int c1), .val (.int c2), .val (.int k), .val (.int (0 : Int32)), .val (.ref a753), .val (.ref a764), .val (.ref b780), .val (.ref a801), .val (.ref a753), .val (.ref r827)] [])) (fun _ q => XS.ifNo X888.here hx rfl (hb hby at_192) rfl (by decide) q) ?_
    refine own_step (T' := T888) (g' := (mkF m 196 #[.val (.int p1), .val (.int p2), .val (.int p3), .val (.int p4), .val (.int c0), .val (.int c1), .val (.int c2), .val (.int k), .val (.int (0 : Int32)), .val (.ref a753), .val (.ref a764), .val (.ref b780), .val (.ref a801), .val (.ref a753), .val (.ref r827)] [(.int (1 : Int32))])) (fun _ q => XS.iconst X888.here hx rfl (hb hby at_195) q) ?_
    refine own_step (T' := T888) (g' := (mkF m 200 #[.val (.int p1), .val (.int p2), .val (.int p3), .val (.int p4), .val (.int c0), .val (.int c1), .val (.int c2), .val (.int k), .val (.int (0 : Int32)), .val (.ref a753), .val (.ref a764), .val (.ref b780), .val (.ref a801), .val (.ref a753), .val (.ref r827)] [(.int (1 : Int32))])) (fun _ q => XS.goto X888.here hx rfl (pc0 := 196) (pc' := 200) rfl (hb hby at_196) (by decide) (by decide) q) ?_
    have c891 := ((c830.trans K827 all0).trans K888 all0)
    have c892 := (Nat.le_trans (Nat.le_refl _) K888.1)
    exact own_retNW X888 hx hZ (own_hEL hw) hS c892 CH889 Bd.returns (by simp) (hb hby at_200) hlk ⟨rfl, N890, c891⟩ (by first | decide | (show _ ≤ (40 : Nat); first | omega | (dsimp only; omega))) (by first | decide | (show _ ≤ (2304 : Nat); first | omega | (dsimp only; omega)))
  · refine own_step (T' := s₁) (g' := (mkF m 44 #[.val (.int p1), .val (.int p2), .val (.int p3), .val (.int p4), .val (.int c0), .val (.int c1), .val (.int c2), .val (.int k), .unset, .unset, .unset, .unset, .unset, .unset, .unset] [])) (fun _ q => XS.ifNo X0.here hx rfl (hb hby at_41) rfl (XT.i0_eq_f hc752) q) ?_
    refine own_step (T' := s₁) (g' := (mkF m 45 #[.val (.int p1), .val (.int p2), .val (.int p3), .val (.int p4), .val (.int c0), .val (.int c1), .val (.int c2), .val (.int k), .unset, .unset, .unset, .unset, .unset, .unset, .unset] [(.int (1 : Int32))])) (fun _ q => XS.iconst X0.here hx rfl (hb hby at_44) q) ?_
    refine own_step (T' := s₁) (g' := (mkF m 49 #[.val (.int p1), .val (.int p2), .val (.int p3), .val (.int p4), .val (.int c0), .val (.int c1), .val (.int c2), .val (.int k), .unset, .unset, .unset, .unset, .unset, .unset, .unset] [(.int (1 : Int32))])) (fun _ q => XS.goto X0.here hx rfl (pc0 := 45) (pc' := 49) rfl (hb hby at_45) (by decide) (by decide) q) ?_
    refine own_step (T' := s₁) (g' := (mkF m 51 #[.val (.int p1), .val (.int p2), .val (.int p3), .val (.int p4), .val (.int c0), .val (.int c1), .val (.int c2), .val (.int k), .val (.int (1 : Int32)), .unset, .unset, .unset, .unset, .unset, .unset] [])) (fun _ q => XS.istore X0.here hx rfl (hb hby at_49) rfl (l' := #[.val (.int p1), .val (.int p2), .val (.int p3), .val (.int p4), .val (.int c0), .val (.int c1), .val (.int c2), .val (.int k), .val (.int (1 : Int32)), .unset, .unset, .unset, .unset, .unset, .unset]) rfl q) ?_
    refine own_step (T' := s₁) (g' := (mkF m 53 #[.val (.int p1), .val (.int p2), .val (.int p3), .val (.int p4), .val (.int c0), .val (.int c1), .val (.int c2), .val (.int k), .val (.int (1 : Int32)), .unset, .unset, .unset, .unset, .unset, .unset] [(.int c0)])) (fun _ q => XS.iload X0.here hx rfl (hb hby at_51) rfl q) ?_
    refine own_step (T' := s₁) (g' := (mkF m 55 #[.val (.int p1), .val (.int p2), .val (.int p3), .val (.int p4), .val (.int c0), .val (.int c1), .val (.int c2), .val (.int k), .val (.int (1 : Int32)), .unset, .unset, .unset, .unset, .unset, .unset] [(.int c1), (.int c0)])) (fun _ q => XS.iload X0.here hx rfl (hb hby at_53) rfl q) ?_
    refine own_step (T' := s₁) (g' := (mkF m 57 #[.val (.int p1), .val (.int p2), .val (.int p3), .val (.int p4), .val (.int c0), .val (.int c1), .val (.int c2), .val (.int k), .val (.int (1 : Int32)), .unset, .unset, .unset, .unset, .unset, .unset] [(.int c2), (.int c1), (.int c0)])) (fun _ q => XS.iload X0.here hx rfl (hb hby at_55) rfl q) ?_
    refine own_step (T' := s₁) (g' := (mkF m 59 #[.val (.int p1), .val (.int p2), .val (.int p3), .val (.int p4), .val (.int c0), .val (.int c1), .val (.int c2), .val (.int k), .val (.int (1 : Int32)), .unset, .unset, .unset, .unset, .unset, .unset] [(.int k), (.int c2), (.int c1), (.int c0)])) (fun _ q => XS.iload X0.here hx rfl (hb hby at_57) rfl q) ?_
    refine own_callSW X0 hx hZ hown hS hk0 (w0 hw) (w1 hw) (w2 hw) (w3 hw) (by decide) (backOfSH (W := 0) (own_txt l Z a0 hw [] G1 G3 c0 c1 c2 k h0 n0 Z0 O2 O4 P5 rG3 OLD0 (hc0 : ¬ c0 < 0 ∧ ¬ (255 : Int32) < c0) (hc1 : ¬ c1 < 0 ∧ ¬ (255 : Int32) < c1) (hc2 : ¬ c2 < 0 ∧ ¬ (255 : Int32) < c2)) hZ (w3 hw) (w2 hw) (Nat.le_of_ble_eq_true rfl) (Nat.le_of_ble_eq_true rfl) (own_hEL hw) CH0.1) e0  (by first | decide | (show _ ≤ (40 : Nat); first | omega | (dsimp only; omega))) (by first | decide | (show _ ≤ (2304 : Nat); first | omega | (dsimp only; omega))) (g := (mkF m 59 #[.val (.int p1), .val (.int p2), .val (.int p3), .val (.int p4), .val (.int c0), .val (.int c1), .val (.int c2), .val (.int k), .val (.int (1 : Int32)), .unset, .unset, .unset, .unset, .unset, .unset] [(.int k), (.int c2), (.int c1), (.int c0)])) (argsL := [(.int c0), (.int c1), (.int c2), (.int k)]) (rest := []) rfl (by rw [hml]; rfl) (lenOf pd_22 rfl) rfl rfl (by show 2 * 0 + _ ≤ _; exact Nat.le_of_eq rfl) (hb hby at_59) ?_
    rintro _ T893 L893 X893 hS hZ hown C893 ⟨a893, t893, kb893, rfl, N893q, K893, f0_893, f1_893, f2_893, f3_893, f4_893⟩
    have n0_894 : n0 ≤ a893 := Nat.le_trans Z0 f0_893
    have sz0_895 := Nat.le_trans KP0.1 f0_893
    have sf896 : Safe Z own_EL _ _ a893 := Safe.new (EL := own_EL) (Z := Z) (vm := s.vm) f0_893
    have CH897 := CH0.trans C893
    have lt898 := f1_893.lt
    have lt899 := f4_893.lt
    have ty900 : a893 ≠ t893 := (Exa.neArv f1_893 f4_893 (w5 hw))
    have N901 := Fr.app N0 N893q
    show own_Fin p e below _ T893 (mkF m 62 #[.val (.int p1), .val (.int p2), .val (.int p3), .val (.int p4), .val (.int c0), .val (.int c1), .val (.int c2), .val (.int k), .val (.int (1 : Int32)), .unset, .unset, .unset, .unset, .unset, .unset] [(.ref a893)])
    refine own_step (T' := T893) (g' := (mkF m 64 #[.val (.int p1), .val (.int p2), .val (.int p3), .val (.int p4), .val (.int c0), .val (.int c1), .val (.int c2), .val (.int k), .val (.int (1 : Int32)), .val (.ref a893), .unset, .unset, .unset, .unset, .unset] [])) (fun _ q => XS.astore X893.here hx rfl (hb hby at_62) rfl rfl (l' := #[.val (.int p1), .val (.int p2), .val (.int p3), .val (.int p4), .val (.int c0), .val (.int c1), .val (.int c2), .val (.int k), .val (.int (1 : Int32)), .val (.ref a893), .unset, .unset, .unset, .unset, .unset]) rfl q) ?_
    refine own_step (T' := T893) (g' := (mkF m 66 #[.val (.int p1), .val (.int p2), .val (.int p3), .val (.int p4), .val (.int c0), .val (.int c1), .val (.int c2), .val (.int k), .val (.int (1 : Int32)), .val (.ref a893), .unset, .unset, .unset, .unset, .unset] [(.int c0)])) (fun _ q => XS.iload X893.here hx rfl (hb hby at_64) rfl q) ?_
    refine own_step (T' := T893) (g' := (mkF m 68 #[.val (.int p1), .val (.int p2), .val (.int p3), .val (.int p4), .val (.int c0), .val (.int c1), .val (.int c2), .val (.int k), .val (.int (1 : Int32)), .val (.ref a893), .unset, .unset, .unset, .unset, .unset] [(.int c1), (.int c0)])) (fun _ q => XS.iload X893.here hx rfl (hb hby at_66) rfl q) ?_
    refine own_step (T' := T893) (g' := (mkF m 70 #[.val (.int p1), .val (.int p2), .val (.int p3), .val (.int p4), .val (.int c0), .val (.int c1), .val (.int c2), .val (.int k), .val (.int (1 : Int32)), .val (.ref a893), .unset, .unset, .unset, .unset, .unset] [(.int c2), (.int c1), (.int c0)])) (fun _ q => XS.iload X893.here hx rfl (hb hby at_68) rfl q) ?_
    refine own_step (T' := T893) (g' := (mkF m 72 #[.val (.int p1), .val (.int p2), .val (.int p3), .val (.int p4), .val (.int c0), .val (.int c1), .val (.int c2), .val (.int k), .val (.int (1 : Int32)), .val (.ref a893), .unset, .unset, .unset, .unset, .unset] [(.int k), (.int c2), (.int c1), (.int c0)])) (fun _ q => XS.iload X893.here hx rfl (hb hby at_70) rfl q) ?_
    have c902 := (OLD0.keep K893 all0)
    have c903 := (Nat.le_trans Z0 K893.1)
    refine own_callS X893 hx hZ hown (w26 hw) (w27 hw) (w2 hw) (w28 hw) (by decide) (backOf (W := 0) (own_col l Z a0 hw [] G1 G3 c0 c1 c2 k T893.heap n0 c903 O2 O4 P5 rG3 c902 (hc0 : ¬ c0 < 0 ∧ ¬ (255 : Int32) < c0) (hc1 : ¬ c1 < 0 ∧ ¬ (255 : Int32) < c1) (hc2 : ¬ c2 < 0 ∧ ¬ (255 : Int32) < c2)) hZ (w28 hw) (w2 hw) (Nat.le_of_ble_eq_true rfl) (Nat.le_of_ble_eq_true rfl)) rfl  (by first | decide | (show _ ≤ (40 : Nat); first | omega | (dsimp only; omega))) (by first | decide | (show _ ≤ (2304 : Nat); first | omega | (dsimp only; omega))) (g := (mkF m 72 #[.val (.int p1), .val (.int p2), .val (.int p3), .val (.int p4), .val (.int c0), .val (.int c1), .val (.int c2), .val (.int k), .val (.int (1 : Int32)), .val (.ref a893), .unset, .unset, .unset, .unset, .unset] [(.int k), (.int c2), (.int c1), (.int c0)])) (argsL := [(.int c0), (.int c1), (.int c2), (.int k)]) (rest := []) rfl (by rw [hml]; rfl) (lenOf pd_22 rfl) rfl rfl (by show 2 * 0 + _ ≤ _; exact Nat.le_of_eq rfl) (hb hby at_72) ?_
    rintro _ T904 L904 X904 ⟨a904, t904, kb904, rfl, N904q, K904, f0_904, f1_904, f2_904, f3_904, f4_904, f5_904⟩
    have n0_905 : n0 ≤ a904 := Nat.le_trans c903 f0_904
    have c906 := (KP0.trans K893 all0)
    have sz0_907 := Nat.le_trans c906.1 f0_904
    have ne908 : a893 ≠ a904 := own_ne lt898 f0_904
    have ne909 : t893 ≠ a904 := own_ne lt899 f0_904
    have sf910 : Safe Z own_EL _ _ a904 := Safe.new (EL := own_EL) (Z := Z) (vm := T893.vm) f0_904
    have n0_911 : n0 ≤ t904 := Nat.le_trans c903 f1_904
    have sz0_912 := Nat.le_trans c906.1 f1_904
    have ne913 : a893 ≠ t904 := own_ne lt898 f1_904
    have ne914 : t893 ≠ t904 := own_ne lt899 f1_904
    have sf915 : Safe Z own_EL _ _ t904 := Safe.new (EL := own_EL) (Z := Z) (vm := T893.vm) f1_904
    have CH916 := CH897.trans (CHr.keep K904 sf0 CH897.1)
    have lt917 := f2_904.lt
    have lt918 := f5_904.lt
    have N919 := Fr.app N901 N904q
    show own_Fin p e below _ T904 (mkF m 75 #[.val (.int p1), .val (.int p2), .val (.int p3), .val (.int p4), .val (.int c0), .val (.int c1), .val (.int c2), .val (.int k), .val (.int (1 : Int32)), .val (.ref a893), .unset, .unset, .unset, .unset, .unset] [(.ref a904)])
    refine own_step (T' := T904) (g' := (mkF m 77 #[.val (.int p1), .val (.int p2), .val (.int p3), .val (.int p4), .val (.int c0), .val (.int c1), .val (.int c2), .val (.int k), .val (.int (1 : Int32)), .val (.ref a893), .val (.ref a904), .unset, .unset, .unset, .unset] [])) (fun _ q => XS.astore X904.here hx rfl (hb hby at_75) rfl rfl (l' := #[.val (.int p1), .val (.int p2), .val (.int p3), .val (.int p4), .val (.int c0), .val (.int c1), .val (.int c2), .val (.int k), .val (.int (1 : Int32)), .val (.ref a893), .val (.ref a904), .unset, .unset, .unset, .unset]) rfl q) ?_
    obtain ⟨T920, h920, X920, e920, E920, A920, D920, -, st920⟩ := newO X904 hx hZ hown (w40 hw) (w41 hw) (w42 hw) rfl (g := (mkF m 77 #[.val (.int p1), .val (.int p2), .val (.int p3), .val (.int p4), .val (.int c0), .val (.int c1), .val (.int c2), .val (.int k), .val (.int (1 : Int32)), .val (.ref a893), .val (.ref a904), .unset, .unset, .unset, .unset] [])) rfl (hb hby at_77) (by first | decide | (show _ ≤ (40 : Nat); first | omega | (dsimp only; omega))) (by first | decide | (show _ ≤ (2304 : Nat); first | omega | (dsimp only; omega)))
    obtain ⟨b920, g920⟩ : ∃ z, z = T904.heap.size := ⟨_, rfl⟩
    rw [← g920] at A920 D920 st920
    have c921 := (Nat.le_trans c903 K904.1)
    have n0_922 : n0 ≤ b920 := Nat.le_trans c921 (Nat.le_of_eq g920.symm)
    have c923 := (c906.trans K904 all0)
    have sz0_924 := Nat.le_trans c923.1 (Nat.le_of_eq g920.symm)
    have c925 := (own_lt lt898 K904.1)
    have ne926 : a893 ≠ b920 := own_ne c925 (Nat.le_of_eq g920.symm)
    have c927 := (own_lt lt899 K904.1)
    have ne928 : t893 ≠ b920 := own_ne c927 (Nat.le_of_eq g920.symm)
    have ne929 : a904 ≠ b920 := own_ne lt917 (Nat.le_of_eq g920.symm)
    have ne930 : t904 ≠ b920 := own_ne lt918 (Nat.le_of_eq g920.symm)
    have sf931 : Safe Z own_EL _ _ b920 := Safe.new (EL := own_EL) (Z := Z) (vm := T893.vm) (Nat.le_of_eq g920.symm)
    have CH932 := CH916.trans (CHr.ext E920 CH916.1)
    have ltb920 := A920.lt
    have F933 : Fld Z h920 b920 "com/example/kvasir/kvasir/jpql/Position" "line" "I" (.int (0 : Int32)) := D920 (Or.inr (w48 hw)) (ty := .int) (by decide)
    have F934 : Fld Z h920 b920 "com/example/kvasir/kvasir/jpql/Position" "column" "I" (.int (0 : Int32)) := D920 (Or.inr (w50 hw)) (ty := .int) (by decide)
    refine own_step (T' := T920) (g' := (mkF m 80 #[.val (.int p1), .val (.int p2), .val (.int p3), .val (.int p4), .val (.int c0), .val (.int c1), .val (.int c2), .val (.int k), .val (.int (1 : Int32)), .val (.ref a893), .val (.ref a904), .unset, .unset, .unset, .unset] [(.ref b920)])) st920 ?_
    refine own_step (T' := T920) (g' := (mkF m 81 #[.val (.int p1), .val (.int p2), .val (.int p3), .val (.int p4), .val (.int c0), .val (.int c1), .val (.int c2), .val (.int k), .val (.int (1 : Int32)), .val (.ref a893), .val (.ref a904), .unset, .unset, .unset, .unset] [(.ref b920), (.ref b920)])) (fun _ q => XS.dup X920.here hx rfl (hb hby at_80) rfl rfl q) ?_
    refine own_step (T' := T920) (g' := (mkF m 82 #[.val (.int p1), .val (.int p2), .val (.int p3), .val (.int p4), .val (.int c0), .val (.int c1), .val (.int c2), .val (.int k), .val (.int (1 : Int32)), .val (.ref a893), .val (.ref a904), .unset, .unset, .unset, .unset] [(.int p3), (.ref b920), (.ref b920)])) (fun _ q => XS.iloadN X920.here hx rfl (hb hby at_81) rfl q) ?_
    refine own_step (T' := T920) (g' := (mkF m 83 #[.val (.int p1), .val (.int p2), .val (.int p3), .val (.int p4), .val (.int c0), .val (.int c1), .val (.int c2), .val (.int k), .val (.int (1 : Int32)), .val (.ref a893), .val (.ref a904), .unset, .unset, .unset, .unset] [(.int p4), (.int p3), (.ref b920), (.ref b920)])) (fun _ q => XS.iloadN X920.here hx rfl (hb hby at_82) rfl q) ?_
    have c935 := (Nat.le_trans c921 E920.1)
    refine own_callC X920 hx hZ hown rfl (w43 hw) (w44 hw) (w45 hw) (by decide) (backOf (W := 1) (own_poi l Z a0 hw [] b920 p3 p4 h920 n0 c935 A920 n0_922 F933 F934) hZ (w45 hw) (w42 hw) (Nat.le_of_ble_eq_true rfl) (Nat.le_of_ble_eq_true rfl)) e920  (by first | decide | (show _ ≤ (40 : Nat); first | omega | (dsimp only; omega))) (by first | decide | (show _ ≤ (2304 : Nat); first | omega | (dsimp only; omega))) (g := (mkF m 83 #[.val (.int p1), .val (.int p2), .val (.int p3), .val (.int p4), .val (.int c0), .val (.int c1), .val (.int c2), .val (.int k), .val (.int (1 : Int32)), .val (.ref a893), .val (.ref a904), .unset, .unset, .unset, .unset] [(.int p4), (.int p3), (.ref b920), (.ref b920)])) (argsL := [(.int p3), (.int p4)]) (rest := [(.ref b920)]) rfl (by rw [hml]; rfl) (lenOf pd_8 rfl) rfl rfl (by show 2 * 0 + _ ≤ _; exact Nat.le_of_eq rfl) (hb hby at_83) ?_
    rintro _ T936 L936 X936 ⟨rfl, N936q, K936, f0_936⟩
    have c938 := (Safe.ext E920 CH916.1 sf931)
    have CH937 := CH932.trans (CHr.keep K936 (sfS c938 sf0) CH932.1)
    have N939 := Fr.app N919 N936q
    show own_Fin p e below _ T936 (mkF m 86 #[.val (.int p1), .val (.int p2), .val (.int p3), .val (.int p4), .val (.int c0), .val (.int c1), .val (.int c2), .val (.int k), .val (.int (1 : Int32)), .val (.ref a893), .val (.ref a904), .unset, .unset, .unset, .unset] [(.ref b920)])
    refine own_step (T' := T936) (g' := (mkF m 88 #[.val (.int p1), .val (.int p2), .val (.int p3), .val (.int p4), .val (.int c0), .val (.int c1), .val (.int c2), .val (.int k), .val (.int (1 : Int32)), .val (.ref a893), .val (.ref a904), .val (.ref b920), .unset, .unset, .unset] [])) (fun _ q => XS.astore X936.here hx rfl (hb hby at_86) rfl rfl (l' := #[.val (.int p1), .val (.int p2), .val (.int p3), .val (.int p4), .val (.int c0), .val (.int c1), .val (.int c2), .val (.int k), .val (.int (1 : Int32)), .val (.ref a893), .val (.ref a904), .val (.ref b920), .unset, .unset, .unset]) rfl q) ?_
    refine own_step (T' := T936) (g' := (mkF m 90 #[.val (.int p1), .val (.int p2), .val (.int p3), .val (.int p4), .val (.int c0), .val (.int c1), .val (.int c2), .val (.int k), .val (.int (1 : Int32)), .val (.ref a893), .val (.ref a904), .val (.ref b920), .unset, .unset, .unset] [(.ref a893)])) (fun _ q => XS.aload X936.here hx rfl (hb hby at_88) rfl rfl q) ?_
    refine own_step (T' := T936) (g' := (mkF m 92 #[.val (.int p1), .val (.int p2), .val (.int p3), .val (.int p4), .val (.int c0), .val (.int c1), .val (.int c2), .val (.int k), .val (.int (1 : Int32)), .val (.ref a893), .val (.ref a904), .val (.ref b920), .unset, .unset, .unset] [(.int (1 : Int32)), (.ref a893)])) (fun _ q => XS.iload X936.here hx rfl (hb hby at_90) rfl q) ?_
    refine own_step (T' := T936) (g' := (mkF m 94 #[.val (.int p1), .val (.int p2), .val (.int p3), .val (.int p4), .val (.int c0), .val (.int c1), .val (.int c2), .val (.int k), .val (.int (1 : Int32)), .val (.ref a893), .val (.ref a904), .val (.ref b920), .unset, .unset, .unset] [(.ref b920), (.int (1 : Int32)), (.ref a893)])) (fun _ q => XS.aload X936.here hx rfl (hb hby at_92) rfl rfl q) ?_
    have c940 := (Nat.le_trans c935 K936.1)
    refine own_callS X936 hx hZ hown (w51 hw) (w52 hw) (w53 hw) (w54 hw) (by decide) (backOf (W := 0) (own_named1 l Z a0 hw [] a893 b920 T936.heap n0 c940 ) hZ (w54 hw) (w53 hw) (Nat.le_of_ble_eq_true rfl) (Nat.le_of_ble_eq_true rfl)) rfl  (by first | decide | (show _ ≤ (40 : Nat); first | omega | (dsimp only; omega))) (by first | decide | (show _ ≤ (2304 : Nat); first | omega | (dsimp only; omega))) (g := (mkF m 94 #[.val (.int p1), .val (.int p2), .val (.int p3), .val (.int p4), .val (.int c0), .val (.int c1), .val (.int c2), .val (.int k), .val (.int (1 : Int32)), .val (.ref a893), .val (.ref a904), .val (.ref b920), .unset, .unset, .unset] [(.ref b920), (.int (1 : Int32)), (.ref a893)])) (argsL := [(.ref a893), (.int (1 : Int32)), (.ref b920)]) (rest := []) rfl (by rw [hml]; rfl) (lenOf pd_23 rfl) rfl rfl (by show 2 * 0 + _ ≤ _; exact Nat.le_of_eq rfl) (hb hby at_94) ?_
    rintro _ T941 L941 X941 ⟨a941, rfl, N941q, K941, f0_941, f1_941, f2_941, f3_941, f4_941, f5_941, f6_941, f7_941, f8_941⟩
    have n0_942 : n0 ≤ a941 := Nat.le_trans c940 f0_941
    have c943 := ((c923.ext E920).trans K936 (allS (Or.inr sz0_924) all0))
    have sz0_944 := Nat.le_trans c943.1 f0_941
    have c945 := (own_lt (own_lt c925 E920.1) K936.1)
    have ne946 : a893 ≠ a941 := own_ne c945 f0_941
    have c947 := (own_lt (own_lt c927 E920.1) K936.1)
    have ne948 : t893 ≠ a941 := own_ne c947 f0_941
    have c949 := (own_lt (own_lt lt917 E920.1) K936.1)
    have ne950 : a904 ≠ a941 := own_ne c949 f0_941
    have c951 := (own_lt (own_lt lt918 E920.1) K936.1)
    have ne952 : t904 ≠ a941 := own_ne c951 f0_941
    have c953 := (own_lt ltb920 K936.1)
    have ne954 : b920 ≠ a941 := own_ne c953 f0_941
    have sf955 : Safe Z own_EL _ _ a941 := Safe.new (EL := own_EL) (Z := Z) (vm := T893.vm) f0_941
    have CH956 := CH937.trans (CHr.keep K941 sf0 CH937.1)
    have lt957 := f1_941.lt
    have N958 := Fr.app N939 N941q
    show own_Fin p e below _ T941 (mkF m 97 #[.val (.int p1), .val (.int p2), .val (.int p3), .val (.int p4), .val (.int c0), .val (.int c1), .val (.int c2), .val (.int k), .val (.int (1 : Int32)), .val (.ref a893), .val (.ref a904), .val (.ref b920), .unset, .unset, .unset] [(.ref a941)])
    refine own_step (T' := T941) (g' := (mkF m 99 #[.val (.int p1), .val (.int p2), .val (.int p3), .val (.int p4), .val (.int c0), .val (.int c1), .val (.int c2), .val (.int k), .val (.int (1 : Int32)), .val (.ref a893), .val (.ref a904), .val (.ref b920), .val (.ref a941), .unset, .unset] [])) (fun _ q => XS.astore X941.here hx rfl (hb hby at_97) rfl rfl (l' := #[.val (.int p1), .val (.int p2), .val (.int p3), .val (.int p4), .val (.int c0), .val (.int c1), .val (.int c2), .val (.int k), .val (.int (1 : Int32)), .val (.ref a893), .val (.ref a904), .val (.ref b920), .val (.ref a941), .unset, .unset]) rfl q) ?_
    refine own_step (T' := T941) (g' := (mkF m 101 #[.val (.int p1), .val (.int p2), .val (.int p3), .val (.int p4), .val (.int c0), .val (.int c1), .val (.int c2), .val (.int k), .val (.int (1 : Int32)), .val (.ref a893), .val (.ref a904), .val (.ref b920), .val (.ref a941), .unset, .unset] [(.ref a941)])) (fun _ q => XS.aload X941.here hx rfl (hb hby at_99) rfl rfl q) ?_
    have c959 := (Nat.le_trans c940 K941.1)
    refine own_callV (y := (⟨"com/example/kvasir/kvasir/jpql/InputParameter", "getName", "()Ljava/lang/String;"⟩ : MethodName)) (z := (⟨"com/example/kvasir/kvasir/jpql/InputParameter", "getName", "()Ljava/lang/String;"⟩ : MethodName)) X941 hx hZ hown (w74 hw) (w75 hw) (notFace_of_selects (args := #[]) (mvT hZ (w77 hw))) (w77 hw) (w76 hw) (by decide) (backOf (W := 0) (own_g_getName l Z a0 hw [] a941 a893 T941.heap n0 c959 f3_941) hZ (w78 hw) (w53 hw) (Nat.le_of_ble_eq_true rfl) (Nat.le_of_ble_eq_true rfl)) rfl f1_941  (by first | decide | (show _ ≤ (40 : Nat); first | omega | (dsimp only; omega))) (by first | decide | (show _ ≤ (2304 : Nat); first | omega | (dsimp only; omega))) (g := (mkF m 101 #[.val (.int p1), .val (.int p2), .val (.int p3), .val (.int p4), .val (.int c0), .val (.int c1), .val (.int c2), .val (.int k), .val (.int (1 : Int32)), .val (.ref a893), .val (.ref a904), .val (.ref b920), .val (.ref a941), .unset, .unset] [(.ref a941)])) (argsL := []) (rest := []) rfl (by rw [hml]; rfl) (lenOf pd_20 rfl) rfl rfl (by show 2 * 0 + _ ≤ _; exact Nat.le_of_eq rfl) (hb hby at_101) ?_
    rintro _ T960 L960 X960 ⟨rfl, N960q, e960⟩
    have N961 := Fr.app N958 N960q
    show own_Fin p e below _ T960 (mkF m 104 #[.val (.int p1), .val (.int p2), .val (.int p3), .val (.int p4), .val (.int c0), .val (.int c1), .val (.int c2), .val (.int k), .val (.int (1 : Int32)), .val (.ref a893), .val (.ref a904), .val (.ref b920), .val (.ref a941), .unset, .unset] [(.ref a893)])
    refine own_step (T' := T960) (g' := (mkF m 106 #[.val (.int p1), .val (.int p2), .val (.int p3), .val (.int p4), .val (.int c0), .val (.int c1), .val (.int c2), .val (.int k), .val (.int (1 : Int32)), .val (.ref a893), .val (.ref a904), .val (.ref b920), .val (.ref a941), .val (.ref a893), .unset] [])) (fun _ q => XS.astore X960.here hx rfl (hb hby at_104) rfl rfl (l' := #[.val (.int p1), .val (.int p2), .val (.int p3), .val (.int p4), .val (.int c0), .val (.int c1), .val (.int c2), .val (.int k), .val (.int (1 : Int32)), .val (.ref a893), .val (.ref a904), .val (.ref b920), .val (.ref a941), .val (.ref a893), .unset]) rfl q) ?_
    refine own_step (T' := T960) (g' := (mkF m 108 #[.val (.int p1), .val (.int p2), .val (.int p3), .val (.int p4), .val (.int c0), .val (.int c1), .val (.int c2), .val (.int k), .val (.int (1 : Int32)), .val (.ref a893), .val (.ref a904), .val (.ref b920), .val (.ref a941), .val (.ref a893), .unset] [(.ref a941)])) (fun _ q => XS.aload X960.here hx rfl (hb hby at_106) rfl rfl q) ?_
    have c962 := ((((c902.keep K904 all0).ext E920).keep K936 (allS n0_922 all0)).keep K941 all0)
    have c963 := ((((f1_893.keep K904).ext E920).keep K936).keep K941)
    have c964 := ((((f2_893.keep K904 nin0).ext E920).keep K936 (ninS ne926 nin0)).keep K941 nin0)
    have c965 := ((((f3_893.keep K904 nin0).ext E920).keep K936 (ninS ne926 nin0)).keep K941 nin0)
    have c966 := ((((f4_893.keep K904 nin0).ext E920).keep K936 (ninS ne928 nin0)).keep K941 nin0)
    have c968 := (Nat.le_trans (Nat.le_trans (Nat.le_trans (Nat.le_trans (Nat.le_refl _) K904.1) E920.1) K936.1) K941.1)
    refine own_callVW (y := (⟨"com/example/kvasir/kvasir/jpql/InputParameter", "toString", "()Ljava/lang/String;"⟩ : MethodName)) (z := (⟨"com/example/kvasir/kvasir/jpql/InputParameter", "toString", "()Ljava/lang/String;"⟩ : MethodName)) X960 hx hZ hown hS c968 (w79 hw) (w80 hw) (notFace_of_selects (args := #[]) (mvT hZ (w82 hw))) (w82 hw) (w81 hw) (by decide) (backOfSH (W := 0) (own_pts l Z a0 hw [] G1 G3 a941 a893 t893 kb893 (own_bs (own_tl k c0 c1 c2)) T941.heap n0 c959 O2 O4 P5 rG3 c962 f1_941 f3_941 c963 c964 c965 c966 (by have h := own_tl_len k c0 c1 c2; rw [own_bs_len]; omega : 1 + (own_bs (own_tl k c0 c1 c2)).length < 16)) hZ (w83 hw) (w53 hw) (Nat.le_of_ble_eq_true rfl) (Nat.le_of_ble_eq_true rfl) (own_hEL hw) CH956.1) e960 f1_941  (by first | decide | (show _ ≤ (40 : Nat); first | omega | (dsimp only; omega))) (by first | decide | (show _ ≤ (2304 : Nat); first | omega | (dsimp only; omega))) (g := (mkF m 108 #[.val (.int p1), .val (.int p2), .val (.int p3), .val (.int p4), .val (.int c0), .val (.int c1), .val (.int c2), .val (.int k), .val (.int (1 : Int32)), .val (.ref a893), .val (.ref a904), .val (.ref b920), .val (.ref a941), .val (.ref a893), .unset] [(.ref a941)])) (argsL := []) (rest := []) rfl (by rw [hml]; rfl) (lenOf pd_20 rfl) rfl rfl (by show 2 * 0 + _ ≤ _; exact Nat.le_of_eq rfl) (hb hby at_108) ?_
    rintro _ T967 L967 X967 hS hZ hown C967 ⟨r967, tr967, kr967, rfl, N967q, K967, f0_967, f1_967, f2_967, f3_967, f4_967, f5_967⟩
    have n0_969 : n0 ≤ r967 := Nat.le_trans c959 f0_967
    have c970 := (c943.trans K941 all0)
    have sz0_971 := Nat.le_trans c970.1 f0_967
    have c972 := (own_lt c945 K941.1)
    have ne973 : a893 ≠ r967 := own_ne c972 f0_967
    have c974 := (own_lt c947 K941.1)
    have ne975 : t893 ≠ r967 := own_ne c974 f0_967
    have c976 := (own_lt c949 K941.1)
    have ne977 : a904 ≠ r967 := own_ne c976 f0_967
    have c978 := (own_lt c951 K941.1)
    have ne979 : t904 ≠ r967 := own_ne c978 f0_967
    have c980 := (own_lt c953 K941.1)
    have ne981 : b920 ≠ r967 := own_ne c980 f0_967
    have ne982 : a941 ≠ r967 := own_ne lt957 f0_967
    have sf983 : Safe Z own_EL _ _ r967 := Safe.new (EL := own_EL) (Z := Z) (vm := T893.vm) f0_967
    have n0_984 : n0 ≤ tr967 := Nat.le_trans c959 f1_967
    have sz0_985 := Nat.le_trans c970.1 f1_967
    have ne986 : a893 ≠ tr967 := own_ne c972 f1_967
    have ne987 : t893 ≠ tr967 := own_ne c974 f1_967
    have ne988 : a904 ≠ tr967 := own_ne c976 f1_967
    have ne989 : t904 ≠ tr967 := own_ne c978 f1_967
    have ne990 : b920 ≠ tr967 := own_ne c980 f1_967
    have ne991 : a941 ≠ tr967 := own_ne lt957 f1_967
    have sf992 : Safe Z own_EL _ _ tr967 := Safe.new (EL := own_EL) (Z := Z) (vm := T893.vm) f1_967
    have CH993 := CH956.trans C967
    have lt994 := f2_967.lt
    have lt995 := f5_967.lt
    have N996 := Fr.app N961 N967q
    show own_Fin p e below _ T967 (mkF m 111 #[.val (.int p1), .val (.int p2), .val (.int p3), .val (.int p4), .val (.int c0), .val (.int c1), .val (.int c2), .val (.int k), .val (.int (1 : Int32)), .val (.ref a893), .val (.ref a904), .val (.ref b920), .val (.ref a941), .val (.ref a893), .unset] [(.ref r967)])
    refine own_step (T' := T967) (g' := (mkF m 113 #[.val (.int p1), .val (.int p2), .val (.int p3), .val (.int p4), .val (.int c0), .val (.int c1), .val (.int c2), .val (.int k), .val (.int (1 : Int32)), .val (.ref a893), .val (.ref a904), .val (.ref b920), .val (.ref a941), .val (.ref a893), .val (.ref r967)] [])) (fun _ q => XS.astore X967.here hx rfl (hb hby at_111) rfl rfl (l' := #[.val (.int p1), .val (.int p2), .val (.int p3), .val (.int p4), .val (.int c0), .val (.int c1), .val (.int c2), .val (.int k), .val (.int (1 : Int32)), .val (.ref a893), .val (.ref a904), .val (.ref b920), .val (.ref a941), .val (.ref a893), .val (.ref r967)]) rfl q) ?_
    refine own_step (T' := T967) (g' := (mkF m 115 #[.val (.int p1), .val (.int p2), .val (.int p3), .val (.int p4), .val (.int c0), .val (.int c1), .val (.int c2), .val (.int k), .val (.int (1 : Int32)), .val (.ref a893), .val (.ref a904), .val (.ref b920), .val (.ref a941), .val (.ref a893), .val (.ref r967)] [(.ref a893)])) (fun _ q => XS.aload X967.here hx rfl (hb hby at_113) rfl rfl q) ?_
    refine own_step (T' := T967) (g' := (mkF m 118 #[.val (.int p1), .val (.int p2), .val (.int p3), .val (.int p4), .val (.int c0), .val (.int c1), .val (.int c2), .val (.int k), .val (.int (1 : Int32)), .val (.ref a893), .val (.ref a904), .val (.ref b920), .val (.ref a941), .val (.ref a893), .val (.ref r967)] [])) (fun _ q => XS.ifnullNo X967.here hx rfl (hb hby at_115) rfl q) ?_
    refine own_step (T' := T967) (g' := (mkF m 120 #[.val (.int p1), .val (.int p2), .val (.int p3), .val (.int p4), .val (.int c0), .val (.int c1), .val (.int c2), .val (.int k), .val (.int (1 : Int32)), .val (.ref a893), .val (.ref a904), .val (.ref b920), .val (.ref a941), .val (.ref a893), .val (.ref r967)] [(.ref a893)])) (fun _ q => XS.aload X967.here hx rfl (hb hby at_118) rfl rfl q) ?_
    refine own_step (T' := T967) (g' := (mkF m 122 #[.val (.int p1), .val (.int p2), .val (.int p3), .val (.int p4), .val (.int c0), .val (.int c1), .val (.int c2), .val (.int k), .val (.int (1 : Int32)), .val (.ref a893), .val (.ref a904), .val (.ref b920), .val (.ref a941), .val (.ref a893), .val (.ref r967)] [(.ref a893), (.ref a893)])) (fun _ q => XS.aload X967.here hx rfl (hb hby at_120) rfl rfl q) ?_
    have c997 := (Nat.le_trans c959 K967.1)
    have c999 := (c963.keep K967)
    refine own_callV (y := (⟨"java/lang/String", "equals", "(Ljava/lang/Object;)Z"⟩ : MethodName)) (z := (⟨"java/lang/String", "equals", "(Ljava/lang/Object;)Z"⟩ : MethodName)) X967 hx hZ hown (w195 hw) (w196 hw) (notFace_of_selects (args := #[]) (mvT hZ (w198 hw))) (w198 hw) (w197 hw) (by decide) (backOf (W := 0) (own_eqs l Z a0 hw [] a893 T967.heap n0 c997 ) hZ (w199 hw) (w6 hw) (Nat.le_of_ble_eq_true rfl) (Nat.le_of_ble_eq_true rfl)) rfl c999  (by first | decide | (show _ ≤ (40 : Nat); first | omega | (dsimp only; omega))) (by first | decide | (show _ ≤ (2304 : Nat); first | omega | (dsimp only; omega))) (g := (mkF m 122 #[.val (.int p1), .val (.int p2), .val (.int p3), .val (.int p4), .val (.int c0), .val (.int c1), .val (.int c2), .val (.int k), .val (.int (1 : Int32)), .val (.ref a893), .val (.ref a904), .val (.ref b920), .val (.ref a941), .val (.ref a893), .val (.ref r967)] [(.ref a893), (.ref a893)])) (argsL := [(.ref a893)]) (rest := []) rfl (by rw [hml]; rfl) (lenOf pd_24 rfl) rfl rfl (by show 2 * 0 + _ ≤ _; exact Nat.le_of_eq rfl) (hb hby at_122) ?_
    rintro _ T998 L998 X998 ⟨rfl, N998q, e998⟩
    have N1000 := Fr.app N996 N998q
    show own_Fin p e below _ T998 (mkF m 125 #[.val (.int p1), .val (.int p2), .val (.int p3), .val (.int p4), .val (.int c0), .val (.int c1), .val (.int c2), .val (.int k), .val (.int (1 : Int32)), .val (.ref a893), .val (.ref a904), .val (.ref b920), .val (.ref a941), .val (.ref a893), .val (.ref r967)] [(.int (1 : Int32))])
    refine own_step (T' := T998) (g' := (mkF m 128 #[.val (.int p1), .val (.int p2), .val (.int p3), .val (.int p4), .val (.int c0), .val (.int c1), .val (.int c2), .val (.int k), .val (.int (1 : Int32)), .val (.ref a893), .val (.ref a904), .val (.ref b920), .val (.ref a941), .val (.ref a893), .val (.ref r967)] [])) (fun _ q => XS.ifNo X998.here hx rfl (hb hby at_125) rfl (by decide) q) ?_
    refine own_step (T' := T998) (g' := (mkF m 130 #[.val (.int p1), .val (.int p2), .val (.int p3), .val (.int p4), .val (.int c0), .val (.int c1), .val (.int c2), .val (.int k), .val (.int (1 : Int32)), .val (.ref a893), .val (.ref a904), .val (.ref b920), .val (.ref a941), .val (.ref a893), .val (.ref r967)] [(.ref a941)])) (fun _ q => XS.aload X998.here hx rfl (hb hby at_128) rfl rfl q) ?_
    have c1001 := (f4_941.keep K967 nin0)
    have c1003 := (f1_941.keep K967)
    refine own_callV (y := (⟨"com/example/kvasir/kvasir/jpql/InputParameter", "getNumber", "()I"⟩ : MethodName)) (z := (⟨"com/example/kvasir/kvasir/jpql/InputParameter", "getNumber", "()I"⟩ : MethodName)) X998 hx hZ hown (w200 hw) (w201 hw) (notFace_of_selects (args := #[]) (mvT hZ (w203 hw))) (w203 hw) (w202 hw) (by decide) (backOf (W := 0) (own_g_getNumber l Z a0 hw [] a941 T967.heap n0 c997 c1001) hZ (w204 hw) (w53 hw) (Nat.le_of_ble_eq_true rfl) (Nat.le_of_ble_eq_true rfl)) e998 c1003  (by first | decide | (show _ ≤ (40 : Nat); first | omega | (dsimp only; omega))) (by first | decide | (show _ ≤ (2304 : Nat); first | omega | (dsimp only; omega))) (g := (mkF m 130 #[.val (.int p1), .val (.int p2), .val (.int p3), .val (.int p4), .val (.int c0), .val (.int c1), .val (.int c2), .val (.int k), .val (.int (1 : Int32)), .val (.ref a893), .val (.ref a904), .val (.ref b920), .val (.ref a941), .val (.ref a893), .val (.ref r967)] [(.ref a941)])) (argsL := []) (rest := []) rfl (by rw [hml]; rfl) (lenOf pd_5 rfl) rfl rfl (by show 2 * 0 + _ ≤ _; exact Nat.le_of_eq rfl) (hb hby at_130) ?_
    rintro _ T1002 L1002 X1002 ⟨rfl, N1002q, e1002⟩
    have N1004 := Fr.app N1000 N1002q
    show own_Fin p e below _ T1002 (mkF m 133 #[.val (.int p1), .val (.int p2), .val (.int p3), .val (.int p4), .val (.int c0), .val (.int c1), .val (.int c2), .val (.int k), .val (.int (1 : Int32)), .val (.ref a893), .val (.ref a904), .val (.ref b920), .val (.ref a941), .val (.ref a893), .val (.ref r967)] [(.int (0 : Int32))])
    refine own_step (T' := T1002) (g' := (mkF m 136 #[.val (.int p1), .val (.int p2), .val (.int p3), .val (.int p4), .val (.int c0), .val (.int c1), .val (.int c2), .val (.int k), .val (.int (1 : Int32)), .val (.ref a893), .val (.ref a904), .val (.ref b920), .val (.ref a941), .val (.ref a893), .val (.ref r967)] [])) (fun _ q => XS.ifNo X1002.here hx rfl (hb hby at_133) rfl (by decide) q) ?_
    refine own_step (T' := T1002) (g' := (mkF m 138 #[.val (.int p1), .val (.int p2), .val (.int p3), .val (.int p4), .val (.int c0), .val (.int c1), .val (.int c2), .val (.int k), .val (.int (1 : Int32)), .val (.ref a893), .val (.ref a904), .val (.ref b920), .val (.ref a941), .val (.ref a893), .val (.ref r967)] [(.ref a941)])) (fun _ q => XS.aload X1002.here hx rfl (hb hby at_136) rfl rfl q) ?_
    have c1005 := (f5_941.keep K967 nin0)
    refine own_callV (y := (⟨"com/example/kvasir/kvasir/jpql/InputParameter", "isCollectionValued", "()Z"⟩ : MethodName)) (z := (⟨"com/example/kvasir/kvasir/jpql/InputParameter", "isCollectionValued", "()Z"⟩ : MethodName)) X1002 hx hZ hown (w205 hw) (w206 hw) (notFace_of_selects (args := #[]) (mvT hZ (w208 hw))) (w208 hw) (w207 hw) (by decide) (backOf (W := 0) (own_icv1 l Z a0 hw [] a941 T967.heap n0 c997 c1005) hZ (w209 hw) (w53 hw) (Nat.le_of_ble_eq_true rfl) (Nat.le_of_ble_eq_true rfl)) e1002 c1003  (by first | decide | (show _ ≤ (40 : Nat); first | omega | (dsimp only; omega))) (by first | decide | (show _ ≤ (2304 : Nat); first | omega | (dsimp only; omega))) (g := (mkF m 138 #[.val (.int p1), .val (.int p2), .val (.int p3), .val (.int p4), .val (.int c0), .val (.int c1), .val (.int c2), .val (.int k), .val (.int (1 : Int32)), .val (.ref a893), .val (.ref a904), .val (.ref b920), .val (.ref a941), .val (.ref a893), .val (.ref r967)] [(.ref a941)])) (argsL := []) (rest := []) rfl (by rw [hml]; rfl) (lenOf pd_12 rfl) rfl rfl (by show 2 * 0 + _ ≤ _; exact Nat.le_of_eq rfl) (hb hby at_138) ?_
    rintro _ T1006 L1006 X1006 ⟨rfl, N1006q, e1006⟩
    have N1007 := Fr.app N1004 N1006q
    show own_Fin p e below _ T1006 (mkF m 141 #[.val (.int p1), .val (.int p2), .val (.int p3), .val (.int p4), .val (.int c0), .val (.int c1), .val (.int c2), .val (.int k), .val (.int (1 : Int32)), .val (.ref a893), .val (.ref a904), .val (.ref b920), .val (.ref a941), .val (.ref a893), .val (.ref r967)] [(.int (1 : Int32))])
    refine own_step (T' := T1006) (g' := (mkF m 143 #[.val (.int p1), .val (.int p2), .val (.int p3), .val (.int p4), .val (.int c0), .val (.int c1), .val (.int c2), .val (.int k), .val (.int (1 : Int32)), .val (.ref a893), .val (.ref a904), .val (.ref b920), .val (.ref a941), .val (.ref a893), .val (.ref r967)] [(.int (1 : Int32)), (.int (1 : Int32))])) (fun _ q => XS.iload X1006.here hx rfl (hb hby at_141) rfl q) ?_
    refine own_step (T' := T1006) (g' := (mkF m 146 #[.val (.int p1), .val (.int p2), .val (.int p3), .val (.int p4), .val (.int c0), .val (.int c1), .val (.int c2), .val (.int k), .val (.int (1 : Int32)), .val (.ref a893), .val (.ref a904), .val (.ref b920), .val (.ref a941), .val (.ref a893), .val (.ref r967)] [])) (fun _ q => XS.icmpNo X1006.here hx rfl (hb hby at_143) rfl (by decide) q) ?_
    refine own_step (T' := T1006) (g' := (mkF m 148 #[.val (.int p1), .val (.int p2), .val (.int p3), .val (.int p4), .val (.int c0), .val (.int c1), .val (.int c2), .val (.int k), .val (.int (1 : Int32)), .val (.ref a893), .val (.ref a904), .val (.ref b920), .val (.ref a941), .val (.ref a893), .val (.ref r967)] [(.ref a941)])) (fun _ q => XS.aload X1006.here hx rfl (hb hby at_146) rfl rfl q) ?_
    have c1008 := (f2_941.keep K967 nin0)
    refine own_callVU (y := (⟨"com/example/kvasir/kvasir/jpql/InputParameter", "getPosition", "()Lcom/example/kvasir/kvasir/jpql/Position;"⟩ : MethodName)) (z := (⟨"com/example/kvasir/kvasir/jpql/Expression", "getPosition", "()Lcom/example/kvasir/kvasir/jpql/Position;"⟩ : MethodName)) X1006 hx hZ hown (w210 hw) (w211 hw) (w212 hw) (w214 hw) (w213 hw) (by decide) (backOf (W := 0) (own_g_pos l Z a0 hw [] a941 b920 T967.heap n0 c997 c1008) hZ (w215 hw) (w63 hw) (Nat.le_of_ble_eq_true rfl) (Nat.le_of_ble_eq_true rfl)) e1006 c1003  (by first | decide | (show _ ≤ (40 : Nat); first | omega | (dsimp only; omega))) (by first | decide | (show _ ≤ (2304 : Nat); first | omega | (dsimp only; omega))) (g := (mkF m 148 #[.val (.int p1), .val (.int p2), .val (.int p3), .val (.int p4), .val (.int c0), .val (.int c1), .val (.int c2), .val (.int k), .val (.int (1 : Int32)), .val (.ref a893), .val (.ref a904), .val (.ref b920), .val (.ref a941), .val (.ref a893), .val (.ref r967)] [(.ref a941)])) (argsL := []) (rest := []) rfl (by rw [hml]; rfl) (lenOf pd_25 rfl) rfl rfl (by show 2 * 0 + _ ≤ _; exact Nat.le_of_eq rfl) (hb hby at_148) ?_
    rintro _ T1009 L1009 X1009 ⟨rfl, N1009q, e1009⟩
    have N1010 := Fr.app N1007 N1009q
    show own_Fin p e below _ T1009 (mkF m 151 #[.val (.int p1), .val (.int p2), .val (.int p3), .val (.int p4), .val (.int c0), .val (.int c1), .val (.int c2), .val (.int k), .val (.int (1 : Int32)), .val (.ref a893), .val (.ref a904), .val (.ref b920), .val (.ref a941), .val (.ref a893), .val (.ref r967)] [(.ref b920)])
    refine own_step (T' := T1009) (g' := (mkF m 153 #[.val (.int p1), .val (.int p2), .val (.int p3), .val (.int p4), .val (.int c0), .val (.int c1), .val (.int c2), .val (.int k), .val (.int (1 : Int32)), .val (.ref a893), .val (.ref a904), .val (.ref b920), .val (.ref a941), .val (.ref a893), .val (.ref r967)] [(.ref b920), (.ref b920)])) (fun _ q => XS.aload X1009.here hx rfl (hb hby at_151) rfl rfl q) ?_
    refine own_step (T' := T1009) (g' := (mkF m 156 #[.val (.int p1), .val (.int p2), .val (.int p3), .val (.int p4), .val (.int c0), .val (.int c1), .val (.int c2), .val (.int k), .val (.int (1 : Int32)), .val (.ref a893), .val (.ref a904), .val (.ref b920), .val (.ref a941), .val (.ref a893), .val (.ref r967)] [])) (fun _ q => Jvm.RoadKit.acmp (g := (mkF m 153 #[.val (.int p1), .val (.int p2), .val (.int p3), .val (.int p4), .val (.int c0), .val (.int c1), .val (.int c2), .val (.int k), .val (.int (1 : Int32)), .val (.ref a893), .val (.ref a904), .val (.ref b920), .val (.ref a941), .val (.ref a893), .val (.ref r967)] [(.ref b920), (.ref b920)])) X1009 hx rfl rfl rfl (pc0 := 153) (pc' := 156) (same := true) rfl (hb hby at_153) rfl (decide_eq_true rfl) (by decide) (by decide) q) ?_
    refine own_step (T' := T1009) (g' := (mkF m 158 #[.val (.int p1), .val (.int p2), .val (.int p3), .val (.int p4), .val (.int c0), .val (.int c1), .val (.int c2), .val (.int k), .val (.int (1 : Int32)), .val (.ref a893), .val (.ref a904), .val (.ref b920), .val (.ref a941), .val (.ref a893), .val (.ref r967)] [(.ref a941)])) (fun _ q => XS.aload X1009.here hx rfl (hb hby at_156) rfl rfl q) ?_
    have c1011 := (f6_941.keep K967 nin0)
    refine own_callV (y := (⟨"com/example/kvasir/kvasir/jpql/InputParameter", "isBound", "()Z"⟩ : MethodName)) (z := (⟨"com/example/kvasir/kvasir/jpql/InputParameter", "isBound", "()Z"⟩ : MethodName)) X1009 hx hZ hown (w216 hw) (w217 hw) (notFace_of_selects (args := #[]) (mvT hZ (w219 hw))) (w219 hw) (w218 hw) (by decide) (backOf (W := 0) (own_g_isBound l Z a0 hw [] a941 T967.heap n0 c997 c1011) hZ (w220 hw) (w53 hw) (Nat.le_of_ble_eq_true rfl) (Nat.le_of_ble_eq_true rfl)) e1009 c1003  (by first | decide | (show _ ≤ (40 : Nat); first | omega | (dsimp only; omega))) (by first | decide | (show _ ≤ (2304 : Nat); first | omega | (dsimp only; omega))) (g := (mkF m 158 #[.val (.int p1), .val (.int p2), .val (.int p3), .val (.int p4), .val (.int c0), .val (.int c1), .val (.int c2), .val (.int k), .val (.int (1 : Int32)), .val (.ref a893), .val (.ref a904), .val (.ref b920), .val (.ref a941), .val (.ref a893), .val (.ref r967)] [(.ref a941)])) (argsL := []) (rest := []) rfl (by rw [hml]; rfl) (lenOf pd_12 rfl) rfl rfl (by show 2 * 0 + _ ≤ _; exact Nat.le_of_eq rfl) (hb hby at_158) ?_
    rintro _ T1012 L1012 X1012 ⟨rfl, N1012q, e1012⟩
    have N1013 := Fr.app N1010 N1012q
    show own_Fin p e below _ T1012 (mkF m 161 #[.val (.int p1), .val (.int p2), .val (.int p3), .val (.int p4), .val (.int c0), .val (.int c1), .val (.int c2), .val (.int k), .val (.int (1 : Int32)), .val (.ref a893), .val (.ref a904), .val (.ref b920), .val (.ref a941), .val (.ref a893), .val (.ref r967)] [(.int (0 : Int32))])
    refine own_step (T' := T1012) (g' := (mkF m 164 #[.val (.int p1), .val (.int p2), .val (.int p3), .val (.int p4), .val (.int c0), .val (.int c1), .val (.int c2), .val (.int k), .val (.int (1 : Int32)), .val (.ref a893), .val (.ref a904), .val (.ref b920), .val (.ref a941), .val (.ref a893), .val (.ref r967)] [])) (fun _ q => XS.ifNo X1012.here hx rfl (hb hby at_161) rfl (by decide) q) ?_
    refine own_step (T' := T1012) (g' := (mkF m 166 #[.val (.int p1), .val (.int p2), .val (.int p3), .val (.int p4), .val (.int c0), .val (.int c1), .val (.int c2), .val (.int k), .val (.int (1 : Int32)), .val (.ref a893), .val (.ref a904), .val (.ref b920), .val (.ref a941), .val (.ref a893), .val (.ref r967)] [(.ref a941)])) (fun _ q => XS.aload X1012.here hx rfl (hb hby at_164) rfl rfl q) ?_
    have c1014 := (f7_941.keep K967 nin0)
    refine own_callV (y := (⟨"com/example/kvasir/kvasir/jpql/InputParameter", "getValue", "()Ljava/lang/Object;"⟩ : MethodName)) (z := (⟨"com/example/kvasir/kvasir/jpql/InputParameter", "getValue", "()Ljava/lang/Object;"⟩ : MethodName)) X1012 hx hZ hown (w223 hw) (w224 hw) (notFace_of_selects (args := #[]) (mvT hZ (w226 hw))) (w226 hw) (w225 hw) (by decide) (backOf (W := 0) (own_g_getValue l Z a0 hw [] a941 T967.heap n0 c997 c1014) hZ (w227 hw) (w53 hw) (Nat.le_of_ble_eq_true rfl) (Nat.le_of_ble_eq_true rfl)) e1012 c1003  (by first | decide | (show _ ≤ (40 : Nat); first | omega | (dsimp only; omega))) (by first | decide | (show _ ≤ (2304 : Nat); first | omega | (dsimp only; omega))) (g := (mkF m 166 #[.val (.int p1), .val (.int p2), .val (.int p3), .val (.int p4), .val (.int c0), .val (.int c1), .val (.int c2), .val (.int k), .val (.int (1 : Int32)), .val (.ref a893), .val (.ref a904), .val (.ref b920), .val (.ref a941), .val (.ref a893), .val (.ref r967)] [(.ref a941)])) (argsL := []) (rest := []) rfl (by rw [hml]; rfl) (lenOf pd_26 rfl) rfl rfl (by show 2 * 0 + _ ≤ _; exact Nat.le_of_eq rfl) (hb hby at_166) ?_
    rintro _ T1015 L1015 X1015 ⟨rfl, N1015q, e1015⟩
    have N1016 := Fr.app N1013 N1015q
    show own_Fin p e below _ T1015 (mkF m 169 #[.val (.int p1), .val (.int p2), .val (.int p3), .val (.int p4), .val (.int c0), .val (.int c1), .val (.int c2), .val (.int k), .val (.int (1 : Int32)), .val (.ref a893), .val (.ref a904), .val (.ref b920), .val (.ref a941), .val (.ref a893), .val (.ref r967)] [.null])
    refine own_step (T' := T1015) (g' := (mkF m 172 #[.val (.int p1), .val (.int p2), .val (.int p3), .val (.int p4), .val (.int c0), .val (.int c1), .val (.int c2), .val (.int k), .val (.int (1 : Int32)), .val (.ref a893), .val (.ref a904), .val (.ref b920), .val (.ref a941), .val (.ref a893), .val (.ref r967)] [])) (fun _ q => XT.ifnonnullNo X1015.here hx rfl (hb hby at_169) rfl q) ?_
    refine own_step (T' := T1015) (g' := (mkF m 174 #[.val (.int p1), .val (.int p2), .val (.int p3), .val (.int p4), .val (.int c0), .val (.int c1), .val (.int c2), .val (.int k), .val (.int (1 : Int32)), .val (.ref a893), .val (.ref a904), .val (.ref b920), .val (.ref a941), .val (.ref a893), .val (.ref r967)] [(.ref a941)])) (fun _ q => XS.aload X1015.here hx rfl (hb hby at_172) rfl rfl q) ?_
    have c1017 := (f8_941.keep K967 nin0)
    refine own_callV (y := (⟨"com/example/kvasir/kvasir/jpql/InputParameter", "getMembers", "()Ljava/util/List;"⟩ : MethodName)) (z := (⟨"com/example/kvasir/kvasir/jpql/InputParameter", "getMembers", "()Ljava/util/List;"⟩ : MethodName)) X1015 hx hZ hown (w230 hw) (w231 hw) (notFace_of_selects (args := #[]) (mvT hZ (w233 hw))) (w233 hw) (w232 hw) (by decide) (backOf (W := 0) (own_g_getMembers l Z a0 hw [] a941 T967.heap n0 c997 c1017) hZ (w234 hw) (w53 hw) (Nat.le_of_ble_eq_true rfl) (Nat.le_of_ble_eq_true rfl)) e1015 c1003  (by first | decide | (show _ ≤ (40 : Nat); first | omega | (dsimp only; omega))) (by first | decide | (show _ ≤ (2304 : Nat); first | omega | (dsimp only; omega))) (g := (mkF m 174 #[.val (.int p1), .val (.int p2), .val (.int p3), .val (.int p4), .val (.int c0), .val (.int c1), .val (.int c2), .val (.int k), .val (.int (1 : Int32)), .val (.ref a893), .val (.ref a904), .val (.ref b920), .val (.ref a941), .val (.ref a893), .val (.ref r967)] [(.ref a941)])) (argsL := []) (rest := []) rfl (by rw [hml]; rfl) (lenOf pd_27 rfl) rfl rfl (by show 2 * 0 + _ ≤ _; exact Nat.le_of_eq rfl) (hb hby at_174) ?_
    rintro _ T1018 L1018 X1018 ⟨rfl, N1018q, e1018⟩
    have N1019 := Fr.app N1016 N1018q
    show own_Fin p e below _ T1018 (mkF m 177 #[.val (.int p1), .val (.int p2), .val (.int p3), .val (.int p4), .val (.int c0), .val (.int c1), .val (.int c2), .val (.int k), .val (.int (1 : Int32)), .val (.ref a893), .val (.ref a904), .val (.ref b920), .val (.ref a941), .val (.ref a893), .val (.ref r967)] [.null])
    refine own_step (T' := T1018) (g' := (mkF m 180 #[.val (.int p1), .val (.int p2), .val (.int p3), .val (.int p4), .val (.int c0), .val (.int c1), .val (.int c2), .val (.int k), .val (.int (1 : Int32)), .val (.ref a893), .val (.ref a904), .val (.ref b920), .val (.ref a941), .val (.ref a893), .val (.ref r967)] [])) (fun _ q => XT.ifnonnullNo X1018.here hx rfl (hb hby at_177) rfl q) ?_
    refine own_step (T' := T1018) (g' := (mkF m 182 #[.val (.int p1), .val (.int p2), .val (.int p3), .val (.int p4), .val (.int c0), .val (.int c1), .val (.int c2), .val (.int k), .val (.int (1 : Int32)), .val (.ref a893), .val (.ref a904), .val (.ref b920), .val (.ref a941), .val (.ref a893), .val (.ref r967)] [(.ref r967)])) (fun _ q => XS.aload X1018.here hx rfl (hb hby at_180) rfl rfl q) ?_
    refine own_step (T' := T1018) (g' := (mkF m 185 #[.val (.int p1), .val (.int p2), .val (.int p3), .val (.int p4), .val (.int c0), .val (.int c1), .val (.int c2), .val (.int k), .val (.int (1 : Int32)), .val (.ref a893), .val (.ref a904), .val (.ref b920), .val (.ref a941), .val (.ref a893), .val (.ref r967)] [])) (fun _ q => XS.ifnullNo X1018.here hx rfl (hb hby at_182) rfl q) ?_
    refine own_step (T' := T1018) (g' := (mkF m 187 #[.val (.int p1), .val (.int p2), .val (.int p3), .val (.int p4), .val (.int c0), .val (.int c1), .val (.int c2), .val (.int k), .val (.int (1 : Int32)), .val (.ref a893), .val (.ref a904), .val (.ref b920), .val (.ref a941), .val (.ref a893), .val (.ref r967)] [(.ref r967)])) (fun _ q => XS.aload X1018.here hx rfl (hb hby at_185) rfl rfl q) ?_
    refine own_step (T' := T1018) (g' := (mkF m 189 #[.val (.int p1), .val (.int p2), .val (.int p3), .val (.int p4), .val (.int c0), .val (.int c1), .val (.int c2), .val (.int k), .val (.int (1 : Int32)), .val (.ref a893), .val (.ref a904), .val (.ref b920), .val (.ref a941), .val (.ref a893), .val (.ref r967)] [(.ref a904), (.ref r967)])) (fun _ q => XS.aload X1018.here hx rfl (hb hby at_187) rfl rfl q) ?_
    have qV1020 : ((([] ++ [Value.int (58 : Int32)]) ++ (own_bs (own_tl k c0 c1 c2))) : List Value) = (own_bs ((58 : Int32) :: own_tl k c0 c1 c2)) := (own_R_bs _)
    have V1020 : Arv Z T967.heap tr967 kr967 .byte (Int32.ofNat (([] ++ [Value.int (58 : Int32)]) ++ (own_bs (own_tl k c0 c1 c2))).length) (own_bs ((58 : Int32) :: own_tl k c0 c1 c2)) (.int 0) := own_fixv qV1020 f5_967
    have qV1021 : ((Int32.ofNat (([] ++ [Value.int (58 : Int32)]) ++ (own_bs (own_tl k c0 c1 c2))).length) : Int32) = (Int32.ofNat ((58 : Int32) :: own_tl k c0 c1 c2).length) := (by rw [own_R_bs, own_bs_len])
    have V1021 : Arv Z T967.heap tr967 kr967 .byte (Int32.ofNat ((58 : Int32) :: own_tl k c0 c1 c2).length) (own_bs ((58 : Int32) :: own_tl k c0 c1 c2)) (.int 0) := own_fixn qV1021 V1020
    have c1022 := ((((f5_904.ext E920).keep K936 (ninS ne930 nin0)).keep K941 nin0).keep K967 nin0)
    have qV1023 : ((Int32.ofNat (own_bs ((58 : Int32) :: own_tl k c0 c1 c2)).length) : Int32) = (Int32.ofNat ((58 : Int32) :: own_tl k c0 c1 c2).length) := (by rw [own_bs_len])
    have V1023 : Arv Z T967.heap t904 kb904 .byte (Int32.ofNat ((58 : Int32) :: own_tl k c0 c1 c2).length) (own_bs ((58 : Int32) :: own_tl k c0 c1 c2)) (.int 0) := own_fixn qV1023 c1022
    have c1024 := (c962.keep K967 all0)
    have c1025 := ((((f2_904.ext E920).keep K936).keep K941).keep K967)
    have c1026 := ((((f3_904.ext E920).keep K936 (ninS ne929 nin0)).keep K941 nin0).keep K967 nin0)
    have c1027 := ((((f4_904.ext E920).keep K936 (ninS ne929 nin0)).keep K941 nin0).keep K967 nin0)
    refine own_callV (y := (⟨"java/lang/String", "equals", "(Ljava/lang/Object;)Z"⟩ : MethodName)) (z := (⟨"java/lang/String", "equals", "(Ljava/lang/Object;)Z"⟩ : MethodName)) X1018 hx hZ hown (w195 hw) (w196 hw) (notFace_of_selects (args := #[]) (mvT hZ (w198 hw))) (w198 hw) (w197 hw) (by decide) (backOf (W := 0) (own_eq2 l Z a0 hw [] G1 G3 r967 tr967 kr967 a904 t904 kb904 ((58 : Int32) :: own_tl k c0 c1 c2) T967.heap n0 c997 O2 O4 P5 rG3 c1024 f2_967 c1025 f3_967 f4_967 c1026 c1027 V1021 V1023 (Ne.symm ne977) (by have h := own_tl_len k c0 c1 c2; rw [List.length_cons]; omega : ((58 : Int32) :: own_tl k c0 c1 c2).length ≤ 400)) hZ (w199 hw) (w6 hw) (Nat.le_of_ble_eq_true rfl) (Nat.le_of_ble_eq_true rfl)) e1018 f2_967  (by first | decide | (show _ ≤ (40 : Nat); first | omega | (dsimp only; omega))) (by first | decide | (show _ ≤ (2304 : Nat); first | omega | (dsimp only; omega))) (g := (mkF m 189 #[.val (.int p1), .val (.int p2), .val (.int p3), .val (.int p4), .val (.int c0), .val (.int c1), .val (.int c2), .val (.int k), .val (.int (1 : Int32)), .val (.ref a893), .val (.ref a904), .val (.ref b920), .val (.ref a941), .val (.ref a893), .val (.ref r967)] [(.ref a904), (.ref r967)])) (argsL := [(.ref a904)]) (rest := []) rfl (by rw [hml]; rfl) (lenOf pd_24 rfl) rfl rfl (by show 2 * 0 + _ ≤ _; exact Nat.le_of_eq rfl) (hb hby at_189) ?_
    rintro _ T1028 L1028 X1028 ⟨rfl, N1028q, K1028⟩
    have CH1029 := CH993.trans (CHr.keep K1028 sf0 CH993.1)
    have N1030 := Fr.app N1019 N1028q
    show own_Fin p e below _ T1028 (mkF m 192 #[.val (.int p1), .val (.int p2), .val (.int p3), .val (.int p4), .val (.int c0), .val (.int c1), .val (.int c2), .val (.int k), .val (.int (1 : Int32)), .val (.ref a893), .val (.ref a904), .val (.ref b920), .val (.ref a941), .val (.ref a893), .val (.ref r967)] [(.int (1 : Int32))])
    refine own_step (T' := T1028) (g' := (mkF m 195 #[.val (.int p1), .val (.int p2), .val (.int p3), .val (.int p4), .val (.int c0), .val (.int c1), .val (.int c2), .val (.int k), .val (.int (1 : Int32)), .val (.ref a893), .val (.ref a904), .val (.ref b920), .val (.ref a941), .val (.ref a893), .val (.ref r967)] [])) (fun _ q => XS.ifNo X1028.here hx rfl (hb hby at_192) rfl (by decide) q) ?_
    refine own_step (T' := T1028) (g' := (mkF m 196 #[.val (.int p1), .val (.int p2), .val (.int p3), .val (.int p4), .val (.int c0), .val (.int c1), .val (.int c2), .val (.int k), .val (.int (1 : Int32)), .val (.ref a893), .val (.ref a904), .val (.ref b920), .val (.ref a941), .val (.ref a893), .val (.ref r967)] [(.int (1 : Int32))])) (fun _ q => XS.iconst X1028.here hx rfl (hb hby at_195) q) ?_
    refine own_step (T' := T1028) (g' := (mkF m 200 #[.val (.int p1), .val (.int p2), .val (.int p3), .val (.int p4), .val (.int c0), .val (.int c1), .val (.int c2), .val (.int k), .val (.int (1 : Int32)), .val (.ref a893), .val (.ref a904), .val (.ref b920), .val (.ref a941), .val (.ref a893), .val (.ref r967)] [(.int (1 : Int32))])) (fun _ q => XS.goto X1028.here hx rfl (pc0 := 196) (pc' := 200) rfl (hb hby at_196) (by decide) (by decide) q) ?_
    have c1031 := ((c970.trans K967 all0).trans K1028 all0)
    have c1032 := (Nat.le_trans (Nat.le_refl _) K1028.1)
    exact own_retNW X1028 hx hZ (own_hEL hw) hS c1032 CH1029 Bd.returns (by simp) (hb hby at_200) hlk ⟨rfl, N1030, c1031⟩ (by first | decide | (show _ ≤ (40 : Nat); first | omega | (dsimp only; omega))) (by first | decide | (show _ ≤ (2304 : Nat); first | omega | (dsimp only; omega)))
set_option maxRecDepth 65536 in
set_option maxHeartbeats 40000000 in
theorem comes_1 {Post : Tables → Env → Array Value → State → Outcome → State → Prop} (hpost : ∀ tb e args s v u, (limb_1_1.after args s (.returned v) u = true ∧ limb_1_2.after args s (.returned v) u = true ∧ True) → ReturnedEndW s (.returned v) u (Jvm.fieldLocs frame_1_writes args s ++ Jvm.arrayLocs frame_1_arrays args s ++ Jvm.staticLocs frame_1_statics s) 40 2304 → Post tb e args s (.returned v) u) :
    ArmFor flags0 classFile x code maxLocals ret World_1 tables_1 room_1 Calls_1 rest_1 Pre_1 Post := by
  intro l hfl _ _ p e ha hc hk s m args below hf hA hF happ hP
  obtain ⟨hcalls, hrest, hpre⟩ := hP
  obtain ⟨-, -, -, hnamed, -, -, -, hat⟩ := (Spec.applies_iff hf).mp happ
  obtain ⟨hg, hn⟩ := and_e (Cond.before_iff.mp (show (Jvm.Cond.and given_1 narrow_1).before args s = true from hpre))
  obtain ⟨hcnt, r0⟩ := and_e hg
  obtain ⟨q0, r1⟩ := and_e r0
  obtain ⟨q1, r2⟩ := and_e r1
  obtain ⟨q2, r3⟩ := and_e r2
  have q3 := r3
  obtain ⟨u0, u1, u2, u3, rfl⟩ : ∃ u0 u1 u2 u3 : Value, args = #[u0, u1, u2, u3] := by
    have hs : args.size = 4 := by simpa [Cond.value, given_1] using hcnt
    obtain ⟨L⟩ := args
    match L, hs with
    | [u0, u1, u2, u3], _ => exact ⟨u0, u1, u2, u3, rfl⟩
  have hw := fun d (hd : d ∈ tables_1) => atoms_spec (ws := Jvm.Cond.code x code maxLocals ret :: tables_1) hat d (List.mem_cons_of_mem _ hd)
  obtain ⟨hsets, hown0⟩ := atoms_of _ (rest_1_c_eq ▸ (show rest_1_c.before _ s = true from hrest))
  have n3 := not_v (Cond.before_iff.mp (hsets _ (List.mem_of_getElem? (i := 2) rfl)))
  obtain ⟨G1, eG1⟩ := is_v (Cond.before_iff.mp (hsets _ (List.mem_of_getElem? (i := 1) rfl)))
  have S8 : Sta s s.heap "java/lang/String" "COMPACT_STRINGS" "Z" (.int G1) := Sta.start eG1 (Or.inl (hsets _ (List.mem_of_getElem? (i := 0) rfl)))
  obtain ⟨G3, eG3, rG3⟩ := isR_v (Cond.before_iff.mp (hsets _ (List.mem_of_getElem? (i := 8) rfl)))
  have S12 : Sta s s.heap "jdk/internal/util/Preconditions" "SIOOBE_FORMATTER" "Ljava/util/function/BiFunction;" G3 := Sta.start eG3 (Or.inl (hsets _ (List.mem_of_getElem? (i := 7) rfl)))
  have c13 : ¬ (G1 = (0 : Int32)) := gotF (Cond.eq_ints eG1 (Term.int_eval (0))) n3
  have CHs := CHv.start (EL := own_EL) (Z := s) (own_hEL hw) (fun p hp => hcalls.1 p hp) (by exact (hsets _ (List.mem_of_getElem? (i := 2) rfl))) (w19 hw) (w5 hw)
  obtain ⟨i0, ei0⟩ := is_v q0
  obtain rfl : u0 = (.int i0) := Option.some.inj ei0
  obtain ⟨i1, ei1⟩ := is_v q1
  obtain rfl : u1 = (.int i1) := Option.some.inj ei1
  obtain ⟨i2, ei2⟩ := is_v q2
  obtain rfl : u2 = (.int i2) := Option.some.inj ei2
  obtain ⟨i3, ei3⟩ := is_v q3
  obtain rfl : u3 = (.int i3) := Option.some.inj ei3
  obtain ⟨n, o, h1, h2, h3, _, L, rfl, ⟨rfl, N, -⟩, -, hq⟩ := own_law l s _ hw tables_1 G1 G3 i0 i1 i2 i3 s.heap s.heap.size (Nat.le_refl _) S8 S12 c13 rG3 (Old.start s) p e ha hc hk s m _ below hf ((Spec.applies_iff_loose hf).mp happ).1 ⟨rfl, State.Warmed39.refl s, rfl, CHs⟩ trivial
  refine ⟨n, _, h1, h2, h3, hpost _ _ _ _ _ _ ⟨Cond.after_iff.mpr rfl, Cond.after_iff.mpr (eq_i res_at (Term.int_eval (1)) rfl), trivial⟩ ⟨hq.1, hq.2.1, hq.2.2.1, (hq.2.2.2.sift fun y hy => Or.inr (N y hy)).mono (by decide) (by decide)⟩⟩
theorem main_1_1 : Claimed_1_1 := comes_1 fun _ _ _ _ _ _ h hF => ⟨h.1, hF⟩
theorem main_1_2 : Claimed_1_2 := comes_1 fun _ _ _ _ _ _ h hF => ⟨h.2.1, hF⟩
end Jvm.Pilot.@@N@@
namespace Jvm.Pilot.@@N@@
open Jvm Jvm.ClassFile Sem Op Lib Jvm.Free Jvm.Stand Jvm.Pilot.@@N@@.Jvm.D
/-! MADE BY PROGRAM (witnessworld.py) out of the Statement's table words and the real class files: 28 classes; the members and pool entries that the words name. The judged class is class 1, her method 3. -/
namespace start1
open Jvm.ClassFile
def u (s : String) : CpInfo := .utf8 (stringToUtf16 s)
/-- a pool by its gaps: so many unusable entries, then the entry; so many at the end -/
def gap : Nat → List CpInfo → List CpInfo
  | 0, r => r
  | n + 1, r => .unusable :: gap n r
def poolList (es : List (Nat × CpInfo)) (last : Nat) : List CpInfo := es.foldr (fun e r => gap e.1 (e.2 :: r)) (gap last [])
def pool (es : List (Nat × CpInfo)) (last : Nat) : Array CpInfo := ⟨poolList es last⟩
def fileOf (pool : Array CpInfo) (this : Nat) (attrs : Array Attribute := #[]) (ms : Array MethodInfo := #[]) (fl : Nat := 33) (sup : Nat := 0) (ifs : Array Nat := #[]) (fds : Array FieldInfo := #[]) : ClassFile where
  minorVersion := 0
  majorVersion := 65
  constantPool := pool
  accessFlags := fl
  thisClass := this
  superClass := sup
  interfaces := ifs
  fields := fds
  methods := ms
  attributes := attrs
def plain (name : String) (sup : Option ClassId) : Class where
  name := name
  kind := .ordinary
  loader := none
  accessFlags := 33
  super := sup
  interfaces := #[]
  cf := none
  fields := #[]
  methods := #[]
  instanceTypes := #[]
  staticTypes := #[]
  resolved := #[]
  callSites := []
  init := .initialized
  statics := none
  mirror := none

def pool0 : Array CpInfo := pool [(5, u "<init>"), (0, u "()V"), (1, .class_ 10), (1, u "java/lang/Object")] 113

def k0c0 : Code := { maxStack := 0, maxLocals := 1, code := object_method_1_code, exceptionTable := #[], attributes := #[] }
def k0m0 : Method := { name := "<init>", desc := "()V", sig := { parameters := [], returnType := none }, accessFlags := 1, code := some k0c0 }
/-- java/lang/Object -/
def k0 : Class := { plain "java/lang/Object" none with
  accessFlags := 33
  interfaces := #[]
  cf := some (fileOf pool0 8 #[] #[{ accessFlags := 1, nameIndex := 5, descriptorIndex := 6, attributes := #[] }] 33 0 #[] #[])
  fields := #[]
  methods := #[k0m0]
  instanceTypes := #[]
  staticTypes := #[]
  resolved := Array.replicate 124 none
  statics := none }

def pool1 : Array CpInfo := pool [(2, .class_ 4), (1, u "java/lang/Object"), (0, u "<init>"), (0, u "()V"), (0, .class_ 8), (0, u "java/lang/String"), (0, .methodref 7 10), (0, .nameAndType 5 11), (0, u "([C)V"), (0, .methodref 13 14), (0, .class_ 15), (0, .nameAndType 16 17), (0, u "com/example/kvasir/kvasir/jpql/InputParameterNamedPinLaw"), (0, u "text"), (0, u "(CCCI)Ljava/lang/String;"), (0, .methodref 13 19), (0, .nameAndType 20 17), (0, u "colonText"), (0, .class_ 22), (0, u "com/example/kvasir/kvasir/jpql/Position"), (0, .methodref 21 24), (0, .nameAndType 5 25), (0, u "(II)V"), (0, .methodref 27 28), (0, .class_ 29), (0, .nameAndType 30 31), (0, u "com/example/kvasir/kvasir/jpql/InputParameter"), (0, u "named"), (0, u "(Ljava/lang/String;ZLcom/example/kvasir/kvasir/jpql/Position;)Lcom/example/kvasir/kvasir/jpql/InputParameter;"), (0, .methodref 27 33), (0, .nameAndType 34 35), (0, u "getName"), (0, u "()Ljava/lang/String;"), (0, .methodref 27 37), (0, .nameAndType 38 35), (0, u "toString"), (0, .methodref 7 40), (0, .nameAndType 41 42), (0, u "equals"), (0, u "(Ljava/lang/Object;)Z"), (0, .methodref 27 44), (0, .nameAndType 45 46), (0, u "getNumber"), (0, u "()I"), (0, .methodref 27 48), (0, .nameAndType 49 50), (0, u "isCollectionValued"), (0, u "()Z"), (0, .methodref 27 52), (0, .nameAndType 53 54), (0, u "getPosition"), (0, u "()Lcom/example/kvasir/kvasir/jpql/Position;"), (0, .methodref 27 56), (0, .nameAndType 57 50), (0, u "isBound"), (0, .methodref 27 59), (0, .nameAndType 60 61), (0, u "getValue"), (0, u "()Ljava/lang/Object;"), (0, .methodref 27 63), (0, .nameAndType 64 65), (0, u "getMembers"), (0, u "()Ljava/util/List;"), (3, u "law"), (0, u "(IIII)Z")] 2

def k1m0 : Method := { name := "<init>", desc := "()V", sig := { parameters := [], returnType := none }, accessFlags := 1, code := none }
def k1c1 : Code := { maxStack := 6, maxLocals := 4, code := method_2_code, exceptionTable := #[], attributes := #[] }
def k1m1 : Method := { name := "text", desc := "(CCCI)Ljava/lang/String;", sig := { parameters := [.char, .char, .char, .int], returnType := some (.object "java/lang/String") }, accessFlags := 10, code := some k1c1 }
def k1c2 : Code := { maxStack := 6, maxLocals := 4, code := method_3_code, exceptionTable := #[], attributes := #[] }
def k1m2 : Method := { name := "colonText", desc := "(CCCI)Ljava/lang/String;", sig := { parameters := [.char, .char, .char, .int], returnType := some (.object "java/lang/String") }, accessFlags := 10, code := some k1c2 }
def k1c3 : Code := { maxStack := 4, maxLocals := 15, code := code, exceptionTable := #[], attributes := #[] }
def k1m3 : Method := { name := "law", desc := "(IIII)Z", sig := { parameters := [.int, .int, .int, .int], returnType := some .boolean }, accessFlags := 9, code := some k1c3 }
/-- com/example/kvasir/kvasir/jpql/InputParameterNamedPinLaw -/
def k1 : Class := { plain "com/example/kvasir/kvasir/jpql/InputParameterNamedPinLaw" (some 0) with
  accessFlags := 49
  interfaces := #[]
  cf := some (fileOf pool1 13 #[] #[{ accessFlags := 1, nameIndex := 5, descriptorIndex := 6, attributes := #[] }, { accessFlags := 10, nameIndex := 16, descriptorIndex := 17, attributes := #[] }, { accessFlags := 10, nameIndex := 20, descriptorIndex := 17, attributes := #[] }, { accessFlags := 9, nameIndex := 69, descriptorIndex := 70, attributes := #[] }] 49 2 #[] #[])
  fields := #[]
  methods := #[k1m0, k1m1, k1m2, k1m3]
  instanceTypes := #[]
  staticTypes := #[]
  resolved := Array.replicate 73 none
  statics := none }

def pool2 : Array CpInfo := pool [(1, .class_ 2), (0, u "java/io/Serializable"), (0, .class_ 4), (0, u "java/lang/Object")] 2

/-- java/io/Serializable -/
def k2 : Class := { plain "java/io/Serializable" (some 0) with
  accessFlags := 1537
  interfaces := #[]
  cf := some (fileOf pool2 1 #[] #[] 1537 3 #[] #[])
  fields := #[]
  methods := #[]
  instanceTypes := #[]
  staticTypes := #[]
  resolved := Array.replicate 7 none
  statics := none }

def pool3 : Array CpInfo := pool [(1, .class_ 2), (0, u "java/lang/Comparable"), (0, .class_ 4), (0, u "java/lang/Object")] 7

/-- java/lang/Comparable -/
def k3 : Class := { plain "java/lang/Comparable" (some 0) with
  accessFlags := 1537
  interfaces := #[]
  cf := some (fileOf pool3 1 #[] #[] 1537 3 #[] #[])
  fields := #[]
  methods := #[]
  instanceTypes := #[]
  staticTypes := #[]
  resolved := Array.replicate 12 none
  statics := none }

def pool4 : Array CpInfo := pool [(2, .class_ 4), (1, u "java/lang/CharSequence"), (42, .class_ 48), (0, u "java/lang/CharSequence$1CodePointIterator"), (10, .class_ 60), (0, u "java/lang/CharSequence$1CharIterator"), (5, .class_ 67), (0, u "java/lang/Object")] 63

/-- java/lang/CharSequence -/
def k4 : Class := { plain "java/lang/CharSequence" (some 0) with
  accessFlags := 1537
  interfaces := #[]
  cf := some (fileOf pool4 2 #[.nestMembers #[47, 59]] #[] 1537 66 #[] #[])
  fields := #[]
  methods := #[]
  instanceTypes := #[]
  staticTypes := #[]
  resolved := Array.replicate 131 none
  statics := none }

def pool5 : Array CpInfo := pool [(1, .class_ 2), (0, u "java/lang/constant/Constable"), (0, .class_ 4), (0, u "java/lang/Object")] 6

/-- java/lang/constant/Constable -/
def k5 : Class := { plain "java/lang/constant/Constable" (some 0) with
  accessFlags := 1537
  interfaces := #[]
  cf := some (fileOf pool5 1 #[] #[] 1537 3 #[] #[])
  fields := #[]
  methods := #[]
  instanceTypes := #[]
  staticTypes := #[]
  resolved := Array.replicate 11 none
  statics := none }

def pool6 : Array CpInfo := pool [(1, .class_ 2), (0, u "java/lang/constant/ConstantDesc"), (0, .class_ 4), (0, u "java/lang/Object")] 32

/-- java/lang/constant/ConstantDesc -/
def k6 : Class := { plain "java/lang/constant/ConstantDesc" (some 0) with
  accessFlags := 1537
  interfaces := #[]
  cf := some (fileOf pool6 1 #[] #[] 1537 3 #[] #[])
  fields := #[]
  methods := #[]
  instanceTypes := #[]
  staticTypes := #[]
  resolved := Array.replicate 37 none
  statics := none }

def pool7 : Array CpInfo := pool [(1, .methodref 2 3), (0, .class_ 4), (0, .nameAndType 5 6), (0, u "java/lang/Object"), (0, u "<init>"), (0, u "()V"), (0, .string 8), (0, u ""), (0, .fieldref 10 11), (0, .class_ 12), (0, .nameAndType 13 14), (0, u "java/lang/String"), (0, u "value"), (0, u "[B"), (0, .fieldref 10 16), (0, .nameAndType 17 18), (0, u "coder"), (0, u "B"), (2, u "hash"), (0, u "I"), (2, u "hashIsZero"), (0, u "Z"), (0, .methodref 10 28), (0, .nameAndType 5 29), (0, u "([CIILjava/lang/Void;)V"), (8, .fieldref 10 39), (0, .nameAndType 40 26), (0, u "COMPACT_STRINGS"), (1, .class_ 44), (1, u "java/lang/StringUTF16"), (0, u "compress"), (1, .methodref 42 48), (0, .nameAndType 49 50), (0, u "coderFromArrayLen"), (0, u "([BI)B"), (3, .methodref 55 56), (0, .class_ 57), (0, .nameAndType 58 59), (0, u "java/util/Arrays"), (0, u "copyOfRange"), (0, u "([BII)[B"), (47, .class_ 109), (1, u "java/lang/StringLatin1"), (32, u "()Z"), (34, .methodref 42 178), (0, .nameAndType 45 179), (0, u "([CII)[B"), (13, .class_ 195), (1, u "java/lang/System"), (16, .methodref 193 213), (0, .nameAndType 214 215), (0, u "arraycopy"), (0, u "(Ljava/lang/Object;ILjava/lang/Object;II)V"), (118, u "()I"), (0, .methodref 10 336), (0, .nameAndType 17 337), (0, u "()B"), (2, u "()[B"), (148, .methodref 10 490), (0, .nameAndType 5 491), (0, u "(Ljava/lang/AbstractStringBuilder;Ljava/lang/Void;)V"), (1, .nameAndType 494 142), (0, u "isLatin1"), (11, .nameAndType 507 334), (0, u "length"), (24, u "getBytes"), (8, .methodref 107 542), (0, .nameAndType 543 544), (0, u "equals"), (0, u "([B[B)Z"), (4, .methodref 550 506), (0, .class_ 551), (0, u "java/lang/AbstractStringBuilder"), (0, .methodref 550 553), (0, .nameAndType 554 340), (0, u "getValue"), (18, u "(Ljava/lang/Object;)Z"), (1, .class_ 576), (0, u "java/lang/CharSequence"), (22, u "CASE_INSENSITIVE_ORDER"), (0, u "Ljava/util/Comparator;"), (220, u "([BIB)V"), (188, u "([C)V"), (36, .methodref 550 493), (53, u "serialPersistentFields"), (0, u "[Ljava/io/ObjectStreamField;"), (0, .class_ 1104), (0, u "java/lang/String$CaseInsensitiveComparator"), (1, .class_ 1107), (0, u "java/io/Serializable"), (0, .class_ 1109), (0, u "java/lang/Comparable"), (0, .class_ 1111), (0, u "java/lang/constant/Constable"), (0, .class_ 1113), (0, u "java/lang/constant/ConstantDesc"), (2, u "serialVersionUID"), (0, u "J"), (3, u "REPL"), (0, u "C"), (2, u "LATIN1"), (1, u "UTF16"), (105, u "(Ljava/lang/StringBuilder;)V")] 217

def k7m0 : Method := { name := "<init>", desc := "()V", sig := { parameters := [], returnType := none }, accessFlags := 1, code := none }
def k7c1 : Code := { maxStack := 5, maxLocals := 2, code := jdk_42_method_3_code, exceptionTable := #[], attributes := #[] }
def k7m1 : Method := { name := "<init>", desc := "([C)V", sig := { parameters := [(.array .char)], returnType := none }, accessFlags := 1, code := some k7c1 }
def k7c2 : Code := { maxStack := 3, maxLocals := 2, code := jdk_42_method_53_code, exceptionTable := #[], attributes := #[] }
def k7m2 : Method := { name := "<init>", desc := "(Ljava/lang/StringBuilder;)V", sig := { parameters := [(.object "java/lang/StringBuilder")], returnType := none }, accessFlags := 1, code := some k7c2 }
def k7c3 : Code := { maxStack := 2, maxLocals := 1, code := jdk_42_method_54_code, exceptionTable := #[], attributes := #[] }
def k7m3 : Method := { name := "length", desc := "()I", sig := { parameters := [], returnType := some .int }, accessFlags := 1, code := some k7c3 }
def k7c4 : Code := { maxStack := 2, maxLocals := 3, code := jdk_42_method_66_code, exceptionTable := #[], attributes := #[] }
def k7m4 : Method := { name := "equals", desc := "(Ljava/lang/Object;)Z", sig := { parameters := [(.object "java/lang/Object")], returnType := some .boolean }, accessFlags := 1, code := some k7c4 }
def k7c5 : Code := { maxStack := 5, maxLocals := 4, code := jdk_42_method_147_code, exceptionTable := #[], attributes := #[] }
def k7m5 : Method := { name := "getBytes", desc := "([BIB)V", sig := { parameters := [(.array .byte), .int, .byte], returnType := none }, accessFlags := 0, code := some k7c5 }
def k7c6 : Code := { maxStack := 4, maxLocals := 6, code := jdk_42_method_149_code, exceptionTable := #[], attributes := #[] }
def k7m6 : Method := { name := "<init>", desc := "([CIILjava/lang/Void;)V", sig := { parameters := [(.array .char), .int, .int, (.object "java/lang/Void")], returnType := none }, accessFlags := 2, code := some k7c6 }
def k7c7 : Code := { maxStack := 5, maxLocals := 5, code := jdk_42_method_150_code, exceptionTable := #[], attributes := #[] }
def k7m7 : Method := { name := "<init>", desc := "(Ljava/lang/AbstractStringBuilder;Ljava/lang/Void;)V", sig := { parameters := [(.object "java/lang/AbstractStringBuilder"), (.object "java/lang/Void")], returnType := none }, accessFlags := 0, code := some k7c7 }
def k7c8 : Code := { maxStack := 1, maxLocals := 1, code := jdk_42_method_152_code, exceptionTable := #[], attributes := #[] }
def k7m8 : Method := { name := "coder", desc := "()B", sig := { parameters := [], returnType := some .byte }, accessFlags := 0, code := some k7c8 }
/-- java/lang/String -/
def k7 : Class := { plain "java/lang/String" (some 0) with
  accessFlags := 49
  interfaces := #[2, 3, 4, 5, 6]
  cf := some (fileOf pool7 10 #[.nestMembers #[1103]] #[{ accessFlags := 1, nameIndex := 5, descriptorIndex := 6, attributes := #[] }, { accessFlags := 1, nameIndex := 5, descriptorIndex := 1010, attributes := #[] }, { accessFlags := 1, nameIndex := 5, descriptorIndex := 1233, attributes := #[] }, { accessFlags := 1, nameIndex := 507, descriptorIndex := 334, attributes := #[] }, { accessFlags := 1, nameIndex := 543, descriptorIndex := 573, attributes := #[] }, { accessFlags := 0, nameIndex := 532, descriptorIndex := 821, attributes := #[] }, { accessFlags := 2, nameIndex := 5, descriptorIndex := 29, attributes := #[] }, { accessFlags := 0, nameIndex := 5, descriptorIndex := 491, attributes := #[] }, { accessFlags := 0, nameIndex := 17, descriptorIndex := 337, attributes := #[] }] 49 2 #[1106, 1108, 575, 1110, 1112] #[{ accessFlags := 18, nameIndex := 13, descriptorIndex := 14, attributes := #[] }, { accessFlags := 18, nameIndex := 17, descriptorIndex := 18, attributes := #[] }, { accessFlags := 2, nameIndex := 21, descriptorIndex := 22, attributes := #[] }, { accessFlags := 2, nameIndex := 25, descriptorIndex := 26, attributes := #[] }, { accessFlags := 26, nameIndex := 1116, descriptorIndex := 1117, attributes := #[] }, { accessFlags := 24, nameIndex := 40, descriptorIndex := 26, attributes := #[] }, { accessFlags := 26, nameIndex := 1101, descriptorIndex := 1102, attributes := #[] }, { accessFlags := 26, nameIndex := 1121, descriptorIndex := 1122, attributes := #[] }, { accessFlags := 25, nameIndex := 599, descriptorIndex := 600, attributes := #[] }, { accessFlags := 24, nameIndex := 1125, descriptorIndex := 18, attributes := #[] }, { accessFlags := 24, nameIndex := 1127, descriptorIndex := 18, attributes := #[] }])
  fields := #[{ name := "value", type := (.array .byte), accessFlags := 18, slot := 0, constantValue := 0 }, { name := "coder", type := .byte, accessFlags := 18, slot := 1, constantValue := 0 }, { name := "hash", type := .int, accessFlags := 2, slot := 2, constantValue := 0 }, { name := "hashIsZero", type := .boolean, accessFlags := 2, slot := 3, constantValue := 0 }, { name := "serialVersionUID", type := .long, accessFlags := 26, slot := 0, constantValue := 0 }, { name := "COMPACT_STRINGS", type := .boolean, accessFlags := 24, slot := 1, constantValue := 0 }, { name := "serialPersistentFields", type := (.array (.object "java/io/ObjectStreamField")), accessFlags := 26, slot := 2, constantValue := 0 }, { name := "REPL", type := .char, accessFlags := 26, slot := 3, constantValue := 0 }, { name := "CASE_INSENSITIVE_ORDER", type := (.object "java/util/Comparator"), accessFlags := 25, slot := 4, constantValue := 0 }, { name := "LATIN1", type := .byte, accessFlags := 24, slot := 5, constantValue := 0 }, { name := "UTF16", type := .byte, accessFlags := 24, slot := 6, constantValue := 0 }]
  methods := #[k7m0, k7m1, k7m2, k7m3, k7m4, k7m5, k7m6, k7m7, k7m8]
  instanceTypes := #[(.array .byte), .byte, .int, .boolean]
  staticTypes := #[.long, .boolean, (.array (.object "java/io/ObjectStreamField")), .char, (.object "java/util/Comparator"), .byte, .byte]
  resolved := Array.replicate 1451 none
  statics := some 0 }

def pool8 : Array CpInfo := pool [(6, .class_ 8), (1, u "java/lang/Object"), (0, u "<init>"), (0, u "()V"), (1, .class_ 14), (1, u "java/lang/StringUTF16"), (31, u "$assertionsDisabled"), (0, u "Z"), (13, u "HI_BYTE_SHIFT"), (0, u "I"), (2, u "LO_BYTE_SHIFT"), (49, .methodref 12 116), (0, .nameAndType 117 118), (0, u "compress"), (0, u "([CI[BII)I"), (3, u "([CII)[B"), (138, u "coderFromArrayLen"), (0, u "([BI)B"), (106, .class_ 371), (1, u "java/lang/StringUTF16$LinesSpliterator"), (58, u "MAX_LENGTH"), (196, .class_ 628), (0, u "java/lang/StringUTF16$CodePointsSpliterator"), (0, .class_ 630), (0, u "java/lang/StringUTF16$CharsSpliterator")] 4

def k8m0 : Method := { name := "<init>", desc := "()V", sig := { parameters := [], returnType := none }, accessFlags := 0, code := none }
def k8c1 : Code := { maxStack := 2, maxLocals := 2, code := jdk_52_method_15_code, exceptionTable := #[], attributes := #[] }
def k8m1 : Method := { name := "coderFromArrayLen", desc := "([BI)B", sig := { parameters := [(.array .byte), .int], returnType := some .byte }, accessFlags := 8, code := some k8c1 }
def k8c2 : Code := { maxStack := 5, maxLocals := 6, code := jdk_52_method_16_code, exceptionTable := #[], attributes := #[] }
def k8m2 : Method := { name := "compress", desc := "([CII)[B", sig := { parameters := [(.array .char), .int, .int], returnType := some (.array .byte) }, accessFlags := 9, code := some k8c2 }
def k8c3 : Code := { maxStack := 3, maxLocals := 7, code := jdk_52_method_21_code, exceptionTable := #[], attributes := #[] }
def k8m3 : Method := { name := "compress", desc := "([CI[BII)I", sig := { parameters := [(.array .char), .int, (.array .byte), .int, .int], returnType := some .int }, accessFlags := 9, code := some k8c3 }
/-- java/lang/StringUTF16 -/
def k8 : Class := { plain "java/lang/StringUTF16" (some 0) with
  accessFlags := 48
  interfaces := #[]
  cf := some (fileOf pool8 12 #[.nestMembers #[627, 629, 369]] #[{ accessFlags := 0, nameIndex := 9, descriptorIndex := 10, attributes := #[] }, { accessFlags := 8, nameIndex := 261, descriptorIndex := 262, attributes := #[] }, { accessFlags := 9, nameIndex := 117, descriptorIndex := 122, attributes := #[] }, { accessFlags := 9, nameIndex := 117, descriptorIndex := 118, attributes := #[] }] 48 6 #[] #[{ accessFlags := 26, nameIndex := 61, descriptorIndex := 62, attributes := #[] }, { accessFlags := 26, nameIndex := 65, descriptorIndex := 62, attributes := #[] }, { accessFlags := 24, nameIndex := 430, descriptorIndex := 62, attributes := #[] }, { accessFlags := 4120, nameIndex := 46, descriptorIndex := 47, attributes := #[] }])
  fields := #[{ name := "HI_BYTE_SHIFT", type := .int, accessFlags := 26, slot := 0, constantValue := 0 }, { name := "LO_BYTE_SHIFT", type := .int, accessFlags := 26, slot := 1, constantValue := 0 }, { name := "MAX_LENGTH", type := .int, accessFlags := 24, slot := 2, constantValue := 0 }, { name := "$assertionsDisabled", type := .boolean, accessFlags := 4120, slot := 3, constantValue := 0 }]
  methods := #[k8m0, k8m1, k8m2, k8m3]
  instanceTypes := #[]
  staticTypes := #[.int, .int, .int, .boolean]
  resolved := Array.replicate 635 none
  statics := none }

def pool9 : Array CpInfo := pool [(1, .methodref 2 3), (0, .class_ 4), (0, .nameAndType 5 6), (0, u "java/lang/Object"), (0, u "<init>"), (0, u "()V"), (0, .fieldref 8 9), (0, .class_ 10), (0, .nameAndType 11 12), (0, u "com/example/kvasir/kvasir/jpql/Position"), (0, u "line"), (0, u "I"), (0, .fieldref 8 14), (0, .nameAndType 15 12), (0, u "column"), (16, u "(II)V")] 7

def k9c0 : Code := { maxStack := 2, maxLocals := 3, code := prog_61_method_1_code, exceptionTable := #[], attributes := #[] }
def k9m0 : Method := { name := "<init>", desc := "(II)V", sig := { parameters := [.int, .int], returnType := none }, accessFlags := 1, code := some k9c0 }
/-- com/example/kvasir/kvasir/jpql/Position -/
def k9 : Class := { plain "com/example/kvasir/kvasir/jpql/Position" (some 0) with
  accessFlags := 49
  interfaces := #[]
  cf := some (fileOf pool9 8 #[] #[{ accessFlags := 1, nameIndex := 5, descriptorIndex := 32, attributes := #[] }] 49 2 #[] #[{ accessFlags := 18, nameIndex := 11, descriptorIndex := 12, attributes := #[] }, { accessFlags := 18, nameIndex := 15, descriptorIndex := 12, attributes := #[] }])
  fields := #[{ name := "line", type := .int, accessFlags := 18, slot := 0, constantValue := 0 }, { name := "column", type := .int, accessFlags := 18, slot := 1, constantValue := 0 }]
  methods := #[k9m0]
  instanceTypes := #[.int, .int]
  staticTypes := #[]
  resolved := Array.replicate 40 none
  statics := none }

def pool10 : Array CpInfo := pool [(1, .methodref 2 3), (0, .class_ 4), (0, .nameAndType 5 6), (0, u "java/lang/Object"), (0, u "<init>"), (0, u "()V"), (0, .fieldref 8 9), (0, .class_ 10), (0, .nameAndType 11 12), (0, u "com/example/kvasir/kvasir/jpql/Expression"), (0, u "position"), (0, u "Lcom/example/kvasir/kvasir/jpql/Position;"), (2, u "javaType"), (0, u "Ljava/lang/Class;"), (2, u "enumType"), (0, u "Lcom/example/kvasir/kvasir/model/EnumType;"), (2, u "(Lcom/example/kvasir/kvasir/jpql/Position;)V"), (2, u "getPosition"), (0, u "()Lcom/example/kvasir/kvasir/jpql/Position;")] 16

def k10c0 : Code := { maxStack := 2, maxLocals := 2, code := prog_31_method_1_code, exceptionTable := #[], attributes := #[] }
def k10m0 : Method := { name := "<init>", desc := "(Lcom/example/kvasir/kvasir/jpql/Position;)V", sig := { parameters := [(.object "com/example/kvasir/kvasir/jpql/Position")], returnType := none }, accessFlags := 0, code := some k10c0 }
def k10c1 : Code := { maxStack := 1, maxLocals := 1, code := prog_31_method_2_code, exceptionTable := #[], attributes := #[] }
def k10m1 : Method := { name := "getPosition", desc := "()Lcom/example/kvasir/kvasir/jpql/Position;", sig := { parameters := [], returnType := some (.object "com/example/kvasir/kvasir/jpql/Position") }, accessFlags := 1, code := some k10c1 }
/-- com/example/kvasir/kvasir/jpql/Expression -/
def k10 : Class := { plain "com/example/kvasir/kvasir/jpql/Expression" (some 0) with
  accessFlags := 1057
  interfaces := #[]
  cf := some (fileOf pool10 8 #[] #[{ accessFlags := 0, nameIndex := 5, descriptorIndex := 23, attributes := #[] }, { accessFlags := 1, nameIndex := 26, descriptorIndex := 27, attributes := #[] }] 1057 2 #[] #[{ accessFlags := 2, nameIndex := 11, descriptorIndex := 12, attributes := #[] }, { accessFlags := 2, nameIndex := 15, descriptorIndex := 16, attributes := #[] }, { accessFlags := 2, nameIndex := 19, descriptorIndex := 20, attributes := #[] }])
  fields := #[{ name := "position", type := (.object "com/example/kvasir/kvasir/jpql/Position"), accessFlags := 2, slot := 0, constantValue := 0 }, { name := "javaType", type := (.object "java/lang/Class"), accessFlags := 2, slot := 1, constantValue := 0 }, { name := "enumType", type := (.object "com/example/kvasir/kvasir/model/EnumType"), accessFlags := 2, slot := 2, constantValue := 0 }]
  methods := #[k10m0, k10m1]
  instanceTypes := #[(.object "com/example/kvasir/kvasir/jpql/Position"), (.object "java/lang/Class"), (.object "com/example/kvasir/kvasir/model/EnumType")]
  staticTypes := #[]
  resolved := Array.replicate 44 none
  statics := none }

def pool11 : Array CpInfo := pool [(1, .methodref 2 3), (0, .class_ 4), (0, .nameAndType 5 6), (0, u "com/example/kvasir/kvasir/jpql/Expression"), (0, u "<init>"), (0, u "(Lcom/example/kvasir/kvasir/jpql/Position;)V"), (0, .fieldref 8 9), (0, .class_ 10), (0, .nameAndType 11 12), (0, u "com/example/kvasir/kvasir/jpql/InputParameter"), (0, u "name"), (0, u "Ljava/lang/String;"), (0, .fieldref 8 14), (0, .nameAndType 15 16), (0, u "number"), (0, u "I"), (0, .fieldref 8 18), (0, .nameAndType 19 20), (0, u "collectionValued"), (0, u "Z"), (0, .methodref 8 22), (0, .nameAndType 5 23), (0, u "(Ljava/lang/String;IZLcom/example/kvasir/kvasir/jpql/Position;)V"), (0, .fieldref 8 25), (0, .nameAndType 26 20), (0, u "bound"), (0, .fieldref 8 28), (0, .nameAndType 29 30), (0, u "value"), (0, u "Ljava/lang/Object;"), (0, .fieldref 8 32), (0, .nameAndType 33 34), (0, u "members"), (0, u "Ljava/util/List;"), (5, .nameAndType 5 41), (0, u "()V"), (9, u "()Z"), (3, u "()Ljava/lang/Object;"), (7, u "()I"), (9, .nameAndType 75 76), (1, u "toString"), (0, u "()Ljava/lang/String;"), (8, u "getValue"), (19, .class_ 106), (0, u "java/lang/StringBuilder"), (0, .methodref 105 40), (0, .methodref 105 109), (0, .nameAndType 110 111), (0, u "append"), (0, u "(Ljava/lang/String;)Ljava/lang/StringBuilder;"), (4, .methodref 105 73), (12, .string 130), (0, u ":"), (10, u "named"), (0, u "(Ljava/lang/String;ZLcom/example/kvasir/kvasir/jpql/Position;)Lcom/example/kvasir/kvasir/jpql/InputParameter;"), (2, u "getName"), (0, u "getNumber"), (0, u "isCollectionValued"), (0, u "isBound"), (0, u "getMembers"), (0, u "()Ljava/util/List;")] 13

def k11c0 : Code := { maxStack := 2, maxLocals := 5, code := prog_39_method_1_code, exceptionTable := #[], attributes := #[] }
def k11m0 : Method := { name := "<init>", desc := "(Ljava/lang/String;IZLcom/example/kvasir/kvasir/jpql/Position;)V", sig := { parameters := [(.object "java/lang/String"), .int, .boolean, (.object "com/example/kvasir/kvasir/jpql/Position")], returnType := none }, accessFlags := 2, code := some k11c0 }
def k11c1 : Code := { maxStack := 6, maxLocals := 3, code := prog_39_method_2_code, exceptionTable := #[], attributes := #[] }
def k11m1 : Method := { name := "named", desc := "(Ljava/lang/String;ZLcom/example/kvasir/kvasir/jpql/Position;)Lcom/example/kvasir/kvasir/jpql/InputParameter;", sig := { parameters := [(.object "java/lang/String"), .boolean, (.object "com/example/kvasir/kvasir/jpql/Position")], returnType := some (.object "com/example/kvasir/kvasir/jpql/InputParameter") }, accessFlags := 8, code := some k11c1 }
def k11c2 : Code := { maxStack := 1, maxLocals := 1, code := prog_39_method_4_code, exceptionTable := #[], attributes := #[] }
def k11m2 : Method := { name := "getName", desc := "()Ljava/lang/String;", sig := { parameters := [], returnType := some (.object "java/lang/String") }, accessFlags := 1, code := some k11c2 }
def k11c3 : Code := { maxStack := 1, maxLocals := 1, code := prog_39_method_5_code, exceptionTable := #[], attributes := #[] }
def k11m3 : Method := { name := "getNumber", desc := "()I", sig := { parameters := [], returnType := some .int }, accessFlags := 1, code := some k11c3 }
def k11c4 : Code := { maxStack := 1, maxLocals := 1, code := prog_39_method_6_code, exceptionTable := #[], attributes := #[] }
def k11m4 : Method := { name := "isCollectionValued", desc := "()Z", sig := { parameters := [], returnType := some .boolean }, accessFlags := 1, code := some k11c4 }
def k11c5 : Code := { maxStack := 1, maxLocals := 1, code := prog_39_method_7_code, exceptionTable := #[], attributes := #[] }
def k11m5 : Method := { name := "isBound", desc := "()Z", sig := { parameters := [], returnType := some .boolean }, accessFlags := 1, code := some k11c5 }
def k11c6 : Code := { maxStack := 1, maxLocals := 1, code := prog_39_method_8_code, exceptionTable := #[], attributes := #[] }
def k11m6 : Method := { name := "getValue", desc := "()Ljava/lang/Object;", sig := { parameters := [], returnType := some (.object "java/lang/Object") }, accessFlags := 1, code := some k11c6 }
def k11c7 : Code := { maxStack := 1, maxLocals := 1, code := prog_39_method_9_code, exceptionTable := #[], attributes := #[] }
def k11m7 : Method := { name := "getMembers", desc := "()Ljava/util/List;", sig := { parameters := [], returnType := some (.object "java/util/List") }, accessFlags := 1, code := some k11c7 }
def k11c8 : Code := { maxStack := 2, maxLocals := 1, code := prog_39_method_13_code, exceptionTable := #[], attributes := #[] }
def k11m8 : Method := { name := "toString", desc := "()Ljava/lang/String;", sig := { parameters := [], returnType := some (.object "java/lang/String") }, accessFlags := 1, code := some k11c8 }
/-- com/example/kvasir/kvasir/jpql/InputParameter -/
def k11 : Class := { plain "com/example/kvasir/kvasir/jpql/InputParameter" (some 10) with
  accessFlags := 49
  interfaces := #[]
  cf := some (fileOf pool11 8 #[] #[{ accessFlags := 2, nameIndex := 5, descriptorIndex := 23, attributes := #[] }, { accessFlags := 8, nameIndex := 141, descriptorIndex := 142, attributes := #[] }, { accessFlags := 1, nameIndex := 145, descriptorIndex := 76, attributes := #[] }, { accessFlags := 1, nameIndex := 146, descriptorIndex := 63, attributes := #[] }, { accessFlags := 1, nameIndex := 147, descriptorIndex := 51, attributes := #[] }, { accessFlags := 1, nameIndex := 148, descriptorIndex := 51, attributes := #[] }, { accessFlags := 1, nameIndex := 85, descriptorIndex := 55, attributes := #[] }, { accessFlags := 1, nameIndex := 149, descriptorIndex := 150, attributes := #[] }, { accessFlags := 1, nameIndex := 75, descriptorIndex := 76, attributes := #[] }] 49 2 #[] #[{ accessFlags := 18, nameIndex := 11, descriptorIndex := 12, attributes := #[] }, { accessFlags := 18, nameIndex := 15, descriptorIndex := 16, attributes := #[] }, { accessFlags := 18, nameIndex := 19, descriptorIndex := 20, attributes := #[] }, { accessFlags := 2, nameIndex := 26, descriptorIndex := 20, attributes := #[] }, { accessFlags := 2, nameIndex := 29, descriptorIndex := 30, attributes := #[] }, { accessFlags := 2, nameIndex := 33, descriptorIndex := 34, attributes := #[] }])
  fields := #[{ name := "name", type := (.object "java/lang/String"), accessFlags := 18, slot := 3, constantValue := 0 }, { name := "number", type := .int, accessFlags := 18, slot := 4, constantValue := 0 }, { name := "collectionValued", type := .boolean, accessFlags := 18, slot := 5, constantValue := 0 }, { name := "bound", type := .boolean, accessFlags := 2, slot := 6, constantValue := 0 }, { name := "value", type := (.object "java/lang/Object"), accessFlags := 2, slot := 7, constantValue := 0 }, { name := "members", type := (.object "java/util/List"), accessFlags := 2, slot := 8, constantValue := 0 }]
  methods := #[k11m0, k11m1, k11m2, k11m3, k11m4, k11m5, k11m6, k11m7, k11m8]
  instanceTypes := #[(.object "com/example/kvasir/kvasir/jpql/Position"), (.object "java/lang/Class"), (.object "com/example/kvasir/kvasir/model/EnumType"), (.object "java/lang/String"), .int, .boolean, .boolean, (.object "java/lang/Object"), (.object "java/util/List")]
  staticTypes := #[]
  resolved := Array.replicate 164 none
  statics := none }

def pool12 : Array CpInfo := pool [(1, .class_ 2), (0, u "java/lang/Appendable"), (0, .class_ 4), (0, u "java/lang/Object")] 9

/-- java/lang/Appendable -/
def k12 : Class := { plain "java/lang/Appendable" (some 0) with
  accessFlags := 1537
  interfaces := #[]
  cf := some (fileOf pool12 1 #[] #[] 1537 3 #[] #[])
  fields := #[]
  methods := #[]
  instanceTypes := #[]
  staticTypes := #[]
  resolved := Array.replicate 14 none
  statics := none }

def pool13 : Array CpInfo := pool [(1, .class_ 2), (0, u "java/lang/String"), (0, .methodref 4 5), (0, .class_ 6), (0, .nameAndType 7 8), (0, u "java/lang/Object"), (0, u "<init>"), (0, u "()V"), (1, .class_ 12), (1, u "java/lang/AbstractStringBuilder"), (0, u "EMPTYVALUE"), (0, u "[B"), (0, .fieldref 10 16), (0, .nameAndType 17 14), (0, u "value"), (0, .fieldref 1 19), (0, .nameAndType 20 21), (0, u "COMPACT_STRINGS"), (0, u "Z"), (0, .fieldref 10 23), (0, .nameAndType 24 25), (0, u "coder"), (0, u "B"), (6, .methodref 1 33), (0, .nameAndType 34 35), (0, u "length"), (0, u "()I"), (4, .methodref 1 41), (0, .nameAndType 24 42), (0, u "()B"), (2, u "append"), (0, u "(Ljava/lang/String;)Ljava/lang/AbstractStringBuilder;"), (1, .class_ 49), (0, u "java/lang/CharSequence"), (19, u "(Ljava/lang/String;)V"), (5, u "maybeLatin1"), (3, .fieldref 10 80), (0, .nameAndType 81 82), (0, u "count"), (0, u "I"), (2, u "isLatin1"), (0, u "()Z"), (13, .methodref 10 101), (0, .nameAndType 102 103), (0, u "ensureCapacityInternal"), (0, u "(I)V"), (104, .methodref 10 209), (0, .nameAndType 210 211), (0, u "putStringAt"), (0, u "(ILjava/lang/String;)V"), (5, u "inflateIfNeededFor"), (2, .nameAndType 221 222), (0, u "getBytes"), (0, u "([BIB)V"), (174, .methodref 10 398), (0, .nameAndType 217 69), (0, .methodref 1 220), (3, u "()[B"), (40, .class_ 445), (0, u "java/lang/Appendable"), (106, u "getValue")] 56

def k13m0 : Method := { name := "<init>", desc := "()V", sig := { parameters := [], returnType := none }, accessFlags := 0, code := none }
def k13c1 : Code := { maxStack := 2, maxLocals := 2, code := jdk_68_method_2_code, exceptionTable := #[], attributes := #[] }
def k13m1 : Method := { name := "<init>", desc := "(I)V", sig := { parameters := [.int], returnType := none }, accessFlags := 0, code := some k13c1 }
def k13c2 : Code := { maxStack := 1, maxLocals := 1, code := jdk_68_method_6_code, exceptionTable := #[], attributes := #[] }
def k13m2 : Method := { name := "length", desc := "()I", sig := { parameters := [], returnType := some .int }, accessFlags := 1, code := some k13c2 }
def k13c3 : Code := { maxStack := 4, maxLocals := 3, code := jdk_68_method_9_code, exceptionTable := #[], attributes := #[] }
def k13m3 : Method := { name := "ensureCapacityInternal", desc := "(I)V", sig := { parameters := [.int], returnType := none }, accessFlags := 2, code := some k13c3 }
def k13c4 : Code := { maxStack := 3, maxLocals := 3, code := jdk_68_method_22_code, exceptionTable := #[], attributes := #[] }
def k13m4 : Method := { name := "append", desc := "(Ljava/lang/String;)Ljava/lang/AbstractStringBuilder;", sig := { parameters := [(.object "java/lang/String")], returnType := some (.object "java/lang/AbstractStringBuilder") }, accessFlags := 1, code := some k13c4 }
def k13c5 : Code := { maxStack := 1, maxLocals := 1, code := jdk_68_method_64_code, exceptionTable := #[], attributes := #[] }
def k13m5 : Method := { name := "getValue", desc := "()[B", sig := { parameters := [], returnType := some (.array .byte) }, accessFlags := 16, code := some k13c5 }
def k13c6 : Code := { maxStack := 1, maxLocals := 1, code := jdk_68_method_68_code, exceptionTable := #[], attributes := #[] }
def k13m6 : Method := { name := "isLatin1", desc := "()Z", sig := { parameters := [], returnType := some .boolean }, accessFlags := 16, code := some k13c6 }
def k13c7 : Code := { maxStack := 2, maxLocals := 2, code := jdk_68_method_71_code, exceptionTable := #[], attributes := #[] }
def k13m7 : Method := { name := "inflateIfNeededFor", desc := "(Ljava/lang/String;)V", sig := { parameters := [(.object "java/lang/String")], returnType := none }, accessFlags := 2, code := some k13c7 }
def k13c8 : Code := { maxStack := 4, maxLocals := 3, code := jdk_68_method_73_code, exceptionTable := #[], attributes := #[] }
def k13m8 : Method := { name := "putStringAt", desc := "(ILjava/lang/String;)V", sig := { parameters := [.int, (.object "java/lang/String")], returnType := none }, accessFlags := 2, code := some k13c8 }
/-- java/lang/AbstractStringBuilder -/
def k13 : Class := { plain "java/lang/AbstractStringBuilder" (some 0) with
  accessFlags := 1056
  interfaces := #[12, 4]
  cf := some (fileOf pool13 10 #[] #[{ accessFlags := 0, nameIndex := 7, descriptorIndex := 8, attributes := #[] }, { accessFlags := 0, nameIndex := 7, descriptorIndex := 103, attributes := #[] }, { accessFlags := 1, nameIndex := 34, descriptorIndex := 35, attributes := #[] }, { accessFlags := 2, nameIndex := 102, descriptorIndex := 103, attributes := #[] }, { accessFlags := 1, nameIndex := 45, descriptorIndex := 46, attributes := #[] }, { accessFlags := 16, nameIndex := 552, descriptorIndex := 403, attributes := #[] }, { accessFlags := 16, nameIndex := 85, descriptorIndex := 86, attributes := #[] }, { accessFlags := 2, nameIndex := 217, descriptorIndex := 69, attributes := #[] }, { accessFlags := 2, nameIndex := 210, descriptorIndex := 211, attributes := #[] }] 1056 4 #[444, 48] #[{ accessFlags := 0, nameIndex := 17, descriptorIndex := 14, attributes := #[] }, { accessFlags := 0, nameIndex := 24, descriptorIndex := 25, attributes := #[] }, { accessFlags := 0, nameIndex := 75, descriptorIndex := 21, attributes := #[] }, { accessFlags := 0, nameIndex := 81, descriptorIndex := 82, attributes := #[] }, { accessFlags := 26, nameIndex := 13, descriptorIndex := 14, attributes := #[] }])
  fields := #[{ name := "value", type := (.array .byte), accessFlags := 0, slot := 0, constantValue := 0 }, { name := "coder", type := .byte, accessFlags := 0, slot := 1, constantValue := 0 }, { name := "maybeLatin1", type := .boolean, accessFlags := 0, slot := 2, constantValue := 0 }, { name := "count", type := .int, accessFlags := 0, slot := 3, constantValue := 0 }, { name := "EMPTYVALUE", type := (.array .byte), accessFlags := 26, slot := 0, constantValue := 0 }]
  methods := #[k13m0, k13m1, k13m2, k13m3, k13m4, k13m5, k13m6, k13m7, k13m8]
  instanceTypes := #[(.array .byte), .byte, .boolean, .int]
  staticTypes := #[(.array .byte)]
  resolved := Array.replicate 609 none
  statics := none }

def pool14 : Array CpInfo := pool [(1, .methodref 2 3), (0, .class_ 4), (0, .nameAndType 5 6), (0, u "java/lang/AbstractStringBuilder"), (0, u "<init>"), (0, u "(I)V"), (11, .class_ 20), (1, u "java/lang/String"), (3, .class_ 26), (1, u "java/lang/StringBuilder"), (0, u "append"), (0, u "(Ljava/lang/String;)Ljava/lang/StringBuilder;"), (0, .methodref 2 30), (0, .nameAndType 27 31), (0, u "(Ljava/lang/String;)Ljava/lang/AbstractStringBuilder;"), (105, .methodref 18 138), (0, .nameAndType 5 139), (0, u "(Ljava/lang/StringBuilder;)V"), (5, u "()V"), (10, u "()I"), (186, .methodref 2 344), (0, .nameAndType 345 156), (0, u "length"), (3, .class_ 350), (0, u "java/lang/Appendable"), (0, .class_ 352), (0, u "java/io/Serializable"), (0, .class_ 354), (0, u "java/lang/Comparable"), (0, .class_ 356), (0, u "java/lang/CharSequence"), (0, u "serialVersionUID"), (0, u "J"), (40, u "toString"), (0, u "()Ljava/lang/String;")] 21

def k14c0 : Code := { maxStack := 2, maxLocals := 1, code := jdk_67_method_1_code, exceptionTable := #[], attributes := #[] }
def k14m0 : Method := { name := "<init>", desc := "()V", sig := { parameters := [], returnType := none }, accessFlags := 1, code := some k14c0 }
def k14c1 : Code := { maxStack := 2, maxLocals := 2, code := jdk_67_method_7_code, exceptionTable := #[], attributes := #[] }
def k14m1 : Method := { name := "append", desc := "(Ljava/lang/String;)Ljava/lang/StringBuilder;", sig := { parameters := [(.object "java/lang/String")], returnType := some (.object "java/lang/StringBuilder") }, accessFlags := 1, code := some k14c1 }
def k14c2 : Code := { maxStack := 3, maxLocals := 1, code := jdk_67_method_42_code, exceptionTable := #[], attributes := #[] }
def k14m2 : Method := { name := "toString", desc := "()Ljava/lang/String;", sig := { parameters := [], returnType := some (.object "java/lang/String") }, accessFlags := 1, code := some k14c2 }
def k14c3 : Code := { maxStack := 1, maxLocals := 1, code := jdk_67_method_93_code, exceptionTable := #[], attributes := #[] }
def k14m3 : Method := { name := "length", desc := "()I", sig := { parameters := [], returnType := some .int }, accessFlags := 4161, code := some k14c3 }
/-- java/lang/StringBuilder -/
def k14 : Class := { plain "java/lang/StringBuilder" (some 13) with
  accessFlags := 49
  interfaces := #[12, 2, 3, 4]
  cf := some (fileOf pool14 24 #[] #[{ accessFlags := 1, nameIndex := 5, descriptorIndex := 145, attributes := #[] }, { accessFlags := 1, nameIndex := 27, descriptorIndex := 28, attributes := #[] }, { accessFlags := 1, nameIndex := 399, descriptorIndex := 400, attributes := #[] }, { accessFlags := 4161, nameIndex := 345, descriptorIndex := 156, attributes := #[] }] 49 2 #[349, 351, 353, 355] #[{ accessFlags := 24, nameIndex := 357, descriptorIndex := 358, attributes := #[] }])
  fields := #[{ name := "serialVersionUID", type := .long, accessFlags := 24, slot := 0, constantValue := 0 }]
  methods := #[k14m0, k14m1, k14m2, k14m3]
  instanceTypes := #[(.array .byte), .byte, .boolean, .int]
  staticTypes := #[.long]
  resolved := Array.replicate 422 none
  statics := none }

def pool15 : Array CpInfo := pool [(2, .class_ 4), (1, u "java/lang/Object"), (0, u "<init>"), (0, u "()V"), (1, .class_ 10), (1, u "java/lang/System"), (0, u "allowSecurityManager"), (0, u "I"), (16, u "cons"), (0, u "Ljava/io/Console;"), (77, .class_ 110), (1, u "java/lang/System$CallersHolder"), (43, u "initialErrStream"), (0, u "Ljava/io/PrintStream;"), (19, u "security"), (0, u "Ljava/lang/SecurityManager;"), (31, .class_ 209), (0, u "java/lang/System$1"), (7, u "props"), (0, u "Ljava/util/Properties;"), (2, u "lineSeparator"), (0, u "Ljava/lang/String;"), (96, .class_ 321), (1, u "java/lang/System$LoggerFinder"), (5, .class_ 328), (0, u "java/lang/System$Logger"), (67, u "err"), (2, u "out"), (91, u "notSupportedJnuEncoding"), (15, u "in"), (17, u "initialIn"), (0, u "Ljava/io/InputStream;"), (35, u "bootLayer"), (0, u "Ljava/lang/ModuleLayer;"), (99, .class_ 664), (0, u "java/lang/System$2"), (9, u "NEVER"), (2, u "MAYBE"), (49, u "arraycopy"), (0, u "(Ljava/lang/Object;ILjava/lang/Object;II)V"), (72, .class_ 802), (0, u "java/lang/System$Logger$Level")] 31

def k15m0 : Method := { name := "<init>", desc := "()V", sig := { parameters := [], returnType := none }, accessFlags := 2, code := none }
def k15m1 : Method := { name := "arraycopy", desc := "(Ljava/lang/Object;ILjava/lang/Object;II)V", sig := { parameters := [(.object "java/lang/Object"), .int, (.object "java/lang/Object"), .int, .int], returnType := none }, accessFlags := 265, code := none }
/-- java/lang/System -/
def k15 : Class := { plain "java/lang/System" (some 0) with
  accessFlags := 49
  interfaces := #[]
  cf := some (fileOf pool15 8 #[.nestMembers #[319, 327, 801, 108, 663, 208]] #[{ accessFlags := 2, nameIndex := 5, descriptorIndex := 6, attributes := #[] }, { accessFlags := 265, nameIndex := 727, descriptorIndex := 728, attributes := #[] }] 49 2 #[] #[{ accessFlags := 25, nameIndex := 507, descriptorIndex := 526, attributes := #[] }, { accessFlags := 25, nameIndex := 399, descriptorIndex := 155, attributes := #[] }, { accessFlags := 25, nameIndex := 396, descriptorIndex := 155, attributes := #[] }, { accessFlags := 10, nameIndex := 525, descriptorIndex := 526, attributes := #[] }, { accessFlags := 26, nameIndex := 674, descriptorIndex := 12, attributes := #[] }, { accessFlags := 26, nameIndex := 677, descriptorIndex := 12, attributes := #[] }, { accessFlags := 10, nameIndex := 11, descriptorIndex := 12, attributes := #[] }, { accessFlags := 74, nameIndex := 175, descriptorIndex := 176, attributes := #[] }, { accessFlags := 10, nameIndex := 491, descriptorIndex := 222, attributes := #[] }, { accessFlags := 74, nameIndex := 29, descriptorIndex := 30, attributes := #[] }, { accessFlags := 74, nameIndex := 154, descriptorIndex := 155, attributes := #[] }, { accessFlags := 10, nameIndex := 217, descriptorIndex := 218, attributes := #[] }, { accessFlags := 10, nameIndex := 221, descriptorIndex := 222, attributes := #[] }, { accessFlags := 8, nameIndex := 562, descriptorIndex := 563, attributes := #[] }])
  fields := #[{ name := "in", type := (.object "java/io/InputStream"), accessFlags := 25, slot := 0, constantValue := 0 }, { name := "out", type := (.object "java/io/PrintStream"), accessFlags := 25, slot := 1, constantValue := 0 }, { name := "err", type := (.object "java/io/PrintStream"), accessFlags := 25, slot := 2, constantValue := 0 }, { name := "initialIn", type := (.object "java/io/InputStream"), accessFlags := 10, slot := 3, constantValue := 0 }, { name := "NEVER", type := .int, accessFlags := 26, slot := 4, constantValue := 0 }, { name := "MAYBE", type := .int, accessFlags := 26, slot := 5, constantValue := 0 }, { name := "allowSecurityManager", type := .int, accessFlags := 10, slot := 6, constantValue := 0 }, { name := "security", type := (.object "java/lang/SecurityManager"), accessFlags := 74, slot := 7, constantValue := 0 }, { name := "notSupportedJnuEncoding", type := (.object "java/lang/String"), accessFlags := 10, slot := 8, constantValue := 0 }, { name := "cons", type := (.object "java/io/Console"), accessFlags := 74, slot := 9, constantValue := 0 }, { name := "initialErrStream", type := (.object "java/io/PrintStream"), accessFlags := 74, slot := 10, constantValue := 0 }, { name := "props", type := (.object "java/util/Properties"), accessFlags := 10, slot := 11, constantValue := 0 }, { name := "lineSeparator", type := (.object "java/lang/String"), accessFlags := 10, slot := 12, constantValue := 0 }, { name := "bootLayer", type := (.object "java/lang/ModuleLayer"), accessFlags := 8, slot := 13, constantValue := 0 }]
  methods := #[k15m0, k15m1]
  instanceTypes := #[]
  staticTypes := #[(.object "java/io/InputStream"), (.object "java/io/PrintStream"), (.object "java/io/PrintStream"), (.object "java/io/InputStream"), .int, .int, .int, (.object "java/lang/SecurityManager"), (.object "java/lang/String"), (.object "java/io/Console"), (.object "java/io/PrintStream"), (.object "java/util/Properties"), (.object "java/lang/String"), (.object "java/lang/ModuleLayer")]
  resolved := Array.replicate 834 none
  statics := none }

def pool16 : Array CpInfo := pool [(2, .class_ 4), (1, u "java/lang/Object"), (0, u "<init>"), (0, u "()V"), (7, .class_ 16), (1, u "java/util/Arrays"), (57, .class_ 76), (1, u "java/util/Arrays$NaturalOrder"), (36, .class_ 115), (1, u "java/util/Arrays$LegacyMergeSort"), (1, u "Z"), (21, u "copyOfRange"), (10, .methodref 151 152), (0, .class_ 153), (0, .nameAndType 154 155), (0, u "java/lang/System"), (0, u "arraycopy"), (0, u "(Ljava/lang/Object;ILjava/lang/Object;II)V"), (148, .methodref 305 306), (0, .class_ 307), (0, .nameAndType 308 309), (0, u "java/lang/Math"), (0, u "min"), (0, u "(II)I"), (29, .methodref 14 340), (0, .nameAndType 341 342), (0, u "copyOfRangeByte"), (0, u "([BII)[B"), (0, .methodref 14 344), (0, .nameAndType 345 346), (0, u "checkLength"), (0, u "(II)V"), (28, .class_ 376), (0, u "java/util/Arrays$ArrayList"), (68, u "$assertionsDisabled"), (269, u "MIN_ARRAY_SORT_GRAN"), (0, u "I"), (2, u "INSERTIONSORT_THRESHOLD"), (255, .class_ 976), (0, u "java/util/Arrays$ArrayItr")] 52

def k16m0 : Method := { name := "<init>", desc := "()V", sig := { parameters := [], returnType := none }, accessFlags := 2, code := none }
def k16c1 : Code := { maxStack := 4, maxLocals := 2, code := jdk_65_method_131_code, exceptionTable := #[], attributes := #[] }
def k16m1 : Method := { name := "checkLength", desc := "(II)V", sig := { parameters := [.int, .int], returnType := none }, accessFlags := 10, code := some k16c1 }
def k16c2 : Code := { maxStack := 3, maxLocals := 3, code := jdk_65_method_132_code, exceptionTable := #[], attributes := #[] }
def k16m2 : Method := { name := "copyOfRange", desc := "([BII)[B", sig := { parameters := [(.array .byte), .int, .int], returnType := some (.array .byte) }, accessFlags := 9, code := some k16c2 }
def k16c3 : Code := { maxStack := 6, maxLocals := 5, code := jdk_65_method_133_code, exceptionTable := #[], attributes := #[] }
def k16m3 : Method := { name := "copyOfRangeByte", desc := "([BII)[B", sig := { parameters := [(.array .byte), .int, .int], returnType := some (.array .byte) }, accessFlags := 10, code := some k16c3 }
/-- java/util/Arrays -/
def k16 : Class := { plain "java/util/Arrays" (some 0) with
  accessFlags := 49
  interfaces := #[]
  cf := some (fileOf pool16 14 #[.nestMembers #[975, 375, 113, 74]] #[{ accessFlags := 2, nameIndex := 5, descriptorIndex := 6, attributes := #[] }, { accessFlags := 10, nameIndex := 345, descriptorIndex := 346, attributes := #[] }, { accessFlags := 9, nameIndex := 139, descriptorIndex := 342, attributes := #[] }, { accessFlags := 10, nameIndex := 341, descriptorIndex := 342, attributes := #[] }] 49 2 #[] #[{ accessFlags := 26, nameIndex := 715, descriptorIndex := 716, attributes := #[] }, { accessFlags := 26, nameIndex := 719, descriptorIndex := 716, attributes := #[] }, { accessFlags := 4120, nameIndex := 445, descriptorIndex := 117, attributes := #[] }])
  fields := #[{ name := "MIN_ARRAY_SORT_GRAN", type := .int, accessFlags := 26, slot := 0, constantValue := 0 }, { name := "INSERTIONSORT_THRESHOLD", type := .int, accessFlags := 26, slot := 1, constantValue := 0 }, { name := "$assertionsDisabled", type := .boolean, accessFlags := 4120, slot := 2, constantValue := 0 }]
  methods := #[k16m0, k16m1, k16m2, k16m3]
  instanceTypes := #[]
  staticTypes := #[.int, .int, .boolean]
  resolved := Array.replicate 1029 none
  statics := none }

def pool17 : Array CpInfo := pool [(1, .class_ 2), (0, u "java/lang/Math"), (1, .class_ 6), (1, u "java/lang/Object"), (0, u "<init>"), (0, u "()V"), (89, .class_ 100), (1, u "java/lang/Math$RandomNumberGeneratorHolder"), (71, u "negativeZeroFloatBits"), (0, u "J"), (2, u "negativeZeroDoubleBits"), (24, u "min"), (43, u "$assertionsDisabled"), (0, u "Z"), (88, u "(II)I"), (2, u "twoToTheDoubleScaleDown"), (0, u "D"), (4, u "twoToTheDoubleScaleUp"), (9, u "E"), (3, u "PI"), (2, u "TAU"), (2, u "DEGREES_TO_RADIANS"), (0, u "RADIANS_TO_DEGREES")] 94

def k17m0 : Method := { name := "<init>", desc := "()V", sig := { parameters := [], returnType := none }, accessFlags := 2, code := none }
def k17c1 : Code := { maxStack := 2, maxLocals := 2, code := jdk_29_method_69_code, exceptionTable := #[], attributes := #[] }
def k17m1 : Method := { name := "min", desc := "(II)I", sig := { parameters := [.int, .int], returnType := some .int }, accessFlags := 9, code := some k17c1 }
/-- java/lang/Math -/
def k17 : Class := { plain "java/lang/Math" (some 0) with
  accessFlags := 49
  interfaces := #[]
  cf := some (fileOf pool17 1 #[.nestMembers #[98]] #[{ accessFlags := 2, nameIndex := 7, descriptorIndex := 8, attributes := #[] }, { accessFlags := 9, nameIndex := 201, descriptorIndex := 335, attributes := #[] }] 49 4 #[] #[{ accessFlags := 25, nameIndex := 354, descriptorIndex := 339, attributes := #[] }, { accessFlags := 25, nameIndex := 358, descriptorIndex := 339, attributes := #[] }, { accessFlags := 25, nameIndex := 361, descriptorIndex := 339, attributes := #[] }, { accessFlags := 26, nameIndex := 364, descriptorIndex := 339, attributes := #[] }, { accessFlags := 26, nameIndex := 365, descriptorIndex := 339, attributes := #[] }, { accessFlags := 26, nameIndex := 172, descriptorIndex := 173, attributes := #[] }, { accessFlags := 26, nameIndex := 176, descriptorIndex := 173, attributes := #[] }, { accessFlags := 8, nameIndex := 344, descriptorIndex := 339, attributes := #[] }, { accessFlags := 8, nameIndex := 338, descriptorIndex := 339, attributes := #[] }, { accessFlags := 4120, nameIndex := 245, descriptorIndex := 246, attributes := #[] }])
  fields := #[{ name := "E", type := .double, accessFlags := 25, slot := 0, constantValue := 0 }, { name := "PI", type := .double, accessFlags := 25, slot := 1, constantValue := 0 }, { name := "TAU", type := .double, accessFlags := 25, slot := 2, constantValue := 0 }, { name := "DEGREES_TO_RADIANS", type := .double, accessFlags := 26, slot := 3, constantValue := 0 }, { name := "RADIANS_TO_DEGREES", type := .double, accessFlags := 26, slot := 4, constantValue := 0 }, { name := "negativeZeroFloatBits", type := .long, accessFlags := 26, slot := 5, constantValue := 0 }, { name := "negativeZeroDoubleBits", type := .long, accessFlags := 26, slot := 6, constantValue := 0 }, { name := "twoToTheDoubleScaleUp", type := .double, accessFlags := 8, slot := 7, constantValue := 0 }, { name := "twoToTheDoubleScaleDown", type := .double, accessFlags := 8, slot := 8, constantValue := 0 }, { name := "$assertionsDisabled", type := .boolean, accessFlags := 4120, slot := 9, constantValue := 0 }]
  methods := #[k17m0, k17m1]
  instanceTypes := #[]
  staticTypes := #[.double, .double, .double, .double, .double, .long, .long, .double, .double, .boolean]
  resolved := Array.replicate 460 none
  statics := none }

def pool18 : Array CpInfo := pool [(4, .class_ 6), (1, u "java/lang/Object"), (0, u "<init>"), (0, u "()V"), (5, .class_ 16), (1, u "java/lang/StringLatin1"), (104, u "$assertionsDisabled"), (0, u "Z"), (98, .class_ 223), (1, u "java/lang/StringLatin1$LinesSpliterator"), (57, u "equals"), (0, u "([B[B)Z"), (107, .class_ 391), (0, u "java/lang/StringLatin1$CharsSpliterator")] 3

def k18m0 : Method := { name := "<init>", desc := "()V", sig := { parameters := [], returnType := none }, accessFlags := 0, code := none }
def k18c1 : Code := { maxStack := 3, maxLocals := 3, code := jdk_43_method_13_code, exceptionTable := #[], attributes := #[] }
def k18m1 : Method := { name := "equals", desc := "([B[B)Z", sig := { parameters := [(.array .byte), (.array .byte)], returnType := some .boolean }, accessFlags := 9, code := some k18c1 }
/-- java/lang/StringLatin1 -/
def k18 : Class := { plain "java/lang/StringLatin1" (some 0) with
  accessFlags := 48
  interfaces := #[]
  cf := some (fileOf pool18 14 #[.nestMembers #[390, 221]] #[{ accessFlags := 0, nameIndex := 7, descriptorIndex := 8, attributes := #[] }, { accessFlags := 9, nameIndex := 281, descriptorIndex := 282, attributes := #[] }] 48 4 #[] #[{ accessFlags := 4120, nameIndex := 121, descriptorIndex := 122, attributes := #[] }])
  fields := #[{ name := "$assertionsDisabled", type := .boolean, accessFlags := 4120, slot := 0, constantValue := 0 }]
  methods := #[k18m0, k18m1]
  instanceTypes := #[]
  staticTypes := #[.boolean]
  resolved := Array.replicate 395 none
  statics := none }

def pool19 : Array CpInfo := pool [(2, .class_ 4), (1, u "java/lang/Object"), (0, u "<init>"), (0, u "()V"), (17, .class_ 26), (1, u "jdk/internal/util/Preconditions"), (28, .class_ 56), (0, u "jdk/internal/util/Preconditions$4"), (57, .class_ 115), (0, u "jdk/internal/util/Preconditions$1"), (7, u "SIOOBE_FORMATTER"), (0, u "Ljava/util/function/BiFunction;"), (0, .class_ 126), (0, u "jdk/internal/util/Preconditions$2"), (3, u "AIOOBE_FORMATTER"), (0, .class_ 132), (0, u "jdk/internal/util/Preconditions$3"), (3, u "IOOBE_FORMATTER")] 57

def k19m0 : Method := { name := "<init>", desc := "()V", sig := { parameters := [], returnType := none }, accessFlags := 1, code := none }
/-- jdk/internal/util/Preconditions -/
def k19 : Class := { plain "jdk/internal/util/Preconditions" (some 0) with
  accessFlags := 33
  interfaces := #[]
  cf := some (fileOf pool19 24 #[.nestMembers #[55, 131, 125, 114]] #[{ accessFlags := 1, nameIndex := 5, descriptorIndex := 6, attributes := #[] }] 33 2 #[] #[{ accessFlags := 25, nameIndex := 123, descriptorIndex := 124, attributes := #[] }, { accessFlags := 25, nameIndex := 130, descriptorIndex := 124, attributes := #[] }, { accessFlags := 25, nameIndex := 136, descriptorIndex := 124, attributes := #[] }])
  fields := #[{ name := "SIOOBE_FORMATTER", type := (.object "java/util/function/BiFunction"), accessFlags := 25, slot := 0, constantValue := 0 }, { name := "AIOOBE_FORMATTER", type := (.object "java/util/function/BiFunction"), accessFlags := 25, slot := 1, constantValue := 0 }, { name := "IOOBE_FORMATTER", type := (.object "java/util/function/BiFunction"), accessFlags := 25, slot := 2, constantValue := 0 }]
  methods := #[k19m0]
  instanceTypes := #[]
  staticTypes := #[(.object "java/util/function/BiFunction"), (.object "java/util/function/BiFunction"), (.object "java/util/function/BiFunction")]
  resolved := Array.replicate 194 none
  statics := some 1 }

def pool20 : Array CpInfo := pool [(9, u "<init>"), (6, .class_ 18), (1, u "java/lang/Object"), (0, u "()V"), (1, .class_ 23), (1, u "jdk/internal/util/ArraysSupport"), (0, u "LOG2_ARRAY_LONG_INDEX_SCALE"), (0, u "I"), (2, u "U"), (0, u "Ljdk/internal/misc/Unsafe;"), (8, u "BIG_ENDIAN"), (0, u "Z"), (8, u "LOG2_BYTE_BIT_SIZE"), (4, u "LOG2_ARRAY_INT_INDEX_SCALE"), (54, u "JLA"), (0, u "Ljdk/internal/access/JavaLangAccess;"), (11, u "LOG2_ARRAY_BOOLEAN_INDEX_SCALE"), (9, u "LOG2_ARRAY_BYTE_INDEX_SCALE"), (5, u "LOG2_ARRAY_CHAR_INDEX_SCALE"), (5, u "LOG2_ARRAY_SHORT_INDEX_SCALE"), (18, u "LOG2_ARRAY_FLOAT_INDEX_SCALE"), (24, u "LOG2_ARRAY_DOUBLE_INDEX_SCALE"), (89, u "T_BOOLEAN"), (2, u "T_CHAR"), (1, u "T_FLOAT"), (1, u "T_DOUBLE"), (1, u "T_BYTE"), (1, u "T_SHORT"), (1, u "T_INT"), (1, u "T_LONG"), (1, u "SOFT_MAX_ARRAY_LENGTH")] 83

def k20m0 : Method := { name := "<init>", desc := "()V", sig := { parameters := [], returnType := none }, accessFlags := 2, code := none }
/-- jdk/internal/util/ArraysSupport -/
def k20 : Class := { plain "jdk/internal/util/ArraysSupport" (some 0) with
  accessFlags := 33
  interfaces := #[]
  cf := some (fileOf pool20 21 #[] #[{ accessFlags := 2, nameIndex := 9, descriptorIndex := 19, attributes := #[] }] 33 16 #[] #[{ accessFlags := 24, nameIndex := 28, descriptorIndex := 29, attributes := #[] }, { accessFlags := 26, nameIndex := 38, descriptorIndex := 39, attributes := #[] }, { accessFlags := 25, nameIndex := 121, descriptorIndex := 25, attributes := #[] }, { accessFlags := 25, nameIndex := 131, descriptorIndex := 25, attributes := #[] }, { accessFlags := 25, nameIndex := 137, descriptorIndex := 25, attributes := #[] }, { accessFlags := 25, nameIndex := 143, descriptorIndex := 25, attributes := #[] }, { accessFlags := 25, nameIndex := 53, descriptorIndex := 25, attributes := #[] }, { accessFlags := 25, nameIndex := 24, descriptorIndex := 25, attributes := #[] }, { accessFlags := 25, nameIndex := 162, descriptorIndex := 25, attributes := #[] }, { accessFlags := 25, nameIndex := 187, descriptorIndex := 25, attributes := #[] }, { accessFlags := 26, nameIndex := 48, descriptorIndex := 25, attributes := #[] }, { accessFlags := 25, nameIndex := 277, descriptorIndex := 25, attributes := #[] }, { accessFlags := 25, nameIndex := 280, descriptorIndex := 25, attributes := #[] }, { accessFlags := 25, nameIndex := 282, descriptorIndex := 25, attributes := #[] }, { accessFlags := 25, nameIndex := 284, descriptorIndex := 25, attributes := #[] }, { accessFlags := 25, nameIndex := 286, descriptorIndex := 25, attributes := #[] }, { accessFlags := 25, nameIndex := 288, descriptorIndex := 25, attributes := #[] }, { accessFlags := 25, nameIndex := 290, descriptorIndex := 25, attributes := #[] }, { accessFlags := 25, nameIndex := 292, descriptorIndex := 25, attributes := #[] }, { accessFlags := 26, nameIndex := 108, descriptorIndex := 109, attributes := #[] }, { accessFlags := 25, nameIndex := 294, descriptorIndex := 25, attributes := #[] }])
  fields := #[{ name := "U", type := (.object "jdk/internal/misc/Unsafe"), accessFlags := 24, slot := 0, constantValue := 0 }, { name := "BIG_ENDIAN", type := .boolean, accessFlags := 26, slot := 1, constantValue := 0 }, { name := "LOG2_ARRAY_BOOLEAN_INDEX_SCALE", type := .int, accessFlags := 25, slot := 2, constantValue := 0 }, { name := "LOG2_ARRAY_BYTE_INDEX_SCALE", type := .int, accessFlags := 25, slot := 3, constantValue := 0 }, { name := "LOG2_ARRAY_CHAR_INDEX_SCALE", type := .int, accessFlags := 25, slot := 4, constantValue := 0 }, { name := "LOG2_ARRAY_SHORT_INDEX_SCALE", type := .int, accessFlags := 25, slot := 5, constantValue := 0 }, { name := "LOG2_ARRAY_INT_INDEX_SCALE", type := .int, accessFlags := 25, slot := 6, constantValue := 0 }, { name := "LOG2_ARRAY_LONG_INDEX_SCALE", type := .int, accessFlags := 25, slot := 7, constantValue := 0 }, { name := "LOG2_ARRAY_FLOAT_INDEX_SCALE", type := .int, accessFlags := 25, slot := 8, constantValue := 0 }, { name := "LOG2_ARRAY_DOUBLE_INDEX_SCALE", type := .int, accessFlags := 25, slot := 9, constantValue := 0 }, { name := "LOG2_BYTE_BIT_SIZE", type := .int, accessFlags := 26, slot := 10, constantValue := 0 }, { name := "T_BOOLEAN", type := .int, accessFlags := 25, slot := 11, constantValue := 0 }, { name := "T_CHAR", type := .int, accessFlags := 25, slot := 12, constantValue := 0 }, { name := "T_FLOAT", type := .int, accessFlags := 25, slot := 13, constantValue := 0 }, { name := "T_DOUBLE", type := .int, accessFlags := 25, slot := 14, constantValue := 0 }, { name := "T_BYTE", type := .int, accessFlags := 25, slot := 15, constantValue := 0 }, { name := "T_SHORT", type := .int, accessFlags := 25, slot := 16, constantValue := 0 }, { name := "T_INT", type := .int, accessFlags := 25, slot := 17, constantValue := 0 }, { name := "T_LONG", type := .int, accessFlags := 25, slot := 18, constantValue := 0 }, { name := "JLA", type := (.object "jdk/internal/access/JavaLangAccess"), accessFlags := 26, slot := 19, constantValue := 0 }, { name := "SOFT_MAX_ARRAY_LENGTH", type := .int, accessFlags := 25, slot := 20, constantValue := 0 }]
  methods := #[k20m0]
  instanceTypes := #[]
  staticTypes := #[(.object "jdk/internal/misc/Unsafe"), .boolean, .int, .int, .int, .int, .int, .int, .int, .int, .int, .int, .int, .int, .int, .int, .int, .int, .int, (.object "jdk/internal/access/JavaLangAccess"), .int]
  resolved := Array.replicate 378 none
  statics := none }

def pool21 : Array CpInfo := pool [(1, u "java/lang/Cloneable"), (0, .class_ 1), (0, u "java/lang/Object"), (0, .class_ 3)] 3

/-- java/lang/Cloneable -/
def k21 : Class := { plain "java/lang/Cloneable" (some 0) with
  accessFlags := 1537
  interfaces := #[]
  cf := some (fileOf pool21 2 #[] #[] 1537 4 #[] #[])
  fields := #[]
  methods := #[]
  instanceTypes := #[]
  staticTypes := #[]
  resolved := Array.replicate 8 none
  statics := none }

/-- the primitive byte -/
def k22 : Class := { plain "byte" none with kind := .primitive 'B', accessFlags := 0x411 }
/-- [B -/
def k23 : Class := { plain "[B" (some 0) with kind := .array 22 .byte, interfaces := #[21, 2], accessFlags := 1041 }

/-- the primitive char -/
def k24 : Class := { plain "char" none with kind := .primitive 'C', accessFlags := 0x411 }
/-- [C -/
def k25 : Class := { plain "[C" (some 0) with kind := .array 24 .char, interfaces := #[21, 2], accessFlags := 1041 }

/-- the primitive int -/
def k26 : Class := { plain "int" none with kind := .primitive 'I', accessFlags := 0x411 }
/-- [I -/
def k27 : Class := { plain "[I" (some 0) with kind := .array 26 .int, interfaces := #[21, 2], accessFlags := 1041 }

def heap : Heap := #[{ cls := 7, slots := #[.long 0, .int 1, .null, .int 0, .null, .int 0, .int 0], vm := .statics 7 },
  { cls := 19, slots := #[.null, .null, .null], vm := .statics 19 }]
def classes : Array Class := #[k0, k1, k2, k3, k4, k5, k6, k7, k8, k9, k10, k11, k12, k13, k14, k15, k16, k17, k18, k19, k20, k21, k22, k23, k24, k25, k26, k27]
def interned : List (Array UInt16 × Addr) := []
def slotsUsed : Nat := 10
def theMethod : MethodId := ⟨1, 3⟩
def args0 : Array Value := #[.int 1, .int 2, .int 3, .int 4]
def aboutOver (below : List Frame) : State where
  vm := { classes := classes, interned := interned.toArray }
  heap := heap
  slotsUsed := slotsUsed
  threads := #[{ frames := .invoking theMethod args0 :: below }]
def below0 : List Frame := [.native { method := ⟨0, 0⟩, args := #[] }]
def about1 : State := aboutOver below0
def p0 : Program := .bare "" "" ""
def e0 : Env := launch0.env 0 0 0
theorem w_frames : about1.frames = Frame.invoking theMethod args0 :: below0 := rfl
set_option maxRecDepth 65536 in
theorem w_args : argsFit about1.vm theMethod args0 = true := by decide +kernel
set_option maxRecDepth 65536 in
theorem w_heap : heapFits about1 = true := by decide +kernel
set_option maxRecDepth 65536 in
theorem w_runnable : about1.curStatus? = some .runnable := by decide +kernel
set_option maxRecDepth 65536 in
theorem w_alone : about1.alone = true := by decide +kernel
set_option maxRecDepth 65536 in
theorem w_named : about1.methodNamed? x = some theMethod := by decide +kernel
set_option maxRecDepth 65536 in
theorem w_hears : about1.hears theMethod below0 = true := by decide +kernel
set_option maxRecDepth 65536 in
theorem w_ripe : about1.ripe theMethod args0 below0 = true := by decide +kernel
theorem w_running : about1.status = .running := rfl
set_option maxRecDepth 65536 in
theorem w_room : about1.hasRoom e0.platform room_1 = true :=
  launch0.hasRoom_least _ room_1 (by decide +kernel) (by decide +kernel) (by decide +kernel) (by decide +kernel) (by decide +kernel) (by decide +kernel)
theorem allAtoms_all (ts : List Jvm.Cond) (a : Array Jvm.Value) (st : Jvm.State) : (allAtoms ts).before a st = ts.all (fun c => c.before a st) := by
  induction ts with
  | nil => rfl
  | cons c t ih =>
    show (Jvm.Cond.and c (allAtoms t)).before a st = _
    rw [Jvm.Cond.before_and, ih, List.all_cons]
def words1 : List Jvm.Cond := Jvm.Cond.code x code maxLocals ret :: tables_1
/-- a 'code' word, met by the world's own term for the bytes: nothing is compared byte by byte -/
theorem code_word {y : MethodName} {bytes : ByteArray} {mx : Nat} {rt : Option FieldType} {a : Array Value} {s : State} {m : MethodId} {meth : Method} {c : Code} (h1 : s.methodNamed? y = some m) (h2 : s.vm.method? m = some meth) (h3 : meth.code = some c) (h4 : c.code = bytes)
    (h5 : (c.maxLocals == mx && c.exceptionTable.isEmpty && decide (c.maxStack ≤ mostOperands) && decide (meth.sig.returnType = rt) && !meth.locks && decide (parseMethodDescriptor y.desc = some meth.sig)) = true) : (Jvm.Cond.code y bytes mx rt).before a s = true := by
  simp only [Bool.and_eq_true, beq_iff_eq, Bool.not_eq_true', decide_eq_true_eq] at h5
  obtain ⟨⟨⟨⟨⟨g1, g2⟩, g3⟩, g4⟩, g5⟩, g6⟩ := h5
  simp [Cond.before, Cond.holds, Cond.value, h1, h2, h3, h4, g1, g2, g3, g4, g5, g6]
def isCode : Jvm.Cond → Bool
  | .code _ _ _ _ => true
  | _ => false
theorem all_split {L : List Jvm.Cond} {P : Jvm.Cond → Bool} (h1 : L.all (fun c => isCode c || P c) = true) (h2 : ∀ c ∈ L.filter isCode, P c = true) : L.all P = true := by
  refine List.all_eq_true.mpr fun c hc => ?_
  have h := List.all_eq_true.mp h1 c hc
  rcases Bool.eq_false_or_eq_true (isCode c) with hi | hi
  · exact h2 c (List.mem_filter.mpr ⟨hc, hi⟩)
  · simpa [hi] using h
set_option maxRecDepth 65536 in
theorem w_c0 : (Jvm.Cond.code x code maxLocals ret).before args0 about1 = true := code_word (m := ⟨1, 3⟩) (meth := k1m3) (c := k1c3) (by decide +kernel) rfl rfl rfl (by decide +kernel)
set_option maxRecDepth 65536 in
theorem w_c1 : (Jvm.Cond.code ({ cls := "com/example/kvasir/kvasir/jpql/InputParameterNamedPinLaw", name := "text", desc := "(CCCI)Ljava/lang/String;" } : Jvm.MethodName) method_2_code (4 : Nat) (Option.some (Jvm.ClassFile.FieldType.object "java/lang/String"))).before args0 about1 = true := code_word (m := ⟨1, 1⟩) (meth := k1m1) (c := k1c1) (by decide +kernel) rfl rfl rfl (by decide +kernel)
set_option maxRecDepth 65536 in
theorem w_c2 : (Jvm.Cond.code ({ cls := "java/lang/String", name := "<init>", desc := "([C)V" } : Jvm.MethodName) jdk_42_method_3_code (2 : Nat) (Option.none : Option Jvm.ClassFile.FieldType)).before args0 about1 = true := code_word (m := ⟨7, 1⟩) (meth := k7m1) (c := k7c1) (by decide +kernel) rfl rfl rfl (by decide +kernel)
set_option maxRecDepth 65536 in
theorem w_c3 : (Jvm.Cond.code ({ cls := "java/lang/String", name := "<init>", desc := "([CIILjava/lang/Void;)V" } : Jvm.MethodName) jdk_42_method_149_code (6 : Nat) (Option.none : Option Jvm.ClassFile.FieldType)).before args0 about1 = true := code_word (m := ⟨7, 6⟩) (meth := k7m6) (c := k7c6) (by decide +kernel) rfl rfl rfl (by decide +kernel)
set_option maxRecDepth 65536 in
theorem w_c4 : (Jvm.Cond.code ({ cls := "java/lang/Object", name := "<init>", desc := "()V" } : Jvm.MethodName) object_method_1_code (1 : Nat) (Option.none : Option Jvm.ClassFile.FieldType)).before args0 about1 = true := code_word (m := ⟨0, 0⟩) (meth := k0m0) (c := k0c0) (by decide +kernel) rfl rfl rfl (by decide +kernel)
set_option maxRecDepth 65536 in
theorem w_c5 : (Jvm.Cond.code ({ cls := "com/example/kvasir/kvasir/jpql/InputParameterNamedPinLaw", name := "colonText", desc := "(CCCI)Ljava/lang/String;" } : Jvm.MethodName) method_3_code (4 : Nat) (Option.some (Jvm.ClassFile.FieldType.object "java/lang/String"))).before args0 about1 = true := code_word (m := ⟨1, 2⟩) (meth := k1m2) (c := k1c2) (by decide +kernel) rfl rfl rfl (by decide +kernel)
set_option maxRecDepth 65536 in
theorem w_c6 : (Jvm.Cond.code ({ cls := "java/lang/StringUTF16", name := "compress", desc := "([CII)[B" } : Jvm.MethodName) jdk_52_method_16_code (6 : Nat) (Option.some (Jvm.ClassFile.FieldType.array Jvm.ClassFile.FieldType.byte))).before args0 about1 = true := code_word (m := ⟨8, 2⟩) (meth := k8m2) (c := k8c2) (by decide +kernel) rfl rfl rfl (by decide +kernel)
set_option maxRecDepth 65536 in
theorem w_c7 : (Jvm.Cond.code ({ cls := "java/lang/StringUTF16", name := "compress", desc := "([CI[BII)I" } : Jvm.MethodName) jdk_52_method_21_code (7 : Nat) (Option.some Jvm.ClassFile.FieldType.int)).before args0 about1 = true := code_word (m := ⟨8, 3⟩) (meth := k8m3) (c := k8c3) (by decide +kernel) rfl rfl rfl (by decide +kernel)
set_option maxRecDepth 65536 in
theorem w_c8 : (Jvm.Cond.code ({ cls := "java/lang/StringUTF16", name := "coderFromArrayLen", desc := "([BI)B" } : Jvm.MethodName) jdk_52_method_15_code (2 : Nat) (Option.some Jvm.ClassFile.FieldType.byte)).before args0 about1 = true := code_word (m := ⟨8, 1⟩) (meth := k8m1) (c := k8c1) (by decide +kernel) rfl rfl rfl (by decide +kernel)
set_option maxRecDepth 65536 in
theorem w_c9 : (Jvm.Cond.code ({ cls := "com/example/kvasir/kvasir/jpql/Position", name := "<init>", desc := "(II)V" } : Jvm.MethodName) prog_61_method_1_code (3 : Nat) (Option.none : Option Jvm.ClassFile.FieldType)).before args0 about1 = true := code_word (m := ⟨9, 0⟩) (meth := k9m0) (c := k9c0) (by decide +kernel) rfl rfl rfl (by decide +kernel)
set_option maxRecDepth 65536 in
theorem w_c10 : (Jvm.Cond.code ({ cls := "com/example/kvasir/kvasir/jpql/InputParameter", name := "named", desc := "(Ljava/lang/String;ZLcom/example/kvasir/kvasir/jpql/Position;)Lcom/example/kvasir/kvasir/jpql/InputParameter;" } : Jvm.MethodName) prog_39_method_2_code (3 : Nat) (Option.some (Jvm.ClassFile.FieldType.object "com/example/kvasir/kvasir/jpql/InputParameter"))).before args0 about1 = true := code_word (m := ⟨11, 1⟩) (meth := k11m1) (c := k11c1) (by decide +kernel) rfl rfl rfl (by decide +kernel)
set_option maxRecDepth 65536 in
theorem w_c11 : (Jvm.Cond.code ({ cls := "com/example/kvasir/kvasir/jpql/InputParameter", name := "<init>", desc := "(Ljava/lang/String;IZLcom/example/kvasir/kvasir/jpql/Position;)V" } : Jvm.MethodName) prog_39_method_1_code (5 : Nat) (Option.none : Option Jvm.ClassFile.FieldType)).before args0 about1 = true := code_word (m := ⟨11, 0⟩) (meth := k11m0) (c := k11c0) (by decide +kernel) rfl rfl rfl (by decide +kernel)
set_option maxRecDepth 65536 in
theorem w_c12 : (Jvm.Cond.code ({ cls := "com/example/kvasir/kvasir/jpql/Expression", name := "<init>", desc := "(Lcom/example/kvasir/kvasir/jpql/Position;)V" } : Jvm.MethodName) prog_31_method_1_code (2 : Nat) (Option.none : Option Jvm.ClassFile.FieldType)).before args0 about1 = true := code_word (m := ⟨10, 0⟩) (meth := k10m0) (c := k10c0) (by decide +kernel) rfl rfl rfl (by decide +kernel)
set_option maxRecDepth 65536 in
theorem w_c13 : (Jvm.Cond.code ({ cls := "com/example/kvasir/kvasir/jpql/InputParameter", name := "getName", desc := "()Ljava/lang/String;" } : Jvm.MethodName) prog_39_method_4_code (1 : Nat) (Option.some (Jvm.ClassFile.FieldType.object "java/lang/String"))).before args0 about1 = true := code_word (m := ⟨11, 2⟩) (meth := k11m2) (c := k11c2) (by decide +kernel) rfl rfl rfl (by decide +kernel)
set_option maxRecDepth 65536 in
theorem w_c14 : (Jvm.Cond.code ({ cls := "com/example/kvasir/kvasir/jpql/InputParameter", name := "toString", desc := "()Ljava/lang/String;" } : Jvm.MethodName) prog_39_method_13_code (1 : Nat) (Option.some (Jvm.ClassFile.FieldType.object "java/lang/String"))).before args0 about1 = true := code_word (m := ⟨11, 8⟩) (meth := k11m8) (c := k11c8) (by decide +kernel) rfl rfl rfl (by decide +kernel)
set_option maxRecDepth 65536 in
theorem w_c15 : (Jvm.Cond.code ({ cls := "java/lang/StringBuilder", name := "<init>", desc := "()V" } : Jvm.MethodName) jdk_67_method_1_code (1 : Nat) (Option.none : Option Jvm.ClassFile.FieldType)).before args0 about1 = true := code_word (m := ⟨14, 0⟩) (meth := k14m0) (c := k14c0) (by decide +kernel) rfl rfl rfl (by decide +kernel)
set_option maxRecDepth 65536 in
theorem w_c16 : (Jvm.Cond.code ({ cls := "java/lang/AbstractStringBuilder", name := "<init>", desc := "(I)V" } : Jvm.MethodName) jdk_68_method_2_code (2 : Nat) (Option.none : Option Jvm.ClassFile.FieldType)).before args0 about1 = true := code_word (m := ⟨13, 1⟩) (meth := k13m1) (c := k13c1) (by decide +kernel) rfl rfl rfl (by decide +kernel)
set_option maxRecDepth 65536 in
theorem w_c17 : (Jvm.Cond.code ({ cls := "java/lang/StringBuilder", name := "append", desc := "(Ljava/lang/String;)Ljava/lang/StringBuilder;" } : Jvm.MethodName) jdk_67_method_7_code (2 : Nat) (Option.some (Jvm.ClassFile.FieldType.object "java/lang/StringBuilder"))).before args0 about1 = true := code_word (m := ⟨14, 1⟩) (meth := k14m1) (c := k14c1) (by decide +kernel) rfl rfl rfl (by decide +kernel)
set_option maxRecDepth 65536 in
theorem w_c18 : (Jvm.Cond.code ({ cls := "java/lang/AbstractStringBuilder", name := "append", desc := "(Ljava/lang/String;)Ljava/lang/AbstractStringBuilder;" } : Jvm.MethodName) jdk_68_method_22_code (3 : Nat) (Option.some (Jvm.ClassFile.FieldType.object "java/lang/AbstractStringBuilder"))).before args0 about1 = true := code_word (m := ⟨13, 4⟩) (meth := k13m4) (c := k13c4) (by decide +kernel) rfl rfl rfl (by decide +kernel)
set_option maxRecDepth 65536 in
theorem w_c19 : (Jvm.Cond.code ({ cls := "java/lang/String", name := "length", desc := "()I" } : Jvm.MethodName) jdk_42_method_54_code (1 : Nat) (Option.some Jvm.ClassFile.FieldType.int)).before args0 about1 = true := code_word (m := ⟨7, 3⟩) (meth := k7m3) (c := k7c3) (by decide +kernel) rfl rfl rfl (by decide +kernel)
set_option maxRecDepth 65536 in
theorem w_c20 : (Jvm.Cond.code ({ cls := "java/lang/String", name := "coder", desc := "()B" } : Jvm.MethodName) jdk_42_method_152_code (1 : Nat) (Option.some Jvm.ClassFile.FieldType.byte)).before args0 about1 = true := code_word (m := ⟨7, 8⟩) (meth := k7m8) (c := k7c8) (by decide +kernel) rfl rfl rfl (by decide +kernel)
set_option maxRecDepth 65536 in
theorem w_c21 : (Jvm.Cond.code ({ cls := "java/lang/AbstractStringBuilder", name := "ensureCapacityInternal", desc := "(I)V" } : Jvm.MethodName) jdk_68_method_9_code (3 : Nat) (Option.none : Option Jvm.ClassFile.FieldType)).before args0 about1 = true := code_word (m := ⟨13, 3⟩) (meth := k13m3) (c := k13c3) (by decide +kernel) rfl rfl rfl (by decide +kernel)
set_option maxRecDepth 65536 in
theorem w_c22 : (Jvm.Cond.code ({ cls := "java/lang/AbstractStringBuilder", name := "putStringAt", desc := "(ILjava/lang/String;)V" } : Jvm.MethodName) jdk_68_method_73_code (3 : Nat) (Option.none : Option Jvm.ClassFile.FieldType)).before args0 about1 = true := code_word (m := ⟨13, 8⟩) (meth := k13m8) (c := k13c8) (by decide +kernel) rfl rfl rfl (by decide +kernel)
set_option maxRecDepth 65536 in
theorem w_c23 : (Jvm.Cond.code ({ cls := "java/lang/AbstractStringBuilder", name := "inflateIfNeededFor", desc := "(Ljava/lang/String;)V" } : Jvm.MethodName) jdk_68_method_71_code (2 : Nat) (Option.none : Option Jvm.ClassFile.FieldType)).before args0 about1 = true := code_word (m := ⟨13, 7⟩) (meth := k13m7) (c := k13c7) (by decide +kernel) rfl rfl rfl (by decide +kernel)
set_option maxRecDepth 65536 in
theorem w_c24 : (Jvm.Cond.code ({ cls := "java/lang/String", name := "getBytes", desc := "([BIB)V" } : Jvm.MethodName) jdk_42_method_147_code (4 : Nat) (Option.none : Option Jvm.ClassFile.FieldType)).before args0 about1 = true := code_word (m := ⟨7, 5⟩) (meth := k7m5) (c := k7c5) (by decide +kernel) rfl rfl rfl (by decide +kernel)
set_option maxRecDepth 65536 in
theorem w_c25 : (Jvm.Cond.code ({ cls := "java/lang/StringBuilder", name := "toString", desc := "()Ljava/lang/String;" } : Jvm.MethodName) jdk_67_method_42_code (1 : Nat) (Option.some (Jvm.ClassFile.FieldType.object "java/lang/String"))).before args0 about1 = true := code_word (m := ⟨14, 2⟩) (meth := k14m2) (c := k14c2) (by decide +kernel) rfl rfl rfl (by decide +kernel)
set_option maxRecDepth 65536 in
theorem w_c26 : (Jvm.Cond.code ({ cls := "java/lang/String", name := "<init>", desc := "(Ljava/lang/StringBuilder;)V" } : Jvm.MethodName) jdk_42_method_53_code (2 : Nat) (Option.none : Option Jvm.ClassFile.FieldType)).before args0 about1 = true := code_word (m := ⟨7, 2⟩) (meth := k7m2) (c := k7c2) (by decide +kernel) rfl rfl rfl (by decide +kernel)
set_option maxRecDepth 65536 in
theorem w_c27 : (Jvm.Cond.code ({ cls := "java/lang/String", name := "<init>", desc := "(Ljava/lang/AbstractStringBuilder;Ljava/lang/Void;)V" } : Jvm.MethodName) jdk_42_method_150_code (5 : Nat) (Option.none : Option Jvm.ClassFile.FieldType)).before args0 about1 = true := code_word (m := ⟨7, 7⟩) (meth := k7m7) (c := k7c7) (by decide +kernel) rfl rfl rfl (by decide +kernel)
set_option maxRecDepth 65536 in
theorem w_c28 : (Jvm.Cond.code ({ cls := "java/lang/AbstractStringBuilder", name := "getValue", desc := "()[B" } : Jvm.MethodName) jdk_68_method_64_code (1 : Nat) (Option.some (Jvm.ClassFile.FieldType.array Jvm.ClassFile.FieldType.byte))).before args0 about1 = true := code_word (m := ⟨13, 5⟩) (meth := k13m5) (c := k13c5) (by decide +kernel) rfl rfl rfl (by decide +kernel)
set_option maxRecDepth 65536 in
theorem w_c29 : (Jvm.Cond.code ({ cls := "java/lang/StringBuilder", name := "length", desc := "()I" } : Jvm.MethodName) jdk_67_method_93_code (1 : Nat) (Option.some Jvm.ClassFile.FieldType.int)).before args0 about1 = true := code_word (m := ⟨14, 3⟩) (meth := k14m3) (c := k14c3) (by decide +kernel) rfl rfl rfl (by decide +kernel)
set_option maxRecDepth 65536 in
theorem w_c30 : (Jvm.Cond.code ({ cls := "java/lang/AbstractStringBuilder", name := "length", desc := "()I" } : Jvm.MethodName) jdk_68_method_6_code (1 : Nat) (Option.some Jvm.ClassFile.FieldType.int)).before args0 about1 = true := code_word (m := ⟨13, 2⟩) (meth := k13m2) (c := k13c2) (by decide +kernel) rfl rfl rfl (by decide +kernel)
set_option maxRecDepth 65536 in
theorem w_c31 : (Jvm.Cond.code ({ cls := "java/lang/AbstractStringBuilder", name := "isLatin1", desc := "()Z" } : Jvm.MethodName) jdk_68_method_68_code (1 : Nat) (Option.some Jvm.ClassFile.FieldType.boolean)).before args0 about1 = true := code_word (m := ⟨13, 6⟩) (meth := k13m6) (c := k13c6) (by decide +kernel) rfl rfl rfl (by decide +kernel)
set_option maxRecDepth 65536 in
theorem w_c32 : (Jvm.Cond.code ({ cls := "java/util/Arrays", name := "copyOfRange", desc := "([BII)[B" } : Jvm.MethodName) jdk_65_method_132_code (3 : Nat) (Option.some (Jvm.ClassFile.FieldType.array Jvm.ClassFile.FieldType.byte))).before args0 about1 = true := code_word (m := ⟨16, 2⟩) (meth := k16m2) (c := k16c2) (by decide +kernel) rfl rfl rfl (by decide +kernel)
set_option maxRecDepth 65536 in
theorem w_c33 : (Jvm.Cond.code ({ cls := "java/util/Arrays", name := "copyOfRangeByte", desc := "([BII)[B" } : Jvm.MethodName) jdk_65_method_133_code (5 : Nat) (Option.some (Jvm.ClassFile.FieldType.array Jvm.ClassFile.FieldType.byte))).before args0 about1 = true := code_word (m := ⟨16, 3⟩) (meth := k16m3) (c := k16c3) (by decide +kernel) rfl rfl rfl (by decide +kernel)
set_option maxRecDepth 65536 in
theorem w_c34 : (Jvm.Cond.code ({ cls := "java/util/Arrays", name := "checkLength", desc := "(II)V" } : Jvm.MethodName) jdk_65_method_131_code (2 : Nat) (Option.none : Option Jvm.ClassFile.FieldType)).before args0 about1 = true := code_word (m := ⟨16, 1⟩) (meth := k16m1) (c := k16c1) (by decide +kernel) rfl rfl rfl (by decide +kernel)
set_option maxRecDepth 65536 in
theorem w_c35 : (Jvm.Cond.code ({ cls := "java/lang/Math", name := "min", desc := "(II)I" } : Jvm.MethodName) jdk_29_method_69_code (2 : Nat) (Option.some Jvm.ClassFile.FieldType.int)).before args0 about1 = true := code_word (m := ⟨17, 1⟩) (meth := k17m1) (c := k17c1) (by decide +kernel) rfl rfl rfl (by decide +kernel)
set_option maxRecDepth 65536 in
theorem w_c36 : (Jvm.Cond.code ({ cls := "java/lang/String", name := "equals", desc := "(Ljava/lang/Object;)Z" } : Jvm.MethodName) jdk_42_method_66_code (3 : Nat) (Option.some Jvm.ClassFile.FieldType.boolean)).before args0 about1 = true := code_word (m := ⟨7, 4⟩) (meth := k7m4) (c := k7c4) (by decide +kernel) rfl rfl rfl (by decide +kernel)
set_option maxRecDepth 65536 in
theorem w_c37 : (Jvm.Cond.code ({ cls := "com/example/kvasir/kvasir/jpql/InputParameter", name := "getNumber", desc := "()I" } : Jvm.MethodName) prog_39_method_5_code (1 : Nat) (Option.some Jvm.ClassFile.FieldType.int)).before args0 about1 = true := code_word (m := ⟨11, 3⟩) (meth := k11m3) (c := k11c3) (by decide +kernel) rfl rfl rfl (by decide +kernel)
set_option maxRecDepth 65536 in
theorem w_c38 : (Jvm.Cond.code ({ cls := "com/example/kvasir/kvasir/jpql/InputParameter", name := "isCollectionValued", desc := "()Z" } : Jvm.MethodName) prog_39_method_6_code (1 : Nat) (Option.some Jvm.ClassFile.FieldType.boolean)).before args0 about1 = true := code_word (m := ⟨11, 4⟩) (meth := k11m4) (c := k11c4) (by decide +kernel) rfl rfl rfl (by decide +kernel)
set_option maxRecDepth 65536 in
theorem w_c39 : (Jvm.Cond.code ({ cls := "com/example/kvasir/kvasir/jpql/Expression", name := "getPosition", desc := "()Lcom/example/kvasir/kvasir/jpql/Position;" } : Jvm.MethodName) prog_31_method_2_code (1 : Nat) (Option.some (Jvm.ClassFile.FieldType.object "com/example/kvasir/kvasir/jpql/Position"))).before args0 about1 = true := code_word (m := ⟨10, 1⟩) (meth := k10m1) (c := k10c1) (by decide +kernel) rfl rfl rfl (by decide +kernel)
set_option maxRecDepth 65536 in
theorem w_c40 : (Jvm.Cond.code ({ cls := "com/example/kvasir/kvasir/jpql/InputParameter", name := "isBound", desc := "()Z" } : Jvm.MethodName) prog_39_method_7_code (1 : Nat) (Option.some Jvm.ClassFile.FieldType.boolean)).before args0 about1 = true := code_word (m := ⟨11, 5⟩) (meth := k11m5) (c := k11c5) (by decide +kernel) rfl rfl rfl (by decide +kernel)
set_option maxRecDepth 65536 in
theorem w_c41 : (Jvm.Cond.code ({ cls := "com/example/kvasir/kvasir/jpql/InputParameter", name := "getValue", desc := "()Ljava/lang/Object;" } : Jvm.MethodName) prog_39_method_8_code (1 : Nat) (Option.some (Jvm.ClassFile.FieldType.object "java/lang/Object"))).before args0 about1 = true := code_word (m := ⟨11, 6⟩) (meth := k11m6) (c := k11c6) (by decide +kernel) rfl rfl rfl (by decide +kernel)
set_option maxRecDepth 65536 in
theorem w_c42 : (Jvm.Cond.code ({ cls := "com/example/kvasir/kvasir/jpql/InputParameter", name := "getMembers", desc := "()Ljava/util/List;" } : Jvm.MethodName) prog_39_method_9_code (1 : Nat) (Option.some (Jvm.ClassFile.FieldType.object "java/util/List"))).before args0 about1 = true := code_word (m := ⟨11, 7⟩) (meth := k11m7) (c := k11c7) (by decide +kernel) rfl rfl rfl (by decide +kernel)
set_option maxRecDepth 65536 in
theorem w_c43 : (Jvm.Cond.code ({ cls := "java/lang/StringLatin1", name := "equals", desc := "([B[B)Z" } : Jvm.MethodName) jdk_43_method_13_code (3 : Nat) (Option.some Jvm.ClassFile.FieldType.boolean)).before args0 about1 = true := code_word (m := ⟨18, 1⟩) (meth := k18m1) (c := k18c1) (by decide +kernel) rfl rfl rfl (by decide +kernel)
def codes1 : List Jvm.Cond := [Jvm.Cond.code x code maxLocals ret, Jvm.Cond.code ({ cls := "com/example/kvasir/kvasir/jpql/InputParameterNamedPinLaw", name := "text", desc := "(CCCI)Ljava/lang/String;" } : Jvm.MethodName) method_2_code (4 : Nat) (Option.some (Jvm.ClassFile.FieldType.object "java/lang/String")), Jvm.Cond.code ({ cls := "java/lang/String", name := "<init>", desc := "([C)V" } : Jvm.MethodName) jdk_42_method_3_code (2 : Nat) (Option.none : Option Jvm.ClassFile.FieldType), Jvm.Cond.code ({ cls := "java/lang/String", name := "<init>", desc := "([CIILjava/lang/Void;)V" } : Jvm.MethodName) jdk_42_method_149_code (6 : Nat) (Option.none : Option Jvm.ClassFile.FieldType), Jvm.Cond.code ({ cls := "java/lang/Object", name := "<init>", desc := "()V" } : Jvm.MethodName) object_method_1_code (1 : Nat) (Option.none : Option Jvm.ClassFile.FieldType), Jvm.Cond.code ({ cls := "com/example/kvasir/kvasir/jpql/InputParameterNamedPinLaw", name := "colonText", desc := "(CCCI)Ljava/lang/String;" } : Jvm.MethodName) method_3_code (4 : Nat) (Option.some (Jvm.ClassFile.FieldType.object "java/lang/String")), Jvm.Cond.code ({ cls := "java/lang/StringUTF16", name := "compress", desc := "([CII)[B" } : Jvm.MethodName) jdk_52_method_16_code (6 : Nat) (Option.some (Jvm.ClassFile.FieldType.array Jvm.ClassFile.FieldType.byte)), Jvm.Cond.code ({ cls := "java/lang/StringUTF16", name := "compress", desc := "([CI[BII)I" } : Jvm.MethodName) jdk_52_method_21_code (7 : Nat) (Option.some Jvm.ClassFile.FieldType.int), Jvm.Cond.code ({ cls := "java/lang/StringUTF16", name := "coderFromArrayLen", desc := "([BI)B" } : Jvm.MethodName) jdk_52_method_15_code (2 : Nat) (Option.some Jvm.ClassFile.FieldType.byte), Jvm.Cond.code ({ cls := "com/example/kvasir/kvasir/jpql/Position", name := "<init>", desc := "(II)V" } : Jvm.MethodName) prog_61_method_1_code (3 : Nat) (Option.none : Option Jvm.ClassFile.FieldType), Jvm.Cond.code ({ cls := "com/example/kvasir/kvasir/jpql/InputParameter", name := "named", desc := "(Ljava/lang/String;ZLcom/example/kvasir/kvasir/jpql/Position;)Lcom/example/kvasir/kvasir/jpql/InputParameter;" } : Jvm.MethodName) prog_39_method_2_code (3 : Nat) (Option.some (Jvm.ClassFile.FieldType.object "com/example/kvasir/kvasir/jpql/InputParameter")), Jvm.Cond.code ({ cls := "com/example/kvasir/kvasir/jpql/InputParameter", name := "<init>", desc := "(Ljava/lang/String;IZLcom/example/kvasir/kvasir/jpql/Position;)V" } : Jvm.MethodName) prog_39_method_1_code (5 : Nat) (Option.none : Option Jvm.ClassFile.FieldType), Jvm.Cond.code ({ cls := "com/example/kvasir/kvasir/jpql/Expression", name := "<init>", desc := "(Lcom/example/kvasir/kvasir/jpql/Position;)V" } : Jvm.MethodName) prog_31_method_1_code (2 : Nat) (Option.none : Option Jvm.ClassFile.FieldType), Jvm.Cond.code ({ cls := "com/example/kvasir/kvasir/jpql/InputParameter", name := "getName", desc := "()Ljava/lang/String;" } : Jvm.MethodName) prog_39_method_4_code (1 : Nat) (Option.some (Jvm.ClassFile.FieldType.object "java/lang/String")), Jvm.Cond.code ({ cls := "com/example/kvasir/kvasir/jpql/InputParameter", name := "toString", desc := "()Ljava/lang/String;" } : Jvm.MethodName) prog_39_method_13_code (1 : Nat) (Option.some (Jvm.ClassFile.FieldType.object "java/lang/String")), Jvm.Cond.code ({ cls := "java/lang/StringBuilder", name := "<init>", desc := "()V" } : Jvm.MethodName) jdk_67_method_1_code (1 : Nat) (Option.none : Option Jvm.ClassFile.FieldType), Jvm.Cond.code ({ cls := "java/lang/AbstractStringBuilder", name := "<init>", desc := "(I)V" } : Jvm.MethodName) jdk_68_method_2_code (2 : Nat) (Option.none : Option Jvm.ClassFile.FieldType), Jvm.Cond.code ({ cls := "java/lang/StringBuilder", name := "append", desc := "(Ljava/lang/String;)Ljava/lang/StringBuilder;" } : Jvm.MethodName) jdk_67_method_7_code (2 : Nat) (Option.some (Jvm.ClassFile.FieldType.object "java/lang/StringBuilder")), Jvm.Cond.code ({ cls := "java/lang/AbstractStringBuilder", name := "append", desc := "(Ljava/lang/String;)Ljava/lang/AbstractStringBuilder;" } : Jvm.MethodName) jdk_68_method_22_code (3 : Nat) (Option.some (Jvm.ClassFile.FieldType.object "java/lang/AbstractStringBuilder")), Jvm.Cond.code ({ cls := "java/lang/String", name := "length", desc := "()I" } : Jvm.MethodName) jdk_42_method_54_code (1 : Nat) (Option.some Jvm.ClassFile.FieldType.int), Jvm.Cond.code ({ cls := "java/lang/String", name := "coder", desc := "()B" } : Jvm.MethodName) jdk_42_method_152_code (1 : Nat) (Option.some Jvm.ClassFile.FieldType.byte), Jvm.Cond.code ({ cls := "java/lang/AbstractStringBuilder", name := "ensureCapacityInternal", desc := "(I)V" } : Jvm.MethodName) jdk_68_method_9_code (3 : Nat) (Option.none : Option Jvm.ClassFile.FieldType), Jvm.Cond.code ({ cls := "java/lang/AbstractStringBuilder", name := "putStringAt", desc := "(ILjava/lang/String;)V" } : Jvm.MethodName) jdk_68_method_73_code (3 : Nat) (Option.none : Option Jvm.ClassFile.FieldType), Jvm.Cond.code ({ cls := "java/lang/AbstractStringBuilder", name := "inflateIfNeededFor", desc := "(Ljava/lang/String;)V" } : Jvm.MethodName) jdk_68_method_71_code (2 : Nat) (Option.none : Option Jvm.ClassFile.FieldType), Jvm.Cond.code ({ cls := "java/lang/String", name := "getBytes", desc := "([BIB)V" } : Jvm.MethodName) jdk_42_method_147_code (4 : Nat) (Option.none : Option Jvm.ClassFile.FieldType), Jvm.Cond.code ({ cls := "java/lang/StringBuilder", name := "toString", desc := "()Ljava/lang/String;" } : Jvm.MethodName) jdk_67_method_42_code (1 : Nat) (Option.some (Jvm.ClassFile.FieldType.object "java/lang/String")), Jvm.Cond.code ({ cls := "java/lang/String", name := "<init>", desc := "(Ljava/lang/StringBuilder;)V" } : Jvm.MethodName) jdk_42_method_53_code (2 : Nat) (Option.none : Option Jvm.ClassFile.FieldType), Jvm.Cond.code ({ cls := "java/lang/String", name := "<init>", desc := "(Ljava/lang/AbstractStringBuilder;Ljava/lang/Void;)V" } : Jvm.MethodName) jdk_42_method_150_code (5 : Nat) (Option.none : Option Jvm.ClassFile.FieldType), Jvm.Cond.code ({ cls := "java/lang/AbstractStringBuilder", name := "getValue", desc := "()[B" } : Jvm.MethodName) jdk_68_method_64_code (1 : Nat) (Option.some (Jvm.ClassFile.FieldType.array Jvm.ClassFile.FieldType.byte)), Jvm.Cond.code ({ cls := "java/lang/StringBuilder", name := "length", desc := "()I" } : Jvm.MethodName) jdk_67_method_93_code (1 : Nat) (Option.some Jvm.ClassFile.FieldType.int), Jvm.Cond.code ({ cls := "java/lang/AbstractStringBuilder", name := "length", desc := "()I" } : Jvm.MethodName) jdk_68_method_6_code (1 : Nat) (Option.some Jvm.ClassFile.FieldType.int), Jvm.Cond.code ({ cls := "java/lang/AbstractStringBuilder", name := "isLatin1", desc := "()Z" } : Jvm.MethodName) jdk_68_method_68_code (1 : Nat) (Option.some Jvm.ClassFile.FieldType.boolean), Jvm.Cond.code ({ cls := "java/util/Arrays", name := "copyOfRange", desc := "([BII)[B" } : Jvm.MethodName) jdk_65_method_132_code (3 : Nat) (Option.some (Jvm.ClassFile.FieldType.array Jvm.ClassFile.FieldType.byte)), Jvm.Cond.code ({ cls := "java/util/Arrays", name := "copyOfRangeByte", desc := "([BII)[B" } : Jvm.MethodName) jdk_65_method_133_code (5 : Nat) (Option.some (Jvm.ClassFile.FieldType.array Jvm.ClassFile.FieldType.byte)), Jvm.Cond.code ({ cls := "java/util/Arrays", name := "checkLength", desc := "(II)V" } : Jvm.MethodName) jdk_65_method_131_code (2 : Nat) (Option.none : Option Jvm.ClassFile.FieldType), Jvm.Cond.code ({ cls := "java/lang/Math", name := "min", desc := "(II)I" } : Jvm.MethodName) jdk_29_method_69_code (2 : Nat) (Option.some Jvm.ClassFile.FieldType.int), Jvm.Cond.code ({ cls := "java/lang/String", name := "equals", desc := "(Ljava/lang/Object;)Z" } : Jvm.MethodName) jdk_42_method_66_code (3 : Nat) (Option.some Jvm.ClassFile.FieldType.boolean), Jvm.Cond.code ({ cls := "com/example/kvasir/kvasir/jpql/InputParameter", name := "getNumber", desc := "()I" } : Jvm.MethodName) prog_39_method_5_code (1 : Nat) (Option.some Jvm.ClassFile.FieldType.int), Jvm.Cond.code ({ cls := "com/example/kvasir/kvasir/jpql/InputParameter", name := "isCollectionValued", desc := "()Z" } : Jvm.MethodName) prog_39_method_6_code (1 : Nat) (Option.some Jvm.ClassFile.FieldType.boolean), Jvm.Cond.code ({ cls := "com/example/kvasir/kvasir/jpql/Expression", name := "getPosition", desc := "()Lcom/example/kvasir/kvasir/jpql/Position;" } : Jvm.MethodName) prog_31_method_2_code (1 : Nat) (Option.some (Jvm.ClassFile.FieldType.object "com/example/kvasir/kvasir/jpql/Position")), Jvm.Cond.code ({ cls := "com/example/kvasir/kvasir/jpql/InputParameter", name := "isBound", desc := "()Z" } : Jvm.MethodName) prog_39_method_7_code (1 : Nat) (Option.some Jvm.ClassFile.FieldType.boolean), Jvm.Cond.code ({ cls := "com/example/kvasir/kvasir/jpql/InputParameter", name := "getValue", desc := "()Ljava/lang/Object;" } : Jvm.MethodName) prog_39_method_8_code (1 : Nat) (Option.some (Jvm.ClassFile.FieldType.object "java/lang/Object")), Jvm.Cond.code ({ cls := "com/example/kvasir/kvasir/jpql/InputParameter", name := "getMembers", desc := "()Ljava/util/List;" } : Jvm.MethodName) prog_39_method_9_code (1 : Nat) (Option.some (Jvm.ClassFile.FieldType.object "java/util/List")), Jvm.Cond.code ({ cls := "java/lang/StringLatin1", name := "equals", desc := "([B[B)Z" } : Jvm.MethodName) jdk_43_method_13_code (3 : Nat) (Option.some Jvm.ClassFile.FieldType.boolean)]
set_option maxRecDepth 65536 in
theorem codes_eq : words1.filter isCode = codes1 := rfl
theorem w_codes : ∀ c ∈ words1.filter isCode, c.before args0 about1 = true := by
  rw [codes_eq]
  intro c hc
  simp only [codes1, List.mem_cons, List.not_mem_nil, or_false] at hc
  rcases hc with rfl | rfl | rfl | rfl | rfl | rfl | rfl | rfl | rfl | rfl | rfl | rfl | rfl | rfl | rfl | rfl | rfl | rfl | rfl | rfl | rfl | rfl | rfl | rfl | rfl | rfl | rfl | rfl | rfl | rfl | rfl | rfl | rfl | rfl | rfl | rfl | rfl | rfl | rfl | rfl | rfl | rfl | rfl | rfl
  · exact w_c0
  · exact w_c1
  · exact w_c2
  · exact w_c3
  · exact w_c4
  · exact w_c5
  · exact w_c6
  · exact w_c7
  · exact w_c8
  · exact w_c9
  · exact w_c10
  · exact w_c11
  · exact w_c12
  · exact w_c13
  · exact w_c14
  · exact w_c15
  · exact w_c16
  · exact w_c17
  · exact w_c18
  · exact w_c19
  · exact w_c20
  · exact w_c21
  · exact w_c22
  · exact w_c23
  · exact w_c24
  · exact w_c25
  · exact w_c26
  · exact w_c27
  · exact w_c28
  · exact w_c29
  · exact w_c30
  · exact w_c31
  · exact w_c32
  · exact w_c33
  · exact w_c34
  · exact w_c35
  · exact w_c36
  · exact w_c37
  · exact w_c38
  · exact w_c39
  · exact w_c40
  · exact w_c41
  · exact w_c42
  · exact w_c43
set_option maxRecDepth 65536 in
theorem w_t1 : (words1.take 24).all (fun c => isCode c || c.before args0 about1) = true := by decide +kernel
set_option maxRecDepth 65536 in
theorem w_t2 : ((words1.drop 24).take 24).all (fun c => isCode c || c.before args0 about1) = true := by decide +kernel
set_option maxRecDepth 65536 in
theorem w_t3 : (((words1.drop 24).drop 24).take 24).all (fun c => isCode c || c.before args0 about1) = true := by decide +kernel
set_option maxRecDepth 65536 in
theorem w_t4 : ((((words1.drop 24).drop 24).drop 24).take 24).all (fun c => isCode c || c.before args0 about1) = true := by decide +kernel
set_option maxRecDepth 65536 in
theorem w_t5 : (((((words1.drop 24).drop 24).drop 24).drop 24).take 24).all (fun c => isCode c || c.before args0 about1) = true := by decide +kernel
set_option maxRecDepth 65536 in
theorem w_t6 : ((((((words1.drop 24).drop 24).drop 24).drop 24).drop 24).take 24).all (fun c => isCode c || c.before args0 about1) = true := by decide +kernel
set_option maxRecDepth 65536 in
theorem w_t7 : (((((((words1.drop 24).drop 24).drop 24).drop 24).drop 24).drop 24).take 24).all (fun c => isCode c || c.before args0 about1) = true := by decide +kernel
set_option maxRecDepth 65536 in
theorem w_t8 : ((((((((words1.drop 24).drop 24).drop 24).drop 24).drop 24).drop 24).drop 24).take 24).all (fun c => isCode c || c.before args0 about1) = true := by decide +kernel
set_option maxRecDepth 65536 in
theorem w_t9 : (((((((((words1.drop 24).drop 24).drop 24).drop 24).drop 24).drop 24).drop 24).drop 24).take 24).all (fun c => isCode c || c.before args0 about1) = true := by decide +kernel
set_option maxRecDepth 65536 in
theorem w_t10 : ((((((((((words1.drop 24).drop 24).drop 24).drop 24).drop 24).drop 24).drop 24).drop 24).drop 24).take 24).all (fun c => isCode c || c.before args0 about1) = true := by decide +kernel
set_option maxRecDepth 65536 in
theorem w_t11 : ((((((((((words1.drop 24).drop 24).drop 24).drop 24).drop 24).drop 24).drop 24).drop 24).drop 24).drop 24).all (fun c => isCode c || c.before args0 about1) = true := by decide +kernel
theorem w_tables : (allAtoms (Jvm.Cond.code x code maxLocals ret :: tables_1)).before args0 about1 = true := by
  rw [allAtoms_all]
  show words1.all (fun c => c.before args0 about1) = true
  refine all_split ?_ w_codes
  rw [← List.take_append_drop 24 words1, List.all_append, w_t1, ← List.take_append_drop 24 (words1.drop 24), List.all_append, w_t2, ← List.take_append_drop 24 ((words1.drop 24).drop 24), List.all_append, w_t3, ← List.take_append_drop 24 (((words1.drop 24).drop 24).drop 24), List.all_append, w_t4, ← List.take_append_drop 24 ((((words1.drop 24).drop 24).drop 24).drop 24), List.all_append, w_t5, ← List.take_append_drop 24 (((((words1.drop 24).drop 24).drop 24).drop 24).drop 24), List.all_append, w_t6, ← List.take_append_drop 24 ((((((words1.drop 24).drop 24).drop 24).drop 24).drop 24).drop 24), List.all_append, w_t7, ← List.take_append_drop 24 (((((((words1.drop 24).drop 24).drop 24).drop 24).drop 24).drop 24).drop 24), List.all_append, w_t8, ← List.take_append_drop 24 ((((((((words1.drop 24).drop 24).drop 24).drop 24).drop 24).drop 24).drop 24).drop 24), List.all_append, w_t9, ← List.take_append_drop 24 (((((((((words1.drop 24).drop 24).drop 24).drop 24).drop 24).drop 24).drop 24).drop 24).drop 24), List.all_append, w_t10, w_t11]
  rfl
set_option maxRecDepth 65536 in
theorem w_rest : rest_1_c.before args0 about1 = true := by decide +kernel
set_option maxRecDepth 65536 in
theorem w_case : (Jvm.Cond.and given_1 narrow_1).before args0 about1 = true := by decide +kernel
set_option maxRecDepth 65536 in
theorem w_consts : constsHeld consts_1 about1 := Jvm.Lit.constsHeldB_iff.mp (by decide +kernel)
theorem w_applies : (headSpec (Jvm.Cond.code x code maxLocals ret :: tables_1) room_1).applies x e0.platform about1 = true :=
  (Spec.applies_iff w_frames).mpr ⟨w_running, w_runnable, w_alone, w_named, w_hears, w_ripe, w_room, w_tables⟩
theorem atStart : AtStart classFile x code maxLocals ret World_1 tables_1 room_1 Calls_1 rest_1 Pre_1 launch0 p0 e0 about1 theMethod args0 below0 :=
  ⟨lists_1, trivial, launch0.admits_env _ _ _, launch0.least_env, fairChoices_fair.cas, fairChoices_fair.clock, w_frames, w_args, w_heap, w_applies, ⟨w_consts, trivial⟩, w_rest, w_case⟩
end start1
theorem witness_1 : WitnessClaimed_1 := ⟨start1.p0, start1.e0, start1.about1, start1.theMethod, start1.args0, start1.below0, start1.atStart⟩
end Jvm.Pilot.@@N@@
