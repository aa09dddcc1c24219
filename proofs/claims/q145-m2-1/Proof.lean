import JvmDerived
import JvmDerived.Pilot.@@N@@Statement
import JvmDerived.Pilot.@@N@@Code
set_option linter.unusedVariables false
set_option linter.unusedSimpArgs false
/- laws to paste: StrChars.shr0, StrChars.shr1, StrChars.pair_says, StrChars.chr8_lo8, StrChars.narrow_ch, Road.wide_lo, Road.wide_hi, Road.low_at, Road.CodA, Road.codOf, Road.backV, Road.lenW (cut by pick.py; bodies as the Statement names them) -/
namespace Jvm.Pilot.@@N@@
namespace StrChars
open Jvm Sem ClassFile Op Lib Jvm.Stand Jvm.Free.XT Jvm.Free.ALB Jvm.Free.JM Jvm.Free
open Jvm.Lib.Cold (StaticIs)
/-- a char array whose places are chars -/
def Ch (a : Addr) (A : Cell) (U : State) : Prop := Arr .char a A U ∧ Typed .char A
theorem Ch.mv {a : Addr} {A : Cell} {U U' : State} (h : Ch a A U) (hal : U.vm.Alike U'.vm) (hh : U'.heap = U.heap) : Ch a A U' := ⟨h.1.mv hal hh, h.2⟩
theorem Ch.keep {a : Addr} {A : Cell} {U U' : State} (h : Ch a A U) (hal : U.vm.Alike U'.vm) (hk : U'.heap[a]? = some A) : Ch a A U' := ⟨h.1.keep hal hk, h.2⟩
/-- what place i of a char[]'s cell holds -/
def cv (A : Cell) (i : Nat) : Int32 := match A.slots[i]? with | some (.int x) => x | _ => 0
theorem Ch.get {a : Addr} {A : Cell} {U : State} (h : Ch a A U) {i : Nat} (hi : i < A.slots.size) : A.slots[i]? = some (.int (cv A i)) := by
  have e := Array.getElem?_eq_getElem hi
  have f := h.2 i _ e
  unfold cv; rw [e]
  generalize A.slots[i] = v at f
  cases v <;> simp [fits] at f ⊢
/-- the byte that i2b leaves of a char -/
def lo8 (x : Int32) : Int32 := x.toInt8.toInt32
theorem fits_lo8 (y : Int32) : fits .byte (.int (lo8 y)) = true := by
  have h1 := y.toInt8.le_toInt
  have h2 := y.toInt8.toInt_lt
  simp only [lo8, fits, Bool.and_eq_true, decide_eq_true_eq, Int32.le_iff_toInt_le, Int8.toInt_toInt32, show (-128 : Int32).toInt = -128 from by decide, show (127 : Int32).toInt = 127 from by decide]
  omega
/-- A' is A but that each place j of lo .. hi - 1 holds f j -/
def Laid (A A' : Cell) (lo hi : Nat) (f : Nat → Value) : Prop := A'.cls = A.cls ∧ A'.vm = A.vm ∧ A'.slots.size = A.slots.size ∧ ∀ i, A'.slots[i]? = if lo ≤ i ∧ i < hi then some (f i) else A.slots[i]?
theorem Laid.zero (A : Cell) (lo : Nat) (f : Nat → Value) : Laid A A lo (lo + 0) f := ⟨rfl, rfl, rfl, fun i => by rw [if_neg (by omega)]⟩
theorem Laid.step {A Ak : Cell} {lo k : Nat} {f : Nat → Value} {v : Value} (h : Laid A Ak lo k f) (hlo : lo ≤ k) (hk : k < Ak.slots.size) (hv : v = f k) : Laid A (Ak.setSlot k v) lo (k + 1) f := by
  refine ⟨h.1, h.2.1, by simpa [Cell.setSlot] using h.2.2.1, fun i => ?_⟩
  by_cases e : k = i
  · subst e; rw [Cell.slots_setSlot_self v hk, if_pos (by omega), hv]
  · rw [Cell.slots_setSlot_ne v e, h.2.2.2 i]
    by_cases q : lo ≤ i ∧ i < k
    · rw [if_pos q, if_pos (by omega)]
    · rw [if_neg q, if_neg (by omega)]
def U16 : String := "java/lang/StringUTF16"
namespace Cmp5
def yN : MethodName := ⟨"java/lang/StringUTF16", "compress", "([CI[BII)I"⟩
abbrev yB : ByteArray := jdk_52_method_21_code
theorem d0 : decode yB 0 = .ok (.iconst 0, 1) := by decide +kernel
theorem d1 : decode yB 1 = .ok (.istore 5, 2) := by decide +kernel
theorem d3 : decode yB 3 = .ok (.iload 5, 2) := by decide +kernel
theorem d5 : decode yB 5 = .ok (.iload 4, 2) := by decide +kernel
theorem d7 : decode yB 7 = .ok (.if_icmp (.ge) 37, 3) := by decide +kernel
theorem d10 : decode yB 10 = .ok (.aload_n 0, 1) := by decide +kernel
theorem d11 : decode yB 11 = .ok (.iload_n 1, 1) := by decide +kernel
theorem d12 : decode yB 12 = .ok (.caload, 1) := by decide +kernel
theorem d13 : decode yB 13 = .ok (.istore 6, 2) := by decide +kernel
theorem d15 : decode yB 15 = .ok (.iload 6, 2) := by decide +kernel
theorem d17 : decode yB 17 = .ok (.sipush 255, 3) := by decide +kernel
theorem d20 : decode yB 20 = .ok (.if_icmp (.le) 6, 3) := by decide +kernel
theorem d26 : decode yB 26 = .ok (.aload_n 2, 1) := by decide +kernel
theorem d27 : decode yB 27 = .ok (.iload_n 3, 1) := by decide +kernel
theorem d28 : decode yB 28 = .ok (.iload 6, 2) := by decide +kernel
theorem d30 : decode yB 30 = .ok (.i2b, 1) := by decide +kernel
theorem d31 : decode yB 31 = .ok (.bastore, 1) := by decide +kernel
theorem d32 : decode yB 32 = .ok (.iinc 1 1, 3) := by decide +kernel
theorem d35 : decode yB 35 = .ok (.iinc 3 1, 3) := by decide +kernel
theorem d38 : decode yB 38 = .ok (.iinc 5 1, 3) := by decide +kernel
theorem d41 : decode yB 41 = .ok (.goto (-38), 3) := by decide +kernel
theorem d44 : decode yB 44 = .ok (.iload 4, 2) := by decide +kernel
theorem d46 : decode yB 46 = .ok (.ireturn, 1) := by decide +kernel
def site : List Cond := []
def tab : Cond := tabOf yN yB 7 (some .int) site
def P (b : Addr) (A : Cell) (d : Addr) (B : Cell) (o q len : Nat) (args : Array Value) (s : State) : Prop := args = #[.ref b, .int (Int32.ofNat o), .ref d, .int (Int32.ofNat q), .int (Int32.ofNat len)] ∧ Ch b A s ∧ Arr .byte d B s ∧ b ≠ d ∧ o + len ≤ A.slots.size ∧ q + len ≤ B.slots.size ∧ ∀ i, i < len → ¬ 255 < cv A (o + i)
def E (b : Addr) (A : Cell) (d : Addr) (B : Cell) (o q len : Nat) (r : Option Value) (s u : State) : Prop := r = some (.int (Int32.ofNat len)) ∧ ∃ B', Put d B' s u ∧ Laid B B' q (q + len) (fun j => Value.int (lo8 (cv A (o + (j - q)))))
/-- no char of the range above 255: len; the places written hold each char's low byte -/
theorem law (l : Launch) (b : Addr) (A : Cell) (d : Addr) (B : Cell) (o q len : Nat) : Law l yN 5 5 0 0 yB 7 (some .int) site (P b A d B o q len) (E b A d B o q len) (copyLocs d q len) 0 0 := by
  refine Law.of_walk (plainFor_of_name (by decide +kernel)) (by decide +kernel) (by decide +kernel) (by decide) (fun _ _ h => by rw [h.1]; rfl) (fun _ U U' hal hh h => ⟨h.1, h.2.1.mv hal hh, h.2.2.1.mv hal hh, h.2.2.2⟩) (fun r U U' V V' h1 hal h2 h => ⟨h.1, h.2.elim fun B' q => ⟨B', q.1.mv h1 h2, q.2⟩⟩) ?_
  intro p e s m args below meth c s₁ X0 hexec hbytes hml hret hlk hnm hown hh0 W hP
  obtain ⟨rfl, hA, hB, hne, l1, l2, hp⟩ := hP
  have c1 : Steps p.tables e below (s₁.setTop (entryFrame m #[.ref b, .int (Int32.ofNat o), .ref d, .int (Int32.ofNat q), .int (Int32.ofNat len)] 7)) (s₁.setTop (mkF m 0 #[.val (.ref b), .val (.int (Int32.ofNat o)), .val (.ref d), .val (.int (Int32.ofNat q)), .val (.int (Int32.ofNat len)), .unset, .unset] [])) := entry rfl
  have hA0 := hA.1.mv X0.warmed.alike hh0
  have hB0 := hB.mv X0.warmed.alike hh0
  have a31 := hA.1.2.2.2
  have c2 : Steps p.tables e below (s₁.setTop (entryFrame m #[.ref b, .int (Int32.ofNat o), .ref d, .int (Int32.ofNat q), .int (Int32.ofNat len)] 7)) (s₁.setTop (mkF m 3 #[.val (.ref b), .val (.int (Int32.ofNat o)), .val (.ref d), .val (.int (Int32.ofNat q)), .val (.int (Int32.ofNat len)), .val (.int 0), .unset] [])) := c1.trans (by
    refine iconstV X0.here hexec rfl 0 (hb hbytes d0) (by decide) ?_
    refine XS.istore X0.here hexec rfl (hb hbytes d1) rfl rfl ?_
    exact Steps.refl _)
  have loop : ∀ (r i : Nat), i + r = len → ∀ (z : Slot), (z = .unset ∨ ∃ w, z = .val w ∧ w.category = 1) → ∀ (Tl : State) (Bk : Cell), Stand p l e { frames := 0, locals := 0, cells := 0, slots := 0 } s m #[.ref b, .int (Int32.ofNat o), .ref d, .int (Int32.ofNat q), .int (Int32.ofNat len)] below meth c Tl ([] ++ copyLocs d q i) 0 0 → Put d Bk s₁ Tl → Laid B Bk q (q + i) (fun j => Value.int (lo8 (cv A (o + (j - q))))) →
      Steps p.tables e below (s₁.setTop (entryFrame m #[.ref b, .int (Int32.ofNat o), .ref d, .int (Int32.ofNat q), .int (Int32.ofNat len)] 7)) (Tl.setTop (mkF m 3 #[.val (.ref b), .val (.int (Int32.ofNat (o + i))), .val (.ref d), .val (.int (Int32.ofNat (q + i))), .val (.int (Int32.ofNat len)), .val (.int (Int32.ofNat i)), z] [])) → ∃ (T' : State) (B' : Cell) (z' : Slot), Stand p l e { frames := 0, locals := 0, cells := 0, slots := 0 } s m #[.ref b, .int (Int32.ofNat o), .ref d, .int (Int32.ofNat q), .int (Int32.ofNat len)] below meth c T' ([] ++ copyLocs d q len) 0 0 ∧ Put d B' s₁ T' ∧ Laid B B' q (q + len) (fun j => Value.int (lo8 (cv A (o + (j - q))))) ∧
      Steps p.tables e below (s₁.setTop (entryFrame m #[.ref b, .int (Int32.ofNat o), .ref d, .int (Int32.ofNat q), .int (Int32.ofNat len)] 7)) (T'.setTop (mkF m 3 #[.val (.ref b), .val (.int (Int32.ofNat (o + len))), .val (.ref d), .val (.int (Int32.ofNat (q + len))), .val (.int (Int32.ofNat len)), .val (.int (Int32.ofNat len)), z'] [])) := by
    intro r
    induction r with
    | zero =>
      intro i hi z hz Tl Bk Xl pl fl cl
      have hil : i = len := by omega
      rw [hil] at Xl fl cl
      exact ⟨Tl, Bk, z, Xl, pl, fl, cl⟩
    | succ r ih =>
      intro i hi z hz Tl Bk Xl pl fl cl
      have all := X0.warmed.alike.symm.trans Xl.warmed.alike
      have hAl := hA0.keep all (pl.other hne hA0.1)
      have hBk := hB0.like all pl.1 fl.1 fl.2.1 fl.2.2.1
      have hlt : q + i < Bk.slots.size := by rw [fl.2.2.1]; omega
      have c3 : Steps p.tables e below (s₁.setTop (entryFrame m #[.ref b, .int (Int32.ofNat o), .ref d, .int (Int32.ofNat q), .int (Int32.ofNat len)] 7)) (Tl.setTop (mkF m 12 #[.val (.ref b), .val (.int (Int32.ofNat (o + i))), .val (.ref d), .val (.int (Int32.ofNat (q + i))), .val (.int (Int32.ofNat len)), .val (.int (Int32.ofNat i)), z] [.int (Int32.ofNat (o + i)), .ref b])) := cl.trans (by
        refine XS.iload Xl.here hexec rfl (hb hbytes d3) rfl ?_
        refine XS.iload Xl.here hexec rfl (hb hbytes d5) rfl ?_
        refine XS.icmpNo Xl.here hexec rfl (hb hbytes d7) rfl (ii_ge_f (lt32 (by omega) (by omega))) ?_
        refine XS.aloadN Xl.here hexec rfl (hb hbytes d10) rfl rfl ?_
        refine XS.iloadN Xl.here hexec rfl (hb hbytes d11) rfl ?_
        exact Steps.refl _)
      have c4 : Steps p.tables e below (s₁.setTop (entryFrame m #[.ref b, .int (Int32.ofNat o), .ref d, .int (Int32.ofNat q), .int (Int32.ofNat len)] 7)) (Tl.setTop (mkF m 13 #[.val (.ref b), .val (.int (Int32.ofNat (o + i))), .val (.ref d), .val (.int (Int32.ofNat (q + i))), .val (.int (Int32.ofNat len)), .val (.int (Int32.ofNat i)), z] [.int (cv A (o + i))])) := c3.trans (by
        refine Xl.aget hexec hAl rfl (hA.get (i := o + i) (by omega)) rfl rfl (hb hbytes d12) ?_
        exact Steps.refl _)
      have c5 : Steps p.tables e below (s₁.setTop (entryFrame m #[.ref b, .int (Int32.ofNat o), .ref d, .int (Int32.ofNat q), .int (Int32.ofNat len)] 7)) (Tl.setTop (mkF m 15 #[.val (.ref b), .val (.int (Int32.ofNat (o + i))), .val (.ref d), .val (.int (Int32.ofNat (q + i))), .val (.int (Int32.ofNat len)), .val (.int (Int32.ofNat i)), .val (.int (cv A (o + i)))] [])) := c4.trans (by
        refine XS.istoreS Xl.here hexec rfl (hb hbytes d13) rfl rfl hz ?_
        exact Steps.refl _)
      have c6 : Steps p.tables e below (s₁.setTop (entryFrame m #[.ref b, .int (Int32.ofNat o), .ref d, .int (Int32.ofNat q), .int (Int32.ofNat len)] 7)) (Tl.setTop (mkF m 31 #[.val (.ref b), .val (.int (Int32.ofNat (o + i))), .val (.ref d), .val (.int (Int32.ofNat (q + i))), .val (.int (Int32.ofNat len)), .val (.int (Int32.ofNat i)), .val (.int (cv A (o + i)))] [.int (lo8 (cv A (o + i))), .int (Int32.ofNat (q + i)), .ref d])) := c5.trans (by
        refine XS.iload Xl.here hexec rfl (hb hbytes d15) rfl ?_
        refine sipushV Xl.here hexec rfl 255 (hb hbytes d17) (by decide) ?_
        refine XS.icmpYes Xl.here hexec rfl (pc0 := 20) rfl (hb hbytes d20) rfl (ii_le_t (hp i (by omega))) (by decide) rfl ?_
        refine XS.aloadN Xl.here hexec rfl (hb hbytes d26) rfl rfl ?_
        refine XS.iloadN Xl.here hexec rfl (hb hbytes d27) rfl ?_
        refine XS.iload Xl.here hexec rfl (hb hbytes d28) rfl ?_
        refine i2b Xl.here hexec rfl (hb hbytes d30) rfl ?_
        exact Steps.refl _)
      obtain ⟨T7, X7, p7, st7⟩ := Xl.aput hexec hBk rfl hlt rfl (fits_lo8 (cv A (o + i))) (g := (mkF m 31 #[.val (.ref b), .val (.int (Int32.ofNat (o + i))), .val (.ref d), .val (.int (Int32.ofNat (q + i))), .val (.int (Int32.ofNat len)), .val (.int (Int32.ofNat i)), .val (.int (cv A (o + i)))] [.int (lo8 (cv A (o + i))), .int (Int32.ofNat (q + i)), .ref d])) rfl (rest := []) rfl (hb hbytes d31)
      have c8 : Steps p.tables e below (s₁.setTop (entryFrame m #[.ref b, .int (Int32.ofNat o), .ref d, .int (Int32.ofNat q), .int (Int32.ofNat len)] 7)) (T7.setTop (mkF m 32 #[.val (.ref b), .val (.int (Int32.ofNat (o + i))), .val (.ref d), .val (.int (Int32.ofNat (q + i))), .val (.int (Int32.ofNat len)), .val (.int (Int32.ofNat i)), .val (.int (cv A (o + i)))] [])) := c6.trans (st7 _ (Steps.refl _))
      have c9 : Steps p.tables e below (s₁.setTop (entryFrame m #[.ref b, .int (Int32.ofNat o), .ref d, .int (Int32.ofNat q), .int (Int32.ofNat len)] 7)) (T7.setTop (mkF m 3 #[.val (.ref b), .val (.int (Int32.ofNat (o + i) + 1)), .val (.ref d), .val (.int (Int32.ofNat (q + i) + 1)), .val (.int (Int32.ofNat len)), .val (.int (Int32.ofNat i + 1)), .val (.int (cv A (o + i)))] [])) := c8.trans (by
        refine iincV X7.here hexec rfl 1 (hb hbytes d32) (by decide) rfl rfl ?_
        refine iincV X7.here hexec rfl 1 (hb hbytes d35) (by decide) rfl rfl ?_
        refine iincV X7.here hexec rfl 1 (hb hbytes d38) (by decide) rfl rfl ?_
        refine XS.goto X7.here hexec rfl (pc0 := 41) rfl (hb hbytes d41) (by decide) rfl ?_
        exact Steps.refl _)
      have c10 : Steps p.tables e below (s₁.setTop (entryFrame m #[.ref b, .int (Int32.ofNat o), .ref d, .int (Int32.ofNat q), .int (Int32.ofNat len)] 7)) (T7.setTop (mkF m 3 #[.val (.ref b), .val (.int (Int32.ofNat (o + (i + 1)))), .val (.ref d), .val (.int (Int32.ofNat (q + (i + 1)))), .val (.int (Int32.ofNat len)), .val (.int (Int32.ofNat (i + 1))), .val (.int (cv A (o + i)))] [])) := by
        have := c9
        rw [succ32, succ32, succ32] at this
        exact this
      exact ih (i + 1) (by omega) _ (Or.inr ⟨_, rfl, rfl⟩) T7 _ (by rw [copyLocs_step, ← List.append_assoc]; exact X7) (pl.trans p7) (fl.step (by omega) hlt (by simp)) c10
  obtain ⟨T9, B9, z9, X9, p9, f9, g9⟩ := loop len 0 (by omega) .unset (Or.inl rfl) s₁ B (by simpa [copyLocs] using X0) ⟨hB0.1, fun _ _ => rfl, rfl⟩ (Laid.zero _ _ _) c2
  have c11 : Steps p.tables e below (s₁.setTop (entryFrame m #[.ref b, .int (Int32.ofNat o), .ref d, .int (Int32.ofNat q), .int (Int32.ofNat len)] 7)) (T9.setTop (mkF m 46 #[.val (.ref b), .val (.int (Int32.ofNat (o + len))), .val (.ref d), .val (.int (Int32.ofNat (q + len))), .val (.int (Int32.ofNat len)), .val (.int (Int32.ofNat len)), z9] [.int (Int32.ofNat len)])) := g9.trans (by
    refine XS.iload X9.here hexec rfl (hb hbytes d3) rfl ?_
    refine XS.iload X9.here hexec rfl (hb hbytes d5) rfl ?_
    refine XS.icmpYes X9.here hexec rfl (pc0 := 7) rfl (hb hbytes d7) rfl (ii_ge_t (nlt32 (by omega) (Nat.le_refl _))) (by decide) rfl ?_
    refine XS.iload X9.here hexec rfl (hb hbytes d44) rfl ?_
    exact Steps.refl _)
  exact ⟨T9, some (.int (Int32.ofNat len)), _, _, _, X9, by simp, rfl, rfl, (fun h => by cases h), ⟨rfl, B9, p9.from hh0, f9⟩, fun fs hl => c11.trans (X9.ireturnOut hexec hret rfl (Or.inl rfl) (hb hbytes d46) hl)⟩
end Cmp5
namespace Cmp3
def yN : MethodName := ⟨"java/lang/StringUTF16", "compress", "([CII)[B"⟩
abbrev yB : ByteArray := jdk_52_method_16_code
theorem d0 : decode yB 0 = .ok (.iload_n 2, 1) := by decide +kernel
theorem d1 : decode yB 1 = .ok (.newarray .byte, 2) := by decide +kernel
theorem d3 : decode yB 3 = .ok (.astore_n 3, 1) := by decide +kernel
theorem d4 : decode yB 4 = .ok (.aload_n 0, 1) := by decide +kernel
theorem d5 : decode yB 5 = .ok (.iload_n 1, 1) := by decide +kernel
theorem d6 : decode yB 6 = .ok (.aload_n 3, 1) := by decide +kernel
theorem d7 : decode yB 7 = .ok (.iconst 0, 1) := by decide +kernel
theorem d8 : decode yB 8 = .ok (.iload_n 2, 1) := by decide +kernel
theorem d9 : decode yB 9 = .ok (.invokestatic 115, 3) := by decide +kernel
theorem d12 : decode yB 12 = .ok (.istore 4, 2) := by decide +kernel
theorem d14 : decode yB 14 = .ok (.iload 4, 2) := by decide +kernel
theorem d16 : decode yB 16 = .ok (.iload_n 2, 1) := by decide +kernel
theorem d17 : decode yB 17 = .ok (.if_icmp (.eq) 40, 3) := by decide +kernel
theorem d57 : decode yB 57 = .ok (.aload_n 3, 1) := by decide +kernel
theorem d58 : decode yB 58 = .ok (.areturn, 1) := by decide +kernel
def site : List Cond := [.arrayClass .byte, Cmp5.tab] ++ staticW U16 115 Cmp5.yN
def tab : Cond := tabOf yN yB 6 (some (.array .byte)) site
def P (b : Addr) (A : Cell) (o len : Nat) (args : Array Value) (s : State) : Prop := args = #[.ref b, .int (Int32.ofNat o), .int (Int32.ofNat len)] ∧ Ch b A s ∧ o + len ≤ A.slots.size ∧ len ≤ 536870912 ∧ ∀ i, i < len → ¬ 255 < cv A (o + i)
def E (b : Addr) (A : Cell) (o len : Nat) (r : Option Value) (s u : State) : Prop := NewArr .byte "[B" len (fun j => .int (lo8 (cv A (o + j)))) r s u ∧ u.heap.size = s.heap.size + 1
/-- no char of the range above 255: a new byte[] of their low bytes -/
theorem law (l : Launch) (b : Addr) (A : Cell) (o len : Nat) : Law l yN 3 3 1 18 yB 6 (some (.array .byte)) site (P b A o len) (E b A o len) [] 1 len := by
  refine Law.of_walk (plainFor_of_name (by decide +kernel)) (by decide +kernel) (by decide +kernel) (by decide) (fun _ _ h => by rw [h.1]; rfl) (fun _ U U' hal hh h => ⟨h.1, h.2.1.mv hal hh, h.2.2⟩) (fun r U U' V V' h1 hal h2 h => ⟨NewArr.mv r U U' V V' h1 hal h2 h.1, by rw [h1, h2]; exact h.2⟩) ?_
  intro p e s m args below meth c s₁ X0 hexec hbytes hml hret hlk hnm hown hh0 W hP
  obtain ⟨rfl, hA, l1, l2, hp⟩ := hP
  have a31 := hA.1.2.2.2
  have c1 : Steps p.tables e below (s₁.setTop (entryFrame m #[.ref b, .int (Int32.ofNat o), .int (Int32.ofNat len)] 6)) (s₁.setTop (mkF m 0 #[.val (.ref b), .val (.int (Int32.ofNat o)), .val (.int (Int32.ofNat len)), .unset, .unset, .unset] [])) := entry rfl
  have c2 : Steps p.tables e below (s₁.setTop (entryFrame m #[.ref b, .int (Int32.ofNat o), .int (Int32.ofNat len)] 6)) (s₁.setTop (mkF m 1 #[.val (.ref b), .val (.int (Int32.ofNat o)), .val (.int (Int32.ofNat len)), .unset, .unset, .unset] [.int (Int32.ofNat len)])) := c1.trans (by
    refine XS.iloadN X0.here hexec rfl (hb hbytes d0) rfl ?_
    exact Steps.refl _)
  obtain ⟨T3, B3, X3, ba3, bs3, bv3, bh3, bf3, st3⟩ := X0.anew hexec (atype := .byte) (wk W (.arrayClass .byte)) rfl (by show len * 1 ≤ _; omega) (by omega) (g := (mkF m 1 #[.val (.ref b), .val (.int (Int32.ofNat o)), .val (.int (Int32.ofNat len)), .unset, .unset, .unset] [.int (Int32.ofNat len)])) rfl (hb hbytes d1) (rest := []) rfl (Nat.le_refl _) (by show 0 + len ≤ len; omega)
  rw [hh0] at ba3 st3
  have kp3 : XT.Kept s T3 := (XT.Kept.of_eq hh0).push bh3
  have hA3 := hA.keep X3.warmed.alike (kp3 _ _ hA.1.1)
  have hne : b ≠ s.heap.size := hA.1.ne
  have c4 : Steps p.tables e below (s₁.setTop (entryFrame m #[.ref b, .int (Int32.ofNat o), .int (Int32.ofNat len)] 6)) (T3.setTop (mkF m 3 #[.val (.ref b), .val (.int (Int32.ofNat o)), .val (.int (Int32.ofNat len)), .unset, .unset, .unset] [.ref s.heap.size])) := c2.trans (st3 _ (Steps.refl _))
  have c5 : Steps p.tables e below (s₁.setTop (entryFrame m #[.ref b, .int (Int32.ofNat o), .int (Int32.ofNat len)] 6)) (T3.setTop (mkF m 9 #[.val (.ref b), .val (.int (Int32.ofNat o)), .val (.int (Int32.ofNat len)), .val (.ref s.heap.size), .unset, .unset] [.int (Int32.ofNat len), .int 0, .ref s.heap.size, .int (Int32.ofNat o), .ref b])) := c4.trans (by
    refine XS.astoreN X3.here hexec rfl (hb hbytes d3) rfl rfl rfl ?_
    refine XS.aloadN X3.here hexec rfl (hb hbytes d4) rfl rfl ?_
    refine XS.iloadN X3.here hexec rfl (hb hbytes d5) rfl ?_
    refine XS.aloadN X3.here hexec rfl (hb hbytes d6) rfl rfl ?_
    refine iconstV X3.here hexec rfl 0 (hb hbytes d7) (by decide) ?_
    refine XS.iloadN X3.here hexec rfl (hb hbytes d8) rfl ?_
    exact Steps.refl _)
  obtain ⟨v6, T6, X6, E6, g6⟩ := X3.callS hexec (Cmp5.law l b A s.heap.size B3 o 0 len) hown (wks W (staticW U16 115 Cmp5.yN)) (wk W Cmp5.tab) (W := 0) (Nat.le_of_ble_eq_true rfl) (Nat.le_of_ble_eq_true rfl) (Nat.le_refl _) (by show 0 + len + 0 ≤ len; omega) (g := (mkF m 9 #[.val (.ref b), .val (.int (Int32.ofNat o)), .val (.int (Int32.ofNat len)), .val (.ref s.heap.size), .unset, .unset] [.int (Int32.ofNat len), .int (Int32.ofNat 0), .ref s.heap.size, .int (Int32.ofNat o), .ref b])) rfl (by rw [hml]; rfl) c5 (argsL := [.ref b, .int (Int32.ofNat o), .ref s.heap.size, .int (Int32.ofNat 0), .int (Int32.ofNat len)]) (rest := []) rfl rfl (by show 2 * 0 + 0 ≤ _; decide) (hb hbytes d9) (⟨rfl, hA3, ba3, hne, l1, by rw [bs3]; simp, hp⟩)
  obtain ⟨rfl, B6, p6, f6⟩ := E6
  have c7 : Steps p.tables e below (s₁.setTop (entryFrame m #[.ref b, .int (Int32.ofNat o), .int (Int32.ofNat len)] 6)) (T6.setTop (mkF m 12 #[.val (.ref b), .val (.int (Int32.ofNat o)), .val (.int (Int32.ofNat len)), .val (.ref s.heap.size), .unset, .unset] [.int (Int32.ofNat len)])) := g6
  have c8 : Steps p.tables e below (s₁.setTop (entryFrame m #[.ref b, .int (Int32.ofNat o), .int (Int32.ofNat len)] 6)) (T6.setTop (mkF m 58 #[.val (.ref b), .val (.int (Int32.ofNat o)), .val (.int (Int32.ofNat len)), .val (.ref s.heap.size), .val (.int (Int32.ofNat len)), .unset] [.ref s.heap.size])) := c7.trans (by
    refine XS.istore X6.here hexec rfl (hb hbytes d12) rfl rfl ?_
    refine XS.iload X6.here hexec rfl (hb hbytes d14) rfl ?_
    refine XS.iloadN X6.here hexec rfl (hb hbytes d16) rfl ?_
    refine XS.icmpYes X6.here hexec rfl (pc0 := 17) rfl (hb hbytes d17) rfl (ii_eq_t rfl) (by decide) rfl ?_
    refine XS.aloadN X6.here hexec rfl (hb hbytes d57) rfl rfl ?_
    exact Steps.refl _)
  have X8 := X6.wide (L' := []) (cells' := 1) (slots' := len) (fun x hx hlt => by
    simp only [List.nil_append, copyLocs, List.mem_map, List.mem_range] at hx
    obtain ⟨i, -, rfl⟩ := hx
    exact absurd hlt (Nat.lt_irrefl _)) (Nat.le_refl _) (by omega)
  exact ⟨T6, some (.ref s.heap.size), _, _, _, X8, rfl, rfl, rfl, (fun h => by cases h), ⟨⟨rfl, B6, ba3.like (X3.warmed.alike.symm.trans X6.warmed.alike) p6.1 f6.1 f6.2.1 f6.2.2.1, f6.2.1.trans bv3, by rw [X6.warmed.alike.findClass, f6.1]; exact bf3, by rw [f6.2.2.1, bs3]; simp, fun j hj => by rw [f6.2.2.2 j, if_pos (by omega)]; rfl, kp3.put p6 (Nat.le_refl _)⟩, by rw [p6.2.2, bh3, hh0]; simp⟩, fun fs hl => c8.trans (X8.areturnOut hexec rfl hret rfl (hb hbytes d58) hl)⟩
end Cmp3
namespace CodL
def yN : MethodName := ⟨"java/lang/StringUTF16", "coderFromArrayLen", "([BI)B"⟩
abbrev yB : ByteArray := jdk_52_method_15_code
theorem d0 : decode yB 0 = .ok (.iload_n 1, 1) := by decide +kernel
theorem d1 : decode yB 1 = .ok (.aload_n 0, 1) := by decide +kernel
theorem d2 : decode yB 2 = .ok (.arraylength, 1) := by decide +kernel
theorem d3 : decode yB 3 = .ok (.isub, 1) := by decide +kernel
theorem d4 : decode yB 4 = .ok (.bipush 31, 2) := by decide +kernel
theorem d6 : decode yB 6 = .ok (.iushr, 1) := by decide +kernel
theorem d7 : decode yB 7 = .ok (.i2b, 1) := by decide +kernel
theorem d8 : decode yB 8 = .ok (.ireturn, 1) := by decide +kernel
def site : List Cond := []
def tab : Cond := tabOf yN yB 2 (some .byte) site
def P (d : Addr) (B : Cell) (args : Array Value) (s : State) : Prop := args = #[.ref d, .int (Int32.ofNat B.slots.size)] ∧ Arr .byte d B s
def E (r : Option Value) (s u : State) : Prop := XT.PureE (some (.int 0)) r s u
/-- an array as long as the number of chars: LATIN1 -/
theorem law (l : Launch) (d : Addr) (B : Cell) : Law l yN 2 2 0 0 yB 2 (some .byte) site (P d B) E [] 0 0 := by
  refine Law.of_walk (plainFor_of_name (by decide +kernel)) (by decide +kernel) (by decide +kernel) (by decide) (fun _ _ h => by rw [h.1]; rfl) (fun _ U U' hal hh h => ⟨h.1, h.2.mv hal hh⟩) (fun r U U' V V' h1 hal h2 h => XT.PureE.mv r U U' V V' h1 hal h2 h) ?_
  intro p e s m args below meth c s₁ X0 hexec hbytes hml hret hlk hnm hown hh0 W hP
  obtain ⟨rfl, hB⟩ := hP
  have hB0 := hB.mv X0.warmed.alike hh0
  have c1 : Steps p.tables e below (s₁.setTop (entryFrame m #[.ref d, .int (Int32.ofNat B.slots.size)] 2)) (s₁.setTop (mkF m 0 #[.val (.ref d), .val (.int (Int32.ofNat B.slots.size))] [])) := entry rfl
  have c2 : Steps p.tables e below (s₁.setTop (entryFrame m #[.ref d, .int (Int32.ofNat B.slots.size)] 2)) (s₁.setTop (mkF m 2 #[.val (.ref d), .val (.int (Int32.ofNat B.slots.size))] [.ref d, .int (Int32.ofNat B.slots.size)])) := c1.trans (by
    refine XS.iloadN X0.here hexec rfl (hb hbytes d0) rfl ?_
    refine XS.aloadN X0.here hexec rfl (hb hbytes d1) rfl rfl ?_
    exact Steps.refl _)
  have c3 : Steps p.tables e below (s₁.setTop (entryFrame m #[.ref d, .int (Int32.ofNat B.slots.size)] 2)) (s₁.setTop (mkF m 8 #[.val (.ref d), .val (.int (Int32.ofNat B.slots.size))] [.int (lo8 (ushr (Int32.ofNat B.slots.size - Int32.ofNat B.slots.size) 31))])) := c2.trans (by
    refine X0.alen hexec hB0 rfl rfl (hb hbytes d2) ?_
    refine XS.isub X0.here hexec rfl (hb hbytes d3) rfl ?_
    refine bipushV X0.here hexec rfl 31 (hb hbytes d4) (by decide) ?_
    refine iushr X0.here hexec rfl (hb hbytes d6) rfl ?_
    refine i2b X0.here hexec rfl (hb hbytes d7) rfl ?_
    exact Steps.refl _)
  have e0 : lo8 (ushr (Int32.ofNat B.slots.size - Int32.ofNat B.slots.size) 31) = 0 := by rw [Int32.sub_self]; decide
  rw [e0] at c3
  exact ⟨s₁, some (.int 0), _, _, _, X0, rfl, rfl, rfl, (fun h => by cases h), ⟨rfl, hh0⟩, fun fs hl => c3.trans (X0.ireturnOut hexec hret rfl (Or.inr (Or.inr (Or.inl rfl))) (hb hbytes d8) hl)⟩
end CodL
/-- the String at a is Latin-1 over a new byte[] (the heap's one new cell): the low bytes of the len chars of A from o on; every cell but a is kept -/
def Got (a : Addr) (D : Cell) (fV fC : Field) (A : Cell) (o len : Nat) (r : Option Value) (s u : State) : Prop := r = none ∧ ∃ D' V : Cell, Blank "java/lang/String" a D' u ∧ Same D D' [fV.slot, fC.slot] ∧ D'.slots[fV.slot]? = some (.ref s.heap.size) ∧ D'.slots[fC.slot]? = some (.int 0) ∧ Arr .byte s.heap.size V u ∧ V.vm = .none ∧ u.vm.findClass "[B" = some V.cls ∧ V.slots.size = len ∧ (∀ j, j < len → V.slots[j]? = some (.int (lo8 (cv A (o + j))))) ∧ (∀ (y : Addr) (c : Cell), y ≠ a → s.heap[y]? = some c → u.heap[y]? = some c) ∧ u.heap.size = s.heap.size + 1
theorem Got.mv {a : Addr} {D A : Cell} {fV fC : Field} {o len : Nat} : ∀ r (U U' V V' : State), U'.heap = U.heap → V.vm.Alike V'.vm → V'.heap = V.heap → Got a D fV fC A o len r U V → Got a D fV fC A o len r U' V' :=
  fun r U U' V V' h1 hal h2 ⟨e0, D', X, a1, a2, a3, a4, a5, a6, a7, a8, a9, a10, a11⟩ => ⟨e0, D', X, a1.mv hal h2, a2, by rw [h1]; exact a3, a4, by rw [h1]; exact a5.mv hal h2, a6, by rw [hal.findClass]; exact a7, a8, a9, by rw [h1, h2]; exact a10, by rw [h1, h2]; exact a11⟩
namespace New4
def yN : MethodName := ⟨"java/lang/String", "<init>", "([CIILjava/lang/Void;)V"⟩
abbrev yB : ByteArray := jdk_42_method_149_code
theorem d0 : decode yB 0 = .ok (.aload_n 0, 1) := by decide +kernel
theorem d1 : decode yB 1 = .ok (.invokespecial 1, 3) := by decide +kernel
theorem d4 : decode yB 4 = .ok (.iload_n 3, 1) := by decide +kernel
theorem d5 : decode yB 5 = .ok (.ifCond (.ne) 22, 3) := by decide +kernel
theorem d27 : decode yB 27 = .ok (.getstatic 38, 3) := by decide +kernel
theorem d30 : decode yB 30 = .ok (.ifCond (.eq) 28, 3) := by decide +kernel
theorem d33 : decode yB 33 = .ok (.aload_n 1, 1) := by decide +kernel
theorem d34 : decode yB 34 = .ok (.iload_n 2, 1) := by decide +kernel
theorem d35 : decode yB 35 = .ok (.iload_n 3, 1) := by decide +kernel
theorem d36 : decode yB 36 = .ok (.invokestatic 177, 3) := by decide +kernel
theorem d39 : decode yB 39 = .ok (.astore 5, 2) := by decide +kernel
theorem d41 : decode yB 41 = .ok (.aload_n 0, 1) := by decide +kernel
theorem d42 : decode yB 42 = .ok (.aload 5, 2) := by decide +kernel
theorem d44 : decode yB 44 = .ok (.iload_n 3, 1) := by decide +kernel
theorem d45 : decode yB 45 = .ok (.invokestatic 47, 3) := by decide +kernel
theorem d48 : decode yB 48 = .ok (.putfield 15, 3) := by decide +kernel
theorem d51 : decode yB 51 = .ok (.aload_n 0, 1) := by decide +kernel
theorem d52 : decode yB 52 = .ok (.aload 5, 2) := by decide +kernel
theorem d54 : decode yB 54 = .ok (.putfield 9, 3) := by decide +kernel
theorem d57 : decode yB 57 = .ok (.return_, 1) := by decide +kernel
def site : List Cond := [.fieldLink "java/lang/String" 38 "java/lang/String" "COMPACT_STRINGS" "Z", Cmp3.tab, CodL.tab, .laysFinal "java/lang/String" "java/lang/String" "value" "[B", .fieldLink "java/lang/String" 9 "java/lang/String" "value" "[B", .laysFinal "java/lang/String" "java/lang/String" "coder" "B", .fieldLink "java/lang/String" 15 "java/lang/String" "coder" "B"] ++ objW "java/lang/String" 1 ++ staticW "java/lang/String" 177 Cmp3.yN ++ staticW "java/lang/String" 47 CodL.yN
def tab : Cond := tabOf yN yB 6 none site
def P (a : Addr) (D : Cell) (fV fC : Field) (b : Addr) (A : Cell) (z : Int32) (o len : Nat) (args : Array Value) (s : State) : Prop := args = #[.ref a, .ref b, .int (Int32.ofNat o), .int (Int32.ofNat len), .null] ∧ Blank "java/lang/String" a D s ∧ Found "java/lang/String" "value" "[B" fV s ∧ Found "java/lang/String" "coder" "B" fC s ∧ Ch b A s ∧ StaticIs s "java/lang/String" "COMPACT_STRINGS" "Z" (.int z) ∧ ¬ z = 0 ∧ 0 < len ∧ o + len ≤ A.slots.size ∧ len ≤ 536870912 ∧ ∀ i, i < len → ¬ 255 < cv A (o + i)
def E (a : Addr) (D : Cell) (fV fC : Field) (A : Cell) (o len : Nat) (r : Option Value) (s u : State) : Prop := Got a D fV fC A o len r s u
/-- len > 0, no char of the range above 255: a Latin-1 String of their low bytes -/
theorem law (l : Launch) (a : Addr) (D : Cell) (fV fC : Field) (b : Addr) (A : Cell) (z : Int32) (o len : Nat) : Law l yN 5 4 2 35 yB 6 none site (P a D fV fC b A z o len) (E a D fV fC A o len) [⟨a, fC.slot⟩, ⟨a, fV.slot⟩] 1 len := by
  refine Law.of_walk (plainFor_of_name (by decide +kernel)) (by decide +kernel) (by decide +kernel) (by decide) (fun _ _ h => by rw [h.1]; rfl) (fun _ U U' hal hh h => ⟨h.1, h.2.1.mv hal hh, h.2.2.1.al hal, h.2.2.2.1.al hal, h.2.2.2.2.1.mv hal hh, h.2.2.2.2.2.1.there hal hh, h.2.2.2.2.2.2⟩) (fun r U U' V V' h1 hal h2 h => Got.mv r U U' V V' h1 hal h2 h) ?_
  intro p e s m args below meth c s₁ X0 hexec hbytes hml hret hlk hnm hown hh0 W hP
  obtain ⟨rfl, hB, f1, f2, hA, s1, hz, l0, l1, l2, hp⟩ := hP
  have a31 := hA.1.2.2.2
  have c1 : Steps p.tables e below (s₁.setTop (entryFrame m #[.ref a, .ref b, .int (Int32.ofNat o), .int (Int32.ofNat len), .null] 6)) (s₁.setTop (mkF m 0 #[.val (.ref a), .val (.ref b), .val (.int (Int32.ofNat o)), .val (.int (Int32.ofNat len)), .val .null, .unset] [])) := entry rfl
  have c2 : Steps p.tables e below (s₁.setTop (entryFrame m #[.ref a, .ref b, .int (Int32.ofNat o), .int (Int32.ofNat len), .null] 6)) (s₁.setTop (mkF m 1 #[.val (.ref a), .val (.ref b), .val (.int (Int32.ofNat o)), .val (.int (Int32.ofNat len)), .val .null, .unset] [.ref a])) := c1.trans (by
    refine XS.aloadN X0.here hexec rfl (hb hbytes d0) rfl rfl ?_
    exact Steps.refl _)
  obtain ⟨T3, X3, q3, st3⟩ := X0.oinit hexec hown (wks W (objW "java/lang/String" 1)) (g := (mkF m 1 #[.val (.ref a), .val (.ref b), .val (.int (Int32.ofNat o)), .val (.int (Int32.ofNat len)), .val .null, .unset] [.ref a])) rfl (by rw [hml]; rfl) (rest := []) rfl (hb hbytes d1) (W := 0) (by show 2 * 0 + 0 ≤ _; decide) (Nat.le_of_ble_eq_true rfl) (Nat.le_of_ble_eq_true rfl)
  have hh3 := q3.trans hh0
  have c4 : Steps p.tables e below (s₁.setTop (entryFrame m #[.ref a, .ref b, .int (Int32.ofNat o), .int (Int32.ofNat len), .null] 6)) (T3.setTop (mkF m 27 #[.val (.ref a), .val (.ref b), .val (.int (Int32.ofNat o)), .val (.int (Int32.ofNat len)), .val .null, .unset] [])) := (c2.trans (st3 _ (Steps.refl _))).trans (by
    refine XS.iloadN X3.here hexec rfl (hb hbytes d4) rfl ?_
    refine XS.ifYes X3.here hexec rfl (pc0 := 5) rfl (hb hbytes d5) rfl (i0_ne_t (nz32 (by omega) l0)) (by decide) rfl ?_
    exact Steps.refl _)
  obtain ⟨T5, X5, q5, st5⟩ := X3.sget hexec hown (wk W (.fieldLink "java/lang/String" 38 "java/lang/String" "COMPACT_STRINGS" "Z")) s1 (fun _ _ h => by rw [hh3]; exact h) (g := (mkF m 27 #[.val (.ref a), .val (.ref b), .val (.int (Int32.ofNat o)), .val (.int (Int32.ofNat len)), .val .null, .unset] [])) rfl (hb hbytes d27)
  have hh5 := q5.trans hh3
  have c6 : Steps p.tables e below (s₁.setTop (entryFrame m #[.ref a, .ref b, .int (Int32.ofNat o), .int (Int32.ofNat len), .null] 6)) (T5.setTop (mkF m 30 #[.val (.ref a), .val (.ref b), .val (.int (Int32.ofNat o)), .val (.int (Int32.ofNat len)), .val .null, .unset] [.int z])) := c4.trans (st5 _ (Steps.refl _))
  have c7 : Steps p.tables e below (s₁.setTop (entryFrame m #[.ref a, .ref b, .int (Int32.ofNat o), .int (Int32.ofNat len), .null] 6)) (T5.setTop (mkF m 36 #[.val (.ref a), .val (.ref b), .val (.int (Int32.ofNat o)), .val (.int (Int32.ofNat len)), .val .null, .unset] [.int (Int32.ofNat len), .int (Int32.ofNat o), .ref b])) := c6.trans (by
    refine XS.ifNo X5.here hexec rfl (hb hbytes d30) rfl (i0_eq_f hz) ?_
    refine XS.aloadN X5.here hexec rfl (hb hbytes d33) rfl rfl ?_
    refine XS.iloadN X5.here hexec rfl (hb hbytes d34) rfl ?_
    refine XS.iloadN X5.here hexec rfl (hb hbytes d35) rfl ?_
    exact Steps.refl _)
  obtain ⟨v8, T8, X8, E8, g8⟩ := X5.callS hexec (Cmp3.law l b A o len) hown (wks W (staticW "java/lang/String" 177 Cmp3.yN)) (wk W Cmp3.tab) (W := 0) (Nat.le_of_ble_eq_true rfl) (Nat.le_of_ble_eq_true rfl) (Nat.le_refl _) (by show 0 + len ≤ len; omega) (g := (mkF m 36 #[.val (.ref a), .val (.ref b), .val (.int (Int32.ofNat o)), .val (.int (Int32.ofNat len)), .val .null, .unset] [.int (Int32.ofNat len), .int (Int32.ofNat o), .ref b])) rfl (by rw [hml]; rfl) c7 (argsL := [.ref b, .int (Int32.ofNat o), .int (Int32.ofNat len)]) (rest := []) rfl rfl (by show 2 * 0 + 0 ≤ _; decide) (hb hbytes d36) (⟨rfl, hA.mv X5.warmed.alike hh5, l1, l2, hp⟩)
  obtain ⟨e8, z8⟩ := E8
  obtain ⟨rfl, N, n1, n2, n3, n4, n5, n6⟩ := NewArr.mv _ T5 s _ _ hh5.symm (Vm.Alike.refl _) rfl e8
  rw [hh5] at z8
  have hB1 := hB.keep X8.warmed.alike (n6 _ _ hB.1)
  have hne : s.heap.size ≠ a := (Nat.ne_of_lt (Array.getElem?_eq_some_iff.mp hB.1).1).symm
  have c9 : Steps p.tables e below (s₁.setTop (entryFrame m #[.ref a, .ref b, .int (Int32.ofNat o), .int (Int32.ofNat len), .null] 6)) (T8.setTop (mkF m 39 #[.val (.ref a), .val (.ref b), .val (.int (Int32.ofNat o)), .val (.int (Int32.ofNat len)), .val .null, .unset] [.ref s.heap.size])) := g8
  have c10 : Steps p.tables e below (s₁.setTop (entryFrame m #[.ref a, .ref b, .int (Int32.ofNat o), .int (Int32.ofNat len), .null] 6)) (T8.setTop (mkF m 45 #[.val (.ref a), .val (.ref b), .val (.int (Int32.ofNat o)), .val (.int (Int32.ofNat len)), .val .null, .val (.ref s.heap.size)] [.int (Int32.ofNat N.slots.size), .ref s.heap.size, .ref a])) := by
    have hc : Steps p.tables e below (s₁.setTop (entryFrame m #[.ref a, .ref b, .int (Int32.ofNat o), .int (Int32.ofNat len), .null] 6)) (T8.setTop (mkF m 45 #[.val (.ref a), .val (.ref b), .val (.int (Int32.ofNat o)), .val (.int (Int32.ofNat len)), .val .null, .val (.ref s.heap.size)] [.int (Int32.ofNat len), .ref s.heap.size, .ref a])) := c9.trans (by
      refine XS.astore X8.here hexec rfl (hb hbytes d39) rfl rfl rfl ?_
      refine XS.aloadN X8.here hexec rfl (hb hbytes d41) rfl rfl ?_
      refine XS.aload X8.here hexec rfl (hb hbytes d42) rfl rfl ?_
      refine XS.iloadN X8.here hexec rfl (hb hbytes d44) rfl ?_
      exact Steps.refl _)
    rw [n4]; exact hc
  obtain ⟨v11, T11, X11, E11, g11⟩ := X8.callS hexec (CodL.law l s.heap.size N) hown (wks W (staticW "java/lang/String" 47 CodL.yN)) (wk W CodL.tab) (W := 1) (Nat.le_of_ble_eq_true rfl) (Nat.le_of_ble_eq_true rfl) (Nat.le_refl _) (by show 0 + len + 0 ≤ len; omega) (g := (mkF m 45 #[.val (.ref a), .val (.ref b), .val (.int (Int32.ofNat o)), .val (.int (Int32.ofNat len)), .val .null, .val (.ref s.heap.size)] [.int (Int32.ofNat N.slots.size), .ref s.heap.size, .ref a])) rfl (by rw [hml]; rfl) c10 (argsL := [.ref s.heap.size, .int (Int32.ofNat N.slots.size)]) (rest := [.ref a]) rfl rfl (by show 2 * 0 + (1 + 0) ≤ _; decide) (hb hbytes d45) (⟨rfl, n1⟩)
  obtain ⟨rfl, q11⟩ := E11
  have hB11 := hB1.mv (X8.warmed.alike.symm.trans X11.warmed.alike) q11
  have c12 : Steps p.tables e below (s₁.setTop (entryFrame m #[.ref a, .ref b, .int (Int32.ofNat o), .int (Int32.ofNat len), .null] 6)) (T11.setTop (mkF m 48 #[.val (.ref a), .val (.ref b), .val (.int (Int32.ofNat o)), .val (.int (Int32.ofNat len)), .val .null, .val (.ref s.heap.size)] [.int 0, .ref a])) := g11
  obtain ⟨T13, X13, p13, bl13, sl13, st13⟩ := X11.finit hexec hown (wk W (.fieldLink "java/lang/String" 15 "java/lang/String" "coder" "B")) (Or.inr ⟨_, (wk W (.laysFinal "java/lang/String" "java/lang/String" "coder" "B"))⟩) (Or.inl ⟨rfl, hnm⟩) f2 (Or.inl rfl) hB11 (t := .byte) (by decide +kernel) rfl (g := (mkF m 48 #[.val (.ref a), .val (.ref b), .val (.int (Int32.ofNat o)), .val (.int (Int32.ofNat len)), .val .null, .val (.ref s.heap.size)] [.int 0, .ref a])) rfl (rest := []) rfl (hb hbytes d48)
  have c14 : Steps p.tables e below (s₁.setTop (entryFrame m #[.ref a, .ref b, .int (Int32.ofNat o), .int (Int32.ofNat len), .null] 6)) (T13.setTop (mkF m 54 #[.val (.ref a), .val (.ref b), .val (.int (Int32.ofNat o)), .val (.int (Int32.ofNat len)), .val .null, .val (.ref s.heap.size)] [.ref s.heap.size, .ref a])) := (c12.trans (st13 _ (Steps.refl _))).trans (by
    refine XS.aloadN X13.here hexec rfl (hb hbytes d51) rfl rfl ?_
    refine XS.aload X13.here hexec rfl (hb hbytes d52) rfl rfl ?_
    exact Steps.refl _)
  obtain ⟨T15, X15, p15, bl15, sl15, st15⟩ := X13.finit hexec hown (wk W (.fieldLink "java/lang/String" 9 "java/lang/String" "value" "[B")) (Or.inr ⟨_, (wk W (.laysFinal "java/lang/String" "java/lang/String" "value" "[B"))⟩) (Or.inl ⟨rfl, hnm⟩) f1 (Or.inl rfl) bl13 (t := (.array .byte)) (by decide +kernel) rfl (g := (mkF m 54 #[.val (.ref a), .val (.ref b), .val (.int (Int32.ofNat o)), .val (.int (Int32.ofNat len)), .val .null, .val (.ref s.heap.size)] [.ref s.heap.size, .ref a])) rfl (rest := []) rfl (hb hbytes d54)
  have c16 : Steps p.tables e below (s₁.setTop (entryFrame m #[.ref a, .ref b, .int (Int32.ofNat o), .int (Int32.ofNat len), .null] 6)) (T15.setTop (mkF m 57 #[.val (.ref a), .val (.ref b), .val (.int (Int32.ofNat o)), .val (.int (Int32.ofNat len)), .val .null, .val (.ref s.heap.size)] [])) := c14.trans (st15 _ (Steps.refl _))
  have ap := apart (Or.inr ⟨_, (wk W (.laysFinal "java/lang/String" "java/lang/String" "value" "[B"))⟩) (Or.inr ⟨_, (wk W (.laysFinal "java/lang/String" "java/lang/String" "coder" "B"))⟩) f1 f2 (t₁ := .array .byte) (t₂ := .byte) (by decide +kernel) (by decide +kernel) (by decide)
  have al := X8.warmed.alike.symm.trans X15.warmed.alike
  have n7 : T11.heap[s.heap.size]? = some N := by rw [q11]; exact n1.1
  exact ⟨T15, none, _, _, _, X15, by simp, rfl, by omega, (fun _ => rfl), ⟨rfl, _, N, bl15, ((Same.refl D _).set _ (by simp)).set _ (by simp), sl15, (Cell.slots_setSlot_ne _ ap).trans sl13, n1.keep al (p15.other hne (p13.other hne n7)), n2, by rw [al.findClass]; exact n3, n4, n5, fun y c h1 h2 => p15.other h1 (p13.other h1 (by rw [q11]; exact n6 y c h2)), by rw [p15.2.2, p13.2.2, q11]; exact z8⟩, fun fs hl => c16.trans (X15.returnOut hexec hret (hb hbytes d57) hl)⟩
end New4
namespace New1
def yN : MethodName := ⟨"java/lang/String", "<init>", "([C)V"⟩
abbrev yB : ByteArray := jdk_42_method_3_code
theorem d0 : decode yB 0 = .ok (.aload_n 0, 1) := by decide +kernel
theorem d1 : decode yB 1 = .ok (.aload_n 1, 1) := by decide +kernel
theorem d2 : decode yB 2 = .ok (.iconst 0, 1) := by decide +kernel
theorem d3 : decode yB 3 = .ok (.aload_n 1, 1) := by decide +kernel
theorem d4 : decode yB 4 = .ok (.arraylength, 1) := by decide +kernel
theorem d5 : decode yB 5 = .ok (.aconst_null, 1) := by decide +kernel
theorem d6 : decode yB 6 = .ok (.invokespecial 27, 3) := by decide +kernel
theorem d9 : decode yB 9 = .ok (.return_, 1) := by decide +kernel
def site : List Cond := [New4.tab] ++ initW "java/lang/String" 27 New4.yN
def tab : Cond := tabOf yN yB 2 none site
def P (a : Addr) (D : Cell) (fV fC : Field) (b : Addr) (A : Cell) (z : Int32) (args : Array Value) (s : State) : Prop := args = #[.ref a, .ref b] ∧ Blank "java/lang/String" a D s ∧ Found "java/lang/String" "value" "[B" fV s ∧ Found "java/lang/String" "coder" "B" fC s ∧ Ch b A s ∧ StaticIs s "java/lang/String" "COMPACT_STRINGS" "Z" (.int z) ∧ ¬ z = 0 ∧ 0 < A.slots.size ∧ A.slots.size ≤ 536870912 ∧ ∀ i, i < A.slots.size → ¬ 255 < cv A i
def E (a : Addr) (D : Cell) (fV fC : Field) (A : Cell) (r : Option Value) (s u : State) : Prop := Got a D fV fC A 0 A.slots.size r s u
/-- new String(chars), not empty, no char above 255: a Latin-1 String of their low bytes -/
theorem law (l : Launch) (a : Addr) (D : Cell) (fV fC : Field) (b : Addr) (A : Cell) (z : Int32) : Law l yN 2 1 3 52 yB 2 none site (P a D fV fC b A z) (E a D fV fC A) [⟨a, fC.slot⟩, ⟨a, fV.slot⟩] 1 A.slots.size := by
  refine Law.of_walk (plainFor_of_name (by decide +kernel)) (by decide +kernel) (by decide +kernel) (by decide) (fun _ _ h => by rw [h.1]; rfl) (fun _ U U' hal hh h => ⟨h.1, h.2.1.mv hal hh, h.2.2.1.al hal, h.2.2.2.1.al hal, h.2.2.2.2.1.mv hal hh, h.2.2.2.2.2.1.there hal hh, h.2.2.2.2.2.2⟩) (fun r U U' V V' h1 hal h2 h => Got.mv r U U' V V' h1 hal h2 h) ?_
  intro p e s m args below meth c s₁ X0 hexec hbytes hml hret hlk hnm hown hh0 W hP
  obtain ⟨rfl, hB, f1, f2, hA, s1, hz, l0, l2, hp⟩ := hP
  have c1 : Steps p.tables e below (s₁.setTop (entryFrame m #[.ref a, .ref b] 2)) (s₁.setTop (mkF m 0 #[.val (.ref a), .val (.ref b)] [])) := entry rfl
  have c2 : Steps p.tables e below (s₁.setTop (entryFrame m #[.ref a, .ref b] 2)) (s₁.setTop (mkF m 6 #[.val (.ref a), .val (.ref b)] [.null, .int (Int32.ofNat A.slots.size), .int 0, .ref b, .ref a])) := c1.trans (by
    refine XS.aloadN X0.here hexec rfl (hb hbytes d0) rfl rfl ?_
    refine XS.aloadN X0.here hexec rfl (hb hbytes d1) rfl rfl ?_
    refine iconstV X0.here hexec rfl 0 (hb hbytes d2) (by decide) ?_
    refine XS.aloadN X0.here hexec rfl (hb hbytes d3) rfl rfl ?_
    refine X0.alen hexec (hA.1.mv X0.warmed.alike hh0) rfl rfl (hb hbytes d4) ?_
    refine XS.aconstNull X0.here hexec rfl (hb hbytes d5) ?_
    exact Steps.refl _)
  obtain ⟨v3, T3, X3, E3, g3⟩ := X0.callN hexec (New4.law l a D fV fC b A z 0 A.slots.size) rfl hown (wks W (initW "java/lang/String" 27 New4.yN)) (W New4.tab (by simp only [site, List.mem_cons, List.mem_append, true_or, or_true])) (W := 0) (Nat.le_of_ble_eq_true rfl) (Nat.le_of_ble_eq_true rfl) (Nat.le_refl _) (by show 0 + A.slots.size ≤ A.slots.size; omega) (g := (mkF m 6 #[.val (.ref a), .val (.ref b)] [.null, .int (Int32.ofNat A.slots.size), .int (Int32.ofNat 0), .ref b, .ref a])) rfl (by rw [hml]; rfl) c2 (argsL := [.ref b, .int (Int32.ofNat 0), .int (Int32.ofNat A.slots.size), .null]) (rest := []) rfl rfl (by show 2 * 0 + 0 ≤ _; decide) (hb hbytes d6) (⟨rfl, hB.mv X0.warmed.alike hh0, f1.al X0.warmed.alike, f2.al X0.warmed.alike, hA.mv X0.warmed.alike hh0, s1.there X0.warmed.alike hh0, hz, l0, by omega, l2, fun i hi => by rw [Nat.zero_add]; exact hp i hi⟩)
  have e0 := Got.mv _ s₁ s _ _ hh0.symm (Vm.Alike.refl _) rfl E3
  obtain rfl := e0.1
  have c4 : Steps p.tables e below (s₁.setTop (entryFrame m #[.ref a, .ref b] 2)) (T3.setTop (mkF m 9 #[.val (.ref a), .val (.ref b)] [])) := g3
  exact ⟨T3, none, _, _, _, X3, by simp, rfl, by omega, (fun _ => rfl), e0, fun fs hl => c4.trans (X3.returnOut hexec hret (hb hbytes d9) hl)⟩
theorem pays {l : Launch} {R : Room} {p : Program} {e : Env} {below : List Frame} {s : State} {sargs : Array Value} {len W : Nat} (a : Addr) (D : Cell) (fV fC : Field) (b : Addr) (A : Cell) (z : Int32) (htab : tab.before sargs s = true) (hfr : 4 ≤ R.frames) (hlo : W + 65 ≤ R.locals) :
    Back l R p e below s sargs yN len W (fun A₁ a₁ => A₁.cells + 1 ≤ R.cells ∧ A₁.slots + A.slots.size ≤ R.slots ∧ P a D fV fC b A z a₁ A₁.U) (fun A₁ _ v₁ B₁ => E a D fV fC A v₁ A₁.U B₁.U ∧ B₁.locs = A₁.locs ++ [⟨a, fC.slot⟩, ⟨a, fV.slot⟩] ∧ B₁.cells = A₁.cells + 1 ∧ B₁.slots = A₁.slots + A.slots.size) :=
  (law l a D fV fC b A z).pays htab hfr (by omega)
end New1
/-- the byte, read back as charAt reads it, is the char -/
theorem lo8_mask {x : Int32} (h0 : ¬ x < 0) (h1 : ¬ 255 < x) : lo8 x &&& 255 = x := by
  have t : ∀ k : Fin 256, lo8 (Int32.ofNat k.val) &&& 255 = Int32.ofNat k.val := by decide +kernel
  rw [Int32.lt_iff_toInt_lt] at h0 h1
  have e0 : (0 : Int32).toInt = 0 := rfl
  have e1 : (255 : Int32).toInt = 255 := rfl
  obtain ⟨k, hk⟩ : ∃ k : Nat, x.toInt = k := ⟨x.toInt.toNat, by omega⟩
  have hx : x = Int32.ofNat k := Int32.toInt_inj.mp (by rw [hk, Int32.toInt_ofNat_small (by omega)])
  rw [hx]
  exact t ⟨k, by omega⟩
end StrChars
namespace StrChars.Road
open Jvm Sem ClassFile Op Lib Jvm.Stand Jvm.Free Jvm.Free.XT
open Jvm.Lib.Cold (StaticIs)
abbrev ST : String := "java/lang/String"
/-- every table word that New1's law asks, flat -/
abbrev words : List Jvm.Cond := [.code New1.yN New1.yB 2 none, .initialized ST, .methodLink ST 27 New4.yN, .instanceMethod New4.yN,
  .code New4.yN New4.yB 6 none, .fieldLink ST 38 ST "COMPACT_STRINGS" "Z", .laysFinal ST ST "value" "[B", .fieldLink ST 9 ST "value" "[B", .laysFinal ST ST "coder" "B", .fieldLink ST 15 ST "coder" "B",
  .methodLink ST 1 Lib.objectInit, .instanceMethod Lib.objectInit, .code Lib.objectInit ⟨#[0xb1]⟩ 1 none, .methodLink ST 177 Cmp3.yN, .static Cmp3.yN, .methodLink ST 47 CodL.yN, .static CodL.yN,
  .code Cmp3.yN Cmp3.yB 6 (some (.array .byte)), .initialized U16, .arrayClass .byte, .methodLink U16 115 Cmp5.yN, .static Cmp5.yN, .code Cmp5.yN Cmp5.yB 7 (some .int), .code CodL.yN CodL.yB 2 (some .byte)]
theorem tab_of {a : Array Value} {s : State} (h : ∀ w ∈ words, w.before a s = true) : New1.tab.before a s = true := by
  have h5 : Cmp5.tab.before a s = true := unparts (wk h (.code Cmp5.yN Cmp5.yB 7 (some .int))) (wks h (.initialized Cmp5.yN.cls :: Cmp5.site))
  have hc : CodL.tab.before a s = true := unparts (wk h (.code CodL.yN CodL.yB 2 (some .byte))) (wks h (.initialized CodL.yN.cls :: CodL.site))
  have q5 : ∀ w ∈ Cmp5.tab :: words, w.before a s = true := fun w hw => (List.mem_cons.mp hw).elim (fun e => e ▸ h5) (h w)
  have h3 : Cmp3.tab.before a s = true := unparts (wk q5 (.code Cmp3.yN Cmp3.yB 6 (some (.array .byte)))) (wks q5 (.initialized Cmp3.yN.cls :: Cmp3.site))
  have q3 : ∀ w ∈ Cmp3.tab :: CodL.tab :: words, w.before a s = true := fun w hw => (List.mem_cons.mp hw).elim (fun e => e ▸ h3) fun hw => (List.mem_cons.mp hw).elim (fun e => e ▸ hc) (h w)
  have h4 : New4.tab.before a s = true := unparts (wk q3 (.code New4.yN New4.yB 6 none)) (wks q3 (.initialized New4.yN.cls :: New4.site))
  have q4 : ∀ w ∈ New4.tab :: words, w.before a s = true := fun w hw => (List.mem_cons.mp hw).elim (fun e => e ▸ h4) (h w)
  exact unparts (wk q4 (.code New1.yN New1.yB 2 none)) (wks q4 (.initialized New1.yN.cls :: New1.site))
/-- the words ride from the start Z to the walk's own state -/
theorem moved {Z s : State} {a0 args : Array Value} (hZ : Z.Warmed39 s.vm) (hw : ∀ d ∈ words, d.before a0 Z = true) : ∀ d ∈ words, d.before args s = true := fun d hd => by
  have q := hw d hd
  have t : ∀ d ∈ words, d = .arrayClass .byte ∨ (d.onTables && d.keepsFace) = true := by decide +kernel
  rcases t d hd with rfl | t
  · exact RoadKit.mvA hZ q
  · exact RoadKit.mv hZ q t
/-- WHAT COMES BACK, over the tables of the start Z: h the heap at the call, h' behind it -/
def Q (Z : State) (x : Addr) (A : Cell) (h : Heap) (v : Option Value) (h' : Heap) (L : List Loc) : Prop := v = none ∧ (∀ y ∈ L, y.base = x) ∧ RoadKit.Keep h h' [x] ∧ h'.size = h.size + 1 ∧ RoadKit.Exa Z h' x ST ∧ RoadKit.Fld Z h' x ST "value" "[B" (.ref h.size) ∧ RoadKit.Fld Z h' x ST "coder" "B" (.int 0) ∧
  (∃ V : Cell, RoadKit.Arr Z h' h.size V .byte ∧ V.vm = .none ∧ Z.vm.findClass "[B" = some V.cls ∧ V.slots.size = A.slots.size ∧ ∀ j, j < A.slots.size → V.slots[j]? = some (.int (lo8 (cv A j)))) ∧
  ∀ (O n d : String) (w : Value), RoadKit.Fld Z h x O n d w → RoadKit.slotOf Z O n d ≠ RoadKit.slotOf Z ST "value" "[B" → RoadKit.slotOf Z O n d ≠ RoadKit.slotOf Z ST "coder" "B" → RoadKit.Fld Z h' x O n d w
/-- **new String(chars) AT A CALL, IN THE ROAD'S FORM**: for specialBack behind newO: x the fresh String, b the char[] with the cell A -/
theorem back {p : Program} {l : Launch} {e : Env} {R : Room} {s : State} {args : Array Value} {below : List Frame} {len W : Nat} {Z : State} {a0 : Array Value} {h : Heap} (hZ : Z.Warmed39 s.vm) (hw : ∀ d ∈ words, d.before a0 Z = true) {kI : Nat} (wi : (Jvm.Cond.instantiable ST kI).before a0 Z = true)
    {x b : Addr} {A : Cell} {z : Int32} {v0 c0 : Value} (E : RoadKit.Exa Z h x ST) (V : RoadKit.Fld Z h x ST "value" "[B" v0) (C : RoadKit.Fld Z h x ST "coder" "B" c0) (K : RoadKit.Arr Z h b A .char) (hty : Typed .char A) (S : RoadKit.Sta Z h ST "COMPACT_STRINGS" "Z" (.int z)) (hz : ¬ z = 0)
    (l0 : 0 < A.slots.size) (l2 : A.slots.size ≤ 536870912) (hp : ∀ i, i < A.slots.size → ¬ 255 < cv A i) (hfr : 4 ≤ R.frames) (hlo : W + 65 ≤ R.locals) :
    Back l R p e below s args New1.yN len W (fun P a => a = #[.ref x, .ref b] ∧ P.U.heap = h ∧ P.cells + 1 ≤ R.cells ∧ P.slots + A.slots.size ≤ R.slots)
      (fun P _ v B => ∃ L, Q Z x A h v B.U.heap L ∧ B.locs = P.locs ++ L ∧ B.cells = P.cells + 1 ∧ B.slots = P.slots + A.slots.size) := by
  intro m meth c P g ig mk a X hg hsize hdg hW hn hp'
  obtain ⟨rfl, rfl, r1, r2⟩ := hp'
  have al : Z.vm.Alike P.U.vm := hZ.alike.trans X.warmed.alike
  obtain ⟨D, cfV, kV, iV, fV, hD, gV, stV, knV, obV, asV, slV⟩ := id V
  obtain ⟨D', cfC, kC, iC, fC, hD', gC, stC, -, -, asC, slC⟩ := id C
  cases hD.symm.trans hD'
  obtain ⟨D2, kD, e1, e2, e3, e4, e5⟩ := id E
  cases hD.symm.trans e1
  obtain ⟨c2, k2, i1, i2, i3, -⟩ := Cond.instantiable_spec wi
  cases e2.symm.trans i1
  cases e3.symm.trans i2
  obtain ⟨kU, u1, u2⟩ := al.2.2 _ _ e3
  have hB : Blank ST x D P.U := ⟨hD, ⟨knV, fun q hq => by rw [hq] at obV; cases obV⟩, by rw [al.findClass]; exact e2, kU, u1, by rw [u2]; exact i3, by rw [u2]; exact e5 i3⟩
  have F1 : Found ST "value" "[B" fV P.U := ⟨SBG.found_only al ⟨cfV, kV, iV, gV⟩, stV⟩
  have F2 : Found ST "coder" "B" fC P.U := ⟨SBG.found_only al ⟨cfC, kC, iC, gC⟩, stC⟩
  have hA : Ch b A P.U := ⟨⟨K.1, State.isArrayOf_alike al K.2.1, K.2.2, by omega⟩, hty⟩
  have hS : StaticIs P.U ST "COMPACT_STRINGS" "Z" (.int z) := by
    obtain ⟨cfS, iS, kS, fS, st, cS, t1, t2, t3, t4, t5, t6, t7⟩ := S
    exact StaticIs.there (s := { Z with heap := P.U.heap }) ⟨cfS, iS, kS, fS, st, cS, t1, t2, t3, t4, t5, (fun q => by rw [q] at t6; cases t6), t7⟩ al rfl
  obtain ⟨v, B, X', ⟨⟨hv, E', V', q1, q2, q3, q4, q5, q6, q7, q8, q9, q10, q11⟩, hl, hc, hs⟩, st⟩ := New1.pays x D fV fC b A z (tab_of (moved hZ hw)) hfr hlo m meth c P g ig mk _ X hg hsize hdg hW hn ⟨r1, r2, rfl, hB, F1, F2, hA, hS, hz, l0, l2, hp⟩
  have al' : Z.vm.Alike B.U.vm := hZ.alike.trans X'.warmed.alike
  have hsz : E'.slots.size = D.slots.size := by
    obtain ⟨-, -, -, kB, w1, w2, w3⟩ := q1
    obtain ⟨kB', y1, y2⟩ := al'.2.2 _ _ e3
    rw [q2.2.1] at w1
    cases w1.symm.trans y1
    rw [w3, e5 i3, y2]
  refine ⟨v, B, X', ⟨_, ⟨hv, ?_, ⟨by omega, fun y cy hy hn' => q10 y cy (by simpa using hn') hy, fun y cy hy => ?_⟩, q11, ⟨E', _, q1.1, by rw [q2.2.1]; exact e2, by rw [q2.2.1]; exact e3, by rw [q2.1]; exact obV, fun _ => by rw [hsz]; exact e5 i3⟩,
    ⟨E', cfV, kV, iV, fV, q1.1, gV, stV, by rw [q2.1]; exact knV, by rw [q2.1]; exact obV, by rw [q2.2.1]; exact asV, q3⟩, ⟨E', cfC, kC, iC, fC, q1.1, gC, stC, by rw [q2.1]; exact knV, by rw [q2.1]; exact obV, by rw [q2.2.1]; exact asC, q4⟩,
    ⟨V', ⟨q5.1, State.isArrayOf_alike al'.symm q5.2.1, q5.2.2.1⟩, q6, by rw [← al'.findClass]; exact q7, q8, fun j hj => by have := q9 j hj; rwa [Nat.zero_add] at this⟩, fun O n d w F n1 n2 => ?_⟩, hl, hc, hs⟩, st⟩
  · intro y hy
    simp only [List.mem_cons, List.not_mem_nil, or_false] at hy
    rcases hy with rfl | rfl <;> rfl
  · by_cases q : y = x
    · subst q
      cases hD.symm.trans hy
      exact ⟨E', q1.1, q2.2.1, q2.1, hsz⟩
    · exact ⟨cy, q10 y cy q hy, rfl, rfl, rfl⟩
  · obtain ⟨D3, cf, k, i, f, g1, g2, g3, g4, g5, g6, g7⟩ := F
    cases hD.symm.trans g1
    simp only [RoadKit.slotOf, g2, gV, gC, Option.map_some, Option.getD_some] at n1 n2
    exact ⟨E', cf, k, i, f, q1.1, g2, g3, by rw [q2.1]; exact g4, by rw [q2.1]; exact g5, by rw [q2.2.1]; exact g6, by rw [q2.2.2 f.slot (by simp [n1, n2])]; exact g7⟩
end StrChars.Road
namespace StrChars.Road
open Jvm Sem ClassFile Op Lib Jvm.Stand Jvm.Free Jvm.Free.XT
/-- WHAT COMES BACK, the byte[] as a list of values -/
def QA (Z : State) (x : Addr) (zn : Int32) (cs : List Int32) (h : Heap) (v : Option Value) (h' : Heap) (L : List Loc) : Prop := v = none ∧ (∀ y ∈ L, y.base = x) ∧ RoadKit.Keep h h' [x] ∧ h'.size = h.size + 1 ∧ RoadKit.Exa Z h' x ST ∧ RoadKit.Fld Z h' x ST "value" "[B" (.ref h.size) ∧ RoadKit.Fld Z h' x ST "coder" "B" (.int 0) ∧
  (∃ kb, Z.vm.findClass "[B" = some kb ∧ RoadKit.Arv Z h' h.size kb .byte zn (cs.map fun c => .int (lo8 c)) (.int 0)) ∧
  ∀ (O n d : String) (w : Value), RoadKit.Fld Z h x O n d w → RoadKit.slotOf Z O n d ≠ RoadKit.slotOf Z ST "value" "[B" → RoadKit.slotOf Z O n d ≠ RoadKit.slotOf Z ST "coder" "B" → RoadKit.Fld Z h' x O n d w
/-- **new String(chars) AT A CALL, THE ARRAYS AS LISTS**: the char[] at b holds cs, not empty, no char above 255 -/
theorem backArv {p : Program} {l : Launch} {e : Env} {R : Room} {s : State} {args : Array Value} {below : List Frame} {len W : Nat} {Z : State} {a0 : Array Value} {h : Heap} (hZ : Z.Warmed39 s.vm) (hw : ∀ d ∈ words, d.before a0 Z = true) {kI : Nat} (wi : (Jvm.Cond.instantiable ST kI).before a0 Z = true)
    {x b : Addr} {k : ClassId} {zn z : Int32} {cs : List Int32} {dv v0 c0 : Value} (E : RoadKit.Exa Z h x ST) (V : RoadKit.Fld Z h x ST "value" "[B" v0) (C : RoadKit.Fld Z h x ST "coder" "B" c0) (K : RoadKit.Arv Z h b k .char zn (cs.map Value.int) dv) (S : RoadKit.Sta Z h ST "COMPACT_STRINGS" "Z" (.int z)) (hz : ¬ z = 0)
    (hlen : zn.toNatClampNeg = cs.length) (h0 : 0 < cs.length) (hbig : cs.length ≤ 536870912) (hall : ∀ c ∈ cs, ¬ 255 < c) (hfr : 4 ≤ R.frames) (hlo : W + 65 ≤ R.locals) :
    Back l R p e below s args New1.yN len W (fun P a => a = #[.ref x, .ref b] ∧ P.U.heap = h ∧ P.cells + 1 ≤ R.cells ∧ P.slots + cs.length ≤ R.slots)
      (fun P _ v B => ∃ L, QA Z x zn cs h v B.U.heap L ∧ B.locs = P.locs ++ L ∧ B.cells = P.cells + 1 ∧ B.slots = P.slots + cs.length) := by
  obtain ⟨A, K1, K2, K3, K4, K5, K6⟩ := K
  have e : A.slots.size = cs.length := K3.trans hlen
  have hat : ∀ (i : Nat) (hi : i < cs.length), A.slots[i]? = some (.int cs[i]) := fun i hi => by rw [K5 i (by omega)]; simp [List.getD_eq_getElem?_getD, hi]
  have hcv : ∀ (i : Nat) (hi : i < cs.length), cv A i = cs[i] := fun i hi => by unfold cv; rw [hat i hi]
  have hty : Typed .char A := fun i v hv => by
    have hi : i < A.slots.size := (Array.getElem?_eq_some_iff.mp hv).1
    have q := K5 i hi
    rw [hv] at q
    rw [Option.some.inj q]
    exact K6 i hi
  refine Back.mono (back hZ hw wi E V C K1 hty S hz (by omega) (by omega) (fun i hi => by rw [hcv i (by omega)]; exact hall _ (List.getElem_mem _)) hfr hlo) (fun P a hp => ⟨hp.1, hp.2.1, hp.2.2.1, by rw [e]; exact hp.2.2.2⟩) (fun P a v B hp hq => ?_)
  obtain ⟨L, ⟨q1, q2, q3, q4, q5, q6, q7, ⟨V', v1, v2, v3, v4, v5⟩, q9⟩, hl, hc, hs⟩ := hq
  refine ⟨L, ⟨q1, q2, q3, q4, q5, q6, q7, ⟨V'.cls, v3, V', v1, rfl, by rw [v4, e, hlen], K4, fun i hi => ?_, fun i hi => ?_⟩, q9⟩, hl, hc, by rw [hs, e]⟩
  · have hi' : i < cs.length := by omega
    rw [v5 i (by omega), hcv i hi']; simp [List.getD_eq_getElem?_getD, hi']
  · have hi' : i < cs.length := by omega
    simp only [List.getD_eq_getElem?_getD, List.getElem?_map, List.getElem?_eq_getElem hi', Option.map_some, Option.getD_some]
    exact fits_lo8 _
end StrChars.Road
namespace StrChars.Road
open Jvm Sem ClassFile Op Lib Jvm.Stand Jvm.Free Jvm.Free.XT
/-- WHAT COMES BACK, in the writer's own shape -/
def QV (Z : State) (x : Addr) (N : Int32) (bs : List Int32) (h : Heap) (n0 : Nat) (v : Option Value) (h' : Heap) (L : List Loc) : Prop := v = none ∧ RoadKit.Fr n0 L ∧ RoadKit.Keep h h' [x] ∧ RoadKit.Exa Z h' x ST ∧ RoadKit.Fld Z h' x ST "coder" "B" (.int 0) ∧
  ∃ (t : Addr) (kb : ClassId), n0 ≤ t ∧ h.size ≤ t ∧ ¬ t = x ∧ RoadKit.Fld Z h' x ST "value" "[B" (.ref t) ∧ RoadKit.Arv Z h' t kb .byte N (bs.map Value.int) (.int 0)
/-- **new String(chars) AT A CALL, FOR THE WRITER**: a char[] of n known ints, each 0 to 255 -/
theorem backV {p : Program} {l : Launch} {e : Env} {R : Room} {s : State} {args : Array Value} {below : List Frame} {len W : Nat} {Z : State} {a0 : Array Value} {h : Heap} (hZ : Z.Warmed39 s.vm) (hw : ∀ d ∈ words, d.before a0 Z = true) {kI : Nat} (wi : (Jvm.Cond.instantiable ST kI).before a0 Z = true)
    {x b : Addr} {kC : ClassId} {cs bs : List Int32} {d v0 c0 : Value} {z N : Int32} {n n0 : Nat} (hx0 : n0 ≤ x) (hh0 : n0 ≤ h.size) (E : RoadKit.Exa Z h x ST) (V : RoadKit.Fld Z h x ST "value" "[B" v0) (C : RoadKit.Fld Z h x ST "coder" "B" c0) (K : RoadKit.Arv Z h b kC .char N (cs.map Value.int) d) (S : RoadKit.Sta Z h ST "COMPACT_STRINGS" "Z" (.int z)) (hz : ¬ z = 0)
    (hn : cs.length = n) (hN : N = Int32.ofNat n) (l0 : 0 < n) (l2 : n ≤ 4000) (hp : ∀ c ∈ cs, ¬ c < 0 ∧ ¬ (255 : Int32) < c) (hb : bs = cs.map (fun c => c.toInt8.toInt32)) (hfr : 4 ≤ R.frames) (hlo : W + 65 ≤ R.locals) :
    Back l R p e below s args (⟨"java/lang/String", "<init>", "([C)V"⟩ : MethodName) len W (fun P a => a = #[.ref x, .ref b] ∧ P.U.heap = h ∧ P.cells + 1 ≤ R.cells ∧ P.slots + n ≤ R.slots)
      (fun P _ v B => ∃ L, QV Z x N bs h n0 v B.U.heap L ∧ B.locs = P.locs ++ L ∧ B.cells = P.cells + 1 ∧ B.slots = P.slots + n) := by
  subst hn hN hb
  refine Back.mono (backArv hZ hw wi E V C K S hz (n32 (by omega)) l0 (by omega) (fun c hc => (hp c hc).2) hfr hlo) (fun P a hp => hp) (fun P a v B hp hq => ?_)
  obtain ⟨L, ⟨q1, q2, q3, q4, q5, q6, q7, ⟨kb, v1, v2⟩, q9⟩, hl, hc, hs⟩ := hq
  exact ⟨L, ⟨q1, fun y hy => by rw [q2 y hy]; exact hx0, q3, q5, q7, h.size, kb, hh0, Nat.le_refl _, Nat.ne_of_gt E.lt, q6, by rw [List.map_map]; exact v2⟩, hl, hc, hs⟩
end StrChars.Road
namespace StrChars
open Jvm Sem ClassFile Op Lib Jvm.Stand Jvm.Free.XT Jvm.Free.ALB Jvm.Free.JM Jvm.Free
open Jvm.Lib.Cold (StaticIs)
def hi8 (x : Int32) : Int32 := lo8 (x >>> ((8 : Int32) &&& 31))
/-- what StringUTF16.getChar makes of two bytes -/
def pairCh (u v : Int32) : Int32 := (((u &&& 255) <<< ((0 : Int32) &&& 31)) ||| ((v &&& 255) <<< ((8 : Int32) &&& 31))).toUInt32.toUInt16.toUInt32.toInt32
theorem shr0 (c : Int32) : c >>> ((0 : Int32) &&& 31) = c := by
  have e : ((0 : Int32) &&& 31) = 0 := by decide
  rw [e]
  apply Int32.toBitVec_inj.mp
  rw [Int32.toBitVec_shiftRight]
  have e1 : ((0 : Int32).toBitVec.smod 32) = 0#32 := by decide
  rw [e1, BitVec.sshiftRight_eq']
  exact BitVec.sshiftRight_zero
theorem lo8_and (x : Int32) : (lo8 x &&& 255).toBitVec.toNat = x.toBitVec.toNat % 256 := by
  have h : (lo8 x).toBitVec = (x.toBitVec.signExtend 8).signExtend 32 := by rw [lo8, Int8.toBitVec_toInt32, Int32.toBitVec_toInt8]
  rw [Int32.toBitVec_and, BitVec.toNat_and, h]
  have e : ((x.toBitVec.signExtend 8).signExtend 32).toNat % 256 = x.toBitVec.toNat % 256 := by
    rw [BitVec.toNat_signExtend]
    have hlt := x.toBitVec.isLt
    simp only [BitVec.toNat_setWidth, BitVec.toNat_signExtend]
    split <;> split <;> omega
  rw [← e]
  exact Nat.and_two_pow_sub_one_eq_mod _ 8
theorem pair_says {c : Int32} (h0 : ¬ c < 0) (h1 : ¬ 65535 < c) : pairCh (lo8 c) (hi8 c) = c := by
  rw [Int32.lt_iff_toInt_lt] at h0 h1
  have e0 : (0 : Int32).toInt = 0 := rfl
  have e1 : (65535 : Int32).toInt = 65535 := rfl
  have hc : c.toInt = c.toBitVec.toNat := by
    have := c.toBitVec.isLt
    have e : c.toInt = c.toBitVec.toInt := rfl
    rw [e] at h0 h1
    rw [e]
    rw [BitVec.toInt_eq_toNat_cond] at h0 h1 ⊢
    split at h0 <;> split <;> omega
  have hn : c.toBitVec.toNat < 65536 := by omega
  have a1 := lo8_and c
  have a2 : (hi8 c &&& 255).toBitVec.toNat = c.toBitVec.toNat / 256 := by
    rw [hi8, lo8_and]
    have e : ((8 : Int32) &&& 31) = 8 := by decide
    rw [e, Int32.toBitVec_shiftRight]
    have e2 : ((8 : Int32).toBitVec.smod 32) = 8#32 := by decide
    rw [e2, BitVec.sshiftRight_eq', BitVec.toNat_sshiftRight_of_msb_false (by rw [BitVec.msb_eq_false_iff_two_mul_lt]; omega)]
    show c.toBitVec.toNat >>> 8 % 256 = _
    rw [Nat.shiftRight_eq_div_pow]
    omega
  unfold pairCh
  apply Int32.toBitVec_inj.mp
  apply BitVec.eq_of_toNat_eq
  have f0 : ((0 : Int32) &&& 31) = 0 := by decide
  have f8 : ((8 : Int32) &&& 31) = 8 := by decide
  rw [f0, f8]
  have g : (((lo8 c &&& 255) <<< (0 : Int32)) ||| ((hi8 c &&& 255) <<< (8 : Int32))).toBitVec.toNat = c.toBitVec.toNat := by
    rw [Int32.toBitVec_or, Int32.toBitVec_shiftLeft, Int32.toBitVec_shiftLeft]
    have s0 : ((0 : Int32).toBitVec.smod 32) = 0#32 := by decide
    have s8 : ((8 : Int32).toBitVec.smod 32) = 8#32 := by decide
    rw [s0, s8, BitVec.toNat_or]
    simp only [BitVec.shiftLeft_eq', BitVec.toNat_shiftLeft, a1, a2]
    show (c.toBitVec.toNat % 256) <<< 0 % 2 ^ 32 ||| (c.toBitVec.toNat / 256) <<< 8 % 2 ^ 32 = _
    rw [Nat.shiftLeft_zero, Nat.mod_eq_of_lt (show c.toBitVec.toNat % 256 < 2 ^ 32 by omega), Nat.mod_eq_of_lt (show (c.toBitVec.toNat / 256) <<< 8 < 2 ^ 32 by rw [Nat.shiftLeft_eq]; omega), Nat.or_comm, ← Nat.shiftLeft_add_eq_or_of_lt (by omega), Nat.shiftLeft_eq]
    omega
  show BitVec.toNat (((((lo8 c &&& 255) <<< (0 : Int32)) ||| ((hi8 c &&& 255) <<< (8 : Int32))).toBitVec.setWidth 16).setWidth 32) = _
  rw [BitVec.toNat_setWidth, BitVec.toNat_setWidth, g]
  omega
end StrChars
namespace StrChars
open Jvm Sem ClassFile Op Lib Jvm.Stand Jvm.Free.XT Jvm.Free.ALB Jvm.Free.JM Jvm.Free
open Jvm.Lib.Cold (StaticIs)
theorem shr1 {n : Nat} (h : 2 * n < 2 ^ 31) : Int32.ofNat (2 * n) >>> ((1 : Int32) &&& 31) = Int32.ofNat n := by
  have e : ((1 : Int32) &&& 31) = 1 := by decide
  rw [e]
  apply Int32.toBitVec_inj.mp
  rw [Int32.toBitVec_shiftRight]
  have e1 : ((1 : Int32).toBitVec.smod 32) = 1#32 := by decide
  have hm : (BitVec.ofNat 32 (2 * n)).toNat = 2 * n := by rw [BitVec.toNat_ofNat, Nat.mod_eq_of_lt (by omega)]
  rw [e1, BitVec.sshiftRight_eq']
  apply BitVec.eq_of_toNat_eq
  show ((BitVec.ofNat 32 (2 * n)).sshiftRight 1).toNat = (BitVec.ofNat 32 n).toNat
  rw [BitVec.toNat_sshiftRight_of_msb_false (by rw [BitVec.msb_eq_false_iff_two_mul_lt, hm]; omega), hm, BitVec.toNat_ofNat, Nat.shiftRight_eq_div_pow]
  omega
/-- charAt's cast of a byte read back -/
def chr8 (u : Int32) : Int32 := (u &&& 255).toUInt32.toUInt16.toUInt32.toInt32
theorem chr8_lo8 {c : Int32} (h0 : ¬ c < 0) (h1 : ¬ 255 < c) : chr8 (lo8 c) = c := by
  have t : ∀ k : Fin 256, (Int32.ofNat k.val).toUInt32.toUInt16.toUInt32.toInt32 = Int32.ofNat k.val := by decide +kernel
  unfold chr8
  rw [lo8_mask h0 h1]
  rw [Int32.lt_iff_toInt_lt] at h0 h1
  have e0 : (0 : Int32).toInt = 0 := rfl
  have e1 : (255 : Int32).toInt = 255 := rfl
  obtain ⟨k, hk⟩ : ∃ k : Nat, c.toInt = k := ⟨c.toInt.toNat, by omega⟩
  have hx : c = Int32.ofNat k := Int32.toInt_inj.mp (by rw [hk, Int32.toInt_ofNat_small (by omega)])
  rw [hx]
  exact t ⟨k, by omega⟩
theorem narrow_ch {c : Int32} (h0 : ¬ c < 0) (h1 : ¬ 65535 < c) : narrow .char (.int c) = .int c := by
  have q : narrow .char (.int (pairCh (lo8 c) (hi8 c))) = .int (pairCh (lo8 c) (hi8 c)) := narrow_c _
  rwa [pair_says h0 h1] at q
/-- the array's cell V codes the n chars f 0 .. f (n - 1) by the coder cd, as the JDK does: coder 1 just where some char is above 255 -/
def Cod (cd : Int32) (n : Nat) (f : Nat → Int32) (V : Cell) : Prop := (cd = 0 ∧ V.slots.size = n ∧ ∀ j, j < n → V.slots[j]? = some (.int (lo8 (f j))) ∧ ¬ 255 < f j) ∨ (cd = 1 ∧ V.slots.size = 2 * n ∧ (∀ j, j < n → V.slots[2 * j]? = some (.int (lo8 (f j))) ∧ V.slots[2 * j + 1]? = some (.int (hi8 (f j)))) ∧ ∃ j, j < n ∧ 255 < f j)
theorem Cod.cd {cd : Int32} {n : Nat} {f : Nat → Int32} {V : Cell} (h : Cod cd n f V) : cd = 0 ∨ cd = 1 := h.imp (fun q => q.1) fun q => q.1
theorem Cod.len {cd : Int32} {n : Nat} {f : Nat → Int32} {V : Cell} (h : Cod cd n f V) (hs : V.slots.size < 2 ^ 31) : Int32.ofNat V.slots.size >>> (cd &&& 31) = Int32.ofNat n := by
  rcases h with ⟨rfl, h, -⟩ | ⟨rfl, h, -⟩
  · rw [shr0, h]
  · rw [h, shr1 (by omega)]
/-- **x is a String of the n chars f 0 .. f (n - 1)**, Latin-1 or UTF-16; its array at t has the cell V -/
def Txt (x t : Addr) (V : Cell) (cd : Int32) (n : Nat) (f : Nat → Int32) (U : State) : Prop := Exact "java/lang/String" x U ∧ Has x "java/lang/String" "value" "[B" (.ref t) U ∧ Has x "java/lang/String" "coder" "B" (.int cd) U ∧ XT.Arr .byte t V U ∧ Cod cd n f V ∧ ∀ j, j < n → ¬ f j < 0 ∧ ¬ 65535 < f j
theorem Txt.mv {x t : Addr} {V : Cell} {cd : Int32} {n : Nat} {f : Nat → Int32} {U U' : State} (h : Txt x t V cd n f U) (hal : U.vm.Alike U'.vm) (hh : U'.heap = U.heap) : Txt x t V cd n f U' := ⟨h.1.mv hal hh, h.2.1.mv hal hh, h.2.2.1.mv hal hh, h.2.2.2.1.mv hal hh, h.2.2.2.2⟩
namespace Cdr
def yN : MethodName := ⟨"java/lang/String", "coder", "()B"⟩
abbrev yB : ByteArray := jdk_42_method_152_code
theorem d0 : decode yB 0 = .ok (.getstatic 38, 3) := by decide +kernel
theorem d3 : decode yB 3 = .ok (.ifCond (.eq) 10, 3) := by decide +kernel
theorem d6 : decode yB 6 = .ok (.aload_n 0, 1) := by decide +kernel
theorem d7 : decode yB 7 = .ok (.getfield 15, 3) := by decide +kernel
theorem d10 : decode yB 10 = .ok (.goto 4, 3) := by decide +kernel
theorem d14 : decode yB 14 = .ok (.ireturn, 1) := by decide +kernel
def site : List Cond := [.fieldLink "java/lang/String" 38 "java/lang/String" "COMPACT_STRINGS" "Z", .fieldLink "java/lang/String" 15 "java/lang/String" "coder" "B"]
def tab : Cond := tabOf yN yB 1 (some .byte) site
def P (x : Addr) (cd z : Int32) (args : Array Value) (s : State) : Prop := args = #[.ref x] ∧ Has x "java/lang/String" "coder" "B" (.int cd) s ∧ (cd = 0 ∨ cd = 1) ∧ StaticIs s "java/lang/String" "COMPACT_STRINGS" "Z" (.int z) ∧ ¬ z = 0
def E (cd : Int32) (r : Option Value) (s u : State) : Prop := XT.PureE (some (.int cd)) r s u
theorem law (l : Launch) (x : Addr) (cd z : Int32) : Law l yN 1 0 0 0 yB 1 (some .byte) site (P x cd z) (E cd) [] 0 0 := by
  refine Law.of_walk (plainFor_of_name (by decide +kernel)) (by decide +kernel) (by decide +kernel) (by decide) (fun _ _ h => by rw [h.1]; rfl) (fun _ U U' hal hh h => ⟨h.1, h.2.1.mv hal hh, h.2.2.1, h.2.2.2.1.there hal hh, h.2.2.2.2⟩) (fun r U U' V V' h1 hal h2 h => XT.PureE.mv r U U' V V' h1 hal h2 h) ?_
  intro p e s m args below meth c s₁ X0 hexec hbytes hml hret hlk hnm hown hh0 W hP
  obtain ⟨rfl, hx, hc, s1, hz⟩ := hP
  have c1 : Steps p.tables e below (s₁.setTop (entryFrame m #[.ref x] 1)) (s₁.setTop (mkF m 0 #[.val (.ref x)] [])) := entry rfl
  obtain ⟨T2, X2, q2, st2⟩ := X0.sget hexec hown (wk W (.fieldLink "java/lang/String" 38 "java/lang/String" "COMPACT_STRINGS" "Z")) s1 (fun _ _ h => by rw [hh0]; exact h) (g := (mkF m 0 #[.val (.ref x)] [])) rfl (hb hbytes d0)
  have hh2 := q2.trans hh0
  have c3 : Steps p.tables e below (s₁.setTop (entryFrame m #[.ref x] 1)) (T2.setTop (mkF m 7 #[.val (.ref x)] [.ref x])) := (c1.trans (st2 _ (Steps.refl _))).trans (by
    refine XS.ifNo X2.here hexec rfl (hb hbytes d3) rfl (i0_eq_f hz) ?_
    refine XS.aloadN X2.here hexec rfl (hb hbytes d6) rfl rfl ?_
    exact Steps.refl _)
  obtain ⟨T4, X4, q4, st4⟩ := X2.hget hexec hown (wk W (.fieldLink "java/lang/String" 15 "java/lang/String" "coder" "B")) (hx.mv X2.warmed.alike hh2) (g := (mkF m 7 #[.val (.ref x)] [.ref x])) rfl (rest := []) rfl (hb hbytes d7)
  have c5 : Steps p.tables e below (s₁.setTop (entryFrame m #[.ref x] 1)) (T4.setTop (mkF m 14 #[.val (.ref x)] [.int cd])) := (c3.trans (st4 _ (Steps.refl _))).trans (by
    refine XS.goto X4.here hexec rfl (pc0 := 10) rfl (hb hbytes d10) (by decide) rfl ?_
    exact Steps.refl _)
  exact ⟨T4, some (.int cd), _, _, _, X4, rfl, rfl, rfl, (fun h => by cases h), ⟨rfl, q4.trans hh2⟩, fun fs hl => c5.trans (X4.ireturnOut hexec hret (by rcases hc with rfl | rfl <;> rfl) (Or.inr (Or.inr (Or.inl rfl))) (hb hbytes d14) hl)⟩
end Cdr
namespace Len
def yN : MethodName := ⟨"java/lang/String", "length", "()I"⟩
abbrev yB : ByteArray := jdk_42_method_54_code
theorem d0 : decode yB 0 = .ok (.aload_n 0, 1) := by decide +kernel
theorem d1 : decode yB 1 = .ok (.getfield 9, 3) := by decide +kernel
theorem d4 : decode yB 4 = .ok (.arraylength, 1) := by decide +kernel
theorem d5 : decode yB 5 = .ok (.aload_n 0, 1) := by decide +kernel
theorem d6 : decode yB 6 = .ok (.invokevirtual 335, 3) := by decide +kernel
theorem d9 : decode yB 9 = .ok (.ishr, 1) := by decide +kernel
theorem d10 : decode yB 10 = .ok (.ireturn, 1) := by decide +kernel
def site : List Cond := [.fieldLink "java/lang/String" 9 "java/lang/String" "value" "[B", Cdr.tab] ++ virtW "java/lang/String" 335 "java/lang/String" Cdr.yN Cdr.yN
def tab : Cond := tabOf yN yB 1 (some .int) site
def P (x t : Addr) (V : Cell) (cd : Int32) (n : Nat) (f : Nat → Int32) (z : Int32) (args : Array Value) (s : State) : Prop := args = #[.ref x] ∧ Txt x t V cd n f s ∧ StaticIs s "java/lang/String" "COMPACT_STRINGS" "Z" (.int z) ∧ ¬ z = 0
def E (n : Nat) (r : Option Value) (s u : State) : Prop := XT.PureE (some (.int (Int32.ofNat n))) r s u
/-- length() of a String of n chars, in either coding -/
theorem law (l : Launch) (x t : Addr) (V : Cell) (cd : Int32) (n : Nat) (f : Nat → Int32) (z : Int32) : Law l yN 1 0 1 13 yB 1 (some .int) site (P x t V cd n f z) (E n) [] 0 0 := by
  refine Law.of_walk (plainFor_of_name (by decide +kernel)) (by decide +kernel) (by decide +kernel) (by decide) (fun _ _ h => by rw [h.1]; rfl) (fun _ U U' hal hh h => ⟨h.1, h.2.1.mv hal hh, h.2.2.1.there hal hh, h.2.2.2⟩) (fun r U U' V V' h1 hal h2 h => XT.PureE.mv r U U' V V' h1 hal h2 h) ?_
  intro p e s m args below meth c s₁ X0 hexec hbytes hml hret hlk hnm hown hh0 W hP
  obtain ⟨rfl, hx, s1, hz⟩ := hP
  have v31 := hx.2.2.2.1.2.2.2
  have c1 : Steps p.tables e below (s₁.setTop (entryFrame m #[.ref x] 1)) (s₁.setTop (mkF m 1 #[.val (.ref x)] [.ref x])) := Steps.trans (entry rfl) (by
    show Steps p.tables e below (s₁.setTop (mkF m 0 #[.val (.ref x)] [])) _
    refine XS.aloadN X0.here hexec rfl (hb hbytes d0) rfl rfl ?_
    exact Steps.refl _)
  obtain ⟨T2, X2, q2, st2⟩ := X0.hget hexec hown (wk W (.fieldLink "java/lang/String" 9 "java/lang/String" "value" "[B")) (hx.mv X0.warmed.alike hh0).2.1 (g := (mkF m 1 #[.val (.ref x)] [.ref x])) rfl (rest := []) rfl (hb hbytes d1)
  have hh2 := q2.trans hh0
  have hx2 := hx.mv X2.warmed.alike hh2
  have c3 : Steps p.tables e below (s₁.setTop (entryFrame m #[.ref x] 1)) (T2.setTop (mkF m 6 #[.val (.ref x)] [.ref x, .int (Int32.ofNat V.slots.size)])) := (c1.trans (st2 _ (Steps.refl _))).trans (by
    refine X2.alen hexec hx2.2.2.2.1 rfl rfl (hb hbytes d4) ?_
    refine XS.aloadN X2.here hexec rfl (hb hbytes d5) rfl rfl ?_
    exact Steps.refl _)
  obtain ⟨v4, T4, X4, E4, g4⟩ := X2.callV hexec (Cdr.law l x cd z) hown (wks W (virtW "java/lang/String" 335 "java/lang/String" Cdr.yN Cdr.yN)) rfl (by decide) (wk W Cdr.tab) (W := 1) (Nat.le_of_ble_eq_true rfl) (Nat.le_of_ble_eq_true rfl) (Nat.le_refl _) (Nat.le_refl _) (hx2.1.fc X2.warmed.alike) hx2.1.is (g := (mkF m 6 #[.val (.ref x)] [.ref x, .int (Int32.ofNat V.slots.size)])) rfl (by rw [hml]; rfl) c3 (argsL := []) (rest := [.int (Int32.ofNat V.slots.size)]) rfl rfl (by show 2 * 0 + (1 + 0) ≤ _; decide) (hb hbytes d6) (⟨rfl, hx2.2.2.1, hx.2.2.2.2.1.cd, s1.there X2.warmed.alike hh2, hz⟩)
  obtain ⟨rfl, q4⟩ := E4
  have c5 : Steps p.tables e below (s₁.setTop (entryFrame m #[.ref x] 1)) (T4.setTop (mkF m 10 #[.val (.ref x)] [.int (Int32.ofNat V.slots.size >>> (cd &&& 31))])) := Steps.trans g4 (by
    refine ishr X4.here hexec rfl (hb hbytes d9) rfl ?_
    exact Steps.refl _)
  rw [hx.2.2.2.2.1.len v31] at c5
  exact ⟨T4, some (.int (Int32.ofNat n)), _, _, _, X4, rfl, rfl, rfl, (fun h => by cases h), ⟨rfl, q4.trans hh2⟩, fun fs hl => c5.trans (X4.ireturnOut hexec hret rfl (Or.inl rfl) (hb hbytes d10) hl)⟩
theorem pays {l : Launch} {R : Room} {p : Program} {e : Env} {below : List Frame} {s : State} {sargs : Array Value} {len W : Nat} (x t : Addr) (V : Cell) (cd : Int32) (n : Nat) (f : Nat → Int32) (z : Int32) (htab : tab.before sargs s = true) (hfr : 2 ≤ R.frames) (hlo : W + 25 ≤ R.locals) :
    Back l R p e below s sargs yN len W (fun A₁ a₁ => A₁.cells + 0 ≤ R.cells ∧ A₁.slots + 0 ≤ R.slots ∧ P x t V cd n f z a₁ A₁.U) (fun A₁ _ v₁ B₁ => E n v₁ A₁.U B₁.U ∧ B₁.locs = A₁.locs ++ [] ∧ B₁.cells = A₁.cells + 0 ∧ B₁.slots = A₁.slots + 0) :=
  (law l x t V cd n f z).pays htab hfr (by omega)
end Len
end StrChars
namespace StrChars.Road
open Jvm Sem ClassFile Op Lib Jvm.Stand Jvm.Free Jvm.Free.XT
open Jvm.Lib.Cold (StaticIs)
theorem consq {a : Array Value} {s : State} {c : Jvm.Cond} {L : List Jvm.Cond} (h0 : c.before a s = true) (h : ∀ w ∈ L, w.before a s = true) : ∀ w ∈ c :: L, w.before a s = true := fun w hw => (List.mem_cons.mp hw).elim (fun e => e ▸ h0) (h w)
/-- the words of String.length(), either coding -/
abbrev wordsLen : List Jvm.Cond := [.code Len.yN Len.yB 1 (some .int), .initialized ST, .fieldLink ST 9 ST "value" "[B", .fieldLink ST 38 ST "COMPACT_STRINGS" "Z", .fieldLink ST 15 ST "coder" "B", .code Cdr.yN Cdr.yB 1 (some .byte), .methodLink ST 335 Cdr.yN, .declares Cdr.yN, .selects ST Cdr.yN Cdr.yN, .instanceMethod Cdr.yN]
theorem tabLen_of {a : Array Value} {s : State} (h : ∀ w ∈ wordsLen, w.before a s = true) : Len.tab.before a s = true := by
  have hc : Cdr.tab.before a s = true := unparts (wk h (.code Cdr.yN Cdr.yB 1 (some .byte))) (wks h (.initialized Cdr.yN.cls :: Cdr.site))
  have q := consq hc h
  exact unparts (wk q (.code Len.yN Len.yB 1 (some .int))) (wks q (.initialized Len.yN.cls :: Len.site))
theorem movedLen {Z s : State} {a0 args : Array Value} (hZ : Z.Warmed39 s.vm) (hw : ∀ d ∈ wordsLen, d.before a0 Z = true) : ∀ d ∈ wordsLen, d.before args s = true := fun d hd => by
  have q := hw d hd
  have t : ∀ d ∈ wordsLen, d = .arrayClass .byte ∨ (d.onTables && d.keepsFace) = true := by decide +kernel
  rcases t d hd with rfl | t
  · exact RoadKit.mvA hZ q
  · exact RoadKit.mv hZ q t
/-- the bytes of the chars cs, low before high -/
def wideBytes : List Int32 → List Value
  | [] => []
  | c :: cs => .int (lo8 c) :: .int (hi8 c) :: wideBytes cs
theorem wide_lo (d : Value) : ∀ (cs : List Int32) (j : Nat), j < cs.length → (wideBytes cs).getD (2 * j) d = .int (lo8 (cs.getD j 0))
  | [], j, h => absurd h (Nat.not_lt_zero j)
  | c :: cs, 0, _ => rfl
  | c :: cs, j + 1, h => by
    have q := wide_lo d cs j (by simpa using h)
    rw [show 2 * (j + 1) = 2 * j + 1 + 1 from by omega]
    simpa [wideBytes] using q
theorem wide_hi (d : Value) : ∀ (cs : List Int32) (j : Nat), j < cs.length → (wideBytes cs).getD (2 * j + 1) d = .int (hi8 (cs.getD j 0))
  | [], j, h => absurd h (Nat.not_lt_zero j)
  | c :: cs, 0, _ => rfl
  | c :: cs, j + 1, h => by
    have q := wide_hi d cs j (by simpa using h)
    rw [show 2 * (j + 1) + 1 = 2 * j + 1 + 1 + 1 from by omega]
    simpa [wideBytes] using q
theorem low_at (d : Value) (cs : List Int32) (j : Nat) (h : j < cs.length) : (cs.map fun c => Value.int (lo8 c)).getD j d = .int (lo8 (cs.getD j 0)) := by
  simp [List.getD_eq_getElem?_getD, h]
/-- an array of N2 bytes vs codes the chars cs by the coder cd -/
def CodA (cs : List Int32) (cd N2 : Int32) (vs : List Value) : Prop := (cd = 0 ∧ N2 = Int32.ofNat cs.length ∧ vs = (cs.map fun c => Value.int (lo8 c)) ∧ ∀ c ∈ cs, ¬ 255 < c) ∨ (cd = 1 ∧ N2 = Int32.ofNat (2 * cs.length) ∧ vs = wideBytes cs ∧ ∃ c ∈ cs, 255 < c)
theorem CodA.cod {cs : List Int32} {cd N2 : Int32} {vs : List Value} {V : Cell} (h : CodA cs cd N2 vs) (hn : 2 * cs.length < 2 ^ 31) (hs : V.slots.size = N2.toNatClampNeg) (hv : RoadKit.Has V vs (.int 0)) : Cod cd cs.length (fun j => cs.getD j 0) V := by
  rcases h with ⟨rfl, rfl, rfl, h⟩ | ⟨rfl, rfl, rfl, c, hc, hw⟩
  · rw [n32 (by omega)] at hs
    exact Or.inl ⟨rfl, hs, fun j hj => ⟨by rw [hv j (by omega), low_at _ _ _ hj], by
      have e : cs.getD j 0 = cs[j] := by simp [List.getD_eq_getElem?_getD, hj]
      show ¬ 255 < cs.getD j 0
      rw [e]; exact h _ (List.getElem_mem _)⟩⟩
  · rw [n32 (by omega)] at hs
    obtain ⟨j, hj, rfl⟩ := List.getElem_of_mem hc
    exact Or.inr ⟨rfl, hs, fun j hj => ⟨by rw [hv _ (by omega), wide_lo _ _ _ hj], by rw [hv _ (by omega), wide_hi _ _ _ hj]⟩, j, hj, by
      have e : cs.getD j 0 = cs[j] := by simp [List.getD_eq_getElem?_getD, hj]
      show 255 < cs.getD j 0
      rw [e]; exact hw⟩
/-- an object of exactly java/lang/String, its two fields found: as the laws ask it -/
theorem strObj {Z U : State} {a0 : Array Value} {kI : Nat} (wi : (Jvm.Cond.instantiable ST kI).before a0 Z = true) (al : Z.vm.Alike U.vm) {x : Addr} {v0 c0 : Value} (E : RoadKit.Exa Z U.heap x ST) (V : RoadKit.Fld Z U.heap x ST "value" "[B" v0) (C : RoadKit.Fld Z U.heap x ST "coder" "B" c0) :
    ∃ (D : Cell) (fV fC : Field), Blank ST x D U ∧ Found ST "value" "[B" fV U ∧ Found ST "coder" "B" fC U ∧ D.slots[fV.slot]? = some v0 ∧ D.slots[fC.slot]? = some c0 ∧ RoadKit.slotOf Z ST "value" "[B" = fV.slot ∧ RoadKit.slotOf Z ST "coder" "B" = fC.slot := by
  obtain ⟨D, cfV, kV, iV, fV, hD, gV, stV, knV, obV, asV, slV⟩ := V
  obtain ⟨D', cfC, kC, iC, fC, hD', gC, stC, -, -, asC, slC⟩ := C
  cases hD.symm.trans hD'
  obtain ⟨D2, kD, e1, e2, e3, e4, e5⟩ := E
  cases hD.symm.trans e1
  obtain ⟨c2, k2, i1, i2, i3, -⟩ := Cond.instantiable_spec wi
  cases e2.symm.trans i1
  cases e3.symm.trans i2
  obtain ⟨kU, u1, u2⟩ := al.2.2 _ _ e3
  exact ⟨D, fV, fC, ⟨hD, ⟨knV, fun q hq => by rw [hq] at obV; cases obV⟩, by rw [al.findClass]; exact e2, kU, u1, by rw [u2]; exact i3, by rw [u2]; exact e5 i3⟩, ⟨SBG.found_only al ⟨cfV, kV, iV, gV⟩, stV⟩, ⟨SBG.found_only al ⟨cfC, kC, iC, gC⟩, stC⟩, slV, slC, by simp [RoadKit.slotOf, gV], by simp [RoadKit.slotOf, gC]⟩
theorem sta_is {Z U : State} (al : Z.vm.Alike U.vm) {C n d : String} {v : Value} (S : RoadKit.Sta Z U.heap C n d v) : StaticIs U C n d v := by
  obtain ⟨cfS, iS, kS, fS, st, cS, t1, t2, t3, t4, t5, t6, t7⟩ := S
  exact StaticIs.there (s := { Z with heap := U.heap }) ⟨cfS, iS, kS, fS, st, cS, t1, t2, t3, t4, t5, (fun q => by rw [q] at t6; cases t6), t7⟩ al rfl
/-- **length() OF SUCH A STRING** -/
theorem lenW {p : Program} {l : Launch} {e : Env} {R : Room} {s : State} {args : Array Value} {below : List Frame} {len W : Nat} {Z : State} {a0 : Array Value} {h : Heap} (hZ : Z.Warmed39 s.vm) (hw : ∀ d ∈ wordsLen, d.before a0 Z = true) {kI : Nat} (wi : (Jvm.Cond.instantiable ST kI).before a0 Z = true)
    {x t : Addr} {kb : ClassId} {cs : List Int32} {cd N2 z : Int32} {vs : List Value} (E : RoadKit.Exa Z h x ST) (V : RoadKit.Fld Z h x ST "value" "[B" (.ref t)) (C : RoadKit.Fld Z h x ST "coder" "B" (.int cd)) (K : RoadKit.Arv Z h t kb .byte N2 vs (.int 0)) (hc : CodA cs cd N2 vs) (hb : ∀ c ∈ cs, ¬ c < 0 ∧ ¬ (65535 : Int32) < c)
    (S : RoadKit.Sta Z h ST "COMPACT_STRINGS" "Z" (.int z)) (hz : ¬ z = 0) (l2 : cs.length ≤ 4000) (hfr : 2 ≤ R.frames) (hlo : W + 25 ≤ R.locals) :
    Back l R p e below s args (⟨"java/lang/String", "length", "()I"⟩ : MethodName) len W (fun P a => a = #[.ref x] ∧ P.U.heap = h ∧ P.cells + 0 ≤ R.cells ∧ P.slots + 0 ≤ R.slots)
      (fun P _ v B => ∃ L, (v = some (.int (Int32.ofNat cs.length)) ∧ L = [] ∧ B.U.heap = h) ∧ B.locs = P.locs ++ L ∧ B.cells = P.cells + 0 ∧ B.slots = P.slots + 0) := by
  obtain ⟨A, K1, K2, K3, K4, K5, K6⟩ := K
  have hcod := hc.cod (by omega) K3 K5
  intro m meth c P g ig mk a X hg hsize hdg hW hn hp'
  obtain ⟨rfl, rfl, r1, r2⟩ := hp'
  have al : Z.vm.Alike P.U.vm := hZ.alike.trans X.warmed.alike
  obtain ⟨D, fV, fC, hB, F1, F2, g1, g2, -, -⟩ := strObj wi al E V C
  have hx : Txt x t A cd cs.length (fun j => cs.getD j 0) P.U := ⟨⟨_, hB.2.2.1, D, hB.1, rfl, by cases q : D.vm <;> first | rfl | exact absurd q (hB.2.1.2 _)⟩, Has.of hB F1 g1, Has.of hB F2 g2, ⟨K1.1, State.isArrayOf_alike al K1.2.1, K1.2.2, by rcases hcod with ⟨-, q, -⟩ | ⟨-, q, -⟩ <;> omega⟩, hcod, fun j hj => by
    have e : cs.getD j 0 = cs[j] := by simp [List.getD_eq_getElem?_getD, hj]
    show ¬ cs.getD j 0 < 0 ∧ ¬ 65535 < cs.getD j 0
    rw [e]; exact hb _ (List.getElem_mem _)⟩
  obtain ⟨v, B, X', ⟨⟨hv, hh⟩, hl, hk, hs⟩, st⟩ := Len.pays x t A cd cs.length (fun j => cs.getD j 0) z (tabLen_of (movedLen hZ hw)) hfr hlo m meth c P g ig mk _ X hg hsize hdg hW hn ⟨r1, r2, rfl, hx, sta_is al S, hz⟩
  exact ⟨v, B, X', ⟨[], ⟨hv, rfl, hh⟩, hl, hk, hs⟩, st⟩
end StrChars.Road
namespace StrChars.Road
open Jvm Sem ClassFile Op Lib Jvm.Stand Jvm.Free Jvm.Free.XT
open Jvm.Lib.Cold (StaticIs)
/-- what backV says of its String, as the contracts of this text ask it: cs's low bytes, coder 0 -/
theorem codOf {cs : List Int32} {n : Nat} (hn : cs.length = n) (hb : ∀ c ∈ cs, ¬ 255 < c) : CodA cs 0 (Int32.ofNat n) ((cs.map lo8).map Value.int) := Or.inl ⟨rfl, by rw [hn], by simp [List.map_map, Function.comp_def], hb⟩
end StrChars.Road
end Jvm.Pilot.@@N@@
namespace Jvm.Pilot.@@N@@
open Jvm Jvm.ClassFile Sem Op Lib Jvm.Free Jvm.Stand Jvm.LawKit Jvm.RoadKit Bundle Jvm.Pilot.@@N@@.Jvm.D
section OwnKit
variable {p : Program} {l : Launch} {e : Env} {R : Room} {s : State} {m : MethodId} {args : Array Value} {below : List Frame} {meth : Method} {c : Code} {T T' : State} {locs : List Loc} {cells slots : Nat} {g g' : JFrame} {G : State → Outcome → Prop} {Z : State} {a0 : Array Value} {h : Heap} {y : MethodName} {own : String} {index : Nat} {bytes : ByteArray} {maxL : Nat} {ret : Option FieldType} {W : Nat} {as' : Array Value} {rc rs : Nat} {Q : Option Value → Heap → List Loc → Prop} {argsL rest : List Value} {a b : Addr} {k : ClassId} {ty : FieldType} {n j : Int32} {vs : List Value} {d v : Value}
/-- the run from this frame comes to the end that the body owes -/
def own_Fin (p : Program) (e : Env) (below : List Frame) (G : State → Outcome → Prop) (T : State) (g : JFrame) : Prop := ∃ s₂ o, Steps p.tables e below (T.setTop g) s₂ ∧ s₂.status = .running ∧ Ended s₂ below o ∧ G s₂ o
theorem own_step (h1 : ∀ t, Steps p.tables e below (T'.setTop g') t → Steps p.tables e below (T.setTop g) t) (k1 : own_Fin p e below G T' g') : own_Fin p e below G T g := by
  obtain ⟨s2, o, q, r⟩ := k1; exact ⟨s2, o, h1 _ q, r⟩
theorem own_cast (q : g = g') (k1 : own_Fin p e below G T g') : own_Fin p e below G T g := q ▸ k1
/-- what a body owes at its end -/
abbrev own_G (s : State) (Q : Option Value → Heap → List Loc → Prop) (rc rs : Nat) : State → Outcome → Prop := fun s₂ o => ∃ v L, o = .returned v ∧ Q v s₂.heap L ∧ FrameEnd s o s₂ L rc rs
theorem own_end (X : Stand p l e R s m args below meth c T locs cells slots) {v : Option Value} (hv : meth.sig.returnType = none → v = none) (hlk : meth.locks = false)
    (st : ∀ fs, (∀ (f : JFrame) (acts : List Action), f.method = m → f.locked = none → f.entered = [] → (doReturn e (T.setTop f) acts v).1 = T.setFrames fs) → Steps p.tables e below (T.setTop g) (T.setFrames fs))
    (hQ : Q v T.heap locs) (hc : cells ≤ rc) (hs : slots ≤ rs) : own_Fin p e below (own_G s Q rc rs) T g := by
  obtain ⟨fs, hr, hrun, hended, hW, hsame⟩ := X.leave hv hlk
  exact ⟨_, _, st fs hr, hrun, hended, v, locs, rfl, hQ, ⟨_, rfl⟩, hW, hsame.mono hc hs⟩
theorem own_cat_int (z : Int32) : (Value.int z).category = 1 := rfl
theorem own_cat_long (z : Int64) : (Value.long z).category = 2 := rfl
theorem own_cat_ref (z : Addr) : (Value.ref z).category = 1 := rfl
theorem own_cat_null : Value.null.category = 1 := rfl
theorem own_narR {w : Value} (h1 : w.isRef = true) {t : FieldType} (ht : t.isReference = true) : narrow t w = w := by cases w <;> cases t <;> first | rfl | (exact absurd h1 (by decide)) | (exact absurd ht (by decide)) | simp_all [Value.isRef, FieldType.isReference]
theorem own_fitR {w : Value} (h1 : w.isRef = true) {t : FieldType} (ht : t.isReference = true) : fits t w = true := by cases w <;> cases t <;> first | rfl | (exact absurd h1 (by decide)) | (exact absurd ht (by decide)) | simp_all [Value.isRef, FieldType.isReference]
theorem own_retI (X : Stand p l e R s m args below meth c T locs cells slots) (hx : p.tables.exec = Jvm.exec) {pc : Nat} {Ls : Array Slot} {z : Int32} (hret : meth.sig.returnType = some .int) (hd : decode c.code pc = .ok (.ireturn, 1)) (hlk : meth.locks = false)
    (hQ : Q (some (.int z)) T.heap locs) (hc : cells ≤ rc) (hs : slots ≤ rs) : own_Fin p e below (own_G s Q rc rs) T (mkF m pc Ls (.int z :: rest)) :=
  own_end X (fun q => by rw [hret] at q; cases q) hlk (fun fs hr => retOut X hx hret rfl (Or.inl ⟨rfl, Or.inl rfl, z, rfl⟩) hd hr) hQ hc hs
theorem own_retN (X : Stand p l e R s m args below meth c T locs cells slots) (hx : p.tables.exec = Jvm.exec) {pc : Nat} {Ls : Array Slot} {z : Int32} {t : FieldType} (hret : meth.sig.returnType = some t) (ht : t = .boolean ∨ t = .byte ∨ t = .char ∨ t = .short) (hd : decode c.code pc = .ok (.ireturn, 1)) (hlk : meth.locks = false)
    (hQ : Q (some (.int (nar t z))) T.heap locs) (hc : cells ≤ rc) (hs : slots ≤ rs) : own_Fin p e below (own_G s Q rc rs) T (mkF m pc Ls (.int z :: rest)) :=
  own_end X (fun q => by rw [hret] at q; cases q) hlk (fun fs hr => retN X hx hret ht hd hr) hQ hc hs
theorem own_retL (X : Stand p l e R s m args below meth c T locs cells slots) (hx : p.tables.exec = Jvm.exec) {pc : Nat} {Ls : Array Slot} {z : Int64} (hret : meth.sig.returnType = some .long) (hd : decode c.code pc = .ok (.lreturn, 1)) (hlk : meth.locks = false)
    (hQ : Q (some (.long z)) T.heap locs) (hc : cells ≤ rc) (hs : slots ≤ rs) : own_Fin p e below (own_G s Q rc rs) T (mkF m pc Ls (.long z :: rest)) :=
  own_end X (fun q => by rw [hret] at q; cases q) hlk (fun fs hr => retOut X hx hret rfl (Or.inr (Or.inl ⟨rfl, rfl, z, rfl⟩)) hd hr) hQ hc hs
theorem own_retA (X : Stand p l e R s m args below meth c T locs cells slots) (hx : p.tables.exec = Jvm.exec) {pc : Nat} {Ls : Array Slot} {w : Value} {t : FieldType} (hret : meth.sig.returnType = some t) (ht : t.isReference = true) (hw : w.isRef = true) (hd : decode c.code pc = .ok (.areturn, 1)) (hlk : meth.locks = false)
    (hQ : Q (some w) T.heap locs) (hc : cells ≤ rc) (hs : slots ≤ rs) : own_Fin p e below (own_G s Q rc rs) T (mkF m pc Ls (w :: rest)) :=
  own_end X (fun q => by rw [hret] at q; cases q) hlk (fun fs hr => retOut X hx hret (own_narR hw ht) (Or.inr (Or.inr (Or.inr (Or.inr ⟨rfl, ht, hw⟩)))) hd hr) hQ hc hs
theorem own_retV (X : Stand p l e R s m args below meth c T locs cells slots) (hx : p.tables.exec = Jvm.exec) {pc : Nat} {Ls : Array Slot} (hret : meth.sig.returnType = none) (hd : decode c.code pc = .ok (.return_, 1)) (hlk : meth.locks = false)
    (hQ : Q none T.heap locs) (hc : cells ≤ rc) (hs : slots ≤ rs) : own_Fin p e below (own_G s Q rc rs) T (mkF m pc Ls []) :=
  own_end X (fun _ => rfl) hlk (fun fs hr => X.returnOut hx hret hd hr) hQ hc hs
/-- the entry -/
theorem own_body {ws : List Jvm.Cond} {rm : Room} {h0 : Heap} (hy : plainFor y = true)
    (body : ∀ p e s m below meth c s₁, BodyLoose p l y (head1 (Jvm.Cond.code y bytes maxL ret :: ws) rm) bytes maxL ret e s m as' below meth c s₁ → c.maxLocals = maxL → Z.Warmed39 s.vm → s₁.heap = h0 → own_Fin p e below (own_G s Q rm.cells rm.slots) s₁ (entryFrame m as' maxL)) :
    MetFree l y (head1 (Jvm.Cond.code y bytes maxL ret :: ws) rm) (fun a U => a = as' ∧ Z.Warmed39 U.vm ∧ U.heap = h0) (fun _ _ _ _ _ => True) (fun _ U o U' => ∃ v L, o = .returned v ∧ Q v U'.heap L ∧ FrameEnd U o U' L rm.cells rm.slots) := by
  refine MetFree.of_bodySF hy hisR ?_
  intro p e s m args below meth c s₁ Bd hml0 hP hK
  obtain ⟨rfl, hZ, hh⟩ := hP
  exact body p e s m below meth c s₁ Bd hml0 hZ (by rw [← hh, Bd.state]; rfl)
/-! calls, each by what pays it -/
theorem own_callS (X : Stand p l e R s m args below meth c T locs cells slots) (hx : p.tables.exec = Jvm.exec) (hZ : Z.Warmed39 s.vm) (hown : s.vm.findClass own = some m.cls) (w1 : (Jvm.Cond.methodLink own index y).before a0 Z = true) (w2 : (Jvm.Cond.static y).before a0 Z = true) (w3 : (Jvm.Cond.initialized y.cls).before a0 Z = true) (w4 : (Jvm.Cond.code y bytes maxL ret).before a0 Z = true)
    (hy : y.cls ≠ "java/lang/invoke/MethodHandle" ∧ y.cls ≠ "java/lang/invoke/VarHandle")
    (hK : Back l R p e below s args y 3 W (fun A a => a = as' ∧ A.U.heap = h ∧ A.cells + rc ≤ R.cells ∧ A.slots + rs ≤ R.slots) (fun A _ v B => ∃ L, Q v B.U.heap L ∧ B.locs = A.locs ++ L ∧ B.cells = A.cells + rc ∧ B.slots = A.slots + rs))
    (eT : T.heap = h) (hc : cells + rc ≤ R.cells) (hs : slots + rs ≤ R.slots) (hg : g.method = m) (hsize : g.locals.size = c.maxLocals) (hlen : ∀ sig, parseMethodDescriptor y.desc = some sig → argsL.length = sig.parameters.length) (hstack : g.stack = argsL.reverse ++ rest) (has : argsL.toArray = as') (hW : 2 * g.monitorRoom + (rest.map fun v => v.category).sum ≤ W) (hd : decode c.code g.pc = .ok (.invokestatic index, 3))
    (k1 : ∀ (v : Option Value) (T' : State) (L : List Loc), Stand p l e R s m args below meth c T' (locs ++ L) (cells + rc) (slots + rs) → Q v T'.heap L → own_Fin p e below G T' { g with pc := g.pc + 3, stack := v.toList ++ rest }) : own_Fin p e below G T g := by
  obtain ⟨v, _, ⟨T2, L2, k2, n2⟩, -, X2, ⟨L, hQ, e1, e2, e3⟩, st⟩ := Jvm.LawKit.callS X hx hown (mvT hZ w1) (mvT hZ w2) (mvT hZ w3) (mvT hZ w4) hy hK hg hsize hlen hstack hW hd (fun _ _ => ⟨has, eT, hc, hs⟩)
  try dsimp only at X2 e1 e2 e3 st hQ
  subst e1 e2 e3
  exact own_step st (k1 v T2 L X2 hQ)
theorem own_callC (X : Stand p l e R s m args below meth c T locs cells slots) (hx : p.tables.exec = Jvm.exec) (hZ : Z.Warmed39 s.vm) (hown : s.vm.findClass own = some m.cls) (hy1 : y.name = "<init>") (w1 : (Jvm.Cond.methodLink own index y).before a0 Z = true) (w2 : (Jvm.Cond.instanceMethod y).before a0 Z = true) (w4 : (Jvm.Cond.code y bytes maxL none).before a0 Z = true)
    (hy : y.cls ≠ "java/lang/invoke/MethodHandle" ∧ y.cls ≠ "java/lang/invoke/VarHandle")
    (hK : Back l R p e below s args y 3 W (fun A a => a = as' ∧ A.U.heap = h ∧ A.cells + rc ≤ R.cells ∧ A.slots + rs ≤ R.slots) (fun A _ v B => ∃ L, Q v B.U.heap L ∧ B.locs = A.locs ++ L ∧ B.cells = A.cells + rc ∧ B.slots = A.slots + rs))
    (eT : T.heap = h) (hc : cells + rc ≤ R.cells) (hs : slots + rs ≤ R.slots) (hg : g.method = m) (hsize : g.locals.size = c.maxLocals) (hlen : ∀ sig, parseMethodDescriptor y.desc = some sig → argsL.length = sig.parameters.length) (hstack : g.stack = argsL.reverse ++ .ref a :: rest) (has : (.ref a :: argsL).toArray = as') (hW : 2 * g.monitorRoom + (rest.map fun v => v.category).sum ≤ W) (hd : decode c.code g.pc = .ok (.invokespecial index, 3))
    (k1 : ∀ (v : Option Value) (T' : State) (L : List Loc), Stand p l e R s m args below meth c T' (locs ++ L) (cells + rc) (slots + rs) → Q v T'.heap L → own_Fin p e below G T' { g with pc := g.pc + 3, stack := v.toList ++ rest }) : own_Fin p e below G T g := by
  obtain ⟨v, _, ⟨T2, L2, k2, n2⟩, -, X2, ⟨L, hQ, e1, e2, e3⟩, st⟩ := X.specialBack hx hy1 hown (mvT hZ w1) (mvT hZ w2) (mvT hZ w4) hy hK hg hsize (Steps.refl _) hlen hstack hW hd (fun _ _ => ⟨has, eT, hc, hs⟩)
  try dsimp only at X2 e1 e2 e3 st hQ
  subst e1 e2 e3
  exact own_step (fun _ q => st.trans q) (k1 v T2 L X2 hQ)
theorem own_callCN {host : String} (X : Stand p l e R s m args below meth c T locs cells slots) (hx : p.tables.exec = Jvm.exec) (hZ : Z.Warmed39 s.vm) (hown : s.vm.findClass own = some m.cls) (hy1 : y.name = "<init>") (w1 : (Jvm.Cond.methodLinkNest own index y host).before a0 Z = true) (w2 : (Jvm.Cond.instanceMethod y).before a0 Z = true) (w4 : (Jvm.Cond.code y bytes maxL none).before a0 Z = true)
    (hy : y.cls ≠ "java/lang/invoke/MethodHandle" ∧ y.cls ≠ "java/lang/invoke/VarHandle")
    (hK : Back l R p e below s args y 3 W (fun A a => a = as' ∧ A.U.heap = h ∧ A.cells + rc ≤ R.cells ∧ A.slots + rs ≤ R.slots) (fun A _ v B => ∃ L, Q v B.U.heap L ∧ B.locs = A.locs ++ L ∧ B.cells = A.cells + rc ∧ B.slots = A.slots + rs))
    (eT : T.heap = h) (hc : cells + rc ≤ R.cells) (hs : slots + rs ≤ R.slots) (hg : g.method = m) (hsize : g.locals.size = c.maxLocals) (hlen : ∀ sig, parseMethodDescriptor y.desc = some sig → argsL.length = sig.parameters.length) (hstack : g.stack = argsL.reverse ++ .ref a :: rest) (has : (.ref a :: argsL).toArray = as') (hW : 2 * g.monitorRoom + (rest.map fun v => v.category).sum ≤ W) (hd : decode c.code g.pc = .ok (.invokespecial index, 3))
    (k1 : ∀ (v : Option Value) (T' : State) (L : List Loc), Stand p l e R s m args below meth c T' (locs ++ L) (cells + rc) (slots + rs) → Q v T'.heap L → own_Fin p e below G T' { g with pc := g.pc + 3, stack := v.toList ++ rest }) : own_Fin p e below G T g := by
  obtain ⟨v, _, ⟨T2, L2, k2, n2⟩, -, X2, ⟨L, hQ, e1, e2, e3⟩, st⟩ := X.specialBackNest hx hy1 hown (Cond.methodLinkNest_wide hZ w1 :) (mvT hZ w2) (mvT hZ w4) hy hK hg hsize (Steps.refl _) hlen hstack hW hd (fun _ _ => ⟨has, eT, hc, hs⟩)
  try dsimp only at X2 e1 e2 e3 st hQ
  subst e1 e2 e3
  exact own_step (fun _ q => st.trans q) (k1 v T2 L X2 hQ)
theorem own_callV {z : MethodName} {C : String} (X : Stand p l e R s m args below meth c T locs cells slots) (hx : p.tables.exec = Jvm.exec) (hZ : Z.Warmed39 s.vm) (hown : s.vm.findClass own = some m.cls) (w1 : (Jvm.Cond.methodLink own index y).before a0 Z = true) (w2 : (Jvm.Cond.declares y).before a0 Z = true) (hnf : NotFace s y) (w3 : (Jvm.Cond.selects C y z).before a0 Z = true) (w4 : (Jvm.Cond.instanceMethod z).before a0 Z = true)
    (hy : y.cls ≠ "java/lang/invoke/MethodHandle" ∧ y.cls ≠ "java/lang/invoke/VarHandle")
    (hK : Back l R p e below s args z 3 W (fun A a => a = as' ∧ A.U.heap = h ∧ A.cells + rc ≤ R.cells ∧ A.slots + rs ≤ R.slots) (fun A _ v B => ∃ L, Q v B.U.heap L ∧ B.locs = A.locs ++ L ∧ B.cells = A.cells + rc ∧ B.slots = A.slots + rs))
    (eT : T.heap = h) (E : Exa Z h a C) (hc : cells + rc ≤ R.cells) (hs : slots + rs ≤ R.slots) (hg : g.method = m) (hsize : g.locals.size = c.maxLocals) (hlen : ∀ sig, parseMethodDescriptor y.desc = some sig → argsL.length = sig.parameters.length) (hstack : g.stack = argsL.reverse ++ .ref a :: rest) (has : (.ref a :: argsL).toArray = as') (hW : 2 * g.monitorRoom + (rest.map fun v => v.category).sum ≤ W) (hd : decode c.code g.pc = .ok (.invokevirtual index, 3))
    (k1 : ∀ (v : Option Value) (T' : State) (L : List Loc), Stand p l e R s m args below meth c T' (locs ++ L) (cells + rc) (slots + rs) → Q v T'.heap L → own_Fin p e below G T' { g with pc := g.pc + 3, stack := v.toList ++ rest }) : own_Fin p e below G T g := by
  obtain ⟨cq, kq, qa, qb, qc⟩ := isOf hZ eT E
  obtain ⟨v, _, ⟨T2, L2, k2, n2⟩, -, X2, ⟨L, hQ, e1, e2, e3⟩, st⟩ := X.virtualBack hx hown (mvT hZ w1) (mvT hZ w2) hnf (mvT hZ w3) (mvT hZ w4) hy hK qa qc hg hsize (Steps.refl _) hlen hstack hW hd (fun _ _ => ⟨has, eT, hc, hs⟩)
  try dsimp only at X2 e1 e2 e3 st hQ
  subst e1 e2 e3
  exact own_step (fun _ q => st.trans q) (k1 v T2 L X2 hQ)
theorem own_callI {z : MethodName} {C : String} {count : Nat} (X : Stand p l e R s m args below meth c T locs cells slots) (hx : p.tables.exec = Jvm.exec) (hZ : Z.Warmed39 s.vm) (hown : s.vm.findClass own = some m.cls) (w1 : (Jvm.Cond.methodLink own index y).before a0 Z = true) (w2 : (Jvm.Cond.declares y).before a0 Z = true) (w3 : (Jvm.Cond.interfaceMethod y.cls y.cls y.name y.desc).before a0 Z = true) (w4 : (Jvm.Cond.selects C y z).before a0 Z = true) (w5 : (Jvm.Cond.instanceMethod z).before a0 Z = true) (w6 : (Jvm.Cond.publicMethod z).before a0 Z = true) (w7 : (Jvm.Cond.unhidden C y.name y.desc).before a0 Z = true) (w8 : (Jvm.Cond.castable C y.cls).before a0 Z = true) (hd3 : ((Jvm.Cond.interfaceMethod y.cls y.cls y.name y.desc).onTables && (Jvm.Cond.interfaceMethod y.cls y.cls y.name y.desc).keepsFace) = true)
    (hy : y.cls ≠ "java/lang/invoke/MethodHandle" ∧ y.cls ≠ "java/lang/invoke/VarHandle")
    (hK : Back l R p e below s args z 5 W (fun A a => a = as' ∧ A.U.heap = h ∧ A.cells + rc ≤ R.cells ∧ A.slots + rs ≤ R.slots) (fun A _ v B => ∃ L, Q v B.U.heap L ∧ B.locs = A.locs ++ L ∧ B.cells = A.cells + rc ∧ B.slots = A.slots + rs))
    (eT : T.heap = h) (E : Exa Z h a C) (hc : cells + rc ≤ R.cells) (hs : slots + rs ≤ R.slots) (hg : g.method = m) (hsize : g.locals.size = c.maxLocals) (hlen : ∀ sig, parseMethodDescriptor y.desc = some sig → argsL.length = sig.parameters.length) (hstack : g.stack = argsL.reverse ++ .ref a :: rest) (has : (.ref a :: argsL).toArray = as') (hW : 2 * g.monitorRoom + (rest.map fun v => v.category).sum ≤ W) (hd : decode c.code g.pc = .ok (.invokeinterface index count, 5))
    (k1 : ∀ (v : Option Value) (T' : State) (L : List Loc), Stand p l e R s m args below meth c T' (locs ++ L) (cells + rc) (slots + rs) → Q v T'.heap L → own_Fin p e below G T' { g with pc := g.pc + 5, stack := v.toList ++ rest }) : own_Fin p e below G T g := by
  obtain ⟨cq, kq, qa, qb, qc⟩ := isOf hZ eT E
  obtain ⟨v, _, ⟨T2, L2, k2, n2⟩, -, X2, ⟨L, hQ, e1, e2, e3⟩, st⟩ := X.interfaceBack hx hown (mvT hZ w1) (mvT hZ w2) (mvT hZ w3 hd3) (mvT hZ w4) (mvT hZ w5) (mvT hZ w6) (mvT hZ w7) (mvT hZ w8) hy hK qa qb qc hg hsize (Steps.refl _) hlen hstack hW hd (fun _ _ => ⟨has, eT, hc, hs⟩)
  try dsimp only at X2 e1 e2 e3 st hQ
  subst e1 e2 e3
  exact own_step (fun _ q => st.trans q) (k1 v T2 L X2 hQ)
theorem own_selP (hZ : Z.Warmed39 s.vm) {kn : Nat} (wi : (Jvm.Cond.instantiable y.cls kn).before a0 Z = true) (w2 : (Jvm.Cond.instanceMethod y).before a0 Z = true) (w4 : (Jvm.Cond.privateMethod y).before a0 Z = true) (hy : y.cls ≠ "java/lang/invoke/MethodHandle" ∧ y.cls ≠ "java/lang/invoke/VarHandle") : (Jvm.Cond.selects y.cls y y).before args s = true := by
  obtain ⟨cc, kk, h1, h2, -, h4, -⟩ := Cond.instantiable_spec (mvT (args := args) hZ wi)
  exact selects_self_of_private h1 h2 (by simp at h4; exact h4.1) (Cond.privateMethod_at (mvP hZ w4 (args := #[]))) (mvT hZ w2) hy
theorem own_callP {C : String} (X : Stand p l e R s m args below meth c T locs cells slots) (hx : p.tables.exec = Jvm.exec) (hZ : Z.Warmed39 s.vm) (hown : s.vm.findClass own = some m.cls) (w1 : (Jvm.Cond.methodLink own index y).before a0 Z = true) (w2 : (Jvm.Cond.instanceMethod y).before a0 Z = true) (w3 : (Jvm.Cond.selects y.cls y y).before args s = true) (w4 : (Jvm.Cond.privateMethod y).before a0 Z = true) (w5 : (Jvm.Cond.code y bytes maxL ret).before a0 Z = true)
    (hy : y.cls ≠ "java/lang/invoke/MethodHandle" ∧ y.cls ≠ "java/lang/invoke/VarHandle")
    (hK : Back l R p e below s args y 3 W (fun A a => a = as' ∧ A.U.heap = h ∧ A.cells + rc ≤ R.cells ∧ A.slots + rs ≤ R.slots) (fun A _ v B => ∃ L, Q v B.U.heap L ∧ B.locs = A.locs ++ L ∧ B.cells = A.cells + rc ∧ B.slots = A.slots + rs))
    (eT : T.heap = h) (E : Exa Z h a C) (hc : cells + rc ≤ R.cells) (hs : slots + rs ≤ R.slots) (hg : g.method = m) (hsize : g.locals.size = c.maxLocals) (hlen : ∀ sig, parseMethodDescriptor y.desc = some sig → argsL.length = sig.parameters.length) (hstack : g.stack = argsL.reverse ++ .ref a :: rest) (has : (.ref a :: argsL).toArray = as') (hW : 2 * g.monitorRoom + (rest.map fun v => v.category).sum ≤ W) (hd : decode c.code g.pc = .ok (.invokevirtual index, 3))
    (k1 : ∀ (v : Option Value) (T' : State) (L : List Loc), Stand p l e R s m args below meth c T' (locs ++ L) (cells + rc) (slots + rs) → Q v T'.heap L → own_Fin p e below G T' { g with pc := g.pc + 3, stack := v.toList ++ rest }) : own_Fin p e below G T g := by
  obtain ⟨cq, q, q'⟩ := E.cell
  obtain ⟨v, _, ⟨T2, L2, k2, n2⟩, -, X2, ⟨L, hQ, e1, e2, e3⟩, st⟩ := X.privateBack hx hown (mvT hZ w1) (mvT hZ w2) w3 (Cond.privateMethod_at (mvP hZ w4 (args := #[]))) (mvT hZ w5) hy hK hg hsize (Steps.refl _) (a := a) (by rw [eT]; exact q) q' hlen hstack hW hd (fun _ _ => ⟨has, eT, hc, hs⟩)
  try dsimp only at X2 e1 e2 e3 st hQ
  subst e1 e2 e3
  exact own_step (fun _ q => st.trans q) (k1 v T2 L X2 hQ)
/-! arrays -/
theorem own_ldC (X : Stand p l e R s m args below meth c T locs cells slots) (hx : p.tables.exec = Jvm.exec) (hZ : Z.Warmed39 s.vm) (eT : T.heap = h) (F : Arv Z h a k .char n vs d) (hj : ¬ j < 0 ∧ j < n) (hu : vs.getD j.toNatClampNeg d = v) (hg : g.method = m) (hs : g.stack = .int j :: .ref a :: rest) (hd : decode c.code g.pc = .ok (.caload, 1)) : ∀ t, Steps p.tables e below (T.setTop { g with pc := g.pc + 1, stack := v :: rest }) t → Steps p.tables e below (T.setTop g) t := by
  obtain ⟨cl, A, q1, S, q3, H, q5⟩ := F
  exact fun t k1 => X.caload hx (by rw [eT]; exact A.1) (State.isArrayOf_alike hZ.alike A.2.1) A.2.2 (inb_of S hj) (H.at (inb_of S hj) hu) hg hs hd t k1
theorem own_ldI (X : Stand p l e R s m args below meth c T locs cells slots) (hx : p.tables.exec = Jvm.exec) (hZ : Z.Warmed39 s.vm) (eT : T.heap = h) (F : Arv Z h a k .int n vs d) (hj : ¬ j < 0 ∧ j < n) (hu : vs.getD j.toNatClampNeg d = v) (hg : g.method = m) (hs : g.stack = .int j :: .ref a :: rest) (hd : decode c.code g.pc = .ok (.iaload, 1)) : ∀ t, Steps p.tables e below (T.setTop { g with pc := g.pc + 1, stack := v :: rest }) t → Steps p.tables e below (T.setTop g) t := by
  obtain ⟨cl, A, q1, S, q3, H, q5⟩ := F
  exact fun t k1 => X.iaload hx (by rw [eT]; exact A.1) (State.isArrayOf_alike hZ.alike A.2.1) A.2.2 (inb_of S hj) (H.at (inb_of S hj) hu) hg hs hd t k1
theorem own_ldJ (X : Stand p l e R s m args below meth c T locs cells slots) (hx : p.tables.exec = Jvm.exec) (hZ : Z.Warmed39 s.vm) (eT : T.heap = h) (F : Arv Z h a k .long n vs d) (hj : ¬ j < 0 ∧ j < n) (hu : vs.getD j.toNatClampNeg d = v) (hg : g.method = m) (hs : g.stack = .int j :: .ref a :: rest) (hd : decode c.code g.pc = .ok (.laload, 1)) : ∀ t, Steps p.tables e below (T.setTop { g with pc := g.pc + 1, stack := v :: rest }) t → Steps p.tables e below (T.setTop g) t := by
  obtain ⟨cl, A, q1, S, q3, H, q5⟩ := F
  exact fun t k1 => X.laload hx (by rw [eT]; exact A.1) (State.isArrayOf_alike hZ.alike A.2.1) A.2.2 (inb_of S hj) (H.at (inb_of S hj) hu) hg hs hd t k1
theorem own_ldB (X : Stand p l e R s m args below meth c T locs cells slots) (hx : p.tables.exec = Jvm.exec) (hZ : Z.Warmed39 s.vm) (eT : T.heap = h) (F : Arv Z h a k .byte n vs d) (hj : ¬ j < 0 ∧ j < n) (hu : vs.getD j.toNatClampNeg d = v) (hg : g.method = m) (hs : g.stack = .int j :: .ref a :: rest) (hd : decode c.code g.pc = .ok (.baload, 1)) : ∀ t, Steps p.tables e below (T.setTop { g with pc := g.pc + 1, stack := v :: rest }) t → Steps p.tables e below (T.setTop g) t := by
  obtain ⟨cl, A, q1, S, q3, H, q5⟩ := F
  exact fun t k1 => X.baloadBytes hx (by rw [eT]; exact A.1) (State.isArrayOf_alike hZ.alike A.2.1) A.2.2 (inb_of S hj) (H.at (inb_of S hj) hu) hg hs hd t k1
theorem own_ldA (X : Stand p l e R s m args below meth c T locs cells slots) (hx : p.tables.exec = Jvm.exec) (hZ : Z.Warmed39 s.vm) (eT : T.heap = h) (F : Arv Z h a k ty n vs d) (hty : ty.isReference = true) (hj : ¬ j < 0 ∧ j < n) (hu : vs.getD j.toNatClampNeg d = v) (hg : g.method = m) (hs : g.stack = .int j :: .ref a :: rest) (hd : decode c.code g.pc = .ok (.aaload, 1)) : ∀ t, Steps p.tables e below (T.setTop { g with pc := g.pc + 1, stack := v :: rest }) t → Steps p.tables e below (T.setTop g) t := by
  obtain ⟨cl, A, q1, S, q3, H, q5⟩ := F
  exact fun t k1 => X.aaload hx (by rw [eT]; exact A.1) (State.isArrayOf_alike hZ.alike A.2.1) hty A.2.2 (inb_of S hj) (H.at (inb_of S hj) hu) hg hs hd t k1
theorem own_len (X : Stand p l e R s m args below meth c T locs cells slots) (hx : p.tables.exec = Jvm.exec) (hZ : Z.Warmed39 s.vm) (eT : T.heap = h) (F : Arv Z h a k ty n vs d) (hg : g.method = m) (hs : g.stack = .ref a :: rest) (hd : decode c.code g.pc = .ok (.arraylength, 1)) : ∀ t, Steps p.tables e below (T.setTop { g with pc := g.pc + 1, stack := .int n :: rest }) t → Steps p.tables e below (T.setTop g) t := by
  obtain ⟨cl, A, q1, S, q3, H, q5⟩ := F
  refine fun t k1 => X.arraylength hx (by rw [eT]; exact A.1) (State.isArrayOf_alike hZ.alike A.2.1) hg hs hd t ?_
  rw [len_of S q3]; exact k1
theorem own_stC (X : Stand p l e R s m args below meth c T locs cells slots) (hx : p.tables.exec = Jvm.exec) (hZ : Z.Warmed39 s.vm) (eT : T.heap = h) (F : Arv Z h a k .char n vs d) {x : Int32} (hj : ¬ j < 0 ∧ j < n) {i : Nat} (hi : j.toNatClampNeg = i) (hl : i < vs.length) (hg : g.method = m) (hs : g.stack = .int x :: .int j :: .ref a :: rest) (hd : decode c.code g.pc = .ok (.castore, 1)) :
    ∃ T' h', Stand p l e R s m args below meth c T' (locs ++ [⟨a, j.toNatClampNeg⟩]) cells slots ∧ T'.heap = h' ∧ Wr h h' a j.toNatClampNeg (.int (nar .char x)) ∧ Arv Z h' a k .char n (vs.set i (.int (nar .char x))) d ∧ ∀ t, Steps p.tables e below (T'.setTop { g with pc := g.pc + 1, stack := rest }) t → Steps p.tables e below (T.setTop g) t := by
  obtain ⟨cl, A, q1, S, q3, H, q5⟩ := F
  obtain ⟨T', h', X', e', W', st⟩ := stC X hx hZ eT A (inb_of S hj) hg hs hd
  exact ⟨T', h', X', e', W', Arv.set A q1 S q3 H q5 (fits_nar_char _) W' i hi hl, st⟩
theorem own_stI (X : Stand p l e R s m args below meth c T locs cells slots) (hx : p.tables.exec = Jvm.exec) (hZ : Z.Warmed39 s.vm) (eT : T.heap = h) (F : Arv Z h a k .int n vs d) {x : Int32} (hj : ¬ j < 0 ∧ j < n) {i : Nat} (hi : j.toNatClampNeg = i) (hl : i < vs.length) (hg : g.method = m) (hs : g.stack = .int x :: .int j :: .ref a :: rest) (hd : decode c.code g.pc = .ok (.iastore, 1)) :
    ∃ T' h', Stand p l e R s m args below meth c T' (locs ++ [⟨a, j.toNatClampNeg⟩]) cells slots ∧ T'.heap = h' ∧ Wr h h' a j.toNatClampNeg (.int x) ∧ Arv Z h' a k .int n (vs.set i (.int x)) d ∧ ∀ t, Steps p.tables e below (T'.setTop { g with pc := g.pc + 1, stack := rest }) t → Steps p.tables e below (T.setTop g) t := by
  obtain ⟨cl, A, q1, S, q3, H, q5⟩ := F
  obtain ⟨T', h', X', e', W', st⟩ := stI X hx hZ eT A (inb_of S hj) hg hs hd
  exact ⟨T', h', X', e', W', Arv.set A q1 S q3 H q5 rfl W' i hi hl, st⟩
theorem own_stJ (X : Stand p l e R s m args below meth c T locs cells slots) (hx : p.tables.exec = Jvm.exec) (hZ : Z.Warmed39 s.vm) (eT : T.heap = h) (F : Arv Z h a k .long n vs d) {x : Int64} (hj : ¬ j < 0 ∧ j < n) {i : Nat} (hi : j.toNatClampNeg = i) (hl : i < vs.length) (hg : g.method = m) (hs : g.stack = .long x :: .int j :: .ref a :: rest) (hd : decode c.code g.pc = .ok (.lastore, 1)) :
    ∃ T' h', Stand p l e R s m args below meth c T' (locs ++ [⟨a, j.toNatClampNeg⟩]) cells slots ∧ T'.heap = h' ∧ Wr h h' a j.toNatClampNeg (.long x) ∧ Arv Z h' a k .long n (vs.set i (.long x)) d ∧ ∀ t, Steps p.tables e below (T'.setTop { g with pc := g.pc + 1, stack := rest }) t → Steps p.tables e below (T.setTop g) t := by
  obtain ⟨cl, A, q1, S, q3, H, q5⟩ := F
  obtain ⟨T', h', X', e', W', st⟩ := stJ X hx hZ eT A (inb_of S hj) hg hs hd
  exact ⟨T', h', X', e', W', Arv.set A q1 S q3 H q5 rfl W' i hi hl, st⟩
theorem own_stB (X : Stand p l e R s m args below meth c T locs cells slots) (hx : p.tables.exec = Jvm.exec) (hZ : Z.Warmed39 s.vm) (eT : T.heap = h) (F : Arv Z h a k .byte n vs d) {x : Int32} (hj : ¬ j < 0 ∧ j < n) {i : Nat} (hi : j.toNatClampNeg = i) (hl : i < vs.length) (hg : g.method = m) (hs : g.stack = .int x :: .int j :: .ref a :: rest) (hd : decode c.code g.pc = .ok (.bastore, 1)) :
    ∃ T' h', Stand p l e R s m args below meth c T' (locs ++ [⟨a, j.toNatClampNeg⟩]) cells slots ∧ T'.heap = h' ∧ Wr h h' a j.toNatClampNeg (.int x.toInt8.toInt32) ∧ Arv Z h' a k .byte n (vs.set i (.int x.toInt8.toInt32)) d ∧ ∀ t, Steps p.tables e below (T'.setTop { g with pc := g.pc + 1, stack := rest }) t → Steps p.tables e below (T.setTop g) t := by
  obtain ⟨cl, A, q1, S, q3, H, q5⟩ := F
  obtain ⟨T', h', X', e', W', st⟩ := stB X hx hZ eT A (inb_of S hj) hg hs hd
  exact ⟨T', h', X', e', W', Arv.set A q1 S q3 H q5 (fits_nar_byte _) W' i hi hl, st⟩
theorem own_stR (X : Stand p l e R s m args below meth c T locs cells slots) (hx : p.tables.exec = Jvm.exec) (hZ : Z.Warmed39 s.vm) (eT : T.heap = h) (F : Arv Z h a k ty n vs d) (hty : ty.isReference = true) {x : Value} (hxr : fits ty x = true) (hsto : ∀ cl, Arr Z h a cl ty → cl.cls = k → Sto Z h a x) (hj : ¬ j < 0 ∧ j < n) {i : Nat} (hi : j.toNatClampNeg = i) (hl : i < vs.length) (hg : g.method = m) (hs : g.stack = x :: .int j :: .ref a :: rest) (hd : decode c.code g.pc = .ok (.aastore, 1)) :
    ∃ T' h', Stand p l e R s m args below meth c T' (locs ++ [⟨a, j.toNatClampNeg⟩]) cells slots ∧ T'.heap = h' ∧ Wr h h' a j.toNatClampNeg x ∧ Arv Z h' a k ty n (vs.set i x) d ∧ ∀ t, Steps p.tables e below (T'.setTop { g with pc := g.pc + 1, stack := rest }) t → Steps p.tables e below (T.setTop g) t := by
  obtain ⟨cl, A, q1, S, q3, H, q5⟩ := F
  obtain ⟨T', h', X', e', W', st⟩ := stR X hx hZ eT A (inb_of S hj) hty (hsto cl A q1) hg hs hd
  exact ⟨T', h', X', e', W', Arv.set A q1 S q3 H q5 hxr W' i hi hl, st⟩
/-! small things -/
theorem own_ne {x y n : Nat} (h1 : x < n) (h2 : n ≤ y) : x ≠ y := Nat.ne_of_lt (Nat.lt_of_lt_of_le h1 h2)
theorem own_lt {x n n' : Nat} (h1 : x < n) (h2 : n ≤ n') : x < n' := Nat.lt_of_lt_of_le h1 h2
theorem own_arr_ne {ty' : FieldType} {k' : ClassId} {n' : Int32} {vs' : List Value} {d' : Value} (A : Arv Z h a k ty n vs d) (B : Arv Z h b k' ty' n' vs' d') (ht : ty ≠ ty') : a ≠ b := fun q => by
  subst q
  obtain ⟨c1, ⟨h1, ⟨-, kk, g1, comp, g2⟩, -⟩, -⟩ := A
  obtain ⟨c2, ⟨h2, ⟨-, kk', g3, comp', g4⟩, -⟩, -⟩ := B
  cases h1.symm.trans h2
  cases g1.symm.trans g3
  have := g2.symm.trans g4
  cases this
  exact ht rfl
theorem own_and255 (x : Int32) : ¬ nar .char ((x &&& (255 : Int32)).toUInt32.toUInt16.toUInt32.toInt32) < 0 ∧ ¬ (255 : Int32) < nar .char ((x &&& (255 : Int32)).toUInt32.toUInt16.toUInt32.toInt32) := by
  have t : ∀ k : Fin 256, ¬ nar .char ((Int32.ofNat k.val).toUInt32.toUInt16.toUInt32.toInt32) < 0 ∧ ¬ (255 : Int32) < nar .char ((Int32.ofNat k.val).toUInt32.toUInt16.toUInt32.toInt32) := by decide +kernel
  have h : (x &&& 255).toBitVec.toNat < 256 := by
    simp only [Int32.toBitVec_and, BitVec.toNat_and]
    exact Nat.lt_succ_of_le Nat.and_le_right
  have e : (x &&& 255) = Int32.ofNat (x &&& 255).toBitVec.toNat := by
    apply Int32.toBitVec_inj.mp
    show _ = BitVec.ofNat 32 _
    rw [BitVec.ofNat_toNat]; simp
  rw [e]
  exact t ⟨_, h⟩
theorem own_up (cs : List Int32) (h : ∀ c ∈ cs, ¬ c < 0 ∧ ¬ (255 : Int32) < c) : ∀ c ∈ cs, ¬ c < 0 ∧ ¬ (65535 : Int32) < c := fun c hc => ⟨(h c hc).1, fun q => (h c hc).2 (by rw [Int32.lt_iff_toInt_lt] at q ⊢; have e1 : (65535 : Int32).toInt = 65535 := rfl; have e2 : (255 : Int32).toInt = 255 := rfl; omega)⟩
theorem own_all0 {P : Int32 → Prop} : ∀ c ∈ ([] : List Int32), P c := fun _ q => nomatch q
theorem own_allS {P : Int32 → Prop} {x : Int32} {L : List Int32} (q : P x) (r : ∀ c ∈ L, P c) : ∀ c ∈ x :: L, P c := fun c z => (List.mem_cons.mp z).elim (fun u => u ▸ q) (r c)
end OwnKit
end Jvm.Pilot.@@N@@
namespace Jvm.Pilot.@@N@@
open Jvm Jvm.ClassFile Sem Op Lib Jvm.Free Jvm.Stand Jvm.LawKit Jvm.RoadKit Bundle Jvm.Pilot.@@N@@.Jvm.D
section OwnWide
variable {p : Program} {l : Launch} {e : Env} {R : Room} {s : State} {m : MethodId} {args : Array Value} {below : List Frame} {meth : Method} {c : Code} {T T' : State} {locs : List Loc} {cells slots : Nat} {g g' : JFrame} {G : State → Outcome → Prop} {Z : State} {a0 : Array Value} {h : Heap} {y : MethodName} {own : String} {index : Nat} {bytes : ByteArray} {maxL : Nat} {ret : Option FieldType} {W : Nat} {as' : Array Value} {rc rs : Nat} {Q : Option Value → Heap → List Loc → Prop} {argsL rest : List Value} {a b : Addr} {k : ClassId} {ty : FieldType} {n j : Int32} {vs : List Value} {d v : Value} {EL : List (String × Nat)} {vm0 : Vm} {k0 : Nat}
/-- what a body owes at its end, where it (or what it calls) may load literals -/
abbrev own_GW (Z : State) (EL : List (String × Nat)) (s : State) (Q : Option Value → Heap → List Loc → Prop) (rc rs : Nat) : State → Outcome → Prop := fun s₂ o => ∃ v L, o = .returned v ∧ Q v s₂.heap L ∧ CHr Z EL s.vm s.heap s₂.vm s₂.heap ∧ ReturnedEndW s o s₂ L rc rs
theorem own_endW (X : Stand p l e R (s.setVm vm0) m args below meth c T locs cells slots) (hZ : Z.Warmed39 vm0) (hEL : EW Z a0 EL) (hS : s.Since vm0 k0) (hk : k0 ≤ T.heap.size) (CH : CHr Z EL s.vm s.heap vm0 T.heap) {v : Option Value} (hv : meth.sig.returnType = none → v = none) (hlk : meth.locks = false)
    (st : ∀ fs, (∀ (f : JFrame) (acts : List Action), f.method = m → f.locked = none → f.entered = [] → (doReturn e (T.setTop f) acts v).1 = T.setFrames fs) → Steps p.tables e below (T.setTop g) (T.setFrames fs))
    (hQ : Q v T.heap locs) (hc : cells ≤ rc) (hs : slots ≤ rs) : own_Fin p e below (own_GW Z EL s Q rc rs) T g := by
  obtain ⟨fs, hr, hrun, hended, hW, hsame⟩ := X.leave hv hlk
  obtain ⟨q1, q2, q3⟩ := hS.ended hW hk hsame
  exact ⟨_, _, st fs hr, hrun, hended, v, locs, rfl, hQ, (show CHr Z EL s.vm s.heap T.vm T.heap from CH.trans (CHv.at X hZ hEL CH.1)), ⟨_, rfl⟩, q1, q2, q3.mono hc hs⟩
theorem own_retIW (X : Stand p l e R (s.setVm vm0) m args below meth c T locs cells slots) (hx : p.tables.exec = Jvm.exec) (hZ : Z.Warmed39 vm0) (hEL : EW Z a0 EL) (hS : s.Since vm0 k0) (hk : k0 ≤ T.heap.size) (CH : CHr Z EL s.vm s.heap vm0 T.heap) {pc : Nat} {Ls : Array Slot} {z : Int32} (hret : meth.sig.returnType = some .int) (hd : decode c.code pc = .ok (.ireturn, 1)) (hlk : meth.locks = false)
    (hQ : Q (some (.int z)) T.heap locs) (hc : cells ≤ rc) (hs : slots ≤ rs) : own_Fin p e below (own_GW Z EL s Q rc rs) T (mkF m pc Ls (.int z :: rest)) :=
  own_endW X hZ hEL hS hk CH (fun q => by rw [hret] at q; cases q) hlk (fun fs hr => retOut X hx hret rfl (Or.inl ⟨rfl, Or.inl rfl, z, rfl⟩) hd hr) hQ hc hs
theorem own_retNW (X : Stand p l e R (s.setVm vm0) m args below meth c T locs cells slots) (hx : p.tables.exec = Jvm.exec) (hZ : Z.Warmed39 vm0) (hEL : EW Z a0 EL) (hS : s.Since vm0 k0) (hk : k0 ≤ T.heap.size) (CH : CHr Z EL s.vm s.heap vm0 T.heap) {pc : Nat} {Ls : Array Slot} {z : Int32} {t : FieldType} (hret : meth.sig.returnType = some t) (ht : t = .boolean ∨ t = .byte ∨ t = .char ∨ t = .short) (hd : decode c.code pc = .ok (.ireturn, 1)) (hlk : meth.locks = false)
    (hQ : Q (some (.int (nar t z))) T.heap locs) (hc : cells ≤ rc) (hs : slots ≤ rs) : own_Fin p e below (own_GW Z EL s Q rc rs) T (mkF m pc Ls (.int z :: rest)) :=
  own_endW X hZ hEL hS hk CH (fun q => by rw [hret] at q; cases q) hlk (fun fs hr => retN X hx hret ht hd hr) hQ hc hs
theorem own_retLW (X : Stand p l e R (s.setVm vm0) m args below meth c T locs cells slots) (hx : p.tables.exec = Jvm.exec) (hZ : Z.Warmed39 vm0) (hEL : EW Z a0 EL) (hS : s.Since vm0 k0) (hk : k0 ≤ T.heap.size) (CH : CHr Z EL s.vm s.heap vm0 T.heap) {pc : Nat} {Ls : Array Slot} {z : Int64} (hret : meth.sig.returnType = some .long) (hd : decode c.code pc = .ok (.lreturn, 1)) (hlk : meth.locks = false)
    (hQ : Q (some (.long z)) T.heap locs) (hc : cells ≤ rc) (hs : slots ≤ rs) : own_Fin p e below (own_GW Z EL s Q rc rs) T (mkF m pc Ls (.long z :: rest)) :=
  own_endW X hZ hEL hS hk CH (fun q => by rw [hret] at q; cases q) hlk (fun fs hr => retOut X hx hret rfl (Or.inr (Or.inl ⟨rfl, rfl, z, rfl⟩)) hd hr) hQ hc hs
theorem own_retAW (X : Stand p l e R (s.setVm vm0) m args below meth c T locs cells slots) (hx : p.tables.exec = Jvm.exec) (hZ : Z.Warmed39 vm0) (hEL : EW Z a0 EL) (hS : s.Since vm0 k0) (hk : k0 ≤ T.heap.size) (CH : CHr Z EL s.vm s.heap vm0 T.heap) {pc : Nat} {Ls : Array Slot} {w : Value} {t : FieldType} (hret : meth.sig.returnType = some t) (ht : t.isReference = true) (hw : w.isRef = true) (hd : decode c.code pc = .ok (.areturn, 1)) (hlk : meth.locks = false)
    (hQ : Q (some w) T.heap locs) (hc : cells ≤ rc) (hs : slots ≤ rs) : own_Fin p e below (own_GW Z EL s Q rc rs) T (mkF m pc Ls (w :: rest)) :=
  own_endW X hZ hEL hS hk CH (fun q => by rw [hret] at q; cases q) hlk (fun fs hr => retOut X hx hret (own_narR hw ht) (Or.inr (Or.inr (Or.inr (Or.inr ⟨rfl, ht, hw⟩)))) hd hr) hQ hc hs
theorem own_retVW (X : Stand p l e R (s.setVm vm0) m args below meth c T locs cells slots) (hx : p.tables.exec = Jvm.exec) (hZ : Z.Warmed39 vm0) (hEL : EW Z a0 EL) (hS : s.Since vm0 k0) (hk : k0 ≤ T.heap.size) (CH : CHr Z EL s.vm s.heap vm0 T.heap) {pc : Nat} {Ls : Array Slot} (hret : meth.sig.returnType = none) (hd : decode c.code pc = .ok (.return_, 1)) (hlk : meth.locks = false)
    (hQ : Q none T.heap locs) (hc : cells ≤ rc) (hs : slots ≤ rs) : own_Fin p e below (own_GW Z EL s Q rc rs) T (mkF m pc Ls []) :=
  own_endW X hZ hEL hS hk CH (fun _ => rfl) hlk (fun fs hr => X.returnOut hx hret hd hr) hQ hc hs
theorem own_bodyW {ws : List Jvm.Cond} {rm : Room} {h0 : Heap} (hy : plainFor y = true)
    (body : ∀ p e s m below meth c s₁, BodyLoose p l y (head1 (Jvm.Cond.code y bytes maxL ret :: ws) rm) bytes maxL ret e s m as' below meth c s₁ → c.maxLocals = maxL → Z.Warmed39 s.vm → s₁.heap = h0 → s.heap = h0 → CHr Z EL s.vm s.heap s.vm h0 → own_Fin p e below (own_GW Z EL s Q rm.cells rm.slots) s₁ (entryFrame m as' maxL)) :
    MetFree l y (head1 (Jvm.Cond.code y bytes maxL ret :: ws) rm) (fun a U => a = as' ∧ Z.Warmed39 U.vm ∧ U.heap = h0 ∧ CHv Z EL U.vm h0) (fun _ _ _ _ _ => True) (fun _ U o U' => ∃ v L, o = .returned v ∧ Q v U'.heap L ∧ CHr Z EL U.vm U.heap U'.vm U'.heap ∧ ReturnedEndW U o U' L rm.cells rm.slots) := by
  refine MetFree.of_bodySF hy hisR ?_
  intro p e s m args below meth c s₁ Bd hml0 hP hK
  obtain ⟨rfl, hZ, hh, hC⟩ := hP
  exact body p e s m below meth c s₁ Bd hml0 hZ (by rw [← hh, Bd.state]; rfl) hh (by rw [hh]; exact CHr.refl hC)
theorem own_callSW (X : Stand p l e R (s.setVm vm0) m args below meth c T locs cells slots) (hx : p.tables.exec = Jvm.exec) (hZ : Z.Warmed39 (s.setVm vm0).vm) (hown : (s.setVm vm0).vm.findClass own = some m.cls) (hS : s.Since vm0 k0) (hk : k0 ≤ h.size) (w1 : (Jvm.Cond.methodLink own index y).before a0 Z = true) (w2 : (Jvm.Cond.static y).before a0 Z = true) (w3 : (Jvm.Cond.initialized y.cls).before a0 Z = true) (w4 : (Jvm.Cond.code y bytes maxL ret).before a0 Z = true) (hy : y.cls ≠ "java/lang/invoke/MethodHandle" ∧ y.cls ≠ "java/lang/invoke/VarHandle")
    (hK : BackS l R p e below (s.setVm vm0) args y 3 W (fun A a => a = as' ∧ A.U.heap = h ∧ A.cells + rc ≤ R.cells ∧ A.slots + rs ≤ R.slots) (fun A _ v B => ∃ L, Q v B.U.heap L ∧ B.locs = A.locs ++ L ∧ B.cells = A.cells + rc ∧ B.slots = A.slots + rs ∧ CHr Z EL vm0 h B.U.vm B.U.heap))
    (eT : T.heap = h) (hc : cells + rc ≤ R.cells) (hs : slots + rs ≤ R.slots) (hg : g.method = m) (hsize : g.locals.size = c.maxLocals) (hlen : ∀ sig, parseMethodDescriptor y.desc = some sig → argsL.length = sig.parameters.length) (hstack : g.stack = argsL.reverse ++ rest) (has : argsL.toArray = as') (hW : 2 * g.monitorRoom + (rest.map fun v => v.category).sum ≤ W) (hd : decode c.code g.pc = .ok (.invokestatic index, 3))
    (k1 : ∀ (v : Option Value) (T' : State) (L : List Loc), Stand p l e R (s.setVm T'.vm) m args below meth c T' (locs ++ L) (cells + rc) (slots + rs) → s.Since T'.vm T'.heap.size → Z.Warmed39 (s.setVm T'.vm).vm → (s.setVm T'.vm).vm.findClass own = some m.cls → CHr Z EL vm0 h T'.vm T'.heap → Q v T'.heap L → own_Fin p e below G T' { g with pc := g.pc + 3, stack := v.toList ++ rest }) : own_Fin p e below G T g := by
  obtain ⟨v, _, ⟨T2, L2, k2, n2⟩, -, X2, hS2, hg2, ⟨L, hQ, e1, e2, e3, hC⟩, st⟩ := callSS X hx hown (mvT hZ w1) (mvT hZ w2) (mvT hZ w3) (mvT hZ w4) hy hK hg hsize hlen hstack hW hd (fun _ _ => ⟨has, eT, hc, hs⟩)
  try dsimp only at X2 e1 e2 e3 st hQ hg2 hS2 hC
  subst e1 e2 e3
  obtain ⟨X3, hS3, hZ3, hown3⟩ := rebS hS hk X2 hS2 (by rw [← eT]; exact hg2) hZ hown
  exact own_step (fun _ q => st.trans q) (k1 v T2 L X3 hS3 hZ3 hown3 hC hQ)
theorem own_callCW (X : Stand p l e R (s.setVm vm0) m args below meth c T locs cells slots) (hx : p.tables.exec = Jvm.exec) (hZ : Z.Warmed39 (s.setVm vm0).vm) (hown : (s.setVm vm0).vm.findClass own = some m.cls) (hS : s.Since vm0 k0) (hk : k0 ≤ h.size) (hy1 : y.name = "<init>") (w1 : (Jvm.Cond.methodLink own index y).before a0 Z = true) (w2 : (Jvm.Cond.instanceMethod y).before a0 Z = true) (w4 : (Jvm.Cond.code y bytes maxL none).before a0 Z = true) (hy : y.cls ≠ "java/lang/invoke/MethodHandle" ∧ y.cls ≠ "java/lang/invoke/VarHandle")
    (hK : BackS l R p e below (s.setVm vm0) args y 3 W (fun A a => a = as' ∧ A.U.heap = h ∧ A.cells + rc ≤ R.cells ∧ A.slots + rs ≤ R.slots) (fun A _ v B => ∃ L, Q v B.U.heap L ∧ B.locs = A.locs ++ L ∧ B.cells = A.cells + rc ∧ B.slots = A.slots + rs ∧ CHr Z EL vm0 h B.U.vm B.U.heap))
    (eT : T.heap = h) (hc : cells + rc ≤ R.cells) (hs : slots + rs ≤ R.slots) (hg : g.method = m) (hsize : g.locals.size = c.maxLocals) (hlen : ∀ sig, parseMethodDescriptor y.desc = some sig → argsL.length = sig.parameters.length) (hstack : g.stack = argsL.reverse ++ .ref a :: rest) (has : (.ref a :: argsL).toArray = as') (hW : 2 * g.monitorRoom + (rest.map fun v => v.category).sum ≤ W) (hd : decode c.code g.pc = .ok (.invokespecial index, 3))
    (k1 : ∀ (v : Option Value) (T' : State) (L : List Loc), Stand p l e R (s.setVm T'.vm) m args below meth c T' (locs ++ L) (cells + rc) (slots + rs) → s.Since T'.vm T'.heap.size → Z.Warmed39 (s.setVm T'.vm).vm → (s.setVm T'.vm).vm.findClass own = some m.cls → CHr Z EL vm0 h T'.vm T'.heap → Q v T'.heap L → own_Fin p e below G T' { g with pc := g.pc + 3, stack := v.toList ++ rest }) : own_Fin p e below G T g := by
  obtain ⟨v, _, ⟨T2, L2, k2, n2⟩, -, X2, hS2, hg2, ⟨L, hQ, e1, e2, e3, hC⟩, st⟩ := X.specialBackS hx hy1 hown (mvT hZ w1) (mvT hZ w2) (mvT hZ w4) hy hK hg hsize (Steps.refl _) hlen hstack hW hd (fun _ _ => ⟨has, eT, hc, hs⟩)
  try dsimp only at X2 e1 e2 e3 st hQ hg2 hS2 hC
  subst e1 e2 e3
  obtain ⟨X3, hS3, hZ3, hown3⟩ := rebS hS hk X2 hS2 (by rw [← eT]; exact hg2) hZ hown
  exact own_step (fun _ q => st.trans q) (k1 v T2 L X3 hS3 hZ3 hown3 hC hQ)
theorem own_callVW {z : MethodName} {C : String} (X : Stand p l e R (s.setVm vm0) m args below meth c T locs cells slots) (hx : p.tables.exec = Jvm.exec) (hZ : Z.Warmed39 (s.setVm vm0).vm) (hown : (s.setVm vm0).vm.findClass own = some m.cls) (hS : s.Since vm0 k0) (hk : k0 ≤ h.size) (w1 : (Jvm.Cond.methodLink own index y).before a0 Z = true) (w2 : (Jvm.Cond.declares y).before a0 Z = true) (hnf : NotFace (s.setVm vm0) y) (w3 : (Jvm.Cond.selects C y z).before a0 Z = true) (w4 : (Jvm.Cond.instanceMethod z).before a0 Z = true) (hy : y.cls ≠ "java/lang/invoke/MethodHandle" ∧ y.cls ≠ "java/lang/invoke/VarHandle")
    (hK : BackS l R p e below (s.setVm vm0) args z 3 W (fun A a => a = as' ∧ A.U.heap = h ∧ A.cells + rc ≤ R.cells ∧ A.slots + rs ≤ R.slots) (fun A _ v B => ∃ L, Q v B.U.heap L ∧ B.locs = A.locs ++ L ∧ B.cells = A.cells + rc ∧ B.slots = A.slots + rs ∧ CHr Z EL vm0 h B.U.vm B.U.heap))
    (eT : T.heap = h) (E : Exa Z h a C) (hc : cells + rc ≤ R.cells) (hs : slots + rs ≤ R.slots) (hg : g.method = m) (hsize : g.locals.size = c.maxLocals) (hlen : ∀ sig, parseMethodDescriptor y.desc = some sig → argsL.length = sig.parameters.length) (hstack : g.stack = argsL.reverse ++ .ref a :: rest) (has : (.ref a :: argsL).toArray = as') (hW : 2 * g.monitorRoom + (rest.map fun v => v.category).sum ≤ W) (hd : decode c.code g.pc = .ok (.invokevirtual index, 3))
    (k1 : ∀ (v : Option Value) (T' : State) (L : List Loc), Stand p l e R (s.setVm T'.vm) m args below meth c T' (locs ++ L) (cells + rc) (slots + rs) → s.Since T'.vm T'.heap.size → Z.Warmed39 (s.setVm T'.vm).vm → (s.setVm T'.vm).vm.findClass own = some m.cls → CHr Z EL vm0 h T'.vm T'.heap → Q v T'.heap L → own_Fin p e below G T' { g with pc := g.pc + 3, stack := v.toList ++ rest }) : own_Fin p e below G T g := by
  obtain ⟨cq, kq, qa, qb, qc⟩ := isOf hZ eT E
  obtain ⟨v, _, ⟨T2, L2, k2, n2⟩, -, X2, hS2, hg2, ⟨L, hQ, e1, e2, e3, hC⟩, st⟩ := X.virtualBackS hx hown (mvT hZ w1) (mvT hZ w2) hnf (mvT hZ w3) (mvT hZ w4) hy hK qa qc hg hsize (Steps.refl _) hlen hstack hW hd (fun _ _ => ⟨has, eT, hc, hs⟩)
  try dsimp only at X2 e1 e2 e3 st hQ hg2 hS2 hC
  subst e1 e2 e3
  obtain ⟨X3, hS3, hZ3, hown3⟩ := rebS hS hk X2 hS2 (by rw [← eT]; exact hg2) hZ hown
  exact own_step (fun _ q => st.trans q) (k1 v T2 L X3 hS3 hZ3 hown3 hC hQ)
theorem own_callIW {z : MethodName} {C : String} {count : Nat} (X : Stand p l e R (s.setVm vm0) m args below meth c T locs cells slots) (hx : p.tables.exec = Jvm.exec) (hZ : Z.Warmed39 (s.setVm vm0).vm) (hown : (s.setVm vm0).vm.findClass own = some m.cls) (hS : s.Since vm0 k0) (hk : k0 ≤ h.size) (w1 : (Jvm.Cond.methodLink own index y).before a0 Z = true) (w2 : (Jvm.Cond.declares y).before a0 Z = true) (w3 : (Jvm.Cond.interfaceMethod y.cls y.cls y.name y.desc).before a0 Z = true) (w4 : (Jvm.Cond.selects C y z).before a0 Z = true) (w5 : (Jvm.Cond.instanceMethod z).before a0 Z = true) (w6 : (Jvm.Cond.publicMethod z).before a0 Z = true) (w7 : (Jvm.Cond.unhidden C y.name y.desc).before a0 Z = true) (w8 : (Jvm.Cond.castable C y.cls).before a0 Z = true) (hd3 : ((Jvm.Cond.interfaceMethod y.cls y.cls y.name y.desc).onTables && (Jvm.Cond.interfaceMethod y.cls y.cls y.name y.desc).keepsFace) = true) (hy : y.cls ≠ "java/lang/invoke/MethodHandle" ∧ y.cls ≠ "java/lang/invoke/VarHandle")
    (hK : BackS l R p e below (s.setVm vm0) args z 5 W (fun A a => a = as' ∧ A.U.heap = h ∧ A.cells + rc ≤ R.cells ∧ A.slots + rs ≤ R.slots) (fun A _ v B => ∃ L, Q v B.U.heap L ∧ B.locs = A.locs ++ L ∧ B.cells = A.cells + rc ∧ B.slots = A.slots + rs ∧ CHr Z EL vm0 h B.U.vm B.U.heap))
    (eT : T.heap = h) (E : Exa Z h a C) (hc : cells + rc ≤ R.cells) (hs : slots + rs ≤ R.slots) (hg : g.method = m) (hsize : g.locals.size = c.maxLocals) (hlen : ∀ sig, parseMethodDescriptor y.desc = some sig → argsL.length = sig.parameters.length) (hstack : g.stack = argsL.reverse ++ .ref a :: rest) (has : (.ref a :: argsL).toArray = as') (hW : 2 * g.monitorRoom + (rest.map fun v => v.category).sum ≤ W) (hd : decode c.code g.pc = .ok (.invokeinterface index count, 5))
    (k1 : ∀ (v : Option Value) (T' : State) (L : List Loc), Stand p l e R (s.setVm T'.vm) m args below meth c T' (locs ++ L) (cells + rc) (slots + rs) → s.Since T'.vm T'.heap.size → Z.Warmed39 (s.setVm T'.vm).vm → (s.setVm T'.vm).vm.findClass own = some m.cls → CHr Z EL vm0 h T'.vm T'.heap → Q v T'.heap L → own_Fin p e below G T' { g with pc := g.pc + 5, stack := v.toList ++ rest }) : own_Fin p e below G T g := by
  obtain ⟨cq, kq, qa, qb, qc⟩ := isOf hZ eT E
  obtain ⟨v, _, ⟨T2, L2, k2, n2⟩, -, X2, hS2, hg2, ⟨L, hQ, e1, e2, e3, hC⟩, st⟩ := X.interfaceBackS hx hown (mvT hZ w1) (mvT hZ w2) (mvT hZ w3 hd3) (mvT hZ w4) (mvT hZ w5) (mvT hZ w6) (mvT hZ w7) (mvT hZ w8) hy hK qa qb qc hg hsize (Steps.refl _) hlen hstack hW hd (fun _ _ => ⟨has, eT, hc, hs⟩)
  try dsimp only at X2 e1 e2 e3 st hQ hg2 hS2 hC
  subst e1 e2 e3
  obtain ⟨X3, hS3, hZ3, hown3⟩ := rebS hS hk X2 hS2 (by rw [← eT]; exact hg2) hZ hown
  exact own_step (fun _ q => st.trans q) (k1 v T2 L X3 hS3 hZ3 hown3 hC hQ)
theorem own_callPW {C : String} (X : Stand p l e R (s.setVm vm0) m args below meth c T locs cells slots) (hx : p.tables.exec = Jvm.exec) (hZ : Z.Warmed39 (s.setVm vm0).vm) (hown : (s.setVm vm0).vm.findClass own = some m.cls) (hS : s.Since vm0 k0) (hk : k0 ≤ h.size) (w1 : (Jvm.Cond.methodLink own index y).before a0 Z = true) (w2 : (Jvm.Cond.instanceMethod y).before a0 Z = true) (w3 : (Jvm.Cond.selects y.cls y y).before args (s.setVm vm0) = true) (w4 : (Jvm.Cond.privateMethod y).before a0 Z = true) (w5 : (Jvm.Cond.code y bytes maxL ret).before a0 Z = true) (hy : y.cls ≠ "java/lang/invoke/MethodHandle" ∧ y.cls ≠ "java/lang/invoke/VarHandle")
    (hK : BackS l R p e below (s.setVm vm0) args y 3 W (fun A a => a = as' ∧ A.U.heap = h ∧ A.cells + rc ≤ R.cells ∧ A.slots + rs ≤ R.slots) (fun A _ v B => ∃ L, Q v B.U.heap L ∧ B.locs = A.locs ++ L ∧ B.cells = A.cells + rc ∧ B.slots = A.slots + rs ∧ CHr Z EL vm0 h B.U.vm B.U.heap))
    (eT : T.heap = h) (E : Exa Z h a C) (hc : cells + rc ≤ R.cells) (hs : slots + rs ≤ R.slots) (hg : g.method = m) (hsize : g.locals.size = c.maxLocals) (hlen : ∀ sig, parseMethodDescriptor y.desc = some sig → argsL.length = sig.parameters.length) (hstack : g.stack = argsL.reverse ++ .ref a :: rest) (has : (.ref a :: argsL).toArray = as') (hW : 2 * g.monitorRoom + (rest.map fun v => v.category).sum ≤ W) (hd : decode c.code g.pc = .ok (.invokevirtual index, 3))
    (k1 : ∀ (v : Option Value) (T' : State) (L : List Loc), Stand p l e R (s.setVm T'.vm) m args below meth c T' (locs ++ L) (cells + rc) (slots + rs) → s.Since T'.vm T'.heap.size → Z.Warmed39 (s.setVm T'.vm).vm → (s.setVm T'.vm).vm.findClass own = some m.cls → CHr Z EL vm0 h T'.vm T'.heap → Q v T'.heap L → own_Fin p e below G T' { g with pc := g.pc + 3, stack := v.toList ++ rest }) : own_Fin p e below G T g := by
  obtain ⟨cq, q, q'⟩ := E.cell
  obtain ⟨v, _, ⟨T2, L2, k2, n2⟩, -, X2, hS2, hg2, ⟨L, hQ, e1, e2, e3, hC⟩, st⟩ := X.privateBackS hx hown (mvT hZ w1) (mvT hZ w2) w3 (Cond.privateMethod_at (mvP hZ w4 (args := #[]))) (mvT hZ w5) hy hK hg hsize (Steps.refl _) (a := a) (by rw [eT]; exact q) q' hlen hstack hW hd (fun _ _ => ⟨has, eT, hc, hs⟩)
  try dsimp only at X2 e1 e2 e3 st hQ hg2 hS2 hC
  subst e1 e2 e3
  obtain ⟨X3, hS3, hZ3, hown3⟩ := rebS hS hk X2 hS2 (by rw [← eT]; exact hg2) hZ hown
  exact own_step (fun _ q => st.trans q) (k1 v T2 L X3 hS3 hZ3 hown3 hC hQ)
/-- a String whose value is still null is no literal's -/
theorem own_safe_null {vm : Vm} (hal : Z.vm.Alike vm) {x : Addr} (E : Exa Z h x "java/lang/String") (F : Fld Z h x "java/lang/String" "value" "[B" .null) : Safe Z EL vm h x := fun B => by
  obtain ⟨p, -, u, a, -, q, hq, S, hy⟩ := B
  obtain ⟨cS, ⟨⟨s1, s2, s3, ⟨cv, kv, iv, s4, s4'⟩, -, s6, s7, s8, s9, s10, s11, s12, -⟩, hfS, hcS⟩, ⟨kS, k1, k2, k3⟩, hB, hbyt⟩ := S
  rcases hy with rfl | rfl
  · obtain ⟨cell, cf, k, i, f, h1, h2, h3, h4, h5, h6, h7⟩ := F
    obtain ⟨kv', z4⟩ := ff_back (U := Wst Z vm h) hal s4
    cases h2.symm.trans z4
    have s1' : h[q.sa]? = some q.sC := s1
    cases h1.symm.trans s1'
    rw [s8] at h7; cases h7
  · obtain ⟨cell, k, h1, h2, h3, h4, h5⟩ := E
    have s10' : h[q.sd]? = some q.SA := s10
    cases h1.symm.trans s10'
    have hB' : vm.findClass "[B" = some q.SA.cls := hB
    rw [hal.findClass] at hB'
    exact ids_ne h2 hB' (by decide) rfl
end OwnWide
end Jvm.Pilot.@@N@@
namespace Jvm.Pilot.@@N@@
open Jvm Jvm.ClassFile Sem Op Lib Jvm.Free Jvm.Stand Jvm.LawKit Jvm.RoadKit Bundle Jvm.Pilot.@@N@@.Jvm.D
theorem own_ws {Z : State} {a0 : Array Value} (hw : ∀ d ∈ tables_1, d.before a0 Z = true) : ∀ d ∈ StrChars.Road.words, d.before a0 Z = true := fun d hd => hw d ((by decide +kernel : ∀ d ∈ StrChars.Road.words, d ∈ tables_1) d hd)
theorem own_wl {Z : State} {a0 : Array Value} (hw : ∀ d ∈ tables_1, d.before a0 Z = true) : ∀ d ∈ StrChars.Road.wordsLen, d.before a0 Z = true := fun d hd => hw d ((by decide +kernel : ∀ d ∈ StrChars.Road.wordsLen, d ∈ tables_1) d hd)
theorem own_nat {a : Nat} (h : a < 2 ^ 31) : (Int32.ofNat a).toNatClampNeg = a := by
  have e : (Int32.ofNat a).toInt = (a : Int) := Int32.toInt_ofNat_of_lt (by omega)
  rw [Int32.toNatClampNeg, e]; rfl
theorem own_toInt {a : Nat} (h : a < 2 ^ 31) : (Int32.ofNat a).toInt = (a : Int) := Int32.toInt_ofNat_of_lt (by omega)
theorem own_clamp_lt (x : Int32) : x.toNatClampNeg < 2 ^ 31 := by
  have h1 := x.toInt_lt
  rw [Int32.toNatClampNeg]; omega
theorem own_ixin {a : Nat} {N : Int32} (hN : ¬ N < 0) (h : a < N.toNatClampNeg) : ¬ Int32.ofNat a < 0 ∧ Int32.ofNat a < N := by
  have hb := own_clamp_lt N
  have e := own_toInt (a := a) (by omega)
  rw [Int32.lt_iff_toInt_lt] at hN
  rw [Int32.lt_iff_toInt_lt, Int32.lt_iff_toInt_lt, e]
  have z : (0 : Int32).toInt = 0 := rfl
  rw [z] at *
  rw [Int32.toNatClampNeg] at h
  omega
theorem own_inc (a : Nat) : Int32.ofNat a + (1 : Int32) = Int32.ofNat (a + 1) := (inc_ofNat a).symm
theorem own_shl1 {i : Nat} (h : 2 * i < 2 ^ 31) : Int32.ofNat i <<< ((1 : Int32) &&& 31) = Int32.ofNat (2 * i) := by
  have e : ((1 : Int32) &&& 31) = 1 := by decide
  rw [e]
  apply Int32.toBitVec_inj.mp
  show (BitVec.ofNat 32 i) <<< _ = BitVec.ofNat 32 (2 * i)
  apply BitVec.eq_of_toNat_eq
  simp [BitVec.toNat_shiftLeft, Nat.shiftLeft_eq]
  omega
theorem own_ltN {a b : Nat} (ha : a < 2 ^ 31) (hb : b < 2 ^ 31) : Int32.ofNat a < Int32.ofNat b ↔ a < b := by
  rw [Int32.lt_iff_toInt_lt, own_toInt ha, own_toInt hb]; omega
theorem own_nneg {a : Nat} (h : a < 2 ^ 31) : ¬ Int32.ofNat a < 0 := by
  rw [Int32.lt_iff_toInt_lt, own_toInt h]; have z : (0 : Int32).toInt = 0 := rfl; omega
theorem own_narC {c : Int32} (h0 : ¬ c < 0) (h1 : ¬ 65535 < c) : nar .char c = c := by
  have q := StrChars.narrow_ch h0 h1
  have e : narrow .char (.int c) = .int (nar .char c) := rfl
  rw [e] at q; exact Value.int.inj q
theorem own_getD_mem {cs : List Int32} {i : Nat} (h : i < cs.length) : cs.getD i 0 ∈ cs := by
  rw [List.getD_eq_getElem?_getD, List.getElem?_eq_getElem h]; exact List.getElem_mem h
theorem own_lo8lo8 (x : Int32) : (StrChars.lo8 x).toInt8.toInt32 = StrChars.lo8 x := by simp [StrChars.lo8]
theorem own_getD_set {vs : List Value} {i j : Nat} {u dv : Value} (h : i < vs.length) : (vs.set i u).getD j dv = if j = i then u else vs.getD j dv := by
  rw [List.getD_eq_getElem?_getD, List.getD_eq_getElem?_getD, List.getElem?_set]
  by_cases q : i = j
  · subst q; simp [h]
  · have q' : ¬ j = i := fun z => q z.symm
    simp [q, q']
theorem own_mapD {cs : List Int32} {i : Nat} (h : i < cs.length) {dv : Value} : (cs.map Value.int).getD i dv = .int (cs.getD i 0) := by
  rw [List.getD_eq_getElem?_getD, List.getD_eq_getElem?_getD, List.getElem?_map, List.getElem?_eq_getElem h]; rfl
def own_Wide (cs : List Int32) (i : Nat) (vs : List Value) : Prop := ∀ j, j < i → vs.getD (2 * j) (.int 0) = .int (StrChars.lo8 (cs.getD j 0)) ∧ vs.getD (2 * j + 1) (.int 0) = .int (StrChars.hi8 (cs.getD j 0))
theorem own_Wide.step {cs : List Int32} {i : Nat} {vs : List Value} (h : own_Wide cs i vs) (hl : 2 * i + 1 < vs.length) : own_Wide cs (i + 1) ((vs.set (2 * i) (.int (StrChars.lo8 (cs.getD i 0)))).set (2 * i + 1) (.int (StrChars.hi8 (cs.getD i 0)))) := fun j hj => by
  have e : ∀ (u w : Value) (k : Nat), ((vs.set (2 * i) u).set (2 * i + 1) w).getD k (.int 0) = if k = 2 * i + 1 then w else if k = 2 * i then u else vs.getD k (.int 0) := fun u w k => by
    rw [own_getD_set (by rw [List.length_set]; omega), own_getD_set (by omega)]
  rw [e, e]
  by_cases q : j = i
  · subst q; exact ⟨by rw [if_neg (by omega), if_pos rfl], if_pos rfl⟩
  · rw [if_neg (by omega), if_neg (by omega), if_neg (by omega), if_neg (by omega)]; exact h j (by omega)
theorem own_wide_len : ∀ cs : List Int32, (StrChars.Road.wideBytes cs).length = 2 * cs.length
  | [] => rfl
  | c :: cs => by rw [StrChars.Road.wideBytes]; simp [own_wide_len cs]; omega
theorem own_Wide.eq {cs : List Int32} {vs : List Value} (h : own_Wide cs cs.length vs) (hl : vs.length = 2 * cs.length) : vs = StrChars.Road.wideBytes cs := by
  apply List.ext_getElem (by rw [hl, own_wide_len])
  intro i h1 h2
  have g1 : vs.getD i (.int 0) = vs[i] := by rw [List.getD_eq_getElem?_getD, List.getElem?_eq_getElem h1]; rfl
  have g2 : (StrChars.Road.wideBytes cs).getD i (.int 0) = (StrChars.Road.wideBytes cs)[i] := by rw [List.getD_eq_getElem?_getD, List.getElem?_eq_getElem h2]; rfl
  rw [← g1, ← g2]
  rcases Nat.mod_two_eq_zero_or_one i with q | q
  · obtain ⟨j, rfl⟩ : ∃ j, i = 2 * j := ⟨i / 2, by omega⟩
    rw [(h j (by omega)).1, StrChars.Road.wide_lo _ _ _ (by omega)]
  · obtain ⟨j, rfl⟩ : ∃ j, i = 2 * j + 1 := ⟨i / 2, by omega⟩
    rw [(h j (by omega)).2, StrChars.Road.wide_hi _ _ _ (by omega)]
def own_Lat (cs : List Int32) (i : Nat) (vs : List Value) : Prop := ∀ j, j < i → vs.getD j (.int 0) = .int (StrChars.lo8 (cs.getD j 0)) ∧ ¬ 255 < cs.getD j 0
theorem own_Lat.step {cs : List Int32} {i : Nat} {vs : List Value} (h : own_Lat cs i vs) (hl : i < vs.length) (hc : ¬ 255 < cs.getD i 0) : own_Lat cs (i + 1) (vs.set i (.int (StrChars.lo8 (cs.getD i 0)))) := fun j hj => by
  rw [own_getD_set hl]
  by_cases q : j = i
  · subst q; exact ⟨if_pos rfl, hc⟩
  · rw [if_neg q]; exact h j (by omega)
def own_Cmp (cs : List Int32) (r : Nat) (vs : List Value) : Prop := (r = cs.length ∧ vs = (cs.map fun z => Value.int (StrChars.lo8 z)) ∧ ∀ z ∈ cs, ¬ 255 < z) ∨ (r < cs.length ∧ 255 < cs.getD r 0)
theorem own_Lat.all {cs : List Int32} {vs : List Value} (h : own_Lat cs cs.length vs) (hl : vs.length = cs.length) : own_Cmp cs cs.length vs := by
  refine Or.inl ⟨rfl, ?_, fun z hz => ?_⟩
  · apply List.ext_getElem (by simp [hl])
    intro i h1 h2
    have g1 : vs.getD i (.int 0) = vs[i] := by rw [List.getD_eq_getElem?_getD, List.getElem?_eq_getElem h1]; rfl
    have hi : i < cs.length := by omega
    have g2 : cs.getD i 0 = cs[i] := by rw [List.getD_eq_getElem?_getD, List.getElem?_eq_getElem hi]; rfl
    rw [← g1, (h i hi).1, g2]; simp
  · obtain ⟨i, hi, rfl⟩ := List.getElem_of_mem hz
    have g2 : cs.getD i 0 = cs[i] := by rw [List.getD_eq_getElem?_getD, List.getElem?_eq_getElem hi]; rfl
    rw [← g2]; exact (h i hi).2
theorem own_cfal_eq {cs : List Int32} {cd N2 : Int32} {vs : List Value} (hc : StrChars.Road.CodA cs cd N2 vs) (h0 : 0 < cs.length) (h1 : cs.length ≤ 400) : nar .byte ((XT.ushr (Int32.ofNat cs.length - N2) (31 : Int32)).toInt8.toInt32) = cd := by
  rcases hc with ⟨rfl, rfl, -, -⟩ | ⟨rfl, rfl, -, -⟩
  · have e : Int32.ofNat cs.length - Int32.ofNat cs.length = 0 := by apply Int32.toBitVec_inj.mp; simp
    rw [e]; decide
  · have t : ∀ k : Fin 400, nar .byte ((XT.ushr (Int32.ofNat (k.val + 1) - Int32.ofNat (2 * (k.val + 1))) (31 : Int32)).toInt8.toInt32) = 1 := by decide +kernel
    have q := t ⟨cs.length - 1, by omega⟩
    have e : cs.length - 1 + 1 = cs.length := by omega
    simp only [e] at q; exact q
theorem own_CodA.cd {cs : List Int32} {cd N2 : Int32} {vs : List Value} (hc : StrChars.Road.CodA cs cd N2 vs) : cd = 0 ∨ cd = 1 := hc.imp (·.1) (·.1)
theorem own_narB {cs : List Int32} {cd N2 : Int32} {vs : List Value} (hc : StrChars.Road.CodA cs cd N2 vs) : narrow .byte (.int cd) = .int cd := by rcases own_CodA.cd hc with rfl | rfl <;> rfl
theorem own_fitB {cs : List Int32} {cd N2 : Int32} {vs : List Value} (hc : StrChars.Road.CodA cs cd N2 vs) : fits .byte (.int cd) = true := by rcases own_CodA.cd hc with rfl | rfl <;> rfl
theorem own_c255 (x : Int32) : ¬ ((x &&& (255 : Int32)).toUInt32.toUInt16.toUInt32.toInt32) < 0 ∧ ¬ (255 : Int32) < ((x &&& (255 : Int32)).toUInt32.toUInt16.toUInt32.toInt32) := by
  have t : ∀ k : Fin 256, ¬ ((Int32.ofNat k.val).toUInt32.toUInt16.toUInt32.toInt32) < 0 ∧ ¬ (255 : Int32) < ((Int32.ofNat k.val).toUInt32.toUInt16.toUInt32.toInt32) := by decide +kernel
  have h : (x &&& 255).toBitVec.toNat < 256 := by
    simp only [Int32.toBitVec_and, BitVec.toNat_and]
    exact Nat.lt_succ_of_le Nat.and_le_right
  have e : (x &&& 255) = Int32.ofNat (x &&& 255).toBitVec.toNat := by
    apply Int32.toBitVec_inj.mp
    show _ = BitVec.ofNat 32 _
    rw [BitVec.ofNat_toNat]; simp
  rw [e]
  exact t ⟨_, h⟩

theorem w0 {Z : State} {a0 : Array Value} (hw : ∀ d ∈ tables_1, d.before a0 Z = true) : Jvm.Cond.before (Jvm.Cond.methodLink "com/example/gangway/gangway/tool/OptionNamePinLaw" (16 : Nat) ({ cls := "com/example/gangway/gangway/tool/OptionNamePinLaw", name := "draw", desc := "(II)Ljava/lang/String;" } : Jvm.MethodName)) a0 Z = true := hw _ (List.mem_of_getElem? (i := 0) rfl)
theorem w1 {Z : State} {a0 : Array Value} (hw : ∀ d ∈ tables_1, d.before a0 Z = true) : Jvm.Cond.before (Jvm.Cond.static ({ cls := "com/example/gangway/gangway/tool/OptionNamePinLaw", name := "draw", desc := "(II)Ljava/lang/String;" } : Jvm.MethodName)) a0 Z = true := hw _ (List.mem_of_getElem? (i := 1) rfl)
theorem w2 {Z : State} {a0 : Array Value} (hw : ∀ d ∈ tables_1, d.before a0 Z = true) : Jvm.Cond.before (Jvm.Cond.initialized "com/example/gangway/gangway/tool/OptionNamePinLaw") a0 Z = true := hw _ (List.mem_of_getElem? (i := 2) rfl)
theorem w3 {Z : State} {a0 : Array Value} (hw : ∀ d ∈ tables_1, d.before a0 Z = true) : Jvm.Cond.before (Jvm.Cond.code ({ cls := "com/example/gangway/gangway/tool/OptionNamePinLaw", name := "draw", desc := "(II)Ljava/lang/String;" } : Jvm.MethodName) method_2_code (5 : Nat) (Option.some (Jvm.ClassFile.FieldType.object "java/lang/String"))) a0 Z = true := hw _ (List.mem_of_getElem? (i := 3) rfl)
theorem w4 {Z : State} {a0 : Array Value} (hw : ∀ d ∈ tables_1, d.before a0 Z = true) : Jvm.Cond.before (Jvm.Cond.classLink "com/example/gangway/gangway/tool/OptionNamePinLaw" (7 : Nat) "java/lang/String") a0 Z = true := hw _ (List.mem_of_getElem? (i := 4) rfl)
theorem w5 {Z : State} {a0 : Array Value} (hw : ∀ d ∈ tables_1, d.before a0 Z = true) : Jvm.Cond.before (Jvm.Cond.instantiable "java/lang/String" (4 : Nat)) a0 Z = true := hw _ (List.mem_of_getElem? (i := 5) rfl)
theorem w6 {Z : State} {a0 : Array Value} (hw : ∀ d ∈ tables_1, d.before a0 Z = true) : Jvm.Cond.before (Jvm.Cond.initialized "java/lang/String") a0 Z = true := hw _ (List.mem_of_getElem? (i := 6) rfl)
theorem w7 {Z : State} {a0 : Array Value} (hw : ∀ d ∈ tables_1, d.before a0 Z = true) : Jvm.Cond.before (Jvm.Cond.arrayClass Jvm.ClassFile.FieldType.char) a0 Z = true := hw _ (List.mem_of_getElem? (i := 7) rfl)
theorem w8 {Z : State} {a0 : Array Value} (hw : ∀ d ∈ tables_1, d.before a0 Z = true) : Jvm.Cond.before (Jvm.Cond.methodLink "com/example/gangway/gangway/tool/OptionNamePinLaw" (9 : Nat) ({ cls := "java/lang/String", name := "<init>", desc := "([C)V" } : Jvm.MethodName)) a0 Z = true := hw _ (List.mem_of_getElem? (i := 8) rfl)
theorem w9 {Z : State} {a0 : Array Value} (hw : ∀ d ∈ tables_1, d.before a0 Z = true) : Jvm.Cond.before (Jvm.Cond.instanceMethod ({ cls := "java/lang/String", name := "<init>", desc := "([C)V" } : Jvm.MethodName)) a0 Z = true := hw _ (List.mem_of_getElem? (i := 9) rfl)
theorem w10 {Z : State} {a0 : Array Value} (hw : ∀ d ∈ tables_1, d.before a0 Z = true) : Jvm.Cond.before (Jvm.Cond.code ({ cls := "java/lang/String", name := "<init>", desc := "([C)V" } : Jvm.MethodName) jdk_42_method_3_code (2 : Nat) (Option.none : Option Jvm.ClassFile.FieldType)) a0 Z = true := hw _ (List.mem_of_getElem? (i := 10) rfl)
theorem w11 {Z : State} {a0 : Array Value} (hw : ∀ d ∈ tables_1, d.before a0 Z = true) : Jvm.Cond.before (Jvm.Cond.methodLink "java/lang/String" (27 : Nat) ({ cls := "java/lang/String", name := "<init>", desc := "([CIILjava/lang/Void;)V" } : Jvm.MethodName)) a0 Z = true := hw _ (List.mem_of_getElem? (i := 11) rfl)
theorem w12 {Z : State} {a0 : Array Value} (hw : ∀ d ∈ tables_1, d.before a0 Z = true) : Jvm.Cond.before (Jvm.Cond.instanceMethod ({ cls := "java/lang/String", name := "<init>", desc := "([CIILjava/lang/Void;)V" } : Jvm.MethodName)) a0 Z = true := hw _ (List.mem_of_getElem? (i := 12) rfl)
theorem w14 {Z : State} {a0 : Array Value} (hw : ∀ d ∈ tables_1, d.before a0 Z = true) : Jvm.Cond.before (Jvm.Cond.code ({ cls := "java/lang/String", name := "<init>", desc := "([CIILjava/lang/Void;)V" } : Jvm.MethodName) jdk_42_method_149_code (6 : Nat) (Option.none : Option Jvm.ClassFile.FieldType)) a0 Z = true := hw _ (List.mem_of_getElem? (i := 14) rfl)
theorem w15 {Z : State} {a0 : Array Value} (hw : ∀ d ∈ tables_1, d.before a0 Z = true) : Jvm.Cond.before (Jvm.Cond.methodLink "java/lang/String" (1 : Nat) ({ cls := "java/lang/Object", name := "<init>", desc := "()V" } : Jvm.MethodName)) a0 Z = true := hw _ (List.mem_of_getElem? (i := 15) rfl)
theorem w16 {Z : State} {a0 : Array Value} (hw : ∀ d ∈ tables_1, d.before a0 Z = true) : Jvm.Cond.before (Jvm.Cond.instanceMethod ({ cls := "java/lang/Object", name := "<init>", desc := "()V" } : Jvm.MethodName)) a0 Z = true := hw _ (List.mem_of_getElem? (i := 16) rfl)
theorem w17 {Z : State} {a0 : Array Value} (hw : ∀ d ∈ tables_1, d.before a0 Z = true) : Jvm.Cond.before (Jvm.Cond.code ({ cls := "java/lang/Object", name := "<init>", desc := "()V" } : Jvm.MethodName) object_method_1_code (1 : Nat) (Option.none : Option Jvm.ClassFile.FieldType)) a0 Z = true := hw _ (List.mem_of_getElem? (i := 17) rfl)
theorem w18 {Z : State} {a0 : Array Value} (hw : ∀ d ∈ tables_1, d.before a0 Z = true) : Jvm.Cond.before (Jvm.Cond.stringLink "java/lang/String" (7 : Nat) "") a0 Z = true := hw _ (List.mem_of_getElem? (i := 18) rfl)
theorem w19 {Z : State} {a0 : Array Value} (hw : ∀ d ∈ tables_1, d.before a0 Z = true) : Jvm.Cond.before (Jvm.Cond.arrayClass Jvm.ClassFile.FieldType.byte) a0 Z = true := hw _ (List.mem_of_getElem? (i := 19) rfl)
theorem w20 {Z : State} {a0 : Array Value} (hw : ∀ d ∈ tables_1, d.before a0 Z = true) : Jvm.Cond.before (Jvm.Cond.laysFinal "java/lang/String" "java/lang/String" "value" "[B") a0 Z = true := hw _ (List.mem_of_getElem? (i := 20) rfl)
theorem w21 {Z : State} {a0 : Array Value} (hw : ∀ d ∈ tables_1, d.before a0 Z = true) : Jvm.Cond.before (Jvm.Cond.laysFinal "java/lang/String" "java/lang/String" "coder" "B") a0 Z = true := hw _ (List.mem_of_getElem? (i := 21) rfl)
theorem w24 {Z : State} {a0 : Array Value} (hw : ∀ d ∈ tables_1, d.before a0 Z = true) : Jvm.Cond.before (Jvm.Cond.fieldLink "java/lang/String" (9 : Nat) "java/lang/String" "value" "[B") a0 Z = true := hw _ (List.mem_of_getElem? (i := 24) rfl)
theorem w25 {Z : State} {a0 : Array Value} (hw : ∀ d ∈ tables_1, d.before a0 Z = true) : Jvm.Cond.before (Jvm.Cond.fieldLink "java/lang/String" (15 : Nat) "java/lang/String" "coder" "B") a0 Z = true := hw _ (List.mem_of_getElem? (i := 25) rfl)
theorem w26 {Z : State} {a0 : Array Value} (hw : ∀ d ∈ tables_1, d.before a0 Z = true) : Jvm.Cond.before (Jvm.Cond.arrayOver (Jvm.ClassFile.FieldType.object "java/lang/String")) a0 Z = true := hw _ (List.mem_of_getElem? (i := 26) rfl)
theorem w27 {Z : State} {a0 : Array Value} (hw : ∀ d ∈ tables_1, d.before a0 Z = true) : Jvm.Cond.before (Jvm.Cond.classLink "com/example/gangway/gangway/tool/OptionNamePinLaw" (22 : Nat) "com/example/gangway/gangway/tool/CommandLine$Option") a0 Z = true := hw _ (List.mem_of_getElem? (i := 27) rfl)
theorem w28 {Z : State} {a0 : Array Value} (hw : ∀ d ∈ tables_1, d.before a0 Z = true) : Jvm.Cond.before (Jvm.Cond.instantiable "com/example/gangway/gangway/tool/CommandLine$Option" (2 : Nat)) a0 Z = true := hw _ (List.mem_of_getElem? (i := 28) rfl)
theorem w29 {Z : State} {a0 : Array Value} (hw : ∀ d ∈ tables_1, d.before a0 Z = true) : Jvm.Cond.before (Jvm.Cond.initialized "com/example/gangway/gangway/tool/CommandLine$Option") a0 Z = true := hw _ (List.mem_of_getElem? (i := 29) rfl)
theorem w30 {Z : State} {a0 : Array Value} (hw : ∀ d ∈ tables_1, d.before a0 Z = true) : Jvm.Cond.before (Jvm.Cond.methodLink "com/example/gangway/gangway/tool/OptionNamePinLaw" (24 : Nat) ({ cls := "com/example/gangway/gangway/tool/CommandLine$Option", name := "<init>", desc := "(Z[Ljava/lang/String;)V" } : Jvm.MethodName)) a0 Z = true := hw _ (List.mem_of_getElem? (i := 30) rfl)
theorem w31 {Z : State} {a0 : Array Value} (hw : ∀ d ∈ tables_1, d.before a0 Z = true) : Jvm.Cond.before (Jvm.Cond.instanceMethod ({ cls := "com/example/gangway/gangway/tool/CommandLine$Option", name := "<init>", desc := "(Z[Ljava/lang/String;)V" } : Jvm.MethodName)) a0 Z = true := hw _ (List.mem_of_getElem? (i := 31) rfl)
theorem w32 {Z : State} {a0 : Array Value} (hw : ∀ d ∈ tables_1, d.before a0 Z = true) : Jvm.Cond.before (Jvm.Cond.code ({ cls := "com/example/gangway/gangway/tool/CommandLine$Option", name := "<init>", desc := "(Z[Ljava/lang/String;)V" } : Jvm.MethodName) prog_29_method_1_code (3 : Nat) (Option.none : Option Jvm.ClassFile.FieldType)) a0 Z = true := hw _ (List.mem_of_getElem? (i := 32) rfl)
theorem w33 {Z : State} {a0 : Array Value} (hw : ∀ d ∈ tables_1, d.before a0 Z = true) : Jvm.Cond.before (Jvm.Cond.methodLink "com/example/gangway/gangway/tool/CommandLine$Option" (1 : Nat) ({ cls := "java/lang/Object", name := "<init>", desc := "()V" } : Jvm.MethodName)) a0 Z = true := hw _ (List.mem_of_getElem? (i := 33) rfl)
theorem w34 {Z : State} {a0 : Array Value} (hw : ∀ d ∈ tables_1, d.before a0 Z = true) : Jvm.Cond.before (Jvm.Cond.fieldLink "com/example/gangway/gangway/tool/CommandLine$Option" (7 : Nat) "com/example/gangway/gangway/tool/CommandLine$Option" "repeatable" "Z") a0 Z = true := hw _ (List.mem_of_getElem? (i := 34) rfl)
theorem w35 {Z : State} {a0 : Array Value} (hw : ∀ d ∈ tables_1, d.before a0 Z = true) : Jvm.Cond.before (Jvm.Cond.laysFinal "com/example/gangway/gangway/tool/CommandLine$Option" "com/example/gangway/gangway/tool/CommandLine$Option" "repeatable" "Z") a0 Z = true := hw _ (List.mem_of_getElem? (i := 35) rfl)
theorem w36 {Z : State} {a0 : Array Value} (hw : ∀ d ∈ tables_1, d.before a0 Z = true) : Jvm.Cond.before (Jvm.Cond.methodLink "com/example/gangway/gangway/tool/CommandLine$Option" (13 : Nat) ({ cls := "java/util/List", name := "of", desc := "([Ljava/lang/Object;)Ljava/util/List;" } : Jvm.MethodName)) a0 Z = true := hw _ (List.mem_of_getElem? (i := 36) rfl)
theorem w37 {Z : State} {a0 : Array Value} (hw : ∀ d ∈ tables_1, d.before a0 Z = true) : Jvm.Cond.before (Jvm.Cond.static ({ cls := "java/util/List", name := "of", desc := "([Ljava/lang/Object;)Ljava/util/List;" } : Jvm.MethodName)) a0 Z = true := hw _ (List.mem_of_getElem? (i := 37) rfl)
theorem w38 {Z : State} {a0 : Array Value} (hw : ∀ d ∈ tables_1, d.before a0 Z = true) : Jvm.Cond.before (Jvm.Cond.initialized "java/util/List") a0 Z = true := hw _ (List.mem_of_getElem? (i := 38) rfl)
theorem w39 {Z : State} {a0 : Array Value} (hw : ∀ d ∈ tables_1, d.before a0 Z = true) : Jvm.Cond.before (Jvm.Cond.code ({ cls := "java/util/List", name := "of", desc := "([Ljava/lang/Object;)Ljava/util/List;" } : Jvm.MethodName) jdk_40_method_47_code (2 : Nat) (Option.some (Jvm.ClassFile.FieldType.object "java/util/List"))) a0 Z = true := hw _ (List.mem_of_getElem? (i := 39) rfl)
theorem w40 {Z : State} {a0 : Array Value} (hw : ∀ d ∈ tables_1, d.before a0 Z = true) : Jvm.Cond.before (Jvm.Cond.classLink "java/util/List" (96 : Nat) "java/util/ImmutableCollections$List12") a0 Z = true := hw _ (List.mem_of_getElem? (i := 40) rfl)
theorem w41 {Z : State} {a0 : Array Value} (hw : ∀ d ∈ tables_1, d.before a0 Z = true) : Jvm.Cond.before (Jvm.Cond.instantiable "java/util/ImmutableCollections$List12" (2 : Nat)) a0 Z = true := hw _ (List.mem_of_getElem? (i := 41) rfl)
theorem w42 {Z : State} {a0 : Array Value} (hw : ∀ d ∈ tables_1, d.before a0 Z = true) : Jvm.Cond.before (Jvm.Cond.initialized "java/util/ImmutableCollections$List12") a0 Z = true := hw _ (List.mem_of_getElem? (i := 42) rfl)
theorem w43 {Z : State} {a0 : Array Value} (hw : ∀ d ∈ tables_1, d.before a0 Z = true) : Jvm.Cond.before (Jvm.Cond.methodLink "java/util/List" (98 : Nat) ({ cls := "java/util/ImmutableCollections$List12", name := "<init>", desc := "(Ljava/lang/Object;)V" } : Jvm.MethodName)) a0 Z = true := hw _ (List.mem_of_getElem? (i := 43) rfl)
theorem w44 {Z : State} {a0 : Array Value} (hw : ∀ d ∈ tables_1, d.before a0 Z = true) : Jvm.Cond.before (Jvm.Cond.instanceMethod ({ cls := "java/util/ImmutableCollections$List12", name := "<init>", desc := "(Ljava/lang/Object;)V" } : Jvm.MethodName)) a0 Z = true := hw _ (List.mem_of_getElem? (i := 44) rfl)
theorem w46 {Z : State} {a0 : Array Value} (hw : ∀ d ∈ tables_1, d.before a0 Z = true) : Jvm.Cond.before (Jvm.Cond.code ({ cls := "java/util/ImmutableCollections$List12", name := "<init>", desc := "(Ljava/lang/Object;)V" } : Jvm.MethodName) jdk_44_method_1_code (2 : Nat) (Option.none : Option Jvm.ClassFile.FieldType)) a0 Z = true := hw _ (List.mem_of_getElem? (i := 46) rfl)
theorem w47 {Z : State} {a0 : Array Value} (hw : ∀ d ∈ tables_1, d.before a0 Z = true) : Jvm.Cond.before (Jvm.Cond.methodLink "java/util/ImmutableCollections$List12" (1 : Nat) ({ cls := "java/util/ImmutableCollections$AbstractImmutableList", name := "<init>", desc := "()V" } : Jvm.MethodName)) a0 Z = true := hw _ (List.mem_of_getElem? (i := 47) rfl)
theorem w48 {Z : State} {a0 : Array Value} (hw : ∀ d ∈ tables_1, d.before a0 Z = true) : Jvm.Cond.before (Jvm.Cond.instanceMethod ({ cls := "java/util/ImmutableCollections$AbstractImmutableList", name := "<init>", desc := "()V" } : Jvm.MethodName)) a0 Z = true := hw _ (List.mem_of_getElem? (i := 48) rfl)
theorem w51 {Z : State} {a0 : Array Value} (hw : ∀ d ∈ tables_1, d.before a0 Z = true) : Jvm.Cond.before (Jvm.Cond.initialized "java/util/ImmutableCollections$AbstractImmutableList") a0 Z = true := hw _ (List.mem_of_getElem? (i := 51) rfl)
theorem w52 {Z : State} {a0 : Array Value} (hw : ∀ d ∈ tables_1, d.before a0 Z = true) : Jvm.Cond.before (Jvm.Cond.code ({ cls := "java/util/ImmutableCollections$AbstractImmutableList", name := "<init>", desc := "()V" } : Jvm.MethodName) jdk_46_method_1_code (1 : Nat) (Option.none : Option Jvm.ClassFile.FieldType)) a0 Z = true := hw _ (List.mem_of_getElem? (i := 52) rfl)
theorem w53 {Z : State} {a0 : Array Value} (hw : ∀ d ∈ tables_1, d.before a0 Z = true) : Jvm.Cond.before (Jvm.Cond.methodLink "java/util/ImmutableCollections$AbstractImmutableList" (1 : Nat) ({ cls := "java/util/ImmutableCollections$AbstractImmutableCollection", name := "<init>", desc := "()V" } : Jvm.MethodName)) a0 Z = true := hw _ (List.mem_of_getElem? (i := 53) rfl)
theorem w54 {Z : State} {a0 : Array Value} (hw : ∀ d ∈ tables_1, d.before a0 Z = true) : Jvm.Cond.before (Jvm.Cond.instanceMethod ({ cls := "java/util/ImmutableCollections$AbstractImmutableCollection", name := "<init>", desc := "()V" } : Jvm.MethodName)) a0 Z = true := hw _ (List.mem_of_getElem? (i := 54) rfl)
theorem w57 {Z : State} {a0 : Array Value} (hw : ∀ d ∈ tables_1, d.before a0 Z = true) : Jvm.Cond.before (Jvm.Cond.initialized "java/util/ImmutableCollections$AbstractImmutableCollection") a0 Z = true := hw _ (List.mem_of_getElem? (i := 57) rfl)
theorem w58 {Z : State} {a0 : Array Value} (hw : ∀ d ∈ tables_1, d.before a0 Z = true) : Jvm.Cond.before (Jvm.Cond.code ({ cls := "java/util/ImmutableCollections$AbstractImmutableCollection", name := "<init>", desc := "()V" } : Jvm.MethodName) jdk_47_method_1_code (1 : Nat) (Option.none : Option Jvm.ClassFile.FieldType)) a0 Z = true := hw _ (List.mem_of_getElem? (i := 58) rfl)
theorem w59 {Z : State} {a0 : Array Value} (hw : ∀ d ∈ tables_1, d.before a0 Z = true) : Jvm.Cond.before (Jvm.Cond.methodLink "java/util/ImmutableCollections$AbstractImmutableCollection" (1 : Nat) ({ cls := "java/util/AbstractCollection", name := "<init>", desc := "()V" } : Jvm.MethodName)) a0 Z = true := hw _ (List.mem_of_getElem? (i := 59) rfl)
theorem w60 {Z : State} {a0 : Array Value} (hw : ∀ d ∈ tables_1, d.before a0 Z = true) : Jvm.Cond.before (Jvm.Cond.instanceMethod ({ cls := "java/util/AbstractCollection", name := "<init>", desc := "()V" } : Jvm.MethodName)) a0 Z = true := hw _ (List.mem_of_getElem? (i := 60) rfl)
theorem w63 {Z : State} {a0 : Array Value} (hw : ∀ d ∈ tables_1, d.before a0 Z = true) : Jvm.Cond.before (Jvm.Cond.initialized "java/util/AbstractCollection") a0 Z = true := hw _ (List.mem_of_getElem? (i := 63) rfl)
theorem w64 {Z : State} {a0 : Array Value} (hw : ∀ d ∈ tables_1, d.before a0 Z = true) : Jvm.Cond.before (Jvm.Cond.code ({ cls := "java/util/AbstractCollection", name := "<init>", desc := "()V" } : Jvm.MethodName) jdk_22_method_1_code (1 : Nat) (Option.none : Option Jvm.ClassFile.FieldType)) a0 Z = true := hw _ (List.mem_of_getElem? (i := 64) rfl)
theorem w65 {Z : State} {a0 : Array Value} (hw : ∀ d ∈ tables_1, d.before a0 Z = true) : Jvm.Cond.before (Jvm.Cond.methodLink "java/util/AbstractCollection" (1 : Nat) ({ cls := "java/lang/Object", name := "<init>", desc := "()V" } : Jvm.MethodName)) a0 Z = true := hw _ (List.mem_of_getElem? (i := 65) rfl)
theorem w66 {Z : State} {a0 : Array Value} (hw : ∀ d ∈ tables_1, d.before a0 Z = true) : Jvm.Cond.before (Jvm.Cond.methodLink "java/util/ImmutableCollections$List12" (7 : Nat) ({ cls := "java/util/Objects", name := "requireNonNull", desc := "(Ljava/lang/Object;)Ljava/lang/Object;" } : Jvm.MethodName)) a0 Z = true := hw _ (List.mem_of_getElem? (i := 66) rfl)
theorem w67 {Z : State} {a0 : Array Value} (hw : ∀ d ∈ tables_1, d.before a0 Z = true) : Jvm.Cond.before (Jvm.Cond.static ({ cls := "java/util/Objects", name := "requireNonNull", desc := "(Ljava/lang/Object;)Ljava/lang/Object;" } : Jvm.MethodName)) a0 Z = true := hw _ (List.mem_of_getElem? (i := 67) rfl)
theorem w68 {Z : State} {a0 : Array Value} (hw : ∀ d ∈ tables_1, d.before a0 Z = true) : Jvm.Cond.before (Jvm.Cond.initialized "java/util/Objects") a0 Z = true := hw _ (List.mem_of_getElem? (i := 68) rfl)
theorem w69 {Z : State} {a0 : Array Value} (hw : ∀ d ∈ tables_1, d.before a0 Z = true) : Jvm.Cond.before (Jvm.Cond.code ({ cls := "java/util/Objects", name := "requireNonNull", desc := "(Ljava/lang/Object;)Ljava/lang/Object;" } : Jvm.MethodName) jdk_31_method_10_code (1 : Nat) (Option.some (Jvm.ClassFile.FieldType.object "java/lang/Object"))) a0 Z = true := hw _ (List.mem_of_getElem? (i := 69) rfl)
theorem w70 {Z : State} {a0 : Array Value} (hw : ∀ d ∈ tables_1, d.before a0 Z = true) : Jvm.Cond.before (Jvm.Cond.fieldLink "java/util/ImmutableCollections$List12" (13 : Nat) "java/util/ImmutableCollections$List12" "e0" "Ljava/lang/Object;") a0 Z = true := hw _ (List.mem_of_getElem? (i := 70) rfl)
theorem w71 {Z : State} {a0 : Array Value} (hw : ∀ d ∈ tables_1, d.before a0 Z = true) : Jvm.Cond.before (Jvm.Cond.laysFinal "java/util/ImmutableCollections$List12" "java/util/ImmutableCollections$List12" "e0" "Ljava/lang/Object;") a0 Z = true := hw _ (List.mem_of_getElem? (i := 71) rfl)
theorem w72 {Z : State} {a0 : Array Value} (hw : ∀ d ∈ tables_1, d.before a0 Z = true) : Jvm.Cond.before (Jvm.Cond.fieldLinkNest "java/util/ImmutableCollections$List12" (19 : Nat) "java/util/ImmutableCollections" "EMPTY" "Ljava/lang/Object;" "java/util/ImmutableCollections") a0 Z = true := hw _ (List.mem_of_getElem? (i := 72) rfl)
theorem w73 {Z : State} {a0 : Array Value} (hw : ∀ d ∈ tables_1, d.before a0 Z = true) : Jvm.Cond.before (Jvm.Cond.initialized "java/util/ImmutableCollections") a0 Z = true := hw _ (List.mem_of_getElem? (i := 73) rfl)
theorem w74 {Z : State} {a0 : Array Value} (hw : ∀ d ∈ tables_1, d.before a0 Z = true) : Jvm.Cond.before (Jvm.Cond.fieldLink "java/util/ImmutableCollections$List12" (24 : Nat) "java/util/ImmutableCollections$List12" "e1" "Ljava/lang/Object;") a0 Z = true := hw _ (List.mem_of_getElem? (i := 74) rfl)
theorem w75 {Z : State} {a0 : Array Value} (hw : ∀ d ∈ tables_1, d.before a0 Z = true) : Jvm.Cond.before (Jvm.Cond.laysFinal "java/util/ImmutableCollections$List12" "java/util/ImmutableCollections$List12" "e1" "Ljava/lang/Object;") a0 Z = true := hw _ (List.mem_of_getElem? (i := 75) rfl)
theorem w76 {Z : State} {a0 : Array Value} (hw : ∀ d ∈ tables_1, d.before a0 Z = true) : Jvm.Cond.before (Jvm.Cond.fieldLink "com/example/gangway/gangway/tool/CommandLine$Option" (19 : Nat) "com/example/gangway/gangway/tool/CommandLine$Option" "spellings" "Ljava/util/List;") a0 Z = true := hw _ (List.mem_of_getElem? (i := 76) rfl)
theorem w77 {Z : State} {a0 : Array Value} (hw : ∀ d ∈ tables_1, d.before a0 Z = true) : Jvm.Cond.before (Jvm.Cond.laysFinal "com/example/gangway/gangway/tool/CommandLine$Option" "com/example/gangway/gangway/tool/CommandLine$Option" "spellings" "Ljava/util/List;") a0 Z = true := hw _ (List.mem_of_getElem? (i := 77) rfl)
theorem w78 {Z : State} {a0 : Array Value} (hw : ∀ d ∈ tables_1, d.before a0 Z = true) : Jvm.Cond.before (Jvm.Cond.methodLink "com/example/gangway/gangway/tool/OptionNamePinLaw" (27 : Nat) ({ cls := "com/example/gangway/gangway/tool/CommandLine$Option", name := "name", desc := "()Ljava/lang/String;" } : Jvm.MethodName)) a0 Z = true := hw _ (List.mem_of_getElem? (i := 78) rfl)
theorem w79 {Z : State} {a0 : Array Value} (hw : ∀ d ∈ tables_1, d.before a0 Z = true) : Jvm.Cond.before (Jvm.Cond.declares ({ cls := "com/example/gangway/gangway/tool/CommandLine$Option", name := "name", desc := "()Ljava/lang/String;" } : Jvm.MethodName)) a0 Z = true := hw _ (List.mem_of_getElem? (i := 79) rfl)
theorem w80 {Z : State} {a0 : Array Value} (hw : ∀ d ∈ tables_1, d.before a0 Z = true) : Jvm.Cond.before (Jvm.Cond.instanceMethod ({ cls := "com/example/gangway/gangway/tool/CommandLine$Option", name := "name", desc := "()Ljava/lang/String;" } : Jvm.MethodName)) a0 Z = true := hw _ (List.mem_of_getElem? (i := 80) rfl)
theorem w81 {Z : State} {a0 : Array Value} (hw : ∀ d ∈ tables_1, d.before a0 Z = true) : Jvm.Cond.before (Jvm.Cond.selects "com/example/gangway/gangway/tool/CommandLine$Option" ({ cls := "com/example/gangway/gangway/tool/CommandLine$Option", name := "name", desc := "()Ljava/lang/String;" } : Jvm.MethodName) ({ cls := "com/example/gangway/gangway/tool/CommandLine$Option", name := "name", desc := "()Ljava/lang/String;" } : Jvm.MethodName)) a0 Z = true := hw _ (List.mem_of_getElem? (i := 81) rfl)
theorem w82 {Z : State} {a0 : Array Value} (hw : ∀ d ∈ tables_1, d.before a0 Z = true) : Jvm.Cond.before (Jvm.Cond.code ({ cls := "com/example/gangway/gangway/tool/CommandLine$Option", name := "name", desc := "()Ljava/lang/String;" } : Jvm.MethodName) prog_29_method_2_code (1 : Nat) (Option.some (Jvm.ClassFile.FieldType.object "java/lang/String"))) a0 Z = true := hw _ (List.mem_of_getElem? (i := 82) rfl)
theorem w83 {Z : State} {a0 : Array Value} (hw : ∀ d ∈ tables_1, d.before a0 Z = true) : Jvm.Cond.before (Jvm.Cond.methodLink "com/example/gangway/gangway/tool/CommandLine$Option" (23 : Nat) ({ cls := "java/util/List", name := "get", desc := "(I)Ljava/lang/Object;" } : Jvm.MethodName)) a0 Z = true := hw _ (List.mem_of_getElem? (i := 83) rfl)
theorem w84 {Z : State} {a0 : Array Value} (hw : ∀ d ∈ tables_1, d.before a0 Z = true) : Jvm.Cond.before (Jvm.Cond.declares ({ cls := "java/util/List", name := "get", desc := "(I)Ljava/lang/Object;" } : Jvm.MethodName)) a0 Z = true := hw _ (List.mem_of_getElem? (i := 84) rfl)
theorem w85 {Z : State} {a0 : Array Value} (hw : ∀ d ∈ tables_1, d.before a0 Z = true) : Jvm.Cond.before (Jvm.Cond.interfaceMethod "java/util/List" "java/util/List" "get" "(I)Ljava/lang/Object;") a0 Z = true := hw _ (List.mem_of_getElem? (i := 85) rfl)
theorem w86 {Z : State} {a0 : Array Value} (hw : ∀ d ∈ tables_1, d.before a0 Z = true) : Jvm.Cond.before (Jvm.Cond.selects "java/util/ImmutableCollections$List12" ({ cls := "java/util/List", name := "get", desc := "(I)Ljava/lang/Object;" } : Jvm.MethodName) ({ cls := "java/util/ImmutableCollections$List12", name := "get", desc := "(I)Ljava/lang/Object;" } : Jvm.MethodName)) a0 Z = true := hw _ (List.mem_of_getElem? (i := 86) rfl)
theorem w87 {Z : State} {a0 : Array Value} (hw : ∀ d ∈ tables_1, d.before a0 Z = true) : Jvm.Cond.before (Jvm.Cond.instanceMethod ({ cls := "java/util/ImmutableCollections$List12", name := "get", desc := "(I)Ljava/lang/Object;" } : Jvm.MethodName)) a0 Z = true := hw _ (List.mem_of_getElem? (i := 87) rfl)
theorem w88 {Z : State} {a0 : Array Value} (hw : ∀ d ∈ tables_1, d.before a0 Z = true) : Jvm.Cond.before (Jvm.Cond.publicMethod ({ cls := "java/util/ImmutableCollections$List12", name := "get", desc := "(I)Ljava/lang/Object;" } : Jvm.MethodName)) a0 Z = true := hw _ (List.mem_of_getElem? (i := 88) rfl)
theorem w89 {Z : State} {a0 : Array Value} (hw : ∀ d ∈ tables_1, d.before a0 Z = true) : Jvm.Cond.before (Jvm.Cond.unhidden "java/util/ImmutableCollections$List12" "get" "(I)Ljava/lang/Object;") a0 Z = true := hw _ (List.mem_of_getElem? (i := 89) rfl)
theorem w90 {Z : State} {a0 : Array Value} (hw : ∀ d ∈ tables_1, d.before a0 Z = true) : Jvm.Cond.before (Jvm.Cond.castable "java/util/ImmutableCollections$List12" "java/util/List") a0 Z = true := hw _ (List.mem_of_getElem? (i := 90) rfl)
theorem w91 {Z : State} {a0 : Array Value} (hw : ∀ d ∈ tables_1, d.before a0 Z = true) : Jvm.Cond.before (Jvm.Cond.code ({ cls := "java/util/ImmutableCollections$List12", name := "get", desc := "(I)Ljava/lang/Object;" } : Jvm.MethodName) jdk_44_method_5_code (2 : Nat) (Option.some (Jvm.ClassFile.FieldType.object "java/lang/Object"))) a0 Z = true := hw _ (List.mem_of_getElem? (i := 91) rfl)
theorem w92 {Z : State} {a0 : Array Value} (hw : ∀ d ∈ tables_1, d.before a0 Z = true) : Jvm.Cond.before (Jvm.Cond.classLink "com/example/gangway/gangway/tool/CommandLine$Option" (27 : Nat) "java/lang/String") a0 Z = true := hw _ (List.mem_of_getElem? (i := 92) rfl)
theorem w93 {Z : State} {a0 : Array Value} (hw : ∀ d ∈ tables_1, d.before a0 Z = true) : Jvm.Cond.before (Jvm.Cond.methodLink "com/example/gangway/gangway/tool/OptionNamePinLaw" (31 : Nat) ({ cls := "java/lang/String", name := "equals", desc := "(Ljava/lang/Object;)Z" } : Jvm.MethodName)) a0 Z = true := hw _ (List.mem_of_getElem? (i := 93) rfl)
theorem w94 {Z : State} {a0 : Array Value} (hw : ∀ d ∈ tables_1, d.before a0 Z = true) : Jvm.Cond.before (Jvm.Cond.declares ({ cls := "java/lang/String", name := "equals", desc := "(Ljava/lang/Object;)Z" } : Jvm.MethodName)) a0 Z = true := hw _ (List.mem_of_getElem? (i := 94) rfl)
theorem w95 {Z : State} {a0 : Array Value} (hw : ∀ d ∈ tables_1, d.before a0 Z = true) : Jvm.Cond.before (Jvm.Cond.instanceMethod ({ cls := "java/lang/String", name := "equals", desc := "(Ljava/lang/Object;)Z" } : Jvm.MethodName)) a0 Z = true := hw _ (List.mem_of_getElem? (i := 95) rfl)
theorem w96 {Z : State} {a0 : Array Value} (hw : ∀ d ∈ tables_1, d.before a0 Z = true) : Jvm.Cond.before (Jvm.Cond.selects "java/lang/String" ({ cls := "java/lang/String", name := "equals", desc := "(Ljava/lang/Object;)Z" } : Jvm.MethodName) ({ cls := "java/lang/String", name := "equals", desc := "(Ljava/lang/Object;)Z" } : Jvm.MethodName)) a0 Z = true := hw _ (List.mem_of_getElem? (i := 96) rfl)
theorem w97 {Z : State} {a0 : Array Value} (hw : ∀ d ∈ tables_1, d.before a0 Z = true) : Jvm.Cond.before (Jvm.Cond.code ({ cls := "java/lang/String", name := "equals", desc := "(Ljava/lang/Object;)Z" } : Jvm.MethodName) jdk_42_method_66_code (3 : Nat) (Option.some Jvm.ClassFile.FieldType.boolean)) a0 Z = true := hw _ (List.mem_of_getElem? (i := 97) rfl)
theorem w98 {Z : State} {a0 : Array Value} (hw : ∀ d ∈ tables_1, d.before a0 Z = true) : Jvm.Cond.before (Jvm.Cond.methodLink "com/example/gangway/gangway/tool/OptionNamePinLaw" (35 : Nat) ({ cls := "java/lang/String", name := "length", desc := "()I" } : Jvm.MethodName)) a0 Z = true := hw _ (List.mem_of_getElem? (i := 98) rfl)
theorem w99 {Z : State} {a0 : Array Value} (hw : ∀ d ∈ tables_1, d.before a0 Z = true) : Jvm.Cond.before (Jvm.Cond.declares ({ cls := "java/lang/String", name := "length", desc := "()I" } : Jvm.MethodName)) a0 Z = true := hw _ (List.mem_of_getElem? (i := 99) rfl)
theorem w100 {Z : State} {a0 : Array Value} (hw : ∀ d ∈ tables_1, d.before a0 Z = true) : Jvm.Cond.before (Jvm.Cond.instanceMethod ({ cls := "java/lang/String", name := "length", desc := "()I" } : Jvm.MethodName)) a0 Z = true := hw _ (List.mem_of_getElem? (i := 100) rfl)
theorem w101 {Z : State} {a0 : Array Value} (hw : ∀ d ∈ tables_1, d.before a0 Z = true) : Jvm.Cond.before (Jvm.Cond.selects "java/lang/String" ({ cls := "java/lang/String", name := "length", desc := "()I" } : Jvm.MethodName) ({ cls := "java/lang/String", name := "length", desc := "()I" } : Jvm.MethodName)) a0 Z = true := hw _ (List.mem_of_getElem? (i := 101) rfl)
theorem w108 {Z : State} {a0 : Array Value} (hw : ∀ d ∈ tables_1, d.before a0 Z = true) : Jvm.Cond.before (Jvm.Cond.fieldLink "java/lang/String" (38 : Nat) "java/lang/String" "COMPACT_STRINGS" "Z") a0 Z = true := hw _ (List.mem_of_getElem? (i := 108) rfl)
theorem w109 {Z : State} {a0 : Array Value} (hw : ∀ d ∈ tables_1, d.before a0 Z = true) : Jvm.Cond.before (Jvm.Cond.methodLink "com/example/gangway/gangway/tool/OptionNamePinLaw" (12 : Nat) ({ cls := "java/lang/String", name := "valueOf", desc := "(C)Ljava/lang/String;" } : Jvm.MethodName)) a0 Z = true := hw _ (List.mem_of_getElem? (i := 109) rfl)
theorem w110 {Z : State} {a0 : Array Value} (hw : ∀ d ∈ tables_1, d.before a0 Z = true) : Jvm.Cond.before (Jvm.Cond.static ({ cls := "java/lang/String", name := "valueOf", desc := "(C)Ljava/lang/String;" } : Jvm.MethodName)) a0 Z = true := hw _ (List.mem_of_getElem? (i := 110) rfl)
theorem w111 {Z : State} {a0 : Array Value} (hw : ∀ d ∈ tables_1, d.before a0 Z = true) : Jvm.Cond.before (Jvm.Cond.code ({ cls := "java/lang/String", name := "valueOf", desc := "(C)Ljava/lang/String;" } : Jvm.MethodName) jdk_42_method_139_code (1 : Nat) (Option.some (Jvm.ClassFile.FieldType.object "java/lang/String"))) a0 Z = true := hw _ (List.mem_of_getElem? (i := 111) rfl)
theorem w112 {Z : State} {a0 : Array Value} (hw : ∀ d ∈ tables_1, d.before a0 Z = true) : Jvm.Cond.before (Jvm.Cond.methodLink "java/lang/String" (1015 : Nat) ({ cls := "java/lang/StringLatin1", name := "canEncode", desc := "(C)Z" } : Jvm.MethodName)) a0 Z = true := hw _ (List.mem_of_getElem? (i := 112) rfl)
theorem w113 {Z : State} {a0 : Array Value} (hw : ∀ d ∈ tables_1, d.before a0 Z = true) : Jvm.Cond.before (Jvm.Cond.static ({ cls := "java/lang/StringLatin1", name := "canEncode", desc := "(C)Z" } : Jvm.MethodName)) a0 Z = true := hw _ (List.mem_of_getElem? (i := 113) rfl)
theorem w114 {Z : State} {a0 : Array Value} (hw : ∀ d ∈ tables_1, d.before a0 Z = true) : Jvm.Cond.before (Jvm.Cond.initialized "java/lang/StringLatin1") a0 Z = true := hw _ (List.mem_of_getElem? (i := 114) rfl)
theorem w115 {Z : State} {a0 : Array Value} (hw : ∀ d ∈ tables_1, d.before a0 Z = true) : Jvm.Cond.before (Jvm.Cond.code ({ cls := "java/lang/StringLatin1", name := "canEncode", desc := "(C)Z" } : Jvm.MethodName) jdk_43_method_3_code (1 : Nat) (Option.some Jvm.ClassFile.FieldType.boolean)) a0 Z = true := hw _ (List.mem_of_getElem? (i := 115) rfl)
theorem w116 {Z : State} {a0 : Array Value} (hw : ∀ d ∈ tables_1, d.before a0 Z = true) : Jvm.Cond.before (Jvm.Cond.classLink "java/lang/String" (10 : Nat) "java/lang/String") a0 Z = true := hw _ (List.mem_of_getElem? (i := 116) rfl)
theorem w117 {Z : State} {a0 : Array Value} (hw : ∀ d ∈ tables_1, d.before a0 Z = true) : Jvm.Cond.before (Jvm.Cond.methodLink "java/lang/String" (1018 : Nat) ({ cls := "java/lang/StringLatin1", name := "toBytes", desc := "(C)[B" } : Jvm.MethodName)) a0 Z = true := hw _ (List.mem_of_getElem? (i := 117) rfl)
theorem w118 {Z : State} {a0 : Array Value} (hw : ∀ d ∈ tables_1, d.before a0 Z = true) : Jvm.Cond.before (Jvm.Cond.static ({ cls := "java/lang/StringLatin1", name := "toBytes", desc := "(C)[B" } : Jvm.MethodName)) a0 Z = true := hw _ (List.mem_of_getElem? (i := 118) rfl)
theorem w119 {Z : State} {a0 : Array Value} (hw : ∀ d ∈ tables_1, d.before a0 Z = true) : Jvm.Cond.before (Jvm.Cond.code ({ cls := "java/lang/StringLatin1", name := "toBytes", desc := "(C)[B" } : Jvm.MethodName) jdk_43_method_46_code (1 : Nat) (Option.some (Jvm.ClassFile.FieldType.array Jvm.ClassFile.FieldType.byte))) a0 Z = true := hw _ (List.mem_of_getElem? (i := 119) rfl)
theorem w120 {Z : State} {a0 : Array Value} (hw : ∀ d ∈ tables_1, d.before a0 Z = true) : Jvm.Cond.before (Jvm.Cond.methodLink "java/lang/String" (209 : Nat) ({ cls := "java/lang/String", name := "<init>", desc := "([BB)V" } : Jvm.MethodName)) a0 Z = true := hw _ (List.mem_of_getElem? (i := 120) rfl)
theorem w121 {Z : State} {a0 : Array Value} (hw : ∀ d ∈ tables_1, d.before a0 Z = true) : Jvm.Cond.before (Jvm.Cond.instanceMethod ({ cls := "java/lang/String", name := "<init>", desc := "([BB)V" } : Jvm.MethodName)) a0 Z = true := hw _ (List.mem_of_getElem? (i := 121) rfl)
theorem w122 {Z : State} {a0 : Array Value} (hw : ∀ d ∈ tables_1, d.before a0 Z = true) : Jvm.Cond.before (Jvm.Cond.code ({ cls := "java/lang/String", name := "<init>", desc := "([BB)V" } : Jvm.MethodName) jdk_42_method_151_code (3 : Nat) (Option.none : Option Jvm.ClassFile.FieldType)) a0 Z = true := hw _ (List.mem_of_getElem? (i := 122) rfl)
theorem w123 {Z : State} {a0 : Array Value} (hw : ∀ d ∈ tables_1, d.before a0 Z = true) : Jvm.Cond.before (Jvm.Cond.methodLink "java/util/List" (100 : Nat) ({ cls := "java/util/ImmutableCollections$List12", name := "<init>", desc := "(Ljava/lang/Object;Ljava/lang/Object;)V" } : Jvm.MethodName)) a0 Z = true := hw _ (List.mem_of_getElem? (i := 123) rfl)
theorem w124 {Z : State} {a0 : Array Value} (hw : ∀ d ∈ tables_1, d.before a0 Z = true) : Jvm.Cond.before (Jvm.Cond.instanceMethod ({ cls := "java/util/ImmutableCollections$List12", name := "<init>", desc := "(Ljava/lang/Object;Ljava/lang/Object;)V" } : Jvm.MethodName)) a0 Z = true := hw _ (List.mem_of_getElem? (i := 124) rfl)
theorem w125 {Z : State} {a0 : Array Value} (hw : ∀ d ∈ tables_1, d.before a0 Z = true) : Jvm.Cond.before (Jvm.Cond.code ({ cls := "java/util/ImmutableCollections$List12", name := "<init>", desc := "(Ljava/lang/Object;Ljava/lang/Object;)V" } : Jvm.MethodName) jdk_44_method_2_code (3 : Nat) (Option.none : Option Jvm.ClassFile.FieldType)) a0 Z = true := hw _ (List.mem_of_getElem? (i := 125) rfl)
theorem w136 {Z : State} {a0 : Array Value} (hw : ∀ d ∈ tables_1, d.before a0 Z = true) : Jvm.Cond.before (Jvm.Cond.methodLink "java/util/List" (109 : Nat) ({ cls := "java/util/ImmutableCollections", name := "listFromArray", desc := "([Ljava/lang/Object;)Ljava/util/List;" } : Jvm.MethodName)) a0 Z = true := hw _ (List.mem_of_getElem? (i := 136) rfl)
theorem w137 {Z : State} {a0 : Array Value} (hw : ∀ d ∈ tables_1, d.before a0 Z = true) : Jvm.Cond.before (Jvm.Cond.static ({ cls := "java/util/ImmutableCollections", name := "listFromArray", desc := "([Ljava/lang/Object;)Ljava/util/List;" } : Jvm.MethodName)) a0 Z = true := hw _ (List.mem_of_getElem? (i := 137) rfl)
theorem w138 {Z : State} {a0 : Array Value} (hw : ∀ d ∈ tables_1, d.before a0 Z = true) : Jvm.Cond.before (Jvm.Cond.code ({ cls := "java/util/ImmutableCollections", name := "listFromArray", desc := "([Ljava/lang/Object;)Ljava/util/List;" } : Jvm.MethodName) jdk_56_method_4_code (3 : Nat) (Option.some (Jvm.ClassFile.FieldType.object "java/util/List"))) a0 Z = true := hw _ (List.mem_of_getElem? (i := 138) rfl)
theorem w139 {Z : State} {a0 : Array Value} (hw : ∀ d ∈ tables_1, d.before a0 Z = true) : Jvm.Cond.before (Jvm.Cond.classLink "java/util/ImmutableCollections" (2 : Nat) "java/lang/Object") a0 Z = true := hw _ (List.mem_of_getElem? (i := 139) rfl)
theorem w140 {Z : State} {a0 : Array Value} (hw : ∀ d ∈ tables_1, d.before a0 Z = true) : Jvm.Cond.before (Jvm.Cond.arrayOver (Jvm.ClassFile.FieldType.object "java/lang/Object")) a0 Z = true := hw _ (List.mem_of_getElem? (i := 140) rfl)
theorem w141 {Z : State} {a0 : Array Value} (hw : ∀ d ∈ tables_1, d.before a0 Z = true) : Jvm.Cond.before (Jvm.Cond.methodLink "java/util/ImmutableCollections" (37 : Nat) ({ cls := "java/util/Objects", name := "requireNonNull", desc := "(Ljava/lang/Object;)Ljava/lang/Object;" } : Jvm.MethodName)) a0 Z = true := hw _ (List.mem_of_getElem? (i := 141) rfl)
theorem w142 {Z : State} {a0 : Array Value} (hw : ∀ d ∈ tables_1, d.before a0 Z = true) : Jvm.Cond.before (Jvm.Cond.castable "java/lang/String" "java/lang/Object") a0 Z = true := hw _ (List.mem_of_getElem? (i := 142) rfl)
theorem w143 {Z : State} {a0 : Array Value} (hw : ∀ d ∈ tables_1, d.before a0 Z = true) : Jvm.Cond.before (Jvm.Cond.classLink "java/util/ImmutableCollections" (12 : Nat) "java/util/ImmutableCollections$ListN") a0 Z = true := hw _ (List.mem_of_getElem? (i := 143) rfl)
theorem w144 {Z : State} {a0 : Array Value} (hw : ∀ d ∈ tables_1, d.before a0 Z = true) : Jvm.Cond.before (Jvm.Cond.instantiable "java/util/ImmutableCollections$ListN" (2 : Nat)) a0 Z = true := hw _ (List.mem_of_getElem? (i := 144) rfl)
theorem w145 {Z : State} {a0 : Array Value} (hw : ∀ d ∈ tables_1, d.before a0 Z = true) : Jvm.Cond.before (Jvm.Cond.initialized "java/util/ImmutableCollections$ListN") a0 Z = true := hw _ (List.mem_of_getElem? (i := 145) rfl)
theorem w146 {Z : State} {a0 : Array Value} (hw : ∀ d ∈ tables_1, d.before a0 Z = true) : Jvm.Cond.before (Jvm.Cond.methodLinkNest "java/util/ImmutableCollections" (43 : Nat) ({ cls := "java/util/ImmutableCollections$ListN", name := "<init>", desc := "([Ljava/lang/Object;Z)V" } : Jvm.MethodName) "java/util/ImmutableCollections") a0 Z = true := hw _ (List.mem_of_getElem? (i := 146) rfl)
theorem w147 {Z : State} {a0 : Array Value} (hw : ∀ d ∈ tables_1, d.before a0 Z = true) : Jvm.Cond.before (Jvm.Cond.instanceMethod ({ cls := "java/util/ImmutableCollections$ListN", name := "<init>", desc := "([Ljava/lang/Object;Z)V" } : Jvm.MethodName)) a0 Z = true := hw _ (List.mem_of_getElem? (i := 147) rfl)
theorem w149 {Z : State} {a0 : Array Value} (hw : ∀ d ∈ tables_1, d.before a0 Z = true) : Jvm.Cond.before (Jvm.Cond.code ({ cls := "java/util/ImmutableCollections$ListN", name := "<init>", desc := "([Ljava/lang/Object;Z)V" } : Jvm.MethodName) jdk_45_method_1_code (3 : Nat) (Option.none : Option Jvm.ClassFile.FieldType)) a0 Z = true := hw _ (List.mem_of_getElem? (i := 149) rfl)
theorem w150 {Z : State} {a0 : Array Value} (hw : ∀ d ∈ tables_1, d.before a0 Z = true) : Jvm.Cond.before (Jvm.Cond.methodLink "java/util/ImmutableCollections$ListN" (1 : Nat) ({ cls := "java/util/ImmutableCollections$AbstractImmutableList", name := "<init>", desc := "()V" } : Jvm.MethodName)) a0 Z = true := hw _ (List.mem_of_getElem? (i := 150) rfl)
theorem w154 {Z : State} {a0 : Array Value} (hw : ∀ d ∈ tables_1, d.before a0 Z = true) : Jvm.Cond.before (Jvm.Cond.fieldLink "java/util/ImmutableCollections$ListN" (7 : Nat) "java/util/ImmutableCollections$ListN" "elements" "[Ljava/lang/Object;") a0 Z = true := hw _ (List.mem_of_getElem? (i := 154) rfl)
theorem w155 {Z : State} {a0 : Array Value} (hw : ∀ d ∈ tables_1, d.before a0 Z = true) : Jvm.Cond.before (Jvm.Cond.laysFinal "java/util/ImmutableCollections$ListN" "java/util/ImmutableCollections$ListN" "elements" "[Ljava/lang/Object;") a0 Z = true := hw _ (List.mem_of_getElem? (i := 155) rfl)
theorem w156 {Z : State} {a0 : Array Value} (hw : ∀ d ∈ tables_1, d.before a0 Z = true) : Jvm.Cond.before (Jvm.Cond.fieldLink "java/util/ImmutableCollections$ListN" (13 : Nat) "java/util/ImmutableCollections$ListN" "allowNulls" "Z") a0 Z = true := hw _ (List.mem_of_getElem? (i := 156) rfl)
theorem w157 {Z : State} {a0 : Array Value} (hw : ∀ d ∈ tables_1, d.before a0 Z = true) : Jvm.Cond.before (Jvm.Cond.laysFinal "java/util/ImmutableCollections$ListN" "java/util/ImmutableCollections$ListN" "allowNulls" "Z") a0 Z = true := hw _ (List.mem_of_getElem? (i := 157) rfl)
theorem w158 {Z : State} {a0 : Array Value} (hw : ∀ d ∈ tables_1, d.before a0 Z = true) : Jvm.Cond.before (Jvm.Cond.selects "java/util/ImmutableCollections$ListN" ({ cls := "java/util/List", name := "get", desc := "(I)Ljava/lang/Object;" } : Jvm.MethodName) ({ cls := "java/util/ImmutableCollections$ListN", name := "get", desc := "(I)Ljava/lang/Object;" } : Jvm.MethodName)) a0 Z = true := hw _ (List.mem_of_getElem? (i := 158) rfl)
theorem w159 {Z : State} {a0 : Array Value} (hw : ∀ d ∈ tables_1, d.before a0 Z = true) : Jvm.Cond.before (Jvm.Cond.instanceMethod ({ cls := "java/util/ImmutableCollections$ListN", name := "get", desc := "(I)Ljava/lang/Object;" } : Jvm.MethodName)) a0 Z = true := hw _ (List.mem_of_getElem? (i := 159) rfl)
theorem w160 {Z : State} {a0 : Array Value} (hw : ∀ d ∈ tables_1, d.before a0 Z = true) : Jvm.Cond.before (Jvm.Cond.publicMethod ({ cls := "java/util/ImmutableCollections$ListN", name := "get", desc := "(I)Ljava/lang/Object;" } : Jvm.MethodName)) a0 Z = true := hw _ (List.mem_of_getElem? (i := 160) rfl)
theorem w161 {Z : State} {a0 : Array Value} (hw : ∀ d ∈ tables_1, d.before a0 Z = true) : Jvm.Cond.before (Jvm.Cond.unhidden "java/util/ImmutableCollections$ListN" "get" "(I)Ljava/lang/Object;") a0 Z = true := hw _ (List.mem_of_getElem? (i := 161) rfl)
theorem w162 {Z : State} {a0 : Array Value} (hw : ∀ d ∈ tables_1, d.before a0 Z = true) : Jvm.Cond.before (Jvm.Cond.castable "java/util/ImmutableCollections$ListN" "java/util/List") a0 Z = true := hw _ (List.mem_of_getElem? (i := 162) rfl)
theorem w163 {Z : State} {a0 : Array Value} (hw : ∀ d ∈ tables_1, d.before a0 Z = true) : Jvm.Cond.before (Jvm.Cond.code ({ cls := "java/util/ImmutableCollections$ListN", name := "get", desc := "(I)Ljava/lang/Object;" } : Jvm.MethodName) jdk_45_method_4_code (2 : Nat) (Option.some (Jvm.ClassFile.FieldType.object "java/lang/Object"))) a0 Z = true := hw _ (List.mem_of_getElem? (i := 163) rfl)
def own_EL : List (String × Nat) := [("java/lang/String", 7)]
theorem own_hEL {Z : State} {a0 : Array Value} (hw : ∀ d ∈ tables_1, d.before a0 Z = true) : EW Z a0 own_EL := EW.cons (w18 hw) (by decide) (EW.nil)
theorem own_wS {Z : State} {a0 : Array Value} (hw : ∀ d ∈ tables_1, d.before a0 Z = true) : ∀ d ∈ Bundle.stringAtoms, d.before a0 Z = true := fun d hd => hw d ((by decide +kernel : ∀ d ∈ Bundle.stringAtoms, d ∈ tables_1) d hd)
theorem pn_0 : plainName "java/util/AbstractCollection" = true := by first | (simp [plainName, overriddenIn]; done) | decide +kernel
theorem d10_0 : decode jdk_22_method_1_code 0 = .ok (.aload_n 0, 1) := by decide +kernel
theorem d10_1 : decode jdk_22_method_1_code 1 = .ok (.invokespecial 1, 3) := by decide +kernel
theorem d10_4 : decode jdk_22_method_1_code 4 = .ok (.return_, 1) := by decide +kernel
def Q_own_sup0 (Z : State) (a : Addr) (h0 : Heap) (n0 : Nat) (v : Option Value) (h : Heap) (L : List Loc) : Prop := v = none ∧ Fr n0 L ∧ h = h0
set_option maxRecDepth 65536 in
set_option maxHeartbeats 40000000 in
theorem own_sup0 (l : Launch) (Z : State) (a0 : Array Value) (hw : ∀ d ∈ tables_1, d.before a0 Z = true) (ws : List Jvm.Cond) (a : Addr) (h0 : Heap) (n0 : Nat) (Z0 : n0 ≤ h0.size)  :
    MetFree l (⟨"java/util/AbstractCollection", "<init>", "()V"⟩ : MethodName) (head1 (Jvm.Cond.code (⟨"java/util/AbstractCollection", "<init>", "()V"⟩ : MethodName) jdk_22_method_1_code 1 none :: ws) ({ frames := 1, cells := 0, slots := 0, locals := 12 } : Room)) (fun ag U => ag = #[(.ref a)] ∧ Z.Warmed39 U.vm ∧ U.heap = h0) (fun _ _ _ _ _ => True) (fun _ U o U' => ∃ v L, o = .returned v ∧ Q_own_sup0 Z a h0 n0 v U'.heap L ∧ FrameEnd U o U' L ({ frames := 1, cells := 0, slots := 0, locals := 12 } : Room).cells ({ frames := 1, cells := 0, slots := 0, locals := 12 } : Room).slots) := by
  refine own_body (plainFor_of_name pn_0) ?_
  intro p e s m below meth c s₁ Bd hml hZ e0
  have hx := Bd.exec
  have hby := Bd.bytes
  have hlk : meth.locks = false := BodyLoose.notSynchronized Bd
  have hown : s.vm.findClass "java/util/AbstractCollection" = some m.cls := findClass_of_methodNamed Bd.named
  have hnm := (name_of_methodNamed Bd.named Bd.method).1
  have X0 : Stand p l e ({ frames := 1, cells := 0, slots := 0, locals := 12 } : Room) s m #[(.ref a)] below meth c s₁ [] 0 0 := Stand.of_body Bd
  have N0 := Fr.nil n0
  have KP0 : Keep h0 h0 [] := Keep.refl h0 []
  refine own_cast (g' := (mkF m 0 #[.val (.ref a)] [])) (by first | (simp [entryFrame, mkF, argsToLocals, own_cat_int, own_cat_long, own_cat_ref, own_cat_null]; done) | rfl) ?_
  refine own_step (T' := s₁) (g' := (mkF m 1 #[.val (.ref a)] [(.ref a)])) (fun _ q => XS.aloadN X0.here hx rfl (hb hby d10_0) rfl rfl q) ?_
  obtain ⟨T1, X1, e1, st1⟩ := initO X0 hx hZ hown (w65 hw) (w16 hw) (w17 hw) e0 (g := (mkF m 1 #[.val (.ref a)] [(.ref a)])) rfl (by rw [hml]; rfl) rfl (hb hby d10_1) (Nat.le_of_ble_eq_true rfl) (W := 0) (by show 2 * 0 + _ ≤ _; exact Nat.le_of_eq rfl) (Nat.le_of_ble_eq_true rfl)
  refine own_step (T' := T1) (g' := (mkF m 4 #[.val (.ref a)] [])) st1 ?_
  exact own_retV X1 hx Bd.returns (hb hby d10_4) hlk ⟨rfl, N0, e1⟩ (by first | decide | (dsimp only; omega)) (by first | decide | (dsimp only; omega))
theorem pn_1 : plainName "java/util/ImmutableCollections$AbstractImmutableCollection" = true := by first | (simp [plainName, overriddenIn]; done) | decide +kernel
theorem pd_0 : parseMethodDescriptor "()V" = some ⟨[], none⟩ := by decide +kernel
theorem d9_0 : decode jdk_47_method_1_code 0 = .ok (.aload_n 0, 1) := by decide +kernel
theorem d9_1 : decode jdk_47_method_1_code 1 = .ok (.invokespecial 1, 3) := by decide +kernel
theorem d9_4 : decode jdk_47_method_1_code 4 = .ok (.return_, 1) := by decide +kernel
def Q_own_sup1 (Z : State) (a : Addr) (h0 : Heap) (n0 : Nat) (v : Option Value) (h : Heap) (L : List Loc) : Prop := v = none ∧ Fr n0 L ∧ h = h0
set_option maxRecDepth 65536 in
set_option maxHeartbeats 40000000 in
theorem own_sup1 (l : Launch) (Z : State) (a0 : Array Value) (hw : ∀ d ∈ tables_1, d.before a0 Z = true) (ws : List Jvm.Cond) (a : Addr) (h0 : Heap) (n0 : Nat) (Z0 : n0 ≤ h0.size)  :
    MetFree l (⟨"java/util/ImmutableCollections$AbstractImmutableCollection", "<init>", "()V"⟩ : MethodName) (head1 (Jvm.Cond.code (⟨"java/util/ImmutableCollections$AbstractImmutableCollection", "<init>", "()V"⟩ : MethodName) jdk_47_method_1_code 1 none :: ws) ({ frames := 2, cells := 0, slots := 0, locals := 24 } : Room)) (fun ag U => ag = #[(.ref a)] ∧ Z.Warmed39 U.vm ∧ U.heap = h0) (fun _ _ _ _ _ => True) (fun _ U o U' => ∃ v L, o = .returned v ∧ Q_own_sup1 Z a h0 n0 v U'.heap L ∧ FrameEnd U o U' L ({ frames := 2, cells := 0, slots := 0, locals := 24 } : Room).cells ({ frames := 2, cells := 0, slots := 0, locals := 24 } : Room).slots) := by
  refine own_body (plainFor_of_name pn_1) ?_
  intro p e s m below meth c s₁ Bd hml hZ e0
  have hx := Bd.exec
  have hby := Bd.bytes
  have hlk : meth.locks = false := BodyLoose.notSynchronized Bd
  have hown : s.vm.findClass "java/util/ImmutableCollections$AbstractImmutableCollection" = some m.cls := findClass_of_methodNamed Bd.named
  have hnm := (name_of_methodNamed Bd.named Bd.method).1
  have X0 : Stand p l e ({ frames := 2, cells := 0, slots := 0, locals := 24 } : Room) s m #[(.ref a)] below meth c s₁ [] 0 0 := Stand.of_body Bd
  have N0 := Fr.nil n0
  have KP0 : Keep h0 h0 [] := Keep.refl h0 []
  refine own_cast (g' := (mkF m 0 #[.val (.ref a)] [])) (by first | (simp [entryFrame, mkF, argsToLocals, own_cat_int, own_cat_long, own_cat_ref, own_cat_null]; done) | rfl) ?_
  refine own_step (T' := s₁) (g' := (mkF m 1 #[.val (.ref a)] [(.ref a)])) (fun _ q => XS.aloadN X0.here hx rfl (hb hby d9_0) rfl rfl q) ?_
  refine own_callC X0 hx hZ hown rfl (w59 hw) (w60 hw) (w64 hw) (by decide) (backOf (W := 0) (own_sup0 l Z a0 hw [] a h0 n0 Z0 ) hZ (w64 hw) (w63 hw) (Nat.le_of_ble_eq_true rfl) (Nat.le_of_ble_eq_true rfl)) e0  (by first | decide | (dsimp only; omega)) (by first | decide | (dsimp only; omega)) (g := (mkF m 1 #[.val (.ref a)] [(.ref a)])) (argsL := []) (rest := []) rfl (by rw [hml]; rfl) (lenOf pd_0 rfl) rfl rfl (by show 2 * 0 + _ ≤ _; exact Nat.le_of_eq rfl) (hb hby d9_1) ?_
  rintro _ T2 L2 X2 ⟨rfl, N2q, e2⟩
  have N3 := Fr.app N0 N2q
  show own_Fin p e below _ T2 (mkF m 4 #[.val (.ref a)] [])
  exact own_retV X2 hx Bd.returns (hb hby d9_4) hlk ⟨rfl, N3, e2⟩ (by first | decide | (dsimp only; omega)) (by first | decide | (dsimp only; omega))
theorem pn_2 : plainName "java/util/ImmutableCollections$AbstractImmutableList" = true := by first | (simp [plainName, overriddenIn]; done) | decide +kernel
theorem d8_0 : decode jdk_46_method_1_code 0 = .ok (.aload_n 0, 1) := by decide +kernel
theorem d8_1 : decode jdk_46_method_1_code 1 = .ok (.invokespecial 1, 3) := by decide +kernel
theorem d8_4 : decode jdk_46_method_1_code 4 = .ok (.return_, 1) := by decide +kernel
def Q_own_sup2 (Z : State) (a : Addr) (h0 : Heap) (n0 : Nat) (v : Option Value) (h : Heap) (L : List Loc) : Prop := v = none ∧ Fr n0 L ∧ h = h0
set_option maxRecDepth 65536 in
set_option maxHeartbeats 40000000 in
theorem own_sup2 (l : Launch) (Z : State) (a0 : Array Value) (hw : ∀ d ∈ tables_1, d.before a0 Z = true) (ws : List Jvm.Cond) (a : Addr) (h0 : Heap) (n0 : Nat) (Z0 : n0 ≤ h0.size)  :
    MetFree l (⟨"java/util/ImmutableCollections$AbstractImmutableList", "<init>", "()V"⟩ : MethodName) (head1 (Jvm.Cond.code (⟨"java/util/ImmutableCollections$AbstractImmutableList", "<init>", "()V"⟩ : MethodName) jdk_46_method_1_code 1 none :: ws) ({ frames := 3, cells := 0, slots := 0, locals := 36 } : Room)) (fun ag U => ag = #[(.ref a)] ∧ Z.Warmed39 U.vm ∧ U.heap = h0) (fun _ _ _ _ _ => True) (fun _ U o U' => ∃ v L, o = .returned v ∧ Q_own_sup2 Z a h0 n0 v U'.heap L ∧ FrameEnd U o U' L ({ frames := 3, cells := 0, slots := 0, locals := 36 } : Room).cells ({ frames := 3, cells := 0, slots := 0, locals := 36 } : Room).slots) := by
  refine own_body (plainFor_of_name pn_2) ?_
  intro p e s m below meth c s₁ Bd hml hZ e0
  have hx := Bd.exec
  have hby := Bd.bytes
  have hlk : meth.locks = false := BodyLoose.notSynchronized Bd
  have hown : s.vm.findClass "java/util/ImmutableCollections$AbstractImmutableList" = some m.cls := findClass_of_methodNamed Bd.named
  have hnm := (name_of_methodNamed Bd.named Bd.method).1
  have X0 : Stand p l e ({ frames := 3, cells := 0, slots := 0, locals := 36 } : Room) s m #[(.ref a)] below meth c s₁ [] 0 0 := Stand.of_body Bd
  have N0 := Fr.nil n0
  have KP0 : Keep h0 h0 [] := Keep.refl h0 []
  refine own_cast (g' := (mkF m 0 #[.val (.ref a)] [])) (by first | (simp [entryFrame, mkF, argsToLocals, own_cat_int, own_cat_long, own_cat_ref, own_cat_null]; done) | rfl) ?_
  refine own_step (T' := s₁) (g' := (mkF m 1 #[.val (.ref a)] [(.ref a)])) (fun _ q => XS.aloadN X0.here hx rfl (hb hby d8_0) rfl rfl q) ?_
  refine own_callC X0 hx hZ hown rfl (w53 hw) (w54 hw) (w58 hw) (by decide) (backOf (W := 0) (own_sup1 l Z a0 hw [] a h0 n0 Z0 ) hZ (w58 hw) (w57 hw) (Nat.le_of_ble_eq_true rfl) (Nat.le_of_ble_eq_true rfl)) e0  (by first | decide | (dsimp only; omega)) (by first | decide | (dsimp only; omega)) (g := (mkF m 1 #[.val (.ref a)] [(.ref a)])) (argsL := []) (rest := []) rfl (by rw [hml]; rfl) (lenOf pd_0 rfl) rfl rfl (by show 2 * 0 + _ ≤ _; exact Nat.le_of_eq rfl) (hb hby d8_1) ?_
  rintro _ T4 L4 X4 ⟨rfl, N4q, e4⟩
  have N5 := Fr.app N0 N4q
  show own_Fin p e below _ T4 (mkF m 4 #[.val (.ref a)] [])
  exact own_retV X4 hx Bd.returns (hb hby d8_4) hlk ⟨rfl, N5, e4⟩ (by first | decide | (dsimp only; omega)) (by first | decide | (dsimp only; omega))
theorem pn_3 : plainName "java/util/Objects" = true := by first | (simp [plainName, overriddenIn]; done) | decide +kernel
theorem d11_0 : decode jdk_31_method_10_code 0 = .ok (.aload_n 0, 1) := by decide +kernel
theorem d11_1 : decode jdk_31_method_10_code 1 = .ok (.ifnonnull 11, 3) := by decide +kernel
theorem d11_12 : decode jdk_31_method_10_code 12 = .ok (.aload_n 0, 1) := by decide +kernel
theorem d11_13 : decode jdk_31_method_10_code 13 = .ok (.areturn, 1) := by decide +kernel
def Q_own_rnn (Z : State) (a : Addr) (h0 : Heap) (n0 : Nat) (v : Option Value) (h : Heap) (L : List Loc) : Prop := v = some (.ref a) ∧ Fr n0 L ∧ h = h0
set_option maxRecDepth 65536 in
set_option maxHeartbeats 40000000 in
theorem own_rnn (l : Launch) (Z : State) (a0 : Array Value) (hw : ∀ d ∈ tables_1, d.before a0 Z = true) (ws : List Jvm.Cond) (a : Addr) (h0 : Heap) (n0 : Nat) (Z0 : n0 ≤ h0.size)  :
    MetFree l (⟨"java/util/Objects", "requireNonNull", "(Ljava/lang/Object;)Ljava/lang/Object;"⟩ : MethodName) (head1 (Jvm.Cond.code (⟨"java/util/Objects", "requireNonNull", "(Ljava/lang/Object;)Ljava/lang/Object;"⟩ : MethodName) jdk_31_method_10_code 1 (some (.object "java/lang/Object")) :: ws) ({ frames := 0, cells := 0, slots := 0, locals := 0 } : Room)) (fun ag U => ag = #[(.ref a)] ∧ Z.Warmed39 U.vm ∧ U.heap = h0) (fun _ _ _ _ _ => True) (fun _ U o U' => ∃ v L, o = .returned v ∧ Q_own_rnn Z a h0 n0 v U'.heap L ∧ FrameEnd U o U' L ({ frames := 0, cells := 0, slots := 0, locals := 0 } : Room).cells ({ frames := 0, cells := 0, slots := 0, locals := 0 } : Room).slots) := by
  refine own_body (plainFor_of_name pn_3) ?_
  intro p e s m below meth c s₁ Bd hml hZ e0
  have hx := Bd.exec
  have hby := Bd.bytes
  have hlk : meth.locks = false := BodyLoose.notSynchronized Bd
  have hown : s.vm.findClass "java/util/Objects" = some m.cls := findClass_of_methodNamed Bd.named
  have hnm := (name_of_methodNamed Bd.named Bd.method).1
  have X0 : Stand p l e ({ frames := 0, cells := 0, slots := 0, locals := 0 } : Room) s m #[(.ref a)] below meth c s₁ [] 0 0 := Stand.of_body Bd
  have N0 := Fr.nil n0
  have KP0 : Keep h0 h0 [] := Keep.refl h0 []
  refine own_cast (g' := (mkF m 0 #[.val (.ref a)] [])) (by first | (simp [entryFrame, mkF, argsToLocals, own_cat_int, own_cat_long, own_cat_ref, own_cat_null]; done) | rfl) ?_
  refine own_step (T' := s₁) (g' := (mkF m 1 #[.val (.ref a)] [(.ref a)])) (fun _ q => XS.aloadN X0.here hx rfl (hb hby d11_0) rfl rfl q) ?_
  refine own_step (T' := s₁) (g' := (mkF m 12 #[.val (.ref a)] [])) (fun _ q => XT.ifnonnullYes X0.here hx rfl (pc0 := 1) (pc' := 12) rfl (hb hby d11_1) rfl (by decide) (by decide) q) ?_
  refine own_step (T' := s₁) (g' := (mkF m 13 #[.val (.ref a)] [(.ref a)])) (fun _ q => XS.aloadN X0.here hx rfl (hb hby d11_12) rfl rfl q) ?_
  exact own_retA X0 hx Bd.returns rfl rfl (hb hby d11_13) hlk ⟨rfl, N0, e0⟩ (by first | decide | (dsimp only; omega)) (by first | decide | (dsimp only; omega))
theorem pn_4 : plainName "java/lang/String" = true := by first | (simp [plainName, overriddenIn]; done) | decide +kernel
theorem d14_0 : decode jdk_42_method_66_code 0 = .ok (.aload_n 0, 1) := by decide +kernel
theorem d14_1 : decode jdk_42_method_66_code 1 = .ok (.aload_n 1, 1) := by decide +kernel
theorem d14_2 : decode jdk_42_method_66_code 2 = .ok (.if_acmp .ne 5, 3) := by decide +kernel
theorem d14_5 : decode jdk_42_method_66_code 5 = .ok (.iconst 1, 1) := by decide +kernel
theorem d14_6 : decode jdk_42_method_66_code 6 = .ok (.ireturn, 1) := by decide +kernel
def Q_own_eqs (Z : State) (a : Addr) (h0 : Heap) (n0 : Nat) (v : Option Value) (h : Heap) (L : List Loc) : Prop := v = some (.int (1 : Int32)) ∧ Fr n0 L ∧ h = h0
set_option maxRecDepth 65536 in
set_option maxHeartbeats 40000000 in
theorem own_eqs (l : Launch) (Z : State) (a0 : Array Value) (hw : ∀ d ∈ tables_1, d.before a0 Z = true) (ws : List Jvm.Cond) (a : Addr) (h0 : Heap) (n0 : Nat) (Z0 : n0 ≤ h0.size)  :
    MetFree l (⟨"java/lang/String", "equals", "(Ljava/lang/Object;)Z"⟩ : MethodName) (head1 (Jvm.Cond.code (⟨"java/lang/String", "equals", "(Ljava/lang/Object;)Z"⟩ : MethodName) jdk_42_method_66_code 3 (some .boolean) :: ws) ({ frames := 0, cells := 0, slots := 0, locals := 0 } : Room)) (fun ag U => ag = #[(.ref a), (.ref a)] ∧ Z.Warmed39 U.vm ∧ U.heap = h0) (fun _ _ _ _ _ => True) (fun _ U o U' => ∃ v L, o = .returned v ∧ Q_own_eqs Z a h0 n0 v U'.heap L ∧ FrameEnd U o U' L ({ frames := 0, cells := 0, slots := 0, locals := 0 } : Room).cells ({ frames := 0, cells := 0, slots := 0, locals := 0 } : Room).slots) := by
  refine own_body (plainFor_of_name pn_4) ?_
  intro p e s m below meth c s₁ Bd hml hZ e0
  have hx := Bd.exec
  have hby := Bd.bytes
  have hlk : meth.locks = false := BodyLoose.notSynchronized Bd
  have hown : s.vm.findClass "java/lang/String" = some m.cls := findClass_of_methodNamed Bd.named
  have hnm := (name_of_methodNamed Bd.named Bd.method).1
  have X0 : Stand p l e ({ frames := 0, cells := 0, slots := 0, locals := 0 } : Room) s m #[(.ref a), (.ref a)] below meth c s₁ [] 0 0 := Stand.of_body Bd
  have N0 := Fr.nil n0
  have KP0 : Keep h0 h0 [] := Keep.refl h0 []
  refine own_cast (g' := (mkF m 0 #[.val (.ref a), .val (.ref a), .unset] [])) (by first | (simp [entryFrame, mkF, argsToLocals, own_cat_int, own_cat_long, own_cat_ref, own_cat_null]; done) | rfl) ?_
  refine own_step (T' := s₁) (g' := (mkF m 1 #[.val (.ref a), .val (.ref a), .unset] [(.ref a)])) (fun _ q => XS.aloadN X0.here hx rfl (hb hby d14_0) rfl rfl q) ?_
  refine own_step (T' := s₁) (g' := (mkF m 2 #[.val (.ref a), .val (.ref a), .unset] [(.ref a), (.ref a)])) (fun _ q => XS.aloadN X0.here hx rfl (hb hby d14_1) rfl rfl q) ?_
  refine own_step (T' := s₁) (g' := (mkF m 5 #[.val (.ref a), .val (.ref a), .unset] [])) (fun _ q => Jvm.RoadKit.acmp (g := (mkF m 2 #[.val (.ref a), .val (.ref a), .unset] [(.ref a), (.ref a)])) X0 hx rfl rfl rfl (pc0 := 2) (pc' := 5) (same := true) rfl (hb hby d14_2) rfl (decide_eq_true rfl) (by decide) (by decide) q) ?_
  refine own_step (T' := s₁) (g' := (mkF m 6 #[.val (.ref a), .val (.ref a), .unset] [(.int (1 : Int32))])) (fun _ q => XS.iconst X0.here hx rfl (hb hby d14_5) q) ?_
  exact own_retN X0 hx Bd.returns (by simp) (hb hby d14_6) hlk ⟨rfl, N0, e0⟩ (by first | decide | (dsimp only; omega)) (by first | decide | (dsimp only; omega))
theorem pn_5 : plainName "java/lang/StringLatin1" = true := by first | (simp [plainName, overriddenIn]; done) | decide +kernel
theorem d18_0 : decode jdk_43_method_3_code 0 = .ok (.iload_n 0, 1) := by decide +kernel
theorem d18_1 : decode jdk_43_method_3_code 1 = .ok (.sipush 255, 3) := by decide +kernel
theorem d18_4 : decode jdk_43_method_3_code 4 = .ok (.if_icmp .gt 7, 3) := by decide +kernel
theorem d18_7 : decode jdk_43_method_3_code 7 = .ok (.iconst 1, 1) := by decide +kernel
theorem d18_8 : decode jdk_43_method_3_code 8 = .ok (.goto 4, 3) := by decide +kernel
theorem d18_12 : decode jdk_43_method_3_code 12 = .ok (.ireturn, 1) := by decide +kernel
def Q_own_can (Z : State) (z : Int32) (h0 : Heap) (n0 : Nat) (v : Option Value) (h : Heap) (L : List Loc) : Prop := v = some (.int (1 : Int32)) ∧ Fr n0 L ∧ h = h0
set_option maxRecDepth 65536 in
set_option maxHeartbeats 40000000 in
theorem own_can (l : Launch) (Z : State) (a0 : Array Value) (hw : ∀ d ∈ tables_1, d.before a0 Z = true) (ws : List Jvm.Cond) (z : Int32) (h0 : Heap) (n0 : Nat) (Z0 : n0 ≤ h0.size) (hz : ¬ (255 : Int32) < z) :
    MetFree l (⟨"java/lang/StringLatin1", "canEncode", "(C)Z"⟩ : MethodName) (head1 (Jvm.Cond.code (⟨"java/lang/StringLatin1", "canEncode", "(C)Z"⟩ : MethodName) jdk_43_method_3_code 1 (some .boolean) :: ws) ({ frames := 0, cells := 0, slots := 0, locals := 0 } : Room)) (fun ag U => ag = #[(.int z)] ∧ Z.Warmed39 U.vm ∧ U.heap = h0) (fun _ _ _ _ _ => True) (fun _ U o U' => ∃ v L, o = .returned v ∧ Q_own_can Z z h0 n0 v U'.heap L ∧ FrameEnd U o U' L ({ frames := 0, cells := 0, slots := 0, locals := 0 } : Room).cells ({ frames := 0, cells := 0, slots := 0, locals := 0 } : Room).slots) := by
  refine own_body (plainFor_of_name pn_5) ?_
  intro p e s m below meth c s₁ Bd hml hZ e0
  have hx := Bd.exec
  have hby := Bd.bytes
  have hlk : meth.locks = false := BodyLoose.notSynchronized Bd
  have hown : s.vm.findClass "java/lang/StringLatin1" = some m.cls := findClass_of_methodNamed Bd.named
  have hnm := (name_of_methodNamed Bd.named Bd.method).1
  have X0 : Stand p l e ({ frames := 0, cells := 0, slots := 0, locals := 0 } : Room) s m #[(.int z)] below meth c s₁ [] 0 0 := Stand.of_body Bd
  have N0 := Fr.nil n0
  have KP0 : Keep h0 h0 [] := Keep.refl h0 []
  refine own_cast (g' := (mkF m 0 #[.val (.int z)] [])) (by first | (simp [entryFrame, mkF, argsToLocals, own_cat_int, own_cat_long, own_cat_ref, own_cat_null]; done) | rfl) ?_
  refine own_step (T' := s₁) (g' := (mkF m 1 #[.val (.int z)] [(.int z)])) (fun _ q => XS.iloadN X0.here hx rfl (hb hby d18_0) rfl q) ?_
  refine own_step (T' := s₁) (g' := (mkF m 4 #[.val (.int z)] [(.int (255 : Int32)), (.int z)])) (fun _ q => XS.sipush X0.here hx rfl (hb hby d18_1) q) ?_
  have hc6 : ¬ ((255 : Int32) < z) := hz
  refine own_step (T' := s₁) (g' := (mkF m 7 #[.val (.int z)] [])) (fun _ q => XS.icmpNo X0.here hx rfl (hb hby d18_4) rfl (XT.ii_gt_f hc6) q) ?_
  refine own_step (T' := s₁) (g' := (mkF m 8 #[.val (.int z)] [(.int (1 : Int32))])) (fun _ q => XS.iconst X0.here hx rfl (hb hby d18_7) q) ?_
  refine own_step (T' := s₁) (g' := (mkF m 12 #[.val (.int z)] [(.int (1 : Int32))])) (fun _ q => XS.goto X0.here hx rfl (pc0 := 8) (pc' := 12) rfl (hb hby d18_8) (by decide) (by decide) q) ?_
  exact own_retN X0 hx Bd.returns (by simp) (hb hby d18_12) hlk ⟨rfl, N0, e0⟩ (by first | decide | (dsimp only; omega)) (by first | decide | (dsimp only; omega))
theorem d19_0 : decode jdk_43_method_46_code 0 = .ok (.iconst 1, 1) := by decide +kernel
theorem d19_1 : decode jdk_43_method_46_code 1 = .ok (.newarray .byte, 2) := by decide +kernel
theorem d19_3 : decode jdk_43_method_46_code 3 = .ok (.dup, 1) := by decide +kernel
theorem d19_4 : decode jdk_43_method_46_code 4 = .ok (.iconst 0, 1) := by decide +kernel
theorem d19_5 : decode jdk_43_method_46_code 5 = .ok (.iload_n 0, 1) := by decide +kernel
theorem d19_6 : decode jdk_43_method_46_code 6 = .ok (.i2b, 1) := by decide +kernel
theorem d19_7 : decode jdk_43_method_46_code 7 = .ok (.bastore, 1) := by decide +kernel
theorem d19_8 : decode jdk_43_method_46_code 8 = .ok (.areturn, 1) := by decide +kernel
def Q_own_tob1 (Z : State) (z : Int32) (h0 : Heap) (n0 : Nat) (v : Option Value) (h : Heap) (L : List Loc) : Prop := ∃ (t : Addr), ∃ (kb : ClassId), v = some (.ref t) ∧ Fr n0 L ∧ Keep h0 h [] ∧ h0.size ≤ t ∧ Arv Z h t kb .byte (1 : Int32) [(.int (StrChars.lo8 z))] (.int 0)
set_option maxRecDepth 65536 in
set_option maxHeartbeats 40000000 in
theorem own_tob1 (l : Launch) (Z : State) (a0 : Array Value) (hw : ∀ d ∈ tables_1, d.before a0 Z = true) (ws : List Jvm.Cond) (z : Int32) (h0 : Heap) (n0 : Nat) (Z0 : n0 ≤ h0.size)  :
    MetFree l (⟨"java/lang/StringLatin1", "toBytes", "(C)[B"⟩ : MethodName) (head1 (Jvm.Cond.code (⟨"java/lang/StringLatin1", "toBytes", "(C)[B"⟩ : MethodName) jdk_43_method_46_code 1 (some (.array .byte)) :: ws) ({ frames := 0, cells := 1, slots := 1, locals := 0 } : Room)) (fun ag U => ag = #[(.int z)] ∧ Z.Warmed39 U.vm ∧ U.heap = h0) (fun _ _ _ _ _ => True) (fun _ U o U' => ∃ v L, o = .returned v ∧ Q_own_tob1 Z z h0 n0 v U'.heap L ∧ FrameEnd U o U' L ({ frames := 0, cells := 1, slots := 1, locals := 0 } : Room).cells ({ frames := 0, cells := 1, slots := 1, locals := 0 } : Room).slots) := by
  refine own_body (plainFor_of_name pn_5) ?_
  intro p e s m below meth c s₁ Bd hml hZ e0
  have hx := Bd.exec
  have hby := Bd.bytes
  have hlk : meth.locks = false := BodyLoose.notSynchronized Bd
  have hown : s.vm.findClass "java/lang/StringLatin1" = some m.cls := findClass_of_methodNamed Bd.named
  have hnm := (name_of_methodNamed Bd.named Bd.method).1
  have X0 : Stand p l e ({ frames := 0, cells := 1, slots := 1, locals := 0 } : Room) s m #[(.int z)] below meth c s₁ [] 0 0 := Stand.of_body Bd
  have N0 := Fr.nil n0
  have KP0 : Keep h0 h0 [] := Keep.refl h0 []
  refine own_cast (g' := (mkF m 0 #[.val (.int z)] [])) (by first | (simp [entryFrame, mkF, argsToLocals, own_cat_int, own_cat_long, own_cat_ref, own_cat_null]; done) | rfl) ?_
  refine own_step (T' := s₁) (g' := (mkF m 1 #[.val (.int z)] [(.int (1 : Int32))])) (fun _ q => XS.iconst X0.here hx rfl (hb hby d19_0) q) ?_
  obtain ⟨T7, h7, k7, X7, e7, E7, A7, st7⟩ := newP X0 hx hZ (aty := .byte) (w19 hw) e0 (g := (mkF m 1 #[.val (.int z)] [(.int (1 : Int32))])) rfl (hb hby d19_1) rfl (by decide) (cap := 1) (by decide) (by first | decide | omega) (by first | decide | (dsimp only; omega)) (by first | decide | (dsimp only; omega))
  obtain ⟨b7, g7⟩ : ∃ z, z = h0.size := ⟨_, rfl⟩
  rw [← g7] at A7 st7
  have n0_8 : n0 ≤ b7 := Nat.le_trans Z0 (Nat.le_of_eq g7.symm)
  have sz0_9 := Nat.le_trans KP0.1 (Nat.le_of_eq g7.symm)
  have V7 : Arv Z h7 b7 k7 .byte (1 : Int32) [(.int (0 : Int32))] (.int (0 : Int32)) := (Arv.new A7 (by decide)).pad (pad_rep [] (.int (0 : Int32)) 1)
  have ltb7 := V7.lt
  refine own_step (T' := T7) (g' := (mkF m 3 #[.val (.int z)] [(.ref b7)])) st7 ?_
  refine own_step (T' := T7) (g' := (mkF m 4 #[.val (.int z)] [(.ref b7), (.ref b7)])) (fun _ q => XS.dup X7.here hx rfl (hb hby d19_3) rfl rfl q) ?_
  refine own_step (T' := T7) (g' := (mkF m 5 #[.val (.int z)] [(.int (0 : Int32)), (.ref b7), (.ref b7)])) (fun _ q => XS.iconst X7.here hx rfl (hb hby d19_4) q) ?_
  refine own_step (T' := T7) (g' := (mkF m 6 #[.val (.int z)] [(.int z), (.int (0 : Int32)), (.ref b7), (.ref b7)])) (fun _ q => XS.iloadN X7.here hx rfl (hb hby d19_5) rfl q) ?_
  refine own_step (T' := T7) (g' := (mkF m 7 #[.val (.int z)] [(.int (z.toInt8.toInt32)), (.int (0 : Int32)), (.ref b7), (.ref b7)])) (fun _ q => XT.i2b X7.here hx rfl (hb hby d19_6) rfl q) ?_
  rw [show (z.toInt8.toInt32) = (StrChars.lo8 z) from rfl]
  obtain ⟨T10, h10, X10, e10, W10, V10, st10⟩ := own_stB X7 hx hZ e7 V7 (j := (0 : Int32)) ⟨by decide, by decide⟩ (i := 0) rfl (Nat.le_of_ble_eq_true rfl) (g := (mkF m 7 #[.val (.int z)] [(.int (StrChars.lo8 z)), (.int (0 : Int32)), (.ref b7), (.ref b7)])) rfl rfl (hb hby d19_7)
  rw [show ((StrChars.lo8 z).toInt8.toInt32) = (StrChars.lo8 z) from (own_lo8lo8 _)] at V10
  replace V10 : Arv Z h10 b7 k7 .byte (1 : Int32) [(.int (StrChars.lo8 z))] (.int (0 : Int32)) := V10
  have N11 := Fr.snoc X10 N0 n0_8
  refine own_step (T' := T10) (g' := (mkF m 8 #[.val (.int z)] [(.ref b7)])) st10 ?_
  have c12 := ((KP0.ext E7).wr W10 (Or.inr sz0_9))
  exact own_retA X10 hx Bd.returns rfl rfl (hb hby d19_8) hlk (by rw [e10]; exact ⟨b7, k7, rfl, N11, c12, sz0_9, V10⟩) (by first | decide | (dsimp only; omega)) (by first | decide | (dsimp only; omega))
theorem d20_0 : decode jdk_42_method_151_code 0 = .ok (.aload_n 0, 1) := by decide +kernel
theorem d20_1 : decode jdk_42_method_151_code 1 = .ok (.invokespecial 1, 3) := by decide +kernel
theorem d20_4 : decode jdk_42_method_151_code 4 = .ok (.aload_n 0, 1) := by decide +kernel
theorem d20_5 : decode jdk_42_method_151_code 5 = .ok (.aload_n 1, 1) := by decide +kernel
theorem d20_6 : decode jdk_42_method_151_code 6 = .ok (.putfield 9, 3) := by decide +kernel
theorem d20_9 : decode jdk_42_method_151_code 9 = .ok (.aload_n 0, 1) := by decide +kernel
theorem d20_10 : decode jdk_42_method_151_code 10 = .ok (.iload_n 2, 1) := by decide +kernel
theorem d20_11 : decode jdk_42_method_151_code 11 = .ok (.putfield 15, 3) := by decide +kernel
theorem d20_14 : decode jdk_42_method_151_code 14 = .ok (.return_, 1) := by decide +kernel
def Q_own_newbb (Z : State) (a : Addr) (t : Addr) (h0 : Heap) (n0 : Nat) (v : Option Value) (h : Heap) (L : List Loc) : Prop := v = none ∧ Fr n0 L ∧ Keep h0 h [a] ∧ Exa Z h a "java/lang/String" ∧ Fld Z h a "java/lang/String" "value" "[B" (.ref t) ∧ Fld Z h a "java/lang/String" "coder" "B" (.int (0 : Int32))
set_option maxRecDepth 65536 in
set_option maxHeartbeats 40000000 in
theorem own_newbb (l : Launch) (Z : State) (a0 : Array Value) (hw : ∀ d ∈ tables_1, d.before a0 Z = true) (ws : List Jvm.Cond) (a : Addr) (t : Addr) (h0 : Heap) (n0 : Nat) (Z0 : n0 ≤ h0.size) (E_a : Exa Z h0 a "java/lang/String") (ge_a : n0 ≤ a) (F_value_a : Fld Z h0 a "java/lang/String" "value" "[B" .null) (F_coder_a : Fld Z h0 a "java/lang/String" "coder" "B" (.int (0 : Int32))) :
    MetFree l (⟨"java/lang/String", "<init>", "([BB)V"⟩ : MethodName) (head1 (Jvm.Cond.code (⟨"java/lang/String", "<init>", "([BB)V"⟩ : MethodName) jdk_42_method_151_code 3 none :: ws) ({ frames := 1, cells := 0, slots := 0, locals := 12 } : Room)) (fun ag U => ag = #[(.ref a), (.ref t), (.int (0 : Int32))] ∧ Z.Warmed39 U.vm ∧ U.heap = h0) (fun _ _ _ _ _ => True) (fun _ U o U' => ∃ v L, o = .returned v ∧ Q_own_newbb Z a t h0 n0 v U'.heap L ∧ FrameEnd U o U' L ({ frames := 1, cells := 0, slots := 0, locals := 12 } : Room).cells ({ frames := 1, cells := 0, slots := 0, locals := 12 } : Room).slots) := by
  refine own_body (plainFor_of_name pn_4) ?_
  intro p e s m below meth c s₁ Bd hml hZ e0
  have hx := Bd.exec
  have hby := Bd.bytes
  have hlk : meth.locks = false := BodyLoose.notSynchronized Bd
  have hown : s.vm.findClass "java/lang/String" = some m.cls := findClass_of_methodNamed Bd.named
  have hnm := (name_of_methodNamed Bd.named Bd.method).1
  have X0 : Stand p l e ({ frames := 1, cells := 0, slots := 0, locals := 12 } : Room) s m #[(.ref a), (.ref t), (.int (0 : Int32))] below meth c s₁ [] 0 0 := Stand.of_body Bd
  have N0 := Fr.nil n0
  have KP0 : Keep h0 h0 [a] := Keep.refl h0 [a]
  have lt_a := E_a.lt
  refine own_cast (g' := (mkF m 0 #[.val (.ref a), .val (.ref t), .val (.int (0 : Int32))] [])) (by first | (simp [entryFrame, mkF, argsToLocals, own_cat_int, own_cat_long, own_cat_ref, own_cat_null]; done) | rfl) ?_
  refine own_step (T' := s₁) (g' := (mkF m 1 #[.val (.ref a), .val (.ref t), .val (.int (0 : Int32))] [(.ref a)])) (fun _ q => XS.aloadN X0.here hx rfl (hb hby d20_0) rfl rfl q) ?_
  obtain ⟨T13, X13, e13, st13⟩ := initO X0 hx hZ hown (w15 hw) (w16 hw) (w17 hw) e0 (g := (mkF m 1 #[.val (.ref a), .val (.ref t), .val (.int (0 : Int32))] [(.ref a)])) rfl (by rw [hml]; rfl) rfl (hb hby d20_1) (Nat.le_of_ble_eq_true rfl) (W := 0) (by show 2 * 0 + _ ≤ _; exact Nat.le_of_eq rfl) (Nat.le_of_ble_eq_true rfl)
  refine own_step (T' := T13) (g' := (mkF m 4 #[.val (.ref a), .val (.ref t), .val (.int (0 : Int32))] [])) st13 ?_
  refine own_step (T' := T13) (g' := (mkF m 5 #[.val (.ref a), .val (.ref t), .val (.int (0 : Int32))] [(.ref a)])) (fun _ q => XS.aloadN X13.here hx rfl (hb hby d20_4) rfl rfl q) ?_
  refine own_step (T' := T13) (g' := (mkF m 6 #[.val (.ref a), .val (.ref t), .val (.int (0 : Int32))] [(.ref t), (.ref a)])) (fun _ q => XS.aloadN X13.here hx rfl (hb hby d20_5) rfl rfl q) ?_
  obtain ⟨T14, h14, X14, e14, W14, st14⟩ := putF X13 hx hZ hown (host := "") (Or.inl (w24 hw)) Via.refl e13 F_value_a E_a (Or.inr ⟨(w20 hw), rfl, hnm⟩) (w5 hw) (ty := (.array .byte)) (by decide) rfl rfl (g := (mkF m 6 #[.val (.ref a), .val (.ref t), .val (.int (0 : Int32))] [(.ref t), (.ref a)])) rfl rfl (hb hby d20_6)
  have F15 := F_value_a.same W14
  have N16 := Fr.snoc X14 N0 ge_a
  refine own_step (T' := T14) (g' := (mkF m 9 #[.val (.ref a), .val (.ref t), .val (.int (0 : Int32))] [])) st14 ?_
  refine own_step (T' := T14) (g' := (mkF m 10 #[.val (.ref a), .val (.ref t), .val (.int (0 : Int32))] [(.ref a)])) (fun _ q => XS.aloadN X14.here hx rfl (hb hby d20_9) rfl rfl q) ?_
  refine own_step (T' := T14) (g' := (mkF m 11 #[.val (.ref a), .val (.ref t), .val (.int (0 : Int32))] [(.int (0 : Int32)), (.ref a)])) (fun _ q => XS.iloadN X14.here hx rfl (hb hby d20_10) rfl q) ?_
  have c17 := (E_a.wr W14)
  have c18 := (F_coder_a.other W14 (Or.inr (RoadKit.slot_ne (t := .byte) (t' := (.array .byte)) (Or.inr (w21 hw)) (Or.inr (w20 hw)) (by decide) (by decide) (by decide))))
  obtain ⟨T19, h19, X19, e19, W19, st19⟩ := putFN X14 hx hZ hown (w25 hw) Via.refl e14 c18 c17 (Or.inr ⟨(w21 hw), rfl, hnm⟩) (w5 hw) (ty := .byte) (v' := (.int (0 : Int32))) (by decide) rfl rfl (g := (mkF m 11 #[.val (.ref a), .val (.ref t), .val (.int (0 : Int32))] [(.int (0 : Int32)), (.ref a)])) rfl rfl (hb hby d20_11)
  have F20 := c18.same W19
  have N21 := Fr.snoc X19 N16 ge_a
  refine own_step (T' := T19) (g' := (mkF m 14 #[.val (.ref a), .val (.ref t), .val (.int (0 : Int32))] [])) st19 ?_
  have c22 := ((KP0.wr W14 (Or.inl (List.mem_of_getElem? (i := 0) rfl))).wr W19 (Or.inl (List.mem_of_getElem? (i := 0) rfl)))
  have c23 := (c17.wr W19)
  have c24 := (F15.other W19 (Or.inr (RoadKit.slot_ne (t := (.array .byte)) (t' := .byte) (Or.inr (w20 hw)) (Or.inr (w21 hw)) (by decide) (by decide) (by decide))))
  exact own_retV X19 hx Bd.returns (hb hby d20_14) hlk (by rw [e19]; exact ⟨rfl, N21, c22, c23, c24, F20⟩) (by first | decide | (dsimp only; omega)) (by first | decide | (dsimp only; omega))
theorem pd_1 : parseMethodDescriptor "(C)Z" = some ⟨[.char], some .boolean⟩ := by decide +kernel
theorem pd_2 : parseMethodDescriptor "(C)[B" = some ⟨[.char], some (.array .byte)⟩ := by decide +kernel
theorem pd_3 : parseMethodDescriptor "([BB)V" = some ⟨[(.array .byte), .byte], none⟩ := by decide +kernel
theorem d17_0 : decode jdk_42_method_139_code 0 = .ok (.getstatic 38, 3) := by decide +kernel
theorem d17_3 : decode jdk_42_method_139_code 3 = .ok (.ifCond .eq 23, 3) := by decide +kernel
theorem d17_6 : decode jdk_42_method_139_code 6 = .ok (.iload_n 0, 1) := by decide +kernel
theorem d17_7 : decode jdk_42_method_139_code 7 = .ok (.invokestatic 1015, 3) := by decide +kernel
theorem d17_10 : decode jdk_42_method_139_code 10 = .ok (.ifCond .eq 16, 3) := by decide +kernel
theorem d17_13 : decode jdk_42_method_139_code 13 = .ok (.new 10, 3) := by decide +kernel
theorem d17_16 : decode jdk_42_method_139_code 16 = .ok (.dup, 1) := by decide +kernel
theorem d17_17 : decode jdk_42_method_139_code 17 = .ok (.iload_n 0, 1) := by decide +kernel
theorem d17_18 : decode jdk_42_method_139_code 18 = .ok (.invokestatic 1018, 3) := by decide +kernel
theorem d17_21 : decode jdk_42_method_139_code 21 = .ok (.iconst 0, 1) := by decide +kernel
theorem d17_22 : decode jdk_42_method_139_code 22 = .ok (.invokespecial 209, 3) := by decide +kernel
theorem d17_25 : decode jdk_42_method_139_code 25 = .ok (.areturn, 1) := by decide +kernel
def Q_own_vof (Z : State) (G1 : Int32) (G3 : Value) (z : Int32) (h0 : Heap) (n0 : Nat) (v : Option Value) (h : Heap) (L : List Loc) : Prop := ∃ (a : Addr), ∃ (t : Addr), ∃ (kb : ClassId), v = some (.ref a) ∧ Fr n0 L ∧ Keep h0 h [] ∧ h0.size ≤ a ∧ h0.size ≤ t ∧ Exa Z h a "java/lang/String" ∧ Fld Z h a "java/lang/String" "value" "[B" (.ref t) ∧ Fld Z h a "java/lang/String" "coder" "B" (.int (0 : Int32)) ∧ Arv Z h t kb .byte (1 : Int32) [(.int (StrChars.lo8 z))] (.int 0)
set_option maxRecDepth 65536 in
set_option maxHeartbeats 40000000 in
theorem own_vof (l : Launch) (Z : State) (a0 : Array Value) (hw : ∀ d ∈ tables_1, d.before a0 Z = true) (ws : List Jvm.Cond) (G1 : Int32) (G3 : Value) (z : Int32) (h0 : Heap) (n0 : Nat) (Z0 : n0 ≤ h0.size) (O2 : Sta Z Z.heap "java/lang/String" "COMPACT_STRINGS" "Z" (.int G1)) (O4 : Sta Z Z.heap "jdk/internal/util/Preconditions" "SIOOBE_FORMATTER" "Ljava/util/function/BiFunction;" G3) (P5 : ¬ (G1 = (0 : Int32))) (rG3 : G3.isRef = true) (OLD0 : Old Z n0 h0) (hz : ¬ (255 : Int32) < z) :
    MetFree l (⟨"java/lang/String", "valueOf", "(C)Ljava/lang/String;"⟩ : MethodName) (head1 (Jvm.Cond.code (⟨"java/lang/String", "valueOf", "(C)Ljava/lang/String;"⟩ : MethodName) jdk_42_method_139_code 1 (some (.object "java/lang/String")) :: ws) ({ frames := 2, cells := 2, slots := 5, locals := 27 } : Room)) (fun ag U => ag = #[(.int z)] ∧ Z.Warmed39 U.vm ∧ U.heap = h0) (fun _ _ _ _ _ => True) (fun _ U o U' => ∃ v L, o = .returned v ∧ Q_own_vof Z G1 G3 z h0 n0 v U'.heap L ∧ FrameEnd U o U' L ({ frames := 2, cells := 2, slots := 5, locals := 27 } : Room).cells ({ frames := 2, cells := 2, slots := 5, locals := 27 } : Room).slots) := by
  refine own_body (plainFor_of_name pn_4) ?_
  intro p e s m below meth c s₁ Bd hml hZ e0
  have hx := Bd.exec
  have hby := Bd.bytes
  have hlk : meth.locks = false := BodyLoose.notSynchronized Bd
  have hown : s.vm.findClass "java/lang/String" = some m.cls := findClass_of_methodNamed Bd.named
  have hnm := (name_of_methodNamed Bd.named Bd.method).1
  have X0 : Stand p l e ({ frames := 2, cells := 2, slots := 5, locals := 27 } : Room) s m #[(.int z)] below meth c s₁ [] 0 0 := Stand.of_body Bd
  have N0 := Fr.nil n0
  have KP0 : Keep h0 h0 [] := Keep.refl h0 []
  refine own_cast (g' := (mkF m 0 #[.val (.int z)] [])) (by first | (simp [entryFrame, mkF, argsToLocals, own_cat_int, own_cat_long, own_cat_ref, own_cat_null]; done) | rfl) ?_
  obtain ⟨T25, X25, e25, st25⟩ := getS2 X0 hx hZ hown (host := "") (Or.inl (w108 hw)) Via.refl e0 (O2.ext OLD0.2) (g := (mkF m 0 #[.val (.int z)] [])) rfl (hb hby d17_0)
  refine own_step (T' := T25) (g' := (mkF m 3 #[.val (.int z)] [(.int G1)])) st25 ?_
  have hc26 : ¬ (G1 = 0) := P5
  refine own_step (T' := T25) (g' := (mkF m 6 #[.val (.int z)] [])) (fun _ q => XS.ifNo X25.here hx rfl (hb hby d17_3) rfl (XT.i0_eq_f hc26) q) ?_
  refine own_step (T' := T25) (g' := (mkF m 7 #[.val (.int z)] [(.int z)])) (fun _ q => XS.iloadN X25.here hx rfl (hb hby d17_6) rfl q) ?_
  refine own_callS X25 hx hZ hown (w112 hw) (w113 hw) (w114 hw) (w115 hw) (by decide) (backOf (W := 0) (own_can l Z a0 hw [] z h0 n0 Z0 (hz : ¬ (255 : Int32) < z)) hZ (w115 hw) (w114 hw) (Nat.le_of_ble_eq_true rfl) (Nat.le_of_ble_eq_true rfl)) e25  (by first | decide | (dsimp only; omega)) (by first | decide | (dsimp only; omega)) (g := (mkF m 7 #[.val (.int z)] [(.int z)])) (argsL := [(.int z)]) (rest := []) rfl (by rw [hml]; rfl) (lenOf pd_1 rfl) rfl rfl (by show 2 * 0 + _ ≤ _; exact Nat.le_of_eq rfl) (hb hby d17_7) ?_
  rintro _ T27 L27 X27 ⟨rfl, N27q, e27⟩
  have N28 := Fr.app N0 N27q
  show own_Fin p e below _ T27 (mkF m 10 #[.val (.int z)] [(.int (1 : Int32))])
  refine own_step (T' := T27) (g' := (mkF m 13 #[.val (.int z)] [])) (fun _ q => XS.ifNo X27.here hx rfl (hb hby d17_10) rfl (by decide) q) ?_
  obtain ⟨T29, h29, X29, e29, E29, A29, D29, -, st29⟩ := newO X27 hx hZ hown (w116 hw) (w5 hw) (w6 hw) e27 (g := (mkF m 13 #[.val (.int z)] [])) rfl (hb hby d17_13) (by first | decide | (dsimp only; omega)) (by first | decide | (dsimp only; omega))
  obtain ⟨b29, g29⟩ : ∃ z, z = h0.size := ⟨_, rfl⟩
  rw [← g29] at A29 D29 st29
  have n0_30 : n0 ≤ b29 := Nat.le_trans Z0 (Nat.le_of_eq g29.symm)
  have sz0_31 := Nat.le_trans KP0.1 (Nat.le_of_eq g29.symm)
  have ltb29 := A29.lt
  have F32 : Fld Z h29 b29 "java/lang/String" "value" "[B" .null := D29 (Or.inr (w20 hw)) (ty := (.array .byte)) (by decide)
  have F33 : Fld Z h29 b29 "java/lang/String" "coder" "B" (.int (0 : Int32)) := D29 (Or.inr (w21 hw)) (ty := .byte) (by decide)
  refine own_step (T' := T29) (g' := (mkF m 16 #[.val (.int z)] [(.ref b29)])) st29 ?_
  refine own_step (T' := T29) (g' := (mkF m 17 #[.val (.int z)] [(.ref b29), (.ref b29)])) (fun _ q => XS.dup X29.here hx rfl (hb hby d17_16) rfl rfl q) ?_
  refine own_step (T' := T29) (g' := (mkF m 18 #[.val (.int z)] [(.int z), (.ref b29), (.ref b29)])) (fun _ q => XS.iloadN X29.here hx rfl (hb hby d17_17) rfl q) ?_
  have c34 := (Nat.le_trans Z0 E29.1)
  refine own_callS X29 hx hZ hown (w117 hw) (w118 hw) (w114 hw) (w119 hw) (by decide) (backOf (W := 2) (own_tob1 l Z a0 hw [] z h29 n0 c34 ) hZ (w119 hw) (w114 hw) (Nat.le_of_ble_eq_true rfl) (Nat.le_of_ble_eq_true rfl)) e29  (by first | decide | (dsimp only; omega)) (by first | decide | (dsimp only; omega)) (g := (mkF m 18 #[.val (.int z)] [(.int z), (.ref b29), (.ref b29)])) (argsL := [(.int z)]) (rest := [(.ref b29), (.ref b29)]) rfl (by rw [hml]; rfl) (lenOf pd_2 rfl) rfl rfl (by show 2 * 0 + _ ≤ _; exact Nat.le_of_eq rfl) (hb hby d17_18) ?_
  rintro _ T35 L35 X35 ⟨t35, kb35, rfl, N35q, K35, f0_35, f1_35⟩
  have n0_36 : n0 ≤ t35 := Nat.le_trans c34 f0_35
  have c37 := (KP0.ext E29)
  have sz0_38 := Nat.le_trans c37.1 f0_35
  have ne39 : b29 ≠ t35 := own_ne ltb29 f0_35
  have lt40 := f1_35.lt
  have N41 := Fr.app N28 N35q
  show own_Fin p e below _ T35 (mkF m 21 #[.val (.int z)] [(.ref t35), (.ref b29), (.ref b29)])
  refine own_step (T' := T35) (g' := (mkF m 22 #[.val (.int z)] [(.int (0 : Int32)), (.ref t35), (.ref b29), (.ref b29)])) (fun _ q => XS.iconst X35.here hx rfl (hb hby d17_21) q) ?_
  have c42 := (A29.keep K35)
  have c43 := (F32.keep K35 nin0)
  have c44 := (F33.keep K35 nin0)
  have c45 := (Nat.le_trans c34 K35.1)
  refine own_callC X35 hx hZ hown rfl (w120 hw) (w121 hw) (w122 hw) (by decide) (backOf (W := 1) (own_newbb l Z a0 hw [] b29 t35 T35.heap n0 c45 c42 n0_30 c43 c44) hZ (w122 hw) (w6 hw) (Nat.le_of_ble_eq_true rfl) (Nat.le_of_ble_eq_true rfl)) rfl  (by first | decide | (dsimp only; omega)) (by first | decide | (dsimp only; omega)) (g := (mkF m 22 #[.val (.int z)] [(.int (0 : Int32)), (.ref t35), (.ref b29), (.ref b29)])) (argsL := [(.ref t35), (.int (0 : Int32))]) (rest := [(.ref b29)]) rfl (by rw [hml]; rfl) (lenOf pd_3 rfl) rfl rfl (by show 2 * 0 + _ ≤ _; exact Nat.le_of_eq rfl) (hb hby d17_22) ?_
  rintro _ T46 L46 X46 ⟨rfl, N46q, K46, f0_46, f1_46, f2_46⟩
  have N47 := Fr.app N41 N46q
  show own_Fin p e below _ T46 (mkF m 25 #[.val (.int z)] [(.ref b29)])
  have c48 := ((c37.trans K35 all0).trans K46 (allS (Or.inr sz0_31) all0))
  have c49 := (f1_35.keep K46 (ninS (Ne.symm ne39) nin0))
  exact own_retA X46 hx Bd.returns rfl rfl (hb hby d17_25) hlk ⟨b29, t35, kb35, rfl, N47, c48, sz0_31, sz0_38, f0_46, f1_46, f2_46, c49⟩ (by first | decide | (dsimp only; omega)) (by first | decide | (dsimp only; omega))
theorem d3_0 : decode jdk_42_method_149_code 0 = .ok (.aload_n 0, 1) := by decide +kernel
theorem d3_1 : decode jdk_42_method_149_code 1 = .ok (.invokespecial 1, 3) := by decide +kernel
theorem d3_4 : decode jdk_42_method_149_code 4 = .ok (.iload_n 3, 1) := by decide +kernel
theorem d3_5 : decode jdk_42_method_149_code 5 = .ok (.ifCond .ne 22, 3) := by decide +kernel
theorem d3_8 : decode jdk_42_method_149_code 8 = .ok (.aload_n 0, 1) := by decide +kernel
theorem d3_9 : decode jdk_42_method_149_code 9 = .ok (.ldc 7, 2) := by decide +kernel
theorem d3_11 : decode jdk_42_method_149_code 11 = .ok (.getfield 9, 3) := by decide +kernel
theorem d3_14 : decode jdk_42_method_149_code 14 = .ok (.putfield 9, 3) := by decide +kernel
theorem d3_17 : decode jdk_42_method_149_code 17 = .ok (.aload_n 0, 1) := by decide +kernel
theorem d3_18 : decode jdk_42_method_149_code 18 = .ok (.ldc 7, 2) := by decide +kernel
theorem d3_20 : decode jdk_42_method_149_code 20 = .ok (.getfield 15, 3) := by decide +kernel
theorem d3_23 : decode jdk_42_method_149_code 23 = .ok (.putfield 15, 3) := by decide +kernel
theorem d3_26 : decode jdk_42_method_149_code 26 = .ok (.return_, 1) := by decide +kernel
def Q_own_new4e (Z : State) (G1 : Int32) (G3 : Value) (a : Addr) (b : Addr) (h0 : Heap) (n0 : Nat) (v : Option Value) (h : Heap) (L : List Loc) : Prop := ∃ (t : Addr), ∃ (kb : ClassId), v = none ∧ Fr n0 L ∧ Keep h0 h [a] ∧ Exa Z h a "java/lang/String" ∧ Fld Z h a "java/lang/String" "value" "[B" (.ref t) ∧ Fld Z h a "java/lang/String" "coder" "B" (.int (0 : Int32)) ∧ Arv Z h t kb .byte (0 : Int32) [] (.int 0)
set_option maxRecDepth 65536 in
set_option maxHeartbeats 40000000 in
theorem own_new4e (l : Launch) (Z : State) (a0 : Array Value) (hw : ∀ d ∈ tables_1, d.before a0 Z = true) (ws : List Jvm.Cond) (G1 : Int32) (G3 : Value) (a : Addr) (b : Addr) (h0 : Heap) (n0 : Nat) (Z0 : n0 ≤ h0.size) (O2 : Sta Z Z.heap "java/lang/String" "COMPACT_STRINGS" "Z" (.int G1)) (O4 : Sta Z Z.heap "jdk/internal/util/Preconditions" "SIOOBE_FORMATTER" "Ljava/util/function/BiFunction;" G3) (P5 : ¬ (G1 = (0 : Int32))) (rG3 : G3.isRef = true) (OLD0 : Old Z n0 h0) (E_a : Exa Z h0 a "java/lang/String") (ge_a : n0 ≤ a) (F_value_a : Fld Z h0 a "java/lang/String" "value" "[B" .null) (F_coder_a : Fld Z h0 a "java/lang/String" "coder" "B" (.int (0 : Int32))) :
    MetFree l (⟨"java/lang/String", "<init>", "([CIILjava/lang/Void;)V"⟩ : MethodName) (head1 (Jvm.Cond.code (⟨"java/lang/String", "<init>", "([CIILjava/lang/Void;)V"⟩ : MethodName) jdk_42_method_149_code 6 none :: ws) ({ frames := 1, cells := 4, slots := 8, locals := 12 } : Room)) (fun ag U => ag = #[(.ref a), (.ref b), (.int (0 : Int32)), (.int (0 : Int32)), .null] ∧ Z.Warmed39 U.vm ∧ U.heap = h0 ∧ CHv Z own_EL U.vm h0) (fun _ _ _ _ _ => True) (fun _ U o U' => ∃ v L, o = .returned v ∧ Q_own_new4e Z G1 G3 a b h0 n0 v U'.heap L ∧ CHr Z own_EL U.vm U.heap U'.vm U'.heap ∧ ReturnedEndW U o U' L ({ frames := 1, cells := 4, slots := 8, locals := 12 } : Room).cells ({ frames := 1, cells := 4, slots := 8, locals := 12 } : Room).slots) := by
  refine own_bodyW (plainFor_of_name pn_4) ?_
  intro p e s m below meth c s₁ Bd hml hZ e0 hh0 CH0
  have hx := Bd.exec
  have hby := Bd.bytes
  have hlk : meth.locks = false := BodyLoose.notSynchronized Bd
  have hown : s.vm.findClass "java/lang/String" = some m.cls := findClass_of_methodNamed Bd.named
  have hnm := (name_of_methodNamed Bd.named Bd.method).1
  have X0 : Stand p l e ({ frames := 1, cells := 4, slots := 8, locals := 12 } : Room) (s.setVm s.vm) m #[(.ref a), (.ref b), (.int (0 : Int32)), (.int (0 : Int32)), .null] below meth c s₁ [] 0 0 := Stand.of_body Bd
  have N0 := Fr.nil n0
  have hS := (State.WarmedH.refl s).since h0.size
  have hk0 : h0.size ≤ h0.size := Nat.le_refl _
  have KP0 : Keep h0 h0 [a] := Keep.refl h0 [a]
  have lt_a := E_a.lt
  refine own_cast (g' := (mkF m 0 #[.val (.ref a), .val (.ref b), .val (.int (0 : Int32)), .val (.int (0 : Int32)), .val .null, .unset] [])) (by first | (simp [entryFrame, mkF, argsToLocals, own_cat_int, own_cat_long, own_cat_ref, own_cat_null]; done) | rfl) ?_
  refine own_step (T' := s₁) (g' := (mkF m 1 #[.val (.ref a), .val (.ref b), .val (.int (0 : Int32)), .val (.int (0 : Int32)), .val .null, .unset] [(.ref a)])) (fun _ q => XS.aloadN X0.here hx rfl (hb hby d3_0) rfl rfl q) ?_
  obtain ⟨T50, X50, e50, st50⟩ := initO X0 hx hZ hown (w15 hw) (w16 hw) (w17 hw) e0 (g := (mkF m 1 #[.val (.ref a), .val (.ref b), .val (.int (0 : Int32)), .val (.int (0 : Int32)), .val .null, .unset] [(.ref a)])) rfl (by rw [hml]; rfl) rfl (hb hby d3_1) (Nat.le_of_ble_eq_true rfl) (W := 0) (by show 2 * 0 + _ ≤ _; exact Nat.le_of_eq rfl) (Nat.le_of_ble_eq_true rfl)
  refine own_step (T' := T50) (g' := (mkF m 4 #[.val (.ref a), .val (.ref b), .val (.int (0 : Int32)), .val (.int (0 : Int32)), .val .null, .unset] [])) st50 ?_
  refine own_step (T' := T50) (g' := (mkF m 5 #[.val (.ref a), .val (.ref b), .val (.int (0 : Int32)), .val (.int (0 : Int32)), .val .null, .unset] [(.int (0 : Int32))])) (fun _ q => XS.iloadN X50.here hx rfl (hb hby d3_4) rfl q) ?_
  refine own_step (T' := T50) (g' := (mkF m 8 #[.val (.ref a), .val (.ref b), .val (.int (0 : Int32)), .val (.int (0 : Int32)), .val .null, .unset] [])) (fun _ q => XS.ifNo X50.here hx rfl (hb hby d3_5) rfl (by decide) q) ?_
  refine own_step (T' := T50) (g' := (mkF m 9 #[.val (.ref a), .val (.ref b), .val (.int (0 : Int32)), .val (.int (0 : Int32)), .val .null, .unset] [(.ref a)])) (fun _ q => XS.aloadN X50.here hx rfl (hb hby d3_8) rfl rfl q) ?_
  obtain ⟨a51, T51, h51, k51, b51, kb51, X51, e51, E51, hS, hk51, hZ, hown, fE51, fC51, fV51, fA51, lta51, ltb51, C51, Li51, sf51, st51⟩ := ldcCH X50 hx hZ hown (w18 hw) (own_wS hw) e50 hS hk0 (own_hEL hw) (by decide) CH0.1 (vs := []) (z := (0 : Int32)) ⟨by decide, by decide⟩ (by decide) rfl (g := (mkF m 9 #[.val (.ref a), .val (.ref b), .val (.int (0 : Int32)), .val (.int (0 : Int32)), .val .null, .unset] [(.ref a)])) rfl (hb hby d3_9) (n := 0) (by decide) (by decide) (by first | decide | (dsimp only; omega)) (by first | decide | (dsimp only; omega))
  have CH52 := CH0.trans C51
  have c54 := (E_a.ext E51)
  have c55 := (F_value_a.ext E51)
  have sf53 := own_safe_null (EL := own_EL) hZ.alike c54 c55
  have ne56 := sf51 a sf53
  refine own_step (T' := T51) (g' := (mkF m 11 #[.val (.ref a), .val (.ref b), .val (.int (0 : Int32)), .val (.int (0 : Int32)), .val .null, .unset] [(.ref a51), (.ref a)])) st51 ?_
  obtain ⟨T57, X57, e57, st57⟩ := getF X51 hx hZ hown (host := "") (Or.inl (w24 hw)) Via.refl e51 fV51 (g := (mkF m 11 #[.val (.ref a), .val (.ref b), .val (.int (0 : Int32)), .val (.int (0 : Int32)), .val .null, .unset] [(.ref a51), (.ref a)])) rfl rfl (hb hby d3_11)
  refine own_step (T' := T57) (g' := (mkF m 14 #[.val (.ref a), .val (.ref b), .val (.int (0 : Int32)), .val (.int (0 : Int32)), .val .null, .unset] [(.ref b51), (.ref a)])) st57 ?_
  obtain ⟨T58, h58, X58, e58, W58, st58⟩ := putF X57 hx hZ hown (host := "") (Or.inl (w24 hw)) Via.refl e57 c55 c54 (Or.inr ⟨(w20 hw), rfl, hnm⟩) (w5 hw) (ty := (.array .byte)) (by decide) rfl rfl (g := (mkF m 14 #[.val (.ref a), .val (.ref b), .val (.int (0 : Int32)), .val (.int (0 : Int32)), .val .null, .unset] [(.ref b51), (.ref a)])) rfl rfl (hb hby d3_14)
  have F59 := c55.same W58
  have N60 := Fr.snoc X58 N0 ge_a
  have CH61 := CH52.trans (CHr.wr W58 sf53 CH52.1)
  refine own_step (T' := T58) (g' := (mkF m 17 #[.val (.ref a), .val (.ref b), .val (.int (0 : Int32)), .val (.int (0 : Int32)), .val .null, .unset] [])) st58 ?_
  refine own_step (T' := T58) (g' := (mkF m 18 #[.val (.ref a), .val (.ref b), .val (.int (0 : Int32)), .val (.int (0 : Int32)), .val .null, .unset] [(.ref a)])) (fun _ q => XS.aloadN X58.here hx rfl (hb hby d3_17) rfl rfl q) ?_
  have c63 := (Nat.le_trans hk51 (Keep.of_wr W58).1)
  obtain ⟨a62, T62, h62, k62, b62, kb62, X62, e62, E62, hS, hk62, hZ, hown, fE62, fC62, fV62, fA62, lta62, ltb62, C62, Li62, sf62, st62⟩ := ldcCH X58 hx hZ hown (w18 hw) (own_wS hw) e58 hS c63 (own_hEL hw) (by decide) CH61.1 (vs := []) (z := (0 : Int32)) ⟨by decide, by decide⟩ (by decide) rfl (g := (mkF m 18 #[.val (.ref a), .val (.ref b), .val (.int (0 : Int32)), .val (.int (0 : Int32)), .val .null, .unset] [(.ref a)])) rfl (hb hby d3_18) (n := 0) (by decide) (by decide) (by first | decide | (dsimp only; omega)) (by first | decide | (dsimp only; omega))
  have CH64 := CH61.trans C62
  have c65 := (CHr.safe C62 (own_lt (own_lt lt_a E51.1) (Keep.of_wr W58).1) (Safe.wr W58 sf53 CH52.1 sf53))
  have ne66 := sf62 a c65
  refine own_step (T' := T62) (g' := (mkF m 20 #[.val (.ref a), .val (.ref b), .val (.int (0 : Int32)), .val (.int (0 : Int32)), .val .null, .unset] [(.ref a62), (.ref a)])) st62 ?_
  obtain ⟨T67, X67, e67, st67⟩ := getF X62 hx hZ hown (host := "") (Or.inl (w25 hw)) Via.refl e62 fC62 (g := (mkF m 20 #[.val (.ref a), .val (.ref b), .val (.int (0 : Int32)), .val (.int (0 : Int32)), .val .null, .unset] [(.ref a62), (.ref a)])) rfl rfl (hb hby d3_20)
  refine own_step (T' := T67) (g' := (mkF m 23 #[.val (.ref a), .val (.ref b), .val (.int (0 : Int32)), .val (.int (0 : Int32)), .val .null, .unset] [(.int (0 : Int32)), (.ref a)])) st67 ?_
  have c68 := ((c54.wr W58).ext E62)
  have c69 := (((F_coder_a.ext E51).other W58 (Or.inr (RoadKit.slot_ne (t := .byte) (t' := (.array .byte)) (Or.inr (w21 hw)) (Or.inr (w20 hw)) (by decide) (by decide) (by decide)))).ext E62)
  obtain ⟨T70, h70, X70, e70, W70, st70⟩ := putFN X67 hx hZ hown (w25 hw) Via.refl e67 c69 c68 (Or.inr ⟨(w21 hw), rfl, hnm⟩) (w5 hw) (ty := .byte) (v' := (.int (0 : Int32))) (by decide) rfl rfl (g := (mkF m 23 #[.val (.ref a), .val (.ref b), .val (.int (0 : Int32)), .val (.int (0 : Int32)), .val .null, .unset] [(.int (0 : Int32)), (.ref a)])) rfl rfl (hb hby d3_23)
  have F71 := c69.same W70
  have N72 := Fr.snoc X70 N60 ge_a
  have CH73 := CH64.trans (CHr.wr W70 c65 CH64.1)
  refine own_step (T' := T70) (g' := (mkF m 26 #[.val (.ref a), .val (.ref b), .val (.int (0 : Int32)), .val (.int (0 : Int32)), .val .null, .unset] [])) st70 ?_
  have c74 := ((((KP0.ext E51).wr W58 (Or.inl (List.mem_of_getElem? (i := 0) rfl))).ext E62).wr W70 (Or.inl (List.mem_of_getElem? (i := 0) rfl)))
  have c75 := (c68.wr W70)
  have c76 := ((F59.ext E62).other W70 (Or.inr (RoadKit.slot_ne (t := (.array .byte)) (t' := .byte) (Or.inr (w20 hw)) (Or.inr (w21 hw)) (by decide) (by decide) (by decide))))
  have c77 := (((fA51.other W58 (Ne.symm ne56.2)).ext E62).other W70 (Ne.symm ne56.2))
  have c78 := (Nat.le_trans hk62 (Keep.of_wr W70).1)
  exact own_retVW X70 hx hZ (own_hEL hw) hS (by rw [e70]; exact c78) (by rw [e70]; exact CH73) Bd.returns (hb hby d3_26) hlk (by rw [e70]; exact ⟨b51, kb51, rfl, N72, c74, c75, c76, F71, c77⟩) (by first | decide | (dsimp only; omega)) (by first | decide | (dsimp only; omega))
theorem pd_4 : parseMethodDescriptor "([CIILjava/lang/Void;)V" = some ⟨[(.array .char), .int, .int, (.object "java/lang/Void")], none⟩ := by decide +kernel
theorem d2_0 : decode jdk_42_method_3_code 0 = .ok (.aload_n 0, 1) := by decide +kernel
theorem d2_1 : decode jdk_42_method_3_code 1 = .ok (.aload_n 1, 1) := by decide +kernel
theorem d2_2 : decode jdk_42_method_3_code 2 = .ok (.iconst 0, 1) := by decide +kernel
theorem d2_3 : decode jdk_42_method_3_code 3 = .ok (.aload_n 1, 1) := by decide +kernel
theorem d2_4 : decode jdk_42_method_3_code 4 = .ok (.arraylength, 1) := by decide +kernel
theorem d2_5 : decode jdk_42_method_3_code 5 = .ok (.aconst_null, 1) := by decide +kernel
theorem d2_6 : decode jdk_42_method_3_code 6 = .ok (.invokespecial 27, 3) := by decide +kernel
theorem d2_9 : decode jdk_42_method_3_code 9 = .ok (.return_, 1) := by decide +kernel
def Q_own_new1e (Z : State) (G1 : Int32) (G3 : Value) (a : Addr) (b : Addr) (kc : ClassId) (dv : Value) (h0 : Heap) (n0 : Nat) (v : Option Value) (h : Heap) (L : List Loc) : Prop := ∃ (t : Addr), ∃ (kb : ClassId), v = none ∧ Fr n0 L ∧ Keep h0 h [a] ∧ Exa Z h a "java/lang/String" ∧ Fld Z h a "java/lang/String" "value" "[B" (.ref t) ∧ Fld Z h a "java/lang/String" "coder" "B" (.int (0 : Int32)) ∧ Arv Z h t kb .byte (0 : Int32) [] (.int 0)
set_option maxRecDepth 65536 in
set_option maxHeartbeats 40000000 in
theorem own_new1e (l : Launch) (Z : State) (a0 : Array Value) (hw : ∀ d ∈ tables_1, d.before a0 Z = true) (ws : List Jvm.Cond) (G1 : Int32) (G3 : Value) (a : Addr) (b : Addr) (kc : ClassId) (dv : Value) (h0 : Heap) (n0 : Nat) (Z0 : n0 ≤ h0.size) (O2 : Sta Z Z.heap "java/lang/String" "COMPACT_STRINGS" "Z" (.int G1)) (O4 : Sta Z Z.heap "jdk/internal/util/Preconditions" "SIOOBE_FORMATTER" "Ljava/util/function/BiFunction;" G3) (P5 : ¬ (G1 = (0 : Int32))) (rG3 : G3.isRef = true) (OLD0 : Old Z n0 h0) (E_a : Exa Z h0 a "java/lang/String") (ge_a : n0 ≤ a) (F_value_a : Fld Z h0 a "java/lang/String" "value" "[B" .null) (F_coder_a : Fld Z h0 a "java/lang/String" "coder" "B" (.int (0 : Int32))) (V_b : Arv Z h0 b kc .char (0 : Int32) [] dv) :
    MetFree l (⟨"java/lang/String", "<init>", "([C)V"⟩ : MethodName) (head1 (Jvm.Cond.code (⟨"java/lang/String", "<init>", "([C)V"⟩ : MethodName) jdk_42_method_3_code 2 none :: ws) ({ frames := 2, cells := 4, slots := 8, locals := 29 } : Room)) (fun ag U => ag = #[(.ref a), (.ref b)] ∧ Z.Warmed39 U.vm ∧ U.heap = h0 ∧ CHv Z own_EL U.vm h0) (fun _ _ _ _ _ => True) (fun _ U o U' => ∃ v L, o = .returned v ∧ Q_own_new1e Z G1 G3 a b kc dv h0 n0 v U'.heap L ∧ CHr Z own_EL U.vm U.heap U'.vm U'.heap ∧ ReturnedEndW U o U' L ({ frames := 2, cells := 4, slots := 8, locals := 29 } : Room).cells ({ frames := 2, cells := 4, slots := 8, locals := 29 } : Room).slots) := by
  refine own_bodyW (plainFor_of_name pn_4) ?_
  intro p e s m below meth c s₁ Bd hml hZ e0 hh0 CH0
  have hx := Bd.exec
  have hby := Bd.bytes
  have hlk : meth.locks = false := BodyLoose.notSynchronized Bd
  have hown : s.vm.findClass "java/lang/String" = some m.cls := findClass_of_methodNamed Bd.named
  have hnm := (name_of_methodNamed Bd.named Bd.method).1
  have X0 : Stand p l e ({ frames := 2, cells := 4, slots := 8, locals := 29 } : Room) (s.setVm s.vm) m #[(.ref a), (.ref b)] below meth c s₁ [] 0 0 := Stand.of_body Bd
  have N0 := Fr.nil n0
  have hS := (State.WarmedH.refl s).since h0.size
  have hk0 : h0.size ≤ h0.size := Nat.le_refl _
  have KP0 : Keep h0 h0 [a] := Keep.refl h0 [a]
  have lt_a := E_a.lt
  have lt_b := V_b.lt
  have ty_a_b : a ≠ b := (Exa.neArv E_a V_b (w5 hw))
  refine own_cast (g' := (mkF m 0 #[.val (.ref a), .val (.ref b)] [])) (by first | (simp [entryFrame, mkF, argsToLocals, own_cat_int, own_cat_long, own_cat_ref, own_cat_null]; done) | rfl) ?_
  refine own_step (T' := s₁) (g' := (mkF m 1 #[.val (.ref a), .val (.ref b)] [(.ref a)])) (fun _ q => XS.aloadN X0.here hx rfl (hb hby d2_0) rfl rfl q) ?_
  refine own_step (T' := s₁) (g' := (mkF m 2 #[.val (.ref a), .val (.ref b)] [(.ref b), (.ref a)])) (fun _ q => XS.aloadN X0.here hx rfl (hb hby d2_1) rfl rfl q) ?_
  refine own_step (T' := s₁) (g' := (mkF m 3 #[.val (.ref a), .val (.ref b)] [(.int (0 : Int32)), (.ref b), (.ref a)])) (fun _ q => XS.iconst X0.here hx rfl (hb hby d2_2) q) ?_
  refine own_step (T' := s₁) (g' := (mkF m 4 #[.val (.ref a), .val (.ref b)] [(.ref b), (.int (0 : Int32)), (.ref b), (.ref a)])) (fun _ q => XS.aloadN X0.here hx rfl (hb hby d2_3) rfl rfl q) ?_
  refine own_step (T' := s₁) (g' := (mkF m 5 #[.val (.ref a), .val (.ref b)] [(.int (0 : Int32)), (.int (0 : Int32)), (.ref b), (.ref a)])) (fun _ q => own_len X0 hx hZ e0 V_b (g := (mkF m 4 #[.val (.ref a), .val (.ref b)] [(.ref b), (.int (0 : Int32)), (.ref b), (.ref a)])) rfl rfl (hb hby d2_4) _ q) ?_
  refine own_step (T' := s₁) (g' := (mkF m 6 #[.val (.ref a), .val (.ref b)] [.null, (.int (0 : Int32)), (.int (0 : Int32)), (.ref b), (.ref a)])) (fun _ q => XS.aconstNull X0.here hx rfl (hb hby d2_5) q) ?_
  refine own_callCW X0 hx hZ hown hS hk0 rfl (w11 hw) (w12 hw) (w14 hw) (by decide) (backOfSH (W := 0) (own_new4e l Z a0 hw [] G1 G3 a b h0 n0 Z0 O2 O4 P5 rG3 OLD0 E_a ge_a F_value_a F_coder_a) hZ (w14 hw) (w6 hw) (Nat.le_of_ble_eq_true rfl) (Nat.le_of_ble_eq_true rfl) (own_hEL hw) CH0.1) e0  (by first | decide | (dsimp only; omega)) (by first | decide | (dsimp only; omega)) (g := (mkF m 6 #[.val (.ref a), .val (.ref b)] [.null, (.int (0 : Int32)), (.int (0 : Int32)), (.ref b), (.ref a)])) (argsL := [(.ref b), (.int (0 : Int32)), (.int (0 : Int32)), .null]) (rest := []) rfl (by rw [hml]; rfl) (lenOf pd_4 rfl) rfl rfl (by show 2 * 0 + _ ≤ _; exact Nat.le_of_eq rfl) (hb hby d2_6) ?_
  rintro _ T79 L79 X79 hS hZ hown C79 ⟨t79, kb79, rfl, N79q, K79, f0_79, f1_79, f2_79, f3_79⟩
  have CH80 := CH0.trans C79
  have lt81 := f3_79.lt
  have N82 := Fr.app N0 N79q
  show own_Fin p e below _ T79 (mkF m 9 #[.val (.ref a), .val (.ref b)] [])
  have c83 := (KP0.trans K79 (allS (Or.inl (List.mem_of_getElem? (i := 0) rfl)) all0))
  exact own_retVW X79 hx hZ (own_hEL hw) hS (Nat.le_refl _) CH80 Bd.returns (hb hby d2_9) hlk ⟨t79, kb79, rfl, N82, c83, f0_79, f1_79, f2_79, f3_79⟩ (by first | decide | (dsimp only; omega)) (by first | decide | (dsimp only; omega))
theorem pn_6 : plainName "com/example/gangway/gangway/tool/OptionNamePinLaw" = true := by first | (simp [plainName, overriddenIn]; done) | decide +kernel
theorem pd_5 : parseMethodDescriptor "([C)V" = some ⟨[(.array .char)], none⟩ := by decide +kernel
theorem pd_6 : parseMethodDescriptor "(C)Ljava/lang/String;" = some ⟨[.char], some (.object "java/lang/String")⟩ := by decide +kernel
theorem d1_0 : decode method_2_code 0 = .ok (.iload_n 0, 1) := by decide +kernel
theorem d1_1 : decode method_2_code 1 = .ok (.sipush 255, 3) := by decide +kernel
theorem d1_4 : decode method_2_code 4 = .ok (.iand, 1) := by decide +kernel
theorem d1_5 : decode method_2_code 5 = .ok (.i2c, 1) := by decide +kernel
theorem d1_6 : decode method_2_code 6 = .ok (.istore_n 2, 1) := by decide +kernel
theorem d1_7 : decode method_2_code 7 = .ok (.iload_n 0, 1) := by decide +kernel
theorem d1_8 : decode method_2_code 8 = .ok (.bipush 8, 2) := by decide +kernel
theorem d1_10 : decode method_2_code 10 = .ok (.iushr, 1) := by decide +kernel
theorem d1_11 : decode method_2_code 11 = .ok (.sipush 255, 3) := by decide +kernel
theorem d1_14 : decode method_2_code 14 = .ok (.iand, 1) := by decide +kernel
theorem d1_15 : decode method_2_code 15 = .ok (.i2c, 1) := by decide +kernel
theorem d1_16 : decode method_2_code 16 = .ok (.istore_n 3, 1) := by decide +kernel
theorem d1_17 : decode method_2_code 17 = .ok (.iload_n 0, 1) := by decide +kernel
theorem d1_18 : decode method_2_code 18 = .ok (.bipush 16, 2) := by decide +kernel
theorem d1_20 : decode method_2_code 20 = .ok (.iushr, 1) := by decide +kernel
theorem d1_21 : decode method_2_code 21 = .ok (.sipush 255, 3) := by decide +kernel
theorem d1_24 : decode method_2_code 24 = .ok (.iand, 1) := by decide +kernel
theorem d1_25 : decode method_2_code 25 = .ok (.i2c, 1) := by decide +kernel
theorem d1_26 : decode method_2_code 26 = .ok (.istore 4, 2) := by decide +kernel
theorem d1_28 : decode method_2_code 28 = .ok (.iload_n 1, 1) := by decide +kernel
theorem d1_29 : decode method_2_code 29 = .ok (.ifCond .ne 14, 3) := by decide +kernel
theorem d1_32 : decode method_2_code 32 = .ok (.new 7, 3) := by decide +kernel
theorem d1_35 : decode method_2_code 35 = .ok (.dup, 1) := by decide +kernel
theorem d1_36 : decode method_2_code 36 = .ok (.iconst 0, 1) := by decide +kernel
theorem d1_37 : decode method_2_code 37 = .ok (.newarray .char, 2) := by decide +kernel
theorem d1_39 : decode method_2_code 39 = .ok (.invokespecial 9, 3) := by decide +kernel
theorem d1_42 : decode method_2_code 42 = .ok (.areturn, 1) := by decide +kernel
theorem d1_43 : decode method_2_code 43 = .ok (.iload_n 1, 1) := by decide +kernel
theorem d1_44 : decode method_2_code 44 = .ok (.iconst 1, 1) := by decide +kernel
theorem d1_45 : decode method_2_code 45 = .ok (.if_icmp .ne 8, 3) := by decide +kernel
theorem d1_48 : decode method_2_code 48 = .ok (.iload_n 2, 1) := by decide +kernel
theorem d1_49 : decode method_2_code 49 = .ok (.invokestatic 12, 3) := by decide +kernel
theorem d1_52 : decode method_2_code 52 = .ok (.areturn, 1) := by decide +kernel
theorem d1_53 : decode method_2_code 53 = .ok (.iload_n 1, 1) := by decide +kernel
theorem d1_54 : decode method_2_code 54 = .ok (.iconst 2, 1) := by decide +kernel
theorem d1_55 : decode method_2_code 55 = .ok (.if_icmp .ne 22, 3) := by decide +kernel
theorem d1_58 : decode method_2_code 58 = .ok (.new 7, 3) := by decide +kernel
theorem d1_61 : decode method_2_code 61 = .ok (.dup, 1) := by decide +kernel
theorem d1_62 : decode method_2_code 62 = .ok (.iconst 2, 1) := by decide +kernel
theorem d1_63 : decode method_2_code 63 = .ok (.newarray .char, 2) := by decide +kernel
theorem d1_65 : decode method_2_code 65 = .ok (.dup, 1) := by decide +kernel
theorem d1_66 : decode method_2_code 66 = .ok (.iconst 0, 1) := by decide +kernel
theorem d1_67 : decode method_2_code 67 = .ok (.iload_n 2, 1) := by decide +kernel
theorem d1_68 : decode method_2_code 68 = .ok (.castore, 1) := by decide +kernel
theorem d1_69 : decode method_2_code 69 = .ok (.dup, 1) := by decide +kernel
theorem d1_70 : decode method_2_code 70 = .ok (.iconst 1, 1) := by decide +kernel
theorem d1_71 : decode method_2_code 71 = .ok (.iload_n 3, 1) := by decide +kernel
theorem d1_72 : decode method_2_code 72 = .ok (.castore, 1) := by decide +kernel
theorem d1_73 : decode method_2_code 73 = .ok (.invokespecial 9, 3) := by decide +kernel
theorem d1_76 : decode method_2_code 76 = .ok (.areturn, 1) := by decide +kernel
theorem d1_77 : decode method_2_code 77 = .ok (.new 7, 3) := by decide +kernel
theorem d1_80 : decode method_2_code 80 = .ok (.dup, 1) := by decide +kernel
theorem d1_81 : decode method_2_code 81 = .ok (.iconst 3, 1) := by decide +kernel
theorem d1_82 : decode method_2_code 82 = .ok (.newarray .char, 2) := by decide +kernel
theorem d1_84 : decode method_2_code 84 = .ok (.dup, 1) := by decide +kernel
theorem d1_85 : decode method_2_code 85 = .ok (.iconst 0, 1) := by decide +kernel
theorem d1_86 : decode method_2_code 86 = .ok (.iload_n 2, 1) := by decide +kernel
theorem d1_87 : decode method_2_code 87 = .ok (.castore, 1) := by decide +kernel
theorem d1_88 : decode method_2_code 88 = .ok (.dup, 1) := by decide +kernel
theorem d1_89 : decode method_2_code 89 = .ok (.iconst 1, 1) := by decide +kernel
theorem d1_90 : decode method_2_code 90 = .ok (.iload_n 3, 1) := by decide +kernel
theorem d1_91 : decode method_2_code 91 = .ok (.castore, 1) := by decide +kernel
theorem d1_92 : decode method_2_code 92 = .ok (.dup, 1) := by decide +kernel
theorem d1_93 : decode method_2_code 93 = .ok (.iconst 2, 1) := by decide +kernel
theorem d1_94 : decode method_2_code 94 = .ok (.iload 4, 2) := by decide +kernel
theorem d1_96 : decode method_2_code 96 = .ok (.castore, 1) := by decide +kernel
theorem d1_97 : decode method_2_code 97 = .ok (.invokespecial 9, 3) := by decide +kernel
theorem d1_100 : decode method_2_code 100 = .ok (.areturn, 1) := by decide +kernel
def Q_own_draw (Z : State) (G1 : Int32) (G3 : Value) (xx : Int32) (len : Int32) (h0 : Heap) (n0 : Nat) (v : Option Value) (h : Heap) (L : List Loc) : Prop := ∃ (a : Addr), ∃ (t : Addr), ∃ (kb : ClassId), ∃ (N2 : Int32), ∃ (vs : List Value), ∃ (cs : List Int32), v = some (.ref a) ∧ Fr n0 L ∧ Keep h0 h [] ∧ h0.size ≤ a ∧ Exa Z h a "java/lang/String" ∧ Fld Z h a "java/lang/String" "value" "[B" (.ref t) ∧ Fld Z h a "java/lang/String" "coder" "B" (.int (0 : Int32)) ∧ Arv Z h t kb .byte N2 vs (.int 0) ∧ StrChars.Road.CodA cs 0 N2 vs ∧ (∀ z ∈ cs, ¬ z < 0 ∧ ¬ (65535 : Int32) < z) ∧ cs.length ≤ 4000
set_option maxRecDepth 65536 in
set_option maxHeartbeats 40000000 in
theorem own_draw (l : Launch) (Z : State) (a0 : Array Value) (hw : ∀ d ∈ tables_1, d.before a0 Z = true) (ws : List Jvm.Cond) (G1 : Int32) (G3 : Value) (xx : Int32) (len : Int32) (h0 : Heap) (n0 : Nat) (Z0 : n0 ≤ h0.size) (O2 : Sta Z Z.heap "java/lang/String" "COMPACT_STRINGS" "Z" (.int G1)) (O4 : Sta Z Z.heap "jdk/internal/util/Preconditions" "SIOOBE_FORMATTER" "Ljava/util/function/BiFunction;" G3) (P5 : ¬ (G1 = (0 : Int32))) (rG3 : G3.isRef = true) (OLD0 : Old Z n0 h0) :
    MetFree l (⟨"com/example/gangway/gangway/tool/OptionNamePinLaw", "draw", "(II)Ljava/lang/String;"⟩ : MethodName) (head1 (Jvm.Cond.code (⟨"com/example/gangway/gangway/tool/OptionNamePinLaw", "draw", "(II)Ljava/lang/String;"⟩ : MethodName) method_2_code 5 (some (.object "java/lang/String")) :: ws) ({ frames := 4, cells := 6, slots := 12, locals := 66 } : Room)) (fun ag U => ag = #[(.int xx), (.int len)] ∧ Z.Warmed39 U.vm ∧ U.heap = h0 ∧ CHv Z own_EL U.vm h0) (fun _ _ _ _ _ => True) (fun _ U o U' => ∃ v L, o = .returned v ∧ Q_own_draw Z G1 G3 xx len h0 n0 v U'.heap L ∧ CHr Z own_EL U.vm U.heap U'.vm U'.heap ∧ ReturnedEndW U o U' L ({ frames := 4, cells := 6, slots := 12, locals := 66 } : Room).cells ({ frames := 4, cells := 6, slots := 12, locals := 66 } : Room).slots) := by
  refine own_bodyW (plainFor_of_name pn_6) ?_
  intro p e s m below meth c s₁ Bd hml hZ e0 hh0 CH0
  have hx := Bd.exec
  have hby := Bd.bytes
  have hlk : meth.locks = false := BodyLoose.notSynchronized Bd
  have hown : s.vm.findClass "com/example/gangway/gangway/tool/OptionNamePinLaw" = some m.cls := findClass_of_methodNamed Bd.named
  have hnm := (name_of_methodNamed Bd.named Bd.method).1
  have X0 : Stand p l e ({ frames := 4, cells := 6, slots := 12, locals := 66 } : Room) (s.setVm s.vm) m #[(.int xx), (.int len)] below meth c s₁ [] 0 0 := Stand.of_body Bd
  have N0 := Fr.nil n0
  have hS := (State.WarmedH.refl s).since h0.size
  have hk0 : h0.size ≤ h0.size := Nat.le_refl _
  have KP0 : Keep h0 h0 [] := Keep.refl h0 []
  refine own_cast (g' := (mkF m 0 #[.val (.int xx), .val (.int len), .unset, .unset, .unset] [])) (by first | (simp [entryFrame, mkF, argsToLocals, own_cat_int, own_cat_long, own_cat_ref, own_cat_null]; done) | rfl) ?_
  refine own_step (T' := s₁) (g' := (mkF m 1 #[.val (.int xx), .val (.int len), .unset, .unset, .unset] [(.int xx)])) (fun _ q => XS.iloadN X0.here hx rfl (hb hby d1_0) rfl q) ?_
  refine own_step (T' := s₁) (g' := (mkF m 4 #[.val (.int xx), .val (.int len), .unset, .unset, .unset] [(.int (255 : Int32)), (.int xx)])) (fun _ q => XS.sipush X0.here hx rfl (hb hby d1_1) q) ?_
  refine own_step (T' := s₁) (g' := (mkF m 5 #[.val (.int xx), .val (.int len), .unset, .unset, .unset] [(.int (xx &&& (255 : Int32)))])) (fun _ q => XS.iand X0.here hx rfl (hb hby d1_4) rfl q) ?_
  refine own_step (T' := s₁) (g' := (mkF m 6 #[.val (.int xx), .val (.int len), .unset, .unset, .unset] [(.int ((xx &&& (255 : Int32)).toUInt32.toUInt16.toUInt32.toInt32))])) (fun _ q => XT.i2c X0.here hx rfl (hb hby d1_5) rfl q) ?_
  refine own_step (T' := s₁) (g' := (mkF m 7 #[.val (.int xx), .val (.int len), .val (.int ((xx &&& (255 : Int32)).toUInt32.toUInt16.toUInt32.toInt32)), .unset, .unset] [])) (fun _ q => XS.istoreN X0.here hx rfl (hb hby d1_6) rfl (l' := #[.val (.int xx), .val (.int len), .val (.int ((xx &&& (255 : Int32)).toUInt32.toUInt16.toUInt32.toInt32)), .unset, .unset]) rfl q) ?_
  refine own_step (T' := s₁) (g' := (mkF m 8 #[.val (.int xx), .val (.int len), .val (.int ((xx &&& (255 : Int32)).toUInt32.toUInt16.toUInt32.toInt32)), .unset, .unset] [(.int xx)])) (fun _ q => XS.iloadN X0.here hx rfl (hb hby d1_7) rfl q) ?_
  refine own_step (T' := s₁) (g' := (mkF m 10 #[.val (.int xx), .val (.int len), .val (.int ((xx &&& (255 : Int32)).toUInt32.toUInt16.toUInt32.toInt32)), .unset, .unset] [(.int (8 : Int32)), (.int xx)])) (fun _ q => XS.bipush X0.here hx rfl (hb hby d1_8) q) ?_
  refine own_step (T' := s₁) (g' := (mkF m 11 #[.val (.int xx), .val (.int len), .val (.int ((xx &&& (255 : Int32)).toUInt32.toUInt16.toUInt32.toInt32)), .unset, .unset] [(.int (XT.ushr xx (8 : Int32)))])) (fun _ q => XT.iushr X0.here hx rfl (hb hby d1_10) rfl q) ?_
  refine own_step (T' := s₁) (g' := (mkF m 14 #[.val (.int xx), .val (.int len), .val (.int ((xx &&& (255 : Int32)).toUInt32.toUInt16.toUInt32.toInt32)), .unset, .unset] [(.int (255 : Int32)), (.int (XT.ushr xx (8 : Int32)))])) (fun _ q => XS.sipush X0.here hx rfl (hb hby d1_11) q) ?_
  refine own_step (T' := s₁) (g' := (mkF m 15 #[.val (.int xx), .val (.int len), .val (.int ((xx &&& (255 : Int32)).toUInt32.toUInt16.toUInt32.toInt32)), .unset, .unset] [(.int ((XT.ushr xx (8 : Int32)) &&& (255 : Int32)))])) (fun _ q => XS.iand X0.here hx rfl (hb hby d1_14) rfl q) ?_
  refine own_step (T' := s₁) (g' := (mkF m 16 #[.val (.int xx), .val (.int len), .val (.int ((xx &&& (255 : Int32)).toUInt32.toUInt16.toUInt32.toInt32)), .unset, .unset] [(.int (((XT.ushr xx (8 : Int32)) &&& (255 : Int32)).toUInt32.toUInt16.toUInt32.toInt32))])) (fun _ q => XT.i2c X0.here hx rfl (hb hby d1_15) rfl q) ?_
  refine own_step (T' := s₁) (g' := (mkF m 17 #[.val (.int xx), .val (.int len), .val (.int ((xx &&& (255 : Int32)).toUInt32.toUInt16.toUInt32.toInt32)), .val (.int (((XT.ushr xx (8 : Int32)) &&& (255 : Int32)).toUInt32.toUInt16.toUInt32.toInt32)), .unset] [])) (fun _ q => XS.istoreN X0.here hx rfl (hb hby d1_16) rfl (l' := #[.val (.int xx), .val (.int len), .val (.int ((xx &&& (255 : Int32)).toUInt32.toUInt16.toUInt32.toInt32)), .val (.int (((XT.ushr xx (8 : Int32)) &&& (255 : Int32)).toUInt32.toUInt16.toUInt32.toInt32)), .unset]) rfl q) ?_
  refine own_step (T' := s₁) (g' := (mkF m 18 #[.val (.int xx), .val (.int len), .val (.int ((xx &&& (255 : Int32)).toUInt32.toUInt16.toUInt32.toInt32)), .val (.int (((XT.ushr xx (8 : Int32)) &&& (255 : Int32)).toUInt32.toUInt16.toUInt32.toInt32)), .unset] [(.int xx)])) (fun _ q => XS.iloadN X0.here hx rfl (hb hby d1_17) rfl q) ?_
  refine own_step (T' := s₁) (g' := (mkF m 20 #[.val (.int xx), .val (.int len), .val (.int ((xx &&& (255 : Int32)).toUInt32.toUInt16.toUInt32.toInt32)), .val (.int (((XT.ushr xx (8 : Int32)) &&& (255 : Int32)).toUInt32.toUInt16.toUInt32.toInt32)), .unset] [(.int (16 : Int32)), (.int xx)])) (fun _ q => XS.bipush X0.here hx rfl (hb hby d1_18) q) ?_
  refine own_step (T' := s₁) (g' := (mkF m 21 #[.val (.int xx), .val (.int len), .val (.int ((xx &&& (255 : Int32)).toUInt32.toUInt16.toUInt32.toInt32)), .val (.int (((XT.ushr xx (8 : Int32)) &&& (255 : Int32)).toUInt32.toUInt16.toUInt32.toInt32)), .unset] [(.int (XT.ushr xx (16 : Int32)))])) (fun _ q => XT.iushr X0.here hx rfl (hb hby d1_20) rfl q) ?_
  refine own_step (T' := s₁) (g' := (mkF m 24 #[.val (.int xx), .val (.int len), .val (.int ((xx &&& (255 : Int32)).toUInt32.toUInt16.toUInt32.toInt32)), .val (.int (((XT.ushr xx (8 : Int32)) &&& (255 : Int32)).toUInt32.toUInt16.toUInt32.toInt32)), .unset] [(.int (255 : Int32)), (.int (XT.ushr xx (16 : Int32)))])) (fun _ q => XS.sipush X0.here hx rfl (hb hby d1_21) q) ?_
  refine own_step (T' := s₁) (g' := (mkF m 25 #[.val (.int xx), .val (.int len), .val (.int ((xx &&& (255 : Int32)).toUInt32.toUInt16.toUInt32.toInt32)), .val (.int (((XT.ushr xx (8 : Int32)) &&& (255 : Int32)).toUInt32.toUInt16.toUInt32.toInt32)), .unset] [(.int ((XT.ushr xx (16 : Int32)) &&& (255 : Int32)))])) (fun _ q => XS.iand X0.here hx rfl (hb hby d1_24) rfl q) ?_
  refine own_step (T' := s₁) (g' := (mkF m 26 #[.val (.int xx), .val (.int len), .val (.int ((xx &&& (255 : Int32)).toUInt32.toUInt16.toUInt32.toInt32)), .val (.int (((XT.ushr xx (8 : Int32)) &&& (255 : Int32)).toUInt32.toUInt16.toUInt32.toInt32)), .unset] [(.int (((XT.ushr xx (16 : Int32)) &&& (255 : Int32)).toUInt32.toUInt16.toUInt32.toInt32))])) (fun _ q => XT.i2c X0.here hx rfl (hb hby d1_25) rfl q) ?_
  refine own_step (T' := s₁) (g' := (mkF m 28 #[.val (.int xx), .val (.int len), .val (.int ((xx &&& (255 : Int32)).toUInt32.toUInt16.toUInt32.toInt32)), .val (.int (((XT.ushr xx (8 : Int32)) &&& (255 : Int32)).toUInt32.toUInt16.toUInt32.toInt32)), .val (.int (((XT.ushr xx (16 : Int32)) &&& (255 : Int32)).toUInt32.toUInt16.toUInt32.toInt32))] [])) (fun _ q => XS.istore X0.here hx rfl (hb hby d1_26) rfl (l' := #[.val (.int xx), .val (.int len), .val (.int ((xx &&& (255 : Int32)).toUInt32.toUInt16.toUInt32.toInt32)), .val (.int (((XT.ushr xx (8 : Int32)) &&& (255 : Int32)).toUInt32.toUInt16.toUInt32.toInt32)), .val (.int (((XT.ushr xx (16 : Int32)) &&& (255 : Int32)).toUInt32.toUInt16.toUInt32.toInt32))]) rfl q) ?_
  refine own_step (T' := s₁) (g' := (mkF m 29 #[.val (.int xx), .val (.int len), .val (.int ((xx &&& (255 : Int32)).toUInt32.toUInt16.toUInt32.toInt32)), .val (.int (((XT.ushr xx (8 : Int32)) &&& (255 : Int32)).toUInt32.toUInt16.toUInt32.toInt32)), .val (.int (((XT.ushr xx (16 : Int32)) &&& (255 : Int32)).toUInt32.toUInt16.toUInt32.toInt32))] [(.int len)])) (fun _ q => XS.iloadN X0.here hx rfl (hb hby d1_28) rfl q) ?_
  by_cases hc84 : len = 0
  · refine own_step (T' := s₁) (g' := (mkF m 32 #[.val (.int xx), .val (.int len), .val (.int ((xx &&& (255 : Int32)).toUInt32.toUInt16.toUInt32.toInt32)), .val (.int (((XT.ushr xx (8 : Int32)) &&& (255 : Int32)).toUInt32.toUInt16.toUInt32.toInt32)), .val (.int (((XT.ushr xx (16 : Int32)) &&& (255 : Int32)).toUInt32.toUInt16.toUInt32.toInt32))] [])) (fun _ q => XS.ifNo X0.here hx rfl (hb hby d1_29) rfl (XT.i0_ne_f hc84) q) ?_
    obtain ⟨T85, h85, X85, e85, E85, A85, D85, -, st85⟩ := newO X0 hx hZ hown (w4 hw) (w5 hw) (w6 hw) e0 (g := (mkF m 32 #[.val (.int xx), .val (.int len), .val (.int ((xx &&& (255 : Int32)).toUInt32.toUInt16.toUInt32.toInt32)), .val (.int (((XT.ushr xx (8 : Int32)) &&& (255 : Int32)).toUInt32.toUInt16.toUInt32.toInt32)), .val (.int (((XT.ushr xx (16 : Int32)) &&& (255 : Int32)).toUInt32.toUInt16.toUInt32.toInt32))] [])) rfl (hb hby d1_32) (by first | decide | (dsimp only; omega)) (by first | decide | (dsimp only; omega))
    obtain ⟨b85, g85⟩ : ∃ z, z = h0.size := ⟨_, rfl⟩
    rw [← g85] at A85 D85 st85
    have n0_86 : n0 ≤ b85 := Nat.le_trans Z0 (Nat.le_of_eq g85.symm)
    have sz0_87 := Nat.le_trans KP0.1 (Nat.le_of_eq g85.symm)
    have sf88 : Safe Z own_EL _ _ b85 := Safe.new (EL := own_EL) (Z := Z) (vm := s.vm) (Nat.le_of_eq g85.symm)
    have CH89 := CH0.trans (CHr.ext E85 CH0.1)
    have ltb85 := A85.lt
    have F90 : Fld Z h85 b85 "java/lang/String" "value" "[B" .null := D85 (Or.inr (w20 hw)) (ty := (.array .byte)) (by decide)
    have F91 : Fld Z h85 b85 "java/lang/String" "coder" "B" (.int (0 : Int32)) := D85 (Or.inr (w21 hw)) (ty := .byte) (by decide)
    refine own_step (T' := T85) (g' := (mkF m 35 #[.val (.int xx), .val (.int len), .val (.int ((xx &&& (255 : Int32)).toUInt32.toUInt16.toUInt32.toInt32)), .val (.int (((XT.ushr xx (8 : Int32)) &&& (255 : Int32)).toUInt32.toUInt16.toUInt32.toInt32)), .val (.int (((XT.ushr xx (16 : Int32)) &&& (255 : Int32)).toUInt32.toUInt16.toUInt32.toInt32))] [(.ref b85)])) st85 ?_
    refine own_step (T' := T85) (g' := (mkF m 36 #[.val (.int xx), .val (.int len), .val (.int ((xx &&& (255 : Int32)).toUInt32.toUInt16.toUInt32.toInt32)), .val (.int (((XT.ushr xx (8 : Int32)) &&& (255 : Int32)).toUInt32.toUInt16.toUInt32.toInt32)), .val (.int (((XT.ushr xx (16 : Int32)) &&& (255 : Int32)).toUInt32.toUInt16.toUInt32.toInt32))] [(.ref b85), (.ref b85)])) (fun _ q => XS.dup X85.here hx rfl (hb hby d1_35) rfl rfl q) ?_
    refine own_step (T' := T85) (g' := (mkF m 37 #[.val (.int xx), .val (.int len), .val (.int ((xx &&& (255 : Int32)).toUInt32.toUInt16.toUInt32.toInt32)), .val (.int (((XT.ushr xx (8 : Int32)) &&& (255 : Int32)).toUInt32.toUInt16.toUInt32.toInt32)), .val (.int (((XT.ushr xx (16 : Int32)) &&& (255 : Int32)).toUInt32.toUInt16.toUInt32.toInt32))] [(.int (0 : Int32)), (.ref b85), (.ref b85)])) (fun _ q => XS.iconst X85.here hx rfl (hb hby d1_36) q) ?_
    obtain ⟨T92, h92, k92, X92, e92, E92, A92, st92⟩ := newP X85 hx hZ (aty := .char) (w7 hw) e85 (g := (mkF m 37 #[.val (.int xx), .val (.int len), .val (.int ((xx &&& (255 : Int32)).toUInt32.toUInt16.toUInt32.toInt32)), .val (.int (((XT.ushr xx (8 : Int32)) &&& (255 : Int32)).toUInt32.toUInt16.toUInt32.toInt32)), .val (.int (((XT.ushr xx (16 : Int32)) &&& (255 : Int32)).toUInt32.toUInt16.toUInt32.toInt32))] [(.int (0 : Int32)), (.ref b85), (.ref b85)])) rfl (hb hby d1_37) rfl (by decide) (cap := 0) (by decide) (by first | decide | omega) (by first | decide | (dsimp only; omega)) (by first | decide | (dsimp only; omega))
    obtain ⟨b92, g92⟩ : ∃ z, z = h85.size := ⟨_, rfl⟩
    rw [← g92] at A92 st92
    have c93 := (Nat.le_trans Z0 E85.1)
    have n0_94 : n0 ≤ b92 := Nat.le_trans c93 (Nat.le_of_eq g92.symm)
    have c95 := (KP0.ext E85)
    have sz0_96 := Nat.le_trans c95.1 (Nat.le_of_eq g92.symm)
    have ne97 : b85 ≠ b92 := own_ne ltb85 (Nat.le_of_eq g92.symm)
    have sf98 : Safe Z own_EL _ _ b92 := Safe.new (EL := own_EL) (Z := Z) (vm := s.vm) (Nat.le_of_eq g92.symm)
    have CH99 := CH89.trans (CHr.ext E92 CH89.1)
    have V92 : Arv Z h92 b92 k92 .char (0 : Int32) [] (.int (0 : Int32)) := (Arv.new A92 (by decide)).pad (pad_rep [] (.int (0 : Int32)) 0)
    have ltb92 := V92.lt
    refine own_step (T' := T92) (g' := (mkF m 39 #[.val (.int xx), .val (.int len), .val (.int ((xx &&& (255 : Int32)).toUInt32.toUInt16.toUInt32.toInt32)), .val (.int (((XT.ushr xx (8 : Int32)) &&& (255 : Int32)).toUInt32.toUInt16.toUInt32.toInt32)), .val (.int (((XT.ushr xx (16 : Int32)) &&& (255 : Int32)).toUInt32.toUInt16.toUInt32.toInt32))] [(.ref b92), (.ref b85), (.ref b85)])) st92 ?_
    have c100 := ((OLD0.ext E85).ext E92)
    have c101 := (A85.ext E92)
    have c102 := (F90.ext E92)
    have c103 := (F91.ext E92)
    have c104 := (Nat.le_trans c93 E92.1)
    have c106 := (Nat.le_trans (Nat.le_trans hk0 E85.1) E92.1)
    refine own_callCW X92 hx hZ hown hS c106 rfl (w8 hw) (w9 hw) (w10 hw) (by decide) (backOfSH (W := 1) (own_new1e l Z a0 hw [] G1 G3 b85 b92 k92 (.int (0 : Int32)) h92 n0 c104 O2 O4 P5 rG3 c100 c101 n0_86 c102 c103 V92) hZ (w10 hw) (w6 hw) (Nat.le_of_ble_eq_true rfl) (Nat.le_of_ble_eq_true rfl) (own_hEL hw) CH99.1) e92  (by first | decide | (dsimp only; omega)) (by first | decide | (dsimp only; omega)) (g := (mkF m 39 #[.val (.int xx), .val (.int len), .val (.int ((xx &&& (255 : Int32)).toUInt32.toUInt16.toUInt32.toInt32)), .val (.int (((XT.ushr xx (8 : Int32)) &&& (255 : Int32)).toUInt32.toUInt16.toUInt32.toInt32)), .val (.int (((XT.ushr xx (16 : Int32)) &&& (255 : Int32)).toUInt32.toUInt16.toUInt32.toInt32))] [(.ref b92), (.ref b85), (.ref b85)])) (argsL := [(.ref b92)]) (rest := [(.ref b85)]) rfl (by rw [hml]; rfl) (lenOf pd_5 rfl) rfl rfl (by show 2 * 0 + _ ≤ _; exact Nat.le_of_eq rfl) (hb hby d1_39) ?_
    rintro _ T105 L105 X105 hS hZ hown C105 ⟨t105, kb105, rfl, N105q, K105, f0_105, f1_105, f2_105, f3_105⟩
    have CH107 := CH99.trans C105
    have lt108 := f3_105.lt
    have N109 := Fr.app N0 N105q
    show own_Fin p e below _ T105 (mkF m 42 #[.val (.int xx), .val (.int len), .val (.int ((xx &&& (255 : Int32)).toUInt32.toUInt16.toUInt32.toInt32)), .val (.int (((XT.ushr xx (8 : Int32)) &&& (255 : Int32)).toUInt32.toUInt16.toUInt32.toInt32)), .val (.int (((XT.ushr xx (16 : Int32)) &&& (255 : Int32)).toUInt32.toUInt16.toUInt32.toInt32))] [(.ref b85)])
    have c110 := ((c95.ext E92).trans K105 (allS (Or.inr sz0_87) all0))
    exact own_retAW X105 hx hZ (own_hEL hw) hS (Nat.le_refl _) CH107 Bd.returns rfl rfl (hb hby d1_42) hlk ⟨b85, t105, kb105, (0 : Int32), [], ([] : List Int32), rfl, N109, c110, sz0_87, f0_105, f1_105, f2_105, f3_105, (Or.inl ⟨rfl, rfl, rfl, own_all0⟩), ⟨own_all0, by decide⟩⟩ (by first | decide | (dsimp only; omega)) (by first | decide | (dsimp only; omega))
  · refine own_step (T' := s₁) (g' := (mkF m 43 #[.val (.int xx), .val (.int len), .val (.int ((xx &&& (255 : Int32)).toUInt32.toUInt16.toUInt32.toInt32)), .val (.int (((XT.ushr xx (8 : Int32)) &&& (255 : Int32)).toUInt32.toUInt16.toUInt32.toInt32)), .val (.int (((XT.ushr xx (16 : Int32)) &&& (255 : Int32)).toUInt32.toUInt16.toUInt32.toInt32))] [])) (fun _ q => XS.ifYes X0.here hx rfl (pc0 := 29) (pc' := 43) rfl (hb hby d1_29) rfl (XT.i0_ne_t hc84) (by decide) (by decide) q) ?_
    refine own_step (T' := s₁) (g' := (mkF m 44 #[.val (.int xx), .val (.int len), .val (.int ((xx &&& (255 : Int32)).toUInt32.toUInt16.toUInt32.toInt32)), .val (.int (((XT.ushr xx (8 : Int32)) &&& (255 : Int32)).toUInt32.toUInt16.toUInt32.toInt32)), .val (.int (((XT.ushr xx (16 : Int32)) &&& (255 : Int32)).toUInt32.toUInt16.toUInt32.toInt32))] [(.int len)])) (fun _ q => XS.iloadN X0.here hx rfl (hb hby d1_43) rfl q) ?_
    refine own_step (T' := s₁) (g' := (mkF m 45 #[.val (.int xx), .val (.int len), .val (.int ((xx &&& (255 : Int32)).toUInt32.toUInt16.toUInt32.toInt32)), .val (.int (((XT.ushr xx (8 : Int32)) &&& (255 : Int32)).toUInt32.toUInt16.toUInt32.toInt32)), .val (.int (((XT.ushr xx (16 : Int32)) &&& (255 : Int32)).toUInt32.toUInt16.toUInt32.toInt32))] [(.int (1 : Int32)), (.int len)])) (fun _ q => XS.iconst X0.here hx rfl (hb hby d1_44) q) ?_
    by_cases hc111 : len = (1 : Int32)
    · refine own_step (T' := s₁) (g' := (mkF m 48 #[.val (.int xx), .val (.int len), .val (.int ((xx &&& (255 : Int32)).toUInt32.toUInt16.toUInt32.toInt32)), .val (.int (((XT.ushr xx (8 : Int32)) &&& (255 : Int32)).toUInt32.toUInt16.toUInt32.toInt32)), .val (.int (((XT.ushr xx (16 : Int32)) &&& (255 : Int32)).toUInt32.toUInt16.toUInt32.toInt32))] [])) (fun _ q => XS.icmpNo X0.here hx rfl (hb hby d1_45) rfl (XT.ii_ne_f hc111) q) ?_
      refine own_step (T' := s₁) (g' := (mkF m 49 #[.val (.int xx), .val (.int len), .val (.int ((xx &&& (255 : Int32)).toUInt32.toUInt16.toUInt32.toInt32)), .val (.int (((XT.ushr xx (8 : Int32)) &&& (255 : Int32)).toUInt32.toUInt16.toUInt32.toInt32)), .val (.int (((XT.ushr xx (16 : Int32)) &&& (255 : Int32)).toUInt32.toUInt16.toUInt32.toInt32))] [(.int ((xx &&& (255 : Int32)).toUInt32.toUInt16.toUInt32.toInt32))])) (fun _ q => XS.iloadN X0.here hx rfl (hb hby d1_48) rfl q) ?_
      refine own_callS X0 hx hZ hown (w109 hw) (w110 hw) (w6 hw) (w111 hw) (by decide) (backOf (W := 0) (own_vof l Z a0 hw [] G1 G3 ((xx &&& (255 : Int32)).toUInt32.toUInt16.toUInt32.toInt32) h0 n0 Z0 O2 O4 P5 rG3 OLD0 ((own_c255 _).2 : ¬ (255 : Int32) < ((xx &&& (255 : Int32)).toUInt32.toUInt16.toUInt32.toInt32))) hZ (w111 hw) (w6 hw) (Nat.le_of_ble_eq_true rfl) (Nat.le_of_ble_eq_true rfl)) e0  (by first | decide | (dsimp only; omega)) (by first | decide | (dsimp only; omega)) (g := (mkF m 49 #[.val (.int xx), .val (.int len), .val (.int ((xx &&& (255 : Int32)).toUInt32.toUInt16.toUInt32.toInt32)), .val (.int (((XT.ushr xx (8 : Int32)) &&& (255 : Int32)).toUInt32.toUInt16.toUInt32.toInt32)), .val (.int (((XT.ushr xx (16 : Int32)) &&& (255 : Int32)).toUInt32.toUInt16.toUInt32.toInt32))] [(.int ((xx &&& (255 : Int32)).toUInt32.toUInt16.toUInt32.toInt32))])) (argsL := [(.int ((xx &&& (255 : Int32)).toUInt32.toUInt16.toUInt32.toInt32))]) (rest := []) rfl (by rw [hml]; rfl) (lenOf pd_6 rfl) rfl rfl (by show 2 * 0 + _ ≤ _; exact Nat.le_of_eq rfl) (hb hby d1_49) ?_
      rintro _ T112 L112 X112 ⟨a112, t112, kb112, rfl, N112q, K112, f0_112, f1_112, f2_112, f3_112, f4_112, f5_112⟩
      have n0_113 : n0 ≤ a112 := Nat.le_trans Z0 f0_112
      have sz0_114 := Nat.le_trans KP0.1 f0_112
      have sf115 : Safe Z own_EL _ _ a112 := Safe.new (EL := own_EL) (Z := Z) (vm := s.vm) f0_112
      have n0_116 : n0 ≤ t112 := Nat.le_trans Z0 f1_112
      have sz0_117 := Nat.le_trans KP0.1 f1_112
      have sf118 : Safe Z own_EL _ _ t112 := Safe.new (EL := own_EL) (Z := Z) (vm := s.vm) f1_112
      have CH119 := CH0.trans (CHr.keep K112 sf0 CH0.1)
      have lt120 := f2_112.lt
      have lt121 := f5_112.lt
      have N122 := Fr.app N0 N112q
      show own_Fin p e below _ T112 (mkF m 52 #[.val (.int xx), .val (.int len), .val (.int ((xx &&& (255 : Int32)).toUInt32.toUInt16.toUInt32.toInt32)), .val (.int (((XT.ushr xx (8 : Int32)) &&& (255 : Int32)).toUInt32.toUInt16.toUInt32.toInt32)), .val (.int (((XT.ushr xx (16 : Int32)) &&& (255 : Int32)).toUInt32.toUInt16.toUInt32.toInt32))] [(.ref a112)])
      have c123 := (KP0.trans K112 all0)
      have c124 := (Nat.le_trans hk0 K112.1)
      exact own_retAW X112 hx hZ (own_hEL hw) hS c124 CH119 Bd.returns rfl rfl (hb hby d1_52) hlk ⟨a112, t112, kb112, (1 : Int32), [(.int (StrChars.lo8 ((xx &&& (255 : Int32)).toUInt32.toUInt16.toUInt32.toInt32)))], [((xx &&& (255 : Int32)).toUInt32.toUInt16.toUInt32.toInt32)], rfl, N122, c123, sz0_114, f2_112, f3_112, f4_112, f5_112, (Or.inl ⟨rfl, rfl, rfl, own_allS (own_c255 xx).2 own_all0⟩), ⟨own_up _ (own_allS (own_c255 xx) own_all0), Nat.le_of_ble_eq_true rfl⟩⟩ (by first | decide | (dsimp only; omega)) (by first | decide | (dsimp only; omega))
    · refine own_step (T' := s₁) (g' := (mkF m 53 #[.val (.int xx), .val (.int len), .val (.int ((xx &&& (255 : Int32)).toUInt32.toUInt16.toUInt32.toInt32)), .val (.int (((XT.ushr xx (8 : Int32)) &&& (255 : Int32)).toUInt32.toUInt16.toUInt32.toInt32)), .val (.int (((XT.ushr xx (16 : Int32)) &&& (255 : Int32)).toUInt32.toUInt16.toUInt32.toInt32))] [])) (fun _ q => XS.icmpYes X0.here hx rfl (pc0 := 45) (pc' := 53) rfl (hb hby d1_45) rfl (XT.ii_ne_t hc111) (by decide) (by decide) q) ?_
      refine own_step (T' := s₁) (g' := (mkF m 54 #[.val (.int xx), .val (.int len), .val (.int ((xx &&& (255 : Int32)).toUInt32.toUInt16.toUInt32.toInt32)), .val (.int (((XT.ushr xx (8 : Int32)) &&& (255 : Int32)).toUInt32.toUInt16.toUInt32.toInt32)), .val (.int (((XT.ushr xx (16 : Int32)) &&& (255 : Int32)).toUInt32.toUInt16.toUInt32.toInt32))] [(.int len)])) (fun _ q => XS.iloadN X0.here hx rfl (hb hby d1_53) rfl q) ?_
      refine own_step (T' := s₁) (g' := (mkF m 55 #[.val (.int xx), .val (.int len), .val (.int ((xx &&& (255 : Int32)).toUInt32.toUInt16.toUInt32.toInt32)), .val (.int (((XT.ushr xx (8 : Int32)) &&& (255 : Int32)).toUInt32.toUInt16.toUInt32.toInt32)), .val (.int (((XT.ushr xx (16 : Int32)) &&& (255 : Int32)).toUInt32.toUInt16.toUInt32.toInt32))] [(.int (2 : Int32)), (.int len)])) (fun _ q => XS.iconst X0.here hx rfl (hb hby d1_54) q) ?_
      by_cases hc125 : len = (2 : Int32)
      · refine own_step (T' := s₁) (g' := (mkF m 58 #[.val (.int xx), .val (.int len), .val (.int ((xx &&& (255 : Int32)).toUInt32.toUInt16.toUInt32.toInt32)), .val (.int (((XT.ushr xx (8 : Int32)) &&& (255 : Int32)).toUInt32.toUInt16.toUInt32.toInt32)), .val (.int (((XT.ushr xx (16 : Int32)) &&& (255 : Int32)).toUInt32.toUInt16.toUInt32.toInt32))] [])) (fun _ q => XS.icmpNo X0.here hx rfl (hb hby d1_55) rfl (XT.ii_ne_f hc125) q) ?_
        obtain ⟨T126, h126, X126, e126, E126, A126, D126, -, st126⟩ := newO X0 hx hZ hown (w4 hw) (w5 hw) (w6 hw) e0 (g := (mkF m 58 #[.val (.int xx), .val (.int len), .val (.int ((xx &&& (255 : Int32)).toUInt32.toUInt16.toUInt32.toInt32)), .val (.int (((XT.ushr xx (8 : Int32)) &&& (255 : Int32)).toUInt32.toUInt16.toUInt32.toInt32)), .val (.int (((XT.ushr xx (16 : Int32)) &&& (255 : Int32)).toUInt32.toUInt16.toUInt32.toInt32))] [])) rfl (hb hby d1_58) (by first | decide | (dsimp only; omega)) (by first | decide | (dsimp only; omega))
        obtain ⟨b126, g126⟩ : ∃ z, z = h0.size := ⟨_, rfl⟩
        rw [← g126] at A126 D126 st126
        have n0_127 : n0 ≤ b126 := Nat.le_trans Z0 (Nat.le_of_eq g126.symm)
        have sz0_128 := Nat.le_trans KP0.1 (Nat.le_of_eq g126.symm)
        have sf129 : Safe Z own_EL _ _ b126 := Safe.new (EL := own_EL) (Z := Z) (vm := s.vm) (Nat.le_of_eq g126.symm)
        have CH130 := CH0.trans (CHr.ext E126 CH0.1)
        have ltb126 := A126.lt
        have F131 : Fld Z h126 b126 "java/lang/String" "value" "[B" .null := D126 (Or.inr (w20 hw)) (ty := (.array .byte)) (by decide)
        have F132 : Fld Z h126 b126 "java/lang/String" "coder" "B" (.int (0 : Int32)) := D126 (Or.inr (w21 hw)) (ty := .byte) (by decide)
        refine own_step (T' := T126) (g' := (mkF m 61 #[.val (.int xx), .val (.int len), .val (.int ((xx &&& (255 : Int32)).toUInt32.toUInt16.toUInt32.toInt32)), .val (.int (((XT.ushr xx (8 : Int32)) &&& (255 : Int32)).toUInt32.toUInt16.toUInt32.toInt32)), .val (.int (((XT.ushr xx (16 : Int32)) &&& (255 : Int32)).toUInt32.toUInt16.toUInt32.toInt32))] [(.ref b126)])) st126 ?_
        refine own_step (T' := T126) (g' := (mkF m 62 #[.val (.int xx), .val (.int len), .val (.int ((xx &&& (255 : Int32)).toUInt32.toUInt16.toUInt32.toInt32)), .val (.int (((XT.ushr xx (8 : Int32)) &&& (255 : Int32)).toUInt32.toUInt16.toUInt32.toInt32)), .val (.int (((XT.ushr xx (16 : Int32)) &&& (255 : Int32)).toUInt32.toUInt16.toUInt32.toInt32))] [(.ref b126), (.ref b126)])) (fun _ q => XS.dup X126.here hx rfl (hb hby d1_61) rfl rfl q) ?_
        refine own_step (T' := T126) (g' := (mkF m 63 #[.val (.int xx), .val (.int len), .val (.int ((xx &&& (255 : Int32)).toUInt32.toUInt16.toUInt32.toInt32)), .val (.int (((XT.ushr xx (8 : Int32)) &&& (255 : Int32)).toUInt32.toUInt16.toUInt32.toInt32)), .val (.int (((XT.ushr xx (16 : Int32)) &&& (255 : Int32)).toUInt32.toUInt16.toUInt32.toInt32))] [(.int (2 : Int32)), (.ref b126), (.ref b126)])) (fun _ q => XS.iconst X126.here hx rfl (hb hby d1_62) q) ?_
        obtain ⟨T133, h133, k133, X133, e133, E133, A133, st133⟩ := newP X126 hx hZ (aty := .char) (w7 hw) e126 (g := (mkF m 63 #[.val (.int xx), .val (.int len), .val (.int ((xx &&& (255 : Int32)).toUInt32.toUInt16.toUInt32.toInt32)), .val (.int (((XT.ushr xx (8 : Int32)) &&& (255 : Int32)).toUInt32.toUInt16.toUInt32.toInt32)), .val (.int (((XT.ushr xx (16 : Int32)) &&& (255 : Int32)).toUInt32.toUInt16.toUInt32.toInt32))] [(.int (2 : Int32)), (.ref b126), (.ref b126)])) rfl (hb hby d1_63) rfl (by decide) (cap := 2) (by decide) (by first | decide | omega) (by first | decide | (dsimp only; omega)) (by first | decide | (dsimp only; omega))
        obtain ⟨b133, g133⟩ : ∃ z, z = h126.size := ⟨_, rfl⟩
        rw [← g133] at A133 st133
        have c134 := (Nat.le_trans Z0 E126.1)
        have n0_135 : n0 ≤ b133 := Nat.le_trans c134 (Nat.le_of_eq g133.symm)
        have c136 := (KP0.ext E126)
        have sz0_137 := Nat.le_trans c136.1 (Nat.le_of_eq g133.symm)
        have ne138 : b126 ≠ b133 := own_ne ltb126 (Nat.le_of_eq g133.symm)
        have sf139 : Safe Z own_EL _ _ b133 := Safe.new (EL := own_EL) (Z := Z) (vm := s.vm) (Nat.le_of_eq g133.symm)
        have CH140 := CH130.trans (CHr.ext E133 CH130.1)
        have V133 : Arv Z h133 b133 k133 .char (2 : Int32) [(.int (0 : Int32)), (.int (0 : Int32))] (.int (0 : Int32)) := (Arv.new A133 (by decide)).pad (pad_rep [] (.int (0 : Int32)) 2)
        have ltb133 := V133.lt
        refine own_step (T' := T133) (g' := (mkF m 65 #[.val (.int xx), .val (.int len), .val (.int ((xx &&& (255 : Int32)).toUInt32.toUInt16.toUInt32.toInt32)), .val (.int (((XT.ushr xx (8 : Int32)) &&& (255 : Int32)).toUInt32.toUInt16.toUInt32.toInt32)), .val (.int (((XT.ushr xx (16 : Int32)) &&& (255 : Int32)).toUInt32.toUInt16.toUInt32.toInt32))] [(.ref b133), (.ref b126), (.ref b126)])) st133 ?_
        refine own_step (T' := T133) (g' := (mkF m 66 #[.val (.int xx), .val (.int len), .val (.int ((xx &&& (255 : Int32)).toUInt32.toUInt16.toUInt32.toInt32)), .val (.int (((XT.ushr xx (8 : Int32)) &&& (255 : Int32)).toUInt32.toUInt16.toUInt32.toInt32)), .val (.int (((XT.ushr xx (16 : Int32)) &&& (255 : Int32)).toUInt32.toUInt16.toUInt32.toInt32))] [(.ref b133), (.ref b133), (.ref b126), (.ref b126)])) (fun _ q => XS.dup X133.here hx rfl (hb hby d1_65) rfl rfl q) ?_
        refine own_step (T' := T133) (g' := (mkF m 67 #[.val (.int xx), .val (.int len), .val (.int ((xx &&& (255 : Int32)).toUInt32.toUInt16.toUInt32.toInt32)), .val (.int (((XT.ushr xx (8 : Int32)) &&& (255 : Int32)).toUInt32.toUInt16.toUInt32.toInt32)), .val (.int (((XT.ushr xx (16 : Int32)) &&& (255 : Int32)).toUInt32.toUInt16.toUInt32.toInt32))] [(.int (0 : Int32)), (.ref b133), (.ref b133), (.ref b126), (.ref b126)])) (fun _ q => XS.iconst X133.here hx rfl (hb hby d1_66) q) ?_
        refine own_step (T' := T133) (g' := (mkF m 68 #[.val (.int xx), .val (.int len), .val (.int ((xx &&& (255 : Int32)).toUInt32.toUInt16.toUInt32.toInt32)), .val (.int (((XT.ushr xx (8 : Int32)) &&& (255 : Int32)).toUInt32.toUInt16.toUInt32.toInt32)), .val (.int (((XT.ushr xx (16 : Int32)) &&& (255 : Int32)).toUInt32.toUInt16.toUInt32.toInt32))] [(.int ((xx &&& (255 : Int32)).toUInt32.toUInt16.toUInt32.toInt32)), (.int (0 : Int32)), (.ref b133), (.ref b133), (.ref b126), (.ref b126)])) (fun _ q => XS.iloadN X133.here hx rfl (hb hby d1_67) rfl q) ?_
        obtain ⟨T141, h141, X141, e141, W141, V141, st141⟩ := own_stC X133 hx hZ e133 V133 (j := (0 : Int32)) ⟨by decide, by decide⟩ (i := 0) rfl (Nat.le_of_ble_eq_true rfl) (g := (mkF m 68 #[.val (.int xx), .val (.int len), .val (.int ((xx &&& (255 : Int32)).toUInt32.toUInt16.toUInt32.toInt32)), .val (.int (((XT.ushr xx (8 : Int32)) &&& (255 : Int32)).toUInt32.toUInt16.toUInt32.toInt32)), .val (.int (((XT.ushr xx (16 : Int32)) &&& (255 : Int32)).toUInt32.toUInt16.toUInt32.toInt32))] [(.int ((xx &&& (255 : Int32)).toUInt32.toUInt16.toUInt32.toInt32)), (.int (0 : Int32)), (.ref b133), (.ref b133), (.ref b126), (.ref b126)])) rfl rfl (hb hby d1_68)
        replace V141 : Arv Z h141 b133 k133 .char (2 : Int32) [(.int (nar .char ((xx &&& (255 : Int32)).toUInt32.toUInt16.toUInt32.toInt32))), (.int (0 : Int32))] (.int (0 : Int32)) := V141
        have N142 := Fr.snoc X141 N0 n0_135
        have c144 := (Safe.ext E133 CH130.1 sf139)
        have CH143 := CH140.trans (CHr.wr W141 c144 CH140.1)
        refine own_step (T' := T141) (g' := (mkF m 69 #[.val (.int xx), .val (.int len), .val (.int ((xx &&& (255 : Int32)).toUInt32.toUInt16.toUInt32.toInt32)), .val (.int (((XT.ushr xx (8 : Int32)) &&& (255 : Int32)).toUInt32.toUInt16.toUInt32.toInt32)), .val (.int (((XT.ushr xx (16 : Int32)) &&& (255 : Int32)).toUInt32.toUInt16.toUInt32.toInt32))] [(.ref b133), (.ref b126), (.ref b126)])) st141 ?_
        refine own_step (T' := T141) (g' := (mkF m 70 #[.val (.int xx), .val (.int len), .val (.int ((xx &&& (255 : Int32)).toUInt32.toUInt16.toUInt32.toInt32)), .val (.int (((XT.ushr xx (8 : Int32)) &&& (255 : Int32)).toUInt32.toUInt16.toUInt32.toInt32)), .val (.int (((XT.ushr xx (16 : Int32)) &&& (255 : Int32)).toUInt32.toUInt16.toUInt32.toInt32))] [(.ref b133), (.ref b133), (.ref b126), (.ref b126)])) (fun _ q => XS.dup X141.here hx rfl (hb hby d1_69) rfl rfl q) ?_
        refine own_step (T' := T141) (g' := (mkF m 71 #[.val (.int xx), .val (.int len), .val (.int ((xx &&& (255 : Int32)).toUInt32.toUInt16.toUInt32.toInt32)), .val (.int (((XT.ushr xx (8 : Int32)) &&& (255 : Int32)).toUInt32.toUInt16.toUInt32.toInt32)), .val (.int (((XT.ushr xx (16 : Int32)) &&& (255 : Int32)).toUInt32.toUInt16.toUInt32.toInt32))] [(.int (1 : Int32)), (.ref b133), (.ref b133), (.ref b126), (.ref b126)])) (fun _ q => XS.iconst X141.here hx rfl (hb hby d1_70) q) ?_
        refine own_step (T' := T141) (g' := (mkF m 72 #[.val (.int xx), .val (.int len), .val (.int ((xx &&& (255 : Int32)).toUInt32.toUInt16.toUInt32.toInt32)), .val (.int (((XT.ushr xx (8 : Int32)) &&& (255 : Int32)).toUInt32.toUInt16.toUInt32.toInt32)), .val (.int (((XT.ushr xx (16 : Int32)) &&& (255 : Int32)).toUInt32.toUInt16.toUInt32.toInt32))] [(.int (((XT.ushr xx (8 : Int32)) &&& (255 : Int32)).toUInt32.toUInt16.toUInt32.toInt32)), (.int (1 : Int32)), (.ref b133), (.ref b133), (.ref b126), (.ref b126)])) (fun _ q => XS.iloadN X141.here hx rfl (hb hby d1_71) rfl q) ?_
        obtain ⟨T145, h145, X145, e145, W145, V145, st145⟩ := own_stC X141 hx hZ e141 V141 (j := (1 : Int32)) ⟨by decide, by decide⟩ (i := 1) rfl (Nat.le_of_ble_eq_true rfl) (g := (mkF m 72 #[.val (.int xx), .val (.int len), .val (.int ((xx &&& (255 : Int32)).toUInt32.toUInt16.toUInt32.toInt32)), .val (.int (((XT.ushr xx (8 : Int32)) &&& (255 : Int32)).toUInt32.toUInt16.toUInt32.toInt32)), .val (.int (((XT.ushr xx (16 : Int32)) &&& (255 : Int32)).toUInt32.toUInt16.toUInt32.toInt32))] [(.int (((XT.ushr xx (8 : Int32)) &&& (255 : Int32)).toUInt32.toUInt16.toUInt32.toInt32)), (.int (1 : Int32)), (.ref b133), (.ref b133), (.ref b126), (.ref b126)])) rfl rfl (hb hby d1_72)
        replace V145 : Arv Z h145 b133 k133 .char (2 : Int32) [(.int (nar .char ((xx &&& (255 : Int32)).toUInt32.toUInt16.toUInt32.toInt32))), (.int (nar .char (((XT.ushr xx (8 : Int32)) &&& (255 : Int32)).toUInt32.toUInt16.toUInt32.toInt32)))] (.int (0 : Int32)) := V145
        have N146 := Fr.snoc X145 N142 n0_135
        have c148 := (Safe.wr W141 c144 CH140.1 c144)
        have CH147 := CH143.trans (CHr.wr W145 c148 CH143.1)
        refine own_step (T' := T145) (g' := (mkF m 73 #[.val (.int xx), .val (.int len), .val (.int ((xx &&& (255 : Int32)).toUInt32.toUInt16.toUInt32.toInt32)), .val (.int (((XT.ushr xx (8 : Int32)) &&& (255 : Int32)).toUInt32.toUInt16.toUInt32.toInt32)), .val (.int (((XT.ushr xx (16 : Int32)) &&& (255 : Int32)).toUInt32.toUInt16.toUInt32.toInt32))] [(.ref b133), (.ref b126), (.ref b126)])) st145 ?_
        have c149 := (((A126.ext E133).wr W141).wr W145)
        have c150 := (((F131.ext E133).other W141 (Or.inl ne138)).other W145 (Or.inl ne138))
        have c151 := (((F132.ext E133).other W141 (Or.inl ne138)).other W145 (Or.inl ne138))
        have c152 := (Nat.le_trans (Nat.le_trans (Nat.le_trans c134 E133.1) (Keep.of_wr W141).1) (Keep.of_wr W145).1)
        have c153 := ((((OLD0.ext E126).ext E133).wr W141 n0_135).wr W145 n0_135)
        have hp154 : ∀ c ∈ ([(nar .char ((xx &&& (255 : Int32)).toUInt32.toUInt16.toUInt32.toInt32)), (nar .char (((XT.ushr xx (8 : Int32)) &&& (255 : Int32)).toUInt32.toUInt16.toUInt32.toInt32))] : List Int32), ¬ c < 0 ∧ ¬ (255 : Int32) < c := (own_allS (own_and255 xx) (own_allS (own_and255 (XT.ushr xx (8 : Int32))) own_all0))
        refine own_callC X145 hx hZ hown rfl (w8 hw) (w9 hw) (w10 hw) (by decide) (StrChars.Road.backV (W := 1) hZ (own_ws hw) (kI := 4) (w5 hw) (cs := ([(nar .char ((xx &&& (255 : Int32)).toUInt32.toUInt16.toUInt32.toInt32)), (nar .char (((XT.ushr xx (8 : Int32)) &&& (255 : Int32)).toUInt32.toUInt16.toUInt32.toInt32))] : List Int32)) (bs := (([(nar .char ((xx &&& (255 : Int32)).toUInt32.toUInt16.toUInt32.toInt32)), (nar .char (((XT.ushr xx (8 : Int32)) &&& (255 : Int32)).toUInt32.toUInt16.toUInt32.toInt32))] : List Int32)).map (fun c => c.toInt8.toInt32)) (n := 2) n0_127 c152 c149 c150 c151 V145 (O2.ext c153.2) P5 rfl rfl (by decide) (by decide) hp154 rfl (by decide) (by decide)) e145  (by first | decide | (dsimp only; omega)) (by first | decide | (dsimp only; omega)) (g := (mkF m 73 #[.val (.int xx), .val (.int len), .val (.int ((xx &&& (255 : Int32)).toUInt32.toUInt16.toUInt32.toInt32)), .val (.int (((XT.ushr xx (8 : Int32)) &&& (255 : Int32)).toUInt32.toUInt16.toUInt32.toInt32)), .val (.int (((XT.ushr xx (16 : Int32)) &&& (255 : Int32)).toUInt32.toUInt16.toUInt32.toInt32))] [(.ref b133), (.ref b126), (.ref b126)])) (argsL := [(.ref b133)]) (rest := [(.ref b126)]) rfl (by rw [hml]; rfl) (lenOf pd_5 rfl) rfl rfl (by show 2 * 0 + _ ≤ _; exact Nat.le_of_eq rfl) (hb hby d1_73) ?_
        rintro _ T155 L155 X155 ⟨rfl, N155q, K155, fE155, fC155, t155, kb155, ge155, sz155, nx155, fV155, fA155⟩
        have n0_156 : n0 ≤ t155 := Nat.le_trans c152 sz155
        have c157 := (((c136.ext E133).wr W141 (Or.inr sz0_137)).wr W145 (Or.inr sz0_137))
        have sz0_158 := Nat.le_trans c157.1 sz155
        have c159 := (own_lt (own_lt (own_lt ltb126 E133.1) (Keep.of_wr W141).1) (Keep.of_wr W145).1)
        have ne160 : b126 ≠ t155 := own_ne c159 sz155
        have c161 := (own_lt (own_lt ltb133 (Keep.of_wr W141).1) (Keep.of_wr W145).1)
        have ne162 : b133 ≠ t155 := own_ne c161 sz155
        have sf163 : Safe Z own_EL _ _ t155 := Safe.new (EL := own_EL) (Z := Z) (vm := s.vm) sz155
        have c165 := (Safe.wr W145 c148 CH143.1 (Safe.wr W141 c144 CH140.1 (Safe.ext E133 CH130.1 (Safe.ext E126 CH0.1 sf129))))
        have CH164 := CH147.trans (CHr.keep K155 (sfS c165 sf0) CH147.1)
        have ltt155 := fA155.lt
        have hcd166 : StrChars.Road.CodA ([(nar .char ((xx &&& (255 : Int32)).toUInt32.toUInt16.toUInt32.toInt32)), (nar .char (((XT.ushr xx (8 : Int32)) &&& (255 : Int32)).toUInt32.toUInt16.toUInt32.toInt32))] : List Int32) 0 (2 : Int32) (((([(nar .char ((xx &&& (255 : Int32)).toUInt32.toUInt16.toUInt32.toInt32)), (nar .char (((XT.ushr xx (8 : Int32)) &&& (255 : Int32)).toUInt32.toUInt16.toUInt32.toInt32))] : List Int32)).map (fun c => c.toInt8.toInt32)).map Value.int) := StrChars.Road.codOf (n := 2) rfl (fun c hc => (hp154 c hc).2)
        have N167 := Fr.app N146 N155q
        show own_Fin p e below _ T155 (mkF m 76 #[.val (.int xx), .val (.int len), .val (.int ((xx &&& (255 : Int32)).toUInt32.toUInt16.toUInt32.toInt32)), .val (.int (((XT.ushr xx (8 : Int32)) &&& (255 : Int32)).toUInt32.toUInt16.toUInt32.toInt32)), .val (.int (((XT.ushr xx (16 : Int32)) &&& (255 : Int32)).toUInt32.toUInt16.toUInt32.toInt32))] [(.ref b126)])
        have c168 := (c157.trans K155 (allS (Or.inr sz0_128) all0))
        have c169 := (Nat.le_trans (Nat.le_trans (Nat.le_trans (Nat.le_trans (Nat.le_trans hk0 E126.1) E133.1) (Keep.of_wr W141).1) (Keep.of_wr W145).1) K155.1)
        exact own_retAW X155 hx hZ (own_hEL hw) hS c169 CH164 Bd.returns rfl rfl (hb hby d1_76) hlk ⟨b126, t155, kb155, (2 : Int32), ((([(nar .char ((xx &&& (255 : Int32)).toUInt32.toUInt16.toUInt32.toInt32)), (nar .char (((XT.ushr xx (8 : Int32)) &&& (255 : Int32)).toUInt32.toUInt16.toUInt32.toInt32))] : List Int32)).map (fun c => c.toInt8.toInt32)).map Value.int, ([(nar .char ((xx &&& (255 : Int32)).toUInt32.toUInt16.toUInt32.toInt32)), (nar .char (((XT.ushr xx (8 : Int32)) &&& (255 : Int32)).toUInt32.toUInt16.toUInt32.toInt32))] : List Int32), rfl, N167, c168, sz0_128, fE155, fV155, fC155, fA155, hcd166, ⟨own_up _ hp154, Nat.le_of_ble_eq_true rfl⟩⟩ (by first | decide | (dsimp only; omega)) (by first | decide | (dsimp only; omega))
      · refine own_step (T' := s₁) (g' := (mkF m 77 #[.val (.int xx), .val (.int len), .val (.int ((xx &&& (255 : Int32)).toUInt32.toUInt16.toUInt32.toInt32)), .val (.int (((XT.ushr xx (8 : Int32)) &&& (255 : Int32)).toUInt32.toUInt16.toUInt32.toInt32)), .val (.int (((XT.ushr xx (16 : Int32)) &&& (255 : Int32)).toUInt32.toUInt16.toUInt32.toInt32))] [])) (fun _ q => XS.icmpYes X0.here hx rfl (pc0 := 55) (pc' := 77) rfl (hb hby d1_55) rfl (XT.ii_ne_t hc125) (by decide) (by decide) q) ?_
        obtain ⟨T170, h170, X170, e170, E170, A170, D170, -, st170⟩ := newO X0 hx hZ hown (w4 hw) (w5 hw) (w6 hw) e0 (g := (mkF m 77 #[.val (.int xx), .val (.int len), .val (.int ((xx &&& (255 : Int32)).toUInt32.toUInt16.toUInt32.toInt32)), .val (.int (((XT.ushr xx (8 : Int32)) &&& (255 : Int32)).toUInt32.toUInt16.toUInt32.toInt32)), .val (.int (((XT.ushr xx (16 : Int32)) &&& (255 : Int32)).toUInt32.toUInt16.toUInt32.toInt32))] [])) rfl (hb hby d1_77) (by first | decide | (dsimp only; omega)) (by first | decide | (dsimp only; omega))
        obtain ⟨b170, g170⟩ : ∃ z, z = h0.size := ⟨_, rfl⟩
        rw [← g170] at A170 D170 st170
        have n0_171 : n0 ≤ b170 := Nat.le_trans Z0 (Nat.le_of_eq g170.symm)
        have sz0_172 := Nat.le_trans KP0.1 (Nat.le_of_eq g170.symm)
        have sf173 : Safe Z own_EL _ _ b170 := Safe.new (EL := own_EL) (Z := Z) (vm := s.vm) (Nat.le_of_eq g170.symm)
        have CH174 := CH0.trans (CHr.ext E170 CH0.1)
        have ltb170 := A170.lt
        have F175 : Fld Z h170 b170 "java/lang/String" "value" "[B" .null := D170 (Or.inr (w20 hw)) (ty := (.array .byte)) (by decide)
        have F176 : Fld Z h170 b170 "java/lang/String" "coder" "B" (.int (0 : Int32)) := D170 (Or.inr (w21 hw)) (ty := .byte) (by decide)
        refine own_step (T' := T170) (g' := (mkF m 80 #[.val (.int xx), .val (.int len), .val (.int ((xx &&& (255 : Int32)).toUInt32.toUInt16.toUInt32.toInt32)), .val (.int (((XT.ushr xx (8 : Int32)) &&& (255 : Int32)).toUInt32.toUInt16.toUInt32.toInt32)), .val (.int (((XT.ushr xx (16 : Int32)) &&& (255 : Int32)).toUInt32.toUInt16.toUInt32.toInt32))] [(.ref b170)])) st170 ?_
        refine own_step (T' := T170) (g' := (mkF m 81 #[.val (.int xx), .val (.int len), .val (.int ((xx &&& (255 : Int32)).toUInt32.toUInt16.toUInt32.toInt32)), .val (.int (((XT.ushr xx (8 : Int32)) &&& (255 : Int32)).toUInt32.toUInt16.toUInt32.toInt32)), .val (.int (((XT.ushr xx (16 : Int32)) &&& (255 : Int32)).toUInt32.toUInt16.toUInt32.toInt32))] [(.ref b170), (.ref b170)])) (fun _ q => XS.dup X170.here hx rfl (hb hby d1_80) rfl rfl q) ?_
        refine own_step (T' := T170) (g' := (mkF m 82 #[.val (.int xx), .val (.int len), .val (.int ((xx &&& (255 : Int32)).toUInt32.toUInt16.toUInt32.toInt32)), .val (.int (((XT.ushr xx (8 : Int32)) &&& (255 : Int32)).toUInt32.toUInt16.toUInt32.toInt32)), .val (.int (((XT.ushr xx (16 : Int32)) &&& (255 : Int32)).toUInt32.toUInt16.toUInt32.toInt32))] [(.int (3 : Int32)), (.ref b170), (.ref b170)])) (fun _ q => XS.iconst X170.here hx rfl (hb hby d1_81) q) ?_
        obtain ⟨T177, h177, k177, X177, e177, E177, A177, st177⟩ := newP X170 hx hZ (aty := .char) (w7 hw) e170 (g := (mkF m 82 #[.val (.int xx), .val (.int len), .val (.int ((xx &&& (255 : Int32)).toUInt32.toUInt16.toUInt32.toInt32)), .val (.int (((XT.ushr xx (8 : Int32)) &&& (255 : Int32)).toUInt32.toUInt16.toUInt32.toInt32)), .val (.int (((XT.ushr xx (16 : Int32)) &&& (255 : Int32)).toUInt32.toUInt16.toUInt32.toInt32))] [(.int (3 : Int32)), (.ref b170), (.ref b170)])) rfl (hb hby d1_82) rfl (by decide) (cap := 3) (by decide) (by first | decide | omega) (by first | decide | (dsimp only; omega)) (by first | decide | (dsimp only; omega))
        obtain ⟨b177, g177⟩ : ∃ z, z = h170.size := ⟨_, rfl⟩
        rw [← g177] at A177 st177
        have c178 := (Nat.le_trans Z0 E170.1)
        have n0_179 : n0 ≤ b177 := Nat.le_trans c178 (Nat.le_of_eq g177.symm)
        have c180 := (KP0.ext E170)
        have sz0_181 := Nat.le_trans c180.1 (Nat.le_of_eq g177.symm)
        have ne182 : b170 ≠ b177 := own_ne ltb170 (Nat.le_of_eq g177.symm)
        have sf183 : Safe Z own_EL _ _ b177 := Safe.new (EL := own_EL) (Z := Z) (vm := s.vm) (Nat.le_of_eq g177.symm)
        have CH184 := CH174.trans (CHr.ext E177 CH174.1)
        have V177 : Arv Z h177 b177 k177 .char (3 : Int32) [(.int (0 : Int32)), (.int (0 : Int32)), (.int (0 : Int32))] (.int (0 : Int32)) := (Arv.new A177 (by decide)).pad (pad_rep [] (.int (0 : Int32)) 3)
        have ltb177 := V177.lt
        refine own_step (T' := T177) (g' := (mkF m 84 #[.val (.int xx), .val (.int len), .val (.int ((xx &&& (255 : Int32)).toUInt32.toUInt16.toUInt32.toInt32)), .val (.int (((XT.ushr xx (8 : Int32)) &&& (255 : Int32)).toUInt32.toUInt16.toUInt32.toInt32)), .val (.int (((XT.ushr xx (16 : Int32)) &&& (255 : Int32)).toUInt32.toUInt16.toUInt32.toInt32))] [(.ref b177), (.ref b170), (.ref b170)])) st177 ?_
        refine own_step (T' := T177) (g' := (mkF m 85 #[.val (.int xx), .val (.int len), .val (.int ((xx &&& (255 : Int32)).toUInt32.toUInt16.toUInt32.toInt32)), .val (.int (((XT.ushr xx (8 : Int32)) &&& (255 : Int32)).toUInt32.toUInt16.toUInt32.toInt32)), .val (.int (((XT.ushr xx (16 : Int32)) &&& (255 : Int32)).toUInt32.toUInt16.toUInt32.toInt32))] [(.ref b177), (.ref b177), (.ref b170), (.ref b170)])) (fun _ q => XS.dup X177.here hx rfl (hb hby d1_84) rfl rfl q) ?_
        refine own_step (T' := T177) (g' := (mkF m 86 #[.val (.int xx), .val (.int len), .val (.int ((xx &&& (255 : Int32)).toUInt32.toUInt16.toUInt32.toInt32)), .val (.int (((XT.ushr xx (8 : Int32)) &&& (255 : Int32)).toUInt32.toUInt16.toUInt32.toInt32)), .val (.int (((XT.ushr xx (16 : Int32)) &&& (255 : Int32)).toUInt32.toUInt16.toUInt32.toInt32))] [(.int (0 : Int32)), (.ref b177), (.ref b177), (.ref b170), (.ref b170)])) (fun _ q => XS.iconst X177.here hx rfl (hb hby d1_85) q) ?_
        refine own_step (T' := T177) (g' := (mkF m 87 #[.val (.int xx), .val (.int len), .val (.int ((xx &&& (255 : Int32)).toUInt32.toUInt16.toUInt32.toInt32)), .val (.int (((XT.ushr xx (8 : Int32)) &&& (255 : Int32)).toUInt32.toUInt16.toUInt32.toInt32)), .val (.int (((XT.ushr xx (16 : Int32)) &&& (255 : Int32)).toUInt32.toUInt16.toUInt32.toInt32))] [(.int ((xx &&& (255 : Int32)).toUInt32.toUInt16.toUInt32.toInt32)), (.int (0 : Int32)), (.ref b177), (.ref b177), (.ref b170), (.ref b170)])) (fun _ q => XS.iloadN X177.here hx rfl (hb hby d1_86) rfl q) ?_
        obtain ⟨T185, h185, X185, e185, W185, V185, st185⟩ := own_stC X177 hx hZ e177 V177 (j := (0 : Int32)) ⟨by decide, by decide⟩ (i := 0) rfl (Nat.le_of_ble_eq_true rfl) (g := (mkF m 87 #[.val (.int xx), .val (.int len), .val (.int ((xx &&& (255 : Int32)).toUInt32.toUInt16.toUInt32.toInt32)), .val (.int (((XT.ushr xx (8 : Int32)) &&& (255 : Int32)).toUInt32.toUInt16.toUInt32.toInt32)), .val (.int (((XT.ushr xx (16 : Int32)) &&& (255 : Int32)).toUInt32.toUInt16.toUInt32.toInt32))] [(.int ((xx &&& (255 : Int32)).toUInt32.toUInt16.toUInt32.toInt32)), (.int (0 : Int32)), (.ref b177), (.ref b177), (.ref b170), (.ref b170)])) rfl rfl (hb hby d1_87)
        replace V185 : Arv Z h185 b177 k177 .char (3 : Int32) [(.int (nar .char ((xx &&& (255 : Int32)).toUInt32.toUInt16.toUInt32.toInt32))), (.int (0 : Int32)), (.int (0 : Int32))] (.int (0 : Int32)) := V185
        have N186 := Fr.snoc X185 N0 n0_179
        have c188 := (Safe.ext E177 CH174.1 sf183)
        have CH187 := CH184.trans (CHr.wr W185 c188 CH184.1)
        refine own_step (T' := T185) (g' := (mkF m 88 #[.val (.int xx), .val (.int len), .val (.int ((xx &&& (255 : Int32)).toUInt32.toUInt16.toUInt32.toInt32)), .val (.int (((XT.ushr xx (8 : Int32)) &&& (255 : Int32)).toUInt32.toUInt16.toUInt32.toInt32)), .val (.int (((XT.ushr xx (16 : Int32)) &&& (255 : Int32)).toUInt32.toUInt16.toUInt32.toInt32))] [(.ref b177), (.ref b170), (.ref b170)])) st185 ?_
        refine own_step (T' := T185) (g' := (mkF m 89 #[.val (.int xx), .val (.int len), .val (.int ((xx &&& (255 : Int32)).toUInt32.toUInt16.toUInt32.toInt32)), .val (.int (((XT.ushr xx (8 : Int32)) &&& (255 : Int32)).toUInt32.toUInt16.toUInt32.toInt32)), .val (.int (((XT.ushr xx (16 : Int32)) &&& (255 : Int32)).toUInt32.toUInt16.toUInt32.toInt32))] [(.ref b177), (.ref b177), (.ref b170), (.ref b170)])) (fun _ q => XS.dup X185.here hx rfl (hb hby d1_88) rfl rfl q) ?_
        refine own_step (T' := T185) (g' := (mkF m 90 #[.val (.int xx), .val (.int len), .val (.int ((xx &&& (255 : Int32)).toUInt32.toUInt16.toUInt32.toInt32)), .val (.int (((XT.ushr xx (8 : Int32)) &&& (255 : Int32)).toUInt32.toUInt16.toUInt32.toInt32)), .val (.int (((XT.ushr xx (16 : Int32)) &&& (255 : Int32)).toUInt32.toUInt16.toUInt32.toInt32))] [(.int (1 : Int32)), (.ref b177), (.ref b177), (.ref b170), (.ref b170)])) (fun _ q => XS.iconst X185.here hx rfl (hb hby d1_89) q) ?_
        refine own_step (T' := T185) (g' := (mkF m 91 #[.val (.int xx), .val (.int len), .val (.int ((xx &&& (255 : Int32)).toUInt32.toUInt16.toUInt32.toInt32)), .val (.int (((XT.ushr xx (8 : Int32)) &&& (255 : Int32)).toUInt32.toUInt16.toUInt32.toInt32)), .val (.int (((XT.ushr xx (16 : Int32)) &&& (255 : Int32)).toUInt32.toUInt16.toUInt32.toInt32))] [(.int (((XT.ushr xx (8 : Int32)) &&& (255 : Int32)).toUInt32.toUInt16.toUInt32.toInt32)), (.int (1 : Int32)), (.ref b177), (.ref b177), (.ref b170), (.ref b170)])) (fun _ q => XS.iloadN X185.here hx rfl (hb hby d1_90) rfl q) ?_
        obtain ⟨T189, h189, X189, e189, W189, V189, st189⟩ := own_stC X185 hx hZ e185 V185 (j := (1 : Int32)) ⟨by decide, by decide⟩ (i := 1) rfl (Nat.le_of_ble_eq_true rfl) (g := (mkF m 91 #[.val (.int xx), .val (.int len), .val (.int ((xx &&& (255 : Int32)).toUInt32.toUInt16.toUInt32.toInt32)), .val (.int (((XT.ushr xx (8 : Int32)) &&& (255 : Int32)).toUInt32.toUInt16.toUInt32.toInt32)), .val (.int (((XT.ushr xx (16 : Int32)) &&& (255 : Int32)).toUInt32.toUInt16.toUInt32.toInt32))] [(.int (((XT.ushr xx (8 : Int32)) &&& (255 : Int32)).toUInt32.toUInt16.toUInt32.toInt32)), (.int (1 : Int32)), (.ref b177), (.ref b177), (.ref b170), (.ref b170)])) rfl rfl (hb hby d1_91)
        replace V189 : Arv Z h189 b177 k177 .char (3 : Int32) [(.int (nar .char ((xx &&& (255 : Int32)).toUInt32.toUInt16.toUInt32.toInt32))), (.int (nar .char (((XT.ushr xx (8 : Int32)) &&& (255 : Int32)).toUInt32.toUInt16.toUInt32.toInt32))), (.int (0 : Int32))] (.int (0 : Int32)) := V189
        have N190 := Fr.snoc X189 N186 n0_179
        have c192 := (Safe.wr W185 c188 CH184.1 c188)
        have CH191 := CH187.trans (CHr.wr W189 c192 CH187.1)
        refine own_step (T' := T189) (g' := (mkF m 92 #[.val (.int xx), .val (.int len), .val (.int ((xx &&& (255 : Int32)).toUInt32.toUInt16.toUInt32.toInt32)), .val (.int (((XT.ushr xx (8 : Int32)) &&& (255 : Int32)).toUInt32.toUInt16.toUInt32.toInt32)), .val (.int (((XT.ushr xx (16 : Int32)) &&& (255 : Int32)).toUInt32.toUInt16.toUInt32.toInt32))] [(.ref b177), (.ref b170), (.ref b170)])) st189 ?_
        refine own_step (T' := T189) (g' := (mkF m 93 #[.val (.int xx), .val (.int len), .val (.int ((xx &&& (255 : Int32)).toUInt32.toUInt16.toUInt32.toInt32)), .val (.int (((XT.ushr xx (8 : Int32)) &&& (255 : Int32)).toUInt32.toUInt16.toUInt32.toInt32)), .val (.int (((XT.ushr xx (16 : Int32)) &&& (255 : Int32)).toUInt32.toUInt16.toUInt32.toInt32))] [(.ref b177), (.ref b177), (.ref b170), (.ref b170)])) (fun _ q => XS.dup X189.here hx rfl (hb hby d1_92) rfl rfl q) ?_
        refine own_step (T' := T189) (g' := (mkF m 94 #[.val (.int xx), .val (.int len), .val (.int ((xx &&& (255 : Int32)).toUInt32.toUInt16.toUInt32.toInt32)), .val (.int (((XT.ushr xx (8 : Int32)) &&& (255 : Int32)).toUInt32.toUInt16.toUInt32.toInt32)), .val (.int (((XT.ushr xx (16 : Int32)) &&& (255 : Int32)).toUInt32.toUInt16.toUInt32.toInt32))] [(.int (2 : Int32)), (.ref b177), (.ref b177), (.ref b170), (.ref b170)])) (fun _ q => XS.iconst X189.here hx rfl (hb hby d1_93) q) ?_
        refine own_step (T' := T189) (g' := (mkF m 96 #[.val (.int xx), .val (.int len), .val (.int ((xx &&& (255 : Int32)).toUInt32.toUInt16.toUInt32.toInt32)), .val (.int (((XT.ushr xx (8 : Int32)) &&& (255 : Int32)).toUInt32.toUInt16.toUInt32.toInt32)), .val (.int (((XT.ushr xx (16 : Int32)) &&& (255 : Int32)).toUInt32.toUInt16.toUInt32.toInt32))] [(.int (((XT.ushr xx (16 : Int32)) &&& (255 : Int32)).toUInt32.toUInt16.toUInt32.toInt32)), (.int (2 : Int32)), (.ref b177), (.ref b177), (.ref b170), (.ref b170)])) (fun _ q => XS.iload X189.here hx rfl (hb hby d1_94) rfl q) ?_
        obtain ⟨T193, h193, X193, e193, W193, V193, st193⟩ := own_stC X189 hx hZ e189 V189 (j := (2 : Int32)) ⟨by decide, by decide⟩ (i := 2) rfl (Nat.le_of_ble_eq_true rfl) (g := (mkF m 96 #[.val (.int xx), .val (.int len), .val (.int ((xx &&& (255 : Int32)).toUInt32.toUInt16.toUInt32.toInt32)), .val (.int (((XT.ushr xx (8 : Int32)) &&& (255 : Int32)).toUInt32.toUInt16.toUInt32.toInt32)), .val (.int (((XT.ushr xx (16 : Int32)) &&& (255 : Int32)).toUInt32.toUInt16.toUInt32.toInt32))] [(.int (((XT.ushr xx (16 : Int32)) &&& (255 : Int32)).toUInt32.toUInt16.toUInt32.toInt32)), (.int (2 : Int32)), (.ref b177), (.ref b177), (.ref b170), (.ref b170)])) rfl rfl (hb hby d1_96)
        replace V193 : Arv Z h193 b177 k177 .char (3 : Int32) [(.int (nar .char ((xx &&& (255 : Int32)).toUInt32.toUInt16.toUInt32.toInt32))), (.int (nar .char (((XT.ushr xx (8 : Int32)) &&& (255 : Int32)).toUInt32.toUInt16.toUInt32.toInt32))), (.int (nar .char (((XT.ushr xx (16 : Int32)) &&& (255 : Int32)).toUInt32.toUInt16.toUInt32.toInt32)))] (.int (0 : Int32)) := V193
        have N194 := Fr.snoc X193 N190 n0_179
        have c196 := (Safe.wr W189 c192 CH187.1 c192)
        have CH195 := CH191.trans (CHr.wr W193 c196 CH191.1)
        refine own_step (T' := T193) (g' := (mkF m 97 #[.val (.int xx), .val (.int len), .val (.int ((xx &&& (255 : Int32)).toUInt32.toUInt16.toUInt32.toInt32)), .val (.int (((XT.ushr xx (8 : Int32)) &&& (255 : Int32)).toUInt32.toUInt16.toUInt32.toInt32)), .val (.int (((XT.ushr xx (16 : Int32)) &&& (255 : Int32)).toUInt32.toUInt16.toUInt32.toInt32))] [(.ref b177), (.ref b170), (.ref b170)])) st193 ?_
        have c197 := ((((A170.ext E177).wr W185).wr W189).wr W193)
        have c198 := ((((F175.ext E177).other W185 (Or.inl ne182)).other W189 (Or.inl ne182)).other W193 (Or.inl ne182))
        have c199 := ((((F176.ext E177).other W185 (Or.inl ne182)).other W189 (Or.inl ne182)).other W193 (Or.inl ne182))
        have c200 := (Nat.le_trans (Nat.le_trans (Nat.le_trans (Nat.le_trans c178 E177.1) (Keep.of_wr W185).1) (Keep.of_wr W189).1) (Keep.of_wr W193).1)
        have c201 := (((((OLD0.ext E170).ext E177).wr W185 n0_179).wr W189 n0_179).wr W193 n0_179)
        have hp202 : ∀ c ∈ ([(nar .char ((xx &&& (255 : Int32)).toUInt32.toUInt16.toUInt32.toInt32)), (nar .char (((XT.ushr xx (8 : Int32)) &&& (255 : Int32)).toUInt32.toUInt16.toUInt32.toInt32)), (nar .char (((XT.ushr xx (16 : Int32)) &&& (255 : Int32)).toUInt32.toUInt16.toUInt32.toInt32))] : List Int32), ¬ c < 0 ∧ ¬ (255 : Int32) < c := (own_allS (own_and255 xx) (own_allS (own_and255 (XT.ushr xx (8 : Int32))) (own_allS (own_and255 (XT.ushr xx (16 : Int32))) own_all0)))
        refine own_callC X193 hx hZ hown rfl (w8 hw) (w9 hw) (w10 hw) (by decide) (StrChars.Road.backV (W := 1) hZ (own_ws hw) (kI := 4) (w5 hw) (cs := ([(nar .char ((xx &&& (255 : Int32)).toUInt32.toUInt16.toUInt32.toInt32)), (nar .char (((XT.ushr xx (8 : Int32)) &&& (255 : Int32)).toUInt32.toUInt16.toUInt32.toInt32)), (nar .char (((XT.ushr xx (16 : Int32)) &&& (255 : Int32)).toUInt32.toUInt16.toUInt32.toInt32))] : List Int32)) (bs := (([(nar .char ((xx &&& (255 : Int32)).toUInt32.toUInt16.toUInt32.toInt32)), (nar .char (((XT.ushr xx (8 : Int32)) &&& (255 : Int32)).toUInt32.toUInt16.toUInt32.toInt32)), (nar .char (((XT.ushr xx (16 : Int32)) &&& (255 : Int32)).toUInt32.toUInt16.toUInt32.toInt32))] : List Int32)).map (fun c => c.toInt8.toInt32)) (n := 3) n0_171 c200 c197 c198 c199 V193 (O2.ext c201.2) P5 rfl rfl (by decide) (by decide) hp202 rfl (by decide) (by decide)) e193  (by first | decide | (dsimp only; omega)) (by first | decide | (dsimp only; omega)) (g := (mkF m 97 #[.val (.int xx), .val (.int len), .val (.int ((xx &&& (255 : Int32)).toUInt32.toUInt16.toUInt32.toInt32)), .val (.int (((XT.ushr xx (8 : Int32)) &&& (255 : Int32)).toUInt32.toUInt16.toUInt32.toInt32)), .val (.int (((XT.ushr xx (16 : Int32)) &&& (255 : Int32)).toUInt32.toUInt16.toUInt32.toInt32))] [(.ref b177), (.ref b170), (.ref b170)])) (argsL := [(.ref b177)]) (rest := [(.ref b170)]) rfl (by rw [hml]; rfl) (lenOf pd_5 rfl) rfl rfl (by show 2 * 0 + _ ≤ _; exact Nat.le_of_eq rfl) (hb hby d1_97) ?_
        rintro _ T203 L203 X203 ⟨rfl, N203q, K203, fE203, fC203, t203, kb203, ge203, sz203, nx203, fV203, fA203⟩
        have n0_204 : n0 ≤ t203 := Nat.le_trans c200 sz203
        have c205 := ((((c180.ext E177).wr W185 (Or.inr sz0_181)).wr W189 (Or.inr sz0_181)).wr W193 (Or.inr sz0_181))
        have sz0_206 := Nat.le_trans c205.1 sz203
        have c207 := (own_lt (own_lt (own_lt (own_lt ltb170 E177.1) (Keep.of_wr W185).1) (Keep.of_wr W189).1) (Keep.of_wr W193).1)
        have ne208 : b170 ≠ t203 := own_ne c207 sz203
        have c209 := (own_lt (own_lt (own_lt ltb177 (Keep.of_wr W185).1) (Keep.of_wr W189).1) (Keep.of_wr W193).1)
        have ne210 : b177 ≠ t203 := own_ne c209 sz203
        have sf211 : Safe Z own_EL _ _ t203 := Safe.new (EL := own_EL) (Z := Z) (vm := s.vm) sz203
        have c213 := (Safe.wr W193 c196 CH191.1 (Safe.wr W189 c192 CH187.1 (Safe.wr W185 c188 CH184.1 (Safe.ext E177 CH174.1 (Safe.ext E170 CH0.1 sf173)))))
        have CH212 := CH195.trans (CHr.keep K203 (sfS c213 sf0) CH195.1)
        have ltt203 := fA203.lt
        have hcd214 : StrChars.Road.CodA ([(nar .char ((xx &&& (255 : Int32)).toUInt32.toUInt16.toUInt32.toInt32)), (nar .char (((XT.ushr xx (8 : Int32)) &&& (255 : Int32)).toUInt32.toUInt16.toUInt32.toInt32)), (nar .char (((XT.ushr xx (16 : Int32)) &&& (255 : Int32)).toUInt32.toUInt16.toUInt32.toInt32))] : List Int32) 0 (3 : Int32) (((([(nar .char ((xx &&& (255 : Int32)).toUInt32.toUInt16.toUInt32.toInt32)), (nar .char (((XT.ushr xx (8 : Int32)) &&& (255 : Int32)).toUInt32.toUInt16.toUInt32.toInt32)), (nar .char (((XT.ushr xx (16 : Int32)) &&& (255 : Int32)).toUInt32.toUInt16.toUInt32.toInt32))] : List Int32)).map (fun c => c.toInt8.toInt32)).map Value.int) := StrChars.Road.codOf (n := 3) rfl (fun c hc => (hp202 c hc).2)
        have N215 := Fr.app N194 N203q
        show own_Fin p e below _ T203 (mkF m 100 #[.val (.int xx), .val (.int len), .val (.int ((xx &&& (255 : Int32)).toUInt32.toUInt16.toUInt32.toInt32)), .val (.int (((XT.ushr xx (8 : Int32)) &&& (255 : Int32)).toUInt32.toUInt16.toUInt32.toInt32)), .val (.int (((XT.ushr xx (16 : Int32)) &&& (255 : Int32)).toUInt32.toUInt16.toUInt32.toInt32))] [(.ref b170)])
        have c216 := (c205.trans K203 (allS (Or.inr sz0_172) all0))
        have c217 := (Nat.le_trans (Nat.le_trans (Nat.le_trans (Nat.le_trans (Nat.le_trans (Nat.le_trans hk0 E170.1) E177.1) (Keep.of_wr W185).1) (Keep.of_wr W189).1) (Keep.of_wr W193).1) K203.1)
        exact own_retAW X203 hx hZ (own_hEL hw) hS c217 CH212 Bd.returns rfl rfl (hb hby d1_100) hlk ⟨b170, t203, kb203, (3 : Int32), ((([(nar .char ((xx &&& (255 : Int32)).toUInt32.toUInt16.toUInt32.toInt32)), (nar .char (((XT.ushr xx (8 : Int32)) &&& (255 : Int32)).toUInt32.toUInt16.toUInt32.toInt32)), (nar .char (((XT.ushr xx (16 : Int32)) &&& (255 : Int32)).toUInt32.toUInt16.toUInt32.toInt32))] : List Int32)).map (fun c => c.toInt8.toInt32)).map Value.int, ([(nar .char ((xx &&& (255 : Int32)).toUInt32.toUInt16.toUInt32.toInt32)), (nar .char (((XT.ushr xx (8 : Int32)) &&& (255 : Int32)).toUInt32.toUInt16.toUInt32.toInt32)), (nar .char (((XT.ushr xx (16 : Int32)) &&& (255 : Int32)).toUInt32.toUInt16.toUInt32.toInt32))] : List Int32), rfl, N215, c216, sz0_172, fE203, fV203, fC203, fA203, hcd214, ⟨own_up _ hp202, Nat.le_of_ble_eq_true rfl⟩⟩ (by first | decide | (dsimp only; omega)) (by first | decide | (dsimp only; omega))
theorem pn_7 : plainName "java/util/ImmutableCollections$List12" = true := by first | (simp [plainName, overriddenIn]; done) | decide +kernel
theorem pd_7 : parseMethodDescriptor "(Ljava/lang/Object;)Ljava/lang/Object;" = some ⟨[(.object "java/lang/Object")], some (.object "java/lang/Object")⟩ := by decide +kernel
theorem d7_0 : decode jdk_44_method_1_code 0 = .ok (.aload_n 0, 1) := by decide +kernel
theorem d7_1 : decode jdk_44_method_1_code 1 = .ok (.invokespecial 1, 3) := by decide +kernel
theorem d7_4 : decode jdk_44_method_1_code 4 = .ok (.aload_n 0, 1) := by decide +kernel
theorem d7_5 : decode jdk_44_method_1_code 5 = .ok (.aload_n 1, 1) := by decide +kernel
theorem d7_6 : decode jdk_44_method_1_code 6 = .ok (.invokestatic 7, 3) := by decide +kernel
theorem d7_9 : decode jdk_44_method_1_code 9 = .ok (.putfield 13, 3) := by decide +kernel
theorem d7_12 : decode jdk_44_method_1_code 12 = .ok (.aload_n 0, 1) := by decide +kernel
theorem d7_13 : decode jdk_44_method_1_code 13 = .ok (.getstatic 19, 3) := by decide +kernel
theorem d7_16 : decode jdk_44_method_1_code 16 = .ok (.putfield 24, 3) := by decide +kernel
theorem d7_19 : decode jdk_44_method_1_code 19 = .ok (.return_, 1) := by decide +kernel
def Q_own_l1 (Z : State) (G5 : Value) (a : Addr) (f : Addr) (h0 : Heap) (n0 : Nat) (v : Option Value) (h : Heap) (L : List Loc) : Prop := v = none ∧ Fr n0 L ∧ Keep h0 h [a] ∧ Exa Z h a "java/util/ImmutableCollections$List12" ∧ Fld Z h a "java/util/ImmutableCollections$List12" "e0" "Ljava/lang/Object;" (.ref f)
set_option maxRecDepth 65536 in
set_option maxHeartbeats 40000000 in
theorem own_l1 (l : Launch) (Z : State) (a0 : Array Value) (hw : ∀ d ∈ tables_1, d.before a0 Z = true) (ws : List Jvm.Cond) (G5 : Value) (a : Addr) (f : Addr) (h0 : Heap) (n0 : Nat) (Z0 : n0 ≤ h0.size) (EM : Sta Z Z.heap "java/util/ImmutableCollections" "EMPTY" "Ljava/lang/Object;" G5) (rG5 : G5.isRef = true) (OLD0 : Old Z n0 h0) (E_a : Exa Z h0 a "java/util/ImmutableCollections$List12") (ge_a : n0 ≤ a) (F_e0_a : Fld Z h0 a "java/util/ImmutableCollections$List12" "e0" "Ljava/lang/Object;" .null) (F_e1_a : Fld Z h0 a "java/util/ImmutableCollections$List12" "e1" "Ljava/lang/Object;" .null) :
    MetFree l (⟨"java/util/ImmutableCollections$List12", "<init>", "(Ljava/lang/Object;)V"⟩ : MethodName) (head1 (Jvm.Cond.code (⟨"java/util/ImmutableCollections$List12", "<init>", "(Ljava/lang/Object;)V"⟩ : MethodName) jdk_44_method_1_code 2 none :: ws) ({ frames := 4, cells := 0, slots := 0, locals := 48 } : Room)) (fun ag U => ag = #[(.ref a), (.ref f)] ∧ Z.Warmed39 U.vm ∧ U.heap = h0) (fun _ _ _ _ _ => True) (fun _ U o U' => ∃ v L, o = .returned v ∧ Q_own_l1 Z G5 a f h0 n0 v U'.heap L ∧ FrameEnd U o U' L ({ frames := 4, cells := 0, slots := 0, locals := 48 } : Room).cells ({ frames := 4, cells := 0, slots := 0, locals := 48 } : Room).slots) := by
  refine own_body (plainFor_of_name pn_7) ?_
  intro p e s m below meth c s₁ Bd hml hZ e0
  have hx := Bd.exec
  have hby := Bd.bytes
  have hlk : meth.locks = false := BodyLoose.notSynchronized Bd
  have hown : s.vm.findClass "java/util/ImmutableCollections$List12" = some m.cls := findClass_of_methodNamed Bd.named
  have hnm := (name_of_methodNamed Bd.named Bd.method).1
  have X0 : Stand p l e ({ frames := 4, cells := 0, slots := 0, locals := 48 } : Room) s m #[(.ref a), (.ref f)] below meth c s₁ [] 0 0 := Stand.of_body Bd
  have N0 := Fr.nil n0
  have KP0 : Keep h0 h0 [a] := Keep.refl h0 [a]
  have lt_a := E_a.lt
  refine own_cast (g' := (mkF m 0 #[.val (.ref a), .val (.ref f)] [])) (by first | (simp [entryFrame, mkF, argsToLocals, own_cat_int, own_cat_long, own_cat_ref, own_cat_null]; done) | rfl) ?_
  refine own_step (T' := s₁) (g' := (mkF m 1 #[.val (.ref a), .val (.ref f)] [(.ref a)])) (fun _ q => XS.aloadN X0.here hx rfl (hb hby d7_0) rfl rfl q) ?_
  refine own_callC X0 hx hZ hown rfl (w47 hw) (w48 hw) (w52 hw) (by decide) (backOf (W := 0) (own_sup2 l Z a0 hw [] a h0 n0 Z0 ) hZ (w52 hw) (w51 hw) (Nat.le_of_ble_eq_true rfl) (Nat.le_of_ble_eq_true rfl)) e0  (by first | decide | (dsimp only; omega)) (by first | decide | (dsimp only; omega)) (g := (mkF m 1 #[.val (.ref a), .val (.ref f)] [(.ref a)])) (argsL := []) (rest := []) rfl (by rw [hml]; rfl) (lenOf pd_0 rfl) rfl rfl (by show 2 * 0 + _ ≤ _; exact Nat.le_of_eq rfl) (hb hby d7_1) ?_
  rintro _ T218 L218 X218 ⟨rfl, N218q, e218⟩
  have N219 := Fr.app N0 N218q
  show own_Fin p e below _ T218 (mkF m 4 #[.val (.ref a), .val (.ref f)] [])
  refine own_step (T' := T218) (g' := (mkF m 5 #[.val (.ref a), .val (.ref f)] [(.ref a)])) (fun _ q => XS.aloadN X218.here hx rfl (hb hby d7_4) rfl rfl q) ?_
  refine own_step (T' := T218) (g' := (mkF m 6 #[.val (.ref a), .val (.ref f)] [(.ref f), (.ref a)])) (fun _ q => XS.aloadN X218.here hx rfl (hb hby d7_5) rfl rfl q) ?_
  refine own_callS X218 hx hZ hown (w66 hw) (w67 hw) (w68 hw) (w69 hw) (by decide) (backOf (W := 1) (own_rnn l Z a0 hw [] f h0 n0 Z0 ) hZ (w69 hw) (w68 hw) (Nat.le_of_ble_eq_true rfl) (Nat.le_of_ble_eq_true rfl)) e218  (by first | decide | (dsimp only; omega)) (by first | decide | (dsimp only; omega)) (g := (mkF m 6 #[.val (.ref a), .val (.ref f)] [(.ref f), (.ref a)])) (argsL := [(.ref f)]) (rest := [(.ref a)]) rfl (by rw [hml]; rfl) (lenOf pd_7 rfl) rfl rfl (by show 2 * 0 + _ ≤ _; exact Nat.le_of_eq rfl) (hb hby d7_6) ?_
  rintro _ T220 L220 X220 ⟨rfl, N220q, e220⟩
  have N221 := Fr.app N219 N220q
  show own_Fin p e below _ T220 (mkF m 9 #[.val (.ref a), .val (.ref f)] [(.ref f), (.ref a)])
  obtain ⟨T222, h222, X222, e222, W222, st222⟩ := putF X220 hx hZ hown (host := "") (Or.inl (w70 hw)) Via.refl e220 F_e0_a E_a (Or.inr ⟨(w71 hw), rfl, hnm⟩) (w41 hw) (ty := (.object "java/lang/Object")) (by decide) rfl rfl (g := (mkF m 9 #[.val (.ref a), .val (.ref f)] [(.ref f), (.ref a)])) rfl rfl (hb hby d7_9)
  have F223 := F_e0_a.same W222
  have N224 := Fr.snoc X222 N221 ge_a
  refine own_step (T' := T222) (g' := (mkF m 12 #[.val (.ref a), .val (.ref f)] [])) st222 ?_
  refine own_step (T' := T222) (g' := (mkF m 13 #[.val (.ref a), .val (.ref f)] [(.ref a)])) (fun _ q => XS.aloadN X222.here hx rfl (hb hby d7_12) rfl rfl q) ?_
  have c226 := (OLD0.wr W222 ge_a)
  obtain ⟨T225, X225, e225, st225⟩ := getS2 X222 hx hZ hown (Or.inr (w72 hw)) Via.refl e222 (EM.ext c226.2) (g := (mkF m 13 #[.val (.ref a), .val (.ref f)] [(.ref a)])) rfl (hb hby d7_13)
  refine own_step (T' := T225) (g' := (mkF m 16 #[.val (.ref a), .val (.ref f)] [G5, (.ref a)])) st225 ?_
  have c227 := (E_a.wr W222)
  have c228 := (F_e1_a.other W222 (Or.inr (RoadKit.slot_ne (t := (.object "java/lang/Object")) (t' := (.object "java/lang/Object")) (Or.inr (w75 hw)) (Or.inr (w71 hw)) (by decide) (by decide) (by decide))))
  obtain ⟨T229, h229, X229, e229, W229, st229⟩ := putF X225 hx hZ hown (host := "") (Or.inl (w74 hw)) Via.refl e225 c228 c227 (Or.inr ⟨(w75 hw), rfl, hnm⟩) (w41 hw) (ty := (.object "java/lang/Object")) (by decide) (own_narR rG5 rfl) (own_fitR rG5 rfl) (g := (mkF m 16 #[.val (.ref a), .val (.ref f)] [G5, (.ref a)])) rfl rfl (hb hby d7_16)
  have F230 := c228.same W229
  have N231 := Fr.snoc X229 N224 ge_a
  refine own_step (T' := T229) (g' := (mkF m 19 #[.val (.ref a), .val (.ref f)] [])) st229 ?_
  have c232 := ((KP0.wr W222 (Or.inl (List.mem_of_getElem? (i := 0) rfl))).wr W229 (Or.inl (List.mem_of_getElem? (i := 0) rfl)))
  have c233 := (c227.wr W229)
  have c234 := (F223.other W229 (Or.inr (RoadKit.slot_ne (t := (.object "java/lang/Object")) (t' := (.object "java/lang/Object")) (Or.inr (w71 hw)) (Or.inr (w75 hw)) (by decide) (by decide) (by decide))))
  exact own_retV X229 hx Bd.returns (hb hby d7_19) hlk (by rw [e229]; exact ⟨rfl, N231, c232, c233, c234⟩) (by first | decide | (dsimp only; omega)) (by first | decide | (dsimp only; omega))
theorem d21_0 : decode jdk_44_method_2_code 0 = .ok (.aload_n 0, 1) := by decide +kernel
theorem d21_1 : decode jdk_44_method_2_code 1 = .ok (.invokespecial 1, 3) := by decide +kernel
theorem d21_4 : decode jdk_44_method_2_code 4 = .ok (.aload_n 0, 1) := by decide +kernel
theorem d21_5 : decode jdk_44_method_2_code 5 = .ok (.aload_n 1, 1) := by decide +kernel
theorem d21_6 : decode jdk_44_method_2_code 6 = .ok (.invokestatic 7, 3) := by decide +kernel
theorem d21_9 : decode jdk_44_method_2_code 9 = .ok (.putfield 13, 3) := by decide +kernel
theorem d21_12 : decode jdk_44_method_2_code 12 = .ok (.aload_n 0, 1) := by decide +kernel
theorem d21_13 : decode jdk_44_method_2_code 13 = .ok (.aload_n 2, 1) := by decide +kernel
theorem d21_14 : decode jdk_44_method_2_code 14 = .ok (.invokestatic 7, 3) := by decide +kernel
theorem d21_17 : decode jdk_44_method_2_code 17 = .ok (.putfield 24, 3) := by decide +kernel
theorem d21_20 : decode jdk_44_method_2_code 20 = .ok (.return_, 1) := by decide +kernel
def Q_own_l2 (Z : State) (a : Addr) (f : Addr) (f2 : Addr) (h0 : Heap) (n0 : Nat) (v : Option Value) (h : Heap) (L : List Loc) : Prop := v = none ∧ Fr n0 L ∧ Keep h0 h [a] ∧ Exa Z h a "java/util/ImmutableCollections$List12" ∧ Fld Z h a "java/util/ImmutableCollections$List12" "e0" "Ljava/lang/Object;" (.ref f)
set_option maxRecDepth 65536 in
set_option maxHeartbeats 40000000 in
theorem own_l2 (l : Launch) (Z : State) (a0 : Array Value) (hw : ∀ d ∈ tables_1, d.before a0 Z = true) (ws : List Jvm.Cond) (a : Addr) (f : Addr) (f2 : Addr) (h0 : Heap) (n0 : Nat) (Z0 : n0 ≤ h0.size) (E_a : Exa Z h0 a "java/util/ImmutableCollections$List12") (ge_a : n0 ≤ a) (F_e0_a : Fld Z h0 a "java/util/ImmutableCollections$List12" "e0" "Ljava/lang/Object;" .null) (F_e1_a : Fld Z h0 a "java/util/ImmutableCollections$List12" "e1" "Ljava/lang/Object;" .null) :
    MetFree l (⟨"java/util/ImmutableCollections$List12", "<init>", "(Ljava/lang/Object;Ljava/lang/Object;)V"⟩ : MethodName) (head1 (Jvm.Cond.code (⟨"java/util/ImmutableCollections$List12", "<init>", "(Ljava/lang/Object;Ljava/lang/Object;)V"⟩ : MethodName) jdk_44_method_2_code 3 none :: ws) ({ frames := 4, cells := 0, slots := 0, locals := 48 } : Room)) (fun ag U => ag = #[(.ref a), (.ref f), (.ref f2)] ∧ Z.Warmed39 U.vm ∧ U.heap = h0) (fun _ _ _ _ _ => True) (fun _ U o U' => ∃ v L, o = .returned v ∧ Q_own_l2 Z a f f2 h0 n0 v U'.heap L ∧ FrameEnd U o U' L ({ frames := 4, cells := 0, slots := 0, locals := 48 } : Room).cells ({ frames := 4, cells := 0, slots := 0, locals := 48 } : Room).slots) := by
  refine own_body (plainFor_of_name pn_7) ?_
  intro p e s m below meth c s₁ Bd hml hZ e0
  have hx := Bd.exec
  have hby := Bd.bytes
  have hlk : meth.locks = false := BodyLoose.notSynchronized Bd
  have hown : s.vm.findClass "java/util/ImmutableCollections$List12" = some m.cls := findClass_of_methodNamed Bd.named
  have hnm := (name_of_methodNamed Bd.named Bd.method).1
  have X0 : Stand p l e ({ frames := 4, cells := 0, slots := 0, locals := 48 } : Room) s m #[(.ref a), (.ref f), (.ref f2)] below meth c s₁ [] 0 0 := Stand.of_body Bd
  have N0 := Fr.nil n0
  have KP0 : Keep h0 h0 [a] := Keep.refl h0 [a]
  have lt_a := E_a.lt
  refine own_cast (g' := (mkF m 0 #[.val (.ref a), .val (.ref f), .val (.ref f2)] [])) (by first | (simp [entryFrame, mkF, argsToLocals, own_cat_int, own_cat_long, own_cat_ref, own_cat_null]; done) | rfl) ?_
  refine own_step (T' := s₁) (g' := (mkF m 1 #[.val (.ref a), .val (.ref f), .val (.ref f2)] [(.ref a)])) (fun _ q => XS.aloadN X0.here hx rfl (hb hby d21_0) rfl rfl q) ?_
  refine own_callC X0 hx hZ hown rfl (w47 hw) (w48 hw) (w52 hw) (by decide) (backOf (W := 0) (own_sup2 l Z a0 hw [] a h0 n0 Z0 ) hZ (w52 hw) (w51 hw) (Nat.le_of_ble_eq_true rfl) (Nat.le_of_ble_eq_true rfl)) e0  (by first | decide | (dsimp only; omega)) (by first | decide | (dsimp only; omega)) (g := (mkF m 1 #[.val (.ref a), .val (.ref f), .val (.ref f2)] [(.ref a)])) (argsL := []) (rest := []) rfl (by rw [hml]; rfl) (lenOf pd_0 rfl) rfl rfl (by show 2 * 0 + _ ≤ _; exact Nat.le_of_eq rfl) (hb hby d21_1) ?_
  rintro _ T235 L235 X235 ⟨rfl, N235q, e235⟩
  have N236 := Fr.app N0 N235q
  show own_Fin p e below _ T235 (mkF m 4 #[.val (.ref a), .val (.ref f), .val (.ref f2)] [])
  refine own_step (T' := T235) (g' := (mkF m 5 #[.val (.ref a), .val (.ref f), .val (.ref f2)] [(.ref a)])) (fun _ q => XS.aloadN X235.here hx rfl (hb hby d21_4) rfl rfl q) ?_
  refine own_step (T' := T235) (g' := (mkF m 6 #[.val (.ref a), .val (.ref f), .val (.ref f2)] [(.ref f), (.ref a)])) (fun _ q => XS.aloadN X235.here hx rfl (hb hby d21_5) rfl rfl q) ?_
  refine own_callS X235 hx hZ hown (w66 hw) (w67 hw) (w68 hw) (w69 hw) (by decide) (backOf (W := 1) (own_rnn l Z a0 hw [] f h0 n0 Z0 ) hZ (w69 hw) (w68 hw) (Nat.le_of_ble_eq_true rfl) (Nat.le_of_ble_eq_true rfl)) e235  (by first | decide | (dsimp only; omega)) (by first | decide | (dsimp only; omega)) (g := (mkF m 6 #[.val (.ref a), .val (.ref f), .val (.ref f2)] [(.ref f), (.ref a)])) (argsL := [(.ref f)]) (rest := [(.ref a)]) rfl (by rw [hml]; rfl) (lenOf pd_7 rfl) rfl rfl (by show 2 * 0 + _ ≤ _; exact Nat.le_of_eq rfl) (hb hby d21_6) ?_
  rintro _ T237 L237 X237 ⟨rfl, N237q, e237⟩
  have N238 := Fr.app N236 N237q
  show own_Fin p e below _ T237 (mkF m 9 #[.val (.ref a), .val (.ref f), .val (.ref f2)] [(.ref f), (.ref a)])
  obtain ⟨T239, h239, X239, e239, W239, st239⟩ := putF X237 hx hZ hown (host := "") (Or.inl (w70 hw)) Via.refl e237 F_e0_a E_a (Or.inr ⟨(w71 hw), rfl, hnm⟩) (w41 hw) (ty := (.object "java/lang/Object")) (by decide) rfl rfl (g := (mkF m 9 #[.val (.ref a), .val (.ref f), .val (.ref f2)] [(.ref f), (.ref a)])) rfl rfl (hb hby d21_9)
  have F240 := F_e0_a.same W239
  have N241 := Fr.snoc X239 N238 ge_a
  refine own_step (T' := T239) (g' := (mkF m 12 #[.val (.ref a), .val (.ref f), .val (.ref f2)] [])) st239 ?_
  refine own_step (T' := T239) (g' := (mkF m 13 #[.val (.ref a), .val (.ref f), .val (.ref f2)] [(.ref a)])) (fun _ q => XS.aloadN X239.here hx rfl (hb hby d21_12) rfl rfl q) ?_
  refine own_step (T' := T239) (g' := (mkF m 14 #[.val (.ref a), .val (.ref f), .val (.ref f2)] [(.ref f2), (.ref a)])) (fun _ q => XS.aloadN X239.here hx rfl (hb hby d21_13) rfl rfl q) ?_
  have c242 := (Nat.le_trans Z0 (Keep.of_wr W239).1)
  refine own_callS X239 hx hZ hown (w66 hw) (w67 hw) (w68 hw) (w69 hw) (by decide) (backOf (W := 1) (own_rnn l Z a0 hw [] f2 h239 n0 c242 ) hZ (w69 hw) (w68 hw) (Nat.le_of_ble_eq_true rfl) (Nat.le_of_ble_eq_true rfl)) e239  (by first | decide | (dsimp only; omega)) (by first | decide | (dsimp only; omega)) (g := (mkF m 14 #[.val (.ref a), .val (.ref f), .val (.ref f2)] [(.ref f2), (.ref a)])) (argsL := [(.ref f2)]) (rest := [(.ref a)]) rfl (by rw [hml]; rfl) (lenOf pd_7 rfl) rfl rfl (by show 2 * 0 + _ ≤ _; exact Nat.le_of_eq rfl) (hb hby d21_14) ?_
  rintro _ T243 L243 X243 ⟨rfl, N243q, e243⟩
  have N244 := Fr.app N241 N243q
  show own_Fin p e below _ T243 (mkF m 17 #[.val (.ref a), .val (.ref f), .val (.ref f2)] [(.ref f2), (.ref a)])
  have c245 := (E_a.wr W239)
  have c246 := (F_e1_a.other W239 (Or.inr (RoadKit.slot_ne (t := (.object "java/lang/Object")) (t' := (.object "java/lang/Object")) (Or.inr (w75 hw)) (Or.inr (w71 hw)) (by decide) (by decide) (by decide))))
  obtain ⟨T247, h247, X247, e247, W247, st247⟩ := putF X243 hx hZ hown (host := "") (Or.inl (w74 hw)) Via.refl e243 c246 c245 (Or.inr ⟨(w75 hw), rfl, hnm⟩) (w41 hw) (ty := (.object "java/lang/Object")) (by decide) rfl rfl (g := (mkF m 17 #[.val (.ref a), .val (.ref f), .val (.ref f2)] [(.ref f2), (.ref a)])) rfl rfl (hb hby d21_17)
  have F248 := c246.same W247
  have N249 := Fr.snoc X247 N244 ge_a
  refine own_step (T' := T247) (g' := (mkF m 20 #[.val (.ref a), .val (.ref f), .val (.ref f2)] [])) st247 ?_
  have c250 := ((KP0.wr W239 (Or.inl (List.mem_of_getElem? (i := 0) rfl))).wr W247 (Or.inl (List.mem_of_getElem? (i := 0) rfl)))
  have c251 := (c245.wr W247)
  have c252 := (F240.other W247 (Or.inr (RoadKit.slot_ne (t := (.object "java/lang/Object")) (t' := (.object "java/lang/Object")) (Or.inr (w71 hw)) (Or.inr (w75 hw)) (by decide) (by decide) (by decide))))
  exact own_retV X247 hx Bd.returns (hb hby d21_20) hlk (by rw [e247]; exact ⟨rfl, N249, c250, c251, c252⟩) (by first | decide | (dsimp only; omega)) (by first | decide | (dsimp only; omega))
theorem pn_8 : plainName "java/util/ImmutableCollections$ListN" = true := by first | (simp [plainName, overriddenIn]; done) | decide +kernel
theorem d26_0 : decode jdk_45_method_1_code 0 = .ok (.aload_n 0, 1) := by decide +kernel
theorem d26_1 : decode jdk_45_method_1_code 1 = .ok (.invokespecial 1, 3) := by decide +kernel
theorem d26_4 : decode jdk_45_method_1_code 4 = .ok (.aload_n 0, 1) := by decide +kernel
theorem d26_5 : decode jdk_45_method_1_code 5 = .ok (.aload_n 1, 1) := by decide +kernel
theorem d26_6 : decode jdk_45_method_1_code 6 = .ok (.putfield 7, 3) := by decide +kernel
theorem d26_9 : decode jdk_45_method_1_code 9 = .ok (.aload_n 0, 1) := by decide +kernel
theorem d26_10 : decode jdk_45_method_1_code 10 = .ok (.iload_n 2, 1) := by decide +kernel
theorem d26_11 : decode jdk_45_method_1_code 11 = .ok (.putfield 13, 3) := by decide +kernel
theorem d26_14 : decode jdk_45_method_1_code 14 = .ok (.return_, 1) := by decide +kernel
def Q_own_ln (Z : State) (a : Addr) (b : Addr) (h0 : Heap) (n0 : Nat) (v : Option Value) (h : Heap) (L : List Loc) : Prop := v = none ∧ Fr n0 L ∧ Keep h0 h [a] ∧ Exa Z h a "java/util/ImmutableCollections$ListN" ∧ Fld Z h a "java/util/ImmutableCollections$ListN" "elements" "[Ljava/lang/Object;" (.ref b)
set_option maxRecDepth 65536 in
set_option maxHeartbeats 40000000 in
theorem own_ln (l : Launch) (Z : State) (a0 : Array Value) (hw : ∀ d ∈ tables_1, d.before a0 Z = true) (ws : List Jvm.Cond) (a : Addr) (b : Addr) (h0 : Heap) (n0 : Nat) (Z0 : n0 ≤ h0.size) (E_a : Exa Z h0 a "java/util/ImmutableCollections$ListN") (ge_a : n0 ≤ a) (F_elements_a : Fld Z h0 a "java/util/ImmutableCollections$ListN" "elements" "[Ljava/lang/Object;" .null) (F_allowNulls_a : Fld Z h0 a "java/util/ImmutableCollections$ListN" "allowNulls" "Z" (.int (0 : Int32))) :
    MetFree l (⟨"java/util/ImmutableCollections$ListN", "<init>", "([Ljava/lang/Object;Z)V"⟩ : MethodName) (head1 (Jvm.Cond.code (⟨"java/util/ImmutableCollections$ListN", "<init>", "([Ljava/lang/Object;Z)V"⟩ : MethodName) jdk_45_method_1_code 3 none :: ws) ({ frames := 4, cells := 0, slots := 0, locals := 48 } : Room)) (fun ag U => ag = #[(.ref a), (.ref b), (.int (0 : Int32))] ∧ Z.Warmed39 U.vm ∧ U.heap = h0) (fun _ _ _ _ _ => True) (fun _ U o U' => ∃ v L, o = .returned v ∧ Q_own_ln Z a b h0 n0 v U'.heap L ∧ FrameEnd U o U' L ({ frames := 4, cells := 0, slots := 0, locals := 48 } : Room).cells ({ frames := 4, cells := 0, slots := 0, locals := 48 } : Room).slots) := by
  refine own_body (plainFor_of_name pn_8) ?_
  intro p e s m below meth c s₁ Bd hml hZ e0
  have hx := Bd.exec
  have hby := Bd.bytes
  have hlk : meth.locks = false := BodyLoose.notSynchronized Bd
  have hown : s.vm.findClass "java/util/ImmutableCollections$ListN" = some m.cls := findClass_of_methodNamed Bd.named
  have hnm := (name_of_methodNamed Bd.named Bd.method).1
  have X0 : Stand p l e ({ frames := 4, cells := 0, slots := 0, locals := 48 } : Room) s m #[(.ref a), (.ref b), (.int (0 : Int32))] below meth c s₁ [] 0 0 := Stand.of_body Bd
  have N0 := Fr.nil n0
  have KP0 : Keep h0 h0 [a] := Keep.refl h0 [a]
  have lt_a := E_a.lt
  refine own_cast (g' := (mkF m 0 #[.val (.ref a), .val (.ref b), .val (.int (0 : Int32))] [])) (by first | (simp [entryFrame, mkF, argsToLocals, own_cat_int, own_cat_long, own_cat_ref, own_cat_null]; done) | rfl) ?_
  refine own_step (T' := s₁) (g' := (mkF m 1 #[.val (.ref a), .val (.ref b), .val (.int (0 : Int32))] [(.ref a)])) (fun _ q => XS.aloadN X0.here hx rfl (hb hby d26_0) rfl rfl q) ?_
  refine own_callC X0 hx hZ hown rfl (w150 hw) (w48 hw) (w52 hw) (by decide) (backOf (W := 0) (own_sup2 l Z a0 hw [] a h0 n0 Z0 ) hZ (w52 hw) (w51 hw) (Nat.le_of_ble_eq_true rfl) (Nat.le_of_ble_eq_true rfl)) e0  (by first | decide | (dsimp only; omega)) (by first | decide | (dsimp only; omega)) (g := (mkF m 1 #[.val (.ref a), .val (.ref b), .val (.int (0 : Int32))] [(.ref a)])) (argsL := []) (rest := []) rfl (by rw [hml]; rfl) (lenOf pd_0 rfl) rfl rfl (by show 2 * 0 + _ ≤ _; exact Nat.le_of_eq rfl) (hb hby d26_1) ?_
  rintro _ T253 L253 X253 ⟨rfl, N253q, e253⟩
  have N254 := Fr.app N0 N253q
  show own_Fin p e below _ T253 (mkF m 4 #[.val (.ref a), .val (.ref b), .val (.int (0 : Int32))] [])
  refine own_step (T' := T253) (g' := (mkF m 5 #[.val (.ref a), .val (.ref b), .val (.int (0 : Int32))] [(.ref a)])) (fun _ q => XS.aloadN X253.here hx rfl (hb hby d26_4) rfl rfl q) ?_
  refine own_step (T' := T253) (g' := (mkF m 6 #[.val (.ref a), .val (.ref b), .val (.int (0 : Int32))] [(.ref b), (.ref a)])) (fun _ q => XS.aloadN X253.here hx rfl (hb hby d26_5) rfl rfl q) ?_
  obtain ⟨T255, h255, X255, e255, W255, st255⟩ := putF X253 hx hZ hown (host := "") (Or.inl (w154 hw)) Via.refl e253 F_elements_a E_a (Or.inr ⟨(w155 hw), rfl, hnm⟩) (w144 hw) (ty := (.array (.object "java/lang/Object"))) (by decide) rfl rfl (g := (mkF m 6 #[.val (.ref a), .val (.ref b), .val (.int (0 : Int32))] [(.ref b), (.ref a)])) rfl rfl (hb hby d26_6)
  have F256 := F_elements_a.same W255
  have N257 := Fr.snoc X255 N254 ge_a
  refine own_step (T' := T255) (g' := (mkF m 9 #[.val (.ref a), .val (.ref b), .val (.int (0 : Int32))] [])) st255 ?_
  refine own_step (T' := T255) (g' := (mkF m 10 #[.val (.ref a), .val (.ref b), .val (.int (0 : Int32))] [(.ref a)])) (fun _ q => XS.aloadN X255.here hx rfl (hb hby d26_9) rfl rfl q) ?_
  refine own_step (T' := T255) (g' := (mkF m 11 #[.val (.ref a), .val (.ref b), .val (.int (0 : Int32))] [(.int (0 : Int32)), (.ref a)])) (fun _ q => XS.iloadN X255.here hx rfl (hb hby d26_10) rfl q) ?_
  have c258 := (E_a.wr W255)
  have c259 := (F_allowNulls_a.other W255 (Or.inr (RoadKit.slot_ne (t := .boolean) (t' := (.array (.object "java/lang/Object"))) (Or.inr (w157 hw)) (Or.inr (w155 hw)) (by decide) (by decide) (by decide))))
  obtain ⟨T260, h260, X260, e260, W260, st260⟩ := putFN X255 hx hZ hown (w156 hw) Via.refl e255 c259 c258 (Or.inr ⟨(w157 hw), rfl, hnm⟩) (w144 hw) (ty := .boolean) (v' := (.int (0 : Int32))) (by decide) rfl rfl (g := (mkF m 11 #[.val (.ref a), .val (.ref b), .val (.int (0 : Int32))] [(.int (0 : Int32)), (.ref a)])) rfl rfl (hb hby d26_11)
  have F261 := c259.same W260
  have N262 := Fr.snoc X260 N257 ge_a
  refine own_step (T' := T260) (g' := (mkF m 14 #[.val (.ref a), .val (.ref b), .val (.int (0 : Int32))] [])) st260 ?_
  have c263 := ((KP0.wr W255 (Or.inl (List.mem_of_getElem? (i := 0) rfl))).wr W260 (Or.inl (List.mem_of_getElem? (i := 0) rfl)))
  have c264 := (c258.wr W260)
  have c265 := (F256.other W260 (Or.inr (RoadKit.slot_ne (t := (.array (.object "java/lang/Object"))) (t' := .boolean) (Or.inr (w155 hw)) (Or.inr (w157 hw)) (by decide) (by decide) (by decide))))
  exact own_retV X260 hx Bd.returns (hb hby d26_14) hlk (by rw [e260]; exact ⟨rfl, N262, c263, c264, c265⟩) (by first | decide | (dsimp only; omega)) (by first | decide | (dsimp only; omega))
theorem pn_9 : plainName "java/util/ImmutableCollections" = true := by first | (simp [plainName, overriddenIn]; done) | decide +kernel
theorem pd_8 : parseMethodDescriptor "([Ljava/lang/Object;Z)V" = some ⟨[(.array (.object "java/lang/Object")), .boolean], none⟩ := by decide +kernel
theorem d25_0 : decode jdk_56_method_4_code 0 = .ok (.aload_n 0, 1) := by decide +kernel
theorem d25_1 : decode jdk_56_method_4_code 1 = .ok (.arraylength, 1) := by decide +kernel
theorem d25_2 : decode jdk_56_method_4_code 2 = .ok (.anewarray 2, 3) := by decide +kernel
theorem d25_5 : decode jdk_56_method_4_code 5 = .ok (.astore_n 1, 1) := by decide +kernel
theorem d25_6 : decode jdk_56_method_4_code 6 = .ok (.iconst 0, 1) := by decide +kernel
theorem d25_7 : decode jdk_56_method_4_code 7 = .ok (.istore_n 2, 1) := by decide +kernel
theorem d25_8 : decode jdk_56_method_4_code 8 = .ok (.iload_n 2, 1) := by decide +kernel
theorem d25_9 : decode jdk_56_method_4_code 9 = .ok (.aload_n 0, 1) := by decide +kernel
theorem d25_10 : decode jdk_56_method_4_code 10 = .ok (.arraylength, 1) := by decide +kernel
theorem d25_11 : decode jdk_56_method_4_code 11 = .ok (.if_icmp .ge 18, 3) := by decide +kernel
theorem d25_14 : decode jdk_56_method_4_code 14 = .ok (.aload_n 1, 1) := by decide +kernel
theorem d25_15 : decode jdk_56_method_4_code 15 = .ok (.iload_n 2, 1) := by decide +kernel
theorem d25_16 : decode jdk_56_method_4_code 16 = .ok (.aload_n 0, 1) := by decide +kernel
theorem d25_17 : decode jdk_56_method_4_code 17 = .ok (.iload_n 2, 1) := by decide +kernel
theorem d25_18 : decode jdk_56_method_4_code 18 = .ok (.aaload, 1) := by decide +kernel
theorem d25_19 : decode jdk_56_method_4_code 19 = .ok (.invokestatic 37, 3) := by decide +kernel
theorem d25_22 : decode jdk_56_method_4_code 22 = .ok (.aastore, 1) := by decide +kernel
theorem d25_23 : decode jdk_56_method_4_code 23 = .ok (.iinc 2 1, 3) := by decide +kernel
theorem d25_26 : decode jdk_56_method_4_code 26 = .ok (.goto (-18), 3) := by decide +kernel
theorem d25_29 : decode jdk_56_method_4_code 29 = .ok (.new 12, 3) := by decide +kernel
theorem d25_32 : decode jdk_56_method_4_code 32 = .ok (.dup, 1) := by decide +kernel
theorem d25_33 : decode jdk_56_method_4_code 33 = .ok (.aload_n 1, 1) := by decide +kernel
theorem d25_34 : decode jdk_56_method_4_code 34 = .ok (.iconst 0, 1) := by decide +kernel
theorem d25_35 : decode jdk_56_method_4_code 35 = .ok (.invokespecial 43, 3) := by decide +kernel
theorem d25_38 : decode jdk_56_method_4_code 38 = .ok (.areturn, 1) := by decide +kernel
def Q_own_lfa (Z : State) (b : Addr) (ks : ClassId) (f : Addr) (f2 : Addr) (f3 : Addr) (h0 : Heap) (n0 : Nat) (v : Option Value) (h : Heap) (L : List Loc) : Prop := ∃ (a : Addr), ∃ (t : Addr), ∃ (kt : ClassId), v = some (.ref a) ∧ Fr n0 L ∧ Keep h0 h [] ∧ h0.size ≤ a ∧ h0.size ≤ t ∧ Exa Z h a "java/util/ImmutableCollections$ListN" ∧ Fld Z h a "java/util/ImmutableCollections$ListN" "elements" "[Ljava/lang/Object;" (.ref t) ∧ Arv Z h t kt (.object "java/lang/Object") (3 : Int32) [(.ref f), (.ref f2), (.ref f3)] .null
set_option maxRecDepth 65536 in
set_option maxHeartbeats 40000000 in
theorem own_lfa (l : Launch) (Z : State) (a0 : Array Value) (hw : ∀ d ∈ tables_1, d.before a0 Z = true) (ws : List Jvm.Cond) (b : Addr) (ks : ClassId) (f : Addr) (f2 : Addr) (f3 : Addr) (h0 : Heap) (n0 : Nat) (Z0 : n0 ≤ h0.size) (V_b : Arv Z h0 b ks (.object "java/lang/String") (3 : Int32) [(.ref f), (.ref f2), (.ref f3)] .null) (E_f : Exa Z h0 f "java/lang/String") (E_f2 : Exa Z h0 f2 "java/lang/String") (E_f3 : Exa Z h0 f3 "java/lang/String") :
    MetFree l (⟨"java/util/ImmutableCollections", "listFromArray", "([Ljava/lang/Object;)Ljava/util/List;"⟩ : MethodName) (head1 (Jvm.Cond.code (⟨"java/util/ImmutableCollections", "listFromArray", "([Ljava/lang/Object;)Ljava/util/List;"⟩ : MethodName) jdk_56_method_4_code 3 (some (.object "java/util/List")) :: ws) ({ frames := 5, cells := 2, slots := 5, locals := 63 } : Room)) (fun ag U => ag = #[(.ref b)] ∧ Z.Warmed39 U.vm ∧ U.heap = h0) (fun _ _ _ _ _ => True) (fun _ U o U' => ∃ v L, o = .returned v ∧ Q_own_lfa Z b ks f f2 f3 h0 n0 v U'.heap L ∧ FrameEnd U o U' L ({ frames := 5, cells := 2, slots := 5, locals := 63 } : Room).cells ({ frames := 5, cells := 2, slots := 5, locals := 63 } : Room).slots) := by
  refine own_body (plainFor_of_name pn_9) ?_
  intro p e s m below meth c s₁ Bd hml hZ e0
  have hx := Bd.exec
  have hby := Bd.bytes
  have hlk : meth.locks = false := BodyLoose.notSynchronized Bd
  have hown : s.vm.findClass "java/util/ImmutableCollections" = some m.cls := findClass_of_methodNamed Bd.named
  have hnm := (name_of_methodNamed Bd.named Bd.method).1
  have X0 : Stand p l e ({ frames := 5, cells := 2, slots := 5, locals := 63 } : Room) s m #[(.ref b)] below meth c s₁ [] 0 0 := Stand.of_body Bd
  have N0 := Fr.nil n0
  have KP0 : Keep h0 h0 [] := Keep.refl h0 []
  have lt_b := V_b.lt
  have lt_f := E_f.lt
  have lt_f2 := E_f2.lt
  have lt_f3 := E_f3.lt
  have ty_b_f : b ≠ f := (Ne.symm (Exa.neArv E_f V_b (w5 hw)))
  have ty_b_f2 : b ≠ f2 := (Ne.symm (Exa.neArv E_f2 V_b (w5 hw)))
  have ty_b_f3 : b ≠ f3 := (Ne.symm (Exa.neArv E_f3 V_b (w5 hw)))
  refine own_cast (g' := (mkF m 0 #[.val (.ref b), .unset, .unset] [])) (by first | (simp [entryFrame, mkF, argsToLocals, own_cat_int, own_cat_long, own_cat_ref, own_cat_null]; done) | rfl) ?_
  refine own_step (T' := s₁) (g' := (mkF m 1 #[.val (.ref b), .unset, .unset] [(.ref b)])) (fun _ q => XS.aloadN X0.here hx rfl (hb hby d25_0) rfl rfl q) ?_
  refine own_step (T' := s₁) (g' := (mkF m 2 #[.val (.ref b), .unset, .unset] [(.int (3 : Int32))])) (fun _ q => own_len X0 hx hZ e0 V_b (g := (mkF m 1 #[.val (.ref b), .unset, .unset] [(.ref b)])) rfl rfl (hb hby d25_1) _ q) ?_
  obtain ⟨T266, h266, k266, X266, e266, E266, A266, O266, st266⟩ := newR X0 hx hZ hown (w139 hw) (w140 hw) e0 (g := (mkF m 2 #[.val (.ref b), .unset, .unset] [(.int (3 : Int32))])) rfl (hb hby d25_2) rfl (by decide) (cap := 3) (by decide) (by first | decide | omega) (by first | decide | (dsimp only; omega)) (by first | decide | (dsimp only; omega))
  obtain ⟨b266, g266⟩ : ∃ z, z = h0.size := ⟨_, rfl⟩
  rw [← g266] at A266 st266
  have n0_267 : n0 ≤ b266 := Nat.le_trans Z0 (Nat.le_of_eq g266.symm)
  have sz0_268 := Nat.le_trans KP0.1 (Nat.le_of_eq g266.symm)
  have ne269 : b ≠ b266 := own_ne lt_b (Nat.le_of_eq g266.symm)
  have ne270 : f ≠ b266 := own_ne lt_f (Nat.le_of_eq g266.symm)
  have ne271 : f2 ≠ b266 := own_ne lt_f2 (Nat.le_of_eq g266.symm)
  have ne272 : f3 ≠ b266 := own_ne lt_f3 (Nat.le_of_eq g266.symm)
  have V266 : Arv Z h266 b266 k266 (.object "java/lang/Object") (3 : Int32) [.null, .null, .null] .null := (Arv.new A266 (by decide)).pad (pad_rep [] .null 3)
  have ltb266 := V266.lt
  refine own_step (T' := T266) (g' := (mkF m 5 #[.val (.ref b), .unset, .unset] [(.ref b266)])) st266 ?_
  refine own_step (T' := T266) (g' := (mkF m 6 #[.val (.ref b), .val (.ref b266), .unset] [])) (fun _ q => XS.astoreN X266.here hx rfl (hb hby d25_5) rfl rfl (l' := #[.val (.ref b), .val (.ref b266), .unset]) rfl q) ?_
  refine own_step (T' := T266) (g' := (mkF m 7 #[.val (.ref b), .val (.ref b266), .unset] [(.int (0 : Int32))])) (fun _ q => XS.iconst X266.here hx rfl (hb hby d25_6) q) ?_
  refine own_step (T' := T266) (g' := (mkF m 8 #[.val (.ref b), .val (.ref b266), .val (.int (0 : Int32))] [])) (fun _ q => XS.istoreN X266.here hx rfl (hb hby d25_7) rfl (l' := #[.val (.ref b), .val (.ref b266), .val (.int (0 : Int32))]) rfl q) ?_
  refine own_step (T' := T266) (g' := (mkF m 9 #[.val (.ref b), .val (.ref b266), .val (.int (0 : Int32))] [(.int (0 : Int32))])) (fun _ q => XS.iloadN X266.here hx rfl (hb hby d25_8) rfl q) ?_
  refine own_step (T' := T266) (g' := (mkF m 10 #[.val (.ref b), .val (.ref b266), .val (.int (0 : Int32))] [(.ref b), (.int (0 : Int32))])) (fun _ q => XS.aloadN X266.here hx rfl (hb hby d25_9) rfl rfl q) ?_
  have c273 := (V_b.ext E266)
  refine own_step (T' := T266) (g' := (mkF m 11 #[.val (.ref b), .val (.ref b266), .val (.int (0 : Int32))] [(.int (3 : Int32)), (.int (0 : Int32))])) (fun _ q => own_len X266 hx hZ e266 c273 (g := (mkF m 10 #[.val (.ref b), .val (.ref b266), .val (.int (0 : Int32))] [(.ref b), (.int (0 : Int32))])) rfl rfl (hb hby d25_10) _ q) ?_
  refine own_step (T' := T266) (g' := (mkF m 14 #[.val (.ref b), .val (.ref b266), .val (.int (0 : Int32))] [])) (fun _ q => XS.icmpNo X266.here hx rfl (hb hby d25_11) rfl (by decide) q) ?_
  refine own_step (T' := T266) (g' := (mkF m 15 #[.val (.ref b), .val (.ref b266), .val (.int (0 : Int32))] [(.ref b266)])) (fun _ q => XS.aloadN X266.here hx rfl (hb hby d25_14) rfl rfl q) ?_
  refine own_step (T' := T266) (g' := (mkF m 16 #[.val (.ref b), .val (.ref b266), .val (.int (0 : Int32))] [(.int (0 : Int32)), (.ref b266)])) (fun _ q => XS.iloadN X266.here hx rfl (hb hby d25_15) rfl q) ?_
  refine own_step (T' := T266) (g' := (mkF m 17 #[.val (.ref b), .val (.ref b266), .val (.int (0 : Int32))] [(.ref b), (.int (0 : Int32)), (.ref b266)])) (fun _ q => XS.aloadN X266.here hx rfl (hb hby d25_16) rfl rfl q) ?_
  refine own_step (T' := T266) (g' := (mkF m 18 #[.val (.ref b), .val (.ref b266), .val (.int (0 : Int32))] [(.int (0 : Int32)), (.ref b), (.int (0 : Int32)), (.ref b266)])) (fun _ q => XS.iloadN X266.here hx rfl (hb hby d25_17) rfl q) ?_
  refine own_step (T' := T266) (g' := (mkF m 19 #[.val (.ref b), .val (.ref b266), .val (.int (0 : Int32))] [(.ref f), (.int (0 : Int32)), (.ref b266)])) (fun _ q => own_ldA X266 hx hZ e266 c273 rfl (j := (0 : Int32)) ⟨by decide, by decide⟩ (v := (.ref f)) rfl (g := (mkF m 18 #[.val (.ref b), .val (.ref b266), .val (.int (0 : Int32))] [(.int (0 : Int32)), (.ref b), (.int (0 : Int32)), (.ref b266)])) rfl rfl (hb hby d25_18) _ q) ?_
  have c274 := (Nat.le_trans Z0 E266.1)
  refine own_callS X266 hx hZ hown (w141 hw) (w67 hw) (w68 hw) (w69 hw) (by decide) (backOf (W := 2) (own_rnn l Z a0 hw [] f h266 n0 c274 ) hZ (w69 hw) (w68 hw) (Nat.le_of_ble_eq_true rfl) (Nat.le_of_ble_eq_true rfl)) e266  (by first | decide | (dsimp only; omega)) (by first | decide | (dsimp only; omega)) (g := (mkF m 19 #[.val (.ref b), .val (.ref b266), .val (.int (0 : Int32))] [(.ref f), (.int (0 : Int32)), (.ref b266)])) (argsL := [(.ref f)]) (rest := [(.int (0 : Int32)), (.ref b266)]) rfl (by rw [hml]; rfl) (lenOf pd_7 rfl) rfl rfl (by show 2 * 0 + _ ≤ _; exact Nat.le_of_eq rfl) (hb hby d25_19) ?_
  rintro _ T275 L275 X275 ⟨rfl, N275q, e275⟩
  have N276 := Fr.app N0 N275q
  show own_Fin p e below _ T275 (mkF m 22 #[.val (.ref b), .val (.ref b266), .val (.int (0 : Int32))] [(.ref f), (.int (0 : Int32)), (.ref b266)])
  have c278 := (E_f.ext E266)
  obtain ⟨T277, h277, X277, e277, W277, V277, st277⟩ := own_stR X275 hx hZ e275 V266 rfl rfl (fun _ A q => Sto.ofV A q O266 (Ins.of_exa c278 (w142 hw))) (j := (0 : Int32)) ⟨by decide, by decide⟩ (i := 0) rfl (Nat.le_of_ble_eq_true rfl) (g := (mkF m 22 #[.val (.ref b), .val (.ref b266), .val (.int (0 : Int32))] [(.ref f), (.int (0 : Int32)), (.ref b266)])) rfl rfl (hb hby d25_22)
  replace V277 : Arv Z h277 b266 k266 (.object "java/lang/Object") (3 : Int32) [(.ref f), .null, .null] .null := V277
  have N279 := Fr.snoc X277 N276 n0_267
  refine own_step (T' := T277) (g' := (mkF m 23 #[.val (.ref b), .val (.ref b266), .val (.int (0 : Int32))] [])) st277 ?_
  refine own_step (T' := T277) (g' := (mkF m 26 #[.val (.ref b), .val (.ref b266), .val (.int (1 : Int32))] [])) (fun _ q => XS.iinc X277.here hx rfl (hb hby d25_23) rfl (l' := #[.val (.ref b), .val (.ref b266), .val (.int (1 : Int32))]) rfl q) ?_
  refine own_step (T' := T277) (g' := (mkF m 8 #[.val (.ref b), .val (.ref b266), .val (.int (1 : Int32))] [])) (fun _ q => XS.goto X277.here hx rfl (pc0 := 26) (pc' := 8) rfl (hb hby d25_26) (by decide) (by decide) q) ?_
  refine own_step (T' := T277) (g' := (mkF m 9 #[.val (.ref b), .val (.ref b266), .val (.int (1 : Int32))] [(.int (1 : Int32))])) (fun _ q => XS.iloadN X277.here hx rfl (hb hby d25_8) rfl q) ?_
  refine own_step (T' := T277) (g' := (mkF m 10 #[.val (.ref b), .val (.ref b266), .val (.int (1 : Int32))] [(.ref b), (.int (1 : Int32))])) (fun _ q => XS.aloadN X277.here hx rfl (hb hby d25_9) rfl rfl q) ?_
  have c280 := (c273.other W277 ne269)
  refine own_step (T' := T277) (g' := (mkF m 11 #[.val (.ref b), .val (.ref b266), .val (.int (1 : Int32))] [(.int (3 : Int32)), (.int (1 : Int32))])) (fun _ q => own_len X277 hx hZ e277 c280 (g := (mkF m 10 #[.val (.ref b), .val (.ref b266), .val (.int (1 : Int32))] [(.ref b), (.int (1 : Int32))])) rfl rfl (hb hby d25_10) _ q) ?_
  refine own_step (T' := T277) (g' := (mkF m 14 #[.val (.ref b), .val (.ref b266), .val (.int (1 : Int32))] [])) (fun _ q => XS.icmpNo X277.here hx rfl (hb hby d25_11) rfl (by decide) q) ?_
  refine own_step (T' := T277) (g' := (mkF m 15 #[.val (.ref b), .val (.ref b266), .val (.int (1 : Int32))] [(.ref b266)])) (fun _ q => XS.aloadN X277.here hx rfl (hb hby d25_14) rfl rfl q) ?_
  refine own_step (T' := T277) (g' := (mkF m 16 #[.val (.ref b), .val (.ref b266), .val (.int (1 : Int32))] [(.int (1 : Int32)), (.ref b266)])) (fun _ q => XS.iloadN X277.here hx rfl (hb hby d25_15) rfl q) ?_
  refine own_step (T' := T277) (g' := (mkF m 17 #[.val (.ref b), .val (.ref b266), .val (.int (1 : Int32))] [(.ref b), (.int (1 : Int32)), (.ref b266)])) (fun _ q => XS.aloadN X277.here hx rfl (hb hby d25_16) rfl rfl q) ?_
  refine own_step (T' := T277) (g' := (mkF m 18 #[.val (.ref b), .val (.ref b266), .val (.int (1 : Int32))] [(.int (1 : Int32)), (.ref b), (.int (1 : Int32)), (.ref b266)])) (fun _ q => XS.iloadN X277.here hx rfl (hb hby d25_17) rfl q) ?_
  refine own_step (T' := T277) (g' := (mkF m 19 #[.val (.ref b), .val (.ref b266), .val (.int (1 : Int32))] [(.ref f2), (.int (1 : Int32)), (.ref b266)])) (fun _ q => own_ldA X277 hx hZ e277 c280 rfl (j := (1 : Int32)) ⟨by decide, by decide⟩ (v := (.ref f2)) rfl (g := (mkF m 18 #[.val (.ref b), .val (.ref b266), .val (.int (1 : Int32))] [(.int (1 : Int32)), (.ref b), (.int (1 : Int32)), (.ref b266)])) rfl rfl (hb hby d25_18) _ q) ?_
  have c281 := (Nat.le_trans c274 (Keep.of_wr W277).1)
  refine own_callS X277 hx hZ hown (w141 hw) (w67 hw) (w68 hw) (w69 hw) (by decide) (backOf (W := 2) (own_rnn l Z a0 hw [] f2 h277 n0 c281 ) hZ (w69 hw) (w68 hw) (Nat.le_of_ble_eq_true rfl) (Nat.le_of_ble_eq_true rfl)) e277  (by first | decide | (dsimp only; omega)) (by first | decide | (dsimp only; omega)) (g := (mkF m 19 #[.val (.ref b), .val (.ref b266), .val (.int (1 : Int32))] [(.ref f2), (.int (1 : Int32)), (.ref b266)])) (argsL := [(.ref f2)]) (rest := [(.int (1 : Int32)), (.ref b266)]) rfl (by rw [hml]; rfl) (lenOf pd_7 rfl) rfl rfl (by show 2 * 0 + _ ≤ _; exact Nat.le_of_eq rfl) (hb hby d25_19) ?_
  rintro _ T282 L282 X282 ⟨rfl, N282q, e282⟩
  have N283 := Fr.app N279 N282q
  show own_Fin p e below _ T282 (mkF m 22 #[.val (.ref b), .val (.ref b266), .val (.int (1 : Int32))] [(.ref f2), (.int (1 : Int32)), (.ref b266)])
  have c285 := ((E_f2.ext E266).wr W277)
  obtain ⟨T284, h284, X284, e284, W284, V284, st284⟩ := own_stR X282 hx hZ e282 V277 rfl rfl (fun _ A q => Sto.ofV A q O266 (Ins.of_exa c285 (w142 hw))) (j := (1 : Int32)) ⟨by decide, by decide⟩ (i := 1) rfl (Nat.le_of_ble_eq_true rfl) (g := (mkF m 22 #[.val (.ref b), .val (.ref b266), .val (.int (1 : Int32))] [(.ref f2), (.int (1 : Int32)), (.ref b266)])) rfl rfl (hb hby d25_22)
  replace V284 : Arv Z h284 b266 k266 (.object "java/lang/Object") (3 : Int32) [(.ref f), (.ref f2), .null] .null := V284
  have N286 := Fr.snoc X284 N283 n0_267
  refine own_step (T' := T284) (g' := (mkF m 23 #[.val (.ref b), .val (.ref b266), .val (.int (1 : Int32))] [])) st284 ?_
  refine own_step (T' := T284) (g' := (mkF m 26 #[.val (.ref b), .val (.ref b266), .val (.int (2 : Int32))] [])) (fun _ q => XS.iinc X284.here hx rfl (hb hby d25_23) rfl (l' := #[.val (.ref b), .val (.ref b266), .val (.int (2 : Int32))]) rfl q) ?_
  refine own_step (T' := T284) (g' := (mkF m 8 #[.val (.ref b), .val (.ref b266), .val (.int (2 : Int32))] [])) (fun _ q => XS.goto X284.here hx rfl (pc0 := 26) (pc' := 8) rfl (hb hby d25_26) (by decide) (by decide) q) ?_
  refine own_step (T' := T284) (g' := (mkF m 9 #[.val (.ref b), .val (.ref b266), .val (.int (2 : Int32))] [(.int (2 : Int32))])) (fun _ q => XS.iloadN X284.here hx rfl (hb hby d25_8) rfl q) ?_
  refine own_step (T' := T284) (g' := (mkF m 10 #[.val (.ref b), .val (.ref b266), .val (.int (2 : Int32))] [(.ref b), (.int (2 : Int32))])) (fun _ q => XS.aloadN X284.here hx rfl (hb hby d25_9) rfl rfl q) ?_
  have c287 := (c280.other W284 ne269)
  refine own_step (T' := T284) (g' := (mkF m 11 #[.val (.ref b), .val (.ref b266), .val (.int (2 : Int32))] [(.int (3 : Int32)), (.int (2 : Int32))])) (fun _ q => own_len X284 hx hZ e284 c287 (g := (mkF m 10 #[.val (.ref b), .val (.ref b266), .val (.int (2 : Int32))] [(.ref b), (.int (2 : Int32))])) rfl rfl (hb hby d25_10) _ q) ?_
  refine own_step (T' := T284) (g' := (mkF m 14 #[.val (.ref b), .val (.ref b266), .val (.int (2 : Int32))] [])) (fun _ q => XS.icmpNo X284.here hx rfl (hb hby d25_11) rfl (by decide) q) ?_
  refine own_step (T' := T284) (g' := (mkF m 15 #[.val (.ref b), .val (.ref b266), .val (.int (2 : Int32))] [(.ref b266)])) (fun _ q => XS.aloadN X284.here hx rfl (hb hby d25_14) rfl rfl q) ?_
  refine own_step (T' := T284) (g' := (mkF m 16 #[.val (.ref b), .val (.ref b266), .val (.int (2 : Int32))] [(.int (2 : Int32)), (.ref b266)])) (fun _ q => XS.iloadN X284.here hx rfl (hb hby d25_15) rfl q) ?_
  refine own_step (T' := T284) (g' := (mkF m 17 #[.val (.ref b), .val (.ref b266), .val (.int (2 : Int32))] [(.ref b), (.int (2 : Int32)), (.ref b266)])) (fun _ q => XS.aloadN X284.here hx rfl (hb hby d25_16) rfl rfl q) ?_
  refine own_step (T' := T284) (g' := (mkF m 18 #[.val (.ref b), .val (.ref b266), .val (.int (2 : Int32))] [(.int (2 : Int32)), (.ref b), (.int (2 : Int32)), (.ref b266)])) (fun _ q => XS.iloadN X284.here hx rfl (hb hby d25_17) rfl q) ?_
  refine own_step (T' := T284) (g' := (mkF m 19 #[.val (.ref b), .val (.ref b266), .val (.int (2 : Int32))] [(.ref f3), (.int (2 : Int32)), (.ref b266)])) (fun _ q => own_ldA X284 hx hZ e284 c287 rfl (j := (2 : Int32)) ⟨by decide, by decide⟩ (v := (.ref f3)) rfl (g := (mkF m 18 #[.val (.ref b), .val (.ref b266), .val (.int (2 : Int32))] [(.int (2 : Int32)), (.ref b), (.int (2 : Int32)), (.ref b266)])) rfl rfl (hb hby d25_18) _ q) ?_
  have c288 := (Nat.le_trans c281 (Keep.of_wr W284).1)
  refine own_callS X284 hx hZ hown (w141 hw) (w67 hw) (w68 hw) (w69 hw) (by decide) (backOf (W := 2) (own_rnn l Z a0 hw [] f3 h284 n0 c288 ) hZ (w69 hw) (w68 hw) (Nat.le_of_ble_eq_true rfl) (Nat.le_of_ble_eq_true rfl)) e284  (by first | decide | (dsimp only; omega)) (by first | decide | (dsimp only; omega)) (g := (mkF m 19 #[.val (.ref b), .val (.ref b266), .val (.int (2 : Int32))] [(.ref f3), (.int (2 : Int32)), (.ref b266)])) (argsL := [(.ref f3)]) (rest := [(.int (2 : Int32)), (.ref b266)]) rfl (by rw [hml]; rfl) (lenOf pd_7 rfl) rfl rfl (by show 2 * 0 + _ ≤ _; exact Nat.le_of_eq rfl) (hb hby d25_19) ?_
  rintro _ T289 L289 X289 ⟨rfl, N289q, e289⟩
  have N290 := Fr.app N286 N289q
  show own_Fin p e below _ T289 (mkF m 22 #[.val (.ref b), .val (.ref b266), .val (.int (2 : Int32))] [(.ref f3), (.int (2 : Int32)), (.ref b266)])
  have c292 := (((E_f3.ext E266).wr W277).wr W284)
  obtain ⟨T291, h291, X291, e291, W291, V291, st291⟩ := own_stR X289 hx hZ e289 V284 rfl rfl (fun _ A q => Sto.ofV A q O266 (Ins.of_exa c292 (w142 hw))) (j := (2 : Int32)) ⟨by decide, by decide⟩ (i := 2) rfl (Nat.le_of_ble_eq_true rfl) (g := (mkF m 22 #[.val (.ref b), .val (.ref b266), .val (.int (2 : Int32))] [(.ref f3), (.int (2 : Int32)), (.ref b266)])) rfl rfl (hb hby d25_22)
  replace V291 : Arv Z h291 b266 k266 (.object "java/lang/Object") (3 : Int32) [(.ref f), (.ref f2), (.ref f3)] .null := V291
  have N293 := Fr.snoc X291 N290 n0_267
  refine own_step (T' := T291) (g' := (mkF m 23 #[.val (.ref b), .val (.ref b266), .val (.int (2 : Int32))] [])) st291 ?_
  refine own_step (T' := T291) (g' := (mkF m 26 #[.val (.ref b), .val (.ref b266), .val (.int (3 : Int32))] [])) (fun _ q => XS.iinc X291.here hx rfl (hb hby d25_23) rfl (l' := #[.val (.ref b), .val (.ref b266), .val (.int (3 : Int32))]) rfl q) ?_
  refine own_step (T' := T291) (g' := (mkF m 8 #[.val (.ref b), .val (.ref b266), .val (.int (3 : Int32))] [])) (fun _ q => XS.goto X291.here hx rfl (pc0 := 26) (pc' := 8) rfl (hb hby d25_26) (by decide) (by decide) q) ?_
  refine own_step (T' := T291) (g' := (mkF m 9 #[.val (.ref b), .val (.ref b266), .val (.int (3 : Int32))] [(.int (3 : Int32))])) (fun _ q => XS.iloadN X291.here hx rfl (hb hby d25_8) rfl q) ?_
  refine own_step (T' := T291) (g' := (mkF m 10 #[.val (.ref b), .val (.ref b266), .val (.int (3 : Int32))] [(.ref b), (.int (3 : Int32))])) (fun _ q => XS.aloadN X291.here hx rfl (hb hby d25_9) rfl rfl q) ?_
  have c294 := (c287.other W291 ne269)
  refine own_step (T' := T291) (g' := (mkF m 11 #[.val (.ref b), .val (.ref b266), .val (.int (3 : Int32))] [(.int (3 : Int32)), (.int (3 : Int32))])) (fun _ q => own_len X291 hx hZ e291 c294 (g := (mkF m 10 #[.val (.ref b), .val (.ref b266), .val (.int (3 : Int32))] [(.ref b), (.int (3 : Int32))])) rfl rfl (hb hby d25_10) _ q) ?_
  refine own_step (T' := T291) (g' := (mkF m 29 #[.val (.ref b), .val (.ref b266), .val (.int (3 : Int32))] [])) (fun _ q => XS.icmpYes X291.here hx rfl (pc0 := 11) (pc' := 29) rfl (hb hby d25_11) rfl (by decide) (by decide) (by decide) q) ?_
  obtain ⟨T295, h295, X295, e295, E295, A295, D295, -, st295⟩ := newO X291 hx hZ hown (w143 hw) (w144 hw) (w145 hw) e291 (g := (mkF m 29 #[.val (.ref b), .val (.ref b266), .val (.int (3 : Int32))] [])) rfl (hb hby d25_29) (by first | decide | (dsimp only; omega)) (by first | decide | (dsimp only; omega))
  obtain ⟨b295, g295⟩ : ∃ z, z = h291.size := ⟨_, rfl⟩
  rw [← g295] at A295 D295 st295
  have c296 := (Nat.le_trans c288 (Keep.of_wr W291).1)
  have n0_297 : n0 ≤ b295 := Nat.le_trans c296 (Nat.le_of_eq g295.symm)
  have c298 := ((((KP0.ext E266).wr W277 (Or.inr sz0_268)).wr W284 (Or.inr sz0_268)).wr W291 (Or.inr sz0_268))
  have sz0_299 := Nat.le_trans c298.1 (Nat.le_of_eq g295.symm)
  have c300 := (own_lt (own_lt (own_lt (own_lt lt_b E266.1) (Keep.of_wr W277).1) (Keep.of_wr W284).1) (Keep.of_wr W291).1)
  have ne301 : b ≠ b295 := own_ne c300 (Nat.le_of_eq g295.symm)
  have c302 := (own_lt (own_lt (own_lt (own_lt lt_f E266.1) (Keep.of_wr W277).1) (Keep.of_wr W284).1) (Keep.of_wr W291).1)
  have ne303 : f ≠ b295 := own_ne c302 (Nat.le_of_eq g295.symm)
  have c304 := (own_lt (own_lt (own_lt (own_lt lt_f2 E266.1) (Keep.of_wr W277).1) (Keep.of_wr W284).1) (Keep.of_wr W291).1)
  have ne305 : f2 ≠ b295 := own_ne c304 (Nat.le_of_eq g295.symm)
  have c306 := (own_lt (own_lt (own_lt (own_lt lt_f3 E266.1) (Keep.of_wr W277).1) (Keep.of_wr W284).1) (Keep.of_wr W291).1)
  have ne307 : f3 ≠ b295 := own_ne c306 (Nat.le_of_eq g295.symm)
  have c308 := (own_lt (own_lt (own_lt ltb266 (Keep.of_wr W277).1) (Keep.of_wr W284).1) (Keep.of_wr W291).1)
  have ne309 : b266 ≠ b295 := own_ne c308 (Nat.le_of_eq g295.symm)
  have ltb295 := A295.lt
  have F310 : Fld Z h295 b295 "java/util/ImmutableCollections$ListN" "elements" "[Ljava/lang/Object;" .null := D295 (Or.inr (w155 hw)) (ty := (.array (.object "java/lang/Object"))) (by decide)
  have F311 : Fld Z h295 b295 "java/util/ImmutableCollections$ListN" "allowNulls" "Z" (.int (0 : Int32)) := D295 (Or.inr (w157 hw)) (ty := .boolean) (by decide)
  refine own_step (T' := T295) (g' := (mkF m 32 #[.val (.ref b), .val (.ref b266), .val (.int (3 : Int32))] [(.ref b295)])) st295 ?_
  refine own_step (T' := T295) (g' := (mkF m 33 #[.val (.ref b), .val (.ref b266), .val (.int (3 : Int32))] [(.ref b295), (.ref b295)])) (fun _ q => XS.dup X295.here hx rfl (hb hby d25_32) rfl rfl q) ?_
  refine own_step (T' := T295) (g' := (mkF m 34 #[.val (.ref b), .val (.ref b266), .val (.int (3 : Int32))] [(.ref b266), (.ref b295), (.ref b295)])) (fun _ q => XS.aloadN X295.here hx rfl (hb hby d25_33) rfl rfl q) ?_
  refine own_step (T' := T295) (g' := (mkF m 35 #[.val (.ref b), .val (.ref b266), .val (.int (3 : Int32))] [(.int (0 : Int32)), (.ref b266), (.ref b295), (.ref b295)])) (fun _ q => XS.iconst X295.here hx rfl (hb hby d25_34) q) ?_
  have c312 := (Nat.le_trans c296 E295.1)
  refine own_callCN X295 hx hZ hown rfl (w146 hw) (w147 hw) (w149 hw) (by decide) (backOf (W := 1) (own_ln l Z a0 hw [] b295 b266 h295 n0 c312 A295 n0_297 F310 F311) hZ (w149 hw) (w145 hw) (Nat.le_of_ble_eq_true rfl) (Nat.le_of_ble_eq_true rfl)) e295  (by first | decide | (dsimp only; omega)) (by first | decide | (dsimp only; omega)) (g := (mkF m 35 #[.val (.ref b), .val (.ref b266), .val (.int (3 : Int32))] [(.int (0 : Int32)), (.ref b266), (.ref b295), (.ref b295)])) (argsL := [(.ref b266), (.int (0 : Int32))]) (rest := [(.ref b295)]) rfl (by rw [hml]; rfl) (lenOf pd_8 rfl) rfl rfl (by show 2 * 0 + _ ≤ _; exact Nat.le_of_eq rfl) (hb hby d25_35) ?_
  rintro _ T313 L313 X313 ⟨rfl, N313q, K313, f0_313, f1_313⟩
  have N314 := Fr.app N293 N313q
  show own_Fin p e below _ T313 (mkF m 38 #[.val (.ref b), .val (.ref b266), .val (.int (3 : Int32))] [(.ref b295)])
  have c315 := ((c298.ext E295).trans K313 (allS (Or.inr sz0_299) all0))
  have c316 := ((V291.ext E295).keep K313 (ninS ne309 nin0))
  exact own_retA X313 hx Bd.returns rfl rfl (hb hby d25_38) hlk ⟨b295, b266, k266, rfl, N314, c315, sz0_299, sz0_268, f0_313, f1_313, c316⟩ (by first | decide | (dsimp only; omega)) (by first | decide | (dsimp only; omega))
theorem pn_10 : plainName "java/util/List" = true := by first | (simp [plainName, overriddenIn]; done) | decide +kernel
theorem pd_9 : parseMethodDescriptor "(Ljava/lang/Object;)V" = some ⟨[(.object "java/lang/Object")], none⟩ := by decide +kernel
theorem d6_0 : decode jdk_40_method_47_code 0 = .ok (.aload_n 0, 1) := by decide +kernel
theorem d6_1 : decode jdk_40_method_47_code 1 = .ok (.arraylength, 1) := by decide +kernel
theorem d6_2 : decode jdk_40_method_47_code 2 = .ok (.tableswitch 57 0 2 #[26, 32, 43], 26) := by decide +kernel
theorem d6_34 : decode jdk_40_method_47_code 34 = .ok (.new 96, 3) := by decide +kernel
theorem d6_37 : decode jdk_40_method_47_code 37 = .ok (.dup, 1) := by decide +kernel
theorem d6_38 : decode jdk_40_method_47_code 38 = .ok (.aload_n 0, 1) := by decide +kernel
theorem d6_39 : decode jdk_40_method_47_code 39 = .ok (.iconst 0, 1) := by decide +kernel
theorem d6_40 : decode jdk_40_method_47_code 40 = .ok (.aaload, 1) := by decide +kernel
theorem d6_41 : decode jdk_40_method_47_code 41 = .ok (.invokespecial 98, 3) := by decide +kernel
theorem d6_44 : decode jdk_40_method_47_code 44 = .ok (.areturn, 1) := by decide +kernel
def Q_own_of1 (Z : State) (G5 : Value) (b : Addr) (ks : ClassId) (f : Addr) (h0 : Heap) (n0 : Nat) (v : Option Value) (h : Heap) (L : List Loc) : Prop := ∃ (a : Addr), v = some (.ref a) ∧ Fr n0 L ∧ Keep h0 h [] ∧ h0.size ≤ a ∧ Exa Z h a "java/util/ImmutableCollections$List12" ∧ Fld Z h a "java/util/ImmutableCollections$List12" "e0" "Ljava/lang/Object;" (.ref f)
set_option maxRecDepth 65536 in
set_option maxHeartbeats 40000000 in
theorem own_of1 (l : Launch) (Z : State) (a0 : Array Value) (hw : ∀ d ∈ tables_1, d.before a0 Z = true) (ws : List Jvm.Cond) (G5 : Value) (b : Addr) (ks : ClassId) (f : Addr) (h0 : Heap) (n0 : Nat) (Z0 : n0 ≤ h0.size) (EM : Sta Z Z.heap "java/util/ImmutableCollections" "EMPTY" "Ljava/lang/Object;" G5) (rG5 : G5.isRef = true) (OLD0 : Old Z n0 h0) (V_b : Arv Z h0 b ks (.object "java/lang/String") (1 : Int32) [(.ref f)] .null) (E_f : Exa Z h0 f "java/lang/String") :
    MetFree l (⟨"java/util/List", "of", "([Ljava/lang/Object;)Ljava/util/List;"⟩ : MethodName) (head1 (Jvm.Cond.code (⟨"java/util/List", "of", "([Ljava/lang/Object;)Ljava/util/List;"⟩ : MethodName) jdk_40_method_47_code 2 (some (.object "java/util/List")) :: ws) ({ frames := 5, cells := 1, slots := 2, locals := 62 } : Room)) (fun ag U => ag = #[(.ref b)] ∧ Z.Warmed39 U.vm ∧ U.heap = h0) (fun _ _ _ _ _ => True) (fun _ U o U' => ∃ v L, o = .returned v ∧ Q_own_of1 Z G5 b ks f h0 n0 v U'.heap L ∧ FrameEnd U o U' L ({ frames := 5, cells := 1, slots := 2, locals := 62 } : Room).cells ({ frames := 5, cells := 1, slots := 2, locals := 62 } : Room).slots) := by
  refine own_body (plainFor_of_name pn_10) ?_
  intro p e s m below meth c s₁ Bd hml hZ e0
  have hx := Bd.exec
  have hby := Bd.bytes
  have hlk : meth.locks = false := BodyLoose.notSynchronized Bd
  have hown : s.vm.findClass "java/util/List" = some m.cls := findClass_of_methodNamed Bd.named
  have hnm := (name_of_methodNamed Bd.named Bd.method).1
  have X0 : Stand p l e ({ frames := 5, cells := 1, slots := 2, locals := 62 } : Room) s m #[(.ref b)] below meth c s₁ [] 0 0 := Stand.of_body Bd
  have N0 := Fr.nil n0
  have KP0 : Keep h0 h0 [] := Keep.refl h0 []
  have lt_b := V_b.lt
  have lt_f := E_f.lt
  have ty_b_f : b ≠ f := (Ne.symm (Exa.neArv E_f V_b (w5 hw)))
  refine own_cast (g' := (mkF m 0 #[.val (.ref b), .unset] [])) (by first | (simp [entryFrame, mkF, argsToLocals, own_cat_int, own_cat_long, own_cat_ref, own_cat_null]; done) | rfl) ?_
  refine own_step (T' := s₁) (g' := (mkF m 1 #[.val (.ref b), .unset] [(.ref b)])) (fun _ q => XS.aloadN X0.here hx rfl (hb hby d6_0) rfl rfl q) ?_
  refine own_step (T' := s₁) (g' := (mkF m 2 #[.val (.ref b), .unset] [(.int (1 : Int32))])) (fun _ q => own_len X0 hx hZ e0 V_b (g := (mkF m 1 #[.val (.ref b), .unset] [(.ref b)])) rfl rfl (hb hby d6_1) _ q) ?_
  refine own_step (T' := s₁) (g' := (mkF m 34 #[.val (.ref b), .unset] [])) (fun _ q => XS.tswIn X0.here hx rfl (pc0 := 2) (pc' := 34) rfl (hb hby d6_2) rfl (by decide) (by rfl) (by decide) (by decide) q) ?_
  obtain ⟨T317, h317, X317, e317, E317, A317, D317, -, st317⟩ := newO X0 hx hZ hown (w40 hw) (w41 hw) (w42 hw) e0 (g := (mkF m 34 #[.val (.ref b), .unset] [])) rfl (hb hby d6_34) (by first | decide | (dsimp only; omega)) (by first | decide | (dsimp only; omega))
  obtain ⟨b317, g317⟩ : ∃ z, z = h0.size := ⟨_, rfl⟩
  rw [← g317] at A317 D317 st317
  have n0_318 : n0 ≤ b317 := Nat.le_trans Z0 (Nat.le_of_eq g317.symm)
  have sz0_319 := Nat.le_trans KP0.1 (Nat.le_of_eq g317.symm)
  have ne320 : b ≠ b317 := own_ne lt_b (Nat.le_of_eq g317.symm)
  have ne321 : f ≠ b317 := own_ne lt_f (Nat.le_of_eq g317.symm)
  have ltb317 := A317.lt
  have F322 : Fld Z h317 b317 "java/util/ImmutableCollections$List12" "e0" "Ljava/lang/Object;" .null := D317 (Or.inr (w71 hw)) (ty := (.object "java/lang/Object")) (by decide)
  have F323 : Fld Z h317 b317 "java/util/ImmutableCollections$List12" "e1" "Ljava/lang/Object;" .null := D317 (Or.inr (w75 hw)) (ty := (.object "java/lang/Object")) (by decide)
  refine own_step (T' := T317) (g' := (mkF m 37 #[.val (.ref b), .unset] [(.ref b317)])) st317 ?_
  refine own_step (T' := T317) (g' := (mkF m 38 #[.val (.ref b), .unset] [(.ref b317), (.ref b317)])) (fun _ q => XS.dup X317.here hx rfl (hb hby d6_37) rfl rfl q) ?_
  refine own_step (T' := T317) (g' := (mkF m 39 #[.val (.ref b), .unset] [(.ref b), (.ref b317), (.ref b317)])) (fun _ q => XS.aloadN X317.here hx rfl (hb hby d6_38) rfl rfl q) ?_
  refine own_step (T' := T317) (g' := (mkF m 40 #[.val (.ref b), .unset] [(.int (0 : Int32)), (.ref b), (.ref b317), (.ref b317)])) (fun _ q => XS.iconst X317.here hx rfl (hb hby d6_39) q) ?_
  have c324 := (V_b.ext E317)
  refine own_step (T' := T317) (g' := (mkF m 41 #[.val (.ref b), .unset] [(.ref f), (.ref b317), (.ref b317)])) (fun _ q => own_ldA X317 hx hZ e317 c324 rfl (j := (0 : Int32)) ⟨by decide, by decide⟩ (v := (.ref f)) rfl (g := (mkF m 40 #[.val (.ref b), .unset] [(.int (0 : Int32)), (.ref b), (.ref b317), (.ref b317)])) rfl rfl (hb hby d6_40) _ q) ?_
  have c325 := (OLD0.ext E317)
  have c326 := (Nat.le_trans Z0 E317.1)
  refine own_callC X317 hx hZ hown rfl (w43 hw) (w44 hw) (w46 hw) (by decide) (backOf (W := 1) (own_l1 l Z a0 hw [] G5 b317 f h317 n0 c326 EM rG5 c325 A317 n0_318 F322 F323) hZ (w46 hw) (w42 hw) (Nat.le_of_ble_eq_true rfl) (Nat.le_of_ble_eq_true rfl)) e317  (by first | decide | (dsimp only; omega)) (by first | decide | (dsimp only; omega)) (g := (mkF m 41 #[.val (.ref b), .unset] [(.ref f), (.ref b317), (.ref b317)])) (argsL := [(.ref f)]) (rest := [(.ref b317)]) rfl (by rw [hml]; rfl) (lenOf pd_9 rfl) rfl rfl (by show 2 * 0 + _ ≤ _; exact Nat.le_of_eq rfl) (hb hby d6_41) ?_
  rintro _ T327 L327 X327 ⟨rfl, N327q, K327, f0_327, f1_327⟩
  have N328 := Fr.app N0 N327q
  show own_Fin p e below _ T327 (mkF m 44 #[.val (.ref b), .unset] [(.ref b317)])
  have c329 := ((KP0.ext E317).trans K327 (allS (Or.inr sz0_319) all0))
  exact own_retA X327 hx Bd.returns rfl rfl (hb hby d6_44) hlk ⟨b317, rfl, N328, c329, sz0_319, f0_327, f1_327⟩ (by first | decide | (dsimp only; omega)) (by first | decide | (dsimp only; omega))
theorem pn_11 : plainName "com/example/gangway/gangway/tool/CommandLine$Option" = true := by first | (simp [plainName, overriddenIn]; done) | decide +kernel
theorem pd_10 : parseMethodDescriptor "([Ljava/lang/Object;)Ljava/util/List;" = some ⟨[(.array (.object "java/lang/Object"))], some (.object "java/util/List")⟩ := by decide +kernel
theorem d5_0 : decode prog_29_method_1_code 0 = .ok (.aload_n 0, 1) := by decide +kernel
theorem d5_1 : decode prog_29_method_1_code 1 = .ok (.invokespecial 1, 3) := by decide +kernel
theorem d5_4 : decode prog_29_method_1_code 4 = .ok (.aload_n 0, 1) := by decide +kernel
theorem d5_5 : decode prog_29_method_1_code 5 = .ok (.iload_n 1, 1) := by decide +kernel
theorem d5_6 : decode prog_29_method_1_code 6 = .ok (.putfield 7, 3) := by decide +kernel
theorem d5_9 : decode prog_29_method_1_code 9 = .ok (.aload_n 0, 1) := by decide +kernel
theorem d5_10 : decode prog_29_method_1_code 10 = .ok (.aload_n 2, 1) := by decide +kernel
theorem d5_11 : decode prog_29_method_1_code 11 = .ok (.invokestatic 13, 3) := by decide +kernel
theorem d5_14 : decode prog_29_method_1_code 14 = .ok (.putfield 19, 3) := by decide +kernel
theorem d5_17 : decode prog_29_method_1_code 17 = .ok (.return_, 1) := by decide +kernel
def Q_own_opt1 (Z : State) (G5 : Value) (a : Addr) (rp : Int32) (b : Addr) (ks : ClassId) (f : Addr) (h0 : Heap) (n0 : Nat) (v : Option Value) (h : Heap) (L : List Loc) : Prop := ∃ (lst : Addr), v = none ∧ Fr n0 L ∧ Keep h0 h [a] ∧ h0.size ≤ lst ∧ Exa Z h a "com/example/gangway/gangway/tool/CommandLine$Option" ∧ Fld Z h a "com/example/gangway/gangway/tool/CommandLine$Option" "spellings" "Ljava/util/List;" (.ref lst) ∧ Exa Z h lst "java/util/ImmutableCollections$List12" ∧ Fld Z h lst "java/util/ImmutableCollections$List12" "e0" "Ljava/lang/Object;" (.ref f)
set_option maxRecDepth 65536 in
set_option maxHeartbeats 40000000 in
theorem own_opt1 (l : Launch) (Z : State) (a0 : Array Value) (hw : ∀ d ∈ tables_1, d.before a0 Z = true) (ws : List Jvm.Cond) (G5 : Value) (a : Addr) (rp : Int32) (b : Addr) (ks : ClassId) (f : Addr) (h0 : Heap) (n0 : Nat) (Z0 : n0 ≤ h0.size) (EM : Sta Z Z.heap "java/util/ImmutableCollections" "EMPTY" "Ljava/lang/Object;" G5) (rG5 : G5.isRef = true) (OLD0 : Old Z n0 h0) (E_a : Exa Z h0 a "com/example/gangway/gangway/tool/CommandLine$Option") (ge_a : n0 ≤ a) (F_repeatable_a : Fld Z h0 a "com/example/gangway/gangway/tool/CommandLine$Option" "repeatable" "Z" (.int (0 : Int32))) (F_spellings_a : Fld Z h0 a "com/example/gangway/gangway/tool/CommandLine$Option" "spellings" "Ljava/util/List;" .null) (V_b : Arv Z h0 b ks (.object "java/lang/String") (1 : Int32) [(.ref f)] .null) (E_f : Exa Z h0 f "java/lang/String") :
    MetFree l (⟨"com/example/gangway/gangway/tool/CommandLine$Option", "<init>", "(Z[Ljava/lang/String;)V"⟩ : MethodName) (head1 (Jvm.Cond.code (⟨"com/example/gangway/gangway/tool/CommandLine$Option", "<init>", "(Z[Ljava/lang/String;)V"⟩ : MethodName) prog_29_method_1_code 3 none :: ws) ({ frames := 6, cells := 1, slots := 2, locals := 76 } : Room)) (fun ag U => ag = #[(.ref a), (.int rp), (.ref b)] ∧ Z.Warmed39 U.vm ∧ U.heap = h0) (fun _ _ _ _ _ => True) (fun _ U o U' => ∃ v L, o = .returned v ∧ Q_own_opt1 Z G5 a rp b ks f h0 n0 v U'.heap L ∧ FrameEnd U o U' L ({ frames := 6, cells := 1, slots := 2, locals := 76 } : Room).cells ({ frames := 6, cells := 1, slots := 2, locals := 76 } : Room).slots) := by
  refine own_body (plainFor_of_name pn_11) ?_
  intro p e s m below meth c s₁ Bd hml hZ e0
  have hx := Bd.exec
  have hby := Bd.bytes
  have hlk : meth.locks = false := BodyLoose.notSynchronized Bd
  have hown : s.vm.findClass "com/example/gangway/gangway/tool/CommandLine$Option" = some m.cls := findClass_of_methodNamed Bd.named
  have hnm := (name_of_methodNamed Bd.named Bd.method).1
  have X0 : Stand p l e ({ frames := 6, cells := 1, slots := 2, locals := 76 } : Room) s m #[(.ref a), (.int rp), (.ref b)] below meth c s₁ [] 0 0 := Stand.of_body Bd
  have N0 := Fr.nil n0
  have KP0 : Keep h0 h0 [a] := Keep.refl h0 [a]
  have lt_a := E_a.lt
  have lt_b := V_b.lt
  have lt_f := E_f.lt
  have ty_a_b : a ≠ b := (Exa.neArv E_a V_b (w28 hw))
  have ty_a_f : a ≠ f := (Exa.ne E_a E_f (by decide))
  have ty_b_f : b ≠ f := (Ne.symm (Exa.neArv E_f V_b (w5 hw)))
  refine own_cast (g' := (mkF m 0 #[.val (.ref a), .val (.int rp), .val (.ref b)] [])) (by first | (simp [entryFrame, mkF, argsToLocals, own_cat_int, own_cat_long, own_cat_ref, own_cat_null]; done) | rfl) ?_
  refine own_step (T' := s₁) (g' := (mkF m 1 #[.val (.ref a), .val (.int rp), .val (.ref b)] [(.ref a)])) (fun _ q => XS.aloadN X0.here hx rfl (hb hby d5_0) rfl rfl q) ?_
  obtain ⟨T330, X330, e330, st330⟩ := initO X0 hx hZ hown (w33 hw) (w16 hw) (w17 hw) e0 (g := (mkF m 1 #[.val (.ref a), .val (.int rp), .val (.ref b)] [(.ref a)])) rfl (by rw [hml]; rfl) rfl (hb hby d5_1) (Nat.le_of_ble_eq_true rfl) (W := 0) (by show 2 * 0 + _ ≤ _; exact Nat.le_of_eq rfl) (Nat.le_of_ble_eq_true rfl)
  refine own_step (T' := T330) (g' := (mkF m 4 #[.val (.ref a), .val (.int rp), .val (.ref b)] [])) st330 ?_
  refine own_step (T' := T330) (g' := (mkF m 5 #[.val (.ref a), .val (.int rp), .val (.ref b)] [(.ref a)])) (fun _ q => XS.aloadN X330.here hx rfl (hb hby d5_4) rfl rfl q) ?_
  refine own_step (T' := T330) (g' := (mkF m 6 #[.val (.ref a), .val (.int rp), .val (.ref b)] [(.int rp), (.ref a)])) (fun _ q => XS.iloadN X330.here hx rfl (hb hby d5_5) rfl q) ?_
  obtain ⟨T331, h331, X331, e331, W331, st331⟩ := putFN X330 hx hZ hown (w34 hw) Via.refl e330 F_repeatable_a E_a (Or.inr ⟨(w35 hw), rfl, hnm⟩) (w28 hw) (ty := .boolean) (v' := (.int (nar .boolean rp))) (by decide) rfl (fits_nar_bool _) (g := (mkF m 6 #[.val (.ref a), .val (.int rp), .val (.ref b)] [(.int rp), (.ref a)])) rfl rfl (hb hby d5_6)
  have F332 := F_repeatable_a.same W331
  have N333 := Fr.snoc X331 N0 ge_a
  refine own_step (T' := T331) (g' := (mkF m 9 #[.val (.ref a), .val (.int rp), .val (.ref b)] [])) st331 ?_
  refine own_step (T' := T331) (g' := (mkF m 10 #[.val (.ref a), .val (.int rp), .val (.ref b)] [(.ref a)])) (fun _ q => XS.aloadN X331.here hx rfl (hb hby d5_9) rfl rfl q) ?_
  refine own_step (T' := T331) (g' := (mkF m 11 #[.val (.ref a), .val (.int rp), .val (.ref b)] [(.ref b), (.ref a)])) (fun _ q => XS.aloadN X331.here hx rfl (hb hby d5_10) rfl rfl q) ?_
  have c334 := (OLD0.wr W331 ge_a)
  have c335 := (V_b.other W331 (Ne.symm ty_a_b))
  have c336 := (E_f.wr W331)
  have c337 := (Nat.le_trans Z0 (Keep.of_wr W331).1)
  refine own_callS X331 hx hZ hown (w36 hw) (w37 hw) (w38 hw) (w39 hw) (by decide) (backOf (W := 1) (own_of1 l Z a0 hw [] G5 b ks f h331 n0 c337 EM rG5 c334 c335 c336) hZ (w39 hw) (w38 hw) (Nat.le_of_ble_eq_true rfl) (Nat.le_of_ble_eq_true rfl)) e331  (by first | decide | (dsimp only; omega)) (by first | decide | (dsimp only; omega)) (g := (mkF m 11 #[.val (.ref a), .val (.int rp), .val (.ref b)] [(.ref b), (.ref a)])) (argsL := [(.ref b)]) (rest := [(.ref a)]) rfl (by rw [hml]; rfl) (lenOf pd_10 rfl) rfl rfl (by show 2 * 0 + _ ≤ _; exact Nat.le_of_eq rfl) (hb hby d5_11) ?_
  rintro _ T338 L338 X338 ⟨a338, rfl, N338q, K338, f0_338, f1_338, f2_338⟩
  have n0_339 : n0 ≤ a338 := Nat.le_trans c337 f0_338
  have c340 := (KP0.wr W331 (Or.inl (List.mem_of_getElem? (i := 0) rfl)))
  have sz0_341 := Nat.le_trans c340.1 f0_338
  have c342 := (own_lt lt_a (Keep.of_wr W331).1)
  have ne343 : a ≠ a338 := own_ne c342 f0_338
  have c344 := (own_lt lt_b (Keep.of_wr W331).1)
  have ne345 : b ≠ a338 := own_ne c344 f0_338
  have c346 := (own_lt lt_f (Keep.of_wr W331).1)
  have ne347 : f ≠ a338 := own_ne c346 f0_338
  have lt348 := f1_338.lt
  have N349 := Fr.app N333 N338q
  show own_Fin p e below _ T338 (mkF m 14 #[.val (.ref a), .val (.int rp), .val (.ref b)] [(.ref a338), (.ref a)])
  have c350 := ((E_a.wr W331).keep K338)
  have c351 := ((F_spellings_a.other W331 (Or.inr (RoadKit.slot_ne (t := (.object "java/util/List")) (t' := .boolean) (Or.inr (w77 hw)) (Or.inr (w35 hw)) (by decide) (by decide) (by decide)))).keep K338 nin0)
  obtain ⟨T352, h352, X352, e352, W352, st352⟩ := putF X338 hx hZ hown (host := "") (Or.inl (w76 hw)) Via.refl rfl c351 c350 (Or.inr ⟨(w77 hw), rfl, hnm⟩) (w28 hw) (ty := (.object "java/util/List")) (by decide) rfl rfl (g := (mkF m 14 #[.val (.ref a), .val (.int rp), .val (.ref b)] [(.ref a338), (.ref a)])) rfl rfl (hb hby d5_14)
  have F353 := c351.same W352
  have N354 := Fr.snoc X352 N349 ge_a
  refine own_step (T' := T352) (g' := (mkF m 17 #[.val (.ref a), .val (.int rp), .val (.ref b)] [])) st352 ?_
  have c355 := ((c340.trans K338 all0).wr W352 (Or.inl (List.mem_of_getElem? (i := 0) rfl)))
  have c356 := (c350.wr W352)
  have c357 := (f1_338.wr W352)
  have c358 := (f2_338.other W352 (Or.inl (Ne.symm ne343)))
  exact own_retV X352 hx Bd.returns (hb hby d5_17) hlk (by rw [e352]; exact ⟨a338, rfl, N354, c355, sz0_341, c356, F353, c357, c358⟩) (by first | decide | (dsimp only; omega)) (by first | decide | (dsimp only; omega))
theorem pd_11 : parseMethodDescriptor "(Ljava/lang/Object;Ljava/lang/Object;)V" = some ⟨[(.object "java/lang/Object"), (.object "java/lang/Object")], none⟩ := by decide +kernel
theorem d6_45 : decode jdk_40_method_47_code 45 = .ok (.new 96, 3) := by decide +kernel
theorem d6_48 : decode jdk_40_method_47_code 48 = .ok (.dup, 1) := by decide +kernel
theorem d6_49 : decode jdk_40_method_47_code 49 = .ok (.aload_n 0, 1) := by decide +kernel
theorem d6_50 : decode jdk_40_method_47_code 50 = .ok (.iconst 0, 1) := by decide +kernel
theorem d6_51 : decode jdk_40_method_47_code 51 = .ok (.aaload, 1) := by decide +kernel
theorem d6_52 : decode jdk_40_method_47_code 52 = .ok (.aload_n 0, 1) := by decide +kernel
theorem d6_53 : decode jdk_40_method_47_code 53 = .ok (.iconst 1, 1) := by decide +kernel
theorem d6_54 : decode jdk_40_method_47_code 54 = .ok (.aaload, 1) := by decide +kernel
theorem d6_55 : decode jdk_40_method_47_code 55 = .ok (.invokespecial 100, 3) := by decide +kernel
theorem d6_58 : decode jdk_40_method_47_code 58 = .ok (.areturn, 1) := by decide +kernel
def Q_own_of2 (Z : State) (b : Addr) (ks : ClassId) (f : Addr) (f2 : Addr) (h0 : Heap) (n0 : Nat) (v : Option Value) (h : Heap) (L : List Loc) : Prop := ∃ (a : Addr), v = some (.ref a) ∧ Fr n0 L ∧ Keep h0 h [] ∧ h0.size ≤ a ∧ Exa Z h a "java/util/ImmutableCollections$List12" ∧ Fld Z h a "java/util/ImmutableCollections$List12" "e0" "Ljava/lang/Object;" (.ref f)
set_option maxRecDepth 65536 in
set_option maxHeartbeats 40000000 in
theorem own_of2 (l : Launch) (Z : State) (a0 : Array Value) (hw : ∀ d ∈ tables_1, d.before a0 Z = true) (ws : List Jvm.Cond) (b : Addr) (ks : ClassId) (f : Addr) (f2 : Addr) (h0 : Heap) (n0 : Nat) (Z0 : n0 ≤ h0.size) (V_b : Arv Z h0 b ks (.object "java/lang/String") (2 : Int32) [(.ref f), (.ref f2)] .null) (E_f : Exa Z h0 f "java/lang/String") (E_f2 : Exa Z h0 f2 "java/lang/String") :
    MetFree l (⟨"java/util/List", "of", "([Ljava/lang/Object;)Ljava/util/List;"⟩ : MethodName) (head1 (Jvm.Cond.code (⟨"java/util/List", "of", "([Ljava/lang/Object;)Ljava/util/List;"⟩ : MethodName) jdk_40_method_47_code 2 (some (.object "java/util/List")) :: ws) ({ frames := 5, cells := 1, slots := 2, locals := 63 } : Room)) (fun ag U => ag = #[(.ref b)] ∧ Z.Warmed39 U.vm ∧ U.heap = h0) (fun _ _ _ _ _ => True) (fun _ U o U' => ∃ v L, o = .returned v ∧ Q_own_of2 Z b ks f f2 h0 n0 v U'.heap L ∧ FrameEnd U o U' L ({ frames := 5, cells := 1, slots := 2, locals := 63 } : Room).cells ({ frames := 5, cells := 1, slots := 2, locals := 63 } : Room).slots) := by
  refine own_body (plainFor_of_name pn_10) ?_
  intro p e s m below meth c s₁ Bd hml hZ e0
  have hx := Bd.exec
  have hby := Bd.bytes
  have hlk : meth.locks = false := BodyLoose.notSynchronized Bd
  have hown : s.vm.findClass "java/util/List" = some m.cls := findClass_of_methodNamed Bd.named
  have hnm := (name_of_methodNamed Bd.named Bd.method).1
  have X0 : Stand p l e ({ frames := 5, cells := 1, slots := 2, locals := 63 } : Room) s m #[(.ref b)] below meth c s₁ [] 0 0 := Stand.of_body Bd
  have N0 := Fr.nil n0
  have KP0 : Keep h0 h0 [] := Keep.refl h0 []
  have lt_b := V_b.lt
  have lt_f := E_f.lt
  have lt_f2 := E_f2.lt
  have ty_b_f : b ≠ f := (Ne.symm (Exa.neArv E_f V_b (w5 hw)))
  have ty_b_f2 : b ≠ f2 := (Ne.symm (Exa.neArv E_f2 V_b (w5 hw)))
  refine own_cast (g' := (mkF m 0 #[.val (.ref b), .unset] [])) (by first | (simp [entryFrame, mkF, argsToLocals, own_cat_int, own_cat_long, own_cat_ref, own_cat_null]; done) | rfl) ?_
  refine own_step (T' := s₁) (g' := (mkF m 1 #[.val (.ref b), .unset] [(.ref b)])) (fun _ q => XS.aloadN X0.here hx rfl (hb hby d6_0) rfl rfl q) ?_
  refine own_step (T' := s₁) (g' := (mkF m 2 #[.val (.ref b), .unset] [(.int (2 : Int32))])) (fun _ q => own_len X0 hx hZ e0 V_b (g := (mkF m 1 #[.val (.ref b), .unset] [(.ref b)])) rfl rfl (hb hby d6_1) _ q) ?_
  refine own_step (T' := s₁) (g' := (mkF m 45 #[.val (.ref b), .unset] [])) (fun _ q => XS.tswIn X0.here hx rfl (pc0 := 2) (pc' := 45) rfl (hb hby d6_2) rfl (by decide) (by rfl) (by decide) (by decide) q) ?_
  obtain ⟨T359, h359, X359, e359, E359, A359, D359, -, st359⟩ := newO X0 hx hZ hown (w40 hw) (w41 hw) (w42 hw) e0 (g := (mkF m 45 #[.val (.ref b), .unset] [])) rfl (hb hby d6_45) (by first | decide | (dsimp only; omega)) (by first | decide | (dsimp only; omega))
  obtain ⟨b359, g359⟩ : ∃ z, z = h0.size := ⟨_, rfl⟩
  rw [← g359] at A359 D359 st359
  have n0_360 : n0 ≤ b359 := Nat.le_trans Z0 (Nat.le_of_eq g359.symm)
  have sz0_361 := Nat.le_trans KP0.1 (Nat.le_of_eq g359.symm)
  have ne362 : b ≠ b359 := own_ne lt_b (Nat.le_of_eq g359.symm)
  have ne363 : f ≠ b359 := own_ne lt_f (Nat.le_of_eq g359.symm)
  have ne364 : f2 ≠ b359 := own_ne lt_f2 (Nat.le_of_eq g359.symm)
  have ltb359 := A359.lt
  have F365 : Fld Z h359 b359 "java/util/ImmutableCollections$List12" "e0" "Ljava/lang/Object;" .null := D359 (Or.inr (w71 hw)) (ty := (.object "java/lang/Object")) (by decide)
  have F366 : Fld Z h359 b359 "java/util/ImmutableCollections$List12" "e1" "Ljava/lang/Object;" .null := D359 (Or.inr (w75 hw)) (ty := (.object "java/lang/Object")) (by decide)
  refine own_step (T' := T359) (g' := (mkF m 48 #[.val (.ref b), .unset] [(.ref b359)])) st359 ?_
  refine own_step (T' := T359) (g' := (mkF m 49 #[.val (.ref b), .unset] [(.ref b359), (.ref b359)])) (fun _ q => XS.dup X359.here hx rfl (hb hby d6_48) rfl rfl q) ?_
  refine own_step (T' := T359) (g' := (mkF m 50 #[.val (.ref b), .unset] [(.ref b), (.ref b359), (.ref b359)])) (fun _ q => XS.aloadN X359.here hx rfl (hb hby d6_49) rfl rfl q) ?_
  refine own_step (T' := T359) (g' := (mkF m 51 #[.val (.ref b), .unset] [(.int (0 : Int32)), (.ref b), (.ref b359), (.ref b359)])) (fun _ q => XS.iconst X359.here hx rfl (hb hby d6_50) q) ?_
  have c367 := (V_b.ext E359)
  refine own_step (T' := T359) (g' := (mkF m 52 #[.val (.ref b), .unset] [(.ref f), (.ref b359), (.ref b359)])) (fun _ q => own_ldA X359 hx hZ e359 c367 rfl (j := (0 : Int32)) ⟨by decide, by decide⟩ (v := (.ref f)) rfl (g := (mkF m 51 #[.val (.ref b), .unset] [(.int (0 : Int32)), (.ref b), (.ref b359), (.ref b359)])) rfl rfl (hb hby d6_51) _ q) ?_
  refine own_step (T' := T359) (g' := (mkF m 53 #[.val (.ref b), .unset] [(.ref b), (.ref f), (.ref b359), (.ref b359)])) (fun _ q => XS.aloadN X359.here hx rfl (hb hby d6_52) rfl rfl q) ?_
  refine own_step (T' := T359) (g' := (mkF m 54 #[.val (.ref b), .unset] [(.int (1 : Int32)), (.ref b), (.ref f), (.ref b359), (.ref b359)])) (fun _ q => XS.iconst X359.here hx rfl (hb hby d6_53) q) ?_
  refine own_step (T' := T359) (g' := (mkF m 55 #[.val (.ref b), .unset] [(.ref f2), (.ref f), (.ref b359), (.ref b359)])) (fun _ q => own_ldA X359 hx hZ e359 c367 rfl (j := (1 : Int32)) ⟨by decide, by decide⟩ (v := (.ref f2)) rfl (g := (mkF m 54 #[.val (.ref b), .unset] [(.int (1 : Int32)), (.ref b), (.ref f), (.ref b359), (.ref b359)])) rfl rfl (hb hby d6_54) _ q) ?_
  have c368 := (Nat.le_trans Z0 E359.1)
  refine own_callC X359 hx hZ hown rfl (w123 hw) (w124 hw) (w125 hw) (by decide) (backOf (W := 1) (own_l2 l Z a0 hw [] b359 f f2 h359 n0 c368 A359 n0_360 F365 F366) hZ (w125 hw) (w42 hw) (Nat.le_of_ble_eq_true rfl) (Nat.le_of_ble_eq_true rfl)) e359  (by first | decide | (dsimp only; omega)) (by first | decide | (dsimp only; omega)) (g := (mkF m 55 #[.val (.ref b), .unset] [(.ref f2), (.ref f), (.ref b359), (.ref b359)])) (argsL := [(.ref f), (.ref f2)]) (rest := [(.ref b359)]) rfl (by rw [hml]; rfl) (lenOf pd_11 rfl) rfl rfl (by show 2 * 0 + _ ≤ _; exact Nat.le_of_eq rfl) (hb hby d6_55) ?_
  rintro _ T369 L369 X369 ⟨rfl, N369q, K369, f0_369, f1_369⟩
  have N370 := Fr.app N0 N369q
  show own_Fin p e below _ T369 (mkF m 58 #[.val (.ref b), .unset] [(.ref b359)])
  have c371 := ((KP0.ext E359).trans K369 (allS (Or.inr sz0_361) all0))
  exact own_retA X369 hx Bd.returns rfl rfl (hb hby d6_58) hlk ⟨b359, rfl, N370, c371, sz0_361, f0_369, f1_369⟩ (by first | decide | (dsimp only; omega)) (by first | decide | (dsimp only; omega))
def Q_own_opt2 (Z : State) (a : Addr) (rp : Int32) (b : Addr) (ks : ClassId) (f : Addr) (f2 : Addr) (h0 : Heap) (n0 : Nat) (v : Option Value) (h : Heap) (L : List Loc) : Prop := ∃ (lst : Addr), v = none ∧ Fr n0 L ∧ Keep h0 h [a] ∧ h0.size ≤ lst ∧ Exa Z h a "com/example/gangway/gangway/tool/CommandLine$Option" ∧ Fld Z h a "com/example/gangway/gangway/tool/CommandLine$Option" "spellings" "Ljava/util/List;" (.ref lst) ∧ Exa Z h lst "java/util/ImmutableCollections$List12" ∧ Fld Z h lst "java/util/ImmutableCollections$List12" "e0" "Ljava/lang/Object;" (.ref f)
set_option maxRecDepth 65536 in
set_option maxHeartbeats 40000000 in
theorem own_opt2 (l : Launch) (Z : State) (a0 : Array Value) (hw : ∀ d ∈ tables_1, d.before a0 Z = true) (ws : List Jvm.Cond) (a : Addr) (rp : Int32) (b : Addr) (ks : ClassId) (f : Addr) (f2 : Addr) (h0 : Heap) (n0 : Nat) (Z0 : n0 ≤ h0.size) (E_a : Exa Z h0 a "com/example/gangway/gangway/tool/CommandLine$Option") (ge_a : n0 ≤ a) (F_repeatable_a : Fld Z h0 a "com/example/gangway/gangway/tool/CommandLine$Option" "repeatable" "Z" (.int (0 : Int32))) (F_spellings_a : Fld Z h0 a "com/example/gangway/gangway/tool/CommandLine$Option" "spellings" "Ljava/util/List;" .null) (V_b : Arv Z h0 b ks (.object "java/lang/String") (2 : Int32) [(.ref f), (.ref f2)] .null) (E_f : Exa Z h0 f "java/lang/String") (E_f2 : Exa Z h0 f2 "java/lang/String") :
    MetFree l (⟨"com/example/gangway/gangway/tool/CommandLine$Option", "<init>", "(Z[Ljava/lang/String;)V"⟩ : MethodName) (head1 (Jvm.Cond.code (⟨"com/example/gangway/gangway/tool/CommandLine$Option", "<init>", "(Z[Ljava/lang/String;)V"⟩ : MethodName) prog_29_method_1_code 3 none :: ws) ({ frames := 6, cells := 1, slots := 2, locals := 77 } : Room)) (fun ag U => ag = #[(.ref a), (.int rp), (.ref b)] ∧ Z.Warmed39 U.vm ∧ U.heap = h0) (fun _ _ _ _ _ => True) (fun _ U o U' => ∃ v L, o = .returned v ∧ Q_own_opt2 Z a rp b ks f f2 h0 n0 v U'.heap L ∧ FrameEnd U o U' L ({ frames := 6, cells := 1, slots := 2, locals := 77 } : Room).cells ({ frames := 6, cells := 1, slots := 2, locals := 77 } : Room).slots) := by
  refine own_body (plainFor_of_name pn_11) ?_
  intro p e s m below meth c s₁ Bd hml hZ e0
  have hx := Bd.exec
  have hby := Bd.bytes
  have hlk : meth.locks = false := BodyLoose.notSynchronized Bd
  have hown : s.vm.findClass "com/example/gangway/gangway/tool/CommandLine$Option" = some m.cls := findClass_of_methodNamed Bd.named
  have hnm := (name_of_methodNamed Bd.named Bd.method).1
  have X0 : Stand p l e ({ frames := 6, cells := 1, slots := 2, locals := 77 } : Room) s m #[(.ref a), (.int rp), (.ref b)] below meth c s₁ [] 0 0 := Stand.of_body Bd
  have N0 := Fr.nil n0
  have KP0 : Keep h0 h0 [a] := Keep.refl h0 [a]
  have lt_a := E_a.lt
  have lt_b := V_b.lt
  have lt_f := E_f.lt
  have lt_f2 := E_f2.lt
  have ty_a_b : a ≠ b := (Exa.neArv E_a V_b (w28 hw))
  have ty_a_f : a ≠ f := (Exa.ne E_a E_f (by decide))
  have ty_a_f2 : a ≠ f2 := (Exa.ne E_a E_f2 (by decide))
  have ty_b_f : b ≠ f := (Ne.symm (Exa.neArv E_f V_b (w5 hw)))
  have ty_b_f2 : b ≠ f2 := (Ne.symm (Exa.neArv E_f2 V_b (w5 hw)))
  refine own_cast (g' := (mkF m 0 #[.val (.ref a), .val (.int rp), .val (.ref b)] [])) (by first | (simp [entryFrame, mkF, argsToLocals, own_cat_int, own_cat_long, own_cat_ref, own_cat_null]; done) | rfl) ?_
  refine own_step (T' := s₁) (g' := (mkF m 1 #[.val (.ref a), .val (.int rp), .val (.ref b)] [(.ref a)])) (fun _ q => XS.aloadN X0.here hx rfl (hb hby d5_0) rfl rfl q) ?_
  obtain ⟨T372, X372, e372, st372⟩ := initO X0 hx hZ hown (w33 hw) (w16 hw) (w17 hw) e0 (g := (mkF m 1 #[.val (.ref a), .val (.int rp), .val (.ref b)] [(.ref a)])) rfl (by rw [hml]; rfl) rfl (hb hby d5_1) (Nat.le_of_ble_eq_true rfl) (W := 0) (by show 2 * 0 + _ ≤ _; exact Nat.le_of_eq rfl) (Nat.le_of_ble_eq_true rfl)
  refine own_step (T' := T372) (g' := (mkF m 4 #[.val (.ref a), .val (.int rp), .val (.ref b)] [])) st372 ?_
  refine own_step (T' := T372) (g' := (mkF m 5 #[.val (.ref a), .val (.int rp), .val (.ref b)] [(.ref a)])) (fun _ q => XS.aloadN X372.here hx rfl (hb hby d5_4) rfl rfl q) ?_
  refine own_step (T' := T372) (g' := (mkF m 6 #[.val (.ref a), .val (.int rp), .val (.ref b)] [(.int rp), (.ref a)])) (fun _ q => XS.iloadN X372.here hx rfl (hb hby d5_5) rfl q) ?_
  obtain ⟨T373, h373, X373, e373, W373, st373⟩ := putFN X372 hx hZ hown (w34 hw) Via.refl e372 F_repeatable_a E_a (Or.inr ⟨(w35 hw), rfl, hnm⟩) (w28 hw) (ty := .boolean) (v' := (.int (nar .boolean rp))) (by decide) rfl (fits_nar_bool _) (g := (mkF m 6 #[.val (.ref a), .val (.int rp), .val (.ref b)] [(.int rp), (.ref a)])) rfl rfl (hb hby d5_6)
  have F374 := F_repeatable_a.same W373
  have N375 := Fr.snoc X373 N0 ge_a
  refine own_step (T' := T373) (g' := (mkF m 9 #[.val (.ref a), .val (.int rp), .val (.ref b)] [])) st373 ?_
  refine own_step (T' := T373) (g' := (mkF m 10 #[.val (.ref a), .val (.int rp), .val (.ref b)] [(.ref a)])) (fun _ q => XS.aloadN X373.here hx rfl (hb hby d5_9) rfl rfl q) ?_
  refine own_step (T' := T373) (g' := (mkF m 11 #[.val (.ref a), .val (.int rp), .val (.ref b)] [(.ref b), (.ref a)])) (fun _ q => XS.aloadN X373.here hx rfl (hb hby d5_10) rfl rfl q) ?_
  have c376 := (V_b.other W373 (Ne.symm ty_a_b))
  have c377 := (E_f.wr W373)
  have c378 := (E_f2.wr W373)
  have c379 := (Nat.le_trans Z0 (Keep.of_wr W373).1)
  refine own_callS X373 hx hZ hown (w36 hw) (w37 hw) (w38 hw) (w39 hw) (by decide) (backOf (W := 1) (own_of2 l Z a0 hw [] b ks f f2 h373 n0 c379 c376 c377 c378) hZ (w39 hw) (w38 hw) (Nat.le_of_ble_eq_true rfl) (Nat.le_of_ble_eq_true rfl)) e373  (by first | decide | (dsimp only; omega)) (by first | decide | (dsimp only; omega)) (g := (mkF m 11 #[.val (.ref a), .val (.int rp), .val (.ref b)] [(.ref b), (.ref a)])) (argsL := [(.ref b)]) (rest := [(.ref a)]) rfl (by rw [hml]; rfl) (lenOf pd_10 rfl) rfl rfl (by show 2 * 0 + _ ≤ _; exact Nat.le_of_eq rfl) (hb hby d5_11) ?_
  rintro _ T380 L380 X380 ⟨a380, rfl, N380q, K380, f0_380, f1_380, f2_380⟩
  have n0_381 : n0 ≤ a380 := Nat.le_trans c379 f0_380
  have c382 := (KP0.wr W373 (Or.inl (List.mem_of_getElem? (i := 0) rfl)))
  have sz0_383 := Nat.le_trans c382.1 f0_380
  have c384 := (own_lt lt_a (Keep.of_wr W373).1)
  have ne385 : a ≠ a380 := own_ne c384 f0_380
  have c386 := (own_lt lt_b (Keep.of_wr W373).1)
  have ne387 : b ≠ a380 := own_ne c386 f0_380
  have c388 := (own_lt lt_f (Keep.of_wr W373).1)
  have ne389 : f ≠ a380 := own_ne c388 f0_380
  have c390 := (own_lt lt_f2 (Keep.of_wr W373).1)
  have ne391 : f2 ≠ a380 := own_ne c390 f0_380
  have lt392 := f1_380.lt
  have N393 := Fr.app N375 N380q
  show own_Fin p e below _ T380 (mkF m 14 #[.val (.ref a), .val (.int rp), .val (.ref b)] [(.ref a380), (.ref a)])
  have c394 := ((E_a.wr W373).keep K380)
  have c395 := ((F_spellings_a.other W373 (Or.inr (RoadKit.slot_ne (t := (.object "java/util/List")) (t' := .boolean) (Or.inr (w77 hw)) (Or.inr (w35 hw)) (by decide) (by decide) (by decide)))).keep K380 nin0)
  obtain ⟨T396, h396, X396, e396, W396, st396⟩ := putF X380 hx hZ hown (host := "") (Or.inl (w76 hw)) Via.refl rfl c395 c394 (Or.inr ⟨(w77 hw), rfl, hnm⟩) (w28 hw) (ty := (.object "java/util/List")) (by decide) rfl rfl (g := (mkF m 14 #[.val (.ref a), .val (.int rp), .val (.ref b)] [(.ref a380), (.ref a)])) rfl rfl (hb hby d5_14)
  have F397 := c395.same W396
  have N398 := Fr.snoc X396 N393 ge_a
  refine own_step (T' := T396) (g' := (mkF m 17 #[.val (.ref a), .val (.int rp), .val (.ref b)] [])) st396 ?_
  have c399 := ((c382.trans K380 all0).wr W396 (Or.inl (List.mem_of_getElem? (i := 0) rfl)))
  have c400 := (c394.wr W396)
  have c401 := (f1_380.wr W396)
  have c402 := (f2_380.other W396 (Or.inl (Ne.symm ne385)))
  exact own_retV X396 hx Bd.returns (hb hby d5_17) hlk (by rw [e396]; exact ⟨a380, rfl, N398, c399, sz0_383, c400, F397, c401, c402⟩) (by first | decide | (dsimp only; omega)) (by first | decide | (dsimp only; omega))
theorem d6_59 : decode jdk_40_method_47_code 59 = .ok (.aload_n 0, 1) := by decide +kernel
theorem d6_60 : decode jdk_40_method_47_code 60 = .ok (.invokestatic 109, 3) := by decide +kernel
theorem d6_63 : decode jdk_40_method_47_code 63 = .ok (.areturn, 1) := by decide +kernel
def Q_own_of3 (Z : State) (b : Addr) (ks : ClassId) (f : Addr) (f2 : Addr) (f3 : Addr) (h0 : Heap) (n0 : Nat) (v : Option Value) (h : Heap) (L : List Loc) : Prop := ∃ (a : Addr), ∃ (t : Addr), ∃ (kt : ClassId), v = some (.ref a) ∧ Fr n0 L ∧ Keep h0 h [] ∧ h0.size ≤ a ∧ h0.size ≤ t ∧ Exa Z h a "java/util/ImmutableCollections$ListN" ∧ Fld Z h a "java/util/ImmutableCollections$ListN" "elements" "[Ljava/lang/Object;" (.ref t) ∧ Arv Z h t kt (.object "java/lang/Object") (3 : Int32) [(.ref f), (.ref f2), (.ref f3)] .null
set_option maxRecDepth 65536 in
set_option maxHeartbeats 40000000 in
theorem own_of3 (l : Launch) (Z : State) (a0 : Array Value) (hw : ∀ d ∈ tables_1, d.before a0 Z = true) (ws : List Jvm.Cond) (b : Addr) (ks : ClassId) (f : Addr) (f2 : Addr) (f3 : Addr) (h0 : Heap) (n0 : Nat) (Z0 : n0 ≤ h0.size) (V_b : Arv Z h0 b ks (.object "java/lang/String") (3 : Int32) [(.ref f), (.ref f2), (.ref f3)] .null) (E_f : Exa Z h0 f "java/lang/String") (E_f2 : Exa Z h0 f2 "java/lang/String") (E_f3 : Exa Z h0 f3 "java/lang/String") :
    MetFree l (⟨"java/util/List", "of", "([Ljava/lang/Object;)Ljava/util/List;"⟩ : MethodName) (head1 (Jvm.Cond.code (⟨"java/util/List", "of", "([Ljava/lang/Object;)Ljava/util/List;"⟩ : MethodName) jdk_40_method_47_code 2 (some (.object "java/util/List")) :: ws) ({ frames := 6, cells := 2, slots := 5, locals := 77 } : Room)) (fun ag U => ag = #[(.ref b)] ∧ Z.Warmed39 U.vm ∧ U.heap = h0) (fun _ _ _ _ _ => True) (fun _ U o U' => ∃ v L, o = .returned v ∧ Q_own_of3 Z b ks f f2 f3 h0 n0 v U'.heap L ∧ FrameEnd U o U' L ({ frames := 6, cells := 2, slots := 5, locals := 77 } : Room).cells ({ frames := 6, cells := 2, slots := 5, locals := 77 } : Room).slots) := by
  refine own_body (plainFor_of_name pn_10) ?_
  intro p e s m below meth c s₁ Bd hml hZ e0
  have hx := Bd.exec
  have hby := Bd.bytes
  have hlk : meth.locks = false := BodyLoose.notSynchronized Bd
  have hown : s.vm.findClass "java/util/List" = some m.cls := findClass_of_methodNamed Bd.named
  have hnm := (name_of_methodNamed Bd.named Bd.method).1
  have X0 : Stand p l e ({ frames := 6, cells := 2, slots := 5, locals := 77 } : Room) s m #[(.ref b)] below meth c s₁ [] 0 0 := Stand.of_body Bd
  have N0 := Fr.nil n0
  have KP0 : Keep h0 h0 [] := Keep.refl h0 []
  have lt_b := V_b.lt
  have lt_f := E_f.lt
  have lt_f2 := E_f2.lt
  have lt_f3 := E_f3.lt
  have ty_b_f : b ≠ f := (Ne.symm (Exa.neArv E_f V_b (w5 hw)))
  have ty_b_f2 : b ≠ f2 := (Ne.symm (Exa.neArv E_f2 V_b (w5 hw)))
  have ty_b_f3 : b ≠ f3 := (Ne.symm (Exa.neArv E_f3 V_b (w5 hw)))
  refine own_cast (g' := (mkF m 0 #[.val (.ref b), .unset] [])) (by first | (simp [entryFrame, mkF, argsToLocals, own_cat_int, own_cat_long, own_cat_ref, own_cat_null]; done) | rfl) ?_
  refine own_step (T' := s₁) (g' := (mkF m 1 #[.val (.ref b), .unset] [(.ref b)])) (fun _ q => XS.aloadN X0.here hx rfl (hb hby d6_0) rfl rfl q) ?_
  refine own_step (T' := s₁) (g' := (mkF m 2 #[.val (.ref b), .unset] [(.int (3 : Int32))])) (fun _ q => own_len X0 hx hZ e0 V_b (g := (mkF m 1 #[.val (.ref b), .unset] [(.ref b)])) rfl rfl (hb hby d6_1) _ q) ?_
  refine own_step (T' := s₁) (g' := (mkF m 59 #[.val (.ref b), .unset] [])) (fun _ q => XS.tswOut X0.here hx rfl (pc0 := 2) (pc' := 59) rfl (hb hby d6_2) rfl (by decide) (by decide) (by decide) q) ?_
  refine own_step (T' := s₁) (g' := (mkF m 60 #[.val (.ref b), .unset] [(.ref b)])) (fun _ q => XS.aloadN X0.here hx rfl (hb hby d6_59) rfl rfl q) ?_
  refine own_callS X0 hx hZ hown (w136 hw) (w137 hw) (w73 hw) (w138 hw) (by decide) (backOf (W := 0) (own_lfa l Z a0 hw [] b ks f f2 f3 h0 n0 Z0 V_b E_f E_f2 E_f3) hZ (w138 hw) (w73 hw) (Nat.le_of_ble_eq_true rfl) (Nat.le_of_ble_eq_true rfl)) e0  (by first | decide | (dsimp only; omega)) (by first | decide | (dsimp only; omega)) (g := (mkF m 60 #[.val (.ref b), .unset] [(.ref b)])) (argsL := [(.ref b)]) (rest := []) rfl (by rw [hml]; rfl) (lenOf pd_10 rfl) rfl rfl (by show 2 * 0 + _ ≤ _; exact Nat.le_of_eq rfl) (hb hby d6_60) ?_
  rintro _ T403 L403 X403 ⟨a403, t403, kt403, rfl, N403q, K403, f0_403, f1_403, f2_403, f3_403, f4_403⟩
  have n0_404 : n0 ≤ a403 := Nat.le_trans Z0 f0_403
  have sz0_405 := Nat.le_trans KP0.1 f0_403
  have ne406 : b ≠ a403 := own_ne lt_b f0_403
  have ne407 : f ≠ a403 := own_ne lt_f f0_403
  have ne408 : f2 ≠ a403 := own_ne lt_f2 f0_403
  have ne409 : f3 ≠ a403 := own_ne lt_f3 f0_403
  have n0_410 : n0 ≤ t403 := Nat.le_trans Z0 f1_403
  have sz0_411 := Nat.le_trans KP0.1 f1_403
  have ne412 : b ≠ t403 := own_ne lt_b f1_403
  have ne413 : f ≠ t403 := own_ne lt_f f1_403
  have ne414 : f2 ≠ t403 := own_ne lt_f2 f1_403
  have ne415 : f3 ≠ t403 := own_ne lt_f3 f1_403
  have lt416 := f2_403.lt
  have lt417 := f4_403.lt
  have N418 := Fr.app N0 N403q
  show own_Fin p e below _ T403 (mkF m 63 #[.val (.ref b), .unset] [(.ref a403)])
  have c419 := (KP0.trans K403 all0)
  exact own_retA X403 hx Bd.returns rfl rfl (hb hby d6_63) hlk ⟨a403, t403, kt403, rfl, N418, c419, sz0_405, sz0_411, f2_403, f3_403, f4_403⟩ (by first | decide | (dsimp only; omega)) (by first | decide | (dsimp only; omega))
def Q_own_opt3 (Z : State) (a : Addr) (rp : Int32) (b : Addr) (ks : ClassId) (f : Addr) (f2 : Addr) (f3 : Addr) (h0 : Heap) (n0 : Nat) (v : Option Value) (h : Heap) (L : List Loc) : Prop := ∃ (lst : Addr), ∃ (t : Addr), ∃ (kt : ClassId), v = none ∧ Fr n0 L ∧ Keep h0 h [a] ∧ h0.size ≤ lst ∧ Exa Z h a "com/example/gangway/gangway/tool/CommandLine$Option" ∧ Fld Z h a "com/example/gangway/gangway/tool/CommandLine$Option" "spellings" "Ljava/util/List;" (.ref lst) ∧ h0.size ≤ t ∧ Exa Z h lst "java/util/ImmutableCollections$ListN" ∧ Fld Z h lst "java/util/ImmutableCollections$ListN" "elements" "[Ljava/lang/Object;" (.ref t) ∧ Arv Z h t kt (.object "java/lang/Object") (3 : Int32) [(.ref f), (.ref f2), (.ref f3)] .null
set_option maxRecDepth 65536 in
set_option maxHeartbeats 40000000 in
theorem own_opt3 (l : Launch) (Z : State) (a0 : Array Value) (hw : ∀ d ∈ tables_1, d.before a0 Z = true) (ws : List Jvm.Cond) (a : Addr) (rp : Int32) (b : Addr) (ks : ClassId) (f : Addr) (f2 : Addr) (f3 : Addr) (h0 : Heap) (n0 : Nat) (Z0 : n0 ≤ h0.size) (E_a : Exa Z h0 a "com/example/gangway/gangway/tool/CommandLine$Option") (ge_a : n0 ≤ a) (F_repeatable_a : Fld Z h0 a "com/example/gangway/gangway/tool/CommandLine$Option" "repeatable" "Z" (.int (0 : Int32))) (F_spellings_a : Fld Z h0 a "com/example/gangway/gangway/tool/CommandLine$Option" "spellings" "Ljava/util/List;" .null) (V_b : Arv Z h0 b ks (.object "java/lang/String") (3 : Int32) [(.ref f), (.ref f2), (.ref f3)] .null) (E_f : Exa Z h0 f "java/lang/String") (E_f2 : Exa Z h0 f2 "java/lang/String") (E_f3 : Exa Z h0 f3 "java/lang/String") :
    MetFree l (⟨"com/example/gangway/gangway/tool/CommandLine$Option", "<init>", "(Z[Ljava/lang/String;)V"⟩ : MethodName) (head1 (Jvm.Cond.code (⟨"com/example/gangway/gangway/tool/CommandLine$Option", "<init>", "(Z[Ljava/lang/String;)V"⟩ : MethodName) prog_29_method_1_code 3 none :: ws) ({ frames := 7, cells := 2, slots := 5, locals := 91 } : Room)) (fun ag U => ag = #[(.ref a), (.int rp), (.ref b)] ∧ Z.Warmed39 U.vm ∧ U.heap = h0) (fun _ _ _ _ _ => True) (fun _ U o U' => ∃ v L, o = .returned v ∧ Q_own_opt3 Z a rp b ks f f2 f3 h0 n0 v U'.heap L ∧ FrameEnd U o U' L ({ frames := 7, cells := 2, slots := 5, locals := 91 } : Room).cells ({ frames := 7, cells := 2, slots := 5, locals := 91 } : Room).slots) := by
  refine own_body (plainFor_of_name pn_11) ?_
  intro p e s m below meth c s₁ Bd hml hZ e0
  have hx := Bd.exec
  have hby := Bd.bytes
  have hlk : meth.locks = false := BodyLoose.notSynchronized Bd
  have hown : s.vm.findClass "com/example/gangway/gangway/tool/CommandLine$Option" = some m.cls := findClass_of_methodNamed Bd.named
  have hnm := (name_of_methodNamed Bd.named Bd.method).1
  have X0 : Stand p l e ({ frames := 7, cells := 2, slots := 5, locals := 91 } : Room) s m #[(.ref a), (.int rp), (.ref b)] below meth c s₁ [] 0 0 := Stand.of_body Bd
  have N0 := Fr.nil n0
  have KP0 : Keep h0 h0 [a] := Keep.refl h0 [a]
  have lt_a := E_a.lt
  have lt_b := V_b.lt
  have lt_f := E_f.lt
  have lt_f2 := E_f2.lt
  have lt_f3 := E_f3.lt
  have ty_a_b : a ≠ b := (Exa.neArv E_a V_b (w28 hw))
  have ty_a_f : a ≠ f := (Exa.ne E_a E_f (by decide))
  have ty_a_f2 : a ≠ f2 := (Exa.ne E_a E_f2 (by decide))
  have ty_a_f3 : a ≠ f3 := (Exa.ne E_a E_f3 (by decide))
  have ty_b_f : b ≠ f := (Ne.symm (Exa.neArv E_f V_b (w5 hw)))
  have ty_b_f2 : b ≠ f2 := (Ne.symm (Exa.neArv E_f2 V_b (w5 hw)))
  have ty_b_f3 : b ≠ f3 := (Ne.symm (Exa.neArv E_f3 V_b (w5 hw)))
  refine own_cast (g' := (mkF m 0 #[.val (.ref a), .val (.int rp), .val (.ref b)] [])) (by first | (simp [entryFrame, mkF, argsToLocals, own_cat_int, own_cat_long, own_cat_ref, own_cat_null]; done) | rfl) ?_
  refine own_step (T' := s₁) (g' := (mkF m 1 #[.val (.ref a), .val (.int rp), .val (.ref b)] [(.ref a)])) (fun _ q => XS.aloadN X0.here hx rfl (hb hby d5_0) rfl rfl q) ?_
  obtain ⟨T420, X420, e420, st420⟩ := initO X0 hx hZ hown (w33 hw) (w16 hw) (w17 hw) e0 (g := (mkF m 1 #[.val (.ref a), .val (.int rp), .val (.ref b)] [(.ref a)])) rfl (by rw [hml]; rfl) rfl (hb hby d5_1) (Nat.le_of_ble_eq_true rfl) (W := 0) (by show 2 * 0 + _ ≤ _; exact Nat.le_of_eq rfl) (Nat.le_of_ble_eq_true rfl)
  refine own_step (T' := T420) (g' := (mkF m 4 #[.val (.ref a), .val (.int rp), .val (.ref b)] [])) st420 ?_
  refine own_step (T' := T420) (g' := (mkF m 5 #[.val (.ref a), .val (.int rp), .val (.ref b)] [(.ref a)])) (fun _ q => XS.aloadN X420.here hx rfl (hb hby d5_4) rfl rfl q) ?_
  refine own_step (T' := T420) (g' := (mkF m 6 #[.val (.ref a), .val (.int rp), .val (.ref b)] [(.int rp), (.ref a)])) (fun _ q => XS.iloadN X420.here hx rfl (hb hby d5_5) rfl q) ?_
  obtain ⟨T421, h421, X421, e421, W421, st421⟩ := putFN X420 hx hZ hown (w34 hw) Via.refl e420 F_repeatable_a E_a (Or.inr ⟨(w35 hw), rfl, hnm⟩) (w28 hw) (ty := .boolean) (v' := (.int (nar .boolean rp))) (by decide) rfl (fits_nar_bool _) (g := (mkF m 6 #[.val (.ref a), .val (.int rp), .val (.ref b)] [(.int rp), (.ref a)])) rfl rfl (hb hby d5_6)
  have F422 := F_repeatable_a.same W421
  have N423 := Fr.snoc X421 N0 ge_a
  refine own_step (T' := T421) (g' := (mkF m 9 #[.val (.ref a), .val (.int rp), .val (.ref b)] [])) st421 ?_
  refine own_step (T' := T421) (g' := (mkF m 10 #[.val (.ref a), .val (.int rp), .val (.ref b)] [(.ref a)])) (fun _ q => XS.aloadN X421.here hx rfl (hb hby d5_9) rfl rfl q) ?_
  refine own_step (T' := T421) (g' := (mkF m 11 #[.val (.ref a), .val (.int rp), .val (.ref b)] [(.ref b), (.ref a)])) (fun _ q => XS.aloadN X421.here hx rfl (hb hby d5_10) rfl rfl q) ?_
  have c424 := (V_b.other W421 (Ne.symm ty_a_b))
  have c425 := (E_f.wr W421)
  have c426 := (E_f2.wr W421)
  have c427 := (E_f3.wr W421)
  have c428 := (Nat.le_trans Z0 (Keep.of_wr W421).1)
  refine own_callS X421 hx hZ hown (w36 hw) (w37 hw) (w38 hw) (w39 hw) (by decide) (backOf (W := 1) (own_of3 l Z a0 hw [] b ks f f2 f3 h421 n0 c428 c424 c425 c426 c427) hZ (w39 hw) (w38 hw) (Nat.le_of_ble_eq_true rfl) (Nat.le_of_ble_eq_true rfl)) e421  (by first | decide | (dsimp only; omega)) (by first | decide | (dsimp only; omega)) (g := (mkF m 11 #[.val (.ref a), .val (.int rp), .val (.ref b)] [(.ref b), (.ref a)])) (argsL := [(.ref b)]) (rest := [(.ref a)]) rfl (by rw [hml]; rfl) (lenOf pd_10 rfl) rfl rfl (by show 2 * 0 + _ ≤ _; exact Nat.le_of_eq rfl) (hb hby d5_11) ?_
  rintro _ T429 L429 X429 ⟨a429, t429, kt429, rfl, N429q, K429, f0_429, f1_429, f2_429, f3_429, f4_429⟩
  have n0_430 : n0 ≤ a429 := Nat.le_trans c428 f0_429
  have c431 := (KP0.wr W421 (Or.inl (List.mem_of_getElem? (i := 0) rfl)))
  have sz0_432 := Nat.le_trans c431.1 f0_429
  have c433 := (own_lt lt_a (Keep.of_wr W421).1)
  have ne434 : a ≠ a429 := own_ne c433 f0_429
  have c435 := (own_lt lt_b (Keep.of_wr W421).1)
  have ne436 : b ≠ a429 := own_ne c435 f0_429
  have c437 := (own_lt lt_f (Keep.of_wr W421).1)
  have ne438 : f ≠ a429 := own_ne c437 f0_429
  have c439 := (own_lt lt_f2 (Keep.of_wr W421).1)
  have ne440 : f2 ≠ a429 := own_ne c439 f0_429
  have c441 := (own_lt lt_f3 (Keep.of_wr W421).1)
  have ne442 : f3 ≠ a429 := own_ne c441 f0_429
  have n0_443 : n0 ≤ t429 := Nat.le_trans c428 f1_429
  have sz0_444 := Nat.le_trans c431.1 f1_429
  have ne445 : a ≠ t429 := own_ne c433 f1_429
  have ne446 : b ≠ t429 := own_ne c435 f1_429
  have ne447 : f ≠ t429 := own_ne c437 f1_429
  have ne448 : f2 ≠ t429 := own_ne c439 f1_429
  have ne449 : f3 ≠ t429 := own_ne c441 f1_429
  have lt450 := f2_429.lt
  have lt451 := f4_429.lt
  have N452 := Fr.app N423 N429q
  show own_Fin p e below _ T429 (mkF m 14 #[.val (.ref a), .val (.int rp), .val (.ref b)] [(.ref a429), (.ref a)])
  have c453 := ((E_a.wr W421).keep K429)
  have c454 := ((F_spellings_a.other W421 (Or.inr (RoadKit.slot_ne (t := (.object "java/util/List")) (t' := .boolean) (Or.inr (w77 hw)) (Or.inr (w35 hw)) (by decide) (by decide) (by decide)))).keep K429 nin0)
  obtain ⟨T455, h455, X455, e455, W455, st455⟩ := putF X429 hx hZ hown (host := "") (Or.inl (w76 hw)) Via.refl rfl c454 c453 (Or.inr ⟨(w77 hw), rfl, hnm⟩) (w28 hw) (ty := (.object "java/util/List")) (by decide) rfl rfl (g := (mkF m 14 #[.val (.ref a), .val (.int rp), .val (.ref b)] [(.ref a429), (.ref a)])) rfl rfl (hb hby d5_14)
  have F456 := c454.same W455
  have N457 := Fr.snoc X455 N452 ge_a
  refine own_step (T' := T455) (g' := (mkF m 17 #[.val (.ref a), .val (.int rp), .val (.ref b)] [])) st455 ?_
  have c458 := ((c431.trans K429 all0).wr W455 (Or.inl (List.mem_of_getElem? (i := 0) rfl)))
  have c459 := (c453.wr W455)
  have c460 := (f2_429.wr W455)
  have c461 := (f3_429.other W455 (Or.inl (Ne.symm ne434)))
  have c462 := (f4_429.other W455 (Ne.symm ne445))
  exact own_retV X455 hx Bd.returns (hb hby d5_17) hlk (by rw [e455]; exact ⟨a429, t429, kt429, rfl, N457, c458, sz0_432, c459, F456, sz0_444, c460, c461, c462⟩) (by first | decide | (dsimp only; omega)) (by first | decide | (dsimp only; omega))
theorem d13_0 : decode jdk_44_method_5_code 0 = .ok (.iload_n 1, 1) := by decide +kernel
theorem d13_1 : decode jdk_44_method_5_code 1 = .ok (.ifCond .ne 8, 3) := by decide +kernel
theorem d13_4 : decode jdk_44_method_5_code 4 = .ok (.aload_n 0, 1) := by decide +kernel
theorem d13_5 : decode jdk_44_method_5_code 5 = .ok (.getfield 13, 3) := by decide +kernel
theorem d13_8 : decode jdk_44_method_5_code 8 = .ok (.areturn, 1) := by decide +kernel
def Q_own_g12 (Z : State) (a : Addr) (f : Addr) (h0 : Heap) (n0 : Nat) (v : Option Value) (h : Heap) (L : List Loc) : Prop := v = some (.ref f) ∧ Fr n0 L ∧ h = h0
set_option maxRecDepth 65536 in
set_option maxHeartbeats 40000000 in
theorem own_g12 (l : Launch) (Z : State) (a0 : Array Value) (hw : ∀ d ∈ tables_1, d.before a0 Z = true) (ws : List Jvm.Cond) (a : Addr) (f : Addr) (h0 : Heap) (n0 : Nat) (Z0 : n0 ≤ h0.size) (F_e0_a : Fld Z h0 a "java/util/ImmutableCollections$List12" "e0" "Ljava/lang/Object;" (.ref f)) :
    MetFree l (⟨"java/util/ImmutableCollections$List12", "get", "(I)Ljava/lang/Object;"⟩ : MethodName) (head1 (Jvm.Cond.code (⟨"java/util/ImmutableCollections$List12", "get", "(I)Ljava/lang/Object;"⟩ : MethodName) jdk_44_method_5_code 2 (some (.object "java/lang/Object")) :: ws) ({ frames := 0, cells := 0, slots := 0, locals := 0 } : Room)) (fun ag U => ag = #[(.ref a), (.int (0 : Int32))] ∧ Z.Warmed39 U.vm ∧ U.heap = h0) (fun _ _ _ _ _ => True) (fun _ U o U' => ∃ v L, o = .returned v ∧ Q_own_g12 Z a f h0 n0 v U'.heap L ∧ FrameEnd U o U' L ({ frames := 0, cells := 0, slots := 0, locals := 0 } : Room).cells ({ frames := 0, cells := 0, slots := 0, locals := 0 } : Room).slots) := by
  refine own_body (plainFor_of_name pn_7) ?_
  intro p e s m below meth c s₁ Bd hml hZ e0
  have hx := Bd.exec
  have hby := Bd.bytes
  have hlk : meth.locks = false := BodyLoose.notSynchronized Bd
  have hown : s.vm.findClass "java/util/ImmutableCollections$List12" = some m.cls := findClass_of_methodNamed Bd.named
  have hnm := (name_of_methodNamed Bd.named Bd.method).1
  have X0 : Stand p l e ({ frames := 0, cells := 0, slots := 0, locals := 0 } : Room) s m #[(.ref a), (.int (0 : Int32))] below meth c s₁ [] 0 0 := Stand.of_body Bd
  have N0 := Fr.nil n0
  have KP0 : Keep h0 h0 [] := Keep.refl h0 []
  have lt_a := F_e0_a.lt
  refine own_cast (g' := (mkF m 0 #[.val (.ref a), .val (.int (0 : Int32))] [])) (by first | (simp [entryFrame, mkF, argsToLocals, own_cat_int, own_cat_long, own_cat_ref, own_cat_null]; done) | rfl) ?_
  refine own_step (T' := s₁) (g' := (mkF m 1 #[.val (.ref a), .val (.int (0 : Int32))] [(.int (0 : Int32))])) (fun _ q => XS.iloadN X0.here hx rfl (hb hby d13_0) rfl q) ?_
  refine own_step (T' := s₁) (g' := (mkF m 4 #[.val (.ref a), .val (.int (0 : Int32))] [])) (fun _ q => XS.ifNo X0.here hx rfl (hb hby d13_1) rfl (by decide) q) ?_
  refine own_step (T' := s₁) (g' := (mkF m 5 #[.val (.ref a), .val (.int (0 : Int32))] [(.ref a)])) (fun _ q => XS.aloadN X0.here hx rfl (hb hby d13_4) rfl rfl q) ?_
  obtain ⟨T463, X463, e463, st463⟩ := getF X0 hx hZ hown (host := "") (Or.inl (w70 hw)) Via.refl e0 F_e0_a (g := (mkF m 5 #[.val (.ref a), .val (.int (0 : Int32))] [(.ref a)])) rfl rfl (hb hby d13_5)
  refine own_step (T' := T463) (g' := (mkF m 8 #[.val (.ref a), .val (.int (0 : Int32))] [(.ref f)])) st463 ?_
  exact own_retA X463 hx Bd.returns rfl rfl (hb hby d13_8) hlk ⟨rfl, N0, e463⟩ (by first | decide | (dsimp only; omega)) (by first | decide | (dsimp only; omega))
theorem d27_0 : decode jdk_45_method_4_code 0 = .ok (.aload_n 0, 1) := by decide +kernel
theorem d27_1 : decode jdk_45_method_4_code 1 = .ok (.getfield 7, 3) := by decide +kernel
theorem d27_4 : decode jdk_45_method_4_code 4 = .ok (.iload_n 1, 1) := by decide +kernel
theorem d27_5 : decode jdk_45_method_4_code 5 = .ok (.aaload, 1) := by decide +kernel
theorem d27_6 : decode jdk_45_method_4_code 6 = .ok (.areturn, 1) := by decide +kernel
def Q_own_gn (Z : State) (a : Addr) (t : Addr) (kt : ClassId) (f : Addr) (f2 : Addr) (f3 : Addr) (h0 : Heap) (n0 : Nat) (v : Option Value) (h : Heap) (L : List Loc) : Prop := v = some (.ref f) ∧ Fr n0 L ∧ h = h0
set_option maxRecDepth 65536 in
set_option maxHeartbeats 40000000 in
theorem own_gn (l : Launch) (Z : State) (a0 : Array Value) (hw : ∀ d ∈ tables_1, d.before a0 Z = true) (ws : List Jvm.Cond) (a : Addr) (t : Addr) (kt : ClassId) (f : Addr) (f2 : Addr) (f3 : Addr) (h0 : Heap) (n0 : Nat) (Z0 : n0 ≤ h0.size) (F_elements_a : Fld Z h0 a "java/util/ImmutableCollections$ListN" "elements" "[Ljava/lang/Object;" (.ref t)) (V_t : Arv Z h0 t kt (.object "java/lang/Object") (3 : Int32) [(.ref f), (.ref f2), (.ref f3)] .null) :
    MetFree l (⟨"java/util/ImmutableCollections$ListN", "get", "(I)Ljava/lang/Object;"⟩ : MethodName) (head1 (Jvm.Cond.code (⟨"java/util/ImmutableCollections$ListN", "get", "(I)Ljava/lang/Object;"⟩ : MethodName) jdk_45_method_4_code 2 (some (.object "java/lang/Object")) :: ws) ({ frames := 0, cells := 0, slots := 0, locals := 0 } : Room)) (fun ag U => ag = #[(.ref a), (.int (0 : Int32))] ∧ Z.Warmed39 U.vm ∧ U.heap = h0) (fun _ _ _ _ _ => True) (fun _ U o U' => ∃ v L, o = .returned v ∧ Q_own_gn Z a t kt f f2 f3 h0 n0 v U'.heap L ∧ FrameEnd U o U' L ({ frames := 0, cells := 0, slots := 0, locals := 0 } : Room).cells ({ frames := 0, cells := 0, slots := 0, locals := 0 } : Room).slots) := by
  refine own_body (plainFor_of_name pn_8) ?_
  intro p e s m below meth c s₁ Bd hml hZ e0
  have hx := Bd.exec
  have hby := Bd.bytes
  have hlk : meth.locks = false := BodyLoose.notSynchronized Bd
  have hown : s.vm.findClass "java/util/ImmutableCollections$ListN" = some m.cls := findClass_of_methodNamed Bd.named
  have hnm := (name_of_methodNamed Bd.named Bd.method).1
  have X0 : Stand p l e ({ frames := 0, cells := 0, slots := 0, locals := 0 } : Room) s m #[(.ref a), (.int (0 : Int32))] below meth c s₁ [] 0 0 := Stand.of_body Bd
  have N0 := Fr.nil n0
  have KP0 : Keep h0 h0 [] := Keep.refl h0 []
  have lt_a := F_elements_a.lt
  have lt_t := V_t.lt
  refine own_cast (g' := (mkF m 0 #[.val (.ref a), .val (.int (0 : Int32))] [])) (by first | (simp [entryFrame, mkF, argsToLocals, own_cat_int, own_cat_long, own_cat_ref, own_cat_null]; done) | rfl) ?_
  refine own_step (T' := s₁) (g' := (mkF m 1 #[.val (.ref a), .val (.int (0 : Int32))] [(.ref a)])) (fun _ q => XS.aloadN X0.here hx rfl (hb hby d27_0) rfl rfl q) ?_
  obtain ⟨T464, X464, e464, st464⟩ := getF X0 hx hZ hown (host := "") (Or.inl (w154 hw)) Via.refl e0 F_elements_a (g := (mkF m 1 #[.val (.ref a), .val (.int (0 : Int32))] [(.ref a)])) rfl rfl (hb hby d27_1)
  refine own_step (T' := T464) (g' := (mkF m 4 #[.val (.ref a), .val (.int (0 : Int32))] [(.ref t)])) st464 ?_
  refine own_step (T' := T464) (g' := (mkF m 5 #[.val (.ref a), .val (.int (0 : Int32))] [(.int (0 : Int32)), (.ref t)])) (fun _ q => XS.iloadN X464.here hx rfl (hb hby d27_4) rfl q) ?_
  refine own_step (T' := T464) (g' := (mkF m 6 #[.val (.ref a), .val (.int (0 : Int32))] [(.ref f)])) (fun _ q => own_ldA X464 hx hZ e464 V_t rfl (j := (0 : Int32)) ⟨by decide, by decide⟩ (v := (.ref f)) rfl (g := (mkF m 5 #[.val (.ref a), .val (.int (0 : Int32))] [(.int (0 : Int32)), (.ref t)])) rfl rfl (hb hby d27_5) _ q) ?_
  exact own_retA X464 hx Bd.returns rfl rfl (hb hby d27_6) hlk ⟨rfl, N0, e464⟩ (by first | decide | (dsimp only; omega)) (by first | decide | (dsimp only; omega))
theorem pd_12 : parseMethodDescriptor "(I)Ljava/lang/Object;" = some ⟨[.int], some (.object "java/lang/Object")⟩ := by decide +kernel
theorem d12_0 : decode prog_29_method_2_code 0 = .ok (.aload_n 0, 1) := by decide +kernel
theorem d12_1 : decode prog_29_method_2_code 1 = .ok (.getfield 19, 3) := by decide +kernel
theorem d12_4 : decode prog_29_method_2_code 4 = .ok (.iconst 0, 1) := by decide +kernel
theorem d12_5 : decode prog_29_method_2_code 5 = .ok (.invokeinterface 23 2, 5) := by decide +kernel
theorem d12_10 : decode prog_29_method_2_code 10 = .ok (.checkcast 27, 3) := by decide +kernel
theorem d12_13 : decode prog_29_method_2_code 13 = .ok (.areturn, 1) := by decide +kernel
def Q_own_nm12 (Z : State) (a : Addr) (lst : Addr) (f : Addr) (h0 : Heap) (n0 : Nat) (v : Option Value) (h : Heap) (L : List Loc) : Prop := v = some (.ref f) ∧ Fr n0 L ∧ h = h0
set_option maxRecDepth 65536 in
set_option maxHeartbeats 40000000 in
theorem own_nm12 (l : Launch) (Z : State) (a0 : Array Value) (hw : ∀ d ∈ tables_1, d.before a0 Z = true) (ws : List Jvm.Cond) (a : Addr) (lst : Addr) (f : Addr) (h0 : Heap) (n0 : Nat) (Z0 : n0 ≤ h0.size) (F_spellings_a : Fld Z h0 a "com/example/gangway/gangway/tool/CommandLine$Option" "spellings" "Ljava/util/List;" (.ref lst)) (E_lst : Exa Z h0 lst "java/util/ImmutableCollections$List12") (F_e0_lst : Fld Z h0 lst "java/util/ImmutableCollections$List12" "e0" "Ljava/lang/Object;" (.ref f)) (E_f : Exa Z h0 f "java/lang/String") :
    MetFree l (⟨"com/example/gangway/gangway/tool/CommandLine$Option", "name", "()Ljava/lang/String;"⟩ : MethodName) (head1 (Jvm.Cond.code (⟨"com/example/gangway/gangway/tool/CommandLine$Option", "name", "()Ljava/lang/String;"⟩ : MethodName) prog_29_method_2_code 1 (some (.object "java/lang/String")) :: ws) ({ frames := 1, cells := 0, slots := 0, locals := 13 } : Room)) (fun ag U => ag = #[(.ref a)] ∧ Z.Warmed39 U.vm ∧ U.heap = h0) (fun _ _ _ _ _ => True) (fun _ U o U' => ∃ v L, o = .returned v ∧ Q_own_nm12 Z a lst f h0 n0 v U'.heap L ∧ FrameEnd U o U' L ({ frames := 1, cells := 0, slots := 0, locals := 13 } : Room).cells ({ frames := 1, cells := 0, slots := 0, locals := 13 } : Room).slots) := by
  refine own_body (plainFor_of_name pn_11) ?_
  intro p e s m below meth c s₁ Bd hml hZ e0
  have hx := Bd.exec
  have hby := Bd.bytes
  have hlk : meth.locks = false := BodyLoose.notSynchronized Bd
  have hown : s.vm.findClass "com/example/gangway/gangway/tool/CommandLine$Option" = some m.cls := findClass_of_methodNamed Bd.named
  have hnm := (name_of_methodNamed Bd.named Bd.method).1
  have X0 : Stand p l e ({ frames := 1, cells := 0, slots := 0, locals := 13 } : Room) s m #[(.ref a)] below meth c s₁ [] 0 0 := Stand.of_body Bd
  have N0 := Fr.nil n0
  have KP0 : Keep h0 h0 [] := Keep.refl h0 []
  have lt_a := F_spellings_a.lt
  have lt_lst := E_lst.lt
  have lt_f := E_f.lt
  have ty_lst_f : lst ≠ f := (Exa.ne E_lst E_f (by decide))
  refine own_cast (g' := (mkF m 0 #[.val (.ref a)] [])) (by first | (simp [entryFrame, mkF, argsToLocals, own_cat_int, own_cat_long, own_cat_ref, own_cat_null]; done) | rfl) ?_
  refine own_step (T' := s₁) (g' := (mkF m 1 #[.val (.ref a)] [(.ref a)])) (fun _ q => XS.aloadN X0.here hx rfl (hb hby d12_0) rfl rfl q) ?_
  obtain ⟨T465, X465, e465, st465⟩ := getF X0 hx hZ hown (host := "") (Or.inl (w76 hw)) Via.refl e0 F_spellings_a (g := (mkF m 1 #[.val (.ref a)] [(.ref a)])) rfl rfl (hb hby d12_1)
  refine own_step (T' := T465) (g' := (mkF m 4 #[.val (.ref a)] [(.ref lst)])) st465 ?_
  refine own_step (T' := T465) (g' := (mkF m 5 #[.val (.ref a)] [(.int (0 : Int32)), (.ref lst)])) (fun _ q => XS.iconst X465.here hx rfl (hb hby d12_4) q) ?_
  refine own_callI (y := (⟨"java/util/List", "get", "(I)Ljava/lang/Object;"⟩ : MethodName)) (z := (⟨"java/util/ImmutableCollections$List12", "get", "(I)Ljava/lang/Object;"⟩ : MethodName)) X465 hx hZ hown (w83 hw) (w84 hw) (w85 hw) (w86 hw) (w87 hw) (w88 hw) (w89 hw) (w90 hw) rfl (by decide) (backOf (W := 0) (own_g12 l Z a0 hw [] lst f h0 n0 Z0 F_e0_lst) hZ (w91 hw) (w42 hw) (Nat.le_of_ble_eq_true rfl) (Nat.le_of_ble_eq_true rfl)) e465 E_lst  (by first | decide | (dsimp only; omega)) (by first | decide | (dsimp only; omega)) (g := (mkF m 5 #[.val (.ref a)] [(.int (0 : Int32)), (.ref lst)])) (argsL := [(.int (0 : Int32))]) (rest := []) rfl (by rw [hml]; rfl) (lenOf pd_12 rfl) rfl rfl (by show 2 * 0 + _ ≤ _; exact Nat.le_of_eq rfl) (hb hby d12_5) ?_
  rintro _ T466 L466 X466 ⟨rfl, N466q, e466⟩
  have N467 := Fr.app N0 N466q
  show own_Fin p e below _ T466 (mkF m 10 #[.val (.ref a)] [(.ref f)])
  obtain ⟨T468, X468, e468, st468⟩ := castY X466 hx hZ hown (w92 hw) e466 (Ins.self E_f) (g := (mkF m 10 #[.val (.ref a)] [(.ref f)])) rfl rfl (hb hby d12_10)
  refine own_step (T' := T468) (g' := (mkF m 13 #[.val (.ref a)] [(.ref f)])) st468 ?_
  exact own_retA X468 hx Bd.returns rfl rfl (hb hby d12_13) hlk ⟨rfl, N467, e468⟩ (by first | decide | (dsimp only; omega)) (by first | decide | (dsimp only; omega))
def Q_own_nmn (Z : State) (a : Addr) (lst : Addr) (t : Addr) (kt : ClassId) (f : Addr) (f2 : Addr) (f3 : Addr) (h0 : Heap) (n0 : Nat) (v : Option Value) (h : Heap) (L : List Loc) : Prop := v = some (.ref f) ∧ Fr n0 L ∧ h = h0
set_option maxRecDepth 65536 in
set_option maxHeartbeats 40000000 in
theorem own_nmn (l : Launch) (Z : State) (a0 : Array Value) (hw : ∀ d ∈ tables_1, d.before a0 Z = true) (ws : List Jvm.Cond) (a : Addr) (lst : Addr) (t : Addr) (kt : ClassId) (f : Addr) (f2 : Addr) (f3 : Addr) (h0 : Heap) (n0 : Nat) (Z0 : n0 ≤ h0.size) (F_spellings_a : Fld Z h0 a "com/example/gangway/gangway/tool/CommandLine$Option" "spellings" "Ljava/util/List;" (.ref lst)) (E_lst : Exa Z h0 lst "java/util/ImmutableCollections$ListN") (F_elements_lst : Fld Z h0 lst "java/util/ImmutableCollections$ListN" "elements" "[Ljava/lang/Object;" (.ref t)) (V_t : Arv Z h0 t kt (.object "java/lang/Object") (3 : Int32) [(.ref f), (.ref f2), (.ref f3)] .null) (E_f : Exa Z h0 f "java/lang/String") :
    MetFree l (⟨"com/example/gangway/gangway/tool/CommandLine$Option", "name", "()Ljava/lang/String;"⟩ : MethodName) (head1 (Jvm.Cond.code (⟨"com/example/gangway/gangway/tool/CommandLine$Option", "name", "()Ljava/lang/String;"⟩ : MethodName) prog_29_method_2_code 1 (some (.object "java/lang/String")) :: ws) ({ frames := 1, cells := 0, slots := 0, locals := 13 } : Room)) (fun ag U => ag = #[(.ref a)] ∧ Z.Warmed39 U.vm ∧ U.heap = h0) (fun _ _ _ _ _ => True) (fun _ U o U' => ∃ v L, o = .returned v ∧ Q_own_nmn Z a lst t kt f f2 f3 h0 n0 v U'.heap L ∧ FrameEnd U o U' L ({ frames := 1, cells := 0, slots := 0, locals := 13 } : Room).cells ({ frames := 1, cells := 0, slots := 0, locals := 13 } : Room).slots) := by
  refine own_body (plainFor_of_name pn_11) ?_
  intro p e s m below meth c s₁ Bd hml hZ e0
  have hx := Bd.exec
  have hby := Bd.bytes
  have hlk : meth.locks = false := BodyLoose.notSynchronized Bd
  have hown : s.vm.findClass "com/example/gangway/gangway/tool/CommandLine$Option" = some m.cls := findClass_of_methodNamed Bd.named
  have hnm := (name_of_methodNamed Bd.named Bd.method).1
  have X0 : Stand p l e ({ frames := 1, cells := 0, slots := 0, locals := 13 } : Room) s m #[(.ref a)] below meth c s₁ [] 0 0 := Stand.of_body Bd
  have N0 := Fr.nil n0
  have KP0 : Keep h0 h0 [] := Keep.refl h0 []
  have lt_a := F_spellings_a.lt
  have lt_lst := E_lst.lt
  have lt_t := V_t.lt
  have lt_f := E_f.lt
  have ty_lst_t : lst ≠ t := (Exa.neArv E_lst V_t (w144 hw))
  have ty_lst_f : lst ≠ f := (Exa.ne E_lst E_f (by decide))
  have ty_t_f : t ≠ f := (Ne.symm (Exa.neArv E_f V_t (w5 hw)))
  refine own_cast (g' := (mkF m 0 #[.val (.ref a)] [])) (by first | (simp [entryFrame, mkF, argsToLocals, own_cat_int, own_cat_long, own_cat_ref, own_cat_null]; done) | rfl) ?_
  refine own_step (T' := s₁) (g' := (mkF m 1 #[.val (.ref a)] [(.ref a)])) (fun _ q => XS.aloadN X0.here hx rfl (hb hby d12_0) rfl rfl q) ?_
  obtain ⟨T469, X469, e469, st469⟩ := getF X0 hx hZ hown (host := "") (Or.inl (w76 hw)) Via.refl e0 F_spellings_a (g := (mkF m 1 #[.val (.ref a)] [(.ref a)])) rfl rfl (hb hby d12_1)
  refine own_step (T' := T469) (g' := (mkF m 4 #[.val (.ref a)] [(.ref lst)])) st469 ?_
  refine own_step (T' := T469) (g' := (mkF m 5 #[.val (.ref a)] [(.int (0 : Int32)), (.ref lst)])) (fun _ q => XS.iconst X469.here hx rfl (hb hby d12_4) q) ?_
  refine own_callI (y := (⟨"java/util/List", "get", "(I)Ljava/lang/Object;"⟩ : MethodName)) (z := (⟨"java/util/ImmutableCollections$ListN", "get", "(I)Ljava/lang/Object;"⟩ : MethodName)) X469 hx hZ hown (w83 hw) (w84 hw) (w85 hw) (w158 hw) (w159 hw) (w160 hw) (w161 hw) (w162 hw) rfl (by decide) (backOf (W := 0) (own_gn l Z a0 hw [] lst t kt f f2 f3 h0 n0 Z0 F_elements_lst V_t) hZ (w163 hw) (w145 hw) (Nat.le_of_ble_eq_true rfl) (Nat.le_of_ble_eq_true rfl)) e469 E_lst  (by first | decide | (dsimp only; omega)) (by first | decide | (dsimp only; omega)) (g := (mkF m 5 #[.val (.ref a)] [(.int (0 : Int32)), (.ref lst)])) (argsL := [(.int (0 : Int32))]) (rest := []) rfl (by rw [hml]; rfl) (lenOf pd_12 rfl) rfl rfl (by show 2 * 0 + _ ≤ _; exact Nat.le_of_eq rfl) (hb hby d12_5) ?_
  rintro _ T470 L470 X470 ⟨rfl, N470q, e470⟩
  have N471 := Fr.app N0 N470q
  show own_Fin p e below _ T470 (mkF m 10 #[.val (.ref a)] [(.ref f)])
  obtain ⟨T472, X472, e472, st472⟩ := castY X470 hx hZ hown (w92 hw) e470 (Ins.self E_f) (g := (mkF m 10 #[.val (.ref a)] [(.ref f)])) rfl rfl (hb hby d12_10)
  refine own_step (T' := T472) (g' := (mkF m 13 #[.val (.ref a)] [(.ref f)])) st472 ?_
  exact own_retA X472 hx Bd.returns rfl rfl (hb hby d12_13) hlk ⟨rfl, N471, e472⟩ (by first | decide | (dsimp only; omega)) (by first | decide | (dsimp only; omega))
theorem pd_13 : parseMethodDescriptor "(II)Ljava/lang/String;" = some ⟨[.int, .int], some (.object "java/lang/String")⟩ := by decide +kernel
theorem pd_14 : parseMethodDescriptor "(Z[Ljava/lang/String;)V" = some ⟨[.boolean, (.array (.object "java/lang/String"))], none⟩ := by decide +kernel
theorem pd_15 : parseMethodDescriptor "()Ljava/lang/String;" = some ⟨[], some (.object "java/lang/String")⟩ := by decide +kernel
theorem pd_16 : parseMethodDescriptor "(Ljava/lang/Object;)Z" = some ⟨[(.object "java/lang/Object")], some .boolean⟩ := by decide +kernel
theorem pd_17 : parseMethodDescriptor "()I" = some ⟨[], some .int⟩ := by decide +kernel
def Q_own_law (Z : State) (G1 : Int32) (G3 : Value) (G5 : Value) (s0 : Int32) (s1 : Int32) (s2 : Int32) (mode : Int32) (h0 : Heap) (n0 : Nat) (v : Option Value) (h : Heap) (L : List Loc) : Prop := v = some (.int (1 : Int32)) ∧ Fr n0 L ∧ Keep h0 h []
set_option maxRecDepth 65536 in
set_option maxHeartbeats 40000000 in
theorem own_law (l : Launch) (Z : State) (a0 : Array Value) (hw : ∀ d ∈ tables_1, d.before a0 Z = true) (ws : List Jvm.Cond) (G1 : Int32) (G3 : Value) (G5 : Value) (s0 : Int32) (s1 : Int32) (s2 : Int32) (mode : Int32) (h0 : Heap) (n0 : Nat) (Z0 : n0 ≤ h0.size) (O2 : Sta Z Z.heap "java/lang/String" "COMPACT_STRINGS" "Z" (.int G1)) (O4 : Sta Z Z.heap "jdk/internal/util/Preconditions" "SIOOBE_FORMATTER" "Ljava/util/function/BiFunction;" G3) (P5 : ¬ (G1 = (0 : Int32))) (rG3 : G3.isRef = true) (OLD0 : Old Z n0 h0) (EM : Sta Z Z.heap "java/util/ImmutableCollections" "EMPTY" "Ljava/lang/Object;" G5) (rG5 : G5.isRef = true) :
    MetFree l x (head1 (Jvm.Cond.code x code maxLocals ret :: ws) room_1) (fun ag U => ag = #[(.int s0), (.int s1), (.int s2), (.int mode)] ∧ Z.Warmed39 U.vm ∧ U.heap = h0 ∧ CHv Z own_EL U.vm h0) (fun _ _ _ _ _ => True) (fun _ U o U' => ∃ v L, o = .returned v ∧ Q_own_law Z G1 G3 G5 s0 s1 s2 mode h0 n0 v U'.heap L ∧ CHr Z own_EL U.vm U.heap U'.vm U'.heap ∧ ReturnedEndW U o U' L room_1.cells room_1.slots) := by
  refine own_bodyW (plainFor_of_name pn_6) ?_
  intro p e s m below meth c s₁ Bd hml hZ e0 hh0 CH0
  have hx := Bd.exec
  have hby := Bd.bytes
  have hlk : meth.locks = false := BodyLoose.notSynchronized Bd
  have hown : s.vm.findClass "com/example/gangway/gangway/tool/OptionNamePinLaw" = some m.cls := findClass_of_methodNamed Bd.named
  have hnm := (name_of_methodNamed Bd.named Bd.method).1
  have X0 : Stand p l e room_1 (s.setVm s.vm) m #[(.int s0), (.int s1), (.int s2), (.int mode)] below meth c s₁ [] 0 0 := Stand.of_body Bd
  have N0 := Fr.nil n0
  have hS := (State.WarmedH.refl s).since h0.size
  have hk0 : h0.size ≤ h0.size := Nat.le_refl _
  have KP0 : Keep h0 h0 [] := Keep.refl h0 []
  refine own_cast (g' := (mkF m 0 #[.val (.int s0), .val (.int s1), .val (.int s2), .val (.int mode), .unset, .unset, .unset, .unset, .unset, .unset, .unset, .unset, .unset] [])) (by first | (simp [entryFrame, mkF, argsToLocals, own_cat_int, own_cat_long, own_cat_ref, own_cat_null, maxLocals]; done) | rfl) ?_
  refine own_step (T' := s₁) (g' := (mkF m 1 #[.val (.int s0), .val (.int s1), .val (.int s2), .val (.int mode), .unset, .unset, .unset, .unset, .unset, .unset, .unset, .unset, .unset] [(.int mode)])) (fun _ q => XS.iloadN X0.here hx rfl (hb hby at_0) rfl q) ?_
  refine own_step (T' := s₁) (g' := (mkF m 2 #[.val (.int s0), .val (.int s1), .val (.int s2), .val (.int mode), .unset, .unset, .unset, .unset, .unset, .unset, .unset, .unset, .unset] [(.int (1 : Int32)), (.int mode)])) (fun _ q => XS.iconst X0.here hx rfl (hb hby at_1) q) ?_
  refine own_step (T' := s₁) (g' := (mkF m 3 #[.val (.int s0), .val (.int s1), .val (.int s2), .val (.int mode), .unset, .unset, .unset, .unset, .unset, .unset, .unset, .unset, .unset] [(.int (mode &&& (1 : Int32)))])) (fun _ q => XS.iand X0.here hx rfl (hb hby at_2) rfl q) ?_
  by_cases hc473 : (mode &&& (1 : Int32)) = 0
  · refine own_step (T' := s₁) (g' := (mkF m 10 #[.val (.int s0), .val (.int s1), .val (.int s2), .val (.int mode), .unset, .unset, .unset, .unset, .unset, .unset, .unset, .unset, .unset] [])) (fun _ q => XS.ifYes X0.here hx rfl (pc0 := 3) (pc' := 10) rfl (hb hby at_3) rfl (XT.i0_eq_t hc473) (by decide) (by decide) q) ?_
    refine own_step (T' := s₁) (g' := (mkF m 11 #[.val (.int s0), .val (.int s1), .val (.int s2), .val (.int mode), .unset, .unset, .unset, .unset, .unset, .unset, .unset, .unset, .unset] [(.int (0 : Int32))])) (fun _ q => XS.iconst X0.here hx rfl (hb hby at_10) q) ?_
    refine own_step (T' := s₁) (g' := (mkF m 13 #[.val (.int s0), .val (.int s1), .val (.int s2), .val (.int mode), .val (.int (0 : Int32)), .unset, .unset, .unset, .unset, .unset, .unset, .unset, .unset] [])) (fun _ q => XS.istore X0.here hx rfl (hb hby at_11) rfl (l' := #[.val (.int s0), .val (.int s1), .val (.int s2), .val (.int mode), .val (.int (0 : Int32)), .unset, .unset, .unset, .unset, .unset, .unset, .unset, .unset]) rfl q) ?_
    refine own_step (T' := s₁) (g' := (mkF m 14 #[.val (.int s0), .val (.int s1), .val (.int s2), .val (.int mode), .val (.int (0 : Int32)), .unset, .unset, .unset, .unset, .unset, .unset, .unset, .unset] [(.int (1 : Int32))])) (fun _ q => XS.iconst X0.here hx rfl (hb hby at_13) q) ?_
    refine own_step (T' := s₁) (g' := (mkF m 15 #[.val (.int s0), .val (.int s1), .val (.int s2), .val (.int mode), .val (.int (0 : Int32)), .unset, .unset, .unset, .unset, .unset, .unset, .unset, .unset] [(.int mode), (.int (1 : Int32))])) (fun _ q => XS.iloadN X0.here hx rfl (hb hby at_14) rfl q) ?_
    refine own_step (T' := s₁) (g' := (mkF m 16 #[.val (.int s0), .val (.int s1), .val (.int s2), .val (.int mode), .val (.int (0 : Int32)), .unset, .unset, .unset, .unset, .unset, .unset, .unset, .unset] [(.int (1 : Int32)), (.int mode), (.int (1 : Int32))])) (fun _ q => XS.iconst X0.here hx rfl (hb hby at_15) q) ?_
    refine own_step (T' := s₁) (g' := (mkF m 17 #[.val (.int s0), .val (.int s1), .val (.int s2), .val (.int mode), .val (.int (0 : Int32)), .unset, .unset, .unset, .unset, .unset, .unset, .unset, .unset] [(.int (XT.ushr mode (1 : Int32))), (.int (1 : Int32))])) (fun _ q => XT.iushr X0.here hx rfl (hb hby at_16) rfl q) ?_
    refine own_step (T' := s₁) (g' := (mkF m 18 #[.val (.int s0), .val (.int s1), .val (.int s2), .val (.int mode), .val (.int (0 : Int32)), .unset, .unset, .unset, .unset, .unset, .unset, .unset, .unset] [(.int (3 : Int32)), (.int (XT.ushr mode (1 : Int32))), (.int (1 : Int32))])) (fun _ q => XS.iconst X0.here hx rfl (hb hby at_17) q) ?_
    refine own_step (T' := s₁) (g' := (mkF m 19 #[.val (.int s0), .val (.int s1), .val (.int s2), .val (.int mode), .val (.int (0 : Int32)), .unset, .unset, .unset, .unset, .unset, .unset, .unset, .unset] [(.int ((XT.ushr mode (1 : Int32)) &&& (3 : Int32))), (.int (1 : Int32))])) (fun _ q => XS.iand X0.here hx rfl (hb hby at_18) rfl q) ?_
    refine own_step (T' := s₁) (g' := (mkF m 20 #[.val (.int s0), .val (.int s1), .val (.int s2), .val (.int mode), .val (.int (0 : Int32)), .unset, .unset, .unset, .unset, .unset, .unset, .unset, .unset] [(.int (3 : Int32)), (.int ((XT.ushr mode (1 : Int32)) &&& (3 : Int32))), (.int (1 : Int32))])) (fun _ q => XS.iconst X0.here hx rfl (hb hby at_19) q) ?_
    refine own_step (T' := s₁) (g' := (mkF m 21 #[.val (.int s0), .val (.int s1), .val (.int s2), .val (.int mode), .val (.int (0 : Int32)), .unset, .unset, .unset, .unset, .unset, .unset, .unset, .unset] [(.int (((XT.ushr mode (1 : Int32)) &&& (3 : Int32)) % (3 : Int32))), (.int (1 : Int32))])) (fun _ q => iremM X0 hx rfl (hb hby at_20) rfl (by decide) q) ?_
    refine own_step (T' := s₁) (g' := (mkF m 22 #[.val (.int s0), .val (.int s1), .val (.int s2), .val (.int mode), .val (.int (0 : Int32)), .unset, .unset, .unset, .unset, .unset, .unset, .unset, .unset] [(.int ((1 : Int32) + (((XT.ushr mode (1 : Int32)) &&& (3 : Int32)) % (3 : Int32))))])) (fun _ q => XS.iadd X0.here hx rfl (hb hby at_21) rfl q) ?_
    refine own_step (T' := s₁) (g' := (mkF m 24 #[.val (.int s0), .val (.int s1), .val (.int s2), .val (.int mode), .val (.int (0 : Int32)), .val (.int ((1 : Int32) + (((XT.ushr mode (1 : Int32)) &&& (3 : Int32)) % (3 : Int32)))), .unset, .unset, .unset, .unset, .unset, .unset, .unset] [])) (fun _ q => XS.istore X0.here hx rfl (hb hby at_22) rfl (l' := #[.val (.int s0), .val (.int s1), .val (.int s2), .val (.int mode), .val (.int (0 : Int32)), .val (.int ((1 : Int32) + (((XT.ushr mode (1 : Int32)) &&& (3 : Int32)) % (3 : Int32)))), .unset, .unset, .unset, .unset, .unset, .unset, .unset]) rfl q) ?_
    refine own_step (T' := s₁) (g' := (mkF m 25 #[.val (.int s0), .val (.int s1), .val (.int s2), .val (.int mode), .val (.int (0 : Int32)), .val (.int ((1 : Int32) + (((XT.ushr mode (1 : Int32)) &&& (3 : Int32)) % (3 : Int32)))), .unset, .unset, .unset, .unset, .unset, .unset, .unset] [(.int s0)])) (fun _ q => XS.iloadN X0.here hx rfl (hb hby at_24) rfl q) ?_
    refine own_step (T' := s₁) (g' := (mkF m 26 #[.val (.int s0), .val (.int s1), .val (.int s2), .val (.int mode), .val (.int (0 : Int32)), .val (.int ((1 : Int32) + (((XT.ushr mode (1 : Int32)) &&& (3 : Int32)) % (3 : Int32)))), .unset, .unset, .unset, .unset, .unset, .unset, .unset] [(.int mode), (.int s0)])) (fun _ q => XS.iloadN X0.here hx rfl (hb hby at_25) rfl q) ?_
    refine own_step (T' := s₁) (g' := (mkF m 27 #[.val (.int s0), .val (.int s1), .val (.int s2), .val (.int mode), .val (.int (0 : Int32)), .val (.int ((1 : Int32) + (((XT.ushr mode (1 : Int32)) &&& (3 : Int32)) % (3 : Int32)))), .unset, .unset, .unset, .unset, .unset, .unset, .unset] [(.int (3 : Int32)), (.int mode), (.int s0)])) (fun _ q => XS.iconst X0.here hx rfl (hb hby at_26) q) ?_
    refine own_step (T' := s₁) (g' := (mkF m 28 #[.val (.int s0), .val (.int s1), .val (.int s2), .val (.int mode), .val (.int (0 : Int32)), .val (.int ((1 : Int32) + (((XT.ushr mode (1 : Int32)) &&& (3 : Int32)) % (3 : Int32)))), .unset, .unset, .unset, .unset, .unset, .unset, .unset] [(.int (XT.ushr mode (3 : Int32))), (.int s0)])) (fun _ q => XT.iushr X0.here hx rfl (hb hby at_27) rfl q) ?_
    refine own_step (T' := s₁) (g' := (mkF m 29 #[.val (.int s0), .val (.int s1), .val (.int s2), .val (.int mode), .val (.int (0 : Int32)), .val (.int ((1 : Int32) + (((XT.ushr mode (1 : Int32)) &&& (3 : Int32)) % (3 : Int32)))), .unset, .unset, .unset, .unset, .unset, .unset, .unset] [(.int (3 : Int32)), (.int (XT.ushr mode (3 : Int32))), (.int s0)])) (fun _ q => XS.iconst X0.here hx rfl (hb hby at_28) q) ?_
    refine own_step (T' := s₁) (g' := (mkF m 30 #[.val (.int s0), .val (.int s1), .val (.int s2), .val (.int mode), .val (.int (0 : Int32)), .val (.int ((1 : Int32) + (((XT.ushr mode (1 : Int32)) &&& (3 : Int32)) % (3 : Int32)))), .unset, .unset, .unset, .unset, .unset, .unset, .unset] [(.int ((XT.ushr mode (3 : Int32)) &&& (3 : Int32))), (.int s0)])) (fun _ q => XS.iand X0.here hx rfl (hb hby at_29) rfl q) ?_
    refine own_callSW X0 hx hZ hown hS hk0 (w0 hw) (w1 hw) (w2 hw) (w3 hw) (by decide) (backOfSH (W := 0) (own_draw l Z a0 hw [] G1 G3 s0 ((XT.ushr mode (3 : Int32)) &&& (3 : Int32)) h0 n0 Z0 O2 O4 P5 rG3 OLD0) hZ (w3 hw) (w2 hw) (Nat.le_of_ble_eq_true rfl) (Nat.le_of_ble_eq_true rfl) (own_hEL hw) CH0.1) e0  (by first | decide | (dsimp only; omega)) (by first | decide | (dsimp only; omega)) (g := (mkF m 30 #[.val (.int s0), .val (.int s1), .val (.int s2), .val (.int mode), .val (.int (0 : Int32)), .val (.int ((1 : Int32) + (((XT.ushr mode (1 : Int32)) &&& (3 : Int32)) % (3 : Int32)))), .unset, .unset, .unset, .unset, .unset, .unset, .unset] [(.int ((XT.ushr mode (3 : Int32)) &&& (3 : Int32))), (.int s0)])) (argsL := [(.int s0), (.int ((XT.ushr mode (3 : Int32)) &&& (3 : Int32)))]) (rest := []) rfl (by rw [hml]; rfl) (lenOf pd_13 rfl) rfl rfl (by show 2 * 0 + _ ≤ _; exact Nat.le_of_eq rfl) (hb hby at_30) ?_
    rintro _ T474 L474 X474 hS hZ hown C474 ⟨a474, t474, kb474, N2474, vs474, cs474, rfl, N474q, K474, f0_474, f1_474, f2_474, f3_474, f4_474, p0_474, p1_474⟩
    have n0_475 : n0 ≤ a474 := Nat.le_trans Z0 f0_474
    have sz0_476 := Nat.le_trans KP0.1 f0_474
    have sf477 : Safe Z own_EL _ _ a474 := Safe.new (EL := own_EL) (Z := Z) (vm := s.vm) f0_474
    have CH478 := CH0.trans C474
    have lt479 := f1_474.lt
    have lt480 := f4_474.lt
    have N481 := Fr.app N0 N474q
    show own_Fin p e below _ T474 (mkF m 33 #[.val (.int s0), .val (.int s1), .val (.int s2), .val (.int mode), .val (.int (0 : Int32)), .val (.int ((1 : Int32) + (((XT.ushr mode (1 : Int32)) &&& (3 : Int32)) % (3 : Int32)))), .unset, .unset, .unset, .unset, .unset, .unset, .unset] [(.ref a474)])
    refine own_step (T' := T474) (g' := (mkF m 35 #[.val (.int s0), .val (.int s1), .val (.int s2), .val (.int mode), .val (.int (0 : Int32)), .val (.int ((1 : Int32) + (((XT.ushr mode (1 : Int32)) &&& (3 : Int32)) % (3 : Int32)))), .val (.ref a474), .unset, .unset, .unset, .unset, .unset, .unset] [])) (fun _ q => XS.astore X474.here hx rfl (hb hby at_33) rfl rfl (l' := #[.val (.int s0), .val (.int s1), .val (.int s2), .val (.int mode), .val (.int (0 : Int32)), .val (.int ((1 : Int32) + (((XT.ushr mode (1 : Int32)) &&& (3 : Int32)) % (3 : Int32)))), .val (.ref a474), .unset, .unset, .unset, .unset, .unset, .unset]) rfl q) ?_
    refine own_step (T' := T474) (g' := (mkF m 36 #[.val (.int s0), .val (.int s1), .val (.int s2), .val (.int mode), .val (.int (0 : Int32)), .val (.int ((1 : Int32) + (((XT.ushr mode (1 : Int32)) &&& (3 : Int32)) % (3 : Int32)))), .val (.ref a474), .unset, .unset, .unset, .unset, .unset, .unset] [(.int s1)])) (fun _ q => XS.iloadN X474.here hx rfl (hb hby at_35) rfl q) ?_
    refine own_step (T' := T474) (g' := (mkF m 37 #[.val (.int s0), .val (.int s1), .val (.int s2), .val (.int mode), .val (.int (0 : Int32)), .val (.int ((1 : Int32) + (((XT.ushr mode (1 : Int32)) &&& (3 : Int32)) % (3 : Int32)))), .val (.ref a474), .unset, .unset, .unset, .unset, .unset, .unset] [(.int mode), (.int s1)])) (fun _ q => XS.iloadN X474.here hx rfl (hb hby at_36) rfl q) ?_
    refine own_step (T' := T474) (g' := (mkF m 38 #[.val (.int s0), .val (.int s1), .val (.int s2), .val (.int mode), .val (.int (0 : Int32)), .val (.int ((1 : Int32) + (((XT.ushr mode (1 : Int32)) &&& (3 : Int32)) % (3 : Int32)))), .val (.ref a474), .unset, .unset, .unset, .unset, .unset, .unset] [(.int (5 : Int32)), (.int mode), (.int s1)])) (fun _ q => XS.iconst X474.here hx rfl (hb hby at_37) q) ?_
    refine own_step (T' := T474) (g' := (mkF m 39 #[.val (.int s0), .val (.int s1), .val (.int s2), .val (.int mode), .val (.int (0 : Int32)), .val (.int ((1 : Int32) + (((XT.ushr mode (1 : Int32)) &&& (3 : Int32)) % (3 : Int32)))), .val (.ref a474), .unset, .unset, .unset, .unset, .unset, .unset] [(.int (XT.ushr mode (5 : Int32))), (.int s1)])) (fun _ q => XT.iushr X474.here hx rfl (hb hby at_38) rfl q) ?_
    refine own_step (T' := T474) (g' := (mkF m 40 #[.val (.int s0), .val (.int s1), .val (.int s2), .val (.int mode), .val (.int (0 : Int32)), .val (.int ((1 : Int32) + (((XT.ushr mode (1 : Int32)) &&& (3 : Int32)) % (3 : Int32)))), .val (.ref a474), .unset, .unset, .unset, .unset, .unset, .unset] [(.int (3 : Int32)), (.int (XT.ushr mode (5 : Int32))), (.int s1)])) (fun _ q => XS.iconst X474.here hx rfl (hb hby at_39) q) ?_
    refine own_step (T' := T474) (g' := (mkF m 41 #[.val (.int s0), .val (.int s1), .val (.int s2), .val (.int mode), .val (.int (0 : Int32)), .val (.int ((1 : Int32) + (((XT.ushr mode (1 : Int32)) &&& (3 : Int32)) % (3 : Int32)))), .val (.ref a474), .unset, .unset, .unset, .unset, .unset, .unset] [(.int ((XT.ushr mode (5 : Int32)) &&& (3 : Int32))), (.int s1)])) (fun _ q => XS.iand X474.here hx rfl (hb hby at_40) rfl q) ?_
    have c482 := (OLD0.keep K474 all0)
    have c483 := (Nat.le_trans Z0 K474.1)
    refine own_callSW X474 hx hZ hown hS (Nat.le_refl _) (w0 hw) (w1 hw) (w2 hw) (w3 hw) (by decide) (backOfSH (W := 0) (own_draw l Z a0 hw [] G1 G3 s1 ((XT.ushr mode (5 : Int32)) &&& (3 : Int32)) T474.heap n0 c483 O2 O4 P5 rG3 c482) hZ (w3 hw) (w2 hw) (Nat.le_of_ble_eq_true rfl) (Nat.le_of_ble_eq_true rfl) (own_hEL hw) CH478.1) rfl  (by first | decide | (dsimp only; omega)) (by first | decide | (dsimp only; omega)) (g := (mkF m 41 #[.val (.int s0), .val (.int s1), .val (.int s2), .val (.int mode), .val (.int (0 : Int32)), .val (.int ((1 : Int32) + (((XT.ushr mode (1 : Int32)) &&& (3 : Int32)) % (3 : Int32)))), .val (.ref a474), .unset, .unset, .unset, .unset, .unset, .unset] [(.int ((XT.ushr mode (5 : Int32)) &&& (3 : Int32))), (.int s1)])) (argsL := [(.int s1), (.int ((XT.ushr mode (5 : Int32)) &&& (3 : Int32)))]) (rest := []) rfl (by rw [hml]; rfl) (lenOf pd_13 rfl) rfl rfl (by show 2 * 0 + _ ≤ _; exact Nat.le_of_eq rfl) (hb hby at_41) ?_
    rintro _ T484 L484 X484 hS hZ hown C484 ⟨a484, t484, kb484, N2484, vs484, cs484, rfl, N484q, K484, f0_484, f1_484, f2_484, f3_484, f4_484, p0_484, p1_484⟩
    have n0_485 : n0 ≤ a484 := Nat.le_trans c483 f0_484
    have c486 := (KP0.trans K474 all0)
    have sz0_487 := Nat.le_trans c486.1 f0_484
    have ne488 : a474 ≠ a484 := own_ne lt479 f0_484
    have ne489 : t474 ≠ a484 := own_ne lt480 f0_484
    have sf490 : Safe Z own_EL _ _ a484 := Safe.new (EL := own_EL) (Z := Z) (vm := T474.vm) f0_484
    have CH491 := CH478.trans C484
    have lt492 := f1_484.lt
    have lt493 := f4_484.lt
    have N494 := Fr.app N481 N484q
    show own_Fin p e below _ T484 (mkF m 44 #[.val (.int s0), .val (.int s1), .val (.int s2), .val (.int mode), .val (.int (0 : Int32)), .val (.int ((1 : Int32) + (((XT.ushr mode (1 : Int32)) &&& (3 : Int32)) % (3 : Int32)))), .val (.ref a474), .unset, .unset, .unset, .unset, .unset, .unset] [(.ref a484)])
    refine own_step (T' := T484) (g' := (mkF m 46 #[.val (.int s0), .val (.int s1), .val (.int s2), .val (.int mode), .val (.int (0 : Int32)), .val (.int ((1 : Int32) + (((XT.ushr mode (1 : Int32)) &&& (3 : Int32)) % (3 : Int32)))), .val (.ref a474), .val (.ref a484), .unset, .unset, .unset, .unset, .unset] [])) (fun _ q => XS.astore X484.here hx rfl (hb hby at_44) rfl rfl (l' := #[.val (.int s0), .val (.int s1), .val (.int s2), .val (.int mode), .val (.int (0 : Int32)), .val (.int ((1 : Int32) + (((XT.ushr mode (1 : Int32)) &&& (3 : Int32)) % (3 : Int32)))), .val (.ref a474), .val (.ref a484), .unset, .unset, .unset, .unset, .unset]) rfl q) ?_
    refine own_step (T' := T484) (g' := (mkF m 47 #[.val (.int s0), .val (.int s1), .val (.int s2), .val (.int mode), .val (.int (0 : Int32)), .val (.int ((1 : Int32) + (((XT.ushr mode (1 : Int32)) &&& (3 : Int32)) % (3 : Int32)))), .val (.ref a474), .val (.ref a484), .unset, .unset, .unset, .unset, .unset] [(.int s2)])) (fun _ q => XS.iloadN X484.here hx rfl (hb hby at_46) rfl q) ?_
    refine own_step (T' := T484) (g' := (mkF m 48 #[.val (.int s0), .val (.int s1), .val (.int s2), .val (.int mode), .val (.int (0 : Int32)), .val (.int ((1 : Int32) + (((XT.ushr mode (1 : Int32)) &&& (3 : Int32)) % (3 : Int32)))), .val (.ref a474), .val (.ref a484), .unset, .unset, .unset, .unset, .unset] [(.int mode), (.int s2)])) (fun _ q => XS.iloadN X484.here hx rfl (hb hby at_47) rfl q) ?_
    refine own_step (T' := T484) (g' := (mkF m 50 #[.val (.int s0), .val (.int s1), .val (.int s2), .val (.int mode), .val (.int (0 : Int32)), .val (.int ((1 : Int32) + (((XT.ushr mode (1 : Int32)) &&& (3 : Int32)) % (3 : Int32)))), .val (.ref a474), .val (.ref a484), .unset, .unset, .unset, .unset, .unset] [(.int (7 : Int32)), (.int mode), (.int s2)])) (fun _ q => XS.bipush X484.here hx rfl (hb hby at_48) q) ?_
    refine own_step (T' := T484) (g' := (mkF m 51 #[.val (.int s0), .val (.int s1), .val (.int s2), .val (.int mode), .val (.int (0 : Int32)), .val (.int ((1 : Int32) + (((XT.ushr mode (1 : Int32)) &&& (3 : Int32)) % (3 : Int32)))), .val (.ref a474), .val (.ref a484), .unset, .unset, .unset, .unset, .unset] [(.int (XT.ushr mode (7 : Int32))), (.int s2)])) (fun _ q => XT.iushr X484.here hx rfl (hb hby at_50) rfl q) ?_
    refine own_step (T' := T484) (g' := (mkF m 52 #[.val (.int s0), .val (.int s1), .val (.int s2), .val (.int mode), .val (.int (0 : Int32)), .val (.int ((1 : Int32) + (((XT.ushr mode (1 : Int32)) &&& (3 : Int32)) % (3 : Int32)))), .val (.ref a474), .val (.ref a484), .unset, .unset, .unset, .unset, .unset] [(.int (3 : Int32)), (.int (XT.ushr mode (7 : Int32))), (.int s2)])) (fun _ q => XS.iconst X484.here hx rfl (hb hby at_51) q) ?_
    refine own_step (T' := T484) (g' := (mkF m 53 #[.val (.int s0), .val (.int s1), .val (.int s2), .val (.int mode), .val (.int (0 : Int32)), .val (.int ((1 : Int32) + (((XT.ushr mode (1 : Int32)) &&& (3 : Int32)) % (3 : Int32)))), .val (.ref a474), .val (.ref a484), .unset, .unset, .unset, .unset, .unset] [(.int ((XT.ushr mode (7 : Int32)) &&& (3 : Int32))), (.int s2)])) (fun _ q => XS.iand X484.here hx rfl (hb hby at_52) rfl q) ?_
    have c495 := (c482.keep K484 all0)
    have c496 := (Nat.le_trans c483 K484.1)
    refine own_callSW X484 hx hZ hown hS (Nat.le_refl _) (w0 hw) (w1 hw) (w2 hw) (w3 hw) (by decide) (backOfSH (W := 0) (own_draw l Z a0 hw [] G1 G3 s2 ((XT.ushr mode (7 : Int32)) &&& (3 : Int32)) T484.heap n0 c496 O2 O4 P5 rG3 c495) hZ (w3 hw) (w2 hw) (Nat.le_of_ble_eq_true rfl) (Nat.le_of_ble_eq_true rfl) (own_hEL hw) CH491.1) rfl  (by first | decide | (dsimp only; omega)) (by first | decide | (dsimp only; omega)) (g := (mkF m 53 #[.val (.int s0), .val (.int s1), .val (.int s2), .val (.int mode), .val (.int (0 : Int32)), .val (.int ((1 : Int32) + (((XT.ushr mode (1 : Int32)) &&& (3 : Int32)) % (3 : Int32)))), .val (.ref a474), .val (.ref a484), .unset, .unset, .unset, .unset, .unset] [(.int ((XT.ushr mode (7 : Int32)) &&& (3 : Int32))), (.int s2)])) (argsL := [(.int s2), (.int ((XT.ushr mode (7 : Int32)) &&& (3 : Int32)))]) (rest := []) rfl (by rw [hml]; rfl) (lenOf pd_13 rfl) rfl rfl (by show 2 * 0 + _ ≤ _; exact Nat.le_of_eq rfl) (hb hby at_53) ?_
    rintro _ T497 L497 X497 hS hZ hown C497 ⟨a497, t497, kb497, N2497, vs497, cs497, rfl, N497q, K497, f0_497, f1_497, f2_497, f3_497, f4_497, p0_497, p1_497⟩
    have n0_498 : n0 ≤ a497 := Nat.le_trans c496 f0_497
    have c499 := (c486.trans K484 all0)
    have sz0_500 := Nat.le_trans c499.1 f0_497
    have c501 := (own_lt lt479 K484.1)
    have ne502 : a474 ≠ a497 := own_ne c501 f0_497
    have c503 := (own_lt lt480 K484.1)
    have ne504 : t474 ≠ a497 := own_ne c503 f0_497
    have ne505 : a484 ≠ a497 := own_ne lt492 f0_497
    have ne506 : t484 ≠ a497 := own_ne lt493 f0_497
    have sf507 : Safe Z own_EL _ _ a497 := Safe.new (EL := own_EL) (Z := Z) (vm := T484.vm) f0_497
    have CH508 := CH491.trans C497
    have lt509 := f1_497.lt
    have lt510 := f4_497.lt
    have N511 := Fr.app N494 N497q
    show own_Fin p e below _ T497 (mkF m 56 #[.val (.int s0), .val (.int s1), .val (.int s2), .val (.int mode), .val (.int (0 : Int32)), .val (.int ((1 : Int32) + (((XT.ushr mode (1 : Int32)) &&& (3 : Int32)) % (3 : Int32)))), .val (.ref a474), .val (.ref a484), .unset, .unset, .unset, .unset, .unset] [(.ref a497)])
    refine own_step (T' := T497) (g' := (mkF m 58 #[.val (.int s0), .val (.int s1), .val (.int s2), .val (.int mode), .val (.int (0 : Int32)), .val (.int ((1 : Int32) + (((XT.ushr mode (1 : Int32)) &&& (3 : Int32)) % (3 : Int32)))), .val (.ref a474), .val (.ref a484), .val (.ref a497), .unset, .unset, .unset, .unset] [])) (fun _ q => XS.astore X497.here hx rfl (hb hby at_56) rfl rfl (l' := #[.val (.int s0), .val (.int s1), .val (.int s2), .val (.int mode), .val (.int (0 : Int32)), .val (.int ((1 : Int32) + (((XT.ushr mode (1 : Int32)) &&& (3 : Int32)) % (3 : Int32)))), .val (.ref a474), .val (.ref a484), .val (.ref a497), .unset, .unset, .unset, .unset]) rfl q) ?_
    refine own_step (T' := T497) (g' := (mkF m 60 #[.val (.int s0), .val (.int s1), .val (.int s2), .val (.int mode), .val (.int (0 : Int32)), .val (.int ((1 : Int32) + (((XT.ushr mode (1 : Int32)) &&& (3 : Int32)) % (3 : Int32)))), .val (.ref a474), .val (.ref a484), .val (.ref a497), .unset, .unset, .unset, .unset] [(.int ((1 : Int32) + (((XT.ushr mode (1 : Int32)) &&& (3 : Int32)) % (3 : Int32))))])) (fun _ q => XS.iload X497.here hx rfl (hb hby at_58) rfl q) ?_
    refine own_step (T' := T497) (g' := (mkF m 61 #[.val (.int s0), .val (.int s1), .val (.int s2), .val (.int mode), .val (.int (0 : Int32)), .val (.int ((1 : Int32) + (((XT.ushr mode (1 : Int32)) &&& (3 : Int32)) % (3 : Int32)))), .val (.ref a474), .val (.ref a484), .val (.ref a497), .unset, .unset, .unset, .unset] [(.int (1 : Int32)), (.int ((1 : Int32) + (((XT.ushr mode (1 : Int32)) &&& (3 : Int32)) % (3 : Int32))))])) (fun _ q => XS.iconst X497.here hx rfl (hb hby at_60) q) ?_
    by_cases hc512 : ((1 : Int32) + (((XT.ushr mode (1 : Int32)) &&& (3 : Int32)) % (3 : Int32))) = (1 : Int32)
    · refine own_step (T' := T497) (g' := (mkF m 64 #[.val (.int s0), .val (.int s1), .val (.int s2), .val (.int mode), .val (.int (0 : Int32)), .val (.int ((1 : Int32) + (((XT.ushr mode (1 : Int32)) &&& (3 : Int32)) % (3 : Int32)))), .val (.ref a474), .val (.ref a484), .val (.ref a497), .unset, .unset, .unset, .unset] [])) (fun _ q => XS.icmpNo X497.here hx rfl (hb hby at_61) rfl (XT.ii_ne_f hc512) q) ?_
      refine own_step (T' := T497) (g' := (mkF m 65 #[.val (.int s0), .val (.int s1), .val (.int s2), .val (.int mode), .val (.int (0 : Int32)), .val (.int ((1 : Int32) + (((XT.ushr mode (1 : Int32)) &&& (3 : Int32)) % (3 : Int32)))), .val (.ref a474), .val (.ref a484), .val (.ref a497), .unset, .unset, .unset, .unset] [(.int (1 : Int32))])) (fun _ q => XS.iconst X497.here hx rfl (hb hby at_64) q) ?_
      obtain ⟨T513, h513, k513, X513, e513, E513, A513, O513, st513⟩ := newR X497 hx hZ hown (w4 hw) (w26 hw) rfl (g := (mkF m 65 #[.val (.int s0), .val (.int s1), .val (.int s2), .val (.int mode), .val (.int (0 : Int32)), .val (.int ((1 : Int32) + (((XT.ushr mode (1 : Int32)) &&& (3 : Int32)) % (3 : Int32)))), .val (.ref a474), .val (.ref a484), .val (.ref a497), .unset, .unset, .unset, .unset] [(.int (1 : Int32))])) rfl (hb hby at_65) rfl (by decide) (cap := 1) (by decide) (by first | decide | omega) (by first | decide | (dsimp only; omega)) (by first | decide | (dsimp only; omega))
      obtain ⟨b513, g513⟩ : ∃ z, z = T497.heap.size := ⟨_, rfl⟩
      rw [← g513] at A513 st513
      have c514 := (Nat.le_trans c496 K497.1)
      have n0_515 : n0 ≤ b513 := Nat.le_trans c514 (Nat.le_of_eq g513.symm)
      have c516 := (c499.trans K497 all0)
      have sz0_517 := Nat.le_trans c516.1 (Nat.le_of_eq g513.symm)
      have c518 := (own_lt c501 K497.1)
      have ne519 : a474 ≠ b513 := own_ne c518 (Nat.le_of_eq g513.symm)
      have c520 := (own_lt c503 K497.1)
      have ne521 : t474 ≠ b513 := own_ne c520 (Nat.le_of_eq g513.symm)
      have c522 := (own_lt lt492 K497.1)
      have ne523 : a484 ≠ b513 := own_ne c522 (Nat.le_of_eq g513.symm)
      have c524 := (own_lt lt493 K497.1)
      have ne525 : t484 ≠ b513 := own_ne c524 (Nat.le_of_eq g513.symm)
      have ne526 : a497 ≠ b513 := own_ne lt509 (Nat.le_of_eq g513.symm)
      have ne527 : t497 ≠ b513 := own_ne lt510 (Nat.le_of_eq g513.symm)
      have sf528 : Safe Z own_EL _ _ b513 := Safe.new (EL := own_EL) (Z := Z) (vm := T497.vm) (Nat.le_of_eq g513.symm)
      have CH529 := CH508.trans (CHr.ext E513 CH508.1)
      have V513 : Arv Z h513 b513 k513 (.object "java/lang/String") (1 : Int32) [.null] .null := (Arv.new A513 (by decide)).pad (pad_rep [] .null 1)
      have ltb513 := V513.lt
      refine own_step (T' := T513) (g' := (mkF m 68 #[.val (.int s0), .val (.int s1), .val (.int s2), .val (.int mode), .val (.int (0 : Int32)), .val (.int ((1 : Int32) + (((XT.ushr mode (1 : Int32)) &&& (3 : Int32)) % (3 : Int32)))), .val (.ref a474), .val (.ref a484), .val (.ref a497), .unset, .unset, .unset, .unset] [(.ref b513)])) st513 ?_
      refine own_step (T' := T513) (g' := (mkF m 69 #[.val (.int s0), .val (.int s1), .val (.int s2), .val (.int mode), .val (.int (0 : Int32)), .val (.int ((1 : Int32) + (((XT.ushr mode (1 : Int32)) &&& (3 : Int32)) % (3 : Int32)))), .val (.ref a474), .val (.ref a484), .val (.ref a497), .unset, .unset, .unset, .unset] [(.ref b513), (.ref b513)])) (fun _ q => XS.dup X513.here hx rfl (hb hby at_68) rfl rfl q) ?_
      refine own_step (T' := T513) (g' := (mkF m 70 #[.val (.int s0), .val (.int s1), .val (.int s2), .val (.int mode), .val (.int (0 : Int32)), .val (.int ((1 : Int32) + (((XT.ushr mode (1 : Int32)) &&& (3 : Int32)) % (3 : Int32)))), .val (.ref a474), .val (.ref a484), .val (.ref a497), .unset, .unset, .unset, .unset] [(.int (0 : Int32)), (.ref b513), (.ref b513)])) (fun _ q => XS.iconst X513.here hx rfl (hb hby at_69) q) ?_
      refine own_step (T' := T513) (g' := (mkF m 72 #[.val (.int s0), .val (.int s1), .val (.int s2), .val (.int mode), .val (.int (0 : Int32)), .val (.int ((1 : Int32) + (((XT.ushr mode (1 : Int32)) &&& (3 : Int32)) % (3 : Int32)))), .val (.ref a474), .val (.ref a484), .val (.ref a497), .unset, .unset, .unset, .unset] [(.ref a474), (.int (0 : Int32)), (.ref b513), (.ref b513)])) (fun _ q => XS.aload X513.here hx rfl (hb hby at_70) rfl rfl q) ?_
      have c531 := (((f1_474.keep K484).keep K497).ext E513)
      obtain ⟨T530, h530, X530, e530, W530, V530, st530⟩ := own_stR X513 hx hZ e513 V513 rfl rfl (fun _ A q => Sto.ofV A q O513 (Ins.self c531)) (j := (0 : Int32)) ⟨by decide, by decide⟩ (i := 0) rfl (Nat.le_of_ble_eq_true rfl) (g := (mkF m 72 #[.val (.int s0), .val (.int s1), .val (.int s2), .val (.int mode), .val (.int (0 : Int32)), .val (.int ((1 : Int32) + (((XT.ushr mode (1 : Int32)) &&& (3 : Int32)) % (3 : Int32)))), .val (.ref a474), .val (.ref a484), .val (.ref a497), .unset, .unset, .unset, .unset] [(.ref a474), (.int (0 : Int32)), (.ref b513), (.ref b513)])) rfl rfl (hb hby at_72)
      replace V530 : Arv Z h530 b513 k513 (.object "java/lang/String") (1 : Int32) [(.ref a474)] .null := V530
      have N532 := Fr.snoc X530 N511 n0_515
      have c534 := (Safe.ext E513 CH508.1 sf528)
      have CH533 := CH529.trans (CHr.wr W530 c534 CH529.1)
      refine own_step (T' := T530) (g' := (mkF m 73 #[.val (.int s0), .val (.int s1), .val (.int s2), .val (.int mode), .val (.int (0 : Int32)), .val (.int ((1 : Int32) + (((XT.ushr mode (1 : Int32)) &&& (3 : Int32)) % (3 : Int32)))), .val (.ref a474), .val (.ref a484), .val (.ref a497), .unset, .unset, .unset, .unset] [(.ref b513)])) st530 ?_
      refine own_step (T' := T530) (g' := (mkF m 75 #[.val (.int s0), .val (.int s1), .val (.int s2), .val (.int mode), .val (.int (0 : Int32)), .val (.int ((1 : Int32) + (((XT.ushr mode (1 : Int32)) &&& (3 : Int32)) % (3 : Int32)))), .val (.ref a474), .val (.ref a484), .val (.ref a497), .val (.ref b513), .unset, .unset, .unset] [])) (fun _ q => XS.astore X530.here hx rfl (hb hby at_73) rfl rfl (l' := #[.val (.int s0), .val (.int s1), .val (.int s2), .val (.int mode), .val (.int (0 : Int32)), .val (.int ((1 : Int32) + (((XT.ushr mode (1 : Int32)) &&& (3 : Int32)) % (3 : Int32)))), .val (.ref a474), .val (.ref a484), .val (.ref a497), .val (.ref b513), .unset, .unset, .unset]) rfl q) ?_
      refine own_step (T' := T530) (g' := (mkF m 124 #[.val (.int s0), .val (.int s1), .val (.int s2), .val (.int mode), .val (.int (0 : Int32)), .val (.int ((1 : Int32) + (((XT.ushr mode (1 : Int32)) &&& (3 : Int32)) % (3 : Int32)))), .val (.ref a474), .val (.ref a484), .val (.ref a497), .val (.ref b513), .unset, .unset, .unset] [])) (fun _ q => XS.goto X530.here hx rfl (pc0 := 75) (pc' := 124) rfl (hb hby at_75) (by decide) (by decide) q) ?_
      obtain ⟨T535, h535, X535, e535, E535, A535, D535, -, st535⟩ := newO X530 hx hZ hown (w27 hw) (w28 hw) (w29 hw) e530 (g := (mkF m 124 #[.val (.int s0), .val (.int s1), .val (.int s2), .val (.int mode), .val (.int (0 : Int32)), .val (.int ((1 : Int32) + (((XT.ushr mode (1 : Int32)) &&& (3 : Int32)) % (3 : Int32)))), .val (.ref a474), .val (.ref a484), .val (.ref a497), .val (.ref b513), .unset, .unset, .unset] [])) rfl (hb hby at_124) (by first | decide | (dsimp only; omega)) (by first | decide | (dsimp only; omega))
      obtain ⟨b535, g535⟩ : ∃ z, z = h530.size := ⟨_, rfl⟩
      rw [← g535] at A535 D535 st535
      have c536 := (Nat.le_trans (Nat.le_trans c514 E513.1) (Keep.of_wr W530).1)
      have n0_537 : n0 ≤ b535 := Nat.le_trans c536 (Nat.le_of_eq g535.symm)
      have c538 := ((c516.ext E513).wr W530 (Or.inr sz0_517))
      have sz0_539 := Nat.le_trans c538.1 (Nat.le_of_eq g535.symm)
      have c540 := (own_lt (own_lt c518 E513.1) (Keep.of_wr W530).1)
      have ne541 : a474 ≠ b535 := own_ne c540 (Nat.le_of_eq g535.symm)
      have c542 := (own_lt (own_lt c520 E513.1) (Keep.of_wr W530).1)
      have ne543 : t474 ≠ b535 := own_ne c542 (Nat.le_of_eq g535.symm)
      have c544 := (own_lt (own_lt c522 E513.1) (Keep.of_wr W530).1)
      have ne545 : a484 ≠ b535 := own_ne c544 (Nat.le_of_eq g535.symm)
      have c546 := (own_lt (own_lt c524 E513.1) (Keep.of_wr W530).1)
      have ne547 : t484 ≠ b535 := own_ne c546 (Nat.le_of_eq g535.symm)
      have c548 := (own_lt (own_lt lt509 E513.1) (Keep.of_wr W530).1)
      have ne549 : a497 ≠ b535 := own_ne c548 (Nat.le_of_eq g535.symm)
      have c550 := (own_lt (own_lt lt510 E513.1) (Keep.of_wr W530).1)
      have ne551 : t497 ≠ b535 := own_ne c550 (Nat.le_of_eq g535.symm)
      have c552 := (own_lt ltb513 (Keep.of_wr W530).1)
      have ne553 : b513 ≠ b535 := own_ne c552 (Nat.le_of_eq g535.symm)
      have sf554 : Safe Z own_EL _ _ b535 := Safe.new (EL := own_EL) (Z := Z) (vm := T497.vm) (Nat.le_of_eq g535.symm)
      have CH555 := CH533.trans (CHr.ext E535 CH533.1)
      have ltb535 := A535.lt
      have F556 : Fld Z h535 b535 "com/example/gangway/gangway/tool/CommandLine$Option" "repeatable" "Z" (.int (0 : Int32)) := D535 (Or.inr (w35 hw)) (ty := .boolean) (by decide)
      have F557 : Fld Z h535 b535 "com/example/gangway/gangway/tool/CommandLine$Option" "spellings" "Ljava/util/List;" .null := D535 (Or.inr (w77 hw)) (ty := (.object "java/util/List")) (by decide)
      refine own_step (T' := T535) (g' := (mkF m 127 #[.val (.int s0), .val (.int s1), .val (.int s2), .val (.int mode), .val (.int (0 : Int32)), .val (.int ((1 : Int32) + (((XT.ushr mode (1 : Int32)) &&& (3 : Int32)) % (3 : Int32)))), .val (.ref a474), .val (.ref a484), .val (.ref a497), .val (.ref b513), .unset, .unset, .unset] [(.ref b535)])) st535 ?_
      refine own_step (T' := T535) (g' := (mkF m 128 #[.val (.int s0), .val (.int s1), .val (.int s2), .val (.int mode), .val (.int (0 : Int32)), .val (.int ((1 : Int32) + (((XT.ushr mode (1 : Int32)) &&& (3 : Int32)) % (3 : Int32)))), .val (.ref a474), .val (.ref a484), .val (.ref a497), .val (.ref b513), .unset, .unset, .unset] [(.ref b535), (.ref b535)])) (fun _ q => XS.dup X535.here hx rfl (hb hby at_127) rfl rfl q) ?_
      refine own_step (T' := T535) (g' := (mkF m 130 #[.val (.int s0), .val (.int s1), .val (.int s2), .val (.int mode), .val (.int (0 : Int32)), .val (.int ((1 : Int32) + (((XT.ushr mode (1 : Int32)) &&& (3 : Int32)) % (3 : Int32)))), .val (.ref a474), .val (.ref a484), .val (.ref a497), .val (.ref b513), .unset, .unset, .unset] [(.int (0 : Int32)), (.ref b535), (.ref b535)])) (fun _ q => XS.iload X535.here hx rfl (hb hby at_128) rfl q) ?_
      refine own_step (T' := T535) (g' := (mkF m 132 #[.val (.int s0), .val (.int s1), .val (.int s2), .val (.int mode), .val (.int (0 : Int32)), .val (.int ((1 : Int32) + (((XT.ushr mode (1 : Int32)) &&& (3 : Int32)) % (3 : Int32)))), .val (.ref a474), .val (.ref a484), .val (.ref a497), .val (.ref b513), .unset, .unset, .unset] [(.ref b513), (.int (0 : Int32)), (.ref b535), (.ref b535)])) (fun _ q => XS.aload X535.here hx rfl (hb hby at_130) rfl rfl q) ?_
      have c558 := ((((c495.keep K497 all0).ext E513).wr W530 n0_515).ext E535)
      have c559 := (V530.ext E535)
      have c560 := ((c531.wr W530).ext E535)
      have c561 := (Nat.le_trans c536 E535.1)
      refine own_callC X535 hx hZ hown rfl (w30 hw) (w31 hw) (w32 hw) (by decide) (backOf (W := 1) (own_opt1 l Z a0 hw [] G5 b535 (0 : Int32) b513 k513 a474 h535 n0 c561 EM rG5 c558 A535 n0_537 F556 F557 c559 c560) hZ (w32 hw) (w29 hw) (Nat.le_of_ble_eq_true rfl) (Nat.le_of_ble_eq_true rfl)) e535  (by first | decide | (dsimp only; omega)) (by first | decide | (dsimp only; omega)) (g := (mkF m 132 #[.val (.int s0), .val (.int s1), .val (.int s2), .val (.int mode), .val (.int (0 : Int32)), .val (.int ((1 : Int32) + (((XT.ushr mode (1 : Int32)) &&& (3 : Int32)) % (3 : Int32)))), .val (.ref a474), .val (.ref a484), .val (.ref a497), .val (.ref b513), .unset, .unset, .unset] [(.ref b513), (.int (0 : Int32)), (.ref b535), (.ref b535)])) (argsL := [(.int (0 : Int32)), (.ref b513)]) (rest := [(.ref b535)]) rfl (by rw [hml]; rfl) (lenOf pd_14 rfl) rfl rfl (by show 2 * 0 + _ ≤ _; exact Nat.le_of_eq rfl) (hb hby at_132) ?_
      rintro _ T562 L562 X562 ⟨lst562, rfl, N562q, K562, f0_562, f1_562, f2_562, f3_562, f4_562⟩
      have n0_563 : n0 ≤ lst562 := Nat.le_trans c561 f0_562
      have c564 := (c538.ext E535)
      have sz0_565 := Nat.le_trans c564.1 f0_562
      have c566 := (own_lt c540 E535.1)
      have ne567 : a474 ≠ lst562 := own_ne c566 f0_562
      have c568 := (own_lt c542 E535.1)
      have ne569 : t474 ≠ lst562 := own_ne c568 f0_562
      have c570 := (own_lt c544 E535.1)
      have ne571 : a484 ≠ lst562 := own_ne c570 f0_562
      have c572 := (own_lt c546 E535.1)
      have ne573 : t484 ≠ lst562 := own_ne c572 f0_562
      have c574 := (own_lt c548 E535.1)
      have ne575 : a497 ≠ lst562 := own_ne c574 f0_562
      have c576 := (own_lt c550 E535.1)
      have ne577 : t497 ≠ lst562 := own_ne c576 f0_562
      have c578 := (own_lt c552 E535.1)
      have ne579 : b513 ≠ lst562 := own_ne c578 f0_562
      have ne580 : b535 ≠ lst562 := own_ne ltb535 f0_562
      have sf581 : Safe Z own_EL _ _ lst562 := Safe.new (EL := own_EL) (Z := Z) (vm := T497.vm) f0_562
      have c583 := (Safe.ext E535 CH533.1 sf554)
      have CH582 := CH555.trans (CHr.keep K562 (sfS c583 sf0) CH555.1)
      have lt584 := f3_562.lt
      have N585 := Fr.app N532 N562q
      show own_Fin p e below _ T562 (mkF m 135 #[.val (.int s0), .val (.int s1), .val (.int s2), .val (.int mode), .val (.int (0 : Int32)), .val (.int ((1 : Int32) + (((XT.ushr mode (1 : Int32)) &&& (3 : Int32)) % (3 : Int32)))), .val (.ref a474), .val (.ref a484), .val (.ref a497), .val (.ref b513), .unset, .unset, .unset] [(.ref b535)])
      refine own_step (T' := T562) (g' := (mkF m 137 #[.val (.int s0), .val (.int s1), .val (.int s2), .val (.int mode), .val (.int (0 : Int32)), .val (.int ((1 : Int32) + (((XT.ushr mode (1 : Int32)) &&& (3 : Int32)) % (3 : Int32)))), .val (.ref a474), .val (.ref a484), .val (.ref a497), .val (.ref b513), .val (.ref b535), .unset, .unset] [])) (fun _ q => XS.astore X562.here hx rfl (hb hby at_135) rfl rfl (l' := #[.val (.int s0), .val (.int s1), .val (.int s2), .val (.int mode), .val (.int (0 : Int32)), .val (.int ((1 : Int32) + (((XT.ushr mode (1 : Int32)) &&& (3 : Int32)) % (3 : Int32)))), .val (.ref a474), .val (.ref a484), .val (.ref a497), .val (.ref b513), .val (.ref b535), .unset, .unset]) rfl q) ?_
      refine own_step (T' := T562) (g' := (mkF m 139 #[.val (.int s0), .val (.int s1), .val (.int s2), .val (.int mode), .val (.int (0 : Int32)), .val (.int ((1 : Int32) + (((XT.ushr mode (1 : Int32)) &&& (3 : Int32)) % (3 : Int32)))), .val (.ref a474), .val (.ref a484), .val (.ref a497), .val (.ref b513), .val (.ref b535), .unset, .unset] [(.ref b535)])) (fun _ q => XS.aload X562.here hx rfl (hb hby at_137) rfl rfl q) ?_
      have c586 := (c560.keep K562)
      have c587 := (Nat.le_trans c561 K562.1)
      refine own_callV (y := (⟨"com/example/gangway/gangway/tool/CommandLine$Option", "name", "()Ljava/lang/String;"⟩ : MethodName)) (z := (⟨"com/example/gangway/gangway/tool/CommandLine$Option", "name", "()Ljava/lang/String;"⟩ : MethodName)) X562 hx hZ hown (w78 hw) (w79 hw) (notFace_of_selects (args := #[]) (mvT hZ (w81 hw))) (w81 hw) (w80 hw) (by decide) (backOf (W := 0) (own_nm12 l Z a0 hw [] b535 lst562 a474 T562.heap n0 c587 f2_562 f3_562 f4_562 c586) hZ (w82 hw) (w29 hw) (Nat.le_of_ble_eq_true rfl) (Nat.le_of_ble_eq_true rfl)) rfl f1_562  (by first | decide | (dsimp only; omega)) (by first | decide | (dsimp only; omega)) (g := (mkF m 139 #[.val (.int s0), .val (.int s1), .val (.int s2), .val (.int mode), .val (.int (0 : Int32)), .val (.int ((1 : Int32) + (((XT.ushr mode (1 : Int32)) &&& (3 : Int32)) % (3 : Int32)))), .val (.ref a474), .val (.ref a484), .val (.ref a497), .val (.ref b513), .val (.ref b535), .unset, .unset] [(.ref b535)])) (argsL := []) (rest := []) rfl (by rw [hml]; rfl) (lenOf pd_15 rfl) rfl rfl (by show 2 * 0 + _ ≤ _; exact Nat.le_of_eq rfl) (hb hby at_139) ?_
      rintro _ T588 L588 X588 ⟨rfl, N588q, e588⟩
      have N589 := Fr.app N585 N588q
      show own_Fin p e below _ T588 (mkF m 142 #[.val (.int s0), .val (.int s1), .val (.int s2), .val (.int mode), .val (.int (0 : Int32)), .val (.int ((1 : Int32) + (((XT.ushr mode (1 : Int32)) &&& (3 : Int32)) % (3 : Int32)))), .val (.ref a474), .val (.ref a484), .val (.ref a497), .val (.ref b513), .val (.ref b535), .unset, .unset] [(.ref a474)])
      refine own_step (T' := T588) (g' := (mkF m 144 #[.val (.int s0), .val (.int s1), .val (.int s2), .val (.int mode), .val (.int (0 : Int32)), .val (.int ((1 : Int32) + (((XT.ushr mode (1 : Int32)) &&& (3 : Int32)) % (3 : Int32)))), .val (.ref a474), .val (.ref a484), .val (.ref a497), .val (.ref b513), .val (.ref b535), .val (.ref a474), .unset] [])) (fun _ q => XS.astore X588.here hx rfl (hb hby at_142) rfl rfl (l' := #[.val (.int s0), .val (.int s1), .val (.int s2), .val (.int mode), .val (.int (0 : Int32)), .val (.int ((1 : Int32) + (((XT.ushr mode (1 : Int32)) &&& (3 : Int32)) % (3 : Int32)))), .val (.ref a474), .val (.ref a484), .val (.ref a497), .val (.ref b513), .val (.ref b535), .val (.ref a474), .unset]) rfl q) ?_
      refine own_step (T' := T588) (g' := (mkF m 146 #[.val (.int s0), .val (.int s1), .val (.int s2), .val (.int mode), .val (.int (0 : Int32)), .val (.int ((1 : Int32) + (((XT.ushr mode (1 : Int32)) &&& (3 : Int32)) % (3 : Int32)))), .val (.ref a474), .val (.ref a484), .val (.ref a497), .val (.ref b513), .val (.ref b535), .val (.ref a474), .unset] [(.ref b513)])) (fun _ q => XS.aload X588.here hx rfl (hb hby at_144) rfl rfl q) ?_
      refine own_step (T' := T588) (g' := (mkF m 147 #[.val (.int s0), .val (.int s1), .val (.int s2), .val (.int mode), .val (.int (0 : Int32)), .val (.int ((1 : Int32) + (((XT.ushr mode (1 : Int32)) &&& (3 : Int32)) % (3 : Int32)))), .val (.ref a474), .val (.ref a484), .val (.ref a497), .val (.ref b513), .val (.ref b535), .val (.ref a474), .unset] [(.int (0 : Int32)), (.ref b513)])) (fun _ q => XS.iconst X588.here hx rfl (hb hby at_146) q) ?_
      refine own_step (T' := T588) (g' := (mkF m 149 #[.val (.int s0), .val (.int s1), .val (.int s2), .val (.int mode), .val (.int (0 : Int32)), .val (.int ((1 : Int32) + (((XT.ushr mode (1 : Int32)) &&& (3 : Int32)) % (3 : Int32)))), .val (.ref a474), .val (.ref a484), .val (.ref a497), .val (.ref b513), .val (.ref b535), .val (.ref a474), .unset] [(.ref a484), (.int (0 : Int32)), (.ref b513)])) (fun _ q => XS.aload X588.here hx rfl (hb hby at_147) rfl rfl q) ?_
      have c590 := (c559.keep K562 (ninS ne553 nin0))
      have c592 := (((((f1_484.keep K497).ext E513).wr W530).ext E535).keep K562)
      obtain ⟨T591, h591, X591, e591, W591, V591, st591⟩ := own_stR X588 hx hZ e588 c590 rfl rfl (fun _ A q => Sto.ofV A q O513 (Ins.self c592)) (j := (0 : Int32)) ⟨by decide, by decide⟩ (i := 0) rfl (Nat.le_of_ble_eq_true rfl) (g := (mkF m 149 #[.val (.int s0), .val (.int s1), .val (.int s2), .val (.int mode), .val (.int (0 : Int32)), .val (.int ((1 : Int32) + (((XT.ushr mode (1 : Int32)) &&& (3 : Int32)) % (3 : Int32)))), .val (.ref a474), .val (.ref a484), .val (.ref a497), .val (.ref b513), .val (.ref b535), .val (.ref a474), .unset] [(.ref a484), (.int (0 : Int32)), (.ref b513)])) rfl rfl (hb hby at_149)
      replace V591 : Arv Z h591 b513 k513 (.object "java/lang/String") (1 : Int32) [(.ref a484)] .null := V591
      have N593 := Fr.snoc X591 N589 n0_515
      have c595 := (Safe.keep K562 (sfS c583 sf0) CH555.1 (Safe.ext E535 CH533.1 (Safe.wr W530 c534 CH529.1 c534)))
      have CH594 := CH582.trans (CHr.wr W591 c595 CH582.1)
      refine own_step (T' := T591) (g' := (mkF m 150 #[.val (.int s0), .val (.int s1), .val (.int s2), .val (.int mode), .val (.int (0 : Int32)), .val (.int ((1 : Int32) + (((XT.ushr mode (1 : Int32)) &&& (3 : Int32)) % (3 : Int32)))), .val (.ref a474), .val (.ref a484), .val (.ref a497), .val (.ref b513), .val (.ref b535), .val (.ref a474), .unset] [])) st591 ?_
      refine own_step (T' := T591) (g' := (mkF m 152 #[.val (.int s0), .val (.int s1), .val (.int s2), .val (.int mode), .val (.int (0 : Int32)), .val (.int ((1 : Int32) + (((XT.ushr mode (1 : Int32)) &&& (3 : Int32)) % (3 : Int32)))), .val (.ref a474), .val (.ref a484), .val (.ref a497), .val (.ref b513), .val (.ref b535), .val (.ref a474), .unset] [(.ref b535)])) (fun _ q => XS.aload X591.here hx rfl (hb hby at_150) rfl rfl q) ?_
      have c596 := (f2_562.other W591 (Or.inl (Ne.symm ne553)))
      have c597 := (f3_562.wr W591)
      have c598 := (f4_562.other W591 (Or.inl (Ne.symm ne579)))
      have c599 := (c586.wr W591)
      have c600 := (Nat.le_trans c587 (Keep.of_wr W591).1)
      have c602 := (f1_562.wr W591)
      refine own_callV (y := (⟨"com/example/gangway/gangway/tool/CommandLine$Option", "name", "()Ljava/lang/String;"⟩ : MethodName)) (z := (⟨"com/example/gangway/gangway/tool/CommandLine$Option", "name", "()Ljava/lang/String;"⟩ : MethodName)) X591 hx hZ hown (w78 hw) (w79 hw) (notFace_of_selects (args := #[]) (mvT hZ (w81 hw))) (w81 hw) (w80 hw) (by decide) (backOf (W := 0) (own_nm12 l Z a0 hw [] b535 lst562 a474 h591 n0 c600 c596 c597 c598 c599) hZ (w82 hw) (w29 hw) (Nat.le_of_ble_eq_true rfl) (Nat.le_of_ble_eq_true rfl)) e591 c602  (by first | decide | (dsimp only; omega)) (by first | decide | (dsimp only; omega)) (g := (mkF m 152 #[.val (.int s0), .val (.int s1), .val (.int s2), .val (.int mode), .val (.int (0 : Int32)), .val (.int ((1 : Int32) + (((XT.ushr mode (1 : Int32)) &&& (3 : Int32)) % (3 : Int32)))), .val (.ref a474), .val (.ref a484), .val (.ref a497), .val (.ref b513), .val (.ref b535), .val (.ref a474), .unset] [(.ref b535)])) (argsL := []) (rest := []) rfl (by rw [hml]; rfl) (lenOf pd_15 rfl) rfl rfl (by show 2 * 0 + _ ≤ _; exact Nat.le_of_eq rfl) (hb hby at_152) ?_
      rintro _ T601 L601 X601 ⟨rfl, N601q, e601⟩
      have N603 := Fr.app N593 N601q
      show own_Fin p e below _ T601 (mkF m 155 #[.val (.int s0), .val (.int s1), .val (.int s2), .val (.int mode), .val (.int (0 : Int32)), .val (.int ((1 : Int32) + (((XT.ushr mode (1 : Int32)) &&& (3 : Int32)) % (3 : Int32)))), .val (.ref a474), .val (.ref a484), .val (.ref a497), .val (.ref b513), .val (.ref b535), .val (.ref a474), .unset] [(.ref a474)])
      refine own_step (T' := T601) (g' := (mkF m 157 #[.val (.int s0), .val (.int s1), .val (.int s2), .val (.int mode), .val (.int (0 : Int32)), .val (.int ((1 : Int32) + (((XT.ushr mode (1 : Int32)) &&& (3 : Int32)) % (3 : Int32)))), .val (.ref a474), .val (.ref a484), .val (.ref a497), .val (.ref b513), .val (.ref b535), .val (.ref a474), .val (.ref a474)] [])) (fun _ q => XS.astore X601.here hx rfl (hb hby at_155) rfl rfl (l' := #[.val (.int s0), .val (.int s1), .val (.int s2), .val (.int mode), .val (.int (0 : Int32)), .val (.int ((1 : Int32) + (((XT.ushr mode (1 : Int32)) &&& (3 : Int32)) % (3 : Int32)))), .val (.ref a474), .val (.ref a484), .val (.ref a497), .val (.ref b513), .val (.ref b535), .val (.ref a474), .val (.ref a474)]) rfl q) ?_
      refine own_step (T' := T601) (g' := (mkF m 159 #[.val (.int s0), .val (.int s1), .val (.int s2), .val (.int mode), .val (.int (0 : Int32)), .val (.int ((1 : Int32) + (((XT.ushr mode (1 : Int32)) &&& (3 : Int32)) % (3 : Int32)))), .val (.ref a474), .val (.ref a484), .val (.ref a497), .val (.ref b513), .val (.ref b535), .val (.ref a474), .val (.ref a474)] [(.ref a474)])) (fun _ q => XS.aload X601.here hx rfl (hb hby at_157) rfl rfl q) ?_
      refine own_step (T' := T601) (g' := (mkF m 161 #[.val (.int s0), .val (.int s1), .val (.int s2), .val (.int mode), .val (.int (0 : Int32)), .val (.int ((1 : Int32) + (((XT.ushr mode (1 : Int32)) &&& (3 : Int32)) % (3 : Int32)))), .val (.ref a474), .val (.ref a484), .val (.ref a497), .val (.ref b513), .val (.ref b535), .val (.ref a474), .val (.ref a474)] [(.ref a474), (.ref a474)])) (fun _ q => XS.aload X601.here hx rfl (hb hby at_159) rfl rfl q) ?_
      refine own_callV (y := (⟨"java/lang/String", "equals", "(Ljava/lang/Object;)Z"⟩ : MethodName)) (z := (⟨"java/lang/String", "equals", "(Ljava/lang/Object;)Z"⟩ : MethodName)) X601 hx hZ hown (w93 hw) (w94 hw) (notFace_of_selects (args := #[]) (mvT hZ (w96 hw))) (w96 hw) (w95 hw) (by decide) (backOf (W := 0) (own_eqs l Z a0 hw [] a474 h591 n0 c600 ) hZ (w97 hw) (w6 hw) (Nat.le_of_ble_eq_true rfl) (Nat.le_of_ble_eq_true rfl)) e601 c599  (by first | decide | (dsimp only; omega)) (by first | decide | (dsimp only; omega)) (g := (mkF m 161 #[.val (.int s0), .val (.int s1), .val (.int s2), .val (.int mode), .val (.int (0 : Int32)), .val (.int ((1 : Int32) + (((XT.ushr mode (1 : Int32)) &&& (3 : Int32)) % (3 : Int32)))), .val (.ref a474), .val (.ref a484), .val (.ref a497), .val (.ref b513), .val (.ref b535), .val (.ref a474), .val (.ref a474)] [(.ref a474), (.ref a474)])) (argsL := [(.ref a474)]) (rest := []) rfl (by rw [hml]; rfl) (lenOf pd_16 rfl) rfl rfl (by show 2 * 0 + _ ≤ _; exact Nat.le_of_eq rfl) (hb hby at_161) ?_
      rintro _ T604 L604 X604 ⟨rfl, N604q, e604⟩
      have N605 := Fr.app N603 N604q
      show own_Fin p e below _ T604 (mkF m 164 #[.val (.int s0), .val (.int s1), .val (.int s2), .val (.int mode), .val (.int (0 : Int32)), .val (.int ((1 : Int32) + (((XT.ushr mode (1 : Int32)) &&& (3 : Int32)) % (3 : Int32)))), .val (.ref a474), .val (.ref a484), .val (.ref a497), .val (.ref b513), .val (.ref b535), .val (.ref a474), .val (.ref a474)] [(.int (1 : Int32))])
      refine own_step (T' := T604) (g' := (mkF m 167 #[.val (.int s0), .val (.int s1), .val (.int s2), .val (.int mode), .val (.int (0 : Int32)), .val (.int ((1 : Int32) + (((XT.ushr mode (1 : Int32)) &&& (3 : Int32)) % (3 : Int32)))), .val (.ref a474), .val (.ref a484), .val (.ref a497), .val (.ref b513), .val (.ref b535), .val (.ref a474), .val (.ref a474)] [])) (fun _ q => XS.ifNo X604.here hx rfl (hb hby at_164) rfl (by decide) q) ?_
      refine own_step (T' := T604) (g' := (mkF m 169 #[.val (.int s0), .val (.int s1), .val (.int s2), .val (.int mode), .val (.int (0 : Int32)), .val (.int ((1 : Int32) + (((XT.ushr mode (1 : Int32)) &&& (3 : Int32)) % (3 : Int32)))), .val (.ref a474), .val (.ref a484), .val (.ref a497), .val (.ref b513), .val (.ref b535), .val (.ref a474), .val (.ref a474)] [(.ref a474)])) (fun _ q => XS.aload X604.here hx rfl (hb hby at_167) rfl rfl q) ?_
      refine own_step (T' := T604) (g' := (mkF m 171 #[.val (.int s0), .val (.int s1), .val (.int s2), .val (.int mode), .val (.int (0 : Int32)), .val (.int ((1 : Int32) + (((XT.ushr mode (1 : Int32)) &&& (3 : Int32)) % (3 : Int32)))), .val (.ref a474), .val (.ref a484), .val (.ref a497), .val (.ref b513), .val (.ref b535), .val (.ref a474), .val (.ref a474)] [(.ref a474), (.ref a474)])) (fun _ q => XS.aload X604.here hx rfl (hb hby at_169) rfl rfl q) ?_
      refine own_callV (y := (⟨"java/lang/String", "equals", "(Ljava/lang/Object;)Z"⟩ : MethodName)) (z := (⟨"java/lang/String", "equals", "(Ljava/lang/Object;)Z"⟩ : MethodName)) X604 hx hZ hown (w93 hw) (w94 hw) (notFace_of_selects (args := #[]) (mvT hZ (w96 hw))) (w96 hw) (w95 hw) (by decide) (backOf (W := 0) (own_eqs l Z a0 hw [] a474 h591 n0 c600 ) hZ (w97 hw) (w6 hw) (Nat.le_of_ble_eq_true rfl) (Nat.le_of_ble_eq_true rfl)) e604 c599  (by first | decide | (dsimp only; omega)) (by first | decide | (dsimp only; omega)) (g := (mkF m 171 #[.val (.int s0), .val (.int s1), .val (.int s2), .val (.int mode), .val (.int (0 : Int32)), .val (.int ((1 : Int32) + (((XT.ushr mode (1 : Int32)) &&& (3 : Int32)) % (3 : Int32)))), .val (.ref a474), .val (.ref a484), .val (.ref a497), .val (.ref b513), .val (.ref b535), .val (.ref a474), .val (.ref a474)] [(.ref a474), (.ref a474)])) (argsL := [(.ref a474)]) (rest := []) rfl (by rw [hml]; rfl) (lenOf pd_16 rfl) rfl rfl (by show 2 * 0 + _ ≤ _; exact Nat.le_of_eq rfl) (hb hby at_171) ?_
      rintro _ T606 L606 X606 ⟨rfl, N606q, e606⟩
      have N607 := Fr.app N605 N606q
      show own_Fin p e below _ T606 (mkF m 174 #[.val (.int s0), .val (.int s1), .val (.int s2), .val (.int mode), .val (.int (0 : Int32)), .val (.int ((1 : Int32) + (((XT.ushr mode (1 : Int32)) &&& (3 : Int32)) % (3 : Int32)))), .val (.ref a474), .val (.ref a484), .val (.ref a497), .val (.ref b513), .val (.ref b535), .val (.ref a474), .val (.ref a474)] [(.int (1 : Int32))])
      refine own_step (T' := T606) (g' := (mkF m 177 #[.val (.int s0), .val (.int s1), .val (.int s2), .val (.int mode), .val (.int (0 : Int32)), .val (.int ((1 : Int32) + (((XT.ushr mode (1 : Int32)) &&& (3 : Int32)) % (3 : Int32)))), .val (.ref a474), .val (.ref a484), .val (.ref a497), .val (.ref b513), .val (.ref b535), .val (.ref a474), .val (.ref a474)] [])) (fun _ q => XS.ifNo X606.here hx rfl (hb hby at_174) rfl (by decide) q) ?_
      refine own_step (T' := T606) (g' := (mkF m 179 #[.val (.int s0), .val (.int s1), .val (.int s2), .val (.int mode), .val (.int (0 : Int32)), .val (.int ((1 : Int32) + (((XT.ushr mode (1 : Int32)) &&& (3 : Int32)) % (3 : Int32)))), .val (.ref a474), .val (.ref a484), .val (.ref a497), .val (.ref b513), .val (.ref b535), .val (.ref a474), .val (.ref a474)] [(.ref a474)])) (fun _ q => XS.aload X606.here hx rfl (hb hby at_177) rfl rfl q) ?_
      have c608 := (((((((f2_474.keep K484 nin0).keep K497 nin0).ext E513).other W530 (Or.inl ne519)).ext E535).keep K562 (ninS ne541 nin0)).other W591 (Or.inl ne519))
      have c609 := (((((((f3_474.keep K484 nin0).keep K497 nin0).ext E513).other W530 (Or.inl ne519)).ext E535).keep K562 (ninS ne541 nin0)).other W591 (Or.inl ne519))
      have c610 := (((((((f4_474.keep K484 nin0).keep K497 nin0).ext E513).other W530 ne521).ext E535).keep K562 (ninS ne543 nin0)).other W591 ne521)
      have c611 := ((c558.keep K562 (allS n0_537 all0)).wr W591 n0_515)
      refine own_callV (y := (⟨"java/lang/String", "length", "()I"⟩ : MethodName)) (z := (⟨"java/lang/String", "length", "()I"⟩ : MethodName)) (Q := fun v h' L => v = some (.int (Int32.ofNat (cs474).length)) ∧ L = [] ∧ h' = h591) X606 hx hZ hown (w98 hw) (w99 hw) (notFace_of_selects (args := #[]) (mvT hZ (w101 hw))) (w101 hw) (w100 hw) (by decide) (StrChars.Road.lenW (W := 0) hZ (own_wl hw) (kI := 4) (w5 hw) c599 c608 c609 c610 p0_474 p1_474.1 (O2.ext c611.2) P5 p1_474.2 (by decide) (by decide)) e606 c599  (by first | decide | (dsimp only; omega)) (by first | decide | (dsimp only; omega)) (g := (mkF m 179 #[.val (.int s0), .val (.int s1), .val (.int s2), .val (.int mode), .val (.int (0 : Int32)), .val (.int ((1 : Int32) + (((XT.ushr mode (1 : Int32)) &&& (3 : Int32)) % (3 : Int32)))), .val (.ref a474), .val (.ref a484), .val (.ref a497), .val (.ref b513), .val (.ref b535), .val (.ref a474), .val (.ref a474)] [(.ref a474)])) (argsL := []) (rest := []) rfl (by rw [hml]; rfl) (lenOf pd_17 rfl) rfl rfl (by show 2 * 0 + _ ≤ _; exact Nat.le_of_eq rfl) (hb hby at_179) ?_
      rintro _ T612 L612 X612 ⟨rfl, rfl, e612⟩
      have N612q := Fr.nil n0
      have N613 := Fr.app N607 N612q
      show own_Fin p e below _ T612 (mkF m 182 #[.val (.int s0), .val (.int s1), .val (.int s2), .val (.int mode), .val (.int (0 : Int32)), .val (.int ((1 : Int32) + (((XT.ushr mode (1 : Int32)) &&& (3 : Int32)) % (3 : Int32)))), .val (.ref a474), .val (.ref a484), .val (.ref a497), .val (.ref b513), .val (.ref b535), .val (.ref a474), .val (.ref a474)] [(.int (Int32.ofNat (cs474).length))])
      refine own_step (T' := T612) (g' := (mkF m 184 #[.val (.int s0), .val (.int s1), .val (.int s2), .val (.int mode), .val (.int (0 : Int32)), .val (.int ((1 : Int32) + (((XT.ushr mode (1 : Int32)) &&& (3 : Int32)) % (3 : Int32)))), .val (.ref a474), .val (.ref a484), .val (.ref a497), .val (.ref b513), .val (.ref b535), .val (.ref a474), .val (.ref a474)] [(.ref a474), (.int (Int32.ofNat (cs474).length))])) (fun _ q => XS.aload X612.here hx rfl (hb hby at_182) rfl rfl q) ?_
      refine own_callV (y := (⟨"java/lang/String", "length", "()I"⟩ : MethodName)) (z := (⟨"java/lang/String", "length", "()I"⟩ : MethodName)) (Q := fun v h' L => v = some (.int (Int32.ofNat (cs474).length)) ∧ L = [] ∧ h' = h591) X612 hx hZ hown (w98 hw) (w99 hw) (notFace_of_selects (args := #[]) (mvT hZ (w101 hw))) (w101 hw) (w100 hw) (by decide) (StrChars.Road.lenW (W := 1) hZ (own_wl hw) (kI := 4) (w5 hw) c599 c608 c609 c610 p0_474 p1_474.1 (O2.ext c611.2) P5 p1_474.2 (by decide) (by decide)) e612 c599  (by first | decide | (dsimp only; omega)) (by first | decide | (dsimp only; omega)) (g := (mkF m 184 #[.val (.int s0), .val (.int s1), .val (.int s2), .val (.int mode), .val (.int (0 : Int32)), .val (.int ((1 : Int32) + (((XT.ushr mode (1 : Int32)) &&& (3 : Int32)) % (3 : Int32)))), .val (.ref a474), .val (.ref a484), .val (.ref a497), .val (.ref b513), .val (.ref b535), .val (.ref a474), .val (.ref a474)] [(.ref a474), (.int (Int32.ofNat (cs474).length))])) (argsL := []) (rest := [(.int (Int32.ofNat (cs474).length))]) rfl (by rw [hml]; rfl) (lenOf pd_17 rfl) rfl rfl (by show 2 * 0 + _ ≤ _; exact Nat.le_of_eq rfl) (hb hby at_184) ?_
      rintro _ T614 L614 X614 ⟨rfl, rfl, e614⟩
      have N614q := Fr.nil n0
      have N615 := Fr.app N613 N614q
      show own_Fin p e below _ T614 (mkF m 187 #[.val (.int s0), .val (.int s1), .val (.int s2), .val (.int mode), .val (.int (0 : Int32)), .val (.int ((1 : Int32) + (((XT.ushr mode (1 : Int32)) &&& (3 : Int32)) % (3 : Int32)))), .val (.ref a474), .val (.ref a484), .val (.ref a497), .val (.ref b513), .val (.ref b535), .val (.ref a474), .val (.ref a474)] [(.int (Int32.ofNat (cs474).length)), (.int (Int32.ofNat (cs474).length))])
      refine own_step (T' := T614) (g' := (mkF m 190 #[.val (.int s0), .val (.int s1), .val (.int s2), .val (.int mode), .val (.int (0 : Int32)), .val (.int ((1 : Int32) + (((XT.ushr mode (1 : Int32)) &&& (3 : Int32)) % (3 : Int32)))), .val (.ref a474), .val (.ref a484), .val (.ref a497), .val (.ref b513), .val (.ref b535), .val (.ref a474), .val (.ref a474)] [])) (fun _ q => XS.icmpNo X614.here hx rfl (hb hby at_187) rfl (XT.ii_ne_f rfl) q) ?_
      refine own_step (T' := T614) (g' := (mkF m 192 #[.val (.int s0), .val (.int s1), .val (.int s2), .val (.int mode), .val (.int (0 : Int32)), .val (.int ((1 : Int32) + (((XT.ushr mode (1 : Int32)) &&& (3 : Int32)) % (3 : Int32)))), .val (.ref a474), .val (.ref a484), .val (.ref a497), .val (.ref b513), .val (.ref b535), .val (.ref a474), .val (.ref a474)] [(.ref a474)])) (fun _ q => XS.aload X614.here hx rfl (hb hby at_190) rfl rfl q) ?_
      refine own_step (T' := T614) (g' := (mkF m 194 #[.val (.int s0), .val (.int s1), .val (.int s2), .val (.int mode), .val (.int (0 : Int32)), .val (.int ((1 : Int32) + (((XT.ushr mode (1 : Int32)) &&& (3 : Int32)) % (3 : Int32)))), .val (.ref a474), .val (.ref a484), .val (.ref a497), .val (.ref b513), .val (.ref b535), .val (.ref a474), .val (.ref a474)] [(.ref a474), (.ref a474)])) (fun _ q => XS.aload X614.here hx rfl (hb hby at_192) rfl rfl q) ?_
      refine own_callV (y := (⟨"java/lang/String", "equals", "(Ljava/lang/Object;)Z"⟩ : MethodName)) (z := (⟨"java/lang/String", "equals", "(Ljava/lang/Object;)Z"⟩ : MethodName)) X614 hx hZ hown (w93 hw) (w94 hw) (notFace_of_selects (args := #[]) (mvT hZ (w96 hw))) (w96 hw) (w95 hw) (by decide) (backOf (W := 0) (own_eqs l Z a0 hw [] a474 h591 n0 c600 ) hZ (w97 hw) (w6 hw) (Nat.le_of_ble_eq_true rfl) (Nat.le_of_ble_eq_true rfl)) e614 c599  (by first | decide | (dsimp only; omega)) (by first | decide | (dsimp only; omega)) (g := (mkF m 194 #[.val (.int s0), .val (.int s1), .val (.int s2), .val (.int mode), .val (.int (0 : Int32)), .val (.int ((1 : Int32) + (((XT.ushr mode (1 : Int32)) &&& (3 : Int32)) % (3 : Int32)))), .val (.ref a474), .val (.ref a484), .val (.ref a497), .val (.ref b513), .val (.ref b535), .val (.ref a474), .val (.ref a474)] [(.ref a474), (.ref a474)])) (argsL := [(.ref a474)]) (rest := []) rfl (by rw [hml]; rfl) (lenOf pd_16 rfl) rfl rfl (by show 2 * 0 + _ ≤ _; exact Nat.le_of_eq rfl) (hb hby at_194) ?_
      rintro _ T616 L616 X616 ⟨rfl, N616q, e616⟩
      have N617 := Fr.app N615 N616q
      show own_Fin p e below _ T616 (mkF m 197 #[.val (.int s0), .val (.int s1), .val (.int s2), .val (.int mode), .val (.int (0 : Int32)), .val (.int ((1 : Int32) + (((XT.ushr mode (1 : Int32)) &&& (3 : Int32)) % (3 : Int32)))), .val (.ref a474), .val (.ref a484), .val (.ref a497), .val (.ref b513), .val (.ref b535), .val (.ref a474), .val (.ref a474)] [(.int (1 : Int32))])
      refine own_step (T' := T616) (g' := (mkF m 200 #[.val (.int s0), .val (.int s1), .val (.int s2), .val (.int mode), .val (.int (0 : Int32)), .val (.int ((1 : Int32) + (((XT.ushr mode (1 : Int32)) &&& (3 : Int32)) % (3 : Int32)))), .val (.ref a474), .val (.ref a484), .val (.ref a497), .val (.ref b513), .val (.ref b535), .val (.ref a474), .val (.ref a474)] [])) (fun _ q => XS.ifNo X616.here hx rfl (hb hby at_197) rfl (by decide) q) ?_
      refine own_step (T' := T616) (g' := (mkF m 201 #[.val (.int s0), .val (.int s1), .val (.int s2), .val (.int mode), .val (.int (0 : Int32)), .val (.int ((1 : Int32) + (((XT.ushr mode (1 : Int32)) &&& (3 : Int32)) % (3 : Int32)))), .val (.ref a474), .val (.ref a484), .val (.ref a497), .val (.ref b513), .val (.ref b535), .val (.ref a474), .val (.ref a474)] [(.int (1 : Int32))])) (fun _ q => XS.iconst X616.here hx rfl (hb hby at_200) q) ?_
      refine own_step (T' := T616) (g' := (mkF m 205 #[.val (.int s0), .val (.int s1), .val (.int s2), .val (.int mode), .val (.int (0 : Int32)), .val (.int ((1 : Int32) + (((XT.ushr mode (1 : Int32)) &&& (3 : Int32)) % (3 : Int32)))), .val (.ref a474), .val (.ref a484), .val (.ref a497), .val (.ref b513), .val (.ref b535), .val (.ref a474), .val (.ref a474)] [(.int (1 : Int32))])) (fun _ q => XS.goto X616.here hx rfl (pc0 := 201) (pc' := 205) rfl (hb hby at_201) (by decide) (by decide) q) ?_
      have c618 := ((c564.trans K562 (allS (Or.inr sz0_539) all0)).wr W591 (Or.inr sz0_517))
      have c619 := (Nat.le_trans (Nat.le_trans (Nat.le_trans (Nat.le_trans (Nat.le_trans (Nat.le_refl _) E513.1) (Keep.of_wr W530).1) E535.1) K562.1) (Keep.of_wr W591).1)
      exact own_retNW X616 hx hZ (own_hEL hw) hS (by rw [e616]; exact c619) (by rw [e616]; exact CH594) Bd.returns (by simp) (hb hby at_205) hlk (by rw [e616]; exact ⟨rfl, N617, c618⟩) (by first | decide | (dsimp only; omega)) (by first | decide | (dsimp only; omega))
    · refine own_step (T' := T497) (g' := (mkF m 78 #[.val (.int s0), .val (.int s1), .val (.int s2), .val (.int mode), .val (.int (0 : Int32)), .val (.int ((1 : Int32) + (((XT.ushr mode (1 : Int32)) &&& (3 : Int32)) % (3 : Int32)))), .val (.ref a474), .val (.ref a484), .val (.ref a497), .unset, .unset, .unset, .unset] [])) (fun _ q => XS.icmpYes X497.here hx rfl (pc0 := 61) (pc' := 78) rfl (hb hby at_61) rfl (XT.ii_ne_t hc512) (by decide) (by decide) q) ?_
      refine own_step (T' := T497) (g' := (mkF m 80 #[.val (.int s0), .val (.int s1), .val (.int s2), .val (.int mode), .val (.int (0 : Int32)), .val (.int ((1 : Int32) + (((XT.ushr mode (1 : Int32)) &&& (3 : Int32)) % (3 : Int32)))), .val (.ref a474), .val (.ref a484), .val (.ref a497), .unset, .unset, .unset, .unset] [(.int ((1 : Int32) + (((XT.ushr mode (1 : Int32)) &&& (3 : Int32)) % (3 : Int32))))])) (fun _ q => XS.iload X497.here hx rfl (hb hby at_78) rfl q) ?_
      refine own_step (T' := T497) (g' := (mkF m 81 #[.val (.int s0), .val (.int s1), .val (.int s2), .val (.int mode), .val (.int (0 : Int32)), .val (.int ((1 : Int32) + (((XT.ushr mode (1 : Int32)) &&& (3 : Int32)) % (3 : Int32)))), .val (.ref a474), .val (.ref a484), .val (.ref a497), .unset, .unset, .unset, .unset] [(.int (2 : Int32)), (.int ((1 : Int32) + (((XT.ushr mode (1 : Int32)) &&& (3 : Int32)) % (3 : Int32))))])) (fun _ q => XS.iconst X497.here hx rfl (hb hby at_80) q) ?_
      by_cases hc620 : ((1 : Int32) + (((XT.ushr mode (1 : Int32)) &&& (3 : Int32)) % (3 : Int32))) = (2 : Int32)
      · refine own_step (T' := T497) (g' := (mkF m 84 #[.val (.int s0), .val (.int s1), .val (.int s2), .val (.int mode), .val (.int (0 : Int32)), .val (.int ((1 : Int32) + (((XT.ushr mode (1 : Int32)) &&& (3 : Int32)) % (3 : Int32)))), .val (.ref a474), .val (.ref a484), .val (.ref a497), .unset, .unset, .unset, .unset] [])) (fun _ q => XS.icmpNo X497.here hx rfl (hb hby at_81) rfl (XT.ii_ne_f hc620) q) ?_
        refine own_step (T' := T497) (g' := (mkF m 85 #[.val (.int s0), .val (.int s1), .val (.int s2), .val (.int mode), .val (.int (0 : Int32)), .val (.int ((1 : Int32) + (((XT.ushr mode (1 : Int32)) &&& (3 : Int32)) % (3 : Int32)))), .val (.ref a474), .val (.ref a484), .val (.ref a497), .unset, .unset, .unset, .unset] [(.int (2 : Int32))])) (fun _ q => XS.iconst X497.here hx rfl (hb hby at_84) q) ?_
        obtain ⟨T621, h621, k621, X621, e621, E621, A621, O621, st621⟩ := newR X497 hx hZ hown (w4 hw) (w26 hw) rfl (g := (mkF m 85 #[.val (.int s0), .val (.int s1), .val (.int s2), .val (.int mode), .val (.int (0 : Int32)), .val (.int ((1 : Int32) + (((XT.ushr mode (1 : Int32)) &&& (3 : Int32)) % (3 : Int32)))), .val (.ref a474), .val (.ref a484), .val (.ref a497), .unset, .unset, .unset, .unset] [(.int (2 : Int32))])) rfl (hb hby at_85) rfl (by decide) (cap := 2) (by decide) (by first | decide | omega) (by first | decide | (dsimp only; omega)) (by first | decide | (dsimp only; omega))
        obtain ⟨b621, g621⟩ : ∃ z, z = T497.heap.size := ⟨_, rfl⟩
        rw [← g621] at A621 st621
        have c622 := (Nat.le_trans c496 K497.1)
        have n0_623 : n0 ≤ b621 := Nat.le_trans c622 (Nat.le_of_eq g621.symm)
        have c624 := (c499.trans K497 all0)
        have sz0_625 := Nat.le_trans c624.1 (Nat.le_of_eq g621.symm)
        have c626 := (own_lt c501 K497.1)
        have ne627 : a474 ≠ b621 := own_ne c626 (Nat.le_of_eq g621.symm)
        have c628 := (own_lt c503 K497.1)
        have ne629 : t474 ≠ b621 := own_ne c628 (Nat.le_of_eq g621.symm)
        have c630 := (own_lt lt492 K497.1)
        have ne631 : a484 ≠ b621 := own_ne c630 (Nat.le_of_eq g621.symm)
        have c632 := (own_lt lt493 K497.1)
        have ne633 : t484 ≠ b621 := own_ne c632 (Nat.le_of_eq g621.symm)
        have ne634 : a497 ≠ b621 := own_ne lt509 (Nat.le_of_eq g621.symm)
        have ne635 : t497 ≠ b621 := own_ne lt510 (Nat.le_of_eq g621.symm)
        have sf636 : Safe Z own_EL _ _ b621 := Safe.new (EL := own_EL) (Z := Z) (vm := T497.vm) (Nat.le_of_eq g621.symm)
        have CH637 := CH508.trans (CHr.ext E621 CH508.1)
        have V621 : Arv Z h621 b621 k621 (.object "java/lang/String") (2 : Int32) [.null, .null] .null := (Arv.new A621 (by decide)).pad (pad_rep [] .null 2)
        have ltb621 := V621.lt
        refine own_step (T' := T621) (g' := (mkF m 88 #[.val (.int s0), .val (.int s1), .val (.int s2), .val (.int mode), .val (.int (0 : Int32)), .val (.int ((1 : Int32) + (((XT.ushr mode (1 : Int32)) &&& (3 : Int32)) % (3 : Int32)))), .val (.ref a474), .val (.ref a484), .val (.ref a497), .unset, .unset, .unset, .unset] [(.ref b621)])) st621 ?_
        refine own_step (T' := T621) (g' := (mkF m 89 #[.val (.int s0), .val (.int s1), .val (.int s2), .val (.int mode), .val (.int (0 : Int32)), .val (.int ((1 : Int32) + (((XT.ushr mode (1 : Int32)) &&& (3 : Int32)) % (3 : Int32)))), .val (.ref a474), .val (.ref a484), .val (.ref a497), .unset, .unset, .unset, .unset] [(.ref b621), (.ref b621)])) (fun _ q => XS.dup X621.here hx rfl (hb hby at_88) rfl rfl q) ?_
        refine own_step (T' := T621) (g' := (mkF m 90 #[.val (.int s0), .val (.int s1), .val (.int s2), .val (.int mode), .val (.int (0 : Int32)), .val (.int ((1 : Int32) + (((XT.ushr mode (1 : Int32)) &&& (3 : Int32)) % (3 : Int32)))), .val (.ref a474), .val (.ref a484), .val (.ref a497), .unset, .unset, .unset, .unset] [(.int (0 : Int32)), (.ref b621), (.ref b621)])) (fun _ q => XS.iconst X621.here hx rfl (hb hby at_89) q) ?_
        refine own_step (T' := T621) (g' := (mkF m 92 #[.val (.int s0), .val (.int s1), .val (.int s2), .val (.int mode), .val (.int (0 : Int32)), .val (.int ((1 : Int32) + (((XT.ushr mode (1 : Int32)) &&& (3 : Int32)) % (3 : Int32)))), .val (.ref a474), .val (.ref a484), .val (.ref a497), .unset, .unset, .unset, .unset] [(.ref a474), (.int (0 : Int32)), (.ref b621), (.ref b621)])) (fun _ q => XS.aload X621.here hx rfl (hb hby at_90) rfl rfl q) ?_
        have c639 := (((f1_474.keep K484).keep K497).ext E621)
        obtain ⟨T638, h638, X638, e638, W638, V638, st638⟩ := own_stR X621 hx hZ e621 V621 rfl rfl (fun _ A q => Sto.ofV A q O621 (Ins.self c639)) (j := (0 : Int32)) ⟨by decide, by decide⟩ (i := 0) rfl (Nat.le_of_ble_eq_true rfl) (g := (mkF m 92 #[.val (.int s0), .val (.int s1), .val (.int s2), .val (.int mode), .val (.int (0 : Int32)), .val (.int ((1 : Int32) + (((XT.ushr mode (1 : Int32)) &&& (3 : Int32)) % (3 : Int32)))), .val (.ref a474), .val (.ref a484), .val (.ref a497), .unset, .unset, .unset, .unset] [(.ref a474), (.int (0 : Int32)), (.ref b621), (.ref b621)])) rfl rfl (hb hby at_92)
        replace V638 : Arv Z h638 b621 k621 (.object "java/lang/String") (2 : Int32) [(.ref a474), .null] .null := V638
        have N640 := Fr.snoc X638 N511 n0_623
        have c642 := (Safe.ext E621 CH508.1 sf636)
        have CH641 := CH637.trans (CHr.wr W638 c642 CH637.1)
        refine own_step (T' := T638) (g' := (mkF m 93 #[.val (.int s0), .val (.int s1), .val (.int s2), .val (.int mode), .val (.int (0 : Int32)), .val (.int ((1 : Int32) + (((XT.ushr mode (1 : Int32)) &&& (3 : Int32)) % (3 : Int32)))), .val (.ref a474), .val (.ref a484), .val (.ref a497), .unset, .unset, .unset, .unset] [(.ref b621)])) st638 ?_
        refine own_step (T' := T638) (g' := (mkF m 94 #[.val (.int s0), .val (.int s1), .val (.int s2), .val (.int mode), .val (.int (0 : Int32)), .val (.int ((1 : Int32) + (((XT.ushr mode (1 : Int32)) &&& (3 : Int32)) % (3 : Int32)))), .val (.ref a474), .val (.ref a484), .val (.ref a497), .unset, .unset, .unset, .unset] [(.ref b621), (.ref b621)])) (fun _ q => XS.dup X638.here hx rfl (hb hby at_93) rfl rfl q) ?_
        refine own_step (T' := T638) (g' := (mkF m 95 #[.val (.int s0), .val (.int s1), .val (.int s2), .val (.int mode), .val (.int (0 : Int32)), .val (.int ((1 : Int32) + (((XT.ushr mode (1 : Int32)) &&& (3 : Int32)) % (3 : Int32)))), .val (.ref a474), .val (.ref a484), .val (.ref a497), .unset, .unset, .unset, .unset] [(.int (1 : Int32)), (.ref b621), (.ref b621)])) (fun _ q => XS.iconst X638.here hx rfl (hb hby at_94) q) ?_
        refine own_step (T' := T638) (g' := (mkF m 97 #[.val (.int s0), .val (.int s1), .val (.int s2), .val (.int mode), .val (.int (0 : Int32)), .val (.int ((1 : Int32) + (((XT.ushr mode (1 : Int32)) &&& (3 : Int32)) % (3 : Int32)))), .val (.ref a474), .val (.ref a484), .val (.ref a497), .unset, .unset, .unset, .unset] [(.ref a484), (.int (1 : Int32)), (.ref b621), (.ref b621)])) (fun _ q => XS.aload X638.here hx rfl (hb hby at_95) rfl rfl q) ?_
        have c644 := (((f1_484.keep K497).ext E621).wr W638)
        obtain ⟨T643, h643, X643, e643, W643, V643, st643⟩ := own_stR X638 hx hZ e638 V638 rfl rfl (fun _ A q => Sto.ofV A q O621 (Ins.self c644)) (j := (1 : Int32)) ⟨by decide, by decide⟩ (i := 1) rfl (Nat.le_of_ble_eq_true rfl) (g := (mkF m 97 #[.val (.int s0), .val (.int s1), .val (.int s2), .val (.int mode), .val (.int (0 : Int32)), .val (.int ((1 : Int32) + (((XT.ushr mode (1 : Int32)) &&& (3 : Int32)) % (3 : Int32)))), .val (.ref a474), .val (.ref a484), .val (.ref a497), .unset, .unset, .unset, .unset] [(.ref a484), (.int (1 : Int32)), (.ref b621), (.ref b621)])) rfl rfl (hb hby at_97)
        replace V643 : Arv Z h643 b621 k621 (.object "java/lang/String") (2 : Int32) [(.ref a474), (.ref a484)] .null := V643
        have N645 := Fr.snoc X643 N640 n0_623
        have c647 := (Safe.wr W638 c642 CH637.1 c642)
        have CH646 := CH641.trans (CHr.wr W643 c647 CH641.1)
        refine own_step (T' := T643) (g' := (mkF m 98 #[.val (.int s0), .val (.int s1), .val (.int s2), .val (.int mode), .val (.int (0 : Int32)), .val (.int ((1 : Int32) + (((XT.ushr mode (1 : Int32)) &&& (3 : Int32)) % (3 : Int32)))), .val (.ref a474), .val (.ref a484), .val (.ref a497), .unset, .unset, .unset, .unset] [(.ref b621)])) st643 ?_
        refine own_step (T' := T643) (g' := (mkF m 100 #[.val (.int s0), .val (.int s1), .val (.int s2), .val (.int mode), .val (.int (0 : Int32)), .val (.int ((1 : Int32) + (((XT.ushr mode (1 : Int32)) &&& (3 : Int32)) % (3 : Int32)))), .val (.ref a474), .val (.ref a484), .val (.ref a497), .val (.ref b621), .unset, .unset, .unset] [])) (fun _ q => XS.astore X643.here hx rfl (hb hby at_98) rfl rfl (l' := #[.val (.int s0), .val (.int s1), .val (.int s2), .val (.int mode), .val (.int (0 : Int32)), .val (.int ((1 : Int32) + (((XT.ushr mode (1 : Int32)) &&& (3 : Int32)) % (3 : Int32)))), .val (.ref a474), .val (.ref a484), .val (.ref a497), .val (.ref b621), .unset, .unset, .unset]) rfl q) ?_
        refine own_step (T' := T643) (g' := (mkF m 124 #[.val (.int s0), .val (.int s1), .val (.int s2), .val (.int mode), .val (.int (0 : Int32)), .val (.int ((1 : Int32) + (((XT.ushr mode (1 : Int32)) &&& (3 : Int32)) % (3 : Int32)))), .val (.ref a474), .val (.ref a484), .val (.ref a497), .val (.ref b621), .unset, .unset, .unset] [])) (fun _ q => XS.goto X643.here hx rfl (pc0 := 100) (pc' := 124) rfl (hb hby at_100) (by decide) (by decide) q) ?_
        obtain ⟨T648, h648, X648, e648, E648, A648, D648, -, st648⟩ := newO X643 hx hZ hown (w27 hw) (w28 hw) (w29 hw) e643 (g := (mkF m 124 #[.val (.int s0), .val (.int s1), .val (.int s2), .val (.int mode), .val (.int (0 : Int32)), .val (.int ((1 : Int32) + (((XT.ushr mode (1 : Int32)) &&& (3 : Int32)) % (3 : Int32)))), .val (.ref a474), .val (.ref a484), .val (.ref a497), .val (.ref b621), .unset, .unset, .unset] [])) rfl (hb hby at_124) (by first | decide | (dsimp only; omega)) (by first | decide | (dsimp only; omega))
        obtain ⟨b648, g648⟩ : ∃ z, z = h643.size := ⟨_, rfl⟩
        rw [← g648] at A648 D648 st648
        have c649 := (Nat.le_trans (Nat.le_trans (Nat.le_trans c622 E621.1) (Keep.of_wr W638).1) (Keep.of_wr W643).1)
        have n0_650 : n0 ≤ b648 := Nat.le_trans c649 (Nat.le_of_eq g648.symm)
        have c651 := (((c624.ext E621).wr W638 (Or.inr sz0_625)).wr W643 (Or.inr sz0_625))
        have sz0_652 := Nat.le_trans c651.1 (Nat.le_of_eq g648.symm)
        have c653 := (own_lt (own_lt (own_lt c626 E621.1) (Keep.of_wr W638).1) (Keep.of_wr W643).1)
        have ne654 : a474 ≠ b648 := own_ne c653 (Nat.le_of_eq g648.symm)
        have c655 := (own_lt (own_lt (own_lt c628 E621.1) (Keep.of_wr W638).1) (Keep.of_wr W643).1)
        have ne656 : t474 ≠ b648 := own_ne c655 (Nat.le_of_eq g648.symm)
        have c657 := (own_lt (own_lt (own_lt c630 E621.1) (Keep.of_wr W638).1) (Keep.of_wr W643).1)
        have ne658 : a484 ≠ b648 := own_ne c657 (Nat.le_of_eq g648.symm)
        have c659 := (own_lt (own_lt (own_lt c632 E621.1) (Keep.of_wr W638).1) (Keep.of_wr W643).1)
        have ne660 : t484 ≠ b648 := own_ne c659 (Nat.le_of_eq g648.symm)
        have c661 := (own_lt (own_lt (own_lt lt509 E621.1) (Keep.of_wr W638).1) (Keep.of_wr W643).1)
        have ne662 : a497 ≠ b648 := own_ne c661 (Nat.le_of_eq g648.symm)
        have c663 := (own_lt (own_lt (own_lt lt510 E621.1) (Keep.of_wr W638).1) (Keep.of_wr W643).1)
        have ne664 : t497 ≠ b648 := own_ne c663 (Nat.le_of_eq g648.symm)
        have c665 := (own_lt (own_lt ltb621 (Keep.of_wr W638).1) (Keep.of_wr W643).1)
        have ne666 : b621 ≠ b648 := own_ne c665 (Nat.le_of_eq g648.symm)
        have sf667 : Safe Z own_EL _ _ b648 := Safe.new (EL := own_EL) (Z := Z) (vm := T497.vm) (Nat.le_of_eq g648.symm)
        have CH668 := CH646.trans (CHr.ext E648 CH646.1)
        have ltb648 := A648.lt
        have F669 : Fld Z h648 b648 "com/example/gangway/gangway/tool/CommandLine$Option" "repeatable" "Z" (.int (0 : Int32)) := D648 (Or.inr (w35 hw)) (ty := .boolean) (by decide)
        have F670 : Fld Z h648 b648 "com/example/gangway/gangway/tool/CommandLine$Option" "spellings" "Ljava/util/List;" .null := D648 (Or.inr (w77 hw)) (ty := (.object "java/util/List")) (by decide)
        refine own_step (T' := T648) (g' := (mkF m 127 #[.val (.int s0), .val (.int s1), .val (.int s2), .val (.int mode), .val (.int (0 : Int32)), .val (.int ((1 : Int32) + (((XT.ushr mode (1 : Int32)) &&& (3 : Int32)) % (3 : Int32)))), .val (.ref a474), .val (.ref a484), .val (.ref a497), .val (.ref b621), .unset, .unset, .unset] [(.ref b648)])) st648 ?_
        refine own_step (T' := T648) (g' := (mkF m 128 #[.val (.int s0), .val (.int s1), .val (.int s2), .val (.int mode), .val (.int (0 : Int32)), .val (.int ((1 : Int32) + (((XT.ushr mode (1 : Int32)) &&& (3 : Int32)) % (3 : Int32)))), .val (.ref a474), .val (.ref a484), .val (.ref a497), .val (.ref b621), .unset, .unset, .unset] [(.ref b648), (.ref b648)])) (fun _ q => XS.dup X648.here hx rfl (hb hby at_127) rfl rfl q) ?_
        refine own_step (T' := T648) (g' := (mkF m 130 #[.val (.int s0), .val (.int s1), .val (.int s2), .val (.int mode), .val (.int (0 : Int32)), .val (.int ((1 : Int32) + (((XT.ushr mode (1 : Int32)) &&& (3 : Int32)) % (3 : Int32)))), .val (.ref a474), .val (.ref a484), .val (.ref a497), .val (.ref b621), .unset, .unset, .unset] [(.int (0 : Int32)), (.ref b648), (.ref b648)])) (fun _ q => XS.iload X648.here hx rfl (hb hby at_128) rfl q) ?_
        refine own_step (T' := T648) (g' := (mkF m 132 #[.val (.int s0), .val (.int s1), .val (.int s2), .val (.int mode), .val (.int (0 : Int32)), .val (.int ((1 : Int32) + (((XT.ushr mode (1 : Int32)) &&& (3 : Int32)) % (3 : Int32)))), .val (.ref a474), .val (.ref a484), .val (.ref a497), .val (.ref b621), .unset, .unset, .unset] [(.ref b621), (.int (0 : Int32)), (.ref b648), (.ref b648)])) (fun _ q => XS.aload X648.here hx rfl (hb hby at_130) rfl rfl q) ?_
        have c671 := (V643.ext E648)
        have c672 := (((c639.wr W638).wr W643).ext E648)
        have c673 := ((c644.wr W643).ext E648)
        have c674 := (Nat.le_trans c649 E648.1)
        refine own_callC X648 hx hZ hown rfl (w30 hw) (w31 hw) (w32 hw) (by decide) (backOf (W := 1) (own_opt2 l Z a0 hw [] b648 (0 : Int32) b621 k621 a474 a484 h648 n0 c674 A648 n0_650 F669 F670 c671 c672 c673) hZ (w32 hw) (w29 hw) (Nat.le_of_ble_eq_true rfl) (Nat.le_of_ble_eq_true rfl)) e648  (by first | decide | (dsimp only; omega)) (by first | decide | (dsimp only; omega)) (g := (mkF m 132 #[.val (.int s0), .val (.int s1), .val (.int s2), .val (.int mode), .val (.int (0 : Int32)), .val (.int ((1 : Int32) + (((XT.ushr mode (1 : Int32)) &&& (3 : Int32)) % (3 : Int32)))), .val (.ref a474), .val (.ref a484), .val (.ref a497), .val (.ref b621), .unset, .unset, .unset] [(.ref b621), (.int (0 : Int32)), (.ref b648), (.ref b648)])) (argsL := [(.int (0 : Int32)), (.ref b621)]) (rest := [(.ref b648)]) rfl (by rw [hml]; rfl) (lenOf pd_14 rfl) rfl rfl (by show 2 * 0 + _ ≤ _; exact Nat.le_of_eq rfl) (hb hby at_132) ?_
        rintro _ T675 L675 X675 ⟨lst675, rfl, N675q, K675, f0_675, f1_675, f2_675, f3_675, f4_675⟩
        have n0_676 : n0 ≤ lst675 := Nat.le_trans c674 f0_675
        have c677 := (c651.ext E648)
        have sz0_678 := Nat.le_trans c677.1 f0_675
        have c679 := (own_lt c653 E648.1)
        have ne680 : a474 ≠ lst675 := own_ne c679 f0_675
        have c681 := (own_lt c655 E648.1)
        have ne682 : t474 ≠ lst675 := own_ne c681 f0_675
        have c683 := (own_lt c657 E648.1)
        have ne684 : a484 ≠ lst675 := own_ne c683 f0_675
        have c685 := (own_lt c659 E648.1)
        have ne686 : t484 ≠ lst675 := own_ne c685 f0_675
        have c687 := (own_lt c661 E648.1)
        have ne688 : a497 ≠ lst675 := own_ne c687 f0_675
        have c689 := (own_lt c663 E648.1)
        have ne690 : t497 ≠ lst675 := own_ne c689 f0_675
        have c691 := (own_lt c665 E648.1)
        have ne692 : b621 ≠ lst675 := own_ne c691 f0_675
        have ne693 : b648 ≠ lst675 := own_ne ltb648 f0_675
        have sf694 : Safe Z own_EL _ _ lst675 := Safe.new (EL := own_EL) (Z := Z) (vm := T497.vm) f0_675
        have c696 := (Safe.ext E648 CH646.1 sf667)
        have CH695 := CH668.trans (CHr.keep K675 (sfS c696 sf0) CH668.1)
        have lt697 := f3_675.lt
        have N698 := Fr.app N645 N675q
        show own_Fin p e below _ T675 (mkF m 135 #[.val (.int s0), .val (.int s1), .val (.int s2), .val (.int mode), .val (.int (0 : Int32)), .val (.int ((1 : Int32) + (((XT.ushr mode (1 : Int32)) &&& (3 : Int32)) % (3 : Int32)))), .val (.ref a474), .val (.ref a484), .val (.ref a497), .val (.ref b621), .unset, .unset, .unset] [(.ref b648)])
        refine own_step (T' := T675) (g' := (mkF m 137 #[.val (.int s0), .val (.int s1), .val (.int s2), .val (.int mode), .val (.int (0 : Int32)), .val (.int ((1 : Int32) + (((XT.ushr mode (1 : Int32)) &&& (3 : Int32)) % (3 : Int32)))), .val (.ref a474), .val (.ref a484), .val (.ref a497), .val (.ref b621), .val (.ref b648), .unset, .unset] [])) (fun _ q => XS.astore X675.here hx rfl (hb hby at_135) rfl rfl (l' := #[.val (.int s0), .val (.int s1), .val (.int s2), .val (.int mode), .val (.int (0 : Int32)), .val (.int ((1 : Int32) + (((XT.ushr mode (1 : Int32)) &&& (3 : Int32)) % (3 : Int32)))), .val (.ref a474), .val (.ref a484), .val (.ref a497), .val (.ref b621), .val (.ref b648), .unset, .unset]) rfl q) ?_
        refine own_step (T' := T675) (g' := (mkF m 139 #[.val (.int s0), .val (.int s1), .val (.int s2), .val (.int mode), .val (.int (0 : Int32)), .val (.int ((1 : Int32) + (((XT.ushr mode (1 : Int32)) &&& (3 : Int32)) % (3 : Int32)))), .val (.ref a474), .val (.ref a484), .val (.ref a497), .val (.ref b621), .val (.ref b648), .unset, .unset] [(.ref b648)])) (fun _ q => XS.aload X675.here hx rfl (hb hby at_137) rfl rfl q) ?_
        have c699 := (c672.keep K675)
        have c700 := (Nat.le_trans c674 K675.1)
        refine own_callV (y := (⟨"com/example/gangway/gangway/tool/CommandLine$Option", "name", "()Ljava/lang/String;"⟩ : MethodName)) (z := (⟨"com/example/gangway/gangway/tool/CommandLine$Option", "name", "()Ljava/lang/String;"⟩ : MethodName)) X675 hx hZ hown (w78 hw) (w79 hw) (notFace_of_selects (args := #[]) (mvT hZ (w81 hw))) (w81 hw) (w80 hw) (by decide) (backOf (W := 0) (own_nm12 l Z a0 hw [] b648 lst675 a474 T675.heap n0 c700 f2_675 f3_675 f4_675 c699) hZ (w82 hw) (w29 hw) (Nat.le_of_ble_eq_true rfl) (Nat.le_of_ble_eq_true rfl)) rfl f1_675  (by first | decide | (dsimp only; omega)) (by first | decide | (dsimp only; omega)) (g := (mkF m 139 #[.val (.int s0), .val (.int s1), .val (.int s2), .val (.int mode), .val (.int (0 : Int32)), .val (.int ((1 : Int32) + (((XT.ushr mode (1 : Int32)) &&& (3 : Int32)) % (3 : Int32)))), .val (.ref a474), .val (.ref a484), .val (.ref a497), .val (.ref b621), .val (.ref b648), .unset, .unset] [(.ref b648)])) (argsL := []) (rest := []) rfl (by rw [hml]; rfl) (lenOf pd_15 rfl) rfl rfl (by show 2 * 0 + _ ≤ _; exact Nat.le_of_eq rfl) (hb hby at_139) ?_
        rintro _ T701 L701 X701 ⟨rfl, N701q, e701⟩
        have N702 := Fr.app N698 N701q
        show own_Fin p e below _ T701 (mkF m 142 #[.val (.int s0), .val (.int s1), .val (.int s2), .val (.int mode), .val (.int (0 : Int32)), .val (.int ((1 : Int32) + (((XT.ushr mode (1 : Int32)) &&& (3 : Int32)) % (3 : Int32)))), .val (.ref a474), .val (.ref a484), .val (.ref a497), .val (.ref b621), .val (.ref b648), .unset, .unset] [(.ref a474)])
        refine own_step (T' := T701) (g' := (mkF m 144 #[.val (.int s0), .val (.int s1), .val (.int s2), .val (.int mode), .val (.int (0 : Int32)), .val (.int ((1 : Int32) + (((XT.ushr mode (1 : Int32)) &&& (3 : Int32)) % (3 : Int32)))), .val (.ref a474), .val (.ref a484), .val (.ref a497), .val (.ref b621), .val (.ref b648), .val (.ref a474), .unset] [])) (fun _ q => XS.astore X701.here hx rfl (hb hby at_142) rfl rfl (l' := #[.val (.int s0), .val (.int s1), .val (.int s2), .val (.int mode), .val (.int (0 : Int32)), .val (.int ((1 : Int32) + (((XT.ushr mode (1 : Int32)) &&& (3 : Int32)) % (3 : Int32)))), .val (.ref a474), .val (.ref a484), .val (.ref a497), .val (.ref b621), .val (.ref b648), .val (.ref a474), .unset]) rfl q) ?_
        refine own_step (T' := T701) (g' := (mkF m 146 #[.val (.int s0), .val (.int s1), .val (.int s2), .val (.int mode), .val (.int (0 : Int32)), .val (.int ((1 : Int32) + (((XT.ushr mode (1 : Int32)) &&& (3 : Int32)) % (3 : Int32)))), .val (.ref a474), .val (.ref a484), .val (.ref a497), .val (.ref b621), .val (.ref b648), .val (.ref a474), .unset] [(.ref b621)])) (fun _ q => XS.aload X701.here hx rfl (hb hby at_144) rfl rfl q) ?_
        refine own_step (T' := T701) (g' := (mkF m 147 #[.val (.int s0), .val (.int s1), .val (.int s2), .val (.int mode), .val (.int (0 : Int32)), .val (.int ((1 : Int32) + (((XT.ushr mode (1 : Int32)) &&& (3 : Int32)) % (3 : Int32)))), .val (.ref a474), .val (.ref a484), .val (.ref a497), .val (.ref b621), .val (.ref b648), .val (.ref a474), .unset] [(.int (0 : Int32)), (.ref b621)])) (fun _ q => XS.iconst X701.here hx rfl (hb hby at_146) q) ?_
        refine own_step (T' := T701) (g' := (mkF m 149 #[.val (.int s0), .val (.int s1), .val (.int s2), .val (.int mode), .val (.int (0 : Int32)), .val (.int ((1 : Int32) + (((XT.ushr mode (1 : Int32)) &&& (3 : Int32)) % (3 : Int32)))), .val (.ref a474), .val (.ref a484), .val (.ref a497), .val (.ref b621), .val (.ref b648), .val (.ref a474), .unset] [(.ref a484), (.int (0 : Int32)), (.ref b621)])) (fun _ q => XS.aload X701.here hx rfl (hb hby at_147) rfl rfl q) ?_
        have c703 := (c671.keep K675 (ninS ne666 nin0))
        have c705 := (c673.keep K675)
        obtain ⟨T704, h704, X704, e704, W704, V704, st704⟩ := own_stR X701 hx hZ e701 c703 rfl rfl (fun _ A q => Sto.ofV A q O621 (Ins.self c705)) (j := (0 : Int32)) ⟨by decide, by decide⟩ (i := 0) rfl (Nat.le_of_ble_eq_true rfl) (g := (mkF m 149 #[.val (.int s0), .val (.int s1), .val (.int s2), .val (.int mode), .val (.int (0 : Int32)), .val (.int ((1 : Int32) + (((XT.ushr mode (1 : Int32)) &&& (3 : Int32)) % (3 : Int32)))), .val (.ref a474), .val (.ref a484), .val (.ref a497), .val (.ref b621), .val (.ref b648), .val (.ref a474), .unset] [(.ref a484), (.int (0 : Int32)), (.ref b621)])) rfl rfl (hb hby at_149)
        replace V704 : Arv Z h704 b621 k621 (.object "java/lang/String") (2 : Int32) [(.ref a484), (.ref a484)] .null := V704
        have N706 := Fr.snoc X704 N702 n0_623
        have c708 := (Safe.keep K675 (sfS c696 sf0) CH668.1 (Safe.ext E648 CH646.1 (Safe.wr W643 c647 CH641.1 c647)))
        have CH707 := CH695.trans (CHr.wr W704 c708 CH695.1)
        refine own_step (T' := T704) (g' := (mkF m 150 #[.val (.int s0), .val (.int s1), .val (.int s2), .val (.int mode), .val (.int (0 : Int32)), .val (.int ((1 : Int32) + (((XT.ushr mode (1 : Int32)) &&& (3 : Int32)) % (3 : Int32)))), .val (.ref a474), .val (.ref a484), .val (.ref a497), .val (.ref b621), .val (.ref b648), .val (.ref a474), .unset] [])) st704 ?_
        refine own_step (T' := T704) (g' := (mkF m 152 #[.val (.int s0), .val (.int s1), .val (.int s2), .val (.int mode), .val (.int (0 : Int32)), .val (.int ((1 : Int32) + (((XT.ushr mode (1 : Int32)) &&& (3 : Int32)) % (3 : Int32)))), .val (.ref a474), .val (.ref a484), .val (.ref a497), .val (.ref b621), .val (.ref b648), .val (.ref a474), .unset] [(.ref b648)])) (fun _ q => XS.aload X704.here hx rfl (hb hby at_150) rfl rfl q) ?_
        have c709 := (f2_675.other W704 (Or.inl (Ne.symm ne666)))
        have c710 := (f3_675.wr W704)
        have c711 := (f4_675.other W704 (Or.inl (Ne.symm ne692)))
        have c712 := (c699.wr W704)
        have c713 := (Nat.le_trans c700 (Keep.of_wr W704).1)
        have c715 := (f1_675.wr W704)
        refine own_callV (y := (⟨"com/example/gangway/gangway/tool/CommandLine$Option", "name", "()Ljava/lang/String;"⟩ : MethodName)) (z := (⟨"com/example/gangway/gangway/tool/CommandLine$Option", "name", "()Ljava/lang/String;"⟩ : MethodName)) X704 hx hZ hown (w78 hw) (w79 hw) (notFace_of_selects (args := #[]) (mvT hZ (w81 hw))) (w81 hw) (w80 hw) (by decide) (backOf (W := 0) (own_nm12 l Z a0 hw [] b648 lst675 a474 h704 n0 c713 c709 c710 c711 c712) hZ (w82 hw) (w29 hw) (Nat.le_of_ble_eq_true rfl) (Nat.le_of_ble_eq_true rfl)) e704 c715  (by first | decide | (dsimp only; omega)) (by first | decide | (dsimp only; omega)) (g := (mkF m 152 #[.val (.int s0), .val (.int s1), .val (.int s2), .val (.int mode), .val (.int (0 : Int32)), .val (.int ((1 : Int32) + (((XT.ushr mode (1 : Int32)) &&& (3 : Int32)) % (3 : Int32)))), .val (.ref a474), .val (.ref a484), .val (.ref a497), .val (.ref b621), .val (.ref b648), .val (.ref a474), .unset] [(.ref b648)])) (argsL := []) (rest := []) rfl (by rw [hml]; rfl) (lenOf pd_15 rfl) rfl rfl (by show 2 * 0 + _ ≤ _; exact Nat.le_of_eq rfl) (hb hby at_152) ?_
        rintro _ T714 L714 X714 ⟨rfl, N714q, e714⟩
        have N716 := Fr.app N706 N714q
        show own_Fin p e below _ T714 (mkF m 155 #[.val (.int s0), .val (.int s1), .val (.int s2), .val (.int mode), .val (.int (0 : Int32)), .val (.int ((1 : Int32) + (((XT.ushr mode (1 : Int32)) &&& (3 : Int32)) % (3 : Int32)))), .val (.ref a474), .val (.ref a484), .val (.ref a497), .val (.ref b621), .val (.ref b648), .val (.ref a474), .unset] [(.ref a474)])
        refine own_step (T' := T714) (g' := (mkF m 157 #[.val (.int s0), .val (.int s1), .val (.int s2), .val (.int mode), .val (.int (0 : Int32)), .val (.int ((1 : Int32) + (((XT.ushr mode (1 : Int32)) &&& (3 : Int32)) % (3 : Int32)))), .val (.ref a474), .val (.ref a484), .val (.ref a497), .val (.ref b621), .val (.ref b648), .val (.ref a474), .val (.ref a474)] [])) (fun _ q => XS.astore X714.here hx rfl (hb hby at_155) rfl rfl (l' := #[.val (.int s0), .val (.int s1), .val (.int s2), .val (.int mode), .val (.int (0 : Int32)), .val (.int ((1 : Int32) + (((XT.ushr mode (1 : Int32)) &&& (3 : Int32)) % (3 : Int32)))), .val (.ref a474), .val (.ref a484), .val (.ref a497), .val (.ref b621), .val (.ref b648), .val (.ref a474), .val (.ref a474)]) rfl q) ?_
        refine own_step (T' := T714) (g' := (mkF m 159 #[.val (.int s0), .val (.int s1), .val (.int s2), .val (.int mode), .val (.int (0 : Int32)), .val (.int ((1 : Int32) + (((XT.ushr mode (1 : Int32)) &&& (3 : Int32)) % (3 : Int32)))), .val (.ref a474), .val (.ref a484), .val (.ref a497), .val (.ref b621), .val (.ref b648), .val (.ref a474), .val (.ref a474)] [(.ref a474)])) (fun _ q => XS.aload X714.here hx rfl (hb hby at_157) rfl rfl q) ?_
        refine own_step (T' := T714) (g' := (mkF m 161 #[.val (.int s0), .val (.int s1), .val (.int s2), .val (.int mode), .val (.int (0 : Int32)), .val (.int ((1 : Int32) + (((XT.ushr mode (1 : Int32)) &&& (3 : Int32)) % (3 : Int32)))), .val (.ref a474), .val (.ref a484), .val (.ref a497), .val (.ref b621), .val (.ref b648), .val (.ref a474), .val (.ref a474)] [(.ref a474), (.ref a474)])) (fun _ q => XS.aload X714.here hx rfl (hb hby at_159) rfl rfl q) ?_
        refine own_callV (y := (⟨"java/lang/String", "equals", "(Ljava/lang/Object;)Z"⟩ : MethodName)) (z := (⟨"java/lang/String", "equals", "(Ljava/lang/Object;)Z"⟩ : MethodName)) X714 hx hZ hown (w93 hw) (w94 hw) (notFace_of_selects (args := #[]) (mvT hZ (w96 hw))) (w96 hw) (w95 hw) (by decide) (backOf (W := 0) (own_eqs l Z a0 hw [] a474 h704 n0 c713 ) hZ (w97 hw) (w6 hw) (Nat.le_of_ble_eq_true rfl) (Nat.le_of_ble_eq_true rfl)) e714 c712  (by first | decide | (dsimp only; omega)) (by first | decide | (dsimp only; omega)) (g := (mkF m 161 #[.val (.int s0), .val (.int s1), .val (.int s2), .val (.int mode), .val (.int (0 : Int32)), .val (.int ((1 : Int32) + (((XT.ushr mode (1 : Int32)) &&& (3 : Int32)) % (3 : Int32)))), .val (.ref a474), .val (.ref a484), .val (.ref a497), .val (.ref b621), .val (.ref b648), .val (.ref a474), .val (.ref a474)] [(.ref a474), (.ref a474)])) (argsL := [(.ref a474)]) (rest := []) rfl (by rw [hml]; rfl) (lenOf pd_16 rfl) rfl rfl (by show 2 * 0 + _ ≤ _; exact Nat.le_of_eq rfl) (hb hby at_161) ?_
        rintro _ T717 L717 X717 ⟨rfl, N717q, e717⟩
        have N718 := Fr.app N716 N717q
        show own_Fin p e below _ T717 (mkF m 164 #[.val (.int s0), .val (.int s1), .val (.int s2), .val (.int mode), .val (.int (0 : Int32)), .val (.int ((1 : Int32) + (((XT.ushr mode (1 : Int32)) &&& (3 : Int32)) % (3 : Int32)))), .val (.ref a474), .val (.ref a484), .val (.ref a497), .val (.ref b621), .val (.ref b648), .val (.ref a474), .val (.ref a474)] [(.int (1 : Int32))])
        refine own_step (T' := T717) (g' := (mkF m 167 #[.val (.int s0), .val (.int s1), .val (.int s2), .val (.int mode), .val (.int (0 : Int32)), .val (.int ((1 : Int32) + (((XT.ushr mode (1 : Int32)) &&& (3 : Int32)) % (3 : Int32)))), .val (.ref a474), .val (.ref a484), .val (.ref a497), .val (.ref b621), .val (.ref b648), .val (.ref a474), .val (.ref a474)] [])) (fun _ q => XS.ifNo X717.here hx rfl (hb hby at_164) rfl (by decide) q) ?_
        refine own_step (T' := T717) (g' := (mkF m 169 #[.val (.int s0), .val (.int s1), .val (.int s2), .val (.int mode), .val (.int (0 : Int32)), .val (.int ((1 : Int32) + (((XT.ushr mode (1 : Int32)) &&& (3 : Int32)) % (3 : Int32)))), .val (.ref a474), .val (.ref a484), .val (.ref a497), .val (.ref b621), .val (.ref b648), .val (.ref a474), .val (.ref a474)] [(.ref a474)])) (fun _ q => XS.aload X717.here hx rfl (hb hby at_167) rfl rfl q) ?_
        refine own_step (T' := T717) (g' := (mkF m 171 #[.val (.int s0), .val (.int s1), .val (.int s2), .val (.int mode), .val (.int (0 : Int32)), .val (.int ((1 : Int32) + (((XT.ushr mode (1 : Int32)) &&& (3 : Int32)) % (3 : Int32)))), .val (.ref a474), .val (.ref a484), .val (.ref a497), .val (.ref b621), .val (.ref b648), .val (.ref a474), .val (.ref a474)] [(.ref a474), (.ref a474)])) (fun _ q => XS.aload X717.here hx rfl (hb hby at_169) rfl rfl q) ?_
        refine own_callV (y := (⟨"java/lang/String", "equals", "(Ljava/lang/Object;)Z"⟩ : MethodName)) (z := (⟨"java/lang/String", "equals", "(Ljava/lang/Object;)Z"⟩ : MethodName)) X717 hx hZ hown (w93 hw) (w94 hw) (notFace_of_selects (args := #[]) (mvT hZ (w96 hw))) (w96 hw) (w95 hw) (by decide) (backOf (W := 0) (own_eqs l Z a0 hw [] a474 h704 n0 c713 ) hZ (w97 hw) (w6 hw) (Nat.le_of_ble_eq_true rfl) (Nat.le_of_ble_eq_true rfl)) e717 c712  (by first | decide | (dsimp only; omega)) (by first | decide | (dsimp only; omega)) (g := (mkF m 171 #[.val (.int s0), .val (.int s1), .val (.int s2), .val (.int mode), .val (.int (0 : Int32)), .val (.int ((1 : Int32) + (((XT.ushr mode (1 : Int32)) &&& (3 : Int32)) % (3 : Int32)))), .val (.ref a474), .val (.ref a484), .val (.ref a497), .val (.ref b621), .val (.ref b648), .val (.ref a474), .val (.ref a474)] [(.ref a474), (.ref a474)])) (argsL := [(.ref a474)]) (rest := []) rfl (by rw [hml]; rfl) (lenOf pd_16 rfl) rfl rfl (by show 2 * 0 + _ ≤ _; exact Nat.le_of_eq rfl) (hb hby at_171) ?_
        rintro _ T719 L719 X719 ⟨rfl, N719q, e719⟩
        have N720 := Fr.app N718 N719q
        show own_Fin p e below _ T719 (mkF m 174 #[.val (.int s0), .val (.int s1), .val (.int s2), .val (.int mode), .val (.int (0 : Int32)), .val (.int ((1 : Int32) + (((XT.ushr mode (1 : Int32)) &&& (3 : Int32)) % (3 : Int32)))), .val (.ref a474), .val (.ref a484), .val (.ref a497), .val (.ref b621), .val (.ref b648), .val (.ref a474), .val (.ref a474)] [(.int (1 : Int32))])
        refine own_step (T' := T719) (g' := (mkF m 177 #[.val (.int s0), .val (.int s1), .val (.int s2), .val (.int mode), .val (.int (0 : Int32)), .val (.int ((1 : Int32) + (((XT.ushr mode (1 : Int32)) &&& (3 : Int32)) % (3 : Int32)))), .val (.ref a474), .val (.ref a484), .val (.ref a497), .val (.ref b621), .val (.ref b648), .val (.ref a474), .val (.ref a474)] [])) (fun _ q => XS.ifNo X719.here hx rfl (hb hby at_174) rfl (by decide) q) ?_
        refine own_step (T' := T719) (g' := (mkF m 179 #[.val (.int s0), .val (.int s1), .val (.int s2), .val (.int mode), .val (.int (0 : Int32)), .val (.int ((1 : Int32) + (((XT.ushr mode (1 : Int32)) &&& (3 : Int32)) % (3 : Int32)))), .val (.ref a474), .val (.ref a484), .val (.ref a497), .val (.ref b621), .val (.ref b648), .val (.ref a474), .val (.ref a474)] [(.ref a474)])) (fun _ q => XS.aload X719.here hx rfl (hb hby at_177) rfl rfl q) ?_
        have c721 := ((((((((f2_474.keep K484 nin0).keep K497 nin0).ext E621).other W638 (Or.inl ne627)).other W643 (Or.inl ne627)).ext E648).keep K675 (ninS ne654 nin0)).other W704 (Or.inl ne627))
        have c722 := ((((((((f3_474.keep K484 nin0).keep K497 nin0).ext E621).other W638 (Or.inl ne627)).other W643 (Or.inl ne627)).ext E648).keep K675 (ninS ne654 nin0)).other W704 (Or.inl ne627))
        have c723 := ((((((((f4_474.keep K484 nin0).keep K497 nin0).ext E621).other W638 ne629).other W643 ne629).ext E648).keep K675 (ninS ne656 nin0)).other W704 ne629)
        have c724 := (((((((c495.keep K497 all0).ext E621).wr W638 n0_623).wr W643 n0_623).ext E648).keep K675 (allS n0_650 all0)).wr W704 n0_623)
        refine own_callV (y := (⟨"java/lang/String", "length", "()I"⟩ : MethodName)) (z := (⟨"java/lang/String", "length", "()I"⟩ : MethodName)) (Q := fun v h' L => v = some (.int (Int32.ofNat (cs474).length)) ∧ L = [] ∧ h' = h704) X719 hx hZ hown (w98 hw) (w99 hw) (notFace_of_selects (args := #[]) (mvT hZ (w101 hw))) (w101 hw) (w100 hw) (by decide) (StrChars.Road.lenW (W := 0) hZ (own_wl hw) (kI := 4) (w5 hw) c712 c721 c722 c723 p0_474 p1_474.1 (O2.ext c724.2) P5 p1_474.2 (by decide) (by decide)) e719 c712  (by first | decide | (dsimp only; omega)) (by first | decide | (dsimp only; omega)) (g := (mkF m 179 #[.val (.int s0), .val (.int s1), .val (.int s2), .val (.int mode), .val (.int (0 : Int32)), .val (.int ((1 : Int32) + (((XT.ushr mode (1 : Int32)) &&& (3 : Int32)) % (3 : Int32)))), .val (.ref a474), .val (.ref a484), .val (.ref a497), .val (.ref b621), .val (.ref b648), .val (.ref a474), .val (.ref a474)] [(.ref a474)])) (argsL := []) (rest := []) rfl (by rw [hml]; rfl) (lenOf pd_17 rfl) rfl rfl (by show 2 * 0 + _ ≤ _; exact Nat.le_of_eq rfl) (hb hby at_179) ?_
        rintro _ T725 L725 X725 ⟨rfl, rfl, e725⟩
        have N725q := Fr.nil n0
        have N726 := Fr.app N720 N725q
        show own_Fin p e below _ T725 (mkF m 182 #[.val (.int s0), .val (.int s1), .val (.int s2), .val (.int mode), .val (.int (0 : Int32)), .val (.int ((1 : Int32) + (((XT.ushr mode (1 : Int32)) &&& (3 : Int32)) % (3 : Int32)))), .val (.ref a474), .val (.ref a484), .val (.ref a497), .val (.ref b621), .val (.ref b648), .val (.ref a474), .val (.ref a474)] [(.int (Int32.ofNat (cs474).length))])
        refine own_step (T' := T725) (g' := (mkF m 184 #[.val (.int s0), .val (.int s1), .val (.int s2), .val (.int mode), .val (.int (0 : Int32)), .val (.int ((1 : Int32) + (((XT.ushr mode (1 : Int32)) &&& (3 : Int32)) % (3 : Int32)))), .val (.ref a474), .val (.ref a484), .val (.ref a497), .val (.ref b621), .val (.ref b648), .val (.ref a474), .val (.ref a474)] [(.ref a474), (.int (Int32.ofNat (cs474).length))])) (fun _ q => XS.aload X725.here hx rfl (hb hby at_182) rfl rfl q) ?_
        refine own_callV (y := (⟨"java/lang/String", "length", "()I"⟩ : MethodName)) (z := (⟨"java/lang/String", "length", "()I"⟩ : MethodName)) (Q := fun v h' L => v = some (.int (Int32.ofNat (cs474).length)) ∧ L = [] ∧ h' = h704) X725 hx hZ hown (w98 hw) (w99 hw) (notFace_of_selects (args := #[]) (mvT hZ (w101 hw))) (w101 hw) (w100 hw) (by decide) (StrChars.Road.lenW (W := 1) hZ (own_wl hw) (kI := 4) (w5 hw) c712 c721 c722 c723 p0_474 p1_474.1 (O2.ext c724.2) P5 p1_474.2 (by decide) (by decide)) e725 c712  (by first | decide | (dsimp only; omega)) (by first | decide | (dsimp only; omega)) (g := (mkF m 184 #[.val (.int s0), .val (.int s1), .val (.int s2), .val (.int mode), .val (.int (0 : Int32)), .val (.int ((1 : Int32) + (((XT.ushr mode (1 : Int32)) &&& (3 : Int32)) % (3 : Int32)))), .val (.ref a474), .val (.ref a484), .val (.ref a497), .val (.ref b621), .val (.ref b648), .val (.ref a474), .val (.ref a474)] [(.ref a474), (.int (Int32.ofNat (cs474).length))])) (argsL := []) (rest := [(.int (Int32.ofNat (cs474).length))]) rfl (by rw [hml]; rfl) (lenOf pd_17 rfl) rfl rfl (by show 2 * 0 + _ ≤ _; exact Nat.le_of_eq rfl) (hb hby at_184) ?_
        rintro _ T727 L727 X727 ⟨rfl, rfl, e727⟩
        have N727q := Fr.nil n0
        have N728 := Fr.app N726 N727q
        show own_Fin p e below _ T727 (mkF m 187 #[.val (.int s0), .val (.int s1), .val (.int s2), .val (.int mode), .val (.int (0 : Int32)), .val (.int ((1 : Int32) + (((XT.ushr mode (1 : Int32)) &&& (3 : Int32)) % (3 : Int32)))), .val (.ref a474), .val (.ref a484), .val (.ref a497), .val (.ref b621), .val (.ref b648), .val (.ref a474), .val (.ref a474)] [(.int (Int32.ofNat (cs474).length)), (.int (Int32.ofNat (cs474).length))])
        refine own_step (T' := T727) (g' := (mkF m 190 #[.val (.int s0), .val (.int s1), .val (.int s2), .val (.int mode), .val (.int (0 : Int32)), .val (.int ((1 : Int32) + (((XT.ushr mode (1 : Int32)) &&& (3 : Int32)) % (3 : Int32)))), .val (.ref a474), .val (.ref a484), .val (.ref a497), .val (.ref b621), .val (.ref b648), .val (.ref a474), .val (.ref a474)] [])) (fun _ q => XS.icmpNo X727.here hx rfl (hb hby at_187) rfl (XT.ii_ne_f rfl) q) ?_
        refine own_step (T' := T727) (g' := (mkF m 192 #[.val (.int s0), .val (.int s1), .val (.int s2), .val (.int mode), .val (.int (0 : Int32)), .val (.int ((1 : Int32) + (((XT.ushr mode (1 : Int32)) &&& (3 : Int32)) % (3 : Int32)))), .val (.ref a474), .val (.ref a484), .val (.ref a497), .val (.ref b621), .val (.ref b648), .val (.ref a474), .val (.ref a474)] [(.ref a474)])) (fun _ q => XS.aload X727.here hx rfl (hb hby at_190) rfl rfl q) ?_
        refine own_step (T' := T727) (g' := (mkF m 194 #[.val (.int s0), .val (.int s1), .val (.int s2), .val (.int mode), .val (.int (0 : Int32)), .val (.int ((1 : Int32) + (((XT.ushr mode (1 : Int32)) &&& (3 : Int32)) % (3 : Int32)))), .val (.ref a474), .val (.ref a484), .val (.ref a497), .val (.ref b621), .val (.ref b648), .val (.ref a474), .val (.ref a474)] [(.ref a474), (.ref a474)])) (fun _ q => XS.aload X727.here hx rfl (hb hby at_192) rfl rfl q) ?_
        refine own_callV (y := (⟨"java/lang/String", "equals", "(Ljava/lang/Object;)Z"⟩ : MethodName)) (z := (⟨"java/lang/String", "equals", "(Ljava/lang/Object;)Z"⟩ : MethodName)) X727 hx hZ hown (w93 hw) (w94 hw) (notFace_of_selects (args := #[]) (mvT hZ (w96 hw))) (w96 hw) (w95 hw) (by decide) (backOf (W := 0) (own_eqs l Z a0 hw [] a474 h704 n0 c713 ) hZ (w97 hw) (w6 hw) (Nat.le_of_ble_eq_true rfl) (Nat.le_of_ble_eq_true rfl)) e727 c712  (by first | decide | (dsimp only; omega)) (by first | decide | (dsimp only; omega)) (g := (mkF m 194 #[.val (.int s0), .val (.int s1), .val (.int s2), .val (.int mode), .val (.int (0 : Int32)), .val (.int ((1 : Int32) + (((XT.ushr mode (1 : Int32)) &&& (3 : Int32)) % (3 : Int32)))), .val (.ref a474), .val (.ref a484), .val (.ref a497), .val (.ref b621), .val (.ref b648), .val (.ref a474), .val (.ref a474)] [(.ref a474), (.ref a474)])) (argsL := [(.ref a474)]) (rest := []) rfl (by rw [hml]; rfl) (lenOf pd_16 rfl) rfl rfl (by show 2 * 0 + _ ≤ _; exact Nat.le_of_eq rfl) (hb hby at_194) ?_
        rintro _ T729 L729 X729 ⟨rfl, N729q, e729⟩
        have N730 := Fr.app N728 N729q
        show own_Fin p e below _ T729 (mkF m 197 #[.val (.int s0), .val (.int s1), .val (.int s2), .val (.int mode), .val (.int (0 : Int32)), .val (.int ((1 : Int32) + (((XT.ushr mode (1 : Int32)) &&& (3 : Int32)) % (3 : Int32)))), .val (.ref a474), .val (.ref a484), .val (.ref a497), .val (.ref b621), .val (.ref b648), .val (.ref a474), .val (.ref a474)] [(.int (1 : Int32))])
        refine own_step (T' := T729) (g' := (mkF m 200 #[.val (.int s0), .val (.int s1), .val (.int s2), .val (.int mode), .val (.int (0 : Int32)), .val (.int ((1 : Int32) + (((XT.ushr mode (1 : Int32)) &&& (3 : Int32)) % (3 : Int32)))), .val (.ref a474), .val (.ref a484), .val (.ref a497), .val (.ref b621), .val (.ref b648), .val (.ref a474), .val (.ref a474)] [])) (fun _ q => XS.ifNo X729.here hx rfl (hb hby at_197) rfl (by decide) q) ?_
        refine own_step (T' := T729) (g' := (mkF m 201 #[.val (.int s0), .val (.int s1), .val (.int s2), .val (.int mode), .val (.int (0 : Int32)), .val (.int ((1 : Int32) + (((XT.ushr mode (1 : Int32)) &&& (3 : Int32)) % (3 : Int32)))), .val (.ref a474), .val (.ref a484), .val (.ref a497), .val (.ref b621), .val (.ref b648), .val (.ref a474), .val (.ref a474)] [(.int (1 : Int32))])) (fun _ q => XS.iconst X729.here hx rfl (hb hby at_200) q) ?_
        refine own_step (T' := T729) (g' := (mkF m 205 #[.val (.int s0), .val (.int s1), .val (.int s2), .val (.int mode), .val (.int (0 : Int32)), .val (.int ((1 : Int32) + (((XT.ushr mode (1 : Int32)) &&& (3 : Int32)) % (3 : Int32)))), .val (.ref a474), .val (.ref a484), .val (.ref a497), .val (.ref b621), .val (.ref b648), .val (.ref a474), .val (.ref a474)] [(.int (1 : Int32))])) (fun _ q => XS.goto X729.here hx rfl (pc0 := 201) (pc' := 205) rfl (hb hby at_201) (by decide) (by decide) q) ?_
        have c731 := ((c677.trans K675 (allS (Or.inr sz0_652) all0)).wr W704 (Or.inr sz0_625))
        have c732 := (Nat.le_trans (Nat.le_trans (Nat.le_trans (Nat.le_trans (Nat.le_trans (Nat.le_trans (Nat.le_refl _) E621.1) (Keep.of_wr W638).1) (Keep.of_wr W643).1) E648.1) K675.1) (Keep.of_wr W704).1)
        exact own_retNW X729 hx hZ (own_hEL hw) hS (by rw [e729]; exact c732) (by rw [e729]; exact CH707) Bd.returns (by simp) (hb hby at_205) hlk (by rw [e729]; exact ⟨rfl, N730, c731⟩) (by first | decide | (dsimp only; omega)) (by first | decide | (dsimp only; omega))
      · refine own_step (T' := T497) (g' := (mkF m 103 #[.val (.int s0), .val (.int s1), .val (.int s2), .val (.int mode), .val (.int (0 : Int32)), .val (.int ((1 : Int32) + (((XT.ushr mode (1 : Int32)) &&& (3 : Int32)) % (3 : Int32)))), .val (.ref a474), .val (.ref a484), .val (.ref a497), .unset, .unset, .unset, .unset] [])) (fun _ q => XS.icmpYes X497.here hx rfl (pc0 := 81) (pc' := 103) rfl (hb hby at_81) rfl (XT.ii_ne_t hc620) (by decide) (by decide) q) ?_
        refine own_step (T' := T497) (g' := (mkF m 104 #[.val (.int s0), .val (.int s1), .val (.int s2), .val (.int mode), .val (.int (0 : Int32)), .val (.int ((1 : Int32) + (((XT.ushr mode (1 : Int32)) &&& (3 : Int32)) % (3 : Int32)))), .val (.ref a474), .val (.ref a484), .val (.ref a497), .unset, .unset, .unset, .unset] [(.int (3 : Int32))])) (fun _ q => XS.iconst X497.here hx rfl (hb hby at_103) q) ?_
        obtain ⟨T733, h733, k733, X733, e733, E733, A733, O733, st733⟩ := newR X497 hx hZ hown (w4 hw) (w26 hw) rfl (g := (mkF m 104 #[.val (.int s0), .val (.int s1), .val (.int s2), .val (.int mode), .val (.int (0 : Int32)), .val (.int ((1 : Int32) + (((XT.ushr mode (1 : Int32)) &&& (3 : Int32)) % (3 : Int32)))), .val (.ref a474), .val (.ref a484), .val (.ref a497), .unset, .unset, .unset, .unset] [(.int (3 : Int32))])) rfl (hb hby at_104) rfl (by decide) (cap := 3) (by decide) (by first | decide | omega) (by first | decide | (dsimp only; omega)) (by first | decide | (dsimp only; omega))
        obtain ⟨b733, g733⟩ : ∃ z, z = T497.heap.size := ⟨_, rfl⟩
        rw [← g733] at A733 st733
        have c734 := (Nat.le_trans c496 K497.1)
        have n0_735 : n0 ≤ b733 := Nat.le_trans c734 (Nat.le_of_eq g733.symm)
        have c736 := (c499.trans K497 all0)
        have sz0_737 := Nat.le_trans c736.1 (Nat.le_of_eq g733.symm)
        have c738 := (own_lt c501 K497.1)
        have ne739 : a474 ≠ b733 := own_ne c738 (Nat.le_of_eq g733.symm)
        have c740 := (own_lt c503 K497.1)
        have ne741 : t474 ≠ b733 := own_ne c740 (Nat.le_of_eq g733.symm)
        have c742 := (own_lt lt492 K497.1)
        have ne743 : a484 ≠ b733 := own_ne c742 (Nat.le_of_eq g733.symm)
        have c744 := (own_lt lt493 K497.1)
        have ne745 : t484 ≠ b733 := own_ne c744 (Nat.le_of_eq g733.symm)
        have ne746 : a497 ≠ b733 := own_ne lt509 (Nat.le_of_eq g733.symm)
        have ne747 : t497 ≠ b733 := own_ne lt510 (Nat.le_of_eq g733.symm)
        have sf748 : Safe Z own_EL _ _ b733 := Safe.new (EL := own_EL) (Z := Z) (vm := T497.vm) (Nat.le_of_eq g733.symm)
        have CH749 := CH508.trans (CHr.ext E733 CH508.1)
        have V733 : Arv Z h733 b733 k733 (.object "java/lang/String") (3 : Int32) [.null, .null, .null] .null := (Arv.new A733 (by decide)).pad (pad_rep [] .null 3)
        have ltb733 := V733.lt
        refine own_step (T' := T733) (g' := (mkF m 107 #[.val (.int s0), .val (.int s1), .val (.int s2), .val (.int mode), .val (.int (0 : Int32)), .val (.int ((1 : Int32) + (((XT.ushr mode (1 : Int32)) &&& (3 : Int32)) % (3 : Int32)))), .val (.ref a474), .val (.ref a484), .val (.ref a497), .unset, .unset, .unset, .unset] [(.ref b733)])) st733 ?_
        refine own_step (T' := T733) (g' := (mkF m 108 #[.val (.int s0), .val (.int s1), .val (.int s2), .val (.int mode), .val (.int (0 : Int32)), .val (.int ((1 : Int32) + (((XT.ushr mode (1 : Int32)) &&& (3 : Int32)) % (3 : Int32)))), .val (.ref a474), .val (.ref a484), .val (.ref a497), .unset, .unset, .unset, .unset] [(.ref b733), (.ref b733)])) (fun _ q => XS.dup X733.here hx rfl (hb hby at_107) rfl rfl q) ?_
        refine own_step (T' := T733) (g' := (mkF m 109 #[.val (.int s0), .val (.int s1), .val (.int s2), .val (.int mode), .val (.int (0 : Int32)), .val (.int ((1 : Int32) + (((XT.ushr mode (1 : Int32)) &&& (3 : Int32)) % (3 : Int32)))), .val (.ref a474), .val (.ref a484), .val (.ref a497), .unset, .unset, .unset, .unset] [(.int (0 : Int32)), (.ref b733), (.ref b733)])) (fun _ q => XS.iconst X733.here hx rfl (hb hby at_108) q) ?_
        refine own_step (T' := T733) (g' := (mkF m 111 #[.val (.int s0), .val (.int s1), .val (.int s2), .val (.int mode), .val (.int (0 : Int32)), .val (.int ((1 : Int32) + (((XT.ushr mode (1 : Int32)) &&& (3 : Int32)) % (3 : Int32)))), .val (.ref a474), .val (.ref a484), .val (.ref a497), .unset, .unset, .unset, .unset] [(.ref a474), (.int (0 : Int32)), (.ref b733), (.ref b733)])) (fun _ q => XS.aload X733.here hx rfl (hb hby at_109) rfl rfl q) ?_
        have c751 := (((f1_474.keep K484).keep K497).ext E733)
        obtain ⟨T750, h750, X750, e750, W750, V750, st750⟩ := own_stR X733 hx hZ e733 V733 rfl rfl (fun _ A q => Sto.ofV A q O733 (Ins.self c751)) (j := (0 : Int32)) ⟨by decide, by decide⟩ (i := 0) rfl (Nat.le_of_ble_eq_true rfl) (g := (mkF m 111 #[.val (.int s0), .val (.int s1), .val (.int s2), .val (.int mode), .val (.int (0 : Int32)), .val (.int ((1 : Int32) + (((XT.ushr mode (1 : Int32)) &&& (3 : Int32)) % (3 : Int32)))), .val (.ref a474), .val (.ref a484), .val (.ref a497), .unset, .unset, .unset, .unset] [(.ref a474), (.int (0 : Int32)), (.ref b733), (.ref b733)])) rfl rfl (hb hby at_111)
        replace V750 : Arv Z h750 b733 k733 (.object "java/lang/String") (3 : Int32) [(.ref a474), .null, .null] .null := V750
        have N752 := Fr.snoc X750 N511 n0_735
        have c754 := (Safe.ext E733 CH508.1 sf748)
        have CH753 := CH749.trans (CHr.wr W750 c754 CH749.1)
        refine own_step (T' := T750) (g' := (mkF m 112 #[.val (.int s0), .val (.int s1), .val (.int s2), .val (.int mode), .val (.int (0 : Int32)), .val (.int ((1 : Int32) + (((XT.ushr mode (1 : Int32)) &&& (3 : Int32)) % (3 : Int32)))), .val (.ref a474), .val (.ref a484), .val (.ref a497), .unset, .unset, .unset, .unset] [(.ref b733)])) st750 ?_
        refine own_step (T' := T750) (g' := (mkF m 113 #[.val (.int s0), .val (.int s1), .val (.int s2), .val (.int mode), .val (.int (0 : Int32)), .val (.int ((1 : Int32) + (((XT.ushr mode (1 : Int32)) &&& (3 : Int32)) % (3 : Int32)))), .val (.ref a474), .val (.ref a484), .val (.ref a497), .unset, .unset, .unset, .unset] [(.ref b733), (.ref b733)])) (fun _ q => XS.dup X750.here hx rfl (hb hby at_112) rfl rfl q) ?_
        refine own_step (T' := T750) (g' := (mkF m 114 #[.val (.int s0), .val (.int s1), .val (.int s2), .val (.int mode), .val (.int (0 : Int32)), .val (.int ((1 : Int32) + (((XT.ushr mode (1 : Int32)) &&& (3 : Int32)) % (3 : Int32)))), .val (.ref a474), .val (.ref a484), .val (.ref a497), .unset, .unset, .unset, .unset] [(.int (1 : Int32)), (.ref b733), (.ref b733)])) (fun _ q => XS.iconst X750.here hx rfl (hb hby at_113) q) ?_
        refine own_step (T' := T750) (g' := (mkF m 116 #[.val (.int s0), .val (.int s1), .val (.int s2), .val (.int mode), .val (.int (0 : Int32)), .val (.int ((1 : Int32) + (((XT.ushr mode (1 : Int32)) &&& (3 : Int32)) % (3 : Int32)))), .val (.ref a474), .val (.ref a484), .val (.ref a497), .unset, .unset, .unset, .unset] [(.ref a484), (.int (1 : Int32)), (.ref b733), (.ref b733)])) (fun _ q => XS.aload X750.here hx rfl (hb hby at_114) rfl rfl q) ?_
        have c756 := (((f1_484.keep K497).ext E733).wr W750)
        obtain ⟨T755, h755, X755, e755, W755, V755, st755⟩ := own_stR X750 hx hZ e750 V750 rfl rfl (fun _ A q => Sto.ofV A q O733 (Ins.self c756)) (j := (1 : Int32)) ⟨by decide, by decide⟩ (i := 1) rfl (Nat.le_of_ble_eq_true rfl) (g := (mkF m 116 #[.val (.int s0), .val (.int s1), .val (.int s2), .val (.int mode), .val (.int (0 : Int32)), .val (.int ((1 : Int32) + (((XT.ushr mode (1 : Int32)) &&& (3 : Int32)) % (3 : Int32)))), .val (.ref a474), .val (.ref a484), .val (.ref a497), .unset, .unset, .unset, .unset] [(.ref a484), (.int (1 : Int32)), (.ref b733), (.ref b733)])) rfl rfl (hb hby at_116)
        replace V755 : Arv Z h755 b733 k733 (.object "java/lang/String") (3 : Int32) [(.ref a474), (.ref a484), .null] .null := V755
        have N757 := Fr.snoc X755 N752 n0_735
        have c759 := (Safe.wr W750 c754 CH749.1 c754)
        have CH758 := CH753.trans (CHr.wr W755 c759 CH753.1)
        refine own_step (T' := T755) (g' := (mkF m 117 #[.val (.int s0), .val (.int s1), .val (.int s2), .val (.int mode), .val (.int (0 : Int32)), .val (.int ((1 : Int32) + (((XT.ushr mode (1 : Int32)) &&& (3 : Int32)) % (3 : Int32)))), .val (.ref a474), .val (.ref a484), .val (.ref a497), .unset, .unset, .unset, .unset] [(.ref b733)])) st755 ?_
        refine own_step (T' := T755) (g' := (mkF m 118 #[.val (.int s0), .val (.int s1), .val (.int s2), .val (.int mode), .val (.int (0 : Int32)), .val (.int ((1 : Int32) + (((XT.ushr mode (1 : Int32)) &&& (3 : Int32)) % (3 : Int32)))), .val (.ref a474), .val (.ref a484), .val (.ref a497), .unset, .unset, .unset, .unset] [(.ref b733), (.ref b733)])) (fun _ q => XS.dup X755.here hx rfl (hb hby at_117) rfl rfl q) ?_
        refine own_step (T' := T755) (g' := (mkF m 119 #[.val (.int s0), .val (.int s1), .val (.int s2), .val (.int mode), .val (.int (0 : Int32)), .val (.int ((1 : Int32) + (((XT.ushr mode (1 : Int32)) &&& (3 : Int32)) % (3 : Int32)))), .val (.ref a474), .val (.ref a484), .val (.ref a497), .unset, .unset, .unset, .unset] [(.int (2 : Int32)), (.ref b733), (.ref b733)])) (fun _ q => XS.iconst X755.here hx rfl (hb hby at_118) q) ?_
        refine own_step (T' := T755) (g' := (mkF m 121 #[.val (.int s0), .val (.int s1), .val (.int s2), .val (.int mode), .val (.int (0 : Int32)), .val (.int ((1 : Int32) + (((XT.ushr mode (1 : Int32)) &&& (3 : Int32)) % (3 : Int32)))), .val (.ref a474), .val (.ref a484), .val (.ref a497), .unset, .unset, .unset, .unset] [(.ref a497), (.int (2 : Int32)), (.ref b733), (.ref b733)])) (fun _ q => XS.aload X755.here hx rfl (hb hby at_119) rfl rfl q) ?_
        have c761 := (((f1_497.ext E733).wr W750).wr W755)
        obtain ⟨T760, h760, X760, e760, W760, V760, st760⟩ := own_stR X755 hx hZ e755 V755 rfl rfl (fun _ A q => Sto.ofV A q O733 (Ins.self c761)) (j := (2 : Int32)) ⟨by decide, by decide⟩ (i := 2) rfl (Nat.le_of_ble_eq_true rfl) (g := (mkF m 121 #[.val (.int s0), .val (.int s1), .val (.int s2), .val (.int mode), .val (.int (0 : Int32)), .val (.int ((1 : Int32) + (((XT.ushr mode (1 : Int32)) &&& (3 : Int32)) % (3 : Int32)))), .val (.ref a474), .val (.ref a484), .val (.ref a497), .unset, .unset, .unset, .unset] [(.ref a497), (.int (2 : Int32)), (.ref b733), (.ref b733)])) rfl rfl (hb hby at_121)
        replace V760 : Arv Z h760 b733 k733 (.object "java/lang/String") (3 : Int32) [(.ref a474), (.ref a484), (.ref a497)] .null := V760
        have N762 := Fr.snoc X760 N757 n0_735
        have c764 := (Safe.wr W755 c759 CH753.1 c759)
        have CH763 := CH758.trans (CHr.wr W760 c764 CH758.1)
        refine own_step (T' := T760) (g' := (mkF m 122 #[.val (.int s0), .val (.int s1), .val (.int s2), .val (.int mode), .val (.int (0 : Int32)), .val (.int ((1 : Int32) + (((XT.ushr mode (1 : Int32)) &&& (3 : Int32)) % (3 : Int32)))), .val (.ref a474), .val (.ref a484), .val (.ref a497), .unset, .unset, .unset, .unset] [(.ref b733)])) st760 ?_
        refine own_step (T' := T760) (g' := (mkF m 124 #[.val (.int s0), .val (.int s1), .val (.int s2), .val (.int mode), .val (.int (0 : Int32)), .val (.int ((1 : Int32) + (((XT.ushr mode (1 : Int32)) &&& (3 : Int32)) % (3 : Int32)))), .val (.ref a474), .val (.ref a484), .val (.ref a497), .val (.ref b733), .unset, .unset, .unset] [])) (fun _ q => XS.astore X760.here hx rfl (hb hby at_122) rfl rfl (l' := #[.val (.int s0), .val (.int s1), .val (.int s2), .val (.int mode), .val (.int (0 : Int32)), .val (.int ((1 : Int32) + (((XT.ushr mode (1 : Int32)) &&& (3 : Int32)) % (3 : Int32)))), .val (.ref a474), .val (.ref a484), .val (.ref a497), .val (.ref b733), .unset, .unset, .unset]) rfl q) ?_
        obtain ⟨T765, h765, X765, e765, E765, A765, D765, -, st765⟩ := newO X760 hx hZ hown (w27 hw) (w28 hw) (w29 hw) e760 (g := (mkF m 124 #[.val (.int s0), .val (.int s1), .val (.int s2), .val (.int mode), .val (.int (0 : Int32)), .val (.int ((1 : Int32) + (((XT.ushr mode (1 : Int32)) &&& (3 : Int32)) % (3 : Int32)))), .val (.ref a474), .val (.ref a484), .val (.ref a497), .val (.ref b733), .unset, .unset, .unset] [])) rfl (hb hby at_124) (by first | decide | (dsimp only; omega)) (by first | decide | (dsimp only; omega))
        obtain ⟨b765, g765⟩ : ∃ z, z = h760.size := ⟨_, rfl⟩
        rw [← g765] at A765 D765 st765
        have c766 := (Nat.le_trans (Nat.le_trans (Nat.le_trans (Nat.le_trans c734 E733.1) (Keep.of_wr W750).1) (Keep.of_wr W755).1) (Keep.of_wr W760).1)
        have n0_767 : n0 ≤ b765 := Nat.le_trans c766 (Nat.le_of_eq g765.symm)
        have c768 := ((((c736.ext E733).wr W750 (Or.inr sz0_737)).wr W755 (Or.inr sz0_737)).wr W760 (Or.inr sz0_737))
        have sz0_769 := Nat.le_trans c768.1 (Nat.le_of_eq g765.symm)
        have c770 := (own_lt (own_lt (own_lt (own_lt c738 E733.1) (Keep.of_wr W750).1) (Keep.of_wr W755).1) (Keep.of_wr W760).1)
        have ne771 : a474 ≠ b765 := own_ne c770 (Nat.le_of_eq g765.symm)
        have c772 := (own_lt (own_lt (own_lt (own_lt c740 E733.1) (Keep.of_wr W750).1) (Keep.of_wr W755).1) (Keep.of_wr W760).1)
        have ne773 : t474 ≠ b765 := own_ne c772 (Nat.le_of_eq g765.symm)
        have c774 := (own_lt (own_lt (own_lt (own_lt c742 E733.1) (Keep.of_wr W750).1) (Keep.of_wr W755).1) (Keep.of_wr W760).1)
        have ne775 : a484 ≠ b765 := own_ne c774 (Nat.le_of_eq g765.symm)
        have c776 := (own_lt (own_lt (own_lt (own_lt c744 E733.1) (Keep.of_wr W750).1) (Keep.of_wr W755).1) (Keep.of_wr W760).1)
        have ne777 : t484 ≠ b765 := own_ne c776 (Nat.le_of_eq g765.symm)
        have c778 := (own_lt (own_lt (own_lt (own_lt lt509 E733.1) (Keep.of_wr W750).1) (Keep.of_wr W755).1) (Keep.of_wr W760).1)
        have ne779 : a497 ≠ b765 := own_ne c778 (Nat.le_of_eq g765.symm)
        have c780 := (own_lt (own_lt (own_lt (own_lt lt510 E733.1) (Keep.of_wr W750).1) (Keep.of_wr W755).1) (Keep.of_wr W760).1)
        have ne781 : t497 ≠ b765 := own_ne c780 (Nat.le_of_eq g765.symm)
        have c782 := (own_lt (own_lt (own_lt ltb733 (Keep.of_wr W750).1) (Keep.of_wr W755).1) (Keep.of_wr W760).1)
        have ne783 : b733 ≠ b765 := own_ne c782 (Nat.le_of_eq g765.symm)
        have sf784 : Safe Z own_EL _ _ b765 := Safe.new (EL := own_EL) (Z := Z) (vm := T497.vm) (Nat.le_of_eq g765.symm)
        have CH785 := CH763.trans (CHr.ext E765 CH763.1)
        have ltb765 := A765.lt
        have F786 : Fld Z h765 b765 "com/example/gangway/gangway/tool/CommandLine$Option" "repeatable" "Z" (.int (0 : Int32)) := D765 (Or.inr (w35 hw)) (ty := .boolean) (by decide)
        have F787 : Fld Z h765 b765 "com/example/gangway/gangway/tool/CommandLine$Option" "spellings" "Ljava/util/List;" .null := D765 (Or.inr (w77 hw)) (ty := (.object "java/util/List")) (by decide)
        refine own_step (T' := T765) (g' := (mkF m 127 #[.val (.int s0), .val (.int s1), .val (.int s2), .val (.int mode), .val (.int (0 : Int32)), .val (.int ((1 : Int32) + (((XT.ushr mode (1 : Int32)) &&& (3 : Int32)) % (3 : Int32)))), .val (.ref a474), .val (.ref a484), .val (.ref a497), .val (.ref b733), .unset, .unset, .unset] [(.ref b765)])) st765 ?_
        refine own_step (T' := T765) (g' := (mkF m 128 #[.val (.int s0), .val (.int s1), .val (.int s2), .val (.int mode), .val (.int (0 : Int32)), .val (.int ((1 : Int32) + (((XT.ushr mode (1 : Int32)) &&& (3 : Int32)) % (3 : Int32)))), .val (.ref a474), .val (.ref a484), .val (.ref a497), .val (.ref b733), .unset, .unset, .unset] [(.ref b765), (.ref b765)])) (fun _ q => XS.dup X765.here hx rfl (hb hby at_127) rfl rfl q) ?_
        refine own_step (T' := T765) (g' := (mkF m 130 #[.val (.int s0), .val (.int s1), .val (.int s2), .val (.int mode), .val (.int (0 : Int32)), .val (.int ((1 : Int32) + (((XT.ushr mode (1 : Int32)) &&& (3 : Int32)) % (3 : Int32)))), .val (.ref a474), .val (.ref a484), .val (.ref a497), .val (.ref b733), .unset, .unset, .unset] [(.int (0 : Int32)), (.ref b765), (.ref b765)])) (fun _ q => XS.iload X765.here hx rfl (hb hby at_128) rfl q) ?_
        refine own_step (T' := T765) (g' := (mkF m 132 #[.val (.int s0), .val (.int s1), .val (.int s2), .val (.int mode), .val (.int (0 : Int32)), .val (.int ((1 : Int32) + (((XT.ushr mode (1 : Int32)) &&& (3 : Int32)) % (3 : Int32)))), .val (.ref a474), .val (.ref a484), .val (.ref a497), .val (.ref b733), .unset, .unset, .unset] [(.ref b733), (.int (0 : Int32)), (.ref b765), (.ref b765)])) (fun _ q => XS.aload X765.here hx rfl (hb hby at_130) rfl rfl q) ?_
        have c788 := (V760.ext E765)
        have c789 := ((((c751.wr W750).wr W755).wr W760).ext E765)
        have c790 := (((c756.wr W755).wr W760).ext E765)
        have c791 := ((c761.wr W760).ext E765)
        have c792 := (Nat.le_trans c766 E765.1)
        refine own_callC X765 hx hZ hown rfl (w30 hw) (w31 hw) (w32 hw) (by decide) (backOf (W := 1) (own_opt3 l Z a0 hw [] b765 (0 : Int32) b733 k733 a474 a484 a497 h765 n0 c792 A765 n0_767 F786 F787 c788 c789 c790 c791) hZ (w32 hw) (w29 hw) (Nat.le_of_ble_eq_true rfl) (Nat.le_of_ble_eq_true rfl)) e765  (by first | decide | (dsimp only; omega)) (by first | decide | (dsimp only; omega)) (g := (mkF m 132 #[.val (.int s0), .val (.int s1), .val (.int s2), .val (.int mode), .val (.int (0 : Int32)), .val (.int ((1 : Int32) + (((XT.ushr mode (1 : Int32)) &&& (3 : Int32)) % (3 : Int32)))), .val (.ref a474), .val (.ref a484), .val (.ref a497), .val (.ref b733), .unset, .unset, .unset] [(.ref b733), (.int (0 : Int32)), (.ref b765), (.ref b765)])) (argsL := [(.int (0 : Int32)), (.ref b733)]) (rest := [(.ref b765)]) rfl (by rw [hml]; rfl) (lenOf pd_14 rfl) rfl rfl (by show 2 * 0 + _ ≤ _; exact Nat.le_of_eq rfl) (hb hby at_132) ?_
        rintro _ T793 L793 X793 ⟨lst793, t793, kt793, rfl, N793q, K793, f0_793, f1_793, f2_793, f3_793, f4_793, f5_793, f6_793⟩
        have n0_794 : n0 ≤ lst793 := Nat.le_trans c792 f0_793
        have c795 := (c768.ext E765)
        have sz0_796 := Nat.le_trans c795.1 f0_793
        have c797 := (own_lt c770 E765.1)
        have ne798 : a474 ≠ lst793 := own_ne c797 f0_793
        have c799 := (own_lt c772 E765.1)
        have ne800 : t474 ≠ lst793 := own_ne c799 f0_793
        have c801 := (own_lt c774 E765.1)
        have ne802 : a484 ≠ lst793 := own_ne c801 f0_793
        have c803 := (own_lt c776 E765.1)
        have ne804 : t484 ≠ lst793 := own_ne c803 f0_793
        have c805 := (own_lt c778 E765.1)
        have ne806 : a497 ≠ lst793 := own_ne c805 f0_793
        have c807 := (own_lt c780 E765.1)
        have ne808 : t497 ≠ lst793 := own_ne c807 f0_793
        have c809 := (own_lt c782 E765.1)
        have ne810 : b733 ≠ lst793 := own_ne c809 f0_793
        have ne811 : b765 ≠ lst793 := own_ne ltb765 f0_793
        have sf812 : Safe Z own_EL _ _ lst793 := Safe.new (EL := own_EL) (Z := Z) (vm := T497.vm) f0_793
        have n0_813 : n0 ≤ t793 := Nat.le_trans c792 f3_793
        have sz0_814 := Nat.le_trans c795.1 f3_793
        have ne815 : a474 ≠ t793 := own_ne c797 f3_793
        have ne816 : t474 ≠ t793 := own_ne c799 f3_793
        have ne817 : a484 ≠ t793 := own_ne c801 f3_793
        have ne818 : t484 ≠ t793 := own_ne c803 f3_793
        have ne819 : a497 ≠ t793 := own_ne c805 f3_793
        have ne820 : t497 ≠ t793 := own_ne c807 f3_793
        have ne821 : b733 ≠ t793 := own_ne c809 f3_793
        have ne822 : b765 ≠ t793 := own_ne ltb765 f3_793
        have sf823 : Safe Z own_EL _ _ t793 := Safe.new (EL := own_EL) (Z := Z) (vm := T497.vm) f3_793
        have c825 := (Safe.ext E765 CH763.1 sf784)
        have CH824 := CH785.trans (CHr.keep K793 (sfS c825 sf0) CH785.1)
        have lt826 := f4_793.lt
        have lt827 := f6_793.lt
        have N828 := Fr.app N762 N793q
        show own_Fin p e below _ T793 (mkF m 135 #[.val (.int s0), .val (.int s1), .val (.int s2), .val (.int mode), .val (.int (0 : Int32)), .val (.int ((1 : Int32) + (((XT.ushr mode (1 : Int32)) &&& (3 : Int32)) % (3 : Int32)))), .val (.ref a474), .val (.ref a484), .val (.ref a497), .val (.ref b733), .unset, .unset, .unset] [(.ref b765)])
        refine own_step (T' := T793) (g' := (mkF m 137 #[.val (.int s0), .val (.int s1), .val (.int s2), .val (.int mode), .val (.int (0 : Int32)), .val (.int ((1 : Int32) + (((XT.ushr mode (1 : Int32)) &&& (3 : Int32)) % (3 : Int32)))), .val (.ref a474), .val (.ref a484), .val (.ref a497), .val (.ref b733), .val (.ref b765), .unset, .unset] [])) (fun _ q => XS.astore X793.here hx rfl (hb hby at_135) rfl rfl (l' := #[.val (.int s0), .val (.int s1), .val (.int s2), .val (.int mode), .val (.int (0 : Int32)), .val (.int ((1 : Int32) + (((XT.ushr mode (1 : Int32)) &&& (3 : Int32)) % (3 : Int32)))), .val (.ref a474), .val (.ref a484), .val (.ref a497), .val (.ref b733), .val (.ref b765), .unset, .unset]) rfl q) ?_
        refine own_step (T' := T793) (g' := (mkF m 139 #[.val (.int s0), .val (.int s1), .val (.int s2), .val (.int mode), .val (.int (0 : Int32)), .val (.int ((1 : Int32) + (((XT.ushr mode (1 : Int32)) &&& (3 : Int32)) % (3 : Int32)))), .val (.ref a474), .val (.ref a484), .val (.ref a497), .val (.ref b733), .val (.ref b765), .unset, .unset] [(.ref b765)])) (fun _ q => XS.aload X793.here hx rfl (hb hby at_137) rfl rfl q) ?_
        have c829 := (c789.keep K793)
        have c830 := (Nat.le_trans c792 K793.1)
        refine own_callV (y := (⟨"com/example/gangway/gangway/tool/CommandLine$Option", "name", "()Ljava/lang/String;"⟩ : MethodName)) (z := (⟨"com/example/gangway/gangway/tool/CommandLine$Option", "name", "()Ljava/lang/String;"⟩ : MethodName)) X793 hx hZ hown (w78 hw) (w79 hw) (notFace_of_selects (args := #[]) (mvT hZ (w81 hw))) (w81 hw) (w80 hw) (by decide) (backOf (W := 0) (own_nmn l Z a0 hw [] b765 lst793 t793 kt793 a474 a484 a497 T793.heap n0 c830 f2_793 f4_793 f5_793 f6_793 c829) hZ (w82 hw) (w29 hw) (Nat.le_of_ble_eq_true rfl) (Nat.le_of_ble_eq_true rfl)) rfl f1_793  (by first | decide | (dsimp only; omega)) (by first | decide | (dsimp only; omega)) (g := (mkF m 139 #[.val (.int s0), .val (.int s1), .val (.int s2), .val (.int mode), .val (.int (0 : Int32)), .val (.int ((1 : Int32) + (((XT.ushr mode (1 : Int32)) &&& (3 : Int32)) % (3 : Int32)))), .val (.ref a474), .val (.ref a484), .val (.ref a497), .val (.ref b733), .val (.ref b765), .unset, .unset] [(.ref b765)])) (argsL := []) (rest := []) rfl (by rw [hml]; rfl) (lenOf pd_15 rfl) rfl rfl (by show 2 * 0 + _ ≤ _; exact Nat.le_of_eq rfl) (hb hby at_139) ?_
        rintro _ T831 L831 X831 ⟨rfl, N831q, e831⟩
        have N832 := Fr.app N828 N831q
        show own_Fin p e below _ T831 (mkF m 142 #[.val (.int s0), .val (.int s1), .val (.int s2), .val (.int mode), .val (.int (0 : Int32)), .val (.int ((1 : Int32) + (((XT.ushr mode (1 : Int32)) &&& (3 : Int32)) % (3 : Int32)))), .val (.ref a474), .val (.ref a484), .val (.ref a497), .val (.ref b733), .val (.ref b765), .unset, .unset] [(.ref a474)])
        refine own_step (T' := T831) (g' := (mkF m 144 #[.val (.int s0), .val (.int s1), .val (.int s2), .val (.int mode), .val (.int (0 : Int32)), .val (.int ((1 : Int32) + (((XT.ushr mode (1 : Int32)) &&& (3 : Int32)) % (3 : Int32)))), .val (.ref a474), .val (.ref a484), .val (.ref a497), .val (.ref b733), .val (.ref b765), .val (.ref a474), .unset] [])) (fun _ q => XS.astore X831.here hx rfl (hb hby at_142) rfl rfl (l' := #[.val (.int s0), .val (.int s1), .val (.int s2), .val (.int mode), .val (.int (0 : Int32)), .val (.int ((1 : Int32) + (((XT.ushr mode (1 : Int32)) &&& (3 : Int32)) % (3 : Int32)))), .val (.ref a474), .val (.ref a484), .val (.ref a497), .val (.ref b733), .val (.ref b765), .val (.ref a474), .unset]) rfl q) ?_
        refine own_step (T' := T831) (g' := (mkF m 146 #[.val (.int s0), .val (.int s1), .val (.int s2), .val (.int mode), .val (.int (0 : Int32)), .val (.int ((1 : Int32) + (((XT.ushr mode (1 : Int32)) &&& (3 : Int32)) % (3 : Int32)))), .val (.ref a474), .val (.ref a484), .val (.ref a497), .val (.ref b733), .val (.ref b765), .val (.ref a474), .unset] [(.ref b733)])) (fun _ q => XS.aload X831.here hx rfl (hb hby at_144) rfl rfl q) ?_
        refine own_step (T' := T831) (g' := (mkF m 147 #[.val (.int s0), .val (.int s1), .val (.int s2), .val (.int mode), .val (.int (0 : Int32)), .val (.int ((1 : Int32) + (((XT.ushr mode (1 : Int32)) &&& (3 : Int32)) % (3 : Int32)))), .val (.ref a474), .val (.ref a484), .val (.ref a497), .val (.ref b733), .val (.ref b765), .val (.ref a474), .unset] [(.int (0 : Int32)), (.ref b733)])) (fun _ q => XS.iconst X831.here hx rfl (hb hby at_146) q) ?_
        refine own_step (T' := T831) (g' := (mkF m 149 #[.val (.int s0), .val (.int s1), .val (.int s2), .val (.int mode), .val (.int (0 : Int32)), .val (.int ((1 : Int32) + (((XT.ushr mode (1 : Int32)) &&& (3 : Int32)) % (3 : Int32)))), .val (.ref a474), .val (.ref a484), .val (.ref a497), .val (.ref b733), .val (.ref b765), .val (.ref a474), .unset] [(.ref a484), (.int (0 : Int32)), (.ref b733)])) (fun _ q => XS.aload X831.here hx rfl (hb hby at_147) rfl rfl q) ?_
        have c833 := (c788.keep K793 (ninS ne783 nin0))
        have c835 := (c790.keep K793)
        obtain ⟨T834, h834, X834, e834, W834, V834, st834⟩ := own_stR X831 hx hZ e831 c833 rfl rfl (fun _ A q => Sto.ofV A q O733 (Ins.self c835)) (j := (0 : Int32)) ⟨by decide, by decide⟩ (i := 0) rfl (Nat.le_of_ble_eq_true rfl) (g := (mkF m 149 #[.val (.int s0), .val (.int s1), .val (.int s2), .val (.int mode), .val (.int (0 : Int32)), .val (.int ((1 : Int32) + (((XT.ushr mode (1 : Int32)) &&& (3 : Int32)) % (3 : Int32)))), .val (.ref a474), .val (.ref a484), .val (.ref a497), .val (.ref b733), .val (.ref b765), .val (.ref a474), .unset] [(.ref a484), (.int (0 : Int32)), (.ref b733)])) rfl rfl (hb hby at_149)
        replace V834 : Arv Z h834 b733 k733 (.object "java/lang/String") (3 : Int32) [(.ref a484), (.ref a484), (.ref a497)] .null := V834
        have N836 := Fr.snoc X834 N832 n0_735
        have c838 := (Safe.keep K793 (sfS c825 sf0) CH785.1 (Safe.ext E765 CH763.1 (Safe.wr W760 c764 CH758.1 c764)))
        have CH837 := CH824.trans (CHr.wr W834 c838 CH824.1)
        refine own_step (T' := T834) (g' := (mkF m 150 #[.val (.int s0), .val (.int s1), .val (.int s2), .val (.int mode), .val (.int (0 : Int32)), .val (.int ((1 : Int32) + (((XT.ushr mode (1 : Int32)) &&& (3 : Int32)) % (3 : Int32)))), .val (.ref a474), .val (.ref a484), .val (.ref a497), .val (.ref b733), .val (.ref b765), .val (.ref a474), .unset] [])) st834 ?_
        refine own_step (T' := T834) (g' := (mkF m 152 #[.val (.int s0), .val (.int s1), .val (.int s2), .val (.int mode), .val (.int (0 : Int32)), .val (.int ((1 : Int32) + (((XT.ushr mode (1 : Int32)) &&& (3 : Int32)) % (3 : Int32)))), .val (.ref a474), .val (.ref a484), .val (.ref a497), .val (.ref b733), .val (.ref b765), .val (.ref a474), .unset] [(.ref b765)])) (fun _ q => XS.aload X834.here hx rfl (hb hby at_150) rfl rfl q) ?_
        have c839 := (f2_793.other W834 (Or.inl (Ne.symm ne783)))
        have c840 := (f4_793.wr W834)
        have c841 := (f5_793.other W834 (Or.inl (Ne.symm ne810)))
        have c842 := (f6_793.other W834 (Ne.symm ne821))
        have c843 := (c829.wr W834)
        have c844 := (Nat.le_trans c830 (Keep.of_wr W834).1)
        have c846 := (f1_793.wr W834)
        refine own_callV (y := (⟨"com/example/gangway/gangway/tool/CommandLine$Option", "name", "()Ljava/lang/String;"⟩ : MethodName)) (z := (⟨"com/example/gangway/gangway/tool/CommandLine$Option", "name", "()Ljava/lang/String;"⟩ : MethodName)) X834 hx hZ hown (w78 hw) (w79 hw) (notFace_of_selects (args := #[]) (mvT hZ (w81 hw))) (w81 hw) (w80 hw) (by decide) (backOf (W := 0) (own_nmn l Z a0 hw [] b765 lst793 t793 kt793 a474 a484 a497 h834 n0 c844 c839 c840 c841 c842 c843) hZ (w82 hw) (w29 hw) (Nat.le_of_ble_eq_true rfl) (Nat.le_of_ble_eq_true rfl)) e834 c846  (by first | decide | (dsimp only; omega)) (by first | decide | (dsimp only; omega)) (g := (mkF m 152 #[.val (.int s0), .val (.int s1), .val (.int s2), .val (.int mode), .val (.int (0 : Int32)), .val (.int ((1 : Int32) + (((XT.ushr mode (1 : Int32)) &&& (3 : Int32)) % (3 : Int32)))), .val (.ref a474), .val (.ref a484), .val (.ref a497), .val (.ref b733), .val (.ref b765), .val (.ref a474), .unset] [(.ref b765)])) (argsL := []) (rest := []) rfl (by rw [hml]; rfl) (lenOf pd_15 rfl) rfl rfl (by show 2 * 0 + _ ≤ _; exact Nat.le_of_eq rfl) (hb hby at_152) ?_
        rintro _ T845 L845 X845 ⟨rfl, N845q, e845⟩
        have N847 := Fr.app N836 N845q
        show own_Fin p e below _ T845 (mkF m 155 #[.val (.int s0), .val (.int s1), .val (.int s2), .val (.int mode), .val (.int (0 : Int32)), .val (.int ((1 : Int32) + (((XT.ushr mode (1 : Int32)) &&& (3 : Int32)) % (3 : Int32)))), .val (.ref a474), .val (.ref a484), .val (.ref a497), .val (.ref b733), .val (.ref b765), .val (.ref a474), .unset] [(.ref a474)])
        refine own_step (T' := T845) (g' := (mkF m 157 #[.val (.int s0), .val (.int s1), .val (.int s2), .val (.int mode), .val (.int (0 : Int32)), .val (.int ((1 : Int32) + (((XT.ushr mode (1 : Int32)) &&& (3 : Int32)) % (3 : Int32)))), .val (.ref a474), .val (.ref a484), .val (.ref a497), .val (.ref b733), .val (.ref b765), .val (.ref a474), .val (.ref a474)] [])) (fun _ q => XS.astore X845.here hx rfl (hb hby at_155) rfl rfl (l' := #[.val (.int s0), .val (.int s1), .val (.int s2), .val (.int mode), .val (.int (0 : Int32)), .val (.int ((1 : Int32) + (((XT.ushr mode (1 : Int32)) &&& (3 : Int32)) % (3 : Int32)))), .val (.ref a474), .val (.ref a484), .val (.ref a497), .val (.ref b733), .val (.ref b765), .val (.ref a474), .val (.ref a474)]) rfl q) ?_
        refine own_step (T' := T845) (g' := (mkF m 159 #[.val (.int s0), .val (.int s1), .val (.int s2), .val (.int mode), .val (.int (0 : Int32)), .val (.int ((1 : Int32) + (((XT.ushr mode (1 : Int32)) &&& (3 : Int32)) % (3 : Int32)))), .val (.ref a474), .val (.ref a484), .val (.ref a497), .val (.ref b733), .val (.ref b765), .val (.ref a474), .val (.ref a474)] [(.ref a474)])) (fun _ q => XS.aload X845.here hx rfl (hb hby at_157) rfl rfl q) ?_
        refine own_step (T' := T845) (g' := (mkF m 161 #[.val (.int s0), .val (.int s1), .val (.int s2), .val (.int mode), .val (.int (0 : Int32)), .val (.int ((1 : Int32) + (((XT.ushr mode (1 : Int32)) &&& (3 : Int32)) % (3 : Int32)))), .val (.ref a474), .val (.ref a484), .val (.ref a497), .val (.ref b733), .val (.ref b765), .val (.ref a474), .val (.ref a474)] [(.ref a474), (.ref a474)])) (fun _ q => XS.aload X845.here hx rfl (hb hby at_159) rfl rfl q) ?_
        refine own_callV (y := (⟨"java/lang/String", "equals", "(Ljava/lang/Object;)Z"⟩ : MethodName)) (z := (⟨"java/lang/String", "equals", "(Ljava/lang/Object;)Z"⟩ : MethodName)) X845 hx hZ hown (w93 hw) (w94 hw) (notFace_of_selects (args := #[]) (mvT hZ (w96 hw))) (w96 hw) (w95 hw) (by decide) (backOf (W := 0) (own_eqs l Z a0 hw [] a474 h834 n0 c844 ) hZ (w97 hw) (w6 hw) (Nat.le_of_ble_eq_true rfl) (Nat.le_of_ble_eq_true rfl)) e845 c843  (by first | decide | (dsimp only; omega)) (by first | decide | (dsimp only; omega)) (g := (mkF m 161 #[.val (.int s0), .val (.int s1), .val (.int s2), .val (.int mode), .val (.int (0 : Int32)), .val (.int ((1 : Int32) + (((XT.ushr mode (1 : Int32)) &&& (3 : Int32)) % (3 : Int32)))), .val (.ref a474), .val (.ref a484), .val (.ref a497), .val (.ref b733), .val (.ref b765), .val (.ref a474), .val (.ref a474)] [(.ref a474), (.ref a474)])) (argsL := [(.ref a474)]) (rest := []) rfl (by rw [hml]; rfl) (lenOf pd_16 rfl) rfl rfl (by show 2 * 0 + _ ≤ _; exact Nat.le_of_eq rfl) (hb hby at_161) ?_
        rintro _ T848 L848 X848 ⟨rfl, N848q, e848⟩
        have N849 := Fr.app N847 N848q
        show own_Fin p e below _ T848 (mkF m 164 #[.val (.int s0), .val (.int s1), .val (.int s2), .val (.int mode), .val (.int (0 : Int32)), .val (.int ((1 : Int32) + (((XT.ushr mode (1 : Int32)) &&& (3 : Int32)) % (3 : Int32)))), .val (.ref a474), .val (.ref a484), .val (.ref a497), .val (.ref b733), .val (.ref b765), .val (.ref a474), .val (.ref a474)] [(.int (1 : Int32))])
        refine own_step (T' := T848) (g' := (mkF m 167 #[.val (.int s0), .val (.int s1), .val (.int s2), .val (.int mode), .val (.int (0 : Int32)), .val (.int ((1 : Int32) + (((XT.ushr mode (1 : Int32)) &&& (3 : Int32)) % (3 : Int32)))), .val (.ref a474), .val (.ref a484), .val (.ref a497), .val (.ref b733), .val (.ref b765), .val (.ref a474), .val (.ref a474)] [])) (fun _ q => XS.ifNo X848.here hx rfl (hb hby at_164) rfl (by decide) q) ?_
        refine own_step (T' := T848) (g' := (mkF m 169 #[.val (.int s0), .val (.int s1), .val (.int s2), .val (.int mode), .val (.int (0 : Int32)), .val (.int ((1 : Int32) + (((XT.ushr mode (1 : Int32)) &&& (3 : Int32)) % (3 : Int32)))), .val (.ref a474), .val (.ref a484), .val (.ref a497), .val (.ref b733), .val (.ref b765), .val (.ref a474), .val (.ref a474)] [(.ref a474)])) (fun _ q => XS.aload X848.here hx rfl (hb hby at_167) rfl rfl q) ?_
        refine own_step (T' := T848) (g' := (mkF m 171 #[.val (.int s0), .val (.int s1), .val (.int s2), .val (.int mode), .val (.int (0 : Int32)), .val (.int ((1 : Int32) + (((XT.ushr mode (1 : Int32)) &&& (3 : Int32)) % (3 : Int32)))), .val (.ref a474), .val (.ref a484), .val (.ref a497), .val (.ref b733), .val (.ref b765), .val (.ref a474), .val (.ref a474)] [(.ref a474), (.ref a474)])) (fun _ q => XS.aload X848.here hx rfl (hb hby at_169) rfl rfl q) ?_
        refine own_callV (y := (⟨"java/lang/String", "equals", "(Ljava/lang/Object;)Z"⟩ : MethodName)) (z := (⟨"java/lang/String", "equals", "(Ljava/lang/Object;)Z"⟩ : MethodName)) X848 hx hZ hown (w93 hw) (w94 hw) (notFace_of_selects (args := #[]) (mvT hZ (w96 hw))) (w96 hw) (w95 hw) (by decide) (backOf (W := 0) (own_eqs l Z a0 hw [] a474 h834 n0 c844 ) hZ (w97 hw) (w6 hw) (Nat.le_of_ble_eq_true rfl) (Nat.le_of_ble_eq_true rfl)) e848 c843  (by first | decide | (dsimp only; omega)) (by first | decide | (dsimp only; omega)) (g := (mkF m 171 #[.val (.int s0), .val (.int s1), .val (.int s2), .val (.int mode), .val (.int (0 : Int32)), .val (.int ((1 : Int32) + (((XT.ushr mode (1 : Int32)) &&& (3 : Int32)) % (3 : Int32)))), .val (.ref a474), .val (.ref a484), .val (.ref a497), .val (.ref b733), .val (.ref b765), .val (.ref a474), .val (.ref a474)] [(.ref a474), (.ref a474)])) (argsL := [(.ref a474)]) (rest := []) rfl (by rw [hml]; rfl) (lenOf pd_16 rfl) rfl rfl (by show 2 * 0 + _ ≤ _; exact Nat.le_of_eq rfl) (hb hby at_171) ?_
        rintro _ T850 L850 X850 ⟨rfl, N850q, e850⟩
        have N851 := Fr.app N849 N850q
        show own_Fin p e below _ T850 (mkF m 174 #[.val (.int s0), .val (.int s1), .val (.int s2), .val (.int mode), .val (.int (0 : Int32)), .val (.int ((1 : Int32) + (((XT.ushr mode (1 : Int32)) &&& (3 : Int32)) % (3 : Int32)))), .val (.ref a474), .val (.ref a484), .val (.ref a497), .val (.ref b733), .val (.ref b765), .val (.ref a474), .val (.ref a474)] [(.int (1 : Int32))])
        refine own_step (T' := T850) (g' := (mkF m 177 #[.val (.int s0), .val (.int s1), .val (.int s2), .val (.int mode), .val (.int (0 : Int32)), .val (.int ((1 : Int32) + (((XT.ushr mode (1 : Int32)) &&& (3 : Int32)) % (3 : Int32)))), .val (.ref a474), .val (.ref a484), .val (.ref a497), .val (.ref b733), .val (.ref b765), .val (.ref a474), .val (.ref a474)] [])) (fun _ q => XS.ifNo X850.here hx rfl (hb hby at_174) rfl (by decide) q) ?_
        refine own_step (T' := T850) (g' := (mkF m 179 #[.val (.int s0), .val (.int s1), .val (.int s2), .val (.int mode), .val (.int (0 : Int32)), .val (.int ((1 : Int32) + (((XT.ushr mode (1 : Int32)) &&& (3 : Int32)) % (3 : Int32)))), .val (.ref a474), .val (.ref a484), .val (.ref a497), .val (.ref b733), .val (.ref b765), .val (.ref a474), .val (.ref a474)] [(.ref a474)])) (fun _ q => XS.aload X850.here hx rfl (hb hby at_177) rfl rfl q) ?_
        have c852 := (((((((((f2_474.keep K484 nin0).keep K497 nin0).ext E733).other W750 (Or.inl ne739)).other W755 (Or.inl ne739)).other W760 (Or.inl ne739)).ext E765).keep K793 (ninS ne771 nin0)).other W834 (Or.inl ne739))
        have c853 := (((((((((f3_474.keep K484 nin0).keep K497 nin0).ext E733).other W750 (Or.inl ne739)).other W755 (Or.inl ne739)).other W760 (Or.inl ne739)).ext E765).keep K793 (ninS ne771 nin0)).other W834 (Or.inl ne739))
        have c854 := (((((((((f4_474.keep K484 nin0).keep K497 nin0).ext E733).other W750 ne741).other W755 ne741).other W760 ne741).ext E765).keep K793 (ninS ne773 nin0)).other W834 ne741)
        have c855 := ((((((((c495.keep K497 all0).ext E733).wr W750 n0_735).wr W755 n0_735).wr W760 n0_735).ext E765).keep K793 (allS n0_767 all0)).wr W834 n0_735)
        refine own_callV (y := (⟨"java/lang/String", "length", "()I"⟩ : MethodName)) (z := (⟨"java/lang/String", "length", "()I"⟩ : MethodName)) (Q := fun v h' L => v = some (.int (Int32.ofNat (cs474).length)) ∧ L = [] ∧ h' = h834) X850 hx hZ hown (w98 hw) (w99 hw) (notFace_of_selects (args := #[]) (mvT hZ (w101 hw))) (w101 hw) (w100 hw) (by decide) (StrChars.Road.lenW (W := 0) hZ (own_wl hw) (kI := 4) (w5 hw) c843 c852 c853 c854 p0_474 p1_474.1 (O2.ext c855.2) P5 p1_474.2 (by decide) (by decide)) e850 c843  (by first | decide | (dsimp only; omega)) (by first | decide | (dsimp only; omega)) (g := (mkF m 179 #[.val (.int s0), .val (.int s1), .val (.int s2), .val (.int mode), .val (.int (0 : Int32)), .val (.int ((1 : Int32) + (((XT.ushr mode (1 : Int32)) &&& (3 : Int32)) % (3 : Int32)))), .val (.ref a474), .val (.ref a484), .val (.ref a497), .val (.ref b733), .val (.ref b765), .val (.ref a474), .val (.ref a474)] [(.ref a474)])) (argsL := []) (rest := []) rfl (by rw [hml]; rfl) (lenOf pd_17 rfl) rfl rfl (by show 2 * 0 + _ ≤ _; exact Nat.le_of_eq rfl) (hb hby at_179) ?_
        rintro _ T856 L856 X856 ⟨rfl, rfl, e856⟩
        have N856q := Fr.nil n0
        have N857 := Fr.app N851 N856q
        show own_Fin p e below _ T856 (mkF m 182 #[.val (.int s0), .val (.int s1), .val (.int s2), .val (.int mode), .val (.int (0 : Int32)), .val (.int ((1 : Int32) + (((XT.ushr mode (1 : Int32)) &&& (3 : Int32)) % (3 : Int32)))), .val (.ref a474), .val (.ref a484), .val (.ref a497), .val (.ref b733), .val (.ref b765), .val (.ref a474), .val (.ref a474)] [(.int (Int32.ofNat (cs474).length))])
        refine own_step (T' := T856) (g' := (mkF m 184 #[.val (.int s0), .val (.int s1), .val (.int s2), .val (.int mode), .val (.int (0 : Int32)), .val (.int ((1 : Int32) + (((XT.ushr mode (1 : Int32)) &&& (3 : Int32)) % (3 : Int32)))), .val (.ref a474), .val (.ref a484), .val (.ref a497), .val (.ref b733), .val (.ref b765), .val (.ref a474), .val (.ref a474)] [(.ref a474), (.int (Int32.ofNat (cs474).length))])) (fun _ q => XS.aload X856.here hx rfl (hb hby at_182) rfl rfl q) ?_
        refine own_callV (y := (⟨"java/lang/String", "length", "()I"⟩ : MethodName)) (z := (⟨"java/lang/String", "length", "()I"⟩ : MethodName)) (Q := fun v h' L => v = some (.int (Int32.ofNat (cs474).length)) ∧ L = [] ∧ h' = h834) X856 hx hZ hown (w98 hw) (w99 hw) (notFace_of_selects (args := #[]) (mvT hZ (w101 hw))) (w101 hw) (w100 hw) (by decide) (StrChars.Road.lenW (W := 1) hZ (own_wl hw) (kI := 4) (w5 hw) c843 c852 c853 c854 p0_474 p1_474.1 (O2.ext c855.2) P5 p1_474.2 (by decide) (by decide)) e856 c843  (by first | decide | (dsimp only; omega)) (by first | decide | (dsimp only; omega)) (g := (mkF m 184 #[.val (.int s0), .val (.int s1), .val (.int s2), .val (.int mode), .val (.int (0 : Int32)), .val (.int ((1 : Int32) + (((XT.ushr mode (1 : Int32)) &&& (3 : Int32)) % (3 : Int32)))), .val (.ref a474), .val (.ref a484), .val (.ref a497), .val (.ref b733), .val (.ref b765), .val (.ref a474), .val (.ref a474)] [(.ref a474), (.int (Int32.ofNat (cs474).length))])) (argsL := []) (rest := [(.int (Int32.ofNat (cs474).length))]) rfl (by rw [hml]; rfl) (lenOf pd_17 rfl) rfl rfl (by show 2 * 0 + _ ≤ _; exact Nat.le_of_eq rfl) (hb hby at_184) ?_
        rintro _ T858 L858 X858 ⟨rfl, rfl, e858⟩
        have N858q := Fr.nil n0
        have N859 := Fr.app N857 N858q
        show own_Fin p e below _ T858 (mkF m 187 #[.val (.int s0), .val (.int s1), .val (.int s2), .val (.int mode), .val (.int (0 : Int32)), .val (.int ((1 : Int32) + (((XT.ushr mode (1 : Int32)) &&& (3 : Int32)) % (3 : Int32)))), .val (.ref a474), .val (.ref a484), .val (.ref a497), .val (.ref b733), .val (.ref b765), .val (.ref a474), .val (.ref a474)] [(.int (Int32.ofNat (cs474).length)), (.int (Int32.ofNat (cs474).length))])
        refine own_step (T' := T858) (g' := (mkF m 190 #[.val (.int s0), .val (.int s1), .val (.int s2), .val (.int mode), .val (.int (0 : Int32)), .val (.int ((1 : Int32) + (((XT.ushr mode (1 : Int32)) &&& (3 : Int32)) % (3 : Int32)))), .val (.ref a474), .val (.ref a484), .val (.ref a497), .val (.ref b733), .val (.ref b765), .val (.ref a474), .val (.ref a474)] [])) (fun _ q => XS.icmpNo X858.here hx rfl (hb hby at_187) rfl (XT.ii_ne_f rfl) q) ?_
        refine own_step (T' := T858) (g' := (mkF m 192 #[.val (.int s0), .val (.int s1), .val (.int s2), .val (.int mode), .val (.int (0 : Int32)), .val (.int ((1 : Int32) + (((XT.ushr mode (1 : Int32)) &&& (3 : Int32)) % (3 : Int32)))), .val (.ref a474), .val (.ref a484), .val (.ref a497), .val (.ref b733), .val (.ref b765), .val (.ref a474), .val (.ref a474)] [(.ref a474)])) (fun _ q => XS.aload X858.here hx rfl (hb hby at_190) rfl rfl q) ?_
        refine own_step (T' := T858) (g' := (mkF m 194 #[.val (.int s0), .val (.int s1), .val (.int s2), .val (.int mode), .val (.int (0 : Int32)), .val (.int ((1 : Int32) + (((XT.ushr mode (1 : Int32)) &&& (3 : Int32)) % (3 : Int32)))), .val (.ref a474), .val (.ref a484), .val (.ref a497), .val (.ref b733), .val (.ref b765), .val (.ref a474), .val (.ref a474)] [(.ref a474), (.ref a474)])) (fun _ q => XS.aload X858.here hx rfl (hb hby at_192) rfl rfl q) ?_
        refine own_callV (y := (⟨"java/lang/String", "equals", "(Ljava/lang/Object;)Z"⟩ : MethodName)) (z := (⟨"java/lang/String", "equals", "(Ljava/lang/Object;)Z"⟩ : MethodName)) X858 hx hZ hown (w93 hw) (w94 hw) (notFace_of_selects (args := #[]) (mvT hZ (w96 hw))) (w96 hw) (w95 hw) (by decide) (backOf (W := 0) (own_eqs l Z a0 hw [] a474 h834 n0 c844 ) hZ (w97 hw) (w6 hw) (Nat.le_of_ble_eq_true rfl) (Nat.le_of_ble_eq_true rfl)) e858 c843  (by first | decide | (dsimp only; omega)) (by first | decide | (dsimp only; omega)) (g := (mkF m 194 #[.val (.int s0), .val (.int s1), .val (.int s2), .val (.int mode), .val (.int (0 : Int32)), .val (.int ((1 : Int32) + (((XT.ushr mode (1 : Int32)) &&& (3 : Int32)) % (3 : Int32)))), .val (.ref a474), .val (.ref a484), .val (.ref a497), .val (.ref b733), .val (.ref b765), .val (.ref a474), .val (.ref a474)] [(.ref a474), (.ref a474)])) (argsL := [(.ref a474)]) (rest := []) rfl (by rw [hml]; rfl) (lenOf pd_16 rfl) rfl rfl (by show 2 * 0 + _ ≤ _; exact Nat.le_of_eq rfl) (hb hby at_194) ?_
        rintro _ T860 L860 X860 ⟨rfl, N860q, e860⟩
        have N861 := Fr.app N859 N860q
        show own_Fin p e below _ T860 (mkF m 197 #[.val (.int s0), .val (.int s1), .val (.int s2), .val (.int mode), .val (.int (0 : Int32)), .val (.int ((1 : Int32) + (((XT.ushr mode (1 : Int32)) &&& (3 : Int32)) % (3 : Int32)))), .val (.ref a474), .val (.ref a484), .val (.ref a497), .val (.ref b733), .val (.ref b765), .val (.ref a474), .val (.ref a474)] [(.int (1 : Int32))])
        refine own_step (T' := T860) (g' := (mkF m 200 #[.val (.int s0), .val (.int s1), .val (.int s2), .val (.int mode), .val (.int (0 : Int32)), .val (.int ((1 : Int32) + (((XT.ushr mode (1 : Int32)) &&& (3 : Int32)) % (3 : Int32)))), .val (.ref a474), .val (.ref a484), .val (.ref a497), .val (.ref b733), .val (.ref b765), .val (.ref a474), .val (.ref a474)] [])) (fun _ q => XS.ifNo X860.here hx rfl (hb hby at_197) rfl (by decide) q) ?_
        refine own_step (T' := T860) (g' := (mkF m 201 #[.val (.int s0), .val (.int s1), .val (.int s2), .val (.int mode), .val (.int (0 : Int32)), .val (.int ((1 : Int32) + (((XT.ushr mode (1 : Int32)) &&& (3 : Int32)) % (3 : Int32)))), .val (.ref a474), .val (.ref a484), .val (.ref a497), .val (.ref b733), .val (.ref b765), .val (.ref a474), .val (.ref a474)] [(.int (1 : Int32))])) (fun _ q => XS.iconst X860.here hx rfl (hb hby at_200) q) ?_
        refine own_step (T' := T860) (g' := (mkF m 205 #[.val (.int s0), .val (.int s1), .val (.int s2), .val (.int mode), .val (.int (0 : Int32)), .val (.int ((1 : Int32) + (((XT.ushr mode (1 : Int32)) &&& (3 : Int32)) % (3 : Int32)))), .val (.ref a474), .val (.ref a484), .val (.ref a497), .val (.ref b733), .val (.ref b765), .val (.ref a474), .val (.ref a474)] [(.int (1 : Int32))])) (fun _ q => XS.goto X860.here hx rfl (pc0 := 201) (pc' := 205) rfl (hb hby at_201) (by decide) (by decide) q) ?_
        have c862 := ((c795.trans K793 (allS (Or.inr sz0_769) all0)).wr W834 (Or.inr sz0_737))
        have c863 := (Nat.le_trans (Nat.le_trans (Nat.le_trans (Nat.le_trans (Nat.le_trans (Nat.le_trans (Nat.le_trans (Nat.le_refl _) E733.1) (Keep.of_wr W750).1) (Keep.of_wr W755).1) (Keep.of_wr W760).1) E765.1) K793.1) (Keep.of_wr W834).1)
        exact own_retNW X860 hx hZ (own_hEL hw) hS (by rw [e860]; exact c863) (by rw [e860]; exact CH837) Bd.returns (by simp) (hb hby at_205) hlk (by rw [e860]; exact ⟨rfl, N861, c862⟩) (by first | decide | (dsimp only; omega)) (by first | decide | (dsimp only; omega))
  · refine own_step (T' := s₁) (g' := (mkF m 6 #[.val (.int s0), .val (.int s1), .val (.int s2), .val (.int mode), .unset, .unset, .unset, .unset, .unset, .unset, .unset, .unset, .unset] [])) (fun _ q => XS.ifNo X0.here hx rfl (hb hby at_3) rfl (XT.i0_eq_f hc473) q) ?_
    refine own_step (T' := s₁) (g' := (mkF m 7 #[.val (.int s0), .val (.int s1), .val (.int s2), .val (.int mode), .unset, .unset, .unset, .unset, .unset, .unset, .unset, .unset, .unset] [(.int (1 : Int32))])) (fun _ q => XS.iconst X0.here hx rfl (hb hby at_6) q) ?_
    refine own_step (T' := s₁) (g' := (mkF m 11 #[.val (.int s0), .val (.int s1), .val (.int s2), .val (.int mode), .unset, .unset, .unset, .unset, .unset, .unset, .unset, .unset, .unset] [(.int (1 : Int32))])) (fun _ q => XS.goto X0.here hx rfl (pc0 := 7) (pc' := 11) rfl (hb hby at_7) (by decide) (by decide) q) ?_
    refine own_step (T' := s₁) (g' := (mkF m 13 #[.val (.int s0), .val (.int s1), .val (.int s2), .val (.int mode), .val (.int (1 : Int32)), .unset, .unset, .unset, .unset, .unset, .unset, .unset, .unset] [])) (fun _ q => XS.istore X0.here hx rfl (hb hby at_11) rfl (l' := #[.val (.int s0), .val (.int s1), .val (.int s2), .val (.int mode), .val (.int (1 : Int32)), .unset, .unset, .unset, .unset, .unset, .unset, .unset, .unset]) rfl q) ?_
    refine own_step (T' := s₁) (g' := (mkF m 14 #[.val (.int s0), .val (.int s1), .val (.int s2), .val (.int mode), .val (.int (1 : Int32)), .unset, .unset, .unset, .unset, .unset, .unset, .unset, .unset] [(.int (1 : Int32))])) (fun _ q => XS.iconst X0.here hx rfl (hb hby at_13) q) ?_
    refine own_step (T' := s₁) (g' := (mkF m 15 #[.val (.int s0), .val (.int s1), .val (.int s2), .val (.int mode), .val (.int (1 : Int32)), .unset, .unset, .unset, .unset, .unset, .unset, .unset, .unset] [(.int mode), (.int (1 : Int32))])) (fun _ q => XS.iloadN X0.here hx rfl (hb hby at_14) rfl q) ?_
    refine own_step (T' := s₁) (g' := (mkF m 16 #[.val (.int s0), .val (.int s1), .val (.int s2), .val (.int mode), .val (.int (1 : Int32)), .unset, .unset, .unset, .unset, .unset, .unset, .unset, .unset] [(.int (1 : Int32)), (.int mode), (.int (1 : Int32))])) (fun _ q => XS.iconst X0.here hx rfl (hb hby at_15) q) ?_
    refine own_step (T' := s₁) (g' := (mkF m 17 #[.val (.int s0), .val (.int s1), .val (.int s2), .val (.int mode), .val (.int (1 : Int32)), .unset, .unset, .unset, .unset, .unset, .unset, .unset, .unset] [(.int (XT.ushr mode (1 : Int32))), (.int (1 : Int32))])) (fun _ q => XT.iushr X0.here hx rfl (hb hby at_16) rfl q) ?_
    refine own_step (T' := s₁) (g' := (mkF m 18 #[.val (.int s0), .val (.int s1), .val (.int s2), .val (.int mode), .val (.int (1 : Int32)), .unset, .unset, .unset, .unset, .unset, .unset, .unset, .unset] [(.int (3 : Int32)), (.int (XT.ushr mode (1 : Int32))), (.int (1 : Int32))])) (fun _ q => XS.iconst X0.here hx rfl (hb hby at_17) q) ?_
    refine own_step (T' := s₁) (g' := (mkF m 19 #[.val (.int s0), .val (.int s1), .val (.int s2), .val (.int mode), .val (.int (1 : Int32)), .unset, .unset, .unset, .unset, .unset, .unset, .unset, .unset] [(.int ((XT.ushr mode (1 : Int32)) &&& (3 : Int32))), (.int (1 : Int32))])) (fun _ q => XS.iand X0.here hx rfl (hb hby at_18) rfl q) ?_
    refine own_step (T' := s₁) (g' := (mkF m 20 #[.val (.int s0), .val (.int s1), .val (.int s2), .val (.int mode), .val (.int (1 : Int32)), .unset, .unset, .unset, .unset, .unset, .unset, .unset, .unset] [(.int (3 : Int32)), (.int ((XT.ushr mode (1 : Int32)) &&& (3 : Int32))), (.int (1 : Int32))])) (fun _ q => XS.iconst X0.here hx rfl (hb hby at_19) q) ?_
    refine own_step (T' := s₁) (g' := (mkF m 21 #[.val (.int s0), .val (.int s1), .val (.int s2), .val (.int mode), .val (.int (1 : Int32)), .unset, .unset, .unset, .unset, .unset, .unset, .unset, .unset] [(.int (((XT.ushr mode (1 : Int32)) &&& (3 : Int32)) % (3 : Int32))), (.int (1 : Int32))])) (fun _ q => iremM X0 hx rfl (hb hby at_20) rfl (by decide) q) ?_
    refine own_step (T' := s₁) (g' := (mkF m 22 #[.val (.int s0), .val (.int s1), .val (.int s2), .val (.int mode), .val (.int (1 : Int32)), .unset, .unset, .unset, .unset, .unset, .unset, .unset, .unset] [(.int ((1 : Int32) + (((XT.ushr mode (1 : Int32)) &&& (3 : Int32)) % (3 : Int32))))])) (fun _ q => XS.iadd X0.here hx rfl (hb hby at_21) rfl q) ?_
    refine own_step (T' := s₁) (g' := (mkF m 24 #[.val (.int s0), .val (.int s1), .val (.int s2), .val (.int mode), .val (.int (1 : Int32)), .val (.int ((1 : Int32) + (((XT.ushr mode (1 : Int32)) &&& (3 : Int32)) % (3 : Int32)))), .unset, .unset, .unset, .unset, .unset, .unset, .unset] [])) (fun _ q => XS.istore X0.here hx rfl (hb hby at_22) rfl (l' := #[.val (.int s0), .val (.int s1), .val (.int s2), .val (.int mode), .val (.int (1 : Int32)), .val (.int ((1 : Int32) + (((XT.ushr mode (1 : Int32)) &&& (3 : Int32)) % (3 : Int32)))), .unset, .unset, .unset, .unset, .unset, .unset, .unset]) rfl q) ?_
    refine own_step (T' := s₁) (g' := (mkF m 25 #[.val (.int s0), .val (.int s1), .val (.int s2), .val (.int mode), .val (.int (1 : Int32)), .val (.int ((1 : Int32) + (((XT.ushr mode (1 : Int32)) &&& (3 : Int32)) % (3 : Int32)))), .unset, .unset, .unset, .unset, .unset, .unset, .unset] [(.int s0)])) (fun _ q => XS.iloadN X0.here hx rfl (hb hby at_24) rfl q) ?_
    refine own_step (T' := s₁) (g' := (mkF m 26 #[.val (.int s0), .val (.int s1), .val (.int s2), .val (.int mode), .val (.int (1 : Int32)), .val (.int ((1 : Int32) + (((XT.ushr mode (1 : Int32)) &&& (3 : Int32)) % (3 : Int32)))), .unset, .unset, .unset, .unset, .unset, .unset, .unset] [(.int mode), (.int s0)])) (fun _ q => XS.iloadN X0.here hx rfl (hb hby at_25) rfl q) ?_
    refine own_step (T' := s₁) (g' := (mkF m 27 #[.val (.int s0), .val (.int s1), .val (.int s2), .val (.int mode), .val (.int (1 : Int32)), .val (.int ((1 : Int32) + (((XT.ushr mode (1 : Int32)) &&& (3 : Int32)) % (3 : Int32)))), .unset, .unset, .unset, .unset, .unset, .unset, .unset] [(.int (3 : Int32)), (.int mode), (.int s0)])) (fun _ q => XS.iconst X0.here hx rfl (hb hby at_26) q) ?_
    refine own_step (T' := s₁) (g' := (mkF m 28 #[.val (.int s0), .val (.int s1), .val (.int s2), .val (.int mode), .val (.int (1 : Int32)), .val (.int ((1 : Int32) + (((XT.ushr mode (1 : Int32)) &&& (3 : Int32)) % (3 : Int32)))), .unset, .unset, .unset, .unset, .unset, .unset, .unset] [(.int (XT.ushr mode (3 : Int32))), (.int s0)])) (fun _ q => XT.iushr X0.here hx rfl (hb hby at_27) rfl q) ?_
    refine own_step (T' := s₁) (g' := (mkF m 29 #[.val (.int s0), .val (.int s1), .val (.int s2), .val (.int mode), .val (.int (1 : Int32)), .val (.int ((1 : Int32) + (((XT.ushr mode (1 : Int32)) &&& (3 : Int32)) % (3 : Int32)))), .unset, .unset, .unset, .unset, .unset, .unset, .unset] [(.int (3 : Int32)), (.int (XT.ushr mode (3 : Int32))), (.int s0)])) (fun _ q => XS.iconst X0.here hx rfl (hb hby at_28) q) ?_
    refine own_step (T' := s₁) (g' := (mkF m 30 #[.val (.int s0), .val (.int s1), .val (.int s2), .val (.int mode), .val (.int (1 : Int32)), .val (.int ((1 : Int32) + (((XT.ushr mode (1 : Int32)) &&& (3 : Int32)) % (3 : Int32)))), .unset, .unset, .unset, .unset, .unset, .unset, .unset] [(.int ((XT.ushr mode (3 : Int32)) &&& (3 : Int32))), (.int s0)])) (fun _ q => XS.iand X0.here hx rfl (hb hby at_29) rfl q) ?_
    refine own_callSW X0 hx hZ hown hS hk0 (w0 hw) (w1 hw) (w2 hw) (w3 hw) (by decide) (backOfSH (W := 0) (own_draw l Z a0 hw [] G1 G3 s0 ((XT.ushr mode (3 : Int32)) &&& (3 : Int32)) h0 n0 Z0 O2 O4 P5 rG3 OLD0) hZ (w3 hw) (w2 hw) (Nat.le_of_ble_eq_true rfl) (Nat.le_of_ble_eq_true rfl) (own_hEL hw) CH0.1) e0  (by first | decide | (dsimp only; omega)) (by first | decide | (dsimp only; omega)) (g := (mkF m 30 #[.val (.int s0), .val (.int s1), .val (.int s2), .val (.int mode), .val (.int (1 : Int32)), .val (.int ((1 : Int32) + (((XT.ushr mode (1 : Int32)) &&& (3 : Int32)) % (3 : Int32)))), .unset, .unset, .unset, .unset, .unset, .unset, .unset] [(.int ((XT.ushr mode (3 : Int32)) &&& (3 : Int32))), (.int s0)])) (argsL := [(.int s0), (.int ((XT.ushr mode (3 : Int32)) &&& (3 : Int32)))]) (rest := []) rfl (by rw [hml]; rfl) (lenOf pd_13 rfl) rfl rfl (by show 2 * 0 + _ ≤ _; exact Nat.le_of_eq rfl) (hb hby at_30) ?_
    rintro _ T864 L864 X864 hS hZ hown C864 ⟨a864, t864, kb864, N2864, vs864, cs864, rfl, N864q, K864, f0_864, f1_864, f2_864, f3_864, f4_864, p0_864, p1_864⟩
    have n0_865 : n0 ≤ a864 := Nat.le_trans Z0 f0_864
    have sz0_866 := Nat.le_trans KP0.1 f0_864
    have sf867 : Safe Z own_EL _ _ a864 := Safe.new (EL := own_EL) (Z := Z) (vm := s.vm) f0_864
    have CH868 := CH0.trans C864
    have lt869 := f1_864.lt
    have lt870 := f4_864.lt
    have N871 := Fr.app N0 N864q
    show own_Fin p e below _ T864 (mkF m 33 #[.val (.int s0), .val (.int s1), .val (.int s2), .val (.int mode), .val (.int (1 : Int32)), .val (.int ((1 : Int32) + (((XT.ushr mode (1 : Int32)) &&& (3 : Int32)) % (3 : Int32)))), .unset, .unset, .unset, .unset, .unset, .unset, .unset] [(.ref a864)])
    refine own_step (T' := T864) (g' := (mkF m 35 #[.val (.int s0), .val (.int s1), .val (.int s2), .val (.int mode), .val (.int (1 : Int32)), .val (.int ((1 : Int32) + (((XT.ushr mode (1 : Int32)) &&& (3 : Int32)) % (3 : Int32)))), .val (.ref a864), .unset, .unset, .unset, .unset, .unset, .unset] [])) (fun _ q => XS.astore X864.here hx rfl (hb hby at_33) rfl rfl (l' := #[.val (.int s0), .val (.int s1), .val (.int s2), .val (.int mode), .val (.int (1 : Int32)), .val (.int ((1 : Int32) + (((XT.ushr mode (1 : Int32)) &&& (3 : Int32)) % (3 : Int32)))), .val (.ref a864), .unset, .unset, .unset, .unset, .unset, .unset]) rfl q) ?_
    refine own_step (T' := T864) (g' := (mkF m 36 #[.val (.int s0), .val (.int s1), .val (.int s2), .val (.int mode), .val (.int (1 : Int32)), .val (.int ((1 : Int32) + (((XT.ushr mode (1 : Int32)) &&& (3 : Int32)) % (3 : Int32)))), .val (.ref a864), .unset, .unset, .unset, .unset, .unset, .unset] [(.int s1)])) (fun _ q => XS.iloadN X864.here hx rfl (hb hby at_35) rfl q) ?_
    refine own_step (T' := T864) (g' := (mkF m 37 #[.val (.int s0), .val (.int s1), .val (.int s2), .val (.int mode), .val (.int (1 : Int32)), .val (.int ((1 : Int32) + (((XT.ushr mode (1 : Int32)) &&& (3 : Int32)) % (3 : Int32)))), .val (.ref a864), .unset, .unset, .unset, .unset, .unset, .unset] [(.int mode), (.int s1)])) (fun _ q => XS.iloadN X864.here hx rfl (hb hby at_36) rfl q) ?_
    refine own_step (T' := T864) (g' := (mkF m 38 #[.val (.int s0), .val (.int s1), .val (.int s2), .val (.int mode), .val (.int (1 : Int32)), .val (.int ((1 : Int32) + (((XT.ushr mode (1 : Int32)) &&& (3 : Int32)) % (3 : Int32)))), .val (.ref a864), .unset, .unset, .unset, .unset, .unset, .unset] [(.int (5 : Int32)), (.int mode), (.int s1)])) (fun _ q => XS.iconst X864.here hx rfl (hb hby at_37) q) ?_
    refine own_step (T' := T864) (g' := (mkF m 39 #[.val (.int s0), .val (.int s1), .val (.int s2), .val (.int mode), .val (.int (1 : Int32)), .val (.int ((1 : Int32) + (((XT.ushr mode (1 : Int32)) &&& (3 : Int32)) % (3 : Int32)))), .val (.ref a864), .unset, .unset, .unset, .unset, .unset, .unset] [(.int (XT.ushr mode (5 : Int32))), (.int s1)])) (fun _ q => XT.iushr X864.here hx rfl (hb hby at_38) rfl q) ?_
    refine own_step (T' := T864) (g' := (mkF m 40 #[.val (.int s0), .val (.int s1), .val (.int s2), .val (.int mode), .val (.int (1 : Int32)), .val (.int ((1 : Int32) + (((XT.ushr mode (1 : Int32)) &&& (3 : Int32)) % (3 : Int32)))), .val (.ref a864), .unset, .unset, .unset, .unset, .unset, .unset] [(.int (3 : Int32)), (.int (XT.ushr mode (5 : Int32))), (.int s1)])) (fun _ q => XS.iconst X864.here hx rfl (hb hby at_39) q) ?_
    refine own_step (T' := T864) (g' := (mkF m 41 #[.val (.int s0), .val (.int s1), .val (.int s2), .val (.int mode), .val (.int (1 : Int32)), .val (.int ((1 : Int32) + (((XT.ushr mode (1 : Int32)) &&& (3 : Int32)) % (3 : Int32)))), .val (.ref a864), .unset, .unset, .unset, .unset, .unset, .unset] [(.int ((XT.ushr mode (5 : Int32)) &&& (3 : Int32))), (.int s1)])) (fun _ q => XS.iand X864.here hx rfl (hb hby at_40) rfl q) ?_
    have c872 := (OLD0.keep K864 all0)
    have c873 := (Nat.le_trans Z0 K864.1)
    refine own_callSW X864 hx hZ hown hS (Nat.le_refl _) (w0 hw) (w1 hw) (w2 hw) (w3 hw) (by decide) (backOfSH (W := 0) (own_draw l Z a0 hw [] G1 G3 s1 ((XT.ushr mode (5 : Int32)) &&& (3 : Int32)) T864.heap n0 c873 O2 O4 P5 rG3 c872) hZ (w3 hw) (w2 hw) (Nat.le_of_ble_eq_true rfl) (Nat.le_of_ble_eq_true rfl) (own_hEL hw) CH868.1) rfl  (by first | decide | (dsimp only; omega)) (by first | decide | (dsimp only; omega)) (g := (mkF m 41 #[.val (.int s0), .val (.int s1), .val (.int s2), .val (.int mode), .val (.int (1 : Int32)), .val (.int ((1 : Int32) + (((XT.ushr mode (1 : Int32)) &&& (3 : Int32)) % (3 : Int32)))), .val (.ref a864), .unset, .unset, .unset, .unset, .unset, .unset] [(.int ((XT.ushr mode (5 : Int32)) &&& (3 : Int32))), (.int s1)])) (argsL := [(.int s1), (.int ((XT.ushr mode (5 : Int32)) &&& (3 : Int32)))]) (rest := []) rfl (by rw [hml]; rfl) (lenOf pd_13 rfl) rfl rfl (by show 2 * 0 + _ ≤ _; exact Nat.le_of_eq rfl) (hb hby at_41) ?_
    rintro _ T874 L874 X874 hS hZ hown C874 ⟨a874, t874, kb874, N2874, vs874, cs874, rfl, N874q, K874, f0_874, f1_874, f2_874, f3_874, f4_874, p0_874, p1_874⟩
    have n0_875 : n0 ≤ a874 := Nat.le_trans c873 f0_874
    have c876 := (KP0.trans K864 all0)
    have sz0_877 := Nat.le_trans c876.1 f0_874
    have ne878 : a864 ≠ a874 := own_ne lt869 f0_874
    have ne879 : t864 ≠ a874 := own_ne lt870 f0_874
    have sf880 : Safe Z own_EL _ _ a874 := Safe.new (EL := own_EL) (Z := Z) (vm := T864.vm) f0_874
    have CH881 := CH868.trans C874
    have lt882 := f1_874.lt
    have lt883 := f4_874.lt
    have N884 := Fr.app N871 N874q
    show own_Fin p e below _ T874 (mkF m 44 #[.val (.int s0), .val (.int s1), .val (.int s2), .val (.int mode), .val (.int (1 : Int32)), .val (.int ((1 : Int32) + (((XT.ushr mode (1 : Int32)) &&& (3 : Int32)) % (3 : Int32)))), .val (.ref a864), .unset, .unset, .unset, .unset, .unset, .unset] [(.ref a874)])
    refine own_step (T' := T874) (g' := (mkF m 46 #[.val (.int s0), .val (.int s1), .val (.int s2), .val (.int mode), .val (.int (1 : Int32)), .val (.int ((1 : Int32) + (((XT.ushr mode (1 : Int32)) &&& (3 : Int32)) % (3 : Int32)))), .val (.ref a864), .val (.ref a874), .unset, .unset, .unset, .unset, .unset] [])) (fun _ q => XS.astore X874.here hx rfl (hb hby at_44) rfl rfl (l' := #[.val (.int s0), .val (.int s1), .val (.int s2), .val (.int mode), .val (.int (1 : Int32)), .val (.int ((1 : Int32) + (((XT.ushr mode (1 : Int32)) &&& (3 : Int32)) % (3 : Int32)))), .val (.ref a864), .val (.ref a874), .unset, .unset, .unset, .unset, .unset]) rfl q) ?_
    refine own_step (T' := T874) (g' := (mkF m 47 #[.val (.int s0), .val (.int s1), .val (.int s2), .val (.int mode), .val (.int (1 : Int32)), .val (.int ((1 : Int32) + (((XT.ushr mode (1 : Int32)) &&& (3 : Int32)) % (3 : Int32)))), .val (.ref a864), .val (.ref a874), .unset, .unset, .unset, .unset, .unset] [(.int s2)])) (fun _ q => XS.iloadN X874.here hx rfl (hb hby at_46) rfl q) ?_
    refine own_step (T' := T874) (g' := (mkF m 48 #[.val (.int s0), .val (.int s1), .val (.int s2), .val (.int mode), .val (.int (1 : Int32)), .val (.int ((1 : Int32) + (((XT.ushr mode (1 : Int32)) &&& (3 : Int32)) % (3 : Int32)))), .val (.ref a864), .val (.ref a874), .unset, .unset, .unset, .unset, .unset] [(.int mode), (.int s2)])) (fun _ q => XS.iloadN X874.here hx rfl (hb hby at_47) rfl q) ?_
    refine own_step (T' := T874) (g' := (mkF m 50 #[.val (.int s0), .val (.int s1), .val (.int s2), .val (.int mode), .val (.int (1 : Int32)), .val (.int ((1 : Int32) + (((XT.ushr mode (1 : Int32)) &&& (3 : Int32)) % (3 : Int32)))), .val (.ref a864), .val (.ref a874), .unset, .unset, .unset, .unset, .unset] [(.int (7 : Int32)), (.int mode), (.int s2)])) (fun _ q => XS.bipush X874.here hx rfl (hb hby at_48) q) ?_
    refine own_step (T' := T874) (g' := (mkF m 51 #[.val (.int s0), .val (.int s1), .val (.int s2), .val (.int mode), .val (.int (1 : Int32)), .val (.int ((1 : Int32) + (((XT.ushr mode (1 : Int32)) &&& (3 : Int32)) % (3 : Int32)))), .val (.ref a864), .val (.ref a874), .unset, .unset, .unset, .unset, .unset] [(.int (XT.ushr mode (7 : Int32))), (.int s2)])) (fun _ q => XT.iushr X874.here hx rfl (hb hby at_50) rfl q) ?_
    refine own_step (T' := T874) (g' := (mkF m 52 #[.val (.int s0), .val (.int s1), .val (.int s2), .val (.int mode), .val (.int (1 : Int32)), .val (.int ((1 : Int32) + (((XT.ushr mode (1 : Int32)) &&& (3 : Int32)) % (3 : Int32)))), .val (.ref a864), .val (.ref a874), .unset, .unset, .unset, .unset, .unset] [(.int (3 : Int32)), (.int (XT.ushr mode (7 : Int32))), (.int s2)])) (fun _ q => XS.iconst X874.here hx rfl (hb hby at_51) q) ?_
    refine own_step (T' := T874) (g' := (mkF m 53 #[.val (.int s0), .val (.int s1), .val (.int s2), .val (.int mode), .val (.int (1 : Int32)), .val (.int ((1 : Int32) + (((XT.ushr mode (1 : Int32)) &&& (3 : Int32)) % (3 : Int32)))), .val (.ref a864), .val (.ref a874), .unset, .unset, .unset, .unset, .unset] [(.int ((XT.ushr mode (7 : Int32)) &&& (3 : Int32))), (.int s2)])) (fun _ q => XS.iand X874.here hx rfl (hb hby at_52) rfl q) ?_
    have c885 := (c872.keep K874 all0)
    have c886 := (Nat.le_trans c873 K874.1)
    refine own_callSW X874 hx hZ hown hS (Nat.le_refl _) (w0 hw) (w1 hw) (w2 hw) (w3 hw) (by decide) (backOfSH (W := 0) (own_draw l Z a0 hw [] G1 G3 s2 ((XT.ushr mode (7 : Int32)) &&& (3 : Int32)) T874.heap n0 c886 O2 O4 P5 rG3 c885) hZ (w3 hw) (w2 hw) (Nat.le_of_ble_eq_true rfl) (Nat.le_of_ble_eq_true rfl) (own_hEL hw) CH881.1) rfl  (by first | decide | (dsimp only; omega)) (by first | decide | (dsimp only; omega)) (g := (mkF m 53 #[.val (.int s0), .val (.int s1), .val (.int s2), .val (.int mode), .val (.int (1 : Int32)), .val (.int ((1 : Int32) + (((XT.ushr mode (1 : Int32)) &&& (3 : Int32)) % (3 : Int32)))), .val (.ref a864), .val (.ref a874), .unset, .unset, .unset, .unset, .unset] [(.int ((XT.ushr mode (7 : Int32)) &&& (3 : Int32))), (.int s2)])) (argsL := [(.int s2), (.int ((XT.ushr mode (7 : Int32)) &&& (3 : Int32)))]) (rest := []) rfl (by rw [hml]; rfl) (lenOf pd_13 rfl) rfl rfl (by show 2 * 0 + _ ≤ _; exact Nat.le_of_eq rfl) (hb hby at_53) ?_
    rintro _ T887 L887 X887 hS hZ hown C887 ⟨a887, t887, kb887, N2887, vs887, cs887, rfl, N887q, K887, f0_887, f1_887, f2_887, f3_887, f4_887, p0_887, p1_887⟩
    have n0_888 : n0 ≤ a887 := Nat.le_trans c886 f0_887
    have c889 := (c876.trans K874 all0)
    have sz0_890 := Nat.le_trans c889.1 f0_887
    have c891 := (own_lt lt869 K874.1)
    have ne892 : a864 ≠ a887 := own_ne c891 f0_887
    have c893 := (own_lt lt870 K874.1)
    have ne894 : t864 ≠ a887 := own_ne c893 f0_887
    have ne895 : a874 ≠ a887 := own_ne lt882 f0_887
    have ne896 : t874 ≠ a887 := own_ne lt883 f0_887
    have sf897 : Safe Z own_EL _ _ a887 := Safe.new (EL := own_EL) (Z := Z) (vm := T874.vm) f0_887
    have CH898 := CH881.trans C887
    have lt899 := f1_887.lt
    have lt900 := f4_887.lt
    have N901 := Fr.app N884 N887q
    show own_Fin p e below _ T887 (mkF m 56 #[.val (.int s0), .val (.int s1), .val (.int s2), .val (.int mode), .val (.int (1 : Int32)), .val (.int ((1 : Int32) + (((XT.ushr mode (1 : Int32)) &&& (3 : Int32)) % (3 : Int32)))), .val (.ref a864), .val (.ref a874), .unset, .unset, .unset, .unset, .unset] [(.ref a887)])
    refine own_step (T' := T887) (g' := (mkF m 58 #[.val (.int s0), .val (.int s1), .val (.int s2), .val (.int mode), .val (.int (1 : Int32)), .val (.int ((1 : Int32) + (((XT.ushr mode (1 : Int32)) &&& (3 : Int32)) % (3 : Int32)))), .val (.ref a864), .val (.ref a874), .val (.ref a887), .unset, .unset, .unset, .unset] [])) (fun _ q => XS.astore X887.here hx rfl (hb hby at_56) rfl rfl (l' := #[.val (.int s0), .val (.int s1), .val (.int s2), .val (.int mode), .val (.int (1 : Int32)), .val (.int ((1 : Int32) + (((XT.ushr mode (1 : Int32)) &&& (3 : Int32)) % (3 : Int32)))), .val (.ref a864), .val (.ref a874), .val (.ref a887), .unset, .unset, .unset, .unset]) rfl q) ?_
    refine own_step (T' := T887) (g' := (mkF m 60 #[.val (.int s0), .val (.int s1), .val (.int s2), .val (.int mode), .val (.int (1 : Int32)), .val (.int ((1 : Int32) + (((XT.ushr mode (1 : Int32)) &&& (3 : Int32)) % (3 : Int32)))), .val (.ref a864), .val (.ref a874), .val (.ref a887), .unset, .unset, .unset, .unset] [(.int ((1 : Int32) + (((XT.ushr mode (1 : Int32)) &&& (3 : Int32)) % (3 : Int32))))])) (fun _ q => XS.iload X887.here hx rfl (hb hby at_58) rfl q) ?_
    refine own_step (T' := T887) (g' := (mkF m 61 #[.val (.int s0), .val (.int s1), .val (.int s2), .val (.int mode), .val (.int (1 : Int32)), .val (.int ((1 : Int32) + (((XT.ushr mode (1 : Int32)) &&& (3 : Int32)) % (3 : Int32)))), .val (.ref a864), .val (.ref a874), .val (.ref a887), .unset, .unset, .unset, .unset] [(.int (1 : Int32)), (.int ((1 : Int32) + (((XT.ushr mode (1 : Int32)) &&& (3 : Int32)) % (3 : Int32))))])) (fun _ q => XS.iconst X887.here hx rfl (hb hby at_60) q) ?_
    by_cases hc902 : ((1 : Int32) + (((XT.ushr mode (1 : Int32)) &&& (3 : Int32)) % (3 : Int32))) = (1 : Int32)
    · refine own_step (T' := T887) (g' := (mkF m 64 #[.val (.int s0), .val (.int s1), .val (.int s2), .val (.int mode), .val (.int (1 : Int32)), .val (.int ((1 : Int32) + (((XT.ushr mode (1 : Int32)) &&& (3 : Int32)) % (3 : Int32)))), .val (.ref a864), .val (.ref a874), .val (.ref a887), .unset, .unset, .unset, .unset] [])) (fun _ q => XS.icmpNo X887.here hx rfl (hb hby at_61) rfl (XT.ii_ne_f hc902) q) ?_
      refine own_step (T' := T887) (g' := (mkF m 65 #[.val (.int s0), .val (.int s1), .val (.int s2), .val (.int mode), .val (.int (1 : Int32)), .val (.int ((1 : Int32) + (((XT.ushr mode (1 : Int32)) &&& (3 : Int32)) % (3 : Int32)))), .val (.ref a864), .val (.ref a874), .val (.ref a887), .unset, .unset, .unset, .unset] [(.int (1 : Int32))])) (fun _ q => XS.iconst X887.here hx rfl (hb hby at_64) q) ?_
      obtain ⟨T903, h903, k903, X903, e903, E903, A903, O903, st903⟩ := newR X887 hx hZ hown (w4 hw) (w26 hw) rfl (g := (mkF m 65 #[.val (.int s0), .val (.int s1), .val (.int s2), .val (.int mode), .val (.int (1 : Int32)), .val (.int ((1 : Int32) + (((XT.ushr mode (1 : Int32)) &&& (3 : Int32)) % (3 : Int32)))), .val (.ref a864), .val (.ref a874), .val (.ref a887), .unset, .unset, .unset, .unset] [(.int (1 : Int32))])) rfl (hb hby at_65) rfl (by decide) (cap := 1) (by decide) (by first | decide | omega) (by first | decide | (dsimp only; omega)) (by first | decide | (dsimp only; omega))
      obtain ⟨b903, g903⟩ : ∃ z, z = T887.heap.size := ⟨_, rfl⟩
      rw [← g903] at A903 st903
      have c904 := (Nat.le_trans c886 K887.1)
      have n0_905 : n0 ≤ b903 := Nat.le_trans c904 (Nat.le_of_eq g903.symm)
      have c906 := (c889.trans K887 all0)
      have sz0_907 := Nat.le_trans c906.1 (Nat.le_of_eq g903.symm)
      have c908 := (own_lt c891 K887.1)
      have ne909 : a864 ≠ b903 := own_ne c908 (Nat.le_of_eq g903.symm)
      have c910 := (own_lt c893 K887.1)
      have ne911 : t864 ≠ b903 := own_ne c910 (Nat.le_of_eq g903.symm)
      have c912 := (own_lt lt882 K887.1)
      have ne913 : a874 ≠ b903 := own_ne c912 (Nat.le_of_eq g903.symm)
      have c914 := (own_lt lt883 K887.1)
      have ne915 : t874 ≠ b903 := own_ne c914 (Nat.le_of_eq g903.symm)
      have ne916 : a887 ≠ b903 := own_ne lt899 (Nat.le_of_eq g903.symm)
      have ne917 : t887 ≠ b903 := own_ne lt900 (Nat.le_of_eq g903.symm)
      have sf918 : Safe Z own_EL _ _ b903 := Safe.new (EL := own_EL) (Z := Z) (vm := T887.vm) (Nat.le_of_eq g903.symm)
      have CH919 := CH898.trans (CHr.ext E903 CH898.1)
      have V903 : Arv Z h903 b903 k903 (.object "java/lang/String") (1 : Int32) [.null] .null := (Arv.new A903 (by decide)).pad (pad_rep [] .null 1)
      have ltb903 := V903.lt
      refine own_step (T' := T903) (g' := (mkF m 68 #[.val (.int s0), .val (.int s1), .val (.int s2), .val (.int mode), .val (.int (1 : Int32)), .val (.int ((1 : Int32) + (((XT.ushr mode (1 : Int32)) &&& (3 : Int32)) % (3 : Int32)))), .val (.ref a864), .val (.ref a874), .val (.ref a887), .unset, .unset, .unset, .unset] [(.ref b903)])) st903 ?_
      refine own_step (T' := T903) (g' := (mkF m 69 #[.val (.int s0), .val (.int s1), .val (.int s2), .val (.int mode), .val (.int (1 : Int32)), .val (.int ((1 : Int32) + (((XT.ushr mode (1 : Int32)) &&& (3 : Int32)) % (3 : Int32)))), .val (.ref a864), .val (.ref a874), .val (.ref a887), .unset, .unset, .unset, .unset] [(.ref b903), (.ref b903)])) (fun _ q => XS.dup X903.here hx rfl (hb hby at_68) rfl rfl q) ?_
      refine own_step (T' := T903) (g' := (mkF m 70 #[.val (.int s0), .val (.int s1), .val (.int s2), .val (.int mode), .val (.int (1 : Int32)), .val (.int ((1 : Int32) + (((XT.ushr mode (1 : Int32)) &&& (3 : Int32)) % (3 : Int32)))), .val (.ref a864), .val (.ref a874), .val (.ref a887), .unset, .unset, .unset, .unset] [(.int (0 : Int32)), (.ref b903), (.ref b903)])) (fun _ q => XS.iconst X903.here hx rfl (hb hby at_69) q) ?_
      refine own_step (T' := T903) (g' := (mkF m 72 #[.val (.int s0), .val (.int s1), .val (.int s2), .val (.int mode), .val (.int (1 : Int32)), .val (.int ((1 : Int32) + (((XT.ushr mode (1 : Int32)) &&& (3 : Int32)) % (3 : Int32)))), .val (.ref a864), .val (.ref a874), .val (.ref a887), .unset, .unset, .unset, .unset] [(.ref a864), (.int (0 : Int32)), (.ref b903), (.ref b903)])) (fun _ q => XS.aload X903.here hx rfl (hb hby at_70) rfl rfl q) ?_
      have c921 := (((f1_864.keep K874).keep K887).ext E903)
      obtain ⟨T920, h920, X920, e920, W920, V920, st920⟩ := own_stR X903 hx hZ e903 V903 rfl rfl (fun _ A q => Sto.ofV A q O903 (Ins.self c921)) (j := (0 : Int32)) ⟨by decide, by decide⟩ (i := 0) rfl (Nat.le_of_ble_eq_true rfl) (g := (mkF m 72 #[.val (.int s0), .val (.int s1), .val (.int s2), .val (.int mode), .val (.int (1 : Int32)), .val (.int ((1 : Int32) + (((XT.ushr mode (1 : Int32)) &&& (3 : Int32)) % (3 : Int32)))), .val (.ref a864), .val (.ref a874), .val (.ref a887), .unset, .unset, .unset, .unset] [(.ref a864), (.int (0 : Int32)), (.ref b903), (.ref b903)])) rfl rfl (hb hby at_72)
      replace V920 : Arv Z h920 b903 k903 (.object "java/lang/String") (1 : Int32) [(.ref a864)] .null := V920
      have N922 := Fr.snoc X920 N901 n0_905
      have c924 := (Safe.ext E903 CH898.1 sf918)
      have CH923 := CH919.trans (CHr.wr W920 c924 CH919.1)
      refine own_step (T' := T920) (g' := (mkF m 73 #[.val (.int s0), .val (.int s1), .val (.int s2), .val (.int mode), .val (.int (1 : Int32)), .val (.int ((1 : Int32) + (((XT.ushr mode (1 : Int32)) &&& (3 : Int32)) % (3 : Int32)))), .val (.ref a864), .val (.ref a874), .val (.ref a887), .unset, .unset, .unset, .unset] [(.ref b903)])) st920 ?_
      refine own_step (T' := T920) (g' := (mkF m 75 #[.val (.int s0), .val (.int s1), .val (.int s2), .val (.int mode), .val (.int (1 : Int32)), .val (.int ((1 : Int32) + (((XT.ushr mode (1 : Int32)) &&& (3 : Int32)) % (3 : Int32)))), .val (.ref a864), .val (.ref a874), .val (.ref a887), .val (.ref b903), .unset, .unset, .unset] [])) (fun _ q => XS.astore X920.here hx rfl (hb hby at_73) rfl rfl (l' := #[.val (.int s0), .val (.int s1), .val (.int s2), .val (.int mode), .val (.int (1 : Int32)), .val (.int ((1 : Int32) + (((XT.ushr mode (1 : Int32)) &&& (3 : Int32)) % (3 : Int32)))), .val (.ref a864), .val (.ref a874), .val (.ref a887), .val (.ref b903), .unset, .unset, .unset]) rfl q) ?_
      refine own_step (T' := T920) (g' := (mkF m 124 #[.val (.int s0), .val (.int s1), .val (.int s2), .val (.int mode), .val (.int (1 : Int32)), .val (.int ((1 : Int32) + (((XT.ushr mode (1 : Int32)) &&& (3 : Int32)) % (3 : Int32)))), .val (.ref a864), .val (.ref a874), .val (.ref a887), .val (.ref b903), .unset, .unset, .unset] [])) (fun _ q => XS.goto X920.here hx rfl (pc0 := 75) (pc' := 124) rfl (hb hby at_75) (by decide) (by decide) q) ?_
      obtain ⟨T925, h925, X925, e925, E925, A925, D925, -, st925⟩ := newO X920 hx hZ hown (w27 hw) (w28 hw) (w29 hw) e920 (g := (mkF m 124 #[.val (.int s0), .val (.int s1), .val (.int s2), .val (.int mode), .val (.int (1 : Int32)), .val (.int ((1 : Int32) + (((XT.ushr mode (1 : Int32)) &&& (3 : Int32)) % (3 : Int32)))), .val (.ref a864), .val (.ref a874), .val (.ref a887), .val (.ref b903), .unset, .unset, .unset] [])) rfl (hb hby at_124) (by first | decide | (dsimp only; omega)) (by first | decide | (dsimp only; omega))
      obtain ⟨b925, g925⟩ : ∃ z, z = h920.size := ⟨_, rfl⟩
      rw [← g925] at A925 D925 st925
      have c926 := (Nat.le_trans (Nat.le_trans c904 E903.1) (Keep.of_wr W920).1)
      have n0_927 : n0 ≤ b925 := Nat.le_trans c926 (Nat.le_of_eq g925.symm)
      have c928 := ((c906.ext E903).wr W920 (Or.inr sz0_907))
      have sz0_929 := Nat.le_trans c928.1 (Nat.le_of_eq g925.symm)
      have c930 := (own_lt (own_lt c908 E903.1) (Keep.of_wr W920).1)
      have ne931 : a864 ≠ b925 := own_ne c930 (Nat.le_of_eq g925.symm)
      have c932 := (own_lt (own_lt c910 E903.1) (Keep.of_wr W920).1)
      have ne933 : t864 ≠ b925 := own_ne c932 (Nat.le_of_eq g925.symm)
      have c934 := (own_lt (own_lt c912 E903.1) (Keep.of_wr W920).1)
      have ne935 : a874 ≠ b925 := own_ne c934 (Nat.le_of_eq g925.symm)
      have c936 := (own_lt (own_lt c914 E903.1) (Keep.of_wr W920).1)
      have ne937 : t874 ≠ b925 := own_ne c936 (Nat.le_of_eq g925.symm)
      have c938 := (own_lt (own_lt lt899 E903.1) (Keep.of_wr W920).1)
      have ne939 : a887 ≠ b925 := own_ne c938 (Nat.le_of_eq g925.symm)
      have c940 := (own_lt (own_lt lt900 E903.1) (Keep.of_wr W920).1)
      have ne941 : t887 ≠ b925 := own_ne c940 (Nat.le_of_eq g925.symm)
      have c942 := (own_lt ltb903 (Keep.of_wr W920).1)
      have ne943 : b903 ≠ b925 := own_ne c942 (Nat.le_of_eq g925.symm)
      have sf944 : Safe Z own_EL _ _ b925 := Safe.new (EL := own_EL) (Z := Z) (vm := T887.vm) (Nat.le_of_eq g925.symm)
      have CH945 := CH923.trans (CHr.ext E925 CH923.1)
      have ltb925 := A925.lt
      have F946 : Fld Z h925 b925 "com/example/gangway/gangway/tool/CommandLine$Option" "repeatable" "Z" (.int (0 : Int32)) := D925 (Or.inr (w35 hw)) (ty := .boolean) (by decide)
      have F947 : Fld Z h925 b925 "com/example/gangway/gangway/tool/CommandLine$Option" "spellings" "Ljava/util/List;" .null := D925 (Or.inr (w77 hw)) (ty := (.object "java/util/List")) (by decide)
      refine own_step (T' := T925) (g' := (mkF m 127 #[.val (.int s0), .val (.int s1), .val (.int s2), .val (.int mode), .val (.int (1 : Int32)), .val (.int ((1 : Int32) + (((XT.ushr mode (1 : Int32)) &&& (3 : Int32)) % (3 : Int32)))), .val (.ref a864), .val (.ref a874), .val (.ref a887), .val (.ref b903), .unset, .unset, .unset] [(.ref b925)])) st925 ?_
      refine own_step (T' := T925) (g' := (mkF m 128 #[.val (.int s0), .val (.int s1), .val (.int s2), .val (.int mode), .val (.int (1 : Int32)), .val (.int ((1 : Int32) + (((XT.ushr mode (1 : Int32)) &&& (3 : Int32)) % (3 : Int32)))), .val (.ref a864), .val (.ref a874), .val (.ref a887), .val (.ref b903), .unset, .unset, .unset] [(.ref b925), (.ref b925)])) (fun _ q => XS.dup X925.here hx rfl (hb hby at_127) rfl rfl q) ?_
      refine own_step (T' := T925) (g' := (mkF m 130 #[.val (.int s0), .val (.int s1), .val (.int s2), .val (.int mode), .val (.int (1 : Int32)), .val (.int ((1 : Int32) + (((XT.ushr mode (1 : Int32)) &&& (3 : Int32)) % (3 : Int32)))), .val (.ref a864), .val (.ref a874), .val (.ref a887), .val (.ref b903), .unset, .unset, .unset] [(.int (1 : Int32)), (.ref b925), (.ref b925)])) (fun _ q => XS.iload X925.here hx rfl (hb hby at_128) rfl q) ?_
      refine own_step (T' := T925) (g' := (mkF m 132 #[.val (.int s0), .val (.int s1), .val (.int s2), .val (.int mode), .val (.int (1 : Int32)), .val (.int ((1 : Int32) + (((XT.ushr mode (1 : Int32)) &&& (3 : Int32)) % (3 : Int32)))), .val (.ref a864), .val (.ref a874), .val (.ref a887), .val (.ref b903), .unset, .unset, .unset] [(.ref b903), (.int (1 : Int32)), (.ref b925), (.ref b925)])) (fun _ q => XS.aload X925.here hx rfl (hb hby at_130) rfl rfl q) ?_
      have c948 := ((((c885.keep K887 all0).ext E903).wr W920 n0_905).ext E925)
      have c949 := (V920.ext E925)
      have c950 := ((c921.wr W920).ext E925)
      have c951 := (Nat.le_trans c926 E925.1)
      refine own_callC X925 hx hZ hown rfl (w30 hw) (w31 hw) (w32 hw) (by decide) (backOf (W := 1) (own_opt1 l Z a0 hw [] G5 b925 (1 : Int32) b903 k903 a864 h925 n0 c951 EM rG5 c948 A925 n0_927 F946 F947 c949 c950) hZ (w32 hw) (w29 hw) (Nat.le_of_ble_eq_true rfl) (Nat.le_of_ble_eq_true rfl)) e925  (by first | decide | (dsimp only; omega)) (by first | decide | (dsimp only; omega)) (g := (mkF m 132 #[.val (.int s0), .val (.int s1), .val (.int s2), .val (.int mode), .val (.int (1 : Int32)), .val (.int ((1 : Int32) + (((XT.ushr mode (1 : Int32)) &&& (3 : Int32)) % (3 : Int32)))), .val (.ref a864), .val (.ref a874), .val (.ref a887), .val (.ref b903), .unset, .unset, .unset] [(.ref b903), (.int (1 : Int32)), (.ref b925), (.ref b925)])) (argsL := [(.int (1 : Int32)), (.ref b903)]) (rest := [(.ref b925)]) rfl (by rw [hml]; rfl) (lenOf pd_14 rfl) rfl rfl (by show 2 * 0 + _ ≤ _; exact Nat.le_of_eq rfl) (hb hby at_132) ?_
      rintro _ T952 L952 X952 ⟨lst952, rfl, N952q, K952, f0_952, f1_952, f2_952, f3_952, f4_952⟩
      have n0_953 : n0 ≤ lst952 := Nat.le_trans c951 f0_952
      have c954 := (c928.ext E925)
      have sz0_955 := Nat.le_trans c954.1 f0_952
      have c956 := (own_lt c930 E925.1)
      have ne957 : a864 ≠ lst952 := own_ne c956 f0_952
      have c958 := (own_lt c932 E925.1)
      have ne959 : t864 ≠ lst952 := own_ne c958 f0_952
      have c960 := (own_lt c934 E925.1)
      have ne961 : a874 ≠ lst952 := own_ne c960 f0_952
      have c962 := (own_lt c936 E925.1)
      have ne963 : t874 ≠ lst952 := own_ne c962 f0_952
      have c964 := (own_lt c938 E925.1)
      have ne965 : a887 ≠ lst952 := own_ne c964 f0_952
      have c966 := (own_lt c940 E925.1)
      have ne967 : t887 ≠ lst952 := own_ne c966 f0_952
      have c968 := (own_lt c942 E925.1)
      have ne969 : b903 ≠ lst952 := own_ne c968 f0_952
      have ne970 : b925 ≠ lst952 := own_ne ltb925 f0_952
      have sf971 : Safe Z own_EL _ _ lst952 := Safe.new (EL := own_EL) (Z := Z) (vm := T887.vm) f0_952
      have c973 := (Safe.ext E925 CH923.1 sf944)
      have CH972 := CH945.trans (CHr.keep K952 (sfS c973 sf0) CH945.1)
      have lt974 := f3_952.lt
      have N975 := Fr.app N922 N952q
      show own_Fin p e below _ T952 (mkF m 135 #[.val (.int s0), .val (.int s1), .val (.int s2), .val (.int mode), .val (.int (1 : Int32)), .val (.int ((1 : Int32) + (((XT.ushr mode (1 : Int32)) &&& (3 : Int32)) % (3 : Int32)))), .val (.ref a864), .val (.ref a874), .val (.ref a887), .val (.ref b903), .unset, .unset, .unset] [(.ref b925)])
      refine own_step (T' := T952) (g' := (mkF m 137 #[.val (.int s0), .val (.int s1), .val (.int s2), .val (.int mode), .val (.int (1 : Int32)), .val (.int ((1 : Int32) + (((XT.ushr mode (1 : Int32)) &&& (3 : Int32)) % (3 : Int32)))), .val (.ref a864), .val (.ref a874), .val (.ref a887), .val (.ref b903), .val (.ref b925), .unset, .unset] [])) (fun _ q => XS.astore X952.here hx rfl (hb hby at_135) rfl rfl (l' := #[.val (.int s0), .val (.int s1), .val (.int s2), .val (.int mode), .val (.int (1 : Int32)), .val (.int ((1 : Int32) + (((XT.ushr mode (1 : Int32)) &&& (3 : Int32)) % (3 : Int32)))), .val (.ref a864), .val (.ref a874), .val (.ref a887), .val (.ref b903), .val (.ref b925), .unset, .unset]) rfl q) ?_
      refine own_step (T' := T952) (g' := (mkF m 139 #[.val (.int s0), .val (.int s1), .val (.int s2), .val (.int mode), .val (.int (1 : Int32)), .val (.int ((1 : Int32) + (((XT.ushr mode (1 : Int32)) &&& (3 : Int32)) % (3 : Int32)))), .val (.ref a864), .val (.ref a874), .val (.ref a887), .val (.ref b903), .val (.ref b925), .unset, .unset] [(.ref b925)])) (fun _ q => XS.aload X952.here hx rfl (hb hby at_137) rfl rfl q) ?_
      have c976 := (c950.keep K952)
      have c977 := (Nat.le_trans c951 K952.1)
      refine own_callV (y := (⟨"com/example/gangway/gangway/tool/CommandLine$Option", "name", "()Ljava/lang/String;"⟩ : MethodName)) (z := (⟨"com/example/gangway/gangway/tool/CommandLine$Option", "name", "()Ljava/lang/String;"⟩ : MethodName)) X952 hx hZ hown (w78 hw) (w79 hw) (notFace_of_selects (args := #[]) (mvT hZ (w81 hw))) (w81 hw) (w80 hw) (by decide) (backOf (W := 0) (own_nm12 l Z a0 hw [] b925 lst952 a864 T952.heap n0 c977 f2_952 f3_952 f4_952 c976) hZ (w82 hw) (w29 hw) (Nat.le_of_ble_eq_true rfl) (Nat.le_of_ble_eq_true rfl)) rfl f1_952  (by first | decide | (dsimp only; omega)) (by first | decide | (dsimp only; omega)) (g := (mkF m 139 #[.val (.int s0), .val (.int s1), .val (.int s2), .val (.int mode), .val (.int (1 : Int32)), .val (.int ((1 : Int32) + (((XT.ushr mode (1 : Int32)) &&& (3 : Int32)) % (3 : Int32)))), .val (.ref a864), .val (.ref a874), .val (.ref a887), .val (.ref b903), .val (.ref b925), .unset, .unset] [(.ref b925)])) (argsL := []) (rest := []) rfl (by rw [hml]; rfl) (lenOf pd_15 rfl) rfl rfl (by show 2 * 0 + _ ≤ _; exact Nat.le_of_eq rfl) (hb hby at_139) ?_
      rintro _ T978 L978 X978 ⟨rfl, N978q, e978⟩
      have N979 := Fr.app N975 N978q
      show own_Fin p e below _ T978 (mkF m 142 #[.val (.int s0), .val (.int s1), .val (.int s2), .val (.int mode), .val (.int (1 : Int32)), .val (.int ((1 : Int32) + (((XT.ushr mode (1 : Int32)) &&& (3 : Int32)) % (3 : Int32)))), .val (.ref a864), .val (.ref a874), .val (.ref a887), .val (.ref b903), .val (.ref b925), .unset, .unset] [(.ref a864)])
      refine own_step (T' := T978) (g' := (mkF m 144 #[.val (.int s0), .val (.int s1), .val (.int s2), .val (.int mode), .val (.int (1 : Int32)), .val (.int ((1 : Int32) + (((XT.ushr mode (1 : Int32)) &&& (3 : Int32)) % (3 : Int32)))), .val (.ref a864), .val (.ref a874), .val (.ref a887), .val (.ref b903), .val (.ref b925), .val (.ref a864), .unset] [])) (fun _ q => XS.astore X978.here hx rfl (hb hby at_142) rfl rfl (l' := #[.val (.int s0), .val (.int s1), .val (.int s2), .val (.int mode), .val (.int (1 : Int32)), .val (.int ((1 : Int32) + (((XT.ushr mode (1 : Int32)) &&& (3 : Int32)) % (3 : Int32)))), .val (.ref a864), .val (.ref a874), .val (.ref a887), .val (.ref b903), .val (.ref b925), .val (.ref a864), .unset]) rfl q) ?_
      refine own_step (T' := T978) (g' := (mkF m 146 #[.val (.int s0), .val (.int s1), .val (.int s2), .val (.int mode), .val (.int (1 : Int32)), .val (.int ((1 : Int32) + (((XT.ushr mode (1 : Int32)) &&& (3 : Int32)) % (3 : Int32)))), .val (.ref a864), .val (.ref a874), .val (.ref a887), .val (.ref b903), .val (.ref b925), .val (.ref a864), .unset] [(.ref b903)])) (fun _ q => XS.aload X978.here hx rfl (hb hby at_144) rfl rfl q) ?_
      refine own_step (T' := T978) (g' := (mkF m 147 #[.val (.int s0), .val (.int s1), .val (.int s2), .val (.int mode), .val (.int (1 : Int32)), .val (.int ((1 : Int32) + (((XT.ushr mode (1 : Int32)) &&& (3 : Int32)) % (3 : Int32)))), .val (.ref a864), .val (.ref a874), .val (.ref a887), .val (.ref b903), .val (.ref b925), .val (.ref a864), .unset] [(.int (0 : Int32)), (.ref b903)])) (fun _ q => XS.iconst X978.here hx rfl (hb hby at_146) q) ?_
      refine own_step (T' := T978) (g' := (mkF m 149 #[.val (.int s0), .val (.int s1), .val (.int s2), .val (.int mode), .val (.int (1 : Int32)), .val (.int ((1 : Int32) + (((XT.ushr mode (1 : Int32)) &&& (3 : Int32)) % (3 : Int32)))), .val (.ref a864), .val (.ref a874), .val (.ref a887), .val (.ref b903), .val (.ref b925), .val (.ref a864), .unset] [(.ref a874), (.int (0 : Int32)), (.ref b903)])) (fun _ q => XS.aload X978.here hx rfl (hb hby at_147) rfl rfl q) ?_
      have c980 := (c949.keep K952 (ninS ne943 nin0))
      have c982 := (((((f1_874.keep K887).ext E903).wr W920).ext E925).keep K952)
      obtain ⟨T981, h981, X981, e981, W981, V981, st981⟩ := own_stR X978 hx hZ e978 c980 rfl rfl (fun _ A q => Sto.ofV A q O903 (Ins.self c982)) (j := (0 : Int32)) ⟨by decide, by decide⟩ (i := 0) rfl (Nat.le_of_ble_eq_true rfl) (g := (mkF m 149 #[.val (.int s0), .val (.int s1), .val (.int s2), .val (.int mode), .val (.int (1 : Int32)), .val (.int ((1 : Int32) + (((XT.ushr mode (1 : Int32)) &&& (3 : Int32)) % (3 : Int32)))), .val (.ref a864), .val (.ref a874), .val (.ref a887), .val (.ref b903), .val (.ref b925), .val (.ref a864), .unset] [(.ref a874), (.int (0 : Int32)), (.ref b903)])) rfl rfl (hb hby at_149)
      replace V981 : Arv Z h981 b903 k903 (.object "java/lang/String") (1 : Int32) [(.ref a874)] .null := V981
      have N983 := Fr.snoc X981 N979 n0_905
      have c985 := (Safe.keep K952 (sfS c973 sf0) CH945.1 (Safe.ext E925 CH923.1 (Safe.wr W920 c924 CH919.1 c924)))
      have CH984 := CH972.trans (CHr.wr W981 c985 CH972.1)
      refine own_step (T' := T981) (g' := (mkF m 150 #[.val (.int s0), .val (.int s1), .val (.int s2), .val (.int mode), .val (.int (1 : Int32)), .val (.int ((1 : Int32) + (((XT.ushr mode (1 : Int32)) &&& (3 : Int32)) % (3 : Int32)))), .val (.ref a864), .val (.ref a874), .val (.ref a887), .val (.ref b903), .val (.ref b925), .val (.ref a864), .unset] [])) st981 ?_
      refine own_step (T' := T981) (g' := (mkF m 152 #[.val (.int s0), .val (.int s1), .val (.int s2), .val (.int mode), .val (.int (1 : Int32)), .val (.int ((1 : Int32) + (((XT.ushr mode (1 : Int32)) &&& (3 : Int32)) % (3 : Int32)))), .val (.ref a864), .val (.ref a874), .val (.ref a887), .val (.ref b903), .val (.ref b925), .val (.ref a864), .unset] [(.ref b925)])) (fun _ q => XS.aload X981.here hx rfl (hb hby at_150) rfl rfl q) ?_
      have c986 := (f2_952.other W981 (Or.inl (Ne.symm ne943)))
      have c987 := (f3_952.wr W981)
      have c988 := (f4_952.other W981 (Or.inl (Ne.symm ne969)))
      have c989 := (c976.wr W981)
      have c990 := (Nat.le_trans c977 (Keep.of_wr W981).1)
      have c992 := (f1_952.wr W981)
      refine own_callV (y := (⟨"com/example/gangway/gangway/tool/CommandLine$Option", "name", "()Ljava/lang/String;"⟩ : MethodName)) (z := (⟨"com/example/gangway/gangway/tool/CommandLine$Option", "name", "()Ljava/lang/String;"⟩ : MethodName)) X981 hx hZ hown (w78 hw) (w79 hw) (notFace_of_selects (args := #[]) (mvT hZ (w81 hw))) (w81 hw) (w80 hw) (by decide) (backOf (W := 0) (own_nm12 l Z a0 hw [] b925 lst952 a864 h981 n0 c990 c986 c987 c988 c989) hZ (w82 hw) (w29 hw) (Nat.le_of_ble_eq_true rfl) (Nat.le_of_ble_eq_true rfl)) e981 c992  (by first | decide | (dsimp only; omega)) (by first | decide | (dsimp only; omega)) (g := (mkF m 152 #[.val (.int s0), .val (.int s1), .val (.int s2), .val (.int mode), .val (.int (1 : Int32)), .val (.int ((1 : Int32) + (((XT.ushr mode (1 : Int32)) &&& (3 : Int32)) % (3 : Int32)))), .val (.ref a864), .val (.ref a874), .val (.ref a887), .val (.ref b903), .val (.ref b925), .val (.ref a864), .unset] [(.ref b925)])) (argsL := []) (rest := []) rfl (by rw [hml]; rfl) (lenOf pd_15 rfl) rfl rfl (by show 2 * 0 + _ ≤ _; exact Nat.le_of_eq rfl) (hb hby at_152) ?_
      rintro _ T991 L991 X991 ⟨rfl, N991q, e991⟩
      have N993 := Fr.app N983 N991q
      show own_Fin p e below _ T991 (mkF m 155 #[.val (.int s0), .val (.int s1), .val (.int s2), .val (.int mode), .val (.int (1 : Int32)), .val (.int ((1 : Int32) + (((XT.ushr mode (1 : Int32)) &&& (3 : Int32)) % (3 : Int32)))), .val (.ref a864), .val (.ref a874), .val (.ref a887), .val (.ref b903), .val (.ref b925), .val (.ref a864), .unset] [(.ref a864)])
      refine own_step (T' := T991) (g' := (mkF m 157 #[.val (.int s0), .val (.int s1), .val (.int s2), .val (.int mode), .val (.int (1 : Int32)), .val (.int ((1 : Int32) + (((XT.ushr mode (1 : Int32)) &&& (3 : Int32)) % (3 : Int32)))), .val (.ref a864), .val (.ref a874), .val (.ref a887), .val (.ref b903), .val (.ref b925), .val (.ref a864), .val (.ref a864)] [])) (fun _ q => XS.astore X991.here hx rfl (hb hby at_155) rfl rfl (l' := #[.val (.int s0), .val (.int s1), .val (.int s2), .val (.int mode), .val (.int (1 : Int32)), .val (.int ((1 : Int32) + (((XT.ushr mode (1 : Int32)) &&& (3 : Int32)) % (3 : Int32)))), .val (.ref a864), .val (.ref a874), .val (.ref a887), .val (.ref b903), .val (.ref b925), .val (.ref a864), .val (.ref a864)]) rfl q) ?_
      refine own_step (T' := T991) (g' := (mkF m 159 #[.val (.int s0), .val (.int s1), .val (.int s2), .val (.int mode), .val (.int (1 : Int32)), .val (.int ((1 : Int32) + (((XT.ushr mode (1 : Int32)) &&& (3 : Int32)) % (3 : Int32)))), .val (.ref a864), .val (.ref a874), .val (.ref a887), .val (.ref b903), .val (.ref b925), .val (.ref a864), .val (.ref a864)] [(.ref a864)])) (fun _ q => XS.aload X991.here hx rfl (hb hby at_157) rfl rfl q) ?_
      refine own_step (T' := T991) (g' := (mkF m 161 #[.val (.int s0), .val (.int s1), .val (.int s2), .val (.int mode), .val (.int (1 : Int32)), .val (.int ((1 : Int32) + (((XT.ushr mode (1 : Int32)) &&& (3 : Int32)) % (3 : Int32)))), .val (.ref a864), .val (.ref a874), .val (.ref a887), .val (.ref b903), .val (.ref b925), .val (.ref a864), .val (.ref a864)] [(.ref a864), (.ref a864)])) (fun _ q => XS.aload X991.here hx rfl (hb hby at_159) rfl rfl q) ?_
      refine own_callV (y := (⟨"java/lang/String", "equals", "(Ljava/lang/Object;)Z"⟩ : MethodName)) (z := (⟨"java/lang/String", "equals", "(Ljava/lang/Object;)Z"⟩ : MethodName)) X991 hx hZ hown (w93 hw) (w94 hw) (notFace_of_selects (args := #[]) (mvT hZ (w96 hw))) (w96 hw) (w95 hw) (by decide) (backOf (W := 0) (own_eqs l Z a0 hw [] a864 h981 n0 c990 ) hZ (w97 hw) (w6 hw) (Nat.le_of_ble_eq_true rfl) (Nat.le_of_ble_eq_true rfl)) e991 c989  (by first | decide | (dsimp only; omega)) (by first | decide | (dsimp only; omega)) (g := (mkF m 161 #[.val (.int s0), .val (.int s1), .val (.int s2), .val (.int mode), .val (.int (1 : Int32)), .val (.int ((1 : Int32) + (((XT.ushr mode (1 : Int32)) &&& (3 : Int32)) % (3 : Int32)))), .val (.ref a864), .val (.ref a874), .val (.ref a887), .val (.ref b903), .val (.ref b925), .val (.ref a864), .val (.ref a864)] [(.ref a864), (.ref a864)])) (argsL := [(.ref a864)]) (rest := []) rfl (by rw [hml]; rfl) (lenOf pd_16 rfl) rfl rfl (by show 2 * 0 + _ ≤ _; exact Nat.le_of_eq rfl) (hb hby at_161) ?_
      rintro _ T994 L994 X994 ⟨rfl, N994q, e994⟩
      have N995 := Fr.app N993 N994q
      show own_Fin p e below _ T994 (mkF m 164 #[.val (.int s0), .val (.int s1), .val (.int s2), .val (.int mode), .val (.int (1 : Int32)), .val (.int ((1 : Int32) + (((XT.ushr mode (1 : Int32)) &&& (3 : Int32)) % (3 : Int32)))), .val (.ref a864), .val (.ref a874), .val (.ref a887), .val (.ref b903), .val (.ref b925), .val (.ref a864), .val (.ref a864)] [(.int (1 : Int32))])
      refine own_step (T' := T994) (g' := (mkF m 167 #[.val (.int s0), .val (.int s1), .val (.int s2), .val (.int mode), .val (.int (1 : Int32)), .val (.int ((1 : Int32) + (((XT.ushr mode (1 : Int32)) &&& (3 : Int32)) % (3 : Int32)))), .val (.ref a864), .val (.ref a874), .val (.ref a887), .val (.ref b903), .val (.ref b925), .val (.ref a864), .val (.ref a864)] [])) (fun _ q => XS.ifNo X994.here hx rfl (hb hby at_164) rfl (by decide) q) ?_
      refine own_step (T' := T994) (g' := (mkF m 169 #[.val (.int s0), .val (.int s1), .val (.int s2), .val (.int mode), .val (.int (1 : Int32)), .val (.int ((1 : Int32) + (((XT.ushr mode (1 : Int32)) &&& (3 : Int32)) % (3 : Int32)))), .val (.ref a864), .val (.ref a874), .val (.ref a887), .val (.ref b903), .val (.ref b925), .val (.ref a864), .val (.ref a864)] [(.ref a864)])) (fun _ q => XS.aload X994.here hx rfl (hb hby at_167) rfl rfl q) ?_
      refine own_step (T' := T994) (g' := (mkF m 171 #[.val (.int s0), .val (.int s1), .val (.int s2), .val (.int mode), .val (.int (1 : Int32)), .val (.int ((1 : Int32) + (((XT.ushr mode (1 : Int32)) &&& (3 : Int32)) % (3 : Int32)))), .val (.ref a864), .val (.ref a874), .val (.ref a887), .val (.ref b903), .val (.ref b925), .val (.ref a864), .val (.ref a864)] [(.ref a864), (.ref a864)])) (fun _ q => XS.aload X994.here hx rfl (hb hby at_169) rfl rfl q) ?_
      refine own_callV (y := (⟨"java/lang/String", "equals", "(Ljava/lang/Object;)Z"⟩ : MethodName)) (z := (⟨"java/lang/String", "equals", "(Ljava/lang/Object;)Z"⟩ : MethodName)) X994 hx hZ hown (w93 hw) (w94 hw) (notFace_of_selects (args := #[]) (mvT hZ (w96 hw))) (w96 hw) (w95 hw) (by decide) (backOf (W := 0) (own_eqs l Z a0 hw [] a864 h981 n0 c990 ) hZ (w97 hw) (w6 hw) (Nat.le_of_ble_eq_true rfl) (Nat.le_of_ble_eq_true rfl)) e994 c989  (by first | decide | (dsimp only; omega)) (by first | decide | (dsimp only; omega)) (g := (mkF m 171 #[.val (.int s0), .val (.int s1), .val (.int s2), .val (.int mode), .val (.int (1 : Int32)), .val (.int ((1 : Int32) + (((XT.ushr mode (1 : Int32)) &&& (3 : Int32)) % (3 : Int32)))), .val (.ref a864), .val (.ref a874), .val (.ref a887), .val (.ref b903), .val (.ref b925), .val (.ref a864), .val (.ref a864)] [(.ref a864), (.ref a864)])) (argsL := [(.ref a864)]) (rest := []) rfl (by rw [hml]; rfl) (lenOf pd_16 rfl) rfl rfl (by show 2 * 0 + _ ≤ _; exact Nat.le_of_eq rfl) (hb hby at_171) ?_
      rintro _ T996 L996 X996 ⟨rfl, N996q, e996⟩
      have N997 := Fr.app N995 N996q
      show own_Fin p e below _ T996 (mkF m 174 #[.val (.int s0), .val (.int s1), .val (.int s2), .val (.int mode), .val (.int (1 : Int32)), .val (.int ((1 : Int32) + (((XT.ushr mode (1 : Int32)) &&& (3 : Int32)) % (3 : Int32)))), .val (.ref a864), .val (.ref a874), .val (.ref a887), .val (.ref b903), .val (.ref b925), .val (.ref a864), .val (.ref a864)] [(.int (1 : Int32))])
      refine own_step (T' := T996) (g' := (mkF m 177 #[.val (.int s0), .val (.int s1), .val (.int s2), .val (.int mode), .val (.int (1 : Int32)), .val (.int ((1 : Int32) + (((XT.ushr mode (1 : Int32)) &&& (3 : Int32)) % (3 : Int32)))), .val (.ref a864), .val (.ref a874), .val (.ref a887), .val (.ref b903), .val (.ref b925), .val (.ref a864), .val (.ref a864)] [])) (fun _ q => XS.ifNo X996.here hx rfl (hb hby at_174) rfl (by decide) q) ?_
      refine own_step (T' := T996) (g' := (mkF m 179 #[.val (.int s0), .val (.int s1), .val (.int s2), .val (.int mode), .val (.int (1 : Int32)), .val (.int ((1 : Int32) + (((XT.ushr mode (1 : Int32)) &&& (3 : Int32)) % (3 : Int32)))), .val (.ref a864), .val (.ref a874), .val (.ref a887), .val (.ref b903), .val (.ref b925), .val (.ref a864), .val (.ref a864)] [(.ref a864)])) (fun _ q => XS.aload X996.here hx rfl (hb hby at_177) rfl rfl q) ?_
      have c998 := (((((((f2_864.keep K874 nin0).keep K887 nin0).ext E903).other W920 (Or.inl ne909)).ext E925).keep K952 (ninS ne931 nin0)).other W981 (Or.inl ne909))
      have c999 := (((((((f3_864.keep K874 nin0).keep K887 nin0).ext E903).other W920 (Or.inl ne909)).ext E925).keep K952 (ninS ne931 nin0)).other W981 (Or.inl ne909))
      have c1000 := (((((((f4_864.keep K874 nin0).keep K887 nin0).ext E903).other W920 ne911).ext E925).keep K952 (ninS ne933 nin0)).other W981 ne911)
      have c1001 := ((c948.keep K952 (allS n0_927 all0)).wr W981 n0_905)
      refine own_callV (y := (⟨"java/lang/String", "length", "()I"⟩ : MethodName)) (z := (⟨"java/lang/String", "length", "()I"⟩ : MethodName)) (Q := fun v h' L => v = some (.int (Int32.ofNat (cs864).length)) ∧ L = [] ∧ h' = h981) X996 hx hZ hown (w98 hw) (w99 hw) (notFace_of_selects (args := #[]) (mvT hZ (w101 hw))) (w101 hw) (w100 hw) (by decide) (StrChars.Road.lenW (W := 0) hZ (own_wl hw) (kI := 4) (w5 hw) c989 c998 c999 c1000 p0_864 p1_864.1 (O2.ext c1001.2) P5 p1_864.2 (by decide) (by decide)) e996 c989  (by first | decide | (dsimp only; omega)) (by first | decide | (dsimp only; omega)) (g := (mkF m 179 #[.val (.int s0), .val (.int s1), .val (.int s2), .val (.int mode), .val (.int (1 : Int32)), .val (.int ((1 : Int32) + (((XT.ushr mode (1 : Int32)) &&& (3 : Int32)) % (3 : Int32)))), .val (.ref a864), .val (.ref a874), .val (.ref a887), .val (.ref b903), .val (.ref b925), .val (.ref a864), .val (.ref a864)] [(.ref a864)])) (argsL := []) (rest := []) rfl (by rw [hml]; rfl) (lenOf pd_17 rfl) rfl rfl (by show 2 * 0 + _ ≤ _; exact Nat.le_of_eq rfl) (hb hby at_179) ?_
      rintro _ T1002 L1002 X1002 ⟨rfl, rfl, e1002⟩
      have N1002q := Fr.nil n0
      have N1003 := Fr.app N997 N1002q
      show own_Fin p e below _ T1002 (mkF m 182 #[.val (.int s0), .val (.int s1), .val (.int s2), .val (.int mode), .val (.int (1 : Int32)), .val (.int ((1 : Int32) + (((XT.ushr mode (1 : Int32)) &&& (3 : Int32)) % (3 : Int32)))), .val (.ref a864), .val (.ref a874), .val (.ref a887), .val (.ref b903), .val (.ref b925), .val (.ref a864), .val (.ref a864)] [(.int (Int32.ofNat (cs864).length))])
      refine own_step (T' := T1002) (g' := (mkF m 184 #[.val (.int s0), .val (.int s1), .val (.int s2), .val (.int mode), .val (.int (1 : Int32)), .val (.int ((1 : Int32) + (((XT.ushr mode (1 : Int32)) &&& (3 : Int32)) % (3 : Int32)))), .val (.ref a864), .val (.ref a874), .val (.ref a887), .val (.ref b903), .val (.ref b925), .val (.ref a864), .val (.ref a864)] [(.ref a864), (.int (Int32.ofNat (cs864).length))])) (fun _ q => XS.aload X1002.here hx rfl (hb hby at_182) rfl rfl q) ?_
      refine own_callV (y := (⟨"java/lang/String", "length", "()I"⟩ : MethodName)) (z := (⟨"java/lang/String", "length", "()I"⟩ : MethodName)) (Q := fun v h' L => v = some (.int (Int32.ofNat (cs864).length)) ∧ L = [] ∧ h' = h981) X1002 hx hZ hown (w98 hw) (w99 hw) (notFace_of_selects (args := #[]) (mvT hZ (w101 hw))) (w101 hw) (w100 hw) (by decide) (StrChars.Road.lenW (W := 1) hZ (own_wl hw) (kI := 4) (w5 hw) c989 c998 c999 c1000 p0_864 p1_864.1 (O2.ext c1001.2) P5 p1_864.2 (by decide) (by decide)) e1002 c989  (by first | decide | (dsimp only; omega)) (by first | decide | (dsimp only; omega)) (g := (mkF m 184 #[.val (.int s0), .val (.int s1), .val (.int s2), .val (.int mode), .val (.int (1 : Int32)), .val (.int ((1 : Int32) + (((XT.ushr mode (1 : Int32)) &&& (3 : Int32)) % (3 : Int32)))), .val (.ref a864), .val (.ref a874), .val (.ref a887), .val (.ref b903), .val (.ref b925), .val (.ref a864), .val (.ref a864)] [(.ref a864), (.int (Int32.ofNat (cs864).length))])) (argsL := []) (rest := [(.int (Int32.ofNat (cs864).length))]) rfl (by rw [hml]; rfl) (lenOf pd_17 rfl) rfl rfl (by show 2 * 0 + _ ≤ _; exact Nat.le_of_eq rfl) (hb hby at_184) ?_
      rintro _ T1004 L1004 X1004 ⟨rfl, rfl, e1004⟩
      have N1004q := Fr.nil n0
      have N1005 := Fr.app N1003 N1004q
      show own_Fin p e below _ T1004 (mkF m 187 #[.val (.int s0), .val (.int s1), .val (.int s2), .val (.int mode), .val (.int (1 : Int32)), .val (.int ((1 : Int32) + (((XT.ushr mode (1 : Int32)) &&& (3 : Int32)) % (3 : Int32)))), .val (.ref a864), .val (.ref a874), .val (.ref a887), .val (.ref b903), .val (.ref b925), .val (.ref a864), .val (.ref a864)] [(.int (Int32.ofNat (cs864).length)), (.int (Int32.ofNat (cs864).length))])
      refine own_step (T' := T1004) (g' := (mkF m 190 #[.val (.int s0), .val (.int s1), .val (.int s2), .val (.int mode), .val (.int (1 : Int32)), .val (.int ((1 : Int32) + (((XT.ushr mode (1 : Int32)) &&& (3 : Int32)) % (3 : Int32)))), .val (.ref a864), .val (.ref a874), .val (.ref a887), .val (.ref b903), .val (.ref b925), .val (.ref a864), .val (.ref a864)] [])) (fun _ q => XS.icmpNo X1004.here hx rfl (hb hby at_187) rfl (XT.ii_ne_f rfl) q) ?_
      refine own_step (T' := T1004) (g' := (mkF m 192 #[.val (.int s0), .val (.int s1), .val (.int s2), .val (.int mode), .val (.int (1 : Int32)), .val (.int ((1 : Int32) + (((XT.ushr mode (1 : Int32)) &&& (3 : Int32)) % (3 : Int32)))), .val (.ref a864), .val (.ref a874), .val (.ref a887), .val (.ref b903), .val (.ref b925), .val (.ref a864), .val (.ref a864)] [(.ref a864)])) (fun _ q => XS.aload X1004.here hx rfl (hb hby at_190) rfl rfl q) ?_
      refine own_step (T' := T1004) (g' := (mkF m 194 #[.val (.int s0), .val (.int s1), .val (.int s2), .val (.int mode), .val (.int (1 : Int32)), .val (.int ((1 : Int32) + (((XT.ushr mode (1 : Int32)) &&& (3 : Int32)) % (3 : Int32)))), .val (.ref a864), .val (.ref a874), .val (.ref a887), .val (.ref b903), .val (.ref b925), .val (.ref a864), .val (.ref a864)] [(.ref a864), (.ref a864)])) (fun _ q => XS.aload X1004.here hx rfl (hb hby at_192) rfl rfl q) ?_
      refine own_callV (y := (⟨"java/lang/String", "equals", "(Ljava/lang/Object;)Z"⟩ : MethodName)) (z := (⟨"java/lang/String", "equals", "(Ljava/lang/Object;)Z"⟩ : MethodName)) X1004 hx hZ hown (w93 hw) (w94 hw) (notFace_of_selects (args := #[]) (mvT hZ (w96 hw))) (w96 hw) (w95 hw) (by decide) (backOf (W := 0) (own_eqs l Z a0 hw [] a864 h981 n0 c990 ) hZ (w97 hw) (w6 hw) (Nat.le_of_ble_eq_true rfl) (Nat.le_of_ble_eq_true rfl)) e1004 c989  (by first | decide | (dsimp only; omega)) (by first | decide | (dsimp only; omega)) (g := (mkF m 194 #[.val (.int s0), .val (.int s1), .val (.int s2), .val (.int mode), .val (.int (1 : Int32)), .val (.int ((1 : Int32) + (((XT.ushr mode (1 : Int32)) &&& (3 : Int32)) % (3 : Int32)))), .val (.ref a864), .val (.ref a874), .val (.ref a887), .val (.ref b903), .val (.ref b925), .val (.ref a864), .val (.ref a864)] [(.ref a864), (.ref a864)])) (argsL := [(.ref a864)]) (rest := []) rfl (by rw [hml]; rfl) (lenOf pd_16 rfl) rfl rfl (by show 2 * 0 + _ ≤ _; exact Nat.le_of_eq rfl) (hb hby at_194) ?_
      rintro _ T1006 L1006 X1006 ⟨rfl, N1006q, e1006⟩
      have N1007 := Fr.app N1005 N1006q
      show own_Fin p e below _ T1006 (mkF m 197 #[.val (.int s0), .val (.int s1), .val (.int s2), .val (.int mode), .val (.int (1 : Int32)), .val (.int ((1 : Int32) + (((XT.ushr mode (1 : Int32)) &&& (3 : Int32)) % (3 : Int32)))), .val (.ref a864), .val (.ref a874), .val (.ref a887), .val (.ref b903), .val (.ref b925), .val (.ref a864), .val (.ref a864)] [(.int (1 : Int32))])
      refine own_step (T' := T1006) (g' := (mkF m 200 #[.val (.int s0), .val (.int s1), .val (.int s2), .val (.int mode), .val (.int (1 : Int32)), .val (.int ((1 : Int32) + (((XT.ushr mode (1 : Int32)) &&& (3 : Int32)) % (3 : Int32)))), .val (.ref a864), .val (.ref a874), .val (.ref a887), .val (.ref b903), .val (.ref b925), .val (.ref a864), .val (.ref a864)] [])) (fun _ q => XS.ifNo X1006.here hx rfl (hb hby at_197) rfl (by decide) q) ?_
      refine own_step (T' := T1006) (g' := (mkF m 201 #[.val (.int s0), .val (.int s1), .val (.int s2), .val (.int mode), .val (.int (1 : Int32)), .val (.int ((1 : Int32) + (((XT.ushr mode (1 : Int32)) &&& (3 : Int32)) % (3 : Int32)))), .val (.ref a864), .val (.ref a874), .val (.ref a887), .val (.ref b903), .val (.ref b925), .val (.ref a864), .val (.ref a864)] [(.int (1 : Int32))])) (fun _ q => XS.iconst X1006.here hx rfl (hb hby at_200) q) ?_
      refine own_step (T' := T1006) (g' := (mkF m 205 #[.val (.int s0), .val (.int s1), .val (.int s2), .val (.int mode), .val (.int (1 : Int32)), .val (.int ((1 : Int32) + (((XT.ushr mode (1 : Int32)) &&& (3 : Int32)) % (3 : Int32)))), .val (.ref a864), .val (.ref a874), .val (.ref a887), .val (.ref b903), .val (.ref b925), .val (.ref a864), .val (.ref a864)] [(.int (1 : Int32))])) (fun _ q => XS.goto X1006.here hx rfl (pc0 := 201) (pc' := 205) rfl (hb hby at_201) (by decide) (by decide) q) ?_
      have c1008 := ((c954.trans K952 (allS (Or.inr sz0_929) all0)).wr W981 (Or.inr sz0_907))
      have c1009 := (Nat.le_trans (Nat.le_trans (Nat.le_trans (Nat.le_trans (Nat.le_trans (Nat.le_refl _) E903.1) (Keep.of_wr W920).1) E925.1) K952.1) (Keep.of_wr W981).1)
      exact own_retNW X1006 hx hZ (own_hEL hw) hS (by rw [e1006]; exact c1009) (by rw [e1006]; exact CH984) Bd.returns (by simp) (hb hby at_205) hlk (by rw [e1006]; exact ⟨rfl, N1007, c1008⟩) (by first | decide | (dsimp only; omega)) (by first | decide | (dsimp only; omega))
    · refine own_step (T' := T887) (g' := (mkF m 78 #[.val (.int s0), .val (.int s1), .val (.int s2), .val (.int mode), .val (.int (1 : Int32)), .val (.int ((1 : Int32) + (((XT.ushr mode (1 : Int32)) &&& (3 : Int32)) % (3 : Int32)))), .val (.ref a864), .val (.ref a874), .val (.ref a887), .unset, .unset, .unset, .unset] [])) (fun _ q => XS.icmpYes X887.here hx rfl (pc0 := 61) (pc' := 78) rfl (hb hby at_61) rfl (XT.ii_ne_t hc902) (by decide) (by decide) q) ?_
      refine own_step (T' := T887) (g' := (mkF m 80 #[.val (.int s0), .val (.int s1), .val (.int s2), .val (.int mode), .val (.int (1 : Int32)), .val (.int ((1 : Int32) + (((XT.ushr mode (1 : Int32)) &&& (3 : Int32)) % (3 : Int32)))), .val (.ref a864), .val (.ref a874), .val (.ref a887), .unset, .unset, .unset, .unset] [(.int ((1 : Int32) + (((XT.ushr mode (1 : Int32)) &&& (3 : Int32)) % (3 : Int32))))])) (fun _ q => XS.iload X887.here hx rfl (hb hby at_78) rfl q) ?_
      refine own_step (T' := T887) (g' := (mkF m 81 #[.val (.int s0), .val (.int s1), .val (.int s2), .val (.int mode), .val (.int (1 : Int32)), .val (.int ((1 : Int32) + (((XT.ushr mode (1 : Int32)) &&& (3 : Int32)) % (3 : Int32)))), .val (.ref a864), .val (.ref a874), .val (.ref a887), .unset, .unset, .unset, .unset] [(.int (2 : Int32)), (.int ((1 : Int32) + (((XT.ushr mode (1 : Int32)) &&& (3 : Int32)) % (3 : Int32))))])) (fun _ q => XS.iconst X887.here hx rfl (hb hby at_80) q) ?_
      by_cases hc1010 : ((1 : Int32) + (((XT.ushr mode (1 : Int32)) &&& (3 : Int32)) % (3 : Int32))) = (2 : Int32)
      · refine own_step (T' := T887) (g' := (mkF m 84 #[.val (.int s0), .val (.int s1), .val (.int s2), .val (.int mode), .val (.int (1 : Int32)), .val (.int ((1 : Int32) + (((XT.ushr mode (1 : Int32)) &&& (3 : Int32)) % (3 : Int32)))), .val (.ref a864), .val (.ref a874), .val (.ref a887), .unset, .unset, .unset, .unset] [])) (fun _ q => XS.icmpNo X887.here hx rfl (hb hby at_81) rfl (XT.ii_ne_f hc1010) q) ?_
        refine own_step (T' := T887) (g' := (mkF m 85 #[.val (.int s0), .val (.int s1), .val (.int s2), .val (.int mode), .val (.int (1 : Int32)), .val (.int ((1 : Int32) + (((XT.ushr mode (1 : Int32)) &&& (3 : Int32)) % (3 : Int32)))), .val (.ref a864), .val (.ref a874), .val (.ref a887), .unset, .unset, .unset, .unset] [(.int (2 : Int32))])) (fun _ q => XS.iconst X887.here hx rfl (hb hby at_84) q) ?_
        obtain ⟨T1011, h1011, k1011, X1011, e1011, E1011, A1011, O1011, st1011⟩ := newR X887 hx hZ hown (w4 hw) (w26 hw) rfl (g := (mkF m 85 #[.val (.int s0), .val (.int s1), .val (.int s2), .val (.int mode), .val (.int (1 : Int32)), .val (.int ((1 : Int32) + (((XT.ushr mode (1 : Int32)) &&& (3 : Int32)) % (3 : Int32)))), .val (.ref a864), .val (.ref a874), .val (.ref a887), .unset, .unset, .unset, .unset] [(.int (2 : Int32))])) rfl (hb hby at_85) rfl (by decide) (cap := 2) (by decide) (by first | decide | omega) (by first | decide | (dsimp only; omega)) (by first | decide | (dsimp only; omega))
        obtain ⟨b1011, g1011⟩ : ∃ z, z = T887.heap.size := ⟨_, rfl⟩
        rw [← g1011] at A1011 st1011
        have c1012 := (Nat.le_trans c886 K887.1)
        have n0_1013 : n0 ≤ b1011 := Nat.le_trans c1012 (Nat.le_of_eq g1011.symm)
        have c1014 := (c889.trans K887 all0)
        have sz0_1015 := Nat.le_trans c1014.1 (Nat.le_of_eq g1011.symm)
        have c1016 := (own_lt c891 K887.1)
        have ne1017 : a864 ≠ b1011 := own_ne c1016 (Nat.le_of_eq g1011.symm)
        have c1018 := (own_lt c893 K887.1)
        have ne1019 : t864 ≠ b1011 := own_ne c1018 (Nat.le_of_eq g1011.symm)
        have c1020 := (own_lt lt882 K887.1)
        have ne1021 : a874 ≠ b1011 := own_ne c1020 (Nat.le_of_eq g1011.symm)
        have c1022 := (own_lt lt883 K887.1)
        have ne1023 : t874 ≠ b1011 := own_ne c1022 (Nat.le_of_eq g1011.symm)
        have ne1024 : a887 ≠ b1011 := own_ne lt899 (Nat.le_of_eq g1011.symm)
        have ne1025 : t887 ≠ b1011 := own_ne lt900 (Nat.le_of_eq g1011.symm)
        have sf1026 : Safe Z own_EL _ _ b1011 := Safe.new (EL := own_EL) (Z := Z) (vm := T887.vm) (Nat.le_of_eq g1011.symm)
        have CH1027 := CH898.trans (CHr.ext E1011 CH898.1)
        have V1011 : Arv Z h1011 b1011 k1011 (.object "java/lang/String") (2 : Int32) [.null, .null] .null := (Arv.new A1011 (by decide)).pad (pad_rep [] .null 2)
        have ltb1011 := V1011.lt
        refine own_step (T' := T1011) (g' := (mkF m 88 #[.val (.int s0), .val (.int s1), .val (.int s2), .val (.int mode), .val (.int (1 : Int32)), .val (.int ((1 : Int32) + (((XT.ushr mode (1 : Int32)) &&& (3 : Int32)) % (3 : Int32)))), .val (.ref a864), .val (.ref a874), .val (.ref a887), .unset, .unset, .unset, .unset] [(.ref b1011)])) st1011 ?_
        refine own_step (T' := T1011) (g' := (mkF m 89 #[.val (.int s0), .val (.int s1), .val (.int s2), .val (.int mode), .val (.int (1 : Int32)), .val (.int ((1 : Int32) + (((XT.ushr mode (1 : Int32)) &&& (3 : Int32)) % (3 : Int32)))), .val (.ref a864), .val (.ref a874), .val (.ref a887), .unset, .unset, .unset, .unset] [(.ref b1011), (.ref b1011)])) (fun _ q => XS.dup X1011.here hx rfl (hb hby at_88) rfl rfl q) ?_
        refine own_step (T' := T1011) (g' := (mkF m 90 #[.val (.int s0), .val (.int s1), .val (.int s2), .val (.int mode), .val (.int (1 : Int32)), .val (.int ((1 : Int32) + (((XT.ushr mode (1 : Int32)) &&& (3 : Int32)) % (3 : Int32)))), .val (.ref a864), .val (.ref a874), .val (.ref a887), .unset, .unset, .unset, .unset] [(.int (0 : Int32)), (.ref b1011), (.ref b1011)])) (fun _ q => XS.iconst X1011.here hx rfl (hb hby at_89) q) ?_
        refine own_step (T' := T1011) (g' := (mkF m 92 #[.val (.int s0), .val (.int s1), .val (.int s2), .val (.int mode), .val (.int (1 : Int32)), .val (.int ((1 : Int32) + (((XT.ushr mode (1 : Int32)) &&& (3 : Int32)) % (3 : Int32)))), .val (.ref a864), .val (.ref a874), .val (.ref a887), .unset, .unset, .unset, .unset] [(.ref a864), (.int (0 : Int32)), (.ref b1011), (.ref b1011)])) (fun _ q => XS.aload X1011.here hx rfl (hb hby at_90) rfl rfl q) ?_
        have c1029 := (((f1_864.keep K874).keep K887).ext E1011)
        obtain ⟨T1028, h1028, X1028, e1028, W1028, V1028, st1028⟩ := own_stR X1011 hx hZ e1011 V1011 rfl rfl (fun _ A q => Sto.ofV A q O1011 (Ins.self c1029)) (j := (0 : Int32)) ⟨by decide, by decide⟩ (i := 0) rfl (Nat.le_of_ble_eq_true rfl) (g := (mkF m 92 #[.val (.int s0), .val (.int s1), .val (.int s2), .val (.int mode), .val (.int (1 : Int32)), .val (.int ((1 : Int32) + (((XT.ushr mode (1 : Int32)) &&& (3 : Int32)) % (3 : Int32)))), .val (.ref a864), .val (.ref a874), .val (.ref a887), .unset, .unset, .unset, .unset] [(.ref a864), (.int (0 : Int32)), (.ref b1011), (.ref b1011)])) rfl rfl (hb hby at_92)
        replace V1028 : Arv Z h1028 b1011 k1011 (.object "java/lang/String") (2 : Int32) [(.ref a864), .null] .null := V1028
        have N1030 := Fr.snoc X1028 N901 n0_1013
        have c1032 := (Safe.ext E1011 CH898.1 sf1026)
        have CH1031 := CH1027.trans (CHr.wr W1028 c1032 CH1027.1)
        refine own_step (T' := T1028) (g' := (mkF m 93 #[.val (.int s0), .val (.int s1), .val (.int s2), .val (.int mode), .val (.int (1 : Int32)), .val (.int ((1 : Int32) + (((XT.ushr mode (1 : Int32)) &&& (3 : Int32)) % (3 : Int32)))), .val (.ref a864), .val (.ref a874), .val (.ref a887), .unset, .unset, .unset, .unset] [(.ref b1011)])) st1028 ?_
        refine own_step (T' := T1028) (g' := (mkF m 94 #[.val (.int s0), .val (.int s1), .val (.int s2), .val (.int mode), .val (.int (1 : Int32)), .val (.int ((1 : Int32) + (((XT.ushr mode (1 : Int32)) &&& (3 : Int32)) % (3 : Int32)))), .val (.ref a864), .val (.ref a874), .val (.ref a887), .unset, .unset, .unset, .unset] [(.ref b1011), (.ref b1011)])) (fun _ q => XS.dup X1028.here hx rfl (hb hby at_93) rfl rfl q) ?_
        refine own_step (T' := T1028) (g' := (mkF m 95 #[.val (.int s0), .val (.int s1), .val (.int s2), .val (.int mode), .val (.int (1 : Int32)), .val (.int ((1 : Int32) + (((XT.ushr mode (1 : Int32)) &&& (3 : Int32)) % (3 : Int32)))), .val (.ref a864), .val (.ref a874), .val (.ref a887), .unset, .unset, .unset, .unset] [(.int (1 : Int32)), (.ref b1011), (.ref b1011)])) (fun _ q => XS.iconst X1028.here hx rfl (hb hby at_94) q) ?_
        refine own_step (T' := T1028) (g' := (mkF m 97 #[.val (.int s0), .val (.int s1), .val (.int s2), .val (.int mode), .val (.int (1 : Int32)), .val (.int ((1 : Int32) + (((XT.ushr mode (1 : Int32)) &&& (3 : Int32)) % (3 : Int32)))), .val (.ref a864), .val (.ref a874), .val (.ref a887), .unset, .unset, .unset, .unset] [(.ref a874), (.int (1 : Int32)), (.ref b1011), (.ref b1011)])) (fun _ q => XS.aload X1028.here hx rfl (hb hby at_95) rfl rfl q) ?_
        have c1034 := (((f1_874.keep K887).ext E1011).wr W1028)
        obtain ⟨T1033, h1033, X1033, e1033, W1033, V1033, st1033⟩ := own_stR X1028 hx hZ e1028 V1028 rfl rfl (fun _ A q => Sto.ofV A q O1011 (Ins.self c1034)) (j := (1 : Int32)) ⟨by decide, by decide⟩ (i := 1) rfl (Nat.le_of_ble_eq_true rfl) (g := (mkF m 97 #[.val (.int s0), .val (.int s1), .val (.int s2), .val (.int mode), .val (.int (1 : Int32)), .val (.int ((1 : Int32) + (((XT.ushr mode (1 : Int32)) &&& (3 : Int32)) % (3 : Int32)))), .val (.ref a864), .val (.ref a874), .val (.ref a887), .unset, .unset, .unset, .unset] [(.ref a874), (.int (1 : Int32)), (.ref b1011), (.ref b1011)])) rfl rfl (hb hby at_97)
        replace V1033 : Arv Z h1033 b1011 k1011 (.object "java/lang/String") (2 : Int32) [(.ref a864), (.ref a874)] .null := V1033
        have N1035 := Fr.snoc X1033 N1030 n0_1013
        have c1037 := (Safe.wr W1028 c1032 CH1027.1 c1032)
        have CH1036 := CH1031.trans (CHr.wr W1033 c1037 CH1031.1)
        refine own_step (T' := T1033) (g' := (mkF m 98 #[.val (.int s0), .val (.int s1), .val (.int s2), .val (.int mode), .val (.int (1 : Int32)), .val (.int ((1 : Int32) + (((XT.ushr mode (1 : Int32)) &&& (3 : Int32)) % (3 : Int32)))), .val (.ref a864), .val (.ref a874), .val (.ref a887), .unset, .unset, .unset, .unset] [(.ref b1011)])) st1033 ?_
        refine own_step (T' := T1033) (g' := (mkF m 100 #[.val (.int s0), .val (.int s1), .val (.int s2), .val (.int mode), .val (.int (1 : Int32)), .val (.int ((1 : Int32) + (((XT.ushr mode (1 : Int32)) &&& (3 : Int32)) % (3 : Int32)))), .val (.ref a864), .val (.ref a874), .val (.ref a887), .val (.ref b1011), .unset, .unset, .unset] [])) (fun _ q => XS.astore X1033.here hx rfl (hb hby at_98) rfl rfl (l' := #[.val (.int s0), .val (.int s1), .val (.int s2), .val (.int mode), .val (.int (1 : Int32)), .val (.int ((1 : Int32) + (((XT.ushr mode (1 : Int32)) &&& (3 : Int32)) % (3 : Int32)))), .val (.ref a864), .val (.ref a874), .val (.ref a887), .val (.ref b1011), .unset, .unset, .unset]) rfl q) ?_
        refine own_step (T' := T1033) (g' := (mkF m 124 #[.val (.int s0), .val (.int s1), .val (.int s2), .val (.int mode), .val (.int (1 : Int32)), .val (.int ((1 : Int32) + (((XT.ushr mode (1 : Int32)) &&& (3 : Int32)) % (3 : Int32)))), .val (.ref a864), .val (.ref a874), .val (.ref a887), .val (.ref b1011), .unset, .unset, .unset] [])) (fun _ q => XS.goto X1033.here hx rfl (pc0 := 100) (pc' := 124) rfl (hb hby at_100) (by decide) (by decide) q) ?_
        obtain ⟨T1038, h1038, X1038, e1038, E1038, A1038, D1038, -, st1038⟩ := newO X1033 hx hZ hown (w27 hw) (w28 hw) (w29 hw) e1033 (g := (mkF m 124 #[.val (.int s0), .val (.int s1), .val (.int s2), .val (.int mode), .val (.int (1 : Int32)), .val (.int ((1 : Int32) + (((XT.ushr mode (1 : Int32)) &&& (3 : Int32)) % (3 : Int32)))), .val (.ref a864), .val (.ref a874), .val (.ref a887), .val (.ref b1011), .unset, .unset, .unset] [])) rfl (hb hby at_124) (by first | decide | (dsimp only; omega)) (by first | decide | (dsimp only; omega))
        obtain ⟨b1038, g1038⟩ : ∃ z, z = h1033.size := ⟨_, rfl⟩
        rw [← g1038] at A1038 D1038 st1038
        have c1039 := (Nat.le_trans (Nat.le_trans (Nat.le_trans c1012 E1011.1) (Keep.of_wr W1028).1) (Keep.of_wr W1033).1)
        have n0_1040 : n0 ≤ b1038 := Nat.le_trans c1039 (Nat.le_of_eq g1038.symm)
        have c1041 := (((c1014.ext E1011).wr W1028 (Or.inr sz0_1015)).wr W1033 (Or.inr sz0_1015))
        have sz0_1042 := Nat.le_trans c1041.1 (Nat.le_of_eq g1038.symm)
        have c1043 := (own_lt (own_lt (own_lt c1016 E1011.1) (Keep.of_wr W1028).1) (Keep.of_wr W1033).1)
        have ne1044 : a864 ≠ b1038 := own_ne c1043 (Nat.le_of_eq g1038.symm)
        have c1045 := (own_lt (own_lt (own_lt c1018 E1011.1) (Keep.of_wr W1028).1) (Keep.of_wr W1033).1)
        have ne1046 : t864 ≠ b1038 := own_ne c1045 (Nat.le_of_eq g1038.symm)
        have c1047 := (own_lt (own_lt (own_lt c1020 E1011.1) (Keep.of_wr W1028).1) (Keep.of_wr W1033).1)
        have ne1048 : a874 ≠ b1038 := own_ne c1047 (Nat.le_of_eq g1038.symm)
        have c1049 := (own_lt (own_lt (own_lt c1022 E1011.1) (Keep.of_wr W1028).1) (Keep.of_wr W1033).1)
        have ne1050 : t874 ≠ b1038 := own_ne c1049 (Nat.le_of_eq g1038.symm)
        have c1051 := (own_lt (own_lt (own_lt lt899 E1011.1) (Keep.of_wr W1028).1) (Keep.of_wr W1033).1)
        have ne1052 : a887 ≠ b1038 := own_ne c1051 (Nat.le_of_eq g1038.symm)
        have c1053 := (own_lt (own_lt (own_lt lt900 E1011.1) (Keep.of_wr W1028).1) (Keep.of_wr W1033).1)
        have ne1054 : t887 ≠ b1038 := own_ne c1053 (Nat.le_of_eq g1038.symm)
        have c1055 := (own_lt (own_lt ltb1011 (Keep.of_wr W1028).1) (Keep.of_wr W1033).1)
        have ne1056 : b1011 ≠ b1038 := own_ne c1055 (Nat.le_of_eq g1038.symm)
        have sf1057 : Safe Z own_EL _ _ b1038 := Safe.new (EL := own_EL) (Z := Z) (vm := T887.vm) (Nat.le_of_eq g1038.symm)
        have CH1058 := CH1036.trans (CHr.ext E1038 CH1036.1)
        have ltb1038 := A1038.lt
        have F1059 : Fld Z h1038 b1038 "com/example/gangway/gangway/tool/CommandLine$Option" "repeatable" "Z" (.int (0 : Int32)) := D1038 (Or.inr (w35 hw)) (ty := .boolean) (by decide)
        have F1060 : Fld Z h1038 b1038 "com/example/gangway/gangway/tool/CommandLine$Option" "spellings" "Ljava/util/List;" .null := D1038 (Or.inr (w77 hw)) (ty := (.object "java/util/List")) (by decide)
        refine own_step (T' := T1038) (g' := (mkF m 127 #[.val (.int s0), .val (.int s1), .val (.int s2), .val (.int mode), .val (.int (1 : Int32)), .val (.int ((1 : Int32) + (((XT.ushr mode (1 : Int32)) &&& (3 : Int32)) % (3 : Int32)))), .val (.ref a864), .val (.ref a874), .val (.ref a887), .val (.ref b1011), .unset, .unset, .unset] [(.ref b1038)])) st1038 ?_
        refine own_step (T' := T1038) (g' := (mkF m 128 #[.val (.int s0), .val (.int s1), .val (.int s2), .val (.int mode), .val (.int (1 : Int32)), .val (.int ((1 : Int32) + (((XT.ushr mode (1 : Int32)) &&& (3 : Int32)) % (3 : Int32)))), .val (.ref a864), .val (.ref a874), .val (.ref a887), .val (.ref b1011), .unset, .unset, .unset] [(.ref b1038), (.ref b1038)])) (fun _ q => XS.dup X1038.here hx rfl (hb hby at_127) rfl rfl q) ?_
        refine own_step (T' := T1038) (g' := (mkF m 130 #[.val (.int s0), .val (.int s1), .val (.int s2), .val (.int mode), .val (.int (1 : Int32)), .val (.int ((1 : Int32) + (((XT.ushr mode (1 : Int32)) &&& (3 : Int32)) % (3 : Int32)))), .val (.ref a864), .val (.ref a874), .val (.ref a887), .val (.ref b1011), .unset, .unset, .unset] [(.int (1 : Int32)), (.ref b1038), (.ref b1038)])) (fun _ q => XS.iload X1038.here hx rfl (hb hby at_128) rfl q) ?_
        refine own_step (T' := T1038) (g' := (mkF m 132 #[.val (.int s0), .val (.int s1), .val (.int s2), .val (.int mode), .val (.int (1 : Int32)), .val (.int ((1 : Int32) + (((XT.ushr mode (1 : Int32)) &&& (3 : Int32)) % (3 : Int32)))), .val (.ref a864), .val (.ref a874), .val (.ref a887), .val (.ref b1011), .unset, .unset, .unset] [(.ref b1011), (.int (1 : Int32)), (.ref b1038), (.ref b1038)])) (fun _ q => XS.aload X1038.here hx rfl (hb hby at_130) rfl rfl q) ?_
        have c1061 := (V1033.ext E1038)
        have c1062 := (((c1029.wr W1028).wr W1033).ext E1038)
        have c1063 := ((c1034.wr W1033).ext E1038)
        have c1064 := (Nat.le_trans c1039 E1038.1)
        refine own_callC X1038 hx hZ hown rfl (w30 hw) (w31 hw) (w32 hw) (by decide) (backOf (W := 1) (own_opt2 l Z a0 hw [] b1038 (1 : Int32) b1011 k1011 a864 a874 h1038 n0 c1064 A1038 n0_1040 F1059 F1060 c1061 c1062 c1063) hZ (w32 hw) (w29 hw) (Nat.le_of_ble_eq_true rfl) (Nat.le_of_ble_eq_true rfl)) e1038  (by first | decide | (dsimp only; omega)) (by first | decide | (dsimp only; omega)) (g := (mkF m 132 #[.val (.int s0), .val (.int s1), .val (.int s2), .val (.int mode), .val (.int (1 : Int32)), .val (.int ((1 : Int32) + (((XT.ushr mode (1 : Int32)) &&& (3 : Int32)) % (3 : Int32)))), .val (.ref a864), .val (.ref a874), .val (.ref a887), .val (.ref b1011), .unset, .unset, .unset] [(.ref b1011), (.int (1 : Int32)), (.ref b1038), (.ref b1038)])) (argsL := [(.int (1 : Int32)), (.ref b1011)]) (rest := [(.ref b1038)]) rfl (by rw [hml]; rfl) (lenOf pd_14 rfl) rfl rfl (by show 2 * 0 + _ ≤ _; exact Nat.le_of_eq rfl) (hb hby at_132) ?_
        rintro _ T1065 L1065 X1065 ⟨lst1065, rfl, N1065q, K1065, f0_1065, f1_1065, f2_1065, f3_1065, f4_1065⟩
        have n0_1066 : n0 ≤ lst1065 := Nat.le_trans c1064 f0_1065
        have c1067 := (c1041.ext E1038)
        have sz0_1068 := Nat.le_trans c1067.1 f0_1065
        have c1069 := (own_lt c1043 E1038.1)
        have ne1070 : a864 ≠ lst1065 := own_ne c1069 f0_1065
        have c1071 := (own_lt c1045 E1038.1)
        have ne1072 : t864 ≠ lst1065 := own_ne c1071 f0_1065
        have c1073 := (own_lt c1047 E1038.1)
        have ne1074 : a874 ≠ lst1065 := own_ne c1073 f0_1065
        have c1075 := (own_lt c1049 E1038.1)
        have ne1076 : t874 ≠ lst1065 := own_ne c1075 f0_1065
        have c1077 := (own_lt c1051 E1038.1)
        have ne1078 : a887 ≠ lst1065 := own_ne c1077 f0_1065
        have c1079 := (own_lt c1053 E1038.1)
        have ne1080 : t887 ≠ lst1065 := own_ne c1079 f0_1065
        have c1081 := (own_lt c1055 E1038.1)
        have ne1082 : b1011 ≠ lst1065 := own_ne c1081 f0_1065
        have ne1083 : b1038 ≠ lst1065 := own_ne ltb1038 f0_1065
        have sf1084 : Safe Z own_EL _ _ lst1065 := Safe.new (EL := own_EL) (Z := Z) (vm := T887.vm) f0_1065
        have c1086 := (Safe.ext E1038 CH1036.1 sf1057)
        have CH1085 := CH1058.trans (CHr.keep K1065 (sfS c1086 sf0) CH1058.1)
        have lt1087 := f3_1065.lt
        have N1088 := Fr.app N1035 N1065q
        show own_Fin p e below _ T1065 (mkF m 135 #[.val (.int s0), .val (.int s1), .val (.int s2), .val (.int mode), .val (.int (1 : Int32)), .val (.int ((1 : Int32) + (((XT.ushr mode (1 : Int32)) &&& (3 : Int32)) % (3 : Int32)))), .val (.ref a864), .val (.ref a874), .val (.ref a887), .val (.ref b1011), .unset, .unset, .unset] [(.ref b1038)])
        refine own_step (T' := T1065) (g' := (mkF m 137 #[.val (.int s0), .val (.int s1), .val (.int s2), .val (.int mode), .val (.int (1 : Int32)), .val (.int ((1 : Int32) + (((XT.ushr mode (1 : Int32)) &&& (3 : Int32)) % (3 : Int32)))), .val (.ref a864), .val (.ref a874), .val (.ref a887), .val (.ref b1011), .val (.ref b1038), .unset, .unset] [])) (fun _ q => XS.astore X1065.here hx rfl (hb hby at_135) rfl rfl (l' := #[.val (.int s0), .val (.int s1), .val (.int s2), .val (.int mode), .val (.int (1 : Int32)), .val (.int ((1 : Int32) + (((XT.ushr mode (1 : Int32)) &&& (3 : Int32)) % (3 : Int32)))), .val (.ref a864), .val (.ref a874), .val (.ref a887), .val (.ref b1011), .val (.ref b1038), .unset, .unset]) rfl q) ?_
        refine own_step (T' := T1065) (g' := (mkF m 139 #[.val (.int s0), .val (.int s1), .val (.int s2), .val (.int mode), .val (.int (1 : Int32)), .val (.int ((1 : Int32) + (((XT.ushr mode (1 : Int32)) &&& (3 : Int32)) % (3 : Int32)))), .val (.ref a864), .val (.ref a874), .val (.ref a887), .val (.ref b1011), .val (.ref b1038), .unset, .unset] [(.ref b1038)])) (fun _ q => XS.aload X1065.here hx rfl (hb hby at_137) rfl rfl q) ?_
        have c1089 := (c1062.keep K1065)
        have c1090 := (Nat.le_trans c1064 K1065.1)
        refine own_callV (y := (⟨"com/example/gangway/gangway/tool/CommandLine$Option", "name", "()Ljava/lang/String;"⟩ : MethodName)) (z := (⟨"com/example/gangway/gangway/tool/CommandLine$Option", "name", "()Ljava/lang/String;"⟩ : MethodName)) X1065 hx hZ hown (w78 hw) (w79 hw) (notFace_of_selects (args := #[]) (mvT hZ (w81 hw))) (w81 hw) (w80 hw) (by decide) (backOf (W := 0) (own_nm12 l Z a0 hw [] b1038 lst1065 a864 T1065.heap n0 c1090 f2_1065 f3_1065 f4_1065 c1089) hZ (w82 hw) (w29 hw) (Nat.le_of_ble_eq_true rfl) (Nat.le_of_ble_eq_true rfl)) rfl f1_1065  (by first | decide | (dsimp only; omega)) (by first | decide | (dsimp only; omega)) (g := (mkF m 139 #[.val (.int s0), .val (.int s1), .val (.int s2), .val (.int mode), .val (.int (1 : Int32)), .val (.int ((1 : Int32) + (((XT.ushr mode (1 : Int32)) &&& (3 : Int32)) % (3 : Int32)))), .val (.ref a864), .val (.ref a874), .val (.ref a887), .val (.ref b1011), .val (.ref b1038), .unset, .unset] [(.ref b1038)])) (argsL := []) (rest := []) rfl (by rw [hml]; rfl) (lenOf pd_15 rfl) rfl rfl (by show 2 * 0 + _ ≤ _; exact Nat.le_of_eq rfl) (hb hby at_139) ?_
        rintro _ T1091 L1091 X1091 ⟨rfl, N1091q, e1091⟩
        have N1092 := Fr.app N1088 N1091q
        show own_Fin p e below _ T1091 (mkF m 142 #[.val (.int s0), .val (.int s1), .val (.int s2), .val (.int mode), .val (.int (1 : Int32)), .val (.int ((1 : Int32) + (((XT.ushr mode (1 : Int32)) &&& (3 : Int32)) % (3 : Int32)))), .val (.ref a864), .val (.ref a874), .val (.ref a887), .val (.ref b1011), .val (.ref b1038), .unset, .unset] [(.ref a864)])
        refine own_step (T' := T1091) (g' := (mkF m 144 #[.val (.int s0), .val (.int s1), .val (.int s2), .val (.int mode), .val (.int (1 : Int32)), .val (.int ((1 : Int32) + (((XT.ushr mode (1 : Int32)) &&& (3 : Int32)) % (3 : Int32)))), .val (.ref a864), .val (.ref a874), .val (.ref a887), .val (.ref b1011), .val (.ref b1038), .val (.ref a864), .unset] [])) (fun _ q => XS.astore X1091.here hx rfl (hb hby at_142) rfl rfl (l' := #[.val (.int s0), .val (.int s1), .val (.int s2), .val (.int mode), .val (.int (1 : Int32)), .val (.int ((1 : Int32) + (((XT.ushr mode (1 : Int32)) &&& (3 : Int32)) % (3 : Int32)))), .val (.ref a864), .val (.ref a874), .val (.ref a887), .val (.ref b1011), .val (.ref b1038), .val (.ref a864), .unset]) rfl q) ?_
        refine own_step (T' := T1091) (g' := (mkF m 146 #[.val (.int s0), .val (.int s1), .val (.int s2), .val (.int mode), .val (.int (1 : Int32)), .val (.int ((1 : Int32) + (((XT.ushr mode (1 : Int32)) &&& (3 : Int32)) % (3 : Int32)))), .val (.ref a864), .val (.ref a874), .val (.ref a887), .val (.ref b1011), .val (.ref b1038), .val (.ref a864), .unset] [(.ref b1011)])) (fun _ q => XS.aload X1091.here hx rfl (hb hby at_144) rfl rfl q) ?_
        refine own_step (T' := T1091) (g' := (mkF m 147 #[.val (.int s0), .val (.int s1), .val (.int s2), .val (.int mode), .val (.int (1 : Int32)), .val (.int ((1 : Int32) + (((XT.ushr mode (1 : Int32)) &&& (3 : Int32)) % (3 : Int32)))), .val (.ref a864), .val (.ref a874), .val (.ref a887), .val (.ref b1011), .val (.ref b1038), .val (.ref a864), .unset] [(.int (0 : Int32)), (.ref b1011)])) (fun _ q => XS.iconst X1091.here hx rfl (hb hby at_146) q) ?_
        refine own_step (T' := T1091) (g' := (mkF m 149 #[.val (.int s0), .val (.int s1), .val (.int s2), .val (.int mode), .val (.int (1 : Int32)), .val (.int ((1 : Int32) + (((XT.ushr mode (1 : Int32)) &&& (3 : Int32)) % (3 : Int32)))), .val (.ref a864), .val (.ref a874), .val (.ref a887), .val (.ref b1011), .val (.ref b1038), .val (.ref a864), .unset] [(.ref a874), (.int (0 : Int32)), (.ref b1011)])) (fun _ q => XS.aload X1091.here hx rfl (hb hby at_147) rfl rfl q) ?_
        have c1093 := (c1061.keep K1065 (ninS ne1056 nin0))
        have c1095 := (c1063.keep K1065)
        obtain ⟨T1094, h1094, X1094, e1094, W1094, V1094, st1094⟩ := own_stR X1091 hx hZ e1091 c1093 rfl rfl (fun _ A q => Sto.ofV A q O1011 (Ins.self c1095)) (j := (0 : Int32)) ⟨by decide, by decide⟩ (i := 0) rfl (Nat.le_of_ble_eq_true rfl) (g := (mkF m 149 #[.val (.int s0), .val (.int s1), .val (.int s2), .val (.int mode), .val (.int (1 : Int32)), .val (.int ((1 : Int32) + (((XT.ushr mode (1 : Int32)) &&& (3 : Int32)) % (3 : Int32)))), .val (.ref a864), .val (.ref a874), .val (.ref a887), .val (.ref b1011), .val (.ref b1038), .val (.ref a864), .unset] [(.ref a874), (.int (0 : Int32)), (.ref b1011)])) rfl rfl (hb hby at_149)
        replace V1094 : Arv Z h1094 b1011 k1011 (.object "java/lang/String") (2 : Int32) [(.ref a874), (.ref a874)] .null := V1094
        have N1096 := Fr.snoc X1094 N1092 n0_1013
        have c1098 := (Safe.keep K1065 (sfS c1086 sf0) CH1058.1 (Safe.ext E1038 CH1036.1 (Safe.wr W1033 c1037 CH1031.1 c1037)))
        have CH1097 := CH1085.trans (CHr.wr W1094 c1098 CH1085.1)
        refine own_step (T' := T1094) (g' := (mkF m 150 #[.val (.int s0), .val (.int s1), .val (.int s2), .val (.int mode), .val (.int (1 : Int32)), .val (.int ((1 : Int32) + (((XT.ushr mode (1 : Int32)) &&& (3 : Int32)) % (3 : Int32)))), .val (.ref a864), .val (.ref a874), .val (.ref a887), .val (.ref b1011), .val (.ref b1038), .val (.ref a864), .unset] [])) st1094 ?_
        refine own_step (T' := T1094) (g' := (mkF m 152 #[.val (.int s0), .val (.int s1), .val (.int s2), .val (.int mode), .val (.int (1 : Int32)), .val (.int ((1 : Int32) + (((XT.ushr mode (1 : Int32)) &&& (3 : Int32)) % (3 : Int32)))), .val (.ref a864), .val (.ref a874), .val (.ref a887), .val (.ref b1011), .val (.ref b1038), .val (.ref a864), .unset] [(.ref b1038)])) (fun _ q => XS.aload X1094.here hx rfl (hb hby at_150) rfl rfl q) ?_
        have c1099 := (f2_1065.other W1094 (Or.inl (Ne.symm ne1056)))
        have c1100 := (f3_1065.wr W1094)
        have c1101 := (f4_1065.other W1094 (Or.inl (Ne.symm ne1082)))
        have c1102 := (c1089.wr W1094)
        have c1103 := (Nat.le_trans c1090 (Keep.of_wr W1094).1)
        have c1105 := (f1_1065.wr W1094)
        refine own_callV (y := (⟨"com/example/gangway/gangway/tool/CommandLine$Option", "name", "()Ljava/lang/String;"⟩ : MethodName)) (z := (⟨"com/example/gangway/gangway/tool/CommandLine$Option", "name", "()Ljava/lang/String;"⟩ : MethodName)) X1094 hx hZ hown (w78 hw) (w79 hw) (notFace_of_selects (args := #[]) (mvT hZ (w81 hw))) (w81 hw) (w80 hw) (by decide) (backOf (W := 0) (own_nm12 l Z a0 hw [] b1038 lst1065 a864 h1094 n0 c1103 c1099 c1100 c1101 c1102) hZ (w82 hw) (w29 hw) (Nat.le_of_ble_eq_true rfl) (Nat.le_of_ble_eq_true rfl)) e1094 c1105  (by first | decide | (dsimp only; omega)) (by first | decide | (dsimp only; omega)) (g := (mkF m 152 #[.val (.int s0), .val (.int s1), .val (.int s2), .val (.int mode), .val (.int (1 : Int32)), .val (.int ((1 : Int32) + (((XT.ushr mode (1 : Int32)) &&& (3 : Int32)) % (3 : Int32)))), .val (.ref a864), .val (.ref a874), .val (.ref a887), .val (.ref b1011), .val (.ref b1038), .val (.ref a864), .unset] [(.ref b1038)])) (argsL := []) (rest := []) rfl (by rw [hml]; rfl) (lenOf pd_15 rfl) rfl rfl (by show 2 * 0 + _ ≤ _; exact Nat.le_of_eq rfl) (hb hby at_152) ?_
        rintro _ T1104 L1104 X1104 ⟨rfl, N1104q, e1104⟩
        have N1106 := Fr.app N1096 N1104q
        show own_Fin p e below _ T1104 (mkF m 155 #[.val (.int s0), .val (.int s1), .val (.int s2), .val (.int mode), .val (.int (1 : Int32)), .val (.int ((1 : Int32) + (((XT.ushr mode (1 : Int32)) &&& (3 : Int32)) % (3 : Int32)))), .val (.ref a864), .val (.ref a874), .val (.ref a887), .val (.ref b1011), .val (.ref b1038), .val (.ref a864), .unset] [(.ref a864)])
        refine own_step (T' := T1104) (g' := (mkF m 157 #[.val (.int s0), .val (.int s1), .val (.int s2), .val (.int mode), .val (.int (1 : Int32)), .val (.int ((1 : Int32) + (((XT.ushr mode (1 : Int32)) &&& (3 : Int32)) % (3 : Int32)))), .val (.ref a864), .val (.ref a874), .val (.ref a887), .val (.ref b1011), .val (.ref b1038), .val (.ref a864), .val (.ref a864)] [])) (fun _ q => XS.astore X1104.here hx rfl (hb hby at_155) rfl rfl (l' := #[.val (.int s0), .val (.int s1), .val (.int s2), .val (.int mode), .val (.int (1 : Int32)), .val (.int ((1 : Int32) + (((XT.ushr mode (1 : Int32)) &&& (3 : Int32)) % (3 : Int32)))), .val (.ref a864), .val (.ref a874), .val (.ref a887), .val (.ref b1011), .val (.ref b1038), .val (.ref a864), .val (.ref a864)]) rfl q) ?_
        refine own_step (T' := T1104) (g' := (mkF m 159 #[.val (.int s0), .val (.int s1), .val (.int s2), .val (.int mode), .val (.int (1 : Int32)), .val (.int ((1 : Int32) + (((XT.ushr mode (1 : Int32)) &&& (3 : Int32)) % (3 : Int32)))), .val (.ref a864), .val (.ref a874), .val (.ref a887), .val (.ref b1011), .val (.ref b1038), .val (.ref a864), .val (.ref a864)] [(.ref a864)])) (fun _ q => XS.aload X1104.here hx rfl (hb hby at_157) rfl rfl q) ?_
        refine own_step (T' := T1104) (g' := (mkF m 161 #[.val (.int s0), .val (.int s1), .val (.int s2), .val (.int mode), .val (.int (1 : Int32)), .val (.int ((1 : Int32) + (((XT.ushr mode (1 : Int32)) &&& (3 : Int32)) % (3 : Int32)))), .val (.ref a864), .val (.ref a874), .val (.ref a887), .val (.ref b1011), .val (.ref b1038), .val (.ref a864), .val (.ref a864)] [(.ref a864), (.ref a864)])) (fun _ q => XS.aload X1104.here hx rfl (hb hby at_159) rfl rfl q) ?_
        refine own_callV (y := (⟨"java/lang/String", "equals", "(Ljava/lang/Object;)Z"⟩ : MethodName)) (z := (⟨"java/lang/String", "equals", "(Ljava/lang/Object;)Z"⟩ : MethodName)) X1104 hx hZ hown (w93 hw) (w94 hw) (notFace_of_selects (args := #[]) (mvT hZ (w96 hw))) (w96 hw) (w95 hw) (by decide) (backOf (W := 0) (own_eqs l Z a0 hw [] a864 h1094 n0 c1103 ) hZ (w97 hw) (w6 hw) (Nat.le_of_ble_eq_true rfl) (Nat.le_of_ble_eq_true rfl)) e1104 c1102  (by first | decide | (dsimp only; omega)) (by first | decide | (dsimp only; omega)) (g := (mkF m 161 #[.val (.int s0), .val (.int s1), .val (.int s2), .val (.int mode), .val (.int (1 : Int32)), .val (.int ((1 : Int32) + (((XT.ushr mode (1 : Int32)) &&& (3 : Int32)) % (3 : Int32)))), .val (.ref a864), .val (.ref a874), .val (.ref a887), .val (.ref b1011), .val (.ref b1038), .val (.ref a864), .val (.ref a864)] [(.ref a864), (.ref a864)])) (argsL := [(.ref a864)]) (rest := []) rfl (by rw [hml]; rfl) (lenOf pd_16 rfl) rfl rfl (by show 2 * 0 + _ ≤ _; exact Nat.le_of_eq rfl) (hb hby at_161) ?_
        rintro _ T1107 L1107 X1107 ⟨rfl, N1107q, e1107⟩
        have N1108 := Fr.app N1106 N1107q
        show own_Fin p e below _ T1107 (mkF m 164 #[.val (.int s0), .val (.int s1), .val (.int s2), .val (.int mode), .val (.int (1 : Int32)), .val (.int ((1 : Int32) + (((XT.ushr mode (1 : Int32)) &&& (3 : Int32)) % (3 : Int32)))), .val (.ref a864), .val (.ref a874), .val (.ref a887), .val (.ref b1011), .val (.ref b1038), .val (.ref a864), .val (.ref a864)] [(.int (1 : Int32))])
        refine own_step (T' := T1107) (g' := (mkF m 167 #[.val (.int s0), .val (.int s1), .val (.int s2), .val (.int mode), .val (.int (1 : Int32)), .val (.int ((1 : Int32) + (((XT.ushr mode (1 : Int32)) &&& (3 : Int32)) % (3 : Int32)))), .val (.ref a864), .val (.ref a874), .val (.ref a887), .val (.ref b1011), .val (.ref b1038), .val (.ref a864), .val (.ref a864)] [])) (fun _ q => XS.ifNo X1107.here hx rfl (hb hby at_164) rfl (by decide) q) ?_
        refine own_step (T' := T1107) (g' := (mkF m 169 #[.val (.int s0), .val (.int s1), .val (.int s2), .val (.int mode), .val (.int (1 : Int32)), .val (.int ((1 : Int32) + (((XT.ushr mode (1 : Int32)) &&& (3 : Int32)) % (3 : Int32)))), .val (.ref a864), .val (.ref a874), .val (.ref a887), .val (.ref b1011), .val (.ref b1038), .val (.ref a864), .val (.ref a864)] [(.ref a864)])) (fun _ q => XS.aload X1107.here hx rfl (hb hby at_167) rfl rfl q) ?_
        refine own_step (T' := T1107) (g' := (mkF m 171 #[.val (.int s0), .val (.int s1), .val (.int s2), .val (.int mode), .val (.int (1 : Int32)), .val (.int ((1 : Int32) + (((XT.ushr mode (1 : Int32)) &&& (3 : Int32)) % (3 : Int32)))), .val (.ref a864), .val (.ref a874), .val (.ref a887), .val (.ref b1011), .val (.ref b1038), .val (.ref a864), .val (.ref a864)] [(.ref a864), (.ref a864)])) (fun _ q => XS.aload X1107.here hx rfl (hb hby at_169) rfl rfl q) ?_
        refine own_callV (y := (⟨"java/lang/String", "equals", "(Ljava/lang/Object;)Z"⟩ : MethodName)) (z := (⟨"java/lang/String", "equals", "(Ljava/lang/Object;)Z"⟩ : MethodName)) X1107 hx hZ hown (w93 hw) (w94 hw) (notFace_of_selects (args := #[]) (mvT hZ (w96 hw))) (w96 hw) (w95 hw) (by decide) (backOf (W := 0) (own_eqs l Z a0 hw [] a864 h1094 n0 c1103 ) hZ (w97 hw) (w6 hw) (Nat.le_of_ble_eq_true rfl) (Nat.le_of_ble_eq_true rfl)) e1107 c1102  (by first | decide | (dsimp only; omega)) (by first | decide | (dsimp only; omega)) (g := (mkF m 171 #[.val (.int s0), .val (.int s1), .val (.int s2), .val (.int mode), .val (.int (1 : Int32)), .val (.int ((1 : Int32) + (((XT.ushr mode (1 : Int32)) &&& (3 : Int32)) % (3 : Int32)))), .val (.ref a864), .val (.ref a874), .val (.ref a887), .val (.ref b1011), .val (.ref b1038), .val (.ref a864), .val (.ref a864)] [(.ref a864), (.ref a864)])) (argsL := [(.ref a864)]) (rest := []) rfl (by rw [hml]; rfl) (lenOf pd_16 rfl) rfl rfl (by show 2 * 0 + _ ≤ _; exact Nat.le_of_eq rfl) (hb hby at_171) ?_
        rintro _ T1109 L1109 X1109 ⟨rfl, N1109q, e1109⟩
        have N1110 := Fr.app N1108 N1109q
        show own_Fin p e below _ T1109 (mkF m 174 #[.val (.int s0), .val (.int s1), .val (.int s2), .val (.int mode), .val (.int (1 : Int32)), .val (.int ((1 : Int32) + (((XT.ushr mode (1 : Int32)) &&& (3 : Int32)) % (3 : Int32)))), .val (.ref a864), .val (.ref a874), .val (.ref a887), .val (.ref b1011), .val (.ref b1038), .val (.ref a864), .val (.ref a864)] [(.int (1 : Int32))])
        refine own_step (T' := T1109) (g' := (mkF m 177 #[.val (.int s0), .val (.int s1), .val (.int s2), .val (.int mode), .val (.int (1 : Int32)), .val (.int ((1 : Int32) + (((XT.ushr mode (1 : Int32)) &&& (3 : Int32)) % (3 : Int32)))), .val (.ref a864), .val (.ref a874), .val (.ref a887), .val (.ref b1011), .val (.ref b1038), .val (.ref a864), .val (.ref a864)] [])) (fun _ q => XS.ifNo X1109.here hx rfl (hb hby at_174) rfl (by decide) q) ?_
        refine own_step (T' := T1109) (g' := (mkF m 179 #[.val (.int s0), .val (.int s1), .val (.int s2), .val (.int mode), .val (.int (1 : Int32)), .val (.int ((1 : Int32) + (((XT.ushr mode (1 : Int32)) &&& (3 : Int32)) % (3 : Int32)))), .val (.ref a864), .val (.ref a874), .val (.ref a887), .val (.ref b1011), .val (.ref b1038), .val (.ref a864), .val (.ref a864)] [(.ref a864)])) (fun _ q => XS.aload X1109.here hx rfl (hb hby at_177) rfl rfl q) ?_
        have c1111 := ((((((((f2_864.keep K874 nin0).keep K887 nin0).ext E1011).other W1028 (Or.inl ne1017)).other W1033 (Or.inl ne1017)).ext E1038).keep K1065 (ninS ne1044 nin0)).other W1094 (Or.inl ne1017))
        have c1112 := ((((((((f3_864.keep K874 nin0).keep K887 nin0).ext E1011).other W1028 (Or.inl ne1017)).other W1033 (Or.inl ne1017)).ext E1038).keep K1065 (ninS ne1044 nin0)).other W1094 (Or.inl ne1017))
        have c1113 := ((((((((f4_864.keep K874 nin0).keep K887 nin0).ext E1011).other W1028 ne1019).other W1033 ne1019).ext E1038).keep K1065 (ninS ne1046 nin0)).other W1094 ne1019)
        have c1114 := (((((((c885.keep K887 all0).ext E1011).wr W1028 n0_1013).wr W1033 n0_1013).ext E1038).keep K1065 (allS n0_1040 all0)).wr W1094 n0_1013)
        refine own_callV (y := (⟨"java/lang/String", "length", "()I"⟩ : MethodName)) (z := (⟨"java/lang/String", "length", "()I"⟩ : MethodName)) (Q := fun v h' L => v = some (.int (Int32.ofNat (cs864).length)) ∧ L = [] ∧ h' = h1094) X1109 hx hZ hown (w98 hw) (w99 hw) (notFace_of_selects (args := #[]) (mvT hZ (w101 hw))) (w101 hw) (w100 hw) (by decide) (StrChars.Road.lenW (W := 0) hZ (own_wl hw) (kI := 4) (w5 hw) c1102 c1111 c1112 c1113 p0_864 p1_864.1 (O2.ext c1114.2) P5 p1_864.2 (by decide) (by decide)) e1109 c1102  (by first | decide | (dsimp only; omega)) (by first | decide | (dsimp only; omega)) (g := (mkF m 179 #[.val (.int s0), .val (.int s1), .val (.int s2), .val (.int mode), .val (.int (1 : Int32)), .val (.int ((1 : Int32) + (((XT.ushr mode (1 : Int32)) &&& (3 : Int32)) % (3 : Int32)))), .val (.ref a864), .val (.ref a874), .val (.ref a887), .val (.ref b1011), .val (.ref b1038), .val (.ref a864), .val (.ref a864)] [(.ref a864)])) (argsL := []) (rest := []) rfl (by rw [hml]; rfl) (lenOf pd_17 rfl) rfl rfl (by show 2 * 0 + _ ≤ _; exact Nat.le_of_eq rfl) (hb hby at_179) ?_
        rintro _ T1115 L1115 X1115 ⟨rfl, rfl, e1115⟩
        have N1115q := Fr.nil n0
        have N1116 := Fr.app N1110 N1115q
        show own_Fin p e below _ T1115 (mkF m 182 #[.val (.int s0), .val (.int s1), .val (.int s2), .val (.int mode), .val (.int (1 : Int32)), .val (.int ((1 : Int32) + (((XT.ushr mode (1 : Int32)) &&& (3 : Int32)) % (3 : Int32)))), .val (.ref a864), .val (.ref a874), .val (.ref a887), .val (.ref b1011), .val (.ref b1038), .val (.ref a864), .val (.ref a864)] [(.int (Int32.ofNat (cs864).length))])
        refine own_step (T' := T1115) (g' := (mkF m 184 #[.val (.int s0), .val (.int s1), .val (.int s2), .val (.int mode), .val (.int (1 : Int32)), .val (.int ((1 : Int32) + (((XT.ushr mode (1 : Int32)) &&& (3 : Int32)) % (3 : Int32)))), .val (.ref a864), .val (.ref a874), .val (.ref a887), .val (.ref b1011), .val (.ref b1038), .val (.ref a864), .val (.ref a864)] [(.ref a864), (.int (Int32.ofNat (cs864).length))])) (fun _ q => XS.aload X1115.here hx rfl (hb hby at_182) rfl rfl q) ?_
        refine own_callV (y := (⟨"java/lang/String", "length", "()I"⟩ : MethodName)) (z := (⟨"java/lang/String", "length", "()I"⟩ : MethodName)) (Q := fun v h' L => v = some (.int (Int32.ofNat (cs864).length)) ∧ L = [] ∧ h' = h1094) X1115 hx hZ hown (w98 hw) (w99 hw) (notFace_of_selects (args := #[]) (mvT hZ (w101 hw))) (w101 hw) (w100 hw) (by decide) (StrChars.Road.lenW (W := 1) hZ (own_wl hw) (kI := 4) (w5 hw) c1102 c1111 c1112 c1113 p0_864 p1_864.1 (O2.ext c1114.2) P5 p1_864.2 (by decide) (by decide)) e1115 c1102  (by first | decide | (dsimp only; omega)) (by first | decide | (dsimp only; omega)) (g := (mkF m 184 #[.val (.int s0), .val (.int s1), .val (.int s2), .val (.int mode), .val (.int (1 : Int32)), .val (.int ((1 : Int32) + (((XT.ushr mode (1 : Int32)) &&& (3 : Int32)) % (3 : Int32)))), .val (.ref a864), .val (.ref a874), .val (.ref a887), .val (.ref b1011), .val (.ref b1038), .val (.ref a864), .val (.ref a864)] [(.ref a864), (.int (Int32.ofNat (cs864).length))])) (argsL := []) (rest := [(.int (Int32.ofNat (cs864).length))]) rfl (by rw [hml]; rfl) (lenOf pd_17 rfl) rfl rfl (by show 2 * 0 + _ ≤ _; exact Nat.le_of_eq rfl) (hb hby at_184) ?_
        rintro _ T1117 L1117 X1117 ⟨rfl, rfl, e1117⟩
        have N1117q := Fr.nil n0
        have N1118 := Fr.app N1116 N1117q
        show own_Fin p e below _ T1117 (mkF m 187 #[.val (.int s0), .val (.int s1), .val (.int s2), .val (.int mode), .val (.int (1 : Int32)), .val (.int ((1 : Int32) + (((XT.ushr mode (1 : Int32)) &&& (3 : Int32)) % (3 : Int32)))), .val (.ref a864), .val (.ref a874), .val (.ref a887), .val (.ref b1011), .val (.ref b1038), .val (.ref a864), .val (.ref a864)] [(.int (Int32.ofNat (cs864).length)), (.int (Int32.ofNat (cs864).length))])
        refine own_step (T' := T1117) (g' := (mkF m 190 #[.val (.int s0), .val (.int s1), .val (.int s2), .val (.int mode), .val (.int (1 : Int32)), .val (.int ((1 : Int32) + (((XT.ushr mode (1 : Int32)) &&& (3 : Int32)) % (3 : Int32)))), .val (.ref a864), .val (.ref a874), .val (.ref a887), .val (.ref b1011), .val (.ref b1038), .val (.ref a864), .val (.ref a864)] [])) (fun _ q => XS.icmpNo X1117.here hx rfl (hb hby at_187) rfl (XT.ii_ne_f rfl) q) ?_
        refine own_step (T' := T1117) (g' := (mkF m 192 #[.val (.int s0), .val (.int s1), .val (.int s2), .val (.int mode), .val (.int (1 : Int32)), .val (.int ((1 : Int32) + (((XT.ushr mode (1 : Int32)) &&& (3 : Int32)) % (3 : Int32)))), .val (.ref a864), .val (.ref a874), .val (.ref a887), .val (.ref b1011), .val (.ref b1038), .val (.ref a864), .val (.ref a864)] [(.ref a864)])) (fun _ q => XS.aload X1117.here hx rfl (hb hby at_190) rfl rfl q) ?_
        refine own_step (T' := T1117) (g' := (mkF m 194 #[.val (.int s0), .val (.int s1), .val (.int s2), .val (.int mode), .val (.int (1 : Int32)), .val (.int ((1 : Int32) + (((XT.ushr mode (1 : Int32)) &&& (3 : Int32)) % (3 : Int32)))), .val (.ref a864), .val (.ref a874), .val (.ref a887), .val (.ref b1011), .val (.ref b1038), .val (.ref a864), .val (.ref a864)] [(.ref a864), (.ref a864)])) (fun _ q => XS.aload X1117.here hx rfl (hb hby at_192) rfl rfl q) ?_
        refine own_callV (y := (⟨"java/lang/String", "equals", "(Ljava/lang/Object;)Z"⟩ : MethodName)) (z := (⟨"java/lang/String", "equals", "(Ljava/lang/Object;)Z"⟩ : MethodName)) X1117 hx hZ hown (w93 hw) (w94 hw) (notFace_of_selects (args := #[]) (mvT hZ (w96 hw))) (w96 hw) (w95 hw) (by decide) (backOf (W := 0) (own_eqs l Z a0 hw [] a864 h1094 n0 c1103 ) hZ (w97 hw) (w6 hw) (Nat.le_of_ble_eq_true rfl) (Nat.le_of_ble_eq_true rfl)) e1117 c1102  (by first | decide | (dsimp only; omega)) (by first | decide | (dsimp only; omega)) (g := (mkF m 194 #[.val (.int s0), .val (.int s1), .val (.int s2), .val (.int mode), .val (.int (1 : Int32)), .val (.int ((1 : Int32) + (((XT.ushr mode (1 : Int32)) &&& (3 : Int32)) % (3 : Int32)))), .val (.ref a864), .val (.ref a874), .val (.ref a887), .val (.ref b1011), .val (.ref b1038), .val (.ref a864), .val (.ref a864)] [(.ref a864), (.ref a864)])) (argsL := [(.ref a864)]) (rest := []) rfl (by rw [hml]; rfl) (lenOf pd_16 rfl) rfl rfl (by show 2 * 0 + _ ≤ _; exact Nat.le_of_eq rfl) (hb hby at_194) ?_
        rintro _ T1119 L1119 X1119 ⟨rfl, N1119q, e1119⟩
        have N1120 := Fr.app N1118 N1119q
        show own_Fin p e below _ T1119 (mkF m 197 #[.val (.int s0), .val (.int s1), .val (.int s2), .val (.int mode), .val (.int (1 : Int32)), .val (.int ((1 : Int32) + (((XT.ushr mode (1 : Int32)) &&& (3 : Int32)) % (3 : Int32)))), .val (.ref a864), .val (.ref a874), .val (.ref a887), .val (.ref b1011), .val (.ref b1038), .val (.ref a864), .val (.ref a864)] [(.int (1 : Int32))])
        refine own_step (T' := T1119) (g' := (mkF m 200 #[.val (.int s0), .val (.int s1), .val (.int s2), .val (.int mode), .val (.int (1 : Int32)), .val (.int ((1 : Int32) + (((XT.ushr mode (1 : Int32)) &&& (3 : Int32)) % (3 : Int32)))), .val (.ref a864), .val (.ref a874), .val (.ref a887), .val (.ref b1011), .val (.ref b1038), .val (.ref a864), .val (.ref a864)] [])) (fun _ q => XS.ifNo X1119.here hx rfl (hb hby at_197) rfl (by decide) q) ?_
        refine own_step (T' := T1119) (g' := (mkF m 201 #[.val (.int s0), .val (.int s1), .val (.int s2), .val (.int mode), .val (.int (1 : Int32)), .val (.int ((1 : Int32) + (((XT.ushr mode (1 : Int32)) &&& (3 : Int32)) % (3 : Int32)))), .val (.ref a864), .val (.ref a874), .val (.ref a887), .val (.ref b1011), .val (.ref b1038), .val (.ref a864), .val (.ref a864)] [(.int (1 : Int32))])) (fun _ q => XS.iconst X1119.here hx rfl (hb hby at_200) q) ?_
        refine own_step (T' := T1119) (g' := (mkF m 205 #[.val (.int s0), .val (.int s1), .val (.int s2), .val (.int mode), .val (.int (1 : Int32)), .val (.int ((1 : Int32) + (((XT.ushr mode (1 : Int32)) &&& (3 : Int32)) % (3 : Int32)))), .val (.ref a864), .val (.ref a874), .val (.ref a887), .val (.ref b1011), .val (.ref b1038), .val (.ref a864), .val (.ref a864)] [(.int (1 : Int32))])) (fun _ q => XS.goto X1119.here hx rfl (pc0 := 201) (pc' := 205) rfl (hb hby at_201) (by decide) (by decide) q) ?_
        have c1121 := ((c1067.trans K1065 (allS (Or.inr sz0_1042) all0)).wr W1094 (Or.inr sz0_1015))
        have c1122 := (Nat.le_trans (Nat.le_trans (Nat.le_trans (Nat.le_trans (Nat.le_trans (Nat.le_trans (Nat.le_refl _) E1011.1) (Keep.of_wr W1028).1) (Keep.of_wr W1033).1) E1038.1) K1065.1) (Keep.of_wr W1094).1)
        exact own_retNW X1119 hx hZ (own_hEL hw) hS (by rw [e1119]; exact c1122) (by rw [e1119]; exact CH1097) Bd.returns (by simp) (hb hby at_205) hlk (by rw [e1119]; exact ⟨rfl, N1120, c1121⟩) (by first | decide | (dsimp only; omega)) (by first | decide | (dsimp only; omega))
      · refine own_step (T' := T887) (g' := (mkF m 103 #[.val (.int s0), .val (.int s1), .val (.int s2), .val (.int mode), .val (.int (1 : Int32)), .val (.int ((1 : Int32) + (((XT.ushr mode (1 : Int32)) &&& (3 : Int32)) % (3 : Int32)))), .val (.ref a864), .val (.ref a874), .val (.ref a887), .unset, .unset, .unset, .unset] [])) (fun _ q => XS.icmpYes X887.here hx rfl (pc0 := 81) (pc' := 103) rfl (hb hby at_81) rfl (XT.ii_ne_t hc1010) (by decide) (by decide) q) ?_
        refine own_step (T' := T887) (g' := (mkF m 104 #[.val (.int s0), .val (.int s1), .val (.int s2), .val (.int mode), .val (.int (1 : Int32)), .val (.int ((1 : Int32) + (((XT.ushr mode (1 : Int32)) &&& (3 : Int32)) % (3 : Int32)))), .val (.ref a864), .val (.ref a874), .val (.ref a887), .unset, .unset, .unset, .unset] [(.int (3 : Int32))])) (fun _ q => XS.iconst X887.here hx rfl (hb hby at_103) q) ?_
        obtain ⟨T1123, h1123, k1123, X1123, e1123, E1123, A1123, O1123, st1123⟩ := newR X887 hx hZ hown (w4 hw) (w26 hw) rfl (g := (mkF m 104 #[.val (.int s0), .val (.int s1), .val (.int s2), .val (.int mode), .val (.int (1 : Int32)), .val (.int ((1 : Int32) + (((XT.ushr mode (1 : Int32)) &&& (3 : Int32)) % (3 : Int32)))), .val (.ref a864), .val (.ref a874), .val (.ref a887), .unset, .unset, .unset, .unset] [(.int (3 : Int32))])) rfl (hb hby at_104) rfl (by decide) (cap := 3) (by decide) (by first | decide | omega) (by first | decide | (dsimp only; omega)) (by first | decide | (dsimp only; omega))
        obtain ⟨b1123, g1123⟩ : ∃ z, z = T887.heap.size := ⟨_, rfl⟩
        rw [← g1123] at A1123 st1123
        have c1124 := (Nat.le_trans c886 K887.1)
        have n0_1125 : n0 ≤ b1123 := Nat.le_trans c1124 (Nat.le_of_eq g1123.symm)
        have c1126 := (c889.trans K887 all0)
        have sz0_1127 := Nat.le_trans c1126.1 (Nat.le_of_eq g1123.symm)
        have c1128 := (own_lt c891 K887.1)
        have ne1129 : a864 ≠ b1123 := own_ne c1128 (Nat.le_of_eq g1123.symm)
        have c1130 := (own_lt c893 K887.1)
        have ne1131 : t864 ≠ b1123 := own_ne c1130 (Nat.le_of_eq g1123.symm)
        have c1132 := (own_lt lt882 K887.1)
        have ne1133 : a874 ≠ b1123 := own_ne c1132 (Nat.le_of_eq g1123.symm)
        have c1134 := (own_lt lt883 K887.1)
        have ne1135 : t874 ≠ b1123 := own_ne c1134 (Nat.le_of_eq g1123.symm)
        have ne1136 : a887 ≠ b1123 := own_ne lt899 (Nat.le_of_eq g1123.symm)
        have ne1137 : t887 ≠ b1123 := own_ne lt900 (Nat.le_of_eq g1123.symm)
        have sf1138 : Safe Z own_EL _ _ b1123 := Safe.new (EL := own_EL) (Z := Z) (vm := T887.vm) (Nat.le_of_eq g1123.symm)
        have CH1139 := CH898.trans (CHr.ext E1123 CH898.1)
        have V1123 : Arv Z h1123 b1123 k1123 (.object "java/lang/String") (3 : Int32) [.null, .null, .null] .null := (Arv.new A1123 (by decide)).pad (pad_rep [] .null 3)
        have ltb1123 := V1123.lt
        refine own_step (T' := T1123) (g' := (mkF m 107 #[.val (.int s0), .val (.int s1), .val (.int s2), .val (.int mode), .val (.int (1 : Int32)), .val (.int ((1 : Int32) + (((XT.ushr mode (1 : Int32)) &&& (3 : Int32)) % (3 : Int32)))), .val (.ref a864), .val (.ref a874), .val (.ref a887), .unset, .unset, .unset, .unset] [(.ref b1123)])) st1123 ?_
        refine own_step (T' := T1123) (g' := (mkF m 108 #[.val (.int s0), .val (.int s1), .val (.int s2), .val (.int mode), .val (.int (1 : Int32)), .val (.int ((1 : Int32) + (((XT.ushr mode (1 : Int32)) &&& (3 : Int32)) % (3 : Int32)))), .val (.ref a864), .val (.ref a874), .val (.ref a887), .unset, .unset, .unset, .unset] [(.ref b1123), (.ref b1123)])) (fun _ q => XS.dup X1123.here hx rfl (hb hby at_107) rfl rfl q) ?_
        refine own_step (T' := T1123) (g' := (mkF m 109 #[.val (.int s0), .val (.int s1), .val (.int s2), .val (.int mode), .val (.int (1 : Int32)), .val (.int ((1 : Int32) + (((XT.ushr mode (1 : Int32)) &&& (3 : Int32)) % (3 : Int32)))), .val (.ref a864), .val (.ref a874), .val (.ref a887), .unset, .unset, .unset, .unset] [(.int (0 : Int32)), (.ref b1123), (.ref b1123)])) (fun _ q => XS.iconst X1123.here hx rfl (hb hby at_108) q) ?_
        refine own_step (T' := T1123) (g' := (mkF m 111 #[.val (.int s0), .val (.int s1), .val (.int s2), .val (.int mode), .val (.int (1 : Int32)), .val (.int ((1 : Int32) + (((XT.ushr mode (1 : Int32)) &&& (3 : Int32)) % (3 : Int32)))), .val (.ref a864), .val (.ref a874), .val (.ref a887), .unset, .unset, .unset, .unset] [(.ref a864), (.int (0 : Int32)), (.ref b1123), (.ref b1123)])) (fun _ q => XS.aload X1123.here hx rfl (hb hby at_109) rfl rfl q) ?_
        have c1141 := (((f1_864.keep K874).keep K887).ext E1123)
        obtain ⟨T1140, h1140, X1140, e1140, W1140, V1140, st1140⟩ := own_stR X1123 hx hZ e1123 V1123 rfl rfl (fun _ A q => Sto.ofV A q O1123 (Ins.self c1141)) (j := (0 : Int32)) ⟨by decide, by decide⟩ (i := 0) rfl (Nat.le_of_ble_eq_true rfl) (g := (mkF m 111 #[.val (.int s0), .val (.int s1), .val (.int s2), .val (.int mode), .val (.int (1 : Int32)), .val (.int ((1 : Int32) + (((XT.ushr mode (1 : Int32)) &&& (3 : Int32)) % (3 : Int32)))), .val (.ref a864), .val (.ref a874), .val (.ref a887), .unset, .unset, .unset, .unset] [(.ref a864), (.int (0 : Int32)), (.ref b1123), (.ref b1123)])) rfl rfl (hb hby at_111)
        replace V1140 : Arv Z h1140 b1123 k1123 (.object "java/lang/String") (3 : Int32) [(.ref a864), .null, .null] .null := V1140
        have N1142 := Fr.snoc X1140 N901 n0_1125
        have c1144 := (Safe.ext E1123 CH898.1 sf1138)
        have CH1143 := CH1139.trans (CHr.wr W1140 c1144 CH1139.1)
        refine own_step (T' := T1140) (g' := (mkF m 112 #[.val (.int s0), .val (.int s1), .val (.int s2), .val (.int mode), .val (.int (1 : Int32)), .val (.int ((1 : Int32) + (((XT.ushr mode (1 : Int32)) &&& (3 : Int32)) % (3 : Int32)))), .val (.ref a864), .val (.ref a874), .val (.ref a887), .unset, .unset, .unset, .unset] [(.ref b1123)])) st1140 ?_
        refine own_step (T' := T1140) (g' := (mkF m 113 #[.val (.int s0), .val (.int s1), .val (.int s2), .val (.int mode), .val (.int (1 : Int32)), .val (.int ((1 : Int32) + (((XT.ushr mode (1 : Int32)) &&& (3 : Int32)) % (3 : Int32)))), .val (.ref a864), .val (.ref a874), .val (.ref a887), .unset, .unset, .unset, .unset] [(.ref b1123), (.ref b1123)])) (fun _ q => XS.dup X1140.here hx rfl (hb hby at_112) rfl rfl q) ?_
        refine own_step (T' := T1140) (g' := (mkF m 114 #[.val (.int s0), .val (.int s1), .val (.int s2), .val (.int mode), .val (.int (1 : Int32)), .val (.int ((1 : Int32) + (((XT.ushr mode (1 : Int32)) &&& (3 : Int32)) % (3 : Int32)))), .val (.ref a864), .val (.ref a874), .val (.ref a887), .unset, .unset, .unset, .unset] [(.int (1 : Int32)), (.ref b1123), (.ref b1123)])) (fun _ q => XS.iconst X1140.here hx rfl (hb hby at_113) q) ?_
        refine own_step (T' := T1140) (g' := (mkF m 116 #[.val (.int s0), .val (.int s1), .val (.int s2), .val (.int mode), .val (.int (1 : Int32)), .val (.int ((1 : Int32) + (((XT.ushr mode (1 : Int32)) &&& (3 : Int32)) % (3 : Int32)))), .val (.ref a864), .val (.ref a874), .val (.ref a887), .unset, .unset, .unset, .unset] [(.ref a874), (.int (1 : Int32)), (.ref b1123), (.ref b1123)])) (fun _ q => XS.aload X1140.here hx rfl (hb hby at_114) rfl rfl q) ?_
        have c1146 := (((f1_874.keep K887).ext E1123).wr W1140)
        obtain ⟨T1145, h1145, X1145, e1145, W1145, V1145, st1145⟩ := own_stR X1140 hx hZ e1140 V1140 rfl rfl (fun _ A q => Sto.ofV A q O1123 (Ins.self c1146)) (j := (1 : Int32)) ⟨by decide, by decide⟩ (i := 1) rfl (Nat.le_of_ble_eq_true rfl) (g := (mkF m 116 #[.val (.int s0), .val (.int s1), .val (.int s2), .val (.int mode), .val (.int (1 : Int32)), .val (.int ((1 : Int32) + (((XT.ushr mode (1 : Int32)) &&& (3 : Int32)) % (3 : Int32)))), .val (.ref a864), .val (.ref a874), .val (.ref a887), .unset, .unset, .unset, .unset] [(.ref a874), (.int (1 : Int32)), (.ref b1123), (.ref b1123)])) rfl rfl (hb hby at_116)
        replace V1145 : Arv Z h1145 b1123 k1123 (.object "java/lang/String") (3 : Int32) [(.ref a864), (.ref a874), .null] .null := V1145
        have N1147 := Fr.snoc X1145 N1142 n0_1125
        have c1149 := (Safe.wr W1140 c1144 CH1139.1 c1144)
        have CH1148 := CH1143.trans (CHr.wr W1145 c1149 CH1143.1)
        refine own_step (T' := T1145) (g' := (mkF m 117 #[.val (.int s0), .val (.int s1), .val (.int s2), .val (.int mode), .val (.int (1 : Int32)), .val (.int ((1 : Int32) + (((XT.ushr mode (1 : Int32)) &&& (3 : Int32)) % (3 : Int32)))), .val (.ref a864), .val (.ref a874), .val (.ref a887), .unset, .unset, .unset, .unset] [(.ref b1123)])) st1145 ?_
        refine own_step (T' := T1145) (g' := (mkF m 118 #[.val (.int s0), .val (.int s1), .val (.int s2), .val (.int mode), .val (.int (1 : Int32)), .val (.int ((1 : Int32) + (((XT.ushr mode (1 : Int32)) &&& (3 : Int32)) % (3 : Int32)))), .val (.ref a864), .val (.ref a874), .val (.ref a887), .unset, .unset, .unset, .unset] [(.ref b1123), (.ref b1123)])) (fun _ q => XS.dup X1145.here hx rfl (hb hby at_117) rfl rfl q) ?_
        refine own_step (T' := T1145) (g' := (mkF m 119 #[.val (.int s0), .val (.int s1), .val (.int s2), .val (.int mode), .val (.int (1 : Int32)), .val (.int ((1 : Int32) + (((XT.ushr mode (1 : Int32)) &&& (3 : Int32)) % (3 : Int32)))), .val (.ref a864), .val (.ref a874), .val (.ref a887), .unset, .unset, .unset, .unset] [(.int (2 : Int32)), (.ref b1123), (.ref b1123)])) (fun _ q => XS.iconst X1145.here hx rfl (hb hby at_118) q) ?_
        refine own_step (T' := T1145) (g' := (mkF m 121 #[.val (.int s0), .val (.int s1), .val (.int s2), .val (.int mode), .val (.int (1 : Int32)), .val (.int ((1 : Int32) + (((XT.ushr mode (1 : Int32)) &&& (3 : Int32)) % (3 : Int32)))), .val (.ref a864), .val (.ref a874), .val (.ref a887), .unset, .unset, .unset, .unset] [(.ref a887), (.int (2 : Int32)), (.ref b1123), (.ref b1123)])) (fun _ q => XS.aload X1145.here hx rfl (hb hby at_119) rfl rfl q) ?_
        have c1151 := (((f1_887.ext E1123).wr W1140).wr W1145)
        obtain ⟨T1150, h1150, X1150, e1150, W1150, V1150, st1150⟩ := own_stR X1145 hx hZ e1145 V1145 rfl rfl (fun _ A q => Sto.ofV A q O1123 (Ins.self c1151)) (j := (2 : Int32)) ⟨by decide, by decide⟩ (i := 2) rfl (Nat.le_of_ble_eq_true rfl) (g := (mkF m 121 #[.val (.int s0), .val (.int s1), .val (.int s2), .val (.int mode), .val (.int (1 : Int32)), .val (.int ((1 : Int32) + (((XT.ushr mode (1 : Int32)) &&& (3 : Int32)) % (3 : Int32)))), .val (.ref a864), .val (.ref a874), .val (.ref a887), .unset, .unset, .unset, .unset] [(.ref a887), (.int (2 : Int32)), (.ref b1123), (.ref b1123)])) rfl rfl (hb hby at_121)
        replace V1150 : Arv Z h1150 b1123 k1123 (.object "java/lang/String") (3 : Int32) [(.ref a864), (.ref a874), (.ref a887)] .null := V1150
        have N1152 := Fr.snoc X1150 N1147 n0_1125
        have c1154 := (Safe.wr W1145 c1149 CH1143.1 c1149)
        have CH1153 := CH1148.trans (CHr.wr W1150 c1154 CH1148.1)
        refine own_step (T' := T1150) (g' := (mkF m 122 #[.val (.int s0), .val (.int s1), .val (.int s2), .val (.int mode), .val (.int (1 : Int32)), .val (.int ((1 : Int32) + (((XT.ushr mode (1 : Int32)) &&& (3 : Int32)) % (3 : Int32)))), .val (.ref a864), .val (.ref a874), .val (.ref a887), .unset, .unset, .unset, .unset] [(.ref b1123)])) st1150 ?_
        refine own_step (T' := T1150) (g' := (mkF m 124 #[.val (.int s0), .val (.int s1), .val (.int s2), .val (.int mode), .val (.int (1 : Int32)), .val (.int ((1 : Int32) + (((XT.ushr mode (1 : Int32)) &&& (3 : Int32)) % (3 : Int32)))), .val (.ref a864), .val (.ref a874), .val (.ref a887), .val (.ref b1123), .unset, .unset, .unset] [])) (fun _ q => XS.astore X1150.here hx rfl (hb hby at_122) rfl rfl (l' := #[.val (.int s0), .val (.int s1), .val (.int s2), .val (.int mode), .val (.int (1 : Int32)), .val (.int ((1 : Int32) + (((XT.ushr mode (1 : Int32)) &&& (3 : Int32)) % (3 : Int32)))), .val (.ref a864), .val (.ref a874), .val (.ref a887), .val (.ref b1123), .unset, .unset, .unset]) rfl q) ?_
        obtain ⟨T1155, h1155, X1155, e1155, E1155, A1155, D1155, -, st1155⟩ := newO X1150 hx hZ hown (w27 hw) (w28 hw) (w29 hw) e1150 (g := (mkF m 124 #[.val (.int s0), .val (.int s1), .val (.int s2), .val (.int mode), .val (.int (1 : Int32)), .val (.int ((1 : Int32) + (((XT.ushr mode (1 : Int32)) &&& (3 : Int32)) % (3 : Int32)))), .val (.ref a864), .val (.ref a874), .val (.ref a887), .val (.ref b1123), .unset, .unset, .unset] [])) rfl (hb hby at_124) (by first | decide | (dsimp only; omega)) (by first | decide | (dsimp only; omega))
        obtain ⟨b1155, g1155⟩ : ∃ z, z = h1150.size := ⟨_, rfl⟩
        rw [← g1155] at A1155 D1155 st1155
        have c1156 := (Nat.le_trans (Nat.le_trans (Nat.le_trans (Nat.le_trans c1124 E1123.1) (Keep.of_wr W1140).1) (Keep.of_wr W1145).1) (Keep.of_wr W1150).1)
        have n0_1157 : n0 ≤ b1155 := Nat.le_trans c1156 (Nat.le_of_eq g1155.symm)
        have c1158 := ((((c1126.ext E1123).wr W1140 (Or.inr sz0_1127)).wr W1145 (Or.inr sz0_1127)).wr W1150 (Or.inr sz0_1127))
        have sz0_1159 := Nat.le_trans c1158.1 (Nat.le_of_eq g1155.symm)
        have c1160 := (own_lt (own_lt (own_lt (own_lt c1128 E1123.1) (Keep.of_wr W1140).1) (Keep.of_wr W1145).1) (Keep.of_wr W1150).1)
        have ne1161 : a864 ≠ b1155 := own_ne c1160 (Nat.le_of_eq g1155.symm)
        have c1162 := (own_lt (own_lt (own_lt (own_lt c1130 E1123.1) (Keep.of_wr W1140).1) (Keep.of_wr W1145).1) (Keep.of_wr W1150).1)
        have ne1163 : t864 ≠ b1155 := own_ne c1162 (Nat.le_of_eq g1155.symm)
        have c1164 := (own_lt (own_lt (own_lt (own_lt c1132 E1123.1) (Keep.of_wr W1140).1) (Keep.of_wr W1145).1) (Keep.of_wr W1150).1)
        have ne1165 : a874 ≠ b1155 := own_ne c1164 (Nat.le_of_eq g1155.symm)
        have c1166 := (own_lt (own_lt (own_lt (own_lt c1134 E1123.1) (Keep.of_wr W1140).1) (Keep.of_wr W1145).1) (Keep.of_wr W1150).1)
        have ne1167 : t874 ≠ b1155 := own_ne c1166 (Nat.le_of_eq g1155.symm)
        have c1168 := (own_lt (own_lt (own_lt (own_lt lt899 E1123.1) (Keep.of_wr W1140).1) (Keep.of_wr W1145).1) (Keep.of_wr W1150).1)
        have ne1169 : a887 ≠ b1155 := own_ne c1168 (Nat.le_of_eq g1155.symm)
        have c1170 := (own_lt (own_lt (own_lt (own_lt lt900 E1123.1) (Keep.of_wr W1140).1) (Keep.of_wr W1145).1) (Keep.of_wr W1150).1)
        have ne1171 : t887 ≠ b1155 := own_ne c1170 (Nat.le_of_eq g1155.symm)
        have c1172 := (own_lt (own_lt (own_lt ltb1123 (Keep.of_wr W1140).1) (Keep.of_wr W1145).1) (Keep.of_wr W1150).1)
        have ne1173 : b1123 ≠ b1155 := own_ne c1172 (Nat.le_of_eq g1155.symm)
        have sf1174 : Safe Z own_EL _ _ b1155 := Safe.new (EL := own_EL) (Z := Z) (vm := T887.vm) (Nat.le_of_eq g1155.symm)
        have CH1175 := CH1153.trans (CHr.ext E1155 CH1153.1)
        have ltb1155 := A1155.lt
        have F1176 : Fld Z h1155 b1155 "com/example/gangway/gangway/tool/CommandLine$Option" "repeatable" "Z" (.int (0 : Int32)) := D1155 (Or.inr (w35 hw)) (ty := .boolean) (by decide)
        have F1177 : Fld Z h1155 b1155 "com/example/gangway/gangway/tool/CommandLine$Option" "spellings" "Ljava/util/List;" .null := D1155 (Or.inr (w77 hw)) (ty := (.object "java/util/List")) (by decide)
        refine own_step (T' := T1155) (g' := (mkF m 127 #[.val (.int s0), .val (.int s1), .val (.int s2), .val (.int mode), .val (.int (1 : Int32)), .val (.int ((1 : Int32) + (((XT.ushr mode (1 : Int32)) &&& (3 : Int32)) % (3 : Int32)))), .val (.ref a864), .val (.ref a874), .val (.ref a887), .val (.ref b1123), .unset, .unset, .unset] [(.ref b1155)])) st1155 ?_
        refine own_step (T' := T1155) (g' := (mkF m 128 #[.val (.int s0), .val (.int s1), .val (.int s2), .val (.int mode), .val (.int (1 : Int32)), .val (.int ((1 : Int32) + (((XT.ushr mode (1 : Int32)) &&& (3 : Int32)) % (3 : Int32)))), .val (.ref a864), .val (.ref a874), .val (.ref a887), .val (.ref b1123), .unset, .unset, .unset] [(.ref b1155), (.ref b1155)])) (fun _ q => XS.dup X1155.here hx rfl (hb hby at_127) rfl rfl q) ?_
        refine own_step (T' := T1155) (g' := (mkF m 130 #[.val (.int s0), .val (.int s1), .val (.int s2), .val (.int mode), .val (.int (1 : Int32)), .val (.int ((1 : Int32) + (((XT.ushr mode (1 : Int32)) &&& (3 : Int32)) % (3 : Int32)))), .val (.ref a864), .val (.ref a874), .val (.ref a887), .val (.ref b1123), .unset, .unset, .unset] [(.int (1 : Int32)), (.ref b1155), (.ref b1155)])) (fun _ q => XS.iload X1155.here hx rfl (hb hby at_128) rfl q) ?_
        refine own_step (T' := T1155) (g' := (mkF m 132 #[.val (.int s0), .val (.int s1), .val (.int s2), .val (.int mode), .val (.int (1 : Int32)), .val (.int ((1 : Int32) + (((XT.ushr mode (1 : Int32)) &&& (3 : Int32)) % (3 : Int32)))), .val (.ref a864), .val (.ref a874), .val (.ref a887), .val (.ref b1123), .unset, .unset, .unset] [(.ref b1123), (.int (1 : Int32)), (.ref b1155), (.ref b1155)])) (fun _ q => XS.aload X1155.here hx rfl (hb hby at_130) rfl rfl q) ?_
        have c1178 := (V1150.ext E1155)
        have c1179 := ((((c1141.wr W1140).wr W1145).wr W1150).ext E1155)
        have c1180 := (((c1146.wr W1145).wr W1150).ext E1155)
        have c1181 := ((c1151.wr W1150).ext E1155)
        have c1182 := (Nat.le_trans c1156 E1155.1)
        refine own_callC X1155 hx hZ hown rfl (w30 hw) (w31 hw) (w32 hw) (by decide) (backOf (W := 1) (own_opt3 l Z a0 hw [] b1155 (1 : Int32) b1123 k1123 a864 a874 a887 h1155 n0 c1182 A1155 n0_1157 F1176 F1177 c1178 c1179 c1180 c1181) hZ (w32 hw) (w29 hw) (Nat.le_of_ble_eq_true rfl) (Nat.le_of_ble_eq_true rfl)) e1155  (by first | decide | (dsimp only; omega)) (by first | decide | (dsimp only; omega)) (g := (mkF m 132 #[.val (.int s0), .val (.int s1), .val (.int s2), .val (.int mode), .val (.int (1 : Int32)), .val (.int ((1 : Int32) + (((XT.ushr mode (1 : Int32)) &&& (3 : Int32)) % (3 : Int32)))), .val (.ref a864), .val (.ref a874), .val (.ref a887), .val (.ref b1123), .unset, .unset, .unset] [(.ref b1123), (.int (1 : Int32)), (.ref b1155), (.ref b1155)])) (argsL := [(.int (1 : Int32)), (.ref b1123)]) (rest := [(.ref b1155)]) rfl (by rw [hml]; rfl) (lenOf pd_14 rfl) rfl rfl (by show 2 * 0 + _ ≤ _; exact Nat.le_of_eq rfl) (hb hby at_132) ?_
        rintro _ T1183 L1183 X1183 ⟨lst1183, t1183, kt1183, rfl, N1183q, K1183, f0_1183, f1_1183, f2_1183, f3_1183, f4_1183, f5_1183, f6_1183⟩
        have n0_1184 : n0 ≤ lst1183 := Nat.le_trans c1182 f0_1183
        have c1185 := (c1158.ext E1155)
        have sz0_1186 := Nat.le_trans c1185.1 f0_1183
        have c1187 := (own_lt c1160 E1155.1)
        have ne1188 : a864 ≠ lst1183 := own_ne c1187 f0_1183
        have c1189 := (own_lt c1162 E1155.1)
        have ne1190 : t864 ≠ lst1183 := own_ne c1189 f0_1183
        have c1191 := (own_lt c1164 E1155.1)
        have ne1192 : a874 ≠ lst1183 := own_ne c1191 f0_1183
        have c1193 := (own_lt c1166 E1155.1)
        have ne1194 : t874 ≠ lst1183 := own_ne c1193 f0_1183
        have c1195 := (own_lt c1168 E1155.1)
        have ne1196 : a887 ≠ lst1183 := own_ne c1195 f0_1183
        have c1197 := (own_lt c1170 E1155.1)
        have ne1198 : t887 ≠ lst1183 := own_ne c1197 f0_1183
        have c1199 := (own_lt c1172 E1155.1)
        have ne1200 : b1123 ≠ lst1183 := own_ne c1199 f0_1183
        have ne1201 : b1155 ≠ lst1183 := own_ne ltb1155 f0_1183
        have sf1202 : Safe Z own_EL _ _ lst1183 := Safe.new (EL := own_EL) (Z := Z) (vm := T887.vm) f0_1183
        have n0_1203 : n0 ≤ t1183 := Nat.le_trans c1182 f3_1183
        have sz0_1204 := Nat.le_trans c1185.1 f3_1183
        have ne1205 : a864 ≠ t1183 := own_ne c1187 f3_1183
        have ne1206 : t864 ≠ t1183 := own_ne c1189 f3_1183
        have ne1207 : a874 ≠ t1183 := own_ne c1191 f3_1183
        have ne1208 : t874 ≠ t1183 := own_ne c1193 f3_1183
        have ne1209 : a887 ≠ t1183 := own_ne c1195 f3_1183
        have ne1210 : t887 ≠ t1183 := own_ne c1197 f3_1183
        have ne1211 : b1123 ≠ t1183 := own_ne c1199 f3_1183
        have ne1212 : b1155 ≠ t1183 := own_ne ltb1155 f3_1183
        have sf1213 : Safe Z own_EL _ _ t1183 := Safe.new (EL := own_EL) (Z := Z) (vm := T887.vm) f3_1183
        have c1215 := (Safe.ext E1155 CH1153.1 sf1174)
        have CH1214 := CH1175.trans (CHr.keep K1183 (sfS c1215 sf0) CH1175.1)
        have lt1216 := f4_1183.lt
        have lt1217 := f6_1183.lt
        have N1218 := Fr.app N1152 N1183q
        show own_Fin p e below _ T1183 (mkF m 135 #[.val (.int s0), .val (.int s1), .val (.int s2), .val (.int mode), .val (.int (1 : Int32)), .val (.int ((1 : Int32) + (((XT.ushr mode (1 : Int32)) &&& (3 : Int32)) % (3 : Int32)))), .val (.ref a864), .val (.ref a874), .val (.ref a887), .val (.ref b1123), .unset, .unset, .unset] [(.ref b1155)])
        refine own_step (T' := T1183) (g' := (mkF m 137 #[.val (.int s0), .val (.int s1), .val (.int s2), .val (.int mode), .val (.int (1 : Int32)), .val (.int ((1 : Int32) + (((XT.ushr mode (1 : Int32)) &&& (3 : Int32)) % (3 : Int32)))), .val (.ref a864), .val (.ref a874), .val (.ref a887), .val (.ref b1123), .val (.ref b1155), .unset, .unset] [])) (fun _ q => XS.astore X1183.here hx rfl (hb hby at_135) rfl rfl (l' := #[.val (.int s0), .val (.int s1), .val (.int s2), .val (.int mode), .val (.int (1 : Int32)), .val (.int ((1 : Int32) + (((XT.ushr mode (1 : Int32)) &&& (3 : Int32)) % (3 : Int32)))), .val (.ref a864), .val (.ref a874), .val (.ref a887), .val (.ref b1123), .val (.ref b1155), .unset, .unset]) rfl q) ?_
        refine own_step (T' := T1183) (g' := (mkF m 139 #[.val (.int s0), .val (.int s1), .val (.int s2), .val (.int mode), .val (.int (1 : Int32)), .val (.int ((1 : Int32) + (((XT.ushr mode (1 : Int32)) &&& (3 : Int32)) % (3 : Int32)))), .val (.ref a864), .val (.ref a874), .val (.ref a887), .val (.ref b1123), .val (.ref b1155), .unset, .unset] [(.ref b1155)])) (fun _ q => XS.aload X1183.here hx rfl (hb hby at_137) rfl rfl q) ?_
        have c1219 := (c1179.keep K1183)
        have c1220 := (Nat.le_trans c1182 K1183.1)
        refine own_callV (y := (⟨"com/example/gangway/gangway/tool/CommandLine$Option", "name", "()Ljava/lang/String;"⟩ : MethodName)) (z := (⟨"com/example/gangway/gangway/tool/CommandLine$Option", "name", "()Ljava/lang/String;"⟩ : MethodName)) X1183 hx hZ hown (w78 hw) (w79 hw) (notFace_of_selects (args := #[]) (mvT hZ (w81 hw))) (w81 hw) (w80 hw) (by decide) (backOf (W := 0) (own_nmn l Z a0 hw [] b1155 lst1183 t1183 kt1183 a864 a874 a887 T1183.heap n0 c1220 f2_1183 f4_1183 f5_1183 f6_1183 c1219) hZ (w82 hw) (w29 hw) (Nat.le_of_ble_eq_true rfl) (Nat.le_of_ble_eq_true rfl)) rfl f1_1183  (by first | decide | (dsimp only; omega)) (by first | decide | (dsimp only; omega)) (g := (mkF m 139 #[.val (.int s0), .val (.int s1), .val (.int s2), .val (.int mode), .val (.int (1 : Int32)), .val (.int ((1 : Int32) + (((XT.ushr mode (1 : Int32)) &&& (3 : Int32)) % (3 : Int32)))), .val (.ref a864), .val (.ref a874), .val (.ref a887), .val (.ref b1123), .val (.ref b1155), .unset, .unset] [(.ref b1155)])) (argsL := []) (rest := []) rfl (by rw [hml]; rfl) (lenOf pd_15 rfl) rfl rfl (by show 2 * 0 + _ ≤ _; exact Nat.le_of_eq rfl) (hb hby at_139) ?_
        rintro _ T1221 L1221 X1221 ⟨rfl, N1221q, e1221⟩
        have N1222 := Fr.app N1218 N1221q
        show own_Fin p e below _ T1221 (mkF m 142 #[.val (.int s0), .val (.int s1), .val (.int s2), .val (.int mode), .val (.int (1 : Int32)), .val (.int ((1 : Int32) + (((XT.ushr mode (1 : Int32)) &&& (3 : Int32)) % (3 : Int32)))), .val (.ref a864), .val (.ref a874), .val (.ref a887), .val (.ref b1123), .val (.ref b1155), .unset, .unset] [(.ref a864)])
        refine own_step (T' := T1221) (g' := (mkF m 144 #[.val (.int s0), .val (.int s1), .val (.int s2), .val (.int mode), .val (.int (1 : Int32)), .val (.int ((1 : Int32) + (((XT.ushr mode (1 : Int32)) &&& (3 : Int32)) % (3 : Int32)))), .val (.ref a864), .val (.ref a874), .val (.ref a887), .val (.ref b1123), .val (.ref b1155), .val (.ref a864), .unset] [])) (fun _ q => XS.astore X1221.here hx rfl (hb hby at_142) rfl rfl (l' := #[.val (.int s0), .val (.int s1), .val (.int s2), .val (.int mode), .val (.int (1 : Int32)), .val (.int ((1 : Int32) + (((XT.ushr mode (1 : Int32)) &&& (3 : Int32)) % (3 : Int32)))), .val (.ref a864), .val (.ref a874), .val (.ref a887), .val (.ref b1123), .val (.ref b1155), .val (.ref a864), .unset]) rfl q) ?_
        refine own_step (T' := T1221) (g' := (mkF m 146 #[.val (.int s0), .val (.int s1), .val (.int s2), .val (.int mode), .val (.int (1 : Int32)), .val (.int ((1 : Int32) + (((XT.ushr mode (1 : Int32)) &&& (3 : Int32)) % (3 : Int32)))), .val (.ref a864), .val (.ref a874), .val (.ref a887), .val (.ref b1123), .val (.ref b1155), .val (.ref a864), .unset] [(.ref b1123)])) (fun _ q => XS.aload X1221.here hx rfl (hb hby at_144) rfl rfl q) ?_
        refine own_step (T' := T1221) (g' := (mkF m 147 #[.val (.int s0), .val (.int s1), .val (.int s2), .val (.int mode), .val (.int (1 : Int32)), .val (.int ((1 : Int32) + (((XT.ushr mode (1 : Int32)) &&& (3 : Int32)) % (3 : Int32)))), .val (.ref a864), .val (.ref a874), .val (.ref a887), .val (.ref b1123), .val (.ref b1155), .val (.ref a864), .unset] [(.int (0 : Int32)), (.ref b1123)])) (fun _ q => XS.iconst X1221.here hx rfl (hb hby at_146) q) ?_
        refine own_step (T' := T1221) (g' := (mkF m 149 #[.val (.int s0), .val (.int s1), .val (.int s2), .val (.int mode), .val (.int (1 : Int32)), .val (.int ((1 : Int32) + (((XT.ushr mode (1 : Int32)) &&& (3 : Int32)) % (3 : Int32)))), .val (.ref a864), .val (.ref a874), .val (.ref a887), .val (.ref b1123), .val (.ref b1155), .val (.ref a864), .unset] [(.ref a874), (.int (0 : Int32)), (.ref b1123)])) (fun _ q => XS.aload X1221.here hx rfl (hb hby at_147) rfl rfl q) ?_
        have c1223 := (c1178.keep K1183 (ninS ne1173 nin0))
        have c1225 := (c1180.keep K1183)
        obtain ⟨T1224, h1224, X1224, e1224, W1224, V1224, st1224⟩ := own_stR X1221 hx hZ e1221 c1223 rfl rfl (fun _ A q => Sto.ofV A q O1123 (Ins.self c1225)) (j := (0 : Int32)) ⟨by decide, by decide⟩ (i := 0) rfl (Nat.le_of_ble_eq_true rfl) (g := (mkF m 149 #[.val (.int s0), .val (.int s1), .val (.int s2), .val (.int mode), .val (.int (1 : Int32)), .val (.int ((1 : Int32) + (((XT.ushr mode (1 : Int32)) &&& (3 : Int32)) % (3 : Int32)))), .val (.ref a864), .val (.ref a874), .val (.ref a887), .val (.ref b1123), .val (.ref b1155), .val (.ref a864), .unset] [(.ref a874), (.int (0 : Int32)), (.ref b1123)])) rfl rfl (hb hby at_149)
        replace V1224 : Arv Z h1224 b1123 k1123 (.object "java/lang/String") (3 : Int32) [(.ref a874), (.ref a874), (.ref a887)] .null := V1224
        have N1226 := Fr.snoc X1224 N1222 n0_1125
        have c1228 := (Safe.keep K1183 (sfS c1215 sf0) CH1175.1 (Safe.ext E1155 CH1153.1 (Safe.wr W1150 c1154 CH1148.1 c1154)))
        have CH1227 := CH1214.trans (CHr.wr W1224 c1228 CH1214.1)
        refine own_step (T' := T1224) (g' := (mkF m 150 #[.val (.int s0), .val (.int s1), .val (.int s2), .val (.int mode), .val (.int (1 : Int32)), .val (.int ((1 : Int32) + (((XT.ushr mode (1 : Int32)) &&& (3 : Int32)) % (3 : Int32)))), .val (.ref a864), .val (.ref a874), .val (.ref a887), .val (.ref b1123), .val (.ref b1155), .val (.ref a864), .unset] [])) st1224 ?_
        refine own_step (T' := T1224) (g' := (mkF m 152 #[.val (.int s0), .val (.int s1), .val (.int s2), .val (.int mode), .val (.int (1 : Int32)), .val (.int ((1 : Int32) + (((XT.ushr mode (1 : Int32)) &&& (3 : Int32)) % (3 : Int32)))), .val (.ref a864), .val (.ref a874), .val (.ref a887), .val (.ref b1123), .val (.ref b1155), .val (.ref a864), .unset] [(.ref b1155)])) (fun _ q => XS.aload X1224.here hx rfl (hb hby at_150) rfl rfl q) ?_
        have c1229 := (f2_1183.other W1224 (Or.inl (Ne.symm ne1173)))
        have c1230 := (f4_1183.wr W1224)
        have c1231 := (f5_1183.other W1224 (Or.inl (Ne.symm ne1200)))
        have c1232 := (f6_1183.other W1224 (Ne.symm ne1211))
        have c1233 := (c1219.wr W1224)
        have c1234 := (Nat.le_trans c1220 (Keep.of_wr W1224).1)
        have c1236 := (f1_1183.wr W1224)
        refine own_callV (y := (⟨"com/example/gangway/gangway/tool/CommandLine$Option", "name", "()Ljava/lang/String;"⟩ : MethodName)) (z := (⟨"com/example/gangway/gangway/tool/CommandLine$Option", "name", "()Ljava/lang/String;"⟩ : MethodName)) X1224 hx hZ hown (w78 hw) (w79 hw) (notFace_of_selects (args := #[]) (mvT hZ (w81 hw))) (w81 hw) (w80 hw) (by decide) (backOf (W := 0) (own_nmn l Z a0 hw [] b1155 lst1183 t1183 kt1183 a864 a874 a887 h1224 n0 c1234 c1229 c1230 c1231 c1232 c1233) hZ (w82 hw) (w29 hw) (Nat.le_of_ble_eq_true rfl) (Nat.le_of_ble_eq_true rfl)) e1224 c1236  (by first | decide | (dsimp only; omega)) (by first | decide | (dsimp only; omega)) (g := (mkF m 152 #[.val (.int s0), .val (.int s1), .val (.int s2), .val (.int mode), .val (.int (1 : Int32)), .val (.int ((1 : Int32) + (((XT.ushr mode (1 : Int32)) &&& (3 : Int32)) % (3 : Int32)))), .val (.ref a864), .val (.ref a874), .val (.ref a887), .val (.ref b1123), .val (.ref b1155), .val (.ref a864), .unset] [(.ref b1155)])) (argsL := []) (rest := []) rfl (by rw [hml]; rfl) (lenOf pd_15 rfl) rfl rfl (by show 2 * 0 + _ ≤ _; exact Nat.le_of_eq rfl) (hb hby at_152) ?_
        rintro _ T1235 L1235 X1235 ⟨rfl, N1235q, e1235⟩
        have N1237 := Fr.app N1226 N1235q
        show own_Fin p e below _ T1235 (mkF m 155 #[.val (.int s0), .val (.int s1), .val (.int s2), .val (.int mode), .val (.int (1 : Int32)), .val (.int ((1 : Int32) + (((XT.ushr mode (1 : Int32)) &&& (3 : Int32)) % (3 : Int32)))), .val (.ref a864), .val (.ref a874), .val (.ref a887), .val (.ref b1123), .val (.ref b1155), .val (.ref a864), .unset] [(.ref a864)])
        refine own_step (T' := T1235) (g' := (mkF m 157 #[.val (.int s0), .val (.int s1), .val (.int s2), .val (.int mode), .val (.int (1 : Int32)), .val (.int ((1 : Int32) + (((XT.ushr mode (1 : Int32)) &&& (3 : Int32)) % (3 : Int32)))), .val (.ref a864), .val (.ref a874), .val (.ref a887), .val (.ref b1123), .val (.ref b1155), .val (.ref a864), .val (.ref a864)] [])) (fun _ q => XS.astore X1235.here hx rfl (hb hby at_155) rfl rfl (l' := #[.val (.int s0), .val (.int s1), .val (.int s2), .val (.int mode), .val (.int (1 : Int32)), .val (.int ((1 : Int32) + (((XT.ushr mode (1 : Int32)) &&& (3 : Int32)) % (3 : Int32)))), .val (.ref a864), .val (.ref a874), .val (.ref a887), .val (.ref b1123), .val (.ref b1155), .val (.ref a864), .val (.ref a864)]) rfl q) ?_
        refine own_step (T' := T1235) (g' := (mkF m 159 #[.val (.int s0), .val (.int s1), .val (.int s2), .val (.int mode), .val (.int (1 : Int32)), .val (.int ((1 : Int32) + (((XT.ushr mode (1 : Int32)) &&& (3 : Int32)) % (3 : Int32)))), .val (.ref a864), .val (.ref a874), .val (.ref a887), .val (.ref b1123), .val (.ref b1155), .val (.ref a864), .val (.ref a864)] [(.ref a864)])) (fun _ q => XS.aload X1235.here hx rfl (hb hby at_157) rfl rfl q) ?_
        refine own_step (T' := T1235) (g' := (mkF m 161 #[.val (.int s0), .val (.int s1), .val (.int s2), .val (.int mode), .val (.int (1 : Int32)), .val (.int ((1 : Int32) + (((XT.ushr mode (1 : Int32)) &&& (3 : Int32)) % (3 : Int32)))), .val (.ref a864), .val (.ref a874), .val (.ref a887), .val (.ref b1123), .val (.ref b1155), .val (.ref a864), .val (.ref a864)] [(.ref a864), (.ref a864)])) (fun _ q => XS.aload X1235.here hx rfl (hb hby at_159) rfl rfl q) ?_
        refine own_callV (y := (⟨"java/lang/String", "equals", "(Ljava/lang/Object;)Z"⟩ : MethodName)) (z := (⟨"java/lang/String", "equals", "(Ljava/lang/Object;)Z"⟩ : MethodName)) X1235 hx hZ hown (w93 hw) (w94 hw) (notFace_of_selects (args := #[]) (mvT hZ (w96 hw))) (w96 hw) (w95 hw) (by decide) (backOf (W := 0) (own_eqs l Z a0 hw [] a864 h1224 n0 c1234 ) hZ (w97 hw) (w6 hw) (Nat.le_of_ble_eq_true rfl) (Nat.le_of_ble_eq_true rfl)) e1235 c1233  (by first | decide | (dsimp only; omega)) (by first | decide | (dsimp only; omega)) (g := (mkF m 161 #[.val (.int s0), .val (.int s1), .val (.int s2), .val (.int mode), .val (.int (1 : Int32)), .val (.int ((1 : Int32) + (((XT.ushr mode (1 : Int32)) &&& (3 : Int32)) % (3 : Int32)))), .val (.ref a864), .val (.ref a874), .val (.ref a887), .val (.ref b1123), .val (.ref b1155), .val (.ref a864), .val (.ref a864)] [(.ref a864), (.ref a864)])) (argsL := [(.ref a864)]) (rest := []) rfl (by rw [hml]; rfl) (lenOf pd_16 rfl) rfl rfl (by show 2 * 0 + _ ≤ _; exact Nat.le_of_eq rfl) (hb hby at_161) ?_
        rintro _ T1238 L1238 X1238 ⟨rfl, N1238q, e1238⟩
        have N1239 := Fr.app N1237 N1238q
        show own_Fin p e below _ T1238 (mkF m 164 #[.val (.int s0), .val (.int s1), .val (.int s2), .val (.int mode), .val (.int (1 : Int32)), .val (.int ((1 : Int32) + (((XT.ushr mode (1 : Int32)) &&& (3 : Int32)) % (3 : Int32)))), .val (.ref a864), .val (.ref a874), .val (.ref a887), .val (.ref b1123), .val (.ref b1155), .val (.ref a864), .val (.ref a864)] [(.int (1 : Int32))])
        refine own_step (T' := T1238) (g' := (mkF m 167 #[.val (.int s0), .val (.int s1), .val (.int s2), .val (.int mode), .val (.int (1 : Int32)), .val (.int ((1 : Int32) + (((XT.ushr mode (1 : Int32)) &&& (3 : Int32)) % (3 : Int32)))), .val (.ref a864), .val (.ref a874), .val (.ref a887), .val (.ref b1123), .val (.ref b1155), .val (.ref a864), .val (.ref a864)] [])) (fun _ q => XS.ifNo X1238.here hx rfl (hb hby at_164) rfl (by decide) q) ?_
        refine own_step (T' := T1238) (g' := (mkF m 169 #[.val (.int s0), .val (.int s1), .val (.int s2), .val (.int mode), .val (.int (1 : Int32)), .val (.int ((1 : Int32) + (((XT.ushr mode (1 : Int32)) &&& (3 : Int32)) % (3 : Int32)))), .val (.ref a864), .val (.ref a874), .val (.ref a887), .val (.ref b1123), .val (.ref b1155), .val (.ref a864), .val (.ref a864)] [(.ref a864)])) (fun _ q => XS.aload X1238.here hx rfl (hb hby at_167) rfl rfl q) ?_
        refine own_step (T' := T1238) (g' := (mkF m 171 #[.val (.int s0), .val (.int s1), .val (.int s2), .val (.int mode), .val (.int (1 : Int32)), .val (.int ((1 : Int32) + (((XT.ushr mode (1 : Int32)) &&& (3 : Int32)) % (3 : Int32)))), .val (.ref a864), .val (.ref a874), .val (.ref a887), .val (.ref b1123), .val (.ref b1155), .val (.ref a864), .val (.ref a864)] [(.ref a864), (.ref a864)])) (fun _ q => XS.aload X1238.here hx rfl (hb hby at_169) rfl rfl q) ?_
        refine own_callV (y := (⟨"java/lang/String", "equals", "(Ljava/lang/Object;)Z"⟩ : MethodName)) (z := (⟨"java/lang/String", "equals", "(Ljava/lang/Object;)Z"⟩ : MethodName)) X1238 hx hZ hown (w93 hw) (w94 hw) (notFace_of_selects (args := #[]) (mvT hZ (w96 hw))) (w96 hw) (w95 hw) (by decide) (backOf (W := 0) (own_eqs l Z a0 hw [] a864 h1224 n0 c1234 ) hZ (w97 hw) (w6 hw) (Nat.le_of_ble_eq_true rfl) (Nat.le_of_ble_eq_true rfl)) e1238 c1233  (by first | decide | (dsimp only; omega)) (by first | decide | (dsimp only; omega)) (g := (mkF m 171 #[.val (.int s0), .val (.int s1), .val (.int s2), .val (.int mode), .val (.int (1 : Int32)), .val (.int ((1 : Int32) + (((XT.ushr mode (1 : Int32)) &&& (3 : Int32)) % (3 : Int32)))), .val (.ref a864), .val (.ref a874), .val (.ref a887), .val (.ref b1123), .val (.ref b1155), .val (.ref a864), .val (.ref a864)] [(.ref a864), (.ref a864)])) (argsL := [(.ref a864)]) (rest := []) rfl (by rw [hml]; rfl) (lenOf pd_16 rfl) rfl rfl (by show 2 * 0 + _ ≤ _; exact Nat.le_of_eq rfl) (hb hby at_171) ?_
        rintro _ T1240 L1240 X1240 ⟨rfl, N1240q, e1240⟩
        have N1241 := Fr.app N1239 N1240q
        show own_Fin p e below _ T1240 (mkF m 174 #[.val (.int s0), .val (.int s1), .val (.int s2), .val (.int mode), .val (.int (1 : Int32)), .val (.int ((1 : Int32) + (((XT.ushr mode (1 : Int32)) &&& (3 : Int32)) % (3 : Int32)))), .val (.ref a864), .val (.ref a874), .val (.ref a887), .val (.ref b1123), .val (.ref b1155), .val (.ref a864), .val (.ref a864)] [(.int (1 : Int32))])
        refine own_step (T' := T1240) (g' := (mkF m 177 #[.val (.int s0), .val (.int s1), .val (.int s2), .val (.int mode), .val (.int (1 : Int32)), .val (.int ((1 : Int32) + (((XT.ushr mode (1 : Int32)) &&& (3 : Int32)) % (3 : Int32)))), .val (.ref a864), .val (.ref a874), .val (.ref a887), .val (.ref b1123), .val (.ref b1155), .val (.ref a864), .val (.ref a864)] [])) (fun _ q => XS.ifNo X1240.here hx rfl (hb hby at_174) rfl (by decide) q) ?_
        refine own_step (T' := T1240) (g' := (mkF m 179 #[.val (.int s0), .val (.int s1), .val (.int s2), .val (.int mode), .val (.int (1 : Int32)), .val (.int ((1 : Int32) + (((XT.ushr mode (1 : Int32)) &&& (3 : Int32)) % (3 : Int32)))), .val (.ref a864), .val (.ref a874), .val (.ref a887), .val (.ref b1123), .val (.ref b1155), .val (.ref a864), .val (.ref a864)] [(.ref a864)])) (fun _ q => XS.aload X1240.here hx rfl (hb hby at_177) rfl rfl q) ?_
        have c1242 := (((((((((f2_864.keep K874 nin0).keep K887 nin0).ext E1123).other W1140 (Or.inl ne1129)).other W1145 (Or.inl ne1129)).other W1150 (Or.inl ne1129)).ext E1155).keep K1183 (ninS ne1161 nin0)).other W1224 (Or.inl ne1129))
        have c1243 := (((((((((f3_864.keep K874 nin0).keep K887 nin0).ext E1123).other W1140 (Or.inl ne1129)).other W1145 (Or.inl ne1129)).other W1150 (Or.inl ne1129)).ext E1155).keep K1183 (ninS ne1161 nin0)).other W1224 (Or.inl ne1129))
        have c1244 := (((((((((f4_864.keep K874 nin0).keep K887 nin0).ext E1123).other W1140 ne1131).other W1145 ne1131).other W1150 ne1131).ext E1155).keep K1183 (ninS ne1163 nin0)).other W1224 ne1131)
        have c1245 := ((((((((c885.keep K887 all0).ext E1123).wr W1140 n0_1125).wr W1145 n0_1125).wr W1150 n0_1125).ext E1155).keep K1183 (allS n0_1157 all0)).wr W1224 n0_1125)
        refine own_callV (y := (⟨"java/lang/String", "length", "()I"⟩ : MethodName)) (z := (⟨"java/lang/String", "length", "()I"⟩ : MethodName)) (Q := fun v h' L => v = some (.int (Int32.ofNat (cs864).length)) ∧ L = [] ∧ h' = h1224) X1240 hx hZ hown (w98 hw) (w99 hw) (notFace_of_selects (args := #[]) (mvT hZ (w101 hw))) (w101 hw) (w100 hw) (by decide) (StrChars.Road.lenW (W := 0) hZ (own_wl hw) (kI := 4) (w5 hw) c1233 c1242 c1243 c1244 p0_864 p1_864.1 (O2.ext c1245.2) P5 p1_864.2 (by decide) (by decide)) e1240 c1233  (by first | decide | (dsimp only; omega)) (by first | decide | (dsimp only; omega)) (g := (mkF m 179 #[.val (.int s0), .val (.int s1), .val (.int s2), .val (.int mode), .val (.int (1 : Int32)), .val (.int ((1 : Int32) + (((XT.ushr mode (1 : Int32)) &&& (3 : Int32)) % (3 : Int32)))), .val (.ref a864), .val (.ref a874), .val (.ref a887), .val (.ref b1123), .val (.ref b1155), .val (.ref a864), .val (.ref a864)] [(.ref a864)])) (argsL := []) (rest := []) rfl (by rw [hml]; rfl) (lenOf pd_17 rfl) rfl rfl (by show 2 * 0 + _ ≤ _; exact Nat.le_of_eq rfl) (hb hby at_179) ?_
        rintro _ T1246 L1246 X1246 ⟨rfl, rfl, e1246⟩
        have N1246q := Fr.nil n0
        have N1247 := Fr.app N1241 N1246q
        show own_Fin p e below _ T1246 (mkF m 182 #[.val (.int s0), .val (.int s1), .val (.int s2), .val (.int mode), .val (.int (1 : Int32)), .val (.int ((1 : Int32) + (((XT.ushr mode (1 : Int32)) &&& (3 : Int32)) % (3 : Int32)))), .val (.ref a864), .val (.ref a874), .val (.ref a887), .val (.ref b1123), .val (.ref b1155), .val (.ref a864), .val (.ref a864)] [(.int (Int32.ofNat (cs864).length))])
        refine own_step (T' := T1246) (g' := (mkF m 184 #[.val (.int s0), .val (.int s1), .val (.int s2), .val (.int mode), .val (.int (1 : Int32)), .val (.int ((1 : Int32) + (((XT.ushr mode (1 : Int32)) &&& (3 : Int32)) % (3 : Int32)))), .val (.ref a864), .val (.ref a874), .val (.ref a887), .val (.ref b1123), .val (.ref b1155), .val (.ref a864), .val (.ref a864)] [(.ref a864), (.int (Int32.ofNat (cs864).length))])) (fun _ q => XS.aload X1246.here hx rfl (hb hby at_182) rfl rfl q) ?_
        refine own_callV (y := (⟨"java/lang/String", "length", "()I"⟩ : MethodName)) (z := (⟨"java/lang/String", "length", "()I"⟩ : MethodName)) (Q := fun v h' L => v = some (.int (Int32.ofNat (cs864).length)) ∧ L = [] ∧ h' = h1224) X1246 hx hZ hown (w98 hw) (w99 hw) (notFace_of_selects (args := #[]) (mvT hZ (w101 hw))) (w101 hw) (w100 hw) (by decide) (StrChars.Road.lenW (W := 1) hZ (own_wl hw) (kI := 4) (w5 hw) c1233 c1242 c1243 c1244 p0_864 p1_864.1 (O2.ext c1245.2) P5 p1_864.2 (by decide) (by decide)) e1246 c1233  (by first | decide | (dsimp only; omega)) (by first | decide | (dsimp only; omega)) (g := (mkF m 184 #[.val (.int s0), .val (.int s1), .val (.int s2), .val (.int mode), .val (.int (1 : Int32)), .val (.int ((1 : Int32) + (((XT.ushr mode (1 : Int32)) &&& (3 : Int32)) % (3 : Int32)))), .val (.ref a864), .val (.ref a874), .val (.ref a887), .val (.ref b1123), .val (.ref b1155), .val (.ref a864), .val (.ref a864)] [(.ref a864), (.int (Int32.ofNat (cs864).length))])) (argsL := []) (rest := [(.int (Int32.ofNat (cs864).length))]) rfl (by rw [hml]; rfl) (lenOf pd_17 rfl) rfl rfl (by show 2 * 0 + _ ≤ _; exact Nat.le_of_eq rfl) (hb hby at_184) ?_
        rintro _ T1248 L1248 X1248 ⟨rfl, rfl, e1248⟩
        have N1248q := Fr.nil n0
        have N1249 := Fr.app N1247 N1248q
        show own_Fin p e below _ T1248 (mkF m 187 #[.val (.int s0), .val (.int s1), .val (.int s2), .val (.int mode), .val (.int (1 : Int32)), .val (.int ((1 : Int32) + (((XT.ushr mode (1 : Int32)) &&& (3 : Int32)) % (3 : Int32)))), .val (.ref a864), .val (.ref a874), .val (.ref a887), .val (.ref b1123), .val (.ref b1155), .val (.ref a864), .val (.ref a864)] [(.int (Int32.ofNat (cs864).length)), (.int (Int32.ofNat (cs864).length))])
        refine own_step (T' := T1248) (g' := (mkF m 190 #[.val (.int s0), .val (.int s1), .val (.int s2), .val (.int mode), .val (.int (1 : Int32)), .val (.int ((1 : Int32) + (((XT.ushr mode (1 : Int32)) &&& (3 : Int32)) % (3 : Int32)))), .val (.ref a864), .val (.ref a874), .val (.ref a887), .val (.ref b1123), .val (.ref b1155), .val (.ref a864), .val (.ref a864)] [])) (fun _ q => XS.icmpNo X1248.here hx rfl (hb hby at_187) rfl (XT.ii_ne_f rfl) q) ?_
        refine own_step (T' := T1248) (g' := (mkF m 192 #[.val (.int s0), .val (.int s1), .val (.int s2), .val (.int mode), .val (.int (1 : Int32)), .val (.int ((1 : Int32) + (((XT.ushr mode (1 : Int32)) &&& (3 : Int32)) % (3 : Int32)))), .val (.ref a864), .val (.ref a874), .val (.ref a887), .val (.ref b1123), .val (.ref b1155), .val (.ref a864), .val (.ref a864)] [(.ref a864)])) (fun _ q => XS.aload X1248.here hx rfl (hb hby at_190) rfl rfl q) ?_
        refine own_step (T' := T1248) (g' := (mkF m 194 #[.val (.int s0), .val (.int s1), .val (.int s2), .val (.int mode), .val (.int (1 : Int32)), .val (.int ((1 : Int32) + (((XT.ushr mode (1 : Int32)) &&& (3 : Int32)) % (3 : Int32)))), .val (.ref a864), .val (.ref a874), .val (.ref a887), .val (.ref b1123), .val (.ref b1155), .val (.ref a864), .val (.ref a864)] [(.ref a864), (.ref a864)])) (fun _ q => XS.aload X1248.here hx rfl (hb hby at_192) rfl rfl q) ?_
        refine own_callV (y := (⟨"java/lang/String", "equals", "(Ljava/lang/Object;)Z"⟩ : MethodName)) (z := (⟨"java/lang/String", "equals", "(Ljava/lang/Object;)Z"⟩ : MethodName)) X1248 hx hZ hown (w93 hw) (w94 hw) (notFace_of_selects (args := #[]) (mvT hZ (w96 hw))) (w96 hw) (w95 hw) (by decide) (backOf (W := 0) (own_eqs l Z a0 hw [] a864 h1224 n0 c1234 ) hZ (w97 hw) (w6 hw) (Nat.le_of_ble_eq_true rfl) (Nat.le_of_ble_eq_true rfl)) e1248 c1233  (by first | decide | (dsimp only; omega)) (by first | decide | (dsimp only; omega)) (g := (mkF m 194 #[.val (.int s0), .val (.int s1), .val (.int s2), .val (.int mode), .val (.int (1 : Int32)), .val (.int ((1 : Int32) + (((XT.ushr mode (1 : Int32)) &&& (3 : Int32)) % (3 : Int32)))), .val (.ref a864), .val (.ref a874), .val (.ref a887), .val (.ref b1123), .val (.ref b1155), .val (.ref a864), .val (.ref a864)] [(.ref a864), (.ref a864)])) (argsL := [(.ref a864)]) (rest := []) rfl (by rw [hml]; rfl) (lenOf pd_16 rfl) rfl rfl (by show 2 * 0 + _ ≤ _; exact Nat.le_of_eq rfl) (hb hby at_194) ?_
        rintro _ T1250 L1250 X1250 ⟨rfl, N1250q, e1250⟩
        have N1251 := Fr.app N1249 N1250q
        show own_Fin p e below _ T1250 (mkF m 197 #[.val (.int s0), .val (.int s1), .val (.int s2), .val (.int mode), .val (.int (1 : Int32)), .val (.int ((1 : Int32) + (((XT.ushr mode (1 : Int32)) &&& (3 : Int32)) % (3 : Int32)))), .val (.ref a864), .val (.ref a874), .val (.ref a887), .val (.ref b1123), .val (.ref b1155), .val (.ref a864), .val (.ref a864)] [(.int (1 : Int32))])
        refine own_step (T' := T1250) (g' := (mkF m 200 #[.val (.int s0), .val (.int s1), .val (.int s2), .val (.int mode), .val (.int (1 : Int32)), .val (.int ((1 : Int32) + (((XT.ushr mode (1 : Int32)) &&& (3 : Int32)) % (3 : Int32)))), .val (.ref a864), .val (.ref a874), .val (.ref a887), .val (.ref b1123), .val (.ref b1155), .val (.ref a864), .val (.ref a864)] [])) (fun _ q => XS.ifNo X1250.here hx rfl (hb hby at_197) rfl (by decide) q) ?_
        refine own_step (T' := T1250) (g' := (mkF m 201 #[.val (.int s0), .val (.int s1), .val (.int s2), .val (.int mode), .val (.int (1 : Int32)), .val (.int ((1 : Int32) + (((XT.ushr mode (1 : Int32)) &&& (3 : Int32)) % (3 : Int32)))), .val (.ref a864), .val (.ref a874), .val (.ref a887), .val (.ref b1123), .val (.ref b1155), .val (.ref a864), .val (.ref a864)] [(.int (1 : Int32))])) (fun _ q => XS.iconst X1250.here hx rfl (hb hby at_200) q) ?_
        refine own_step (T' := T1250) (g' := (mkF m 205 #[.val (.int s0), .val (.int s1), .val (.int s2), .val (.int mode), .val (.int (1 : Int32)), .val (.int ((1 : Int32) + (((XT.ushr mode (1 : Int32)) &&& (3 : Int32)) % (3 : Int32)))), .val (.ref a864), .val (.ref a874), .val (.ref a887), .val (.ref b1123), .val (.ref b1155), .val (.ref a864), .val (.ref a864)] [(.int (1 : Int32))])) (fun _ q => XS.goto X1250.here hx rfl (pc0 := 201) (pc' := 205) rfl (hb hby at_201) (by decide) (by decide) q) ?_
        have c1252 := ((c1185.trans K1183 (allS (Or.inr sz0_1159) all0)).wr W1224 (Or.inr sz0_1127))
        have c1253 := (Nat.le_trans (Nat.le_trans (Nat.le_trans (Nat.le_trans (Nat.le_trans (Nat.le_trans (Nat.le_trans (Nat.le_refl _) E1123.1) (Keep.of_wr W1140).1) (Keep.of_wr W1145).1) (Keep.of_wr W1150).1) E1155.1) K1183.1) (Keep.of_wr W1224).1)
        exact own_retNW X1250 hx hZ (own_hEL hw) hS (by rw [e1250]; exact c1253) (by rw [e1250]; exact CH1227) Bd.returns (by simp) (hb hby at_205) hlk (by rw [e1250]; exact ⟨rfl, N1251, c1252⟩) (by first | decide | (dsimp only; omega)) (by first | decide | (dsimp only; omega))
set_option maxRecDepth 65536 in
set_option maxHeartbeats 40000000 in
theorem comes_1 {Post : Tables → Env → Array Value → State → Outcome → State → Prop} (hpost : ∀ tb e args s v u, (limb_1_1.after args s (.returned v) u = true ∧ limb_1_2.after args s (.returned v) u = true ∧ True) → ReturnedEndW s (.returned v) u (Jvm.fieldLocs frame_1_writes args s ++ Jvm.arrayLocs frame_1_arrays args s ++ Jvm.staticLocs frame_1_statics s) 40 1216 → Post tb e args s (.returned v) u) :
    ArmFor flags0 classFile x code maxLocals ret World_1 tables_1 room_1 Calls_1 rest_1 Pre_1 Post := by
  intro l hfl _ _ p e ha hc hk s m args below hf hA hF happ hP
  obtain ⟨hcalls, hrest, hpre⟩ := hP
  obtain ⟨-, -, -, hnamed, -, -, -, hat⟩ := (Spec.applies_iff hf).mp happ
  obtain ⟨hg, hn⟩ := and_e (Cond.before_iff.mp (show (Jvm.Cond.and given_1 narrow_1).before args s = true from hpre))
  obtain ⟨hcnt, r0⟩ := and_e hg
  obtain ⟨q0, r1⟩ := and_e r0
  obtain ⟨q1, r2⟩ := and_e r1
  obtain ⟨q2, r3⟩ := and_e r2
  have q3 := r3
  obtain ⟨u0, u1, u2, u3, rfl⟩ : ∃ u0 u1 u2 u3 : Value, args = #[u0, u1, u2, u3] := by
    have hs : args.size = 4 := by simpa [Cond.value, given_1] using hcnt
    obtain ⟨L⟩ := args
    match L, hs with
    | [u0, u1, u2, u3], _ => exact ⟨u0, u1, u2, u3, rfl⟩
  have hw := fun d (hd : d ∈ tables_1) => atoms_spec (ws := Jvm.Cond.code x code maxLocals ret :: tables_1) hat d (List.mem_cons_of_mem _ hd)
  obtain ⟨hsets, hown0⟩ := atoms_of _ (rest_1_c_eq ▸ (show rest_1_c.before _ s = true from hrest))
  have n3 := not_v (Cond.before_iff.mp (hsets _ (List.mem_of_getElem? (i := 11) rfl)))
  obtain ⟨G1, eG1⟩ := is_v (Cond.before_iff.mp (hsets _ (List.mem_of_getElem? (i := 10) rfl)))
  have S8 : Sta s s.heap "java/lang/String" "COMPACT_STRINGS" "Z" (.int G1) := Sta.start eG1 (Or.inl (hsets _ (List.mem_of_getElem? (i := 9) rfl)))
  obtain ⟨G3, eG3, rG3⟩ := isR_v (Cond.before_iff.mp (hsets _ (List.mem_of_getElem? (i := 17) rfl)))
  have S12 : Sta s s.heap "jdk/internal/util/Preconditions" "SIOOBE_FORMATTER" "Ljava/util/function/BiFunction;" G3 := Sta.start eG3 (Or.inl (hsets _ (List.mem_of_getElem? (i := 16) rfl)))
  have c13 : ¬ (G1 = (0 : Int32)) := gotF (Cond.eq_ints eG1 (Term.int_eval (0))) n3
  obtain ⟨x5, eG5⟩ := exa_v (Cond.before_iff.mp (hsets _ (List.mem_of_getElem? (i := 2) rfl)))
  have EM : Sta s s.heap "java/util/ImmutableCollections" "EMPTY" "Ljava/lang/Object;" (.ref x5) := Sta.start eG5 (Or.inl (hsets _ (List.mem_of_getElem? (i := 1) rfl)))
  have CHs := CHv.start (EL := own_EL) (Z := s) (own_hEL hw) (fun p hp => hcalls.1 p hp) (by exact (hsets _ (List.mem_of_getElem? (i := 11) rfl))) (w19 hw) (w5 hw)
  obtain ⟨i0, ei0⟩ := is_v q0
  obtain rfl : u0 = (.int i0) := Option.some.inj ei0
  obtain ⟨i1, ei1⟩ := is_v q1
  obtain rfl : u1 = (.int i1) := Option.some.inj ei1
  obtain ⟨i2, ei2⟩ := is_v q2
  obtain rfl : u2 = (.int i2) := Option.some.inj ei2
  obtain ⟨i3, ei3⟩ := is_v q3
  obtain rfl : u3 = (.int i3) := Option.some.inj ei3
  obtain ⟨n, o, h1, h2, h3, _, L, rfl, ⟨rfl, N, -⟩, -, hq⟩ := own_law l s _ hw tables_1 G1 G3 (.ref x5) i0 i1 i2 i3 s.heap s.heap.size (Nat.le_refl _) S8 S12 c13 rG3 (Old.start s) EM rfl p e ha hc hk s m _ below hf ((Spec.applies_iff_loose hf).mp happ).1 ⟨rfl, State.Warmed39.refl s, rfl, CHs⟩ trivial
  refine ⟨n, _, h1, h2, h3, hpost _ _ _ _ _ _ ⟨Cond.after_iff.mpr rfl, Cond.after_iff.mpr (eq_i res_at (Term.int_eval (1)) rfl), trivial⟩ ⟨hq.1, hq.2.1, hq.2.2.1, (hq.2.2.2.sift fun y hy => Or.inr (N y hy)).mono (by decide) (by decide)⟩⟩
theorem main_1_1 : Claimed_1_1 := comes_1 fun _ _ _ _ _ _ h hF => ⟨h.1, hF⟩
theorem main_1_2 : Claimed_1_2 := comes_1 fun _ _ _ _ _ _ h hF => ⟨h.2.1, hF⟩
end Jvm.Pilot.@@N@@
namespace Jvm.Pilot.@@N@@
open Jvm Jvm.ClassFile Sem Op Lib Jvm.Free Jvm.Stand Jvm.Pilot.@@N@@.Jvm.D
/-! MADE BY PROGRAM (witnessworld.py) out of the Statement's table words and the real class files: 34 classes; the members and pool entries that the words name. The judged class is class 1, her method 2. -/
namespace start1
open Jvm.ClassFile
def u (s : String) : CpInfo := .utf8 (stringToUtf16 s)
/-- a pool by its gaps: so many unusable entries, then the entry; so many at the end -/
def gap : Nat → List CpInfo → List CpInfo
  | 0, r => r
  | n + 1, r => .unusable :: gap n r
def poolList (es : List (Nat × CpInfo)) (last : Nat) : List CpInfo := es.foldr (fun e r => gap e.1 (e.2 :: r)) (gap last [])
def pool (es : List (Nat × CpInfo)) (last : Nat) : Array CpInfo := ⟨poolList es last⟩
def fileOf (pool : Array CpInfo) (this : Nat) (attrs : Array Attribute := #[]) (ms : Array MethodInfo := #[]) (fl : Nat := 33) (sup : Nat := 0) (ifs : Array Nat := #[]) (fds : Array FieldInfo := #[]) : ClassFile where
  minorVersion := 0
  majorVersion := 65
  constantPool := pool
  accessFlags := fl
  thisClass := this
  superClass := sup
  interfaces := ifs
  fields := fds
  methods := ms
  attributes := attrs
def plain (name : String) (sup : Option ClassId) : Class where
  name := name
  kind := .ordinary
  loader := none
  accessFlags := 33
  super := sup
  interfaces := #[]
  cf := none
  fields := #[]
  methods := #[]
  instanceTypes := #[]
  staticTypes := #[]
  resolved := #[]
  callSites := []
  init := .initialized
  statics := none
  mirror := none

def pool0 : Array CpInfo := pool [(5, u "<init>"), (0, u "()V"), (1, .class_ 10), (1, u "java/lang/Object")] 113

def k0c0 : Code := { maxStack := 0, maxLocals := 1, code := object_method_1_code, exceptionTable := #[], attributes := #[] }
def k0m0 : Method := { name := "<init>", desc := "()V", sig := { parameters := [], returnType := none }, accessFlags := 1, code := some k0c0 }
/-- java/lang/Object -/
def k0 : Class := { plain "java/lang/Object" none with
  accessFlags := 33
  interfaces := #[]
  cf := some (fileOf pool0 8 #[] #[{ accessFlags := 1, nameIndex := 5, descriptorIndex := 6, attributes := #[] }] 33 0 #[] #[])
  fields := #[]
  methods := #[k0m0]
  instanceTypes := #[]
  staticTypes := #[]
  resolved := Array.replicate 124 none
  statics := none }

def pool1 : Array CpInfo := pool [(2, .class_ 4), (1, u "java/lang/Object"), (0, u "<init>"), (0, u "()V"), (0, .class_ 8), (0, u "java/lang/String"), (0, .methodref 7 10), (0, .nameAndType 5 11), (0, u "([C)V"), (0, .methodref 7 13), (0, .nameAndType 14 15), (0, u "valueOf"), (0, u "(C)Ljava/lang/String;"), (0, .methodref 17 18), (0, .class_ 19), (0, .nameAndType 20 21), (0, u "com/example/gangway/gangway/tool/OptionNamePinLaw"), (0, u "draw"), (0, u "(II)Ljava/lang/String;"), (0, .class_ 23), (0, u "com/example/gangway/gangway/tool/CommandLine$Option"), (0, .methodref 22 25), (0, .nameAndType 5 26), (0, u "(Z[Ljava/lang/String;)V"), (0, .methodref 22 28), (0, .nameAndType 29 30), (0, u "name"), (0, u "()Ljava/lang/String;"), (0, .methodref 7 32), (0, .nameAndType 33 34), (0, u "equals"), (0, u "(Ljava/lang/Object;)Z"), (0, .methodref 7 36), (0, .nameAndType 37 38), (0, u "length"), (0, u "()I"), (3, u "law"), (0, u "(IIII)Z")] 8

def k1m0 : Method := { name := "<init>", desc := "()V", sig := { parameters := [], returnType := none }, accessFlags := 2, code := none }
def k1c1 : Code := { maxStack := 6, maxLocals := 5, code := method_2_code, exceptionTable := #[], attributes := #[] }
def k1m1 : Method := { name := "draw", desc := "(II)Ljava/lang/String;", sig := { parameters := [.int, .int], returnType := some (.object "java/lang/String") }, accessFlags := 10, code := some k1c1 }
def k1c2 : Code := { maxStack := 4, maxLocals := 13, code := code, exceptionTable := #[], attributes := #[] }
def k1m2 : Method := { name := "law", desc := "(IIII)Z", sig := { parameters := [.int, .int, .int, .int], returnType := some .boolean }, accessFlags := 9, code := some k1c2 }
/-- com/example/gangway/gangway/tool/OptionNamePinLaw -/
def k1 : Class := { plain "com/example/gangway/gangway/tool/OptionNamePinLaw" (some 0) with
  accessFlags := 49
  interfaces := #[]
  cf := some (fileOf pool1 17 #[] #[{ accessFlags := 2, nameIndex := 5, descriptorIndex := 6, attributes := #[] }, { accessFlags := 10, nameIndex := 20, descriptorIndex := 21, attributes := #[] }, { accessFlags := 9, nameIndex := 42, descriptorIndex := 43, attributes := #[] }] 49 2 #[] #[])
  fields := #[]
  methods := #[k1m0, k1m1, k1m2]
  instanceTypes := #[]
  staticTypes := #[]
  resolved := Array.replicate 52 none
  statics := none }

def pool2 : Array CpInfo := pool [(1, .class_ 2), (0, u "java/io/Serializable"), (0, .class_ 4), (0, u "java/lang/Object")] 2

/-- java/io/Serializable -/
def k2 : Class := { plain "java/io/Serializable" (some 0) with
  accessFlags := 1537
  interfaces := #[]
  cf := some (fileOf pool2 1 #[] #[] 1537 3 #[] #[])
  fields := #[]
  methods := #[]
  instanceTypes := #[]
  staticTypes := #[]
  resolved := Array.replicate 7 none
  statics := none }

def pool3 : Array CpInfo := pool [(1, .class_ 2), (0, u "java/lang/Comparable"), (0, .class_ 4), (0, u "java/lang/Object")] 7

/-- java/lang/Comparable -/
def k3 : Class := { plain "java/lang/Comparable" (some 0) with
  accessFlags := 1537
  interfaces := #[]
  cf := some (fileOf pool3 1 #[] #[] 1537 3 #[] #[])
  fields := #[]
  methods := #[]
  instanceTypes := #[]
  staticTypes := #[]
  resolved := Array.replicate 12 none
  statics := none }

def pool4 : Array CpInfo := pool [(2, .class_ 4), (1, u "java/lang/CharSequence"), (42, .class_ 48), (0, u "java/lang/CharSequence$1CodePointIterator"), (10, .class_ 60), (0, u "java/lang/CharSequence$1CharIterator"), (5, .class_ 67), (0, u "java/lang/Object")] 63

/-- java/lang/CharSequence -/
def k4 : Class := { plain "java/lang/CharSequence" (some 0) with
  accessFlags := 1537
  interfaces := #[]
  cf := some (fileOf pool4 2 #[.nestMembers #[47, 59]] #[] 1537 66 #[] #[])
  fields := #[]
  methods := #[]
  instanceTypes := #[]
  staticTypes := #[]
  resolved := Array.replicate 131 none
  statics := none }

def pool5 : Array CpInfo := pool [(1, .class_ 2), (0, u "java/lang/constant/Constable"), (0, .class_ 4), (0, u "java/lang/Object")] 6

/-- java/lang/constant/Constable -/
def k5 : Class := { plain "java/lang/constant/Constable" (some 0) with
  accessFlags := 1537
  interfaces := #[]
  cf := some (fileOf pool5 1 #[] #[] 1537 3 #[] #[])
  fields := #[]
  methods := #[]
  instanceTypes := #[]
  staticTypes := #[]
  resolved := Array.replicate 11 none
  statics := none }

def pool6 : Array CpInfo := pool [(1, .class_ 2), (0, u "java/lang/constant/ConstantDesc"), (0, .class_ 4), (0, u "java/lang/Object")] 32

/-- java/lang/constant/ConstantDesc -/
def k6 : Class := { plain "java/lang/constant/ConstantDesc" (some 0) with
  accessFlags := 1537
  interfaces := #[]
  cf := some (fileOf pool6 1 #[] #[] 1537 3 #[] #[])
  fields := #[]
  methods := #[]
  instanceTypes := #[]
  staticTypes := #[]
  resolved := Array.replicate 37 none
  statics := none }

def pool7 : Array CpInfo := pool [(1, .methodref 2 3), (0, .class_ 4), (0, .nameAndType 5 6), (0, u "java/lang/Object"), (0, u "<init>"), (0, u "()V"), (0, .string 8), (0, u ""), (0, .fieldref 10 11), (0, .class_ 12), (0, .nameAndType 13 14), (0, u "java/lang/String"), (0, u "value"), (0, u "[B"), (0, .fieldref 10 16), (0, .nameAndType 17 18), (0, u "coder"), (0, u "B"), (2, u "hash"), (0, u "I"), (2, u "hashIsZero"), (0, u "Z"), (0, .methodref 10 28), (0, .nameAndType 5 29), (0, u "([CIILjava/lang/Void;)V"), (8, .fieldref 10 39), (0, .nameAndType 40 26), (0, u "COMPACT_STRINGS"), (1, .class_ 44), (1, u "java/lang/StringUTF16"), (0, u "compress"), (1, .methodref 42 48), (0, .nameAndType 49 50), (0, u "coderFromArrayLen"), (0, u "([BI)B"), (2, u "toBytes"), (53, .class_ 109), (1, u "java/lang/StringLatin1"), (67, .methodref 42 178), (0, .nameAndType 45 179), (0, u "([CII)[B"), (29, .methodref 10 210), (0, .nameAndType 5 211), (0, u "([BB)V"), (122, u "()I"), (0, .methodref 10 336), (0, .nameAndType 17 337), (0, u "()B"), (31, u "(C)Z"), (137, u "length"), (35, u "equals"), (29, u "(Ljava/lang/Object;)Z"), (1, .class_ 576), (0, u "java/lang/CharSequence"), (22, u "CASE_INSENSITIVE_ORDER"), (0, u "Ljava/util/Comparator;"), (181, u "valueOf"), (0, u "(C)Ljava/lang/String;"), (226, u "([C)V"), (4, .methodref 107 1016), (0, .nameAndType 1017 369), (0, u "canEncode"), (0, .methodref 107 1019), (0, .nameAndType 53 1020), (0, u "(C)[B"), (80, u "serialPersistentFields"), (0, u "[Ljava/io/ObjectStreamField;"), (0, .class_ 1104), (0, u "java/lang/String$CaseInsensitiveComparator"), (1, .class_ 1107), (0, u "java/io/Serializable"), (0, .class_ 1109), (0, u "java/lang/Comparable"), (0, .class_ 1111), (0, u "java/lang/constant/Constable"), (0, .class_ 1113), (0, u "java/lang/constant/ConstantDesc"), (2, u "serialVersionUID"), (0, u "J"), (3, u "REPL"), (0, u "C"), (2, u "LATIN1"), (1, u "UTF16")] 323

def k7m0 : Method := { name := "<init>", desc := "()V", sig := { parameters := [], returnType := none }, accessFlags := 1, code := none }
def k7c1 : Code := { maxStack := 5, maxLocals := 2, code := jdk_42_method_3_code, exceptionTable := #[], attributes := #[] }
def k7m1 : Method := { name := "<init>", desc := "([C)V", sig := { parameters := [(.array .char)], returnType := none }, accessFlags := 1, code := some k7c1 }
def k7c2 : Code := { maxStack := 2, maxLocals := 1, code := jdk_42_method_54_code, exceptionTable := #[], attributes := #[] }
def k7m2 : Method := { name := "length", desc := "()I", sig := { parameters := [], returnType := some .int }, accessFlags := 1, code := some k7c2 }
def k7c3 : Code := { maxStack := 2, maxLocals := 3, code := jdk_42_method_66_code, exceptionTable := #[], attributes := #[] }
def k7m3 : Method := { name := "equals", desc := "(Ljava/lang/Object;)Z", sig := { parameters := [(.object "java/lang/Object")], returnType := some .boolean }, accessFlags := 1, code := some k7c3 }
def k7c4 : Code := { maxStack := 4, maxLocals := 1, code := jdk_42_method_139_code, exceptionTable := #[], attributes := #[] }
def k7m4 : Method := { name := "valueOf", desc := "(C)Ljava/lang/String;", sig := { parameters := [.char], returnType := some (.object "java/lang/String") }, accessFlags := 9, code := some k7c4 }
def k7c5 : Code := { maxStack := 4, maxLocals := 6, code := jdk_42_method_149_code, exceptionTable := #[], attributes := #[] }
def k7m5 : Method := { name := "<init>", desc := "([CIILjava/lang/Void;)V", sig := { parameters := [(.array .char), .int, .int, (.object "java/lang/Void")], returnType := none }, accessFlags := 2, code := some k7c5 }
def k7c6 : Code := { maxStack := 2, maxLocals := 3, code := jdk_42_method_151_code, exceptionTable := #[], attributes := #[] }
def k7m6 : Method := { name := "<init>", desc := "([BB)V", sig := { parameters := [(.array .byte), .byte], returnType := none }, accessFlags := 0, code := some k7c6 }
def k7c7 : Code := { maxStack := 1, maxLocals := 1, code := jdk_42_method_152_code, exceptionTable := #[], attributes := #[] }
def k7m7 : Method := { name := "coder", desc := "()B", sig := { parameters := [], returnType := some .byte }, accessFlags := 0, code := some k7c7 }
/-- java/lang/String -/
def k7 : Class := { plain "java/lang/String" (some 0) with
  accessFlags := 49
  interfaces := #[2, 3, 4, 5, 6]
  cf := some (fileOf pool7 10 #[.nestMembers #[1103]] #[{ accessFlags := 1, nameIndex := 5, descriptorIndex := 6, attributes := #[] }, { accessFlags := 1, nameIndex := 5, descriptorIndex := 1010, attributes := #[] }, { accessFlags := 1, nameIndex := 507, descriptorIndex := 334, attributes := #[] }, { accessFlags := 1, nameIndex := 543, descriptorIndex := 573, attributes := #[] }, { accessFlags := 9, nameIndex := 782, descriptorIndex := 783, attributes := #[] }, { accessFlags := 2, nameIndex := 5, descriptorIndex := 29, attributes := #[] }, { accessFlags := 0, nameIndex := 5, descriptorIndex := 211, attributes := #[] }, { accessFlags := 0, nameIndex := 17, descriptorIndex := 337, attributes := #[] }] 49 2 #[1106, 1108, 575, 1110, 1112] #[{ accessFlags := 18, nameIndex := 13, descriptorIndex := 14, attributes := #[] }, { accessFlags := 18, nameIndex := 17, descriptorIndex := 18, attributes := #[] }, { accessFlags := 2, nameIndex := 21, descriptorIndex := 22, attributes := #[] }, { accessFlags := 2, nameIndex := 25, descriptorIndex := 26, attributes := #[] }, { accessFlags := 26, nameIndex := 1116, descriptorIndex := 1117, attributes := #[] }, { accessFlags := 24, nameIndex := 40, descriptorIndex := 26, attributes := #[] }, { accessFlags := 26, nameIndex := 1101, descriptorIndex := 1102, attributes := #[] }, { accessFlags := 26, nameIndex := 1121, descriptorIndex := 1122, attributes := #[] }, { accessFlags := 25, nameIndex := 599, descriptorIndex := 600, attributes := #[] }, { accessFlags := 24, nameIndex := 1125, descriptorIndex := 18, attributes := #[] }, { accessFlags := 24, nameIndex := 1127, descriptorIndex := 18, attributes := #[] }])
  fields := #[{ name := "value", type := (.array .byte), accessFlags := 18, slot := 0, constantValue := 0 }, { name := "coder", type := .byte, accessFlags := 18, slot := 1, constantValue := 0 }, { name := "hash", type := .int, accessFlags := 2, slot := 2, constantValue := 0 }, { name := "hashIsZero", type := .boolean, accessFlags := 2, slot := 3, constantValue := 0 }, { name := "serialVersionUID", type := .long, accessFlags := 26, slot := 0, constantValue := 0 }, { name := "COMPACT_STRINGS", type := .boolean, accessFlags := 24, slot := 1, constantValue := 0 }, { name := "serialPersistentFields", type := (.array (.object "java/io/ObjectStreamField")), accessFlags := 26, slot := 2, constantValue := 0 }, { name := "REPL", type := .char, accessFlags := 26, slot := 3, constantValue := 0 }, { name := "CASE_INSENSITIVE_ORDER", type := (.object "java/util/Comparator"), accessFlags := 25, slot := 4, constantValue := 0 }, { name := "LATIN1", type := .byte, accessFlags := 24, slot := 5, constantValue := 0 }, { name := "UTF16", type := .byte, accessFlags := 24, slot := 6, constantValue := 0 }]
  methods := #[k7m0, k7m1, k7m2, k7m3, k7m4, k7m5, k7m6, k7m7]
  instanceTypes := #[(.array .byte), .byte, .int, .boolean]
  staticTypes := #[.long, .boolean, (.array (.object "java/io/ObjectStreamField")), .char, (.object "java/util/Comparator"), .byte, .byte]
  resolved := Array.replicate 1451 none
  statics := some 0 }

def pool8 : Array CpInfo := pool [(1, .methodref 2 3), (0, .class_ 4), (0, .nameAndType 5 6), (0, u "java/lang/Object"), (0, u "<init>"), (0, u "()V"), (0, .fieldref 8 9), (0, .class_ 10), (0, .nameAndType 11 12), (0, u "com/example/gangway/gangway/tool/CommandLine$Option"), (0, u "repeatable"), (0, u "Z"), (0, .interfaceMethodref 14 15), (0, .class_ 16), (0, .nameAndType 17 18), (0, u "java/util/List"), (0, u "of"), (0, u "([Ljava/lang/Object;)Ljava/util/List;"), (0, .fieldref 8 20), (0, .nameAndType 21 22), (0, u "spellings"), (0, u "Ljava/util/List;"), (0, .interfaceMethodref 14 24), (0, .nameAndType 25 26), (0, u "get"), (0, u "(I)Ljava/lang/Object;"), (0, .class_ 28), (0, u "java/lang/String"), (2, u "(Z[Ljava/lang/String;)V"), (2, u "name"), (0, u "()Ljava/lang/String;"), (3, .class_ 40), (0, u "com/example/gangway/gangway/tool/CommandLine")] 2

def k8c0 : Code := { maxStack := 2, maxLocals := 3, code := prog_29_method_1_code, exceptionTable := #[], attributes := #[] }
def k8m0 : Method := { name := "<init>", desc := "(Z[Ljava/lang/String;)V", sig := { parameters := [.boolean, (.array (.object "java/lang/String"))], returnType := none }, accessFlags := 128, code := some k8c0 }
def k8c1 : Code := { maxStack := 2, maxLocals := 1, code := prog_29_method_2_code, exceptionTable := #[], attributes := #[] }
def k8m1 : Method := { name := "name", desc := "()Ljava/lang/String;", sig := { parameters := [], returnType := some (.object "java/lang/String") }, accessFlags := 0, code := some k8c1 }
/-- com/example/gangway/gangway/tool/CommandLine$Option -/
def k8 : Class := { plain "com/example/gangway/gangway/tool/CommandLine$Option" (some 0) with
  accessFlags := 48
  interfaces := #[]
  cf := some (fileOf pool8 8 #[.nestHost 39] #[{ accessFlags := 128, nameIndex := 5, descriptorIndex := 31, attributes := #[] }, { accessFlags := 0, nameIndex := 34, descriptorIndex := 35, attributes := #[] }] 48 2 #[] #[{ accessFlags := 18, nameIndex := 11, descriptorIndex := 12, attributes := #[] }, { accessFlags := 18, nameIndex := 21, descriptorIndex := 22, attributes := #[] }])
  fields := #[{ name := "repeatable", type := .boolean, accessFlags := 18, slot := 0, constantValue := 0 }, { name := "spellings", type := (.object "java/util/List"), accessFlags := 18, slot := 1, constantValue := 0 }]
  methods := #[k8m0, k8m1]
  instanceTypes := #[.boolean, (.object "java/util/List")]
  staticTypes := #[]
  resolved := Array.replicate 43 none
  statics := none }

def pool9 : Array CpInfo := pool [(8, .class_ 10), (1, u "java/lang/Iterable"), (24, .class_ 36), (0, u "java/lang/Object")] 25

/-- java/lang/Iterable -/
def k9 : Class := { plain "java/lang/Iterable" (some 0) with
  accessFlags := 1537
  interfaces := #[]
  cf := some (fileOf pool9 8 #[] #[] 1537 35 #[] #[])
  fields := #[]
  methods := #[]
  instanceTypes := #[]
  staticTypes := #[]
  resolved := Array.replicate 62 none
  statics := none }

def pool10 : Array CpInfo := pool [(10, .class_ 12), (1, u "java/util/Collection"), (47, .class_ 61), (0, u "java/lang/Object"), (0, .class_ 63), (0, u "java/lang/Iterable")] 51

/-- java/util/Collection -/
def k10 : Class := { plain "java/util/Collection" (some 0) with
  accessFlags := 1537
  interfaces := #[9]
  cf := some (fileOf pool10 10 #[] #[] 1537 60 #[62] #[])
  fields := #[]
  methods := #[]
  instanceTypes := #[]
  staticTypes := #[]
  resolved := Array.replicate 115 none
  statics := none }

def pool11 : Array CpInfo := pool [(8, .class_ 10), (1, u "java/util/SequencedCollection"), (15, .class_ 27), (0, u "java/lang/Object"), (0, .class_ 29), (0, u "java/util/Collection")] 27

/-- java/util/SequencedCollection -/
def k11 : Class := { plain "java/util/SequencedCollection" (some 0) with
  accessFlags := 1537
  interfaces := #[10]
  cf := some (fileOf pool11 8 #[] #[] 1537 26 #[28] #[])
  fields := #[]
  methods := #[]
  instanceTypes := #[]
  staticTypes := #[]
  resolved := Array.replicate 57 none
  statics := none }

def pool12 : Array CpInfo := pool [(8, .class_ 10), (1, u "java/util/List"), (20, u "(Ljava/lang/Object;)V"), (16, u "<init>"), (26, u "get"), (0, u "(I)Ljava/lang/Object;"), (11, u "of"), (2, .class_ 93), (1, u "java/util/ImmutableCollections"), (2, .class_ 97), (0, u "java/util/ImmutableCollections$List12"), (0, .methodref 96 99), (0, .nameAndType 48 31), (0, .methodref 96 101), (0, .nameAndType 48 102), (0, u "(Ljava/lang/Object;Ljava/lang/Object;)V"), (0, .class_ 104), (0, u "java/lang/Object"), (3, u "([Ljava/lang/Object;)Ljava/util/List;"), (0, .methodref 91 110), (0, .nameAndType 111 108), (0, u "listFromArray"), (8, .class_ 121), (0, u "java/util/SequencedCollection")] 129

def k12m0 : Method := { name := "get", desc := "(I)Ljava/lang/Object;", sig := { parameters := [.int], returnType := some (.object "java/lang/Object") }, accessFlags := 1025, code := none }
def k12c1 : Code := { maxStack := 5, maxLocals := 2, code := jdk_40_method_47_code, exceptionTable := #[], attributes := #[] }
def k12m1 : Method := { name := "of", desc := "([Ljava/lang/Object;)Ljava/util/List;", sig := { parameters := [(.array (.object "java/lang/Object"))], returnType := some (.object "java/util/List") }, accessFlags := 137, code := some k12c1 }
/-- java/util/List -/
def k12 : Class := { plain "java/util/List" (some 0) with
  accessFlags := 1537
  interfaces := #[11]
  cf := some (fileOf pool12 8 #[] #[{ accessFlags := 1025, nameIndex := 75, descriptorIndex := 76, attributes := #[] }, { accessFlags := 137, nameIndex := 88, descriptorIndex := 108, attributes := #[] }] 1537 103 #[120] #[])
  fields := #[]
  methods := #[k12m0, k12m1]
  instanceTypes := #[]
  staticTypes := #[]
  resolved := Array.replicate 251 none
  statics := none }

def pool13 : Array CpInfo := pool [(1, .methodref 2 3), (0, .class_ 4), (0, .nameAndType 5 6), (0, u "java/lang/Object"), (0, u "<init>"), (0, u "()V"), (1, .class_ 10), (1, u "java/util/AbstractCollection"), (66, .class_ 78), (0, u "java/util/Collection")] 81

def k13c0 : Code := { maxStack := 1, maxLocals := 1, code := jdk_22_method_1_code, exceptionTable := #[], attributes := #[] }
def k13m0 : Method := { name := "<init>", desc := "()V", sig := { parameters := [], returnType := none }, accessFlags := 4, code := some k13c0 }
/-- java/util/AbstractCollection -/
def k13 : Class := { plain "java/util/AbstractCollection" (some 0) with
  accessFlags := 1057
  interfaces := #[10]
  cf := some (fileOf pool13 8 #[] #[{ accessFlags := 4, nameIndex := 5, descriptorIndex := 6, attributes := #[] }] 1057 2 #[77] #[])
  fields := #[]
  methods := #[k13m0]
  instanceTypes := #[]
  staticTypes := #[]
  resolved := Array.replicate 160 none
  statics := none }

def pool14 : Array CpInfo := pool [(1, .methodref 2 3), (0, .class_ 4), (0, .nameAndType 5 6), (0, u "java/util/AbstractCollection"), (0, u "<init>"), (0, u "()V"), (1, .class_ 10), (1, u "java/util/ImmutableCollections"), (2, .class_ 14), (0, u "java/util/ImmutableCollections$AbstractImmutableCollection")] 41

def k14c0 : Code := { maxStack := 1, maxLocals := 1, code := jdk_47_method_1_code, exceptionTable := #[], attributes := #[] }
def k14m0 : Method := { name := "<init>", desc := "()V", sig := { parameters := [], returnType := none }, accessFlags := 0, code := some k14c0 }
/-- java/util/ImmutableCollections$AbstractImmutableCollection -/
def k14 : Class := { plain "java/util/ImmutableCollections$AbstractImmutableCollection" (some 13) with
  accessFlags := 1056
  interfaces := #[]
  cf := some (fileOf pool14 13 #[.nestHost 8] #[{ accessFlags := 0, nameIndex := 5, descriptorIndex := 6, attributes := #[] }] 1056 2 #[] #[])
  fields := #[]
  methods := #[k14m0]
  instanceTypes := #[]
  staticTypes := #[]
  resolved := Array.replicate 56 none
  statics := none }

def pool15 : Array CpInfo := pool [(1, .class_ 2), (0, u "java/util/RandomAccess"), (0, .class_ 4), (0, u "java/lang/Object")] 2

/-- java/util/RandomAccess -/
def k15 : Class := { plain "java/util/RandomAccess" (some 0) with
  accessFlags := 1537
  interfaces := #[]
  cf := some (fileOf pool15 1 #[] #[] 1537 3 #[] #[])
  fields := #[]
  methods := #[]
  instanceTypes := #[]
  staticTypes := #[]
  resolved := Array.replicate 7 none
  statics := none }

def pool16 : Array CpInfo := pool [(1, .methodref 2 3), (0, .class_ 4), (0, .nameAndType 5 6), (0, u "java/util/ImmutableCollections$AbstractImmutableCollection"), (0, u "<init>"), (0, u "()V"), (1, .class_ 10), (1, u "java/util/ImmutableCollections"), (3, .class_ 16), (1, u "java/util/ImmutableCollections$AbstractImmutableList"), (60, .class_ 78), (0, u "java/util/List"), (45, .class_ 125), (0, u "java/util/RandomAccess")] 70

def k16c0 : Code := { maxStack := 1, maxLocals := 1, code := jdk_46_method_1_code, exceptionTable := #[], attributes := #[] }
def k16m0 : Method := { name := "<init>", desc := "()V", sig := { parameters := [], returnType := none }, accessFlags := 0, code := some k16c0 }
/-- java/util/ImmutableCollections$AbstractImmutableList -/
def k16 : Class := { plain "java/util/ImmutableCollections$AbstractImmutableList" (some 14) with
  accessFlags := 1056
  interfaces := #[12, 15]
  cf := some (fileOf pool16 14 #[.nestHost 8] #[{ accessFlags := 0, nameIndex := 5, descriptorIndex := 6, attributes := #[] }] 1056 2 #[77, 124] #[])
  fields := #[]
  methods := #[k16m0]
  instanceTypes := #[]
  staticTypes := #[]
  resolved := Array.replicate 196 none
  statics := none }

def pool17 : Array CpInfo := pool [(1, .methodref 2 3), (0, .class_ 4), (0, .nameAndType 5 6), (0, u "java/util/ImmutableCollections$AbstractImmutableList"), (0, u "<init>"), (0, u "()V"), (0, .methodref 8 9), (0, .class_ 10), (0, .nameAndType 11 12), (0, u "java/util/Objects"), (0, u "requireNonNull"), (0, u "(Ljava/lang/Object;)Ljava/lang/Object;"), (0, .fieldref 14 15), (0, .class_ 16), (0, .nameAndType 17 18), (0, u "java/util/ImmutableCollections$List12"), (0, u "e0"), (0, u "Ljava/lang/Object;"), (0, .fieldref 20 21), (0, .class_ 22), (0, .nameAndType 23 18), (0, u "java/util/ImmutableCollections"), (0, u "EMPTY"), (0, .fieldref 14 25), (0, .nameAndType 26 18), (0, u "e1"), (43, .class_ 71), (0, u "java/io/Serializable"), (4, u "(Ljava/lang/Object;)V"), (8, u "(Ljava/lang/Object;Ljava/lang/Object;)V"), (4, u "get"), (0, u "(I)Ljava/lang/Object;")] 33

def k17c0 : Code := { maxStack := 2, maxLocals := 2, code := jdk_44_method_1_code, exceptionTable := #[], attributes := #[] }
def k17m0 : Method := { name := "<init>", desc := "(Ljava/lang/Object;)V", sig := { parameters := [(.object "java/lang/Object")], returnType := none }, accessFlags := 0, code := some k17c0 }
def k17c1 : Code := { maxStack := 2, maxLocals := 3, code := jdk_44_method_2_code, exceptionTable := #[], attributes := #[] }
def k17m1 : Method := { name := "<init>", desc := "(Ljava/lang/Object;Ljava/lang/Object;)V", sig := { parameters := [(.object "java/lang/Object"), (.object "java/lang/Object")], returnType := none }, accessFlags := 0, code := some k17c1 }
def k17c2 : Code := { maxStack := 2, maxLocals := 2, code := jdk_44_method_5_code, exceptionTable := #[], attributes := #[] }
def k17m2 : Method := { name := "get", desc := "(I)Ljava/lang/Object;", sig := { parameters := [.int], returnType := some (.object "java/lang/Object") }, accessFlags := 1, code := some k17c2 }
/-- java/util/ImmutableCollections$List12 -/
def k17 : Class := { plain "java/util/ImmutableCollections$List12" (some 16) with
  accessFlags := 48
  interfaces := #[2]
  cf := some (fileOf pool17 14 #[.nestHost 20] #[{ accessFlags := 0, nameIndex := 5, descriptorIndex := 76, attributes := #[] }, { accessFlags := 0, nameIndex := 5, descriptorIndex := 85, attributes := #[] }, { accessFlags := 1, nameIndex := 90, descriptorIndex := 91, attributes := #[] }] 48 2 #[70] #[{ accessFlags := 18, nameIndex := 17, descriptorIndex := 18, attributes := #[] }, { accessFlags := 18, nameIndex := 26, descriptorIndex := 18, attributes := #[] }])
  fields := #[{ name := "e0", type := (.object "java/lang/Object"), accessFlags := 18, slot := 0, constantValue := 0 }, { name := "e1", type := (.object "java/lang/Object"), accessFlags := 18, slot := 1, constantValue := 0 }]
  methods := #[k17m0, k17m1, k17m2]
  instanceTypes := #[(.object "java/lang/Object"), (.object "java/lang/Object")]
  staticTypes := #[]
  resolved := Array.replicate 125 none
  statics := none }

def pool18 : Array CpInfo := pool [(2, .class_ 4), (1, u "java/lang/Object"), (0, u "<init>"), (0, u "()V"), (35, .class_ 44), (1, u "java/util/Objects"), (0, u "requireNonNull"), (0, u "(Ljava/lang/Object;)Ljava/lang/Object;")] 137

def k18m0 : Method := { name := "<init>", desc := "()V", sig := { parameters := [], returnType := none }, accessFlags := 2, code := none }
def k18c1 : Code := { maxStack := 2, maxLocals := 1, code := jdk_31_method_10_code, exceptionTable := #[], attributes := #[] }
def k18m1 : Method := { name := "requireNonNull", desc := "(Ljava/lang/Object;)Ljava/lang/Object;", sig := { parameters := [(.object "java/lang/Object")], returnType := some (.object "java/lang/Object") }, accessFlags := 9, code := some k18c1 }
/-- java/util/Objects -/
def k18 : Class := { plain "java/util/Objects" (some 0) with
  accessFlags := 49
  interfaces := #[]
  cf := some (fileOf pool18 42 #[] #[{ accessFlags := 2, nameIndex := 5, descriptorIndex := 6, attributes := #[] }, { accessFlags := 9, nameIndex := 45, descriptorIndex := 46, attributes := #[] }] 49 2 #[] #[])
  fields := #[]
  methods := #[k18m0, k18m1]
  instanceTypes := #[]
  staticTypes := #[]
  resolved := Array.replicate 184 none
  statics := none }

def pool19 : Array CpInfo := pool [(2, .class_ 4), (1, u "java/lang/Object"), (0, u "<init>"), (0, u "()V"), (3, .class_ 11), (0, u "java/util/ImmutableCollections$List12"), (0, .class_ 13), (0, u "java/util/ImmutableCollections$ListN"), (3, u "Z"), (18, u "([Ljava/lang/Object;)Ljava/util/List;"), (0, .methodref 38 39), (0, .class_ 40), (0, .nameAndType 41 42), (0, u "java/util/Objects"), (0, u "requireNonNull"), (0, u "(Ljava/lang/Object;)Ljava/lang/Object;"), (0, .methodref 12 44), (0, .nameAndType 5 45), (0, u "([Ljava/lang/Object;Z)V"), (1, .class_ 49), (1, u "java/util/ImmutableCollections"), (0, u "$assertionsDisabled"), (5, u "[Ljava/lang/Object;"), (5, u "EMPTY_LIST"), (0, u "Ljava/util/ImmutableCollections$ListN;"), (8, u "EMPTY_LIST_NULLS"), (22, u "SALT32L"), (0, u "J"), (2, u "REVERSE"), (6, u "archivedObjects"), (2, u "EMPTY"), (0, u "Ljava/lang/Object;"), (0, .class_ 112), (0, u "java/util/ImmutableCollections$SetN"), (5, u "EMPTY_SET"), (0, u "Ljava/util/ImmutableCollections$SetN;"), (0, .class_ 121), (0, u "java/util/ImmutableCollections$MapN"), (3, u "EMPTY_MAP"), (0, u "Ljava/util/ImmutableCollections$MapN;"), (4, u "EXPAND_FACTOR"), (0, u "I"), (18, u "listFromArray"), (17, .class_ 170), (0, u "java/util/ImmutableCollections$MapN$MapNIterator"), (0, .class_ 172), (0, u "java/util/ImmutableCollections$MapN$1"), (0, .class_ 174), (0, u "java/util/ImmutableCollections$Map1"), (0, .class_ 176), (0, u "java/util/ImmutableCollections$AbstractImmutableMap"), (0, .class_ 178), (0, u "java/util/ImmutableCollections$SetN$SetNIterator"), (0, .class_ 180), (0, u "java/util/ImmutableCollections$Set12"), (0, .class_ 182), (0, u "java/util/ImmutableCollections$Set12$1"), (0, .class_ 184), (0, u "java/util/ImmutableCollections$AbstractImmutableSet"), (0, .class_ 186), (0, u "java/util/ImmutableCollections$SubList"), (0, .class_ 188), (0, u "java/util/ImmutableCollections$ListItr"), (0, .class_ 190), (0, u "java/util/ImmutableCollections$AbstractImmutableList"), (0, .class_ 192), (0, u "java/util/ImmutableCollections$AbstractImmutableCollection"), (0, .class_ 194), (0, u "java/util/ImmutableCollections$Access"), (0, .class_ 196), (0, u "java/util/ImmutableCollections$Access$1")] 16

def k19m0 : Method := { name := "<init>", desc := "()V", sig := { parameters := [], returnType := none }, accessFlags := 2, code := none }
def k19c1 : Code := { maxStack := 4, maxLocals := 3, code := jdk_56_method_4_code, exceptionTable := #[], attributes := #[] }
def k19m1 : Method := { name := "listFromArray", desc := "([Ljava/lang/Object;)Ljava/util/List;", sig := { parameters := [(.array (.object "java/lang/Object"))], returnType := some (.object "java/util/List") }, accessFlags := 136, code := some k19c1 }
/-- java/util/ImmutableCollections -/
def k19 : Class := { plain "java/util/ImmutableCollections" (some 0) with
  accessFlags := 32
  interfaces := #[]
  cf := some (fileOf pool19 47 #[.nestMembers #[120, 169, 171, 173, 175, 111, 177, 179, 181, 183, 12, 10, 185, 187, 189, 191, 193, 195]] #[{ accessFlags := 2, nameIndex := 5, descriptorIndex := 6, attributes := #[] }, { accessFlags := 136, nameIndex := 151, descriptorIndex := 36, attributes := #[] }] 32 2 #[] #[{ accessFlags := 26, nameIndex := 95, descriptorIndex := 96, attributes := #[] }, { accessFlags := 26, nameIndex := 99, descriptorIndex := 17, attributes := #[] }, { accessFlags := 10, nameIndex := 106, descriptorIndex := 56, attributes := #[] }, { accessFlags := 26, nameIndex := 109, descriptorIndex := 110, attributes := #[] }, { accessFlags := 24, nameIndex := 62, descriptorIndex := 63, attributes := #[] }, { accessFlags := 24, nameIndex := 72, descriptorIndex := 63, attributes := #[] }, { accessFlags := 24, nameIndex := 118, descriptorIndex := 119, attributes := #[] }, { accessFlags := 24, nameIndex := 125, descriptorIndex := 126, attributes := #[] }, { accessFlags := 24, nameIndex := 131, descriptorIndex := 132, attributes := #[] }, { accessFlags := 4120, nameIndex := 50, descriptorIndex := 17, attributes := #[] }])
  fields := #[{ name := "SALT32L", type := .long, accessFlags := 26, slot := 0, constantValue := 0 }, { name := "REVERSE", type := .boolean, accessFlags := 26, slot := 1, constantValue := 0 }, { name := "archivedObjects", type := (.array (.object "java/lang/Object")), accessFlags := 10, slot := 2, constantValue := 0 }, { name := "EMPTY", type := (.object "java/lang/Object"), accessFlags := 26, slot := 3, constantValue := 0 }, { name := "EMPTY_LIST", type := (.object "java/util/ImmutableCollections$ListN"), accessFlags := 24, slot := 4, constantValue := 0 }, { name := "EMPTY_LIST_NULLS", type := (.object "java/util/ImmutableCollections$ListN"), accessFlags := 24, slot := 5, constantValue := 0 }, { name := "EMPTY_SET", type := (.object "java/util/ImmutableCollections$SetN"), accessFlags := 24, slot := 6, constantValue := 0 }, { name := "EMPTY_MAP", type := (.object "java/util/ImmutableCollections$MapN"), accessFlags := 24, slot := 7, constantValue := 0 }, { name := "EXPAND_FACTOR", type := .int, accessFlags := 24, slot := 8, constantValue := 0 }, { name := "$assertionsDisabled", type := .boolean, accessFlags := 4120, slot := 9, constantValue := 0 }]
  methods := #[k19m0, k19m1]
  instanceTypes := #[]
  staticTypes := #[.long, .boolean, (.array (.object "java/lang/Object")), (.object "java/lang/Object"), (.object "java/util/ImmutableCollections$ListN"), (.object "java/util/ImmutableCollections$ListN"), (.object "java/util/ImmutableCollections$SetN"), (.object "java/util/ImmutableCollections$MapN"), .int, .boolean]
  resolved := Array.replicate 213 none
  statics := some 1 }

def pool20 : Array CpInfo := pool [(4, .class_ 6), (1, u "java/lang/Object"), (0, u "<init>"), (0, u "()V"), (5, .class_ 16), (1, u "java/lang/StringLatin1"), (73, u "canEncode"), (14, u "(C)Z"), (15, u "$assertionsDisabled"), (0, u "Z"), (98, .class_ 223), (1, u "java/lang/StringLatin1$LinesSpliterator"), (156, u "toBytes"), (1, u "(C)[B"), (7, .class_ 391), (0, u "java/lang/StringLatin1$CharsSpliterator")] 3

def k20m0 : Method := { name := "<init>", desc := "()V", sig := { parameters := [], returnType := none }, accessFlags := 0, code := none }
def k20c1 : Code := { maxStack := 2, maxLocals := 1, code := jdk_43_method_3_code, exceptionTable := #[], attributes := #[] }
def k20m1 : Method := { name := "canEncode", desc := "(C)Z", sig := { parameters := [.char], returnType := some .boolean }, accessFlags := 9, code := some k20c1 }
def k20c2 : Code := { maxStack := 4, maxLocals := 1, code := jdk_43_method_46_code, exceptionTable := #[], attributes := #[] }
def k20m2 : Method := { name := "toBytes", desc := "(C)[B", sig := { parameters := [.char], returnType := some (.array .byte) }, accessFlags := 9, code := some k20c2 }
/-- java/lang/StringLatin1 -/
def k20 : Class := { plain "java/lang/StringLatin1" (some 0) with
  accessFlags := 48
  interfaces := #[]
  cf := some (fileOf pool20 14 #[.nestMembers #[390, 221]] #[{ accessFlags := 0, nameIndex := 7, descriptorIndex := 8, attributes := #[] }, { accessFlags := 9, nameIndex := 90, descriptorIndex := 105, attributes := #[] }, { accessFlags := 9, nameIndex := 380, descriptorIndex := 382, attributes := #[] }] 48 4 #[] #[{ accessFlags := 4120, nameIndex := 121, descriptorIndex := 122, attributes := #[] }])
  fields := #[{ name := "$assertionsDisabled", type := .boolean, accessFlags := 4120, slot := 0, constantValue := 0 }]
  methods := #[k20m0, k20m1, k20m2]
  instanceTypes := #[]
  staticTypes := #[.boolean]
  resolved := Array.replicate 395 none
  statics := none }

def pool21 : Array CpInfo := pool [(6, .class_ 8), (1, u "java/lang/Object"), (0, u "<init>"), (0, u "()V"), (1, .class_ 14), (1, u "java/lang/StringUTF16"), (31, u "$assertionsDisabled"), (0, u "Z"), (13, u "HI_BYTE_SHIFT"), (0, u "I"), (2, u "LO_BYTE_SHIFT"), (49, .methodref 12 116), (0, .nameAndType 117 118), (0, u "compress"), (0, u "([CI[BII)I"), (3, u "([CII)[B"), (138, u "coderFromArrayLen"), (0, u "([BI)B"), (106, .class_ 371), (1, u "java/lang/StringUTF16$LinesSpliterator"), (58, u "MAX_LENGTH"), (196, .class_ 628), (0, u "java/lang/StringUTF16$CodePointsSpliterator"), (0, .class_ 630), (0, u "java/lang/StringUTF16$CharsSpliterator")] 4

def k21m0 : Method := { name := "<init>", desc := "()V", sig := { parameters := [], returnType := none }, accessFlags := 0, code := none }
def k21c1 : Code := { maxStack := 2, maxLocals := 2, code := jdk_52_method_15_code, exceptionTable := #[], attributes := #[] }
def k21m1 : Method := { name := "coderFromArrayLen", desc := "([BI)B", sig := { parameters := [(.array .byte), .int], returnType := some .byte }, accessFlags := 8, code := some k21c1 }
def k21c2 : Code := { maxStack := 5, maxLocals := 6, code := jdk_52_method_16_code, exceptionTable := #[], attributes := #[] }
def k21m2 : Method := { name := "compress", desc := "([CII)[B", sig := { parameters := [(.array .char), .int, .int], returnType := some (.array .byte) }, accessFlags := 9, code := some k21c2 }
def k21c3 : Code := { maxStack := 3, maxLocals := 7, code := jdk_52_method_21_code, exceptionTable := #[], attributes := #[] }
def k21m3 : Method := { name := "compress", desc := "([CI[BII)I", sig := { parameters := [(.array .char), .int, (.array .byte), .int, .int], returnType := some .int }, accessFlags := 9, code := some k21c3 }
/-- java/lang/StringUTF16 -/
def k21 : Class := { plain "java/lang/StringUTF16" (some 0) with
  accessFlags := 48
  interfaces := #[]
  cf := some (fileOf pool21 12 #[.nestMembers #[627, 629, 369]] #[{ accessFlags := 0, nameIndex := 9, descriptorIndex := 10, attributes := #[] }, { accessFlags := 8, nameIndex := 261, descriptorIndex := 262, attributes := #[] }, { accessFlags := 9, nameIndex := 117, descriptorIndex := 122, attributes := #[] }, { accessFlags := 9, nameIndex := 117, descriptorIndex := 118, attributes := #[] }] 48 6 #[] #[{ accessFlags := 26, nameIndex := 61, descriptorIndex := 62, attributes := #[] }, { accessFlags := 26, nameIndex := 65, descriptorIndex := 62, attributes := #[] }, { accessFlags := 24, nameIndex := 430, descriptorIndex := 62, attributes := #[] }, { accessFlags := 4120, nameIndex := 46, descriptorIndex := 47, attributes := #[] }])
  fields := #[{ name := "HI_BYTE_SHIFT", type := .int, accessFlags := 26, slot := 0, constantValue := 0 }, { name := "LO_BYTE_SHIFT", type := .int, accessFlags := 26, slot := 1, constantValue := 0 }, { name := "MAX_LENGTH", type := .int, accessFlags := 24, slot := 2, constantValue := 0 }, { name := "$assertionsDisabled", type := .boolean, accessFlags := 4120, slot := 3, constantValue := 0 }]
  methods := #[k21m0, k21m1, k21m2, k21m3]
  instanceTypes := #[]
  staticTypes := #[.int, .int, .int, .boolean]
  resolved := Array.replicate 635 none
  statics := none }

def pool22 : Array CpInfo := pool [(1, .methodref 2 3), (0, .class_ 4), (0, .nameAndType 5 6), (0, u "java/util/ImmutableCollections$AbstractImmutableList"), (0, u "<init>"), (0, u "()V"), (0, .fieldref 8 9), (0, .class_ 10), (0, .nameAndType 11 12), (0, u "java/util/ImmutableCollections$ListN"), (0, u "elements"), (0, u "[Ljava/lang/Object;"), (0, .fieldref 8 14), (0, .nameAndType 15 16), (0, u "allowNulls"), (0, u "Z"), (42, .class_ 60), (0, u "java/io/Serializable"), (4, u "([Ljava/lang/Object;Z)V"), (13, u "get"), (0, u "(I)Ljava/lang/Object;"), (33, .class_ 115), (0, u "java/util/ImmutableCollections")] 3

def k22c0 : Code := { maxStack := 2, maxLocals := 3, code := jdk_45_method_1_code, exceptionTable := #[], attributes := #[] }
def k22m0 : Method := { name := "<init>", desc := "([Ljava/lang/Object;Z)V", sig := { parameters := [(.array (.object "java/lang/Object")), .boolean], returnType := none }, accessFlags := 2, code := some k22c0 }
def k22c1 : Code := { maxStack := 2, maxLocals := 2, code := jdk_45_method_4_code, exceptionTable := #[], attributes := #[] }
def k22m1 : Method := { name := "get", desc := "(I)Ljava/lang/Object;", sig := { parameters := [.int], returnType := some (.object "java/lang/Object") }, accessFlags := 1, code := some k22c1 }
/-- java/util/ImmutableCollections$ListN -/
def k22 : Class := { plain "java/util/ImmutableCollections$ListN" (some 16) with
  accessFlags := 48
  interfaces := #[2]
  cf := some (fileOf pool22 8 #[.nestHost 114] #[{ accessFlags := 2, nameIndex := 5, descriptorIndex := 65, attributes := #[] }, { accessFlags := 1, nameIndex := 79, descriptorIndex := 80, attributes := #[] }] 48 2 #[59] #[{ accessFlags := 18, nameIndex := 11, descriptorIndex := 12, attributes := #[] }, { accessFlags := 18, nameIndex := 15, descriptorIndex := 16, attributes := #[] }])
  fields := #[{ name := "elements", type := (.array (.object "java/lang/Object")), accessFlags := 18, slot := 0, constantValue := 0 }, { name := "allowNulls", type := .boolean, accessFlags := 18, slot := 1, constantValue := 0 }]
  methods := #[k22m0, k22m1]
  instanceTypes := #[(.array (.object "java/lang/Object")), .boolean]
  staticTypes := #[]
  resolved := Array.replicate 119 none
  statics := none }

def pool23 : Array CpInfo := pool [(2, .class_ 4), (1, u "java/lang/Object"), (0, u "<init>"), (0, u "()V"), (17, .class_ 26), (1, u "jdk/internal/util/Preconditions"), (28, .class_ 56), (0, u "jdk/internal/util/Preconditions$4"), (57, .class_ 115), (0, u "jdk/internal/util/Preconditions$1"), (7, u "SIOOBE_FORMATTER"), (0, u "Ljava/util/function/BiFunction;"), (0, .class_ 126), (0, u "jdk/internal/util/Preconditions$2"), (3, u "AIOOBE_FORMATTER"), (0, .class_ 132), (0, u "jdk/internal/util/Preconditions$3"), (3, u "IOOBE_FORMATTER")] 57

def k23m0 : Method := { name := "<init>", desc := "()V", sig := { parameters := [], returnType := none }, accessFlags := 1, code := none }
/-- jdk/internal/util/Preconditions -/
def k23 : Class := { plain "jdk/internal/util/Preconditions" (some 0) with
  accessFlags := 33
  interfaces := #[]
  cf := some (fileOf pool23 24 #[.nestMembers #[55, 131, 125, 114]] #[{ accessFlags := 1, nameIndex := 5, descriptorIndex := 6, attributes := #[] }] 33 2 #[] #[{ accessFlags := 25, nameIndex := 123, descriptorIndex := 124, attributes := #[] }, { accessFlags := 25, nameIndex := 130, descriptorIndex := 124, attributes := #[] }, { accessFlags := 25, nameIndex := 136, descriptorIndex := 124, attributes := #[] }])
  fields := #[{ name := "SIOOBE_FORMATTER", type := (.object "java/util/function/BiFunction"), accessFlags := 25, slot := 0, constantValue := 0 }, { name := "AIOOBE_FORMATTER", type := (.object "java/util/function/BiFunction"), accessFlags := 25, slot := 1, constantValue := 0 }, { name := "IOOBE_FORMATTER", type := (.object "java/util/function/BiFunction"), accessFlags := 25, slot := 2, constantValue := 0 }]
  methods := #[k23m0]
  instanceTypes := #[]
  staticTypes := #[(.object "java/util/function/BiFunction"), (.object "java/util/function/BiFunction"), (.object "java/util/function/BiFunction")]
  resolved := Array.replicate 194 none
  statics := some 2 }

def pool24 : Array CpInfo := pool [(9, u "<init>"), (6, .class_ 18), (1, u "java/lang/Object"), (0, u "()V"), (1, .class_ 23), (1, u "jdk/internal/util/ArraysSupport"), (0, u "LOG2_ARRAY_LONG_INDEX_SCALE"), (0, u "I"), (2, u "U"), (0, u "Ljdk/internal/misc/Unsafe;"), (8, u "BIG_ENDIAN"), (0, u "Z"), (8, u "LOG2_BYTE_BIT_SIZE"), (4, u "LOG2_ARRAY_INT_INDEX_SCALE"), (54, u "JLA"), (0, u "Ljdk/internal/access/JavaLangAccess;"), (11, u "LOG2_ARRAY_BOOLEAN_INDEX_SCALE"), (9, u "LOG2_ARRAY_BYTE_INDEX_SCALE"), (5, u "LOG2_ARRAY_CHAR_INDEX_SCALE"), (5, u "LOG2_ARRAY_SHORT_INDEX_SCALE"), (18, u "LOG2_ARRAY_FLOAT_INDEX_SCALE"), (24, u "LOG2_ARRAY_DOUBLE_INDEX_SCALE"), (89, u "T_BOOLEAN"), (2, u "T_CHAR"), (1, u "T_FLOAT"), (1, u "T_DOUBLE"), (1, u "T_BYTE"), (1, u "T_SHORT"), (1, u "T_INT"), (1, u "T_LONG"), (1, u "SOFT_MAX_ARRAY_LENGTH")] 83

def k24m0 : Method := { name := "<init>", desc := "()V", sig := { parameters := [], returnType := none }, accessFlags := 2, code := none }
/-- jdk/internal/util/ArraysSupport -/
def k24 : Class := { plain "jdk/internal/util/ArraysSupport" (some 0) with
  accessFlags := 33
  interfaces := #[]
  cf := some (fileOf pool24 21 #[] #[{ accessFlags := 2, nameIndex := 9, descriptorIndex := 19, attributes := #[] }] 33 16 #[] #[{ accessFlags := 24, nameIndex := 28, descriptorIndex := 29, attributes := #[] }, { accessFlags := 26, nameIndex := 38, descriptorIndex := 39, attributes := #[] }, { accessFlags := 25, nameIndex := 121, descriptorIndex := 25, attributes := #[] }, { accessFlags := 25, nameIndex := 131, descriptorIndex := 25, attributes := #[] }, { accessFlags := 25, nameIndex := 137, descriptorIndex := 25, attributes := #[] }, { accessFlags := 25, nameIndex := 143, descriptorIndex := 25, attributes := #[] }, { accessFlags := 25, nameIndex := 53, descriptorIndex := 25, attributes := #[] }, { accessFlags := 25, nameIndex := 24, descriptorIndex := 25, attributes := #[] }, { accessFlags := 25, nameIndex := 162, descriptorIndex := 25, attributes := #[] }, { accessFlags := 25, nameIndex := 187, descriptorIndex := 25, attributes := #[] }, { accessFlags := 26, nameIndex := 48, descriptorIndex := 25, attributes := #[] }, { accessFlags := 25, nameIndex := 277, descriptorIndex := 25, attributes := #[] }, { accessFlags := 25, nameIndex := 280, descriptorIndex := 25, attributes := #[] }, { accessFlags := 25, nameIndex := 282, descriptorIndex := 25, attributes := #[] }, { accessFlags := 25, nameIndex := 284, descriptorIndex := 25, attributes := #[] }, { accessFlags := 25, nameIndex := 286, descriptorIndex := 25, attributes := #[] }, { accessFlags := 25, nameIndex := 288, descriptorIndex := 25, attributes := #[] }, { accessFlags := 25, nameIndex := 290, descriptorIndex := 25, attributes := #[] }, { accessFlags := 25, nameIndex := 292, descriptorIndex := 25, attributes := #[] }, { accessFlags := 26, nameIndex := 108, descriptorIndex := 109, attributes := #[] }, { accessFlags := 25, nameIndex := 294, descriptorIndex := 25, attributes := #[] }])
  fields := #[{ name := "U", type := (.object "jdk/internal/misc/Unsafe"), accessFlags := 24, slot := 0, constantValue := 0 }, { name := "BIG_ENDIAN", type := .boolean, accessFlags := 26, slot := 1, constantValue := 0 }, { name := "LOG2_ARRAY_BOOLEAN_INDEX_SCALE", type := .int, accessFlags := 25, slot := 2, constantValue := 0 }, { name := "LOG2_ARRAY_BYTE_INDEX_SCALE", type := .int, accessFlags := 25, slot := 3, constantValue := 0 }, { name := "LOG2_ARRAY_CHAR_INDEX_SCALE", type := .int, accessFlags := 25, slot := 4, constantValue := 0 }, { name := "LOG2_ARRAY_SHORT_INDEX_SCALE", type := .int, accessFlags := 25, slot := 5, constantValue := 0 }, { name := "LOG2_ARRAY_INT_INDEX_SCALE", type := .int, accessFlags := 25, slot := 6, constantValue := 0 }, { name := "LOG2_ARRAY_LONG_INDEX_SCALE", type := .int, accessFlags := 25, slot := 7, constantValue := 0 }, { name := "LOG2_ARRAY_FLOAT_INDEX_SCALE", type := .int, accessFlags := 25, slot := 8, constantValue := 0 }, { name := "LOG2_ARRAY_DOUBLE_INDEX_SCALE", type := .int, accessFlags := 25, slot := 9, constantValue := 0 }, { name := "LOG2_BYTE_BIT_SIZE", type := .int, accessFlags := 26, slot := 10, constantValue := 0 }, { name := "T_BOOLEAN", type := .int, accessFlags := 25, slot := 11, constantValue := 0 }, { name := "T_CHAR", type := .int, accessFlags := 25, slot := 12, constantValue := 0 }, { name := "T_FLOAT", type := .int, accessFlags := 25, slot := 13, constantValue := 0 }, { name := "T_DOUBLE", type := .int, accessFlags := 25, slot := 14, constantValue := 0 }, { name := "T_BYTE", type := .int, accessFlags := 25, slot := 15, constantValue := 0 }, { name := "T_SHORT", type := .int, accessFlags := 25, slot := 16, constantValue := 0 }, { name := "T_INT", type := .int, accessFlags := 25, slot := 17, constantValue := 0 }, { name := "T_LONG", type := .int, accessFlags := 25, slot := 18, constantValue := 0 }, { name := "JLA", type := (.object "jdk/internal/access/JavaLangAccess"), accessFlags := 26, slot := 19, constantValue := 0 }, { name := "SOFT_MAX_ARRAY_LENGTH", type := .int, accessFlags := 25, slot := 20, constantValue := 0 }]
  methods := #[k24m0]
  instanceTypes := #[]
  staticTypes := #[(.object "jdk/internal/misc/Unsafe"), .boolean, .int, .int, .int, .int, .int, .int, .int, .int, .int, .int, .int, .int, .int, .int, .int, .int, .int, (.object "jdk/internal/access/JavaLangAccess"), .int]
  resolved := Array.replicate 378 none
  statics := none }

def pool25 : Array CpInfo := pool [(1, u "java/lang/Cloneable"), (0, .class_ 1), (0, u "java/lang/Object"), (0, .class_ 3)] 3

/-- java/lang/Cloneable -/
def k25 : Class := { plain "java/lang/Cloneable" (some 0) with
  accessFlags := 1537
  interfaces := #[]
  cf := some (fileOf pool25 2 #[] #[] 1537 4 #[] #[])
  fields := #[]
  methods := #[]
  instanceTypes := #[]
  staticTypes := #[]
  resolved := Array.replicate 8 none
  statics := none }

/-- the primitive byte -/
def k26 : Class := { plain "byte" none with kind := .primitive 'B', accessFlags := 0x411 }
/-- [B -/
def k27 : Class := { plain "[B" (some 0) with kind := .array 26 .byte, interfaces := #[25, 2], accessFlags := 1041 }

/-- the primitive char -/
def k28 : Class := { plain "char" none with kind := .primitive 'C', accessFlags := 0x411 }
/-- [C -/
def k29 : Class := { plain "[C" (some 0) with kind := .array 28 .char, interfaces := #[25, 2], accessFlags := 1041 }

/-- the primitive int -/
def k30 : Class := { plain "int" none with kind := .primitive 'I', accessFlags := 0x411 }
/-- [I -/
def k31 : Class := { plain "[I" (some 0) with kind := .array 30 .int, interfaces := #[25, 2], accessFlags := 1041 }

/-- [Ljava/lang/Object; -/
def k32 : Class := { plain "[Ljava/lang/Object;" (some 0) with kind := .array 0 (.object "java/lang/Object"), interfaces := #[25, 2], accessFlags := 1041 }

/-- [Ljava/lang/String; -/
def k33 : Class := { plain "[Ljava/lang/String;" (some 0) with kind := .array 7 (.object "java/lang/String"), interfaces := #[25, 2], accessFlags := 1041 }

def heap : Heap := #[{ cls := 7, slots := #[.long 0, .int 1, .null, .int 0, .null, .int 0, .int 0], vm := .statics 7 },
  { cls := 19, slots := #[.long 0, .int 0, .null, .ref 3, .ref 4, .null, .null, .null, .int 0, .int 1], vm := .statics 19 },
  { cls := 23, slots := #[.null, .null, .null], vm := .statics 23 },
  { cls := 0, slots := #[], vm := .none },
  { cls := 22, slots := #[.null, .int 0], vm := .none }]
def classes : Array Class := #[k0, k1, k2, k3, k4, k5, k6, k7, k8, k9, k10, k11, k12, k13, k14, k15, k16, k17, k18, k19, k20, k21, k22, k23, k24, k25, k26, k27, k28, k29, k30, k31, k32, k33]
def interned : List (Array UInt16 × Addr) := []
def slotsUsed : Nat := 22
def theMethod : MethodId := ⟨1, 2⟩
def args0 : Array Value := #[.int 1, .int 2, .int 3, .int 5]
def aboutOver (below : List Frame) : State where
  vm := { classes := classes, interned := interned.toArray }
  heap := heap
  slotsUsed := slotsUsed
  threads := #[{ frames := .invoking theMethod args0 :: below }]
def below0 : List Frame := [.native { method := ⟨0, 0⟩, args := #[] }]
def about1 : State := aboutOver below0
def p0 : Program := .bare "" "" ""
def e0 : Env := launch0.env 0 0 0
theorem w_frames : about1.frames = Frame.invoking theMethod args0 :: below0 := rfl
set_option maxRecDepth 65536 in
theorem w_args : argsFit about1.vm theMethod args0 = true := by decide +kernel
set_option maxRecDepth 65536 in
theorem w_heap : heapFits about1 = true := by decide +kernel
set_option maxRecDepth 65536 in
theorem w_runnable : about1.curStatus? = some .runnable := by decide +kernel
set_option maxRecDepth 65536 in
theorem w_alone : about1.alone = true := by decide +kernel
set_option maxRecDepth 65536 in
theorem w_named : about1.methodNamed? x = some theMethod := by decide +kernel
set_option maxRecDepth 65536 in
theorem w_hears : about1.hears theMethod below0 = true := by decide +kernel
set_option maxRecDepth 65536 in
theorem w_ripe : about1.ripe theMethod args0 below0 = true := by decide +kernel
theorem w_running : about1.status = .running := rfl
set_option maxRecDepth 65536 in
theorem w_room : about1.hasRoom e0.platform room_1 = true :=
  launch0.hasRoom_least _ room_1 (by decide +kernel) (by decide +kernel) (by decide +kernel) (by decide +kernel) (by decide +kernel) (by decide +kernel)
theorem allAtoms_all (ts : List Jvm.Cond) (a : Array Jvm.Value) (st : Jvm.State) : (allAtoms ts).before a st = ts.all (fun c => c.before a st) := by
  induction ts with
  | nil => rfl
  | cons c t ih =>
    show (Jvm.Cond.and c (allAtoms t)).before a st = _
    rw [Jvm.Cond.before_and, ih, List.all_cons]
def words1 : List Jvm.Cond := Jvm.Cond.code x code maxLocals ret :: tables_1
/-- a 'code' word, met by the world's own term for the bytes: nothing is compared byte by byte -/
theorem code_word {y : MethodName} {bytes : ByteArray} {mx : Nat} {rt : Option FieldType} {a : Array Value} {s : State} {m : MethodId} {meth : Method} {c : Code} (h1 : s.methodNamed? y = some m) (h2 : s.vm.method? m = some meth) (h3 : meth.code = some c) (h4 : c.code = bytes)
    (h5 : (c.maxLocals == mx && c.exceptionTable.isEmpty && decide (c.maxStack ≤ mostOperands) && decide (meth.sig.returnType = rt) && !meth.locks && decide (parseMethodDescriptor y.desc = some meth.sig)) = true) : (Jvm.Cond.code y bytes mx rt).before a s = true := by
  simp only [Bool.and_eq_true, beq_iff_eq, Bool.not_eq_true', decide_eq_true_eq] at h5
  obtain ⟨⟨⟨⟨⟨g1, g2⟩, g3⟩, g4⟩, g5⟩, g6⟩ := h5
  simp [Cond.before, Cond.holds, Cond.value, h1, h2, h3, h4, g1, g2, g3, g4, g5, g6]
def isCode : Jvm.Cond → Bool
  | .code _ _ _ _ => true
  | _ => false
theorem all_split {L : List Jvm.Cond} {P : Jvm.Cond → Bool} (h1 : L.all (fun c => isCode c || P c) = true) (h2 : ∀ c ∈ L.filter isCode, P c = true) : L.all P = true := by
  refine List.all_eq_true.mpr fun c hc => ?_
  have h := List.all_eq_true.mp h1 c hc
  rcases Bool.eq_false_or_eq_true (isCode c) with hi | hi
  · exact h2 c (List.mem_filter.mpr ⟨hc, hi⟩)
  · simpa [hi] using h
set_option maxRecDepth 65536 in
theorem w_c0 : (Jvm.Cond.code x code maxLocals ret).before args0 about1 = true := code_word (m := ⟨1, 2⟩) (meth := k1m2) (c := k1c2) (by decide +kernel) rfl rfl rfl (by decide +kernel)
set_option maxRecDepth 65536 in
theorem w_c1 : (Jvm.Cond.code ({ cls := "com/example/gangway/gangway/tool/OptionNamePinLaw", name := "draw", desc := "(II)Ljava/lang/String;" } : Jvm.MethodName) method_2_code (5 : Nat) (Option.some (Jvm.ClassFile.FieldType.object "java/lang/String"))).before args0 about1 = true := code_word (m := ⟨1, 1⟩) (meth := k1m1) (c := k1c1) (by decide +kernel) rfl rfl rfl (by decide +kernel)
set_option maxRecDepth 65536 in
theorem w_c2 : (Jvm.Cond.code ({ cls := "java/lang/String", name := "<init>", desc := "([C)V" } : Jvm.MethodName) jdk_42_method_3_code (2 : Nat) (Option.none : Option Jvm.ClassFile.FieldType)).before args0 about1 = true := code_word (m := ⟨7, 1⟩) (meth := k7m1) (c := k7c1) (by decide +kernel) rfl rfl rfl (by decide +kernel)
set_option maxRecDepth 65536 in
theorem w_c3 : (Jvm.Cond.code ({ cls := "java/lang/String", name := "<init>", desc := "([CIILjava/lang/Void;)V" } : Jvm.MethodName) jdk_42_method_149_code (6 : Nat) (Option.none : Option Jvm.ClassFile.FieldType)).before args0 about1 = true := code_word (m := ⟨7, 5⟩) (meth := k7m5) (c := k7c5) (by decide +kernel) rfl rfl rfl (by decide +kernel)
set_option maxRecDepth 65536 in
theorem w_c4 : (Jvm.Cond.code ({ cls := "java/lang/Object", name := "<init>", desc := "()V" } : Jvm.MethodName) object_method_1_code (1 : Nat) (Option.none : Option Jvm.ClassFile.FieldType)).before args0 about1 = true := code_word (m := ⟨0, 0⟩) (meth := k0m0) (c := k0c0) (by decide +kernel) rfl rfl rfl (by decide +kernel)
set_option maxRecDepth 65536 in
theorem w_c5 : (Jvm.Cond.code ({ cls := "com/example/gangway/gangway/tool/CommandLine$Option", name := "<init>", desc := "(Z[Ljava/lang/String;)V" } : Jvm.MethodName) prog_29_method_1_code (3 : Nat) (Option.none : Option Jvm.ClassFile.FieldType)).before args0 about1 = true := code_word (m := ⟨8, 0⟩) (meth := k8m0) (c := k8c0) (by decide +kernel) rfl rfl rfl (by decide +kernel)
set_option maxRecDepth 65536 in
theorem w_c6 : (Jvm.Cond.code ({ cls := "java/util/List", name := "of", desc := "([Ljava/lang/Object;)Ljava/util/List;" } : Jvm.MethodName) jdk_40_method_47_code (2 : Nat) (Option.some (Jvm.ClassFile.FieldType.object "java/util/List"))).before args0 about1 = true := code_word (m := ⟨12, 1⟩) (meth := k12m1) (c := k12c1) (by decide +kernel) rfl rfl rfl (by decide +kernel)
set_option maxRecDepth 65536 in
theorem w_c7 : (Jvm.Cond.code ({ cls := "java/util/ImmutableCollections$List12", name := "<init>", desc := "(Ljava/lang/Object;)V" } : Jvm.MethodName) jdk_44_method_1_code (2 : Nat) (Option.none : Option Jvm.ClassFile.FieldType)).before args0 about1 = true := code_word (m := ⟨17, 0⟩) (meth := k17m0) (c := k17c0) (by decide +kernel) rfl rfl rfl (by decide +kernel)
set_option maxRecDepth 65536 in
theorem w_c8 : (Jvm.Cond.code ({ cls := "java/util/ImmutableCollections$AbstractImmutableList", name := "<init>", desc := "()V" } : Jvm.MethodName) jdk_46_method_1_code (1 : Nat) (Option.none : Option Jvm.ClassFile.FieldType)).before args0 about1 = true := code_word (m := ⟨16, 0⟩) (meth := k16m0) (c := k16c0) (by decide +kernel) rfl rfl rfl (by decide +kernel)
set_option maxRecDepth 65536 in
theorem w_c9 : (Jvm.Cond.code ({ cls := "java/util/ImmutableCollections$AbstractImmutableCollection", name := "<init>", desc := "()V" } : Jvm.MethodName) jdk_47_method_1_code (1 : Nat) (Option.none : Option Jvm.ClassFile.FieldType)).before args0 about1 = true := code_word (m := ⟨14, 0⟩) (meth := k14m0) (c := k14c0) (by decide +kernel) rfl rfl rfl (by decide +kernel)
set_option maxRecDepth 65536 in
theorem w_c10 : (Jvm.Cond.code ({ cls := "java/util/AbstractCollection", name := "<init>", desc := "()V" } : Jvm.MethodName) jdk_22_method_1_code (1 : Nat) (Option.none : Option Jvm.ClassFile.FieldType)).before args0 about1 = true := code_word (m := ⟨13, 0⟩) (meth := k13m0) (c := k13c0) (by decide +kernel) rfl rfl rfl (by decide +kernel)
set_option maxRecDepth 65536 in
theorem w_c11 : (Jvm.Cond.code ({ cls := "java/util/Objects", name := "requireNonNull", desc := "(Ljava/lang/Object;)Ljava/lang/Object;" } : Jvm.MethodName) jdk_31_method_10_code (1 : Nat) (Option.some (Jvm.ClassFile.FieldType.object "java/lang/Object"))).before args0 about1 = true := code_word (m := ⟨18, 1⟩) (meth := k18m1) (c := k18c1) (by decide +kernel) rfl rfl rfl (by decide +kernel)
set_option maxRecDepth 65536 in
theorem w_c12 : (Jvm.Cond.code ({ cls := "com/example/gangway/gangway/tool/CommandLine$Option", name := "name", desc := "()Ljava/lang/String;" } : Jvm.MethodName) prog_29_method_2_code (1 : Nat) (Option.some (Jvm.ClassFile.FieldType.object "java/lang/String"))).before args0 about1 = true := code_word (m := ⟨8, 1⟩) (meth := k8m1) (c := k8c1) (by decide +kernel) rfl rfl rfl (by decide +kernel)
set_option maxRecDepth 65536 in
theorem w_c13 : (Jvm.Cond.code ({ cls := "java/util/ImmutableCollections$List12", name := "get", desc := "(I)Ljava/lang/Object;" } : Jvm.MethodName) jdk_44_method_5_code (2 : Nat) (Option.some (Jvm.ClassFile.FieldType.object "java/lang/Object"))).before args0 about1 = true := code_word (m := ⟨17, 2⟩) (meth := k17m2) (c := k17c2) (by decide +kernel) rfl rfl rfl (by decide +kernel)
set_option maxRecDepth 65536 in
theorem w_c14 : (Jvm.Cond.code ({ cls := "java/lang/String", name := "equals", desc := "(Ljava/lang/Object;)Z" } : Jvm.MethodName) jdk_42_method_66_code (3 : Nat) (Option.some Jvm.ClassFile.FieldType.boolean)).before args0 about1 = true := code_word (m := ⟨7, 3⟩) (meth := k7m3) (c := k7c3) (by decide +kernel) rfl rfl rfl (by decide +kernel)
set_option maxRecDepth 65536 in
theorem w_c15 : (Jvm.Cond.code ({ cls := "java/lang/String", name := "length", desc := "()I" } : Jvm.MethodName) jdk_42_method_54_code (1 : Nat) (Option.some Jvm.ClassFile.FieldType.int)).before args0 about1 = true := code_word (m := ⟨7, 2⟩) (meth := k7m2) (c := k7c2) (by decide +kernel) rfl rfl rfl (by decide +kernel)
set_option maxRecDepth 65536 in
theorem w_c16 : (Jvm.Cond.code ({ cls := "java/lang/String", name := "coder", desc := "()B" } : Jvm.MethodName) jdk_42_method_152_code (1 : Nat) (Option.some Jvm.ClassFile.FieldType.byte)).before args0 about1 = true := code_word (m := ⟨7, 7⟩) (meth := k7m7) (c := k7c7) (by decide +kernel) rfl rfl rfl (by decide +kernel)
set_option maxRecDepth 65536 in
theorem w_c17 : (Jvm.Cond.code ({ cls := "java/lang/String", name := "valueOf", desc := "(C)Ljava/lang/String;" } : Jvm.MethodName) jdk_42_method_139_code (1 : Nat) (Option.some (Jvm.ClassFile.FieldType.object "java/lang/String"))).before args0 about1 = true := code_word (m := ⟨7, 4⟩) (meth := k7m4) (c := k7c4) (by decide +kernel) rfl rfl rfl (by decide +kernel)
set_option maxRecDepth 65536 in
theorem w_c18 : (Jvm.Cond.code ({ cls := "java/lang/StringLatin1", name := "canEncode", desc := "(C)Z" } : Jvm.MethodName) jdk_43_method_3_code (1 : Nat) (Option.some Jvm.ClassFile.FieldType.boolean)).before args0 about1 = true := code_word (m := ⟨20, 1⟩) (meth := k20m1) (c := k20c1) (by decide +kernel) rfl rfl rfl (by decide +kernel)
set_option maxRecDepth 65536 in
theorem w_c19 : (Jvm.Cond.code ({ cls := "java/lang/StringLatin1", name := "toBytes", desc := "(C)[B" } : Jvm.MethodName) jdk_43_method_46_code (1 : Nat) (Option.some (Jvm.ClassFile.FieldType.array Jvm.ClassFile.FieldType.byte))).before args0 about1 = true := code_word (m := ⟨20, 2⟩) (meth := k20m2) (c := k20c2) (by decide +kernel) rfl rfl rfl (by decide +kernel)
set_option maxRecDepth 65536 in
theorem w_c20 : (Jvm.Cond.code ({ cls := "java/lang/String", name := "<init>", desc := "([BB)V" } : Jvm.MethodName) jdk_42_method_151_code (3 : Nat) (Option.none : Option Jvm.ClassFile.FieldType)).before args0 about1 = true := code_word (m := ⟨7, 6⟩) (meth := k7m6) (c := k7c6) (by decide +kernel) rfl rfl rfl (by decide +kernel)
set_option maxRecDepth 65536 in
theorem w_c21 : (Jvm.Cond.code ({ cls := "java/util/ImmutableCollections$List12", name := "<init>", desc := "(Ljava/lang/Object;Ljava/lang/Object;)V" } : Jvm.MethodName) jdk_44_method_2_code (3 : Nat) (Option.none : Option Jvm.ClassFile.FieldType)).before args0 about1 = true := code_word (m := ⟨17, 1⟩) (meth := k17m1) (c := k17c1) (by decide +kernel) rfl rfl rfl (by decide +kernel)
set_option maxRecDepth 65536 in
theorem w_c22 : (Jvm.Cond.code ({ cls := "java/lang/StringUTF16", name := "compress", desc := "([CII)[B" } : Jvm.MethodName) jdk_52_method_16_code (6 : Nat) (Option.some (Jvm.ClassFile.FieldType.array Jvm.ClassFile.FieldType.byte))).before args0 about1 = true := code_word (m := ⟨21, 2⟩) (meth := k21m2) (c := k21c2) (by decide +kernel) rfl rfl rfl (by decide +kernel)
set_option maxRecDepth 65536 in
theorem w_c23 : (Jvm.Cond.code ({ cls := "java/lang/StringUTF16", name := "compress", desc := "([CI[BII)I" } : Jvm.MethodName) jdk_52_method_21_code (7 : Nat) (Option.some Jvm.ClassFile.FieldType.int)).before args0 about1 = true := code_word (m := ⟨21, 3⟩) (meth := k21m3) (c := k21c3) (by decide +kernel) rfl rfl rfl (by decide +kernel)
set_option maxRecDepth 65536 in
theorem w_c24 : (Jvm.Cond.code ({ cls := "java/lang/StringUTF16", name := "coderFromArrayLen", desc := "([BI)B" } : Jvm.MethodName) jdk_52_method_15_code (2 : Nat) (Option.some Jvm.ClassFile.FieldType.byte)).before args0 about1 = true := code_word (m := ⟨21, 1⟩) (meth := k21m1) (c := k21c1) (by decide +kernel) rfl rfl rfl (by decide +kernel)
set_option maxRecDepth 65536 in
theorem w_c25 : (Jvm.Cond.code ({ cls := "java/util/ImmutableCollections", name := "listFromArray", desc := "([Ljava/lang/Object;)Ljava/util/List;" } : Jvm.MethodName) jdk_56_method_4_code (3 : Nat) (Option.some (Jvm.ClassFile.FieldType.object "java/util/List"))).before args0 about1 = true := code_word (m := ⟨19, 1⟩) (meth := k19m1) (c := k19c1) (by decide +kernel) rfl rfl rfl (by decide +kernel)
set_option maxRecDepth 65536 in
theorem w_c26 : (Jvm.Cond.code ({ cls := "java/util/ImmutableCollections$ListN", name := "<init>", desc := "([Ljava/lang/Object;Z)V" } : Jvm.MethodName) jdk_45_method_1_code (3 : Nat) (Option.none : Option Jvm.ClassFile.FieldType)).before args0 about1 = true := code_word (m := ⟨22, 0⟩) (meth := k22m0) (c := k22c0) (by decide +kernel) rfl rfl rfl (by decide +kernel)
set_option maxRecDepth 65536 in
theorem w_c27 : (Jvm.Cond.code ({ cls := "java/util/ImmutableCollections$ListN", name := "get", desc := "(I)Ljava/lang/Object;" } : Jvm.MethodName) jdk_45_method_4_code (2 : Nat) (Option.some (Jvm.ClassFile.FieldType.object "java/lang/Object"))).before args0 about1 = true := code_word (m := ⟨22, 1⟩) (meth := k22m1) (c := k22c1) (by decide +kernel) rfl rfl rfl (by decide +kernel)
def codes1 : List Jvm.Cond := [Jvm.Cond.code x code maxLocals ret, Jvm.Cond.code ({ cls := "com/example/gangway/gangway/tool/OptionNamePinLaw", name := "draw", desc := "(II)Ljava/lang/String;" } : Jvm.MethodName) method_2_code (5 : Nat) (Option.some (Jvm.ClassFile.FieldType.object "java/lang/String")), Jvm.Cond.code ({ cls := "java/lang/String", name := "<init>", desc := "([C)V" } : Jvm.MethodName) jdk_42_method_3_code (2 : Nat) (Option.none : Option Jvm.ClassFile.FieldType), Jvm.Cond.code ({ cls := "java/lang/String", name := "<init>", desc := "([CIILjava/lang/Void;)V" } : Jvm.MethodName) jdk_42_method_149_code (6 : Nat) (Option.none : Option Jvm.ClassFile.FieldType), Jvm.Cond.code ({ cls := "java/lang/Object", name := "<init>", desc := "()V" } : Jvm.MethodName) object_method_1_code (1 : Nat) (Option.none : Option Jvm.ClassFile.FieldType), Jvm.Cond.code ({ cls := "com/example/gangway/gangway/tool/CommandLine$Option", name := "<init>", desc := "(Z[Ljava/lang/String;)V" } : Jvm.MethodName) prog_29_method_1_code (3 : Nat) (Option.none : Option Jvm.ClassFile.FieldType), Jvm.Cond.code ({ cls := "java/util/List", name := "of", desc := "([Ljava/lang/Object;)Ljava/util/List;" } : Jvm.MethodName) jdk_40_method_47_code (2 : Nat) (Option.some (Jvm.ClassFile.FieldType.object "java/util/List")), Jvm.Cond.code ({ cls := "java/util/ImmutableCollections$List12", name := "<init>", desc := "(Ljava/lang/Object;)V" } : Jvm.MethodName) jdk_44_method_1_code (2 : Nat) (Option.none : Option Jvm.ClassFile.FieldType), Jvm.Cond.code ({ cls := "java/util/ImmutableCollections$AbstractImmutableList", name := "<init>", desc := "()V" } : Jvm.MethodName) jdk_46_method_1_code (1 : Nat) (Option.none : Option Jvm.ClassFile.FieldType), Jvm.Cond.code ({ cls := "java/util/ImmutableCollections$AbstractImmutableCollection", name := "<init>", desc := "()V" } : Jvm.MethodName) jdk_47_method_1_code (1 : Nat) (Option.none : Option Jvm.ClassFile.FieldType), Jvm.Cond.code ({ cls := "java/util/AbstractCollection", name := "<init>", desc := "()V" } : Jvm.MethodName) jdk_22_method_1_code (1 : Nat) (Option.none : Option Jvm.ClassFile.FieldType), Jvm.Cond.code ({ cls := "java/util/Objects", name := "requireNonNull", desc := "(Ljava/lang/Object;)Ljava/lang/Object;" } : Jvm.MethodName) jdk_31_method_10_code (1 : Nat) (Option.some (Jvm.ClassFile.FieldType.object "java/lang/Object")), Jvm.Cond.code ({ cls := "com/example/gangway/gangway/tool/CommandLine$Option", name := "name", desc := "()Ljava/lang/String;" } : Jvm.MethodName) prog_29_method_2_code (1 : Nat) (Option.some (Jvm.ClassFile.FieldType.object "java/lang/String")), Jvm.Cond.code ({ cls := "java/util/ImmutableCollections$List12", name := "get", desc := "(I)Ljava/lang/Object;" } : Jvm.MethodName) jdk_44_method_5_code (2 : Nat) (Option.some (Jvm.ClassFile.FieldType.object "java/lang/Object")), Jvm.Cond.code ({ cls := "java/lang/String", name := "equals", desc := "(Ljava/lang/Object;)Z" } : Jvm.MethodName) jdk_42_method_66_code (3 : Nat) (Option.some Jvm.ClassFile.FieldType.boolean), Jvm.Cond.code ({ cls := "java/lang/String", name := "length", desc := "()I" } : Jvm.MethodName) jdk_42_method_54_code (1 : Nat) (Option.some Jvm.ClassFile.FieldType.int), Jvm.Cond.code ({ cls := "java/lang/String", name := "coder", desc := "()B" } : Jvm.MethodName) jdk_42_method_152_code (1 : Nat) (Option.some Jvm.ClassFile.FieldType.byte), Jvm.Cond.code ({ cls := "java/lang/String", name := "valueOf", desc := "(C)Ljava/lang/String;" } : Jvm.MethodName) jdk_42_method_139_code (1 : Nat) (Option.some (Jvm.ClassFile.FieldType.object "java/lang/String")), Jvm.Cond.code ({ cls := "java/lang/StringLatin1", name := "canEncode", desc := "(C)Z" } : Jvm.MethodName) jdk_43_method_3_code (1 : Nat) (Option.some Jvm.ClassFile.FieldType.boolean), Jvm.Cond.code ({ cls := "java/lang/StringLatin1", name := "toBytes", desc := "(C)[B" } : Jvm.MethodName) jdk_43_method_46_code (1 : Nat) (Option.some (Jvm.ClassFile.FieldType.array Jvm.ClassFile.FieldType.byte)), Jvm.Cond.code ({ cls := "java/lang/String", name := "<init>", desc := "([BB)V" } : Jvm.MethodName) jdk_42_method_151_code (3 : Nat) (Option.none : Option Jvm.ClassFile.FieldType), Jvm.Cond.code ({ cls := "java/util/ImmutableCollections$List12", name := "<init>", desc := "(Ljava/lang/Object;Ljava/lang/Object;)V" } : Jvm.MethodName) jdk_44_method_2_code (3 : Nat) (Option.none : Option Jvm.ClassFile.FieldType), Jvm.Cond.code ({ cls := "java/lang/StringUTF16", name := "compress", desc := "([CII)[B" } : Jvm.MethodName) jdk_52_method_16_code (6 : Nat) (Option.some (Jvm.ClassFile.FieldType.array Jvm.ClassFile.FieldType.byte)), Jvm.Cond.code ({ cls := "java/lang/StringUTF16", name := "compress", desc := "([CI[BII)I" } : Jvm.MethodName) jdk_52_method_21_code (7 : Nat) (Option.some Jvm.ClassFile.FieldType.int), Jvm.Cond.code ({ cls := "java/lang/StringUTF16", name := "coderFromArrayLen", desc := "([BI)B" } : Jvm.MethodName) jdk_52_method_15_code (2 : Nat) (Option.some Jvm.ClassFile.FieldType.byte), Jvm.Cond.code ({ cls := "java/util/ImmutableCollections", name := "listFromArray", desc := "([Ljava/lang/Object;)Ljava/util/List;" } : Jvm.MethodName) jdk_56_method_4_code (3 : Nat) (Option.some (Jvm.ClassFile.FieldType.object "java/util/List")), Jvm.Cond.code ({ cls := "java/util/ImmutableCollections$ListN", name := "<init>", desc := "([Ljava/lang/Object;Z)V" } : Jvm.MethodName) jdk_45_method_1_code (3 : Nat) (Option.none : Option Jvm.ClassFile.FieldType), Jvm.Cond.code ({ cls := "java/util/ImmutableCollections$ListN", name := "get", desc := "(I)Ljava/lang/Object;" } : Jvm.MethodName) jdk_45_method_4_code (2 : Nat) (Option.some (Jvm.ClassFile.FieldType.object "java/lang/Object"))]
set_option maxRecDepth 65536 in
theorem codes_eq : words1.filter isCode = codes1 := rfl
theorem w_codes : ∀ c ∈ words1.filter isCode, c.before args0 about1 = true := by
  rw [codes_eq]
  intro c hc
  simp only [codes1, List.mem_cons, List.not_mem_nil, or_false] at hc
  rcases hc with rfl | rfl | rfl | rfl | rfl | rfl | rfl | rfl | rfl | rfl | rfl | rfl | rfl | rfl | rfl | rfl | rfl | rfl | rfl | rfl | rfl | rfl | rfl | rfl | rfl | rfl | rfl | rfl
  · exact w_c0
  · exact w_c1
  · exact w_c2
  · exact w_c3
  · exact w_c4
  · exact w_c5
  · exact w_c6
  · exact w_c7
  · exact w_c8
  · exact w_c9
  · exact w_c10
  · exact w_c11
  · exact w_c12
  · exact w_c13
  · exact w_c14
  · exact w_c15
  · exact w_c16
  · exact w_c17
  · exact w_c18
  · exact w_c19
  · exact w_c20
  · exact w_c21
  · exact w_c22
  · exact w_c23
  · exact w_c24
  · exact w_c25
  · exact w_c26
  · exact w_c27
set_option maxRecDepth 65536 in
theorem w_t1 : (words1.take 24).all (fun c => isCode c || c.before args0 about1) = true := by decide +kernel
set_option maxRecDepth 65536 in
theorem w_t2 : ((words1.drop 24).take 24).all (fun c => isCode c || c.before args0 about1) = true := by decide +kernel
set_option maxRecDepth 65536 in
theorem w_t3 : (((words1.drop 24).drop 24).take 24).all (fun c => isCode c || c.before args0 about1) = true := by decide +kernel
set_option maxRecDepth 65536 in
theorem w_t4 : ((((words1.drop 24).drop 24).drop 24).take 24).all (fun c => isCode c || c.before args0 about1) = true := by decide +kernel
set_option maxRecDepth 65536 in
theorem w_t5 : (((((words1.drop 24).drop 24).drop 24).drop 24).take 24).all (fun c => isCode c || c.before args0 about1) = true := by decide +kernel
set_option maxRecDepth 65536 in
theorem w_t6 : ((((((words1.drop 24).drop 24).drop 24).drop 24).drop 24).take 24).all (fun c => isCode c || c.before args0 about1) = true := by decide +kernel
set_option maxRecDepth 65536 in
theorem w_t7 : ((((((words1.drop 24).drop 24).drop 24).drop 24).drop 24).drop 24).all (fun c => isCode c || c.before args0 about1) = true := by decide +kernel
theorem w_tables : (allAtoms (Jvm.Cond.code x code maxLocals ret :: tables_1)).before args0 about1 = true := by
  rw [allAtoms_all]
  show words1.all (fun c => c.before args0 about1) = true
  refine all_split ?_ w_codes
  rw [← List.take_append_drop 24 words1, List.all_append, w_t1, ← List.take_append_drop 24 (words1.drop 24), List.all_append, w_t2, ← List.take_append_drop 24 ((words1.drop 24).drop 24), List.all_append, w_t3, ← List.take_append_drop 24 (((words1.drop 24).drop 24).drop 24), List.all_append, w_t4, ← List.take_append_drop 24 ((((words1.drop 24).drop 24).drop 24).drop 24), List.all_append, w_t5, ← List.take_append_drop 24 (((((words1.drop 24).drop 24).drop 24).drop 24).drop 24), List.all_append, w_t6, w_t7]
  rfl
set_option maxRecDepth 65536 in
theorem w_rest : rest_1_c.before args0 about1 = true := by decide +kernel
set_option maxRecDepth 65536 in
theorem w_case : (Jvm.Cond.and given_1 narrow_1).before args0 about1 = true := by decide +kernel
set_option maxRecDepth 65536 in
theorem w_consts : constsHeld consts_1 about1 := Jvm.Lit.constsHeldB_iff.mp (by decide +kernel)
theorem w_applies : (headSpec (Jvm.Cond.code x code maxLocals ret :: tables_1) room_1).applies x e0.platform about1 = true :=
  (Spec.applies_iff w_frames).mpr ⟨w_running, w_runnable, w_alone, w_named, w_hears, w_ripe, w_room, w_tables⟩
theorem atStart : AtStart classFile x code maxLocals ret World_1 tables_1 room_1 Calls_1 rest_1 Pre_1 launch0 p0 e0 about1 theMethod args0 below0 :=
  ⟨lists_1, trivial, launch0.admits_env _ _ _, launch0.least_env, fairChoices_fair.cas, fairChoices_fair.clock, w_frames, w_args, w_heap, w_applies, ⟨w_consts, trivial⟩, w_rest, w_case⟩
end start1
theorem witness_1 : WitnessClaimed_1 := ⟨start1.p0, start1.e0, start1.about1, start1.theMethod, start1.args0, start1.below0, start1.atStart⟩
end Jvm.Pilot.@@N@@
