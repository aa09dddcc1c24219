import JvmDerived
import JvmDerived.Pilot.@@N@@Statement
import JvmDerived.Pilot.@@N@@Code
set_option linter.unusedVariables false
set_option linter.unusedSimpArgs false
/- laws to paste: Road.backV, Road.lenW, Road.chN, Road.codOf (cut by pick.py; bodies as the Statement names them) -/
namespace Jvm.Pilot.@@N@@
namespace StrChars
open Jvm Sem ClassFile Op Lib Jvm.Stand Jvm.Free.XT Jvm.Free.ALB Jvm.Free.JM Jvm.Free
open Jvm.Lib.Cold (StaticIs)
/-- a char array whose places are chars -/
def Ch (a : Addr) (A : Cell) (U : State) : Prop := Arr .char a A U ∧ Typed .char A
theorem Ch.mv {a : Addr} {A : Cell} {U U' : State} (h : Ch a A U) (hal : U.vm.Alike U'.vm) (hh : U'.heap = U.heap) : Ch a A U' := ⟨h.1.mv hal hh, h.2⟩
theorem Ch.keep {a : Addr} {A : Cell} {U U' : State} (h : Ch a A U) (hal : U.vm.Alike U'.vm) (hk : U'.heap[a]? = some A) : Ch a A U' := ⟨h.1.keep hal hk, h.2⟩
/-- what place i of a char[]'s cell holds -/
def cv (A : Cell) (i : Nat) : Int32 := match A.slots[i]? with | some (.int x) => x | _ => 0
theorem Ch.get {a : Addr} {A : Cell} {U : State} (h : Ch a A U) {i : Nat} (hi : i < A.slots.size) : A.slots[i]? = some (.int (cv A i)) := by
  have e := Array.getElem?_eq_getElem hi
  have f := h.2 i _ e
  unfold cv; rw [e]
  generalize A.slots[i] = v at f
  cases v <;> simp [fits] at f ⊢
/-- the byte that i2b leaves of a char -/
def lo8 (x : Int32) : Int32 := x.toInt8.toInt32
theorem fits_lo8 (y : Int32) : fits .byte (.int (lo8 y)) = true := by
  have h1 := y.toInt8.le_toInt
  have h2 := y.toInt8.toInt_lt
  simp only [lo8, fits, Bool.and_eq_true, decide_eq_true_eq, Int32.le_iff_toInt_le, Int8.toInt_toInt32, show (-128 : Int32).toInt = -128 from by decide, show (127 : Int32).toInt = 127 from by decide]
  omega
/-- A' is A but that each place j of lo .. hi - 1 holds f j -/
def Laid (A A' : Cell) (lo hi : Nat) (f : Nat → Value) : Prop := A'.cls = A.cls ∧ A'.vm = A.vm ∧ A'.slots.size = A.slots.size ∧ ∀ i, A'.slots[i]? = if lo ≤ i ∧ i < hi then some (f i) else A.slots[i]?
theorem Laid.zero (A : Cell) (lo : Nat) (f : Nat → Value) : Laid A A lo (lo + 0) f := ⟨rfl, rfl, rfl, fun i => by rw [if_neg (by omega)]⟩
theorem Laid.step {A Ak : Cell} {lo k : Nat} {f : Nat → Value} {v : Value} (h : Laid A Ak lo k f) (hlo : lo ≤ k) (hk : k < Ak.slots.size) (hv : v = f k) : Laid A (Ak.setSlot k v) lo (k + 1) f := by
  refine ⟨h.1, h.2.1, by simpa [Cell.setSlot] using h.2.2.1, fun i => ?_⟩
  by_cases e : k = i
  · subst e; rw [Cell.slots_setSlot_self v hk, if_pos (by omega), hv]
  · rw [Cell.slots_setSlot_ne v e, h.2.2.2 i]
    by_cases q : lo ≤ i ∧ i < k
    · rw [if_pos q, if_pos (by omega)]
    · rw [if_neg q, if_neg (by omega)]
def U16 : String := "java/lang/StringUTF16"
namespace Cmp5
def yN : MethodName := ⟨"java/lang/StringUTF16", "compress", "([CI[BII)I"⟩
abbrev yB : ByteArray := jdk_52_method_21_code
theorem d0 : decode yB 0 = .ok (.iconst 0, 1) := by decide +kernel
theorem d1 : decode yB 1 = .ok (.istore 5, 2) := by decide +kernel
theorem d3 : decode yB 3 = .ok (.iload 5, 2) := by decide +kernel
theorem d5 : decode yB 5 = .ok (.iload 4, 2) := by decide +kernel
theorem d7 : decode yB 7 = .ok (.if_icmp (.ge) 37, 3) := by decide +kernel
theorem d10 : decode yB 10 = .ok (.aload_n 0, 1) := by decide +kernel
theorem d11 : decode yB 11 = .ok (.iload_n 1, 1) := by decide +kernel
theorem d12 : decode yB 12 = .ok (.caload, 1) := by decide +kernel
theorem d13 : decode yB 13 = .ok (.istore 6, 2) := by decide +kernel
theorem d15 : decode yB 15 = .ok (.iload 6, 2) := by decide +kernel
theorem d17 : decode yB 17 = .ok (.sipush 255, 3) := by decide +kernel
theorem d20 : decode yB 20 = .ok (.if_icmp (.le) 6, 3) := by decide +kernel
theorem d26 : decode yB 26 = .ok (.aload_n 2, 1) := by decide +kernel
theorem d27 : decode yB 27 = .ok (.iload_n 3, 1) := by decide +kernel
theorem d28 : decode yB 28 = .ok (.iload 6, 2) := by decide +kernel
theorem d30 : decode yB 30 = .ok (.i2b, 1) := by decide +kernel
theorem d31 : decode yB 31 = .ok (.bastore, 1) := by decide +kernel
theorem d32 : decode yB 32 = .ok (.iinc 1 1, 3) := by decide +kernel
theorem d35 : decode yB 35 = .ok (.iinc 3 1, 3) := by decide +kernel
theorem d38 : decode yB 38 = .ok (.iinc 5 1, 3) := by decide +kernel
theorem d41 : decode yB 41 = .ok (.goto (-38), 3) := by decide +kernel
theorem d44 : decode yB 44 = .ok (.iload 4, 2) := by decide +kernel
theorem d46 : decode yB 46 = .ok (.ireturn, 1) := by decide +kernel
def site : List Cond := []
def tab : Cond := tabOf yN yB 7 (some .int) site
def P (b : Addr) (A : Cell) (d : Addr) (B : Cell) (o q len : Nat) (args : Array Value) (s : State) : Prop := args = #[.ref b, .int (Int32.ofNat o), .ref d, .int (Int32.ofNat q), .int (Int32.ofNat len)] ∧ Ch b A s ∧ Arr .byte d B s ∧ b ≠ d ∧ o + len ≤ A.slots.size ∧ q + len ≤ B.slots.size ∧ ∀ i, i < len → ¬ 255 < cv A (o + i)
def E (b : Addr) (A : Cell) (d : Addr) (B : Cell) (o q len : Nat) (r : Option Value) (s u : State) : Prop := r = some (.int (Int32.ofNat len)) ∧ ∃ B', Put d B' s u ∧ Laid B B' q (q + len) (fun j => Value.int (lo8 (cv A (o + (j - q)))))
/-- no char of the range above 255: len; the places written hold each char's low byte -/
theorem law (l : Launch) (b : Addr) (A : Cell) (d : Addr) (B : Cell) (o q len : Nat) : Law l yN 5 5 0 0 yB 7 (some .int) site (P b A d B o q len) (E b A d B o q len) (copyLocs d q len) 0 0 := by
  refine Law.of_walk (plainFor_of_name (by decide +kernel)) (by decide +kernel) (by decide +kernel) (by decide) (fun _ _ h => by rw [h.1]; rfl) (fun _ U U' hal hh h => ⟨h.1, h.2.1.mv hal hh, h.2.2.1.mv hal hh, h.2.2.2⟩) (fun r U U' V V' h1 hal h2 h => ⟨h.1, h.2.elim fun B' q => ⟨B', q.1.mv h1 h2, q.2⟩⟩) ?_
  intro p e s m args below meth c s₁ X0 hexec hbytes hml hret hlk hnm hown hh0 W hP
  obtain ⟨rfl, hA, hB, hne, l1, l2, hp⟩ := hP
  have c1 : Steps p.tables e below (s₁.setTop (entryFrame m #[.ref b, .int (Int32.ofNat o), .ref d, .int (Int32.ofNat q), .int (Int32.ofNat len)] 7)) (s₁.setTop (mkF m 0 #[.val (.ref b), .val (.int (Int32.ofNat o)), .val (.ref d), .val (.int (Int32.ofNat q)), .val (.int (Int32.ofNat len)), .unset, .unset] [])) := entry rfl
  have hA0 := hA.1.mv X0.warmed.alike hh0
  have hB0 := hB.mv X0.warmed.alike hh0
  have a31 := hA.1.2.2.2
  have c2 : Steps p.tables e below (s₁.setTop (entryFrame m #[.ref b, .int (Int32.ofNat o), .ref d, .int (Int32.ofNat q), .int (Int32.ofNat len)] 7)) (s₁.setTop (mkF m 3 #[.val (.ref b), .val (.int (Int32.ofNat o)), .val (.ref d), .val (.int (Int32.ofNat q)), .val (.int (Int32.ofNat len)), .val (.int 0), .unset] [])) := c1.trans (by
    refine iconstV X0.here hexec rfl 0 (hb hbytes d0) (by decide) ?_
    refine XS.istore X0.here hexec rfl (hb hbytes d1) rfl rfl ?_
    exact Steps.refl _)
  have loop : ∀ (r i : Nat), i + r = len → ∀ (z : Slot), (z = .unset ∨ ∃ w, z = .val w ∧ w.category = 1) → ∀ (Tl : State) (Bk : Cell), Stand p l e { frames := 0, locals := 0, cells := 0, slots := 0 } s m #[.ref b, .int (Int32.ofNat o), .ref d, .int (Int32.ofNat q), .int (Int32.ofNat len)] below meth c Tl ([] ++ copyLocs d q i) 0 0 → Put d Bk s₁ Tl → Laid B Bk q (q + i) (fun j => Value.int (lo8 (cv A (o + (j - q))))) →
      Steps p.tables e below (s₁.setTop (entryFrame m #[.ref b, .int (Int32.ofNat o), .ref d, .int (Int32.ofNat q), .int (Int32.ofNat len)] 7)) (Tl.setTop (mkF m 3 #[.val (.ref b), .val (.int (Int32.ofNat (o + i))), .val (.ref d), .val (.int (Int32.ofNat (q + i))), .val (.int (Int32.ofNat len)), .val (.int (Int32.ofNat i)), z] [])) → ∃ (T' : State) (B' : Cell) (z' : Slot), Stand p l e { frames := 0, locals := 0, cells := 0, slots := 0 } s m #[.ref b, .int (Int32.ofNat o), .ref d, .int (Int32.ofNat q), .int (Int32.ofNat len)] below meth c T' ([] ++ copyLocs d q len) 0 0 ∧ Put d B' s₁ T' ∧ Laid B B' q (q + len) (fun j => Value.int (lo8 (cv A (o + (j - q))))) ∧
      Steps p.tables e below (s₁.setTop (entryFrame m #[.ref b, .int (Int32.ofNat o), .ref d, .int (Int32.ofNat q), .int (Int32.ofNat len)] 7)) (T'.setTop (mkF m 3 #[.val (.ref b), .val (.int (Int32.ofNat (o + len))), .val (.ref d), .val (.int (Int32.ofNat (q + len))), .val (.int (Int32.ofNat len)), .val (.int (Int32.ofNat len)), z'] [])) := by
    intro r
    induction r with
    | zero =>
      intro i hi z hz Tl Bk Xl pl fl cl
      have hil : i = len := by omega
      rw [hil] at Xl fl cl
      exact ⟨Tl, Bk, z, Xl, pl, fl, cl⟩
    | succ r ih =>
      intro i hi z hz Tl Bk Xl pl fl cl
      have all := X0.warmed.alike.symm.trans Xl.warmed.alike
      have hAl := hA0.keep all (pl.other hne hA0.1)
      have hBk := hB0.like all pl.1 fl.1 fl.2.1 fl.2.2.1
      have hlt : q + i < Bk.slots.size := by rw [fl.2.2.1]; omega
      have c3 : Steps p.tables e below (s₁.setTop (entryFrame m #[.ref b, .int (Int32.ofNat o), .ref d, .int (Int32.ofNat q), .int (Int32.ofNat len)] 7)) (Tl.setTop (mkF m 12 #[.val (.ref b), .val (.int (Int32.ofNat (o + i))), .val (.ref d), .val (.int (Int32.ofNat (q + i))), .val (.int (Int32.ofNat len)), .val (.int (Int32.ofNat i)), z] [.int (Int32.ofNat (o + i)), .ref b])) := cl.trans (by
        refine XS.iload Xl.here hexec rfl (hb hbytes d3) rfl ?_
        refine XS.iload Xl.here hexec rfl (hb hbytes d5) rfl ?_
        refine XS.icmpNo Xl.here hexec rfl (hb hbytes d7) rfl (ii_ge_f (lt32 (by omega) (by omega))) ?_
        refine XS.aloadN Xl.here hexec rfl (hb hbytes d10) rfl rfl ?_
        refine XS.iloadN Xl.here hexec rfl (hb hbytes d11) rfl ?_
        exact Steps.refl _)
      have c4 : Steps p.tables e below (s₁.setTop (entryFrame m #[.ref b, .int (Int32.ofNat o), .ref d, .int (Int32.ofNat q), .int (Int32.ofNat len)] 7)) (Tl.setTop (mkF m 13 #[.val (.ref b), .val (.int (Int32.ofNat (o + i))), .val (.ref d), .val (.int (Int32.ofNat (q + i))), .val (.int (Int32.ofNat len)), .val (.int (Int32.ofNat i)), z] [.int (cv A (o + i))])) := c3.trans (by
        refine Xl.aget hexec hAl rfl (hA.get (i := o + i) (by omega)) rfl rfl (hb hbytes d12) ?_
        exact Steps.refl _)
      have c5 : Steps p.tables e below (s₁.setTop (entryFrame m #[.ref b, .int (Int32.ofNat o), .ref d, .int (Int32.ofNat q), .int (Int32.ofNat len)] 7)) (Tl.setTop (mkF m 15 #[.val (.ref b), .val (.int (Int32.ofNat (o + i))), .val (.ref d), .val (.int (Int32.ofNat (q + i))), .val (.int (Int32.ofNat len)), .val (.int (Int32.ofNat i)), .val (.int (cv A (o + i)))] [])) := c4.trans (by
        refine XS.istoreS Xl.here hexec rfl (hb hbytes d13) rfl rfl hz ?_
        exact Steps.refl _)
      have c6 : Steps p.tables e below (s₁.setTop (entryFrame m #[.ref b, .int (Int32.ofNat o), .ref d, .int (Int32.ofNat q), .int (Int32.ofNat len)] 7)) (Tl.setTop (mkF m 31 #[.val (.ref b), .val (.int (Int32.ofNat (o + i))), .val (.ref d), .val (.int (Int32.ofNat (q + i))), .val (.int (Int32.ofNat len)), .val (.int (Int32.ofNat i)), .val (.int (cv A (o + i)))] [.int (lo8 (cv A (o + i))), .int (Int32.ofNat (q + i)), .ref d])) := c5.trans (by
        refine XS.iload Xl.here hexec rfl (hb hbytes d15) rfl ?_
        refine sipushV Xl.here hexec rfl 255 (hb hbytes d17) (by decide) ?_
        refine XS.icmpYes Xl.here hexec rfl (pc0 := 20) rfl (hb hbytes d20) rfl (ii_le_t (hp i (by omega))) (by decide) rfl ?_
        refine XS.aloadN Xl.here hexec rfl (hb hbytes d26) rfl rfl ?_
        refine XS.iloadN Xl.here hexec rfl (hb hbytes d27) rfl ?_
        refine XS.iload Xl.here hexec rfl (hb hbytes d28) rfl ?_
        refine i2b Xl.here hexec rfl (hb hbytes d30) rfl ?_
        exact Steps.refl _)
      obtain ⟨T7, X7, p7, st7⟩ := Xl.aput hexec hBk rfl hlt rfl (fits_lo8 (cv A (o + i))) (g := (mkF m 31 #[.val (.ref b), .val (.int (Int32.ofNat (o + i))), .val (.ref d), .val (.int (Int32.ofNat (q + i))), .val (.int (Int32.ofNat len)), .val (.int (Int32.ofNat i)), .val (.int (cv A (o + i)))] [.int (lo8 (cv A (o + i))), .int (Int32.ofNat (q + i)), .ref d])) rfl (rest := []) rfl (hb hbytes d31)
      have c8 : Steps p.tables e below (s₁.setTop (entryFrame m #[.ref b, .int (Int32.ofNat o), .ref d, .int (Int32.ofNat q), .int (Int32.ofNat len)] 7)) (T7.setTop (mkF m 32 #[.val (.ref b), .val (.int (Int32.ofNat (o + i))), .val (.ref d), .val (.int (Int32.ofNat (q + i))), .val (.int (Int32.ofNat len)), .val (.int (Int32.ofNat i)), .val (.int (cv A (o + i)))] [])) := c6.trans (st7 _ (Steps.refl _))
      have c9 : Steps p.tables e below (s₁.setTop (entryFrame m #[.ref b, .int (Int32.ofNat o), .ref d, .int (Int32.ofNat q), .int (Int32.ofNat len)] 7)) (T7.setTop (mkF m 3 #[.val (.ref b), .val (.int (Int32.ofNat (o + i) + 1)), .val (.ref d), .val (.int (Int32.ofNat (q + i) + 1)), .val (.int (Int32.ofNat len)), .val (.int (Int32.ofNat i + 1)), .val (.int (cv A (o + i)))] [])) := c8.trans (by
        refine iincV X7.here hexec rfl 1 (hb hbytes d32) (by decide) rfl rfl ?_
        refine iincV X7.here hexec rfl 1 (hb hbytes d35) (by decide) rfl rfl ?_
        refine iincV X7.here hexec rfl 1 (hb hbytes d38) (by decide) rfl rfl ?_
        refine XS.goto X7.here hexec rfl (pc0 := 41) rfl (hb hbytes d41) (by decide) rfl ?_
        exact Steps.refl _)
      have c10 : Steps p.tables e below (s₁.setTop (entryFrame m #[.ref b, .int (Int32.ofNat o), .ref d, .int (Int32.ofNat q), .int (Int32.ofNat len)] 7)) (T7.setTop (mkF m 3 #[.val (.ref b), .val (.int (Int32.ofNat (o + (i + 1)))), .val (.ref d), .val (.int (Int32.ofNat (q + (i + 1)))), .val (.int (Int32.ofNat len)), .val (.int (Int32.ofNat (i + 1))), .val (.int (cv A (o + i)))] [])) := by
        have := c9
        rw [succ32, succ32, succ32] at this
        exact this
      exact ih (i + 1) (by omega) _ (Or.inr ⟨_, rfl, rfl⟩) T7 _ (by rw [copyLocs_step, ← List.append_assoc]; exact X7) (pl.trans p7) (fl.step (by omega) hlt (by simp)) c10
  obtain ⟨T9, B9, z9, X9, p9, f9, g9⟩ := loop len 0 (by omega) .unset (Or.inl rfl) s₁ B (by simpa [copyLocs] using X0) ⟨hB0.1, fun _ _ => rfl, rfl⟩ (Laid.zero _ _ _) c2
  have c11 : Steps p.tables e below (s₁.setTop (entryFrame m #[.ref b, .int (Int32.ofNat o), .ref d, .int (Int32.ofNat q), .int (Int32.ofNat len)] 7)) (T9.setTop (mkF m 46 #[.val (.ref b), .val (.int (Int32.ofNat (o + len))), .val (.ref d), .val (.int (Int32.ofNat (q + len))), .val (.int (Int32.ofNat len)), .val (.int (Int32.ofNat len)), z9] [.int (Int32.ofNat len)])) := g9.trans (by
    refine XS.iload X9.here hexec rfl (hb hbytes d3) rfl ?_
    refine XS.iload X9.here hexec rfl (hb hbytes d5) rfl ?_
    refine XS.icmpYes X9.here hexec rfl (pc0 := 7) rfl (hb hbytes d7) rfl (ii_ge_t (nlt32 (by omega) (Nat.le_refl _))) (by decide) rfl ?_
    refine XS.iload X9.here hexec rfl (hb hbytes d44) rfl ?_
    exact Steps.refl _)
  exact ⟨T9, some (.int (Int32.ofNat len)), _, _, _, X9, by simp, rfl, rfl, (fun h => by cases h), ⟨rfl, B9, p9.from hh0, f9⟩, fun fs hl => c11.trans (X9.ireturnOut hexec hret rfl (Or.inl rfl) (hb hbytes d46) hl)⟩
end Cmp5
namespace Cmp3
def yN : MethodName := ⟨"java/lang/StringUTF16", "compress", "([CII)[B"⟩
abbrev yB : ByteArray := jdk_52_method_16_code
theorem d0 : decode yB 0 = .ok (.iload_n 2, 1) := by decide +kernel
theorem d1 : decode yB 1 = .ok (.newarray .byte, 2) := by decide +kernel
theorem d3 : decode yB 3 = .ok (.astore_n 3, 1) := by decide +kernel
theorem d4 : decode yB 4 = .ok (.aload_n 0, 1) := by decide +kernel
theorem d5 : decode yB 5 = .ok (.iload_n 1, 1) := by decide +kernel
theorem d6 : decode yB 6 = .ok (.aload_n 3, 1) := by decide +kernel
theorem d7 : decode yB 7 = .ok (.iconst 0, 1) := by decide +kernel
theorem d8 : decode yB 8 = .ok (.iload_n 2, 1) := by decide +kernel
theorem d9 : decode yB 9 = .ok (.invokestatic 115, 3) := by decide +kernel
theorem d12 : decode yB 12 = .ok (.istore 4, 2) := by decide +kernel
theorem d14 : decode yB 14 = .ok (.iload 4, 2) := by decide +kernel
theorem d16 : decode yB 16 = .ok (.iload_n 2, 1) := by decide +kernel
theorem d17 : decode yB 17 = .ok (.if_icmp (.eq) 40, 3) := by decide +kernel
theorem d57 : decode yB 57 = .ok (.aload_n 3, 1) := by decide +kernel
theorem d58 : decode yB 58 = .ok (.areturn, 1) := by decide +kernel
def site : List Cond := [.arrayClass .byte, Cmp5.tab] ++ staticW U16 115 Cmp5.yN
def tab : Cond := tabOf yN yB 6 (some (.array .byte)) site
def P (b : Addr) (A : Cell) (o len : Nat) (args : Array Value) (s : State) : Prop := args = #[.ref b, .int (Int32.ofNat o), .int (Int32.ofNat len)] ∧ Ch b A s ∧ o + len ≤ A.slots.size ∧ len ≤ 536870912 ∧ ∀ i, i < len → ¬ 255 < cv A (o + i)
def E (b : Addr) (A : Cell) (o len : Nat) (r : Option Value) (s u : State) : Prop := NewArr .byte "[B" len (fun j => .int (lo8 (cv A (o + j)))) r s u ∧ u.heap.size = s.heap.size + 1
/-- no char of the range above 255: a new byte[] of their low bytes -/
theorem law (l : Launch) (b : Addr) (A : Cell) (o len : Nat) : Law l yN 3 3 1 18 yB 6 (some (.array .byte)) site (P b A o len) (E b A o len) [] 1 len := by
  refine Law.of_walk (plainFor_of_name (by decide +kernel)) (by decide +kernel) (by decide +kernel) (by decide) (fun _ _ h => by rw [h.1]; rfl) (fun _ U U' hal hh h => ⟨h.1, h.2.1.mv hal hh, h.2.2⟩) (fun r U U' V V' h1 hal h2 h => ⟨NewArr.mv r U U' V V' h1 hal h2 h.1, by rw [h1, h2]; exact h.2⟩) ?_
  intro p e s m args below meth c s₁ X0 hexec hbytes hml hret hlk hnm hown hh0 W hP
  obtain ⟨rfl, hA, l1, l2, hp⟩ := hP
  have a31 := hA.1.2.2.2
  have c1 : Steps p.tables e below (s₁.setTop (entryFrame m #[.ref b, .int (Int32.ofNat o), .int (Int32.ofNat len)] 6)) (s₁.setTop (mkF m 0 #[.val (.ref b), .val (.int (Int32.ofNat o)), .val (.int (Int32.ofNat len)), .unset, .unset, .unset] [])) := entry rfl
  have c2 : Steps p.tables e below (s₁.setTop (entryFrame m #[.ref b, .int (Int32.ofNat o), .int (Int32.ofNat len)] 6)) (s₁.setTop (mkF m 1 #[.val (.ref b), .val (.int (Int32.ofNat o)), .val (.int (Int32.ofNat len)), .unset, .unset, .unset] [.int (Int32.ofNat len)])) := c1.trans (by
    refine XS.iloadN X0.here hexec rfl (hb hbytes d0) rfl ?_
    exact Steps.refl _)
  obtain ⟨T3, B3, X3, ba3, bs3, bv3, bh3, bf3, st3⟩ := X0.anew hexec (atype := .byte) (wk W (.arrayClass .byte)) rfl (by show len * 1 ≤ _; omega) (by omega) (g := (mkF m 1 #[.val (.ref b), .val (.int (Int32.ofNat o)), .val (.int (Int32.ofNat len)), .unset, .unset, .unset] [.int (Int32.ofNat len)])) rfl (hb hbytes d1) (rest := []) rfl (Nat.le_refl _) (by show 0 + len ≤ len; omega)
  rw [hh0] at ba3 st3
  have kp3 : XT.Kept s T3 := (XT.Kept.of_eq hh0).push bh3
  have hA3 := hA.keep X3.warmed.alike (kp3 _ _ hA.1.1)
  have hne : b ≠ s.heap.size := hA.1.ne
  have c4 : Steps p.tables e below (s₁.setTop (entryFrame m #[.ref b, .int (Int32.ofNat o), .int (Int32.ofNat len)] 6)) (T3.setTop (mkF m 3 #[.val (.ref b), .val (.int (Int32.ofNat o)), .val (.int (Int32.ofNat len)), .unset, .unset, .unset] [.ref s.heap.size])) := c2.trans (st3 _ (Steps.refl _))
  have c5 : Steps p.tables e below (s₁.setTop (entryFrame m #[.ref b, .int (Int32.ofNat o), .int (Int32.ofNat len)] 6)) (T3.setTop (mkF m 9 #[.val (.ref b), .val (.int (Int32.ofNat o)), .val (.int (Int32.ofNat len)), .val (.ref s.heap.size), .unset, .unset] [.int (Int32.ofNat len), .int 0, .ref s.heap.size, .int (Int32.ofNat o), .ref b])) := c4.trans (by
    refine XS.astoreN X3.here hexec rfl (hb hbytes d3) rfl rfl rfl ?_
    refine XS.aloadN X3.here hexec rfl (hb hbytes d4) rfl rfl ?_
    refine XS.iloadN X3.here hexec rfl (hb hbytes d5) rfl ?_
    refine XS.aloadN X3.here hexec rfl (hb hbytes d6) rfl rfl ?_
    refine iconstV X3.here hexec rfl 0 (hb hbytes d7) (by decide) ?_
    refine XS.iloadN X3.here hexec rfl (hb hbytes d8) rfl ?_
    exact Steps.refl _)
  obtain ⟨v6, T6, X6, E6, g6⟩ := X3.callS hexec (Cmp5.law l b A s.heap.size B3 o 0 len) hown (wks W (staticW U16 115 Cmp5.yN)) (wk W Cmp5.tab) (W := 0) (Nat.le_of_ble_eq_true rfl) (Nat.le_of_ble_eq_true rfl) (Nat.le_refl _) (by show 0 + len + 0 ≤ len; omega) (g := (mkF m 9 #[.val (.ref b), .val (.int (Int32.ofNat o)), .val (.int (Int32.ofNat len)), .val (.ref s.heap.size), .unset, .unset] [.int (Int32.ofNat len), .int (Int32.ofNat 0), .ref s.heap.size, .int (Int32.ofNat o), .ref b])) rfl (by rw [hml]; rfl) c5 (argsL := [.ref b, .int (Int32.ofNat o), .ref s.heap.size, .int (Int32.ofNat 0), .int (Int32.ofNat len)]) (rest := []) rfl rfl (by show 2 * 0 + 0 ≤ _; decide) (hb hbytes d9) (⟨rfl, hA3, ba3, hne, l1, by rw [bs3]; simp, hp⟩)
  obtain ⟨rfl, B6, p6, f6⟩ := E6
  have c7 : Steps p.tables e below (s₁.setTop (entryFrame m #[.ref b, .int (Int32.ofNat o), .int (Int32.ofNat len)] 6)) (T6.setTop (mkF m 12 #[.val (.ref b), .val (.int (Int32.ofNat o)), .val (.int (Int32.ofNat len)), .val (.ref s.heap.size), .unset, .unset] [.int (Int32.ofNat len)])) := g6
  have c8 : Steps p.tables e below (s₁.setTop (entryFrame m #[.ref b, .int (Int32.ofNat o), .int (Int32.ofNat len)] 6)) (T6.setTop (mkF m 58 #[.val (.ref b), .val (.int (Int32.ofNat o)), .val (.int (Int32.ofNat len)), .val (.ref s.heap.size), .val (.int (Int32.ofNat len)), .unset] [.ref s.heap.size])) := c7.trans (by
    refine XS.istore X6.here hexec rfl (hb hbytes d12) rfl rfl ?_
    refine XS.iload X6.here hexec rfl (hb hbytes d14) rfl ?_
    refine XS.iloadN X6.here hexec rfl (hb hbytes d16) rfl ?_
    refine XS.icmpYes X6.here hexec rfl (pc0 := 17) rfl (hb hbytes d17) rfl (ii_eq_t rfl) (by decide) rfl ?_
    refine XS.aloadN X6.here hexec rfl (hb hbytes d57) rfl rfl ?_
    exact Steps.refl _)
  have X8 := X6.wide (L' := []) (cells' := 1) (slots' := len) (fun x hx hlt => by
    simp only [List.nil_append, copyLocs, List.mem_map, List.mem_range] at hx
    obtain ⟨i, -, rfl⟩ := hx
    exact absurd hlt (Nat.lt_irrefl _)) (Nat.le_refl _) (by omega)
  exact ⟨T6, some (.ref s.heap.size), _, _, _, X8, rfl, rfl, rfl, (fun h => by cases h), ⟨⟨rfl, B6, ba3.like (X3.warmed.alike.symm.trans X6.warmed.alike) p6.1 f6.1 f6.2.1 f6.2.2.1, f6.2.1.trans bv3, by rw [X6.warmed.alike.findClass, f6.1]; exact bf3, by rw [f6.2.2.1, bs3]; simp, fun j hj => by rw [f6.2.2.2 j, if_pos (by omega)]; rfl, kp3.put p6 (Nat.le_refl _)⟩, by rw [p6.2.2, bh3, hh0]; simp⟩, fun fs hl => c8.trans (X8.areturnOut hexec rfl hret rfl (hb hbytes d58) hl)⟩
end Cmp3
namespace CodL
def yN : MethodName := ⟨"java/lang/StringUTF16", "coderFromArrayLen", "([BI)B"⟩
abbrev yB : ByteArray := jdk_52_method_15_code
theorem d0 : decode yB 0 = .ok (.iload_n 1, 1) := by decide +kernel
theorem d1 : decode yB 1 = .ok (.aload_n 0, 1) := by decide +kernel
theorem d2 : decode yB 2 = .ok (.arraylength, 1) := by decide +kernel
theorem d3 : decode yB 3 = .ok (.isub, 1) := by decide +kernel
theorem d4 : decode yB 4 = .ok (.bipush 31, 2) := by decide +kernel
theorem d6 : decode yB 6 = .ok (.iushr, 1) := by decide +kernel
theorem d7 : decode yB 7 = .ok (.i2b, 1) := by decide +kernel
theorem d8 : decode yB 8 = .ok (.ireturn, 1) := by decide +kernel
def site : List Cond := []
def tab : Cond := tabOf yN yB 2 (some .byte) site
def P (d : Addr) (B : Cell) (args : Array Value) (s : State) : Prop := args = #[.ref d, .int (Int32.ofNat B.slots.size)] ∧ Arr .byte d B s
def E (r : Option Value) (s u : State) : Prop := XT.PureE (some (.int 0)) r s u
/-- an array as long as the number of chars: LATIN1 -/
theorem law (l : Launch) (d : Addr) (B : Cell) : Law l yN 2 2 0 0 yB 2 (some .byte) site (P d B) E [] 0 0 := by
  refine Law.of_walk (plainFor_of_name (by decide +kernel)) (by decide +kernel) (by decide +kernel) (by decide) (fun _ _ h => by rw [h.1]; rfl) (fun _ U U' hal hh h => ⟨h.1, h.2.mv hal hh⟩) (fun r U U' V V' h1 hal h2 h => XT.PureE.mv r U U' V V' h1 hal h2 h) ?_
  intro p e s m args below meth c s₁ X0 hexec hbytes hml hret hlk hnm hown hh0 W hP
  obtain ⟨rfl, hB⟩ := hP
  have hB0 := hB.mv X0.warmed.alike hh0
  have c1 : Steps p.tables e below (s₁.setTop (entryFrame m #[.ref d, .int (Int32.ofNat B.slots.size)] 2)) (s₁.setTop (mkF m 0 #[.val (.ref d), .val (.int (Int32.ofNat B.slots.size))] [])) := entry rfl
  have c2 : Steps p.tables e below (s₁.setTop (entryFrame m #[.ref d, .int (Int32.ofNat B.slots.size)] 2)) (s₁.setTop (mkF m 2 #[.val (.ref d), .val (.int (Int32.ofNat B.slots.size))] [.ref d, .int (Int32.ofNat B.slots.size)])) := c1.trans (by
    refine XS.iloadN X0.here hexec rfl (hb hbytes d0) rfl ?_
    refine XS.aloadN X0.here hexec rfl (hb hbytes d1) rfl rfl ?_
    exact Steps.refl _)
  have c3 : Steps p.tables e below (s₁.setTop (entryFrame m #[.ref d, .int (Int32.ofNat B.slots.size)] 2)) (s₁.setTop (mkF m 8 #[.val (.ref d), .val (.int (Int32.ofNat B.slots.size))] [.int (lo8 (ushr (Int32.ofNat B.slots.size - Int32.ofNat B.slots.size) 31))])) := c2.trans (by
    refine X0.alen hexec hB0 rfl rfl (hb hbytes d2) ?_
    refine XS.isub X0.here hexec rfl (hb hbytes d3) rfl ?_
    refine bipushV X0.here hexec rfl 31 (hb hbytes d4) (by decide) ?_
    refine iushr X0.here hexec rfl (hb hbytes d6) rfl ?_
    refine i2b X0.here hexec rfl (hb hbytes d7) rfl ?_
    exact Steps.refl _)
  have e0 : lo8 (ushr (Int32.ofNat B.slots.size - Int32.ofNat B.slots.size) 31) = 0 := by rw [Int32.sub_self]; decide
  rw [e0] at c3
  exact ⟨s₁, some (.int 0), _, _, _, X0, rfl, rfl, rfl, (fun h => by cases h), ⟨rfl, hh0⟩, fun fs hl => c3.trans (X0.ireturnOut hexec hret rfl (Or.inr (Or.inr (Or.inl rfl))) (hb hbytes d8) hl)⟩
end CodL
/-- the String at a is Latin-1 over a new byte[] (the heap's one new cell): the low bytes of the len chars of A from o on; every cell but a is kept -/
def Got (a : Addr) (D : Cell) (fV fC : Field) (A : Cell) (o len : Nat) (r : Option Value) (s u : State) : Prop := r = none ∧ ∃ D' V : Cell, Blank "java/lang/String" a D' u ∧ Same D D' [fV.slot, fC.slot] ∧ D'.slots[fV.slot]? = some (.ref s.heap.size) ∧ D'.slots[fC.slot]? = some (.int 0) ∧ Arr .byte s.heap.size V u ∧ V.vm = .none ∧ u.vm.findClass "[B" = some V.cls ∧ V.slots.size = len ∧ (∀ j, j < len → V.slots[j]? = some (.int (lo8 (cv A (o + j))))) ∧ (∀ (y : Addr) (c : Cell), y ≠ a → s.heap[y]? = some c → u.heap[y]? = some c) ∧ u.heap.size = s.heap.size + 1
theorem Got.mv {a : Addr} {D A : Cell} {fV fC : Field} {o len : Nat} : ∀ r (U U' V V' : State), U'.heap = U.heap → V.vm.Alike V'.vm → V'.heap = V.heap → Got a D fV fC A o len r U V → Got a D fV fC A o len r U' V' :=
  fun r U U' V V' h1 hal h2 ⟨e0, D', X, a1, a2, a3, a4, a5, a6, a7, a8, a9, a10, a11⟩ => ⟨e0, D', X, a1.mv hal h2, a2, by rw [h1]; exact a3, a4, by rw [h1]; exact a5.mv hal h2, a6, by rw [hal.findClass]; exact a7, a8, a9, by rw [h1, h2]; exact a10, by rw [h1, h2]; exact a11⟩
namespace New4
def yN : MethodName := ⟨"java/lang/String", "<init>", "([CIILjava/lang/Void;)V"⟩
abbrev yB : ByteArray := jdk_42_method_149_code
theorem d0 : decode yB 0 = .ok (.aload_n 0, 1) := by decide +kernel
theorem d1 : decode yB 1 = .ok (.invokespecial 1, 3) := by decide +kernel
theorem d4 : decode yB 4 = .ok (.iload_n 3, 1) := by decide +kernel
theorem d5 : decode yB 5 = .ok (.ifCond (.ne) 22, 3) := by decide +kernel
theorem d27 : decode yB 27 = .ok (.getstatic 38, 3) := by decide +kernel
theorem d30 : decode yB 30 = .ok (.ifCond (.eq) 28, 3) := by decide +kernel
theorem d33 : decode yB 33 = .ok (.aload_n 1, 1) := by decide +kernel
theorem d34 : decode yB 34 = .ok (.iload_n 2, 1) := by decide +kernel
theorem d35 : decode yB 35 = .ok (.iload_n 3, 1) := by decide +kernel
theorem d36 : decode yB 36 = .ok (.invokestatic 177, 3) := by decide +kernel
theorem d39 : decode yB 39 = .ok (.astore 5, 2) := by decide +kernel
theorem d41 : decode yB 41 = .ok (.aload_n 0, 1) := by decide +kernel
theorem d42 : decode yB 42 = .ok (.aload 5, 2) := by decide +kernel
theorem d44 : decode yB 44 = .ok (.iload_n 3, 1) := by decide +kernel
theorem d45 : decode yB 45 = .ok (.invokestatic 47, 3) := by decide +kernel
theorem d48 : decode yB 48 = .ok (.putfield 15, 3) := by decide +kernel
theorem d51 : decode yB 51 = .ok (.aload_n 0, 1) := by decide +kernel
theorem d52 : decode yB 52 = .ok (.aload 5, 2) := by decide +kernel
theorem d54 : decode yB 54 = .ok (.putfield 9, 3) := by decide +kernel
theorem d57 : decode yB 57 = .ok (.return_, 1) := by decide +kernel
def site : List Cond := [.fieldLink "java/lang/String" 38 "java/lang/String" "COMPACT_STRINGS" "Z", Cmp3.tab, CodL.tab, .laysFinal "java/lang/String" "java/lang/String" "value" "[B", .fieldLink "java/lang/String" 9 "java/lang/String" "value" "[B", .laysFinal "java/lang/String" "java/lang/String" "coder" "B", .fieldLink "java/lang/String" 15 "java/lang/String" "coder" "B"] ++ objW "java/lang/String" 1 ++ staticW "java/lang/String" 177 Cmp3.yN ++ staticW "java/lang/String" 47 CodL.yN
def tab : Cond := tabOf yN yB 6 none site
def P (a : Addr) (D : Cell) (fV fC : Field) (b : Addr) (A : Cell) (z : Int32) (o len : Nat) (args : Array Value) (s : State) : Prop := args = #[.ref a, .ref b, .int (Int32.ofNat o), .int (Int32.ofNat len), .null] ∧ Blank "java/lang/String" a D s ∧ Found "java/lang/String" "value" "[B" fV s ∧ Found "java/lang/String" "coder" "B" fC s ∧ Ch b A s ∧ StaticIs s "java/lang/String" "COMPACT_STRINGS" "Z" (.int z) ∧ ¬ z = 0 ∧ 0 < len ∧ o + len ≤ A.slots.size ∧ len ≤ 536870912 ∧ ∀ i, i < len → ¬ 255 < cv A (o + i)
def E (a : Addr) (D : Cell) (fV fC : Field) (A : Cell) (o len : Nat) (r : Option Value) (s u : State) : Prop := Got a D fV fC A o len r s u
/-- len > 0, no char of the range above 255: a Latin-1 String of their low bytes -/
theorem law (l : Launch) (a : Addr) (D : Cell) (fV fC : Field) (b : Addr) (A : Cell) (z : Int32) (o len : Nat) : Law l yN 5 4 2 35 yB 6 none site (P a D fV fC b A z o len) (E a D fV fC A o len) [⟨a, fC.slot⟩, ⟨a, fV.slot⟩] 1 len := by
  refine Law.of_walk (plainFor_of_name (by decide +kernel)) (by decide +kernel) (by decide +kernel) (by decide) (fun _ _ h => by rw [h.1]; rfl) (fun _ U U' hal hh h => ⟨h.1, h.2.1.mv hal hh, h.2.2.1.al hal, h.2.2.2.1.al hal, h.2.2.2.2.1.mv hal hh, h.2.2.2.2.2.1.there hal hh, h.2.2.2.2.2.2⟩) (fun r U U' V V' h1 hal h2 h => Got.mv r U U' V V' h1 hal h2 h) ?_
  intro p e s m args below meth c s₁ X0 hexec hbytes hml hret hlk hnm hown hh0 W hP
  obtain ⟨rfl, hB, f1, f2, hA, s1, hz, l0, l1, l2, hp⟩ := hP
  have a31 := hA.1.2.2.2
  have c1 : Steps p.tables e below (s₁.setTop (entryFrame m #[.ref a, .ref b, .int (Int32.ofNat o), .int (Int32.ofNat len), .null] 6)) (s₁.setTop (mkF m 0 #[.val (.ref a), .val (.ref b), .val (.int (Int32.ofNat o)), .val (.int (Int32.ofNat len)), .val .null, .unset] [])) := entry rfl
  have c2 : Steps p.tables e below (s₁.setTop (entryFrame m #[.ref a, .ref b, .int (Int32.ofNat o), .int (Int32.ofNat len), .null] 6)) (s₁.setTop (mkF m 1 #[.val (.ref a), .val (.ref b), .val (.int (Int32.ofNat o)), .val (.int (Int32.ofNat len)), .val .null, .unset] [.ref a])) := c1.trans (by
    refine XS.aloadN X0.here hexec rfl (hb hbytes d0) rfl rfl ?_
    exact Steps.refl _)
  obtain ⟨T3, X3, q3, st3⟩ := X0.oinit hexec hown (wks W (objW "java/lang/String" 1)) (g := (mkF m 1 #[.val (.ref a), .val (.ref b), .val (.int (Int32.ofNat o)), .val (.int (Int32.ofNat len)), .val .null, .unset] [.ref a])) rfl (by rw [hml]; rfl) (rest := []) rfl (hb hbytes d1) (W := 0) (by show 2 * 0 + 0 ≤ _; decide) (Nat.le_of_ble_eq_true rfl) (Nat.le_of_ble_eq_true rfl)
  have hh3 := q3.trans hh0
  have c4 : Steps p.tables e below (s₁.setTop (entryFrame m #[.ref a, .ref b, .int (Int32.ofNat o), .int (Int32.ofNat len), .null] 6)) (T3.setTop (mkF m 27 #[.val (.ref a), .val (.ref b), .val (.int (Int32.ofNat o)), .val (.int (Int32.ofNat len)), .val .null, .unset] [])) := (c2.trans (st3 _ (Steps.refl _))).trans (by
    refine XS.iloadN X3.here hexec rfl (hb hbytes d4) rfl ?_
    refine XS.ifYes X3.here hexec rfl (pc0 := 5) rfl (hb hbytes d5) rfl (i0_ne_t (nz32 (by omega) l0)) (by decide) rfl ?_
    exact Steps.refl _)
  obtain ⟨T5, X5, q5, st5⟩ := X3.sget hexec hown (wk W (.fieldLink "java/lang/String" 38 "java/lang/String" "COMPACT_STRINGS" "Z")) s1 (fun _ _ h => by rw [hh3]; exact h) (g := (mkF m 27 #[.val (.ref a), .val (.ref b), .val (.int (Int32.ofNat o)), .val (.int (Int32.ofNat len)), .val .null, .unset] [])) rfl (hb hbytes d27)
  have hh5 := q5.trans hh3
  have c6 : Steps p.tables e below (s₁.setTop (entryFrame m #[.ref a, .ref b, .int (Int32.ofNat o), .int (Int32.ofNat len), .null] 6)) (T5.setTop (mkF m 30 #[.val (.ref a), .val (.ref b), .val (.int (Int32.ofNat o)), .val (.int (Int32.ofNat len)), .val .null, .unset] [.int z])) := c4.trans (st5 _ (Steps.refl _))
  have c7 : Steps p.tables e below (s₁.setTop (entryFrame m #[.ref a, .ref b, .int (Int32.ofNat o), .int (Int32.ofNat len), .null] 6)) (T5.setTop (mkF m 36 #[.val (.ref a), .val (.ref b), .val (.int (Int32.ofNat o)), .val (.int (Int32.ofNat len)), .val .null, .unset] [.int (Int32.ofNat len), .int (Int32.ofNat o), .ref b])) := c6.trans (by
    refine XS.ifNo X5.here hexec rfl (hb hbytes d30) rfl (i0_eq_f hz) ?_
    refine XS.aloadN X5.here hexec rfl (hb hbytes d33) rfl rfl ?_
    refine XS.iloadN X5.here hexec rfl (hb hbytes d34) rfl ?_
    refine XS.iloadN X5.here hexec rfl (hb hbytes d35) rfl ?_
    exact Steps.refl _)
  obtain ⟨v8, T8, X8, E8, g8⟩ := X5.callS hexec (Cmp3.law l b A o len) hown (wks W (staticW "java/lang/String" 177 Cmp3.yN)) (wk W Cmp3.tab) (W := 0) (Nat.le_of_ble_eq_true rfl) (Nat.le_of_ble_eq_true rfl) (Nat.le_refl _) (by show 0 + len ≤ len; omega) (g := (mkF m 36 #[.val (.ref a), .val (.ref b), .val (.int (Int32.ofNat o)), .val (.int (Int32.ofNat len)), .val .null, .unset] [.int (Int32.ofNat len), .int (Int32.ofNat o), .ref b])) rfl (by rw [hml]; rfl) c7 (argsL := [.ref b, .int (Int32.ofNat o), .int (Int32.ofNat len)]) (rest := []) rfl rfl (by show 2 * 0 + 0 ≤ _; decide) (hb hbytes d36) (⟨rfl, hA.mv X5.warmed.alike hh5, l1, l2, hp⟩)
  obtain ⟨e8, z8⟩ := E8
  obtain ⟨rfl, N, n1, n2, n3, n4, n5, n6⟩ := NewArr.mv _ T5 s _ _ hh5.symm (Vm.Alike.refl _) rfl e8
  rw [hh5] at z8
  have hB1 := hB.keep X8.warmed.alike (n6 _ _ hB.1)
  have hne : s.heap.size ≠ a := (Nat.ne_of_lt (Array.getElem?_eq_some_iff.mp hB.1).1).symm
  have c9 : Steps p.tables e below (s₁.setTop (entryFrame m #[.ref a, .ref b, .int (Int32.ofNat o), .int (Int32.ofNat len), .null] 6)) (T8.setTop (mkF m 39 #[.val (.ref a), .val (.ref b), .val (.int (Int32.ofNat o)), .val (.int (Int32.ofNat len)), .val .null, .unset] [.ref s.heap.size])) := g8
  have c10 : Steps p.tables e below (s₁.setTop (entryFrame m #[.ref a, .ref b, .int (Int32.ofNat o), .int (Int32.ofNat len), .null] 6)) (T8.setTop (mkF m 45 #[.val (.ref a), .val (.ref b), .val (.int (Int32.ofNat o)), .val (.int (Int32.ofNat len)), .val .null, .val (.ref s.heap.size)] [.int (Int32.ofNat N.slots.size), .ref s.heap.size, .ref a])) := by
    have hc : Steps p.tables e below (s₁.setTop (entryFrame m #[.ref a, .ref b, .int (Int32.ofNat o), .int (Int32.ofNat len), .null] 6)) (T8.setTop (mkF m 45 #[.val (.ref a), .val (.ref b), .val (.int (Int32.ofNat o)), .val (.int (Int32.ofNat len)), .val .null, .val (.ref s.heap.size)] [.int (Int32.ofNat len), .ref s.heap.size, .ref a])) := c9.trans (by
      refine XS.astore X8.here hexec rfl (hb hbytes d39) rfl rfl rfl ?_
      refine XS.aloadN X8.here hexec rfl (hb hbytes d41) rfl rfl ?_
      refine XS.aload X8.here hexec rfl (hb hbytes d42) rfl rfl ?_
      refine XS.iloadN X8.here hexec rfl (hb hbytes d44) rfl ?_
      exact Steps.refl _)
    rw [n4]; exact hc
  obtain ⟨v11, T11, X11, E11, g11⟩ := X8.callS hexec (CodL.law l s.heap.size N) hown (wks W (staticW "java/lang/String" 47 CodL.yN)) (wk W CodL.tab) (W := 1) (Nat.le_of_ble_eq_true rfl) (Nat.le_of_ble_eq_true rfl) (Nat.le_refl _) (by show 0 + len + 0 ≤ len; omega) (g := (mkF m 45 #[.val (.ref a), .val (.ref b), .val (.int (Int32.ofNat o)), .val (.int (Int32.ofNat len)), .val .null, .val (.ref s.heap.size)] [.int (Int32.ofNat N.slots.size), .ref s.heap.size, .ref a])) rfl (by rw [hml]; rfl) c10 (argsL := [.ref s.heap.size, .int (Int32.ofNat N.slots.size)]) (rest := [.ref a]) rfl rfl (by show 2 * 0 + (1 + 0) ≤ _; decide) (hb hbytes d45) (⟨rfl, n1⟩)
  obtain ⟨rfl, q11⟩ := E11
  have hB11 := hB1.mv (X8.warmed.alike.symm.trans X11.warmed.alike) q11
  have c12 : Steps p.tables e below (s₁.setTop (entryFrame m #[.ref a, .ref b, .int (Int32.ofNat o), .int (Int32.ofNat len), .null] 6)) (T11.setTop (mkF m 48 #[.val (.ref a), .val (.ref b), .val (.int (Int32.ofNat o)), .val (.int (Int32.ofNat len)), .val .null, .val (.ref s.heap.size)] [.int 0, .ref a])) := g11
  obtain ⟨T13, X13, p13, bl13, sl13, st13⟩ := X11.finit hexec hown (wk W (.fieldLink "java/lang/String" 15 "java/lang/String" "coder" "B")) (Or.inr ⟨_, (wk W (.laysFinal "java/lang/String" "java/lang/String" "coder" "B"))⟩) (Or.inl ⟨rfl, hnm⟩) f2 (Or.inl rfl) hB11 (t := .byte) (by decide +kernel) rfl (g := (mkF m 48 #[.val (.ref a), .val (.ref b), .val (.int (Int32.ofNat o)), .val (.int (Int32.ofNat len)), .val .null, .val (.ref s.heap.size)] [.int 0, .ref a])) rfl (rest := []) rfl (hb hbytes d48)
  have c14 : Steps p.tables e below (s₁.setTop (entryFrame m #[.ref a, .ref b, .int (Int32.ofNat o), .int (Int32.ofNat len), .null] 6)) (T13.setTop (mkF m 54 #[.val (.ref a), .val (.ref b), .val (.int (Int32.ofNat o)), .val (.int (Int32.ofNat len)), .val .null, .val (.ref s.heap.size)] [.ref s.heap.size, .ref a])) := (c12.trans (st13 _ (Steps.refl _))).trans (by
    refine XS.aloadN X13.here hexec rfl (hb hbytes d51) rfl rfl ?_
    refine XS.aload X13.here hexec rfl (hb hbytes d52) rfl rfl ?_
    exact Steps.refl _)
  obtain ⟨T15, X15, p15, bl15, sl15, st15⟩ := X13.finit hexec hown (wk W (.fieldLink "java/lang/String" 9 "java/lang/String" "value" "[B")) (Or.inr ⟨_, (wk W (.laysFinal "java/lang/String" "java/lang/String" "value" "[B"))⟩) (Or.inl ⟨rfl, hnm⟩) f1 (Or.inl rfl) bl13 (t := (.array .byte)) (by decide +kernel) rfl (g := (mkF m 54 #[.val (.ref a), .val (.ref b), .val (.int (Int32.ofNat o)), .val (.int (Int32.ofNat len)), .val .null, .val (.ref s.heap.size)] [.ref s.heap.size, .ref a])) rfl (rest := []) rfl (hb hbytes d54)
  have c16 : Steps p.tables e below (s₁.setTop (entryFrame m #[.ref a, .ref b, .int (Int32.ofNat o), .int (Int32.ofNat len), .null] 6)) (T15.setTop (mkF m 57 #[.val (.ref a), .val (.ref b), .val (.int (Int32.ofNat o)), .val (.int (Int32.ofNat len)), .val .null, .val (.ref s.heap.size)] [])) := c14.trans (st15 _ (Steps.refl _))
  have ap := apart (Or.inr ⟨_, (wk W (.laysFinal "java/lang/String" "java/lang/String" "value" "[B"))⟩) (Or.inr ⟨_, (wk W (.laysFinal "java/lang/String" "java/lang/String" "coder" "B"))⟩) f1 f2 (t₁ := .array .byte) (t₂ := .byte) (by decide +kernel) (by decide +kernel) (by decide)
  have al := X8.warmed.alike.symm.trans X15.warmed.alike
  have n7 : T11.heap[s.heap.size]? = some N := by rw [q11]; exact n1.1
  exact ⟨T15, none, _, _, _, X15, by simp, rfl, by omega, (fun _ => rfl), ⟨rfl, _, N, bl15, ((Same.refl D _).set _ (by simp)).set _ (by simp), sl15, (Cell.slots_setSlot_ne _ ap).trans sl13, n1.keep al (p15.other hne (p13.other hne n7)), n2, by rw [al.findClass]; exact n3, n4, n5, fun y c h1 h2 => p15.other h1 (p13.other h1 (by rw [q11]; exact n6 y c h2)), by rw [p15.2.2, p13.2.2, q11]; exact z8⟩, fun fs hl => c16.trans (X15.returnOut hexec hret (hb hbytes d57) hl)⟩
end New4
namespace New1
def yN : MethodName := ⟨"java/lang/String", "<init>", "([C)V"⟩
abbrev yB : ByteArray := jdk_42_method_3_code
theorem d0 : decode yB 0 = .ok (.aload_n 0, 1) := by decide +kernel
theorem d1 : decode yB 1 = .ok (.aload_n 1, 1) := by decide +kernel
theorem d2 : decode yB 2 = .ok (.iconst 0, 1) := by decide +kernel
theorem d3 : decode yB 3 = .ok (.aload_n 1, 1) := by decide +kernel
theorem d4 : decode yB 4 = .ok (.arraylength, 1) := by decide +kernel
theorem d5 : decode yB 5 = .ok (.aconst_null, 1) := by decide +kernel
theorem d6 : decode yB 6 = .ok (.invokespecial 27, 3) := by decide +kernel
theorem d9 : decode yB 9 = .ok (.return_, 1) := by decide +kernel
def site : List Cond := [New4.tab] ++ initW "java/lang/String" 27 New4.yN
def tab : Cond := tabOf yN yB 2 none site
def P (a : Addr) (D : Cell) (fV fC : Field) (b : Addr) (A : Cell) (z : Int32) (args : Array Value) (s : State) : Prop := args = #[.ref a, .ref b] ∧ Blank "java/lang/String" a D s ∧ Found "java/lang/String" "value" "[B" fV s ∧ Found "java/lang/String" "coder" "B" fC s ∧ Ch b A s ∧ StaticIs s "java/lang/String" "COMPACT_STRINGS" "Z" (.int z) ∧ ¬ z = 0 ∧ 0 < A.slots.size ∧ A.slots.size ≤ 536870912 ∧ ∀ i, i < A.slots.size → ¬ 255 < cv A i
def E (a : Addr) (D : Cell) (fV fC : Field) (A : Cell) (r : Option Value) (s u : State) : Prop := Got a D fV fC A 0 A.slots.size r s u
/-- new String(chars), not empty, no char above 255: a Latin-1 String of their low bytes -/
theorem law (l : Launch) (a : Addr) (D : Cell) (fV fC : Field) (b : Addr) (A : Cell) (z : Int32) : Law l yN 2 1 3 52 yB 2 none site (P a D fV fC b A z) (E a D fV fC A) [⟨a, fC.slot⟩, ⟨a, fV.slot⟩] 1 A.slots.size := by
  refine Law.of_walk (plainFor_of_name (by decide +kernel)) (by decide +kernel) (by decide +kernel) (by decide) (fun _ _ h => by rw [h.1]; rfl) (fun _ U U' hal hh h => ⟨h.1, h.2.1.mv hal hh, h.2.2.1.al hal, h.2.2.2.1.al hal, h.2.2.2.2.1.mv hal hh, h.2.2.2.2.2.1.there hal hh, h.2.2.2.2.2.2⟩) (fun r U U' V V' h1 hal h2 h => Got.mv r U U' V V' h1 hal h2 h) ?_
  intro p e s m args below meth c s₁ X0 hexec hbytes hml hret hlk hnm hown hh0 W hP
  obtain ⟨rfl, hB, f1, f2, hA, s1, hz, l0, l2, hp⟩ := hP
  have c1 : Steps p.tables e below (s₁.setTop (entryFrame m #[.ref a, .ref b] 2)) (s₁.setTop (mkF m 0 #[.val (.ref a), .val (.ref b)] [])) := entry rfl
  have c2 : Steps p.tables e below (s₁.setTop (entryFrame m #[.ref a, .ref b] 2)) (s₁.setTop (mkF m 6 #[.val (.ref a), .val (.ref b)] [.null, .int (Int32.ofNat A.slots.size), .int 0, .ref b, .ref a])) := c1.trans (by
    refine XS.aloadN X0.here hexec rfl (hb hbytes d0) rfl rfl ?_
    refine XS.aloadN X0.here hexec rfl (hb hbytes d1) rfl rfl ?_
    refine iconstV X0.here hexec rfl 0 (hb hbytes d2) (by decide) ?_
    refine XS.aloadN X0.here hexec rfl (hb hbytes d3) rfl rfl ?_
    refine X0.alen hexec (hA.1.mv X0.warmed.alike hh0) rfl rfl (hb hbytes d4) ?_
    refine XS.aconstNull X0.here hexec rfl (hb hbytes d5) ?_
    exact Steps.refl _)
  obtain ⟨v3, T3, X3, E3, g3⟩ := X0.callN hexec (New4.law l a D fV fC b A z 0 A.slots.size) rfl hown (wks W (initW "java/lang/String" 27 New4.yN)) (W New4.tab (by simp only [site, List.mem_cons, List.mem_append, true_or, or_true])) (W := 0) (Nat.le_of_ble_eq_true rfl) (Nat.le_of_ble_eq_true rfl) (Nat.le_refl _) (by show 0 + A.slots.size ≤ A.slots.size; omega) (g := (mkF m 6 #[.val (.ref a), .val (.ref b)] [.null, .int (Int32.ofNat A.slots.size), .int (Int32.ofNat 0), .ref b, .ref a])) rfl (by rw [hml]; rfl) c2 (argsL := [.ref b, .int (Int32.ofNat 0), .int (Int32.ofNat A.slots.size), .null]) (rest := []) rfl rfl (by show 2 * 0 + 0 ≤ _; decide) (hb hbytes d6) (⟨rfl, hB.mv X0.warmed.alike hh0, f1.al X0.warmed.alike, f2.al X0.warmed.alike, hA.mv X0.warmed.alike hh0, s1.there X0.warmed.alike hh0, hz, l0, by omega, l2, fun i hi => by rw [Nat.zero_add]; exact hp i hi⟩)
  have e0 := Got.mv _ s₁ s _ _ hh0.symm (Vm.Alike.refl _) rfl E3
  obtain rfl := e0.1
  have c4 : Steps p.tables e below (s₁.setTop (entryFrame m #[.ref a, .ref b] 2)) (T3.setTop (mkF m 9 #[.val (.ref a), .val (.ref b)] [])) := g3
  exact ⟨T3, none, _, _, _, X3, by simp, rfl, by omega, (fun _ => rfl), e0, fun fs hl => c4.trans (X3.returnOut hexec hret (hb hbytes d9) hl)⟩
theorem pays {l : Launch} {R : Room} {p : Program} {e : Env} {below : List Frame} {s : State} {sargs : Array Value} {len W : Nat} (a : Addr) (D : Cell) (fV fC : Field) (b : Addr) (A : Cell) (z : Int32) (htab : tab.before sargs s = true) (hfr : 4 ≤ R.frames) (hlo : W + 65 ≤ R.locals) :
    Back l R p e below s sargs yN len W (fun A₁ a₁ => A₁.cells + 1 ≤ R.cells ∧ A₁.slots + A.slots.size ≤ R.slots ∧ P a D fV fC b A z a₁ A₁.U) (fun A₁ _ v₁ B₁ => E a D fV fC A v₁ A₁.U B₁.U ∧ B₁.locs = A₁.locs ++ [⟨a, fC.slot⟩, ⟨a, fV.slot⟩] ∧ B₁.cells = A₁.cells + 1 ∧ B₁.slots = A₁.slots + A.slots.size) :=
  (law l a D fV fC b A z).pays htab hfr (by omega)
end New1
/-- the byte, read back as charAt reads it, is the char -/
theorem lo8_mask {x : Int32} (h0 : ¬ x < 0) (h1 : ¬ 255 < x) : lo8 x &&& 255 = x := by
  have t : ∀ k : Fin 256, lo8 (Int32.ofNat k.val) &&& 255 = Int32.ofNat k.val := by decide +kernel
  rw [Int32.lt_iff_toInt_lt] at h0 h1
  have e0 : (0 : Int32).toInt = 0 := rfl
  have e1 : (255 : Int32).toInt = 255 := rfl
  obtain ⟨k, hk⟩ : ∃ k : Nat, x.toInt = k := ⟨x.toInt.toNat, by omega⟩
  have hx : x = Int32.ofNat k := Int32.toInt_inj.mp (by rw [hk, Int32.toInt_ofNat_small (by omega)])
  rw [hx]
  exact t ⟨k, by omega⟩
end StrChars
namespace StrChars.Road
open Jvm Sem ClassFile Op Lib Jvm.Stand Jvm.Free Jvm.Free.XT
open Jvm.Lib.Cold (StaticIs)
abbrev ST : String := "java/lang/String"
/-- every table word that New1's law asks, flat -/
abbrev words : List Jvm.Cond := [.code New1.yN New1.yB 2 none, .initialized ST, .methodLink ST 27 New4.yN, .instanceMethod New4.yN,
  .code New4.yN New4.yB 6 none, .fieldLink ST 38 ST "COMPACT_STRINGS" "Z", .laysFinal ST ST "value" "[B", .fieldLink ST 9 ST "value" "[B", .laysFinal ST ST "coder" "B", .fieldLink ST 15 ST "coder" "B",
  .methodLink ST 1 Lib.objectInit, .instanceMethod Lib.objectInit, .code Lib.objectInit ⟨#[0xb1]⟩ 1 none, .methodLink ST 177 Cmp3.yN, .static Cmp3.yN, .methodLink ST 47 CodL.yN, .static CodL.yN,
  .code Cmp3.yN Cmp3.yB 6 (some (.array .byte)), .initialized U16, .arrayClass .byte, .methodLink U16 115 Cmp5.yN, .static Cmp5.yN, .code Cmp5.yN Cmp5.yB 7 (some .int), .code CodL.yN CodL.yB 2 (some .byte)]
theorem tab_of {a : Array Value} {s : State} (h : ∀ w ∈ words, w.before a s = true) : New1.tab.before a s = true := by
  have h5 : Cmp5.tab.before a s = true := unparts (wk h (.code Cmp5.yN Cmp5.yB 7 (some .int))) (wks h (.initialized Cmp5.yN.cls :: Cmp5.site))
  have hc : CodL.tab.before a s = true := unparts (wk h (.code CodL.yN CodL.yB 2 (some .byte))) (wks h (.initialized CodL.yN.cls :: CodL.site))
  have q5 : ∀ w ∈ Cmp5.tab :: words, w.before a s = true := fun w hw => (List.mem_cons.mp hw).elim (fun e => e ▸ h5) (h w)
  have h3 : Cmp3.tab.before a s = true := unparts (wk q5 (.code Cmp3.yN Cmp3.yB 6 (some (.array .byte)))) (wks q5 (.initialized Cmp3.yN.cls :: Cmp3.site))
  have q3 : ∀ w ∈ Cmp3.tab :: CodL.tab :: words, w.before a s = true := fun w hw => (List.mem_cons.mp hw).elim (fun e => e ▸ h3) fun hw => (List.mem_cons.mp hw).elim (fun e => e ▸ hc) (h w)
  have h4 : New4.tab.before a s = true := unparts (wk q3 (.code New4.yN New4.yB 6 none)) (wks q3 (.initialized New4.yN.cls :: New4.site))
  have q4 : ∀ w ∈ New4.tab :: words, w.before a s = true := fun w hw => (List.mem_cons.mp hw).elim (fun e => e ▸ h4) (h w)
  exact unparts (wk q4 (.code New1.yN New1.yB 2 none)) (wks q4 (.initialized New1.yN.cls :: New1.site))
/-- the words ride from the start Z to the walk's own state -/
theorem moved {Z s : State} {a0 args : Array Value} (hZ : Z.Warmed39 s.vm) (hw : ∀ d ∈ words, d.before a0 Z = true) : ∀ d ∈ words, d.before args s = true := fun d hd => by
  have q := hw d hd
  have t : ∀ d ∈ words, d = .arrayClass .byte ∨ (d.onTables && d.keepsFace) = true := by decide +kernel
  rcases t d hd with rfl | t
  · exact RoadKit.mvA hZ q
  · exact RoadKit.mv hZ q t
/-- WHAT COMES BACK, over the tables of the start Z: h the heap at the call, h' behind it -/
def Q (Z : State) (x : Addr) (A : Cell) (h : Heap) (v : Option Value) (h' : Heap) (L : List Loc) : Prop := v = none ∧ (∀ y ∈ L, y.base = x) ∧ RoadKit.Keep h h' [x] ∧ h'.size = h.size + 1 ∧ RoadKit.Exa Z h' x ST ∧ RoadKit.Fld Z h' x ST "value" "[B" (.ref h.size) ∧ RoadKit.Fld Z h' x ST "coder" "B" (.int 0) ∧
  (∃ V : Cell, RoadKit.Arr Z h' h.size V .byte ∧ V.vm = .none ∧ Z.vm.findClass "[B" = some V.cls ∧ V.slots.size = A.slots.size ∧ ∀ j, j < A.slots.size → V.slots[j]? = some (.int (lo8 (cv A j)))) ∧
  ∀ (O n d : String) (w : Value), RoadKit.Fld Z h x O n d w → RoadKit.slotOf Z O n d ≠ RoadKit.slotOf Z ST "value" "[B" → RoadKit.slotOf Z O n d ≠ RoadKit.slotOf Z ST "coder" "B" → RoadKit.Fld Z h' x O n d w
/-- **new String(chars) AT A CALL, IN THE ROAD'S FORM**: for specialBack behind newO: x the fresh String, b the char[] with the cell A -/
theorem back {p : Program} {l : Launch} {e : Env} {R : Room} {s : State} {args : Array Value} {below : List Frame} {len W : Nat} {Z : State} {a0 : Array Value} {h : Heap} (hZ : Z.Warmed39 s.vm) (hw : ∀ d ∈ words, d.before a0 Z = true) {kI : Nat} (wi : (Jvm.Cond.instantiable ST kI).before a0 Z = true)
    {x b : Addr} {A : Cell} {z : Int32} {v0 c0 : Value} (E : RoadKit.Exa Z h x ST) (V : RoadKit.Fld Z h x ST "value" "[B" v0) (C : RoadKit.Fld Z h x ST "coder" "B" c0) (K : RoadKit.Arr Z h b A .char) (hty : Typed .char A) (S : RoadKit.Sta Z h ST "COMPACT_STRINGS" "Z" (.int z)) (hz : ¬ z = 0)
    (l0 : 0 < A.slots.size) (l2 : A.slots.size ≤ 536870912) (hp : ∀ i, i < A.slots.size → ¬ 255 < cv A i) (hfr : 4 ≤ R.frames) (hlo : W + 65 ≤ R.locals) :
    Back l R p e below s args New1.yN len W (fun P a => a = #[.ref x, .ref b] ∧ P.U.heap = h ∧ P.cells + 1 ≤ R.cells ∧ P.slots + A.slots.size ≤ R.slots)
      (fun P _ v B => ∃ L, Q Z x A h v B.U.heap L ∧ B.locs = P.locs ++ L ∧ B.cells = P.cells + 1 ∧ B.slots = P.slots + A.slots.size) := by
  intro m meth c P g ig mk a X hg hsize hdg hW hn hp'
  obtain ⟨rfl, rfl, r1, r2⟩ := hp'
  have al : Z.vm.Alike P.U.vm := hZ.alike.trans X.warmed.alike
  obtain ⟨D, cfV, kV, iV, fV, hD, gV, stV, knV, obV, asV, slV⟩ := id V
  obtain ⟨D', cfC, kC, iC, fC, hD', gC, stC, -, -, asC, slC⟩ := id C
  cases hD.symm.trans hD'
  obtain ⟨D2, kD, e1, e2, e3, e4, e5⟩ := id E
  cases hD.symm.trans e1
  obtain ⟨c2, k2, i1, i2, i3, -⟩ := Cond.instantiable_spec wi
  cases e2.symm.trans i1
  cases e3.symm.trans i2
  obtain ⟨kU, u1, u2⟩ := al.2.2 _ _ e3
  have hB : Blank ST x D P.U := ⟨hD, ⟨knV, fun q hq => by rw [hq] at obV; cases obV⟩, by rw [al.findClass]; exact e2, kU, u1, by rw [u2]; exact i3, by rw [u2]; exact e5 i3⟩
  have F1 : Found ST "value" "[B" fV P.U := ⟨SBG.found_only al ⟨cfV, kV, iV, gV⟩, stV⟩
  have F2 : Found ST "coder" "B" fC P.U := ⟨SBG.found_only al ⟨cfC, kC, iC, gC⟩, stC⟩
  have hA : Ch b A P.U := ⟨⟨K.1, State.isArrayOf_alike al K.2.1, K.2.2, by omega⟩, hty⟩
  have hS : StaticIs P.U ST "COMPACT_STRINGS" "Z" (.int z) := by
    obtain ⟨cfS, iS, kS, fS, st, cS, t1, t2, t3, t4, t5, t6, t7⟩ := S
    exact StaticIs.there (s := { Z with heap := P.U.heap }) ⟨cfS, iS, kS, fS, st, cS, t1, t2, t3, t4, t5, (fun q => by rw [q] at t6; cases t6), t7⟩ al rfl
  obtain ⟨v, B, X', ⟨⟨hv, E', V', q1, q2, q3, q4, q5, q6, q7, q8, q9, q10, q11⟩, hl, hc, hs⟩, st⟩ := New1.pays x D fV fC b A z (tab_of (moved hZ hw)) hfr hlo m meth c P g ig mk _ X hg hsize hdg hW hn ⟨r1, r2, rfl, hB, F1, F2, hA, hS, hz, l0, l2, hp⟩
  have al' : Z.vm.Alike B.U.vm := hZ.alike.trans X'.warmed.alike
  have hsz : E'.slots.size = D.slots.size := by
    obtain ⟨-, -, -, kB, w1, w2, w3⟩ := q1
    obtain ⟨kB', y1, y2⟩ := al'.2.2 _ _ e3
    rw [q2.2.1] at w1
    cases w1.symm.trans y1
    rw [w3, e5 i3, y2]
  refine ⟨v, B, X', ⟨_, ⟨hv, ?_, ⟨by omega, fun y cy hy hn' => q10 y cy (by simpa using hn') hy, fun y cy hy => ?_⟩, q11, ⟨E', _, q1.1, by rw [q2.2.1]; exact e2, by rw [q2.2.1]; exact e3, by rw [q2.1]; exact obV, fun _ => by rw [hsz]; exact e5 i3⟩,
    ⟨E', cfV, kV, iV, fV, q1.1, gV, stV, by rw [q2.1]; exact knV, by rw [q2.1]; exact obV, by rw [q2.2.1]; exact asV, q3⟩, ⟨E', cfC, kC, iC, fC, q1.1, gC, stC, by rw [q2.1]; exact knV, by rw [q2.1]; exact obV, by rw [q2.2.1]; exact asC, q4⟩,
    ⟨V', ⟨q5.1, State.isArrayOf_alike al'.symm q5.2.1, q5.2.2.1⟩, q6, by rw [← al'.findClass]; exact q7, q8, fun j hj => by have := q9 j hj; rwa [Nat.zero_add] at this⟩, fun O n d w F n1 n2 => ?_⟩, hl, hc, hs⟩, st⟩
  · intro y hy
    simp only [List.mem_cons, List.not_mem_nil, or_false] at hy
    rcases hy with rfl | rfl <;> rfl
  · by_cases q : y = x
    · subst q
      cases hD.symm.trans hy
      exact ⟨E', q1.1, q2.2.1, q2.1, hsz⟩
    · exact ⟨cy, q10 y cy q hy, rfl, rfl, rfl⟩
  · obtain ⟨D3, cf, k, i, f, g1, g2, g3, g4, g5, g6, g7⟩ := F
    cases hD.symm.trans g1
    simp only [RoadKit.slotOf, g2, gV, gC, Option.map_some, Option.getD_some] at n1 n2
    exact ⟨E', cf, k, i, f, q1.1, g2, g3, by rw [q2.1]; exact g4, by rw [q2.1]; exact g5, by rw [q2.2.1]; exact g6, by rw [q2.2.2 f.slot (by simp [n1, n2])]; exact g7⟩
end StrChars.Road
namespace StrChars.Road
open Jvm Sem ClassFile Op Lib Jvm.Stand Jvm.Free Jvm.Free.XT
/-- WHAT COMES BACK, the byte[] as a list of values -/
def QA (Z : State) (x : Addr) (zn : Int32) (cs : List Int32) (h : Heap) (v : Option Value) (h' : Heap) (L : List Loc) : Prop := v = none ∧ (∀ y ∈ L, y.base = x) ∧ RoadKit.Keep h h' [x] ∧ h'.size = h.size + 1 ∧ RoadKit.Exa Z h' x ST ∧ RoadKit.Fld Z h' x ST "value" "[B" (.ref h.size) ∧ RoadKit.Fld Z h' x ST "coder" "B" (.int 0) ∧
  (∃ kb, Z.vm.findClass "[B" = some kb ∧ RoadKit.Arv Z h' h.size kb .byte zn (cs.map fun c => .int (lo8 c)) (.int 0)) ∧
  ∀ (O n d : String) (w : Value), RoadKit.Fld Z h x O n d w → RoadKit.slotOf Z O n d ≠ RoadKit.slotOf Z ST "value" "[B" → RoadKit.slotOf Z O n d ≠ RoadKit.slotOf Z ST "coder" "B" → RoadKit.Fld Z h' x O n d w
/-- **new String(chars) AT A CALL, THE ARRAYS AS LISTS**: the char[] at b holds cs, not empty, no char above 255 -/
theorem backArv {p : Program} {l : Launch} {e : Env} {R : Room} {s : State} {args : Array Value} {below : List Frame} {len W : Nat} {Z : State} {a0 : Array Value} {h : Heap} (hZ : Z.Warmed39 s.vm) (hw : ∀ d ∈ words, d.before a0 Z = true) {kI : Nat} (wi : (Jvm.Cond.instantiable ST kI).before a0 Z = true)
    {x b : Addr} {k : ClassId} {zn z : Int32} {cs : List Int32} {dv v0 c0 : Value} (E : RoadKit.Exa Z h x ST) (V : RoadKit.Fld Z h x ST "value" "[B" v0) (C : RoadKit.Fld Z h x ST "coder" "B" c0) (K : RoadKit.Arv Z h b k .char zn (cs.map Value.int) dv) (S : RoadKit.Sta Z h ST "COMPACT_STRINGS" "Z" (.int z)) (hz : ¬ z = 0)
    (hlen : zn.toNatClampNeg = cs.length) (h0 : 0 < cs.length) (hbig : cs.length ≤ 536870912) (hall : ∀ c ∈ cs, ¬ 255 < c) (hfr : 4 ≤ R.frames) (hlo : W + 65 ≤ R.locals) :
    Back l R p e below s args New1.yN len W (fun P a => a = #[.ref x, .ref b] ∧ P.U.heap = h ∧ P.cells + 1 ≤ R.cells ∧ P.slots + cs.length ≤ R.slots)
      (fun P _ v B => ∃ L, QA Z x zn cs h v B.U.heap L ∧ B.locs = P.locs ++ L ∧ B.cells = P.cells + 1 ∧ B.slots = P.slots + cs.length) := by
  obtain ⟨A, K1, K2, K3, K4, K5, K6⟩ := K
  have e : A.slots.size = cs.length := K3.trans hlen
  have hat : ∀ (i : Nat) (hi : i < cs.length), A.slots[i]? = some (.int cs[i]) := fun i hi => by rw [K5 i (by omega)]; simp [List.getD_eq_getElem?_getD, hi]
  have hcv : ∀ (i : Nat) (hi : i < cs.length), cv A i = cs[i] := fun i hi => by unfold cv; rw [hat i hi]
  have hty : Typed .char A := fun i v hv => by
    have hi : i < A.slots.size := (Array.getElem?_eq_some_iff.mp hv).1
    have q := K5 i hi
    rw [hv] at q
    rw [Option.some.inj q]
    exact K6 i hi
  refine Back.mono (back hZ hw wi E V C K1 hty S hz (by omega) (by omega) (fun i hi => by rw [hcv i (by omega)]; exact hall _ (List.getElem_mem _)) hfr hlo) (fun P a hp => ⟨hp.1, hp.2.1, hp.2.2.1, by rw [e]; exact hp.2.2.2⟩) (fun P a v B hp hq => ?_)
  obtain ⟨L, ⟨q1, q2, q3, q4, q5, q6, q7, ⟨V', v1, v2, v3, v4, v5⟩, q9⟩, hl, hc, hs⟩ := hq
  refine ⟨L, ⟨q1, q2, q3, q4, q5, q6, q7, ⟨V'.cls, v3, V', v1, rfl, by rw [v4, e, hlen], K4, fun i hi => ?_, fun i hi => ?_⟩, q9⟩, hl, hc, by rw [hs, e]⟩
  · have hi' : i < cs.length := by omega
    rw [v5 i (by omega), hcv i hi']; simp [List.getD_eq_getElem?_getD, hi']
  · have hi' : i < cs.length := by omega
    simp only [List.getD_eq_getElem?_getD, List.getElem?_map, List.getElem?_eq_getElem hi', Option.map_some, Option.getD_some]
    exact fits_lo8 _
end StrChars.Road
namespace StrChars.Road
open Jvm Sem ClassFile Op Lib Jvm.Stand Jvm.Free Jvm.Free.XT
/-- WHAT COMES BACK, in the writer's own shape -/
def QV (Z : State) (x : Addr) (N : Int32) (bs : List Int32) (h : Heap) (n0 : Nat) (v : Option Value) (h' : Heap) (L : List Loc) : Prop := v = none ∧ RoadKit.Fr n0 L ∧ RoadKit.Keep h h' [x] ∧ RoadKit.Exa Z h' x ST ∧ RoadKit.Fld Z h' x ST "coder" "B" (.int 0) ∧
  ∃ (t : Addr) (kb : ClassId), n0 ≤ t ∧ h.size ≤ t ∧ ¬ t = x ∧ RoadKit.Fld Z h' x ST "value" "[B" (.ref t) ∧ RoadKit.Arv Z h' t kb .byte N (bs.map Value.int) (.int 0)
/-- **new String(chars) AT A CALL, FOR THE WRITER**: a char[] of n known ints, each 0 to 255 -/
theorem backV {p : Program} {l : Launch} {e : Env} {R : Room} {s : State} {args : Array Value} {below : List Frame} {len W : Nat} {Z : State} {a0 : Array Value} {h : Heap} (hZ : Z.Warmed39 s.vm) (hw : ∀ d ∈ words, d.before a0 Z = true) {kI : Nat} (wi : (Jvm.Cond.instantiable ST kI).before a0 Z = true)
    {x b : Addr} {kC : ClassId} {cs bs : List Int32} {d v0 c0 : Value} {z N : Int32} {n n0 : Nat} (hx0 : n0 ≤ x) (hh0 : n0 ≤ h.size) (E : RoadKit.Exa Z h x ST) (V : RoadKit.Fld Z h x ST "value" "[B" v0) (C : RoadKit.Fld Z h x ST "coder" "B" c0) (K : RoadKit.Arv Z h b kC .char N (cs.map Value.int) d) (S : RoadKit.Sta Z h ST "COMPACT_STRINGS" "Z" (.int z)) (hz : ¬ z = 0)
    (hn : cs.length = n) (hN : N = Int32.ofNat n) (l0 : 0 < n) (l2 : n ≤ 4000) (hp : ∀ c ∈ cs, ¬ c < 0 ∧ ¬ (255 : Int32) < c) (hb : bs = cs.map (fun c => c.toInt8.toInt32)) (hfr : 4 ≤ R.frames) (hlo : W + 65 ≤ R.locals) :
    Back l R p e below s args (⟨"java/lang/String", "<init>", "([C)V"⟩ : MethodName) len W (fun P a => a = #[.ref x, .ref b] ∧ P.U.heap = h ∧ P.cells + 1 ≤ R.cells ∧ P.slots + n ≤ R.slots)
      (fun P _ v B => ∃ L, QV Z x N bs h n0 v B.U.heap L ∧ B.locs = P.locs ++ L ∧ B.cells = P.cells + 1 ∧ B.slots = P.slots + n) := by
  subst hn hN hb
  refine Back.mono (backArv hZ hw wi E V C K S hz (n32 (by omega)) l0 (by omega) (fun c hc => (hp c hc).2) hfr hlo) (fun P a hp => hp) (fun P a v B hp hq => ?_)
  obtain ⟨L, ⟨q1, q2, q3, q4, q5, q6, q7, ⟨kb, v1, v2⟩, q9⟩, hl, hc, hs⟩ := hq
  exact ⟨L, ⟨q1, fun y hy => by rw [q2 y hy]; exact hx0, q3, q5, q7, h.size, kb, hh0, Nat.le_refl _, Nat.ne_of_gt E.lt, q6, by rw [List.map_map]; exact v2⟩, hl, hc, hs⟩
end StrChars.Road
namespace StrChars
open Jvm Sem ClassFile Op Lib Jvm.Stand Jvm.Free.XT Jvm.Free.ALB Jvm.Free.JM Jvm.Free
open Jvm.Lib.Cold (StaticIs)
def hi8 (x : Int32) : Int32 := lo8 (x >>> ((8 : Int32) &&& 31))
/-- what StringUTF16.getChar makes of two bytes -/
def pairCh (u v : Int32) : Int32 := (((u &&& 255) <<< ((0 : Int32) &&& 31)) ||| ((v &&& 255) <<< ((8 : Int32) &&& 31))).toUInt32.toUInt16.toUInt32.toInt32
theorem shr0 (c : Int32) : c >>> ((0 : Int32) &&& 31) = c := by
  have e : ((0 : Int32) &&& 31) = 0 := by decide
  rw [e]
  apply Int32.toBitVec_inj.mp
  rw [Int32.toBitVec_shiftRight]
  have e1 : ((0 : Int32).toBitVec.smod 32) = 0#32 := by decide
  rw [e1, BitVec.sshiftRight_eq']
  exact BitVec.sshiftRight_zero
theorem lo8_and (x : Int32) : (lo8 x &&& 255).toBitVec.toNat = x.toBitVec.toNat % 256 := by
  have h : (lo8 x).toBitVec = (x.toBitVec.signExtend 8).signExtend 32 := by rw [lo8, Int8.toBitVec_toInt32, Int32.toBitVec_toInt8]
  rw [Int32.toBitVec_and, BitVec.toNat_and, h]
  have e : ((x.toBitVec.signExtend 8).signExtend 32).toNat % 256 = x.toBitVec.toNat % 256 := by
    rw [BitVec.toNat_signExtend]
    have hlt := x.toBitVec.isLt
    simp only [BitVec.toNat_setWidth, BitVec.toNat_signExtend]
    split <;> split <;> omega
  rw [← e]
  exact Nat.and_two_pow_sub_one_eq_mod _ 8
theorem pair_says {c : Int32} (h0 : ¬ c < 0) (h1 : ¬ 65535 < c) : pairCh (lo8 c) (hi8 c) = c := by
  rw [Int32.lt_iff_toInt_lt] at h0 h1
  have e0 : (0 : Int32).toInt = 0 := rfl
  have e1 : (65535 : Int32).toInt = 65535 := rfl
  have hc : c.toInt = c.toBitVec.toNat := by
    have := c.toBitVec.isLt
    have e : c.toInt = c.toBitVec.toInt := rfl
    rw [e] at h0 h1
    rw [e]
    rw [BitVec.toInt_eq_toNat_cond] at h0 h1 ⊢
    split at h0 <;> split <;> omega
  have hn : c.toBitVec.toNat < 65536 := by omega
  have a1 := lo8_and c
  have a2 : (hi8 c &&& 255).toBitVec.toNat = c.toBitVec.toNat / 256 := by
    rw [hi8, lo8_and]
    have e : ((8 : Int32) &&& 31) = 8 := by decide
    rw [e, Int32.toBitVec_shiftRight]
    have e2 : ((8 : Int32).toBitVec.smod 32) = 8#32 := by decide
    rw [e2, BitVec.sshiftRight_eq', BitVec.toNat_sshiftRight_of_msb_false (by rw [BitVec.msb_eq_false_iff_two_mul_lt]; omega)]
    show c.toBitVec.toNat >>> 8 % 256 = _
    rw [Nat.shiftRight_eq_div_pow]
    omega
  unfold pairCh
  apply Int32.toBitVec_inj.mp
  apply BitVec.eq_of_toNat_eq
  have f0 : ((0 : Int32) &&& 31) = 0 := by decide
  have f8 : ((8 : Int32) &&& 31) = 8 := by decide
  rw [f0, f8]
  have g : (((lo8 c &&& 255) <<< (0 : Int32)) ||| ((hi8 c &&& 255) <<< (8 : Int32))).toBitVec.toNat = c.toBitVec.toNat := by
    rw [Int32.toBitVec_or, Int32.toBitVec_shiftLeft, Int32.toBitVec_shiftLeft]
    have s0 : ((0 : Int32).toBitVec.smod 32) = 0#32 := by decide
    have s8 : ((8 : Int32).toBitVec.smod 32) = 8#32 := by decide
    rw [s0, s8, BitVec.toNat_or]
    simp only [BitVec.shiftLeft_eq', BitVec.toNat_shiftLeft, a1, a2]
    show (c.toBitVec.toNat % 256) <<< 0 % 2 ^ 32 ||| (c.toBitVec.toNat / 256) <<< 8 % 2 ^ 32 = _
    rw [Nat.shiftLeft_zero, Nat.mod_eq_of_lt (show c.toBitVec.toNat % 256 < 2 ^ 32 by omega), Nat.mod_eq_of_lt (show (c.toBitVec.toNat / 256) <<< 8 < 2 ^ 32 by rw [Nat.shiftLeft_eq]; omega), Nat.or_comm, ← Nat.shiftLeft_add_eq_or_of_lt (by omega), Nat.shiftLeft_eq]
    omega
  show BitVec.toNat (((((lo8 c &&& 255) <<< (0 : Int32)) ||| ((hi8 c &&& 255) <<< (8 : Int32))).toBitVec.setWidth 16).setWidth 32) = _
  rw [BitVec.toNat_setWidth, BitVec.toNat_setWidth, g]
  omega
end StrChars
namespace StrChars
open Jvm Sem ClassFile Op Lib Jvm.Stand Jvm.Free.XT Jvm.Free.ALB Jvm.Free.JM Jvm.Free
open Jvm.Lib.Cold (StaticIs)
theorem shr1 {n : Nat} (h : 2 * n < 2 ^ 31) : Int32.ofNat (2 * n) >>> ((1 : Int32) &&& 31) = Int32.ofNat n := by
  have e : ((1 : Int32) &&& 31) = 1 := by decide
  rw [e]
  apply Int32.toBitVec_inj.mp
  rw [Int32.toBitVec_shiftRight]
  have e1 : ((1 : Int32).toBitVec.smod 32) = 1#32 := by decide
  have hm : (BitVec.ofNat 32 (2 * n)).toNat = 2 * n := by rw [BitVec.toNat_ofNat, Nat.mod_eq_of_lt (by omega)]
  rw [e1, BitVec.sshiftRight_eq']
  apply BitVec.eq_of_toNat_eq
  show ((BitVec.ofNat 32 (2 * n)).sshiftRight 1).toNat = (BitVec.ofNat 32 n).toNat
  rw [BitVec.toNat_sshiftRight_of_msb_false (by rw [BitVec.msb_eq_false_iff_two_mul_lt, hm]; omega), hm, BitVec.toNat_ofNat, Nat.shiftRight_eq_div_pow]
  omega
/-- charAt's cast of a byte read back -/
def chr8 (u : Int32) : Int32 := (u &&& 255).toUInt32.toUInt16.toUInt32.toInt32
theorem chr8_lo8 {c : Int32} (h0 : ¬ c < 0) (h1 : ¬ 255 < c) : chr8 (lo8 c) = c := by
  have t : ∀ k : Fin 256, (Int32.ofNat k.val).toUInt32.toUInt16.toUInt32.toInt32 = Int32.ofNat k.val := by decide +kernel
  unfold chr8
  rw [lo8_mask h0 h1]
  rw [Int32.lt_iff_toInt_lt] at h0 h1
  have e0 : (0 : Int32).toInt = 0 := rfl
  have e1 : (255 : Int32).toInt = 255 := rfl
  obtain ⟨k, hk⟩ : ∃ k : Nat, c.toInt = k := ⟨c.toInt.toNat, by omega⟩
  have hx : c = Int32.ofNat k := Int32.toInt_inj.mp (by rw [hk, Int32.toInt_ofNat_small (by omega)])
  rw [hx]
  exact t ⟨k, by omega⟩
theorem narrow_ch {c : Int32} (h0 : ¬ c < 0) (h1 : ¬ 65535 < c) : narrow .char (.int c) = .int c := by
  have q : narrow .char (.int (pairCh (lo8 c) (hi8 c))) = .int (pairCh (lo8 c) (hi8 c)) := narrow_c _
  rwa [pair_says h0 h1] at q
/-- the array's cell V codes the n chars f 0 .. f (n - 1) by the coder cd, as the JDK does: coder 1 just where some char is above 255 -/
def Cod (cd : Int32) (n : Nat) (f : Nat → Int32) (V : Cell) : Prop := (cd = 0 ∧ V.slots.size = n ∧ ∀ j, j < n → V.slots[j]? = some (.int (lo8 (f j))) ∧ ¬ 255 < f j) ∨ (cd = 1 ∧ V.slots.size = 2 * n ∧ (∀ j, j < n → V.slots[2 * j]? = some (.int (lo8 (f j))) ∧ V.slots[2 * j + 1]? = some (.int (hi8 (f j)))) ∧ ∃ j, j < n ∧ 255 < f j)
theorem Cod.cd {cd : Int32} {n : Nat} {f : Nat → Int32} {V : Cell} (h : Cod cd n f V) : cd = 0 ∨ cd = 1 := h.imp (fun q => q.1) fun q => q.1
theorem Cod.len {cd : Int32} {n : Nat} {f : Nat → Int32} {V : Cell} (h : Cod cd n f V) (hs : V.slots.size < 2 ^ 31) : Int32.ofNat V.slots.size >>> (cd &&& 31) = Int32.ofNat n := by
  rcases h with ⟨rfl, h, -⟩ | ⟨rfl, h, -⟩
  · rw [shr0, h]
  · rw [h, shr1 (by omega)]
/-- **x is a String of the n chars f 0 .. f (n - 1)**, Latin-1 or UTF-16; its array at t has the cell V -/
def Txt (x t : Addr) (V : Cell) (cd : Int32) (n : Nat) (f : Nat → Int32) (U : State) : Prop := Exact "java/lang/String" x U ∧ Has x "java/lang/String" "value" "[B" (.ref t) U ∧ Has x "java/lang/String" "coder" "B" (.int cd) U ∧ XT.Arr .byte t V U ∧ Cod cd n f V ∧ ∀ j, j < n → ¬ f j < 0 ∧ ¬ 65535 < f j
theorem Txt.mv {x t : Addr} {V : Cell} {cd : Int32} {n : Nat} {f : Nat → Int32} {U U' : State} (h : Txt x t V cd n f U) (hal : U.vm.Alike U'.vm) (hh : U'.heap = U.heap) : Txt x t V cd n f U' := ⟨h.1.mv hal hh, h.2.1.mv hal hh, h.2.2.1.mv hal hh, h.2.2.2.1.mv hal hh, h.2.2.2.2⟩
namespace Cdr
def yN : MethodName := ⟨"java/lang/String", "coder", "()B"⟩
abbrev yB : ByteArray := jdk_42_method_152_code
theorem d0 : decode yB 0 = .ok (.getstatic 38, 3) := by decide +kernel
theorem d3 : decode yB 3 = .ok (.ifCond (.eq) 10, 3) := by decide +kernel
theorem d6 : decode yB 6 = .ok (.aload_n 0, 1) := by decide +kernel
theorem d7 : decode yB 7 = .ok (.getfield 15, 3) := by decide +kernel
theorem d10 : decode yB 10 = .ok (.goto 4, 3) := by decide +kernel
theorem d14 : decode yB 14 = .ok (.ireturn, 1) := by decide +kernel
def site : List Cond := [.fieldLink "java/lang/String" 38 "java/lang/String" "COMPACT_STRINGS" "Z", .fieldLink "java/lang/String" 15 "java/lang/String" "coder" "B"]
def tab : Cond := tabOf yN yB 1 (some .byte) site
def P (x : Addr) (cd z : Int32) (args : Array Value) (s : State) : Prop := args = #[.ref x] ∧ Has x "java/lang/String" "coder" "B" (.int cd) s ∧ (cd = 0 ∨ cd = 1) ∧ StaticIs s "java/lang/String" "COMPACT_STRINGS" "Z" (.int z) ∧ ¬ z = 0
def E (cd : Int32) (r : Option Value) (s u : State) : Prop := XT.PureE (some (.int cd)) r s u
theorem law (l : Launch) (x : Addr) (cd z : Int32) : Law l yN 1 0 0 0 yB 1 (some .byte) site (P x cd z) (E cd) [] 0 0 := by
  refine Law.of_walk (plainFor_of_name (by decide +kernel)) (by decide +kernel) (by decide +kernel) (by decide) (fun _ _ h => by rw [h.1]; rfl) (fun _ U U' hal hh h => ⟨h.1, h.2.1.mv hal hh, h.2.2.1, h.2.2.2.1.there hal hh, h.2.2.2.2⟩) (fun r U U' V V' h1 hal h2 h => XT.PureE.mv r U U' V V' h1 hal h2 h) ?_
  intro p e s m args below meth c s₁ X0 hexec hbytes hml hret hlk hnm hown hh0 W hP
  obtain ⟨rfl, hx, hc, s1, hz⟩ := hP
  have c1 : Steps p.tables e below (s₁.setTop (entryFrame m #[.ref x] 1)) (s₁.setTop (mkF m 0 #[.val (.ref x)] [])) := entry rfl
  obtain ⟨T2, X2, q2, st2⟩ := X0.sget hexec hown (wk W (.fieldLink "java/lang/String" 38 "java/lang/String" "COMPACT_STRINGS" "Z")) s1 (fun _ _ h => by rw [hh0]; exact h) (g := (mkF m 0 #[.val (.ref x)] [])) rfl (hb hbytes d0)
  have hh2 := q2.trans hh0
  have c3 : Steps p.tables e below (s₁.setTop (entryFrame m #[.ref x] 1)) (T2.setTop (mkF m 7 #[.val (.ref x)] [.ref x])) := (c1.trans (st2 _ (Steps.refl _))).trans (by
    refine XS.ifNo X2.here hexec rfl (hb hbytes d3) rfl (i0_eq_f hz) ?_
    refine XS.aloadN X2.here hexec rfl (hb hbytes d6) rfl rfl ?_
    exact Steps.refl _)
  obtain ⟨T4, X4, q4, st4⟩ := X2.hget hexec hown (wk W (.fieldLink "java/lang/String" 15 "java/lang/String" "coder" "B")) (hx.mv X2.warmed.alike hh2) (g := (mkF m 7 #[.val (.ref x)] [.ref x])) rfl (rest := []) rfl (hb hbytes d7)
  have c5 : Steps p.tables e below (s₁.setTop (entryFrame m #[.ref x] 1)) (T4.setTop (mkF m 14 #[.val (.ref x)] [.int cd])) := (c3.trans (st4 _ (Steps.refl _))).trans (by
    refine XS.goto X4.here hexec rfl (pc0 := 10) rfl (hb hbytes d10) (by decide) rfl ?_
    exact Steps.refl _)
  exact ⟨T4, some (.int cd), _, _, _, X4, rfl, rfl, rfl, (fun h => by cases h), ⟨rfl, q4.trans hh2⟩, fun fs hl => c5.trans (X4.ireturnOut hexec hret (by rcases hc with rfl | rfl <;> rfl) (Or.inr (Or.inr (Or.inl rfl))) (hb hbytes d14) hl)⟩
end Cdr
namespace Len
def yN : MethodName := ⟨"java/lang/String", "length", "()I"⟩
abbrev yB : ByteArray := jdk_42_method_54_code
theorem d0 : decode yB 0 = .ok (.aload_n 0, 1) := by decide +kernel
theorem d1 : decode yB 1 = .ok (.getfield 9, 3) := by decide +kernel
theorem d4 : decode yB 4 = .ok (.arraylength, 1) := by decide +kernel
theorem d5 : decode yB 5 = .ok (.aload_n 0, 1) := by decide +kernel
theorem d6 : decode yB 6 = .ok (.invokevirtual 335, 3) := by decide +kernel
theorem d9 : decode yB 9 = .ok (.ishr, 1) := by decide +kernel
theorem d10 : decode yB 10 = .ok (.ireturn, 1) := by decide +kernel
def site : List Cond := [.fieldLink "java/lang/String" 9 "java/lang/String" "value" "[B", Cdr.tab] ++ virtW "java/lang/String" 335 "java/lang/String" Cdr.yN Cdr.yN
def tab : Cond := tabOf yN yB 1 (some .int) site
def P (x t : Addr) (V : Cell) (cd : Int32) (n : Nat) (f : Nat → Int32) (z : Int32) (args : Array Value) (s : State) : Prop := args = #[.ref x] ∧ Txt x t V cd n f s ∧ StaticIs s "java/lang/String" "COMPACT_STRINGS" "Z" (.int z) ∧ ¬ z = 0
def E (n : Nat) (r : Option Value) (s u : State) : Prop := XT.PureE (some (.int (Int32.ofNat n))) r s u
/-- length() of a String of n chars, in either coding -/
theorem law (l : Launch) (x t : Addr) (V : Cell) (cd : Int32) (n : Nat) (f : Nat → Int32) (z : Int32) : Law l yN 1 0 1 13 yB 1 (some .int) site (P x t V cd n f z) (E n) [] 0 0 := by
  refine Law.of_walk (plainFor_of_name (by decide +kernel)) (by decide +kernel) (by decide +kernel) (by decide) (fun _ _ h => by rw [h.1]; rfl) (fun _ U U' hal hh h => ⟨h.1, h.2.1.mv hal hh, h.2.2.1.there hal hh, h.2.2.2⟩) (fun r U U' V V' h1 hal h2 h => XT.PureE.mv r U U' V V' h1 hal h2 h) ?_
  intro p e s m args below meth c s₁ X0 hexec hbytes hml hret hlk hnm hown hh0 W hP
  obtain ⟨rfl, hx, s1, hz⟩ := hP
  have v31 := hx.2.2.2.1.2.2.2
  have c1 : Steps p.tables e below (s₁.setTop (entryFrame m #[.ref x] 1)) (s₁.setTop (mkF m 1 #[.val (.ref x)] [.ref x])) := Steps.trans (entry rfl) (by
    show Steps p.tables e below (s₁.setTop (mkF m 0 #[.val (.ref x)] [])) _
    refine XS.aloadN X0.here hexec rfl (hb hbytes d0) rfl rfl ?_
    exact Steps.refl _)
  obtain ⟨T2, X2, q2, st2⟩ := X0.hget hexec hown (wk W (.fieldLink "java/lang/String" 9 "java/lang/String" "value" "[B")) (hx.mv X0.warmed.alike hh0).2.1 (g := (mkF m 1 #[.val (.ref x)] [.ref x])) rfl (rest := []) rfl (hb hbytes d1)
  have hh2 := q2.trans hh0
  have hx2 := hx.mv X2.warmed.alike hh2
  have c3 : Steps p.tables e below (s₁.setTop (entryFrame m #[.ref x] 1)) (T2.setTop (mkF m 6 #[.val (.ref x)] [.ref x, .int (Int32.ofNat V.slots.size)])) := (c1.trans (st2 _ (Steps.refl _))).trans (by
    refine X2.alen hexec hx2.2.2.2.1 rfl rfl (hb hbytes d4) ?_
    refine XS.aloadN X2.here hexec rfl (hb hbytes d5) rfl rfl ?_
    exact Steps.refl _)
  obtain ⟨v4, T4, X4, E4, g4⟩ := X2.callV hexec (Cdr.law l x cd z) hown (wks W (virtW "java/lang/String" 335 "java/lang/String" Cdr.yN Cdr.yN)) rfl (by decide) (wk W Cdr.tab) (W := 1) (Nat.le_of_ble_eq_true rfl) (Nat.le_of_ble_eq_true rfl) (Nat.le_refl _) (Nat.le_refl _) (hx2.1.fc X2.warmed.alike) hx2.1.is (g := (mkF m 6 #[.val (.ref x)] [.ref x, .int (Int32.ofNat V.slots.size)])) rfl (by rw [hml]; rfl) c3 (argsL := []) (rest := [.int (Int32.ofNat V.slots.size)]) rfl rfl (by show 2 * 0 + (1 + 0) ≤ _; decide) (hb hbytes d6) (⟨rfl, hx2.2.2.1, hx.2.2.2.2.1.cd, s1.there X2.warmed.alike hh2, hz⟩)
  obtain ⟨rfl, q4⟩ := E4
  have c5 : Steps p.tables e below (s₁.setTop (entryFrame m #[.ref x] 1)) (T4.setTop (mkF m 10 #[.val (.ref x)] [.int (Int32.ofNat V.slots.size >>> (cd &&& 31))])) := Steps.trans g4 (by
    refine ishr X4.here hexec rfl (hb hbytes d9) rfl ?_
    exact Steps.refl _)
  rw [hx.2.2.2.2.1.len v31] at c5
  exact ⟨T4, some (.int (Int32.ofNat n)), _, _, _, X4, rfl, rfl, rfl, (fun h => by cases h), ⟨rfl, q4.trans hh2⟩, fun fs hl => c5.trans (X4.ireturnOut hexec hret rfl (Or.inl rfl) (hb hbytes d10) hl)⟩
theorem pays {l : Launch} {R : Room} {p : Program} {e : Env} {below : List Frame} {s : State} {sargs : Array Value} {len W : Nat} (x t : Addr) (V : Cell) (cd : Int32) (n : Nat) (f : Nat → Int32) (z : Int32) (htab : tab.before sargs s = true) (hfr : 2 ≤ R.frames) (hlo : W + 25 ≤ R.locals) :
    Back l R p e below s sargs yN len W (fun A₁ a₁ => A₁.cells + 0 ≤ R.cells ∧ A₁.slots + 0 ≤ R.slots ∧ P x t V cd n f z a₁ A₁.U) (fun A₁ _ v₁ B₁ => E n v₁ A₁.U B₁.U ∧ B₁.locs = A₁.locs ++ [] ∧ B₁.cells = A₁.cells + 0 ∧ B₁.slots = A₁.slots + 0) :=
  (law l x t V cd n f z).pays htab hfr (by omega)
end Len
namespace IsL
def yN : MethodName := ⟨"java/lang/String", "isLatin1", "()Z"⟩
abbrev yB : ByteArray := jdk_42_method_154_code
theorem d0 : decode yB 0 = .ok (.getstatic 38, 3) := by decide +kernel
theorem d3 : decode yB 3 = .ok (.ifCond (.eq) 14, 3) := by decide +kernel
theorem d6 : decode yB 6 = .ok (.aload_n 0, 1) := by decide +kernel
theorem d7 : decode yB 7 = .ok (.getfield 15, 3) := by decide +kernel
theorem d10 : decode yB 10 = .ok (.ifCond (.ne) 7, 3) := by decide +kernel
theorem d13 : decode yB 13 = .ok (.iconst 1, 1) := by decide +kernel
theorem d14 : decode yB 14 = .ok (.goto 4, 3) := by decide +kernel
theorem d17 : decode yB 17 = .ok (.iconst 0, 1) := by decide +kernel
theorem d18 : decode yB 18 = .ok (.ireturn, 1) := by decide +kernel
def site : List Cond := [.fieldLink "java/lang/String" 38 "java/lang/String" "COMPACT_STRINGS" "Z", .fieldLink "java/lang/String" 15 "java/lang/String" "coder" "B"]
def tab : Cond := tabOf yN yB 1 (some .boolean) site
def P (x : Addr) (cd z : Int32) (args : Array Value) (s : State) : Prop := args = #[.ref x] ∧ Has x "java/lang/String" "coder" "B" (.int cd) s ∧ (cd = 0 ∨ cd = 1) ∧ StaticIs s "java/lang/String" "COMPACT_STRINGS" "Z" (.int z) ∧ ¬ z = 0
def E (cd : Int32) (r : Option Value) (s u : State) : Prop := XT.PureE (some (.int (1 - cd))) r s u
theorem law (l : Launch) (x : Addr) (cd z : Int32) : Law l yN 1 0 0 0 yB 1 (some .boolean) site (P x cd z) (E cd) [] 0 0 := by
  refine Law.of_walk (plainFor_of_name (by decide +kernel)) (by decide +kernel) (by decide +kernel) (by decide) (fun _ _ h => by rw [h.1]; rfl) (fun _ U U' hal hh h => ⟨h.1, h.2.1.mv hal hh, h.2.2.1, h.2.2.2.1.there hal hh, h.2.2.2.2⟩) (fun r U U' V V' h1 hal h2 h => XT.PureE.mv r U U' V V' h1 hal h2 h) ?_
  intro p e s m args below meth c s₁ X0 hexec hbytes hml hret hlk hnm hown hh0 W hP
  obtain ⟨rfl, hx, hc, s1, hz⟩ := hP
  have c1 : Steps p.tables e below (s₁.setTop (entryFrame m #[.ref x] 1)) (s₁.setTop (mkF m 0 #[.val (.ref x)] [])) := entry rfl
  obtain ⟨T2, X2, q2, st2⟩ := X0.sget hexec hown (wk W (.fieldLink "java/lang/String" 38 "java/lang/String" "COMPACT_STRINGS" "Z")) s1 (fun _ _ h => by rw [hh0]; exact h) (g := (mkF m 0 #[.val (.ref x)] [])) rfl (hb hbytes d0)
  have hh2 := q2.trans hh0
  have c3 : Steps p.tables e below (s₁.setTop (entryFrame m #[.ref x] 1)) (T2.setTop (mkF m 7 #[.val (.ref x)] [.ref x])) := (c1.trans (st2 _ (Steps.refl _))).trans (by
    refine XS.ifNo X2.here hexec rfl (hb hbytes d3) rfl (i0_eq_f hz) ?_
    refine XS.aloadN X2.here hexec rfl (hb hbytes d6) rfl rfl ?_
    exact Steps.refl _)
  obtain ⟨T4, X4, q4, st4⟩ := X2.hget hexec hown (wk W (.fieldLink "java/lang/String" 15 "java/lang/String" "coder" "B")) (hx.mv X2.warmed.alike hh2) (g := (mkF m 7 #[.val (.ref x)] [.ref x])) rfl (rest := []) rfl (hb hbytes d7)
  have c5 : Steps p.tables e below (s₁.setTop (entryFrame m #[.ref x] 1)) (T4.setTop (mkF m 10 #[.val (.ref x)] [.int cd])) := c3.trans (st4 _ (Steps.refl _))
  have c6 : Steps p.tables e below (s₁.setTop (entryFrame m #[.ref x] 1)) (T4.setTop (mkF m 18 #[.val (.ref x)] [.int (1 - cd)])) := by
    rcases hc with rfl | rfl
    · exact c5.trans (by
        refine XS.ifNo X4.here hexec rfl (hb hbytes d10) rfl (i0_ne_f rfl) ?_
        refine iconstV X4.here hexec rfl 1 (hb hbytes d13) (by decide) ?_
        refine XS.goto X4.here hexec rfl (pc0 := 14) rfl (hb hbytes d14) (by decide) rfl ?_
        exact Steps.refl _)
    · exact c5.trans (by
        refine XS.ifYes X4.here hexec rfl (pc0 := 10) rfl (hb hbytes d10) rfl (i0_ne_t (by decide)) (by decide) rfl ?_
        refine iconstV X4.here hexec rfl 0 (hb hbytes d17) (by decide) ?_
        exact Steps.refl _)
  exact ⟨T4, some (.int (1 - cd)), _, _, _, X4, rfl, rfl, rfl, (fun h => by cases h), ⟨rfl, q4.trans hh2⟩, fun fs hl => c6.trans (X4.ireturnOut hexec hret (by rcases hc with rfl | rfl <;> rfl) (Or.inr (Or.inl rfl)) (hb hbytes d18) hl)⟩
end IsL
namespace LChA
def yN : MethodName := ⟨"java/lang/StringLatin1", "charAt", "([BI)C"⟩
abbrev yB : ByteArray := jdk_43_method_2_code
theorem d0 : decode yB 0 = .ok (.iload_n 1, 1) := by decide +kernel
theorem d1 : decode yB 1 = .ok (.aload_n 0, 1) := by decide +kernel
theorem d2 : decode yB 2 = .ok (.arraylength, 1) := by decide +kernel
theorem d3 : decode yB 3 = .ok (.invokestatic 9, 3) := by decide +kernel
theorem d6 : decode yB 6 = .ok (.aload_n 0, 1) := by decide +kernel
theorem d7 : decode yB 7 = .ok (.iload_n 1, 1) := by decide +kernel
theorem d8 : decode yB 8 = .ok (.baload, 1) := by decide +kernel
theorem d9 : decode yB 9 = .ok (.sipush 255, 3) := by decide +kernel
theorem d12 : decode yB 12 = .ok (.iand, 1) := by decide +kernel
theorem d13 : decode yB 13 = .ok (.i2c, 1) := by decide +kernel
theorem d14 : decode yB 14 = .ok (.ireturn, 1) := by decide +kernel
def site : List Cond := [JO.Str_checkIndex.tab] ++ staticW "java/lang/StringLatin1" 9 JO.Str_checkIndex.yN
def tab : Cond := tabOf yN yB 2 (some .char) site
def P (t : Addr) (V : Cell) (i : Nat) (u : Int32) (fm : Value) (args : Array Value) (s : State) : Prop := args = #[.ref t, .int (Int32.ofNat i)] ∧ XT.Arr .byte t V s ∧ V.slots[i]? = some (.int u) ∧ (StaticIs s "jdk/internal/util/Preconditions" "SIOOBE_FORMATTER" "Ljava/util/function/BiFunction;" fm ∧ fm.isRef = true)
def E (u : Int32) (r : Option Value) (s w : State) : Prop := XT.PureE (some (.int (chr8 u))) r s w
theorem law (l : Launch) (t : Addr) (V : Cell) (i : Nat) (u : Int32) (fm : Value) : Law l yN 2 2 2 27 yB 2 (some .char) site (P t V i u fm) (E u) [] 0 0 := by
  refine Law.of_walk (plainFor_of_name (by decide +kernel)) (by decide +kernel) (by decide +kernel) (by decide) (fun _ _ h => by rw [h.1]; rfl) (fun _ U U' hal hh h => ⟨h.1, h.2.1.mv hal hh, h.2.2.1, h.2.2.2.1.there hal hh, h.2.2.2.2⟩) (fun r U U' V V' h1 hal h2 h => XT.PureE.mv r U U' V V' h1 hal h2 h) ?_
  intro p e s m args below meth c s₁ X0 hexec hbytes hml hret hlk hnm hown hh0 W hP
  obtain ⟨rfl, hV, hu, s1, rf⟩ := hP
  have v31 := hV.2.2.2
  have hi : i < V.slots.size := (Array.getElem?_eq_some_iff.mp hu).1
  have c1 : Steps p.tables e below (s₁.setTop (entryFrame m #[.ref t, .int (Int32.ofNat i)] 2)) (s₁.setTop (mkF m 0 #[.val (.ref t), .val (.int (Int32.ofNat i))] [])) := entry rfl
  have c2 : Steps p.tables e below (s₁.setTop (entryFrame m #[.ref t, .int (Int32.ofNat i)] 2)) (s₁.setTop (mkF m 3 #[.val (.ref t), .val (.int (Int32.ofNat i))] [.int (Int32.ofNat V.slots.size), .int (Int32.ofNat i)])) := c1.trans (by
    refine XS.iloadN X0.here hexec rfl (hb hbytes d0) rfl ?_
    refine XS.aloadN X0.here hexec rfl (hb hbytes d1) rfl rfl ?_
    refine X0.alen hexec (hV.mv X0.warmed.alike hh0) rfl rfl (hb hbytes d2) ?_
    exact Steps.refl _)
  obtain ⟨v3, T3, X3, E3, g3⟩ := X0.callS hexec (JO.Str_checkIndex.law l (Int32.ofNat i) (Int32.ofNat V.slots.size) fm) hown (wks W (staticW "java/lang/StringLatin1" 9 JO.Str_checkIndex.yN)) (wk W JO.Str_checkIndex.tab) (W := 0) (Nat.le_of_ble_eq_true rfl) (Nat.le_of_ble_eq_true rfl) (Nat.le_refl _) (Nat.le_refl _) (g := (mkF m 3 #[.val (.ref t), .val (.int (Int32.ofNat i))] [.int (Int32.ofNat V.slots.size), .int (Int32.ofNat i)])) rfl (by rw [hml]; rfl) c2 (argsL := [.int (Int32.ofNat i), .int (Int32.ofNat V.slots.size)]) (rest := []) rfl rfl (by show 2 * 0 + 0 ≤ _; decide) (hb hbytes d3) (⟨rfl, rf, s1.there X0.warmed.alike hh0, Int32.ofNat_not_neg (by omega), lt32 v31 hi⟩)
  obtain ⟨rfl, q3⟩ := E3
  have hh3 := q3.trans hh0
  have c4 : Steps p.tables e below (s₁.setTop (entryFrame m #[.ref t, .int (Int32.ofNat i)] 2)) (T3.setTop (mkF m 14 #[.val (.ref t), .val (.int (Int32.ofNat i))] [.int (chr8 u)])) := Steps.trans g3 (by
    refine XS.aloadN X3.here hexec rfl (hb hbytes d6) rfl rfl ?_
    refine XS.iloadN X3.here hexec rfl (hb hbytes d7) rfl ?_
    refine X3.aget hexec (hV.mv X3.warmed.alike hh3) rfl hu rfl rfl (hb hbytes d8) ?_
    refine sipushV X3.here hexec rfl 255 (hb hbytes d9) (by decide) ?_
    refine XS.iand X3.here hexec rfl (hb hbytes d12) rfl ?_
    refine i2c X3.here hexec rfl (hb hbytes d13) rfl ?_
    exact Steps.refl _)
  exact ⟨T3, some (.int (chr8 u)), _, _, _, X3, rfl, rfl, rfl, (fun h => by cases h), ⟨rfl, hh3⟩, fun fs hl => c4.trans (X3.ireturnOut hexec hret (narrow_c _) (Or.inr (Or.inr (Or.inr (Or.inl rfl)))) (hb hbytes d14) hl)⟩
end LChA
end StrChars
namespace StrChars.Road
open Jvm Sem ClassFile Op Lib Jvm.Stand Jvm.Free Jvm.Free.XT
open Jvm.Lib.Cold (StaticIs)
theorem consq {a : Array Value} {s : State} {c : Jvm.Cond} {L : List Jvm.Cond} (h0 : c.before a s = true) (h : ∀ w ∈ L, w.before a s = true) : ∀ w ∈ c :: L, w.before a s = true := fun w hw => (List.mem_cons.mp hw).elim (fun e => e ▸ h0) (h w)
/-- the words of String.length(), either coding -/
abbrev wordsLen : List Jvm.Cond := [.code Len.yN Len.yB 1 (some .int), .initialized ST, .fieldLink ST 9 ST "value" "[B", .fieldLink ST 38 ST "COMPACT_STRINGS" "Z", .fieldLink ST 15 ST "coder" "B", .code Cdr.yN Cdr.yB 1 (some .byte), .methodLink ST 335 Cdr.yN, .declares Cdr.yN, .selects ST Cdr.yN Cdr.yN, .instanceMethod Cdr.yN]
theorem tabLen_of {a : Array Value} {s : State} (h : ∀ w ∈ wordsLen, w.before a s = true) : Len.tab.before a s = true := by
  have hc : Cdr.tab.before a s = true := unparts (wk h (.code Cdr.yN Cdr.yB 1 (some .byte))) (wks h (.initialized Cdr.yN.cls :: Cdr.site))
  have q := consq hc h
  exact unparts (wk q (.code Len.yN Len.yB 1 (some .int))) (wks q (.initialized Len.yN.cls :: Len.site))
theorem movedLen {Z s : State} {a0 args : Array Value} (hZ : Z.Warmed39 s.vm) (hw : ∀ d ∈ wordsLen, d.before a0 Z = true) : ∀ d ∈ wordsLen, d.before args s = true := fun d hd => by
  have q := hw d hd
  have t : ∀ d ∈ wordsLen, d = .arrayClass .byte ∨ (d.onTables && d.keepsFace) = true := by decide +kernel
  rcases t d hd with rfl | t
  · exact RoadKit.mvA hZ q
  · exact RoadKit.mv hZ q t
/-- the bytes of the chars cs, low before high -/
def wideBytes : List Int32 → List Value
  | [] => []
  | c :: cs => .int (lo8 c) :: .int (hi8 c) :: wideBytes cs
theorem wide_lo (d : Value) : ∀ (cs : List Int32) (j : Nat), j < cs.length → (wideBytes cs).getD (2 * j) d = .int (lo8 (cs.getD j 0))
  | [], j, h => absurd h (Nat.not_lt_zero j)
  | c :: cs, 0, _ => rfl
  | c :: cs, j + 1, h => by
    have q := wide_lo d cs j (by simpa using h)
    rw [show 2 * (j + 1) = 2 * j + 1 + 1 from by omega]
    simpa [wideBytes] using q
theorem wide_hi (d : Value) : ∀ (cs : List Int32) (j : Nat), j < cs.length → (wideBytes cs).getD (2 * j + 1) d = .int (hi8 (cs.getD j 0))
  | [], j, h => absurd h (Nat.not_lt_zero j)
  | c :: cs, 0, _ => rfl
  | c :: cs, j + 1, h => by
    have q := wide_hi d cs j (by simpa using h)
    rw [show 2 * (j + 1) + 1 = 2 * j + 1 + 1 + 1 from by omega]
    simpa [wideBytes] using q
theorem low_at (d : Value) (cs : List Int32) (j : Nat) (h : j < cs.length) : (cs.map fun c => Value.int (lo8 c)).getD j d = .int (lo8 (cs.getD j 0)) := by
  simp [List.getD_eq_getElem?_getD, h]
/-- an array of N2 bytes vs codes the chars cs by the coder cd -/
def CodA (cs : List Int32) (cd N2 : Int32) (vs : List Value) : Prop := (cd = 0 ∧ N2 = Int32.ofNat cs.length ∧ vs = (cs.map fun c => Value.int (lo8 c)) ∧ ∀ c ∈ cs, ¬ 255 < c) ∨ (cd = 1 ∧ N2 = Int32.ofNat (2 * cs.length) ∧ vs = wideBytes cs ∧ ∃ c ∈ cs, 255 < c)
theorem CodA.cod {cs : List Int32} {cd N2 : Int32} {vs : List Value} {V : Cell} (h : CodA cs cd N2 vs) (hn : 2 * cs.length < 2 ^ 31) (hs : V.slots.size = N2.toNatClampNeg) (hv : RoadKit.Has V vs (.int 0)) : Cod cd cs.length (fun j => cs.getD j 0) V := by
  rcases h with ⟨rfl, rfl, rfl, h⟩ | ⟨rfl, rfl, rfl, c, hc, hw⟩
  · rw [n32 (by omega)] at hs
    exact Or.inl ⟨rfl, hs, fun j hj => ⟨by rw [hv j (by omega), low_at _ _ _ hj], by
      have e : cs.getD j 0 = cs[j] := by simp [List.getD_eq_getElem?_getD, hj]
      show ¬ 255 < cs.getD j 0
      rw [e]; exact h _ (List.getElem_mem _)⟩⟩
  · rw [n32 (by omega)] at hs
    obtain ⟨j, hj, rfl⟩ := List.getElem_of_mem hc
    exact Or.inr ⟨rfl, hs, fun j hj => ⟨by rw [hv _ (by omega), wide_lo _ _ _ hj], by rw [hv _ (by omega), wide_hi _ _ _ hj]⟩, j, hj, by
      have e : cs.getD j 0 = cs[j] := by simp [List.getD_eq_getElem?_getD, hj]
      show 255 < cs.getD j 0
      rw [e]; exact hw⟩
/-- an object of exactly java/lang/String, its two fields found: as the laws ask it -/
theorem strObj {Z U : State} {a0 : Array Value} {kI : Nat} (wi : (Jvm.Cond.instantiable ST kI).before a0 Z = true) (al : Z.vm.Alike U.vm) {x : Addr} {v0 c0 : Value} (E : RoadKit.Exa Z U.heap x ST) (V : RoadKit.Fld Z U.heap x ST "value" "[B" v0) (C : RoadKit.Fld Z U.heap x ST "coder" "B" c0) :
    ∃ (D : Cell) (fV fC : Field), Blank ST x D U ∧ Found ST "value" "[B" fV U ∧ Found ST "coder" "B" fC U ∧ D.slots[fV.slot]? = some v0 ∧ D.slots[fC.slot]? = some c0 ∧ RoadKit.slotOf Z ST "value" "[B" = fV.slot ∧ RoadKit.slotOf Z ST "coder" "B" = fC.slot := by
  obtain ⟨D, cfV, kV, iV, fV, hD, gV, stV, knV, obV, asV, slV⟩ := V
  obtain ⟨D', cfC, kC, iC, fC, hD', gC, stC, -, -, asC, slC⟩ := C
  cases hD.symm.trans hD'
  obtain ⟨D2, kD, e1, e2, e3, e4, e5⟩ := E
  cases hD.symm.trans e1
  obtain ⟨c2, k2, i1, i2, i3, -⟩ := Cond.instantiable_spec wi
  cases e2.symm.trans i1
  cases e3.symm.trans i2
  obtain ⟨kU, u1, u2⟩ := al.2.2 _ _ e3
  exact ⟨D, fV, fC, ⟨hD, ⟨knV, fun q hq => by rw [hq] at obV; cases obV⟩, by rw [al.findClass]; exact e2, kU, u1, by rw [u2]; exact i3, by rw [u2]; exact e5 i3⟩, ⟨SBG.found_only al ⟨cfV, kV, iV, gV⟩, stV⟩, ⟨SBG.found_only al ⟨cfC, kC, iC, gC⟩, stC⟩, slV, slC, by simp [RoadKit.slotOf, gV], by simp [RoadKit.slotOf, gC]⟩
theorem sta_is {Z U : State} (al : Z.vm.Alike U.vm) {C n d : String} {v : Value} (S : RoadKit.Sta Z U.heap C n d v) : StaticIs U C n d v := by
  obtain ⟨cfS, iS, kS, fS, st, cS, t1, t2, t3, t4, t5, t6, t7⟩ := S
  exact StaticIs.there (s := { Z with heap := U.heap }) ⟨cfS, iS, kS, fS, st, cS, t1, t2, t3, t4, t5, (fun q => by rw [q] at t6; cases t6), t7⟩ al rfl
/-- **length() OF SUCH A STRING** -/
theorem lenW {p : Program} {l : Launch} {e : Env} {R : Room} {s : State} {args : Array Value} {below : List Frame} {len W : Nat} {Z : State} {a0 : Array Value} {h : Heap} (hZ : Z.Warmed39 s.vm) (hw : ∀ d ∈ wordsLen, d.before a0 Z = true) {kI : Nat} (wi : (Jvm.Cond.instantiable ST kI).before a0 Z = true)
    {x t : Addr} {kb : ClassId} {cs : List Int32} {cd N2 z : Int32} {vs : List Value} (E : RoadKit.Exa Z h x ST) (V : RoadKit.Fld Z h x ST "value" "[B" (.ref t)) (C : RoadKit.Fld Z h x ST "coder" "B" (.int cd)) (K : RoadKit.Arv Z h t kb .byte N2 vs (.int 0)) (hc : CodA cs cd N2 vs) (hb : ∀ c ∈ cs, ¬ c < 0 ∧ ¬ (65535 : Int32) < c)
    (S : RoadKit.Sta Z h ST "COMPACT_STRINGS" "Z" (.int z)) (hz : ¬ z = 0) (l2 : cs.length ≤ 4000) (hfr : 2 ≤ R.frames) (hlo : W + 25 ≤ R.locals) :
    Back l R p e below s args (⟨"java/lang/String", "length", "()I"⟩ : MethodName) len W (fun P a => a = #[.ref x] ∧ P.U.heap = h ∧ P.cells + 0 ≤ R.cells ∧ P.slots + 0 ≤ R.slots)
      (fun P _ v B => ∃ L, (v = some (.int (Int32.ofNat cs.length)) ∧ L = [] ∧ B.U.heap = h) ∧ B.locs = P.locs ++ L ∧ B.cells = P.cells + 0 ∧ B.slots = P.slots + 0) := by
  obtain ⟨A, K1, K2, K3, K4, K5, K6⟩ := K
  have hcod := hc.cod (by omega) K3 K5
  intro m meth c P g ig mk a X hg hsize hdg hW hn hp'
  obtain ⟨rfl, rfl, r1, r2⟩ := hp'
  have al : Z.vm.Alike P.U.vm := hZ.alike.trans X.warmed.alike
  obtain ⟨D, fV, fC, hB, F1, F2, g1, g2, -, -⟩ := strObj wi al E V C
  have hx : Txt x t A cd cs.length (fun j => cs.getD j 0) P.U := ⟨⟨_, hB.2.2.1, D, hB.1, rfl, by cases q : D.vm <;> first | rfl | exact absurd q (hB.2.1.2 _)⟩, Has.of hB F1 g1, Has.of hB F2 g2, ⟨K1.1, State.isArrayOf_alike al K1.2.1, K1.2.2, by rcases hcod with ⟨-, q, -⟩ | ⟨-, q, -⟩ <;> omega⟩, hcod, fun j hj => by
    have e : cs.getD j 0 = cs[j] := by simp [List.getD_eq_getElem?_getD, hj]
    show ¬ cs.getD j 0 < 0 ∧ ¬ 65535 < cs.getD j 0
    rw [e]; exact hb _ (List.getElem_mem _)⟩
  obtain ⟨v, B, X', ⟨⟨hv, hh⟩, hl, hk, hs⟩, st⟩ := Len.pays x t A cd cs.length (fun j => cs.getD j 0) z (tabLen_of (movedLen hZ hw)) hfr hlo m meth c P g ig mk _ X hg hsize hdg hW hn ⟨r1, r2, rfl, hx, sta_is al S, hz⟩
  exact ⟨v, B, X', ⟨[], ⟨hv, rfl, hh⟩, hl, hk, hs⟩, st⟩
end StrChars.Road
namespace StrChars.Road
open Jvm Sem ClassFile Op Lib Jvm.Stand Jvm.Free Jvm.Free.XT
open Jvm.Lib.Cold (StaticIs)
/-- the road's facts of a String, as the laws ask it -/
theorem txt_of {Z U : State} {a0 : Array Value} {kI : Nat} (wi : (Jvm.Cond.instantiable ST kI).before a0 Z = true) (al : Z.vm.Alike U.vm) {x t : Addr} {kb : ClassId} {cs : List Int32} {cd N2 : Int32} {vs : List Value} (E : RoadKit.Exa Z U.heap x ST) (V : RoadKit.Fld Z U.heap x ST "value" "[B" (.ref t)) (C : RoadKit.Fld Z U.heap x ST "coder" "B" (.int cd)) (K : RoadKit.Arv Z U.heap t kb .byte N2 vs (.int 0)) (hc : CodA cs cd N2 vs) (hb : ∀ c ∈ cs, ¬ c < 0 ∧ ¬ (65535 : Int32) < c) (l2 : cs.length ≤ 4000) :
    ∃ A, Txt x t A cd cs.length (fun j => cs.getD j 0) U := by
  obtain ⟨A, K1, K2, K3, K4, K5, K6⟩ := K
  have hcod := hc.cod (by omega) K3 K5
  obtain ⟨D, fV, fC, hB, F1, F2, g1, g2, -, -⟩ := strObj wi al E V C
  exact ⟨A, ⟨_, hB.2.2.1, D, hB.1, rfl, by cases q : D.vm <;> first | rfl | exact absurd q (hB.2.1.2 _)⟩, Has.of hB F1 g1, Has.of hB F2 g2, ⟨K1.1, State.isArrayOf_alike al K1.2.1, K1.2.2, by rcases hcod with ⟨-, q, -⟩ | ⟨-, q, -⟩ <;> omega⟩, hcod, fun j hj => by
    have e : cs.getD j 0 = cs[j] := by simp [List.getD_eq_getElem?_getD, hj]
    show ¬ cs.getD j 0 < 0 ∧ ¬ 65535 < cs.getD j 0
    rw [e]; exact hb _ (List.getElem_mem _)⟩
end StrChars.Road
namespace StrChars
open Jvm Sem ClassFile Op Lib Jvm.Stand Jvm.Free.XT Jvm.Free.ALB Jvm.Free.JM Jvm.Free
open Jvm.Lib.Cold (StaticIs)
namespace ChN
def yN : MethodName := ⟨"java/lang/String", "charAt", "(I)C"⟩
abbrev yB : ByteArray := jdk_42_method_56_code
theorem d0 : decode yB 0 = .ok (.aload_n 0, 1) := by decide +kernel
theorem d1 : decode yB 1 = .ok (.invokevirtual 492, 3) := by decide +kernel
theorem d4 : decode yB 4 = .ok (.ifCond (.eq) 12, 3) := by decide +kernel
theorem d7 : decode yB 7 = .ok (.aload_n 0, 1) := by decide +kernel
theorem d8 : decode yB 8 = .ok (.getfield 9, 3) := by decide +kernel
theorem d11 : decode yB 11 = .ok (.iload_n 1, 1) := by decide +kernel
theorem d12 : decode yB 12 = .ok (.invokestatic 495, 3) := by decide +kernel
theorem d15 : decode yB 15 = .ok (.ireturn, 1) := by decide +kernel
def site : List Cond := [.fieldLink "java/lang/String" 9 "java/lang/String" "value" "[B", IsL.tab, LChA.tab] ++ virtW "java/lang/String" 492 "java/lang/String" IsL.yN IsL.yN ++ staticW "java/lang/String" 495 LChA.yN
def tab : Cond := tabOf yN yB 2 (some .char) site
def P (x t : Addr) (V : Cell) (n : Nat) (f : Nat → Int32) (z : Int32) (fm : Value) (i : Nat) (args : Array Value) (s : State) : Prop := args = #[.ref x, .int (Int32.ofNat i)] ∧ Txt x t V 0 n f s ∧ i < n ∧ StaticIs s "java/lang/String" "COMPACT_STRINGS" "Z" (.int z) ∧ ¬ z = 0 ∧ StaticIs s "jdk/internal/util/Preconditions" "SIOOBE_FORMATTER" "Ljava/util/function/BiFunction;" fm ∧ fm.isRef = true
def E (f : Nat → Int32) (i : Nat) (r : Option Value) (s u : State) : Prop := XT.PureE (some (.int (f i))) r s u
/-- charAt(i) of a Latin-1 String of n chars, i < n: f i -/
theorem law (l : Launch) (x t : Addr) (V : Cell) (n : Nat) (f : Nat → Int32) (z : Int32) (fm : Value) (i : Nat) : Law l yN 2 1 3 40 yB 2 (some .char) site (P x t V n f z fm i) (E f i) [] 0 0 := by
  refine Law.of_walk (plainFor_of_name (by decide +kernel)) (by decide +kernel) (by decide +kernel) (by decide) (fun _ _ h => by rw [h.1]; rfl) (fun _ U U' hal hh h => ⟨h.1, h.2.1.mv hal hh, h.2.2.1, h.2.2.2.1.there hal hh, h.2.2.2.2.1, h.2.2.2.2.2.1.there hal hh, h.2.2.2.2.2.2⟩) (fun r U U' V V' h1 hal h2 h => XT.PureE.mv r U U' V V' h1 hal h2 h) ?_
  intro p e s m args below meth c s₁ X0 hexec hbytes hml hret hlk hnm hown hh0 W hP
  obtain ⟨rfl, hx, hi, s1, hz, s3, rf⟩ := hP
  have v31 := hx.2.2.2.1.2.2.2
  have hr := hx.2.2.2.2.2 i hi
  have hx0 := hx.mv X0.warmed.alike hh0
  have c1 : Steps p.tables e below (s₁.setTop (entryFrame m #[.ref x, .int (Int32.ofNat i)] 2)) (s₁.setTop (mkF m 1 #[.val (.ref x), .val (.int (Int32.ofNat i))] [.ref x])) := Steps.trans (entry rfl) (by
    show Steps p.tables e below (s₁.setTop (mkF m 0 #[.val (.ref x), .val (.int (Int32.ofNat i))] [])) _
    refine XS.aloadN X0.here hexec rfl (hb hbytes d0) rfl rfl ?_
    exact Steps.refl _)
  obtain ⟨v2, T2, X2, E2, g2⟩ := X0.callV hexec (IsL.law l x 0 z) hown (wks W (virtW "java/lang/String" 492 "java/lang/String" IsL.yN IsL.yN)) rfl (by decide) (wk W IsL.tab) (W := 0) (Nat.le_of_ble_eq_true rfl) (Nat.le_of_ble_eq_true rfl) (Nat.le_refl _) (Nat.le_refl _) (hx0.1.fc X0.warmed.alike) hx0.1.is (g := (mkF m 1 #[.val (.ref x), .val (.int (Int32.ofNat i))] [.ref x])) rfl (by rw [hml]; rfl) c1 (argsL := []) (rest := []) rfl rfl (by show 2 * 0 + 0 ≤ _; decide) (hb hbytes d1) (⟨rfl, hx0.2.2.1, hx.2.2.2.2.1.cd, s1.there X0.warmed.alike hh0, hz⟩)
  obtain ⟨rfl, q2⟩ := E2
  have hh2 := q2.trans hh0
  have hx2 := hx.mv X2.warmed.alike hh2
  obtain ⟨-, k1, k2⟩ | ⟨k0, -⟩ := hx.2.2.2.2.1
  · have c3 : Steps p.tables e below (s₁.setTop (entryFrame m #[.ref x, .int (Int32.ofNat i)] 2)) (T2.setTop (mkF m 8 #[.val (.ref x), .val (.int (Int32.ofNat i))] [.ref x])) := Steps.trans g2 (by
      refine XS.ifNo X2.here hexec rfl (hb hbytes d4) rfl (i0_eq_f (by decide)) ?_
      refine XS.aloadN X2.here hexec rfl (hb hbytes d7) rfl rfl ?_
      exact Steps.refl _)
    obtain ⟨T4, X4, q4, st4⟩ := X2.hget hexec hown (wk W (.fieldLink "java/lang/String" 9 "java/lang/String" "value" "[B")) hx2.2.1 (g := (mkF m 8 #[.val (.ref x), .val (.int (Int32.ofNat i))] [.ref x])) rfl (rest := []) rfl (hb hbytes d8)
    have hh4 := q4.trans hh2
    have c5 : Steps p.tables e below (s₁.setTop (entryFrame m #[.ref x, .int (Int32.ofNat i)] 2)) (T4.setTop (mkF m 12 #[.val (.ref x), .val (.int (Int32.ofNat i))] [.int (Int32.ofNat i), .ref t])) := (c3.trans (st4 _ (Steps.refl _))).trans (by
      refine XS.iloadN X4.here hexec rfl (hb hbytes d11) rfl ?_
      exact Steps.refl _)
    obtain ⟨v6, T6, X6, E6, g6⟩ := X4.callS hexec (LChA.law l t V i (lo8 (f i)) fm) hown (wks W (staticW "java/lang/String" 495 LChA.yN)) (wk W LChA.tab) (W := 0) (Nat.le_of_ble_eq_true rfl) (Nat.le_of_ble_eq_true rfl) (Nat.le_refl _) (Nat.le_refl _) (g := (mkF m 12 #[.val (.ref x), .val (.int (Int32.ofNat i))] [.int (Int32.ofNat i), .ref t])) rfl (by rw [hml]; rfl) c5 (argsL := [.ref t, .int (Int32.ofNat i)]) (rest := []) rfl rfl (by show 2 * 0 + 0 ≤ _; decide) (hb hbytes d12) (⟨rfl, hx.2.2.2.1.mv X4.warmed.alike hh4, (k2 i hi).1, s3.there X4.warmed.alike hh4, rf⟩)
    obtain ⟨rfl, q6⟩ := E6
    rw [chr8_lo8 hr.1 (k2 i hi).2] at g6
    exact ⟨T6, some (.int (f i)), _, _, _, X6, rfl, rfl, rfl, (fun h => by cases h), ⟨rfl, q6.trans hh4⟩, fun fs hl => Steps.trans g6 (X6.ireturnOut hexec hret (narrow_ch hr.1 hr.2) (Or.inr (Or.inr (Or.inr (Or.inl rfl)))) (hb hbytes d15) hl)⟩
  · exact absurd k0 (by decide)
theorem pays {l : Launch} {R : Room} {p : Program} {e : Env} {below : List Frame} {s : State} {sargs : Array Value} {len W : Nat} (x t : Addr) (V : Cell) (n : Nat) (f : Nat → Int32) (z : Int32) (fm : Value) (i : Nat) (htab : tab.before sargs s = true) (hfr : 4 ≤ R.frames) (hlo : W + 53 ≤ R.locals) :
    Back l R p e below s sargs yN len W (fun A₁ a₁ => A₁.cells + 0 ≤ R.cells ∧ A₁.slots + 0 ≤ R.slots ∧ P x t V n f z fm i a₁ A₁.U) (fun A₁ _ v₁ B₁ => E f i v₁ A₁.U B₁.U ∧ B₁.locs = A₁.locs ++ [] ∧ B₁.cells = A₁.cells + 0 ∧ B₁.slots = A₁.slots + 0) :=
  (law l x t V n f z fm i).pays htab hfr (by omega)
end ChN
end StrChars
namespace StrChars.Road
open Jvm Sem ClassFile Op Lib Jvm.Stand Jvm.Free Jvm.Free.XT
open Jvm.Lib.Cold (StaticIs)
/-- the words of String.charAt(int), the Latin-1 road alone -/
abbrev wordsChN : List Jvm.Cond := [.code ChN.yN ChN.yB 2 (some .char), .initialized ST, .fieldLink ST 9 ST "value" "[B", .fieldLink ST 38 ST "COMPACT_STRINGS" "Z", .fieldLink ST 15 ST "coder" "B", .code IsL.yN IsL.yB 1 (some .boolean), .methodLink ST 492 IsL.yN, .declares IsL.yN, .selects ST IsL.yN IsL.yN, .instanceMethod IsL.yN,
  .methodLink ST 495 LChA.yN, .static LChA.yN, .code LChA.yN LChA.yB 2 (some .char), .initialized "java/lang/StringLatin1", .methodLink "java/lang/StringLatin1" 9 JO.Str_checkIndex.yN, .static JO.Str_checkIndex.yN, .code JO.Str_checkIndex.yN JO.Str_checkIndex.yB 2 none,
  .fieldLink ST 1053 "jdk/internal/util/Preconditions" "SIOOBE_FORMATTER" "Ljava/util/function/BiFunction;", .methodLink ST 1059 JC.PreCheck.yN, .static JC.PreCheck.yN, .code JC.PreCheck.yN JC.PreCheck.yB 3 (some .int), .initialized "jdk/internal/util/Preconditions"]
theorem tabChN_of {a : Array Value} {s : State} (h : ∀ w ∈ wordsChN, w.before a s = true) : ChN.tab.before a s = true := by
  have hp : JC.PreCheck.tab.before a s = true := unparts (wk h (.code JC.PreCheck.yN JC.PreCheck.yB 3 (some .int))) (wks h (.initialized JC.PreCheck.yN.cls :: JC.PreCheck.site))
  have qk := consq hp h
  have hk : JO.Str_checkIndex.tab.before a s = true := unparts (wk qk (.code JO.Str_checkIndex.yN JO.Str_checkIndex.yB 2 none)) (wks qk (.initialized JO.Str_checkIndex.yN.cls :: JO.Str_checkIndex.site))
  have ql := consq hk h
  have hl : LChA.tab.before a s = true := unparts (wk ql (.code LChA.yN LChA.yB 2 (some .char))) (wks ql (.initialized LChA.yN.cls :: LChA.site))
  have hi : IsL.tab.before a s = true := unparts (wk h (.code IsL.yN IsL.yB 1 (some .boolean))) (wks h (.initialized IsL.yN.cls :: IsL.site))
  have q := consq hi (consq hl h)
  exact unparts (wk q (.code ChN.yN ChN.yB 2 (some .char))) (wks q (.initialized ChN.yN.cls :: ChN.site))
theorem movedChN {Z s : State} {a0 args : Array Value} (hZ : Z.Warmed39 s.vm) (hw : ∀ d ∈ wordsChN, d.before a0 Z = true) : ∀ d ∈ wordsChN, d.before args s = true := fun d hd => by
  have t : ∀ d ∈ wordsChN, (d.onTables && d.keepsFace) = true := by decide +kernel
  exact RoadKit.mv hZ (hw d hd) (t d hd)
/-- **charAt(i) OF A LATIN-1 STRING**, i < n: the char -/
theorem chN {p : Program} {l : Launch} {e : Env} {R : Room} {s : State} {args : Array Value} {below : List Frame} {len W : Nat} {Z : State} {a0 : Array Value} {h : Heap} (hZ : Z.Warmed39 s.vm) (hw : ∀ d ∈ wordsChN, d.before a0 Z = true) {kI : Nat} (wi : (Jvm.Cond.instantiable ST kI).before a0 Z = true)
    {x t : Addr} {kb : ClassId} {cs : List Int32} {N2 z : Int32} {vs : List Value} {fm : Value} {i : Nat} {j : Int32} (E : RoadKit.Exa Z h x ST) (V : RoadKit.Fld Z h x ST "value" "[B" (.ref t)) (C : RoadKit.Fld Z h x ST "coder" "B" (.int 0)) (K : RoadKit.Arv Z h t kb .byte N2 vs (.int 0)) (hc : CodA cs 0 N2 vs) (hb : ∀ c ∈ cs, ¬ c < 0 ∧ ¬ (65535 : Int32) < c)
    (S : RoadKit.Sta Z h ST "COMPACT_STRINGS" "Z" (.int z)) (hz : ¬ z = 0) (F : RoadKit.Sta Z h "jdk/internal/util/Preconditions" "SIOOBE_FORMATTER" "Ljava/util/function/BiFunction;" fm) (rf : fm.isRef = true) (l2 : cs.length ≤ 4000) (hi : i < cs.length) (hj : j = Int32.ofNat i) (hfr : 4 ≤ R.frames) (hlo : W + 53 ≤ R.locals) :
    Back l R p e below s args (⟨"java/lang/String", "charAt", "(I)C"⟩ : MethodName) len W (fun P a => a = #[.ref x, .int j] ∧ P.U.heap = h ∧ P.cells + 0 ≤ R.cells ∧ P.slots + 0 ≤ R.slots)
      (fun P _ v B => ∃ L, (v = some (.int (cs.getD i 0)) ∧ L = [] ∧ B.U.heap = h) ∧ B.locs = P.locs ++ L ∧ B.cells = P.cells + 0 ∧ B.slots = P.slots + 0) := by
  subst hj
  intro m meth c P g ig mk a X hg hsize hdg hW hn hp'
  obtain ⟨rfl, rfl, r1, r2⟩ := hp'
  have al : Z.vm.Alike P.U.vm := hZ.alike.trans X.warmed.alike
  obtain ⟨A, hx⟩ := txt_of wi al E V C K hc hb l2
  obtain ⟨v, B, X', ⟨⟨hv, hh⟩, hl, hk, hs⟩, st⟩ := ChN.pays x t A cs.length (fun j => cs.getD j 0) z fm i (tabChN_of (movedChN hZ hw)) hfr hlo m meth c P g ig mk _ X hg hsize hdg hW hn ⟨r1, r2, rfl, hx, hi, sta_is al S, hz, sta_is al F, rf⟩
  exact ⟨v, B, X', ⟨[], ⟨hv, rfl, hh⟩, hl, hk, hs⟩, st⟩
/-- what backV says of its String, as the contracts of this text ask it: cs's low bytes, coder 0 -/
theorem codOf {cs : List Int32} {n : Nat} (hn : cs.length = n) (hb : ∀ c ∈ cs, ¬ 255 < c) : CodA cs 0 (Int32.ofNat n) ((cs.map lo8).map Value.int) := Or.inl ⟨rfl, by rw [hn], by simp [List.map_map, Function.comp_def], hb⟩
end StrChars.Road
end Jvm.Pilot.@@N@@
namespace Jvm.Pilot.@@N@@
open Jvm Jvm.ClassFile Sem Op Lib Jvm.Free Jvm.Stand Jvm.LawKit Jvm.RoadKit Bundle Jvm.Pilot.@@N@@.Jvm.D
section OwnKit
variable {p : Program} {l : Launch} {e : Env} {R : Room} {s : State} {m : MethodId} {args : Array Value} {below : List Frame} {meth : Method} {c : Code} {T T' : State} {locs : List Loc} {cells slots : Nat} {g g' : JFrame} {G : State → Outcome → Prop} {Z : State} {a0 : Array Value} {h : Heap} {y : MethodName} {own : String} {index : Nat} {bytes : ByteArray} {maxL : Nat} {ret : Option FieldType} {W : Nat} {as' : Array Value} {rc rs : Nat} {Q : Option Value → Heap → List Loc → Prop} {argsL rest : List Value} {a b : Addr} {k : ClassId} {ty : FieldType} {n j : Int32} {vs : List Value} {d v : Value}
/-- the run from this frame comes to the end that the body owes -/
def own_Fin (p : Program) (e : Env) (below : List Frame) (G : State → Outcome → Prop) (T : State) (g : JFrame) : Prop := ∃ s₂ o, Steps p.tables e below (T.setTop g) s₂ ∧ s₂.status = .running ∧ Ended s₂ below o ∧ G s₂ o
theorem own_step (h1 : ∀ t, Steps p.tables e below (T'.setTop g') t → Steps p.tables e below (T.setTop g) t) (k1 : own_Fin p e below G T' g') : own_Fin p e below G T g := by
  obtain ⟨s2, o, q, r⟩ := k1; exact ⟨s2, o, h1 _ q, r⟩
theorem own_cast (q : g = g') (k1 : own_Fin p e below G T g') : own_Fin p e below G T g := q ▸ k1
/-- what a body owes at its end -/
abbrev own_G (s : State) (Q : Option Value → Heap → List Loc → Prop) (rc rs : Nat) : State → Outcome → Prop := fun s₂ o => ∃ v L, o = .returned v ∧ Q v s₂.heap L ∧ FrameEnd s o s₂ L rc rs
theorem own_end (X : Stand p l e R s m args below meth c T locs cells slots) {v : Option Value} (hv : meth.sig.returnType = none → v = none) (hlk : meth.locks = false)
    (st : ∀ fs, (∀ (f : JFrame) (acts : List Action), f.method = m → f.locked = none → f.entered = [] → (doReturn e (T.setTop f) acts v).1 = T.setFrames fs) → Steps p.tables e below (T.setTop g) (T.setFrames fs))
    (hQ : Q v T.heap locs) (hc : cells ≤ rc) (hs : slots ≤ rs) : own_Fin p e below (own_G s Q rc rs) T g := by
  obtain ⟨fs, hr, hrun, hended, hW, hsame⟩ := X.leave hv hlk
  exact ⟨_, _, st fs hr, hrun, hended, v, locs, rfl, hQ, ⟨_, rfl⟩, hW, hsame.mono hc hs⟩
theorem own_cat_int (z : Int32) : (Value.int z).category = 1 := rfl
theorem own_cat_long (z : Int64) : (Value.long z).category = 2 := rfl
theorem own_cat_ref (z : Addr) : (Value.ref z).category = 1 := rfl
theorem own_cat_null : Value.null.category = 1 := rfl
theorem own_narR {w : Value} (h1 : w.isRef = true) {t : FieldType} (ht : t.isReference = true) : narrow t w = w := by cases w <;> cases t <;> first | rfl | (exact absurd h1 (by decide)) | (exact absurd ht (by decide)) | simp_all [Value.isRef, FieldType.isReference]
theorem own_fitR {w : Value} (h1 : w.isRef = true) {t : FieldType} (ht : t.isReference = true) : fits t w = true := by cases w <;> cases t <;> first | rfl | (exact absurd h1 (by decide)) | (exact absurd ht (by decide)) | simp_all [Value.isRef, FieldType.isReference]
theorem own_retI (X : Stand p l e R s m args below meth c T locs cells slots) (hx : p.tables.exec = Jvm.exec) {pc : Nat} {Ls : Array Slot} {z : Int32} (hret : meth.sig.returnType = some .int) (hd : decode c.code pc = .ok (.ireturn, 1)) (hlk : meth.locks = false)
    (hQ : Q (some (.int z)) T.heap locs) (hc : cells ≤ rc) (hs : slots ≤ rs) : own_Fin p e below (own_G s Q rc rs) T (mkF m pc Ls (.int z :: rest)) :=
  own_end X (fun q => by rw [hret] at q; cases q) hlk (fun fs hr => retOut X hx hret rfl (Or.inl ⟨rfl, Or.inl rfl, z, rfl⟩) hd hr) hQ hc hs
theorem own_retN (X : Stand p l e R s m args below meth c T locs cells slots) (hx : p.tables.exec = Jvm.exec) {pc : Nat} {Ls : Array Slot} {z : Int32} {t : FieldType} (hret : meth.sig.returnType = some t) (ht : t = .boolean ∨ t = .byte ∨ t = .char ∨ t = .short) (hd : decode c.code pc = .ok (.ireturn, 1)) (hlk : meth.locks = false)
    (hQ : Q (some (.int (nar t z))) T.heap locs) (hc : cells ≤ rc) (hs : slots ≤ rs) : own_Fin p e below (own_G s Q rc rs) T (mkF m pc Ls (.int z :: rest)) :=
  own_end X (fun q => by rw [hret] at q; cases q) hlk (fun fs hr => retN X hx hret ht hd hr) hQ hc hs
theorem own_retL (X : Stand p l e R s m args below meth c T locs cells slots) (hx : p.tables.exec = Jvm.exec) {pc : Nat} {Ls : Array Slot} {z : Int64} (hret : meth.sig.returnType = some .long) (hd : decode c.code pc = .ok (.lreturn, 1)) (hlk : meth.locks = false)
    (hQ : Q (some (.long z)) T.heap locs) (hc : cells ≤ rc) (hs : slots ≤ rs) : own_Fin p e below (own_G s Q rc rs) T (mkF m pc Ls (.long z :: rest)) :=
  own_end X (fun q => by rw [hret] at q; cases q) hlk (fun fs hr => retOut X hx hret rfl (Or.inr (Or.inl ⟨rfl, rfl, z, rfl⟩)) hd hr) hQ hc hs
theorem own_retA (X : Stand p l e R s m args below meth c T locs cells slots) (hx : p.tables.exec = Jvm.exec) {pc : Nat} {Ls : Array Slot} {w : Value} {t : FieldType} (hret : meth.sig.returnType = some t) (ht : t.isReference = true) (hw : w.isRef = true) (hd : decode c.code pc = .ok (.areturn, 1)) (hlk : meth.locks = false)
    (hQ : Q (some w) T.heap locs) (hc : cells ≤ rc) (hs : slots ≤ rs) : own_Fin p e below (own_G s Q rc rs) T (mkF m pc Ls (w :: rest)) :=
  own_end X (fun q => by rw [hret] at q; cases q) hlk (fun fs hr => retOut X hx hret (own_narR hw ht) (Or.inr (Or.inr (Or.inr (Or.inr ⟨rfl, ht, hw⟩)))) hd hr) hQ hc hs
theorem own_retV (X : Stand p l e R s m args below meth c T locs cells slots) (hx : p.tables.exec = Jvm.exec) {pc : Nat} {Ls : Array Slot} (hret : meth.sig.returnType = none) (hd : decode c.code pc = .ok (.return_, 1)) (hlk : meth.locks = false)
    (hQ : Q none T.heap locs) (hc : cells ≤ rc) (hs : slots ≤ rs) : own_Fin p e below (own_G s Q rc rs) T (mkF m pc Ls []) :=
  own_end X (fun _ => rfl) hlk (fun fs hr => X.returnOut hx hret hd hr) hQ hc hs
/-- the entry -/
theorem own_body {ws : List Jvm.Cond} {rm : Room} {h0 : Heap} (hy : plainFor y = true)
    (body : ∀ p e s m below meth c s₁, BodyLoose p l y (head1 (Jvm.Cond.code y bytes maxL ret :: ws) rm) bytes maxL ret e s m as' below meth c s₁ → c.maxLocals = maxL → Z.Warmed39 s.vm → s₁.heap = h0 → own_Fin p e below (own_G s Q rm.cells rm.slots) s₁ (entryFrame m as' maxL)) :
    MetFree l y (head1 (Jvm.Cond.code y bytes maxL ret :: ws) rm) (fun a U => a = as' ∧ Z.Warmed39 U.vm ∧ U.heap = h0) (fun _ _ _ _ _ => True) (fun _ U o U' => ∃ v L, o = .returned v ∧ Q v U'.heap L ∧ FrameEnd U o U' L rm.cells rm.slots) := by
  refine MetFree.of_bodySF hy hisR ?_
  intro p e s m args below meth c s₁ Bd hml0 hP hK
  obtain ⟨rfl, hZ, hh⟩ := hP
  exact body p e s m below meth c s₁ Bd hml0 hZ (by rw [← hh, Bd.state]; rfl)
/-! calls, each by what pays it -/
theorem own_callS (X : Stand p l e R s m args below meth c T locs cells slots) (hx : p.tables.exec = Jvm.exec) (hZ : Z.Warmed39 s.vm) (hown : s.vm.findClass own = some m.cls) (w1 : (Jvm.Cond.methodLink own index y).before a0 Z = true) (w2 : (Jvm.Cond.static y).before a0 Z = true) (w3 : (Jvm.Cond.initialized y.cls).before a0 Z = true) (w4 : (Jvm.Cond.code y bytes maxL ret).before a0 Z = true)
    (hy : y.cls ≠ "java/lang/invoke/MethodHandle" ∧ y.cls ≠ "java/lang/invoke/VarHandle")
    (hK : Back l R p e below s args y 3 W (fun A a => a = as' ∧ A.U.heap = h ∧ A.cells + rc ≤ R.cells ∧ A.slots + rs ≤ R.slots) (fun A _ v B => ∃ L, Q v B.U.heap L ∧ B.locs = A.locs ++ L ∧ B.cells = A.cells + rc ∧ B.slots = A.slots + rs))
    (eT : T.heap = h) (hc : cells + rc ≤ R.cells) (hs : slots + rs ≤ R.slots) (hg : g.method = m) (hsize : g.locals.size = c.maxLocals) (hlen : ∀ sig, parseMethodDescriptor y.desc = some sig → argsL.length = sig.parameters.length) (hstack : g.stack = argsL.reverse ++ rest) (has : argsL.toArray = as') (hW : 2 * g.monitorRoom + (rest.map fun v => v.category).sum ≤ W) (hd : decode c.code g.pc = .ok (.invokestatic index, 3))
    (k1 : ∀ (v : Option Value) (T' : State) (L : List Loc), Stand p l e R s m args below meth c T' (locs ++ L) (cells + rc) (slots + rs) → Q v T'.heap L → own_Fin p e below G T' { g with pc := g.pc + 3, stack := v.toList ++ rest }) : own_Fin p e below G T g := by
  obtain ⟨v, _, ⟨T2, L2, k2, n2⟩, -, X2, ⟨L, hQ, e1, e2, e3⟩, st⟩ := Jvm.LawKit.callS X hx hown (mvT hZ w1) (mvT hZ w2) (mvT hZ w3) (mvT hZ w4) hy hK hg hsize hlen hstack hW hd (fun _ _ => ⟨has, eT, hc, hs⟩)
  try dsimp only at X2 e1 e2 e3 st hQ
  subst e1 e2 e3
  exact own_step st (k1 v T2 L X2 hQ)
theorem own_callC (X : Stand p l e R s m args below meth c T locs cells slots) (hx : p.tables.exec = Jvm.exec) (hZ : Z.Warmed39 s.vm) (hown : s.vm.findClass own = some m.cls) (hy1 : y.name = "<init>") (w1 : (Jvm.Cond.methodLink own index y).before a0 Z = true) (w2 : (Jvm.Cond.instanceMethod y).before a0 Z = true) (w4 : (Jvm.Cond.code y bytes maxL none).before a0 Z = true)
    (hy : y.cls ≠ "java/lang/invoke/MethodHandle" ∧ y.cls ≠ "java/lang/invoke/VarHandle")
    (hK : Back l R p e below s args y 3 W (fun A a => a = as' ∧ A.U.heap = h ∧ A.cells + rc ≤ R.cells ∧ A.slots + rs ≤ R.slots) (fun A _ v B => ∃ L, Q v B.U.heap L ∧ B.locs = A.locs ++ L ∧ B.cells = A.cells + rc ∧ B.slots = A.slots + rs))
    (eT : T.heap = h) (hc : cells + rc ≤ R.cells) (hs : slots + rs ≤ R.slots) (hg : g.method = m) (hsize : g.locals.size = c.maxLocals) (hlen : ∀ sig, parseMethodDescriptor y.desc = some sig → argsL.length = sig.parameters.length) (hstack : g.stack = argsL.reverse ++ .ref a :: rest) (has : (.ref a :: argsL).toArray = as') (hW : 2 * g.monitorRoom + (rest.map fun v => v.category).sum ≤ W) (hd : decode c.code g.pc = .ok (.invokespecial index, 3))
    (k1 : ∀ (v : Option Value) (T' : State) (L : List Loc), Stand p l e R s m args below meth c T' (locs ++ L) (cells + rc) (slots + rs) → Q v T'.heap L → own_Fin p e below G T' { g with pc := g.pc + 3, stack := v.toList ++ rest }) : own_Fin p e below G T g := by
  obtain ⟨v, _, ⟨T2, L2, k2, n2⟩, -, X2, ⟨L, hQ, e1, e2, e3⟩, st⟩ := X.specialBack hx hy1 hown (mvT hZ w1) (mvT hZ w2) (mvT hZ w4) hy hK hg hsize (Steps.refl _) hlen hstack hW hd (fun _ _ => ⟨has, eT, hc, hs⟩)
  try dsimp only at X2 e1 e2 e3 st hQ
  subst e1 e2 e3
  exact own_step (fun _ q => st.trans q) (k1 v T2 L X2 hQ)
theorem own_callCN {host : String} (X : Stand p l e R s m args below meth c T locs cells slots) (hx : p.tables.exec = Jvm.exec) (hZ : Z.Warmed39 s.vm) (hown : s.vm.findClass own = some m.cls) (hy1 : y.name = "<init>") (w1 : (Jvm.Cond.methodLinkNest own index y host).before a0 Z = true) (w2 : (Jvm.Cond.instanceMethod y).before a0 Z = true) (w4 : (Jvm.Cond.code y bytes maxL none).before a0 Z = true)
    (hy : y.cls ≠ "java/lang/invoke/MethodHandle" ∧ y.cls ≠ "java/lang/invoke/VarHandle")
    (hK : Back l R p e below s args y 3 W (fun A a => a = as' ∧ A.U.heap = h ∧ A.cells + rc ≤ R.cells ∧ A.slots + rs ≤ R.slots) (fun A _ v B => ∃ L, Q v B.U.heap L ∧ B.locs = A.locs ++ L ∧ B.cells = A.cells + rc ∧ B.slots = A.slots + rs))
    (eT : T.heap = h) (hc : cells + rc ≤ R.cells) (hs : slots + rs ≤ R.slots) (hg : g.method = m) (hsize : g.locals.size = c.maxLocals) (hlen : ∀ sig, parseMethodDescriptor y.desc = some sig → argsL.length = sig.parameters.length) (hstack : g.stack = argsL.reverse ++ .ref a :: rest) (has : (.ref a :: argsL).toArray = as') (hW : 2 * g.monitorRoom + (rest.map fun v => v.category).sum ≤ W) (hd : decode c.code g.pc = .ok (.invokespecial index, 3))
    (k1 : ∀ (v : Option Value) (T' : State) (L : List Loc), Stand p l e R s m args below meth c T' (locs ++ L) (cells + rc) (slots + rs) → Q v T'.heap L → own_Fin p e below G T' { g with pc := g.pc + 3, stack := v.toList ++ rest }) : own_Fin p e below G T g := by
  obtain ⟨v, _, ⟨T2, L2, k2, n2⟩, -, X2, ⟨L, hQ, e1, e2, e3⟩, st⟩ := X.specialBackNest hx hy1 hown (Cond.methodLinkNest_wide hZ w1 :) (mvT hZ w2) (mvT hZ w4) hy hK hg hsize (Steps.refl _) hlen hstack hW hd (fun _ _ => ⟨has, eT, hc, hs⟩)
  try dsimp only at X2 e1 e2 e3 st hQ
  subst e1 e2 e3
  exact own_step (fun _ q => st.trans q) (k1 v T2 L X2 hQ)
theorem own_callV {z : MethodName} {C : String} (X : Stand p l e R s m args below meth c T locs cells slots) (hx : p.tables.exec = Jvm.exec) (hZ : Z.Warmed39 s.vm) (hown : s.vm.findClass own = some m.cls) (w1 : (Jvm.Cond.methodLink own index y).before a0 Z = true) (w2 : (Jvm.Cond.declares y).before a0 Z = true) (hnf : NotFace s y) (w3 : (Jvm.Cond.selects C y z).before a0 Z = true) (w4 : (Jvm.Cond.instanceMethod z).before a0 Z = true)
    (hy : y.cls ≠ "java/lang/invoke/MethodHandle" ∧ y.cls ≠ "java/lang/invoke/VarHandle")
    (hK : Back l R p e below s args z 3 W (fun A a => a = as' ∧ A.U.heap = h ∧ A.cells + rc ≤ R.cells ∧ A.slots + rs ≤ R.slots) (fun A _ v B => ∃ L, Q v B.U.heap L ∧ B.locs = A.locs ++ L ∧ B.cells = A.cells + rc ∧ B.slots = A.slots + rs))
    (eT : T.heap = h) (E : Exa Z h a C) (hc : cells + rc ≤ R.cells) (hs : slots + rs ≤ R.slots) (hg : g.method = m) (hsize : g.locals.size = c.maxLocals) (hlen : ∀ sig, parseMethodDescriptor y.desc = some sig → argsL.length = sig.parameters.length) (hstack : g.stack = argsL.reverse ++ .ref a :: rest) (has : (.ref a :: argsL).toArray = as') (hW : 2 * g.monitorRoom + (rest.map fun v => v.category).sum ≤ W) (hd : decode c.code g.pc = .ok (.invokevirtual index, 3))
    (k1 : ∀ (v : Option Value) (T' : State) (L : List Loc), Stand p l e R s m args below meth c T' (locs ++ L) (cells + rc) (slots + rs) → Q v T'.heap L → own_Fin p e below G T' { g with pc := g.pc + 3, stack := v.toList ++ rest }) : own_Fin p e below G T g := by
  obtain ⟨cq, kq, qa, qb, qc⟩ := isOf hZ eT E
  obtain ⟨v, _, ⟨T2, L2, k2, n2⟩, -, X2, ⟨L, hQ, e1, e2, e3⟩, st⟩ := X.virtualBack hx hown (mvT hZ w1) (mvT hZ w2) hnf (mvT hZ w3) (mvT hZ w4) hy hK qa qc hg hsize (Steps.refl _) hlen hstack hW hd (fun _ _ => ⟨has, eT, hc, hs⟩)
  try dsimp only at X2 e1 e2 e3 st hQ
  subst e1 e2 e3
  exact own_step (fun _ q => st.trans q) (k1 v T2 L X2 hQ)
theorem own_callI {z : MethodName} {C : String} {count : Nat} (X : Stand p l e R s m args below meth c T locs cells slots) (hx : p.tables.exec = Jvm.exec) (hZ : Z.Warmed39 s.vm) (hown : s.vm.findClass own = some m.cls) (w1 : (Jvm.Cond.methodLink own index y).before a0 Z = true) (w2 : (Jvm.Cond.declares y).before a0 Z = true) (w3 : (Jvm.Cond.interfaceMethod y.cls y.cls y.name y.desc).before a0 Z = true) (w4 : (Jvm.Cond.selects C y z).before a0 Z = true) (w5 : (Jvm.Cond.instanceMethod z).before a0 Z = true) (w6 : (Jvm.Cond.publicMethod z).before a0 Z = true) (w7 : (Jvm.Cond.unhidden C y.name y.desc).before a0 Z = true) (w8 : (Jvm.Cond.castable C y.cls).before a0 Z = true) (hd3 : ((Jvm.Cond.interfaceMethod y.cls y.cls y.name y.desc).onTables && (Jvm.Cond.interfaceMethod y.cls y.cls y.name y.desc).keepsFace) = true)
    (hy : y.cls ≠ "java/lang/invoke/MethodHandle" ∧ y.cls ≠ "java/lang/invoke/VarHandle")
    (hK : Back l R p e below s args z 5 W (fun A a => a = as' ∧ A.U.heap = h ∧ A.cells + rc ≤ R.cells ∧ A.slots + rs ≤ R.slots) (fun A _ v B => ∃ L, Q v B.U.heap L ∧ B.locs = A.locs ++ L ∧ B.cells = A.cells + rc ∧ B.slots = A.slots + rs))
    (eT : T.heap = h) (E : Exa Z h a C) (hc : cells + rc ≤ R.cells) (hs : slots + rs ≤ R.slots) (hg : g.method = m) (hsize : g.locals.size = c.maxLocals) (hlen : ∀ sig, parseMethodDescriptor y.desc = some sig → argsL.length = sig.parameters.length) (hstack : g.stack = argsL.reverse ++ .ref a :: rest) (has : (.ref a :: argsL).toArray = as') (hW : 2 * g.monitorRoom + (rest.map fun v => v.category).sum ≤ W) (hd : decode c.code g.pc = .ok (.invokeinterface index count, 5))
    (k1 : ∀ (v : Option Value) (T' : State) (L : List Loc), Stand p l e R s m args below meth c T' (locs ++ L) (cells + rc) (slots + rs) → Q v T'.heap L → own_Fin p e below G T' { g with pc := g.pc + 5, stack := v.toList ++ rest }) : own_Fin p e below G T g := by
  obtain ⟨cq, kq, qa, qb, qc⟩ := isOf hZ eT E
  obtain ⟨v, _, ⟨T2, L2, k2, n2⟩, -, X2, ⟨L, hQ, e1, e2, e3⟩, st⟩ := X.interfaceBack hx hown (mvT hZ w1) (mvT hZ w2) (mvT hZ w3 hd3) (mvT hZ w4) (mvT hZ w5) (mvT hZ w6) (mvT hZ w7) (mvT hZ w8) hy hK qa qb qc hg hsize (Steps.refl _) hlen hstack hW hd (fun _ _ => ⟨has, eT, hc, hs⟩)
  try dsimp only at X2 e1 e2 e3 st hQ
  subst e1 e2 e3
  exact own_step (fun _ q => st.trans q) (k1 v T2 L X2 hQ)
theorem own_selP (hZ : Z.Warmed39 s.vm) {kn : Nat} (wi : (Jvm.Cond.instantiable y.cls kn).before a0 Z = true) (w2 : (Jvm.Cond.instanceMethod y).before a0 Z = true) (w4 : (Jvm.Cond.privateMethod y).before a0 Z = true) (hy : y.cls ≠ "java/lang/invoke/MethodHandle" ∧ y.cls ≠ "java/lang/invoke/VarHandle") : (Jvm.Cond.selects y.cls y y).before args s = true := by
  obtain ⟨cc, kk, h1, h2, -, h4, -⟩ := Cond.instantiable_spec (mvT (args := args) hZ wi)
  exact selects_self_of_private h1 h2 (by simp at h4; exact h4.1) (Cond.privateMethod_at (mvP hZ w4 (args := #[]))) (mvT hZ w2) hy
theorem own_callP {C : String} (X : Stand p l e R s m args below meth c T locs cells slots) (hx : p.tables.exec = Jvm.exec) (hZ : Z.Warmed39 s.vm) (hown : s.vm.findClass own = some m.cls) (w1 : (Jvm.Cond.methodLink own index y).before a0 Z = true) (w2 : (Jvm.Cond.instanceMethod y).before a0 Z = true) (w3 : (Jvm.Cond.selects y.cls y y).before args s = true) (w4 : (Jvm.Cond.privateMethod y).before a0 Z = true) (w5 : (Jvm.Cond.code y bytes maxL ret).before a0 Z = true)
    (hy : y.cls ≠ "java/lang/invoke/MethodHandle" ∧ y.cls ≠ "java/lang/invoke/VarHandle")
    (hK : Back l R p e below s args y 3 W (fun A a => a = as' ∧ A.U.heap = h ∧ A.cells + rc ≤ R.cells ∧ A.slots + rs ≤ R.slots) (fun A _ v B => ∃ L, Q v B.U.heap L ∧ B.locs = A.locs ++ L ∧ B.cells = A.cells + rc ∧ B.slots = A.slots + rs))
    (eT : T.heap = h) (E : Exa Z h a C) (hc : cells + rc ≤ R.cells) (hs : slots + rs ≤ R.slots) (hg : g.method = m) (hsize : g.locals.size = c.maxLocals) (hlen : ∀ sig, parseMethodDescriptor y.desc = some sig → argsL.length = sig.parameters.length) (hstack : g.stack = argsL.reverse ++ .ref a :: rest) (has : (.ref a :: argsL).toArray = as') (hW : 2 * g.monitorRoom + (rest.map fun v => v.category).sum ≤ W) (hd : decode c.code g.pc = .ok (.invokevirtual index, 3))
    (k1 : ∀ (v : Option Value) (T' : State) (L : List Loc), Stand p l e R s m args below meth c T' (locs ++ L) (cells + rc) (slots + rs) → Q v T'.heap L → own_Fin p e below G T' { g with pc := g.pc + 3, stack := v.toList ++ rest }) : own_Fin p e below G T g := by
  obtain ⟨cq, q, q'⟩ := E.cell
  obtain ⟨v, _, ⟨T2, L2, k2, n2⟩, -, X2, ⟨L, hQ, e1, e2, e3⟩, st⟩ := X.privateBack hx hown (mvT hZ w1) (mvT hZ w2) w3 (Cond.privateMethod_at (mvP hZ w4 (args := #[]))) (mvT hZ w5) hy hK hg hsize (Steps.refl _) (a := a) (by rw [eT]; exact q) q' hlen hstack hW hd (fun _ _ => ⟨has, eT, hc, hs⟩)
  try dsimp only at X2 e1 e2 e3 st hQ
  subst e1 e2 e3
  exact own_step (fun _ q => st.trans q) (k1 v T2 L X2 hQ)
/-! arrays -/
theorem own_ldC (X : Stand p l e R s m args below meth c T locs cells slots) (hx : p.tables.exec = Jvm.exec) (hZ : Z.Warmed39 s.vm) (eT : T.heap = h) (F : Arv Z h a k .char n vs d) (hj : ¬ j < 0 ∧ j < n) (hu : vs.getD j.toNatClampNeg d = v) (hg : g.method = m) (hs : g.stack = .int j :: .ref a :: rest) (hd : decode c.code g.pc = .ok (.caload, 1)) : ∀ t, Steps p.tables e below (T.setTop { g with pc := g.pc + 1, stack := v :: rest }) t → Steps p.tables e below (T.setTop g) t := by
  obtain ⟨cl, A, q1, S, q3, H, q5⟩ := F
  exact fun t k1 => X.caload hx (by rw [eT]; exact A.1) (State.isArrayOf_alike hZ.alike A.2.1) A.2.2 (inb_of S hj) (H.at (inb_of S hj) hu) hg hs hd t k1
theorem own_ldI (X : Stand p l e R s m args below meth c T locs cells slots) (hx : p.tables.exec = Jvm.exec) (hZ : Z.Warmed39 s.vm) (eT : T.heap = h) (F : Arv Z h a k .int n vs d) (hj : ¬ j < 0 ∧ j < n) (hu : vs.getD j.toNatClampNeg d = v) (hg : g.method = m) (hs : g.stack = .int j :: .ref a :: rest) (hd : decode c.code g.pc = .ok (.iaload, 1)) : ∀ t, Steps p.tables e below (T.setTop { g with pc := g.pc + 1, stack := v :: rest }) t → Steps p.tables e below (T.setTop g) t := by
  obtain ⟨cl, A, q1, S, q3, H, q5⟩ := F
  exact fun t k1 => X.iaload hx (by rw [eT]; exact A.1) (State.isArrayOf_alike hZ.alike A.2.1) A.2.2 (inb_of S hj) (H.at (inb_of S hj) hu) hg hs hd t k1
theorem own_ldJ (X : Stand p l e R s m args below meth c T locs cells slots) (hx : p.tables.exec = Jvm.exec) (hZ : Z.Warmed39 s.vm) (eT : T.heap = h) (F : Arv Z h a k .long n vs d) (hj : ¬ j < 0 ∧ j < n) (hu : vs.getD j.toNatClampNeg d = v) (hg : g.method = m) (hs : g.stack = .int j :: .ref a :: rest) (hd : decode c.code g.pc = .ok (.laload, 1)) : ∀ t, Steps p.tables e below (T.setTop { g with pc := g.pc + 1, stack := v :: rest }) t → Steps p.tables e below (T.setTop g) t := by
  obtain ⟨cl, A, q1, S, q3, H, q5⟩ := F
  exact fun t k1 => X.laload hx (by rw [eT]; exact A.1) (State.isArrayOf_alike hZ.alike A.2.1) A.2.2 (inb_of S hj) (H.at (inb_of S hj) hu) hg hs hd t k1
theorem own_ldB (X : Stand p l e R s m args below meth c T locs cells slots) (hx : p.tables.exec = Jvm.exec) (hZ : Z.Warmed39 s.vm) (eT : T.heap = h) (F : Arv Z h a k .byte n vs d) (hj : ¬ j < 0 ∧ j < n) (hu : vs.getD j.toNatClampNeg d = v) (hg : g.method = m) (hs : g.stack = .int j :: .ref a :: rest) (hd : decode c.code g.pc = .ok (.baload, 1)) : ∀ t, Steps p.tables e below (T.setTop { g with pc := g.pc + 1, stack := v :: rest }) t → Steps p.tables e below (T.setTop g) t := by
  obtain ⟨cl, A, q1, S, q3, H, q5⟩ := F
  exact fun t k1 => X.baloadBytes hx (by rw [eT]; exact A.1) (State.isArrayOf_alike hZ.alike A.2.1) A.2.2 (inb_of S hj) (H.at (inb_of S hj) hu) hg hs hd t k1
theorem own_ldA (X : Stand p l e R s m args below meth c T locs cells slots) (hx : p.tables.exec = Jvm.exec) (hZ : Z.Warmed39 s.vm) (eT : T.heap = h) (F : Arv Z h a k ty n vs d) (hty : ty.isReference = true) (hj : ¬ j < 0 ∧ j < n) (hu : vs.getD j.toNatClampNeg d = v) (hg : g.method = m) (hs : g.stack = .int j :: .ref a :: rest) (hd : decode c.code g.pc = .ok (.aaload, 1)) : ∀ t, Steps p.tables e below (T.setTop { g with pc := g.pc + 1, stack := v :: rest }) t → Steps p.tables e below (T.setTop g) t := by
  obtain ⟨cl, A, q1, S, q3, H, q5⟩ := F
  exact fun t k1 => X.aaload hx (by rw [eT]; exact A.1) (State.isArrayOf_alike hZ.alike A.2.1) hty A.2.2 (inb_of S hj) (H.at (inb_of S hj) hu) hg hs hd t k1
theorem own_len (X : Stand p l e R s m args below meth c T locs cells slots) (hx : p.tables.exec = Jvm.exec) (hZ : Z.Warmed39 s.vm) (eT : T.heap = h) (F : Arv Z h a k ty n vs d) (hg : g.method = m) (hs : g.stack = .ref a :: rest) (hd : decode c.code g.pc = .ok (.arraylength, 1)) : ∀ t, Steps p.tables e below (T.setTop { g with pc := g.pc + 1, stack := .int n :: rest }) t → Steps p.tables e below (T.setTop g) t := by
  obtain ⟨cl, A, q1, S, q3, H, q5⟩ := F
  refine fun t k1 => X.arraylength hx (by rw [eT]; exact A.1) (State.isArrayOf_alike hZ.alike A.2.1) hg hs hd t ?_
  rw [len_of S q3]; exact k1
theorem own_stC (X : Stand p l e R s m args below meth c T locs cells slots) (hx : p.tables.exec = Jvm.exec) (hZ : Z.Warmed39 s.vm) (eT : T.heap = h) (F : Arv Z h a k .char n vs d) {x : Int32} (hj : ¬ j < 0 ∧ j < n) {i : Nat} (hi : j.toNatClampNeg = i) (hl : i < vs.length) (hg : g.method = m) (hs : g.stack = .int x :: .int j :: .ref a :: rest) (hd : decode c.code g.pc = .ok (.castore, 1)) :
    ∃ T' h', Stand p l e R s m args below meth c T' (locs ++ [⟨a, j.toNatClampNeg⟩]) cells slots ∧ T'.heap = h' ∧ Wr h h' a j.toNatClampNeg (.int (nar .char x)) ∧ Arv Z h' a k .char n (vs.set i (.int (nar .char x))) d ∧ ∀ t, Steps p.tables e below (T'.setTop { g with pc := g.pc + 1, stack := rest }) t → Steps p.tables e below (T.setTop g) t := by
  obtain ⟨cl, A, q1, S, q3, H, q5⟩ := F
  obtain ⟨T', h', X', e', W', st⟩ := stC X hx hZ eT A (inb_of S hj) hg hs hd
  exact ⟨T', h', X', e', W', Arv.set A q1 S q3 H q5 (fits_nar_char _) W' i hi hl, st⟩
theorem own_stI (X : Stand p l e R s m args below meth c T locs cells slots) (hx : p.tables.exec = Jvm.exec) (hZ : Z.Warmed39 s.vm) (eT : T.heap = h) (F : Arv Z h a k .int n vs d) {x : Int32} (hj : ¬ j < 0 ∧ j < n) {i : Nat} (hi : j.toNatClampNeg = i) (hl : i < vs.length) (hg : g.method = m) (hs : g.stack = .int x :: .int j :: .ref a :: rest) (hd : decode c.code g.pc = .ok (.iastore, 1)) :
    ∃ T' h', Stand p l e R s m args below meth c T' (locs ++ [⟨a, j.toNatClampNeg⟩]) cells slots ∧ T'.heap = h' ∧ Wr h h' a j.toNatClampNeg (.int x) ∧ Arv Z h' a k .int n (vs.set i (.int x)) d ∧ ∀ t, Steps p.tables e below (T'.setTop { g with pc := g.pc + 1, stack := rest }) t → Steps p.tables e below (T.setTop g) t := by
  obtain ⟨cl, A, q1, S, q3, H, q5⟩ := F
  obtain ⟨T', h', X', e', W', st⟩ := stI X hx hZ eT A (inb_of S hj) hg hs hd
  exact ⟨T', h', X', e', W', Arv.set A q1 S q3 H q5 rfl W' i hi hl, st⟩
theorem own_stJ (X : Stand p l e R s m args below meth c T locs cells slots) (hx : p.tables.exec = Jvm.exec) (hZ : Z.Warmed39 s.vm) (eT : T.heap = h) (F : Arv Z h a k .long n vs d) {x : Int64} (hj : ¬ j < 0 ∧ j < n) {i : Nat} (hi : j.toNatClampNeg = i) (hl : i < vs.length) (hg : g.method = m) (hs : g.stack = .long x :: .int j :: .ref a :: rest) (hd : decode c.code g.pc = .ok (.lastore, 1)) :
    ∃ T' h', Stand p l e R s m args below meth c T' (locs ++ [⟨a, j.toNatClampNeg⟩]) cells slots ∧ T'.heap = h' ∧ Wr h h' a j.toNatClampNeg (.long x) ∧ Arv Z h' a k .long n (vs.set i (.long x)) d ∧ ∀ t, Steps p.tables e below (T'.setTop { g with pc := g.pc + 1, stack := rest }) t → Steps p.tables e below (T.setTop g) t := by
  obtain ⟨cl, A, q1, S, q3, H, q5⟩ := F
  obtain ⟨T', h', X', e', W', st⟩ := stJ X hx hZ eT A (inb_of S hj) hg hs hd
  exact ⟨T', h', X', e', W', Arv.set A q1 S q3 H q5 rfl W' i hi hl, st⟩
theorem own_stB (X : Stand p l e R s m args below meth c T locs cells slots) (hx : p.tables.exec = Jvm.exec) (hZ : Z.Warmed39 s.vm) (eT : T.heap = h) (F : Arv Z h a k .byte n vs d) {x : Int32} (hj : ¬ j < 0 ∧ j < n) {i : Nat} (hi : j.toNatClampNeg = i) (hl : i < vs.length) (hg : g.method = m) (hs : g.stack = .int x :: .int j :: .ref a :: rest) (hd : decode c.code g.pc = .ok (.bastore, 1)) :
    ∃ T' h', Stand p l e R s m args below meth c T' (locs ++ [⟨a, j.toNatClampNeg⟩]) cells slots ∧ T'.heap = h' ∧ Wr h h' a j.toNatClampNeg (.int x.toInt8.toInt32) ∧ Arv Z h' a k .byte n (vs.set i (.int x.toInt8.toInt32)) d ∧ ∀ t, Steps p.tables e below (T'.setTop { g with pc := g.pc + 1, stack := rest }) t → Steps p.tables e below (T.setTop g) t := by
  obtain ⟨cl, A, q1, S, q3, H, q5⟩ := F
  obtain ⟨T', h', X', e', W', st⟩ := stB X hx hZ eT A (inb_of S hj) hg hs hd
  exact ⟨T', h', X', e', W', Arv.set A q1 S q3 H q5 (fits_nar_byte _) W' i hi hl, st⟩
theorem own_stR (X : Stand p l e R s m args below meth c T locs cells slots) (hx : p.tables.exec = Jvm.exec) (hZ : Z.Warmed39 s.vm) (eT : T.heap = h) (F : Arv Z h a k ty n vs d) (hty : ty.isReference = true) {x : Value} (hxr : fits ty x = true) (hsto : ∀ cl, Arr Z h a cl ty → cl.cls = k → Sto Z h a x) (hj : ¬ j < 0 ∧ j < n) {i : Nat} (hi : j.toNatClampNeg = i) (hl : i < vs.length) (hg : g.method = m) (hs : g.stack = x :: .int j :: .ref a :: rest) (hd : decode c.code g.pc = .ok (.aastore, 1)) :
    ∃ T' h', Stand p l e R s m args below meth c T' (locs ++ [⟨a, j.toNatClampNeg⟩]) cells slots ∧ T'.heap = h' ∧ Wr h h' a j.toNatClampNeg x ∧ Arv Z h' a k ty n (vs.set i x) d ∧ ∀ t, Steps p.tables e below (T'.setTop { g with pc := g.pc + 1, stack := rest }) t → Steps p.tables e below (T.setTop g) t := by
  obtain ⟨cl, A, q1, S, q3, H, q5⟩ := F
  obtain ⟨T', h', X', e', W', st⟩ := stR X hx hZ eT A (inb_of S hj) hty (hsto cl A q1) hg hs hd
  exact ⟨T', h', X', e', W', Arv.set A q1 S q3 H q5 hxr W' i hi hl, st⟩
/-! small things -/
theorem own_ne {x y n : Nat} (h1 : x < n) (h2 : n ≤ y) : x ≠ y := Nat.ne_of_lt (Nat.lt_of_lt_of_le h1 h2)
theorem own_lt {x n n' : Nat} (h1 : x < n) (h2 : n ≤ n') : x < n' := Nat.lt_of_lt_of_le h1 h2
theorem own_arr_ne {ty' : FieldType} {k' : ClassId} {n' : Int32} {vs' : List Value} {d' : Value} (A : Arv Z h a k ty n vs d) (B : Arv Z h b k' ty' n' vs' d') (ht : ty ≠ ty') : a ≠ b := fun q => by
  subst q
  obtain ⟨c1, ⟨h1, ⟨-, kk, g1, comp, g2⟩, -⟩, -⟩ := A
  obtain ⟨c2, ⟨h2, ⟨-, kk', g3, comp', g4⟩, -⟩, -⟩ := B
  cases h1.symm.trans h2
  cases g1.symm.trans g3
  have := g2.symm.trans g4
  cases this
  exact ht rfl
theorem own_and255 (x : Int32) : ¬ nar .char ((x &&& (255 : Int32)).toUInt32.toUInt16.toUInt32.toInt32) < 0 ∧ ¬ (255 : Int32) < nar .char ((x &&& (255 : Int32)).toUInt32.toUInt16.toUInt32.toInt32) := by
  have t : ∀ k : Fin 256, ¬ nar .char ((Int32.ofNat k.val).toUInt32.toUInt16.toUInt32.toInt32) < 0 ∧ ¬ (255 : Int32) < nar .char ((Int32.ofNat k.val).toUInt32.toUInt16.toUInt32.toInt32) := by decide +kernel
  have h : (x &&& 255).toBitVec.toNat < 256 := by
    simp only [Int32.toBitVec_and, BitVec.toNat_and]
    exact Nat.lt_succ_of_le Nat.and_le_right
  have e : (x &&& 255) = Int32.ofNat (x &&& 255).toBitVec.toNat := by
    apply Int32.toBitVec_inj.mp
    show _ = BitVec.ofNat 32 _
    rw [BitVec.ofNat_toNat]; simp
  rw [e]
  exact t ⟨_, h⟩
theorem own_up (cs : List Int32) (h : ∀ c ∈ cs, ¬ c < 0 ∧ ¬ (255 : Int32) < c) : ∀ c ∈ cs, ¬ c < 0 ∧ ¬ (65535 : Int32) < c := fun c hc => ⟨(h c hc).1, fun q => (h c hc).2 (by rw [Int32.lt_iff_toInt_lt] at q ⊢; have e1 : (65535 : Int32).toInt = 65535 := rfl; have e2 : (255 : Int32).toInt = 255 := rfl; omega)⟩
theorem own_all0 {P : Int32 → Prop} : ∀ c ∈ ([] : List Int32), P c := fun _ q => nomatch q
theorem own_allS {P : Int32 → Prop} {x : Int32} {L : List Int32} (q : P x) (r : ∀ c ∈ L, P c) : ∀ c ∈ x :: L, P c := fun c z => (List.mem_cons.mp z).elim (fun u => u ▸ q) (r c)
end OwnKit
end Jvm.Pilot.@@N@@
namespace Jvm.Pilot.@@N@@
open Jvm Jvm.ClassFile Sem Op Lib Jvm.Free Jvm.Stand Jvm.LawKit Jvm.RoadKit Bundle Jvm.Pilot.@@N@@.Jvm.D
theorem own_ws {Z : State} {a0 : Array Value} (hw : ∀ d ∈ tables_1, d.before a0 Z = true) : ∀ d ∈ StrChars.Road.words, d.before a0 Z = true := fun d hd => hw d ((by decide +kernel : ∀ d ∈ StrChars.Road.words, d ∈ tables_1) d hd)
theorem own_wl {Z : State} {a0 : Array Value} (hw : ∀ d ∈ tables_1, d.before a0 Z = true) : ∀ d ∈ StrChars.Road.wordsLen, d.before a0 Z = true := fun d hd => hw d ((by decide +kernel : ∀ d ∈ StrChars.Road.wordsLen, d ∈ tables_1) d hd)
theorem own_wc {Z : State} {a0 : Array Value} (hw : ∀ d ∈ tables_1, d.before a0 Z = true) : ∀ d ∈ StrChars.Road.wordsChN, d.before a0 Z = true := fun d hd => hw d ((by decide +kernel : ∀ d ∈ StrChars.Road.wordsChN, d ∈ tables_1) d hd)
theorem w0 {Z : State} {a0 : Array Value} (hw : ∀ d ∈ tables_1, d.before a0 Z = true) : Jvm.Cond.before (Jvm.Cond.arrayClass Jvm.ClassFile.FieldType.char) a0 Z = true := hw _ (List.mem_of_getElem? (i := 0) rfl)
theorem w1 {Z : State} {a0 : Array Value} (hw : ∀ d ∈ tables_1, d.before a0 Z = true) : Jvm.Cond.before (Jvm.Cond.classLink "com/example/nameid/nameid/saml/ServiceProviderNamePinLaw" (7 : Nat) "java/lang/String") a0 Z = true := hw _ (List.mem_of_getElem? (i := 1) rfl)
theorem w2 {Z : State} {a0 : Array Value} (hw : ∀ d ∈ tables_1, d.before a0 Z = true) : Jvm.Cond.before (Jvm.Cond.instantiable "java/lang/String" (4 : Nat)) a0 Z = true := hw _ (List.mem_of_getElem? (i := 2) rfl)
theorem w3 {Z : State} {a0 : Array Value} (hw : ∀ d ∈ tables_1, d.before a0 Z = true) : Jvm.Cond.before (Jvm.Cond.initialized "java/lang/String") a0 Z = true := hw _ (List.mem_of_getElem? (i := 3) rfl)
theorem w4 {Z : State} {a0 : Array Value} (hw : ∀ d ∈ tables_1, d.before a0 Z = true) : Jvm.Cond.before (Jvm.Cond.methodLink "com/example/nameid/nameid/saml/ServiceProviderNamePinLaw" (9 : Nat) ({ cls := "java/lang/String", name := "<init>", desc := "([C)V" } : Jvm.MethodName)) a0 Z = true := hw _ (List.mem_of_getElem? (i := 4) rfl)
theorem w5 {Z : State} {a0 : Array Value} (hw : ∀ d ∈ tables_1, d.before a0 Z = true) : Jvm.Cond.before (Jvm.Cond.instanceMethod ({ cls := "java/lang/String", name := "<init>", desc := "([C)V" } : Jvm.MethodName)) a0 Z = true := hw _ (List.mem_of_getElem? (i := 5) rfl)
theorem w6 {Z : State} {a0 : Array Value} (hw : ∀ d ∈ tables_1, d.before a0 Z = true) : Jvm.Cond.before (Jvm.Cond.code ({ cls := "java/lang/String", name := "<init>", desc := "([C)V" } : Jvm.MethodName) jdk_42_method_3_code (2 : Nat) (Option.none : Option Jvm.ClassFile.FieldType)) a0 Z = true := hw _ (List.mem_of_getElem? (i := 6) rfl)
theorem w12 {Z : State} {a0 : Array Value} (hw : ∀ d ∈ tables_1, d.before a0 Z = true) : Jvm.Cond.before (Jvm.Cond.instanceMethod ({ cls := "java/lang/Object", name := "<init>", desc := "()V" } : Jvm.MethodName)) a0 Z = true := hw _ (List.mem_of_getElem? (i := 12) rfl)
theorem w13 {Z : State} {a0 : Array Value} (hw : ∀ d ∈ tables_1, d.before a0 Z = true) : Jvm.Cond.before (Jvm.Cond.code ({ cls := "java/lang/Object", name := "<init>", desc := "()V" } : Jvm.MethodName) object_method_1_code (1 : Nat) (Option.none : Option Jvm.ClassFile.FieldType)) a0 Z = true := hw _ (List.mem_of_getElem? (i := 13) rfl)
theorem w27 {Z : State} {a0 : Array Value} (hw : ∀ d ∈ tables_1, d.before a0 Z = true) : Jvm.Cond.before (Jvm.Cond.laysFinal "java/lang/String" "java/lang/String" "coder" "B") a0 Z = true := hw _ (List.mem_of_getElem? (i := 27) rfl)
theorem w29 {Z : State} {a0 : Array Value} (hw : ∀ d ∈ tables_1, d.before a0 Z = true) : Jvm.Cond.before (Jvm.Cond.laysFinal "java/lang/String" "java/lang/String" "value" "[B") a0 Z = true := hw _ (List.mem_of_getElem? (i := 29) rfl)
theorem w30 {Z : State} {a0 : Array Value} (hw : ∀ d ∈ tables_1, d.before a0 Z = true) : Jvm.Cond.before (Jvm.Cond.classLink "com/example/nameid/nameid/saml/ServiceProviderNamePinLaw" (12 : Nat) "com/example/nameid/nameid/saml/ServiceProvider") a0 Z = true := hw _ (List.mem_of_getElem? (i := 30) rfl)
theorem w31 {Z : State} {a0 : Array Value} (hw : ∀ d ∈ tables_1, d.before a0 Z = true) : Jvm.Cond.before (Jvm.Cond.instantiable "com/example/nameid/nameid/saml/ServiceProvider" (8 : Nat)) a0 Z = true := hw _ (List.mem_of_getElem? (i := 31) rfl)
theorem w32 {Z : State} {a0 : Array Value} (hw : ∀ d ∈ tables_1, d.before a0 Z = true) : Jvm.Cond.before (Jvm.Cond.initialized "com/example/nameid/nameid/saml/ServiceProvider") a0 Z = true := hw _ (List.mem_of_getElem? (i := 32) rfl)
theorem w33 {Z : State} {a0 : Array Value} (hw : ∀ d ∈ tables_1, d.before a0 Z = true) : Jvm.Cond.before (Jvm.Cond.methodLink "com/example/nameid/nameid/saml/ServiceProviderNamePinLaw" (14 : Nat) ({ cls := "com/example/nameid/nameid/saml/ServiceProvider", name := "<init>", desc := "(Ljava/lang/String;Ljava/lang/String;Ljava/util/List;Ljava/util/List;Ljava/util/List;Ljava/util/List;Ljava/util/List;Ljava/util/List;)V" } : Jvm.MethodName)) a0 Z = true := hw _ (List.mem_of_getElem? (i := 33) rfl)
theorem w34 {Z : State} {a0 : Array Value} (hw : ∀ d ∈ tables_1, d.before a0 Z = true) : Jvm.Cond.before (Jvm.Cond.instanceMethod ({ cls := "com/example/nameid/nameid/saml/ServiceProvider", name := "<init>", desc := "(Ljava/lang/String;Ljava/lang/String;Ljava/util/List;Ljava/util/List;Ljava/util/List;Ljava/util/List;Ljava/util/List;Ljava/util/List;)V" } : Jvm.MethodName)) a0 Z = true := hw _ (List.mem_of_getElem? (i := 34) rfl)
theorem w35 {Z : State} {a0 : Array Value} (hw : ∀ d ∈ tables_1, d.before a0 Z = true) : Jvm.Cond.before (Jvm.Cond.code ({ cls := "com/example/nameid/nameid/saml/ServiceProvider", name := "<init>", desc := "(Ljava/lang/String;Ljava/lang/String;Ljava/util/List;Ljava/util/List;Ljava/util/List;Ljava/util/List;Ljava/util/List;Ljava/util/List;)V" } : Jvm.MethodName) prog_50_method_1_code (9 : Nat) (Option.none : Option Jvm.ClassFile.FieldType)) a0 Z = true := hw _ (List.mem_of_getElem? (i := 35) rfl)
theorem w36 {Z : State} {a0 : Array Value} (hw : ∀ d ∈ tables_1, d.before a0 Z = true) : Jvm.Cond.before (Jvm.Cond.methodLink "com/example/nameid/nameid/saml/ServiceProvider" (1 : Nat) ({ cls := "java/lang/Record", name := "<init>", desc := "()V" } : Jvm.MethodName)) a0 Z = true := hw _ (List.mem_of_getElem? (i := 36) rfl)
theorem w37 {Z : State} {a0 : Array Value} (hw : ∀ d ∈ tables_1, d.before a0 Z = true) : Jvm.Cond.before (Jvm.Cond.instanceMethod ({ cls := "java/lang/Record", name := "<init>", desc := "()V" } : Jvm.MethodName)) a0 Z = true := hw _ (List.mem_of_getElem? (i := 37) rfl)
theorem w39 {Z : State} {a0 : Array Value} (hw : ∀ d ∈ tables_1, d.before a0 Z = true) : Jvm.Cond.before (Jvm.Cond.initialized "java/lang/Record") a0 Z = true := hw _ (List.mem_of_getElem? (i := 39) rfl)
theorem w40 {Z : State} {a0 : Array Value} (hw : ∀ d ∈ tables_1, d.before a0 Z = true) : Jvm.Cond.before (Jvm.Cond.code ({ cls := "java/lang/Record", name := "<init>", desc := "()V" } : Jvm.MethodName) jdk_30_method_1_code (1 : Nat) (Option.none : Option Jvm.ClassFile.FieldType)) a0 Z = true := hw _ (List.mem_of_getElem? (i := 40) rfl)
theorem w41 {Z : State} {a0 : Array Value} (hw : ∀ d ∈ tables_1, d.before a0 Z = true) : Jvm.Cond.before (Jvm.Cond.methodLink "java/lang/Record" (1 : Nat) ({ cls := "java/lang/Object", name := "<init>", desc := "()V" } : Jvm.MethodName)) a0 Z = true := hw _ (List.mem_of_getElem? (i := 41) rfl)
theorem w42 {Z : State} {a0 : Array Value} (hw : ∀ d ∈ tables_1, d.before a0 Z = true) : Jvm.Cond.before (Jvm.Cond.fieldLink "com/example/nameid/nameid/saml/ServiceProvider" (7 : Nat) "com/example/nameid/nameid/saml/ServiceProvider" "entityId" "Ljava/lang/String;") a0 Z = true := hw _ (List.mem_of_getElem? (i := 42) rfl)
theorem w43 {Z : State} {a0 : Array Value} (hw : ∀ d ∈ tables_1, d.before a0 Z = true) : Jvm.Cond.before (Jvm.Cond.laysFinal "com/example/nameid/nameid/saml/ServiceProvider" "com/example/nameid/nameid/saml/ServiceProvider" "entityId" "Ljava/lang/String;") a0 Z = true := hw _ (List.mem_of_getElem? (i := 43) rfl)
theorem w44 {Z : State} {a0 : Array Value} (hw : ∀ d ∈ tables_1, d.before a0 Z = true) : Jvm.Cond.before (Jvm.Cond.fieldLink "com/example/nameid/nameid/saml/ServiceProvider" (13 : Nat) "com/example/nameid/nameid/saml/ServiceProvider" "displayName" "Ljava/lang/String;") a0 Z = true := hw _ (List.mem_of_getElem? (i := 44) rfl)
theorem w45 {Z : State} {a0 : Array Value} (hw : ∀ d ∈ tables_1, d.before a0 Z = true) : Jvm.Cond.before (Jvm.Cond.laysFinal "com/example/nameid/nameid/saml/ServiceProvider" "com/example/nameid/nameid/saml/ServiceProvider" "displayName" "Ljava/lang/String;") a0 Z = true := hw _ (List.mem_of_getElem? (i := 45) rfl)
theorem w46 {Z : State} {a0 : Array Value} (hw : ∀ d ∈ tables_1, d.before a0 Z = true) : Jvm.Cond.before (Jvm.Cond.fieldLink "com/example/nameid/nameid/saml/ServiceProvider" (16 : Nat) "com/example/nameid/nameid/saml/ServiceProvider" "signingKeys" "Ljava/util/List;") a0 Z = true := hw _ (List.mem_of_getElem? (i := 46) rfl)
theorem w47 {Z : State} {a0 : Array Value} (hw : ∀ d ∈ tables_1, d.before a0 Z = true) : Jvm.Cond.before (Jvm.Cond.laysFinal "com/example/nameid/nameid/saml/ServiceProvider" "com/example/nameid/nameid/saml/ServiceProvider" "signingKeys" "Ljava/util/List;") a0 Z = true := hw _ (List.mem_of_getElem? (i := 47) rfl)
theorem w48 {Z : State} {a0 : Array Value} (hw : ∀ d ∈ tables_1, d.before a0 Z = true) : Jvm.Cond.before (Jvm.Cond.fieldLink "com/example/nameid/nameid/saml/ServiceProvider" (20 : Nat) "com/example/nameid/nameid/saml/ServiceProvider" "encryptionKeys" "Ljava/util/List;") a0 Z = true := hw _ (List.mem_of_getElem? (i := 48) rfl)
theorem w49 {Z : State} {a0 : Array Value} (hw : ∀ d ∈ tables_1, d.before a0 Z = true) : Jvm.Cond.before (Jvm.Cond.laysFinal "com/example/nameid/nameid/saml/ServiceProvider" "com/example/nameid/nameid/saml/ServiceProvider" "encryptionKeys" "Ljava/util/List;") a0 Z = true := hw _ (List.mem_of_getElem? (i := 49) rfl)
theorem w50 {Z : State} {a0 : Array Value} (hw : ∀ d ∈ tables_1, d.before a0 Z = true) : Jvm.Cond.before (Jvm.Cond.fieldLink "com/example/nameid/nameid/saml/ServiceProvider" (23 : Nat) "com/example/nameid/nameid/saml/ServiceProvider" "assertionConsumerServices" "Ljava/util/List;") a0 Z = true := hw _ (List.mem_of_getElem? (i := 50) rfl)
theorem w51 {Z : State} {a0 : Array Value} (hw : ∀ d ∈ tables_1, d.before a0 Z = true) : Jvm.Cond.before (Jvm.Cond.laysFinal "com/example/nameid/nameid/saml/ServiceProvider" "com/example/nameid/nameid/saml/ServiceProvider" "assertionConsumerServices" "Ljava/util/List;") a0 Z = true := hw _ (List.mem_of_getElem? (i := 51) rfl)
theorem w52 {Z : State} {a0 : Array Value} (hw : ∀ d ∈ tables_1, d.before a0 Z = true) : Jvm.Cond.before (Jvm.Cond.fieldLink "com/example/nameid/nameid/saml/ServiceProvider" (26 : Nat) "com/example/nameid/nameid/saml/ServiceProvider" "singleLogoutServices" "Ljava/util/List;") a0 Z = true := hw _ (List.mem_of_getElem? (i := 52) rfl)
theorem w53 {Z : State} {a0 : Array Value} (hw : ∀ d ∈ tables_1, d.before a0 Z = true) : Jvm.Cond.before (Jvm.Cond.laysFinal "com/example/nameid/nameid/saml/ServiceProvider" "com/example/nameid/nameid/saml/ServiceProvider" "singleLogoutServices" "Ljava/util/List;") a0 Z = true := hw _ (List.mem_of_getElem? (i := 53) rfl)
theorem w54 {Z : State} {a0 : Array Value} (hw : ∀ d ∈ tables_1, d.before a0 Z = true) : Jvm.Cond.before (Jvm.Cond.fieldLink "com/example/nameid/nameid/saml/ServiceProvider" (29 : Nat) "com/example/nameid/nameid/saml/ServiceProvider" "nameIdFormats" "Ljava/util/List;") a0 Z = true := hw _ (List.mem_of_getElem? (i := 54) rfl)
theorem w55 {Z : State} {a0 : Array Value} (hw : ∀ d ∈ tables_1, d.before a0 Z = true) : Jvm.Cond.before (Jvm.Cond.laysFinal "com/example/nameid/nameid/saml/ServiceProvider" "com/example/nameid/nameid/saml/ServiceProvider" "nameIdFormats" "Ljava/util/List;") a0 Z = true := hw _ (List.mem_of_getElem? (i := 55) rfl)
theorem w56 {Z : State} {a0 : Array Value} (hw : ∀ d ∈ tables_1, d.before a0 Z = true) : Jvm.Cond.before (Jvm.Cond.fieldLink "com/example/nameid/nameid/saml/ServiceProvider" (32 : Nat) "com/example/nameid/nameid/saml/ServiceProvider" "attributeConsumingServices" "Ljava/util/List;") a0 Z = true := hw _ (List.mem_of_getElem? (i := 56) rfl)
theorem w57 {Z : State} {a0 : Array Value} (hw : ∀ d ∈ tables_1, d.before a0 Z = true) : Jvm.Cond.before (Jvm.Cond.laysFinal "com/example/nameid/nameid/saml/ServiceProvider" "com/example/nameid/nameid/saml/ServiceProvider" "attributeConsumingServices" "Ljava/util/List;") a0 Z = true := hw _ (List.mem_of_getElem? (i := 57) rfl)
theorem w58 {Z : State} {a0 : Array Value} (hw : ∀ d ∈ tables_1, d.before a0 Z = true) : Jvm.Cond.before (Jvm.Cond.methodLink "com/example/nameid/nameid/saml/ServiceProviderNamePinLaw" (17 : Nat) ({ cls := "com/example/nameid/nameid/saml/ServiceProvider", name := "name", desc := "()Ljava/lang/String;" } : Jvm.MethodName)) a0 Z = true := hw _ (List.mem_of_getElem? (i := 58) rfl)
theorem w59 {Z : State} {a0 : Array Value} (hw : ∀ d ∈ tables_1, d.before a0 Z = true) : Jvm.Cond.before (Jvm.Cond.declares ({ cls := "com/example/nameid/nameid/saml/ServiceProvider", name := "name", desc := "()Ljava/lang/String;" } : Jvm.MethodName)) a0 Z = true := hw _ (List.mem_of_getElem? (i := 59) rfl)
theorem w60 {Z : State} {a0 : Array Value} (hw : ∀ d ∈ tables_1, d.before a0 Z = true) : Jvm.Cond.before (Jvm.Cond.instanceMethod ({ cls := "com/example/nameid/nameid/saml/ServiceProvider", name := "name", desc := "()Ljava/lang/String;" } : Jvm.MethodName)) a0 Z = true := hw _ (List.mem_of_getElem? (i := 60) rfl)
theorem w61 {Z : State} {a0 : Array Value} (hw : ∀ d ∈ tables_1, d.before a0 Z = true) : Jvm.Cond.before (Jvm.Cond.selects "com/example/nameid/nameid/saml/ServiceProvider" ({ cls := "com/example/nameid/nameid/saml/ServiceProvider", name := "name", desc := "()Ljava/lang/String;" } : Jvm.MethodName) ({ cls := "com/example/nameid/nameid/saml/ServiceProvider", name := "name", desc := "()Ljava/lang/String;" } : Jvm.MethodName)) a0 Z = true := hw _ (List.mem_of_getElem? (i := 61) rfl)
theorem w62 {Z : State} {a0 : Array Value} (hw : ∀ d ∈ tables_1, d.before a0 Z = true) : Jvm.Cond.before (Jvm.Cond.code ({ cls := "com/example/nameid/nameid/saml/ServiceProvider", name := "name", desc := "()Ljava/lang/String;" } : Jvm.MethodName) prog_50_method_2_code (1 : Nat) (Option.some (Jvm.ClassFile.FieldType.object "java/lang/String"))) a0 Z = true := hw _ (List.mem_of_getElem? (i := 62) rfl)
theorem w63 {Z : State} {a0 : Array Value} (hw : ∀ d ∈ tables_1, d.before a0 Z = true) : Jvm.Cond.before (Jvm.Cond.methodLink "com/example/nameid/nameid/saml/ServiceProviderNamePinLaw" (21 : Nat) ({ cls := "java/lang/String", name := "length", desc := "()I" } : Jvm.MethodName)) a0 Z = true := hw _ (List.mem_of_getElem? (i := 63) rfl)
theorem w64 {Z : State} {a0 : Array Value} (hw : ∀ d ∈ tables_1, d.before a0 Z = true) : Jvm.Cond.before (Jvm.Cond.declares ({ cls := "java/lang/String", name := "length", desc := "()I" } : Jvm.MethodName)) a0 Z = true := hw _ (List.mem_of_getElem? (i := 64) rfl)
theorem w65 {Z : State} {a0 : Array Value} (hw : ∀ d ∈ tables_1, d.before a0 Z = true) : Jvm.Cond.before (Jvm.Cond.instanceMethod ({ cls := "java/lang/String", name := "length", desc := "()I" } : Jvm.MethodName)) a0 Z = true := hw _ (List.mem_of_getElem? (i := 65) rfl)
theorem w66 {Z : State} {a0 : Array Value} (hw : ∀ d ∈ tables_1, d.before a0 Z = true) : Jvm.Cond.before (Jvm.Cond.selects "java/lang/String" ({ cls := "java/lang/String", name := "length", desc := "()I" } : Jvm.MethodName) ({ cls := "java/lang/String", name := "length", desc := "()I" } : Jvm.MethodName)) a0 Z = true := hw _ (List.mem_of_getElem? (i := 66) rfl)
theorem w73 {Z : State} {a0 : Array Value} (hw : ∀ d ∈ tables_1, d.before a0 Z = true) : Jvm.Cond.before (Jvm.Cond.methodLink "com/example/nameid/nameid/saml/ServiceProviderNamePinLaw" (25 : Nat) ({ cls := "java/lang/String", name := "charAt", desc := "(I)C" } : Jvm.MethodName)) a0 Z = true := hw _ (List.mem_of_getElem? (i := 73) rfl)
theorem w74 {Z : State} {a0 : Array Value} (hw : ∀ d ∈ tables_1, d.before a0 Z = true) : Jvm.Cond.before (Jvm.Cond.declares ({ cls := "java/lang/String", name := "charAt", desc := "(I)C" } : Jvm.MethodName)) a0 Z = true := hw _ (List.mem_of_getElem? (i := 74) rfl)
theorem w75 {Z : State} {a0 : Array Value} (hw : ∀ d ∈ tables_1, d.before a0 Z = true) : Jvm.Cond.before (Jvm.Cond.instanceMethod ({ cls := "java/lang/String", name := "charAt", desc := "(I)C" } : Jvm.MethodName)) a0 Z = true := hw _ (List.mem_of_getElem? (i := 75) rfl)
theorem w76 {Z : State} {a0 : Array Value} (hw : ∀ d ∈ tables_1, d.before a0 Z = true) : Jvm.Cond.before (Jvm.Cond.selects "java/lang/String" ({ cls := "java/lang/String", name := "charAt", desc := "(I)C" } : Jvm.MethodName) ({ cls := "java/lang/String", name := "charAt", desc := "(I)C" } : Jvm.MethodName)) a0 Z = true := hw _ (List.mem_of_getElem? (i := 76) rfl)
theorem pn_0 : plainName "java/lang/Record" = true := by first | (simp [plainName, overriddenIn]; done) | decide +kernel
theorem d8_0 : decode jdk_30_method_1_code 0 = .ok (.aload_n 0, 1) := by decide +kernel
theorem d8_1 : decode jdk_30_method_1_code 1 = .ok (.invokespecial 1, 3) := by decide +kernel
theorem d8_4 : decode jdk_30_method_1_code 4 = .ok (.return_, 1) := by decide +kernel
def Q_own_rec (Z : State) (a1 : Addr) (h0 : Heap) (n0 : Nat) (v : Option Value) (h : Heap) (L : List Loc) : Prop := v = none ∧ Fr n0 L ∧ h = h0
set_option maxRecDepth 65536 in
set_option maxHeartbeats 40000000 in
theorem own_rec (l : Launch) (Z : State) (a0 : Array Value) (hw : ∀ d ∈ tables_1, d.before a0 Z = true) (ws : List Jvm.Cond) (a1 : Addr) (h0 : Heap) (n0 : Nat) (Z0 : n0 ≤ h0.size)  :
    MetFree l (⟨"java/lang/Record", "<init>", "()V"⟩ : MethodName) (head1 (Jvm.Cond.code (⟨"java/lang/Record", "<init>", "()V"⟩ : MethodName) jdk_30_method_1_code 1 none :: ws) ({ frames := 1, cells := 0, slots := 0, locals := 12 } : Room)) (fun a U => a = #[(.ref a1)] ∧ Z.Warmed39 U.vm ∧ U.heap = h0) (fun _ _ _ _ _ => True) (fun _ U o U' => ∃ v L, o = .returned v ∧ Q_own_rec Z a1 h0 n0 v U'.heap L ∧ FrameEnd U o U' L ({ frames := 1, cells := 0, slots := 0, locals := 12 } : Room).cells ({ frames := 1, cells := 0, slots := 0, locals := 12 } : Room).slots) := by
  refine own_body (plainFor_of_name pn_0) ?_
  intro p e s m below meth c s₁ Bd hml hZ e0
  have hx := Bd.exec
  have hby := Bd.bytes
  have hlk : meth.locks = false := BodyLoose.notSynchronized Bd
  have hown : s.vm.findClass "java/lang/Record" = some m.cls := findClass_of_methodNamed Bd.named
  have hnm := (name_of_methodNamed Bd.named Bd.method).1
  have X0 : Stand p l e ({ frames := 1, cells := 0, slots := 0, locals := 12 } : Room) s m #[(.ref a1)] below meth c s₁ [] 0 0 := Stand.of_body Bd
  have N0 := Fr.nil n0
  have KP0 : Keep h0 h0 [] := Keep.refl h0 []
  refine own_cast (g' := (mkF m 0 #[.val (.ref a1)] [])) (by first | (simp [entryFrame, mkF, argsToLocals, own_cat_int, own_cat_long, own_cat_ref, own_cat_null]; done) | rfl) ?_
  refine own_step (T' := s₁) (g' := (mkF m 1 #[.val (.ref a1)] [(.ref a1)])) (fun _ q => XS.aloadN X0.here hx rfl (hb hby d8_0) rfl rfl q) ?_
  obtain ⟨T1, X1, e1, st1⟩ := initO X0 hx hZ hown (w41 hw) (w12 hw) (w13 hw) e0 (g := (mkF m 1 #[.val (.ref a1)] [(.ref a1)])) rfl (by rw [hml]; rfl) rfl (hb hby d8_1) (by decide) (W := 0) (by show 2 * 0 + _ ≤ _; exact Nat.le_of_eq rfl) (by decide)
  refine own_step (T' := T1) (g' := (mkF m 4 #[.val (.ref a1)] [])) st1 ?_
  exact own_retV X1 hx Bd.returns (hb hby d8_4) hlk ⟨rfl, N0, e1⟩ (by first | decide | (dsimp only; omega)) (by first | decide | (dsimp only; omega))
theorem pn_1 : plainName "com/example/nameid/nameid/saml/ServiceProvider" = true := by first | (simp [plainName, overriddenIn]; done) | decide +kernel
theorem pd_0 : parseMethodDescriptor "()V" = some ⟨[], none⟩ := by decide +kernel
theorem d7_0 : decode prog_50_method_1_code 0 = .ok (.aload_n 0, 1) := by decide +kernel
theorem d7_1 : decode prog_50_method_1_code 1 = .ok (.invokespecial 1, 3) := by decide +kernel
theorem d7_4 : decode prog_50_method_1_code 4 = .ok (.aload_n 0, 1) := by decide +kernel
theorem d7_5 : decode prog_50_method_1_code 5 = .ok (.aload_n 1, 1) := by decide +kernel
theorem d7_6 : decode prog_50_method_1_code 6 = .ok (.putfield 7, 3) := by decide +kernel
theorem d7_9 : decode prog_50_method_1_code 9 = .ok (.aload_n 0, 1) := by decide +kernel
theorem d7_10 : decode prog_50_method_1_code 10 = .ok (.aload_n 2, 1) := by decide +kernel
theorem d7_11 : decode prog_50_method_1_code 11 = .ok (.putfield 13, 3) := by decide +kernel
theorem d7_14 : decode prog_50_method_1_code 14 = .ok (.aload_n 0, 1) := by decide +kernel
theorem d7_15 : decode prog_50_method_1_code 15 = .ok (.aload_n 3, 1) := by decide +kernel
theorem d7_16 : decode prog_50_method_1_code 16 = .ok (.putfield 16, 3) := by decide +kernel
theorem d7_19 : decode prog_50_method_1_code 19 = .ok (.aload_n 0, 1) := by decide +kernel
theorem d7_20 : decode prog_50_method_1_code 20 = .ok (.aload 4, 2) := by decide +kernel
theorem d7_22 : decode prog_50_method_1_code 22 = .ok (.putfield 20, 3) := by decide +kernel
theorem d7_25 : decode prog_50_method_1_code 25 = .ok (.aload_n 0, 1) := by decide +kernel
theorem d7_26 : decode prog_50_method_1_code 26 = .ok (.aload 5, 2) := by decide +kernel
theorem d7_28 : decode prog_50_method_1_code 28 = .ok (.putfield 23, 3) := by decide +kernel
theorem d7_31 : decode prog_50_method_1_code 31 = .ok (.aload_n 0, 1) := by decide +kernel
theorem d7_32 : decode prog_50_method_1_code 32 = .ok (.aload 6, 2) := by decide +kernel
theorem d7_34 : decode prog_50_method_1_code 34 = .ok (.putfield 26, 3) := by decide +kernel
theorem d7_37 : decode prog_50_method_1_code 37 = .ok (.aload_n 0, 1) := by decide +kernel
theorem d7_38 : decode prog_50_method_1_code 38 = .ok (.aload 7, 2) := by decide +kernel
theorem d7_40 : decode prog_50_method_1_code 40 = .ok (.putfield 29, 3) := by decide +kernel
theorem d7_43 : decode prog_50_method_1_code 43 = .ok (.aload_n 0, 1) := by decide +kernel
theorem d7_44 : decode prog_50_method_1_code 44 = .ok (.aload 8, 2) := by decide +kernel
theorem d7_46 : decode prog_50_method_1_code 46 = .ok (.putfield 32, 3) := by decide +kernel
theorem d7_49 : decode prog_50_method_1_code 49 = .ok (.return_, 1) := by decide +kernel
def Q_own_spinit (Z : State) (a1 : Addr) (v1 : Value) (v2 : Value) (h0 : Heap) (n0 : Nat) (v : Option Value) (h : Heap) (L : List Loc) : Prop := v = none ∧ Fr n0 L ∧ Keep h0 h [a1] ∧ Exa Z h a1 "com/example/nameid/nameid/saml/ServiceProvider" ∧ Fld Z h a1 "com/example/nameid/nameid/saml/ServiceProvider" "entityId" "Ljava/lang/String;" v1 ∧ Fld Z h a1 "com/example/nameid/nameid/saml/ServiceProvider" "displayName" "Ljava/lang/String;" v2
set_option maxRecDepth 65536 in
set_option maxHeartbeats 40000000 in
theorem own_spinit (l : Launch) (Z : State) (a0 : Array Value) (hw : ∀ d ∈ tables_1, d.before a0 Z = true) (ws : List Jvm.Cond) (a1 : Addr) (v1 : Value) (v2 : Value) (h0 : Heap) (n0 : Nat) (Z0 : n0 ≤ h0.size) (rv1 : v1.isRef = true) (rv2 : v2.isRef = true) (E_a1 : Exa Z h0 a1 "com/example/nameid/nameid/saml/ServiceProvider") (ge_a1 : n0 ≤ a1) (F_entityId_a1 : Fld Z h0 a1 "com/example/nameid/nameid/saml/ServiceProvider" "entityId" "Ljava/lang/String;" .null) (F_displayName_a1 : Fld Z h0 a1 "com/example/nameid/nameid/saml/ServiceProvider" "displayName" "Ljava/lang/String;" .null) (F_signingKeys_a1 : Fld Z h0 a1 "com/example/nameid/nameid/saml/ServiceProvider" "signingKeys" "Ljava/util/List;" .null) (F_encryptionKeys_a1 : Fld Z h0 a1 "com/example/nameid/nameid/saml/ServiceProvider" "encryptionKeys" "Ljava/util/List;" .null) (F_assertionConsumerServices_a1 : Fld Z h0 a1 "com/example/nameid/nameid/saml/ServiceProvider" "assertionConsumerServices" "Ljava/util/List;" .null) (F_singleLogoutServices_a1 : Fld Z h0 a1 "com/example/nameid/nameid/saml/ServiceProvider" "singleLogoutServices" "Ljava/util/List;" .null) (F_nameIdFormats_a1 : Fld Z h0 a1 "com/example/nameid/nameid/saml/ServiceProvider" "nameIdFormats" "Ljava/util/List;" .null) (F_attributeConsumingServices_a1 : Fld Z h0 a1 "com/example/nameid/nameid/saml/ServiceProvider" "attributeConsumingServices" "Ljava/util/List;" .null) :
    MetFree l (⟨"com/example/nameid/nameid/saml/ServiceProvider", "<init>", "(Ljava/lang/String;Ljava/lang/String;Ljava/util/List;Ljava/util/List;Ljava/util/List;Ljava/util/List;Ljava/util/List;Ljava/util/List;)V"⟩ : MethodName) (head1 (Jvm.Cond.code (⟨"com/example/nameid/nameid/saml/ServiceProvider", "<init>", "(Ljava/lang/String;Ljava/lang/String;Ljava/util/List;Ljava/util/List;Ljava/util/List;Ljava/util/List;Ljava/util/List;Ljava/util/List;)V"⟩ : MethodName) prog_50_method_1_code 9 none :: ws) ({ frames := 2, cells := 0, slots := 0, locals := 24 } : Room)) (fun a U => a = #[(.ref a1), v1, v2, .null, .null, .null, .null, .null, .null] ∧ Z.Warmed39 U.vm ∧ U.heap = h0) (fun _ _ _ _ _ => True) (fun _ U o U' => ∃ v L, o = .returned v ∧ Q_own_spinit Z a1 v1 v2 h0 n0 v U'.heap L ∧ FrameEnd U o U' L ({ frames := 2, cells := 0, slots := 0, locals := 24 } : Room).cells ({ frames := 2, cells := 0, slots := 0, locals := 24 } : Room).slots) := by
  refine own_body (plainFor_of_name pn_1) ?_
  intro p e s m below meth c s₁ Bd hml hZ e0
  have hx := Bd.exec
  have hby := Bd.bytes
  have hlk : meth.locks = false := BodyLoose.notSynchronized Bd
  have hown : s.vm.findClass "com/example/nameid/nameid/saml/ServiceProvider" = some m.cls := findClass_of_methodNamed Bd.named
  have hnm := (name_of_methodNamed Bd.named Bd.method).1
  have X0 : Stand p l e ({ frames := 2, cells := 0, slots := 0, locals := 24 } : Room) s m #[(.ref a1), v1, v2, .null, .null, .null, .null, .null, .null] below meth c s₁ [] 0 0 := Stand.of_body Bd
  have N0 := Fr.nil n0
  have KP0 : Keep h0 h0 [a1] := Keep.refl h0 [a1]
  have lt_a1 := E_a1.lt
  refine own_cast (g' := (mkF m 0 #[.val (.ref a1), .val v1, .val v2, .val .null, .val .null, .val .null, .val .null, .val .null, .val .null] [])) (by first | (simp [entryFrame, mkF, argsToLocals, own_cat_int, own_cat_long, own_cat_ref, own_cat_null, XT.cat1 rv1, XT.cat1 rv2]; done) | rfl) ?_
  refine own_step (T' := s₁) (g' := (mkF m 1 #[.val (.ref a1), .val v1, .val v2, .val .null, .val .null, .val .null, .val .null, .val .null, .val .null] [(.ref a1)])) (fun _ q => XS.aloadN X0.here hx rfl (hb hby d7_0) rfl rfl q) ?_
  refine own_callC X0 hx hZ hown rfl (w36 hw) (w37 hw) (w40 hw) (by decide) (backOf (W := 0) (own_rec l Z a0 hw [] a1 h0 n0 Z0 ) hZ (w40 hw) (w39 hw) (by decide) (by decide)) e0  (by first | decide | (dsimp only; omega)) (by first | decide | (dsimp only; omega)) (g := (mkF m 1 #[.val (.ref a1), .val v1, .val v2, .val .null, .val .null, .val .null, .val .null, .val .null, .val .null] [(.ref a1)])) (argsL := []) (rest := []) rfl (by rw [hml]; rfl) (lenOf pd_0 rfl) rfl rfl (by show 2 * 0 + _ ≤ _; exact Nat.le_of_eq rfl) (hb hby d7_1) ?_
  rintro _ T2 L2 X2 ⟨rfl, N2q, e2⟩
  have N3 := Fr.app N0 N2q
  show own_Fin p e below _ T2 (mkF m 4 #[.val (.ref a1), .val v1, .val v2, .val .null, .val .null, .val .null, .val .null, .val .null, .val .null] [])
  refine own_step (T' := T2) (g' := (mkF m 5 #[.val (.ref a1), .val v1, .val v2, .val .null, .val .null, .val .null, .val .null, .val .null, .val .null] [(.ref a1)])) (fun _ q => XS.aloadN X2.here hx rfl (hb hby d7_4) rfl rfl q) ?_
  refine own_step (T' := T2) (g' := (mkF m 6 #[.val (.ref a1), .val v1, .val v2, .val .null, .val .null, .val .null, .val .null, .val .null, .val .null] [v1, (.ref a1)])) (fun _ q => XS.aloadN X2.here hx rfl (hb hby d7_5) rfl rv1 q) ?_
  obtain ⟨T4, h4, X4, e4, W4, st4⟩ := putF X2 hx hZ hown (host := "") (Or.inl (w42 hw)) Via.refl e2 F_entityId_a1 E_a1 (Or.inr ⟨(w43 hw), rfl, hnm⟩) (w31 hw) (ty := (.object "java/lang/String")) (by decide) (own_narR rv1 rfl) (own_fitR rv1 rfl) (g := (mkF m 6 #[.val (.ref a1), .val v1, .val v2, .val .null, .val .null, .val .null, .val .null, .val .null, .val .null] [v1, (.ref a1)])) rfl rfl (hb hby d7_6)
  have F5 := F_entityId_a1.same W4
  have N6 := Fr.snoc X4 N3 ge_a1
  refine own_step (T' := T4) (g' := (mkF m 9 #[.val (.ref a1), .val v1, .val v2, .val .null, .val .null, .val .null, .val .null, .val .null, .val .null] [])) st4 ?_
  refine own_step (T' := T4) (g' := (mkF m 10 #[.val (.ref a1), .val v1, .val v2, .val .null, .val .null, .val .null, .val .null, .val .null, .val .null] [(.ref a1)])) (fun _ q => XS.aloadN X4.here hx rfl (hb hby d7_9) rfl rfl q) ?_
  refine own_step (T' := T4) (g' := (mkF m 11 #[.val (.ref a1), .val v1, .val v2, .val .null, .val .null, .val .null, .val .null, .val .null, .val .null] [v2, (.ref a1)])) (fun _ q => XS.aloadN X4.here hx rfl (hb hby d7_10) rfl rv2 q) ?_
  have c7 := (E_a1.wr W4)
  have c8 := (F_displayName_a1.other W4 (Or.inr (RoadKit.slot_ne (t := (.object "java/lang/String")) (t' := (.object "java/lang/String")) (Or.inr (w45 hw)) (Or.inr (w43 hw)) (by decide) (by decide) (by decide))))
  obtain ⟨T9, h9, X9, e9, W9, st9⟩ := putF X4 hx hZ hown (host := "") (Or.inl (w44 hw)) Via.refl e4 c8 c7 (Or.inr ⟨(w45 hw), rfl, hnm⟩) (w31 hw) (ty := (.object "java/lang/String")) (by decide) (own_narR rv2 rfl) (own_fitR rv2 rfl) (g := (mkF m 11 #[.val (.ref a1), .val v1, .val v2, .val .null, .val .null, .val .null, .val .null, .val .null, .val .null] [v2, (.ref a1)])) rfl rfl (hb hby d7_11)
  have F10 := c8.same W9
  have N11 := Fr.snoc X9 N6 ge_a1
  refine own_step (T' := T9) (g' := (mkF m 14 #[.val (.ref a1), .val v1, .val v2, .val .null, .val .null, .val .null, .val .null, .val .null, .val .null] [])) st9 ?_
  refine own_step (T' := T9) (g' := (mkF m 15 #[.val (.ref a1), .val v1, .val v2, .val .null, .val .null, .val .null, .val .null, .val .null, .val .null] [(.ref a1)])) (fun _ q => XS.aloadN X9.here hx rfl (hb hby d7_14) rfl rfl q) ?_
  refine own_step (T' := T9) (g' := (mkF m 16 #[.val (.ref a1), .val v1, .val v2, .val .null, .val .null, .val .null, .val .null, .val .null, .val .null] [.null, (.ref a1)])) (fun _ q => XS.aloadN X9.here hx rfl (hb hby d7_15) rfl rfl q) ?_
  have c12 := (c7.wr W9)
  have c13 := ((F_signingKeys_a1.other W4 (Or.inr (RoadKit.slot_ne (t := (.object "java/util/List")) (t' := (.object "java/lang/String")) (Or.inr (w47 hw)) (Or.inr (w43 hw)) (by decide) (by decide) (by decide)))).other W9 (Or.inr (RoadKit.slot_ne (t := (.object "java/util/List")) (t' := (.object "java/lang/String")) (Or.inr (w47 hw)) (Or.inr (w45 hw)) (by decide) (by decide) (by decide))))
  obtain ⟨T14, h14, X14, e14, W14, st14⟩ := putF X9 hx hZ hown (host := "") (Or.inl (w46 hw)) Via.refl e9 c13 c12 (Or.inr ⟨(w47 hw), rfl, hnm⟩) (w31 hw) (ty := (.object "java/util/List")) (by decide) rfl rfl (g := (mkF m 16 #[.val (.ref a1), .val v1, .val v2, .val .null, .val .null, .val .null, .val .null, .val .null, .val .null] [.null, (.ref a1)])) rfl rfl (hb hby d7_16)
  have F15 := c13.same W14
  have N16 := Fr.snoc X14 N11 ge_a1
  refine own_step (T' := T14) (g' := (mkF m 19 #[.val (.ref a1), .val v1, .val v2, .val .null, .val .null, .val .null, .val .null, .val .null, .val .null] [])) st14 ?_
  refine own_step (T' := T14) (g' := (mkF m 20 #[.val (.ref a1), .val v1, .val v2, .val .null, .val .null, .val .null, .val .null, .val .null, .val .null] [(.ref a1)])) (fun _ q => XS.aloadN X14.here hx rfl (hb hby d7_19) rfl rfl q) ?_
  refine own_step (T' := T14) (g' := (mkF m 22 #[.val (.ref a1), .val v1, .val v2, .val .null, .val .null, .val .null, .val .null, .val .null, .val .null] [.null, (.ref a1)])) (fun _ q => XS.aload X14.here hx rfl (hb hby d7_20) rfl rfl q) ?_
  have c17 := (c12.wr W14)
  have c18 := (((F_encryptionKeys_a1.other W4 (Or.inr (RoadKit.slot_ne (t := (.object "java/util/List")) (t' := (.object "java/lang/String")) (Or.inr (w49 hw)) (Or.inr (w43 hw)) (by decide) (by decide) (by decide)))).other W9 (Or.inr (RoadKit.slot_ne (t := (.object "java/util/List")) (t' := (.object "java/lang/String")) (Or.inr (w49 hw)) (Or.inr (w45 hw)) (by decide) (by decide) (by decide)))).other W14 (Or.inr (RoadKit.slot_ne (t := (.object "java/util/List")) (t' := (.object "java/util/List")) (Or.inr (w49 hw)) (Or.inr (w47 hw)) (by decide) (by decide) (by decide))))
  obtain ⟨T19, h19, X19, e19, W19, st19⟩ := putF X14 hx hZ hown (host := "") (Or.inl (w48 hw)) Via.refl e14 c18 c17 (Or.inr ⟨(w49 hw), rfl, hnm⟩) (w31 hw) (ty := (.object "java/util/List")) (by decide) rfl rfl (g := (mkF m 22 #[.val (.ref a1), .val v1, .val v2, .val .null, .val .null, .val .null, .val .null, .val .null, .val .null] [.null, (.ref a1)])) rfl rfl (hb hby d7_22)
  have F20 := c18.same W19
  have N21 := Fr.snoc X19 N16 ge_a1
  refine own_step (T' := T19) (g' := (mkF m 25 #[.val (.ref a1), .val v1, .val v2, .val .null, .val .null, .val .null, .val .null, .val .null, .val .null] [])) st19 ?_
  refine own_step (T' := T19) (g' := (mkF m 26 #[.val (.ref a1), .val v1, .val v2, .val .null, .val .null, .val .null, .val .null, .val .null, .val .null] [(.ref a1)])) (fun _ q => XS.aloadN X19.here hx rfl (hb hby d7_25) rfl rfl q) ?_
  refine own_step (T' := T19) (g' := (mkF m 28 #[.val (.ref a1), .val v1, .val v2, .val .null, .val .null, .val .null, .val .null, .val .null, .val .null] [.null, (.ref a1)])) (fun _ q => XS.aload X19.here hx rfl (hb hby d7_26) rfl rfl q) ?_
  have c22 := (c17.wr W19)
  have c23 := ((((F_assertionConsumerServices_a1.other W4 (Or.inr (RoadKit.slot_ne (t := (.object "java/util/List")) (t' := (.object "java/lang/String")) (Or.inr (w51 hw)) (Or.inr (w43 hw)) (by decide) (by decide) (by decide)))).other W9 (Or.inr (RoadKit.slot_ne (t := (.object "java/util/List")) (t' := (.object "java/lang/String")) (Or.inr (w51 hw)) (Or.inr (w45 hw)) (by decide) (by decide) (by decide)))).other W14 (Or.inr (RoadKit.slot_ne (t := (.object "java/util/List")) (t' := (.object "java/util/List")) (Or.inr (w51 hw)) (Or.inr (w47 hw)) (by decide) (by decide) (by decide)))).other W19 (Or.inr (RoadKit.slot_ne (t := (.object "java/util/List")) (t' := (.object "java/util/List")) (Or.inr (w51 hw)) (Or.inr (w49 hw)) (by decide) (by decide) (by decide))))
  obtain ⟨T24, h24, X24, e24, W24, st24⟩ := putF X19 hx hZ hown (host := "") (Or.inl (w50 hw)) Via.refl e19 c23 c22 (Or.inr ⟨(w51 hw), rfl, hnm⟩) (w31 hw) (ty := (.object "java/util/List")) (by decide) rfl rfl (g := (mkF m 28 #[.val (.ref a1), .val v1, .val v2, .val .null, .val .null, .val .null, .val .null, .val .null, .val .null] [.null, (.ref a1)])) rfl rfl (hb hby d7_28)
  have F25 := c23.same W24
  have N26 := Fr.snoc X24 N21 ge_a1
  refine own_step (T' := T24) (g' := (mkF m 31 #[.val (.ref a1), .val v1, .val v2, .val .null, .val .null, .val .null, .val .null, .val .null, .val .null] [])) st24 ?_
  refine own_step (T' := T24) (g' := (mkF m 32 #[.val (.ref a1), .val v1, .val v2, .val .null, .val .null, .val .null, .val .null, .val .null, .val .null] [(.ref a1)])) (fun _ q => XS.aloadN X24.here hx rfl (hb hby d7_31) rfl rfl q) ?_
  refine own_step (T' := T24) (g' := (mkF m 34 #[.val (.ref a1), .val v1, .val v2, .val .null, .val .null, .val .null, .val .null, .val .null, .val .null] [.null, (.ref a1)])) (fun _ q => XS.aload X24.here hx rfl (hb hby d7_32) rfl rfl q) ?_
  have c27 := (c22.wr W24)
  have c28 := (((((F_singleLogoutServices_a1.other W4 (Or.inr (RoadKit.slot_ne (t := (.object "java/util/List")) (t' := (.object "java/lang/String")) (Or.inr (w53 hw)) (Or.inr (w43 hw)) (by decide) (by decide) (by decide)))).other W9 (Or.inr (RoadKit.slot_ne (t := (.object "java/util/List")) (t' := (.object "java/lang/String")) (Or.inr (w53 hw)) (Or.inr (w45 hw)) (by decide) (by decide) (by decide)))).other W14 (Or.inr (RoadKit.slot_ne (t := (.object "java/util/List")) (t' := (.object "java/util/List")) (Or.inr (w53 hw)) (Or.inr (w47 hw)) (by decide) (by decide) (by decide)))).other W19 (Or.inr (RoadKit.slot_ne (t := (.object "java/util/List")) (t' := (.object "java/util/List")) (Or.inr (w53 hw)) (Or.inr (w49 hw)) (by decide) (by decide) (by decide)))).other W24 (Or.inr (RoadKit.slot_ne (t := (.object "java/util/List")) (t' := (.object "java/util/List")) (Or.inr (w53 hw)) (Or.inr (w51 hw)) (by decide) (by decide) (by decide))))
  obtain ⟨T29, h29, X29, e29, W29, st29⟩ := putF X24 hx hZ hown (host := "") (Or.inl (w52 hw)) Via.refl e24 c28 c27 (Or.inr ⟨(w53 hw), rfl, hnm⟩) (w31 hw) (ty := (.object "java/util/List")) (by decide) rfl rfl (g := (mkF m 34 #[.val (.ref a1), .val v1, .val v2, .val .null, .val .null, .val .null, .val .null, .val .null, .val .null] [.null, (.ref a1)])) rfl rfl (hb hby d7_34)
  have F30 := c28.same W29
  have N31 := Fr.snoc X29 N26 ge_a1
  refine own_step (T' := T29) (g' := (mkF m 37 #[.val (.ref a1), .val v1, .val v2, .val .null, .val .null, .val .null, .val .null, .val .null, .val .null] [])) st29 ?_
  refine own_step (T' := T29) (g' := (mkF m 38 #[.val (.ref a1), .val v1, .val v2, .val .null, .val .null, .val .null, .val .null, .val .null, .val .null] [(.ref a1)])) (fun _ q => XS.aloadN X29.here hx rfl (hb hby d7_37) rfl rfl q) ?_
  refine own_step (T' := T29) (g' := (mkF m 40 #[.val (.ref a1), .val v1, .val v2, .val .null, .val .null, .val .null, .val .null, .val .null, .val .null] [.null, (.ref a1)])) (fun _ q => XS.aload X29.here hx rfl (hb hby d7_38) rfl rfl q) ?_
  have c32 := (c27.wr W29)
  have c33 := ((((((F_nameIdFormats_a1.other W4 (Or.inr (RoadKit.slot_ne (t := (.object "java/util/List")) (t' := (.object "java/lang/String")) (Or.inr (w55 hw)) (Or.inr (w43 hw)) (by decide) (by decide) (by decide)))).other W9 (Or.inr (RoadKit.slot_ne (t := (.object "java/util/List")) (t' := (.object "java/lang/String")) (Or.inr (w55 hw)) (Or.inr (w45 hw)) (by decide) (by decide) (by decide)))).other W14 (Or.inr (RoadKit.slot_ne (t := (.object "java/util/List")) (t' := (.object "java/util/List")) (Or.inr (w55 hw)) (Or.inr (w47 hw)) (by decide) (by decide) (by decide)))).other W19 (Or.inr (RoadKit.slot_ne (t := (.object "java/util/List")) (t' := (.object "java/util/List")) (Or.inr (w55 hw)) (Or.inr (w49 hw)) (by decide) (by decide) (by decide)))).other W24 (Or.inr (RoadKit.slot_ne (t := (.object "java/util/List")) (t' := (.object "java/util/List")) (Or.inr (w55 hw)) (Or.inr (w51 hw)) (by decide) (by decide) (by decide)))).other W29 (Or.inr (RoadKit.slot_ne (t := (.object "java/util/List")) (t' := (.object "java/util/List")) (Or.inr (w55 hw)) (Or.inr (w53 hw)) (by decide) (by decide) (by decide))))
  obtain ⟨T34, h34, X34, e34, W34, st34⟩ := putF X29 hx hZ hown (host := "") (Or.inl (w54 hw)) Via.refl e29 c33 c32 (Or.inr ⟨(w55 hw), rfl, hnm⟩) (w31 hw) (ty := (.object "java/util/List")) (by decide) rfl rfl (g := (mkF m 40 #[.val (.ref a1), .val v1, .val v2, .val .null, .val .null, .val .null, .val .null, .val .null, .val .null] [.null, (.ref a1)])) rfl rfl (hb hby d7_40)
  have F35 := c33.same W34
  have N36 := Fr.snoc X34 N31 ge_a1
  refine own_step (T' := T34) (g' := (mkF m 43 #[.val (.ref a1), .val v1, .val v2, .val .null, .val .null, .val .null, .val .null, .val .null, .val .null] [])) st34 ?_
  refine own_step (T' := T34) (g' := (mkF m 44 #[.val (.ref a1), .val v1, .val v2, .val .null, .val .null, .val .null, .val .null, .val .null, .val .null] [(.ref a1)])) (fun _ q => XS.aloadN X34.here hx rfl (hb hby d7_43) rfl rfl q) ?_
  refine own_step (T' := T34) (g' := (mkF m 46 #[.val (.ref a1), .val v1, .val v2, .val .null, .val .null, .val .null, .val .null, .val .null, .val .null] [.null, (.ref a1)])) (fun _ q => XS.aload X34.here hx rfl (hb hby d7_44) rfl rfl q) ?_
  have c37 := (c32.wr W34)
  have c38 := (((((((F_attributeConsumingServices_a1.other W4 (Or.inr (RoadKit.slot_ne (t := (.object "java/util/List")) (t' := (.object "java/lang/String")) (Or.inr (w57 hw)) (Or.inr (w43 hw)) (by decide) (by decide) (by decide)))).other W9 (Or.inr (RoadKit.slot_ne (t := (.object "java/util/List")) (t' := (.object "java/lang/String")) (Or.inr (w57 hw)) (Or.inr (w45 hw)) (by decide) (by decide) (by decide)))).other W14 (Or.inr (RoadKit.slot_ne (t := (.object "java/util/List")) (t' := (.object "java/util/List")) (Or.inr (w57 hw)) (Or.inr (w47 hw)) (by decide) (by decide) (by decide)))).other W19 (Or.inr (RoadKit.slot_ne (t := (.object "java/util/List")) (t' := (.object "java/util/List")) (Or.inr (w57 hw)) (Or.inr (w49 hw)) (by decide) (by decide) (by decide)))).other W24 (Or.inr (RoadKit.slot_ne (t := (.object "java/util/List")) (t' := (.object "java/util/List")) (Or.inr (w57 hw)) (Or.inr (w51 hw)) (by decide) (by decide) (by decide)))).other W29 (Or.inr (RoadKit.slot_ne (t := (.object "java/util/List")) (t' := (.object "java/util/List")) (Or.inr (w57 hw)) (Or.inr (w53 hw)) (by decide) (by decide) (by decide)))).other W34 (Or.inr (RoadKit.slot_ne (t := (.object "java/util/List")) (t' := (.object "java/util/List")) (Or.inr (w57 hw)) (Or.inr (w55 hw)) (by decide) (by decide) (by decide))))
  obtain ⟨T39, h39, X39, e39, W39, st39⟩ := putF X34 hx hZ hown (host := "") (Or.inl (w56 hw)) Via.refl e34 c38 c37 (Or.inr ⟨(w57 hw), rfl, hnm⟩) (w31 hw) (ty := (.object "java/util/List")) (by decide) rfl rfl (g := (mkF m 46 #[.val (.ref a1), .val v1, .val v2, .val .null, .val .null, .val .null, .val .null, .val .null, .val .null] [.null, (.ref a1)])) rfl rfl (hb hby d7_46)
  have F40 := c38.same W39
  have N41 := Fr.snoc X39 N36 ge_a1
  refine own_step (T' := T39) (g' := (mkF m 49 #[.val (.ref a1), .val v1, .val v2, .val .null, .val .null, .val .null, .val .null, .val .null, .val .null] [])) st39 ?_
  have c42 := ((((((((KP0.wr W4 (Or.inl (List.mem_of_getElem? (i := 0) rfl))).wr W9 (Or.inl (List.mem_of_getElem? (i := 0) rfl))).wr W14 (Or.inl (List.mem_of_getElem? (i := 0) rfl))).wr W19 (Or.inl (List.mem_of_getElem? (i := 0) rfl))).wr W24 (Or.inl (List.mem_of_getElem? (i := 0) rfl))).wr W29 (Or.inl (List.mem_of_getElem? (i := 0) rfl))).wr W34 (Or.inl (List.mem_of_getElem? (i := 0) rfl))).wr W39 (Or.inl (List.mem_of_getElem? (i := 0) rfl)))
  have c43 := (c37.wr W39)
  have c44 := (((((((F5.other W9 (Or.inr (RoadKit.slot_ne (t := (.object "java/lang/String")) (t' := (.object "java/lang/String")) (Or.inr (w43 hw)) (Or.inr (w45 hw)) (by decide) (by decide) (by decide)))).other W14 (Or.inr (RoadKit.slot_ne (t := (.object "java/lang/String")) (t' := (.object "java/util/List")) (Or.inr (w43 hw)) (Or.inr (w47 hw)) (by decide) (by decide) (by decide)))).other W19 (Or.inr (RoadKit.slot_ne (t := (.object "java/lang/String")) (t' := (.object "java/util/List")) (Or.inr (w43 hw)) (Or.inr (w49 hw)) (by decide) (by decide) (by decide)))).other W24 (Or.inr (RoadKit.slot_ne (t := (.object "java/lang/String")) (t' := (.object "java/util/List")) (Or.inr (w43 hw)) (Or.inr (w51 hw)) (by decide) (by decide) (by decide)))).other W29 (Or.inr (RoadKit.slot_ne (t := (.object "java/lang/String")) (t' := (.object "java/util/List")) (Or.inr (w43 hw)) (Or.inr (w53 hw)) (by decide) (by decide) (by decide)))).other W34 (Or.inr (RoadKit.slot_ne (t := (.object "java/lang/String")) (t' := (.object "java/util/List")) (Or.inr (w43 hw)) (Or.inr (w55 hw)) (by decide) (by decide) (by decide)))).other W39 (Or.inr (RoadKit.slot_ne (t := (.object "java/lang/String")) (t' := (.object "java/util/List")) (Or.inr (w43 hw)) (Or.inr (w57 hw)) (by decide) (by decide) (by decide))))
  have c45 := ((((((F10.other W14 (Or.inr (RoadKit.slot_ne (t := (.object "java/lang/String")) (t' := (.object "java/util/List")) (Or.inr (w45 hw)) (Or.inr (w47 hw)) (by decide) (by decide) (by decide)))).other W19 (Or.inr (RoadKit.slot_ne (t := (.object "java/lang/String")) (t' := (.object "java/util/List")) (Or.inr (w45 hw)) (Or.inr (w49 hw)) (by decide) (by decide) (by decide)))).other W24 (Or.inr (RoadKit.slot_ne (t := (.object "java/lang/String")) (t' := (.object "java/util/List")) (Or.inr (w45 hw)) (Or.inr (w51 hw)) (by decide) (by decide) (by decide)))).other W29 (Or.inr (RoadKit.slot_ne (t := (.object "java/lang/String")) (t' := (.object "java/util/List")) (Or.inr (w45 hw)) (Or.inr (w53 hw)) (by decide) (by decide) (by decide)))).other W34 (Or.inr (RoadKit.slot_ne (t := (.object "java/lang/String")) (t' := (.object "java/util/List")) (Or.inr (w45 hw)) (Or.inr (w55 hw)) (by decide) (by decide) (by decide)))).other W39 (Or.inr (RoadKit.slot_ne (t := (.object "java/lang/String")) (t' := (.object "java/util/List")) (Or.inr (w45 hw)) (Or.inr (w57 hw)) (by decide) (by decide) (by decide))))
  exact own_retV X39 hx Bd.returns (hb hby d7_49) hlk (by rw [e39]; exact ⟨rfl, N41, c42, c43, c44, c45⟩) (by first | decide | (dsimp only; omega)) (by first | decide | (dsimp only; omega))
theorem d9_0 : decode prog_50_method_2_code 0 = .ok (.aload_n 0, 1) := by decide +kernel
theorem d9_1 : decode prog_50_method_2_code 1 = .ok (.getfield 13, 3) := by decide +kernel
theorem d9_4 : decode prog_50_method_2_code 4 = .ok (.ifnonnull 10, 3) := by decide +kernel
theorem d9_14 : decode prog_50_method_2_code 14 = .ok (.aload_n 0, 1) := by decide +kernel
theorem d9_15 : decode prog_50_method_2_code 15 = .ok (.getfield 13, 3) := by decide +kernel
theorem d9_18 : decode prog_50_method_2_code 18 = .ok (.areturn, 1) := by decide +kernel
def Q_own_named (Z : State) (a1 : Addr) (w2 : Addr) (h0 : Heap) (n0 : Nat) (v : Option Value) (h : Heap) (L : List Loc) : Prop := v = some (.ref w2) ∧ Fr n0 L ∧ h = h0
set_option maxRecDepth 65536 in
set_option maxHeartbeats 40000000 in
theorem own_named (l : Launch) (Z : State) (a0 : Array Value) (hw : ∀ d ∈ tables_1, d.before a0 Z = true) (ws : List Jvm.Cond) (a1 : Addr) (w2 : Addr) (h0 : Heap) (n0 : Nat) (Z0 : n0 ≤ h0.size) (F_displayName_a1 : Fld Z h0 a1 "com/example/nameid/nameid/saml/ServiceProvider" "displayName" "Ljava/lang/String;" (.ref w2)) :
    MetFree l (⟨"com/example/nameid/nameid/saml/ServiceProvider", "name", "()Ljava/lang/String;"⟩ : MethodName) (head1 (Jvm.Cond.code (⟨"com/example/nameid/nameid/saml/ServiceProvider", "name", "()Ljava/lang/String;"⟩ : MethodName) prog_50_method_2_code 1 (some (.object "java/lang/String")) :: ws) ({ frames := 0, cells := 0, slots := 0, locals := 0 } : Room)) (fun a U => a = #[(.ref a1)] ∧ Z.Warmed39 U.vm ∧ U.heap = h0) (fun _ _ _ _ _ => True) (fun _ U o U' => ∃ v L, o = .returned v ∧ Q_own_named Z a1 w2 h0 n0 v U'.heap L ∧ FrameEnd U o U' L ({ frames := 0, cells := 0, slots := 0, locals := 0 } : Room).cells ({ frames := 0, cells := 0, slots := 0, locals := 0 } : Room).slots) := by
  refine own_body (plainFor_of_name pn_1) ?_
  intro p e s m below meth c s₁ Bd hml hZ e0
  have hx := Bd.exec
  have hby := Bd.bytes
  have hlk : meth.locks = false := BodyLoose.notSynchronized Bd
  have hown : s.vm.findClass "com/example/nameid/nameid/saml/ServiceProvider" = some m.cls := findClass_of_methodNamed Bd.named
  have hnm := (name_of_methodNamed Bd.named Bd.method).1
  have X0 : Stand p l e ({ frames := 0, cells := 0, slots := 0, locals := 0 } : Room) s m #[(.ref a1)] below meth c s₁ [] 0 0 := Stand.of_body Bd
  have N0 := Fr.nil n0
  have KP0 : Keep h0 h0 [] := Keep.refl h0 []
  have lt_a1 := F_displayName_a1.lt
  refine own_cast (g' := (mkF m 0 #[.val (.ref a1)] [])) (by first | (simp [entryFrame, mkF, argsToLocals, own_cat_int, own_cat_long, own_cat_ref, own_cat_null]; done) | rfl) ?_
  refine own_step (T' := s₁) (g' := (mkF m 1 #[.val (.ref a1)] [(.ref a1)])) (fun _ q => XS.aloadN X0.here hx rfl (hb hby d9_0) rfl rfl q) ?_
  obtain ⟨T46, X46, e46, st46⟩ := getF X0 hx hZ hown (host := "") (Or.inl (w44 hw)) Via.refl e0 F_displayName_a1 (g := (mkF m 1 #[.val (.ref a1)] [(.ref a1)])) rfl rfl (hb hby d9_1)
  refine own_step (T' := T46) (g' := (mkF m 4 #[.val (.ref a1)] [(.ref w2)])) st46 ?_
  refine own_step (T' := T46) (g' := (mkF m 14 #[.val (.ref a1)] [])) (fun _ q => XT.ifnonnullYes X46.here hx rfl (pc0 := 4) (pc' := 14) rfl (hb hby d9_4) rfl (by decide) (by decide) q) ?_
  refine own_step (T' := T46) (g' := (mkF m 15 #[.val (.ref a1)] [(.ref a1)])) (fun _ q => XS.aloadN X46.here hx rfl (hb hby d9_14) rfl rfl q) ?_
  obtain ⟨T47, X47, e47, st47⟩ := getF X46 hx hZ hown (host := "") (Or.inl (w44 hw)) Via.refl e46 F_displayName_a1 (g := (mkF m 15 #[.val (.ref a1)] [(.ref a1)])) rfl rfl (hb hby d9_15)
  refine own_step (T' := T47) (g' := (mkF m 18 #[.val (.ref a1)] [(.ref w2)])) st47 ?_
  exact own_retA X47 hx Bd.returns rfl rfl (hb hby d9_18) hlk ⟨rfl, N0, e47⟩ (by first | decide | (dsimp only; omega)) (by first | decide | (dsimp only; omega))
theorem d9_7 : decode prog_50_method_2_code 7 = .ok (.aload_n 0, 1) := by decide +kernel
theorem d9_8 : decode prog_50_method_2_code 8 = .ok (.getfield 7, 3) := by decide +kernel
theorem d9_11 : decode prog_50_method_2_code 11 = .ok (.goto 7, 3) := by decide +kernel
def Q_own_namee (Z : State) (a1 : Addr) (v2 : Value) (h0 : Heap) (n0 : Nat) (v : Option Value) (h : Heap) (L : List Loc) : Prop := v = some v2 ∧ Fr n0 L ∧ h = h0
set_option maxRecDepth 65536 in
set_option maxHeartbeats 40000000 in
theorem own_namee (l : Launch) (Z : State) (a0 : Array Value) (hw : ∀ d ∈ tables_1, d.before a0 Z = true) (ws : List Jvm.Cond) (a1 : Addr) (v2 : Value) (h0 : Heap) (n0 : Nat) (Z0 : n0 ≤ h0.size) (rv2 : v2.isRef = true) (F_displayName_a1 : Fld Z h0 a1 "com/example/nameid/nameid/saml/ServiceProvider" "displayName" "Ljava/lang/String;" .null) (F_entityId_a1 : Fld Z h0 a1 "com/example/nameid/nameid/saml/ServiceProvider" "entityId" "Ljava/lang/String;" v2) :
    MetFree l (⟨"com/example/nameid/nameid/saml/ServiceProvider", "name", "()Ljava/lang/String;"⟩ : MethodName) (head1 (Jvm.Cond.code (⟨"com/example/nameid/nameid/saml/ServiceProvider", "name", "()Ljava/lang/String;"⟩ : MethodName) prog_50_method_2_code 1 (some (.object "java/lang/String")) :: ws) ({ frames := 0, cells := 0, slots := 0, locals := 0 } : Room)) (fun a U => a = #[(.ref a1)] ∧ Z.Warmed39 U.vm ∧ U.heap = h0) (fun _ _ _ _ _ => True) (fun _ U o U' => ∃ v L, o = .returned v ∧ Q_own_namee Z a1 v2 h0 n0 v U'.heap L ∧ FrameEnd U o U' L ({ frames := 0, cells := 0, slots := 0, locals := 0 } : Room).cells ({ frames := 0, cells := 0, slots := 0, locals := 0 } : Room).slots) := by
  refine own_body (plainFor_of_name pn_1) ?_
  intro p e s m below meth c s₁ Bd hml hZ e0
  have hx := Bd.exec
  have hby := Bd.bytes
  have hlk : meth.locks = false := BodyLoose.notSynchronized Bd
  have hown : s.vm.findClass "com/example/nameid/nameid/saml/ServiceProvider" = some m.cls := findClass_of_methodNamed Bd.named
  have hnm := (name_of_methodNamed Bd.named Bd.method).1
  have X0 : Stand p l e ({ frames := 0, cells := 0, slots := 0, locals := 0 } : Room) s m #[(.ref a1)] below meth c s₁ [] 0 0 := Stand.of_body Bd
  have N0 := Fr.nil n0
  have KP0 : Keep h0 h0 [] := Keep.refl h0 []
  have lt_a1 := F_displayName_a1.lt
  refine own_cast (g' := (mkF m 0 #[.val (.ref a1)] [])) (by first | (simp [entryFrame, mkF, argsToLocals, own_cat_int, own_cat_long, own_cat_ref, own_cat_null]; done) | rfl) ?_
  refine own_step (T' := s₁) (g' := (mkF m 1 #[.val (.ref a1)] [(.ref a1)])) (fun _ q => XS.aloadN X0.here hx rfl (hb hby d9_0) rfl rfl q) ?_
  obtain ⟨T48, X48, e48, st48⟩ := getF X0 hx hZ hown (host := "") (Or.inl (w44 hw)) Via.refl e0 F_displayName_a1 (g := (mkF m 1 #[.val (.ref a1)] [(.ref a1)])) rfl rfl (hb hby d9_1)
  refine own_step (T' := T48) (g' := (mkF m 4 #[.val (.ref a1)] [.null])) st48 ?_
  refine own_step (T' := T48) (g' := (mkF m 7 #[.val (.ref a1)] [])) (fun _ q => XT.ifnonnullNo X48.here hx rfl (hb hby d9_4) rfl q) ?_
  refine own_step (T' := T48) (g' := (mkF m 8 #[.val (.ref a1)] [(.ref a1)])) (fun _ q => XS.aloadN X48.here hx rfl (hb hby d9_7) rfl rfl q) ?_
  obtain ⟨T49, X49, e49, st49⟩ := getF X48 hx hZ hown (host := "") (Or.inl (w42 hw)) Via.refl e48 F_entityId_a1 (g := (mkF m 8 #[.val (.ref a1)] [(.ref a1)])) rfl rfl (hb hby d9_8)
  refine own_step (T' := T49) (g' := (mkF m 11 #[.val (.ref a1)] [v2])) st49 ?_
  refine own_step (T' := T49) (g' := (mkF m 18 #[.val (.ref a1)] [v2])) (fun _ q => XS.goto X49.here hx rfl (pc0 := 11) (pc' := 18) rfl (hb hby d9_11) (by decide) (by decide) q) ?_
  exact own_retA X49 hx Bd.returns rfl rv2 (hb hby d9_18) hlk ⟨rfl, N0, e49⟩ (by first | decide | (dsimp only; omega)) (by first | decide | (dsimp only; omega))
theorem pn_2 : plainName "com/example/nameid/nameid/saml/ServiceProviderNamePinLaw" = true := by first | (simp [plainName, overriddenIn]; done) | decide +kernel
theorem pd_1 : parseMethodDescriptor "(Ljava/lang/String;Ljava/lang/String;Ljava/util/List;Ljava/util/List;Ljava/util/List;Ljava/util/List;Ljava/util/List;Ljava/util/List;)V" = some ⟨[(.object "java/lang/String"), (.object "java/lang/String"), (.object "java/util/List"), (.object "java/util/List"), (.object "java/util/List"), (.object "java/util/List"), (.object "java/util/List"), (.object "java/util/List")], none⟩ := by decide +kernel
theorem pd_2 : parseMethodDescriptor "()Ljava/lang/String;" = some ⟨[], some (.object "java/lang/String")⟩ := by decide +kernel
theorem pd_3 : parseMethodDescriptor "([C)V" = some ⟨[(.array .char)], none⟩ := by decide +kernel
theorem pd_4 : parseMethodDescriptor "()I" = some ⟨[], some .int⟩ := by decide +kernel
theorem pd_5 : parseMethodDescriptor "(I)C" = some ⟨[.int], some .char⟩ := by decide +kernel
def Q_own_law (Z : State) (G1 : Int32) (G3 : Value) (p1 : Int32) (p2 : Int32) (p3 : Int32) (h0 : Heap) (n0 : Nat) (v : Option Value) (h : Heap) (L : List Loc) : Prop := v = some (.int (1 : Int32)) ∧ Fr n0 L ∧ Keep h0 h []
set_option maxRecDepth 65536 in
set_option maxHeartbeats 40000000 in
theorem own_law (l : Launch) (Z : State) (a0 : Array Value) (hw : ∀ d ∈ tables_1, d.before a0 Z = true) (ws : List Jvm.Cond) (G1 : Int32) (G3 : Value) (p1 : Int32) (p2 : Int32) (p3 : Int32) (h0 : Heap) (n0 : Nat) (Z0 : n0 ≤ h0.size) (O2 : Sta Z Z.heap "java/lang/String" "COMPACT_STRINGS" "Z" (.int G1)) (O4 : Sta Z Z.heap "jdk/internal/util/Preconditions" "SIOOBE_FORMATTER" "Ljava/util/function/BiFunction;" G3) (P5 : ¬ (G1 = (0 : Int32))) (rG3 : G3.isRef = true) (OLD0 : Old Z n0 h0) :
    MetFree l x (head1 (Jvm.Cond.code x code maxLocals ret :: ws) room_1) (fun a U => a = #[(.int p1), (.int p2), (.int p3)] ∧ Z.Warmed39 U.vm ∧ U.heap = h0) (fun _ _ _ _ _ => True) (fun _ U o U' => ∃ v L, o = .returned v ∧ Q_own_law Z G1 G3 p1 p2 p3 h0 n0 v U'.heap L ∧ FrameEnd U o U' L room_1.cells room_1.slots) := by
  refine own_body (plainFor_of_name pn_2) ?_
  intro p e s m below meth c s₁ Bd hml hZ e0
  have hx := Bd.exec
  have hby := Bd.bytes
  have hlk : meth.locks = false := BodyLoose.notSynchronized Bd
  have hown : s.vm.findClass "com/example/nameid/nameid/saml/ServiceProviderNamePinLaw" = some m.cls := findClass_of_methodNamed Bd.named
  have hnm := (name_of_methodNamed Bd.named Bd.method).1
  have X0 : Stand p l e room_1 s m #[(.int p1), (.int p2), (.int p3)] below meth c s₁ [] 0 0 := Stand.of_body Bd
  have N0 := Fr.nil n0
  have KP0 : Keep h0 h0 [] := Keep.refl h0 []
  refine own_cast (g' := (mkF m 0 #[.val (.int p1), .val (.int p2), .val (.int p3), .unset, .unset, .unset, .unset, .unset, .unset, .unset, .unset] [])) (by first | (simp [entryFrame, mkF, argsToLocals, own_cat_int, own_cat_long, own_cat_ref, own_cat_null, maxLocals]; done) | rfl) ?_
  refine own_step (T' := s₁) (g' := (mkF m 1 #[.val (.int p1), .val (.int p2), .val (.int p3), .unset, .unset, .unset, .unset, .unset, .unset, .unset, .unset] [(.int (2 : Int32))])) (fun _ q => XS.iconst X0.here hx rfl (hb hby at_0) q) ?_
  obtain ⟨T50, h50, k50, X50, e50, E50, A50, st50⟩ := newP X0 hx hZ (aty := .char) (w0 hw) e0 (g := (mkF m 1 #[.val (.int p1), .val (.int p2), .val (.int p3), .unset, .unset, .unset, .unset, .unset, .unset, .unset, .unset] [(.int (2 : Int32))])) rfl (hb hby at_1) rfl (by decide) (cap := 2) (by decide) (by decide) (by first | decide | (dsimp only; omega)) (by first | decide | (dsimp only; omega))
  obtain ⟨b50, g50⟩ : ∃ z, z = h0.size := ⟨_, rfl⟩
  rw [← g50] at A50 st50
  have n0_51 : n0 ≤ b50 := Nat.le_trans Z0 (Nat.le_of_eq g50.symm)
  have sz0_52 := Nat.le_trans KP0.1 (Nat.le_of_eq g50.symm)
  have V50 : Arv Z h50 b50 k50 .char (2 : Int32) [(.int (0 : Int32)), (.int (0 : Int32))] (.int (0 : Int32)) := (Arv.new A50 (by decide)).pad (pad_rep [] (.int (0 : Int32)) 2)
  have ltb50 := V50.lt
  refine own_step (T' := T50) (g' := (mkF m 3 #[.val (.int p1), .val (.int p2), .val (.int p3), .unset, .unset, .unset, .unset, .unset, .unset, .unset, .unset] [(.ref b50)])) st50 ?_
  refine own_step (T' := T50) (g' := (mkF m 4 #[.val (.int p1), .val (.int p2), .val (.int p3), .unset, .unset, .unset, .unset, .unset, .unset, .unset, .unset] [(.ref b50), (.ref b50)])) (fun _ q => XS.dup X50.here hx rfl (hb hby at_3) rfl rfl q) ?_
  refine own_step (T' := T50) (g' := (mkF m 5 #[.val (.int p1), .val (.int p2), .val (.int p3), .unset, .unset, .unset, .unset, .unset, .unset, .unset, .unset] [(.int (0 : Int32)), (.ref b50), (.ref b50)])) (fun _ q => XS.iconst X50.here hx rfl (hb hby at_4) q) ?_
  refine own_step (T' := T50) (g' := (mkF m 6 #[.val (.int p1), .val (.int p2), .val (.int p3), .unset, .unset, .unset, .unset, .unset, .unset, .unset, .unset] [(.int p1), (.int (0 : Int32)), (.ref b50), (.ref b50)])) (fun _ q => XS.iloadN X50.here hx rfl (hb hby at_5) rfl q) ?_
  refine own_step (T' := T50) (g' := (mkF m 9 #[.val (.int p1), .val (.int p2), .val (.int p3), .unset, .unset, .unset, .unset, .unset, .unset, .unset, .unset] [(.int (255 : Int32)), (.int p1), (.int (0 : Int32)), (.ref b50), (.ref b50)])) (fun _ q => XS.sipush X50.here hx rfl (hb hby at_6) q) ?_
  refine own_step (T' := T50) (g' := (mkF m 10 #[.val (.int p1), .val (.int p2), .val (.int p3), .unset, .unset, .unset, .unset, .unset, .unset, .unset, .unset] [(.int (p1 &&& (255 : Int32))), (.int (0 : Int32)), (.ref b50), (.ref b50)])) (fun _ q => XS.iand X50.here hx rfl (hb hby at_9) rfl q) ?_
  refine own_step (T' := T50) (g' := (mkF m 11 #[.val (.int p1), .val (.int p2), .val (.int p3), .unset, .unset, .unset, .unset, .unset, .unset, .unset, .unset] [(.int ((p1 &&& (255 : Int32)).toUInt32.toUInt16.toUInt32.toInt32)), (.int (0 : Int32)), (.ref b50), (.ref b50)])) (fun _ q => XT.i2c X50.here hx rfl (hb hby at_10) rfl q) ?_
  obtain ⟨T53, h53, X53, e53, W53, V53, st53⟩ := own_stC X50 hx hZ e50 V50 (j := (0 : Int32)) ⟨by decide, by decide⟩ (i := 0) rfl (Nat.le_of_ble_eq_true rfl) (g := (mkF m 11 #[.val (.int p1), .val (.int p2), .val (.int p3), .unset, .unset, .unset, .unset, .unset, .unset, .unset, .unset] [(.int ((p1 &&& (255 : Int32)).toUInt32.toUInt16.toUInt32.toInt32)), (.int (0 : Int32)), (.ref b50), (.ref b50)])) rfl rfl (hb hby at_11)
  replace V53 : Arv Z h53 b50 k50 .char (2 : Int32) [(.int (nar .char ((p1 &&& (255 : Int32)).toUInt32.toUInt16.toUInt32.toInt32))), (.int (0 : Int32))] (.int (0 : Int32)) := V53
  have N54 := Fr.snoc X53 N0 n0_51
  refine own_step (T' := T53) (g' := (mkF m 12 #[.val (.int p1), .val (.int p2), .val (.int p3), .unset, .unset, .unset, .unset, .unset, .unset, .unset, .unset] [(.ref b50)])) st53 ?_
  refine own_step (T' := T53) (g' := (mkF m 13 #[.val (.int p1), .val (.int p2), .val (.int p3), .unset, .unset, .unset, .unset, .unset, .unset, .unset, .unset] [(.ref b50), (.ref b50)])) (fun _ q => XS.dup X53.here hx rfl (hb hby at_12) rfl rfl q) ?_
  refine own_step (T' := T53) (g' := (mkF m 14 #[.val (.int p1), .val (.int p2), .val (.int p3), .unset, .unset, .unset, .unset, .unset, .unset, .unset, .unset] [(.int (1 : Int32)), (.ref b50), (.ref b50)])) (fun _ q => XS.iconst X53.here hx rfl (hb hby at_13) q) ?_
  refine own_step (T' := T53) (g' := (mkF m 15 #[.val (.int p1), .val (.int p2), .val (.int p3), .unset, .unset, .unset, .unset, .unset, .unset, .unset, .unset] [(.int p1), (.int (1 : Int32)), (.ref b50), (.ref b50)])) (fun _ q => XS.iloadN X53.here hx rfl (hb hby at_14) rfl q) ?_
  refine own_step (T' := T53) (g' := (mkF m 17 #[.val (.int p1), .val (.int p2), .val (.int p3), .unset, .unset, .unset, .unset, .unset, .unset, .unset, .unset] [(.int (8 : Int32)), (.int p1), (.int (1 : Int32)), (.ref b50), (.ref b50)])) (fun _ q => XS.bipush X53.here hx rfl (hb hby at_15) q) ?_
  refine own_step (T' := T53) (g' := (mkF m 18 #[.val (.int p1), .val (.int p2), .val (.int p3), .unset, .unset, .unset, .unset, .unset, .unset, .unset, .unset] [(.int (XT.ushr p1 (8 : Int32))), (.int (1 : Int32)), (.ref b50), (.ref b50)])) (fun _ q => XT.iushr X53.here hx rfl (hb hby at_17) rfl q) ?_
  refine own_step (T' := T53) (g' := (mkF m 21 #[.val (.int p1), .val (.int p2), .val (.int p3), .unset, .unset, .unset, .unset, .unset, .unset, .unset, .unset] [(.int (255 : Int32)), (.int (XT.ushr p1 (8 : Int32))), (.int (1 : Int32)), (.ref b50), (.ref b50)])) (fun _ q => XS.sipush X53.here hx rfl (hb hby at_18) q) ?_
  refine own_step (T' := T53) (g' := (mkF m 22 #[.val (.int p1), .val (.int p2), .val (.int p3), .unset, .unset, .unset, .unset, .unset, .unset, .unset, .unset] [(.int ((XT.ushr p1 (8 : Int32)) &&& (255 : Int32))), (.int (1 : Int32)), (.ref b50), (.ref b50)])) (fun _ q => XS.iand X53.here hx rfl (hb hby at_21) rfl q) ?_
  refine own_step (T' := T53) (g' := (mkF m 23 #[.val (.int p1), .val (.int p2), .val (.int p3), .unset, .unset, .unset, .unset, .unset, .unset, .unset, .unset] [(.int (((XT.ushr p1 (8 : Int32)) &&& (255 : Int32)).toUInt32.toUInt16.toUInt32.toInt32)), (.int (1 : Int32)), (.ref b50), (.ref b50)])) (fun _ q => XT.i2c X53.here hx rfl (hb hby at_22) rfl q) ?_
  obtain ⟨T55, h55, X55, e55, W55, V55, st55⟩ := own_stC X53 hx hZ e53 V53 (j := (1 : Int32)) ⟨by decide, by decide⟩ (i := 1) rfl (Nat.le_of_ble_eq_true rfl) (g := (mkF m 23 #[.val (.int p1), .val (.int p2), .val (.int p3), .unset, .unset, .unset, .unset, .unset, .unset, .unset, .unset] [(.int (((XT.ushr p1 (8 : Int32)) &&& (255 : Int32)).toUInt32.toUInt16.toUInt32.toInt32)), (.int (1 : Int32)), (.ref b50), (.ref b50)])) rfl rfl (hb hby at_23)
  replace V55 : Arv Z h55 b50 k50 .char (2 : Int32) [(.int (nar .char ((p1 &&& (255 : Int32)).toUInt32.toUInt16.toUInt32.toInt32))), (.int (nar .char (((XT.ushr p1 (8 : Int32)) &&& (255 : Int32)).toUInt32.toUInt16.toUInt32.toInt32)))] (.int (0 : Int32)) := V55
  have N56 := Fr.snoc X55 N54 n0_51
  refine own_step (T' := T55) (g' := (mkF m 24 #[.val (.int p1), .val (.int p2), .val (.int p3), .unset, .unset, .unset, .unset, .unset, .unset, .unset, .unset] [(.ref b50)])) st55 ?_
  refine own_step (T' := T55) (g' := (mkF m 25 #[.val (.int p1), .val (.int p2), .val (.int p3), .val (.ref b50), .unset, .unset, .unset, .unset, .unset, .unset, .unset] [])) (fun _ q => XS.astoreN X55.here hx rfl (hb hby at_24) rfl rfl (l' := #[.val (.int p1), .val (.int p2), .val (.int p3), .val (.ref b50), .unset, .unset, .unset, .unset, .unset, .unset, .unset]) rfl q) ?_
  refine own_step (T' := T55) (g' := (mkF m 26 #[.val (.int p1), .val (.int p2), .val (.int p3), .val (.ref b50), .unset, .unset, .unset, .unset, .unset, .unset, .unset] [(.int (2 : Int32))])) (fun _ q => XS.iconst X55.here hx rfl (hb hby at_25) q) ?_
  obtain ⟨T57, h57, k57, X57, e57, E57, A57, st57⟩ := newP X55 hx hZ (aty := .char) (w0 hw) e55 (g := (mkF m 26 #[.val (.int p1), .val (.int p2), .val (.int p3), .val (.ref b50), .unset, .unset, .unset, .unset, .unset, .unset, .unset] [(.int (2 : Int32))])) rfl (hb hby at_26) rfl (by decide) (cap := 2) (by decide) (by decide) (by first | decide | (dsimp only; omega)) (by first | decide | (dsimp only; omega))
  obtain ⟨b57, g57⟩ : ∃ z, z = h55.size := ⟨_, rfl⟩
  rw [← g57] at A57 st57
  have c58 := (Nat.le_trans (Nat.le_trans (Nat.le_trans Z0 E50.1) (Keep.of_wr W53).1) (Keep.of_wr W55).1)
  have n0_59 : n0 ≤ b57 := Nat.le_trans c58 (Nat.le_of_eq g57.symm)
  have c60 := (((KP0.ext E50).wr W53 (Or.inr sz0_52)).wr W55 (Or.inr sz0_52))
  have sz0_61 := Nat.le_trans c60.1 (Nat.le_of_eq g57.symm)
  have c62 := (own_lt (own_lt ltb50 (Keep.of_wr W53).1) (Keep.of_wr W55).1)
  have ne63 : b50 ≠ b57 := own_ne c62 (Nat.le_of_eq g57.symm)
  have V57 : Arv Z h57 b57 k57 .char (2 : Int32) [(.int (0 : Int32)), (.int (0 : Int32))] (.int (0 : Int32)) := (Arv.new A57 (by decide)).pad (pad_rep [] (.int (0 : Int32)) 2)
  have ltb57 := V57.lt
  refine own_step (T' := T57) (g' := (mkF m 28 #[.val (.int p1), .val (.int p2), .val (.int p3), .val (.ref b50), .unset, .unset, .unset, .unset, .unset, .unset, .unset] [(.ref b57)])) st57 ?_
  refine own_step (T' := T57) (g' := (mkF m 29 #[.val (.int p1), .val (.int p2), .val (.int p3), .val (.ref b50), .unset, .unset, .unset, .unset, .unset, .unset, .unset] [(.ref b57), (.ref b57)])) (fun _ q => XS.dup X57.here hx rfl (hb hby at_28) rfl rfl q) ?_
  refine own_step (T' := T57) (g' := (mkF m 30 #[.val (.int p1), .val (.int p2), .val (.int p3), .val (.ref b50), .unset, .unset, .unset, .unset, .unset, .unset, .unset] [(.int (0 : Int32)), (.ref b57), (.ref b57)])) (fun _ q => XS.iconst X57.here hx rfl (hb hby at_29) q) ?_
  refine own_step (T' := T57) (g' := (mkF m 31 #[.val (.int p1), .val (.int p2), .val (.int p3), .val (.ref b50), .unset, .unset, .unset, .unset, .unset, .unset, .unset] [(.int p2), (.int (0 : Int32)), (.ref b57), (.ref b57)])) (fun _ q => XS.iloadN X57.here hx rfl (hb hby at_30) rfl q) ?_
  refine own_step (T' := T57) (g' := (mkF m 34 #[.val (.int p1), .val (.int p2), .val (.int p3), .val (.ref b50), .unset, .unset, .unset, .unset, .unset, .unset, .unset] [(.int (255 : Int32)), (.int p2), (.int (0 : Int32)), (.ref b57), (.ref b57)])) (fun _ q => XS.sipush X57.here hx rfl (hb hby at_31) q) ?_
  refine own_step (T' := T57) (g' := (mkF m 35 #[.val (.int p1), .val (.int p2), .val (.int p3), .val (.ref b50), .unset, .unset, .unset, .unset, .unset, .unset, .unset] [(.int (p2 &&& (255 : Int32))), (.int (0 : Int32)), (.ref b57), (.ref b57)])) (fun _ q => XS.iand X57.here hx rfl (hb hby at_34) rfl q) ?_
  refine own_step (T' := T57) (g' := (mkF m 36 #[.val (.int p1), .val (.int p2), .val (.int p3), .val (.ref b50), .unset, .unset, .unset, .unset, .unset, .unset, .unset] [(.int ((p2 &&& (255 : Int32)).toUInt32.toUInt16.toUInt32.toInt32)), (.int (0 : Int32)), (.ref b57), (.ref b57)])) (fun _ q => XT.i2c X57.here hx rfl (hb hby at_35) rfl q) ?_
  obtain ⟨T64, h64, X64, e64, W64, V64, st64⟩ := own_stC X57 hx hZ e57 V57 (j := (0 : Int32)) ⟨by decide, by decide⟩ (i := 0) rfl (Nat.le_of_ble_eq_true rfl) (g := (mkF m 36 #[.val (.int p1), .val (.int p2), .val (.int p3), .val (.ref b50), .unset, .unset, .unset, .unset, .unset, .unset, .unset] [(.int ((p2 &&& (255 : Int32)).toUInt32.toUInt16.toUInt32.toInt32)), (.int (0 : Int32)), (.ref b57), (.ref b57)])) rfl rfl (hb hby at_36)
  replace V64 : Arv Z h64 b57 k57 .char (2 : Int32) [(.int (nar .char ((p2 &&& (255 : Int32)).toUInt32.toUInt16.toUInt32.toInt32))), (.int (0 : Int32))] (.int (0 : Int32)) := V64
  have N65 := Fr.snoc X64 N56 n0_59
  refine own_step (T' := T64) (g' := (mkF m 37 #[.val (.int p1), .val (.int p2), .val (.int p3), .val (.ref b50), .unset, .unset, .unset, .unset, .unset, .unset, .unset] [(.ref b57)])) st64 ?_
  refine own_step (T' := T64) (g' := (mkF m 38 #[.val (.int p1), .val (.int p2), .val (.int p3), .val (.ref b50), .unset, .unset, .unset, .unset, .unset, .unset, .unset] [(.ref b57), (.ref b57)])) (fun _ q => XS.dup X64.here hx rfl (hb hby at_37) rfl rfl q) ?_
  refine own_step (T' := T64) (g' := (mkF m 39 #[.val (.int p1), .val (.int p2), .val (.int p3), .val (.ref b50), .unset, .unset, .unset, .unset, .unset, .unset, .unset] [(.int (1 : Int32)), (.ref b57), (.ref b57)])) (fun _ q => XS.iconst X64.here hx rfl (hb hby at_38) q) ?_
  refine own_step (T' := T64) (g' := (mkF m 40 #[.val (.int p1), .val (.int p2), .val (.int p3), .val (.ref b50), .unset, .unset, .unset, .unset, .unset, .unset, .unset] [(.int p2), (.int (1 : Int32)), (.ref b57), (.ref b57)])) (fun _ q => XS.iloadN X64.here hx rfl (hb hby at_39) rfl q) ?_
  refine own_step (T' := T64) (g' := (mkF m 42 #[.val (.int p1), .val (.int p2), .val (.int p3), .val (.ref b50), .unset, .unset, .unset, .unset, .unset, .unset, .unset] [(.int (8 : Int32)), (.int p2), (.int (1 : Int32)), (.ref b57), (.ref b57)])) (fun _ q => XS.bipush X64.here hx rfl (hb hby at_40) q) ?_
  refine own_step (T' := T64) (g' := (mkF m 43 #[.val (.int p1), .val (.int p2), .val (.int p3), .val (.ref b50), .unset, .unset, .unset, .unset, .unset, .unset, .unset] [(.int (XT.ushr p2 (8 : Int32))), (.int (1 : Int32)), (.ref b57), (.ref b57)])) (fun _ q => XT.iushr X64.here hx rfl (hb hby at_42) rfl q) ?_
  refine own_step (T' := T64) (g' := (mkF m 46 #[.val (.int p1), .val (.int p2), .val (.int p3), .val (.ref b50), .unset, .unset, .unset, .unset, .unset, .unset, .unset] [(.int (255 : Int32)), (.int (XT.ushr p2 (8 : Int32))), (.int (1 : Int32)), (.ref b57), (.ref b57)])) (fun _ q => XS.sipush X64.here hx rfl (hb hby at_43) q) ?_
  refine own_step (T' := T64) (g' := (mkF m 47 #[.val (.int p1), .val (.int p2), .val (.int p3), .val (.ref b50), .unset, .unset, .unset, .unset, .unset, .unset, .unset] [(.int ((XT.ushr p2 (8 : Int32)) &&& (255 : Int32))), (.int (1 : Int32)), (.ref b57), (.ref b57)])) (fun _ q => XS.iand X64.here hx rfl (hb hby at_46) rfl q) ?_
  refine own_step (T' := T64) (g' := (mkF m 48 #[.val (.int p1), .val (.int p2), .val (.int p3), .val (.ref b50), .unset, .unset, .unset, .unset, .unset, .unset, .unset] [(.int (((XT.ushr p2 (8 : Int32)) &&& (255 : Int32)).toUInt32.toUInt16.toUInt32.toInt32)), (.int (1 : Int32)), (.ref b57), (.ref b57)])) (fun _ q => XT.i2c X64.here hx rfl (hb hby at_47) rfl q) ?_
  obtain ⟨T66, h66, X66, e66, W66, V66, st66⟩ := own_stC X64 hx hZ e64 V64 (j := (1 : Int32)) ⟨by decide, by decide⟩ (i := 1) rfl (Nat.le_of_ble_eq_true rfl) (g := (mkF m 48 #[.val (.int p1), .val (.int p2), .val (.int p3), .val (.ref b50), .unset, .unset, .unset, .unset, .unset, .unset, .unset] [(.int (((XT.ushr p2 (8 : Int32)) &&& (255 : Int32)).toUInt32.toUInt16.toUInt32.toInt32)), (.int (1 : Int32)), (.ref b57), (.ref b57)])) rfl rfl (hb hby at_48)
  replace V66 : Arv Z h66 b57 k57 .char (2 : Int32) [(.int (nar .char ((p2 &&& (255 : Int32)).toUInt32.toUInt16.toUInt32.toInt32))), (.int (nar .char (((XT.ushr p2 (8 : Int32)) &&& (255 : Int32)).toUInt32.toUInt16.toUInt32.toInt32)))] (.int (0 : Int32)) := V66
  have N67 := Fr.snoc X66 N65 n0_59
  refine own_step (T' := T66) (g' := (mkF m 49 #[.val (.int p1), .val (.int p2), .val (.int p3), .val (.ref b50), .unset, .unset, .unset, .unset, .unset, .unset, .unset] [(.ref b57)])) st66 ?_
  refine own_step (T' := T66) (g' := (mkF m 51 #[.val (.int p1), .val (.int p2), .val (.int p3), .val (.ref b50), .val (.ref b57), .unset, .unset, .unset, .unset, .unset, .unset] [])) (fun _ q => XS.astore X66.here hx rfl (hb hby at_49) rfl rfl (l' := #[.val (.int p1), .val (.int p2), .val (.int p3), .val (.ref b50), .val (.ref b57), .unset, .unset, .unset, .unset, .unset, .unset]) rfl q) ?_
  refine own_step (T' := T66) (g' := (mkF m 52 #[.val (.int p1), .val (.int p2), .val (.int p3), .val (.ref b50), .val (.ref b57), .unset, .unset, .unset, .unset, .unset, .unset] [(.int p3)])) (fun _ q => XS.iloadN X66.here hx rfl (hb hby at_51) rfl q) ?_
  refine own_step (T' := T66) (g' := (mkF m 53 #[.val (.int p1), .val (.int p2), .val (.int p3), .val (.ref b50), .val (.ref b57), .unset, .unset, .unset, .unset, .unset, .unset] [(.int (1 : Int32)), (.int p3)])) (fun _ q => XS.iconst X66.here hx rfl (hb hby at_52) q) ?_
  refine own_step (T' := T66) (g' := (mkF m 54 #[.val (.int p1), .val (.int p2), .val (.int p3), .val (.ref b50), .val (.ref b57), .unset, .unset, .unset, .unset, .unset, .unset] [(.int (p3 &&& (1 : Int32)))])) (fun _ q => XS.iand X66.here hx rfl (hb hby at_53) rfl q) ?_
  by_cases hc68 : (p3 &&& (1 : Int32)) = 0
  · refine own_step (T' := T66) (g' := (mkF m 61 #[.val (.int p1), .val (.int p2), .val (.int p3), .val (.ref b50), .val (.ref b57), .unset, .unset, .unset, .unset, .unset, .unset] [])) (fun _ q => XS.ifYes X66.here hx rfl (pc0 := 54) (pc' := 61) rfl (hb hby at_54) rfl (XT.i0_eq_t hc68) (by decide) (by decide) q) ?_
    refine own_step (T' := T66) (g' := (mkF m 62 #[.val (.int p1), .val (.int p2), .val (.int p3), .val (.ref b50), .val (.ref b57), .unset, .unset, .unset, .unset, .unset, .unset] [(.int (0 : Int32))])) (fun _ q => XS.iconst X66.here hx rfl (hb hby at_61) q) ?_
    refine own_step (T' := T66) (g' := (mkF m 64 #[.val (.int p1), .val (.int p2), .val (.int p3), .val (.ref b50), .val (.ref b57), .val (.int (0 : Int32)), .unset, .unset, .unset, .unset, .unset] [])) (fun _ q => XS.istore X66.here hx rfl (hb hby at_62) rfl (l' := #[.val (.int p1), .val (.int p2), .val (.int p3), .val (.ref b50), .val (.ref b57), .val (.int (0 : Int32)), .unset, .unset, .unset, .unset, .unset]) rfl q) ?_
    refine own_step (T' := T66) (g' := (mkF m 65 #[.val (.int p1), .val (.int p2), .val (.int p3), .val (.ref b50), .val (.ref b57), .val (.int (0 : Int32)), .unset, .unset, .unset, .unset, .unset] [(.int p3)])) (fun _ q => XS.iloadN X66.here hx rfl (hb hby at_64) rfl q) ?_
    refine own_step (T' := T66) (g' := (mkF m 66 #[.val (.int p1), .val (.int p2), .val (.int p3), .val (.ref b50), .val (.ref b57), .val (.int (0 : Int32)), .unset, .unset, .unset, .unset, .unset] [(.int (2 : Int32)), (.int p3)])) (fun _ q => XS.iconst X66.here hx rfl (hb hby at_65) q) ?_
    refine own_step (T' := T66) (g' := (mkF m 67 #[.val (.int p1), .val (.int p2), .val (.int p3), .val (.ref b50), .val (.ref b57), .val (.int (0 : Int32)), .unset, .unset, .unset, .unset, .unset] [(.int (p3 &&& (2 : Int32)))])) (fun _ q => XS.iand X66.here hx rfl (hb hby at_66) rfl q) ?_
    by_cases hc69 : (p3 &&& (2 : Int32)) = 0
    · refine own_step (T' := T66) (g' := (mkF m 74 #[.val (.int p1), .val (.int p2), .val (.int p3), .val (.ref b50), .val (.ref b57), .val (.int (0 : Int32)), .unset, .unset, .unset, .unset, .unset] [])) (fun _ q => XS.ifYes X66.here hx rfl (pc0 := 67) (pc' := 74) rfl (hb hby at_67) rfl (XT.i0_eq_t hc69) (by decide) (by decide) q) ?_
      refine own_step (T' := T66) (g' := (mkF m 75 #[.val (.int p1), .val (.int p2), .val (.int p3), .val (.ref b50), .val (.ref b57), .val (.int (0 : Int32)), .unset, .unset, .unset, .unset, .unset] [(.int (0 : Int32))])) (fun _ q => XS.iconst X66.here hx rfl (hb hby at_74) q) ?_
      refine own_step (T' := T66) (g' := (mkF m 77 #[.val (.int p1), .val (.int p2), .val (.int p3), .val (.ref b50), .val (.ref b57), .val (.int (0 : Int32)), .val (.int (0 : Int32)), .unset, .unset, .unset, .unset] [])) (fun _ q => XS.istore X66.here hx rfl (hb hby at_75) rfl (l' := #[.val (.int p1), .val (.int p2), .val (.int p3), .val (.ref b50), .val (.ref b57), .val (.int (0 : Int32)), .val (.int (0 : Int32)), .unset, .unset, .unset, .unset]) rfl q) ?_
      refine own_step (T' := T66) (g' := (mkF m 79 #[.val (.int p1), .val (.int p2), .val (.int p3), .val (.ref b50), .val (.ref b57), .val (.int (0 : Int32)), .val (.int (0 : Int32)), .unset, .unset, .unset, .unset] [(.int (0 : Int32))])) (fun _ q => XS.iload X66.here hx rfl (hb hby at_77) rfl q) ?_
      refine own_step (T' := T66) (g' := (mkF m 93 #[.val (.int p1), .val (.int p2), .val (.int p3), .val (.ref b50), .val (.ref b57), .val (.int (0 : Int32)), .val (.int (0 : Int32)), .unset, .unset, .unset, .unset] [])) (fun _ q => XS.ifYes X66.here hx rfl (pc0 := 79) (pc' := 93) rfl (hb hby at_79) rfl (by decide) (by decide) (by decide) q) ?_
      refine own_step (T' := T66) (g' := (mkF m 94 #[.val (.int p1), .val (.int p2), .val (.int p3), .val (.ref b50), .val (.ref b57), .val (.int (0 : Int32)), .val (.int (0 : Int32)), .unset, .unset, .unset, .unset] [.null])) (fun _ q => XS.aconstNull X66.here hx rfl (hb hby at_93) q) ?_
      refine own_step (T' := T66) (g' := (mkF m 96 #[.val (.int p1), .val (.int p2), .val (.int p3), .val (.ref b50), .val (.ref b57), .val (.int (0 : Int32)), .val (.int (0 : Int32)), .val .null, .unset, .unset, .unset] [])) (fun _ q => XS.astore X66.here hx rfl (hb hby at_94) rfl rfl (l' := #[.val (.int p1), .val (.int p2), .val (.int p3), .val (.ref b50), .val (.ref b57), .val (.int (0 : Int32)), .val (.int (0 : Int32)), .val .null, .unset, .unset, .unset]) rfl q) ?_
      refine own_step (T' := T66) (g' := (mkF m 98 #[.val (.int p1), .val (.int p2), .val (.int p3), .val (.ref b50), .val (.ref b57), .val (.int (0 : Int32)), .val (.int (0 : Int32)), .val .null, .unset, .unset, .unset] [(.int (0 : Int32))])) (fun _ q => XS.iload X66.here hx rfl (hb hby at_96) rfl q) ?_
      refine own_step (T' := T66) (g' := (mkF m 113 #[.val (.int p1), .val (.int p2), .val (.int p3), .val (.ref b50), .val (.ref b57), .val (.int (0 : Int32)), .val (.int (0 : Int32)), .val .null, .unset, .unset, .unset] [])) (fun _ q => XS.ifYes X66.here hx rfl (pc0 := 98) (pc' := 113) rfl (hb hby at_98) rfl (by decide) (by decide) (by decide) q) ?_
      refine own_step (T' := T66) (g' := (mkF m 114 #[.val (.int p1), .val (.int p2), .val (.int p3), .val (.ref b50), .val (.ref b57), .val (.int (0 : Int32)), .val (.int (0 : Int32)), .val .null, .unset, .unset, .unset] [.null])) (fun _ q => XS.aconstNull X66.here hx rfl (hb hby at_113) q) ?_
      refine own_step (T' := T66) (g' := (mkF m 116 #[.val (.int p1), .val (.int p2), .val (.int p3), .val (.ref b50), .val (.ref b57), .val (.int (0 : Int32)), .val (.int (0 : Int32)), .val .null, .val .null, .unset, .unset] [])) (fun _ q => XS.astore X66.here hx rfl (hb hby at_114) rfl rfl (l' := #[.val (.int p1), .val (.int p2), .val (.int p3), .val (.ref b50), .val (.ref b57), .val (.int (0 : Int32)), .val (.int (0 : Int32)), .val .null, .val .null, .unset, .unset]) rfl q) ?_
      obtain ⟨T70, h70, X70, e70, E70, A70, D70, -, st70⟩ := newO X66 hx hZ hown (w30 hw) (w31 hw) (w32 hw) e66 (g := (mkF m 116 #[.val (.int p1), .val (.int p2), .val (.int p3), .val (.ref b50), .val (.ref b57), .val (.int (0 : Int32)), .val (.int (0 : Int32)), .val .null, .val .null, .unset, .unset] [])) rfl (hb hby at_116) (by first | decide | (dsimp only; omega)) (by first | decide | (dsimp only; omega))
      obtain ⟨b70, g70⟩ : ∃ z, z = h66.size := ⟨_, rfl⟩
      rw [← g70] at A70 D70 st70
      have c71 := (Nat.le_trans (Nat.le_trans (Nat.le_trans c58 E57.1) (Keep.of_wr W64).1) (Keep.of_wr W66).1)
      have n0_72 : n0 ≤ b70 := Nat.le_trans c71 (Nat.le_of_eq g70.symm)
      have c73 := (((c60.ext E57).wr W64 (Or.inr sz0_61)).wr W66 (Or.inr sz0_61))
      have sz0_74 := Nat.le_trans c73.1 (Nat.le_of_eq g70.symm)
      have c75 := (own_lt (own_lt (own_lt c62 E57.1) (Keep.of_wr W64).1) (Keep.of_wr W66).1)
      have ne76 : b50 ≠ b70 := own_ne c75 (Nat.le_of_eq g70.symm)
      have c77 := (own_lt (own_lt ltb57 (Keep.of_wr W64).1) (Keep.of_wr W66).1)
      have ne78 : b57 ≠ b70 := own_ne c77 (Nat.le_of_eq g70.symm)
      have ltb70 := A70.lt
      have F79 : Fld Z h70 b70 "com/example/nameid/nameid/saml/ServiceProvider" "entityId" "Ljava/lang/String;" .null := D70 (Or.inr (w43 hw)) (ty := (.object "java/lang/String")) (by decide)
      have F80 : Fld Z h70 b70 "com/example/nameid/nameid/saml/ServiceProvider" "displayName" "Ljava/lang/String;" .null := D70 (Or.inr (w45 hw)) (ty := (.object "java/lang/String")) (by decide)
      have F81 : Fld Z h70 b70 "com/example/nameid/nameid/saml/ServiceProvider" "signingKeys" "Ljava/util/List;" .null := D70 (Or.inr (w47 hw)) (ty := (.object "java/util/List")) (by decide)
      have F82 : Fld Z h70 b70 "com/example/nameid/nameid/saml/ServiceProvider" "encryptionKeys" "Ljava/util/List;" .null := D70 (Or.inr (w49 hw)) (ty := (.object "java/util/List")) (by decide)
      have F83 : Fld Z h70 b70 "com/example/nameid/nameid/saml/ServiceProvider" "assertionConsumerServices" "Ljava/util/List;" .null := D70 (Or.inr (w51 hw)) (ty := (.object "java/util/List")) (by decide)
      have F84 : Fld Z h70 b70 "com/example/nameid/nameid/saml/ServiceProvider" "singleLogoutServices" "Ljava/util/List;" .null := D70 (Or.inr (w53 hw)) (ty := (.object "java/util/List")) (by decide)
      have F85 : Fld Z h70 b70 "com/example/nameid/nameid/saml/ServiceProvider" "nameIdFormats" "Ljava/util/List;" .null := D70 (Or.inr (w55 hw)) (ty := (.object "java/util/List")) (by decide)
      have F86 : Fld Z h70 b70 "com/example/nameid/nameid/saml/ServiceProvider" "attributeConsumingServices" "Ljava/util/List;" .null := D70 (Or.inr (w57 hw)) (ty := (.object "java/util/List")) (by decide)
      refine own_step (T' := T70) (g' := (mkF m 119 #[.val (.int p1), .val (.int p2), .val (.int p3), .val (.ref b50), .val (.ref b57), .val (.int (0 : Int32)), .val (.int (0 : Int32)), .val .null, .val .null, .unset, .unset] [(.ref b70)])) st70 ?_
      refine own_step (T' := T70) (g' := (mkF m 120 #[.val (.int p1), .val (.int p2), .val (.int p3), .val (.ref b50), .val (.ref b57), .val (.int (0 : Int32)), .val (.int (0 : Int32)), .val .null, .val .null, .unset, .unset] [(.ref b70), (.ref b70)])) (fun _ q => XS.dup X70.here hx rfl (hb hby at_119) rfl rfl q) ?_
      refine own_step (T' := T70) (g' := (mkF m 122 #[.val (.int p1), .val (.int p2), .val (.int p3), .val (.ref b50), .val (.ref b57), .val (.int (0 : Int32)), .val (.int (0 : Int32)), .val .null, .val .null, .unset, .unset] [.null, (.ref b70), (.ref b70)])) (fun _ q => XS.aload X70.here hx rfl (hb hby at_120) rfl rfl q) ?_
      refine own_step (T' := T70) (g' := (mkF m 124 #[.val (.int p1), .val (.int p2), .val (.int p3), .val (.ref b50), .val (.ref b57), .val (.int (0 : Int32)), .val (.int (0 : Int32)), .val .null, .val .null, .unset, .unset] [.null, .null, (.ref b70), (.ref b70)])) (fun _ q => XS.aload X70.here hx rfl (hb hby at_122) rfl rfl q) ?_
      refine own_step (T' := T70) (g' := (mkF m 125 #[.val (.int p1), .val (.int p2), .val (.int p3), .val (.ref b50), .val (.ref b57), .val (.int (0 : Int32)), .val (.int (0 : Int32)), .val .null, .val .null, .unset, .unset] [.null, .null, .null, (.ref b70), (.ref b70)])) (fun _ q => XS.aconstNull X70.here hx rfl (hb hby at_124) q) ?_
      refine own_step (T' := T70) (g' := (mkF m 126 #[.val (.int p1), .val (.int p2), .val (.int p3), .val (.ref b50), .val (.ref b57), .val (.int (0 : Int32)), .val (.int (0 : Int32)), .val .null, .val .null, .unset, .unset] [.null, .null, .null, .null, (.ref b70), (.ref b70)])) (fun _ q => XS.aconstNull X70.here hx rfl (hb hby at_125) q) ?_
      refine own_step (T' := T70) (g' := (mkF m 127 #[.val (.int p1), .val (.int p2), .val (.int p3), .val (.ref b50), .val (.ref b57), .val (.int (0 : Int32)), .val (.int (0 : Int32)), .val .null, .val .null, .unset, .unset] [.null, .null, .null, .null, .null, (.ref b70), (.ref b70)])) (fun _ q => XS.aconstNull X70.here hx rfl (hb hby at_126) q) ?_
      refine own_step (T' := T70) (g' := (mkF m 128 #[.val (.int p1), .val (.int p2), .val (.int p3), .val (.ref b50), .val (.ref b57), .val (.int (0 : Int32)), .val (.int (0 : Int32)), .val .null, .val .null, .unset, .unset] [.null, .null, .null, .null, .null, .null, (.ref b70), (.ref b70)])) (fun _ q => XS.aconstNull X70.here hx rfl (hb hby at_127) q) ?_
      refine own_step (T' := T70) (g' := (mkF m 129 #[.val (.int p1), .val (.int p2), .val (.int p3), .val (.ref b50), .val (.ref b57), .val (.int (0 : Int32)), .val (.int (0 : Int32)), .val .null, .val .null, .unset, .unset] [.null, .null, .null, .null, .null, .null, .null, (.ref b70), (.ref b70)])) (fun _ q => XS.aconstNull X70.here hx rfl (hb hby at_128) q) ?_
      refine own_step (T' := T70) (g' := (mkF m 130 #[.val (.int p1), .val (.int p2), .val (.int p3), .val (.ref b50), .val (.ref b57), .val (.int (0 : Int32)), .val (.int (0 : Int32)), .val .null, .val .null, .unset, .unset] [.null, .null, .null, .null, .null, .null, .null, .null, (.ref b70), (.ref b70)])) (fun _ q => XS.aconstNull X70.here hx rfl (hb hby at_129) q) ?_
      have c87 := (Nat.le_trans c71 E70.1)
      refine own_callC X70 hx hZ hown rfl (w33 hw) (w34 hw) (w35 hw) (by decide) (backOf (W := 1) (own_spinit l Z a0 hw [] b70 Value.null Value.null h70 n0 c87 (rfl : Value.null.isRef = true) (rfl : Value.null.isRef = true) A70 n0_72 F79 F80 F81 F82 F83 F84 F85 F86) hZ (w35 hw) (w32 hw) (by decide) (by decide)) e70  (by first | decide | (dsimp only; omega)) (by first | decide | (dsimp only; omega)) (g := (mkF m 130 #[.val (.int p1), .val (.int p2), .val (.int p3), .val (.ref b50), .val (.ref b57), .val (.int (0 : Int32)), .val (.int (0 : Int32)), .val .null, .val .null, .unset, .unset] [.null, .null, .null, .null, .null, .null, .null, .null, (.ref b70), (.ref b70)])) (argsL := [.null, .null, .null, .null, .null, .null, .null, .null]) (rest := [(.ref b70)]) rfl (by rw [hml]; rfl) (lenOf pd_1 rfl) rfl rfl (by show 2 * 0 + _ ≤ _; exact Nat.le_of_eq rfl) (hb hby at_130) ?_
      rintro _ T88 L88 X88 ⟨rfl, N88q, K88, f0_88, f1_88, f2_88⟩
      have N89 := Fr.app N67 N88q
      show own_Fin p e below _ T88 (mkF m 133 #[.val (.int p1), .val (.int p2), .val (.int p3), .val (.ref b50), .val (.ref b57), .val (.int (0 : Int32)), .val (.int (0 : Int32)), .val .null, .val .null, .unset, .unset] [(.ref b70)])
      refine own_step (T' := T88) (g' := (mkF m 135 #[.val (.int p1), .val (.int p2), .val (.int p3), .val (.ref b50), .val (.ref b57), .val (.int (0 : Int32)), .val (.int (0 : Int32)), .val .null, .val .null, .val (.ref b70), .unset] [])) (fun _ q => XS.astore X88.here hx rfl (hb hby at_133) rfl rfl (l' := #[.val (.int p1), .val (.int p2), .val (.int p3), .val (.ref b50), .val (.ref b57), .val (.int (0 : Int32)), .val (.int (0 : Int32)), .val .null, .val .null, .val (.ref b70), .unset]) rfl q) ?_
      refine own_step (T' := T88) (g' := (mkF m 137 #[.val (.int p1), .val (.int p2), .val (.int p3), .val (.ref b50), .val (.ref b57), .val (.int (0 : Int32)), .val (.int (0 : Int32)), .val .null, .val .null, .val (.ref b70), .unset] [(.ref b70)])) (fun _ q => XS.aload X88.here hx rfl (hb hby at_135) rfl rfl q) ?_
      have c90 := (Nat.le_trans c87 K88.1)
      refine own_callV (y := (⟨"com/example/nameid/nameid/saml/ServiceProvider", "name", "()Ljava/lang/String;"⟩ : MethodName)) (z := (⟨"com/example/nameid/nameid/saml/ServiceProvider", "name", "()Ljava/lang/String;"⟩ : MethodName)) X88 hx hZ hown (w58 hw) (w59 hw) (notFace_of_selects (args := #[]) (mvT hZ (w61 hw))) (w61 hw) (w60 hw) (by decide) (backOf (W := 0) (own_namee l Z a0 hw [] b70 Value.null T88.heap n0 c90 (rfl : Value.null.isRef = true) f2_88 f1_88) hZ (w62 hw) (w32 hw) (by decide) (by decide)) rfl f0_88  (by first | decide | (dsimp only; omega)) (by first | decide | (dsimp only; omega)) (g := (mkF m 137 #[.val (.int p1), .val (.int p2), .val (.int p3), .val (.ref b50), .val (.ref b57), .val (.int (0 : Int32)), .val (.int (0 : Int32)), .val .null, .val .null, .val (.ref b70), .unset] [(.ref b70)])) (argsL := []) (rest := []) rfl (by rw [hml]; rfl) (lenOf pd_2 rfl) rfl rfl (by show 2 * 0 + _ ≤ _; exact Nat.le_of_eq rfl) (hb hby at_137) ?_
      rintro _ T91 L91 X91 ⟨rfl, N91q, e91⟩
      have N92 := Fr.app N89 N91q
      show own_Fin p e below _ T91 (mkF m 140 #[.val (.int p1), .val (.int p2), .val (.int p3), .val (.ref b50), .val (.ref b57), .val (.int (0 : Int32)), .val (.int (0 : Int32)), .val .null, .val .null, .val (.ref b70), .unset] [.null])
      refine own_step (T' := T91) (g' := (mkF m 142 #[.val (.int p1), .val (.int p2), .val (.int p3), .val (.ref b50), .val (.ref b57), .val (.int (0 : Int32)), .val (.int (0 : Int32)), .val .null, .val .null, .val (.ref b70), .val .null] [])) (fun _ q => XS.astore X91.here hx rfl (hb hby at_140) rfl rfl (l' := #[.val (.int p1), .val (.int p2), .val (.int p3), .val (.ref b50), .val (.ref b57), .val (.int (0 : Int32)), .val (.int (0 : Int32)), .val .null, .val .null, .val (.ref b70), .val .null]) rfl q) ?_
      refine own_step (T' := T91) (g' := (mkF m 144 #[.val (.int p1), .val (.int p2), .val (.int p3), .val (.ref b50), .val (.ref b57), .val (.int (0 : Int32)), .val (.int (0 : Int32)), .val .null, .val .null, .val (.ref b70), .val .null] [(.int (0 : Int32))])) (fun _ q => XS.iload X91.here hx rfl (hb hby at_142) rfl q) ?_
      refine own_step (T' := T91) (g' := (mkF m 195 #[.val (.int p1), .val (.int p2), .val (.int p3), .val (.ref b50), .val (.ref b57), .val (.int (0 : Int32)), .val (.int (0 : Int32)), .val .null, .val .null, .val (.ref b70), .val .null] [])) (fun _ q => XS.ifYes X91.here hx rfl (pc0 := 144) (pc' := 195) rfl (hb hby at_144) rfl (by decide) (by decide) (by decide) q) ?_
      refine own_step (T' := T91) (g' := (mkF m 197 #[.val (.int p1), .val (.int p2), .val (.int p3), .val (.ref b50), .val (.ref b57), .val (.int (0 : Int32)), .val (.int (0 : Int32)), .val .null, .val .null, .val (.ref b70), .val .null] [(.int (0 : Int32))])) (fun _ q => XS.iload X91.here hx rfl (hb hby at_195) rfl q) ?_
      refine own_step (T' := T91) (g' := (mkF m 246 #[.val (.int p1), .val (.int p2), .val (.int p3), .val (.ref b50), .val (.ref b57), .val (.int (0 : Int32)), .val (.int (0 : Int32)), .val .null, .val .null, .val (.ref b70), .val .null] [])) (fun _ q => XS.ifYes X91.here hx rfl (pc0 := 197) (pc' := 246) rfl (hb hby at_197) rfl (by decide) (by decide) (by decide) q) ?_
      refine own_step (T' := T91) (g' := (mkF m 248 #[.val (.int p1), .val (.int p2), .val (.int p3), .val (.ref b50), .val (.ref b57), .val (.int (0 : Int32)), .val (.int (0 : Int32)), .val .null, .val .null, .val (.ref b70), .val .null] [.null])) (fun _ q => XS.aload X91.here hx rfl (hb hby at_246) rfl rfl q) ?_
      refine own_step (T' := T91) (g' := (mkF m 251 #[.val (.int p1), .val (.int p2), .val (.int p3), .val (.ref b50), .val (.ref b57), .val (.int (0 : Int32)), .val (.int (0 : Int32)), .val .null, .val .null, .val (.ref b70), .val .null] [])) (fun _ q => XT.ifnonnullNo X91.here hx rfl (hb hby at_248) rfl q) ?_
      refine own_step (T' := T91) (g' := (mkF m 252 #[.val (.int p1), .val (.int p2), .val (.int p3), .val (.ref b50), .val (.ref b57), .val (.int (0 : Int32)), .val (.int (0 : Int32)), .val .null, .val .null, .val (.ref b70), .val .null] [(.int (1 : Int32))])) (fun _ q => XS.iconst X91.here hx rfl (hb hby at_251) q) ?_
      refine own_step (T' := T91) (g' := (mkF m 256 #[.val (.int p1), .val (.int p2), .val (.int p3), .val (.ref b50), .val (.ref b57), .val (.int (0 : Int32)), .val (.int (0 : Int32)), .val .null, .val .null, .val (.ref b70), .val .null] [(.int (1 : Int32))])) (fun _ q => XS.goto X91.here hx rfl (pc0 := 252) (pc' := 256) rfl (hb hby at_252) (by decide) (by decide) q) ?_
      have c93 := ((c73.ext E70).trans K88 (allS (Or.inr sz0_74) all0))
      exact own_retN X91 hx Bd.returns (by simp) (hb hby at_256) hlk (by rw [e91]; exact ⟨rfl, N92, c93⟩) (by first | decide | (dsimp only; omega)) (by first | decide | (dsimp only; omega))
    · refine own_step (T' := T66) (g' := (mkF m 70 #[.val (.int p1), .val (.int p2), .val (.int p3), .val (.ref b50), .val (.ref b57), .val (.int (0 : Int32)), .unset, .unset, .unset, .unset, .unset] [])) (fun _ q => XS.ifNo X66.here hx rfl (hb hby at_67) rfl (XT.i0_eq_f hc69) q) ?_
      refine own_step (T' := T66) (g' := (mkF m 71 #[.val (.int p1), .val (.int p2), .val (.int p3), .val (.ref b50), .val (.ref b57), .val (.int (0 : Int32)), .unset, .unset, .unset, .unset, .unset] [(.int (1 : Int32))])) (fun _ q => XS.iconst X66.here hx rfl (hb hby at_70) q) ?_
      refine own_step (T' := T66) (g' := (mkF m 75 #[.val (.int p1), .val (.int p2), .val (.int p3), .val (.ref b50), .val (.ref b57), .val (.int (0 : Int32)), .unset, .unset, .unset, .unset, .unset] [(.int (1 : Int32))])) (fun _ q => XS.goto X66.here hx rfl (pc0 := 71) (pc' := 75) rfl (hb hby at_71) (by decide) (by decide) q) ?_
      refine own_step (T' := T66) (g' := (mkF m 77 #[.val (.int p1), .val (.int p2), .val (.int p3), .val (.ref b50), .val (.ref b57), .val (.int (0 : Int32)), .val (.int (1 : Int32)), .unset, .unset, .unset, .unset] [])) (fun _ q => XS.istore X66.here hx rfl (hb hby at_75) rfl (l' := #[.val (.int p1), .val (.int p2), .val (.int p3), .val (.ref b50), .val (.ref b57), .val (.int (0 : Int32)), .val (.int (1 : Int32)), .unset, .unset, .unset, .unset]) rfl q) ?_
      refine own_step (T' := T66) (g' := (mkF m 79 #[.val (.int p1), .val (.int p2), .val (.int p3), .val (.ref b50), .val (.ref b57), .val (.int (0 : Int32)), .val (.int (1 : Int32)), .unset, .unset, .unset, .unset] [(.int (1 : Int32))])) (fun _ q => XS.iload X66.here hx rfl (hb hby at_77) rfl q) ?_
      refine own_step (T' := T66) (g' := (mkF m 82 #[.val (.int p1), .val (.int p2), .val (.int p3), .val (.ref b50), .val (.ref b57), .val (.int (0 : Int32)), .val (.int (1 : Int32)), .unset, .unset, .unset, .unset] [])) (fun _ q => XS.ifNo X66.here hx rfl (hb hby at_79) rfl (by decide) q) ?_
      obtain ⟨T94, h94, X94, e94, E94, A94, D94, -, st94⟩ := newO X66 hx hZ hown (w1 hw) (w2 hw) (w3 hw) e66 (g := (mkF m 82 #[.val (.int p1), .val (.int p2), .val (.int p3), .val (.ref b50), .val (.ref b57), .val (.int (0 : Int32)), .val (.int (1 : Int32)), .unset, .unset, .unset, .unset] [])) rfl (hb hby at_82) (by first | decide | (dsimp only; omega)) (by first | decide | (dsimp only; omega))
      obtain ⟨b94, g94⟩ : ∃ z, z = h66.size := ⟨_, rfl⟩
      rw [← g94] at A94 D94 st94
      have c95 := (Nat.le_trans (Nat.le_trans (Nat.le_trans c58 E57.1) (Keep.of_wr W64).1) (Keep.of_wr W66).1)
      have n0_96 : n0 ≤ b94 := Nat.le_trans c95 (Nat.le_of_eq g94.symm)
      have c97 := (((c60.ext E57).wr W64 (Or.inr sz0_61)).wr W66 (Or.inr sz0_61))
      have sz0_98 := Nat.le_trans c97.1 (Nat.le_of_eq g94.symm)
      have c99 := (own_lt (own_lt (own_lt c62 E57.1) (Keep.of_wr W64).1) (Keep.of_wr W66).1)
      have ne100 : b50 ≠ b94 := own_ne c99 (Nat.le_of_eq g94.symm)
      have c101 := (own_lt (own_lt ltb57 (Keep.of_wr W64).1) (Keep.of_wr W66).1)
      have ne102 : b57 ≠ b94 := own_ne c101 (Nat.le_of_eq g94.symm)
      have ltb94 := A94.lt
      have F103 : Fld Z h94 b94 "java/lang/String" "coder" "B" (.int (0 : Int32)) := D94 (Or.inr (w27 hw)) (ty := .byte) (by decide)
      have F104 : Fld Z h94 b94 "java/lang/String" "value" "[B" .null := D94 (Or.inr (w29 hw)) (ty := (.array .byte)) (by decide)
      refine own_step (T' := T94) (g' := (mkF m 85 #[.val (.int p1), .val (.int p2), .val (.int p3), .val (.ref b50), .val (.ref b57), .val (.int (0 : Int32)), .val (.int (1 : Int32)), .unset, .unset, .unset, .unset] [(.ref b94)])) st94 ?_
      refine own_step (T' := T94) (g' := (mkF m 86 #[.val (.int p1), .val (.int p2), .val (.int p3), .val (.ref b50), .val (.ref b57), .val (.int (0 : Int32)), .val (.int (1 : Int32)), .unset, .unset, .unset, .unset] [(.ref b94), (.ref b94)])) (fun _ q => XS.dup X94.here hx rfl (hb hby at_85) rfl rfl q) ?_
      refine own_step (T' := T94) (g' := (mkF m 87 #[.val (.int p1), .val (.int p2), .val (.int p3), .val (.ref b50), .val (.ref b57), .val (.int (0 : Int32)), .val (.int (1 : Int32)), .unset, .unset, .unset, .unset] [(.ref b50), (.ref b94), (.ref b94)])) (fun _ q => XS.aloadN X94.here hx rfl (hb hby at_86) rfl rfl q) ?_
      have c105 := ((((V55.ext E57).other W64 ne63).other W66 ne63).ext E94)
      have c106 := (Nat.le_trans c95 E94.1)
      have c107 := (((((((OLD0.ext E50).wr W53 n0_51).wr W55 n0_51).ext E57).wr W64 n0_59).wr W66 n0_59).ext E94)
      have hp108 : ∀ c ∈ ([(nar .char ((p1 &&& (255 : Int32)).toUInt32.toUInt16.toUInt32.toInt32)), (nar .char (((XT.ushr p1 (8 : Int32)) &&& (255 : Int32)).toUInt32.toUInt16.toUInt32.toInt32))] : List Int32), ¬ c < 0 ∧ ¬ (255 : Int32) < c := (own_allS (own_and255 p1) (own_allS (own_and255 (XT.ushr p1 (8 : Int32))) own_all0))
      refine own_callC X94 hx hZ hown rfl (w4 hw) (w5 hw) (w6 hw) (by decide) (StrChars.Road.backV (W := 1) hZ (own_ws hw) (kI := 4) (w2 hw) (cs := ([(nar .char ((p1 &&& (255 : Int32)).toUInt32.toUInt16.toUInt32.toInt32)), (nar .char (((XT.ushr p1 (8 : Int32)) &&& (255 : Int32)).toUInt32.toUInt16.toUInt32.toInt32))] : List Int32)) (bs := (([(nar .char ((p1 &&& (255 : Int32)).toUInt32.toUInt16.toUInt32.toInt32)), (nar .char (((XT.ushr p1 (8 : Int32)) &&& (255 : Int32)).toUInt32.toUInt16.toUInt32.toInt32))] : List Int32)).map (fun c => c.toInt8.toInt32)) (n := 2) n0_96 c106 A94 F104 F103 c105 (O2.ext c107.2) P5 rfl rfl (by decide) (by decide) hp108 rfl (by decide) (by decide)) e94  (by first | decide | (dsimp only; omega)) (by first | decide | (dsimp only; omega)) (g := (mkF m 87 #[.val (.int p1), .val (.int p2), .val (.int p3), .val (.ref b50), .val (.ref b57), .val (.int (0 : Int32)), .val (.int (1 : Int32)), .unset, .unset, .unset, .unset] [(.ref b50), (.ref b94), (.ref b94)])) (argsL := [(.ref b50)]) (rest := [(.ref b94)]) rfl (by rw [hml]; rfl) (lenOf pd_3 rfl) rfl rfl (by show 2 * 0 + _ ≤ _; exact Nat.le_of_eq rfl) (hb hby at_87) ?_
      rintro _ T109 L109 X109 ⟨rfl, N109q, K109, fE109, fC109, t109, kb109, ge109, sz109, nx109, fV109, fA109⟩
      have n0_110 : n0 ≤ t109 := Nat.le_trans c106 sz109
      have c111 := (c97.ext E94)
      have sz0_112 := Nat.le_trans c111.1 sz109
      have c113 := (own_lt c99 E94.1)
      have ne114 : b50 ≠ t109 := own_ne c113 sz109
      have c115 := (own_lt c101 E94.1)
      have ne116 : b57 ≠ t109 := own_ne c115 sz109
      have ne117 : b94 ≠ t109 := own_ne ltb94 sz109
      have ltt109 := fA109.lt
      have hcd118 : StrChars.Road.CodA ([(nar .char ((p1 &&& (255 : Int32)).toUInt32.toUInt16.toUInt32.toInt32)), (nar .char (((XT.ushr p1 (8 : Int32)) &&& (255 : Int32)).toUInt32.toUInt16.toUInt32.toInt32))] : List Int32) 0 (2 : Int32) (((([(nar .char ((p1 &&& (255 : Int32)).toUInt32.toUInt16.toUInt32.toInt32)), (nar .char (((XT.ushr p1 (8 : Int32)) &&& (255 : Int32)).toUInt32.toUInt16.toUInt32.toInt32))] : List Int32)).map (fun c => c.toInt8.toInt32)).map Value.int) := StrChars.Road.codOf (n := 2) rfl (fun c hc => (hp108 c hc).2)
      have N119 := Fr.app N67 N109q
      show own_Fin p e below _ T109 (mkF m 90 #[.val (.int p1), .val (.int p2), .val (.int p3), .val (.ref b50), .val (.ref b57), .val (.int (0 : Int32)), .val (.int (1 : Int32)), .unset, .unset, .unset, .unset] [(.ref b94)])
      refine own_step (T' := T109) (g' := (mkF m 94 #[.val (.int p1), .val (.int p2), .val (.int p3), .val (.ref b50), .val (.ref b57), .val (.int (0 : Int32)), .val (.int (1 : Int32)), .unset, .unset, .unset, .unset] [(.ref b94)])) (fun _ q => XS.goto X109.here hx rfl (pc0 := 90) (pc' := 94) rfl (hb hby at_90) (by decide) (by decide) q) ?_
      refine own_step (T' := T109) (g' := (mkF m 96 #[.val (.int p1), .val (.int p2), .val (.int p3), .val (.ref b50), .val (.ref b57), .val (.int (0 : Int32)), .val (.int (1 : Int32)), .val (.ref b94), .unset, .unset, .unset] [])) (fun _ q => XS.astore X109.here hx rfl (hb hby at_94) rfl rfl (l' := #[.val (.int p1), .val (.int p2), .val (.int p3), .val (.ref b50), .val (.ref b57), .val (.int (0 : Int32)), .val (.int (1 : Int32)), .val (.ref b94), .unset, .unset, .unset]) rfl q) ?_
      refine own_step (T' := T109) (g' := (mkF m 98 #[.val (.int p1), .val (.int p2), .val (.int p3), .val (.ref b50), .val (.ref b57), .val (.int (0 : Int32)), .val (.int (1 : Int32)), .val (.ref b94), .unset, .unset, .unset] [(.int (0 : Int32))])) (fun _ q => XS.iload X109.here hx rfl (hb hby at_96) rfl q) ?_
      refine own_step (T' := T109) (g' := (mkF m 113 #[.val (.int p1), .val (.int p2), .val (.int p3), .val (.ref b50), .val (.ref b57), .val (.int (0 : Int32)), .val (.int (1 : Int32)), .val (.ref b94), .unset, .unset, .unset] [])) (fun _ q => XS.ifYes X109.here hx rfl (pc0 := 98) (pc' := 113) rfl (hb hby at_98) rfl (by decide) (by decide) (by decide) q) ?_
      refine own_step (T' := T109) (g' := (mkF m 114 #[.val (.int p1), .val (.int p2), .val (.int p3), .val (.ref b50), .val (.ref b57), .val (.int (0 : Int32)), .val (.int (1 : Int32)), .val (.ref b94), .unset, .unset, .unset] [.null])) (fun _ q => XS.aconstNull X109.here hx rfl (hb hby at_113) q) ?_
      refine own_step (T' := T109) (g' := (mkF m 116 #[.val (.int p1), .val (.int p2), .val (.int p3), .val (.ref b50), .val (.ref b57), .val (.int (0 : Int32)), .val (.int (1 : Int32)), .val (.ref b94), .val .null, .unset, .unset] [])) (fun _ q => XS.astore X109.here hx rfl (hb hby at_114) rfl rfl (l' := #[.val (.int p1), .val (.int p2), .val (.int p3), .val (.ref b50), .val (.ref b57), .val (.int (0 : Int32)), .val (.int (1 : Int32)), .val (.ref b94), .val .null, .unset, .unset]) rfl q) ?_
      obtain ⟨T120, h120, X120, e120, E120, A120, D120, -, st120⟩ := newO X109 hx hZ hown (w30 hw) (w31 hw) (w32 hw) rfl (g := (mkF m 116 #[.val (.int p1), .val (.int p2), .val (.int p3), .val (.ref b50), .val (.ref b57), .val (.int (0 : Int32)), .val (.int (1 : Int32)), .val (.ref b94), .val .null, .unset, .unset] [])) rfl (hb hby at_116) (by first | decide | (dsimp only; omega)) (by first | decide | (dsimp only; omega))
      obtain ⟨b120, g120⟩ : ∃ z, z = T109.heap.size := ⟨_, rfl⟩
      rw [← g120] at A120 D120 st120
      have c121 := (Nat.le_trans c106 K109.1)
      have n0_122 : n0 ≤ b120 := Nat.le_trans c121 (Nat.le_of_eq g120.symm)
      have c123 := (c111.trans K109 (allS (Or.inr sz0_98) all0))
      have sz0_124 := Nat.le_trans c123.1 (Nat.le_of_eq g120.symm)
      have c125 := (own_lt c113 K109.1)
      have ne126 : b50 ≠ b120 := own_ne c125 (Nat.le_of_eq g120.symm)
      have c127 := (own_lt c115 K109.1)
      have ne128 : b57 ≠ b120 := own_ne c127 (Nat.le_of_eq g120.symm)
      have c129 := (own_lt ltb94 K109.1)
      have ne130 : b94 ≠ b120 := own_ne c129 (Nat.le_of_eq g120.symm)
      have ne131 : t109 ≠ b120 := own_ne ltt109 (Nat.le_of_eq g120.symm)
      have ltb120 := A120.lt
      have F132 : Fld Z h120 b120 "com/example/nameid/nameid/saml/ServiceProvider" "entityId" "Ljava/lang/String;" .null := D120 (Or.inr (w43 hw)) (ty := (.object "java/lang/String")) (by decide)
      have F133 : Fld Z h120 b120 "com/example/nameid/nameid/saml/ServiceProvider" "displayName" "Ljava/lang/String;" .null := D120 (Or.inr (w45 hw)) (ty := (.object "java/lang/String")) (by decide)
      have F134 : Fld Z h120 b120 "com/example/nameid/nameid/saml/ServiceProvider" "signingKeys" "Ljava/util/List;" .null := D120 (Or.inr (w47 hw)) (ty := (.object "java/util/List")) (by decide)
      have F135 : Fld Z h120 b120 "com/example/nameid/nameid/saml/ServiceProvider" "encryptionKeys" "Ljava/util/List;" .null := D120 (Or.inr (w49 hw)) (ty := (.object "java/util/List")) (by decide)
      have F136 : Fld Z h120 b120 "com/example/nameid/nameid/saml/ServiceProvider" "assertionConsumerServices" "Ljava/util/List;" .null := D120 (Or.inr (w51 hw)) (ty := (.object "java/util/List")) (by decide)
      have F137 : Fld Z h120 b120 "com/example/nameid/nameid/saml/ServiceProvider" "singleLogoutServices" "Ljava/util/List;" .null := D120 (Or.inr (w53 hw)) (ty := (.object "java/util/List")) (by decide)
      have F138 : Fld Z h120 b120 "com/example/nameid/nameid/saml/ServiceProvider" "nameIdFormats" "Ljava/util/List;" .null := D120 (Or.inr (w55 hw)) (ty := (.object "java/util/List")) (by decide)
      have F139 : Fld Z h120 b120 "com/example/nameid/nameid/saml/ServiceProvider" "attributeConsumingServices" "Ljava/util/List;" .null := D120 (Or.inr (w57 hw)) (ty := (.object "java/util/List")) (by decide)
      refine own_step (T' := T120) (g' := (mkF m 119 #[.val (.int p1), .val (.int p2), .val (.int p3), .val (.ref b50), .val (.ref b57), .val (.int (0 : Int32)), .val (.int (1 : Int32)), .val (.ref b94), .val .null, .unset, .unset] [(.ref b120)])) st120 ?_
      refine own_step (T' := T120) (g' := (mkF m 120 #[.val (.int p1), .val (.int p2), .val (.int p3), .val (.ref b50), .val (.ref b57), .val (.int (0 : Int32)), .val (.int (1 : Int32)), .val (.ref b94), .val .null, .unset, .unset] [(.ref b120), (.ref b120)])) (fun _ q => XS.dup X120.here hx rfl (hb hby at_119) rfl rfl q) ?_
      refine own_step (T' := T120) (g' := (mkF m 122 #[.val (.int p1), .val (.int p2), .val (.int p3), .val (.ref b50), .val (.ref b57), .val (.int (0 : Int32)), .val (.int (1 : Int32)), .val (.ref b94), .val .null, .unset, .unset] [(.ref b94), (.ref b120), (.ref b120)])) (fun _ q => XS.aload X120.here hx rfl (hb hby at_120) rfl rfl q) ?_
      refine own_step (T' := T120) (g' := (mkF m 124 #[.val (.int p1), .val (.int p2), .val (.int p3), .val (.ref b50), .val (.ref b57), .val (.int (0 : Int32)), .val (.int (1 : Int32)), .val (.ref b94), .val .null, .unset, .unset] [.null, (.ref b94), (.ref b120), (.ref b120)])) (fun _ q => XS.aload X120.here hx rfl (hb hby at_122) rfl rfl q) ?_
      refine own_step (T' := T120) (g' := (mkF m 125 #[.val (.int p1), .val (.int p2), .val (.int p3), .val (.ref b50), .val (.ref b57), .val (.int (0 : Int32)), .val (.int (1 : Int32)), .val (.ref b94), .val .null, .unset, .unset] [.null, .null, (.ref b94), (.ref b120), (.ref b120)])) (fun _ q => XS.aconstNull X120.here hx rfl (hb hby at_124) q) ?_
      refine own_step (T' := T120) (g' := (mkF m 126 #[.val (.int p1), .val (.int p2), .val (.int p3), .val (.ref b50), .val (.ref b57), .val (.int (0 : Int32)), .val (.int (1 : Int32)), .val (.ref b94), .val .null, .unset, .unset] [.null, .null, .null, (.ref b94), (.ref b120), (.ref b120)])) (fun _ q => XS.aconstNull X120.here hx rfl (hb hby at_125) q) ?_
      refine own_step (T' := T120) (g' := (mkF m 127 #[.val (.int p1), .val (.int p2), .val (.int p3), .val (.ref b50), .val (.ref b57), .val (.int (0 : Int32)), .val (.int (1 : Int32)), .val (.ref b94), .val .null, .unset, .unset] [.null, .null, .null, .null, (.ref b94), (.ref b120), (.ref b120)])) (fun _ q => XS.aconstNull X120.here hx rfl (hb hby at_126) q) ?_
      refine own_step (T' := T120) (g' := (mkF m 128 #[.val (.int p1), .val (.int p2), .val (.int p3), .val (.ref b50), .val (.ref b57), .val (.int (0 : Int32)), .val (.int (1 : Int32)), .val (.ref b94), .val .null, .unset, .unset] [.null, .null, .null, .null, .null, (.ref b94), (.ref b120), (.ref b120)])) (fun _ q => XS.aconstNull X120.here hx rfl (hb hby at_127) q) ?_
      refine own_step (T' := T120) (g' := (mkF m 129 #[.val (.int p1), .val (.int p2), .val (.int p3), .val (.ref b50), .val (.ref b57), .val (.int (0 : Int32)), .val (.int (1 : Int32)), .val (.ref b94), .val .null, .unset, .unset] [.null, .null, .null, .null, .null, .null, (.ref b94), (.ref b120), (.ref b120)])) (fun _ q => XS.aconstNull X120.here hx rfl (hb hby at_128) q) ?_
      refine own_step (T' := T120) (g' := (mkF m 130 #[.val (.int p1), .val (.int p2), .val (.int p3), .val (.ref b50), .val (.ref b57), .val (.int (0 : Int32)), .val (.int (1 : Int32)), .val (.ref b94), .val .null, .unset, .unset] [.null, .null, .null, .null, .null, .null, .null, (.ref b94), (.ref b120), (.ref b120)])) (fun _ q => XS.aconstNull X120.here hx rfl (hb hby at_129) q) ?_
      have c140 := (Nat.le_trans c121 E120.1)
      refine own_callC X120 hx hZ hown rfl (w33 hw) (w34 hw) (w35 hw) (by decide) (backOf (W := 1) (own_spinit l Z a0 hw [] b120 (Value.ref b94) Value.null h120 n0 c140 (rfl : (Value.ref b94).isRef = true) (rfl : Value.null.isRef = true) A120 n0_122 F132 F133 F134 F135 F136 F137 F138 F139) hZ (w35 hw) (w32 hw) (by decide) (by decide)) e120  (by first | decide | (dsimp only; omega)) (by first | decide | (dsimp only; omega)) (g := (mkF m 130 #[.val (.int p1), .val (.int p2), .val (.int p3), .val (.ref b50), .val (.ref b57), .val (.int (0 : Int32)), .val (.int (1 : Int32)), .val (.ref b94), .val .null, .unset, .unset] [.null, .null, .null, .null, .null, .null, .null, (.ref b94), (.ref b120), (.ref b120)])) (argsL := [(.ref b94), .null, .null, .null, .null, .null, .null, .null]) (rest := [(.ref b120)]) rfl (by rw [hml]; rfl) (lenOf pd_1 rfl) rfl rfl (by show 2 * 0 + _ ≤ _; exact Nat.le_of_eq rfl) (hb hby at_130) ?_
      rintro _ T141 L141 X141 ⟨rfl, N141q, K141, f0_141, f1_141, f2_141⟩
      have N142 := Fr.app N119 N141q
      show own_Fin p e below _ T141 (mkF m 133 #[.val (.int p1), .val (.int p2), .val (.int p3), .val (.ref b50), .val (.ref b57), .val (.int (0 : Int32)), .val (.int (1 : Int32)), .val (.ref b94), .val .null, .unset, .unset] [(.ref b120)])
      refine own_step (T' := T141) (g' := (mkF m 135 #[.val (.int p1), .val (.int p2), .val (.int p3), .val (.ref b50), .val (.ref b57), .val (.int (0 : Int32)), .val (.int (1 : Int32)), .val (.ref b94), .val .null, .val (.ref b120), .unset] [])) (fun _ q => XS.astore X141.here hx rfl (hb hby at_133) rfl rfl (l' := #[.val (.int p1), .val (.int p2), .val (.int p3), .val (.ref b50), .val (.ref b57), .val (.int (0 : Int32)), .val (.int (1 : Int32)), .val (.ref b94), .val .null, .val (.ref b120), .unset]) rfl q) ?_
      refine own_step (T' := T141) (g' := (mkF m 137 #[.val (.int p1), .val (.int p2), .val (.int p3), .val (.ref b50), .val (.ref b57), .val (.int (0 : Int32)), .val (.int (1 : Int32)), .val (.ref b94), .val .null, .val (.ref b120), .unset] [(.ref b120)])) (fun _ q => XS.aload X141.here hx rfl (hb hby at_135) rfl rfl q) ?_
      have c143 := (Nat.le_trans c140 K141.1)
      refine own_callV (y := (⟨"com/example/nameid/nameid/saml/ServiceProvider", "name", "()Ljava/lang/String;"⟩ : MethodName)) (z := (⟨"com/example/nameid/nameid/saml/ServiceProvider", "name", "()Ljava/lang/String;"⟩ : MethodName)) X141 hx hZ hown (w58 hw) (w59 hw) (notFace_of_selects (args := #[]) (mvT hZ (w61 hw))) (w61 hw) (w60 hw) (by decide) (backOf (W := 0) (own_namee l Z a0 hw [] b120 (Value.ref b94) T141.heap n0 c143 (rfl : (Value.ref b94).isRef = true) f2_141 f1_141) hZ (w62 hw) (w32 hw) (by decide) (by decide)) rfl f0_141  (by first | decide | (dsimp only; omega)) (by first | decide | (dsimp only; omega)) (g := (mkF m 137 #[.val (.int p1), .val (.int p2), .val (.int p3), .val (.ref b50), .val (.ref b57), .val (.int (0 : Int32)), .val (.int (1 : Int32)), .val (.ref b94), .val .null, .val (.ref b120), .unset] [(.ref b120)])) (argsL := []) (rest := []) rfl (by rw [hml]; rfl) (lenOf pd_2 rfl) rfl rfl (by show 2 * 0 + _ ≤ _; exact Nat.le_of_eq rfl) (hb hby at_137) ?_
      rintro _ T144 L144 X144 ⟨rfl, N144q, e144⟩
      have N145 := Fr.app N142 N144q
      show own_Fin p e below _ T144 (mkF m 140 #[.val (.int p1), .val (.int p2), .val (.int p3), .val (.ref b50), .val (.ref b57), .val (.int (0 : Int32)), .val (.int (1 : Int32)), .val (.ref b94), .val .null, .val (.ref b120), .unset] [(.ref b94)])
      refine own_step (T' := T144) (g' := (mkF m 142 #[.val (.int p1), .val (.int p2), .val (.int p3), .val (.ref b50), .val (.ref b57), .val (.int (0 : Int32)), .val (.int (1 : Int32)), .val (.ref b94), .val .null, .val (.ref b120), .val (.ref b94)] [])) (fun _ q => XS.astore X144.here hx rfl (hb hby at_140) rfl rfl (l' := #[.val (.int p1), .val (.int p2), .val (.int p3), .val (.ref b50), .val (.ref b57), .val (.int (0 : Int32)), .val (.int (1 : Int32)), .val (.ref b94), .val .null, .val (.ref b120), .val (.ref b94)]) rfl q) ?_
      refine own_step (T' := T144) (g' := (mkF m 144 #[.val (.int p1), .val (.int p2), .val (.int p3), .val (.ref b50), .val (.ref b57), .val (.int (0 : Int32)), .val (.int (1 : Int32)), .val (.ref b94), .val .null, .val (.ref b120), .val (.ref b94)] [(.int (0 : Int32))])) (fun _ q => XS.iload X144.here hx rfl (hb hby at_142) rfl q) ?_
      refine own_step (T' := T144) (g' := (mkF m 195 #[.val (.int p1), .val (.int p2), .val (.int p3), .val (.ref b50), .val (.ref b57), .val (.int (0 : Int32)), .val (.int (1 : Int32)), .val (.ref b94), .val .null, .val (.ref b120), .val (.ref b94)] [])) (fun _ q => XS.ifYes X144.here hx rfl (pc0 := 144) (pc' := 195) rfl (hb hby at_144) rfl (by decide) (by decide) (by decide) q) ?_
      refine own_step (T' := T144) (g' := (mkF m 197 #[.val (.int p1), .val (.int p2), .val (.int p3), .val (.ref b50), .val (.ref b57), .val (.int (0 : Int32)), .val (.int (1 : Int32)), .val (.ref b94), .val .null, .val (.ref b120), .val (.ref b94)] [(.int (1 : Int32))])) (fun _ q => XS.iload X144.here hx rfl (hb hby at_195) rfl q) ?_
      refine own_step (T' := T144) (g' := (mkF m 200 #[.val (.int p1), .val (.int p2), .val (.int p3), .val (.ref b50), .val (.ref b57), .val (.int (0 : Int32)), .val (.int (1 : Int32)), .val (.ref b94), .val .null, .val (.ref b120), .val (.ref b94)] [])) (fun _ q => XS.ifNo X144.here hx rfl (hb hby at_197) rfl (by decide) q) ?_
      refine own_step (T' := T144) (g' := (mkF m 202 #[.val (.int p1), .val (.int p2), .val (.int p3), .val (.ref b50), .val (.ref b57), .val (.int (0 : Int32)), .val (.int (1 : Int32)), .val (.ref b94), .val .null, .val (.ref b120), .val (.ref b94)] [(.ref b94)])) (fun _ q => XS.aload X144.here hx rfl (hb hby at_200) rfl rfl q) ?_
      refine own_step (T' := T144) (g' := (mkF m 204 #[.val (.int p1), .val (.int p2), .val (.int p3), .val (.ref b50), .val (.ref b57), .val (.int (0 : Int32)), .val (.int (1 : Int32)), .val (.ref b94), .val .null, .val (.ref b120), .val (.ref b94)] [(.ref b94), (.ref b94)])) (fun _ q => XS.aload X144.here hx rfl (hb hby at_202) rfl rfl q) ?_
      refine own_step (T' := T144) (g' := (mkF m 207 #[.val (.int p1), .val (.int p2), .val (.int p3), .val (.ref b50), .val (.ref b57), .val (.int (0 : Int32)), .val (.int (1 : Int32)), .val (.ref b94), .val .null, .val (.ref b120), .val (.ref b94)] [])) (fun _ q => Jvm.RoadKit.acmp (g := (mkF m 204 #[.val (.int p1), .val (.int p2), .val (.int p3), .val (.ref b50), .val (.ref b57), .val (.int (0 : Int32)), .val (.int (1 : Int32)), .val (.ref b94), .val .null, .val (.ref b120), .val (.ref b94)] [(.ref b94), (.ref b94)])) X144 hx rfl rfl rfl (pc0 := 204) (pc' := 207) (same := true) rfl (hb hby at_204) rfl (decide_eq_true rfl) (by decide) (by decide) q) ?_
      refine own_step (T' := T144) (g' := (mkF m 209 #[.val (.int p1), .val (.int p2), .val (.int p3), .val (.ref b50), .val (.ref b57), .val (.int (0 : Int32)), .val (.int (1 : Int32)), .val (.ref b94), .val .null, .val (.ref b120), .val (.ref b94)] [(.ref b94)])) (fun _ q => XS.aload X144.here hx rfl (hb hby at_207) rfl rfl q) ?_
      have c146 := ((fE109.ext E120).keep K141)
      have c147 := ((fV109.ext E120).keep K141 (ninS ne130 nin0))
      have c148 := ((fC109.ext E120).keep K141 (ninS ne130 nin0))
      have c149 := ((fA109.ext E120).keep K141 (ninS ne131 nin0))
      have c150 := (((c107.keep K109 (allS n0_96 all0)).ext E120).keep K141 (allS n0_122 all0))
      refine own_callV (y := (⟨"java/lang/String", "length", "()I"⟩ : MethodName)) (z := (⟨"java/lang/String", "length", "()I"⟩ : MethodName)) (Q := fun v h' L => v = some (.int (Int32.ofNat (([(nar .char ((p1 &&& (255 : Int32)).toUInt32.toUInt16.toUInt32.toInt32)), (nar .char (((XT.ushr p1 (8 : Int32)) &&& (255 : Int32)).toUInt32.toUInt16.toUInt32.toInt32))] : List Int32)).length)) ∧ L = [] ∧ h' = T141.heap) X144 hx hZ hown (w63 hw) (w64 hw) (notFace_of_selects (args := #[]) (mvT hZ (w66 hw))) (w66 hw) (w65 hw) (by decide) (StrChars.Road.lenW (W := 0) hZ (own_wl hw) (kI := 4) (w2 hw) c146 c147 c148 c149 hcd118 (own_up _ hp108) (O2.ext c150.2) P5 (Nat.le_of_ble_eq_true rfl) (by decide) (by decide)) e144 c146  (by first | decide | (dsimp only; omega)) (by first | decide | (dsimp only; omega)) (g := (mkF m 209 #[.val (.int p1), .val (.int p2), .val (.int p3), .val (.ref b50), .val (.ref b57), .val (.int (0 : Int32)), .val (.int (1 : Int32)), .val (.ref b94), .val .null, .val (.ref b120), .val (.ref b94)] [(.ref b94)])) (argsL := []) (rest := []) rfl (by rw [hml]; rfl) (lenOf pd_4 rfl) rfl rfl (by show 2 * 0 + _ ≤ _; exact Nat.le_of_eq rfl) (hb hby at_209) ?_
      rintro _ T151 L151 X151 ⟨rfl, rfl, e151⟩
      have N151q := Fr.nil n0
      have N152 := Fr.app N145 N151q
      show own_Fin p e below _ T151 (mkF m 212 #[.val (.int p1), .val (.int p2), .val (.int p3), .val (.ref b50), .val (.ref b57), .val (.int (0 : Int32)), .val (.int (1 : Int32)), .val (.ref b94), .val .null, .val (.ref b120), .val (.ref b94)] [(.int (2 : Int32))])
      refine own_step (T' := T151) (g' := (mkF m 213 #[.val (.int p1), .val (.int p2), .val (.int p3), .val (.ref b50), .val (.ref b57), .val (.int (0 : Int32)), .val (.int (1 : Int32)), .val (.ref b94), .val .null, .val (.ref b120), .val (.ref b94)] [(.int (2 : Int32)), (.int (2 : Int32))])) (fun _ q => XS.iconst X151.here hx rfl (hb hby at_212) q) ?_
      refine own_step (T' := T151) (g' := (mkF m 216 #[.val (.int p1), .val (.int p2), .val (.int p3), .val (.ref b50), .val (.ref b57), .val (.int (0 : Int32)), .val (.int (1 : Int32)), .val (.ref b94), .val .null, .val (.ref b120), .val (.ref b94)] [])) (fun _ q => XS.icmpNo X151.here hx rfl (hb hby at_213) rfl (by decide) q) ?_
      refine own_step (T' := T151) (g' := (mkF m 218 #[.val (.int p1), .val (.int p2), .val (.int p3), .val (.ref b50), .val (.ref b57), .val (.int (0 : Int32)), .val (.int (1 : Int32)), .val (.ref b94), .val .null, .val (.ref b120), .val (.ref b94)] [(.ref b94)])) (fun _ q => XS.aload X151.here hx rfl (hb hby at_216) rfl rfl q) ?_
      refine own_step (T' := T151) (g' := (mkF m 219 #[.val (.int p1), .val (.int p2), .val (.int p3), .val (.ref b50), .val (.ref b57), .val (.int (0 : Int32)), .val (.int (1 : Int32)), .val (.ref b94), .val .null, .val (.ref b120), .val (.ref b94)] [(.int (0 : Int32)), (.ref b94)])) (fun _ q => XS.iconst X151.here hx rfl (hb hby at_218) q) ?_
      refine own_callV (y := (⟨"java/lang/String", "charAt", "(I)C"⟩ : MethodName)) (z := (⟨"java/lang/String", "charAt", "(I)C"⟩ : MethodName)) (Q := fun v h' L => v = some (.int ((([(nar .char ((p1 &&& (255 : Int32)).toUInt32.toUInt16.toUInt32.toInt32)), (nar .char (((XT.ushr p1 (8 : Int32)) &&& (255 : Int32)).toUInt32.toUInt16.toUInt32.toInt32))] : List Int32)).getD 0 0)) ∧ L = [] ∧ h' = T141.heap) X151 hx hZ hown (w73 hw) (w74 hw) (notFace_of_selects (args := #[]) (mvT hZ (w76 hw))) (w76 hw) (w75 hw) (by decide) (StrChars.Road.chN (W := 0) hZ (own_wc hw) (kI := 4) (w2 hw) c146 c147 c148 c149 hcd118 (own_up _ hp108) (O2.ext c150.2) P5 (O4.ext c150.2) rG3 (Nat.le_of_ble_eq_true rfl) (i := 0) (Nat.le_of_ble_eq_true rfl) (j := (0 : Int32)) rfl (by decide) (by decide)) e151 c146  (by first | decide | (dsimp only; omega)) (by first | decide | (dsimp only; omega)) (g := (mkF m 219 #[.val (.int p1), .val (.int p2), .val (.int p3), .val (.ref b50), .val (.ref b57), .val (.int (0 : Int32)), .val (.int (1 : Int32)), .val (.ref b94), .val .null, .val (.ref b120), .val (.ref b94)] [(.int (0 : Int32)), (.ref b94)])) (argsL := [(.int (0 : Int32))]) (rest := []) rfl (by rw [hml]; rfl) (lenOf pd_5 rfl) rfl rfl (by show 2 * 0 + _ ≤ _; exact Nat.le_of_eq rfl) (hb hby at_219) ?_
      rintro _ T153 L153 X153 ⟨rfl, rfl, e153⟩
      have N153q := Fr.nil n0
      have N154 := Fr.app N152 N153q
      show own_Fin p e below _ T153 (mkF m 222 #[.val (.int p1), .val (.int p2), .val (.int p3), .val (.ref b50), .val (.ref b57), .val (.int (0 : Int32)), .val (.int (1 : Int32)), .val (.ref b94), .val .null, .val (.ref b120), .val (.ref b94)] [(.int (nar .char ((p1 &&& (255 : Int32)).toUInt32.toUInt16.toUInt32.toInt32)))])
      refine own_step (T' := T153) (g' := (mkF m 223 #[.val (.int p1), .val (.int p2), .val (.int p3), .val (.ref b50), .val (.ref b57), .val (.int (0 : Int32)), .val (.int (1 : Int32)), .val (.ref b94), .val .null, .val (.ref b120), .val (.ref b94)] [(.ref b50), (.int (nar .char ((p1 &&& (255 : Int32)).toUInt32.toUInt16.toUInt32.toInt32)))])) (fun _ q => XS.aloadN X153.here hx rfl (hb hby at_222) rfl rfl q) ?_
      refine own_step (T' := T153) (g' := (mkF m 224 #[.val (.int p1), .val (.int p2), .val (.int p3), .val (.ref b50), .val (.ref b57), .val (.int (0 : Int32)), .val (.int (1 : Int32)), .val (.ref b94), .val .null, .val (.ref b120), .val (.ref b94)] [(.int (0 : Int32)), (.ref b50), (.int (nar .char ((p1 &&& (255 : Int32)).toUInt32.toUInt16.toUInt32.toInt32)))])) (fun _ q => XS.iconst X153.here hx rfl (hb hby at_223) q) ?_
      have c155 := (((c105.keep K109 (ninS ne100 nin0)).ext E120).keep K141 (ninS ne126 nin0))
      refine own_step (T' := T153) (g' := (mkF m 225 #[.val (.int p1), .val (.int p2), .val (.int p3), .val (.ref b50), .val (.ref b57), .val (.int (0 : Int32)), .val (.int (1 : Int32)), .val (.ref b94), .val .null, .val (.ref b120), .val (.ref b94)] [(.int (nar .char ((p1 &&& (255 : Int32)).toUInt32.toUInt16.toUInt32.toInt32))), (.int (nar .char ((p1 &&& (255 : Int32)).toUInt32.toUInt16.toUInt32.toInt32)))])) (fun _ q => own_ldC X153 hx hZ e153 c155 (j := (0 : Int32)) ⟨by decide, by decide⟩ (v := (.int (nar .char ((p1 &&& (255 : Int32)).toUInt32.toUInt16.toUInt32.toInt32)))) rfl (g := (mkF m 224 #[.val (.int p1), .val (.int p2), .val (.int p3), .val (.ref b50), .val (.ref b57), .val (.int (0 : Int32)), .val (.int (1 : Int32)), .val (.ref b94), .val .null, .val (.ref b120), .val (.ref b94)] [(.int (0 : Int32)), (.ref b50), (.int (nar .char ((p1 &&& (255 : Int32)).toUInt32.toUInt16.toUInt32.toInt32)))])) rfl rfl (hb hby at_224) _ q) ?_
      refine own_step (T' := T153) (g' := (mkF m 228 #[.val (.int p1), .val (.int p2), .val (.int p3), .val (.ref b50), .val (.ref b57), .val (.int (0 : Int32)), .val (.int (1 : Int32)), .val (.ref b94), .val .null, .val (.ref b120), .val (.ref b94)] [])) (fun _ q => XS.icmpNo X153.here hx rfl (hb hby at_225) rfl (XT.ii_ne_f rfl) q) ?_
      refine own_step (T' := T153) (g' := (mkF m 230 #[.val (.int p1), .val (.int p2), .val (.int p3), .val (.ref b50), .val (.ref b57), .val (.int (0 : Int32)), .val (.int (1 : Int32)), .val (.ref b94), .val .null, .val (.ref b120), .val (.ref b94)] [(.ref b94)])) (fun _ q => XS.aload X153.here hx rfl (hb hby at_228) rfl rfl q) ?_
      refine own_step (T' := T153) (g' := (mkF m 231 #[.val (.int p1), .val (.int p2), .val (.int p3), .val (.ref b50), .val (.ref b57), .val (.int (0 : Int32)), .val (.int (1 : Int32)), .val (.ref b94), .val .null, .val (.ref b120), .val (.ref b94)] [(.int (1 : Int32)), (.ref b94)])) (fun _ q => XS.iconst X153.here hx rfl (hb hby at_230) q) ?_
      refine own_callV (y := (⟨"java/lang/String", "charAt", "(I)C"⟩ : MethodName)) (z := (⟨"java/lang/String", "charAt", "(I)C"⟩ : MethodName)) (Q := fun v h' L => v = some (.int ((([(nar .char ((p1 &&& (255 : Int32)).toUInt32.toUInt16.toUInt32.toInt32)), (nar .char (((XT.ushr p1 (8 : Int32)) &&& (255 : Int32)).toUInt32.toUInt16.toUInt32.toInt32))] : List Int32)).getD 1 0)) ∧ L = [] ∧ h' = T141.heap) X153 hx hZ hown (w73 hw) (w74 hw) (notFace_of_selects (args := #[]) (mvT hZ (w76 hw))) (w76 hw) (w75 hw) (by decide) (StrChars.Road.chN (W := 0) hZ (own_wc hw) (kI := 4) (w2 hw) c146 c147 c148 c149 hcd118 (own_up _ hp108) (O2.ext c150.2) P5 (O4.ext c150.2) rG3 (Nat.le_of_ble_eq_true rfl) (i := 1) (Nat.le_of_ble_eq_true rfl) (j := (1 : Int32)) rfl (by decide) (by decide)) e153 c146  (by first | decide | (dsimp only; omega)) (by first | decide | (dsimp only; omega)) (g := (mkF m 231 #[.val (.int p1), .val (.int p2), .val (.int p3), .val (.ref b50), .val (.ref b57), .val (.int (0 : Int32)), .val (.int (1 : Int32)), .val (.ref b94), .val .null, .val (.ref b120), .val (.ref b94)] [(.int (1 : Int32)), (.ref b94)])) (argsL := [(.int (1 : Int32))]) (rest := []) rfl (by rw [hml]; rfl) (lenOf pd_5 rfl) rfl rfl (by show 2 * 0 + _ ≤ _; exact Nat.le_of_eq rfl) (hb hby at_231) ?_
      rintro _ T156 L156 X156 ⟨rfl, rfl, e156⟩
      have N156q := Fr.nil n0
      have N157 := Fr.app N154 N156q
      show own_Fin p e below _ T156 (mkF m 234 #[.val (.int p1), .val (.int p2), .val (.int p3), .val (.ref b50), .val (.ref b57), .val (.int (0 : Int32)), .val (.int (1 : Int32)), .val (.ref b94), .val .null, .val (.ref b120), .val (.ref b94)] [(.int (nar .char (((XT.ushr p1 (8 : Int32)) &&& (255 : Int32)).toUInt32.toUInt16.toUInt32.toInt32)))])
      refine own_step (T' := T156) (g' := (mkF m 235 #[.val (.int p1), .val (.int p2), .val (.int p3), .val (.ref b50), .val (.ref b57), .val (.int (0 : Int32)), .val (.int (1 : Int32)), .val (.ref b94), .val .null, .val (.ref b120), .val (.ref b94)] [(.ref b50), (.int (nar .char (((XT.ushr p1 (8 : Int32)) &&& (255 : Int32)).toUInt32.toUInt16.toUInt32.toInt32)))])) (fun _ q => XS.aloadN X156.here hx rfl (hb hby at_234) rfl rfl q) ?_
      refine own_step (T' := T156) (g' := (mkF m 236 #[.val (.int p1), .val (.int p2), .val (.int p3), .val (.ref b50), .val (.ref b57), .val (.int (0 : Int32)), .val (.int (1 : Int32)), .val (.ref b94), .val .null, .val (.ref b120), .val (.ref b94)] [(.int (1 : Int32)), (.ref b50), (.int (nar .char (((XT.ushr p1 (8 : Int32)) &&& (255 : Int32)).toUInt32.toUInt16.toUInt32.toInt32)))])) (fun _ q => XS.iconst X156.here hx rfl (hb hby at_235) q) ?_
      refine own_step (T' := T156) (g' := (mkF m 237 #[.val (.int p1), .val (.int p2), .val (.int p3), .val (.ref b50), .val (.ref b57), .val (.int (0 : Int32)), .val (.int (1 : Int32)), .val (.ref b94), .val .null, .val (.ref b120), .val (.ref b94)] [(.int (nar .char (((XT.ushr p1 (8 : Int32)) &&& (255 : Int32)).toUInt32.toUInt16.toUInt32.toInt32))), (.int (nar .char (((XT.ushr p1 (8 : Int32)) &&& (255 : Int32)).toUInt32.toUInt16.toUInt32.toInt32)))])) (fun _ q => own_ldC X156 hx hZ e156 c155 (j := (1 : Int32)) ⟨by decide, by decide⟩ (v := (.int (nar .char (((XT.ushr p1 (8 : Int32)) &&& (255 : Int32)).toUInt32.toUInt16.toUInt32.toInt32)))) rfl (g := (mkF m 236 #[.val (.int p1), .val (.int p2), .val (.int p3), .val (.ref b50), .val (.ref b57), .val (.int (0 : Int32)), .val (.int (1 : Int32)), .val (.ref b94), .val .null, .val (.ref b120), .val (.ref b94)] [(.int (1 : Int32)), (.ref b50), (.int (nar .char (((XT.ushr p1 (8 : Int32)) &&& (255 : Int32)).toUInt32.toUInt16.toUInt32.toInt32)))])) rfl rfl (hb hby at_236) _ q) ?_
      refine own_step (T' := T156) (g' := (mkF m 240 #[.val (.int p1), .val (.int p2), .val (.int p3), .val (.ref b50), .val (.ref b57), .val (.int (0 : Int32)), .val (.int (1 : Int32)), .val (.ref b94), .val .null, .val (.ref b120), .val (.ref b94)] [])) (fun _ q => XS.icmpNo X156.here hx rfl (hb hby at_237) rfl (XT.ii_ne_f rfl) q) ?_
      refine own_step (T' := T156) (g' := (mkF m 241 #[.val (.int p1), .val (.int p2), .val (.int p3), .val (.ref b50), .val (.ref b57), .val (.int (0 : Int32)), .val (.int (1 : Int32)), .val (.ref b94), .val .null, .val (.ref b120), .val (.ref b94)] [(.int (1 : Int32))])) (fun _ q => XS.iconst X156.here hx rfl (hb hby at_240) q) ?_
      refine own_step (T' := T156) (g' := (mkF m 245 #[.val (.int p1), .val (.int p2), .val (.int p3), .val (.ref b50), .val (.ref b57), .val (.int (0 : Int32)), .val (.int (1 : Int32)), .val (.ref b94), .val .null, .val (.ref b120), .val (.ref b94)] [(.int (1 : Int32))])) (fun _ q => XS.goto X156.here hx rfl (pc0 := 241) (pc' := 245) rfl (hb hby at_241) (by decide) (by decide) q) ?_
      have c158 := ((c123.ext E120).trans K141 (allS (Or.inr sz0_124) all0))
      exact own_retN X156 hx Bd.returns (by simp) (hb hby at_245) hlk (by rw [e156]; exact ⟨rfl, N157, c158⟩) (by first | decide | (dsimp only; omega)) (by first | decide | (dsimp only; omega))
  · refine own_step (T' := T66) (g' := (mkF m 57 #[.val (.int p1), .val (.int p2), .val (.int p3), .val (.ref b50), .val (.ref b57), .unset, .unset, .unset, .unset, .unset, .unset] [])) (fun _ q => XS.ifNo X66.here hx rfl (hb hby at_54) rfl (XT.i0_eq_f hc68) q) ?_
    refine own_step (T' := T66) (g' := (mkF m 58 #[.val (.int p1), .val (.int p2), .val (.int p3), .val (.ref b50), .val (.ref b57), .unset, .unset, .unset, .unset, .unset, .unset] [(.int (1 : Int32))])) (fun _ q => XS.iconst X66.here hx rfl (hb hby at_57) q) ?_
    refine own_step (T' := T66) (g' := (mkF m 62 #[.val (.int p1), .val (.int p2), .val (.int p3), .val (.ref b50), .val (.ref b57), .unset, .unset, .unset, .unset, .unset, .unset] [(.int (1 : Int32))])) (fun _ q => XS.goto X66.here hx rfl (pc0 := 58) (pc' := 62) rfl (hb hby at_58) (by decide) (by decide) q) ?_
    refine own_step (T' := T66) (g' := (mkF m 64 #[.val (.int p1), .val (.int p2), .val (.int p3), .val (.ref b50), .val (.ref b57), .val (.int (1 : Int32)), .unset, .unset, .unset, .unset, .unset] [])) (fun _ q => XS.istore X66.here hx rfl (hb hby at_62) rfl (l' := #[.val (.int p1), .val (.int p2), .val (.int p3), .val (.ref b50), .val (.ref b57), .val (.int (1 : Int32)), .unset, .unset, .unset, .unset, .unset]) rfl q) ?_
    refine own_step (T' := T66) (g' := (mkF m 65 #[.val (.int p1), .val (.int p2), .val (.int p3), .val (.ref b50), .val (.ref b57), .val (.int (1 : Int32)), .unset, .unset, .unset, .unset, .unset] [(.int p3)])) (fun _ q => XS.iloadN X66.here hx rfl (hb hby at_64) rfl q) ?_
    refine own_step (T' := T66) (g' := (mkF m 66 #[.val (.int p1), .val (.int p2), .val (.int p3), .val (.ref b50), .val (.ref b57), .val (.int (1 : Int32)), .unset, .unset, .unset, .unset, .unset] [(.int (2 : Int32)), (.int p3)])) (fun _ q => XS.iconst X66.here hx rfl (hb hby at_65) q) ?_
    refine own_step (T' := T66) (g' := (mkF m 67 #[.val (.int p1), .val (.int p2), .val (.int p3), .val (.ref b50), .val (.ref b57), .val (.int (1 : Int32)), .unset, .unset, .unset, .unset, .unset] [(.int (p3 &&& (2 : Int32)))])) (fun _ q => XS.iand X66.here hx rfl (hb hby at_66) rfl q) ?_
    by_cases hc159 : (p3 &&& (2 : Int32)) = 0
    · refine own_step (T' := T66) (g' := (mkF m 74 #[.val (.int p1), .val (.int p2), .val (.int p3), .val (.ref b50), .val (.ref b57), .val (.int (1 : Int32)), .unset, .unset, .unset, .unset, .unset] [])) (fun _ q => XS.ifYes X66.here hx rfl (pc0 := 67) (pc' := 74) rfl (hb hby at_67) rfl (XT.i0_eq_t hc159) (by decide) (by decide) q) ?_
      refine own_step (T' := T66) (g' := (mkF m 75 #[.val (.int p1), .val (.int p2), .val (.int p3), .val (.ref b50), .val (.ref b57), .val (.int (1 : Int32)), .unset, .unset, .unset, .unset, .unset] [(.int (0 : Int32))])) (fun _ q => XS.iconst X66.here hx rfl (hb hby at_74) q) ?_
      refine own_step (T' := T66) (g' := (mkF m 77 #[.val (.int p1), .val (.int p2), .val (.int p3), .val (.ref b50), .val (.ref b57), .val (.int (1 : Int32)), .val (.int (0 : Int32)), .unset, .unset, .unset, .unset] [])) (fun _ q => XS.istore X66.here hx rfl (hb hby at_75) rfl (l' := #[.val (.int p1), .val (.int p2), .val (.int p3), .val (.ref b50), .val (.ref b57), .val (.int (1 : Int32)), .val (.int (0 : Int32)), .unset, .unset, .unset, .unset]) rfl q) ?_
      refine own_step (T' := T66) (g' := (mkF m 79 #[.val (.int p1), .val (.int p2), .val (.int p3), .val (.ref b50), .val (.ref b57), .val (.int (1 : Int32)), .val (.int (0 : Int32)), .unset, .unset, .unset, .unset] [(.int (0 : Int32))])) (fun _ q => XS.iload X66.here hx rfl (hb hby at_77) rfl q) ?_
      refine own_step (T' := T66) (g' := (mkF m 93 #[.val (.int p1), .val (.int p2), .val (.int p3), .val (.ref b50), .val (.ref b57), .val (.int (1 : Int32)), .val (.int (0 : Int32)), .unset, .unset, .unset, .unset] [])) (fun _ q => XS.ifYes X66.here hx rfl (pc0 := 79) (pc' := 93) rfl (hb hby at_79) rfl (by decide) (by decide) (by decide) q) ?_
      refine own_step (T' := T66) (g' := (mkF m 94 #[.val (.int p1), .val (.int p2), .val (.int p3), .val (.ref b50), .val (.ref b57), .val (.int (1 : Int32)), .val (.int (0 : Int32)), .unset, .unset, .unset, .unset] [.null])) (fun _ q => XS.aconstNull X66.here hx rfl (hb hby at_93) q) ?_
      refine own_step (T' := T66) (g' := (mkF m 96 #[.val (.int p1), .val (.int p2), .val (.int p3), .val (.ref b50), .val (.ref b57), .val (.int (1 : Int32)), .val (.int (0 : Int32)), .val .null, .unset, .unset, .unset] [])) (fun _ q => XS.astore X66.here hx rfl (hb hby at_94) rfl rfl (l' := #[.val (.int p1), .val (.int p2), .val (.int p3), .val (.ref b50), .val (.ref b57), .val (.int (1 : Int32)), .val (.int (0 : Int32)), .val .null, .unset, .unset, .unset]) rfl q) ?_
      refine own_step (T' := T66) (g' := (mkF m 98 #[.val (.int p1), .val (.int p2), .val (.int p3), .val (.ref b50), .val (.ref b57), .val (.int (1 : Int32)), .val (.int (0 : Int32)), .val .null, .unset, .unset, .unset] [(.int (1 : Int32))])) (fun _ q => XS.iload X66.here hx rfl (hb hby at_96) rfl q) ?_
      refine own_step (T' := T66) (g' := (mkF m 101 #[.val (.int p1), .val (.int p2), .val (.int p3), .val (.ref b50), .val (.ref b57), .val (.int (1 : Int32)), .val (.int (0 : Int32)), .val .null, .unset, .unset, .unset] [])) (fun _ q => XS.ifNo X66.here hx rfl (hb hby at_98) rfl (by decide) q) ?_
      obtain ⟨T160, h160, X160, e160, E160, A160, D160, -, st160⟩ := newO X66 hx hZ hown (w1 hw) (w2 hw) (w3 hw) e66 (g := (mkF m 101 #[.val (.int p1), .val (.int p2), .val (.int p3), .val (.ref b50), .val (.ref b57), .val (.int (1 : Int32)), .val (.int (0 : Int32)), .val .null, .unset, .unset, .unset] [])) rfl (hb hby at_101) (by first | decide | (dsimp only; omega)) (by first | decide | (dsimp only; omega))
      obtain ⟨b160, g160⟩ : ∃ z, z = h66.size := ⟨_, rfl⟩
      rw [← g160] at A160 D160 st160
      have c161 := (Nat.le_trans (Nat.le_trans (Nat.le_trans c58 E57.1) (Keep.of_wr W64).1) (Keep.of_wr W66).1)
      have n0_162 : n0 ≤ b160 := Nat.le_trans c161 (Nat.le_of_eq g160.symm)
      have c163 := (((c60.ext E57).wr W64 (Or.inr sz0_61)).wr W66 (Or.inr sz0_61))
      have sz0_164 := Nat.le_trans c163.1 (Nat.le_of_eq g160.symm)
      have c165 := (own_lt (own_lt (own_lt c62 E57.1) (Keep.of_wr W64).1) (Keep.of_wr W66).1)
      have ne166 : b50 ≠ b160 := own_ne c165 (Nat.le_of_eq g160.symm)
      have c167 := (own_lt (own_lt ltb57 (Keep.of_wr W64).1) (Keep.of_wr W66).1)
      have ne168 : b57 ≠ b160 := own_ne c167 (Nat.le_of_eq g160.symm)
      have ltb160 := A160.lt
      have F169 : Fld Z h160 b160 "java/lang/String" "coder" "B" (.int (0 : Int32)) := D160 (Or.inr (w27 hw)) (ty := .byte) (by decide)
      have F170 : Fld Z h160 b160 "java/lang/String" "value" "[B" .null := D160 (Or.inr (w29 hw)) (ty := (.array .byte)) (by decide)
      refine own_step (T' := T160) (g' := (mkF m 104 #[.val (.int p1), .val (.int p2), .val (.int p3), .val (.ref b50), .val (.ref b57), .val (.int (1 : Int32)), .val (.int (0 : Int32)), .val .null, .unset, .unset, .unset] [(.ref b160)])) st160 ?_
      refine own_step (T' := T160) (g' := (mkF m 105 #[.val (.int p1), .val (.int p2), .val (.int p3), .val (.ref b50), .val (.ref b57), .val (.int (1 : Int32)), .val (.int (0 : Int32)), .val .null, .unset, .unset, .unset] [(.ref b160), (.ref b160)])) (fun _ q => XS.dup X160.here hx rfl (hb hby at_104) rfl rfl q) ?_
      refine own_step (T' := T160) (g' := (mkF m 107 #[.val (.int p1), .val (.int p2), .val (.int p3), .val (.ref b50), .val (.ref b57), .val (.int (1 : Int32)), .val (.int (0 : Int32)), .val .null, .unset, .unset, .unset] [(.ref b57), (.ref b160), (.ref b160)])) (fun _ q => XS.aload X160.here hx rfl (hb hby at_105) rfl rfl q) ?_
      have c171 := (V66.ext E160)
      have c172 := (Nat.le_trans c161 E160.1)
      have c173 := (((((((OLD0.ext E50).wr W53 n0_51).wr W55 n0_51).ext E57).wr W64 n0_59).wr W66 n0_59).ext E160)
      have hp174 : ∀ c ∈ ([(nar .char ((p2 &&& (255 : Int32)).toUInt32.toUInt16.toUInt32.toInt32)), (nar .char (((XT.ushr p2 (8 : Int32)) &&& (255 : Int32)).toUInt32.toUInt16.toUInt32.toInt32))] : List Int32), ¬ c < 0 ∧ ¬ (255 : Int32) < c := (own_allS (own_and255 p2) (own_allS (own_and255 (XT.ushr p2 (8 : Int32))) own_all0))
      refine own_callC X160 hx hZ hown rfl (w4 hw) (w5 hw) (w6 hw) (by decide) (StrChars.Road.backV (W := 1) hZ (own_ws hw) (kI := 4) (w2 hw) (cs := ([(nar .char ((p2 &&& (255 : Int32)).toUInt32.toUInt16.toUInt32.toInt32)), (nar .char (((XT.ushr p2 (8 : Int32)) &&& (255 : Int32)).toUInt32.toUInt16.toUInt32.toInt32))] : List Int32)) (bs := (([(nar .char ((p2 &&& (255 : Int32)).toUInt32.toUInt16.toUInt32.toInt32)), (nar .char (((XT.ushr p2 (8 : Int32)) &&& (255 : Int32)).toUInt32.toUInt16.toUInt32.toInt32))] : List Int32)).map (fun c => c.toInt8.toInt32)) (n := 2) n0_162 c172 A160 F170 F169 c171 (O2.ext c173.2) P5 rfl rfl (by decide) (by decide) hp174 rfl (by decide) (by decide)) e160  (by first | decide | (dsimp only; omega)) (by first | decide | (dsimp only; omega)) (g := (mkF m 107 #[.val (.int p1), .val (.int p2), .val (.int p3), .val (.ref b50), .val (.ref b57), .val (.int (1 : Int32)), .val (.int (0 : Int32)), .val .null, .unset, .unset, .unset] [(.ref b57), (.ref b160), (.ref b160)])) (argsL := [(.ref b57)]) (rest := [(.ref b160)]) rfl (by rw [hml]; rfl) (lenOf pd_3 rfl) rfl rfl (by show 2 * 0 + _ ≤ _; exact Nat.le_of_eq rfl) (hb hby at_107) ?_
      rintro _ T175 L175 X175 ⟨rfl, N175q, K175, fE175, fC175, t175, kb175, ge175, sz175, nx175, fV175, fA175⟩
      have n0_176 : n0 ≤ t175 := Nat.le_trans c172 sz175
      have c177 := (c163.ext E160)
      have sz0_178 := Nat.le_trans c177.1 sz175
      have c179 := (own_lt c165 E160.1)
      have ne180 : b50 ≠ t175 := own_ne c179 sz175
      have c181 := (own_lt c167 E160.1)
      have ne182 : b57 ≠ t175 := own_ne c181 sz175
      have ne183 : b160 ≠ t175 := own_ne ltb160 sz175
      have ltt175 := fA175.lt
      have hcd184 : StrChars.Road.CodA ([(nar .char ((p2 &&& (255 : Int32)).toUInt32.toUInt16.toUInt32.toInt32)), (nar .char (((XT.ushr p2 (8 : Int32)) &&& (255 : Int32)).toUInt32.toUInt16.toUInt32.toInt32))] : List Int32) 0 (2 : Int32) (((([(nar .char ((p2 &&& (255 : Int32)).toUInt32.toUInt16.toUInt32.toInt32)), (nar .char (((XT.ushr p2 (8 : Int32)) &&& (255 : Int32)).toUInt32.toUInt16.toUInt32.toInt32))] : List Int32)).map (fun c => c.toInt8.toInt32)).map Value.int) := StrChars.Road.codOf (n := 2) rfl (fun c hc => (hp174 c hc).2)
      have N185 := Fr.app N67 N175q
      show own_Fin p e below _ T175 (mkF m 110 #[.val (.int p1), .val (.int p2), .val (.int p3), .val (.ref b50), .val (.ref b57), .val (.int (1 : Int32)), .val (.int (0 : Int32)), .val .null, .unset, .unset, .unset] [(.ref b160)])
      refine own_step (T' := T175) (g' := (mkF m 114 #[.val (.int p1), .val (.int p2), .val (.int p3), .val (.ref b50), .val (.ref b57), .val (.int (1 : Int32)), .val (.int (0 : Int32)), .val .null, .unset, .unset, .unset] [(.ref b160)])) (fun _ q => XS.goto X175.here hx rfl (pc0 := 110) (pc' := 114) rfl (hb hby at_110) (by decide) (by decide) q) ?_
      refine own_step (T' := T175) (g' := (mkF m 116 #[.val (.int p1), .val (.int p2), .val (.int p3), .val (.ref b50), .val (.ref b57), .val (.int (1 : Int32)), .val (.int (0 : Int32)), .val .null, .val (.ref b160), .unset, .unset] [])) (fun _ q => XS.astore X175.here hx rfl (hb hby at_114) rfl rfl (l' := #[.val (.int p1), .val (.int p2), .val (.int p3), .val (.ref b50), .val (.ref b57), .val (.int (1 : Int32)), .val (.int (0 : Int32)), .val .null, .val (.ref b160), .unset, .unset]) rfl q) ?_
      obtain ⟨T186, h186, X186, e186, E186, A186, D186, -, st186⟩ := newO X175 hx hZ hown (w30 hw) (w31 hw) (w32 hw) rfl (g := (mkF m 116 #[.val (.int p1), .val (.int p2), .val (.int p3), .val (.ref b50), .val (.ref b57), .val (.int (1 : Int32)), .val (.int (0 : Int32)), .val .null, .val (.ref b160), .unset, .unset] [])) rfl (hb hby at_116) (by first | decide | (dsimp only; omega)) (by first | decide | (dsimp only; omega))
      obtain ⟨b186, g186⟩ : ∃ z, z = T175.heap.size := ⟨_, rfl⟩
      rw [← g186] at A186 D186 st186
      have c187 := (Nat.le_trans c172 K175.1)
      have n0_188 : n0 ≤ b186 := Nat.le_trans c187 (Nat.le_of_eq g186.symm)
      have c189 := (c177.trans K175 (allS (Or.inr sz0_164) all0))
      have sz0_190 := Nat.le_trans c189.1 (Nat.le_of_eq g186.symm)
      have c191 := (own_lt c179 K175.1)
      have ne192 : b50 ≠ b186 := own_ne c191 (Nat.le_of_eq g186.symm)
      have c193 := (own_lt c181 K175.1)
      have ne194 : b57 ≠ b186 := own_ne c193 (Nat.le_of_eq g186.symm)
      have c195 := (own_lt ltb160 K175.1)
      have ne196 : b160 ≠ b186 := own_ne c195 (Nat.le_of_eq g186.symm)
      have ne197 : t175 ≠ b186 := own_ne ltt175 (Nat.le_of_eq g186.symm)
      have ltb186 := A186.lt
      have F198 : Fld Z h186 b186 "com/example/nameid/nameid/saml/ServiceProvider" "entityId" "Ljava/lang/String;" .null := D186 (Or.inr (w43 hw)) (ty := (.object "java/lang/String")) (by decide)
      have F199 : Fld Z h186 b186 "com/example/nameid/nameid/saml/ServiceProvider" "displayName" "Ljava/lang/String;" .null := D186 (Or.inr (w45 hw)) (ty := (.object "java/lang/String")) (by decide)
      have F200 : Fld Z h186 b186 "com/example/nameid/nameid/saml/ServiceProvider" "signingKeys" "Ljava/util/List;" .null := D186 (Or.inr (w47 hw)) (ty := (.object "java/util/List")) (by decide)
      have F201 : Fld Z h186 b186 "com/example/nameid/nameid/saml/ServiceProvider" "encryptionKeys" "Ljava/util/List;" .null := D186 (Or.inr (w49 hw)) (ty := (.object "java/util/List")) (by decide)
      have F202 : Fld Z h186 b186 "com/example/nameid/nameid/saml/ServiceProvider" "assertionConsumerServices" "Ljava/util/List;" .null := D186 (Or.inr (w51 hw)) (ty := (.object "java/util/List")) (by decide)
      have F203 : Fld Z h186 b186 "com/example/nameid/nameid/saml/ServiceProvider" "singleLogoutServices" "Ljava/util/List;" .null := D186 (Or.inr (w53 hw)) (ty := (.object "java/util/List")) (by decide)
      have F204 : Fld Z h186 b186 "com/example/nameid/nameid/saml/ServiceProvider" "nameIdFormats" "Ljava/util/List;" .null := D186 (Or.inr (w55 hw)) (ty := (.object "java/util/List")) (by decide)
      have F205 : Fld Z h186 b186 "com/example/nameid/nameid/saml/ServiceProvider" "attributeConsumingServices" "Ljava/util/List;" .null := D186 (Or.inr (w57 hw)) (ty := (.object "java/util/List")) (by decide)
      refine own_step (T' := T186) (g' := (mkF m 119 #[.val (.int p1), .val (.int p2), .val (.int p3), .val (.ref b50), .val (.ref b57), .val (.int (1 : Int32)), .val (.int (0 : Int32)), .val .null, .val (.ref b160), .unset, .unset] [(.ref b186)])) st186 ?_
      refine own_step (T' := T186) (g' := (mkF m 120 #[.val (.int p1), .val (.int p2), .val (.int p3), .val (.ref b50), .val (.ref b57), .val (.int (1 : Int32)), .val (.int (0 : Int32)), .val .null, .val (.ref b160), .unset, .unset] [(.ref b186), (.ref b186)])) (fun _ q => XS.dup X186.here hx rfl (hb hby at_119) rfl rfl q) ?_
      refine own_step (T' := T186) (g' := (mkF m 122 #[.val (.int p1), .val (.int p2), .val (.int p3), .val (.ref b50), .val (.ref b57), .val (.int (1 : Int32)), .val (.int (0 : Int32)), .val .null, .val (.ref b160), .unset, .unset] [.null, (.ref b186), (.ref b186)])) (fun _ q => XS.aload X186.here hx rfl (hb hby at_120) rfl rfl q) ?_
      refine own_step (T' := T186) (g' := (mkF m 124 #[.val (.int p1), .val (.int p2), .val (.int p3), .val (.ref b50), .val (.ref b57), .val (.int (1 : Int32)), .val (.int (0 : Int32)), .val .null, .val (.ref b160), .unset, .unset] [(.ref b160), .null, (.ref b186), (.ref b186)])) (fun _ q => XS.aload X186.here hx rfl (hb hby at_122) rfl rfl q) ?_
      refine own_step (T' := T186) (g' := (mkF m 125 #[.val (.int p1), .val (.int p2), .val (.int p3), .val (.ref b50), .val (.ref b57), .val (.int (1 : Int32)), .val (.int (0 : Int32)), .val .null, .val (.ref b160), .unset, .unset] [.null, (.ref b160), .null, (.ref b186), (.ref b186)])) (fun _ q => XS.aconstNull X186.here hx rfl (hb hby at_124) q) ?_
      refine own_step (T' := T186) (g' := (mkF m 126 #[.val (.int p1), .val (.int p2), .val (.int p3), .val (.ref b50), .val (.ref b57), .val (.int (1 : Int32)), .val (.int (0 : Int32)), .val .null, .val (.ref b160), .unset, .unset] [.null, .null, (.ref b160), .null, (.ref b186), (.ref b186)])) (fun _ q => XS.aconstNull X186.here hx rfl (hb hby at_125) q) ?_
      refine own_step (T' := T186) (g' := (mkF m 127 #[.val (.int p1), .val (.int p2), .val (.int p3), .val (.ref b50), .val (.ref b57), .val (.int (1 : Int32)), .val (.int (0 : Int32)), .val .null, .val (.ref b160), .unset, .unset] [.null, .null, .null, (.ref b160), .null, (.ref b186), (.ref b186)])) (fun _ q => XS.aconstNull X186.here hx rfl (hb hby at_126) q) ?_
      refine own_step (T' := T186) (g' := (mkF m 128 #[.val (.int p1), .val (.int p2), .val (.int p3), .val (.ref b50), .val (.ref b57), .val (.int (1 : Int32)), .val (.int (0 : Int32)), .val .null, .val (.ref b160), .unset, .unset] [.null, .null, .null, .null, (.ref b160), .null, (.ref b186), (.ref b186)])) (fun _ q => XS.aconstNull X186.here hx rfl (hb hby at_127) q) ?_
      refine own_step (T' := T186) (g' := (mkF m 129 #[.val (.int p1), .val (.int p2), .val (.int p3), .val (.ref b50), .val (.ref b57), .val (.int (1 : Int32)), .val (.int (0 : Int32)), .val .null, .val (.ref b160), .unset, .unset] [.null, .null, .null, .null, .null, (.ref b160), .null, (.ref b186), (.ref b186)])) (fun _ q => XS.aconstNull X186.here hx rfl (hb hby at_128) q) ?_
      refine own_step (T' := T186) (g' := (mkF m 130 #[.val (.int p1), .val (.int p2), .val (.int p3), .val (.ref b50), .val (.ref b57), .val (.int (1 : Int32)), .val (.int (0 : Int32)), .val .null, .val (.ref b160), .unset, .unset] [.null, .null, .null, .null, .null, .null, (.ref b160), .null, (.ref b186), (.ref b186)])) (fun _ q => XS.aconstNull X186.here hx rfl (hb hby at_129) q) ?_
      have c206 := (Nat.le_trans c187 E186.1)
      refine own_callC X186 hx hZ hown rfl (w33 hw) (w34 hw) (w35 hw) (by decide) (backOf (W := 1) (own_spinit l Z a0 hw [] b186 Value.null (Value.ref b160) h186 n0 c206 (rfl : Value.null.isRef = true) (rfl : (Value.ref b160).isRef = true) A186 n0_188 F198 F199 F200 F201 F202 F203 F204 F205) hZ (w35 hw) (w32 hw) (by decide) (by decide)) e186  (by first | decide | (dsimp only; omega)) (by first | decide | (dsimp only; omega)) (g := (mkF m 130 #[.val (.int p1), .val (.int p2), .val (.int p3), .val (.ref b50), .val (.ref b57), .val (.int (1 : Int32)), .val (.int (0 : Int32)), .val .null, .val (.ref b160), .unset, .unset] [.null, .null, .null, .null, .null, .null, (.ref b160), .null, (.ref b186), (.ref b186)])) (argsL := [.null, (.ref b160), .null, .null, .null, .null, .null, .null]) (rest := [(.ref b186)]) rfl (by rw [hml]; rfl) (lenOf pd_1 rfl) rfl rfl (by show 2 * 0 + _ ≤ _; exact Nat.le_of_eq rfl) (hb hby at_130) ?_
      rintro _ T207 L207 X207 ⟨rfl, N207q, K207, f0_207, f1_207, f2_207⟩
      have N208 := Fr.app N185 N207q
      show own_Fin p e below _ T207 (mkF m 133 #[.val (.int p1), .val (.int p2), .val (.int p3), .val (.ref b50), .val (.ref b57), .val (.int (1 : Int32)), .val (.int (0 : Int32)), .val .null, .val (.ref b160), .unset, .unset] [(.ref b186)])
      refine own_step (T' := T207) (g' := (mkF m 135 #[.val (.int p1), .val (.int p2), .val (.int p3), .val (.ref b50), .val (.ref b57), .val (.int (1 : Int32)), .val (.int (0 : Int32)), .val .null, .val (.ref b160), .val (.ref b186), .unset] [])) (fun _ q => XS.astore X207.here hx rfl (hb hby at_133) rfl rfl (l' := #[.val (.int p1), .val (.int p2), .val (.int p3), .val (.ref b50), .val (.ref b57), .val (.int (1 : Int32)), .val (.int (0 : Int32)), .val .null, .val (.ref b160), .val (.ref b186), .unset]) rfl q) ?_
      refine own_step (T' := T207) (g' := (mkF m 137 #[.val (.int p1), .val (.int p2), .val (.int p3), .val (.ref b50), .val (.ref b57), .val (.int (1 : Int32)), .val (.int (0 : Int32)), .val .null, .val (.ref b160), .val (.ref b186), .unset] [(.ref b186)])) (fun _ q => XS.aload X207.here hx rfl (hb hby at_135) rfl rfl q) ?_
      have c209 := (Nat.le_trans c206 K207.1)
      refine own_callV (y := (⟨"com/example/nameid/nameid/saml/ServiceProvider", "name", "()Ljava/lang/String;"⟩ : MethodName)) (z := (⟨"com/example/nameid/nameid/saml/ServiceProvider", "name", "()Ljava/lang/String;"⟩ : MethodName)) X207 hx hZ hown (w58 hw) (w59 hw) (notFace_of_selects (args := #[]) (mvT hZ (w61 hw))) (w61 hw) (w60 hw) (by decide) (backOf (W := 0) (own_named l Z a0 hw [] b186 b160 T207.heap n0 c209 f2_207) hZ (w62 hw) (w32 hw) (by decide) (by decide)) rfl f0_207  (by first | decide | (dsimp only; omega)) (by first | decide | (dsimp only; omega)) (g := (mkF m 137 #[.val (.int p1), .val (.int p2), .val (.int p3), .val (.ref b50), .val (.ref b57), .val (.int (1 : Int32)), .val (.int (0 : Int32)), .val .null, .val (.ref b160), .val (.ref b186), .unset] [(.ref b186)])) (argsL := []) (rest := []) rfl (by rw [hml]; rfl) (lenOf pd_2 rfl) rfl rfl (by show 2 * 0 + _ ≤ _; exact Nat.le_of_eq rfl) (hb hby at_137) ?_
      rintro _ T210 L210 X210 ⟨rfl, N210q, e210⟩
      have N211 := Fr.app N208 N210q
      show own_Fin p e below _ T210 (mkF m 140 #[.val (.int p1), .val (.int p2), .val (.int p3), .val (.ref b50), .val (.ref b57), .val (.int (1 : Int32)), .val (.int (0 : Int32)), .val .null, .val (.ref b160), .val (.ref b186), .unset] [(.ref b160)])
      refine own_step (T' := T210) (g' := (mkF m 142 #[.val (.int p1), .val (.int p2), .val (.int p3), .val (.ref b50), .val (.ref b57), .val (.int (1 : Int32)), .val (.int (0 : Int32)), .val .null, .val (.ref b160), .val (.ref b186), .val (.ref b160)] [])) (fun _ q => XS.astore X210.here hx rfl (hb hby at_140) rfl rfl (l' := #[.val (.int p1), .val (.int p2), .val (.int p3), .val (.ref b50), .val (.ref b57), .val (.int (1 : Int32)), .val (.int (0 : Int32)), .val .null, .val (.ref b160), .val (.ref b186), .val (.ref b160)]) rfl q) ?_
      refine own_step (T' := T210) (g' := (mkF m 144 #[.val (.int p1), .val (.int p2), .val (.int p3), .val (.ref b50), .val (.ref b57), .val (.int (1 : Int32)), .val (.int (0 : Int32)), .val .null, .val (.ref b160), .val (.ref b186), .val (.ref b160)] [(.int (1 : Int32))])) (fun _ q => XS.iload X210.here hx rfl (hb hby at_142) rfl q) ?_
      refine own_step (T' := T210) (g' := (mkF m 147 #[.val (.int p1), .val (.int p2), .val (.int p3), .val (.ref b50), .val (.ref b57), .val (.int (1 : Int32)), .val (.int (0 : Int32)), .val .null, .val (.ref b160), .val (.ref b186), .val (.ref b160)] [])) (fun _ q => XS.ifNo X210.here hx rfl (hb hby at_144) rfl (by decide) q) ?_
      refine own_step (T' := T210) (g' := (mkF m 149 #[.val (.int p1), .val (.int p2), .val (.int p3), .val (.ref b50), .val (.ref b57), .val (.int (1 : Int32)), .val (.int (0 : Int32)), .val .null, .val (.ref b160), .val (.ref b186), .val (.ref b160)] [(.ref b160)])) (fun _ q => XS.aload X210.here hx rfl (hb hby at_147) rfl rfl q) ?_
      refine own_step (T' := T210) (g' := (mkF m 151 #[.val (.int p1), .val (.int p2), .val (.int p3), .val (.ref b50), .val (.ref b57), .val (.int (1 : Int32)), .val (.int (0 : Int32)), .val .null, .val (.ref b160), .val (.ref b186), .val (.ref b160)] [(.ref b160), (.ref b160)])) (fun _ q => XS.aload X210.here hx rfl (hb hby at_149) rfl rfl q) ?_
      refine own_step (T' := T210) (g' := (mkF m 154 #[.val (.int p1), .val (.int p2), .val (.int p3), .val (.ref b50), .val (.ref b57), .val (.int (1 : Int32)), .val (.int (0 : Int32)), .val .null, .val (.ref b160), .val (.ref b186), .val (.ref b160)] [])) (fun _ q => Jvm.RoadKit.acmp (g := (mkF m 151 #[.val (.int p1), .val (.int p2), .val (.int p3), .val (.ref b50), .val (.ref b57), .val (.int (1 : Int32)), .val (.int (0 : Int32)), .val .null, .val (.ref b160), .val (.ref b186), .val (.ref b160)] [(.ref b160), (.ref b160)])) X210 hx rfl rfl rfl (pc0 := 151) (pc' := 154) (same := true) rfl (hb hby at_151) rfl (decide_eq_true rfl) (by decide) (by decide) q) ?_
      refine own_step (T' := T210) (g' := (mkF m 156 #[.val (.int p1), .val (.int p2), .val (.int p3), .val (.ref b50), .val (.ref b57), .val (.int (1 : Int32)), .val (.int (0 : Int32)), .val .null, .val (.ref b160), .val (.ref b186), .val (.ref b160)] [(.ref b160)])) (fun _ q => XS.aload X210.here hx rfl (hb hby at_154) rfl rfl q) ?_
      have c212 := ((fE175.ext E186).keep K207)
      have c213 := ((fV175.ext E186).keep K207 (ninS ne196 nin0))
      have c214 := ((fC175.ext E186).keep K207 (ninS ne196 nin0))
      have c215 := ((fA175.ext E186).keep K207 (ninS ne197 nin0))
      have c216 := (((c173.keep K175 (allS n0_162 all0)).ext E186).keep K207 (allS n0_188 all0))
      refine own_callV (y := (⟨"java/lang/String", "length", "()I"⟩ : MethodName)) (z := (⟨"java/lang/String", "length", "()I"⟩ : MethodName)) (Q := fun v h' L => v = some (.int (Int32.ofNat (([(nar .char ((p2 &&& (255 : Int32)).toUInt32.toUInt16.toUInt32.toInt32)), (nar .char (((XT.ushr p2 (8 : Int32)) &&& (255 : Int32)).toUInt32.toUInt16.toUInt32.toInt32))] : List Int32)).length)) ∧ L = [] ∧ h' = T207.heap) X210 hx hZ hown (w63 hw) (w64 hw) (notFace_of_selects (args := #[]) (mvT hZ (w66 hw))) (w66 hw) (w65 hw) (by decide) (StrChars.Road.lenW (W := 0) hZ (own_wl hw) (kI := 4) (w2 hw) c212 c213 c214 c215 hcd184 (own_up _ hp174) (O2.ext c216.2) P5 (Nat.le_of_ble_eq_true rfl) (by decide) (by decide)) e210 c212  (by first | decide | (dsimp only; omega)) (by first | decide | (dsimp only; omega)) (g := (mkF m 156 #[.val (.int p1), .val (.int p2), .val (.int p3), .val (.ref b50), .val (.ref b57), .val (.int (1 : Int32)), .val (.int (0 : Int32)), .val .null, .val (.ref b160), .val (.ref b186), .val (.ref b160)] [(.ref b160)])) (argsL := []) (rest := []) rfl (by rw [hml]; rfl) (lenOf pd_4 rfl) rfl rfl (by show 2 * 0 + _ ≤ _; exact Nat.le_of_eq rfl) (hb hby at_156) ?_
      rintro _ T217 L217 X217 ⟨rfl, rfl, e217⟩
      have N217q := Fr.nil n0
      have N218 := Fr.app N211 N217q
      show own_Fin p e below _ T217 (mkF m 159 #[.val (.int p1), .val (.int p2), .val (.int p3), .val (.ref b50), .val (.ref b57), .val (.int (1 : Int32)), .val (.int (0 : Int32)), .val .null, .val (.ref b160), .val (.ref b186), .val (.ref b160)] [(.int (2 : Int32))])
      refine own_step (T' := T217) (g' := (mkF m 160 #[.val (.int p1), .val (.int p2), .val (.int p3), .val (.ref b50), .val (.ref b57), .val (.int (1 : Int32)), .val (.int (0 : Int32)), .val .null, .val (.ref b160), .val (.ref b186), .val (.ref b160)] [(.int (2 : Int32)), (.int (2 : Int32))])) (fun _ q => XS.iconst X217.here hx rfl (hb hby at_159) q) ?_
      refine own_step (T' := T217) (g' := (mkF m 163 #[.val (.int p1), .val (.int p2), .val (.int p3), .val (.ref b50), .val (.ref b57), .val (.int (1 : Int32)), .val (.int (0 : Int32)), .val .null, .val (.ref b160), .val (.ref b186), .val (.ref b160)] [])) (fun _ q => XS.icmpNo X217.here hx rfl (hb hby at_160) rfl (by decide) q) ?_
      refine own_step (T' := T217) (g' := (mkF m 165 #[.val (.int p1), .val (.int p2), .val (.int p3), .val (.ref b50), .val (.ref b57), .val (.int (1 : Int32)), .val (.int (0 : Int32)), .val .null, .val (.ref b160), .val (.ref b186), .val (.ref b160)] [(.ref b160)])) (fun _ q => XS.aload X217.here hx rfl (hb hby at_163) rfl rfl q) ?_
      refine own_step (T' := T217) (g' := (mkF m 166 #[.val (.int p1), .val (.int p2), .val (.int p3), .val (.ref b50), .val (.ref b57), .val (.int (1 : Int32)), .val (.int (0 : Int32)), .val .null, .val (.ref b160), .val (.ref b186), .val (.ref b160)] [(.int (0 : Int32)), (.ref b160)])) (fun _ q => XS.iconst X217.here hx rfl (hb hby at_165) q) ?_
      refine own_callV (y := (⟨"java/lang/String", "charAt", "(I)C"⟩ : MethodName)) (z := (⟨"java/lang/String", "charAt", "(I)C"⟩ : MethodName)) (Q := fun v h' L => v = some (.int ((([(nar .char ((p2 &&& (255 : Int32)).toUInt32.toUInt16.toUInt32.toInt32)), (nar .char (((XT.ushr p2 (8 : Int32)) &&& (255 : Int32)).toUInt32.toUInt16.toUInt32.toInt32))] : List Int32)).getD 0 0)) ∧ L = [] ∧ h' = T207.heap) X217 hx hZ hown (w73 hw) (w74 hw) (notFace_of_selects (args := #[]) (mvT hZ (w76 hw))) (w76 hw) (w75 hw) (by decide) (StrChars.Road.chN (W := 0) hZ (own_wc hw) (kI := 4) (w2 hw) c212 c213 c214 c215 hcd184 (own_up _ hp174) (O2.ext c216.2) P5 (O4.ext c216.2) rG3 (Nat.le_of_ble_eq_true rfl) (i := 0) (Nat.le_of_ble_eq_true rfl) (j := (0 : Int32)) rfl (by decide) (by decide)) e217 c212  (by first | decide | (dsimp only; omega)) (by first | decide | (dsimp only; omega)) (g := (mkF m 166 #[.val (.int p1), .val (.int p2), .val (.int p3), .val (.ref b50), .val (.ref b57), .val (.int (1 : Int32)), .val (.int (0 : Int32)), .val .null, .val (.ref b160), .val (.ref b186), .val (.ref b160)] [(.int (0 : Int32)), (.ref b160)])) (argsL := [(.int (0 : Int32))]) (rest := []) rfl (by rw [hml]; rfl) (lenOf pd_5 rfl) rfl rfl (by show 2 * 0 + _ ≤ _; exact Nat.le_of_eq rfl) (hb hby at_166) ?_
      rintro _ T219 L219 X219 ⟨rfl, rfl, e219⟩
      have N219q := Fr.nil n0
      have N220 := Fr.app N218 N219q
      show own_Fin p e below _ T219 (mkF m 169 #[.val (.int p1), .val (.int p2), .val (.int p3), .val (.ref b50), .val (.ref b57), .val (.int (1 : Int32)), .val (.int (0 : Int32)), .val .null, .val (.ref b160), .val (.ref b186), .val (.ref b160)] [(.int (nar .char ((p2 &&& (255 : Int32)).toUInt32.toUInt16.toUInt32.toInt32)))])
      refine own_step (T' := T219) (g' := (mkF m 171 #[.val (.int p1), .val (.int p2), .val (.int p3), .val (.ref b50), .val (.ref b57), .val (.int (1 : Int32)), .val (.int (0 : Int32)), .val .null, .val (.ref b160), .val (.ref b186), .val (.ref b160)] [(.ref b57), (.int (nar .char ((p2 &&& (255 : Int32)).toUInt32.toUInt16.toUInt32.toInt32)))])) (fun _ q => XS.aload X219.here hx rfl (hb hby at_169) rfl rfl q) ?_
      refine own_step (T' := T219) (g' := (mkF m 172 #[.val (.int p1), .val (.int p2), .val (.int p3), .val (.ref b50), .val (.ref b57), .val (.int (1 : Int32)), .val (.int (0 : Int32)), .val .null, .val (.ref b160), .val (.ref b186), .val (.ref b160)] [(.int (0 : Int32)), (.ref b57), (.int (nar .char ((p2 &&& (255 : Int32)).toUInt32.toUInt16.toUInt32.toInt32)))])) (fun _ q => XS.iconst X219.here hx rfl (hb hby at_171) q) ?_
      have c221 := (((c171.keep K175 (ninS ne168 nin0)).ext E186).keep K207 (ninS ne194 nin0))
      refine own_step (T' := T219) (g' := (mkF m 173 #[.val (.int p1), .val (.int p2), .val (.int p3), .val (.ref b50), .val (.ref b57), .val (.int (1 : Int32)), .val (.int (0 : Int32)), .val .null, .val (.ref b160), .val (.ref b186), .val (.ref b160)] [(.int (nar .char ((p2 &&& (255 : Int32)).toUInt32.toUInt16.toUInt32.toInt32))), (.int (nar .char ((p2 &&& (255 : Int32)).toUInt32.toUInt16.toUInt32.toInt32)))])) (fun _ q => own_ldC X219 hx hZ e219 c221 (j := (0 : Int32)) ⟨by decide, by decide⟩ (v := (.int (nar .char ((p2 &&& (255 : Int32)).toUInt32.toUInt16.toUInt32.toInt32)))) rfl (g := (mkF m 172 #[.val (.int p1), .val (.int p2), .val (.int p3), .val (.ref b50), .val (.ref b57), .val (.int (1 : Int32)), .val (.int (0 : Int32)), .val .null, .val (.ref b160), .val (.ref b186), .val (.ref b160)] [(.int (0 : Int32)), (.ref b57), (.int (nar .char ((p2 &&& (255 : Int32)).toUInt32.toUInt16.toUInt32.toInt32)))])) rfl rfl (hb hby at_172) _ q) ?_
      refine own_step (T' := T219) (g' := (mkF m 176 #[.val (.int p1), .val (.int p2), .val (.int p3), .val (.ref b50), .val (.ref b57), .val (.int (1 : Int32)), .val (.int (0 : Int32)), .val .null, .val (.ref b160), .val (.ref b186), .val (.ref b160)] [])) (fun _ q => XS.icmpNo X219.here hx rfl (hb hby at_173) rfl (XT.ii_ne_f rfl) q) ?_
      refine own_step (T' := T219) (g' := (mkF m 178 #[.val (.int p1), .val (.int p2), .val (.int p3), .val (.ref b50), .val (.ref b57), .val (.int (1 : Int32)), .val (.int (0 : Int32)), .val .null, .val (.ref b160), .val (.ref b186), .val (.ref b160)] [(.ref b160)])) (fun _ q => XS.aload X219.here hx rfl (hb hby at_176) rfl rfl q) ?_
      refine own_step (T' := T219) (g' := (mkF m 179 #[.val (.int p1), .val (.int p2), .val (.int p3), .val (.ref b50), .val (.ref b57), .val (.int (1 : Int32)), .val (.int (0 : Int32)), .val .null, .val (.ref b160), .val (.ref b186), .val (.ref b160)] [(.int (1 : Int32)), (.ref b160)])) (fun _ q => XS.iconst X219.here hx rfl (hb hby at_178) q) ?_
      refine own_callV (y := (⟨"java/lang/String", "charAt", "(I)C"⟩ : MethodName)) (z := (⟨"java/lang/String", "charAt", "(I)C"⟩ : MethodName)) (Q := fun v h' L => v = some (.int ((([(nar .char ((p2 &&& (255 : Int32)).toUInt32.toUInt16.toUInt32.toInt32)), (nar .char (((XT.ushr p2 (8 : Int32)) &&& (255 : Int32)).toUInt32.toUInt16.toUInt32.toInt32))] : List Int32)).getD 1 0)) ∧ L = [] ∧ h' = T207.heap) X219 hx hZ hown (w73 hw) (w74 hw) (notFace_of_selects (args := #[]) (mvT hZ (w76 hw))) (w76 hw) (w75 hw) (by decide) (StrChars.Road.chN (W := 0) hZ (own_wc hw) (kI := 4) (w2 hw) c212 c213 c214 c215 hcd184 (own_up _ hp174) (O2.ext c216.2) P5 (O4.ext c216.2) rG3 (Nat.le_of_ble_eq_true rfl) (i := 1) (Nat.le_of_ble_eq_true rfl) (j := (1 : Int32)) rfl (by decide) (by decide)) e219 c212  (by first | decide | (dsimp only; omega)) (by first | decide | (dsimp only; omega)) (g := (mkF m 179 #[.val (.int p1), .val (.int p2), .val (.int p3), .val (.ref b50), .val (.ref b57), .val (.int (1 : Int32)), .val (.int (0 : Int32)), .val .null, .val (.ref b160), .val (.ref b186), .val (.ref b160)] [(.int (1 : Int32)), (.ref b160)])) (argsL := [(.int (1 : Int32))]) (rest := []) rfl (by rw [hml]; rfl) (lenOf pd_5 rfl) rfl rfl (by show 2 * 0 + _ ≤ _; exact Nat.le_of_eq rfl) (hb hby at_179) ?_
      rintro _ T222 L222 X222 ⟨rfl, rfl, e222⟩
      have N222q := Fr.nil n0
      have N223 := Fr.app N220 N222q
      show own_Fin p e below _ T222 (mkF m 182 #[.val (.int p1), .val (.int p2), .val (.int p3), .val (.ref b50), .val (.ref b57), .val (.int (1 : Int32)), .val (.int (0 : Int32)), .val .null, .val (.ref b160), .val (.ref b186), .val (.ref b160)] [(.int (nar .char (((XT.ushr p2 (8 : Int32)) &&& (255 : Int32)).toUInt32.toUInt16.toUInt32.toInt32)))])
      refine own_step (T' := T222) (g' := (mkF m 184 #[.val (.int p1), .val (.int p2), .val (.int p3), .val (.ref b50), .val (.ref b57), .val (.int (1 : Int32)), .val (.int (0 : Int32)), .val .null, .val (.ref b160), .val (.ref b186), .val (.ref b160)] [(.ref b57), (.int (nar .char (((XT.ushr p2 (8 : Int32)) &&& (255 : Int32)).toUInt32.toUInt16.toUInt32.toInt32)))])) (fun _ q => XS.aload X222.here hx rfl (hb hby at_182) rfl rfl q) ?_
      refine own_step (T' := T222) (g' := (mkF m 185 #[.val (.int p1), .val (.int p2), .val (.int p3), .val (.ref b50), .val (.ref b57), .val (.int (1 : Int32)), .val (.int (0 : Int32)), .val .null, .val (.ref b160), .val (.ref b186), .val (.ref b160)] [(.int (1 : Int32)), (.ref b57), (.int (nar .char (((XT.ushr p2 (8 : Int32)) &&& (255 : Int32)).toUInt32.toUInt16.toUInt32.toInt32)))])) (fun _ q => XS.iconst X222.here hx rfl (hb hby at_184) q) ?_
      refine own_step (T' := T222) (g' := (mkF m 186 #[.val (.int p1), .val (.int p2), .val (.int p3), .val (.ref b50), .val (.ref b57), .val (.int (1 : Int32)), .val (.int (0 : Int32)), .val .null, .val (.ref b160), .val (.ref b186), .val (.ref b160)] [(.int (nar .char (((XT.ushr p2 (8 : Int32)) &&& (255 : Int32)).toUInt32.toUInt16.toUInt32.toInt32))), (.int (nar .char (((XT.ushr p2 (8 : Int32)) &&& (255 : Int32)).toUInt32.toUInt16.toUInt32.toInt32)))])) (fun _ q => own_ldC X222 hx hZ e222 c221 (j := (1 : Int32)) ⟨by decide, by decide⟩ (v := (.int (nar .char (((XT.ushr p2 (8 : Int32)) &&& (255 : Int32)).toUInt32.toUInt16.toUInt32.toInt32)))) rfl (g := (mkF m 185 #[.val (.int p1), .val (.int p2), .val (.int p3), .val (.ref b50), .val (.ref b57), .val (.int (1 : Int32)), .val (.int (0 : Int32)), .val .null, .val (.ref b160), .val (.ref b186), .val (.ref b160)] [(.int (1 : Int32)), (.ref b57), (.int (nar .char (((XT.ushr p2 (8 : Int32)) &&& (255 : Int32)).toUInt32.toUInt16.toUInt32.toInt32)))])) rfl rfl (hb hby at_185) _ q) ?_
      refine own_step (T' := T222) (g' := (mkF m 189 #[.val (.int p1), .val (.int p2), .val (.int p3), .val (.ref b50), .val (.ref b57), .val (.int (1 : Int32)), .val (.int (0 : Int32)), .val .null, .val (.ref b160), .val (.ref b186), .val (.ref b160)] [])) (fun _ q => XS.icmpNo X222.here hx rfl (hb hby at_186) rfl (XT.ii_ne_f rfl) q) ?_
      refine own_step (T' := T222) (g' := (mkF m 190 #[.val (.int p1), .val (.int p2), .val (.int p3), .val (.ref b50), .val (.ref b57), .val (.int (1 : Int32)), .val (.int (0 : Int32)), .val .null, .val (.ref b160), .val (.ref b186), .val (.ref b160)] [(.int (1 : Int32))])) (fun _ q => XS.iconst X222.here hx rfl (hb hby at_189) q) ?_
      refine own_step (T' := T222) (g' := (mkF m 194 #[.val (.int p1), .val (.int p2), .val (.int p3), .val (.ref b50), .val (.ref b57), .val (.int (1 : Int32)), .val (.int (0 : Int32)), .val .null, .val (.ref b160), .val (.ref b186), .val (.ref b160)] [(.int (1 : Int32))])) (fun _ q => XS.goto X222.here hx rfl (pc0 := 190) (pc' := 194) rfl (hb hby at_190) (by decide) (by decide) q) ?_
      have c224 := ((c189.ext E186).trans K207 (allS (Or.inr sz0_190) all0))
      exact own_retN X222 hx Bd.returns (by simp) (hb hby at_194) hlk (by rw [e222]; exact ⟨rfl, N223, c224⟩) (by first | decide | (dsimp only; omega)) (by first | decide | (dsimp only; omega))
    · refine own_step (T' := T66) (g' := (mkF m 70 #[.val (.int p1), .val (.int p2), .val (.int p3), .val (.ref b50), .val (.ref b57), .val (.int (1 : Int32)), .unset, .unset, .unset, .unset, .unset] [])) (fun _ q => XS.ifNo X66.here hx rfl (hb hby at_67) rfl (XT.i0_eq_f hc159) q) ?_
      refine own_step (T' := T66) (g' := (mkF m 71 #[.val (.int p1), .val (.int p2), .val (.int p3), .val (.ref b50), .val (.ref b57), .val (.int (1 : Int32)), .unset, .unset, .unset, .unset, .unset] [(.int (1 : Int32))])) (fun _ q => XS.iconst X66.here hx rfl (hb hby at_70) q) ?_
      refine own_step (T' := T66) (g' := (mkF m 75 #[.val (.int p1), .val (.int p2), .val (.int p3), .val (.ref b50), .val (.ref b57), .val (.int (1 : Int32)), .unset, .unset, .unset, .unset, .unset] [(.int (1 : Int32))])) (fun _ q => XS.goto X66.here hx rfl (pc0 := 71) (pc' := 75) rfl (hb hby at_71) (by decide) (by decide) q) ?_
      refine own_step (T' := T66) (g' := (mkF m 77 #[.val (.int p1), .val (.int p2), .val (.int p3), .val (.ref b50), .val (.ref b57), .val (.int (1 : Int32)), .val (.int (1 : Int32)), .unset, .unset, .unset, .unset] [])) (fun _ q => XS.istore X66.here hx rfl (hb hby at_75) rfl (l' := #[.val (.int p1), .val (.int p2), .val (.int p3), .val (.ref b50), .val (.ref b57), .val (.int (1 : Int32)), .val (.int (1 : Int32)), .unset, .unset, .unset, .unset]) rfl q) ?_
      refine own_step (T' := T66) (g' := (mkF m 79 #[.val (.int p1), .val (.int p2), .val (.int p3), .val (.ref b50), .val (.ref b57), .val (.int (1 : Int32)), .val (.int (1 : Int32)), .unset, .unset, .unset, .unset] [(.int (1 : Int32))])) (fun _ q => XS.iload X66.here hx rfl (hb hby at_77) rfl q) ?_
      refine own_step (T' := T66) (g' := (mkF m 82 #[.val (.int p1), .val (.int p2), .val (.int p3), .val (.ref b50), .val (.ref b57), .val (.int (1 : Int32)), .val (.int (1 : Int32)), .unset, .unset, .unset, .unset] [])) (fun _ q => XS.ifNo X66.here hx rfl (hb hby at_79) rfl (by decide) q) ?_
      obtain ⟨T225, h225, X225, e225, E225, A225, D225, -, st225⟩ := newO X66 hx hZ hown (w1 hw) (w2 hw) (w3 hw) e66 (g := (mkF m 82 #[.val (.int p1), .val (.int p2), .val (.int p3), .val (.ref b50), .val (.ref b57), .val (.int (1 : Int32)), .val (.int (1 : Int32)), .unset, .unset, .unset, .unset] [])) rfl (hb hby at_82) (by first | decide | (dsimp only; omega)) (by first | decide | (dsimp only; omega))
      obtain ⟨b225, g225⟩ : ∃ z, z = h66.size := ⟨_, rfl⟩
      rw [← g225] at A225 D225 st225
      have c226 := (Nat.le_trans (Nat.le_trans (Nat.le_trans c58 E57.1) (Keep.of_wr W64).1) (Keep.of_wr W66).1)
      have n0_227 : n0 ≤ b225 := Nat.le_trans c226 (Nat.le_of_eq g225.symm)
      have c228 := (((c60.ext E57).wr W64 (Or.inr sz0_61)).wr W66 (Or.inr sz0_61))
      have sz0_229 := Nat.le_trans c228.1 (Nat.le_of_eq g225.symm)
      have c230 := (own_lt (own_lt (own_lt c62 E57.1) (Keep.of_wr W64).1) (Keep.of_wr W66).1)
      have ne231 : b50 ≠ b225 := own_ne c230 (Nat.le_of_eq g225.symm)
      have c232 := (own_lt (own_lt ltb57 (Keep.of_wr W64).1) (Keep.of_wr W66).1)
      have ne233 : b57 ≠ b225 := own_ne c232 (Nat.le_of_eq g225.symm)
      have ltb225 := A225.lt
      have F234 : Fld Z h225 b225 "java/lang/String" "coder" "B" (.int (0 : Int32)) := D225 (Or.inr (w27 hw)) (ty := .byte) (by decide)
      have F235 : Fld Z h225 b225 "java/lang/String" "value" "[B" .null := D225 (Or.inr (w29 hw)) (ty := (.array .byte)) (by decide)
      refine own_step (T' := T225) (g' := (mkF m 85 #[.val (.int p1), .val (.int p2), .val (.int p3), .val (.ref b50), .val (.ref b57), .val (.int (1 : Int32)), .val (.int (1 : Int32)), .unset, .unset, .unset, .unset] [(.ref b225)])) st225 ?_
      refine own_step (T' := T225) (g' := (mkF m 86 #[.val (.int p1), .val (.int p2), .val (.int p3), .val (.ref b50), .val (.ref b57), .val (.int (1 : Int32)), .val (.int (1 : Int32)), .unset, .unset, .unset, .unset] [(.ref b225), (.ref b225)])) (fun _ q => XS.dup X225.here hx rfl (hb hby at_85) rfl rfl q) ?_
      refine own_step (T' := T225) (g' := (mkF m 87 #[.val (.int p1), .val (.int p2), .val (.int p3), .val (.ref b50), .val (.ref b57), .val (.int (1 : Int32)), .val (.int (1 : Int32)), .unset, .unset, .unset, .unset] [(.ref b50), (.ref b225), (.ref b225)])) (fun _ q => XS.aloadN X225.here hx rfl (hb hby at_86) rfl rfl q) ?_
      have c236 := ((((V55.ext E57).other W64 ne63).other W66 ne63).ext E225)
      have c237 := (Nat.le_trans c226 E225.1)
      have c238 := (((((((OLD0.ext E50).wr W53 n0_51).wr W55 n0_51).ext E57).wr W64 n0_59).wr W66 n0_59).ext E225)
      have hp239 : ∀ c ∈ ([(nar .char ((p1 &&& (255 : Int32)).toUInt32.toUInt16.toUInt32.toInt32)), (nar .char (((XT.ushr p1 (8 : Int32)) &&& (255 : Int32)).toUInt32.toUInt16.toUInt32.toInt32))] : List Int32), ¬ c < 0 ∧ ¬ (255 : Int32) < c := (own_allS (own_and255 p1) (own_allS (own_and255 (XT.ushr p1 (8 : Int32))) own_all0))
      refine own_callC X225 hx hZ hown rfl (w4 hw) (w5 hw) (w6 hw) (by decide) (StrChars.Road.backV (W := 1) hZ (own_ws hw) (kI := 4) (w2 hw) (cs := ([(nar .char ((p1 &&& (255 : Int32)).toUInt32.toUInt16.toUInt32.toInt32)), (nar .char (((XT.ushr p1 (8 : Int32)) &&& (255 : Int32)).toUInt32.toUInt16.toUInt32.toInt32))] : List Int32)) (bs := (([(nar .char ((p1 &&& (255 : Int32)).toUInt32.toUInt16.toUInt32.toInt32)), (nar .char (((XT.ushr p1 (8 : Int32)) &&& (255 : Int32)).toUInt32.toUInt16.toUInt32.toInt32))] : List Int32)).map (fun c => c.toInt8.toInt32)) (n := 2) n0_227 c237 A225 F235 F234 c236 (O2.ext c238.2) P5 rfl rfl (by decide) (by decide) hp239 rfl (by decide) (by decide)) e225  (by first | decide | (dsimp only; omega)) (by first | decide | (dsimp only; omega)) (g := (mkF m 87 #[.val (.int p1), .val (.int p2), .val (.int p3), .val (.ref b50), .val (.ref b57), .val (.int (1 : Int32)), .val (.int (1 : Int32)), .unset, .unset, .unset, .unset] [(.ref b50), (.ref b225), (.ref b225)])) (argsL := [(.ref b50)]) (rest := [(.ref b225)]) rfl (by rw [hml]; rfl) (lenOf pd_3 rfl) rfl rfl (by show 2 * 0 + _ ≤ _; exact Nat.le_of_eq rfl) (hb hby at_87) ?_
      rintro _ T240 L240 X240 ⟨rfl, N240q, K240, fE240, fC240, t240, kb240, ge240, sz240, nx240, fV240, fA240⟩
      have n0_241 : n0 ≤ t240 := Nat.le_trans c237 sz240
      have c242 := (c228.ext E225)
      have sz0_243 := Nat.le_trans c242.1 sz240
      have c244 := (own_lt c230 E225.1)
      have ne245 : b50 ≠ t240 := own_ne c244 sz240
      have c246 := (own_lt c232 E225.1)
      have ne247 : b57 ≠ t240 := own_ne c246 sz240
      have ne248 : b225 ≠ t240 := own_ne ltb225 sz240
      have ltt240 := fA240.lt
      have hcd249 : StrChars.Road.CodA ([(nar .char ((p1 &&& (255 : Int32)).toUInt32.toUInt16.toUInt32.toInt32)), (nar .char (((XT.ushr p1 (8 : Int32)) &&& (255 : Int32)).toUInt32.toUInt16.toUInt32.toInt32))] : List Int32) 0 (2 : Int32) (((([(nar .char ((p1 &&& (255 : Int32)).toUInt32.toUInt16.toUInt32.toInt32)), (nar .char (((XT.ushr p1 (8 : Int32)) &&& (255 : Int32)).toUInt32.toUInt16.toUInt32.toInt32))] : List Int32)).map (fun c => c.toInt8.toInt32)).map Value.int) := StrChars.Road.codOf (n := 2) rfl (fun c hc => (hp239 c hc).2)
      have N250 := Fr.app N67 N240q
      show own_Fin p e below _ T240 (mkF m 90 #[.val (.int p1), .val (.int p2), .val (.int p3), .val (.ref b50), .val (.ref b57), .val (.int (1 : Int32)), .val (.int (1 : Int32)), .unset, .unset, .unset, .unset] [(.ref b225)])
      refine own_step (T' := T240) (g' := (mkF m 94 #[.val (.int p1), .val (.int p2), .val (.int p3), .val (.ref b50), .val (.ref b57), .val (.int (1 : Int32)), .val (.int (1 : Int32)), .unset, .unset, .unset, .unset] [(.ref b225)])) (fun _ q => XS.goto X240.here hx rfl (pc0 := 90) (pc' := 94) rfl (hb hby at_90) (by decide) (by decide) q) ?_
      refine own_step (T' := T240) (g' := (mkF m 96 #[.val (.int p1), .val (.int p2), .val (.int p3), .val (.ref b50), .val (.ref b57), .val (.int (1 : Int32)), .val (.int (1 : Int32)), .val (.ref b225), .unset, .unset, .unset] [])) (fun _ q => XS.astore X240.here hx rfl (hb hby at_94) rfl rfl (l' := #[.val (.int p1), .val (.int p2), .val (.int p3), .val (.ref b50), .val (.ref b57), .val (.int (1 : Int32)), .val (.int (1 : Int32)), .val (.ref b225), .unset, .unset, .unset]) rfl q) ?_
      refine own_step (T' := T240) (g' := (mkF m 98 #[.val (.int p1), .val (.int p2), .val (.int p3), .val (.ref b50), .val (.ref b57), .val (.int (1 : Int32)), .val (.int (1 : Int32)), .val (.ref b225), .unset, .unset, .unset] [(.int (1 : Int32))])) (fun _ q => XS.iload X240.here hx rfl (hb hby at_96) rfl q) ?_
      refine own_step (T' := T240) (g' := (mkF m 101 #[.val (.int p1), .val (.int p2), .val (.int p3), .val (.ref b50), .val (.ref b57), .val (.int (1 : Int32)), .val (.int (1 : Int32)), .val (.ref b225), .unset, .unset, .unset] [])) (fun _ q => XS.ifNo X240.here hx rfl (hb hby at_98) rfl (by decide) q) ?_
      obtain ⟨T251, h251, X251, e251, E251, A251, D251, -, st251⟩ := newO X240 hx hZ hown (w1 hw) (w2 hw) (w3 hw) rfl (g := (mkF m 101 #[.val (.int p1), .val (.int p2), .val (.int p3), .val (.ref b50), .val (.ref b57), .val (.int (1 : Int32)), .val (.int (1 : Int32)), .val (.ref b225), .unset, .unset, .unset] [])) rfl (hb hby at_101) (by first | decide | (dsimp only; omega)) (by first | decide | (dsimp only; omega))
      obtain ⟨b251, g251⟩ : ∃ z, z = T240.heap.size := ⟨_, rfl⟩
      rw [← g251] at A251 D251 st251
      have c252 := (Nat.le_trans c237 K240.1)
      have n0_253 : n0 ≤ b251 := Nat.le_trans c252 (Nat.le_of_eq g251.symm)
      have c254 := (c242.trans K240 (allS (Or.inr sz0_229) all0))
      have sz0_255 := Nat.le_trans c254.1 (Nat.le_of_eq g251.symm)
      have c256 := (own_lt c244 K240.1)
      have ne257 : b50 ≠ b251 := own_ne c256 (Nat.le_of_eq g251.symm)
      have c258 := (own_lt c246 K240.1)
      have ne259 : b57 ≠ b251 := own_ne c258 (Nat.le_of_eq g251.symm)
      have c260 := (own_lt ltb225 K240.1)
      have ne261 : b225 ≠ b251 := own_ne c260 (Nat.le_of_eq g251.symm)
      have ne262 : t240 ≠ b251 := own_ne ltt240 (Nat.le_of_eq g251.symm)
      have ltb251 := A251.lt
      have F263 : Fld Z h251 b251 "java/lang/String" "coder" "B" (.int (0 : Int32)) := D251 (Or.inr (w27 hw)) (ty := .byte) (by decide)
      have F264 : Fld Z h251 b251 "java/lang/String" "value" "[B" .null := D251 (Or.inr (w29 hw)) (ty := (.array .byte)) (by decide)
      refine own_step (T' := T251) (g' := (mkF m 104 #[.val (.int p1), .val (.int p2), .val (.int p3), .val (.ref b50), .val (.ref b57), .val (.int (1 : Int32)), .val (.int (1 : Int32)), .val (.ref b225), .unset, .unset, .unset] [(.ref b251)])) st251 ?_
      refine own_step (T' := T251) (g' := (mkF m 105 #[.val (.int p1), .val (.int p2), .val (.int p3), .val (.ref b50), .val (.ref b57), .val (.int (1 : Int32)), .val (.int (1 : Int32)), .val (.ref b225), .unset, .unset, .unset] [(.ref b251), (.ref b251)])) (fun _ q => XS.dup X251.here hx rfl (hb hby at_104) rfl rfl q) ?_
      refine own_step (T' := T251) (g' := (mkF m 107 #[.val (.int p1), .val (.int p2), .val (.int p3), .val (.ref b50), .val (.ref b57), .val (.int (1 : Int32)), .val (.int (1 : Int32)), .val (.ref b225), .unset, .unset, .unset] [(.ref b57), (.ref b251), (.ref b251)])) (fun _ q => XS.aload X251.here hx rfl (hb hby at_105) rfl rfl q) ?_
      have c265 := (((V66.ext E225).keep K240 (ninS ne233 nin0)).ext E251)
      have c266 := (Nat.le_trans c252 E251.1)
      have c267 := ((c238.keep K240 (allS n0_227 all0)).ext E251)
      have hp268 : ∀ c ∈ ([(nar .char ((p2 &&& (255 : Int32)).toUInt32.toUInt16.toUInt32.toInt32)), (nar .char (((XT.ushr p2 (8 : Int32)) &&& (255 : Int32)).toUInt32.toUInt16.toUInt32.toInt32))] : List Int32), ¬ c < 0 ∧ ¬ (255 : Int32) < c := (own_allS (own_and255 p2) (own_allS (own_and255 (XT.ushr p2 (8 : Int32))) own_all0))
      refine own_callC X251 hx hZ hown rfl (w4 hw) (w5 hw) (w6 hw) (by decide) (StrChars.Road.backV (W := 1) hZ (own_ws hw) (kI := 4) (w2 hw) (cs := ([(nar .char ((p2 &&& (255 : Int32)).toUInt32.toUInt16.toUInt32.toInt32)), (nar .char (((XT.ushr p2 (8 : Int32)) &&& (255 : Int32)).toUInt32.toUInt16.toUInt32.toInt32))] : List Int32)) (bs := (([(nar .char ((p2 &&& (255 : Int32)).toUInt32.toUInt16.toUInt32.toInt32)), (nar .char (((XT.ushr p2 (8 : Int32)) &&& (255 : Int32)).toUInt32.toUInt16.toUInt32.toInt32))] : List Int32)).map (fun c => c.toInt8.toInt32)) (n := 2) n0_253 c266 A251 F264 F263 c265 (O2.ext c267.2) P5 rfl rfl (by decide) (by decide) hp268 rfl (by decide) (by decide)) e251  (by first | decide | (dsimp only; omega)) (by first | decide | (dsimp only; omega)) (g := (mkF m 107 #[.val (.int p1), .val (.int p2), .val (.int p3), .val (.ref b50), .val (.ref b57), .val (.int (1 : Int32)), .val (.int (1 : Int32)), .val (.ref b225), .unset, .unset, .unset] [(.ref b57), (.ref b251), (.ref b251)])) (argsL := [(.ref b57)]) (rest := [(.ref b251)]) rfl (by rw [hml]; rfl) (lenOf pd_3 rfl) rfl rfl (by show 2 * 0 + _ ≤ _; exact Nat.le_of_eq rfl) (hb hby at_107) ?_
      rintro _ T269 L269 X269 ⟨rfl, N269q, K269, fE269, fC269, t269, kb269, ge269, sz269, nx269, fV269, fA269⟩
      have n0_270 : n0 ≤ t269 := Nat.le_trans c266 sz269
      have c271 := (c254.ext E251)
      have sz0_272 := Nat.le_trans c271.1 sz269
      have c273 := (own_lt c256 E251.1)
      have ne274 : b50 ≠ t269 := own_ne c273 sz269
      have c275 := (own_lt c258 E251.1)
      have ne276 : b57 ≠ t269 := own_ne c275 sz269
      have c277 := (own_lt c260 E251.1)
      have ne278 : b225 ≠ t269 := own_ne c277 sz269
      have c279 := (own_lt ltt240 E251.1)
      have ne280 : t240 ≠ t269 := own_ne c279 sz269
      have ne281 : b251 ≠ t269 := own_ne ltb251 sz269
      have ltt269 := fA269.lt
      have hcd282 : StrChars.Road.CodA ([(nar .char ((p2 &&& (255 : Int32)).toUInt32.toUInt16.toUInt32.toInt32)), (nar .char (((XT.ushr p2 (8 : Int32)) &&& (255 : Int32)).toUInt32.toUInt16.toUInt32.toInt32))] : List Int32) 0 (2 : Int32) (((([(nar .char ((p2 &&& (255 : Int32)).toUInt32.toUInt16.toUInt32.toInt32)), (nar .char (((XT.ushr p2 (8 : Int32)) &&& (255 : Int32)).toUInt32.toUInt16.toUInt32.toInt32))] : List Int32)).map (fun c => c.toInt8.toInt32)).map Value.int) := StrChars.Road.codOf (n := 2) rfl (fun c hc => (hp268 c hc).2)
      have N283 := Fr.app N250 N269q
      show own_Fin p e below _ T269 (mkF m 110 #[.val (.int p1), .val (.int p2), .val (.int p3), .val (.ref b50), .val (.ref b57), .val (.int (1 : Int32)), .val (.int (1 : Int32)), .val (.ref b225), .unset, .unset, .unset] [(.ref b251)])
      refine own_step (T' := T269) (g' := (mkF m 114 #[.val (.int p1), .val (.int p2), .val (.int p3), .val (.ref b50), .val (.ref b57), .val (.int (1 : Int32)), .val (.int (1 : Int32)), .val (.ref b225), .unset, .unset, .unset] [(.ref b251)])) (fun _ q => XS.goto X269.here hx rfl (pc0 := 110) (pc' := 114) rfl (hb hby at_110) (by decide) (by decide) q) ?_
      refine own_step (T' := T269) (g' := (mkF m 116 #[.val (.int p1), .val (.int p2), .val (.int p3), .val (.ref b50), .val (.ref b57), .val (.int (1 : Int32)), .val (.int (1 : Int32)), .val (.ref b225), .val (.ref b251), .unset, .unset] [])) (fun _ q => XS.astore X269.here hx rfl (hb hby at_114) rfl rfl (l' := #[.val (.int p1), .val (.int p2), .val (.int p3), .val (.ref b50), .val (.ref b57), .val (.int (1 : Int32)), .val (.int (1 : Int32)), .val (.ref b225), .val (.ref b251), .unset, .unset]) rfl q) ?_
      obtain ⟨T284, h284, X284, e284, E284, A284, D284, -, st284⟩ := newO X269 hx hZ hown (w30 hw) (w31 hw) (w32 hw) rfl (g := (mkF m 116 #[.val (.int p1), .val (.int p2), .val (.int p3), .val (.ref b50), .val (.ref b57), .val (.int (1 : Int32)), .val (.int (1 : Int32)), .val (.ref b225), .val (.ref b251), .unset, .unset] [])) rfl (hb hby at_116) (by first | decide | (dsimp only; omega)) (by first | decide | (dsimp only; omega))
      obtain ⟨b284, g284⟩ : ∃ z, z = T269.heap.size := ⟨_, rfl⟩
      rw [← g284] at A284 D284 st284
      have c285 := (Nat.le_trans c266 K269.1)
      have n0_286 : n0 ≤ b284 := Nat.le_trans c285 (Nat.le_of_eq g284.symm)
      have c287 := (c271.trans K269 (allS (Or.inr sz0_255) all0))
      have sz0_288 := Nat.le_trans c287.1 (Nat.le_of_eq g284.symm)
      have c289 := (own_lt c273 K269.1)
      have ne290 : b50 ≠ b284 := own_ne c289 (Nat.le_of_eq g284.symm)
      have c291 := (own_lt c275 K269.1)
      have ne292 : b57 ≠ b284 := own_ne c291 (Nat.le_of_eq g284.symm)
      have c293 := (own_lt c277 K269.1)
      have ne294 : b225 ≠ b284 := own_ne c293 (Nat.le_of_eq g284.symm)
      have c295 := (own_lt c279 K269.1)
      have ne296 : t240 ≠ b284 := own_ne c295 (Nat.le_of_eq g284.symm)
      have c297 := (own_lt ltb251 K269.1)
      have ne298 : b251 ≠ b284 := own_ne c297 (Nat.le_of_eq g284.symm)
      have ne299 : t269 ≠ b284 := own_ne ltt269 (Nat.le_of_eq g284.symm)
      have ltb284 := A284.lt
      have F300 : Fld Z h284 b284 "com/example/nameid/nameid/saml/ServiceProvider" "entityId" "Ljava/lang/String;" .null := D284 (Or.inr (w43 hw)) (ty := (.object "java/lang/String")) (by decide)
      have F301 : Fld Z h284 b284 "com/example/nameid/nameid/saml/ServiceProvider" "displayName" "Ljava/lang/String;" .null := D284 (Or.inr (w45 hw)) (ty := (.object "java/lang/String")) (by decide)
      have F302 : Fld Z h284 b284 "com/example/nameid/nameid/saml/ServiceProvider" "signingKeys" "Ljava/util/List;" .null := D284 (Or.inr (w47 hw)) (ty := (.object "java/util/List")) (by decide)
      have F303 : Fld Z h284 b284 "com/example/nameid/nameid/saml/ServiceProvider" "encryptionKeys" "Ljava/util/List;" .null := D284 (Or.inr (w49 hw)) (ty := (.object "java/util/List")) (by decide)
      have F304 : Fld Z h284 b284 "com/example/nameid/nameid/saml/ServiceProvider" "assertionConsumerServices" "Ljava/util/List;" .null := D284 (Or.inr (w51 hw)) (ty := (.object "java/util/List")) (by decide)
      have F305 : Fld Z h284 b284 "com/example/nameid/nameid/saml/ServiceProvider" "singleLogoutServices" "Ljava/util/List;" .null := D284 (Or.inr (w53 hw)) (ty := (.object "java/util/List")) (by decide)
      have F306 : Fld Z h284 b284 "com/example/nameid/nameid/saml/ServiceProvider" "nameIdFormats" "Ljava/util/List;" .null := D284 (Or.inr (w55 hw)) (ty := (.object "java/util/List")) (by decide)
      have F307 : Fld Z h284 b284 "com/example/nameid/nameid/saml/ServiceProvider" "attributeConsumingServices" "Ljava/util/List;" .null := D284 (Or.inr (w57 hw)) (ty := (.object "java/util/List")) (by decide)
      refine own_step (T' := T284) (g' := (mkF m 119 #[.val (.int p1), .val (.int p2), .val (.int p3), .val (.ref b50), .val (.ref b57), .val (.int (1 : Int32)), .val (.int (1 : Int32)), .val (.ref b225), .val (.ref b251), .unset, .unset] [(.ref b284)])) st284 ?_
      refine own_step (T' := T284) (g' := (mkF m 120 #[.val (.int p1), .val (.int p2), .val (.int p3), .val (.ref b50), .val (.ref b57), .val (.int (1 : Int32)), .val (.int (1 : Int32)), .val (.ref b225), .val (.ref b251), .unset, .unset] [(.ref b284), (.ref b284)])) (fun _ q => XS.dup X284.here hx rfl (hb hby at_119) rfl rfl q) ?_
      refine own_step (T' := T284) (g' := (mkF m 122 #[.val (.int p1), .val (.int p2), .val (.int p3), .val (.ref b50), .val (.ref b57), .val (.int (1 : Int32)), .val (.int (1 : Int32)), .val (.ref b225), .val (.ref b251), .unset, .unset] [(.ref b225), (.ref b284), (.ref b284)])) (fun _ q => XS.aload X284.here hx rfl (hb hby at_120) rfl rfl q) ?_
      refine own_step (T' := T284) (g' := (mkF m 124 #[.val (.int p1), .val (.int p2), .val (.int p3), .val (.ref b50), .val (.ref b57), .val (.int (1 : Int32)), .val (.int (1 : Int32)), .val (.ref b225), .val (.ref b251), .unset, .unset] [(.ref b251), (.ref b225), (.ref b284), (.ref b284)])) (fun _ q => XS.aload X284.here hx rfl (hb hby at_122) rfl rfl q) ?_
      refine own_step (T' := T284) (g' := (mkF m 125 #[.val (.int p1), .val (.int p2), .val (.int p3), .val (.ref b50), .val (.ref b57), .val (.int (1 : Int32)), .val (.int (1 : Int32)), .val (.ref b225), .val (.ref b251), .unset, .unset] [.null, (.ref b251), (.ref b225), (.ref b284), (.ref b284)])) (fun _ q => XS.aconstNull X284.here hx rfl (hb hby at_124) q) ?_
      refine own_step (T' := T284) (g' := (mkF m 126 #[.val (.int p1), .val (.int p2), .val (.int p3), .val (.ref b50), .val (.ref b57), .val (.int (1 : Int32)), .val (.int (1 : Int32)), .val (.ref b225), .val (.ref b251), .unset, .unset] [.null, .null, (.ref b251), (.ref b225), (.ref b284), (.ref b284)])) (fun _ q => XS.aconstNull X284.here hx rfl (hb hby at_125) q) ?_
      refine own_step (T' := T284) (g' := (mkF m 127 #[.val (.int p1), .val (.int p2), .val (.int p3), .val (.ref b50), .val (.ref b57), .val (.int (1 : Int32)), .val (.int (1 : Int32)), .val (.ref b225), .val (.ref b251), .unset, .unset] [.null, .null, .null, (.ref b251), (.ref b225), (.ref b284), (.ref b284)])) (fun _ q => XS.aconstNull X284.here hx rfl (hb hby at_126) q) ?_
      refine own_step (T' := T284) (g' := (mkF m 128 #[.val (.int p1), .val (.int p2), .val (.int p3), .val (.ref b50), .val (.ref b57), .val (.int (1 : Int32)), .val (.int (1 : Int32)), .val (.ref b225), .val (.ref b251), .unset, .unset] [.null, .null, .null, .null, (.ref b251), (.ref b225), (.ref b284), (.ref b284)])) (fun _ q => XS.aconstNull X284.here hx rfl (hb hby at_127) q) ?_
      refine own_step (T' := T284) (g' := (mkF m 129 #[.val (.int p1), .val (.int p2), .val (.int p3), .val (.ref b50), .val (.ref b57), .val (.int (1 : Int32)), .val (.int (1 : Int32)), .val (.ref b225), .val (.ref b251), .unset, .unset] [.null, .null, .null, .null, .null, (.ref b251), (.ref b225), (.ref b284), (.ref b284)])) (fun _ q => XS.aconstNull X284.here hx rfl (hb hby at_128) q) ?_
      refine own_step (T' := T284) (g' := (mkF m 130 #[.val (.int p1), .val (.int p2), .val (.int p3), .val (.ref b50), .val (.ref b57), .val (.int (1 : Int32)), .val (.int (1 : Int32)), .val (.ref b225), .val (.ref b251), .unset, .unset] [.null, .null, .null, .null, .null, .null, (.ref b251), (.ref b225), (.ref b284), (.ref b284)])) (fun _ q => XS.aconstNull X284.here hx rfl (hb hby at_129) q) ?_
      have c308 := (Nat.le_trans c285 E284.1)
      refine own_callC X284 hx hZ hown rfl (w33 hw) (w34 hw) (w35 hw) (by decide) (backOf (W := 1) (own_spinit l Z a0 hw [] b284 (Value.ref b225) (Value.ref b251) h284 n0 c308 (rfl : (Value.ref b225).isRef = true) (rfl : (Value.ref b251).isRef = true) A284 n0_286 F300 F301 F302 F303 F304 F305 F306 F307) hZ (w35 hw) (w32 hw) (by decide) (by decide)) e284  (by first | decide | (dsimp only; omega)) (by first | decide | (dsimp only; omega)) (g := (mkF m 130 #[.val (.int p1), .val (.int p2), .val (.int p3), .val (.ref b50), .val (.ref b57), .val (.int (1 : Int32)), .val (.int (1 : Int32)), .val (.ref b225), .val (.ref b251), .unset, .unset] [.null, .null, .null, .null, .null, .null, (.ref b251), (.ref b225), (.ref b284), (.ref b284)])) (argsL := [(.ref b225), (.ref b251), .null, .null, .null, .null, .null, .null]) (rest := [(.ref b284)]) rfl (by rw [hml]; rfl) (lenOf pd_1 rfl) rfl rfl (by show 2 * 0 + _ ≤ _; exact Nat.le_of_eq rfl) (hb hby at_130) ?_
      rintro _ T309 L309 X309 ⟨rfl, N309q, K309, f0_309, f1_309, f2_309⟩
      have N310 := Fr.app N283 N309q
      show own_Fin p e below _ T309 (mkF m 133 #[.val (.int p1), .val (.int p2), .val (.int p3), .val (.ref b50), .val (.ref b57), .val (.int (1 : Int32)), .val (.int (1 : Int32)), .val (.ref b225), .val (.ref b251), .unset, .unset] [(.ref b284)])
      refine own_step (T' := T309) (g' := (mkF m 135 #[.val (.int p1), .val (.int p2), .val (.int p3), .val (.ref b50), .val (.ref b57), .val (.int (1 : Int32)), .val (.int (1 : Int32)), .val (.ref b225), .val (.ref b251), .val (.ref b284), .unset] [])) (fun _ q => XS.astore X309.here hx rfl (hb hby at_133) rfl rfl (l' := #[.val (.int p1), .val (.int p2), .val (.int p3), .val (.ref b50), .val (.ref b57), .val (.int (1 : Int32)), .val (.int (1 : Int32)), .val (.ref b225), .val (.ref b251), .val (.ref b284), .unset]) rfl q) ?_
      refine own_step (T' := T309) (g' := (mkF m 137 #[.val (.int p1), .val (.int p2), .val (.int p3), .val (.ref b50), .val (.ref b57), .val (.int (1 : Int32)), .val (.int (1 : Int32)), .val (.ref b225), .val (.ref b251), .val (.ref b284), .unset] [(.ref b284)])) (fun _ q => XS.aload X309.here hx rfl (hb hby at_135) rfl rfl q) ?_
      have c311 := (Nat.le_trans c308 K309.1)
      refine own_callV (y := (⟨"com/example/nameid/nameid/saml/ServiceProvider", "name", "()Ljava/lang/String;"⟩ : MethodName)) (z := (⟨"com/example/nameid/nameid/saml/ServiceProvider", "name", "()Ljava/lang/String;"⟩ : MethodName)) X309 hx hZ hown (w58 hw) (w59 hw) (notFace_of_selects (args := #[]) (mvT hZ (w61 hw))) (w61 hw) (w60 hw) (by decide) (backOf (W := 0) (own_named l Z a0 hw [] b284 b251 T309.heap n0 c311 f2_309) hZ (w62 hw) (w32 hw) (by decide) (by decide)) rfl f0_309  (by first | decide | (dsimp only; omega)) (by first | decide | (dsimp only; omega)) (g := (mkF m 137 #[.val (.int p1), .val (.int p2), .val (.int p3), .val (.ref b50), .val (.ref b57), .val (.int (1 : Int32)), .val (.int (1 : Int32)), .val (.ref b225), .val (.ref b251), .val (.ref b284), .unset] [(.ref b284)])) (argsL := []) (rest := []) rfl (by rw [hml]; rfl) (lenOf pd_2 rfl) rfl rfl (by show 2 * 0 + _ ≤ _; exact Nat.le_of_eq rfl) (hb hby at_137) ?_
      rintro _ T312 L312 X312 ⟨rfl, N312q, e312⟩
      have N313 := Fr.app N310 N312q
      show own_Fin p e below _ T312 (mkF m 140 #[.val (.int p1), .val (.int p2), .val (.int p3), .val (.ref b50), .val (.ref b57), .val (.int (1 : Int32)), .val (.int (1 : Int32)), .val (.ref b225), .val (.ref b251), .val (.ref b284), .unset] [(.ref b251)])
      refine own_step (T' := T312) (g' := (mkF m 142 #[.val (.int p1), .val (.int p2), .val (.int p3), .val (.ref b50), .val (.ref b57), .val (.int (1 : Int32)), .val (.int (1 : Int32)), .val (.ref b225), .val (.ref b251), .val (.ref b284), .val (.ref b251)] [])) (fun _ q => XS.astore X312.here hx rfl (hb hby at_140) rfl rfl (l' := #[.val (.int p1), .val (.int p2), .val (.int p3), .val (.ref b50), .val (.ref b57), .val (.int (1 : Int32)), .val (.int (1 : Int32)), .val (.ref b225), .val (.ref b251), .val (.ref b284), .val (.ref b251)]) rfl q) ?_
      refine own_step (T' := T312) (g' := (mkF m 144 #[.val (.int p1), .val (.int p2), .val (.int p3), .val (.ref b50), .val (.ref b57), .val (.int (1 : Int32)), .val (.int (1 : Int32)), .val (.ref b225), .val (.ref b251), .val (.ref b284), .val (.ref b251)] [(.int (1 : Int32))])) (fun _ q => XS.iload X312.here hx rfl (hb hby at_142) rfl q) ?_
      refine own_step (T' := T312) (g' := (mkF m 147 #[.val (.int p1), .val (.int p2), .val (.int p3), .val (.ref b50), .val (.ref b57), .val (.int (1 : Int32)), .val (.int (1 : Int32)), .val (.ref b225), .val (.ref b251), .val (.ref b284), .val (.ref b251)] [])) (fun _ q => XS.ifNo X312.here hx rfl (hb hby at_144) rfl (by decide) q) ?_
      refine own_step (T' := T312) (g' := (mkF m 149 #[.val (.int p1), .val (.int p2), .val (.int p3), .val (.ref b50), .val (.ref b57), .val (.int (1 : Int32)), .val (.int (1 : Int32)), .val (.ref b225), .val (.ref b251), .val (.ref b284), .val (.ref b251)] [(.ref b251)])) (fun _ q => XS.aload X312.here hx rfl (hb hby at_147) rfl rfl q) ?_
      refine own_step (T' := T312) (g' := (mkF m 151 #[.val (.int p1), .val (.int p2), .val (.int p3), .val (.ref b50), .val (.ref b57), .val (.int (1 : Int32)), .val (.int (1 : Int32)), .val (.ref b225), .val (.ref b251), .val (.ref b284), .val (.ref b251)] [(.ref b251), (.ref b251)])) (fun _ q => XS.aload X312.here hx rfl (hb hby at_149) rfl rfl q) ?_
      refine own_step (T' := T312) (g' := (mkF m 154 #[.val (.int p1), .val (.int p2), .val (.int p3), .val (.ref b50), .val (.ref b57), .val (.int (1 : Int32)), .val (.int (1 : Int32)), .val (.ref b225), .val (.ref b251), .val (.ref b284), .val (.ref b251)] [])) (fun _ q => Jvm.RoadKit.acmp (g := (mkF m 151 #[.val (.int p1), .val (.int p2), .val (.int p3), .val (.ref b50), .val (.ref b57), .val (.int (1 : Int32)), .val (.int (1 : Int32)), .val (.ref b225), .val (.ref b251), .val (.ref b284), .val (.ref b251)] [(.ref b251), (.ref b251)])) X312 hx rfl rfl rfl (pc0 := 151) (pc' := 154) (same := true) rfl (hb hby at_151) rfl (decide_eq_true rfl) (by decide) (by decide) q) ?_
      refine own_step (T' := T312) (g' := (mkF m 156 #[.val (.int p1), .val (.int p2), .val (.int p3), .val (.ref b50), .val (.ref b57), .val (.int (1 : Int32)), .val (.int (1 : Int32)), .val (.ref b225), .val (.ref b251), .val (.ref b284), .val (.ref b251)] [(.ref b251)])) (fun _ q => XS.aload X312.here hx rfl (hb hby at_154) rfl rfl q) ?_
      have c314 := ((fE269.ext E284).keep K309)
      have c315 := ((fV269.ext E284).keep K309 (ninS ne298 nin0))
      have c316 := ((fC269.ext E284).keep K309 (ninS ne298 nin0))
      have c317 := ((fA269.ext E284).keep K309 (ninS ne299 nin0))
      have c318 := (((c267.keep K269 (allS n0_253 all0)).ext E284).keep K309 (allS n0_286 all0))
      refine own_callV (y := (⟨"java/lang/String", "length", "()I"⟩ : MethodName)) (z := (⟨"java/lang/String", "length", "()I"⟩ : MethodName)) (Q := fun v h' L => v = some (.int (Int32.ofNat (([(nar .char ((p2 &&& (255 : Int32)).toUInt32.toUInt16.toUInt32.toInt32)), (nar .char (((XT.ushr p2 (8 : Int32)) &&& (255 : Int32)).toUInt32.toUInt16.toUInt32.toInt32))] : List Int32)).length)) ∧ L = [] ∧ h' = T309.heap) X312 hx hZ hown (w63 hw) (w64 hw) (notFace_of_selects (args := #[]) (mvT hZ (w66 hw))) (w66 hw) (w65 hw) (by decide) (StrChars.Road.lenW (W := 0) hZ (own_wl hw) (kI := 4) (w2 hw) c314 c315 c316 c317 hcd282 (own_up _ hp268) (O2.ext c318.2) P5 (Nat.le_of_ble_eq_true rfl) (by decide) (by decide)) e312 c314  (by first | decide | (dsimp only; omega)) (by first | decide | (dsimp only; omega)) (g := (mkF m 156 #[.val (.int p1), .val (.int p2), .val (.int p3), .val (.ref b50), .val (.ref b57), .val (.int (1 : Int32)), .val (.int (1 : Int32)), .val (.ref b225), .val (.ref b251), .val (.ref b284), .val (.ref b251)] [(.ref b251)])) (argsL := []) (rest := []) rfl (by rw [hml]; rfl) (lenOf pd_4 rfl) rfl rfl (by show 2 * 0 + _ ≤ _; exact Nat.le_of_eq rfl) (hb hby at_156) ?_
      rintro _ T319 L319 X319 ⟨rfl, rfl, e319⟩
      have N319q := Fr.nil n0
      have N320 := Fr.app N313 N319q
      show own_Fin p e below _ T319 (mkF m 159 #[.val (.int p1), .val (.int p2), .val (.int p3), .val (.ref b50), .val (.ref b57), .val (.int (1 : Int32)), .val (.int (1 : Int32)), .val (.ref b225), .val (.ref b251), .val (.ref b284), .val (.ref b251)] [(.int (2 : Int32))])
      refine own_step (T' := T319) (g' := (mkF m 160 #[.val (.int p1), .val (.int p2), .val (.int p3), .val (.ref b50), .val (.ref b57), .val (.int (1 : Int32)), .val (.int (1 : Int32)), .val (.ref b225), .val (.ref b251), .val (.ref b284), .val (.ref b251)] [(.int (2 : Int32)), (.int (2 : Int32))])) (fun _ q => XS.iconst X319.here hx rfl (hb hby at_159) q) ?_
      refine own_step (T' := T319) (g' := (mkF m 163 #[.val (.int p1), .val (.int p2), .val (.int p3), .val (.ref b50), .val (.ref b57), .val (.int (1 : Int32)), .val (.int (1 : Int32)), .val (.ref b225), .val (.ref b251), .val (.ref b284), .val (.ref b251)] [])) (fun _ q => XS.icmpNo X319.here hx rfl (hb hby at_160) rfl (by decide) q) ?_
      refine own_step (T' := T319) (g' := (mkF m 165 #[.val (.int p1), .val (.int p2), .val (.int p3), .val (.ref b50), .val (.ref b57), .val (.int (1 : Int32)), .val (.int (1 : Int32)), .val (.ref b225), .val (.ref b251), .val (.ref b284), .val (.ref b251)] [(.ref b251)])) (fun _ q => XS.aload X319.here hx rfl (hb hby at_163) rfl rfl q) ?_
      refine own_step (T' := T319) (g' := (mkF m 166 #[.val (.int p1), .val (.int p2), .val (.int p3), .val (.ref b50), .val (.ref b57), .val (.int (1 : Int32)), .val (.int (1 : Int32)), .val (.ref b225), .val (.ref b251), .val (.ref b284), .val (.ref b251)] [(.int (0 : Int32)), (.ref b251)])) (fun _ q => XS.iconst X319.here hx rfl (hb hby at_165) q) ?_
      refine own_callV (y := (⟨"java/lang/String", "charAt", "(I)C"⟩ : MethodName)) (z := (⟨"java/lang/String", "charAt", "(I)C"⟩ : MethodName)) (Q := fun v h' L => v = some (.int ((([(nar .char ((p2 &&& (255 : Int32)).toUInt32.toUInt16.toUInt32.toInt32)), (nar .char (((XT.ushr p2 (8 : Int32)) &&& (255 : Int32)).toUInt32.toUInt16.toUInt32.toInt32))] : List Int32)).getD 0 0)) ∧ L = [] ∧ h' = T309.heap) X319 hx hZ hown (w73 hw) (w74 hw) (notFace_of_selects (args := #[]) (mvT hZ (w76 hw))) (w76 hw) (w75 hw) (by decide) (StrChars.Road.chN (W := 0) hZ (own_wc hw) (kI := 4) (w2 hw) c314 c315 c316 c317 hcd282 (own_up _ hp268) (O2.ext c318.2) P5 (O4.ext c318.2) rG3 (Nat.le_of_ble_eq_true rfl) (i := 0) (Nat.le_of_ble_eq_true rfl) (j := (0 : Int32)) rfl (by decide) (by decide)) e319 c314  (by first | decide | (dsimp only; omega)) (by first | decide | (dsimp only; omega)) (g := (mkF m 166 #[.val (.int p1), .val (.int p2), .val (.int p3), .val (.ref b50), .val (.ref b57), .val (.int (1 : Int32)), .val (.int (1 : Int32)), .val (.ref b225), .val (.ref b251), .val (.ref b284), .val (.ref b251)] [(.int (0 : Int32)), (.ref b251)])) (argsL := [(.int (0 : Int32))]) (rest := []) rfl (by rw [hml]; rfl) (lenOf pd_5 rfl) rfl rfl (by show 2 * 0 + _ ≤ _; exact Nat.le_of_eq rfl) (hb hby at_166) ?_
      rintro _ T321 L321 X321 ⟨rfl, rfl, e321⟩
      have N321q := Fr.nil n0
      have N322 := Fr.app N320 N321q
      show own_Fin p e below _ T321 (mkF m 169 #[.val (.int p1), .val (.int p2), .val (.int p3), .val (.ref b50), .val (.ref b57), .val (.int (1 : Int32)), .val (.int (1 : Int32)), .val (.ref b225), .val (.ref b251), .val (.ref b284), .val (.ref b251)] [(.int (nar .char ((p2 &&& (255 : Int32)).toUInt32.toUInt16.toUInt32.toInt32)))])
      refine own_step (T' := T321) (g' := (mkF m 171 #[.val (.int p1), .val (.int p2), .val (.int p3), .val (.ref b50), .val (.ref b57), .val (.int (1 : Int32)), .val (.int (1 : Int32)), .val (.ref b225), .val (.ref b251), .val (.ref b284), .val (.ref b251)] [(.ref b57), (.int (nar .char ((p2 &&& (255 : Int32)).toUInt32.toUInt16.toUInt32.toInt32)))])) (fun _ q => XS.aload X321.here hx rfl (hb hby at_169) rfl rfl q) ?_
      refine own_step (T' := T321) (g' := (mkF m 172 #[.val (.int p1), .val (.int p2), .val (.int p3), .val (.ref b50), .val (.ref b57), .val (.int (1 : Int32)), .val (.int (1 : Int32)), .val (.ref b225), .val (.ref b251), .val (.ref b284), .val (.ref b251)] [(.int (0 : Int32)), (.ref b57), (.int (nar .char ((p2 &&& (255 : Int32)).toUInt32.toUInt16.toUInt32.toInt32)))])) (fun _ q => XS.iconst X321.here hx rfl (hb hby at_171) q) ?_
      have c323 := (((c265.keep K269 (ninS ne259 nin0)).ext E284).keep K309 (ninS ne292 nin0))
      refine own_step (T' := T321) (g' := (mkF m 173 #[.val (.int p1), .val (.int p2), .val (.int p3), .val (.ref b50), .val (.ref b57), .val (.int (1 : Int32)), .val (.int (1 : Int32)), .val (.ref b225), .val (.ref b251), .val (.ref b284), .val (.ref b251)] [(.int (nar .char ((p2 &&& (255 : Int32)).toUInt32.toUInt16.toUInt32.toInt32))), (.int (nar .char ((p2 &&& (255 : Int32)).toUInt32.toUInt16.toUInt32.toInt32)))])) (fun _ q => own_ldC X321 hx hZ e321 c323 (j := (0 : Int32)) ⟨by decide, by decide⟩ (v := (.int (nar .char ((p2 &&& (255 : Int32)).toUInt32.toUInt16.toUInt32.toInt32)))) rfl (g := (mkF m 172 #[.val (.int p1), .val (.int p2), .val (.int p3), .val (.ref b50), .val (.ref b57), .val (.int (1 : Int32)), .val (.int (1 : Int32)), .val (.ref b225), .val (.ref b251), .val (.ref b284), .val (.ref b251)] [(.int (0 : Int32)), (.ref b57), (.int (nar .char ((p2 &&& (255 : Int32)).toUInt32.toUInt16.toUInt32.toInt32)))])) rfl rfl (hb hby at_172) _ q) ?_
      refine own_step (T' := T321) (g' := (mkF m 176 #[.val (.int p1), .val (.int p2), .val (.int p3), .val (.ref b50), .val (.ref b57), .val (.int (1 : Int32)), .val (.int (1 : Int32)), .val (.ref b225), .val (.ref b251), .val (.ref b284), .val (.ref b251)] [])) (fun _ q => XS.icmpNo X321.here hx rfl (hb hby at_173) rfl (XT.ii_ne_f rfl) q) ?_
      refine own_step (T' := T321) (g' := (mkF m 178 #[.val (.int p1), .val (.int p2), .val (.int p3), .val (.ref b50), .val (.ref b57), .val (.int (1 : Int32)), .val (.int (1 : Int32)), .val (.ref b225), .val (.ref b251), .val (.ref b284), .val (.ref b251)] [(.ref b251)])) (fun _ q => XS.aload X321.here hx rfl (hb hby at_176) rfl rfl q) ?_
      refine own_step (T' := T321) (g' := (mkF m 179 #[.val (.int p1), .val (.int p2), .val (.int p3), .val (.ref b50), .val (.ref b57), .val (.int (1 : Int32)), .val (.int (1 : Int32)), .val (.ref b225), .val (.ref b251), .val (.ref b284), .val (.ref b251)] [(.int (1 : Int32)), (.ref b251)])) (fun _ q => XS.iconst X321.here hx rfl (hb hby at_178) q) ?_
      refine own_callV (y := (⟨"java/lang/String", "charAt", "(I)C"⟩ : MethodName)) (z := (⟨"java/lang/String", "charAt", "(I)C"⟩ : MethodName)) (Q := fun v h' L => v = some (.int ((([(nar .char ((p2 &&& (255 : Int32)).toUInt32.toUInt16.toUInt32.toInt32)), (nar .char (((XT.ushr p2 (8 : Int32)) &&& (255 : Int32)).toUInt32.toUInt16.toUInt32.toInt32))] : List Int32)).getD 1 0)) ∧ L = [] ∧ h' = T309.heap) X321 hx hZ hown (w73 hw) (w74 hw) (notFace_of_selects (args := #[]) (mvT hZ (w76 hw))) (w76 hw) (w75 hw) (by decide) (StrChars.Road.chN (W := 0) hZ (own_wc hw) (kI := 4) (w2 hw) c314 c315 c316 c317 hcd282 (own_up _ hp268) (O2.ext c318.2) P5 (O4.ext c318.2) rG3 (Nat.le_of_ble_eq_true rfl) (i := 1) (Nat.le_of_ble_eq_true rfl) (j := (1 : Int32)) rfl (by decide) (by decide)) e321 c314  (by first | decide | (dsimp only; omega)) (by first | decide | (dsimp only; omega)) (g := (mkF m 179 #[.val (.int p1), .val (.int p2), .val (.int p3), .val (.ref b50), .val (.ref b57), .val (.int (1 : Int32)), .val (.int (1 : Int32)), .val (.ref b225), .val (.ref b251), .val (.ref b284), .val (.ref b251)] [(.int (1 : Int32)), (.ref b251)])) (argsL := [(.int (1 : Int32))]) (rest := []) rfl (by rw [hml]; rfl) (lenOf pd_5 rfl) rfl rfl (by show 2 * 0 + _ ≤ _; exact Nat.le_of_eq rfl) (hb hby at_179) ?_
      rintro _ T324 L324 X324 ⟨rfl, rfl, e324⟩
      have N324q := Fr.nil n0
      have N325 := Fr.app N322 N324q
      show own_Fin p e below _ T324 (mkF m 182 #[.val (.int p1), .val (.int p2), .val (.int p3), .val (.ref b50), .val (.ref b57), .val (.int (1 : Int32)), .val (.int (1 : Int32)), .val (.ref b225), .val (.ref b251), .val (.ref b284), .val (.ref b251)] [(.int (nar .char (((XT.ushr p2 (8 : Int32)) &&& (255 : Int32)).toUInt32.toUInt16.toUInt32.toInt32)))])
      refine own_step (T' := T324) (g' := (mkF m 184 #[.val (.int p1), .val (.int p2), .val (.int p3), .val (.ref b50), .val (.ref b57), .val (.int (1 : Int32)), .val (.int (1 : Int32)), .val (.ref b225), .val (.ref b251), .val (.ref b284), .val (.ref b251)] [(.ref b57), (.int (nar .char (((XT.ushr p2 (8 : Int32)) &&& (255 : Int32)).toUInt32.toUInt16.toUInt32.toInt32)))])) (fun _ q => XS.aload X324.here hx rfl (hb hby at_182) rfl rfl q) ?_
      refine own_step (T' := T324) (g' := (mkF m 185 #[.val (.int p1), .val (.int p2), .val (.int p3), .val (.ref b50), .val (.ref b57), .val (.int (1 : Int32)), .val (.int (1 : Int32)), .val (.ref b225), .val (.ref b251), .val (.ref b284), .val (.ref b251)] [(.int (1 : Int32)), (.ref b57), (.int (nar .char (((XT.ushr p2 (8 : Int32)) &&& (255 : Int32)).toUInt32.toUInt16.toUInt32.toInt32)))])) (fun _ q => XS.iconst X324.here hx rfl (hb hby at_184) q) ?_
      refine own_step (T' := T324) (g' := (mkF m 186 #[.val (.int p1), .val (.int p2), .val (.int p3), .val (.ref b50), .val (.ref b57), .val (.int (1 : Int32)), .val (.int (1 : Int32)), .val (.ref b225), .val (.ref b251), .val (.ref b284), .val (.ref b251)] [(.int (nar .char (((XT.ushr p2 (8 : Int32)) &&& (255 : Int32)).toUInt32.toUInt16.toUInt32.toInt32))), (.int (nar .char (((XT.ushr p2 (8 : Int32)) &&& (255 : Int32)).toUInt32.toUInt16.toUInt32.toInt32)))])) (fun _ q => own_ldC X324 hx hZ e324 c323 (j := (1 : Int32)) ⟨by decide, by decide⟩ (v := (.int (nar .char (((XT.ushr p2 (8 : Int32)) &&& (255 : Int32)).toUInt32.toUInt16.toUInt32.toInt32)))) rfl (g := (mkF m 185 #[.val (.int p1), .val (.int p2), .val (.int p3), .val (.ref b50), .val (.ref b57), .val (.int (1 : Int32)), .val (.int (1 : Int32)), .val (.ref b225), .val (.ref b251), .val (.ref b284), .val (.ref b251)] [(.int (1 : Int32)), (.ref b57), (.int (nar .char (((XT.ushr p2 (8 : Int32)) &&& (255 : Int32)).toUInt32.toUInt16.toUInt32.toInt32)))])) rfl rfl (hb hby at_185) _ q) ?_
      refine own_step (T' := T324) (g' := (mkF m 189 #[.val (.int p1), .val (.int p2), .val (.int p3), .val (.ref b50), .val (.ref b57), .val (.int (1 : Int32)), .val (.int (1 : Int32)), .val (.ref b225), .val (.ref b251), .val (.ref b284), .val (.ref b251)] [])) (fun _ q => XS.icmpNo X324.here hx rfl (hb hby at_186) rfl (XT.ii_ne_f rfl) q) ?_
      refine own_step (T' := T324) (g' := (mkF m 190 #[.val (.int p1), .val (.int p2), .val (.int p3), .val (.ref b50), .val (.ref b57), .val (.int (1 : Int32)), .val (.int (1 : Int32)), .val (.ref b225), .val (.ref b251), .val (.ref b284), .val (.ref b251)] [(.int (1 : Int32))])) (fun _ q => XS.iconst X324.here hx rfl (hb hby at_189) q) ?_
      refine own_step (T' := T324) (g' := (mkF m 194 #[.val (.int p1), .val (.int p2), .val (.int p3), .val (.ref b50), .val (.ref b57), .val (.int (1 : Int32)), .val (.int (1 : Int32)), .val (.ref b225), .val (.ref b251), .val (.ref b284), .val (.ref b251)] [(.int (1 : Int32))])) (fun _ q => XS.goto X324.here hx rfl (pc0 := 190) (pc' := 194) rfl (hb hby at_190) (by decide) (by decide) q) ?_
      have c326 := ((c287.ext E284).trans K309 (allS (Or.inr sz0_288) all0))
      exact own_retN X324 hx Bd.returns (by simp) (hb hby at_194) hlk (by rw [e324]; exact ⟨rfl, N325, c326⟩) (by first | decide | (dsimp only; omega)) (by first | decide | (dsimp only; omega))
set_option maxRecDepth 65536 in
set_option maxHeartbeats 40000000 in
theorem comes_1 {Post : Tables → Env → Array Value → State → Outcome → State → Prop} (hpost : ∀ tb e args s v u, (limb_1_1.after args s (.returned v) u = true ∧ limb_1_2.after args s (.returned v) u = true ∧ True) → FrameEnd s (.returned v) u (Jvm.fieldLocs frame_1_writes args s ++ Jvm.arrayLocs frame_1_arrays args s ++ Jvm.staticLocs frame_1_statics s) 24 128 → Post tb e args s (.returned v) u) :
    ArmFor flags0 classFile x code maxLocals ret World_1 tables_1 room_1 Calls_1 rest_1 Pre_1 Post := by
  intro l hfl _ _ p e ha hc hk s m args below hf hA hF happ hP
  obtain ⟨hcalls, hrest, hpre⟩ := hP
  obtain ⟨-, -, -, hnamed, -, -, -, hat⟩ := (Spec.applies_iff hf).mp happ
  obtain ⟨hg, hn⟩ := and_e (Cond.before_iff.mp (show (Jvm.Cond.and given_1 narrow_1).before args s = true from hpre))
  obtain ⟨hcnt, r0⟩ := and_e hg
  obtain ⟨q0, r1⟩ := and_e r0
  obtain ⟨q1, r2⟩ := and_e r1
  have q2 := r2
  obtain ⟨u0, u1, u2, rfl⟩ : ∃ u0 u1 u2 : Value, args = #[u0, u1, u2] := by
    have hs : args.size = 3 := by simpa [Cond.value, given_1] using hcnt
    obtain ⟨L⟩ := args
    match L, hs with
    | [u0, u1, u2], _ => exact ⟨u0, u1, u2, rfl⟩
  have hw := fun d (hd : d ∈ tables_1) => atoms_spec (ws := Jvm.Cond.code x code maxLocals ret :: tables_1) hat d (List.mem_cons_of_mem _ hd)
  obtain ⟨hsets, hown0⟩ := atoms_of _ (rest_1_c_eq ▸ (show rest_1_c.before _ s = true from hrest))
  have n3 := not_v (Cond.before_iff.mp (hsets _ (List.mem_of_getElem? (i := 2) rfl)))
  obtain ⟨G1, eG1⟩ := is_v (Cond.before_iff.mp (hsets _ (List.mem_of_getElem? (i := 1) rfl)))
  have S8 : Sta s s.heap "java/lang/String" "COMPACT_STRINGS" "Z" (.int G1) := Sta.start eG1 (Or.inl (hsets _ (List.mem_of_getElem? (i := 0) rfl)))
  obtain ⟨G3, eG3, rG3⟩ := isR_v (Cond.before_iff.mp (hsets _ (List.mem_of_getElem? (i := 8) rfl)))
  have S12 : Sta s s.heap "jdk/internal/util/Preconditions" "SIOOBE_FORMATTER" "Ljava/util/function/BiFunction;" G3 := Sta.start eG3 (Or.inl (hsets _ (List.mem_of_getElem? (i := 7) rfl)))
  have c13 : ¬ (G1 = (0 : Int32)) := gotF (Cond.eq_ints eG1 (Term.int_eval (0))) n3
  obtain ⟨i0, ei0⟩ := is_v q0
  obtain rfl : u0 = (.int i0) := Option.some.inj ei0
  obtain ⟨i1, ei1⟩ := is_v q1
  obtain rfl : u1 = (.int i1) := Option.some.inj ei1
  obtain ⟨i2, ei2⟩ := is_v q2
  obtain rfl : u2 = (.int i2) := Option.some.inj ei2
  obtain ⟨n, o, h1, h2, h3, _, L, rfl, ⟨rfl, N, -⟩, hq⟩ := own_law l s _ hw tables_1 G1 G3 i0 i1 i2 s.heap s.heap.size (Nat.le_refl _) S8 S12 c13 rG3 (Old.start s) p e ha hc hk s m _ below hf ((Spec.applies_iff_loose hf).mp happ).1 ⟨rfl, State.Warmed39.refl s, rfl⟩ trivial
  refine ⟨n, _, h1, h2, h3, hpost _ _ _ _ _ _ ⟨Cond.after_iff.mpr rfl, Cond.after_iff.mpr (eq_i res_at (Term.int_eval (1)) rfl), trivial⟩ ⟨hq.1, hq.2.1, (hq.2.2.sift fun y hy => Or.inr (N y hy)).mono (by decide) (by decide)⟩⟩
theorem main_1_1 : Claimed_1_1 := comes_1 fun _ _ _ _ _ _ h hF => ⟨h.1, hF⟩
theorem main_1_2 : Claimed_1_2 := comes_1 fun _ _ _ _ _ _ h hF => ⟨h.2.1, hF⟩
end Jvm.Pilot.@@N@@
namespace Jvm.Pilot.@@N@@
open Jvm Jvm.ClassFile Sem Op Lib Jvm.Free Jvm.Stand Jvm.Pilot.@@N@@.Jvm.D
/-! MADE BY PROGRAM (witnessworld.py) out of the Statement's table words and the real class files: 21 classes; the members and pool entries that the words name. The judged class is class 1, her method 1. -/
namespace start1
open Jvm.ClassFile
def u (s : String) : CpInfo := .utf8 (stringToUtf16 s)
/-- a pool by its gaps: so many unusable entries, then the entry; so many at the end -/
def gap : Nat → List CpInfo → List CpInfo
  | 0, r => r
  | n + 1, r => .unusable :: gap n r
def poolList (es : List (Nat × CpInfo)) (last : Nat) : List CpInfo := es.foldr (fun e r => gap e.1 (e.2 :: r)) (gap last [])
def pool (es : List (Nat × CpInfo)) (last : Nat) : Array CpInfo := ⟨poolList es last⟩
def fileOf (pool : Array CpInfo) (this : Nat) (attrs : Array Attribute := #[]) (ms : Array MethodInfo := #[]) (fl : Nat := 33) (sup : Nat := 0) (ifs : Array Nat := #[]) (fds : Array FieldInfo := #[]) : ClassFile where
  minorVersion := 0
  majorVersion := 65
  constantPool := pool
  accessFlags := fl
  thisClass := this
  superClass := sup
  interfaces := ifs
  fields := fds
  methods := ms
  attributes := attrs
def plain (name : String) (sup : Option ClassId) : Class where
  name := name
  kind := .ordinary
  loader := none
  accessFlags := 33
  super := sup
  interfaces := #[]
  cf := none
  fields := #[]
  methods := #[]
  instanceTypes := #[]
  staticTypes := #[]
  resolved := #[]
  callSites := []
  init := .initialized
  statics := none
  mirror := none

def pool0 : Array CpInfo := pool [(5, u "<init>"), (0, u "()V"), (1, .class_ 10), (1, u "java/lang/Object")] 113

def k0c0 : Code := { maxStack := 0, maxLocals := 1, code := object_method_1_code, exceptionTable := #[], attributes := #[] }
def k0m0 : Method := { name := "<init>", desc := "()V", sig := { parameters := [], returnType := none }, accessFlags := 1, code := some k0c0 }
/-- java/lang/Object -/
def k0 : Class := { plain "java/lang/Object" none with
  accessFlags := 33
  interfaces := #[]
  cf := some (fileOf pool0 8 #[] #[{ accessFlags := 1, nameIndex := 5, descriptorIndex := 6, attributes := #[] }] 33 0 #[] #[])
  fields := #[]
  methods := #[k0m0]
  instanceTypes := #[]
  staticTypes := #[]
  resolved := Array.replicate 124 none
  statics := none }

def pool1 : Array CpInfo := pool [(2, .class_ 4), (1, u "java/lang/Object"), (0, u "<init>"), (0, u "()V"), (0, .class_ 8), (0, u "java/lang/String"), (0, .methodref 7 10), (0, .nameAndType 5 11), (0, u "([C)V"), (0, .class_ 13), (0, u "com/example/nameid/nameid/saml/ServiceProvider"), (0, .methodref 12 15), (0, .nameAndType 5 16), (0, u "(Ljava/lang/String;Ljava/lang/String;Ljava/util/List;Ljava/util/List;Ljava/util/List;Ljava/util/List;Ljava/util/List;Ljava/util/List;)V"), (0, .methodref 12 18), (0, .nameAndType 19 20), (0, u "name"), (0, u "()Ljava/lang/String;"), (0, .methodref 7 22), (0, .nameAndType 23 24), (0, u "length"), (0, u "()I"), (0, .methodref 7 26), (0, .nameAndType 27 28), (0, u "charAt"), (0, u "(I)C"), (0, .class_ 30), (0, u "com/example/nameid/nameid/saml/ServiceProviderNamePinLaw"), (2, u "law"), (0, u "(III)Z")] 5

def k1m0 : Method := { name := "<init>", desc := "()V", sig := { parameters := [], returnType := none }, accessFlags := 1, code := none }
def k1c1 : Code := { maxStack := 10, maxLocals := 11, code := code, exceptionTable := #[], attributes := #[] }
def k1m1 : Method := { name := "law", desc := "(III)Z", sig := { parameters := [.int, .int, .int], returnType := some .boolean }, accessFlags := 9, code := some k1c1 }
/-- com/example/nameid/nameid/saml/ServiceProviderNamePinLaw -/
def k1 : Class := { plain "com/example/nameid/nameid/saml/ServiceProviderNamePinLaw" (some 0) with
  accessFlags := 49
  interfaces := #[]
  cf := some (fileOf pool1 29 #[] #[{ accessFlags := 1, nameIndex := 5, descriptorIndex := 6, attributes := #[] }, { accessFlags := 9, nameIndex := 33, descriptorIndex := 34, attributes := #[] }] 49 2 #[] #[])
  fields := #[]
  methods := #[k1m0, k1m1]
  instanceTypes := #[]
  staticTypes := #[]
  resolved := Array.replicate 40 none
  statics := none }

def pool2 : Array CpInfo := pool [(1, .class_ 2), (0, u "java/io/Serializable"), (0, .class_ 4), (0, u "java/lang/Object")] 2

/-- java/io/Serializable -/
def k2 : Class := { plain "java/io/Serializable" (some 0) with
  accessFlags := 1537
  interfaces := #[]
  cf := some (fileOf pool2 1 #[] #[] 1537 3 #[] #[])
  fields := #[]
  methods := #[]
  instanceTypes := #[]
  staticTypes := #[]
  resolved := Array.replicate 7 none
  statics := none }

def pool3 : Array CpInfo := pool [(1, .class_ 2), (0, u "java/lang/Comparable"), (0, .class_ 4), (0, u "java/lang/Object")] 7

/-- java/lang/Comparable -/
def k3 : Class := { plain "java/lang/Comparable" (some 0) with
  accessFlags := 1537
  interfaces := #[]
  cf := some (fileOf pool3 1 #[] #[] 1537 3 #[] #[])
  fields := #[]
  methods := #[]
  instanceTypes := #[]
  staticTypes := #[]
  resolved := Array.replicate 12 none
  statics := none }

def pool4 : Array CpInfo := pool [(2, .class_ 4), (1, u "java/lang/CharSequence"), (42, .class_ 48), (0, u "java/lang/CharSequence$1CodePointIterator"), (10, .class_ 60), (0, u "java/lang/CharSequence$1CharIterator"), (5, .class_ 67), (0, u "java/lang/Object")] 63

/-- java/lang/CharSequence -/
def k4 : Class := { plain "java/lang/CharSequence" (some 0) with
  accessFlags := 1537
  interfaces := #[]
  cf := some (fileOf pool4 2 #[.nestMembers #[47, 59]] #[] 1537 66 #[] #[])
  fields := #[]
  methods := #[]
  instanceTypes := #[]
  staticTypes := #[]
  resolved := Array.replicate 131 none
  statics := none }

def pool5 : Array CpInfo := pool [(1, .class_ 2), (0, u "java/lang/constant/Constable"), (0, .class_ 4), (0, u "java/lang/Object")] 6

/-- java/lang/constant/Constable -/
def k5 : Class := { plain "java/lang/constant/Constable" (some 0) with
  accessFlags := 1537
  interfaces := #[]
  cf := some (fileOf pool5 1 #[] #[] 1537 3 #[] #[])
  fields := #[]
  methods := #[]
  instanceTypes := #[]
  staticTypes := #[]
  resolved := Array.replicate 11 none
  statics := none }

def pool6 : Array CpInfo := pool [(1, .class_ 2), (0, u "java/lang/constant/ConstantDesc"), (0, .class_ 4), (0, u "java/lang/Object")] 32

/-- java/lang/constant/ConstantDesc -/
def k6 : Class := { plain "java/lang/constant/ConstantDesc" (some 0) with
  accessFlags := 1537
  interfaces := #[]
  cf := some (fileOf pool6 1 #[] #[] 1537 3 #[] #[])
  fields := #[]
  methods := #[]
  instanceTypes := #[]
  staticTypes := #[]
  resolved := Array.replicate 37 none
  statics := none }

def pool7 : Array CpInfo := pool [(1, .methodref 2 3), (0, .class_ 4), (0, .nameAndType 5 6), (0, u "java/lang/Object"), (0, u "<init>"), (0, u "()V"), (2, .fieldref 10 11), (0, .class_ 12), (0, .nameAndType 13 14), (0, u "java/lang/String"), (0, u "value"), (0, u "[B"), (0, .fieldref 10 16), (0, .nameAndType 17 18), (0, u "coder"), (0, u "B"), (2, u "hash"), (0, u "I"), (2, u "hashIsZero"), (0, u "Z"), (0, .methodref 10 28), (0, .nameAndType 5 29), (0, u "([CIILjava/lang/Void;)V"), (8, .fieldref 10 39), (0, .nameAndType 40 26), (0, u "COMPACT_STRINGS"), (1, .class_ 44), (1, u "java/lang/StringUTF16"), (0, u "compress"), (1, .methodref 42 48), (0, .nameAndType 49 50), (0, u "coderFromArrayLen"), (0, u "([BI)B"), (56, .class_ 109), (1, u "java/lang/StringLatin1"), (32, u "()Z"), (34, .methodref 42 178), (0, .nameAndType 45 179), (0, u "([CII)[B"), (154, u "()I"), (0, .methodref 10 336), (0, .nameAndType 17 337), (0, u "()B"), (25, u "([BI)C"), (27, u "(II)V"), (35, u "(I)C"), (64, .methodref 10 493), (0, .nameAndType 494 142), (0, u "isLatin1"), (0, .methodref 107 496), (0, .nameAndType 497 363), (0, u "charAt"), (3, u "checkIndex"), (5, u "length"), (67, .class_ 576), (0, u "java/lang/CharSequence"), (22, u "CASE_INSENSITIVE_ORDER"), (0, u "Ljava/util/Comparator;"), (409, u "([C)V"), (42, .fieldref 1054 1055), (0, .class_ 1056), (0, .nameAndType 1057 1058), (0, u "jdk/internal/util/Preconditions"), (0, u "SIOOBE_FORMATTER"), (0, u "Ljava/util/function/BiFunction;"), (0, .methodref 1054 1060), (0, .nameAndType 501 1061), (0, u "(IILjava/util/function/BiFunction;)I"), (39, u "serialPersistentFields"), (0, u "[Ljava/io/ObjectStreamField;"), (0, .class_ 1104), (0, u "java/lang/String$CaseInsensitiveComparator"), (1, .class_ 1107), (0, u "java/io/Serializable"), (0, .class_ 1109), (0, u "java/lang/Comparable"), (0, .class_ 1111), (0, u "java/lang/constant/Constable"), (0, .class_ 1113), (0, u "java/lang/constant/ConstantDesc"), (2, u "serialVersionUID"), (0, u "J"), (3, u "REPL"), (0, u "C"), (2, u "LATIN1"), (1, u "UTF16")] 323

def k7m0 : Method := { name := "<init>", desc := "()V", sig := { parameters := [], returnType := none }, accessFlags := 1, code := none }
def k7c1 : Code := { maxStack := 5, maxLocals := 2, code := jdk_42_method_3_code, exceptionTable := #[], attributes := #[] }
def k7m1 : Method := { name := "<init>", desc := "([C)V", sig := { parameters := [(.array .char)], returnType := none }, accessFlags := 1, code := some k7c1 }
def k7c2 : Code := { maxStack := 2, maxLocals := 1, code := jdk_42_method_54_code, exceptionTable := #[], attributes := #[] }
def k7m2 : Method := { name := "length", desc := "()I", sig := { parameters := [], returnType := some .int }, accessFlags := 1, code := some k7c2 }
def k7c3 : Code := { maxStack := 2, maxLocals := 2, code := jdk_42_method_56_code, exceptionTable := #[], attributes := #[] }
def k7m3 : Method := { name := "charAt", desc := "(I)C", sig := { parameters := [.int], returnType := some .char }, accessFlags := 1, code := some k7c3 }
def k7c4 : Code := { maxStack := 4, maxLocals := 6, code := jdk_42_method_149_code, exceptionTable := #[], attributes := #[] }
def k7m4 : Method := { name := "<init>", desc := "([CIILjava/lang/Void;)V", sig := { parameters := [(.array .char), .int, .int, (.object "java/lang/Void")], returnType := none }, accessFlags := 2, code := some k7c4 }
def k7c5 : Code := { maxStack := 1, maxLocals := 1, code := jdk_42_method_152_code, exceptionTable := #[], attributes := #[] }
def k7m5 : Method := { name := "coder", desc := "()B", sig := { parameters := [], returnType := some .byte }, accessFlags := 0, code := some k7c5 }
def k7c6 : Code := { maxStack := 1, maxLocals := 1, code := jdk_42_method_154_code, exceptionTable := #[], attributes := #[] }
def k7m6 : Method := { name := "isLatin1", desc := "()Z", sig := { parameters := [], returnType := some .boolean }, accessFlags := 0, code := some k7c6 }
def k7c7 : Code := { maxStack := 3, maxLocals := 2, code := jdk_42_method_155_code, exceptionTable := #[], attributes := #[] }
def k7m7 : Method := { name := "checkIndex", desc := "(II)V", sig := { parameters := [.int, .int], returnType := none }, accessFlags := 8, code := some k7c7 }
/-- java/lang/String -/
def k7 : Class := { plain "java/lang/String" (some 0) with
  accessFlags := 49
  interfaces := #[2, 3, 4, 5, 6]
  cf := some (fileOf pool7 10 #[.nestMembers #[1103]] #[{ accessFlags := 1, nameIndex := 5, descriptorIndex := 6, attributes := #[] }, { accessFlags := 1, nameIndex := 5, descriptorIndex := 1010, attributes := #[] }, { accessFlags := 1, nameIndex := 507, descriptorIndex := 334, attributes := #[] }, { accessFlags := 1, nameIndex := 497, descriptorIndex := 427, attributes := #[] }, { accessFlags := 2, nameIndex := 5, descriptorIndex := 29, attributes := #[] }, { accessFlags := 0, nameIndex := 17, descriptorIndex := 337, attributes := #[] }, { accessFlags := 0, nameIndex := 494, descriptorIndex := 142, attributes := #[] }, { accessFlags := 8, nameIndex := 501, descriptorIndex := 391, attributes := #[] }] 49 2 #[1106, 1108, 575, 1110, 1112] #[{ accessFlags := 18, nameIndex := 13, descriptorIndex := 14, attributes := #[] }, { accessFlags := 18, nameIndex := 17, descriptorIndex := 18, attributes := #[] }, { accessFlags := 2, nameIndex := 21, descriptorIndex := 22, attributes := #[] }, { accessFlags := 2, nameIndex := 25, descriptorIndex := 26, attributes := #[] }, { accessFlags := 26, nameIndex := 1116, descriptorIndex := 1117, attributes := #[] }, { accessFlags := 24, nameIndex := 40, descriptorIndex := 26, attributes := #[] }, { accessFlags := 26, nameIndex := 1101, descriptorIndex := 1102, attributes := #[] }, { accessFlags := 26, nameIndex := 1121, descriptorIndex := 1122, attributes := #[] }, { accessFlags := 25, nameIndex := 599, descriptorIndex := 600, attributes := #[] }, { accessFlags := 24, nameIndex := 1125, descriptorIndex := 18, attributes := #[] }, { accessFlags := 24, nameIndex := 1127, descriptorIndex := 18, attributes := #[] }])
  fields := #[{ name := "value", type := (.array .byte), accessFlags := 18, slot := 0, constantValue := 0 }, { name := "coder", type := .byte, accessFlags := 18, slot := 1, constantValue := 0 }, { name := "hash", type := .int, accessFlags := 2, slot := 2, constantValue := 0 }, { name := "hashIsZero", type := .boolean, accessFlags := 2, slot := 3, constantValue := 0 }, { name := "serialVersionUID", type := .long, accessFlags := 26, slot := 0, constantValue := 0 }, { name := "COMPACT_STRINGS", type := .boolean, accessFlags := 24, slot := 1, constantValue := 0 }, { name := "serialPersistentFields", type := (.array (.object "java/io/ObjectStreamField")), accessFlags := 26, slot := 2, constantValue := 0 }, { name := "REPL", type := .char, accessFlags := 26, slot := 3, constantValue := 0 }, { name := "CASE_INSENSITIVE_ORDER", type := (.object "java/util/Comparator"), accessFlags := 25, slot := 4, constantValue := 0 }, { name := "LATIN1", type := .byte, accessFlags := 24, slot := 5, constantValue := 0 }, { name := "UTF16", type := .byte, accessFlags := 24, slot := 6, constantValue := 0 }]
  methods := #[k7m0, k7m1, k7m2, k7m3, k7m4, k7m5, k7m6, k7m7]
  instanceTypes := #[(.array .byte), .byte, .int, .boolean]
  staticTypes := #[.long, .boolean, (.array (.object "java/io/ObjectStreamField")), .char, (.object "java/util/Comparator"), .byte, .byte]
  resolved := Array.replicate 1451 none
  statics := some 0 }

def pool8 : Array CpInfo := pool [(6, .class_ 8), (1, u "java/lang/Object"), (0, u "<init>"), (0, u "()V"), (1, .class_ 14), (1, u "java/lang/StringUTF16"), (31, u "$assertionsDisabled"), (0, u "Z"), (13, u "HI_BYTE_SHIFT"), (0, u "I"), (2, u "LO_BYTE_SHIFT"), (49, .methodref 12 116), (0, .nameAndType 117 118), (0, u "compress"), (0, u "([CI[BII)I"), (3, u "([CII)[B"), (138, u "coderFromArrayLen"), (0, u "([BI)B"), (106, .class_ 371), (1, u "java/lang/StringUTF16$LinesSpliterator"), (58, u "MAX_LENGTH"), (196, .class_ 628), (0, u "java/lang/StringUTF16$CodePointsSpliterator"), (0, .class_ 630), (0, u "java/lang/StringUTF16$CharsSpliterator")] 4

def k8m0 : Method := { name := "<init>", desc := "()V", sig := { parameters := [], returnType := none }, accessFlags := 0, code := none }
def k8c1 : Code := { maxStack := 2, maxLocals := 2, code := jdk_52_method_15_code, exceptionTable := #[], attributes := #[] }
def k8m1 : Method := { name := "coderFromArrayLen", desc := "([BI)B", sig := { parameters := [(.array .byte), .int], returnType := some .byte }, accessFlags := 8, code := some k8c1 }
def k8c2 : Code := { maxStack := 5, maxLocals := 6, code := jdk_52_method_16_code, exceptionTable := #[], attributes := #[] }
def k8m2 : Method := { name := "compress", desc := "([CII)[B", sig := { parameters := [(.array .char), .int, .int], returnType := some (.array .byte) }, accessFlags := 9, code := some k8c2 }
def k8c3 : Code := { maxStack := 3, maxLocals := 7, code := jdk_52_method_21_code, exceptionTable := #[], attributes := #[] }
def k8m3 : Method := { name := "compress", desc := "([CI[BII)I", sig := { parameters := [(.array .char), .int, (.array .byte), .int, .int], returnType := some .int }, accessFlags := 9, code := some k8c3 }
/-- java/lang/StringUTF16 -/
def k8 : Class := { plain "java/lang/StringUTF16" (some 0) with
  accessFlags := 48
  interfaces := #[]
  cf := some (fileOf pool8 12 #[.nestMembers #[627, 629, 369]] #[{ accessFlags := 0, nameIndex := 9, descriptorIndex := 10, attributes := #[] }, { accessFlags := 8, nameIndex := 261, descriptorIndex := 262, attributes := #[] }, { accessFlags := 9, nameIndex := 117, descriptorIndex := 122, attributes := #[] }, { accessFlags := 9, nameIndex := 117, descriptorIndex := 118, attributes := #[] }] 48 6 #[] #[{ accessFlags := 26, nameIndex := 61, descriptorIndex := 62, attributes := #[] }, { accessFlags := 26, nameIndex := 65, descriptorIndex := 62, attributes := #[] }, { accessFlags := 24, nameIndex := 430, descriptorIndex := 62, attributes := #[] }, { accessFlags := 4120, nameIndex := 46, descriptorIndex := 47, attributes := #[] }])
  fields := #[{ name := "HI_BYTE_SHIFT", type := .int, accessFlags := 26, slot := 0, constantValue := 0 }, { name := "LO_BYTE_SHIFT", type := .int, accessFlags := 26, slot := 1, constantValue := 0 }, { name := "MAX_LENGTH", type := .int, accessFlags := 24, slot := 2, constantValue := 0 }, { name := "$assertionsDisabled", type := .boolean, accessFlags := 4120, slot := 3, constantValue := 0 }]
  methods := #[k8m0, k8m1, k8m2, k8m3]
  instanceTypes := #[]
  staticTypes := #[.int, .int, .int, .boolean]
  resolved := Array.replicate 635 none
  statics := none }

def pool9 : Array CpInfo := pool [(1, .methodref 2 3), (0, .class_ 4), (0, .nameAndType 5 6), (0, u "java/lang/Object"), (0, u "<init>"), (0, u "()V"), (0, .class_ 8), (0, u "java/lang/Record")] 13

def k9c0 : Code := { maxStack := 1, maxLocals := 1, code := jdk_30_method_1_code, exceptionTable := #[], attributes := #[] }
def k9m0 : Method := { name := "<init>", desc := "()V", sig := { parameters := [], returnType := none }, accessFlags := 4, code := some k9c0 }
/-- java/lang/Record -/
def k9 : Class := { plain "java/lang/Record" (some 0) with
  accessFlags := 1057
  interfaces := #[]
  cf := some (fileOf pool9 7 #[] #[{ accessFlags := 4, nameIndex := 5, descriptorIndex := 6, attributes := #[] }] 1057 2 #[] #[])
  fields := #[]
  methods := #[k9m0]
  instanceTypes := #[]
  staticTypes := #[]
  resolved := Array.replicate 22 none
  statics := none }

def pool10 : Array CpInfo := pool [(1, .methodref 2 3), (0, .class_ 4), (0, .nameAndType 5 6), (0, u "java/lang/Record"), (0, u "<init>"), (0, u "()V"), (0, .fieldref 8 9), (0, .class_ 10), (0, .nameAndType 11 12), (0, u "com/example/nameid/nameid/saml/ServiceProvider"), (0, u "entityId"), (0, u "Ljava/lang/String;"), (0, .fieldref 8 14), (0, .nameAndType 15 12), (0, u "displayName"), (0, .fieldref 8 17), (0, .nameAndType 18 19), (0, u "signingKeys"), (0, u "Ljava/util/List;"), (0, .fieldref 8 21), (0, .nameAndType 22 19), (0, u "encryptionKeys"), (0, .fieldref 8 24), (0, .nameAndType 25 19), (0, u "assertionConsumerServices"), (0, .fieldref 8 27), (0, .nameAndType 28 19), (0, u "singleLogoutServices"), (0, .fieldref 8 30), (0, .nameAndType 31 19), (0, u "nameIdFormats"), (0, .fieldref 8 33), (0, .nameAndType 34 19), (0, u "attributeConsumingServices"), (117, u "()Ljava/lang/String;"), (24, u "(Ljava/lang/String;Ljava/lang/String;Ljava/util/List;Ljava/util/List;Ljava/util/List;Ljava/util/List;Ljava/util/List;Ljava/util/List;)V"), (4, u "name")] 117

def k10c0 : Code := { maxStack := 2, maxLocals := 9, code := prog_50_method_1_code, exceptionTable := #[], attributes := #[] }
def k10m0 : Method := { name := "<init>", desc := "(Ljava/lang/String;Ljava/lang/String;Ljava/util/List;Ljava/util/List;Ljava/util/List;Ljava/util/List;Ljava/util/List;Ljava/util/List;)V", sig := { parameters := [(.object "java/lang/String"), (.object "java/lang/String"), (.object "java/util/List"), (.object "java/util/List"), (.object "java/util/List"), (.object "java/util/List"), (.object "java/util/List"), (.object "java/util/List")], returnType := none }, accessFlags := 1, code := some k10c0 }
def k10c1 : Code := { maxStack := 1, maxLocals := 1, code := prog_50_method_2_code, exceptionTable := #[], attributes := #[] }
def k10m1 : Method := { name := "name", desc := "()Ljava/lang/String;", sig := { parameters := [], returnType := some (.object "java/lang/String") }, accessFlags := 1, code := some k10c1 }
/-- com/example/nameid/nameid/saml/ServiceProvider -/
def k10 : Class := { plain "com/example/nameid/nameid/saml/ServiceProvider" (some 9) with
  accessFlags := 49
  interfaces := #[]
  cf := some (fileOf pool10 8 #[] #[{ accessFlags := 1, nameIndex := 5, descriptorIndex := 177, attributes := #[] }, { accessFlags := 1, nameIndex := 182, descriptorIndex := 152, attributes := #[] }] 49 2 #[] #[{ accessFlags := 18, nameIndex := 11, descriptorIndex := 12, attributes := #[] }, { accessFlags := 18, nameIndex := 15, descriptorIndex := 12, attributes := #[] }, { accessFlags := 18, nameIndex := 18, descriptorIndex := 19, attributes := #[] }, { accessFlags := 18, nameIndex := 22, descriptorIndex := 19, attributes := #[] }, { accessFlags := 18, nameIndex := 25, descriptorIndex := 19, attributes := #[] }, { accessFlags := 18, nameIndex := 28, descriptorIndex := 19, attributes := #[] }, { accessFlags := 18, nameIndex := 31, descriptorIndex := 19, attributes := #[] }, { accessFlags := 18, nameIndex := 34, descriptorIndex := 19, attributes := #[] }])
  fields := #[{ name := "entityId", type := (.object "java/lang/String"), accessFlags := 18, slot := 0, constantValue := 0 }, { name := "displayName", type := (.object "java/lang/String"), accessFlags := 18, slot := 1, constantValue := 0 }, { name := "signingKeys", type := (.object "java/util/List"), accessFlags := 18, slot := 2, constantValue := 0 }, { name := "encryptionKeys", type := (.object "java/util/List"), accessFlags := 18, slot := 3, constantValue := 0 }, { name := "assertionConsumerServices", type := (.object "java/util/List"), accessFlags := 18, slot := 4, constantValue := 0 }, { name := "singleLogoutServices", type := (.object "java/util/List"), accessFlags := 18, slot := 5, constantValue := 0 }, { name := "nameIdFormats", type := (.object "java/util/List"), accessFlags := 18, slot := 6, constantValue := 0 }, { name := "attributeConsumingServices", type := (.object "java/util/List"), accessFlags := 18, slot := 7, constantValue := 0 }]
  methods := #[k10m0, k10m1]
  instanceTypes := #[(.object "java/lang/String"), (.object "java/lang/String"), (.object "java/util/List"), (.object "java/util/List"), (.object "java/util/List"), (.object "java/util/List"), (.object "java/util/List"), (.object "java/util/List")]
  staticTypes := #[]
  resolved := Array.replicate 300 none
  statics := none }

def pool11 : Array CpInfo := pool [(1, .class_ 2), (0, u "java/lang/String"), (1, .class_ 6), (1, u "java/lang/Object"), (0, u "<init>"), (0, u "()V"), (0, .methodref 1 10), (0, .nameAndType 11 12), (0, u "checkIndex"), (0, u "(II)V"), (1, .class_ 16), (1, u "java/lang/StringLatin1"), (36, u "([BI)C"), (67, u "$assertionsDisabled"), (0, u "Z"), (98, .class_ 223), (1, u "java/lang/StringLatin1$LinesSpliterator"), (28, u "charAt"), (137, .class_ 391), (0, u "java/lang/StringLatin1$CharsSpliterator")] 3

def k11m0 : Method := { name := "<init>", desc := "()V", sig := { parameters := [], returnType := none }, accessFlags := 0, code := none }
def k11c1 : Code := { maxStack := 2, maxLocals := 2, code := jdk_43_method_2_code, exceptionTable := #[], attributes := #[] }
def k11m1 : Method := { name := "charAt", desc := "([BI)C", sig := { parameters := [(.array .byte), .int], returnType := some .char }, accessFlags := 9, code := some k11c1 }
/-- java/lang/StringLatin1 -/
def k11 : Class := { plain "java/lang/StringLatin1" (some 0) with
  accessFlags := 48
  interfaces := #[]
  cf := some (fileOf pool11 14 #[.nestMembers #[390, 221]] #[{ accessFlags := 0, nameIndex := 7, descriptorIndex := 8, attributes := #[] }, { accessFlags := 9, nameIndex := 252, descriptorIndex := 53, attributes := #[] }] 48 4 #[] #[{ accessFlags := 4120, nameIndex := 121, descriptorIndex := 122, attributes := #[] }])
  fields := #[{ name := "$assertionsDisabled", type := .boolean, accessFlags := 4120, slot := 0, constantValue := 0 }]
  methods := #[k11m0, k11m1]
  instanceTypes := #[]
  staticTypes := #[.boolean]
  resolved := Array.replicate 395 none
  statics := none }

def pool12 : Array CpInfo := pool [(2, .class_ 4), (1, u "java/lang/Object"), (0, u "<init>"), (0, u "()V"), (17, .class_ 26), (1, u "jdk/internal/util/Preconditions"), (6, u "checkIndex"), (21, .class_ 56), (0, u "jdk/internal/util/Preconditions$4"), (57, .class_ 115), (0, u "jdk/internal/util/Preconditions$1"), (7, u "SIOOBE_FORMATTER"), (0, u "Ljava/util/function/BiFunction;"), (0, .class_ 126), (0, u "jdk/internal/util/Preconditions$2"), (3, u "AIOOBE_FORMATTER"), (0, .class_ 132), (0, u "jdk/internal/util/Preconditions$3"), (3, u "IOOBE_FORMATTER"), (41, u "(IILjava/util/function/BiFunction;)I")] 15

def k12m0 : Method := { name := "<init>", desc := "()V", sig := { parameters := [], returnType := none }, accessFlags := 1, code := none }
def k12c1 : Code := { maxStack := 3, maxLocals := 3, code := jdk_41_method_11_code, exceptionTable := #[], attributes := #[] }
def k12m1 : Method := { name := "checkIndex", desc := "(IILjava/util/function/BiFunction;)I", sig := { parameters := [.int, .int, (.object "java/util/function/BiFunction")], returnType := some .int }, accessFlags := 9, code := some k12c1 }
/-- jdk/internal/util/Preconditions -/
def k12 : Class := { plain "jdk/internal/util/Preconditions" (some 0) with
  accessFlags := 33
  interfaces := #[]
  cf := some (fileOf pool12 24 #[.nestMembers #[55, 131, 125, 114]] #[{ accessFlags := 1, nameIndex := 5, descriptorIndex := 6, attributes := #[] }, { accessFlags := 9, nameIndex := 33, descriptorIndex := 178, attributes := #[] }] 33 2 #[] #[{ accessFlags := 25, nameIndex := 123, descriptorIndex := 124, attributes := #[] }, { accessFlags := 25, nameIndex := 130, descriptorIndex := 124, attributes := #[] }, { accessFlags := 25, nameIndex := 136, descriptorIndex := 124, attributes := #[] }])
  fields := #[{ name := "SIOOBE_FORMATTER", type := (.object "java/util/function/BiFunction"), accessFlags := 25, slot := 0, constantValue := 0 }, { name := "AIOOBE_FORMATTER", type := (.object "java/util/function/BiFunction"), accessFlags := 25, slot := 1, constantValue := 0 }, { name := "IOOBE_FORMATTER", type := (.object "java/util/function/BiFunction"), accessFlags := 25, slot := 2, constantValue := 0 }]
  methods := #[k12m0, k12m1]
  instanceTypes := #[]
  staticTypes := #[(.object "java/util/function/BiFunction"), (.object "java/util/function/BiFunction"), (.object "java/util/function/BiFunction")]
  resolved := Array.replicate 194 none
  statics := some 1 }

def pool13 : Array CpInfo := pool [(9, u "<init>"), (6, .class_ 18), (1, u "java/lang/Object"), (0, u "()V"), (1, .class_ 23), (1, u "jdk/internal/util/ArraysSupport"), (0, u "LOG2_ARRAY_LONG_INDEX_SCALE"), (0, u "I"), (2, u "U"), (0, u "Ljdk/internal/misc/Unsafe;"), (8, u "BIG_ENDIAN"), (0, u "Z"), (8, u "LOG2_BYTE_BIT_SIZE"), (4, u "LOG2_ARRAY_INT_INDEX_SCALE"), (54, u "JLA"), (0, u "Ljdk/internal/access/JavaLangAccess;"), (11, u "LOG2_ARRAY_BOOLEAN_INDEX_SCALE"), (9, u "LOG2_ARRAY_BYTE_INDEX_SCALE"), (5, u "LOG2_ARRAY_CHAR_INDEX_SCALE"), (5, u "LOG2_ARRAY_SHORT_INDEX_SCALE"), (18, u "LOG2_ARRAY_FLOAT_INDEX_SCALE"), (24, u "LOG2_ARRAY_DOUBLE_INDEX_SCALE"), (89, u "T_BOOLEAN"), (2, u "T_CHAR"), (1, u "T_FLOAT"), (1, u "T_DOUBLE"), (1, u "T_BYTE"), (1, u "T_SHORT"), (1, u "T_INT"), (1, u "T_LONG"), (1, u "SOFT_MAX_ARRAY_LENGTH")] 83

def k13m0 : Method := { name := "<init>", desc := "()V", sig := { parameters := [], returnType := none }, accessFlags := 2, code := none }
/-- jdk/internal/util/ArraysSupport -/
def k13 : Class := { plain "jdk/internal/util/ArraysSupport" (some 0) with
  accessFlags := 33
  interfaces := #[]
  cf := some (fileOf pool13 21 #[] #[{ accessFlags := 2, nameIndex := 9, descriptorIndex := 19, attributes := #[] }] 33 16 #[] #[{ accessFlags := 24, nameIndex := 28, descriptorIndex := 29, attributes := #[] }, { accessFlags := 26, nameIndex := 38, descriptorIndex := 39, attributes := #[] }, { accessFlags := 25, nameIndex := 121, descriptorIndex := 25, attributes := #[] }, { accessFlags := 25, nameIndex := 131, descriptorIndex := 25, attributes := #[] }, { accessFlags := 25, nameIndex := 137, descriptorIndex := 25, attributes := #[] }, { accessFlags := 25, nameIndex := 143, descriptorIndex := 25, attributes := #[] }, { accessFlags := 25, nameIndex := 53, descriptorIndex := 25, attributes := #[] }, { accessFlags := 25, nameIndex := 24, descriptorIndex := 25, attributes := #[] }, { accessFlags := 25, nameIndex := 162, descriptorIndex := 25, attributes := #[] }, { accessFlags := 25, nameIndex := 187, descriptorIndex := 25, attributes := #[] }, { accessFlags := 26, nameIndex := 48, descriptorIndex := 25, attributes := #[] }, { accessFlags := 25, nameIndex := 277, descriptorIndex := 25, attributes := #[] }, { accessFlags := 25, nameIndex := 280, descriptorIndex := 25, attributes := #[] }, { accessFlags := 25, nameIndex := 282, descriptorIndex := 25, attributes := #[] }, { accessFlags := 25, nameIndex := 284, descriptorIndex := 25, attributes := #[] }, { accessFlags := 25, nameIndex := 286, descriptorIndex := 25, attributes := #[] }, { accessFlags := 25, nameIndex := 288, descriptorIndex := 25, attributes := #[] }, { accessFlags := 25, nameIndex := 290, descriptorIndex := 25, attributes := #[] }, { accessFlags := 25, nameIndex := 292, descriptorIndex := 25, attributes := #[] }, { accessFlags := 26, nameIndex := 108, descriptorIndex := 109, attributes := #[] }, { accessFlags := 25, nameIndex := 294, descriptorIndex := 25, attributes := #[] }])
  fields := #[{ name := "U", type := (.object "jdk/internal/misc/Unsafe"), accessFlags := 24, slot := 0, constantValue := 0 }, { name := "BIG_ENDIAN", type := .boolean, accessFlags := 26, slot := 1, constantValue := 0 }, { name := "LOG2_ARRAY_BOOLEAN_INDEX_SCALE", type := .int, accessFlags := 25, slot := 2, constantValue := 0 }, { name := "LOG2_ARRAY_BYTE_INDEX_SCALE", type := .int, accessFlags := 25, slot := 3, constantValue := 0 }, { name := "LOG2_ARRAY_CHAR_INDEX_SCALE", type := .int, accessFlags := 25, slot := 4, constantValue := 0 }, { name := "LOG2_ARRAY_SHORT_INDEX_SCALE", type := .int, accessFlags := 25, slot := 5, constantValue := 0 }, { name := "LOG2_ARRAY_INT_INDEX_SCALE", type := .int, accessFlags := 25, slot := 6, constantValue := 0 }, { name := "LOG2_ARRAY_LONG_INDEX_SCALE", type := .int, accessFlags := 25, slot := 7, constantValue := 0 }, { name := "LOG2_ARRAY_FLOAT_INDEX_SCALE", type := .int, accessFlags := 25, slot := 8, constantValue := 0 }, { name := "LOG2_ARRAY_DOUBLE_INDEX_SCALE", type := .int, accessFlags := 25, slot := 9, constantValue := 0 }, { name := "LOG2_BYTE_BIT_SIZE", type := .int, accessFlags := 26, slot := 10, constantValue := 0 }, { name := "T_BOOLEAN", type := .int, accessFlags := 25, slot := 11, constantValue := 0 }, { name := "T_CHAR", type := .int, accessFlags := 25, slot := 12, constantValue := 0 }, { name := "T_FLOAT", type := .int, accessFlags := 25, slot := 13, constantValue := 0 }, { name := "T_DOUBLE", type := .int, accessFlags := 25, slot := 14, constantValue := 0 }, { name := "T_BYTE", type := .int, accessFlags := 25, slot := 15, constantValue := 0 }, { name := "T_SHORT", type := .int, accessFlags := 25, slot := 16, constantValue := 0 }, { name := "T_INT", type := .int, accessFlags := 25, slot := 17, constantValue := 0 }, { name := "T_LONG", type := .int, accessFlags := 25, slot := 18, constantValue := 0 }, { name := "JLA", type := (.object "jdk/internal/access/JavaLangAccess"), accessFlags := 26, slot := 19, constantValue := 0 }, { name := "SOFT_MAX_ARRAY_LENGTH", type := .int, accessFlags := 25, slot := 20, constantValue := 0 }]
  methods := #[k13m0]
  instanceTypes := #[]
  staticTypes := #[(.object "jdk/internal/misc/Unsafe"), .boolean, .int, .int, .int, .int, .int, .int, .int, .int, .int, .int, .int, .int, .int, .int, .int, .int, .int, (.object "jdk/internal/access/JavaLangAccess"), .int]
  resolved := Array.replicate 378 none
  statics := none }

def pool14 : Array CpInfo := pool [(1, u "java/lang/Cloneable"), (0, .class_ 1), (0, u "java/lang/Object"), (0, .class_ 3)] 3

/-- java/lang/Cloneable -/
def k14 : Class := { plain "java/lang/Cloneable" (some 0) with
  accessFlags := 1537
  interfaces := #[]
  cf := some (fileOf pool14 2 #[] #[] 1537 4 #[] #[])
  fields := #[]
  methods := #[]
  instanceTypes := #[]
  staticTypes := #[]
  resolved := Array.replicate 8 none
  statics := none }

/-- the primitive byte -/
def k15 : Class := { plain "byte" none with kind := .primitive 'B', accessFlags := 0x411 }
/-- [B -/
def k16 : Class := { plain "[B" (some 0) with kind := .array 15 .byte, interfaces := #[14, 2], accessFlags := 1041 }

/-- the primitive char -/
def k17 : Class := { plain "char" none with kind := .primitive 'C', accessFlags := 0x411 }
/-- [C -/
def k18 : Class := { plain "[C" (some 0) with kind := .array 17 .char, interfaces := #[14, 2], accessFlags := 1041 }

/-- the primitive int -/
def k19 : Class := { plain "int" none with kind := .primitive 'I', accessFlags := 0x411 }
/-- [I -/
def k20 : Class := { plain "[I" (some 0) with kind := .array 19 .int, interfaces := #[14, 2], accessFlags := 1041 }

def heap : Heap := #[{ cls := 7, slots := #[.long 0, .int 1, .null, .int 0, .null, .int 0, .int 0], vm := .statics 7 },
  { cls := 12, slots := #[.null, .null, .null], vm := .statics 12 }]
def classes : Array Class := #[k0, k1, k2, k3, k4, k5, k6, k7, k8, k9, k10, k11, k12, k13, k14, k15, k16, k17, k18, k19, k20]
def interned : List (Array UInt16 × Addr) := []
def slotsUsed : Nat := 10
def theMethod : MethodId := ⟨1, 1⟩
def args0 : Array Value := #[.int 5, .int 6, .int 3]
def aboutOver (below : List Frame) : State where
  vm := { classes := classes, interned := interned.toArray }
  heap := heap
  slotsUsed := slotsUsed
  threads := #[{ frames := .invoking theMethod args0 :: below }]
def below0 : List Frame := [.native { method := ⟨0, 0⟩, args := #[] }]
def about1 : State := aboutOver below0
def p0 : Program := .bare "" "" ""
def e0 : Env := launch0.env 0 0 0
theorem w_frames : about1.frames = Frame.invoking theMethod args0 :: below0 := rfl
set_option maxRecDepth 65536 in
theorem w_args : argsFit about1.vm theMethod args0 = true := by decide +kernel
set_option maxRecDepth 65536 in
theorem w_heap : heapFits about1 = true := by decide +kernel
set_option maxRecDepth 65536 in
theorem w_runnable : about1.curStatus? = some .runnable := by decide +kernel
set_option maxRecDepth 65536 in
theorem w_alone : about1.alone = true := by decide +kernel
set_option maxRecDepth 65536 in
theorem w_named : about1.methodNamed? x = some theMethod := by decide +kernel
set_option maxRecDepth 65536 in
theorem w_hears : about1.hears theMethod below0 = true := by decide +kernel
set_option maxRecDepth 65536 in
theorem w_ripe : about1.ripe theMethod args0 below0 = true := by decide +kernel
theorem w_running : about1.status = .running := rfl
set_option maxRecDepth 65536 in
theorem w_room : about1.hasRoom e0.platform room_1 = true :=
  launch0.hasRoom_least _ room_1 (by decide +kernel) (by decide +kernel) (by decide +kernel) (by decide +kernel) (by decide +kernel) (by decide +kernel)
theorem allAtoms_all (ts : List Jvm.Cond) (a : Array Jvm.Value) (st : Jvm.State) : (allAtoms ts).before a st = ts.all (fun c => c.before a st) := by
  induction ts with
  | nil => rfl
  | cons c t ih =>
    show (Jvm.Cond.and c (allAtoms t)).before a st = _
    rw [Jvm.Cond.before_and, ih, List.all_cons]
def words1 : List Jvm.Cond := Jvm.Cond.code x code maxLocals ret :: tables_1
/-- a 'code' word, met by the world's own term for the bytes: nothing is compared byte by byte -/
theorem code_word {y : MethodName} {bytes : ByteArray} {mx : Nat} {rt : Option FieldType} {a : Array Value} {s : State} {m : MethodId} {meth : Method} {c : Code} (h1 : s.methodNamed? y = some m) (h2 : s.vm.method? m = some meth) (h3 : meth.code = some c) (h4 : c.code = bytes)
    (h5 : (c.maxLocals == mx && c.exceptionTable.isEmpty && decide (c.maxStack ≤ mostOperands) && decide (meth.sig.returnType = rt) && !meth.locks && decide (parseMethodDescriptor y.desc = some meth.sig)) = true) : (Jvm.Cond.code y bytes mx rt).before a s = true := by
  simp only [Bool.and_eq_true, beq_iff_eq, Bool.not_eq_true', decide_eq_true_eq] at h5
  obtain ⟨⟨⟨⟨⟨g1, g2⟩, g3⟩, g4⟩, g5⟩, g6⟩ := h5
  simp [Cond.before, Cond.holds, Cond.value, h1, h2, h3, h4, g1, g2, g3, g4, g5, g6]
def isCode : Jvm.Cond → Bool
  | .code _ _ _ _ => true
  | _ => false
theorem all_split {L : List Jvm.Cond} {P : Jvm.Cond → Bool} (h1 : L.all (fun c => isCode c || P c) = true) (h2 : ∀ c ∈ L.filter isCode, P c = true) : L.all P = true := by
  refine List.all_eq_true.mpr fun c hc => ?_
  have h := List.all_eq_true.mp h1 c hc
  rcases Bool.eq_false_or_eq_true (isCode c) with hi | hi
  · exact h2 c (List.mem_filter.mpr ⟨hc, hi⟩)
  · simpa [hi] using h
set_option maxRecDepth 65536 in
theorem w_c0 : (Jvm.Cond.code x code maxLocals ret).before args0 about1 = true := code_word (m := ⟨1, 1⟩) (meth := k1m1) (c := k1c1) (by decide +kernel) rfl rfl rfl (by decide +kernel)
set_option maxRecDepth 65536 in
theorem w_c1 : (Jvm.Cond.code ({ cls := "java/lang/String", name := "<init>", desc := "([C)V" } : Jvm.MethodName) jdk_42_method_3_code (2 : Nat) (Option.none : Option Jvm.ClassFile.FieldType)).before args0 about1 = true := code_word (m := ⟨7, 1⟩) (meth := k7m1) (c := k7c1) (by decide +kernel) rfl rfl rfl (by decide +kernel)
set_option maxRecDepth 65536 in
theorem w_c2 : (Jvm.Cond.code ({ cls := "java/lang/String", name := "<init>", desc := "([CIILjava/lang/Void;)V" } : Jvm.MethodName) jdk_42_method_149_code (6 : Nat) (Option.none : Option Jvm.ClassFile.FieldType)).before args0 about1 = true := code_word (m := ⟨7, 4⟩) (meth := k7m4) (c := k7c4) (by decide +kernel) rfl rfl rfl (by decide +kernel)
set_option maxRecDepth 65536 in
theorem w_c3 : (Jvm.Cond.code ({ cls := "java/lang/Object", name := "<init>", desc := "()V" } : Jvm.MethodName) object_method_1_code (1 : Nat) (Option.none : Option Jvm.ClassFile.FieldType)).before args0 about1 = true := code_word (m := ⟨0, 0⟩) (meth := k0m0) (c := k0c0) (by decide +kernel) rfl rfl rfl (by decide +kernel)
set_option maxRecDepth 65536 in
theorem w_c4 : (Jvm.Cond.code ({ cls := "java/lang/StringUTF16", name := "compress", desc := "([CII)[B" } : Jvm.MethodName) jdk_52_method_16_code (6 : Nat) (Option.some (Jvm.ClassFile.FieldType.array Jvm.ClassFile.FieldType.byte))).before args0 about1 = true := code_word (m := ⟨8, 2⟩) (meth := k8m2) (c := k8c2) (by decide +kernel) rfl rfl rfl (by decide +kernel)
set_option maxRecDepth 65536 in
theorem w_c5 : (Jvm.Cond.code ({ cls := "java/lang/StringUTF16", name := "compress", desc := "([CI[BII)I" } : Jvm.MethodName) jdk_52_method_21_code (7 : Nat) (Option.some Jvm.ClassFile.FieldType.int)).before args0 about1 = true := code_word (m := ⟨8, 3⟩) (meth := k8m3) (c := k8c3) (by decide +kernel) rfl rfl rfl (by decide +kernel)
set_option maxRecDepth 65536 in
theorem w_c6 : (Jvm.Cond.code ({ cls := "java/lang/StringUTF16", name := "coderFromArrayLen", desc := "([BI)B" } : Jvm.MethodName) jdk_52_method_15_code (2 : Nat) (Option.some Jvm.ClassFile.FieldType.byte)).before args0 about1 = true := code_word (m := ⟨8, 1⟩) (meth := k8m1) (c := k8c1) (by decide +kernel) rfl rfl rfl (by decide +kernel)
set_option maxRecDepth 65536 in
theorem w_c7 : (Jvm.Cond.code ({ cls := "com/example/nameid/nameid/saml/ServiceProvider", name := "<init>", desc := "(Ljava/lang/String;Ljava/lang/String;Ljava/util/List;Ljava/util/List;Ljava/util/List;Ljava/util/List;Ljava/util/List;Ljava/util/List;)V" } : Jvm.MethodName) prog_50_method_1_code (9 : Nat) (Option.none : Option Jvm.ClassFile.FieldType)).before args0 about1 = true := code_word (m := ⟨10, 0⟩) (meth := k10m0) (c := k10c0) (by decide +kernel) rfl rfl rfl (by decide +kernel)
set_option maxRecDepth 65536 in
theorem w_c8 : (Jvm.Cond.code ({ cls := "java/lang/Record", name := "<init>", desc := "()V" } : Jvm.MethodName) jdk_30_method_1_code (1 : Nat) (Option.none : Option Jvm.ClassFile.FieldType)).before args0 about1 = true := code_word (m := ⟨9, 0⟩) (meth := k9m0) (c := k9c0) (by decide +kernel) rfl rfl rfl (by decide +kernel)
set_option maxRecDepth 65536 in
theorem w_c9 : (Jvm.Cond.code ({ cls := "com/example/nameid/nameid/saml/ServiceProvider", name := "name", desc := "()Ljava/lang/String;" } : Jvm.MethodName) prog_50_method_2_code (1 : Nat) (Option.some (Jvm.ClassFile.FieldType.object "java/lang/String"))).before args0 about1 = true := code_word (m := ⟨10, 1⟩) (meth := k10m1) (c := k10c1) (by decide +kernel) rfl rfl rfl (by decide +kernel)
set_option maxRecDepth 65536 in
theorem w_c10 : (Jvm.Cond.code ({ cls := "java/lang/String", name := "length", desc := "()I" } : Jvm.MethodName) jdk_42_method_54_code (1 : Nat) (Option.some Jvm.ClassFile.FieldType.int)).before args0 about1 = true := code_word (m := ⟨7, 2⟩) (meth := k7m2) (c := k7c2) (by decide +kernel) rfl rfl rfl (by decide +kernel)
set_option maxRecDepth 65536 in
theorem w_c11 : (Jvm.Cond.code ({ cls := "java/lang/String", name := "coder", desc := "()B" } : Jvm.MethodName) jdk_42_method_152_code (1 : Nat) (Option.some Jvm.ClassFile.FieldType.byte)).before args0 about1 = true := code_word (m := ⟨7, 5⟩) (meth := k7m5) (c := k7c5) (by decide +kernel) rfl rfl rfl (by decide +kernel)
set_option maxRecDepth 65536 in
theorem w_c12 : (Jvm.Cond.code ({ cls := "java/lang/String", name := "charAt", desc := "(I)C" } : Jvm.MethodName) jdk_42_method_56_code (2 : Nat) (Option.some Jvm.ClassFile.FieldType.char)).before args0 about1 = true := code_word (m := ⟨7, 3⟩) (meth := k7m3) (c := k7c3) (by decide +kernel) rfl rfl rfl (by decide +kernel)
set_option maxRecDepth 65536 in
theorem w_c13 : (Jvm.Cond.code ({ cls := "java/lang/String", name := "isLatin1", desc := "()Z" } : Jvm.MethodName) jdk_42_method_154_code (1 : Nat) (Option.some Jvm.ClassFile.FieldType.boolean)).before args0 about1 = true := code_word (m := ⟨7, 6⟩) (meth := k7m6) (c := k7c6) (by decide +kernel) rfl rfl rfl (by decide +kernel)
set_option maxRecDepth 65536 in
theorem w_c14 : (Jvm.Cond.code ({ cls := "java/lang/StringLatin1", name := "charAt", desc := "([BI)C" } : Jvm.MethodName) jdk_43_method_2_code (2 : Nat) (Option.some Jvm.ClassFile.FieldType.char)).before args0 about1 = true := code_word (m := ⟨11, 1⟩) (meth := k11m1) (c := k11c1) (by decide +kernel) rfl rfl rfl (by decide +kernel)
set_option maxRecDepth 65536 in
theorem w_c15 : (Jvm.Cond.code ({ cls := "java/lang/String", name := "checkIndex", desc := "(II)V" } : Jvm.MethodName) jdk_42_method_155_code (2 : Nat) (Option.none : Option Jvm.ClassFile.FieldType)).before args0 about1 = true := code_word (m := ⟨7, 7⟩) (meth := k7m7) (c := k7c7) (by decide +kernel) rfl rfl rfl (by decide +kernel)
set_option maxRecDepth 65536 in
theorem w_c16 : (Jvm.Cond.code ({ cls := "jdk/internal/util/Preconditions", name := "checkIndex", desc := "(IILjava/util/function/BiFunction;)I" } : Jvm.MethodName) jdk_41_method_11_code (3 : Nat) (Option.some Jvm.ClassFile.FieldType.int)).before args0 about1 = true := code_word (m := ⟨12, 1⟩) (meth := k12m1) (c := k12c1) (by decide +kernel) rfl rfl rfl (by decide +kernel)
def codes1 : List Jvm.Cond := [Jvm.Cond.code x code maxLocals ret, Jvm.Cond.code ({ cls := "java/lang/String", name := "<init>", desc := "([C)V" } : Jvm.MethodName) jdk_42_method_3_code (2 : Nat) (Option.none : Option Jvm.ClassFile.FieldType), Jvm.Cond.code ({ cls := "java/lang/String", name := "<init>", desc := "([CIILjava/lang/Void;)V" } : Jvm.MethodName) jdk_42_method_149_code (6 : Nat) (Option.none : Option Jvm.ClassFile.FieldType), Jvm.Cond.code ({ cls := "java/lang/Object", name := "<init>", desc := "()V" } : Jvm.MethodName) object_method_1_code (1 : Nat) (Option.none : Option Jvm.ClassFile.FieldType), Jvm.Cond.code ({ cls := "java/lang/StringUTF16", name := "compress", desc := "([CII)[B" } : Jvm.MethodName) jdk_52_method_16_code (6 : Nat) (Option.some (Jvm.ClassFile.FieldType.array Jvm.ClassFile.FieldType.byte)), Jvm.Cond.code ({ cls := "java/lang/StringUTF16", name := "compress", desc := "([CI[BII)I" } : Jvm.MethodName) jdk_52_method_21_code (7 : Nat) (Option.some Jvm.ClassFile.FieldType.int), Jvm.Cond.code ({ cls := "java/lang/StringUTF16", name := "coderFromArrayLen", desc := "([BI)B" } : Jvm.MethodName) jdk_52_method_15_code (2 : Nat) (Option.some Jvm.ClassFile.FieldType.byte), Jvm.Cond.code ({ cls := "com/example/nameid/nameid/saml/ServiceProvider", name := "<init>", desc := "(Ljava/lang/String;Ljava/lang/String;Ljava/util/List;Ljava/util/List;Ljava/util/List;Ljava/util/List;Ljava/util/List;Ljava/util/List;)V" } : Jvm.MethodName) prog_50_method_1_code (9 : Nat) (Option.none : Option Jvm.ClassFile.FieldType), Jvm.Cond.code ({ cls := "java/lang/Record", name := "<init>", desc := "()V" } : Jvm.MethodName) jdk_30_method_1_code (1 : Nat) (Option.none : Option Jvm.ClassFile.FieldType), Jvm.Cond.code ({ cls := "com/example/nameid/nameid/saml/ServiceProvider", name := "name", desc := "()Ljava/lang/String;" } : Jvm.MethodName) prog_50_method_2_code (1 : Nat) (Option.some (Jvm.ClassFile.FieldType.object "java/lang/String")), Jvm.Cond.code ({ cls := "java/lang/String", name := "length", desc := "()I" } : Jvm.MethodName) jdk_42_method_54_code (1 : Nat) (Option.some Jvm.ClassFile.FieldType.int), Jvm.Cond.code ({ cls := "java/lang/String", name := "coder", desc := "()B" } : Jvm.MethodName) jdk_42_method_152_code (1 : Nat) (Option.some Jvm.ClassFile.FieldType.byte), Jvm.Cond.code ({ cls := "java/lang/String", name := "charAt", desc := "(I)C" } : Jvm.MethodName) jdk_42_method_56_code (2 : Nat) (Option.some Jvm.ClassFile.FieldType.char), Jvm.Cond.code ({ cls := "java/lang/String", name := "isLatin1", desc := "()Z" } : Jvm.MethodName) jdk_42_method_154_code (1 : Nat) (Option.some Jvm.ClassFile.FieldType.boolean), Jvm.Cond.code ({ cls := "java/lang/StringLatin1", name := "charAt", desc := "([BI)C" } : Jvm.MethodName) jdk_43_method_2_code (2 : Nat) (Option.some Jvm.ClassFile.FieldType.char), Jvm.Cond.code ({ cls := "java/lang/String", name := "checkIndex", desc := "(II)V" } : Jvm.MethodName) jdk_42_method_155_code (2 : Nat) (Option.none : Option Jvm.ClassFile.FieldType), Jvm.Cond.code ({ cls := "jdk/internal/util/Preconditions", name := "checkIndex", desc := "(IILjava/util/function/BiFunction;)I" } : Jvm.MethodName) jdk_41_method_11_code (3 : Nat) (Option.some Jvm.ClassFile.FieldType.int)]
set_option maxRecDepth 65536 in
theorem codes_eq : words1.filter isCode = codes1 := rfl
theorem w_codes : ∀ c ∈ words1.filter isCode, c.before args0 about1 = true := by
  rw [codes_eq]
  intro c hc
  simp only [codes1, List.mem_cons, List.not_mem_nil, or_false] at hc
  rcases hc with rfl | rfl | rfl | rfl | rfl | rfl | rfl | rfl | rfl | rfl | rfl | rfl | rfl | rfl | rfl | rfl | rfl
  · exact w_c0
  · exact w_c1
  · exact w_c2
  · exact w_c3
  · exact w_c4
  · exact w_c5
  · exact w_c6
  · exact w_c7
  · exact w_c8
  · exact w_c9
  · exact w_c10
  · exact w_c11
  · exact w_c12
  · exact w_c13
  · exact w_c14
  · exact w_c15
  · exact w_c16
set_option maxRecDepth 65536 in
theorem w_t1 : (words1.take 24).all (fun c => isCode c || c.before args0 about1) = true := by decide +kernel
set_option maxRecDepth 65536 in
theorem w_t2 : ((words1.drop 24).take 24).all (fun c => isCode c || c.before args0 about1) = true := by decide +kernel
set_option maxRecDepth 65536 in
theorem w_t3 : (((words1.drop 24).drop 24).take 24).all (fun c => isCode c || c.before args0 about1) = true := by decide +kernel
set_option maxRecDepth 65536 in
theorem w_t4 : (((words1.drop 24).drop 24).drop 24).all (fun c => isCode c || c.before args0 about1) = true := by decide +kernel
theorem w_tables : (allAtoms (Jvm.Cond.code x code maxLocals ret :: tables_1)).before args0 about1 = true := by
  rw [allAtoms_all]
  show words1.all (fun c => c.before args0 about1) = true
  refine all_split ?_ w_codes
  rw [← List.take_append_drop 24 words1, List.all_append, w_t1, ← List.take_append_drop 24 (words1.drop 24), List.all_append, w_t2, ← List.take_append_drop 24 ((words1.drop 24).drop 24), List.all_append, w_t3, w_t4]
  rfl
set_option maxRecDepth 65536 in
theorem w_rest : rest_1_c.before args0 about1 = true := by decide +kernel
set_option maxRecDepth 65536 in
theorem w_case : (Jvm.Cond.and given_1 narrow_1).before args0 about1 = true := by decide +kernel
theorem w_applies : (headSpec (Jvm.Cond.code x code maxLocals ret :: tables_1) room_1).applies x e0.platform about1 = true :=
  (Spec.applies_iff w_frames).mpr ⟨w_running, w_runnable, w_alone, w_named, w_hears, w_ripe, w_room, w_tables⟩
theorem atStart : AtStart classFile x code maxLocals ret World_1 tables_1 room_1 Calls_1 rest_1 Pre_1 launch0 p0 e0 about1 theMethod args0 below0 :=
  ⟨lists_1, trivial, launch0.admits_env _ _ _, launch0.least_env, fairChoices_fair.cas, fairChoices_fair.clock, w_frames, w_args, w_heap, w_applies, trivial, w_rest, w_case⟩
end start1
theorem witness_1 : WitnessClaimed_1 := ⟨start1.p0, start1.e0, start1.about1, start1.theMethod, start1.args0, start1.below0, start1.atStart⟩
end Jvm.Pilot.@@N@@
