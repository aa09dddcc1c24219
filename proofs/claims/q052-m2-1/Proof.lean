import JvmDerived
import JvmDerived.Pilot.@@N@@Statement
import JvmDerived.Pilot.@@N@@Code
set_option linter.unusedVariables false
set_option linter.unusedSimpArgs false
/- laws to paste: StrChars.shr0, StrChars.shr1, StrChars.pair_says, StrChars.chr8_lo8, StrChars.narrow_ch, Road.wide_lo, Road.wide_hi, Road.low_at, Road.CodA (cut by pick.py; bodies as the Statement names them) -/
namespace Jvm.Pilot.@@N@@
namespace StrChars
open Jvm Sem ClassFile Op Lib Jvm.Stand Jvm.Free.XT Jvm.Free.ALB Jvm.Free.JM Jvm.Free
open Jvm.Lib.Cold (StaticIs)
/-- the byte that i2b leaves of a char -/
def lo8 (x : Int32) : Int32 := x.toInt8.toInt32
/-- the byte, read back as charAt reads it, is the char -/
theorem lo8_mask {x : Int32} (h0 : ¬ x < 0) (h1 : ¬ 255 < x) : lo8 x &&& 255 = x := by
  have t : ∀ k : Fin 256, lo8 (Int32.ofNat k.val) &&& 255 = Int32.ofNat k.val := by decide +kernel
  rw [Int32.lt_iff_toInt_lt] at h0 h1
  have e0 : (0 : Int32).toInt = 0 := rfl
  have e1 : (255 : Int32).toInt = 255 := rfl
  obtain ⟨k, hk⟩ : ∃ k : Nat, x.toInt = k := ⟨x.toInt.toNat, by omega⟩
  have hx : x = Int32.ofNat k := Int32.toInt_inj.mp (by rw [hk, Int32.toInt_ofNat_small (by omega)])
  rw [hx]
  exact t ⟨k, by omega⟩
end StrChars
namespace StrChars
open Jvm Sem ClassFile Op Lib Jvm.Stand Jvm.Free.XT Jvm.Free.ALB Jvm.Free.JM Jvm.Free
open Jvm.Lib.Cold (StaticIs)
def hi8 (x : Int32) : Int32 := lo8 (x >>> ((8 : Int32) &&& 31))
/-- what StringUTF16.getChar makes of two bytes -/
def pairCh (u v : Int32) : Int32 := (((u &&& 255) <<< ((0 : Int32) &&& 31)) ||| ((v &&& 255) <<< ((8 : Int32) &&& 31))).toUInt32.toUInt16.toUInt32.toInt32
theorem shr0 (c : Int32) : c >>> ((0 : Int32) &&& 31) = c := by
  have e : ((0 : Int32) &&& 31) = 0 := by decide
  rw [e]
  apply Int32.toBitVec_inj.mp
  rw [Int32.toBitVec_shiftRight]
  have e1 : ((0 : Int32).toBitVec.smod 32) = 0#32 := by decide
  rw [e1, BitVec.sshiftRight_eq']
  exact BitVec.sshiftRight_zero
theorem lo8_and (x : Int32) : (lo8 x &&& 255).toBitVec.toNat = x.toBitVec.toNat % 256 := by
  have h : (lo8 x).toBitVec = (x.toBitVec.signExtend 8).signExtend 32 := by rw [lo8, Int8.toBitVec_toInt32, Int32.toBitVec_toInt8]
  rw [Int32.toBitVec_and, BitVec.toNat_and, h]
  have e : ((x.toBitVec.signExtend 8).signExtend 32).toNat % 256 = x.toBitVec.toNat % 256 := by
    rw [BitVec.toNat_signExtend]
    have hlt := x.toBitVec.isLt
    simp only [BitVec.toNat_setWidth, BitVec.toNat_signExtend]
    split <;> split <;> omega
  rw [← e]
  exact Nat.and_two_pow_sub_one_eq_mod _ 8
theorem pair_says {c : Int32} (h0 : ¬ c < 0) (h1 : ¬ 65535 < c) : pairCh (lo8 c) (hi8 c) = c := by
  rw [Int32.lt_iff_toInt_lt] at h0 h1
  have e0 : (0 : Int32).toInt = 0 := rfl
  have e1 : (65535 : Int32).toInt = 65535 := rfl
  have hc : c.toInt = c.toBitVec.toNat := by
    have := c.toBitVec.isLt
    have e : c.toInt = c.toBitVec.toInt := rfl
    rw [e] at h0 h1
    rw [e]
    rw [BitVec.toInt_eq_toNat_cond] at h0 h1 ⊢
    split at h0 <;> split <;> omega
  have hn : c.toBitVec.toNat < 65536 := by omega
  have a1 := lo8_and c
  have a2 : (hi8 c &&& 255).toBitVec.toNat = c.toBitVec.toNat / 256 := by
    rw [hi8, lo8_and]
    have e : ((8 : Int32) &&& 31) = 8 := by decide
    rw [e, Int32.toBitVec_shiftRight]
    have e2 : ((8 : Int32).toBitVec.smod 32) = 8#32 := by decide
    rw [e2, BitVec.sshiftRight_eq', BitVec.toNat_sshiftRight_of_msb_false (by rw [BitVec.msb_eq_false_iff_two_mul_lt]; omega)]
    show c.toBitVec.toNat >>> 8 % 256 = _
    rw [Nat.shiftRight_eq_div_pow]
    omega
  unfold pairCh
  apply Int32.toBitVec_inj.mp
  apply BitVec.eq_of_toNat_eq
  have f0 : ((0 : Int32) &&& 31) = 0 := by decide
  have f8 : ((8 : Int32) &&& 31) = 8 := by decide
  rw [f0, f8]
  have g : (((lo8 c &&& 255) <<< (0 : Int32)) ||| ((hi8 c &&& 255) <<< (8 : Int32))).toBitVec.toNat = c.toBitVec.toNat := by
    rw [Int32.toBitVec_or, Int32.toBitVec_shiftLeft, Int32.toBitVec_shiftLeft]
    have s0 : ((0 : Int32).toBitVec.smod 32) = 0#32 := by decide
    have s8 : ((8 : Int32).toBitVec.smod 32) = 8#32 := by decide
    rw [s0, s8, BitVec.toNat_or]
    simp only [BitVec.shiftLeft_eq', BitVec.toNat_shiftLeft, a1, a2]
    show (c.toBitVec.toNat % 256) <<< 0 % 2 ^ 32 ||| (c.toBitVec.toNat / 256) <<< 8 % 2 ^ 32 = _
    rw [Nat.shiftLeft_zero, Nat.mod_eq_of_lt (show c.toBitVec.toNat % 256 < 2 ^ 32 by omega), Nat.mod_eq_of_lt (show (c.toBitVec.toNat / 256) <<< 8 < 2 ^ 32 by rw [Nat.shiftLeft_eq]; omega), Nat.or_comm, ← Nat.shiftLeft_add_eq_or_of_lt (by omega), Nat.shiftLeft_eq]
    omega
  show BitVec.toNat (((((lo8 c &&& 255) <<< (0 : Int32)) ||| ((hi8 c &&& 255) <<< (8 : Int32))).toBitVec.setWidth 16).setWidth 32) = _
  rw [BitVec.toNat_setWidth, BitVec.toNat_setWidth, g]
  omega
end StrChars
namespace StrChars
open Jvm Sem ClassFile Op Lib Jvm.Stand Jvm.Free.XT Jvm.Free.ALB Jvm.Free.JM Jvm.Free
open Jvm.Lib.Cold (StaticIs)
theorem shr1 {n : Nat} (h : 2 * n < 2 ^ 31) : Int32.ofNat (2 * n) >>> ((1 : Int32) &&& 31) = Int32.ofNat n := by
  have e : ((1 : Int32) &&& 31) = 1 := by decide
  rw [e]
  apply Int32.toBitVec_inj.mp
  rw [Int32.toBitVec_shiftRight]
  have e1 : ((1 : Int32).toBitVec.smod 32) = 1#32 := by decide
  have hm : (BitVec.ofNat 32 (2 * n)).toNat = 2 * n := by rw [BitVec.toNat_ofNat, Nat.mod_eq_of_lt (by omega)]
  rw [e1, BitVec.sshiftRight_eq']
  apply BitVec.eq_of_toNat_eq
  show ((BitVec.ofNat 32 (2 * n)).sshiftRight 1).toNat = (BitVec.ofNat 32 n).toNat
  rw [BitVec.toNat_sshiftRight_of_msb_false (by rw [BitVec.msb_eq_false_iff_two_mul_lt, hm]; omega), hm, BitVec.toNat_ofNat, Nat.shiftRight_eq_div_pow]
  omega
/-- charAt's cast of a byte read back -/
def chr8 (u : Int32) : Int32 := (u &&& 255).toUInt32.toUInt16.toUInt32.toInt32
theorem chr8_lo8 {c : Int32} (h0 : ¬ c < 0) (h1 : ¬ 255 < c) : chr8 (lo8 c) = c := by
  have t : ∀ k : Fin 256, (Int32.ofNat k.val).toUInt32.toUInt16.toUInt32.toInt32 = Int32.ofNat k.val := by decide +kernel
  unfold chr8
  rw [lo8_mask h0 h1]
  rw [Int32.lt_iff_toInt_lt] at h0 h1
  have e0 : (0 : Int32).toInt = 0 := rfl
  have e1 : (255 : Int32).toInt = 255 := rfl
  obtain ⟨k, hk⟩ : ∃ k : Nat, c.toInt = k := ⟨c.toInt.toNat, by omega⟩
  have hx : c = Int32.ofNat k := Int32.toInt_inj.mp (by rw [hk, Int32.toInt_ofNat_small (by omega)])
  rw [hx]
  exact t ⟨k, by omega⟩
theorem narrow_ch {c : Int32} (h0 : ¬ c < 0) (h1 : ¬ 65535 < c) : narrow .char (.int c) = .int c := by
  have q : narrow .char (.int (pairCh (lo8 c) (hi8 c))) = .int (pairCh (lo8 c) (hi8 c)) := narrow_c _
  rwa [pair_says h0 h1] at q
end StrChars
namespace StrChars.Road
open Jvm Sem ClassFile Op Lib Jvm.Stand Jvm.Free Jvm.Free.XT
open Jvm.Lib.Cold (StaticIs)
/-- the bytes of the chars cs, low before high -/
def wideBytes : List Int32 → List Value
  | [] => []
  | c :: cs => .int (lo8 c) :: .int (hi8 c) :: wideBytes cs
theorem wide_lo (d : Value) : ∀ (cs : List Int32) (j : Nat), j < cs.length → (wideBytes cs).getD (2 * j) d = .int (lo8 (cs.getD j 0))
  | [], j, h => absurd h (Nat.not_lt_zero j)
  | c :: cs, 0, _ => rfl
  | c :: cs, j + 1, h => by
    have q := wide_lo d cs j (by simpa using h)
    rw [show 2 * (j + 1) = 2 * j + 1 + 1 from by omega]
    simpa [wideBytes] using q
theorem wide_hi (d : Value) : ∀ (cs : List Int32) (j : Nat), j < cs.length → (wideBytes cs).getD (2 * j + 1) d = .int (hi8 (cs.getD j 0))
  | [], j, h => absurd h (Nat.not_lt_zero j)
  | c :: cs, 0, _ => rfl
  | c :: cs, j + 1, h => by
    have q := wide_hi d cs j (by simpa using h)
    rw [show 2 * (j + 1) + 1 = 2 * j + 1 + 1 + 1 from by omega]
    simpa [wideBytes] using q
theorem low_at (d : Value) (cs : List Int32) (j : Nat) (h : j < cs.length) : (cs.map fun c => Value.int (lo8 c)).getD j d = .int (lo8 (cs.getD j 0)) := by
  simp [List.getD_eq_getElem?_getD, h]
/-- an array of N2 bytes vs codes the chars cs by the coder cd -/
def CodA (cs : List Int32) (cd N2 : Int32) (vs : List Value) : Prop := (cd = 0 ∧ N2 = Int32.ofNat cs.length ∧ vs = (cs.map fun c => Value.int (lo8 c)) ∧ ∀ c ∈ cs, ¬ 255 < c) ∨ (cd = 1 ∧ N2 = Int32.ofNat (2 * cs.length) ∧ vs = wideBytes cs ∧ ∃ c ∈ cs, 255 < c)
end StrChars.Road
end Jvm.Pilot.@@N@@
namespace Jvm.Pilot.@@N@@
open Jvm Jvm.ClassFile Sem Op Lib Jvm.Free Jvm.Stand Jvm.LawKit Jvm.RoadKit Bundle Jvm.Pilot.@@N@@.Jvm.D
section OwnKit
variable {p : Program} {l : Launch} {e : Env} {R : Room} {s : State} {m : MethodId} {args : Array Value} {below : List Frame} {meth : Method} {c : Code} {T T' : State} {locs : List Loc} {cells slots : Nat} {g g' : JFrame} {G : State → Outcome → Prop} {Z : State} {a0 : Array Value} {h : Heap} {y : MethodName} {own : String} {index : Nat} {bytes : ByteArray} {maxL : Nat} {ret : Option FieldType} {W : Nat} {as' : Array Value} {rc rs : Nat} {Q : Option Value → Heap → List Loc → Prop} {argsL rest : List Value} {a b : Addr} {k : ClassId} {ty : FieldType} {n j : Int32} {vs : List Value} {d v : Value}
/-- the run from this frame comes to the end that the body owes -/
def own_Fin (p : Program) (e : Env) (below : List Frame) (G : State → Outcome → Prop) (T : State) (g : JFrame) : Prop := ∃ s₂ o, Steps p.tables e below (T.setTop g) s₂ ∧ s₂.status = .running ∧ Ended s₂ below o ∧ G s₂ o
theorem own_step (h1 : ∀ t, Steps p.tables e below (T'.setTop g') t → Steps p.tables e below (T.setTop g) t) (k1 : own_Fin p e below G T' g') : own_Fin p e below G T g := by
  obtain ⟨s2, o, q, r⟩ := k1; exact ⟨s2, o, h1 _ q, r⟩
theorem own_cast (q : g = g') (k1 : own_Fin p e below G T g') : own_Fin p e below G T g := q ▸ k1
/-- what a body owes at its end -/
abbrev own_G (s : State) (Q : Option Value → Heap → List Loc → Prop) (rc rs : Nat) : State → Outcome → Prop := fun s₂ o => ∃ v L, o = .returned v ∧ Q v s₂.heap L ∧ FrameEnd s o s₂ L rc rs
theorem own_end (X : Stand p l e R s m args below meth c T locs cells slots) {v : Option Value} (hv : meth.sig.returnType = none → v = none) (hlk : meth.locks = false)
    (st : ∀ fs, (∀ (f : JFrame) (acts : List Action), f.method = m → f.locked = none → f.entered = [] → (doReturn e (T.setTop f) acts v).1 = T.setFrames fs) → Steps p.tables e below (T.setTop g) (T.setFrames fs))
    (hQ : Q v T.heap locs) (hc : cells ≤ rc) (hs : slots ≤ rs) : own_Fin p e below (own_G s Q rc rs) T g := by
  obtain ⟨fs, hr, hrun, hended, hW, hsame⟩ := X.leave hv hlk
  exact ⟨_, _, st fs hr, hrun, hended, v, locs, rfl, hQ, ⟨_, rfl⟩, hW, hsame.mono hc hs⟩
theorem own_cat_int (z : Int32) : (Value.int z).category = 1 := rfl
theorem own_cat_long (z : Int64) : (Value.long z).category = 2 := rfl
theorem own_cat_ref (z : Addr) : (Value.ref z).category = 1 := rfl
theorem own_cat_null : Value.null.category = 1 := rfl
theorem own_fixv {ws : List Value} (q : vs = ws) (A : Arv Z h a k ty n vs d) : Arv Z h a k ty n ws d := by subst q; exact A
theorem own_fixn {n' : Int32} (q : n = n') (A : Arv Z h a k ty n vs d) : Arv Z h a k ty n' vs d := by subst q; exact A
theorem own_fixf {C f ds : String} {w : Value} (q : v = w) (F : Fld Z h a C f ds v) : Fld Z h a C f ds w := by subst q; exact F
theorem own_narR {w : Value} (h1 : w.isRef = true) {t : FieldType} (ht : t.isReference = true) : narrow t w = w := by cases w <;> cases t <;> first | rfl | (exact absurd h1 (by decide)) | (exact absurd ht (by decide)) | simp_all [Value.isRef, FieldType.isReference]
theorem own_retI (X : Stand p l e R s m args below meth c T locs cells slots) (hx : p.tables.exec = Jvm.exec) {pc : Nat} {Ls : Array Slot} {z : Int32} (hret : meth.sig.returnType = some .int) (hd : decode c.code pc = .ok (.ireturn, 1)) (hlk : meth.locks = false)
    (hQ : Q (some (.int z)) T.heap locs) (hc : cells ≤ rc) (hs : slots ≤ rs) : own_Fin p e below (own_G s Q rc rs) T (mkF m pc Ls (.int z :: rest)) :=
  own_end X (fun q => by rw [hret] at q; cases q) hlk (fun fs hr => retOut X hx hret rfl (Or.inl ⟨rfl, Or.inl rfl, z, rfl⟩) hd hr) hQ hc hs
theorem own_retN (X : Stand p l e R s m args below meth c T locs cells slots) (hx : p.tables.exec = Jvm.exec) {pc : Nat} {Ls : Array Slot} {z : Int32} {t : FieldType} (hret : meth.sig.returnType = some t) (ht : t = .boolean ∨ t = .byte ∨ t = .char ∨ t = .short) (hd : decode c.code pc = .ok (.ireturn, 1)) (hlk : meth.locks = false)
    (hQ : Q (some (.int (nar t z))) T.heap locs) (hc : cells ≤ rc) (hs : slots ≤ rs) : own_Fin p e below (own_G s Q rc rs) T (mkF m pc Ls (.int z :: rest)) :=
  own_end X (fun q => by rw [hret] at q; cases q) hlk (fun fs hr => retN X hx hret ht hd hr) hQ hc hs
theorem own_retL (X : Stand p l e R s m args below meth c T locs cells slots) (hx : p.tables.exec = Jvm.exec) {pc : Nat} {Ls : Array Slot} {z : Int64} (hret : meth.sig.returnType = some .long) (hd : decode c.code pc = .ok (.lreturn, 1)) (hlk : meth.locks = false)
    (hQ : Q (some (.long z)) T.heap locs) (hc : cells ≤ rc) (hs : slots ≤ rs) : own_Fin p e below (own_G s Q rc rs) T (mkF m pc Ls (.long z :: rest)) :=
  own_end X (fun q => by rw [hret] at q; cases q) hlk (fun fs hr => retOut X hx hret rfl (Or.inr (Or.inl ⟨rfl, rfl, z, rfl⟩)) hd hr) hQ hc hs
theorem own_retA (X : Stand p l e R s m args below meth c T locs cells slots) (hx : p.tables.exec = Jvm.exec) {pc : Nat} {Ls : Array Slot} {w : Value} {t : FieldType} (hret : meth.sig.returnType = some t) (ht : t.isReference = true) (hw : w.isRef = true) (hd : decode c.code pc = .ok (.areturn, 1)) (hlk : meth.locks = false)
    (hQ : Q (some w) T.heap locs) (hc : cells ≤ rc) (hs : slots ≤ rs) : own_Fin p e below (own_G s Q rc rs) T (mkF m pc Ls (w :: rest)) :=
  own_end X (fun q => by rw [hret] at q; cases q) hlk (fun fs hr => retOut X hx hret (own_narR hw ht) (Or.inr (Or.inr (Or.inr (Or.inr ⟨rfl, ht, hw⟩)))) hd hr) hQ hc hs
theorem own_retV (X : Stand p l e R s m args below meth c T locs cells slots) (hx : p.tables.exec = Jvm.exec) {pc : Nat} {Ls : Array Slot} (hret : meth.sig.returnType = none) (hd : decode c.code pc = .ok (.return_, 1)) (hlk : meth.locks = false)
    (hQ : Q none T.heap locs) (hc : cells ≤ rc) (hs : slots ≤ rs) : own_Fin p e below (own_G s Q rc rs) T (mkF m pc Ls []) :=
  own_end X (fun _ => rfl) hlk (fun fs hr => X.returnOut hx hret hd hr) hQ hc hs
/-- the entry -/
theorem own_body {ws : List Jvm.Cond} {rm : Room} {h0 : Heap} (hy : plainFor y = true)
    (body : ∀ p e s m below meth c s₁, BodyLoose p l y (head1 (Jvm.Cond.code y bytes maxL ret :: ws) rm) bytes maxL ret e s m as' below meth c s₁ → c.maxLocals = maxL → Z.Warmed39 s.vm → s₁.heap = h0 → own_Fin p e below (own_G s Q rm.cells rm.slots) s₁ (entryFrame m as' maxL)) :
    MetFree l y (head1 (Jvm.Cond.code y bytes maxL ret :: ws) rm) (fun a U => a = as' ∧ Z.Warmed39 U.vm ∧ U.heap = h0) (fun _ _ _ _ _ => True) (fun _ U o U' => ∃ v L, o = .returned v ∧ Q v U'.heap L ∧ FrameEnd U o U' L rm.cells rm.slots) := by
  refine MetFree.of_bodySF hy hisR ?_
  intro p e s m args below meth c s₁ Bd hml0 hP hK
  obtain ⟨rfl, hZ, hh⟩ := hP
  exact body p e s m below meth c s₁ Bd hml0 hZ (by rw [← hh, Bd.state]; rfl)
/-! calls, each by what pays it -/
theorem own_callS (X : Stand p l e R s m args below meth c T locs cells slots) (hx : p.tables.exec = Jvm.exec) (hZ : Z.Warmed39 s.vm) (hown : s.vm.findClass own = some m.cls) (w1 : (Jvm.Cond.methodLink own index y).before a0 Z = true) (w2 : (Jvm.Cond.static y).before a0 Z = true) (w3 : (Jvm.Cond.initialized y.cls).before a0 Z = true) (w4 : (Jvm.Cond.code y bytes maxL ret).before a0 Z = true)
    (hy : y.cls ≠ "java/lang/invoke/MethodHandle" ∧ y.cls ≠ "java/lang/invoke/VarHandle")
    (hK : Back l R p e below s args y 3 W (fun A a => a = as' ∧ A.U.heap = h ∧ A.cells + rc ≤ R.cells ∧ A.slots + rs ≤ R.slots) (fun A _ v B => ∃ L, Q v B.U.heap L ∧ B.locs = A.locs ++ L ∧ B.cells = A.cells + rc ∧ B.slots = A.slots + rs))
    (eT : T.heap = h) (hc : cells + rc ≤ R.cells) (hs : slots + rs ≤ R.slots) (hg : g.method = m) (hsize : g.locals.size = c.maxLocals) (hlen : ∀ sig, parseMethodDescriptor y.desc = some sig → argsL.length = sig.parameters.length) (hstack : g.stack = argsL.reverse ++ rest) (has : argsL.toArray = as') (hW : 2 * g.monitorRoom + (rest.map fun v => v.category).sum ≤ W) (hd : decode c.code g.pc = .ok (.invokestatic index, 3))
    (k1 : ∀ (v : Option Value) (T' : State) (L : List Loc), Stand p l e R s m args below meth c T' (locs ++ L) (cells + rc) (slots + rs) → Q v T'.heap L → own_Fin p e below G T' { g with pc := g.pc + 3, stack := v.toList ++ rest }) : own_Fin p e below G T g := by
  obtain ⟨v, _, ⟨T2, L2, k2, n2⟩, -, X2, ⟨L, hQ, e1, e2, e3⟩, st⟩ := Jvm.LawKit.callS X hx hown (mvT hZ w1) (mvT hZ w2) (mvT hZ w3) (mvT hZ w4) hy hK hg hsize hlen hstack hW hd (fun _ _ => ⟨has, eT, hc, hs⟩)
  try dsimp only at X2 e1 e2 e3 st hQ
  subst e1 e2 e3
  exact own_step st (k1 v T2 L X2 hQ)
theorem own_callC (X : Stand p l e R s m args below meth c T locs cells slots) (hx : p.tables.exec = Jvm.exec) (hZ : Z.Warmed39 s.vm) (hown : s.vm.findClass own = some m.cls) (hy1 : y.name = "<init>") (w1 : (Jvm.Cond.methodLink own index y).before a0 Z = true) (w2 : (Jvm.Cond.instanceMethod y).before a0 Z = true) (w4 : (Jvm.Cond.code y bytes maxL none).before a0 Z = true)
    (hy : y.cls ≠ "java/lang/invoke/MethodHandle" ∧ y.cls ≠ "java/lang/invoke/VarHandle")
    (hK : Back l R p e below s args y 3 W (fun A a => a = as' ∧ A.U.heap = h ∧ A.cells + rc ≤ R.cells ∧ A.slots + rs ≤ R.slots) (fun A _ v B => ∃ L, Q v B.U.heap L ∧ B.locs = A.locs ++ L ∧ B.cells = A.cells + rc ∧ B.slots = A.slots + rs))
    (eT : T.heap = h) (hc : cells + rc ≤ R.cells) (hs : slots + rs ≤ R.slots) (hg : g.method = m) (hsize : g.locals.size = c.maxLocals) (hlen : ∀ sig, parseMethodDescriptor y.desc = some sig → argsL.length = sig.parameters.length) (hstack : g.stack = argsL.reverse ++ .ref a :: rest) (has : (.ref a :: argsL).toArray = as') (hW : 2 * g.monitorRoom + (rest.map fun v => v.category).sum ≤ W) (hd : decode c.code g.pc = .ok (.invokespecial index, 3))
    (k1 : ∀ (v : Option Value) (T' : State) (L : List Loc), Stand p l e R s m args below meth c T' (locs ++ L) (cells + rc) (slots + rs) → Q v T'.heap L → own_Fin p e below G T' { g with pc := g.pc + 3, stack := v.toList ++ rest }) : own_Fin p e below G T g := by
  obtain ⟨v, _, ⟨T2, L2, k2, n2⟩, -, X2, ⟨L, hQ, e1, e2, e3⟩, st⟩ := X.specialBack hx hy1 hown (mvT hZ w1) (mvT hZ w2) (mvT hZ w4) hy hK hg hsize (Steps.refl _) hlen hstack hW hd (fun _ _ => ⟨has, eT, hc, hs⟩)
  try dsimp only at X2 e1 e2 e3 st hQ
  subst e1 e2 e3
  exact own_step (fun _ q => st.trans q) (k1 v T2 L X2 hQ)
theorem own_callV {z : MethodName} {C : String} (X : Stand p l e R s m args below meth c T locs cells slots) (hx : p.tables.exec = Jvm.exec) (hZ : Z.Warmed39 s.vm) (hown : s.vm.findClass own = some m.cls) (w1 : (Jvm.Cond.methodLink own index y).before a0 Z = true) (w2 : (Jvm.Cond.declares y).before a0 Z = true) (hnf : NotFace s y) (w3 : (Jvm.Cond.selects C y z).before a0 Z = true) (w4 : (Jvm.Cond.instanceMethod z).before a0 Z = true)
    (hy : y.cls ≠ "java/lang/invoke/MethodHandle" ∧ y.cls ≠ "java/lang/invoke/VarHandle")
    (hK : Back l R p e below s args z 3 W (fun A a => a = as' ∧ A.U.heap = h ∧ A.cells + rc ≤ R.cells ∧ A.slots + rs ≤ R.slots) (fun A _ v B => ∃ L, Q v B.U.heap L ∧ B.locs = A.locs ++ L ∧ B.cells = A.cells + rc ∧ B.slots = A.slots + rs))
    (eT : T.heap = h) (E : Exa Z h a C) (hc : cells + rc ≤ R.cells) (hs : slots + rs ≤ R.slots) (hg : g.method = m) (hsize : g.locals.size = c.maxLocals) (hlen : ∀ sig, parseMethodDescriptor y.desc = some sig → argsL.length = sig.parameters.length) (hstack : g.stack = argsL.reverse ++ .ref a :: rest) (has : (.ref a :: argsL).toArray = as') (hW : 2 * g.monitorRoom + (rest.map fun v => v.category).sum ≤ W) (hd : decode c.code g.pc = .ok (.invokevirtual index, 3))
    (k1 : ∀ (v : Option Value) (T' : State) (L : List Loc), Stand p l e R s m args below meth c T' (locs ++ L) (cells + rc) (slots + rs) → Q v T'.heap L → own_Fin p e below G T' { g with pc := g.pc + 3, stack := v.toList ++ rest }) : own_Fin p e below G T g := by
  obtain ⟨cq, kq, qa, qb, qc⟩ := isOf hZ eT E
  obtain ⟨v, _, ⟨T2, L2, k2, n2⟩, -, X2, ⟨L, hQ, e1, e2, e3⟩, st⟩ := X.virtualBack hx hown (mvT hZ w1) (mvT hZ w2) hnf (mvT hZ w3) (mvT hZ w4) hy hK qa qc hg hsize (Steps.refl _) hlen hstack hW hd (fun _ _ => ⟨has, eT, hc, hs⟩)
  try dsimp only at X2 e1 e2 e3 st hQ
  subst e1 e2 e3
  exact own_step (fun _ q => st.trans q) (k1 v T2 L X2 hQ)
theorem own_selP (hZ : Z.Warmed39 s.vm) {kn : Nat} (wi : (Jvm.Cond.instantiable y.cls kn).before a0 Z = true) (w2 : (Jvm.Cond.instanceMethod y).before a0 Z = true) (w4 : (Jvm.Cond.privateMethod y).before a0 Z = true) (hy : y.cls ≠ "java/lang/invoke/MethodHandle" ∧ y.cls ≠ "java/lang/invoke/VarHandle") : (Jvm.Cond.selects y.cls y y).before args s = true := by
  obtain ⟨cc, kk, h1, h2, -, h4, -⟩ := Cond.instantiable_spec (mvT (args := args) hZ wi)
  exact selects_self_of_private h1 h2 (by simp at h4; exact h4.1) (Cond.privateMethod_at (mvP hZ w4 (args := #[]))) (mvT hZ w2) hy
theorem own_callP {C : String} (X : Stand p l e R s m args below meth c T locs cells slots) (hx : p.tables.exec = Jvm.exec) (hZ : Z.Warmed39 s.vm) (hown : s.vm.findClass own = some m.cls) (w1 : (Jvm.Cond.methodLink own index y).before a0 Z = true) (w2 : (Jvm.Cond.instanceMethod y).before a0 Z = true) (w3 : (Jvm.Cond.selects y.cls y y).before args s = true) (w4 : (Jvm.Cond.privateMethod y).before a0 Z = true) (w5 : (Jvm.Cond.code y bytes maxL ret).before a0 Z = true)
    (hy : y.cls ≠ "java/lang/invoke/MethodHandle" ∧ y.cls ≠ "java/lang/invoke/VarHandle")
    (hK : Back l R p e below s args y 3 W (fun A a => a = as' ∧ A.U.heap = h ∧ A.cells + rc ≤ R.cells ∧ A.slots + rs ≤ R.slots) (fun A _ v B => ∃ L, Q v B.U.heap L ∧ B.locs = A.locs ++ L ∧ B.cells = A.cells + rc ∧ B.slots = A.slots + rs))
    (eT : T.heap = h) (E : Exa Z h a C) (hc : cells + rc ≤ R.cells) (hs : slots + rs ≤ R.slots) (hg : g.method = m) (hsize : g.locals.size = c.maxLocals) (hlen : ∀ sig, parseMethodDescriptor y.desc = some sig → argsL.length = sig.parameters.length) (hstack : g.stack = argsL.reverse ++ .ref a :: rest) (has : (.ref a :: argsL).toArray = as') (hW : 2 * g.monitorRoom + (rest.map fun v => v.category).sum ≤ W) (hd : decode c.code g.pc = .ok (.invokevirtual index, 3))
    (k1 : ∀ (v : Option Value) (T' : State) (L : List Loc), Stand p l e R s m args below meth c T' (locs ++ L) (cells + rc) (slots + rs) → Q v T'.heap L → own_Fin p e below G T' { g with pc := g.pc + 3, stack := v.toList ++ rest }) : own_Fin p e below G T g := by
  obtain ⟨cq, q, q'⟩ := E.cell
  obtain ⟨v, _, ⟨T2, L2, k2, n2⟩, -, X2, ⟨L, hQ, e1, e2, e3⟩, st⟩ := X.privateBack hx hown (mvT hZ w1) (mvT hZ w2) w3 (Cond.privateMethod_at (mvP hZ w4 (args := #[]))) (mvT hZ w5) hy hK hg hsize (Steps.refl _) (a := a) (by rw [eT]; exact q) q' hlen hstack hW hd (fun _ _ => ⟨has, eT, hc, hs⟩)
  try dsimp only at X2 e1 e2 e3 st hQ
  subst e1 e2 e3
  exact own_step (fun _ q => st.trans q) (k1 v T2 L X2 hQ)
/-! arrays -/
theorem own_ldC (X : Stand p l e R s m args below meth c T locs cells slots) (hx : p.tables.exec = Jvm.exec) (hZ : Z.Warmed39 s.vm) (eT : T.heap = h) (F : Arv Z h a k .char n vs d) (hj : ¬ j < 0 ∧ j < n) (hu : vs.getD j.toNatClampNeg d = v) (hg : g.method = m) (hs : g.stack = .int j :: .ref a :: rest) (hd : decode c.code g.pc = .ok (.caload, 1)) : ∀ t, Steps p.tables e below (T.setTop { g with pc := g.pc + 1, stack := v :: rest }) t → Steps p.tables e below (T.setTop g) t := by
  obtain ⟨cl, A, q1, S, q3, H, q5⟩ := F
  exact fun t k1 => X.caload hx (by rw [eT]; exact A.1) (State.isArrayOf_alike hZ.alike A.2.1) A.2.2 (inb_of S hj) (H.at (inb_of S hj) hu) hg hs hd t k1
theorem own_ldB (X : Stand p l e R s m args below meth c T locs cells slots) (hx : p.tables.exec = Jvm.exec) (hZ : Z.Warmed39 s.vm) (eT : T.heap = h) (F : Arv Z h a k .byte n vs d) (hj : ¬ j < 0 ∧ j < n) (hu : vs.getD j.toNatClampNeg d = v) (hg : g.method = m) (hs : g.stack = .int j :: .ref a :: rest) (hd : decode c.code g.pc = .ok (.baload, 1)) : ∀ t, Steps p.tables e below (T.setTop { g with pc := g.pc + 1, stack := v :: rest }) t → Steps p.tables e below (T.setTop g) t := by
  obtain ⟨cl, A, q1, S, q3, H, q5⟩ := F
  exact fun t k1 => X.baloadBytes hx (by rw [eT]; exact A.1) (State.isArrayOf_alike hZ.alike A.2.1) A.2.2 (inb_of S hj) (H.at (inb_of S hj) hu) hg hs hd t k1
theorem own_len (X : Stand p l e R s m args below meth c T locs cells slots) (hx : p.tables.exec = Jvm.exec) (hZ : Z.Warmed39 s.vm) (eT : T.heap = h) (F : Arv Z h a k ty n vs d) (hg : g.method = m) (hs : g.stack = .ref a :: rest) (hd : decode c.code g.pc = .ok (.arraylength, 1)) : ∀ t, Steps p.tables e below (T.setTop { g with pc := g.pc + 1, stack := .int n :: rest }) t → Steps p.tables e below (T.setTop g) t := by
  obtain ⟨cl, A, q1, S, q3, H, q5⟩ := F
  refine fun t k1 => X.arraylength hx (by rw [eT]; exact A.1) (State.isArrayOf_alike hZ.alike A.2.1) hg hs hd t ?_
  rw [len_of S q3]; exact k1
theorem own_stC (X : Stand p l e R s m args below meth c T locs cells slots) (hx : p.tables.exec = Jvm.exec) (hZ : Z.Warmed39 s.vm) (eT : T.heap = h) (F : Arv Z h a k .char n vs d) {x : Int32} (hj : ¬ j < 0 ∧ j < n) {i : Nat} (hi : j.toNatClampNeg = i) (hl : i < vs.length) (hg : g.method = m) (hs : g.stack = .int x :: .int j :: .ref a :: rest) (hd : decode c.code g.pc = .ok (.castore, 1)) :
    ∃ T' h', Stand p l e R s m args below meth c T' (locs ++ [⟨a, j.toNatClampNeg⟩]) cells slots ∧ T'.heap = h' ∧ Wr h h' a j.toNatClampNeg (.int (nar .char x)) ∧ Arv Z h' a k .char n (vs.set i (.int (nar .char x))) d ∧ ∀ t, Steps p.tables e below (T'.setTop { g with pc := g.pc + 1, stack := rest }) t → Steps p.tables e below (T.setTop g) t := by
  obtain ⟨cl, A, q1, S, q3, H, q5⟩ := F
  obtain ⟨T', h', X', e', W', st⟩ := stC X hx hZ eT A (inb_of S hj) hg hs hd
  exact ⟨T', h', X', e', W', Arv.set A q1 S q3 H q5 (fits_nar_char _) W' i hi hl, st⟩
theorem own_stB (X : Stand p l e R s m args below meth c T locs cells slots) (hx : p.tables.exec = Jvm.exec) (hZ : Z.Warmed39 s.vm) (eT : T.heap = h) (F : Arv Z h a k .byte n vs d) {x : Int32} (hj : ¬ j < 0 ∧ j < n) {i : Nat} (hi : j.toNatClampNeg = i) (hl : i < vs.length) (hg : g.method = m) (hs : g.stack = .int x :: .int j :: .ref a :: rest) (hd : decode c.code g.pc = .ok (.bastore, 1)) :
    ∃ T' h', Stand p l e R s m args below meth c T' (locs ++ [⟨a, j.toNatClampNeg⟩]) cells slots ∧ T'.heap = h' ∧ Wr h h' a j.toNatClampNeg (.int x.toInt8.toInt32) ∧ Arv Z h' a k .byte n (vs.set i (.int x.toInt8.toInt32)) d ∧ ∀ t, Steps p.tables e below (T'.setTop { g with pc := g.pc + 1, stack := rest }) t → Steps p.tables e below (T.setTop g) t := by
  obtain ⟨cl, A, q1, S, q3, H, q5⟩ := F
  obtain ⟨T', h', X', e', W', st⟩ := stB X hx hZ eT A (inb_of S hj) hg hs hd
  exact ⟨T', h', X', e', W', Arv.set A q1 S q3 H q5 (fits_nar_byte _) W' i hi hl, st⟩
/-! small things -/
theorem own_ne {x y n : Nat} (h1 : x < n) (h2 : n ≤ y) : x ≠ y := Nat.ne_of_lt (Nat.lt_of_lt_of_le h1 h2)
theorem own_lt {x n n' : Nat} (h1 : x < n) (h2 : n ≤ n') : x < n' := Nat.lt_of_lt_of_le h1 h2
theorem own_all0 {P : Int32 → Prop} : ∀ c ∈ ([] : List Int32), P c := fun _ q => nomatch q
theorem own_allS {P : Int32 → Prop} {x : Int32} {L : List Int32} (q : P x) (r : ∀ c ∈ L, P c) : ∀ c ∈ x :: L, P c := fun c z => (List.mem_cons.mp z).elim (fun u => u ▸ q) (r c)
/-! shorter forms -/
abbrev sI (z : Int32) : Slot := .val (.int z)
abbrev sJ (z : Int64) : Slot := .val (.long z)
abbrev sR (a : Addr) : Slot := .val (.ref a)
theorem own_w0 (h1 : g.monitorRoom = 0) (h2 : (rest.map fun v => v.category).sum = W) : 2 * g.monitorRoom + (rest.map fun v => v.category).sum ≤ W := by rw [h1, h2]; omega
theorem own_cs {cells' slots' : Nat} (X : Stand p l e R s m args below meth c T locs cells slots) (h1 : cells ≤ cells') (h2 : slots ≤ slots') : Stand p l e R s m args below meth c T locs cells' slots' := { X with same := X.same.mono h1 h2 }
theorem own_gG (X : Stand p l e R s m args below meth c T locs cells slots) (hx : p.tables.exec = Jvm.exec) (hZ : Z.Warmed39 s.vm) {own R0 O n d host : String} {index : Nat} (hown : s.vm.findClass own = some m.cls) (w : (Cond.fieldLink own index R0 n d).before a0 Z = true ∨ (Cond.fieldLinkNest own index R0 n d host).before a0 Z = true) (via : Via Z R0 O n d) (eT : T.heap = h) {a : Addr} {v : Value} (F : Fld Z h a O n d v) (hg : g.method = m) (hs : g.stack = .ref a :: rest) (hd : decode c.code g.pc = .ok (.getfield index, 3))
    (k1 : ∀ T', Stand p l e R s m args below meth c T' locs cells slots → T'.heap = h → own_Fin p e below G T' { g with pc := g.pc + 3, stack := v :: rest }) : own_Fin p e below G T g := by
  obtain ⟨T', X', e', st⟩ := getF X hx hZ hown w via eT F hg hs hd
  exact own_step st (k1 T' X' e')
theorem own_gF (X : Stand p l e R s m args below meth c T locs cells slots) (hx : p.tables.exec = Jvm.exec) (hZ : Z.Warmed39 s.vm) {own O n d : String} {index : Nat} (hown : s.vm.findClass own = some m.cls) (w : (Cond.fieldLink own index O n d).before a0 Z = true) (eT : T.heap = h) {a : Addr} {v : Value} (F : Fld Z h a O n d v) (hg : g.method = m) (hs : g.stack = .ref a :: rest) (hd : decode c.code g.pc = .ok (.getfield index, 3))
    (k1 : ∀ T', Stand p l e R s m args below meth c T' locs cells slots → T'.heap = h → own_Fin p e below G T' { g with pc := g.pc + 3, stack := v :: rest }) : own_Fin p e below G T g :=
  own_gG (host := "") X hx hZ hown (Or.inl w) Via.refl eT F hg hs hd k1
theorem own_pF (X : Stand p l e R s m args below meth c T locs cells slots) (hx : p.tables.exec = Jvm.exec) (hZ : Z.Warmed39 s.vm) {own O n d C : String} {index kk : Nat} {ty : FieldType} (hown : s.vm.findClass own = some m.cls) (w : (Cond.fieldLink own index O n d).before a0 Z = true) (eT : T.heap = h) {a : Addr} {v old : Value} (F : Fld Z h a O n d old) (E : Exa Z h a C) (L : (Cond.lays C O n d).before a0 Z = true ∨ ((Cond.laysFinal C O n d).before a0 Z = true ∧ own = O ∧ meth.name = "<init>")) (wi : (Cond.instantiable C kk).before a0 Z = true)
    (hty : parseFieldDescriptor d = some ty) (hn : narrow ty v = v) (hf : fits ty v = true) (hg : g.method = m) (hs : g.stack = v :: .ref a :: rest) (hd : decode c.code g.pc = .ok (.putfield index, 3))
    (k1 : ∀ T' h', Stand p l e R s m args below meth c T' (locs ++ [⟨a, Jvm.RoadKit.slotOf Z O n d⟩]) cells slots → T'.heap = h' → Wr h h' a (Jvm.RoadKit.slotOf Z O n d) v → Fld Z h' a O n d v → own_Fin p e below G T' { g with pc := g.pc + 3, stack := rest }) : own_Fin p e below G T g := by
  obtain ⟨T', h', X', e', W', st⟩ := putF (host := "") X hx hZ hown (Or.inl w) Via.refl eT F E L wi hty hn hf hg hs hd
  exact own_step st (k1 T' h' X' e' W' (F.same W'))
theorem own_stCn (X : Stand p l e R s m args below meth c T locs cells slots) (hx : p.tables.exec = Jvm.exec) (hZ : Z.Warmed39 s.vm) (eT : T.heap = h) (F : Arv Z h a k .char n vs d) {n0 : Nat} (N : Fr n0 locs) (hn : n0 ≤ a) {x : Int32} {i : Nat} (hi : j.toNatClampNeg = i) (hj : ¬ j < 0 ∧ j < n) (hl : Nat.blt i vs.length = true) {y : Int32} (hy : nar .char x = y) (hg : g.method = m) (hs : g.stack = .int x :: .int j :: .ref a :: rest) (hd : decode c.code g.pc = .ok (.castore, 1))
    (k1 : ∀ T' h', Stand p l e R s m args below meth c T' (locs ++ [⟨a, j.toNatClampNeg⟩]) cells slots → T'.heap = h' → Wr h h' a j.toNatClampNeg (.int (nar .char x)) → Arv Z h' a k .char n (vs.set i (.int y)) d → Fr n0 (locs ++ [⟨a, j.toNatClampNeg⟩]) → own_Fin p e below G T' { g with pc := g.pc + 1, stack := rest }) : own_Fin p e below G T g := by
  obtain ⟨T', h', X', e', W', V', st⟩ := own_stC X hx hZ eT F hj hi (Nat.blt_eq.mp hl) hg hs hd
  exact own_step st (k1 T' h' X' e' W' (hy ▸ V') (Fr.snoc X' N hn))
def own_Pu (c : Code) (pc n : Nat) (x : Int32) : Prop := (∃ i, decode c.code pc = .ok (.iconst i, 1) ∧ n = 1 ∧ x = Int32.ofInt i) ∨ (∃ i, decode c.code pc = .ok (.bipush i, 2) ∧ n = 2 ∧ x = (Int8.ofInt i).toInt32)
theorem own_p1 {pc : Nat} {i : Int} (hd : decode c.code pc = .ok (.iconst i, 1)) : own_Pu c pc 1 (Int32.ofInt i) := Or.inl ⟨i, hd, rfl, rfl⟩
theorem own_p2 {pc : Nat} {i : Int} (hd : decode c.code pc = .ok (.bipush i, 2)) : own_Pu c pc 2 (Int8.ofInt i).toInt32 := Or.inr ⟨i, hd, rfl, rfl⟩
theorem own_push (X : Stand p l e R s m args below meth c T locs cells slots) (hx : p.tables.exec = Jvm.exec) {pc n : Nat} {x : Int32} {Ls : Array Slot} {S : List Value} {t : State} (P : own_Pu c pc n x) (q : Steps p.tables e below (T.setTop (mkF m (pc + n) Ls (.int x :: S))) t) : Steps p.tables e below (T.setTop (mkF m pc Ls S)) t := by
  rcases P with ⟨i, hd, rfl, rfl⟩ | ⟨i, hd, rfl, rfl⟩
  · exact XS.iconst X.here hx rfl hd q
  · exact XS.bipush X.here hx rfl hd q
theorem own_S4 (X : Stand p l e R s m args below meth c T locs cells slots) (hx : p.tables.exec = Jvm.exec) (hZ : Z.Warmed39 s.vm) (eT : T.heap = h) (F : Arv Z h a k .char n vs d) {n0 : Nat} (N : Fr n0 locs) (hn : n0 ≤ a) {pc n1 n2 kl : Nat} {Ls : Array Slot} {S : List Value} {x : Int32} (d1 : decode c.code pc = .ok (.aload kl, 2)) (h8 : Ls[kl]? = some (.val (.ref a))) (P1 : own_Pu c (pc + 2) n1 j) (P2 : own_Pu c (pc + 2 + n1) n2 x) (d4 : decode c.code (pc + 2 + n1 + n2) = .ok (.castore, 1)) {i : Nat} (hi : j.toNatClampNeg = i) (hj : ¬ j < 0 ∧ j < n) (hl : Nat.blt i vs.length = true) {y : Int32} (hy : nar .char x = y)
    (k1 : ∀ T' h', Stand p l e R s m args below meth c T' (locs ++ [⟨a, j.toNatClampNeg⟩]) cells slots → T'.heap = h' → Wr h h' a j.toNatClampNeg (.int (nar .char x)) → Arv Z h' a k .char n (vs.set i (.int y)) d → Fr n0 (locs ++ [⟨a, j.toNatClampNeg⟩]) → own_Fin p e below G T' (mkF m (pc + 2 + n1 + n2 + 1) Ls S)) : own_Fin p e below G T (mkF m pc Ls S) := by
  obtain ⟨T', h', X', e', W', V', st⟩ := own_stC X hx hZ eT F hj hi (Nat.blt_eq.mp hl) (g := mkF m (pc + 2 + n1 + n2) Ls (.int x :: .int j :: .ref a :: S)) rfl rfl d4
  exact own_step (fun t q => XS.aload X.here hx rfl d1 h8 rfl (own_push X hx P1 (own_push X hx P2 (st t q)))) (k1 T' h' X' e' W' (hy ▸ V') (Fr.snoc X' N hn))
theorem own_D4 (X : Stand p l e R s m args below meth c T locs cells slots) (hx : p.tables.exec = Jvm.exec) (hZ : Z.Warmed39 s.vm) (eT : T.heap = h) (F : Arv Z h a k .char n vs d) {n0 : Nat} (N : Fr n0 locs) (hn : n0 ≤ a) {pc n1 n2 : Nat} {Ls : Array Slot} {S : List Value} {x : Int32} (d1 : decode c.code pc = .ok (.dup, 1)) (P1 : own_Pu c (pc + 1) n1 j) (P2 : own_Pu c (pc + 1 + n1) n2 x) (d4 : decode c.code (pc + 1 + n1 + n2) = .ok (.castore, 1)) {i : Nat} (hi : j.toNatClampNeg = i) (hj : ¬ j < 0 ∧ j < n) (hl : Nat.blt i vs.length = true) {y : Int32} (hy : nar .char x = y)
    (k1 : ∀ T' h', Stand p l e R s m args below meth c T' (locs ++ [⟨a, j.toNatClampNeg⟩]) cells slots → T'.heap = h' → Wr h h' a j.toNatClampNeg (.int (nar .char x)) → Arv Z h' a k .char n (vs.set i (.int y)) d → Fr n0 (locs ++ [⟨a, j.toNatClampNeg⟩]) → own_Fin p e below G T' (mkF m (pc + 1 + n1 + n2 + 1) Ls (.ref a :: S))) : own_Fin p e below G T (mkF m pc Ls (.ref a :: S)) := by
  obtain ⟨T', h', X', e', W', V', st⟩ := own_stC X hx hZ eT F hj hi (Nat.blt_eq.mp hl) (g := mkF m (pc + 1 + n1 + n2) Ls (.int x :: .int j :: .ref a :: .ref a :: S)) rfl rfl d4
  exact own_step (fun t q => XS.dup X.here hx rfl d1 rfl rfl (own_push X hx P1 (own_push X hx P2 (st t q)))) (k1 T' h' X' e' W' (hy ▸ V') (Fr.snoc X' N hn))
def own_Met (l : Launch) (Z : State) (y : MethodName) (bytes : ByteArray) (maxL : Nat) (ret : Option FieldType) (ws : List Jvm.Cond) (rm : Room) (as' : Array Value) (h0 : Heap) (Q : Option Value → Heap → List Loc → Prop) : Prop :=
  MetFree l y (head1 (Jvm.Cond.code y bytes maxL ret :: ws) rm) (fun a U => a = as' ∧ Z.Warmed39 U.vm ∧ U.heap = h0) (fun _ _ _ _ _ => True) (fun _ U o U' => ∃ v L, o = .returned v ∧ Q v U'.heap L ∧ FrameEnd U o U' L rm.cells rm.slots)
theorem own_bodyN {ws : List Jvm.Cond} {rm : Room} {h0 : Heap} {g0 : MethodId → JFrame} (hy : plainFor y = true) (he : ∀ m, entryFrame m as' maxL = g0 m)
    (body : ∀ p e s m below meth c s₁, p.tables.exec = Jvm.exec → c.code = bytes → c.maxLocals = maxL → meth.sig.returnType = ret → meth.locks = false → s.vm.findClass y.cls = some m.cls → meth.name = y.name → Z.Warmed39 s.vm → s₁.heap = h0 → Stand p l e rm s m as' below meth c s₁ [] 0 0 → own_Fin p e below (own_G s Q rm.cells rm.slots) s₁ (g0 m)) :
    own_Met l Z y bytes maxL ret ws rm as' h0 Q :=
  own_body hy (fun p e s m below meth c s₁ Bd hml hZ e0 => own_cast (he m) (body p e s m below meth c s₁ Bd.exec Bd.bytes hml Bd.returns Bd.notSynchronized (findClass_of_methodNamed Bd.named) (name_of_methodNamed Bd.named Bd.method).1 hZ e0 (Stand.of_body Bd)))
theorem own_callQ {C : String} (X : Stand p l e R s m args below meth c T locs cells slots) (hx : p.tables.exec = Jvm.exec) (hZ : Z.Warmed39 s.vm) (hown : s.vm.findClass own = some m.cls) (w1 : (Jvm.Cond.methodLink own index y).before a0 Z = true) (w2 : (Jvm.Cond.instanceMethod y).before a0 Z = true) {kI : Nat} (wi : (Jvm.Cond.instantiable y.cls kI).before a0 Z = true) (w4 : (Jvm.Cond.privateMethod y).before a0 Z = true) (w5 : (Jvm.Cond.code y bytes maxL ret).before a0 Z = true)
    (hy : y.cls ≠ "java/lang/invoke/MethodHandle" ∧ y.cls ≠ "java/lang/invoke/VarHandle")
    (hK : Back l R p e below s args y 3 W (fun A a => a = as' ∧ A.U.heap = h ∧ A.cells + rc ≤ R.cells ∧ A.slots + rs ≤ R.slots) (fun A _ v B => ∃ L, Q v B.U.heap L ∧ B.locs = A.locs ++ L ∧ B.cells = A.cells + rc ∧ B.slots = A.slots + rs))
    (eT : T.heap = h) (E : Exa Z h a C) (hc : cells + rc ≤ R.cells) (hs : slots + rs ≤ R.slots) (hg : g.method = m) (hsize : g.locals.size = c.maxLocals) (hlen : ∀ sig, parseMethodDescriptor y.desc = some sig → argsL.length = sig.parameters.length) (hstack : g.stack = argsL.reverse ++ .ref a :: rest) (has : (.ref a :: argsL).toArray = as') (hW : 2 * g.monitorRoom + (rest.map fun v => v.category).sum ≤ W) (hd : decode c.code g.pc = .ok (.invokevirtual index, 3))
    (k1 : ∀ (v : Option Value) (T' : State) (L : List Loc), Stand p l e R s m args below meth c T' (locs ++ L) (cells + rc) (slots + rs) → Q v T'.heap L → own_Fin p e below G T' { g with pc := g.pc + 3, stack := v.toList ++ rest }) : own_Fin p e below G T g :=
  own_callP X hx hZ hown w1 w2 (own_selP hZ wi w2 w4 hy) w4 w5 hy hK eT E hc hs hg hsize hlen hstack has hW hd k1
theorem own_bO {rm : Room} {len : Nat} (hM : own_Met l Z y bytes maxL ret [] rm as' h Q) (hZ : Z.Warmed39 s.vm) (wc : (Cond.code y bytes maxL ret).before a0 Z = true) (wz : (Cond.initialized y.cls).before a0 Z = true) (hf : Nat.ble (rm.frames + 1) R.frames = true) (hl : Nat.ble (W + (maxL + 11) + rm.locals) R.locals = true) :
    Back l R p e below s args y len W (fun A a => a = as' ∧ A.U.heap = h ∧ A.cells + rm.cells ≤ R.cells ∧ A.slots + rm.slots ≤ R.slots)
      (fun A _ v B => ∃ L, Q v B.U.heap L ∧ B.locs = A.locs ++ L ∧ B.cells = A.cells + rm.cells ∧ B.slots = A.slots + rm.slots) :=
  backOf hM hZ wc wz (Nat.le_of_ble_eq_true hf) (Nat.le_of_ble_eq_true hl)
end OwnKit
end Jvm.Pilot.@@N@@
namespace Jvm.Pilot.@@N@@
open Jvm Jvm.ClassFile Sem Op Lib Jvm.Free Jvm.Stand Jvm.LawKit Jvm.RoadKit Bundle Jvm.Pilot.@@N@@.Jvm.D
section OwnWide
variable {p : Program} {l : Launch} {e : Env} {R : Room} {s : State} {m : MethodId} {args : Array Value} {below : List Frame} {meth : Method} {c : Code} {T T' : State} {locs : List Loc} {cells slots : Nat} {g g' : JFrame} {G : State → Outcome → Prop} {Z : State} {a0 : Array Value} {h : Heap} {y : MethodName} {own : String} {index : Nat} {bytes : ByteArray} {maxL : Nat} {ret : Option FieldType} {W : Nat} {as' : Array Value} {rc rs : Nat} {Q : Option Value → Heap → List Loc → Prop} {argsL rest : List Value} {a b : Addr} {k : ClassId} {ty : FieldType} {n j : Int32} {vs : List Value} {d v : Value} {EL : List (String × Nat)} {vm0 : Vm} {k0 : Nat}
/-- what a body owes at its end, where it (or what it calls) may load literals -/
abbrev own_GW (Z : State) (EL : List (String × Nat)) (s : State) (Q : Option Value → Heap → List Loc → Prop) (rc rs : Nat) : State → Outcome → Prop := fun s₂ o => ∃ v L, o = .returned v ∧ Q v s₂.heap L ∧ CHr Z EL s.vm s.heap s₂.vm s₂.heap ∧ ReturnedEndW s o s₂ L rc rs
theorem own_endW (X : Stand p l e R (s.setVm vm0) m args below meth c T locs cells slots) (hZ : Z.Warmed39 vm0) (hEL : EW Z a0 EL) (hS : s.Since vm0 k0) (hk : k0 ≤ T.heap.size) (CH : CHr Z EL s.vm s.heap vm0 T.heap) {v : Option Value} (hv : meth.sig.returnType = none → v = none) (hlk : meth.locks = false)
    (st : ∀ fs, (∀ (f : JFrame) (acts : List Action), f.method = m → f.locked = none → f.entered = [] → (doReturn e (T.setTop f) acts v).1 = T.setFrames fs) → Steps p.tables e below (T.setTop g) (T.setFrames fs))
    (hQ : Q v T.heap locs) (hc : cells ≤ rc) (hs : slots ≤ rs) : own_Fin p e below (own_GW Z EL s Q rc rs) T g := by
  obtain ⟨fs, hr, hrun, hended, hW, hsame⟩ := X.leave hv hlk
  obtain ⟨q1, q2, q3⟩ := hS.ended hW hk hsame
  exact ⟨_, _, st fs hr, hrun, hended, v, locs, rfl, hQ, (show CHr Z EL s.vm s.heap T.vm T.heap from CH.trans (CHv.at X hZ hEL CH.1)), ⟨_, rfl⟩, q1, q2, q3.mono hc hs⟩
theorem own_retNW (X : Stand p l e R (s.setVm vm0) m args below meth c T locs cells slots) (hx : p.tables.exec = Jvm.exec) (hZ : Z.Warmed39 vm0) (hEL : EW Z a0 EL) (hS : s.Since vm0 k0) (hk : k0 ≤ T.heap.size) (CH : CHr Z EL s.vm s.heap vm0 T.heap) {pc : Nat} {Ls : Array Slot} {z : Int32} {t : FieldType} (hret : meth.sig.returnType = some t) (ht : t = .boolean ∨ t = .byte ∨ t = .char ∨ t = .short) (hd : decode c.code pc = .ok (.ireturn, 1)) (hlk : meth.locks = false)
    (hQ : Q (some (.int (nar t z))) T.heap locs) (hc : cells ≤ rc) (hs : slots ≤ rs) : own_Fin p e below (own_GW Z EL s Q rc rs) T (mkF m pc Ls (.int z :: rest)) :=
  own_endW X hZ hEL hS hk CH (fun q => by rw [hret] at q; cases q) hlk (fun fs hr => retN X hx hret ht hd hr) hQ hc hs
theorem own_retVW (X : Stand p l e R (s.setVm vm0) m args below meth c T locs cells slots) (hx : p.tables.exec = Jvm.exec) (hZ : Z.Warmed39 vm0) (hEL : EW Z a0 EL) (hS : s.Since vm0 k0) (hk : k0 ≤ T.heap.size) (CH : CHr Z EL s.vm s.heap vm0 T.heap) {pc : Nat} {Ls : Array Slot} (hret : meth.sig.returnType = none) (hd : decode c.code pc = .ok (.return_, 1)) (hlk : meth.locks = false)
    (hQ : Q none T.heap locs) (hc : cells ≤ rc) (hs : slots ≤ rs) : own_Fin p e below (own_GW Z EL s Q rc rs) T (mkF m pc Ls []) :=
  own_endW X hZ hEL hS hk CH (fun _ => rfl) hlk (fun fs hr => X.returnOut hx hret hd hr) hQ hc hs
theorem own_bodyW {ws : List Jvm.Cond} {rm : Room} {h0 : Heap} (hy : plainFor y = true)
    (body : ∀ p e s m below meth c s₁, BodyLoose p l y (head1 (Jvm.Cond.code y bytes maxL ret :: ws) rm) bytes maxL ret e s m as' below meth c s₁ → c.maxLocals = maxL → Z.Warmed39 s.vm → s₁.heap = h0 → s.heap = h0 → CHr Z EL s.vm s.heap s.vm h0 → own_Fin p e below (own_GW Z EL s Q rm.cells rm.slots) s₁ (entryFrame m as' maxL)) :
    MetFree l y (head1 (Jvm.Cond.code y bytes maxL ret :: ws) rm) (fun a U => a = as' ∧ Z.Warmed39 U.vm ∧ U.heap = h0 ∧ CHv Z EL U.vm h0) (fun _ _ _ _ _ => True) (fun _ U o U' => ∃ v L, o = .returned v ∧ Q v U'.heap L ∧ CHr Z EL U.vm U.heap U'.vm U'.heap ∧ ReturnedEndW U o U' L rm.cells rm.slots) := by
  refine MetFree.of_bodySF hy hisR ?_
  intro p e s m args below meth c s₁ Bd hml0 hP hK
  obtain ⟨rfl, hZ, hh, hC⟩ := hP
  exact body p e s m below meth c s₁ Bd hml0 hZ (by rw [← hh, Bd.state]; rfl) hh (by rw [hh]; exact CHr.refl hC)
theorem own_callSW (X : Stand p l e R (s.setVm vm0) m args below meth c T locs cells slots) (hx : p.tables.exec = Jvm.exec) (hZ : Z.Warmed39 (s.setVm vm0).vm) (hown : (s.setVm vm0).vm.findClass own = some m.cls) (hS : s.Since vm0 k0) (hk : k0 ≤ h.size) (w1 : (Jvm.Cond.methodLink own index y).before a0 Z = true) (w2 : (Jvm.Cond.static y).before a0 Z = true) (w3 : (Jvm.Cond.initialized y.cls).before a0 Z = true) (w4 : (Jvm.Cond.code y bytes maxL ret).before a0 Z = true) (hy : y.cls ≠ "java/lang/invoke/MethodHandle" ∧ y.cls ≠ "java/lang/invoke/VarHandle")
    (hK : BackS l R p e below (s.setVm vm0) args y 3 W (fun A a => a = as' ∧ A.U.heap = h ∧ A.cells + rc ≤ R.cells ∧ A.slots + rs ≤ R.slots) (fun A _ v B => ∃ L, Q v B.U.heap L ∧ B.locs = A.locs ++ L ∧ B.cells = A.cells + rc ∧ B.slots = A.slots + rs ∧ CHr Z EL vm0 h B.U.vm B.U.heap))
    (eT : T.heap = h) (hc : cells + rc ≤ R.cells) (hs : slots + rs ≤ R.slots) (hg : g.method = m) (hsize : g.locals.size = c.maxLocals) (hlen : ∀ sig, parseMethodDescriptor y.desc = some sig → argsL.length = sig.parameters.length) (hstack : g.stack = argsL.reverse ++ rest) (has : argsL.toArray = as') (hW : 2 * g.monitorRoom + (rest.map fun v => v.category).sum ≤ W) (hd : decode c.code g.pc = .ok (.invokestatic index, 3))
    (k1 : ∀ (v : Option Value) (T' : State) (L : List Loc), Stand p l e R (s.setVm T'.vm) m args below meth c T' (locs ++ L) (cells + rc) (slots + rs) → s.Since T'.vm T'.heap.size → Z.Warmed39 (s.setVm T'.vm).vm → (s.setVm T'.vm).vm.findClass own = some m.cls → CHr Z EL vm0 h T'.vm T'.heap → Q v T'.heap L → own_Fin p e below G T' { g with pc := g.pc + 3, stack := v.toList ++ rest }) : own_Fin p e below G T g := by
  obtain ⟨v, _, ⟨T2, L2, k2, n2⟩, -, X2, hS2, hg2, ⟨L, hQ, e1, e2, e3, hC⟩, st⟩ := callSS X hx hown (mvT hZ w1) (mvT hZ w2) (mvT hZ w3) (mvT hZ w4) hy hK hg hsize hlen hstack hW hd (fun _ _ => ⟨has, eT, hc, hs⟩)
  try dsimp only at X2 e1 e2 e3 st hQ hg2 hS2 hC
  subst e1 e2 e3
  obtain ⟨X3, hS3, hZ3, hown3⟩ := rebS hS hk X2 hS2 (by rw [← eT]; exact hg2) hZ hown
  exact own_step (fun _ q => st.trans q) (k1 v T2 L X3 hS3 hZ3 hown3 hC hQ)
theorem own_callPW {C : String} (X : Stand p l e R (s.setVm vm0) m args below meth c T locs cells slots) (hx : p.tables.exec = Jvm.exec) (hZ : Z.Warmed39 (s.setVm vm0).vm) (hown : (s.setVm vm0).vm.findClass own = some m.cls) (hS : s.Since vm0 k0) (hk : k0 ≤ h.size) (w1 : (Jvm.Cond.methodLink own index y).before a0 Z = true) (w2 : (Jvm.Cond.instanceMethod y).before a0 Z = true) (w3 : (Jvm.Cond.selects y.cls y y).before args (s.setVm vm0) = true) (w4 : (Jvm.Cond.privateMethod y).before a0 Z = true) (w5 : (Jvm.Cond.code y bytes maxL ret).before a0 Z = true) (hy : y.cls ≠ "java/lang/invoke/MethodHandle" ∧ y.cls ≠ "java/lang/invoke/VarHandle")
    (hK : BackS l R p e below (s.setVm vm0) args y 3 W (fun A a => a = as' ∧ A.U.heap = h ∧ A.cells + rc ≤ R.cells ∧ A.slots + rs ≤ R.slots) (fun A _ v B => ∃ L, Q v B.U.heap L ∧ B.locs = A.locs ++ L ∧ B.cells = A.cells + rc ∧ B.slots = A.slots + rs ∧ CHr Z EL vm0 h B.U.vm B.U.heap))
    (eT : T.heap = h) (E : Exa Z h a C) (hc : cells + rc ≤ R.cells) (hs : slots + rs ≤ R.slots) (hg : g.method = m) (hsize : g.locals.size = c.maxLocals) (hlen : ∀ sig, parseMethodDescriptor y.desc = some sig → argsL.length = sig.parameters.length) (hstack : g.stack = argsL.reverse ++ .ref a :: rest) (has : (.ref a :: argsL).toArray = as') (hW : 2 * g.monitorRoom + (rest.map fun v => v.category).sum ≤ W) (hd : decode c.code g.pc = .ok (.invokevirtual index, 3))
    (k1 : ∀ (v : Option Value) (T' : State) (L : List Loc), Stand p l e R (s.setVm T'.vm) m args below meth c T' (locs ++ L) (cells + rc) (slots + rs) → s.Since T'.vm T'.heap.size → Z.Warmed39 (s.setVm T'.vm).vm → (s.setVm T'.vm).vm.findClass own = some m.cls → CHr Z EL vm0 h T'.vm T'.heap → Q v T'.heap L → own_Fin p e below G T' { g with pc := g.pc + 3, stack := v.toList ++ rest }) : own_Fin p e below G T g := by
  obtain ⟨cq, q, q'⟩ := E.cell
  obtain ⟨v, _, ⟨T2, L2, k2, n2⟩, -, X2, hS2, hg2, ⟨L, hQ, e1, e2, e3, hC⟩, st⟩ := X.privateBackS hx hown (mvT hZ w1) (mvT hZ w2) w3 (Cond.privateMethod_at (mvP hZ w4 (args := #[]))) (mvT hZ w5) hy hK hg hsize (Steps.refl _) (a := a) (by rw [eT]; exact q) q' hlen hstack hW hd (fun _ _ => ⟨has, eT, hc, hs⟩)
  try dsimp only at X2 e1 e2 e3 st hQ hg2 hS2 hC
  subst e1 e2 e3
  obtain ⟨X3, hS3, hZ3, hown3⟩ := rebS hS hk X2 hS2 (by rw [← eT]; exact hg2) hZ hown
  exact own_step (fun _ q => st.trans q) (k1 v T2 L X3 hS3 hZ3 hown3 hC hQ)
def own_MetW (l : Launch) (Z : State) (EL : List (String × Nat)) (y : MethodName) (bytes : ByteArray) (maxL : Nat) (ret : Option FieldType) (ws : List Jvm.Cond) (rm : Room) (as' : Array Value) (h0 : Heap) (Q : Option Value → Heap → List Loc → Prop) : Prop :=
  MetFree l y (head1 (Jvm.Cond.code y bytes maxL ret :: ws) rm) (fun a U => a = as' ∧ Z.Warmed39 U.vm ∧ U.heap = h0 ∧ CHv Z EL U.vm h0) (fun _ _ _ _ _ => True) (fun _ U o U' => ∃ v L, o = .returned v ∧ Q v U'.heap L ∧ CHr Z EL U.vm U.heap U'.vm U'.heap ∧ ReturnedEndW U o U' L rm.cells rm.slots)
theorem own_bodyNW {ws : List Jvm.Cond} {rm : Room} {h0 : Heap} {g0 : MethodId → JFrame} (hy : plainFor y = true) (he : ∀ m, entryFrame m as' maxL = g0 m)
    (body : ∀ p e s m below meth c s₁, p.tables.exec = Jvm.exec → c.code = bytes → c.maxLocals = maxL → meth.sig.returnType = ret → meth.locks = false → (s.setVm s.vm).vm.findClass y.cls = some m.cls → meth.name = y.name → Z.Warmed39 (s.setVm s.vm).vm → s₁.heap = h0 → Stand p l e rm (s.setVm s.vm) m as' below meth c s₁ [] 0 0 → s.Since s.vm h0.size → CHr Z EL s.vm s.heap s.vm h0 → own_Fin p e below (own_GW Z EL s Q rm.cells rm.slots) s₁ (g0 m)) :
    own_MetW l Z EL y bytes maxL ret ws rm as' h0 Q :=
  own_bodyW hy (fun p e s m below meth c s₁ Bd hml hZ e0 _ CH => own_cast (he m) (body p e s m below meth c s₁ Bd.exec Bd.bytes hml Bd.returns Bd.notSynchronized (findClass_of_methodNamed Bd.named) (name_of_methodNamed Bd.named Bd.method).1 hZ e0 (Stand.of_body Bd) ((State.WarmedH.refl s).since h0.size) CH))
theorem own_callQW {C : String} (X : Stand p l e R (s.setVm vm0) m args below meth c T locs cells slots) (hx : p.tables.exec = Jvm.exec) (hZ : Z.Warmed39 (s.setVm vm0).vm) (hown : (s.setVm vm0).vm.findClass own = some m.cls) (hS : s.Since vm0 k0) (hk : k0 ≤ h.size) (w1 : (Jvm.Cond.methodLink own index y).before a0 Z = true) (w2 : (Jvm.Cond.instanceMethod y).before a0 Z = true) {kI : Nat} (wi : (Jvm.Cond.instantiable y.cls kI).before a0 Z = true) (w4 : (Jvm.Cond.privateMethod y).before a0 Z = true) (w5 : (Jvm.Cond.code y bytes maxL ret).before a0 Z = true) (hy : y.cls ≠ "java/lang/invoke/MethodHandle" ∧ y.cls ≠ "java/lang/invoke/VarHandle")
    (hK : BackS l R p e below (s.setVm vm0) args y 3 W (fun A a => a = as' ∧ A.U.heap = h ∧ A.cells + rc ≤ R.cells ∧ A.slots + rs ≤ R.slots) (fun A _ v B => ∃ L, Q v B.U.heap L ∧ B.locs = A.locs ++ L ∧ B.cells = A.cells + rc ∧ B.slots = A.slots + rs ∧ CHr Z EL vm0 h B.U.vm B.U.heap))
    (eT : T.heap = h) (E : Exa Z h a C) (hc : cells + rc ≤ R.cells) (hs : slots + rs ≤ R.slots) (hg : g.method = m) (hsize : g.locals.size = c.maxLocals) (hlen : ∀ sig, parseMethodDescriptor y.desc = some sig → argsL.length = sig.parameters.length) (hstack : g.stack = argsL.reverse ++ .ref a :: rest) (has : (.ref a :: argsL).toArray = as') (hW : 2 * g.monitorRoom + (rest.map fun v => v.category).sum ≤ W) (hd : decode c.code g.pc = .ok (.invokevirtual index, 3))
    (k1 : ∀ (v : Option Value) (T' : State) (L : List Loc), Stand p l e R (s.setVm T'.vm) m args below meth c T' (locs ++ L) (cells + rc) (slots + rs) → s.Since T'.vm T'.heap.size → Z.Warmed39 (s.setVm T'.vm).vm → (s.setVm T'.vm).vm.findClass own = some m.cls → CHr Z EL vm0 h T'.vm T'.heap → Q v T'.heap L → own_Fin p e below G T' { g with pc := g.pc + 3, stack := v.toList ++ rest }) : own_Fin p e below G T g :=
  own_callPW X hx hZ hown hS hk w1 w2 (own_selP hZ wi w2 w4 hy) w4 w5 hy hK eT E hc hs hg hsize hlen hstack has hW hd k1
theorem own_bW {rm : Room} {len : Nat} (hM : own_MetW l Z EL y bytes maxL ret [] rm as' h Q) (hZ : Z.Warmed39 vm0) (wc : (Cond.code y bytes maxL ret).before a0 Z = true) (wz : (Cond.initialized y.cls).before a0 Z = true) (hf : Nat.ble (rm.frames + 1) R.frames = true) (hl : Nat.ble (W + (maxL + 11) + rm.locals) R.locals = true) (hEL : EW Z a0 EL) (H : CHv Z EL vm0 h) :
    BackS l R p e below (s.setVm vm0) args y len W (fun A a => a = as' ∧ A.U.heap = h ∧ A.cells + rm.cells ≤ R.cells ∧ A.slots + rm.slots ≤ R.slots)
      (fun A _ v B => ∃ L, Q v B.U.heap L ∧ B.locs = A.locs ++ L ∧ B.cells = A.cells + rm.cells ∧ B.slots = A.slots + rm.slots ∧ CHr Z EL vm0 h B.U.vm B.U.heap) :=
  backOfSH hM hZ wc wz (Nat.le_of_ble_eq_true hf) (Nat.le_of_ble_eq_true hl) hEL H
end OwnWide
end Jvm.Pilot.@@N@@
namespace Jvm.Pilot.@@N@@
open Jvm Jvm.ClassFile Sem Op Lib Jvm.Free Jvm.Stand Jvm.LawKit Jvm.RoadKit Bundle Jvm.Pilot.@@N@@.Jvm.D
abbrev own_Ea (Z : State) (h : Heap) (a : Addr) : Prop := Exa Z h a "com/example/tote/tote/JsonText"
abbrev own_Ft (Z : State) (h : Heap) (a : Addr) (v : Value) : Prop := Fld Z h a "com/example/tote/tote/JsonText" "text" "Ljava/lang/String;" v
abbrev own_Fp (Z : State) (h : Heap) (a : Addr) (v : Value) : Prop := Fld Z h a "com/example/tote/tote/JsonText" "pos" "I" v
abbrev own_Sv (Z : State) (h : Heap) (a : Addr) (v : Value) : Prop := Fld Z h a "java/lang/String" "value" "[B" v
abbrev own_Sc (Z : State) (h : Heap) (a : Addr) (v : Value) : Prop := Fld Z h a "java/lang/String" "coder" "B" v
abbrev own_Es (Z : State) (h : Heap) (a : Addr) : Prop := Exa Z h a "java/lang/String"
abbrev own_O2 (Z : State) (G1 : Int32) : Prop := Sta Z Z.heap "java/lang/String" "COMPACT_STRINGS" "Z" (.int G1)
abbrev own_O4 (Z : State) (G3 : Value) : Prop := Sta Z Z.heap "jdk/internal/util/Preconditions" "SIOOBE_FORMATTER" "Ljava/util/function/BiFunction;" G3
abbrev own_U0 (Z : State) : Prop := Sta Z Z.heap "java/lang/StringUTF16" "$assertionsDisabled" "Z" (.int (1 : Int32))
abbrev own_U1 (Z : State) : Prop := Sta Z Z.heap "java/lang/StringUTF16" "HI_BYTE_SHIFT" "I" (.int (0 : Int32))
abbrev own_U2 (Z : State) : Prop := Sta Z Z.heap "java/lang/StringUTF16" "LO_BYTE_SHIFT" "I" (.int (8 : Int32))
abbrev own_R16 (cs : List Int32) : Prop := ∀ z ∈ cs, ¬ z < 0 ∧ ¬ (65535 : Int32) < z
theorem own_nat {a : Nat} (h : a < 2 ^ 31) : (Int32.ofNat a).toNatClampNeg = a := by
  have e : (Int32.ofNat a).toInt = (a : Int) := Int32.toInt_ofNat_of_lt (by omega)
  rw [Int32.toNatClampNeg, e]; rfl
theorem own_toInt {a : Nat} (h : a < 2 ^ 31) : (Int32.ofNat a).toInt = (a : Int) := Int32.toInt_ofNat_of_lt (by omega)
theorem own_clamp_lt (x : Int32) : x.toNatClampNeg < 2 ^ 31 := by
  have h1 := x.toInt_lt
  rw [Int32.toNatClampNeg]; omega
theorem own_ixin {a : Nat} {N : Int32} (hN : ¬ N < 0) (h : a < N.toNatClampNeg) : ¬ Int32.ofNat a < 0 ∧ Int32.ofNat a < N := by
  have hb := own_clamp_lt N
  have e := own_toInt (a := a) (by omega)
  rw [Int32.lt_iff_toInt_lt] at hN
  rw [Int32.lt_iff_toInt_lt, Int32.lt_iff_toInt_lt, e]
  have z : (0 : Int32).toInt = 0 := rfl
  rw [z] at *
  rw [Int32.toNatClampNeg] at h
  omega
theorem own_inc (a : Nat) : Int32.ofNat a + (1 : Int32) = Int32.ofNat (a + 1) := (inc_ofNat a).symm
theorem own_shl1 {i : Nat} (h : 2 * i < 2 ^ 31) : Int32.ofNat i <<< ((1 : Int32) &&& 31) = Int32.ofNat (2 * i) := by
  have e : ((1 : Int32) &&& 31) = 1 := by decide
  rw [e]
  apply Int32.toBitVec_inj.mp
  show (BitVec.ofNat 32 i) <<< _ = BitVec.ofNat 32 (2 * i)
  apply BitVec.eq_of_toNat_eq
  simp [BitVec.toNat_shiftLeft, Nat.shiftLeft_eq]
  omega
theorem own_ltN {a b : Nat} (ha : a < 2 ^ 31) (hb : b < 2 ^ 31) : Int32.ofNat a < Int32.ofNat b ↔ a < b := by
  rw [Int32.lt_iff_toInt_lt, own_toInt ha, own_toInt hb]; omega
theorem own_nneg {a : Nat} (h : a < 2 ^ 31) : ¬ Int32.ofNat a < 0 := by
  rw [Int32.lt_iff_toInt_lt, own_toInt h]; have z : (0 : Int32).toInt = 0 := rfl; omega
theorem own_narC {c : Int32} (h0 : ¬ c < 0) (h1 : ¬ 65535 < c) : nar .char c = c := by
  have q := StrChars.narrow_ch h0 h1
  have e : narrow .char (.int c) = .int (nar .char c) := rfl
  rw [e] at q; exact Value.int.inj q
theorem own_getD_mem {cs : List Int32} {i : Nat} (h : i < cs.length) : cs.getD i 0 ∈ cs := by
  rw [List.getD_eq_getElem?_getD, List.getElem?_eq_getElem h]; exact List.getElem_mem h
theorem own_lo8lo8 (x : Int32) : (StrChars.lo8 x).toInt8.toInt32 = StrChars.lo8 x := by simp [StrChars.lo8]
theorem own_getD_set {vs : List Value} {i j : Nat} {u dv : Value} (h : i < vs.length) : (vs.set i u).getD j dv = if j = i then u else vs.getD j dv := by
  rw [List.getD_eq_getElem?_getD, List.getD_eq_getElem?_getD, List.getElem?_set]
  by_cases q : i = j
  · subst q; simp [h]
  · have q' : ¬ j = i := fun z => q z.symm
    simp [q, q']
theorem own_mapD {cs : List Int32} {i : Nat} (h : i < cs.length) {dv : Value} : (cs.map Value.int).getD i dv = .int (cs.getD i 0) := by
  rw [List.getD_eq_getElem?_getD, List.getD_eq_getElem?_getD, List.getElem?_map, List.getElem?_eq_getElem h]; rfl
def own_Wide (cs : List Int32) (i : Nat) (vs : List Value) : Prop := ∀ j, j < i → vs.getD (2 * j) (.int 0) = .int (StrChars.lo8 (cs.getD j 0)) ∧ vs.getD (2 * j + 1) (.int 0) = .int (StrChars.hi8 (cs.getD j 0))
theorem own_Wide.step {cs : List Int32} {i : Nat} {vs : List Value} (h : own_Wide cs i vs) (hl : 2 * i + 1 < vs.length) : own_Wide cs (i + 1) ((vs.set (2 * i) (.int (StrChars.lo8 (cs.getD i 0)))).set (2 * i + 1) (.int (StrChars.hi8 (cs.getD i 0)))) := fun j hj => by
  have e : ∀ (u w : Value) (k : Nat), ((vs.set (2 * i) u).set (2 * i + 1) w).getD k (.int 0) = if k = 2 * i + 1 then w else if k = 2 * i then u else vs.getD k (.int 0) := fun u w k => by
    rw [own_getD_set (by rw [List.length_set]; omega), own_getD_set (by omega)]
  rw [e, e]
  by_cases q : j = i
  · subst q; exact ⟨by rw [if_neg (by omega), if_pos rfl], if_pos rfl⟩
  · rw [if_neg (by omega), if_neg (by omega), if_neg (by omega), if_neg (by omega)]; exact h j (by omega)
theorem own_wide_len : ∀ cs : List Int32, (StrChars.Road.wideBytes cs).length = 2 * cs.length
  | [] => rfl
  | c :: cs => by rw [StrChars.Road.wideBytes]; simp [own_wide_len cs]; omega
theorem own_Wide.eq {cs : List Int32} {vs : List Value} (h : own_Wide cs cs.length vs) (hl : vs.length = 2 * cs.length) : vs = StrChars.Road.wideBytes cs := by
  apply List.ext_getElem (by rw [hl, own_wide_len])
  intro i h1 h2
  have g1 : vs.getD i (.int 0) = vs[i] := by rw [List.getD_eq_getElem?_getD, List.getElem?_eq_getElem h1]; rfl
  have g2 : (StrChars.Road.wideBytes cs).getD i (.int 0) = (StrChars.Road.wideBytes cs)[i] := by rw [List.getD_eq_getElem?_getD, List.getElem?_eq_getElem h2]; rfl
  rw [← g1, ← g2]
  rcases Nat.mod_two_eq_zero_or_one i with q | q
  · obtain ⟨j, rfl⟩ : ∃ j, i = 2 * j := ⟨i / 2, by omega⟩
    rw [(h j (by omega)).1, StrChars.Road.wide_lo _ _ _ (by omega)]
  · obtain ⟨j, rfl⟩ : ∃ j, i = 2 * j + 1 := ⟨i / 2, by omega⟩
    rw [(h j (by omega)).2, StrChars.Road.wide_hi _ _ _ (by omega)]
def own_Lat (cs : List Int32) (i : Nat) (vs : List Value) : Prop := ∀ j, j < i → vs.getD j (.int 0) = .int (StrChars.lo8 (cs.getD j 0)) ∧ ¬ 255 < cs.getD j 0
theorem own_Lat.step {cs : List Int32} {i : Nat} {vs : List Value} (h : own_Lat cs i vs) (hl : i < vs.length) (hc : ¬ 255 < cs.getD i 0) : own_Lat cs (i + 1) (vs.set i (.int (StrChars.lo8 (cs.getD i 0)))) := fun j hj => by
  rw [own_getD_set hl]
  by_cases q : j = i
  · subst q; exact ⟨if_pos rfl, hc⟩
  · rw [if_neg q]; exact h j (by omega)
def own_Cmp (cs : List Int32) (r : Nat) (vs : List Value) : Prop := (r = cs.length ∧ vs = (cs.map fun z => Value.int (StrChars.lo8 z)) ∧ ∀ z ∈ cs, ¬ 255 < z) ∨ (r < cs.length ∧ 255 < cs.getD r 0)
theorem own_Lat.all {cs : List Int32} {vs : List Value} (h : own_Lat cs cs.length vs) (hl : vs.length = cs.length) : own_Cmp cs cs.length vs := by
  refine Or.inl ⟨rfl, ?_, fun z hz => ?_⟩
  · apply List.ext_getElem (by simp [hl])
    intro i h1 h2
    have g1 : vs.getD i (.int 0) = vs[i] := by rw [List.getD_eq_getElem?_getD, List.getElem?_eq_getElem h1]; rfl
    have hi : i < cs.length := by omega
    have g2 : cs.getD i 0 = cs[i] := by rw [List.getD_eq_getElem?_getD, List.getElem?_eq_getElem hi]; rfl
    rw [← g1, (h i hi).1, g2]; simp
  · obtain ⟨i, hi, rfl⟩ := List.getElem_of_mem hz
    have g2 : cs.getD i 0 = cs[i] := by rw [List.getD_eq_getElem?_getD, List.getElem?_eq_getElem hi]; rfl
    rw [← g2]; exact (h i hi).2
theorem own_cfal_eq {cs : List Int32} {cd N2 : Int32} {vs : List Value} (hc : StrChars.Road.CodA cs cd N2 vs) (h0 : 0 < cs.length) (h1 : cs.length ≤ 400) : nar .byte ((XT.ushr (Int32.ofNat cs.length - N2) (31 : Int32)).toInt8.toInt32) = cd := by
  rcases hc with ⟨rfl, rfl, -, -⟩ | ⟨rfl, rfl, -, -⟩
  · have e : Int32.ofNat cs.length - Int32.ofNat cs.length = 0 := by apply Int32.toBitVec_inj.mp; simp
    rw [e]; decide
  · have t : ∀ k : Fin 400, nar .byte ((XT.ushr (Int32.ofNat (k.val + 1) - Int32.ofNat (2 * (k.val + 1))) (31 : Int32)).toInt8.toInt32) = 1 := by decide +kernel
    have q := t ⟨cs.length - 1, by omega⟩
    have e : cs.length - 1 + 1 = cs.length := by omega
    simp only [e] at q; exact q
theorem own_CodA.cd {cs : List Int32} {cd N2 : Int32} {vs : List Value} (hc : StrChars.Road.CodA cs cd N2 vs) : cd = 0 ∨ cd = 1 := hc.imp (·.1) (·.1)
theorem own_narB {cs : List Int32} {cd N2 : Int32} {vs : List Value} (hc : StrChars.Road.CodA cs cd N2 vs) : narrow .byte (.int cd) = .int cd := by rcases own_CodA.cd hc with rfl | rfl <;> rfl
theorem own_fitB {cs : List Int32} {cd N2 : Int32} {vs : List Value} (hc : StrChars.Road.CodA cs cd N2 vs) : fits .byte (.int cd) = true := by rcases own_CodA.cd hc with rfl | rfl <;> rfl
theorem own_addN52 (a b : Nat) : Int32.ofNat a + Int32.ofNat b = Int32.ofNat (a + b) := by
  apply Int32.toBitVec_inj.mp
  show BitVec.ofNat 32 a + BitVec.ofNat 32 b = BitVec.ofNat 32 (a + b)
  rw [BitVec.ofNat_add]
theorem own_sub0 (lo hi k : Int32) {z : Int32} (h1 : ¬ z < lo) (h2 : ¬ hi < z) (h3 : ¬ lo < 0 ∧ ¬ (200 : Int32) < hi ∧ ¬ k < 0 ∧ ¬ (20 : Int32) < k) : ¬ (z - lo + k) < 0 := by
  rw [Int32.lt_iff_toInt_lt] at h1 h2 h3 ⊢
  rw [Int32.lt_iff_toInt_lt, Int32.lt_iff_toInt_lt, Int32.lt_iff_toInt_lt] at h3
  have e0 : (0 : Int32).toInt = 0 := rfl
  have e1 : (200 : Int32).toInt = 200 := rfl
  have e2 : (20 : Int32).toInt = 20 := rfl
  rw [e0, e1, e2] at h3
  rw [e0, Int32.toInt_add, Int32.toInt_sub]
  have b1 : (z.toInt - lo.toInt).bmod (2 ^ 32) = z.toInt - lo.toInt := by rw [Int.bmod_def]; omega
  rw [b1, Int.bmod_def]; omega
theorem own_len8 {cs : List Int32} {cd N2 : Int32} {vs : List Value} (hc : StrChars.Road.CodA cs cd N2 vs) (h : cs.length = 8) : N2 >>> (cd &&& 31) = 8 := by
  rcases hc with ⟨rfl, rfl, -, -⟩ | ⟨rfl, rfl, -, -⟩ <;> rw [h] <;> decide
theorem own_lt8 {p : Nat} (h : p < 8) : (Int32.ofNat p) < (8 : Int32) := by
  have t : ∀ k : Fin 8, (Int32.ofNat k.val) < (8 : Int32) := by decide
  exact t ⟨p, h⟩
theorem own_ge8 {p : Nat} (h : p = 8) : ¬ (Int32.ofNat p) < (8 : Int32) := by rw [h]; decide
theorem own_ws8 {z : Int32} (h : z = (32 : Int32) ∨ z = (9 : Int32) ∨ z = (10 : Int32) ∨ z = (13 : Int32)) : z.toInt8.toInt32 = z ∧ (¬ z < 0 ∧ ¬ (255 : Int32) < z) := by rcases h with rfl | rfl | rfl | rfl <;> decide
theorem own_asc8 {z : Int32} (h : ¬ z < 0 ∧ ¬ (127 : Int32) < z) : z.toInt8.toInt32 = z ∧ (¬ z < 0 ∧ ¬ (255 : Int32) < z) := by
  have t : ∀ k : Fin 128, (Int32.ofNat k.val).toInt8.toInt32 = Int32.ofNat k.val ∧ (¬ Int32.ofNat k.val < 0 ∧ ¬ (255 : Int32) < Int32.ofNat k.val) := by decide +kernel
  have h1 := h.1; have h2 := h.2
  rw [Int32.lt_iff_toInt_lt] at h1 h2
  have e1 : (0 : Int32).toInt = 0 := rfl
  have e2 : (127 : Int32).toInt = 127 := rfl
  rw [e1] at h1; rw [e2] at h2
  have e : z = Int32.ofNat z.toInt.toNat := by
    apply Int32.toInt_inj.mp
    rw [Int32.toInt_ofNat_of_lt (by omega)]; omega
  rw [e]
  exact t ⟨z.toInt.toNat, by omega⟩
theorem own_sw3 {i n : Nat} {A B : Prop} (h : i ≤ n) (q : A ∨ B) : i < n ∨ (i = n ∧ A) ∨ (i = n ∧ B) := by
  rcases Nat.lt_or_eq_of_le h with k | k
  · exact Or.inl k
  · exact Or.inr (q.imp (fun a => ⟨k, a⟩) (fun a => ⟨k, a⟩))
def own_wh (z : Int32) : Prop := z = (32 : Int32) ∨ z = (9 : Int32) ∨ z = (10 : Int32) ∨ z = (13 : Int32)
def own_nwh (z : Int32) : Prop := (¬ z = (32 : Int32) ∧ ¬ z = (9 : Int32) ∧ ¬ z = (10 : Int32) ∧ ¬ z = (13 : Int32)) ∧ (¬ z < 0 ∧ ¬ (127 : Int32) < z)
def own_hv (z w : Int32) : Prop := ((¬ z < (48 : Int32) ∧ ¬ (57 : Int32) < z) ∧ w = z - (48 : Int32)) ∨ ((¬ z < (97 : Int32) ∧ ¬ (102 : Int32) < z) ∧ ¬ (¬ z < (48 : Int32) ∧ ¬ (57 : Int32) < z) ∧ w = (z - (97 : Int32)) + (10 : Int32)) ∨ ((¬ z < (65 : Int32) ∧ ¬ (70 : Int32) < z) ∧ ¬ (¬ z < (48 : Int32) ∧ ¬ (57 : Int32) < z) ∧ z < (97 : Int32) ∧ w = (z - (65 : Int32)) + (10 : Int32))
def own_hu (fd : Nat → Int32) : Nat → Int32
  | 0 => 0
  | i + 1 => own_hu fd i * (16 : Int32) + fd i
theorem own_lt4 {k : Nat} (h : k < 4) : (Int32.ofNat k) < (4 : Int32) := by
  have t : ∀ k : Fin 4, (Int32.ofNat k.val) < (4 : Int32) := by decide
  exact t ⟨k, h⟩
theorem own_ge4 {k : Nat} (h : k = 4) : ¬ (Int32.ofNat k) < (4 : Int32) := by rw [h]; decide
theorem own_hv0 {z w : Int32} (h : own_hv z w) : ¬ w < 0 := by
  rcases h with ⟨⟨a, b⟩, rfl⟩ | ⟨⟨a, b⟩, -, rfl⟩ | ⟨⟨a, b⟩, -, -, rfl⟩
  · have q := own_sub0 48 57 0 a b (by decide); rwa [Int32.add_zero] at q
  · exact own_sub0 97 102 10 a b (by decide)
  · exact own_sub0 65 70 10 a b (by decide)
theorem own_x8 {z : Int32} (h : z = (34 : Int32) ∨ z = (92 : Int32) ∨ z = (47 : Int32) ∨ z = (98 : Int32) ∨ z = (102 : Int32) ∨ z = (110 : Int32) ∨ z = (114 : Int32) ∨ z = (116 : Int32)) : ¬ z = (117 : Int32) ∧ z.toInt8.toInt32 = z ∧ (¬ z < 0 ∧ ¬ (255 : Int32) < z) := by rcases h with rfl | rfl | rfl | rfl | rfl | rfl | rfl | rfl <;> decide
def own_pl (z : Int32) : Prop := ¬ z = (34 : Int32) ∧ ¬ z = (92 : Int32) ∧ ¬ z < (32 : Int32) ∧ ¬ (¬ z < (55296 : Int32) ∧ z < (57344 : Int32))
def own_hi (z : Int32) : Prop := ¬ z < (55296 : Int32) ∧ z < (56320 : Int32)
def own_lo (z : Int32) : Prop := ¬ z < (56320 : Int32) ∧ z < (57344 : Int32)
def own_ex (z : Int32) : Prop := z = (34 : Int32) ∨ z = (92 : Int32) ∨ z = (47 : Int32) ∨ z = (98 : Int32) ∨ z = (102 : Int32) ∨ z = (110 : Int32) ∨ z = (114 : Int32) ∨ z = (116 : Int32)
def own_eu (cs : List Int32) (i : Nat) : Prop := ∃ (fd : Nat → Int32) (uu : Int32), cs.getD (i + 1) 0 = (117 : Int32) ∧ (∀ j, j < 4 → own_hv (cs.getD (i + 1 + 1 + j) 0) (fd j)) ∧ nar .char ((own_hu fd 4).toUInt32.toUInt16.toUInt32.toInt32) = uu ∧ ¬ uu = 0 ∧ ¬ (¬ uu < (55296 : Int32) ∧ uu < (57344 : Int32))
def own_so (cs : List Int32) (qe : Nat) : Nat → Nat → Prop
  | 0, i => i = qe
  | k + 1, i => (i + 1 < 8 ∧ own_pl (cs.getD i 0) ∧ own_so cs qe k (i + 1)) ∨ (i + 1 < 8 ∧ own_hi (cs.getD i 0) ∧ own_lo (cs.getD (i + 1) 0) ∧ own_so cs qe k (i + 2)) ∨ (i + 1 < 8 ∧ cs.getD i 0 = (92 : Int32) ∧ own_ex (cs.getD (i + 1) 0) ∧ own_so cs qe k (i + 2)) ∨ (i + 6 ≤ 8 ∧ cs.getD i 0 = (92 : Int32) ∧ own_eu cs i ∧ own_so cs qe k (i + 6))
theorem own_so_cases {cs : List Int32} {qe : Nat} : ∀ {k i : Nat}, own_so cs qe k i → (k = 0 ∧ i = qe) ∨ (∃ k', k = k' + 1 ∧ i + 1 < 8 ∧ own_pl (cs.getD i 0) ∧ own_so cs qe k' (i + 1)) ∨ (∃ k', k = k' + 1 ∧ i + 1 < 8 ∧ own_hi (cs.getD i 0) ∧ own_lo (cs.getD (i + 1) 0) ∧ own_so cs qe k' (i + 2)) ∨ (∃ k', k = k' + 1 ∧ i + 1 < 8 ∧ cs.getD i 0 = (92 : Int32) ∧ own_ex (cs.getD (i + 1) 0) ∧ own_so cs qe k' (i + 2)) ∨ (∃ k', k = k' + 1 ∧ i + 6 ≤ 8 ∧ cs.getD i 0 = (92 : Int32) ∧ own_eu cs i ∧ own_so cs qe k' (i + 6))
  | 0, _, h => Or.inl ⟨rfl, h⟩
  | k + 1, _, h => Or.inr (h.imp (fun q => ⟨k, rfl, q⟩) (Or.imp (fun q => ⟨k, rfl, q⟩) (Or.imp (fun q => ⟨k, rfl, q⟩) (fun q => ⟨k, rfl, q⟩))))
theorem own_so_lt {cs : List Int32} {qe : Nat} : ∀ {k i : Nat}, own_so cs qe k i → i < 8 ∨ i = qe := fun h => by rcases own_so_cases h with q | ⟨_, _, q, _⟩ | ⟨_, _, q, _⟩ | ⟨_, _, q, _⟩ | ⟨_, _, q, _⟩ <;> omega
theorem own_pl_hi {z : Int32} (h : own_pl z) : ¬ (¬ z < (55296 : Int32) ∧ z < (56320 : Int32)) := fun q => h.2.2.2 ⟨q.1, by have := q.2; rw [Int32.lt_iff_toInt_lt] at this ⊢; have e1 : (56320 : Int32).toInt = 56320 := rfl; have e2 : (57344 : Int32).toInt = 57344 := rfl; omega⟩
theorem own_hi_n {z : Int32} (h : own_hi z) : ¬ z = (34 : Int32) ∧ ¬ z = (92 : Int32) ∧ ¬ z < (32 : Int32) := by
  have h1 := h.1; rw [Int32.lt_iff_toInt_lt] at h1; have e1 : (55296 : Int32).toInt = 55296 := rfl; rw [e1] at h1
  refine ⟨fun q => ?_, fun q => ?_, fun q => ?_⟩
  · rw [q] at h1; exact h1 (by decide)
  · rw [q] at h1; exact h1 (by decide)
  · rw [Int32.lt_iff_toInt_lt] at q; have e2 : (32 : Int32).toInt = 32 := rfl; omega
theorem own_inc2 (k : Nat) : Int32.ofNat k + (2 : Int32) = Int32.ofNat (k + 2) := own_addN52 k 2
def own_lw (cs : List Int32) (pn : Nat) (wl : List Int32) : Prop := ∀ j, j < wl.length → cs.getD (pn + j) 0 = wl.getD j 0
theorem own_n7 {k : Nat} (h : k ≤ 7) : ¬ (7 : Int32) < (Int32.ofNat k) := by
  have t : ∀ k : Fin 8, ¬ (7 : Int32) < (Int32.ofNat k.val) := by decide
  exact t ⟨k, by omega⟩
theorem own_zadd (z : Int32) : (0 : Int32) + z = z := Int32.zero_add z
theorem own_in8 {k : Nat} {N2 : Int32} (h : k < 8) (q : N2 = (8 : Int32)) : ¬ (Int32.ofNat k) < 0 ∧ (Int32.ofNat k) < N2 := by rw [q]; exact ⟨own_nneg (by omega), own_lt8 h⟩
theorem own_sub8 {a b : Nat} (h : a + b ≤ 8) : ¬ ((8 : Int32) - Int32.ofNat b) < Int32.ofNat a := by
  have t : ∀ a b : Fin 9, a.val + b.val ≤ 8 → ¬ ((8 : Int32) - Int32.ofNat b.val) < Int32.ofNat a.val := by decide +kernel
  exact t ⟨a, by omega⟩ ⟨b, by omega⟩ h
theorem own_dgn {z : Int32} (h : ¬ z < (48 : Int32) ∧ ¬ (57 : Int32) < z) : ¬ z = (45 : Int32) ∧ ¬ z = (34 : Int32) ∧ ¬ z = (91 : Int32) ∧ ¬ z = (123 : Int32) ∧ ¬ z = (43 : Int32) ∧ ¬ z = (93 : Int32) := by
  refine ⟨fun q => ?_, fun q => ?_, fun q => ?_, fun q => ?_, fun q => ?_, fun q => ?_⟩ <;> (subst q; revert h; decide)
theorem own_d49 {z : Int32} (h : ¬ z < (48 : Int32) ∧ ¬ (57 : Int32) < z) (q : ¬ z = (48 : Int32)) : ¬ z < (49 : Int32) := fun k => q (by
  have h1 := h.1
  rw [Int32.lt_iff_toInt_lt] at k h1
  have e1 : (48 : Int32).toInt = 48 := rfl
  have e2 : (49 : Int32).toInt = 49 := rfl
  exact Int32.toInt_inj.mp (by omega))
theorem own_subN52 (a b : Nat) : Int32.ofNat (a + b) - Int32.ofNat a = Int32.ofNat b := by
  rw [← own_addN52, Int32.add_comm, Int32.add_sub_cancel]
theorem own_mag {k : Nat} (h1 : 1 ≤ k) (h2 : k ≤ 8) : ¬ (131071 : Int64) < ((Int32.ofNat k - (1 : Int32)).toInt64 + (0 : Int64)) := by
  have t : ∀ k : Fin 9, 1 ≤ k.val → ¬ (131071 : Int64) < ((Int32.ofNat k.val - (1 : Int32)).toInt64 + (0 : Int64)) := by decide +kernel
  exact t ⟨k, by omega⟩ h1
def own_jd (z : Int32) : Int64 := (((0 : Int64) * (10 : Int64)) + (z.toInt64)) - (48 : Int64)
theorem own_dig10 {z : Int32} (h : ¬ z < (48 : Int32) ∧ ¬ (57 : Int32) < z) : ∃ k : Fin 10, z = Int32.ofNat (48 + k.val) := by
  have h1 := h.1; have h2 := h.2
  rw [Int32.lt_iff_toInt_lt] at h1 h2
  have e1 : (48 : Int32).toInt = 48 := rfl
  have e2 : (57 : Int32).toInt = 57 := rfl
  refine ⟨⟨(z.toInt - 48).toNat, by omega⟩, Int32.toInt_inj.mp ?_⟩
  rw [Int32.toInt_ofNat_of_lt (by show 48 + (z.toInt - 48).toNat < _; omega)]
  show z.toInt = ((48 + (z.toInt - 48).toNat : Nat) : Int)
  omega
theorem own_jdb {z : Int32} (h : ¬ z < (48 : Int32) ∧ ¬ (57 : Int32) < z) : ¬ own_jd z < (0 : Int64) ∧ ¬ (1073741823 : Int64) < own_jd z ∧ ¬ (1073741822 : Int64) < own_jd z ∧ ¬ (16383 : Int64) < ((1 : Int64) - own_jd z) ∧ ¬ (131071 : Int64) < ((0 : Int64) + own_jd z) ∧ ¬ (131071 : Int64) < ((own_jd z - (0 : Int64)) - (1 : Int64)) := by
  obtain ⟨k, rfl⟩ := own_dig10 h
  have t : ∀ k : Fin 10, ¬ own_jd (Int32.ofNat (48 + k.val)) < (0 : Int64) ∧ ¬ (1073741823 : Int64) < own_jd (Int32.ofNat (48 + k.val)) ∧ ¬ (1073741822 : Int64) < own_jd (Int32.ofNat (48 + k.val)) ∧ ¬ (16383 : Int64) < ((1 : Int64) - own_jd (Int32.ofNat (48 + k.val))) ∧ ¬ (131071 : Int64) < ((0 : Int64) + own_jd (Int32.ofNat (48 + k.val))) ∧ ¬ (131071 : Int64) < ((own_jd (Int32.ofNat (48 + k.val)) - (0 : Int64)) - (1 : Int64)) := by decide +kernel
  exact t k
theorem own_e5 {z : Int32} (h : z = (101 : Int32) ∨ z = (69 : Int32)) : ¬ (¬ z < (48 : Int32) ∧ ¬ (57 : Int32) < z) := by rcases h with rfl | rfl <;> decide
theorem own_n46 {z : Int32} (h : z = (46 : Int32)) : ¬ (¬ z < (48 : Int32) ∧ ¬ (57 : Int32) < z) := by subst h; decide
theorem own_nwd {z : Int32} (h : ¬ z < (48 : Int32) ∧ ¬ (57 : Int32) < z) : own_nwh z := by
  obtain ⟨k, rfl⟩ := own_dig10 h
  have t : ∀ k : Fin 10, own_nwh (Int32.ofNat (48 + k.val)) := by unfold own_nwh; decide
  exact t k
theorem own_nwe {z k : Int32} (h : z = k) (q : own_nwh k) : own_nwh z := h ▸ q
theorem own_nwc : own_nwh 34 ∧ own_nwh 44 ∧ own_nwh 58 ∧ own_nwh 91 ∧ own_nwh 93 ∧ own_nwh 123 ∧ own_nwh 125 := by unfold own_nwh; decide
def own_na (cs : List Int32) (pn q : Nat) : Prop := ∃ nd, q = pn + nd ∧ 1 ≤ nd ∧ pn + nd < 8 ∧ (∀ i, i < nd → ¬ cs.getD (pn + i) 0 < (48 : Int32) ∧ ¬ (57 : Int32) < cs.getD (pn + i) 0) ∧ (cs.getD pn 0 = (48 : Int32) → nd = 1) ∧ ¬ (¬ cs.getD (pn + nd) 0 < (48 : Int32) ∧ ¬ (57 : Int32) < cs.getD (pn + nd) 0) ∧ ¬ cs.getD (pn + nd) 0 = (46 : Int32) ∧ ¬ cs.getD (pn + nd) 0 = (101 : Int32) ∧ ¬ cs.getD (pn + nd) 0 = (69 : Int32)
def own_vin (cs : List Int32) (pn q : Nat) : Prop := own_na cs pn q ∨ (pn = 4 ∧ q = 6 ∧ cs.getD 4 0 = (91 : Int32) ∧ cs.getD 5 0 = (93 : Int32))
theorem own_v1 {cs : List Int32} {k : Nat} {z : Int32} (h : ¬ cs.getD k 0 < (48 : Int32) ∧ ¬ (57 : Int32) < cs.getD k 0) (q : cs.getD (k + 1) 0 = z) (h8 : k + 1 < 8 := by decide) (hz : ¬ (¬ z < (48 : Int32) ∧ ¬ (57 : Int32) < z) ∧ ¬ z = (46 : Int32) ∧ ¬ z = (101 : Int32) ∧ ¬ z = (69 : Int32) := by decide) : own_vin cs k (k + 1) :=
  Or.inl ⟨1, rfl, Nat.le_refl _, h8, fun i hi => by have hi0 : i = 0 := (by omega); rw [hi0]; exact h, fun _ => rfl, by rw [q]; exact hz.1, by rw [q]; exact hz.2.1, by rw [q]; exact hz.2.2.1, by rw [q]; exact hz.2.2.2⟩
def own_li (cs : List Int32) (pn q : Nat) : Prop := (¬ cs.getD pn 0 = (123 : Int32) ∧ ¬ cs.getD pn 0 = (91 : Int32) ∧ ¬ cs.getD pn 0 = (34 : Int32) ∧ ¬ cs.getD pn 0 = (45 : Int32) ∧ ¬ (¬ cs.getD pn 0 < (48 : Int32) ∧ ¬ (57 : Int32) < cs.getD pn 0)) ∧ (∀ z ∈ cs, ¬ z < 0 ∧ ¬ (127 : Int32) < z) ∧ pn ≤ 3 ∧ ((own_lw cs pn [(116 : Int32), (114 : Int32), (117 : Int32), (101 : Int32)] ∧ q = pn + 4) ∨ (¬ own_lw cs pn [(116 : Int32), (114 : Int32), (117 : Int32), (101 : Int32)] ∧ ((own_lw cs pn [(102 : Int32), (97 : Int32), (108 : Int32), (115 : Int32), (101 : Int32)] ∧ q = pn + 5) ∨ (¬ own_lw cs pn [(102 : Int32), (97 : Int32), (108 : Int32), (115 : Int32), (101 : Int32)] ∧ own_lw cs pn [(110 : Int32), (117 : Int32), (108 : Int32), (108 : Int32)] ∧ q = pn + 4))))
def own_nb (cs : List Int32) (pn : Nat) : Prop := ((cs.getD pn 0 = (45 : Int32) ∧ pn = 1) ∨ (¬ cs.getD pn 0 = (45 : Int32) ∧ pn = 2)) ∧ (¬ cs.getD 2 0 < (48 : Int32) ∧ ¬ (57 : Int32) < cs.getD 2 0) ∧ (cs.getD 3 0 = (46 : Int32)) ∧ (¬ cs.getD 4 0 < (48 : Int32) ∧ ¬ (57 : Int32) < cs.getD 4 0) ∧ (cs.getD 5 0 = (101 : Int32) ∨ cs.getD 5 0 = (69 : Int32)) ∧ (¬ cs.getD 6 0 < (48 : Int32) ∧ ¬ (57 : Int32) < cs.getD 6 0) ∧ (¬ (¬ cs.getD 7 0 < (48 : Int32) ∧ ¬ (57 : Int32) < cs.getD 7 0))
def own_ar (cs : List Int32) (pn : Nat) : Prop := pn = 1 ∧ cs.getD 1 0 = (91 : Int32) ∧ (¬ cs.getD 2 0 < (48 : Int32) ∧ ¬ (57 : Int32) < cs.getD 2 0) ∧ cs.getD 3 0 = (44 : Int32) ∧ cs.getD 4 0 = (91 : Int32) ∧ cs.getD 5 0 = (93 : Int32) ∧ cs.getD 6 0 = (93 : Int32)
def own_ob (cs : List Int32) (pn : Nat) : Prop := pn = 1 ∧ cs.getD 1 0 = (123 : Int32) ∧ cs.getD 2 0 = (34 : Int32) ∧ cs.getD 3 0 = (34 : Int32) ∧ cs.getD 4 0 = (58 : Int32) ∧ (¬ cs.getD 5 0 < (48 : Int32) ∧ ¬ (57 : Int32) < cs.getD 5 0) ∧ cs.getD 6 0 = (125 : Int32)
def own_sv (cs : List Int32) (pn q : Nat) : Prop := ∃ qe k, cs.getD pn 0 = (34 : Int32) ∧ own_so cs qe k (pn + 1) ∧ cs.getD qe 0 = (34 : Int32) ∧ qe < 8 ∧ pn + 1 < 8 ∧ q = qe + 1 ∧ k ≤ 4
def own_val (cs : List Int32) (pn q : Nat) : Prop := own_sv cs pn q ∨ own_na cs pn q ∨ (own_nb cs pn ∧ q = 7) ∨ own_li cs pn q ∨ (own_ar cs pn ∧ q = 7) ∨ (own_ob cs pn ∧ q = 7)
theorem own_low_at52 {cs : List Int32} {i : Nat} (h : i < cs.length) : (cs.map fun z => Value.int (StrChars.lo8 z)).getD i (.int 0) = .int (cs.getD i 0).toInt8.toInt32 := by
  rw [List.getD_eq_getElem?_getD, List.getElem?_map, List.getD_eq_getElem?_getD, List.getElem?_eq_getElem h]; rfl
theorem own_lat8 {cs : List Int32} {cd N2 : Int32} {vs : List Value} (hc : StrChars.Road.CodA cs cd N2 vs) (h : cs.length = 8) (ha : ∀ z ∈ cs, ¬ z < 0 ∧ ¬ (127 : Int32) < z) : cd = (0 : Int32) ∧ N2 = (8 : Int32) ∧ ∀ i, i < 8 → vs.getD i (.int 0) = .int (cs.getD i 0) := by
  rcases hc with ⟨rfl, rfl, rfl, -⟩ | ⟨-, -, -, z, hz, hbig⟩
  · refine ⟨rfl, by rw [h]; rfl, fun i hi => ?_⟩
    have hm : cs.getD i 0 ∈ cs := own_getD_mem (by omega)
    rw [own_low_at52 (by omega)]
    exact congrArg Value.int (own_asc8 (ha _ hm)).1
  · refine absurd hbig ?_
    have q := (ha z hz).2
    rw [Int32.lt_iff_toInt_lt] at q ⊢
    have e1 : (127 : Int32).toInt = 127 := rfl
    have e2 : (255 : Int32).toInt = 255 := rfl
    omega
theorem own_sg {cs : List Int32} {pn : Nat} (h : (cs.getD pn 0 = (45 : Int32) ∧ pn = 1) ∨ (¬ cs.getD pn 0 = (45 : Int32) ∧ pn = 2)) (q : ¬ cs.getD 2 0 < (48 : Int32) ∧ ¬ (57 : Int32) < cs.getD 2 0) : ¬ cs.getD pn 0 = (123 : Int32) ∧ ¬ cs.getD pn 0 = (91 : Int32) ∧ ¬ cs.getD pn 0 = (34 : Int32) := by
  rcases h with ⟨hm, -⟩ | ⟨-, rfl⟩
  · rw [hm]; decide
  · exact ⟨(own_dgn q).2.2.2.1, (own_dgn q).2.2.1, (own_dgn q).2.1⟩
def own_ok (cs : List Int32) : Prop := ∃ m1 q m2, m1 ≤ 2 ∧ m2 ≤ 2 ∧ m1 < 8 ∧ (∀ i, i < m1 → own_wh (cs.getD (0 + i) 0)) ∧ own_nwh (cs.getD (0 + m1) 0) ∧ own_val cs m1 q ∧ (∀ i, i < m2 → own_wh (cs.getD (q + i) 0)) ∧ q + m2 = 8
theorem own_mask (x : Int32) (k : Nat) (hk : k < 2 ^ 31) : ∃ S : Nat, S ≤ k ∧ (x &&& Int32.ofNat k) = Int32.ofNat S := by
  refine ⟨(x &&& Int32.ofNat k).toBitVec.toNat, ?_, ?_⟩
  · simp only [Int32.toBitVec_and, BitVec.toNat_and]
    refine Nat.le_trans Nat.and_le_right ?_
    show (BitVec.ofNat 32 k).toNat ≤ k
    rw [BitVec.toNat_ofNat]; exact Nat.mod_le _ _
  · apply Int32.toBitVec_inj.mp
    show _ = BitVec.ofNat 32 _
    rw [BitVec.ofNat_toNat]; simp
def own_c16 (z : Int32) : Prop := ¬ z < 0 ∧ ¬ (65535 : Int32) < z
theorem own_n16 {z : Int32} (h : own_c16 z) : nar .char z = z := own_narC h.1 h.2
theorem own_ic {z : Int32} (h : own_c16 z) : z.toUInt32.toUInt16.toUInt32.toInt32 = z := own_n16 h
theorem own_nic {z : Int32} (h : own_c16 z) : nar .char (z.toUInt32.toUInt16.toUInt32.toInt32) = z := by rw [own_ic h, own_n16 h]
theorem own_c16S {S : Nat} (h : S ≤ 65535) : own_c16 (Int32.ofNat S) := ⟨own_nneg (by omega), fun q => by
  have q' : Int32.ofNat 65535 < Int32.ofNat S := q
  rw [own_ltN (by omega) (by omega)] at q'; omega⟩
theorem own_wh16 {z : Int32} (h : own_wh z) : own_c16 z := by rcases h with rfl | rfl | rfl | rfl <;> exact ⟨by decide, by decide⟩
theorem own_dg16 {z : Int32} (h : ¬ z < (48 : Int32) ∧ ¬ (57 : Int32) < z) : own_c16 z := by
  obtain ⟨k, rfl⟩ := own_dig10 h
  exact own_c16S (by have := k.isLt; omega)
theorem own_idx (x : Int32) (k : Nat) (hk : k < 100) : ¬ (x &&& Int32.ofNat k) < 0 ∧ (x &&& Int32.ofNat k) < Int32.ofNat (k + 1) ∧ (x &&& Int32.ofNat k).toNatClampNeg ≤ k := by
  obtain ⟨S, h, e⟩ := own_mask x k (by omega)
  rw [e]
  exact ⟨own_nneg (by omega), (own_ltN (by omega) (by omega)).mpr (by omega), by rw [own_nat (by omega)]; exact h⟩
def own_wsv (x : Int32) : Int32 := [(32 : Int32), (9 : Int32), (10 : Int32), (13 : Int32)].getD (x &&& (3 : Int32)).toNatClampNeg 0
theorem own_wsw (x : Int32) : own_wh (own_wsv x) := by
  have h := (own_idx x 3 (by decide)).2.2
  have t : ∀ k : Fin 4, own_wh ([(32 : Int32), (9 : Int32), (10 : Int32), (13 : Int32)].getD k.val 0) := by unfold own_wh; decide
  exact t ⟨(x &&& (3 : Int32)).toNatClampNeg, Nat.lt_succ_of_le h⟩
theorem own_m16 (x : Int32) : own_c16 (x &&& (65535 : Int32)) := by
  obtain ⟨S, h, e⟩ := own_mask x 65535 (by decide)
  have e' : (x &&& (65535 : Int32)) = Int32.ofNat S := e
  rw [e']; exact own_c16S h
def own_sp (z : Int32) : Prop := own_pl z ∧ own_c16 z
theorem own_sp97 : own_sp 97 := by unfold own_sp own_pl own_c16; decide
theorem own_ns57 {z : Int32} (h : (57343 : Int32) < z) : ¬ (¬ z < (55296 : Int32) ∧ z < (57344 : Int32)) := fun q => by
  have h2 := q.2
  rw [Int32.lt_iff_toInt_lt] at h h2
  have e1 : (57343 : Int32).toInt = 57343 := rfl
  have e2 : (57344 : Int32).toInt = 57344 := rfl
  omega
theorem own_rem {x : Int32} (k : Nat) (h0 : 0 < k) (hk : k < 100) : ∃ S : Nat, S < k ∧ ((x &&& (2147483647 : Int32)) % Int32.ofNat k) = Int32.ofNat S := by
  obtain ⟨S, h, e⟩ := own_mask x 2147483647 (by decide)
  have e' : (x &&& (2147483647 : Int32)) = Int32.ofNat S := e
  refine ⟨S % k, Nat.mod_lt _ h0, ?_⟩
  rw [e']
  apply Int32.toInt_inj.mp
  rw [Int32.toInt_mod, own_toInt (by omega), own_toInt (by omega), own_toInt (Nat.lt_of_lt_of_le (Nat.mod_lt _ h0) (by omega))]
  rw [Int.tmod_eq_emod_of_nonneg (by omega)]
  omega
def own_dgv (x : Int32) : Int32 := (48 : Int32) + ((x &&& (2147483647 : Int32)) % (10 : Int32))
theorem own_dgd (x : Int32) : ¬ own_dgv x < (48 : Int32) ∧ ¬ (57 : Int32) < own_dgv x := by
  obtain ⟨S, h, e⟩ := own_rem (x := x) 10 (by decide) (by decide)
  have e' : ((x &&& (2147483647 : Int32)) % (10 : Int32)) = Int32.ofNat S := e
  unfold own_dgv
  rw [e']
  have t : ∀ k : Fin 10, ¬ ((48 : Int32) + Int32.ofNat k.val) < (48 : Int32) ∧ ¬ (57 : Int32) < ((48 : Int32) + Int32.ofNat k.val) := by decide
  exact t ⟨S, h⟩
def own_d9v (x : Int32) : Int32 := (49 : Int32) + ((x &&& (2147483647 : Int32)) % (9 : Int32))
theorem own_d9d (x : Int32) : (¬ own_d9v x < (48 : Int32) ∧ ¬ (57 : Int32) < own_d9v x) ∧ ¬ own_d9v x = (48 : Int32) := by
  obtain ⟨S, h, e⟩ := own_rem (x := x) 9 (by decide) (by decide)
  have e' : ((x &&& (2147483647 : Int32)) % (9 : Int32)) = Int32.ofNat S := e
  unfold own_d9v
  rw [e']
  have t : ∀ k : Fin 9, (¬ ((49 : Int32) + Int32.ofNat k.val) < (48 : Int32) ∧ ¬ (57 : Int32) < ((49 : Int32) + Int32.ofNat k.val)) ∧ ¬ ((49 : Int32) + Int32.ofNat k.val) = (48 : Int32) := by decide
  exact t ⟨S, h⟩
def own_hsv (x : Int32) : Int32 := (55296 : Int32) + (x &&& (1023 : Int32))
def own_lsv (x : Int32) : Int32 := (56320 : Int32) + (x &&& (1023 : Int32))
theorem own_hsd (x : Int32) : own_hi (own_hsv x) ∧ own_c16 (own_hsv x) := by
  obtain ⟨S, h, e⟩ := own_mask x 1023 (by decide)
  have e' : own_hsv x = Int32.ofNat (55296 + S) := by rw [← own_addN52, ← e]; rfl
  rw [e']
  refine ⟨⟨fun q => ?_, ?_⟩, own_c16S (by omega)⟩
  · have q' : Int32.ofNat (55296 + S) < Int32.ofNat 55296 := q
    rw [own_ltN (by omega) (by omega)] at q'; omega
  · show Int32.ofNat (55296 + S) < Int32.ofNat 56320
    rw [own_ltN (by omega) (by omega)]; omega
theorem own_lsd (x : Int32) : own_lo (own_lsv x) ∧ own_c16 (own_lsv x) := by
  obtain ⟨S, h, e⟩ := own_mask x 1023 (by decide)
  have e' : own_lsv x = Int32.ofNat (56320 + S) := by rw [← own_addN52, ← e]; rfl
  rw [e']
  refine ⟨⟨fun q => ?_, ?_⟩, own_c16S (by omega)⟩
  · have q' : Int32.ofNat (56320 + S) < Int32.ofNat 56320 := q
    rw [own_ltN (by omega) (by omega)] at q'; omega
  · show Int32.ofNat (56320 + S) < Int32.ofNat 57344
    rw [own_ltN (by omega) (by omega)]; omega
def own_exv (x : Int32) : Int32 := [(34 : Int32), (92 : Int32), (47 : Int32), (98 : Int32), (102 : Int32), (110 : Int32), (114 : Int32), (116 : Int32)].getD (x &&& (7 : Int32)).toNatClampNeg 0
theorem own_exd (x : Int32) : own_ex (own_exv x) ∧ own_c16 (own_exv x) := by
  have h := (own_idx x 7 (by decide)).2.2
  have t : ∀ k : Fin 8, own_ex ([(34 : Int32), (92 : Int32), (47 : Int32), (98 : Int32), (102 : Int32), (110 : Int32), (114 : Int32), (116 : Int32)].getD k.val 0) ∧ own_c16 ([(34 : Int32), (92 : Int32), (47 : Int32), (98 : Int32), (102 : Int32), (110 : Int32), (114 : Int32), (116 : Int32)].getD k.val 0) := by unfold own_ex own_c16; decide
  exact t ⟨(x &&& (7 : Int32)).toNatClampNeg, Nat.lt_succ_of_le h⟩
def own_hL (up : Bool) : List Int32 := [(48 : Int32), (49 : Int32), (50 : Int32), (51 : Int32), (52 : Int32), (53 : Int32), (54 : Int32), (55 : Int32), (56 : Int32), (57 : Int32)] ++ (if up then [(65 : Int32), (66 : Int32), (67 : Int32), (68 : Int32), (69 : Int32), (70 : Int32)] else [(97 : Int32), (98 : Int32), (99 : Int32), (100 : Int32), (101 : Int32), (102 : Int32)])
def own_hx1 (up : Bool) (x : Int32) : Int32 := (own_hL up).getD (x &&& (15 : Int32)).toNatClampNeg 0
theorem own_hvx (up : Bool) (x : Int32) : own_hv (own_hx1 up x) (x &&& (15 : Int32)) ∧ own_c16 (own_hx1 up x) := by
  obtain ⟨S, h, e⟩ := own_mask x 15 (by decide)
  have e' : (x &&& (15 : Int32)) = Int32.ofNat S := e
  unfold own_hx1
  rw [e', own_nat (by omega)]
  have t : ∀ (up : Bool) (k : Fin 16), own_hv ((own_hL up).getD k.val 0) (Int32.ofNat k.val) ∧ own_c16 ((own_hL up).getD k.val 0) := by unfold own_hv own_c16; decide
  exact t up ⟨S, by omega⟩
theorem own_us {S k : Nat} (hS : S < 2 ^ 31) (hk : k < 32) : XT.ushr (Int32.ofNat S) (Int32.ofNat k) = Int32.ofNat (S / 2 ^ k) := by
  have e : (Int32.ofNat k &&& 31) = Int32.ofNat k := by
    have t : ∀ k : Fin 32, (Int32.ofNat k.val &&& 31) = Int32.ofNat k.val := by decide
    exact t ⟨k, hk⟩
  unfold XT.ushr
  rw [e]
  apply Int32.toBitVec_inj.mp
  apply BitVec.eq_of_toNat_eq
  have t : ∀ k : Fin 32, ((Int32.ofNat k.val).toUInt32).toNat % 32 = k.val := by decide
  have tk := t ⟨k, hk⟩
  show (((Int32.ofNat S).toUInt32 >>> (Int32.ofNat k).toUInt32)).toNat = (BitVec.ofNat 32 (S / 2 ^ k)).toNat
  rw [UInt32.toNat_shiftRight, Nat.shiftRight_eq_div_pow, BitVec.toNat_ofNat]
  have e2 : ((Int32.ofNat S).toUInt32).toNat = S := by
    show (BitVec.ofNat 32 S).toNat = S
    rw [BitVec.toNat_ofNat]; omega
  rw [e2, tk, Nat.mod_eq_of_lt]
  exact Nat.lt_of_le_of_lt (Nat.div_le_self _ _) (by omega)
theorem own_and15 {S : Nat} (h : S < 2 ^ 31) : (Int32.ofNat S &&& (15 : Int32)) = Int32.ofNat (S % 16) := by
  apply Int32.toBitVec_inj.mp
  apply BitVec.eq_of_toNat_eq
  show ((BitVec.ofNat 32 S) &&& (BitVec.ofNat 32 15)).toNat = (BitVec.ofNat 32 (S % 16)).toNat
  rw [BitVec.toNat_and, BitVec.toNat_ofNat, BitVec.toNat_ofNat, BitVec.toNat_ofNat, show 15 % 2 ^ 32 = 2 ^ 4 - 1 from rfl, Nat.and_two_pow_sub_one_eq_mod]
  omega
def own_fdu (uv : Int32) (j : Nat) : Int32 := if j = 0 then (XT.ushr uv (12 : Int32)) &&& (15 : Int32) else if j = 1 then (XT.ushr uv (8 : Int32)) &&& (15 : Int32) else if j = 2 then (XT.ushr uv (4 : Int32)) &&& (15 : Int32) else uv &&& (15 : Int32)
theorem own_fdu_eq {S : Nat} (h : S ≤ 65535) : own_hu (own_fdu (Int32.ofNat S)) 4 = Int32.ofNat S := by
  have e3 : own_fdu (Int32.ofNat S) 3 = Int32.ofNat (S % 16) := own_and15 (by omega)
  have e0 : own_fdu (Int32.ofNat S) 0 = Int32.ofNat (S / 2 ^ 12 % 16) := by
    show (XT.ushr (Int32.ofNat S) (Int32.ofNat 12)) &&& (15 : Int32) = _
    rw [own_us (by omega) (by decide), own_and15 (by omega)]
  have e1 : own_fdu (Int32.ofNat S) 1 = Int32.ofNat (S / 2 ^ 8 % 16) := by
    show (XT.ushr (Int32.ofNat S) (Int32.ofNat 8)) &&& (15 : Int32) = _
    rw [own_us (by omega) (by decide), own_and15 (by omega)]
  have e2 : own_fdu (Int32.ofNat S) 2 = Int32.ofNat (S / 2 ^ 4 % 16) := by
    show (XT.ushr (Int32.ofNat S) (Int32.ofNat 4)) &&& (15 : Int32) = _
    rw [own_us (by omega) (by decide), own_and15 (by omega)]
  have m : ∀ a b : Nat, Int32.ofNat a * (16 : Int32) + Int32.ofNat b = Int32.ofNat (a * 16 + b) := fun a b => by
    rw [← own_addN52]
    congr 1
    apply Int32.toBitVec_inj.mp
    show BitVec.ofNat 32 a * BitVec.ofNat 32 16 = BitVec.ofNat 32 (a * 16)
    rw [BitVec.ofNat_mul]
  show ((((0 : Int32) * (16 : Int32) + own_fdu (Int32.ofNat S) 0) * (16 : Int32) + own_fdu (Int32.ofNat S) 1) * (16 : Int32) + own_fdu (Int32.ofNat S) 2) * (16 : Int32) + own_fdu (Int32.ofNat S) 3 = Int32.ofNat S
  rw [e0, e1, e2, e3, show (0 : Int32) = Int32.ofNat 0 from rfl, m, m, m, m]
  congr 1
  omega
theorem own_c16N {z : Int32} (h : own_c16 z) : ∃ S : Nat, S ≤ 65535 ∧ z = Int32.ofNat S := by
  have h1 := h.1; have h2 := h.2
  rw [Int32.lt_iff_toInt_lt] at h1 h2
  have e1 : (65535 : Int32).toInt = 65535 := rfl
  have e0 : (0 : Int32).toInt = 0 := rfl
  refine ⟨z.toInt.toNat, by omega, Int32.toInt_inj.mp ?_⟩
  rw [own_toInt (by omega)]; omega
def own_uok (uv : Int32) : Prop := own_c16 uv ∧ ¬ uv = 0 ∧ ¬ (¬ uv < (55296 : Int32) ∧ uv < (57344 : Int32))
theorem own_r8 {z0 z1 z2 z3 z4 z5 z6 z7 : Int32} (h0 : own_c16 z0) (h1 : own_c16 z1) (h2 : own_c16 z2) (h3 : own_c16 z3) (h4 : own_c16 z4) (h5 : own_c16 z5) (h6 : own_c16 z6) (h7 : own_c16 z7) : ∀ z ∈ [z0, z1, z2, z3, z4, z5, z6, z7], ¬ z < 0 ∧ ¬ (65535 : Int32) < z := own_allS h0 (own_allS h1 (own_allS h2 (own_allS h3 (own_allS h4 (own_allS h5 (own_allS h6 (own_allS h7 own_all0)))))))
theorem own_i1 {P : Nat → Prop} (h : P 0) : ∀ i, i < 1 → P i := fun i hi => by have hi0 : i = 0 := (by omega); rw [hi0]; exact h
theorem own_i2 {P : Nat → Prop} (h : P 0) (q : P 1) : ∀ i, i < 2 → P i := fun i hi => by
  match i, hi with
  | 0, _ => exact h
  | 1, _ => exact q
theorem own_i0 {P : Nat → Prop} : ∀ i, i < 0 → P i := fun i hi => absurd hi (Nat.not_lt_zero _)
def own_KK (cs : List Int32) : Prop := own_ok cs ∧ ∀ z ∈ cs, ¬ z < 0 ∧ ¬ (65535 : Int32) < z
theorem own_k0 {z0 z2 z3 z4 z5 z7 : Int32} (h0 : own_wh z0) (h7 : own_wh z7) (p2 : own_sp z2) (p3 : own_sp z3) (p4 : own_sp z4) (p5 : own_sp z5) : own_KK [z0, (34 : Int32), z2, z3, z4, z5, (34 : Int32), z7] :=
  ⟨⟨1, 7, 1, by decide, by decide, by decide, own_i1 h0, own_nwc.1, Or.inl ⟨6, 4, rfl, Or.inl ⟨by decide, p2.1, Or.inl ⟨by decide, p3.1, Or.inl ⟨by decide, p4.1, Or.inl ⟨by decide, p5.1, rfl⟩⟩⟩⟩, rfl, by decide, by decide, rfl, by decide⟩, own_i1 h7, rfl⟩, own_r8 (own_wh16 h0) ⟨by decide, by decide⟩ p2.2 p3.2 p4.2 p5.2 ⟨by decide, by decide⟩ (own_wh16 h7)⟩
theorem own_k0f {z0 z2 z3 z4 z5 z7 : Int32} (h0 : own_wh z0) (h7 : own_wh z7) (p2 : own_sp z2) (p3 : own_hi z3 ∧ own_c16 z3) (p4 : own_lo z4 ∧ own_c16 z4) (p5 : own_sp z5) : own_KK [z0, (34 : Int32), z2, z3, z4, z5, (34 : Int32), z7] :=
  ⟨⟨1, 7, 1, by decide, by decide, by decide, own_i1 h0, own_nwc.1, Or.inl ⟨6, 3, rfl, Or.inl ⟨by decide, p2.1, Or.inr (Or.inl ⟨by decide, p3.1, p4.1, Or.inl ⟨by decide, p5.1, rfl⟩⟩)⟩, rfl, by decide, by decide, rfl, by decide⟩, own_i1 h7, rfl⟩, own_r8 (own_wh16 h0) ⟨by decide, by decide⟩ p2.2 p3.2 p4.2 p5.2 ⟨by decide, by decide⟩ (own_wh16 h7)⟩
theorem own_k1 {z0 z3 z4 z5 z7 : Int32} (h0 : own_wh z0) (h7 : own_wh z7) (p3 : own_ex z3 ∧ own_c16 z3) (p4 : own_sp z4) (p5 : own_sp z5) : own_KK [z0, (34 : Int32), (92 : Int32), z3, z4, z5, (34 : Int32), z7] :=
  ⟨⟨1, 7, 1, by decide, by decide, by decide, own_i1 h0, own_nwc.1, Or.inl ⟨6, 3, rfl, Or.inr (Or.inr (Or.inl ⟨by decide, rfl, p3.1, Or.inl ⟨by decide, p4.1, Or.inl ⟨by decide, p5.1, rfl⟩⟩⟩)), rfl, by decide, by decide, rfl, by decide⟩, own_i1 h7, rfl⟩, own_r8 (own_wh16 h0) ⟨by decide, by decide⟩ ⟨by decide, by decide⟩ p3.2 p4.2 p5.2 ⟨by decide, by decide⟩ (own_wh16 h7)⟩
theorem own_wn {z : Int32} (h : own_wh z) : ¬ (¬ z < (48 : Int32) ∧ ¬ (57 : Int32) < z) := by rcases h with rfl | rfl | rfl | rfl <;> decide
theorem own_k2 {z0 z2 z4 z5 z6 z7 : Int32} (fl : Bool) (h0 : own_wh z0) (h7 : own_wh z7) (d2 : ¬ z2 < (48 : Int32) ∧ ¬ (57 : Int32) < z2) (d4 : ¬ z4 < (48 : Int32) ∧ ¬ (57 : Int32) < z4) (h5 : z5 = (101 : Int32) ∨ z5 = (69 : Int32)) (d6 : ¬ z6 < (48 : Int32) ∧ ¬ (57 : Int32) < z6) : own_KK [z0, if fl then (45 : Int32) else (32 : Int32), z2, (46 : Int32), z4, z5, z6, z7] := by
  have r : ∀ z1 : Int32, own_c16 z1 → ∀ z ∈ [z0, z1, z2, (46 : Int32), z4, z5, z6, z7], ¬ z < 0 ∧ ¬ (65535 : Int32) < z := fun z1 q => own_r8 (own_wh16 h0) q (own_dg16 d2) ⟨by decide, by decide⟩ (own_dg16 d4) (by rcases h5 with rfl | rfl <;> exact ⟨by decide, by decide⟩) (own_dg16 d6) (own_wh16 h7)
  cases fl
  · exact ⟨⟨2, 7, 1, by decide, by decide, by decide, own_i2 h0 (Or.inl rfl), own_nwd d2, Or.inr (Or.inr (Or.inl ⟨⟨Or.inr ⟨(own_dgn d2).1, rfl⟩, d2, rfl, d4, h5, d6, own_wn h7⟩, rfl⟩)), own_i1 h7, rfl⟩, r _ ⟨by decide, by decide⟩⟩
  · exact ⟨⟨1, 7, 1, by decide, by decide, by decide, own_i1 h0, (by unfold own_nwh; decide : own_nwh 45), Or.inr (Or.inr (Or.inl ⟨⟨Or.inl ⟨rfl, rfl⟩, d2, rfl, d4, h5, d6, own_wn h7⟩, rfl⟩)), own_i1 h7, rfl⟩, r _ ⟨by decide, by decide⟩⟩
theorem own_wh127 {z : Int32} (h : own_wh z) : ¬ z < 0 ∧ ¬ (127 : Int32) < z := by rcases h with rfl | rfl | rfl | rfl <;> decide
theorem own_lw4 {cs : List Int32} {pn : Nat} {w0 w1 w2 w3 : Int32} (h0 : cs.getD (pn + 0) 0 = w0) (h1 : cs.getD (pn + 1) 0 = w1) (h2 : cs.getD (pn + 2) 0 = w2) (h3 : cs.getD (pn + 3) 0 = w3) : own_lw cs pn [w0, w1, w2, w3] := fun j hj => by
  match j, hj with
  | 0, _ => exact h0
  | 1, _ => exact h1
  | 2, _ => exact h2
  | 3, _ => exact h3
theorem own_lw5 {cs : List Int32} {pn : Nat} {w0 w1 w2 w3 w4 : Int32} (h0 : cs.getD (pn + 0) 0 = w0) (h1 : cs.getD (pn + 1) 0 = w1) (h2 : cs.getD (pn + 2) 0 = w2) (h3 : cs.getD (pn + 3) 0 = w3) (h4 : cs.getD (pn + 4) 0 = w4) : own_lw cs pn [w0, w1, w2, w3, w4] := fun j hj => by
  match j, hj with
  | 0, _ => exact h0
  | 1, _ => exact h1
  | 2, _ => exact h2
  | 3, _ => exact h3
  | 4, _ => exact h4
theorem own_nlw {cs : List Int32} {pn : Nat} {w0 : Int32} {wl : List Int32} (h : ¬ cs.getD (pn + 0) 0 = w0) : ¬ own_lw cs pn (w0 :: wl) := fun q => h (q 0 (Nat.succ_pos _))
theorem own_a8 {z0 z1 z2 z3 z4 z5 z6 z7 : Int32} (h0 : own_wh z0) (h7 : own_wh z7) (q : ∀ z ∈ [z1, z2, z3, z4, z5, z6], ¬ z < 0 ∧ ¬ (127 : Int32) < z) : ∀ z ∈ [z0, z1, z2, z3, z4, z5, z6, z7], ¬ z < 0 ∧ ¬ (127 : Int32) < z := fun z hz => by
  rcases List.mem_cons.mp hz with rfl | hz
  · exact own_wh127 h0
  · rcases List.mem_append.mp (show z ∈ [z1, z2, z3, z4, z5, z6] ++ [z7] from hz) with k | k
    · exact q z k
    · rw [List.mem_singleton.mp k]; exact own_wh127 h7
theorem own_up127 {cs : List Int32} (h : ∀ z ∈ cs, ¬ z < 0 ∧ ¬ (127 : Int32) < z) : ∀ z ∈ cs, ¬ z < 0 ∧ ¬ (65535 : Int32) < z := fun z hz => ⟨(h z hz).1, fun q => (h z hz).2 (by
  rw [Int32.lt_iff_toInt_lt] at q ⊢
  have e1 : (127 : Int32).toInt = 127 := rfl
  have e2 : (65535 : Int32).toInt = 65535 := rfl
  omega)⟩
theorem own_k3t {z0 z7 : Int32} (h0 : own_wh z0) (h7 : own_wh z7) : own_KK [z0, (32 : Int32), (116 : Int32), (114 : Int32), (117 : Int32), (101 : Int32), (32 : Int32), z7] :=
  ⟨⟨2, 6, 2, by decide, by decide, by decide, own_i2 h0 (Or.inl rfl), (by unfold own_nwh; decide : own_nwh 116), Or.inr (Or.inr (Or.inr (Or.inl ⟨(by decide : ¬ (116 : Int32) = 123 ∧ ¬ (116 : Int32) = 91 ∧ ¬ (116 : Int32) = 34 ∧ ¬ (116 : Int32) = 45 ∧ ¬ (¬ (116 : Int32) < 48 ∧ ¬ (57 : Int32) < 116)), own_a8 h0 h7 (by decide), by decide, Or.inl ⟨own_lw4 rfl rfl rfl rfl, rfl⟩⟩))), own_i2 (Or.inl rfl) h7, rfl⟩, own_up127 (own_a8 h0 h7 (by decide))⟩
theorem own_k3f {z0 z7 : Int32} (h0 : own_wh z0) (h7 : own_wh z7) : own_KK [z0, (102 : Int32), (97 : Int32), (108 : Int32), (115 : Int32), (101 : Int32), (32 : Int32), z7] :=
  ⟨⟨1, 6, 2, by decide, by decide, by decide, own_i1 h0, (by unfold own_nwh; decide : own_nwh 102), Or.inr (Or.inr (Or.inr (Or.inl ⟨(by decide : ¬ (102 : Int32) = 123 ∧ ¬ (102 : Int32) = 91 ∧ ¬ (102 : Int32) = 34 ∧ ¬ (102 : Int32) = 45 ∧ ¬ (¬ (102 : Int32) < 48 ∧ ¬ (57 : Int32) < 102)), own_a8 h0 h7 (by decide), by decide, Or.inr ⟨own_nlw (by show ¬ (102 : Int32) = 116; decide), Or.inl ⟨own_lw5 rfl rfl rfl rfl rfl, rfl⟩⟩⟩))), own_i2 (Or.inl rfl) h7, rfl⟩, own_up127 (own_a8 h0 h7 (by decide))⟩
theorem own_k3n {z0 z7 : Int32} (h0 : own_wh z0) (h7 : own_wh z7) : own_KK [z0, (32 : Int32), (110 : Int32), (117 : Int32), (108 : Int32), (108 : Int32), (32 : Int32), z7] :=
  ⟨⟨2, 6, 2, by decide, by decide, by decide, own_i2 h0 (Or.inl rfl), (by unfold own_nwh; decide : own_nwh 110), Or.inr (Or.inr (Or.inr (Or.inl ⟨(by decide : ¬ (110 : Int32) = 123 ∧ ¬ (110 : Int32) = 91 ∧ ¬ (110 : Int32) = 34 ∧ ¬ (110 : Int32) = 45 ∧ ¬ (¬ (110 : Int32) < 48 ∧ ¬ (57 : Int32) < 110)), own_a8 h0 h7 (by decide), by decide, Or.inr ⟨own_nlw (by show ¬ (110 : Int32) = 116; decide), Or.inr ⟨own_nlw (by show ¬ (110 : Int32) = 102; decide), own_lw4 rfl rfl rfl rfl, rfl⟩⟩⟩))), own_i2 (Or.inl rfl) h7, rfl⟩, own_up127 (own_a8 h0 h7 (by decide))⟩
theorem own_k4 {z0 z5 z7 : Int32} (h0 : own_wh z0) (h7 : own_wh z7) (d5 : ¬ z5 < (48 : Int32) ∧ ¬ (57 : Int32) < z5) : own_KK [z0, (123 : Int32), (34 : Int32), (34 : Int32), (58 : Int32), z5, (125 : Int32), z7] :=
  ⟨⟨1, 7, 1, by decide, by decide, by decide, own_i1 h0, own_nwc.2.2.2.2.2.1, Or.inr (Or.inr (Or.inr (Or.inr (Or.inr ⟨⟨rfl, rfl, rfl, rfl, rfl, d5, rfl⟩, rfl⟩)))), own_i1 h7, rfl⟩, own_r8 (own_wh16 h0) ⟨by decide, by decide⟩ ⟨by decide, by decide⟩ ⟨by decide, by decide⟩ ⟨by decide, by decide⟩ (own_dg16 d5) ⟨by decide, by decide⟩ (own_wh16 h7)⟩
theorem own_k5 {z0 z2 z7 : Int32} (h0 : own_wh z0) (h7 : own_wh z7) (d2 : ¬ z2 < (48 : Int32) ∧ ¬ (57 : Int32) < z2) : own_KK [z0, (91 : Int32), z2, (44 : Int32), (91 : Int32), (93 : Int32), (93 : Int32), z7] :=
  ⟨⟨1, 7, 1, by decide, by decide, by decide, own_i1 h0, own_nwc.2.2.2.1, Or.inr (Or.inr (Or.inr (Or.inr (Or.inl ⟨⟨rfl, rfl, d2, rfl, rfl, rfl, rfl⟩, rfl⟩)))), own_i1 h7, rfl⟩, own_r8 (own_wh16 h0) ⟨by decide, by decide⟩ (own_dg16 d2) ⟨by decide, by decide⟩ ⟨by decide, by decide⟩ ⟨by decide, by decide⟩ ⟨by decide, by decide⟩ (own_wh16 h7)⟩
theorem own_k6 (up : Bool) {uv : Int32} (h : own_uok uv) : own_KK [(34 : Int32), (92 : Int32), (117 : Int32), own_hx1 up (XT.ushr uv (12 : Int32)), own_hx1 up (XT.ushr uv (8 : Int32)), own_hx1 up (XT.ushr uv (4 : Int32)), own_hx1 up uv, (34 : Int32)] := by
  obtain ⟨h16, hu0, hus⟩ := h
  refine ⟨⟨0, 8, 0, by decide, by decide, by decide, own_i0, own_nwc.1, Or.inl ⟨7, 1, rfl, Or.inr (Or.inr (Or.inr ⟨by decide, rfl, ⟨own_fdu uv, uv, rfl, fun j hj => ?_, ?_, hu0, hus⟩, rfl⟩)), rfl, by decide, by decide, rfl, by decide⟩, own_i0, rfl⟩, own_r8 ⟨by decide, by decide⟩ ⟨by decide, by decide⟩ ⟨by decide, by decide⟩ (own_hvx up _).2 (own_hvx up _).2 (own_hvx up _).2 (own_hvx up _).2 ⟨by decide, by decide⟩⟩
  · match j, hj with
    | 0, _ => exact (own_hvx up (XT.ushr uv (12 : Int32))).1
    | 1, _ => exact (own_hvx up (XT.ushr uv (8 : Int32))).1
    | 2, _ => exact (own_hvx up (XT.ushr uv (4 : Int32))).1
    | 3, _ => exact (own_hvx up uv).1
  · obtain ⟨S, hS, rfl⟩ := own_c16N h16
    rw [own_fdu_eq hS]; exact own_nic h16
theorem own_k7 {z0 z1 z2 z3 z4 z5 z6 z7 : Int32} (h0 : own_wh z0) (h7 : own_wh z7) (d1 : (¬ z1 < (48 : Int32) ∧ ¬ (57 : Int32) < z1) ∧ ¬ z1 = (48 : Int32)) (d2 : ¬ z2 < (48 : Int32) ∧ ¬ (57 : Int32) < z2) (d3 : ¬ z3 < (48 : Int32) ∧ ¬ (57 : Int32) < z3) (d4 : ¬ z4 < (48 : Int32) ∧ ¬ (57 : Int32) < z4) (d5 : ¬ z5 < (48 : Int32) ∧ ¬ (57 : Int32) < z5) (d6 : ¬ z6 < (48 : Int32) ∧ ¬ (57 : Int32) < z6) : own_KK [z0, z1, z2, z3, z4, z5, z6, z7] := by
  have hn : ¬ z7 = (46 : Int32) ∧ ¬ z7 = (101 : Int32) ∧ ¬ z7 = (69 : Int32) := by rcases h7 with rfl | rfl | rfl | rfl <;> decide
  refine ⟨⟨1, 7, 1, by decide, by decide, by decide, own_i1 h0, own_nwd d1.1, Or.inr (Or.inl ⟨6, rfl, by decide, by decide, fun i hi => ?_, fun q => absurd q d1.2, own_wn h7, hn.1, hn.2.1, hn.2.2⟩), own_i1 h7, rfl⟩, own_r8 (own_wh16 h0) (own_dg16 d1.1) (own_dg16 d2) (own_dg16 d3) (own_dg16 d4) (own_dg16 d5) (own_dg16 d6) (own_wh16 h7)⟩
  match i, hi with
  | 0, _ => exact d1.1
  | 1, _ => exact d2
  | 2, _ => exact d3
  | 3, _ => exact d4
  | 4, _ => exact d5
  | 5, _ => exact d6
abbrev own_lf (kd ja jb jc je fl : Int32) (t : Addr) (s9 s10 s11 s12 : Slot) : Array Slot := #[.val (.int kd), .val (.int ja), .val (.int jb), .val (.int jc), .val (.int je), .val (.int (kd &&& (7 : Int32))), .val (.int fl), .val (.int (XT.ushr kd (8 : Int32))), .val (.ref t), s9, s10, s11, s12]

def own_HW (a0 : Array Value) (Z : State) : Prop := ∀ d ∈ tables_1, d.before a0 Z = true
def own_W (c : Jvm.Cond) : Prop := ∀ {a0 : Array Value} {Z : State}, own_HW a0 Z → c.before a0 Z = true
theorem own_at {c : Jvm.Cond} (i : Nat) (q : tables_1[i]? = some c) : own_W c := fun hw => hw _ (List.mem_of_getElem? q)
theorem w0 : own_W (.arrayClass .char) := own_at 0 rfl
theorem w1 : own_W (.methodLink "com/example/tote/tote/JsonTextCheckPinLaw" 11 ⟨"com/example/tote/tote/JsonTextCheckPinLaw", "ws", "(I)C"⟩) := own_at 1 rfl
theorem w2 : own_W (.static ⟨"com/example/tote/tote/JsonTextCheckPinLaw", "ws", "(I)C"⟩) := own_at 2 rfl
theorem w3 : own_W (.initialized "com/example/tote/tote/JsonTextCheckPinLaw") := own_at 3 rfl
theorem w4 : own_W (.code ⟨"com/example/tote/tote/JsonTextCheckPinLaw", "ws", "(I)C"⟩ method_2_code 2 (Option.some .char)) := own_at 4 rfl
theorem w5 : own_W (.methodLink "com/example/tote/tote/JsonTextCheckPinLaw" 17 ⟨"com/example/tote/tote/JsonTextCheckPinLaw", "safe", "(I)C"⟩) := own_at 5 rfl
theorem w6 : own_W (.static ⟨"com/example/tote/tote/JsonTextCheckPinLaw", "safe", "(I)C"⟩) := own_at 6 rfl
theorem w7 : own_W (.code ⟨"com/example/tote/tote/JsonTextCheckPinLaw", "safe", "(I)C"⟩ method_3_code 2 (Option.some .char)) := own_at 7 rfl
theorem w8 : own_W (.constant "com/example/tote/tote/JsonTextCheckPinLaw" 7 (65535 : Int32)) := own_at 8 rfl
theorem w9 : own_W (.classLink "com/example/tote/tote/JsonTextCheckPinLaw" 24 "java/lang/String") := own_at 9 rfl
theorem w10 : own_W (.instantiable "java/lang/String" 4) := own_at 10 rfl
theorem w11 : own_W (.initialized "java/lang/String") := own_at 11 rfl
theorem w12 : own_W (.methodLink "com/example/tote/tote/JsonTextCheckPinLaw" 26 ⟨"java/lang/String", "<init>", "([C)V"⟩) := own_at 12 rfl
theorem w13 : own_W (.instanceMethod ⟨"java/lang/String", "<init>", "([C)V"⟩) := own_at 13 rfl
theorem w14 : own_W (.code ⟨"java/lang/String", "<init>", "([C)V"⟩ jdk_42_method_3_code 2 (Option.none : Option Jvm.ClassFile.FieldType)) := own_at 14 rfl
theorem w15 : own_W (.methodLink "java/lang/String" 27 ⟨"java/lang/String", "<init>", "([CIILjava/lang/Void;)V"⟩) := own_at 15 rfl
theorem w16 : own_W (.instanceMethod ⟨"java/lang/String", "<init>", "([CIILjava/lang/Void;)V"⟩) := own_at 16 rfl
theorem w18 : own_W (.code ⟨"java/lang/String", "<init>", "([CIILjava/lang/Void;)V"⟩ jdk_42_method_149_code 6 (Option.none : Option Jvm.ClassFile.FieldType)) := own_at 18 rfl
theorem w19 : own_W (.methodLink "java/lang/String" 1 ⟨"java/lang/Object", "<init>", "()V"⟩) := own_at 19 rfl
theorem w20 : own_W (.instanceMethod ⟨"java/lang/Object", "<init>", "()V"⟩) := own_at 20 rfl
theorem w21 : own_W (.code ⟨"java/lang/Object", "<init>", "()V"⟩ object_method_1_code 1 (Option.none : Option Jvm.ClassFile.FieldType)) := own_at 21 rfl
theorem w22 : own_W (.fieldLink "java/lang/String" 38 "java/lang/String" "COMPACT_STRINGS" "Z") := own_at 22 rfl
theorem w23 : own_W (.methodLink "java/lang/String" 177 ⟨"java/lang/StringUTF16", "compress", "([CII)[B"⟩) := own_at 23 rfl
theorem w24 : own_W (.static ⟨"java/lang/StringUTF16", "compress", "([CII)[B"⟩) := own_at 24 rfl
theorem w25 : own_W (.initialized "java/lang/StringUTF16") := own_at 25 rfl
theorem w26 : own_W (.code ⟨"java/lang/StringUTF16", "compress", "([CII)[B"⟩ jdk_52_method_16_code 6 (Option.some (.array .byte))) := own_at 26 rfl
theorem w27 : own_W (.arrayClass .byte) := own_at 27 rfl
theorem w28 : own_W (.methodLink "java/lang/StringUTF16" 115 ⟨"java/lang/StringUTF16", "compress", "([CI[BII)I"⟩) := own_at 28 rfl
theorem w29 : own_W (.static ⟨"java/lang/StringUTF16", "compress", "([CI[BII)I"⟩) := own_at 29 rfl
theorem w30 : own_W (.code ⟨"java/lang/StringUTF16", "compress", "([CI[BII)I"⟩ jdk_52_method_21_code 7 (Option.some .int)) := own_at 30 rfl
theorem w31 : own_W (.methodLink "java/lang/String" 47 ⟨"java/lang/StringUTF16", "coderFromArrayLen", "([BI)B"⟩) := own_at 31 rfl
theorem w32 : own_W (.static ⟨"java/lang/StringUTF16", "coderFromArrayLen", "([BI)B"⟩) := own_at 32 rfl
theorem w33 : own_W (.code ⟨"java/lang/StringUTF16", "coderFromArrayLen", "([BI)B"⟩ jdk_52_method_15_code 2 (Option.some .byte)) := own_at 33 rfl
theorem w34 : own_W (.fieldLink "java/lang/String" 15 "java/lang/String" "coder" "B") := own_at 34 rfl
theorem w35 : own_W (.laysFinal "java/lang/String" "java/lang/String" "coder" "B") := own_at 35 rfl
theorem w36 : own_W (.fieldLink "java/lang/String" 9 "java/lang/String" "value" "[B") := own_at 36 rfl
theorem w37 : own_W (.laysFinal "java/lang/String" "java/lang/String" "value" "[B") := own_at 37 rfl
theorem w38 : own_W (.methodLink "com/example/tote/tote/JsonTextCheckPinLaw" 29 ⟨"com/example/tote/tote/JsonText", "check", "(Ljava/lang/String;)V"⟩) := own_at 38 rfl
theorem w39 : own_W (.static ⟨"com/example/tote/tote/JsonText", "check", "(Ljava/lang/String;)V"⟩) := own_at 39 rfl
theorem w40 : own_W (.initialized "com/example/tote/tote/JsonText") := own_at 40 rfl
theorem w41 : own_W (.code ⟨"com/example/tote/tote/JsonText", "check", "(Ljava/lang/String;)V"⟩ prog_12_method_2_code 2 (Option.none : Option Jvm.ClassFile.FieldType)) := own_at 41 rfl
theorem w42 : own_W (.stringLink "com/example/tote/tote/JsonText" 13 "payload") := own_at 42 rfl
theorem w45 : own_W (.methodLink "com/example/tote/tote/JsonText" 15 ⟨"java/util/Objects", "requireNonNull", "(Ljava/lang/Object;Ljava/lang/String;)Ljava/lang/Object;"⟩) := own_at 45 rfl
theorem w46 : own_W (.static ⟨"java/util/Objects", "requireNonNull", "(Ljava/lang/Object;Ljava/lang/String;)Ljava/lang/Object;"⟩) := own_at 46 rfl
theorem w47 : own_W (.initialized "java/util/Objects") := own_at 47 rfl
theorem w48 : own_W (.code ⟨"java/util/Objects", "requireNonNull", "(Ljava/lang/Object;Ljava/lang/String;)Ljava/lang/Object;"⟩ jdk_31_method_11_code 2 (Option.some (.object "java/lang/Object"))) := own_at 48 rfl
theorem w49 : own_W (.classLink "com/example/tote/tote/JsonText" 8 "com/example/tote/tote/JsonText") := own_at 49 rfl
theorem w50 : own_W (.instantiable "com/example/tote/tote/JsonText" 2) := own_at 50 rfl
theorem w51 : own_W (.methodLink "com/example/tote/tote/JsonText" 21 ⟨"com/example/tote/tote/JsonText", "<init>", "(Ljava/lang/String;)V"⟩) := own_at 51 rfl
theorem w52 : own_W (.instanceMethod ⟨"com/example/tote/tote/JsonText", "<init>", "(Ljava/lang/String;)V"⟩) := own_at 52 rfl
theorem w53 : own_W (.code ⟨"com/example/tote/tote/JsonText", "<init>", "(Ljava/lang/String;)V"⟩ prog_12_method_1_code 2 (Option.none : Option Jvm.ClassFile.FieldType)) := own_at 53 rfl
theorem w54 : own_W (.methodLink "com/example/tote/tote/JsonText" 1 ⟨"java/lang/Object", "<init>", "()V"⟩) := own_at 54 rfl
theorem w55 : own_W (.fieldLink "com/example/tote/tote/JsonText" 7 "com/example/tote/tote/JsonText" "text" "Ljava/lang/String;") := own_at 55 rfl
theorem w56 : own_W (.laysFinal "com/example/tote/tote/JsonText" "com/example/tote/tote/JsonText" "text" "Ljava/lang/String;") := own_at 56 rfl
theorem w57 : own_W (.methodLink "com/example/tote/tote/JsonText" 24 ⟨"com/example/tote/tote/JsonText", "skipWhitespace", "()V"⟩) := own_at 57 rfl
theorem w58 : own_W (.instanceMethod ⟨"com/example/tote/tote/JsonText", "skipWhitespace", "()V"⟩) := own_at 58 rfl
theorem w59 : own_W (.privateMethod ⟨"com/example/tote/tote/JsonText", "skipWhitespace", "()V"⟩) := own_at 59 rfl
theorem w60 : own_W (.code ⟨"com/example/tote/tote/JsonText", "skipWhitespace", "()V"⟩ prog_12_method_13_code 1 (Option.none : Option Jvm.ClassFile.FieldType)) := own_at 60 rfl
theorem w61 : own_W (.fieldLink "com/example/tote/tote/JsonText" 31 "com/example/tote/tote/JsonText" "pos" "I") := own_at 61 rfl
theorem w62 : own_W (.lays "com/example/tote/tote/JsonText" "com/example/tote/tote/JsonText" "pos" "I") := own_at 62 rfl
theorem w63 : own_W (.methodLink "com/example/tote/tote/JsonText" 35 ⟨"java/lang/String", "length", "()I"⟩) := own_at 63 rfl
theorem w64 : own_W (.declares ⟨"java/lang/String", "length", "()I"⟩) := own_at 64 rfl
theorem w65 : own_W (.instanceMethod ⟨"java/lang/String", "length", "()I"⟩) := own_at 65 rfl
theorem w66 : own_W (.selects "java/lang/String" ⟨"java/lang/String", "length", "()I"⟩ ⟨"java/lang/String", "length", "()I"⟩) := own_at 66 rfl
theorem w67 : own_W (.code ⟨"java/lang/String", "length", "()I"⟩ jdk_42_method_54_code 1 (Option.some .int)) := own_at 67 rfl
theorem w68 : own_W (.methodLink "java/lang/String" 335 ⟨"java/lang/String", "coder", "()B"⟩) := own_at 68 rfl
theorem w69 : own_W (.declares ⟨"java/lang/String", "coder", "()B"⟩) := own_at 69 rfl
theorem w70 : own_W (.instanceMethod ⟨"java/lang/String", "coder", "()B"⟩) := own_at 70 rfl
theorem w71 : own_W (.selects "java/lang/String" ⟨"java/lang/String", "coder", "()B"⟩ ⟨"java/lang/String", "coder", "()B"⟩) := own_at 71 rfl
theorem w72 : own_W (.code ⟨"java/lang/String", "coder", "()B"⟩ jdk_42_method_152_code 1 (Option.some .byte)) := own_at 72 rfl
theorem w73 : own_W (.stringLink "com/example/tote/tote/JsonText" 179 " \t\n\r") := own_at 73 rfl
theorem w74 : own_W (.methodLink "com/example/tote/tote/JsonText" 49 ⟨"java/lang/String", "charAt", "(I)C"⟩) := own_at 74 rfl
theorem w75 : own_W (.declares ⟨"java/lang/String", "charAt", "(I)C"⟩) := own_at 75 rfl
theorem w76 : own_W (.instanceMethod ⟨"java/lang/String", "charAt", "(I)C"⟩) := own_at 76 rfl
theorem w77 : own_W (.selects "java/lang/String" ⟨"java/lang/String", "charAt", "(I)C"⟩ ⟨"java/lang/String", "charAt", "(I)C"⟩) := own_at 77 rfl
theorem w78 : own_W (.code ⟨"java/lang/String", "charAt", "(I)C"⟩ jdk_42_method_56_code 2 (Option.some .char)) := own_at 78 rfl
theorem w79 : own_W (.methodLink "java/lang/String" 492 ⟨"java/lang/String", "isLatin1", "()Z"⟩) := own_at 79 rfl
theorem w80 : own_W (.declares ⟨"java/lang/String", "isLatin1", "()Z"⟩) := own_at 80 rfl
theorem w81 : own_W (.instanceMethod ⟨"java/lang/String", "isLatin1", "()Z"⟩) := own_at 81 rfl
theorem w82 : own_W (.selects "java/lang/String" ⟨"java/lang/String", "isLatin1", "()Z"⟩ ⟨"java/lang/String", "isLatin1", "()Z"⟩) := own_at 82 rfl
theorem w83 : own_W (.code ⟨"java/lang/String", "isLatin1", "()Z"⟩ jdk_42_method_154_code 1 (Option.some .boolean)) := own_at 83 rfl
theorem w84 : own_W (.methodLink "java/lang/String" 495 ⟨"java/lang/StringLatin1", "charAt", "([BI)C"⟩) := own_at 84 rfl
theorem w85 : own_W (.static ⟨"java/lang/StringLatin1", "charAt", "([BI)C"⟩) := own_at 85 rfl
theorem w86 : own_W (.initialized "java/lang/StringLatin1") := own_at 86 rfl
theorem w87 : own_W (.code ⟨"java/lang/StringLatin1", "charAt", "([BI)C"⟩ jdk_43_method_2_code 2 (Option.some .char)) := own_at 87 rfl
theorem w88 : own_W (.methodLink "java/lang/StringLatin1" 9 ⟨"java/lang/String", "checkIndex", "(II)V"⟩) := own_at 88 rfl
theorem w89 : own_W (.static ⟨"java/lang/String", "checkIndex", "(II)V"⟩) := own_at 89 rfl
theorem w90 : own_W (.code ⟨"java/lang/String", "checkIndex", "(II)V"⟩ jdk_42_method_155_code 2 (Option.none : Option Jvm.ClassFile.FieldType)) := own_at 90 rfl
theorem w91 : own_W (.fieldLink "java/lang/String" 1053 "jdk/internal/util/Preconditions" "SIOOBE_FORMATTER" "Ljava/util/function/BiFunction;") := own_at 91 rfl
theorem w92 : own_W (.initialized "jdk/internal/util/Preconditions") := own_at 92 rfl
theorem w93 : own_W (.methodLink "java/lang/String" 1059 ⟨"jdk/internal/util/Preconditions", "checkIndex", "(IILjava/util/function/BiFunction;)I"⟩) := own_at 93 rfl
theorem w94 : own_W (.static ⟨"jdk/internal/util/Preconditions", "checkIndex", "(IILjava/util/function/BiFunction;)I"⟩) := own_at 94 rfl
theorem w95 : own_W (.code ⟨"jdk/internal/util/Preconditions", "checkIndex", "(IILjava/util/function/BiFunction;)I"⟩ jdk_41_method_11_code 3 (Option.some .int)) := own_at 95 rfl
theorem w96 : own_W (.methodLink "com/example/tote/tote/JsonText" 124 ⟨"java/lang/String", "indexOf", "(I)I"⟩) := own_at 96 rfl
theorem w97 : own_W (.declares ⟨"java/lang/String", "indexOf", "(I)I"⟩) := own_at 97 rfl
theorem w98 : own_W (.instanceMethod ⟨"java/lang/String", "indexOf", "(I)I"⟩) := own_at 98 rfl
theorem w99 : own_W (.selects "java/lang/String" ⟨"java/lang/String", "indexOf", "(I)I"⟩ ⟨"java/lang/String", "indexOf", "(I)I"⟩) := own_at 99 rfl
theorem w100 : own_W (.code ⟨"java/lang/String", "indexOf", "(I)I"⟩ jdk_42_method_79_code 2 (Option.some .int)) := own_at 100 rfl
theorem w101 : own_W (.methodLink "java/lang/String" 633 ⟨"java/lang/String", "indexOf", "(II)I"⟩) := own_at 101 rfl
theorem w102 : own_W (.declares ⟨"java/lang/String", "indexOf", "(II)I"⟩) := own_at 102 rfl
theorem w103 : own_W (.instanceMethod ⟨"java/lang/String", "indexOf", "(II)I"⟩) := own_at 103 rfl
theorem w104 : own_W (.selects "java/lang/String" ⟨"java/lang/String", "indexOf", "(II)I"⟩ ⟨"java/lang/String", "indexOf", "(II)I"⟩) := own_at 104 rfl
theorem w105 : own_W (.code ⟨"java/lang/String", "indexOf", "(II)I"⟩ jdk_42_method_80_code 3 (Option.some .int)) := own_at 105 rfl
theorem w106 : own_W (.methodLink "java/lang/String" 505 ⟨"java/lang/String", "length", "()I"⟩) := own_at 106 rfl
theorem w107 : own_W (.methodLink "java/lang/String" 637 ⟨"java/lang/StringLatin1", "indexOf", "([BIII)I"⟩) := own_at 107 rfl
theorem w108 : own_W (.static ⟨"java/lang/StringLatin1", "indexOf", "([BIII)I"⟩) := own_at 108 rfl
theorem w109 : own_W (.code ⟨"java/lang/StringLatin1", "indexOf", "([BIII)I"⟩ jdk_43_method_22_code 4 (Option.some .int)) := own_at 109 rfl
theorem w110 : own_W (.methodLink "java/lang/StringLatin1" 88 ⟨"java/lang/StringLatin1", "canEncode", "(I)Z"⟩) := own_at 110 rfl
theorem w111 : own_W (.static ⟨"java/lang/StringLatin1", "canEncode", "(I)Z"⟩) := own_at 111 rfl
theorem w112 : own_W (.code ⟨"java/lang/StringLatin1", "canEncode", "(I)Z"⟩ jdk_43_method_4_code 1 (Option.some .boolean)) := own_at 112 rfl
theorem w113 : own_W (.methodLink "java/lang/StringLatin1" 92 ⟨"java/lang/Math", "max", "(II)I"⟩) := own_at 113 rfl
theorem w114 : own_W (.static ⟨"java/lang/Math", "max", "(II)I"⟩) := own_at 114 rfl
theorem w115 : own_W (.initialized "java/lang/Math") := own_at 115 rfl
theorem w116 : own_W (.code ⟨"java/lang/Math", "max", "(II)I"⟩ jdk_29_method_65_code 2 (Option.some .int)) := own_at 116 rfl
theorem w117 : own_W (.methodLink "java/lang/StringLatin1" 38 ⟨"java/lang/Math", "min", "(II)I"⟩) := own_at 117 rfl
theorem w118 : own_W (.static ⟨"java/lang/Math", "min", "(II)I"⟩) := own_at 118 rfl
theorem w119 : own_W (.code ⟨"java/lang/Math", "min", "(II)I"⟩ jdk_29_method_69_code 2 (Option.some .int)) := own_at 119 rfl
theorem w120 : own_W (.methodLink "java/lang/StringLatin1" 95 ⟨"java/lang/StringLatin1", "indexOfChar", "([BIII)I"⟩) := own_at 120 rfl
theorem w121 : own_W (.static ⟨"java/lang/StringLatin1", "indexOfChar", "([BIII)I"⟩) := own_at 121 rfl
theorem w122 : own_W (.code ⟨"java/lang/StringLatin1", "indexOfChar", "([BIII)I"⟩ jdk_43_method_23_code 6 (Option.some .int)) := own_at 122 rfl
theorem w123 : own_W (.methodLink "com/example/tote/tote/JsonText" 27 ⟨"com/example/tote/tote/JsonText", "value", "(I)V"⟩) := own_at 123 rfl
theorem w124 : own_W (.instanceMethod ⟨"com/example/tote/tote/JsonText", "value", "(I)V"⟩) := own_at 124 rfl
theorem w125 : own_W (.privateMethod ⟨"com/example/tote/tote/JsonText", "value", "(I)V"⟩) := own_at 125 rfl
theorem w126 : own_W (.code ⟨"com/example/tote/tote/JsonText", "value", "(I)V"⟩ prog_12_method_3_code 3 (Option.none : Option Jvm.ClassFile.FieldType)) := own_at 126 rfl
theorem w127 : own_W (.methodLink "com/example/tote/tote/JsonText" 59 ⟨"com/example/tote/tote/JsonText", "string", "()V"⟩) := own_at 127 rfl
theorem w128 : own_W (.instanceMethod ⟨"com/example/tote/tote/JsonText", "string", "()V"⟩) := own_at 128 rfl
theorem w129 : own_W (.privateMethod ⟨"com/example/tote/tote/JsonText", "string", "()V"⟩) := own_at 129 rfl
theorem w130 : own_W (.code ⟨"com/example/tote/tote/JsonText", "string", "()V"⟩ prog_12_method_6_code 2 (Option.none : Option Jvm.ClassFile.FieldType)) := own_at 130 rfl
theorem w131 : own_W (.methodLink "com/example/tote/tote/JsonText" 98 ⟨"java/lang/Character", "isHighSurrogate", "(C)Z"⟩) := own_at 131 rfl
theorem w132 : own_W (.static ⟨"java/lang/Character", "isHighSurrogate", "(C)Z"⟩) := own_at 132 rfl
theorem w133 : own_W (.initialized "java/lang/Character") := own_at 133 rfl
theorem w134 : own_W (.code ⟨"java/lang/Character", "isHighSurrogate", "(C)Z"⟩ jdk_89_method_14_code 1 (Option.some .boolean)) := own_at 134 rfl
theorem w135 : own_W (.constant "java/lang/Character" 75 (55296 : Int32)) := own_at 135 rfl
theorem w136 : own_W (.methodLink "com/example/tote/tote/JsonText" 106 ⟨"java/lang/Character", "isSurrogate", "(C)Z"⟩) := own_at 136 rfl
theorem w137 : own_W (.static ⟨"java/lang/Character", "isSurrogate", "(C)Z"⟩) := own_at 137 rfl
theorem w138 : own_W (.code ⟨"java/lang/Character", "isSurrogate", "(C)Z"⟩ jdk_89_method_16_code 1 (Option.some .boolean)) := own_at 138 rfl
theorem w139 : own_W (.methodLink "com/example/tote/tote/JsonText" 62 ⟨"com/example/tote/tote/JsonText", "isDigit", "(C)Z"⟩) := own_at 139 rfl
theorem w140 : own_W (.static ⟨"com/example/tote/tote/JsonText", "isDigit", "(C)Z"⟩) := own_at 140 rfl
theorem w141 : own_W (.code ⟨"com/example/tote/tote/JsonText", "isDigit", "(C)Z"⟩ prog_12_method_17_code 1 (Option.some .boolean)) := own_at 141 rfl
theorem w142 : own_W (.stringLink "com/example/tote/tote/JsonText" 69 "true") := own_at 142 rfl
theorem w143 : own_W (.methodLink "com/example/tote/tote/JsonText" 71 ⟨"com/example/tote/tote/JsonText", "literal", "(Ljava/lang/String;)Z"⟩) := own_at 143 rfl
theorem w144 : own_W (.instanceMethod ⟨"com/example/tote/tote/JsonText", "literal", "(Ljava/lang/String;)Z"⟩) := own_at 144 rfl
theorem w145 : own_W (.privateMethod ⟨"com/example/tote/tote/JsonText", "literal", "(Ljava/lang/String;)Z"⟩) := own_at 145 rfl
theorem w146 : own_W (.code ⟨"com/example/tote/tote/JsonText", "literal", "(Ljava/lang/String;)Z"⟩ prog_12_method_11_code 3 (Option.some .boolean)) := own_at 146 rfl
theorem w147 : own_W (.methodLink "com/example/tote/tote/JsonText" 173 ⟨"java/lang/String", "startsWith", "(Ljava/lang/String;I)Z"⟩) := own_at 147 rfl
theorem w148 : own_W (.declares ⟨"java/lang/String", "startsWith", "(Ljava/lang/String;I)Z"⟩) := own_at 148 rfl
theorem w149 : own_W (.instanceMethod ⟨"java/lang/String", "startsWith", "(Ljava/lang/String;I)Z"⟩) := own_at 149 rfl
theorem w150 : own_W (.selects "java/lang/String" ⟨"java/lang/String", "startsWith", "(Ljava/lang/String;I)Z"⟩ ⟨"java/lang/String", "startsWith", "(Ljava/lang/String;I)Z"⟩) := own_at 150 rfl
theorem w151 : own_W (.code ⟨"java/lang/String", "startsWith", "(Ljava/lang/String;I)Z"⟩ jdk_42_method_75_code 8 (Option.some .boolean)) := own_at 151 rfl
theorem w152 : own_W (.methodLink "java/lang/String" 607 ⟨"jdk/internal/util/ArraysSupport", "mismatch", "([BI[BII)I"⟩) := own_at 152 rfl
theorem w153 : own_W (.static ⟨"jdk/internal/util/ArraysSupport", "mismatch", "([BI[BII)I"⟩) := own_at 153 rfl
theorem w154 : own_W (.initialized "jdk/internal/util/ArraysSupport") := own_at 154 rfl
theorem w155 : own_W (.code ⟨"jdk/internal/util/ArraysSupport", "mismatch", "([BI[BII)I"⟩ jdk_48_method_14_code 8 (Option.some .int)) := own_at 155 rfl
theorem w156 : own_W (.constant "com/example/tote/tote/JsonTextCheckPinLaw" 8 (55296 : Int32)) := own_at 156 rfl
theorem w157 : own_W (.constant "com/example/tote/tote/JsonTextCheckPinLaw" 20 (56320 : Int32)) := own_at 157 rfl
theorem w158 : own_W (.methodLink "java/lang/StringUTF16" 119 ⟨"java/lang/StringUTF16", "toBytes", "([CII)[B"⟩) := own_at 158 rfl
theorem w159 : own_W (.static ⟨"java/lang/StringUTF16", "toBytes", "([CII)[B"⟩) := own_at 159 rfl
theorem w160 : own_W (.code ⟨"java/lang/StringUTF16", "toBytes", "([CII)[B"⟩ jdk_52_method_14_code 5 (Option.some (.array .byte))) := own_at 160 rfl
theorem w161 : own_W (.methodLink "java/lang/StringUTF16" 107 ⟨"java/lang/StringUTF16", "newBytesFor", "(I)[B"⟩) := own_at 161 rfl
theorem w162 : own_W (.static ⟨"java/lang/StringUTF16", "newBytesFor", "(I)[B"⟩) := own_at 162 rfl
theorem w163 : own_W (.code ⟨"java/lang/StringUTF16", "newBytesFor", "(I)[B"⟩ jdk_52_method_2_code 1 (Option.some (.array .byte))) := own_at 163 rfl
theorem w164 : own_W (.methodLink "java/lang/StringUTF16" 11 ⟨"java/lang/StringUTF16", "newBytesLength", "(I)I"⟩) := own_at 164 rfl
theorem w165 : own_W (.static ⟨"java/lang/StringUTF16", "newBytesLength", "(I)I"⟩) := own_at 165 rfl
theorem w166 : own_W (.code ⟨"java/lang/StringUTF16", "newBytesLength", "(I)I"⟩ jdk_52_method_3_code 1 (Option.some .int)) := own_at 166 rfl
theorem w167 : own_W (.constant "java/lang/StringUTF16" 20 (1073741823 : Int32)) := own_at 167 rfl
theorem w168 : own_W (.methodLink "java/lang/StringUTF16" 111 ⟨"java/lang/StringUTF16", "putChar", "([BII)V"⟩) := own_at 168 rfl
theorem w169 : own_W (.static ⟨"java/lang/StringUTF16", "putChar", "([BII)V"⟩) := own_at 169 rfl
theorem w170 : own_W (.code ⟨"java/lang/StringUTF16", "putChar", "([BII)V"⟩ jdk_52_method_4_code 3 (Option.none : Option Jvm.ClassFile.FieldType)) := own_at 170 rfl
theorem w171 : own_W (.fieldLink "java/lang/StringUTF16" 44 "java/lang/StringUTF16" "$assertionsDisabled" "Z") := own_at 171 rfl
theorem w172 : own_W (.fieldLink "java/lang/StringUTF16" 59 "java/lang/StringUTF16" "HI_BYTE_SHIFT" "I") := own_at 172 rfl
theorem w173 : own_W (.fieldLink "java/lang/StringUTF16" 63 "java/lang/StringUTF16" "LO_BYTE_SHIFT" "I") := own_at 173 rfl
theorem w174 : own_W (.methodLink "java/lang/StringUTF16" 71 ⟨"java/lang/StringUTF16", "getChar", "([BI)C"⟩) := own_at 174 rfl
theorem w175 : own_W (.static ⟨"java/lang/StringUTF16", "getChar", "([BI)C"⟩) := own_at 175 rfl
theorem w176 : own_W (.code ⟨"java/lang/StringUTF16", "getChar", "([BI)C"⟩ jdk_52_method_5_code 2 (Option.some .char)) := own_at 176 rfl
theorem w177 : own_W (.methodLink "java/lang/String" 498 ⟨"java/lang/StringUTF16", "charAt", "([BI)C"⟩) := own_at 177 rfl
theorem w178 : own_W (.static ⟨"java/lang/StringUTF16", "charAt", "([BI)C"⟩) := own_at 178 rfl
theorem w179 : own_W (.code ⟨"java/lang/StringUTF16", "charAt", "([BI)C"⟩ jdk_52_method_83_code 2 (Option.some .char)) := own_at 179 rfl
theorem w180 : own_W (.methodLink "java/lang/StringUTF16" 67 ⟨"java/lang/StringUTF16", "checkIndex", "(I[B)V"⟩) := own_at 180 rfl
theorem w181 : own_W (.static ⟨"java/lang/StringUTF16", "checkIndex", "(I[B)V"⟩) := own_at 181 rfl
theorem w182 : own_W (.code ⟨"java/lang/StringUTF16", "checkIndex", "(I[B)V"⟩ jdk_52_method_91_code 2 (Option.none : Option Jvm.ClassFile.FieldType)) := own_at 182 rfl
theorem w183 : own_W (.methodLink "java/lang/StringUTF16" 48 ⟨"java/lang/StringUTF16", "length", "([B)I"⟩) := own_at 183 rfl
theorem w184 : own_W (.static ⟨"java/lang/StringUTF16", "length", "([B)I"⟩) := own_at 184 rfl
theorem w185 : own_W (.code ⟨"java/lang/StringUTF16", "length", "([B)I"⟩ jdk_52_method_6_code 1 (Option.some .int)) := own_at 185 rfl
theorem w186 : own_W (.methodLink "java/lang/StringUTF16" 414 ⟨"java/lang/String", "checkIndex", "(II)V"⟩) := own_at 186 rfl
theorem w187 : own_W (.constant "java/lang/Character" 76 (56320 : Int32)) := own_at 187 rfl
theorem w188 : own_W (.methodLink "com/example/tote/tote/JsonText" 103 ⟨"java/lang/Character", "isLowSurrogate", "(C)Z"⟩) := own_at 188 rfl
theorem w189 : own_W (.static ⟨"java/lang/Character", "isLowSurrogate", "(C)Z"⟩) := own_at 189 rfl
theorem w190 : own_W (.code ⟨"java/lang/Character", "isLowSurrogate", "(C)Z"⟩ jdk_89_method_15_code 1 (Option.some .boolean)) := own_at 190 rfl
theorem w191 : own_W (.constant "java/lang/Character" 77 (57344 : Int32)) := own_at 191 rfl
theorem w192 : own_W (.constant "com/example/tote/tote/JsonTextCheckPinLaw" 9 (57343 : Int32)) := own_at 192 rfl
theorem w193 : own_W (.constant "com/example/tote/tote/JsonTextCheckPinLaw" 10 (2147483647 : Int32)) := own_at 193 rfl
theorem w194 : own_W (.methodLink "com/example/tote/tote/JsonTextCheckPinLaw" 21 ⟨"com/example/tote/tote/JsonTextCheckPinLaw", "digit", "(I)C"⟩) := own_at 194 rfl
theorem w195 : own_W (.static ⟨"com/example/tote/tote/JsonTextCheckPinLaw", "digit", "(I)C"⟩) := own_at 195 rfl
theorem w196 : own_W (.code ⟨"com/example/tote/tote/JsonTextCheckPinLaw", "digit", "(I)C"⟩ method_4_code 1 (Option.some .char)) := own_at 196 rfl
theorem w197 : own_W (.methodLink "com/example/tote/tote/JsonText" 66 ⟨"com/example/tote/tote/JsonText", "number", "()V"⟩) := own_at 197 rfl
theorem w198 : own_W (.instanceMethod ⟨"com/example/tote/tote/JsonText", "number", "()V"⟩) := own_at 198 rfl
theorem w199 : own_W (.privateMethod ⟨"com/example/tote/tote/JsonText", "number", "()V"⟩) := own_at 199 rfl
theorem w200 : own_W (.code ⟨"com/example/tote/tote/JsonText", "number", "()V"⟩ prog_12_method_9_code 10 (Option.none : Option Jvm.ClassFile.FieldType)) := own_at 200 rfl
theorem w201 : own_W (.methodLink "com/example/tote/tote/JsonText" 82 ⟨"com/example/tote/tote/JsonText", "next", "(C)Z"⟩) := own_at 201 rfl
theorem w202 : own_W (.instanceMethod ⟨"com/example/tote/tote/JsonText", "next", "(C)Z"⟩) := own_at 202 rfl
theorem w203 : own_W (.privateMethod ⟨"com/example/tote/tote/JsonText", "next", "(C)Z"⟩) := own_at 203 rfl
theorem w204 : own_W (.code ⟨"com/example/tote/tote/JsonText", "next", "(C)Z"⟩ prog_12_method_16_code 3 (Option.some .boolean)) := own_at 204 rfl
theorem w205 : own_W (.methodLink "com/example/tote/tote/JsonText" 138 ⟨"com/example/tote/tote/JsonText", "skipDigits", "()V"⟩) := own_at 205 rfl
theorem w206 : own_W (.instanceMethod ⟨"com/example/tote/tote/JsonText", "skipDigits", "()V"⟩) := own_at 206 rfl
theorem w207 : own_W (.privateMethod ⟨"com/example/tote/tote/JsonText", "skipDigits", "()V"⟩) := own_at 207 rfl
theorem w208 : own_W (.code ⟨"com/example/tote/tote/JsonText", "skipDigits", "()V"⟩ prog_12_method_14_code 1 (Option.none : Option Jvm.ClassFile.FieldType)) := own_at 208 rfl
theorem w209 : own_W (.methodLink "com/example/tote/tote/JsonText" 157 ⟨"com/example/tote/tote/JsonText", "fitsNumeric", "(IIIIJ)Z"⟩) := own_at 209 rfl
theorem w210 : own_W (.instanceMethod ⟨"com/example/tote/tote/JsonText", "fitsNumeric", "(IIIIJ)Z"⟩) := own_at 210 rfl
theorem w211 : own_W (.privateMethod ⟨"com/example/tote/tote/JsonText", "fitsNumeric", "(IIIIJ)Z"⟩) := own_at 211 rfl
theorem w212 : own_W (.code ⟨"com/example/tote/tote/JsonText", "fitsNumeric", "(IIIIJ)Z"⟩ prog_12_method_10_code 11 (Option.some .boolean)) := own_at 212 rfl
theorem w213 : own_W (.methodLink "com/example/tote/tote/JsonText" 163 ⟨"java/lang/Math", "abs", "(J)J"⟩) := own_at 213 rfl
theorem w214 : own_W (.static ⟨"java/lang/Math", "abs", "(J)J"⟩) := own_at 214 rfl
theorem w215 : own_W (.code ⟨"java/lang/Math", "abs", "(J)J"⟩ jdk_29_method_61_code 2 (Option.some .long)) := own_at 215 rfl
theorem w216 : own_W (.constantLong "com/example/tote/tote/JsonText" 167 (1073741822 : Int64)) := own_at 216 rfl
theorem w217 : own_W (.constantLong "com/example/tote/tote/JsonText" 169 (16383 : Int64)) := own_at 217 rfl
theorem w218 : own_W (.constantLong "com/example/tote/tote/JsonText" 171 (131071 : Int64)) := own_at 218 rfl
theorem w219 : own_W (.constantLong "com/example/tote/tote/JsonText" 143 (10 : Int64)) := own_at 219 rfl
theorem w220 : own_W (.constantLong "com/example/tote/tote/JsonText" 145 (48 : Int64)) := own_at 220 rfl
theorem w221 : own_W (.constantLong "com/example/tote/tote/JsonText" 147 (1073741823 : Int64)) := own_at 221 rfl
theorem w222 : own_W (.methodLink "com/example/tote/tote/JsonText" 149 ⟨"java/lang/Math", "min", "(JJ)J"⟩) := own_at 222 rfl
theorem w223 : own_W (.static ⟨"java/lang/Math", "min", "(JJ)J"⟩) := own_at 223 rfl
theorem w224 : own_W (.code ⟨"java/lang/Math", "min", "(JJ)J"⟩ jdk_29_method_70_code 4 (Option.some .long)) := own_at 224 rfl
theorem w225 : own_W (.methodLink "com/example/tote/tote/JsonText" 93 ⟨"com/example/tote/tote/JsonText", "escape", "()V"⟩) := own_at 225 rfl
theorem w226 : own_W (.instanceMethod ⟨"com/example/tote/tote/JsonText", "escape", "()V"⟩) := own_at 226 rfl
theorem w227 : own_W (.privateMethod ⟨"com/example/tote/tote/JsonText", "escape", "()V"⟩) := own_at 227 rfl
theorem w228 : own_W (.code ⟨"com/example/tote/tote/JsonText", "escape", "()V"⟩ prog_12_method_7_code 4 (Option.none : Option Jvm.ClassFile.FieldType)) := own_at 228 rfl
theorem w229 : own_W (.methodLink "com/example/tote/tote/JsonText" 111 ⟨"com/example/tote/tote/JsonText", "hexUnit", "()C"⟩) := own_at 229 rfl
theorem w230 : own_W (.instanceMethod ⟨"com/example/tote/tote/JsonText", "hexUnit", "()C"⟩) := own_at 230 rfl
theorem w231 : own_W (.privateMethod ⟨"com/example/tote/tote/JsonText", "hexUnit", "()C"⟩) := own_at 231 rfl
theorem w232 : own_W (.code ⟨"com/example/tote/tote/JsonText", "hexUnit", "()C"⟩ prog_12_method_8_code 4 (Option.some .char)) := own_at 232 rfl
theorem w233 : own_W (.methodLink "com/example/tote/tote/JsonText" 130 ⟨"com/example/tote/tote/JsonText", "hexDigit", "(C)I"⟩) := own_at 233 rfl
theorem w234 : own_W (.static ⟨"com/example/tote/tote/JsonText", "hexDigit", "(C)I"⟩) := own_at 234 rfl
theorem w235 : own_W (.code ⟨"com/example/tote/tote/JsonText", "hexDigit", "(C)I"⟩ prog_12_method_18_code 2 (Option.some .int)) := own_at 235 rfl
theorem w236 : own_W (.methodLink "com/example/tote/tote/JsonText" 56 ⟨"com/example/tote/tote/JsonText", "array", "(I)V"⟩) := own_at 236 rfl
theorem w237 : own_W (.instanceMethod ⟨"com/example/tote/tote/JsonText", "array", "(I)V"⟩) := own_at 237 rfl
theorem w238 : own_W (.privateMethod ⟨"com/example/tote/tote/JsonText", "array", "(I)V"⟩) := own_at 238 rfl
theorem w239 : own_W (.code ⟨"com/example/tote/tote/JsonText", "array", "(I)V"⟩ prog_12_method_5_code 2 (Option.none : Option Jvm.ClassFile.FieldType)) := own_at 239 rfl
theorem w240 : own_W (.methodLink "com/example/tote/tote/JsonText" 79 ⟨"com/example/tote/tote/JsonText", "checkDepth", "(I)V"⟩) := own_at 240 rfl
theorem w241 : own_W (.instanceMethod ⟨"com/example/tote/tote/JsonText", "checkDepth", "(I)V"⟩) := own_at 241 rfl
theorem w242 : own_W (.privateMethod ⟨"com/example/tote/tote/JsonText", "checkDepth", "(I)V"⟩) := own_at 242 rfl
theorem w243 : own_W (.code ⟨"com/example/tote/tote/JsonText", "checkDepth", "(I)V"⟩ prog_12_method_12_code 2 (Option.none : Option Jvm.ClassFile.FieldType)) := own_at 243 rfl
theorem w244 : own_W (.methodLink "com/example/tote/tote/JsonText" 87 ⟨"com/example/tote/tote/JsonText", "expect", "(C)V"⟩) := own_at 244 rfl
theorem w245 : own_W (.instanceMethod ⟨"com/example/tote/tote/JsonText", "expect", "(C)V"⟩) := own_at 245 rfl
theorem w246 : own_W (.privateMethod ⟨"com/example/tote/tote/JsonText", "expect", "(C)V"⟩) := own_at 246 rfl
theorem w247 : own_W (.code ⟨"com/example/tote/tote/JsonText", "expect", "(C)V"⟩ prog_12_method_15_code 2 (Option.none : Option Jvm.ClassFile.FieldType)) := own_at 247 rfl
theorem w248 : own_W (.methodLink "com/example/tote/tote/JsonText" 53 ⟨"com/example/tote/tote/JsonText", "object", "(I)V"⟩) := own_at 248 rfl
theorem w249 : own_W (.instanceMethod ⟨"com/example/tote/tote/JsonText", "object", "(I)V"⟩) := own_at 249 rfl
theorem w250 : own_W (.privateMethod ⟨"com/example/tote/tote/JsonText", "object", "(I)V"⟩) := own_at 250 rfl
theorem w251 : own_W (.code ⟨"com/example/tote/tote/JsonText", "object", "(I)V"⟩ prog_12_method_4_code 2 (Option.none : Option Jvm.ClassFile.FieldType)) := own_at 251 rfl
theorem w252 : own_W (.stringLink "com/example/tote/tote/JsonText" 122 "\"\\/bfnrt") := own_at 252 rfl
theorem w253 : own_W (.stringLink "com/example/tote/tote/JsonText" 75 "false") := own_at 253 rfl
theorem w254 : own_W (.stringLink "com/example/tote/tote/JsonText" 77 "null") := own_at 254 rfl
def own_K (b : ByteArray) (L : List (Nat × Instr × Nat)) : Prop := ∀ x ∈ L, decode b x.1 = .ok x.2
def own_nth : List (Nat × Instr × Nat) → Nat → Option (Nat × Instr × Nat)
  | [], _ => none
  | x :: _, 0 => some x
  | _ :: L, i + 1 => own_nth L i
def own_De (b : ByteArray) : Option (Nat × Instr × Nat) → Prop
  | none => True
  | some x => decode b x.1 = .ok x.2
theorem own_nth_all {b : ByteArray} : ∀ {L : List (Nat × Instr × Nat)}, own_K b L → ∀ i, own_De b (own_nth L i)
  | [], _, _ => trivial
  | x :: _, K, 0 => K x (List.mem_cons_self ..)
  | _ :: _, K, i + 1 => own_nth_all (fun x hx => K x (List.mem_cons_of_mem _ hx)) i
theorem own_d {b b' : ByteArray} {L : List (Nat × Instr × Nat)} (q : b' = b) (K : own_K b L) (i : Nat) : own_De b' (own_nth L i) := by subst q; exact own_nth_all K i
def tD1 : List (Nat × Instr × Nat) := [(0, .iconst 4, 1), (1, .newarray .char, 2), (3, .dup, 1), (4, .iconst 0, 1), (5, .bipush 32, 2), (7, .castore, 1), (8, .dup, 1), (9, .iconst 1, 1), (10, .bipush 9, 2), (12, .castore, 1), (13, .dup, 1), (14, .iconst 2, 1), (15, .bipush 10, 2), (17, .castore, 1), (18, .dup, 1), (19, .iconst 3, 1), (20, .bipush 13, 2), (22, .castore, 1), (23, .astore_n 1, 1), (24, .aload_n 1, 1), (25, .iload_n 0, 1), (26, .iconst 3, 1), (27, .iand, 1), (28, .caload, 1), (29, .ireturn, 1)]
theorem kD1 : own_K method_2_code tD1 := by unfold own_K; decide +kernel
def tD2 : List (Nat × Instr × Nat) := [(0, .iload_n 0, 1), (1, .ldc 7, 2), (3, .iand, 1), (4, .istore_n 1, 1), (5, .iload_n 1, 1), (6, .bipush 32, 2), (8, .if_icmp .lt 27, 3), (11, .iload_n 1, 1), (12, .bipush 34, 2), (14, .if_icmp .eq 21, 3), (17, .iload_n 1, 1), (18, .bipush 92, 2), (20, .if_icmp .eq 15, 3), (23, .iload_n 1, 1), (24, .ldc 8, 2), (26, .if_icmp .lt 12, 3), (29, .iload_n 1, 1), (30, .ldc 9, 2), (32, .if_icmp .gt 6, 3), (35, .bipush 97, 2), (37, .istore_n 1, 1), (38, .iload_n 1, 1), (39, .i2c, 1), (40, .ireturn, 1)]
theorem kD2 : own_K method_3_code tD2 := by unfold own_K; decide +kernel
def tD3 : List (Nat × Instr × Nat) := [(0, .aload_n 0, 1), (1, .aload_n 1, 1), (2, .iconst 0, 1), (3, .aload_n 1, 1), (4, .arraylength, 1), (5, .aconst_null, 1), (6, .invokespecial 27, 3), (9, .return_, 1)]
theorem kD3 : own_K jdk_42_method_3_code tD3 := by unfold own_K; decide +kernel
def tD4 : List (Nat × Instr × Nat) := [(0, .aload_n 0, 1), (1, .invokespecial 1, 3), (4, .iload_n 3, 1), (5, .ifCond .ne 22, 3), (27, .getstatic 38, 3), (30, .ifCond .eq 28, 3), (33, .aload_n 1, 1), (34, .iload_n 2, 1), (35, .iload_n 3, 1), (36, .invokestatic 177, 3), (39, .astore 5, 2), (41, .aload_n 0, 1), (42, .aload 5, 2), (44, .iload_n 3, 1), (45, .invokestatic 47, 3), (48, .putfield 15, 3), (51, .aload_n 0, 1), (52, .aload 5, 2), (54, .putfield 9, 3), (57, .return_, 1)]
theorem kD4 : own_K jdk_42_method_149_code tD4 := by unfold own_K; decide +kernel
def tD6 : List (Nat × Instr × Nat) := [(0, .iload_n 2, 1), (1, .newarray .byte, 2), (3, .astore_n 3, 1), (4, .aload_n 0, 1), (5, .iload_n 1, 1), (6, .aload_n 3, 1), (7, .iconst 0, 1), (8, .iload_n 2, 1), (9, .invokestatic 115, 3), (12, .istore 4, 2), (14, .iload 4, 2), (16, .iload_n 2, 1), (17, .if_icmp .eq 40, 3), (20, .aload_n 0, 1), (21, .iload_n 1, 1), (22, .iload_n 2, 1), (23, .invokestatic 119, 3), (26, .astore 5, 2), (28, .aload 5, 2), (30, .iload 4, 2), (32, .invokestatic 71, 3), (35, .sipush 255, 3), (38, .if_icmp .gt 16, 3), (54, .aload 5, 2), (56, .areturn, 1), (57, .aload_n 3, 1), (58, .areturn, 1)]
theorem kD6 : own_K jdk_52_method_16_code tD6 := by unfold own_K; decide +kernel
def tD7 : List (Nat × Instr × Nat) := [(0, .iconst 0, 1), (1, .istore 5, 2), (3, .iload 5, 2), (5, .iload 4, 2), (7, .if_icmp .ge 37, 3), (10, .aload_n 0, 1), (11, .iload_n 1, 1), (12, .caload, 1), (13, .istore 6, 2), (15, .iload 6, 2), (17, .sipush 255, 3), (20, .if_icmp .le 6, 3), (23, .iload 5, 2), (25, .ireturn, 1), (26, .aload_n 2, 1), (27, .iload_n 3, 1), (28, .iload 6, 2), (30, .i2b, 1), (31, .bastore, 1), (32, .iinc 1 1, 3), (35, .iinc 3 1, 3), (38, .iinc 5 1, 3), (41, .goto (-38), 3), (44, .iload 4, 2), (46, .ireturn, 1)]
theorem kD7 : own_K jdk_52_method_21_code tD7 := by unfold own_K; decide +kernel
def tD8 : List (Nat × Instr × Nat) := [(0, .iload_n 1, 1), (1, .aload_n 0, 1), (2, .arraylength, 1), (3, .isub, 1), (4, .bipush 31, 2), (6, .iushr, 1), (7, .i2b, 1), (8, .ireturn, 1)]
theorem kD8 : own_K jdk_52_method_15_code tD8 := by unfold own_K; decide +kernel
def tD9 : List (Nat × Instr × Nat) := [(0, .aload_n 0, 1), (1, .ldc 13, 2), (3, .invokestatic 15, 3), (6, .pop, 1), (7, .new 8, 3), (10, .dup, 1), (11, .aload_n 0, 1), (12, .invokespecial 21, 3), (15, .astore_n 1, 1), (16, .aload_n 1, 1), (17, .invokevirtual 24, 3), (20, .aload_n 1, 1), (21, .iconst 0, 1), (22, .invokevirtual 27, 3), (25, .aload_n 1, 1), (26, .invokevirtual 24, 3), (29, .aload_n 1, 1), (30, .getfield 31, 3), (33, .aload_n 0, 1), (34, .invokevirtual 35, 3), (37, .if_icmp .ge 10, 3), (47, .return_, 1)]
theorem kD9 : own_K prog_12_method_2_code tD9 := by unfold own_K; decide +kernel
def tD10 : List (Nat × Instr × Nat) := [(0, .aload_n 0, 1), (1, .ifnonnull 12, 3), (13, .aload_n 0, 1), (14, .areturn, 1)]
theorem kD10 : own_K jdk_31_method_11_code tD10 := by unfold own_K; decide +kernel
def tD11 : List (Nat × Instr × Nat) := [(0, .aload_n 0, 1), (1, .invokespecial 1, 3), (4, .aload_n 0, 1), (5, .aload_n 1, 1), (6, .putfield 7, 3), (9, .return_, 1)]
theorem kD11 : own_K prog_12_method_1_code tD11 := by unfold own_K; decide +kernel
def tD12 : List (Nat × Instr × Nat) := [(0, .aload_n 0, 1), (1, .getfield 31, 3), (4, .aload_n 0, 1), (5, .getfield 7, 3), (8, .invokevirtual 35, 3), (11, .if_icmp .ge 35, 3), (14, .ldc 179, 2), (16, .aload_n 0, 1), (17, .getfield 7, 3), (20, .aload_n 0, 1), (21, .getfield 31, 3), (24, .invokevirtual 49, 3), (27, .invokevirtual 124, 3), (30, .ifCond .lt 16, 3), (33, .aload_n 0, 1), (34, .dup, 1), (35, .getfield 31, 3), (38, .iconst 1, 1), (39, .iadd, 1), (40, .putfield 31, 3), (43, .goto (-43), 3), (46, .return_, 1)]
theorem kD12 : own_K prog_12_method_13_code tD12 := by unfold own_K; decide +kernel
def tD13 : List (Nat × Instr × Nat) := [(0, .aload_n 0, 1), (1, .getfield 9, 3), (4, .arraylength, 1), (5, .aload_n 0, 1), (6, .invokevirtual 335, 3), (9, .ishr, 1), (10, .ireturn, 1)]
theorem kD13 : own_K jdk_42_method_54_code tD13 := by unfold own_K; decide +kernel
def tD14 : List (Nat × Instr × Nat) := [(0, .getstatic 38, 3), (3, .ifCond .eq 10, 3), (6, .aload_n 0, 1), (7, .getfield 15, 3), (10, .goto 4, 3), (14, .ireturn, 1)]
theorem kD14 : own_K jdk_42_method_152_code tD14 := by unfold own_K; decide +kernel
def tD15 : List (Nat × Instr × Nat) := [(0, .aload_n 0, 1), (1, .invokevirtual 492, 3), (4, .ifCond .eq 12, 3), (7, .aload_n 0, 1), (8, .getfield 9, 3), (11, .iload_n 1, 1), (12, .invokestatic 495, 3), (15, .ireturn, 1), (16, .aload_n 0, 1), (17, .getfield 9, 3), (20, .iload_n 1, 1), (21, .invokestatic 498, 3), (24, .ireturn, 1)]
theorem kD15 : own_K jdk_42_method_56_code tD15 := by unfold own_K; decide +kernel
def tD16 : List (Nat × Instr × Nat) := [(0, .getstatic 38, 3), (3, .ifCond .eq 14, 3), (6, .aload_n 0, 1), (7, .getfield 15, 3), (10, .ifCond .ne 7, 3), (13, .iconst 1, 1), (14, .goto 4, 3), (17, .iconst 0, 1), (18, .ireturn, 1)]
theorem kD16 : own_K jdk_42_method_154_code tD16 := by unfold own_K; decide +kernel
def tD17 : List (Nat × Instr × Nat) := [(0, .iload_n 1, 1), (1, .aload_n 0, 1), (2, .arraylength, 1), (3, .invokestatic 9, 3), (6, .aload_n 0, 1), (7, .iload_n 1, 1), (8, .baload, 1), (9, .sipush 255, 3), (12, .iand, 1), (13, .i2c, 1), (14, .ireturn, 1)]
theorem kD17 : own_K jdk_43_method_2_code tD17 := by unfold own_K; decide +kernel
def tD18 : List (Nat × Instr × Nat) := [(0, .iload_n 0, 1), (1, .iload_n 1, 1), (2, .getstatic 1053, 3), (5, .invokestatic 1059, 3), (8, .pop, 1), (9, .return_, 1)]
theorem kD18 : own_K jdk_42_method_155_code tD18 := by unfold own_K; decide +kernel
def tD19 : List (Nat × Instr × Nat) := [(0, .iload_n 0, 1), (1, .ifCond .lt 8, 3), (4, .iload_n 0, 1), (5, .iload_n 1, 1), (6, .if_icmp .lt 10, 3), (16, .iload_n 0, 1), (17, .ireturn, 1)]
theorem kD19 : own_K jdk_41_method_11_code tD19 := by unfold own_K; decide +kernel
def tD20 : List (Nat × Instr × Nat) := [(0, .aload_n 0, 1), (1, .iload_n 1, 1), (2, .iconst 0, 1), (3, .invokevirtual 633, 3), (6, .ireturn, 1)]
theorem kD20 : own_K jdk_42_method_79_code tD20 := by unfold own_K; decide +kernel
def tD21 : List (Nat × Instr × Nat) := [(0, .aload_n 0, 1), (1, .invokevirtual 492, 3), (4, .ifCond .eq 19, 3), (7, .aload_n 0, 1), (8, .getfield 9, 3), (11, .iload_n 1, 1), (12, .iload_n 2, 1), (13, .aload_n 0, 1), (14, .invokevirtual 505, 3), (17, .invokestatic 637, 3), (20, .goto 16, 3), (36, .ireturn, 1)]
theorem kD21 : own_K jdk_42_method_80_code tD21 := by unfold own_K; decide +kernel
def tD22 : List (Nat × Instr × Nat) := [(0, .iload_n 1, 1), (1, .invokestatic 88, 3), (4, .ifCond .ne 5, 3), (9, .iload_n 2, 1), (10, .iconst 0, 1), (11, .invokestatic 92, 3), (14, .istore_n 2, 1), (15, .iload_n 3, 1), (16, .aload_n 0, 1), (17, .arraylength, 1), (18, .invokestatic 38, 3), (21, .istore_n 3, 1), (22, .iload_n 2, 1), (23, .iload_n 3, 1), (24, .if_icmp .lt 5, 3), (29, .aload_n 0, 1), (30, .iload_n 1, 1), (31, .iload_n 2, 1), (32, .iload_n 3, 1), (33, .invokestatic 95, 3), (36, .ireturn, 1)]
theorem kD22 : own_K jdk_43_method_22_code tD22 := by unfold own_K; decide +kernel
def tD23 : List (Nat × Instr × Nat) := [(0, .iload_n 0, 1), (1, .ifCond .lt 14, 3), (4, .iload_n 0, 1), (5, .sipush 255, 3), (8, .if_icmp .gt 7, 3), (11, .iconst 1, 1), (12, .goto 4, 3), (16, .ireturn, 1)]
theorem kD23 : own_K jdk_43_method_4_code tD23 := by unfold own_K; decide +kernel
def tD24 : List (Nat × Instr × Nat) := [(0, .iload_n 0, 1), (1, .iload_n 1, 1), (2, .if_icmp .lt 7, 3), (5, .iload_n 0, 1), (6, .goto 4, 3), (10, .ireturn, 1)]
theorem kD24 : own_K jdk_29_method_65_code tD24 := by unfold own_K; decide +kernel
def tD25 : List (Nat × Instr × Nat) := [(0, .iload_n 0, 1), (1, .iload_n 1, 1), (2, .if_icmp .gt 7, 3), (5, .iload_n 0, 1), (6, .goto 4, 3), (10, .ireturn, 1)]
theorem kD25 : own_K jdk_29_method_69_code tD25 := by unfold own_K; decide +kernel
def tD26 : List (Nat × Instr × Nat) := [(0, .iload_n 1, 1), (1, .i2b, 1), (2, .istore 4, 2), (4, .iload_n 2, 1), (5, .istore 5, 2), (7, .iload 5, 2), (9, .iload_n 3, 1), (10, .if_icmp .ge 21, 3), (13, .aload_n 0, 1), (14, .iload 5, 2), (16, .baload, 1), (17, .iload 4, 2), (19, .if_icmp .ne 6, 3), (22, .iload 5, 2), (24, .ireturn, 1), (25, .iinc 5 1, 3), (28, .goto (-21), 3), (31, .iconst (-1), 1), (32, .ireturn, 1)]
theorem kD26 : own_K jdk_43_method_23_code tD26 := by unfold own_K; decide +kernel
def tD27 : List (Nat × Instr × Nat) := [(0, .aload_n 0, 1), (1, .getfield 31, 3), (4, .aload_n 0, 1), (5, .getfield 7, 3), (8, .invokevirtual 35, 3), (11, .if_icmp .lt 10, 3), (21, .aload_n 0, 1), (22, .getfield 7, 3), (25, .aload_n 0, 1), (26, .getfield 31, 3), (29, .invokevirtual 49, 3), (32, .istore_n 2, 1), (33, .iload_n 2, 1), (34, .bipush 123, 2), (36, .if_icmp .ne 13, 3), (39, .aload_n 0, 1), (40, .iload_n 1, 1), (41, .iconst 1, 1), (42, .iadd, 1), (43, .invokevirtual 53, 3), (46, .goto 86, 3), (49, .iload_n 2, 1), (50, .bipush 91, 2), (52, .if_icmp .ne 13, 3), (55, .aload_n 0, 1), (56, .iload_n 1, 1), (57, .iconst 1, 1), (58, .iadd, 1), (59, .invokevirtual 56, 3), (62, .goto 70, 3), (65, .iload_n 2, 1), (66, .bipush 34, 2), (68, .if_icmp .ne 10, 3), (71, .aload_n 0, 1), (72, .invokevirtual 59, 3), (75, .goto 57, 3), (78, .iload_n 2, 1), (79, .bipush 45, 2), (81, .if_icmp .eq 10, 3), (84, .iload_n 2, 1), (85, .invokestatic 62, 3), (88, .ifCond .eq 10, 3), (91, .aload_n 0, 1), (92, .invokevirtual 66, 3), (95, .goto 37, 3), (98, .aload_n 0, 1), (99, .ldc 69, 2), (101, .invokevirtual 71, 3), (104, .ifCond .ne 28, 3), (107, .aload_n 0, 1), (108, .ldc 75, 2), (110, .invokevirtual 71, 3), (113, .ifCond .ne 19, 3), (116, .aload_n 0, 1), (117, .ldc 77, 2), (119, .invokevirtual 71, 3), (122, .ifCond .ne 10, 3), (132, .return_, 1)]
theorem kD27 : own_K prog_12_method_3_code tD27 := by unfold own_K; decide +kernel
def tD28 : List (Nat × Instr × Nat) := [(0, .aload_n 0, 1), (1, .dup, 1), (2, .getfield 31, 3), (5, .iconst 1, 1), (6, .iadd, 1), (7, .putfield 31, 3), (10, .aload_n 0, 1), (11, .getfield 31, 3), (14, .aload_n 0, 1), (15, .getfield 7, 3), (18, .invokevirtual 35, 3), (21, .if_icmp .lt 10, 3), (31, .aload_n 0, 1), (32, .getfield 7, 3), (35, .aload_n 0, 1), (36, .getfield 31, 3), (39, .invokevirtual 49, 3), (42, .istore_n 1, 1), (43, .iload_n 1, 1), (44, .bipush 34, 2), (46, .if_icmp .ne 14, 3), (49, .aload_n 0, 1), (50, .dup, 1), (51, .getfield 31, 3), (54, .iconst 1, 1), (55, .iadd, 1), (56, .putfield 31, 3), (59, .return_, 1), (60, .iload_n 1, 1), (61, .bipush 92, 2), (63, .if_icmp .ne 20, 3), (66, .aload_n 0, 1), (67, .dup, 1), (68, .getfield 31, 3), (71, .iconst 1, 1), (72, .iadd, 1), (73, .putfield 31, 3), (76, .aload_n 0, 1), (77, .invokevirtual 93, 3), (80, .goto 95, 3), (83, .iload_n 1, 1), (84, .bipush 32, 2), (86, .if_icmp .ge 10, 3), (96, .iload_n 1, 1), (97, .invokestatic 98, 3), (100, .ifCond .eq 51, 3), (103, .aload_n 0, 1), (104, .getfield 31, 3), (107, .iconst 1, 1), (108, .iadd, 1), (109, .aload_n 0, 1), (110, .getfield 7, 3), (113, .invokevirtual 35, 3), (116, .if_icmp .ge 35, 3), (119, .aload_n 0, 1), (120, .getfield 7, 3), (123, .aload_n 0, 1), (124, .getfield 31, 3), (127, .iconst 1, 1), (128, .iadd, 1), (129, .invokevirtual 49, 3), (132, .invokestatic 103, 3), (135, .ifCond .eq 16, 3), (138, .aload_n 0, 1), (139, .dup, 1), (140, .getfield 31, 3), (143, .iconst 2, 1), (144, .iadd, 1), (145, .putfield 31, 3), (148, .goto 27, 3), (151, .iload_n 1, 1), (152, .invokestatic 106, 3), (155, .ifCond .eq 10, 3), (165, .aload_n 0, 1), (166, .dup, 1), (167, .getfield 31, 3), (170, .iconst 1, 1), (171, .iadd, 1), (172, .putfield 31, 3), (175, .goto (-165), 3)]
theorem kD28 : own_K prog_12_method_6_code tD28 := by unfold own_K; decide +kernel
def tD29 : List (Nat × Instr × Nat) := [(0, .iload_n 0, 1), (1, .ldc 75, 2), (3, .if_icmp .lt 13, 3), (6, .iload_n 0, 1), (7, .ldc 76, 2), (9, .if_icmp .ge 7, 3), (12, .iconst 1, 1), (13, .goto 4, 3), (16, .iconst 0, 1), (17, .ireturn, 1)]
theorem kD29 : own_K jdk_89_method_14_code tD29 := by unfold own_K; decide +kernel
def tD30 : List (Nat × Instr × Nat) := [(0, .iload_n 0, 1), (1, .ldc 75, 2), (3, .if_icmp .lt 13, 3), (6, .iload_n 0, 1), (7, .ldc 77, 2), (9, .if_icmp .ge 7, 3), (12, .iconst 1, 1), (13, .goto 4, 3), (16, .iconst 0, 1), (17, .ireturn, 1)]
theorem kD30 : own_K jdk_89_method_16_code tD30 := by unfold own_K; decide +kernel
def tD31 : List (Nat × Instr × Nat) := [(0, .iload_n 0, 1), (1, .bipush 48, 2), (3, .if_icmp .lt 13, 3), (6, .iload_n 0, 1), (7, .bipush 57, 2), (9, .if_icmp .gt 7, 3), (12, .iconst 1, 1), (13, .goto 4, 3), (16, .iconst 0, 1), (17, .ireturn, 1)]
theorem kD31 : own_K prog_12_method_17_code tD31 := by unfold own_K; decide +kernel
def tD32 : List (Nat × Instr × Nat) := [(0, .aload_n 0, 1), (1, .getfield 7, 3), (4, .aload_n 1, 1), (5, .aload_n 0, 1), (6, .getfield 31, 3), (9, .invokevirtual 173, 3), (12, .istore_n 2, 1), (13, .iload_n 2, 1), (14, .ifCond .eq 16, 3), (17, .aload_n 0, 1), (18, .dup, 1), (19, .getfield 31, 3), (22, .aload_n 1, 1), (23, .invokevirtual 35, 3), (26, .iadd, 1), (27, .putfield 31, 3), (30, .iload_n 2, 1), (31, .ireturn, 1)]
theorem kD32 : own_K prog_12_method_11_code tD32 := by unfold own_K; decide +kernel
def tD33 : List (Nat × Instr × Nat) := [(0, .iload_n 2, 1), (1, .ifCond .lt 16, 3), (4, .iload_n 2, 1), (5, .aload_n 0, 1), (6, .invokevirtual 505, 3), (9, .aload_n 1, 1), (10, .invokevirtual 505, 3), (13, .isub, 1), (14, .if_icmp .le 5, 3), (19, .aload_n 0, 1), (20, .getfield 9, 3), (23, .astore_n 3, 1), (24, .aload_n 1, 1), (25, .getfield 9, 3), (28, .astore 4, 2), (30, .iconst 0, 1), (31, .istore 5, 2), (33, .aload 4, 2), (35, .arraylength, 1), (36, .istore 6, 2), (38, .aload_n 0, 1), (39, .invokevirtual 335, 3), (42, .istore 7, 2), (44, .iload 7, 2), (46, .aload_n 1, 1), (47, .invokevirtual 335, 3), (50, .if_icmp .ne 32, 3), (53, .iload 7, 2), (55, .iconst 1, 1), (56, .if_icmp .ne 7, 3), (63, .aload_n 3, 1), (64, .iload_n 2, 1), (65, .aload 4, 2), (67, .iconst 0, 1), (68, .iload 6, 2), (70, .invokestatic 607, 3), (73, .ifCond .ge 7, 3), (76, .iconst 1, 1), (77, .goto 4, 3), (80, .iconst 0, 1), (81, .ireturn, 1)]
theorem kD33 : own_K jdk_42_method_75_code tD33 := by unfold own_K; decide +kernel
def tD34 : List (Nat × Instr × Nat) := [(0, .iconst 0, 1), (1, .istore 5, 2), (3, .iload 4, 2), (5, .bipush 7, 2), (7, .if_icmp .le 63, 3), (70, .iload 5, 2), (72, .iload 4, 2), (74, .if_icmp .ge 27, 3), (77, .aload_n 0, 1), (78, .iload_n 1, 1), (79, .iload 5, 2), (81, .iadd, 1), (82, .baload, 1), (83, .aload_n 2, 1), (84, .iload_n 3, 1), (85, .iload 5, 2), (87, .iadd, 1), (88, .baload, 1), (89, .if_icmp .eq 6, 3), (92, .iload 5, 2), (94, .ireturn, 1), (95, .iinc 5 1, 3), (98, .goto (-28), 3), (101, .iconst (-1), 1), (102, .ireturn, 1)]
theorem kD34 : own_K jdk_48_method_14_code tD34 := by unfold own_K; decide +kernel
def tD35 : List (Nat × Instr × Nat) := [(0, .iload_n 2, 1), (1, .invokestatic 107, 3), (4, .astore_n 3, 1), (5, .iconst 0, 1), (6, .istore 4, 2), (8, .iload 4, 2), (10, .iload_n 2, 1), (11, .if_icmp .ge 21, 3), (14, .aload_n 3, 1), (15, .iload 4, 2), (17, .aload_n 0, 1), (18, .iload_n 1, 1), (19, .caload, 1), (20, .invokestatic 111, 3), (23, .iinc 1 1, 3), (26, .iinc 4 1, 3), (29, .goto (-21), 3), (32, .aload_n 3, 1), (33, .areturn, 1)]
theorem kD35 : own_K jdk_52_method_14_code tD35 := by unfold own_K; decide +kernel
def tD36 : List (Nat × Instr × Nat) := [(0, .iload_n 0, 1), (1, .invokestatic 11, 3), (4, .newarray .byte, 2), (6, .areturn, 1)]
theorem kD36 : own_K jdk_52_method_2_code tD36 := by unfold own_K; decide +kernel
def tD37 : List (Nat × Instr × Nat) := [(0, .iload_n 0, 1), (1, .ifCond .ge 11, 3), (12, .iload_n 0, 1), (13, .ldc 20, 2), (15, .if_icmp .lt 40, 3), (55, .iload_n 0, 1), (56, .iconst 1, 1), (57, .ishl, 1), (58, .ireturn, 1)]
theorem kD37 : own_K jdk_52_method_3_code tD37 := by unfold own_K; decide +kernel
def tD38 : List (Nat × Instr × Nat) := [(0, .getstatic 44, 3), (3, .ifCond .ne 25, 3), (28, .iload_n 1, 1), (29, .iconst 1, 1), (30, .ishl, 1), (31, .istore_n 1, 1), (32, .aload_n 0, 1), (33, .iload_n 1, 1), (34, .iinc 1 1, 3), (37, .iload_n 2, 1), (38, .getstatic 59, 3), (41, .ishr, 1), (42, .i2b, 1), (43, .bastore, 1), (44, .aload_n 0, 1), (45, .iload_n 1, 1), (46, .iload_n 2, 1), (47, .getstatic 63, 3), (50, .ishr, 1), (51, .i2b, 1), (52, .bastore, 1), (53, .return_, 1)]
theorem kD38 : own_K jdk_52_method_4_code tD38 := by unfold own_K; decide +kernel
def tD39 : List (Nat × Instr × Nat) := [(0, .getstatic 44, 3), (3, .ifCond .ne 25, 3), (28, .iload_n 1, 1), (29, .iconst 1, 1), (30, .ishl, 1), (31, .istore_n 1, 1), (32, .aload_n 0, 1), (33, .iload_n 1, 1), (34, .iinc 1 1, 3), (37, .baload, 1), (38, .sipush 255, 3), (41, .iand, 1), (42, .getstatic 59, 3), (45, .ishl, 1), (46, .aload_n 0, 1), (47, .iload_n 1, 1), (48, .baload, 1), (49, .sipush 255, 3), (52, .iand, 1), (53, .getstatic 63, 3), (56, .ishl, 1), (57, .ior, 1), (58, .i2c, 1), (59, .ireturn, 1)]
theorem kD39 : own_K jdk_52_method_5_code tD39 := by unfold own_K; decide +kernel
def tD40 : List (Nat × Instr × Nat) := [(0, .iload_n 1, 1), (1, .aload_n 0, 1), (2, .invokestatic 67, 3), (5, .aload_n 0, 1), (6, .iload_n 1, 1), (7, .invokestatic 71, 3), (10, .ireturn, 1)]
theorem kD40 : own_K jdk_52_method_83_code tD40 := by unfold own_K; decide +kernel
def tD41 : List (Nat × Instr × Nat) := [(0, .iload_n 0, 1), (1, .aload_n 1, 1), (2, .invokestatic 48, 3), (5, .invokestatic 414, 3), (8, .return_, 1)]
theorem kD41 : own_K jdk_52_method_91_code tD41 := by unfold own_K; decide +kernel
def tD42 : List (Nat × Instr × Nat) := [(0, .aload_n 0, 1), (1, .arraylength, 1), (2, .iconst 1, 1), (3, .ishr, 1), (4, .ireturn, 1)]
theorem kD42 : own_K jdk_52_method_6_code tD42 := by unfold own_K; decide +kernel
def tD43 : List (Nat × Instr × Nat) := [(0, .iload_n 0, 1), (1, .ldc 76, 2), (3, .if_icmp .lt 13, 3), (6, .iload_n 0, 1), (7, .ldc 77, 2), (9, .if_icmp .ge 7, 3), (12, .iconst 1, 1), (13, .goto 4, 3), (16, .iconst 0, 1), (17, .ireturn, 1)]
theorem kD43 : own_K jdk_89_method_15_code tD43 := by unfold own_K; decide +kernel
def tD44 : List (Nat × Instr × Nat) := [(0, .bipush 48, 2), (2, .iload_n 0, 1), (3, .ldc 10, 2), (5, .iand, 1), (6, .bipush 10, 2), (8, .irem, 1), (9, .iadd, 1), (10, .i2c, 1), (11, .ireturn, 1)]
theorem kD44 : own_K method_4_code tD44 := by unfold own_K; decide +kernel
def tD45 : List (Nat × Instr × Nat) := [(0, .aload_n 0, 1), (1, .getfield 31, 3), (4, .istore_n 1, 1), (5, .aload_n 0, 1), (6, .bipush 45, 2), (8, .invokevirtual 82, 3), (11, .pop, 1), (12, .aload_n 0, 1), (13, .getfield 31, 3), (16, .istore_n 2, 1), (17, .aload_n 0, 1), (18, .bipush 48, 2), (20, .invokevirtual 82, 3), (23, .ifCond .ne 61, 3), (26, .aload_n 0, 1), (27, .getfield 31, 3), (30, .aload_n 0, 1), (31, .getfield 7, 3), (34, .invokevirtual 35, 3), (37, .if_icmp .ge 35, 3), (40, .aload_n 0, 1), (41, .getfield 7, 3), (44, .aload_n 0, 1), (45, .getfield 31, 3), (48, .invokevirtual 49, 3), (51, .bipush 49, 2), (53, .if_icmp .lt 19, 3), (56, .aload_n 0, 1), (57, .getfield 7, 3), (60, .aload_n 0, 1), (61, .getfield 31, 3), (64, .invokevirtual 49, 3), (67, .bipush 57, 2), (69, .if_icmp .le 11, 3), (80, .aload_n 0, 1), (81, .invokevirtual 138, 3), (84, .aload_n 0, 1), (85, .getfield 31, 3), (88, .iload_n 2, 1), (89, .isub, 1), (90, .istore_n 3, 1), (91, .aload_n 0, 1), (92, .getfield 31, 3), (95, .istore 4, 2), (97, .iconst 0, 1), (98, .istore 5, 2), (100, .aload_n 0, 1), (101, .bipush 46, 2), (103, .invokevirtual 82, 3), (106, .ifCond .eq 35, 3), (109, .aload_n 0, 1), (110, .getfield 31, 3), (113, .istore 4, 2), (115, .aload_n 0, 1), (116, .invokevirtual 138, 3), (119, .aload_n 0, 1), (120, .getfield 31, 3), (123, .iload 4, 2), (125, .isub, 1), (126, .istore 5, 2), (128, .iload 5, 2), (130, .ifCond .ne 11, 3), (141, .lconst 0, 1), (142, .lstore 6, 2), (144, .aload_n 0, 1), (145, .bipush 101, 2), (147, .invokevirtual 82, 3), (150, .ifCond .ne 12, 3), (153, .aload_n 0, 1), (154, .bipush 69, 2), (156, .invokevirtual 82, 3), (159, .ifCond .eq 136, 3), (162, .aload_n 0, 1), (163, .bipush 45, 2), (165, .invokevirtual 82, 3), (168, .istore 8, 2), (170, .iload 8, 2), (172, .ifCond .ne 10, 3), (175, .aload_n 0, 1), (176, .bipush 43, 2), (178, .invokevirtual 82, 3), (181, .pop, 1), (182, .aload_n 0, 1), (183, .getfield 31, 3), (186, .istore 9, 2), (188, .aload_n 0, 1), (189, .getfield 31, 3), (192, .aload_n 0, 1), (193, .getfield 7, 3), (196, .invokevirtual 35, 3), (199, .if_icmp .ge 64, 3), (202, .aload_n 0, 1), (203, .getfield 7, 3), (206, .aload_n 0, 1), (207, .getfield 31, 3), (210, .invokevirtual 49, 3), (213, .invokestatic 62, 3), (216, .ifCond .eq 47, 3), (219, .lload 6, 2), (221, .ldc2_w 143, 3), (224, .lmul, 1), (225, .aload_n 0, 1), (226, .getfield 7, 3), (229, .aload_n 0, 1), (230, .getfield 31, 3), (233, .invokevirtual 49, 3), (236, .i2l, 1), (237, .ladd, 1), (238, .ldc2_w 145, 3), (241, .lsub, 1), (242, .ldc2_w 147, 3), (245, .invokestatic 149, 3), (248, .lstore 6, 2), (250, .aload_n 0, 1), (251, .dup, 1), (252, .getfield 31, 3), (255, .iconst 1, 1), (256, .iadd, 1), (257, .putfield 31, 3), (260, .goto (-72), 3), (263, .aload_n 0, 1), (264, .getfield 31, 3), (267, .iload 9, 2), (269, .if_icmp .ne 11, 3), (280, .iload 8, 2), (282, .ifCond .eq 9, 3), (291, .lload 6, 2), (293, .lstore 6, 2), (295, .aload_n 0, 1), (296, .iload_n 2, 1), (297, .iload_n 3, 1), (298, .iload 4, 2), (300, .iload 5, 2), (302, .lload 6, 2), (304, .invokevirtual 157, 3), (307, .ifCond .ne 11, 3), (318, .return_, 1)]
theorem kD45 : own_K prog_12_method_9_code tD45 := by unfold own_K; decide +kernel
def tD46 : List (Nat × Instr × Nat) := [(0, .aload_n 0, 1), (1, .getfield 31, 3), (4, .aload_n 0, 1), (5, .getfield 7, 3), (8, .invokevirtual 35, 3), (11, .if_icmp .ge 22, 3), (14, .aload_n 0, 1), (15, .getfield 7, 3), (18, .aload_n 0, 1), (19, .getfield 31, 3), (22, .invokevirtual 49, 3), (25, .iload_n 1, 1), (26, .if_icmp .ne 7, 3), (29, .iconst 1, 1), (30, .goto 4, 3), (33, .iconst 0, 1), (34, .istore_n 2, 1), (35, .iload_n 2, 1), (36, .ifCond .eq 13, 3), (39, .aload_n 0, 1), (40, .dup, 1), (41, .getfield 31, 3), (44, .iconst 1, 1), (45, .iadd, 1), (46, .putfield 31, 3), (49, .iload_n 2, 1), (50, .ireturn, 1)]
theorem kD46 : own_K prog_12_method_16_code tD46 := by unfold own_K; decide +kernel
def tD47 : List (Nat × Instr × Nat) := [(0, .aload_n 0, 1), (1, .getfield 31, 3), (4, .aload_n 0, 1), (5, .getfield 7, 3), (8, .invokevirtual 35, 3), (11, .if_icmp .ge 33, 3), (14, .aload_n 0, 1), (15, .getfield 7, 3), (18, .aload_n 0, 1), (19, .getfield 31, 3), (22, .invokevirtual 49, 3), (25, .invokestatic 62, 3), (28, .ifCond .eq 16, 3), (31, .aload_n 0, 1), (32, .dup, 1), (33, .getfield 31, 3), (36, .iconst 1, 1), (37, .iadd, 1), (38, .putfield 31, 3), (41, .goto (-41), 3), (44, .return_, 1)]
theorem kD47 : own_K prog_12_method_14_code tD47 := by unfold own_K; decide +kernel
def tD48 : List (Nat × Instr × Nat) := [(0, .aload_n 0, 1), (1, .getfield 7, 3), (4, .iload_n 1, 1), (5, .invokevirtual 49, 3), (8, .bipush 48, 2), (10, .if_icmp .eq 18, 3), (13, .iconst 0, 1), (14, .istore 7, 2), (16, .iload_n 2, 1), (17, .iconst 1, 1), (18, .isub, 1), (19, .i2l, 1), (20, .lload 5, 2), (22, .ladd, 1), (23, .lstore 8, 2), (25, .goto 59, 3), (28, .iconst 0, 1), (29, .istore 10, 2), (31, .iload 10, 2), (33, .iload 4, 2), (35, .if_icmp .ge 25, 3), (38, .aload_n 0, 1), (39, .getfield 7, 3), (42, .iload_n 3, 1), (43, .iload 10, 2), (45, .iadd, 1), (46, .invokevirtual 49, 3), (49, .bipush 48, 2), (51, .if_icmp .ne 9, 3), (54, .iinc 10 1, 3), (57, .goto (-26), 3), (60, .iload 10, 2), (62, .iload 4, 2), (64, .if_icmp .ne 7, 3), (67, .iconst 1, 1), (68, .goto 4, 3), (71, .iconst 0, 1), (72, .istore 7, 2), (74, .lload 5, 2), (76, .iload 10, 2), (78, .i2l, 1), (79, .lsub, 1), (80, .lconst 1, 1), (81, .lsub, 1), (82, .lstore 8, 2), (84, .lload 5, 2), (86, .invokestatic 163, 3), (89, .ldc2_w 167, 3), (92, .lcmp, 1), (93, .ifCond .gt 34, 3), (96, .iload 4, 2), (98, .i2l, 1), (99, .lload 5, 2), (101, .lsub, 1), (102, .ldc2_w 169, 3), (105, .lcmp, 1), (106, .ifCond .gt 21, 3), (109, .iload 7, 2), (111, .ifCond .ne 12, 3), (114, .lload 8, 2), (116, .ldc2_w 171, 3), (119, .lcmp, 1), (120, .ifCond .gt 7, 3), (123, .iconst 1, 1), (124, .goto 4, 3), (128, .ireturn, 1)]
theorem kD48 : own_K prog_12_method_10_code tD48 := by unfold own_K; decide +kernel
def tD49 : List (Nat × Instr × Nat) := [(0, .lload_n 0, 1), (1, .lconst 0, 1), (2, .lcmp, 1), (3, .ifCond .ge 8, 3), (11, .lload_n 0, 1), (12, .lreturn, 1)]
theorem kD49 : own_K jdk_29_method_61_code tD49 := by unfold own_K; decide +kernel
def tD50 : List (Nat × Instr × Nat) := [(0, .lload_n 0, 1), (1, .lload_n 2, 1), (2, .lcmp, 1), (3, .ifCond .gt 7, 3), (6, .lload_n 0, 1), (7, .goto 4, 3), (11, .lreturn, 1)]
theorem kD50 : own_K jdk_29_method_70_code tD50 := by unfold own_K; decide +kernel
def tD51 : List (Nat × Instr × Nat) := [(0, .aload_n 0, 1), (1, .getfield 31, 3), (4, .aload_n 0, 1), (5, .getfield 7, 3), (8, .invokevirtual 35, 3), (11, .if_icmp .lt 10, 3), (21, .aload_n 0, 1), (22, .getfield 7, 3), (25, .aload_n 0, 1), (26, .getfield 31, 3), (29, .invokevirtual 49, 3), (32, .istore_n 1, 1), (33, .iload_n 1, 1), (34, .bipush 117, 2), (36, .if_icmp .ne 90, 3), (39, .aload_n 0, 1), (40, .getfield 31, 3), (43, .iconst 1, 1), (44, .isub, 1), (45, .istore_n 2, 1), (46, .aload_n 0, 1), (47, .dup, 1), (48, .getfield 31, 3), (51, .iconst 1, 1), (52, .iadd, 1), (53, .putfield 31, 3), (56, .aload_n 0, 1), (57, .invokevirtual 111, 3), (60, .istore_n 3, 1), (61, .iload_n 3, 1), (62, .ifCond .ne 11, 3), (73, .iload_n 3, 1), (74, .invokestatic 106, 3), (77, .ifCond .eq 46, 3), (123, .goto 32, 3), (126, .ldc 122, 2), (128, .iload_n 1, 1), (129, .invokevirtual 124, 3), (132, .ifCond .lt 16, 3), (135, .aload_n 0, 1), (136, .dup, 1), (137, .getfield 31, 3), (140, .iconst 1, 1), (141, .iadd, 1), (142, .putfield 31, 3), (145, .goto 10, 3), (155, .return_, 1)]
theorem kD51 : own_K prog_12_method_7_code tD51 := by unfold own_K; decide +kernel
def tD52 : List (Nat × Instr × Nat) := [(0, .iconst 0, 1), (1, .istore_n 1, 1), (2, .iconst 0, 1), (3, .istore_n 2, 1), (4, .iload_n 2, 1), (5, .iconst 4, 1), (6, .if_icmp .ge 70, 3), (9, .aload_n 0, 1), (10, .getfield 31, 3), (13, .aload_n 0, 1), (14, .getfield 7, 3), (17, .invokevirtual 35, 3), (20, .if_icmp .ge 20, 3), (23, .aload_n 0, 1), (24, .getfield 7, 3), (27, .aload_n 0, 1), (28, .getfield 31, 3), (31, .invokevirtual 49, 3), (34, .invokestatic 130, 3), (37, .goto 4, 3), (41, .istore_n 3, 1), (42, .iload_n 3, 1), (43, .ifCond .ge 10, 3), (53, .iload_n 1, 1), (54, .bipush 16, 2), (56, .imul, 1), (57, .iload_n 3, 1), (58, .iadd, 1), (59, .istore_n 1, 1), (60, .aload_n 0, 1), (61, .dup, 1), (62, .getfield 31, 3), (65, .iconst 1, 1), (66, .iadd, 1), (67, .putfield 31, 3), (70, .iinc 2 1, 3), (73, .goto (-69), 3), (76, .iload_n 1, 1), (77, .i2c, 1), (78, .ireturn, 1)]
theorem kD52 : own_K prog_12_method_8_code tD52 := by unfold own_K; decide +kernel
def tD53 : List (Nat × Instr × Nat) := [(0, .iload_n 0, 1), (1, .invokestatic 62, 3), (4, .ifCond .eq 11, 3), (7, .iload_n 0, 1), (8, .bipush 48, 2), (10, .isub, 1), (11, .istore_n 1, 1), (12, .goto 51, 3), (15, .iload_n 0, 1), (16, .bipush 97, 2), (18, .if_icmp .lt 20, 3), (21, .iload_n 0, 1), (22, .bipush 102, 2), (24, .if_icmp .gt 14, 3), (27, .iload_n 0, 1), (28, .bipush 97, 2), (30, .isub, 1), (31, .bipush 10, 2), (33, .iadd, 1), (34, .istore_n 1, 1), (35, .goto 28, 3), (38, .iload_n 0, 1), (39, .bipush 65, 2), (41, .if_icmp .lt 20, 3), (44, .iload_n 0, 1), (45, .bipush 70, 2), (47, .if_icmp .gt 14, 3), (50, .iload_n 0, 1), (51, .bipush 65, 2), (53, .isub, 1), (54, .bipush 10, 2), (56, .iadd, 1), (57, .istore_n 1, 1), (58, .goto 5, 3), (63, .iload_n 1, 1), (64, .ireturn, 1)]
theorem kD53 : own_K prog_12_method_18_code tD53 := by unfold own_K; decide +kernel
def tD54 : List (Nat × Instr × Nat) := [(0, .aload_n 0, 1), (1, .iload_n 1, 1), (2, .invokevirtual 79, 3), (5, .aload_n 0, 1), (6, .dup, 1), (7, .getfield 31, 3), (10, .iconst 1, 1), (11, .iadd, 1), (12, .putfield 31, 3), (15, .aload_n 0, 1), (16, .invokevirtual 24, 3), (19, .aload_n 0, 1), (20, .bipush 93, 2), (22, .invokevirtual 82, 3), (25, .ifCond .eq 4, 3), (28, .return_, 1), (29, .aload_n 0, 1), (30, .invokevirtual 24, 3), (33, .aload_n 0, 1), (34, .iload_n 1, 1), (35, .invokevirtual 27, 3), (38, .aload_n 0, 1), (39, .invokevirtual 24, 3), (42, .aload_n 0, 1), (43, .bipush 44, 2), (45, .invokevirtual 82, 3), (48, .ifCond .ne (-19), 3), (51, .aload_n 0, 1), (52, .bipush 93, 2), (54, .invokevirtual 87, 3), (57, .return_, 1)]
theorem kD54 : own_K prog_12_method_5_code tD54 := by unfold own_K; decide +kernel
def tD55 : List (Nat × Instr × Nat) := [(0, .iload_n 1, 1), (1, .sipush 500, 3), (4, .if_icmp .le 10, 3), (14, .return_, 1)]
theorem kD55 : own_K prog_12_method_12_code tD55 := by unfold own_K; decide +kernel
def tD56 : List (Nat × Instr × Nat) := [(0, .aload_n 0, 1), (1, .iload_n 1, 1), (2, .invokevirtual 82, 3), (5, .ifCond .ne 14, 3), (19, .return_, 1)]
theorem kD56 : own_K prog_12_method_15_code tD56 := by unfold own_K; decide +kernel
def tD57 : List (Nat × Instr × Nat) := [(0, .aload_n 0, 1), (1, .iload_n 1, 1), (2, .invokevirtual 79, 3), (5, .aload_n 0, 1), (6, .dup, 1), (7, .getfield 31, 3), (10, .iconst 1, 1), (11, .iadd, 1), (12, .putfield 31, 3), (15, .aload_n 0, 1), (16, .invokevirtual 24, 3), (19, .aload_n 0, 1), (20, .bipush 125, 2), (22, .invokevirtual 82, 3), (25, .ifCond .eq 4, 3), (29, .aload_n 0, 1), (30, .invokevirtual 24, 3), (33, .aload_n 0, 1), (34, .getfield 31, 3), (37, .aload_n 0, 1), (38, .getfield 7, 3), (41, .invokevirtual 35, 3), (44, .if_icmp .ge 19, 3), (47, .aload_n 0, 1), (48, .getfield 7, 3), (51, .aload_n 0, 1), (52, .getfield 31, 3), (55, .invokevirtual 49, 3), (58, .bipush 34, 2), (60, .if_icmp .eq 10, 3), (70, .aload_n 0, 1), (71, .invokevirtual 59, 3), (74, .aload_n 0, 1), (75, .invokevirtual 24, 3), (78, .aload_n 0, 1), (79, .bipush 58, 2), (81, .invokevirtual 87, 3), (84, .aload_n 0, 1), (85, .invokevirtual 24, 3), (88, .aload_n 0, 1), (89, .iload_n 1, 1), (90, .invokevirtual 27, 3), (93, .aload_n 0, 1), (94, .invokevirtual 24, 3), (97, .aload_n 0, 1), (98, .bipush 44, 2), (100, .invokevirtual 82, 3), (103, .ifCond .ne (-74), 3), (106, .aload_n 0, 1), (107, .bipush 125, 2), (109, .invokevirtual 87, 3), (112, .return_, 1)]
theorem kD57 : own_K prog_12_method_4_code tD57 := by unfold own_K; decide +kernel
def own_EL : List (String × Nat) := [("com/example/tote/tote/JsonText", 13), ("com/example/tote/tote/JsonText", 69), ("com/example/tote/tote/JsonText", 75), ("com/example/tote/tote/JsonText", 77), ("com/example/tote/tote/JsonText", 122), ("com/example/tote/tote/JsonText", 179)]
theorem own_hEL {Z : State} {a0 : Array Value} (hw : ∀ d ∈ tables_1, d.before a0 Z = true) : EW Z a0 own_EL := EW.cons (w42 hw) (by decide) (EW.cons (w142 hw) (by decide) (EW.cons (w253 hw) (by decide) (EW.cons (w254 hw) (by decide) (EW.cons (w252 hw) (by decide) (EW.cons (w73 hw) (by decide) (EW.nil))))))
theorem own_wS {Z : State} {a0 : Array Value} (hw : ∀ d ∈ tables_1, d.before a0 Z = true) : ∀ d ∈ Bundle.stringAtoms, d.before a0 Z = true := fun d hd => hw d ((by decide +kernel : ∀ d ∈ Bundle.stringAtoms, d ∈ tables_1) d hd)
theorem pn_0 : plainName "jdk/internal/util/Preconditions" = true := by first | (simp [plainName, overriddenIn]; done) | decide +kernel
def Q_own_ckidx (Z : State) (i n : Int32) (f : Value) (h0 : Heap) (n0 : Nat) (v : Option Value) (h : Heap) (L : List Loc) : Prop := v = some (.int i) ∧ Fr n0 L ∧ h = h0
set_option maxRecDepth 65536 in
set_option maxHeartbeats 40000000 in
theorem own_ckidx (l : Launch) (Z : State) (a0 : Array Value) (hw : own_HW a0 Z) (ws : List Jvm.Cond) (i n : Int32) (f : Value) (h0 : Heap) (n0 : Nat) (Z0 : n0 ≤ h0.size) (rf : f.isRef = true) (h1 : ¬ i < 0) (h2 : i < n) :
    own_Met l Z ⟨"jdk/internal/util/Preconditions", "checkIndex", "(IILjava/util/function/BiFunction;)I"⟩ jdk_41_method_11_code 3 (some .int) ws ⟨0, 0, 0, 0⟩ #[(.int i), (.int n), f] h0 (Q_own_ckidx Z i n f h0 n0) := by
  refine own_bodyN (g0 := fun m => mkF m 0 #[sI i, sI n, .val f] []) (plainFor_of_name pn_0) (fun _ => by simp [entryFrame, mkF, argsToLocals, own_cat_int, own_cat_long, own_cat_ref, own_cat_null, XT.cat1 rf]) ?_
  intro p e s m below meth c s₁ hx hby hml hrt hlk hown hnm hZ e0 X0
  have D := own_d hby kD19
  refine own_step (g' := (mkF m 1 #[sI i, sI n, .val f] [(.int i)])) (fun _ q => XS.iloadN X0.here hx rfl (D 0) rfl q) ?_
  have hc1 : ¬ (i < 0) := h1
  refine own_step (g' := (mkF m 6 #[sI i, sI n, .val f] [(.int n), (.int i)])) (fun _ q => XS.ifNo X0.here hx rfl (D 1) rfl (XT.i0_lt_f hc1) (XS.iloadN X0.here hx rfl (D 2) rfl (XS.iloadN X0.here hx rfl (D 3) rfl q))) ?_
  have hc2 : (i < n) := h2
  refine own_step (g' := (mkF m 17 #[sI i, sI n, .val f] [(.int i)])) (fun _ q => XS.icmpYes X0.here hx rfl (pc0 := 6) (pc' := 16) rfl (D 4) rfl (XT.ii_lt_t hc2) (by decide) (by decide) (XS.iloadN X0.here hx rfl (D 5) rfl q)) ?_
  exact own_retI X0 hx hrt (D 6) hlk ⟨rfl, (Fr.nil n0), e0⟩ (by decide) (by decide)
theorem pn_1 : plainName "java/lang/String" = true := by first | (simp [plainName, overriddenIn]; done) | decide +kernel
theorem pd_0 : parseMethodDescriptor "(IILjava/util/function/BiFunction;)I" = some ⟨[.int, .int, (.object "java/util/function/BiFunction")], some .int⟩ := by decide +kernel
def Q_own_sckidx (Z : State) (G1 : Int32) (G3 : Value) (i n : Int32) (h0 : Heap) (n0 : Nat) (v : Option Value) (h : Heap) (L : List Loc) : Prop := v = none ∧ Fr n0 L ∧ h = h0
set_option maxRecDepth 65536 in
set_option maxHeartbeats 40000000 in
theorem own_sckidx (l : Launch) (Z : State) (a0 : Array Value) (hw : own_HW a0 Z) (ws : List Jvm.Cond) (G1 : Int32) (G3 : Value) (i n : Int32) (h0 : Heap) (n0 : Nat) (Z0 : n0 ≤ h0.size) (O2 : own_O2 Z G1) (O4 : own_O4 Z G3) (P5 : ¬ (G1 = (0 : Int32))) (rG3 : G3.isRef = true) (OLD0 : Old Z n0 h0) (h1 : ¬ i < 0) (h2 : i < n) :
    own_Met l Z ⟨"java/lang/String", "checkIndex", "(II)V"⟩ jdk_42_method_155_code 2 none ws ⟨1, 0, 0, 14⟩ #[(.int i), (.int n)] h0 (Q_own_sckidx Z G1 G3 i n h0 n0) := by
  refine own_bodyN (g0 := fun m => mkF m 0 #[sI i, sI n] []) (plainFor_of_name pn_1) (fun _ => rfl) ?_
  intro p e s m below meth c s₁ hx hby hml hrt hlk hown hnm hZ e0 X0
  have D := own_d hby kD18
  refine own_step (g' := (mkF m 2 #[sI i, sI n] [(.int n), (.int i)])) (fun _ q => XS.iloadN X0.here hx rfl (D 0) rfl (XS.iloadN X0.here hx rfl (D 1) rfl q)) ?_
  obtain ⟨T3, X3, e3, st3⟩ := getS2 X0 hx hZ hown (host := "") (Or.inl (w91 hw)) Via.refl e0 (O4.ext OLD0.2) (g := (mkF m 2 #[sI i, sI n] [(.int n), (.int i)])) rfl (D 2)
  refine own_step (T' := T3) (g' := (mkF m 5 #[sI i, sI n] [G3, (.int n), (.int i)])) st3 ?_
  refine own_callS X3 hx hZ hown (w93 hw) (w94 hw) (w92 hw) (w95 hw) (by decide) (own_bO (W := 0) (own_ckidx l Z a0 hw [] i n G3 h0 n0 Z0 (rG3 : G3.isRef = true) h1 h2) hZ (w95 hw) (w92 hw) rfl rfl) e3  (by decide) (by decide) (argsL := [(.int i), (.int n), G3]) (rest := []) rfl hml.symm (lenOf pd_0 rfl) rfl rfl (own_w0 rfl rfl) (D 3) ?_
  rintro _ T4 L4 X4 ⟨rfl, N4q, e4⟩
  have N5 := Fr.app (Fr.nil n0) N4q
  refine own_step (g' := (mkF m 9 #[sI i, sI n] [])) (fun _ q => XT.pop X4.here hx rfl (D 4) rfl rfl q) ?_
  exact own_retV X4 hx hrt (D 5) hlk ⟨rfl, N5, e4⟩ (by decide) (by decide)
theorem pn_2 : plainName "java/lang/StringUTF16" = true := by first | (simp [plainName, overriddenIn]; done) | decide +kernel
def Q_own_ulen (Z : State) (t : Addr) (kb : ClassId) (N2 : Int32) (vs : List Value) (n : Nat) (h0 : Heap) (n0 : Nat) (v : Option Value) (h : Heap) (L : List Loc) : Prop := v = some (.int (Int32.ofNat n)) ∧ Fr n0 L ∧ h = h0
set_option maxRecDepth 65536 in
set_option maxHeartbeats 40000000 in
theorem own_ulen (l : Launch) (Z : State) (a0 : Array Value) (hw : own_HW a0 Z) (ws : List Jvm.Cond) (t : Addr) (kb : ClassId) (N2 : Int32) (vs : List Value) (n : Nat) (h0 : Heap) (n0 : Nat) (Z0 : n0 ≤ h0.size) (V_t : Arv Z h0 t kb .byte N2 vs (.int 0)) (hN : N2 = Int32.ofNat (2 * n)) (hn : 2 * n < 2 ^ 31) :
    own_Met l Z ⟨"java/lang/StringUTF16", "length", "([B)I"⟩ jdk_52_method_6_code 1 (some .int) ws ⟨0, 0, 0, 0⟩ #[(.ref t)] h0 (Q_own_ulen Z t kb N2 vs n h0 n0) := by
  refine own_bodyN (g0 := fun m => mkF m 0 #[sR t] []) (plainFor_of_name pn_2) (fun _ => rfl) ?_
  intro p e s m below meth c s₁ hx hby hml hrt hlk hown hnm hZ e0 X0
  have D := own_d hby kD42
  refine own_step (g' := (mkF m 4 #[sR t] [(.int (N2 >>> ((1 : Int32) &&& 31)))])) (fun _ q => XS.aloadN X0.here hx rfl (D 0) rfl rfl (own_len X0 hx hZ e0 V_t (g := (mkF m 1 #[sR t] [(.ref t)])) rfl rfl (D 1) _ (XS.iconst X0.here hx rfl (D 2) (XT.ishr X0.here hx rfl (D 3) rfl q)))) ?_
  rw [show (N2 >>> ((1 : Int32) &&& 31)) = (Int32.ofNat n) from (by rw [hN]; exact StrChars.shr1 hn)]
  exact own_retI X0 hx hrt (D 4) hlk ⟨rfl, (Fr.nil n0), e0⟩ (by decide) (by decide)
theorem pd_1 : parseMethodDescriptor "([B)I" = some ⟨[(.array .byte)], some .int⟩ := by decide +kernel
theorem pd_2 : parseMethodDescriptor "(II)V" = some ⟨[.int, .int], none⟩ := by decide +kernel
def Q_own_uck (Z : State) (G1 : Int32) (G3 : Value) (t : Addr) (kb : ClassId) (N2 : Int32) (vs : List Value) (n : Nat) (i : Int32) (h0 : Heap) (n0 : Nat) (v : Option Value) (h : Heap) (L : List Loc) : Prop := v = none ∧ Fr n0 L ∧ h = h0
set_option maxRecDepth 65536 in
set_option maxHeartbeats 40000000 in
theorem own_uck (l : Launch) (Z : State) (a0 : Array Value) (hw : own_HW a0 Z) (ws : List Jvm.Cond) (G1 : Int32) (G3 : Value) (t : Addr) (kb : ClassId) (N2 : Int32) (vs : List Value) (n : Nat) (i : Int32) (h0 : Heap) (n0 : Nat) (Z0 : n0 ≤ h0.size) (O2 : own_O2 Z G1) (O4 : own_O4 Z G3) (P5 : ¬ (G1 = (0 : Int32))) (rG3 : G3.isRef = true) (OLD0 : Old Z n0 h0) (V_t : Arv Z h0 t kb .byte N2 vs (.int 0)) (hN : N2 = Int32.ofNat (2 * n)) (hn : 2 * n < 2 ^ 31) (h1 : ¬ i < 0) (h2 : i < Int32.ofNat n) :
    own_Met l Z ⟨"java/lang/StringUTF16", "checkIndex", "(I[B)V"⟩ jdk_52_method_91_code 2 none ws ⟨2, 0, 0, 27⟩ #[(.int i), (.ref t)] h0 (Q_own_uck Z G1 G3 t kb N2 vs n i h0 n0) := by
  refine own_bodyN (g0 := fun m => mkF m 0 #[sI i, sR t] []) (plainFor_of_name pn_2) (fun _ => rfl) ?_
  intro p e s m below meth c s₁ hx hby hml hrt hlk hown hnm hZ e0 X0
  have D := own_d hby kD41
  refine own_step (g' := (mkF m 2 #[sI i, sR t] [(.ref t), (.int i)])) (fun _ q => XS.iloadN X0.here hx rfl (D 0) rfl (XS.aloadN X0.here hx rfl (D 1) rfl rfl q)) ?_
  refine own_callS X0 hx hZ hown (w183 hw) (w184 hw) (w25 hw) (w185 hw) (by decide) (own_bO (W := 1) (own_ulen l Z a0 hw [] t kb N2 vs n h0 n0 Z0 V_t hN hn) hZ (w185 hw) (w25 hw) rfl rfl) e0  (by decide) (by decide) (argsL := [(.ref t)]) (rest := [(.int i)]) rfl hml.symm (lenOf pd_1 rfl) rfl rfl (own_w0 rfl rfl) (D 2) ?_
  rintro _ T6 L6 X6 ⟨rfl, N6q, e6⟩
  have N7 := Fr.app (Fr.nil n0) N6q
  refine own_callS X6 hx hZ hown (w186 hw) (w89 hw) (w11 hw) (w90 hw) (by decide) (own_bO (W := 0) (own_sckidx l Z a0 hw [] G1 G3 i (Int32.ofNat n) h0 n0 Z0 O2 O4 P5 rG3 OLD0 h1 h2) hZ (w90 hw) (w11 hw) rfl rfl) e6  (by decide) (by decide) (argsL := [(.int i), (.int (Int32.ofNat n))]) (rest := []) rfl hml.symm (lenOf pd_2 rfl) rfl rfl (own_w0 rfl rfl) (D 3) ?_
  rintro _ T8 L8 X8 ⟨rfl, N8q, e8⟩
  have N9 := Fr.app N7 N8q
  exact own_retV X8 hx hrt (D 4) hlk ⟨rfl, N9, e8⟩ (by decide) (by decide)
def Q_own_getch (Z : State) (G1 : Int32) (G3 : Value) (t : Addr) (kb : ClassId) (N2 : Int32) (vs : List Value) (i : Nat) (u u' : Int32) (h0 : Heap) (n0 : Nat) (v : Option Value) (h : Heap) (L : List Loc) : Prop := v = some (.int (nar .char (StrChars.pairCh u u'))) ∧ Fr n0 L ∧ h = h0
set_option maxRecDepth 65536 in
set_option maxHeartbeats 40000000 in
theorem own_getch (l : Launch) (Z : State) (a0 : Array Value) (hw : own_HW a0 Z) (ws : List Jvm.Cond) (G1 : Int32) (G3 : Value) (t : Addr) (kb : ClassId) (N2 : Int32) (vs : List Value) (i : Nat) (u u' : Int32) (h0 : Heap) (n0 : Nat) (Z0 : n0 ≤ h0.size) (O2 : own_O2 Z G1) (O4 : own_O4 Z G3) (P5 : ¬ (G1 = (0 : Int32))) (rG3 : G3.isRef = true) (OLD0 : Old Z n0 h0) (U1 : own_U0 Z) (U2 : own_U1 Z) (U3 : own_U2 Z) (V_t : Arv Z h0 t kb .byte N2 vs (.int 0)) (hN : ¬ N2 < 0) (hi : 2 * i + 1 < N2.toNatClampNeg) (hu : vs.getD (2 * i) (.int 0) = .int u) (hu' : vs.getD (2 * i + 1) (.int 0) = .int u') :
    own_Met l Z ⟨"java/lang/StringUTF16", "getChar", "([BI)C"⟩ jdk_52_method_5_code 2 (some .char) ws ⟨0, 0, 0, 0⟩ #[(.ref t), (.int (Int32.ofNat i))] h0 (Q_own_getch Z G1 G3 t kb N2 vs i u u' h0 n0) := by
  refine own_bodyN (g0 := fun m => mkF m 0 #[sR t, sI (Int32.ofNat i)] []) (plainFor_of_name pn_2) (fun _ => rfl) ?_
  intro p e s m below meth c s₁ hx hby hml hrt hlk hown hnm hZ e0 X0
  have D := own_d hby kD39
  obtain ⟨T10, X10, e10, st10⟩ := getS2 X0 hx hZ hown (host := "") (Or.inl (w171 hw)) Via.refl e0 (U1.ext OLD0.2) (g := (mkF m 0 #[sR t, sI (Int32.ofNat i)] [])) rfl (D 0)
  refine own_step (T' := T10) (g' := (mkF m 3 #[sR t, sI (Int32.ofNat i)] [(.int 1)])) st10 ?_
  refine own_step (g' := (mkF m 32 #[sR t, sI ((Int32.ofNat i) <<< ((1 : Int32) &&& 31))] [])) (fun _ q => XS.ifYes X10.here hx rfl (pc0 := 3) (pc' := 28) rfl (D 1) rfl (by decide) (by decide) (by decide) (XS.iloadN X10.here hx rfl (D 2) rfl (XS.iconst X10.here hx rfl (D 3) (XT.ishl X10.here hx rfl (D 4) rfl (XS.istoreN X10.here hx rfl (D 5) rfl (l' := #[sR t, sI ((Int32.ofNat i) <<< ((1 : Int32) &&& 31))]) rfl q))))) ?_
  rw [show ((Int32.ofNat i) <<< ((1 : Int32) &&& 31)) = (Int32.ofNat (2 * i)) from (own_shl1 (by have := own_clamp_lt N2; omega))]
  refine own_step (g' := (mkF m 37 #[sR t, sI ((Int32.ofNat (2 * i)) + (1 : Int32))] [(.int (Int32.ofNat (2 * i))), (.ref t)])) (fun _ q => XS.aloadN X10.here hx rfl (D 6) rfl rfl (XS.iloadN X10.here hx rfl (D 7) rfl (XS.iinc X10.here hx rfl (D 8) rfl (l' := #[sR t, sI ((Int32.ofNat (2 * i)) + (1 : Int32))]) rfl q))) ?_
  rw [show ((Int32.ofNat (2 * i)) + (1 : Int32)) = (Int32.ofNat (2 * i + 1)) from (own_inc _)]
  refine own_step (g' := (mkF m 42 #[sR t, sI (Int32.ofNat (2 * i + 1))] [(.int (u &&& (255 : Int32)))])) (fun _ q => own_ldB X10 hx hZ e10 V_t (j := (Int32.ofNat (2 * i))) (own_ixin hN (by omega)) (v := (.int u)) (by rw [own_nat (by have := own_clamp_lt N2; omega)]; exact hu) (g := (mkF m 37 #[sR t, sI (Int32.ofNat (2 * i + 1))] [(.int (Int32.ofNat (2 * i))), (.ref t)])) rfl rfl (D 9) _ (XS.sipush X10.here hx rfl (D 10) (XS.iand X10.here hx rfl (D 11) rfl q))) ?_
  obtain ⟨T11, X11, e11, st11⟩ := getS2 X10 hx hZ hown (host := "") (Or.inl (w172 hw)) Via.refl e10 (U2.ext OLD0.2) (g := (mkF m 42 #[sR t, sI (Int32.ofNat (2 * i + 1))] [(.int (u &&& (255 : Int32)))])) rfl (D 12)
  refine own_step (T' := T11) (g' := (mkF m 45 #[sR t, sI (Int32.ofNat (2 * i + 1))] [(.int 0), (.int (u &&& (255 : Int32)))])) st11 ?_
  refine own_step (g' := (mkF m 53 #[sR t, sI (Int32.ofNat (2 * i + 1))] [(.int (u' &&& (255 : Int32))), (.int ((u &&& (255 : Int32)) <<< ((0 : Int32) &&& 31)))])) (fun _ q => XT.ishl X11.here hx rfl (D 13) rfl (XS.aloadN X11.here hx rfl (D 14) rfl rfl (XS.iloadN X11.here hx rfl (D 15) rfl (own_ldB X11 hx hZ e11 V_t (j := (Int32.ofNat (2 * i + 1))) (own_ixin hN (by omega)) (v := (.int u')) (by rw [own_nat (by have := own_clamp_lt N2; omega)]; exact hu') (g := (mkF m 48 #[sR t, sI (Int32.ofNat (2 * i + 1))] [(.int (Int32.ofNat (2 * i + 1))), (.ref t), (.int ((u &&& (255 : Int32)) <<< ((0 : Int32) &&& 31)))])) rfl rfl (D 16) _ (XS.sipush X11.here hx rfl (D 17) (XS.iand X11.here hx rfl (D 18) rfl q)))))) ?_
  obtain ⟨T12, X12, e12, st12⟩ := getS2 X11 hx hZ hown (host := "") (Or.inl (w173 hw)) Via.refl e11 (U3.ext OLD0.2) (g := (mkF m 53 #[sR t, sI (Int32.ofNat (2 * i + 1))] [(.int (u' &&& (255 : Int32))), (.int ((u &&& (255 : Int32)) <<< ((0 : Int32) &&& 31)))])) rfl (D 19)
  refine own_step (T' := T12) (g' := (mkF m 56 #[sR t, sI (Int32.ofNat (2 * i + 1))] [(.int 8), (.int (u' &&& (255 : Int32))), (.int ((u &&& (255 : Int32)) <<< ((0 : Int32) &&& 31)))])) st12 ?_
  refine own_step (g' := (mkF m 59 #[sR t, sI (Int32.ofNat (2 * i + 1))] [(.int ((((u &&& (255 : Int32)) <<< ((0 : Int32) &&& 31)) ||| ((u' &&& (255 : Int32)) <<< ((8 : Int32) &&& 31))).toUInt32.toUInt16.toUInt32.toInt32))])) (fun _ q => XT.ishl X12.here hx rfl (D 20) rfl (XT.ior X12.here hx rfl (D 21) rfl (XT.i2c X12.here hx rfl (D 22) rfl q))) ?_
  exact own_retN X12 hx hrt (by simp) (D 23) hlk ⟨rfl, (Fr.nil n0), e12⟩ (by decide) (by decide)
theorem pd_3 : parseMethodDescriptor "(I[B)V" = some ⟨[.int, (.array .byte)], none⟩ := by decide +kernel
theorem pd_4 : parseMethodDescriptor "([BI)C" = some ⟨[(.array .byte), .int], some .char⟩ := by decide +kernel
def Q_own_uchar (Z : State) (G1 : Int32) (G3 : Value) (t : Addr) (kb : ClassId) (N2 : Int32) (vs : List Value) (n i : Nat) (u u' : Int32) (h0 : Heap) (n0 : Nat) (v : Option Value) (h : Heap) (L : List Loc) : Prop := v = some (.int (nar .char (nar .char (StrChars.pairCh u u')))) ∧ Fr n0 L ∧ h = h0
set_option maxRecDepth 65536 in
set_option maxHeartbeats 40000000 in
theorem own_uchar (l : Launch) (Z : State) (a0 : Array Value) (hw : own_HW a0 Z) (ws : List Jvm.Cond) (G1 : Int32) (G3 : Value) (t : Addr) (kb : ClassId) (N2 : Int32) (vs : List Value) (n i : Nat) (u u' : Int32) (h0 : Heap) (n0 : Nat) (Z0 : n0 ≤ h0.size) (O2 : own_O2 Z G1) (O4 : own_O4 Z G3) (P5 : ¬ (G1 = (0 : Int32))) (rG3 : G3.isRef = true) (OLD0 : Old Z n0 h0) (U1 : own_U0 Z) (U2 : own_U1 Z) (U3 : own_U2 Z) (V_t : Arv Z h0 t kb .byte N2 vs (.int 0)) (hN : N2 = Int32.ofNat (2 * n)) (hn : 2 * n < 2 ^ 31) (hi : i < n) (hu : vs.getD (2 * i) (.int 0) = .int u) (hu' : vs.getD (2 * i + 1) (.int 0) = .int u') :
    own_Met l Z ⟨"java/lang/StringUTF16", "charAt", "([BI)C"⟩ jdk_52_method_83_code 2 (some .char) ws ⟨3, 0, 0, 40⟩ #[(.ref t), (.int (Int32.ofNat i))] h0 (Q_own_uchar Z G1 G3 t kb N2 vs n i u u' h0 n0) := by
  refine own_bodyN (g0 := fun m => mkF m 0 #[sR t, sI (Int32.ofNat i)] []) (plainFor_of_name pn_2) (fun _ => rfl) ?_
  intro p e s m below meth c s₁ hx hby hml hrt hlk hown hnm hZ e0 X0
  have D := own_d hby kD40
  refine own_step (g' := (mkF m 2 #[sR t, sI (Int32.ofNat i)] [(.ref t), (.int (Int32.ofNat i))])) (fun _ q => XS.iloadN X0.here hx rfl (D 0) rfl (XS.aloadN X0.here hx rfl (D 1) rfl rfl q)) ?_
  refine own_callS X0 hx hZ hown (w180 hw) (w181 hw) (w25 hw) (w182 hw) (by decide) (own_bO (W := 0) (own_uck l Z a0 hw [] G1 G3 t kb N2 vs n (Int32.ofNat i) h0 n0 Z0 O2 O4 P5 rG3 OLD0 V_t hN hn (own_nneg (by omega) : ¬ (Int32.ofNat i) < 0) ((own_ltN (by omega) (by omega)).mpr hi : (Int32.ofNat i) < Int32.ofNat n)) hZ (w182 hw) (w25 hw) rfl rfl) e0  (by decide) (by decide) (argsL := [(.int (Int32.ofNat i)), (.ref t)]) (rest := []) rfl hml.symm (lenOf pd_3 rfl) rfl rfl (own_w0 rfl rfl) (D 2) ?_
  rintro _ T13 L13 X13 ⟨rfl, N13q, e13⟩
  have N14 := Fr.app (Fr.nil n0) N13q
  refine own_step (g' := (mkF m 7 #[sR t, sI (Int32.ofNat i)] [(.int (Int32.ofNat i)), (.ref t)])) (fun _ q => XS.aloadN X13.here hx rfl (D 3) rfl rfl (XS.iloadN X13.here hx rfl (D 4) rfl q)) ?_
  refine own_callS X13 hx hZ hown (w174 hw) (w175 hw) (w25 hw) (w176 hw) (by decide) (own_bO (W := 0) (own_getch l Z a0 hw [] G1 G3 t kb N2 vs i u u' h0 n0 Z0 O2 O4 P5 rG3 OLD0 U1 U2 U3 V_t (by rw [hN]; exact own_nneg hn : ¬ N2 < 0) (by rw [hN, own_nat hn]; omega : 2 * i + 1 < N2.toNatClampNeg) hu hu') hZ (w176 hw) (w25 hw) rfl rfl) e13  (by decide) (by decide) (argsL := [(.ref t), (.int (Int32.ofNat i))]) (rest := []) rfl hml.symm (lenOf pd_4 rfl) rfl rfl (own_w0 rfl rfl) (D 5) ?_
  rintro _ T15 L15 X15 ⟨rfl, N15q, e15⟩
  have N16 := Fr.app N14 N15q
  exact own_retN X15 hx hrt (by simp) (D 6) hlk ⟨rfl, N16, e15⟩ (by decide) (by decide)
def Q_own_isl0 (Z : State) (G1 : Int32) (G3 : Value) (a : Addr) (h0 : Heap) (n0 : Nat) (v : Option Value) (h : Heap) (L : List Loc) : Prop := v = some (.int (1 : Int32)) ∧ Fr n0 L ∧ h = h0
set_option maxRecDepth 65536 in
set_option maxHeartbeats 40000000 in
theorem own_isl0 (l : Launch) (Z : State) (a0 : Array Value) (hw : own_HW a0 Z) (ws : List Jvm.Cond) (G1 : Int32) (G3 : Value) (a : Addr) (h0 : Heap) (n0 : Nat) (Z0 : n0 ≤ h0.size) (O2 : own_O2 Z G1) (O4 : own_O4 Z G3) (P5 : ¬ (G1 = (0 : Int32))) (rG3 : G3.isRef = true) (OLD0 : Old Z n0 h0) (F_coder_a : own_Sc Z h0 a (.int (0 : Int32))) :
    own_Met l Z ⟨"java/lang/String", "isLatin1", "()Z"⟩ jdk_42_method_154_code 1 (some .boolean) ws ⟨0, 0, 0, 0⟩ #[(.ref a)] h0 (Q_own_isl0 Z G1 G3 a h0 n0) := by
  refine own_bodyN (g0 := fun m => mkF m 0 #[sR a] []) (plainFor_of_name pn_1) (fun _ => rfl) ?_
  intro p e s m below meth c s₁ hx hby hml hrt hlk hown hnm hZ e0 X0
  have D := own_d hby kD16
  obtain ⟨T17, X17, e17, st17⟩ := getS2 X0 hx hZ hown (host := "") (Or.inl (w22 hw)) Via.refl e0 (O2.ext OLD0.2) (g := (mkF m 0 #[sR a] [])) rfl (D 0)
  refine own_step (T' := T17) (g' := (mkF m 3 #[sR a] [(.int G1)])) st17 ?_
  have hc18 : ¬ (G1 = 0) := P5
  refine own_step (g' := (mkF m 7 #[sR a] [(.ref a)])) (fun _ q => XS.ifNo X17.here hx rfl (D 1) rfl (XT.i0_eq_f hc18) (XS.aloadN X17.here hx rfl (D 2) rfl rfl q)) ?_
  refine own_gF X17 hx hZ hown (w34 hw) e17 F_coder_a rfl rfl (D 3) fun T19 X19 e19 => ?_
  refine own_step (g' := (mkF m 18 #[sR a] [(.int 1)])) (fun _ q => XS.ifNo X19.here hx rfl (D 4) rfl (by decide) (XS.iconst X19.here hx rfl (D 5) (XS.goto X19.here hx rfl (pc0 := 14) (pc' := 18) rfl (D 6) (by decide) (by decide) q))) ?_
  exact own_retN X19 hx hrt (by simp) (D 8) hlk ⟨rfl, (Fr.nil n0), e19⟩ (by decide) (by decide)
def Q_own_isl1 (Z : State) (G1 : Int32) (G3 : Value) (a : Addr) (h0 : Heap) (n0 : Nat) (v : Option Value) (h : Heap) (L : List Loc) : Prop := v = some (.int (0 : Int32)) ∧ Fr n0 L ∧ h = h0
set_option maxRecDepth 65536 in
set_option maxHeartbeats 40000000 in
theorem own_isl1 (l : Launch) (Z : State) (a0 : Array Value) (hw : own_HW a0 Z) (ws : List Jvm.Cond) (G1 : Int32) (G3 : Value) (a : Addr) (h0 : Heap) (n0 : Nat) (Z0 : n0 ≤ h0.size) (O2 : own_O2 Z G1) (O4 : own_O4 Z G3) (P5 : ¬ (G1 = (0 : Int32))) (rG3 : G3.isRef = true) (OLD0 : Old Z n0 h0) (F_coder_a : own_Sc Z h0 a (.int (1 : Int32))) :
    own_Met l Z ⟨"java/lang/String", "isLatin1", "()Z"⟩ jdk_42_method_154_code 1 (some .boolean) ws ⟨0, 0, 0, 0⟩ #[(.ref a)] h0 (Q_own_isl1 Z G1 G3 a h0 n0) := by
  refine own_bodyN (g0 := fun m => mkF m 0 #[sR a] []) (plainFor_of_name pn_1) (fun _ => rfl) ?_
  intro p e s m below meth c s₁ hx hby hml hrt hlk hown hnm hZ e0 X0
  have D := own_d hby kD16
  obtain ⟨T20, X20, e20, st20⟩ := getS2 X0 hx hZ hown (host := "") (Or.inl (w22 hw)) Via.refl e0 (O2.ext OLD0.2) (g := (mkF m 0 #[sR a] [])) rfl (D 0)
  refine own_step (T' := T20) (g' := (mkF m 3 #[sR a] [(.int G1)])) st20 ?_
  have hc21 : ¬ (G1 = 0) := P5
  refine own_step (g' := (mkF m 7 #[sR a] [(.ref a)])) (fun _ q => XS.ifNo X20.here hx rfl (D 1) rfl (XT.i0_eq_f hc21) (XS.aloadN X20.here hx rfl (D 2) rfl rfl q)) ?_
  refine own_gF X20 hx hZ hown (w34 hw) e20 F_coder_a rfl rfl (D 3) fun T22 X22 e22 => ?_
  refine own_step (g' := (mkF m 18 #[sR a] [(.int 0)])) (fun _ q => XS.ifYes X22.here hx rfl (pc0 := 10) (pc' := 17) rfl (D 4) rfl (by decide) (by decide) (by decide) (XS.iconst X22.here hx rfl (D 7) q)) ?_
  exact own_retN X22 hx hrt (by simp) (D 8) hlk ⟨rfl, (Fr.nil n0), e22⟩ (by decide) (by decide)
theorem pn_3 : plainName "java/lang/StringLatin1" = true := by first | (simp [plainName, overriddenIn]; done) | decide +kernel
def Q_own_lchar (Z : State) (G1 : Int32) (G3 : Value) (t : Addr) (kb : ClassId) (N2 : Int32) (vs : List Value) (i : Nat) (u : Int32) (h0 : Heap) (n0 : Nat) (v : Option Value) (h : Heap) (L : List Loc) : Prop := v = some (.int (nar .char (StrChars.chr8 u))) ∧ Fr n0 L ∧ h = h0
set_option maxRecDepth 65536 in
set_option maxHeartbeats 40000000 in
theorem own_lchar (l : Launch) (Z : State) (a0 : Array Value) (hw : own_HW a0 Z) (ws : List Jvm.Cond) (G1 : Int32) (G3 : Value) (t : Addr) (kb : ClassId) (N2 : Int32) (vs : List Value) (i : Nat) (u : Int32) (h0 : Heap) (n0 : Nat) (Z0 : n0 ≤ h0.size) (O2 : own_O2 Z G1) (O4 : own_O4 Z G3) (P5 : ¬ (G1 = (0 : Int32))) (rG3 : G3.isRef = true) (OLD0 : Old Z n0 h0) (V_t : Arv Z h0 t kb .byte N2 vs (.int 0)) (hN : ¬ N2 < 0) (hi : i < N2.toNatClampNeg) (hu : vs.getD i (.int 0) = .int u) :
    own_Met l Z ⟨"java/lang/StringLatin1", "charAt", "([BI)C"⟩ jdk_43_method_2_code 2 (some .char) ws ⟨2, 0, 0, 27⟩ #[(.ref t), (.int (Int32.ofNat i))] h0 (Q_own_lchar Z G1 G3 t kb N2 vs i u h0 n0) := by
  refine own_bodyN (g0 := fun m => mkF m 0 #[sR t, sI (Int32.ofNat i)] []) (plainFor_of_name pn_3) (fun _ => rfl) ?_
  intro p e s m below meth c s₁ hx hby hml hrt hlk hown hnm hZ e0 X0
  have D := own_d hby kD17
  refine own_step (g' := (mkF m 3 #[sR t, sI (Int32.ofNat i)] [(.int N2), (.int (Int32.ofNat i))])) (fun _ q => XS.iloadN X0.here hx rfl (D 0) rfl (XS.aloadN X0.here hx rfl (D 1) rfl rfl (own_len X0 hx hZ e0 V_t (g := (mkF m 2 #[sR t, sI (Int32.ofNat i)] [(.ref t), (.int (Int32.ofNat i))])) rfl rfl (D 2) _ q))) ?_
  refine own_callS X0 hx hZ hown (w88 hw) (w89 hw) (w11 hw) (w90 hw) (by decide) (own_bO (W := 0) (own_sckidx l Z a0 hw [] G1 G3 (Int32.ofNat i) N2 h0 n0 Z0 O2 O4 P5 rG3 OLD0 ((own_ixin hN hi).1 : ¬ (Int32.ofNat i) < 0) ((own_ixin hN hi).2 : (Int32.ofNat i) < N2)) hZ (w90 hw) (w11 hw) rfl rfl) e0  (by decide) (by decide) (argsL := [(.int (Int32.ofNat i)), (.int N2)]) (rest := []) rfl hml.symm (lenOf pd_2 rfl) rfl rfl (own_w0 rfl rfl) (D 3) ?_
  rintro _ T23 L23 X23 ⟨rfl, N23q, e23⟩
  have N24 := Fr.app (Fr.nil n0) N23q
  refine own_step (g' := (mkF m 14 #[sR t, sI (Int32.ofNat i)] [(.int ((u &&& (255 : Int32)).toUInt32.toUInt16.toUInt32.toInt32))])) (fun _ q => XS.aloadN X23.here hx rfl (D 4) rfl rfl (XS.iloadN X23.here hx rfl (D 5) rfl (own_ldB X23 hx hZ e23 V_t (j := (Int32.ofNat i)) (own_ixin hN hi) (v := (.int u)) (by rw [own_nat (by have := own_clamp_lt N2; omega)]; exact hu) (g := (mkF m 8 #[sR t, sI (Int32.ofNat i)] [(.int (Int32.ofNat i)), (.ref t)])) rfl rfl (D 6) _ (XS.sipush X23.here hx rfl (D 7) (XS.iand X23.here hx rfl (D 8) rfl (XT.i2c X23.here hx rfl (D 9) rfl q)))))) ?_
  exact own_retN X23 hx hrt (by simp) (D 10) hlk ⟨rfl, N24, e23⟩ (by decide) (by decide)
theorem pd_5 : parseMethodDescriptor "()Z" = some ⟨[], some .boolean⟩ := by decide +kernel
def Q_own_charU (Z : State) (G1 : Int32) (G3 : Value) (a t : Addr) (kb : ClassId) (cs : List Int32) (i : Nat) (h0 : Heap) (n0 : Nat) (v : Option Value) (h : Heap) (L : List Loc) : Prop := v = some (.int (cs.getD i 0)) ∧ Fr n0 L ∧ h = h0
set_option maxRecDepth 65536 in
set_option maxHeartbeats 40000000 in
theorem own_charU (l : Launch) (Z : State) (a0 : Array Value) (hw : own_HW a0 Z) (ws : List Jvm.Cond) (G1 : Int32) (G3 : Value) (a t : Addr) (kb : ClassId) (cs : List Int32) (i : Nat) (h0 : Heap) (n0 : Nat) (Z0 : n0 ≤ h0.size) (O2 : own_O2 Z G1) (O4 : own_O4 Z G3) (P5 : ¬ (G1 = (0 : Int32))) (rG3 : G3.isRef = true) (OLD0 : Old Z n0 h0) (U1 : own_U0 Z) (U2 : own_U1 Z) (U3 : own_U2 Z) (E_a : own_Es Z h0 a) (F_value_a : own_Sv Z h0 a (.ref t)) (F_coder_a : own_Sc Z h0 a (.int (1 : Int32))) (V_t : Arv Z h0 t kb .byte (Int32.ofNat (2 * cs.length)) (StrChars.Road.wideBytes cs) (.int 0)) (hcs : own_R16 cs) (hl : cs.length ≤ 400) (hi : i < cs.length) :
    own_Met l Z ⟨"java/lang/String", "charAt", "(I)C"⟩ jdk_42_method_56_code 2 (some .char) ws ⟨4, 0, 0, 53⟩ #[(.ref a), (.int (Int32.ofNat i))] h0 (Q_own_charU Z G1 G3 a t kb cs i h0 n0) := by
  refine own_bodyN (g0 := fun m => mkF m 0 #[sR a, sI (Int32.ofNat i)] []) (plainFor_of_name pn_1) (fun _ => rfl) ?_
  intro p e s m below meth c s₁ hx hby hml hrt hlk hown hnm hZ e0 X0
  have D := own_d hby kD15
  have ty_a_t : a ≠ t := (Exa.neArv E_a V_t (w10 hw))
  refine own_step (g' := (mkF m 1 #[sR a, sI (Int32.ofNat i)] [(.ref a)])) (fun _ q => XS.aloadN X0.here hx rfl (D 0) rfl rfl q) ?_
  refine own_callV X0 hx hZ hown (w79 hw) (w80 hw) (notFace_of_selects (args := #[]) (mvT hZ (w82 hw))) (w82 hw) (w81 hw) (by decide) (own_bO (W := 0) (own_isl1 l Z a0 hw [] G1 G3 a h0 n0 Z0 O2 O4 P5 rG3 OLD0 F_coder_a) hZ (w83 hw) (w11 hw) rfl rfl) e0 E_a  (by decide) (by decide) (argsL := []) (rest := []) rfl hml.symm (lenOf pd_5 rfl) rfl rfl (own_w0 rfl rfl) (D 1) ?_
  rintro _ T25 L25 X25 ⟨rfl, N25q, e25⟩
  have N26 := Fr.app (Fr.nil n0) N25q
  refine own_step (g' := (mkF m 17 #[sR a, sI (Int32.ofNat i)] [(.ref a)])) (fun _ q => XS.ifYes X25.here hx rfl (pc0 := 4) (pc' := 16) rfl (D 2) rfl (by decide) (by decide) (by decide) (XS.aloadN X25.here hx rfl (D 8) rfl rfl q)) ?_
  refine own_gF X25 hx hZ hown (w36 hw) e25 F_value_a rfl rfl (D 9) fun T27 X27 e27 => ?_
  refine own_step (g' := (mkF m 21 #[sR a, sI (Int32.ofNat i)] [(.int (Int32.ofNat i)), (.ref t)])) (fun _ q => XS.iloadN X27.here hx rfl (D 10) rfl q) ?_
  refine own_callS X27 hx hZ hown (w177 hw) (w178 hw) (w25 hw) (w179 hw) (by decide) (own_bO (W := 0) (own_uchar l Z a0 hw [] G1 G3 t kb (Int32.ofNat (2 * cs.length)) (StrChars.Road.wideBytes cs) cs.length i (StrChars.lo8 (cs.getD i 0)) (StrChars.hi8 (cs.getD i 0)) h0 n0 Z0 O2 O4 P5 rG3 OLD0 U1 U2 U3 V_t (rfl : (Int32.ofNat (2 * cs.length)) = Int32.ofNat (2 * cs.length)) (by omega : 2 * cs.length < 2 ^ 31) hi (StrChars.Road.wide_lo _ _ _ hi : (StrChars.Road.wideBytes cs).getD (2 * i) (.int 0) = .int (StrChars.lo8 (cs.getD i 0))) (StrChars.Road.wide_hi _ _ _ hi : (StrChars.Road.wideBytes cs).getD (2 * i + 1) (.int 0) = .int (StrChars.hi8 (cs.getD i 0)))) hZ (w179 hw) (w25 hw) rfl rfl) e27  (by decide) (by decide) (argsL := [(.ref t), (.int (Int32.ofNat i))]) (rest := []) rfl hml.symm (lenOf pd_4 rfl) rfl rfl (own_w0 rfl rfl) (D 11) ?_
  rintro _ T28 L28 X28 ⟨rfl, N28q, e28⟩
  have N29 := Fr.app N26 N28q
  exact own_retN X28 hx hrt (by simp) (D 12) hlk ⟨(by rw [StrChars.pair_says (hcs _ (own_getD_mem hi)).1 (hcs _ (own_getD_mem hi)).2, own_narC (hcs _ (own_getD_mem hi)).1 (hcs _ (own_getD_mem hi)).2, own_narC (hcs _ (own_getD_mem hi)).1 (hcs _ (own_getD_mem hi)).2, own_narC (hcs _ (own_getD_mem hi)).1 (hcs _ (own_getD_mem hi)).2]), N29, e28⟩ (by decide) (by decide)
def Q_own_charL (Z : State) (G1 : Int32) (G3 : Value) (a t : Addr) (kb : ClassId) (cs : List Int32) (i : Nat) (h0 : Heap) (n0 : Nat) (v : Option Value) (h : Heap) (L : List Loc) : Prop := v = some (.int (cs.getD i 0)) ∧ Fr n0 L ∧ h = h0
set_option maxRecDepth 65536 in
set_option maxHeartbeats 40000000 in
theorem own_charL (l : Launch) (Z : State) (a0 : Array Value) (hw : own_HW a0 Z) (ws : List Jvm.Cond) (G1 : Int32) (G3 : Value) (a t : Addr) (kb : ClassId) (cs : List Int32) (i : Nat) (h0 : Heap) (n0 : Nat) (Z0 : n0 ≤ h0.size) (O2 : own_O2 Z G1) (O4 : own_O4 Z G3) (P5 : ¬ (G1 = (0 : Int32))) (rG3 : G3.isRef = true) (OLD0 : Old Z n0 h0) (U1 : own_U0 Z) (U2 : own_U1 Z) (U3 : own_U2 Z) (E_a : own_Es Z h0 a) (F_value_a : own_Sv Z h0 a (.ref t)) (F_coder_a : own_Sc Z h0 a (.int (0 : Int32))) (V_t : Arv Z h0 t kb .byte (Int32.ofNat cs.length) (cs.map fun z => Value.int (StrChars.lo8 z)) (.int 0)) (hcs : own_R16 cs) (hl : cs.length ≤ 400) (h255 : ∀ z ∈ cs, ¬ 255 < z) (hi : i < cs.length) :
    own_Met l Z ⟨"java/lang/String", "charAt", "(I)C"⟩ jdk_42_method_56_code 2 (some .char) ws ⟨4, 0, 0, 53⟩ #[(.ref a), (.int (Int32.ofNat i))] h0 (Q_own_charL Z G1 G3 a t kb cs i h0 n0) := by
  refine own_bodyN (g0 := fun m => mkF m 0 #[sR a, sI (Int32.ofNat i)] []) (plainFor_of_name pn_1) (fun _ => rfl) ?_
  intro p e s m below meth c s₁ hx hby hml hrt hlk hown hnm hZ e0 X0
  have D := own_d hby kD15
  have ty_a_t : a ≠ t := (Exa.neArv E_a V_t (w10 hw))
  refine own_step (g' := (mkF m 1 #[sR a, sI (Int32.ofNat i)] [(.ref a)])) (fun _ q => XS.aloadN X0.here hx rfl (D 0) rfl rfl q) ?_
  refine own_callV X0 hx hZ hown (w79 hw) (w80 hw) (notFace_of_selects (args := #[]) (mvT hZ (w82 hw))) (w82 hw) (w81 hw) (by decide) (own_bO (W := 0) (own_isl0 l Z a0 hw [] G1 G3 a h0 n0 Z0 O2 O4 P5 rG3 OLD0 F_coder_a) hZ (w83 hw) (w11 hw) rfl rfl) e0 E_a  (by decide) (by decide) (argsL := []) (rest := []) rfl hml.symm (lenOf pd_5 rfl) rfl rfl (own_w0 rfl rfl) (D 1) ?_
  rintro _ T30 L30 X30 ⟨rfl, N30q, e30⟩
  have N31 := Fr.app (Fr.nil n0) N30q
  refine own_step (g' := (mkF m 8 #[sR a, sI (Int32.ofNat i)] [(.ref a)])) (fun _ q => XS.ifNo X30.here hx rfl (D 2) rfl (by decide) (XS.aloadN X30.here hx rfl (D 3) rfl rfl q)) ?_
  refine own_gF X30 hx hZ hown (w36 hw) e30 F_value_a rfl rfl (D 4) fun T32 X32 e32 => ?_
  refine own_step (g' := (mkF m 12 #[sR a, sI (Int32.ofNat i)] [(.int (Int32.ofNat i)), (.ref t)])) (fun _ q => XS.iloadN X32.here hx rfl (D 5) rfl q) ?_
  refine own_callS X32 hx hZ hown (w84 hw) (w85 hw) (w86 hw) (w87 hw) (by decide) (own_bO (W := 0) (own_lchar l Z a0 hw [] G1 G3 t kb (Int32.ofNat cs.length) (cs.map fun z => Value.int (StrChars.lo8 z)) i (StrChars.lo8 (cs.getD i 0)) h0 n0 Z0 O2 O4 P5 rG3 OLD0 V_t (own_nneg (by omega) : ¬ (Int32.ofNat cs.length) < 0) (by rw [own_nat (by omega)]; exact hi : i < (Int32.ofNat cs.length).toNatClampNeg) (StrChars.Road.low_at _ _ _ hi : (cs.map fun z => Value.int (StrChars.lo8 z)).getD i (.int 0) = .int (StrChars.lo8 (cs.getD i 0)))) hZ (w87 hw) (w86 hw) rfl rfl) e32  (by decide) (by decide) (argsL := [(.ref t), (.int (Int32.ofNat i))]) (rest := []) rfl hml.symm (lenOf pd_4 rfl) rfl rfl (own_w0 rfl rfl) (D 6) ?_
  rintro _ T33 L33 X33 ⟨rfl, N33q, e33⟩
  have N34 := Fr.app N31 N33q
  exact own_retN X33 hx hrt (by simp) (D 7) hlk ⟨(by rw [StrChars.chr8_lo8 (hcs _ (own_getD_mem hi)).1 (h255 _ (own_getD_mem hi)), own_narC (hcs _ (own_getD_mem hi)).1 (hcs _ (own_getD_mem hi)).2, own_narC (hcs _ (own_getD_mem hi)).1 (hcs _ (own_getD_mem hi)).2]), N34, e33⟩ (by decide) (by decide)
def Q_own_putch (Z : State) (G1 : Int32) (G3 : Value) (t : Addr) (kb : ClassId) (N2 : Int32) (vs : List Value) (i : Nat) (z : Int32) (h0 : Heap) (n0 : Nat) (v : Option Value) (h : Heap) (L : List Loc) : Prop := v = none ∧ Fr n0 L ∧ Keep h0 h [t] ∧ Arv Z h t kb .byte N2 ((vs.set (2 * i) (.int (StrChars.lo8 z))).set (2 * i + 1) (.int (StrChars.hi8 z))) (.int 0)
set_option maxRecDepth 65536 in
set_option maxHeartbeats 40000000 in
theorem own_putch (l : Launch) (Z : State) (a0 : Array Value) (hw : own_HW a0 Z) (ws : List Jvm.Cond) (G1 : Int32) (G3 : Value) (t : Addr) (kb : ClassId) (N2 : Int32) (vs : List Value) (i : Nat) (z : Int32) (h0 : Heap) (n0 : Nat) (Z0 : n0 ≤ h0.size) (O2 : own_O2 Z G1) (O4 : own_O4 Z G3) (P5 : ¬ (G1 = (0 : Int32))) (rG3 : G3.isRef = true) (OLD0 : Old Z n0 h0) (U1 : own_U0 Z) (U2 : own_U1 Z) (U3 : own_U2 Z) (V_t : Arv Z h0 t kb .byte N2 vs (.int 0)) (ge_t : n0 ≤ t) (hN : ¬ N2 < 0) (hi : 2 * i + 1 < N2.toNatClampNeg) (hv : 2 * i + 1 < vs.length) (hs : 2 * i + 1 < 2 ^ 31) :
    own_Met l Z ⟨"java/lang/StringUTF16", "putChar", "([BII)V"⟩ jdk_52_method_4_code 3 none ws ⟨0, 0, 0, 0⟩ #[(.ref t), (.int (Int32.ofNat i)), (.int z)] h0 (Q_own_putch Z G1 G3 t kb N2 vs i z h0 n0) := by
  refine own_bodyN (g0 := fun m => mkF m 0 #[sR t, sI (Int32.ofNat i), sI z] []) (plainFor_of_name pn_2) (fun _ => rfl) ?_
  intro p e s m below meth c s₁ hx hby hml hrt hlk hown hnm hZ e0 X0
  have D := own_d hby kD38
  obtain ⟨T35, X35, e35, st35⟩ := getS2 X0 hx hZ hown (host := "") (Or.inl (w171 hw)) Via.refl e0 (U1.ext OLD0.2) (g := (mkF m 0 #[sR t, sI (Int32.ofNat i), sI z] [])) rfl (D 0)
  refine own_step (T' := T35) (g' := (mkF m 3 #[sR t, sI (Int32.ofNat i), sI z] [(.int 1)])) st35 ?_
  refine own_step (g' := (mkF m 32 #[sR t, sI ((Int32.ofNat i) <<< ((1 : Int32) &&& 31)), sI z] [])) (fun _ q => XS.ifYes X35.here hx rfl (pc0 := 3) (pc' := 28) rfl (D 1) rfl (by decide) (by decide) (by decide) (XS.iloadN X35.here hx rfl (D 2) rfl (XS.iconst X35.here hx rfl (D 3) (XT.ishl X35.here hx rfl (D 4) rfl (XS.istoreN X35.here hx rfl (D 5) rfl (l' := #[sR t, sI ((Int32.ofNat i) <<< ((1 : Int32) &&& 31)), sI z]) rfl q))))) ?_
  rw [show ((Int32.ofNat i) <<< ((1 : Int32) &&& 31)) = (Int32.ofNat (2 * i)) from (own_shl1 (by omega))]
  refine own_step (g' := (mkF m 37 #[sR t, sI ((Int32.ofNat (2 * i)) + (1 : Int32)), sI z] [(.int (Int32.ofNat (2 * i))), (.ref t)])) (fun _ q => XS.aloadN X35.here hx rfl (D 6) rfl rfl (XS.iloadN X35.here hx rfl (D 7) rfl (XS.iinc X35.here hx rfl (D 8) rfl (l' := #[sR t, sI ((Int32.ofNat (2 * i)) + (1 : Int32)), sI z]) rfl q))) ?_
  rw [show ((Int32.ofNat (2 * i)) + (1 : Int32)) = (Int32.ofNat (2 * i + 1)) from (own_inc _)]
  refine own_step (g' := (mkF m 38 #[sR t, sI (Int32.ofNat (2 * i + 1)), sI z] [(.int z), (.int (Int32.ofNat (2 * i))), (.ref t)])) (fun _ q => XS.iloadN X35.here hx rfl (D 9) rfl q) ?_
  obtain ⟨T36, X36, e36, st36⟩ := getS2 X35 hx hZ hown (host := "") (Or.inl (w172 hw)) Via.refl e35 (U2.ext OLD0.2) (g := (mkF m 38 #[sR t, sI (Int32.ofNat (2 * i + 1)), sI z] [(.int z), (.int (Int32.ofNat (2 * i))), (.ref t)])) rfl (D 10)
  refine own_step (T' := T36) (g' := (mkF m 41 #[sR t, sI (Int32.ofNat (2 * i + 1)), sI z] [(.int 0), (.int z), (.int (Int32.ofNat (2 * i))), (.ref t)])) st36 ?_
  refine own_step (g' := (mkF m 43 #[sR t, sI (Int32.ofNat (2 * i + 1)), sI z] [(.int ((z >>> ((0 : Int32) &&& 31)).toInt8.toInt32)), (.int (Int32.ofNat (2 * i))), (.ref t)])) (fun _ q => XT.ishr X36.here hx rfl (D 11) rfl (XT.i2b X36.here hx rfl (D 12) rfl q)) ?_
  rw [show ((z >>> ((0 : Int32) &&& 31)).toInt8.toInt32) = (StrChars.lo8 z) from (by rw [StrChars.shr0]; rfl)]
  obtain ⟨T37, h37, X37, e37, W37, V37, st37⟩ := own_stB X36 hx hZ e36 V_t (j := (Int32.ofNat (2 * i))) (own_ixin hN (by omega)) (i := (2 * i)) (own_nat (by omega)) (by omega) (g := (mkF m 43 #[sR t, sI (Int32.ofNat (2 * i + 1)), sI z] [(.int (StrChars.lo8 z)), (.int (Int32.ofNat (2 * i))), (.ref t)])) rfl rfl (D 13)
  rw [show ((StrChars.lo8 z).toInt8.toInt32) = (StrChars.lo8 z) from (own_lo8lo8 _)] at V37
  have N38 := Fr.snoc X37 (Fr.nil n0) ge_t
  refine own_step (T' := T37) (g' := (mkF m 44 #[sR t, sI (Int32.ofNat (2 * i + 1)), sI z] [])) st37 ?_
  refine own_step (g' := (mkF m 47 #[sR t, sI (Int32.ofNat (2 * i + 1)), sI z] [(.int z), (.int (Int32.ofNat (2 * i + 1))), (.ref t)])) (fun _ q => XS.aloadN X37.here hx rfl (D 14) rfl rfl (XS.iloadN X37.here hx rfl (D 15) rfl (XS.iloadN X37.here hx rfl (D 16) rfl q))) ?_
  have c40 := (OLD0.wr W37 ge_t)
  obtain ⟨T39, X39, e39, st39⟩ := getS2 X37 hx hZ hown (host := "") (Or.inl (w173 hw)) Via.refl e37 (U3.ext c40.2) (g := (mkF m 47 #[sR t, sI (Int32.ofNat (2 * i + 1)), sI z] [(.int z), (.int (Int32.ofNat (2 * i + 1))), (.ref t)])) rfl (D 17)
  refine own_step (T' := T39) (g' := (mkF m 50 #[sR t, sI (Int32.ofNat (2 * i + 1)), sI z] [(.int 8), (.int z), (.int (Int32.ofNat (2 * i + 1))), (.ref t)])) st39 ?_
  refine own_step (g' := (mkF m 52 #[sR t, sI (Int32.ofNat (2 * i + 1)), sI z] [(.int ((z >>> ((8 : Int32) &&& 31)).toInt8.toInt32)), (.int (Int32.ofNat (2 * i + 1))), (.ref t)])) (fun _ q => XT.ishr X39.here hx rfl (D 18) rfl (XT.i2b X39.here hx rfl (D 19) rfl q)) ?_
  rw [show ((z >>> ((8 : Int32) &&& 31)).toInt8.toInt32) = (StrChars.hi8 z) from rfl]
  obtain ⟨T41, h41, X41, e41, W41, V41, st41⟩ := own_stB X39 hx hZ e39 V37 (j := (Int32.ofNat (2 * i + 1))) (own_ixin hN (by omega)) (i := (2 * i + 1)) (own_nat (by omega)) (by simp; omega) (g := (mkF m 52 #[sR t, sI (Int32.ofNat (2 * i + 1)), sI z] [(.int (StrChars.hi8 z)), (.int (Int32.ofNat (2 * i + 1))), (.ref t)])) rfl rfl (D 20)
  rw [show ((StrChars.hi8 z).toInt8.toInt32) = (StrChars.hi8 z) from (own_lo8lo8 _)] at V41
  have N42 := Fr.snoc X41 N38 ge_t
  refine own_step (T' := T41) (g' := (mkF m 53 #[sR t, sI (Int32.ofNat (2 * i + 1)), sI z] [])) st41 ?_
  have c43 := (((Keep.refl h0 [t]).wr W37 (Or.inl (List.mem_of_getElem? (i := 0) rfl))).wr W41 (Or.inl (List.mem_of_getElem? (i := 0) rfl)))
  exact own_retV X41 hx hrt (D 21) hlk (by rw [e41]; exact ⟨rfl, N42, c43, V41⟩) (by decide) (by decide)
def Q_own_nbl (Z : State) (n : Nat) (h0 : Heap) (n0 : Nat) (v : Option Value) (h : Heap) (L : List Loc) : Prop := v = some (.int (Int32.ofNat (2 * n))) ∧ Fr n0 L ∧ h = h0
set_option maxRecDepth 65536 in
set_option maxHeartbeats 40000000 in
theorem own_nbl (l : Launch) (Z : State) (a0 : Array Value) (hw : own_HW a0 Z) (ws : List Jvm.Cond) (n : Nat) (h0 : Heap) (n0 : Nat) (Z0 : n0 ≤ h0.size) (hn : n ≤ 400) :
    own_Met l Z ⟨"java/lang/StringUTF16", "newBytesLength", "(I)I"⟩ jdk_52_method_3_code 1 (some .int) ws ⟨0, 0, 0, 0⟩ #[(.int (Int32.ofNat n))] h0 (Q_own_nbl Z n h0 n0) := by
  refine own_bodyN (g0 := fun m => mkF m 0 #[sI (Int32.ofNat n)] []) (plainFor_of_name pn_2) (fun _ => rfl) ?_
  intro p e s m below meth c s₁ hx hby hml hrt hlk hown hnm hZ e0 X0
  have D := own_d hby kD37
  refine own_step (g' := (mkF m 1 #[sI (Int32.ofNat n)] [(.int (Int32.ofNat n))])) (fun _ q => XS.iloadN X0.here hx rfl (D 0) rfl q) ?_
  have hc44 : ¬ ((Int32.ofNat n) < 0) := own_nneg (by omega)
  refine own_step (g' := (mkF m 15 #[sI (Int32.ofNat n)] [(.int 1073741823), (.int (Int32.ofNat n))])) (fun _ q => XS.ifYes X0.here hx rfl (pc0 := 1) (pc' := 12) rfl (D 1) rfl (XT.i0_ge_t hc44) (by decide) (by decide) (XS.iloadN X0.here hx rfl (D 2) rfl (X0.ldcInt hx hown (mvT hZ (w167 hw)) (g := (mkF m 13 #[sI (Int32.ofNat n)] [(.int (Int32.ofNat n))])) rfl (D 3) _ q))) ?_
  have hc45 : ((Int32.ofNat n) < (1073741823 : Int32)) := (own_ltN (b := 1073741823) (by omega) (by omega)).mpr (by omega)
  refine own_step (g' := (mkF m 58 #[sI (Int32.ofNat n)] [(.int ((Int32.ofNat n) <<< ((1 : Int32) &&& 31)))])) (fun _ q => XS.icmpYes X0.here hx rfl (pc0 := 15) (pc' := 55) rfl (D 4) rfl (XT.ii_lt_t hc45) (by decide) (by decide) (XS.iloadN X0.here hx rfl (D 5) rfl (XS.iconst X0.here hx rfl (D 6) (XT.ishl X0.here hx rfl (D 7) rfl q)))) ?_
  rw [show ((Int32.ofNat n) <<< ((1 : Int32) &&& 31)) = (Int32.ofNat (2 * n)) from (own_shl1 (by omega))]
  exact own_retI X0 hx hrt (D 8) hlk ⟨rfl, (Fr.nil n0), e0⟩ (by decide) (by decide)
theorem pd_6 : parseMethodDescriptor "(I)I" = some ⟨[.int], some .int⟩ := by decide +kernel
def Q_own_nbf (Z : State) (n : Nat) (h0 : Heap) (n0 : Nat) (v : Option Value) (h : Heap) (L : List Loc) : Prop := ∃ (t : Addr), ∃ (kb : ClassId), v = some (.ref t) ∧ Fr n0 L ∧ Keep h0 h [] ∧ h0.size ≤ t ∧ Arv Z h t kb .byte (Int32.ofNat (2 * n)) (List.replicate (2 * n) (Value.int 0)) (.int 0)
set_option maxRecDepth 65536 in
set_option maxHeartbeats 40000000 in
theorem own_nbf (l : Launch) (Z : State) (a0 : Array Value) (hw : own_HW a0 Z) (ws : List Jvm.Cond) (n : Nat) (h0 : Heap) (n0 : Nat) (Z0 : n0 ≤ h0.size) (hn : n ≤ 400) :
    own_Met l Z ⟨"java/lang/StringUTF16", "newBytesFor", "(I)[B"⟩ jdk_52_method_2_code 1 (some (.array .byte)) ws ⟨1, 1, 2 * n, 12⟩ #[(.int (Int32.ofNat n))] h0 (Q_own_nbf Z n h0 n0) := by
  refine own_bodyN (g0 := fun m => mkF m 0 #[sI (Int32.ofNat n)] []) (plainFor_of_name pn_2) (fun _ => rfl) ?_
  intro p e s m below meth c s₁ hx hby hml hrt hlk hown hnm hZ e0 X0
  have D := own_d hby kD36
  refine own_step (g' := (mkF m 1 #[sI (Int32.ofNat n)] [(.int (Int32.ofNat n))])) (fun _ q => XS.iloadN X0.here hx rfl (D 0) rfl q) ?_
  refine own_callS X0 hx hZ hown (w164 hw) (w165 hw) (w25 hw) (w166 hw) (by decide) (own_bO (W := 0) (own_nbl l Z a0 hw [] n h0 n0 Z0 hn) hZ (w166 hw) (w25 hw) rfl rfl) e0  (by first | decide | (dsimp only; omega)) (by first | decide | (dsimp only; omega)) (argsL := [(.int (Int32.ofNat n))]) (rest := []) rfl hml.symm (lenOf pd_6 rfl) rfl rfl (own_w0 rfl rfl) (D 1) ?_
  rintro _ T46 L46 X46 ⟨rfl, N46q, e46⟩
  have N47 := Fr.app (Fr.nil n0) N46q
  obtain ⟨T48, h48, k48, X48, e48, E48, A48, st48⟩ := newP X46 hx hZ (aty := .byte) (w27 hw) e46 (g := (mkF m 4 #[sI (Int32.ofNat n)] [(.int (Int32.ofNat (2 * n)))])) rfl (D 2) rfl (own_nneg (by omega)) (cap := (2 * n)) (by rw [own_nat (by omega)]; exact Nat.le_refl _) (by first | decide | omega) (by first | decide | (dsimp only; omega)) (by first | decide | (dsimp only; omega))
  obtain ⟨b48, g48⟩ : ∃ z, z = h0.size := ⟨_, rfl⟩
  rw [← g48] at A48 st48
  have n0_49 : n0 ≤ b48 := Nat.le_trans Z0 (Nat.le_of_eq g48.symm)
  have sz0_50 := Nat.le_trans (Keep.refl h0 []).1 (Nat.le_of_eq g48.symm)
  have V48 : Arv Z h48 b48 k48 .byte (Int32.ofNat (2 * n)) (List.replicate (Int32.ofNat (2 * n)).toNatClampNeg (.int (0 : Int32))) (.int (0 : Int32)) := (Arv.new A48 (own_nneg (by omega))).pad (pad_rep [] (.int (0 : Int32)) _)
  have ltb48 := V48.lt
  refine own_step (T' := T48) (g' := (mkF m 6 #[sI (Int32.ofNat n)] [(.ref b48)])) st48 ?_
  have qV51 : ((List.replicate (Int32.ofNat (2 * n)).toNatClampNeg (.int (0 : Int32))) : List Value) = (List.replicate (2 * n) (Value.int 0)) := (by rw [own_nat (by omega)])
  have V51 : Arv Z h48 b48 k48 .byte (Int32.ofNat (2 * n)) (List.replicate (2 * n) (Value.int 0)) (.int (0 : Int32)) := own_fixv qV51 V48
  have c52 := ((Keep.refl h0 []).ext E48)
  exact own_retA X48 hx hrt rfl rfl (D 3) hlk (by rw [e48]; exact ⟨b48, k48, rfl, N47, c52, sz0_50, V51⟩) (by first | decide | (dsimp only; omega)) (by first | decide | (dsimp only; omega))
theorem pd_7 : parseMethodDescriptor "(I)[B" = some ⟨[.int], some (.array .byte)⟩ := by decide +kernel
theorem pd_8 : parseMethodDescriptor "([BII)V" = some ⟨[(.array .byte), .int, .int], none⟩ := by decide +kernel
def Q_own_tob (Z : State) (G1 : Int32) (G3 : Value) (b : Addr) (kc : ClassId) (cs : List Int32) (dv : Value) (h0 : Heap) (n0 : Nat) (v : Option Value) (h : Heap) (L : List Loc) : Prop := ∃ (t : Addr), ∃ (kb : ClassId), v = some (.ref t) ∧ Fr n0 L ∧ Keep h0 h [] ∧ h0.size ≤ t ∧ Arv Z h t kb .byte (Int32.ofNat (2 * cs.length)) (StrChars.Road.wideBytes cs) (.int 0)
set_option maxRecDepth 65536 in
set_option maxHeartbeats 40000000 in
theorem own_tob (l : Launch) (Z : State) (a0 : Array Value) (hw : own_HW a0 Z) (ws : List Jvm.Cond) (G1 : Int32) (G3 : Value) (b : Addr) (kc : ClassId) (cs : List Int32) (dv : Value) (h0 : Heap) (n0 : Nat) (Z0 : n0 ≤ h0.size) (O2 : own_O2 Z G1) (O4 : own_O4 Z G3) (P5 : ¬ (G1 = (0 : Int32))) (rG3 : G3.isRef = true) (OLD0 : Old Z n0 h0) (U1 : own_U0 Z) (U2 : own_U1 Z) (U3 : own_U2 Z) (V_b : Arv Z h0 b kc .char (Int32.ofNat cs.length) (cs.map Value.int) dv) (hcs : own_R16 cs) (hl : cs.length ≤ 400) :
    own_Met l Z ⟨"java/lang/StringUTF16", "toBytes", "([CII)[B"⟩ jdk_52_method_14_code 5 (some (.array .byte)) ws ⟨2, 1, 2 * cs.length, 24⟩ #[(.ref b), (.int (0 : Int32)), (.int (Int32.ofNat cs.length))] h0 (Q_own_tob Z G1 G3 b kc cs dv h0 n0) := by
  refine own_bodyN (g0 := fun m => mkF m 0 #[sR b, sI 0, sI (Int32.ofNat cs.length), .unset, .unset] []) (plainFor_of_name pn_2) (fun _ => rfl) ?_
  intro p e s m below meth c s₁ hx hby hml hrt hlk hown hnm hZ e0 X0
  have D := own_d hby kD35
  refine own_step (g' := (mkF m 1 #[sR b, sI 0, sI (Int32.ofNat cs.length), .unset, .unset] [(.int (Int32.ofNat cs.length))])) (fun _ q => XS.iloadN X0.here hx rfl (D 0) rfl q) ?_
  refine own_callS X0 hx hZ hown (w161 hw) (w162 hw) (w25 hw) (w163 hw) (by decide) (own_bO (W := 0) (own_nbf l Z a0 hw [] cs.length h0 n0 Z0 (hl : cs.length ≤ 400)) hZ (w163 hw) (w25 hw) rfl rfl) e0  (by first | decide | (dsimp only; omega)) (by first | decide | (dsimp only; omega)) (argsL := [(.int (Int32.ofNat cs.length))]) (rest := []) rfl hml.symm (lenOf pd_7 rfl) rfl rfl (own_w0 rfl rfl) (D 1) ?_
  rintro _ T53 L53 X53 ⟨t53, kb53, rfl, N53q, K53, f0_53, f1_53⟩
  have n0_54 : n0 ≤ t53 := Nat.le_trans Z0 f0_53
  have sz0_55 := Nat.le_trans (Keep.refl h0 []).1 f0_53
  have ne56 : b ≠ t53 := own_ne V_b.lt f0_53
  have lt57 := f1_53.lt
  have N58 := Fr.app (Fr.nil n0) N53q
  refine own_step (g' := (mkF m 8 #[sR b, sI 0, sI (Int32.ofNat cs.length), sR t53, sI 0] [])) (fun _ q => XS.astoreN X53.here hx rfl (D 2) rfl rfl (l' := #[sR b, sI 0, sI (Int32.ofNat cs.length), sR t53, .unset]) rfl (XS.iconst X53.here hx rfl (D 3) (XS.istore X53.here hx rfl (D 4) rfl (l' := #[sR b, sI 0, sI (Int32.ofNat cs.length), sR t53, sI 0]) rfl q))) ?_
  have lp_tb : ∀ (k_tb : Nat) (i : Nat) (vs : List Value) (T_tb : State) (h_tb : Heap) (L_tb : List Loc) (X_tb : Stand p l e (⟨2, 1, 2 * cs.length, 24⟩ : Room) s m #[(.ref b), (.int (0 : Int32)), (.int (Int32.ofNat cs.length))] below meth c T_tb L_tb (0 + 1) (0 + (2 * cs.length))) (e_tb : T_tb.heap = h_tb) (N_tb : Fr n0 L_tb) (KL_tb : Keep T53.heap h_tb [t53]) (g0_tb : Arv Z h_tb t53 kb53 .byte (Int32.ofNat (2 * cs.length)) vs (.int 0)) (hwi : own_Wide cs i vs) (hwl : vs.length = 2 * cs.length) (hil : i ≤ cs.length) (hk_tb : cs.length - i = k_tb), own_Fin p e below (own_G s (Q_own_tob Z G1 G3 b kc cs dv h0 n0) (⟨2, 1, 2 * cs.length, 24⟩ : Room).cells (⟨2, 1, 2 * cs.length, 24⟩ : Room).slots) T_tb (mkF m 8 #[sR b, sI (Int32.ofNat i), sI (Int32.ofNat cs.length), sR t53, sI (Int32.ofNat i)] []) := by
    intro k_tb
    induction k_tb using Nat.strongRecOn with | _ k_tb ih_tb => ?_
    intro i vs T_tb h_tb L_tb X_tb e_tb N_tb KL_tb g0_tb hwi hwl hil hk_tb
    subst hk_tb
    refine own_step (g' := (mkF m 11 #[sR b, sI (Int32.ofNat i), sI (Int32.ofNat cs.length), sR t53, sI (Int32.ofNat i)] [(.int (Int32.ofNat cs.length)), (.int (Int32.ofNat i))])) (fun _ q => XS.iload X_tb.here hx rfl (D 5) rfl (XS.iloadN X_tb.here hx rfl (D 6) rfl q)) ?_
    by_cases hc59 : (Int32.ofNat i) < (Int32.ofNat cs.length)
    · refine own_step (g' := (mkF m 19 #[sR b, sI (Int32.ofNat i), sI (Int32.ofNat cs.length), sR t53, sI (Int32.ofNat i)] [(.int (Int32.ofNat i)), (.ref b), (.int (Int32.ofNat i)), (.ref t53)])) (fun _ q => XS.icmpNo X_tb.here hx rfl (D 7) rfl (XT.ii_ge_f hc59) (XS.aloadN X_tb.here hx rfl (D 8) rfl rfl (XS.iload X_tb.here hx rfl (D 9) rfl (XS.aloadN X_tb.here hx rfl (D 10) rfl rfl (XS.iloadN X_tb.here hx rfl (D 11) rfl q))))) ?_
      have c60 := ((V_b.keep K53 nin0).keep KL_tb (ninS ne56 nin0))
      refine own_step (g' := (mkF m 20 #[sR b, sI (Int32.ofNat i), sI (Int32.ofNat cs.length), sR t53, sI (Int32.ofNat i)] [(.int (cs.getD i 0)), (.int (Int32.ofNat i)), (.ref t53)])) (fun _ q => own_ldC X_tb hx hZ e_tb c60 (j := (Int32.ofNat i)) (own_ixin (own_nneg (by omega)) (by rw [own_nat (by omega)]; exact ((own_ltN (by omega) (by omega)).mp hc59))) (v := (.int (cs.getD i 0))) (by rw [own_nat (by omega)]; exact own_mapD ((own_ltN (by omega) (by omega)).mp hc59)) (g := (mkF m 19 #[sR b, sI (Int32.ofNat i), sI (Int32.ofNat cs.length), sR t53, sI (Int32.ofNat i)] [(.int (Int32.ofNat i)), (.ref b), (.int (Int32.ofNat i)), (.ref t53)])) rfl rfl (D 12) _ q) ?_
      have c61 := ((OLD0.keep K53 all0).keep KL_tb (allS n0_54 all0))
      have c62 := (Nat.le_trans (Nat.le_trans Z0 K53.1) KL_tb.1)
      refine own_callS X_tb hx hZ hown (w168 hw) (w169 hw) (w25 hw) (w170 hw) (by decide) (own_bO (W := 0) (own_putch l Z a0 hw [] G1 G3 t53 kb53 (Int32.ofNat (2 * cs.length)) vs i (cs.getD i 0) h_tb n0 c62 O2 O4 P5 rG3 c61 U1 U2 U3 g0_tb n0_54 (own_nneg (by omega) : ¬ (Int32.ofNat (2 * cs.length)) < 0) (by rw [own_nat (by omega)]; have := ((own_ltN (by omega) (by omega)).mp hc59); omega : 2 * i + 1 < (Int32.ofNat (2 * cs.length)).toNatClampNeg) (by have := ((own_ltN (by omega) (by omega)).mp hc59); omega : 2 * i + 1 < vs.length) (by have := ((own_ltN (by omega) (by omega)).mp hc59); omega : 2 * i + 1 < 2 ^ 31)) hZ (w170 hw) (w25 hw) rfl rfl) e_tb  (by first | decide | (dsimp only; omega)) (by first | decide | (dsimp only; omega)) (argsL := [(.ref t53), (.int (Int32.ofNat i)), (.int (cs.getD i 0))]) (rest := []) rfl hml.symm (lenOf pd_8 rfl) rfl rfl (own_w0 rfl rfl) (D 13) ?_
      rintro _ T63 L63 X63 ⟨rfl, N63q, K63, f0_63⟩
      have N64 := Fr.app N_tb N63q
      refine own_step (g' := (mkF m 26 #[sR b, sI ((Int32.ofNat i) + (1 : Int32)), sI (Int32.ofNat cs.length), sR t53, sI (Int32.ofNat i)] [])) (fun _ q => XS.iinc X63.here hx rfl (D 14) rfl (l' := #[sR b, sI ((Int32.ofNat i) + (1 : Int32)), sI (Int32.ofNat cs.length), sR t53, sI (Int32.ofNat i)]) rfl q) ?_
      rw [show ((Int32.ofNat i) + (1 : Int32)) = (Int32.ofNat (i + 1)) from (own_inc _)]
      refine own_step (g' := (mkF m 29 #[sR b, sI (Int32.ofNat (i + 1)), sI (Int32.ofNat cs.length), sR t53, sI ((Int32.ofNat i) + (1 : Int32))] [])) (fun _ q => XS.iinc X63.here hx rfl (D 15) rfl (l' := #[sR b, sI (Int32.ofNat (i + 1)), sI (Int32.ofNat cs.length), sR t53, sI ((Int32.ofNat i) + (1 : Int32))]) rfl q) ?_
      rw [show ((Int32.ofNat i) + (1 : Int32)) = (Int32.ofNat (i + 1)) from (own_inc _)]
      refine own_step (g' := (mkF m 8 #[sR b, sI (Int32.ofNat (i + 1)), sI (Int32.ofNat cs.length), sR t53, sI (Int32.ofNat (i + 1))] [])) (fun _ q => XS.goto X63.here hx rfl (pc0 := 29) (pc' := 8) rfl (D 16) (by decide) (by decide) q) ?_
      have c65 := (KL_tb.trans K63 (allS (Or.inl (List.mem_of_getElem? (i := 0) rfl)) all0))
      exact ih_tb _ (by have := ((own_ltN (by omega) (by omega)).mp hc59); omega) (i + 1) (((vs.set (2 * i) (.int (StrChars.lo8 (cs.getD i 0)))).set (2 * i + 1) (.int (StrChars.hi8 (cs.getD i 0))))) T63 T63.heap _ X63 rfl N64 c65 f0_63 (hwi.step (by have := ((own_ltN (by omega) (by omega)).mp hc59); omega)) (by simp [hwl]) (by have := ((own_ltN (by omega) (by omega)).mp hc59); omega) rfl
    · refine own_step (g' := (mkF m 33 #[sR b, sI (Int32.ofNat i), sI (Int32.ofNat cs.length), sR t53, sI (Int32.ofNat i)] [(.ref t53)])) (fun _ q => XS.icmpYes X_tb.here hx rfl (pc0 := 11) (pc' := 32) rfl (D 7) rfl (XT.ii_ge_t hc59) (by decide) (by decide) (XS.aloadN X_tb.here hx rfl (D 17) rfl rfl q)) ?_
      obtain rfl : i = cs.length := by have := hc59; have h2 := (Nat.not_lt.mp (fun q => this ((own_ltN (by omega) (by omega)).mpr q))); omega
      have qV66 : (vs : List Value) = (StrChars.Road.wideBytes cs) := (hwi.eq hwl)
      have V66 : Arv Z h_tb t53 kb53 .byte (Int32.ofNat (2 * cs.length)) (StrChars.Road.wideBytes cs) (.int 0) := own_fixv qV66 g0_tb
      have c67 := (((Keep.refl h0 []).trans K53 all0).trans KL_tb (allS (Or.inr sz0_55) all0))
      exact own_retA X_tb hx hrt rfl rfl (D 18) hlk (by rw [e_tb]; exact ⟨t53, kb53, rfl, N_tb, c67, sz0_55, V66⟩) (by first | decide | (dsimp only; omega)) (by first | decide | (dsimp only; omega))
  exact lp_tb _ (0) ((List.replicate (2 * cs.length) (Value.int 0))) T53 T53.heap _ X53 rfl N58 (Keep.refl T53.heap [t53]) f1_53 (fun j hj => absurd hj (Nat.not_lt_zero _)) (by simp) (Nat.zero_le _) rfl
def Q_own_cmp5 (Z : State) (b : Addr) (kc : ClassId) (cs : List Int32) (dv : Value) (t : Addr) (kb : ClassId) (vs0 : List Value) (h0 : Heap) (n0 : Nat) (v : Option Value) (h : Heap) (L : List Loc) : Prop := ∃ (r : Nat), ∃ (vs : List Value), v = some (.int (Int32.ofNat r)) ∧ Fr n0 L ∧ Keep h0 h [t] ∧ Arv Z h t kb .byte (Int32.ofNat cs.length) vs (.int 0) ∧ own_Cmp cs r vs
set_option maxRecDepth 65536 in
set_option maxHeartbeats 40000000 in
theorem own_cmp5 (l : Launch) (Z : State) (a0 : Array Value) (hw : own_HW a0 Z) (ws : List Jvm.Cond) (b : Addr) (kc : ClassId) (cs : List Int32) (dv : Value) (t : Addr) (kb : ClassId) (vs0 : List Value) (h0 : Heap) (n0 : Nat) (Z0 : n0 ≤ h0.size) (V_b : Arv Z h0 b kc .char (Int32.ofNat cs.length) (cs.map Value.int) dv) (V_t : Arv Z h0 t kb .byte (Int32.ofNat cs.length) vs0 (.int 0)) (ge_t : n0 ≤ t) (ne_b_t : ¬ b = t) (h0l : vs0.length = cs.length) (hl : cs.length ≤ 400) :
    own_Met l Z ⟨"java/lang/StringUTF16", "compress", "([CI[BII)I"⟩ jdk_52_method_21_code 7 (some .int) ws ⟨0, 0, 0, 0⟩ #[(.ref b), (.int (0 : Int32)), (.ref t), (.int (0 : Int32)), (.int (Int32.ofNat cs.length))] h0 (Q_own_cmp5 Z b kc cs dv t kb vs0 h0 n0) := by
  refine own_bodyN (g0 := fun m => mkF m 0 #[sR b, sI 0, sR t, sI 0, sI (Int32.ofNat cs.length), .unset, .unset] []) (plainFor_of_name pn_2) (fun _ => rfl) ?_
  intro p e s m below meth c s₁ hx hby hml hrt hlk hown hnm hZ e0 X0
  have D := own_d hby kD7
  refine own_step (g' := (mkF m 3 #[sR b, sI 0, sR t, sI 0, sI (Int32.ofNat cs.length), sI 0, .unset] [])) (fun _ q => XS.iconst X0.here hx rfl (D 0) (XS.istore X0.here hx rfl (D 1) rfl (l' := #[sR b, sI 0, sR t, sI 0, sI (Int32.ofNat cs.length), sI 0, .unset]) rfl q)) ?_
  have lp_cp : ∀ (k_cp : Nat) (i : Nat) (vs : List Value) (s6 : Slot) (T_cp : State) (h_cp : Heap) (L_cp : List Loc) (X_cp : Stand p l e (⟨0, 0, 0, 0⟩ : Room) s m #[(.ref b), (.int (0 : Int32)), (.ref t), (.int (0 : Int32)), (.int (Int32.ofNat cs.length))] below meth c T_cp L_cp 0 0) (e_cp : T_cp.heap = h_cp) (N_cp : Fr n0 L_cp) (KL_cp : Keep h0 h_cp [t]) (g0_cp : Arv Z h_cp t kb .byte (Int32.ofNat cs.length) vs (.int 0)) (hla : own_Lat cs i vs) (hvl : vs.length = cs.length) (hil : i ≤ cs.length) (hs6 : s6 = .unset ∨ ∃ w, s6 = .val w ∧ w.category = 1) (hk_cp : cs.length - i = k_cp), own_Fin p e below (own_G s (Q_own_cmp5 Z b kc cs dv t kb vs0 h0 n0) (⟨0, 0, 0, 0⟩ : Room).cells (⟨0, 0, 0, 0⟩ : Room).slots) T_cp (mkF m 3 #[sR b, sI (Int32.ofNat i), sR t, sI (Int32.ofNat i), sI (Int32.ofNat cs.length), sI (Int32.ofNat i), s6] []) := by
    intro k_cp
    induction k_cp using Nat.strongRecOn with | _ k_cp ih_cp => ?_
    intro i vs s6 T_cp h_cp L_cp X_cp e_cp N_cp KL_cp g0_cp hla hvl hil hs6 hk_cp
    subst hk_cp
    refine own_step (g' := (mkF m 7 #[sR b, sI (Int32.ofNat i), sR t, sI (Int32.ofNat i), sI (Int32.ofNat cs.length), sI (Int32.ofNat i), s6] [(.int (Int32.ofNat cs.length)), (.int (Int32.ofNat i))])) (fun _ q => XS.iload X_cp.here hx rfl (D 2) rfl (XS.iload X_cp.here hx rfl (D 3) rfl q)) ?_
    by_cases hc68 : (Int32.ofNat i) < (Int32.ofNat cs.length)
    · refine own_step (g' := (mkF m 12 #[sR b, sI (Int32.ofNat i), sR t, sI (Int32.ofNat i), sI (Int32.ofNat cs.length), sI (Int32.ofNat i), s6] [(.int (Int32.ofNat i)), (.ref b)])) (fun _ q => XS.icmpNo X_cp.here hx rfl (D 4) rfl (XT.ii_ge_f hc68) (XS.aloadN X_cp.here hx rfl (D 5) rfl rfl (XS.iloadN X_cp.here hx rfl (D 6) rfl q))) ?_
      have c69 := (V_b.keep KL_cp (ninS ne_b_t nin0))
      refine own_step (g' := (mkF m 20 #[sR b, sI (Int32.ofNat i), sR t, sI (Int32.ofNat i), sI (Int32.ofNat cs.length), sI (Int32.ofNat i), sI (cs.getD i 0)] [(.int 255), (.int (cs.getD i 0))])) (fun _ q => own_ldC X_cp hx hZ e_cp c69 (j := (Int32.ofNat i)) (own_ixin (own_nneg (by omega)) (by rw [own_nat (by omega)]; exact ((own_ltN (by omega) (by omega)).mp hc68))) (v := (.int (cs.getD i 0))) (by rw [own_nat (by omega)]; exact own_mapD ((own_ltN (by omega) (by omega)).mp hc68)) (g := (mkF m 12 #[sR b, sI (Int32.ofNat i), sR t, sI (Int32.ofNat i), sI (Int32.ofNat cs.length), sI (Int32.ofNat i), s6] [(.int (Int32.ofNat i)), (.ref b)])) rfl rfl (D 7) _ (XS.istoreS X_cp.here hx rfl (D 8) rfl rfl hs6 (XS.iload X_cp.here hx rfl (D 9) rfl (XS.sipush X_cp.here hx rfl (D 10) q)))) ?_
      by_cases hc70 : (255 : Int32) < (cs.getD i 0)
      · refine own_step (g' := (mkF m 25 #[sR b, sI (Int32.ofNat i), sR t, sI (Int32.ofNat i), sI (Int32.ofNat cs.length), sI (Int32.ofNat i), sI (cs.getD i 0)] [(.int (Int32.ofNat i))])) (fun _ q => XS.icmpNo X_cp.here hx rfl (D 11) rfl (XT.ii_le_f hc70) (XS.iload X_cp.here hx rfl (D 12) rfl q)) ?_
        have c71 := ((Keep.refl h0 [t]).trans KL_cp (allS (Or.inl (List.mem_of_getElem? (i := 0) rfl)) all0))
        exact own_retI X_cp hx hrt (D 13) hlk (by rw [e_cp]; exact ⟨i, vs, rfl, N_cp, c71, g0_cp, (Or.inr ⟨((own_ltN (by omega) (by omega)).mp hc68), hc70⟩)⟩) (by decide) (by decide)
      · refine own_step (g' := (mkF m 31 #[sR b, sI (Int32.ofNat i), sR t, sI (Int32.ofNat i), sI (Int32.ofNat cs.length), sI (Int32.ofNat i), sI (cs.getD i 0)] [(.int ((cs.getD i 0).toInt8.toInt32)), (.int (Int32.ofNat i)), (.ref t)])) (fun _ q => XS.icmpYes X_cp.here hx rfl (pc0 := 20) (pc' := 26) rfl (D 11) rfl (XT.ii_le_t hc70) (by decide) (by decide) (XS.aloadN X_cp.here hx rfl (D 14) rfl rfl (XS.iloadN X_cp.here hx rfl (D 15) rfl (XS.iload X_cp.here hx rfl (D 16) rfl (XT.i2b X_cp.here hx rfl (D 17) rfl q))))) ?_
        rw [show ((cs.getD i 0).toInt8.toInt32) = (StrChars.lo8 (cs.getD i 0)) from rfl]
        obtain ⟨T72, h72, X72, e72, W72, V72, st72⟩ := own_stB X_cp hx hZ e_cp g0_cp (j := (Int32.ofNat i)) (own_ixin (own_nneg (by omega)) (by rw [own_nat (by omega)]; exact ((own_ltN (by omega) (by omega)).mp hc68))) (i := i) (own_nat (by omega)) (by have := ((own_ltN (by omega) (by omega)).mp hc68); omega) (g := (mkF m 31 #[sR b, sI (Int32.ofNat i), sR t, sI (Int32.ofNat i), sI (Int32.ofNat cs.length), sI (Int32.ofNat i), sI (cs.getD i 0)] [(.int (StrChars.lo8 (cs.getD i 0))), (.int (Int32.ofNat i)), (.ref t)])) rfl rfl (D 18)
        rw [show ((StrChars.lo8 (cs.getD i 0)).toInt8.toInt32) = (StrChars.lo8 (cs.getD i 0)) from (own_lo8lo8 _)] at V72
        have N73 := Fr.snoc X72 N_cp ge_t
        refine own_step (T' := T72) (g' := (mkF m 32 #[sR b, sI (Int32.ofNat i), sR t, sI (Int32.ofNat i), sI (Int32.ofNat cs.length), sI (Int32.ofNat i), sI (cs.getD i 0)] [])) st72 ?_
        refine own_step (g' := (mkF m 35 #[sR b, sI ((Int32.ofNat i) + (1 : Int32)), sR t, sI (Int32.ofNat i), sI (Int32.ofNat cs.length), sI (Int32.ofNat i), sI (cs.getD i 0)] [])) (fun _ q => XS.iinc X72.here hx rfl (D 19) rfl (l' := #[sR b, sI ((Int32.ofNat i) + (1 : Int32)), sR t, sI (Int32.ofNat i), sI (Int32.ofNat cs.length), sI (Int32.ofNat i), sI (cs.getD i 0)]) rfl q) ?_
        rw [show ((Int32.ofNat i) + (1 : Int32)) = (Int32.ofNat (i + 1)) from (own_inc _)]
        refine own_step (g' := (mkF m 38 #[sR b, sI (Int32.ofNat (i + 1)), sR t, sI ((Int32.ofNat i) + (1 : Int32)), sI (Int32.ofNat cs.length), sI (Int32.ofNat i), sI (cs.getD i 0)] [])) (fun _ q => XS.iinc X72.here hx rfl (D 20) rfl (l' := #[sR b, sI (Int32.ofNat (i + 1)), sR t, sI ((Int32.ofNat i) + (1 : Int32)), sI (Int32.ofNat cs.length), sI (Int32.ofNat i), sI (cs.getD i 0)]) rfl q) ?_
        rw [show ((Int32.ofNat i) + (1 : Int32)) = (Int32.ofNat (i + 1)) from (own_inc _)]
        refine own_step (g' := (mkF m 41 #[sR b, sI (Int32.ofNat (i + 1)), sR t, sI (Int32.ofNat (i + 1)), sI (Int32.ofNat cs.length), sI ((Int32.ofNat i) + (1 : Int32)), sI (cs.getD i 0)] [])) (fun _ q => XS.iinc X72.here hx rfl (D 21) rfl (l' := #[sR b, sI (Int32.ofNat (i + 1)), sR t, sI (Int32.ofNat (i + 1)), sI (Int32.ofNat cs.length), sI ((Int32.ofNat i) + (1 : Int32)), sI (cs.getD i 0)]) rfl q) ?_
        rw [show ((Int32.ofNat i) + (1 : Int32)) = (Int32.ofNat (i + 1)) from (own_inc _)]
        refine own_step (g' := (mkF m 3 #[sR b, sI (Int32.ofNat (i + 1)), sR t, sI (Int32.ofNat (i + 1)), sI (Int32.ofNat cs.length), sI (Int32.ofNat (i + 1)), sI (cs.getD i 0)] [])) (fun _ q => XS.goto X72.here hx rfl (pc0 := 41) (pc' := 3) rfl (D 22) (by decide) (by decide) q) ?_
        have c74 := (KL_cp.wr W72 (Or.inl (List.mem_of_getElem? (i := 0) rfl)))
        exact ih_cp _ (by have := ((own_ltN (by omega) (by omega)).mp hc68); omega) (i + 1) ((vs.set i (.int (StrChars.lo8 (cs.getD i 0))))) (.val (.int (cs.getD i 0))) T72 h72 _ X72 e72 N73 c74 V72 (hla.step (by have := ((own_ltN (by omega) (by omega)).mp hc68); omega) hc70) (by simp [hvl]) (by have := ((own_ltN (by omega) (by omega)).mp hc68); omega) (Or.inr ⟨_, rfl, rfl⟩) rfl
    · refine own_step (g' := (mkF m 46 #[sR b, sI (Int32.ofNat i), sR t, sI (Int32.ofNat i), sI (Int32.ofNat cs.length), sI (Int32.ofNat i), s6] [(.int (Int32.ofNat cs.length))])) (fun _ q => XS.icmpYes X_cp.here hx rfl (pc0 := 7) (pc' := 44) rfl (D 4) rfl (XT.ii_ge_t hc68) (by decide) (by decide) (XS.iload X_cp.here hx rfl (D 23) rfl q)) ?_
      obtain rfl : i = cs.length := by have := hc68; have h2 := (Nat.not_lt.mp (fun q => this ((own_ltN (by omega) (by omega)).mpr q))); omega
      have c75 := ((Keep.refl h0 [t]).trans KL_cp (allS (Or.inl (List.mem_of_getElem? (i := 0) rfl)) all0))
      exact own_retI X_cp hx hrt (D 24) hlk (by rw [e_cp]; exact ⟨cs.length, vs, rfl, N_cp, c75, g0_cp, (own_Lat.all hla hvl)⟩) (by decide) (by decide)
  exact lp_cp _ (0) (vs0) (.unset) s₁ h0 _ X0 e0 (Fr.nil n0) (Keep.refl h0 [t]) V_t (fun j hj => absurd hj (Nat.not_lt_zero _)) (h0l) (Nat.zero_le _) (Or.inl rfl) rfl
theorem pd_9 : parseMethodDescriptor "([CI[BII)I" = some ⟨[(.array .char), .int, (.array .byte), .int, .int], some .int⟩ := by decide +kernel
theorem pd_10 : parseMethodDescriptor "([CII)[B" = some ⟨[(.array .char), .int, .int], some (.array .byte)⟩ := by decide +kernel
def Q_own_cmp3 (Z : State) (G1 : Int32) (G3 : Value) (b : Addr) (kc : ClassId) (cs : List Int32) (dv : Value) (h0 : Heap) (n0 : Nat) (v : Option Value) (h : Heap) (L : List Loc) : Prop := ∃ (t : Addr), ∃ (kb : ClassId), ∃ (cd : Int32), ∃ (N2 : Int32), ∃ (vs : List Value), v = some (.ref t) ∧ Fr n0 L ∧ Keep h0 h [] ∧ h0.size ≤ t ∧ Arv Z h t kb .byte N2 vs (.int 0) ∧ StrChars.Road.CodA cs cd N2 vs
set_option maxRecDepth 65536 in
set_option maxHeartbeats 40000000 in
theorem own_cmp3 (l : Launch) (Z : State) (a0 : Array Value) (hw : own_HW a0 Z) (ws : List Jvm.Cond) (G1 : Int32) (G3 : Value) (b : Addr) (kc : ClassId) (cs : List Int32) (dv : Value) (h0 : Heap) (n0 : Nat) (Z0 : n0 ≤ h0.size) (O2 : own_O2 Z G1) (O4 : own_O4 Z G3) (P5 : ¬ (G1 = (0 : Int32))) (rG3 : G3.isRef = true) (OLD0 : Old Z n0 h0) (U1 : own_U0 Z) (U2 : own_U1 Z) (U3 : own_U2 Z) (V_b : Arv Z h0 b kc .char (Int32.ofNat cs.length) (cs.map Value.int) dv) (hcs : own_R16 cs) (hl : cs.length ≤ 400) :
    own_Met l Z ⟨"java/lang/StringUTF16", "compress", "([CII)[B"⟩ jdk_52_method_16_code 6 (some (.array .byte)) ws ⟨3, 2, 3 * cs.length, 40⟩ #[(.ref b), (.int (0 : Int32)), (.int (Int32.ofNat cs.length))] h0 (Q_own_cmp3 Z G1 G3 b kc cs dv h0 n0) := by
  refine own_bodyN (g0 := fun m => mkF m 0 #[sR b, sI 0, sI (Int32.ofNat cs.length), .unset, .unset, .unset] []) (plainFor_of_name pn_2) (fun _ => rfl) ?_
  intro p e s m below meth c s₁ hx hby hml hrt hlk hown hnm hZ e0 X0
  have D := own_d hby kD6
  refine own_step (g' := (mkF m 1 #[sR b, sI 0, sI (Int32.ofNat cs.length), .unset, .unset, .unset] [(.int (Int32.ofNat cs.length))])) (fun _ q => XS.iloadN X0.here hx rfl (D 0) rfl q) ?_
  obtain ⟨T76, h76, k76, X76, e76, E76, A76, st76⟩ := newP X0 hx hZ (aty := .byte) (w27 hw) e0 (g := (mkF m 1 #[sR b, sI 0, sI (Int32.ofNat cs.length), .unset, .unset, .unset] [(.int (Int32.ofNat cs.length))])) rfl (D 1) rfl (own_nneg (by omega)) (cap := cs.length) (by rw [own_nat (by omega)]; exact Nat.le_refl _) (by first | decide | omega) (by first | decide | (dsimp only; omega)) (by first | decide | (dsimp only; omega))
  obtain ⟨b76, g76⟩ : ∃ z, z = h0.size := ⟨_, rfl⟩
  rw [← g76] at A76 st76
  have n0_77 : n0 ≤ b76 := Nat.le_trans Z0 (Nat.le_of_eq g76.symm)
  have sz0_78 := Nat.le_trans (Keep.refl h0 []).1 (Nat.le_of_eq g76.symm)
  have ne79 : b ≠ b76 := own_ne V_b.lt (Nat.le_of_eq g76.symm)
  have V76 : Arv Z h76 b76 k76 .byte (Int32.ofNat cs.length) (List.replicate (Int32.ofNat cs.length).toNatClampNeg (.int (0 : Int32))) (.int (0 : Int32)) := (Arv.new A76 (own_nneg (by omega))).pad (pad_rep [] (.int (0 : Int32)) _)
  have ltb76 := V76.lt
  refine own_step (T' := T76) (g' := (mkF m 3 #[sR b, sI 0, sI (Int32.ofNat cs.length), .unset, .unset, .unset] [(.ref b76)])) st76 ?_
  have qV80 : ((List.replicate (Int32.ofNat cs.length).toNatClampNeg (.int (0 : Int32))) : List Value) = (List.replicate cs.length (Value.int 0)) := (by rw [own_nat (by omega)])
  have V80 : Arv Z h76 b76 k76 .byte (Int32.ofNat cs.length) (List.replicate cs.length (Value.int 0)) (.int (0 : Int32)) := own_fixv qV80 V76
  refine own_step (g' := (mkF m 9 #[sR b, sI 0, sI (Int32.ofNat cs.length), sR b76, .unset, .unset] [(.int (Int32.ofNat cs.length)), (.int 0), (.ref b76), (.int 0), (.ref b)])) (fun _ q => XS.astoreN X76.here hx rfl (D 2) rfl rfl (l' := #[sR b, sI 0, sI (Int32.ofNat cs.length), sR b76, .unset, .unset]) rfl (XS.aloadN X76.here hx rfl (D 3) rfl rfl (XS.iloadN X76.here hx rfl (D 4) rfl (XS.aloadN X76.here hx rfl (D 5) rfl rfl (XS.iconst X76.here hx rfl (D 6) (XS.iloadN X76.here hx rfl (D 7) rfl q)))))) ?_
  have c81 := (V_b.ext E76)
  have c82 := (Nat.le_trans Z0 E76.1)
  refine own_callS X76 hx hZ hown (w28 hw) (w29 hw) (w25 hw) (w30 hw) (by decide) (own_bO (W := 0) (own_cmp5 l Z a0 hw [] b kc cs dv b76 k76 (List.replicate cs.length (Value.int 0)) h76 n0 c82 c81 V80 n0_77 ne79 (by simp : (List.replicate cs.length (Value.int 0)).length = cs.length) hl) hZ (w30 hw) (w25 hw) rfl rfl) e76  (by first | decide | (dsimp only; omega)) (by first | decide | (dsimp only; omega)) (argsL := [(.ref b), (.int (0 : Int32)), (.ref b76), (.int (0 : Int32)), (.int (Int32.ofNat cs.length))]) (rest := []) rfl hml.symm (lenOf pd_9 rfl) rfl rfl (own_w0 rfl rfl) (D 8) ?_
  rintro _ T83 L83 X83 ⟨r83, vs83, rfl, N83q, K83, f0_83, p0_83⟩
  have N84 := Fr.app (Fr.nil n0) N83q
  rcases p0_83 with ⟨hr, hvs, hall⟩ | ⟨hr, hbig⟩
  · have hcod : StrChars.Road.CodA cs 0 (Int32.ofNat cs.length) vs83 := Or.inl ⟨rfl, rfl, hvs, hall⟩
    refine own_step (g' := (mkF m 58 #[sR b, sI 0, sI (Int32.ofNat cs.length), sR b76, sI (Int32.ofNat r83), .unset] [(.ref b76)])) (fun _ q => XS.istore X83.here hx rfl (D 9) rfl (l' := #[sR b, sI 0, sI (Int32.ofNat cs.length), sR b76, sI (Int32.ofNat r83), .unset]) rfl (XS.iload X83.here hx rfl (D 10) rfl (XS.iloadN X83.here hx rfl (D 11) rfl (XS.icmpYes X83.here hx rfl (pc0 := 17) (pc' := 57) rfl (D 12) rfl (XT.ii_eq_t (congrArg Int32.ofNat hr)) (by decide) (by decide) (XS.aloadN X83.here hx rfl (D 25) rfl rfl q))))) ?_
    have c85 := (((Keep.refl h0 []).ext E76).trans K83 (allS (Or.inr sz0_78) all0))
    exact own_retA X83 hx hrt rfl rfl (D 26) hlk ⟨b76, k76, 0, (Int32.ofNat cs.length), vs83, rfl, N84, c85, sz0_78, f0_83, hcod⟩ (by first | decide | (dsimp only; omega)) (by first | decide | (dsimp only; omega))
  · refine own_step (g' := (mkF m 23 #[sR b, sI 0, sI (Int32.ofNat cs.length), sR b76, sI (Int32.ofNat r83), .unset] [(.int (Int32.ofNat cs.length)), (.int 0), (.ref b)])) (fun _ q => XS.istore X83.here hx rfl (D 9) rfl (l' := #[sR b, sI 0, sI (Int32.ofNat cs.length), sR b76, sI (Int32.ofNat r83), .unset]) rfl (XS.iload X83.here hx rfl (D 10) rfl (XS.iloadN X83.here hx rfl (D 11) rfl (XS.icmpNo X83.here hx rfl (D 12) rfl (XT.ii_eq_f (fun q => absurd (by have := congrArg Int32.toInt q; rw [own_toInt (by omega), own_toInt (by omega)] at this; omega : r83 = cs.length) (by omega))) (XS.aloadN X83.here hx rfl (D 13) rfl rfl (XS.iloadN X83.here hx rfl (D 14) rfl (XS.iloadN X83.here hx rfl (D 15) rfl q))))))) ?_
    have c86 := ((OLD0.ext E76).keep K83 (allS n0_77 all0))
    have c87 := (c81.keep K83 (ninS ne79 nin0))
    have c88 := (Nat.le_trans c82 K83.1)
    refine own_callS X83 hx hZ hown (w158 hw) (w159 hw) (w25 hw) (w160 hw) (by decide) (own_bO (W := 0) (own_tob l Z a0 hw [] G1 G3 b kc cs dv T83.heap n0 c88 O2 O4 P5 rG3 c86 U1 U2 U3 c87 hcs hl) hZ (w160 hw) (w25 hw) rfl rfl) rfl  (by first | decide | (dsimp only; omega)) (by first | decide | (dsimp only; omega)) (argsL := [(.ref b), (.int (0 : Int32)), (.int (Int32.ofNat cs.length))]) (rest := []) rfl hml.symm (lenOf pd_10 rfl) rfl rfl (own_w0 rfl rfl) (D 16) ?_
    rintro _ T89 L89 X89 ⟨t89, kb89, rfl, N89q, K89, f0_89, f1_89⟩
    have n0_90 : n0 ≤ t89 := Nat.le_trans c88 f0_89
    have c91 := (((Keep.refl h0 []).ext E76).trans K83 (allS (Or.inr sz0_78) all0))
    have sz0_92 := Nat.le_trans c91.1 f0_89
    have c93 := (own_lt (own_lt V_b.lt E76.1) K83.1)
    have ne94 : b ≠ t89 := own_ne c93 f0_89
    have c95 := (own_lt ltb76 K83.1)
    have ne96 : b76 ≠ t89 := own_ne c95 f0_89
    have lt97 := f1_89.lt
    have N98 := Fr.app N84 N89q
    refine own_step (g' := (mkF m 32 #[sR b, sI 0, sI (Int32.ofNat cs.length), sR b76, sI (Int32.ofNat r83), sR t89] [(.int (Int32.ofNat r83)), (.ref t89)])) (fun _ q => XS.astore X89.here hx rfl (D 17) rfl rfl (l' := #[sR b, sI 0, sI (Int32.ofNat cs.length), sR b76, sI (Int32.ofNat r83), sR t89]) rfl (XS.aload X89.here hx rfl (D 18) rfl rfl (XS.iload X89.here hx rfl (D 19) rfl q))) ?_
    have c99 := (c86.keep K89 all0)
    have c100 := (Nat.le_trans c88 K89.1)
    refine own_callS X89 hx hZ hown (w174 hw) (w175 hw) (w25 hw) (w176 hw) (by decide) (own_bO (W := 0) (own_getch l Z a0 hw [] G1 G3 t89 kb89 (Int32.ofNat (2 * cs.length)) (StrChars.Road.wideBytes cs) r83 (StrChars.lo8 (cs.getD r83 0)) (StrChars.hi8 (cs.getD r83 0)) T89.heap n0 c100 O2 O4 P5 rG3 c99 U1 U2 U3 f1_89 (own_nneg (by omega) : ¬ (Int32.ofNat (2 * cs.length)) < 0) (by rw [own_nat (by omega)]; omega : 2 * r83 + 1 < (Int32.ofNat (2 * cs.length)).toNatClampNeg) (StrChars.Road.wide_lo _ _ _ hr : (StrChars.Road.wideBytes cs).getD (2 * r83) (.int 0) = .int (StrChars.lo8 (cs.getD r83 0))) (StrChars.Road.wide_hi _ _ _ hr : (StrChars.Road.wideBytes cs).getD (2 * r83 + 1) (.int 0) = .int (StrChars.hi8 (cs.getD r83 0)))) hZ (w176 hw) (w25 hw) rfl rfl) rfl  (by first | decide | (dsimp only; omega)) (by first | decide | (dsimp only; omega)) (argsL := [(.ref t89), (.int (Int32.ofNat r83))]) (rest := []) rfl hml.symm (lenOf pd_4 rfl) rfl rfl (own_w0 rfl rfl) (D 20) ?_
    rintro _ T101 L101 X101 ⟨rfl, N101q, e101⟩
    have N102 := Fr.app N98 N101q
    rw [show (nar .char (StrChars.pairCh (StrChars.lo8 (cs.getD r83 0)) (StrChars.hi8 (cs.getD r83 0)))) = (cs.getD r83 0) from (by rw [StrChars.pair_says (hcs _ (own_getD_mem hr)).1 (hcs _ (own_getD_mem hr)).2, own_narC (hcs _ (own_getD_mem hr)).1 (hcs _ (own_getD_mem hr)).2])]
    have hcod : StrChars.Road.CodA cs 1 (Int32.ofNat (2 * cs.length)) (StrChars.Road.wideBytes cs) := Or.inr ⟨rfl, rfl, rfl, _, own_getD_mem hr, hbig⟩
    refine own_step (g' := (mkF m 56 #[sR b, sI 0, sI (Int32.ofNat cs.length), sR b76, sI (Int32.ofNat r83), sR t89] [(.ref t89)])) (fun _ q => XS.sipush X101.here hx rfl (D 21) (XS.icmpYes X101.here hx rfl (pc0 := 38) (pc' := 54) rfl (D 22) rfl (XT.ii_gt_t hbig) (by decide) (by decide) (XS.aload X101.here hx rfl (D 23) rfl rfl q))) ?_
    have c103 := (c91.trans K89 all0)
    exact own_retA X101 hx hrt rfl rfl (D 24) hlk (by rw [e101]; exact ⟨t89, kb89, 1, (Int32.ofNat (2 * cs.length)), (StrChars.Road.wideBytes cs), rfl, N102, c103, sz0_92, f1_89, hcod⟩) (by first | decide | (dsimp only; omega)) (by first | decide | (dsimp only; omega))
def Q_own_cfal (Z : State) (t : Addr) (kb : ClassId) (N2 : Int32) (vs : List Value) (cs : List Int32) (cd : Int32) (h0 : Heap) (n0 : Nat) (v : Option Value) (h : Heap) (L : List Loc) : Prop := v = some (.int cd) ∧ Fr n0 L ∧ h = h0
set_option maxRecDepth 65536 in
set_option maxHeartbeats 40000000 in
theorem own_cfal (l : Launch) (Z : State) (a0 : Array Value) (hw : own_HW a0 Z) (ws : List Jvm.Cond) (t : Addr) (kb : ClassId) (N2 : Int32) (vs : List Value) (cs : List Int32) (cd : Int32) (h0 : Heap) (n0 : Nat) (Z0 : n0 ≤ h0.size) (V_t : Arv Z h0 t kb .byte N2 vs (.int 0)) (hcod : StrChars.Road.CodA cs cd N2 vs) (h0l : 0 < cs.length) (hl : cs.length ≤ 400) :
    own_Met l Z ⟨"java/lang/StringUTF16", "coderFromArrayLen", "([BI)B"⟩ jdk_52_method_15_code 2 (some .byte) ws ⟨0, 0, 0, 0⟩ #[(.ref t), (.int (Int32.ofNat cs.length))] h0 (Q_own_cfal Z t kb N2 vs cs cd h0 n0) := by
  refine own_bodyN (g0 := fun m => mkF m 0 #[sR t, sI (Int32.ofNat cs.length)] []) (plainFor_of_name pn_2) (fun _ => rfl) ?_
  intro p e s m below meth c s₁ hx hby hml hrt hlk hown hnm hZ e0 X0
  have D := own_d hby kD8
  refine own_step (g' := (mkF m 8 #[sR t, sI (Int32.ofNat cs.length)] [(.int ((XT.ushr ((Int32.ofNat cs.length) - N2) (31 : Int32)).toInt8.toInt32))])) (fun _ q => XS.iloadN X0.here hx rfl (D 0) rfl (XS.aloadN X0.here hx rfl (D 1) rfl rfl (own_len X0 hx hZ e0 V_t (g := (mkF m 2 #[sR t, sI (Int32.ofNat cs.length)] [(.ref t), (.int (Int32.ofNat cs.length))])) rfl rfl (D 2) _ (XS.isub X0.here hx rfl (D 3) rfl (XS.bipush X0.here hx rfl (D 4) (XT.iushr X0.here hx rfl (D 5) rfl (XT.i2b X0.here hx rfl (D 6) rfl q))))))) ?_
  exact own_retN X0 hx hrt (by simp) (D 7) hlk ⟨(by rw [own_cfal_eq hcod h0l hl]), (Fr.nil n0), e0⟩ (by decide) (by decide)
theorem pd_11 : parseMethodDescriptor "([BI)B" = some ⟨[(.array .byte), .int], some .byte⟩ := by decide +kernel
def Q_own_new4 (Z : State) (G1 : Int32) (G3 : Value) (a : Addr) (o1 : Int32) (o2 : Value) (b : Addr) (kc : ClassId) (cs : List Int32) (dv : Value) (h0 : Heap) (n0 : Nat) (v : Option Value) (h : Heap) (L : List Loc) : Prop := ∃ (t : Addr), ∃ (kb : ClassId), ∃ (cd : Int32), ∃ (N2 : Int32), ∃ (vs : List Value), v = none ∧ Fr n0 L ∧ Keep h0 h [a] ∧ h0.size ≤ t ∧ own_Es Z h a ∧ own_Sc Z h a (.int cd) ∧ own_Sv Z h a (.ref t) ∧ Arv Z h t kb .byte N2 vs (.int 0) ∧ StrChars.Road.CodA cs cd N2 vs
set_option maxRecDepth 65536 in
set_option maxHeartbeats 40000000 in
theorem own_new4 (l : Launch) (Z : State) (a0 : Array Value) (hw : own_HW a0 Z) (ws : List Jvm.Cond) (G1 : Int32) (G3 : Value) (a : Addr) (o1 : Int32) (o2 : Value) (b : Addr) (kc : ClassId) (cs : List Int32) (dv : Value) (h0 : Heap) (n0 : Nat) (Z0 : n0 ≤ h0.size) (O2 : own_O2 Z G1) (O4 : own_O4 Z G3) (P5 : ¬ (G1 = (0 : Int32))) (rG3 : G3.isRef = true) (OLD0 : Old Z n0 h0) (U1 : own_U0 Z) (U2 : own_U1 Z) (U3 : own_U2 Z) (E_a : own_Es Z h0 a) (ge_a : n0 ≤ a) (F_coder_a : own_Sc Z h0 a (.int o1)) (F_value_a : own_Sv Z h0 a o2) (V_b : Arv Z h0 b kc .char (Int32.ofNat cs.length) (cs.map Value.int) dv) (hcs : own_R16 cs) (h0l : 0 < cs.length) (hl : cs.length ≤ 400) :
    own_Met l Z ⟨"java/lang/String", "<init>", "([CIILjava/lang/Void;)V"⟩ jdk_42_method_149_code 6 none ws ⟨4, 2, 3 * cs.length, 57⟩ #[(.ref a), (.ref b), (.int (0 : Int32)), (.int (Int32.ofNat cs.length)), .null] h0 (Q_own_new4 Z G1 G3 a o1 o2 b kc cs dv h0 n0) := by
  refine own_bodyN (g0 := fun m => mkF m 0 #[sR a, sR b, sI 0, sI (Int32.ofNat cs.length), .val .null, .unset] []) (plainFor_of_name pn_1) (fun _ => rfl) ?_
  intro p e s m below meth c s₁ hx hby hml hrt hlk hown hnm hZ e0 X0
  have D := own_d hby kD4
  have ty_a_b : a ≠ b := (Exa.neArv E_a V_b (w10 hw))
  refine own_step (g' := (mkF m 1 #[sR a, sR b, sI 0, sI (Int32.ofNat cs.length), .val .null, .unset] [(.ref a)])) (fun _ q => XS.aloadN X0.here hx rfl (D 0) rfl rfl q) ?_
  obtain ⟨T104, X104, e104, st104⟩ := initO X0 hx hZ hown (w19 hw) (w20 hw) (w21 hw) e0 (g := (mkF m 1 #[sR a, sR b, sI 0, sI (Int32.ofNat cs.length), .val .null, .unset] [(.ref a)])) rfl (by rw [hml]; rfl) rfl (D 1) (Nat.le_of_ble_eq_true rfl) (W := 0) (by show 2 * 0 + _ ≤ _; exact Nat.le_of_eq rfl) (Nat.le_of_ble_eq_true rfl)
  refine own_step (T' := T104) (g' := (mkF m 4 #[sR a, sR b, sI 0, sI (Int32.ofNat cs.length), .val .null, .unset] [])) st104 ?_
  refine own_step (g' := (mkF m 5 #[sR a, sR b, sI 0, sI (Int32.ofNat cs.length), .val .null, .unset] [(.int (Int32.ofNat cs.length))])) (fun _ q => XS.iloadN X104.here hx rfl (D 2) rfl q) ?_
  have hc105 : ¬ ((Int32.ofNat cs.length) = 0) := fun q => absurd (by have := congrArg Int32.toInt q; rw [own_toInt (by omega)] at this; exact Int.ofNat.inj this : cs.length = 0) (by omega)
  refine own_step (g' := (mkF m 27 #[sR a, sR b, sI 0, sI (Int32.ofNat cs.length), .val .null, .unset] [])) (fun _ q => XS.ifYes X104.here hx rfl (pc0 := 5) (pc' := 27) rfl (D 3) rfl (XT.i0_ne_t hc105) (by decide) (by decide) q) ?_
  obtain ⟨T106, X106, e106, st106⟩ := getS2 X104 hx hZ hown (host := "") (Or.inl (w22 hw)) Via.refl e104 (O2.ext OLD0.2) (g := (mkF m 27 #[sR a, sR b, sI 0, sI (Int32.ofNat cs.length), .val .null, .unset] [])) rfl (D 4)
  refine own_step (T' := T106) (g' := (mkF m 30 #[sR a, sR b, sI 0, sI (Int32.ofNat cs.length), .val .null, .unset] [(.int G1)])) st106 ?_
  have hc107 : ¬ (G1 = 0) := P5
  refine own_step (g' := (mkF m 36 #[sR a, sR b, sI 0, sI (Int32.ofNat cs.length), .val .null, .unset] [(.int (Int32.ofNat cs.length)), (.int 0), (.ref b)])) (fun _ q => XS.ifNo X106.here hx rfl (D 5) rfl (XT.i0_eq_f hc107) (XS.aloadN X106.here hx rfl (D 6) rfl rfl (XS.iloadN X106.here hx rfl (D 7) rfl (XS.iloadN X106.here hx rfl (D 8) rfl q)))) ?_
  refine own_callS X106 hx hZ hown (w23 hw) (w24 hw) (w25 hw) (w26 hw) (by decide) (own_bO (W := 0) (own_cmp3 l Z a0 hw [] G1 G3 b kc cs dv h0 n0 Z0 O2 O4 P5 rG3 OLD0 U1 U2 U3 V_b hcs hl) hZ (w26 hw) (w25 hw) rfl rfl) e106  (by first | decide | (dsimp only; omega)) (by first | decide | (dsimp only; omega)) (argsL := [(.ref b), (.int (0 : Int32)), (.int (Int32.ofNat cs.length))]) (rest := []) rfl hml.symm (lenOf pd_10 rfl) rfl rfl (own_w0 rfl rfl) (D 9) ?_
  rintro _ T108 L108 X108 ⟨t108, kb108, cd108, N2108, vs108, rfl, N108q, K108, f0_108, f1_108, p0_108⟩
  have n0_109 : n0 ≤ t108 := Nat.le_trans Z0 f0_108
  have sz0_110 := Nat.le_trans (Keep.refl h0 [a]).1 f0_108
  have ne111 : a ≠ t108 := own_ne E_a.lt f0_108
  have ne112 : b ≠ t108 := own_ne V_b.lt f0_108
  have lt113 := f1_108.lt
  have N114 := Fr.app (Fr.nil n0) N108q
  refine own_step (g' := (mkF m 45 #[sR a, sR b, sI 0, sI (Int32.ofNat cs.length), .val .null, sR t108] [(.int (Int32.ofNat cs.length)), (.ref t108), (.ref a)])) (fun _ q => XS.astore X108.here hx rfl (D 10) rfl rfl (l' := #[sR a, sR b, sI 0, sI (Int32.ofNat cs.length), .val .null, sR t108]) rfl (XS.aloadN X108.here hx rfl (D 11) rfl rfl (XS.aload X108.here hx rfl (D 12) rfl rfl (XS.iloadN X108.here hx rfl (D 13) rfl q)))) ?_
  have c115 := (Nat.le_trans Z0 K108.1)
  refine own_callS X108 hx hZ hown (w31 hw) (w32 hw) (w25 hw) (w33 hw) (by decide) (own_bO (W := 1) (own_cfal l Z a0 hw [] t108 kb108 N2108 vs108 cs cd108 T108.heap n0 c115 f1_108 (p0_108 : StrChars.Road.CodA cs cd108 N2108 vs108) h0l hl) hZ (w33 hw) (w25 hw) rfl rfl) rfl  (by first | decide | (dsimp only; omega)) (by first | decide | (dsimp only; omega)) (argsL := [(.ref t108), (.int (Int32.ofNat cs.length))]) (rest := [(.ref a)]) rfl hml.symm (lenOf pd_11 rfl) rfl rfl (own_w0 rfl rfl) (D 14) ?_
  rintro _ T116 L116 X116 ⟨rfl, N116q, e116⟩
  have N117 := Fr.app N114 N116q
  have c118 := (E_a.keep K108)
  have c119 := (F_coder_a.keep K108 nin0)
  obtain ⟨T120, h120, X120, e120, W120, st120⟩ := putFN X116 hx hZ hown (w34 hw) Via.refl e116 c119 c118 (Or.inr ⟨(w35 hw), rfl, hnm⟩) (w10 hw) (ty := .byte) (v' := (.int cd108)) (by decide) (own_narB p0_108) (own_fitB p0_108) (g := (mkF m 48 #[sR a, sR b, sI 0, sI (Int32.ofNat cs.length), .val .null, sR t108] [(.int cd108), (.ref a)])) rfl rfl (D 15)
  have F121 := c119.same W120
  have N122 := Fr.snoc X120 N117 ge_a
  refine own_step (T' := T120) (g' := (mkF m 51 #[sR a, sR b, sI 0, sI (Int32.ofNat cs.length), .val .null, sR t108] [])) st120 ?_
  refine own_step (g' := (mkF m 54 #[sR a, sR b, sI 0, sI (Int32.ofNat cs.length), .val .null, sR t108] [(.ref t108), (.ref a)])) (fun _ q => XS.aloadN X120.here hx rfl (D 16) rfl rfl (XS.aload X120.here hx rfl (D 17) rfl rfl q)) ?_
  have c123 := (c118.wr W120)
  have c124 := ((F_value_a.keep K108 nin0).other W120 (Or.inr (RoadKit.slot_ne (t := (.array .byte)) (t' := .byte) (Or.inr (w37 hw)) (Or.inr (w35 hw)) (by decide) (by decide) (by decide))))
  refine own_pF X120 hx hZ hown (w36 hw) e120 c124 c123 (Or.inr ⟨(w37 hw), rfl, hnm⟩) (w10 hw) (ty := (.array .byte)) (by decide) rfl rfl rfl rfl (D 18) fun T125 h125 X125 e125 W125 F126 => ?_
  have N127 := Fr.snoc X125 N122 ge_a
  have c128 := ((((Keep.refl h0 [a]).trans K108 all0).wr W120 (Or.inl (List.mem_of_getElem? (i := 0) rfl))).wr W125 (Or.inl (List.mem_of_getElem? (i := 0) rfl)))
  have c129 := (c123.wr W125)
  have c130 := (F121.other W125 (Or.inr (RoadKit.slot_ne (t := .byte) (t' := (.array .byte)) (Or.inr (w35 hw)) (Or.inr (w37 hw)) (by decide) (by decide) (by decide))))
  have c131 := ((f1_108.other W120 (Ne.symm ne111)).other W125 (Ne.symm ne111))
  exact own_retV X125 hx hrt (D 19) hlk (by rw [e125]; exact ⟨t108, kb108, cd108, N2108, vs108, rfl, N127, c128, sz0_110, c129, c130, F126, c131, p0_108⟩) (by first | decide | (dsimp only; omega)) (by first | decide | (dsimp only; omega))
theorem pd_12 : parseMethodDescriptor "([CIILjava/lang/Void;)V" = some ⟨[(.array .char), .int, .int, (.object "java/lang/Void")], none⟩ := by decide +kernel
def Q_own_new1 (Z : State) (G1 : Int32) (G3 : Value) (a : Addr) (o1 : Int32) (o2 : Value) (b : Addr) (kc : ClassId) (cs : List Int32) (dv : Value) (h0 : Heap) (n0 : Nat) (v : Option Value) (h : Heap) (L : List Loc) : Prop := ∃ (t : Addr), ∃ (kb : ClassId), ∃ (cd : Int32), ∃ (N2 : Int32), ∃ (vs : List Value), v = none ∧ Fr n0 L ∧ Keep h0 h [a] ∧ h0.size ≤ t ∧ own_Es Z h a ∧ own_Sc Z h a (.int cd) ∧ own_Sv Z h a (.ref t) ∧ Arv Z h t kb .byte N2 vs (.int 0) ∧ StrChars.Road.CodA cs cd N2 vs
set_option maxRecDepth 65536 in
set_option maxHeartbeats 40000000 in
theorem own_new1 (l : Launch) (Z : State) (a0 : Array Value) (hw : own_HW a0 Z) (ws : List Jvm.Cond) (G1 : Int32) (G3 : Value) (a : Addr) (o1 : Int32) (o2 : Value) (b : Addr) (kc : ClassId) (cs : List Int32) (dv : Value) (h0 : Heap) (n0 : Nat) (Z0 : n0 ≤ h0.size) (O2 : own_O2 Z G1) (O4 : own_O4 Z G3) (P5 : ¬ (G1 = (0 : Int32))) (rG3 : G3.isRef = true) (OLD0 : Old Z n0 h0) (U1 : own_U0 Z) (U2 : own_U1 Z) (U3 : own_U2 Z) (E_a : own_Es Z h0 a) (ge_a : n0 ≤ a) (F_coder_a : own_Sc Z h0 a (.int o1)) (F_value_a : own_Sv Z h0 a o2) (V_b : Arv Z h0 b kc .char (Int32.ofNat cs.length) (cs.map Value.int) dv) (hcs : own_R16 cs) (h0l : 0 < cs.length) (hl : cs.length ≤ 400) :
    own_Met l Z ⟨"java/lang/String", "<init>", "([C)V"⟩ jdk_42_method_3_code 2 none ws ⟨5, 2, 3 * cs.length, 74⟩ #[(.ref a), (.ref b)] h0 (Q_own_new1 Z G1 G3 a o1 o2 b kc cs dv h0 n0) := by
  refine own_bodyN (g0 := fun m => mkF m 0 #[sR a, sR b] []) (plainFor_of_name pn_1) (fun _ => rfl) ?_
  intro p e s m below meth c s₁ hx hby hml hrt hlk hown hnm hZ e0 X0
  have D := own_d hby kD3
  have ty_a_b : a ≠ b := (Exa.neArv E_a V_b (w10 hw))
  refine own_step (g' := (mkF m 6 #[sR a, sR b] [.null, (.int (Int32.ofNat cs.length)), (.int 0), (.ref b), (.ref a)])) (fun _ q => XS.aloadN X0.here hx rfl (D 0) rfl rfl (XS.aloadN X0.here hx rfl (D 1) rfl rfl (XS.iconst X0.here hx rfl (D 2) (XS.aloadN X0.here hx rfl (D 3) rfl rfl (own_len X0 hx hZ e0 V_b (g := (mkF m 4 #[sR a, sR b] [(.ref b), (.int 0), (.ref b), (.ref a)])) rfl rfl (D 4) _ (XS.aconstNull X0.here hx rfl (D 5) q)))))) ?_
  refine own_callC X0 hx hZ hown rfl (w15 hw) (w16 hw) (w18 hw) (by decide) (own_bO (W := 0) (own_new4 l Z a0 hw [] G1 G3 a o1 o2 b kc cs dv h0 n0 Z0 O2 O4 P5 rG3 OLD0 U1 U2 U3 E_a ge_a F_coder_a F_value_a V_b hcs h0l hl) hZ (w18 hw) (w11 hw) rfl rfl) e0  (by first | decide | (dsimp only; omega)) (by first | decide | (dsimp only; omega)) (argsL := [(.ref b), (.int (0 : Int32)), (.int (Int32.ofNat cs.length)), .null]) (rest := []) rfl hml.symm (lenOf pd_12 rfl) rfl rfl (own_w0 rfl rfl) (D 6) ?_
  rintro _ T132 L132 X132 ⟨t132, kb132, cd132, N2132, vs132, rfl, N132q, K132, f0_132, f1_132, f2_132, f3_132, f4_132, p0_132⟩
  have n0_133 : n0 ≤ t132 := Nat.le_trans Z0 f0_132
  have sz0_134 := Nat.le_trans (Keep.refl h0 [a]).1 f0_132
  have ne135 : a ≠ t132 := own_ne E_a.lt f0_132
  have ne136 : b ≠ t132 := own_ne V_b.lt f0_132
  have lt137 := f4_132.lt
  have N138 := Fr.app (Fr.nil n0) N132q
  have c139 := ((Keep.refl h0 [a]).trans K132 (allS (Or.inl (List.mem_of_getElem? (i := 0) rfl)) all0))
  exact own_retV X132 hx hrt (D 7) hlk ⟨t132, kb132, cd132, N2132, vs132, rfl, N138, c139, sz0_134, f1_132, f2_132, f3_132, f4_132, p0_132⟩ (by first | decide | (dsimp only; omega)) (by first | decide | (dsimp only; omega))
def Q_own_cod (Z : State) (G1 : Int32) (G3 : Value) (a : Addr) (cd : Int32) (h0 : Heap) (n0 : Nat) (v : Option Value) (h : Heap) (L : List Loc) : Prop := v = some (.int cd) ∧ Fr n0 L ∧ h = h0
set_option maxRecDepth 65536 in
set_option maxHeartbeats 40000000 in
theorem own_cod (l : Launch) (Z : State) (a0 : Array Value) (hw : own_HW a0 Z) (ws : List Jvm.Cond) (G1 : Int32) (G3 : Value) (a : Addr) (cd : Int32) (h0 : Heap) (n0 : Nat) (Z0 : n0 ≤ h0.size) (O2 : own_O2 Z G1) (O4 : own_O4 Z G3) (P5 : ¬ (G1 = (0 : Int32))) (rG3 : G3.isRef = true) (OLD0 : Old Z n0 h0) (F_coder_a : own_Sc Z h0 a (.int cd)) (hn : nar .byte cd = cd) :
    own_Met l Z ⟨"java/lang/String", "coder", "()B"⟩ jdk_42_method_152_code 1 (some .byte) ws ⟨0, 0, 0, 0⟩ #[(.ref a)] h0 (Q_own_cod Z G1 G3 a cd h0 n0) := by
  refine own_bodyN (g0 := fun m => mkF m 0 #[sR a] []) (plainFor_of_name pn_1) (fun _ => rfl) ?_
  intro p e s m below meth c s₁ hx hby hml hrt hlk hown hnm hZ e0 X0
  have D := own_d hby kD14
  obtain ⟨T140, X140, e140, st140⟩ := getS2 X0 hx hZ hown (host := "") (Or.inl (w22 hw)) Via.refl e0 (O2.ext OLD0.2) (g := (mkF m 0 #[sR a] [])) rfl (D 0)
  refine own_step (T' := T140) (g' := (mkF m 3 #[sR a] [(.int G1)])) st140 ?_
  have hc141 : ¬ (G1 = 0) := P5
  refine own_step (g' := (mkF m 7 #[sR a] [(.ref a)])) (fun _ q => XS.ifNo X140.here hx rfl (D 1) rfl (XT.i0_eq_f hc141) (XS.aloadN X140.here hx rfl (D 2) rfl rfl q)) ?_
  refine own_gF X140 hx hZ hown (w34 hw) e140 F_coder_a rfl rfl (D 3) fun T142 X142 e142 => ?_
  refine own_step (g' := (mkF m 14 #[sR a] [(.int cd)])) (fun _ q => XS.goto X142.here hx rfl (pc0 := 10) (pc' := 14) rfl (D 4) (by decide) (by decide) q) ?_
  exact own_retN X142 hx hrt (by simp) (D 5) hlk ⟨(by rw [hn]), (Fr.nil n0), e142⟩ (by decide) (by decide)
theorem pd_13 : parseMethodDescriptor "()B" = some ⟨[], some .byte⟩ := by decide +kernel
def Q_own_l8 (Z : State) (G1 : Int32) (G3 : Value) (tx t : Addr) (kb : ClassId) (cd N2 : Int32) (vs : List Value) (cs : List Int32) (h0 : Heap) (n0 : Nat) (v : Option Value) (h : Heap) (L : List Loc) : Prop := v = some (.int (8 : Int32)) ∧ Fr n0 L ∧ h = h0
set_option maxRecDepth 65536 in
set_option maxHeartbeats 40000000 in
theorem own_l8 (l : Launch) (Z : State) (a0 : Array Value) (hw : own_HW a0 Z) (ws : List Jvm.Cond) (G1 : Int32) (G3 : Value) (tx t : Addr) (kb : ClassId) (cd N2 : Int32) (vs : List Value) (cs : List Int32) (h0 : Heap) (n0 : Nat) (Z0 : n0 ≤ h0.size) (O2 : own_O2 Z G1) (O4 : own_O4 Z G3) (P5 : ¬ (G1 = (0 : Int32))) (rG3 : G3.isRef = true) (OLD0 : Old Z n0 h0) (E_tx : own_Es Z h0 tx) (F_value_tx : own_Sv Z h0 tx (.ref t)) (F_coder_tx : own_Sc Z h0 tx (.int cd)) (V_t : Arv Z h0 t kb .byte N2 vs (.int 0)) (hcod : StrChars.Road.CodA cs cd N2 vs) (hcs : own_R16 cs) (h8 : cs.length = 8) :
    own_Met l Z ⟨"java/lang/String", "length", "()I"⟩ jdk_42_method_54_code 1 (some .int) ws ⟨1, 0, 0, 13⟩ #[(.ref tx)] h0 (Q_own_l8 Z G1 G3 tx t kb cd N2 vs cs h0 n0) := by
  refine own_bodyN (g0 := fun m => mkF m 0 #[sR tx] []) (plainFor_of_name pn_1) (fun _ => rfl) ?_
  intro p e s m below meth c s₁ hx hby hml hrt hlk hown hnm hZ e0 X0
  have D := own_d hby kD13
  have ty_tx_t : tx ≠ t := (Exa.neArv E_tx V_t (w10 hw))
  refine own_step (g' := (mkF m 1 #[sR tx] [(.ref tx)])) (fun _ q => XS.aloadN X0.here hx rfl (D 0) rfl rfl q) ?_
  refine own_gF X0 hx hZ hown (w36 hw) e0 F_value_tx rfl rfl (D 1) fun T143 X143 e143 => ?_
  refine own_step (g' := (mkF m 6 #[sR tx] [(.ref tx), (.int N2)])) (fun _ q => own_len X143 hx hZ e143 V_t (g := (mkF m 4 #[sR tx] [(.ref t)])) rfl rfl (D 2) _ (XS.aloadN X143.here hx rfl (D 3) rfl rfl q)) ?_
  refine own_callV X143 hx hZ hown (w68 hw) (w69 hw) (notFace_of_selects (args := #[]) (mvT hZ (w71 hw))) (w71 hw) (w70 hw) (by decide) (own_bO (W := 1) (own_cod l Z a0 hw [] G1 G3 tx cd h0 n0 Z0 O2 O4 P5 rG3 OLD0 F_coder_tx (by rcases own_CodA.cd hcod with rfl | rfl <;> rfl : nar .byte cd = cd)) hZ (w72 hw) (w11 hw) rfl rfl) e143 E_tx  (by decide) (by decide) (argsL := []) (rest := [(.int N2)]) rfl hml.symm (lenOf pd_13 rfl) rfl rfl (own_w0 rfl rfl) (D 4) ?_
  rintro _ T144 L144 X144 ⟨rfl, N144q, e144⟩
  have N145 := Fr.app (Fr.nil n0) N144q
  refine own_step (g' := (mkF m 10 #[sR tx] [(.int (N2 >>> (cd &&& 31)))])) (fun _ q => XT.ishr X144.here hx rfl (D 5) rfl q) ?_
  rw [show (N2 >>> (cd &&& 31)) = (8 : Int32) from (own_len8 hcod h8)]
  exact own_retI X144 hx hrt (D 6) hlk ⟨rfl, N145, e144⟩ (by decide) (by decide)
def Q_own_char (Z : State) (G1 : Int32) (G3 : Value) (a t : Addr) (kb : ClassId) (cd N2 : Int32) (vs : List Value) (cs : List Int32) (i : Nat) (h0 : Heap) (n0 : Nat) (v : Option Value) (h : Heap) (L : List Loc) : Prop := v = some (.int (cs.getD i 0)) ∧ Fr n0 L ∧ h = h0
set_option maxRecDepth 65536 in
set_option maxHeartbeats 40000000 in
theorem own_char (l : Launch) (Z : State) (a0 : Array Value) (hw : own_HW a0 Z) (ws : List Jvm.Cond) (G1 : Int32) (G3 : Value) (a t : Addr) (kb : ClassId) (cd N2 : Int32) (vs : List Value) (cs : List Int32) (i : Nat) (h0 : Heap) (n0 : Nat) (Z0 : n0 ≤ h0.size) (O2 : own_O2 Z G1) (O4 : own_O4 Z G3) (P5 : ¬ (G1 = (0 : Int32))) (rG3 : G3.isRef = true) (OLD0 : Old Z n0 h0) (U1 : own_U0 Z) (U2 : own_U1 Z) (U3 : own_U2 Z) (E_a : own_Es Z h0 a) (F_value_a : own_Sv Z h0 a (.ref t)) (F_coder_a : own_Sc Z h0 a (.int cd)) (V_t : Arv Z h0 t kb .byte N2 vs (.int 0)) (hcod : StrChars.Road.CodA cs cd N2 vs) (hcs : own_R16 cs) (hl : cs.length ≤ 400) (hi : i < cs.length) :
    own_Met l Z ⟨"java/lang/String", "charAt", "(I)C"⟩ jdk_42_method_56_code 2 (some .char) ws ⟨4, 0, 0, 53⟩ #[(.ref a), (.int (Int32.ofNat i))] h0 (Q_own_char Z G1 G3 a t kb cd N2 vs cs i h0 n0) := by
  rcases hcod with ⟨rfl, rfl, rfl, h255⟩ | ⟨rfl, rfl, rfl, -⟩
  · exact own_charL l Z a0 hw ws G1 G3 a t kb cs i h0 n0 Z0 O2 O4 P5 rG3 OLD0 U1 U2 U3 E_a F_value_a F_coder_a V_t hcs hl h255 hi
  · exact own_charU l Z a0 hw ws G1 G3 a t kb cs i h0 n0 Z0 O2 O4 P5 rG3 OLD0 U1 U2 U3 E_a F_value_a F_coder_a V_t hcs hl hi
theorem pn_4 : plainName "com/example/tote/tote/JsonText" = true := by first | (simp [plainName, overriddenIn]; done) | decide +kernel
def Q_own_isd1 (Z : State) (z : Int32) (h0 : Heap) (n0 : Nat) (v : Option Value) (h : Heap) (L : List Loc) : Prop := v = some (.int (1 : Int32)) ∧ Fr n0 L ∧ h = h0
set_option maxRecDepth 65536 in
set_option maxHeartbeats 40000000 in
theorem own_isd1 (l : Launch) (Z : State) (a0 : Array Value) (hw : own_HW a0 Z) (ws : List Jvm.Cond) (z : Int32) (h0 : Heap) (n0 : Nat) (Z0 : n0 ≤ h0.size) (hz : ¬ z < (48 : Int32) ∧ ¬ (57 : Int32) < z) :
    own_Met l Z ⟨"com/example/tote/tote/JsonText", "isDigit", "(C)Z"⟩ prog_12_method_17_code 1 (some .boolean) ws ⟨0, 0, 0, 0⟩ #[(.int z)] h0 (Q_own_isd1 Z z h0 n0) := by
  refine own_bodyN (g0 := fun m => mkF m 0 #[sI z] []) (plainFor_of_name pn_4) (fun _ => rfl) ?_
  intro p e s m below meth c s₁ hx hby hml hrt hlk hown hnm hZ e0 X0
  have D := own_d hby kD31
  refine own_step (g' := (mkF m 3 #[sI z] [(.int 48), (.int z)])) (fun _ q => XS.iloadN X0.here hx rfl (D 0) rfl (XS.bipush X0.here hx rfl (D 1) q)) ?_
  have hc146 : ¬ (z < (48 : Int32)) := hz.1
  refine own_step (g' := (mkF m 9 #[sI z] [(.int 57), (.int z)])) (fun _ q => XS.icmpNo X0.here hx rfl (D 2) rfl (XT.ii_lt_f hc146) (XS.iloadN X0.here hx rfl (D 3) rfl (XS.bipush X0.here hx rfl (D 4) q))) ?_
  have hc147 : ¬ ((57 : Int32) < z) := hz.2
  refine own_step (g' := (mkF m 17 #[sI z] [(.int 1)])) (fun _ q => XS.icmpNo X0.here hx rfl (D 5) rfl (XT.ii_gt_f hc147) (XS.iconst X0.here hx rfl (D 6) (XS.goto X0.here hx rfl (pc0 := 13) (pc' := 17) rfl (D 7) (by decide) (by decide) q))) ?_
  exact own_retN X0 hx hrt (by simp) (D 9) hlk ⟨rfl, (Fr.nil n0), e0⟩ (by decide) (by decide)
def Q_own_isd0 (Z : State) (z : Int32) (h0 : Heap) (n0 : Nat) (v : Option Value) (h : Heap) (L : List Loc) : Prop := v = some (.int (0 : Int32)) ∧ Fr n0 L ∧ h = h0
set_option maxRecDepth 65536 in
set_option maxHeartbeats 40000000 in
theorem own_isd0 (l : Launch) (Z : State) (a0 : Array Value) (hw : own_HW a0 Z) (ws : List Jvm.Cond) (z : Int32) (h0 : Heap) (n0 : Nat) (Z0 : n0 ≤ h0.size) (hz : ¬ (¬ z < (48 : Int32) ∧ ¬ (57 : Int32) < z)) :
    own_Met l Z ⟨"com/example/tote/tote/JsonText", "isDigit", "(C)Z"⟩ prog_12_method_17_code 1 (some .boolean) ws ⟨0, 0, 0, 0⟩ #[(.int z)] h0 (Q_own_isd0 Z z h0 n0) := by
  refine own_bodyN (g0 := fun m => mkF m 0 #[sI z] []) (plainFor_of_name pn_4) (fun _ => rfl) ?_
  intro p e s m below meth c s₁ hx hby hml hrt hlk hown hnm hZ e0 X0
  have D := own_d hby kD31
  refine own_step (g' := (mkF m 3 #[sI z] [(.int 48), (.int z)])) (fun _ q => XS.iloadN X0.here hx rfl (D 0) rfl (XS.bipush X0.here hx rfl (D 1) q)) ?_
  by_cases hc148 : z < (48 : Int32)
  · refine own_step (g' := (mkF m 17 #[sI z] [(.int 0)])) (fun _ q => XS.icmpYes X0.here hx rfl (pc0 := 3) (pc' := 16) rfl (D 2) rfl (XT.ii_lt_t hc148) (by decide) (by decide) (XS.iconst X0.here hx rfl (D 8) q)) ?_
    exact own_retN X0 hx hrt (by simp) (D 9) hlk ⟨rfl, (Fr.nil n0), e0⟩ (by decide) (by decide)
  · refine own_step (g' := (mkF m 9 #[sI z] [(.int 57), (.int z)])) (fun _ q => XS.icmpNo X0.here hx rfl (D 2) rfl (XT.ii_lt_f hc148) (XS.iloadN X0.here hx rfl (D 3) rfl (XS.bipush X0.here hx rfl (D 4) q))) ?_
    have hc149 : ((57 : Int32) < z) := (Classical.byContradiction fun q => hz ⟨hc148, q⟩)
    refine own_step (g' := (mkF m 17 #[sI z] [(.int 0)])) (fun _ q => XS.icmpYes X0.here hx rfl (pc0 := 9) (pc' := 16) rfl (D 5) rfl (XT.ii_gt_t hc149) (by decide) (by decide) (XS.iconst X0.here hx rfl (D 8) q)) ?_
    exact own_retN X0 hx hrt (by simp) (D 9) hlk ⟨rfl, (Fr.nil n0), e0⟩ (by decide) (by decide)
theorem pn_5 : plainName "java/lang/Character" = true := by first | (simp [plainName, overriddenIn]; done) | decide +kernel
def Q_own_isHighSurrogate1 (Z : State) (z : Int32) (h0 : Heap) (n0 : Nat) (v : Option Value) (h : Heap) (L : List Loc) : Prop := v = some (.int (1 : Int32)) ∧ Fr n0 L ∧ h = h0
set_option maxRecDepth 65536 in
set_option maxHeartbeats 40000000 in
theorem own_isHighSurrogate1 (l : Launch) (Z : State) (a0 : Array Value) (hw : own_HW a0 Z) (ws : List Jvm.Cond) (z : Int32) (h0 : Heap) (n0 : Nat) (Z0 : n0 ≤ h0.size) (hz : ¬ z < (55296 : Int32) ∧ z < (56320 : Int32)) :
    own_Met l Z ⟨"java/lang/Character", "isHighSurrogate", "(C)Z"⟩ jdk_89_method_14_code 1 (some .boolean) ws ⟨0, 0, 0, 0⟩ #[(.int z)] h0 (Q_own_isHighSurrogate1 Z z h0 n0) := by
  refine own_bodyN (g0 := fun m => mkF m 0 #[sI z] []) (plainFor_of_name pn_5) (fun _ => rfl) ?_
  intro p e s m below meth c s₁ hx hby hml hrt hlk hown hnm hZ e0 X0
  have D := own_d hby kD29
  refine own_step (g' := (mkF m 3 #[sI z] [(.int 55296), (.int z)])) (fun _ q => XS.iloadN X0.here hx rfl (D 0) rfl (X0.ldcInt hx hown (mvT hZ (w135 hw)) (g := (mkF m 1 #[sI z] [(.int z)])) rfl (D 1) _ q)) ?_
  have hc150 : ¬ (z < (55296 : Int32)) := hz.1
  refine own_step (g' := (mkF m 9 #[sI z] [(.int 56320), (.int z)])) (fun _ q => XS.icmpNo X0.here hx rfl (D 2) rfl (XT.ii_lt_f hc150) (XS.iloadN X0.here hx rfl (D 3) rfl (X0.ldcInt hx hown (mvT hZ (w187 hw)) (g := (mkF m 7 #[sI z] [(.int z)])) rfl (D 4) _ q))) ?_
  have hc151 : (z < (56320 : Int32)) := hz.2
  refine own_step (g' := (mkF m 17 #[sI z] [(.int 1)])) (fun _ q => XS.icmpNo X0.here hx rfl (D 5) rfl (XT.ii_ge_f hc151) (XS.iconst X0.here hx rfl (D 6) (XS.goto X0.here hx rfl (pc0 := 13) (pc' := 17) rfl (D 7) (by decide) (by decide) q))) ?_
  exact own_retN X0 hx hrt (by simp) (D 9) hlk ⟨rfl, (Fr.nil n0), e0⟩ (by decide) (by decide)
def Q_own_isHighSurrogate0 (Z : State) (z : Int32) (h0 : Heap) (n0 : Nat) (v : Option Value) (h : Heap) (L : List Loc) : Prop := v = some (.int (0 : Int32)) ∧ Fr n0 L ∧ h = h0
set_option maxRecDepth 65536 in
set_option maxHeartbeats 40000000 in
theorem own_isHighSurrogate0 (l : Launch) (Z : State) (a0 : Array Value) (hw : own_HW a0 Z) (ws : List Jvm.Cond) (z : Int32) (h0 : Heap) (n0 : Nat) (Z0 : n0 ≤ h0.size) (hz : ¬ (¬ z < (55296 : Int32) ∧ z < (56320 : Int32))) :
    own_Met l Z ⟨"java/lang/Character", "isHighSurrogate", "(C)Z"⟩ jdk_89_method_14_code 1 (some .boolean) ws ⟨0, 0, 0, 0⟩ #[(.int z)] h0 (Q_own_isHighSurrogate0 Z z h0 n0) := by
  refine own_bodyN (g0 := fun m => mkF m 0 #[sI z] []) (plainFor_of_name pn_5) (fun _ => rfl) ?_
  intro p e s m below meth c s₁ hx hby hml hrt hlk hown hnm hZ e0 X0
  have D := own_d hby kD29
  refine own_step (g' := (mkF m 3 #[sI z] [(.int 55296), (.int z)])) (fun _ q => XS.iloadN X0.here hx rfl (D 0) rfl (X0.ldcInt hx hown (mvT hZ (w135 hw)) (g := (mkF m 1 #[sI z] [(.int z)])) rfl (D 1) _ q)) ?_
  by_cases hc152 : z < (55296 : Int32)
  · refine own_step (g' := (mkF m 17 #[sI z] [(.int 0)])) (fun _ q => XS.icmpYes X0.here hx rfl (pc0 := 3) (pc' := 16) rfl (D 2) rfl (XT.ii_lt_t hc152) (by decide) (by decide) (XS.iconst X0.here hx rfl (D 8) q)) ?_
    exact own_retN X0 hx hrt (by simp) (D 9) hlk ⟨rfl, (Fr.nil n0), e0⟩ (by decide) (by decide)
  · refine own_step (g' := (mkF m 9 #[sI z] [(.int 56320), (.int z)])) (fun _ q => XS.icmpNo X0.here hx rfl (D 2) rfl (XT.ii_lt_f hc152) (XS.iloadN X0.here hx rfl (D 3) rfl (X0.ldcInt hx hown (mvT hZ (w187 hw)) (g := (mkF m 7 #[sI z] [(.int z)])) rfl (D 4) _ q))) ?_
    have hc153 : ¬ (z < (56320 : Int32)) := (fun q => hz ⟨hc152, q⟩)
    refine own_step (g' := (mkF m 17 #[sI z] [(.int 0)])) (fun _ q => XS.icmpYes X0.here hx rfl (pc0 := 9) (pc' := 16) rfl (D 5) rfl (XT.ii_ge_t hc153) (by decide) (by decide) (XS.iconst X0.here hx rfl (D 8) q)) ?_
    exact own_retN X0 hx hrt (by simp) (D 9) hlk ⟨rfl, (Fr.nil n0), e0⟩ (by decide) (by decide)
def Q_own_isLowSurrogate1 (Z : State) (z : Int32) (h0 : Heap) (n0 : Nat) (v : Option Value) (h : Heap) (L : List Loc) : Prop := v = some (.int (1 : Int32)) ∧ Fr n0 L ∧ h = h0
set_option maxRecDepth 65536 in
set_option maxHeartbeats 40000000 in
theorem own_isLowSurrogate1 (l : Launch) (Z : State) (a0 : Array Value) (hw : own_HW a0 Z) (ws : List Jvm.Cond) (z : Int32) (h0 : Heap) (n0 : Nat) (Z0 : n0 ≤ h0.size) (hz : ¬ z < (56320 : Int32) ∧ z < (57344 : Int32)) :
    own_Met l Z ⟨"java/lang/Character", "isLowSurrogate", "(C)Z"⟩ jdk_89_method_15_code 1 (some .boolean) ws ⟨0, 0, 0, 0⟩ #[(.int z)] h0 (Q_own_isLowSurrogate1 Z z h0 n0) := by
  refine own_bodyN (g0 := fun m => mkF m 0 #[sI z] []) (plainFor_of_name pn_5) (fun _ => rfl) ?_
  intro p e s m below meth c s₁ hx hby hml hrt hlk hown hnm hZ e0 X0
  have D := own_d hby kD43
  refine own_step (g' := (mkF m 3 #[sI z] [(.int 56320), (.int z)])) (fun _ q => XS.iloadN X0.here hx rfl (D 0) rfl (X0.ldcInt hx hown (mvT hZ (w187 hw)) (g := (mkF m 1 #[sI z] [(.int z)])) rfl (D 1) _ q)) ?_
  have hc154 : ¬ (z < (56320 : Int32)) := hz.1
  refine own_step (g' := (mkF m 9 #[sI z] [(.int 57344), (.int z)])) (fun _ q => XS.icmpNo X0.here hx rfl (D 2) rfl (XT.ii_lt_f hc154) (XS.iloadN X0.here hx rfl (D 3) rfl (X0.ldcInt hx hown (mvT hZ (w191 hw)) (g := (mkF m 7 #[sI z] [(.int z)])) rfl (D 4) _ q))) ?_
  have hc155 : (z < (57344 : Int32)) := hz.2
  refine own_step (g' := (mkF m 17 #[sI z] [(.int 1)])) (fun _ q => XS.icmpNo X0.here hx rfl (D 5) rfl (XT.ii_ge_f hc155) (XS.iconst X0.here hx rfl (D 6) (XS.goto X0.here hx rfl (pc0 := 13) (pc' := 17) rfl (D 7) (by decide) (by decide) q))) ?_
  exact own_retN X0 hx hrt (by simp) (D 9) hlk ⟨rfl, (Fr.nil n0), e0⟩ (by decide) (by decide)
def Q_own_isLowSurrogate0 (Z : State) (z : Int32) (h0 : Heap) (n0 : Nat) (v : Option Value) (h : Heap) (L : List Loc) : Prop := v = some (.int (0 : Int32)) ∧ Fr n0 L ∧ h = h0
def Q_own_isSurrogate1 (Z : State) (z : Int32) (h0 : Heap) (n0 : Nat) (v : Option Value) (h : Heap) (L : List Loc) : Prop := v = some (.int (1 : Int32)) ∧ Fr n0 L ∧ h = h0
def Q_own_isSurrogate0 (Z : State) (z : Int32) (h0 : Heap) (n0 : Nat) (v : Option Value) (h : Heap) (L : List Loc) : Prop := v = some (.int (0 : Int32)) ∧ Fr n0 L ∧ h = h0
set_option maxRecDepth 65536 in
set_option maxHeartbeats 40000000 in
theorem own_isSurrogate0 (l : Launch) (Z : State) (a0 : Array Value) (hw : own_HW a0 Z) (ws : List Jvm.Cond) (z : Int32) (h0 : Heap) (n0 : Nat) (Z0 : n0 ≤ h0.size) (hz : ¬ (¬ z < (55296 : Int32) ∧ z < (57344 : Int32))) :
    own_Met l Z ⟨"java/lang/Character", "isSurrogate", "(C)Z"⟩ jdk_89_method_16_code 1 (some .boolean) ws ⟨0, 0, 0, 0⟩ #[(.int z)] h0 (Q_own_isSurrogate0 Z z h0 n0) := by
  refine own_bodyN (g0 := fun m => mkF m 0 #[sI z] []) (plainFor_of_name pn_5) (fun _ => rfl) ?_
  intro p e s m below meth c s₁ hx hby hml hrt hlk hown hnm hZ e0 X0
  have D := own_d hby kD30
  refine own_step (g' := (mkF m 3 #[sI z] [(.int 55296), (.int z)])) (fun _ q => XS.iloadN X0.here hx rfl (D 0) rfl (X0.ldcInt hx hown (mvT hZ (w135 hw)) (g := (mkF m 1 #[sI z] [(.int z)])) rfl (D 1) _ q)) ?_
  by_cases hc160 : z < (55296 : Int32)
  · refine own_step (g' := (mkF m 17 #[sI z] [(.int 0)])) (fun _ q => XS.icmpYes X0.here hx rfl (pc0 := 3) (pc' := 16) rfl (D 2) rfl (XT.ii_lt_t hc160) (by decide) (by decide) (XS.iconst X0.here hx rfl (D 8) q)) ?_
    exact own_retN X0 hx hrt (by simp) (D 9) hlk ⟨rfl, (Fr.nil n0), e0⟩ (by decide) (by decide)
  · refine own_step (g' := (mkF m 9 #[sI z] [(.int 57344), (.int z)])) (fun _ q => XS.icmpNo X0.here hx rfl (D 2) rfl (XT.ii_lt_f hc160) (XS.iloadN X0.here hx rfl (D 3) rfl (X0.ldcInt hx hown (mvT hZ (w191 hw)) (g := (mkF m 7 #[sI z] [(.int z)])) rfl (D 4) _ q))) ?_
    have hc161 : ¬ (z < (57344 : Int32)) := (fun q => hz ⟨hc160, q⟩)
    refine own_step (g' := (mkF m 17 #[sI z] [(.int 0)])) (fun _ q => XS.icmpYes X0.here hx rfl (pc0 := 9) (pc' := 16) rfl (D 5) rfl (XT.ii_ge_t hc161) (by decide) (by decide) (XS.iconst X0.here hx rfl (D 8) q)) ?_
    exact own_retN X0 hx hrt (by simp) (D 9) hlk ⟨rfl, (Fr.nil n0), e0⟩ (by decide) (by decide)
theorem pd_14 : parseMethodDescriptor "()I" = some ⟨[], some .int⟩ := by decide +kernel
theorem pd_15 : parseMethodDescriptor "(I)C" = some ⟨[.int], some .char⟩ := by decide +kernel
def Q_own_nx1 (Z : State) (G1 : Int32) (G3 : Value) (a tx t : Addr) (kb : ClassId) (cd N2 : Int32) (vs : List Value) (cs : List Int32) (pn : Nat) (z : Int32) (h0 : Heap) (n0 : Nat) (v : Option Value) (h : Heap) (L : List Loc) : Prop := v = some (.int (1 : Int32)) ∧ Fr n0 L ∧ Keep h0 h [a] ∧ own_Ea Z h a ∧ own_Ft Z h a (.ref tx) ∧ own_Fp Z h a (.int (Int32.ofNat (pn + 1)))
set_option maxRecDepth 65536 in
set_option maxHeartbeats 40000000 in
theorem own_nx1 (l : Launch) (Z : State) (a0 : Array Value) (hw : own_HW a0 Z) (ws : List Jvm.Cond) (G1 : Int32) (G3 : Value) (a tx t : Addr) (kb : ClassId) (cd N2 : Int32) (vs : List Value) (cs : List Int32) (pn : Nat) (z : Int32) (h0 : Heap) (n0 : Nat) (Z0 : n0 ≤ h0.size) (O2 : own_O2 Z G1) (O4 : own_O4 Z G3) (P5 : ¬ (G1 = (0 : Int32))) (rG3 : G3.isRef = true) (OLD0 : Old Z n0 h0) (U1 : own_U0 Z) (U2 : own_U1 Z) (U3 : own_U2 Z) (E_a : own_Ea Z h0 a) (F_text_a : own_Ft Z h0 a (.ref tx)) (F_pos_a : own_Fp Z h0 a (.int (Int32.ofNat pn))) (E_tx : own_Es Z h0 tx) (F_value_tx : own_Sv Z h0 tx (.ref t)) (F_coder_tx : own_Sc Z h0 tx (.int cd)) (V_t : Arv Z h0 t kb .byte N2 vs (.int 0)) (hcod : StrChars.Road.CodA cs cd N2 vs) (hcs : own_R16 cs) (h8 : cs.length = 8) (ge_a : n0 ≤ a) (hp : pn < 8) (hq : cs.getD pn 0 = z) :
    own_Met l Z ⟨"com/example/tote/tote/JsonText", "next", "(C)Z"⟩ prog_12_method_16_code 3 (some .boolean) ws ⟨5, 0, 0, 66⟩ #[(.ref a), (.int z)] h0 (Q_own_nx1 Z G1 G3 a tx t kb cd N2 vs cs pn z h0 n0) := by
  refine own_bodyN (g0 := fun m => mkF m 0 #[sR a, sI z, .unset] []) (plainFor_of_name pn_4) (fun _ => rfl) ?_
  intro p e s m below meth c s₁ hx hby hml hrt hlk hown hnm hZ e0 X0
  have D := own_d hby kD46
  have ty_a_tx : a ≠ tx := (Exa.ne E_a E_tx (by decide))
  have ty_a_t : a ≠ t := (Exa.neArv E_a V_t (w50 hw))
  have ty_tx_t : tx ≠ t := (Exa.neArv E_tx V_t (w10 hw))
  refine own_step (g' := (mkF m 1 #[sR a, sI z, .unset] [(.ref a)])) (fun _ q => XS.aloadN X0.here hx rfl (D 0) rfl rfl q) ?_
  refine own_gF X0 hx hZ hown (w61 hw) e0 F_pos_a rfl rfl (D 1) fun T162 X162 e162 => ?_
  refine own_step (g' := (mkF m 5 #[sR a, sI z, .unset] [(.ref a), (.int (Int32.ofNat pn))])) (fun _ q => XS.aloadN X162.here hx rfl (D 2) rfl rfl q) ?_
  refine own_gF X162 hx hZ hown (w55 hw) e162 F_text_a rfl rfl (D 3) fun T163 X163 e163 => ?_
  refine own_callV X163 hx hZ hown (w63 hw) (w64 hw) (notFace_of_selects (args := #[]) (mvT hZ (w66 hw))) (w66 hw) (w65 hw) (by decide) (own_bO (W := 1) (own_l8 l Z a0 hw [] G1 G3 tx t kb cd N2 vs cs h0 n0 Z0 O2 O4 P5 rG3 OLD0 E_tx F_value_tx F_coder_tx V_t hcod hcs h8) hZ (w67 hw) (w11 hw) rfl rfl) e163 E_tx  (by decide) (by decide) (argsL := []) (rest := [(.int (Int32.ofNat pn))]) rfl hml.symm (lenOf pd_14 rfl) rfl rfl (own_w0 rfl rfl) (D 4) ?_
  rintro _ T164 L164 X164 ⟨rfl, N164q, e164⟩
  have N165 := Fr.app (Fr.nil n0) N164q
  have hc166 : ((Int32.ofNat pn) < (8 : Int32)) := (own_lt8 hp)
  refine own_step (g' := (mkF m 15 #[sR a, sI z, .unset] [(.ref a)])) (fun _ q => XS.icmpNo X164.here hx rfl (D 5) rfl (XT.ii_ge_f hc166) (XS.aloadN X164.here hx rfl (D 6) rfl rfl q)) ?_
  refine own_gF X164 hx hZ hown (w55 hw) e164 F_text_a rfl rfl (D 7) fun T167 X167 e167 => ?_
  refine own_step (g' := (mkF m 19 #[sR a, sI z, .unset] [(.ref a), (.ref tx)])) (fun _ q => XS.aloadN X167.here hx rfl (D 8) rfl rfl q) ?_
  refine own_gF X167 hx hZ hown (w61 hw) e167 F_pos_a rfl rfl (D 9) fun T168 X168 e168 => ?_
  refine own_callV X168 hx hZ hown (w74 hw) (w75 hw) (notFace_of_selects (args := #[]) (mvT hZ (w77 hw))) (w77 hw) (w76 hw) (by decide) (own_bO (W := 0) (own_char l Z a0 hw [] G1 G3 tx t kb cd N2 vs cs pn h0 n0 Z0 O2 O4 P5 rG3 OLD0 U1 U2 U3 E_tx F_value_tx F_coder_tx V_t hcod hcs (by omega : cs.length ≤ 400) (by omega : pn < cs.length)) hZ (w78 hw) (w11 hw) rfl rfl) e168 E_tx  (by decide) (by decide) (argsL := [(.int (Int32.ofNat pn))]) (rest := []) rfl hml.symm (lenOf pd_15 rfl) rfl rfl (own_w0 rfl rfl) (D 10) ?_
  rintro _ T169 L169 X169 ⟨rfl, N169q, e169⟩
  have N170 := Fr.app N165 N169q
  refine own_step (g' := (mkF m 26 #[sR a, sI z, .unset] [(.int z), (.int (cs.getD pn 0))])) (fun _ q => XS.iloadN X169.here hx rfl (D 11) rfl q) ?_
  have hc171 : ((cs.getD pn 0) = z) := hq
  refine own_step (g' := (mkF m 41 #[sR a, sI z, sI 1] [(.ref a), (.ref a)])) (fun _ q => XS.icmpNo X169.here hx rfl (D 12) rfl (XT.ii_ne_f hc171) (XS.iconst X169.here hx rfl (D 13) (XS.goto X169.here hx rfl (pc0 := 30) (pc' := 34) rfl (D 14) (by decide) (by decide) (XS.istoreN X169.here hx rfl (D 16) rfl (l' := #[sR a, sI z, sI 1]) rfl (XS.iloadN X169.here hx rfl (D 17) rfl (XS.ifNo X169.here hx rfl (D 18) rfl (by decide) (XS.aloadN X169.here hx rfl (D 19) rfl rfl (XS.dup X169.here hx rfl (D 20) rfl rfl q)))))))) ?_
  refine own_gF X169 hx hZ hown (w61 hw) e169 F_pos_a rfl rfl (D 21) fun T172 X172 e172 => ?_
  refine own_step (g' := (mkF m 46 #[sR a, sI z, sI 1] [(.int ((Int32.ofNat pn) + (1 : Int32))), (.ref a)])) (fun _ q => XS.iconst X172.here hx rfl (D 22) (XS.iadd X172.here hx rfl (D 23) rfl q)) ?_
  rw [show ((Int32.ofNat pn) + (1 : Int32)) = (Int32.ofNat (pn + 1)) from (own_inc _)]
  refine own_pF X172 hx hZ hown (w61 hw) e172 F_pos_a E_a (Or.inl (w62 hw)) (w50 hw) (ty := .int) (by decide) rfl rfl rfl rfl (D 24) fun T173 h173 X173 e173 W173 F174 => ?_
  have N175 := Fr.snoc X173 N170 ge_a
  refine own_step (g' := (mkF m 50 #[sR a, sI z, sI 1] [(.int 1)])) (fun _ q => XS.iloadN X173.here hx rfl (D 25) rfl q) ?_
  have c176 := ((Keep.refl h0 [a]).wr W173 (Or.inl (List.mem_of_getElem? (i := 0) rfl)))
  have c177 := (E_a.wr W173)
  have c178 := (F_text_a.other W173 (Or.inr (RoadKit.slot_ne (t := (.object "java/lang/String")) (t' := .int) (Or.inr (w56 hw)) (Or.inl (w62 hw)) (by decide) (by decide) (by decide))))
  exact own_retN X173 hx hrt (by simp) (D 26) hlk (by rw [e173]; exact ⟨rfl, N175, c176, c177, c178, F174⟩) (by decide) (by decide)
def Q_own_nx0 (Z : State) (G1 : Int32) (G3 : Value) (a tx t : Addr) (kb : ClassId) (cd N2 : Int32) (vs : List Value) (cs : List Int32) (pn : Nat) (z : Int32) (h0 : Heap) (n0 : Nat) (v : Option Value) (h : Heap) (L : List Loc) : Prop := v = some (.int (0 : Int32)) ∧ Fr n0 L ∧ h = h0
set_option maxRecDepth 65536 in
set_option maxHeartbeats 40000000 in
theorem own_nx0 (l : Launch) (Z : State) (a0 : Array Value) (hw : own_HW a0 Z) (ws : List Jvm.Cond) (G1 : Int32) (G3 : Value) (a tx t : Addr) (kb : ClassId) (cd N2 : Int32) (vs : List Value) (cs : List Int32) (pn : Nat) (z : Int32) (h0 : Heap) (n0 : Nat) (Z0 : n0 ≤ h0.size) (O2 : own_O2 Z G1) (O4 : own_O4 Z G3) (P5 : ¬ (G1 = (0 : Int32))) (rG3 : G3.isRef = true) (OLD0 : Old Z n0 h0) (U1 : own_U0 Z) (U2 : own_U1 Z) (U3 : own_U2 Z) (E_a : own_Ea Z h0 a) (F_text_a : own_Ft Z h0 a (.ref tx)) (F_pos_a : own_Fp Z h0 a (.int (Int32.ofNat pn))) (E_tx : own_Es Z h0 tx) (F_value_tx : own_Sv Z h0 tx (.ref t)) (F_coder_tx : own_Sc Z h0 tx (.int cd)) (V_t : Arv Z h0 t kb .byte N2 vs (.int 0)) (hcod : StrChars.Road.CodA cs cd N2 vs) (hcs : own_R16 cs) (h8 : cs.length = 8) (hp : pn < 8) (hq : ¬ cs.getD pn 0 = z) :
    own_Met l Z ⟨"com/example/tote/tote/JsonText", "next", "(C)Z"⟩ prog_12_method_16_code 3 (some .boolean) ws ⟨5, 0, 0, 66⟩ #[(.ref a), (.int z)] h0 (Q_own_nx0 Z G1 G3 a tx t kb cd N2 vs cs pn z h0 n0) := by
  refine own_bodyN (g0 := fun m => mkF m 0 #[sR a, sI z, .unset] []) (plainFor_of_name pn_4) (fun _ => rfl) ?_
  intro p e s m below meth c s₁ hx hby hml hrt hlk hown hnm hZ e0 X0
  have D := own_d hby kD46
  have ty_a_tx : a ≠ tx := (Exa.ne E_a E_tx (by decide))
  have ty_a_t : a ≠ t := (Exa.neArv E_a V_t (w50 hw))
  have ty_tx_t : tx ≠ t := (Exa.neArv E_tx V_t (w10 hw))
  refine own_step (g' := (mkF m 1 #[sR a, sI z, .unset] [(.ref a)])) (fun _ q => XS.aloadN X0.here hx rfl (D 0) rfl rfl q) ?_
  refine own_gF X0 hx hZ hown (w61 hw) e0 F_pos_a rfl rfl (D 1) fun T179 X179 e179 => ?_
  refine own_step (g' := (mkF m 5 #[sR a, sI z, .unset] [(.ref a), (.int (Int32.ofNat pn))])) (fun _ q => XS.aloadN X179.here hx rfl (D 2) rfl rfl q) ?_
  refine own_gF X179 hx hZ hown (w55 hw) e179 F_text_a rfl rfl (D 3) fun T180 X180 e180 => ?_
  refine own_callV X180 hx hZ hown (w63 hw) (w64 hw) (notFace_of_selects (args := #[]) (mvT hZ (w66 hw))) (w66 hw) (w65 hw) (by decide) (own_bO (W := 1) (own_l8 l Z a0 hw [] G1 G3 tx t kb cd N2 vs cs h0 n0 Z0 O2 O4 P5 rG3 OLD0 E_tx F_value_tx F_coder_tx V_t hcod hcs h8) hZ (w67 hw) (w11 hw) rfl rfl) e180 E_tx  (by decide) (by decide) (argsL := []) (rest := [(.int (Int32.ofNat pn))]) rfl hml.symm (lenOf pd_14 rfl) rfl rfl (own_w0 rfl rfl) (D 4) ?_
  rintro _ T181 L181 X181 ⟨rfl, N181q, e181⟩
  have N182 := Fr.app (Fr.nil n0) N181q
  have hc183 : ((Int32.ofNat pn) < (8 : Int32)) := (own_lt8 hp)
  refine own_step (g' := (mkF m 15 #[sR a, sI z, .unset] [(.ref a)])) (fun _ q => XS.icmpNo X181.here hx rfl (D 5) rfl (XT.ii_ge_f hc183) (XS.aloadN X181.here hx rfl (D 6) rfl rfl q)) ?_
  refine own_gF X181 hx hZ hown (w55 hw) e181 F_text_a rfl rfl (D 7) fun T184 X184 e184 => ?_
  refine own_step (g' := (mkF m 19 #[sR a, sI z, .unset] [(.ref a), (.ref tx)])) (fun _ q => XS.aloadN X184.here hx rfl (D 8) rfl rfl q) ?_
  refine own_gF X184 hx hZ hown (w61 hw) e184 F_pos_a rfl rfl (D 9) fun T185 X185 e185 => ?_
  refine own_callV X185 hx hZ hown (w74 hw) (w75 hw) (notFace_of_selects (args := #[]) (mvT hZ (w77 hw))) (w77 hw) (w76 hw) (by decide) (own_bO (W := 0) (own_char l Z a0 hw [] G1 G3 tx t kb cd N2 vs cs pn h0 n0 Z0 O2 O4 P5 rG3 OLD0 U1 U2 U3 E_tx F_value_tx F_coder_tx V_t hcod hcs (by omega : cs.length ≤ 400) (by omega : pn < cs.length)) hZ (w78 hw) (w11 hw) rfl rfl) e185 E_tx  (by decide) (by decide) (argsL := [(.int (Int32.ofNat pn))]) (rest := []) rfl hml.symm (lenOf pd_15 rfl) rfl rfl (own_w0 rfl rfl) (D 10) ?_
  rintro _ T186 L186 X186 ⟨rfl, N186q, e186⟩
  have N187 := Fr.app N182 N186q
  refine own_step (g' := (mkF m 26 #[sR a, sI z, .unset] [(.int z), (.int (cs.getD pn 0))])) (fun _ q => XS.iloadN X186.here hx rfl (D 11) rfl q) ?_
  have hc188 : ¬ ((cs.getD pn 0) = z) := hq
  refine own_step (g' := (mkF m 50 #[sR a, sI z, sI 0] [(.int 0)])) (fun _ q => XS.icmpYes X186.here hx rfl (pc0 := 26) (pc' := 33) rfl (D 12) rfl (XT.ii_ne_t hc188) (by decide) (by decide) (XS.iconst X186.here hx rfl (D 15) (XS.istoreN X186.here hx rfl (D 16) rfl (l' := #[sR a, sI z, sI 0]) rfl (XS.iloadN X186.here hx rfl (D 17) rfl (XS.ifYes X186.here hx rfl (pc0 := 36) (pc' := 49) rfl (D 18) rfl (by decide) (by decide) (by decide) (XS.iloadN X186.here hx rfl (D 25) rfl q)))))) ?_
  exact own_retN X186 hx hrt (by simp) (D 26) hlk ⟨rfl, N187, e186⟩ (by decide) (by decide)
theorem pd_16 : parseMethodDescriptor "(C)Z" = some ⟨[.char], some .boolean⟩ := by decide +kernel
def Q_own_exp (Z : State) (G1 : Int32) (G3 : Value) (a tx t : Addr) (kb : ClassId) (cd N2 : Int32) (vs : List Value) (cs : List Int32) (pn : Nat) (z : Int32) (h0 : Heap) (n0 : Nat) (v : Option Value) (h : Heap) (L : List Loc) : Prop := v = none ∧ Fr n0 L ∧ Keep h0 h [a] ∧ own_Ea Z h a ∧ own_Ft Z h a (.ref tx) ∧ own_Fp Z h a (.int (Int32.ofNat (pn + 1)))
set_option maxRecDepth 65536 in
set_option maxHeartbeats 40000000 in
theorem own_exp (l : Launch) (Z : State) (a0 : Array Value) (hw : own_HW a0 Z) (ws : List Jvm.Cond) (G1 : Int32) (G3 : Value) (a tx t : Addr) (kb : ClassId) (cd N2 : Int32) (vs : List Value) (cs : List Int32) (pn : Nat) (z : Int32) (h0 : Heap) (n0 : Nat) (Z0 : n0 ≤ h0.size) (O2 : own_O2 Z G1) (O4 : own_O4 Z G3) (P5 : ¬ (G1 = (0 : Int32))) (rG3 : G3.isRef = true) (OLD0 : Old Z n0 h0) (U1 : own_U0 Z) (U2 : own_U1 Z) (U3 : own_U2 Z) (E_a : own_Ea Z h0 a) (F_text_a : own_Ft Z h0 a (.ref tx)) (F_pos_a : own_Fp Z h0 a (.int (Int32.ofNat pn))) (E_tx : own_Es Z h0 tx) (F_value_tx : own_Sv Z h0 tx (.ref t)) (F_coder_tx : own_Sc Z h0 tx (.int cd)) (V_t : Arv Z h0 t kb .byte N2 vs (.int 0)) (hcod : StrChars.Road.CodA cs cd N2 vs) (hcs : own_R16 cs) (h8 : cs.length = 8) (ge_a : n0 ≤ a) (hp : pn < 8) (hq : cs.getD pn 0 = z) :
    own_Met l Z ⟨"com/example/tote/tote/JsonText", "expect", "(C)V"⟩ prog_12_method_15_code 2 none ws ⟨6, 0, 0, 80⟩ #[(.ref a), (.int z)] h0 (Q_own_exp Z G1 G3 a tx t kb cd N2 vs cs pn z h0 n0) := by
  refine own_bodyN (g0 := fun m => mkF m 0 #[sR a, sI z] []) (plainFor_of_name pn_4) (fun _ => rfl) ?_
  intro p e s m below meth c s₁ hx hby hml hrt hlk hown hnm hZ e0 X0
  have D := own_d hby kD56
  have ty_a_tx : a ≠ tx := (Exa.ne E_a E_tx (by decide))
  have ty_a_t : a ≠ t := (Exa.neArv E_a V_t (w50 hw))
  have ty_tx_t : tx ≠ t := (Exa.neArv E_tx V_t (w10 hw))
  refine own_step (g' := (mkF m 2 #[sR a, sI z] [(.int z), (.ref a)])) (fun _ q => XS.aloadN X0.here hx rfl (D 0) rfl rfl (XS.iloadN X0.here hx rfl (D 1) rfl q)) ?_
  refine own_callQ X0 hx hZ hown (w201 hw) (w202 hw) (w50 hw) (w203 hw) (w204 hw) (by decide) (own_bO (W := 0) (own_nx1 l Z a0 hw [] G1 G3 a tx t kb cd N2 vs cs pn z h0 n0 Z0 O2 O4 P5 rG3 OLD0 U1 U2 U3 E_a F_text_a F_pos_a E_tx F_value_tx F_coder_tx V_t hcod hcs h8 ge_a hp hq) hZ (w204 hw) (w40 hw) rfl rfl) e0 E_a  (by decide) (by decide) (argsL := [(.int z)]) (rest := []) rfl hml.symm (lenOf pd_16 rfl) rfl rfl (own_w0 rfl rfl) (D 2) ?_
  rintro _ T189 L189 X189 ⟨rfl, N189q, K189, f0_189, f1_189, f2_189⟩
  have N190 := Fr.app (Fr.nil n0) N189q
  refine own_step (g' := (mkF m 19 #[sR a, sI z] [])) (fun _ q => XS.ifYes X189.here hx rfl (pc0 := 5) (pc' := 19) rfl (D 3) rfl (by decide) (by decide) (by decide) q) ?_
  have c191 := ((Keep.refl h0 [a]).trans K189 (allS (Or.inl (List.mem_of_getElem? (i := 0) rfl)) all0))
  exact own_retV X189 hx hrt (D 4) hlk ⟨rfl, N190, c191, f0_189, f1_189, f2_189⟩ (by decide) (by decide)
def Q_own_dep1 (Z : State) (a : Addr) (h0 : Heap) (n0 : Nat) (v : Option Value) (h : Heap) (L : List Loc) : Prop := v = none ∧ Fr n0 L ∧ h = h0
set_option maxRecDepth 65536 in
set_option maxHeartbeats 40000000 in
theorem own_dep1 (l : Launch) (Z : State) (a0 : Array Value) (hw : own_HW a0 Z) (ws : List Jvm.Cond) (a : Addr) (h0 : Heap) (n0 : Nat) (Z0 : n0 ≤ h0.size)  :
    own_Met l Z ⟨"com/example/tote/tote/JsonText", "checkDepth", "(I)V"⟩ prog_12_method_12_code 2 none ws ⟨0, 0, 0, 0⟩ #[(.ref a), (.int (1 : Int32))] h0 (Q_own_dep1 Z a h0 n0) := by
  refine own_bodyN (g0 := fun m => mkF m 0 #[sR a, sI 1] []) (plainFor_of_name pn_4) (fun _ => rfl) ?_
  intro p e s m below meth c s₁ hx hby hml hrt hlk hown hnm hZ e0 X0
  have D := own_d hby kD55
  refine own_step (g' := (mkF m 14 #[sR a, sI 1] [])) (fun _ q => XS.iloadN X0.here hx rfl (D 0) rfl (XS.sipush X0.here hx rfl (D 1) (XS.icmpYes X0.here hx rfl (pc0 := 4) (pc' := 14) rfl (D 2) rfl (by decide) (by decide) (by decide) q))) ?_
  exact own_retV X0 hx hrt (D 3) hlk ⟨rfl, (Fr.nil n0), e0⟩ (by decide) (by decide)
def Q_own_dep2 (Z : State) (a : Addr) (h0 : Heap) (n0 : Nat) (v : Option Value) (h : Heap) (L : List Loc) : Prop := v = none ∧ Fr n0 L ∧ h = h0
set_option maxRecDepth 65536 in
set_option maxHeartbeats 40000000 in
theorem own_dep2 (l : Launch) (Z : State) (a0 : Array Value) (hw : own_HW a0 Z) (ws : List Jvm.Cond) (a : Addr) (h0 : Heap) (n0 : Nat) (Z0 : n0 ≤ h0.size)  :
    own_Met l Z ⟨"com/example/tote/tote/JsonText", "checkDepth", "(I)V"⟩ prog_12_method_12_code 2 none ws ⟨0, 0, 0, 0⟩ #[(.ref a), (.int (2 : Int32))] h0 (Q_own_dep2 Z a h0 n0) := by
  refine own_bodyN (g0 := fun m => mkF m 0 #[sR a, sI 2] []) (plainFor_of_name pn_4) (fun _ => rfl) ?_
  intro p e s m below meth c s₁ hx hby hml hrt hlk hown hnm hZ e0 X0
  have D := own_d hby kD55
  refine own_step (g' := (mkF m 14 #[sR a, sI 2] [])) (fun _ q => XS.iloadN X0.here hx rfl (D 0) rfl (XS.sipush X0.here hx rfl (D 1) (XS.icmpYes X0.here hx rfl (pc0 := 4) (pc' := 14) rfl (D 2) rfl (by decide) (by decide) (by decide) q))) ?_
  exact own_retV X0 hx hrt (D 3) hlk ⟨rfl, (Fr.nil n0), e0⟩ (by decide) (by decide)
def Q_own_cod0 (Z : State) (G1 : Int32) (G3 : Value) (a : Addr) (h0 : Heap) (n0 : Nat) (v : Option Value) (h : Heap) (L : List Loc) : Prop := v = some (.int (0 : Int32)) ∧ Fr n0 L ∧ h = h0
set_option maxRecDepth 65536 in
set_option maxHeartbeats 40000000 in
theorem own_cod0 (l : Launch) (Z : State) (a0 : Array Value) (hw : own_HW a0 Z) (ws : List Jvm.Cond) (G1 : Int32) (G3 : Value) (a : Addr) (h0 : Heap) (n0 : Nat) (Z0 : n0 ≤ h0.size) (O2 : own_O2 Z G1) (O4 : own_O4 Z G3) (P5 : ¬ (G1 = (0 : Int32))) (rG3 : G3.isRef = true) (OLD0 : Old Z n0 h0) (F_coder_a : own_Sc Z h0 a (.int (0 : Int32))) :
    own_Met l Z ⟨"java/lang/String", "coder", "()B"⟩ jdk_42_method_152_code 1 (some .byte) ws ⟨0, 0, 0, 0⟩ #[(.ref a)] h0 (Q_own_cod0 Z G1 G3 a h0 n0) := by
  refine own_bodyN (g0 := fun m => mkF m 0 #[sR a] []) (plainFor_of_name pn_1) (fun _ => rfl) ?_
  intro p e s m below meth c s₁ hx hby hml hrt hlk hown hnm hZ e0 X0
  have D := own_d hby kD14
  obtain ⟨T192, X192, e192, st192⟩ := getS2 X0 hx hZ hown (host := "") (Or.inl (w22 hw)) Via.refl e0 (O2.ext OLD0.2) (g := (mkF m 0 #[sR a] [])) rfl (D 0)
  refine own_step (T' := T192) (g' := (mkF m 3 #[sR a] [(.int G1)])) st192 ?_
  have hc193 : ¬ (G1 = 0) := P5
  refine own_step (g' := (mkF m 7 #[sR a] [(.ref a)])) (fun _ q => XS.ifNo X192.here hx rfl (D 1) rfl (XT.i0_eq_f hc193) (XS.aloadN X192.here hx rfl (D 2) rfl rfl q)) ?_
  refine own_gF X192 hx hZ hown (w34 hw) e192 F_coder_a rfl rfl (D 3) fun T194 X194 e194 => ?_
  refine own_step (g' := (mkF m 14 #[sR a] [(.int 0)])) (fun _ q => XS.goto X194.here hx rfl (pc0 := 10) (pc' := 14) rfl (D 4) (by decide) (by decide) q) ?_
  exact own_retN X194 hx hrt (by simp) (D 5) hlk ⟨rfl, (Fr.nil n0), e194⟩ (by decide) (by decide)
def Q_own_len0 (Z : State) (G1 : Int32) (G3 : Value) (a t : Addr) (kb : ClassId) (N2 : Int32) (vs : List Value) (h0 : Heap) (n0 : Nat) (v : Option Value) (h : Heap) (L : List Loc) : Prop := v = some (.int N2) ∧ Fr n0 L ∧ h = h0
set_option maxRecDepth 65536 in
set_option maxHeartbeats 40000000 in
theorem own_len0 (l : Launch) (Z : State) (a0 : Array Value) (hw : own_HW a0 Z) (ws : List Jvm.Cond) (G1 : Int32) (G3 : Value) (a t : Addr) (kb : ClassId) (N2 : Int32) (vs : List Value) (h0 : Heap) (n0 : Nat) (Z0 : n0 ≤ h0.size) (O2 : own_O2 Z G1) (O4 : own_O4 Z G3) (P5 : ¬ (G1 = (0 : Int32))) (rG3 : G3.isRef = true) (OLD0 : Old Z n0 h0) (E_a : own_Es Z h0 a) (F_value_a : own_Sv Z h0 a (.ref t)) (F_coder_a : own_Sc Z h0 a (.int (0 : Int32))) (V_t : Arv Z h0 t kb .byte N2 vs (.int 0)) :
    own_Met l Z ⟨"java/lang/String", "length", "()I"⟩ jdk_42_method_54_code 1 (some .int) ws ⟨1, 0, 0, 13⟩ #[(.ref a)] h0 (Q_own_len0 Z G1 G3 a t kb N2 vs h0 n0) := by
  refine own_bodyN (g0 := fun m => mkF m 0 #[sR a] []) (plainFor_of_name pn_1) (fun _ => rfl) ?_
  intro p e s m below meth c s₁ hx hby hml hrt hlk hown hnm hZ e0 X0
  have D := own_d hby kD13
  have ty_a_t : a ≠ t := (Exa.neArv E_a V_t (w10 hw))
  refine own_step (g' := (mkF m 1 #[sR a] [(.ref a)])) (fun _ q => XS.aloadN X0.here hx rfl (D 0) rfl rfl q) ?_
  refine own_gF X0 hx hZ hown (w36 hw) e0 F_value_a rfl rfl (D 1) fun T195 X195 e195 => ?_
  refine own_step (g' := (mkF m 6 #[sR a] [(.ref a), (.int N2)])) (fun _ q => own_len X195 hx hZ e195 V_t (g := (mkF m 4 #[sR a] [(.ref t)])) rfl rfl (D 2) _ (XS.aloadN X195.here hx rfl (D 3) rfl rfl q)) ?_
  refine own_callV X195 hx hZ hown (w68 hw) (w69 hw) (notFace_of_selects (args := #[]) (mvT hZ (w71 hw))) (w71 hw) (w70 hw) (by decide) (own_bO (W := 1) (own_cod0 l Z a0 hw [] G1 G3 a h0 n0 Z0 O2 O4 P5 rG3 OLD0 F_coder_a) hZ (w72 hw) (w11 hw) rfl rfl) e195 E_a  (by decide) (by decide) (argsL := []) (rest := [(.int N2)]) rfl hml.symm (lenOf pd_13 rfl) rfl rfl (own_w0 rfl rfl) (D 4) ?_
  rintro _ T196 L196 X196 ⟨rfl, N196q, e196⟩
  have N197 := Fr.app (Fr.nil n0) N196q
  refine own_step (g' := (mkF m 10 #[sR a] [(.int (N2 >>> ((0 : Int32) &&& 31)))])) (fun _ q => XT.ishr X196.here hx rfl (D 5) rfl q) ?_
  rw [show (N2 >>> ((0 : Int32) &&& 31)) = N2 from (StrChars.shr0 _)]
  exact own_retI X196 hx hrt (D 6) hlk ⟨rfl, N197, e196⟩ (by decide) (by decide)
def Q_own_cani (Z : State) (z : Int32) (h0 : Heap) (n0 : Nat) (v : Option Value) (h : Heap) (L : List Loc) : Prop := v = some (.int (1 : Int32)) ∧ Fr n0 L ∧ h = h0
set_option maxRecDepth 65536 in
set_option maxHeartbeats 40000000 in
theorem own_cani (l : Launch) (Z : State) (a0 : Array Value) (hw : own_HW a0 Z) (ws : List Jvm.Cond) (z : Int32) (h0 : Heap) (n0 : Nat) (Z0 : n0 ≤ h0.size) (hz : ¬ z < 0 ∧ ¬ (255 : Int32) < z) :
    own_Met l Z ⟨"java/lang/StringLatin1", "canEncode", "(I)Z"⟩ jdk_43_method_4_code 1 (some .boolean) ws ⟨0, 0, 0, 0⟩ #[(.int z)] h0 (Q_own_cani Z z h0 n0) := by
  refine own_bodyN (g0 := fun m => mkF m 0 #[sI z] []) (plainFor_of_name pn_3) (fun _ => rfl) ?_
  intro p e s m below meth c s₁ hx hby hml hrt hlk hown hnm hZ e0 X0
  have D := own_d hby kD23
  refine own_step (g' := (mkF m 1 #[sI z] [(.int z)])) (fun _ q => XS.iloadN X0.here hx rfl (D 0) rfl q) ?_
  have hc198 : ¬ (z < 0) := hz.1
  refine own_step (g' := (mkF m 8 #[sI z] [(.int 255), (.int z)])) (fun _ q => XS.ifNo X0.here hx rfl (D 1) rfl (XT.i0_lt_f hc198) (XS.iloadN X0.here hx rfl (D 2) rfl (XS.sipush X0.here hx rfl (D 3) q))) ?_
  have hc199 : ¬ ((255 : Int32) < z) := hz.2
  refine own_step (g' := (mkF m 16 #[sI z] [(.int 1)])) (fun _ q => XS.icmpNo X0.here hx rfl (D 4) rfl (XT.ii_gt_f hc199) (XS.iconst X0.here hx rfl (D 5) (XS.goto X0.here hx rfl (pc0 := 12) (pc' := 16) rfl (D 6) (by decide) (by decide) q))) ?_
  exact own_retN X0 hx hrt (by simp) (D 7) hlk ⟨rfl, (Fr.nil n0), e0⟩ (by decide) (by decide)
def Q_own_max0 (Z : State)  (h0 : Heap) (n0 : Nat) (v : Option Value) (h : Heap) (L : List Loc) : Prop := v = some (.int (0 : Int32)) ∧ Fr n0 L ∧ h = h0
set_option maxRecDepth 65536 in
set_option maxHeartbeats 40000000 in
theorem own_max0 (l : Launch) (Z : State) (a0 : Array Value) (hw : own_HW a0 Z) (ws : List Jvm.Cond)  (h0 : Heap) (n0 : Nat) (Z0 : n0 ≤ h0.size)  :
    own_Met l Z ⟨"java/lang/Math", "max", "(II)I"⟩ jdk_29_method_65_code 2 (some .int) ws ⟨0, 0, 0, 0⟩ #[(.int (0 : Int32)), (.int (0 : Int32))] h0 (Q_own_max0 Z  h0 n0) := by
  refine own_bodyN (g0 := fun m => mkF m 0 #[sI 0, sI 0] []) (Jvm.Free.JP.mathPlain rfl (by decide +kernel)) (fun _ => rfl) ?_
  intro p e s m below meth c s₁ hx hby hml hrt hlk hown hnm hZ e0 X0
  have D := own_d hby kD24
  refine own_step (g' := (mkF m 10 #[sI 0, sI 0] [(.int 0)])) (fun _ q => XS.iloadN X0.here hx rfl (D 0) rfl (XS.iloadN X0.here hx rfl (D 1) rfl (XS.icmpNo X0.here hx rfl (D 2) rfl (by decide) (XS.iloadN X0.here hx rfl (D 3) rfl (XS.goto X0.here hx rfl (pc0 := 6) (pc' := 10) rfl (D 4) (by decide) (by decide) q))))) ?_
  exact own_retI X0 hx hrt (D 5) hlk ⟨rfl, (Fr.nil n0), e0⟩ (by decide) (by decide)
def Q_own_min4 (Z : State)  (h0 : Heap) (n0 : Nat) (v : Option Value) (h : Heap) (L : List Loc) : Prop := v = some (.int (4 : Int32)) ∧ Fr n0 L ∧ h = h0
set_option maxRecDepth 65536 in
set_option maxHeartbeats 40000000 in
theorem own_min4 (l : Launch) (Z : State) (a0 : Array Value) (hw : own_HW a0 Z) (ws : List Jvm.Cond)  (h0 : Heap) (n0 : Nat) (Z0 : n0 ≤ h0.size)  :
    own_Met l Z ⟨"java/lang/Math", "min", "(II)I"⟩ jdk_29_method_69_code 2 (some .int) ws ⟨0, 0, 0, 0⟩ #[(.int (4 : Int32)), (.int (4 : Int32))] h0 (Q_own_min4 Z  h0 n0) := by
  refine own_bodyN (g0 := fun m => mkF m 0 #[sI 4, sI 4] []) (Jvm.Free.JP.mathPlain rfl (by decide +kernel)) (fun _ => rfl) ?_
  intro p e s m below meth c s₁ hx hby hml hrt hlk hown hnm hZ e0 X0
  have D := own_d hby kD25
  refine own_step (g' := (mkF m 10 #[sI 4, sI 4] [(.int 4)])) (fun _ q => XS.iloadN X0.here hx rfl (D 0) rfl (XS.iloadN X0.here hx rfl (D 1) rfl (XS.icmpNo X0.here hx rfl (D 2) rfl (by decide) (XS.iloadN X0.here hx rfl (D 3) rfl (XS.goto X0.here hx rfl (pc0 := 6) (pc' := 10) rfl (D 4) (by decide) (by decide) q))))) ?_
  exact own_retI X0 hx hrt (D 5) hlk ⟨rfl, (Fr.nil n0), e0⟩ (by decide) (by decide)
def Q_own_min8 (Z : State)  (h0 : Heap) (n0 : Nat) (v : Option Value) (h : Heap) (L : List Loc) : Prop := v = some (.int (8 : Int32)) ∧ Fr n0 L ∧ h = h0
set_option maxRecDepth 65536 in
set_option maxHeartbeats 40000000 in
theorem own_min8 (l : Launch) (Z : State) (a0 : Array Value) (hw : own_HW a0 Z) (ws : List Jvm.Cond)  (h0 : Heap) (n0 : Nat) (Z0 : n0 ≤ h0.size)  :
    own_Met l Z ⟨"java/lang/Math", "min", "(II)I"⟩ jdk_29_method_69_code 2 (some .int) ws ⟨0, 0, 0, 0⟩ #[(.int (8 : Int32)), (.int (8 : Int32))] h0 (Q_own_min8 Z  h0 n0) := by
  refine own_bodyN (g0 := fun m => mkF m 0 #[sI 8, sI 8] []) (Jvm.Free.JP.mathPlain rfl (by decide +kernel)) (fun _ => rfl) ?_
  intro p e s m below meth c s₁ hx hby hml hrt hlk hown hnm hZ e0 X0
  have D := own_d hby kD25
  refine own_step (g' := (mkF m 10 #[sI 8, sI 8] [(.int 8)])) (fun _ q => XS.iloadN X0.here hx rfl (D 0) rfl (XS.iloadN X0.here hx rfl (D 1) rfl (XS.icmpNo X0.here hx rfl (D 2) rfl (by decide) (XS.iloadN X0.here hx rfl (D 3) rfl (XS.goto X0.here hx rfl (pc0 := 6) (pc' := 10) rfl (D 4) (by decide) (by decide) q))))) ?_
  exact own_retI X0 hx hrt (D 5) hlk ⟨rfl, (Fr.nil n0), e0⟩ (by decide) (by decide)
def Q_own_iocW (Z : State) (t : Addr) (kb : ClassId) (z : Int32) (h0 : Heap) (n0 : Nat) (v : Option Value) (h : Heap) (L : List Loc) : Prop := ∃ (r : Int32), v = some (.int r) ∧ Fr n0 L ∧ h = h0 ∧ ((z = (32 : Int32) ∨ z = (9 : Int32) ∨ z = (10 : Int32) ∨ z = (13 : Int32)) → ¬ r < 0) ∧ ((¬ z = (32 : Int32) ∧ ¬ z = (9 : Int32) ∧ ¬ z = (10 : Int32) ∧ ¬ z = (13 : Int32)) → r < 0)
set_option maxRecDepth 65536 in
set_option maxHeartbeats 40000000 in
theorem own_iocW (l : Launch) (Z : State) (a0 : Array Value) (hw : own_HW a0 Z) (ws : List Jvm.Cond) (t : Addr) (kb : ClassId) (z : Int32) (h0 : Heap) (n0 : Nat) (Z0 : n0 ≤ h0.size) (V_t : Arv Z h0 t kb .byte (4 : Int32) [(.int (32 : Int32)), (.int (9 : Int32)), (.int (10 : Int32)), (.int (13 : Int32))] (.int 0)) (hb8 : z.toInt8.toInt32 = z) (hz : ¬ z < 0 ∧ ¬ (255 : Int32) < z) :
    own_Met l Z ⟨"java/lang/StringLatin1", "indexOfChar", "([BIII)I"⟩ jdk_43_method_23_code 6 (some .int) ws ⟨0, 0, 0, 0⟩ #[(.ref t), (.int z), (.int (0 : Int32)), (.int (4 : Int32))] h0 (Q_own_iocW Z t kb z h0 n0) := by
  refine own_bodyN (g0 := fun m => mkF m 0 #[sR t, sI z, sI 0, sI 4, .unset, .unset] []) (plainFor_of_name pn_3) (fun _ => rfl) ?_
  intro p e s m below meth c s₁ hx hby hml hrt hlk hown hnm hZ e0 X0
  have D := own_d hby kD26
  refine own_step (g' := (mkF m 2 #[sR t, sI z, sI 0, sI 4, .unset, .unset] [(.int (z.toInt8.toInt32))])) (fun _ q => XS.iloadN X0.here hx rfl (D 0) rfl (XT.i2b X0.here hx rfl (D 1) rfl q)) ?_
  rw [show (z.toInt8.toInt32) = z from hb8]
  refine own_step (g' := (mkF m 19 #[sR t, sI z, sI 0, sI 4, sI z, sI 0] [(.int z), (.int 32)])) (fun _ q => XS.istore X0.here hx rfl (D 2) rfl (l' := #[sR t, sI z, sI 0, sI 4, sI z, .unset]) rfl (XS.iloadN X0.here hx rfl (D 3) rfl (XS.istore X0.here hx rfl (D 4) rfl (l' := #[sR t, sI z, sI 0, sI 4, sI z, sI 0]) rfl (XS.iload X0.here hx rfl (D 5) rfl (XS.iloadN X0.here hx rfl (D 6) rfl (XS.icmpNo X0.here hx rfl (D 7) rfl (by decide) (XS.aloadN X0.here hx rfl (D 8) rfl rfl (XS.iload X0.here hx rfl (D 9) rfl (own_ldB X0 hx hZ e0 V_t (j := (0 : Int32)) ⟨by decide, by decide⟩ (v := (.int (32 : Int32))) rfl (g := (mkF m 16 #[sR t, sI z, sI 0, sI 4, sI z, sI 0] [(.int 0), (.ref t)])) rfl rfl (D 10) _ (XS.iload X0.here hx rfl (D 11) rfl q)))))))))) ?_
  by_cases hc200 : (32 : Int32) = z
  · refine own_step (g' := (mkF m 24 #[sR t, sI z, sI 0, sI 4, sI z, sI 0] [(.int 0)])) (fun _ q => XS.icmpNo X0.here hx rfl (D 12) rfl (XT.ii_ne_f hc200) (XS.iload X0.here hx rfl (D 13) rfl q)) ?_
    exact own_retI X0 hx hrt (D 14) hlk ⟨(0 : Int32), rfl, (Fr.nil n0), e0, ⟨fun _ => by decide, fun q => absurd hc200.symm q.1⟩⟩ (by decide) (by decide)
  · refine own_step (g' := (mkF m 19 #[sR t, sI z, sI 0, sI 4, sI z, sI 1] [(.int z), (.int 9)])) (fun _ q => XS.icmpYes X0.here hx rfl (pc0 := 19) (pc' := 25) rfl (D 12) rfl (XT.ii_ne_t hc200) (by decide) (by decide) (XS.iinc X0.here hx rfl (D 15) rfl (l' := #[sR t, sI z, sI 0, sI 4, sI z, sI 1]) rfl (XS.goto X0.here hx rfl (pc0 := 28) (pc' := 7) rfl (D 16) (by decide) (by decide) (XS.iload X0.here hx rfl (D 5) rfl (XS.iloadN X0.here hx rfl (D 6) rfl (XS.icmpNo X0.here hx rfl (D 7) rfl (by decide) (XS.aloadN X0.here hx rfl (D 8) rfl rfl (XS.iload X0.here hx rfl (D 9) rfl (own_ldB X0 hx hZ e0 V_t (j := (1 : Int32)) ⟨by decide, by decide⟩ (v := (.int (9 : Int32))) rfl (g := (mkF m 16 #[sR t, sI z, sI 0, sI 4, sI z, sI 1] [(.int 1), (.ref t)])) rfl rfl (D 10) _ (XS.iload X0.here hx rfl (D 11) rfl q)))))))))) ?_
    by_cases hc201 : (9 : Int32) = z
    · refine own_step (g' := (mkF m 24 #[sR t, sI z, sI 0, sI 4, sI z, sI 1] [(.int 1)])) (fun _ q => XS.icmpNo X0.here hx rfl (D 12) rfl (XT.ii_ne_f hc201) (XS.iload X0.here hx rfl (D 13) rfl q)) ?_
      exact own_retI X0 hx hrt (D 14) hlk ⟨(1 : Int32), rfl, (Fr.nil n0), e0, ⟨fun _ => by decide, fun q => absurd hc201.symm q.2.1⟩⟩ (by decide) (by decide)
    · refine own_step (g' := (mkF m 19 #[sR t, sI z, sI 0, sI 4, sI z, sI 2] [(.int z), (.int 10)])) (fun _ q => XS.icmpYes X0.here hx rfl (pc0 := 19) (pc' := 25) rfl (D 12) rfl (XT.ii_ne_t hc201) (by decide) (by decide) (XS.iinc X0.here hx rfl (D 15) rfl (l' := #[sR t, sI z, sI 0, sI 4, sI z, sI 2]) rfl (XS.goto X0.here hx rfl (pc0 := 28) (pc' := 7) rfl (D 16) (by decide) (by decide) (XS.iload X0.here hx rfl (D 5) rfl (XS.iloadN X0.here hx rfl (D 6) rfl (XS.icmpNo X0.here hx rfl (D 7) rfl (by decide) (XS.aloadN X0.here hx rfl (D 8) rfl rfl (XS.iload X0.here hx rfl (D 9) rfl (own_ldB X0 hx hZ e0 V_t (j := (2 : Int32)) ⟨by decide, by decide⟩ (v := (.int (10 : Int32))) rfl (g := (mkF m 16 #[sR t, sI z, sI 0, sI 4, sI z, sI 2] [(.int 2), (.ref t)])) rfl rfl (D 10) _ (XS.iload X0.here hx rfl (D 11) rfl q)))))))))) ?_
      by_cases hc202 : (10 : Int32) = z
      · refine own_step (g' := (mkF m 24 #[sR t, sI z, sI 0, sI 4, sI z, sI 2] [(.int 2)])) (fun _ q => XS.icmpNo X0.here hx rfl (D 12) rfl (XT.ii_ne_f hc202) (XS.iload X0.here hx rfl (D 13) rfl q)) ?_
        exact own_retI X0 hx hrt (D 14) hlk ⟨(2 : Int32), rfl, (Fr.nil n0), e0, ⟨fun _ => by decide, fun q => absurd hc202.symm q.2.2.1⟩⟩ (by decide) (by decide)
      · refine own_step (g' := (mkF m 19 #[sR t, sI z, sI 0, sI 4, sI z, sI 3] [(.int z), (.int 13)])) (fun _ q => XS.icmpYes X0.here hx rfl (pc0 := 19) (pc' := 25) rfl (D 12) rfl (XT.ii_ne_t hc202) (by decide) (by decide) (XS.iinc X0.here hx rfl (D 15) rfl (l' := #[sR t, sI z, sI 0, sI 4, sI z, sI 3]) rfl (XS.goto X0.here hx rfl (pc0 := 28) (pc' := 7) rfl (D 16) (by decide) (by decide) (XS.iload X0.here hx rfl (D 5) rfl (XS.iloadN X0.here hx rfl (D 6) rfl (XS.icmpNo X0.here hx rfl (D 7) rfl (by decide) (XS.aloadN X0.here hx rfl (D 8) rfl rfl (XS.iload X0.here hx rfl (D 9) rfl (own_ldB X0 hx hZ e0 V_t (j := (3 : Int32)) ⟨by decide, by decide⟩ (v := (.int (13 : Int32))) rfl (g := (mkF m 16 #[sR t, sI z, sI 0, sI 4, sI z, sI 3] [(.int 3), (.ref t)])) rfl rfl (D 10) _ (XS.iload X0.here hx rfl (D 11) rfl q)))))))))) ?_
        by_cases hc203 : (13 : Int32) = z
        · refine own_step (g' := (mkF m 24 #[sR t, sI z, sI 0, sI 4, sI z, sI 3] [(.int 3)])) (fun _ q => XS.icmpNo X0.here hx rfl (D 12) rfl (XT.ii_ne_f hc203) (XS.iload X0.here hx rfl (D 13) rfl q)) ?_
          exact own_retI X0 hx hrt (D 14) hlk ⟨(3 : Int32), rfl, (Fr.nil n0), e0, ⟨fun _ => by decide, fun q => absurd hc203.symm q.2.2.2⟩⟩ (by decide) (by decide)
        · refine own_step (g' := (mkF m 32 #[sR t, sI z, sI 0, sI 4, sI z, sI 4] [(.int (-1))])) (fun _ q => XS.icmpYes X0.here hx rfl (pc0 := 19) (pc' := 25) rfl (D 12) rfl (XT.ii_ne_t hc203) (by decide) (by decide) (XS.iinc X0.here hx rfl (D 15) rfl (l' := #[sR t, sI z, sI 0, sI 4, sI z, sI 4]) rfl (XS.goto X0.here hx rfl (pc0 := 28) (pc' := 7) rfl (D 16) (by decide) (by decide) (XS.iload X0.here hx rfl (D 5) rfl (XS.iloadN X0.here hx rfl (D 6) rfl (XS.icmpYes X0.here hx rfl (pc0 := 10) (pc' := 31) rfl (D 7) rfl (by decide) (by decide) (by decide) (XS.iconst X0.here hx rfl (D 17) q))))))) ?_
          exact own_retI X0 hx hrt (D 18) hlk ⟨(-1 : Int32), rfl, (Fr.nil n0), e0, ⟨(fun q => q.elim (fun q => absurd q.symm hc200) (fun q => q.elim (fun q => absurd q.symm hc201) (fun q => q.elim (fun q => absurd q.symm hc202) (fun q => absurd q.symm hc203)))), fun _ => by decide⟩⟩ (by decide) (by decide)
theorem pd_17 : parseMethodDescriptor "(I)Z" = some ⟨[.int], some .boolean⟩ := by decide +kernel
theorem pd_18 : parseMethodDescriptor "(II)I" = some ⟨[.int, .int], some .int⟩ := by decide +kernel
theorem pd_19 : parseMethodDescriptor "([BIII)I" = some ⟨[(.array .byte), .int, .int, .int], some .int⟩ := by decide +kernel
def Q_own_iosW (Z : State) (t : Addr) (kb : ClassId) (z : Int32) (h0 : Heap) (n0 : Nat) (v : Option Value) (h : Heap) (L : List Loc) : Prop := ∃ (r : Int32), v = some (.int r) ∧ Fr n0 L ∧ h = h0 ∧ ((z = (32 : Int32) ∨ z = (9 : Int32) ∨ z = (10 : Int32) ∨ z = (13 : Int32)) → ¬ r < 0) ∧ ((¬ z = (32 : Int32) ∧ ¬ z = (9 : Int32) ∧ ¬ z = (10 : Int32) ∧ ¬ z = (13 : Int32)) → r < 0)
set_option maxRecDepth 65536 in
set_option maxHeartbeats 40000000 in
theorem own_iosW (l : Launch) (Z : State) (a0 : Array Value) (hw : own_HW a0 Z) (ws : List Jvm.Cond) (t : Addr) (kb : ClassId) (z : Int32) (h0 : Heap) (n0 : Nat) (Z0 : n0 ≤ h0.size) (V_t : Arv Z h0 t kb .byte (4 : Int32) [(.int (32 : Int32)), (.int (9 : Int32)), (.int (10 : Int32)), (.int (13 : Int32))] (.int 0)) (hb8 : z.toInt8.toInt32 = z) (hz : ¬ z < 0 ∧ ¬ (255 : Int32) < z) :
    own_Met l Z ⟨"java/lang/StringLatin1", "indexOf", "([BIII)I"⟩ jdk_43_method_22_code 4 (some .int) ws ⟨1, 0, 0, 17⟩ #[(.ref t), (.int z), (.int (0 : Int32)), (.int (4 : Int32))] h0 (Q_own_iosW Z t kb z h0 n0) := by
  refine own_bodyN (g0 := fun m => mkF m 0 #[sR t, sI z, sI 0, sI 4] []) (plainFor_of_name pn_3) (fun _ => rfl) ?_
  intro p e s m below meth c s₁ hx hby hml hrt hlk hown hnm hZ e0 X0
  have D := own_d hby kD22
  refine own_step (g' := (mkF m 1 #[sR t, sI z, sI 0, sI 4] [(.int z)])) (fun _ q => XS.iloadN X0.here hx rfl (D 0) rfl q) ?_
  refine own_callS X0 hx hZ hown (w110 hw) (w111 hw) (w86 hw) (w112 hw) (by decide) (own_bO (W := 0) (own_cani l Z a0 hw [] z h0 n0 Z0 hz) hZ (w112 hw) (w86 hw) rfl rfl) e0  (by decide) (by decide) (argsL := [(.int z)]) (rest := []) rfl hml.symm (lenOf pd_17 rfl) rfl rfl (own_w0 rfl rfl) (D 1) ?_
  rintro _ T204 L204 X204 ⟨rfl, N204q, e204⟩
  have N205 := Fr.app (Fr.nil n0) N204q
  refine own_step (g' := (mkF m 11 #[sR t, sI z, sI 0, sI 4] [(.int 0), (.int 0)])) (fun _ q => XS.ifYes X204.here hx rfl (pc0 := 4) (pc' := 9) rfl (D 2) rfl (by decide) (by decide) (by decide) (XS.iloadN X204.here hx rfl (D 3) rfl (XS.iconst X204.here hx rfl (D 4) q))) ?_
  refine own_callS X204 hx hZ hown (w113 hw) (w114 hw) (w115 hw) (w116 hw) (by decide) (own_bO (W := 0) (own_max0 l Z a0 hw []  h0 n0 Z0 ) hZ (w116 hw) (w115 hw) rfl rfl) e204  (by decide) (by decide) (argsL := [(.int (0 : Int32)), (.int (0 : Int32))]) (rest := []) rfl hml.symm (lenOf pd_18 rfl) rfl rfl (own_w0 rfl rfl) (D 5) ?_
  rintro _ T206 L206 X206 ⟨rfl, N206q, e206⟩
  have N207 := Fr.app N205 N206q
  refine own_step (g' := (mkF m 18 #[sR t, sI z, sI 0, sI 4] [(.int 4), (.int 4)])) (fun _ q => XS.istoreN X206.here hx rfl (D 6) rfl (l' := #[sR t, sI z, sI 0, sI 4]) rfl (XS.iloadN X206.here hx rfl (D 7) rfl (XS.aloadN X206.here hx rfl (D 8) rfl rfl (own_len X206 hx hZ e206 V_t (g := (mkF m 17 #[sR t, sI z, sI 0, sI 4] [(.ref t), (.int 4)])) rfl rfl (D 9) _ q)))) ?_
  refine own_callS X206 hx hZ hown (w117 hw) (w118 hw) (w115 hw) (w119 hw) (by decide) (own_bO (W := 0) (own_min4 l Z a0 hw []  h0 n0 Z0 ) hZ (w119 hw) (w115 hw) rfl rfl) e206  (by decide) (by decide) (argsL := [(.int (4 : Int32)), (.int (4 : Int32))]) (rest := []) rfl hml.symm (lenOf pd_18 rfl) rfl rfl (own_w0 rfl rfl) (D 10) ?_
  rintro _ T208 L208 X208 ⟨rfl, N208q, e208⟩
  have N209 := Fr.app N207 N208q
  refine own_step (g' := (mkF m 33 #[sR t, sI z, sI 0, sI 4] [(.int 4), (.int 0), (.int z), (.ref t)])) (fun _ q => XS.istoreN X208.here hx rfl (D 11) rfl (l' := #[sR t, sI z, sI 0, sI 4]) rfl (XS.iloadN X208.here hx rfl (D 12) rfl (XS.iloadN X208.here hx rfl (D 13) rfl (XS.icmpYes X208.here hx rfl (pc0 := 24) (pc' := 29) rfl (D 14) rfl (by decide) (by decide) (by decide) (XS.aloadN X208.here hx rfl (D 15) rfl rfl (XS.iloadN X208.here hx rfl (D 16) rfl (XS.iloadN X208.here hx rfl (D 17) rfl (XS.iloadN X208.here hx rfl (D 18) rfl q)))))))) ?_
  refine own_callS X208 hx hZ hown (w120 hw) (w121 hw) (w86 hw) (w122 hw) (by decide) (own_bO (W := 0) (own_iocW l Z a0 hw [] t kb z h0 n0 Z0 V_t hb8 hz) hZ (w122 hw) (w86 hw) rfl rfl) e208  (by decide) (by decide) (argsL := [(.ref t), (.int z), (.int (0 : Int32)), (.int (4 : Int32))]) (rest := []) rfl hml.symm (lenOf pd_19 rfl) rfl rfl (own_w0 rfl rfl) (D 19) ?_
  rintro _ T210 L210 X210 ⟨r210, rfl, N210q, e210, p0_210⟩
  have N211 := Fr.app N209 N210q
  exact own_retI X210 hx hrt (D 20) hlk ⟨r210, rfl, N211, e210, p0_210⟩ (by decide) (by decide)
def Q_own_iojW (Z : State) (G1 : Int32) (G3 : Value) (a t : Addr) (kb : ClassId) (z : Int32) (h0 : Heap) (n0 : Nat) (v : Option Value) (h : Heap) (L : List Loc) : Prop := ∃ (r : Int32), v = some (.int r) ∧ Fr n0 L ∧ h = h0 ∧ ((z = (32 : Int32) ∨ z = (9 : Int32) ∨ z = (10 : Int32) ∨ z = (13 : Int32)) → ¬ r < 0) ∧ ((¬ z = (32 : Int32) ∧ ¬ z = (9 : Int32) ∧ ¬ z = (10 : Int32) ∧ ¬ z = (13 : Int32)) → r < 0)
set_option maxRecDepth 65536 in
set_option maxHeartbeats 40000000 in
theorem own_iojW (l : Launch) (Z : State) (a0 : Array Value) (hw : own_HW a0 Z) (ws : List Jvm.Cond) (G1 : Int32) (G3 : Value) (a t : Addr) (kb : ClassId) (z : Int32) (h0 : Heap) (n0 : Nat) (Z0 : n0 ≤ h0.size) (O2 : own_O2 Z G1) (O4 : own_O4 Z G3) (P5 : ¬ (G1 = (0 : Int32))) (rG3 : G3.isRef = true) (OLD0 : Old Z n0 h0) (E_a : own_Es Z h0 a) (F_value_a : own_Sv Z h0 a (.ref t)) (F_coder_a : own_Sc Z h0 a (.int (0 : Int32))) (V_t : Arv Z h0 t kb .byte (4 : Int32) [(.int (32 : Int32)), (.int (9 : Int32)), (.int (10 : Int32)), (.int (13 : Int32))] (.int 0)) (hb8 : z.toInt8.toInt32 = z) (hz : ¬ z < 0 ∧ ¬ (255 : Int32) < z) :
    own_Met l Z ⟨"java/lang/String", "indexOf", "(II)I"⟩ jdk_42_method_80_code 3 (some .int) ws ⟨2, 0, 0, 32⟩ #[(.ref a), (.int z), (.int (0 : Int32))] h0 (Q_own_iojW Z G1 G3 a t kb z h0 n0) := by
  refine own_bodyN (g0 := fun m => mkF m 0 #[sR a, sI z, sI 0] []) (plainFor_of_name pn_1) (fun _ => rfl) ?_
  intro p e s m below meth c s₁ hx hby hml hrt hlk hown hnm hZ e0 X0
  have D := own_d hby kD21
  have ty_a_t : a ≠ t := (Exa.neArv E_a V_t (w10 hw))
  refine own_step (g' := (mkF m 1 #[sR a, sI z, sI 0] [(.ref a)])) (fun _ q => XS.aloadN X0.here hx rfl (D 0) rfl rfl q) ?_
  refine own_callV X0 hx hZ hown (w79 hw) (w80 hw) (notFace_of_selects (args := #[]) (mvT hZ (w82 hw))) (w82 hw) (w81 hw) (by decide) (own_bO (W := 0) (own_isl0 l Z a0 hw [] G1 G3 a h0 n0 Z0 O2 O4 P5 rG3 OLD0 F_coder_a) hZ (w83 hw) (w11 hw) rfl rfl) e0 E_a  (by decide) (by decide) (argsL := []) (rest := []) rfl hml.symm (lenOf pd_5 rfl) rfl rfl (own_w0 rfl rfl) (D 1) ?_
  rintro _ T212 L212 X212 ⟨rfl, N212q, e212⟩
  have N213 := Fr.app (Fr.nil n0) N212q
  refine own_step (g' := (mkF m 8 #[sR a, sI z, sI 0] [(.ref a)])) (fun _ q => XS.ifNo X212.here hx rfl (D 2) rfl (by decide) (XS.aloadN X212.here hx rfl (D 3) rfl rfl q)) ?_
  refine own_gF X212 hx hZ hown (w36 hw) e212 F_value_a rfl rfl (D 4) fun T214 X214 e214 => ?_
  refine own_step (g' := (mkF m 14 #[sR a, sI z, sI 0] [(.ref a), (.int 0), (.int z), (.ref t)])) (fun _ q => XS.iloadN X214.here hx rfl (D 5) rfl (XS.iloadN X214.here hx rfl (D 6) rfl (XS.aloadN X214.here hx rfl (D 7) rfl rfl q))) ?_
  refine own_callV X214 hx hZ hown (w106 hw) (w64 hw) (notFace_of_selects (args := #[]) (mvT hZ (w66 hw))) (w66 hw) (w65 hw) (by decide) (own_bO (W := 3) (own_len0 l Z a0 hw [] G1 G3 a t kb (4 : Int32) [(.int (32 : Int32)), (.int (9 : Int32)), (.int (10 : Int32)), (.int (13 : Int32))] h0 n0 Z0 O2 O4 P5 rG3 OLD0 E_a F_value_a F_coder_a V_t) hZ (w67 hw) (w11 hw) rfl rfl) e214 E_a  (by decide) (by decide) (argsL := []) (rest := [(.int (0 : Int32)), (.int z), (.ref t)]) rfl hml.symm (lenOf pd_14 rfl) rfl rfl (own_w0 rfl rfl) (D 8) ?_
  rintro _ T215 L215 X215 ⟨rfl, N215q, e215⟩
  have N216 := Fr.app N213 N215q
  refine own_callS X215 hx hZ hown (w107 hw) (w108 hw) (w86 hw) (w109 hw) (by decide) (own_bO (W := 0) (own_iosW l Z a0 hw [] t kb z h0 n0 Z0 V_t hb8 hz) hZ (w109 hw) (w86 hw) rfl rfl) e215  (by decide) (by decide) (argsL := [(.ref t), (.int z), (.int (0 : Int32)), (.int (4 : Int32))]) (rest := []) rfl hml.symm (lenOf pd_19 rfl) rfl rfl (own_w0 rfl rfl) (D 9) ?_
  rintro _ T217 L217 X217 ⟨r217, rfl, N217q, e217, p0_217⟩
  have N218 := Fr.app N216 N217q
  refine own_step (g' := (mkF m 36 #[sR a, sI z, sI 0] [(.int r217)])) (fun _ q => XS.goto X217.here hx rfl (pc0 := 20) (pc' := 36) rfl (D 10) (by decide) (by decide) q) ?_
  exact own_retI X217 hx hrt (D 11) hlk ⟨r217, rfl, N218, e217, p0_217⟩ (by decide) (by decide)
def Q_own_ioiW (Z : State) (G1 : Int32) (G3 : Value) (a t : Addr) (kb : ClassId) (z : Int32) (h0 : Heap) (n0 : Nat) (v : Option Value) (h : Heap) (L : List Loc) : Prop := ∃ (r : Int32), v = some (.int r) ∧ Fr n0 L ∧ h = h0 ∧ ((z = (32 : Int32) ∨ z = (9 : Int32) ∨ z = (10 : Int32) ∨ z = (13 : Int32)) → ¬ r < 0) ∧ ((¬ z = (32 : Int32) ∧ ¬ z = (9 : Int32) ∧ ¬ z = (10 : Int32) ∧ ¬ z = (13 : Int32)) → r < 0)
set_option maxRecDepth 65536 in
set_option maxHeartbeats 40000000 in
theorem own_ioiW (l : Launch) (Z : State) (a0 : Array Value) (hw : own_HW a0 Z) (ws : List Jvm.Cond) (G1 : Int32) (G3 : Value) (a t : Addr) (kb : ClassId) (z : Int32) (h0 : Heap) (n0 : Nat) (Z0 : n0 ≤ h0.size) (O2 : own_O2 Z G1) (O4 : own_O4 Z G3) (P5 : ¬ (G1 = (0 : Int32))) (rG3 : G3.isRef = true) (OLD0 : Old Z n0 h0) (E_a : own_Es Z h0 a) (F_value_a : own_Sv Z h0 a (.ref t)) (F_coder_a : own_Sc Z h0 a (.int (0 : Int32))) (V_t : Arv Z h0 t kb .byte (4 : Int32) [(.int (32 : Int32)), (.int (9 : Int32)), (.int (10 : Int32)), (.int (13 : Int32))] (.int 0)) (hb8 : z.toInt8.toInt32 = z) (hz : ¬ z < 0 ∧ ¬ (255 : Int32) < z) :
    own_Met l Z ⟨"java/lang/String", "indexOf", "(I)I"⟩ jdk_42_method_79_code 2 (some .int) ws ⟨3, 0, 0, 46⟩ #[(.ref a), (.int z)] h0 (Q_own_ioiW Z G1 G3 a t kb z h0 n0) := by
  refine own_bodyN (g0 := fun m => mkF m 0 #[sR a, sI z] []) (plainFor_of_name pn_1) (fun _ => rfl) ?_
  intro p e s m below meth c s₁ hx hby hml hrt hlk hown hnm hZ e0 X0
  have D := own_d hby kD20
  have ty_a_t : a ≠ t := (Exa.neArv E_a V_t (w10 hw))
  refine own_step (g' := (mkF m 3 #[sR a, sI z] [(.int 0), (.int z), (.ref a)])) (fun _ q => XS.aloadN X0.here hx rfl (D 0) rfl rfl (XS.iloadN X0.here hx rfl (D 1) rfl (XS.iconst X0.here hx rfl (D 2) q))) ?_
  refine own_callV X0 hx hZ hown (w101 hw) (w102 hw) (notFace_of_selects (args := #[]) (mvT hZ (w104 hw))) (w104 hw) (w103 hw) (by decide) (own_bO (W := 0) (own_iojW l Z a0 hw [] G1 G3 a t kb z h0 n0 Z0 O2 O4 P5 rG3 OLD0 E_a F_value_a F_coder_a V_t hb8 hz) hZ (w105 hw) (w11 hw) rfl rfl) e0 E_a  (by decide) (by decide) (argsL := [(.int z), (.int (0 : Int32))]) (rest := []) rfl hml.symm (lenOf pd_18 rfl) rfl rfl (own_w0 rfl rfl) (D 3) ?_
  rintro _ T219 L219 X219 ⟨r219, rfl, N219q, e219, p0_219⟩
  have N220 := Fr.app (Fr.nil n0) N219q
  exact own_retI X219 hx hrt (D 4) hlk ⟨r219, rfl, N220, e219, p0_219⟩ (by decide) (by decide)
def Q_own_iocX (Z : State) (t : Addr) (kb : ClassId) (z : Int32) (h0 : Heap) (n0 : Nat) (v : Option Value) (h : Heap) (L : List Loc) : Prop := ∃ (r : Int32), v = some (.int r) ∧ Fr n0 L ∧ h = h0 ∧ ((z = (34 : Int32) ∨ z = (92 : Int32) ∨ z = (47 : Int32) ∨ z = (98 : Int32) ∨ z = (102 : Int32) ∨ z = (110 : Int32) ∨ z = (114 : Int32) ∨ z = (116 : Int32)) → ¬ r < 0) ∧ ((¬ z = (34 : Int32) ∧ ¬ z = (92 : Int32) ∧ ¬ z = (47 : Int32) ∧ ¬ z = (98 : Int32) ∧ ¬ z = (102 : Int32) ∧ ¬ z = (110 : Int32) ∧ ¬ z = (114 : Int32) ∧ ¬ z = (116 : Int32)) → r < 0)
set_option maxRecDepth 65536 in
set_option maxHeartbeats 40000000 in
theorem own_iocX (l : Launch) (Z : State) (a0 : Array Value) (hw : own_HW a0 Z) (ws : List Jvm.Cond) (t : Addr) (kb : ClassId) (z : Int32) (h0 : Heap) (n0 : Nat) (Z0 : n0 ≤ h0.size) (V_t : Arv Z h0 t kb .byte (8 : Int32) [(.int (34 : Int32)), (.int (92 : Int32)), (.int (47 : Int32)), (.int (98 : Int32)), (.int (102 : Int32)), (.int (110 : Int32)), (.int (114 : Int32)), (.int (116 : Int32))] (.int 0)) (hb8 : z.toInt8.toInt32 = z) (hz : ¬ z < 0 ∧ ¬ (255 : Int32) < z) :
    own_Met l Z ⟨"java/lang/StringLatin1", "indexOfChar", "([BIII)I"⟩ jdk_43_method_23_code 6 (some .int) ws ⟨0, 0, 0, 0⟩ #[(.ref t), (.int z), (.int (0 : Int32)), (.int (8 : Int32))] h0 (Q_own_iocX Z t kb z h0 n0) := by
  refine own_bodyN (g0 := fun m => mkF m 0 #[sR t, sI z, sI 0, sI 8, .unset, .unset] []) (plainFor_of_name pn_3) (fun _ => rfl) ?_
  intro p e s m below meth c s₁ hx hby hml hrt hlk hown hnm hZ e0 X0
  have D := own_d hby kD26
  refine own_step (g' := (mkF m 2 #[sR t, sI z, sI 0, sI 8, .unset, .unset] [(.int (z.toInt8.toInt32))])) (fun _ q => XS.iloadN X0.here hx rfl (D 0) rfl (XT.i2b X0.here hx rfl (D 1) rfl q)) ?_
  rw [show (z.toInt8.toInt32) = z from hb8]
  refine own_step (g' := (mkF m 19 #[sR t, sI z, sI 0, sI 8, sI z, sI 0] [(.int z), (.int 34)])) (fun _ q => XS.istore X0.here hx rfl (D 2) rfl (l' := #[sR t, sI z, sI 0, sI 8, sI z, .unset]) rfl (XS.iloadN X0.here hx rfl (D 3) rfl (XS.istore X0.here hx rfl (D 4) rfl (l' := #[sR t, sI z, sI 0, sI 8, sI z, sI 0]) rfl (XS.iload X0.here hx rfl (D 5) rfl (XS.iloadN X0.here hx rfl (D 6) rfl (XS.icmpNo X0.here hx rfl (D 7) rfl (by decide) (XS.aloadN X0.here hx rfl (D 8) rfl rfl (XS.iload X0.here hx rfl (D 9) rfl (own_ldB X0 hx hZ e0 V_t (j := (0 : Int32)) ⟨by decide, by decide⟩ (v := (.int (34 : Int32))) rfl (g := (mkF m 16 #[sR t, sI z, sI 0, sI 8, sI z, sI 0] [(.int 0), (.ref t)])) rfl rfl (D 10) _ (XS.iload X0.here hx rfl (D 11) rfl q)))))))))) ?_
  by_cases hc221 : (34 : Int32) = z
  · refine own_step (g' := (mkF m 24 #[sR t, sI z, sI 0, sI 8, sI z, sI 0] [(.int 0)])) (fun _ q => XS.icmpNo X0.here hx rfl (D 12) rfl (XT.ii_ne_f hc221) (XS.iload X0.here hx rfl (D 13) rfl q)) ?_
    exact own_retI X0 hx hrt (D 14) hlk ⟨(0 : Int32), rfl, (Fr.nil n0), e0, ⟨fun _ => by decide, fun q => absurd hc221.symm q.1⟩⟩ (by decide) (by decide)
  · refine own_step (g' := (mkF m 19 #[sR t, sI z, sI 0, sI 8, sI z, sI 1] [(.int z), (.int 92)])) (fun _ q => XS.icmpYes X0.here hx rfl (pc0 := 19) (pc' := 25) rfl (D 12) rfl (XT.ii_ne_t hc221) (by decide) (by decide) (XS.iinc X0.here hx rfl (D 15) rfl (l' := #[sR t, sI z, sI 0, sI 8, sI z, sI 1]) rfl (XS.goto X0.here hx rfl (pc0 := 28) (pc' := 7) rfl (D 16) (by decide) (by decide) (XS.iload X0.here hx rfl (D 5) rfl (XS.iloadN X0.here hx rfl (D 6) rfl (XS.icmpNo X0.here hx rfl (D 7) rfl (by decide) (XS.aloadN X0.here hx rfl (D 8) rfl rfl (XS.iload X0.here hx rfl (D 9) rfl (own_ldB X0 hx hZ e0 V_t (j := (1 : Int32)) ⟨by decide, by decide⟩ (v := (.int (92 : Int32))) rfl (g := (mkF m 16 #[sR t, sI z, sI 0, sI 8, sI z, sI 1] [(.int 1), (.ref t)])) rfl rfl (D 10) _ (XS.iload X0.here hx rfl (D 11) rfl q)))))))))) ?_
    by_cases hc222 : (92 : Int32) = z
    · refine own_step (g' := (mkF m 24 #[sR t, sI z, sI 0, sI 8, sI z, sI 1] [(.int 1)])) (fun _ q => XS.icmpNo X0.here hx rfl (D 12) rfl (XT.ii_ne_f hc222) (XS.iload X0.here hx rfl (D 13) rfl q)) ?_
      exact own_retI X0 hx hrt (D 14) hlk ⟨(1 : Int32), rfl, (Fr.nil n0), e0, ⟨fun _ => by decide, fun q => absurd hc222.symm q.2.1⟩⟩ (by decide) (by decide)
    · refine own_step (g' := (mkF m 19 #[sR t, sI z, sI 0, sI 8, sI z, sI 2] [(.int z), (.int 47)])) (fun _ q => XS.icmpYes X0.here hx rfl (pc0 := 19) (pc' := 25) rfl (D 12) rfl (XT.ii_ne_t hc222) (by decide) (by decide) (XS.iinc X0.here hx rfl (D 15) rfl (l' := #[sR t, sI z, sI 0, sI 8, sI z, sI 2]) rfl (XS.goto X0.here hx rfl (pc0 := 28) (pc' := 7) rfl (D 16) (by decide) (by decide) (XS.iload X0.here hx rfl (D 5) rfl (XS.iloadN X0.here hx rfl (D 6) rfl (XS.icmpNo X0.here hx rfl (D 7) rfl (by decide) (XS.aloadN X0.here hx rfl (D 8) rfl rfl (XS.iload X0.here hx rfl (D 9) rfl (own_ldB X0 hx hZ e0 V_t (j := (2 : Int32)) ⟨by decide, by decide⟩ (v := (.int (47 : Int32))) rfl (g := (mkF m 16 #[sR t, sI z, sI 0, sI 8, sI z, sI 2] [(.int 2), (.ref t)])) rfl rfl (D 10) _ (XS.iload X0.here hx rfl (D 11) rfl q)))))))))) ?_
      by_cases hc223 : (47 : Int32) = z
      · refine own_step (g' := (mkF m 24 #[sR t, sI z, sI 0, sI 8, sI z, sI 2] [(.int 2)])) (fun _ q => XS.icmpNo X0.here hx rfl (D 12) rfl (XT.ii_ne_f hc223) (XS.iload X0.here hx rfl (D 13) rfl q)) ?_
        exact own_retI X0 hx hrt (D 14) hlk ⟨(2 : Int32), rfl, (Fr.nil n0), e0, ⟨fun _ => by decide, fun q => absurd hc223.symm q.2.2.1⟩⟩ (by decide) (by decide)
      · refine own_step (g' := (mkF m 19 #[sR t, sI z, sI 0, sI 8, sI z, sI 3] [(.int z), (.int 98)])) (fun _ q => XS.icmpYes X0.here hx rfl (pc0 := 19) (pc' := 25) rfl (D 12) rfl (XT.ii_ne_t hc223) (by decide) (by decide) (XS.iinc X0.here hx rfl (D 15) rfl (l' := #[sR t, sI z, sI 0, sI 8, sI z, sI 3]) rfl (XS.goto X0.here hx rfl (pc0 := 28) (pc' := 7) rfl (D 16) (by decide) (by decide) (XS.iload X0.here hx rfl (D 5) rfl (XS.iloadN X0.here hx rfl (D 6) rfl (XS.icmpNo X0.here hx rfl (D 7) rfl (by decide) (XS.aloadN X0.here hx rfl (D 8) rfl rfl (XS.iload X0.here hx rfl (D 9) rfl (own_ldB X0 hx hZ e0 V_t (j := (3 : Int32)) ⟨by decide, by decide⟩ (v := (.int (98 : Int32))) rfl (g := (mkF m 16 #[sR t, sI z, sI 0, sI 8, sI z, sI 3] [(.int 3), (.ref t)])) rfl rfl (D 10) _ (XS.iload X0.here hx rfl (D 11) rfl q)))))))))) ?_
        by_cases hc224 : (98 : Int32) = z
        · refine own_step (g' := (mkF m 24 #[sR t, sI z, sI 0, sI 8, sI z, sI 3] [(.int 3)])) (fun _ q => XS.icmpNo X0.here hx rfl (D 12) rfl (XT.ii_ne_f hc224) (XS.iload X0.here hx rfl (D 13) rfl q)) ?_
          exact own_retI X0 hx hrt (D 14) hlk ⟨(3 : Int32), rfl, (Fr.nil n0), e0, ⟨fun _ => by decide, fun q => absurd hc224.symm q.2.2.2.1⟩⟩ (by decide) (by decide)
        · refine own_step (g' := (mkF m 19 #[sR t, sI z, sI 0, sI 8, sI z, sI 4] [(.int z), (.int 102)])) (fun _ q => XS.icmpYes X0.here hx rfl (pc0 := 19) (pc' := 25) rfl (D 12) rfl (XT.ii_ne_t hc224) (by decide) (by decide) (XS.iinc X0.here hx rfl (D 15) rfl (l' := #[sR t, sI z, sI 0, sI 8, sI z, sI 4]) rfl (XS.goto X0.here hx rfl (pc0 := 28) (pc' := 7) rfl (D 16) (by decide) (by decide) (XS.iload X0.here hx rfl (D 5) rfl (XS.iloadN X0.here hx rfl (D 6) rfl (XS.icmpNo X0.here hx rfl (D 7) rfl (by decide) (XS.aloadN X0.here hx rfl (D 8) rfl rfl (XS.iload X0.here hx rfl (D 9) rfl (own_ldB X0 hx hZ e0 V_t (j := (4 : Int32)) ⟨by decide, by decide⟩ (v := (.int (102 : Int32))) rfl (g := (mkF m 16 #[sR t, sI z, sI 0, sI 8, sI z, sI 4] [(.int 4), (.ref t)])) rfl rfl (D 10) _ (XS.iload X0.here hx rfl (D 11) rfl q)))))))))) ?_
          by_cases hc225 : (102 : Int32) = z
          · refine own_step (g' := (mkF m 24 #[sR t, sI z, sI 0, sI 8, sI z, sI 4] [(.int 4)])) (fun _ q => XS.icmpNo X0.here hx rfl (D 12) rfl (XT.ii_ne_f hc225) (XS.iload X0.here hx rfl (D 13) rfl q)) ?_
            exact own_retI X0 hx hrt (D 14) hlk ⟨(4 : Int32), rfl, (Fr.nil n0), e0, ⟨fun _ => by decide, fun q => absurd hc225.symm q.2.2.2.2.1⟩⟩ (by decide) (by decide)
          · refine own_step (g' := (mkF m 19 #[sR t, sI z, sI 0, sI 8, sI z, sI 5] [(.int z), (.int 110)])) (fun _ q => XS.icmpYes X0.here hx rfl (pc0 := 19) (pc' := 25) rfl (D 12) rfl (XT.ii_ne_t hc225) (by decide) (by decide) (XS.iinc X0.here hx rfl (D 15) rfl (l' := #[sR t, sI z, sI 0, sI 8, sI z, sI 5]) rfl (XS.goto X0.here hx rfl (pc0 := 28) (pc' := 7) rfl (D 16) (by decide) (by decide) (XS.iload X0.here hx rfl (D 5) rfl (XS.iloadN X0.here hx rfl (D 6) rfl (XS.icmpNo X0.here hx rfl (D 7) rfl (by decide) (XS.aloadN X0.here hx rfl (D 8) rfl rfl (XS.iload X0.here hx rfl (D 9) rfl (own_ldB X0 hx hZ e0 V_t (j := (5 : Int32)) ⟨by decide, by decide⟩ (v := (.int (110 : Int32))) rfl (g := (mkF m 16 #[sR t, sI z, sI 0, sI 8, sI z, sI 5] [(.int 5), (.ref t)])) rfl rfl (D 10) _ (XS.iload X0.here hx rfl (D 11) rfl q)))))))))) ?_
            by_cases hc226 : (110 : Int32) = z
            · refine own_step (g' := (mkF m 24 #[sR t, sI z, sI 0, sI 8, sI z, sI 5] [(.int 5)])) (fun _ q => XS.icmpNo X0.here hx rfl (D 12) rfl (XT.ii_ne_f hc226) (XS.iload X0.here hx rfl (D 13) rfl q)) ?_
              exact own_retI X0 hx hrt (D 14) hlk ⟨(5 : Int32), rfl, (Fr.nil n0), e0, ⟨fun _ => by decide, fun q => absurd hc226.symm q.2.2.2.2.2.1⟩⟩ (by decide) (by decide)
            · refine own_step (g' := (mkF m 19 #[sR t, sI z, sI 0, sI 8, sI z, sI 6] [(.int z), (.int 114)])) (fun _ q => XS.icmpYes X0.here hx rfl (pc0 := 19) (pc' := 25) rfl (D 12) rfl (XT.ii_ne_t hc226) (by decide) (by decide) (XS.iinc X0.here hx rfl (D 15) rfl (l' := #[sR t, sI z, sI 0, sI 8, sI z, sI 6]) rfl (XS.goto X0.here hx rfl (pc0 := 28) (pc' := 7) rfl (D 16) (by decide) (by decide) (XS.iload X0.here hx rfl (D 5) rfl (XS.iloadN X0.here hx rfl (D 6) rfl (XS.icmpNo X0.here hx rfl (D 7) rfl (by decide) (XS.aloadN X0.here hx rfl (D 8) rfl rfl (XS.iload X0.here hx rfl (D 9) rfl (own_ldB X0 hx hZ e0 V_t (j := (6 : Int32)) ⟨by decide, by decide⟩ (v := (.int (114 : Int32))) rfl (g := (mkF m 16 #[sR t, sI z, sI 0, sI 8, sI z, sI 6] [(.int 6), (.ref t)])) rfl rfl (D 10) _ (XS.iload X0.here hx rfl (D 11) rfl q)))))))))) ?_
              by_cases hc227 : (114 : Int32) = z
              · refine own_step (g' := (mkF m 24 #[sR t, sI z, sI 0, sI 8, sI z, sI 6] [(.int 6)])) (fun _ q => XS.icmpNo X0.here hx rfl (D 12) rfl (XT.ii_ne_f hc227) (XS.iload X0.here hx rfl (D 13) rfl q)) ?_
                exact own_retI X0 hx hrt (D 14) hlk ⟨(6 : Int32), rfl, (Fr.nil n0), e0, ⟨fun _ => by decide, fun q => absurd hc227.symm q.2.2.2.2.2.2.1⟩⟩ (by decide) (by decide)
              · refine own_step (g' := (mkF m 19 #[sR t, sI z, sI 0, sI 8, sI z, sI 7] [(.int z), (.int 116)])) (fun _ q => XS.icmpYes X0.here hx rfl (pc0 := 19) (pc' := 25) rfl (D 12) rfl (XT.ii_ne_t hc227) (by decide) (by decide) (XS.iinc X0.here hx rfl (D 15) rfl (l' := #[sR t, sI z, sI 0, sI 8, sI z, sI 7]) rfl (XS.goto X0.here hx rfl (pc0 := 28) (pc' := 7) rfl (D 16) (by decide) (by decide) (XS.iload X0.here hx rfl (D 5) rfl (XS.iloadN X0.here hx rfl (D 6) rfl (XS.icmpNo X0.here hx rfl (D 7) rfl (by decide) (XS.aloadN X0.here hx rfl (D 8) rfl rfl (XS.iload X0.here hx rfl (D 9) rfl (own_ldB X0 hx hZ e0 V_t (j := (7 : Int32)) ⟨by decide, by decide⟩ (v := (.int (116 : Int32))) rfl (g := (mkF m 16 #[sR t, sI z, sI 0, sI 8, sI z, sI 7] [(.int 7), (.ref t)])) rfl rfl (D 10) _ (XS.iload X0.here hx rfl (D 11) rfl q)))))))))) ?_
                by_cases hc228 : (116 : Int32) = z
                · refine own_step (g' := (mkF m 24 #[sR t, sI z, sI 0, sI 8, sI z, sI 7] [(.int 7)])) (fun _ q => XS.icmpNo X0.here hx rfl (D 12) rfl (XT.ii_ne_f hc228) (XS.iload X0.here hx rfl (D 13) rfl q)) ?_
                  exact own_retI X0 hx hrt (D 14) hlk ⟨(7 : Int32), rfl, (Fr.nil n0), e0, ⟨fun _ => by decide, fun q => absurd hc228.symm q.2.2.2.2.2.2.2⟩⟩ (by decide) (by decide)
                · refine own_step (g' := (mkF m 32 #[sR t, sI z, sI 0, sI 8, sI z, sI 8] [(.int (-1))])) (fun _ q => XS.icmpYes X0.here hx rfl (pc0 := 19) (pc' := 25) rfl (D 12) rfl (XT.ii_ne_t hc228) (by decide) (by decide) (XS.iinc X0.here hx rfl (D 15) rfl (l' := #[sR t, sI z, sI 0, sI 8, sI z, sI 8]) rfl (XS.goto X0.here hx rfl (pc0 := 28) (pc' := 7) rfl (D 16) (by decide) (by decide) (XS.iload X0.here hx rfl (D 5) rfl (XS.iloadN X0.here hx rfl (D 6) rfl (XS.icmpYes X0.here hx rfl (pc0 := 10) (pc' := 31) rfl (D 7) rfl (by decide) (by decide) (by decide) (XS.iconst X0.here hx rfl (D 17) q))))))) ?_
                  exact own_retI X0 hx hrt (D 18) hlk ⟨(-1 : Int32), rfl, (Fr.nil n0), e0, ⟨(fun q => q.elim (fun q => absurd q.symm hc221) (fun q => q.elim (fun q => absurd q.symm hc222) (fun q => q.elim (fun q => absurd q.symm hc223) (fun q => q.elim (fun q => absurd q.symm hc224) (fun q => q.elim (fun q => absurd q.symm hc225) (fun q => q.elim (fun q => absurd q.symm hc226) (fun q => q.elim (fun q => absurd q.symm hc227) (fun q => absurd q.symm hc228)))))))), fun _ => by decide⟩⟩ (by decide) (by decide)
def Q_own_iosX (Z : State) (t : Addr) (kb : ClassId) (z : Int32) (h0 : Heap) (n0 : Nat) (v : Option Value) (h : Heap) (L : List Loc) : Prop := ∃ (r : Int32), v = some (.int r) ∧ Fr n0 L ∧ h = h0 ∧ ((z = (34 : Int32) ∨ z = (92 : Int32) ∨ z = (47 : Int32) ∨ z = (98 : Int32) ∨ z = (102 : Int32) ∨ z = (110 : Int32) ∨ z = (114 : Int32) ∨ z = (116 : Int32)) → ¬ r < 0) ∧ ((¬ z = (34 : Int32) ∧ ¬ z = (92 : Int32) ∧ ¬ z = (47 : Int32) ∧ ¬ z = (98 : Int32) ∧ ¬ z = (102 : Int32) ∧ ¬ z = (110 : Int32) ∧ ¬ z = (114 : Int32) ∧ ¬ z = (116 : Int32)) → r < 0)
set_option maxRecDepth 65536 in
set_option maxHeartbeats 40000000 in
theorem own_iosX (l : Launch) (Z : State) (a0 : Array Value) (hw : own_HW a0 Z) (ws : List Jvm.Cond) (t : Addr) (kb : ClassId) (z : Int32) (h0 : Heap) (n0 : Nat) (Z0 : n0 ≤ h0.size) (V_t : Arv Z h0 t kb .byte (8 : Int32) [(.int (34 : Int32)), (.int (92 : Int32)), (.int (47 : Int32)), (.int (98 : Int32)), (.int (102 : Int32)), (.int (110 : Int32)), (.int (114 : Int32)), (.int (116 : Int32))] (.int 0)) (hb8 : z.toInt8.toInt32 = z) (hz : ¬ z < 0 ∧ ¬ (255 : Int32) < z) :
    own_Met l Z ⟨"java/lang/StringLatin1", "indexOf", "([BIII)I"⟩ jdk_43_method_22_code 4 (some .int) ws ⟨1, 0, 0, 17⟩ #[(.ref t), (.int z), (.int (0 : Int32)), (.int (8 : Int32))] h0 (Q_own_iosX Z t kb z h0 n0) := by
  refine own_bodyN (g0 := fun m => mkF m 0 #[sR t, sI z, sI 0, sI 8] []) (plainFor_of_name pn_3) (fun _ => rfl) ?_
  intro p e s m below meth c s₁ hx hby hml hrt hlk hown hnm hZ e0 X0
  have D := own_d hby kD22
  refine own_step (g' := (mkF m 1 #[sR t, sI z, sI 0, sI 8] [(.int z)])) (fun _ q => XS.iloadN X0.here hx rfl (D 0) rfl q) ?_
  refine own_callS X0 hx hZ hown (w110 hw) (w111 hw) (w86 hw) (w112 hw) (by decide) (own_bO (W := 0) (own_cani l Z a0 hw [] z h0 n0 Z0 hz) hZ (w112 hw) (w86 hw) rfl rfl) e0  (by decide) (by decide) (argsL := [(.int z)]) (rest := []) rfl hml.symm (lenOf pd_17 rfl) rfl rfl (own_w0 rfl rfl) (D 1) ?_
  rintro _ T229 L229 X229 ⟨rfl, N229q, e229⟩
  have N230 := Fr.app (Fr.nil n0) N229q
  refine own_step (g' := (mkF m 11 #[sR t, sI z, sI 0, sI 8] [(.int 0), (.int 0)])) (fun _ q => XS.ifYes X229.here hx rfl (pc0 := 4) (pc' := 9) rfl (D 2) rfl (by decide) (by decide) (by decide) (XS.iloadN X229.here hx rfl (D 3) rfl (XS.iconst X229.here hx rfl (D 4) q))) ?_
  refine own_callS X229 hx hZ hown (w113 hw) (w114 hw) (w115 hw) (w116 hw) (by decide) (own_bO (W := 0) (own_max0 l Z a0 hw []  h0 n0 Z0 ) hZ (w116 hw) (w115 hw) rfl rfl) e229  (by decide) (by decide) (argsL := [(.int (0 : Int32)), (.int (0 : Int32))]) (rest := []) rfl hml.symm (lenOf pd_18 rfl) rfl rfl (own_w0 rfl rfl) (D 5) ?_
  rintro _ T231 L231 X231 ⟨rfl, N231q, e231⟩
  have N232 := Fr.app N230 N231q
  refine own_step (g' := (mkF m 18 #[sR t, sI z, sI 0, sI 8] [(.int 8), (.int 8)])) (fun _ q => XS.istoreN X231.here hx rfl (D 6) rfl (l' := #[sR t, sI z, sI 0, sI 8]) rfl (XS.iloadN X231.here hx rfl (D 7) rfl (XS.aloadN X231.here hx rfl (D 8) rfl rfl (own_len X231 hx hZ e231 V_t (g := (mkF m 17 #[sR t, sI z, sI 0, sI 8] [(.ref t), (.int 8)])) rfl rfl (D 9) _ q)))) ?_
  refine own_callS X231 hx hZ hown (w117 hw) (w118 hw) (w115 hw) (w119 hw) (by decide) (own_bO (W := 0) (own_min8 l Z a0 hw []  h0 n0 Z0 ) hZ (w119 hw) (w115 hw) rfl rfl) e231  (by decide) (by decide) (argsL := [(.int (8 : Int32)), (.int (8 : Int32))]) (rest := []) rfl hml.symm (lenOf pd_18 rfl) rfl rfl (own_w0 rfl rfl) (D 10) ?_
  rintro _ T233 L233 X233 ⟨rfl, N233q, e233⟩
  have N234 := Fr.app N232 N233q
  refine own_step (g' := (mkF m 33 #[sR t, sI z, sI 0, sI 8] [(.int 8), (.int 0), (.int z), (.ref t)])) (fun _ q => XS.istoreN X233.here hx rfl (D 11) rfl (l' := #[sR t, sI z, sI 0, sI 8]) rfl (XS.iloadN X233.here hx rfl (D 12) rfl (XS.iloadN X233.here hx rfl (D 13) rfl (XS.icmpYes X233.here hx rfl (pc0 := 24) (pc' := 29) rfl (D 14) rfl (by decide) (by decide) (by decide) (XS.aloadN X233.here hx rfl (D 15) rfl rfl (XS.iloadN X233.here hx rfl (D 16) rfl (XS.iloadN X233.here hx rfl (D 17) rfl (XS.iloadN X233.here hx rfl (D 18) rfl q)))))))) ?_
  refine own_callS X233 hx hZ hown (w120 hw) (w121 hw) (w86 hw) (w122 hw) (by decide) (own_bO (W := 0) (own_iocX l Z a0 hw [] t kb z h0 n0 Z0 V_t hb8 hz) hZ (w122 hw) (w86 hw) rfl rfl) e233  (by decide) (by decide) (argsL := [(.ref t), (.int z), (.int (0 : Int32)), (.int (8 : Int32))]) (rest := []) rfl hml.symm (lenOf pd_19 rfl) rfl rfl (own_w0 rfl rfl) (D 19) ?_
  rintro _ T235 L235 X235 ⟨r235, rfl, N235q, e235, p0_235⟩
  have N236 := Fr.app N234 N235q
  exact own_retI X235 hx hrt (D 20) hlk ⟨r235, rfl, N236, e235, p0_235⟩ (by decide) (by decide)
def Q_own_iojX (Z : State) (G1 : Int32) (G3 : Value) (a t : Addr) (kb : ClassId) (z : Int32) (h0 : Heap) (n0 : Nat) (v : Option Value) (h : Heap) (L : List Loc) : Prop := ∃ (r : Int32), v = some (.int r) ∧ Fr n0 L ∧ h = h0 ∧ ((z = (34 : Int32) ∨ z = (92 : Int32) ∨ z = (47 : Int32) ∨ z = (98 : Int32) ∨ z = (102 : Int32) ∨ z = (110 : Int32) ∨ z = (114 : Int32) ∨ z = (116 : Int32)) → ¬ r < 0) ∧ ((¬ z = (34 : Int32) ∧ ¬ z = (92 : Int32) ∧ ¬ z = (47 : Int32) ∧ ¬ z = (98 : Int32) ∧ ¬ z = (102 : Int32) ∧ ¬ z = (110 : Int32) ∧ ¬ z = (114 : Int32) ∧ ¬ z = (116 : Int32)) → r < 0)
set_option maxRecDepth 65536 in
set_option maxHeartbeats 40000000 in
theorem own_iojX (l : Launch) (Z : State) (a0 : Array Value) (hw : own_HW a0 Z) (ws : List Jvm.Cond) (G1 : Int32) (G3 : Value) (a t : Addr) (kb : ClassId) (z : Int32) (h0 : Heap) (n0 : Nat) (Z0 : n0 ≤ h0.size) (O2 : own_O2 Z G1) (O4 : own_O4 Z G3) (P5 : ¬ (G1 = (0 : Int32))) (rG3 : G3.isRef = true) (OLD0 : Old Z n0 h0) (E_a : own_Es Z h0 a) (F_value_a : own_Sv Z h0 a (.ref t)) (F_coder_a : own_Sc Z h0 a (.int (0 : Int32))) (V_t : Arv Z h0 t kb .byte (8 : Int32) [(.int (34 : Int32)), (.int (92 : Int32)), (.int (47 : Int32)), (.int (98 : Int32)), (.int (102 : Int32)), (.int (110 : Int32)), (.int (114 : Int32)), (.int (116 : Int32))] (.int 0)) (hb8 : z.toInt8.toInt32 = z) (hz : ¬ z < 0 ∧ ¬ (255 : Int32) < z) :
    own_Met l Z ⟨"java/lang/String", "indexOf", "(II)I"⟩ jdk_42_method_80_code 3 (some .int) ws ⟨2, 0, 0, 32⟩ #[(.ref a), (.int z), (.int (0 : Int32))] h0 (Q_own_iojX Z G1 G3 a t kb z h0 n0) := by
  refine own_bodyN (g0 := fun m => mkF m 0 #[sR a, sI z, sI 0] []) (plainFor_of_name pn_1) (fun _ => rfl) ?_
  intro p e s m below meth c s₁ hx hby hml hrt hlk hown hnm hZ e0 X0
  have D := own_d hby kD21
  have ty_a_t : a ≠ t := (Exa.neArv E_a V_t (w10 hw))
  refine own_step (g' := (mkF m 1 #[sR a, sI z, sI 0] [(.ref a)])) (fun _ q => XS.aloadN X0.here hx rfl (D 0) rfl rfl q) ?_
  refine own_callV X0 hx hZ hown (w79 hw) (w80 hw) (notFace_of_selects (args := #[]) (mvT hZ (w82 hw))) (w82 hw) (w81 hw) (by decide) (own_bO (W := 0) (own_isl0 l Z a0 hw [] G1 G3 a h0 n0 Z0 O2 O4 P5 rG3 OLD0 F_coder_a) hZ (w83 hw) (w11 hw) rfl rfl) e0 E_a  (by decide) (by decide) (argsL := []) (rest := []) rfl hml.symm (lenOf pd_5 rfl) rfl rfl (own_w0 rfl rfl) (D 1) ?_
  rintro _ T237 L237 X237 ⟨rfl, N237q, e237⟩
  have N238 := Fr.app (Fr.nil n0) N237q
  refine own_step (g' := (mkF m 8 #[sR a, sI z, sI 0] [(.ref a)])) (fun _ q => XS.ifNo X237.here hx rfl (D 2) rfl (by decide) (XS.aloadN X237.here hx rfl (D 3) rfl rfl q)) ?_
  refine own_gF X237 hx hZ hown (w36 hw) e237 F_value_a rfl rfl (D 4) fun T239 X239 e239 => ?_
  refine own_step (g' := (mkF m 14 #[sR a, sI z, sI 0] [(.ref a), (.int 0), (.int z), (.ref t)])) (fun _ q => XS.iloadN X239.here hx rfl (D 5) rfl (XS.iloadN X239.here hx rfl (D 6) rfl (XS.aloadN X239.here hx rfl (D 7) rfl rfl q))) ?_
  refine own_callV X239 hx hZ hown (w106 hw) (w64 hw) (notFace_of_selects (args := #[]) (mvT hZ (w66 hw))) (w66 hw) (w65 hw) (by decide) (own_bO (W := 3) (own_len0 l Z a0 hw [] G1 G3 a t kb (8 : Int32) [(.int (34 : Int32)), (.int (92 : Int32)), (.int (47 : Int32)), (.int (98 : Int32)), (.int (102 : Int32)), (.int (110 : Int32)), (.int (114 : Int32)), (.int (116 : Int32))] h0 n0 Z0 O2 O4 P5 rG3 OLD0 E_a F_value_a F_coder_a V_t) hZ (w67 hw) (w11 hw) rfl rfl) e239 E_a  (by decide) (by decide) (argsL := []) (rest := [(.int (0 : Int32)), (.int z), (.ref t)]) rfl hml.symm (lenOf pd_14 rfl) rfl rfl (own_w0 rfl rfl) (D 8) ?_
  rintro _ T240 L240 X240 ⟨rfl, N240q, e240⟩
  have N241 := Fr.app N238 N240q
  refine own_callS X240 hx hZ hown (w107 hw) (w108 hw) (w86 hw) (w109 hw) (by decide) (own_bO (W := 0) (own_iosX l Z a0 hw [] t kb z h0 n0 Z0 V_t hb8 hz) hZ (w109 hw) (w86 hw) rfl rfl) e240  (by decide) (by decide) (argsL := [(.ref t), (.int z), (.int (0 : Int32)), (.int (8 : Int32))]) (rest := []) rfl hml.symm (lenOf pd_19 rfl) rfl rfl (own_w0 rfl rfl) (D 9) ?_
  rintro _ T242 L242 X242 ⟨r242, rfl, N242q, e242, p0_242⟩
  have N243 := Fr.app N241 N242q
  refine own_step (g' := (mkF m 36 #[sR a, sI z, sI 0] [(.int r242)])) (fun _ q => XS.goto X242.here hx rfl (pc0 := 20) (pc' := 36) rfl (D 10) (by decide) (by decide) q) ?_
  exact own_retI X242 hx hrt (D 11) hlk ⟨r242, rfl, N243, e242, p0_242⟩ (by decide) (by decide)
def Q_own_ioiX (Z : State) (G1 : Int32) (G3 : Value) (a t : Addr) (kb : ClassId) (z : Int32) (h0 : Heap) (n0 : Nat) (v : Option Value) (h : Heap) (L : List Loc) : Prop := ∃ (r : Int32), v = some (.int r) ∧ Fr n0 L ∧ h = h0 ∧ ((z = (34 : Int32) ∨ z = (92 : Int32) ∨ z = (47 : Int32) ∨ z = (98 : Int32) ∨ z = (102 : Int32) ∨ z = (110 : Int32) ∨ z = (114 : Int32) ∨ z = (116 : Int32)) → ¬ r < 0) ∧ ((¬ z = (34 : Int32) ∧ ¬ z = (92 : Int32) ∧ ¬ z = (47 : Int32) ∧ ¬ z = (98 : Int32) ∧ ¬ z = (102 : Int32) ∧ ¬ z = (110 : Int32) ∧ ¬ z = (114 : Int32) ∧ ¬ z = (116 : Int32)) → r < 0)
set_option maxRecDepth 65536 in
set_option maxHeartbeats 40000000 in
theorem own_ioiX (l : Launch) (Z : State) (a0 : Array Value) (hw : own_HW a0 Z) (ws : List Jvm.Cond) (G1 : Int32) (G3 : Value) (a t : Addr) (kb : ClassId) (z : Int32) (h0 : Heap) (n0 : Nat) (Z0 : n0 ≤ h0.size) (O2 : own_O2 Z G1) (O4 : own_O4 Z G3) (P5 : ¬ (G1 = (0 : Int32))) (rG3 : G3.isRef = true) (OLD0 : Old Z n0 h0) (E_a : own_Es Z h0 a) (F_value_a : own_Sv Z h0 a (.ref t)) (F_coder_a : own_Sc Z h0 a (.int (0 : Int32))) (V_t : Arv Z h0 t kb .byte (8 : Int32) [(.int (34 : Int32)), (.int (92 : Int32)), (.int (47 : Int32)), (.int (98 : Int32)), (.int (102 : Int32)), (.int (110 : Int32)), (.int (114 : Int32)), (.int (116 : Int32))] (.int 0)) (hb8 : z.toInt8.toInt32 = z) (hz : ¬ z < 0 ∧ ¬ (255 : Int32) < z) :
    own_Met l Z ⟨"java/lang/String", "indexOf", "(I)I"⟩ jdk_42_method_79_code 2 (some .int) ws ⟨3, 0, 0, 46⟩ #[(.ref a), (.int z)] h0 (Q_own_ioiX Z G1 G3 a t kb z h0 n0) := by
  refine own_bodyN (g0 := fun m => mkF m 0 #[sR a, sI z] []) (plainFor_of_name pn_1) (fun _ => rfl) ?_
  intro p e s m below meth c s₁ hx hby hml hrt hlk hown hnm hZ e0 X0
  have D := own_d hby kD20
  have ty_a_t : a ≠ t := (Exa.neArv E_a V_t (w10 hw))
  refine own_step (g' := (mkF m 3 #[sR a, sI z] [(.int 0), (.int z), (.ref a)])) (fun _ q => XS.aloadN X0.here hx rfl (D 0) rfl rfl (XS.iloadN X0.here hx rfl (D 1) rfl (XS.iconst X0.here hx rfl (D 2) q))) ?_
  refine own_callV X0 hx hZ hown (w101 hw) (w102 hw) (notFace_of_selects (args := #[]) (mvT hZ (w104 hw))) (w104 hw) (w103 hw) (by decide) (own_bO (W := 0) (own_iojX l Z a0 hw [] G1 G3 a t kb z h0 n0 Z0 O2 O4 P5 rG3 OLD0 E_a F_value_a F_coder_a V_t hb8 hz) hZ (w105 hw) (w11 hw) rfl rfl) e0 E_a  (by decide) (by decide) (argsL := [(.int z), (.int (0 : Int32))]) (rest := []) rfl hml.symm (lenOf pd_18 rfl) rfl rfl (own_w0 rfl rfl) (D 3) ?_
  rintro _ T244 L244 X244 ⟨r244, rfl, N244q, e244, p0_244⟩
  have N245 := Fr.app (Fr.nil n0) N244q
  exact own_retI X244 hx hrt (D 4) hlk ⟨r244, rfl, N245, e244, p0_244⟩ (by decide) (by decide)
def Q_own_sd (Z : State) (G1 : Int32) (G3 : Value) (a tx t : Addr) (kb : ClassId) (cd N2 : Int32) (vs : List Value) (cs : List Int32) (pn n : Nat) (h0 : Heap) (n0 : Nat) (v : Option Value) (h : Heap) (L : List Loc) : Prop := v = none ∧ Fr n0 L ∧ Keep h0 h [a] ∧ own_Ea Z h a ∧ own_Ft Z h a (.ref tx) ∧ own_Fp Z h a (.int (Int32.ofNat (pn + n)))
set_option maxRecDepth 65536 in
set_option maxHeartbeats 40000000 in
theorem own_sd (l : Launch) (Z : State) (a0 : Array Value) (hw : own_HW a0 Z) (ws : List Jvm.Cond) (G1 : Int32) (G3 : Value) (a tx t : Addr) (kb : ClassId) (cd N2 : Int32) (vs : List Value) (cs : List Int32) (pn n : Nat) (h0 : Heap) (n0 : Nat) (Z0 : n0 ≤ h0.size) (O2 : own_O2 Z G1) (O4 : own_O4 Z G3) (P5 : ¬ (G1 = (0 : Int32))) (rG3 : G3.isRef = true) (OLD0 : Old Z n0 h0) (U1 : own_U0 Z) (U2 : own_U1 Z) (U3 : own_U2 Z) (E_a : own_Ea Z h0 a) (F_text_a : own_Ft Z h0 a (.ref tx)) (F_pos_a : own_Fp Z h0 a (.int (Int32.ofNat pn))) (E_tx : own_Es Z h0 tx) (F_value_tx : own_Sv Z h0 tx (.ref t)) (F_coder_tx : own_Sc Z h0 tx (.int cd)) (V_t : Arv Z h0 t kb .byte N2 vs (.int 0)) (hcod : StrChars.Road.CodA cs cd N2 vs) (hcs : own_R16 cs) (h8 : cs.length = 8) (ge_a : n0 ≤ a) (hdg : ∀ i, i < n → ¬ cs.getD (pn + i) 0 < (48 : Int32) ∧ ¬ (57 : Int32) < cs.getD (pn + i) 0) (hen : ¬ (¬ cs.getD (pn + n) 0 < (48 : Int32) ∧ ¬ (57 : Int32) < cs.getD (pn + n) 0)) (hp : pn + n < 8) :
    own_Met l Z ⟨"com/example/tote/tote/JsonText", "skipDigits", "()V"⟩ prog_12_method_14_code 1 none ws ⟨5, 0, 0, 66⟩ #[(.ref a)] h0 (Q_own_sd Z G1 G3 a tx t kb cd N2 vs cs pn n h0 n0) := by
  refine own_bodyN (g0 := fun m => mkF m 0 #[sR a] []) (plainFor_of_name pn_4) (fun _ => rfl) ?_
  intro p e s m below meth c s₁ hx hby hml hrt hlk hown hnm hZ e0 X0
  have D := own_d hby kD47
  have ty_a_tx : a ≠ tx := (Exa.ne E_a E_tx (by decide))
  have ty_a_t : a ≠ t := (Exa.neArv E_a V_t (w50 hw))
  have ty_tx_t : tx ≠ t := (Exa.neArv E_tx V_t (w10 hw))
  have lp_sd : ∀ (k_sd : Nat) (i : Nat) (T_sd : State) (h_sd : Heap) (L_sd : List Loc) (X_sd : Stand p l e (⟨5, 0, 0, 66⟩ : Room) s m #[(.ref a)] below meth c T_sd L_sd 0 0) (e_sd : T_sd.heap = h_sd) (N_sd : Fr n0 L_sd) (KL_sd : Keep h0 h_sd [a]) (g0_sd : own_Ea Z h_sd a) (g1_sd : own_Ft Z h_sd a (.ref tx)) (g2_sd : own_Fp Z h_sd a (.int (Int32.ofNat (pn + i)))) (hi : i ≤ n) (hk_sd : n - i = k_sd), own_Fin p e below (own_G s (Q_own_sd Z G1 G3 a tx t kb cd N2 vs cs pn n h0 n0) (⟨5, 0, 0, 66⟩ : Room).cells (⟨5, 0, 0, 66⟩ : Room).slots) T_sd (mkF m 0 #[sR a] []) := by
    intro k_sd
    induction k_sd using Nat.strongRecOn with | _ k_sd ih_sd => ?_
    intro i T_sd h_sd L_sd X_sd e_sd N_sd KL_sd g0_sd g1_sd g2_sd hi hk_sd
    subst hk_sd
    refine own_step (g' := (mkF m 1 #[sR a] [(.ref a)])) (fun _ q => XS.aloadN X_sd.here hx rfl (D 0) rfl rfl q) ?_
    refine own_gF X_sd hx hZ hown (w61 hw) e_sd g2_sd rfl rfl (D 1) fun T246 X246 e246 => ?_
    refine own_step (g' := (mkF m 5 #[sR a] [(.ref a), (.int (Int32.ofNat (pn + i)))])) (fun _ q => XS.aloadN X246.here hx rfl (D 2) rfl rfl q) ?_
    refine own_gF X246 hx hZ hown (w55 hw) e246 g1_sd rfl rfl (D 3) fun T247 X247 e247 => ?_
    have c248 := (OLD0.keep KL_sd (allS ge_a all0))
    have c249 := (E_tx.keep KL_sd)
    have c250 := (F_value_tx.keep KL_sd (ninS (Ne.symm ty_a_tx) nin0))
    have c251 := (F_coder_tx.keep KL_sd (ninS (Ne.symm ty_a_tx) nin0))
    have c252 := (V_t.keep KL_sd (ninS (Ne.symm ty_a_t) nin0))
    have c253 := (Nat.le_trans Z0 KL_sd.1)
    refine own_callV X247 hx hZ hown (w63 hw) (w64 hw) (notFace_of_selects (args := #[]) (mvT hZ (w66 hw))) (w66 hw) (w65 hw) (by decide) (own_bO (W := 1) (own_l8 l Z a0 hw [] G1 G3 tx t kb cd N2 vs cs h_sd n0 c253 O2 O4 P5 rG3 c248 c249 c250 c251 c252 hcod hcs h8) hZ (w67 hw) (w11 hw) rfl rfl) e247 c249  (by decide) (by decide) (argsL := []) (rest := [(.int (Int32.ofNat (pn + i)))]) rfl hml.symm (lenOf pd_14 rfl) rfl rfl (own_w0 rfl rfl) (D 4) ?_
    rintro _ T254 L254 X254 ⟨rfl, N254q, e254⟩
    have N255 := Fr.app N_sd N254q
    have hc256 : ((Int32.ofNat (pn + i)) < (8 : Int32)) := (own_lt8 (by omega))
    refine own_step (g' := (mkF m 15 #[sR a] [(.ref a)])) (fun _ q => XS.icmpNo X254.here hx rfl (D 5) rfl (XT.ii_ge_f hc256) (XS.aloadN X254.here hx rfl (D 6) rfl rfl q)) ?_
    refine own_gF X254 hx hZ hown (w55 hw) e254 g1_sd rfl rfl (D 7) fun T257 X257 e257 => ?_
    refine own_step (g' := (mkF m 19 #[sR a] [(.ref a), (.ref tx)])) (fun _ q => XS.aloadN X257.here hx rfl (D 8) rfl rfl q) ?_
    refine own_gF X257 hx hZ hown (w61 hw) e257 g2_sd rfl rfl (D 9) fun T258 X258 e258 => ?_
    refine own_callV X258 hx hZ hown (w74 hw) (w75 hw) (notFace_of_selects (args := #[]) (mvT hZ (w77 hw))) (w77 hw) (w76 hw) (by decide) (own_bO (W := 0) (own_char l Z a0 hw [] G1 G3 tx t kb cd N2 vs cs (pn + i) h_sd n0 c253 O2 O4 P5 rG3 c248 U1 U2 U3 c249 c250 c251 c252 hcod hcs (by omega : cs.length ≤ 400) (by omega : (pn + i) < cs.length)) hZ (w78 hw) (w11 hw) rfl rfl) e258 c249  (by decide) (by decide) (argsL := [(.int (Int32.ofNat (pn + i)))]) (rest := []) rfl hml.symm (lenOf pd_15 rfl) rfl rfl (own_w0 rfl rfl) (D 10) ?_
    rintro _ T259 L259 X259 ⟨rfl, N259q, e259⟩
    have N260 := Fr.app N255 N259q
    by_cases hin : i < n
    · refine own_callS X259 hx hZ hown (w139 hw) (w140 hw) (w40 hw) (w141 hw) (by decide) (own_bO (W := 0) (own_isd1 l Z a0 hw [] (cs.getD (pn + i) 0) h_sd n0 c253 (hdg i hin : ¬ (cs.getD (pn + i) 0) < (48 : Int32) ∧ ¬ (57 : Int32) < (cs.getD (pn + i) 0))) hZ (w141 hw) (w40 hw) rfl rfl) e259  (by decide) (by decide) (argsL := [(.int (cs.getD (pn + i) 0))]) (rest := []) rfl hml.symm (lenOf pd_16 rfl) rfl rfl (own_w0 rfl rfl) (D 11) ?_
      rintro _ T261 L261 X261 ⟨rfl, N261q, e261⟩
      have N262 := Fr.app N260 N261q
      refine own_step (g' := (mkF m 33 #[sR a] [(.ref a), (.ref a)])) (fun _ q => XS.ifNo X261.here hx rfl (D 12) rfl (by decide) (XS.aloadN X261.here hx rfl (D 13) rfl rfl (XS.dup X261.here hx rfl (D 14) rfl rfl q))) ?_
      refine own_gF X261 hx hZ hown (w61 hw) e261 g2_sd rfl rfl (D 15) fun T263 X263 e263 => ?_
      refine own_step (g' := (mkF m 38 #[sR a] [(.int ((Int32.ofNat (pn + i)) + (1 : Int32))), (.ref a)])) (fun _ q => XS.iconst X263.here hx rfl (D 16) (XS.iadd X263.here hx rfl (D 17) rfl q)) ?_
      rw [show ((Int32.ofNat (pn + i)) + (1 : Int32)) = (Int32.ofNat (pn + (i + 1))) from (own_inc _)]
      refine own_pF X263 hx hZ hown (w61 hw) e263 g2_sd g0_sd (Or.inl (w62 hw)) (w50 hw) (ty := .int) (by decide) rfl rfl rfl rfl (D 18) fun T264 h264 X264 e264 W264 F265 => ?_
      have N266 := Fr.snoc X264 N262 ge_a
      refine own_step (g' := (mkF m 0 #[sR a] [])) (fun _ q => XS.goto X264.here hx rfl (pc0 := 41) (pc' := 0) rfl (D 19) (by decide) (by decide) q) ?_
      have c267 := (g0_sd.wr W264)
      have c268 := (g1_sd.other W264 (Or.inr (RoadKit.slot_ne (t := (.object "java/lang/String")) (t' := .int) (Or.inr (w56 hw)) (Or.inl (w62 hw)) (by decide) (by decide) (by decide))))
      have c269 := (KL_sd.wr W264 (Or.inl (List.mem_of_getElem? (i := 0) rfl)))
      exact ih_sd _ (by omega) (i + 1) T264 h264 _ X264 e264 N266 c269 c267 c268 F265 (by omega) rfl
    · refine own_callS X259 hx hZ hown (w139 hw) (w140 hw) (w40 hw) (w141 hw) (by decide) (own_bO (W := 0) (own_isd0 l Z a0 hw [] (cs.getD (pn + i) 0) h_sd n0 c253 ((by rw [show i = n from (by omega)]; exact hen) : ¬ (¬ (cs.getD (pn + i) 0) < (48 : Int32) ∧ ¬ (57 : Int32) < (cs.getD (pn + i) 0)))) hZ (w141 hw) (w40 hw) rfl rfl) e259  (by decide) (by decide) (argsL := [(.int (cs.getD (pn + i) 0))]) (rest := []) rfl hml.symm (lenOf pd_16 rfl) rfl rfl (own_w0 rfl rfl) (D 11) ?_
      rintro _ T270 L270 X270 ⟨rfl, N270q, e270⟩
      have N271 := Fr.app N260 N270q
      refine own_step (g' := (mkF m 44 #[sR a] [])) (fun _ q => XS.ifYes X270.here hx rfl (pc0 := 28) (pc' := 44) rfl (D 12) rfl (by decide) (by decide) (by decide) q) ?_
      have qF272 : ((.int (Int32.ofNat (pn + i))) : Value) = (.int (Int32.ofNat (pn + n))) := (by rw [show i = n from (by omega)])
      have F272 : own_Fp Z h_sd a (.int (Int32.ofNat (pn + n))) := own_fixf qF272 g2_sd
      have c273 := ((Keep.refl h0 [a]).trans KL_sd (allS (Or.inl (List.mem_of_getElem? (i := 0) rfl)) all0))
      exact own_retV X270 hx hrt (D 20) hlk (by rw [e270]; exact ⟨rfl, N271, c273, g0_sd, g1_sd, F272⟩) (by decide) (by decide)
  exact lp_sd _ (0) s₁ h0 _ X0 e0 (Fr.nil n0) (Keep.refl h0 [a]) E_a F_text_a F_pos_a (Nat.zero_le _) rfl
def Q_own_sw (Z : State) (G1 : Int32) (G3 : Value) (a tx t : Addr) (kb : ClassId) (cd N2 : Int32) (vs : List Value) (cs : List Int32) (pn n : Nat) (h0 : Heap) (n0 : Nat) (v : Option Value) (h : Heap) (L : List Loc) : Prop := v = none ∧ Fr n0 L ∧ Keep h0 h [a] ∧ own_Ea Z h a ∧ own_Ft Z h a (.ref tx) ∧ own_Fp Z h a (.int (Int32.ofNat (pn + n)))
set_option maxRecDepth 65536 in
set_option maxHeartbeats 40000000 in
theorem own_sw (l : Launch) (Z : State) (a0 : Array Value) (hw : own_HW a0 Z) (ws : List Jvm.Cond) (G1 : Int32) (G3 : Value) (a tx t : Addr) (kb : ClassId) (cd N2 : Int32) (vs : List Value) (cs : List Int32) (pn n : Nat) (h0 : Heap) (n0 : Nat) (Z0 : n0 ≤ h0.size) (O2 : own_O2 Z G1) (O4 : own_O4 Z G3) (P5 : ¬ (G1 = (0 : Int32))) (rG3 : G3.isRef = true) (OLD0 : Old Z n0 h0) (U1 : own_U0 Z) (U2 : own_U1 Z) (U3 : own_U2 Z) (E_a : own_Ea Z h0 a) (F_text_a : own_Ft Z h0 a (.ref tx)) (F_pos_a : own_Fp Z h0 a (.int (Int32.ofNat pn))) (E_tx : own_Es Z h0 tx) (F_value_tx : own_Sv Z h0 tx (.ref t)) (F_coder_tx : own_Sc Z h0 tx (.int cd)) (V_t : Arv Z h0 t kb .byte N2 vs (.int 0)) (hcod : StrChars.Road.CodA cs cd N2 vs) (hcs : own_R16 cs) (h8 : cs.length = 8) (ge_a : n0 ≤ a) (hwh : ∀ i, i < n → own_wh (cs.getD (pn + i) 0)) (hend : pn + n = 8 ∨ (pn + n < 8 ∧ own_nwh (cs.getD (pn + n) 0))) (hn8 : pn + n ≤ 8) :
    own_MetW l Z own_EL ⟨"com/example/tote/tote/JsonText", "skipWhitespace", "()V"⟩ prog_12_method_13_code 1 none ws ⟨5, 2 * n + 2, 20 * n + 20, 67⟩ #[(.ref a)] h0 (Q_own_sw Z G1 G3 a tx t kb cd N2 vs cs pn n h0 n0) := by
  refine own_bodyNW (g0 := fun m => mkF m 0 #[sR a] []) (plainFor_of_name pn_4) (fun _ => rfl) ?_
  intro p e s m below meth c s₁ hx hby hml hrt hlk hown hnm hZ e0 X0 hS CH0
  have D := own_d hby kD12
  have ty_a_tx : a ≠ tx := (Exa.ne E_a E_tx (by decide))
  have ty_a_t : a ≠ t := (Exa.neArv E_a V_t (w50 hw))
  have ty_tx_t : tx ≠ t := (Exa.neArv E_tx V_t (w10 hw))
  have lp_sw : ∀ (k_sw : Nat) (i : Nat) (vm_sw : Vm) (kz_sw : Nat) (T_sw : State) (h_sw : Heap) (L_sw : List Loc) (X_sw : Stand p l e (⟨5, 2 * n + 2, 20 * n + 20, 67⟩ : Room) (s.setVm vm_sw) m #[(.ref a)] below meth c T_sw L_sw (2 * i) (20 * i)) (e_sw : T_sw.heap = h_sw) (N_sw : Fr n0 L_sw) (hS : s.Since vm_sw kz_sw) (HK_sw : kz_sw ≤ h_sw.size) (hZ : Z.Warmed39 (s.setVm vm_sw).vm) (hown : (s.setVm vm_sw).vm.findClass "com/example/tote/tote/JsonText" = some m.cls) (CH_sw : CHr Z own_EL s.vm s.heap vm_sw h_sw) (KL_sw : Keep h0 h_sw [a]) (g0_sw : own_Ea Z h_sw a) (g1_sw : own_Ft Z h_sw a (.ref tx)) (g2_sw : own_Fp Z h_sw a (.int (Int32.ofNat (pn + i)))) (hi : i ≤ n) (hk_sw : n - i = k_sw), own_Fin p e below (own_GW Z own_EL s (Q_own_sw Z G1 G3 a tx t kb cd N2 vs cs pn n h0 n0) (⟨5, 2 * n + 2, 20 * n + 20, 67⟩ : Room).cells (⟨5, 2 * n + 2, 20 * n + 20, 67⟩ : Room).slots) T_sw (mkF m 0 #[sR a] []) := by
    intro k_sw
    induction k_sw using Nat.strongRecOn with | _ k_sw ih_sw => ?_
    intro i vm_sw kz_sw T_sw h_sw L_sw X_sw e_sw N_sw hS HK_sw hZ hown CH_sw KL_sw g0_sw g1_sw g2_sw hi hk_sw
    subst hk_sw
    refine own_step (g' := (mkF m 1 #[sR a] [(.ref a)])) (fun _ q => XS.aloadN X_sw.here hx rfl (D 0) rfl rfl q) ?_
    refine own_gF X_sw hx hZ hown (w61 hw) e_sw g2_sw rfl rfl (D 1) fun T274 X274 e274 => ?_
    refine own_step (g' := (mkF m 5 #[sR a] [(.ref a), (.int (Int32.ofNat (pn + i)))])) (fun _ q => XS.aloadN X274.here hx rfl (D 2) rfl rfl q) ?_
    refine own_gF X274 hx hZ hown (w55 hw) e274 g1_sw rfl rfl (D 3) fun T275 X275 e275 => ?_
    have c276 := (OLD0.keep KL_sw (allS ge_a all0))
    have c277 := (E_tx.keep KL_sw)
    have c278 := (F_value_tx.keep KL_sw (ninS (Ne.symm ty_a_tx) nin0))
    have c279 := (F_coder_tx.keep KL_sw (ninS (Ne.symm ty_a_tx) nin0))
    have c280 := (V_t.keep KL_sw (ninS (Ne.symm ty_a_t) nin0))
    have c281 := (Nat.le_trans Z0 KL_sw.1)
    refine own_callV X275 hx hZ hown (w63 hw) (w64 hw) (notFace_of_selects (args := #[]) (mvT hZ (w66 hw))) (w66 hw) (w65 hw) (by decide) (own_bO (W := 1) (own_l8 l Z a0 hw [] G1 G3 tx t kb cd N2 vs cs h_sw n0 c281 O2 O4 P5 rG3 c276 c277 c278 c279 c280 hcod hcs h8) hZ (w67 hw) (w11 hw) rfl rfl) e275 c277  (by first | decide | (dsimp only; omega)) (by first | decide | (dsimp only; omega)) (argsL := []) (rest := [(.int (Int32.ofNat (pn + i)))]) rfl hml.symm (lenOf pd_14 rfl) rfl rfl (own_w0 rfl rfl) (D 4) ?_
    rintro _ T282 L282 X282 ⟨rfl, N282q, e282⟩
    have N283 := Fr.app N_sw N282q
    rcases own_sw3 hi hend with hin | ⟨hin, he⟩ | ⟨hin, hl8, hno⟩
    · have hc284 : ((Int32.ofNat (pn + i)) < (8 : Int32)) := (own_lt8 (by omega))
      refine own_step (g' := (mkF m 14 #[sR a] [])) (fun _ q => XS.icmpNo X282.here hx rfl (D 5) rfl (XT.ii_ge_f hc284) q) ?_
      obtain ⟨a285, T285, h285, k285, b285, kb285, X285, e285, E285, hS, hk285, hZ, hown, fE285, fC285, fV285, fA285, lta285, ltb285, C285, Li285, sf285, st285⟩ := ldcCH X282 hx hZ hown (w73 hw) (own_wS hw) e282 hS HK_sw (own_hEL hw) (by decide) CH_sw.1 (vs := [(.int (32 : Int32)), (.int (9 : Int32)), (.int (10 : Int32)), (.int (13 : Int32))]) (z := (4 : Int32)) ⟨by decide, by decide⟩ (by decide) rfl (g := (mkF m 14 #[sR a] [])) rfl (D 6) (n := 16) (by decide) (by decide) (by first | decide | (dsimp only; omega)) (by first | decide | (dsimp only; omega))
      have CH286 := CH_sw.trans C285
      have c287 := (g0_sw.ext E285)
      have ne288 := sf285 a (Safe.exa hZ.alike c287 (by decide) (by decide))
      refine own_step (T' := T285) (g' := (mkF m 16 #[sR a] [(.ref a285)])) st285 ?_
      refine own_step (g' := (mkF m 17 #[sR a] [(.ref a), (.ref a285)])) (fun _ q => XS.aloadN X285.here hx rfl (D 7) rfl rfl q) ?_
      have c289 := (g1_sw.ext E285)
      refine own_gF X285 hx hZ hown (w55 hw) e285 c289 rfl rfl (D 8) fun T290 X290 e290 => ?_
      refine own_step (g' := (mkF m 21 #[sR a] [(.ref a), (.ref tx), (.ref a285)])) (fun _ q => XS.aloadN X290.here hx rfl (D 9) rfl rfl q) ?_
      have c291 := (g2_sw.ext E285)
      refine own_gF X290 hx hZ hown (w61 hw) e290 c291 rfl rfl (D 10) fun T292 X292 e292 => ?_
      have c293 := (c276.ext E285)
      have c294 := (c277.ext E285)
      have c295 := (c278.ext E285)
      have c296 := (c279.ext E285)
      have c297 := (c280.ext E285)
      have c298 := (Nat.le_trans c281 E285.1)
      refine own_callV X292 hx hZ hown (w74 hw) (w75 hw) (notFace_of_selects (args := #[]) (mvT hZ (w77 hw))) (w77 hw) (w76 hw) (by decide) (own_bO (W := 1) (own_char l Z a0 hw [] G1 G3 tx t kb cd N2 vs cs (pn + i) h285 n0 c298 O2 O4 P5 rG3 c293 U1 U2 U3 c294 c295 c296 c297 hcod hcs (by omega : cs.length ≤ 400) (by omega : (pn + i) < cs.length)) hZ (w78 hw) (w11 hw) rfl rfl) e292 c294  (by first | decide | (dsimp only; omega)) (by first | decide | (dsimp only; omega)) (argsL := [(.int (Int32.ofNat (pn + i)))]) (rest := [(.ref a285)]) rfl hml.symm (lenOf pd_15 rfl) rfl rfl (own_w0 rfl rfl) (D 11) ?_
      rintro _ T299 L299 X299 ⟨rfl, N299q, e299⟩
      have N300 := Fr.app N283 N299q
      refine own_callV X299 hx hZ hown (w96 hw) (w97 hw) (notFace_of_selects (args := #[]) (mvT hZ (w99 hw))) (w99 hw) (w98 hw) (by decide) (own_bO (W := 0) (own_ioiW l Z a0 hw [] G1 G3 a285 b285 kb285 (cs.getD (pn + i) 0) h285 n0 c298 O2 O4 P5 rG3 c293 fE285 fV285 fC285 fA285 ((own_ws8 (hwh i hin)).1 : (cs.getD (pn + i) 0).toInt8.toInt32 = (cs.getD (pn + i) 0)) ((own_ws8 (hwh i hin)).2 : ¬ (cs.getD (pn + i) 0) < 0 ∧ ¬ (255 : Int32) < (cs.getD (pn + i) 0))) hZ (w100 hw) (w11 hw) rfl rfl) e299 fE285  (by first | decide | (dsimp only; omega)) (by first | decide | (dsimp only; omega)) (argsL := [(.int (cs.getD (pn + i) 0))]) (rest := []) rfl hml.symm (lenOf pd_6 rfl) rfl rfl (own_w0 rfl rfl) (D 12) ?_
      rintro _ T301 L301 X301 ⟨r301, rfl, N301q, e301, p0_301⟩
      have N302 := Fr.app N300 N301q
      have hc303 : ¬ (r301 < 0) := (p0_301.1 (hwh i hin))
      refine own_step (g' := (mkF m 35 #[sR a] [(.ref a), (.ref a)])) (fun _ q => XS.ifNo X301.here hx rfl (D 13) rfl (XT.i0_lt_f hc303) (XS.aloadN X301.here hx rfl (D 14) rfl rfl (XS.dup X301.here hx rfl (D 15) rfl rfl q))) ?_
      refine own_gF X301 hx hZ hown (w61 hw) e301 c291 rfl rfl (D 16) fun T304 X304 e304 => ?_
      refine own_step (g' := (mkF m 40 #[sR a] [(.int ((Int32.ofNat (pn + i)) + (1 : Int32))), (.ref a)])) (fun _ q => XS.iconst X304.here hx rfl (D 17) (XS.iadd X304.here hx rfl (D 18) rfl q)) ?_
      rw [show ((Int32.ofNat (pn + i)) + (1 : Int32)) = (Int32.ofNat (pn + (i + 1))) from (own_inc _)]
      refine own_pF X304 hx hZ hown (w61 hw) e304 c291 c287 (Or.inl (w62 hw)) (w50 hw) (ty := .int) (by decide) rfl rfl rfl rfl (D 19) fun T305 h305 X305 e305 W305 F306 => ?_
      have N307 := Fr.snoc X305 N302 ge_a
      have CH308 := CH286.trans (CHr.wr W305 (Safe.exa hZ.alike c287 (by decide) (by decide)) CH286.1)
      refine own_step (g' := (mkF m 0 #[sR a] [])) (fun _ q => XS.goto X305.here hx rfl (pc0 := 43) (pc' := 0) rfl (D 20) (by decide) (by decide) q) ?_
      have c309 := (c287.wr W305)
      have c310 := (c289.other W305 (Or.inr (RoadKit.slot_ne (t := (.object "java/lang/String")) (t' := .int) (Or.inr (w56 hw)) (Or.inl (w62 hw)) (by decide) (by decide) (by decide))))
      have c311 := ((KL_sw.ext E285).wr W305 (Or.inl (List.mem_of_getElem? (i := 0) rfl)))
      have c312 := (Nat.le_trans hk285 (Keep.of_wr W305).1)
      exact ih_sw _ (by omega) (i + 1) T285.vm _ T305 h305 _ (own_cs X305 (by first | omega | (dsimp only; omega)) (by first | omega | (dsimp only; omega))) e305 N307 hS c312 hZ hown CH308 c311 c309 c310 F306 (by omega) rfl
    · have hc313 : ¬ ((Int32.ofNat (pn + i)) < (8 : Int32)) := (own_ge8 (by omega))
      refine own_step (g' := (mkF m 46 #[sR a] [])) (fun _ q => XS.icmpYes X282.here hx rfl (pc0 := 11) (pc' := 46) rfl (D 5) rfl (XT.ii_ge_t hc313) (by decide) (by decide) q) ?_
      have qF314 : ((.int (Int32.ofNat (pn + i))) : Value) = (.int (Int32.ofNat (pn + n))) := (by rw [hin])
      have F314 : own_Fp Z h_sw a (.int (Int32.ofNat (pn + n))) := own_fixf qF314 g2_sw
      have c315 := ((Keep.refl h0 [a]).trans KL_sw (allS (Or.inl (List.mem_of_getElem? (i := 0) rfl)) all0))
      exact own_retVW X282 hx hZ (own_hEL hw) hS (by rw [e282]; exact HK_sw) (by rw [e282]; exact CH_sw) hrt (D 21) hlk (by rw [e282]; exact ⟨rfl, N283, c315, g0_sw, g1_sw, F314⟩) (by first | decide | (dsimp only; omega)) (by first | decide | (dsimp only; omega))
    · have hc316 : ((Int32.ofNat (pn + i)) < (8 : Int32)) := (own_lt8 (by omega))
      refine own_step (g' := (mkF m 14 #[sR a] [])) (fun _ q => XS.icmpNo X282.here hx rfl (D 5) rfl (XT.ii_ge_f hc316) q) ?_
      obtain ⟨a317, T317, h317, k317, b317, kb317, X317, e317, E317, hS, hk317, hZ, hown, fE317, fC317, fV317, fA317, lta317, ltb317, C317, Li317, sf317, st317⟩ := ldcCH X282 hx hZ hown (w73 hw) (own_wS hw) e282 hS HK_sw (own_hEL hw) (by decide) CH_sw.1 (vs := [(.int (32 : Int32)), (.int (9 : Int32)), (.int (10 : Int32)), (.int (13 : Int32))]) (z := (4 : Int32)) ⟨by decide, by decide⟩ (by decide) rfl (g := (mkF m 14 #[sR a] [])) rfl (D 6) (n := 16) (by decide) (by decide) (by first | decide | (dsimp only; omega)) (by first | decide | (dsimp only; omega))
      have CH318 := CH_sw.trans C317
      have c319 := (g0_sw.ext E317)
      have ne320 := sf317 a (Safe.exa hZ.alike c319 (by decide) (by decide))
      refine own_step (T' := T317) (g' := (mkF m 16 #[sR a] [(.ref a317)])) st317 ?_
      refine own_step (g' := (mkF m 17 #[sR a] [(.ref a), (.ref a317)])) (fun _ q => XS.aloadN X317.here hx rfl (D 7) rfl rfl q) ?_
      have c321 := (g1_sw.ext E317)
      refine own_gF X317 hx hZ hown (w55 hw) e317 c321 rfl rfl (D 8) fun T322 X322 e322 => ?_
      refine own_step (g' := (mkF m 21 #[sR a] [(.ref a), (.ref tx), (.ref a317)])) (fun _ q => XS.aloadN X322.here hx rfl (D 9) rfl rfl q) ?_
      have c323 := (g2_sw.ext E317)
      refine own_gF X322 hx hZ hown (w61 hw) e322 c323 rfl rfl (D 10) fun T324 X324 e324 => ?_
      have c325 := (c276.ext E317)
      have c326 := (c277.ext E317)
      have c327 := (c278.ext E317)
      have c328 := (c279.ext E317)
      have c329 := (c280.ext E317)
      have c330 := (Nat.le_trans c281 E317.1)
      refine own_callV X324 hx hZ hown (w74 hw) (w75 hw) (notFace_of_selects (args := #[]) (mvT hZ (w77 hw))) (w77 hw) (w76 hw) (by decide) (own_bO (W := 1) (own_char l Z a0 hw [] G1 G3 tx t kb cd N2 vs cs (pn + i) h317 n0 c330 O2 O4 P5 rG3 c325 U1 U2 U3 c326 c327 c328 c329 hcod hcs (by omega : cs.length ≤ 400) (by omega : (pn + i) < cs.length)) hZ (w78 hw) (w11 hw) rfl rfl) e324 c326  (by first | decide | (dsimp only; omega)) (by first | decide | (dsimp only; omega)) (argsL := [(.int (Int32.ofNat (pn + i)))]) (rest := [(.ref a317)]) rfl hml.symm (lenOf pd_15 rfl) rfl rfl (own_w0 rfl rfl) (D 11) ?_
      rintro _ T331 L331 X331 ⟨rfl, N331q, e331⟩
      have N332 := Fr.app N283 N331q
      refine own_callV X331 hx hZ hown (w96 hw) (w97 hw) (notFace_of_selects (args := #[]) (mvT hZ (w99 hw))) (w99 hw) (w98 hw) (by decide) (own_bO (W := 0) (own_ioiW l Z a0 hw [] G1 G3 a317 b317 kb317 (cs.getD (pn + i) 0) h317 n0 c330 O2 O4 P5 rG3 c325 fE317 fV317 fC317 fA317 ((own_asc8 (by rw [hin]; exact hno.2)).1 : (cs.getD (pn + i) 0).toInt8.toInt32 = (cs.getD (pn + i) 0)) ((own_asc8 (by rw [hin]; exact hno.2)).2 : ¬ (cs.getD (pn + i) 0) < 0 ∧ ¬ (255 : Int32) < (cs.getD (pn + i) 0))) hZ (w100 hw) (w11 hw) rfl rfl) e331 fE317  (by first | decide | (dsimp only; omega)) (by first | decide | (dsimp only; omega)) (argsL := [(.int (cs.getD (pn + i) 0))]) (rest := []) rfl hml.symm (lenOf pd_6 rfl) rfl rfl (own_w0 rfl rfl) (D 12) ?_
      rintro _ T333 L333 X333 ⟨r333, rfl, N333q, e333, p0_333⟩
      have N334 := Fr.app N332 N333q
      have hc335 : (r333 < 0) := (p0_333.2 (by rw [hin]; exact hno.1))
      refine own_step (g' := (mkF m 46 #[sR a] [])) (fun _ q => XS.ifYes X333.here hx rfl (pc0 := 30) (pc' := 46) rfl (D 13) rfl (XT.i0_lt_t hc335) (by decide) (by decide) q) ?_
      have qF336 : ((.int (Int32.ofNat (pn + i))) : Value) = (.int (Int32.ofNat (pn + n))) := (by rw [hin])
      have F336 : own_Fp Z h317 a (.int (Int32.ofNat (pn + n))) := own_fixf qF336 c323
      have c337 := (((Keep.refl h0 [a]).trans KL_sw (allS (Or.inl (List.mem_of_getElem? (i := 0) rfl)) all0)).ext E317)
      exact own_retVW X333 hx hZ (own_hEL hw) hS (by rw [e333]; exact hk317) (by rw [e333]; exact CH318) hrt (D 21) hlk (by rw [e333]; exact ⟨rfl, N334, c337, c319, c321, F336⟩) (by first | decide | (dsimp only; omega)) (by first | decide | (dsimp only; omega))
  exact lp_sw _ (0) s.vm _ s₁ h0 _ (own_cs X0 (by first | omega | (dsimp only; omega)) (by first | omega | (dsimp only; omega))) e0 (Fr.nil n0) hS (Nat.le_refl _) hZ hown CH0 (Keep.refl h0 [a]) E_a F_text_a F_pos_a (Nat.zero_le _) rfl
def Q_own_hxd (Z : State) (z w : Int32) (h0 : Heap) (n0 : Nat) (v : Option Value) (h : Heap) (L : List Loc) : Prop := v = some (.int w) ∧ Fr n0 L ∧ h = h0
set_option maxRecDepth 65536 in
set_option maxHeartbeats 40000000 in
theorem own_hxd (l : Launch) (Z : State) (a0 : Array Value) (hw : own_HW a0 Z) (ws : List Jvm.Cond) (z w : Int32) (h0 : Heap) (n0 : Nat) (Z0 : n0 ≤ h0.size) (hz : own_hv z w) :
    own_Met l Z ⟨"com/example/tote/tote/JsonText", "hexDigit", "(C)I"⟩ prog_12_method_18_code 2 (some .int) ws ⟨1, 0, 0, 12⟩ #[(.int z)] h0 (Q_own_hxd Z z w h0 n0) := by
  refine own_bodyN (g0 := fun m => mkF m 0 #[sI z, .unset] []) (plainFor_of_name pn_4) (fun _ => rfl) ?_
  intro p e s m below meth c s₁ hx hby hml hrt hlk hown hnm hZ e0 X0
  have D := own_d hby kD53
  rcases hz with ⟨hdg, hwz⟩ | ⟨hr, hnd, hwz⟩ | ⟨hr, hnd, hnl, hwz⟩
  · refine own_step (g' := (mkF m 1 #[sI z, .unset] [(.int z)])) (fun _ q => XS.iloadN X0.here hx rfl (D 0) rfl q) ?_
    refine own_callS X0 hx hZ hown (w139 hw) (w140 hw) (w40 hw) (w141 hw) (by decide) (own_bO (W := 0) (own_isd1 l Z a0 hw [] z h0 n0 Z0 (hdg : ¬ z < (48 : Int32) ∧ ¬ (57 : Int32) < z)) hZ (w141 hw) (w40 hw) rfl rfl) e0  (by decide) (by decide) (argsL := [(.int z)]) (rest := []) rfl hml.symm (lenOf pd_16 rfl) rfl rfl (own_w0 rfl rfl) (D 1) ?_
    rintro _ T338 L338 X338 ⟨rfl, N338q, e338⟩
    have N339 := Fr.app (Fr.nil n0) N338q
    refine own_step (g' := (mkF m 64 #[sI z, sI (z - (48 : Int32))] [(.int (z - (48 : Int32)))])) (fun _ q => XS.ifNo X338.here hx rfl (D 2) rfl (by decide) (XS.iloadN X338.here hx rfl (D 3) rfl (XS.bipush X338.here hx rfl (D 4) (XS.isub X338.here hx rfl (D 5) rfl (XS.istoreN X338.here hx rfl (D 6) rfl (l' := #[sI z, sI (z - (48 : Int32))]) rfl (XS.goto X338.here hx rfl (pc0 := 12) (pc' := 63) rfl (D 7) (by decide) (by decide) (XS.iloadN X338.here hx rfl (D 34) rfl q))))))) ?_
    exact own_retI X338 hx hrt (D 35) hlk ⟨(by rw [hwz]), N339, e338⟩ (by decide) (by decide)
  · refine own_step (g' := (mkF m 1 #[sI z, .unset] [(.int z)])) (fun _ q => XS.iloadN X0.here hx rfl (D 0) rfl q) ?_
    refine own_callS X0 hx hZ hown (w139 hw) (w140 hw) (w40 hw) (w141 hw) (by decide) (own_bO (W := 0) (own_isd0 l Z a0 hw [] z h0 n0 Z0 (hnd : ¬ (¬ z < (48 : Int32) ∧ ¬ (57 : Int32) < z))) hZ (w141 hw) (w40 hw) rfl rfl) e0  (by decide) (by decide) (argsL := [(.int z)]) (rest := []) rfl hml.symm (lenOf pd_16 rfl) rfl rfl (own_w0 rfl rfl) (D 1) ?_
    rintro _ T340 L340 X340 ⟨rfl, N340q, e340⟩
    have N341 := Fr.app (Fr.nil n0) N340q
    refine own_step (g' := (mkF m 18 #[sI z, .unset] [(.int 97), (.int z)])) (fun _ q => XS.ifYes X340.here hx rfl (pc0 := 4) (pc' := 15) rfl (D 2) rfl (by decide) (by decide) (by decide) (XS.iloadN X340.here hx rfl (D 8) rfl (XS.bipush X340.here hx rfl (D 9) q))) ?_
    have hc342 : ¬ (z < (97 : Int32)) := hr.1
    refine own_step (g' := (mkF m 24 #[sI z, .unset] [(.int 102), (.int z)])) (fun _ q => XS.icmpNo X340.here hx rfl (D 10) rfl (XT.ii_lt_f hc342) (XS.iloadN X340.here hx rfl (D 11) rfl (XS.bipush X340.here hx rfl (D 12) q))) ?_
    have hc343 : ¬ ((102 : Int32) < z) := hr.2
    refine own_step (g' := (mkF m 64 #[sI z, sI ((z - (97 : Int32)) + (10 : Int32))] [(.int ((z - (97 : Int32)) + (10 : Int32)))])) (fun _ q => XS.icmpNo X340.here hx rfl (D 13) rfl (XT.ii_gt_f hc343) (XS.iloadN X340.here hx rfl (D 14) rfl (XS.bipush X340.here hx rfl (D 15) (XS.isub X340.here hx rfl (D 16) rfl (XS.bipush X340.here hx rfl (D 17) (XS.iadd X340.here hx rfl (D 18) rfl (XS.istoreN X340.here hx rfl (D 19) rfl (l' := #[sI z, sI ((z - (97 : Int32)) + (10 : Int32))]) rfl (XS.goto X340.here hx rfl (pc0 := 35) (pc' := 63) rfl (D 20) (by decide) (by decide) (XS.iloadN X340.here hx rfl (D 34) rfl q))))))))) ?_
    exact own_retI X340 hx hrt (D 35) hlk ⟨(by rw [hwz]), N341, e340⟩ (by decide) (by decide)
  · refine own_step (g' := (mkF m 1 #[sI z, .unset] [(.int z)])) (fun _ q => XS.iloadN X0.here hx rfl (D 0) rfl q) ?_
    refine own_callS X0 hx hZ hown (w139 hw) (w140 hw) (w40 hw) (w141 hw) (by decide) (own_bO (W := 0) (own_isd0 l Z a0 hw [] z h0 n0 Z0 (hnd : ¬ (¬ z < (48 : Int32) ∧ ¬ (57 : Int32) < z))) hZ (w141 hw) (w40 hw) rfl rfl) e0  (by decide) (by decide) (argsL := [(.int z)]) (rest := []) rfl hml.symm (lenOf pd_16 rfl) rfl rfl (own_w0 rfl rfl) (D 1) ?_
    rintro _ T344 L344 X344 ⟨rfl, N344q, e344⟩
    have N345 := Fr.app (Fr.nil n0) N344q
    refine own_step (g' := (mkF m 18 #[sI z, .unset] [(.int 97), (.int z)])) (fun _ q => XS.ifYes X344.here hx rfl (pc0 := 4) (pc' := 15) rfl (D 2) rfl (by decide) (by decide) (by decide) (XS.iloadN X344.here hx rfl (D 8) rfl (XS.bipush X344.here hx rfl (D 9) q))) ?_
    have hc346 : (z < (97 : Int32)) := hnl
    refine own_step (g' := (mkF m 41 #[sI z, .unset] [(.int 65), (.int z)])) (fun _ q => XS.icmpYes X344.here hx rfl (pc0 := 18) (pc' := 38) rfl (D 10) rfl (XT.ii_lt_t hc346) (by decide) (by decide) (XS.iloadN X344.here hx rfl (D 21) rfl (XS.bipush X344.here hx rfl (D 22) q))) ?_
    have hc347 : ¬ (z < (65 : Int32)) := hr.1
    refine own_step (g' := (mkF m 47 #[sI z, .unset] [(.int 70), (.int z)])) (fun _ q => XS.icmpNo X344.here hx rfl (D 23) rfl (XT.ii_lt_f hc347) (XS.iloadN X344.here hx rfl (D 24) rfl (XS.bipush X344.here hx rfl (D 25) q))) ?_
    have hc348 : ¬ ((70 : Int32) < z) := hr.2
    refine own_step (g' := (mkF m 64 #[sI z, sI ((z - (65 : Int32)) + (10 : Int32))] [(.int ((z - (65 : Int32)) + (10 : Int32)))])) (fun _ q => XS.icmpNo X344.here hx rfl (D 26) rfl (XT.ii_gt_f hc348) (XS.iloadN X344.here hx rfl (D 27) rfl (XS.bipush X344.here hx rfl (D 28) (XS.isub X344.here hx rfl (D 29) rfl (XS.bipush X344.here hx rfl (D 30) (XS.iadd X344.here hx rfl (D 31) rfl (XS.istoreN X344.here hx rfl (D 32) rfl (l' := #[sI z, sI ((z - (65 : Int32)) + (10 : Int32))]) rfl (XS.goto X344.here hx rfl (pc0 := 58) (pc' := 63) rfl (D 33) (by decide) (by decide) (XS.iloadN X344.here hx rfl (D 34) rfl q))))))))) ?_
    exact own_retI X344 hx hrt (D 35) hlk ⟨(by rw [hwz]), N345, e344⟩ (by decide) (by decide)
theorem pd_20 : parseMethodDescriptor "(C)I" = some ⟨[.char], some .int⟩ := by decide +kernel
def Q_own_hxu (Z : State) (G1 : Int32) (G3 : Value) (a tx t : Addr) (kb : ClassId) (cd N2 : Int32) (vs : List Value) (cs : List Int32) (pn : Nat) (fd : Nat → Int32) (uu : Int32) (h0 : Heap) (n0 : Nat) (v : Option Value) (h : Heap) (L : List Loc) : Prop := v = some (.int uu) ∧ Fr n0 L ∧ Keep h0 h [a] ∧ own_Ea Z h a ∧ own_Ft Z h a (.ref tx) ∧ own_Fp Z h a (.int (Int32.ofNat (pn + 4)))
set_option maxRecDepth 65536 in
set_option maxHeartbeats 40000000 in
theorem own_hxu (l : Launch) (Z : State) (a0 : Array Value) (hw : own_HW a0 Z) (ws : List Jvm.Cond) (G1 : Int32) (G3 : Value) (a tx t : Addr) (kb : ClassId) (cd N2 : Int32) (vs : List Value) (cs : List Int32) (pn : Nat) (fd : Nat → Int32) (uu : Int32) (h0 : Heap) (n0 : Nat) (Z0 : n0 ≤ h0.size) (O2 : own_O2 Z G1) (O4 : own_O4 Z G3) (P5 : ¬ (G1 = (0 : Int32))) (rG3 : G3.isRef = true) (OLD0 : Old Z n0 h0) (U1 : own_U0 Z) (U2 : own_U1 Z) (U3 : own_U2 Z) (E_a : own_Ea Z h0 a) (F_text_a : own_Ft Z h0 a (.ref tx)) (F_pos_a : own_Fp Z h0 a (.int (Int32.ofNat pn))) (E_tx : own_Es Z h0 tx) (F_value_tx : own_Sv Z h0 tx (.ref t)) (F_coder_tx : own_Sc Z h0 tx (.int cd)) (V_t : Arv Z h0 t kb .byte N2 vs (.int 0)) (hcod : StrChars.Road.CodA cs cd N2 vs) (hcs : own_R16 cs) (h8 : cs.length = 8) (ge_a : n0 ≤ a) (hfd : ∀ i, i < 4 → own_hv (cs.getD (pn + i) 0) (fd i)) (huu : nar .char ((own_hu fd 4).toUInt32.toUInt16.toUInt32.toInt32) = uu) (hp : pn + 4 ≤ 8) :
    own_Met l Z ⟨"com/example/tote/tote/JsonText", "hexUnit", "()C"⟩ prog_12_method_8_code 4 (some .char) ws ⟨5, 0, 0, 66⟩ #[(.ref a)] h0 (Q_own_hxu Z G1 G3 a tx t kb cd N2 vs cs pn fd uu h0 n0) := by
  refine own_bodyN (g0 := fun m => mkF m 0 #[sR a, .unset, .unset, .unset] []) (plainFor_of_name pn_4) (fun _ => rfl) ?_
  intro p e s m below meth c s₁ hx hby hml hrt hlk hown hnm hZ e0 X0
  have D := own_d hby kD52
  have ty_a_tx : a ≠ tx := (Exa.ne E_a E_tx (by decide))
  have ty_a_t : a ≠ t := (Exa.neArv E_a V_t (w50 hw))
  have ty_tx_t : tx ≠ t := (Exa.neArv E_tx V_t (w10 hw))
  refine own_step (g' := (mkF m 4 #[sR a, sI 0, sI 0, .unset] [])) (fun _ q => XS.iconst X0.here hx rfl (D 0) (XS.istoreN X0.here hx rfl (D 1) rfl (l' := #[sR a, sI 0, .unset, .unset]) rfl (XS.iconst X0.here hx rfl (D 2) (XS.istoreN X0.here hx rfl (D 3) rfl (l' := #[sR a, sI 0, sI 0, .unset]) rfl q)))) ?_
  have lp_hu : ∀ (k_hu : Nat) (i : Nat) (s3 : Slot) (T_hu : State) (h_hu : Heap) (L_hu : List Loc) (X_hu : Stand p l e (⟨5, 0, 0, 66⟩ : Room) s m #[(.ref a)] below meth c T_hu L_hu 0 0) (e_hu : T_hu.heap = h_hu) (N_hu : Fr n0 L_hu) (KL_hu : Keep h0 h_hu [a]) (g0_hu : own_Ea Z h_hu a) (g1_hu : own_Ft Z h_hu a (.ref tx)) (g2_hu : own_Fp Z h_hu a (.int (Int32.ofNat (pn + i)))) (hi : i ≤ 4) (hs3 : s3 = .unset ∨ ∃ w, s3 = .val w ∧ w.category = 1) (hk_hu : 4 - i = k_hu), own_Fin p e below (own_G s (Q_own_hxu Z G1 G3 a tx t kb cd N2 vs cs pn fd uu h0 n0) (⟨5, 0, 0, 66⟩ : Room).cells (⟨5, 0, 0, 66⟩ : Room).slots) T_hu (mkF m 4 #[sR a, sI (own_hu fd i), sI (Int32.ofNat i), s3] []) := by
    intro k_hu
    induction k_hu using Nat.strongRecOn with | _ k_hu ih_hu => ?_
    intro i s3 T_hu h_hu L_hu X_hu e_hu N_hu KL_hu g0_hu g1_hu g2_hu hi hs3 hk_hu
    subst hk_hu
    by_cases hin : i < 4
    · refine own_step (g' := (mkF m 10 #[sR a, sI (own_hu fd i), sI (Int32.ofNat i), s3] [(.ref a)])) (fun _ q => XS.iloadN X_hu.here hx rfl (D 4) rfl (XS.iconst X_hu.here hx rfl (D 5) (XS.icmpNo X_hu.here hx rfl (D 6) rfl (XT.ii_ge_f (own_lt4 hin)) (XS.aloadN X_hu.here hx rfl (D 7) rfl rfl q)))) ?_
      refine own_gF X_hu hx hZ hown (w61 hw) e_hu g2_hu rfl rfl (D 8) fun T349 X349 e349 => ?_
      refine own_step (g' := (mkF m 14 #[sR a, sI (own_hu fd i), sI (Int32.ofNat i), s3] [(.ref a), (.int (Int32.ofNat (pn + i)))])) (fun _ q => XS.aloadN X349.here hx rfl (D 9) rfl rfl q) ?_
      refine own_gF X349 hx hZ hown (w55 hw) e349 g1_hu rfl rfl (D 10) fun T350 X350 e350 => ?_
      have c351 := (OLD0.keep KL_hu (allS ge_a all0))
      have c352 := (E_tx.keep KL_hu)
      have c353 := (F_value_tx.keep KL_hu (ninS (Ne.symm ty_a_tx) nin0))
      have c354 := (F_coder_tx.keep KL_hu (ninS (Ne.symm ty_a_tx) nin0))
      have c355 := (V_t.keep KL_hu (ninS (Ne.symm ty_a_t) nin0))
      have c356 := (Nat.le_trans Z0 KL_hu.1)
      refine own_callV X350 hx hZ hown (w63 hw) (w64 hw) (notFace_of_selects (args := #[]) (mvT hZ (w66 hw))) (w66 hw) (w65 hw) (by decide) (own_bO (W := 1) (own_l8 l Z a0 hw [] G1 G3 tx t kb cd N2 vs cs h_hu n0 c356 O2 O4 P5 rG3 c351 c352 c353 c354 c355 hcod hcs h8) hZ (w67 hw) (w11 hw) rfl rfl) e350 c352  (by decide) (by decide) (argsL := []) (rest := [(.int (Int32.ofNat (pn + i)))]) rfl hml.symm (lenOf pd_14 rfl) rfl rfl (own_w0 rfl rfl) (D 11) ?_
      rintro _ T357 L357 X357 ⟨rfl, N357q, e357⟩
      have N358 := Fr.app N_hu N357q
      have hc359 : ((Int32.ofNat (pn + i)) < (8 : Int32)) := (own_lt8 (by omega))
      refine own_step (g' := (mkF m 24 #[sR a, sI (own_hu fd i), sI (Int32.ofNat i), s3] [(.ref a)])) (fun _ q => XS.icmpNo X357.here hx rfl (D 12) rfl (XT.ii_ge_f hc359) (XS.aloadN X357.here hx rfl (D 13) rfl rfl q)) ?_
      refine own_gF X357 hx hZ hown (w55 hw) e357 g1_hu rfl rfl (D 14) fun T360 X360 e360 => ?_
      refine own_step (g' := (mkF m 28 #[sR a, sI (own_hu fd i), sI (Int32.ofNat i), s3] [(.ref a), (.ref tx)])) (fun _ q => XS.aloadN X360.here hx rfl (D 15) rfl rfl q) ?_
      refine own_gF X360 hx hZ hown (w61 hw) e360 g2_hu rfl rfl (D 16) fun T361 X361 e361 => ?_
      refine own_callV X361 hx hZ hown (w74 hw) (w75 hw) (notFace_of_selects (args := #[]) (mvT hZ (w77 hw))) (w77 hw) (w76 hw) (by decide) (own_bO (W := 0) (own_char l Z a0 hw [] G1 G3 tx t kb cd N2 vs cs (pn + i) h_hu n0 c356 O2 O4 P5 rG3 c351 U1 U2 U3 c352 c353 c354 c355 hcod hcs (by omega : cs.length ≤ 400) (by omega : (pn + i) < cs.length)) hZ (w78 hw) (w11 hw) rfl rfl) e361 c352  (by decide) (by decide) (argsL := [(.int (Int32.ofNat (pn + i)))]) (rest := []) rfl hml.symm (lenOf pd_15 rfl) rfl rfl (own_w0 rfl rfl) (D 17) ?_
      rintro _ T362 L362 X362 ⟨rfl, N362q, e362⟩
      have N363 := Fr.app N358 N362q
      refine own_callS X362 hx hZ hown (w233 hw) (w234 hw) (w40 hw) (w235 hw) (by decide) (own_bO (W := 0) (own_hxd l Z a0 hw [] (cs.getD (pn + i) 0) (fd i) h_hu n0 c356 (hfd i hin : own_hv (cs.getD (pn + i) 0) (fd i))) hZ (w235 hw) (w40 hw) rfl rfl) e362  (by decide) (by decide) (argsL := [(.int (cs.getD (pn + i) 0))]) (rest := []) rfl hml.symm (lenOf pd_20 rfl) rfl rfl (own_w0 rfl rfl) (D 18) ?_
      rintro _ T364 L364 X364 ⟨rfl, N364q, e364⟩
      have N365 := Fr.app N363 N364q
      refine own_step (g' := (mkF m 43 #[sR a, sI (own_hu fd i), sI (Int32.ofNat i), sI (fd i)] [(.int (fd i))])) (fun _ q => XS.goto X364.here hx rfl (pc0 := 37) (pc' := 41) rfl (D 19) (by decide) (by decide) (XS.istoreNS X364.here hx rfl (D 20) rfl rfl hs3 (XS.iloadN X364.here hx rfl (D 21) rfl q))) ?_
      have hc366 : ¬ ((fd i) < 0) := own_hv0 (hfd i hin)
      refine own_step (g' := (mkF m 62 #[sR a, sI (((own_hu fd i) * (16 : Int32)) + (fd i)), sI (Int32.ofNat i), sI (fd i)] [(.ref a), (.ref a)])) (fun _ q => XS.ifYes X364.here hx rfl (pc0 := 43) (pc' := 53) rfl (D 22) rfl (XT.i0_ge_t hc366) (by decide) (by decide) (XS.iloadN X364.here hx rfl (D 23) rfl (XS.bipush X364.here hx rfl (D 24) (XS.imul X364.here hx rfl (D 25) rfl (XS.iloadN X364.here hx rfl (D 26) rfl (XS.iadd X364.here hx rfl (D 27) rfl (XS.istoreN X364.here hx rfl (D 28) rfl (l' := #[sR a, sI (((own_hu fd i) * (16 : Int32)) + (fd i)), sI (Int32.ofNat i), sI (fd i)]) rfl (XS.aloadN X364.here hx rfl (D 29) rfl rfl (XS.dup X364.here hx rfl (D 30) rfl rfl q))))))))) ?_
      refine own_gF X364 hx hZ hown (w61 hw) e364 g2_hu rfl rfl (D 31) fun T367 X367 e367 => ?_
      refine own_step (g' := (mkF m 67 #[sR a, sI (((own_hu fd i) * (16 : Int32)) + (fd i)), sI (Int32.ofNat i), sI (fd i)] [(.int ((Int32.ofNat (pn + i)) + (1 : Int32))), (.ref a)])) (fun _ q => XS.iconst X367.here hx rfl (D 32) (XS.iadd X367.here hx rfl (D 33) rfl q)) ?_
      rw [show ((Int32.ofNat (pn + i)) + (1 : Int32)) = (Int32.ofNat (pn + (i + 1))) from (own_inc _)]
      refine own_pF X367 hx hZ hown (w61 hw) e367 g2_hu g0_hu (Or.inl (w62 hw)) (w50 hw) (ty := .int) (by decide) rfl rfl rfl rfl (D 34) fun T368 h368 X368 e368 W368 F369 => ?_
      have N370 := Fr.snoc X368 N365 ge_a
      refine own_step (g' := (mkF m 73 #[sR a, sI (((own_hu fd i) * (16 : Int32)) + (fd i)), sI ((Int32.ofNat i) + (1 : Int32)), sI (fd i)] [])) (fun _ q => XS.iinc X368.here hx rfl (D 35) rfl (l' := #[sR a, sI (((own_hu fd i) * (16 : Int32)) + (fd i)), sI ((Int32.ofNat i) + (1 : Int32)), sI (fd i)]) rfl q) ?_
      rw [show ((Int32.ofNat i) + (1 : Int32)) = (Int32.ofNat (i + 1)) from (own_inc _)]
      refine own_step (g' := (mkF m 4 #[sR a, sI (((own_hu fd i) * (16 : Int32)) + (fd i)), sI (Int32.ofNat (i + 1)), sI (fd i)] [])) (fun _ q => XS.goto X368.here hx rfl (pc0 := 73) (pc' := 4) rfl (D 36) (by decide) (by decide) q) ?_
      have c371 := (g0_hu.wr W368)
      have c372 := (g1_hu.other W368 (Or.inr (RoadKit.slot_ne (t := (.object "java/lang/String")) (t' := .int) (Or.inr (w56 hw)) (Or.inl (w62 hw)) (by decide) (by decide) (by decide))))
      have c373 := (KL_hu.wr W368 (Or.inl (List.mem_of_getElem? (i := 0) rfl)))
      exact ih_hu _ (by omega) (i + 1) (.val (.int (fd i))) T368 h368 _ X368 e368 N370 c373 c371 c372 F369 (by omega) (Or.inr ⟨_, rfl, rfl⟩) rfl
    · refine own_step (g' := (mkF m 78 #[sR a, sI (own_hu fd i), sI (Int32.ofNat i), s3] [(.int ((own_hu fd i).toUInt32.toUInt16.toUInt32.toInt32))])) (fun _ q => XS.iloadN X_hu.here hx rfl (D 4) rfl (XS.iconst X_hu.here hx rfl (D 5) (XS.icmpYes X_hu.here hx rfl (pc0 := 6) (pc' := 76) rfl (D 6) rfl (XT.ii_ge_t (own_ge4 (by omega))) (by decide) (by decide) (XS.iloadN X_hu.here hx rfl (D 37) rfl (XT.i2c X_hu.here hx rfl (D 38) rfl q))))) ?_
      have hi4 : i = 4 := by omega
      have qF374 : ((.int (Int32.ofNat (pn + i))) : Value) = (.int (Int32.ofNat (pn + 4))) := (by rw [hi4])
      have F374 : own_Fp Z h_hu a (.int (Int32.ofNat (pn + 4))) := own_fixf qF374 g2_hu
      have c375 := ((Keep.refl h0 [a]).trans KL_hu (allS (Or.inl (List.mem_of_getElem? (i := 0) rfl)) all0))
      exact own_retN X_hu hx hrt (by simp) (D 39) hlk (by rw [e_hu]; exact ⟨(by rw [hi4, huu]), N_hu, c375, g0_hu, g1_hu, F374⟩) (by decide) (by decide)
  exact lp_hu _ (0) (.unset) s₁ h0 _ X0 e0 (Fr.nil n0) (Keep.refl h0 [a]) E_a F_text_a F_pos_a (Nat.zero_le _) (Or.inl rfl) rfl
def Q_own_escX (Z : State) (G1 : Int32) (G3 : Value) (a tx t : Addr) (kb : ClassId) (cd N2 : Int32) (vs : List Value) (cs : List Int32) (pn : Nat) (h0 : Heap) (n0 : Nat) (v : Option Value) (h : Heap) (L : List Loc) : Prop := v = none ∧ Fr n0 L ∧ Keep h0 h [a] ∧ own_Ea Z h a ∧ own_Ft Z h a (.ref tx) ∧ own_Fp Z h a (.int (Int32.ofNat (pn + 1)))
set_option maxRecDepth 65536 in
set_option maxHeartbeats 40000000 in
theorem own_escX (l : Launch) (Z : State) (a0 : Array Value) (hw : own_HW a0 Z) (ws : List Jvm.Cond) (G1 : Int32) (G3 : Value) (a tx t : Addr) (kb : ClassId) (cd N2 : Int32) (vs : List Value) (cs : List Int32) (pn : Nat) (h0 : Heap) (n0 : Nat) (Z0 : n0 ≤ h0.size) (O2 : own_O2 Z G1) (O4 : own_O4 Z G3) (P5 : ¬ (G1 = (0 : Int32))) (rG3 : G3.isRef = true) (OLD0 : Old Z n0 h0) (U1 : own_U0 Z) (U2 : own_U1 Z) (U3 : own_U2 Z) (E_a : own_Ea Z h0 a) (F_text_a : own_Ft Z h0 a (.ref tx)) (F_pos_a : own_Fp Z h0 a (.int (Int32.ofNat pn))) (E_tx : own_Es Z h0 tx) (F_value_tx : own_Sv Z h0 tx (.ref t)) (F_coder_tx : own_Sc Z h0 tx (.int cd)) (V_t : Arv Z h0 t kb .byte N2 vs (.int 0)) (hcod : StrChars.Road.CodA cs cd N2 vs) (hcs : own_R16 cs) (h8 : cs.length = 8) (ge_a : n0 ≤ a) (hp : pn < 8) (hx8 : (cs.getD pn 0) = (34 : Int32) ∨ (cs.getD pn 0) = (92 : Int32) ∨ (cs.getD pn 0) = (47 : Int32) ∨ (cs.getD pn 0) = (98 : Int32) ∨ (cs.getD pn 0) = (102 : Int32) ∨ (cs.getD pn 0) = (110 : Int32) ∨ (cs.getD pn 0) = (114 : Int32) ∨ (cs.getD pn 0) = (116 : Int32)) :
    own_MetW l Z own_EL ⟨"com/example/tote/tote/JsonText", "escape", "()V"⟩ prog_12_method_7_code 4 none ws ⟨5, 2, 36, 66⟩ #[(.ref a)] h0 (Q_own_escX Z G1 G3 a tx t kb cd N2 vs cs pn h0 n0) := by
  refine own_bodyNW (g0 := fun m => mkF m 0 #[sR a, .unset, .unset, .unset] []) (plainFor_of_name pn_4) (fun _ => rfl) ?_
  intro p e s m below meth c s₁ hx hby hml hrt hlk hown hnm hZ e0 X0 hS CH0
  have D := own_d hby kD51
  have ty_a_tx : a ≠ tx := (Exa.ne E_a E_tx (by decide))
  have ty_a_t : a ≠ t := (Exa.neArv E_a V_t (w50 hw))
  have ty_tx_t : tx ≠ t := (Exa.neArv E_tx V_t (w10 hw))
  refine own_step (g' := (mkF m 1 #[sR a, .unset, .unset, .unset] [(.ref a)])) (fun _ q => XS.aloadN X0.here hx rfl (D 0) rfl rfl q) ?_
  refine own_gF X0 hx hZ hown (w61 hw) e0 F_pos_a rfl rfl (D 1) fun T376 X376 e376 => ?_
  refine own_step (g' := (mkF m 5 #[sR a, .unset, .unset, .unset] [(.ref a), (.int (Int32.ofNat pn))])) (fun _ q => XS.aloadN X376.here hx rfl (D 2) rfl rfl q) ?_
  refine own_gF X376 hx hZ hown (w55 hw) e376 F_text_a rfl rfl (D 3) fun T377 X377 e377 => ?_
  refine own_callV X377 hx hZ hown (w63 hw) (w64 hw) (notFace_of_selects (args := #[]) (mvT hZ (w66 hw))) (w66 hw) (w65 hw) (by decide) (own_bO (W := 1) (own_l8 l Z a0 hw [] G1 G3 tx t kb cd N2 vs cs h0 n0 Z0 O2 O4 P5 rG3 OLD0 E_tx F_value_tx F_coder_tx V_t hcod hcs h8) hZ (w67 hw) (w11 hw) rfl rfl) e377 E_tx  (by decide) (by decide) (argsL := []) (rest := [(.int (Int32.ofNat pn))]) rfl hml.symm (lenOf pd_14 rfl) rfl rfl (own_w0 rfl rfl) (D 4) ?_
  rintro _ T378 L378 X378 ⟨rfl, N378q, e378⟩
  have N379 := Fr.app (Fr.nil n0) N378q
  have hc380 : ((Int32.ofNat pn) < (8 : Int32)) := (own_lt8 hp)
  refine own_step (g' := (mkF m 22 #[sR a, .unset, .unset, .unset] [(.ref a)])) (fun _ q => XS.icmpYes X378.here hx rfl (pc0 := 11) (pc' := 21) rfl (D 5) rfl (XT.ii_lt_t hc380) (by decide) (by decide) (XS.aloadN X378.here hx rfl (D 6) rfl rfl q)) ?_
  refine own_gF X378 hx hZ hown (w55 hw) e378 F_text_a rfl rfl (D 7) fun T381 X381 e381 => ?_
  refine own_step (g' := (mkF m 26 #[sR a, .unset, .unset, .unset] [(.ref a), (.ref tx)])) (fun _ q => XS.aloadN X381.here hx rfl (D 8) rfl rfl q) ?_
  refine own_gF X381 hx hZ hown (w61 hw) e381 F_pos_a rfl rfl (D 9) fun T382 X382 e382 => ?_
  refine own_callV X382 hx hZ hown (w74 hw) (w75 hw) (notFace_of_selects (args := #[]) (mvT hZ (w77 hw))) (w77 hw) (w76 hw) (by decide) (own_bO (W := 0) (own_char l Z a0 hw [] G1 G3 tx t kb cd N2 vs cs pn h0 n0 Z0 O2 O4 P5 rG3 OLD0 U1 U2 U3 E_tx F_value_tx F_coder_tx V_t hcod hcs (by omega : cs.length ≤ 400) (by omega : pn < cs.length)) hZ (w78 hw) (w11 hw) rfl rfl) e382 E_tx  (by decide) (by decide) (argsL := [(.int (Int32.ofNat pn))]) (rest := []) rfl hml.symm (lenOf pd_15 rfl) rfl rfl (own_w0 rfl rfl) (D 10) ?_
  rintro _ T383 L383 X383 ⟨rfl, N383q, e383⟩
  have N384 := Fr.app N379 N383q
  refine own_step (g' := (mkF m 36 #[sR a, sI (cs.getD pn 0), .unset, .unset] [(.int 117), (.int (cs.getD pn 0))])) (fun _ q => XS.istoreN X383.here hx rfl (D 11) rfl (l' := #[sR a, sI (cs.getD pn 0), .unset, .unset]) rfl (XS.iloadN X383.here hx rfl (D 12) rfl (XS.bipush X383.here hx rfl (D 13) q))) ?_
  have hc385 : ¬ ((cs.getD pn 0) = (117 : Int32)) := (own_x8 hx8).1
  refine own_step (g' := (mkF m 126 #[sR a, sI (cs.getD pn 0), .unset, .unset] [])) (fun _ q => XS.icmpYes X383.here hx rfl (pc0 := 36) (pc' := 126) rfl (D 14) rfl (XT.ii_ne_t hc385) (by decide) (by decide) q) ?_
  obtain ⟨a386, T386, h386, k386, b386, kb386, X386, e386, E386, hS, hk386, hZ, hown, fE386, fC386, fV386, fA386, lta386, ltb386, C386, Li386, sf386, st386⟩ := ldcCH X383 hx hZ hown (w252 hw) (own_wS hw) e383 hS (Nat.le_refl _) (own_hEL hw) (by decide) CH0.1 (vs := [(.int (34 : Int32)), (.int (92 : Int32)), (.int (47 : Int32)), (.int (98 : Int32)), (.int (102 : Int32)), (.int (110 : Int32)), (.int (114 : Int32)), (.int (116 : Int32))]) (z := (8 : Int32)) ⟨by decide, by decide⟩ (by decide) rfl (g := (mkF m 126 #[sR a, sI (cs.getD pn 0), .unset, .unset] [])) rfl (D 35) (n := 32) (by decide) (by decide) (by decide) (by decide)
  have CH387 := CH0.trans C386
  have c388 := (E_a.ext E386)
  have ne389 := sf386 a (Safe.exa hZ.alike c388 (by decide) (by decide))
  refine own_step (T' := T386) (g' := (mkF m 128 #[sR a, sI (cs.getD pn 0), .unset, .unset] [(.ref a386)])) st386 ?_
  refine own_step (g' := (mkF m 129 #[sR a, sI (cs.getD pn 0), .unset, .unset] [(.int (cs.getD pn 0)), (.ref a386)])) (fun _ q => XS.iloadN X386.here hx rfl (D 36) rfl q) ?_
  have c390 := (OLD0.ext E386)
  have c391 := (Nat.le_trans Z0 E386.1)
  refine own_callV X386 hx hZ hown (w96 hw) (w97 hw) (notFace_of_selects (args := #[]) (mvT hZ (w99 hw))) (w99 hw) (w98 hw) (by decide) (own_bO (W := 0) (own_ioiX l Z a0 hw [] G1 G3 a386 b386 kb386 (cs.getD pn 0) h386 n0 c391 O2 O4 P5 rG3 c390 fE386 fV386 fC386 fA386 ((own_x8 hx8).2.1 : (cs.getD pn 0).toInt8.toInt32 = (cs.getD pn 0)) ((own_x8 hx8).2.2 : ¬ (cs.getD pn 0) < 0 ∧ ¬ (255 : Int32) < (cs.getD pn 0))) hZ (w100 hw) (w11 hw) rfl rfl) e386 fE386  (by decide) (by decide) (argsL := [(.int (cs.getD pn 0))]) (rest := []) rfl hml.symm (lenOf pd_6 rfl) rfl rfl (own_w0 rfl rfl) (D 37) ?_
  rintro _ T392 L392 X392 ⟨r392, rfl, N392q, e392, p0_392⟩
  have N393 := Fr.app N384 N392q
  have hc394 : ¬ (r392 < 0) := (p0_392.1 hx8)
  refine own_step (g' := (mkF m 137 #[sR a, sI (cs.getD pn 0), .unset, .unset] [(.ref a), (.ref a)])) (fun _ q => XS.ifNo X392.here hx rfl (D 38) rfl (XT.i0_lt_f hc394) (XS.aloadN X392.here hx rfl (D 39) rfl rfl (XS.dup X392.here hx rfl (D 40) rfl rfl q))) ?_
  have c395 := (F_pos_a.ext E386)
  refine own_gF X392 hx hZ hown (w61 hw) e392 c395 rfl rfl (D 41) fun T396 X396 e396 => ?_
  refine own_step (g' := (mkF m 142 #[sR a, sI (cs.getD pn 0), .unset, .unset] [(.int ((Int32.ofNat pn) + (1 : Int32))), (.ref a)])) (fun _ q => XS.iconst X396.here hx rfl (D 42) (XS.iadd X396.here hx rfl (D 43) rfl q)) ?_
  rw [show ((Int32.ofNat pn) + (1 : Int32)) = (Int32.ofNat (pn + 1)) from (own_inc _)]
  refine own_pF X396 hx hZ hown (w61 hw) e396 c395 c388 (Or.inl (w62 hw)) (w50 hw) (ty := .int) (by decide) rfl rfl rfl rfl (D 44) fun T397 h397 X397 e397 W397 F398 => ?_
  have N399 := Fr.snoc X397 N393 ge_a
  have CH400 := CH387.trans (CHr.wr W397 (Safe.exa hZ.alike c388 (by decide) (by decide)) CH387.1)
  refine own_step (g' := (mkF m 155 #[sR a, sI (cs.getD pn 0), .unset, .unset] [])) (fun _ q => XS.goto X397.here hx rfl (pc0 := 145) (pc' := 155) rfl (D 45) (by decide) (by decide) q) ?_
  have c401 := (((Keep.refl h0 [a]).ext E386).wr W397 (Or.inl (List.mem_of_getElem? (i := 0) rfl)))
  have c402 := (c388.wr W397)
  have c403 := ((F_text_a.ext E386).other W397 (Or.inr (RoadKit.slot_ne (t := (.object "java/lang/String")) (t' := .int) (Or.inr (w56 hw)) (Or.inl (w62 hw)) (by decide) (by decide) (by decide))))
  have c404 := (Nat.le_trans hk386 (Keep.of_wr W397).1)
  exact own_retVW X397 hx hZ (own_hEL hw) hS (by rw [e397]; exact c404) (by rw [e397]; exact CH400) hrt (D 46) hlk (by rw [e397]; exact ⟨rfl, N399, c401, c402, c403, F398⟩) (by decide) (by decide)
theorem pd_21 : parseMethodDescriptor "()C" = some ⟨[], some .char⟩ := by decide +kernel
def Q_own_escU (Z : State) (G1 : Int32) (G3 : Value) (a tx t : Addr) (kb : ClassId) (cd N2 : Int32) (vs : List Value) (cs : List Int32) (pn : Nat) (fd : Nat → Int32) (uu : Int32) (h0 : Heap) (n0 : Nat) (v : Option Value) (h : Heap) (L : List Loc) : Prop := v = none ∧ Fr n0 L ∧ Keep h0 h [a] ∧ own_Ea Z h a ∧ own_Ft Z h a (.ref tx) ∧ own_Fp Z h a (.int (Int32.ofNat (pn + 1 + 4)))
set_option maxRecDepth 65536 in
set_option maxHeartbeats 40000000 in
theorem own_escU (l : Launch) (Z : State) (a0 : Array Value) (hw : own_HW a0 Z) (ws : List Jvm.Cond) (G1 : Int32) (G3 : Value) (a tx t : Addr) (kb : ClassId) (cd N2 : Int32) (vs : List Value) (cs : List Int32) (pn : Nat) (fd : Nat → Int32) (uu : Int32) (h0 : Heap) (n0 : Nat) (Z0 : n0 ≤ h0.size) (O2 : own_O2 Z G1) (O4 : own_O4 Z G3) (P5 : ¬ (G1 = (0 : Int32))) (rG3 : G3.isRef = true) (OLD0 : Old Z n0 h0) (U1 : own_U0 Z) (U2 : own_U1 Z) (U3 : own_U2 Z) (E_a : own_Ea Z h0 a) (F_text_a : own_Ft Z h0 a (.ref tx)) (F_pos_a : own_Fp Z h0 a (.int (Int32.ofNat pn))) (E_tx : own_Es Z h0 tx) (F_value_tx : own_Sv Z h0 tx (.ref t)) (F_coder_tx : own_Sc Z h0 tx (.int cd)) (V_t : Arv Z h0 t kb .byte N2 vs (.int 0)) (hcod : StrChars.Road.CodA cs cd N2 vs) (hcs : own_R16 cs) (h8 : cs.length = 8) (ge_a : n0 ≤ a) (hp : pn + 5 ≤ 8) (h117 : cs.getD pn 0 = (117 : Int32)) (hfd : ∀ i, i < 4 → own_hv (cs.getD (pn + 1 + i) 0) (fd i)) (huu : nar .char ((own_hu fd 4).toUInt32.toUInt16.toUInt32.toInt32) = uu) (hu0 : ¬ uu = 0) (hus : ¬ (¬ uu < (55296 : Int32) ∧ uu < (57344 : Int32))) :
    own_Met l Z ⟨"com/example/tote/tote/JsonText", "escape", "()V"⟩ prog_12_method_7_code 4 none ws ⟨6, 0, 0, 81⟩ #[(.ref a)] h0 (Q_own_escU Z G1 G3 a tx t kb cd N2 vs cs pn fd uu h0 n0) := by
  refine own_bodyN (g0 := fun m => mkF m 0 #[sR a, .unset, .unset, .unset] []) (plainFor_of_name pn_4) (fun _ => rfl) ?_
  intro p e s m below meth c s₁ hx hby hml hrt hlk hown hnm hZ e0 X0
  have D := own_d hby kD51
  have ty_a_tx : a ≠ tx := (Exa.ne E_a E_tx (by decide))
  have ty_a_t : a ≠ t := (Exa.neArv E_a V_t (w50 hw))
  have ty_tx_t : tx ≠ t := (Exa.neArv E_tx V_t (w10 hw))
  refine own_step (g' := (mkF m 1 #[sR a, .unset, .unset, .unset] [(.ref a)])) (fun _ q => XS.aloadN X0.here hx rfl (D 0) rfl rfl q) ?_
  refine own_gF X0 hx hZ hown (w61 hw) e0 F_pos_a rfl rfl (D 1) fun T405 X405 e405 => ?_
  refine own_step (g' := (mkF m 5 #[sR a, .unset, .unset, .unset] [(.ref a), (.int (Int32.ofNat pn))])) (fun _ q => XS.aloadN X405.here hx rfl (D 2) rfl rfl q) ?_
  refine own_gF X405 hx hZ hown (w55 hw) e405 F_text_a rfl rfl (D 3) fun T406 X406 e406 => ?_
  refine own_callV X406 hx hZ hown (w63 hw) (w64 hw) (notFace_of_selects (args := #[]) (mvT hZ (w66 hw))) (w66 hw) (w65 hw) (by decide) (own_bO (W := 1) (own_l8 l Z a0 hw [] G1 G3 tx t kb cd N2 vs cs h0 n0 Z0 O2 O4 P5 rG3 OLD0 E_tx F_value_tx F_coder_tx V_t hcod hcs h8) hZ (w67 hw) (w11 hw) rfl rfl) e406 E_tx  (by decide) (by decide) (argsL := []) (rest := [(.int (Int32.ofNat pn))]) rfl hml.symm (lenOf pd_14 rfl) rfl rfl (own_w0 rfl rfl) (D 4) ?_
  rintro _ T407 L407 X407 ⟨rfl, N407q, e407⟩
  have N408 := Fr.app (Fr.nil n0) N407q
  have hc409 : ((Int32.ofNat pn) < (8 : Int32)) := (own_lt8 (by omega))
  refine own_step (g' := (mkF m 22 #[sR a, .unset, .unset, .unset] [(.ref a)])) (fun _ q => XS.icmpYes X407.here hx rfl (pc0 := 11) (pc' := 21) rfl (D 5) rfl (XT.ii_lt_t hc409) (by decide) (by decide) (XS.aloadN X407.here hx rfl (D 6) rfl rfl q)) ?_
  refine own_gF X407 hx hZ hown (w55 hw) e407 F_text_a rfl rfl (D 7) fun T410 X410 e410 => ?_
  refine own_step (g' := (mkF m 26 #[sR a, .unset, .unset, .unset] [(.ref a), (.ref tx)])) (fun _ q => XS.aloadN X410.here hx rfl (D 8) rfl rfl q) ?_
  refine own_gF X410 hx hZ hown (w61 hw) e410 F_pos_a rfl rfl (D 9) fun T411 X411 e411 => ?_
  refine own_callV X411 hx hZ hown (w74 hw) (w75 hw) (notFace_of_selects (args := #[]) (mvT hZ (w77 hw))) (w77 hw) (w76 hw) (by decide) (own_bO (W := 0) (own_char l Z a0 hw [] G1 G3 tx t kb cd N2 vs cs pn h0 n0 Z0 O2 O4 P5 rG3 OLD0 U1 U2 U3 E_tx F_value_tx F_coder_tx V_t hcod hcs (by omega : cs.length ≤ 400) (by omega : pn < cs.length)) hZ (w78 hw) (w11 hw) rfl rfl) e411 E_tx  (by decide) (by decide) (argsL := [(.int (Int32.ofNat pn))]) (rest := []) rfl hml.symm (lenOf pd_15 rfl) rfl rfl (own_w0 rfl rfl) (D 10) ?_
  rintro _ T412 L412 X412 ⟨rfl, N412q, e412⟩
  have N413 := Fr.app N408 N412q
  refine own_step (g' := (mkF m 36 #[sR a, sI (cs.getD pn 0), .unset, .unset] [(.int 117), (.int (cs.getD pn 0))])) (fun _ q => XS.istoreN X412.here hx rfl (D 11) rfl (l' := #[sR a, sI (cs.getD pn 0), .unset, .unset]) rfl (XS.iloadN X412.here hx rfl (D 12) rfl (XS.bipush X412.here hx rfl (D 13) q))) ?_
  have hc414 : ((cs.getD pn 0) = (117 : Int32)) := h117
  refine own_step (g' := (mkF m 40 #[sR a, sI (cs.getD pn 0), .unset, .unset] [(.ref a)])) (fun _ q => XS.icmpNo X412.here hx rfl (D 14) rfl (XT.ii_ne_f hc414) (XS.aloadN X412.here hx rfl (D 15) rfl rfl q)) ?_
  refine own_gF X412 hx hZ hown (w61 hw) e412 F_pos_a rfl rfl (D 16) fun T415 X415 e415 => ?_
  refine own_step (g' := (mkF m 48 #[sR a, sI (cs.getD pn 0), sI ((Int32.ofNat pn) - (1 : Int32)), .unset] [(.ref a), (.ref a)])) (fun _ q => XS.iconst X415.here hx rfl (D 17) (XS.isub X415.here hx rfl (D 18) rfl (XS.istoreN X415.here hx rfl (D 19) rfl (l' := #[sR a, sI (cs.getD pn 0), sI ((Int32.ofNat pn) - (1 : Int32)), .unset]) rfl (XS.aloadN X415.here hx rfl (D 20) rfl rfl (XS.dup X415.here hx rfl (D 21) rfl rfl q))))) ?_
  refine own_gF X415 hx hZ hown (w61 hw) e415 F_pos_a rfl rfl (D 22) fun T416 X416 e416 => ?_
  refine own_step (g' := (mkF m 53 #[sR a, sI (cs.getD pn 0), sI ((Int32.ofNat pn) - (1 : Int32)), .unset] [(.int ((Int32.ofNat pn) + (1 : Int32))), (.ref a)])) (fun _ q => XS.iconst X416.here hx rfl (D 23) (XS.iadd X416.here hx rfl (D 24) rfl q)) ?_
  rw [show ((Int32.ofNat pn) + (1 : Int32)) = (Int32.ofNat (pn + 1)) from (own_inc _)]
  refine own_pF X416 hx hZ hown (w61 hw) e416 F_pos_a E_a (Or.inl (w62 hw)) (w50 hw) (ty := .int) (by decide) rfl rfl rfl rfl (D 25) fun T417 h417 X417 e417 W417 F418 => ?_
  have N419 := Fr.snoc X417 N413 ge_a
  refine own_step (g' := (mkF m 57 #[sR a, sI (cs.getD pn 0), sI ((Int32.ofNat pn) - (1 : Int32)), .unset] [(.ref a)])) (fun _ q => XS.aloadN X417.here hx rfl (D 26) rfl rfl q) ?_
  have c420 := (OLD0.wr W417 ge_a)
  have c421 := (E_a.wr W417)
  have c422 := (F_text_a.other W417 (Or.inr (RoadKit.slot_ne (t := (.object "java/lang/String")) (t' := .int) (Or.inr (w56 hw)) (Or.inl (w62 hw)) (by decide) (by decide) (by decide))))
  have c423 := (E_tx.wr W417)
  have c424 := (F_value_tx.other W417 (Or.inl (Ne.symm ty_a_tx)))
  have c425 := (F_coder_tx.other W417 (Or.inl (Ne.symm ty_a_tx)))
  have c426 := (V_t.other W417 (Ne.symm ty_a_t))
  have c427 := (Nat.le_trans Z0 (Keep.of_wr W417).1)
  refine own_callQ X417 hx hZ hown (w229 hw) (w230 hw) (w50 hw) (w231 hw) (w232 hw) (by decide) (own_bO (W := 0) (own_hxu l Z a0 hw [] G1 G3 a tx t kb cd N2 vs cs (pn + 1) fd uu h417 n0 c427 O2 O4 P5 rG3 c420 U1 U2 U3 c421 c422 F418 c423 c424 c425 c426 hcod hcs h8 ge_a hfd huu (by omega : (pn + 1) + 4 ≤ 8)) hZ (w232 hw) (w40 hw) rfl rfl) e417 c421  (by decide) (by decide) (argsL := []) (rest := []) rfl hml.symm (lenOf pd_21 rfl) rfl rfl (own_w0 rfl rfl) (D 27) ?_
  rintro _ T428 L428 X428 ⟨rfl, N428q, K428, f0_428, f1_428, f2_428⟩
  have N429 := Fr.app N419 N428q
  refine own_step (g' := (mkF m 62 #[sR a, sI (cs.getD pn 0), sI ((Int32.ofNat pn) - (1 : Int32)), sI uu] [(.int uu)])) (fun _ q => XS.istoreN X428.here hx rfl (D 28) rfl (l' := #[sR a, sI (cs.getD pn 0), sI ((Int32.ofNat pn) - (1 : Int32)), sI uu]) rfl (XS.iloadN X428.here hx rfl (D 29) rfl q)) ?_
  have hc430 : ¬ (uu = 0) := hu0
  refine own_step (g' := (mkF m 74 #[sR a, sI (cs.getD pn 0), sI ((Int32.ofNat pn) - (1 : Int32)), sI uu] [(.int uu)])) (fun _ q => XS.ifYes X428.here hx rfl (pc0 := 62) (pc' := 73) rfl (D 30) rfl (XT.i0_ne_t hc430) (by decide) (by decide) (XS.iloadN X428.here hx rfl (D 31) rfl q)) ?_
  have c431 := (Nat.le_trans c427 K428.1)
  refine own_callS X428 hx hZ hown (w136 hw) (w137 hw) (w133 hw) (w138 hw) (by decide) (own_bO (W := 0) (own_isSurrogate0 l Z a0 hw [] uu T428.heap n0 c431 (hus : ¬ (¬ uu < (55296 : Int32) ∧ uu < (57344 : Int32)))) hZ (w138 hw) (w133 hw) rfl rfl) rfl  (by decide) (by decide) (argsL := [(.int uu)]) (rest := []) rfl hml.symm (lenOf pd_16 rfl) rfl rfl (own_w0 rfl rfl) (D 32) ?_
  rintro _ T432 L432 X432 ⟨rfl, N432q, e432⟩
  have N433 := Fr.app N429 N432q
  refine own_step (g' := (mkF m 155 #[sR a, sI (cs.getD pn 0), sI ((Int32.ofNat pn) - (1 : Int32)), sI uu] [])) (fun _ q => XS.ifYes X432.here hx rfl (pc0 := 77) (pc' := 123) rfl (D 33) rfl (by decide) (by decide) (by decide) (XS.goto X432.here hx rfl (pc0 := 123) (pc' := 155) rfl (D 34) (by decide) (by decide) q)) ?_
  have c434 := (((Keep.refl h0 [a]).wr W417 (Or.inl (List.mem_of_getElem? (i := 0) rfl))).trans K428 (allS (Or.inl (List.mem_of_getElem? (i := 0) rfl)) all0))
  exact own_retV X432 hx hrt (D 46) hlk (by rw [e432]; exact ⟨rfl, N433, c434, f0_428, f1_428, f2_428⟩) (by decide) (by decide)
theorem pd_22 : parseMethodDescriptor "()V" = some ⟨[], none⟩ := by decide +kernel
def Q_own_str (Z : State) (G1 : Int32) (G3 : Value) (a tx t : Addr) (kb : ClassId) (cd N2 : Int32) (vs : List Value) (cs : List Int32) (pn qe k0 : Nat) (h0 : Heap) (n0 : Nat) (v : Option Value) (h : Heap) (L : List Loc) : Prop := v = none ∧ Fr n0 L ∧ Keep h0 h [a] ∧ own_Ea Z h a ∧ own_Ft Z h a (.ref tx) ∧ own_Fp Z h a (.int (Int32.ofNat (qe + 1)))
set_option maxRecDepth 65536 in
set_option maxHeartbeats 40000000 in
theorem own_str (l : Launch) (Z : State) (a0 : Array Value) (hw : own_HW a0 Z) (ws : List Jvm.Cond) (G1 : Int32) (G3 : Value) (a tx t : Addr) (kb : ClassId) (cd N2 : Int32) (vs : List Value) (cs : List Int32) (pn qe k0 : Nat) (h0 : Heap) (n0 : Nat) (Z0 : n0 ≤ h0.size) (O2 : own_O2 Z G1) (O4 : own_O4 Z G3) (P5 : ¬ (G1 = (0 : Int32))) (rG3 : G3.isRef = true) (OLD0 : Old Z n0 h0) (U1 : own_U0 Z) (U2 : own_U1 Z) (U3 : own_U2 Z) (E_a : own_Ea Z h0 a) (F_text_a : own_Ft Z h0 a (.ref tx)) (F_pos_a : own_Fp Z h0 a (.int (Int32.ofNat pn))) (E_tx : own_Es Z h0 tx) (F_value_tx : own_Sv Z h0 tx (.ref t)) (F_coder_tx : own_Sc Z h0 tx (.int cd)) (V_t : Arv Z h0 t kb .byte N2 vs (.int 0)) (hcod : StrChars.Road.CodA cs cd N2 vs) (hcs : own_R16 cs) (h8 : cs.length = 8) (ge_a : n0 ≤ a) (hs0 : own_so cs qe k0 (pn + 1)) (hqe : cs.getD qe 0 = (34 : Int32)) (hq8 : qe < 8) (hp : pn + 1 < 8) :
    own_MetW l Z own_EL ⟨"com/example/tote/tote/JsonText", "string", "()V"⟩ prog_12_method_6_code 2 none ws ⟨7, 2 * k0, 36 * k0, 96⟩ #[(.ref a)] h0 (Q_own_str Z G1 G3 a tx t kb cd N2 vs cs pn qe k0 h0 n0) := by
  refine own_bodyNW (g0 := fun m => mkF m 0 #[sR a, .unset] []) (plainFor_of_name pn_4) (fun _ => rfl) ?_
  intro p e s m below meth c s₁ hx hby hml hrt hlk hown hnm hZ e0 X0 hS CH0
  have D := own_d hby kD28
  have ty_a_tx : a ≠ tx := (Exa.ne E_a E_tx (by decide))
  have ty_a_t : a ≠ t := (Exa.neArv E_a V_t (w50 hw))
  have ty_tx_t : tx ≠ t := (Exa.neArv E_tx V_t (w10 hw))
  refine own_step (g' := (mkF m 2 #[sR a, .unset] [(.ref a), (.ref a)])) (fun _ q => XS.aloadN X0.here hx rfl (D 0) rfl rfl (XS.dup X0.here hx rfl (D 1) rfl rfl q)) ?_
  refine own_gF X0 hx hZ hown (w61 hw) e0 F_pos_a rfl rfl (D 2) fun T435 X435 e435 => ?_
  refine own_step (g' := (mkF m 7 #[sR a, .unset] [(.int ((Int32.ofNat pn) + (1 : Int32))), (.ref a)])) (fun _ q => XS.iconst X435.here hx rfl (D 3) (XS.iadd X435.here hx rfl (D 4) rfl q)) ?_
  rw [show ((Int32.ofNat pn) + (1 : Int32)) = (Int32.ofNat (pn + 1)) from (own_inc _)]
  refine own_pF X435 hx hZ hown (w61 hw) e435 F_pos_a E_a (Or.inl (w62 hw)) (w50 hw) (ty := .int) (by decide) rfl rfl rfl rfl (D 5) fun T436 h436 X436 e436 W436 F437 => ?_
  have N438 := Fr.snoc X436 (Fr.nil n0) ge_a
  have CH439 := CH0.trans (CHr.wr W436 (Safe.exa hZ.alike E_a (by decide) (by decide)) CH0.1)
  have c440 := (E_a.wr W436)
  have c441 := (F_text_a.other W436 (Or.inr (RoadKit.slot_ne (t := (.object "java/lang/String")) (t' := .int) (Or.inr (w56 hw)) (Or.inl (w62 hw)) (by decide) (by decide) (by decide))))
  have c442 := (Nat.le_trans (Nat.le_refl _) (Keep.of_wr W436).1)
  have lp_st : ∀ (k_st : Nat) (k : Nat) (i : Nat) (s1 : Slot) (vm_st : Vm) (kz_st : Nat) (T_st : State) (h_st : Heap) (L_st : List Loc) (X_st : Stand p l e (⟨7, 2 * k0, 36 * k0, 96⟩ : Room) (s.setVm vm_st) m #[(.ref a)] below meth c T_st L_st (2 * (k0 - k)) (36 * (k0 - k))) (e_st : T_st.heap = h_st) (N_st : Fr n0 L_st) (hS : s.Since vm_st kz_st) (HK_st : kz_st ≤ h_st.size) (hZ : Z.Warmed39 (s.setVm vm_st).vm) (hown : (s.setVm vm_st).vm.findClass "com/example/tote/tote/JsonText" = some m.cls) (CH_st : CHr Z own_EL s.vm s.heap vm_st h_st) (KL_st : Keep h436 h_st [a]) (g0_st : own_Ea Z h_st a) (g1_st : own_Ft Z h_st a (.ref tx)) (g2_st : own_Fp Z h_st a (.int (Int32.ofNat i))) (hso : own_so cs qe k i) (hi8 : i < 8 ∨ i = qe) (hk0 : k ≤ k0) (hs1 : s1 = .unset ∨ ∃ w, s1 = .val w ∧ w.category = 1) (hk_st : k = k_st), own_Fin p e below (own_GW Z own_EL s (Q_own_str Z G1 G3 a tx t kb cd N2 vs cs pn qe k0 h0 n0) (⟨7, 2 * k0, 36 * k0, 96⟩ : Room).cells (⟨7, 2 * k0, 36 * k0, 96⟩ : Room).slots) T_st (mkF m 10 #[sR a, s1] []) := by
    intro k_st
    induction k_st using Nat.strongRecOn with | _ k_st ih_st => ?_
    intro k i s1 vm_st kz_st T_st h_st L_st X_st e_st N_st hS HK_st hZ hown CH_st KL_st g0_st g1_st g2_st hso hi8 hk0 hs1 hk_st
    subst hk_st
    refine own_step (g' := (mkF m 11 #[sR a, s1] [(.ref a)])) (fun _ q => XS.aloadN X_st.here hx rfl (D 6) rfl rfl q) ?_
    refine own_gF X_st hx hZ hown (w61 hw) e_st g2_st rfl rfl (D 7) fun T443 X443 e443 => ?_
    refine own_step (g' := (mkF m 15 #[sR a, s1] [(.ref a), (.int (Int32.ofNat i))])) (fun _ q => XS.aloadN X443.here hx rfl (D 8) rfl rfl q) ?_
    refine own_gF X443 hx hZ hown (w55 hw) e443 g1_st rfl rfl (D 9) fun T444 X444 e444 => ?_
    have c445 := ((OLD0.wr W436 ge_a).keep KL_st (allS ge_a all0))
    have c446 := ((E_tx.wr W436).keep KL_st)
    have c447 := ((F_value_tx.other W436 (Or.inl (Ne.symm ty_a_tx))).keep KL_st (ninS (Ne.symm ty_a_tx) nin0))
    have c448 := ((F_coder_tx.other W436 (Or.inl (Ne.symm ty_a_tx))).keep KL_st (ninS (Ne.symm ty_a_tx) nin0))
    have c449 := ((V_t.other W436 (Ne.symm ty_a_t)).keep KL_st (ninS (Ne.symm ty_a_t) nin0))
    have c450 := (Nat.le_trans (Nat.le_trans Z0 (Keep.of_wr W436).1) KL_st.1)
    refine own_callV X444 hx hZ hown (w63 hw) (w64 hw) (notFace_of_selects (args := #[]) (mvT hZ (w66 hw))) (w66 hw) (w65 hw) (by decide) (own_bO (W := 1) (own_l8 l Z a0 hw [] G1 G3 tx t kb cd N2 vs cs h_st n0 c450 O2 O4 P5 rG3 c445 c446 c447 c448 c449 hcod hcs h8) hZ (w67 hw) (w11 hw) rfl rfl) e444 c446  (by first | decide | (dsimp only; omega)) (by first | decide | (dsimp only; omega)) (argsL := []) (rest := [(.int (Int32.ofNat i))]) rfl hml.symm (lenOf pd_14 rfl) rfl rfl (own_w0 rfl rfl) (D 10) ?_
    rintro _ T451 L451 X451 ⟨rfl, N451q, e451⟩
    have N452 := Fr.app N_st N451q
    have hc453 : ((Int32.ofNat i) < (8 : Int32)) := (own_lt8 (by rcases hi8 with q | q <;> omega))
    refine own_step (g' := (mkF m 32 #[sR a, s1] [(.ref a)])) (fun _ q => XS.icmpYes X451.here hx rfl (pc0 := 21) (pc' := 31) rfl (D 11) rfl (XT.ii_lt_t hc453) (by decide) (by decide) (XS.aloadN X451.here hx rfl (D 12) rfl rfl q)) ?_
    refine own_gF X451 hx hZ hown (w55 hw) e451 g1_st rfl rfl (D 13) fun T454 X454 e454 => ?_
    refine own_step (g' := (mkF m 36 #[sR a, s1] [(.ref a), (.ref tx)])) (fun _ q => XS.aloadN X454.here hx rfl (D 14) rfl rfl q) ?_
    refine own_gF X454 hx hZ hown (w61 hw) e454 g2_st rfl rfl (D 15) fun T455 X455 e455 => ?_
    refine own_callV X455 hx hZ hown (w74 hw) (w75 hw) (notFace_of_selects (args := #[]) (mvT hZ (w77 hw))) (w77 hw) (w76 hw) (by decide) (own_bO (W := 0) (own_char l Z a0 hw [] G1 G3 tx t kb cd N2 vs cs i h_st n0 c450 O2 O4 P5 rG3 c445 U1 U2 U3 c446 c447 c448 c449 hcod hcs (by omega : cs.length ≤ 400) (by rcases hi8 with q | q <;> omega : i < cs.length)) hZ (w78 hw) (w11 hw) rfl rfl) e455 c446  (by first | decide | (dsimp only; omega)) (by first | decide | (dsimp only; omega)) (argsL := [(.int (Int32.ofNat i))]) (rest := []) rfl hml.symm (lenOf pd_15 rfl) rfl rfl (own_w0 rfl rfl) (D 16) ?_
    rintro _ T456 L456 X456 ⟨rfl, N456q, e456⟩
    have N457 := Fr.app N452 N456q
    refine own_step (g' := (mkF m 43 #[sR a, sI (cs.getD i 0)] [])) (fun _ q => XS.istoreNS X456.here hx rfl (D 17) rfl rfl hs1 q) ?_
    rcases own_so_cases hso with ⟨hk0, hiq⟩ | ⟨k', hkk, hl1, hpl, hso'⟩ | ⟨k', hkk, hl1, hhi, hlo, hso'⟩ | ⟨k', hkk, hl1, h92, hex, hso'⟩ | ⟨k', hkk, hl1, h92, ⟨fd, uu, h117, hfd, huu, hu0, hus⟩, hso'⟩
    · refine own_step (g' := (mkF m 46 #[sR a, sI (cs.getD i 0)] [(.int 34), (.int (cs.getD i 0))])) (fun _ q => XS.iloadN X456.here hx rfl (D 18) rfl (XS.bipush X456.here hx rfl (D 19) q)) ?_
      have hc458 : ((cs.getD i 0) = (34 : Int32)) := (by rw [hiq]; exact hqe)
      refine own_step (g' := (mkF m 51 #[sR a, sI (cs.getD i 0)] [(.ref a), (.ref a)])) (fun _ q => XS.icmpNo X456.here hx rfl (D 20) rfl (XT.ii_ne_f hc458) (XS.aloadN X456.here hx rfl (D 21) rfl rfl (XS.dup X456.here hx rfl (D 22) rfl rfl q))) ?_
      refine own_gF X456 hx hZ hown (w61 hw) e456 g2_st rfl rfl (D 23) fun T459 X459 e459 => ?_
      refine own_step (g' := (mkF m 56 #[sR a, sI (cs.getD i 0)] [(.int ((Int32.ofNat i) + (1 : Int32))), (.ref a)])) (fun _ q => XS.iconst X459.here hx rfl (D 24) (XS.iadd X459.here hx rfl (D 25) rfl q)) ?_
      rw [show ((Int32.ofNat i) + (1 : Int32)) = (Int32.ofNat (i + 1)) from (own_inc _)]
      refine own_pF X459 hx hZ hown (w61 hw) e459 g2_st g0_st (Or.inl (w62 hw)) (w50 hw) (ty := .int) (by decide) rfl rfl rfl rfl (D 26) fun T460 h460 X460 e460 W460 F461 => ?_
      have N462 := Fr.snoc X460 N457 ge_a
      have CH463 := CH_st.trans (CHr.wr W460 (Safe.exa hZ.alike g0_st (by decide) (by decide)) CH_st.1)
      have qF464 : ((.int (Int32.ofNat (i + 1))) : Value) = (.int (Int32.ofNat (qe + 1))) := (by rw [hiq])
      have F464 : own_Fp Z h460 a (.int (Int32.ofNat (qe + 1))) := own_fixf qF464 F461
      have c465 := ((((Keep.refl h0 [a]).wr W436 (Or.inl (List.mem_of_getElem? (i := 0) rfl))).trans KL_st (allS (Or.inl (List.mem_of_getElem? (i := 0) rfl)) all0)).wr W460 (Or.inl (List.mem_of_getElem? (i := 0) rfl)))
      have c466 := (g0_st.wr W460)
      have c467 := (g1_st.other W460 (Or.inr (RoadKit.slot_ne (t := (.object "java/lang/String")) (t' := .int) (Or.inr (w56 hw)) (Or.inl (w62 hw)) (by decide) (by decide) (by decide))))
      have c468 := (Nat.le_trans HK_st (Keep.of_wr W460).1)
      exact own_retVW X460 hx hZ (own_hEL hw) hS (by rw [e460]; exact c468) (by rw [e460]; exact CH463) hrt (D 27) hlk (by rw [e460]; exact ⟨rfl, N462, c465, c466, c467, F464⟩) (by first | decide | (dsimp only; omega)) (by first | decide | (dsimp only; omega))
    · refine own_step (g' := (mkF m 46 #[sR a, sI (cs.getD i 0)] [(.int 34), (.int (cs.getD i 0))])) (fun _ q => XS.iloadN X456.here hx rfl (D 18) rfl (XS.bipush X456.here hx rfl (D 19) q)) ?_
      have hc469 : ¬ ((cs.getD i 0) = (34 : Int32)) := hpl.1
      refine own_step (g' := (mkF m 63 #[sR a, sI (cs.getD i 0)] [(.int 92), (.int (cs.getD i 0))])) (fun _ q => XS.icmpYes X456.here hx rfl (pc0 := 46) (pc' := 60) rfl (D 20) rfl (XT.ii_ne_t hc469) (by decide) (by decide) (XS.iloadN X456.here hx rfl (D 28) rfl (XS.bipush X456.here hx rfl (D 29) q))) ?_
      have hc470 : ¬ ((cs.getD i 0) = (92 : Int32)) := hpl.2.1
      refine own_step (g' := (mkF m 86 #[sR a, sI (cs.getD i 0)] [(.int 32), (.int (cs.getD i 0))])) (fun _ q => XS.icmpYes X456.here hx rfl (pc0 := 63) (pc' := 83) rfl (D 30) rfl (XT.ii_ne_t hc470) (by decide) (by decide) (XS.iloadN X456.here hx rfl (D 40) rfl (XS.bipush X456.here hx rfl (D 41) q))) ?_
      have hc471 : ¬ ((cs.getD i 0) < (32 : Int32)) := hpl.2.2.1
      refine own_step (g' := (mkF m 97 #[sR a, sI (cs.getD i 0)] [(.int (cs.getD i 0))])) (fun _ q => XS.icmpYes X456.here hx rfl (pc0 := 86) (pc' := 96) rfl (D 42) rfl (XT.ii_ge_t hc471) (by decide) (by decide) (XS.iloadN X456.here hx rfl (D 43) rfl q)) ?_
      refine own_callS X456 hx hZ hown (w131 hw) (w132 hw) (w133 hw) (w134 hw) (by decide) (own_bO (W := 0) (own_isHighSurrogate0 l Z a0 hw [] (cs.getD i 0) h_st n0 c450 (own_pl_hi hpl : ¬ (¬ (cs.getD i 0) < (55296 : Int32) ∧ (cs.getD i 0) < (56320 : Int32)))) hZ (w134 hw) (w133 hw) rfl rfl) e456  (by first | decide | (dsimp only; omega)) (by first | decide | (dsimp only; omega)) (argsL := [(.int (cs.getD i 0))]) (rest := []) rfl hml.symm (lenOf pd_16 rfl) rfl rfl (own_w0 rfl rfl) (D 44) ?_
      rintro _ T472 L472 X472 ⟨rfl, N472q, e472⟩
      have N473 := Fr.app N457 N472q
      refine own_step (g' := (mkF m 152 #[sR a, sI (cs.getD i 0)] [(.int (cs.getD i 0))])) (fun _ q => XS.ifYes X472.here hx rfl (pc0 := 100) (pc' := 151) rfl (D 45) rfl (by decide) (by decide) (by decide) (XS.iloadN X472.here hx rfl (D 70) rfl q)) ?_
      refine own_callS X472 hx hZ hown (w136 hw) (w137 hw) (w133 hw) (w138 hw) (by decide) (own_bO (W := 0) (own_isSurrogate0 l Z a0 hw [] (cs.getD i 0) h_st n0 c450 (hpl.2.2.2 : ¬ (¬ (cs.getD i 0) < (55296 : Int32) ∧ (cs.getD i 0) < (57344 : Int32)))) hZ (w138 hw) (w133 hw) rfl rfl) e472  (by first | decide | (dsimp only; omega)) (by first | decide | (dsimp only; omega)) (argsL := [(.int (cs.getD i 0))]) (rest := []) rfl hml.symm (lenOf pd_16 rfl) rfl rfl (own_w0 rfl rfl) (D 71) ?_
      rintro _ T474 L474 X474 ⟨rfl, N474q, e474⟩
      have N475 := Fr.app N473 N474q
      refine own_step (g' := (mkF m 167 #[sR a, sI (cs.getD i 0)] [(.ref a), (.ref a)])) (fun _ q => XS.ifYes X474.here hx rfl (pc0 := 155) (pc' := 165) rfl (D 72) rfl (by decide) (by decide) (by decide) (XS.aloadN X474.here hx rfl (D 73) rfl rfl (XS.dup X474.here hx rfl (D 74) rfl rfl q))) ?_
      refine own_gF X474 hx hZ hown (w61 hw) e474 g2_st rfl rfl (D 75) fun T476 X476 e476 => ?_
      refine own_step (g' := (mkF m 172 #[sR a, sI (cs.getD i 0)] [(.int ((Int32.ofNat i) + (1 : Int32))), (.ref a)])) (fun _ q => XS.iconst X476.here hx rfl (D 76) (XS.iadd X476.here hx rfl (D 77) rfl q)) ?_
      rw [show ((Int32.ofNat i) + (1 : Int32)) = (Int32.ofNat (i + 1)) from (own_inc _)]
      refine own_pF X476 hx hZ hown (w61 hw) e476 g2_st g0_st (Or.inl (w62 hw)) (w50 hw) (ty := .int) (by decide) rfl rfl rfl rfl (D 78) fun T477 h477 X477 e477 W477 F478 => ?_
      have N479 := Fr.snoc X477 N475 ge_a
      have CH480 := CH_st.trans (CHr.wr W477 (Safe.exa hZ.alike g0_st (by decide) (by decide)) CH_st.1)
      refine own_step (g' := (mkF m 10 #[sR a, sI (cs.getD i 0)] [])) (fun _ q => XS.goto X477.here hx rfl (pc0 := 175) (pc' := 10) rfl (D 79) (by decide) (by decide) q) ?_
      have c481 := (g0_st.wr W477)
      have c482 := (g1_st.other W477 (Or.inr (RoadKit.slot_ne (t := (.object "java/lang/String")) (t' := .int) (Or.inr (w56 hw)) (Or.inl (w62 hw)) (by decide) (by decide) (by decide))))
      have c483 := (KL_st.wr W477 (Or.inl (List.mem_of_getElem? (i := 0) rfl)))
      have c484 := (Nat.le_trans HK_st (Keep.of_wr W477).1)
      exact ih_st _ (by omega) (k') (i + 1) (.val (.int (cs.getD i 0))) vm_st _ T477 h477 _ (own_cs X477 (by first | omega | (dsimp only; omega)) (by first | omega | (dsimp only; omega))) e477 N479 hS c484 hZ hown CH480 c483 c481 c482 F478 (hso') (own_so_lt hso') (by omega) (Or.inr ⟨_, rfl, rfl⟩) rfl
    · refine own_step (g' := (mkF m 46 #[sR a, sI (cs.getD i 0)] [(.int 34), (.int (cs.getD i 0))])) (fun _ q => XS.iloadN X456.here hx rfl (D 18) rfl (XS.bipush X456.here hx rfl (D 19) q)) ?_
      have hc485 : ¬ ((cs.getD i 0) = (34 : Int32)) := (own_hi_n hhi).1
      refine own_step (g' := (mkF m 63 #[sR a, sI (cs.getD i 0)] [(.int 92), (.int (cs.getD i 0))])) (fun _ q => XS.icmpYes X456.here hx rfl (pc0 := 46) (pc' := 60) rfl (D 20) rfl (XT.ii_ne_t hc485) (by decide) (by decide) (XS.iloadN X456.here hx rfl (D 28) rfl (XS.bipush X456.here hx rfl (D 29) q))) ?_
      have hc486 : ¬ ((cs.getD i 0) = (92 : Int32)) := (own_hi_n hhi).2.1
      refine own_step (g' := (mkF m 86 #[sR a, sI (cs.getD i 0)] [(.int 32), (.int (cs.getD i 0))])) (fun _ q => XS.icmpYes X456.here hx rfl (pc0 := 63) (pc' := 83) rfl (D 30) rfl (XT.ii_ne_t hc486) (by decide) (by decide) (XS.iloadN X456.here hx rfl (D 40) rfl (XS.bipush X456.here hx rfl (D 41) q))) ?_
      have hc487 : ¬ ((cs.getD i 0) < (32 : Int32)) := (own_hi_n hhi).2.2
      refine own_step (g' := (mkF m 97 #[sR a, sI (cs.getD i 0)] [(.int (cs.getD i 0))])) (fun _ q => XS.icmpYes X456.here hx rfl (pc0 := 86) (pc' := 96) rfl (D 42) rfl (XT.ii_ge_t hc487) (by decide) (by decide) (XS.iloadN X456.here hx rfl (D 43) rfl q)) ?_
      refine own_callS X456 hx hZ hown (w131 hw) (w132 hw) (w133 hw) (w134 hw) (by decide) (own_bO (W := 0) (own_isHighSurrogate1 l Z a0 hw [] (cs.getD i 0) h_st n0 c450 (hhi : ¬ (cs.getD i 0) < (55296 : Int32) ∧ (cs.getD i 0) < (56320 : Int32))) hZ (w134 hw) (w133 hw) rfl rfl) e456  (by first | decide | (dsimp only; omega)) (by first | decide | (dsimp only; omega)) (argsL := [(.int (cs.getD i 0))]) (rest := []) rfl hml.symm (lenOf pd_16 rfl) rfl rfl (own_w0 rfl rfl) (D 44) ?_
      rintro _ T488 L488 X488 ⟨rfl, N488q, e488⟩
      have N489 := Fr.app N457 N488q
      refine own_step (g' := (mkF m 104 #[sR a, sI (cs.getD i 0)] [(.ref a)])) (fun _ q => XS.ifNo X488.here hx rfl (D 45) rfl (by decide) (XS.aloadN X488.here hx rfl (D 46) rfl rfl q)) ?_
      refine own_gF X488 hx hZ hown (w61 hw) e488 g2_st rfl rfl (D 47) fun T490 X490 e490 => ?_
      refine own_step (g' := (mkF m 110 #[sR a, sI (cs.getD i 0)] [(.ref a), (.int ((Int32.ofNat i) + (1 : Int32)))])) (fun _ q => XS.iconst X490.here hx rfl (D 48) (XS.iadd X490.here hx rfl (D 49) rfl (XS.aloadN X490.here hx rfl (D 50) rfl rfl q))) ?_
      refine own_gF X490 hx hZ hown (w55 hw) e490 g1_st rfl rfl (D 51) fun T491 X491 e491 => ?_
      refine own_callV X491 hx hZ hown (w63 hw) (w64 hw) (notFace_of_selects (args := #[]) (mvT hZ (w66 hw))) (w66 hw) (w65 hw) (by decide) (own_bO (W := 1) (own_l8 l Z a0 hw [] G1 G3 tx t kb cd N2 vs cs h_st n0 c450 O2 O4 P5 rG3 c445 c446 c447 c448 c449 hcod hcs h8) hZ (w67 hw) (w11 hw) rfl rfl) e491 c446  (by first | decide | (dsimp only; omega)) (by first | decide | (dsimp only; omega)) (argsL := []) (rest := [(.int ((Int32.ofNat i) + (1 : Int32)))]) rfl hml.symm (lenOf pd_14 rfl) rfl rfl (own_w0 rfl rfl) (D 52) ?_
      rintro _ T492 L492 X492 ⟨rfl, N492q, e492⟩
      have N493 := Fr.app N489 N492q
      rw [show ((Int32.ofNat i) + (1 : Int32)) = (Int32.ofNat (i + 1)) from (own_inc _)]
      have hc494 : ((Int32.ofNat (i + 1)) < (8 : Int32)) := (own_lt8 (by omega))
      refine own_step (g' := (mkF m 120 #[sR a, sI (cs.getD i 0)] [(.ref a)])) (fun _ q => XS.icmpNo X492.here hx rfl (D 53) rfl (XT.ii_ge_f hc494) (XS.aloadN X492.here hx rfl (D 54) rfl rfl q)) ?_
      refine own_gF X492 hx hZ hown (w55 hw) e492 g1_st rfl rfl (D 55) fun T495 X495 e495 => ?_
      refine own_step (g' := (mkF m 124 #[sR a, sI (cs.getD i 0)] [(.ref a), (.ref tx)])) (fun _ q => XS.aloadN X495.here hx rfl (D 56) rfl rfl q) ?_
      refine own_gF X495 hx hZ hown (w61 hw) e495 g2_st rfl rfl (D 57) fun T496 X496 e496 => ?_
      refine own_step (g' := (mkF m 129 #[sR a, sI (cs.getD i 0)] [(.int ((Int32.ofNat i) + (1 : Int32))), (.ref tx)])) (fun _ q => XS.iconst X496.here hx rfl (D 58) (XS.iadd X496.here hx rfl (D 59) rfl q)) ?_
      rw [show ((Int32.ofNat i) + (1 : Int32)) = (Int32.ofNat (i + 1)) from (own_inc _)]
      refine own_callV X496 hx hZ hown (w74 hw) (w75 hw) (notFace_of_selects (args := #[]) (mvT hZ (w77 hw))) (w77 hw) (w76 hw) (by decide) (own_bO (W := 0) (own_char l Z a0 hw [] G1 G3 tx t kb cd N2 vs cs (i + 1) h_st n0 c450 O2 O4 P5 rG3 c445 U1 U2 U3 c446 c447 c448 c449 hcod hcs (by omega : cs.length ≤ 400) (by omega : (i + 1) < cs.length)) hZ (w78 hw) (w11 hw) rfl rfl) e496 c446  (by first | decide | (dsimp only; omega)) (by first | decide | (dsimp only; omega)) (argsL := [(.int (Int32.ofNat (i + 1)))]) (rest := []) rfl hml.symm (lenOf pd_15 rfl) rfl rfl (own_w0 rfl rfl) (D 60) ?_
      rintro _ T497 L497 X497 ⟨rfl, N497q, e497⟩
      have N498 := Fr.app N493 N497q
      refine own_callS X497 hx hZ hown (w188 hw) (w189 hw) (w133 hw) (w190 hw) (by decide) (own_bO (W := 0) (own_isLowSurrogate1 l Z a0 hw [] (cs.getD (i + 1) 0) h_st n0 c450 (hlo : ¬ (cs.getD (i + 1) 0) < (56320 : Int32) ∧ (cs.getD (i + 1) 0) < (57344 : Int32))) hZ (w190 hw) (w133 hw) rfl rfl) e497  (by first | decide | (dsimp only; omega)) (by first | decide | (dsimp only; omega)) (argsL := [(.int (cs.getD (i + 1) 0))]) (rest := []) rfl hml.symm (lenOf pd_16 rfl) rfl rfl (own_w0 rfl rfl) (D 61) ?_
      rintro _ T499 L499 X499 ⟨rfl, N499q, e499⟩
      have N500 := Fr.app N498 N499q
      refine own_step (g' := (mkF m 140 #[sR a, sI (cs.getD i 0)] [(.ref a), (.ref a)])) (fun _ q => XS.ifNo X499.here hx rfl (D 62) rfl (by decide) (XS.aloadN X499.here hx rfl (D 63) rfl rfl (XS.dup X499.here hx rfl (D 64) rfl rfl q))) ?_
      refine own_gF X499 hx hZ hown (w61 hw) e499 g2_st rfl rfl (D 65) fun T501 X501 e501 => ?_
      refine own_step (g' := (mkF m 145 #[sR a, sI (cs.getD i 0)] [(.int ((Int32.ofNat i) + (2 : Int32))), (.ref a)])) (fun _ q => XS.iconst X501.here hx rfl (D 66) (XS.iadd X501.here hx rfl (D 67) rfl q)) ?_
      rw [show ((Int32.ofNat i) + (2 : Int32)) = (Int32.ofNat (i + 2)) from (own_inc2 _)]
      refine own_pF X501 hx hZ hown (w61 hw) e501 g2_st g0_st (Or.inl (w62 hw)) (w50 hw) (ty := .int) (by decide) rfl rfl rfl rfl (D 68) fun T502 h502 X502 e502 W502 F503 => ?_
      have N504 := Fr.snoc X502 N500 ge_a
      have CH505 := CH_st.trans (CHr.wr W502 (Safe.exa hZ.alike g0_st (by decide) (by decide)) CH_st.1)
      refine own_step (g' := (mkF m 10 #[sR a, sI (cs.getD i 0)] [])) (fun _ q => XS.goto X502.here hx rfl (pc0 := 148) (pc' := 175) rfl (D 69) (by decide) (by decide) (XS.goto X502.here hx rfl (pc0 := 175) (pc' := 10) rfl (D 79) (by decide) (by decide) q)) ?_
      have c506 := (g0_st.wr W502)
      have c507 := (g1_st.other W502 (Or.inr (RoadKit.slot_ne (t := (.object "java/lang/String")) (t' := .int) (Or.inr (w56 hw)) (Or.inl (w62 hw)) (by decide) (by decide) (by decide))))
      have c508 := (KL_st.wr W502 (Or.inl (List.mem_of_getElem? (i := 0) rfl)))
      have c509 := (Nat.le_trans HK_st (Keep.of_wr W502).1)
      exact ih_st _ (by omega) (k') (i + 2) (.val (.int (cs.getD i 0))) vm_st _ T502 h502 _ (own_cs X502 (by first | omega | (dsimp only; omega)) (by first | omega | (dsimp only; omega))) e502 N504 hS c509 hZ hown CH505 c508 c506 c507 F503 (hso') (own_so_lt hso') (by omega) (Or.inr ⟨_, rfl, rfl⟩) rfl
    · refine own_step (g' := (mkF m 46 #[sR a, sI (cs.getD i 0)] [(.int 34), (.int (cs.getD i 0))])) (fun _ q => XS.iloadN X456.here hx rfl (D 18) rfl (XS.bipush X456.here hx rfl (D 19) q)) ?_
      have hc510 : ¬ ((cs.getD i 0) = (34 : Int32)) := (by rw [h92]; decide)
      refine own_step (g' := (mkF m 63 #[sR a, sI (cs.getD i 0)] [(.int 92), (.int (cs.getD i 0))])) (fun _ q => XS.icmpYes X456.here hx rfl (pc0 := 46) (pc' := 60) rfl (D 20) rfl (XT.ii_ne_t hc510) (by decide) (by decide) (XS.iloadN X456.here hx rfl (D 28) rfl (XS.bipush X456.here hx rfl (D 29) q))) ?_
      have hc511 : ((cs.getD i 0) = (92 : Int32)) := h92
      refine own_step (g' := (mkF m 68 #[sR a, sI (cs.getD i 0)] [(.ref a), (.ref a)])) (fun _ q => XS.icmpNo X456.here hx rfl (D 30) rfl (XT.ii_ne_f hc511) (XS.aloadN X456.here hx rfl (D 31) rfl rfl (XS.dup X456.here hx rfl (D 32) rfl rfl q))) ?_
      refine own_gF X456 hx hZ hown (w61 hw) e456 g2_st rfl rfl (D 33) fun T512 X512 e512 => ?_
      refine own_step (g' := (mkF m 73 #[sR a, sI (cs.getD i 0)] [(.int ((Int32.ofNat i) + (1 : Int32))), (.ref a)])) (fun _ q => XS.iconst X512.here hx rfl (D 34) (XS.iadd X512.here hx rfl (D 35) rfl q)) ?_
      rw [show ((Int32.ofNat i) + (1 : Int32)) = (Int32.ofNat (i + 1)) from (own_inc _)]
      refine own_pF X512 hx hZ hown (w61 hw) e512 g2_st g0_st (Or.inl (w62 hw)) (w50 hw) (ty := .int) (by decide) rfl rfl rfl rfl (D 36) fun T513 h513 X513 e513 W513 F514 => ?_
      have N515 := Fr.snoc X513 N457 ge_a
      have CH516 := CH_st.trans (CHr.wr W513 (Safe.exa hZ.alike g0_st (by decide) (by decide)) CH_st.1)
      refine own_step (g' := (mkF m 77 #[sR a, sI (cs.getD i 0)] [(.ref a)])) (fun _ q => XS.aloadN X513.here hx rfl (D 37) rfl rfl q) ?_
      have c517 := (c445.wr W513 ge_a)
      have c518 := (g0_st.wr W513)
      have c519 := (g1_st.other W513 (Or.inr (RoadKit.slot_ne (t := (.object "java/lang/String")) (t' := .int) (Or.inr (w56 hw)) (Or.inl (w62 hw)) (by decide) (by decide) (by decide))))
      have c520 := (c446.wr W513)
      have c521 := (c447.other W513 (Or.inl (Ne.symm ty_a_tx)))
      have c522 := (c448.other W513 (Or.inl (Ne.symm ty_a_tx)))
      have c523 := (c449.other W513 (Ne.symm ty_a_t))
      have c524 := (Nat.le_trans c450 (Keep.of_wr W513).1)
      have c526 := (Nat.le_trans HK_st (Keep.of_wr W513).1)
      refine own_callQW X513 hx hZ hown hS c526 (w225 hw) (w226 hw) (w50 hw) (w227 hw) (w228 hw) (by decide) (own_bW (W := 0) (own_escX l Z a0 hw [] G1 G3 a tx t kb cd N2 vs cs (i + 1) h513 n0 c524 O2 O4 P5 rG3 c517 U1 U2 U3 c518 c519 F514 c520 c521 c522 c523 hcod hcs h8 ge_a (by omega : (i + 1) < 8) (hex : (cs.getD (i + 1) 0) = (34 : Int32) ∨ (cs.getD (i + 1) 0) = (92 : Int32) ∨ (cs.getD (i + 1) 0) = (47 : Int32) ∨ (cs.getD (i + 1) 0) = (98 : Int32) ∨ (cs.getD (i + 1) 0) = (102 : Int32) ∨ (cs.getD (i + 1) 0) = (110 : Int32) ∨ (cs.getD (i + 1) 0) = (114 : Int32) ∨ (cs.getD (i + 1) 0) = (116 : Int32))) hZ (w228 hw) (w40 hw) rfl rfl (own_hEL hw) CH516.1) e513 c518  (by first | decide | (dsimp only; omega)) (by first | decide | (dsimp only; omega)) (argsL := []) (rest := []) rfl hml.symm (lenOf pd_22 rfl) rfl rfl (own_w0 rfl rfl) (D 38) ?_
      rintro _ T525 L525 X525 hS hZ hown C525 ⟨rfl, N525q, K525, f0_525, f1_525, f2_525⟩
      have CH527 := CH516.trans C525
      have N528 := Fr.app N515 N525q
      have qF529 : ((.int (Int32.ofNat ((i + 1) + 1))) : Value) = (.int (Int32.ofNat (i + 2))) := rfl
      have F529 : own_Fp Z T525.heap a (.int (Int32.ofNat (i + 2))) := own_fixf qF529 f2_525
      refine own_step (g' := (mkF m 10 #[sR a, sI (cs.getD i 0)] [])) (fun _ q => XS.goto X525.here hx rfl (pc0 := 80) (pc' := 175) rfl (D 39) (by decide) (by decide) (XS.goto X525.here hx rfl (pc0 := 175) (pc' := 10) rfl (D 79) (by decide) (by decide) q)) ?_
      have c530 := ((KL_st.wr W513 (Or.inl (List.mem_of_getElem? (i := 0) rfl))).trans K525 (allS (Or.inl (List.mem_of_getElem? (i := 0) rfl)) all0))
      exact ih_st _ (by omega) (k') (i + 2) (.val (.int (cs.getD i 0))) T525.vm _ T525 T525.heap _ (own_cs X525 (by first | omega | (dsimp only; omega)) (by first | omega | (dsimp only; omega))) rfl N528 hS (Nat.le_refl _) hZ hown CH527 c530 f0_525 f1_525 F529 (hso') (own_so_lt hso') (by omega) (Or.inr ⟨_, rfl, rfl⟩) rfl
    · refine own_step (g' := (mkF m 46 #[sR a, sI (cs.getD i 0)] [(.int 34), (.int (cs.getD i 0))])) (fun _ q => XS.iloadN X456.here hx rfl (D 18) rfl (XS.bipush X456.here hx rfl (D 19) q)) ?_
      have hc531 : ¬ ((cs.getD i 0) = (34 : Int32)) := (by rw [h92]; decide)
      refine own_step (g' := (mkF m 63 #[sR a, sI (cs.getD i 0)] [(.int 92), (.int (cs.getD i 0))])) (fun _ q => XS.icmpYes X456.here hx rfl (pc0 := 46) (pc' := 60) rfl (D 20) rfl (XT.ii_ne_t hc531) (by decide) (by decide) (XS.iloadN X456.here hx rfl (D 28) rfl (XS.bipush X456.here hx rfl (D 29) q))) ?_
      have hc532 : ((cs.getD i 0) = (92 : Int32)) := h92
      refine own_step (g' := (mkF m 68 #[sR a, sI (cs.getD i 0)] [(.ref a), (.ref a)])) (fun _ q => XS.icmpNo X456.here hx rfl (D 30) rfl (XT.ii_ne_f hc532) (XS.aloadN X456.here hx rfl (D 31) rfl rfl (XS.dup X456.here hx rfl (D 32) rfl rfl q))) ?_
      refine own_gF X456 hx hZ hown (w61 hw) e456 g2_st rfl rfl (D 33) fun T533 X533 e533 => ?_
      refine own_step (g' := (mkF m 73 #[sR a, sI (cs.getD i 0)] [(.int ((Int32.ofNat i) + (1 : Int32))), (.ref a)])) (fun _ q => XS.iconst X533.here hx rfl (D 34) (XS.iadd X533.here hx rfl (D 35) rfl q)) ?_
      rw [show ((Int32.ofNat i) + (1 : Int32)) = (Int32.ofNat (i + 1)) from (own_inc _)]
      refine own_pF X533 hx hZ hown (w61 hw) e533 g2_st g0_st (Or.inl (w62 hw)) (w50 hw) (ty := .int) (by decide) rfl rfl rfl rfl (D 36) fun T534 h534 X534 e534 W534 F535 => ?_
      have N536 := Fr.snoc X534 N457 ge_a
      have CH537 := CH_st.trans (CHr.wr W534 (Safe.exa hZ.alike g0_st (by decide) (by decide)) CH_st.1)
      refine own_step (g' := (mkF m 77 #[sR a, sI (cs.getD i 0)] [(.ref a)])) (fun _ q => XS.aloadN X534.here hx rfl (D 37) rfl rfl q) ?_
      have c538 := (c445.wr W534 ge_a)
      have c539 := (g0_st.wr W534)
      have c540 := (g1_st.other W534 (Or.inr (RoadKit.slot_ne (t := (.object "java/lang/String")) (t' := .int) (Or.inr (w56 hw)) (Or.inl (w62 hw)) (by decide) (by decide) (by decide))))
      have c541 := (c446.wr W534)
      have c542 := (c447.other W534 (Or.inl (Ne.symm ty_a_tx)))
      have c543 := (c448.other W534 (Or.inl (Ne.symm ty_a_tx)))
      have c544 := (c449.other W534 (Ne.symm ty_a_t))
      have c545 := (Nat.le_trans c450 (Keep.of_wr W534).1)
      refine own_callQ X534 hx hZ hown (w225 hw) (w226 hw) (w50 hw) (w227 hw) (w228 hw) (by decide) (own_bO (W := 0) (own_escU l Z a0 hw [] G1 G3 a tx t kb cd N2 vs cs (i + 1) fd uu h534 n0 c545 O2 O4 P5 rG3 c538 U1 U2 U3 c539 c540 F535 c541 c542 c543 c544 hcod hcs h8 ge_a (by omega : (i + 1) + 5 ≤ 8) h117 hfd huu hu0 hus) hZ (w228 hw) (w40 hw) rfl rfl) e534 c539  (by first | decide | (dsimp only; omega)) (by first | decide | (dsimp only; omega)) (argsL := []) (rest := []) rfl hml.symm (lenOf pd_22 rfl) rfl rfl (own_w0 rfl rfl) (D 38) ?_
      rintro _ T546 L546 X546 ⟨rfl, N546q, K546, f0_546, f1_546, f2_546⟩
      have CH547 := CH537.trans (CHr.keep K546 (sfS (Safe.exa hZ.alike c539 (by decide) (by decide)) sf0) CH537.1)
      have N548 := Fr.app N536 N546q
      have qF549 : ((.int (Int32.ofNat ((i + 1) + 1 + 4))) : Value) = (.int (Int32.ofNat (i + 6))) := rfl
      have F549 : own_Fp Z T546.heap a (.int (Int32.ofNat (i + 6))) := own_fixf qF549 f2_546
      refine own_step (g' := (mkF m 10 #[sR a, sI (cs.getD i 0)] [])) (fun _ q => XS.goto X546.here hx rfl (pc0 := 80) (pc' := 175) rfl (D 39) (by decide) (by decide) (XS.goto X546.here hx rfl (pc0 := 175) (pc' := 10) rfl (D 79) (by decide) (by decide) q)) ?_
      have c550 := ((KL_st.wr W534 (Or.inl (List.mem_of_getElem? (i := 0) rfl))).trans K546 (allS (Or.inl (List.mem_of_getElem? (i := 0) rfl)) all0))
      have c551 := (Nat.le_trans (Nat.le_trans HK_st (Keep.of_wr W534).1) K546.1)
      exact ih_st _ (by omega) (k') (i + 6) (.val (.int (cs.getD i 0))) vm_st _ T546 T546.heap _ (own_cs X546 (by first | omega | (dsimp only; omega)) (by first | omega | (dsimp only; omega))) rfl N548 hS c551 hZ hown CH547 c550 f0_546 f1_546 F549 (hso') (own_so_lt hso') (by omega) (Or.inr ⟨_, rfl, rfl⟩) rfl
  exact lp_st _ (k0) (pn + 1) (.unset) s.vm _ T436 h436 _ (own_cs X436 (by first | omega | (dsimp only; omega)) (by first | omega | (dsimp only; omega))) e436 N438 hS c442 hZ hown CH439 (Keep.refl h436 [a]) c440 c441 F437 (hs0) (Or.inl hp) (Nat.le_refl _) (Or.inl rfl) rfl
theorem pn_6 : plainName "jdk/internal/util/ArraysSupport" = true := by first | (simp [plainName, overriddenIn]; done) | decide +kernel
def Q_own_mm (Z : State) (t : Addr) (kb : ClassId) (N2 : Int32) (vs : List Value) (cs : List Int32) (pn : Nat) (wb : Addr) (kw : ClassId) (wl : List Int32) (nl : Nat) (h0 : Heap) (n0 : Nat) (v : Option Value) (h : Heap) (L : List Loc) : Prop := ∃ (r : Int32), v = some (.int r) ∧ Fr n0 L ∧ h = h0 ∧ (own_lw cs pn wl → r < 0) ∧ (¬ own_lw cs pn wl → ¬ r < 0)
set_option maxRecDepth 65536 in
set_option maxHeartbeats 40000000 in
theorem own_mm (l : Launch) (Z : State) (a0 : Array Value) (hw : own_HW a0 Z) (ws : List Jvm.Cond) (t : Addr) (kb : ClassId) (N2 : Int32) (vs : List Value) (cs : List Int32) (pn : Nat) (wb : Addr) (kw : ClassId) (wl : List Int32) (nl : Nat) (h0 : Heap) (n0 : Nat) (Z0 : n0 ≤ h0.size) (V_t : Arv Z h0 t kb .byte N2 vs (.int 0)) (V_wb : Arv Z h0 wb kw .byte (Int32.ofNat nl) (wl.map Value.int) (.int 0)) (hwl : wl.length = nl) (hnl : nl ≤ 7) (hpn : pn + nl ≤ 8) (hN8 : N2 = (8 : Int32)) (hlat : ∀ i, i < 8 → vs.getD i (.int 0) = .int (cs.getD i 0)) :
    own_Met l Z ⟨"jdk/internal/util/ArraysSupport", "mismatch", "([BI[BII)I"⟩ jdk_48_method_14_code 8 (some .int) ws ⟨0, 0, 0, 0⟩ #[(.ref t), (.int (Int32.ofNat pn)), (.ref wb), (.int (0 : Int32)), (.int (Int32.ofNat nl))] h0 (Q_own_mm Z t kb N2 vs cs pn wb kw wl nl h0 n0) := by
  refine own_bodyN (g0 := fun m => mkF m 0 #[sR t, sI (Int32.ofNat pn), sR wb, sI 0, sI (Int32.ofNat nl), .unset, .unset, .unset] []) (plainFor_of_name pn_6) (fun _ => rfl) ?_
  intro p e s m below meth c s₁ hx hby hml hrt hlk hown hnm hZ e0 X0
  have D := own_d hby kD34
  refine own_step (g' := (mkF m 7 #[sR t, sI (Int32.ofNat pn), sR wb, sI 0, sI (Int32.ofNat nl), sI 0, .unset, .unset] [(.int 7), (.int (Int32.ofNat nl))])) (fun _ q => XS.iconst X0.here hx rfl (D 0) (XS.istore X0.here hx rfl (D 1) rfl (l' := #[sR t, sI (Int32.ofNat pn), sR wb, sI 0, sI (Int32.ofNat nl), sI 0, .unset, .unset]) rfl (XS.iload X0.here hx rfl (D 2) rfl (XS.bipush X0.here hx rfl (D 3) q)))) ?_
  have hc552 : ¬ ((7 : Int32) < (Int32.ofNat nl)) := (own_n7 hnl)
  refine own_step (g' := (mkF m 70 #[sR t, sI (Int32.ofNat pn), sR wb, sI 0, sI (Int32.ofNat nl), sI 0, .unset, .unset] [])) (fun _ q => XS.icmpYes X0.here hx rfl (pc0 := 7) (pc' := 70) rfl (D 4) rfl (XT.ii_le_t hc552) (by decide) (by decide) q) ?_
  have lp_mm : ∀ (k_mm : Nat) (j : Nat) (T_mm : State) (h_mm : Heap) (L_mm : List Loc) (X_mm : Stand p l e (⟨0, 0, 0, 0⟩ : Room) s m #[(.ref t), (.int (Int32.ofNat pn)), (.ref wb), (.int (0 : Int32)), (.int (Int32.ofNat nl))] below meth c T_mm L_mm 0 0) (e_mm : T_mm.heap = h_mm) (N_mm : Fr n0 L_mm) (KL_mm : Keep h0 h_mm [])  (hqh : h_mm = h0) (hj : j ≤ nl) (hal : ∀ i, i < j → cs.getD (pn + i) 0 = wl.getD i 0) (hk_mm : nl - j = k_mm), own_Fin p e below (own_G s (Q_own_mm Z t kb N2 vs cs pn wb kw wl nl h0 n0) (⟨0, 0, 0, 0⟩ : Room).cells (⟨0, 0, 0, 0⟩ : Room).slots) T_mm (mkF m 70 #[sR t, sI (Int32.ofNat pn), sR wb, sI 0, sI (Int32.ofNat nl), sI (Int32.ofNat j), .unset, .unset] []) := by
    intro k_mm
    induction k_mm using Nat.strongRecOn with | _ k_mm ih_mm => ?_
    intro j T_mm h_mm L_mm X_mm e_mm N_mm KL_mm  hqh hj hal hk_mm
    subst hk_mm
    by_cases hin : j < nl
    · refine own_step (g' := (mkF m 82 #[sR t, sI (Int32.ofNat pn), sR wb, sI 0, sI (Int32.ofNat nl), sI (Int32.ofNat j), .unset, .unset] [(.int ((Int32.ofNat pn) + (Int32.ofNat j))), (.ref t)])) (fun _ q => XS.iload X_mm.here hx rfl (D 5) rfl (XS.iload X_mm.here hx rfl (D 6) rfl (XS.icmpNo X_mm.here hx rfl (D 7) rfl (XT.ii_ge_f ((own_ltN (by omega) (by omega)).mpr hin)) (XS.aloadN X_mm.here hx rfl (D 8) rfl rfl (XS.iloadN X_mm.here hx rfl (D 9) rfl (XS.iload X_mm.here hx rfl (D 10) rfl (XS.iadd X_mm.here hx rfl (D 11) rfl q))))))) ?_
      rw [show ((Int32.ofNat pn) + (Int32.ofNat j)) = (Int32.ofNat (pn + j)) from (own_addN52 _ _)]
      have c553 := (V_t.keep KL_mm nin0)
      refine own_step (g' := (mkF m 88 #[sR t, sI (Int32.ofNat pn), sR wb, sI 0, sI (Int32.ofNat nl), sI (Int32.ofNat j), .unset, .unset] [(.int ((0 : Int32) + (Int32.ofNat j))), (.ref wb), (.int (cs.getD (pn + j) 0))])) (fun _ q => own_ldB X_mm hx hZ e_mm c553 (j := (Int32.ofNat (pn + j))) (own_in8 (by omega) hN8) (v := (.int (cs.getD (pn + j) 0))) (by rw [own_nat (by omega)]; exact hlat _ (by omega)) (g := (mkF m 82 #[sR t, sI (Int32.ofNat pn), sR wb, sI 0, sI (Int32.ofNat nl), sI (Int32.ofNat j), .unset, .unset] [(.int (Int32.ofNat (pn + j))), (.ref t)])) rfl rfl (D 12) _ (XS.aloadN X_mm.here hx rfl (D 13) rfl rfl (XS.iloadN X_mm.here hx rfl (D 14) rfl (XS.iload X_mm.here hx rfl (D 15) rfl (XS.iadd X_mm.here hx rfl (D 16) rfl q))))) ?_
      rw [show ((0 : Int32) + (Int32.ofNat j)) = (Int32.ofNat j) from (own_zadd _)]
      have c554 := (V_wb.keep KL_mm nin0)
      refine own_step (g' := (mkF m 89 #[sR t, sI (Int32.ofNat pn), sR wb, sI 0, sI (Int32.ofNat nl), sI (Int32.ofNat j), .unset, .unset] [(.int (wl.getD j 0)), (.int (cs.getD (pn + j) 0))])) (fun _ q => own_ldB X_mm hx hZ e_mm c554 (j := (Int32.ofNat j)) ⟨own_nneg (by omega), (own_ltN (by omega) (by omega)).mpr hin⟩ (v := (.int (wl.getD j 0))) (by rw [own_nat (by omega)]; exact own_mapD (by omega)) (g := (mkF m 88 #[sR t, sI (Int32.ofNat pn), sR wb, sI 0, sI (Int32.ofNat nl), sI (Int32.ofNat j), .unset, .unset] [(.int (Int32.ofNat j)), (.ref wb), (.int (cs.getD (pn + j) 0))])) rfl rfl (D 17) _ q) ?_
      by_cases hc555 : (cs.getD (pn + j) 0) = (wl.getD j 0)
      · refine own_step (g' := (mkF m 98 #[sR t, sI (Int32.ofNat pn), sR wb, sI 0, sI (Int32.ofNat nl), sI ((Int32.ofNat j) + (1 : Int32)), .unset, .unset] [])) (fun _ q => XS.icmpYes X_mm.here hx rfl (pc0 := 89) (pc' := 95) rfl (D 18) rfl (XT.ii_eq_t hc555) (by decide) (by decide) (XS.iinc X_mm.here hx rfl (D 21) rfl (l' := #[sR t, sI (Int32.ofNat pn), sR wb, sI 0, sI (Int32.ofNat nl), sI ((Int32.ofNat j) + (1 : Int32)), .unset, .unset]) rfl q)) ?_
        rw [show ((Int32.ofNat j) + (1 : Int32)) = (Int32.ofNat (j + 1)) from (own_inc _)]
        refine own_step (g' := (mkF m 70 #[sR t, sI (Int32.ofNat pn), sR wb, sI 0, sI (Int32.ofNat nl), sI (Int32.ofNat (j + 1)), .unset, .unset] [])) (fun _ q => XS.goto X_mm.here hx rfl (pc0 := 98) (pc' := 70) rfl (D 22) (by decide) (by decide) q) ?_
        exact ih_mm _ (by omega) (j + 1) T_mm h_mm _ X_mm e_mm N_mm KL_mm  (hqh) (by omega) (fun i hi => by rcases Nat.lt_or_eq_of_le (Nat.le_of_lt_succ hi) with q | q; exact hal i q; rw [q]; exact hc555) rfl
      · refine own_step (g' := (mkF m 94 #[sR t, sI (Int32.ofNat pn), sR wb, sI 0, sI (Int32.ofNat nl), sI (Int32.ofNat j), .unset, .unset] [(.int (Int32.ofNat j))])) (fun _ q => XS.icmpNo X_mm.here hx rfl (D 18) rfl (XT.ii_eq_f hc555) (XS.iload X_mm.here hx rfl (D 19) rfl q)) ?_
        exact own_retI X_mm hx hrt (D 20) hlk ⟨(Int32.ofNat j), rfl, N_mm, (e_mm.trans hqh), ⟨fun q => absurd (q j (by omega)) hc555, fun _ => own_nneg (by omega)⟩⟩ (by decide) (by decide)
    · refine own_step (g' := (mkF m 102 #[sR t, sI (Int32.ofNat pn), sR wb, sI 0, sI (Int32.ofNat nl), sI (Int32.ofNat j), .unset, .unset] [(.int (-1))])) (fun _ q => XS.iload X_mm.here hx rfl (D 5) rfl (XS.iload X_mm.here hx rfl (D 6) rfl (XS.icmpYes X_mm.here hx rfl (pc0 := 74) (pc' := 101) rfl (D 7) rfl (XT.ii_ge_t (fun q => hin ((own_ltN (by omega) (by omega)).mp q))) (by decide) (by decide) (XS.iconst X_mm.here hx rfl (D 23) q)))) ?_
      exact own_retI X_mm hx hrt (D 24) hlk ⟨(-1 : Int32), rfl, N_mm, (e_mm.trans hqh), ⟨fun _ => by decide, fun q => absurd (fun i hi => hal i (by omega)) q⟩⟩ (by decide) (by decide)
  exact lp_mm _ (0) s₁ h0 _ X0 e0 (Fr.nil n0) (Keep.refl h0 [])  (rfl) (Nat.zero_le _) (fun _ q => absurd q (Nat.not_lt_zero _)) rfl
theorem pd_23 : parseMethodDescriptor "([BI[BII)I" = some ⟨[(.array .byte), .int, (.array .byte), .int, .int], some .int⟩ := by decide +kernel
def Q_own_stw1 (Z : State) (G1 : Int32) (G3 : Value) (tx t : Addr) (kb : ClassId) (cd N2 : Int32) (vs : List Value) (cs : List Int32) (pn : Nat) (wa wb : Addr) (kw : ClassId) (wl : List Int32) (nl : Nat) (h0 : Heap) (n0 : Nat) (v : Option Value) (h : Heap) (L : List Loc) : Prop := v = some (.int (1 : Int32)) ∧ Fr n0 L ∧ h = h0
set_option maxRecDepth 65536 in
set_option maxHeartbeats 40000000 in
theorem own_stw1 (l : Launch) (Z : State) (a0 : Array Value) (hw : own_HW a0 Z) (ws : List Jvm.Cond) (G1 : Int32) (G3 : Value) (tx t : Addr) (kb : ClassId) (cd N2 : Int32) (vs : List Value) (cs : List Int32) (pn : Nat) (wa wb : Addr) (kw : ClassId) (wl : List Int32) (nl : Nat) (h0 : Heap) (n0 : Nat) (Z0 : n0 ≤ h0.size) (O2 : own_O2 Z G1) (O4 : own_O4 Z G3) (P5 : ¬ (G1 = (0 : Int32))) (rG3 : G3.isRef = true) (OLD0 : Old Z n0 h0) (E_tx : own_Es Z h0 tx) (F_value_tx : own_Sv Z h0 tx (.ref t)) (F_coder_tx : own_Sc Z h0 tx (.int cd)) (V_t : Arv Z h0 t kb .byte N2 vs (.int 0)) (hcod : StrChars.Road.CodA cs cd N2 vs) (hcs : own_R16 cs) (h8 : cs.length = 8) (E_wa : own_Es Z h0 wa) (F_value_wa : own_Sv Z h0 wa (.ref wb)) (F_coder_wa : own_Sc Z h0 wa (.int (0 : Int32))) (V_wb : Arv Z h0 wb kw .byte (Int32.ofNat nl) (wl.map Value.int) (.int 0)) (hwl : wl.length = nl) (hnl : nl ≤ 7) (hpn : pn + nl ≤ 8) (hN8 : N2 = (8 : Int32)) (hlat : ∀ i, i < 8 → vs.getD i (.int 0) = .int (cs.getD i 0)) (hcd : cd = (0 : Int32)) (heq : own_lw cs pn wl) :
    own_Met l Z ⟨"java/lang/String", "startsWith", "(Ljava/lang/String;I)Z"⟩ jdk_42_method_75_code 8 (some .boolean) ws ⟨2, 0, 0, 27⟩ #[(.ref tx), (.ref wa), (.int (Int32.ofNat pn))] h0 (Q_own_stw1 Z G1 G3 tx t kb cd N2 vs cs pn wa wb kw wl nl h0 n0) := by
  refine own_bodyN (g0 := fun m => mkF m 0 #[sR tx, sR wa, sI (Int32.ofNat pn), .unset, .unset, .unset, .unset, .unset] []) (plainFor_of_name pn_1) (fun _ => rfl) ?_
  intro p e s m below meth c s₁ hx hby hml hrt hlk hown hnm hZ e0 X0
  have D := own_d hby kD33
  have ty_tx_t : tx ≠ t := (Exa.neArv E_tx V_t (w10 hw))
  have ty_tx_wb : tx ≠ wb := (Exa.neArv E_tx V_wb (w10 hw))
  have ty_t_wa : t ≠ wa := (Ne.symm (Exa.neArv E_wa V_t (w10 hw)))
  have ty_wa_wb : wa ≠ wb := (Exa.neArv E_wa V_wb (w10 hw))
  refine own_step (g' := (mkF m 1 #[sR tx, sR wa, sI (Int32.ofNat pn), .unset, .unset, .unset, .unset, .unset] [(.int (Int32.ofNat pn))])) (fun _ q => XS.iloadN X0.here hx rfl (D 0) rfl q) ?_
  have hc556 : ¬ ((Int32.ofNat pn) < 0) := own_nneg (by omega)
  refine own_step (g' := (mkF m 6 #[sR tx, sR wa, sI (Int32.ofNat pn), .unset, .unset, .unset, .unset, .unset] [(.ref tx), (.int (Int32.ofNat pn))])) (fun _ q => XS.ifNo X0.here hx rfl (D 1) rfl (XT.i0_lt_f hc556) (XS.iloadN X0.here hx rfl (D 2) rfl (XS.aloadN X0.here hx rfl (D 3) rfl rfl q))) ?_
  refine own_callV X0 hx hZ hown (w106 hw) (w64 hw) (notFace_of_selects (args := #[]) (mvT hZ (w66 hw))) (w66 hw) (w65 hw) (by decide) (own_bO (W := 1) (own_l8 l Z a0 hw [] G1 G3 tx t kb cd N2 vs cs h0 n0 Z0 O2 O4 P5 rG3 OLD0 E_tx F_value_tx F_coder_tx V_t hcod hcs h8) hZ (w67 hw) (w11 hw) rfl rfl) e0 E_tx  (by decide) (by decide) (argsL := []) (rest := [(.int (Int32.ofNat pn))]) rfl hml.symm (lenOf pd_14 rfl) rfl rfl (own_w0 rfl rfl) (D 4) ?_
  rintro _ T557 L557 X557 ⟨rfl, N557q, e557⟩
  have N558 := Fr.app (Fr.nil n0) N557q
  refine own_step (g' := (mkF m 10 #[sR tx, sR wa, sI (Int32.ofNat pn), .unset, .unset, .unset, .unset, .unset] [(.ref wa), (.int 8), (.int (Int32.ofNat pn))])) (fun _ q => XS.aloadN X557.here hx rfl (D 5) rfl rfl q) ?_
  refine own_callV X557 hx hZ hown (w106 hw) (w64 hw) (notFace_of_selects (args := #[]) (mvT hZ (w66 hw))) (w66 hw) (w65 hw) (by decide) (own_bO (W := 2) (own_len0 l Z a0 hw [] G1 G3 wa wb kw (Int32.ofNat nl) (wl.map Value.int) h0 n0 Z0 O2 O4 P5 rG3 OLD0 E_wa F_value_wa F_coder_wa V_wb) hZ (w67 hw) (w11 hw) rfl rfl) e557 E_wa  (by decide) (by decide) (argsL := []) (rest := [(.int (8 : Int32)), (.int (Int32.ofNat pn))]) rfl hml.symm (lenOf pd_14 rfl) rfl rfl (own_w0 rfl rfl) (D 6) ?_
  rintro _ T559 L559 X559 ⟨rfl, N559q, e559⟩
  have N560 := Fr.app N558 N559q
  refine own_step (g' := (mkF m 14 #[sR tx, sR wa, sI (Int32.ofNat pn), .unset, .unset, .unset, .unset, .unset] [(.int ((8 : Int32) - (Int32.ofNat nl))), (.int (Int32.ofNat pn))])) (fun _ q => XS.isub X559.here hx rfl (D 7) rfl q) ?_
  have hc561 : ¬ (((8 : Int32) - (Int32.ofNat nl)) < (Int32.ofNat pn)) := (own_sub8 hpn)
  refine own_step (g' := (mkF m 20 #[sR tx, sR wa, sI (Int32.ofNat pn), .unset, .unset, .unset, .unset, .unset] [(.ref tx)])) (fun _ q => XS.icmpYes X559.here hx rfl (pc0 := 14) (pc' := 19) rfl (D 8) rfl (XT.ii_le_t hc561) (by decide) (by decide) (XS.aloadN X559.here hx rfl (D 9) rfl rfl q)) ?_
  refine own_gF X559 hx hZ hown (w36 hw) e559 F_value_tx rfl rfl (D 10) fun T562 X562 e562 => ?_
  refine own_step (g' := (mkF m 25 #[sR tx, sR wa, sI (Int32.ofNat pn), sR t, .unset, .unset, .unset, .unset] [(.ref wa)])) (fun _ q => XS.astoreN X562.here hx rfl (D 11) rfl rfl (l' := #[sR tx, sR wa, sI (Int32.ofNat pn), sR t, .unset, .unset, .unset, .unset]) rfl (XS.aloadN X562.here hx rfl (D 12) rfl rfl q)) ?_
  refine own_gF X562 hx hZ hown (w36 hw) e562 F_value_wa rfl rfl (D 13) fun T563 X563 e563 => ?_
  refine own_step (g' := (mkF m 39 #[sR tx, sR wa, sI (Int32.ofNat pn), sR t, sR wb, sI 0, sI (Int32.ofNat nl), .unset] [(.ref tx)])) (fun _ q => XS.astore X563.here hx rfl (D 14) rfl rfl (l' := #[sR tx, sR wa, sI (Int32.ofNat pn), sR t, sR wb, .unset, .unset, .unset]) rfl (XS.iconst X563.here hx rfl (D 15) (XS.istore X563.here hx rfl (D 16) rfl (l' := #[sR tx, sR wa, sI (Int32.ofNat pn), sR t, sR wb, sI 0, .unset, .unset]) rfl (XS.aload X563.here hx rfl (D 17) rfl rfl (own_len X563 hx hZ e563 V_wb (g := (mkF m 35 #[sR tx, sR wa, sI (Int32.ofNat pn), sR t, sR wb, sI 0, .unset, .unset] [(.ref wb)])) rfl rfl (D 18) _ (XS.istore X563.here hx rfl (D 19) rfl (l' := #[sR tx, sR wa, sI (Int32.ofNat pn), sR t, sR wb, sI 0, sI (Int32.ofNat nl), .unset]) rfl (XS.aloadN X563.here hx rfl (D 20) rfl rfl q))))))) ?_
  refine own_callV X563 hx hZ hown (w68 hw) (w69 hw) (notFace_of_selects (args := #[]) (mvT hZ (w71 hw))) (w71 hw) (w70 hw) (by decide) (own_bO (W := 0) (own_cod l Z a0 hw [] G1 G3 tx cd h0 n0 Z0 O2 O4 P5 rG3 OLD0 F_coder_tx (by rw [hcd]; rfl : nar .byte cd = cd)) hZ (w72 hw) (w11 hw) rfl rfl) e563 E_tx  (by decide) (by decide) (argsL := []) (rest := []) rfl hml.symm (lenOf pd_13 rfl) rfl rfl (own_w0 rfl rfl) (D 21) ?_
  rintro _ T564 L564 X564 ⟨rfl, N564q, e564⟩
  have N565 := Fr.app N560 N564q
  refine own_step (g' := (mkF m 47 #[sR tx, sR wa, sI (Int32.ofNat pn), sR t, sR wb, sI 0, sI (Int32.ofNat nl), sI cd] [(.ref wa), (.int cd)])) (fun _ q => XS.istore X564.here hx rfl (D 22) rfl (l' := #[sR tx, sR wa, sI (Int32.ofNat pn), sR t, sR wb, sI 0, sI (Int32.ofNat nl), sI cd]) rfl (XS.iload X564.here hx rfl (D 23) rfl (XS.aloadN X564.here hx rfl (D 24) rfl rfl q))) ?_
  refine own_callV X564 hx hZ hown (w68 hw) (w69 hw) (notFace_of_selects (args := #[]) (mvT hZ (w71 hw))) (w71 hw) (w70 hw) (by decide) (own_bO (W := 1) (own_cod0 l Z a0 hw [] G1 G3 wa h0 n0 Z0 O2 O4 P5 rG3 OLD0 F_coder_wa) hZ (w72 hw) (w11 hw) rfl rfl) e564 E_wa  (by decide) (by decide) (argsL := []) (rest := [(.int cd)]) rfl hml.symm (lenOf pd_13 rfl) rfl rfl (own_w0 rfl rfl) (D 25) ?_
  rintro _ T566 L566 X566 ⟨rfl, N566q, e566⟩
  have N567 := Fr.app N565 N566q
  have hc568 : (cd = (0 : Int32)) := hcd
  refine own_step (g' := (mkF m 56 #[sR tx, sR wa, sI (Int32.ofNat pn), sR t, sR wb, sI 0, sI (Int32.ofNat nl), sI cd] [(.int 1), (.int cd)])) (fun _ q => XS.icmpNo X566.here hx rfl (D 26) rfl (XT.ii_ne_f hc568) (XS.iload X566.here hx rfl (D 27) rfl (XS.iconst X566.here hx rfl (D 28) q))) ?_
  have hc569 : ¬ (cd = (1 : Int32)) := (by rw [hcd]; decide)
  refine own_step (g' := (mkF m 70 #[sR tx, sR wa, sI (Int32.ofNat pn), sR t, sR wb, sI 0, sI (Int32.ofNat nl), sI cd] [(.int (Int32.ofNat nl)), (.int 0), (.ref wb), (.int (Int32.ofNat pn)), (.ref t)])) (fun _ q => XS.icmpYes X566.here hx rfl (pc0 := 56) (pc' := 63) rfl (D 29) rfl (XT.ii_ne_t hc569) (by decide) (by decide) (XS.aloadN X566.here hx rfl (D 30) rfl rfl (XS.iloadN X566.here hx rfl (D 31) rfl (XS.aload X566.here hx rfl (D 32) rfl rfl (XS.iconst X566.here hx rfl (D 33) (XS.iload X566.here hx rfl (D 34) rfl q)))))) ?_
  refine own_callS X566 hx hZ hown (w152 hw) (w153 hw) (w154 hw) (w155 hw) (by decide) (own_bO (W := 0) (own_mm l Z a0 hw [] t kb N2 vs cs pn wb kw wl nl h0 n0 Z0 V_t V_wb hwl hnl hpn hN8 hlat) hZ (w155 hw) (w154 hw) rfl rfl) e566  (by decide) (by decide) (argsL := [(.ref t), (.int (Int32.ofNat pn)), (.ref wb), (.int (0 : Int32)), (.int (Int32.ofNat nl))]) (rest := []) rfl hml.symm (lenOf pd_23 rfl) rfl rfl (own_w0 rfl rfl) (D 35) ?_
  rintro _ T570 L570 X570 ⟨r570, rfl, N570q, e570, p0_570⟩
  have N571 := Fr.app N567 N570q
  have hc572 : (r570 < 0) := (p0_570.1 heq)
  refine own_step (g' := (mkF m 81 #[sR tx, sR wa, sI (Int32.ofNat pn), sR t, sR wb, sI 0, sI (Int32.ofNat nl), sI cd] [(.int 1)])) (fun _ q => XS.ifNo X570.here hx rfl (D 36) rfl (XT.i0_ge_f hc572) (XS.iconst X570.here hx rfl (D 37) (XS.goto X570.here hx rfl (pc0 := 77) (pc' := 81) rfl (D 38) (by decide) (by decide) q))) ?_
  exact own_retN X570 hx hrt (by simp) (D 40) hlk ⟨rfl, N571, e570⟩ (by decide) (by decide)
theorem pd_24 : parseMethodDescriptor "(Ljava/lang/String;I)Z" = some ⟨[(.object "java/lang/String"), .int], some .boolean⟩ := by decide +kernel
def Q_own_lit1 (Z : State) (G1 : Int32) (G3 : Value) (a tx t : Addr) (kb : ClassId) (cd N2 : Int32) (vs : List Value) (cs : List Int32) (pn : Nat) (wa wb : Addr) (kw : ClassId) (wl : List Int32) (nl : Nat) (h0 : Heap) (n0 : Nat) (v : Option Value) (h : Heap) (L : List Loc) : Prop := v = some (.int (1 : Int32)) ∧ Fr n0 L ∧ Keep h0 h [a] ∧ own_Ea Z h a ∧ own_Ft Z h a (.ref tx) ∧ own_Fp Z h a (.int (Int32.ofNat (pn + nl)))
set_option maxRecDepth 65536 in
set_option maxHeartbeats 40000000 in
theorem own_lit1 (l : Launch) (Z : State) (a0 : Array Value) (hw : own_HW a0 Z) (ws : List Jvm.Cond) (G1 : Int32) (G3 : Value) (a tx t : Addr) (kb : ClassId) (cd N2 : Int32) (vs : List Value) (cs : List Int32) (pn : Nat) (wa wb : Addr) (kw : ClassId) (wl : List Int32) (nl : Nat) (h0 : Heap) (n0 : Nat) (Z0 : n0 ≤ h0.size) (O2 : own_O2 Z G1) (O4 : own_O4 Z G3) (P5 : ¬ (G1 = (0 : Int32))) (rG3 : G3.isRef = true) (OLD0 : Old Z n0 h0) (E_a : own_Ea Z h0 a) (F_text_a : own_Ft Z h0 a (.ref tx)) (F_pos_a : own_Fp Z h0 a (.int (Int32.ofNat pn))) (E_tx : own_Es Z h0 tx) (F_value_tx : own_Sv Z h0 tx (.ref t)) (F_coder_tx : own_Sc Z h0 tx (.int cd)) (V_t : Arv Z h0 t kb .byte N2 vs (.int 0)) (hcod : StrChars.Road.CodA cs cd N2 vs) (hcs : own_R16 cs) (h8 : cs.length = 8) (E_wa : own_Es Z h0 wa) (F_value_wa : own_Sv Z h0 wa (.ref wb)) (F_coder_wa : own_Sc Z h0 wa (.int (0 : Int32))) (V_wb : Arv Z h0 wb kw .byte (Int32.ofNat nl) (wl.map Value.int) (.int 0)) (hwl : wl.length = nl) (hnl : nl ≤ 7) (hpn : pn + nl ≤ 8) (hN8 : N2 = (8 : Int32)) (hlat : ∀ i, i < 8 → vs.getD i (.int 0) = .int (cs.getD i 0)) (hcd : cd = (0 : Int32)) (heq : own_lw cs pn wl) (ge_a : n0 ≤ a) :
    own_Met l Z ⟨"com/example/tote/tote/JsonText", "literal", "(Ljava/lang/String;)Z"⟩ prog_12_method_11_code 3 (some .boolean) ws ⟨3, 0, 0, 46⟩ #[(.ref a), (.ref wa)] h0 (Q_own_lit1 Z G1 G3 a tx t kb cd N2 vs cs pn wa wb kw wl nl h0 n0) := by
  refine own_bodyN (g0 := fun m => mkF m 0 #[sR a, sR wa, .unset] []) (plainFor_of_name pn_4) (fun _ => rfl) ?_
  intro p e s m below meth c s₁ hx hby hml hrt hlk hown hnm hZ e0 X0
  have D := own_d hby kD32
  have ty_a_tx : a ≠ tx := (Exa.ne E_a E_tx (by decide))
  have ty_a_t : a ≠ t := (Exa.neArv E_a V_t (w50 hw))
  have ty_a_wa : a ≠ wa := (Exa.ne E_a E_wa (by decide))
  have ty_a_wb : a ≠ wb := (Exa.neArv E_a V_wb (w50 hw))
  have ty_tx_t : tx ≠ t := (Exa.neArv E_tx V_t (w10 hw))
  have ty_tx_wb : tx ≠ wb := (Exa.neArv E_tx V_wb (w10 hw))
  have ty_t_wa : t ≠ wa := (Ne.symm (Exa.neArv E_wa V_t (w10 hw)))
  have ty_wa_wb : wa ≠ wb := (Exa.neArv E_wa V_wb (w10 hw))
  refine own_step (g' := (mkF m 1 #[sR a, sR wa, .unset] [(.ref a)])) (fun _ q => XS.aloadN X0.here hx rfl (D 0) rfl rfl q) ?_
  refine own_gF X0 hx hZ hown (w55 hw) e0 F_text_a rfl rfl (D 1) fun T573 X573 e573 => ?_
  refine own_step (g' := (mkF m 6 #[sR a, sR wa, .unset] [(.ref a), (.ref wa), (.ref tx)])) (fun _ q => XS.aloadN X573.here hx rfl (D 2) rfl rfl (XS.aloadN X573.here hx rfl (D 3) rfl rfl q)) ?_
  refine own_gF X573 hx hZ hown (w61 hw) e573 F_pos_a rfl rfl (D 4) fun T574 X574 e574 => ?_
  refine own_callV X574 hx hZ hown (w147 hw) (w148 hw) (notFace_of_selects (args := #[]) (mvT hZ (w150 hw))) (w150 hw) (w149 hw) (by decide) (own_bO (W := 0) (own_stw1 l Z a0 hw [] G1 G3 tx t kb cd N2 vs cs pn wa wb kw wl nl h0 n0 Z0 O2 O4 P5 rG3 OLD0 E_tx F_value_tx F_coder_tx V_t hcod hcs h8 E_wa F_value_wa F_coder_wa V_wb hwl hnl hpn hN8 hlat hcd heq) hZ (w151 hw) (w11 hw) rfl rfl) e574 E_tx  (by decide) (by decide) (argsL := [(.ref wa), (.int (Int32.ofNat pn))]) (rest := []) rfl hml.symm (lenOf pd_24 rfl) rfl rfl (own_w0 rfl rfl) (D 5) ?_
  rintro _ T575 L575 X575 ⟨rfl, N575q, e575⟩
  have N576 := Fr.app (Fr.nil n0) N575q
  refine own_step (g' := (mkF m 19 #[sR a, sR wa, sI 1] [(.ref a), (.ref a)])) (fun _ q => XS.istoreN X575.here hx rfl (D 6) rfl (l' := #[sR a, sR wa, sI 1]) rfl (XS.iloadN X575.here hx rfl (D 7) rfl (XS.ifNo X575.here hx rfl (D 8) rfl (by decide) (XS.aloadN X575.here hx rfl (D 9) rfl rfl (XS.dup X575.here hx rfl (D 10) rfl rfl q))))) ?_
  refine own_gF X575 hx hZ hown (w61 hw) e575 F_pos_a rfl rfl (D 11) fun T577 X577 e577 => ?_
  refine own_step (g' := (mkF m 23 #[sR a, sR wa, sI 1] [(.ref wa), (.int (Int32.ofNat pn)), (.ref a)])) (fun _ q => XS.aloadN X577.here hx rfl (D 12) rfl rfl q) ?_
  refine own_callV X577 hx hZ hown (w63 hw) (w64 hw) (notFace_of_selects (args := #[]) (mvT hZ (w66 hw))) (w66 hw) (w65 hw) (by decide) (own_bO (W := 2) (own_len0 l Z a0 hw [] G1 G3 wa wb kw (Int32.ofNat nl) (wl.map Value.int) h0 n0 Z0 O2 O4 P5 rG3 OLD0 E_wa F_value_wa F_coder_wa V_wb) hZ (w67 hw) (w11 hw) rfl rfl) e577 E_wa  (by decide) (by decide) (argsL := []) (rest := [(.int (Int32.ofNat pn)), (.ref a)]) rfl hml.symm (lenOf pd_14 rfl) rfl rfl (own_w0 rfl rfl) (D 13) ?_
  rintro _ T578 L578 X578 ⟨rfl, N578q, e578⟩
  have N579 := Fr.app N576 N578q
  refine own_step (g' := (mkF m 27 #[sR a, sR wa, sI 1] [(.int ((Int32.ofNat pn) + (Int32.ofNat nl))), (.ref a)])) (fun _ q => XS.iadd X578.here hx rfl (D 14) rfl q) ?_
  rw [show ((Int32.ofNat pn) + (Int32.ofNat nl)) = (Int32.ofNat (pn + nl)) from (own_addN52 _ _)]
  refine own_pF X578 hx hZ hown (w61 hw) e578 F_pos_a E_a (Or.inl (w62 hw)) (w50 hw) (ty := .int) (by decide) rfl rfl rfl rfl (D 15) fun T580 h580 X580 e580 W580 F581 => ?_
  have N582 := Fr.snoc X580 N579 ge_a
  refine own_step (g' := (mkF m 31 #[sR a, sR wa, sI 1] [(.int 1)])) (fun _ q => XS.iloadN X580.here hx rfl (D 16) rfl q) ?_
  have c583 := ((Keep.refl h0 [a]).wr W580 (Or.inl (List.mem_of_getElem? (i := 0) rfl)))
  have c584 := (E_a.wr W580)
  have c585 := (F_text_a.other W580 (Or.inr (RoadKit.slot_ne (t := (.object "java/lang/String")) (t' := .int) (Or.inr (w56 hw)) (Or.inl (w62 hw)) (by decide) (by decide) (by decide))))
  exact own_retN X580 hx hrt (by simp) (D 17) hlk (by rw [e580]; exact ⟨rfl, N582, c583, c584, c585, F581⟩) (by decide) (by decide)
def Q_own_stw0 (Z : State) (G1 : Int32) (G3 : Value) (tx t : Addr) (kb : ClassId) (cd N2 : Int32) (vs : List Value) (cs : List Int32) (pn : Nat) (wa wb : Addr) (kw : ClassId) (wl : List Int32) (nl : Nat) (h0 : Heap) (n0 : Nat) (v : Option Value) (h : Heap) (L : List Loc) : Prop := v = some (.int (0 : Int32)) ∧ Fr n0 L ∧ h = h0
set_option maxRecDepth 65536 in
set_option maxHeartbeats 40000000 in
theorem own_stw0 (l : Launch) (Z : State) (a0 : Array Value) (hw : own_HW a0 Z) (ws : List Jvm.Cond) (G1 : Int32) (G3 : Value) (tx t : Addr) (kb : ClassId) (cd N2 : Int32) (vs : List Value) (cs : List Int32) (pn : Nat) (wa wb : Addr) (kw : ClassId) (wl : List Int32) (nl : Nat) (h0 : Heap) (n0 : Nat) (Z0 : n0 ≤ h0.size) (O2 : own_O2 Z G1) (O4 : own_O4 Z G3) (P5 : ¬ (G1 = (0 : Int32))) (rG3 : G3.isRef = true) (OLD0 : Old Z n0 h0) (E_tx : own_Es Z h0 tx) (F_value_tx : own_Sv Z h0 tx (.ref t)) (F_coder_tx : own_Sc Z h0 tx (.int cd)) (V_t : Arv Z h0 t kb .byte N2 vs (.int 0)) (hcod : StrChars.Road.CodA cs cd N2 vs) (hcs : own_R16 cs) (h8 : cs.length = 8) (E_wa : own_Es Z h0 wa) (F_value_wa : own_Sv Z h0 wa (.ref wb)) (F_coder_wa : own_Sc Z h0 wa (.int (0 : Int32))) (V_wb : Arv Z h0 wb kw .byte (Int32.ofNat nl) (wl.map Value.int) (.int 0)) (hwl : wl.length = nl) (hnl : nl ≤ 7) (hpn : pn + nl ≤ 8) (hN8 : N2 = (8 : Int32)) (hlat : ∀ i, i < 8 → vs.getD i (.int 0) = .int (cs.getD i 0)) (hcd : cd = (0 : Int32)) (heq : ¬ own_lw cs pn wl) :
    own_Met l Z ⟨"java/lang/String", "startsWith", "(Ljava/lang/String;I)Z"⟩ jdk_42_method_75_code 8 (some .boolean) ws ⟨2, 0, 0, 27⟩ #[(.ref tx), (.ref wa), (.int (Int32.ofNat pn))] h0 (Q_own_stw0 Z G1 G3 tx t kb cd N2 vs cs pn wa wb kw wl nl h0 n0) := by
  refine own_bodyN (g0 := fun m => mkF m 0 #[sR tx, sR wa, sI (Int32.ofNat pn), .unset, .unset, .unset, .unset, .unset] []) (plainFor_of_name pn_1) (fun _ => rfl) ?_
  intro p e s m below meth c s₁ hx hby hml hrt hlk hown hnm hZ e0 X0
  have D := own_d hby kD33
  have ty_tx_t : tx ≠ t := (Exa.neArv E_tx V_t (w10 hw))
  have ty_tx_wb : tx ≠ wb := (Exa.neArv E_tx V_wb (w10 hw))
  have ty_t_wa : t ≠ wa := (Ne.symm (Exa.neArv E_wa V_t (w10 hw)))
  have ty_wa_wb : wa ≠ wb := (Exa.neArv E_wa V_wb (w10 hw))
  refine own_step (g' := (mkF m 1 #[sR tx, sR wa, sI (Int32.ofNat pn), .unset, .unset, .unset, .unset, .unset] [(.int (Int32.ofNat pn))])) (fun _ q => XS.iloadN X0.here hx rfl (D 0) rfl q) ?_
  have hc586 : ¬ ((Int32.ofNat pn) < 0) := own_nneg (by omega)
  refine own_step (g' := (mkF m 6 #[sR tx, sR wa, sI (Int32.ofNat pn), .unset, .unset, .unset, .unset, .unset] [(.ref tx), (.int (Int32.ofNat pn))])) (fun _ q => XS.ifNo X0.here hx rfl (D 1) rfl (XT.i0_lt_f hc586) (XS.iloadN X0.here hx rfl (D 2) rfl (XS.aloadN X0.here hx rfl (D 3) rfl rfl q))) ?_
  refine own_callV X0 hx hZ hown (w106 hw) (w64 hw) (notFace_of_selects (args := #[]) (mvT hZ (w66 hw))) (w66 hw) (w65 hw) (by decide) (own_bO (W := 1) (own_l8 l Z a0 hw [] G1 G3 tx t kb cd N2 vs cs h0 n0 Z0 O2 O4 P5 rG3 OLD0 E_tx F_value_tx F_coder_tx V_t hcod hcs h8) hZ (w67 hw) (w11 hw) rfl rfl) e0 E_tx  (by decide) (by decide) (argsL := []) (rest := [(.int (Int32.ofNat pn))]) rfl hml.symm (lenOf pd_14 rfl) rfl rfl (own_w0 rfl rfl) (D 4) ?_
  rintro _ T587 L587 X587 ⟨rfl, N587q, e587⟩
  have N588 := Fr.app (Fr.nil n0) N587q
  refine own_step (g' := (mkF m 10 #[sR tx, sR wa, sI (Int32.ofNat pn), .unset, .unset, .unset, .unset, .unset] [(.ref wa), (.int 8), (.int (Int32.ofNat pn))])) (fun _ q => XS.aloadN X587.here hx rfl (D 5) rfl rfl q) ?_
  refine own_callV X587 hx hZ hown (w106 hw) (w64 hw) (notFace_of_selects (args := #[]) (mvT hZ (w66 hw))) (w66 hw) (w65 hw) (by decide) (own_bO (W := 2) (own_len0 l Z a0 hw [] G1 G3 wa wb kw (Int32.ofNat nl) (wl.map Value.int) h0 n0 Z0 O2 O4 P5 rG3 OLD0 E_wa F_value_wa F_coder_wa V_wb) hZ (w67 hw) (w11 hw) rfl rfl) e587 E_wa  (by decide) (by decide) (argsL := []) (rest := [(.int (8 : Int32)), (.int (Int32.ofNat pn))]) rfl hml.symm (lenOf pd_14 rfl) rfl rfl (own_w0 rfl rfl) (D 6) ?_
  rintro _ T589 L589 X589 ⟨rfl, N589q, e589⟩
  have N590 := Fr.app N588 N589q
  refine own_step (g' := (mkF m 14 #[sR tx, sR wa, sI (Int32.ofNat pn), .unset, .unset, .unset, .unset, .unset] [(.int ((8 : Int32) - (Int32.ofNat nl))), (.int (Int32.ofNat pn))])) (fun _ q => XS.isub X589.here hx rfl (D 7) rfl q) ?_
  have hc591 : ¬ (((8 : Int32) - (Int32.ofNat nl)) < (Int32.ofNat pn)) := (own_sub8 hpn)
  refine own_step (g' := (mkF m 20 #[sR tx, sR wa, sI (Int32.ofNat pn), .unset, .unset, .unset, .unset, .unset] [(.ref tx)])) (fun _ q => XS.icmpYes X589.here hx rfl (pc0 := 14) (pc' := 19) rfl (D 8) rfl (XT.ii_le_t hc591) (by decide) (by decide) (XS.aloadN X589.here hx rfl (D 9) rfl rfl q)) ?_
  refine own_gF X589 hx hZ hown (w36 hw) e589 F_value_tx rfl rfl (D 10) fun T592 X592 e592 => ?_
  refine own_step (g' := (mkF m 25 #[sR tx, sR wa, sI (Int32.ofNat pn), sR t, .unset, .unset, .unset, .unset] [(.ref wa)])) (fun _ q => XS.astoreN X592.here hx rfl (D 11) rfl rfl (l' := #[sR tx, sR wa, sI (Int32.ofNat pn), sR t, .unset, .unset, .unset, .unset]) rfl (XS.aloadN X592.here hx rfl (D 12) rfl rfl q)) ?_
  refine own_gF X592 hx hZ hown (w36 hw) e592 F_value_wa rfl rfl (D 13) fun T593 X593 e593 => ?_
  refine own_step (g' := (mkF m 39 #[sR tx, sR wa, sI (Int32.ofNat pn), sR t, sR wb, sI 0, sI (Int32.ofNat nl), .unset] [(.ref tx)])) (fun _ q => XS.astore X593.here hx rfl (D 14) rfl rfl (l' := #[sR tx, sR wa, sI (Int32.ofNat pn), sR t, sR wb, .unset, .unset, .unset]) rfl (XS.iconst X593.here hx rfl (D 15) (XS.istore X593.here hx rfl (D 16) rfl (l' := #[sR tx, sR wa, sI (Int32.ofNat pn), sR t, sR wb, sI 0, .unset, .unset]) rfl (XS.aload X593.here hx rfl (D 17) rfl rfl (own_len X593 hx hZ e593 V_wb (g := (mkF m 35 #[sR tx, sR wa, sI (Int32.ofNat pn), sR t, sR wb, sI 0, .unset, .unset] [(.ref wb)])) rfl rfl (D 18) _ (XS.istore X593.here hx rfl (D 19) rfl (l' := #[sR tx, sR wa, sI (Int32.ofNat pn), sR t, sR wb, sI 0, sI (Int32.ofNat nl), .unset]) rfl (XS.aloadN X593.here hx rfl (D 20) rfl rfl q))))))) ?_
  refine own_callV X593 hx hZ hown (w68 hw) (w69 hw) (notFace_of_selects (args := #[]) (mvT hZ (w71 hw))) (w71 hw) (w70 hw) (by decide) (own_bO (W := 0) (own_cod l Z a0 hw [] G1 G3 tx cd h0 n0 Z0 O2 O4 P5 rG3 OLD0 F_coder_tx (by rw [hcd]; rfl : nar .byte cd = cd)) hZ (w72 hw) (w11 hw) rfl rfl) e593 E_tx  (by decide) (by decide) (argsL := []) (rest := []) rfl hml.symm (lenOf pd_13 rfl) rfl rfl (own_w0 rfl rfl) (D 21) ?_
  rintro _ T594 L594 X594 ⟨rfl, N594q, e594⟩
  have N595 := Fr.app N590 N594q
  refine own_step (g' := (mkF m 47 #[sR tx, sR wa, sI (Int32.ofNat pn), sR t, sR wb, sI 0, sI (Int32.ofNat nl), sI cd] [(.ref wa), (.int cd)])) (fun _ q => XS.istore X594.here hx rfl (D 22) rfl (l' := #[sR tx, sR wa, sI (Int32.ofNat pn), sR t, sR wb, sI 0, sI (Int32.ofNat nl), sI cd]) rfl (XS.iload X594.here hx rfl (D 23) rfl (XS.aloadN X594.here hx rfl (D 24) rfl rfl q))) ?_
  refine own_callV X594 hx hZ hown (w68 hw) (w69 hw) (notFace_of_selects (args := #[]) (mvT hZ (w71 hw))) (w71 hw) (w70 hw) (by decide) (own_bO (W := 1) (own_cod0 l Z a0 hw [] G1 G3 wa h0 n0 Z0 O2 O4 P5 rG3 OLD0 F_coder_wa) hZ (w72 hw) (w11 hw) rfl rfl) e594 E_wa  (by decide) (by decide) (argsL := []) (rest := [(.int cd)]) rfl hml.symm (lenOf pd_13 rfl) rfl rfl (own_w0 rfl rfl) (D 25) ?_
  rintro _ T596 L596 X596 ⟨rfl, N596q, e596⟩
  have N597 := Fr.app N595 N596q
  have hc598 : (cd = (0 : Int32)) := hcd
  refine own_step (g' := (mkF m 56 #[sR tx, sR wa, sI (Int32.ofNat pn), sR t, sR wb, sI 0, sI (Int32.ofNat nl), sI cd] [(.int 1), (.int cd)])) (fun _ q => XS.icmpNo X596.here hx rfl (D 26) rfl (XT.ii_ne_f hc598) (XS.iload X596.here hx rfl (D 27) rfl (XS.iconst X596.here hx rfl (D 28) q))) ?_
  have hc599 : ¬ (cd = (1 : Int32)) := (by rw [hcd]; decide)
  refine own_step (g' := (mkF m 70 #[sR tx, sR wa, sI (Int32.ofNat pn), sR t, sR wb, sI 0, sI (Int32.ofNat nl), sI cd] [(.int (Int32.ofNat nl)), (.int 0), (.ref wb), (.int (Int32.ofNat pn)), (.ref t)])) (fun _ q => XS.icmpYes X596.here hx rfl (pc0 := 56) (pc' := 63) rfl (D 29) rfl (XT.ii_ne_t hc599) (by decide) (by decide) (XS.aloadN X596.here hx rfl (D 30) rfl rfl (XS.iloadN X596.here hx rfl (D 31) rfl (XS.aload X596.here hx rfl (D 32) rfl rfl (XS.iconst X596.here hx rfl (D 33) (XS.iload X596.here hx rfl (D 34) rfl q)))))) ?_
  refine own_callS X596 hx hZ hown (w152 hw) (w153 hw) (w154 hw) (w155 hw) (by decide) (own_bO (W := 0) (own_mm l Z a0 hw [] t kb N2 vs cs pn wb kw wl nl h0 n0 Z0 V_t V_wb hwl hnl hpn hN8 hlat) hZ (w155 hw) (w154 hw) rfl rfl) e596  (by decide) (by decide) (argsL := [(.ref t), (.int (Int32.ofNat pn)), (.ref wb), (.int (0 : Int32)), (.int (Int32.ofNat nl))]) (rest := []) rfl hml.symm (lenOf pd_23 rfl) rfl rfl (own_w0 rfl rfl) (D 35) ?_
  rintro _ T600 L600 X600 ⟨r600, rfl, N600q, e600, p0_600⟩
  have N601 := Fr.app N597 N600q
  have hc602 : ¬ (r600 < 0) := (p0_600.2 heq)
  refine own_step (g' := (mkF m 81 #[sR tx, sR wa, sI (Int32.ofNat pn), sR t, sR wb, sI 0, sI (Int32.ofNat nl), sI cd] [(.int 0)])) (fun _ q => XS.ifYes X600.here hx rfl (pc0 := 73) (pc' := 80) rfl (D 36) rfl (XT.i0_ge_t hc602) (by decide) (by decide) (XS.iconst X600.here hx rfl (D 39) q)) ?_
  exact own_retN X600 hx hrt (by simp) (D 40) hlk ⟨rfl, N601, e600⟩ (by decide) (by decide)
def Q_own_lit0 (Z : State) (G1 : Int32) (G3 : Value) (a tx t : Addr) (kb : ClassId) (cd N2 : Int32) (vs : List Value) (cs : List Int32) (pn : Nat) (wa wb : Addr) (kw : ClassId) (wl : List Int32) (nl : Nat) (h0 : Heap) (n0 : Nat) (v : Option Value) (h : Heap) (L : List Loc) : Prop := v = some (.int (0 : Int32)) ∧ Fr n0 L ∧ h = h0
set_option maxRecDepth 65536 in
set_option maxHeartbeats 40000000 in
theorem own_lit0 (l : Launch) (Z : State) (a0 : Array Value) (hw : own_HW a0 Z) (ws : List Jvm.Cond) (G1 : Int32) (G3 : Value) (a tx t : Addr) (kb : ClassId) (cd N2 : Int32) (vs : List Value) (cs : List Int32) (pn : Nat) (wa wb : Addr) (kw : ClassId) (wl : List Int32) (nl : Nat) (h0 : Heap) (n0 : Nat) (Z0 : n0 ≤ h0.size) (O2 : own_O2 Z G1) (O4 : own_O4 Z G3) (P5 : ¬ (G1 = (0 : Int32))) (rG3 : G3.isRef = true) (OLD0 : Old Z n0 h0) (E_a : own_Ea Z h0 a) (F_text_a : own_Ft Z h0 a (.ref tx)) (F_pos_a : own_Fp Z h0 a (.int (Int32.ofNat pn))) (E_tx : own_Es Z h0 tx) (F_value_tx : own_Sv Z h0 tx (.ref t)) (F_coder_tx : own_Sc Z h0 tx (.int cd)) (V_t : Arv Z h0 t kb .byte N2 vs (.int 0)) (hcod : StrChars.Road.CodA cs cd N2 vs) (hcs : own_R16 cs) (h8 : cs.length = 8) (E_wa : own_Es Z h0 wa) (F_value_wa : own_Sv Z h0 wa (.ref wb)) (F_coder_wa : own_Sc Z h0 wa (.int (0 : Int32))) (V_wb : Arv Z h0 wb kw .byte (Int32.ofNat nl) (wl.map Value.int) (.int 0)) (hwl : wl.length = nl) (hnl : nl ≤ 7) (hpn : pn + nl ≤ 8) (hN8 : N2 = (8 : Int32)) (hlat : ∀ i, i < 8 → vs.getD i (.int 0) = .int (cs.getD i 0)) (hcd : cd = (0 : Int32)) (heq : ¬ own_lw cs pn wl) :
    own_Met l Z ⟨"com/example/tote/tote/JsonText", "literal", "(Ljava/lang/String;)Z"⟩ prog_12_method_11_code 3 (some .boolean) ws ⟨3, 0, 0, 46⟩ #[(.ref a), (.ref wa)] h0 (Q_own_lit0 Z G1 G3 a tx t kb cd N2 vs cs pn wa wb kw wl nl h0 n0) := by
  refine own_bodyN (g0 := fun m => mkF m 0 #[sR a, sR wa, .unset] []) (plainFor_of_name pn_4) (fun _ => rfl) ?_
  intro p e s m below meth c s₁ hx hby hml hrt hlk hown hnm hZ e0 X0
  have D := own_d hby kD32
  have ty_a_tx : a ≠ tx := (Exa.ne E_a E_tx (by decide))
  have ty_a_t : a ≠ t := (Exa.neArv E_a V_t (w50 hw))
  have ty_a_wa : a ≠ wa := (Exa.ne E_a E_wa (by decide))
  have ty_a_wb : a ≠ wb := (Exa.neArv E_a V_wb (w50 hw))
  have ty_tx_t : tx ≠ t := (Exa.neArv E_tx V_t (w10 hw))
  have ty_tx_wb : tx ≠ wb := (Exa.neArv E_tx V_wb (w10 hw))
  have ty_t_wa : t ≠ wa := (Ne.symm (Exa.neArv E_wa V_t (w10 hw)))
  have ty_wa_wb : wa ≠ wb := (Exa.neArv E_wa V_wb (w10 hw))
  refine own_step (g' := (mkF m 1 #[sR a, sR wa, .unset] [(.ref a)])) (fun _ q => XS.aloadN X0.here hx rfl (D 0) rfl rfl q) ?_
  refine own_gF X0 hx hZ hown (w55 hw) e0 F_text_a rfl rfl (D 1) fun T603 X603 e603 => ?_
  refine own_step (g' := (mkF m 6 #[sR a, sR wa, .unset] [(.ref a), (.ref wa), (.ref tx)])) (fun _ q => XS.aloadN X603.here hx rfl (D 2) rfl rfl (XS.aloadN X603.here hx rfl (D 3) rfl rfl q)) ?_
  refine own_gF X603 hx hZ hown (w61 hw) e603 F_pos_a rfl rfl (D 4) fun T604 X604 e604 => ?_
  refine own_callV X604 hx hZ hown (w147 hw) (w148 hw) (notFace_of_selects (args := #[]) (mvT hZ (w150 hw))) (w150 hw) (w149 hw) (by decide) (own_bO (W := 0) (own_stw0 l Z a0 hw [] G1 G3 tx t kb cd N2 vs cs pn wa wb kw wl nl h0 n0 Z0 O2 O4 P5 rG3 OLD0 E_tx F_value_tx F_coder_tx V_t hcod hcs h8 E_wa F_value_wa F_coder_wa V_wb hwl hnl hpn hN8 hlat hcd heq) hZ (w151 hw) (w11 hw) rfl rfl) e604 E_tx  (by decide) (by decide) (argsL := [(.ref wa), (.int (Int32.ofNat pn))]) (rest := []) rfl hml.symm (lenOf pd_24 rfl) rfl rfl (own_w0 rfl rfl) (D 5) ?_
  rintro _ T605 L605 X605 ⟨rfl, N605q, e605⟩
  have N606 := Fr.app (Fr.nil n0) N605q
  refine own_step (g' := (mkF m 31 #[sR a, sR wa, sI 0] [(.int 0)])) (fun _ q => XS.istoreN X605.here hx rfl (D 6) rfl (l' := #[sR a, sR wa, sI 0]) rfl (XS.iloadN X605.here hx rfl (D 7) rfl (XS.ifYes X605.here hx rfl (pc0 := 14) (pc' := 30) rfl (D 8) rfl (by decide) (by decide) (by decide) (XS.iloadN X605.here hx rfl (D 16) rfl q)))) ?_
  exact own_retN X605 hx hrt (by simp) (D 17) hlk ⟨rfl, N606, e605⟩ (by decide) (by decide)
def Q_own_jti (Z : State) (a f : Addr) (h0 : Heap) (n0 : Nat) (v : Option Value) (h : Heap) (L : List Loc) : Prop := v = none ∧ Fr n0 L ∧ Keep h0 h [a] ∧ own_Ea Z h a ∧ own_Ft Z h a (.ref f) ∧ own_Fp Z h a (.int (0 : Int32))
set_option maxRecDepth 65536 in
set_option maxHeartbeats 40000000 in
theorem own_jti (l : Launch) (Z : State) (a0 : Array Value) (hw : own_HW a0 Z) (ws : List Jvm.Cond) (a f : Addr) (h0 : Heap) (n0 : Nat) (Z0 : n0 ≤ h0.size) (E_a : own_Ea Z h0 a) (ge_a : n0 ≤ a) (F_text_a : own_Ft Z h0 a .null) (F_pos_a : own_Fp Z h0 a (.int (0 : Int32))) :
    own_Met l Z ⟨"com/example/tote/tote/JsonText", "<init>", "(Ljava/lang/String;)V"⟩ prog_12_method_1_code 2 none ws ⟨1, 0, 0, 12⟩ #[(.ref a), (.ref f)] h0 (Q_own_jti Z a f h0 n0) := by
  refine own_bodyN (g0 := fun m => mkF m 0 #[sR a, sR f] []) (plainFor_of_name pn_4) (fun _ => rfl) ?_
  intro p e s m below meth c s₁ hx hby hml hrt hlk hown hnm hZ e0 X0
  have D := own_d hby kD11
  refine own_step (g' := (mkF m 1 #[sR a, sR f] [(.ref a)])) (fun _ q => XS.aloadN X0.here hx rfl (D 0) rfl rfl q) ?_
  obtain ⟨T607, X607, e607, st607⟩ := initO X0 hx hZ hown (w54 hw) (w20 hw) (w21 hw) e0 (g := (mkF m 1 #[sR a, sR f] [(.ref a)])) rfl (by rw [hml]; rfl) rfl (D 1) (Nat.le_of_ble_eq_true rfl) (W := 0) (by show 2 * 0 + _ ≤ _; exact Nat.le_of_eq rfl) (Nat.le_of_ble_eq_true rfl)
  refine own_step (T' := T607) (g' := (mkF m 4 #[sR a, sR f] [])) st607 ?_
  refine own_step (g' := (mkF m 6 #[sR a, sR f] [(.ref f), (.ref a)])) (fun _ q => XS.aloadN X607.here hx rfl (D 2) rfl rfl (XS.aloadN X607.here hx rfl (D 3) rfl rfl q)) ?_
  refine own_pF X607 hx hZ hown (w55 hw) e607 F_text_a E_a (Or.inr ⟨(w56 hw), rfl, hnm⟩) (w50 hw) (ty := (.object "java/lang/String")) (by decide) rfl rfl rfl rfl (D 4) fun T608 h608 X608 e608 W608 F609 => ?_
  have N610 := Fr.snoc X608 (Fr.nil n0) ge_a
  have c611 := ((Keep.refl h0 [a]).wr W608 (Or.inl (List.mem_of_getElem? (i := 0) rfl)))
  have c612 := (E_a.wr W608)
  have c613 := (F_pos_a.other W608 (Or.inr (RoadKit.slot_ne (t := .int) (t' := (.object "java/lang/String")) (Or.inl (w62 hw)) (Or.inr (w56 hw)) (by decide) (by decide) (by decide))))
  exact own_retV X608 hx hrt (D 5) hlk (by rw [e608]; exact ⟨rfl, N610, c611, c612, F609, c613⟩) (by decide) (by decide)
theorem pn_7 : plainName "java/util/Objects" = true := by first | (simp [plainName, overriddenIn]; done) | decide +kernel
def Q_own_rnn (Z : State) (a b : Addr) (h0 : Heap) (n0 : Nat) (v : Option Value) (h : Heap) (L : List Loc) : Prop := v = some (.ref a) ∧ Fr n0 L ∧ h = h0
set_option maxRecDepth 65536 in
set_option maxHeartbeats 40000000 in
theorem own_rnn (l : Launch) (Z : State) (a0 : Array Value) (hw : own_HW a0 Z) (ws : List Jvm.Cond) (a b : Addr) (h0 : Heap) (n0 : Nat) (Z0 : n0 ≤ h0.size)  :
    own_Met l Z ⟨"java/util/Objects", "requireNonNull", "(Ljava/lang/Object;Ljava/lang/String;)Ljava/lang/Object;"⟩ jdk_31_method_11_code 2 (some (.object "java/lang/Object")) ws ⟨0, 0, 0, 0⟩ #[(.ref a), (.ref b)] h0 (Q_own_rnn Z a b h0 n0) := by
  refine own_bodyN (g0 := fun m => mkF m 0 #[sR a, sR b] []) (plainFor_of_name pn_7) (fun _ => rfl) ?_
  intro p e s m below meth c s₁ hx hby hml hrt hlk hown hnm hZ e0 X0
  have D := own_d hby kD10
  refine own_step (g' := (mkF m 14 #[sR a, sR b] [(.ref a)])) (fun _ q => XS.aloadN X0.here hx rfl (D 0) rfl rfl (XT.ifnonnullYes X0.here hx rfl (pc0 := 1) (pc' := 13) rfl (D 1) rfl (by decide) (by decide) (XS.aloadN X0.here hx rfl (D 2) rfl rfl q))) ?_
  exact own_retA X0 hx hrt rfl rfl (D 3) hlk ⟨rfl, (Fr.nil n0), e0⟩ (by decide) (by decide)
def Q_own_minJ (Z : State) (jx : Int64) (h0 : Heap) (n0 : Nat) (v : Option Value) (h : Heap) (L : List Loc) : Prop := v = some (.long jx) ∧ Fr n0 L ∧ h = h0
set_option maxRecDepth 65536 in
set_option maxHeartbeats 40000000 in
theorem own_minJ (l : Launch) (Z : State) (a0 : Array Value) (hw : own_HW a0 Z) (ws : List Jvm.Cond) (jx : Int64) (h0 : Heap) (n0 : Nat) (Z0 : n0 ≤ h0.size) (hmx : ¬ (1073741823 : Int64) < jx) :
    own_Met l Z ⟨"java/lang/Math", "min", "(JJ)J"⟩ jdk_29_method_70_code 4 (some .long) ws ⟨0, 0, 0, 0⟩ #[(.long jx), (.long (1073741823 : Int64))] h0 (Q_own_minJ Z jx h0 n0) := by
  refine own_bodyN (g0 := fun m => mkF m 0 #[sJ jx, .second, sJ 1073741823, .second] []) (Jvm.Free.JP.mathPlain rfl (by decide +kernel)) (fun _ => rfl) ?_
  intro p e s m below meth c s₁ hx hby hml hrt hlk hown hnm hZ e0 X0
  have D := own_d hby kD50
  refine own_step (g' := (mkF m 3 #[sJ jx, .second, sJ 1073741823, .second] [(.int (XT.cmpL jx (1073741823 : Int64)))])) (fun _ q => XT.lloadN X0.here hx rfl (D 0) rfl (XT.lloadN X0.here hx rfl (D 1) rfl (XT.lcmp X0.here hx rfl (D 2) rfl q))) ?_
  have hc614 : ¬ ((1073741823 : Int64) < jx) := hmx
  refine own_step (g' := (mkF m 11 #[sJ jx, .second, sJ 1073741823, .second] [(.long jx)])) (fun _ q => XS.ifNo X0.here hx rfl (D 3) rfl (XT.ll_gt_f hc614) (XT.lloadN X0.here hx rfl (D 4) rfl (XS.goto X0.here hx rfl (pc0 := 7) (pc' := 11) rfl (D 5) (by decide) (by decide) q))) ?_
  exact own_retL X0 hx hrt (D 6) hlk ⟨rfl, (Fr.nil n0), e0⟩ (by decide) (by decide)
def Q_own_absJ (Z : State) (jx : Int64) (h0 : Heap) (n0 : Nat) (v : Option Value) (h : Heap) (L : List Loc) : Prop := v = some (.long jx) ∧ Fr n0 L ∧ h = h0
set_option maxRecDepth 65536 in
set_option maxHeartbeats 40000000 in
theorem own_absJ (l : Launch) (Z : State) (a0 : Array Value) (hw : own_HW a0 Z) (ws : List Jvm.Cond) (jx : Int64) (h0 : Heap) (n0 : Nat) (Z0 : n0 ≤ h0.size) (hj0 : ¬ jx < (0 : Int64)) :
    own_Met l Z ⟨"java/lang/Math", "abs", "(J)J"⟩ jdk_29_method_61_code 2 (some .long) ws ⟨0, 0, 0, 0⟩ #[(.long jx)] h0 (Q_own_absJ Z jx h0 n0) := by
  refine own_bodyN (g0 := fun m => mkF m 0 #[sJ jx, .second] []) (Jvm.Free.JP.mathPlain rfl (by decide +kernel)) (fun _ => rfl) ?_
  intro p e s m below meth c s₁ hx hby hml hrt hlk hown hnm hZ e0 X0
  have D := own_d hby kD49
  refine own_step (g' := (mkF m 3 #[sJ jx, .second] [(.int (XT.cmpL jx (0 : Int64)))])) (fun _ q => XT.lloadN X0.here hx rfl (D 0) rfl (XT.lconst X0.here hx rfl (D 1) (XT.lcmp X0.here hx rfl (D 2) rfl q))) ?_
  have hc615 : ¬ (jx < (0 : Int64)) := hj0
  refine own_step (g' := (mkF m 12 #[sJ jx, .second] [(.long jx)])) (fun _ q => XS.ifYes X0.here hx rfl (pc0 := 3) (pc' := 11) rfl (D 3) rfl (XT.ll_ge_t hc615) (by decide) (by decide) (XT.lloadN X0.here hx rfl (D 4) rfl q)) ?_
  exact own_retL X0 hx hrt (D 5) hlk ⟨rfl, (Fr.nil n0), e0⟩ (by decide) (by decide)
theorem pd_25 : parseMethodDescriptor "(J)J" = some ⟨[.long], some .long⟩ := by decide +kernel
def Q_own_fitA (Z : State) (G1 : Int32) (G3 : Value) (a tx t : Addr) (kb : ClassId) (cd N2 : Int32) (vs : List Value) (cs : List Int32) (pn nd : Nat) (fs : Int32) (h0 : Heap) (n0 : Nat) (v : Option Value) (h : Heap) (L : List Loc) : Prop := v = some (.int (1 : Int32)) ∧ Fr n0 L ∧ h = h0
set_option maxRecDepth 65536 in
set_option maxHeartbeats 40000000 in
theorem own_fitA (l : Launch) (Z : State) (a0 : Array Value) (hw : own_HW a0 Z) (ws : List Jvm.Cond) (G1 : Int32) (G3 : Value) (a tx t : Addr) (kb : ClassId) (cd N2 : Int32) (vs : List Value) (cs : List Int32) (pn nd : Nat) (fs : Int32) (h0 : Heap) (n0 : Nat) (Z0 : n0 ≤ h0.size) (O2 : own_O2 Z G1) (O4 : own_O4 Z G3) (P5 : ¬ (G1 = (0 : Int32))) (rG3 : G3.isRef = true) (OLD0 : Old Z n0 h0) (U1 : own_U0 Z) (U2 : own_U1 Z) (U3 : own_U2 Z) (E_a : own_Ea Z h0 a) (F_text_a : own_Ft Z h0 a (.ref tx)) (E_tx : own_Es Z h0 tx) (F_value_tx : own_Sv Z h0 tx (.ref t)) (F_coder_tx : own_Sc Z h0 tx (.int cd)) (V_t : Arv Z h0 t kb .byte N2 vs (.int 0)) (hcod : StrChars.Road.CodA cs cd N2 vs) (hcs : own_R16 cs) (h8 : cs.length = 8) (hp : pn < 8) (h1 : 1 ≤ nd) (h2 : nd ≤ 8) :
    own_Met l Z ⟨"com/example/tote/tote/JsonText", "fitsNumeric", "(IIIIJ)Z"⟩ prog_12_method_10_code 11 (some .boolean) ws ⟨5, 0, 0, 66⟩ #[(.ref a), (.int (Int32.ofNat pn)), (.int (Int32.ofNat nd)), (.int fs), (.int (0 : Int32)), (.long (0 : Int64))] h0 (Q_own_fitA Z G1 G3 a tx t kb cd N2 vs cs pn nd fs h0 n0) := by
  refine own_bodyN (g0 := fun m => mkF m 0 #[sR a, sI (Int32.ofNat pn), sI (Int32.ofNat nd), sI fs, sI 0, sJ 0, .second, .unset, .unset, .unset, .unset] []) (plainFor_of_name pn_4) (fun _ => rfl) ?_
  intro p e s m below meth c s₁ hx hby hml hrt hlk hown hnm hZ e0 X0
  have D := own_d hby kD48
  have ty_a_tx : a ≠ tx := (Exa.ne E_a E_tx (by decide))
  have ty_a_t : a ≠ t := (Exa.neArv E_a V_t (w50 hw))
  have ty_tx_t : tx ≠ t := (Exa.neArv E_tx V_t (w10 hw))
  refine own_step (g' := (mkF m 1 #[sR a, sI (Int32.ofNat pn), sI (Int32.ofNat nd), sI fs, sI 0, sJ 0, .second, .unset, .unset, .unset, .unset] [(.ref a)])) (fun _ q => XS.aloadN X0.here hx rfl (D 0) rfl rfl q) ?_
  refine own_gF X0 hx hZ hown (w55 hw) e0 F_text_a rfl rfl (D 1) fun T616 X616 e616 => ?_
  refine own_step (g' := (mkF m 5 #[sR a, sI (Int32.ofNat pn), sI (Int32.ofNat nd), sI fs, sI 0, sJ 0, .second, .unset, .unset, .unset, .unset] [(.int (Int32.ofNat pn)), (.ref tx)])) (fun _ q => XS.iloadN X616.here hx rfl (D 2) rfl q) ?_
  refine own_callV X616 hx hZ hown (w74 hw) (w75 hw) (notFace_of_selects (args := #[]) (mvT hZ (w77 hw))) (w77 hw) (w76 hw) (by decide) (own_bO (W := 0) (own_char l Z a0 hw [] G1 G3 tx t kb cd N2 vs cs pn h0 n0 Z0 O2 O4 P5 rG3 OLD0 U1 U2 U3 E_tx F_value_tx F_coder_tx V_t hcod hcs (by omega : cs.length ≤ 400) (by omega : pn < cs.length)) hZ (w78 hw) (w11 hw) rfl rfl) e616 E_tx  (by decide) (by decide) (argsL := [(.int (Int32.ofNat pn))]) (rest := []) rfl hml.symm (lenOf pd_15 rfl) rfl rfl (own_w0 rfl rfl) (D 3) ?_
  rintro _ T617 L617 X617 ⟨rfl, N617q, e617⟩
  have N618 := Fr.app (Fr.nil n0) N617q
  refine own_step (g' := (mkF m 10 #[sR a, sI (Int32.ofNat pn), sI (Int32.ofNat nd), sI fs, sI 0, sJ 0, .second, .unset, .unset, .unset, .unset] [(.int 48), (.int (cs.getD pn 0))])) (fun _ q => XS.bipush X617.here hx rfl (D 4) q) ?_
  by_cases hc619 : (cs.getD pn 0) = (48 : Int32)
  · refine own_step (g' := (mkF m 68 #[sR a, sI (Int32.ofNat pn), sI (Int32.ofNat nd), sI fs, sI 0, sJ 0, .second, .unset, .unset, .unset, sI 0] [(.int 1)])) (fun _ q => XS.icmpYes X617.here hx rfl (pc0 := 10) (pc' := 28) rfl (D 5) rfl (XT.ii_eq_t hc619) (by decide) (by decide) (XS.iconst X617.here hx rfl (D 16) (XS.istore X617.here hx rfl (D 17) rfl (l' := #[sR a, sI (Int32.ofNat pn), sI (Int32.ofNat nd), sI fs, sI 0, sJ 0, .second, .unset, .unset, .unset, sI 0]) rfl (XS.iload X617.here hx rfl (D 18) rfl (XS.iload X617.here hx rfl (D 19) rfl (XS.icmpYes X617.here hx rfl (pc0 := 35) (pc' := 60) rfl (D 20) rfl (by decide) (by decide) (by decide) (XS.iload X617.here hx rfl (D 31) rfl (XS.iload X617.here hx rfl (D 32) rfl (XS.icmpNo X617.here hx rfl (D 33) rfl (by decide) (XS.iconst X617.here hx rfl (D 34) q)))))))))) ?_
    refine own_step (g' := (mkF m 86 #[sR a, sI (Int32.ofNat pn), sI (Int32.ofNat nd), sI fs, sI 0, sJ 0, .second, sI 1, sJ (((0 : Int64) - (0 : Int64)) - (1 : Int64)), .second, sI 0] [(.long 0)])) (fun _ q => XS.goto X617.here hx rfl (pc0 := 68) (pc' := 72) rfl (D 35) (by decide) (by decide) (XS.istore X617.here hx rfl (D 37) rfl (l' := #[sR a, sI (Int32.ofNat pn), sI (Int32.ofNat nd), sI fs, sI 0, sJ 0, .second, sI 1, .unset, .unset, sI 0]) rfl (XT.lload X617.here hx rfl (D 38) rfl (XS.iload X617.here hx rfl (D 39) rfl (XT.i2l X617.here hx rfl (D 40) rfl (XT.lsub X617.here hx rfl (D 41) rfl (XT.lconst X617.here hx rfl (D 42) (XT.lsub X617.here hx rfl (D 43) rfl (XT.lstore X617.here hx rfl (D 44) rfl (l' := #[sR a, sI (Int32.ofNat pn), sI (Int32.ofNat nd), sI fs, sI 0, sJ 0, .second, sI 1, sJ (((0 : Int64) - (0 : Int64)) - (1 : Int64)), .second, sI 0]) rfl (XT.lload X617.here hx rfl (D 45) rfl q)))))))))) ?_
    refine own_callS X617 hx hZ hown (w213 hw) (w214 hw) (w115 hw) (w215 hw) (by decide) (own_bO (W := 0) (own_absJ l Z a0 hw [] (0 : Int64) h0 n0 Z0 (by decide : ¬ (0 : Int64) < (0 : Int64))) hZ (w215 hw) (w115 hw) rfl rfl) e617  (by decide) (by decide) (argsL := [(.long (0 : Int64))]) (rest := []) rfl hml.symm (lenOf pd_25 rfl) rfl rfl (own_w0 rfl rfl) (D 46) ?_
    rintro _ T620 L620 X620 ⟨rfl, N620q, e620⟩
    have N621 := Fr.app N618 N620q
    refine own_step (g' := (mkF m 93 #[sR a, sI (Int32.ofNat pn), sI (Int32.ofNat nd), sI fs, sI 0, sJ 0, .second, sI 1, sJ (((0 : Int64) - (0 : Int64)) - (1 : Int64)), .second, sI 0] [(.int (XT.cmpL (0 : Int64) (1073741822 : Int64)))])) (fun _ q => X620.ldc2Long hx hown (mvT hZ (w216 hw)) (g := (mkF m 89 #[sR a, sI (Int32.ofNat pn), sI (Int32.ofNat nd), sI fs, sI 0, sJ 0, .second, sI 1, sJ (((0 : Int64) - (0 : Int64)) - (1 : Int64)), .second, sI 0] [(.long 0)])) rfl (D 47) _ (XT.lcmp X620.here hx rfl (D 48) rfl q)) ?_
    have hc622 : ¬ ((1073741822 : Int64) < (0 : Int64)) := by decide
    refine own_step (g' := (mkF m 106 #[sR a, sI (Int32.ofNat pn), sI (Int32.ofNat nd), sI fs, sI 0, sJ 0, .second, sI 1, sJ (((0 : Int64) - (0 : Int64)) - (1 : Int64)), .second, sI 0] [(.int (XT.cmpL ((0 : Int64) - (0 : Int64)) (16383 : Int64)))])) (fun _ q => XS.ifNo X620.here hx rfl (D 49) rfl (XT.ll_gt_f hc622) (XS.iload X620.here hx rfl (D 50) rfl (XT.i2l X620.here hx rfl (D 51) rfl (XT.lload X620.here hx rfl (D 52) rfl (XT.lsub X620.here hx rfl (D 53) rfl (X620.ldc2Long hx hown (mvT hZ (w217 hw)) (g := (mkF m 102 #[sR a, sI (Int32.ofNat pn), sI (Int32.ofNat nd), sI fs, sI 0, sJ 0, .second, sI 1, sJ (((0 : Int64) - (0 : Int64)) - (1 : Int64)), .second, sI 0] [(.long ((0 : Int64) - (0 : Int64)))])) rfl (D 54) _ (XT.lcmp X620.here hx rfl (D 55) rfl q))))))) ?_
    have hc623 : ¬ ((16383 : Int64) < ((0 : Int64) - (0 : Int64))) := by decide
    refine own_step (g' := (mkF m 128 #[sR a, sI (Int32.ofNat pn), sI (Int32.ofNat nd), sI fs, sI 0, sJ 0, .second, sI 1, sJ (((0 : Int64) - (0 : Int64)) - (1 : Int64)), .second, sI 0] [(.int 1)])) (fun _ q => XS.ifNo X620.here hx rfl (D 56) rfl (XT.ll_gt_f hc623) (XS.iload X620.here hx rfl (D 57) rfl (XS.ifYes X620.here hx rfl (pc0 := 111) (pc' := 123) rfl (D 58) rfl (by decide) (by decide) (by decide) (XS.iconst X620.here hx rfl (D 63) (XS.goto X620.here hx rfl (pc0 := 124) (pc' := 128) rfl (D 64) (by decide) (by decide) q))))) ?_
    exact own_retN X620 hx hrt (by simp) (D 65) hlk ⟨rfl, N621, e620⟩ (by decide) (by decide)
  · refine own_step (g' := (mkF m 25 #[sR a, sI (Int32.ofNat pn), sI (Int32.ofNat nd), sI fs, sI 0, sJ 0, .second, sI 0, sJ ((((Int32.ofNat nd) - (1 : Int32)).toInt64) + (0 : Int64)), .second, .unset] [])) (fun _ q => XS.icmpNo X617.here hx rfl (D 5) rfl (XT.ii_eq_f hc619) (XS.iconst X617.here hx rfl (D 6) (XS.istore X617.here hx rfl (D 7) rfl (l' := #[sR a, sI (Int32.ofNat pn), sI (Int32.ofNat nd), sI fs, sI 0, sJ 0, .second, sI 0, .unset, .unset, .unset]) rfl (XS.iloadN X617.here hx rfl (D 8) rfl (XS.iconst X617.here hx rfl (D 9) (XS.isub X617.here hx rfl (D 10) rfl (XT.i2l X617.here hx rfl (D 11) rfl (XT.lload X617.here hx rfl (D 12) rfl (XT.ladd X617.here hx rfl (D 13) rfl (XT.lstore X617.here hx rfl (D 14) rfl (l' := #[sR a, sI (Int32.ofNat pn), sI (Int32.ofNat nd), sI fs, sI 0, sJ 0, .second, sI 0, sJ ((((Int32.ofNat nd) - (1 : Int32)).toInt64) + (0 : Int64)), .second, .unset]) rfl q)))))))))) ?_
    refine own_step (g' := (mkF m 86 #[sR a, sI (Int32.ofNat pn), sI (Int32.ofNat nd), sI fs, sI 0, sJ 0, .second, sI 0, sJ ((((Int32.ofNat nd) - (1 : Int32)).toInt64) + (0 : Int64)), .second, .unset] [(.long 0)])) (fun _ q => XS.goto X617.here hx rfl (pc0 := 25) (pc' := 84) rfl (D 15) (by decide) (by decide) (XT.lload X617.here hx rfl (D 45) rfl q)) ?_
    refine own_callS X617 hx hZ hown (w213 hw) (w214 hw) (w115 hw) (w215 hw) (by decide) (own_bO (W := 0) (own_absJ l Z a0 hw [] (0 : Int64) h0 n0 Z0 (by decide : ¬ (0 : Int64) < (0 : Int64))) hZ (w215 hw) (w115 hw) rfl rfl) e617  (by decide) (by decide) (argsL := [(.long (0 : Int64))]) (rest := []) rfl hml.symm (lenOf pd_25 rfl) rfl rfl (own_w0 rfl rfl) (D 46) ?_
    rintro _ T624 L624 X624 ⟨rfl, N624q, e624⟩
    have N625 := Fr.app N618 N624q
    refine own_step (g' := (mkF m 93 #[sR a, sI (Int32.ofNat pn), sI (Int32.ofNat nd), sI fs, sI 0, sJ 0, .second, sI 0, sJ ((((Int32.ofNat nd) - (1 : Int32)).toInt64) + (0 : Int64)), .second, .unset] [(.int (XT.cmpL (0 : Int64) (1073741822 : Int64)))])) (fun _ q => X624.ldc2Long hx hown (mvT hZ (w216 hw)) (g := (mkF m 89 #[sR a, sI (Int32.ofNat pn), sI (Int32.ofNat nd), sI fs, sI 0, sJ 0, .second, sI 0, sJ ((((Int32.ofNat nd) - (1 : Int32)).toInt64) + (0 : Int64)), .second, .unset] [(.long 0)])) rfl (D 47) _ (XT.lcmp X624.here hx rfl (D 48) rfl q)) ?_
    have hc626 : ¬ ((1073741822 : Int64) < (0 : Int64)) := by decide
    refine own_step (g' := (mkF m 106 #[sR a, sI (Int32.ofNat pn), sI (Int32.ofNat nd), sI fs, sI 0, sJ 0, .second, sI 0, sJ ((((Int32.ofNat nd) - (1 : Int32)).toInt64) + (0 : Int64)), .second, .unset] [(.int (XT.cmpL ((0 : Int64) - (0 : Int64)) (16383 : Int64)))])) (fun _ q => XS.ifNo X624.here hx rfl (D 49) rfl (XT.ll_gt_f hc626) (XS.iload X624.here hx rfl (D 50) rfl (XT.i2l X624.here hx rfl (D 51) rfl (XT.lload X624.here hx rfl (D 52) rfl (XT.lsub X624.here hx rfl (D 53) rfl (X624.ldc2Long hx hown (mvT hZ (w217 hw)) (g := (mkF m 102 #[sR a, sI (Int32.ofNat pn), sI (Int32.ofNat nd), sI fs, sI 0, sJ 0, .second, sI 0, sJ ((((Int32.ofNat nd) - (1 : Int32)).toInt64) + (0 : Int64)), .second, .unset] [(.long ((0 : Int64) - (0 : Int64)))])) rfl (D 54) _ (XT.lcmp X624.here hx rfl (D 55) rfl q))))))) ?_
    have hc627 : ¬ ((16383 : Int64) < ((0 : Int64) - (0 : Int64))) := by decide
    refine own_step (g' := (mkF m 120 #[sR a, sI (Int32.ofNat pn), sI (Int32.ofNat nd), sI fs, sI 0, sJ 0, .second, sI 0, sJ ((((Int32.ofNat nd) - (1 : Int32)).toInt64) + (0 : Int64)), .second, .unset] [(.int (XT.cmpL ((((Int32.ofNat nd) - (1 : Int32)).toInt64) + (0 : Int64)) (131071 : Int64)))])) (fun _ q => XS.ifNo X624.here hx rfl (D 56) rfl (XT.ll_gt_f hc627) (XS.iload X624.here hx rfl (D 57) rfl (XS.ifNo X624.here hx rfl (D 58) rfl (by decide) (XT.lload X624.here hx rfl (D 59) rfl (X624.ldc2Long hx hown (mvT hZ (w218 hw)) (g := (mkF m 116 #[sR a, sI (Int32.ofNat pn), sI (Int32.ofNat nd), sI fs, sI 0, sJ 0, .second, sI 0, sJ ((((Int32.ofNat nd) - (1 : Int32)).toInt64) + (0 : Int64)), .second, .unset] [(.long ((((Int32.ofNat nd) - (1 : Int32)).toInt64) + (0 : Int64)))])) rfl (D 60) _ (XT.lcmp X624.here hx rfl (D 61) rfl q)))))) ?_
    have hc628 : ¬ ((131071 : Int64) < ((((Int32.ofNat nd) - (1 : Int32)).toInt64) + (0 : Int64))) := (own_mag h1 h2)
    refine own_step (g' := (mkF m 128 #[sR a, sI (Int32.ofNat pn), sI (Int32.ofNat nd), sI fs, sI 0, sJ 0, .second, sI 0, sJ ((((Int32.ofNat nd) - (1 : Int32)).toInt64) + (0 : Int64)), .second, .unset] [(.int 1)])) (fun _ q => XS.ifNo X624.here hx rfl (D 62) rfl (XT.ll_gt_f hc628) (XS.iconst X624.here hx rfl (D 63) (XS.goto X624.here hx rfl (pc0 := 124) (pc' := 128) rfl (D 64) (by decide) (by decide) q))) ?_
    exact own_retN X624 hx hrt (by simp) (D 65) hlk ⟨rfl, N625, e624⟩ (by decide) (by decide)
def Q_own_fitY (Z : State) (G1 : Int32) (G3 : Value) (a tx t : Addr) (kb : ClassId) (cd N2 : Int32) (vs : List Value) (cs : List Int32) (jz : Int32) (h0 : Heap) (n0 : Nat) (v : Option Value) (h : Heap) (L : List Loc) : Prop := v = some (.int (1 : Int32)) ∧ Fr n0 L ∧ h = h0
set_option maxRecDepth 65536 in
set_option maxHeartbeats 40000000 in
theorem own_fitY (l : Launch) (Z : State) (a0 : Array Value) (hw : own_HW a0 Z) (ws : List Jvm.Cond) (G1 : Int32) (G3 : Value) (a tx t : Addr) (kb : ClassId) (cd N2 : Int32) (vs : List Value) (cs : List Int32) (jz : Int32) (h0 : Heap) (n0 : Nat) (Z0 : n0 ≤ h0.size) (O2 : own_O2 Z G1) (O4 : own_O4 Z G3) (P5 : ¬ (G1 = (0 : Int32))) (rG3 : G3.isRef = true) (OLD0 : Old Z n0 h0) (U1 : own_U0 Z) (U2 : own_U1 Z) (U3 : own_U2 Z) (E_a : own_Ea Z h0 a) (F_text_a : own_Ft Z h0 a (.ref tx)) (E_tx : own_Es Z h0 tx) (F_value_tx : own_Sv Z h0 tx (.ref t)) (F_coder_tx : own_Sc Z h0 tx (.int cd)) (V_t : Arv Z h0 t kb .byte N2 vs (.int 0)) (hcod : StrChars.Road.CodA cs cd N2 vs) (hcs : own_R16 cs) (h8 : cs.length = 8) (hjd : ¬ jz < (48 : Int32) ∧ ¬ (57 : Int32) < jz) :
    own_Met l Z ⟨"com/example/tote/tote/JsonText", "fitsNumeric", "(IIIIJ)Z"⟩ prog_12_method_10_code 11 (some .boolean) ws ⟨5, 0, 0, 66⟩ #[(.ref a), (.int (2 : Int32)), (.int (1 : Int32)), (.int (4 : Int32)), (.int (1 : Int32)), (.long (own_jd jz))] h0 (Q_own_fitY Z G1 G3 a tx t kb cd N2 vs cs jz h0 n0) := by
  refine own_bodyN (g0 := fun m => mkF m 0 #[sR a, sI 2, sI 1, sI 4, sI 1, sJ (own_jd jz), .second, .unset, .unset, .unset, .unset] []) (plainFor_of_name pn_4) (fun _ => rfl) ?_
  intro p e s m below meth c s₁ hx hby hml hrt hlk hown hnm hZ e0 X0
  have D := own_d hby kD48
  have ty_a_tx : a ≠ tx := (Exa.ne E_a E_tx (by decide))
  have ty_a_t : a ≠ t := (Exa.neArv E_a V_t (w50 hw))
  have ty_tx_t : tx ≠ t := (Exa.neArv E_tx V_t (w10 hw))
  refine own_step (g' := (mkF m 1 #[sR a, sI 2, sI 1, sI 4, sI 1, sJ (own_jd jz), .second, .unset, .unset, .unset, .unset] [(.ref a)])) (fun _ q => XS.aloadN X0.here hx rfl (D 0) rfl rfl q) ?_
  refine own_gF X0 hx hZ hown (w55 hw) e0 F_text_a rfl rfl (D 1) fun T629 X629 e629 => ?_
  refine own_step (g' := (mkF m 5 #[sR a, sI 2, sI 1, sI 4, sI 1, sJ (own_jd jz), .second, .unset, .unset, .unset, .unset] [(.int 2), (.ref tx)])) (fun _ q => XS.iloadN X629.here hx rfl (D 2) rfl q) ?_
  refine own_callV X629 hx hZ hown (w74 hw) (w75 hw) (notFace_of_selects (args := #[]) (mvT hZ (w77 hw))) (w77 hw) (w76 hw) (by decide) (own_bO (W := 0) (own_char l Z a0 hw [] G1 G3 tx t kb cd N2 vs cs 2 h0 n0 Z0 O2 O4 P5 rG3 OLD0 U1 U2 U3 E_tx F_value_tx F_coder_tx V_t hcod hcs (by omega : cs.length ≤ 400) (by omega : 2 < cs.length)) hZ (w78 hw) (w11 hw) rfl rfl) e629 E_tx  (by decide) (by decide) (argsL := [(.int (2 : Int32))]) (rest := []) rfl hml.symm (lenOf pd_15 rfl) rfl rfl (own_w0 rfl rfl) (D 3) ?_
  rintro _ T630 L630 X630 ⟨rfl, N630q, e630⟩
  have N631 := Fr.app (Fr.nil n0) N630q
  refine own_step (g' := (mkF m 10 #[sR a, sI 2, sI 1, sI 4, sI 1, sJ (own_jd jz), .second, .unset, .unset, .unset, .unset] [(.int 48), (.int (cs.getD 2 0))])) (fun _ q => XS.bipush X630.here hx rfl (D 4) q) ?_
  by_cases hc632 : (cs.getD 2 0) = (48 : Int32)
  · refine own_step (g' := (mkF m 39 #[sR a, sI 2, sI 1, sI 4, sI 1, sJ (own_jd jz), .second, .unset, .unset, .unset, sI 0] [(.ref a)])) (fun _ q => XS.icmpYes X630.here hx rfl (pc0 := 10) (pc' := 28) rfl (D 5) rfl (XT.ii_eq_t hc632) (by decide) (by decide) (XS.iconst X630.here hx rfl (D 16) (XS.istore X630.here hx rfl (D 17) rfl (l' := #[sR a, sI 2, sI 1, sI 4, sI 1, sJ (own_jd jz), .second, .unset, .unset, .unset, sI 0]) rfl (XS.iload X630.here hx rfl (D 18) rfl (XS.iload X630.here hx rfl (D 19) rfl (XS.icmpNo X630.here hx rfl (D 20) rfl (by decide) (XS.aloadN X630.here hx rfl (D 21) rfl rfl q))))))) ?_
    refine own_gF X630 hx hZ hown (w55 hw) e630 F_text_a rfl rfl (D 22) fun T633 X633 e633 => ?_
    refine own_step (g' := (mkF m 46 #[sR a, sI 2, sI 1, sI 4, sI 1, sJ (own_jd jz), .second, .unset, .unset, .unset, sI 0] [(.int 4), (.ref tx)])) (fun _ q => XS.iloadN X633.here hx rfl (D 23) rfl (XS.iload X633.here hx rfl (D 24) rfl (XS.iadd X633.here hx rfl (D 25) rfl q))) ?_
    refine own_callV X633 hx hZ hown (w74 hw) (w75 hw) (notFace_of_selects (args := #[]) (mvT hZ (w77 hw))) (w77 hw) (w76 hw) (by decide) (own_bO (W := 0) (own_char l Z a0 hw [] G1 G3 tx t kb cd N2 vs cs 4 h0 n0 Z0 O2 O4 P5 rG3 OLD0 U1 U2 U3 E_tx F_value_tx F_coder_tx V_t hcod hcs (by omega : cs.length ≤ 400) (by omega : 4 < cs.length)) hZ (w78 hw) (w11 hw) rfl rfl) e633 E_tx  (by decide) (by decide) (argsL := [(.int (4 : Int32))]) (rest := []) rfl hml.symm (lenOf pd_15 rfl) rfl rfl (own_w0 rfl rfl) (D 26) ?_
    rintro _ T634 L634 X634 ⟨rfl, N634q, e634⟩
    have N635 := Fr.app N631 N634q
    refine own_step (g' := (mkF m 51 #[sR a, sI 2, sI 1, sI 4, sI 1, sJ (own_jd jz), .second, .unset, .unset, .unset, sI 0] [(.int 48), (.int (cs.getD 4 0))])) (fun _ q => XS.bipush X634.here hx rfl (D 27) q) ?_
    by_cases hc636 : (cs.getD 4 0) = (48 : Int32)
    · refine own_step (g' := (mkF m 68 #[sR a, sI 2, sI 1, sI 4, sI 1, sJ (own_jd jz), .second, .unset, .unset, .unset, sI 1] [(.int 1)])) (fun _ q => XS.icmpNo X634.here hx rfl (D 28) rfl (XT.ii_ne_f hc636) (XS.iinc X634.here hx rfl (D 29) rfl (l' := #[sR a, sI 2, sI 1, sI 4, sI 1, sJ (own_jd jz), .second, .unset, .unset, .unset, sI 1]) rfl (XS.goto X634.here hx rfl (pc0 := 57) (pc' := 31) rfl (D 30) (by decide) (by decide) (XS.iload X634.here hx rfl (D 18) rfl (XS.iload X634.here hx rfl (D 19) rfl (XS.icmpYes X634.here hx rfl (pc0 := 35) (pc' := 60) rfl (D 20) rfl (by decide) (by decide) (by decide) (XS.iload X634.here hx rfl (D 31) rfl (XS.iload X634.here hx rfl (D 32) rfl (XS.icmpNo X634.here hx rfl (D 33) rfl (by decide) (XS.iconst X634.here hx rfl (D 34) q)))))))))) ?_
      refine own_step (g' := (mkF m 86 #[sR a, sI 2, sI 1, sI 4, sI 1, sJ (own_jd jz), .second, sI 1, sJ (((own_jd jz) - (1 : Int64)) - (1 : Int64)), .second, sI 1] [(.long (own_jd jz))])) (fun _ q => XS.goto X634.here hx rfl (pc0 := 68) (pc' := 72) rfl (D 35) (by decide) (by decide) (XS.istore X634.here hx rfl (D 37) rfl (l' := #[sR a, sI 2, sI 1, sI 4, sI 1, sJ (own_jd jz), .second, sI 1, .unset, .unset, sI 1]) rfl (XT.lload X634.here hx rfl (D 38) rfl (XS.iload X634.here hx rfl (D 39) rfl (XT.i2l X634.here hx rfl (D 40) rfl (XT.lsub X634.here hx rfl (D 41) rfl (XT.lconst X634.here hx rfl (D 42) (XT.lsub X634.here hx rfl (D 43) rfl (XT.lstore X634.here hx rfl (D 44) rfl (l' := #[sR a, sI 2, sI 1, sI 4, sI 1, sJ (own_jd jz), .second, sI 1, sJ (((own_jd jz) - (1 : Int64)) - (1 : Int64)), .second, sI 1]) rfl (XT.lload X634.here hx rfl (D 45) rfl q)))))))))) ?_
      refine own_callS X634 hx hZ hown (w213 hw) (w214 hw) (w115 hw) (w215 hw) (by decide) (own_bO (W := 0) (own_absJ l Z a0 hw [] (own_jd jz) h0 n0 Z0 ((own_jdb hjd).1 : ¬ (own_jd jz) < (0 : Int64))) hZ (w215 hw) (w115 hw) rfl rfl) e634  (by decide) (by decide) (argsL := [(.long (own_jd jz))]) (rest := []) rfl hml.symm (lenOf pd_25 rfl) rfl rfl (own_w0 rfl rfl) (D 46) ?_
      rintro _ T637 L637 X637 ⟨rfl, N637q, e637⟩
      have N638 := Fr.app N635 N637q
      refine own_step (g' := (mkF m 93 #[sR a, sI 2, sI 1, sI 4, sI 1, sJ (own_jd jz), .second, sI 1, sJ (((own_jd jz) - (1 : Int64)) - (1 : Int64)), .second, sI 1] [(.int (XT.cmpL (own_jd jz) (1073741822 : Int64)))])) (fun _ q => X637.ldc2Long hx hown (mvT hZ (w216 hw)) (g := (mkF m 89 #[sR a, sI 2, sI 1, sI 4, sI 1, sJ (own_jd jz), .second, sI 1, sJ (((own_jd jz) - (1 : Int64)) - (1 : Int64)), .second, sI 1] [(.long (own_jd jz))])) rfl (D 47) _ (XT.lcmp X637.here hx rfl (D 48) rfl q)) ?_
      have hc639 : ¬ ((1073741822 : Int64) < (own_jd jz)) := (own_jdb hjd).2.2.1
      refine own_step (g' := (mkF m 106 #[sR a, sI 2, sI 1, sI 4, sI 1, sJ (own_jd jz), .second, sI 1, sJ (((own_jd jz) - (1 : Int64)) - (1 : Int64)), .second, sI 1] [(.int (XT.cmpL ((1 : Int64) - (own_jd jz)) (16383 : Int64)))])) (fun _ q => XS.ifNo X637.here hx rfl (D 49) rfl (XT.ll_gt_f hc639) (XS.iload X637.here hx rfl (D 50) rfl (XT.i2l X637.here hx rfl (D 51) rfl (XT.lload X637.here hx rfl (D 52) rfl (XT.lsub X637.here hx rfl (D 53) rfl (X637.ldc2Long hx hown (mvT hZ (w217 hw)) (g := (mkF m 102 #[sR a, sI 2, sI 1, sI 4, sI 1, sJ (own_jd jz), .second, sI 1, sJ (((own_jd jz) - (1 : Int64)) - (1 : Int64)), .second, sI 1] [(.long ((1 : Int64) - (own_jd jz)))])) rfl (D 54) _ (XT.lcmp X637.here hx rfl (D 55) rfl q))))))) ?_
      have hc640 : ¬ ((16383 : Int64) < ((1 : Int64) - (own_jd jz))) := (own_jdb hjd).2.2.2.1
      refine own_step (g' := (mkF m 128 #[sR a, sI 2, sI 1, sI 4, sI 1, sJ (own_jd jz), .second, sI 1, sJ (((own_jd jz) - (1 : Int64)) - (1 : Int64)), .second, sI 1] [(.int 1)])) (fun _ q => XS.ifNo X637.here hx rfl (D 56) rfl (XT.ll_gt_f hc640) (XS.iload X637.here hx rfl (D 57) rfl (XS.ifYes X637.here hx rfl (pc0 := 111) (pc' := 123) rfl (D 58) rfl (by decide) (by decide) (by decide) (XS.iconst X637.here hx rfl (D 63) (XS.goto X637.here hx rfl (pc0 := 124) (pc' := 128) rfl (D 64) (by decide) (by decide) q))))) ?_
      exact own_retN X637 hx hrt (by simp) (D 65) hlk ⟨rfl, N638, e637⟩ (by decide) (by decide)
    · refine own_step (g' := (mkF m 80 #[sR a, sI 2, sI 1, sI 4, sI 1, sJ (own_jd jz), .second, sI 0, .unset, .unset, sI 0] [(.long ((own_jd jz) - (0 : Int64)))])) (fun _ q => XS.icmpYes X634.here hx rfl (pc0 := 51) (pc' := 60) rfl (D 28) rfl (XT.ii_ne_t hc636) (by decide) (by decide) (XS.iload X634.here hx rfl (D 31) rfl (XS.iload X634.here hx rfl (D 32) rfl (XS.icmpYes X634.here hx rfl (pc0 := 64) (pc' := 71) rfl (D 33) rfl (by decide) (by decide) (by decide) (XS.iconst X634.here hx rfl (D 36) (XS.istore X634.here hx rfl (D 37) rfl (l' := #[sR a, sI 2, sI 1, sI 4, sI 1, sJ (own_jd jz), .second, sI 0, .unset, .unset, sI 0]) rfl (XT.lload X634.here hx rfl (D 38) rfl (XS.iload X634.here hx rfl (D 39) rfl (XT.i2l X634.here hx rfl (D 40) rfl (XT.lsub X634.here hx rfl (D 41) rfl q)))))))))) ?_
      refine own_step (g' := (mkF m 86 #[sR a, sI 2, sI 1, sI 4, sI 1, sJ (own_jd jz), .second, sI 0, sJ (((own_jd jz) - (0 : Int64)) - (1 : Int64)), .second, sI 0] [(.long (own_jd jz))])) (fun _ q => XT.lconst X634.here hx rfl (D 42) (XT.lsub X634.here hx rfl (D 43) rfl (XT.lstore X634.here hx rfl (D 44) rfl (l' := #[sR a, sI 2, sI 1, sI 4, sI 1, sJ (own_jd jz), .second, sI 0, sJ (((own_jd jz) - (0 : Int64)) - (1 : Int64)), .second, sI 0]) rfl (XT.lload X634.here hx rfl (D 45) rfl q)))) ?_
      refine own_callS X634 hx hZ hown (w213 hw) (w214 hw) (w115 hw) (w215 hw) (by decide) (own_bO (W := 0) (own_absJ l Z a0 hw [] (own_jd jz) h0 n0 Z0 ((own_jdb hjd).1 : ¬ (own_jd jz) < (0 : Int64))) hZ (w215 hw) (w115 hw) rfl rfl) e634  (by decide) (by decide) (argsL := [(.long (own_jd jz))]) (rest := []) rfl hml.symm (lenOf pd_25 rfl) rfl rfl (own_w0 rfl rfl) (D 46) ?_
      rintro _ T641 L641 X641 ⟨rfl, N641q, e641⟩
      have N642 := Fr.app N635 N641q
      refine own_step (g' := (mkF m 93 #[sR a, sI 2, sI 1, sI 4, sI 1, sJ (own_jd jz), .second, sI 0, sJ (((own_jd jz) - (0 : Int64)) - (1 : Int64)), .second, sI 0] [(.int (XT.cmpL (own_jd jz) (1073741822 : Int64)))])) (fun _ q => X641.ldc2Long hx hown (mvT hZ (w216 hw)) (g := (mkF m 89 #[sR a, sI 2, sI 1, sI 4, sI 1, sJ (own_jd jz), .second, sI 0, sJ (((own_jd jz) - (0 : Int64)) - (1 : Int64)), .second, sI 0] [(.long (own_jd jz))])) rfl (D 47) _ (XT.lcmp X641.here hx rfl (D 48) rfl q)) ?_
      have hc643 : ¬ ((1073741822 : Int64) < (own_jd jz)) := (own_jdb hjd).2.2.1
      refine own_step (g' := (mkF m 106 #[sR a, sI 2, sI 1, sI 4, sI 1, sJ (own_jd jz), .second, sI 0, sJ (((own_jd jz) - (0 : Int64)) - (1 : Int64)), .second, sI 0] [(.int (XT.cmpL ((1 : Int64) - (own_jd jz)) (16383 : Int64)))])) (fun _ q => XS.ifNo X641.here hx rfl (D 49) rfl (XT.ll_gt_f hc643) (XS.iload X641.here hx rfl (D 50) rfl (XT.i2l X641.here hx rfl (D 51) rfl (XT.lload X641.here hx rfl (D 52) rfl (XT.lsub X641.here hx rfl (D 53) rfl (X641.ldc2Long hx hown (mvT hZ (w217 hw)) (g := (mkF m 102 #[sR a, sI 2, sI 1, sI 4, sI 1, sJ (own_jd jz), .second, sI 0, sJ (((own_jd jz) - (0 : Int64)) - (1 : Int64)), .second, sI 0] [(.long ((1 : Int64) - (own_jd jz)))])) rfl (D 54) _ (XT.lcmp X641.here hx rfl (D 55) rfl q))))))) ?_
      have hc644 : ¬ ((16383 : Int64) < ((1 : Int64) - (own_jd jz))) := (own_jdb hjd).2.2.2.1
      refine own_step (g' := (mkF m 120 #[sR a, sI 2, sI 1, sI 4, sI 1, sJ (own_jd jz), .second, sI 0, sJ (((own_jd jz) - (0 : Int64)) - (1 : Int64)), .second, sI 0] [(.int (XT.cmpL (((own_jd jz) - (0 : Int64)) - (1 : Int64)) (131071 : Int64)))])) (fun _ q => XS.ifNo X641.here hx rfl (D 56) rfl (XT.ll_gt_f hc644) (XS.iload X641.here hx rfl (D 57) rfl (XS.ifNo X641.here hx rfl (D 58) rfl (by decide) (XT.lload X641.here hx rfl (D 59) rfl (X641.ldc2Long hx hown (mvT hZ (w218 hw)) (g := (mkF m 116 #[sR a, sI 2, sI 1, sI 4, sI 1, sJ (own_jd jz), .second, sI 0, sJ (((own_jd jz) - (0 : Int64)) - (1 : Int64)), .second, sI 0] [(.long (((own_jd jz) - (0 : Int64)) - (1 : Int64)))])) rfl (D 60) _ (XT.lcmp X641.here hx rfl (D 61) rfl q)))))) ?_
      have hc645 : ¬ ((131071 : Int64) < (((own_jd jz) - (0 : Int64)) - (1 : Int64))) := (own_jdb hjd).2.2.2.2.2
      refine own_step (g' := (mkF m 128 #[sR a, sI 2, sI 1, sI 4, sI 1, sJ (own_jd jz), .second, sI 0, sJ (((own_jd jz) - (0 : Int64)) - (1 : Int64)), .second, sI 0] [(.int 1)])) (fun _ q => XS.ifNo X641.here hx rfl (D 62) rfl (XT.ll_gt_f hc645) (XS.iconst X641.here hx rfl (D 63) (XS.goto X641.here hx rfl (pc0 := 124) (pc' := 128) rfl (D 64) (by decide) (by decide) q))) ?_
      exact own_retN X641 hx hrt (by simp) (D 65) hlk ⟨rfl, N642, e641⟩ (by decide) (by decide)
  · refine own_step (g' := (mkF m 25 #[sR a, sI 2, sI 1, sI 4, sI 1, sJ (own_jd jz), .second, sI 0, sJ ((0 : Int64) + (own_jd jz)), .second, .unset] [])) (fun _ q => XS.icmpNo X630.here hx rfl (D 5) rfl (XT.ii_eq_f hc632) (XS.iconst X630.here hx rfl (D 6) (XS.istore X630.here hx rfl (D 7) rfl (l' := #[sR a, sI 2, sI 1, sI 4, sI 1, sJ (own_jd jz), .second, sI 0, .unset, .unset, .unset]) rfl (XS.iloadN X630.here hx rfl (D 8) rfl (XS.iconst X630.here hx rfl (D 9) (XS.isub X630.here hx rfl (D 10) rfl (XT.i2l X630.here hx rfl (D 11) rfl (XT.lload X630.here hx rfl (D 12) rfl (XT.ladd X630.here hx rfl (D 13) rfl (XT.lstore X630.here hx rfl (D 14) rfl (l' := #[sR a, sI 2, sI 1, sI 4, sI 1, sJ (own_jd jz), .second, sI 0, sJ ((0 : Int64) + (own_jd jz)), .second, .unset]) rfl q)))))))))) ?_
    refine own_step (g' := (mkF m 86 #[sR a, sI 2, sI 1, sI 4, sI 1, sJ (own_jd jz), .second, sI 0, sJ ((0 : Int64) + (own_jd jz)), .second, .unset] [(.long (own_jd jz))])) (fun _ q => XS.goto X630.here hx rfl (pc0 := 25) (pc' := 84) rfl (D 15) (by decide) (by decide) (XT.lload X630.here hx rfl (D 45) rfl q)) ?_
    refine own_callS X630 hx hZ hown (w213 hw) (w214 hw) (w115 hw) (w215 hw) (by decide) (own_bO (W := 0) (own_absJ l Z a0 hw [] (own_jd jz) h0 n0 Z0 ((own_jdb hjd).1 : ¬ (own_jd jz) < (0 : Int64))) hZ (w215 hw) (w115 hw) rfl rfl) e630  (by decide) (by decide) (argsL := [(.long (own_jd jz))]) (rest := []) rfl hml.symm (lenOf pd_25 rfl) rfl rfl (own_w0 rfl rfl) (D 46) ?_
    rintro _ T646 L646 X646 ⟨rfl, N646q, e646⟩
    have N647 := Fr.app N631 N646q
    refine own_step (g' := (mkF m 93 #[sR a, sI 2, sI 1, sI 4, sI 1, sJ (own_jd jz), .second, sI 0, sJ ((0 : Int64) + (own_jd jz)), .second, .unset] [(.int (XT.cmpL (own_jd jz) (1073741822 : Int64)))])) (fun _ q => X646.ldc2Long hx hown (mvT hZ (w216 hw)) (g := (mkF m 89 #[sR a, sI 2, sI 1, sI 4, sI 1, sJ (own_jd jz), .second, sI 0, sJ ((0 : Int64) + (own_jd jz)), .second, .unset] [(.long (own_jd jz))])) rfl (D 47) _ (XT.lcmp X646.here hx rfl (D 48) rfl q)) ?_
    have hc648 : ¬ ((1073741822 : Int64) < (own_jd jz)) := (own_jdb hjd).2.2.1
    refine own_step (g' := (mkF m 106 #[sR a, sI 2, sI 1, sI 4, sI 1, sJ (own_jd jz), .second, sI 0, sJ ((0 : Int64) + (own_jd jz)), .second, .unset] [(.int (XT.cmpL ((1 : Int64) - (own_jd jz)) (16383 : Int64)))])) (fun _ q => XS.ifNo X646.here hx rfl (D 49) rfl (XT.ll_gt_f hc648) (XS.iload X646.here hx rfl (D 50) rfl (XT.i2l X646.here hx rfl (D 51) rfl (XT.lload X646.here hx rfl (D 52) rfl (XT.lsub X646.here hx rfl (D 53) rfl (X646.ldc2Long hx hown (mvT hZ (w217 hw)) (g := (mkF m 102 #[sR a, sI 2, sI 1, sI 4, sI 1, sJ (own_jd jz), .second, sI 0, sJ ((0 : Int64) + (own_jd jz)), .second, .unset] [(.long ((1 : Int64) - (own_jd jz)))])) rfl (D 54) _ (XT.lcmp X646.here hx rfl (D 55) rfl q))))))) ?_
    have hc649 : ¬ ((16383 : Int64) < ((1 : Int64) - (own_jd jz))) := (own_jdb hjd).2.2.2.1
    refine own_step (g' := (mkF m 120 #[sR a, sI 2, sI 1, sI 4, sI 1, sJ (own_jd jz), .second, sI 0, sJ ((0 : Int64) + (own_jd jz)), .second, .unset] [(.int (XT.cmpL ((0 : Int64) + (own_jd jz)) (131071 : Int64)))])) (fun _ q => XS.ifNo X646.here hx rfl (D 56) rfl (XT.ll_gt_f hc649) (XS.iload X646.here hx rfl (D 57) rfl (XS.ifNo X646.here hx rfl (D 58) rfl (by decide) (XT.lload X646.here hx rfl (D 59) rfl (X646.ldc2Long hx hown (mvT hZ (w218 hw)) (g := (mkF m 116 #[sR a, sI 2, sI 1, sI 4, sI 1, sJ (own_jd jz), .second, sI 0, sJ ((0 : Int64) + (own_jd jz)), .second, .unset] [(.long ((0 : Int64) + (own_jd jz)))])) rfl (D 60) _ (XT.lcmp X646.here hx rfl (D 61) rfl q)))))) ?_
    have hc650 : ¬ ((131071 : Int64) < ((0 : Int64) + (own_jd jz))) := (own_jdb hjd).2.2.2.2.1
    refine own_step (g' := (mkF m 128 #[sR a, sI 2, sI 1, sI 4, sI 1, sJ (own_jd jz), .second, sI 0, sJ ((0 : Int64) + (own_jd jz)), .second, .unset] [(.int 1)])) (fun _ q => XS.ifNo X646.here hx rfl (D 62) rfl (XT.ll_gt_f hc650) (XS.iconst X646.here hx rfl (D 63) (XS.goto X646.here hx rfl (pc0 := 124) (pc' := 128) rfl (D 64) (by decide) (by decide) q))) ?_
    exact own_retN X646 hx hrt (by simp) (D 65) hlk ⟨rfl, N647, e646⟩ (by decide) (by decide)
theorem pd_26 : parseMethodDescriptor "(IIIIJ)Z" = some ⟨[.int, .int, .int, .int, .long], some .boolean⟩ := by decide +kernel
def Q_own_numA (Z : State) (G1 : Int32) (G3 : Value) (a tx t : Addr) (kb : ClassId) (cd N2 : Int32) (vs : List Value) (cs : List Int32) (pn nd : Nat) (h0 : Heap) (n0 : Nat) (v : Option Value) (h : Heap) (L : List Loc) : Prop := v = none ∧ Fr n0 L ∧ Keep h0 h [a] ∧ own_Ea Z h a ∧ own_Ft Z h a (.ref tx) ∧ own_Fp Z h a (.int (Int32.ofNat (pn + nd)))
set_option maxRecDepth 65536 in
set_option maxHeartbeats 40000000 in
theorem own_numA (l : Launch) (Z : State) (a0 : Array Value) (hw : own_HW a0 Z) (ws : List Jvm.Cond) (G1 : Int32) (G3 : Value) (a tx t : Addr) (kb : ClassId) (cd N2 : Int32) (vs : List Value) (cs : List Int32) (pn nd : Nat) (h0 : Heap) (n0 : Nat) (Z0 : n0 ≤ h0.size) (O2 : own_O2 Z G1) (O4 : own_O4 Z G3) (P5 : ¬ (G1 = (0 : Int32))) (rG3 : G3.isRef = true) (OLD0 : Old Z n0 h0) (U1 : own_U0 Z) (U2 : own_U1 Z) (U3 : own_U2 Z) (E_a : own_Ea Z h0 a) (F_text_a : own_Ft Z h0 a (.ref tx)) (F_pos_a : own_Fp Z h0 a (.int (Int32.ofNat pn))) (E_tx : own_Es Z h0 tx) (F_value_tx : own_Sv Z h0 tx (.ref t)) (F_coder_tx : own_Sc Z h0 tx (.int cd)) (V_t : Arv Z h0 t kb .byte N2 vs (.int 0)) (hcod : StrChars.Road.CodA cs cd N2 vs) (hcs : own_R16 cs) (h8 : cs.length = 8) (ge_a : n0 ≤ a) (h1 : 1 ≤ nd) (hnd8 : pn + nd < 8) (hdg : ∀ i, i < nd → ¬ cs.getD (pn + i) 0 < (48 : Int32) ∧ ¬ (57 : Int32) < cs.getD (pn + i) 0) (h48 : cs.getD pn 0 = (48 : Int32) → nd = 1) (hen : ¬ (¬ cs.getD (pn + nd) 0 < (48 : Int32) ∧ ¬ (57 : Int32) < cs.getD (pn + nd) 0)) (h46 : ¬ cs.getD (pn + nd) 0 = (46 : Int32)) (h101 : ¬ cs.getD (pn + nd) 0 = (101 : Int32)) (h69 : ¬ cs.getD (pn + nd) 0 = (69 : Int32)) :
    own_Met l Z ⟨"com/example/tote/tote/JsonText", "number", "()V"⟩ prog_12_method_9_code 10 none ws ⟨6, 0, 0, 88⟩ #[(.ref a)] h0 (Q_own_numA Z G1 G3 a tx t kb cd N2 vs cs pn nd h0 n0) := by
  refine own_bodyN (g0 := fun m => mkF m 0 #[sR a, .unset, .unset, .unset, .unset, .unset, .unset, .unset, .unset, .unset] []) (plainFor_of_name pn_4) (fun _ => rfl) ?_
  intro p e s m below meth c s₁ hx hby hml hrt hlk hown hnm hZ e0 X0
  have D := own_d hby kD45
  have ty_a_tx : a ≠ tx := (Exa.ne E_a E_tx (by decide))
  have ty_a_t : a ≠ t := (Exa.neArv E_a V_t (w50 hw))
  have ty_tx_t : tx ≠ t := (Exa.neArv E_tx V_t (w10 hw))
  refine own_step (g' := (mkF m 1 #[sR a, .unset, .unset, .unset, .unset, .unset, .unset, .unset, .unset, .unset] [(.ref a)])) (fun _ q => XS.aloadN X0.here hx rfl (D 0) rfl rfl q) ?_
  refine own_gF X0 hx hZ hown (w61 hw) e0 F_pos_a rfl rfl (D 1) fun T651 X651 e651 => ?_
  refine own_step (g' := (mkF m 8 #[sR a, sI (Int32.ofNat pn), .unset, .unset, .unset, .unset, .unset, .unset, .unset, .unset] [(.int 45), (.ref a)])) (fun _ q => XS.istoreN X651.here hx rfl (D 2) rfl (l' := #[sR a, sI (Int32.ofNat pn), .unset, .unset, .unset, .unset, .unset, .unset, .unset, .unset]) rfl (XS.aloadN X651.here hx rfl (D 3) rfl rfl (XS.bipush X651.here hx rfl (D 4) q))) ?_
  refine own_callQ X651 hx hZ hown (w201 hw) (w202 hw) (w50 hw) (w203 hw) (w204 hw) (by decide) (own_bO (W := 0) (own_nx0 l Z a0 hw [] G1 G3 a tx t kb cd N2 vs cs pn (45 : Int32) h0 n0 Z0 O2 O4 P5 rG3 OLD0 U1 U2 U3 E_a F_text_a F_pos_a E_tx F_value_tx F_coder_tx V_t hcod hcs h8 (by omega : pn < 8) ((own_dgn (hdg 0 h1)).1 : ¬ cs.getD pn 0 = (45 : Int32))) hZ (w204 hw) (w40 hw) rfl rfl) e651 E_a  (by decide) (by decide) (argsL := [(.int (45 : Int32))]) (rest := []) rfl hml.symm (lenOf pd_16 rfl) rfl rfl (own_w0 rfl rfl) (D 5) ?_
  rintro _ T652 L652 X652 ⟨rfl, N652q, e652⟩
  have N653 := Fr.app (Fr.nil n0) N652q
  refine own_step (g' := (mkF m 13 #[sR a, sI (Int32.ofNat pn), .unset, .unset, .unset, .unset, .unset, .unset, .unset, .unset] [(.ref a)])) (fun _ q => XT.pop X652.here hx rfl (D 6) rfl rfl (XS.aloadN X652.here hx rfl (D 7) rfl rfl q)) ?_
  refine own_gF X652 hx hZ hown (w61 hw) e652 F_pos_a rfl rfl (D 8) fun T654 X654 e654 => ?_
  refine own_step (g' := (mkF m 17 #[sR a, sI (Int32.ofNat pn), sI (Int32.ofNat pn), .unset, .unset, .unset, .unset, .unset, .unset, .unset] [])) (fun _ q => XS.istoreN X654.here hx rfl (D 9) rfl (l' := #[sR a, sI (Int32.ofNat pn), sI (Int32.ofNat pn), .unset, .unset, .unset, .unset, .unset, .unset, .unset]) rfl q) ?_
  have lp_n84 : ∀  (T_n84 : State) (h_n84 : Heap) (L_n84 : List Loc) (X_n84 : Stand p l e (⟨6, 0, 0, 88⟩ : Room) s m #[(.ref a)] below meth c T_n84 L_n84 (0 + 0) (0 + 0)) (e_n84 : T_n84.heap = h_n84) (N_n84 : Fr n0 L_n84) (KL_n84 : Keep h0 h_n84 [a]) (g0_n84 : own_Ea Z h_n84 a) (g1_n84 : own_Ft Z h_n84 a (.ref tx)) (g2_n84 : own_Fp Z h_n84 a (.int (Int32.ofNat (pn + nd)))) , own_Fin p e below (own_G s (Q_own_numA Z G1 G3 a tx t kb cd N2 vs cs pn nd h0 n0) (⟨6, 0, 0, 88⟩ : Room).cells (⟨6, 0, 0, 88⟩ : Room).slots) T_n84 (mkF m 84 #[sR a, sI (Int32.ofNat pn), sI (Int32.ofNat pn), .unset, .unset, .unset, .unset, .unset, .unset, .unset] []) := by
    intro  T_n84 h_n84 L_n84 X_n84 e_n84 N_n84 KL_n84 g0_n84 g1_n84 g2_n84 
    refine own_step (g' := (mkF m 85 #[sR a, sI (Int32.ofNat pn), sI (Int32.ofNat pn), .unset, .unset, .unset, .unset, .unset, .unset, .unset] [(.ref a)])) (fun _ q => XS.aloadN X_n84.here hx rfl (D 36) rfl rfl q) ?_
    refine own_gF X_n84 hx hZ hown (w61 hw) e_n84 g2_n84 rfl rfl (D 37) fun T655 X655 e655 => ?_
    refine own_step (g' := (mkF m 90 #[sR a, sI (Int32.ofNat pn), sI (Int32.ofNat pn), .unset, .unset, .unset, .unset, .unset, .unset, .unset] [(.int ((Int32.ofNat (pn + nd)) - (Int32.ofNat pn)))])) (fun _ q => XS.iloadN X655.here hx rfl (D 38) rfl (XS.isub X655.here hx rfl (D 39) rfl q)) ?_
    rw [show ((Int32.ofNat (pn + nd)) - (Int32.ofNat pn)) = (Int32.ofNat nd) from (own_subN52 _ _)]
    refine own_step (g' := (mkF m 92 #[sR a, sI (Int32.ofNat pn), sI (Int32.ofNat pn), sI (Int32.ofNat nd), .unset, .unset, .unset, .unset, .unset, .unset] [(.ref a)])) (fun _ q => XS.istoreN X655.here hx rfl (D 40) rfl (l' := #[sR a, sI (Int32.ofNat pn), sI (Int32.ofNat pn), sI (Int32.ofNat nd), .unset, .unset, .unset, .unset, .unset, .unset]) rfl (XS.aloadN X655.here hx rfl (D 41) rfl rfl q)) ?_
    refine own_gF X655 hx hZ hown (w61 hw) e655 g2_n84 rfl rfl (D 42) fun T656 X656 e656 => ?_
    refine own_step (g' := (mkF m 103 #[sR a, sI (Int32.ofNat pn), sI (Int32.ofNat pn), sI (Int32.ofNat nd), sI (Int32.ofNat (pn + nd)), sI 0, .unset, .unset, .unset, .unset] [(.int 46), (.ref a)])) (fun _ q => XS.istore X656.here hx rfl (D 43) rfl (l' := #[sR a, sI (Int32.ofNat pn), sI (Int32.ofNat pn), sI (Int32.ofNat nd), sI (Int32.ofNat (pn + nd)), .unset, .unset, .unset, .unset, .unset]) rfl (XS.iconst X656.here hx rfl (D 44) (XS.istore X656.here hx rfl (D 45) rfl (l' := #[sR a, sI (Int32.ofNat pn), sI (Int32.ofNat pn), sI (Int32.ofNat nd), sI (Int32.ofNat (pn + nd)), sI 0, .unset, .unset, .unset, .unset]) rfl (XS.aloadN X656.here hx rfl (D 46) rfl rfl (XS.bipush X656.here hx rfl (D 47) q))))) ?_
    have c657 := (OLD0.keep KL_n84 (allS ge_a all0))
    have c658 := (E_tx.keep KL_n84)
    have c659 := (F_value_tx.keep KL_n84 (ninS (Ne.symm ty_a_tx) nin0))
    have c660 := (F_coder_tx.keep KL_n84 (ninS (Ne.symm ty_a_tx) nin0))
    have c661 := (V_t.keep KL_n84 (ninS (Ne.symm ty_a_t) nin0))
    have c662 := (Nat.le_trans Z0 KL_n84.1)
    refine own_callQ X656 hx hZ hown (w201 hw) (w202 hw) (w50 hw) (w203 hw) (w204 hw) (by decide) (own_bO (W := 0) (own_nx0 l Z a0 hw [] G1 G3 a tx t kb cd N2 vs cs (pn + nd) (46 : Int32) h_n84 n0 c662 O2 O4 P5 rG3 c657 U1 U2 U3 g0_n84 g1_n84 g2_n84 c658 c659 c660 c661 hcod hcs h8 (by omega : (pn + nd) < 8) (h46 : ¬ cs.getD (pn + nd) 0 = (46 : Int32))) hZ (w204 hw) (w40 hw) rfl rfl) e656 g0_n84  (by decide) (by decide) (argsL := [(.int (46 : Int32))]) (rest := []) rfl hml.symm (lenOf pd_16 rfl) rfl rfl (own_w0 rfl rfl) (D 48) ?_
    rintro _ T663 L663 X663 ⟨rfl, N663q, e663⟩
    have N664 := Fr.app N_n84 N663q
    refine own_step (g' := (mkF m 147 #[sR a, sI (Int32.ofNat pn), sI (Int32.ofNat pn), sI (Int32.ofNat nd), sI (Int32.ofNat (pn + nd)), sI 0, sJ 0, .second, .unset, .unset] [(.int 101), (.ref a)])) (fun _ q => XS.ifYes X663.here hx rfl (pc0 := 106) (pc' := 141) rfl (D 49) rfl (by decide) (by decide) (by decide) (XT.lconst X663.here hx rfl (D 62) (XT.lstore X663.here hx rfl (D 63) rfl (l' := #[sR a, sI (Int32.ofNat pn), sI (Int32.ofNat pn), sI (Int32.ofNat nd), sI (Int32.ofNat (pn + nd)), sI 0, sJ 0, .second, .unset, .unset]) rfl (XS.aloadN X663.here hx rfl (D 64) rfl rfl (XS.bipush X663.here hx rfl (D 65) q))))) ?_
    refine own_callQ X663 hx hZ hown (w201 hw) (w202 hw) (w50 hw) (w203 hw) (w204 hw) (by decide) (own_bO (W := 0) (own_nx0 l Z a0 hw [] G1 G3 a tx t kb cd N2 vs cs (pn + nd) (101 : Int32) h_n84 n0 c662 O2 O4 P5 rG3 c657 U1 U2 U3 g0_n84 g1_n84 g2_n84 c658 c659 c660 c661 hcod hcs h8 (by omega : (pn + nd) < 8) (h101 : ¬ cs.getD (pn + nd) 0 = (101 : Int32))) hZ (w204 hw) (w40 hw) rfl rfl) e663 g0_n84  (by decide) (by decide) (argsL := [(.int (101 : Int32))]) (rest := []) rfl hml.symm (lenOf pd_16 rfl) rfl rfl (own_w0 rfl rfl) (D 66) ?_
    rintro _ T665 L665 X665 ⟨rfl, N665q, e665⟩
    have N666 := Fr.app N664 N665q
    refine own_step (g' := (mkF m 156 #[sR a, sI (Int32.ofNat pn), sI (Int32.ofNat pn), sI (Int32.ofNat nd), sI (Int32.ofNat (pn + nd)), sI 0, sJ 0, .second, .unset, .unset] [(.int 69), (.ref a)])) (fun _ q => XS.ifNo X665.here hx rfl (D 67) rfl (by decide) (XS.aloadN X665.here hx rfl (D 68) rfl rfl (XS.bipush X665.here hx rfl (D 69) q))) ?_
    refine own_callQ X665 hx hZ hown (w201 hw) (w202 hw) (w50 hw) (w203 hw) (w204 hw) (by decide) (own_bO (W := 0) (own_nx0 l Z a0 hw [] G1 G3 a tx t kb cd N2 vs cs (pn + nd) (69 : Int32) h_n84 n0 c662 O2 O4 P5 rG3 c657 U1 U2 U3 g0_n84 g1_n84 g2_n84 c658 c659 c660 c661 hcod hcs h8 (by omega : (pn + nd) < 8) (h69 : ¬ cs.getD (pn + nd) 0 = (69 : Int32))) hZ (w204 hw) (w40 hw) rfl rfl) e665 g0_n84  (by decide) (by decide) (argsL := [(.int (69 : Int32))]) (rest := []) rfl hml.symm (lenOf pd_16 rfl) rfl rfl (own_w0 rfl rfl) (D 70) ?_
    rintro _ T667 L667 X667 ⟨rfl, N667q, e667⟩
    have N668 := Fr.app N666 N667q
    refine own_step (g' := (mkF m 304 #[sR a, sI (Int32.ofNat pn), sI (Int32.ofNat pn), sI (Int32.ofNat nd), sI (Int32.ofNat (pn + nd)), sI 0, sJ 0, .second, .unset, .unset] [(.long 0), (.int 0), (.int (Int32.ofNat (pn + nd))), (.int (Int32.ofNat nd)), (.int (Int32.ofNat pn)), (.ref a)])) (fun _ q => XS.ifYes X667.here hx rfl (pc0 := 159) (pc' := 295) rfl (D 71) rfl (by decide) (by decide) (by decide) (XS.aloadN X667.here hx rfl (D 128) rfl rfl (XS.iloadN X667.here hx rfl (D 129) rfl (XS.iloadN X667.here hx rfl (D 130) rfl (XS.iload X667.here hx rfl (D 131) rfl (XS.iload X667.here hx rfl (D 132) rfl (XT.lload X667.here hx rfl (D 133) rfl q))))))) ?_
    refine own_callQ X667 hx hZ hown (w209 hw) (w210 hw) (w50 hw) (w211 hw) (w212 hw) (by decide) (own_bO (W := 0) (own_fitA l Z a0 hw [] G1 G3 a tx t kb cd N2 vs cs pn nd (Int32.ofNat (pn + nd)) h_n84 n0 c662 O2 O4 P5 rG3 c657 U1 U2 U3 g0_n84 g1_n84 c658 c659 c660 c661 hcod hcs h8 (by omega : pn < 8) h1 (by omega : nd ≤ 8)) hZ (w212 hw) (w40 hw) rfl rfl) e667 g0_n84  (by decide) (by decide) (argsL := [(.int (Int32.ofNat pn)), (.int (Int32.ofNat nd)), (.int (Int32.ofNat (pn + nd))), (.int (0 : Int32)), (.long (0 : Int64))]) (rest := []) rfl hml.symm (lenOf pd_26 rfl) rfl rfl (own_w0 rfl rfl) (D 134) ?_
    rintro _ T669 L669 X669 ⟨rfl, N669q, e669⟩
    have N670 := Fr.app N668 N669q
    refine own_step (g' := (mkF m 318 #[sR a, sI (Int32.ofNat pn), sI (Int32.ofNat pn), sI (Int32.ofNat nd), sI (Int32.ofNat (pn + nd)), sI 0, sJ 0, .second, .unset, .unset] [])) (fun _ q => XS.ifYes X669.here hx rfl (pc0 := 307) (pc' := 318) rfl (D 135) rfl (by decide) (by decide) (by decide) q) ?_
    have c671 := ((Keep.refl h0 [a]).trans KL_n84 (allS (Or.inl (List.mem_of_getElem? (i := 0) rfl)) all0))
    exact own_retV X669 hx hrt (D 136) hlk (by rw [e669]; exact ⟨rfl, N670, c671, g0_n84, g1_n84, g2_n84⟩) (by decide) (by decide)
  refine own_step (g' := (mkF m 20 #[sR a, sI (Int32.ofNat pn), sI (Int32.ofNat pn), .unset, .unset, .unset, .unset, .unset, .unset, .unset] [(.int 48), (.ref a)])) (fun _ q => XS.aloadN X654.here hx rfl (D 10) rfl rfl (XS.bipush X654.here hx rfl (D 11) q)) ?_
  by_cases h48c : cs.getD pn 0 = (48 : Int32)
  · refine own_callQ X654 hx hZ hown (w201 hw) (w202 hw) (w50 hw) (w203 hw) (w204 hw) (by decide) (own_bO (W := 0) (own_nx1 l Z a0 hw [] G1 G3 a tx t kb cd N2 vs cs pn (48 : Int32) h0 n0 Z0 O2 O4 P5 rG3 OLD0 U1 U2 U3 E_a F_text_a F_pos_a E_tx F_value_tx F_coder_tx V_t hcod hcs h8 ge_a (by omega : pn < 8) (h48c : cs.getD pn 0 = (48 : Int32))) hZ (w204 hw) (w40 hw) rfl rfl) e654 E_a  (by decide) (by decide) (argsL := [(.int (48 : Int32))]) (rest := []) rfl hml.symm (lenOf pd_16 rfl) rfl rfl (own_w0 rfl rfl) (D 12) ?_
    rintro _ T672 L672 X672 ⟨rfl, N672q, K672, f0_672, f1_672, f2_672⟩
    have N673 := Fr.app N653 N672q
    have qF674 : ((.int (Int32.ofNat (pn + 1))) : Value) = (.int (Int32.ofNat (pn + nd))) := (by rw [h48 h48c])
    have F674 : own_Fp Z T672.heap a (.int (Int32.ofNat (pn + nd))) := own_fixf qF674 f2_672
    refine own_step (g' := (mkF m 84 #[sR a, sI (Int32.ofNat pn), sI (Int32.ofNat pn), .unset, .unset, .unset, .unset, .unset, .unset, .unset] [])) (fun _ q => XS.ifYes X672.here hx rfl (pc0 := 23) (pc' := 84) rfl (D 13) rfl (by decide) (by decide) (by decide) q) ?_
    have c675 := ((Keep.refl h0 [a]).trans K672 (allS (Or.inl (List.mem_of_getElem? (i := 0) rfl)) all0))
    exact lp_n84  T672 T672.heap _ X672 rfl N673 c675 f0_672 f1_672 F674 
  · refine own_callQ X654 hx hZ hown (w201 hw) (w202 hw) (w50 hw) (w203 hw) (w204 hw) (by decide) (own_bO (W := 0) (own_nx0 l Z a0 hw [] G1 G3 a tx t kb cd N2 vs cs pn (48 : Int32) h0 n0 Z0 O2 O4 P5 rG3 OLD0 U1 U2 U3 E_a F_text_a F_pos_a E_tx F_value_tx F_coder_tx V_t hcod hcs h8 (by omega : pn < 8) (h48c : ¬ cs.getD pn 0 = (48 : Int32))) hZ (w204 hw) (w40 hw) rfl rfl) e654 E_a  (by decide) (by decide) (argsL := [(.int (48 : Int32))]) (rest := []) rfl hml.symm (lenOf pd_16 rfl) rfl rfl (own_w0 rfl rfl) (D 12) ?_
    rintro _ T676 L676 X676 ⟨rfl, N676q, e676⟩
    have N677 := Fr.app N653 N676q
    refine own_step (g' := (mkF m 27 #[sR a, sI (Int32.ofNat pn), sI (Int32.ofNat pn), .unset, .unset, .unset, .unset, .unset, .unset, .unset] [(.ref a)])) (fun _ q => XS.ifNo X676.here hx rfl (D 13) rfl (by decide) (XS.aloadN X676.here hx rfl (D 14) rfl rfl q)) ?_
    refine own_gF X676 hx hZ hown (w61 hw) e676 F_pos_a rfl rfl (D 15) fun T678 X678 e678 => ?_
    refine own_step (g' := (mkF m 31 #[sR a, sI (Int32.ofNat pn), sI (Int32.ofNat pn), .unset, .unset, .unset, .unset, .unset, .unset, .unset] [(.ref a), (.int (Int32.ofNat pn))])) (fun _ q => XS.aloadN X678.here hx rfl (D 16) rfl rfl q) ?_
    refine own_gF X678 hx hZ hown (w55 hw) e678 F_text_a rfl rfl (D 17) fun T679 X679 e679 => ?_
    refine own_callV X679 hx hZ hown (w63 hw) (w64 hw) (notFace_of_selects (args := #[]) (mvT hZ (w66 hw))) (w66 hw) (w65 hw) (by decide) (own_bO (W := 1) (own_l8 l Z a0 hw [] G1 G3 tx t kb cd N2 vs cs h0 n0 Z0 O2 O4 P5 rG3 OLD0 E_tx F_value_tx F_coder_tx V_t hcod hcs h8) hZ (w67 hw) (w11 hw) rfl rfl) e679 E_tx  (by decide) (by decide) (argsL := []) (rest := [(.int (Int32.ofNat pn))]) rfl hml.symm (lenOf pd_14 rfl) rfl rfl (own_w0 rfl rfl) (D 18) ?_
    rintro _ T680 L680 X680 ⟨rfl, N680q, e680⟩
    have N681 := Fr.app N677 N680q
    have hc682 : ((Int32.ofNat pn) < (8 : Int32)) := (own_lt8 (by omega))
    refine own_step (g' := (mkF m 41 #[sR a, sI (Int32.ofNat pn), sI (Int32.ofNat pn), .unset, .unset, .unset, .unset, .unset, .unset, .unset] [(.ref a)])) (fun _ q => XS.icmpNo X680.here hx rfl (D 19) rfl (XT.ii_ge_f hc682) (XS.aloadN X680.here hx rfl (D 20) rfl rfl q)) ?_
    refine own_gF X680 hx hZ hown (w55 hw) e680 F_text_a rfl rfl (D 21) fun T683 X683 e683 => ?_
    refine own_step (g' := (mkF m 45 #[sR a, sI (Int32.ofNat pn), sI (Int32.ofNat pn), .unset, .unset, .unset, .unset, .unset, .unset, .unset] [(.ref a), (.ref tx)])) (fun _ q => XS.aloadN X683.here hx rfl (D 22) rfl rfl q) ?_
    refine own_gF X683 hx hZ hown (w61 hw) e683 F_pos_a rfl rfl (D 23) fun T684 X684 e684 => ?_
    refine own_callV X684 hx hZ hown (w74 hw) (w75 hw) (notFace_of_selects (args := #[]) (mvT hZ (w77 hw))) (w77 hw) (w76 hw) (by decide) (own_bO (W := 0) (own_char l Z a0 hw [] G1 G3 tx t kb cd N2 vs cs pn h0 n0 Z0 O2 O4 P5 rG3 OLD0 U1 U2 U3 E_tx F_value_tx F_coder_tx V_t hcod hcs (by omega : cs.length ≤ 400) (by omega : pn < cs.length)) hZ (w78 hw) (w11 hw) rfl rfl) e684 E_tx  (by decide) (by decide) (argsL := [(.int (Int32.ofNat pn))]) (rest := []) rfl hml.symm (lenOf pd_15 rfl) rfl rfl (own_w0 rfl rfl) (D 24) ?_
    rintro _ T685 L685 X685 ⟨rfl, N685q, e685⟩
    have N686 := Fr.app N681 N685q
    refine own_step (g' := (mkF m 53 #[sR a, sI (Int32.ofNat pn), sI (Int32.ofNat pn), .unset, .unset, .unset, .unset, .unset, .unset, .unset] [(.int 49), (.int (cs.getD pn 0))])) (fun _ q => XS.bipush X685.here hx rfl (D 25) q) ?_
    have hc687 : ¬ ((cs.getD pn 0) < (49 : Int32)) := (own_d49 (hdg 0 h1) h48c)
    refine own_step (g' := (mkF m 57 #[sR a, sI (Int32.ofNat pn), sI (Int32.ofNat pn), .unset, .unset, .unset, .unset, .unset, .unset, .unset] [(.ref a)])) (fun _ q => XS.icmpNo X685.here hx rfl (D 26) rfl (XT.ii_lt_f hc687) (XS.aloadN X685.here hx rfl (D 27) rfl rfl q)) ?_
    refine own_gF X685 hx hZ hown (w55 hw) e685 F_text_a rfl rfl (D 28) fun T688 X688 e688 => ?_
    refine own_step (g' := (mkF m 61 #[sR a, sI (Int32.ofNat pn), sI (Int32.ofNat pn), .unset, .unset, .unset, .unset, .unset, .unset, .unset] [(.ref a), (.ref tx)])) (fun _ q => XS.aloadN X688.here hx rfl (D 29) rfl rfl q) ?_
    refine own_gF X688 hx hZ hown (w61 hw) e688 F_pos_a rfl rfl (D 30) fun T689 X689 e689 => ?_
    refine own_callV X689 hx hZ hown (w74 hw) (w75 hw) (notFace_of_selects (args := #[]) (mvT hZ (w77 hw))) (w77 hw) (w76 hw) (by decide) (own_bO (W := 0) (own_char l Z a0 hw [] G1 G3 tx t kb cd N2 vs cs pn h0 n0 Z0 O2 O4 P5 rG3 OLD0 U1 U2 U3 E_tx F_value_tx F_coder_tx V_t hcod hcs (by omega : cs.length ≤ 400) (by omega : pn < cs.length)) hZ (w78 hw) (w11 hw) rfl rfl) e689 E_tx  (by decide) (by decide) (argsL := [(.int (Int32.ofNat pn))]) (rest := []) rfl hml.symm (lenOf pd_15 rfl) rfl rfl (own_w0 rfl rfl) (D 31) ?_
    rintro _ T690 L690 X690 ⟨rfl, N690q, e690⟩
    have N691 := Fr.app N686 N690q
    refine own_step (g' := (mkF m 69 #[sR a, sI (Int32.ofNat pn), sI (Int32.ofNat pn), .unset, .unset, .unset, .unset, .unset, .unset, .unset] [(.int 57), (.int (cs.getD pn 0))])) (fun _ q => XS.bipush X690.here hx rfl (D 32) q) ?_
    have hc692 : ¬ ((57 : Int32) < (cs.getD pn 0)) := (hdg 0 h1).2
    refine own_step (g' := (mkF m 81 #[sR a, sI (Int32.ofNat pn), sI (Int32.ofNat pn), .unset, .unset, .unset, .unset, .unset, .unset, .unset] [(.ref a)])) (fun _ q => XS.icmpYes X690.here hx rfl (pc0 := 69) (pc' := 80) rfl (D 33) rfl (XT.ii_le_t hc692) (by decide) (by decide) (XS.aloadN X690.here hx rfl (D 34) rfl rfl q)) ?_
    refine own_callQ X690 hx hZ hown (w205 hw) (w206 hw) (w50 hw) (w207 hw) (w208 hw) (by decide) (own_bO (W := 0) (own_sd l Z a0 hw [] G1 G3 a tx t kb cd N2 vs cs pn nd h0 n0 Z0 O2 O4 P5 rG3 OLD0 U1 U2 U3 E_a F_text_a F_pos_a E_tx F_value_tx F_coder_tx V_t hcod hcs h8 ge_a hdg hen (hnd8 : pn + nd < 8)) hZ (w208 hw) (w40 hw) rfl rfl) e690 E_a  (by decide) (by decide) (argsL := []) (rest := []) rfl hml.symm (lenOf pd_22 rfl) rfl rfl (own_w0 rfl rfl) (D 35) ?_
    rintro _ T693 L693 X693 ⟨rfl, N693q, K693, f0_693, f1_693, f2_693⟩
    have N694 := Fr.app N691 N693q
    have c695 := ((Keep.refl h0 [a]).trans K693 (allS (Or.inl (List.mem_of_getElem? (i := 0) rfl)) all0))
    exact lp_n84  T693 T693.heap _ X693 rfl N694 c695 f0_693 f1_693 f2_693 
theorem pd_27 : parseMethodDescriptor "(JJ)J" = some ⟨[.long, .long], some .long⟩ := by decide +kernel
def Q_own_numB (Z : State) (G1 : Int32) (G3 : Value) (a tx t : Addr) (kb : ClassId) (cd N2 : Int32) (vs : List Value) (cs : List Int32) (pn : Nat) (h0 : Heap) (n0 : Nat) (v : Option Value) (h : Heap) (L : List Loc) : Prop := v = none ∧ Fr n0 L ∧ Keep h0 h [a] ∧ own_Ea Z h a ∧ own_Ft Z h a (.ref tx) ∧ own_Fp Z h a (.int (7 : Int32))
set_option maxRecDepth 65536 in
set_option maxHeartbeats 40000000 in
theorem own_numB (l : Launch) (Z : State) (a0 : Array Value) (hw : own_HW a0 Z) (ws : List Jvm.Cond) (G1 : Int32) (G3 : Value) (a tx t : Addr) (kb : ClassId) (cd N2 : Int32) (vs : List Value) (cs : List Int32) (pn : Nat) (h0 : Heap) (n0 : Nat) (Z0 : n0 ≤ h0.size) (O2 : own_O2 Z G1) (O4 : own_O4 Z G3) (P5 : ¬ (G1 = (0 : Int32))) (rG3 : G3.isRef = true) (OLD0 : Old Z n0 h0) (U1 : own_U0 Z) (U2 : own_U1 Z) (U3 : own_U2 Z) (E_a : own_Ea Z h0 a) (F_text_a : own_Ft Z h0 a (.ref tx)) (F_pos_a : own_Fp Z h0 a (.int (Int32.ofNat pn))) (E_tx : own_Es Z h0 tx) (F_value_tx : own_Sv Z h0 tx (.ref t)) (F_coder_tx : own_Sc Z h0 tx (.int cd)) (V_t : Arv Z h0 t kb .byte N2 vs (.int 0)) (hcod : StrChars.Road.CodA cs cd N2 vs) (hcs : own_R16 cs) (h8 : cs.length = 8) (ge_a : n0 ≤ a) (hsg : (cs.getD pn 0 = (45 : Int32) ∧ pn = 1) ∨ (¬ cs.getD pn 0 = (45 : Int32) ∧ pn = 2)) (hd2 : ¬ cs.getD 2 0 < (48 : Int32) ∧ ¬ (57 : Int32) < cs.getD 2 0) (h3 : cs.getD 3 0 = (46 : Int32)) (hd4 : ¬ cs.getD 4 0 < (48 : Int32) ∧ ¬ (57 : Int32) < cs.getD 4 0) (h5 : cs.getD 5 0 = (101 : Int32) ∨ cs.getD 5 0 = (69 : Int32)) (hd6 : ¬ cs.getD 6 0 < (48 : Int32) ∧ ¬ (57 : Int32) < cs.getD 6 0) (hn7 : ¬ (¬ cs.getD 7 0 < (48 : Int32) ∧ ¬ (57 : Int32) < cs.getD 7 0)) :
    own_Met l Z ⟨"com/example/tote/tote/JsonText", "number", "()V"⟩ prog_12_method_9_code 10 none ws ⟨6, 0, 0, 88⟩ #[(.ref a)] h0 (Q_own_numB Z G1 G3 a tx t kb cd N2 vs cs pn h0 n0) := by
  refine own_bodyN (g0 := fun m => mkF m 0 #[sR a, .unset, .unset, .unset, .unset, .unset, .unset, .unset, .unset, .unset] []) (plainFor_of_name pn_4) (fun _ => rfl) ?_
  intro p e s m below meth c s₁ hx hby hml hrt hlk hown hnm hZ e0 X0
  have D := own_d hby kD45
  have ty_a_tx : a ≠ tx := (Exa.ne E_a E_tx (by decide))
  have ty_a_t : a ≠ t := (Exa.neArv E_a V_t (w50 hw))
  have ty_tx_t : tx ≠ t := (Exa.neArv E_tx V_t (w10 hw))
  refine own_step (g' := (mkF m 1 #[sR a, .unset, .unset, .unset, .unset, .unset, .unset, .unset, .unset, .unset] [(.ref a)])) (fun _ q => XS.aloadN X0.here hx rfl (D 0) rfl rfl q) ?_
  refine own_gF X0 hx hZ hown (w61 hw) e0 F_pos_a rfl rfl (D 1) fun T696 X696 e696 => ?_
  refine own_step (g' := (mkF m 5 #[sR a, sI (Int32.ofNat pn), .unset, .unset, .unset, .unset, .unset, .unset, .unset, .unset] [])) (fun _ q => XS.istoreN X696.here hx rfl (D 2) rfl (l' := #[sR a, sI (Int32.ofNat pn), .unset, .unset, .unset, .unset, .unset, .unset, .unset, .unset]) rfl q) ?_
  have lp_n17 : ∀ (sv : Int32) (T_n17 : State) (h_n17 : Heap) (L_n17 : List Loc) (X_n17 : Stand p l e (⟨6, 0, 0, 88⟩ : Room) s m #[(.ref a)] below meth c T_n17 L_n17 0 0) (e_n17 : T_n17.heap = h_n17) (N_n17 : Fr n0 L_n17) (KL_n17 : Keep h0 h_n17 [a]) (g0_n17 : own_Ea Z h_n17 a) (g1_n17 : own_Ft Z h_n17 a (.ref tx)) (g2_n17 : own_Fp Z h_n17 a (.int (2 : Int32))) , own_Fin p e below (own_G s (Q_own_numB Z G1 G3 a tx t kb cd N2 vs cs pn h0 n0) (⟨6, 0, 0, 88⟩ : Room).cells (⟨6, 0, 0, 88⟩ : Room).slots) T_n17 (mkF m 17 #[sR a, sI sv, sI 2, .unset, .unset, .unset, .unset, .unset, .unset, .unset] []) := by
    intro sv T_n17 h_n17 L_n17 X_n17 e_n17 N_n17 KL_n17 g0_n17 g1_n17 g2_n17 
    have lp_n84 : ∀  (T_n84 : State) (h_n84 : Heap) (L_n84 : List Loc) (X_n84 : Stand p l e (⟨6, 0, 0, 88⟩ : Room) s m #[(.ref a)] below meth c T_n84 L_n84 0 0) (e_n84 : T_n84.heap = h_n84) (N_n84 : Fr n0 L_n84) (KL_n84 : Keep h_n17 h_n84 [a]) (g0_n84 : own_Ea Z h_n84 a) (g1_n84 : own_Ft Z h_n84 a (.ref tx)) (g2_n84 : own_Fp Z h_n84 a (.int (3 : Int32))) , own_Fin p e below (own_G s (Q_own_numB Z G1 G3 a tx t kb cd N2 vs cs pn h0 n0) (⟨6, 0, 0, 88⟩ : Room).cells (⟨6, 0, 0, 88⟩ : Room).slots) T_n84 (mkF m 84 #[sR a, sI sv, sI 2, .unset, .unset, .unset, .unset, .unset, .unset, .unset] []) := by
      intro  T_n84 h_n84 L_n84 X_n84 e_n84 N_n84 KL_n84 g0_n84 g1_n84 g2_n84 
      refine own_step (g' := (mkF m 85 #[sR a, sI sv, sI 2, .unset, .unset, .unset, .unset, .unset, .unset, .unset] [(.ref a)])) (fun _ q => XS.aloadN X_n84.here hx rfl (D 36) rfl rfl q) ?_
      refine own_gF X_n84 hx hZ hown (w61 hw) e_n84 g2_n84 rfl rfl (D 37) fun T697 X697 e697 => ?_
      refine own_step (g' := (mkF m 92 #[sR a, sI sv, sI 2, sI 1, .unset, .unset, .unset, .unset, .unset, .unset] [(.ref a)])) (fun _ q => XS.iloadN X697.here hx rfl (D 38) rfl (XS.isub X697.here hx rfl (D 39) rfl (XS.istoreN X697.here hx rfl (D 40) rfl (l' := #[sR a, sI sv, sI 2, sI 1, .unset, .unset, .unset, .unset, .unset, .unset]) rfl (XS.aloadN X697.here hx rfl (D 41) rfl rfl q)))) ?_
      refine own_gF X697 hx hZ hown (w61 hw) e697 g2_n84 rfl rfl (D 42) fun T698 X698 e698 => ?_
      refine own_step (g' := (mkF m 103 #[sR a, sI sv, sI 2, sI 1, sI 3, sI 0, .unset, .unset, .unset, .unset] [(.int 46), (.ref a)])) (fun _ q => XS.istore X698.here hx rfl (D 43) rfl (l' := #[sR a, sI sv, sI 2, sI 1, sI 3, .unset, .unset, .unset, .unset, .unset]) rfl (XS.iconst X698.here hx rfl (D 44) (XS.istore X698.here hx rfl (D 45) rfl (l' := #[sR a, sI sv, sI 2, sI 1, sI 3, sI 0, .unset, .unset, .unset, .unset]) rfl (XS.aloadN X698.here hx rfl (D 46) rfl rfl (XS.bipush X698.here hx rfl (D 47) q))))) ?_
      have c699 := ((OLD0.keep KL_n17 (allS ge_a all0)).keep KL_n84 (allS ge_a all0))
      have c700 := ((E_tx.keep KL_n17).keep KL_n84)
      have c701 := ((F_value_tx.keep KL_n17 (ninS (Ne.symm ty_a_tx) nin0)).keep KL_n84 (ninS (Ne.symm ty_a_tx) nin0))
      have c702 := ((F_coder_tx.keep KL_n17 (ninS (Ne.symm ty_a_tx) nin0)).keep KL_n84 (ninS (Ne.symm ty_a_tx) nin0))
      have c703 := ((V_t.keep KL_n17 (ninS (Ne.symm ty_a_t) nin0)).keep KL_n84 (ninS (Ne.symm ty_a_t) nin0))
      have c704 := (Nat.le_trans (Nat.le_trans Z0 KL_n17.1) KL_n84.1)
      refine own_callQ X698 hx hZ hown (w201 hw) (w202 hw) (w50 hw) (w203 hw) (w204 hw) (by decide) (own_bO (W := 0) (own_nx1 l Z a0 hw [] G1 G3 a tx t kb cd N2 vs cs 3 (46 : Int32) h_n84 n0 c704 O2 O4 P5 rG3 c699 U1 U2 U3 g0_n84 g1_n84 g2_n84 c700 c701 c702 c703 hcod hcs h8 ge_a (by omega : 3 < 8) (h3 : cs.getD 3 0 = (46 : Int32))) hZ (w204 hw) (w40 hw) rfl rfl) e698 g0_n84  (by decide) (by decide) (argsL := [(.int (46 : Int32))]) (rest := []) rfl hml.symm (lenOf pd_16 rfl) rfl rfl (own_w0 rfl rfl) (D 48) ?_
      rintro _ T705 L705 X705 ⟨rfl, N705q, K705, f0_705, f1_705, f2_705⟩
      have N706 := Fr.app N_n84 N705q
      refine own_step (g' := (mkF m 110 #[sR a, sI sv, sI 2, sI 1, sI 3, sI 0, .unset, .unset, .unset, .unset] [(.ref a)])) (fun _ q => XS.ifNo X705.here hx rfl (D 49) rfl (by decide) (XS.aloadN X705.here hx rfl (D 50) rfl rfl q)) ?_
      refine own_gF X705 hx hZ hown (w61 hw) rfl f2_705 rfl rfl (D 51) fun T707 X707 e707 => ?_
      refine own_step (g' := (mkF m 116 #[sR a, sI sv, sI 2, sI 1, sI 4, sI 0, .unset, .unset, .unset, .unset] [(.ref a)])) (fun _ q => XS.istore X707.here hx rfl (D 52) rfl (l' := #[sR a, sI sv, sI 2, sI 1, sI 4, sI 0, .unset, .unset, .unset, .unset]) rfl (XS.aloadN X707.here hx rfl (D 53) rfl rfl q)) ?_
      have c708 := (c699.keep K705 (allS ge_a all0))
      have c709 := (c700.keep K705)
      have c710 := (c701.keep K705 (ninS (Ne.symm ty_a_tx) nin0))
      have c711 := (c702.keep K705 (ninS (Ne.symm ty_a_tx) nin0))
      have c712 := (c703.keep K705 (ninS (Ne.symm ty_a_t) nin0))
      have c713 := (Nat.le_trans c704 K705.1)
      refine own_callQ X707 hx hZ hown (w205 hw) (w206 hw) (w50 hw) (w207 hw) (w208 hw) (by decide) (own_bO (W := 0) (own_sd l Z a0 hw [] G1 G3 a tx t kb cd N2 vs cs 4 1 T705.heap n0 c713 O2 O4 P5 rG3 c708 U1 U2 U3 f0_705 f1_705 f2_705 c709 c710 c711 c712 hcod hcs h8 ge_a (fun i hi => by have hi0 : i = 0 := (by omega); rw [hi0]; exact hd4 : ∀ i, i < 1 → ¬ cs.getD (4 + i) 0 < (48 : Int32) ∧ ¬ (57 : Int32) < cs.getD (4 + i) 0) (own_e5 h5 : ¬ (¬ cs.getD (4 + 1) 0 < (48 : Int32) ∧ ¬ (57 : Int32) < cs.getD (4 + 1) 0)) (by omega : 4 + 1 < 8)) hZ (w208 hw) (w40 hw) rfl rfl) e707 f0_705  (by decide) (by decide) (argsL := []) (rest := []) rfl hml.symm (lenOf pd_22 rfl) rfl rfl (own_w0 rfl rfl) (D 54) ?_
      rintro _ T714 L714 X714 ⟨rfl, N714q, K714, f0_714, f1_714, f2_714⟩
      have N715 := Fr.app N706 N714q
      refine own_step (g' := (mkF m 120 #[sR a, sI sv, sI 2, sI 1, sI 4, sI 0, .unset, .unset, .unset, .unset] [(.ref a)])) (fun _ q => XS.aloadN X714.here hx rfl (D 55) rfl rfl q) ?_
      refine own_gF X714 hx hZ hown (w61 hw) rfl f2_714 rfl rfl (D 56) fun T716 X716 e716 => ?_
      refine own_step (g' := (mkF m 144 #[sR a, sI sv, sI 2, sI 1, sI 4, sI 1, sJ 0, .second, .unset, .unset] [])) (fun _ q => XS.iload X716.here hx rfl (D 57) rfl (XS.isub X716.here hx rfl (D 58) rfl (XS.istore X716.here hx rfl (D 59) rfl (l' := #[sR a, sI sv, sI 2, sI 1, sI 4, sI 1, .unset, .unset, .unset, .unset]) rfl (XS.iload X716.here hx rfl (D 60) rfl (XS.ifYes X716.here hx rfl (pc0 := 130) (pc' := 141) rfl (D 61) rfl (by decide) (by decide) (by decide) (XT.lconst X716.here hx rfl (D 62) (XT.lstore X716.here hx rfl (D 63) rfl (l' := #[sR a, sI sv, sI 2, sI 1, sI 4, sI 1, sJ 0, .second, .unset, .unset]) rfl q))))))) ?_
      have lp_n162 : ∀  (T_n162 : State) (h_n162 : Heap) (L_n162 : List Loc) (X_n162 : Stand p l e (⟨6, 0, 0, 88⟩ : Room) s m #[(.ref a)] below meth c T_n162 L_n162 ((0 + 0) + 0) ((0 + 0) + 0)) (e_n162 : T_n162.heap = h_n162) (N_n162 : Fr n0 L_n162) (KL_n162 : Keep T714.heap h_n162 [a]) (g0_n162 : own_Ea Z h_n162 a) (g1_n162 : own_Ft Z h_n162 a (.ref tx)) (g2_n162 : own_Fp Z h_n162 a (.int (6 : Int32))) , own_Fin p e below (own_G s (Q_own_numB Z G1 G3 a tx t kb cd N2 vs cs pn h0 n0) (⟨6, 0, 0, 88⟩ : Room).cells (⟨6, 0, 0, 88⟩ : Room).slots) T_n162 (mkF m 162 #[sR a, sI sv, sI 2, sI 1, sI 4, sI 1, sJ 0, .second, .unset, .unset] []) := by
        intro  T_n162 h_n162 L_n162 X_n162 e_n162 N_n162 KL_n162 g0_n162 g1_n162 g2_n162 
        refine own_step (g' := (mkF m 165 #[sR a, sI sv, sI 2, sI 1, sI 4, sI 1, sJ 0, .second, .unset, .unset] [(.int 45), (.ref a)])) (fun _ q => XS.aloadN X_n162.here hx rfl (D 72) rfl rfl (XS.bipush X_n162.here hx rfl (D 73) q)) ?_
        have c717 := ((c708.keep K714 (allS ge_a all0)).keep KL_n162 (allS ge_a all0))
        have c718 := ((c709.keep K714).keep KL_n162)
        have c719 := ((c710.keep K714 (ninS (Ne.symm ty_a_tx) nin0)).keep KL_n162 (ninS (Ne.symm ty_a_tx) nin0))
        have c720 := ((c711.keep K714 (ninS (Ne.symm ty_a_tx) nin0)).keep KL_n162 (ninS (Ne.symm ty_a_tx) nin0))
        have c721 := ((c712.keep K714 (ninS (Ne.symm ty_a_t) nin0)).keep KL_n162 (ninS (Ne.symm ty_a_t) nin0))
        have c722 := (Nat.le_trans (Nat.le_trans c713 K714.1) KL_n162.1)
        refine own_callQ X_n162 hx hZ hown (w201 hw) (w202 hw) (w50 hw) (w203 hw) (w204 hw) (by decide) (own_bO (W := 0) (own_nx0 l Z a0 hw [] G1 G3 a tx t kb cd N2 vs cs 6 (45 : Int32) h_n162 n0 c722 O2 O4 P5 rG3 c717 U1 U2 U3 g0_n162 g1_n162 g2_n162 c718 c719 c720 c721 hcod hcs h8 (by omega : 6 < 8) ((own_dgn hd6).1 : ¬ cs.getD 6 0 = (45 : Int32))) hZ (w204 hw) (w40 hw) rfl rfl) e_n162 g0_n162  (by decide) (by decide) (argsL := [(.int (45 : Int32))]) (rest := []) rfl hml.symm (lenOf pd_16 rfl) rfl rfl (own_w0 rfl rfl) (D 74) ?_
        rintro _ T723 L723 X723 ⟨rfl, N723q, e723⟩
        have N724 := Fr.app N_n162 N723q
        refine own_step (g' := (mkF m 178 #[sR a, sI sv, sI 2, sI 1, sI 4, sI 1, sJ 0, .second, sI 0, .unset] [(.int 43), (.ref a)])) (fun _ q => XS.istore X723.here hx rfl (D 75) rfl (l' := #[sR a, sI sv, sI 2, sI 1, sI 4, sI 1, sJ 0, .second, sI 0, .unset]) rfl (XS.iload X723.here hx rfl (D 76) rfl (XS.ifNo X723.here hx rfl (D 77) rfl (by decide) (XS.aloadN X723.here hx rfl (D 78) rfl rfl (XS.bipush X723.here hx rfl (D 79) q))))) ?_
        refine own_callQ X723 hx hZ hown (w201 hw) (w202 hw) (w50 hw) (w203 hw) (w204 hw) (by decide) (own_bO (W := 0) (own_nx0 l Z a0 hw [] G1 G3 a tx t kb cd N2 vs cs 6 (43 : Int32) h_n162 n0 c722 O2 O4 P5 rG3 c717 U1 U2 U3 g0_n162 g1_n162 g2_n162 c718 c719 c720 c721 hcod hcs h8 (by omega : 6 < 8) ((own_dgn hd6).2.2.2.2.1 : ¬ cs.getD 6 0 = (43 : Int32))) hZ (w204 hw) (w40 hw) rfl rfl) e723 g0_n162  (by decide) (by decide) (argsL := [(.int (43 : Int32))]) (rest := []) rfl hml.symm (lenOf pd_16 rfl) rfl rfl (own_w0 rfl rfl) (D 80) ?_
        rintro _ T725 L725 X725 ⟨rfl, N725q, e725⟩
        have N726 := Fr.app N724 N725q
        refine own_step (g' := (mkF m 183 #[sR a, sI sv, sI 2, sI 1, sI 4, sI 1, sJ 0, .second, sI 0, .unset] [(.ref a)])) (fun _ q => XT.pop X725.here hx rfl (D 81) rfl rfl (XS.aloadN X725.here hx rfl (D 82) rfl rfl q)) ?_
        refine own_gF X725 hx hZ hown (w61 hw) e725 g2_n162 rfl rfl (D 83) fun T727 X727 e727 => ?_
        refine own_step (g' := (mkF m 189 #[sR a, sI sv, sI 2, sI 1, sI 4, sI 1, sJ 0, .second, sI 0, sI 6] [(.ref a)])) (fun _ q => XS.istore X727.here hx rfl (D 84) rfl (l' := #[sR a, sI sv, sI 2, sI 1, sI 4, sI 1, sJ 0, .second, sI 0, sI 6]) rfl (XS.aloadN X727.here hx rfl (D 85) rfl rfl q)) ?_
        refine own_gF X727 hx hZ hown (w61 hw) e727 g2_n162 rfl rfl (D 86) fun T728 X728 e728 => ?_
        refine own_step (g' := (mkF m 193 #[sR a, sI sv, sI 2, sI 1, sI 4, sI 1, sJ 0, .second, sI 0, sI 6] [(.ref a), (.int 6)])) (fun _ q => XS.aloadN X728.here hx rfl (D 87) rfl rfl q) ?_
        refine own_gF X728 hx hZ hown (w55 hw) e728 g1_n162 rfl rfl (D 88) fun T729 X729 e729 => ?_
        refine own_callV X729 hx hZ hown (w63 hw) (w64 hw) (notFace_of_selects (args := #[]) (mvT hZ (w66 hw))) (w66 hw) (w65 hw) (by decide) (own_bO (W := 1) (own_l8 l Z a0 hw [] G1 G3 tx t kb cd N2 vs cs h_n162 n0 c722 O2 O4 P5 rG3 c717 c718 c719 c720 c721 hcod hcs h8) hZ (w67 hw) (w11 hw) rfl rfl) e729 c718  (by decide) (by decide) (argsL := []) (rest := [(.int (6 : Int32))]) rfl hml.symm (lenOf pd_14 rfl) rfl rfl (own_w0 rfl rfl) (D 89) ?_
        rintro _ T730 L730 X730 ⟨rfl, N730q, e730⟩
        have N731 := Fr.app N726 N730q
        refine own_step (g' := (mkF m 203 #[sR a, sI sv, sI 2, sI 1, sI 4, sI 1, sJ 0, .second, sI 0, sI 6] [(.ref a)])) (fun _ q => XS.icmpNo X730.here hx rfl (D 90) rfl (by decide) (XS.aloadN X730.here hx rfl (D 91) rfl rfl q)) ?_
        refine own_gF X730 hx hZ hown (w55 hw) e730 g1_n162 rfl rfl (D 92) fun T732 X732 e732 => ?_
        refine own_step (g' := (mkF m 207 #[sR a, sI sv, sI 2, sI 1, sI 4, sI 1, sJ 0, .second, sI 0, sI 6] [(.ref a), (.ref tx)])) (fun _ q => XS.aloadN X732.here hx rfl (D 93) rfl rfl q) ?_
        refine own_gF X732 hx hZ hown (w61 hw) e732 g2_n162 rfl rfl (D 94) fun T733 X733 e733 => ?_
        refine own_callV X733 hx hZ hown (w74 hw) (w75 hw) (notFace_of_selects (args := #[]) (mvT hZ (w77 hw))) (w77 hw) (w76 hw) (by decide) (own_bO (W := 0) (own_char l Z a0 hw [] G1 G3 tx t kb cd N2 vs cs 6 h_n162 n0 c722 O2 O4 P5 rG3 c717 U1 U2 U3 c718 c719 c720 c721 hcod hcs (by omega : cs.length ≤ 400) (by omega : 6 < cs.length)) hZ (w78 hw) (w11 hw) rfl rfl) e733 c718  (by decide) (by decide) (argsL := [(.int (6 : Int32))]) (rest := []) rfl hml.symm (lenOf pd_15 rfl) rfl rfl (own_w0 rfl rfl) (D 95) ?_
        rintro _ T734 L734 X734 ⟨rfl, N734q, e734⟩
        have N735 := Fr.app N731 N734q
        refine own_callS X734 hx hZ hown (w139 hw) (w140 hw) (w40 hw) (w141 hw) (by decide) (own_bO (W := 0) (own_isd1 l Z a0 hw [] (cs.getD 6 0) h_n162 n0 c722 (hd6 : ¬ (cs.getD 6 0) < (48 : Int32) ∧ ¬ (57 : Int32) < (cs.getD 6 0))) hZ (w141 hw) (w40 hw) rfl rfl) e734  (by decide) (by decide) (argsL := [(.int (cs.getD 6 0))]) (rest := []) rfl hml.symm (lenOf pd_16 rfl) rfl rfl (own_w0 rfl rfl) (D 96) ?_
        rintro _ T736 L736 X736 ⟨rfl, N736q, e736⟩
        have N737 := Fr.app N735 N736q
        refine own_step (g' := (mkF m 226 #[sR a, sI sv, sI 2, sI 1, sI 4, sI 1, sJ 0, .second, sI 0, sI 6] [(.ref a), (.long ((0 : Int64) * (10 : Int64)))])) (fun _ q => XS.ifNo X736.here hx rfl (D 97) rfl (by decide) (XT.lload X736.here hx rfl (D 98) rfl (X736.ldc2Long hx hown (mvT hZ (w219 hw)) (g := (mkF m 221 #[sR a, sI sv, sI 2, sI 1, sI 4, sI 1, sJ 0, .second, sI 0, sI 6] [(.long 0)])) rfl (D 99) _ (XT.lmul X736.here hx rfl (D 100) rfl (XS.aloadN X736.here hx rfl (D 101) rfl rfl q))))) ?_
        refine own_gF X736 hx hZ hown (w55 hw) e736 g1_n162 rfl rfl (D 102) fun T738 X738 e738 => ?_
        refine own_step (g' := (mkF m 230 #[sR a, sI sv, sI 2, sI 1, sI 4, sI 1, sJ 0, .second, sI 0, sI 6] [(.ref a), (.ref tx), (.long ((0 : Int64) * (10 : Int64)))])) (fun _ q => XS.aloadN X738.here hx rfl (D 103) rfl rfl q) ?_
        refine own_gF X738 hx hZ hown (w61 hw) e738 g2_n162 rfl rfl (D 104) fun T739 X739 e739 => ?_
        refine own_callV X739 hx hZ hown (w74 hw) (w75 hw) (notFace_of_selects (args := #[]) (mvT hZ (w77 hw))) (w77 hw) (w76 hw) (by decide) (own_bO (W := 2) (own_char l Z a0 hw [] G1 G3 tx t kb cd N2 vs cs 6 h_n162 n0 c722 O2 O4 P5 rG3 c717 U1 U2 U3 c718 c719 c720 c721 hcod hcs (by omega : cs.length ≤ 400) (by omega : 6 < cs.length)) hZ (w78 hw) (w11 hw) rfl rfl) e739 c718  (by decide) (by decide) (argsL := [(.int (6 : Int32))]) (rest := [(.long ((0 : Int64) * (10 : Int64)))]) rfl hml.symm (lenOf pd_15 rfl) rfl rfl (own_w0 rfl rfl) (D 105) ?_
        rintro _ T740 L740 X740 ⟨rfl, N740q, e740⟩
        have N741 := Fr.app N737 N740q
        refine own_step (g' := (mkF m 242 #[sR a, sI sv, sI 2, sI 1, sI 4, sI 1, sJ 0, .second, sI 0, sI 6] [(.long ((((0 : Int64) * (10 : Int64)) + ((cs.getD 6 0).toInt64)) - (48 : Int64)))])) (fun _ q => XT.i2l X740.here hx rfl (D 106) rfl (XT.ladd X740.here hx rfl (D 107) rfl (X740.ldc2Long hx hown (mvT hZ (w220 hw)) (g := (mkF m 238 #[sR a, sI sv, sI 2, sI 1, sI 4, sI 1, sJ 0, .second, sI 0, sI 6] [(.long (((0 : Int64) * (10 : Int64)) + ((cs.getD 6 0).toInt64)))])) rfl (D 108) _ (XT.lsub X740.here hx rfl (D 109) rfl q)))) ?_
        rw [show ((((0 : Int64) * (10 : Int64)) + ((cs.getD 6 0).toInt64)) - (48 : Int64)) = (own_jd (cs.getD 6 0)) from rfl]
        refine own_step (g' := (mkF m 245 #[sR a, sI sv, sI 2, sI 1, sI 4, sI 1, sJ 0, .second, sI 0, sI 6] [(.long 1073741823), (.long (own_jd (cs.getD 6 0)))])) (fun _ q => X740.ldc2Long hx hown (mvT hZ (w221 hw)) (g := (mkF m 242 #[sR a, sI sv, sI 2, sI 1, sI 4, sI 1, sJ 0, .second, sI 0, sI 6] [(.long (own_jd (cs.getD 6 0)))])) rfl (D 110) _ q) ?_
        refine own_callS X740 hx hZ hown (w222 hw) (w223 hw) (w115 hw) (w224 hw) (by decide) (own_bO (W := 0) (own_minJ l Z a0 hw [] (own_jd (cs.getD 6 0)) h_n162 n0 c722 ((own_jdb hd6).2.1 : ¬ (1073741823 : Int64) < (own_jd (cs.getD 6 0)))) hZ (w224 hw) (w115 hw) rfl rfl) e740  (by decide) (by decide) (argsL := [(.long (own_jd (cs.getD 6 0))), (.long (1073741823 : Int64))]) (rest := []) rfl hml.symm (lenOf pd_27 rfl) rfl rfl (own_w0 rfl rfl) (D 111) ?_
        rintro _ T742 L742 X742 ⟨rfl, N742q, e742⟩
        have N743 := Fr.app N741 N742q
        refine own_step (g' := (mkF m 252 #[sR a, sI sv, sI 2, sI 1, sI 4, sI 1, sJ (own_jd (cs.getD 6 0)), .second, sI 0, sI 6] [(.ref a), (.ref a)])) (fun _ q => XT.lstore X742.here hx rfl (D 112) rfl (l' := #[sR a, sI sv, sI 2, sI 1, sI 4, sI 1, sJ (own_jd (cs.getD 6 0)), .second, sI 0, sI 6]) rfl (XS.aloadN X742.here hx rfl (D 113) rfl rfl (XS.dup X742.here hx rfl (D 114) rfl rfl q))) ?_
        refine own_gF X742 hx hZ hown (w61 hw) e742 g2_n162 rfl rfl (D 115) fun T744 X744 e744 => ?_
        refine own_step (g' := (mkF m 257 #[sR a, sI sv, sI 2, sI 1, sI 4, sI 1, sJ (own_jd (cs.getD 6 0)), .second, sI 0, sI 6] [(.int 7), (.ref a)])) (fun _ q => XS.iconst X744.here hx rfl (D 116) (XS.iadd X744.here hx rfl (D 117) rfl q)) ?_
        refine own_pF X744 hx hZ hown (w61 hw) e744 g2_n162 g0_n162 (Or.inl (w62 hw)) (w50 hw) (ty := .int) (by decide) rfl rfl rfl rfl (D 118) fun T745 h745 X745 e745 W745 F746 => ?_
        have N747 := Fr.snoc X745 N743 ge_a
        refine own_step (g' := (mkF m 189 #[sR a, sI sv, sI 2, sI 1, sI 4, sI 1, sJ (own_jd (cs.getD 6 0)), .second, sI 0, sI 6] [(.ref a)])) (fun _ q => XS.goto X745.here hx rfl (pc0 := 260) (pc' := 188) rfl (D 119) (by decide) (by decide) (XS.aloadN X745.here hx rfl (D 85) rfl rfl q)) ?_
        refine own_gF X745 hx hZ hown (w61 hw) e745 F746 rfl rfl (D 86) fun T748 X748 e748 => ?_
        refine own_step (g' := (mkF m 193 #[sR a, sI sv, sI 2, sI 1, sI 4, sI 1, sJ (own_jd (cs.getD 6 0)), .second, sI 0, sI 6] [(.ref a), (.int 7)])) (fun _ q => XS.aloadN X748.here hx rfl (D 87) rfl rfl q) ?_
        have c749 := (g1_n162.other W745 (Or.inr (RoadKit.slot_ne (t := (.object "java/lang/String")) (t' := .int) (Or.inr (w56 hw)) (Or.inl (w62 hw)) (by decide) (by decide) (by decide))))
        refine own_gF X748 hx hZ hown (w55 hw) e748 c749 rfl rfl (D 88) fun T750 X750 e750 => ?_
        have c751 := (c717.wr W745 ge_a)
        have c752 := (c718.wr W745)
        have c753 := (c719.other W745 (Or.inl (Ne.symm ty_a_tx)))
        have c754 := (c720.other W745 (Or.inl (Ne.symm ty_a_tx)))
        have c755 := (c721.other W745 (Ne.symm ty_a_t))
        have c756 := (Nat.le_trans c722 (Keep.of_wr W745).1)
        refine own_callV X750 hx hZ hown (w63 hw) (w64 hw) (notFace_of_selects (args := #[]) (mvT hZ (w66 hw))) (w66 hw) (w65 hw) (by decide) (own_bO (W := 1) (own_l8 l Z a0 hw [] G1 G3 tx t kb cd N2 vs cs h745 n0 c756 O2 O4 P5 rG3 c751 c752 c753 c754 c755 hcod hcs h8) hZ (w67 hw) (w11 hw) rfl rfl) e750 c752  (by decide) (by decide) (argsL := []) (rest := [(.int (7 : Int32))]) rfl hml.symm (lenOf pd_14 rfl) rfl rfl (own_w0 rfl rfl) (D 89) ?_
        rintro _ T757 L757 X757 ⟨rfl, N757q, e757⟩
        have N758 := Fr.app N747 N757q
        refine own_step (g' := (mkF m 203 #[sR a, sI sv, sI 2, sI 1, sI 4, sI 1, sJ (own_jd (cs.getD 6 0)), .second, sI 0, sI 6] [(.ref a)])) (fun _ q => XS.icmpNo X757.here hx rfl (D 90) rfl (by decide) (XS.aloadN X757.here hx rfl (D 91) rfl rfl q)) ?_
        refine own_gF X757 hx hZ hown (w55 hw) e757 c749 rfl rfl (D 92) fun T759 X759 e759 => ?_
        refine own_step (g' := (mkF m 207 #[sR a, sI sv, sI 2, sI 1, sI 4, sI 1, sJ (own_jd (cs.getD 6 0)), .second, sI 0, sI 6] [(.ref a), (.ref tx)])) (fun _ q => XS.aloadN X759.here hx rfl (D 93) rfl rfl q) ?_
        refine own_gF X759 hx hZ hown (w61 hw) e759 F746 rfl rfl (D 94) fun T760 X760 e760 => ?_
        refine own_callV X760 hx hZ hown (w74 hw) (w75 hw) (notFace_of_selects (args := #[]) (mvT hZ (w77 hw))) (w77 hw) (w76 hw) (by decide) (own_bO (W := 0) (own_char l Z a0 hw [] G1 G3 tx t kb cd N2 vs cs 7 h745 n0 c756 O2 O4 P5 rG3 c751 U1 U2 U3 c752 c753 c754 c755 hcod hcs (by omega : cs.length ≤ 400) (by omega : 7 < cs.length)) hZ (w78 hw) (w11 hw) rfl rfl) e760 c752  (by decide) (by decide) (argsL := [(.int (7 : Int32))]) (rest := []) rfl hml.symm (lenOf pd_15 rfl) rfl rfl (own_w0 rfl rfl) (D 95) ?_
        rintro _ T761 L761 X761 ⟨rfl, N761q, e761⟩
        have N762 := Fr.app N758 N761q
        refine own_callS X761 hx hZ hown (w139 hw) (w140 hw) (w40 hw) (w141 hw) (by decide) (own_bO (W := 0) (own_isd0 l Z a0 hw [] (cs.getD 7 0) h745 n0 c756 (hn7 : ¬ (¬ (cs.getD 7 0) < (48 : Int32) ∧ ¬ (57 : Int32) < (cs.getD 7 0)))) hZ (w141 hw) (w40 hw) rfl rfl) e761  (by decide) (by decide) (argsL := [(.int (cs.getD 7 0))]) (rest := []) rfl hml.symm (lenOf pd_16 rfl) rfl rfl (own_w0 rfl rfl) (D 96) ?_
        rintro _ T763 L763 X763 ⟨rfl, N763q, e763⟩
        have N764 := Fr.app N762 N763q
        refine own_step (g' := (mkF m 264 #[sR a, sI sv, sI 2, sI 1, sI 4, sI 1, sJ (own_jd (cs.getD 6 0)), .second, sI 0, sI 6] [(.ref a)])) (fun _ q => XS.ifYes X763.here hx rfl (pc0 := 216) (pc' := 263) rfl (D 97) rfl (by decide) (by decide) (by decide) (XS.aloadN X763.here hx rfl (D 120) rfl rfl q)) ?_
        refine own_gF X763 hx hZ hown (w61 hw) e763 F746 rfl rfl (D 121) fun T765 X765 e765 => ?_
        refine own_step (g' := (mkF m 300 #[sR a, sI sv, sI 2, sI 1, sI 4, sI 1, sJ (own_jd (cs.getD 6 0)), .second, sI 0, sI 6] [(.int 4), (.int 1), (.int 2), (.ref a)])) (fun _ q => XS.iload X765.here hx rfl (D 122) rfl (XS.icmpYes X765.here hx rfl (pc0 := 269) (pc' := 280) rfl (D 123) rfl (by decide) (by decide) (by decide) (XS.iload X765.here hx rfl (D 124) rfl (XS.ifYes X765.here hx rfl (pc0 := 282) (pc' := 291) rfl (D 125) rfl (by decide) (by decide) (by decide) (XT.lload X765.here hx rfl (D 126) rfl (XT.lstore X765.here hx rfl (D 127) rfl (l' := #[sR a, sI sv, sI 2, sI 1, sI 4, sI 1, sJ (own_jd (cs.getD 6 0)), .second, sI 0, sI 6]) rfl (XS.aloadN X765.here hx rfl (D 128) rfl rfl (XS.iloadN X765.here hx rfl (D 129) rfl (XS.iloadN X765.here hx rfl (D 130) rfl (XS.iload X765.here hx rfl (D 131) rfl q)))))))))) ?_
        refine own_step (g' := (mkF m 304 #[sR a, sI sv, sI 2, sI 1, sI 4, sI 1, sJ (own_jd (cs.getD 6 0)), .second, sI 0, sI 6] [(.long (own_jd (cs.getD 6 0))), (.int 1), (.int 4), (.int 1), (.int 2), (.ref a)])) (fun _ q => XS.iload X765.here hx rfl (D 132) rfl (XT.lload X765.here hx rfl (D 133) rfl q)) ?_
        have c766 := (g0_n162.wr W745)
        refine own_callQ X765 hx hZ hown (w209 hw) (w210 hw) (w50 hw) (w211 hw) (w212 hw) (by decide) (own_bO (W := 0) (own_fitY l Z a0 hw [] G1 G3 a tx t kb cd N2 vs cs (cs.getD 6 0) h745 n0 c756 O2 O4 P5 rG3 c751 U1 U2 U3 c766 c749 c752 c753 c754 c755 hcod hcs h8 (hd6 : ¬ (cs.getD 6 0) < (48 : Int32) ∧ ¬ (57 : Int32) < (cs.getD 6 0))) hZ (w212 hw) (w40 hw) rfl rfl) e765 c766  (by decide) (by decide) (argsL := [(.int (2 : Int32)), (.int (1 : Int32)), (.int (4 : Int32)), (.int (1 : Int32)), (.long (own_jd (cs.getD 6 0)))]) (rest := []) rfl hml.symm (lenOf pd_26 rfl) rfl rfl (own_w0 rfl rfl) (D 134) ?_
        rintro _ T767 L767 X767 ⟨rfl, N767q, e767⟩
        have N768 := Fr.app N764 N767q
        refine own_step (g' := (mkF m 318 #[sR a, sI sv, sI 2, sI 1, sI 4, sI 1, sJ (own_jd (cs.getD 6 0)), .second, sI 0, sI 6] [])) (fun _ q => XS.ifYes X767.here hx rfl (pc0 := 307) (pc' := 318) rfl (D 135) rfl (by decide) (by decide) (by decide) q) ?_
        have c769 := (((((((Keep.refl h0 [a]).trans KL_n17 (allS (Or.inl (List.mem_of_getElem? (i := 0) rfl)) all0)).trans KL_n84 (allS (Or.inl (List.mem_of_getElem? (i := 0) rfl)) all0)).trans K705 (allS (Or.inl (List.mem_of_getElem? (i := 0) rfl)) all0)).trans K714 (allS (Or.inl (List.mem_of_getElem? (i := 0) rfl)) all0)).trans KL_n162 (allS (Or.inl (List.mem_of_getElem? (i := 0) rfl)) all0)).wr W745 (Or.inl (List.mem_of_getElem? (i := 0) rfl)))
        exact own_retV X767 hx hrt (D 136) hlk (by rw [e767]; exact ⟨rfl, N768, c769, c766, c749, F746⟩) (by decide) (by decide)
      refine own_step (g' := (mkF m 147 #[sR a, sI sv, sI 2, sI 1, sI 4, sI 1, sJ 0, .second, .unset, .unset] [(.int 101), (.ref a)])) (fun _ q => XS.aloadN X716.here hx rfl (D 64) rfl rfl (XS.bipush X716.here hx rfl (D 65) q)) ?_
      rcases h5 with h5e | h5e
      · have c770 := (c708.keep K714 (allS ge_a all0))
        have c771 := (c709.keep K714)
        have c772 := (c710.keep K714 (ninS (Ne.symm ty_a_tx) nin0))
        have c773 := (c711.keep K714 (ninS (Ne.symm ty_a_tx) nin0))
        have c774 := (c712.keep K714 (ninS (Ne.symm ty_a_t) nin0))
        have c775 := (Nat.le_trans c713 K714.1)
        refine own_callQ X716 hx hZ hown (w201 hw) (w202 hw) (w50 hw) (w203 hw) (w204 hw) (by decide) (own_bO (W := 0) (own_nx1 l Z a0 hw [] G1 G3 a tx t kb cd N2 vs cs 5 (101 : Int32) T714.heap n0 c775 O2 O4 P5 rG3 c770 U1 U2 U3 f0_714 f1_714 f2_714 c771 c772 c773 c774 hcod hcs h8 ge_a (by omega : 5 < 8) (h5e : cs.getD 5 0 = (101 : Int32))) hZ (w204 hw) (w40 hw) rfl rfl) e716 f0_714  (by decide) (by decide) (argsL := [(.int (101 : Int32))]) (rest := []) rfl hml.symm (lenOf pd_16 rfl) rfl rfl (own_w0 rfl rfl) (D 66) ?_
        rintro _ T776 L776 X776 ⟨rfl, N776q, K776, f0_776, f1_776, f2_776⟩
        have N777 := Fr.app N715 N776q
        refine own_step (g' := (mkF m 162 #[sR a, sI sv, sI 2, sI 1, sI 4, sI 1, sJ 0, .second, .unset, .unset] [])) (fun _ q => XS.ifYes X776.here hx rfl (pc0 := 150) (pc' := 162) rfl (D 67) rfl (by decide) (by decide) (by decide) q) ?_
        have c778 := ((Keep.refl T714.heap [a]).trans K776 (allS (Or.inl (List.mem_of_getElem? (i := 0) rfl)) all0))
        exact lp_n162  T776 T776.heap _ X776 rfl N777 c778 f0_776 f1_776 f2_776 
      · have c779 := (c708.keep K714 (allS ge_a all0))
        have c780 := (c709.keep K714)
        have c781 := (c710.keep K714 (ninS (Ne.symm ty_a_tx) nin0))
        have c782 := (c711.keep K714 (ninS (Ne.symm ty_a_tx) nin0))
        have c783 := (c712.keep K714 (ninS (Ne.symm ty_a_t) nin0))
        have c784 := (Nat.le_trans c713 K714.1)
        refine own_callQ X716 hx hZ hown (w201 hw) (w202 hw) (w50 hw) (w203 hw) (w204 hw) (by decide) (own_bO (W := 0) (own_nx0 l Z a0 hw [] G1 G3 a tx t kb cd N2 vs cs 5 (101 : Int32) T714.heap n0 c784 O2 O4 P5 rG3 c779 U1 U2 U3 f0_714 f1_714 f2_714 c780 c781 c782 c783 hcod hcs h8 (by omega : 5 < 8) (by rw [h5e]; decide : ¬ cs.getD 5 0 = (101 : Int32))) hZ (w204 hw) (w40 hw) rfl rfl) e716 f0_714  (by decide) (by decide) (argsL := [(.int (101 : Int32))]) (rest := []) rfl hml.symm (lenOf pd_16 rfl) rfl rfl (own_w0 rfl rfl) (D 66) ?_
        rintro _ T785 L785 X785 ⟨rfl, N785q, e785⟩
        have N786 := Fr.app N715 N785q
        refine own_step (g' := (mkF m 156 #[sR a, sI sv, sI 2, sI 1, sI 4, sI 1, sJ 0, .second, .unset, .unset] [(.int 69), (.ref a)])) (fun _ q => XS.ifNo X785.here hx rfl (D 67) rfl (by decide) (XS.aloadN X785.here hx rfl (D 68) rfl rfl (XS.bipush X785.here hx rfl (D 69) q))) ?_
        refine own_callQ X785 hx hZ hown (w201 hw) (w202 hw) (w50 hw) (w203 hw) (w204 hw) (by decide) (own_bO (W := 0) (own_nx1 l Z a0 hw [] G1 G3 a tx t kb cd N2 vs cs 5 (69 : Int32) T714.heap n0 c784 O2 O4 P5 rG3 c779 U1 U2 U3 f0_714 f1_714 f2_714 c780 c781 c782 c783 hcod hcs h8 ge_a (by omega : 5 < 8) (h5e : cs.getD 5 0 = (69 : Int32))) hZ (w204 hw) (w40 hw) rfl rfl) e785 f0_714  (by decide) (by decide) (argsL := [(.int (69 : Int32))]) (rest := []) rfl hml.symm (lenOf pd_16 rfl) rfl rfl (own_w0 rfl rfl) (D 70) ?_
        rintro _ T787 L787 X787 ⟨rfl, N787q, K787, f0_787, f1_787, f2_787⟩
        have N788 := Fr.app N786 N787q
        refine own_step (g' := (mkF m 162 #[sR a, sI sv, sI 2, sI 1, sI 4, sI 1, sJ 0, .second, .unset, .unset] [])) (fun _ q => XS.ifNo X787.here hx rfl (D 71) rfl (by decide) q) ?_
        have c789 := ((Keep.refl T714.heap [a]).trans K787 (allS (Or.inl (List.mem_of_getElem? (i := 0) rfl)) all0))
        exact lp_n162  T787 T787.heap _ X787 rfl N788 c789 f0_787 f1_787 f2_787 
    refine own_step (g' := (mkF m 20 #[sR a, sI sv, sI 2, .unset, .unset, .unset, .unset, .unset, .unset, .unset] [(.int 48), (.ref a)])) (fun _ q => XS.aloadN X_n17.here hx rfl (D 10) rfl rfl (XS.bipush X_n17.here hx rfl (D 11) q)) ?_
    by_cases h48c : cs.getD 2 0 = (48 : Int32)
    · have c790 := (OLD0.keep KL_n17 (allS ge_a all0))
      have c791 := (E_tx.keep KL_n17)
      have c792 := (F_value_tx.keep KL_n17 (ninS (Ne.symm ty_a_tx) nin0))
      have c793 := (F_coder_tx.keep KL_n17 (ninS (Ne.symm ty_a_tx) nin0))
      have c794 := (V_t.keep KL_n17 (ninS (Ne.symm ty_a_t) nin0))
      have c795 := (Nat.le_trans Z0 KL_n17.1)
      refine own_callQ X_n17 hx hZ hown (w201 hw) (w202 hw) (w50 hw) (w203 hw) (w204 hw) (by decide) (own_bO (W := 0) (own_nx1 l Z a0 hw [] G1 G3 a tx t kb cd N2 vs cs 2 (48 : Int32) h_n17 n0 c795 O2 O4 P5 rG3 c790 U1 U2 U3 g0_n17 g1_n17 g2_n17 c791 c792 c793 c794 hcod hcs h8 ge_a (by omega : 2 < 8) (h48c : cs.getD 2 0 = (48 : Int32))) hZ (w204 hw) (w40 hw) rfl rfl) e_n17 g0_n17  (by decide) (by decide) (argsL := [(.int (48 : Int32))]) (rest := []) rfl hml.symm (lenOf pd_16 rfl) rfl rfl (own_w0 rfl rfl) (D 12) ?_
      rintro _ T796 L796 X796 ⟨rfl, N796q, K796, f0_796, f1_796, f2_796⟩
      have N797 := Fr.app N_n17 N796q
      refine own_step (g' := (mkF m 84 #[sR a, sI sv, sI 2, .unset, .unset, .unset, .unset, .unset, .unset, .unset] [])) (fun _ q => XS.ifYes X796.here hx rfl (pc0 := 23) (pc' := 84) rfl (D 13) rfl (by decide) (by decide) (by decide) q) ?_
      have c798 := ((Keep.refl h_n17 [a]).trans K796 (allS (Or.inl (List.mem_of_getElem? (i := 0) rfl)) all0))
      exact lp_n84  T796 T796.heap _ X796 rfl N797 c798 f0_796 f1_796 f2_796 
    · have c799 := (OLD0.keep KL_n17 (allS ge_a all0))
      have c800 := (E_tx.keep KL_n17)
      have c801 := (F_value_tx.keep KL_n17 (ninS (Ne.symm ty_a_tx) nin0))
      have c802 := (F_coder_tx.keep KL_n17 (ninS (Ne.symm ty_a_tx) nin0))
      have c803 := (V_t.keep KL_n17 (ninS (Ne.symm ty_a_t) nin0))
      have c804 := (Nat.le_trans Z0 KL_n17.1)
      refine own_callQ X_n17 hx hZ hown (w201 hw) (w202 hw) (w50 hw) (w203 hw) (w204 hw) (by decide) (own_bO (W := 0) (own_nx0 l Z a0 hw [] G1 G3 a tx t kb cd N2 vs cs 2 (48 : Int32) h_n17 n0 c804 O2 O4 P5 rG3 c799 U1 U2 U3 g0_n17 g1_n17 g2_n17 c800 c801 c802 c803 hcod hcs h8 (by omega : 2 < 8) (h48c : ¬ cs.getD 2 0 = (48 : Int32))) hZ (w204 hw) (w40 hw) rfl rfl) e_n17 g0_n17  (by decide) (by decide) (argsL := [(.int (48 : Int32))]) (rest := []) rfl hml.symm (lenOf pd_16 rfl) rfl rfl (own_w0 rfl rfl) (D 12) ?_
      rintro _ T805 L805 X805 ⟨rfl, N805q, e805⟩
      have N806 := Fr.app N_n17 N805q
      refine own_step (g' := (mkF m 27 #[sR a, sI sv, sI 2, .unset, .unset, .unset, .unset, .unset, .unset, .unset] [(.ref a)])) (fun _ q => XS.ifNo X805.here hx rfl (D 13) rfl (by decide) (XS.aloadN X805.here hx rfl (D 14) rfl rfl q)) ?_
      refine own_gF X805 hx hZ hown (w61 hw) e805 g2_n17 rfl rfl (D 15) fun T807 X807 e807 => ?_
      refine own_step (g' := (mkF m 31 #[sR a, sI sv, sI 2, .unset, .unset, .unset, .unset, .unset, .unset, .unset] [(.ref a), (.int 2)])) (fun _ q => XS.aloadN X807.here hx rfl (D 16) rfl rfl q) ?_
      refine own_gF X807 hx hZ hown (w55 hw) e807 g1_n17 rfl rfl (D 17) fun T808 X808 e808 => ?_
      refine own_callV X808 hx hZ hown (w63 hw) (w64 hw) (notFace_of_selects (args := #[]) (mvT hZ (w66 hw))) (w66 hw) (w65 hw) (by decide) (own_bO (W := 1) (own_l8 l Z a0 hw [] G1 G3 tx t kb cd N2 vs cs h_n17 n0 c804 O2 O4 P5 rG3 c799 c800 c801 c802 c803 hcod hcs h8) hZ (w67 hw) (w11 hw) rfl rfl) e808 c800  (by decide) (by decide) (argsL := []) (rest := [(.int (2 : Int32))]) rfl hml.symm (lenOf pd_14 rfl) rfl rfl (own_w0 rfl rfl) (D 18) ?_
      rintro _ T809 L809 X809 ⟨rfl, N809q, e809⟩
      have N810 := Fr.app N806 N809q
      refine own_step (g' := (mkF m 41 #[sR a, sI sv, sI 2, .unset, .unset, .unset, .unset, .unset, .unset, .unset] [(.ref a)])) (fun _ q => XS.icmpNo X809.here hx rfl (D 19) rfl (by decide) (XS.aloadN X809.here hx rfl (D 20) rfl rfl q)) ?_
      refine own_gF X809 hx hZ hown (w55 hw) e809 g1_n17 rfl rfl (D 21) fun T811 X811 e811 => ?_
      refine own_step (g' := (mkF m 45 #[sR a, sI sv, sI 2, .unset, .unset, .unset, .unset, .unset, .unset, .unset] [(.ref a), (.ref tx)])) (fun _ q => XS.aloadN X811.here hx rfl (D 22) rfl rfl q) ?_
      refine own_gF X811 hx hZ hown (w61 hw) e811 g2_n17 rfl rfl (D 23) fun T812 X812 e812 => ?_
      refine own_callV X812 hx hZ hown (w74 hw) (w75 hw) (notFace_of_selects (args := #[]) (mvT hZ (w77 hw))) (w77 hw) (w76 hw) (by decide) (own_bO (W := 0) (own_char l Z a0 hw [] G1 G3 tx t kb cd N2 vs cs 2 h_n17 n0 c804 O2 O4 P5 rG3 c799 U1 U2 U3 c800 c801 c802 c803 hcod hcs (by omega : cs.length ≤ 400) (by omega : 2 < cs.length)) hZ (w78 hw) (w11 hw) rfl rfl) e812 c800  (by decide) (by decide) (argsL := [(.int (2 : Int32))]) (rest := []) rfl hml.symm (lenOf pd_15 rfl) rfl rfl (own_w0 rfl rfl) (D 24) ?_
      rintro _ T813 L813 X813 ⟨rfl, N813q, e813⟩
      have N814 := Fr.app N810 N813q
      refine own_step (g' := (mkF m 53 #[sR a, sI sv, sI 2, .unset, .unset, .unset, .unset, .unset, .unset, .unset] [(.int 49), (.int (cs.getD 2 0))])) (fun _ q => XS.bipush X813.here hx rfl (D 25) q) ?_
      have hc815 : ¬ ((cs.getD 2 0) < (49 : Int32)) := (own_d49 hd2 h48c)
      refine own_step (g' := (mkF m 57 #[sR a, sI sv, sI 2, .unset, .unset, .unset, .unset, .unset, .unset, .unset] [(.ref a)])) (fun _ q => XS.icmpNo X813.here hx rfl (D 26) rfl (XT.ii_lt_f hc815) (XS.aloadN X813.here hx rfl (D 27) rfl rfl q)) ?_
      refine own_gF X813 hx hZ hown (w55 hw) e813 g1_n17 rfl rfl (D 28) fun T816 X816 e816 => ?_
      refine own_step (g' := (mkF m 61 #[sR a, sI sv, sI 2, .unset, .unset, .unset, .unset, .unset, .unset, .unset] [(.ref a), (.ref tx)])) (fun _ q => XS.aloadN X816.here hx rfl (D 29) rfl rfl q) ?_
      refine own_gF X816 hx hZ hown (w61 hw) e816 g2_n17 rfl rfl (D 30) fun T817 X817 e817 => ?_
      refine own_callV X817 hx hZ hown (w74 hw) (w75 hw) (notFace_of_selects (args := #[]) (mvT hZ (w77 hw))) (w77 hw) (w76 hw) (by decide) (own_bO (W := 0) (own_char l Z a0 hw [] G1 G3 tx t kb cd N2 vs cs 2 h_n17 n0 c804 O2 O4 P5 rG3 c799 U1 U2 U3 c800 c801 c802 c803 hcod hcs (by omega : cs.length ≤ 400) (by omega : 2 < cs.length)) hZ (w78 hw) (w11 hw) rfl rfl) e817 c800  (by decide) (by decide) (argsL := [(.int (2 : Int32))]) (rest := []) rfl hml.symm (lenOf pd_15 rfl) rfl rfl (own_w0 rfl rfl) (D 31) ?_
      rintro _ T818 L818 X818 ⟨rfl, N818q, e818⟩
      have N819 := Fr.app N814 N818q
      refine own_step (g' := (mkF m 69 #[sR a, sI sv, sI 2, .unset, .unset, .unset, .unset, .unset, .unset, .unset] [(.int 57), (.int (cs.getD 2 0))])) (fun _ q => XS.bipush X818.here hx rfl (D 32) q) ?_
      have hc820 : ¬ ((57 : Int32) < (cs.getD 2 0)) := hd2.2
      refine own_step (g' := (mkF m 81 #[sR a, sI sv, sI 2, .unset, .unset, .unset, .unset, .unset, .unset, .unset] [(.ref a)])) (fun _ q => XS.icmpYes X818.here hx rfl (pc0 := 69) (pc' := 80) rfl (D 33) rfl (XT.ii_le_t hc820) (by decide) (by decide) (XS.aloadN X818.here hx rfl (D 34) rfl rfl q)) ?_
      refine own_callQ X818 hx hZ hown (w205 hw) (w206 hw) (w50 hw) (w207 hw) (w208 hw) (by decide) (own_bO (W := 0) (own_sd l Z a0 hw [] G1 G3 a tx t kb cd N2 vs cs 2 1 h_n17 n0 c804 O2 O4 P5 rG3 c799 U1 U2 U3 g0_n17 g1_n17 g2_n17 c800 c801 c802 c803 hcod hcs h8 ge_a (fun i hi => by have hi0 : i = 0 := (by omega); rw [hi0]; exact hd2 : ∀ i, i < 1 → ¬ cs.getD (2 + i) 0 < (48 : Int32) ∧ ¬ (57 : Int32) < cs.getD (2 + i) 0) (own_n46 h3 : ¬ (¬ cs.getD (2 + 1) 0 < (48 : Int32) ∧ ¬ (57 : Int32) < cs.getD (2 + 1) 0)) (by omega : 2 + 1 < 8)) hZ (w208 hw) (w40 hw) rfl rfl) e818 g0_n17  (by decide) (by decide) (argsL := []) (rest := []) rfl hml.symm (lenOf pd_22 rfl) rfl rfl (own_w0 rfl rfl) (D 35) ?_
      rintro _ T821 L821 X821 ⟨rfl, N821q, K821, f0_821, f1_821, f2_821⟩
      have N822 := Fr.app N819 N821q
      have c823 := ((Keep.refl h_n17 [a]).trans K821 (allS (Or.inl (List.mem_of_getElem? (i := 0) rfl)) all0))
      exact lp_n84  T821 T821.heap _ X821 rfl N822 c823 f0_821 f1_821 f2_821 
  refine own_step (g' := (mkF m 8 #[sR a, sI (Int32.ofNat pn), .unset, .unset, .unset, .unset, .unset, .unset, .unset, .unset] [(.int 45), (.ref a)])) (fun _ q => XS.aloadN X696.here hx rfl (D 3) rfl rfl (XS.bipush X696.here hx rfl (D 4) q)) ?_
  rcases hsg with ⟨hm, hpn⟩ | ⟨hm, hpn⟩
  · refine own_callQ X696 hx hZ hown (w201 hw) (w202 hw) (w50 hw) (w203 hw) (w204 hw) (by decide) (own_bO (W := 0) (own_nx1 l Z a0 hw [] G1 G3 a tx t kb cd N2 vs cs pn (45 : Int32) h0 n0 Z0 O2 O4 P5 rG3 OLD0 U1 U2 U3 E_a F_text_a F_pos_a E_tx F_value_tx F_coder_tx V_t hcod hcs h8 ge_a (by omega : pn < 8) (hm : cs.getD pn 0 = (45 : Int32))) hZ (w204 hw) (w40 hw) rfl rfl) e696 E_a  (by decide) (by decide) (argsL := [(.int (45 : Int32))]) (rest := []) rfl hml.symm (lenOf pd_16 rfl) rfl rfl (own_w0 rfl rfl) (D 5) ?_
    rintro _ T824 L824 X824 ⟨rfl, N824q, K824, f0_824, f1_824, f2_824⟩
    have N825 := Fr.app (Fr.nil n0) N824q
    have qF826 : ((.int (Int32.ofNat (pn + 1))) : Value) = (.int (2 : Int32)) := (by subst hpn; rfl)
    have F826 : own_Fp Z T824.heap a (.int (2 : Int32)) := own_fixf qF826 f2_824
    refine own_step (g' := (mkF m 13 #[sR a, sI (Int32.ofNat pn), .unset, .unset, .unset, .unset, .unset, .unset, .unset, .unset] [(.ref a)])) (fun _ q => XT.pop X824.here hx rfl (D 6) rfl rfl (XS.aloadN X824.here hx rfl (D 7) rfl rfl q)) ?_
    refine own_gF X824 hx hZ hown (w61 hw) rfl F826 rfl rfl (D 8) fun T827 X827 e827 => ?_
    refine own_step (g' := (mkF m 17 #[sR a, sI (Int32.ofNat pn), sI 2, .unset, .unset, .unset, .unset, .unset, .unset, .unset] [])) (fun _ q => XS.istoreN X827.here hx rfl (D 9) rfl (l' := #[sR a, sI (Int32.ofNat pn), sI 2, .unset, .unset, .unset, .unset, .unset, .unset, .unset]) rfl q) ?_
    have c828 := ((Keep.refl h0 [a]).trans K824 (allS (Or.inl (List.mem_of_getElem? (i := 0) rfl)) all0))
    exact lp_n17 ((Int32.ofNat pn)) T827 T824.heap _ X827 e827 N825 c828 f0_824 f1_824 F826 
  · refine own_callQ X696 hx hZ hown (w201 hw) (w202 hw) (w50 hw) (w203 hw) (w204 hw) (by decide) (own_bO (W := 0) (own_nx0 l Z a0 hw [] G1 G3 a tx t kb cd N2 vs cs pn (45 : Int32) h0 n0 Z0 O2 O4 P5 rG3 OLD0 U1 U2 U3 E_a F_text_a F_pos_a E_tx F_value_tx F_coder_tx V_t hcod hcs h8 (by omega : pn < 8) (hm : ¬ cs.getD pn 0 = (45 : Int32))) hZ (w204 hw) (w40 hw) rfl rfl) e696 E_a  (by decide) (by decide) (argsL := [(.int (45 : Int32))]) (rest := []) rfl hml.symm (lenOf pd_16 rfl) rfl rfl (own_w0 rfl rfl) (D 5) ?_
    rintro _ T829 L829 X829 ⟨rfl, N829q, e829⟩
    have N830 := Fr.app (Fr.nil n0) N829q
    have qF831 : ((.int (Int32.ofNat pn)) : Value) = (.int (2 : Int32)) := (by subst hpn; rfl)
    have F831 : own_Fp Z h0 a (.int (2 : Int32)) := own_fixf qF831 F_pos_a
    refine own_step (g' := (mkF m 13 #[sR a, sI (Int32.ofNat pn), .unset, .unset, .unset, .unset, .unset, .unset, .unset, .unset] [(.ref a)])) (fun _ q => XT.pop X829.here hx rfl (D 6) rfl rfl (XS.aloadN X829.here hx rfl (D 7) rfl rfl q)) ?_
    refine own_gF X829 hx hZ hown (w61 hw) e829 F831 rfl rfl (D 8) fun T832 X832 e832 => ?_
    refine own_step (g' := (mkF m 17 #[sR a, sI (Int32.ofNat pn), sI 2, .unset, .unset, .unset, .unset, .unset, .unset, .unset] [])) (fun _ q => XS.istoreN X832.here hx rfl (D 9) rfl (l' := #[sR a, sI (Int32.ofNat pn), sI 2, .unset, .unset, .unset, .unset, .unset, .unset, .unset]) rfl q) ?_
    exact lp_n17 ((Int32.ofNat pn)) T832 h0 _ X832 e832 N830 (Keep.refl h0 [a]) E_a F_text_a F831 
theorem pd_28 : parseMethodDescriptor "(I)V" = some ⟨[.int], none⟩ := by decide +kernel
def Q_own_arr2 (Z : State) (G1 : Int32) (G3 : Value) (a tx t : Addr) (kb : ClassId) (cd N2 : Int32) (vs : List Value) (cs : List Int32) (h0 : Heap) (n0 : Nat) (v : Option Value) (h : Heap) (L : List Loc) : Prop := v = none ∧ Fr n0 L ∧ Keep h0 h [a] ∧ own_Ea Z h a ∧ own_Ft Z h a (.ref tx) ∧ own_Fp Z h a (.int (6 : Int32))
set_option maxRecDepth 65536 in
set_option maxHeartbeats 40000000 in
theorem own_arr2 (l : Launch) (Z : State) (a0 : Array Value) (hw : own_HW a0 Z) (ws : List Jvm.Cond) (G1 : Int32) (G3 : Value) (a tx t : Addr) (kb : ClassId) (cd N2 : Int32) (vs : List Value) (cs : List Int32) (h0 : Heap) (n0 : Nat) (Z0 : n0 ≤ h0.size) (O2 : own_O2 Z G1) (O4 : own_O4 Z G3) (P5 : ¬ (G1 = (0 : Int32))) (rG3 : G3.isRef = true) (OLD0 : Old Z n0 h0) (U1 : own_U0 Z) (U2 : own_U1 Z) (U3 : own_U2 Z) (E_a : own_Ea Z h0 a) (F_text_a : own_Ft Z h0 a (.ref tx)) (F_pos_a : own_Fp Z h0 a (.int (4 : Int32))) (E_tx : own_Es Z h0 tx) (F_value_tx : own_Sv Z h0 tx (.ref t)) (F_coder_tx : own_Sc Z h0 tx (.int cd)) (V_t : Arv Z h0 t kb .byte N2 vs (.int 0)) (hcod : StrChars.Road.CodA cs cd N2 vs) (hcs : own_R16 cs) (h8 : cs.length = 8) (ge_a : n0 ≤ a) (h5 : cs.getD 5 0 = (93 : Int32)) :
    own_MetW l Z own_EL ⟨"com/example/tote/tote/JsonText", "array", "(I)V"⟩ prog_12_method_5_code 2 none ws ⟨6, 2, 20, 80⟩ #[(.ref a), (.int (2 : Int32))] h0 (Q_own_arr2 Z G1 G3 a tx t kb cd N2 vs cs h0 n0) := by
  refine own_bodyNW (g0 := fun m => mkF m 0 #[sR a, sI 2] []) (plainFor_of_name pn_4) (fun _ => rfl) ?_
  intro p e s m below meth c s₁ hx hby hml hrt hlk hown hnm hZ e0 X0 hS CH0
  have D := own_d hby kD54
  have ty_a_tx : a ≠ tx := (Exa.ne E_a E_tx (by decide))
  have ty_a_t : a ≠ t := (Exa.neArv E_a V_t (w50 hw))
  have ty_tx_t : tx ≠ t := (Exa.neArv E_tx V_t (w10 hw))
  refine own_step (g' := (mkF m 2 #[sR a, sI 2] [(.int 2), (.ref a)])) (fun _ q => XS.aloadN X0.here hx rfl (D 0) rfl rfl (XS.iloadN X0.here hx rfl (D 1) rfl q)) ?_
  refine own_callQ X0 hx hZ hown (w240 hw) (w241 hw) (w50 hw) (w242 hw) (w243 hw) (by decide) (own_bO (W := 0) (own_dep2 l Z a0 hw [] a h0 n0 Z0 ) hZ (w243 hw) (w40 hw) rfl rfl) e0 E_a  (by decide) (by decide) (argsL := [(.int (2 : Int32))]) (rest := []) rfl hml.symm (lenOf pd_28 rfl) rfl rfl (own_w0 rfl rfl) (D 2) ?_
  rintro _ T833 L833 X833 ⟨rfl, N833q, e833⟩
  have N834 := Fr.app (Fr.nil n0) N833q
  refine own_step (g' := (mkF m 7 #[sR a, sI 2] [(.ref a), (.ref a)])) (fun _ q => XS.aloadN X833.here hx rfl (D 3) rfl rfl (XS.dup X833.here hx rfl (D 4) rfl rfl q)) ?_
  refine own_gF X833 hx hZ hown (w61 hw) e833 F_pos_a rfl rfl (D 5) fun T835 X835 e835 => ?_
  refine own_step (g' := (mkF m 12 #[sR a, sI 2] [(.int 5), (.ref a)])) (fun _ q => XS.iconst X835.here hx rfl (D 6) (XS.iadd X835.here hx rfl (D 7) rfl q)) ?_
  refine own_pF X835 hx hZ hown (w61 hw) e835 F_pos_a E_a (Or.inl (w62 hw)) (w50 hw) (ty := .int) (by decide) rfl rfl rfl rfl (D 8) fun T836 h836 X836 e836 W836 F837 => ?_
  have N838 := Fr.snoc X836 N834 ge_a
  have CH839 := CH0.trans (CHr.wr W836 (Safe.exa hZ.alike E_a (by decide) (by decide)) CH0.1)
  refine own_step (g' := (mkF m 16 #[sR a, sI 2] [(.ref a)])) (fun _ q => XS.aloadN X836.here hx rfl (D 9) rfl rfl q) ?_
  have c840 := (OLD0.wr W836 ge_a)
  have c841 := (E_a.wr W836)
  have c842 := (F_text_a.other W836 (Or.inr (RoadKit.slot_ne (t := (.object "java/lang/String")) (t' := .int) (Or.inr (w56 hw)) (Or.inl (w62 hw)) (by decide) (by decide) (by decide))))
  have c843 := (E_tx.wr W836)
  have c844 := (F_value_tx.other W836 (Or.inl (Ne.symm ty_a_tx)))
  have c845 := (F_coder_tx.other W836 (Or.inl (Ne.symm ty_a_tx)))
  have c846 := (V_t.other W836 (Ne.symm ty_a_t))
  have c847 := (Nat.le_trans Z0 (Keep.of_wr W836).1)
  have c849 := (Nat.le_trans (Nat.le_refl _) (Keep.of_wr W836).1)
  refine own_callQW X836 hx hZ hown hS c849 (w57 hw) (w58 hw) (w50 hw) (w59 hw) (w60 hw) (by decide) (own_bW (W := 0) (own_sw l Z a0 hw [] G1 G3 a tx t kb cd N2 vs cs 5 0 h836 n0 c847 O2 O4 P5 rG3 c840 U1 U2 U3 c841 c842 F837 c843 c844 c845 c846 hcod hcs h8 ge_a (fun _ q => absurd q (Nat.not_lt_zero _) : ∀ i, i < 0 → own_wh (cs.getD (5 + i) 0)) (Or.inr ⟨by decide, (own_nwe h5 own_nwc.2.2.2.2.1)⟩ : 5 + 0 = 8 ∨ (5 + 0 < 8 ∧ own_nwh (cs.getD (5 + 0) 0))) (by decide : 5 + 0 ≤ 8)) hZ (w60 hw) (w40 hw) rfl rfl (own_hEL hw) CH839.1) e836 c841  (by decide) (by decide) (argsL := []) (rest := []) rfl hml.symm (lenOf pd_22 rfl) rfl rfl (own_w0 rfl rfl) (D 10) ?_
  rintro _ T848 L848 X848 hS hZ hown C848 ⟨rfl, N848q, K848, f0_848, f1_848, f2_848⟩
  have CH850 := CH839.trans C848
  have N851 := Fr.app N838 N848q
  refine own_step (g' := (mkF m 22 #[sR a, sI 2] [(.int 93), (.ref a)])) (fun _ q => XS.aloadN X848.here hx rfl (D 11) rfl rfl (XS.bipush X848.here hx rfl (D 12) q)) ?_
  have c852 := (c840.keep K848 (allS ge_a all0))
  have c853 := (c843.keep K848)
  have c854 := (c844.keep K848 (ninS (Ne.symm ty_a_tx) nin0))
  have c855 := (c845.keep K848 (ninS (Ne.symm ty_a_tx) nin0))
  have c856 := (c846.keep K848 (ninS (Ne.symm ty_a_t) nin0))
  have c857 := (Nat.le_trans c847 K848.1)
  refine own_callQ X848 hx hZ hown (w201 hw) (w202 hw) (w50 hw) (w203 hw) (w204 hw) (by decide) (own_bO (W := 0) (own_nx1 l Z a0 hw [] G1 G3 a tx t kb cd N2 vs cs 5 (93 : Int32) T848.heap n0 c857 O2 O4 P5 rG3 c852 U1 U2 U3 f0_848 f1_848 f2_848 c853 c854 c855 c856 hcod hcs h8 ge_a (by omega : 5 < 8) (h5 : cs.getD 5 0 = (93 : Int32))) hZ (w204 hw) (w40 hw) rfl rfl) rfl f0_848  (by decide) (by decide) (argsL := [(.int (93 : Int32))]) (rest := []) rfl hml.symm (lenOf pd_16 rfl) rfl rfl (own_w0 rfl rfl) (D 13) ?_
  rintro _ T858 L858 X858 ⟨rfl, N858q, K858, f0_858, f1_858, f2_858⟩
  have CH859 := CH850.trans (CHr.keep K858 (sfS (Safe.exa hZ.alike f0_848 (by decide) (by decide)) sf0) CH850.1)
  have N860 := Fr.app N851 N858q
  refine own_step (g' := (mkF m 28 #[sR a, sI 2] [])) (fun _ q => XS.ifNo X858.here hx rfl (D 14) rfl (by decide) q) ?_
  have c861 := ((((Keep.refl h0 [a]).wr W836 (Or.inl (List.mem_of_getElem? (i := 0) rfl))).trans K848 (allS (Or.inl (List.mem_of_getElem? (i := 0) rfl)) all0)).trans K858 (allS (Or.inl (List.mem_of_getElem? (i := 0) rfl)) all0))
  have c862 := (Nat.le_trans (Nat.le_refl _) K858.1)
  exact own_retVW X858 hx hZ (own_hEL hw) hS c862 CH859 hrt (D 15) hlk ⟨rfl, N860, c861, f0_858, f1_858, f2_858⟩ (by decide) (by decide)
def Q_own_vi (Z : State) (G1 : Int32) (G3 : Value) (a tx t : Addr) (kb : ClassId) (cd N2 : Int32) (vs : List Value) (cs : List Int32) (pn q : Nat) (h0 : Heap) (n0 : Nat) (v : Option Value) (h : Heap) (L : List Loc) : Prop := v = none ∧ Fr n0 L ∧ Keep h0 h [a] ∧ own_Ea Z h a ∧ own_Ft Z h a (.ref tx) ∧ own_Fp Z h a (.int (Int32.ofNat q))
set_option maxRecDepth 65536 in
set_option maxHeartbeats 40000000 in
theorem own_vi (l : Launch) (Z : State) (a0 : Array Value) (hw : own_HW a0 Z) (ws : List Jvm.Cond) (G1 : Int32) (G3 : Value) (a tx t : Addr) (kb : ClassId) (cd N2 : Int32) (vs : List Value) (cs : List Int32) (pn q : Nat) (h0 : Heap) (n0 : Nat) (Z0 : n0 ≤ h0.size) (O2 : own_O2 Z G1) (O4 : own_O4 Z G3) (P5 : ¬ (G1 = (0 : Int32))) (rG3 : G3.isRef = true) (OLD0 : Old Z n0 h0) (U1 : own_U0 Z) (U2 : own_U1 Z) (U3 : own_U2 Z) (E_a : own_Ea Z h0 a) (F_text_a : own_Ft Z h0 a (.ref tx)) (F_pos_a : own_Fp Z h0 a (.int (Int32.ofNat pn))) (E_tx : own_Es Z h0 tx) (F_value_tx : own_Sv Z h0 tx (.ref t)) (F_coder_tx : own_Sc Z h0 tx (.int cd)) (V_t : Arv Z h0 t kb .byte N2 vs (.int 0)) (hcod : StrChars.Road.CodA cs cd N2 vs) (hcs : own_R16 cs) (h8 : cs.length = 8) (ge_a : n0 ≤ a) (hp : pn < 8) (hv : own_vin cs pn q) :
    own_MetW l Z own_EL ⟨"com/example/tote/tote/JsonText", "value", "(I)V"⟩ prog_12_method_3_code 3 none ws ⟨7, 2, 20, 109⟩ #[(.ref a), (.int (1 : Int32))] h0 (Q_own_vi Z G1 G3 a tx t kb cd N2 vs cs pn q h0 n0) := by
  refine own_bodyNW (g0 := fun m => mkF m 0 #[sR a, sI 1, .unset] []) (plainFor_of_name pn_4) (fun _ => rfl) ?_
  intro p e s m below meth c s₁ hx hby hml hrt hlk hown hnm hZ e0 X0 hS CH0
  have D := own_d hby kD27
  have ty_a_tx : a ≠ tx := (Exa.ne E_a E_tx (by decide))
  have ty_a_t : a ≠ t := (Exa.neArv E_a V_t (w50 hw))
  have ty_tx_t : tx ≠ t := (Exa.neArv E_tx V_t (w10 hw))
  refine own_step (g' := (mkF m 1 #[sR a, sI 1, .unset] [(.ref a)])) (fun _ q => XS.aloadN X0.here hx rfl (D 0) rfl rfl q) ?_
  refine own_gF X0 hx hZ hown (w61 hw) e0 F_pos_a rfl rfl (D 1) fun T863 X863 e863 => ?_
  refine own_step (g' := (mkF m 5 #[sR a, sI 1, .unset] [(.ref a), (.int (Int32.ofNat pn))])) (fun _ q => XS.aloadN X863.here hx rfl (D 2) rfl rfl q) ?_
  refine own_gF X863 hx hZ hown (w55 hw) e863 F_text_a rfl rfl (D 3) fun T864 X864 e864 => ?_
  refine own_callV X864 hx hZ hown (w63 hw) (w64 hw) (notFace_of_selects (args := #[]) (mvT hZ (w66 hw))) (w66 hw) (w65 hw) (by decide) (own_bO (W := 1) (own_l8 l Z a0 hw [] G1 G3 tx t kb cd N2 vs cs h0 n0 Z0 O2 O4 P5 rG3 OLD0 E_tx F_value_tx F_coder_tx V_t hcod hcs h8) hZ (w67 hw) (w11 hw) rfl rfl) e864 E_tx  (by decide) (by decide) (argsL := []) (rest := [(.int (Int32.ofNat pn))]) rfl hml.symm (lenOf pd_14 rfl) rfl rfl (own_w0 rfl rfl) (D 4) ?_
  rintro _ T865 L865 X865 ⟨rfl, N865q, e865⟩
  have N866 := Fr.app (Fr.nil n0) N865q
  have hc867 : ((Int32.ofNat pn) < (8 : Int32)) := (own_lt8 hp)
  refine own_step (g' := (mkF m 22 #[sR a, sI 1, .unset] [(.ref a)])) (fun _ q => XS.icmpYes X865.here hx rfl (pc0 := 11) (pc' := 21) rfl (D 5) rfl (XT.ii_lt_t hc867) (by decide) (by decide) (XS.aloadN X865.here hx rfl (D 6) rfl rfl q)) ?_
  refine own_gF X865 hx hZ hown (w55 hw) e865 F_text_a rfl rfl (D 7) fun T868 X868 e868 => ?_
  refine own_step (g' := (mkF m 26 #[sR a, sI 1, .unset] [(.ref a), (.ref tx)])) (fun _ q => XS.aloadN X868.here hx rfl (D 8) rfl rfl q) ?_
  refine own_gF X868 hx hZ hown (w61 hw) e868 F_pos_a rfl rfl (D 9) fun T869 X869 e869 => ?_
  refine own_callV X869 hx hZ hown (w74 hw) (w75 hw) (notFace_of_selects (args := #[]) (mvT hZ (w77 hw))) (w77 hw) (w76 hw) (by decide) (own_bO (W := 0) (own_char l Z a0 hw [] G1 G3 tx t kb cd N2 vs cs pn h0 n0 Z0 O2 O4 P5 rG3 OLD0 U1 U2 U3 E_tx F_value_tx F_coder_tx V_t hcod hcs (by omega : cs.length ≤ 400) (by omega : pn < cs.length)) hZ (w78 hw) (w11 hw) rfl rfl) e869 E_tx  (by decide) (by decide) (argsL := [(.int (Int32.ofNat pn))]) (rest := []) rfl hml.symm (lenOf pd_15 rfl) rfl rfl (own_w0 rfl rfl) (D 10) ?_
  rintro _ T870 L870 X870 ⟨rfl, N870q, e870⟩
  have N871 := Fr.app N866 N870q
  refine own_step (g' := (mkF m 33 #[sR a, sI 1, sI (cs.getD pn 0)] [])) (fun _ q => XS.istoreN X870.here hx rfl (D 11) rfl (l' := #[sR a, sI 1, sI (cs.getD pn 0)]) rfl q) ?_
  rcases hv with ⟨nd, hq, h1, hnd8, hdg, h48, hen, h46, h101, h69⟩ | ⟨hpn, hq, h4, h5⟩
  · refine own_step (g' := (mkF m 36 #[sR a, sI 1, sI (cs.getD pn 0)] [(.int 123), (.int (cs.getD pn 0))])) (fun _ q => XS.iloadN X870.here hx rfl (D 12) rfl (XS.bipush X870.here hx rfl (D 13) q)) ?_
    have hc872 : ¬ ((cs.getD pn 0) = (123 : Int32)) := (own_dgn (hdg 0 h1)).2.2.2.1
    refine own_step (g' := (mkF m 52 #[sR a, sI 1, sI (cs.getD pn 0)] [(.int 91), (.int (cs.getD pn 0))])) (fun _ q => XS.icmpYes X870.here hx rfl (pc0 := 36) (pc' := 49) rfl (D 14) rfl (XT.ii_ne_t hc872) (by decide) (by decide) (XS.iloadN X870.here hx rfl (D 21) rfl (XS.bipush X870.here hx rfl (D 22) q))) ?_
    have hc873 : ¬ ((cs.getD pn 0) = (91 : Int32)) := (own_dgn (hdg 0 h1)).2.2.1
    refine own_step (g' := (mkF m 68 #[sR a, sI 1, sI (cs.getD pn 0)] [(.int 34), (.int (cs.getD pn 0))])) (fun _ q => XS.icmpYes X870.here hx rfl (pc0 := 52) (pc' := 65) rfl (D 23) rfl (XT.ii_ne_t hc873) (by decide) (by decide) (XS.iloadN X870.here hx rfl (D 30) rfl (XS.bipush X870.here hx rfl (D 31) q))) ?_
    have hc874 : ¬ ((cs.getD pn 0) = (34 : Int32)) := (own_dgn (hdg 0 h1)).2.1
    refine own_step (g' := (mkF m 81 #[sR a, sI 1, sI (cs.getD pn 0)] [(.int 45), (.int (cs.getD pn 0))])) (fun _ q => XS.icmpYes X870.here hx rfl (pc0 := 68) (pc' := 78) rfl (D 32) rfl (XT.ii_ne_t hc874) (by decide) (by decide) (XS.iloadN X870.here hx rfl (D 36) rfl (XS.bipush X870.here hx rfl (D 37) q))) ?_
    have hc875 : ¬ ((cs.getD pn 0) = (45 : Int32)) := (own_dgn (hdg 0 h1)).1
    refine own_step (g' := (mkF m 85 #[sR a, sI 1, sI (cs.getD pn 0)] [(.int (cs.getD pn 0))])) (fun _ q => XS.icmpNo X870.here hx rfl (D 38) rfl (XT.ii_eq_f hc875) (XS.iloadN X870.here hx rfl (D 39) rfl q)) ?_
    refine own_callS X870 hx hZ hown (w139 hw) (w140 hw) (w40 hw) (w141 hw) (by decide) (own_bO (W := 0) (own_isd1 l Z a0 hw [] (cs.getD pn 0) h0 n0 Z0 ((hdg 0 h1) : ¬ (cs.getD pn 0) < (48 : Int32) ∧ ¬ (57 : Int32) < (cs.getD pn 0))) hZ (w141 hw) (w40 hw) rfl rfl) e870  (by decide) (by decide) (argsL := [(.int (cs.getD pn 0))]) (rest := []) rfl hml.symm (lenOf pd_16 rfl) rfl rfl (own_w0 rfl rfl) (D 40) ?_
    rintro _ T876 L876 X876 ⟨rfl, N876q, e876⟩
    have N877 := Fr.app N871 N876q
    refine own_step (g' := (mkF m 92 #[sR a, sI 1, sI (cs.getD pn 0)] [(.ref a)])) (fun _ q => XS.ifNo X876.here hx rfl (D 41) rfl (by decide) (XS.aloadN X876.here hx rfl (D 42) rfl rfl q)) ?_
    refine own_callQ X876 hx hZ hown (w197 hw) (w198 hw) (w50 hw) (w199 hw) (w200 hw) (by decide) (own_bO (W := 0) (own_numA l Z a0 hw [] G1 G3 a tx t kb cd N2 vs cs pn nd h0 n0 Z0 O2 O4 P5 rG3 OLD0 U1 U2 U3 E_a F_text_a F_pos_a E_tx F_value_tx F_coder_tx V_t hcod hcs h8 ge_a h1 hnd8 hdg h48 hen h46 h101 h69) hZ (w200 hw) (w40 hw) rfl rfl) e876 E_a  (by decide) (by decide) (argsL := []) (rest := []) rfl hml.symm (lenOf pd_22 rfl) rfl rfl (own_w0 rfl rfl) (D 43) ?_
    rintro _ T878 L878 X878 ⟨rfl, N878q, K878, f0_878, f1_878, f2_878⟩
    have CH879 := CH0.trans (CHr.keep K878 (sfS (Safe.exa hZ.alike E_a (by decide) (by decide)) sf0) CH0.1)
    have N880 := Fr.app N877 N878q
    refine own_step (g' := (mkF m 132 #[sR a, sI 1, sI (cs.getD pn 0)] [])) (fun _ q => XS.goto X878.here hx rfl (pc0 := 95) (pc' := 132) rfl (D 44) (by decide) (by decide) q) ?_
    have qF881 : ((.int (Int32.ofNat (pn + nd))) : Value) = (.int (Int32.ofNat q)) := (by rw [hq])
    have F881 : own_Fp Z T878.heap a (.int (Int32.ofNat q)) := own_fixf qF881 f2_878
    have c882 := ((Keep.refl h0 [a]).trans K878 (allS (Or.inl (List.mem_of_getElem? (i := 0) rfl)) all0))
    have c883 := (Nat.le_trans (Nat.le_refl _) K878.1)
    exact own_retVW X878 hx hZ (own_hEL hw) hS c883 CH879 hrt (D 57) hlk ⟨rfl, N880, c882, f0_878, f1_878, F881⟩ (by decide) (by decide)
  · refine own_step (g' := (mkF m 36 #[sR a, sI 1, sI (cs.getD pn 0)] [(.int 123), (.int (cs.getD pn 0))])) (fun _ q => XS.iloadN X870.here hx rfl (D 12) rfl (XS.bipush X870.here hx rfl (D 13) q)) ?_
    have hc884 : ¬ ((cs.getD pn 0) = (123 : Int32)) := (by rw [hpn, h4]; decide)
    refine own_step (g' := (mkF m 52 #[sR a, sI 1, sI (cs.getD pn 0)] [(.int 91), (.int (cs.getD pn 0))])) (fun _ q => XS.icmpYes X870.here hx rfl (pc0 := 36) (pc' := 49) rfl (D 14) rfl (XT.ii_ne_t hc884) (by decide) (by decide) (XS.iloadN X870.here hx rfl (D 21) rfl (XS.bipush X870.here hx rfl (D 22) q))) ?_
    have hc885 : ((cs.getD pn 0) = (91 : Int32)) := (by rw [hpn]; exact h4)
    refine own_step (g' := (mkF m 55 #[sR a, sI 1, sI (cs.getD pn 0)] [])) (fun _ q => XS.icmpNo X870.here hx rfl (D 23) rfl (XT.ii_ne_f hc885) q) ?_
    have qF886 : ((.int (Int32.ofNat pn)) : Value) = (.int (4 : Int32)) := (by subst hpn; rfl)
    have F886 : own_Fp Z h0 a (.int (4 : Int32)) := own_fixf qF886 F_pos_a
    refine own_step (g' := (mkF m 59 #[sR a, sI 1, sI (cs.getD pn 0)] [(.int 2), (.ref a)])) (fun _ q => XS.aloadN X870.here hx rfl (D 24) rfl rfl (XS.iloadN X870.here hx rfl (D 25) rfl (XS.iconst X870.here hx rfl (D 26) (XS.iadd X870.here hx rfl (D 27) rfl q)))) ?_
    refine own_callQW X870 hx hZ hown hS (Nat.le_refl _) (w236 hw) (w237 hw) (w50 hw) (w238 hw) (w239 hw) (by decide) (own_bW (W := 0) (own_arr2 l Z a0 hw [] G1 G3 a tx t kb cd N2 vs cs h0 n0 Z0 O2 O4 P5 rG3 OLD0 U1 U2 U3 E_a F_text_a F886 E_tx F_value_tx F_coder_tx V_t hcod hcs h8 ge_a h5) hZ (w239 hw) (w40 hw) rfl rfl (own_hEL hw) CH0.1) e870 E_a  (by decide) (by decide) (argsL := [(.int (2 : Int32))]) (rest := []) rfl hml.symm (lenOf pd_28 rfl) rfl rfl (own_w0 rfl rfl) (D 28) ?_
    rintro _ T887 L887 X887 hS hZ hown C887 ⟨rfl, N887q, K887, f0_887, f1_887, f2_887⟩
    have CH888 := CH0.trans C887
    have N889 := Fr.app N871 N887q
    refine own_step (g' := (mkF m 132 #[sR a, sI 1, sI (cs.getD pn 0)] [])) (fun _ q => XS.goto X887.here hx rfl (pc0 := 62) (pc' := 132) rfl (D 29) (by decide) (by decide) q) ?_
    have qF890 : ((.int (6 : Int32)) : Value) = (.int (Int32.ofNat q)) := (by subst hq; rfl)
    have F890 : own_Fp Z T887.heap a (.int (Int32.ofNat q)) := own_fixf qF890 f2_887
    have c891 := ((Keep.refl h0 [a]).trans K887 (allS (Or.inl (List.mem_of_getElem? (i := 0) rfl)) all0))
    exact own_retVW X887 hx hZ (own_hEL hw) hS (Nat.le_refl _) CH888 hrt (D 57) hlk ⟨rfl, N889, c891, f0_887, f1_887, F890⟩ (by decide) (by decide)
theorem pd_29 : parseMethodDescriptor "(C)V" = some ⟨[.char], none⟩ := by decide +kernel
def Q_own_arr1 (Z : State) (G1 : Int32) (G3 : Value) (a tx t : Addr) (kb : ClassId) (cd N2 : Int32) (vs : List Value) (cs : List Int32) (h0 : Heap) (n0 : Nat) (v : Option Value) (h : Heap) (L : List Loc) : Prop := v = none ∧ Fr n0 L ∧ Keep h0 h [a] ∧ own_Ea Z h a ∧ own_Ft Z h a (.ref tx) ∧ own_Fp Z h a (.int (7 : Int32))
set_option maxRecDepth 65536 in
set_option maxHeartbeats 40000000 in
theorem own_arr1 (l : Launch) (Z : State) (a0 : Array Value) (hw : own_HW a0 Z) (ws : List Jvm.Cond) (G1 : Int32) (G3 : Value) (a tx t : Addr) (kb : ClassId) (cd N2 : Int32) (vs : List Value) (cs : List Int32) (h0 : Heap) (n0 : Nat) (Z0 : n0 ≤ h0.size) (O2 : own_O2 Z G1) (O4 : own_O4 Z G3) (P5 : ¬ (G1 = (0 : Int32))) (rG3 : G3.isRef = true) (OLD0 : Old Z n0 h0) (U1 : own_U0 Z) (U2 : own_U1 Z) (U3 : own_U2 Z) (E_a : own_Ea Z h0 a) (F_text_a : own_Ft Z h0 a (.ref tx)) (F_pos_a : own_Fp Z h0 a (.int (1 : Int32))) (E_tx : own_Es Z h0 tx) (F_value_tx : own_Sv Z h0 tx (.ref t)) (F_coder_tx : own_Sc Z h0 tx (.int cd)) (V_t : Arv Z h0 t kb .byte N2 vs (.int 0)) (hcod : StrChars.Road.CodA cs cd N2 vs) (hcs : own_R16 cs) (h8 : cs.length = 8) (ge_a : n0 ≤ a) (hd2 : ¬ cs.getD 2 0 < (48 : Int32) ∧ ¬ (57 : Int32) < cs.getD 2 0) (h3 : cs.getD 3 0 = (44 : Int32)) (h4 : cs.getD 4 0 = (91 : Int32)) (h5 : cs.getD 5 0 = (93 : Int32)) (h6 : cs.getD 6 0 = (93 : Int32)) :
    own_MetW l Z own_EL ⟨"com/example/tote/tote/JsonText", "array", "(I)V"⟩ prog_12_method_5_code 2 none ws ⟨8, 14, 140, 123⟩ #[(.ref a), (.int (1 : Int32))] h0 (Q_own_arr1 Z G1 G3 a tx t kb cd N2 vs cs h0 n0) := by
  refine own_bodyNW (g0 := fun m => mkF m 0 #[sR a, sI 1] []) (plainFor_of_name pn_4) (fun _ => rfl) ?_
  intro p e s m below meth c s₁ hx hby hml hrt hlk hown hnm hZ e0 X0 hS CH0
  have D := own_d hby kD54
  have ty_a_tx : a ≠ tx := (Exa.ne E_a E_tx (by decide))
  have ty_a_t : a ≠ t := (Exa.neArv E_a V_t (w50 hw))
  have ty_tx_t : tx ≠ t := (Exa.neArv E_tx V_t (w10 hw))
  refine own_step (g' := (mkF m 2 #[sR a, sI 1] [(.int 1), (.ref a)])) (fun _ q => XS.aloadN X0.here hx rfl (D 0) rfl rfl (XS.iloadN X0.here hx rfl (D 1) rfl q)) ?_
  refine own_callQ X0 hx hZ hown (w240 hw) (w241 hw) (w50 hw) (w242 hw) (w243 hw) (by decide) (own_bO (W := 0) (own_dep1 l Z a0 hw [] a h0 n0 Z0 ) hZ (w243 hw) (w40 hw) rfl rfl) e0 E_a  (by decide) (by decide) (argsL := [(.int (1 : Int32))]) (rest := []) rfl hml.symm (lenOf pd_28 rfl) rfl rfl (own_w0 rfl rfl) (D 2) ?_
  rintro _ T892 L892 X892 ⟨rfl, N892q, e892⟩
  have N893 := Fr.app (Fr.nil n0) N892q
  refine own_step (g' := (mkF m 7 #[sR a, sI 1] [(.ref a), (.ref a)])) (fun _ q => XS.aloadN X892.here hx rfl (D 3) rfl rfl (XS.dup X892.here hx rfl (D 4) rfl rfl q)) ?_
  refine own_gF X892 hx hZ hown (w61 hw) e892 F_pos_a rfl rfl (D 5) fun T894 X894 e894 => ?_
  refine own_step (g' := (mkF m 12 #[sR a, sI 1] [(.int 2), (.ref a)])) (fun _ q => XS.iconst X894.here hx rfl (D 6) (XS.iadd X894.here hx rfl (D 7) rfl q)) ?_
  refine own_pF X894 hx hZ hown (w61 hw) e894 F_pos_a E_a (Or.inl (w62 hw)) (w50 hw) (ty := .int) (by decide) rfl rfl rfl rfl (D 8) fun T895 h895 X895 e895 W895 F896 => ?_
  have N897 := Fr.snoc X895 N893 ge_a
  have CH898 := CH0.trans (CHr.wr W895 (Safe.exa hZ.alike E_a (by decide) (by decide)) CH0.1)
  refine own_step (g' := (mkF m 16 #[sR a, sI 1] [(.ref a)])) (fun _ q => XS.aloadN X895.here hx rfl (D 9) rfl rfl q) ?_
  have c899 := (OLD0.wr W895 ge_a)
  have c900 := (E_a.wr W895)
  have c901 := (F_text_a.other W895 (Or.inr (RoadKit.slot_ne (t := (.object "java/lang/String")) (t' := .int) (Or.inr (w56 hw)) (Or.inl (w62 hw)) (by decide) (by decide) (by decide))))
  have c902 := (E_tx.wr W895)
  have c903 := (F_value_tx.other W895 (Or.inl (Ne.symm ty_a_tx)))
  have c904 := (F_coder_tx.other W895 (Or.inl (Ne.symm ty_a_tx)))
  have c905 := (V_t.other W895 (Ne.symm ty_a_t))
  have c906 := (Nat.le_trans Z0 (Keep.of_wr W895).1)
  have c908 := (Nat.le_trans (Nat.le_refl _) (Keep.of_wr W895).1)
  refine own_callQW X895 hx hZ hown hS c908 (w57 hw) (w58 hw) (w50 hw) (w59 hw) (w60 hw) (by decide) (own_bW (W := 0) (own_sw l Z a0 hw [] G1 G3 a tx t kb cd N2 vs cs 2 0 h895 n0 c906 O2 O4 P5 rG3 c899 U1 U2 U3 c900 c901 F896 c902 c903 c904 c905 hcod hcs h8 ge_a (fun _ q => absurd q (Nat.not_lt_zero _) : ∀ i, i < 0 → own_wh (cs.getD (2 + i) 0)) (Or.inr ⟨by decide, (own_nwd hd2)⟩ : 2 + 0 = 8 ∨ (2 + 0 < 8 ∧ own_nwh (cs.getD (2 + 0) 0))) (by decide : 2 + 0 ≤ 8)) hZ (w60 hw) (w40 hw) rfl rfl (own_hEL hw) CH898.1) e895 c900  (by decide) (by decide) (argsL := []) (rest := []) rfl hml.symm (lenOf pd_22 rfl) rfl rfl (own_w0 rfl rfl) (D 10) ?_
  rintro _ T907 L907 X907 hS hZ hown C907 ⟨rfl, N907q, K907, f0_907, f1_907, f2_907⟩
  have CH909 := CH898.trans C907
  have N910 := Fr.app N897 N907q
  refine own_step (g' := (mkF m 22 #[sR a, sI 1] [(.int 93), (.ref a)])) (fun _ q => XS.aloadN X907.here hx rfl (D 11) rfl rfl (XS.bipush X907.here hx rfl (D 12) q)) ?_
  have c911 := (c899.keep K907 (allS ge_a all0))
  have c912 := (c902.keep K907)
  have c913 := (c903.keep K907 (ninS (Ne.symm ty_a_tx) nin0))
  have c914 := (c904.keep K907 (ninS (Ne.symm ty_a_tx) nin0))
  have c915 := (c905.keep K907 (ninS (Ne.symm ty_a_t) nin0))
  have c916 := (Nat.le_trans c906 K907.1)
  refine own_callQ X907 hx hZ hown (w201 hw) (w202 hw) (w50 hw) (w203 hw) (w204 hw) (by decide) (own_bO (W := 0) (own_nx0 l Z a0 hw [] G1 G3 a tx t kb cd N2 vs cs 2 (93 : Int32) T907.heap n0 c916 O2 O4 P5 rG3 c911 U1 U2 U3 f0_907 f1_907 f2_907 c912 c913 c914 c915 hcod hcs h8 (by omega : 2 < 8) ((own_dgn hd2).2.2.2.2.2 : ¬ cs.getD 2 0 = (93 : Int32))) hZ (w204 hw) (w40 hw) rfl rfl) rfl f0_907  (by decide) (by decide) (argsL := [(.int (93 : Int32))]) (rest := []) rfl hml.symm (lenOf pd_16 rfl) rfl rfl (own_w0 rfl rfl) (D 13) ?_
  rintro _ T917 L917 X917 ⟨rfl, N917q, e917⟩
  have N918 := Fr.app N910 N917q
  refine own_step (g' := (mkF m 30 #[sR a, sI 1] [(.ref a)])) (fun _ q => XS.ifYes X917.here hx rfl (pc0 := 25) (pc' := 29) rfl (D 14) rfl (by decide) (by decide) (by decide) (XS.aloadN X917.here hx rfl (D 16) rfl rfl q)) ?_
  refine own_callQW X917 hx hZ hown hS (Nat.le_refl _) (w57 hw) (w58 hw) (w50 hw) (w59 hw) (w60 hw) (by decide) (own_bW (W := 0) (own_sw l Z a0 hw [] G1 G3 a tx t kb cd N2 vs cs 2 0 T907.heap n0 c916 O2 O4 P5 rG3 c911 U1 U2 U3 f0_907 f1_907 f2_907 c912 c913 c914 c915 hcod hcs h8 ge_a (fun _ q => absurd q (Nat.not_lt_zero _) : ∀ i, i < 0 → own_wh (cs.getD (2 + i) 0)) (Or.inr ⟨by decide, (own_nwd hd2)⟩ : 2 + 0 = 8 ∨ (2 + 0 < 8 ∧ own_nwh (cs.getD (2 + 0) 0))) (by decide : 2 + 0 ≤ 8)) hZ (w60 hw) (w40 hw) rfl rfl (own_hEL hw) CH909.1) e917 f0_907  (by decide) (by decide) (argsL := []) (rest := []) rfl hml.symm (lenOf pd_22 rfl) rfl rfl (own_w0 rfl rfl) (D 17) ?_
  rintro _ T919 L919 X919 hS hZ hown C919 ⟨rfl, N919q, K919, f0_919, f1_919, f2_919⟩
  have CH920 := CH909.trans C919
  have N921 := Fr.app N918 N919q
  refine own_step (g' := (mkF m 35 #[sR a, sI 1] [(.int 1), (.ref a)])) (fun _ q => XS.aloadN X919.here hx rfl (D 18) rfl rfl (XS.iloadN X919.here hx rfl (D 19) rfl q)) ?_
  have c922 := (c911.keep K919 (allS ge_a all0))
  have c923 := (c912.keep K919)
  have c924 := (c913.keep K919 (ninS (Ne.symm ty_a_tx) nin0))
  have c925 := (c914.keep K919 (ninS (Ne.symm ty_a_tx) nin0))
  have c926 := (c915.keep K919 (ninS (Ne.symm ty_a_t) nin0))
  have c927 := (Nat.le_trans c916 K919.1)
  refine own_callQW X919 hx hZ hown hS (Nat.le_refl _) (w123 hw) (w124 hw) (w50 hw) (w125 hw) (w126 hw) (by decide) (own_bW (W := 0) (own_vi l Z a0 hw [] G1 G3 a tx t kb cd N2 vs cs 2 3 T919.heap n0 c927 O2 O4 P5 rG3 c922 U1 U2 U3 f0_919 f1_919 f2_919 c923 c924 c925 c926 hcod hcs h8 ge_a (by omega : 2 < 8) ((own_v1 hd2 h3) : own_vin cs 2 3)) hZ (w126 hw) (w40 hw) rfl rfl (own_hEL hw) CH920.1) rfl f0_919  (by decide) (by decide) (argsL := [(.int (1 : Int32))]) (rest := []) rfl hml.symm (lenOf pd_28 rfl) rfl rfl (own_w0 rfl rfl) (D 20) ?_
  rintro _ T928 L928 X928 hS hZ hown C928 ⟨rfl, N928q, K928, f0_928, f1_928, f2_928⟩
  have CH929 := CH920.trans C928
  have N930 := Fr.app N921 N928q
  refine own_step (g' := (mkF m 39 #[sR a, sI 1] [(.ref a)])) (fun _ q => XS.aloadN X928.here hx rfl (D 21) rfl rfl q) ?_
  have c931 := (c922.keep K928 (allS ge_a all0))
  have c932 := (c923.keep K928)
  have c933 := (c924.keep K928 (ninS (Ne.symm ty_a_tx) nin0))
  have c934 := (c925.keep K928 (ninS (Ne.symm ty_a_tx) nin0))
  have c935 := (c926.keep K928 (ninS (Ne.symm ty_a_t) nin0))
  have c936 := (Nat.le_trans c927 K928.1)
  refine own_callQW X928 hx hZ hown hS (Nat.le_refl _) (w57 hw) (w58 hw) (w50 hw) (w59 hw) (w60 hw) (by decide) (own_bW (W := 0) (own_sw l Z a0 hw [] G1 G3 a tx t kb cd N2 vs cs 3 0 T928.heap n0 c936 O2 O4 P5 rG3 c931 U1 U2 U3 f0_928 f1_928 f2_928 c932 c933 c934 c935 hcod hcs h8 ge_a (fun _ q => absurd q (Nat.not_lt_zero _) : ∀ i, i < 0 → own_wh (cs.getD (3 + i) 0)) (Or.inr ⟨by decide, (own_nwe h3 own_nwc.2.1)⟩ : 3 + 0 = 8 ∨ (3 + 0 < 8 ∧ own_nwh (cs.getD (3 + 0) 0))) (by decide : 3 + 0 ≤ 8)) hZ (w60 hw) (w40 hw) rfl rfl (own_hEL hw) CH929.1) rfl f0_928  (by decide) (by decide) (argsL := []) (rest := []) rfl hml.symm (lenOf pd_22 rfl) rfl rfl (own_w0 rfl rfl) (D 22) ?_
  rintro _ T937 L937 X937 hS hZ hown C937 ⟨rfl, N937q, K937, f0_937, f1_937, f2_937⟩
  have CH938 := CH929.trans C937
  have N939 := Fr.app N930 N937q
  refine own_step (g' := (mkF m 45 #[sR a, sI 1] [(.int 44), (.ref a)])) (fun _ q => XS.aloadN X937.here hx rfl (D 23) rfl rfl (XS.bipush X937.here hx rfl (D 24) q)) ?_
  have c940 := (c931.keep K937 (allS ge_a all0))
  have c941 := (c932.keep K937)
  have c942 := (c933.keep K937 (ninS (Ne.symm ty_a_tx) nin0))
  have c943 := (c934.keep K937 (ninS (Ne.symm ty_a_tx) nin0))
  have c944 := (c935.keep K937 (ninS (Ne.symm ty_a_t) nin0))
  have c945 := (Nat.le_trans c936 K937.1)
  refine own_callQ X937 hx hZ hown (w201 hw) (w202 hw) (w50 hw) (w203 hw) (w204 hw) (by decide) (own_bO (W := 0) (own_nx1 l Z a0 hw [] G1 G3 a tx t kb cd N2 vs cs 3 (44 : Int32) T937.heap n0 c945 O2 O4 P5 rG3 c940 U1 U2 U3 f0_937 f1_937 f2_937 c941 c942 c943 c944 hcod hcs h8 ge_a (by omega : 3 < 8) (h3 : cs.getD 3 0 = (44 : Int32))) hZ (w204 hw) (w40 hw) rfl rfl) rfl f0_937  (by decide) (by decide) (argsL := [(.int (44 : Int32))]) (rest := []) rfl hml.symm (lenOf pd_16 rfl) rfl rfl (own_w0 rfl rfl) (D 25) ?_
  rintro _ T946 L946 X946 ⟨rfl, N946q, K946, f0_946, f1_946, f2_946⟩
  have CH947 := CH938.trans (CHr.keep K946 (sfS (Safe.exa hZ.alike f0_937 (by decide) (by decide)) sf0) CH938.1)
  have N948 := Fr.app N939 N946q
  refine own_step (g' := (mkF m 30 #[sR a, sI 1] [(.ref a)])) (fun _ q => XS.ifYes X946.here hx rfl (pc0 := 48) (pc' := 29) rfl (D 26) rfl (by decide) (by decide) (by decide) (XS.aloadN X946.here hx rfl (D 16) rfl rfl q)) ?_
  have c949 := (c940.keep K946 (allS ge_a all0))
  have c950 := (c941.keep K946)
  have c951 := (c942.keep K946 (ninS (Ne.symm ty_a_tx) nin0))
  have c952 := (c943.keep K946 (ninS (Ne.symm ty_a_tx) nin0))
  have c953 := (c944.keep K946 (ninS (Ne.symm ty_a_t) nin0))
  have c954 := (Nat.le_trans c945 K946.1)
  have c956 := (Nat.le_trans (Nat.le_refl _) K946.1)
  refine own_callQW X946 hx hZ hown hS c956 (w57 hw) (w58 hw) (w50 hw) (w59 hw) (w60 hw) (by decide) (own_bW (W := 0) (own_sw l Z a0 hw [] G1 G3 a tx t kb cd N2 vs cs 4 0 T946.heap n0 c954 O2 O4 P5 rG3 c949 U1 U2 U3 f0_946 f1_946 f2_946 c950 c951 c952 c953 hcod hcs h8 ge_a (fun _ q => absurd q (Nat.not_lt_zero _) : ∀ i, i < 0 → own_wh (cs.getD (4 + i) 0)) (Or.inr ⟨by decide, (own_nwe h4 own_nwc.2.2.2.1)⟩ : 4 + 0 = 8 ∨ (4 + 0 < 8 ∧ own_nwh (cs.getD (4 + 0) 0))) (by decide : 4 + 0 ≤ 8)) hZ (w60 hw) (w40 hw) rfl rfl (own_hEL hw) CH947.1) rfl f0_946  (by decide) (by decide) (argsL := []) (rest := []) rfl hml.symm (lenOf pd_22 rfl) rfl rfl (own_w0 rfl rfl) (D 17) ?_
  rintro _ T955 L955 X955 hS hZ hown C955 ⟨rfl, N955q, K955, f0_955, f1_955, f2_955⟩
  have CH957 := CH947.trans C955
  have N958 := Fr.app N948 N955q
  refine own_step (g' := (mkF m 35 #[sR a, sI 1] [(.int 1), (.ref a)])) (fun _ q => XS.aloadN X955.here hx rfl (D 18) rfl rfl (XS.iloadN X955.here hx rfl (D 19) rfl q)) ?_
  have c959 := (c949.keep K955 (allS ge_a all0))
  have c960 := (c950.keep K955)
  have c961 := (c951.keep K955 (ninS (Ne.symm ty_a_tx) nin0))
  have c962 := (c952.keep K955 (ninS (Ne.symm ty_a_tx) nin0))
  have c963 := (c953.keep K955 (ninS (Ne.symm ty_a_t) nin0))
  have c964 := (Nat.le_trans c954 K955.1)
  refine own_callQW X955 hx hZ hown hS (Nat.le_refl _) (w123 hw) (w124 hw) (w50 hw) (w125 hw) (w126 hw) (by decide) (own_bW (W := 0) (own_vi l Z a0 hw [] G1 G3 a tx t kb cd N2 vs cs 4 6 T955.heap n0 c964 O2 O4 P5 rG3 c959 U1 U2 U3 f0_955 f1_955 f2_955 c960 c961 c962 c963 hcod hcs h8 ge_a (by omega : 4 < 8) (Or.inr ⟨rfl, rfl, h4, h5⟩ : own_vin cs 4 6)) hZ (w126 hw) (w40 hw) rfl rfl (own_hEL hw) CH957.1) rfl f0_955  (by decide) (by decide) (argsL := [(.int (1 : Int32))]) (rest := []) rfl hml.symm (lenOf pd_28 rfl) rfl rfl (own_w0 rfl rfl) (D 20) ?_
  rintro _ T965 L965 X965 hS hZ hown C965 ⟨rfl, N965q, K965, f0_965, f1_965, f2_965⟩
  have CH966 := CH957.trans C965
  have N967 := Fr.app N958 N965q
  refine own_step (g' := (mkF m 39 #[sR a, sI 1] [(.ref a)])) (fun _ q => XS.aloadN X965.here hx rfl (D 21) rfl rfl q) ?_
  have c968 := (c959.keep K965 (allS ge_a all0))
  have c969 := (c960.keep K965)
  have c970 := (c961.keep K965 (ninS (Ne.symm ty_a_tx) nin0))
  have c971 := (c962.keep K965 (ninS (Ne.symm ty_a_tx) nin0))
  have c972 := (c963.keep K965 (ninS (Ne.symm ty_a_t) nin0))
  have c973 := (Nat.le_trans c964 K965.1)
  refine own_callQW X965 hx hZ hown hS (Nat.le_refl _) (w57 hw) (w58 hw) (w50 hw) (w59 hw) (w60 hw) (by decide) (own_bW (W := 0) (own_sw l Z a0 hw [] G1 G3 a tx t kb cd N2 vs cs 6 0 T965.heap n0 c973 O2 O4 P5 rG3 c968 U1 U2 U3 f0_965 f1_965 f2_965 c969 c970 c971 c972 hcod hcs h8 ge_a (fun _ q => absurd q (Nat.not_lt_zero _) : ∀ i, i < 0 → own_wh (cs.getD (6 + i) 0)) (Or.inr ⟨by decide, (own_nwe h6 own_nwc.2.2.2.2.1)⟩ : 6 + 0 = 8 ∨ (6 + 0 < 8 ∧ own_nwh (cs.getD (6 + 0) 0))) (by decide : 6 + 0 ≤ 8)) hZ (w60 hw) (w40 hw) rfl rfl (own_hEL hw) CH966.1) rfl f0_965  (by decide) (by decide) (argsL := []) (rest := []) rfl hml.symm (lenOf pd_22 rfl) rfl rfl (own_w0 rfl rfl) (D 22) ?_
  rintro _ T974 L974 X974 hS hZ hown C974 ⟨rfl, N974q, K974, f0_974, f1_974, f2_974⟩
  have CH975 := CH966.trans C974
  have N976 := Fr.app N967 N974q
  refine own_step (g' := (mkF m 45 #[sR a, sI 1] [(.int 44), (.ref a)])) (fun _ q => XS.aloadN X974.here hx rfl (D 23) rfl rfl (XS.bipush X974.here hx rfl (D 24) q)) ?_
  have c977 := (c968.keep K974 (allS ge_a all0))
  have c978 := (c969.keep K974)
  have c979 := (c970.keep K974 (ninS (Ne.symm ty_a_tx) nin0))
  have c980 := (c971.keep K974 (ninS (Ne.symm ty_a_tx) nin0))
  have c981 := (c972.keep K974 (ninS (Ne.symm ty_a_t) nin0))
  have c982 := (Nat.le_trans c973 K974.1)
  refine own_callQ X974 hx hZ hown (w201 hw) (w202 hw) (w50 hw) (w203 hw) (w204 hw) (by decide) (own_bO (W := 0) (own_nx0 l Z a0 hw [] G1 G3 a tx t kb cd N2 vs cs 6 (44 : Int32) T974.heap n0 c982 O2 O4 P5 rG3 c977 U1 U2 U3 f0_974 f1_974 f2_974 c978 c979 c980 c981 hcod hcs h8 (by omega : 6 < 8) ((by rw [h6]; decide) : ¬ cs.getD 6 0 = (44 : Int32))) hZ (w204 hw) (w40 hw) rfl rfl) rfl f0_974  (by decide) (by decide) (argsL := [(.int (44 : Int32))]) (rest := []) rfl hml.symm (lenOf pd_16 rfl) rfl rfl (own_w0 rfl rfl) (D 25) ?_
  rintro _ T983 L983 X983 ⟨rfl, N983q, e983⟩
  have N984 := Fr.app N976 N983q
  refine own_step (g' := (mkF m 54 #[sR a, sI 1] [(.int 93), (.ref a)])) (fun _ q => XS.ifNo X983.here hx rfl (D 26) rfl (by decide) (XS.aloadN X983.here hx rfl (D 27) rfl rfl (XS.bipush X983.here hx rfl (D 28) q))) ?_
  refine own_callQ X983 hx hZ hown (w244 hw) (w245 hw) (w50 hw) (w246 hw) (w247 hw) (by decide) (own_bO (W := 0) (own_exp l Z a0 hw [] G1 G3 a tx t kb cd N2 vs cs 6 (93 : Int32) T974.heap n0 c982 O2 O4 P5 rG3 c977 U1 U2 U3 f0_974 f1_974 f2_974 c978 c979 c980 c981 hcod hcs h8 ge_a (by omega : 6 < 8) (h6 : cs.getD 6 0 = (93 : Int32))) hZ (w247 hw) (w40 hw) rfl rfl) e983 f0_974  (by decide) (by decide) (argsL := [(.int (93 : Int32))]) (rest := []) rfl hml.symm (lenOf pd_29 rfl) rfl rfl (own_w0 rfl rfl) (D 29) ?_
  rintro _ T985 L985 X985 ⟨rfl, N985q, K985, f0_985, f1_985, f2_985⟩
  have CH986 := CH975.trans (CHr.keep K985 (sfS (Safe.exa hZ.alike f0_974 (by decide) (by decide)) sf0) CH975.1)
  have N987 := Fr.app N984 N985q
  have c988 := (((((((((((Keep.refl h0 [a]).wr W895 (Or.inl (List.mem_of_getElem? (i := 0) rfl))).trans K907 (allS (Or.inl (List.mem_of_getElem? (i := 0) rfl)) all0)).trans K919 (allS (Or.inl (List.mem_of_getElem? (i := 0) rfl)) all0)).trans K928 (allS (Or.inl (List.mem_of_getElem? (i := 0) rfl)) all0)).trans K937 (allS (Or.inl (List.mem_of_getElem? (i := 0) rfl)) all0)).trans K946 (allS (Or.inl (List.mem_of_getElem? (i := 0) rfl)) all0)).trans K955 (allS (Or.inl (List.mem_of_getElem? (i := 0) rfl)) all0)).trans K965 (allS (Or.inl (List.mem_of_getElem? (i := 0) rfl)) all0)).trans K974 (allS (Or.inl (List.mem_of_getElem? (i := 0) rfl)) all0)).trans K985 (allS (Or.inl (List.mem_of_getElem? (i := 0) rfl)) all0))
  have c989 := (Nat.le_trans (Nat.le_refl _) K985.1)
  exact own_retVW X985 hx hZ (own_hEL hw) hS c989 CH986 hrt (D 30) hlk ⟨rfl, N987, c988, f0_985, f1_985, f2_985⟩ (by decide) (by decide)
def Q_own_obj (Z : State) (G1 : Int32) (G3 : Value) (a tx t : Addr) (kb : ClassId) (cd N2 : Int32) (vs : List Value) (cs : List Int32) (h0 : Heap) (n0 : Nat) (v : Option Value) (h : Heap) (L : List Loc) : Prop := v = none ∧ Fr n0 L ∧ Keep h0 h [a] ∧ own_Ea Z h a ∧ own_Ft Z h a (.ref tx) ∧ own_Fp Z h a (.int (7 : Int32))
set_option maxRecDepth 65536 in
set_option maxHeartbeats 40000000 in
theorem own_obj (l : Launch) (Z : State) (a0 : Array Value) (hw : own_HW a0 Z) (ws : List Jvm.Cond) (G1 : Int32) (G3 : Value) (a tx t : Addr) (kb : ClassId) (cd N2 : Int32) (vs : List Value) (cs : List Int32) (h0 : Heap) (n0 : Nat) (Z0 : n0 ≤ h0.size) (O2 : own_O2 Z G1) (O4 : own_O4 Z G3) (P5 : ¬ (G1 = (0 : Int32))) (rG3 : G3.isRef = true) (OLD0 : Old Z n0 h0) (U1 : own_U0 Z) (U2 : own_U1 Z) (U3 : own_U2 Z) (E_a : own_Ea Z h0 a) (F_text_a : own_Ft Z h0 a (.ref tx)) (F_pos_a : own_Fp Z h0 a (.int (1 : Int32))) (E_tx : own_Es Z h0 tx) (F_value_tx : own_Sv Z h0 tx (.ref t)) (F_coder_tx : own_Sc Z h0 tx (.int cd)) (V_t : Arv Z h0 t kb .byte N2 vs (.int 0)) (hcod : StrChars.Road.CodA cs cd N2 vs) (hcs : own_R16 cs) (h8 : cs.length = 8) (ge_a : n0 ≤ a) (h2 : cs.getD 2 0 = (34 : Int32)) (h3 : cs.getD 3 0 = (34 : Int32)) (h4 : cs.getD 4 0 = (58 : Int32)) (hd5 : ¬ cs.getD 5 0 < (48 : Int32) ∧ ¬ (57 : Int32) < cs.getD 5 0) (h6 : cs.getD 6 0 = (125 : Int32)) :
    own_MetW l Z own_EL ⟨"com/example/tote/tote/JsonText", "object", "(I)V"⟩ prog_12_method_4_code 2 none ws ⟨8, 12, 120, 123⟩ #[(.ref a), (.int (1 : Int32))] h0 (Q_own_obj Z G1 G3 a tx t kb cd N2 vs cs h0 n0) := by
  refine own_bodyNW (g0 := fun m => mkF m 0 #[sR a, sI 1] []) (plainFor_of_name pn_4) (fun _ => rfl) ?_
  intro p e s m below meth c s₁ hx hby hml hrt hlk hown hnm hZ e0 X0 hS CH0
  have D := own_d hby kD57
  have ty_a_tx : a ≠ tx := (Exa.ne E_a E_tx (by decide))
  have ty_a_t : a ≠ t := (Exa.neArv E_a V_t (w50 hw))
  have ty_tx_t : tx ≠ t := (Exa.neArv E_tx V_t (w10 hw))
  refine own_step (g' := (mkF m 2 #[sR a, sI 1] [(.int 1), (.ref a)])) (fun _ q => XS.aloadN X0.here hx rfl (D 0) rfl rfl (XS.iloadN X0.here hx rfl (D 1) rfl q)) ?_
  refine own_callQ X0 hx hZ hown (w240 hw) (w241 hw) (w50 hw) (w242 hw) (w243 hw) (by decide) (own_bO (W := 0) (own_dep1 l Z a0 hw [] a h0 n0 Z0 ) hZ (w243 hw) (w40 hw) rfl rfl) e0 E_a  (by decide) (by decide) (argsL := [(.int (1 : Int32))]) (rest := []) rfl hml.symm (lenOf pd_28 rfl) rfl rfl (own_w0 rfl rfl) (D 2) ?_
  rintro _ T990 L990 X990 ⟨rfl, N990q, e990⟩
  have N991 := Fr.app (Fr.nil n0) N990q
  refine own_step (g' := (mkF m 7 #[sR a, sI 1] [(.ref a), (.ref a)])) (fun _ q => XS.aloadN X990.here hx rfl (D 3) rfl rfl (XS.dup X990.here hx rfl (D 4) rfl rfl q)) ?_
  refine own_gF X990 hx hZ hown (w61 hw) e990 F_pos_a rfl rfl (D 5) fun T992 X992 e992 => ?_
  refine own_step (g' := (mkF m 12 #[sR a, sI 1] [(.int 2), (.ref a)])) (fun _ q => XS.iconst X992.here hx rfl (D 6) (XS.iadd X992.here hx rfl (D 7) rfl q)) ?_
  refine own_pF X992 hx hZ hown (w61 hw) e992 F_pos_a E_a (Or.inl (w62 hw)) (w50 hw) (ty := .int) (by decide) rfl rfl rfl rfl (D 8) fun T993 h993 X993 e993 W993 F994 => ?_
  have N995 := Fr.snoc X993 N991 ge_a
  have CH996 := CH0.trans (CHr.wr W993 (Safe.exa hZ.alike E_a (by decide) (by decide)) CH0.1)
  refine own_step (g' := (mkF m 16 #[sR a, sI 1] [(.ref a)])) (fun _ q => XS.aloadN X993.here hx rfl (D 9) rfl rfl q) ?_
  have c997 := (OLD0.wr W993 ge_a)
  have c998 := (E_a.wr W993)
  have c999 := (F_text_a.other W993 (Or.inr (RoadKit.slot_ne (t := (.object "java/lang/String")) (t' := .int) (Or.inr (w56 hw)) (Or.inl (w62 hw)) (by decide) (by decide) (by decide))))
  have c1000 := (E_tx.wr W993)
  have c1001 := (F_value_tx.other W993 (Or.inl (Ne.symm ty_a_tx)))
  have c1002 := (F_coder_tx.other W993 (Or.inl (Ne.symm ty_a_tx)))
  have c1003 := (V_t.other W993 (Ne.symm ty_a_t))
  have c1004 := (Nat.le_trans Z0 (Keep.of_wr W993).1)
  have c1006 := (Nat.le_trans (Nat.le_refl _) (Keep.of_wr W993).1)
  refine own_callQW X993 hx hZ hown hS c1006 (w57 hw) (w58 hw) (w50 hw) (w59 hw) (w60 hw) (by decide) (own_bW (W := 0) (own_sw l Z a0 hw [] G1 G3 a tx t kb cd N2 vs cs 2 0 h993 n0 c1004 O2 O4 P5 rG3 c997 U1 U2 U3 c998 c999 F994 c1000 c1001 c1002 c1003 hcod hcs h8 ge_a (fun _ q => absurd q (Nat.not_lt_zero _) : ∀ i, i < 0 → own_wh (cs.getD (2 + i) 0)) (Or.inr ⟨by decide, (own_nwe h2 own_nwc.1)⟩ : 2 + 0 = 8 ∨ (2 + 0 < 8 ∧ own_nwh (cs.getD (2 + 0) 0))) (by decide : 2 + 0 ≤ 8)) hZ (w60 hw) (w40 hw) rfl rfl (own_hEL hw) CH996.1) e993 c998  (by decide) (by decide) (argsL := []) (rest := []) rfl hml.symm (lenOf pd_22 rfl) rfl rfl (own_w0 rfl rfl) (D 10) ?_
  rintro _ T1005 L1005 X1005 hS hZ hown C1005 ⟨rfl, N1005q, K1005, f0_1005, f1_1005, f2_1005⟩
  have CH1007 := CH996.trans C1005
  have N1008 := Fr.app N995 N1005q
  refine own_step (g' := (mkF m 22 #[sR a, sI 1] [(.int 125), (.ref a)])) (fun _ q => XS.aloadN X1005.here hx rfl (D 11) rfl rfl (XS.bipush X1005.here hx rfl (D 12) q)) ?_
  have c1009 := (c997.keep K1005 (allS ge_a all0))
  have c1010 := (c1000.keep K1005)
  have c1011 := (c1001.keep K1005 (ninS (Ne.symm ty_a_tx) nin0))
  have c1012 := (c1002.keep K1005 (ninS (Ne.symm ty_a_tx) nin0))
  have c1013 := (c1003.keep K1005 (ninS (Ne.symm ty_a_t) nin0))
  have c1014 := (Nat.le_trans c1004 K1005.1)
  refine own_callQ X1005 hx hZ hown (w201 hw) (w202 hw) (w50 hw) (w203 hw) (w204 hw) (by decide) (own_bO (W := 0) (own_nx0 l Z a0 hw [] G1 G3 a tx t kb cd N2 vs cs 2 (125 : Int32) T1005.heap n0 c1014 O2 O4 P5 rG3 c1009 U1 U2 U3 f0_1005 f1_1005 f2_1005 c1010 c1011 c1012 c1013 hcod hcs h8 (by omega : 2 < 8) (by rw [h2]; decide : ¬ cs.getD 2 0 = (125 : Int32))) hZ (w204 hw) (w40 hw) rfl rfl) rfl f0_1005  (by decide) (by decide) (argsL := [(.int (125 : Int32))]) (rest := []) rfl hml.symm (lenOf pd_16 rfl) rfl rfl (own_w0 rfl rfl) (D 13) ?_
  rintro _ T1015 L1015 X1015 ⟨rfl, N1015q, e1015⟩
  have N1016 := Fr.app N1008 N1015q
  refine own_step (g' := (mkF m 30 #[sR a, sI 1] [(.ref a)])) (fun _ q => XS.ifYes X1015.here hx rfl (pc0 := 25) (pc' := 29) rfl (D 14) rfl (by decide) (by decide) (by decide) (XS.aloadN X1015.here hx rfl (D 15) rfl rfl q)) ?_
  refine own_callQW X1015 hx hZ hown hS (Nat.le_refl _) (w57 hw) (w58 hw) (w50 hw) (w59 hw) (w60 hw) (by decide) (own_bW (W := 0) (own_sw l Z a0 hw [] G1 G3 a tx t kb cd N2 vs cs 2 0 T1005.heap n0 c1014 O2 O4 P5 rG3 c1009 U1 U2 U3 f0_1005 f1_1005 f2_1005 c1010 c1011 c1012 c1013 hcod hcs h8 ge_a (fun _ q => absurd q (Nat.not_lt_zero _) : ∀ i, i < 0 → own_wh (cs.getD (2 + i) 0)) (Or.inr ⟨by decide, (own_nwe h2 own_nwc.1)⟩ : 2 + 0 = 8 ∨ (2 + 0 < 8 ∧ own_nwh (cs.getD (2 + 0) 0))) (by decide : 2 + 0 ≤ 8)) hZ (w60 hw) (w40 hw) rfl rfl (own_hEL hw) CH1007.1) e1015 f0_1005  (by decide) (by decide) (argsL := []) (rest := []) rfl hml.symm (lenOf pd_22 rfl) rfl rfl (own_w0 rfl rfl) (D 16) ?_
  rintro _ T1017 L1017 X1017 hS hZ hown C1017 ⟨rfl, N1017q, K1017, f0_1017, f1_1017, f2_1017⟩
  have CH1018 := CH1007.trans C1017
  have N1019 := Fr.app N1016 N1017q
  refine own_step (g' := (mkF m 34 #[sR a, sI 1] [(.ref a)])) (fun _ q => XS.aloadN X1017.here hx rfl (D 17) rfl rfl q) ?_
  refine own_gF X1017 hx hZ hown (w61 hw) rfl f2_1017 rfl rfl (D 18) fun T1020 X1020 e1020 => ?_
  refine own_step (g' := (mkF m 38 #[sR a, sI 1] [(.ref a), (.int 2)])) (fun _ q => XS.aloadN X1020.here hx rfl (D 19) rfl rfl q) ?_
  refine own_gF X1020 hx hZ hown (w55 hw) e1020 f1_1017 rfl rfl (D 20) fun T1021 X1021 e1021 => ?_
  have c1022 := (c1009.keep K1017 (allS ge_a all0))
  have c1023 := (c1010.keep K1017)
  have c1024 := (c1011.keep K1017 (ninS (Ne.symm ty_a_tx) nin0))
  have c1025 := (c1012.keep K1017 (ninS (Ne.symm ty_a_tx) nin0))
  have c1026 := (c1013.keep K1017 (ninS (Ne.symm ty_a_t) nin0))
  have c1027 := (Nat.le_trans c1014 K1017.1)
  refine own_callV X1021 hx hZ hown (w63 hw) (w64 hw) (notFace_of_selects (args := #[]) (mvT hZ (w66 hw))) (w66 hw) (w65 hw) (by decide) (own_bO (W := 1) (own_l8 l Z a0 hw [] G1 G3 tx t kb cd N2 vs cs T1017.heap n0 c1027 O2 O4 P5 rG3 c1022 c1023 c1024 c1025 c1026 hcod hcs h8) hZ (w67 hw) (w11 hw) rfl rfl) e1021 c1023  (by decide) (by decide) (argsL := []) (rest := [(.int (2 : Int32))]) rfl hml.symm (lenOf pd_14 rfl) rfl rfl (own_w0 rfl rfl) (D 21) ?_
  rintro _ T1028 L1028 X1028 ⟨rfl, N1028q, e1028⟩
  have N1029 := Fr.app N1019 N1028q
  refine own_step (g' := (mkF m 48 #[sR a, sI 1] [(.ref a)])) (fun _ q => XS.icmpNo X1028.here hx rfl (D 22) rfl (by decide) (XS.aloadN X1028.here hx rfl (D 23) rfl rfl q)) ?_
  refine own_gF X1028 hx hZ hown (w55 hw) e1028 f1_1017 rfl rfl (D 24) fun T1030 X1030 e1030 => ?_
  refine own_step (g' := (mkF m 52 #[sR a, sI 1] [(.ref a), (.ref tx)])) (fun _ q => XS.aloadN X1030.here hx rfl (D 25) rfl rfl q) ?_
  refine own_gF X1030 hx hZ hown (w61 hw) e1030 f2_1017 rfl rfl (D 26) fun T1031 X1031 e1031 => ?_
  refine own_callV X1031 hx hZ hown (w74 hw) (w75 hw) (notFace_of_selects (args := #[]) (mvT hZ (w77 hw))) (w77 hw) (w76 hw) (by decide) (own_bO (W := 0) (own_char l Z a0 hw [] G1 G3 tx t kb cd N2 vs cs 2 T1017.heap n0 c1027 O2 O4 P5 rG3 c1022 U1 U2 U3 c1023 c1024 c1025 c1026 hcod hcs (by omega : cs.length ≤ 400) (by omega : 2 < cs.length)) hZ (w78 hw) (w11 hw) rfl rfl) e1031 c1023  (by decide) (by decide) (argsL := [(.int (2 : Int32))]) (rest := []) rfl hml.symm (lenOf pd_15 rfl) rfl rfl (own_w0 rfl rfl) (D 27) ?_
  rintro _ T1032 L1032 X1032 ⟨rfl, N1032q, e1032⟩
  have N1033 := Fr.app N1029 N1032q
  refine own_step (g' := (mkF m 60 #[sR a, sI 1] [(.int 34), (.int (cs.getD 2 0))])) (fun _ q => XS.bipush X1032.here hx rfl (D 28) q) ?_
  have hc1034 : ((cs.getD 2 0) = (34 : Int32)) := h2
  refine own_step (g' := (mkF m 71 #[sR a, sI 1] [(.ref a)])) (fun _ q => XS.icmpYes X1032.here hx rfl (pc0 := 60) (pc' := 70) rfl (D 29) rfl (XT.ii_eq_t hc1034) (by decide) (by decide) (XS.aloadN X1032.here hx rfl (D 30) rfl rfl q)) ?_
  refine own_callQW X1032 hx hZ hown hS (Nat.le_refl _) (w127 hw) (w128 hw) (w50 hw) (w129 hw) (w130 hw) (by decide) (own_bW (W := 0) (own_str l Z a0 hw [] G1 G3 a tx t kb cd N2 vs cs 2 3 0 T1017.heap n0 c1027 O2 O4 P5 rG3 c1022 U1 U2 U3 f0_1017 f1_1017 f2_1017 c1023 c1024 c1025 c1026 hcod hcs h8 ge_a ((rfl : 3 = 3) : own_so cs 3 0 (2 + 1)) (h3 : cs.getD 3 0 = (34 : Int32)) (by decide : 3 < 8) (by omega : 2 + 1 < 8)) hZ (w130 hw) (w40 hw) rfl rfl (own_hEL hw) CH1018.1) e1032 f0_1017  (by decide) (by decide) (argsL := []) (rest := []) rfl hml.symm (lenOf pd_22 rfl) rfl rfl (own_w0 rfl rfl) (D 31) ?_
  rintro _ T1035 L1035 X1035 hS hZ hown C1035 ⟨rfl, N1035q, K1035, f0_1035, f1_1035, f2_1035⟩
  have CH1036 := CH1018.trans C1035
  have N1037 := Fr.app N1033 N1035q
  refine own_step (g' := (mkF m 75 #[sR a, sI 1] [(.ref a)])) (fun _ q => XS.aloadN X1035.here hx rfl (D 32) rfl rfl q) ?_
  have c1038 := (c1022.keep K1035 (allS ge_a all0))
  have c1039 := (c1023.keep K1035)
  have c1040 := (c1024.keep K1035 (ninS (Ne.symm ty_a_tx) nin0))
  have c1041 := (c1025.keep K1035 (ninS (Ne.symm ty_a_tx) nin0))
  have c1042 := (c1026.keep K1035 (ninS (Ne.symm ty_a_t) nin0))
  have c1043 := (Nat.le_trans c1027 K1035.1)
  refine own_callQW X1035 hx hZ hown hS (Nat.le_refl _) (w57 hw) (w58 hw) (w50 hw) (w59 hw) (w60 hw) (by decide) (own_bW (W := 0) (own_sw l Z a0 hw [] G1 G3 a tx t kb cd N2 vs cs 4 0 T1035.heap n0 c1043 O2 O4 P5 rG3 c1038 U1 U2 U3 f0_1035 f1_1035 f2_1035 c1039 c1040 c1041 c1042 hcod hcs h8 ge_a (fun _ q => absurd q (Nat.not_lt_zero _) : ∀ i, i < 0 → own_wh (cs.getD (4 + i) 0)) (Or.inr ⟨by decide, (own_nwe h4 own_nwc.2.2.1)⟩ : 4 + 0 = 8 ∨ (4 + 0 < 8 ∧ own_nwh (cs.getD (4 + 0) 0))) (by decide : 4 + 0 ≤ 8)) hZ (w60 hw) (w40 hw) rfl rfl (own_hEL hw) CH1036.1) rfl f0_1035  (by decide) (by decide) (argsL := []) (rest := []) rfl hml.symm (lenOf pd_22 rfl) rfl rfl (own_w0 rfl rfl) (D 33) ?_
  rintro _ T1044 L1044 X1044 hS hZ hown C1044 ⟨rfl, N1044q, K1044, f0_1044, f1_1044, f2_1044⟩
  have CH1045 := CH1036.trans C1044
  have N1046 := Fr.app N1037 N1044q
  refine own_step (g' := (mkF m 81 #[sR a, sI 1] [(.int 58), (.ref a)])) (fun _ q => XS.aloadN X1044.here hx rfl (D 34) rfl rfl (XS.bipush X1044.here hx rfl (D 35) q)) ?_
  have c1047 := (c1038.keep K1044 (allS ge_a all0))
  have c1048 := (c1039.keep K1044)
  have c1049 := (c1040.keep K1044 (ninS (Ne.symm ty_a_tx) nin0))
  have c1050 := (c1041.keep K1044 (ninS (Ne.symm ty_a_tx) nin0))
  have c1051 := (c1042.keep K1044 (ninS (Ne.symm ty_a_t) nin0))
  have c1052 := (Nat.le_trans c1043 K1044.1)
  refine own_callQ X1044 hx hZ hown (w244 hw) (w245 hw) (w50 hw) (w246 hw) (w247 hw) (by decide) (own_bO (W := 0) (own_exp l Z a0 hw [] G1 G3 a tx t kb cd N2 vs cs 4 (58 : Int32) T1044.heap n0 c1052 O2 O4 P5 rG3 c1047 U1 U2 U3 f0_1044 f1_1044 f2_1044 c1048 c1049 c1050 c1051 hcod hcs h8 ge_a (by omega : 4 < 8) (h4 : cs.getD 4 0 = (58 : Int32))) hZ (w247 hw) (w40 hw) rfl rfl) rfl f0_1044  (by decide) (by decide) (argsL := [(.int (58 : Int32))]) (rest := []) rfl hml.symm (lenOf pd_29 rfl) rfl rfl (own_w0 rfl rfl) (D 36) ?_
  rintro _ T1053 L1053 X1053 ⟨rfl, N1053q, K1053, f0_1053, f1_1053, f2_1053⟩
  have CH1054 := CH1045.trans (CHr.keep K1053 (sfS (Safe.exa hZ.alike f0_1044 (by decide) (by decide)) sf0) CH1045.1)
  have N1055 := Fr.app N1046 N1053q
  refine own_step (g' := (mkF m 85 #[sR a, sI 1] [(.ref a)])) (fun _ q => XS.aloadN X1053.here hx rfl (D 37) rfl rfl q) ?_
  have c1056 := (c1047.keep K1053 (allS ge_a all0))
  have c1057 := (c1048.keep K1053)
  have c1058 := (c1049.keep K1053 (ninS (Ne.symm ty_a_tx) nin0))
  have c1059 := (c1050.keep K1053 (ninS (Ne.symm ty_a_tx) nin0))
  have c1060 := (c1051.keep K1053 (ninS (Ne.symm ty_a_t) nin0))
  have c1061 := (Nat.le_trans c1052 K1053.1)
  have c1063 := (Nat.le_trans (Nat.le_refl _) K1053.1)
  refine own_callQW X1053 hx hZ hown hS c1063 (w57 hw) (w58 hw) (w50 hw) (w59 hw) (w60 hw) (by decide) (own_bW (W := 0) (own_sw l Z a0 hw [] G1 G3 a tx t kb cd N2 vs cs 5 0 T1053.heap n0 c1061 O2 O4 P5 rG3 c1056 U1 U2 U3 f0_1053 f1_1053 f2_1053 c1057 c1058 c1059 c1060 hcod hcs h8 ge_a (fun _ q => absurd q (Nat.not_lt_zero _) : ∀ i, i < 0 → own_wh (cs.getD (5 + i) 0)) (Or.inr ⟨by decide, (own_nwd hd5)⟩ : 5 + 0 = 8 ∨ (5 + 0 < 8 ∧ own_nwh (cs.getD (5 + 0) 0))) (by decide : 5 + 0 ≤ 8)) hZ (w60 hw) (w40 hw) rfl rfl (own_hEL hw) CH1054.1) rfl f0_1053  (by decide) (by decide) (argsL := []) (rest := []) rfl hml.symm (lenOf pd_22 rfl) rfl rfl (own_w0 rfl rfl) (D 38) ?_
  rintro _ T1062 L1062 X1062 hS hZ hown C1062 ⟨rfl, N1062q, K1062, f0_1062, f1_1062, f2_1062⟩
  have CH1064 := CH1054.trans C1062
  have N1065 := Fr.app N1055 N1062q
  refine own_step (g' := (mkF m 90 #[sR a, sI 1] [(.int 1), (.ref a)])) (fun _ q => XS.aloadN X1062.here hx rfl (D 39) rfl rfl (XS.iloadN X1062.here hx rfl (D 40) rfl q)) ?_
  have c1066 := (c1056.keep K1062 (allS ge_a all0))
  have c1067 := (c1057.keep K1062)
  have c1068 := (c1058.keep K1062 (ninS (Ne.symm ty_a_tx) nin0))
  have c1069 := (c1059.keep K1062 (ninS (Ne.symm ty_a_tx) nin0))
  have c1070 := (c1060.keep K1062 (ninS (Ne.symm ty_a_t) nin0))
  have c1071 := (Nat.le_trans c1061 K1062.1)
  refine own_callQW X1062 hx hZ hown hS (Nat.le_refl _) (w123 hw) (w124 hw) (w50 hw) (w125 hw) (w126 hw) (by decide) (own_bW (W := 0) (own_vi l Z a0 hw [] G1 G3 a tx t kb cd N2 vs cs 5 6 T1062.heap n0 c1071 O2 O4 P5 rG3 c1066 U1 U2 U3 f0_1062 f1_1062 f2_1062 c1067 c1068 c1069 c1070 hcod hcs h8 ge_a (by omega : 5 < 8) ((own_v1 hd5 h6) : own_vin cs 5 6)) hZ (w126 hw) (w40 hw) rfl rfl (own_hEL hw) CH1064.1) rfl f0_1062  (by decide) (by decide) (argsL := [(.int (1 : Int32))]) (rest := []) rfl hml.symm (lenOf pd_28 rfl) rfl rfl (own_w0 rfl rfl) (D 41) ?_
  rintro _ T1072 L1072 X1072 hS hZ hown C1072 ⟨rfl, N1072q, K1072, f0_1072, f1_1072, f2_1072⟩
  have CH1073 := CH1064.trans C1072
  have N1074 := Fr.app N1065 N1072q
  refine own_step (g' := (mkF m 94 #[sR a, sI 1] [(.ref a)])) (fun _ q => XS.aloadN X1072.here hx rfl (D 42) rfl rfl q) ?_
  have c1075 := (c1066.keep K1072 (allS ge_a all0))
  have c1076 := (c1067.keep K1072)
  have c1077 := (c1068.keep K1072 (ninS (Ne.symm ty_a_tx) nin0))
  have c1078 := (c1069.keep K1072 (ninS (Ne.symm ty_a_tx) nin0))
  have c1079 := (c1070.keep K1072 (ninS (Ne.symm ty_a_t) nin0))
  have c1080 := (Nat.le_trans c1071 K1072.1)
  refine own_callQW X1072 hx hZ hown hS (Nat.le_refl _) (w57 hw) (w58 hw) (w50 hw) (w59 hw) (w60 hw) (by decide) (own_bW (W := 0) (own_sw l Z a0 hw [] G1 G3 a tx t kb cd N2 vs cs 6 0 T1072.heap n0 c1080 O2 O4 P5 rG3 c1075 U1 U2 U3 f0_1072 f1_1072 f2_1072 c1076 c1077 c1078 c1079 hcod hcs h8 ge_a (fun _ q => absurd q (Nat.not_lt_zero _) : ∀ i, i < 0 → own_wh (cs.getD (6 + i) 0)) (Or.inr ⟨by decide, (own_nwe h6 own_nwc.2.2.2.2.2.2)⟩ : 6 + 0 = 8 ∨ (6 + 0 < 8 ∧ own_nwh (cs.getD (6 + 0) 0))) (by decide : 6 + 0 ≤ 8)) hZ (w60 hw) (w40 hw) rfl rfl (own_hEL hw) CH1073.1) rfl f0_1072  (by decide) (by decide) (argsL := []) (rest := []) rfl hml.symm (lenOf pd_22 rfl) rfl rfl (own_w0 rfl rfl) (D 43) ?_
  rintro _ T1081 L1081 X1081 hS hZ hown C1081 ⟨rfl, N1081q, K1081, f0_1081, f1_1081, f2_1081⟩
  have CH1082 := CH1073.trans C1081
  have N1083 := Fr.app N1074 N1081q
  refine own_step (g' := (mkF m 100 #[sR a, sI 1] [(.int 44), (.ref a)])) (fun _ q => XS.aloadN X1081.here hx rfl (D 44) rfl rfl (XS.bipush X1081.here hx rfl (D 45) q)) ?_
  have c1084 := (c1075.keep K1081 (allS ge_a all0))
  have c1085 := (c1076.keep K1081)
  have c1086 := (c1077.keep K1081 (ninS (Ne.symm ty_a_tx) nin0))
  have c1087 := (c1078.keep K1081 (ninS (Ne.symm ty_a_tx) nin0))
  have c1088 := (c1079.keep K1081 (ninS (Ne.symm ty_a_t) nin0))
  have c1089 := (Nat.le_trans c1080 K1081.1)
  refine own_callQ X1081 hx hZ hown (w201 hw) (w202 hw) (w50 hw) (w203 hw) (w204 hw) (by decide) (own_bO (W := 0) (own_nx0 l Z a0 hw [] G1 G3 a tx t kb cd N2 vs cs 6 (44 : Int32) T1081.heap n0 c1089 O2 O4 P5 rG3 c1084 U1 U2 U3 f0_1081 f1_1081 f2_1081 c1085 c1086 c1087 c1088 hcod hcs h8 (by omega : 6 < 8) (by rw [h6]; decide : ¬ cs.getD 6 0 = (44 : Int32))) hZ (w204 hw) (w40 hw) rfl rfl) rfl f0_1081  (by decide) (by decide) (argsL := [(.int (44 : Int32))]) (rest := []) rfl hml.symm (lenOf pd_16 rfl) rfl rfl (own_w0 rfl rfl) (D 46) ?_
  rintro _ T1090 L1090 X1090 ⟨rfl, N1090q, e1090⟩
  have N1091 := Fr.app N1083 N1090q
  refine own_step (g' := (mkF m 109 #[sR a, sI 1] [(.int 125), (.ref a)])) (fun _ q => XS.ifNo X1090.here hx rfl (D 47) rfl (by decide) (XS.aloadN X1090.here hx rfl (D 48) rfl rfl (XS.bipush X1090.here hx rfl (D 49) q))) ?_
  refine own_callQ X1090 hx hZ hown (w244 hw) (w245 hw) (w50 hw) (w246 hw) (w247 hw) (by decide) (own_bO (W := 0) (own_exp l Z a0 hw [] G1 G3 a tx t kb cd N2 vs cs 6 (125 : Int32) T1081.heap n0 c1089 O2 O4 P5 rG3 c1084 U1 U2 U3 f0_1081 f1_1081 f2_1081 c1085 c1086 c1087 c1088 hcod hcs h8 ge_a (by omega : 6 < 8) (h6 : cs.getD 6 0 = (125 : Int32))) hZ (w247 hw) (w40 hw) rfl rfl) e1090 f0_1081  (by decide) (by decide) (argsL := [(.int (125 : Int32))]) (rest := []) rfl hml.symm (lenOf pd_29 rfl) rfl rfl (own_w0 rfl rfl) (D 50) ?_
  rintro _ T1092 L1092 X1092 ⟨rfl, N1092q, K1092, f0_1092, f1_1092, f2_1092⟩
  have CH1093 := CH1082.trans (CHr.keep K1092 (sfS (Safe.exa hZ.alike f0_1081 (by decide) (by decide)) sf0) CH1082.1)
  have N1094 := Fr.app N1091 N1092q
  have c1095 := (((((((((((Keep.refl h0 [a]).wr W993 (Or.inl (List.mem_of_getElem? (i := 0) rfl))).trans K1005 (allS (Or.inl (List.mem_of_getElem? (i := 0) rfl)) all0)).trans K1017 (allS (Or.inl (List.mem_of_getElem? (i := 0) rfl)) all0)).trans K1035 (allS (Or.inl (List.mem_of_getElem? (i := 0) rfl)) all0)).trans K1044 (allS (Or.inl (List.mem_of_getElem? (i := 0) rfl)) all0)).trans K1053 (allS (Or.inl (List.mem_of_getElem? (i := 0) rfl)) all0)).trans K1062 (allS (Or.inl (List.mem_of_getElem? (i := 0) rfl)) all0)).trans K1072 (allS (Or.inl (List.mem_of_getElem? (i := 0) rfl)) all0)).trans K1081 (allS (Or.inl (List.mem_of_getElem? (i := 0) rfl)) all0)).trans K1092 (allS (Or.inl (List.mem_of_getElem? (i := 0) rfl)) all0))
  have c1096 := (Nat.le_trans (Nat.le_refl _) K1092.1)
  exact own_retVW X1092 hx hZ (own_hEL hw) hS c1096 CH1093 hrt (D 51) hlk ⟨rfl, N1094, c1095, f0_1092, f1_1092, f2_1092⟩ (by decide) (by decide)
theorem pd_30 : parseMethodDescriptor "(Ljava/lang/String;)Z" = some ⟨[(.object "java/lang/String")], some .boolean⟩ := by decide +kernel
def Q_own_val0 (Z : State) (G1 : Int32) (G3 : Value) (a tx t : Addr) (kb : ClassId) (cd N2 : Int32) (vs : List Value) (cs : List Int32) (pn q : Nat) (h0 : Heap) (n0 : Nat) (v : Option Value) (h : Heap) (L : List Loc) : Prop := v = none ∧ Fr n0 L ∧ Keep h0 h [a] ∧ own_Ea Z h a ∧ own_Ft Z h a (.ref tx) ∧ own_Fp Z h a (.int (Int32.ofNat q))
set_option maxRecDepth 65536 in
set_option maxHeartbeats 40000000 in
theorem own_val0 (l : Launch) (Z : State) (a0 : Array Value) (hw : own_HW a0 Z) (ws : List Jvm.Cond) (G1 : Int32) (G3 : Value) (a tx t : Addr) (kb : ClassId) (cd N2 : Int32) (vs : List Value) (cs : List Int32) (pn q : Nat) (h0 : Heap) (n0 : Nat) (Z0 : n0 ≤ h0.size) (O2 : own_O2 Z G1) (O4 : own_O4 Z G3) (P5 : ¬ (G1 = (0 : Int32))) (rG3 : G3.isRef = true) (OLD0 : Old Z n0 h0) (U1 : own_U0 Z) (U2 : own_U1 Z) (U3 : own_U2 Z) (E_a : own_Ea Z h0 a) (F_text_a : own_Ft Z h0 a (.ref tx)) (F_pos_a : own_Fp Z h0 a (.int (Int32.ofNat pn))) (E_tx : own_Es Z h0 tx) (F_value_tx : own_Sv Z h0 tx (.ref t)) (F_coder_tx : own_Sc Z h0 tx (.int cd)) (V_t : Arv Z h0 t kb .byte N2 vs (.int 0)) (hcod : StrChars.Road.CodA cs cd N2 vs) (hcs : own_R16 cs) (h8 : cs.length = 8) (ge_a : n0 ≤ a) (hp : pn < 8) (hv : own_val cs pn q) :
    own_MetW l Z own_EL ⟨"com/example/tote/tote/JsonText", "value", "(I)V"⟩ prog_12_method_3_code 3 none ws ⟨9, 14, 160, 136⟩ #[(.ref a), (.int (0 : Int32))] h0 (Q_own_val0 Z G1 G3 a tx t kb cd N2 vs cs pn q h0 n0) := by
  refine own_bodyNW (g0 := fun m => mkF m 0 #[sR a, sI 0, .unset] []) (plainFor_of_name pn_4) (fun _ => rfl) ?_
  intro p e s m below meth c s₁ hx hby hml hrt hlk hown hnm hZ e0 X0 hS CH0
  have D := own_d hby kD27
  have ty_a_tx : a ≠ tx := (Exa.ne E_a E_tx (by decide))
  have ty_a_t : a ≠ t := (Exa.neArv E_a V_t (w50 hw))
  have ty_tx_t : tx ≠ t := (Exa.neArv E_tx V_t (w10 hw))
  refine own_step (g' := (mkF m 1 #[sR a, sI 0, .unset] [(.ref a)])) (fun _ q => XS.aloadN X0.here hx rfl (D 0) rfl rfl q) ?_
  refine own_gF X0 hx hZ hown (w61 hw) e0 F_pos_a rfl rfl (D 1) fun T1097 X1097 e1097 => ?_
  refine own_step (g' := (mkF m 5 #[sR a, sI 0, .unset] [(.ref a), (.int (Int32.ofNat pn))])) (fun _ q => XS.aloadN X1097.here hx rfl (D 2) rfl rfl q) ?_
  refine own_gF X1097 hx hZ hown (w55 hw) e1097 F_text_a rfl rfl (D 3) fun T1098 X1098 e1098 => ?_
  refine own_callV X1098 hx hZ hown (w63 hw) (w64 hw) (notFace_of_selects (args := #[]) (mvT hZ (w66 hw))) (w66 hw) (w65 hw) (by decide) (own_bO (W := 1) (own_l8 l Z a0 hw [] G1 G3 tx t kb cd N2 vs cs h0 n0 Z0 O2 O4 P5 rG3 OLD0 E_tx F_value_tx F_coder_tx V_t hcod hcs h8) hZ (w67 hw) (w11 hw) rfl rfl) e1098 E_tx  (by decide) (by decide) (argsL := []) (rest := [(.int (Int32.ofNat pn))]) rfl hml.symm (lenOf pd_14 rfl) rfl rfl (own_w0 rfl rfl) (D 4) ?_
  rintro _ T1099 L1099 X1099 ⟨rfl, N1099q, e1099⟩
  have N1100 := Fr.app (Fr.nil n0) N1099q
  have hc1101 : ((Int32.ofNat pn) < (8 : Int32)) := (own_lt8 hp)
  refine own_step (g' := (mkF m 22 #[sR a, sI 0, .unset] [(.ref a)])) (fun _ q => XS.icmpYes X1099.here hx rfl (pc0 := 11) (pc' := 21) rfl (D 5) rfl (XT.ii_lt_t hc1101) (by decide) (by decide) (XS.aloadN X1099.here hx rfl (D 6) rfl rfl q)) ?_
  refine own_gF X1099 hx hZ hown (w55 hw) e1099 F_text_a rfl rfl (D 7) fun T1102 X1102 e1102 => ?_
  refine own_step (g' := (mkF m 26 #[sR a, sI 0, .unset] [(.ref a), (.ref tx)])) (fun _ q => XS.aloadN X1102.here hx rfl (D 8) rfl rfl q) ?_
  refine own_gF X1102 hx hZ hown (w61 hw) e1102 F_pos_a rfl rfl (D 9) fun T1103 X1103 e1103 => ?_
  refine own_callV X1103 hx hZ hown (w74 hw) (w75 hw) (notFace_of_selects (args := #[]) (mvT hZ (w77 hw))) (w77 hw) (w76 hw) (by decide) (own_bO (W := 0) (own_char l Z a0 hw [] G1 G3 tx t kb cd N2 vs cs pn h0 n0 Z0 O2 O4 P5 rG3 OLD0 U1 U2 U3 E_tx F_value_tx F_coder_tx V_t hcod hcs (by omega : cs.length ≤ 400) (by omega : pn < cs.length)) hZ (w78 hw) (w11 hw) rfl rfl) e1103 E_tx  (by decide) (by decide) (argsL := [(.int (Int32.ofNat pn))]) (rest := []) rfl hml.symm (lenOf pd_15 rfl) rfl rfl (own_w0 rfl rfl) (D 10) ?_
  rintro _ T1104 L1104 X1104 ⟨rfl, N1104q, e1104⟩
  have N1105 := Fr.app N1100 N1104q
  refine own_step (g' := (mkF m 33 #[sR a, sI 0, sI (cs.getD pn 0)] [])) (fun _ q => XS.istoreN X1104.here hx rfl (D 11) rfl (l' := #[sR a, sI 0, sI (cs.getD pn 0)]) rfl q) ?_
  rcases hv with ⟨qe, ks, hq0, hs0, hqe, hq8, hpq, hq, hk4⟩ | ⟨nd, hq, h1, hnd8, hdg, h48, hen, h46, h101, h69⟩ | ⟨⟨hsg, hd2, h3, hd4, h5, hd6, hn7⟩, hq⟩ | ⟨hf, has, hp3, hL⟩ | ⟨⟨hpn, h1_, hd2, h3, h4, h5, h6⟩, hq⟩ | ⟨⟨hpn, h1_, h2, h3, h4, hd5, h6⟩, hq⟩
  · refine own_step (g' := (mkF m 36 #[sR a, sI 0, sI (cs.getD pn 0)] [(.int 123), (.int (cs.getD pn 0))])) (fun _ q => XS.iloadN X1104.here hx rfl (D 12) rfl (XS.bipush X1104.here hx rfl (D 13) q)) ?_
    have hc1106 : ¬ ((cs.getD pn 0) = (123 : Int32)) := (by rw [hq0]; decide)
    refine own_step (g' := (mkF m 52 #[sR a, sI 0, sI (cs.getD pn 0)] [(.int 91), (.int (cs.getD pn 0))])) (fun _ q => XS.icmpYes X1104.here hx rfl (pc0 := 36) (pc' := 49) rfl (D 14) rfl (XT.ii_ne_t hc1106) (by decide) (by decide) (XS.iloadN X1104.here hx rfl (D 21) rfl (XS.bipush X1104.here hx rfl (D 22) q))) ?_
    have hc1107 : ¬ ((cs.getD pn 0) = (91 : Int32)) := (by rw [hq0]; decide)
    refine own_step (g' := (mkF m 68 #[sR a, sI 0, sI (cs.getD pn 0)] [(.int 34), (.int (cs.getD pn 0))])) (fun _ q => XS.icmpYes X1104.here hx rfl (pc0 := 52) (pc' := 65) rfl (D 23) rfl (XT.ii_ne_t hc1107) (by decide) (by decide) (XS.iloadN X1104.here hx rfl (D 30) rfl (XS.bipush X1104.here hx rfl (D 31) q))) ?_
    have hc1108 : ((cs.getD pn 0) = (34 : Int32)) := hq0
    refine own_step (g' := (mkF m 72 #[sR a, sI 0, sI (cs.getD pn 0)] [(.ref a)])) (fun _ q => XS.icmpNo X1104.here hx rfl (D 32) rfl (XT.ii_ne_f hc1108) (XS.aloadN X1104.here hx rfl (D 33) rfl rfl q)) ?_
    refine own_callQW X1104 hx hZ hown hS (Nat.le_refl _) (w127 hw) (w128 hw) (w50 hw) (w129 hw) (w130 hw) (by decide) (own_bW (W := 0) (own_str l Z a0 hw [] G1 G3 a tx t kb cd N2 vs cs pn qe ks h0 n0 Z0 O2 O4 P5 rG3 OLD0 U1 U2 U3 E_a F_text_a F_pos_a E_tx F_value_tx F_coder_tx V_t hcod hcs h8 ge_a hs0 hqe hq8 (hpq : pn + 1 < 8)) hZ (w130 hw) (w40 hw) rfl rfl (own_hEL hw) CH0.1) e1104 E_a  (by first | decide | (dsimp only; omega)) (by first | decide | (dsimp only; omega)) (argsL := []) (rest := []) rfl hml.symm (lenOf pd_22 rfl) rfl rfl (own_w0 rfl rfl) (D 34) ?_
    rintro _ T1109 L1109 X1109 hS hZ hown C1109 ⟨rfl, N1109q, K1109, f0_1109, f1_1109, f2_1109⟩
    have CH1110 := CH0.trans C1109
    have N1111 := Fr.app N1105 N1109q
    refine own_step (g' := (mkF m 132 #[sR a, sI 0, sI (cs.getD pn 0)] [])) (fun _ q => XS.goto X1109.here hx rfl (pc0 := 75) (pc' := 132) rfl (D 35) (by decide) (by decide) q) ?_
    have qF1112 : ((.int (Int32.ofNat (qe + 1))) : Value) = (.int (Int32.ofNat q)) := (by rw [hq])
    have F1112 : own_Fp Z T1109.heap a (.int (Int32.ofNat q)) := own_fixf qF1112 f2_1109
    have c1113 := ((Keep.refl h0 [a]).trans K1109 (allS (Or.inl (List.mem_of_getElem? (i := 0) rfl)) all0))
    exact own_retVW X1109 hx hZ (own_hEL hw) hS (Nat.le_refl _) CH1110 hrt (D 57) hlk ⟨rfl, N1111, c1113, f0_1109, f1_1109, F1112⟩ (by first | decide | (dsimp only; omega)) (by first | decide | (dsimp only; omega))
  · refine own_step (g' := (mkF m 36 #[sR a, sI 0, sI (cs.getD pn 0)] [(.int 123), (.int (cs.getD pn 0))])) (fun _ q => XS.iloadN X1104.here hx rfl (D 12) rfl (XS.bipush X1104.here hx rfl (D 13) q)) ?_
    have hc1114 : ¬ ((cs.getD pn 0) = (123 : Int32)) := (own_dgn (hdg 0 h1)).2.2.2.1
    refine own_step (g' := (mkF m 52 #[sR a, sI 0, sI (cs.getD pn 0)] [(.int 91), (.int (cs.getD pn 0))])) (fun _ q => XS.icmpYes X1104.here hx rfl (pc0 := 36) (pc' := 49) rfl (D 14) rfl (XT.ii_ne_t hc1114) (by decide) (by decide) (XS.iloadN X1104.here hx rfl (D 21) rfl (XS.bipush X1104.here hx rfl (D 22) q))) ?_
    have hc1115 : ¬ ((cs.getD pn 0) = (91 : Int32)) := (own_dgn (hdg 0 h1)).2.2.1
    refine own_step (g' := (mkF m 68 #[sR a, sI 0, sI (cs.getD pn 0)] [(.int 34), (.int (cs.getD pn 0))])) (fun _ q => XS.icmpYes X1104.here hx rfl (pc0 := 52) (pc' := 65) rfl (D 23) rfl (XT.ii_ne_t hc1115) (by decide) (by decide) (XS.iloadN X1104.here hx rfl (D 30) rfl (XS.bipush X1104.here hx rfl (D 31) q))) ?_
    have hc1116 : ¬ ((cs.getD pn 0) = (34 : Int32)) := (own_dgn (hdg 0 h1)).2.1
    refine own_step (g' := (mkF m 81 #[sR a, sI 0, sI (cs.getD pn 0)] [(.int 45), (.int (cs.getD pn 0))])) (fun _ q => XS.icmpYes X1104.here hx rfl (pc0 := 68) (pc' := 78) rfl (D 32) rfl (XT.ii_ne_t hc1116) (by decide) (by decide) (XS.iloadN X1104.here hx rfl (D 36) rfl (XS.bipush X1104.here hx rfl (D 37) q))) ?_
    have hc1117 : ¬ ((cs.getD pn 0) = (45 : Int32)) := (own_dgn (hdg 0 h1)).1
    refine own_step (g' := (mkF m 85 #[sR a, sI 0, sI (cs.getD pn 0)] [(.int (cs.getD pn 0))])) (fun _ q => XS.icmpNo X1104.here hx rfl (D 38) rfl (XT.ii_eq_f hc1117) (XS.iloadN X1104.here hx rfl (D 39) rfl q)) ?_
    refine own_callS X1104 hx hZ hown (w139 hw) (w140 hw) (w40 hw) (w141 hw) (by decide) (own_bO (W := 0) (own_isd1 l Z a0 hw [] (cs.getD pn 0) h0 n0 Z0 ((hdg 0 h1) : ¬ (cs.getD pn 0) < (48 : Int32) ∧ ¬ (57 : Int32) < (cs.getD pn 0))) hZ (w141 hw) (w40 hw) rfl rfl) e1104  (by decide) (by decide) (argsL := [(.int (cs.getD pn 0))]) (rest := []) rfl hml.symm (lenOf pd_16 rfl) rfl rfl (own_w0 rfl rfl) (D 40) ?_
    rintro _ T1118 L1118 X1118 ⟨rfl, N1118q, e1118⟩
    have N1119 := Fr.app N1105 N1118q
    refine own_step (g' := (mkF m 92 #[sR a, sI 0, sI (cs.getD pn 0)] [(.ref a)])) (fun _ q => XS.ifNo X1118.here hx rfl (D 41) rfl (by decide) (XS.aloadN X1118.here hx rfl (D 42) rfl rfl q)) ?_
    refine own_callQ X1118 hx hZ hown (w197 hw) (w198 hw) (w50 hw) (w199 hw) (w200 hw) (by decide) (own_bO (W := 0) (own_numA l Z a0 hw [] G1 G3 a tx t kb cd N2 vs cs pn nd h0 n0 Z0 O2 O4 P5 rG3 OLD0 U1 U2 U3 E_a F_text_a F_pos_a E_tx F_value_tx F_coder_tx V_t hcod hcs h8 ge_a h1 hnd8 hdg h48 hen h46 h101 h69) hZ (w200 hw) (w40 hw) rfl rfl) e1118 E_a  (by decide) (by decide) (argsL := []) (rest := []) rfl hml.symm (lenOf pd_22 rfl) rfl rfl (own_w0 rfl rfl) (D 43) ?_
    rintro _ T1120 L1120 X1120 ⟨rfl, N1120q, K1120, f0_1120, f1_1120, f2_1120⟩
    have CH1121 := CH0.trans (CHr.keep K1120 (sfS (Safe.exa hZ.alike E_a (by decide) (by decide)) sf0) CH0.1)
    have N1122 := Fr.app N1119 N1120q
    refine own_step (g' := (mkF m 132 #[sR a, sI 0, sI (cs.getD pn 0)] [])) (fun _ q => XS.goto X1120.here hx rfl (pc0 := 95) (pc' := 132) rfl (D 44) (by decide) (by decide) q) ?_
    have qF1123 : ((.int (Int32.ofNat (pn + nd))) : Value) = (.int (Int32.ofNat q)) := (by rw [hq])
    have F1123 : own_Fp Z T1120.heap a (.int (Int32.ofNat q)) := own_fixf qF1123 f2_1120
    have c1124 := ((Keep.refl h0 [a]).trans K1120 (allS (Or.inl (List.mem_of_getElem? (i := 0) rfl)) all0))
    have c1125 := (Nat.le_trans (Nat.le_refl _) K1120.1)
    exact own_retVW X1120 hx hZ (own_hEL hw) hS c1125 CH1121 hrt (D 57) hlk ⟨rfl, N1122, c1124, f0_1120, f1_1120, F1123⟩ (by decide) (by decide)
  · refine own_step (g' := (mkF m 36 #[sR a, sI 0, sI (cs.getD pn 0)] [(.int 123), (.int (cs.getD pn 0))])) (fun _ q => XS.iloadN X1104.here hx rfl (D 12) rfl (XS.bipush X1104.here hx rfl (D 13) q)) ?_
    have hc1126 : ¬ ((cs.getD pn 0) = (123 : Int32)) := (own_sg hsg hd2).1
    refine own_step (g' := (mkF m 52 #[sR a, sI 0, sI (cs.getD pn 0)] [(.int 91), (.int (cs.getD pn 0))])) (fun _ q => XS.icmpYes X1104.here hx rfl (pc0 := 36) (pc' := 49) rfl (D 14) rfl (XT.ii_ne_t hc1126) (by decide) (by decide) (XS.iloadN X1104.here hx rfl (D 21) rfl (XS.bipush X1104.here hx rfl (D 22) q))) ?_
    have hc1127 : ¬ ((cs.getD pn 0) = (91 : Int32)) := (own_sg hsg hd2).2.1
    refine own_step (g' := (mkF m 68 #[sR a, sI 0, sI (cs.getD pn 0)] [(.int 34), (.int (cs.getD pn 0))])) (fun _ q => XS.icmpYes X1104.here hx rfl (pc0 := 52) (pc' := 65) rfl (D 23) rfl (XT.ii_ne_t hc1127) (by decide) (by decide) (XS.iloadN X1104.here hx rfl (D 30) rfl (XS.bipush X1104.here hx rfl (D 31) q))) ?_
    have hc1128 : ¬ ((cs.getD pn 0) = (34 : Int32)) := (own_sg hsg hd2).2.2
    refine own_step (g' := (mkF m 81 #[sR a, sI 0, sI (cs.getD pn 0)] [(.int 45), (.int (cs.getD pn 0))])) (fun _ q => XS.icmpYes X1104.here hx rfl (pc0 := 68) (pc' := 78) rfl (D 32) rfl (XT.ii_ne_t hc1128) (by decide) (by decide) (XS.iloadN X1104.here hx rfl (D 36) rfl (XS.bipush X1104.here hx rfl (D 37) q))) ?_
    rcases hsg with ⟨hm, hpn⟩ | ⟨hm, hpn⟩
    · have hc1129 : ((cs.getD pn 0) = (45 : Int32)) := hm
      refine own_step (g' := (mkF m 92 #[sR a, sI 0, sI (cs.getD pn 0)] [(.ref a)])) (fun _ q => XS.icmpYes X1104.here hx rfl (pc0 := 81) (pc' := 91) rfl (D 38) rfl (XT.ii_eq_t hc1129) (by decide) (by decide) (XS.aloadN X1104.here hx rfl (D 42) rfl rfl q)) ?_
      refine own_callQ X1104 hx hZ hown (w197 hw) (w198 hw) (w50 hw) (w199 hw) (w200 hw) (by decide) (own_bO (W := 0) (own_numB l Z a0 hw [] G1 G3 a tx t kb cd N2 vs cs pn h0 n0 Z0 O2 O4 P5 rG3 OLD0 U1 U2 U3 E_a F_text_a F_pos_a E_tx F_value_tx F_coder_tx V_t hcod hcs h8 ge_a (Or.inl ⟨hm, hpn⟩ : (cs.getD pn 0 = (45 : Int32) ∧ pn = 1) ∨ (¬ cs.getD pn 0 = (45 : Int32) ∧ pn = 2)) hd2 h3 hd4 h5 hd6 hn7) hZ (w200 hw) (w40 hw) rfl rfl) e1104 E_a  (by decide) (by decide) (argsL := []) (rest := []) rfl hml.symm (lenOf pd_22 rfl) rfl rfl (own_w0 rfl rfl) (D 43) ?_
      rintro _ T1130 L1130 X1130 ⟨rfl, N1130q, K1130, f0_1130, f1_1130, f2_1130⟩
      have CH1131 := CH0.trans (CHr.keep K1130 (sfS (Safe.exa hZ.alike E_a (by decide) (by decide)) sf0) CH0.1)
      have N1132 := Fr.app N1105 N1130q
      refine own_step (g' := (mkF m 132 #[sR a, sI 0, sI (cs.getD pn 0)] [])) (fun _ q => XS.goto X1130.here hx rfl (pc0 := 95) (pc' := 132) rfl (D 44) (by decide) (by decide) q) ?_
      have qF1133 : ((.int (7 : Int32)) : Value) = (.int (Int32.ofNat q)) := (by subst hq; rfl)
      have F1133 : own_Fp Z T1130.heap a (.int (Int32.ofNat q)) := own_fixf qF1133 f2_1130
      have c1134 := ((Keep.refl h0 [a]).trans K1130 (allS (Or.inl (List.mem_of_getElem? (i := 0) rfl)) all0))
      have c1135 := (Nat.le_trans (Nat.le_refl _) K1130.1)
      exact own_retVW X1130 hx hZ (own_hEL hw) hS c1135 CH1131 hrt (D 57) hlk ⟨rfl, N1132, c1134, f0_1130, f1_1130, F1133⟩ (by decide) (by decide)
    · have hc1136 : ¬ ((cs.getD pn 0) = (45 : Int32)) := hm
      refine own_step (g' := (mkF m 85 #[sR a, sI 0, sI (cs.getD pn 0)] [(.int (cs.getD pn 0))])) (fun _ q => XS.icmpNo X1104.here hx rfl (D 38) rfl (XT.ii_eq_f hc1136) (XS.iloadN X1104.here hx rfl (D 39) rfl q)) ?_
      refine own_callS X1104 hx hZ hown (w139 hw) (w140 hw) (w40 hw) (w141 hw) (by decide) (own_bO (W := 0) (own_isd1 l Z a0 hw [] (cs.getD pn 0) h0 n0 Z0 ((by rw [hpn]; exact hd2) : ¬ (cs.getD pn 0) < (48 : Int32) ∧ ¬ (57 : Int32) < (cs.getD pn 0))) hZ (w141 hw) (w40 hw) rfl rfl) e1104  (by decide) (by decide) (argsL := [(.int (cs.getD pn 0))]) (rest := []) rfl hml.symm (lenOf pd_16 rfl) rfl rfl (own_w0 rfl rfl) (D 40) ?_
      rintro _ T1137 L1137 X1137 ⟨rfl, N1137q, e1137⟩
      have N1138 := Fr.app N1105 N1137q
      refine own_step (g' := (mkF m 92 #[sR a, sI 0, sI (cs.getD pn 0)] [(.ref a)])) (fun _ q => XS.ifNo X1137.here hx rfl (D 41) rfl (by decide) (XS.aloadN X1137.here hx rfl (D 42) rfl rfl q)) ?_
      refine own_callQ X1137 hx hZ hown (w197 hw) (w198 hw) (w50 hw) (w199 hw) (w200 hw) (by decide) (own_bO (W := 0) (own_numB l Z a0 hw [] G1 G3 a tx t kb cd N2 vs cs pn h0 n0 Z0 O2 O4 P5 rG3 OLD0 U1 U2 U3 E_a F_text_a F_pos_a E_tx F_value_tx F_coder_tx V_t hcod hcs h8 ge_a (Or.inr ⟨hm, hpn⟩ : (cs.getD pn 0 = (45 : Int32) ∧ pn = 1) ∨ (¬ cs.getD pn 0 = (45 : Int32) ∧ pn = 2)) hd2 h3 hd4 h5 hd6 hn7) hZ (w200 hw) (w40 hw) rfl rfl) e1137 E_a  (by decide) (by decide) (argsL := []) (rest := []) rfl hml.symm (lenOf pd_22 rfl) rfl rfl (own_w0 rfl rfl) (D 43) ?_
      rintro _ T1139 L1139 X1139 ⟨rfl, N1139q, K1139, f0_1139, f1_1139, f2_1139⟩
      have CH1140 := CH0.trans (CHr.keep K1139 (sfS (Safe.exa hZ.alike E_a (by decide) (by decide)) sf0) CH0.1)
      have N1141 := Fr.app N1138 N1139q
      refine own_step (g' := (mkF m 132 #[sR a, sI 0, sI (cs.getD pn 0)] [])) (fun _ q => XS.goto X1139.here hx rfl (pc0 := 95) (pc' := 132) rfl (D 44) (by decide) (by decide) q) ?_
      have qF1142 : ((.int (7 : Int32)) : Value) = (.int (Int32.ofNat q)) := (by subst hq; rfl)
      have F1142 : own_Fp Z T1139.heap a (.int (Int32.ofNat q)) := own_fixf qF1142 f2_1139
      have c1143 := ((Keep.refl h0 [a]).trans K1139 (allS (Or.inl (List.mem_of_getElem? (i := 0) rfl)) all0))
      have c1144 := (Nat.le_trans (Nat.le_refl _) K1139.1)
      exact own_retVW X1139 hx hZ (own_hEL hw) hS c1144 CH1140 hrt (D 57) hlk ⟨rfl, N1141, c1143, f0_1139, f1_1139, F1142⟩ (by decide) (by decide)
  · refine own_step (g' := (mkF m 36 #[sR a, sI 0, sI (cs.getD pn 0)] [(.int 123), (.int (cs.getD pn 0))])) (fun _ q => XS.iloadN X1104.here hx rfl (D 12) rfl (XS.bipush X1104.here hx rfl (D 13) q)) ?_
    have hc1145 : ¬ ((cs.getD pn 0) = (123 : Int32)) := hf.1
    refine own_step (g' := (mkF m 52 #[sR a, sI 0, sI (cs.getD pn 0)] [(.int 91), (.int (cs.getD pn 0))])) (fun _ q => XS.icmpYes X1104.here hx rfl (pc0 := 36) (pc' := 49) rfl (D 14) rfl (XT.ii_ne_t hc1145) (by decide) (by decide) (XS.iloadN X1104.here hx rfl (D 21) rfl (XS.bipush X1104.here hx rfl (D 22) q))) ?_
    have hc1146 : ¬ ((cs.getD pn 0) = (91 : Int32)) := hf.2.1
    refine own_step (g' := (mkF m 68 #[sR a, sI 0, sI (cs.getD pn 0)] [(.int 34), (.int (cs.getD pn 0))])) (fun _ q => XS.icmpYes X1104.here hx rfl (pc0 := 52) (pc' := 65) rfl (D 23) rfl (XT.ii_ne_t hc1146) (by decide) (by decide) (XS.iloadN X1104.here hx rfl (D 30) rfl (XS.bipush X1104.here hx rfl (D 31) q))) ?_
    have hc1147 : ¬ ((cs.getD pn 0) = (34 : Int32)) := hf.2.2.1
    refine own_step (g' := (mkF m 81 #[sR a, sI 0, sI (cs.getD pn 0)] [(.int 45), (.int (cs.getD pn 0))])) (fun _ q => XS.icmpYes X1104.here hx rfl (pc0 := 68) (pc' := 78) rfl (D 32) rfl (XT.ii_ne_t hc1147) (by decide) (by decide) (XS.iloadN X1104.here hx rfl (D 36) rfl (XS.bipush X1104.here hx rfl (D 37) q))) ?_
    have hc1148 : ¬ ((cs.getD pn 0) = (45 : Int32)) := hf.2.2.2.1
    refine own_step (g' := (mkF m 85 #[sR a, sI 0, sI (cs.getD pn 0)] [(.int (cs.getD pn 0))])) (fun _ q => XS.icmpNo X1104.here hx rfl (D 38) rfl (XT.ii_eq_f hc1148) (XS.iloadN X1104.here hx rfl (D 39) rfl q)) ?_
    refine own_callS X1104 hx hZ hown (w139 hw) (w140 hw) (w40 hw) (w141 hw) (by decide) (own_bO (W := 0) (own_isd0 l Z a0 hw [] (cs.getD pn 0) h0 n0 Z0 (hf.2.2.2.2 : ¬ (¬ (cs.getD pn 0) < (48 : Int32) ∧ ¬ (57 : Int32) < (cs.getD pn 0)))) hZ (w141 hw) (w40 hw) rfl rfl) e1104  (by decide) (by decide) (argsL := [(.int (cs.getD pn 0))]) (rest := []) rfl hml.symm (lenOf pd_16 rfl) rfl rfl (own_w0 rfl rfl) (D 40) ?_
    rintro _ T1149 L1149 X1149 ⟨rfl, N1149q, e1149⟩
    have N1150 := Fr.app N1105 N1149q
    refine own_step (g' := (mkF m 99 #[sR a, sI 0, sI (cs.getD pn 0)] [(.ref a)])) (fun _ q => XS.ifYes X1149.here hx rfl (pc0 := 88) (pc' := 98) rfl (D 41) rfl (by decide) (by decide) (by decide) (XS.aloadN X1149.here hx rfl (D 45) rfl rfl q)) ?_
    obtain ⟨a1151, T1151, h1151, k1151, b1151, kb1151, X1151, e1151, E1151, hS, hk1151, hZ, hown, fE1151, fC1151, fV1151, fA1151, lta1151, ltb1151, C1151, Li1151, sf1151, st1151⟩ := ldcCH X1149 hx hZ hown (w142 hw) (own_wS hw) e1149 hS (Nat.le_refl _) (own_hEL hw) (by decide) CH0.1 (vs := [(.int (116 : Int32)), (.int (114 : Int32)), (.int (117 : Int32)), (.int (101 : Int32))]) (z := (4 : Int32)) ⟨by decide, by decide⟩ (by decide) rfl (g := (mkF m 99 #[sR a, sI 0, sI (cs.getD pn 0)] [(.ref a)])) rfl (D 46) (n := 16) (by decide) (by decide) (by decide) (by decide)
    have CH1152 := CH0.trans C1151
    have c1153 := (E_a.ext E1151)
    have ne1154 := sf1151 a (Safe.exa hZ.alike c1153 (by decide) (by decide))
    refine own_step (T' := T1151) (g' := (mkF m 101 #[sR a, sI 0, sI (cs.getD pn 0)] [(.ref a1151), (.ref a)])) st1151 ?_
    have hla := own_lat8 hcod h8 has
    rcases hL with ⟨ht, hq⟩ | ⟨ht, hL⟩
    · have c1155 := (OLD0.ext E1151)
      have c1156 := (F_text_a.ext E1151)
      have c1157 := (F_pos_a.ext E1151)
      have c1158 := (E_tx.ext E1151)
      have c1159 := (F_value_tx.ext E1151)
      have c1160 := (F_coder_tx.ext E1151)
      have c1161 := (V_t.ext E1151)
      have c1162 := (Nat.le_trans Z0 E1151.1)
      refine own_callQ X1151 hx hZ hown (w143 hw) (w144 hw) (w50 hw) (w145 hw) (w146 hw) (by decide) (own_bO (W := 0) (own_lit1 l Z a0 hw [] G1 G3 a tx t kb cd N2 vs cs pn a1151 b1151 kb1151 [(116 : Int32), (114 : Int32), (117 : Int32), (101 : Int32)] 4 h1151 n0 c1162 O2 O4 P5 rG3 c1155 c1153 c1156 c1157 c1158 c1159 c1160 c1161 hcod hcs h8 fE1151 fV1151 fC1151 fA1151 (rfl : [(116 : Int32), (114 : Int32), (117 : Int32), (101 : Int32)].length = 4) (by decide : 4 ≤ 7) (by omega : pn + 4 ≤ 8) (hla.2.1 : N2 = (8 : Int32)) (hla.2.2 : ∀ i, i < 8 → vs.getD i (.int 0) = .int (cs.getD i 0)) (hla.1 : cd = (0 : Int32)) (ht : own_lw cs pn [(116 : Int32), (114 : Int32), (117 : Int32), (101 : Int32)]) ge_a) hZ (w146 hw) (w40 hw) rfl rfl) e1151 c1153  (by decide) (by decide) (argsL := [(.ref a1151)]) (rest := []) rfl hml.symm (lenOf pd_30 rfl) rfl rfl (own_w0 rfl rfl) (D 47) ?_
      rintro _ T1163 L1163 X1163 ⟨rfl, N1163q, K1163, f0_1163, f1_1163, f2_1163⟩
      have CH1164 := CH1152.trans (CHr.keep K1163 (sfS (Safe.exa hZ.alike c1153 (by decide) (by decide)) sf0) CH1152.1)
      have N1165 := Fr.app N1150 N1163q
      refine own_step (g' := (mkF m 132 #[sR a, sI 0, sI (cs.getD pn 0)] [])) (fun _ q => XS.ifYes X1163.here hx rfl (pc0 := 104) (pc' := 132) rfl (D 48) rfl (by decide) (by decide) (by decide) q) ?_
      have qF1166 : ((.int (Int32.ofNat (pn + 4))) : Value) = (.int (Int32.ofNat q)) := (by rw [hq])
      have F1166 : own_Fp Z T1163.heap a (.int (Int32.ofNat q)) := own_fixf qF1166 f2_1163
      have c1167 := (((Keep.refl h0 [a]).ext E1151).trans K1163 (allS (Or.inl (List.mem_of_getElem? (i := 0) rfl)) all0))
      have c1168 := (Nat.le_trans hk1151 K1163.1)
      exact own_retVW X1163 hx hZ (own_hEL hw) hS c1168 CH1164 hrt (D 57) hlk ⟨rfl, N1165, c1167, f0_1163, f1_1163, F1166⟩ (by decide) (by decide)
    · have c1169 := (OLD0.ext E1151)
      have c1170 := (F_text_a.ext E1151)
      have c1171 := (F_pos_a.ext E1151)
      have c1172 := (E_tx.ext E1151)
      have c1173 := (F_value_tx.ext E1151)
      have c1174 := (F_coder_tx.ext E1151)
      have c1175 := (V_t.ext E1151)
      have c1176 := (Nat.le_trans Z0 E1151.1)
      refine own_callQ X1151 hx hZ hown (w143 hw) (w144 hw) (w50 hw) (w145 hw) (w146 hw) (by decide) (own_bO (W := 0) (own_lit0 l Z a0 hw [] G1 G3 a tx t kb cd N2 vs cs pn a1151 b1151 kb1151 [(116 : Int32), (114 : Int32), (117 : Int32), (101 : Int32)] 4 h1151 n0 c1176 O2 O4 P5 rG3 c1169 c1153 c1170 c1171 c1172 c1173 c1174 c1175 hcod hcs h8 fE1151 fV1151 fC1151 fA1151 (rfl : [(116 : Int32), (114 : Int32), (117 : Int32), (101 : Int32)].length = 4) (by decide : 4 ≤ 7) (by omega : pn + 4 ≤ 8) (hla.2.1 : N2 = (8 : Int32)) (hla.2.2 : ∀ i, i < 8 → vs.getD i (.int 0) = .int (cs.getD i 0)) (hla.1 : cd = (0 : Int32)) (ht : ¬ own_lw cs pn [(116 : Int32), (114 : Int32), (117 : Int32), (101 : Int32)])) hZ (w146 hw) (w40 hw) rfl rfl) e1151 c1153  (by decide) (by decide) (argsL := [(.ref a1151)]) (rest := []) rfl hml.symm (lenOf pd_30 rfl) rfl rfl (own_w0 rfl rfl) (D 47) ?_
      rintro _ T1177 L1177 X1177 ⟨rfl, N1177q, e1177⟩
      have N1178 := Fr.app N1150 N1177q
      refine own_step (g' := (mkF m 108 #[sR a, sI 0, sI (cs.getD pn 0)] [(.ref a)])) (fun _ q => XS.ifNo X1177.here hx rfl (D 48) rfl (by decide) (XS.aloadN X1177.here hx rfl (D 49) rfl rfl q)) ?_
      obtain ⟨a1179, T1179, h1179, k1179, b1179, kb1179, X1179, e1179, E1179, hS, hk1179, hZ, hown, fE1179, fC1179, fV1179, fA1179, lta1179, ltb1179, C1179, Li1179, sf1179, st1179⟩ := ldcCH X1177 hx hZ hown (w253 hw) (own_wS hw) e1177 hS hk1151 (own_hEL hw) (by decide) CH1152.1 (vs := [(.int (102 : Int32)), (.int (97 : Int32)), (.int (108 : Int32)), (.int (115 : Int32)), (.int (101 : Int32))]) (z := (5 : Int32)) ⟨by decide, by decide⟩ (by decide) rfl (g := (mkF m 108 #[sR a, sI 0, sI (cs.getD pn 0)] [(.ref a)])) rfl (D 50) (n := 20) (by decide) (by decide) (by decide) (by decide)
      have CH1180 := CH1152.trans C1179
      have c1181 := (c1153.ext E1179)
      have ne1182 := sf1179 a (Safe.exa hZ.alike c1181 (by decide) (by decide))
      refine own_step (T' := T1179) (g' := (mkF m 110 #[sR a, sI 0, sI (cs.getD pn 0)] [(.ref a1179), (.ref a)])) st1179 ?_
      rcases hL with ⟨hfa, hq⟩ | ⟨hfa, hnu, hq⟩
      · have c1183 := (c1169.ext E1179)
        have c1184 := (c1170.ext E1179)
        have c1185 := (c1171.ext E1179)
        have c1186 := (c1172.ext E1179)
        have c1187 := (c1173.ext E1179)
        have c1188 := (c1174.ext E1179)
        have c1189 := (c1175.ext E1179)
        have c1190 := (Nat.le_trans c1176 E1179.1)
        refine own_callQ X1179 hx hZ hown (w143 hw) (w144 hw) (w50 hw) (w145 hw) (w146 hw) (by decide) (own_bO (W := 0) (own_lit1 l Z a0 hw [] G1 G3 a tx t kb cd N2 vs cs pn a1179 b1179 kb1179 [(102 : Int32), (97 : Int32), (108 : Int32), (115 : Int32), (101 : Int32)] 5 h1179 n0 c1190 O2 O4 P5 rG3 c1183 c1181 c1184 c1185 c1186 c1187 c1188 c1189 hcod hcs h8 fE1179 fV1179 fC1179 fA1179 (rfl : [(102 : Int32), (97 : Int32), (108 : Int32), (115 : Int32), (101 : Int32)].length = 5) (by decide : 5 ≤ 7) (by omega : pn + 5 ≤ 8) (hla.2.1 : N2 = (8 : Int32)) (hla.2.2 : ∀ i, i < 8 → vs.getD i (.int 0) = .int (cs.getD i 0)) (hla.1 : cd = (0 : Int32)) (hfa : own_lw cs pn [(102 : Int32), (97 : Int32), (108 : Int32), (115 : Int32), (101 : Int32)]) ge_a) hZ (w146 hw) (w40 hw) rfl rfl) e1179 c1181  (by decide) (by decide) (argsL := [(.ref a1179)]) (rest := []) rfl hml.symm (lenOf pd_30 rfl) rfl rfl (own_w0 rfl rfl) (D 51) ?_
        rintro _ T1191 L1191 X1191 ⟨rfl, N1191q, K1191, f0_1191, f1_1191, f2_1191⟩
        have CH1192 := CH1180.trans (CHr.keep K1191 (sfS (Safe.exa hZ.alike c1181 (by decide) (by decide)) sf0) CH1180.1)
        have N1193 := Fr.app N1178 N1191q
        refine own_step (g' := (mkF m 132 #[sR a, sI 0, sI (cs.getD pn 0)] [])) (fun _ q => XS.ifYes X1191.here hx rfl (pc0 := 113) (pc' := 132) rfl (D 52) rfl (by decide) (by decide) (by decide) q) ?_
        have qF1194 : ((.int (Int32.ofNat (pn + 5))) : Value) = (.int (Int32.ofNat q)) := (by rw [hq])
        have F1194 : own_Fp Z T1191.heap a (.int (Int32.ofNat q)) := own_fixf qF1194 f2_1191
        have c1195 := ((((Keep.refl h0 [a]).ext E1151).ext E1179).trans K1191 (allS (Or.inl (List.mem_of_getElem? (i := 0) rfl)) all0))
        have c1196 := (Nat.le_trans hk1179 K1191.1)
        exact own_retVW X1191 hx hZ (own_hEL hw) hS c1196 CH1192 hrt (D 57) hlk ⟨rfl, N1193, c1195, f0_1191, f1_1191, F1194⟩ (by decide) (by decide)
      · have c1197 := (c1169.ext E1179)
        have c1198 := (c1170.ext E1179)
        have c1199 := (c1171.ext E1179)
        have c1200 := (c1172.ext E1179)
        have c1201 := (c1173.ext E1179)
        have c1202 := (c1174.ext E1179)
        have c1203 := (c1175.ext E1179)
        have c1204 := (Nat.le_trans c1176 E1179.1)
        refine own_callQ X1179 hx hZ hown (w143 hw) (w144 hw) (w50 hw) (w145 hw) (w146 hw) (by decide) (own_bO (W := 0) (own_lit0 l Z a0 hw [] G1 G3 a tx t kb cd N2 vs cs pn a1179 b1179 kb1179 [(102 : Int32), (97 : Int32), (108 : Int32), (115 : Int32), (101 : Int32)] 5 h1179 n0 c1204 O2 O4 P5 rG3 c1197 c1181 c1198 c1199 c1200 c1201 c1202 c1203 hcod hcs h8 fE1179 fV1179 fC1179 fA1179 (rfl : [(102 : Int32), (97 : Int32), (108 : Int32), (115 : Int32), (101 : Int32)].length = 5) (by decide : 5 ≤ 7) (by omega : pn + 5 ≤ 8) (hla.2.1 : N2 = (8 : Int32)) (hla.2.2 : ∀ i, i < 8 → vs.getD i (.int 0) = .int (cs.getD i 0)) (hla.1 : cd = (0 : Int32)) (hfa : ¬ own_lw cs pn [(102 : Int32), (97 : Int32), (108 : Int32), (115 : Int32), (101 : Int32)])) hZ (w146 hw) (w40 hw) rfl rfl) e1179 c1181  (by decide) (by decide) (argsL := [(.ref a1179)]) (rest := []) rfl hml.symm (lenOf pd_30 rfl) rfl rfl (own_w0 rfl rfl) (D 51) ?_
        rintro _ T1205 L1205 X1205 ⟨rfl, N1205q, e1205⟩
        have N1206 := Fr.app N1178 N1205q
        refine own_step (g' := (mkF m 117 #[sR a, sI 0, sI (cs.getD pn 0)] [(.ref a)])) (fun _ q => XS.ifNo X1205.here hx rfl (D 52) rfl (by decide) (XS.aloadN X1205.here hx rfl (D 53) rfl rfl q)) ?_
        obtain ⟨a1207, T1207, h1207, k1207, b1207, kb1207, X1207, e1207, E1207, hS, hk1207, hZ, hown, fE1207, fC1207, fV1207, fA1207, lta1207, ltb1207, C1207, Li1207, sf1207, st1207⟩ := ldcCH X1205 hx hZ hown (w254 hw) (own_wS hw) e1205 hS hk1179 (own_hEL hw) (by decide) CH1180.1 (vs := [(.int (110 : Int32)), (.int (117 : Int32)), (.int (108 : Int32)), (.int (108 : Int32))]) (z := (4 : Int32)) ⟨by decide, by decide⟩ (by decide) rfl (g := (mkF m 117 #[sR a, sI 0, sI (cs.getD pn 0)] [(.ref a)])) rfl (D 54) (n := 16) (by decide) (by decide) (by decide) (by decide)
        have CH1208 := CH1180.trans C1207
        have c1209 := (c1181.ext E1207)
        have ne1210 := sf1207 a (Safe.exa hZ.alike c1209 (by decide) (by decide))
        refine own_step (T' := T1207) (g' := (mkF m 119 #[sR a, sI 0, sI (cs.getD pn 0)] [(.ref a1207), (.ref a)])) st1207 ?_
        have c1211 := (c1197.ext E1207)
        have c1212 := (c1198.ext E1207)
        have c1213 := (c1199.ext E1207)
        have c1214 := (c1200.ext E1207)
        have c1215 := (c1201.ext E1207)
        have c1216 := (c1202.ext E1207)
        have c1217 := (c1203.ext E1207)
        have c1218 := (Nat.le_trans c1204 E1207.1)
        refine own_callQ X1207 hx hZ hown (w143 hw) (w144 hw) (w50 hw) (w145 hw) (w146 hw) (by decide) (own_bO (W := 0) (own_lit1 l Z a0 hw [] G1 G3 a tx t kb cd N2 vs cs pn a1207 b1207 kb1207 [(110 : Int32), (117 : Int32), (108 : Int32), (108 : Int32)] 4 h1207 n0 c1218 O2 O4 P5 rG3 c1211 c1209 c1212 c1213 c1214 c1215 c1216 c1217 hcod hcs h8 fE1207 fV1207 fC1207 fA1207 (rfl : [(110 : Int32), (117 : Int32), (108 : Int32), (108 : Int32)].length = 4) (by decide : 4 ≤ 7) (by omega : pn + 4 ≤ 8) (hla.2.1 : N2 = (8 : Int32)) (hla.2.2 : ∀ i, i < 8 → vs.getD i (.int 0) = .int (cs.getD i 0)) (hla.1 : cd = (0 : Int32)) (hnu : own_lw cs pn [(110 : Int32), (117 : Int32), (108 : Int32), (108 : Int32)]) ge_a) hZ (w146 hw) (w40 hw) rfl rfl) e1207 c1209  (by decide) (by decide) (argsL := [(.ref a1207)]) (rest := []) rfl hml.symm (lenOf pd_30 rfl) rfl rfl (own_w0 rfl rfl) (D 55) ?_
        rintro _ T1219 L1219 X1219 ⟨rfl, N1219q, K1219, f0_1219, f1_1219, f2_1219⟩
        have CH1220 := CH1208.trans (CHr.keep K1219 (sfS (Safe.exa hZ.alike c1209 (by decide) (by decide)) sf0) CH1208.1)
        have N1221 := Fr.app N1206 N1219q
        refine own_step (g' := (mkF m 132 #[sR a, sI 0, sI (cs.getD pn 0)] [])) (fun _ q => XS.ifYes X1219.here hx rfl (pc0 := 122) (pc' := 132) rfl (D 56) rfl (by decide) (by decide) (by decide) q) ?_
        have qF1222 : ((.int (Int32.ofNat (pn + 4))) : Value) = (.int (Int32.ofNat q)) := (by rw [hq])
        have F1222 : own_Fp Z T1219.heap a (.int (Int32.ofNat q)) := own_fixf qF1222 f2_1219
        have c1223 := (((((Keep.refl h0 [a]).ext E1151).ext E1179).ext E1207).trans K1219 (allS (Or.inl (List.mem_of_getElem? (i := 0) rfl)) all0))
        have c1224 := (Nat.le_trans hk1207 K1219.1)
        exact own_retVW X1219 hx hZ (own_hEL hw) hS c1224 CH1220 hrt (D 57) hlk ⟨rfl, N1221, c1223, f0_1219, f1_1219, F1222⟩ (by decide) (by decide)
  · refine own_step (g' := (mkF m 36 #[sR a, sI 0, sI (cs.getD pn 0)] [(.int 123), (.int (cs.getD pn 0))])) (fun _ q => XS.iloadN X1104.here hx rfl (D 12) rfl (XS.bipush X1104.here hx rfl (D 13) q)) ?_
    have hc1225 : ¬ ((cs.getD pn 0) = (123 : Int32)) := (by rw [hpn, h1_]; decide)
    refine own_step (g' := (mkF m 52 #[sR a, sI 0, sI (cs.getD pn 0)] [(.int 91), (.int (cs.getD pn 0))])) (fun _ q => XS.icmpYes X1104.here hx rfl (pc0 := 36) (pc' := 49) rfl (D 14) rfl (XT.ii_ne_t hc1225) (by decide) (by decide) (XS.iloadN X1104.here hx rfl (D 21) rfl (XS.bipush X1104.here hx rfl (D 22) q))) ?_
    have hc1226 : ((cs.getD pn 0) = (91 : Int32)) := (by rw [hpn]; exact h1_)
    refine own_step (g' := (mkF m 55 #[sR a, sI 0, sI (cs.getD pn 0)] [])) (fun _ q => XS.icmpNo X1104.here hx rfl (D 23) rfl (XT.ii_ne_f hc1226) q) ?_
    have qF1227 : ((.int (Int32.ofNat pn)) : Value) = (.int (1 : Int32)) := (by subst hpn; rfl)
    have F1227 : own_Fp Z h0 a (.int (1 : Int32)) := own_fixf qF1227 F_pos_a
    refine own_step (g' := (mkF m 59 #[sR a, sI 0, sI (cs.getD pn 0)] [(.int 1), (.ref a)])) (fun _ q => XS.aloadN X1104.here hx rfl (D 24) rfl rfl (XS.iloadN X1104.here hx rfl (D 25) rfl (XS.iconst X1104.here hx rfl (D 26) (XS.iadd X1104.here hx rfl (D 27) rfl q)))) ?_
    refine own_callQW X1104 hx hZ hown hS (Nat.le_refl _) (w236 hw) (w237 hw) (w50 hw) (w238 hw) (w239 hw) (by decide) (own_bW (W := 0) (own_arr1 l Z a0 hw [] G1 G3 a tx t kb cd N2 vs cs h0 n0 Z0 O2 O4 P5 rG3 OLD0 U1 U2 U3 E_a F_text_a F1227 E_tx F_value_tx F_coder_tx V_t hcod hcs h8 ge_a hd2 h3 h4 h5 h6) hZ (w239 hw) (w40 hw) rfl rfl (own_hEL hw) CH0.1) e1104 E_a  (by decide) (by decide) (argsL := [(.int (1 : Int32))]) (rest := []) rfl hml.symm (lenOf pd_28 rfl) rfl rfl (own_w0 rfl rfl) (D 28) ?_
    rintro _ T1228 L1228 X1228 hS hZ hown C1228 ⟨rfl, N1228q, K1228, f0_1228, f1_1228, f2_1228⟩
    have CH1229 := CH0.trans C1228
    have N1230 := Fr.app N1105 N1228q
    refine own_step (g' := (mkF m 132 #[sR a, sI 0, sI (cs.getD pn 0)] [])) (fun _ q => XS.goto X1228.here hx rfl (pc0 := 62) (pc' := 132) rfl (D 29) (by decide) (by decide) q) ?_
    have qF1231 : ((.int (7 : Int32)) : Value) = (.int (Int32.ofNat q)) := (by subst hq; rfl)
    have F1231 : own_Fp Z T1228.heap a (.int (Int32.ofNat q)) := own_fixf qF1231 f2_1228
    have c1232 := ((Keep.refl h0 [a]).trans K1228 (allS (Or.inl (List.mem_of_getElem? (i := 0) rfl)) all0))
    exact own_retVW X1228 hx hZ (own_hEL hw) hS (Nat.le_refl _) CH1229 hrt (D 57) hlk ⟨rfl, N1230, c1232, f0_1228, f1_1228, F1231⟩ (by decide) (by decide)
  · refine own_step (g' := (mkF m 36 #[sR a, sI 0, sI (cs.getD pn 0)] [(.int 123), (.int (cs.getD pn 0))])) (fun _ q => XS.iloadN X1104.here hx rfl (D 12) rfl (XS.bipush X1104.here hx rfl (D 13) q)) ?_
    have hc1233 : ((cs.getD pn 0) = (123 : Int32)) := (by rw [hpn]; exact h1_)
    refine own_step (g' := (mkF m 39 #[sR a, sI 0, sI (cs.getD pn 0)] [])) (fun _ q => XS.icmpNo X1104.here hx rfl (D 14) rfl (XT.ii_ne_f hc1233) q) ?_
    have qF1234 : ((.int (Int32.ofNat pn)) : Value) = (.int (1 : Int32)) := (by subst hpn; rfl)
    have F1234 : own_Fp Z h0 a (.int (1 : Int32)) := own_fixf qF1234 F_pos_a
    refine own_step (g' := (mkF m 43 #[sR a, sI 0, sI (cs.getD pn 0)] [(.int 1), (.ref a)])) (fun _ q => XS.aloadN X1104.here hx rfl (D 15) rfl rfl (XS.iloadN X1104.here hx rfl (D 16) rfl (XS.iconst X1104.here hx rfl (D 17) (XS.iadd X1104.here hx rfl (D 18) rfl q)))) ?_
    refine own_callQW X1104 hx hZ hown hS (Nat.le_refl _) (w248 hw) (w249 hw) (w50 hw) (w250 hw) (w251 hw) (by decide) (own_bW (W := 0) (own_obj l Z a0 hw [] G1 G3 a tx t kb cd N2 vs cs h0 n0 Z0 O2 O4 P5 rG3 OLD0 U1 U2 U3 E_a F_text_a F1234 E_tx F_value_tx F_coder_tx V_t hcod hcs h8 ge_a h2 h3 h4 hd5 h6) hZ (w251 hw) (w40 hw) rfl rfl (own_hEL hw) CH0.1) e1104 E_a  (by decide) (by decide) (argsL := [(.int (1 : Int32))]) (rest := []) rfl hml.symm (lenOf pd_28 rfl) rfl rfl (own_w0 rfl rfl) (D 19) ?_
    rintro _ T1235 L1235 X1235 hS hZ hown C1235 ⟨rfl, N1235q, K1235, f0_1235, f1_1235, f2_1235⟩
    have CH1236 := CH0.trans C1235
    have N1237 := Fr.app N1105 N1235q
    refine own_step (g' := (mkF m 132 #[sR a, sI 0, sI (cs.getD pn 0)] [])) (fun _ q => XS.goto X1235.here hx rfl (pc0 := 46) (pc' := 132) rfl (D 20) (by decide) (by decide) q) ?_
    have qF1238 : ((.int (7 : Int32)) : Value) = (.int (Int32.ofNat q)) := (by subst hq; rfl)
    have F1238 : own_Fp Z T1235.heap a (.int (Int32.ofNat q)) := own_fixf qF1238 f2_1235
    have c1239 := ((Keep.refl h0 [a]).trans K1235 (allS (Or.inl (List.mem_of_getElem? (i := 0) rfl)) all0))
    exact own_retVW X1235 hx hZ (own_hEL hw) hS (Nat.le_refl _) CH1236 hrt (D 57) hlk ⟨rfl, N1237, c1239, f0_1235, f1_1235, F1238⟩ (by decide) (by decide)
theorem pd_31 : parseMethodDescriptor "(Ljava/lang/Object;Ljava/lang/String;)Ljava/lang/Object;" = some ⟨[(.object "java/lang/Object"), (.object "java/lang/String")], some (.object "java/lang/Object")⟩ := by decide +kernel
theorem pd_32 : parseMethodDescriptor "(Ljava/lang/String;)V" = some ⟨[(.object "java/lang/String")], none⟩ := by decide +kernel
def Q_own_check (Z : State) (G1 : Int32) (G3 : Value) (tx t : Addr) (kb : ClassId) (cd N2 : Int32) (vs : List Value) (cs : List Int32) (h0 : Heap) (n0 : Nat) (v : Option Value) (h : Heap) (L : List Loc) : Prop := v = none ∧ Fr n0 L ∧ Keep h0 h []
set_option maxRecDepth 65536 in
set_option maxHeartbeats 40000000 in
theorem own_check (l : Launch) (Z : State) (a0 : Array Value) (hw : own_HW a0 Z) (ws : List Jvm.Cond) (G1 : Int32) (G3 : Value) (tx t : Addr) (kb : ClassId) (cd N2 : Int32) (vs : List Value) (cs : List Int32) (h0 : Heap) (n0 : Nat) (Z0 : n0 ≤ h0.size) (O2 : own_O2 Z G1) (O4 : own_O4 Z G3) (P5 : ¬ (G1 = (0 : Int32))) (rG3 : G3.isRef = true) (OLD0 : Old Z n0 h0) (U1 : own_U0 Z) (U2 : own_U1 Z) (U3 : own_U2 Z) (E_tx : own_Es Z h0 tx) (F_value_tx : own_Sv Z h0 tx (.ref t)) (F_coder_tx : own_Sc Z h0 tx (.int cd)) (V_t : Arv Z h0 t kb .byte N2 vs (.int 0)) (hcod : StrChars.Road.CodA cs cd N2 vs) (hcs : own_R16 cs) (h8 : cs.length = 8) (hok : own_ok cs) :
    own_MetW l Z own_EL ⟨"com/example/tote/tote/JsonText", "check", "(Ljava/lang/String;)V"⟩ prog_12_method_2_code 2 none ws ⟨10, 29, 320, 150⟩ #[(.ref tx)] h0 (Q_own_check Z G1 G3 tx t kb cd N2 vs cs h0 n0) := by
  refine own_bodyNW (g0 := fun m => mkF m 0 #[sR tx, .unset] []) (plainFor_of_name pn_4) (fun _ => rfl) ?_
  intro p e s m below meth c s₁ hx hby hml hrt hlk hown hnm hZ e0 X0 hS CH0
  have D := own_d hby kD9
  have ty_tx_t : tx ≠ t := (Exa.neArv E_tx V_t (w10 hw))
  obtain ⟨m1, q, m2, hm1, hm2, hm8, hw1, hnw, hv, hw2, hq8⟩ := hok
  refine own_step (g' := (mkF m 1 #[sR tx, .unset] [(.ref tx)])) (fun _ q => XS.aloadN X0.here hx rfl (D 0) rfl rfl q) ?_
  obtain ⟨a1240, T1240, h1240, k1240, b1240, kb1240, X1240, e1240, E1240, hS, hk1240, hZ, hown, fE1240, fC1240, fV1240, fA1240, lta1240, ltb1240, C1240, Li1240, sf1240, st1240⟩ := ldcCH X0 hx hZ hown (w42 hw) (own_wS hw) e0 hS (Nat.le_refl _) (own_hEL hw) (by decide) CH0.1 (vs := [(.int (112 : Int32)), (.int (97 : Int32)), (.int (121 : Int32)), (.int (108 : Int32)), (.int (111 : Int32)), (.int (97 : Int32)), (.int (100 : Int32))]) (z := (7 : Int32)) ⟨by decide, by decide⟩ (by decide) rfl (g := (mkF m 1 #[sR tx, .unset] [(.ref tx)])) rfl (D 1) (n := 28) (by decide) (by decide) (by decide) (by decide)
  have CH1241 := CH0.trans C1240
  refine own_step (T' := T1240) (g' := (mkF m 3 #[sR tx, .unset] [(.ref a1240), (.ref tx)])) st1240 ?_
  have c1242 := (Nat.le_trans Z0 E1240.1)
  refine own_callS X1240 hx hZ hown (w45 hw) (w46 hw) (w47 hw) (w48 hw) (by decide) (own_bO (W := 0) (own_rnn l Z a0 hw [] tx a1240 h1240 n0 c1242 ) hZ (w48 hw) (w47 hw) rfl rfl) e1240  (by decide) (by decide) (argsL := [(.ref tx), (.ref a1240)]) (rest := []) rfl hml.symm (lenOf pd_31 rfl) rfl rfl (own_w0 rfl rfl) (D 2) ?_
  rintro _ T1243 L1243 X1243 ⟨rfl, N1243q, e1243⟩
  have N1244 := Fr.app (Fr.nil n0) N1243q
  refine own_step (g' := (mkF m 7 #[sR tx, .unset] [])) (fun _ q => XT.pop X1243.here hx rfl (D 3) rfl rfl q) ?_
  obtain ⟨T1245, h1245, X1245, e1245, E1245, A1245, D1245, -, st1245⟩ := newO X1243 hx hZ hown (w49 hw) (w50 hw) (w40 hw) e1243 (g := (mkF m 7 #[sR tx, .unset] [])) rfl (D 4) (by decide) (by decide)
  obtain ⟨b1245, g1245⟩ : ∃ z, z = h1240.size := ⟨_, rfl⟩
  rw [← g1245] at A1245 D1245 st1245
  have n0_1246 : n0 ≤ b1245 := Nat.le_trans c1242 (Nat.le_of_eq g1245.symm)
  have c1247 := ((Keep.refl h0 []).ext E1240)
  have sz0_1248 := Nat.le_trans c1247.1 (Nat.le_of_eq g1245.symm)
  have c1249 := (own_lt E_tx.lt E1240.1)
  have ne1250 : tx ≠ b1245 := own_ne c1249 (Nat.le_of_eq g1245.symm)
  have c1251 := (own_lt V_t.lt E1240.1)
  have ne1252 : t ≠ b1245 := own_ne c1251 (Nat.le_of_eq g1245.symm)
  have ne1253 : a1240 ≠ b1245 := own_ne lta1240 (Nat.le_of_eq g1245.symm)
  have ne1254 : b1240 ≠ b1245 := own_ne ltb1240 (Nat.le_of_eq g1245.symm)
  have sf1255 : Safe Z own_EL _ _ b1245 := Safe.new (EL := own_EL) (Z := Z) (vm := T1240.vm) (Nat.le_of_eq g1245.symm)
  have CH1256 := CH1241.trans (CHr.ext E1245 CH1241.1)
  have ltb1245 := A1245.lt
  have F1257 : own_Ft Z h1245 b1245 .null := D1245 (Or.inr (w56 hw)) (ty := (.object "java/lang/String")) (by decide)
  have F1258 : own_Fp Z h1245 b1245 (.int (0 : Int32)) := D1245 (Or.inl (w62 hw)) (ty := .int) (by decide)
  refine own_step (T' := T1245) (g' := (mkF m 10 #[sR tx, .unset] [(.ref b1245)])) st1245 ?_
  refine own_step (g' := (mkF m 12 #[sR tx, .unset] [(.ref tx), (.ref b1245), (.ref b1245)])) (fun _ q => XS.dup X1245.here hx rfl (D 5) rfl rfl (XS.aloadN X1245.here hx rfl (D 6) rfl rfl q)) ?_
  have c1259 := (Nat.le_trans c1242 E1245.1)
  refine own_callC X1245 hx hZ hown rfl (w51 hw) (w52 hw) (w53 hw) (by decide) (own_bO (W := 1) (own_jti l Z a0 hw [] b1245 tx h1245 n0 c1259 A1245 n0_1246 F1257 F1258) hZ (w53 hw) (w40 hw) rfl rfl) e1245  (by decide) (by decide) (argsL := [(.ref tx)]) (rest := [(.ref b1245)]) rfl hml.symm (lenOf pd_32 rfl) rfl rfl (own_w0 rfl rfl) (D 7) ?_
  rintro _ T1260 L1260 X1260 ⟨rfl, N1260q, K1260, f0_1260, f1_1260, f2_1260⟩
  have c1262 := (Safe.ext E1245 CH1241.1 sf1255)
  have CH1261 := CH1256.trans (CHr.keep K1260 (sfS c1262 sf0) CH1256.1)
  have N1263 := Fr.app N1244 N1260q
  refine own_step (g' := (mkF m 17 #[sR tx, sR b1245] [(.ref b1245)])) (fun _ q => XS.astoreN X1260.here hx rfl (D 8) rfl rfl (l' := #[sR tx, sR b1245]) rfl (XS.aloadN X1260.here hx rfl (D 9) rfl rfl q)) ?_
  have c1264 := (((OLD0.ext E1240).ext E1245).keep K1260 (allS n0_1246 all0))
  have c1265 := (((E_tx.ext E1240).ext E1245).keep K1260)
  have c1266 := (((F_value_tx.ext E1240).ext E1245).keep K1260 (ninS ne1250 nin0))
  have c1267 := (((F_coder_tx.ext E1240).ext E1245).keep K1260 (ninS ne1250 nin0))
  have c1268 := (((V_t.ext E1240).ext E1245).keep K1260 (ninS ne1252 nin0))
  have c1269 := (Nat.le_trans c1259 K1260.1)
  have c1271 := (Nat.le_trans (Nat.le_trans hk1240 E1245.1) K1260.1)
  refine own_callQW X1260 hx hZ hown hS c1271 (w57 hw) (w58 hw) (w50 hw) (w59 hw) (w60 hw) (by decide) (own_bW (W := 0) (own_sw l Z a0 hw [] G1 G3 b1245 tx t kb cd N2 vs cs 0 m1 T1260.heap n0 c1269 O2 O4 P5 rG3 c1264 U1 U2 U3 f0_1260 f1_1260 f2_1260 c1265 c1266 c1267 c1268 hcod hcs h8 n0_1246 (hw1 : ∀ i, i < m1 → own_wh (cs.getD (0 + i) 0)) (Or.inr ⟨by omega, hnw⟩ : 0 + m1 = 8 ∨ (0 + m1 < 8 ∧ own_nwh (cs.getD (0 + m1) 0))) (by omega : 0 + m1 ≤ 8)) hZ (w60 hw) (w40 hw) rfl rfl (own_hEL hw) CH1261.1) rfl f0_1260  (by first | decide | (dsimp only; omega)) (by first | decide | (dsimp only; omega)) (argsL := []) (rest := []) rfl hml.symm (lenOf pd_22 rfl) rfl rfl (own_w0 rfl rfl) (D 10) ?_
  rintro _ T1270 L1270 X1270 hS hZ hown C1270 ⟨rfl, N1270q, K1270, f0_1270, f1_1270, f2_1270⟩
  have CH1272 := CH1261.trans C1270
  have N1273 := Fr.app N1263 N1270q
  have qF1274 : ((.int (Int32.ofNat (0 + m1))) : Value) = (.int (Int32.ofNat m1)) := (by rw [Nat.zero_add])
  have F1274 : own_Fp Z T1270.heap b1245 (.int (Int32.ofNat m1)) := own_fixf qF1274 f2_1270
  refine own_step (g' := (mkF m 22 #[sR tx, sR b1245] [(.int 0), (.ref b1245)])) (fun _ q => XS.aloadN X1270.here hx rfl (D 11) rfl rfl (XS.iconst X1270.here hx rfl (D 12) q)) ?_
  have c1275 := (c1264.keep K1270 (allS n0_1246 all0))
  have c1276 := (c1265.keep K1270)
  have c1277 := (c1266.keep K1270 (ninS ne1250 nin0))
  have c1278 := (c1267.keep K1270 (ninS ne1250 nin0))
  have c1279 := (c1268.keep K1270 (ninS ne1252 nin0))
  have c1280 := (Nat.le_trans c1269 K1270.1)
  refine own_callQW X1270 hx hZ hown hS (Nat.le_refl _) (w123 hw) (w124 hw) (w50 hw) (w125 hw) (w126 hw) (by decide) (own_bW (W := 0) (own_val0 l Z a0 hw [] G1 G3 b1245 tx t kb cd N2 vs cs m1 q T1270.heap n0 c1280 O2 O4 P5 rG3 c1275 U1 U2 U3 f0_1270 f1_1270 F1274 c1276 c1277 c1278 c1279 hcod hcs h8 n0_1246 (hm8 : m1 < 8) hv) hZ (w126 hw) (w40 hw) rfl rfl (own_hEL hw) CH1272.1) rfl f0_1270  (by first | decide | (dsimp only; omega)) (by first | decide | (dsimp only; omega)) (argsL := [(.int (0 : Int32))]) (rest := []) rfl hml.symm (lenOf pd_28 rfl) rfl rfl (own_w0 rfl rfl) (D 13) ?_
  rintro _ T1281 L1281 X1281 hS hZ hown C1281 ⟨rfl, N1281q, K1281, f0_1281, f1_1281, f2_1281⟩
  have CH1282 := CH1272.trans C1281
  have N1283 := Fr.app N1273 N1281q
  refine own_step (g' := (mkF m 26 #[sR tx, sR b1245] [(.ref b1245)])) (fun _ q => XS.aloadN X1281.here hx rfl (D 14) rfl rfl q) ?_
  have c1284 := (c1275.keep K1281 (allS n0_1246 all0))
  have c1285 := (c1276.keep K1281)
  have c1286 := (c1277.keep K1281 (ninS ne1250 nin0))
  have c1287 := (c1278.keep K1281 (ninS ne1250 nin0))
  have c1288 := (c1279.keep K1281 (ninS ne1252 nin0))
  have c1289 := (Nat.le_trans c1280 K1281.1)
  refine own_callQW X1281 hx hZ hown hS (Nat.le_refl _) (w57 hw) (w58 hw) (w50 hw) (w59 hw) (w60 hw) (by decide) (own_bW (W := 0) (own_sw l Z a0 hw [] G1 G3 b1245 tx t kb cd N2 vs cs q m2 T1281.heap n0 c1289 O2 O4 P5 rG3 c1284 U1 U2 U3 f0_1281 f1_1281 f2_1281 c1285 c1286 c1287 c1288 hcod hcs h8 n0_1246 (hw2 : ∀ i, i < m2 → own_wh (cs.getD (q + i) 0)) (Or.inl hq8 : q + m2 = 8 ∨ (q + m2 < 8 ∧ own_nwh (cs.getD (q + m2) 0))) (by omega : q + m2 ≤ 8)) hZ (w60 hw) (w40 hw) rfl rfl (own_hEL hw) CH1282.1) rfl f0_1281  (by first | decide | (dsimp only; omega)) (by first | decide | (dsimp only; omega)) (argsL := []) (rest := []) rfl hml.symm (lenOf pd_22 rfl) rfl rfl (own_w0 rfl rfl) (D 15) ?_
  rintro _ T1290 L1290 X1290 hS hZ hown C1290 ⟨rfl, N1290q, K1290, f0_1290, f1_1290, f2_1290⟩
  have CH1291 := CH1282.trans C1290
  have N1292 := Fr.app N1283 N1290q
  refine own_step (g' := (mkF m 30 #[sR tx, sR b1245] [(.ref b1245)])) (fun _ q => XS.aloadN X1290.here hx rfl (D 16) rfl rfl q) ?_
  refine own_gF X1290 hx hZ hown (w61 hw) rfl f2_1290 rfl rfl (D 17) fun T1293 X1293 e1293 => ?_
  refine own_step (g' := (mkF m 34 #[sR tx, sR b1245] [(.ref tx), (.int (Int32.ofNat (q + m2)))])) (fun _ q => XS.aloadN X1293.here hx rfl (D 18) rfl rfl q) ?_
  have c1294 := (c1284.keep K1290 (allS n0_1246 all0))
  have c1295 := (c1285.keep K1290)
  have c1296 := (c1286.keep K1290 (ninS ne1250 nin0))
  have c1297 := (c1287.keep K1290 (ninS ne1250 nin0))
  have c1298 := (c1288.keep K1290 (ninS ne1252 nin0))
  have c1299 := (Nat.le_trans c1289 K1290.1)
  refine own_callV X1293 hx hZ hown (w63 hw) (w64 hw) (notFace_of_selects (args := #[]) (mvT hZ (w66 hw))) (w66 hw) (w65 hw) (by decide) (own_bO (W := 1) (own_l8 l Z a0 hw [] G1 G3 tx t kb cd N2 vs cs T1290.heap n0 c1299 O2 O4 P5 rG3 c1294 c1295 c1296 c1297 c1298 hcod hcs h8) hZ (w67 hw) (w11 hw) rfl rfl) e1293 c1295  (by first | decide | (dsimp only; omega)) (by first | decide | (dsimp only; omega)) (argsL := []) (rest := [(.int (Int32.ofNat (q + m2)))]) rfl hml.symm (lenOf pd_14 rfl) rfl rfl (own_w0 rfl rfl) (D 19) ?_
  rintro _ T1300 L1300 X1300 ⟨rfl, N1300q, e1300⟩
  have N1301 := Fr.app N1292 N1300q
  have hc1302 : ¬ ((Int32.ofNat (q + m2)) < (8 : Int32)) := (own_ge8 hq8)
  refine own_step (g' := (mkF m 47 #[sR tx, sR b1245] [])) (fun _ q => XS.icmpYes X1300.here hx rfl (pc0 := 37) (pc' := 47) rfl (D 20) rfl (XT.ii_ge_t hc1302) (by decide) (by decide) q) ?_
  have c1303 := (((((c1247.ext E1245).trans K1260 (allS (Or.inr sz0_1248) all0)).trans K1270 (allS (Or.inr sz0_1248) all0)).trans K1281 (allS (Or.inr sz0_1248) all0)).trans K1290 (allS (Or.inr sz0_1248) all0))
  exact own_retVW X1300 hx hZ (own_hEL hw) hS (by rw [e1300]; exact (Nat.le_refl _)) (by rw [e1300]; exact CH1291) hrt (D 21) hlk (by rw [e1300]; exact ⟨rfl, N1301, c1303⟩) (by first | decide | (dsimp only; omega)) (by first | decide | (dsimp only; omega))
theorem pn_8 : plainName "com/example/tote/tote/JsonTextCheckPinLaw" = true := by first | (simp [plainName, overriddenIn]; done) | decide +kernel
def Q_own_lws (Z : State) (jv : Int32) (h0 : Heap) (n0 : Nat) (v : Option Value) (h : Heap) (L : List Loc) : Prop := v = some (.int (own_wsv jv)) ∧ Fr n0 L ∧ Keep h0 h []
set_option maxRecDepth 65536 in
set_option maxHeartbeats 40000000 in
theorem own_lws (l : Launch) (Z : State) (a0 : Array Value) (hw : own_HW a0 Z) (ws : List Jvm.Cond) (jv : Int32) (h0 : Heap) (n0 : Nat) (Z0 : n0 ≤ h0.size)  :
    own_Met l Z ⟨"com/example/tote/tote/JsonTextCheckPinLaw", "ws", "(I)C"⟩ method_2_code 2 (some .char) ws ⟨0, 1, 4, 0⟩ #[(.int jv)] h0 (Q_own_lws Z jv h0 n0) := by
  refine own_bodyN (g0 := fun m => mkF m 0 #[sI jv, .unset] []) (plainFor_of_name pn_8) (fun _ => rfl) ?_
  intro p e s m below meth c s₁ hx hby hml hrt hlk hown hnm hZ e0 X0
  have D := own_d hby kD1
  refine own_step (g' := (mkF m 1 #[sI jv, .unset] [(.int 4)])) (fun _ q => XS.iconst X0.here hx rfl (D 0) q) ?_
  obtain ⟨T1304, h1304, k1304, X1304, e1304, E1304, A1304, st1304⟩ := newP X0 hx hZ (aty := .char) (w0 hw) e0 (g := (mkF m 1 #[sI jv, .unset] [(.int 4)])) rfl (D 1) rfl (by decide) (cap := 4) (by decide) (by first | decide | omega) (by decide) (by decide)
  obtain ⟨b1304, g1304⟩ : ∃ z, z = h0.size := ⟨_, rfl⟩
  rw [← g1304] at A1304 st1304
  have n0_1305 : n0 ≤ b1304 := Nat.le_trans Z0 (Nat.le_of_eq g1304.symm)
  have sz0_1306 := Nat.le_trans (Keep.refl h0 []).1 (Nat.le_of_eq g1304.symm)
  have V1304 : Arv Z h1304 b1304 k1304 .char (4 : Int32) [(.int (0 : Int32)), (.int (0 : Int32)), (.int (0 : Int32)), (.int (0 : Int32))] (.int (0 : Int32)) := (Arv.new A1304 (by decide)).pad (pad_rep [] (.int (0 : Int32)) 4)
  have ltb1304 := V1304.lt
  refine own_step (T' := T1304) (g' := (mkF m 3 #[sI jv, .unset] [(.ref b1304)])) st1304 ?_
  refine own_D4 X1304 hx hZ e1304 V1304 (Fr.nil n0) n0_1305 (D 2)  (own_p1 (D 3)) (own_p2 (D 4)) (D 5) (i := 0) rfl ⟨by decide, by decide⟩ rfl (y := 32) rfl fun T1307 h1307 X1307 e1307 W1307 V1307 N1308 => ?_
  refine own_D4 X1307 hx hZ e1307 V1307 N1308 n0_1305 (D 6)  (own_p1 (D 7)) (own_p2 (D 8)) (D 9) (i := 1) rfl ⟨by decide, by decide⟩ rfl (y := 9) rfl fun T1309 h1309 X1309 e1309 W1309 V1309 N1310 => ?_
  refine own_D4 X1309 hx hZ e1309 V1309 N1310 n0_1305 (D 10)  (own_p1 (D 11)) (own_p2 (D 12)) (D 13) (i := 2) rfl ⟨by decide, by decide⟩ rfl (y := 10) rfl fun T1311 h1311 X1311 e1311 W1311 V1311 N1312 => ?_
  refine own_D4 X1311 hx hZ e1311 V1311 N1312 n0_1305 (D 14)  (own_p1 (D 15)) (own_p2 (D 16)) (D 17) (i := 3) rfl ⟨by decide, by decide⟩ rfl (y := 13) rfl fun T1313 h1313 X1313 e1313 W1313 V1313 N1314 => ?_
  refine own_step (g' := (mkF m 29 #[sI jv, sR b1304] [(.int (own_wsv jv))])) (fun _ q => XS.astoreN X1313.here hx rfl (D 18) rfl rfl (l' := #[sI jv, sR b1304]) rfl (XS.aloadN X1313.here hx rfl (D 19) rfl rfl (XS.iloadN X1313.here hx rfl (D 20) rfl (XS.iconst X1313.here hx rfl (D 21) (XS.iand X1313.here hx rfl (D 22) rfl (own_ldC X1313 hx hZ e1313 V1313 (j := (jv &&& (3 : Int32))) ⟨(own_idx _ 3 (by decide)).1, (own_idx _ 3 (by decide)).2.1⟩ (v := (.int (own_wsv jv))) (own_mapD (cs := [(32 : Int32), (9 : Int32), (10 : Int32), (13 : Int32)]) (Nat.lt_succ_of_le (own_idx _ 3 (by decide)).2.2)) (g := (mkF m 28 #[sI jv, sR b1304] [(.int (jv &&& (3 : Int32))), (.ref b1304)])) rfl rfl (D 23) _ q)))))) ?_
  have c1315 := ((((((Keep.refl h0 []).ext E1304).wr W1307 (Or.inr sz0_1306)).wr W1309 (Or.inr sz0_1306)).wr W1311 (Or.inr sz0_1306)).wr W1313 (Or.inr sz0_1306))
  exact own_retN X1313 hx hrt (by simp) (D 24) hlk (by rw [e1313]; exact ⟨(by rw [own_n16 (own_wh16 (own_wsw jv))]), N1314, c1315⟩) (by decide) (by decide)
def Q_own_lsafe (Z : State) (jv : Int32) (h0 : Heap) (n0 : Nat) (v : Option Value) (h : Heap) (L : List Loc) : Prop := ∃ (r : Int32), v = some (.int r) ∧ Fr n0 L ∧ h = h0 ∧ own_sp r
set_option maxRecDepth 65536 in
set_option maxHeartbeats 40000000 in
theorem own_lsafe (l : Launch) (Z : State) (a0 : Array Value) (hw : own_HW a0 Z) (ws : List Jvm.Cond) (jv : Int32) (h0 : Heap) (n0 : Nat) (Z0 : n0 ≤ h0.size)  :
    own_Met l Z ⟨"com/example/tote/tote/JsonTextCheckPinLaw", "safe", "(I)C"⟩ method_3_code 2 (some .char) ws ⟨0, 0, 0, 0⟩ #[(.int jv)] h0 (Q_own_lsafe Z jv h0 n0) := by
  refine own_bodyN (g0 := fun m => mkF m 0 #[sI jv, .unset] []) (plainFor_of_name pn_8) (fun _ => rfl) ?_
  intro p e s m below meth c s₁ hx hby hml hrt hlk hown hnm hZ e0 X0
  have D := own_d hby kD2
  refine own_step (g' := (mkF m 8 #[sI jv, sI (jv &&& (65535 : Int32))] [(.int 32), (.int (jv &&& (65535 : Int32)))])) (fun _ q => XS.iloadN X0.here hx rfl (D 0) rfl (X0.ldcInt hx hown (mvT hZ (w8 hw)) (g := (mkF m 1 #[sI jv, .unset] [(.int jv)])) rfl (D 1) _ (XS.iand X0.here hx rfl (D 2) rfl (XS.istoreN X0.here hx rfl (D 3) rfl (l' := #[sI jv, sI (jv &&& (65535 : Int32))]) rfl (XS.iloadN X0.here hx rfl (D 4) rfl (XS.bipush X0.here hx rfl (D 5) q)))))) ?_
  by_cases hc1316 : (jv &&& (65535 : Int32)) < (32 : Int32)
  · refine own_step (g' := (mkF m 40 #[sI jv, sI 97] [(.int 97)])) (fun _ q => XS.icmpYes X0.here hx rfl (pc0 := 8) (pc' := 35) rfl (D 6) rfl (XT.ii_lt_t hc1316) (by decide) (by decide) (XS.bipush X0.here hx rfl (D 19) (XS.istoreN X0.here hx rfl (D 20) rfl (l' := #[sI jv, sI 97]) rfl (XS.iloadN X0.here hx rfl (D 21) rfl (XT.i2c X0.here hx rfl (D 22) rfl q))))) ?_
    exact own_retN X0 hx hrt (by simp) (D 23) hlk ⟨(97 : Int32), rfl, (Fr.nil n0), e0, own_sp97⟩ (by decide) (by decide)
  · refine own_step (g' := (mkF m 14 #[sI jv, sI (jv &&& (65535 : Int32))] [(.int 34), (.int (jv &&& (65535 : Int32)))])) (fun _ q => XS.icmpNo X0.here hx rfl (D 6) rfl (XT.ii_lt_f hc1316) (XS.iloadN X0.here hx rfl (D 7) rfl (XS.bipush X0.here hx rfl (D 8) q))) ?_
    by_cases hc1317 : (jv &&& (65535 : Int32)) = (34 : Int32)
    · refine own_step (g' := (mkF m 40 #[sI jv, sI 97] [(.int 97)])) (fun _ q => XS.icmpYes X0.here hx rfl (pc0 := 14) (pc' := 35) rfl (D 9) rfl (XT.ii_eq_t hc1317) (by decide) (by decide) (XS.bipush X0.here hx rfl (D 19) (XS.istoreN X0.here hx rfl (D 20) rfl (l' := #[sI jv, sI 97]) rfl (XS.iloadN X0.here hx rfl (D 21) rfl (XT.i2c X0.here hx rfl (D 22) rfl q))))) ?_
      exact own_retN X0 hx hrt (by simp) (D 23) hlk ⟨(97 : Int32), rfl, (Fr.nil n0), e0, own_sp97⟩ (by decide) (by decide)
    · refine own_step (g' := (mkF m 20 #[sI jv, sI (jv &&& (65535 : Int32))] [(.int 92), (.int (jv &&& (65535 : Int32)))])) (fun _ q => XS.icmpNo X0.here hx rfl (D 9) rfl (XT.ii_eq_f hc1317) (XS.iloadN X0.here hx rfl (D 10) rfl (XS.bipush X0.here hx rfl (D 11) q))) ?_
      by_cases hc1318 : (jv &&& (65535 : Int32)) = (92 : Int32)
      · refine own_step (g' := (mkF m 40 #[sI jv, sI 97] [(.int 97)])) (fun _ q => XS.icmpYes X0.here hx rfl (pc0 := 20) (pc' := 35) rfl (D 12) rfl (XT.ii_eq_t hc1318) (by decide) (by decide) (XS.bipush X0.here hx rfl (D 19) (XS.istoreN X0.here hx rfl (D 20) rfl (l' := #[sI jv, sI 97]) rfl (XS.iloadN X0.here hx rfl (D 21) rfl (XT.i2c X0.here hx rfl (D 22) rfl q))))) ?_
        exact own_retN X0 hx hrt (by simp) (D 23) hlk ⟨(97 : Int32), rfl, (Fr.nil n0), e0, own_sp97⟩ (by decide) (by decide)
      · refine own_step (g' := (mkF m 26 #[sI jv, sI (jv &&& (65535 : Int32))] [(.int 55296), (.int (jv &&& (65535 : Int32)))])) (fun _ q => XS.icmpNo X0.here hx rfl (D 12) rfl (XT.ii_eq_f hc1318) (XS.iloadN X0.here hx rfl (D 13) rfl (X0.ldcInt hx hown (mvT hZ (w156 hw)) (g := (mkF m 24 #[sI jv, sI (jv &&& (65535 : Int32))] [(.int (jv &&& (65535 : Int32)))])) rfl (D 14) _ q))) ?_
        by_cases hc1319 : (jv &&& (65535 : Int32)) < (55296 : Int32)
        · refine own_step (g' := (mkF m 40 #[sI jv, sI (jv &&& (65535 : Int32))] [(.int ((jv &&& (65535 : Int32)).toUInt32.toUInt16.toUInt32.toInt32))])) (fun _ q => XS.icmpYes X0.here hx rfl (pc0 := 26) (pc' := 38) rfl (D 15) rfl (XT.ii_lt_t hc1319) (by decide) (by decide) (XS.iloadN X0.here hx rfl (D 21) rfl (XT.i2c X0.here hx rfl (D 22) rfl q))) ?_
          exact own_retN X0 hx hrt (by simp) (D 23) hlk ⟨(jv &&& (65535 : Int32)), (by rw [own_nic (own_m16 jv)]), (Fr.nil n0), e0, ⟨⟨hc1317, hc1318, hc1316, (fun q => q.1 hc1319)⟩, own_m16 jv⟩⟩ (by decide) (by decide)
        · refine own_step (g' := (mkF m 32 #[sI jv, sI (jv &&& (65535 : Int32))] [(.int 57343), (.int (jv &&& (65535 : Int32)))])) (fun _ q => XS.icmpNo X0.here hx rfl (D 15) rfl (XT.ii_lt_f hc1319) (XS.iloadN X0.here hx rfl (D 16) rfl (X0.ldcInt hx hown (mvT hZ (w192 hw)) (g := (mkF m 30 #[sI jv, sI (jv &&& (65535 : Int32))] [(.int (jv &&& (65535 : Int32)))])) rfl (D 17) _ q))) ?_
          by_cases hc1320 : (57343 : Int32) < (jv &&& (65535 : Int32))
          · refine own_step (g' := (mkF m 40 #[sI jv, sI (jv &&& (65535 : Int32))] [(.int ((jv &&& (65535 : Int32)).toUInt32.toUInt16.toUInt32.toInt32))])) (fun _ q => XS.icmpYes X0.here hx rfl (pc0 := 32) (pc' := 38) rfl (D 18) rfl (XT.ii_gt_t hc1320) (by decide) (by decide) (XS.iloadN X0.here hx rfl (D 21) rfl (XT.i2c X0.here hx rfl (D 22) rfl q))) ?_
            exact own_retN X0 hx hrt (by simp) (D 23) hlk ⟨(jv &&& (65535 : Int32)), (by rw [own_nic (own_m16 jv)]), (Fr.nil n0), e0, ⟨⟨hc1317, hc1318, hc1316, (own_ns57 hc1320)⟩, own_m16 jv⟩⟩ (by decide) (by decide)
          · refine own_step (g' := (mkF m 40 #[sI jv, sI 97] [(.int 97)])) (fun _ q => XS.icmpNo X0.here hx rfl (D 18) rfl (XT.ii_gt_f hc1320) (XS.bipush X0.here hx rfl (D 19) (XS.istoreN X0.here hx rfl (D 20) rfl (l' := #[sI jv, sI 97]) rfl (XS.iloadN X0.here hx rfl (D 21) rfl (XT.i2c X0.here hx rfl (D 22) rfl q))))) ?_
            exact own_retN X0 hx hrt (by simp) (D 23) hlk ⟨(97 : Int32), rfl, (Fr.nil n0), e0, own_sp97⟩ (by decide) (by decide)
def Q_own_ldig (Z : State) (jv : Int32) (h0 : Heap) (n0 : Nat) (v : Option Value) (h : Heap) (L : List Loc) : Prop := v = some (.int (own_dgv jv)) ∧ Fr n0 L ∧ h = h0
set_option maxRecDepth 65536 in
set_option maxHeartbeats 40000000 in
theorem own_ldig (l : Launch) (Z : State) (a0 : Array Value) (hw : own_HW a0 Z) (ws : List Jvm.Cond) (jv : Int32) (h0 : Heap) (n0 : Nat) (Z0 : n0 ≤ h0.size)  :
    own_Met l Z ⟨"com/example/tote/tote/JsonTextCheckPinLaw", "digit", "(I)C"⟩ method_4_code 1 (some .char) ws ⟨0, 0, 0, 0⟩ #[(.int jv)] h0 (Q_own_ldig Z jv h0 n0) := by
  refine own_bodyN (g0 := fun m => mkF m 0 #[sI jv] []) (plainFor_of_name pn_8) (fun _ => rfl) ?_
  intro p e s m below meth c s₁ hx hby hml hrt hlk hown hnm hZ e0 X0
  have D := own_d hby kD44
  refine own_step (g' := (mkF m 10 #[sI jv] [(.int ((48 : Int32) + ((jv &&& (2147483647 : Int32)) % (10 : Int32))))])) (fun _ q => XS.bipush X0.here hx rfl (D 0) (XS.iloadN X0.here hx rfl (D 1) rfl (X0.ldcInt hx hown (mvT hZ (w193 hw)) (g := (mkF m 3 #[sI jv] [(.int jv), (.int 48)])) rfl (D 2) _ (XS.iand X0.here hx rfl (D 3) rfl (XS.bipush X0.here hx rfl (D 4) (iremM X0 hx rfl (D 5) rfl (by decide) (XS.iadd X0.here hx rfl (D 6) rfl q))))))) ?_
  rw [show ((48 : Int32) + ((jv &&& (2147483647 : Int32)) % (10 : Int32))) = (own_dgv jv) from rfl]
  refine own_step (g' := (mkF m 11 #[sI jv] [(.int ((own_dgv jv).toUInt32.toUInt16.toUInt32.toInt32))])) (fun _ q => XT.i2c X0.here hx rfl (D 7) rfl q) ?_
  exact own_retN X0 hx hrt (by simp) (D 8) hlk ⟨(by rw [own_nic (own_dg16 (own_dgd jv))]), (Fr.nil n0), e0⟩ (by decide) (by decide)
theorem pd_33 : parseMethodDescriptor "([C)V" = some ⟨[(.array .char)], none⟩ := by decide +kernel
def Q_own_law (Z : State) (G1 : Int32) (G3 : Value) (kd ja jb jc je : Int32) (h0 : Heap) (n0 : Nat) (v : Option Value) (h : Heap) (L : List Loc) : Prop := v = some (.int (1 : Int32)) ∧ Fr n0 L ∧ Keep h0 h []
set_option maxRecDepth 65536 in
set_option maxHeartbeats 40000000 in
theorem own_law (l : Launch) (Z : State) (a0 : Array Value) (hw : own_HW a0 Z) (ws : List Jvm.Cond) (G1 : Int32) (G3 : Value) (kd ja jb jc je : Int32) (h0 : Heap) (n0 : Nat) (Z0 : n0 ≤ h0.size) (O2 : own_O2 Z G1) (O4 : own_O4 Z G3) (P5 : ¬ (G1 = (0 : Int32))) (rG3 : G3.isRef = true) (OLD0 : Old Z n0 h0) (U1 : own_U0 Z) (U2 : own_U1 Z) (U3 : own_U2 Z) :
    MetFree l x (head1 (Jvm.Cond.code x code maxLocals ret :: ws) room_1) (fun ag U => ag = #[(.int kd), (.int ja), (.int jb), (.int jc), (.int je)] ∧ Z.Warmed39 U.vm ∧ U.heap = h0 ∧ CHv Z own_EL U.vm h0) (fun _ _ _ _ _ => True) (fun _ U o U' => ∃ v L, o = .returned v ∧ Q_own_law Z G1 G3 kd ja jb jc je h0 n0 v U'.heap L ∧ CHr Z own_EL U.vm U.heap U'.vm U'.heap ∧ ReturnedEndW U o U' L room_1.cells room_1.slots) := by
  refine own_bodyW (plainFor_of_name pn_8) ?_
  intro p e s m below meth c s₁ Bd hml hZ e0 hh0 CH0
  have hrt := Bd.returns
  have D : ∀ {pc : Nat} {y : Except DecodeError (Instr × Nat)}, decode code pc = y → decode c.code pc = y := fun q => hb Bd.bytes q
  have hx := Bd.exec
  have hby := Bd.bytes
  have hlk : meth.locks = false := BodyLoose.notSynchronized Bd
  have hown : s.vm.findClass "com/example/tote/tote/JsonTextCheckPinLaw" = some m.cls := findClass_of_methodNamed Bd.named
  have hnm := (name_of_methodNamed Bd.named Bd.method).1
  have X0 : Stand p l e room_1 (s.setVm s.vm) m #[(.int kd), (.int ja), (.int jb), (.int jc), (.int je)] below meth c s₁ [] 0 0 := Stand.of_body Bd
  have N0 := Fr.nil n0
  have hS := (State.WarmedH.refl s).since h0.size
  have hk0 : h0.size ≤ h0.size := Nat.le_refl _
  have KP0 : Keep h0 h0 [] := Keep.refl h0 []
  refine own_cast (g' := (mkF m 0 #[sI kd, sI ja, sI jb, sI jc, sI je, .unset, .unset, .unset, .unset, .unset, .unset, .unset, .unset] [])) (by first | (simp [entryFrame, mkF, argsToLocals, own_cat_int, own_cat_long, own_cat_ref, own_cat_null, maxLocals]; done) | rfl) ?_
  refine own_step (g' := (mkF m 6 #[sI kd, sI ja, sI jb, sI jc, sI je, sI (kd &&& (7 : Int32)), .unset, .unset, .unset, .unset, .unset, .unset, .unset] [])) (fun _ q => XS.iloadN X0.here hx rfl (D at_0) rfl (XS.bipush X0.here hx rfl (D at_1) (XS.iand X0.here hx rfl (D at_3) rfl (XS.istore X0.here hx rfl (D at_4) rfl (l' := #[sI kd, sI ja, sI jb, sI jc, sI je, sI (kd &&& (7 : Int32)), .unset, .unset, .unset, .unset, .unset, .unset, .unset]) rfl q)))) ?_
  have lp_j20 : ∀ (fl : Int32) (T_j20 : State) (h_j20 : Heap) (L_j20 : List Loc) (X_j20 : Stand p l e room_1 (s.setVm s.vm) m #[(.int kd), (.int ja), (.int jb), (.int jc), (.int je)] below meth c T_j20 L_j20 0 0) (e_j20 : T_j20.heap = h_j20) (N_j20 : Fr n0 L_j20) (KL_j20 : Keep h0 h_j20 [])  , own_Fin p e below (own_GW Z own_EL s (Q_own_law Z G1 G3 kd ja jb jc je h0 n0) room_1.cells room_1.slots) T_j20 (mkF m 20 #[sI kd, sI ja, sI jb, sI jc, sI je, sI (kd &&& (7 : Int32)), .unset, .unset, .unset, .unset, .unset, .unset, .unset] [(.int fl)]) := by
    intro fl T_j20 h_j20 L_j20 X_j20 e_j20 N_j20 KL_j20  
    have CH1321 := CH0.trans (CHr.keep KL_j20 sf0 CH0.1)
    refine own_step (g' := (mkF m 30 #[sI kd, sI ja, sI jb, sI jc, sI je, sI (kd &&& (7 : Int32)), sI fl, sI (XT.ushr kd (8 : Int32)), .unset, .unset, .unset, .unset, .unset] [(.int 8)])) (fun _ q => XS.istore X_j20.here hx rfl (D at_20) rfl (l' := #[sI kd, sI ja, sI jb, sI jc, sI je, sI (kd &&& (7 : Int32)), sI fl, .unset, .unset, .unset, .unset, .unset, .unset]) rfl (XS.iloadN X_j20.here hx rfl (D at_22) rfl (XS.bipush X_j20.here hx rfl (D at_23) (XT.iushr X_j20.here hx rfl (D at_25) rfl (XS.istore X_j20.here hx rfl (D at_26) rfl (l' := #[sI kd, sI ja, sI jb, sI jc, sI je, sI (kd &&& (7 : Int32)), sI fl, sI (XT.ushr kd (8 : Int32)), .unset, .unset, .unset, .unset, .unset]) rfl (XS.bipush X_j20.here hx rfl (D at_28) q)))))) ?_
    obtain ⟨T1322, h1322, k1322, X1322, e1322, E1322, A1322, st1322⟩ := newP X_j20 hx hZ (aty := .char) (w0 hw) e_j20 (g := (mkF m 30 #[sI kd, sI ja, sI jb, sI jc, sI je, sI (kd &&& (7 : Int32)), sI fl, sI (XT.ushr kd (8 : Int32)), .unset, .unset, .unset, .unset, .unset] [(.int 8)])) rfl (D at_30) rfl (by decide) (cap := 8) (by decide) (by first | decide | omega) (by first | decide | (show _ ≤ (40 : Nat); first | omega | (dsimp only; omega))) (by first | decide | (show _ ≤ (6400 : Nat); first | omega | (dsimp only; omega)))
    obtain ⟨b1322, g1322⟩ : ∃ z, z = h_j20.size := ⟨_, rfl⟩
    rw [← g1322] at A1322 st1322
    have c1323 := (Nat.le_trans Z0 KL_j20.1)
    have n0_1324 : n0 ≤ b1322 := Nat.le_trans c1323 (Nat.le_of_eq g1322.symm)
    have c1325 := (KP0.trans KL_j20 all0)
    have sz0_1326 := Nat.le_trans c1325.1 (Nat.le_of_eq g1322.symm)
    have sf1327 : Safe Z own_EL _ _ b1322 := Safe.new (EL := own_EL) (Z := Z) (vm := s.vm) (Nat.le_of_eq g1322.symm)
    have CH1328 := CH1321.trans (CHr.ext E1322 CH1321.1)
    have V1322 : Arv Z h1322 b1322 k1322 .char (8 : Int32) [(.int (0 : Int32)), (.int (0 : Int32)), (.int (0 : Int32)), (.int (0 : Int32)), (.int (0 : Int32)), (.int (0 : Int32)), (.int (0 : Int32)), (.int (0 : Int32))] (.int (0 : Int32)) := (Arv.new A1322 (by decide)).pad (pad_rep [] (.int (0 : Int32)) 8)
    have ltb1322 := V1322.lt
    refine own_step (T' := T1322) (g' := (mkF m 32 #[sI kd, sI ja, sI jb, sI jc, sI je, sI (kd &&& (7 : Int32)), sI fl, sI (XT.ushr kd (8 : Int32)), .unset, .unset, .unset, .unset, .unset] [(.ref b1322)])) st1322 ?_
    refine own_step (g' := (mkF m 40 (own_lf kd ja jb jc je fl b1322 .unset .unset .unset .unset) [(.int (XT.ushr kd (3 : Int32))), (.int 0), (.ref b1322)])) (fun _ q => XS.astore X1322.here hx rfl (D at_32) rfl rfl (l' := (own_lf kd ja jb jc je fl b1322 .unset .unset .unset .unset)) rfl (XS.aload X1322.here hx rfl (D at_34) rfl rfl (XS.iconst X1322.here hx rfl (D at_36) (XS.iloadN X1322.here hx rfl (D at_37) rfl (XS.iconst X1322.here hx rfl (D at_38) (XT.iushr X1322.here hx rfl (D at_39) rfl q)))))) ?_
    have c1329 := (Nat.le_trans c1323 E1322.1)
    refine own_callS X1322 hx hZ hown (w1 hw) (w2 hw) (w3 hw) (w4 hw) (by decide) (own_bO (W := 2) (own_lws l Z a0 hw [] (XT.ushr kd (3 : Int32)) h1322 n0 c1329 ) hZ (w4 hw) (w3 hw) rfl rfl) e1322  (by first | decide | (show _ ≤ (40 : Nat); first | omega | (dsimp only; omega))) (by first | decide | (show _ ≤ (6400 : Nat); first | omega | (dsimp only; omega))) (argsL := [(.int (XT.ushr kd (3 : Int32)))]) (rest := [(.int (0 : Int32)), (.ref b1322)]) rfl hml.symm (lenOf pd_15 rfl) rfl rfl (own_w0 rfl rfl) (D at_40) ?_
    rintro _ T1330 L1330 X1330 ⟨rfl, N1330q, K1330⟩
    have CH1331 := CH1328.trans (CHr.keep K1330 sf0 CH1328.1)
    have N1332 := Fr.app N_j20 N1330q
    have c1333 := (V1322.keep K1330 nin0)
    refine own_stCn X1330 hx hZ rfl c1333 N1332 n0_1324 (j := (0 : Int32)) (i := 0) rfl ⟨by decide, by decide⟩ rfl (y := (own_wsv (XT.ushr kd (3 : Int32)))) (own_n16 (own_wh16 (own_wsw (XT.ushr kd (3 : Int32))))) rfl rfl (D at_43) fun T1334 h1334 X1334 e1334 W1334 V1334 N1335 => ?_
    have c1337 := (Safe.keep K1330 sf0 CH1328.1 (Safe.ext E1322 CH1321.1 sf1327))
    have CH1336 := CH1331.trans (CHr.wr W1334 c1337 CH1331.1)
    refine own_step (g' := (mkF m 51 (own_lf kd ja jb jc je fl b1322 .unset .unset .unset .unset) [(.int (XT.ushr kd (5 : Int32))), (.int 7), (.ref b1322)])) (fun _ q => XS.aload X1334.here hx rfl (D at_44) rfl rfl (XS.bipush X1334.here hx rfl (D at_46) (XS.iloadN X1334.here hx rfl (D at_48) rfl (XS.iconst X1334.here hx rfl (D at_49) (XT.iushr X1334.here hx rfl (D at_50) rfl q))))) ?_
    have c1338 := (Nat.le_trans (Nat.le_trans c1329 K1330.1) (Keep.of_wr W1334).1)
    refine own_callS X1334 hx hZ hown (w1 hw) (w2 hw) (w3 hw) (w4 hw) (by decide) (own_bO (W := 2) (own_lws l Z a0 hw [] (XT.ushr kd (5 : Int32)) h1334 n0 c1338 ) hZ (w4 hw) (w3 hw) rfl rfl) e1334  (by first | decide | (show _ ≤ (40 : Nat); first | omega | (dsimp only; omega))) (by first | decide | (show _ ≤ (6400 : Nat); first | omega | (dsimp only; omega))) (argsL := [(.int (XT.ushr kd (5 : Int32)))]) (rest := [(.int (7 : Int32)), (.ref b1322)]) rfl hml.symm (lenOf pd_15 rfl) rfl rfl (own_w0 rfl rfl) (D at_51) ?_
    rintro _ T1339 L1339 X1339 ⟨rfl, N1339q, K1339⟩
    have CH1340 := CH1336.trans (CHr.keep K1339 sf0 CH1336.1)
    have N1341 := Fr.app N1335 N1339q
    have c1342 := (V1334.keep K1339 nin0)
    refine own_stCn X1339 hx hZ rfl c1342 N1341 n0_1324 (j := (7 : Int32)) (i := 7) rfl ⟨by decide, by decide⟩ rfl (y := (own_wsv (XT.ushr kd (5 : Int32)))) (own_n16 (own_wh16 (own_wsw (XT.ushr kd (5 : Int32))))) rfl rfl (D at_54) fun T1343 h1343 X1343 e1343 W1343 V1343 N1344 => ?_
    have c1346 := (Safe.keep K1339 sf0 CH1336.1 (Safe.wr W1334 c1337 CH1331.1 c1337))
    have CH1345 := CH1340.trans (CHr.wr W1343 c1346 CH1340.1)
    have lp_j947 : ∀ (cs : List Int32) (s9 : Slot) (s10 : Slot) (s11 : Slot) (s12 : Slot) (T_j947 : State) (h_j947 : Heap) (L_j947 : List Loc) (X_j947 : Stand p l e room_1 (s.setVm s.vm) m #[(.int kd), (.int ja), (.int jb), (.int jc), (.int je)] below meth c T_j947 L_j947 5 56) (e_j947 : T_j947.heap = h_j947) (N_j947 : Fr n0 L_j947) (KL_j947 : Keep h1343 h_j947 [b1322]) (g0_j947 : Arv Z h_j947 b1322 k1322 .char (8 : Int32) (cs.map Value.int) (.int (0 : Int32))) (hok : own_ok cs) (hcs : own_R16 cs) (h8 : cs.length = 8) (hs9 : s9 = .unset ∨ ∃ w, s9 = .val w ∧ w.category = 1) (hs10 : s10 = .unset ∨ ∃ w, s10 = .val w ∧ w.category = 1) (hs11 : s11 = .unset ∨ ∃ w, s11 = .val w ∧ w.category = 1) (hs12 : s12 = .unset ∨ ∃ w, s12 = .val w ∧ w.category = 1), own_Fin p e below (own_GW Z own_EL s (Q_own_law Z G1 G3 kd ja jb jc je h0 n0) room_1.cells room_1.slots) T_j947 (mkF m 947 (own_lf kd ja jb jc je fl b1322 s9 s10 s11 s12) []) := by
      intro cs s9 s10 s11 s12 T_j947 h_j947 L_j947 X_j947 e_j947 N_j947 KL_j947 g0_j947 hok hcs h8 hs9 hs10 hs11 hs12
      have c1348 := (Safe.wr W1343 c1346 CH1340.1 c1346)
      have CH1347 := CH1345.trans (CHr.keep KL_j947 (sfS c1348 sf0) CH1345.1)
      obtain ⟨T1349, h1349, X1349, e1349, E1349, A1349, D1349, -, st1349⟩ := newO X_j947 hx hZ hown (w9 hw) (w10 hw) (w11 hw) e_j947 (g := (mkF m 947 (own_lf kd ja jb jc je fl b1322 s9 s10 s11 s12) [])) rfl (D at_947) (by first | decide | (show _ ≤ (40 : Nat); first | omega | (dsimp only; omega))) (by first | decide | (show _ ≤ (6400 : Nat); first | omega | (dsimp only; omega)))
      obtain ⟨b1349, g1349⟩ : ∃ z, z = h_j947.size := ⟨_, rfl⟩
      rw [← g1349] at A1349 D1349 st1349
      have c1350 := (Nat.le_trans (Nat.le_trans (Nat.le_trans c1338 K1339.1) (Keep.of_wr W1343).1) KL_j947.1)
      have n0_1351 : n0 ≤ b1349 := Nat.le_trans c1350 (Nat.le_of_eq g1349.symm)
      have c1352 := ((((((c1325.ext E1322).trans K1330 all0).wr W1334 (Or.inr sz0_1326)).trans K1339 all0).wr W1343 (Or.inr sz0_1326)).trans KL_j947 (allS (Or.inr sz0_1326) all0))
      have sz0_1353 := Nat.le_trans c1352.1 (Nat.le_of_eq g1349.symm)
      have c1354 := (own_lt (own_lt (own_lt (own_lt (own_lt ltb1322 K1330.1) (Keep.of_wr W1334).1) K1339.1) (Keep.of_wr W1343).1) KL_j947.1)
      have ne1355 : b1322 ≠ b1349 := own_ne c1354 (Nat.le_of_eq g1349.symm)
      have sf1356 : Safe Z own_EL _ _ b1349 := Safe.new (EL := own_EL) (Z := Z) (vm := s.vm) (Nat.le_of_eq g1349.symm)
      have CH1357 := CH1347.trans (CHr.ext E1349 CH1347.1)
      have ltb1349 := A1349.lt
      have F1358 : own_Sc Z h1349 b1349 (.int (0 : Int32)) := D1349 (Or.inr (w35 hw)) (ty := .byte) (by decide)
      have F1359 : own_Sv Z h1349 b1349 .null := D1349 (Or.inr (w37 hw)) (ty := (.array .byte)) (by decide)
      refine own_step (T' := T1349) (g' := (mkF m 950 (own_lf kd ja jb jc je fl b1322 s9 s10 s11 s12) [(.ref b1349)])) st1349 ?_
      refine own_step (g' := (mkF m 951 (own_lf kd ja jb jc je fl b1322 s9 s10 s11 s12) [(.ref b1349), (.ref b1349)])) (fun _ q => XS.dup X1349.here hx rfl (D at_950) rfl rfl q) ?_
      have c1360 := (g0_j947.ext E1349)
      have qV1361 : ((8 : Int32) : Int32) = (Int32.ofNat cs.length) := congrArg Int32.ofNat h8.symm
      have V1361 : Arv Z h1349 b1322 k1322 .char (Int32.ofNat cs.length) (cs.map Value.int) (.int (0 : Int32)) := own_fixn qV1361 c1360
      refine own_step (g' := (mkF m 953 (own_lf kd ja jb jc je fl b1322 s9 s10 s11 s12) [(.ref b1322), (.ref b1349), (.ref b1349)])) (fun _ q => XS.aload X1349.here hx rfl (D at_951) rfl rfl q) ?_
      have c1362 := ((((((((OLD0.keep KL_j20 all0).ext E1322).keep K1330 all0).wr W1334 n0_1324).keep K1339 all0).wr W1343 n0_1324).keep KL_j947 (allS n0_1324 all0)).ext E1349)
      have c1363 := (Nat.le_trans c1350 E1349.1)
      refine own_callC X1349 hx hZ hown rfl (w12 hw) (w13 hw) (w14 hw) (by decide) (own_bO (W := 1) (own_new1 l Z a0 hw [] G1 G3 b1349 (0 : Int32) Value.null b1322 k1322 cs (.int (0 : Int32)) h1349 n0 c1363 O2 O4 P5 rG3 c1362 U1 U2 U3 A1349 n0_1351 F1358 F1359 V1361 hcs (by omega : 0 < cs.length) (by omega : cs.length ≤ 400)) hZ (w14 hw) (w11 hw) rfl rfl) e1349  (by first | decide | (show _ ≤ (40 : Nat); first | omega | (dsimp only; omega))) (by first | decide | (show _ ≤ (6400 : Nat); first | omega | (dsimp only; omega))) (argsL := [(.ref b1322)]) (rest := [(.ref b1349)]) rfl hml.symm (lenOf pd_33 rfl) rfl rfl (own_w0 rfl rfl) (D at_953) ?_
      rintro _ T1364 L1364 X1364 ⟨t1364, kb1364, cd1364, N21364, vs1364, rfl, N1364q, K1364, f0_1364, f1_1364, f2_1364, f3_1364, f4_1364, p0_1364⟩
      have n0_1365 : n0 ≤ t1364 := Nat.le_trans c1363 f0_1364
      have c1366 := (c1352.ext E1349)
      have sz0_1367 := Nat.le_trans c1366.1 f0_1364
      have c1368 := (own_lt c1354 E1349.1)
      have ne1369 : b1322 ≠ t1364 := own_ne c1368 f0_1364
      have ne1370 : b1349 ≠ t1364 := own_ne ltb1349 f0_1364
      have sf1371 : Safe Z own_EL _ _ t1364 := Safe.new (EL := own_EL) (Z := Z) (vm := s.vm) f0_1364
      have c1373 := (Safe.ext E1349 CH1347.1 sf1356)
      have CH1372 := CH1357.trans (CHr.keep K1364 (sfS c1373 sf0) CH1357.1)
      have lt1374 := f4_1364.lt
      have N1375 := Fr.app N_j947 N1364q
      have c1376 := (c1362.keep K1364 (allS n0_1351 all0))
      have c1377 := (Nat.le_trans c1363 K1364.1)
      have c1379 := (Nat.le_trans (Nat.le_trans (Nat.le_trans (Nat.le_trans (Nat.le_trans (Nat.le_trans (Nat.le_trans (Nat.le_trans (Nat.le_trans hk0 KL_j20.1) E1322.1) K1330.1) (Keep.of_wr W1334).1) K1339.1) (Keep.of_wr W1343).1) KL_j947.1) E1349.1) K1364.1)
      refine own_callSW X1364 hx hZ hown hS c1379 (w38 hw) (w39 hw) (w40 hw) (w41 hw) (by decide) (own_bW (W := 0) (own_check l Z a0 hw [] G1 G3 b1349 t1364 kb1364 cd1364 N21364 vs1364 cs T1364.heap n0 c1377 O2 O4 P5 rG3 c1376 U1 U2 U3 f1_1364 f3_1364 f2_1364 f4_1364 (p0_1364 : StrChars.Road.CodA cs cd1364 N21364 vs1364) hcs h8 hok) hZ (w41 hw) (w40 hw) rfl rfl (own_hEL hw) CH1372.1) rfl  (by first | decide | (show _ ≤ (40 : Nat); first | omega | (dsimp only; omega))) (by first | decide | (show _ ≤ (6400 : Nat); first | omega | (dsimp only; omega))) (argsL := [(.ref b1349)]) (rest := []) rfl hml.symm (lenOf pd_32 rfl) rfl rfl (own_w0 rfl rfl) (D at_956) ?_
      rintro _ T1378 L1378 X1378 hS hZ hown C1378 ⟨rfl, N1378q, K1378⟩
      have CH1380 := CH1372.trans C1378
      have N1381 := Fr.app N1375 N1378q
      refine own_step (g' := (mkF m 960 (own_lf kd ja jb jc je fl b1322 s9 s10 s11 s12) [(.int 1)])) (fun _ q => XS.iconst X1378.here hx rfl (D at_959) q) ?_
      have c1382 := ((c1366.trans K1364 (allS (Or.inr sz0_1353) all0)).trans K1378 all0)
      exact own_retNW X1378 hx hZ (own_hEL hw) hS (Nat.le_refl _) CH1380 hrt (by simp) (D at_960) hlk ⟨rfl, N1381, c1382⟩ (by first | decide | (show _ ≤ (40 : Nat); first | omega | (dsimp only; omega))) (by first | decide | (show _ ≤ (6400 : Nat); first | omega | (dsimp only; omega)))
    refine own_step (g' := (mkF m 57 (own_lf kd ja jb jc je fl b1322 .unset .unset .unset .unset) [(.int (kd &&& (7 : Int32)))])) (fun _ q => XS.iload X1343.here hx rfl (D at_55) rfl q) ?_
    by_cases hc1383 : (kd &&& (7 : Int32)) = 0
    · refine own_step (g' := (mkF m 60 (own_lf kd ja jb jc je fl b1322 .unset .unset .unset .unset) [])) (fun _ q => XS.ifNo X1343.here hx rfl (D at_57) rfl (XT.i0_ne_f hc1383) q) ?_
      refine own_S4 X1343 hx hZ e1343 V1343 N1344 n0_1324 (D at_60) rfl (own_p1 (D at_62)) (own_p2 (D at_63)) (D at_65) (i := 1) rfl ⟨by decide, by decide⟩ rfl (y := 34) rfl fun T1384 h1384 X1384 e1384 W1384 V1384 N1385 => ?_
      refine own_step (g' := (mkF m 70 (own_lf kd ja jb jc je fl b1322 .unset .unset .unset .unset) [(.int ja), (.int 2), (.ref b1322)])) (fun _ q => XS.aload X1384.here hx rfl (D at_66) rfl rfl (XS.iconst X1384.here hx rfl (D at_68) (XS.iloadN X1384.here hx rfl (D at_69) rfl q))) ?_
      have c1386 := (Nat.le_trans (Nat.le_trans (Nat.le_trans c1338 K1339.1) (Keep.of_wr W1343).1) (Keep.of_wr W1384).1)
      refine own_callS X1384 hx hZ hown (w5 hw) (w6 hw) (w3 hw) (w7 hw) (by decide) (own_bO (W := 2) (own_lsafe l Z a0 hw [] ja h1384 n0 c1386 ) hZ (w7 hw) (w3 hw) rfl rfl) e1384  (by first | decide | (show _ ≤ (40 : Nat); first | omega | (dsimp only; omega))) (by first | decide | (show _ ≤ (6400 : Nat); first | omega | (dsimp only; omega))) (argsL := [(.int ja)]) (rest := [(.int (2 : Int32)), (.ref b1322)]) rfl hml.symm (lenOf pd_15 rfl) rfl rfl (own_w0 rfl rfl) (D at_70) ?_
      rintro _ T1387 L1387 X1387 ⟨r1387, rfl, N1387q, e1387, p0_1387⟩
      have N1388 := Fr.app N1385 N1387q
      refine own_stCn X1387 hx hZ e1387 V1384 N1388 n0_1324 (j := (2 : Int32)) (i := 2) rfl ⟨by decide, by decide⟩ rfl (y := r1387) (own_n16 p0_1387.2) rfl rfl (D at_73) fun T1389 h1389 X1389 e1389 W1389 V1389 N1390 => ?_
      refine own_step (g' := (mkF m 78 (own_lf kd ja jb jc je fl b1322 .unset .unset .unset .unset) [(.int jb), (.int 3), (.ref b1322)])) (fun _ q => XS.aload X1389.here hx rfl (D at_74) rfl rfl (XS.iconst X1389.here hx rfl (D at_76) (XS.iloadN X1389.here hx rfl (D at_77) rfl q))) ?_
      have c1391 := (Nat.le_trans c1386 (Keep.of_wr W1389).1)
      refine own_callS X1389 hx hZ hown (w5 hw) (w6 hw) (w3 hw) (w7 hw) (by decide) (own_bO (W := 2) (own_lsafe l Z a0 hw [] jb h1389 n0 c1391 ) hZ (w7 hw) (w3 hw) rfl rfl) e1389  (by first | decide | (show _ ≤ (40 : Nat); first | omega | (dsimp only; omega))) (by first | decide | (show _ ≤ (6400 : Nat); first | omega | (dsimp only; omega))) (argsL := [(.int jb)]) (rest := [(.int (3 : Int32)), (.ref b1322)]) rfl hml.symm (lenOf pd_15 rfl) rfl rfl (own_w0 rfl rfl) (D at_78) ?_
      rintro _ T1392 L1392 X1392 ⟨r1392, rfl, N1392q, e1392, p0_1392⟩
      have N1393 := Fr.app N1390 N1392q
      refine own_stCn X1392 hx hZ e1392 V1389 N1393 n0_1324 (j := (3 : Int32)) (i := 3) rfl ⟨by decide, by decide⟩ rfl (y := r1392) (own_n16 p0_1392.2) rfl rfl (D at_81) fun T1394 h1394 X1394 e1394 W1394 V1394 N1395 => ?_
      refine own_step (g' := (mkF m 86 (own_lf kd ja jb jc je fl b1322 .unset .unset .unset .unset) [(.int jc), (.int 4), (.ref b1322)])) (fun _ q => XS.aload X1394.here hx rfl (D at_82) rfl rfl (XS.iconst X1394.here hx rfl (D at_84) (XS.iloadN X1394.here hx rfl (D at_85) rfl q))) ?_
      have c1396 := (Nat.le_trans c1391 (Keep.of_wr W1394).1)
      refine own_callS X1394 hx hZ hown (w5 hw) (w6 hw) (w3 hw) (w7 hw) (by decide) (own_bO (W := 2) (own_lsafe l Z a0 hw [] jc h1394 n0 c1396 ) hZ (w7 hw) (w3 hw) rfl rfl) e1394  (by first | decide | (show _ ≤ (40 : Nat); first | omega | (dsimp only; omega))) (by first | decide | (show _ ≤ (6400 : Nat); first | omega | (dsimp only; omega))) (argsL := [(.int jc)]) (rest := [(.int (4 : Int32)), (.ref b1322)]) rfl hml.symm (lenOf pd_15 rfl) rfl rfl (own_w0 rfl rfl) (D at_86) ?_
      rintro _ T1397 L1397 X1397 ⟨r1397, rfl, N1397q, e1397, p0_1397⟩
      have N1398 := Fr.app N1395 N1397q
      refine own_stCn X1397 hx hZ e1397 V1394 N1398 n0_1324 (j := (4 : Int32)) (i := 4) rfl ⟨by decide, by decide⟩ rfl (y := r1397) (own_n16 p0_1397.2) rfl rfl (D at_89) fun T1399 h1399 X1399 e1399 W1399 V1399 N1400 => ?_
      refine own_step (g' := (mkF m 95 (own_lf kd ja jb jc je fl b1322 .unset .unset .unset .unset) [(.int je), (.int 5), (.ref b1322)])) (fun _ q => XS.aload X1399.here hx rfl (D at_90) rfl rfl (XS.iconst X1399.here hx rfl (D at_92) (XS.iload X1399.here hx rfl (D at_93) rfl q))) ?_
      have c1401 := (Nat.le_trans c1396 (Keep.of_wr W1399).1)
      refine own_callS X1399 hx hZ hown (w5 hw) (w6 hw) (w3 hw) (w7 hw) (by decide) (own_bO (W := 2) (own_lsafe l Z a0 hw [] je h1399 n0 c1401 ) hZ (w7 hw) (w3 hw) rfl rfl) e1399  (by first | decide | (show _ ≤ (40 : Nat); first | omega | (dsimp only; omega))) (by first | decide | (show _ ≤ (6400 : Nat); first | omega | (dsimp only; omega))) (argsL := [(.int je)]) (rest := [(.int (5 : Int32)), (.ref b1322)]) rfl hml.symm (lenOf pd_15 rfl) rfl rfl (own_w0 rfl rfl) (D at_95) ?_
      rintro _ T1402 L1402 X1402 ⟨r1402, rfl, N1402q, e1402, p0_1402⟩
      have N1403 := Fr.app N1400 N1402q
      refine own_stCn X1402 hx hZ e1402 V1399 N1403 n0_1324 (j := (5 : Int32)) (i := 5) rfl ⟨by decide, by decide⟩ rfl (y := r1402) (own_n16 p0_1402.2) rfl rfl (D at_98) fun T1404 h1404 X1404 e1404 W1404 V1404 N1405 => ?_
      refine own_S4 X1404 hx hZ e1404 V1404 N1405 n0_1324 (D at_99) rfl (own_p2 (D at_101)) (own_p2 (D at_103)) (D at_105) (i := 6) rfl ⟨by decide, by decide⟩ rfl (y := 34) rfl fun T1406 h1406 X1406 e1406 W1406 V1406 N1407 => ?_
      refine own_step (g' := (mkF m 108 (own_lf kd ja jb jc je fl b1322 .unset .unset .unset .unset) [(.int fl)])) (fun _ q => XS.iload X1406.here hx rfl (D at_106) rfl q) ?_
      by_cases hc1408 : fl = 0
      · refine own_step (g' := (mkF m 947 (own_lf kd ja jb jc je fl b1322 .unset .unset .unset .unset) [])) (fun _ q => XS.ifYes X1406.here hx rfl (pc0 := 108) (pc' := 947) rfl (D at_108) rfl (XT.i0_eq_t hc1408) (by decide) (by decide) q) ?_
        have c1409 := (((((((Keep.refl h1343 [b1322]).wr W1384 (Or.inl (List.mem_of_getElem? (i := 0) rfl))).wr W1389 (Or.inl (List.mem_of_getElem? (i := 0) rfl))).wr W1394 (Or.inl (List.mem_of_getElem? (i := 0) rfl))).wr W1399 (Or.inl (List.mem_of_getElem? (i := 0) rfl))).wr W1404 (Or.inl (List.mem_of_getElem? (i := 0) rfl))).wr W1406 (Or.inl (List.mem_of_getElem? (i := 0) rfl)))
        have kk1410 : own_KK [(own_wsv (XT.ushr kd (3 : Int32))), (34 : Int32), r1387, r1392, r1397, r1402, (34 : Int32), (own_wsv (XT.ushr kd (5 : Int32)))] := own_k0 (own_wsw (XT.ushr kd (3 : Int32))) (own_wsw (XT.ushr kd (5 : Int32))) p0_1387 p0_1392 p0_1397 p0_1402
        exact lp_j947 ([(own_wsv (XT.ushr kd (3 : Int32))), (34 : Int32), r1387, r1392, r1397, r1402, (34 : Int32), (own_wsv (XT.ushr kd (5 : Int32)))]) (.unset) (.unset) (.unset) (.unset) T1406 h1406 _ (own_cs X1406 (by first | decide | (dsimp only; omega)) (by first | decide | (dsimp only; omega))) e1406 N1407 c1409 V1406 (kk1410.1) (kk1410.2) (rfl) (Or.inl rfl) (Or.inl rfl) (Or.inl rfl) (Or.inl rfl)
      · refine own_step (g' := (mkF m 123 (own_lf kd ja jb jc je fl b1322 .unset .unset .unset .unset) [(.int (((55296 : Int32) + (jb &&& (1023 : Int32))).toUInt32.toUInt16.toUInt32.toInt32)), (.int 3), (.ref b1322)])) (fun _ q => XS.ifNo X1406.here hx rfl (D at_108) rfl (XT.i0_eq_f hc1408) (XS.aload X1406.here hx rfl (D at_111) rfl rfl (XS.iconst X1406.here hx rfl (D at_113) (X1406.ldcInt hx hown (mvT hZ (w156 hw)) (g := (mkF m 114 (own_lf kd ja jb jc je fl b1322 .unset .unset .unset .unset) [(.int 3), (.ref b1322)])) rfl (D at_114) _ (XS.iloadN X1406.here hx rfl (D at_116) rfl (XS.sipush X1406.here hx rfl (D at_117) (XS.iand X1406.here hx rfl (D at_120) rfl (XS.iadd X1406.here hx rfl (D at_121) rfl (XT.i2c X1406.here hx rfl (D at_122) rfl q))))))))) ?_
        refine own_stCn X1406 hx hZ e1406 V1406 N1407 n0_1324 (j := (3 : Int32)) (i := 3) rfl ⟨by decide, by decide⟩ rfl (y := (own_hsv jb)) (own_nic (own_hsd jb).2) rfl rfl (D at_123) fun T1411 h1411 X1411 e1411 W1411 V1411 N1412 => ?_
        refine own_step (g' := (mkF m 136 (own_lf kd ja jb jc je fl b1322 .unset .unset .unset .unset) [(.int (((56320 : Int32) + (jc &&& (1023 : Int32))).toUInt32.toUInt16.toUInt32.toInt32)), (.int 4), (.ref b1322)])) (fun _ q => XS.aload X1411.here hx rfl (D at_124) rfl rfl (XS.iconst X1411.here hx rfl (D at_126) (X1411.ldcInt hx hown (mvT hZ (w157 hw)) (g := (mkF m 127 (own_lf kd ja jb jc je fl b1322 .unset .unset .unset .unset) [(.int 4), (.ref b1322)])) rfl (D at_127) _ (XS.iloadN X1411.here hx rfl (D at_129) rfl (XS.sipush X1411.here hx rfl (D at_130) (XS.iand X1411.here hx rfl (D at_133) rfl (XS.iadd X1411.here hx rfl (D at_134) rfl (XT.i2c X1411.here hx rfl (D at_135) rfl q)))))))) ?_
        refine own_stCn X1411 hx hZ e1411 V1411 N1412 n0_1324 (j := (4 : Int32)) (i := 4) rfl ⟨by decide, by decide⟩ rfl (y := (own_lsv jc)) (own_nic (own_lsd jc).2) rfl rfl (D at_136) fun T1413 h1413 X1413 e1413 W1413 V1413 N1414 => ?_
        refine own_step (g' := (mkF m 947 (own_lf kd ja jb jc je fl b1322 .unset .unset .unset .unset) [])) (fun _ q => XS.goto X1413.here hx rfl (pc0 := 137) (pc' := 947) rfl (D at_137) (by decide) (by decide) q) ?_
        have c1415 := (((((((((Keep.refl h1343 [b1322]).wr W1384 (Or.inl (List.mem_of_getElem? (i := 0) rfl))).wr W1389 (Or.inl (List.mem_of_getElem? (i := 0) rfl))).wr W1394 (Or.inl (List.mem_of_getElem? (i := 0) rfl))).wr W1399 (Or.inl (List.mem_of_getElem? (i := 0) rfl))).wr W1404 (Or.inl (List.mem_of_getElem? (i := 0) rfl))).wr W1406 (Or.inl (List.mem_of_getElem? (i := 0) rfl))).wr W1411 (Or.inl (List.mem_of_getElem? (i := 0) rfl))).wr W1413 (Or.inl (List.mem_of_getElem? (i := 0) rfl)))
        have kk1416 : own_KK [(own_wsv (XT.ushr kd (3 : Int32))), (34 : Int32), r1387, (own_hsv jb), (own_lsv jc), r1402, (34 : Int32), (own_wsv (XT.ushr kd (5 : Int32)))] := own_k0f (own_wsw (XT.ushr kd (3 : Int32))) (own_wsw (XT.ushr kd (5 : Int32))) p0_1387 (own_hsd jb) (own_lsd jc) p0_1402
        exact lp_j947 ([(own_wsv (XT.ushr kd (3 : Int32))), (34 : Int32), r1387, (own_hsv jb), (own_lsv jc), r1402, (34 : Int32), (own_wsv (XT.ushr kd (5 : Int32)))]) (.unset) (.unset) (.unset) (.unset) T1413 h1413 _ (own_cs X1413 (by first | decide | (dsimp only; omega)) (by first | decide | (dsimp only; omega))) e1413 N1414 c1415 V1413 (kk1416.1) (kk1416.2) (rfl) (Or.inl rfl) (Or.inl rfl) (Or.inl rfl) (Or.inl rfl)
    · refine own_step (g' := (mkF m 143 (own_lf kd ja jb jc je fl b1322 .unset .unset .unset .unset) [(.int 1), (.int (kd &&& (7 : Int32)))])) (fun _ q => XS.ifYes X1343.here hx rfl (pc0 := 57) (pc' := 140) rfl (D at_57) rfl (XT.i0_ne_t hc1383) (by decide) (by decide) (XS.iload X1343.here hx rfl (D at_140) rfl (XS.iconst X1343.here hx rfl (D at_142) q))) ?_
      by_cases hc1417 : (kd &&& (7 : Int32)) = (1 : Int32)
      · refine own_step (g' := (mkF m 148 (own_lf kd ja jb jc je fl b1322 .unset .unset .unset .unset) [(.int 8)])) (fun _ q => XS.icmpNo X1343.here hx rfl (D at_143) rfl (XT.ii_ne_f hc1417) (XS.bipush X1343.here hx rfl (D at_146) q)) ?_
        obtain ⟨T1418, h1418, k1418, X1418, e1418, E1418, A1418, st1418⟩ := newP X1343 hx hZ (aty := .char) (w0 hw) e1343 (g := (mkF m 148 (own_lf kd ja jb jc je fl b1322 .unset .unset .unset .unset) [(.int 8)])) rfl (D at_148) rfl (by decide) (cap := 8) (by decide) (by first | decide | omega) (by first | decide | (show _ ≤ (40 : Nat); first | omega | (dsimp only; omega))) (by first | decide | (show _ ≤ (6400 : Nat); first | omega | (dsimp only; omega)))
        obtain ⟨b1418, g1418⟩ : ∃ z, z = h1343.size := ⟨_, rfl⟩
        rw [← g1418] at A1418 st1418
        have c1419 := (Nat.le_trans (Nat.le_trans c1338 K1339.1) (Keep.of_wr W1343).1)
        have n0_1420 : n0 ≤ b1418 := Nat.le_trans c1419 (Nat.le_of_eq g1418.symm)
        have c1421 := (((((c1325.ext E1322).trans K1330 all0).wr W1334 (Or.inr sz0_1326)).trans K1339 all0).wr W1343 (Or.inr sz0_1326))
        have sz0_1422 := Nat.le_trans c1421.1 (Nat.le_of_eq g1418.symm)
        have sz0_1423 := Nat.le_trans (Keep.refl h1343 [b1322]).1 (Nat.le_of_eq g1418.symm)
        have c1424 := (own_lt (own_lt (own_lt (own_lt ltb1322 K1330.1) (Keep.of_wr W1334).1) K1339.1) (Keep.of_wr W1343).1)
        have ne1425 : b1322 ≠ b1418 := own_ne c1424 (Nat.le_of_eq g1418.symm)
        have V1418 : Arv Z h1418 b1418 k1418 .char (8 : Int32) [(.int (0 : Int32)), (.int (0 : Int32)), (.int (0 : Int32)), (.int (0 : Int32)), (.int (0 : Int32)), (.int (0 : Int32)), (.int (0 : Int32)), (.int (0 : Int32))] (.int (0 : Int32)) := (Arv.new A1418 (by decide)).pad (pad_rep [] (.int (0 : Int32)) 8)
        have ltb1418 := V1418.lt
        refine own_step (T' := T1418) (g' := (mkF m 150 (own_lf kd ja jb jc je fl b1322 .unset .unset .unset .unset) [(.ref b1418)])) st1418 ?_
        refine own_D4 X1418 hx hZ e1418 V1418 N1344 n0_1420 (D at_150)  (own_p1 (D at_151)) (own_p2 (D at_152)) (D at_154) (i := 0) rfl ⟨by decide, by decide⟩ rfl (y := 34) rfl fun T1426 h1426 X1426 e1426 W1426 V1426 N1427 => ?_
        refine own_D4 X1426 hx hZ e1426 V1426 N1427 n0_1420 (D at_155)  (own_p1 (D at_156)) (own_p2 (D at_157)) (D at_159) (i := 1) rfl ⟨by decide, by decide⟩ rfl (y := 92) rfl fun T1428 h1428 X1428 e1428 W1428 V1428 N1429 => ?_
        refine own_D4 X1428 hx hZ e1428 V1428 N1429 n0_1420 (D at_160)  (own_p1 (D at_161)) (own_p2 (D at_162)) (D at_164) (i := 2) rfl ⟨by decide, by decide⟩ rfl (y := 47) rfl fun T1430 h1430 X1430 e1430 W1430 V1430 N1431 => ?_
        refine own_D4 X1430 hx hZ e1430 V1430 N1431 n0_1420 (D at_165)  (own_p1 (D at_166)) (own_p2 (D at_167)) (D at_169) (i := 3) rfl ⟨by decide, by decide⟩ rfl (y := 98) rfl fun T1432 h1432 X1432 e1432 W1432 V1432 N1433 => ?_
        refine own_D4 X1432 hx hZ e1432 V1432 N1433 n0_1420 (D at_170)  (own_p1 (D at_171)) (own_p2 (D at_172)) (D at_174) (i := 4) rfl ⟨by decide, by decide⟩ rfl (y := 102) rfl fun T1434 h1434 X1434 e1434 W1434 V1434 N1435 => ?_
        refine own_D4 X1434 hx hZ e1434 V1434 N1435 n0_1420 (D at_175)  (own_p1 (D at_176)) (own_p2 (D at_177)) (D at_179) (i := 5) rfl ⟨by decide, by decide⟩ rfl (y := 110) rfl fun T1436 h1436 X1436 e1436 W1436 V1436 N1437 => ?_
        refine own_D4 X1436 hx hZ e1436 V1436 N1437 n0_1420 (D at_180)  (own_p2 (D at_181)) (own_p2 (D at_183)) (D at_185) (i := 6) rfl ⟨by decide, by decide⟩ rfl (y := 114) rfl fun T1438 h1438 X1438 e1438 W1438 V1438 N1439 => ?_
        refine own_D4 X1438 hx hZ e1438 V1438 N1439 n0_1420 (D at_186)  (own_p2 (D at_187)) (own_p2 (D at_189)) (D at_191) (i := 7) rfl ⟨by decide, by decide⟩ rfl (y := 116) rfl fun T1440 h1440 X1440 e1440 W1440 V1440 N1441 => ?_
        refine own_step (g' := (mkF m 194 (own_lf kd ja jb jc je fl b1322 (.val (.ref b1418)) .unset .unset .unset) [])) (fun _ q => XS.astore X1440.here hx rfl (D at_192) rfl rfl (l' := (own_lf kd ja jb jc je fl b1322 (.val (.ref b1418)) .unset .unset .unset)) rfl q) ?_
        have c1442 := (((((((((V1343.ext E1418).other W1426 ne1425).other W1428 ne1425).other W1430 ne1425).other W1432 ne1425).other W1434 ne1425).other W1436 ne1425).other W1438 ne1425).other W1440 ne1425)
        refine own_S4 X1440 hx hZ e1440 c1442 N1441 n0_1324 (D at_194) rfl (own_p1 (D at_196)) (own_p2 (D at_197)) (D at_199) (i := 1) rfl ⟨by decide, by decide⟩ rfl (y := 34) rfl fun T1443 h1443 X1443 e1443 W1443 V1443 N1444 => ?_
        refine own_S4 X1443 hx hZ e1443 V1443 N1444 n0_1324 (D at_200) rfl (own_p1 (D at_202)) (own_p2 (D at_203)) (D at_205) (i := 2) rfl ⟨by decide, by decide⟩ rfl (y := 92) rfl fun T1445 h1445 X1445 e1445 W1445 V1445 N1446 => ?_
        refine own_step (g' := (mkF m 216 (own_lf kd ja jb jc je fl b1322 (.val (.ref b1418)) .unset .unset .unset) [(.int ((XT.ushr kd (8 : Int32)) &&& (7 : Int32))), (.ref b1418), (.int 3), (.ref b1322)])) (fun _ q => XS.aload X1445.here hx rfl (D at_206) rfl rfl (XS.iconst X1445.here hx rfl (D at_208) (XS.aload X1445.here hx rfl (D at_209) rfl rfl (XS.iload X1445.here hx rfl (D at_211) rfl (XS.bipush X1445.here hx rfl (D at_213) (XS.iand X1445.here hx rfl (D at_215) rfl q)))))) ?_
        have c1447 := ((V1440.other W1443 (Ne.symm ne1425)).other W1445 (Ne.symm ne1425))
        refine own_step (g' := (mkF m 217 (own_lf kd ja jb jc je fl b1322 (.val (.ref b1418)) .unset .unset .unset) [(.int (own_exv (XT.ushr kd (8 : Int32)))), (.int 3), (.ref b1322)])) (fun _ q => own_ldC X1445 hx hZ e1445 c1447 (j := ((XT.ushr kd (8 : Int32)) &&& (7 : Int32))) ⟨(own_idx _ 7 (by decide)).1, (own_idx _ 7 (by decide)).2.1⟩ (v := (.int (own_exv (XT.ushr kd (8 : Int32))))) (own_mapD (cs := [(34 : Int32), (92 : Int32), (47 : Int32), (98 : Int32), (102 : Int32), (110 : Int32), (114 : Int32), (116 : Int32)]) (Nat.lt_succ_of_le (own_idx _ 7 (by decide)).2.2)) (g := (mkF m 216 (own_lf kd ja jb jc je fl b1322 (.val (.ref b1418)) .unset .unset .unset) [(.int ((XT.ushr kd (8 : Int32)) &&& (7 : Int32))), (.ref b1418), (.int 3), (.ref b1322)])) rfl rfl (D at_216) _ q) ?_
        refine own_stCn X1445 hx hZ e1445 V1445 N1446 n0_1324 (j := (3 : Int32)) (i := 3) rfl ⟨by decide, by decide⟩ rfl (y := (own_exv (XT.ushr kd (8 : Int32)))) (own_n16 (own_exd _).2) rfl rfl (D at_217) fun T1448 h1448 X1448 e1448 W1448 V1448 N1449 => ?_
        refine own_step (g' := (mkF m 222 (own_lf kd ja jb jc je fl b1322 (.val (.ref b1418)) .unset .unset .unset) [(.int ja), (.int 4), (.ref b1322)])) (fun _ q => XS.aload X1448.here hx rfl (D at_218) rfl rfl (XS.iconst X1448.here hx rfl (D at_220) (XS.iloadN X1448.here hx rfl (D at_221) rfl q))) ?_
        have c1450 := (Nat.le_trans (Nat.le_trans (Nat.le_trans (Nat.le_trans (Nat.le_trans (Nat.le_trans (Nat.le_trans (Nat.le_trans (Nat.le_trans (Nat.le_trans (Nat.le_trans (Nat.le_trans c1419 E1418.1) (Keep.of_wr W1426).1) (Keep.of_wr W1428).1) (Keep.of_wr W1430).1) (Keep.of_wr W1432).1) (Keep.of_wr W1434).1) (Keep.of_wr W1436).1) (Keep.of_wr W1438).1) (Keep.of_wr W1440).1) (Keep.of_wr W1443).1) (Keep.of_wr W1445).1) (Keep.of_wr W1448).1)
        refine own_callS X1448 hx hZ hown (w5 hw) (w6 hw) (w3 hw) (w7 hw) (by decide) (own_bO (W := 2) (own_lsafe l Z a0 hw [] ja h1448 n0 c1450 ) hZ (w7 hw) (w3 hw) rfl rfl) e1448  (by first | decide | (show _ ≤ (40 : Nat); first | omega | (dsimp only; omega))) (by first | decide | (show _ ≤ (6400 : Nat); first | omega | (dsimp only; omega))) (argsL := [(.int ja)]) (rest := [(.int (4 : Int32)), (.ref b1322)]) rfl hml.symm (lenOf pd_15 rfl) rfl rfl (own_w0 rfl rfl) (D at_222) ?_
        rintro _ T1451 L1451 X1451 ⟨r1451, rfl, N1451q, e1451, p0_1451⟩
        have N1452 := Fr.app N1449 N1451q
        refine own_stCn X1451 hx hZ e1451 V1448 N1452 n0_1324 (j := (4 : Int32)) (i := 4) rfl ⟨by decide, by decide⟩ rfl (y := r1451) (own_n16 p0_1451.2) rfl rfl (D at_225) fun T1453 h1453 X1453 e1453 W1453 V1453 N1454 => ?_
        refine own_step (g' := (mkF m 230 (own_lf kd ja jb jc je fl b1322 (.val (.ref b1418)) .unset .unset .unset) [(.int jb), (.int 5), (.ref b1322)])) (fun _ q => XS.aload X1453.here hx rfl (D at_226) rfl rfl (XS.iconst X1453.here hx rfl (D at_228) (XS.iloadN X1453.here hx rfl (D at_229) rfl q))) ?_
        have c1455 := (Nat.le_trans c1450 (Keep.of_wr W1453).1)
        refine own_callS X1453 hx hZ hown (w5 hw) (w6 hw) (w3 hw) (w7 hw) (by decide) (own_bO (W := 2) (own_lsafe l Z a0 hw [] jb h1453 n0 c1455 ) hZ (w7 hw) (w3 hw) rfl rfl) e1453  (by first | decide | (show _ ≤ (40 : Nat); first | omega | (dsimp only; omega))) (by first | decide | (show _ ≤ (6400 : Nat); first | omega | (dsimp only; omega))) (argsL := [(.int jb)]) (rest := [(.int (5 : Int32)), (.ref b1322)]) rfl hml.symm (lenOf pd_15 rfl) rfl rfl (own_w0 rfl rfl) (D at_230) ?_
        rintro _ T1456 L1456 X1456 ⟨r1456, rfl, N1456q, e1456, p0_1456⟩
        have N1457 := Fr.app N1454 N1456q
        refine own_stCn X1456 hx hZ e1456 V1453 N1457 n0_1324 (j := (5 : Int32)) (i := 5) rfl ⟨by decide, by decide⟩ rfl (y := r1456) (own_n16 p0_1456.2) rfl rfl (D at_233) fun T1458 h1458 X1458 e1458 W1458 V1458 N1459 => ?_
        refine own_S4 X1458 hx hZ e1458 V1458 N1459 n0_1324 (D at_234) rfl (own_p2 (D at_236)) (own_p2 (D at_238)) (D at_240) (i := 6) rfl ⟨by decide, by decide⟩ rfl (y := 34) rfl fun T1460 h1460 X1460 e1460 W1460 V1460 N1461 => ?_
        refine own_step (g' := (mkF m 947 (own_lf kd ja jb jc je fl b1322 (.val (.ref b1418)) .unset .unset .unset) [])) (fun _ q => XS.goto X1460.here hx rfl (pc0 := 241) (pc' := 947) rfl (D at_241) (by decide) (by decide) q) ?_
        have c1462 := ((((((((((((((((Keep.refl h1343 [b1322]).ext E1418).wr W1426 (Or.inr sz0_1423)).wr W1428 (Or.inr sz0_1423)).wr W1430 (Or.inr sz0_1423)).wr W1432 (Or.inr sz0_1423)).wr W1434 (Or.inr sz0_1423)).wr W1436 (Or.inr sz0_1423)).wr W1438 (Or.inr sz0_1423)).wr W1440 (Or.inr sz0_1423)).wr W1443 (Or.inl (List.mem_of_getElem? (i := 0) rfl))).wr W1445 (Or.inl (List.mem_of_getElem? (i := 0) rfl))).wr W1448 (Or.inl (List.mem_of_getElem? (i := 0) rfl))).wr W1453 (Or.inl (List.mem_of_getElem? (i := 0) rfl))).wr W1458 (Or.inl (List.mem_of_getElem? (i := 0) rfl))).wr W1460 (Or.inl (List.mem_of_getElem? (i := 0) rfl)))
        have kk1463 : own_KK [(own_wsv (XT.ushr kd (3 : Int32))), (34 : Int32), (92 : Int32), (own_exv (XT.ushr kd (8 : Int32))), r1451, r1456, (34 : Int32), (own_wsv (XT.ushr kd (5 : Int32)))] := own_k1 (own_wsw (XT.ushr kd (3 : Int32))) (own_wsw (XT.ushr kd (5 : Int32))) (own_exd _) p0_1451 p0_1456
        exact lp_j947 ([(own_wsv (XT.ushr kd (3 : Int32))), (34 : Int32), (92 : Int32), (own_exv (XT.ushr kd (8 : Int32))), r1451, r1456, (34 : Int32), (own_wsv (XT.ushr kd (5 : Int32)))]) (.val (.ref b1418)) (.unset) (.unset) (.unset) T1460 h1460 _ (own_cs X1460 (by first | decide | (dsimp only; omega)) (by first | decide | (dsimp only; omega))) e1460 N1461 c1462 V1460 (kk1463.1) (kk1463.2) (rfl) (Or.inr ⟨_, rfl, rfl⟩) (Or.inl rfl) (Or.inl rfl) (Or.inl rfl)
      · refine own_step (g' := (mkF m 247 (own_lf kd ja jb jc je fl b1322 .unset .unset .unset .unset) [(.int 2), (.int (kd &&& (7 : Int32)))])) (fun _ q => XS.icmpYes X1343.here hx rfl (pc0 := 143) (pc' := 244) rfl (D at_143) rfl (XT.ii_ne_t hc1417) (by decide) (by decide) (XS.iload X1343.here hx rfl (D at_244) rfl (XS.iconst X1343.here hx rfl (D at_246) q))) ?_
        by_cases hc1464 : (kd &&& (7 : Int32)) = (2 : Int32)
        · refine own_step (g' := (mkF m 255 (own_lf kd ja jb jc je fl b1322 .unset .unset .unset .unset) [(.int fl), (.int 1), (.ref b1322)])) (fun _ q => XS.icmpNo X1343.here hx rfl (D at_247) rfl (XT.ii_ne_f hc1464) (XS.aload X1343.here hx rfl (D at_250) rfl rfl (XS.iconst X1343.here hx rfl (D at_252) (XS.iload X1343.here hx rfl (D at_253) rfl q)))) ?_
          by_cases hc1465 : fl = 0
          · refine own_step (g' := (mkF m 265 (own_lf kd ja jb jc je fl b1322 .unset .unset .unset .unset) [(.int 32), (.int 1), (.ref b1322)])) (fun _ q => XS.ifYes X1343.here hx rfl (pc0 := 255) (pc' := 263) rfl (D at_255) rfl (XT.i0_eq_t hc1465) (by decide) (by decide) (XS.bipush X1343.here hx rfl (D at_263) q)) ?_
            refine own_stCn X1343 hx hZ e1343 V1343 N1344 n0_1324 (j := (1 : Int32)) (i := 1) rfl ⟨by decide, by decide⟩ rfl (y := (32 : Int32)) rfl rfl rfl (D at_265) fun T1466 h1466 X1466 e1466 W1466 V1466 N1467 => ?_
            refine own_step (g' := (mkF m 270 (own_lf kd ja jb jc je fl b1322 .unset .unset .unset .unset) [(.int ja), (.int 2), (.ref b1322)])) (fun _ q => XS.aload X1466.here hx rfl (D at_266) rfl rfl (XS.iconst X1466.here hx rfl (D at_268) (XS.iloadN X1466.here hx rfl (D at_269) rfl q))) ?_
            have c1468 := (Nat.le_trans (Nat.le_trans (Nat.le_trans c1338 K1339.1) (Keep.of_wr W1343).1) (Keep.of_wr W1466).1)
            refine own_callS X1466 hx hZ hown (w194 hw) (w195 hw) (w3 hw) (w196 hw) (by decide) (own_bO (W := 2) (own_ldig l Z a0 hw [] ja h1466 n0 c1468 ) hZ (w196 hw) (w3 hw) rfl rfl) e1466  (by first | decide | (show _ ≤ (40 : Nat); first | omega | (dsimp only; omega))) (by first | decide | (show _ ≤ (6400 : Nat); first | omega | (dsimp only; omega))) (argsL := [(.int ja)]) (rest := [(.int (2 : Int32)), (.ref b1322)]) rfl hml.symm (lenOf pd_15 rfl) rfl rfl (own_w0 rfl rfl) (D at_270) ?_
            rintro _ T1469 L1469 X1469 ⟨rfl, N1469q, e1469⟩
            have N1470 := Fr.app N1467 N1469q
            refine own_stCn X1469 hx hZ e1469 V1466 N1470 n0_1324 (j := (2 : Int32)) (i := 2) rfl ⟨by decide, by decide⟩ rfl (y := (own_dgv ja)) (own_n16 (own_dg16 (own_dgd ja))) rfl rfl (D at_273) fun T1471 h1471 X1471 e1471 W1471 V1471 N1472 => ?_
            refine own_S4 X1471 hx hZ e1471 V1471 N1472 n0_1324 (D at_274) rfl (own_p1 (D at_276)) (own_p2 (D at_277)) (D at_279) (i := 3) rfl ⟨by decide, by decide⟩ rfl (y := 46) rfl fun T1473 h1473 X1473 e1473 W1473 V1473 N1474 => ?_
            refine own_step (g' := (mkF m 284 (own_lf kd ja jb jc je fl b1322 .unset .unset .unset .unset) [(.int jb), (.int 4), (.ref b1322)])) (fun _ q => XS.aload X1473.here hx rfl (D at_280) rfl rfl (XS.iconst X1473.here hx rfl (D at_282) (XS.iloadN X1473.here hx rfl (D at_283) rfl q))) ?_
            have c1475 := (Nat.le_trans (Nat.le_trans c1468 (Keep.of_wr W1471).1) (Keep.of_wr W1473).1)
            refine own_callS X1473 hx hZ hown (w194 hw) (w195 hw) (w3 hw) (w196 hw) (by decide) (own_bO (W := 2) (own_ldig l Z a0 hw [] jb h1473 n0 c1475 ) hZ (w196 hw) (w3 hw) rfl rfl) e1473  (by first | decide | (show _ ≤ (40 : Nat); first | omega | (dsimp only; omega))) (by first | decide | (show _ ≤ (6400 : Nat); first | omega | (dsimp only; omega))) (argsL := [(.int jb)]) (rest := [(.int (4 : Int32)), (.ref b1322)]) rfl hml.symm (lenOf pd_15 rfl) rfl rfl (own_w0 rfl rfl) (D at_284) ?_
            rintro _ T1476 L1476 X1476 ⟨rfl, N1476q, e1476⟩
            have N1477 := Fr.app N1474 N1476q
            refine own_stCn X1476 hx hZ e1476 V1473 N1477 n0_1324 (j := (4 : Int32)) (i := 4) rfl ⟨by decide, by decide⟩ rfl (y := (own_dgv jb)) (own_n16 (own_dg16 (own_dgd jb))) rfl rfl (D at_287) fun T1478 h1478 X1478 e1478 W1478 V1478 N1479 => ?_
            refine own_step (g' := (mkF m 295 (own_lf kd ja jb jc je fl b1322 .unset .unset .unset .unset) [(.int ((XT.ushr kd (8 : Int32)) &&& (1 : Int32))), (.int 5), (.ref b1322)])) (fun _ q => XS.aload X1478.here hx rfl (D at_288) rfl rfl (XS.iconst X1478.here hx rfl (D at_290) (XS.iload X1478.here hx rfl (D at_291) rfl (XS.iconst X1478.here hx rfl (D at_293) (XS.iand X1478.here hx rfl (D at_294) rfl q))))) ?_
            by_cases hc1480 : ((XT.ushr kd (8 : Int32)) &&& (1 : Int32)) = 0
            · refine own_step (g' := (mkF m 305 (own_lf kd ja jb jc je fl b1322 .unset .unset .unset .unset) [(.int 101), (.int 5), (.ref b1322)])) (fun _ q => XS.ifYes X1478.here hx rfl (pc0 := 295) (pc' := 303) rfl (D at_295) rfl (XT.i0_eq_t hc1480) (by decide) (by decide) (XS.bipush X1478.here hx rfl (D at_303) q)) ?_
              refine own_stCn X1478 hx hZ e1478 V1478 N1479 n0_1324 (j := (5 : Int32)) (i := 5) rfl ⟨by decide, by decide⟩ rfl (y := (101 : Int32)) rfl rfl rfl (D at_305) fun T1481 h1481 X1481 e1481 W1481 V1481 N1482 => ?_
              refine own_step (g' := (mkF m 311 (own_lf kd ja jb jc je fl b1322 .unset .unset .unset .unset) [(.int jc), (.int 6), (.ref b1322)])) (fun _ q => XS.aload X1481.here hx rfl (D at_306) rfl rfl (XS.bipush X1481.here hx rfl (D at_308) (XS.iloadN X1481.here hx rfl (D at_310) rfl q))) ?_
              have c1483 := (Nat.le_trans (Nat.le_trans c1475 (Keep.of_wr W1478).1) (Keep.of_wr W1481).1)
              refine own_callS X1481 hx hZ hown (w194 hw) (w195 hw) (w3 hw) (w196 hw) (by decide) (own_bO (W := 2) (own_ldig l Z a0 hw [] jc h1481 n0 c1483 ) hZ (w196 hw) (w3 hw) rfl rfl) e1481  (by first | decide | (show _ ≤ (40 : Nat); first | omega | (dsimp only; omega))) (by first | decide | (show _ ≤ (6400 : Nat); first | omega | (dsimp only; omega))) (argsL := [(.int jc)]) (rest := [(.int (6 : Int32)), (.ref b1322)]) rfl hml.symm (lenOf pd_15 rfl) rfl rfl (own_w0 rfl rfl) (D at_311) ?_
              rintro _ T1484 L1484 X1484 ⟨rfl, N1484q, e1484⟩
              have N1485 := Fr.app N1482 N1484q
              refine own_stCn X1484 hx hZ e1484 V1481 N1485 n0_1324 (j := (6 : Int32)) (i := 6) rfl ⟨by decide, by decide⟩ rfl (y := (own_dgv jc)) (own_n16 (own_dg16 (own_dgd jc))) rfl rfl (D at_314) fun T1486 h1486 X1486 e1486 W1486 V1486 N1487 => ?_
              refine own_step (g' := (mkF m 947 (own_lf kd ja jb jc je fl b1322 .unset .unset .unset .unset) [])) (fun _ q => XS.goto X1486.here hx rfl (pc0 := 315) (pc' := 947) rfl (D at_315) (by decide) (by decide) q) ?_
              have c1488 := (((((((Keep.refl h1343 [b1322]).wr W1466 (Or.inl (List.mem_of_getElem? (i := 0) rfl))).wr W1471 (Or.inl (List.mem_of_getElem? (i := 0) rfl))).wr W1473 (Or.inl (List.mem_of_getElem? (i := 0) rfl))).wr W1478 (Or.inl (List.mem_of_getElem? (i := 0) rfl))).wr W1481 (Or.inl (List.mem_of_getElem? (i := 0) rfl))).wr W1486 (Or.inl (List.mem_of_getElem? (i := 0) rfl)))
              have kk1489 : own_KK [(own_wsv (XT.ushr kd (3 : Int32))), (32 : Int32), (own_dgv ja), (46 : Int32), (own_dgv jb), (101 : Int32), (own_dgv jc), (own_wsv (XT.ushr kd (5 : Int32)))] := own_k2 false (own_wsw (XT.ushr kd (3 : Int32))) (own_wsw (XT.ushr kd (5 : Int32))) (own_dgd ja) (own_dgd jb) (Or.inl rfl) (own_dgd jc)
              exact lp_j947 ([(own_wsv (XT.ushr kd (3 : Int32))), (32 : Int32), (own_dgv ja), (46 : Int32), (own_dgv jb), (101 : Int32), (own_dgv jc), (own_wsv (XT.ushr kd (5 : Int32)))]) (.unset) (.unset) (.unset) (.unset) T1486 h1486 _ (own_cs X1486 (by first | decide | (dsimp only; omega)) (by first | decide | (dsimp only; omega))) e1486 N1487 c1488 V1486 (kk1489.1) (kk1489.2) (rfl) (Or.inl rfl) (Or.inl rfl) (Or.inl rfl) (Or.inl rfl)
            · refine own_step (g' := (mkF m 305 (own_lf kd ja jb jc je fl b1322 .unset .unset .unset .unset) [(.int 69), (.int 5), (.ref b1322)])) (fun _ q => XS.ifNo X1478.here hx rfl (D at_295) rfl (XT.i0_eq_f hc1480) (XS.bipush X1478.here hx rfl (D at_298) (XS.goto X1478.here hx rfl (pc0 := 300) (pc' := 305) rfl (D at_300) (by decide) (by decide) q))) ?_
              refine own_stCn X1478 hx hZ e1478 V1478 N1479 n0_1324 (j := (5 : Int32)) (i := 5) rfl ⟨by decide, by decide⟩ rfl (y := (69 : Int32)) rfl rfl rfl (D at_305) fun T1490 h1490 X1490 e1490 W1490 V1490 N1491 => ?_
              refine own_step (g' := (mkF m 311 (own_lf kd ja jb jc je fl b1322 .unset .unset .unset .unset) [(.int jc), (.int 6), (.ref b1322)])) (fun _ q => XS.aload X1490.here hx rfl (D at_306) rfl rfl (XS.bipush X1490.here hx rfl (D at_308) (XS.iloadN X1490.here hx rfl (D at_310) rfl q))) ?_
              have c1492 := (Nat.le_trans (Nat.le_trans c1475 (Keep.of_wr W1478).1) (Keep.of_wr W1490).1)
              refine own_callS X1490 hx hZ hown (w194 hw) (w195 hw) (w3 hw) (w196 hw) (by decide) (own_bO (W := 2) (own_ldig l Z a0 hw [] jc h1490 n0 c1492 ) hZ (w196 hw) (w3 hw) rfl rfl) e1490  (by first | decide | (show _ ≤ (40 : Nat); first | omega | (dsimp only; omega))) (by first | decide | (show _ ≤ (6400 : Nat); first | omega | (dsimp only; omega))) (argsL := [(.int jc)]) (rest := [(.int (6 : Int32)), (.ref b1322)]) rfl hml.symm (lenOf pd_15 rfl) rfl rfl (own_w0 rfl rfl) (D at_311) ?_
              rintro _ T1493 L1493 X1493 ⟨rfl, N1493q, e1493⟩
              have N1494 := Fr.app N1491 N1493q
              refine own_stCn X1493 hx hZ e1493 V1490 N1494 n0_1324 (j := (6 : Int32)) (i := 6) rfl ⟨by decide, by decide⟩ rfl (y := (own_dgv jc)) (own_n16 (own_dg16 (own_dgd jc))) rfl rfl (D at_314) fun T1495 h1495 X1495 e1495 W1495 V1495 N1496 => ?_
              refine own_step (g' := (mkF m 947 (own_lf kd ja jb jc je fl b1322 .unset .unset .unset .unset) [])) (fun _ q => XS.goto X1495.here hx rfl (pc0 := 315) (pc' := 947) rfl (D at_315) (by decide) (by decide) q) ?_
              have c1497 := (((((((Keep.refl h1343 [b1322]).wr W1466 (Or.inl (List.mem_of_getElem? (i := 0) rfl))).wr W1471 (Or.inl (List.mem_of_getElem? (i := 0) rfl))).wr W1473 (Or.inl (List.mem_of_getElem? (i := 0) rfl))).wr W1478 (Or.inl (List.mem_of_getElem? (i := 0) rfl))).wr W1490 (Or.inl (List.mem_of_getElem? (i := 0) rfl))).wr W1495 (Or.inl (List.mem_of_getElem? (i := 0) rfl)))
              have kk1498 : own_KK [(own_wsv (XT.ushr kd (3 : Int32))), (32 : Int32), (own_dgv ja), (46 : Int32), (own_dgv jb), (69 : Int32), (own_dgv jc), (own_wsv (XT.ushr kd (5 : Int32)))] := own_k2 false (own_wsw (XT.ushr kd (3 : Int32))) (own_wsw (XT.ushr kd (5 : Int32))) (own_dgd ja) (own_dgd jb) (Or.inr rfl) (own_dgd jc)
              exact lp_j947 ([(own_wsv (XT.ushr kd (3 : Int32))), (32 : Int32), (own_dgv ja), (46 : Int32), (own_dgv jb), (69 : Int32), (own_dgv jc), (own_wsv (XT.ushr kd (5 : Int32)))]) (.unset) (.unset) (.unset) (.unset) T1495 h1495 _ (own_cs X1495 (by first | decide | (dsimp only; omega)) (by first | decide | (dsimp only; omega))) e1495 N1496 c1497 V1495 (kk1498.1) (kk1498.2) (rfl) (Or.inl rfl) (Or.inl rfl) (Or.inl rfl) (Or.inl rfl)
          · refine own_step (g' := (mkF m 265 (own_lf kd ja jb jc je fl b1322 .unset .unset .unset .unset) [(.int 45), (.int 1), (.ref b1322)])) (fun _ q => XS.ifNo X1343.here hx rfl (D at_255) rfl (XT.i0_eq_f hc1465) (XS.bipush X1343.here hx rfl (D at_258) (XS.goto X1343.here hx rfl (pc0 := 260) (pc' := 265) rfl (D at_260) (by decide) (by decide) q))) ?_
            refine own_stCn X1343 hx hZ e1343 V1343 N1344 n0_1324 (j := (1 : Int32)) (i := 1) rfl ⟨by decide, by decide⟩ rfl (y := (45 : Int32)) rfl rfl rfl (D at_265) fun T1499 h1499 X1499 e1499 W1499 V1499 N1500 => ?_
            refine own_step (g' := (mkF m 270 (own_lf kd ja jb jc je fl b1322 .unset .unset .unset .unset) [(.int ja), (.int 2), (.ref b1322)])) (fun _ q => XS.aload X1499.here hx rfl (D at_266) rfl rfl (XS.iconst X1499.here hx rfl (D at_268) (XS.iloadN X1499.here hx rfl (D at_269) rfl q))) ?_
            have c1501 := (Nat.le_trans (Nat.le_trans (Nat.le_trans c1338 K1339.1) (Keep.of_wr W1343).1) (Keep.of_wr W1499).1)
            refine own_callS X1499 hx hZ hown (w194 hw) (w195 hw) (w3 hw) (w196 hw) (by decide) (own_bO (W := 2) (own_ldig l Z a0 hw [] ja h1499 n0 c1501 ) hZ (w196 hw) (w3 hw) rfl rfl) e1499  (by first | decide | (show _ ≤ (40 : Nat); first | omega | (dsimp only; omega))) (by first | decide | (show _ ≤ (6400 : Nat); first | omega | (dsimp only; omega))) (argsL := [(.int ja)]) (rest := [(.int (2 : Int32)), (.ref b1322)]) rfl hml.symm (lenOf pd_15 rfl) rfl rfl (own_w0 rfl rfl) (D at_270) ?_
            rintro _ T1502 L1502 X1502 ⟨rfl, N1502q, e1502⟩
            have N1503 := Fr.app N1500 N1502q
            refine own_stCn X1502 hx hZ e1502 V1499 N1503 n0_1324 (j := (2 : Int32)) (i := 2) rfl ⟨by decide, by decide⟩ rfl (y := (own_dgv ja)) (own_n16 (own_dg16 (own_dgd ja))) rfl rfl (D at_273) fun T1504 h1504 X1504 e1504 W1504 V1504 N1505 => ?_
            refine own_S4 X1504 hx hZ e1504 V1504 N1505 n0_1324 (D at_274) rfl (own_p1 (D at_276)) (own_p2 (D at_277)) (D at_279) (i := 3) rfl ⟨by decide, by decide⟩ rfl (y := 46) rfl fun T1506 h1506 X1506 e1506 W1506 V1506 N1507 => ?_
            refine own_step (g' := (mkF m 284 (own_lf kd ja jb jc je fl b1322 .unset .unset .unset .unset) [(.int jb), (.int 4), (.ref b1322)])) (fun _ q => XS.aload X1506.here hx rfl (D at_280) rfl rfl (XS.iconst X1506.here hx rfl (D at_282) (XS.iloadN X1506.here hx rfl (D at_283) rfl q))) ?_
            have c1508 := (Nat.le_trans (Nat.le_trans c1501 (Keep.of_wr W1504).1) (Keep.of_wr W1506).1)
            refine own_callS X1506 hx hZ hown (w194 hw) (w195 hw) (w3 hw) (w196 hw) (by decide) (own_bO (W := 2) (own_ldig l Z a0 hw [] jb h1506 n0 c1508 ) hZ (w196 hw) (w3 hw) rfl rfl) e1506  (by first | decide | (show _ ≤ (40 : Nat); first | omega | (dsimp only; omega))) (by first | decide | (show _ ≤ (6400 : Nat); first | omega | (dsimp only; omega))) (argsL := [(.int jb)]) (rest := [(.int (4 : Int32)), (.ref b1322)]) rfl hml.symm (lenOf pd_15 rfl) rfl rfl (own_w0 rfl rfl) (D at_284) ?_
            rintro _ T1509 L1509 X1509 ⟨rfl, N1509q, e1509⟩
            have N1510 := Fr.app N1507 N1509q
            refine own_stCn X1509 hx hZ e1509 V1506 N1510 n0_1324 (j := (4 : Int32)) (i := 4) rfl ⟨by decide, by decide⟩ rfl (y := (own_dgv jb)) (own_n16 (own_dg16 (own_dgd jb))) rfl rfl (D at_287) fun T1511 h1511 X1511 e1511 W1511 V1511 N1512 => ?_
            refine own_step (g' := (mkF m 295 (own_lf kd ja jb jc je fl b1322 .unset .unset .unset .unset) [(.int ((XT.ushr kd (8 : Int32)) &&& (1 : Int32))), (.int 5), (.ref b1322)])) (fun _ q => XS.aload X1511.here hx rfl (D at_288) rfl rfl (XS.iconst X1511.here hx rfl (D at_290) (XS.iload X1511.here hx rfl (D at_291) rfl (XS.iconst X1511.here hx rfl (D at_293) (XS.iand X1511.here hx rfl (D at_294) rfl q))))) ?_
            by_cases hc1513 : ((XT.ushr kd (8 : Int32)) &&& (1 : Int32)) = 0
            · refine own_step (g' := (mkF m 305 (own_lf kd ja jb jc je fl b1322 .unset .unset .unset .unset) [(.int 101), (.int 5), (.ref b1322)])) (fun _ q => XS.ifYes X1511.here hx rfl (pc0 := 295) (pc' := 303) rfl (D at_295) rfl (XT.i0_eq_t hc1513) (by decide) (by decide) (XS.bipush X1511.here hx rfl (D at_303) q)) ?_
              refine own_stCn X1511 hx hZ e1511 V1511 N1512 n0_1324 (j := (5 : Int32)) (i := 5) rfl ⟨by decide, by decide⟩ rfl (y := (101 : Int32)) rfl rfl rfl (D at_305) fun T1514 h1514 X1514 e1514 W1514 V1514 N1515 => ?_
              refine own_step (g' := (mkF m 311 (own_lf kd ja jb jc je fl b1322 .unset .unset .unset .unset) [(.int jc), (.int 6), (.ref b1322)])) (fun _ q => XS.aload X1514.here hx rfl (D at_306) rfl rfl (XS.bipush X1514.here hx rfl (D at_308) (XS.iloadN X1514.here hx rfl (D at_310) rfl q))) ?_
              have c1516 := (Nat.le_trans (Nat.le_trans c1508 (Keep.of_wr W1511).1) (Keep.of_wr W1514).1)
              refine own_callS X1514 hx hZ hown (w194 hw) (w195 hw) (w3 hw) (w196 hw) (by decide) (own_bO (W := 2) (own_ldig l Z a0 hw [] jc h1514 n0 c1516 ) hZ (w196 hw) (w3 hw) rfl rfl) e1514  (by first | decide | (show _ ≤ (40 : Nat); first | omega | (dsimp only; omega))) (by first | decide | (show _ ≤ (6400 : Nat); first | omega | (dsimp only; omega))) (argsL := [(.int jc)]) (rest := [(.int (6 : Int32)), (.ref b1322)]) rfl hml.symm (lenOf pd_15 rfl) rfl rfl (own_w0 rfl rfl) (D at_311) ?_
              rintro _ T1517 L1517 X1517 ⟨rfl, N1517q, e1517⟩
              have N1518 := Fr.app N1515 N1517q
              refine own_stCn X1517 hx hZ e1517 V1514 N1518 n0_1324 (j := (6 : Int32)) (i := 6) rfl ⟨by decide, by decide⟩ rfl (y := (own_dgv jc)) (own_n16 (own_dg16 (own_dgd jc))) rfl rfl (D at_314) fun T1519 h1519 X1519 e1519 W1519 V1519 N1520 => ?_
              refine own_step (g' := (mkF m 947 (own_lf kd ja jb jc je fl b1322 .unset .unset .unset .unset) [])) (fun _ q => XS.goto X1519.here hx rfl (pc0 := 315) (pc' := 947) rfl (D at_315) (by decide) (by decide) q) ?_
              have c1521 := (((((((Keep.refl h1343 [b1322]).wr W1499 (Or.inl (List.mem_of_getElem? (i := 0) rfl))).wr W1504 (Or.inl (List.mem_of_getElem? (i := 0) rfl))).wr W1506 (Or.inl (List.mem_of_getElem? (i := 0) rfl))).wr W1511 (Or.inl (List.mem_of_getElem? (i := 0) rfl))).wr W1514 (Or.inl (List.mem_of_getElem? (i := 0) rfl))).wr W1519 (Or.inl (List.mem_of_getElem? (i := 0) rfl)))
              have kk1522 : own_KK [(own_wsv (XT.ushr kd (3 : Int32))), (45 : Int32), (own_dgv ja), (46 : Int32), (own_dgv jb), (101 : Int32), (own_dgv jc), (own_wsv (XT.ushr kd (5 : Int32)))] := own_k2 true (own_wsw (XT.ushr kd (3 : Int32))) (own_wsw (XT.ushr kd (5 : Int32))) (own_dgd ja) (own_dgd jb) (Or.inl rfl) (own_dgd jc)
              exact lp_j947 ([(own_wsv (XT.ushr kd (3 : Int32))), (45 : Int32), (own_dgv ja), (46 : Int32), (own_dgv jb), (101 : Int32), (own_dgv jc), (own_wsv (XT.ushr kd (5 : Int32)))]) (.unset) (.unset) (.unset) (.unset) T1519 h1519 _ (own_cs X1519 (by first | decide | (dsimp only; omega)) (by first | decide | (dsimp only; omega))) e1519 N1520 c1521 V1519 (kk1522.1) (kk1522.2) (rfl) (Or.inl rfl) (Or.inl rfl) (Or.inl rfl) (Or.inl rfl)
            · refine own_step (g' := (mkF m 305 (own_lf kd ja jb jc je fl b1322 .unset .unset .unset .unset) [(.int 69), (.int 5), (.ref b1322)])) (fun _ q => XS.ifNo X1511.here hx rfl (D at_295) rfl (XT.i0_eq_f hc1513) (XS.bipush X1511.here hx rfl (D at_298) (XS.goto X1511.here hx rfl (pc0 := 300) (pc' := 305) rfl (D at_300) (by decide) (by decide) q))) ?_
              refine own_stCn X1511 hx hZ e1511 V1511 N1512 n0_1324 (j := (5 : Int32)) (i := 5) rfl ⟨by decide, by decide⟩ rfl (y := (69 : Int32)) rfl rfl rfl (D at_305) fun T1523 h1523 X1523 e1523 W1523 V1523 N1524 => ?_
              refine own_step (g' := (mkF m 311 (own_lf kd ja jb jc je fl b1322 .unset .unset .unset .unset) [(.int jc), (.int 6), (.ref b1322)])) (fun _ q => XS.aload X1523.here hx rfl (D at_306) rfl rfl (XS.bipush X1523.here hx rfl (D at_308) (XS.iloadN X1523.here hx rfl (D at_310) rfl q))) ?_
              have c1525 := (Nat.le_trans (Nat.le_trans c1508 (Keep.of_wr W1511).1) (Keep.of_wr W1523).1)
              refine own_callS X1523 hx hZ hown (w194 hw) (w195 hw) (w3 hw) (w196 hw) (by decide) (own_bO (W := 2) (own_ldig l Z a0 hw [] jc h1523 n0 c1525 ) hZ (w196 hw) (w3 hw) rfl rfl) e1523  (by first | decide | (show _ ≤ (40 : Nat); first | omega | (dsimp only; omega))) (by first | decide | (show _ ≤ (6400 : Nat); first | omega | (dsimp only; omega))) (argsL := [(.int jc)]) (rest := [(.int (6 : Int32)), (.ref b1322)]) rfl hml.symm (lenOf pd_15 rfl) rfl rfl (own_w0 rfl rfl) (D at_311) ?_
              rintro _ T1526 L1526 X1526 ⟨rfl, N1526q, e1526⟩
              have N1527 := Fr.app N1524 N1526q
              refine own_stCn X1526 hx hZ e1526 V1523 N1527 n0_1324 (j := (6 : Int32)) (i := 6) rfl ⟨by decide, by decide⟩ rfl (y := (own_dgv jc)) (own_n16 (own_dg16 (own_dgd jc))) rfl rfl (D at_314) fun T1528 h1528 X1528 e1528 W1528 V1528 N1529 => ?_
              refine own_step (g' := (mkF m 947 (own_lf kd ja jb jc je fl b1322 .unset .unset .unset .unset) [])) (fun _ q => XS.goto X1528.here hx rfl (pc0 := 315) (pc' := 947) rfl (D at_315) (by decide) (by decide) q) ?_
              have c1530 := (((((((Keep.refl h1343 [b1322]).wr W1499 (Or.inl (List.mem_of_getElem? (i := 0) rfl))).wr W1504 (Or.inl (List.mem_of_getElem? (i := 0) rfl))).wr W1506 (Or.inl (List.mem_of_getElem? (i := 0) rfl))).wr W1511 (Or.inl (List.mem_of_getElem? (i := 0) rfl))).wr W1523 (Or.inl (List.mem_of_getElem? (i := 0) rfl))).wr W1528 (Or.inl (List.mem_of_getElem? (i := 0) rfl)))
              have kk1531 : own_KK [(own_wsv (XT.ushr kd (3 : Int32))), (45 : Int32), (own_dgv ja), (46 : Int32), (own_dgv jb), (69 : Int32), (own_dgv jc), (own_wsv (XT.ushr kd (5 : Int32)))] := own_k2 true (own_wsw (XT.ushr kd (3 : Int32))) (own_wsw (XT.ushr kd (5 : Int32))) (own_dgd ja) (own_dgd jb) (Or.inr rfl) (own_dgd jc)
              exact lp_j947 ([(own_wsv (XT.ushr kd (3 : Int32))), (45 : Int32), (own_dgv ja), (46 : Int32), (own_dgv jb), (69 : Int32), (own_dgv jc), (own_wsv (XT.ushr kd (5 : Int32)))]) (.unset) (.unset) (.unset) (.unset) T1528 h1528 _ (own_cs X1528 (by first | decide | (dsimp only; omega)) (by first | decide | (dsimp only; omega))) e1528 N1529 c1530 V1528 (kk1531.1) (kk1531.2) (rfl) (Or.inl rfl) (Or.inl rfl) (Or.inl rfl) (Or.inl rfl)
        · refine own_step (g' := (mkF m 321 (own_lf kd ja jb jc je fl b1322 .unset .unset .unset .unset) [(.int 3), (.int (kd &&& (7 : Int32)))])) (fun _ q => XS.icmpYes X1343.here hx rfl (pc0 := 247) (pc' := 318) rfl (D at_247) rfl (XT.ii_ne_t hc1464) (by decide) (by decide) (XS.iload X1343.here hx rfl (D at_318) rfl (XS.iconst X1343.here hx rfl (D at_320) q))) ?_
          by_cases hc1532 : (kd &&& (7 : Int32)) = (3 : Int32)
          · refine own_step (g' := (mkF m 332 (own_lf kd ja jb jc je fl b1322 (.val (.int ((XT.ushr kd (8 : Int32)) % (3 : Int32)))) .unset .unset .unset) [(.int ((XT.ushr kd (8 : Int32)) % (3 : Int32)))])) (fun _ q => XS.icmpNo X1343.here hx rfl (D at_321) rfl (XT.ii_ne_f hc1532) (XS.iload X1343.here hx rfl (D at_324) rfl (XS.iconst X1343.here hx rfl (D at_326) (iremM X1343 hx rfl (D at_327) rfl (by decide) (XS.istore X1343.here hx rfl (D at_328) rfl (l' := (own_lf kd ja jb jc je fl b1322 (.val (.int ((XT.ushr kd (8 : Int32)) % (3 : Int32)))) .unset .unset .unset)) rfl (XS.iload X1343.here hx rfl (D at_330) rfl q)))))) ?_
            by_cases hc1533 : ((XT.ushr kd (8 : Int32)) % (3 : Int32)) = 0
            · refine own_step (g' := (mkF m 335 (own_lf kd ja jb jc je fl b1322 (.val (.int ((XT.ushr kd (8 : Int32)) % (3 : Int32)))) .unset .unset .unset) [])) (fun _ q => XS.ifNo X1343.here hx rfl (D at_332) rfl (XT.i0_ne_f hc1533) q) ?_
              refine own_S4 X1343 hx hZ e1343 V1343 N1344 n0_1324 (D at_335) rfl (own_p1 (D at_337)) (own_p2 (D at_338)) (D at_340) (i := 1) rfl ⟨by decide, by decide⟩ rfl (y := 32) rfl fun T1534 h1534 X1534 e1534 W1534 V1534 N1535 => ?_
              refine own_S4 X1534 hx hZ e1534 V1534 N1535 n0_1324 (D at_341) rfl (own_p1 (D at_343)) (own_p2 (D at_344)) (D at_346) (i := 2) rfl ⟨by decide, by decide⟩ rfl (y := 116) rfl fun T1536 h1536 X1536 e1536 W1536 V1536 N1537 => ?_
              refine own_S4 X1536 hx hZ e1536 V1536 N1537 n0_1324 (D at_347) rfl (own_p1 (D at_349)) (own_p2 (D at_350)) (D at_352) (i := 3) rfl ⟨by decide, by decide⟩ rfl (y := 114) rfl fun T1538 h1538 X1538 e1538 W1538 V1538 N1539 => ?_
              refine own_S4 X1538 hx hZ e1538 V1538 N1539 n0_1324 (D at_353) rfl (own_p1 (D at_355)) (own_p2 (D at_356)) (D at_358) (i := 4) rfl ⟨by decide, by decide⟩ rfl (y := 117) rfl fun T1540 h1540 X1540 e1540 W1540 V1540 N1541 => ?_
              refine own_S4 X1540 hx hZ e1540 V1540 N1541 n0_1324 (D at_359) rfl (own_p1 (D at_361)) (own_p2 (D at_362)) (D at_364) (i := 5) rfl ⟨by decide, by decide⟩ rfl (y := 101) rfl fun T1542 h1542 X1542 e1542 W1542 V1542 N1543 => ?_
              refine own_S4 X1542 hx hZ e1542 V1542 N1543 n0_1324 (D at_365) rfl (own_p2 (D at_367)) (own_p2 (D at_369)) (D at_371) (i := 6) rfl ⟨by decide, by decide⟩ rfl (y := 32) rfl fun T1544 h1544 X1544 e1544 W1544 V1544 N1545 => ?_
              refine own_step (g' := (mkF m 947 (own_lf kd ja jb jc je fl b1322 (.val (.int ((XT.ushr kd (8 : Int32)) % (3 : Int32)))) .unset .unset .unset) [])) (fun _ q => XS.goto X1544.here hx rfl (pc0 := 372) (pc' := 458) rfl (D at_372) (by decide) (by decide) (XS.goto X1544.here hx rfl (pc0 := 458) (pc' := 947) rfl (D at_458) (by decide) (by decide) q)) ?_
              have c1546 := (((((((Keep.refl h1343 [b1322]).wr W1534 (Or.inl (List.mem_of_getElem? (i := 0) rfl))).wr W1536 (Or.inl (List.mem_of_getElem? (i := 0) rfl))).wr W1538 (Or.inl (List.mem_of_getElem? (i := 0) rfl))).wr W1540 (Or.inl (List.mem_of_getElem? (i := 0) rfl))).wr W1542 (Or.inl (List.mem_of_getElem? (i := 0) rfl))).wr W1544 (Or.inl (List.mem_of_getElem? (i := 0) rfl)))
              have kk1547 : own_KK [(own_wsv (XT.ushr kd (3 : Int32))), (32 : Int32), (116 : Int32), (114 : Int32), (117 : Int32), (101 : Int32), (32 : Int32), (own_wsv (XT.ushr kd (5 : Int32)))] := own_k3t (own_wsw (XT.ushr kd (3 : Int32))) (own_wsw (XT.ushr kd (5 : Int32)))
              exact lp_j947 ([(own_wsv (XT.ushr kd (3 : Int32))), (32 : Int32), (116 : Int32), (114 : Int32), (117 : Int32), (101 : Int32), (32 : Int32), (own_wsv (XT.ushr kd (5 : Int32)))]) (.val (.int ((XT.ushr kd (8 : Int32)) % (3 : Int32)))) (.unset) (.unset) (.unset) T1544 h1544 _ (own_cs X1544 (by first | decide | (dsimp only; omega)) (by first | decide | (dsimp only; omega))) e1544 N1545 c1546 V1544 (kk1547.1) (kk1547.2) (rfl) (Or.inr ⟨_, rfl, rfl⟩) (Or.inl rfl) (Or.inl rfl) (Or.inl rfl)
            · refine own_step (g' := (mkF m 378 (own_lf kd ja jb jc je fl b1322 (.val (.int ((XT.ushr kd (8 : Int32)) % (3 : Int32)))) .unset .unset .unset) [(.int 1), (.int ((XT.ushr kd (8 : Int32)) % (3 : Int32)))])) (fun _ q => XS.ifYes X1343.here hx rfl (pc0 := 332) (pc' := 375) rfl (D at_332) rfl (XT.i0_ne_t hc1533) (by decide) (by decide) (XS.iload X1343.here hx rfl (D at_375) rfl (XS.iconst X1343.here hx rfl (D at_377) q))) ?_
              by_cases hc1548 : ((XT.ushr kd (8 : Int32)) % (3 : Int32)) = (1 : Int32)
              · refine own_step (g' := (mkF m 381 (own_lf kd ja jb jc je fl b1322 (.val (.int ((XT.ushr kd (8 : Int32)) % (3 : Int32)))) .unset .unset .unset) [])) (fun _ q => XS.icmpNo X1343.here hx rfl (D at_378) rfl (XT.ii_ne_f hc1548) q) ?_
                refine own_S4 X1343 hx hZ e1343 V1343 N1344 n0_1324 (D at_381) rfl (own_p1 (D at_383)) (own_p2 (D at_384)) (D at_386) (i := 1) rfl ⟨by decide, by decide⟩ rfl (y := 102) rfl fun T1549 h1549 X1549 e1549 W1549 V1549 N1550 => ?_
                refine own_S4 X1549 hx hZ e1549 V1549 N1550 n0_1324 (D at_387) rfl (own_p1 (D at_389)) (own_p2 (D at_390)) (D at_392) (i := 2) rfl ⟨by decide, by decide⟩ rfl (y := 97) rfl fun T1551 h1551 X1551 e1551 W1551 V1551 N1552 => ?_
                refine own_S4 X1551 hx hZ e1551 V1551 N1552 n0_1324 (D at_393) rfl (own_p1 (D at_395)) (own_p2 (D at_396)) (D at_398) (i := 3) rfl ⟨by decide, by decide⟩ rfl (y := 108) rfl fun T1553 h1553 X1553 e1553 W1553 V1553 N1554 => ?_
                refine own_S4 X1553 hx hZ e1553 V1553 N1554 n0_1324 (D at_399) rfl (own_p1 (D at_401)) (own_p2 (D at_402)) (D at_404) (i := 4) rfl ⟨by decide, by decide⟩ rfl (y := 115) rfl fun T1555 h1555 X1555 e1555 W1555 V1555 N1556 => ?_
                refine own_S4 X1555 hx hZ e1555 V1555 N1556 n0_1324 (D at_405) rfl (own_p1 (D at_407)) (own_p2 (D at_408)) (D at_410) (i := 5) rfl ⟨by decide, by decide⟩ rfl (y := 101) rfl fun T1557 h1557 X1557 e1557 W1557 V1557 N1558 => ?_
                refine own_S4 X1557 hx hZ e1557 V1557 N1558 n0_1324 (D at_411) rfl (own_p2 (D at_413)) (own_p2 (D at_415)) (D at_417) (i := 6) rfl ⟨by decide, by decide⟩ rfl (y := 32) rfl fun T1559 h1559 X1559 e1559 W1559 V1559 N1560 => ?_
                refine own_step (g' := (mkF m 947 (own_lf kd ja jb jc je fl b1322 (.val (.int ((XT.ushr kd (8 : Int32)) % (3 : Int32)))) .unset .unset .unset) [])) (fun _ q => XS.goto X1559.here hx rfl (pc0 := 418) (pc' := 458) rfl (D at_418) (by decide) (by decide) (XS.goto X1559.here hx rfl (pc0 := 458) (pc' := 947) rfl (D at_458) (by decide) (by decide) q)) ?_
                have c1561 := (((((((Keep.refl h1343 [b1322]).wr W1549 (Or.inl (List.mem_of_getElem? (i := 0) rfl))).wr W1551 (Or.inl (List.mem_of_getElem? (i := 0) rfl))).wr W1553 (Or.inl (List.mem_of_getElem? (i := 0) rfl))).wr W1555 (Or.inl (List.mem_of_getElem? (i := 0) rfl))).wr W1557 (Or.inl (List.mem_of_getElem? (i := 0) rfl))).wr W1559 (Or.inl (List.mem_of_getElem? (i := 0) rfl)))
                have kk1562 : own_KK [(own_wsv (XT.ushr kd (3 : Int32))), (102 : Int32), (97 : Int32), (108 : Int32), (115 : Int32), (101 : Int32), (32 : Int32), (own_wsv (XT.ushr kd (5 : Int32)))] := own_k3f (own_wsw (XT.ushr kd (3 : Int32))) (own_wsw (XT.ushr kd (5 : Int32)))
                exact lp_j947 ([(own_wsv (XT.ushr kd (3 : Int32))), (102 : Int32), (97 : Int32), (108 : Int32), (115 : Int32), (101 : Int32), (32 : Int32), (own_wsv (XT.ushr kd (5 : Int32)))]) (.val (.int ((XT.ushr kd (8 : Int32)) % (3 : Int32)))) (.unset) (.unset) (.unset) T1559 h1559 _ (own_cs X1559 (by first | decide | (dsimp only; omega)) (by first | decide | (dsimp only; omega))) e1559 N1560 c1561 V1559 (kk1562.1) (kk1562.2) (rfl) (Or.inr ⟨_, rfl, rfl⟩) (Or.inl rfl) (Or.inl rfl) (Or.inl rfl)
              · refine own_step (g' := (mkF m 421 (own_lf kd ja jb jc je fl b1322 (.val (.int ((XT.ushr kd (8 : Int32)) % (3 : Int32)))) .unset .unset .unset) [])) (fun _ q => XS.icmpYes X1343.here hx rfl (pc0 := 378) (pc' := 421) rfl (D at_378) rfl (XT.ii_ne_t hc1548) (by decide) (by decide) q) ?_
                refine own_S4 X1343 hx hZ e1343 V1343 N1344 n0_1324 (D at_421) rfl (own_p1 (D at_423)) (own_p2 (D at_424)) (D at_426) (i := 1) rfl ⟨by decide, by decide⟩ rfl (y := 32) rfl fun T1563 h1563 X1563 e1563 W1563 V1563 N1564 => ?_
                refine own_S4 X1563 hx hZ e1563 V1563 N1564 n0_1324 (D at_427) rfl (own_p1 (D at_429)) (own_p2 (D at_430)) (D at_432) (i := 2) rfl ⟨by decide, by decide⟩ rfl (y := 110) rfl fun T1565 h1565 X1565 e1565 W1565 V1565 N1566 => ?_
                refine own_S4 X1565 hx hZ e1565 V1565 N1566 n0_1324 (D at_433) rfl (own_p1 (D at_435)) (own_p2 (D at_436)) (D at_438) (i := 3) rfl ⟨by decide, by decide⟩ rfl (y := 117) rfl fun T1567 h1567 X1567 e1567 W1567 V1567 N1568 => ?_
                refine own_S4 X1567 hx hZ e1567 V1567 N1568 n0_1324 (D at_439) rfl (own_p1 (D at_441)) (own_p2 (D at_442)) (D at_444) (i := 4) rfl ⟨by decide, by decide⟩ rfl (y := 108) rfl fun T1569 h1569 X1569 e1569 W1569 V1569 N1570 => ?_
                refine own_S4 X1569 hx hZ e1569 V1569 N1570 n0_1324 (D at_445) rfl (own_p1 (D at_447)) (own_p2 (D at_448)) (D at_450) (i := 5) rfl ⟨by decide, by decide⟩ rfl (y := 108) rfl fun T1571 h1571 X1571 e1571 W1571 V1571 N1572 => ?_
                refine own_S4 X1571 hx hZ e1571 V1571 N1572 n0_1324 (D at_451) rfl (own_p2 (D at_453)) (own_p2 (D at_455)) (D at_457) (i := 6) rfl ⟨by decide, by decide⟩ rfl (y := 32) rfl fun T1573 h1573 X1573 e1573 W1573 V1573 N1574 => ?_
                refine own_step (g' := (mkF m 947 (own_lf kd ja jb jc je fl b1322 (.val (.int ((XT.ushr kd (8 : Int32)) % (3 : Int32)))) .unset .unset .unset) [])) (fun _ q => XS.goto X1573.here hx rfl (pc0 := 458) (pc' := 947) rfl (D at_458) (by decide) (by decide) q) ?_
                have c1575 := (((((((Keep.refl h1343 [b1322]).wr W1563 (Or.inl (List.mem_of_getElem? (i := 0) rfl))).wr W1565 (Or.inl (List.mem_of_getElem? (i := 0) rfl))).wr W1567 (Or.inl (List.mem_of_getElem? (i := 0) rfl))).wr W1569 (Or.inl (List.mem_of_getElem? (i := 0) rfl))).wr W1571 (Or.inl (List.mem_of_getElem? (i := 0) rfl))).wr W1573 (Or.inl (List.mem_of_getElem? (i := 0) rfl)))
                have kk1576 : own_KK [(own_wsv (XT.ushr kd (3 : Int32))), (32 : Int32), (110 : Int32), (117 : Int32), (108 : Int32), (108 : Int32), (32 : Int32), (own_wsv (XT.ushr kd (5 : Int32)))] := own_k3n (own_wsw (XT.ushr kd (3 : Int32))) (own_wsw (XT.ushr kd (5 : Int32)))
                exact lp_j947 ([(own_wsv (XT.ushr kd (3 : Int32))), (32 : Int32), (110 : Int32), (117 : Int32), (108 : Int32), (108 : Int32), (32 : Int32), (own_wsv (XT.ushr kd (5 : Int32)))]) (.val (.int ((XT.ushr kd (8 : Int32)) % (3 : Int32)))) (.unset) (.unset) (.unset) T1573 h1573 _ (own_cs X1573 (by first | decide | (dsimp only; omega)) (by first | decide | (dsimp only; omega))) e1573 N1574 c1575 V1573 (kk1576.1) (kk1576.2) (rfl) (Or.inr ⟨_, rfl, rfl⟩) (Or.inl rfl) (Or.inl rfl) (Or.inl rfl)
          · refine own_step (g' := (mkF m 464 (own_lf kd ja jb jc je fl b1322 .unset .unset .unset .unset) [(.int 4), (.int (kd &&& (7 : Int32)))])) (fun _ q => XS.icmpYes X1343.here hx rfl (pc0 := 321) (pc' := 461) rfl (D at_321) rfl (XT.ii_ne_t hc1532) (by decide) (by decide) (XS.iload X1343.here hx rfl (D at_461) rfl (XS.iconst X1343.here hx rfl (D at_463) q))) ?_
            by_cases hc1577 : (kd &&& (7 : Int32)) = (4 : Int32)
            · refine own_step (g' := (mkF m 467 (own_lf kd ja jb jc je fl b1322 .unset .unset .unset .unset) [])) (fun _ q => XS.icmpNo X1343.here hx rfl (D at_464) rfl (XT.ii_ne_f hc1577) q) ?_
              refine own_S4 X1343 hx hZ e1343 V1343 N1344 n0_1324 (D at_467) rfl (own_p1 (D at_469)) (own_p2 (D at_470)) (D at_472) (i := 1) rfl ⟨by decide, by decide⟩ rfl (y := 123) rfl fun T1578 h1578 X1578 e1578 W1578 V1578 N1579 => ?_
              refine own_S4 X1578 hx hZ e1578 V1578 N1579 n0_1324 (D at_473) rfl (own_p1 (D at_475)) (own_p2 (D at_476)) (D at_478) (i := 2) rfl ⟨by decide, by decide⟩ rfl (y := 34) rfl fun T1580 h1580 X1580 e1580 W1580 V1580 N1581 => ?_
              refine own_S4 X1580 hx hZ e1580 V1580 N1581 n0_1324 (D at_479) rfl (own_p1 (D at_481)) (own_p2 (D at_482)) (D at_484) (i := 3) rfl ⟨by decide, by decide⟩ rfl (y := 34) rfl fun T1582 h1582 X1582 e1582 W1582 V1582 N1583 => ?_
              refine own_S4 X1582 hx hZ e1582 V1582 N1583 n0_1324 (D at_485) rfl (own_p1 (D at_487)) (own_p2 (D at_488)) (D at_490) (i := 4) rfl ⟨by decide, by decide⟩ rfl (y := 58) rfl fun T1584 h1584 X1584 e1584 W1584 V1584 N1585 => ?_
              refine own_step (g' := (mkF m 495 (own_lf kd ja jb jc je fl b1322 .unset .unset .unset .unset) [(.int ja), (.int 5), (.ref b1322)])) (fun _ q => XS.aload X1584.here hx rfl (D at_491) rfl rfl (XS.iconst X1584.here hx rfl (D at_493) (XS.iloadN X1584.here hx rfl (D at_494) rfl q))) ?_
              have c1586 := (Nat.le_trans (Nat.le_trans (Nat.le_trans (Nat.le_trans (Nat.le_trans (Nat.le_trans c1338 K1339.1) (Keep.of_wr W1343).1) (Keep.of_wr W1578).1) (Keep.of_wr W1580).1) (Keep.of_wr W1582).1) (Keep.of_wr W1584).1)
              refine own_callS X1584 hx hZ hown (w194 hw) (w195 hw) (w3 hw) (w196 hw) (by decide) (own_bO (W := 2) (own_ldig l Z a0 hw [] ja h1584 n0 c1586 ) hZ (w196 hw) (w3 hw) rfl rfl) e1584  (by first | decide | (show _ ≤ (40 : Nat); first | omega | (dsimp only; omega))) (by first | decide | (show _ ≤ (6400 : Nat); first | omega | (dsimp only; omega))) (argsL := [(.int ja)]) (rest := [(.int (5 : Int32)), (.ref b1322)]) rfl hml.symm (lenOf pd_15 rfl) rfl rfl (own_w0 rfl rfl) (D at_495) ?_
              rintro _ T1587 L1587 X1587 ⟨rfl, N1587q, e1587⟩
              have N1588 := Fr.app N1585 N1587q
              refine own_stCn X1587 hx hZ e1587 V1584 N1588 n0_1324 (j := (5 : Int32)) (i := 5) rfl ⟨by decide, by decide⟩ rfl (y := (own_dgv ja)) (own_n16 (own_dg16 (own_dgd ja))) rfl rfl (D at_498) fun T1589 h1589 X1589 e1589 W1589 V1589 N1590 => ?_
              refine own_S4 X1589 hx hZ e1589 V1589 N1590 n0_1324 (D at_499) rfl (own_p2 (D at_501)) (own_p2 (D at_503)) (D at_505) (i := 6) rfl ⟨by decide, by decide⟩ rfl (y := 125) rfl fun T1591 h1591 X1591 e1591 W1591 V1591 N1592 => ?_
              refine own_step (g' := (mkF m 947 (own_lf kd ja jb jc je fl b1322 .unset .unset .unset .unset) [])) (fun _ q => XS.goto X1591.here hx rfl (pc0 := 506) (pc' := 947) rfl (D at_506) (by decide) (by decide) q) ?_
              have c1593 := (((((((Keep.refl h1343 [b1322]).wr W1578 (Or.inl (List.mem_of_getElem? (i := 0) rfl))).wr W1580 (Or.inl (List.mem_of_getElem? (i := 0) rfl))).wr W1582 (Or.inl (List.mem_of_getElem? (i := 0) rfl))).wr W1584 (Or.inl (List.mem_of_getElem? (i := 0) rfl))).wr W1589 (Or.inl (List.mem_of_getElem? (i := 0) rfl))).wr W1591 (Or.inl (List.mem_of_getElem? (i := 0) rfl)))
              have kk1594 : own_KK [(own_wsv (XT.ushr kd (3 : Int32))), (123 : Int32), (34 : Int32), (34 : Int32), (58 : Int32), (own_dgv ja), (125 : Int32), (own_wsv (XT.ushr kd (5 : Int32)))] := own_k4 (own_wsw (XT.ushr kd (3 : Int32))) (own_wsw (XT.ushr kd (5 : Int32))) (own_dgd ja)
              exact lp_j947 ([(own_wsv (XT.ushr kd (3 : Int32))), (123 : Int32), (34 : Int32), (34 : Int32), (58 : Int32), (own_dgv ja), (125 : Int32), (own_wsv (XT.ushr kd (5 : Int32)))]) (.unset) (.unset) (.unset) (.unset) T1591 h1591 _ (own_cs X1591 (by first | decide | (dsimp only; omega)) (by first | decide | (dsimp only; omega))) e1591 N1592 c1593 V1591 (kk1594.1) (kk1594.2) (rfl) (Or.inl rfl) (Or.inl rfl) (Or.inl rfl) (Or.inl rfl)
            · refine own_step (g' := (mkF m 512 (own_lf kd ja jb jc je fl b1322 .unset .unset .unset .unset) [(.int 5), (.int (kd &&& (7 : Int32)))])) (fun _ q => XS.icmpYes X1343.here hx rfl (pc0 := 464) (pc' := 509) rfl (D at_464) rfl (XT.ii_ne_t hc1577) (by decide) (by decide) (XS.iload X1343.here hx rfl (D at_509) rfl (XS.iconst X1343.here hx rfl (D at_511) q))) ?_
              by_cases hc1595 : (kd &&& (7 : Int32)) = (5 : Int32)
              · refine own_step (g' := (mkF m 515 (own_lf kd ja jb jc je fl b1322 .unset .unset .unset .unset) [])) (fun _ q => XS.icmpNo X1343.here hx rfl (D at_512) rfl (XT.ii_ne_f hc1595) q) ?_
                refine own_S4 X1343 hx hZ e1343 V1343 N1344 n0_1324 (D at_515) rfl (own_p1 (D at_517)) (own_p2 (D at_518)) (D at_520) (i := 1) rfl ⟨by decide, by decide⟩ rfl (y := 91) rfl fun T1596 h1596 X1596 e1596 W1596 V1596 N1597 => ?_
                refine own_step (g' := (mkF m 525 (own_lf kd ja jb jc je fl b1322 .unset .unset .unset .unset) [(.int ja), (.int 2), (.ref b1322)])) (fun _ q => XS.aload X1596.here hx rfl (D at_521) rfl rfl (XS.iconst X1596.here hx rfl (D at_523) (XS.iloadN X1596.here hx rfl (D at_524) rfl q))) ?_
                have c1598 := (Nat.le_trans (Nat.le_trans (Nat.le_trans c1338 K1339.1) (Keep.of_wr W1343).1) (Keep.of_wr W1596).1)
                refine own_callS X1596 hx hZ hown (w194 hw) (w195 hw) (w3 hw) (w196 hw) (by decide) (own_bO (W := 2) (own_ldig l Z a0 hw [] ja h1596 n0 c1598 ) hZ (w196 hw) (w3 hw) rfl rfl) e1596  (by first | decide | (show _ ≤ (40 : Nat); first | omega | (dsimp only; omega))) (by first | decide | (show _ ≤ (6400 : Nat); first | omega | (dsimp only; omega))) (argsL := [(.int ja)]) (rest := [(.int (2 : Int32)), (.ref b1322)]) rfl hml.symm (lenOf pd_15 rfl) rfl rfl (own_w0 rfl rfl) (D at_525) ?_
                rintro _ T1599 L1599 X1599 ⟨rfl, N1599q, e1599⟩
                have N1600 := Fr.app N1597 N1599q
                refine own_stCn X1599 hx hZ e1599 V1596 N1600 n0_1324 (j := (2 : Int32)) (i := 2) rfl ⟨by decide, by decide⟩ rfl (y := (own_dgv ja)) (own_n16 (own_dg16 (own_dgd ja))) rfl rfl (D at_528) fun T1601 h1601 X1601 e1601 W1601 V1601 N1602 => ?_
                refine own_S4 X1601 hx hZ e1601 V1601 N1602 n0_1324 (D at_529) rfl (own_p1 (D at_531)) (own_p2 (D at_532)) (D at_534) (i := 3) rfl ⟨by decide, by decide⟩ rfl (y := 44) rfl fun T1603 h1603 X1603 e1603 W1603 V1603 N1604 => ?_
                refine own_S4 X1603 hx hZ e1603 V1603 N1604 n0_1324 (D at_535) rfl (own_p1 (D at_537)) (own_p2 (D at_538)) (D at_540) (i := 4) rfl ⟨by decide, by decide⟩ rfl (y := 91) rfl fun T1605 h1605 X1605 e1605 W1605 V1605 N1606 => ?_
                refine own_S4 X1605 hx hZ e1605 V1605 N1606 n0_1324 (D at_541) rfl (own_p1 (D at_543)) (own_p2 (D at_544)) (D at_546) (i := 5) rfl ⟨by decide, by decide⟩ rfl (y := 93) rfl fun T1607 h1607 X1607 e1607 W1607 V1607 N1608 => ?_
                refine own_S4 X1607 hx hZ e1607 V1607 N1608 n0_1324 (D at_547) rfl (own_p2 (D at_549)) (own_p2 (D at_551)) (D at_553) (i := 6) rfl ⟨by decide, by decide⟩ rfl (y := 93) rfl fun T1609 h1609 X1609 e1609 W1609 V1609 N1610 => ?_
                refine own_step (g' := (mkF m 947 (own_lf kd ja jb jc je fl b1322 .unset .unset .unset .unset) [])) (fun _ q => XS.goto X1609.here hx rfl (pc0 := 554) (pc' := 947) rfl (D at_554) (by decide) (by decide) q) ?_
                have c1611 := (((((((Keep.refl h1343 [b1322]).wr W1596 (Or.inl (List.mem_of_getElem? (i := 0) rfl))).wr W1601 (Or.inl (List.mem_of_getElem? (i := 0) rfl))).wr W1603 (Or.inl (List.mem_of_getElem? (i := 0) rfl))).wr W1605 (Or.inl (List.mem_of_getElem? (i := 0) rfl))).wr W1607 (Or.inl (List.mem_of_getElem? (i := 0) rfl))).wr W1609 (Or.inl (List.mem_of_getElem? (i := 0) rfl)))
                have kk1612 : own_KK [(own_wsv (XT.ushr kd (3 : Int32))), (91 : Int32), (own_dgv ja), (44 : Int32), (91 : Int32), (93 : Int32), (93 : Int32), (own_wsv (XT.ushr kd (5 : Int32)))] := own_k5 (own_wsw (XT.ushr kd (3 : Int32))) (own_wsw (XT.ushr kd (5 : Int32))) (own_dgd ja)
                exact lp_j947 ([(own_wsv (XT.ushr kd (3 : Int32))), (91 : Int32), (own_dgv ja), (44 : Int32), (91 : Int32), (93 : Int32), (93 : Int32), (own_wsv (XT.ushr kd (5 : Int32)))]) (.unset) (.unset) (.unset) (.unset) T1609 h1609 _ (own_cs X1609 (by first | decide | (dsimp only; omega)) (by first | decide | (dsimp only; omega))) e1609 N1610 c1611 V1609 (kk1612.1) (kk1612.2) (rfl) (Or.inl rfl) (Or.inl rfl) (Or.inl rfl) (Or.inl rfl)
              · refine own_step (g' := (mkF m 561 (own_lf kd ja jb jc je fl b1322 .unset .unset .unset .unset) [(.int 6), (.int (kd &&& (7 : Int32)))])) (fun _ q => XS.icmpYes X1343.here hx rfl (pc0 := 512) (pc' := 557) rfl (D at_512) rfl (XT.ii_ne_t hc1595) (by decide) (by decide) (XS.iload X1343.here hx rfl (D at_557) rfl (XS.bipush X1343.here hx rfl (D at_559) q))) ?_
                by_cases hc1613 : (kd &&& (7 : Int32)) = (6 : Int32)
                · refine own_step (g' := (mkF m 566 (own_lf kd ja jb jc je fl b1322 .unset .unset .unset .unset) [(.int 16)])) (fun _ q => XS.icmpNo X1343.here hx rfl (D at_561) rfl (XT.ii_ne_f hc1613) (XS.bipush X1343.here hx rfl (D at_564) q)) ?_
                  obtain ⟨T1614, h1614, k1614, X1614, e1614, E1614, A1614, st1614⟩ := newP X1343 hx hZ (aty := .char) (w0 hw) e1343 (g := (mkF m 566 (own_lf kd ja jb jc je fl b1322 .unset .unset .unset .unset) [(.int 16)])) rfl (D at_566) rfl (by decide) (cap := 16) (by decide) (by first | decide | omega) (by first | decide | (show _ ≤ (40 : Nat); first | omega | (dsimp only; omega))) (by first | decide | (show _ ≤ (6400 : Nat); first | omega | (dsimp only; omega)))
                  obtain ⟨b1614, g1614⟩ : ∃ z, z = h1343.size := ⟨_, rfl⟩
                  rw [← g1614] at A1614 st1614
                  have c1615 := (Nat.le_trans (Nat.le_trans c1338 K1339.1) (Keep.of_wr W1343).1)
                  have n0_1616 : n0 ≤ b1614 := Nat.le_trans c1615 (Nat.le_of_eq g1614.symm)
                  have c1617 := (((((c1325.ext E1322).trans K1330 all0).wr W1334 (Or.inr sz0_1326)).trans K1339 all0).wr W1343 (Or.inr sz0_1326))
                  have sz0_1618 := Nat.le_trans c1617.1 (Nat.le_of_eq g1614.symm)
                  have sz0_1619 := Nat.le_trans (Keep.refl h1343 [b1322]).1 (Nat.le_of_eq g1614.symm)
                  have c1620 := (own_lt (own_lt (own_lt (own_lt ltb1322 K1330.1) (Keep.of_wr W1334).1) K1339.1) (Keep.of_wr W1343).1)
                  have ne1621 : b1322 ≠ b1614 := own_ne c1620 (Nat.le_of_eq g1614.symm)
                  have V1614 : Arv Z h1614 b1614 k1614 .char (16 : Int32) [(.int (0 : Int32)), (.int (0 : Int32)), (.int (0 : Int32)), (.int (0 : Int32)), (.int (0 : Int32)), (.int (0 : Int32)), (.int (0 : Int32)), (.int (0 : Int32)), (.int (0 : Int32)), (.int (0 : Int32)), (.int (0 : Int32)), (.int (0 : Int32)), (.int (0 : Int32)), (.int (0 : Int32)), (.int (0 : Int32)), (.int (0 : Int32))] (.int (0 : Int32)) := (Arv.new A1614 (by decide)).pad (pad_rep [] (.int (0 : Int32)) 16)
                  have ltb1614 := V1614.lt
                  refine own_step (T' := T1614) (g' := (mkF m 568 (own_lf kd ja jb jc je fl b1322 .unset .unset .unset .unset) [(.ref b1614)])) st1614 ?_
                  refine own_D4 X1614 hx hZ e1614 V1614 N1344 n0_1616 (D at_568)  (own_p1 (D at_569)) (own_p2 (D at_570)) (D at_572) (i := 0) rfl ⟨by decide, by decide⟩ rfl (y := 48) rfl fun T1622 h1622 X1622 e1622 W1622 V1622 N1623 => ?_
                  refine own_D4 X1622 hx hZ e1622 V1622 N1623 n0_1616 (D at_573)  (own_p1 (D at_574)) (own_p2 (D at_575)) (D at_577) (i := 1) rfl ⟨by decide, by decide⟩ rfl (y := 49) rfl fun T1624 h1624 X1624 e1624 W1624 V1624 N1625 => ?_
                  refine own_D4 X1624 hx hZ e1624 V1624 N1625 n0_1616 (D at_578)  (own_p1 (D at_579)) (own_p2 (D at_580)) (D at_582) (i := 2) rfl ⟨by decide, by decide⟩ rfl (y := 50) rfl fun T1626 h1626 X1626 e1626 W1626 V1626 N1627 => ?_
                  refine own_D4 X1626 hx hZ e1626 V1626 N1627 n0_1616 (D at_583)  (own_p1 (D at_584)) (own_p2 (D at_585)) (D at_587) (i := 3) rfl ⟨by decide, by decide⟩ rfl (y := 51) rfl fun T1628 h1628 X1628 e1628 W1628 V1628 N1629 => ?_
                  refine own_D4 X1628 hx hZ e1628 V1628 N1629 n0_1616 (D at_588)  (own_p1 (D at_589)) (own_p2 (D at_590)) (D at_592) (i := 4) rfl ⟨by decide, by decide⟩ rfl (y := 52) rfl fun T1630 h1630 X1630 e1630 W1630 V1630 N1631 => ?_
                  refine own_D4 X1630 hx hZ e1630 V1630 N1631 n0_1616 (D at_593)  (own_p1 (D at_594)) (own_p2 (D at_595)) (D at_597) (i := 5) rfl ⟨by decide, by decide⟩ rfl (y := 53) rfl fun T1632 h1632 X1632 e1632 W1632 V1632 N1633 => ?_
                  refine own_D4 X1632 hx hZ e1632 V1632 N1633 n0_1616 (D at_598)  (own_p2 (D at_599)) (own_p2 (D at_601)) (D at_603) (i := 6) rfl ⟨by decide, by decide⟩ rfl (y := 54) rfl fun T1634 h1634 X1634 e1634 W1634 V1634 N1635 => ?_
                  refine own_D4 X1634 hx hZ e1634 V1634 N1635 n0_1616 (D at_604)  (own_p2 (D at_605)) (own_p2 (D at_607)) (D at_609) (i := 7) rfl ⟨by decide, by decide⟩ rfl (y := 55) rfl fun T1636 h1636 X1636 e1636 W1636 V1636 N1637 => ?_
                  refine own_D4 X1636 hx hZ e1636 V1636 N1637 n0_1616 (D at_610)  (own_p2 (D at_611)) (own_p2 (D at_613)) (D at_615) (i := 8) rfl ⟨by decide, by decide⟩ rfl (y := 56) rfl fun T1638 h1638 X1638 e1638 W1638 V1638 N1639 => ?_
                  refine own_D4 X1638 hx hZ e1638 V1638 N1639 n0_1616 (D at_616)  (own_p2 (D at_617)) (own_p2 (D at_619)) (D at_621) (i := 9) rfl ⟨by decide, by decide⟩ rfl (y := 57) rfl fun T1640 h1640 X1640 e1640 W1640 V1640 N1641 => ?_
                  refine own_D4 X1640 hx hZ e1640 V1640 N1641 n0_1616 (D at_622)  (own_p2 (D at_623)) (own_p2 (D at_625)) (D at_627) (i := 10) rfl ⟨by decide, by decide⟩ rfl (y := 97) rfl fun T1642 h1642 X1642 e1642 W1642 V1642 N1643 => ?_
                  refine own_D4 X1642 hx hZ e1642 V1642 N1643 n0_1616 (D at_628)  (own_p2 (D at_629)) (own_p2 (D at_631)) (D at_633) (i := 11) rfl ⟨by decide, by decide⟩ rfl (y := 98) rfl fun T1644 h1644 X1644 e1644 W1644 V1644 N1645 => ?_
                  refine own_D4 X1644 hx hZ e1644 V1644 N1645 n0_1616 (D at_634)  (own_p2 (D at_635)) (own_p2 (D at_637)) (D at_639) (i := 12) rfl ⟨by decide, by decide⟩ rfl (y := 99) rfl fun T1646 h1646 X1646 e1646 W1646 V1646 N1647 => ?_
                  refine own_D4 X1646 hx hZ e1646 V1646 N1647 n0_1616 (D at_640)  (own_p2 (D at_641)) (own_p2 (D at_643)) (D at_645) (i := 13) rfl ⟨by decide, by decide⟩ rfl (y := 100) rfl fun T1648 h1648 X1648 e1648 W1648 V1648 N1649 => ?_
                  refine own_D4 X1648 hx hZ e1648 V1648 N1649 n0_1616 (D at_646)  (own_p2 (D at_647)) (own_p2 (D at_649)) (D at_651) (i := 14) rfl ⟨by decide, by decide⟩ rfl (y := 101) rfl fun T1650 h1650 X1650 e1650 W1650 V1650 N1651 => ?_
                  refine own_D4 X1650 hx hZ e1650 V1650 N1651 n0_1616 (D at_652)  (own_p2 (D at_653)) (own_p2 (D at_655)) (D at_657) (i := 15) rfl ⟨by decide, by decide⟩ rfl (y := 102) rfl fun T1652 h1652 X1652 e1652 W1652 V1652 N1653 => ?_
                  refine own_step (g' := (mkF m 662 (own_lf kd ja jb jc je fl b1322 (.val (.ref b1614)) .unset .unset .unset) [(.int 16)])) (fun _ q => XS.astore X1652.here hx rfl (D at_658) rfl rfl (l' := (own_lf kd ja jb jc je fl b1322 (.val (.ref b1614)) .unset .unset .unset)) rfl (XS.bipush X1652.here hx rfl (D at_660) q)) ?_
                  obtain ⟨T1654, h1654, k1654, X1654, e1654, E1654, A1654, st1654⟩ := newP X1652 hx hZ (aty := .char) (w0 hw) e1652 (g := (mkF m 662 (own_lf kd ja jb jc je fl b1322 (.val (.ref b1614)) .unset .unset .unset) [(.int 16)])) rfl (D at_662) rfl (by decide) (cap := 16) (by decide) (by first | decide | omega) (by first | decide | (show _ ≤ (40 : Nat); first | omega | (dsimp only; omega))) (by first | decide | (show _ ≤ (6400 : Nat); first | omega | (dsimp only; omega)))
                  obtain ⟨b1654, g1654⟩ : ∃ z, z = h1652.size := ⟨_, rfl⟩
                  rw [← g1654] at A1654 st1654
                  have c1655 := (Nat.le_trans (Nat.le_trans (Nat.le_trans (Nat.le_trans (Nat.le_trans (Nat.le_trans (Nat.le_trans (Nat.le_trans (Nat.le_trans (Nat.le_trans (Nat.le_trans (Nat.le_trans (Nat.le_trans (Nat.le_trans (Nat.le_trans (Nat.le_trans (Nat.le_trans c1615 E1614.1) (Keep.of_wr W1622).1) (Keep.of_wr W1624).1) (Keep.of_wr W1626).1) (Keep.of_wr W1628).1) (Keep.of_wr W1630).1) (Keep.of_wr W1632).1) (Keep.of_wr W1634).1) (Keep.of_wr W1636).1) (Keep.of_wr W1638).1) (Keep.of_wr W1640).1) (Keep.of_wr W1642).1) (Keep.of_wr W1644).1) (Keep.of_wr W1646).1) (Keep.of_wr W1648).1) (Keep.of_wr W1650).1) (Keep.of_wr W1652).1)
                  have n0_1656 : n0 ≤ b1654 := Nat.le_trans c1655 (Nat.le_of_eq g1654.symm)
                  have c1657 := (((((((((((((((((c1617.ext E1614).wr W1622 (Or.inr sz0_1618)).wr W1624 (Or.inr sz0_1618)).wr W1626 (Or.inr sz0_1618)).wr W1628 (Or.inr sz0_1618)).wr W1630 (Or.inr sz0_1618)).wr W1632 (Or.inr sz0_1618)).wr W1634 (Or.inr sz0_1618)).wr W1636 (Or.inr sz0_1618)).wr W1638 (Or.inr sz0_1618)).wr W1640 (Or.inr sz0_1618)).wr W1642 (Or.inr sz0_1618)).wr W1644 (Or.inr sz0_1618)).wr W1646 (Or.inr sz0_1618)).wr W1648 (Or.inr sz0_1618)).wr W1650 (Or.inr sz0_1618)).wr W1652 (Or.inr sz0_1618))
                  have sz0_1658 := Nat.le_trans c1657.1 (Nat.le_of_eq g1654.symm)
                  have c1659 := ((((((((((((((((((Keep.refl h1343 [b1322]).ext E1614).wr W1622 (Or.inr sz0_1619)).wr W1624 (Or.inr sz0_1619)).wr W1626 (Or.inr sz0_1619)).wr W1628 (Or.inr sz0_1619)).wr W1630 (Or.inr sz0_1619)).wr W1632 (Or.inr sz0_1619)).wr W1634 (Or.inr sz0_1619)).wr W1636 (Or.inr sz0_1619)).wr W1638 (Or.inr sz0_1619)).wr W1640 (Or.inr sz0_1619)).wr W1642 (Or.inr sz0_1619)).wr W1644 (Or.inr sz0_1619)).wr W1646 (Or.inr sz0_1619)).wr W1648 (Or.inr sz0_1619)).wr W1650 (Or.inr sz0_1619)).wr W1652 (Or.inr sz0_1619))
                  have sz0_1660 := Nat.le_trans c1659.1 (Nat.le_of_eq g1654.symm)
                  have c1661 := (own_lt (own_lt (own_lt (own_lt (own_lt (own_lt (own_lt (own_lt (own_lt (own_lt (own_lt (own_lt (own_lt (own_lt (own_lt (own_lt (own_lt c1620 E1614.1) (Keep.of_wr W1622).1) (Keep.of_wr W1624).1) (Keep.of_wr W1626).1) (Keep.of_wr W1628).1) (Keep.of_wr W1630).1) (Keep.of_wr W1632).1) (Keep.of_wr W1634).1) (Keep.of_wr W1636).1) (Keep.of_wr W1638).1) (Keep.of_wr W1640).1) (Keep.of_wr W1642).1) (Keep.of_wr W1644).1) (Keep.of_wr W1646).1) (Keep.of_wr W1648).1) (Keep.of_wr W1650).1) (Keep.of_wr W1652).1)
                  have ne1662 : b1322 ≠ b1654 := own_ne c1661 (Nat.le_of_eq g1654.symm)
                  have c1663 := (own_lt (own_lt (own_lt (own_lt (own_lt (own_lt (own_lt (own_lt (own_lt (own_lt (own_lt (own_lt (own_lt (own_lt (own_lt (own_lt ltb1614 (Keep.of_wr W1622).1) (Keep.of_wr W1624).1) (Keep.of_wr W1626).1) (Keep.of_wr W1628).1) (Keep.of_wr W1630).1) (Keep.of_wr W1632).1) (Keep.of_wr W1634).1) (Keep.of_wr W1636).1) (Keep.of_wr W1638).1) (Keep.of_wr W1640).1) (Keep.of_wr W1642).1) (Keep.of_wr W1644).1) (Keep.of_wr W1646).1) (Keep.of_wr W1648).1) (Keep.of_wr W1650).1) (Keep.of_wr W1652).1)
                  have ne1664 : b1614 ≠ b1654 := own_ne c1663 (Nat.le_of_eq g1654.symm)
                  have V1654 : Arv Z h1654 b1654 k1654 .char (16 : Int32) [(.int (0 : Int32)), (.int (0 : Int32)), (.int (0 : Int32)), (.int (0 : Int32)), (.int (0 : Int32)), (.int (0 : Int32)), (.int (0 : Int32)), (.int (0 : Int32)), (.int (0 : Int32)), (.int (0 : Int32)), (.int (0 : Int32)), (.int (0 : Int32)), (.int (0 : Int32)), (.int (0 : Int32)), (.int (0 : Int32)), (.int (0 : Int32))] (.int (0 : Int32)) := (Arv.new A1654 (by decide)).pad (pad_rep [] (.int (0 : Int32)) 16)
                  have ltb1654 := V1654.lt
                  refine own_step (T' := T1654) (g' := (mkF m 664 (own_lf kd ja jb jc je fl b1322 (.val (.ref b1614)) .unset .unset .unset) [(.ref b1654)])) st1654 ?_
                  refine own_D4 X1654 hx hZ e1654 V1654 N1653 n0_1656 (D at_664)  (own_p1 (D at_665)) (own_p2 (D at_666)) (D at_668) (i := 0) rfl ⟨by decide, by decide⟩ rfl (y := 48) rfl fun T1665 h1665 X1665 e1665 W1665 V1665 N1666 => ?_
                  refine own_D4 X1665 hx hZ e1665 V1665 N1666 n0_1656 (D at_669)  (own_p1 (D at_670)) (own_p2 (D at_671)) (D at_673) (i := 1) rfl ⟨by decide, by decide⟩ rfl (y := 49) rfl fun T1667 h1667 X1667 e1667 W1667 V1667 N1668 => ?_
                  refine own_D4 X1667 hx hZ e1667 V1667 N1668 n0_1656 (D at_674)  (own_p1 (D at_675)) (own_p2 (D at_676)) (D at_678) (i := 2) rfl ⟨by decide, by decide⟩ rfl (y := 50) rfl fun T1669 h1669 X1669 e1669 W1669 V1669 N1670 => ?_
                  refine own_D4 X1669 hx hZ e1669 V1669 N1670 n0_1656 (D at_679)  (own_p1 (D at_680)) (own_p2 (D at_681)) (D at_683) (i := 3) rfl ⟨by decide, by decide⟩ rfl (y := 51) rfl fun T1671 h1671 X1671 e1671 W1671 V1671 N1672 => ?_
                  refine own_D4 X1671 hx hZ e1671 V1671 N1672 n0_1656 (D at_684)  (own_p1 (D at_685)) (own_p2 (D at_686)) (D at_688) (i := 4) rfl ⟨by decide, by decide⟩ rfl (y := 52) rfl fun T1673 h1673 X1673 e1673 W1673 V1673 N1674 => ?_
                  refine own_D4 X1673 hx hZ e1673 V1673 N1674 n0_1656 (D at_689)  (own_p1 (D at_690)) (own_p2 (D at_691)) (D at_693) (i := 5) rfl ⟨by decide, by decide⟩ rfl (y := 53) rfl fun T1675 h1675 X1675 e1675 W1675 V1675 N1676 => ?_
                  refine own_D4 X1675 hx hZ e1675 V1675 N1676 n0_1656 (D at_694)  (own_p2 (D at_695)) (own_p2 (D at_697)) (D at_699) (i := 6) rfl ⟨by decide, by decide⟩ rfl (y := 54) rfl fun T1677 h1677 X1677 e1677 W1677 V1677 N1678 => ?_
                  refine own_D4 X1677 hx hZ e1677 V1677 N1678 n0_1656 (D at_700)  (own_p2 (D at_701)) (own_p2 (D at_703)) (D at_705) (i := 7) rfl ⟨by decide, by decide⟩ rfl (y := 55) rfl fun T1679 h1679 X1679 e1679 W1679 V1679 N1680 => ?_
                  refine own_D4 X1679 hx hZ e1679 V1679 N1680 n0_1656 (D at_706)  (own_p2 (D at_707)) (own_p2 (D at_709)) (D at_711) (i := 8) rfl ⟨by decide, by decide⟩ rfl (y := 56) rfl fun T1681 h1681 X1681 e1681 W1681 V1681 N1682 => ?_
                  refine own_D4 X1681 hx hZ e1681 V1681 N1682 n0_1656 (D at_712)  (own_p2 (D at_713)) (own_p2 (D at_715)) (D at_717) (i := 9) rfl ⟨by decide, by decide⟩ rfl (y := 57) rfl fun T1683 h1683 X1683 e1683 W1683 V1683 N1684 => ?_
                  refine own_D4 X1683 hx hZ e1683 V1683 N1684 n0_1656 (D at_718)  (own_p2 (D at_719)) (own_p2 (D at_721)) (D at_723) (i := 10) rfl ⟨by decide, by decide⟩ rfl (y := 65) rfl fun T1685 h1685 X1685 e1685 W1685 V1685 N1686 => ?_
                  refine own_D4 X1685 hx hZ e1685 V1685 N1686 n0_1656 (D at_724)  (own_p2 (D at_725)) (own_p2 (D at_727)) (D at_729) (i := 11) rfl ⟨by decide, by decide⟩ rfl (y := 66) rfl fun T1687 h1687 X1687 e1687 W1687 V1687 N1688 => ?_
                  refine own_D4 X1687 hx hZ e1687 V1687 N1688 n0_1656 (D at_730)  (own_p2 (D at_731)) (own_p2 (D at_733)) (D at_735) (i := 12) rfl ⟨by decide, by decide⟩ rfl (y := 67) rfl fun T1689 h1689 X1689 e1689 W1689 V1689 N1690 => ?_
                  refine own_D4 X1689 hx hZ e1689 V1689 N1690 n0_1656 (D at_736)  (own_p2 (D at_737)) (own_p2 (D at_739)) (D at_741) (i := 13) rfl ⟨by decide, by decide⟩ rfl (y := 68) rfl fun T1691 h1691 X1691 e1691 W1691 V1691 N1692 => ?_
                  refine own_D4 X1691 hx hZ e1691 V1691 N1692 n0_1656 (D at_742)  (own_p2 (D at_743)) (own_p2 (D at_745)) (D at_747) (i := 14) rfl ⟨by decide, by decide⟩ rfl (y := 69) rfl fun T1693 h1693 X1693 e1693 W1693 V1693 N1694 => ?_
                  refine own_D4 X1693 hx hZ e1693 V1693 N1694 n0_1656 (D at_748)  (own_p2 (D at_749)) (own_p2 (D at_751)) (D at_753) (i := 15) rfl ⟨by decide, by decide⟩ rfl (y := 70) rfl fun T1695 h1695 X1695 e1695 W1695 V1695 N1696 => ?_
                  refine own_step (g' := (mkF m 758 (own_lf kd ja jb jc je fl b1322 (.val (.ref b1614)) (.val (.ref b1654)) .unset .unset) [(.int fl)])) (fun _ q => XS.astore X1695.here hx rfl (D at_754) rfl rfl (l' := (own_lf kd ja jb jc je fl b1322 (.val (.ref b1614)) (.val (.ref b1654)) .unset .unset)) rfl (XS.iload X1695.here hx rfl (D at_756) rfl q)) ?_
                  by_cases hc1697 : fl = 0
                  · refine own_step (g' := (mkF m 776 (own_lf kd ja jb jc je fl b1322 (.val (.ref b1614)) (.val (.ref b1654)) (.val (.ref b1614)) (.val (.int (ja &&& (65535 : Int32))))) [])) (fun _ q => XS.ifYes X1695.here hx rfl (pc0 := 758) (pc' := 766) rfl (D at_758) rfl (XT.i0_eq_t hc1697) (by decide) (by decide) (XS.aload X1695.here hx rfl (D at_766) rfl rfl (XS.astore X1695.here hx rfl (D at_768) rfl rfl (l' := (own_lf kd ja jb jc je fl b1322 (.val (.ref b1614)) (.val (.ref b1654)) (.val (.ref b1614)) .unset)) rfl (XS.iloadN X1695.here hx rfl (D at_770) rfl (X1695.ldcInt hx hown (mvT hZ (w8 hw)) (g := (mkF m 771 (own_lf kd ja jb jc je fl b1322 (.val (.ref b1614)) (.val (.ref b1654)) (.val (.ref b1614)) .unset) [(.int ja)])) rfl (D at_771) _ (XS.iand X1695.here hx rfl (D at_773) rfl (XS.istore X1695.here hx rfl (D at_774) rfl (l' := (own_lf kd ja jb jc je fl b1322 (.val (.ref b1614)) (.val (.ref b1654)) (.val (.ref b1614)) (.val (.int (ja &&& (65535 : Int32)))))) rfl q))))))) ?_
                    have lp_j799 : ∀ (uv : Int32) (T_j799 : State) (h_j799 : Heap) (L_j799 : List Loc) (X_j799 : Stand p l e room_1 (s.setVm s.vm) m #[(.int kd), (.int ja), (.int jb), (.int jc), (.int je)] below meth c T_j799 L_j799 (((((0 + 1) + 1) + 1) + 1) + 1) (((((0 + 8) + 4) + 4) + 16) + 16)) (e_j799 : T_j799.heap = h_j799) (N_j799 : Fr n0 L_j799) (KL_j799 : Keep h1695 h_j799 [])  (huv : own_uok uv), own_Fin p e below (own_GW Z own_EL s (Q_own_law Z G1 G3 kd ja jb jc je h0 n0) room_1.cells room_1.slots) T_j799 (mkF m 799 (own_lf kd ja jb jc je fl b1322 (.val (.ref b1614)) (.val (.ref b1654)) (.val (.ref b1614)) (.val (.int uv))) []) := by
                      intro uv T_j799 h_j799 L_j799 X_j799 e_j799 N_j799 KL_j799  huv
                      have c1698 := (((((((((((((((((((((((((((((((((((V1343.ext E1614).other W1622 ne1621).other W1624 ne1621).other W1626 ne1621).other W1628 ne1621).other W1630 ne1621).other W1632 ne1621).other W1634 ne1621).other W1636 ne1621).other W1638 ne1621).other W1640 ne1621).other W1642 ne1621).other W1644 ne1621).other W1646 ne1621).other W1648 ne1621).other W1650 ne1621).other W1652 ne1621).ext E1654).other W1665 ne1662).other W1667 ne1662).other W1669 ne1662).other W1671 ne1662).other W1673 ne1662).other W1675 ne1662).other W1677 ne1662).other W1679 ne1662).other W1681 ne1662).other W1683 ne1662).other W1685 ne1662).other W1687 ne1662).other W1689 ne1662).other W1691 ne1662).other W1693 ne1662).other W1695 ne1662).keep KL_j799 nin0)
                      refine own_S4 X_j799 hx hZ e_j799 c1698 N_j799 n0_1324 (D at_799) rfl (own_p1 (D at_801)) (own_p2 (D at_802)) (D at_804) (i := 0) rfl ⟨by decide, by decide⟩ rfl (y := 34) rfl fun T1699 h1699 X1699 e1699 W1699 V1699 N1700 => ?_
                      refine own_S4 X1699 hx hZ e1699 V1699 N1700 n0_1324 (D at_805) rfl (own_p1 (D at_807)) (own_p2 (D at_808)) (D at_810) (i := 1) rfl ⟨by decide, by decide⟩ rfl (y := 92) rfl fun T1701 h1701 X1701 e1701 W1701 V1701 N1702 => ?_
                      refine own_S4 X1701 hx hZ e1701 V1701 N1702 n0_1324 (D at_811) rfl (own_p1 (D at_813)) (own_p2 (D at_814)) (D at_816) (i := 2) rfl ⟨by decide, by decide⟩ rfl (y := 117) rfl fun T1703 h1703 X1703 e1703 W1703 V1703 N1704 => ?_
                      refine own_step (g' := (mkF m 830 (own_lf kd ja jb jc je fl b1322 (.val (.ref b1614)) (.val (.ref b1654)) (.val (.ref b1614)) (.val (.int uv))) [(.int ((XT.ushr uv (12 : Int32)) &&& (15 : Int32))), (.ref b1614), (.int 3), (.ref b1322)])) (fun _ q => XS.aload X1703.here hx rfl (D at_817) rfl rfl (XS.iconst X1703.here hx rfl (D at_819) (XS.aload X1703.here hx rfl (D at_820) rfl rfl (XS.iload X1703.here hx rfl (D at_822) rfl (XS.bipush X1703.here hx rfl (D at_824) (XT.iushr X1703.here hx rfl (D at_826) rfl (XS.bipush X1703.here hx rfl (D at_827) (XS.iand X1703.here hx rfl (D at_829) rfl q)))))))) ?_
                      have c1705 := (((((((((((((((((((((V1652.ext E1654).other W1665 ne1664).other W1667 ne1664).other W1669 ne1664).other W1671 ne1664).other W1673 ne1664).other W1675 ne1664).other W1677 ne1664).other W1679 ne1664).other W1681 ne1664).other W1683 ne1664).other W1685 ne1664).other W1687 ne1664).other W1689 ne1664).other W1691 ne1664).other W1693 ne1664).other W1695 ne1664).keep KL_j799 nin0).other W1699 (Ne.symm ne1621)).other W1701 (Ne.symm ne1621)).other W1703 (Ne.symm ne1621))
                      refine own_step (g' := (mkF m 831 (own_lf kd ja jb jc je fl b1322 (.val (.ref b1614)) (.val (.ref b1654)) (.val (.ref b1614)) (.val (.int uv))) [(.int (own_hx1 false (XT.ushr uv (12 : Int32)))), (.int 3), (.ref b1322)])) (fun _ q => own_ldC X1703 hx hZ e1703 c1705 (j := ((XT.ushr uv (12 : Int32)) &&& (15 : Int32))) ⟨(own_idx _ 15 (by decide)).1, (own_idx _ 15 (by decide)).2.1⟩ (v := (.int (own_hx1 false (XT.ushr uv (12 : Int32))))) (own_mapD (cs := own_hL false) (Nat.lt_succ_of_le (own_idx _ 15 (by decide)).2.2)) (g := (mkF m 830 (own_lf kd ja jb jc je fl b1322 (.val (.ref b1614)) (.val (.ref b1654)) (.val (.ref b1614)) (.val (.int uv))) [(.int ((XT.ushr uv (12 : Int32)) &&& (15 : Int32))), (.ref b1614), (.int 3), (.ref b1322)])) rfl rfl (D at_830) _ q) ?_
                      refine own_stCn X1703 hx hZ e1703 V1703 N1704 n0_1324 (j := (3 : Int32)) (i := 3) rfl ⟨by decide, by decide⟩ rfl (y := (own_hx1 false (XT.ushr uv (12 : Int32)))) (own_n16 (own_hvx false _).2) rfl rfl (D at_831) fun T1706 h1706 X1706 e1706 W1706 V1706 N1707 => ?_
                      refine own_step (g' := (mkF m 845 (own_lf kd ja jb jc je fl b1322 (.val (.ref b1614)) (.val (.ref b1654)) (.val (.ref b1614)) (.val (.int uv))) [(.int ((XT.ushr uv (8 : Int32)) &&& (15 : Int32))), (.ref b1614), (.int 4), (.ref b1322)])) (fun _ q => XS.aload X1706.here hx rfl (D at_832) rfl rfl (XS.iconst X1706.here hx rfl (D at_834) (XS.aload X1706.here hx rfl (D at_835) rfl rfl (XS.iload X1706.here hx rfl (D at_837) rfl (XS.bipush X1706.here hx rfl (D at_839) (XT.iushr X1706.here hx rfl (D at_841) rfl (XS.bipush X1706.here hx rfl (D at_842) (XS.iand X1706.here hx rfl (D at_844) rfl q)))))))) ?_
                      have c1708 := (c1705.other W1706 (Ne.symm ne1621))
                      refine own_step (g' := (mkF m 846 (own_lf kd ja jb jc je fl b1322 (.val (.ref b1614)) (.val (.ref b1654)) (.val (.ref b1614)) (.val (.int uv))) [(.int (own_hx1 false (XT.ushr uv (8 : Int32)))), (.int 4), (.ref b1322)])) (fun _ q => own_ldC X1706 hx hZ e1706 c1708 (j := ((XT.ushr uv (8 : Int32)) &&& (15 : Int32))) ⟨(own_idx _ 15 (by decide)).1, (own_idx _ 15 (by decide)).2.1⟩ (v := (.int (own_hx1 false (XT.ushr uv (8 : Int32))))) (own_mapD (cs := own_hL false) (Nat.lt_succ_of_le (own_idx _ 15 (by decide)).2.2)) (g := (mkF m 845 (own_lf kd ja jb jc je fl b1322 (.val (.ref b1614)) (.val (.ref b1654)) (.val (.ref b1614)) (.val (.int uv))) [(.int ((XT.ushr uv (8 : Int32)) &&& (15 : Int32))), (.ref b1614), (.int 4), (.ref b1322)])) rfl rfl (D at_845) _ q) ?_
                      refine own_stCn X1706 hx hZ e1706 V1706 N1707 n0_1324 (j := (4 : Int32)) (i := 4) rfl ⟨by decide, by decide⟩ rfl (y := (own_hx1 false (XT.ushr uv (8 : Int32)))) (own_n16 (own_hvx false _).2) rfl rfl (D at_846) fun T1709 h1709 X1709 e1709 W1709 V1709 N1710 => ?_
                      refine own_step (g' := (mkF m 859 (own_lf kd ja jb jc je fl b1322 (.val (.ref b1614)) (.val (.ref b1654)) (.val (.ref b1614)) (.val (.int uv))) [(.int ((XT.ushr uv (4 : Int32)) &&& (15 : Int32))), (.ref b1614), (.int 5), (.ref b1322)])) (fun _ q => XS.aload X1709.here hx rfl (D at_847) rfl rfl (XS.iconst X1709.here hx rfl (D at_849) (XS.aload X1709.here hx rfl (D at_850) rfl rfl (XS.iload X1709.here hx rfl (D at_852) rfl (XS.iconst X1709.here hx rfl (D at_854) (XT.iushr X1709.here hx rfl (D at_855) rfl (XS.bipush X1709.here hx rfl (D at_856) (XS.iand X1709.here hx rfl (D at_858) rfl q)))))))) ?_
                      have c1711 := (c1708.other W1709 (Ne.symm ne1621))
                      refine own_step (g' := (mkF m 860 (own_lf kd ja jb jc je fl b1322 (.val (.ref b1614)) (.val (.ref b1654)) (.val (.ref b1614)) (.val (.int uv))) [(.int (own_hx1 false (XT.ushr uv (4 : Int32)))), (.int 5), (.ref b1322)])) (fun _ q => own_ldC X1709 hx hZ e1709 c1711 (j := ((XT.ushr uv (4 : Int32)) &&& (15 : Int32))) ⟨(own_idx _ 15 (by decide)).1, (own_idx _ 15 (by decide)).2.1⟩ (v := (.int (own_hx1 false (XT.ushr uv (4 : Int32))))) (own_mapD (cs := own_hL false) (Nat.lt_succ_of_le (own_idx _ 15 (by decide)).2.2)) (g := (mkF m 859 (own_lf kd ja jb jc je fl b1322 (.val (.ref b1614)) (.val (.ref b1654)) (.val (.ref b1614)) (.val (.int uv))) [(.int ((XT.ushr uv (4 : Int32)) &&& (15 : Int32))), (.ref b1614), (.int 5), (.ref b1322)])) rfl rfl (D at_859) _ q) ?_
                      refine own_stCn X1709 hx hZ e1709 V1709 N1710 n0_1324 (j := (5 : Int32)) (i := 5) rfl ⟨by decide, by decide⟩ rfl (y := (own_hx1 false (XT.ushr uv (4 : Int32)))) (own_n16 (own_hvx false _).2) rfl rfl (D at_860) fun T1712 h1712 X1712 e1712 W1712 V1712 N1713 => ?_
                      refine own_step (g' := (mkF m 872 (own_lf kd ja jb jc je fl b1322 (.val (.ref b1614)) (.val (.ref b1654)) (.val (.ref b1614)) (.val (.int uv))) [(.int (uv &&& (15 : Int32))), (.ref b1614), (.int 6), (.ref b1322)])) (fun _ q => XS.aload X1712.here hx rfl (D at_861) rfl rfl (XS.bipush X1712.here hx rfl (D at_863) (XS.aload X1712.here hx rfl (D at_865) rfl rfl (XS.iload X1712.here hx rfl (D at_867) rfl (XS.bipush X1712.here hx rfl (D at_869) (XS.iand X1712.here hx rfl (D at_871) rfl q)))))) ?_
                      have c1714 := (c1711.other W1712 (Ne.symm ne1621))
                      refine own_step (g' := (mkF m 873 (own_lf kd ja jb jc je fl b1322 (.val (.ref b1614)) (.val (.ref b1654)) (.val (.ref b1614)) (.val (.int uv))) [(.int (own_hx1 false uv)), (.int 6), (.ref b1322)])) (fun _ q => own_ldC X1712 hx hZ e1712 c1714 (j := (uv &&& (15 : Int32))) ⟨(own_idx _ 15 (by decide)).1, (own_idx _ 15 (by decide)).2.1⟩ (v := (.int (own_hx1 false uv))) (own_mapD (cs := own_hL false) (Nat.lt_succ_of_le (own_idx _ 15 (by decide)).2.2)) (g := (mkF m 872 (own_lf kd ja jb jc je fl b1322 (.val (.ref b1614)) (.val (.ref b1654)) (.val (.ref b1614)) (.val (.int uv))) [(.int (uv &&& (15 : Int32))), (.ref b1614), (.int 6), (.ref b1322)])) rfl rfl (D at_872) _ q) ?_
                      refine own_stCn X1712 hx hZ e1712 V1712 N1713 n0_1324 (j := (6 : Int32)) (i := 6) rfl ⟨by decide, by decide⟩ rfl (y := (own_hx1 false uv)) (own_n16 (own_hvx false _).2) rfl rfl (D at_873) fun T1715 h1715 X1715 e1715 W1715 V1715 N1716 => ?_
                      refine own_S4 X1715 hx hZ e1715 V1715 N1716 n0_1324 (D at_874) rfl (own_p2 (D at_876)) (own_p2 (D at_878)) (D at_880) (i := 7) rfl ⟨by decide, by decide⟩ rfl (y := 34) rfl fun T1717 h1717 X1717 e1717 W1717 V1717 N1718 => ?_
                      refine own_step (g' := (mkF m 947 (own_lf kd ja jb jc je fl b1322 (.val (.ref b1614)) (.val (.ref b1654)) (.val (.ref b1614)) (.val (.int uv))) [])) (fun _ q => XS.goto X1717.here hx rfl (pc0 := 881) (pc' := 947) rfl (D at_881) (by decide) (by decide) q) ?_
                      have c1719 := ((((((((((((((((((((((((((c1659.ext E1654).wr W1665 (Or.inr sz0_1660)).wr W1667 (Or.inr sz0_1660)).wr W1669 (Or.inr sz0_1660)).wr W1671 (Or.inr sz0_1660)).wr W1673 (Or.inr sz0_1660)).wr W1675 (Or.inr sz0_1660)).wr W1677 (Or.inr sz0_1660)).wr W1679 (Or.inr sz0_1660)).wr W1681 (Or.inr sz0_1660)).wr W1683 (Or.inr sz0_1660)).wr W1685 (Or.inr sz0_1660)).wr W1687 (Or.inr sz0_1660)).wr W1689 (Or.inr sz0_1660)).wr W1691 (Or.inr sz0_1660)).wr W1693 (Or.inr sz0_1660)).wr W1695 (Or.inr sz0_1660)).trans KL_j799 all0).wr W1699 (Or.inl (List.mem_of_getElem? (i := 0) rfl))).wr W1701 (Or.inl (List.mem_of_getElem? (i := 0) rfl))).wr W1703 (Or.inl (List.mem_of_getElem? (i := 0) rfl))).wr W1706 (Or.inl (List.mem_of_getElem? (i := 0) rfl))).wr W1709 (Or.inl (List.mem_of_getElem? (i := 0) rfl))).wr W1712 (Or.inl (List.mem_of_getElem? (i := 0) rfl))).wr W1715 (Or.inl (List.mem_of_getElem? (i := 0) rfl))).wr W1717 (Or.inl (List.mem_of_getElem? (i := 0) rfl)))
                      have kk1720 : own_KK [(34 : Int32), (92 : Int32), (117 : Int32), (own_hx1 false (XT.ushr uv (12 : Int32))), (own_hx1 false (XT.ushr uv (8 : Int32))), (own_hx1 false (XT.ushr uv (4 : Int32))), (own_hx1 false uv), (34 : Int32)] := own_k6 false huv
                      exact lp_j947 ([(34 : Int32), (92 : Int32), (117 : Int32), (own_hx1 false (XT.ushr uv (12 : Int32))), (own_hx1 false (XT.ushr uv (8 : Int32))), (own_hx1 false (XT.ushr uv (4 : Int32))), (own_hx1 false uv), (34 : Int32)]) (.val (.ref b1614)) (.val (.ref b1654)) (.val (.ref b1614)) (.val (.int uv)) T1717 h1717 _ (own_cs X1717 (by first | decide | (dsimp only; omega)) (by first | decide | (dsimp only; omega))) e1717 N1718 c1719 V1717 (kk1720.1) (kk1720.2) (rfl) (Or.inr ⟨_, rfl, rfl⟩) (Or.inr ⟨_, rfl, rfl⟩) (Or.inr ⟨_, rfl, rfl⟩) (Or.inr ⟨_, rfl, rfl⟩)
                    refine own_step (g' := (mkF m 778 (own_lf kd ja jb jc je fl b1322 (.val (.ref b1614)) (.val (.ref b1654)) (.val (.ref b1614)) (.val (.int (ja &&& (65535 : Int32))))) [(.int (ja &&& (65535 : Int32)))])) (fun _ q => XS.iload X1695.here hx rfl (D at_776) rfl q) ?_
                    by_cases hc1721 : (ja &&& (65535 : Int32)) = 0
                    · refine own_step (g' := (mkF m 799 (own_lf kd ja jb jc je fl b1322 (.val (.ref b1614)) (.val (.ref b1654)) (.val (.ref b1614)) (.val (.int (65 : Int32)))) [])) (fun _ q => XS.ifYes X1695.here hx rfl (pc0 := 778) (pc' := 795) rfl (D at_778) rfl (XT.i0_eq_t hc1721) (by decide) (by decide) (XS.bipush X1695.here hx rfl (D at_795) (XS.istore X1695.here hx rfl (D at_797) rfl (l' := (own_lf kd ja jb jc je fl b1322 (.val (.ref b1614)) (.val (.ref b1654)) (.val (.ref b1614)) (.val (.int (65 : Int32))))) rfl q))) ?_
                      exact lp_j799 ((65 : Int32)) T1695 h1695 _ X1695 e1695 N1696 (Keep.refl h1695 [])  (⟨⟨by decide, by decide⟩, by decide, by decide⟩)
                    · refine own_step (g' := (mkF m 785 (own_lf kd ja jb jc je fl b1322 (.val (.ref b1614)) (.val (.ref b1654)) (.val (.ref b1614)) (.val (.int (ja &&& (65535 : Int32))))) [(.int 55296), (.int (ja &&& (65535 : Int32)))])) (fun _ q => XS.ifNo X1695.here hx rfl (D at_778) rfl (XT.i0_eq_f hc1721) (XS.iload X1695.here hx rfl (D at_781) rfl (X1695.ldcInt hx hown (mvT hZ (w156 hw)) (g := (mkF m 783 (own_lf kd ja jb jc je fl b1322 (.val (.ref b1614)) (.val (.ref b1654)) (.val (.ref b1614)) (.val (.int (ja &&& (65535 : Int32))))) [(.int (ja &&& (65535 : Int32)))])) rfl (D at_783) _ q))) ?_
                      by_cases hc1722 : (ja &&& (65535 : Int32)) < (55296 : Int32)
                      · refine own_step (g' := (mkF m 799 (own_lf kd ja jb jc je fl b1322 (.val (.ref b1614)) (.val (.ref b1654)) (.val (.ref b1614)) (.val (.int (ja &&& (65535 : Int32))))) [])) (fun _ q => XS.icmpYes X1695.here hx rfl (pc0 := 785) (pc' := 799) rfl (D at_785) rfl (XT.ii_lt_t hc1722) (by decide) (by decide) q) ?_
                        exact lp_j799 ((ja &&& (65535 : Int32))) T1695 h1695 _ X1695 e1695 N1696 (Keep.refl h1695 [])  (⟨own_m16 ja, hc1721, (fun q => q.1 hc1722)⟩)
                      · refine own_step (g' := (mkF m 792 (own_lf kd ja jb jc je fl b1322 (.val (.ref b1614)) (.val (.ref b1654)) (.val (.ref b1614)) (.val (.int (ja &&& (65535 : Int32))))) [(.int 57343), (.int (ja &&& (65535 : Int32)))])) (fun _ q => XS.icmpNo X1695.here hx rfl (D at_785) rfl (XT.ii_lt_f hc1722) (XS.iload X1695.here hx rfl (D at_788) rfl (X1695.ldcInt hx hown (mvT hZ (w192 hw)) (g := (mkF m 790 (own_lf kd ja jb jc je fl b1322 (.val (.ref b1614)) (.val (.ref b1654)) (.val (.ref b1614)) (.val (.int (ja &&& (65535 : Int32))))) [(.int (ja &&& (65535 : Int32)))])) rfl (D at_790) _ q))) ?_
                        by_cases hc1723 : (57343 : Int32) < (ja &&& (65535 : Int32))
                        · refine own_step (g' := (mkF m 799 (own_lf kd ja jb jc je fl b1322 (.val (.ref b1614)) (.val (.ref b1654)) (.val (.ref b1614)) (.val (.int (ja &&& (65535 : Int32))))) [])) (fun _ q => XS.icmpYes X1695.here hx rfl (pc0 := 792) (pc' := 799) rfl (D at_792) rfl (XT.ii_gt_t hc1723) (by decide) (by decide) q) ?_
                          exact lp_j799 ((ja &&& (65535 : Int32))) T1695 h1695 _ X1695 e1695 N1696 (Keep.refl h1695 [])  (⟨own_m16 ja, hc1721, (own_ns57 hc1723)⟩)
                        · refine own_step (g' := (mkF m 799 (own_lf kd ja jb jc je fl b1322 (.val (.ref b1614)) (.val (.ref b1654)) (.val (.ref b1614)) (.val (.int (65 : Int32)))) [])) (fun _ q => XS.icmpNo X1695.here hx rfl (D at_792) rfl (XT.ii_gt_f hc1723) (XS.bipush X1695.here hx rfl (D at_795) (XS.istore X1695.here hx rfl (D at_797) rfl (l' := (own_lf kd ja jb jc je fl b1322 (.val (.ref b1614)) (.val (.ref b1654)) (.val (.ref b1614)) (.val (.int (65 : Int32))))) rfl q))) ?_
                          exact lp_j799 ((65 : Int32)) T1695 h1695 _ X1695 e1695 N1696 (Keep.refl h1695 [])  (⟨⟨by decide, by decide⟩, by decide, by decide⟩)
                  · refine own_step (g' := (mkF m 776 (own_lf kd ja jb jc je fl b1322 (.val (.ref b1614)) (.val (.ref b1654)) (.val (.ref b1654)) (.val (.int (ja &&& (65535 : Int32))))) [])) (fun _ q => XS.ifNo X1695.here hx rfl (D at_758) rfl (XT.i0_eq_f hc1697) (XS.aload X1695.here hx rfl (D at_761) rfl rfl (XS.goto X1695.here hx rfl (pc0 := 763) (pc' := 768) rfl (D at_763) (by decide) (by decide) (XS.astore X1695.here hx rfl (D at_768) rfl rfl (l' := (own_lf kd ja jb jc je fl b1322 (.val (.ref b1614)) (.val (.ref b1654)) (.val (.ref b1654)) .unset)) rfl (XS.iloadN X1695.here hx rfl (D at_770) rfl (X1695.ldcInt hx hown (mvT hZ (w8 hw)) (g := (mkF m 771 (own_lf kd ja jb jc je fl b1322 (.val (.ref b1614)) (.val (.ref b1654)) (.val (.ref b1654)) .unset) [(.int ja)])) rfl (D at_771) _ (XS.iand X1695.here hx rfl (D at_773) rfl (XS.istore X1695.here hx rfl (D at_774) rfl (l' := (own_lf kd ja jb jc je fl b1322 (.val (.ref b1614)) (.val (.ref b1654)) (.val (.ref b1654)) (.val (.int (ja &&& (65535 : Int32)))))) rfl q)))))))) ?_
                    have lp_j799 : ∀ (uv : Int32) (T_j799 : State) (h_j799 : Heap) (L_j799 : List Loc) (X_j799 : Stand p l e room_1 (s.setVm s.vm) m #[(.int kd), (.int ja), (.int jb), (.int jc), (.int je)] below meth c T_j799 L_j799 (((((0 + 1) + 1) + 1) + 1) + 1) (((((0 + 8) + 4) + 4) + 16) + 16)) (e_j799 : T_j799.heap = h_j799) (N_j799 : Fr n0 L_j799) (KL_j799 : Keep h1695 h_j799 [])  (huv : own_uok uv), own_Fin p e below (own_GW Z own_EL s (Q_own_law Z G1 G3 kd ja jb jc je h0 n0) room_1.cells room_1.slots) T_j799 (mkF m 799 (own_lf kd ja jb jc je fl b1322 (.val (.ref b1614)) (.val (.ref b1654)) (.val (.ref b1654)) (.val (.int uv))) []) := by
                      intro uv T_j799 h_j799 L_j799 X_j799 e_j799 N_j799 KL_j799  huv
                      have c1724 := (((((((((((((((((((((((((((((((((((V1343.ext E1614).other W1622 ne1621).other W1624 ne1621).other W1626 ne1621).other W1628 ne1621).other W1630 ne1621).other W1632 ne1621).other W1634 ne1621).other W1636 ne1621).other W1638 ne1621).other W1640 ne1621).other W1642 ne1621).other W1644 ne1621).other W1646 ne1621).other W1648 ne1621).other W1650 ne1621).other W1652 ne1621).ext E1654).other W1665 ne1662).other W1667 ne1662).other W1669 ne1662).other W1671 ne1662).other W1673 ne1662).other W1675 ne1662).other W1677 ne1662).other W1679 ne1662).other W1681 ne1662).other W1683 ne1662).other W1685 ne1662).other W1687 ne1662).other W1689 ne1662).other W1691 ne1662).other W1693 ne1662).other W1695 ne1662).keep KL_j799 nin0)
                      refine own_S4 X_j799 hx hZ e_j799 c1724 N_j799 n0_1324 (D at_799) rfl (own_p1 (D at_801)) (own_p2 (D at_802)) (D at_804) (i := 0) rfl ⟨by decide, by decide⟩ rfl (y := 34) rfl fun T1725 h1725 X1725 e1725 W1725 V1725 N1726 => ?_
                      refine own_S4 X1725 hx hZ e1725 V1725 N1726 n0_1324 (D at_805) rfl (own_p1 (D at_807)) (own_p2 (D at_808)) (D at_810) (i := 1) rfl ⟨by decide, by decide⟩ rfl (y := 92) rfl fun T1727 h1727 X1727 e1727 W1727 V1727 N1728 => ?_
                      refine own_S4 X1727 hx hZ e1727 V1727 N1728 n0_1324 (D at_811) rfl (own_p1 (D at_813)) (own_p2 (D at_814)) (D at_816) (i := 2) rfl ⟨by decide, by decide⟩ rfl (y := 117) rfl fun T1729 h1729 X1729 e1729 W1729 V1729 N1730 => ?_
                      refine own_step (g' := (mkF m 830 (own_lf kd ja jb jc je fl b1322 (.val (.ref b1614)) (.val (.ref b1654)) (.val (.ref b1654)) (.val (.int uv))) [(.int ((XT.ushr uv (12 : Int32)) &&& (15 : Int32))), (.ref b1654), (.int 3), (.ref b1322)])) (fun _ q => XS.aload X1729.here hx rfl (D at_817) rfl rfl (XS.iconst X1729.here hx rfl (D at_819) (XS.aload X1729.here hx rfl (D at_820) rfl rfl (XS.iload X1729.here hx rfl (D at_822) rfl (XS.bipush X1729.here hx rfl (D at_824) (XT.iushr X1729.here hx rfl (D at_826) rfl (XS.bipush X1729.here hx rfl (D at_827) (XS.iand X1729.here hx rfl (D at_829) rfl q)))))))) ?_
                      have c1731 := ((((V1695.keep KL_j799 nin0).other W1725 (Ne.symm ne1662)).other W1727 (Ne.symm ne1662)).other W1729 (Ne.symm ne1662))
                      refine own_step (g' := (mkF m 831 (own_lf kd ja jb jc je fl b1322 (.val (.ref b1614)) (.val (.ref b1654)) (.val (.ref b1654)) (.val (.int uv))) [(.int (own_hx1 true (XT.ushr uv (12 : Int32)))), (.int 3), (.ref b1322)])) (fun _ q => own_ldC X1729 hx hZ e1729 c1731 (j := ((XT.ushr uv (12 : Int32)) &&& (15 : Int32))) ⟨(own_idx _ 15 (by decide)).1, (own_idx _ 15 (by decide)).2.1⟩ (v := (.int (own_hx1 true (XT.ushr uv (12 : Int32))))) (own_mapD (cs := own_hL true) (Nat.lt_succ_of_le (own_idx _ 15 (by decide)).2.2)) (g := (mkF m 830 (own_lf kd ja jb jc je fl b1322 (.val (.ref b1614)) (.val (.ref b1654)) (.val (.ref b1654)) (.val (.int uv))) [(.int ((XT.ushr uv (12 : Int32)) &&& (15 : Int32))), (.ref b1654), (.int 3), (.ref b1322)])) rfl rfl (D at_830) _ q) ?_
                      refine own_stCn X1729 hx hZ e1729 V1729 N1730 n0_1324 (j := (3 : Int32)) (i := 3) rfl ⟨by decide, by decide⟩ rfl (y := (own_hx1 true (XT.ushr uv (12 : Int32)))) (own_n16 (own_hvx true _).2) rfl rfl (D at_831) fun T1732 h1732 X1732 e1732 W1732 V1732 N1733 => ?_
                      refine own_step (g' := (mkF m 845 (own_lf kd ja jb jc je fl b1322 (.val (.ref b1614)) (.val (.ref b1654)) (.val (.ref b1654)) (.val (.int uv))) [(.int ((XT.ushr uv (8 : Int32)) &&& (15 : Int32))), (.ref b1654), (.int 4), (.ref b1322)])) (fun _ q => XS.aload X1732.here hx rfl (D at_832) rfl rfl (XS.iconst X1732.here hx rfl (D at_834) (XS.aload X1732.here hx rfl (D at_835) rfl rfl (XS.iload X1732.here hx rfl (D at_837) rfl (XS.bipush X1732.here hx rfl (D at_839) (XT.iushr X1732.here hx rfl (D at_841) rfl (XS.bipush X1732.here hx rfl (D at_842) (XS.iand X1732.here hx rfl (D at_844) rfl q)))))))) ?_
                      have c1734 := (c1731.other W1732 (Ne.symm ne1662))
                      refine own_step (g' := (mkF m 846 (own_lf kd ja jb jc je fl b1322 (.val (.ref b1614)) (.val (.ref b1654)) (.val (.ref b1654)) (.val (.int uv))) [(.int (own_hx1 true (XT.ushr uv (8 : Int32)))), (.int 4), (.ref b1322)])) (fun _ q => own_ldC X1732 hx hZ e1732 c1734 (j := ((XT.ushr uv (8 : Int32)) &&& (15 : Int32))) ⟨(own_idx _ 15 (by decide)).1, (own_idx _ 15 (by decide)).2.1⟩ (v := (.int (own_hx1 true (XT.ushr uv (8 : Int32))))) (own_mapD (cs := own_hL true) (Nat.lt_succ_of_le (own_idx _ 15 (by decide)).2.2)) (g := (mkF m 845 (own_lf kd ja jb jc je fl b1322 (.val (.ref b1614)) (.val (.ref b1654)) (.val (.ref b1654)) (.val (.int uv))) [(.int ((XT.ushr uv (8 : Int32)) &&& (15 : Int32))), (.ref b1654), (.int 4), (.ref b1322)])) rfl rfl (D at_845) _ q) ?_
                      refine own_stCn X1732 hx hZ e1732 V1732 N1733 n0_1324 (j := (4 : Int32)) (i := 4) rfl ⟨by decide, by decide⟩ rfl (y := (own_hx1 true (XT.ushr uv (8 : Int32)))) (own_n16 (own_hvx true _).2) rfl rfl (D at_846) fun T1735 h1735 X1735 e1735 W1735 V1735 N1736 => ?_
                      refine own_step (g' := (mkF m 859 (own_lf kd ja jb jc je fl b1322 (.val (.ref b1614)) (.val (.ref b1654)) (.val (.ref b1654)) (.val (.int uv))) [(.int ((XT.ushr uv (4 : Int32)) &&& (15 : Int32))), (.ref b1654), (.int 5), (.ref b1322)])) (fun _ q => XS.aload X1735.here hx rfl (D at_847) rfl rfl (XS.iconst X1735.here hx rfl (D at_849) (XS.aload X1735.here hx rfl (D at_850) rfl rfl (XS.iload X1735.here hx rfl (D at_852) rfl (XS.iconst X1735.here hx rfl (D at_854) (XT.iushr X1735.here hx rfl (D at_855) rfl (XS.bipush X1735.here hx rfl (D at_856) (XS.iand X1735.here hx rfl (D at_858) rfl q)))))))) ?_
                      have c1737 := (c1734.other W1735 (Ne.symm ne1662))
                      refine own_step (g' := (mkF m 860 (own_lf kd ja jb jc je fl b1322 (.val (.ref b1614)) (.val (.ref b1654)) (.val (.ref b1654)) (.val (.int uv))) [(.int (own_hx1 true (XT.ushr uv (4 : Int32)))), (.int 5), (.ref b1322)])) (fun _ q => own_ldC X1735 hx hZ e1735 c1737 (j := ((XT.ushr uv (4 : Int32)) &&& (15 : Int32))) ⟨(own_idx _ 15 (by decide)).1, (own_idx _ 15 (by decide)).2.1⟩ (v := (.int (own_hx1 true (XT.ushr uv (4 : Int32))))) (own_mapD (cs := own_hL true) (Nat.lt_succ_of_le (own_idx _ 15 (by decide)).2.2)) (g := (mkF m 859 (own_lf kd ja jb jc je fl b1322 (.val (.ref b1614)) (.val (.ref b1654)) (.val (.ref b1654)) (.val (.int uv))) [(.int ((XT.ushr uv (4 : Int32)) &&& (15 : Int32))), (.ref b1654), (.int 5), (.ref b1322)])) rfl rfl (D at_859) _ q) ?_
                      refine own_stCn X1735 hx hZ e1735 V1735 N1736 n0_1324 (j := (5 : Int32)) (i := 5) rfl ⟨by decide, by decide⟩ rfl (y := (own_hx1 true (XT.ushr uv (4 : Int32)))) (own_n16 (own_hvx true _).2) rfl rfl (D at_860) fun T1738 h1738 X1738 e1738 W1738 V1738 N1739 => ?_
                      refine own_step (g' := (mkF m 872 (own_lf kd ja jb jc je fl b1322 (.val (.ref b1614)) (.val (.ref b1654)) (.val (.ref b1654)) (.val (.int uv))) [(.int (uv &&& (15 : Int32))), (.ref b1654), (.int 6), (.ref b1322)])) (fun _ q => XS.aload X1738.here hx rfl (D at_861) rfl rfl (XS.bipush X1738.here hx rfl (D at_863) (XS.aload X1738.here hx rfl (D at_865) rfl rfl (XS.iload X1738.here hx rfl (D at_867) rfl (XS.bipush X1738.here hx rfl (D at_869) (XS.iand X1738.here hx rfl (D at_871) rfl q)))))) ?_
                      have c1740 := (c1737.other W1738 (Ne.symm ne1662))
                      refine own_step (g' := (mkF m 873 (own_lf kd ja jb jc je fl b1322 (.val (.ref b1614)) (.val (.ref b1654)) (.val (.ref b1654)) (.val (.int uv))) [(.int (own_hx1 true uv)), (.int 6), (.ref b1322)])) (fun _ q => own_ldC X1738 hx hZ e1738 c1740 (j := (uv &&& (15 : Int32))) ⟨(own_idx _ 15 (by decide)).1, (own_idx _ 15 (by decide)).2.1⟩ (v := (.int (own_hx1 true uv))) (own_mapD (cs := own_hL true) (Nat.lt_succ_of_le (own_idx _ 15 (by decide)).2.2)) (g := (mkF m 872 (own_lf kd ja jb jc je fl b1322 (.val (.ref b1614)) (.val (.ref b1654)) (.val (.ref b1654)) (.val (.int uv))) [(.int (uv &&& (15 : Int32))), (.ref b1654), (.int 6), (.ref b1322)])) rfl rfl (D at_872) _ q) ?_
                      refine own_stCn X1738 hx hZ e1738 V1738 N1739 n0_1324 (j := (6 : Int32)) (i := 6) rfl ⟨by decide, by decide⟩ rfl (y := (own_hx1 true uv)) (own_n16 (own_hvx true _).2) rfl rfl (D at_873) fun T1741 h1741 X1741 e1741 W1741 V1741 N1742 => ?_
                      refine own_S4 X1741 hx hZ e1741 V1741 N1742 n0_1324 (D at_874) rfl (own_p2 (D at_876)) (own_p2 (D at_878)) (D at_880) (i := 7) rfl ⟨by decide, by decide⟩ rfl (y := 34) rfl fun T1743 h1743 X1743 e1743 W1743 V1743 N1744 => ?_
                      refine own_step (g' := (mkF m 947 (own_lf kd ja jb jc je fl b1322 (.val (.ref b1614)) (.val (.ref b1654)) (.val (.ref b1654)) (.val (.int uv))) [])) (fun _ q => XS.goto X1743.here hx rfl (pc0 := 881) (pc' := 947) rfl (D at_881) (by decide) (by decide) q) ?_
                      have c1745 := ((((((((((((((((((((((((((c1659.ext E1654).wr W1665 (Or.inr sz0_1660)).wr W1667 (Or.inr sz0_1660)).wr W1669 (Or.inr sz0_1660)).wr W1671 (Or.inr sz0_1660)).wr W1673 (Or.inr sz0_1660)).wr W1675 (Or.inr sz0_1660)).wr W1677 (Or.inr sz0_1660)).wr W1679 (Or.inr sz0_1660)).wr W1681 (Or.inr sz0_1660)).wr W1683 (Or.inr sz0_1660)).wr W1685 (Or.inr sz0_1660)).wr W1687 (Or.inr sz0_1660)).wr W1689 (Or.inr sz0_1660)).wr W1691 (Or.inr sz0_1660)).wr W1693 (Or.inr sz0_1660)).wr W1695 (Or.inr sz0_1660)).trans KL_j799 all0).wr W1725 (Or.inl (List.mem_of_getElem? (i := 0) rfl))).wr W1727 (Or.inl (List.mem_of_getElem? (i := 0) rfl))).wr W1729 (Or.inl (List.mem_of_getElem? (i := 0) rfl))).wr W1732 (Or.inl (List.mem_of_getElem? (i := 0) rfl))).wr W1735 (Or.inl (List.mem_of_getElem? (i := 0) rfl))).wr W1738 (Or.inl (List.mem_of_getElem? (i := 0) rfl))).wr W1741 (Or.inl (List.mem_of_getElem? (i := 0) rfl))).wr W1743 (Or.inl (List.mem_of_getElem? (i := 0) rfl)))
                      have kk1746 : own_KK [(34 : Int32), (92 : Int32), (117 : Int32), (own_hx1 true (XT.ushr uv (12 : Int32))), (own_hx1 true (XT.ushr uv (8 : Int32))), (own_hx1 true (XT.ushr uv (4 : Int32))), (own_hx1 true uv), (34 : Int32)] := own_k6 true huv
                      exact lp_j947 ([(34 : Int32), (92 : Int32), (117 : Int32), (own_hx1 true (XT.ushr uv (12 : Int32))), (own_hx1 true (XT.ushr uv (8 : Int32))), (own_hx1 true (XT.ushr uv (4 : Int32))), (own_hx1 true uv), (34 : Int32)]) (.val (.ref b1614)) (.val (.ref b1654)) (.val (.ref b1654)) (.val (.int uv)) T1743 h1743 _ (own_cs X1743 (by first | decide | (dsimp only; omega)) (by first | decide | (dsimp only; omega))) e1743 N1744 c1745 V1743 (kk1746.1) (kk1746.2) (rfl) (Or.inr ⟨_, rfl, rfl⟩) (Or.inr ⟨_, rfl, rfl⟩) (Or.inr ⟨_, rfl, rfl⟩) (Or.inr ⟨_, rfl, rfl⟩)
                    refine own_step (g' := (mkF m 778 (own_lf kd ja jb jc je fl b1322 (.val (.ref b1614)) (.val (.ref b1654)) (.val (.ref b1654)) (.val (.int (ja &&& (65535 : Int32))))) [(.int (ja &&& (65535 : Int32)))])) (fun _ q => XS.iload X1695.here hx rfl (D at_776) rfl q) ?_
                    by_cases hc1747 : (ja &&& (65535 : Int32)) = 0
                    · refine own_step (g' := (mkF m 799 (own_lf kd ja jb jc je fl b1322 (.val (.ref b1614)) (.val (.ref b1654)) (.val (.ref b1654)) (.val (.int (65 : Int32)))) [])) (fun _ q => XS.ifYes X1695.here hx rfl (pc0 := 778) (pc' := 795) rfl (D at_778) rfl (XT.i0_eq_t hc1747) (by decide) (by decide) (XS.bipush X1695.here hx rfl (D at_795) (XS.istore X1695.here hx rfl (D at_797) rfl (l' := (own_lf kd ja jb jc je fl b1322 (.val (.ref b1614)) (.val (.ref b1654)) (.val (.ref b1654)) (.val (.int (65 : Int32))))) rfl q))) ?_
                      exact lp_j799 ((65 : Int32)) T1695 h1695 _ X1695 e1695 N1696 (Keep.refl h1695 [])  (⟨⟨by decide, by decide⟩, by decide, by decide⟩)
                    · refine own_step (g' := (mkF m 785 (own_lf kd ja jb jc je fl b1322 (.val (.ref b1614)) (.val (.ref b1654)) (.val (.ref b1654)) (.val (.int (ja &&& (65535 : Int32))))) [(.int 55296), (.int (ja &&& (65535 : Int32)))])) (fun _ q => XS.ifNo X1695.here hx rfl (D at_778) rfl (XT.i0_eq_f hc1747) (XS.iload X1695.here hx rfl (D at_781) rfl (X1695.ldcInt hx hown (mvT hZ (w156 hw)) (g := (mkF m 783 (own_lf kd ja jb jc je fl b1322 (.val (.ref b1614)) (.val (.ref b1654)) (.val (.ref b1654)) (.val (.int (ja &&& (65535 : Int32))))) [(.int (ja &&& (65535 : Int32)))])) rfl (D at_783) _ q))) ?_
                      by_cases hc1748 : (ja &&& (65535 : Int32)) < (55296 : Int32)
                      · refine own_step (g' := (mkF m 799 (own_lf kd ja jb jc je fl b1322 (.val (.ref b1614)) (.val (.ref b1654)) (.val (.ref b1654)) (.val (.int (ja &&& (65535 : Int32))))) [])) (fun _ q => XS.icmpYes X1695.here hx rfl (pc0 := 785) (pc' := 799) rfl (D at_785) rfl (XT.ii_lt_t hc1748) (by decide) (by decide) q) ?_
                        exact lp_j799 ((ja &&& (65535 : Int32))) T1695 h1695 _ X1695 e1695 N1696 (Keep.refl h1695 [])  (⟨own_m16 ja, hc1747, (fun q => q.1 hc1748)⟩)
                      · refine own_step (g' := (mkF m 792 (own_lf kd ja jb jc je fl b1322 (.val (.ref b1614)) (.val (.ref b1654)) (.val (.ref b1654)) (.val (.int (ja &&& (65535 : Int32))))) [(.int 57343), (.int (ja &&& (65535 : Int32)))])) (fun _ q => XS.icmpNo X1695.here hx rfl (D at_785) rfl (XT.ii_lt_f hc1748) (XS.iload X1695.here hx rfl (D at_788) rfl (X1695.ldcInt hx hown (mvT hZ (w192 hw)) (g := (mkF m 790 (own_lf kd ja jb jc je fl b1322 (.val (.ref b1614)) (.val (.ref b1654)) (.val (.ref b1654)) (.val (.int (ja &&& (65535 : Int32))))) [(.int (ja &&& (65535 : Int32)))])) rfl (D at_790) _ q))) ?_
                        by_cases hc1749 : (57343 : Int32) < (ja &&& (65535 : Int32))
                        · refine own_step (g' := (mkF m 799 (own_lf kd ja jb jc je fl b1322 (.val (.ref b1614)) (.val (.ref b1654)) (.val (.ref b1654)) (.val (.int (ja &&& (65535 : Int32))))) [])) (fun _ q => XS.icmpYes X1695.here hx rfl (pc0 := 792) (pc' := 799) rfl (D at_792) rfl (XT.ii_gt_t hc1749) (by decide) (by decide) q) ?_
                          exact lp_j799 ((ja &&& (65535 : Int32))) T1695 h1695 _ X1695 e1695 N1696 (Keep.refl h1695 [])  (⟨own_m16 ja, hc1747, (own_ns57 hc1749)⟩)
                        · refine own_step (g' := (mkF m 799 (own_lf kd ja jb jc je fl b1322 (.val (.ref b1614)) (.val (.ref b1654)) (.val (.ref b1654)) (.val (.int (65 : Int32)))) [])) (fun _ q => XS.icmpNo X1695.here hx rfl (D at_792) rfl (XT.ii_gt_f hc1749) (XS.bipush X1695.here hx rfl (D at_795) (XS.istore X1695.here hx rfl (D at_797) rfl (l' := (own_lf kd ja jb jc je fl b1322 (.val (.ref b1614)) (.val (.ref b1654)) (.val (.ref b1654)) (.val (.int (65 : Int32))))) rfl q))) ?_
                          exact lp_j799 ((65 : Int32)) T1695 h1695 _ X1695 e1695 N1696 (Keep.refl h1695 [])  (⟨⟨by decide, by decide⟩, by decide, by decide⟩)
                · refine own_step (g' := (mkF m 897 (own_lf kd ja jb jc je fl b1322 .unset .unset .unset .unset) [(.int ((49 : Int32) + ((ja &&& (2147483647 : Int32)) % (9 : Int32)))), (.int 1), (.ref b1322)])) (fun _ q => XS.icmpYes X1343.here hx rfl (pc0 := 561) (pc' := 884) rfl (D at_561) rfl (XT.ii_ne_t hc1613) (by decide) (by decide) (XS.aload X1343.here hx rfl (D at_884) rfl rfl (XS.iconst X1343.here hx rfl (D at_886) (XS.bipush X1343.here hx rfl (D at_887) (XS.iloadN X1343.here hx rfl (D at_889) rfl (X1343.ldcInt hx hown (mvT hZ (w193 hw)) (g := (mkF m 890 (own_lf kd ja jb jc je fl b1322 .unset .unset .unset .unset) [(.int ja), (.int 49), (.int 1), (.ref b1322)])) rfl (D at_890) _ (XS.iand X1343.here hx rfl (D at_892) rfl (XS.bipush X1343.here hx rfl (D at_893) (iremM X1343 hx rfl (D at_895) rfl (by decide) (XS.iadd X1343.here hx rfl (D at_896) rfl q)))))))))) ?_
                  refine own_step (g' := (mkF m 898 (own_lf kd ja jb jc je fl b1322 .unset .unset .unset .unset) [(.int (((49 : Int32) + ((ja &&& (2147483647 : Int32)) % (9 : Int32))).toUInt32.toUInt16.toUInt32.toInt32)), (.int 1), (.ref b1322)])) (fun _ q => XT.i2c X1343.here hx rfl (D at_897) rfl q) ?_
                  refine own_stCn X1343 hx hZ e1343 V1343 N1344 n0_1324 (j := (1 : Int32)) (i := 1) rfl ⟨by decide, by decide⟩ rfl (y := (own_d9v ja)) (own_nic (own_dg16 (own_d9d ja).1)) rfl rfl (D at_898) fun T1750 h1750 X1750 e1750 W1750 V1750 N1751 => ?_
                  refine own_step (g' := (mkF m 903 (own_lf kd ja jb jc je fl b1322 .unset .unset .unset .unset) [(.int jb), (.int 2), (.ref b1322)])) (fun _ q => XS.aload X1750.here hx rfl (D at_899) rfl rfl (XS.iconst X1750.here hx rfl (D at_901) (XS.iloadN X1750.here hx rfl (D at_902) rfl q))) ?_
                  have c1752 := (Nat.le_trans (Nat.le_trans (Nat.le_trans c1338 K1339.1) (Keep.of_wr W1343).1) (Keep.of_wr W1750).1)
                  refine own_callS X1750 hx hZ hown (w194 hw) (w195 hw) (w3 hw) (w196 hw) (by decide) (own_bO (W := 2) (own_ldig l Z a0 hw [] jb h1750 n0 c1752 ) hZ (w196 hw) (w3 hw) rfl rfl) e1750  (by first | decide | (show _ ≤ (40 : Nat); first | omega | (dsimp only; omega))) (by first | decide | (show _ ≤ (6400 : Nat); first | omega | (dsimp only; omega))) (argsL := [(.int jb)]) (rest := [(.int (2 : Int32)), (.ref b1322)]) rfl hml.symm (lenOf pd_15 rfl) rfl rfl (own_w0 rfl rfl) (D at_903) ?_
                  rintro _ T1753 L1753 X1753 ⟨rfl, N1753q, e1753⟩
                  have N1754 := Fr.app N1751 N1753q
                  refine own_stCn X1753 hx hZ e1753 V1750 N1754 n0_1324 (j := (2 : Int32)) (i := 2) rfl ⟨by decide, by decide⟩ rfl (y := (own_dgv jb)) (own_n16 (own_dg16 (own_dgd jb))) rfl rfl (D at_906) fun T1755 h1755 X1755 e1755 W1755 V1755 N1756 => ?_
                  refine own_step (g' := (mkF m 911 (own_lf kd ja jb jc je fl b1322 .unset .unset .unset .unset) [(.int jc), (.int 3), (.ref b1322)])) (fun _ q => XS.aload X1755.here hx rfl (D at_907) rfl rfl (XS.iconst X1755.here hx rfl (D at_909) (XS.iloadN X1755.here hx rfl (D at_910) rfl q))) ?_
                  have c1757 := (Nat.le_trans c1752 (Keep.of_wr W1755).1)
                  refine own_callS X1755 hx hZ hown (w194 hw) (w195 hw) (w3 hw) (w196 hw) (by decide) (own_bO (W := 2) (own_ldig l Z a0 hw [] jc h1755 n0 c1757 ) hZ (w196 hw) (w3 hw) rfl rfl) e1755  (by first | decide | (show _ ≤ (40 : Nat); first | omega | (dsimp only; omega))) (by first | decide | (show _ ≤ (6400 : Nat); first | omega | (dsimp only; omega))) (argsL := [(.int jc)]) (rest := [(.int (3 : Int32)), (.ref b1322)]) rfl hml.symm (lenOf pd_15 rfl) rfl rfl (own_w0 rfl rfl) (D at_911) ?_
                  rintro _ T1758 L1758 X1758 ⟨rfl, N1758q, e1758⟩
                  have N1759 := Fr.app N1756 N1758q
                  refine own_stCn X1758 hx hZ e1758 V1755 N1759 n0_1324 (j := (3 : Int32)) (i := 3) rfl ⟨by decide, by decide⟩ rfl (y := (own_dgv jc)) (own_n16 (own_dg16 (own_dgd jc))) rfl rfl (D at_914) fun T1760 h1760 X1760 e1760 W1760 V1760 N1761 => ?_
                  refine own_step (g' := (mkF m 920 (own_lf kd ja jb jc je fl b1322 .unset .unset .unset .unset) [(.int je), (.int 4), (.ref b1322)])) (fun _ q => XS.aload X1760.here hx rfl (D at_915) rfl rfl (XS.iconst X1760.here hx rfl (D at_917) (XS.iload X1760.here hx rfl (D at_918) rfl q))) ?_
                  have c1762 := (Nat.le_trans c1757 (Keep.of_wr W1760).1)
                  refine own_callS X1760 hx hZ hown (w194 hw) (w195 hw) (w3 hw) (w196 hw) (by decide) (own_bO (W := 2) (own_ldig l Z a0 hw [] je h1760 n0 c1762 ) hZ (w196 hw) (w3 hw) rfl rfl) e1760  (by first | decide | (show _ ≤ (40 : Nat); first | omega | (dsimp only; omega))) (by first | decide | (show _ ≤ (6400 : Nat); first | omega | (dsimp only; omega))) (argsL := [(.int je)]) (rest := [(.int (4 : Int32)), (.ref b1322)]) rfl hml.symm (lenOf pd_15 rfl) rfl rfl (own_w0 rfl rfl) (D at_920) ?_
                  rintro _ T1763 L1763 X1763 ⟨rfl, N1763q, e1763⟩
                  have N1764 := Fr.app N1761 N1763q
                  refine own_stCn X1763 hx hZ e1763 V1760 N1764 n0_1324 (j := (4 : Int32)) (i := 4) rfl ⟨by decide, by decide⟩ rfl (y := (own_dgv je)) (own_n16 (own_dg16 (own_dgd je))) rfl rfl (D at_923) fun T1765 h1765 X1765 e1765 W1765 V1765 N1766 => ?_
                  refine own_step (g' := (mkF m 931 (own_lf kd ja jb jc je fl b1322 .unset .unset .unset .unset) [(.int (XT.ushr ja (8 : Int32))), (.int 5), (.ref b1322)])) (fun _ q => XS.aload X1765.here hx rfl (D at_924) rfl rfl (XS.iconst X1765.here hx rfl (D at_926) (XS.iloadN X1765.here hx rfl (D at_927) rfl (XS.bipush X1765.here hx rfl (D at_928) (XT.iushr X1765.here hx rfl (D at_930) rfl q))))) ?_
                  have c1767 := (Nat.le_trans c1762 (Keep.of_wr W1765).1)
                  refine own_callS X1765 hx hZ hown (w194 hw) (w195 hw) (w3 hw) (w196 hw) (by decide) (own_bO (W := 2) (own_ldig l Z a0 hw [] (XT.ushr ja (8 : Int32)) h1765 n0 c1767 ) hZ (w196 hw) (w3 hw) rfl rfl) e1765  (by first | decide | (show _ ≤ (40 : Nat); first | omega | (dsimp only; omega))) (by first | decide | (show _ ≤ (6400 : Nat); first | omega | (dsimp only; omega))) (argsL := [(.int (XT.ushr ja (8 : Int32)))]) (rest := [(.int (5 : Int32)), (.ref b1322)]) rfl hml.symm (lenOf pd_15 rfl) rfl rfl (own_w0 rfl rfl) (D at_931) ?_
                  rintro _ T1768 L1768 X1768 ⟨rfl, N1768q, e1768⟩
                  have N1769 := Fr.app N1766 N1768q
                  refine own_stCn X1768 hx hZ e1768 V1765 N1769 n0_1324 (j := (5 : Int32)) (i := 5) rfl ⟨by decide, by decide⟩ rfl (y := (own_dgv (XT.ushr ja (8 : Int32)))) (own_n16 (own_dg16 (own_dgd (XT.ushr ja (8 : Int32))))) rfl rfl (D at_934) fun T1770 h1770 X1770 e1770 W1770 V1770 N1771 => ?_
                  refine own_step (g' := (mkF m 943 (own_lf kd ja jb jc je fl b1322 .unset .unset .unset .unset) [(.int (XT.ushr jb (8 : Int32))), (.int 6), (.ref b1322)])) (fun _ q => XS.aload X1770.here hx rfl (D at_935) rfl rfl (XS.bipush X1770.here hx rfl (D at_937) (XS.iloadN X1770.here hx rfl (D at_939) rfl (XS.bipush X1770.here hx rfl (D at_940) (XT.iushr X1770.here hx rfl (D at_942) rfl q))))) ?_
                  have c1772 := (Nat.le_trans c1767 (Keep.of_wr W1770).1)
                  refine own_callS X1770 hx hZ hown (w194 hw) (w195 hw) (w3 hw) (w196 hw) (by decide) (own_bO (W := 2) (own_ldig l Z a0 hw [] (XT.ushr jb (8 : Int32)) h1770 n0 c1772 ) hZ (w196 hw) (w3 hw) rfl rfl) e1770  (by first | decide | (show _ ≤ (40 : Nat); first | omega | (dsimp only; omega))) (by first | decide | (show _ ≤ (6400 : Nat); first | omega | (dsimp only; omega))) (argsL := [(.int (XT.ushr jb (8 : Int32)))]) (rest := [(.int (6 : Int32)), (.ref b1322)]) rfl hml.symm (lenOf pd_15 rfl) rfl rfl (own_w0 rfl rfl) (D at_943) ?_
                  rintro _ T1773 L1773 X1773 ⟨rfl, N1773q, e1773⟩
                  have N1774 := Fr.app N1771 N1773q
                  refine own_stCn X1773 hx hZ e1773 V1770 N1774 n0_1324 (j := (6 : Int32)) (i := 6) rfl ⟨by decide, by decide⟩ rfl (y := (own_dgv (XT.ushr jb (8 : Int32)))) (own_n16 (own_dg16 (own_dgd (XT.ushr jb (8 : Int32))))) rfl rfl (D at_946) fun T1775 h1775 X1775 e1775 W1775 V1775 N1776 => ?_
                  have c1777 := (((((((Keep.refl h1343 [b1322]).wr W1750 (Or.inl (List.mem_of_getElem? (i := 0) rfl))).wr W1755 (Or.inl (List.mem_of_getElem? (i := 0) rfl))).wr W1760 (Or.inl (List.mem_of_getElem? (i := 0) rfl))).wr W1765 (Or.inl (List.mem_of_getElem? (i := 0) rfl))).wr W1770 (Or.inl (List.mem_of_getElem? (i := 0) rfl))).wr W1775 (Or.inl (List.mem_of_getElem? (i := 0) rfl)))
                  have kk1778 : own_KK [(own_wsv (XT.ushr kd (3 : Int32))), (own_d9v ja), (own_dgv jb), (own_dgv jc), (own_dgv je), (own_dgv (XT.ushr ja (8 : Int32))), (own_dgv (XT.ushr jb (8 : Int32))), (own_wsv (XT.ushr kd (5 : Int32)))] := own_k7 (own_wsw (XT.ushr kd (3 : Int32))) (own_wsw (XT.ushr kd (5 : Int32))) (own_d9d ja) (own_dgd jb) (own_dgd jc) (own_dgd je) (own_dgd (XT.ushr ja (8 : Int32))) (own_dgd (XT.ushr jb (8 : Int32)))
                  exact lp_j947 ([(own_wsv (XT.ushr kd (3 : Int32))), (own_d9v ja), (own_dgv jb), (own_dgv jc), (own_dgv je), (own_dgv (XT.ushr ja (8 : Int32))), (own_dgv (XT.ushr jb (8 : Int32))), (own_wsv (XT.ushr kd (5 : Int32)))]) (.unset) (.unset) (.unset) (.unset) T1775 h1775 _ (own_cs X1775 (by first | decide | (dsimp only; omega)) (by first | decide | (dsimp only; omega))) e1775 N1776 c1777 V1775 (kk1778.1) (kk1778.2) (rfl) (Or.inl rfl) (Or.inl rfl) (Or.inl rfl) (Or.inl rfl)
  refine own_step (g' := (mkF m 12 #[sI kd, sI ja, sI jb, sI jc, sI je, sI (kd &&& (7 : Int32)), .unset, .unset, .unset, .unset, .unset, .unset, .unset] [(.int ((XT.ushr kd (7 : Int32)) &&& (1 : Int32)))])) (fun _ q => XS.iloadN X0.here hx rfl (D at_6) rfl (XS.bipush X0.here hx rfl (D at_7) (XT.iushr X0.here hx rfl (D at_9) rfl (XS.iconst X0.here hx rfl (D at_10) (XS.iand X0.here hx rfl (D at_11) rfl q))))) ?_
  by_cases hc1779 : ((XT.ushr kd (7 : Int32)) &&& (1 : Int32)) = 0
  · refine own_step (g' := (mkF m 20 #[sI kd, sI ja, sI jb, sI jc, sI je, sI (kd &&& (7 : Int32)), .unset, .unset, .unset, .unset, .unset, .unset, .unset] [(.int 0)])) (fun _ q => XS.ifYes X0.here hx rfl (pc0 := 12) (pc' := 19) rfl (D at_12) rfl (XT.i0_eq_t hc1779) (by decide) (by decide) (XS.iconst X0.here hx rfl (D at_19) q)) ?_
    exact lp_j20 ((0 : Int32)) s₁ h0 _ X0 e0 N0 (Keep.refl h0 [])  
  · refine own_step (g' := (mkF m 20 #[sI kd, sI ja, sI jb, sI jc, sI je, sI (kd &&& (7 : Int32)), .unset, .unset, .unset, .unset, .unset, .unset, .unset] [(.int 1)])) (fun _ q => XS.ifNo X0.here hx rfl (D at_12) rfl (XT.i0_eq_f hc1779) (XS.iconst X0.here hx rfl (D at_15) (XS.goto X0.here hx rfl (pc0 := 16) (pc' := 20) rfl (D at_16) (by decide) (by decide) q))) ?_
    exact lp_j20 ((1 : Int32)) s₁ h0 _ X0 e0 N0 (Keep.refl h0 [])  
set_option maxRecDepth 65536 in
set_option maxHeartbeats 40000000 in
theorem comes_1 {Post : Tables → Env → Array Value → State → Outcome → State → Prop} (hpost : ∀ tb e args s v u, (limb_1_1.after args s (.returned v) u = true ∧ limb_1_2.after args s (.returned v) u = true ∧ True) → ReturnedEndW s (.returned v) u (Jvm.fieldLocs frame_1_writes args s ++ Jvm.arrayLocs frame_1_arrays args s ++ Jvm.staticLocs frame_1_statics s) 40 6400 → Post tb e args s (.returned v) u) :
    ArmFor flags0 classFile x code maxLocals ret World_1 tables_1 room_1 Calls_1 rest_1 Pre_1 Post := by
  intro l hfl _ _ p e ha hc hk s m args below hf hA hF happ hP
  obtain ⟨hcalls, hrest, hpre⟩ := hP
  obtain ⟨-, -, -, hnamed, -, -, -, hat⟩ := (Spec.applies_iff hf).mp happ
  obtain ⟨hg, hn⟩ := and_e (Cond.before_iff.mp (show (Jvm.Cond.and given_1 narrow_1).before args s = true from hpre))
  obtain ⟨hcnt, r0⟩ := and_e hg
  obtain ⟨q0, r1⟩ := and_e r0
  obtain ⟨q1, r2⟩ := and_e r1
  obtain ⟨q2, r3⟩ := and_e r2
  obtain ⟨q3, r4⟩ := and_e r3
  have q4 := r4
  obtain ⟨u0, u1, u2, u3, u4, rfl⟩ : ∃ u0 u1 u2 u3 u4 : Value, args = #[u0, u1, u2, u3, u4] := by
    have hs : args.size = 5 := by simpa [Cond.value, given_1] using hcnt
    obtain ⟨L⟩ := args
    match L, hs with
    | [u0, u1, u2, u3, u4], _ => exact ⟨u0, u1, u2, u3, u4, rfl⟩
  have hw := fun d (hd : d ∈ tables_1) => atoms_spec (ws := Jvm.Cond.code x code maxLocals ret :: tables_1) hat d (List.mem_cons_of_mem _ hd)
  obtain ⟨hsets, hown0⟩ := atoms_of _ (rest_1_c_eq ▸ (show rest_1_c.before _ s = true from hrest))
  have n3 := not_v (Cond.before_iff.mp (hsets _ (List.mem_of_getElem? (i := 2) rfl)))
  obtain ⟨G1, eG1⟩ := is_v (Cond.before_iff.mp (hsets _ (List.mem_of_getElem? (i := 1) rfl)))
  have S8 : Sta s s.heap "java/lang/String" "COMPACT_STRINGS" "Z" (.int G1) := Sta.start eG1 (Or.inl (hsets _ (List.mem_of_getElem? (i := 0) rfl)))
  obtain ⟨G3, eG3, rG3⟩ := isR_v (Cond.before_iff.mp (hsets _ (List.mem_of_getElem? (i := 8) rfl)))
  have S12 : Sta s s.heap "jdk/internal/util/Preconditions" "SIOOBE_FORMATTER" "Ljava/util/function/BiFunction;" G3 := Sta.start eG3 (Or.inl (hsets _ (List.mem_of_getElem? (i := 7) rfl)))
  have c13 : ¬ (G1 = (0 : Int32)) := gotF (Cond.eq_ints eG1 (Term.int_eval (0))) n3
  have U1 : Sta s s.heap "java/lang/StringUTF16" "$assertionsDisabled" "Z" (.int (1 : Int32)) := Sta.start (eqv_i (Term.int_eval (1)) (Cond.before_iff.mp (hsets _ (List.mem_of_getElem? (i := 12) rfl)))) (Or.inl (hsets _ (List.mem_of_getElem? (i := 11) rfl)))
  have U2 : Sta s s.heap "java/lang/StringUTF16" "HI_BYTE_SHIFT" "I" (.int (0 : Int32)) := Sta.start (eqv_i (Term.int_eval (0)) (Cond.before_iff.mp (hsets _ (List.mem_of_getElem? (i := 15) rfl)))) (Or.inl (hsets _ (List.mem_of_getElem? (i := 14) rfl)))
  have U3 : Sta s s.heap "java/lang/StringUTF16" "LO_BYTE_SHIFT" "I" (.int (8 : Int32)) := Sta.start (eqv_i (Term.int_eval (8)) (Cond.before_iff.mp (hsets _ (List.mem_of_getElem? (i := 18) rfl)))) (Or.inl (hsets _ (List.mem_of_getElem? (i := 17) rfl)))
  have CHs := CHv.start (EL := own_EL) (Z := s) (own_hEL hw) (fun p hp => hcalls.1 p hp) (by exact (hsets _ (List.mem_of_getElem? (i := 2) rfl))) (w27 hw) (w10 hw)
  obtain ⟨i0, ei0⟩ := is_v q0
  obtain rfl : u0 = (.int i0) := Option.some.inj ei0
  obtain ⟨i1, ei1⟩ := is_v q1
  obtain rfl : u1 = (.int i1) := Option.some.inj ei1
  obtain ⟨i2, ei2⟩ := is_v q2
  obtain rfl : u2 = (.int i2) := Option.some.inj ei2
  obtain ⟨i3, ei3⟩ := is_v q3
  obtain rfl : u3 = (.int i3) := Option.some.inj ei3
  obtain ⟨i4, ei4⟩ := is_v q4
  obtain rfl : u4 = (.int i4) := Option.some.inj ei4
  obtain ⟨n, o, h1, h2, h3, _, L, rfl, ⟨rfl, N, -⟩, -, hq⟩ := own_law l s _ hw tables_1 G1 G3 i0 i1 i2 i3 i4 s.heap s.heap.size (Nat.le_refl _) S8 S12 c13 rG3 (Old.start s) U1 U2 U3 p e ha hc hk s m _ below hf ((Spec.applies_iff_loose hf).mp happ).1 ⟨rfl, State.Warmed39.refl s, rfl, CHs⟩ trivial
  refine ⟨n, _, h1, h2, h3, hpost _ _ _ _ _ _ ⟨Cond.after_iff.mpr rfl, Cond.after_iff.mpr (eq_i res_at (Term.int_eval (1)) rfl), trivial⟩ ⟨hq.1, hq.2.1, hq.2.2.1, (hq.2.2.2.sift fun y hy => Or.inr (N y hy)).mono (by decide) (by decide)⟩⟩
theorem main_1_1 : Claimed_1_1 := comes_1 fun _ _ _ _ _ _ h hF => ⟨h.1, hF⟩
theorem main_1_2 : Claimed_1_2 := comes_1 fun _ _ _ _ _ _ h hF => ⟨h.2.1, hF⟩
end Jvm.Pilot.@@N@@
namespace Jvm.Pilot.@@N@@
open Jvm Jvm.ClassFile Sem Op Lib Jvm.Free Jvm.Stand Jvm.Pilot.@@N@@.Jvm.D
/-! MADE BY PROGRAM (witnessworld.py) out of the Statement's table words and the real class files: 23 classes; the members and pool entries that the words name. The judged class is class 1, her method 4. -/
namespace start1
open Jvm.ClassFile
def u (s : String) : CpInfo := .utf8 (stringToUtf16 s)
/-- a pool by its gaps: so many unusable entries, then the entry; so many at the end -/
def gap : Nat → List CpInfo → List CpInfo
  | 0, r => r
  | n + 1, r => .unusable :: gap n r
def poolList (es : List (Nat × CpInfo)) (last : Nat) : List CpInfo := es.foldr (fun e r => gap e.1 (e.2 :: r)) (gap last [])
def pool (es : List (Nat × CpInfo)) (last : Nat) : Array CpInfo := ⟨poolList es last⟩
def fileOf (pool : Array CpInfo) (this : Nat) (attrs : Array Attribute := #[]) (ms : Array MethodInfo := #[]) (fl : Nat := 33) (sup : Nat := 0) (ifs : Array Nat := #[]) (fds : Array FieldInfo := #[]) : ClassFile where
  minorVersion := 0
  majorVersion := 65
  constantPool := pool
  accessFlags := fl
  thisClass := this
  superClass := sup
  interfaces := ifs
  fields := fds
  methods := ms
  attributes := attrs
def plain (name : String) (sup : Option ClassId) : Class where
  name := name
  kind := .ordinary
  loader := none
  accessFlags := 33
  super := sup
  interfaces := #[]
  cf := none
  fields := #[]
  methods := #[]
  instanceTypes := #[]
  staticTypes := #[]
  resolved := #[]
  callSites := []
  init := .initialized
  statics := none
  mirror := none

def pool0 : Array CpInfo := pool [(5, u "<init>"), (0, u "()V"), (1, .class_ 10), (1, u "java/lang/Object")] 113

def k0c0 : Code := { maxStack := 0, maxLocals := 1, code := object_method_1_code, exceptionTable := #[], attributes := #[] }
def k0m0 : Method := { name := "<init>", desc := "()V", sig := { parameters := [], returnType := none }, accessFlags := 1, code := some k0c0 }
/-- java/lang/Object -/
def k0 : Class := { plain "java/lang/Object" none with
  accessFlags := 33
  interfaces := #[]
  cf := some (fileOf pool0 8 #[] #[{ accessFlags := 1, nameIndex := 5, descriptorIndex := 6, attributes := #[] }] 33 0 #[] #[])
  fields := #[]
  methods := #[k0m0]
  instanceTypes := #[]
  staticTypes := #[]
  resolved := Array.replicate 124 none
  statics := none }

def pool1 : Array CpInfo := pool [(2, .class_ 4), (1, u "java/lang/Object"), (0, u "<init>"), (0, u "()V"), (0, .integer 65535), (0, .integer 55296), (0, .integer 57343), (0, .integer 2147483647), (0, .methodref 12 13), (0, .class_ 14), (0, .nameAndType 15 16), (0, u "com/example/tote/tote/JsonTextCheckPinLaw"), (0, u "ws"), (0, u "(I)C"), (0, .methodref 12 18), (0, .nameAndType 19 16), (0, u "safe"), (0, .integer 56320), (0, .methodref 12 22), (0, .nameAndType 23 16), (0, u "digit"), (0, .class_ 25), (0, u "java/lang/String"), (0, .methodref 24 27), (0, .nameAndType 5 28), (0, u "([C)V"), (0, .methodref 30 31), (0, .class_ 32), (0, .nameAndType 33 34), (0, u "com/example/tote/tote/JsonText"), (0, u "check"), (0, u "(Ljava/lang/String;)V"), (3, u "law"), (0, u "(IIIII)Z")] 4

def k1m0 : Method := { name := "<init>", desc := "()V", sig := { parameters := [], returnType := none }, accessFlags := 2, code := none }
def k1c1 : Code := { maxStack := 4, maxLocals := 2, code := method_2_code, exceptionTable := #[], attributes := #[] }
def k1m1 : Method := { name := "ws", desc := "(I)C", sig := { parameters := [.int], returnType := some .char }, accessFlags := 10, code := some k1c1 }
def k1c2 : Code := { maxStack := 2, maxLocals := 2, code := method_3_code, exceptionTable := #[], attributes := #[] }
def k1m2 : Method := { name := "safe", desc := "(I)C", sig := { parameters := [.int], returnType := some .char }, accessFlags := 10, code := some k1c2 }
def k1c3 : Code := { maxStack := 3, maxLocals := 1, code := method_4_code, exceptionTable := #[], attributes := #[] }
def k1m3 : Method := { name := "digit", desc := "(I)C", sig := { parameters := [.int], returnType := some .char }, accessFlags := 10, code := some k1c3 }
def k1c4 : Code := { maxStack := 5, maxLocals := 13, code := code, exceptionTable := #[], attributes := #[] }
def k1m4 : Method := { name := "law", desc := "(IIIII)Z", sig := { parameters := [.int, .int, .int, .int, .int], returnType := some .boolean }, accessFlags := 9, code := some k1c4 }
/-- com/example/tote/tote/JsonTextCheckPinLaw -/
def k1 : Class := { plain "com/example/tote/tote/JsonTextCheckPinLaw" (some 0) with
  accessFlags := 49
  interfaces := #[]
  cf := some (fileOf pool1 12 #[] #[{ accessFlags := 2, nameIndex := 5, descriptorIndex := 6, attributes := #[] }, { accessFlags := 10, nameIndex := 15, descriptorIndex := 16, attributes := #[] }, { accessFlags := 10, nameIndex := 19, descriptorIndex := 16, attributes := #[] }, { accessFlags := 10, nameIndex := 23, descriptorIndex := 16, attributes := #[] }, { accessFlags := 9, nameIndex := 38, descriptorIndex := 39, attributes := #[] }] 49 2 #[] #[])
  fields := #[]
  methods := #[k1m0, k1m1, k1m2, k1m3, k1m4]
  instanceTypes := #[]
  staticTypes := #[]
  resolved := Array.replicate 44 none
  statics := none }

def pool2 : Array CpInfo := pool [(1, .class_ 2), (0, u "java/io/Serializable"), (0, .class_ 4), (0, u "java/lang/Object")] 2

/-- java/io/Serializable -/
def k2 : Class := { plain "java/io/Serializable" (some 0) with
  accessFlags := 1537
  interfaces := #[]
  cf := some (fileOf pool2 1 #[] #[] 1537 3 #[] #[])
  fields := #[]
  methods := #[]
  instanceTypes := #[]
  staticTypes := #[]
  resolved := Array.replicate 7 none
  statics := none }

def pool3 : Array CpInfo := pool [(1, .class_ 2), (0, u "java/lang/Comparable"), (0, .class_ 4), (0, u "java/lang/Object")] 7

/-- java/lang/Comparable -/
def k3 : Class := { plain "java/lang/Comparable" (some 0) with
  accessFlags := 1537
  interfaces := #[]
  cf := some (fileOf pool3 1 #[] #[] 1537 3 #[] #[])
  fields := #[]
  methods := #[]
  instanceTypes := #[]
  staticTypes := #[]
  resolved := Array.replicate 12 none
  statics := none }

def pool4 : Array CpInfo := pool [(2, .class_ 4), (1, u "java/lang/CharSequence"), (42, .class_ 48), (0, u "java/lang/CharSequence$1CodePointIterator"), (10, .class_ 60), (0, u "java/lang/CharSequence$1CharIterator"), (5, .class_ 67), (0, u "java/lang/Object")] 63

/-- java/lang/CharSequence -/
def k4 : Class := { plain "java/lang/CharSequence" (some 0) with
  accessFlags := 1537
  interfaces := #[]
  cf := some (fileOf pool4 2 #[.nestMembers #[47, 59]] #[] 1537 66 #[] #[])
  fields := #[]
  methods := #[]
  instanceTypes := #[]
  staticTypes := #[]
  resolved := Array.replicate 131 none
  statics := none }

def pool5 : Array CpInfo := pool [(1, .class_ 2), (0, u "java/lang/constant/Constable"), (0, .class_ 4), (0, u "java/lang/Object")] 6

/-- java/lang/constant/Constable -/
def k5 : Class := { plain "java/lang/constant/Constable" (some 0) with
  accessFlags := 1537
  interfaces := #[]
  cf := some (fileOf pool5 1 #[] #[] 1537 3 #[] #[])
  fields := #[]
  methods := #[]
  instanceTypes := #[]
  staticTypes := #[]
  resolved := Array.replicate 11 none
  statics := none }

def pool6 : Array CpInfo := pool [(1, .class_ 2), (0, u "java/lang/constant/ConstantDesc"), (0, .class_ 4), (0, u "java/lang/Object")] 32

/-- java/lang/constant/ConstantDesc -/
def k6 : Class := { plain "java/lang/constant/ConstantDesc" (some 0) with
  accessFlags := 1537
  interfaces := #[]
  cf := some (fileOf pool6 1 #[] #[] 1537 3 #[] #[])
  fields := #[]
  methods := #[]
  instanceTypes := #[]
  staticTypes := #[]
  resolved := Array.replicate 37 none
  statics := none }

def pool7 : Array CpInfo := pool [(1, .methodref 2 3), (0, .class_ 4), (0, .nameAndType 5 6), (0, u "java/lang/Object"), (0, u "<init>"), (0, u "()V"), (2, .fieldref 10 11), (0, .class_ 12), (0, .nameAndType 13 14), (0, u "java/lang/String"), (0, u "value"), (0, u "[B"), (0, .fieldref 10 16), (0, .nameAndType 17 18), (0, u "coder"), (0, u "B"), (2, u "hash"), (0, u "I"), (2, u "hashIsZero"), (0, u "Z"), (0, .methodref 10 28), (0, .nameAndType 5 29), (0, u "([CIILjava/lang/Void;)V"), (8, .fieldref 10 39), (0, .nameAndType 40 26), (0, u "COMPACT_STRINGS"), (1, .class_ 44), (1, u "java/lang/StringUTF16"), (0, u "compress"), (1, .methodref 42 48), (0, .nameAndType 49 50), (0, u "coderFromArrayLen"), (0, u "([BI)B"), (56, .class_ 109), (1, u "java/lang/StringLatin1"), (32, u "()Z"), (34, .methodref 42 178), (0, .nameAndType 45 179), (0, u "([CII)[B"), (154, u "()I"), (0, .methodref 10 336), (0, .nameAndType 17 337), (0, u "()B"), (25, u "([BI)C"), (12, u "([BI[BII)I"), (14, u "(II)V"), (35, u "(I)C"), (64, .methodref 10 493), (0, .nameAndType 494 142), (0, u "isLatin1"), (0, .methodref 107 496), (0, .nameAndType 497 363), (0, u "charAt"), (0, .methodref 42 496), (2, u "checkIndex"), (3, .methodref 10 506), (0, .nameAndType 507 334), (0, u "length"), (51, .class_ 561), (1, u "jdk/internal/util/ArraysSupport"), (0, u "mismatch"), (12, .class_ 576), (0, u "java/lang/CharSequence"), (22, u "CASE_INSENSITIVE_ORDER"), (0, u "Ljava/util/Comparator;"), (6, .methodref 559 608), (0, .nameAndType 562 376), (17, u "startsWith"), (0, u "(Ljava/lang/String;I)Z"), (5, .methodref 10 634), (0, .nameAndType 635 636), (0, u "indexOf"), (0, u "(II)I"), (0, .methodref 107 638), (0, .nameAndType 635 639), (0, u "([BIII)I"), (125, u "(I)I"), (244, u "([C)V"), (42, .fieldref 1054 1055), (0, .class_ 1056), (0, .nameAndType 1057 1058), (0, u "jdk/internal/util/Preconditions"), (0, u "SIOOBE_FORMATTER"), (0, u "Ljava/util/function/BiFunction;"), (0, .methodref 1054 1060), (0, .nameAndType 501 1061), (0, u "(IILjava/util/function/BiFunction;)I"), (39, u "serialPersistentFields"), (0, u "[Ljava/io/ObjectStreamField;"), (0, .class_ 1104), (0, u "java/lang/String$CaseInsensitiveComparator"), (1, .class_ 1107), (0, u "java/io/Serializable"), (0, .class_ 1109), (0, u "java/lang/Comparable"), (0, .class_ 1111), (0, u "java/lang/constant/Constable"), (0, .class_ 1113), (0, u "java/lang/constant/ConstantDesc"), (2, u "serialVersionUID"), (0, u "J"), (3, u "REPL"), (0, u "C"), (2, u "LATIN1"), (1, u "UTF16")] 323

def k7m0 : Method := { name := "<init>", desc := "()V", sig := { parameters := [], returnType := none }, accessFlags := 1, code := none }
def k7c1 : Code := { maxStack := 5, maxLocals := 2, code := jdk_42_method_3_code, exceptionTable := #[], attributes := #[] }
def k7m1 : Method := { name := "<init>", desc := "([C)V", sig := { parameters := [(.array .char)], returnType := none }, accessFlags := 1, code := some k7c1 }
def k7c2 : Code := { maxStack := 2, maxLocals := 1, code := jdk_42_method_54_code, exceptionTable := #[], attributes := #[] }
def k7m2 : Method := { name := "length", desc := "()I", sig := { parameters := [], returnType := some .int }, accessFlags := 1, code := some k7c2 }
def k7c3 : Code := { maxStack := 2, maxLocals := 2, code := jdk_42_method_56_code, exceptionTable := #[], attributes := #[] }
def k7m3 : Method := { name := "charAt", desc := "(I)C", sig := { parameters := [.int], returnType := some .char }, accessFlags := 1, code := some k7c3 }
def k7c4 : Code := { maxStack := 5, maxLocals := 8, code := jdk_42_method_75_code, exceptionTable := #[], attributes := #[] }
def k7m4 : Method := { name := "startsWith", desc := "(Ljava/lang/String;I)Z", sig := { parameters := [(.object "java/lang/String"), .int], returnType := some .boolean }, accessFlags := 1, code := some k7c4 }
def k7c5 : Code := { maxStack := 3, maxLocals := 2, code := jdk_42_method_79_code, exceptionTable := #[], attributes := #[] }
def k7m5 : Method := { name := "indexOf", desc := "(I)I", sig := { parameters := [.int], returnType := some .int }, accessFlags := 1, code := some k7c5 }
def k7c6 : Code := { maxStack := 4, maxLocals := 3, code := jdk_42_method_80_code, exceptionTable := #[], attributes := #[] }
def k7m6 : Method := { name := "indexOf", desc := "(II)I", sig := { parameters := [.int, .int], returnType := some .int }, accessFlags := 1, code := some k7c6 }
def k7c7 : Code := { maxStack := 4, maxLocals := 6, code := jdk_42_method_149_code, exceptionTable := #[], attributes := #[] }
def k7m7 : Method := { name := "<init>", desc := "([CIILjava/lang/Void;)V", sig := { parameters := [(.array .char), .int, .int, (.object "java/lang/Void")], returnType := none }, accessFlags := 2, code := some k7c7 }
def k7c8 : Code := { maxStack := 1, maxLocals := 1, code := jdk_42_method_152_code, exceptionTable := #[], attributes := #[] }
def k7m8 : Method := { name := "coder", desc := "()B", sig := { parameters := [], returnType := some .byte }, accessFlags := 0, code := some k7c8 }
def k7c9 : Code := { maxStack := 1, maxLocals := 1, code := jdk_42_method_154_code, exceptionTable := #[], attributes := #[] }
def k7m9 : Method := { name := "isLatin1", desc := "()Z", sig := { parameters := [], returnType := some .boolean }, accessFlags := 0, code := some k7c9 }
def k7c10 : Code := { maxStack := 3, maxLocals := 2, code := jdk_42_method_155_code, exceptionTable := #[], attributes := #[] }
def k7m10 : Method := { name := "checkIndex", desc := "(II)V", sig := { parameters := [.int, .int], returnType := none }, accessFlags := 8, code := some k7c10 }
/-- java/lang/String -/
def k7 : Class := { plain "java/lang/String" (some 0) with
  accessFlags := 49
  interfaces := #[2, 3, 4, 5, 6]
  cf := some (fileOf pool7 10 #[.nestMembers #[1103]] #[{ accessFlags := 1, nameIndex := 5, descriptorIndex := 6, attributes := #[] }, { accessFlags := 1, nameIndex := 5, descriptorIndex := 1010, attributes := #[] }, { accessFlags := 1, nameIndex := 507, descriptorIndex := 334, attributes := #[] }, { accessFlags := 1, nameIndex := 497, descriptorIndex := 427, attributes := #[] }, { accessFlags := 1, nameIndex := 626, descriptorIndex := 627, attributes := #[] }, { accessFlags := 1, nameIndex := 635, descriptorIndex := 765, attributes := #[] }, { accessFlags := 1, nameIndex := 635, descriptorIndex := 636, attributes := #[] }, { accessFlags := 2, nameIndex := 5, descriptorIndex := 29, attributes := #[] }, { accessFlags := 0, nameIndex := 17, descriptorIndex := 337, attributes := #[] }, { accessFlags := 0, nameIndex := 494, descriptorIndex := 142, attributes := #[] }, { accessFlags := 8, nameIndex := 501, descriptorIndex := 391, attributes := #[] }] 49 2 #[1106, 1108, 575, 1110, 1112] #[{ accessFlags := 18, nameIndex := 13, descriptorIndex := 14, attributes := #[] }, { accessFlags := 18, nameIndex := 17, descriptorIndex := 18, attributes := #[] }, { accessFlags := 2, nameIndex := 21, descriptorIndex := 22, attributes := #[] }, { accessFlags := 2, nameIndex := 25, descriptorIndex := 26, attributes := #[] }, { accessFlags := 26, nameIndex := 1116, descriptorIndex := 1117, attributes := #[] }, { accessFlags := 24, nameIndex := 40, descriptorIndex := 26, attributes := #[] }, { accessFlags := 26, nameIndex := 1101, descriptorIndex := 1102, attributes := #[] }, { accessFlags := 26, nameIndex := 1121, descriptorIndex := 1122, attributes := #[] }, { accessFlags := 25, nameIndex := 599, descriptorIndex := 600, attributes := #[] }, { accessFlags := 24, nameIndex := 1125, descriptorIndex := 18, attributes := #[] }, { accessFlags := 24, nameIndex := 1127, descriptorIndex := 18, attributes := #[] }])
  fields := #[{ name := "value", type := (.array .byte), accessFlags := 18, slot := 0, constantValue := 0 }, { name := "coder", type := .byte, accessFlags := 18, slot := 1, constantValue := 0 }, { name := "hash", type := .int, accessFlags := 2, slot := 2, constantValue := 0 }, { name := "hashIsZero", type := .boolean, accessFlags := 2, slot := 3, constantValue := 0 }, { name := "serialVersionUID", type := .long, accessFlags := 26, slot := 0, constantValue := 0 }, { name := "COMPACT_STRINGS", type := .boolean, accessFlags := 24, slot := 1, constantValue := 0 }, { name := "serialPersistentFields", type := (.array (.object "java/io/ObjectStreamField")), accessFlags := 26, slot := 2, constantValue := 0 }, { name := "REPL", type := .char, accessFlags := 26, slot := 3, constantValue := 0 }, { name := "CASE_INSENSITIVE_ORDER", type := (.object "java/util/Comparator"), accessFlags := 25, slot := 4, constantValue := 0 }, { name := "LATIN1", type := .byte, accessFlags := 24, slot := 5, constantValue := 0 }, { name := "UTF16", type := .byte, accessFlags := 24, slot := 6, constantValue := 0 }]
  methods := #[k7m0, k7m1, k7m2, k7m3, k7m4, k7m5, k7m6, k7m7, k7m8, k7m9, k7m10]
  instanceTypes := #[(.array .byte), .byte, .int, .boolean]
  staticTypes := #[.long, .boolean, (.array (.object "java/io/ObjectStreamField")), .char, (.object "java/util/Comparator"), .byte, .byte]
  resolved := Array.replicate 1451 none
  statics := some 0 }

def pool8 : Array CpInfo := pool [(3, .class_ 4), (0, u "java/lang/String"), (1, .class_ 8), (1, u "java/lang/Object"), (0, u "<init>"), (0, u "()V"), (0, .methodref 12 13), (0, .class_ 14), (0, .nameAndType 15 16), (0, u "java/lang/StringUTF16"), (0, u "newBytesLength"), (0, u "(I)I"), (3, .integer 1073741823), (23, .fieldref 12 45), (0, .nameAndType 46 47), (0, u "$assertionsDisabled"), (0, u "Z"), (0, .methodref 12 49), (0, .nameAndType 50 51), (0, u "length"), (0, u "([B)I"), (7, .fieldref 12 60), (0, .nameAndType 61 62), (0, u "HI_BYTE_SHIFT"), (0, u "I"), (0, .fieldref 12 64), (0, .nameAndType 65 62), (0, u "LO_BYTE_SHIFT"), (1, .methodref 12 68), (0, .nameAndType 69 70), (0, u "checkIndex"), (0, u "(I[B)V"), (0, .methodref 12 72), (0, .nameAndType 73 74), (0, u "getChar"), (0, u "([BI)C"), (32, .methodref 12 108), (0, .nameAndType 109 110), (0, u "newBytesFor"), (0, u "(I)[B"), (0, .methodref 12 112), (0, .nameAndType 113 114), (0, u "putChar"), (0, u "([BII)V"), (0, .methodref 12 116), (0, .nameAndType 117 118), (0, u "compress"), (0, u "([CI[BII)I"), (0, .methodref 12 120), (0, .nameAndType 121 122), (0, u "toBytes"), (0, u "([CII)[B"), (138, u "coderFromArrayLen"), (0, u "([BI)B"), (106, .class_ 371), (1, u "java/lang/StringUTF16$LinesSpliterator"), (20, u "charAt"), (21, .methodref 3 415), (0, .nameAndType 69 416), (0, u "(II)V"), (13, u "MAX_LENGTH"), (196, .class_ 628), (0, u "java/lang/StringUTF16$CodePointsSpliterator"), (0, .class_ 630), (0, u "java/lang/StringUTF16$CharsSpliterator")] 4

def k8m0 : Method := { name := "<init>", desc := "()V", sig := { parameters := [], returnType := none }, accessFlags := 0, code := none }
def k8c1 : Code := { maxStack := 1, maxLocals := 1, code := jdk_52_method_2_code, exceptionTable := #[], attributes := #[] }
def k8m1 : Method := { name := "newBytesFor", desc := "(I)[B", sig := { parameters := [.int], returnType := some (.array .byte) }, accessFlags := 9, code := some k8c1 }
def k8c2 : Code := { maxStack := 4, maxLocals := 1, code := jdk_52_method_3_code, exceptionTable := #[], attributes := #[] }
def k8m2 : Method := { name := "newBytesLength", desc := "(I)I", sig := { parameters := [.int], returnType := some .int }, accessFlags := 9, code := some k8c2 }
def k8c3 : Code := { maxStack := 4, maxLocals := 3, code := jdk_52_method_4_code, exceptionTable := #[], attributes := #[] }
def k8m3 : Method := { name := "putChar", desc := "([BII)V", sig := { parameters := [(.array .byte), .int, .int], returnType := none }, accessFlags := 8, code := some k8c3 }
def k8c4 : Code := { maxStack := 3, maxLocals := 2, code := jdk_52_method_5_code, exceptionTable := #[], attributes := #[] }
def k8m4 : Method := { name := "getChar", desc := "([BI)C", sig := { parameters := [(.array .byte), .int], returnType := some .char }, accessFlags := 8, code := some k8c4 }
def k8c5 : Code := { maxStack := 2, maxLocals := 1, code := jdk_52_method_6_code, exceptionTable := #[], attributes := #[] }
def k8m5 : Method := { name := "length", desc := "([B)I", sig := { parameters := [(.array .byte)], returnType := some .int }, accessFlags := 9, code := some k8c5 }
def k8c6 : Code := { maxStack := 4, maxLocals := 5, code := jdk_52_method_14_code, exceptionTable := #[], attributes := #[] }
def k8m6 : Method := { name := "toBytes", desc := "([CII)[B", sig := { parameters := [(.array .char), .int, .int], returnType := some (.array .byte) }, accessFlags := 9, code := some k8c6 }
def k8c7 : Code := { maxStack := 2, maxLocals := 2, code := jdk_52_method_15_code, exceptionTable := #[], attributes := #[] }
def k8m7 : Method := { name := "coderFromArrayLen", desc := "([BI)B", sig := { parameters := [(.array .byte), .int], returnType := some .byte }, accessFlags := 8, code := some k8c7 }
def k8c8 : Code := { maxStack := 5, maxLocals := 6, code := jdk_52_method_16_code, exceptionTable := #[], attributes := #[] }
def k8m8 : Method := { name := "compress", desc := "([CII)[B", sig := { parameters := [(.array .char), .int, .int], returnType := some (.array .byte) }, accessFlags := 9, code := some k8c8 }
def k8c9 : Code := { maxStack := 3, maxLocals := 7, code := jdk_52_method_21_code, exceptionTable := #[], attributes := #[] }
def k8m9 : Method := { name := "compress", desc := "([CI[BII)I", sig := { parameters := [(.array .char), .int, (.array .byte), .int, .int], returnType := some .int }, accessFlags := 9, code := some k8c9 }
def k8c10 : Code := { maxStack := 2, maxLocals := 2, code := jdk_52_method_83_code, exceptionTable := #[], attributes := #[] }
def k8m10 : Method := { name := "charAt", desc := "([BI)C", sig := { parameters := [(.array .byte), .int], returnType := some .char }, accessFlags := 9, code := some k8c10 }
def k8c11 : Code := { maxStack := 2, maxLocals := 2, code := jdk_52_method_91_code, exceptionTable := #[], attributes := #[] }
def k8m11 : Method := { name := "checkIndex", desc := "(I[B)V", sig := { parameters := [.int, (.array .byte)], returnType := none }, accessFlags := 9, code := some k8c11 }
/-- java/lang/StringUTF16 -/
def k8 : Class := { plain "java/lang/StringUTF16" (some 0) with
  accessFlags := 48
  interfaces := #[]
  cf := some (fileOf pool8 12 #[.nestMembers #[627, 629, 369]] #[{ accessFlags := 0, nameIndex := 9, descriptorIndex := 10, attributes := #[] }, { accessFlags := 9, nameIndex := 109, descriptorIndex := 110, attributes := #[] }, { accessFlags := 9, nameIndex := 15, descriptorIndex := 16, attributes := #[] }, { accessFlags := 8, nameIndex := 113, descriptorIndex := 114, attributes := #[] }, { accessFlags := 8, nameIndex := 73, descriptorIndex := 74, attributes := #[] }, { accessFlags := 9, nameIndex := 50, descriptorIndex := 51, attributes := #[] }, { accessFlags := 9, nameIndex := 121, descriptorIndex := 122, attributes := #[] }, { accessFlags := 8, nameIndex := 261, descriptorIndex := 262, attributes := #[] }, { accessFlags := 9, nameIndex := 117, descriptorIndex := 122, attributes := #[] }, { accessFlags := 9, nameIndex := 117, descriptorIndex := 118, attributes := #[] }, { accessFlags := 9, nameIndex := 392, descriptorIndex := 74, attributes := #[] }, { accessFlags := 9, nameIndex := 69, descriptorIndex := 70, attributes := #[] }] 48 6 #[] #[{ accessFlags := 26, nameIndex := 61, descriptorIndex := 62, attributes := #[] }, { accessFlags := 26, nameIndex := 65, descriptorIndex := 62, attributes := #[] }, { accessFlags := 24, nameIndex := 430, descriptorIndex := 62, attributes := #[] }, { accessFlags := 4120, nameIndex := 46, descriptorIndex := 47, attributes := #[] }])
  fields := #[{ name := "HI_BYTE_SHIFT", type := .int, accessFlags := 26, slot := 0, constantValue := 0 }, { name := "LO_BYTE_SHIFT", type := .int, accessFlags := 26, slot := 1, constantValue := 0 }, { name := "MAX_LENGTH", type := .int, accessFlags := 24, slot := 2, constantValue := 0 }, { name := "$assertionsDisabled", type := .boolean, accessFlags := 4120, slot := 3, constantValue := 0 }]
  methods := #[k8m0, k8m1, k8m2, k8m3, k8m4, k8m5, k8m6, k8m7, k8m8, k8m9, k8m10, k8m11]
  instanceTypes := #[]
  staticTypes := #[.int, .int, .int, .boolean]
  resolved := Array.replicate 635 none
  statics := some 1 }

def pool9 : Array CpInfo := pool [(1, .methodref 2 3), (0, .class_ 4), (0, .nameAndType 5 6), (0, u "java/lang/Object"), (0, u "<init>"), (0, u "()V"), (0, .fieldref 8 9), (0, .class_ 10), (0, .nameAndType 11 12), (0, u "com/example/tote/tote/JsonText"), (0, u "text"), (0, u "Ljava/lang/String;"), (0, .string 14), (0, u "payload"), (0, .methodref 16 17), (0, .class_ 18), (0, .nameAndType 19 20), (0, u "java/util/Objects"), (0, u "requireNonNull"), (0, u "(Ljava/lang/Object;Ljava/lang/String;)Ljava/lang/Object;"), (0, .methodref 8 22), (0, .nameAndType 5 23), (0, u "(Ljava/lang/String;)V"), (0, .methodref 8 25), (0, .nameAndType 26 6), (0, u "skipWhitespace"), (0, .methodref 8 28), (0, .nameAndType 29 30), (0, u "value"), (0, u "(I)V"), (0, .fieldref 8 32), (0, .nameAndType 33 34), (0, u "pos"), (0, u "I"), (0, .methodref 36 37), (0, .class_ 38), (0, .nameAndType 39 40), (0, u "java/lang/String"), (0, u "length"), (0, u "()I"), (8, .methodref 36 50), (0, .nameAndType 51 52), (0, u "charAt"), (0, u "(I)C"), (0, .methodref 8 54), (0, .nameAndType 55 30), (0, u "object"), (0, .methodref 8 57), (0, .nameAndType 58 30), (0, u "array"), (0, .methodref 8 60), (0, .nameAndType 61 6), (0, u "string"), (0, .methodref 8 63), (0, .nameAndType 64 65), (0, u "isDigit"), (0, u "(C)Z"), (0, .methodref 8 67), (0, .nameAndType 68 6), (0, u "number"), (0, .string 70), (0, u "true"), (0, .methodref 8 72), (0, .nameAndType 73 74), (0, u "literal"), (0, u "(Ljava/lang/String;)Z"), (0, .string 76), (0, u "false"), (0, .string 78), (0, u "null"), (0, .methodref 8 80), (0, .nameAndType 81 30), (0, u "checkDepth"), (0, .methodref 8 83), (0, .nameAndType 84 65), (0, u "next"), (2, .methodref 8 88), (0, .nameAndType 89 90), (0, u "expect"), (0, u "(C)V"), (2, .methodref 8 94), (0, .nameAndType 95 6), (0, u "escape"), (2, .methodref 99 100), (0, .class_ 101), (0, .nameAndType 102 65), (0, u "java/lang/Character"), (0, u "isHighSurrogate"), (0, .methodref 99 104), (0, .nameAndType 105 65), (0, u "isLowSurrogate"), (0, .methodref 99 107), (0, .nameAndType 108 65), (0, u "isSurrogate"), (2, .methodref 8 112), (0, .nameAndType 113 114), (0, u "hexUnit"), (0, u "()C"), (7, .string 123), (0, u "\"\\/bfnrt"), (0, .methodref 36 125), (0, .nameAndType 126 127), (0, u "indexOf"), (0, u "(I)I"), (2, .methodref 8 131), (0, .nameAndType 132 133), (0, u "hexDigit"), (0, u "(C)I"), (4, .methodref 8 139), (0, .nameAndType 140 6), (0, u "skipDigits"), (2, .long 10), (1, .long 48), (1, .long 1073741823), (1, .methodref 150 151), (0, .class_ 152), (0, .nameAndType 153 154), (0, u "java/lang/Math"), (0, u "min"), (0, u "(JJ)J"), (2, .methodref 8 158), (0, .nameAndType 159 160), (0, u "fitsNumeric"), (0, u "(IIIIJ)Z"), (2, .methodref 150 164), (0, .nameAndType 165 166), (0, u "abs"), (0, u "(J)J"), (0, .long 1073741822), (1, .long 16383), (1, .long 131071), (1, .methodref 36 174), (0, .nameAndType 175 176), (0, u "startsWith"), (0, u "(Ljava/lang/String;I)Z"), (2, .string 180), (0, u " \t\n\r"), (10, u "MAX_DEPTH"), (2, u "MAX_SCALE"), (0, u "J"), (0, u "MAX_MAGNITUDE"), (0, u "MAX_EXPONENT"), (0, u "UNCLOSED_STRING"), (2, u "check")] 20

def k9c0 : Code := { maxStack := 2, maxLocals := 2, code := prog_12_method_1_code, exceptionTable := #[], attributes := #[] }
def k9m0 : Method := { name := "<init>", desc := "(Ljava/lang/String;)V", sig := { parameters := [(.object "java/lang/String")], returnType := none }, accessFlags := 2, code := some k9c0 }
def k9c1 : Code := { maxStack := 3, maxLocals := 2, code := prog_12_method_2_code, exceptionTable := #[], attributes := #[] }
def k9m1 : Method := { name := "check", desc := "(Ljava/lang/String;)V", sig := { parameters := [(.object "java/lang/String")], returnType := none }, accessFlags := 8, code := some k9c1 }
def k9c2 : Code := { maxStack := 3, maxLocals := 3, code := prog_12_method_3_code, exceptionTable := #[], attributes := #[] }
def k9m2 : Method := { name := "value", desc := "(I)V", sig := { parameters := [.int], returnType := none }, accessFlags := 2, code := some k9c2 }
def k9c3 : Code := { maxStack := 3, maxLocals := 2, code := prog_12_method_4_code, exceptionTable := #[], attributes := #[] }
def k9m3 : Method := { name := "object", desc := "(I)V", sig := { parameters := [.int], returnType := none }, accessFlags := 2, code := some k9c3 }
def k9c4 : Code := { maxStack := 3, maxLocals := 2, code := prog_12_method_5_code, exceptionTable := #[], attributes := #[] }
def k9m4 : Method := { name := "array", desc := "(I)V", sig := { parameters := [.int], returnType := none }, accessFlags := 2, code := some k9c4 }
def k9c5 : Code := { maxStack := 3, maxLocals := 2, code := prog_12_method_6_code, exceptionTable := #[], attributes := #[] }
def k9m5 : Method := { name := "string", desc := "()V", sig := { parameters := [], returnType := none }, accessFlags := 2, code := some k9c5 }
def k9c6 : Code := { maxStack := 3, maxLocals := 4, code := prog_12_method_7_code, exceptionTable := #[], attributes := #[] }
def k9m6 : Method := { name := "escape", desc := "()V", sig := { parameters := [], returnType := none }, accessFlags := 2, code := some k9c6 }
def k9c7 : Code := { maxStack := 3, maxLocals := 4, code := prog_12_method_8_code, exceptionTable := #[], attributes := #[] }
def k9m7 : Method := { name := "hexUnit", desc := "()C", sig := { parameters := [], returnType := some .char }, accessFlags := 2, code := some k9c7 }
def k9c8 : Code := { maxStack := 7, maxLocals := 10, code := prog_12_method_9_code, exceptionTable := #[], attributes := #[] }
def k9m8 : Method := { name := "number", desc := "()V", sig := { parameters := [], returnType := none }, accessFlags := 2, code := some k9c8 }
def k9c9 : Code := { maxStack := 4, maxLocals := 11, code := prog_12_method_10_code, exceptionTable := #[], attributes := #[] }
def k9m9 : Method := { name := "fitsNumeric", desc := "(IIIIJ)Z", sig := { parameters := [.int, .int, .int, .int, .long], returnType := some .boolean }, accessFlags := 2, code := some k9c9 }
def k9c10 : Code := { maxStack := 3, maxLocals := 3, code := prog_12_method_11_code, exceptionTable := #[], attributes := #[] }
def k9m10 : Method := { name := "literal", desc := "(Ljava/lang/String;)Z", sig := { parameters := [(.object "java/lang/String")], returnType := some .boolean }, accessFlags := 2, code := some k9c10 }
def k9c11 : Code := { maxStack := 2, maxLocals := 2, code := prog_12_method_12_code, exceptionTable := #[], attributes := #[] }
def k9m11 : Method := { name := "checkDepth", desc := "(I)V", sig := { parameters := [.int], returnType := none }, accessFlags := 2, code := some k9c11 }
def k9c12 : Code := { maxStack := 3, maxLocals := 1, code := prog_12_method_13_code, exceptionTable := #[], attributes := #[] }
def k9m12 : Method := { name := "skipWhitespace", desc := "()V", sig := { parameters := [], returnType := none }, accessFlags := 2, code := some k9c12 }
def k9c13 : Code := { maxStack := 3, maxLocals := 1, code := prog_12_method_14_code, exceptionTable := #[], attributes := #[] }
def k9m13 : Method := { name := "skipDigits", desc := "()V", sig := { parameters := [], returnType := none }, accessFlags := 2, code := some k9c13 }
def k9c14 : Code := { maxStack := 2, maxLocals := 2, code := prog_12_method_15_code, exceptionTable := #[], attributes := #[] }
def k9m14 : Method := { name := "expect", desc := "(C)V", sig := { parameters := [.char], returnType := none }, accessFlags := 2, code := some k9c14 }
def k9c15 : Code := { maxStack := 3, maxLocals := 3, code := prog_12_method_16_code, exceptionTable := #[], attributes := #[] }
def k9m15 : Method := { name := "next", desc := "(C)Z", sig := { parameters := [.char], returnType := some .boolean }, accessFlags := 2, code := some k9c15 }
def k9c16 : Code := { maxStack := 2, maxLocals := 1, code := prog_12_method_17_code, exceptionTable := #[], attributes := #[] }
def k9m16 : Method := { name := "isDigit", desc := "(C)Z", sig := { parameters := [.char], returnType := some .boolean }, accessFlags := 10, code := some k9c16 }
def k9c17 : Code := { maxStack := 2, maxLocals := 2, code := prog_12_method_18_code, exceptionTable := #[], attributes := #[] }
def k9m17 : Method := { name := "hexDigit", desc := "(C)I", sig := { parameters := [.char], returnType := some .int }, accessFlags := 10, code := some k9c17 }
/-- com/example/tote/tote/JsonText -/
def k9 : Class := { plain "com/example/tote/tote/JsonText" (some 0) with
  accessFlags := 32
  interfaces := #[]
  cf := some (fileOf pool9 8 #[] #[{ accessFlags := 2, nameIndex := 5, descriptorIndex := 23, attributes := #[] }, { accessFlags := 8, nameIndex := 201, descriptorIndex := 23, attributes := #[] }, { accessFlags := 2, nameIndex := 29, descriptorIndex := 30, attributes := #[] }, { accessFlags := 2, nameIndex := 55, descriptorIndex := 30, attributes := #[] }, { accessFlags := 2, nameIndex := 58, descriptorIndex := 30, attributes := #[] }, { accessFlags := 2, nameIndex := 61, descriptorIndex := 6, attributes := #[] }, { accessFlags := 2, nameIndex := 95, descriptorIndex := 6, attributes := #[] }, { accessFlags := 2, nameIndex := 113, descriptorIndex := 114, attributes := #[] }, { accessFlags := 2, nameIndex := 68, descriptorIndex := 6, attributes := #[] }, { accessFlags := 2, nameIndex := 159, descriptorIndex := 160, attributes := #[] }, { accessFlags := 2, nameIndex := 73, descriptorIndex := 74, attributes := #[] }, { accessFlags := 2, nameIndex := 81, descriptorIndex := 30, attributes := #[] }, { accessFlags := 2, nameIndex := 26, descriptorIndex := 6, attributes := #[] }, { accessFlags := 2, nameIndex := 140, descriptorIndex := 6, attributes := #[] }, { accessFlags := 2, nameIndex := 89, descriptorIndex := 90, attributes := #[] }, { accessFlags := 2, nameIndex := 84, descriptorIndex := 65, attributes := #[] }, { accessFlags := 10, nameIndex := 64, descriptorIndex := 65, attributes := #[] }, { accessFlags := 10, nameIndex := 132, descriptorIndex := 133, attributes := #[] }] 32 2 #[] #[{ accessFlags := 24, nameIndex := 191, descriptorIndex := 34, attributes := #[] }, { accessFlags := 26, nameIndex := 194, descriptorIndex := 195, attributes := #[] }, { accessFlags := 26, nameIndex := 196, descriptorIndex := 195, attributes := #[] }, { accessFlags := 26, nameIndex := 197, descriptorIndex := 195, attributes := #[] }, { accessFlags := 26, nameIndex := 198, descriptorIndex := 12, attributes := #[] }, { accessFlags := 18, nameIndex := 11, descriptorIndex := 12, attributes := #[] }, { accessFlags := 2, nameIndex := 33, descriptorIndex := 34, attributes := #[] }])
  fields := #[{ name := "MAX_DEPTH", type := .int, accessFlags := 24, slot := 0, constantValue := 0 }, { name := "MAX_SCALE", type := .long, accessFlags := 26, slot := 1, constantValue := 0 }, { name := "MAX_MAGNITUDE", type := .long, accessFlags := 26, slot := 2, constantValue := 0 }, { name := "MAX_EXPONENT", type := .long, accessFlags := 26, slot := 3, constantValue := 0 }, { name := "UNCLOSED_STRING", type := (.object "java/lang/String"), accessFlags := 26, slot := 4, constantValue := 0 }, { name := "text", type := (.object "java/lang/String"), accessFlags := 18, slot := 0, constantValue := 0 }, { name := "pos", type := .int, accessFlags := 2, slot := 1, constantValue := 0 }]
  methods := #[k9m0, k9m1, k9m2, k9m3, k9m4, k9m5, k9m6, k9m7, k9m8, k9m9, k9m10, k9m11, k9m12, k9m13, k9m14, k9m15, k9m16, k9m17]
  instanceTypes := #[(.object "java/lang/String"), .int]
  staticTypes := #[.int, .long, .long, .long, (.object "java/lang/String")]
  resolved := Array.replicate 222 none
  statics := none }

def pool10 : Array CpInfo := pool [(2, .class_ 4), (1, u "java/lang/Object"), (0, u "<init>"), (0, u "()V"), (35, .class_ 44), (1, u "java/util/Objects"), (0, u "requireNonNull"), (48, u "(Ljava/lang/Object;Ljava/lang/String;)Ljava/lang/Object;")] 89

def k10m0 : Method := { name := "<init>", desc := "()V", sig := { parameters := [], returnType := none }, accessFlags := 2, code := none }
def k10c1 : Code := { maxStack := 3, maxLocals := 2, code := jdk_31_method_11_code, exceptionTable := #[], attributes := #[] }
def k10m1 : Method := { name := "requireNonNull", desc := "(Ljava/lang/Object;Ljava/lang/String;)Ljava/lang/Object;", sig := { parameters := [(.object "java/lang/Object"), (.object "java/lang/String")], returnType := some (.object "java/lang/Object") }, accessFlags := 9, code := some k10c1 }
/-- java/util/Objects -/
def k10 : Class := { plain "java/util/Objects" (some 0) with
  accessFlags := 49
  interfaces := #[]
  cf := some (fileOf pool10 42 #[] #[{ accessFlags := 2, nameIndex := 5, descriptorIndex := 6, attributes := #[] }, { accessFlags := 9, nameIndex := 45, descriptorIndex := 94, attributes := #[] }] 49 2 #[] #[])
  fields := #[]
  methods := #[k10m0, k10m1]
  instanceTypes := #[]
  staticTypes := #[]
  resolved := Array.replicate 184 none
  statics := none }

def pool11 : Array CpInfo := pool [(1, .class_ 2), (0, u "java/lang/String"), (1, .class_ 6), (1, u "java/lang/Object"), (0, u "<init>"), (0, u "()V"), (0, .methodref 1 10), (0, .nameAndType 11 12), (0, u "checkIndex"), (0, u "(II)V"), (1, .class_ 16), (1, u "java/lang/StringLatin1"), (21, .methodref 39 40), (0, .class_ 41), (0, .nameAndType 42 43), (0, u "java/lang/Math"), (0, u "min"), (0, u "(II)I"), (9, u "([BI)C"), (34, .methodref 14 89), (0, .nameAndType 90 91), (0, u "canEncode"), (0, u "(I)Z"), (0, .methodref 39 93), (0, .nameAndType 94 43), (0, u "max"), (0, .methodref 14 96), (0, .nameAndType 97 98), (0, u "indexOfChar"), (0, u "([BIII)I"), (2, u "indexOf"), (19, u "$assertionsDisabled"), (0, u "Z"), (98, .class_ 223), (1, u "java/lang/StringLatin1$LinesSpliterator"), (28, u "charAt"), (137, .class_ 391), (0, u "java/lang/StringLatin1$CharsSpliterator")] 3

def k11m0 : Method := { name := "<init>", desc := "()V", sig := { parameters := [], returnType := none }, accessFlags := 0, code := none }
def k11c1 : Code := { maxStack := 2, maxLocals := 2, code := jdk_43_method_2_code, exceptionTable := #[], attributes := #[] }
def k11m1 : Method := { name := "charAt", desc := "([BI)C", sig := { parameters := [(.array .byte), .int], returnType := some .char }, accessFlags := 9, code := some k11c1 }
def k11c2 : Code := { maxStack := 2, maxLocals := 1, code := jdk_43_method_4_code, exceptionTable := #[], attributes := #[] }
def k11m2 : Method := { name := "canEncode", desc := "(I)Z", sig := { parameters := [.int], returnType := some .boolean }, accessFlags := 9, code := some k11c2 }
def k11c3 : Code := { maxStack := 4, maxLocals := 4, code := jdk_43_method_22_code, exceptionTable := #[], attributes := #[] }
def k11m3 : Method := { name := "indexOf", desc := "([BIII)I", sig := { parameters := [(.array .byte), .int, .int, .int], returnType := some .int }, accessFlags := 9, code := some k11c3 }
def k11c4 : Code := { maxStack := 2, maxLocals := 6, code := jdk_43_method_23_code, exceptionTable := #[], attributes := #[] }
def k11m4 : Method := { name := "indexOfChar", desc := "([BIII)I", sig := { parameters := [(.array .byte), .int, .int, .int], returnType := some .int }, accessFlags := 10, code := some k11c4 }
/-- java/lang/StringLatin1 -/
def k11 : Class := { plain "java/lang/StringLatin1" (some 0) with
  accessFlags := 48
  interfaces := #[]
  cf := some (fileOf pool11 14 #[.nestMembers #[390, 221]] #[{ accessFlags := 0, nameIndex := 7, descriptorIndex := 8, attributes := #[] }, { accessFlags := 9, nameIndex := 252, descriptorIndex := 53, attributes := #[] }, { accessFlags := 9, nameIndex := 90, descriptorIndex := 91, attributes := #[] }, { accessFlags := 9, nameIndex := 101, descriptorIndex := 98, attributes := #[] }, { accessFlags := 10, nameIndex := 97, descriptorIndex := 98, attributes := #[] }] 48 4 #[] #[{ accessFlags := 4120, nameIndex := 121, descriptorIndex := 122, attributes := #[] }])
  fields := #[{ name := "$assertionsDisabled", type := .boolean, accessFlags := 4120, slot := 0, constantValue := 0 }]
  methods := #[k11m0, k11m1, k11m2, k11m3, k11m4]
  instanceTypes := #[]
  staticTypes := #[.boolean]
  resolved := Array.replicate 395 none
  statics := none }

def pool12 : Array CpInfo := pool [(2, .class_ 4), (1, u "java/lang/Object"), (0, u "<init>"), (0, u "()V"), (17, .class_ 26), (1, u "jdk/internal/util/Preconditions"), (6, u "checkIndex"), (21, .class_ 56), (0, u "jdk/internal/util/Preconditions$4"), (57, .class_ 115), (0, u "jdk/internal/util/Preconditions$1"), (7, u "SIOOBE_FORMATTER"), (0, u "Ljava/util/function/BiFunction;"), (0, .class_ 126), (0, u "jdk/internal/util/Preconditions$2"), (3, u "AIOOBE_FORMATTER"), (0, .class_ 132), (0, u "jdk/internal/util/Preconditions$3"), (3, u "IOOBE_FORMATTER"), (41, u "(IILjava/util/function/BiFunction;)I")] 15

def k12m0 : Method := { name := "<init>", desc := "()V", sig := { parameters := [], returnType := none }, accessFlags := 1, code := none }
def k12c1 : Code := { maxStack := 3, maxLocals := 3, code := jdk_41_method_11_code, exceptionTable := #[], attributes := #[] }
def k12m1 : Method := { name := "checkIndex", desc := "(IILjava/util/function/BiFunction;)I", sig := { parameters := [.int, .int, (.object "java/util/function/BiFunction")], returnType := some .int }, accessFlags := 9, code := some k12c1 }
/-- jdk/internal/util/Preconditions -/
def k12 : Class := { plain "jdk/internal/util/Preconditions" (some 0) with
  accessFlags := 33
  interfaces := #[]
  cf := some (fileOf pool12 24 #[.nestMembers #[55, 131, 125, 114]] #[{ accessFlags := 1, nameIndex := 5, descriptorIndex := 6, attributes := #[] }, { accessFlags := 9, nameIndex := 33, descriptorIndex := 178, attributes := #[] }] 33 2 #[] #[{ accessFlags := 25, nameIndex := 123, descriptorIndex := 124, attributes := #[] }, { accessFlags := 25, nameIndex := 130, descriptorIndex := 124, attributes := #[] }, { accessFlags := 25, nameIndex := 136, descriptorIndex := 124, attributes := #[] }])
  fields := #[{ name := "SIOOBE_FORMATTER", type := (.object "java/util/function/BiFunction"), accessFlags := 25, slot := 0, constantValue := 0 }, { name := "AIOOBE_FORMATTER", type := (.object "java/util/function/BiFunction"), accessFlags := 25, slot := 1, constantValue := 0 }, { name := "IOOBE_FORMATTER", type := (.object "java/util/function/BiFunction"), accessFlags := 25, slot := 2, constantValue := 0 }]
  methods := #[k12m0, k12m1]
  instanceTypes := #[]
  staticTypes := #[(.object "java/util/function/BiFunction"), (.object "java/util/function/BiFunction"), (.object "java/util/function/BiFunction")]
  resolved := Array.replicate 194 none
  statics := some 2 }

def pool13 : Array CpInfo := pool [(1, .class_ 2), (0, u "java/lang/Math"), (1, .class_ 6), (1, u "java/lang/Object"), (0, u "<init>"), (0, u "()V"), (89, .class_ 100), (1, u "java/lang/Math$RandomNumberGeneratorHolder"), (20, u "(JJ)J"), (2, u "abs"), (0, u "(J)J"), (46, u "negativeZeroFloatBits"), (0, u "J"), (2, u "negativeZeroDoubleBits"), (21, u "max"), (2, u "min"), (43, u "$assertionsDisabled"), (0, u "Z"), (88, u "(II)I"), (2, u "twoToTheDoubleScaleDown"), (0, u "D"), (4, u "twoToTheDoubleScaleUp"), (9, u "E"), (3, u "PI"), (2, u "TAU"), (2, u "DEGREES_TO_RADIANS"), (0, u "RADIANS_TO_DEGREES")] 94

def k13m0 : Method := { name := "<init>", desc := "()V", sig := { parameters := [], returnType := none }, accessFlags := 2, code := none }
def k13c1 : Code := { maxStack := 4, maxLocals := 2, code := jdk_29_method_61_code, exceptionTable := #[], attributes := #[] }
def k13m1 : Method := { name := "abs", desc := "(J)J", sig := { parameters := [.long], returnType := some .long }, accessFlags := 9, code := some k13c1 }
def k13c2 : Code := { maxStack := 2, maxLocals := 2, code := jdk_29_method_65_code, exceptionTable := #[], attributes := #[] }
def k13m2 : Method := { name := "max", desc := "(II)I", sig := { parameters := [.int, .int], returnType := some .int }, accessFlags := 9, code := some k13c2 }
def k13c3 : Code := { maxStack := 2, maxLocals := 2, code := jdk_29_method_69_code, exceptionTable := #[], attributes := #[] }
def k13m3 : Method := { name := "min", desc := "(II)I", sig := { parameters := [.int, .int], returnType := some .int }, accessFlags := 9, code := some k13c3 }
def k13c4 : Code := { maxStack := 4, maxLocals := 4, code := jdk_29_method_70_code, exceptionTable := #[], attributes := #[] }
def k13m4 : Method := { name := "min", desc := "(JJ)J", sig := { parameters := [.long, .long], returnType := some .long }, accessFlags := 9, code := some k13c4 }
/-- java/lang/Math -/
def k13 : Class := { plain "java/lang/Math" (some 0) with
  accessFlags := 49
  interfaces := #[]
  cf := some (fileOf pool13 1 #[.nestMembers #[98]] #[{ accessFlags := 2, nameIndex := 7, descriptorIndex := 8, attributes := #[] }, { accessFlags := 9, nameIndex := 124, descriptorIndex := 125, attributes := #[] }, { accessFlags := 9, nameIndex := 198, descriptorIndex := 335, attributes := #[] }, { accessFlags := 9, nameIndex := 201, descriptorIndex := 335, attributes := #[] }, { accessFlags := 9, nameIndex := 201, descriptorIndex := 121, attributes := #[] }] 49 4 #[] #[{ accessFlags := 25, nameIndex := 354, descriptorIndex := 339, attributes := #[] }, { accessFlags := 25, nameIndex := 358, descriptorIndex := 339, attributes := #[] }, { accessFlags := 25, nameIndex := 361, descriptorIndex := 339, attributes := #[] }, { accessFlags := 26, nameIndex := 364, descriptorIndex := 339, attributes := #[] }, { accessFlags := 26, nameIndex := 365, descriptorIndex := 339, attributes := #[] }, { accessFlags := 26, nameIndex := 172, descriptorIndex := 173, attributes := #[] }, { accessFlags := 26, nameIndex := 176, descriptorIndex := 173, attributes := #[] }, { accessFlags := 8, nameIndex := 344, descriptorIndex := 339, attributes := #[] }, { accessFlags := 8, nameIndex := 338, descriptorIndex := 339, attributes := #[] }, { accessFlags := 4120, nameIndex := 245, descriptorIndex := 246, attributes := #[] }])
  fields := #[{ name := "E", type := .double, accessFlags := 25, slot := 0, constantValue := 0 }, { name := "PI", type := .double, accessFlags := 25, slot := 1, constantValue := 0 }, { name := "TAU", type := .double, accessFlags := 25, slot := 2, constantValue := 0 }, { name := "DEGREES_TO_RADIANS", type := .double, accessFlags := 26, slot := 3, constantValue := 0 }, { name := "RADIANS_TO_DEGREES", type := .double, accessFlags := 26, slot := 4, constantValue := 0 }, { name := "negativeZeroFloatBits", type := .long, accessFlags := 26, slot := 5, constantValue := 0 }, { name := "negativeZeroDoubleBits", type := .long, accessFlags := 26, slot := 6, constantValue := 0 }, { name := "twoToTheDoubleScaleUp", type := .double, accessFlags := 8, slot := 7, constantValue := 0 }, { name := "twoToTheDoubleScaleDown", type := .double, accessFlags := 8, slot := 8, constantValue := 0 }, { name := "$assertionsDisabled", type := .boolean, accessFlags := 4120, slot := 9, constantValue := 0 }]
  methods := #[k13m0, k13m1, k13m2, k13m3, k13m4]
  instanceTypes := #[]
  staticTypes := #[.double, .double, .double, .double, .double, .long, .long, .double, .double, .boolean]
  resolved := Array.replicate 460 none
  statics := none }

def pool14 : Array CpInfo := pool [(1, .class_ 2), (0, u "java/lang/Character"), (18, u "value"), (0, u "C"), (19, .class_ 44), (1, u "java/lang/Object"), (3, .class_ 50), (1, u "java/lang/Character$CharacterCache"), (24, .integer 55296), (0, .integer 56320), (0, .integer 57344), (2, u "isHighSurrogate"), (0, u "(C)Z"), (2, u "isLowSurrogate"), (199, u "$assertionsDisabled"), (0, u "Z"), (21, .class_ 309), (1, u "java/lang/Character$UnicodeBlock"), (73, u "TYPE"), (0, u "Ljava/lang/Class;"), (0, .class_ 386), (0, u "java/io/Serializable"), (0, .class_ 388), (0, u "java/lang/Comparable"), (0, .class_ 390), (0, u "java/lang/constant/Constable"), (0, u "MIN_RADIX"), (0, u "I"), (2, u "MAX_RADIX"), (1, u "MIN_VALUE"), (1, u "MAX_VALUE"), (3, u "UNASSIGNED"), (0, u "B"), (0, u "UPPERCASE_LETTER"), (1, u "LOWERCASE_LETTER"), (0, u "TITLECASE_LETTER"), (1, u "MODIFIER_LETTER"), (1, u "OTHER_LETTER"), (1, u "NON_SPACING_MARK"), (1, u "ENCLOSING_MARK"), (1, u "COMBINING_SPACING_MARK"), (1, u "DECIMAL_DIGIT_NUMBER"), (1, u "LETTER_NUMBER"), (1, u "OTHER_NUMBER"), (1, u "SPACE_SEPARATOR"), (1, u "LINE_SEPARATOR"), (1, u "PARAGRAPH_SEPARATOR"), (1, u "CONTROL"), (1, u "FORMAT"), (1, u "PRIVATE_USE"), (1, u "SURROGATE"), (1, u "DASH_PUNCTUATION"), (1, u "START_PUNCTUATION"), (1, u "END_PUNCTUATION"), (1, u "CONNECTOR_PUNCTUATION"), (1, u "OTHER_PUNCTUATION"), (1, u "MATH_SYMBOL"), (1, u "CURRENCY_SYMBOL"), (1, u "MODIFIER_SYMBOL"), (1, u "OTHER_SYMBOL"), (1, u "INITIAL_QUOTE_PUNCTUATION"), (1, u "FINAL_QUOTE_PUNCTUATION"), (1, u "ERROR"), (1, u "DIRECTIONALITY_UNDEFINED"), (0, u "DIRECTIONALITY_LEFT_TO_RIGHT"), (0, u "DIRECTIONALITY_RIGHT_TO_LEFT"), (0, u "DIRECTIONALITY_RIGHT_TO_LEFT_ARABIC"), (0, u "DIRECTIONALITY_EUROPEAN_NUMBER"), (0, u "DIRECTIONALITY_EUROPEAN_NUMBER_SEPARATOR"), (0, u "DIRECTIONALITY_EUROPEAN_NUMBER_TERMINATOR"), (0, u "DIRECTIONALITY_ARABIC_NUMBER"), (0, u "DIRECTIONALITY_COMMON_NUMBER_SEPARATOR"), (0, u "DIRECTIONALITY_NONSPACING_MARK"), (0, u "DIRECTIONALITY_BOUNDARY_NEUTRAL"), (0, u "DIRECTIONALITY_PARAGRAPH_SEPARATOR"), (0, u "DIRECTIONALITY_SEGMENT_SEPARATOR"), (0, u "DIRECTIONALITY_WHITESPACE"), (0, u "DIRECTIONALITY_OTHER_NEUTRALS"), (0, u "DIRECTIONALITY_LEFT_TO_RIGHT_EMBEDDING"), (0, u "DIRECTIONALITY_LEFT_TO_RIGHT_OVERRIDE"), (0, u "DIRECTIONALITY_RIGHT_TO_LEFT_EMBEDDING"), (0, u "DIRECTIONALITY_RIGHT_TO_LEFT_OVERRIDE"), (1, u "DIRECTIONALITY_POP_DIRECTIONAL_FORMAT"), (0, u "DIRECTIONALITY_LEFT_TO_RIGHT_ISOLATE"), (0, u "DIRECTIONALITY_RIGHT_TO_LEFT_ISOLATE"), (0, u "DIRECTIONALITY_FIRST_STRONG_ISOLATE"), (0, u "DIRECTIONALITY_POP_DIRECTIONAL_ISOLATE"), (0, u "MIN_HIGH_SURROGATE"), (0, u "MAX_HIGH_SURROGATE"), (1, u "MIN_LOW_SURROGATE"), (0, u "MAX_LOW_SURROGATE"), (1, u "MIN_SURROGATE"), (0, u "MAX_SURROGATE"), (0, u "MIN_SUPPLEMENTARY_CODE_POINT"), (0, u "MIN_CODE_POINT"), (0, u "MAX_CODE_POINT"), (1, u "serialVersionUID"), (0, u "J"), (2, u "SIZE"), (0, u "BYTES"), (24, u "isSurrogate"), (63, .class_ 596), (0, u "java/lang/Character$UnicodeScript"), (0, .class_ 598), (0, u "java/lang/Character$Subset")] 5

def k14c0 : Code := { maxStack := 2, maxLocals := 1, code := jdk_89_method_14_code, exceptionTable := #[], attributes := #[] }
def k14m0 : Method := { name := "isHighSurrogate", desc := "(C)Z", sig := { parameters := [.char], returnType := some .boolean }, accessFlags := 9, code := some k14c0 }
def k14c1 : Code := { maxStack := 2, maxLocals := 1, code := jdk_89_method_15_code, exceptionTable := #[], attributes := #[] }
def k14m1 : Method := { name := "isLowSurrogate", desc := "(C)Z", sig := { parameters := [.char], returnType := some .boolean }, accessFlags := 9, code := some k14c1 }
def k14c2 : Code := { maxStack := 2, maxLocals := 1, code := jdk_89_method_16_code, exceptionTable := #[], attributes := #[] }
def k14m2 : Method := { name := "isSurrogate", desc := "(C)Z", sig := { parameters := [.char], returnType := some .boolean }, accessFlags := 9, code := some k14c2 }
/-- java/lang/Character -/
def k14 : Class := { plain "java/lang/Character" (some 0) with
  accessFlags := 49
  interfaces := #[2, 3, 5]
  cf := some (fileOf pool14 1 #[.nestMembers #[48, 595, 307, 597]] #[{ accessFlags := 9, nameIndex := 80, descriptorIndex := 81, attributes := #[] }, { accessFlags := 9, nameIndex := 84, descriptorIndex := 81, attributes := #[] }, { accessFlags := 9, nameIndex := 531, descriptorIndex := 81, attributes := #[] }] 49 42 #[385, 387, 389] #[{ accessFlags := 25, nameIndex := 391, descriptorIndex := 392, attributes := #[] }, { accessFlags := 25, nameIndex := 395, descriptorIndex := 392, attributes := #[] }, { accessFlags := 25, nameIndex := 397, descriptorIndex := 22, attributes := #[] }, { accessFlags := 25, nameIndex := 399, descriptorIndex := 22, attributes := #[] }, { accessFlags := 25, nameIndex := 383, descriptorIndex := 384, attributes := #[] }, { accessFlags := 25, nameIndex := 403, descriptorIndex := 404, attributes := #[] }, { accessFlags := 25, nameIndex := 405, descriptorIndex := 404, attributes := #[] }, { accessFlags := 25, nameIndex := 407, descriptorIndex := 404, attributes := #[] }, { accessFlags := 25, nameIndex := 408, descriptorIndex := 404, attributes := #[] }, { accessFlags := 25, nameIndex := 410, descriptorIndex := 404, attributes := #[] }, { accessFlags := 25, nameIndex := 412, descriptorIndex := 404, attributes := #[] }, { accessFlags := 25, nameIndex := 414, descriptorIndex := 404, attributes := #[] }, { accessFlags := 25, nameIndex := 416, descriptorIndex := 404, attributes := #[] }, { accessFlags := 25, nameIndex := 418, descriptorIndex := 404, attributes := #[] }, { accessFlags := 25, nameIndex := 420, descriptorIndex := 404, attributes := #[] }, { accessFlags := 25, nameIndex := 422, descriptorIndex := 404, attributes := #[] }, { accessFlags := 25, nameIndex := 424, descriptorIndex := 404, attributes := #[] }, { accessFlags := 25, nameIndex := 426, descriptorIndex := 404, attributes := #[] }, { accessFlags := 25, nameIndex := 428, descriptorIndex := 404, attributes := #[] }, { accessFlags := 25, nameIndex := 430, descriptorIndex := 404, attributes := #[] }, { accessFlags := 25, nameIndex := 432, descriptorIndex := 404, attributes := #[] }, { accessFlags := 25, nameIndex := 434, descriptorIndex := 404, attributes := #[] }, { accessFlags := 25, nameIndex := 436, descriptorIndex := 404, attributes := #[] }, { accessFlags := 25, nameIndex := 438, descriptorIndex := 404, attributes := #[] }, { accessFlags := 25, nameIndex := 440, descriptorIndex := 404, attributes := #[] }, { accessFlags := 25, nameIndex := 442, descriptorIndex := 404, attributes := #[] }, { accessFlags := 25, nameIndex := 444, descriptorIndex := 404, attributes := #[] }, { accessFlags := 25, nameIndex := 446, descriptorIndex := 404, attributes := #[] }, { accessFlags := 25, nameIndex := 448, descriptorIndex := 404, attributes := #[] }, { accessFlags := 25, nameIndex := 450, descriptorIndex := 404, attributes := #[] }, { accessFlags := 25, nameIndex := 452, descriptorIndex := 404, attributes := #[] }, { accessFlags := 25, nameIndex := 454, descriptorIndex := 404, attributes := #[] }, { accessFlags := 25, nameIndex := 456, descriptorIndex := 404, attributes := #[] }, { accessFlags := 25, nameIndex := 458, descriptorIndex := 404, attributes := #[] }, { accessFlags := 25, nameIndex := 460, descriptorIndex := 404, attributes := #[] }, { accessFlags := 24, nameIndex := 462, descriptorIndex := 392, attributes := #[] }, { accessFlags := 25, nameIndex := 464, descriptorIndex := 404, attributes := #[] }, { accessFlags := 25, nameIndex := 465, descriptorIndex := 404, attributes := #[] }, { accessFlags := 25, nameIndex := 466, descriptorIndex := 404, attributes := #[] }, { accessFlags := 25, nameIndex := 467, descriptorIndex := 404, attributes := #[] }, { accessFlags := 25, nameIndex := 468, descriptorIndex := 404, attributes := #[] }, { accessFlags := 25, nameIndex := 469, descriptorIndex := 404, attributes := #[] }, { accessFlags := 25, nameIndex := 470, descriptorIndex := 404, attributes := #[] }, { accessFlags := 25, nameIndex := 471, descriptorIndex := 404, attributes := #[] }, { accessFlags := 25, nameIndex := 472, descriptorIndex := 404, attributes := #[] }, { accessFlags := 25, nameIndex := 473, descriptorIndex := 404, attributes := #[] }, { accessFlags := 25, nameIndex := 474, descriptorIndex := 404, attributes := #[] }, { accessFlags := 25, nameIndex := 475, descriptorIndex := 404, attributes := #[] }, { accessFlags := 25, nameIndex := 476, descriptorIndex := 404, attributes := #[] }, { accessFlags := 25, nameIndex := 477, descriptorIndex := 404, attributes := #[] }, { accessFlags := 25, nameIndex := 478, descriptorIndex := 404, attributes := #[] }, { accessFlags := 25, nameIndex := 479, descriptorIndex := 404, attributes := #[] }, { accessFlags := 25, nameIndex := 480, descriptorIndex := 404, attributes := #[] }, { accessFlags := 25, nameIndex := 481, descriptorIndex := 404, attributes := #[] }, { accessFlags := 25, nameIndex := 482, descriptorIndex := 404, attributes := #[] }, { accessFlags := 25, nameIndex := 484, descriptorIndex := 404, attributes := #[] }, { accessFlags := 25, nameIndex := 485, descriptorIndex := 404, attributes := #[] }, { accessFlags := 25, nameIndex := 486, descriptorIndex := 404, attributes := #[] }, { accessFlags := 25, nameIndex := 487, descriptorIndex := 404, attributes := #[] }, { accessFlags := 25, nameIndex := 488, descriptorIndex := 404, attributes := #[] }, { accessFlags := 25, nameIndex := 489, descriptorIndex := 22, attributes := #[] }, { accessFlags := 25, nameIndex := 490, descriptorIndex := 22, attributes := #[] }, { accessFlags := 25, nameIndex := 492, descriptorIndex := 22, attributes := #[] }, { accessFlags := 25, nameIndex := 493, descriptorIndex := 22, attributes := #[] }, { accessFlags := 25, nameIndex := 495, descriptorIndex := 22, attributes := #[] }, { accessFlags := 25, nameIndex := 496, descriptorIndex := 22, attributes := #[] }, { accessFlags := 25, nameIndex := 497, descriptorIndex := 392, attributes := #[] }, { accessFlags := 25, nameIndex := 498, descriptorIndex := 392, attributes := #[] }, { accessFlags := 25, nameIndex := 499, descriptorIndex := 392, attributes := #[] }, { accessFlags := 18, nameIndex := 21, descriptorIndex := 22, attributes := #[] }, { accessFlags := 26, nameIndex := 501, descriptorIndex := 502, attributes := #[] }, { accessFlags := 25, nameIndex := 505, descriptorIndex := 392, attributes := #[] }, { accessFlags := 25, nameIndex := 506, descriptorIndex := 392, attributes := #[] }, { accessFlags := 4120, nameIndex := 284, descriptorIndex := 285, attributes := #[] }])
  fields := #[{ name := "MIN_RADIX", type := .int, accessFlags := 25, slot := 0, constantValue := 0 }, { name := "MAX_RADIX", type := .int, accessFlags := 25, slot := 1, constantValue := 0 }, { name := "MIN_VALUE", type := .char, accessFlags := 25, slot := 2, constantValue := 0 }, { name := "MAX_VALUE", type := .char, accessFlags := 25, slot := 3, constantValue := 0 }, { name := "TYPE", type := (.object "java/lang/Class"), accessFlags := 25, slot := 4, constantValue := 0 }, { name := "UNASSIGNED", type := .byte, accessFlags := 25, slot := 5, constantValue := 0 }, { name := "UPPERCASE_LETTER", type := .byte, accessFlags := 25, slot := 6, constantValue := 0 }, { name := "LOWERCASE_LETTER", type := .byte, accessFlags := 25, slot := 7, constantValue := 0 }, { name := "TITLECASE_LETTER", type := .byte, accessFlags := 25, slot := 8, constantValue := 0 }, { name := "MODIFIER_LETTER", type := .byte, accessFlags := 25, slot := 9, constantValue := 0 }, { name := "OTHER_LETTER", type := .byte, accessFlags := 25, slot := 10, constantValue := 0 }, { name := "NON_SPACING_MARK", type := .byte, accessFlags := 25, slot := 11, constantValue := 0 }, { name := "ENCLOSING_MARK", type := .byte, accessFlags := 25, slot := 12, constantValue := 0 }, { name := "COMBINING_SPACING_MARK", type := .byte, accessFlags := 25, slot := 13, constantValue := 0 }, { name := "DECIMAL_DIGIT_NUMBER", type := .byte, accessFlags := 25, slot := 14, constantValue := 0 }, { name := "LETTER_NUMBER", type := .byte, accessFlags := 25, slot := 15, constantValue := 0 }, { name := "OTHER_NUMBER", type := .byte, accessFlags := 25, slot := 16, constantValue := 0 }, { name := "SPACE_SEPARATOR", type := .byte, accessFlags := 25, slot := 17, constantValue := 0 }, { name := "LINE_SEPARATOR", type := .byte, accessFlags := 25, slot := 18, constantValue := 0 }, { name := "PARAGRAPH_SEPARATOR", type := .byte, accessFlags := 25, slot := 19, constantValue := 0 }, { name := "CONTROL", type := .byte, accessFlags := 25, slot := 20, constantValue := 0 }, { name := "FORMAT", type := .byte, accessFlags := 25, slot := 21, constantValue := 0 }, { name := "PRIVATE_USE", type := .byte, accessFlags := 25, slot := 22, constantValue := 0 }, { name := "SURROGATE", type := .byte, accessFlags := 25, slot := 23, constantValue := 0 }, { name := "DASH_PUNCTUATION", type := .byte, accessFlags := 25, slot := 24, constantValue := 0 }, { name := "START_PUNCTUATION", type := .byte, accessFlags := 25, slot := 25, constantValue := 0 }, { name := "END_PUNCTUATION", type := .byte, accessFlags := 25, slot := 26, constantValue := 0 }, { name := "CONNECTOR_PUNCTUATION", type := .byte, accessFlags := 25, slot := 27, constantValue := 0 }, { name := "OTHER_PUNCTUATION", type := .byte, accessFlags := 25, slot := 28, constantValue := 0 }, { name := "MATH_SYMBOL", type := .byte, accessFlags := 25, slot := 29, constantValue := 0 }, { name := "CURRENCY_SYMBOL", type := .byte, accessFlags := 25, slot := 30, constantValue := 0 }, { name := "MODIFIER_SYMBOL", type := .byte, accessFlags := 25, slot := 31, constantValue := 0 }, { name := "OTHER_SYMBOL", type := .byte, accessFlags := 25, slot := 32, constantValue := 0 }, { name := "INITIAL_QUOTE_PUNCTUATION", type := .byte, accessFlags := 25, slot := 33, constantValue := 0 }, { name := "FINAL_QUOTE_PUNCTUATION", type := .byte, accessFlags := 25, slot := 34, constantValue := 0 }, { name := "ERROR", type := .int, accessFlags := 24, slot := 35, constantValue := 0 }, { name := "DIRECTIONALITY_UNDEFINED", type := .byte, accessFlags := 25, slot := 36, constantValue := 0 }, { name := "DIRECTIONALITY_LEFT_TO_RIGHT", type := .byte, accessFlags := 25, slot := 37, constantValue := 0 }, { name := "DIRECTIONALITY_RIGHT_TO_LEFT", type := .byte, accessFlags := 25, slot := 38, constantValue := 0 }, { name := "DIRECTIONALITY_RIGHT_TO_LEFT_ARABIC", type := .byte, accessFlags := 25, slot := 39, constantValue := 0 }, { name := "DIRECTIONALITY_EUROPEAN_NUMBER", type := .byte, accessFlags := 25, slot := 40, constantValue := 0 }, { name := "DIRECTIONALITY_EUROPEAN_NUMBER_SEPARATOR", type := .byte, accessFlags := 25, slot := 41, constantValue := 0 }, { name := "DIRECTIONALITY_EUROPEAN_NUMBER_TERMINATOR", type := .byte, accessFlags := 25, slot := 42, constantValue := 0 }, { name := "DIRECTIONALITY_ARABIC_NUMBER", type := .byte, accessFlags := 25, slot := 43, constantValue := 0 }, { name := "DIRECTIONALITY_COMMON_NUMBER_SEPARATOR", type := .byte, accessFlags := 25, slot := 44, constantValue := 0 }, { name := "DIRECTIONALITY_NONSPACING_MARK", type := .byte, accessFlags := 25, slot := 45, constantValue := 0 }, { name := "DIRECTIONALITY_BOUNDARY_NEUTRAL", type := .byte, accessFlags := 25, slot := 46, constantValue := 0 }, { name := "DIRECTIONALITY_PARAGRAPH_SEPARATOR", type := .byte, accessFlags := 25, slot := 47, constantValue := 0 }, { name := "DIRECTIONALITY_SEGMENT_SEPARATOR", type := .byte, accessFlags := 25, slot := 48, constantValue := 0 }, { name := "DIRECTIONALITY_WHITESPACE", type := .byte, accessFlags := 25, slot := 49, constantValue := 0 }, { name := "DIRECTIONALITY_OTHER_NEUTRALS", type := .byte, accessFlags := 25, slot := 50, constantValue := 0 }, { name := "DIRECTIONALITY_LEFT_TO_RIGHT_EMBEDDING", type := .byte, accessFlags := 25, slot := 51, constantValue := 0 }, { name := "DIRECTIONALITY_LEFT_TO_RIGHT_OVERRIDE", type := .byte, accessFlags := 25, slot := 52, constantValue := 0 }, { name := "DIRECTIONALITY_RIGHT_TO_LEFT_EMBEDDING", type := .byte, accessFlags := 25, slot := 53, constantValue := 0 }, { name := "DIRECTIONALITY_RIGHT_TO_LEFT_OVERRIDE", type := .byte, accessFlags := 25, slot := 54, constantValue := 0 }, { name := "DIRECTIONALITY_POP_DIRECTIONAL_FORMAT", type := .byte, accessFlags := 25, slot := 55, constantValue := 0 }, { name := "DIRECTIONALITY_LEFT_TO_RIGHT_ISOLATE", type := .byte, accessFlags := 25, slot := 56, constantValue := 0 }, { name := "DIRECTIONALITY_RIGHT_TO_LEFT_ISOLATE", type := .byte, accessFlags := 25, slot := 57, constantValue := 0 }, { name := "DIRECTIONALITY_FIRST_STRONG_ISOLATE", type := .byte, accessFlags := 25, slot := 58, constantValue := 0 }, { name := "DIRECTIONALITY_POP_DIRECTIONAL_ISOLATE", type := .byte, accessFlags := 25, slot := 59, constantValue := 0 }, { name := "MIN_HIGH_SURROGATE", type := .char, accessFlags := 25, slot := 60, constantValue := 0 }, { name := "MAX_HIGH_SURROGATE", type := .char, accessFlags := 25, slot := 61, constantValue := 0 }, { name := "MIN_LOW_SURROGATE", type := .char, accessFlags := 25, slot := 62, constantValue := 0 }, { name := "MAX_LOW_SURROGATE", type := .char, accessFlags := 25, slot := 63, constantValue := 0 }, { name := "MIN_SURROGATE", type := .char, accessFlags := 25, slot := 64, constantValue := 0 }, { name := "MAX_SURROGATE", type := .char, accessFlags := 25, slot := 65, constantValue := 0 }, { name := "MIN_SUPPLEMENTARY_CODE_POINT", type := .int, accessFlags := 25, slot := 66, constantValue := 0 }, { name := "MIN_CODE_POINT", type := .int, accessFlags := 25, slot := 67, constantValue := 0 }, { name := "MAX_CODE_POINT", type := .int, accessFlags := 25, slot := 68, constantValue := 0 }, { name := "value", type := .char, accessFlags := 18, slot := 0, constantValue := 0 }, { name := "serialVersionUID", type := .long, accessFlags := 26, slot := 69, constantValue := 0 }, { name := "SIZE", type := .int, accessFlags := 25, slot := 70, constantValue := 0 }, { name := "BYTES", type := .int, accessFlags := 25, slot := 71, constantValue := 0 }, { name := "$assertionsDisabled", type := .boolean, accessFlags := 4120, slot := 72, constantValue := 0 }]
  methods := #[k14m0, k14m1, k14m2]
  instanceTypes := #[.char]
  staticTypes := #[.int, .int, .char, .char, (.object "java/lang/Class"), .byte, .byte, .byte, .byte, .byte, .byte, .byte, .byte, .byte, .byte, .byte, .byte, .byte, .byte, .byte, .byte, .byte, .byte, .byte, .byte, .byte, .byte, .byte, .byte, .byte, .byte, .byte, .byte, .byte, .byte, .int, .byte, .byte, .byte, .byte, .byte, .byte, .byte, .byte, .byte, .byte, .byte, .byte, .byte, .byte, .byte, .byte, .byte, .byte, .byte, .byte, .byte, .byte, .byte, .byte, .char, .char, .char, .char, .char, .char, .int, .int, .int, .long, .int, .int, .boolean]
  resolved := Array.replicate 604 none
  statics := none }

def pool15 : Array CpInfo := pool [(9, u "<init>"), (6, .class_ 18), (1, u "java/lang/Object"), (0, u "()V"), (1, .class_ 23), (1, u "jdk/internal/util/ArraysSupport"), (0, u "LOG2_ARRAY_LONG_INDEX_SCALE"), (0, u "I"), (2, u "U"), (0, u "Ljdk/internal/misc/Unsafe;"), (8, u "BIG_ENDIAN"), (0, u "Z"), (8, u "LOG2_BYTE_BIT_SIZE"), (4, u "LOG2_ARRAY_INT_INDEX_SCALE"), (54, u "JLA"), (0, u "Ljdk/internal/access/JavaLangAccess;"), (11, u "LOG2_ARRAY_BOOLEAN_INDEX_SCALE"), (9, u "LOG2_ARRAY_BYTE_INDEX_SCALE"), (5, u "LOG2_ARRAY_CHAR_INDEX_SCALE"), (5, u "LOG2_ARRAY_SHORT_INDEX_SCALE"), (5, u "mismatch"), (12, u "LOG2_ARRAY_FLOAT_INDEX_SCALE"), (24, u "LOG2_ARRAY_DOUBLE_INDEX_SCALE"), (89, u "T_BOOLEAN"), (2, u "T_CHAR"), (1, u "T_FLOAT"), (1, u "T_DOUBLE"), (1, u "T_BYTE"), (1, u "T_SHORT"), (1, u "T_INT"), (1, u "T_LONG"), (1, u "SOFT_MAX_ARRAY_LENGTH"), (42, u "([BI[BII)I")] 40

def k15m0 : Method := { name := "<init>", desc := "()V", sig := { parameters := [], returnType := none }, accessFlags := 2, code := none }
def k15c1 : Code := { maxStack := 8, maxLocals := 8, code := jdk_48_method_14_code, exceptionTable := #[], attributes := #[] }
def k15m1 : Method := { name := "mismatch", desc := "([BI[BII)I", sig := { parameters := [(.array .byte), .int, (.array .byte), .int, .int], returnType := some .int }, accessFlags := 9, code := some k15c1 }
/-- jdk/internal/util/ArraysSupport -/
def k15 : Class := { plain "jdk/internal/util/ArraysSupport" (some 0) with
  accessFlags := 33
  interfaces := #[]
  cf := some (fileOf pool15 21 #[] #[{ accessFlags := 2, nameIndex := 9, descriptorIndex := 19, attributes := #[] }, { accessFlags := 9, nameIndex := 149, descriptorIndex := 337, attributes := #[] }] 33 16 #[] #[{ accessFlags := 24, nameIndex := 28, descriptorIndex := 29, attributes := #[] }, { accessFlags := 26, nameIndex := 38, descriptorIndex := 39, attributes := #[] }, { accessFlags := 25, nameIndex := 121, descriptorIndex := 25, attributes := #[] }, { accessFlags := 25, nameIndex := 131, descriptorIndex := 25, attributes := #[] }, { accessFlags := 25, nameIndex := 137, descriptorIndex := 25, attributes := #[] }, { accessFlags := 25, nameIndex := 143, descriptorIndex := 25, attributes := #[] }, { accessFlags := 25, nameIndex := 53, descriptorIndex := 25, attributes := #[] }, { accessFlags := 25, nameIndex := 24, descriptorIndex := 25, attributes := #[] }, { accessFlags := 25, nameIndex := 162, descriptorIndex := 25, attributes := #[] }, { accessFlags := 25, nameIndex := 187, descriptorIndex := 25, attributes := #[] }, { accessFlags := 26, nameIndex := 48, descriptorIndex := 25, attributes := #[] }, { accessFlags := 25, nameIndex := 277, descriptorIndex := 25, attributes := #[] }, { accessFlags := 25, nameIndex := 280, descriptorIndex := 25, attributes := #[] }, { accessFlags := 25, nameIndex := 282, descriptorIndex := 25, attributes := #[] }, { accessFlags := 25, nameIndex := 284, descriptorIndex := 25, attributes := #[] }, { accessFlags := 25, nameIndex := 286, descriptorIndex := 25, attributes := #[] }, { accessFlags := 25, nameIndex := 288, descriptorIndex := 25, attributes := #[] }, { accessFlags := 25, nameIndex := 290, descriptorIndex := 25, attributes := #[] }, { accessFlags := 25, nameIndex := 292, descriptorIndex := 25, attributes := #[] }, { accessFlags := 26, nameIndex := 108, descriptorIndex := 109, attributes := #[] }, { accessFlags := 25, nameIndex := 294, descriptorIndex := 25, attributes := #[] }])
  fields := #[{ name := "U", type := (.object "jdk/internal/misc/Unsafe"), accessFlags := 24, slot := 0, constantValue := 0 }, { name := "BIG_ENDIAN", type := .boolean, accessFlags := 26, slot := 1, constantValue := 0 }, { name := "LOG2_ARRAY_BOOLEAN_INDEX_SCALE", type := .int, accessFlags := 25, slot := 2, constantValue := 0 }, { name := "LOG2_ARRAY_BYTE_INDEX_SCALE", type := .int, accessFlags := 25, slot := 3, constantValue := 0 }, { name := "LOG2_ARRAY_CHAR_INDEX_SCALE", type := .int, accessFlags := 25, slot := 4, constantValue := 0 }, { name := "LOG2_ARRAY_SHORT_INDEX_SCALE", type := .int, accessFlags := 25, slot := 5, constantValue := 0 }, { name := "LOG2_ARRAY_INT_INDEX_SCALE", type := .int, accessFlags := 25, slot := 6, constantValue := 0 }, { name := "LOG2_ARRAY_LONG_INDEX_SCALE", type := .int, accessFlags := 25, slot := 7, constantValue := 0 }, { name := "LOG2_ARRAY_FLOAT_INDEX_SCALE", type := .int, accessFlags := 25, slot := 8, constantValue := 0 }, { name := "LOG2_ARRAY_DOUBLE_INDEX_SCALE", type := .int, accessFlags := 25, slot := 9, constantValue := 0 }, { name := "LOG2_BYTE_BIT_SIZE", type := .int, accessFlags := 26, slot := 10, constantValue := 0 }, { name := "T_BOOLEAN", type := .int, accessFlags := 25, slot := 11, constantValue := 0 }, { name := "T_CHAR", type := .int, accessFlags := 25, slot := 12, constantValue := 0 }, { name := "T_FLOAT", type := .int, accessFlags := 25, slot := 13, constantValue := 0 }, { name := "T_DOUBLE", type := .int, accessFlags := 25, slot := 14, constantValue := 0 }, { name := "T_BYTE", type := .int, accessFlags := 25, slot := 15, constantValue := 0 }, { name := "T_SHORT", type := .int, accessFlags := 25, slot := 16, constantValue := 0 }, { name := "T_INT", type := .int, accessFlags := 25, slot := 17, constantValue := 0 }, { name := "T_LONG", type := .int, accessFlags := 25, slot := 18, constantValue := 0 }, { name := "JLA", type := (.object "jdk/internal/access/JavaLangAccess"), accessFlags := 26, slot := 19, constantValue := 0 }, { name := "SOFT_MAX_ARRAY_LENGTH", type := .int, accessFlags := 25, slot := 20, constantValue := 0 }]
  methods := #[k15m0, k15m1]
  instanceTypes := #[]
  staticTypes := #[(.object "jdk/internal/misc/Unsafe"), .boolean, .int, .int, .int, .int, .int, .int, .int, .int, .int, .int, .int, .int, .int, .int, .int, .int, .int, (.object "jdk/internal/access/JavaLangAccess"), .int]
  resolved := Array.replicate 378 none
  statics := none }

def pool16 : Array CpInfo := pool [(1, u "java/lang/Cloneable"), (0, .class_ 1), (0, u "java/lang/Object"), (0, .class_ 3)] 3

/-- java/lang/Cloneable -/
def k16 : Class := { plain "java/lang/Cloneable" (some 0) with
  accessFlags := 1537
  interfaces := #[]
  cf := some (fileOf pool16 2 #[] #[] 1537 4 #[] #[])
  fields := #[]
  methods := #[]
  instanceTypes := #[]
  staticTypes := #[]
  resolved := Array.replicate 8 none
  statics := none }

/-- the primitive byte -/
def k17 : Class := { plain "byte" none with kind := .primitive 'B', accessFlags := 0x411 }
/-- [B -/
def k18 : Class := { plain "[B" (some 0) with kind := .array 17 .byte, interfaces := #[16, 2], accessFlags := 1041 }

/-- the primitive char -/
def k19 : Class := { plain "char" none with kind := .primitive 'C', accessFlags := 0x411 }
/-- [C -/
def k20 : Class := { plain "[C" (some 0) with kind := .array 19 .char, interfaces := #[16, 2], accessFlags := 1041 }

/-- the primitive int -/
def k21 : Class := { plain "int" none with kind := .primitive 'I', accessFlags := 0x411 }
/-- [I -/
def k22 : Class := { plain "[I" (some 0) with kind := .array 21 .int, interfaces := #[16, 2], accessFlags := 1041 }

def heap : Heap := #[{ cls := 7, slots := #[.long 0, .int 1, .null, .int 0, .null, .int 0, .int 0], vm := .statics 7 },
  { cls := 8, slots := #[.int 0, .int 8, .int 0, .int 1], vm := .statics 8 },
  { cls := 12, slots := #[.null, .null, .null], vm := .statics 12 }]
def classes : Array Class := #[k0, k1, k2, k3, k4, k5, k6, k7, k8, k9, k10, k11, k12, k13, k14, k15, k16, k17, k18, k19, k20, k21, k22]
def interned : List (Array UInt16 × Addr) := []
def slotsUsed : Nat := 14
def theMethod : MethodId := ⟨1, 4⟩
def args0 : Array Value := #[.int 7, .int 1, .int 2, .int 3, .int 4]
def aboutOver (below : List Frame) : State where
  vm := { classes := classes, interned := interned.toArray }
  heap := heap
  slotsUsed := slotsUsed
  threads := #[{ frames := .invoking theMethod args0 :: below }]
def below0 : List Frame := [.native { method := ⟨0, 0⟩, args := #[] }]
def about1 : State := aboutOver below0
def p0 : Program := .bare "" "" ""
def e0 : Env := launch0.env 0 0 0
theorem w_frames : about1.frames = Frame.invoking theMethod args0 :: below0 := rfl
set_option maxRecDepth 65536 in
theorem w_args : argsFit about1.vm theMethod args0 = true := by decide +kernel
set_option maxRecDepth 65536 in
theorem w_heap : heapFits about1 = true := by decide +kernel
set_option maxRecDepth 65536 in
theorem w_runnable : about1.curStatus? = some .runnable := by decide +kernel
set_option maxRecDepth 65536 in
theorem w_alone : about1.alone = true := by decide +kernel
set_option maxRecDepth 65536 in
theorem w_named : about1.methodNamed? x = some theMethod := by decide +kernel
set_option maxRecDepth 65536 in
theorem w_hears : about1.hears theMethod below0 = true := by decide +kernel
set_option maxRecDepth 65536 in
theorem w_ripe : about1.ripe theMethod args0 below0 = true := by decide +kernel
theorem w_running : about1.status = .running := rfl
set_option maxRecDepth 65536 in
theorem w_room : about1.hasRoom e0.platform room_1 = true :=
  launch0.hasRoom_least _ room_1 (by decide +kernel) (by decide +kernel) (by decide +kernel) (by decide +kernel) (by decide +kernel) (by decide +kernel)
theorem allAtoms_all (ts : List Jvm.Cond) (a : Array Jvm.Value) (st : Jvm.State) : (allAtoms ts).before a st = ts.all (fun c => c.before a st) := by
  induction ts with
  | nil => rfl
  | cons c t ih =>
    show (Jvm.Cond.and c (allAtoms t)).before a st = _
    rw [Jvm.Cond.before_and, ih, List.all_cons]
def words1 : List Jvm.Cond := Jvm.Cond.code x code maxLocals ret :: tables_1
/-- a 'code' word, met by the world's own term for the bytes: nothing is compared byte by byte -/
theorem code_word {y : MethodName} {bytes : ByteArray} {mx : Nat} {rt : Option FieldType} {a : Array Value} {s : State} {m : MethodId} {meth : Method} {c : Code} (h1 : s.methodNamed? y = some m) (h2 : s.vm.method? m = some meth) (h3 : meth.code = some c) (h4 : c.code = bytes)
    (h5 : (c.maxLocals == mx && c.exceptionTable.isEmpty && decide (c.maxStack ≤ mostOperands) && decide (meth.sig.returnType = rt) && !meth.locks && decide (parseMethodDescriptor y.desc = some meth.sig)) = true) : (Jvm.Cond.code y bytes mx rt).before a s = true := by
  simp only [Bool.and_eq_true, beq_iff_eq, Bool.not_eq_true', decide_eq_true_eq] at h5
  obtain ⟨⟨⟨⟨⟨g1, g2⟩, g3⟩, g4⟩, g5⟩, g6⟩ := h5
  simp [Cond.before, Cond.holds, Cond.value, h1, h2, h3, h4, g1, g2, g3, g4, g5, g6]
def isCode : Jvm.Cond → Bool
  | .code _ _ _ _ => true
  | _ => false
theorem all_split {L : List Jvm.Cond} {P : Jvm.Cond → Bool} (h1 : L.all (fun c => isCode c || P c) = true) (h2 : ∀ c ∈ L.filter isCode, P c = true) : L.all P = true := by
  refine List.all_eq_true.mpr fun c hc => ?_
  have h := List.all_eq_true.mp h1 c hc
  rcases Bool.eq_false_or_eq_true (isCode c) with hi | hi
  · exact h2 c (List.mem_filter.mpr ⟨hc, hi⟩)
  · simpa [hi] using h
set_option maxRecDepth 65536 in
theorem w_c0 : (Jvm.Cond.code x code maxLocals ret).before args0 about1 = true := code_word (m := ⟨1, 4⟩) (meth := k1m4) (c := k1c4) (by decide +kernel) rfl rfl rfl (by decide +kernel)
set_option maxRecDepth 65536 in
theorem w_c1 : (Jvm.Cond.code ({ cls := "com/example/tote/tote/JsonTextCheckPinLaw", name := "ws", desc := "(I)C" } : Jvm.MethodName) method_2_code (2 : Nat) (Option.some Jvm.ClassFile.FieldType.char)).before args0 about1 = true := code_word (m := ⟨1, 1⟩) (meth := k1m1) (c := k1c1) (by decide +kernel) rfl rfl rfl (by decide +kernel)
set_option maxRecDepth 65536 in
theorem w_c2 : (Jvm.Cond.code ({ cls := "com/example/tote/tote/JsonTextCheckPinLaw", name := "safe", desc := "(I)C" } : Jvm.MethodName) method_3_code (2 : Nat) (Option.some Jvm.ClassFile.FieldType.char)).before args0 about1 = true := code_word (m := ⟨1, 2⟩) (meth := k1m2) (c := k1c2) (by decide +kernel) rfl rfl rfl (by decide +kernel)
set_option maxRecDepth 65536 in
theorem w_c3 : (Jvm.Cond.code ({ cls := "java/lang/String", name := "<init>", desc := "([C)V" } : Jvm.MethodName) jdk_42_method_3_code (2 : Nat) (Option.none : Option Jvm.ClassFile.FieldType)).before args0 about1 = true := code_word (m := ⟨7, 1⟩) (meth := k7m1) (c := k7c1) (by decide +kernel) rfl rfl rfl (by decide +kernel)
set_option maxRecDepth 65536 in
theorem w_c4 : (Jvm.Cond.code ({ cls := "java/lang/String", name := "<init>", desc := "([CIILjava/lang/Void;)V" } : Jvm.MethodName) jdk_42_method_149_code (6 : Nat) (Option.none : Option Jvm.ClassFile.FieldType)).before args0 about1 = true := code_word (m := ⟨7, 7⟩) (meth := k7m7) (c := k7c7) (by decide +kernel) rfl rfl rfl (by decide +kernel)
set_option maxRecDepth 65536 in
theorem w_c5 : (Jvm.Cond.code ({ cls := "java/lang/Object", name := "<init>", desc := "()V" } : Jvm.MethodName) object_method_1_code (1 : Nat) (Option.none : Option Jvm.ClassFile.FieldType)).before args0 about1 = true := code_word (m := ⟨0, 0⟩) (meth := k0m0) (c := k0c0) (by decide +kernel) rfl rfl rfl (by decide +kernel)
set_option maxRecDepth 65536 in
theorem w_c6 : (Jvm.Cond.code ({ cls := "java/lang/StringUTF16", name := "compress", desc := "([CII)[B" } : Jvm.MethodName) jdk_52_method_16_code (6 : Nat) (Option.some (Jvm.ClassFile.FieldType.array Jvm.ClassFile.FieldType.byte))).before args0 about1 = true := code_word (m := ⟨8, 8⟩) (meth := k8m8) (c := k8c8) (by decide +kernel) rfl rfl rfl (by decide +kernel)
set_option maxRecDepth 65536 in
theorem w_c7 : (Jvm.Cond.code ({ cls := "java/lang/StringUTF16", name := "compress", desc := "([CI[BII)I" } : Jvm.MethodName) jdk_52_method_21_code (7 : Nat) (Option.some Jvm.ClassFile.FieldType.int)).before args0 about1 = true := code_word (m := ⟨8, 9⟩) (meth := k8m9) (c := k8c9) (by decide +kernel) rfl rfl rfl (by decide +kernel)
set_option maxRecDepth 65536 in
theorem w_c8 : (Jvm.Cond.code ({ cls := "java/lang/StringUTF16", name := "coderFromArrayLen", desc := "([BI)B" } : Jvm.MethodName) jdk_52_method_15_code (2 : Nat) (Option.some Jvm.ClassFile.FieldType.byte)).before args0 about1 = true := code_word (m := ⟨8, 7⟩) (meth := k8m7) (c := k8c7) (by decide +kernel) rfl rfl rfl (by decide +kernel)
set_option maxRecDepth 65536 in
theorem w_c9 : (Jvm.Cond.code ({ cls := "com/example/tote/tote/JsonText", name := "check", desc := "(Ljava/lang/String;)V" } : Jvm.MethodName) prog_12_method_2_code (2 : Nat) (Option.none : Option Jvm.ClassFile.FieldType)).before args0 about1 = true := code_word (m := ⟨9, 1⟩) (meth := k9m1) (c := k9c1) (by decide +kernel) rfl rfl rfl (by decide +kernel)
set_option maxRecDepth 65536 in
theorem w_c10 : (Jvm.Cond.code ({ cls := "java/util/Objects", name := "requireNonNull", desc := "(Ljava/lang/Object;Ljava/lang/String;)Ljava/lang/Object;" } : Jvm.MethodName) jdk_31_method_11_code (2 : Nat) (Option.some (Jvm.ClassFile.FieldType.object "java/lang/Object"))).before args0 about1 = true := code_word (m := ⟨10, 1⟩) (meth := k10m1) (c := k10c1) (by decide +kernel) rfl rfl rfl (by decide +kernel)
set_option maxRecDepth 65536 in
theorem w_c11 : (Jvm.Cond.code ({ cls := "com/example/tote/tote/JsonText", name := "<init>", desc := "(Ljava/lang/String;)V" } : Jvm.MethodName) prog_12_method_1_code (2 : Nat) (Option.none : Option Jvm.ClassFile.FieldType)).before args0 about1 = true := code_word (m := ⟨9, 0⟩) (meth := k9m0) (c := k9c0) (by decide +kernel) rfl rfl rfl (by decide +kernel)
set_option maxRecDepth 65536 in
theorem w_c12 : (Jvm.Cond.code ({ cls := "com/example/tote/tote/JsonText", name := "skipWhitespace", desc := "()V" } : Jvm.MethodName) prog_12_method_13_code (1 : Nat) (Option.none : Option Jvm.ClassFile.FieldType)).before args0 about1 = true := code_word (m := ⟨9, 12⟩) (meth := k9m12) (c := k9c12) (by decide +kernel) rfl rfl rfl (by decide +kernel)
set_option maxRecDepth 65536 in
theorem w_c13 : (Jvm.Cond.code ({ cls := "java/lang/String", name := "length", desc := "()I" } : Jvm.MethodName) jdk_42_method_54_code (1 : Nat) (Option.some Jvm.ClassFile.FieldType.int)).before args0 about1 = true := code_word (m := ⟨7, 2⟩) (meth := k7m2) (c := k7c2) (by decide +kernel) rfl rfl rfl (by decide +kernel)
set_option maxRecDepth 65536 in
theorem w_c14 : (Jvm.Cond.code ({ cls := "java/lang/String", name := "coder", desc := "()B" } : Jvm.MethodName) jdk_42_method_152_code (1 : Nat) (Option.some Jvm.ClassFile.FieldType.byte)).before args0 about1 = true := code_word (m := ⟨7, 8⟩) (meth := k7m8) (c := k7c8) (by decide +kernel) rfl rfl rfl (by decide +kernel)
set_option maxRecDepth 65536 in
theorem w_c15 : (Jvm.Cond.code ({ cls := "java/lang/String", name := "charAt", desc := "(I)C" } : Jvm.MethodName) jdk_42_method_56_code (2 : Nat) (Option.some Jvm.ClassFile.FieldType.char)).before args0 about1 = true := code_word (m := ⟨7, 3⟩) (meth := k7m3) (c := k7c3) (by decide +kernel) rfl rfl rfl (by decide +kernel)
set_option maxRecDepth 65536 in
theorem w_c16 : (Jvm.Cond.code ({ cls := "java/lang/String", name := "isLatin1", desc := "()Z" } : Jvm.MethodName) jdk_42_method_154_code (1 : Nat) (Option.some Jvm.ClassFile.FieldType.boolean)).before args0 about1 = true := code_word (m := ⟨7, 9⟩) (meth := k7m9) (c := k7c9) (by decide +kernel) rfl rfl rfl (by decide +kernel)
set_option maxRecDepth 65536 in
theorem w_c17 : (Jvm.Cond.code ({ cls := "java/lang/StringLatin1", name := "charAt", desc := "([BI)C" } : Jvm.MethodName) jdk_43_method_2_code (2 : Nat) (Option.some Jvm.ClassFile.FieldType.char)).before args0 about1 = true := code_word (m := ⟨11, 1⟩) (meth := k11m1) (c := k11c1) (by decide +kernel) rfl rfl rfl (by decide +kernel)
set_option maxRecDepth 65536 in
theorem w_c18 : (Jvm.Cond.code ({ cls := "java/lang/String", name := "checkIndex", desc := "(II)V" } : Jvm.MethodName) jdk_42_method_155_code (2 : Nat) (Option.none : Option Jvm.ClassFile.FieldType)).before args0 about1 = true := code_word (m := ⟨7, 10⟩) (meth := k7m10) (c := k7c10) (by decide +kernel) rfl rfl rfl (by decide +kernel)
set_option maxRecDepth 65536 in
theorem w_c19 : (Jvm.Cond.code ({ cls := "jdk/internal/util/Preconditions", name := "checkIndex", desc := "(IILjava/util/function/BiFunction;)I" } : Jvm.MethodName) jdk_41_method_11_code (3 : Nat) (Option.some Jvm.ClassFile.FieldType.int)).before args0 about1 = true := code_word (m := ⟨12, 1⟩) (meth := k12m1) (c := k12c1) (by decide +kernel) rfl rfl rfl (by decide +kernel)
set_option maxRecDepth 65536 in
theorem w_c20 : (Jvm.Cond.code ({ cls := "java/lang/String", name := "indexOf", desc := "(I)I" } : Jvm.MethodName) jdk_42_method_79_code (2 : Nat) (Option.some Jvm.ClassFile.FieldType.int)).before args0 about1 = true := code_word (m := ⟨7, 5⟩) (meth := k7m5) (c := k7c5) (by decide +kernel) rfl rfl rfl (by decide +kernel)
set_option maxRecDepth 65536 in
theorem w_c21 : (Jvm.Cond.code ({ cls := "java/lang/String", name := "indexOf", desc := "(II)I" } : Jvm.MethodName) jdk_42_method_80_code (3 : Nat) (Option.some Jvm.ClassFile.FieldType.int)).before args0 about1 = true := code_word (m := ⟨7, 6⟩) (meth := k7m6) (c := k7c6) (by decide +kernel) rfl rfl rfl (by decide +kernel)
set_option maxRecDepth 65536 in
theorem w_c22 : (Jvm.Cond.code ({ cls := "java/lang/StringLatin1", name := "indexOf", desc := "([BIII)I" } : Jvm.MethodName) jdk_43_method_22_code (4 : Nat) (Option.some Jvm.ClassFile.FieldType.int)).before args0 about1 = true := code_word (m := ⟨11, 3⟩) (meth := k11m3) (c := k11c3) (by decide +kernel) rfl rfl rfl (by decide +kernel)
set_option maxRecDepth 65536 in
theorem w_c23 : (Jvm.Cond.code ({ cls := "java/lang/StringLatin1", name := "canEncode", desc := "(I)Z" } : Jvm.MethodName) jdk_43_method_4_code (1 : Nat) (Option.some Jvm.ClassFile.FieldType.boolean)).before args0 about1 = true := code_word (m := ⟨11, 2⟩) (meth := k11m2) (c := k11c2) (by decide +kernel) rfl rfl rfl (by decide +kernel)
set_option maxRecDepth 65536 in
theorem w_c24 : (Jvm.Cond.code ({ cls := "java/lang/Math", name := "max", desc := "(II)I" } : Jvm.MethodName) jdk_29_method_65_code (2 : Nat) (Option.some Jvm.ClassFile.FieldType.int)).before args0 about1 = true := code_word (m := ⟨13, 2⟩) (meth := k13m2) (c := k13c2) (by decide +kernel) rfl rfl rfl (by decide +kernel)
set_option maxRecDepth 65536 in
theorem w_c25 : (Jvm.Cond.code ({ cls := "java/lang/Math", name := "min", desc := "(II)I" } : Jvm.MethodName) jdk_29_method_69_code (2 : Nat) (Option.some Jvm.ClassFile.FieldType.int)).before args0 about1 = true := code_word (m := ⟨13, 3⟩) (meth := k13m3) (c := k13c3) (by decide +kernel) rfl rfl rfl (by decide +kernel)
set_option maxRecDepth 65536 in
theorem w_c26 : (Jvm.Cond.code ({ cls := "java/lang/StringLatin1", name := "indexOfChar", desc := "([BIII)I" } : Jvm.MethodName) jdk_43_method_23_code (6 : Nat) (Option.some Jvm.ClassFile.FieldType.int)).before args0 about1 = true := code_word (m := ⟨11, 4⟩) (meth := k11m4) (c := k11c4) (by decide +kernel) rfl rfl rfl (by decide +kernel)
set_option maxRecDepth 65536 in
theorem w_c27 : (Jvm.Cond.code ({ cls := "com/example/tote/tote/JsonText", name := "value", desc := "(I)V" } : Jvm.MethodName) prog_12_method_3_code (3 : Nat) (Option.none : Option Jvm.ClassFile.FieldType)).before args0 about1 = true := code_word (m := ⟨9, 2⟩) (meth := k9m2) (c := k9c2) (by decide +kernel) rfl rfl rfl (by decide +kernel)
set_option maxRecDepth 65536 in
theorem w_c28 : (Jvm.Cond.code ({ cls := "com/example/tote/tote/JsonText", name := "string", desc := "()V" } : Jvm.MethodName) prog_12_method_6_code (2 : Nat) (Option.none : Option Jvm.ClassFile.FieldType)).before args0 about1 = true := code_word (m := ⟨9, 5⟩) (meth := k9m5) (c := k9c5) (by decide +kernel) rfl rfl rfl (by decide +kernel)
set_option maxRecDepth 65536 in
theorem w_c29 : (Jvm.Cond.code ({ cls := "java/lang/Character", name := "isHighSurrogate", desc := "(C)Z" } : Jvm.MethodName) jdk_89_method_14_code (1 : Nat) (Option.some Jvm.ClassFile.FieldType.boolean)).before args0 about1 = true := code_word (m := ⟨14, 0⟩) (meth := k14m0) (c := k14c0) (by decide +kernel) rfl rfl rfl (by decide +kernel)
set_option maxRecDepth 65536 in
theorem w_c30 : (Jvm.Cond.code ({ cls := "java/lang/Character", name := "isSurrogate", desc := "(C)Z" } : Jvm.MethodName) jdk_89_method_16_code (1 : Nat) (Option.some Jvm.ClassFile.FieldType.boolean)).before args0 about1 = true := code_word (m := ⟨14, 2⟩) (meth := k14m2) (c := k14c2) (by decide +kernel) rfl rfl rfl (by decide +kernel)
set_option maxRecDepth 65536 in
theorem w_c31 : (Jvm.Cond.code ({ cls := "com/example/tote/tote/JsonText", name := "isDigit", desc := "(C)Z" } : Jvm.MethodName) prog_12_method_17_code (1 : Nat) (Option.some Jvm.ClassFile.FieldType.boolean)).before args0 about1 = true := code_word (m := ⟨9, 16⟩) (meth := k9m16) (c := k9c16) (by decide +kernel) rfl rfl rfl (by decide +kernel)
set_option maxRecDepth 65536 in
theorem w_c32 : (Jvm.Cond.code ({ cls := "com/example/tote/tote/JsonText", name := "literal", desc := "(Ljava/lang/String;)Z" } : Jvm.MethodName) prog_12_method_11_code (3 : Nat) (Option.some Jvm.ClassFile.FieldType.boolean)).before args0 about1 = true := code_word (m := ⟨9, 10⟩) (meth := k9m10) (c := k9c10) (by decide +kernel) rfl rfl rfl (by decide +kernel)
set_option maxRecDepth 65536 in
theorem w_c33 : (Jvm.Cond.code ({ cls := "java/lang/String", name := "startsWith", desc := "(Ljava/lang/String;I)Z" } : Jvm.MethodName) jdk_42_method_75_code (8 : Nat) (Option.some Jvm.ClassFile.FieldType.boolean)).before args0 about1 = true := code_word (m := ⟨7, 4⟩) (meth := k7m4) (c := k7c4) (by decide +kernel) rfl rfl rfl (by decide +kernel)
set_option maxRecDepth 65536 in
theorem w_c34 : (Jvm.Cond.code ({ cls := "jdk/internal/util/ArraysSupport", name := "mismatch", desc := "([BI[BII)I" } : Jvm.MethodName) jdk_48_method_14_code (8 : Nat) (Option.some Jvm.ClassFile.FieldType.int)).before args0 about1 = true := code_word (m := ⟨15, 1⟩) (meth := k15m1) (c := k15c1) (by decide +kernel) rfl rfl rfl (by decide +kernel)
set_option maxRecDepth 65536 in
theorem w_c35 : (Jvm.Cond.code ({ cls := "java/lang/StringUTF16", name := "toBytes", desc := "([CII)[B" } : Jvm.MethodName) jdk_52_method_14_code (5 : Nat) (Option.some (Jvm.ClassFile.FieldType.array Jvm.ClassFile.FieldType.byte))).before args0 about1 = true := code_word (m := ⟨8, 6⟩) (meth := k8m6) (c := k8c6) (by decide +kernel) rfl rfl rfl (by decide +kernel)
set_option maxRecDepth 65536 in
theorem w_c36 : (Jvm.Cond.code ({ cls := "java/lang/StringUTF16", name := "newBytesFor", desc := "(I)[B" } : Jvm.MethodName) jdk_52_method_2_code (1 : Nat) (Option.some (Jvm.ClassFile.FieldType.array Jvm.ClassFile.FieldType.byte))).before args0 about1 = true := code_word (m := ⟨8, 1⟩) (meth := k8m1) (c := k8c1) (by decide +kernel) rfl rfl rfl (by decide +kernel)
set_option maxRecDepth 65536 in
theorem w_c37 : (Jvm.Cond.code ({ cls := "java/lang/StringUTF16", name := "newBytesLength", desc := "(I)I" } : Jvm.MethodName) jdk_52_method_3_code (1 : Nat) (Option.some Jvm.ClassFile.FieldType.int)).before args0 about1 = true := code_word (m := ⟨8, 2⟩) (meth := k8m2) (c := k8c2) (by decide +kernel) rfl rfl rfl (by decide +kernel)
set_option maxRecDepth 65536 in
theorem w_c38 : (Jvm.Cond.code ({ cls := "java/lang/StringUTF16", name := "putChar", desc := "([BII)V" } : Jvm.MethodName) jdk_52_method_4_code (3 : Nat) (Option.none : Option Jvm.ClassFile.FieldType)).before args0 about1 = true := code_word (m := ⟨8, 3⟩) (meth := k8m3) (c := k8c3) (by decide +kernel) rfl rfl rfl (by decide +kernel)
set_option maxRecDepth 65536 in
theorem w_c39 : (Jvm.Cond.code ({ cls := "java/lang/StringUTF16", name := "getChar", desc := "([BI)C" } : Jvm.MethodName) jdk_52_method_5_code (2 : Nat) (Option.some Jvm.ClassFile.FieldType.char)).before args0 about1 = true := code_word (m := ⟨8, 4⟩) (meth := k8m4) (c := k8c4) (by decide +kernel) rfl rfl rfl (by decide +kernel)
set_option maxRecDepth 65536 in
theorem w_c40 : (Jvm.Cond.code ({ cls := "java/lang/StringUTF16", name := "charAt", desc := "([BI)C" } : Jvm.MethodName) jdk_52_method_83_code (2 : Nat) (Option.some Jvm.ClassFile.FieldType.char)).before args0 about1 = true := code_word (m := ⟨8, 10⟩) (meth := k8m10) (c := k8c10) (by decide +kernel) rfl rfl rfl (by decide +kernel)
set_option maxRecDepth 65536 in
theorem w_c41 : (Jvm.Cond.code ({ cls := "java/lang/StringUTF16", name := "checkIndex", desc := "(I[B)V" } : Jvm.MethodName) jdk_52_method_91_code (2 : Nat) (Option.none : Option Jvm.ClassFile.FieldType)).before args0 about1 = true := code_word (m := ⟨8, 11⟩) (meth := k8m11) (c := k8c11) (by decide +kernel) rfl rfl rfl (by decide +kernel)
set_option maxRecDepth 65536 in
theorem w_c42 : (Jvm.Cond.code ({ cls := "java/lang/StringUTF16", name := "length", desc := "([B)I" } : Jvm.MethodName) jdk_52_method_6_code (1 : Nat) (Option.some Jvm.ClassFile.FieldType.int)).before args0 about1 = true := code_word (m := ⟨8, 5⟩) (meth := k8m5) (c := k8c5) (by decide +kernel) rfl rfl rfl (by decide +kernel)
set_option maxRecDepth 65536 in
theorem w_c43 : (Jvm.Cond.code ({ cls := "java/lang/Character", name := "isLowSurrogate", desc := "(C)Z" } : Jvm.MethodName) jdk_89_method_15_code (1 : Nat) (Option.some Jvm.ClassFile.FieldType.boolean)).before args0 about1 = true := code_word (m := ⟨14, 1⟩) (meth := k14m1) (c := k14c1) (by decide +kernel) rfl rfl rfl (by decide +kernel)
set_option maxRecDepth 65536 in
theorem w_c44 : (Jvm.Cond.code ({ cls := "com/example/tote/tote/JsonTextCheckPinLaw", name := "digit", desc := "(I)C" } : Jvm.MethodName) method_4_code (1 : Nat) (Option.some Jvm.ClassFile.FieldType.char)).before args0 about1 = true := code_word (m := ⟨1, 3⟩) (meth := k1m3) (c := k1c3) (by decide +kernel) rfl rfl rfl (by decide +kernel)
set_option maxRecDepth 65536 in
theorem w_c45 : (Jvm.Cond.code ({ cls := "com/example/tote/tote/JsonText", name := "number", desc := "()V" } : Jvm.MethodName) prog_12_method_9_code (10 : Nat) (Option.none : Option Jvm.ClassFile.FieldType)).before args0 about1 = true := code_word (m := ⟨9, 8⟩) (meth := k9m8) (c := k9c8) (by decide +kernel) rfl rfl rfl (by decide +kernel)
set_option maxRecDepth 65536 in
theorem w_c46 : (Jvm.Cond.code ({ cls := "com/example/tote/tote/JsonText", name := "next", desc := "(C)Z" } : Jvm.MethodName) prog_12_method_16_code (3 : Nat) (Option.some Jvm.ClassFile.FieldType.boolean)).before args0 about1 = true := code_word (m := ⟨9, 15⟩) (meth := k9m15) (c := k9c15) (by decide +kernel) rfl rfl rfl (by decide +kernel)
set_option maxRecDepth 65536 in
theorem w_c47 : (Jvm.Cond.code ({ cls := "com/example/tote/tote/JsonText", name := "skipDigits", desc := "()V" } : Jvm.MethodName) prog_12_method_14_code (1 : Nat) (Option.none : Option Jvm.ClassFile.FieldType)).before args0 about1 = true := code_word (m := ⟨9, 13⟩) (meth := k9m13) (c := k9c13) (by decide +kernel) rfl rfl rfl (by decide +kernel)
set_option maxRecDepth 65536 in
theorem w_c48 : (Jvm.Cond.code ({ cls := "com/example/tote/tote/JsonText", name := "fitsNumeric", desc := "(IIIIJ)Z" } : Jvm.MethodName) prog_12_method_10_code (11 : Nat) (Option.some Jvm.ClassFile.FieldType.boolean)).before args0 about1 = true := code_word (m := ⟨9, 9⟩) (meth := k9m9) (c := k9c9) (by decide +kernel) rfl rfl rfl (by decide +kernel)
set_option maxRecDepth 65536 in
theorem w_c49 : (Jvm.Cond.code ({ cls := "java/lang/Math", name := "abs", desc := "(J)J" } : Jvm.MethodName) jdk_29_method_61_code (2 : Nat) (Option.some Jvm.ClassFile.FieldType.long)).before args0 about1 = true := code_word (m := ⟨13, 1⟩) (meth := k13m1) (c := k13c1) (by decide +kernel) rfl rfl rfl (by decide +kernel)
set_option maxRecDepth 65536 in
theorem w_c50 : (Jvm.Cond.code ({ cls := "java/lang/Math", name := "min", desc := "(JJ)J" } : Jvm.MethodName) jdk_29_method_70_code (4 : Nat) (Option.some Jvm.ClassFile.FieldType.long)).before args0 about1 = true := code_word (m := ⟨13, 4⟩) (meth := k13m4) (c := k13c4) (by decide +kernel) rfl rfl rfl (by decide +kernel)
set_option maxRecDepth 65536 in
theorem w_c51 : (Jvm.Cond.code ({ cls := "com/example/tote/tote/JsonText", name := "escape", desc := "()V" } : Jvm.MethodName) prog_12_method_7_code (4 : Nat) (Option.none : Option Jvm.ClassFile.FieldType)).before args0 about1 = true := code_word (m := ⟨9, 6⟩) (meth := k9m6) (c := k9c6) (by decide +kernel) rfl rfl rfl (by decide +kernel)
set_option maxRecDepth 65536 in
theorem w_c52 : (Jvm.Cond.code ({ cls := "com/example/tote/tote/JsonText", name := "hexUnit", desc := "()C" } : Jvm.MethodName) prog_12_method_8_code (4 : Nat) (Option.some Jvm.ClassFile.FieldType.char)).before args0 about1 = true := code_word (m := ⟨9, 7⟩) (meth := k9m7) (c := k9c7) (by decide +kernel) rfl rfl rfl (by decide +kernel)
set_option maxRecDepth 65536 in
theorem w_c53 : (Jvm.Cond.code ({ cls := "com/example/tote/tote/JsonText", name := "hexDigit", desc := "(C)I" } : Jvm.MethodName) prog_12_method_18_code (2 : Nat) (Option.some Jvm.ClassFile.FieldType.int)).before args0 about1 = true := code_word (m := ⟨9, 17⟩) (meth := k9m17) (c := k9c17) (by decide +kernel) rfl rfl rfl (by decide +kernel)
set_option maxRecDepth 65536 in
theorem w_c54 : (Jvm.Cond.code ({ cls := "com/example/tote/tote/JsonText", name := "array", desc := "(I)V" } : Jvm.MethodName) prog_12_method_5_code (2 : Nat) (Option.none : Option Jvm.ClassFile.FieldType)).before args0 about1 = true := code_word (m := ⟨9, 4⟩) (meth := k9m4) (c := k9c4) (by decide +kernel) rfl rfl rfl (by decide +kernel)
set_option maxRecDepth 65536 in
theorem w_c55 : (Jvm.Cond.code ({ cls := "com/example/tote/tote/JsonText", name := "checkDepth", desc := "(I)V" } : Jvm.MethodName) prog_12_method_12_code (2 : Nat) (Option.none : Option Jvm.ClassFile.FieldType)).before args0 about1 = true := code_word (m := ⟨9, 11⟩) (meth := k9m11) (c := k9c11) (by decide +kernel) rfl rfl rfl (by decide +kernel)
set_option maxRecDepth 65536 in
theorem w_c56 : (Jvm.Cond.code ({ cls := "com/example/tote/tote/JsonText", name := "expect", desc := "(C)V" } : Jvm.MethodName) prog_12_method_15_code (2 : Nat) (Option.none : Option Jvm.ClassFile.FieldType)).before args0 about1 = true := code_word (m := ⟨9, 14⟩) (meth := k9m14) (c := k9c14) (by decide +kernel) rfl rfl rfl (by decide +kernel)
set_option maxRecDepth 65536 in
theorem w_c57 : (Jvm.Cond.code ({ cls := "com/example/tote/tote/JsonText", name := "object", desc := "(I)V" } : Jvm.MethodName) prog_12_method_4_code (2 : Nat) (Option.none : Option Jvm.ClassFile.FieldType)).before args0 about1 = true := code_word (m := ⟨9, 3⟩) (meth := k9m3) (c := k9c3) (by decide +kernel) rfl rfl rfl (by decide +kernel)
def codes1 : List Jvm.Cond := [Jvm.Cond.code x code maxLocals ret, Jvm.Cond.code ({ cls := "com/example/tote/tote/JsonTextCheckPinLaw", name := "ws", desc := "(I)C" } : Jvm.MethodName) method_2_code (2 : Nat) (Option.some Jvm.ClassFile.FieldType.char), Jvm.Cond.code ({ cls := "com/example/tote/tote/JsonTextCheckPinLaw", name := "safe", desc := "(I)C" } : Jvm.MethodName) method_3_code (2 : Nat) (Option.some Jvm.ClassFile.FieldType.char), Jvm.Cond.code ({ cls := "java/lang/String", name := "<init>", desc := "([C)V" } : Jvm.MethodName) jdk_42_method_3_code (2 : Nat) (Option.none : Option Jvm.ClassFile.FieldType), Jvm.Cond.code ({ cls := "java/lang/String", name := "<init>", desc := "([CIILjava/lang/Void;)V" } : Jvm.MethodName) jdk_42_method_149_code (6 : Nat) (Option.none : Option Jvm.ClassFile.FieldType), Jvm.Cond.code ({ cls := "java/lang/Object", name := "<init>", desc := "()V" } : Jvm.MethodName) object_method_1_code (1 : Nat) (Option.none : Option Jvm.ClassFile.FieldType), Jvm.Cond.code ({ cls := "java/lang/StringUTF16", name := "compress", desc := "([CII)[B" } : Jvm.MethodName) jdk_52_method_16_code (6 : Nat) (Option.some (Jvm.ClassFile.FieldType.array Jvm.ClassFile.FieldType.byte)), Jvm.Cond.code ({ cls := "java/lang/StringUTF16", name := "compress", desc := "([CI[BII)I" } : Jvm.MethodName) jdk_52_method_21_code (7 : Nat) (Option.some Jvm.ClassFile.FieldType.int), Jvm.Cond.code ({ cls := "java/lang/StringUTF16", name := "coderFromArrayLen", desc := "([BI)B" } : Jvm.MethodName) jdk_52_method_15_code (2 : Nat) (Option.some Jvm.ClassFile.FieldType.byte), Jvm.Cond.code ({ cls := "com/example/tote/tote/JsonText", name := "check", desc := "(Ljava/lang/String;)V" } : Jvm.MethodName) prog_12_method_2_code (2 : Nat) (Option.none : Option Jvm.ClassFile.FieldType), Jvm.Cond.code ({ cls := "java/util/Objects", name := "requireNonNull", desc := "(Ljava/lang/Object;Ljava/lang/String;)Ljava/lang/Object;" } : Jvm.MethodName) jdk_31_method_11_code (2 : Nat) (Option.some (Jvm.ClassFile.FieldType.object "java/lang/Object")), Jvm.Cond.code ({ cls := "com/example/tote/tote/JsonText", name := "<init>", desc := "(Ljava/lang/String;)V" } : Jvm.MethodName) prog_12_method_1_code (2 : Nat) (Option.none : Option Jvm.ClassFile.FieldType), Jvm.Cond.code ({ cls := "com/example/tote/tote/JsonText", name := "skipWhitespace", desc := "()V" } : Jvm.MethodName) prog_12_method_13_code (1 : Nat) (Option.none : Option Jvm.ClassFile.FieldType), Jvm.Cond.code ({ cls := "java/lang/String", name := "length", desc := "()I" } : Jvm.MethodName) jdk_42_method_54_code (1 : Nat) (Option.some Jvm.ClassFile.FieldType.int), Jvm.Cond.code ({ cls := "java/lang/String", name := "coder", desc := "()B" } : Jvm.MethodName) jdk_42_method_152_code (1 : Nat) (Option.some Jvm.ClassFile.FieldType.byte), Jvm.Cond.code ({ cls := "java/lang/String", name := "charAt", desc := "(I)C" } : Jvm.MethodName) jdk_42_method_56_code (2 : Nat) (Option.some Jvm.ClassFile.FieldType.char), Jvm.Cond.code ({ cls := "java/lang/String", name := "isLatin1", desc := "()Z" } : Jvm.MethodName) jdk_42_method_154_code (1 : Nat) (Option.some Jvm.ClassFile.FieldType.boolean), Jvm.Cond.code ({ cls := "java/lang/StringLatin1", name := "charAt", desc := "([BI)C" } : Jvm.MethodName) jdk_43_method_2_code (2 : Nat) (Option.some Jvm.ClassFile.FieldType.char), Jvm.Cond.code ({ cls := "java/lang/String", name := "checkIndex", desc := "(II)V" } : Jvm.MethodName) jdk_42_method_155_code (2 : Nat) (Option.none : Option Jvm.ClassFile.FieldType), Jvm.Cond.code ({ cls := "jdk/internal/util/Preconditions", name := "checkIndex", desc := "(IILjava/util/function/BiFunction;)I" } : Jvm.MethodName) jdk_41_method_11_code (3 : Nat) (Option.some Jvm.ClassFile.FieldType.int), Jvm.Cond.code ({ cls := "java/lang/String", name := "indexOf", desc := "(I)I" } : Jvm.MethodName) jdk_42_method_79_code (2 : Nat) (Option.some Jvm.ClassFile.FieldType.int), Jvm.Cond.code ({ cls := "java/lang/String", name := "indexOf", desc := "(II)I" } : Jvm.MethodName) jdk_42_method_80_code (3 : Nat) (Option.some Jvm.ClassFile.FieldType.int), Jvm.Cond.code ({ cls := "java/lang/StringLatin1", name := "indexOf", desc := "([BIII)I" } : Jvm.MethodName) jdk_43_method_22_code (4 : Nat) (Option.some Jvm.ClassFile.FieldType.int), Jvm.Cond.code ({ cls := "java/lang/StringLatin1", name := "canEncode", desc := "(I)Z" } : Jvm.MethodName) jdk_43_method_4_code (1 : Nat) (Option.some Jvm.ClassFile.FieldType.boolean), Jvm.Cond.code ({ cls := "java/lang/Math", name := "max", desc := "(II)I" } : Jvm.MethodName) jdk_29_method_65_code (2 : Nat) (Option.some Jvm.ClassFile.FieldType.int), Jvm.Cond.code ({ cls := "java/lang/Math", name := "min", desc := "(II)I" } : Jvm.MethodName) jdk_29_method_69_code (2 : Nat) (Option.some Jvm.ClassFile.FieldType.int), Jvm.Cond.code ({ cls := "java/lang/StringLatin1", name := "indexOfChar", desc := "([BIII)I" } : Jvm.MethodName) jdk_43_method_23_code (6 : Nat) (Option.some Jvm.ClassFile.FieldType.int), Jvm.Cond.code ({ cls := "com/example/tote/tote/JsonText", name := "value", desc := "(I)V" } : Jvm.MethodName) prog_12_method_3_code (3 : Nat) (Option.none : Option Jvm.ClassFile.FieldType), Jvm.Cond.code ({ cls := "com/example/tote/tote/JsonText", name := "string", desc := "()V" } : Jvm.MethodName) prog_12_method_6_code (2 : Nat) (Option.none : Option Jvm.ClassFile.FieldType), Jvm.Cond.code ({ cls := "java/lang/Character", name := "isHighSurrogate", desc := "(C)Z" } : Jvm.MethodName) jdk_89_method_14_code (1 : Nat) (Option.some Jvm.ClassFile.FieldType.boolean), Jvm.Cond.code ({ cls := "java/lang/Character", name := "isSurrogate", desc := "(C)Z" } : Jvm.MethodName) jdk_89_method_16_code (1 : Nat) (Option.some Jvm.ClassFile.FieldType.boolean), Jvm.Cond.code ({ cls := "com/example/tote/tote/JsonText", name := "isDigit", desc := "(C)Z" } : Jvm.MethodName) prog_12_method_17_code (1 : Nat) (Option.some Jvm.ClassFile.FieldType.boolean), Jvm.Cond.code ({ cls := "com/example/tote/tote/JsonText", name := "literal", desc := "(Ljava/lang/String;)Z" } : Jvm.MethodName) prog_12_method_11_code (3 : Nat) (Option.some Jvm.ClassFile.FieldType.boolean), Jvm.Cond.code ({ cls := "java/lang/String", name := "startsWith", desc := "(Ljava/lang/String;I)Z" } : Jvm.MethodName) jdk_42_method_75_code (8 : Nat) (Option.some Jvm.ClassFile.FieldType.boolean), Jvm.Cond.code ({ cls := "jdk/internal/util/ArraysSupport", name := "mismatch", desc := "([BI[BII)I" } : Jvm.MethodName) jdk_48_method_14_code (8 : Nat) (Option.some Jvm.ClassFile.FieldType.int), Jvm.Cond.code ({ cls := "java/lang/StringUTF16", name := "toBytes", desc := "([CII)[B" } : Jvm.MethodName) jdk_52_method_14_code (5 : Nat) (Option.some (Jvm.ClassFile.FieldType.array Jvm.ClassFile.FieldType.byte)), Jvm.Cond.code ({ cls := "java/lang/StringUTF16", name := "newBytesFor", desc := "(I)[B" } : Jvm.MethodName) jdk_52_method_2_code (1 : Nat) (Option.some (Jvm.ClassFile.FieldType.array Jvm.ClassFile.FieldType.byte)), Jvm.Cond.code ({ cls := "java/lang/StringUTF16", name := "newBytesLength", desc := "(I)I" } : Jvm.MethodName) jdk_52_method_3_code (1 : Nat) (Option.some Jvm.ClassFile.FieldType.int), Jvm.Cond.code ({ cls := "java/lang/StringUTF16", name := "putChar", desc := "([BII)V" } : Jvm.MethodName) jdk_52_method_4_code (3 : Nat) (Option.none : Option Jvm.ClassFile.FieldType), Jvm.Cond.code ({ cls := "java/lang/StringUTF16", name := "getChar", desc := "([BI)C" } : Jvm.MethodName) jdk_52_method_5_code (2 : Nat) (Option.some Jvm.ClassFile.FieldType.char), Jvm.Cond.code ({ cls := "java/lang/StringUTF16", name := "charAt", desc := "([BI)C" } : Jvm.MethodName) jdk_52_method_83_code (2 : Nat) (Option.some Jvm.ClassFile.FieldType.char), Jvm.Cond.code ({ cls := "java/lang/StringUTF16", name := "checkIndex", desc := "(I[B)V" } : Jvm.MethodName) jdk_52_method_91_code (2 : Nat) (Option.none : Option Jvm.ClassFile.FieldType), Jvm.Cond.code ({ cls := "java/lang/StringUTF16", name := "length", desc := "([B)I" } : Jvm.MethodName) jdk_52_method_6_code (1 : Nat) (Option.some Jvm.ClassFile.FieldType.int), Jvm.Cond.code ({ cls := "java/lang/Character", name := "isLowSurrogate", desc := "(C)Z" } : Jvm.MethodName) jdk_89_method_15_code (1 : Nat) (Option.some Jvm.ClassFile.FieldType.boolean), Jvm.Cond.code ({ cls := "com/example/tote/tote/JsonTextCheckPinLaw", name := "digit", desc := "(I)C" } : Jvm.MethodName) method_4_code (1 : Nat) (Option.some Jvm.ClassFile.FieldType.char), Jvm.Cond.code ({ cls := "com/example/tote/tote/JsonText", name := "number", desc := "()V" } : Jvm.MethodName) prog_12_method_9_code (10 : Nat) (Option.none : Option Jvm.ClassFile.FieldType), Jvm.Cond.code ({ cls := "com/example/tote/tote/JsonText", name := "next", desc := "(C)Z" } : Jvm.MethodName) prog_12_method_16_code (3 : Nat) (Option.some Jvm.ClassFile.FieldType.boolean), Jvm.Cond.code ({ cls := "com/example/tote/tote/JsonText", name := "skipDigits", desc := "()V" } : Jvm.MethodName) prog_12_method_14_code (1 : Nat) (Option.none : Option Jvm.ClassFile.FieldType), Jvm.Cond.code ({ cls := "com/example/tote/tote/JsonText", name := "fitsNumeric", desc := "(IIIIJ)Z" } : Jvm.MethodName) prog_12_method_10_code (11 : Nat) (Option.some Jvm.ClassFile.FieldType.boolean), Jvm.Cond.code ({ cls := "java/lang/Math", name := "abs", desc := "(J)J" } : Jvm.MethodName) jdk_29_method_61_code (2 : Nat) (Option.some Jvm.ClassFile.FieldType.long), Jvm.Cond.code ({ cls := "java/lang/Math", name := "min", desc := "(JJ)J" } : Jvm.MethodName) jdk_29_method_70_code (4 : Nat) (Option.some Jvm.ClassFile.FieldType.long), Jvm.Cond.code ({ cls := "com/example/tote/tote/JsonText", name := "escape", desc := "()V" } : Jvm.MethodName) prog_12_method_7_code (4 : Nat) (Option.none : Option Jvm.ClassFile.FieldType), Jvm.Cond.code ({ cls := "com/example/tote/tote/JsonText", name := "hexUnit", desc := "()C" } : Jvm.MethodName) prog_12_method_8_code (4 : Nat) (Option.some Jvm.ClassFile.FieldType.char), Jvm.Cond.code ({ cls := "com/example/tote/tote/JsonText", name := "hexDigit", desc := "(C)I" } : Jvm.MethodName) prog_12_method_18_code (2 : Nat) (Option.some Jvm.ClassFile.FieldType.int), Jvm.Cond.code ({ cls := "com/example/tote/tote/JsonText", name := "array", desc := "(I)V" } : Jvm.MethodName) prog_12_method_5_code (2 : Nat) (Option.none : Option Jvm.ClassFile.FieldType), Jvm.Cond.code ({ cls := "com/example/tote/tote/JsonText", name := "checkDepth", desc := "(I)V" } : Jvm.MethodName) prog_12_method_12_code (2 : Nat) (Option.none : Option Jvm.ClassFile.FieldType), Jvm.Cond.code ({ cls := "com/example/tote/tote/JsonText", name := "expect", desc := "(C)V" } : Jvm.MethodName) prog_12_method_15_code (2 : Nat) (Option.none : Option Jvm.ClassFile.FieldType), Jvm.Cond.code ({ cls := "com/example/tote/tote/JsonText", name := "object", desc := "(I)V" } : Jvm.MethodName) prog_12_method_4_code (2 : Nat) (Option.none : Option Jvm.ClassFile.FieldType)]
set_option maxRecDepth 65536 in
theorem codes_eq : words1.filter isCode = codes1 := rfl
theorem w_codes : ∀ c ∈ words1.filter isCode, c.before args0 about1 = true := by
  rw [codes_eq]
  intro c hc
  simp only [codes1, List.mem_cons, List.not_mem_nil, or_false] at hc
  rcases hc with rfl | rfl | rfl | rfl | rfl | rfl | rfl | rfl | rfl | rfl | rfl | rfl | rfl | rfl | rfl | rfl | rfl | rfl | rfl | rfl | rfl | rfl | rfl | rfl | rfl | rfl | rfl | rfl | rfl | rfl | rfl | rfl | rfl | rfl | rfl | rfl | rfl | rfl | rfl | rfl | rfl | rfl | rfl | rfl | rfl | rfl | rfl | rfl | rfl | rfl | rfl | rfl | rfl | rfl | rfl | rfl | rfl | rfl
  · exact w_c0
  · exact w_c1
  · exact w_c2
  · exact w_c3
  · exact w_c4
  · exact w_c5
  · exact w_c6
  · exact w_c7
  · exact w_c8
  · exact w_c9
  · exact w_c10
  · exact w_c11
  · exact w_c12
  · exact w_c13
  · exact w_c14
  · exact w_c15
  · exact w_c16
  · exact w_c17
  · exact w_c18
  · exact w_c19
  · exact w_c20
  · exact w_c21
  · exact w_c22
  · exact w_c23
  · exact w_c24
  · exact w_c25
  · exact w_c26
  · exact w_c27
  · exact w_c28
  · exact w_c29
  · exact w_c30
  · exact w_c31
  · exact w_c32
  · exact w_c33
  · exact w_c34
  · exact w_c35
  · exact w_c36
  · exact w_c37
  · exact w_c38
  · exact w_c39
  · exact w_c40
  · exact w_c41
  · exact w_c42
  · exact w_c43
  · exact w_c44
  · exact w_c45
  · exact w_c46
  · exact w_c47
  · exact w_c48
  · exact w_c49
  · exact w_c50
  · exact w_c51
  · exact w_c52
  · exact w_c53
  · exact w_c54
  · exact w_c55
  · exact w_c56
  · exact w_c57
set_option maxRecDepth 65536 in
theorem w_t1 : (words1.take 24).all (fun c => isCode c || c.before args0 about1) = true := by decide +kernel
set_option maxRecDepth 65536 in
theorem w_t2 : ((words1.drop 24).take 24).all (fun c => isCode c || c.before args0 about1) = true := by decide +kernel
set_option maxRecDepth 65536 in
theorem w_t3 : (((words1.drop 24).drop 24).take 24).all (fun c => isCode c || c.before args0 about1) = true := by decide +kernel
set_option maxRecDepth 65536 in
theorem w_t4 : ((((words1.drop 24).drop 24).drop 24).take 24).all (fun c => isCode c || c.before args0 about1) = true := by decide +kernel
set_option maxRecDepth 65536 in
theorem w_t5 : (((((words1.drop 24).drop 24).drop 24).drop 24).take 24).all (fun c => isCode c || c.before args0 about1) = true := by decide +kernel
set_option maxRecDepth 65536 in
theorem w_t6 : ((((((words1.drop 24).drop 24).drop 24).drop 24).drop 24).take 24).all (fun c => isCode c || c.before args0 about1) = true := by decide +kernel
set_option maxRecDepth 65536 in
theorem w_t7 : (((((((words1.drop 24).drop 24).drop 24).drop 24).drop 24).drop 24).take 24).all (fun c => isCode c || c.before args0 about1) = true := by decide +kernel
set_option maxRecDepth 65536 in
theorem w_t8 : ((((((((words1.drop 24).drop 24).drop 24).drop 24).drop 24).drop 24).drop 24).take 24).all (fun c => isCode c || c.before args0 about1) = true := by decide +kernel
set_option maxRecDepth 65536 in
theorem w_t9 : (((((((((words1.drop 24).drop 24).drop 24).drop 24).drop 24).drop 24).drop 24).drop 24).take 24).all (fun c => isCode c || c.before args0 about1) = true := by decide +kernel
set_option maxRecDepth 65536 in
theorem w_t10 : ((((((((((words1.drop 24).drop 24).drop 24).drop 24).drop 24).drop 24).drop 24).drop 24).drop 24).take 24).all (fun c => isCode c || c.before args0 about1) = true := by decide +kernel
set_option maxRecDepth 65536 in
theorem w_t11 : ((((((((((words1.drop 24).drop 24).drop 24).drop 24).drop 24).drop 24).drop 24).drop 24).drop 24).drop 24).all (fun c => isCode c || c.before args0 about1) = true := by decide +kernel
theorem w_tables : (allAtoms (Jvm.Cond.code x code maxLocals ret :: tables_1)).before args0 about1 = true := by
  rw [allAtoms_all]
  show words1.all (fun c => c.before args0 about1) = true
  refine all_split ?_ w_codes
  rw [← List.take_append_drop 24 words1, List.all_append, w_t1, ← List.take_append_drop 24 (words1.drop 24), List.all_append, w_t2, ← List.take_append_drop 24 ((words1.drop 24).drop 24), List.all_append, w_t3, ← List.take_append_drop 24 (((words1.drop 24).drop 24).drop 24), List.all_append, w_t4, ← List.take_append_drop 24 ((((words1.drop 24).drop 24).drop 24).drop 24), List.all_append, w_t5, ← List.take_append_drop 24 (((((words1.drop 24).drop 24).drop 24).drop 24).drop 24), List.all_append, w_t6, ← List.take_append_drop 24 ((((((words1.drop 24).drop 24).drop 24).drop 24).drop 24).drop 24), List.all_append, w_t7, ← List.take_append_drop 24 (((((((words1.drop 24).drop 24).drop 24).drop 24).drop 24).drop 24).drop 24), List.all_append, w_t8, ← List.take_append_drop 24 ((((((((words1.drop 24).drop 24).drop 24).drop 24).drop 24).drop 24).drop 24).drop 24), List.all_append, w_t9, ← List.take_append_drop 24 (((((((((words1.drop 24).drop 24).drop 24).drop 24).drop 24).drop 24).drop 24).drop 24).drop 24), List.all_append, w_t10, w_t11]
  rfl
set_option maxRecDepth 65536 in
theorem w_rest : rest_1_c.before args0 about1 = true := by decide +kernel
set_option maxRecDepth 65536 in
theorem w_case : (Jvm.Cond.and given_1 narrow_1).before args0 about1 = true := by decide +kernel
set_option maxRecDepth 65536 in
theorem w_consts : constsHeld consts_1 about1 := Jvm.Lit.constsHeldB_iff.mp (by decide +kernel)
theorem w_applies : (headSpec (Jvm.Cond.code x code maxLocals ret :: tables_1) room_1).applies x e0.platform about1 = true :=
  (Spec.applies_iff w_frames).mpr ⟨w_running, w_runnable, w_alone, w_named, w_hears, w_ripe, w_room, w_tables⟩
theorem atStart : AtStart classFile x code maxLocals ret World_1 tables_1 room_1 Calls_1 rest_1 Pre_1 launch0 p0 e0 about1 theMethod args0 below0 :=
  ⟨lists_1, trivial, launch0.admits_env _ _ _, launch0.least_env, fairChoices_fair.cas, fairChoices_fair.clock, w_frames, w_args, w_heap, w_applies, ⟨w_consts, trivial⟩, w_rest, w_case⟩
end start1
theorem witness_1 : WitnessClaimed_1 := ⟨start1.p0, start1.e0, start1.about1, start1.theMethod, start1.args0, start1.below0, start1.atStart⟩
end Jvm.Pilot.@@N@@
