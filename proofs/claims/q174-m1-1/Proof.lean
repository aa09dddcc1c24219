import JvmDerived
import JvmDerived.Pilot.@@N@@Statement
import JvmDerived.Pilot.@@N@@Code
set_option linter.unusedVariables false
set_option linter.unusedSimpArgs false
namespace Jvm.Pilot.@@N@@
open Jvm Jvm.ClassFile Sem Op Lib Jvm.Free Jvm.Stand Jvm.LawKit Jvm.RoadKit Bundle Jvm.Pilot.@@N@@.Jvm.D
section OwnKit
variable {p : Program} {l : Launch} {e : Env} {R : Room} {s : State} {m : MethodId} {args : Array Value} {below : List Frame} {meth : Method} {c : Code} {T T' : State} {locs : List Loc} {cells slots : Nat} {g g' : JFrame} {G : State → Outcome → Prop} {Z : State} {a0 : Array Value} {h : Heap} {y : MethodName} {own : String} {index : Nat} {bytes : ByteArray} {maxL : Nat} {ret : Option FieldType} {W : Nat} {as' : Array Value} {rc rs : Nat} {Q : Option Value → Heap → List Loc → Prop} {argsL rest : List Value} {a b : Addr} {k : ClassId} {ty : FieldType} {n j : Int32} {vs : List Value} {d v : Value}
/-- the run from this frame comes to the end that the body owes -/
def own_Fin (p : Program) (e : Env) (below : List Frame) (G : State → Outcome → Prop) (T : State) (g : JFrame) : Prop := ∃ s₂ o, Steps p.tables e below (T.setTop g) s₂ ∧ s₂.status = .running ∧ Ended s₂ below o ∧ G s₂ o
theorem own_step (h1 : ∀ t, Steps p.tables e below (T'.setTop g') t → Steps p.tables e below (T.setTop g) t) (k1 : own_Fin p e below G T' g') : own_Fin p e below G T g := by
  obtain ⟨s2, o, q, r⟩ := k1; exact ⟨s2, o, h1 _ q, r⟩
theorem own_cast (q : g = g') (k1 : own_Fin p e below G T g') : own_Fin p e below G T g := q ▸ k1
/-- what a body owes at its end -/
abbrev own_G (s : State) (Q : Option Value → Heap → List Loc → Prop) (rc rs : Nat) : State → Outcome → Prop := fun s₂ o => ∃ v L, o = .returned v ∧ Q v s₂.heap L ∧ FrameEnd s o s₂ L rc rs
theorem own_end (X : Stand p l e R s m args below meth c T locs cells slots) {v : Option Value} (hv : meth.sig.returnType = none → v = none) (hlk : meth.locks = false)
    (st : ∀ fs, (∀ (f : JFrame) (acts : List Action), f.method = m → f.locked = none → f.entered = [] → (doReturn e (T.setTop f) acts v).1 = T.setFrames fs) → Steps p.tables e below (T.setTop g) (T.setFrames fs))
    (hQ : Q v T.heap locs) (hc : cells ≤ rc) (hs : slots ≤ rs) : own_Fin p e below (own_G s Q rc rs) T g := by
  obtain ⟨fs, hr, hrun, hended, hW, hsame⟩ := X.leave hv hlk
  exact ⟨_, _, st fs hr, hrun, hended, v, locs, rfl, hQ, ⟨_, rfl⟩, hW, hsame.mono hc hs⟩
theorem own_cat_int (z : Int32) : (Value.int z).category = 1 := rfl
theorem own_cat_long (z : Int64) : (Value.long z).category = 2 := rfl
theorem own_cat_ref (z : Addr) : (Value.ref z).category = 1 := rfl
theorem own_cat_null : Value.null.category = 1 := rfl
theorem own_fixv {ws : List Value} (q : vs = ws) (A : Arv Z h a k ty n vs d) : Arv Z h a k ty n ws d := by subst q; exact A
theorem own_fixf {C f ds : String} {w : Value} (q : v = w) (F : Fld Z h a C f ds v) : Fld Z h a C f ds w := by subst q; exact F
theorem own_narR {w : Value} (h1 : w.isRef = true) {t : FieldType} (ht : t.isReference = true) : narrow t w = w := by cases w <;> cases t <;> first | rfl | (exact absurd h1 (by decide)) | (exact absurd ht (by decide)) | simp_all [Value.isRef, FieldType.isReference]
theorem own_retI (X : Stand p l e R s m args below meth c T locs cells slots) (hx : p.tables.exec = Jvm.exec) {pc : Nat} {Ls : Array Slot} {z : Int32} (hret : meth.sig.returnType = some .int) (hd : decode c.code pc = .ok (.ireturn, 1)) (hlk : meth.locks = false)
    (hQ : Q (some (.int z)) T.heap locs) (hc : cells ≤ rc) (hs : slots ≤ rs) : own_Fin p e below (own_G s Q rc rs) T (mkF m pc Ls (.int z :: rest)) :=
  own_end X (fun q => by rw [hret] at q; cases q) hlk (fun fs hr => retOut X hx hret rfl (Or.inl ⟨rfl, Or.inl rfl, z, rfl⟩) hd hr) hQ hc hs
theorem own_retN (X : Stand p l e R s m args below meth c T locs cells slots) (hx : p.tables.exec = Jvm.exec) {pc : Nat} {Ls : Array Slot} {z : Int32} {t : FieldType} (hret : meth.sig.returnType = some t) (ht : t = .boolean ∨ t = .byte ∨ t = .char ∨ t = .short) (hd : decode c.code pc = .ok (.ireturn, 1)) (hlk : meth.locks = false)
    (hQ : Q (some (.int (nar t z))) T.heap locs) (hc : cells ≤ rc) (hs : slots ≤ rs) : own_Fin p e below (own_G s Q rc rs) T (mkF m pc Ls (.int z :: rest)) :=
  own_end X (fun q => by rw [hret] at q; cases q) hlk (fun fs hr => retN X hx hret ht hd hr) hQ hc hs
theorem own_retL (X : Stand p l e R s m args below meth c T locs cells slots) (hx : p.tables.exec = Jvm.exec) {pc : Nat} {Ls : Array Slot} {z : Int64} (hret : meth.sig.returnType = some .long) (hd : decode c.code pc = .ok (.lreturn, 1)) (hlk : meth.locks = false)
    (hQ : Q (some (.long z)) T.heap locs) (hc : cells ≤ rc) (hs : slots ≤ rs) : own_Fin p e below (own_G s Q rc rs) T (mkF m pc Ls (.long z :: rest)) :=
  own_end X (fun q => by rw [hret] at q; cases q) hlk (fun fs hr => retOut X hx hret rfl (Or.inr (Or.inl ⟨rfl, rfl, z, rfl⟩)) hd hr) hQ hc hs
theorem own_retA (X : Stand p l e R s m args below meth c T locs cells slots) (hx : p.tables.exec = Jvm.exec) {pc : Nat} {Ls : Array Slot} {w : Value} {t : FieldType} (hret : meth.sig.returnType = some t) (ht : t.isReference = true) (hw : w.isRef = true) (hd : decode c.code pc = .ok (.areturn, 1)) (hlk : meth.locks = false)
    (hQ : Q (some w) T.heap locs) (hc : cells ≤ rc) (hs : slots ≤ rs) : own_Fin p e below (own_G s Q rc rs) T (mkF m pc Ls (w :: rest)) :=
  own_end X (fun q => by rw [hret] at q; cases q) hlk (fun fs hr => retOut X hx hret (own_narR hw ht) (Or.inr (Or.inr (Or.inr (Or.inr ⟨rfl, ht, hw⟩)))) hd hr) hQ hc hs
theorem own_retV (X : Stand p l e R s m args below meth c T locs cells slots) (hx : p.tables.exec = Jvm.exec) {pc : Nat} {Ls : Array Slot} (hret : meth.sig.returnType = none) (hd : decode c.code pc = .ok (.return_, 1)) (hlk : meth.locks = false)
    (hQ : Q none T.heap locs) (hc : cells ≤ rc) (hs : slots ≤ rs) : own_Fin p e below (own_G s Q rc rs) T (mkF m pc Ls []) :=
  own_end X (fun _ => rfl) hlk (fun fs hr => X.returnOut hx hret hd hr) hQ hc hs
/-- the entry -/
theorem own_body {ws : List Jvm.Cond} {rm : Room} {h0 : Heap} (hy : plainFor y = true)
    (body : ∀ p e s m below meth c s₁, BodyLoose p l y (head1 (Jvm.Cond.code y bytes maxL ret :: ws) rm) bytes maxL ret e s m as' below meth c s₁ → c.maxLocals = maxL → Z.Warmed39 s.vm → s₁.heap = h0 → own_Fin p e below (own_G s Q rm.cells rm.slots) s₁ (entryFrame m as' maxL)) :
    MetFree l y (head1 (Jvm.Cond.code y bytes maxL ret :: ws) rm) (fun a U => a = as' ∧ Z.Warmed39 U.vm ∧ U.heap = h0) (fun _ _ _ _ _ => True) (fun _ U o U' => ∃ v L, o = .returned v ∧ Q v U'.heap L ∧ FrameEnd U o U' L rm.cells rm.slots) := by
  refine MetFree.of_bodySF hy hisR ?_
  intro p e s m args below meth c s₁ Bd hml0 hP hK
  obtain ⟨rfl, hZ, hh⟩ := hP
  exact body p e s m below meth c s₁ Bd hml0 hZ (by rw [← hh, Bd.state]; rfl)
/-! calls, each by what pays it -/
theorem own_callS (X : Stand p l e R s m args below meth c T locs cells slots) (hx : p.tables.exec = Jvm.exec) (hZ : Z.Warmed39 s.vm) (hown : s.vm.findClass own = some m.cls) (w1 : (Jvm.Cond.methodLink own index y).before a0 Z = true) (w2 : (Jvm.Cond.static y).before a0 Z = true) (w3 : (Jvm.Cond.initialized y.cls).before a0 Z = true) (w4 : (Jvm.Cond.code y bytes maxL ret).before a0 Z = true)
    (hy : y.cls ≠ "java/lang/invoke/MethodHandle" ∧ y.cls ≠ "java/lang/invoke/VarHandle")
    (hK : Back l R p e below s args y 3 W (fun A a => a = as' ∧ A.U.heap = h ∧ A.cells + rc ≤ R.cells ∧ A.slots + rs ≤ R.slots) (fun A _ v B => ∃ L, Q v B.U.heap L ∧ B.locs = A.locs ++ L ∧ B.cells = A.cells + rc ∧ B.slots = A.slots + rs))
    (eT : T.heap = h) (hc : cells + rc ≤ R.cells) (hs : slots + rs ≤ R.slots) (hg : g.method = m) (hsize : g.locals.size = c.maxLocals) (hlen : ∀ sig, parseMethodDescriptor y.desc = some sig → argsL.length = sig.parameters.length) (hstack : g.stack = argsL.reverse ++ rest) (has : argsL.toArray = as') (hW : 2 * g.monitorRoom + (rest.map fun v => v.category).sum ≤ W) (hd : decode c.code g.pc = .ok (.invokestatic index, 3))
    (k1 : ∀ (v : Option Value) (T' : State) (L : List Loc), Stand p l e R s m args below meth c T' (locs ++ L) (cells + rc) (slots + rs) → Q v T'.heap L → own_Fin p e below G T' { g with pc := g.pc + 3, stack := v.toList ++ rest }) : own_Fin p e below G T g := by
  obtain ⟨v, _, ⟨T2, L2, k2, n2⟩, -, X2, ⟨L, hQ, e1, e2, e3⟩, st⟩ := Jvm.LawKit.callS X hx hown (mvT hZ w1) (mvT hZ w2) (mvT hZ w3) (mvT hZ w4) hy hK hg hsize hlen hstack hW hd (fun _ _ => ⟨has, eT, hc, hs⟩)
  try dsimp only at X2 e1 e2 e3 st hQ
  subst e1 e2 e3
  exact own_step st (k1 v T2 L X2 hQ)
theorem own_callC (X : Stand p l e R s m args below meth c T locs cells slots) (hx : p.tables.exec = Jvm.exec) (hZ : Z.Warmed39 s.vm) (hown : s.vm.findClass own = some m.cls) (hy1 : y.name = "<init>") (w1 : (Jvm.Cond.methodLink own index y).before a0 Z = true) (w2 : (Jvm.Cond.instanceMethod y).before a0 Z = true) (w4 : (Jvm.Cond.code y bytes maxL none).before a0 Z = true)
    (hy : y.cls ≠ "java/lang/invoke/MethodHandle" ∧ y.cls ≠ "java/lang/invoke/VarHandle")
    (hK : Back l R p e below s args y 3 W (fun A a => a = as' ∧ A.U.heap = h ∧ A.cells + rc ≤ R.cells ∧ A.slots + rs ≤ R.slots) (fun A _ v B => ∃ L, Q v B.U.heap L ∧ B.locs = A.locs ++ L ∧ B.cells = A.cells + rc ∧ B.slots = A.slots + rs))
    (eT : T.heap = h) (hc : cells + rc ≤ R.cells) (hs : slots + rs ≤ R.slots) (hg : g.method = m) (hsize : g.locals.size = c.maxLocals) (hlen : ∀ sig, parseMethodDescriptor y.desc = some sig → argsL.length = sig.parameters.length) (hstack : g.stack = argsL.reverse ++ .ref a :: rest) (has : (.ref a :: argsL).toArray = as') (hW : 2 * g.monitorRoom + (rest.map fun v => v.category).sum ≤ W) (hd : decode c.code g.pc = .ok (.invokespecial index, 3))
    (k1 : ∀ (v : Option Value) (T' : State) (L : List Loc), Stand p l e R s m args below meth c T' (locs ++ L) (cells + rc) (slots + rs) → Q v T'.heap L → own_Fin p e below G T' { g with pc := g.pc + 3, stack := v.toList ++ rest }) : own_Fin p e below G T g := by
  obtain ⟨v, _, ⟨T2, L2, k2, n2⟩, -, X2, ⟨L, hQ, e1, e2, e3⟩, st⟩ := X.specialBack hx hy1 hown (mvT hZ w1) (mvT hZ w2) (mvT hZ w4) hy hK hg hsize (Steps.refl _) hlen hstack hW hd (fun _ _ => ⟨has, eT, hc, hs⟩)
  try dsimp only at X2 e1 e2 e3 st hQ
  subst e1 e2 e3
  exact own_step (fun _ q => st.trans q) (k1 v T2 L X2 hQ)
theorem own_callV {z : MethodName} {C : String} (X : Stand p l e R s m args below meth c T locs cells slots) (hx : p.tables.exec = Jvm.exec) (hZ : Z.Warmed39 s.vm) (hown : s.vm.findClass own = some m.cls) (w1 : (Jvm.Cond.methodLink own index y).before a0 Z = true) (w2 : (Jvm.Cond.declares y).before a0 Z = true) (hnf : NotFace s y) (w3 : (Jvm.Cond.selects C y z).before a0 Z = true) (w4 : (Jvm.Cond.instanceMethod z).before a0 Z = true)
    (hy : y.cls ≠ "java/lang/invoke/MethodHandle" ∧ y.cls ≠ "java/lang/invoke/VarHandle")
    (hK : Back l R p e below s args z 3 W (fun A a => a = as' ∧ A.U.heap = h ∧ A.cells + rc ≤ R.cells ∧ A.slots + rs ≤ R.slots) (fun A _ v B => ∃ L, Q v B.U.heap L ∧ B.locs = A.locs ++ L ∧ B.cells = A.cells + rc ∧ B.slots = A.slots + rs))
    (eT : T.heap = h) (E : Exa Z h a C) (hc : cells + rc ≤ R.cells) (hs : slots + rs ≤ R.slots) (hg : g.method = m) (hsize : g.locals.size = c.maxLocals) (hlen : ∀ sig, parseMethodDescriptor y.desc = some sig → argsL.length = sig.parameters.length) (hstack : g.stack = argsL.reverse ++ .ref a :: rest) (has : (.ref a :: argsL).toArray = as') (hW : 2 * g.monitorRoom + (rest.map fun v => v.category).sum ≤ W) (hd : decode c.code g.pc = .ok (.invokevirtual index, 3))
    (k1 : ∀ (v : Option Value) (T' : State) (L : List Loc), Stand p l e R s m args below meth c T' (locs ++ L) (cells + rc) (slots + rs) → Q v T'.heap L → own_Fin p e below G T' { g with pc := g.pc + 3, stack := v.toList ++ rest }) : own_Fin p e below G T g := by
  obtain ⟨cq, kq, qa, qb, qc⟩ := isOf hZ eT E
  obtain ⟨v, _, ⟨T2, L2, k2, n2⟩, -, X2, ⟨L, hQ, e1, e2, e3⟩, st⟩ := X.virtualBack hx hown (mvT hZ w1) (mvT hZ w2) hnf (mvT hZ w3) (mvT hZ w4) hy hK qa qc hg hsize (Steps.refl _) hlen hstack hW hd (fun _ _ => ⟨has, eT, hc, hs⟩)
  try dsimp only at X2 e1 e2 e3 st hQ
  subst e1 e2 e3
  exact own_step (fun _ q => st.trans q) (k1 v T2 L X2 hQ)
theorem own_selP (hZ : Z.Warmed39 s.vm) {kn : Nat} (wi : (Jvm.Cond.instantiable y.cls kn).before a0 Z = true) (w2 : (Jvm.Cond.instanceMethod y).before a0 Z = true) (w4 : (Jvm.Cond.privateMethod y).before a0 Z = true) (hy : y.cls ≠ "java/lang/invoke/MethodHandle" ∧ y.cls ≠ "java/lang/invoke/VarHandle") : (Jvm.Cond.selects y.cls y y).before args s = true := by
  obtain ⟨cc, kk, h1, h2, -, h4, -⟩ := Cond.instantiable_spec (mvT (args := args) hZ wi)
  exact selects_self_of_private h1 h2 (by simp at h4; exact h4.1) (Cond.privateMethod_at (mvP hZ w4 (args := #[]))) (mvT hZ w2) hy
theorem own_callP {C : String} (X : Stand p l e R s m args below meth c T locs cells slots) (hx : p.tables.exec = Jvm.exec) (hZ : Z.Warmed39 s.vm) (hown : s.vm.findClass own = some m.cls) (w1 : (Jvm.Cond.methodLink own index y).before a0 Z = true) (w2 : (Jvm.Cond.instanceMethod y).before a0 Z = true) (w3 : (Jvm.Cond.selects y.cls y y).before args s = true) (w4 : (Jvm.Cond.privateMethod y).before a0 Z = true) (w5 : (Jvm.Cond.code y bytes maxL ret).before a0 Z = true)
    (hy : y.cls ≠ "java/lang/invoke/MethodHandle" ∧ y.cls ≠ "java/lang/invoke/VarHandle")
    (hK : Back l R p e below s args y 3 W (fun A a => a = as' ∧ A.U.heap = h ∧ A.cells + rc ≤ R.cells ∧ A.slots + rs ≤ R.slots) (fun A _ v B => ∃ L, Q v B.U.heap L ∧ B.locs = A.locs ++ L ∧ B.cells = A.cells + rc ∧ B.slots = A.slots + rs))
    (eT : T.heap = h) (E : Exa Z h a C) (hc : cells + rc ≤ R.cells) (hs : slots + rs ≤ R.slots) (hg : g.method = m) (hsize : g.locals.size = c.maxLocals) (hlen : ∀ sig, parseMethodDescriptor y.desc = some sig → argsL.length = sig.parameters.length) (hstack : g.stack = argsL.reverse ++ .ref a :: rest) (has : (.ref a :: argsL).toArray = as') (hW : 2 * g.monitorRoom + (rest.map fun v => v.category).sum ≤ W) (hd : decode c.code g.pc = .ok (.invokevirtual index, 3))
    (k1 : ∀ (v : Option Value) (T' : State) (L : List Loc), Stand p l e R s m args below meth c T' (locs ++ L) (cells + rc) (slots + rs) → Q v T'.heap L → own_Fin p e below G T' { g with pc := g.pc + 3, stack := v.toList ++ rest }) : own_Fin p e below G T g := by
  obtain ⟨cq, q, q'⟩ := E.cell
  obtain ⟨v, _, ⟨T2, L2, k2, n2⟩, -, X2, ⟨L, hQ, e1, e2, e3⟩, st⟩ := X.privateBack hx hown (mvT hZ w1) (mvT hZ w2) w3 (Cond.privateMethod_at (mvP hZ w4 (args := #[]))) (mvT hZ w5) hy hK hg hsize (Steps.refl _) (a := a) (by rw [eT]; exact q) q' hlen hstack hW hd (fun _ _ => ⟨has, eT, hc, hs⟩)
  try dsimp only at X2 e1 e2 e3 st hQ
  subst e1 e2 e3
  exact own_step (fun _ q => st.trans q) (k1 v T2 L X2 hQ)
theorem own_ldI (X : Stand p l e R s m args below meth c T locs cells slots) (hx : p.tables.exec = Jvm.exec) (hZ : Z.Warmed39 s.vm) (eT : T.heap = h) (F : Arv Z h a k .int n vs d) (hj : ¬ j < 0 ∧ j < n) (hu : vs.getD j.toNatClampNeg d = v) (hg : g.method = m) (hs : g.stack = .int j :: .ref a :: rest) (hd : decode c.code g.pc = .ok (.iaload, 1)) : ∀ t, Steps p.tables e below (T.setTop { g with pc := g.pc + 1, stack := v :: rest }) t → Steps p.tables e below (T.setTop g) t := by
  obtain ⟨cl, A, q1, S, q3, H, q5⟩ := F
  exact fun t k1 => X.iaload hx (by rw [eT]; exact A.1) (State.isArrayOf_alike hZ.alike A.2.1) A.2.2 (inb_of S hj) (H.at (inb_of S hj) hu) hg hs hd t k1
theorem own_ldJ (X : Stand p l e R s m args below meth c T locs cells slots) (hx : p.tables.exec = Jvm.exec) (hZ : Z.Warmed39 s.vm) (eT : T.heap = h) (F : Arv Z h a k .long n vs d) (hj : ¬ j < 0 ∧ j < n) (hu : vs.getD j.toNatClampNeg d = v) (hg : g.method = m) (hs : g.stack = .int j :: .ref a :: rest) (hd : decode c.code g.pc = .ok (.laload, 1)) : ∀ t, Steps p.tables e below (T.setTop { g with pc := g.pc + 1, stack := v :: rest }) t → Steps p.tables e below (T.setTop g) t := by
  obtain ⟨cl, A, q1, S, q3, H, q5⟩ := F
  exact fun t k1 => X.laload hx (by rw [eT]; exact A.1) (State.isArrayOf_alike hZ.alike A.2.1) A.2.2 (inb_of S hj) (H.at (inb_of S hj) hu) hg hs hd t k1
theorem own_ldA (X : Stand p l e R s m args below meth c T locs cells slots) (hx : p.tables.exec = Jvm.exec) (hZ : Z.Warmed39 s.vm) (eT : T.heap = h) (F : Arv Z h a k ty n vs d) (hty : ty.isReference = true) (hj : ¬ j < 0 ∧ j < n) (hu : vs.getD j.toNatClampNeg d = v) (hg : g.method = m) (hs : g.stack = .int j :: .ref a :: rest) (hd : decode c.code g.pc = .ok (.aaload, 1)) : ∀ t, Steps p.tables e below (T.setTop { g with pc := g.pc + 1, stack := v :: rest }) t → Steps p.tables e below (T.setTop g) t := by
  obtain ⟨cl, A, q1, S, q3, H, q5⟩ := F
  exact fun t k1 => X.aaload hx (by rw [eT]; exact A.1) (State.isArrayOf_alike hZ.alike A.2.1) hty A.2.2 (inb_of S hj) (H.at (inb_of S hj) hu) hg hs hd t k1
theorem own_len (X : Stand p l e R s m args below meth c T locs cells slots) (hx : p.tables.exec = Jvm.exec) (hZ : Z.Warmed39 s.vm) (eT : T.heap = h) (F : Arv Z h a k ty n vs d) (hg : g.method = m) (hs : g.stack = .ref a :: rest) (hd : decode c.code g.pc = .ok (.arraylength, 1)) : ∀ t, Steps p.tables e below (T.setTop { g with pc := g.pc + 1, stack := .int n :: rest }) t → Steps p.tables e below (T.setTop g) t := by
  obtain ⟨cl, A, q1, S, q3, H, q5⟩ := F
  refine fun t k1 => X.arraylength hx (by rw [eT]; exact A.1) (State.isArrayOf_alike hZ.alike A.2.1) hg hs hd t ?_
  rw [len_of S q3]; exact k1
theorem own_stI (X : Stand p l e R s m args below meth c T locs cells slots) (hx : p.tables.exec = Jvm.exec) (hZ : Z.Warmed39 s.vm) (eT : T.heap = h) (F : Arv Z h a k .int n vs d) {x : Int32} (hj : ¬ j < 0 ∧ j < n) {i : Nat} (hi : j.toNatClampNeg = i) (hl : i < vs.length) (hg : g.method = m) (hs : g.stack = .int x :: .int j :: .ref a :: rest) (hd : decode c.code g.pc = .ok (.iastore, 1)) :
    ∃ T' h', Stand p l e R s m args below meth c T' (locs ++ [⟨a, j.toNatClampNeg⟩]) cells slots ∧ T'.heap = h' ∧ Wr h h' a j.toNatClampNeg (.int x) ∧ Arv Z h' a k .int n (vs.set i (.int x)) d ∧ ∀ t, Steps p.tables e below (T'.setTop { g with pc := g.pc + 1, stack := rest }) t → Steps p.tables e below (T.setTop g) t := by
  obtain ⟨cl, A, q1, S, q3, H, q5⟩ := F
  obtain ⟨T', h', X', e', W', st⟩ := stI X hx hZ eT A (inb_of S hj) hg hs hd
  exact ⟨T', h', X', e', W', Arv.set A q1 S q3 H q5 rfl W' i hi hl, st⟩
theorem own_stJ (X : Stand p l e R s m args below meth c T locs cells slots) (hx : p.tables.exec = Jvm.exec) (hZ : Z.Warmed39 s.vm) (eT : T.heap = h) (F : Arv Z h a k .long n vs d) {x : Int64} (hj : ¬ j < 0 ∧ j < n) {i : Nat} (hi : j.toNatClampNeg = i) (hl : i < vs.length) (hg : g.method = m) (hs : g.stack = .long x :: .int j :: .ref a :: rest) (hd : decode c.code g.pc = .ok (.lastore, 1)) :
    ∃ T' h', Stand p l e R s m args below meth c T' (locs ++ [⟨a, j.toNatClampNeg⟩]) cells slots ∧ T'.heap = h' ∧ Wr h h' a j.toNatClampNeg (.long x) ∧ Arv Z h' a k .long n (vs.set i (.long x)) d ∧ ∀ t, Steps p.tables e below (T'.setTop { g with pc := g.pc + 1, stack := rest }) t → Steps p.tables e below (T.setTop g) t := by
  obtain ⟨cl, A, q1, S, q3, H, q5⟩ := F
  obtain ⟨T', h', X', e', W', st⟩ := stJ X hx hZ eT A (inb_of S hj) hg hs hd
  exact ⟨T', h', X', e', W', Arv.set A q1 S q3 H q5 rfl W' i hi hl, st⟩
theorem own_stR (X : Stand p l e R s m args below meth c T locs cells slots) (hx : p.tables.exec = Jvm.exec) (hZ : Z.Warmed39 s.vm) (eT : T.heap = h) (F : Arv Z h a k ty n vs d) (hty : ty.isReference = true) {x : Value} (hxr : fits ty x = true) (hsto : ∀ cl, Arr Z h a cl ty → cl.cls = k → Sto Z h a x) (hj : ¬ j < 0 ∧ j < n) {i : Nat} (hi : j.toNatClampNeg = i) (hl : i < vs.length) (hg : g.method = m) (hs : g.stack = x :: .int j :: .ref a :: rest) (hd : decode c.code g.pc = .ok (.aastore, 1)) :
    ∃ T' h', Stand p l e R s m args below meth c T' (locs ++ [⟨a, j.toNatClampNeg⟩]) cells slots ∧ T'.heap = h' ∧ Wr h h' a j.toNatClampNeg x ∧ Arv Z h' a k ty n (vs.set i x) d ∧ ∀ t, Steps p.tables e below (T'.setTop { g with pc := g.pc + 1, stack := rest }) t → Steps p.tables e below (T.setTop g) t := by
  obtain ⟨cl, A, q1, S, q3, H, q5⟩ := F
  obtain ⟨T', h', X', e', W', st⟩ := stR X hx hZ eT A (inb_of S hj) hty (hsto cl A q1) hg hs hd
  exact ⟨T', h', X', e', W', Arv.set A q1 S q3 H q5 hxr W' i hi hl, st⟩
/-! small things -/
theorem own_ne {x y n : Nat} (h1 : x < n) (h2 : n ≤ y) : x ≠ y := Nat.ne_of_lt (Nat.lt_of_lt_of_le h1 h2)
theorem own_lt {x n n' : Nat} (h1 : x < n) (h2 : n ≤ n') : x < n' := Nat.lt_of_lt_of_le h1 h2
theorem own_arr_ne {ty' : FieldType} {k' : ClassId} {n' : Int32} {vs' : List Value} {d' : Value} (A : Arv Z h a k ty n vs d) (B : Arv Z h b k' ty' n' vs' d') (ht : ty ≠ ty') : a ≠ b := fun q => by
  subst q
  obtain ⟨c1, ⟨h1, ⟨-, kk, g1, comp, g2⟩, -⟩, -⟩ := A
  obtain ⟨c2, ⟨h2, ⟨-, kk', g3, comp', g4⟩, -⟩, -⟩ := B
  cases h1.symm.trans h2
  cases g1.symm.trans g3
  have := g2.symm.trans g4
  cases this
  exact ht rfl
/-! shorter forms -/
abbrev sI (z : Int32) : Slot := .val (.int z)
abbrev sJ (z : Int64) : Slot := .val (.long z)
abbrev sR (a : Addr) : Slot := .val (.ref a)
theorem own_w0 (h1 : g.monitorRoom = 0) (h2 : (rest.map fun v => v.category).sum = W) : 2 * g.monitorRoom + (rest.map fun v => v.category).sum ≤ W := by rw [h1, h2]; omega
theorem own_cs {cells' slots' : Nat} (X : Stand p l e R s m args below meth c T locs cells slots) (h1 : cells ≤ cells') (h2 : slots ≤ slots') : Stand p l e R s m args below meth c T locs cells' slots' := { X with same := X.same.mono h1 h2 }
theorem own_gG (X : Stand p l e R s m args below meth c T locs cells slots) (hx : p.tables.exec = Jvm.exec) (hZ : Z.Warmed39 s.vm) {own R0 O n d host : String} {index : Nat} (hown : s.vm.findClass own = some m.cls) (w : (Cond.fieldLink own index R0 n d).before a0 Z = true ∨ (Cond.fieldLinkNest own index R0 n d host).before a0 Z = true) (via : Via Z R0 O n d) (eT : T.heap = h) {a : Addr} {v : Value} (F : Fld Z h a O n d v) (hg : g.method = m) (hs : g.stack = .ref a :: rest) (hd : decode c.code g.pc = .ok (.getfield index, 3))
    (k1 : ∀ T', Stand p l e R s m args below meth c T' locs cells slots → T'.heap = h → own_Fin p e below G T' { g with pc := g.pc + 3, stack := v :: rest }) : own_Fin p e below G T g := by
  obtain ⟨T', X', e', st⟩ := getF X hx hZ hown w via eT F hg hs hd
  exact own_step st (k1 T' X' e')
theorem own_gF (X : Stand p l e R s m args below meth c T locs cells slots) (hx : p.tables.exec = Jvm.exec) (hZ : Z.Warmed39 s.vm) {own O n d : String} {index : Nat} (hown : s.vm.findClass own = some m.cls) (w : (Cond.fieldLink own index O n d).before a0 Z = true) (eT : T.heap = h) {a : Addr} {v : Value} (F : Fld Z h a O n d v) (hg : g.method = m) (hs : g.stack = .ref a :: rest) (hd : decode c.code g.pc = .ok (.getfield index, 3))
    (k1 : ∀ T', Stand p l e R s m args below meth c T' locs cells slots → T'.heap = h → own_Fin p e below G T' { g with pc := g.pc + 3, stack := v :: rest }) : own_Fin p e below G T g :=
  own_gG (host := "") X hx hZ hown (Or.inl w) Via.refl eT F hg hs hd k1
theorem own_pF (X : Stand p l e R s m args below meth c T locs cells slots) (hx : p.tables.exec = Jvm.exec) (hZ : Z.Warmed39 s.vm) {own O n d C : String} {index kk : Nat} {ty : FieldType} (hown : s.vm.findClass own = some m.cls) (w : (Cond.fieldLink own index O n d).before a0 Z = true) (eT : T.heap = h) {a : Addr} {v old : Value} (F : Fld Z h a O n d old) (E : Exa Z h a C) (L : (Cond.lays C O n d).before a0 Z = true ∨ ((Cond.laysFinal C O n d).before a0 Z = true ∧ own = O ∧ meth.name = "<init>")) (wi : (Cond.instantiable C kk).before a0 Z = true)
    (hty : parseFieldDescriptor d = some ty) (hn : narrow ty v = v) (hf : fits ty v = true) (hg : g.method = m) (hs : g.stack = v :: .ref a :: rest) (hd : decode c.code g.pc = .ok (.putfield index, 3))
    (k1 : ∀ T' h', Stand p l e R s m args below meth c T' (locs ++ [⟨a, Jvm.RoadKit.slotOf Z O n d⟩]) cells slots → T'.heap = h' → Wr h h' a (Jvm.RoadKit.slotOf Z O n d) v → Fld Z h' a O n d v → own_Fin p e below G T' { g with pc := g.pc + 3, stack := rest }) : own_Fin p e below G T g := by
  obtain ⟨T', h', X', e', W', st⟩ := putF (host := "") X hx hZ hown (Or.inl w) Via.refl eT F E L wi hty hn hf hg hs hd
  exact own_step st (k1 T' h' X' e' W' (F.same W'))
def own_Met (l : Launch) (Z : State) (y : MethodName) (bytes : ByteArray) (maxL : Nat) (ret : Option FieldType) (ws : List Jvm.Cond) (rm : Room) (as' : Array Value) (h0 : Heap) (Q : Option Value → Heap → List Loc → Prop) : Prop :=
  MetFree l y (head1 (Jvm.Cond.code y bytes maxL ret :: ws) rm) (fun a U => a = as' ∧ Z.Warmed39 U.vm ∧ U.heap = h0) (fun _ _ _ _ _ => True) (fun _ U o U' => ∃ v L, o = .returned v ∧ Q v U'.heap L ∧ FrameEnd U o U' L rm.cells rm.slots)
theorem own_bodyN {ws : List Jvm.Cond} {rm : Room} {h0 : Heap} {g0 : MethodId → JFrame} (hy : plainFor y = true) (he : ∀ m, entryFrame m as' maxL = g0 m)
    (body : ∀ p e s m below meth c s₁, p.tables.exec = Jvm.exec → c.code = bytes → c.maxLocals = maxL → meth.sig.returnType = ret → meth.locks = false → s.vm.findClass y.cls = some m.cls → meth.name = y.name → Z.Warmed39 s.vm → s₁.heap = h0 → Stand p l e rm s m as' below meth c s₁ [] 0 0 → own_Fin p e below (own_G s Q rm.cells rm.slots) s₁ (g0 m)) :
    own_Met l Z y bytes maxL ret ws rm as' h0 Q :=
  own_body hy (fun p e s m below meth c s₁ Bd hml hZ e0 => own_cast (he m) (body p e s m below meth c s₁ Bd.exec Bd.bytes hml Bd.returns Bd.notSynchronized (findClass_of_methodNamed Bd.named) (name_of_methodNamed Bd.named Bd.method).1 hZ e0 (Stand.of_body Bd)))
theorem own_callQ {C : String} (X : Stand p l e R s m args below meth c T locs cells slots) (hx : p.tables.exec = Jvm.exec) (hZ : Z.Warmed39 s.vm) (hown : s.vm.findClass own = some m.cls) (w1 : (Jvm.Cond.methodLink own index y).before a0 Z = true) (w2 : (Jvm.Cond.instanceMethod y).before a0 Z = true) {kI : Nat} (wi : (Jvm.Cond.instantiable y.cls kI).before a0 Z = true) (w4 : (Jvm.Cond.privateMethod y).before a0 Z = true) (w5 : (Jvm.Cond.code y bytes maxL ret).before a0 Z = true)
    (hy : y.cls ≠ "java/lang/invoke/MethodHandle" ∧ y.cls ≠ "java/lang/invoke/VarHandle")
    (hK : Back l R p e below s args y 3 W (fun A a => a = as' ∧ A.U.heap = h ∧ A.cells + rc ≤ R.cells ∧ A.slots + rs ≤ R.slots) (fun A _ v B => ∃ L, Q v B.U.heap L ∧ B.locs = A.locs ++ L ∧ B.cells = A.cells + rc ∧ B.slots = A.slots + rs))
    (eT : T.heap = h) (E : Exa Z h a C) (hc : cells + rc ≤ R.cells) (hs : slots + rs ≤ R.slots) (hg : g.method = m) (hsize : g.locals.size = c.maxLocals) (hlen : ∀ sig, parseMethodDescriptor y.desc = some sig → argsL.length = sig.parameters.length) (hstack : g.stack = argsL.reverse ++ .ref a :: rest) (has : (.ref a :: argsL).toArray = as') (hW : 2 * g.monitorRoom + (rest.map fun v => v.category).sum ≤ W) (hd : decode c.code g.pc = .ok (.invokevirtual index, 3))
    (k1 : ∀ (v : Option Value) (T' : State) (L : List Loc), Stand p l e R s m args below meth c T' (locs ++ L) (cells + rc) (slots + rs) → Q v T'.heap L → own_Fin p e below G T' { g with pc := g.pc + 3, stack := v.toList ++ rest }) : own_Fin p e below G T g :=
  own_callP X hx hZ hown w1 w2 (own_selP hZ wi w2 w4 hy) w4 w5 hy hK eT E hc hs hg hsize hlen hstack has hW hd k1
theorem own_bO {rm : Room} {len : Nat} (hM : own_Met l Z y bytes maxL ret [] rm as' h Q) (hZ : Z.Warmed39 s.vm) (wc : (Cond.code y bytes maxL ret).before a0 Z = true) (wz : (Cond.initialized y.cls).before a0 Z = true) (hf : Nat.ble (rm.frames + 1) R.frames = true) (hl : Nat.ble (W + (maxL + 11) + rm.locals) R.locals = true) :
    Back l R p e below s args y len W (fun A a => a = as' ∧ A.U.heap = h ∧ A.cells + rm.cells ≤ R.cells ∧ A.slots + rm.slots ≤ R.slots)
      (fun A _ v B => ∃ L, Q v B.U.heap L ∧ B.locs = A.locs ++ L ∧ B.cells = A.cells + rm.cells ∧ B.slots = A.slots + rm.slots) :=
  backOf hM hZ wc wz (Nat.le_of_ble_eq_true hf) (Nat.le_of_ble_eq_true hl)
/-! what is resolved already -/
theorem own_getR (X : Stand p l e R s m args below meth c T locs cells slots) (hx : p.tables.exec = Jvm.exec) (hZ : Z.Warmed39 s.vm) {own O n d : String} {index : Nat} (hown : s.vm.findClass own = some m.cls) (w : (Cond.fieldRef own index O n d).before a0 Z = true) (eT : T.heap = h) {a : Addr} {v : Value} (F : Fld Z h a O n d v) (hg : g.method = m) (hs : g.stack = .ref a :: rest) (hd : decode c.code g.pc = .ok (.getfield index, 3))
    (k1 : own_Fin p e below G T { g with pc := g.pc + 3, stack := v :: rest }) : own_Fin p e below G T g := by
  obtain ⟨cell, cf, k, i, f, h1, h2, h3, h4, -, -, h7⟩ := F
  have hZT : Z.Warmed39 T.vm := wtrans hZ X.warmed
  have hcT : (Z.setVm T.vm).vm.findClass own = some m.cls := by
    show T.vm.findClass own = _
    rw [X.warmed.alike.findClass]; exact hown
  obtain ⟨c', k', i', f', hi', hready⟩ := Cond.fieldRef_spec hcT (Cond.fieldRef_warmed39 hZT w)
  obtain ⟨k2, hi2, -⟩ := State.fieldFound?_setVm (s := Z) hZT.alike h2
  cases hi2.symm.trans hi'
  refine own_step (fun target hrest => ?_) k1
  subst hg
  jvm_step X.here [hx, hd, getfield.wp_ready (e := e) (s := T) (f := g) X.here.top hready h3 hs (by rw [eT]; exact h1) h4 h7]
  exact hrest
theorem own_callCR (X : Stand p l e R s m args below meth c T locs cells slots) (hx : p.tables.exec = Jvm.exec) (hZ : Z.Warmed39 s.vm) (hown : s.vm.findClass own = some m.cls) (hy1 : y.name = "<init>") (w1 : (Jvm.Cond.methodRef own index y).before a0 Z = true) (w2 : (Jvm.Cond.instanceMethod y).before a0 Z = true) (w4 : (Jvm.Cond.code y bytes maxL none).before a0 Z = true)
    (hy : y.cls ≠ "java/lang/invoke/MethodHandle" ∧ y.cls ≠ "java/lang/invoke/VarHandle")
    (hK : Back l R p e below s args y 3 W (fun A a => a = as' ∧ A.U.heap = h ∧ A.cells + rc ≤ R.cells ∧ A.slots + rs ≤ R.slots) (fun A _ v B => ∃ L, Q v B.U.heap L ∧ B.locs = A.locs ++ L ∧ B.cells = A.cells + rc ∧ B.slots = A.slots + rs))
    (eT : T.heap = h) (hc : cells + rc ≤ R.cells) (hs : slots + rs ≤ R.slots) (hg : g.method = m) (hsize : g.locals.size = c.maxLocals) (hlen : ∀ sig, parseMethodDescriptor y.desc = some sig → argsL.length = sig.parameters.length) (hstack : g.stack = argsL.reverse ++ .ref a :: rest) (has : (.ref a :: argsL).toArray = as') (hW : 2 * g.monitorRoom + (rest.map fun v => v.category).sum ≤ W) (hd : decode c.code g.pc = .ok (.invokespecial index, 3))
    (k1 : ∀ (v : Option Value) (T' : State) (L : List Loc), Stand p l e R s m args below meth c T' (locs ++ L) (cells + rc) (slots + rs) → Q v T'.heap L → own_Fin p e below G T' { g with pc := g.pc + 3, stack := v.toList ++ rest }) : own_Fin p e below G T g := by
  have hZT : Z.Warmed39 T.vm := wtrans hZ X.warmed
  have hcT : (Z.setVm T.vm).vm.findClass own = some m.cls := by
    show T.vm.findClass own = _
    rw [X.warmed.alike.findClass]; exact hown
  obtain ⟨mz, methZ, hnZ, -⟩ := Cond.instanceMethod_spec w2
  obtain ⟨obj, methO, hnO, hmO, hstO, habO⟩ := Cond.instanceMethod_spec (mvT (args := args) hZ w2)
  obtain ⟨methO', cO, hmO', hcO, hbO, hlO, -, hlockO, -, hsigO⟩ := Cond.code_spec hnO (mvT (args := args) hZ w4)
  cases hmO.symm.trans hmO'
  obtain ⟨kO, hkO, hnameO⟩ := className_of_methodNamed hnO
  obtain ⟨hnameMO, hdescO⟩ := name_of_methodNamed hnO hmO
  obtain ⟨m', c', hfnd, hreadyM, hfc, hnr⟩ := Cond.methodRef_named e hcT (Cond.methodRef_warmed39 hZT hnZ hy w1)
  have hnT : (Z.setVm T.vm).methodNamed? y = some obj := X.named hnO
  cases (State.methodFound?_of_named hnT hy).symm.trans hfnd
  cases (findClass_of_methodNamed hnT).symm.trans hfc
  obtain ⟨kO₂, hkO₂, heO₂⟩ := X.warmed.alike.2.2 _ _ hkO
  have hmO₂ : T.vm.method? obj = some methO := by rw [X.warmed.alike.method?]; exact hmO
  have hfound : lookupSpecial T.vm obj.cls "<init>" methO.desc = .method obj := by
    rw [X.warmed.alike.lookupSpecial, hdescO, ← hy1]; exact lookupSpecial_of_named hnO hmO hstO
  obtain ⟨v, ⟨T2, L2, k2, n2⟩, X2, ⟨L, hQ, e1, e2, e3⟩, st⟩ := hK m meth c ⟨T, locs, cells, slots⟩ { g with stack := rest } (.invokespecial index) obj (.ref a :: argsL).toArray X hg hsize hd hW (X.named hnO) ⟨has, eT, hc, hs⟩
  try dsimp only at X2 e1 e2 e3 st hQ
  subst e1 e2 e3
  refine own_step (fun target q => ?_) (k1 v T2 L X2 hQ)
  subst hg
  have st' := st.trans q
  jvm_step X.here [hx, hd, invokespecial.wp_init (e := e) (s := T) (k := kO₂) (meth := methO) (m := obj) (a := a) (args := argsL) (rest := rest) (f := g) X.here.top hnr hreadyM hkO₂ hmO₂ (by rw [hnameMO]; exact hy1) hstO habO hfound (hlen _ hsigO) hstack]
  intro acts
  rw [doInvoke_state]
  exact st'
end OwnKit
end Jvm.Pilot.@@N@@
namespace Jvm.Pilot.@@N@@
open Jvm Jvm.ClassFile Sem Op Lib Jvm.Free Jvm.Stand Jvm.LawKit Jvm.RoadKit Bundle Jvm.Pilot.@@N@@.Jvm.D
abbrev own_Et (Z : State) (h : Heap) (a : Addr) : Prop := Exa Z h a "com/example/vaxwire/vaxwire/registry/KeyIndex$Table"
abbrev own_Ek (Z : State) (h : Heap) (a : Addr) : Prop := Exa Z h a "com/example/vaxwire/vaxwire/registry/KeyIndex"
abbrev own_Fk (Z : State) (h : Heap) (a : Addr) (v : Value) : Prop := Fld Z h a "com/example/vaxwire/vaxwire/registry/KeyIndex$Table" "keys" "[J" v
abbrev own_Fp (Z : State) (h : Heap) (a : Addr) (v : Value) : Prop := Fld Z h a "com/example/vaxwire/vaxwire/registry/KeyIndex$Table" "places" "[I" v
abbrev own_Fu (Z : State) (h : Heap) (a : Addr) (v : Value) : Prop := Fld Z h a "com/example/vaxwire/vaxwire/registry/KeyIndex$Table" "used" "I" v
abbrev own_Fl (Z : State) (h : Heap) (a : Addr) (v : Value) : Prop := Fld Z h a "com/example/vaxwire/vaxwire/registry/KeyIndex$Table" "lists" "[[I" v
abbrev own_Fs (Z : State) (h : Heap) (a : Addr) (v : Value) : Prop := Fld Z h a "com/example/vaxwire/vaxwire/registry/KeyIndex$Table" "listSizes" "[I" v
abbrev own_Ff (Z : State) (h : Heap) (a : Addr) (v : Value) : Prop := Fld Z h a "com/example/vaxwire/vaxwire/registry/KeyIndex$Table" "freeLists" "[I" v
abbrev own_Fc (Z : State) (h : Heap) (a : Addr) (v : Value) : Prop := Fld Z h a "com/example/vaxwire/vaxwire/registry/KeyIndex$Table" "freeCount" "I" v
abbrev own_Fn (Z : State) (h : Heap) (a : Addr) (v : Value) : Prop := Fld Z h a "com/example/vaxwire/vaxwire/registry/KeyIndex$Table" "listCount" "I" v
abbrev own_Ft (Z : State) (h : Heap) (a : Addr) (v : Value) : Prop := Fld Z h a "com/example/vaxwire/vaxwire/registry/KeyIndex" "tables" "[Lcom/example/vaxwire/vaxwire/registry/KeyIndex$Table;" v
theorem own_nat {a : Nat} (h : a < 2 ^ 31) : (Int32.ofNat a).toNatClampNeg = a := by
  have e : (Int32.ofNat a).toInt = (a : Int) := Int32.toInt_ofNat_of_lt (by omega)
  rw [Int32.toNatClampNeg, e]; rfl
theorem own_inc (a : Nat) : Int32.ofNat a + (1 : Int32) = Int32.ofNat (a + 1) := (inc_ofNat a).symm
theorem own_nfw : nativeFrameWords "java/lang/System" "arraycopy" 5 = 7 := by decide
theorem own_mapD {cs : List Int32} {i : Nat} (h : i < cs.length) {dv : Value} : (cs.map Value.int).getD i dv = .int (cs.getD i 0) := by
  rw [List.getD_eq_getElem?_getD, List.getD_eq_getElem?_getD, List.getElem?_map, List.getElem?_eq_getElem h]; rfl
theorem own_mask (x : Int32) (k : Nat) (hk : k < 2 ^ 31) : ∃ S : Nat, S ≤ k ∧ (x &&& Int32.ofNat k) = Int32.ofNat S := by
  refine ⟨(x &&& Int32.ofNat k).toBitVec.toNat, ?_, ?_⟩
  · simp only [Int32.toBitVec_and, BitVec.toNat_and]
    refine Nat.le_trans Nat.and_le_right ?_
    show (BitVec.ofNat 32 k).toNat ≤ k
    rw [BitVec.toNat_ofNat]; exact Nat.mod_le _ _
  · apply Int32.toBitVec_inj.mp
    show _ = BitVec.ofNat 32 _
    rw [BitVec.ofNat_toNat]; simp
def own_q (ky : Int64) (t : Nat) : Nat := ((ky.toInt32 &&& (15 : Int32)).toNatClampNeg + t) % 16
theorem own_qlt (ky : Int64) (t : Nat) : own_q ky t < 16 := Nat.mod_lt _ (by decide)
theorem own_q0 (ky : Int64) : (ky.toInt32 &&& (15 : Int32)) = Int32.ofNat (own_q ky 0) := by
  obtain ⟨S, h, e⟩ := own_mask ky.toInt32 15 (by decide)
  have e' : (ky.toInt32 &&& (15 : Int32)) = Int32.ofNat S := e
  unfold own_q
  rw [e', own_nat (by omega), Nat.add_zero, Nat.mod_eq_of_lt (by omega)]
theorem own_n16 {k : Nat} (h : k < 16) : ((Int32.ofNat k) + (1 : Int32)) &&& (15 : Int32) = Int32.ofNat ((k + 1) % 16) := by
  have t : ∀ k : Fin 16, ((Int32.ofNat k.val) + (1 : Int32)) &&& (15 : Int32) = Int32.ofNat ((k.val + 1) % 16) := by decide
  exact t ⟨k, h⟩
theorem own_qn (ky : Int64) (i : Nat) : ((Int32.ofNat (own_q ky i)) + (1 : Int32)) &&& (15 : Int32) = Int32.ofNat (own_q ky (i + 1)) := by
  rw [own_n16 (own_qlt ky i)]
  congr 1
  unfold own_q
  omega
theorem own_qin {k : Nat} (h : k < 16) : ¬ Int32.ofNat k < 0 ∧ Int32.ofNat k < (16 : Int32) := by
  have t : ∀ k : Fin 16, ¬ Int32.ofNat k.val < 0 ∧ Int32.ofNat k.val < (16 : Int32) := by decide
  exact t ⟨k, h⟩
theorem own_mapL {kl : List Int64} {i : Nat} (h : i < kl.length) {dv : Value} : (kl.map Value.long).getD i dv = .long (kl.getD i 0) := by
  rw [List.getD_eq_getElem?_getD, List.getD_eq_getElem?_getD, List.getElem?_map, List.getElem?_eq_getElem h]; rfl
def own_pth (kl : List Int64) (pl : List Int32) (ky : Int64) (t : Nat) : Prop := ∀ i, i < t → ¬ pl.getD (own_q ky i) 0 = 0 ∧ ¬ kl.getD (own_q ky i) 0 = ky
theorem own_nn {k : Nat} (h : k < 16) : (-((-(Int32.ofNat k)) - (1 : Int32))) - (1 : Int32) = Int32.ofNat k := by
  have t : ∀ k : Fin 16, (-((-(Int32.ofNat k.val)) - (1 : Int32))) - (1 : Int32) = Int32.ofNat k.val := by decide
  exact t ⟨k, h⟩
theorem own_ng {k : Nat} (h : k < 16) : ((-(Int32.ofNat k)) - (1 : Int32)) < 0 := by
  have t : ∀ k : Fin 16, ((-(Int32.ofNat k.val)) - (1 : Int32)) < 0 := by decide
  exact t ⟨k, h⟩
theorem own_u48 {k : Nat} (h : k ≤ 2) : ¬ (48 : Int32) < ((4 : Int32) * ((Int32.ofNat k) + (1 : Int32))) := by
  have t : ∀ k : Fin 3, ¬ (48 : Int32) < ((4 : Int32) * ((Int32.ofNat k.val) + (1 : Int32))) := by decide
  exact t ⟨k, by omega⟩
theorem own_least {P : Nat → Prop} : ∀ n, P n → ∃ t, t ≤ n ∧ P t ∧ ∀ i, i < t → ¬ P i := by
  intro n
  induction n using Nat.strongRecOn with | _ n ih => ?_
  intro h
  by_cases q : ∃ i, i < n ∧ P i
  · obtain ⟨i, hi, hp⟩ := q
    obtain ⟨t, ht, r⟩ := ih i hi hp
    exact ⟨t, by omega, r⟩
  · exact ⟨n, Nat.le_refl _, h, fun i hi hp => q ⟨i, hi, hp⟩⟩
def own_upd {α : Type} (F : Nat → α) (j : Nat) (x : α) : Nat → α := fun i => if i = j then x else F i
theorem own_upd_eq {α : Type} (F : Nat → α) (j : Nat) (x : α) : own_upd F j x j = x := if_pos rfl
theorem own_upd_ne {α : Type} (F : Nat → α) {i j : Nat} (x : α) (h : ¬ i = j) : own_upd F j x i = F i := if_neg h
def own_j (ky : Int64) : Nat := ((XT.ushrL ky (58 : Int32)).toInt32).toNatClampNeg
def own_sj (uF : Nat → Nat) : Nat → Int64
  | 0 => 0
  | n + 1 => own_sj uF n + ((Int32.ofNat (uF n)).toInt64)
def own_I (kl : List Int64) (pl : List Int32) : Prop := ∀ q, q < 16 → ¬ pl.getD q 0 = 0 → ∃ t, t < 16 ∧ q = own_q (kl.getD q 0) t ∧ own_pth kl pl (kl.getD q 0) t
def own_inv (kF : Nat → List Int64) (pF : Nat → List Int32) (uF : Nat → Nat) (M : Int64 → Int32) (cJ : Int64) (nn : Nat) : Prop :=
  (∀ j, j < 64 → (kF j).length = 16 ∧ (pF j).length = 16 ∧ own_I (kF j) (pF j) ∧ uF j ≤ nn ∧ ∃ L : List Nat, L.length ≤ uF j ∧ ∀ q, q < 16 → ¬ (pF j).getD q 0 = 0 → q ∈ L) ∧
  (∀ ky q, q < 16 → ¬ (pF (own_j ky)).getD q 0 = 0 → (kF (own_j ky)).getD q 0 = ky → (pF (own_j ky)).getD q 0 = M ky) ∧
  (∀ ky, ¬ M ky = 0 → ∃ q, q < 16 ∧ ¬ (pF (own_j ky)).getD q 0 = 0 ∧ (kF (own_j ky)).getD q 0 = ky) ∧
  own_sj uF 64 = cJ
theorem own_free {L : List Nat} (h : L.length ≤ 3) : ∃ e, e < 4 ∧ e ∉ L := by
  match L, h with
  | [], _ => exact ⟨0, by decide, by simp⟩
  | [a], _ => exact ⟨if a = 0 then 1 else 0, by split <;> omega, by simp; split <;> omega⟩
  | [a, b], _ =>
    by_cases h0 : a = 0 ∨ b = 0
    · by_cases h1 : a = 1 ∨ b = 1
      · exact ⟨2, by decide, by simp; omega⟩
      · exact ⟨1, by decide, by simp; omega⟩
    · exact ⟨0, by decide, by simp; omega⟩
  | [a, b, c], _ =>
    by_cases h0 : a = 0 ∨ b = 0 ∨ c = 0
    · by_cases h1 : a = 1 ∨ b = 1 ∨ c = 1
      · by_cases h2 : a = 2 ∨ b = 2 ∨ c = 2
        · exact ⟨3, by decide, by simp; omega⟩
        · exact ⟨2, by decide, by simp; omega⟩
      · exact ⟨1, by decide, by simp; omega⟩
    · exact ⟨0, by decide, by simp; omega⟩
theorem own_q_hit (ky : Int64) {e : Nat} (h : e < 16) : ∃ t, t < 16 ∧ own_q ky t = e := by
  have hb : (ky.toInt32 &&& (15 : Int32)).toNatClampNeg < 16 := by
    obtain ⟨S, hS, eq⟩ := own_mask ky.toInt32 15 (by decide)
    have eq' : (ky.toInt32 &&& (15 : Int32)) = Int32.ofNat S := eq
    rw [eq', own_nat (by omega)]; omega
  unfold own_q
  exact ⟨(e + 16 - (ky.toInt32 &&& (15 : Int32)).toNatClampNeg) % 16, Nat.mod_lt _ (by decide), by omega⟩
theorem own_q_inj (ky : Int64) {t i : Nat} (ht : t < 16) (hi : i < 16) (h : own_q ky t = own_q ky i) : t = i := by
  unfold own_q at h; omega
theorem own_fex {kF : Nat → List Int64} {pF : Nat → List Int32} {uF : Nat → Nat} {M : Int64 → Int32} {cJ : Int64} {nn : Nat} (hv : own_inv kF pF uF M cJ nn) (hn : nn ≤ 3) (ky : Int64) (hj : own_j ky < 64) :
    ∃ t, t < 16 ∧ own_pth (kF (own_j ky)) (pF (own_j ky)) ky t ∧ ((M ky = 0 ∧ (pF (own_j ky)).getD (own_q ky t) 0 = 0) ∨ (¬ M ky = 0 ∧ ¬ (pF (own_j ky)).getD (own_q ky t) 0 = 0 ∧ (kF (own_j ky)).getD (own_q ky t) 0 = ky ∧ (pF (own_j ky)).getD (own_q ky t) 0 = M ky)) := by
  obtain ⟨h1, h2, h3, -⟩ := hv
  obtain ⟨-, -, hI, hu, L, hL, hc⟩ := h1 _ hj
  obtain ⟨e, he, heL⟩ := own_free (L := L) (by omega)
  have he0 : (pF (own_j ky)).getD e 0 = 0 := Classical.byContradiction fun q => heL (hc e (by omega) q)
  obtain ⟨te, hte, hqe⟩ := own_q_hit ky (e := e) (by omega)
  obtain ⟨t, ht, hP, hmin⟩ := own_least (P := fun t => (pF (own_j ky)).getD (own_q ky t) 0 = 0 ∨ (kF (own_j ky)).getD (own_q ky t) 0 = ky) te (Or.inl (by rw [hqe]; exact he0))
  have hpt : own_pth (kF (own_j ky)) (pF (own_j ky)) ky t := fun i hi => ⟨fun q => hmin i hi (Or.inl q), fun q => hmin i hi (Or.inr q)⟩
  refine ⟨t, by omega, hpt, ?_⟩
  by_cases hp0 : (pF (own_j ky)).getD (own_q ky t) 0 = 0
  · refine Or.inl ⟨Classical.byContradiction fun hM => ?_, hp0⟩
    obtain ⟨q', hq', hne, hk⟩ := h3 ky hM
    obtain ⟨t', ht', hqt, hpt'⟩ := hI q' hq' hne
    rw [hk] at hqt hpt'
    rcases Nat.lt_trichotomy t t' with hlt | heq | hgt
    · exact (hpt' t hlt).1 hp0
    · rw [heq, ← hqt] at hp0; exact hne hp0
    · exact hmin t' hgt (Or.inr (by rw [← hqt]; exact hk))
  · have hk : (kF (own_j ky)).getD (own_q ky t) 0 = ky := hP.resolve_left hp0
    have hv := h2 ky _ (own_qlt ky t) hp0 hk
    exact Or.inr ⟨by rw [← hv]; exact hp0, hp0, hk, hv⟩
theorem own_getset {α : Type} {l : List α} {i k : Nat} {x d : α} (h : i < l.length) : (l.set i x).getD k d = if k = i then x else l.getD k d := by
  rw [List.getD_eq_getElem?_getD, List.getD_eq_getElem?_getD, List.getElem?_set]
  by_cases q : i = k
  · subst q; simp [h]
  · have q' : ¬ k = i := fun z => q z.symm
    simp [q, q']
theorem own_sj_ext {u w : Nat → Nat} : ∀ n, (∀ i, i < n → u i = w i) → own_sj u n = own_sj w n
  | 0, _ => rfl
  | n + 1, h => by rw [own_sj, own_sj, own_sj_ext n (fun i hi => h i (by omega)), h n (by omega)]
theorem own_sj_up {u : Nat → Nat} {j x : Nat} {dl : Int64} (hx : (Int32.ofNat x).toInt64 = (Int32.ofNat (u j)).toInt64 + dl) : ∀ n, j < n → own_sj (own_upd u j x) n = own_sj u n + dl
  | 0, h => absurd h (Nat.not_lt_zero _)
  | n + 1, h => by
    rw [own_sj, own_sj]
    by_cases q : j = n
    · subst q
      rw [own_upd_eq, hx, own_sj_ext j (fun i hi => own_upd_ne u x (by omega : ¬ i = j)), Int64.add_assoc]
    · rw [own_sj_up hx n (by omega), own_upd_ne u x (fun z => q z.symm), Int64.add_assoc, Int64.add_assoc, Int64.add_comm dl]
theorem own_u1 {k : Nat} (h : k ≤ 2) : (Int32.ofNat (k + 1)).toInt64 = (Int32.ofNat k).toInt64 + (1 : Int64) := by
  have t : ∀ k : Fin 3, (Int32.ofNat (k.val + 1)).toInt64 = (Int32.ofNat k.val).toInt64 + (1 : Int64) := by decide
  exact t ⟨k, by omega⟩
def own_um (M : Int64 → Int32) (ky : Int64) (w : Int32) : Int64 → Int32 := fun k => if k = ky then w else M k
/-- a new key -/
theorem own_inv0 {kF : Nat → List Int64} {pF : Nat → List Int32} {uF : Nat → Nat} {M : Int64 → Int32} {cJ : Int64} {nn t : Nat} {ky : Int64} {jd : Int32} (hv : own_inv kF pF uF M cJ nn) (hn : nn ≤ 2) (hj : own_j ky < 64) (ht : t < 16) (hpt : own_pth (kF (own_j ky)) (pF (own_j ky)) ky t) (h0 : (pF (own_j ky)).getD (own_q ky t) 0 = 0) (hM : M ky = 0) (hjd : ¬ jd = 0) :
    own_inv (own_upd kF (own_j ky) ((kF (own_j ky)).set (own_q ky t) ky)) (own_upd pF (own_j ky) ((pF (own_j ky)).set (own_q ky t) jd)) (own_upd uF (own_j ky) (uF (own_j ky) + 1)) (own_um M ky jd) (cJ + 1) (nn + 1) := by
  obtain ⟨h1, h2, h3, h4⟩ := hv
  obtain ⟨hkl, hpl, hI, hu, L, hL, hc⟩ := h1 _ hj
  have hq := own_qlt ky t
  have gp : ∀ k, ((pF (own_j ky)).set (own_q ky t) jd).getD k 0 = if k = own_q ky t then jd else (pF (own_j ky)).getD k 0 := fun k => own_getset (by rw [hpl]; exact hq)
  have gk : ∀ k, ((kF (own_j ky)).set (own_q ky t) ky).getD k 0 = if k = own_q ky t then ky else (kF (own_j ky)).getD k 0 := fun k => own_getset (by rw [hkl]; exact hq)
  refine ⟨fun j hj' => ?_, fun k q hq' => ?_, fun k hk => ?_, ?_⟩
  · by_cases e : j = own_j ky
    · subst e
      rw [own_upd_eq, own_upd_eq, own_upd_eq]
      refine ⟨by rw [List.length_set, hkl], by rw [List.length_set, hpl], fun q hq' hne => ?_, by omega, own_q ky t :: L, by simp; omega, fun q hq' hne => ?_⟩
      · by_cases eq : q = own_q ky t
        · rw [gk, if_pos eq]
          refine ⟨t, ht, eq, fun i hi => ?_⟩
          have ne : ¬ own_q ky i = own_q ky t := fun z => by have := own_q_inj ky (by omega) ht z; omega
          rw [gp, gk, if_neg ne, if_neg ne]; exact hpt i hi
        · rw [gp, if_neg eq] at hne
          rw [gk, if_neg eq]
          obtain ⟨t', ht', hqt, hp'⟩ := hI q hq' hne
          refine ⟨t', ht', hqt, fun i hi => ?_⟩
          have ne : ¬ own_q ((kF (own_j ky)).getD q 0) i = own_q ky t := fun z => (hp' i hi).1 (by rw [z]; exact h0)
          rw [gp, gk, if_neg ne, if_neg ne]; exact hp' i hi
      · by_cases eq : q = own_q ky t
        · rw [eq]; exact List.mem_cons_self ..
        · rw [gp, if_neg eq] at hne; exact List.mem_cons_of_mem _ (hc q hq' hne)
    · rw [own_upd_ne _ _ e, own_upd_ne _ _ e, own_upd_ne _ _ e]
      obtain ⟨a1, a2, a3, a4, a5⟩ := h1 j hj'
      exact ⟨a1, a2, a3, by omega, a5⟩
  · by_cases e : own_j k = own_j ky
    · rw [e, own_upd_eq, own_upd_eq, gp, gk]
      intro hne hk
      by_cases eq : q = own_q ky t
      · rw [if_pos eq] at hk ⊢
        show jd = own_um M ky jd k
        unfold own_um; rw [if_pos hk.symm]
      · rw [if_neg eq] at hne hk ⊢
        have := h2 k q hq' (by rw [e]; exact hne) (by rw [e]; exact hk)
        rw [e] at this
        unfold own_um
        by_cases ek : k = ky
        · exfalso; subst ek; rw [hM] at this; exact hne this
        · rw [if_neg ek]; exact this
    · rw [own_upd_ne _ _ e, own_upd_ne _ _ e]
      intro hne hk
      have ek : ¬ k = ky := fun z => e (by rw [z])
      unfold own_um; rw [if_neg ek]; exact h2 k q hq' hne hk
  · by_cases ek : k = ky
    · subst ek
      exact ⟨own_q k t, hq, by rw [own_upd_eq, gp, if_pos rfl]; exact hjd, by rw [own_upd_eq, gk, if_pos rfl]⟩
    · unfold own_um at hk; rw [if_neg ek] at hk
      obtain ⟨q, hq', hne, hk'⟩ := h3 k hk
      refine ⟨q, hq', ?_⟩
      by_cases e : own_j k = own_j ky
      · rw [e] at hne hk' ⊢
        have eq : ¬ q = own_q ky t := fun z => hne (by rw [z]; exact h0)
        rw [own_upd_eq, own_upd_eq, gp, gk, if_neg eq, if_neg eq]; exact ⟨hne, hk'⟩
      · rw [own_upd_ne _ _ e, own_upd_ne _ _ e]; exact ⟨hne, hk'⟩
  · rw [own_sj_up (own_u1 (by omega)) 64 hj, h4]
/-- another value under a key -/
theorem own_inv1 {kF : Nat → List Int64} {pF : Nat → List Int32} {uF : Nat → Nat} {M : Int64 → Int32} {cJ : Int64} {nn t : Nat} {ky : Int64} {w : Int32} (hv : own_inv kF pF uF M cJ nn) (hj : own_j ky < 64) (hne0 : ¬ (pF (own_j ky)).getD (own_q ky t) 0 = 0) (hk0 : (kF (own_j ky)).getD (own_q ky t) 0 = ky) (hw : ¬ w = 0) (hpt : own_pth (kF (own_j ky)) (pF (own_j ky)) ky t) (ht : t < 16) :
    own_inv kF (own_upd pF (own_j ky) ((pF (own_j ky)).set (own_q ky t) w)) uF (own_um M ky w) cJ (nn + 1) := by
  obtain ⟨h1, h2, h3, h4⟩ := hv
  obtain ⟨hkl, hpl, hI, hu, L, hL, hc⟩ := h1 _ hj
  have hq := own_qlt ky t
  have gp : ∀ k, ((pF (own_j ky)).set (own_q ky t) w).getD k 0 = if k = own_q ky t then w else (pF (own_j ky)).getD k 0 := fun k => own_getset (by rw [hpl]; exact hq)
  have nz : ∀ k, ¬ ((pF (own_j ky)).set (own_q ky t) w).getD k 0 = 0 ↔ ¬ (pF (own_j ky)).getD k 0 = 0 := fun k => by
    rw [gp]
    by_cases e : k = own_q ky t
    · rw [if_pos e, e]; exact ⟨fun _ => hne0, fun _ => hw⟩
    · rw [if_neg e]
  refine ⟨fun j hj' => ?_, fun k q hq' => ?_, fun k hk => ?_, h4⟩
  · by_cases e : j = own_j ky
    · subst e
      rw [own_upd_eq]
      refine ⟨hkl, by rw [List.length_set, hpl], fun q hq' hne => ?_, by omega, L, hL, fun q hq' hne => hc q hq' ((nz q).mp hne)⟩
      obtain ⟨t', ht', hqt, hp'⟩ := hI q hq' ((nz q).mp hne)
      exact ⟨t', ht', hqt, fun i hi => ⟨(nz _).mpr (hp' i hi).1, (hp' i hi).2⟩⟩
    · rw [own_upd_ne _ _ e]
      obtain ⟨a1, a2, a3, a4, a5⟩ := h1 j hj'
      exact ⟨a1, a2, a3, by omega, a5⟩
  · by_cases e : own_j k = own_j ky
    · rw [e, own_upd_eq]
      intro hne hk
      have hne' := (nz q).mp hne
      by_cases ek : k = ky
      · subst ek
        have eq : q = own_q k t := by
          obtain ⟨t', ht', hqt, hp'⟩ := hI q hq' hne'
          rw [hk] at hqt hp'
          rcases Nat.lt_trichotomy t t' with hlt | heq | hgt
          · exact absurd hk0 (hp' t hlt).2
          · rw [heq]; exact hqt
          · exact absurd hk (by rw [hqt]; exact (hpt t' hgt).2)
        rw [gp, if_pos eq]; unfold own_um; rw [if_pos rfl]
      · have eq : ¬ q = own_q ky t := fun z => ek (by rw [← hk, z]; exact hk0)
        rw [gp, if_neg eq]; unfold own_um; rw [if_neg ek]
        have := h2 k q hq' (by rw [e]; exact hne') (by rw [e]; exact hk)
        rw [e] at this; exact this
    · rw [own_upd_ne _ _ e]
      intro hne hk
      have ek : ¬ k = ky := fun z => e (by rw [z])
      unfold own_um; rw [if_neg ek]; exact h2 k q hq' hne hk
  · have hex : ∃ q, q < 16 ∧ ¬ (pF (own_j k)).getD q 0 = 0 ∧ (kF (own_j k)).getD q 0 = k := by
      by_cases ek : k = ky
      · subst ek; exact ⟨own_q k t, hq, hne0, hk0⟩
      · unfold own_um at hk; rw [if_neg ek] at hk; exact h3 k hk
    obtain ⟨q, hq', hne, hk'⟩ := hex
    refine ⟨q, hq', ?_, hk'⟩
    by_cases e : own_j k = own_j ky
    · rw [e, own_upd_eq]; rw [e] at hne; exact (nz q).mpr hne
    · rw [own_upd_ne _ _ e]; exact hne
theorem own_inv2 {kF : Nat → List Int64} {pF : Nat → List Int32} {uF : Nat → Nat} {M M' : Int64 → Int32} {cJ : Int64} {nn : Nat} (hv : own_inv kF pF uF M cJ nn) (e : M' = M) : own_inv kF pF uF M' cJ (nn + 1) := by
  subst e
  obtain ⟨h1, h2, h3, h4⟩ := hv
  exact ⟨fun j hj => by obtain ⟨a1, a2, a3, a4, a5⟩ := h1 j hj; exact ⟨a1, a2, a3, by omega, a5⟩, h2, h3, h4⟩
def own_tl (fT : Nat → Addr) (n : Nat) : List Value := (List.range 64).map fun j => if j < n then Value.ref (fT j) else .null
theorem own_tlD {fT : Nat → Addr} {n j : Nat} (h : j < 64) (hn : j < n) {dv : Value} : (own_tl fT n).getD j dv = .ref (fT j) := by
  rw [own_tl, List.getD_eq_getElem?_getD, List.getElem?_map, List.getElem?_range h]; simp [hn]
theorem own_tl_len (fT : Nat → Addr) (n : Nat) : (own_tl fT n).length = 64 := by simp [own_tl]
theorem own_tl_set {fT : Nat → Addr} {n : Nat} {b : Addr} (h : n < 64) : (own_tl fT n).set n (.ref b) = own_tl (own_upd fT n b) (n + 1) := by
  apply List.ext_getElem?
  intro j
  rw [List.getElem?_set, own_tl_len]
  by_cases hj : j < 64
  · rw [own_tl, own_tl, List.getElem?_map, List.getElem?_map, List.getElem?_range hj]
    by_cases e : n = j
    · subst e
      have q : n < n + 1 := Nat.lt_succ_self n
      simp [h, q, own_upd_eq]
    · have e' : ¬ j = n := fun z => e z.symm
      simp only [e, if_false, Option.map_some, Option.some.injEq]
      by_cases k : j < n
      · have k' : j < n + 1 := by omega
        simp only [k, k', if_true]; rw [own_upd_ne _ _ e']
      · have k' : ¬ j < n + 1 := by omega
        simp only [k, k', if_false]
  · have e : ¬ n = j := by omega
    rw [if_neg e, own_tl, own_tl, List.getElem?_map, List.getElem?_map, List.getElem?_eq_none (by simp; omega)]
    rfl
theorem own_tl0 (fT : Nat → Addr) : (List.replicate 64 Value.null) = own_tl fT 0 := by
  unfold own_tl; simp [List.map_const']
abbrev own_N4 : List Value := [.null, .null, .null, .null]
abbrev own_I4 (z : Int32) : List Value := [.int z, .int 0, .int 0, .int 0]
def own_T0 (Z : State) (h : Heap) (n0 : Nat) (ta ka pa la sa fa : Addr) (qk qp ql qs qf : ClassId) (kl : List Int64) (pl : List Int32) (u : Nat) (lv : List Value) (lc : Int32) (sv : List Value) : Prop :=
  own_Et Z h ta ∧ own_Fk Z h ta (.ref ka) ∧ own_Fp Z h ta (.ref pa) ∧ own_Fu Z h ta (.int (Int32.ofNat u)) ∧ own_Fl Z h ta (.ref la) ∧ own_Fs Z h ta (.ref sa) ∧ own_Ff Z h ta (.ref fa) ∧ own_Fc Z h ta (.int 0) ∧ own_Fn Z h ta (.int lc) ∧
  Arv Z h ka qk .long 16 (kl.map Value.long) (.long 0) ∧ Arv Z h pa qp .int 16 (pl.map Value.int) (.int 0) ∧ Arv Z h la ql (.array .int) 4 lv .null ∧ Arv Z h sa qs .int 4 sv (.int 0) ∧ Arv Z h fa qf .int 4 (own_I4 0) (.int 0) ∧ OvrA Z ql .int "[I" ∧
  (n0 ≤ ta ∧ n0 ≤ ka ∧ n0 ≤ pa ∧ n0 ≤ la ∧ n0 ≤ sa ∧ n0 ≤ fa) ∧ ¬ pa = sa ∧ ¬ pa = fa ∧ ¬ sa = fa
theorem own_T0.keep {Z : State} {h h' : Heap} {n0 : Nat} {ta ka pa la sa fa : Addr} {qk qp ql qs qf : ClassId} {kl : List Int64} {pl : List Int32} {u : Nat} {lv : List Value} {lc : Int32} {sv : List Value} {ws : List Addr} (H : own_T0 Z h n0 ta ka pa la sa fa qk qp ql qs qf kl pl u lv lc sv) (K : Keep h h' ws) (m1 : ta ∉ ws) (m2 : ka ∉ ws) (m3 : pa ∉ ws) (m4 : la ∉ ws) (m5 : sa ∉ ws) (m6 : fa ∉ ws) : own_T0 Z h' n0 ta ka pa la sa fa qk qp ql qs qf kl pl u lv lc sv := by
  obtain ⟨a1, a2, a3, a4, a5, a6, a7, a8, a9, b1, b2, b3, b4, b5, r⟩ := H
  exact ⟨Exa.keep a1 K, Fld.keep a2 K m1, Fld.keep a3 K m1, Fld.keep a4 K m1, Fld.keep a5 K m1, Fld.keep a6 K m1, Fld.keep a7 K m1, Fld.keep a8 K m1, Fld.keep a9 K m1, b1.keep K m2, b2.keep K m3, b3.keep K m4, b4.keep K m5, b5.keep K m6, r⟩
def own_B6 (x y : Nat) (ta ka pa la sa fa : Addr) : Prop := (x ≤ ta ∧ y > ta) ∧ (x ≤ ka ∧ y > ka) ∧ (x ≤ pa ∧ y > pa) ∧ (x ≤ la ∧ y > la) ∧ (x ≤ sa ∧ y > sa) ∧ (x ≤ fa ∧ y > fa)
def own_HT (Z : State) (h : Heap) (n0 : Nat) (fT fK fP fL fS fF : Nat → Addr) (cK cP cL cS cF : Nat → ClassId) (kF : Nat → List Int64) (pF : Nat → List Int32) (uF : Nat → Nat) (lvF : Nat → List Value) (lcF : Nat → Int32) (svF : Nat → List Value) (lo : Nat → Nat) (i : Nat) : Prop :=
  (∀ j, j < i → own_T0 Z h n0 (fT j) (fK j) (fP j) (fL j) (fS j) (fF j) (cK j) (cP j) (cL j) (cS j) (cF j) (kF j) (pF j) (uF j) (lvF j) (lcF j) (svF j)) ∧
  (∀ j, j < i → own_B6 (lo j) (lo (j + 1)) (fT j) (fK j) (fP j) (fL j) (fS j) (fF j)) ∧ (∀ j, j < i → lo j ≤ lo (j + 1)) ∧ lo i ≤ h.size
theorem own_lo {lo : Nat → Nat} {i : Nat} (h : ∀ j, j < i → lo j ≤ lo (j + 1)) : ∀ b a, a ≤ b → b ≤ i → lo a ≤ lo b
  | 0, a, h1, _ => by rw [Nat.le_zero.mp h1]; exact Nat.le_refl _
  | b + 1, a, h1, h2 => by
    rcases Nat.lt_or_eq_of_le h1 with q | q
    · exact Nat.le_trans (own_lo h b a (by omega) (by omega)) (h b (by omega))
    · rw [q]; exact Nat.le_refl _
theorem own_out {ws : List Addr} {P : Addr → Prop} (h : ∀ w ∈ ws, P w) {a : Addr} (q : ¬ P a) : a ∉ ws := fun z => q (h a z)
section OwnHT
variable {Z : State} {h h' : Heap} {n0 : Nat} {fT fK fP fL fS fF : Nat → Addr} {cK cP cL cS cF : Nat → ClassId} {kF : Nat → List Int64} {pF : Nat → List Int32} {uF : Nat → Nat} {lvF : Nat → List Value} {lcF : Nat → Int32} {svF : Nat → List Value} {lo : Nat → Nat} {i : Nat} {ws : List Addr}
theorem own_HT.keep (H : own_HT Z h n0 fT fK fP fL fS fF cK cP cL cS cF kF pF uF lvF lcF svF lo i) (K : Keep h h' ws) (hd : ∀ w ∈ ws, lo 0 > w ∨ lo i ≤ w) : own_HT Z h' n0 fT fK fP fL fS fF cK cP cL cS cF kF pF uF lvF lcF svF lo i := by
  obtain ⟨h1, h2, h3, h4⟩ := H
  refine ⟨fun j hj => ?_, h2, h3, Nat.le_trans h4 K.1⟩
  obtain ⟨b1, b2, b3, b4, b5, b6⟩ := h2 j hj
  have l1 := own_lo h3 j 0 (by omega) (by omega)
  have l2 := own_lo h3 i (j + 1) (by omega) (by omega)
  exact (h1 j hj).keep K (own_out hd (by omega)) (own_out hd (by omega)) (own_out hd (by omega)) (own_out hd (by omega)) (own_out hd (by omega)) (own_out hd (by omega))
theorem own_HT.put (H : own_HT Z h n0 fT fK fP fL fS fF cK cP cL cS cF kF pF uF lvF lcF svF lo i) (K : Keep h h' ws) {jj : Nat} (hj : jj < i) (hd : ∀ w ∈ ws, (lo jj ≤ w ∧ lo (jj + 1) > w) ∨ lo 0 > w ∨ lo i ≤ w) {kl : List Int64} {pl : List Int32} {u : Nat} {lv : List Value} {lc : Int32} {sv : List Value}
    (N : own_T0 Z h' n0 (fT jj) (fK jj) (fP jj) (fL jj) (fS jj) (fF jj) (cK jj) (cP jj) (cL jj) (cS jj) (cF jj) kl pl u lv lc sv) : own_HT Z h' n0 fT fK fP fL fS fF cK cP cL cS cF (own_upd kF jj kl) (own_upd pF jj pl) (own_upd uF jj u) (own_upd lvF jj lv) (own_upd lcF jj lc) (own_upd svF jj sv) lo i := by
  obtain ⟨h1, h2, h3, h4⟩ := H
  refine ⟨fun j hj' => ?_, h2, h3, Nat.le_trans h4 K.1⟩
  by_cases e : j = jj
  · subst e; rw [own_upd_eq, own_upd_eq, own_upd_eq, own_upd_eq, own_upd_eq, own_upd_eq]; exact N
  · rw [own_upd_ne _ _ e, own_upd_ne _ _ e, own_upd_ne _ _ e, own_upd_ne _ _ e, own_upd_ne _ _ e, own_upd_ne _ _ e]
    obtain ⟨b1, b2, b3, b4, b5, b6⟩ := h2 j hj'
    have l1 := own_lo h3 j 0 (by omega) (by omega)
    have l2 := own_lo h3 i (j + 1) (by omega) (by omega)
    have l3 : lo (j + 1) ≤ lo jj ∨ lo (jj + 1) ≤ lo j := by
      rcases Nat.lt_or_gt_of_ne e with q | q
      · exact Or.inl (own_lo h3 jj (j + 1) (by omega) (by omega))
      · exact Or.inr (own_lo h3 j (jj + 1) (by omega) (by omega))
    exact (h1 j hj').keep K (own_out hd (by omega)) (own_out hd (by omega)) (own_out hd (by omega)) (own_out hd (by omega)) (own_out hd (by omega)) (own_out hd (by omega))
theorem own_HT.push (H : own_HT Z h n0 fT fK fP fL fS fF cK cP cL cS cF kF pF uF lvF lcF svF lo i) {ta ka pa la sa fa : Addr} {qk qp ql qs qf : ClassId} (N : own_T0 Z h n0 ta ka pa la sa fa qk qp ql qs qf (kF i) (pF i) (uF i) (lvF i) (lcF i) (svF i)) (hB : own_B6 (lo i) h.size ta ka pa la sa fa) :
    own_HT Z h n0 (own_upd fT i ta) (own_upd fK i ka) (own_upd fP i pa) (own_upd fL i la) (own_upd fS i sa) (own_upd fF i fa) (own_upd cK i qk) (own_upd cP i qp) (own_upd cL i ql) (own_upd cS i qs) (own_upd cF i qf) kF pF uF lvF lcF svF (own_upd lo (i + 1) h.size) (i + 1) := by
  obtain ⟨h1, h2, h3, h4⟩ := H
  have lne : ∀ j, j ≤ i → own_upd lo (i + 1) h.size j = lo j := fun j hj => own_upd_ne _ _ (by omega)
  refine ⟨fun j hj => ?_, fun j hj => ?_, fun j hj => ?_, by rw [own_upd_eq]; exact Nat.le_refl _⟩
  · by_cases e : j = i
    · subst e; rw [own_upd_eq, own_upd_eq, own_upd_eq, own_upd_eq, own_upd_eq, own_upd_eq, own_upd_eq, own_upd_eq, own_upd_eq, own_upd_eq, own_upd_eq]; exact N
    · rw [own_upd_ne _ _ e, own_upd_ne _ _ e, own_upd_ne _ _ e, own_upd_ne _ _ e, own_upd_ne _ _ e, own_upd_ne _ _ e, own_upd_ne _ _ e, own_upd_ne _ _ e, own_upd_ne _ _ e, own_upd_ne _ _ e, own_upd_ne _ _ e]; exact h1 j (by omega)
  · by_cases e : j = i
    · subst e; rw [lne j (Nat.le_refl _), own_upd_eq, own_upd_eq, own_upd_eq, own_upd_eq, own_upd_eq, own_upd_eq, own_upd_eq]; exact hB
    · rw [lne j (by omega), lne (j + 1) (by omega), own_upd_ne _ _ e, own_upd_ne _ _ e, own_upd_ne _ _ e, own_upd_ne _ _ e, own_upd_ne _ _ e, own_upd_ne _ _ e]; exact h2 j (by omega)
  · by_cases e : j = i
    · subst e; rw [lne j (Nat.le_refl _), own_upd_eq]; exact h4
    · rw [lne j (by omega), lne (j + 1) (by omega)]; exact h3 j (by omega)
theorem own_HT.congr (H : own_HT Z h n0 fT fK fP fL fS fF cK cP cL cS cF kF pF uF lvF lcF svF lo i) {lvG : Nat → List Value} {lcG : Nat → Int32} {svG : Nat → List Value} (e1 : ∀ j, j < i → lvF j = lvG j) (e2 : ∀ j, j < i → lcF j = lcG j) (e3 : ∀ j, j < i → svF j = svG j) : own_HT Z h n0 fT fK fP fL fS fF cK cP cL cS cF kF pF uF lvG lcG svG lo i := by
  obtain ⟨h1, h2, h3, h4⟩ := H
  exact ⟨fun j hj => by rw [← e1 j hj, ← e2 j hj, ← e3 j hj]; exact h1 j hj, h2, h3, h4⟩
end OwnHT
def own_lv (gj : Nat) (li : Addr) (j : Nat) : List Value := if j = gj then [.ref li, .null, .null, .null] else own_N4
def own_lc (gj j : Nat) : Int32 := if j = gj then 1 else 0
def own_sv (gj : Nat) (sz : Int32) (j : Nat) : List Value := if j = gj then own_I4 sz else own_I4 0
def own_H (Z : State) (h : Heap) (n0 : Nat) (ki : Addr) (kF : Nat → List Int64) (pF : Nat → List Int32) (uF : Nat → Nat) (gj : Nat) (sz : Int32) : Prop :=
  ∃ (tA : Addr) (qT : ClassId) (fT fK fP fL fS fF : Nat → Addr) (cK cP cL cS cF : Nat → ClassId) (lo : Nat → Nat) (li : Addr) (qi : ClassId) (y0 y1 y2 y3 : Int32),
    own_Ek Z h ki ∧ own_Ft Z h ki (.ref tA) ∧ Arv Z h tA qT (.object "com/example/vaxwire/vaxwire/registry/KeyIndex$Table") 64 (own_tl fT 64) .null ∧ lo 0 > ki ∧ lo 0 > tA ∧ own_HT Z h n0 fT fK fP fL fS fF cK cP cL cS cF kF pF uF (own_lv gj li) (own_lc gj) (own_sv gj sz) lo 64 ∧
    (gj < 64 → lo 64 ≤ li ∧ n0 ≤ li ∧ Arv Z h li qi .int 4 [.int y0, .int y1, .int y2, .int y3] (.int 0) ∧ (sz = 2 ∨ sz = 3))
def own_HU (Z : State) (h : Heap) (fT : Nat → Addr) (uF : Nat → Nat) : Prop := ∀ j, j < 64 → own_Et Z h (fT j) ∧ own_Fu Z h (fT j) (.int (Int32.ofNat (uF j)))
def own_HK (Z : State) (h : Heap) (ki : Addr) (uF : Nat → Nat) : Prop := ∃ (tA : Addr) (qT : ClassId) (fT : Nat → Addr), own_Ek Z h ki ∧ own_Ft Z h ki (.ref tA) ∧ Arv Z h tA qT (.object "com/example/vaxwire/vaxwire/registry/KeyIndex$Table") 64 (own_tl fT 64) .null ∧ own_HU Z h fT uF
theorem own_H.HK {Z : State} {h : Heap} {n0 : Nat} {ki : Addr} {kF : Nat → List Int64} {pF : Nat → List Int32} {uF : Nat → Nat} {gj : Nat} {sz : Int32} (H : own_H Z h n0 ki kF pF uF gj sz) : own_HK Z h ki uF := by
  obtain ⟨tA, qT, fT, fK, fP, fL, fS, fF, cK, cP, cL, cS, cF, lo, li, qi, y0, y1, y2, y3, a1, a2, a3, -, -, hT, -⟩ := H
  exact ⟨tA, qT, fT, a1, a2, a3, fun j hj => ⟨(hT.1 j hj).1, (hT.1 j hj).2.2.2.1⟩⟩
theorem own_H.keep {Z : State} {h h' : Heap} {n0 : Nat} {ki : Addr} {kF : Nat → List Int64} {pF : Nat → List Int32} {uF : Nat → Nat} {gj : Nat} {sz : Int32} (H : own_H Z h n0 ki kF pF uF gj sz) (K : Keep h h' []) : own_H Z h' n0 ki kF pF uF gj sz := by
  obtain ⟨tA, qT, fT, fK, fP, fL, fS, fF, cK, cP, cL, cS, cF, lo, li, qi, y0, y1, y2, y3, a1, a2, a3, a4, a5, hT, hL⟩ := H
  exact ⟨tA, qT, fT, fK, fP, fL, fS, fF, cK, cP, cL, cS, cF, lo, li, qi, y0, y1, y2, y3, Exa.keep a1 K, Fld.keep a2 K nin0, a3.keep K nin0, a4, a5, hT.keep K (fun _ q => nomatch q), fun q => by obtain ⟨b1, b2, b3, b4⟩ := hL q; exact ⟨b1, b2, b3.keep K nin0, b4⟩⟩
theorem own_HK.keep {Z : State} {h h' : Heap} {ki : Addr} {uF : Nat → Nat} (H : own_HK Z h ki uF) (K : Keep h h' []) : own_HK Z h' ki uF := by
  obtain ⟨tA, qT, fT, a1, a2, a3, a4⟩ := H
  exact ⟨tA, qT, fT, Exa.keep a1 K, Fld.keep a2 K nin0, a3.keep K nin0, fun j hj => ⟨Exa.keep (a4 j hj).1 K, Fld.keep (a4 j hj).2 K nin0⟩⟩
theorem own_HU.keep {Z : State} {h h' : Heap} {fT : Nat → Addr} {uF : Nat → Nat} (H : own_HU Z h fT uF) (K : Keep h h' []) : own_HU Z h' fT uF := fun j hj => ⟨Exa.keep (H j hj).1 K, Fld.keep (H j hj).2 K nin0⟩
theorem own_j64 (ky : Int64) : ¬ ((XT.ushrL ky (58 : Int32)).toInt32) < 0 ∧ ((XT.ushrL ky (58 : Int32)).toInt32) < (64 : Int32) := by
  have h1 : (XT.ushrL ky (58 : Int32)).toBitVec.toNat < 64 := by
    show ((ky.toUInt64 >>> ((58 : Int32).toInt64.toUInt64 &&& Int64.toUInt64 63))).toNat < 64
    rw [UInt64.toNat_shiftRight, Nat.shiftRight_eq_div_pow, show (((58 : Int32).toInt64.toUInt64 &&& Int64.toUInt64 63)).toNat % 64 = 58 from by decide]
    have := ky.toUInt64.toNat_lt
    omega
  have h2 : ((XT.ushrL ky (58 : Int32)).toInt32) = Int32.ofNat (XT.ushrL ky (58 : Int32)).toBitVec.toNat := by
    apply Int32.toBitVec_inj.mp
    apply BitVec.eq_of_toNat_eq
    show (BitVec.signExtend 32 (XT.ushrL ky (58 : Int32)).toBitVec).toNat = (BitVec.ofNat 32 (XT.ushrL ky (58 : Int32)).toBitVec.toNat).toNat
    rw [BitVec.toNat_ofNat, BitVec.signExtend_eq_setWidth_of_le _ (by decide), BitVec.toNat_setWidth]
  rw [h2]
  have t : ∀ k : Fin 64, ¬ Int32.ofNat k.val < 0 ∧ Int32.ofNat k.val < (64 : Int32) := by decide
  exact t ⟨_, h1⟩
theorem own_jlt (ky : Int64) : own_j ky < 64 := by
  have h := own_j64 ky
  unfold own_j
  rw [Int32.lt_iff_toInt_lt, Int32.lt_iff_toInt_lt] at h
  have e0 : (0 : Int32).toInt = 0 := rfl
  have e1 : (64 : Int32).toInt = 64 := rfl
  rw [Int32.toNatClampNeg]; omega
theorem own_nx0 {qn : Nat} (h : qn < 16) : ((Int32.ofNat qn) + (1 : Int32)) &&& (15 : Int32) = Int32.ofNat ((qn + 1 + 0) % 16) := by
  rw [own_n16 h]
theorem own_nx1 (qn i : Nat) : ((Int32.ofNat ((qn + 1 + i) % 16)) + (1 : Int32)) &&& (15 : Int32) = Int32.ofNat ((qn + 1 + (i + 1)) % 16) := by
  rw [own_n16 (Nat.mod_lt _ (by decide))]; congr 1; omega
theorem own_ah {pl p2 : List Int32} {qn te i fr : Nat} {w : Int32} (hp2 : p2.length = 16) (hte : te < 15) (hfr : fr < 16 ∧ ∃ fs, fs ≤ i ∧ fr = (qn + fs) % 16) (hah : ∀ j, i ≤ j → j ≤ te → p2.getD ((qn + 1 + j) % 16) 0 = pl.getD ((qn + 1 + j) % 16) 0) : ∀ j, i ≤ j → j ≤ te → (p2.set fr w).getD ((qn + 1 + j) % 16) 0 = pl.getD ((qn + 1 + j) % 16) 0 := fun j h1 h2 => by
  obtain ⟨hf, fs, hfs, e⟩ := hfr
  rw [own_getset (by rw [hp2]; exact hf), if_neg (by omega)]
  exact hah j h1 h2
theorem own_in64 {k : Nat} (h : k < 64) : ¬ Int32.ofNat k < 0 ∧ Int32.ofNat k < (64 : Int32) := by
  have t : ∀ k : Fin 64, ¬ Int32.ofNat k.val < 0 ∧ Int32.ofNat k.val < (64 : Int32) := by decide
  exact t ⟨k, h⟩
theorem own_lv64 {j : Nat} (h : j < 64) (li : Addr) (sz : Int32) : own_N4 = own_lv 64 li j ∧ (0 : Int32) = own_lc 64 j ∧ own_I4 0 = own_sv 64 sz j := by
  have e : ¬ j = 64 := by omega
  unfold own_lv own_lc own_sv
  rw [if_neg e, if_neg e, if_neg e]; exact ⟨rfl, rfl, rfl⟩
theorem own_upd_id {α : Type} (F : Nat → α) (j : Nat) : own_upd F j (F j) = F := by
  funext i
  unfold own_upd
  by_cases e : i = j
  · rw [if_pos e, e]
  · rw [if_neg e]
theorem own_lvE (g : Nat) (li : Addr) : own_lv g li g = [.ref li, .null, .null, .null] := if_pos rfl
theorem own_lcE (g : Nat) : own_lc g g = 1 := if_pos rfl
theorem own_svE (g : Nat) (sz : Int32) : own_sv g sz g = own_I4 sz := if_pos rfl
theorem own_lvN {g j : Nat} (h : ¬ j = g) (li : Addr) (sz : Int32) : own_lv g li j = own_N4 ∧ own_lc g j = 0 ∧ own_sv g sz j = own_I4 0 := ⟨if_neg h, if_neg h, if_neg h⟩
section OwnPut
variable {Z : State} {h h' : Heap} {n0 : Nat} {ki tA : Addr} {qT : ClassId} {fT fK fP fL fS fF : Nat → Addr} {cK cP cL cS cF : Nat → ClassId} {kF : Nat → List Int64} {pF : Nat → List Int32} {uF : Nat → Nat} {gj gj2 jj : Nat} {sz sz2 : Int32} {li li2 : Addr} {qi2 : ClassId} {z0 z1 z2 z3 : Int32} {lo : Nat → Nat} {ws : List Addr} {kl : List Int64} {pl : List Int32} {u : Nat}
theorem own_H.put (hE : own_Ek Z h ki) (hF : own_Ft Z h ki (.ref tA)) (hV : Arv Z h tA qT (.object "com/example/vaxwire/vaxwire/registry/KeyIndex$Table") 64 (own_tl fT 64) .null) (hlki : lo 0 > ki) (hlo : lo 0 > tA) (hT : own_HT Z h n0 fT fK fP fL fS fF cK cP cL cS cF kF pF uF (own_lv gj li) (own_lc gj) (own_sv gj sz) lo 64) (K : Keep h h' ws) (hj : jj < 64) (hd : ∀ w ∈ ws, (lo jj ≤ w ∧ lo (jj + 1) > w) ∨ lo 64 ≤ w)
    (N : own_T0 Z h' n0 (fT jj) (fK jj) (fP jj) (fL jj) (fS jj) (fF jj) (cK jj) (cP jj) (cL jj) (cS jj) (cF jj) kl pl u (own_lv gj2 li2 jj) (own_lc gj2 jj) (own_sv gj2 sz2 jj))
    (ha : ∀ j, j < 64 → ¬ j = jj → own_lv gj li j = own_lv gj2 li2 j ∧ own_lc gj j = own_lc gj2 j ∧ own_sv gj sz j = own_sv gj2 sz2 j)
    (hL2 : gj2 < 64 → lo 64 ≤ li2 ∧ n0 ≤ li2 ∧ Arv Z h' li2 qi2 .int 4 [.int z0, .int z1, .int z2, .int z3] (.int 0) ∧ (sz2 = 2 ∨ sz2 = 3)) : own_H Z h' n0 ki (own_upd kF jj kl) (own_upd pF jj pl) (own_upd uF jj u) gj2 sz2 := by
  have m1 := own_lo hT.2.2.1 jj 0 (by omega) (by omega)
  have m2 := own_lo hT.2.2.1 64 0 (by omega) (by omega)
  refine ⟨tA, qT, fT, fK, fP, fL, fS, fF, cK, cP, cL, cS, cF, lo, li2, qi2, z0, z1, z2, z3, Exa.keep hE K, Fld.keep hF K (own_out hd (by omega)), hV.keep K (own_out hd (by omega)), hlki, hlo, own_HT.congr (hT.put K hj (fun w q => (hd w q).imp id Or.inr) N) (fun j hj' => ?_) (fun j hj' => ?_) (fun j hj' => ?_), hL2⟩ <;>
    (by_cases e : j = jj
     · subst e; rw [own_upd_eq]
     · rw [own_upd_ne _ _ e]
       first | exact (ha j hj' e).1 | exact (ha j hj' e).2.1 | exact (ha j hj' e).2.2)
theorem own_HK_put (hE : own_Ek Z h ki) (hF : own_Ft Z h ki (.ref tA)) (hV : Arv Z h tA qT (.object "com/example/vaxwire/vaxwire/registry/KeyIndex$Table") 64 (own_tl fT 64) .null) (hlki : lo 0 > ki) (hlo : lo 0 > tA) (hT : own_HT Z h n0 fT fK fP fL fS fF cK cP cL cS cF kF pF uF (own_lv gj li) (own_lc gj) (own_sv gj sz) lo 64) (K : Keep h h' ws) (hj : jj < 64) (hd : ∀ w ∈ ws, (lo jj ≤ w ∧ lo (jj + 1) > w) ∨ lo 64 ≤ w)
    (N1 : own_Et Z h' (fT jj)) (N2 : own_Fu Z h' (fT jj) (.int (Int32.ofNat u))) : own_HK Z h' ki (own_upd uF jj u) := by
  obtain ⟨h1, h2, h3, h4⟩ := hT
  have m1 := own_lo h3 jj 0 (by omega) (by omega)
  have m2 := own_lo h3 64 0 (by omega) (by omega)
  refine ⟨tA, qT, fT, Exa.keep hE K, Fld.keep hF K (own_out hd (by omega)), hV.keep K (own_out hd (by omega)), fun j hj' => ?_⟩
  by_cases e : j = jj
  · subst e; rw [own_upd_eq]; exact ⟨N1, N2⟩
  · rw [own_upd_ne _ _ e]
    obtain ⟨b1, -⟩ := h2 j hj'
    have l1 := own_lo h3 j 0 (by omega) (by omega)
    have l2 := own_lo h3 64 (j + 1) (by omega) (by omega)
    have l3 : lo (j + 1) ≤ lo jj ∨ lo (jj + 1) ≤ lo j := by
      rcases Nat.lt_or_gt_of_ne e with q | q
      · exact Or.inl (own_lo h3 jj (j + 1) (by omega) (by omega))
      · exact Or.inr (own_lo h3 j (jj + 1) (by omega) (by omega))
    exact ⟨Exa.keep (h1 j hj').1 K, Fld.keep (h1 j hj').2.2.2.1 K (own_out hd (by omega))⟩
end OwnPut
def own_m (M : Int64 → Int32) (ky : Int64) (jd : Int32) : Int64 → Int32 := own_um M ky (if M ky = 0 then jd else if M ky = jd then jd else -1)
def own_c (M : Int64 → Int32) (cJ : Int64) (ky : Int64) : Int64 := if M ky = 0 then cJ + 1 else cJ
def own_g (M : Int64 → Int32) (gj : Nat) (ky : Int64) (jd : Int32) : Nat := if 0 < M ky ∧ ¬ M ky = jd then own_j ky else gj
theorem own_um_id {M : Int64 → Int32} {ky : Int64} {w : Int32} (h : M ky = w) : own_um M ky w = M := by
  funext k
  unfold own_um
  by_cases e : k = ky
  · rw [if_pos e, e, h]
  · rw [if_neg e]
theorem own_4 {M : Int64 → Int32} {ky : Int64} {jd : Int32} {pq : Int32} {kq : Int64} (h : (M ky = 0 ∧ pq = 0) ∨ (¬ M ky = 0 ∧ ¬ pq = 0 ∧ kq = ky ∧ pq = M ky)) (hs : M ky = 0 ∨ 0 < M ky ∨ M ky = -1) : (M ky = 0 ∧ pq = 0) ∨ (0 < M ky ∧ (¬ pq = 0 ∧ kq = ky) ∧ pq = M ky ∧ M ky = jd) ∨ (0 < M ky ∧ (¬ pq = 0 ∧ kq = ky) ∧ pq = M ky ∧ ¬ M ky = jd) ∨ (M ky = -1 ∧ (¬ pq = 0 ∧ kq = ky) ∧ pq = M ky) := by
  rcases h with h | ⟨h0, h1, h2, h3⟩
  · exact Or.inl h
  · rcases hs with hs | hs | hs
    · exact absurd hs h0
    · by_cases e : M ky = jd
      · exact Or.inr (Or.inl ⟨hs, ⟨h1, h2⟩, h3, e⟩)
      · exact Or.inr (Or.inr (Or.inl ⟨hs, ⟨h1, h2⟩, h3, e⟩))
    · exact Or.inr (Or.inr (Or.inr ⟨hs, ⟨h1, h2⟩, h3⟩))
theorem own_pos0 {z : Int32} (h : 0 < z) : ¬ z = 0 := fun q => by rw [q] at h; exact absurd h (by decide)
theorem own_posm {z : Int32} (h : 0 < z) : ¬ z = -1 := fun q => by rw [q] at h; exact absurd h (by decide)
theorem own_eex {kF : Nat → List Int64} {pF : Nat → List Int32} {uF : Nat → Nat} {M : Int64 → Int32} {cJ : Int64} {nn j q : Nat} (hv : own_inv kF pF uF M cJ nn) (hn : nn ≤ 3) (hj : j < 64) (hq : q < 16) (h0 : ¬ (pF j).getD q 0 = 0) : 1 ≤ uF j ∧ ∃ te, te < 15 ∧ (∀ i, i < te → ¬ (pF j).getD ((q + 1 + i) % 16) 0 = 0) ∧ (pF j).getD ((q + 1 + te) % 16) 0 = 0 := by
  obtain ⟨-, -, -, hu, L, hL, hc⟩ := hv.1 j hj
  have hqL := hc q hq h0
  refine ⟨?_, ?_⟩
  · match L, hqL, hL with
    | _ :: _, _, hL => simp at hL; omega
  · obtain ⟨e, he, heL⟩ := own_free (L := L) (by omega)
    have he0 : (pF j).getD e 0 = 0 := Classical.byContradiction fun z => heL (hc e (by omega) z)
    have hne : ¬ e = q := fun z => h0 (z ▸ he0)
    obtain ⟨t, ht, hP, hmin⟩ := own_least (P := fun t => (pF j).getD ((q + 1 + t) % 16) 0 = 0) ((e + 31 - q) % 16) (by
      have z : (q + 1 + (e + 31 - q) % 16) % 16 = e := by omega
      rw [z]; exact he0)
    have hb : (e + 31 - q) % 16 < 15 := by omega
    exact ⟨t, by omega, hmin, hP⟩
theorem own_usub {k : Nat} (h : 1 ≤ k) (q : k ≤ 3) : (Int32.ofNat k) - (1 : Int32) = Int32.ofNat (k - 1) ∧ (Int32.ofNat (k - 1)).toInt64 = (Int32.ofNat k).toInt64 + (-1 : Int64) := by
  have t : ∀ k : Fin 4, 1 ≤ k.val → (Int32.ofNat k.val) - (1 : Int32) = Int32.ofNat (k.val - 1) ∧ (Int32.ofNat (k.val - 1)).toInt64 = (Int32.ofNat k.val).toInt64 + (-1 : Int64) := by decide
  exact t ⟨k, by omega⟩ h
def own_rc (M : Int64 → Int32) (cJ : Int64) (ky : Int64) (jd : Int32) : Int64 := if M ky = jd then cJ - 1 else cJ
theorem own_5 {M : Int64 → Int32} {ky : Int64} {jd : Int32} {pq : Int32} {kq : Int64} {gj : Nat} {sz : Int32} (h : (M ky = 0 ∧ pq = 0) ∨ (¬ M ky = 0 ∧ ¬ pq = 0 ∧ kq = ky ∧ pq = M ky)) (hs : 0 < M ky ∨ M ky = -1) (hc : M ky = -1 → gj = own_j ky) (hz : gj < 64 → sz = 2 ∨ sz = 3) (hj : own_j ky < 64) : (0 < M ky ∧ (¬ pq = 0 ∧ kq = ky) ∧ pq = M ky ∧ M ky = jd) ∨ (0 < M ky ∧ (¬ pq = 0 ∧ kq = ky) ∧ pq = M ky ∧ ¬ M ky = jd) ∨ (M ky = -1 ∧ (¬ pq = 0 ∧ kq = ky) ∧ pq = M ky ∧ gj = own_j ky ∧ sz = 2) ∨ (M ky = -1 ∧ (¬ pq = 0 ∧ kq = ky) ∧ pq = M ky ∧ gj = own_j ky ∧ sz = 3) := by
  rcases h with h | ⟨h0, h1, h2, h3⟩
  · rcases hs with hs | hs
    · exact absurd h.1 (own_pos0 hs)
    · rw [hs] at h; exact absurd h.1 (by decide)
  · rcases hs with hs | hs
    · by_cases e : M ky = jd
      · exact Or.inl ⟨hs, ⟨h1, h2⟩, h3, e⟩
      · exact Or.inr (Or.inl ⟨hs, ⟨h1, h2⟩, h3, e⟩)
    · have hg := hc hs
      rcases hz (by rw [hg]; exact hj) with q | q
      · exact Or.inr (Or.inr (Or.inl ⟨hs, ⟨h1, h2⟩, h3, hg, q⟩))
      · exact Or.inr (Or.inr (Or.inr ⟨hs, ⟨h1, h2⟩, h3, hg, q⟩))
def own_M0 : Int64 → Int32 := fun _ => 0
theorem own_inv_init : own_inv (fun _ => List.replicate 16 0) (fun _ => List.replicate 16 0) (fun _ => 0) own_M0 0 0 := by
  have hz : ∀ q, (List.replicate 16 (0 : Int32)).getD q 0 = 0 := fun q => by
    rw [List.getD_eq_getElem?_getD, List.getElem?_replicate]; split <;> rfl
  have hs : ∀ n, own_sj (fun _ => 0) n = 0 := by
    intro n
    induction n with
    | zero => rfl
    | succ n ih => rw [own_sj, ih]; rfl
  exact ⟨fun j _ => ⟨rfl, rfl, fun q _ h => absurd (hz q) h, Nat.le_refl _, [], Nat.le_refl _, fun q _ h => absurd (hz q) h⟩, fun _ q _ h => absurd (hz q) h, fun _ h => absurd rfl h, hs 64⟩
theorem own_ip (x : Int32) : 0 < ((x &&& (3 : Int32)) + (1 : Int32)) := by
  obtain ⟨S, h, e⟩ := own_mask x 3 (by decide)
  have e' : (x &&& (3 : Int32)) = Int32.ofNat S := e
  rw [e']
  have t : ∀ k : Fin 4, 0 < ((Int32.ofNat k.val) + (1 : Int32)) := by decide
  exact t ⟨S, by omega⟩
theorem own_m_at (M : Int64 → Int32) (ky : Int64) (jd : Int32) : own_m M ky jd ky = if M ky = 0 then jd else if M ky = jd then jd else -1 := if_pos rfl
theorem own_m_ne {M : Int64 → Int32} {ky k : Int64} {jd : Int32} (h : ¬ k = ky) : own_m M ky jd k = M k := if_neg h
section OwnLaw
variable {a k2 k3 : Int64} {i1 i2 i3 r : Int32}
theorem own_M1 : own_m own_M0 a i1 a = i1 := by rw [own_m_at]; exact if_pos rfl
theorem own_M1n {k : Int64} (h : ¬ k = a) : own_m own_M0 a i1 k = 0 := own_m_ne h
theorem own_g1 : own_g own_M0 64 a i1 = 64 := if_neg (fun q => absurd q.1 Int32.lt_irrefl)
theorem own_c1 : own_c own_M0 0 a = 1 := if_pos rfl
def own_af (a k2 : Int64) : Int64 := if k2 = a then 1 else 2
def own_d3 (a k2 k3 : Int64) : Int64 := if k3 = a ∨ k3 = k2 then 0 else 1
theorem own_M1z (h1 : 0 < i1) : own_m own_M0 a i1 k2 = 0 ↔ ¬ k2 = a := by
  by_cases e : k2 = a
  · subst e; rw [own_M1]; exact ⟨fun q => absurd q (own_pos0 h1), fun q => absurd rfl q⟩
  · rw [own_M1n e]; exact ⟨fun _ => e, fun _ => rfl⟩
theorem own_M1s (h1 : 0 < i1) : own_m own_M0 a i1 k2 = 0 ∨ 0 < own_m own_M0 a i1 k2 ∨ own_m own_M0 a i1 k2 = -1 := by
  by_cases e : k2 = a
  · subst e; rw [own_M1]; exact Or.inr (Or.inl h1)
  · rw [own_M1n e]; exact Or.inl rfl
theorem own_M1m (h1 : 0 < i1) : ¬ own_m own_M0 a i1 k2 = -1 := by
  by_cases e : k2 = a
  · subst e; rw [own_M1]; exact own_posm h1
  · rw [own_M1n e]; decide
theorem own_c2 (h1 : 0 < i1) : own_c (own_m own_M0 a i1) (own_c own_M0 0 a) k2 = own_af a k2 := by
  rw [own_c1]
  unfold own_c own_af
  by_cases e : k2 = a
  · rw [if_pos e, if_neg (fun q => (own_M1z h1).mp q e)]
  · rw [if_neg e, if_pos ((own_M1z h1).mpr e)]; rfl
abbrev own_M2 (a k2 : Int64) (i1 i2 : Int32) : Int64 → Int32 := own_m (own_m own_M0 a i1) k2 i2
abbrev own_G2 (a k2 : Int64) (i1 i2 : Int32) : Nat := own_g (own_m own_M0 a i1) (own_g own_M0 64 a i1) k2 i2
theorem own_M2n {k : Int64} (h : ¬ k = k2) (h' : ¬ k = a) : own_M2 a k2 i1 i2 k = 0 := (own_m_ne h).trans (own_M1n h')
theorem own_M2a (e : ¬ k2 = a) : own_M2 a k2 i1 i2 a = i1 := (own_m_ne (fun q => e q.symm)).trans own_M1
theorem own_M2k (e : ¬ k2 = a) : own_M2 a k2 i1 i2 k2 = i2 := by
  show own_m (own_m own_M0 a i1) k2 i2 k2 = i2
  rw [own_m_at]; exact if_pos (own_M1n e)
theorem own_M2e (h1 : 0 < i1) : own_M2 a a i1 i2 a = if i1 = i2 then i2 else -1 := by
  show own_m (own_m own_M0 a i1) a i2 a = _
  rw [own_m_at, own_M1, if_neg (own_pos0 h1)]
theorem own_G2n (h : own_m own_M0 a i1 k2 = 0 ∨ own_m own_M0 a i1 k2 = i2) : own_G2 a k2 i1 i2 = 64 := by
  show own_g (own_m own_M0 a i1) (own_g own_M0 64 a i1) k2 i2 = 64
  rw [own_g1]
  exact if_neg (fun q => h.elim (fun z => own_pos0 q.1 z) (fun z => q.2 z))
theorem own_G2y (h1 : 0 < i1) (h : ¬ i1 = i2) : own_G2 a a i1 i2 = own_j a := if_pos ⟨by rw [own_M1]; exact h1, by rw [own_M1]; exact h⟩
theorem own_M2z (h1 : 0 < i1) (h2 : 0 < i2) : own_M2 a k2 i1 i2 k3 = 0 ↔ ¬ (k3 = a ∨ k3 = k2) := by
  by_cases e : k2 = a
  · subst e
    by_cases f : k3 = k2
    · subst f; rw [own_M2e h1]
      refine ⟨fun q => ?_, fun q => absurd (Or.inl rfl) q⟩
      exfalso; revert q; split
      · exact own_pos0 h2
      · decide
    · rw [own_M2n f f]; exact ⟨fun _ q => q.elim f f, fun _ => rfl⟩
  · by_cases f : k3 = a
    · subst f; rw [own_M2a e]; exact ⟨fun q => absurd q (own_pos0 h1), fun q => absurd (Or.inl rfl) q⟩
    · by_cases g : k3 = k2
      · subst g; rw [own_M2k e]; exact ⟨fun q => absurd q (own_pos0 h2), fun q => absurd (Or.inr rfl) q⟩
      · rw [own_M2n g f]; exact ⟨fun _ q => q.elim f g, fun _ => rfl⟩
theorem own_M2s (h1 : 0 < i1) (h2 : 0 < i2) : own_M2 a k2 i1 i2 k3 = 0 ∨ 0 < own_M2 a k2 i1 i2 k3 ∨ own_M2 a k2 i1 i2 k3 = -1 := by
  by_cases e : k2 = a
  · subst e
    by_cases f : k3 = k2
    · subst f; rw [own_M2e h1]; split
      · exact Or.inr (Or.inl h2)
      · exact Or.inr (Or.inr rfl)
    · exact Or.inl (own_M2n f f)
  · by_cases f : k3 = a
    · subst f; rw [own_M2a e]; exact Or.inr (Or.inl h1)
    · by_cases g : k3 = k2
      · subst g; rw [own_M2k e]; exact Or.inr (Or.inl h2)
      · exact Or.inl (own_M2n g f)
theorem own_h2 (h1 : 0 < i1) (q : 0 < own_M2 a k2 i1 i2 k3) : own_G2 a k2 i1 i2 = 64 := by
  by_cases e : k2 = a
  · subst e
    by_cases f : k3 = k2
    · subst f
      rw [own_M2e h1] at q
      by_cases g : i1 = i2
      · exact own_G2n (Or.inr (by rw [own_M1]; exact g))
      · rw [if_neg g] at q; exact absurd q (by decide)
    · rw [own_M2n f f] at q; exact absurd q Int32.lt_irrefl
  · exact own_G2n (Or.inl (own_M1n e))
theorem own_h3 (h1 : 0 < i1) (h2 : 0 < i2) (q : own_M2 a k2 i1 i2 k3 = -1) : k3 = a ∧ k2 = a ∧ ¬ i1 = i2 := by
  by_cases e : k2 = a
  · subst e
    by_cases f : k3 = k2
    · subst f
      rw [own_M2e h1] at q
      refine ⟨rfl, rfl, fun g => ?_⟩
      rw [if_pos g] at q; exact own_posm h2 q
    · rw [own_M2n f f] at q; exact absurd q (by decide)
  · by_cases f : k3 = a
    · subst f; rw [own_M2a e] at q; exact absurd q (own_posm h1)
    · by_cases g : k3 = k2
      · subst g; rw [own_M2k e] at q; exact absurd q (own_posm h2)
      · rw [own_M2n g f] at q; exact absurd q (by decide)
theorem own_c3 (h1 : 0 < i1) (h2 : 0 < i2) : own_c (own_M2 a k2 i1 i2) (own_c (own_m own_M0 a i1) (own_c own_M0 0 a) k2) k3 = own_af a k2 + own_d3 a k2 k3 := by
  rw [own_c2 h1]
  unfold own_c own_d3
  by_cases e : k3 = a ∨ k3 = k2
  · rw [if_pos e, if_neg (fun q => (own_M2z h1 h2).mp q e), Int64.add_zero]
  · rw [if_neg e, if_pos ((own_M2z h1 h2).mpr e)]
abbrev own_M3 (a k2 k3 : Int64) (i1 i2 i3 : Int32) : Int64 → Int32 := own_m (own_M2 a k2 i1 i2) k3 i3
abbrev own_G3 (a k2 k3 : Int64) (i1 i2 i3 : Int32) : Nat := own_g (own_M2 a k2 i1 i2) (own_G2 a k2 i1 i2) k3 i3
def own_w2 (a k2 : Int64) (i1 i2 : Int32) : Int32 := if k2 = a then (if i1 = i2 then i2 else -1) else i1
theorem own_M2w (h1 : 0 < i1) : own_M2 a k2 i1 i2 a = own_w2 a k2 i1 i2 := by
  unfold own_w2
  by_cases e : k2 = a
  · subst e; rw [if_pos rfl, own_M2e h1]
  · rw [if_neg e, own_M2a e]
theorem own_w2n (h1 : 0 < i1) (h2 : 0 < i2) : ¬ own_w2 a k2 i1 i2 = 0 := by
  unfold own_w2; split
  · split
    · exact own_pos0 h2
    · decide
  · exact own_pos0 h1
theorem own_M3w (h1 : 0 < i1) (h2 : 0 < i2) : own_M3 a k2 k3 i1 i2 i3 a = if k3 = a then (if own_w2 a k2 i1 i2 = i3 then i3 else -1) else own_w2 a k2 i1 i2 := by
  by_cases e : k3 = a
  · subst e
    show own_m (own_M2 k3 k2 i1 i2) k3 i3 k3 = _
    rw [own_m_at, own_M2w h1, if_pos rfl, if_neg (own_w2n h1 h2)]
  · rw [if_neg e]
    exact (own_m_ne (fun q => e q.symm)).trans (own_M2w h1)
theorem own_M3s (h1 : 0 < i1) (h2 : 0 < i2) (h3 : 0 < i3) : 0 < own_M3 a k2 k3 i1 i2 i3 a ∨ own_M3 a k2 k3 i1 i2 i3 a = -1 := by
  rw [own_M3w h1 h2]
  have hw : 0 < own_w2 a k2 i1 i2 ∨ own_w2 a k2 i1 i2 = -1 := by
    unfold own_w2; split
    · split
      · exact Or.inl h2
      · exact Or.inr rfl
    · exact Or.inl h1
  split
  · split
    · exact Or.inl h3
    · exact Or.inr rfl
  · exact hw
theorem own_M3g (h1 : 0 < i1) (h2 : 0 < i2) (h3 : 0 < i3) (q : own_M3 a k2 k3 i1 i2 i3 a = -1) : own_G3 a k2 k3 i1 i2 i3 = own_j a := by
  have hm : own_M2 a k2 i1 i2 a = -1 → own_G2 a k2 i1 i2 = own_j a := fun z => by
    obtain ⟨-, e, ne⟩ := own_h3 h1 h2 z
    subst e; exact own_G2y h1 ne
  by_cases e : k3 = a
  · subst e
    by_cases p : 0 < own_M2 k3 k2 i1 i2 k3 ∧ ¬ own_M2 k3 k2 i1 i2 k3 = i3
    · exact if_pos p
    · show (if 0 < own_M2 k3 k2 i1 i2 k3 ∧ ¬ own_M2 k3 k2 i1 i2 k3 = i3 then own_j k3 else own_G2 k3 k2 i1 i2) = own_j k3
      rw [if_neg p]
      rcases own_M2s (a := k3) (k2 := k2) (k3 := k3) h1 h2 with z | z | z
      · exact absurd (Or.inl rfl) ((own_M2z h1 h2).mp z)
      · exfalso
        have e3 : own_M2 k3 k2 i1 i2 k3 = i3 := Classical.byContradiction fun w => p ⟨z, w⟩
        rw [own_M3w h1 h2, if_pos rfl, ← own_M2w h1, if_pos e3] at q
        exact own_posm h3 q
      · exact hm z
  · have z : own_M2 a k2 i1 i2 a = -1 := (own_m_ne (fun w => e w.symm)).symm.trans q
    obtain ⟨-, e2, ne⟩ := own_h3 h1 h2 z
    have z3 : own_M2 a k2 i1 i2 k3 = 0 := own_M2n (fun w => e (w.trans e2)) e
    show (if 0 < own_M2 a k2 i1 i2 k3 ∧ ¬ own_M2 a k2 i1 i2 k3 = i3 then own_j k3 else own_G2 a k2 i1 i2) = own_j a
    rw [if_neg (fun w => own_pos0 w.1 z3)]
    exact hm z
def own_go (a k2 k3 : Int64) (i1 i2 i3 r : Int32) : Prop := i1 = r ∧ (k2 = a → i2 = r) ∧ (k3 = a → i3 = r)
theorem own_goW (h2 : 0 < i2) (hr : 0 < r) : own_w2 a k2 i1 i2 = r ↔ (i1 = r ∧ (k2 = a → i2 = r)) := by
  unfold own_w2
  by_cases e : k2 = a
  · rw [if_pos e]
    by_cases f : i1 = i2
    · rw [if_pos f]; exact ⟨fun q => ⟨f.trans q, fun _ => q⟩, fun q => q.2 e⟩
    · rw [if_neg f]; exact ⟨fun q => absurd q.symm (own_posm hr), fun q => absurd (q.1.trans (q.2 e).symm) f⟩
  · rw [if_neg e]; exact ⟨fun q => ⟨q, fun z => absurd z e⟩, fun q => q.1⟩
theorem own_goI (h1 : 0 < i1) (h2 : 0 < i2) (hr : 0 < r) : own_M3 a k2 k3 i1 i2 i3 a = r ↔ own_go a k2 k3 i1 i2 i3 r := by
  rw [own_M3w h1 h2]
  unfold own_go
  have hW := own_goW (a := a) (k2 := k2) (i1 := i1) h2 hr
  by_cases e : k3 = a
  · rw [if_pos e]
    by_cases f : own_w2 a k2 i1 i2 = i3
    · rw [if_pos f]
      exact ⟨fun q => by have w := hW.mp (f.trans q); exact ⟨w.1, w.2, fun _ => q⟩, fun q => q.2.2 e⟩
    · rw [if_neg f]
      exact ⟨fun q => absurd q.symm (own_posm hr), fun q => absurd ((hW.mpr ⟨q.1, q.2.1⟩).trans (q.2.2 e).symm) f⟩
  · rw [if_neg e]
    exact ⟨fun q => by have w := hW.mp q; exact ⟨w.1, w.2, fun z => absurd z e⟩, fun q => hW.mpr ⟨q.1, q.2.1⟩⟩
end OwnLaw

def own_HW (a0 : Array Value) (Z : State) : Prop := ∀ d ∈ tables_1, d.before a0 Z = true
def own_W (c : Jvm.Cond) : Prop := ∀ {a0 : Array Value} {Z : State}, own_HW a0 Z → c.before a0 Z = true
theorem own_at {c : Jvm.Cond} (i : Nat) (q : tables_1[i]? = some c) : own_W c := fun hw => hw _ (List.mem_of_getElem? q)
theorem w0 : own_W (.classLink "com/example/vaxwire/vaxwire/registry/KeyIndexKeysPinLaw" 7 "com/example/vaxwire/vaxwire/registry/KeyIndex") := own_at 0 rfl
theorem w1 : own_W (.instantiable "com/example/vaxwire/vaxwire/registry/KeyIndex" 1) := own_at 1 rfl
theorem w2 : own_W (.initialized "com/example/vaxwire/vaxwire/registry/KeyIndex") := own_at 2 rfl
theorem w3 : own_W (.methodLink "com/example/vaxwire/vaxwire/registry/KeyIndexKeysPinLaw" 9 ⟨"com/example/vaxwire/vaxwire/registry/KeyIndex", "<init>", "()V"⟩) := own_at 3 rfl
theorem w4 : own_W (.instanceMethod ⟨"com/example/vaxwire/vaxwire/registry/KeyIndex", "<init>", "()V"⟩) := own_at 4 rfl
theorem w5 : own_W (.code ⟨"com/example/vaxwire/vaxwire/registry/KeyIndex", "<init>", "()V"⟩ prog_100_method_1_code 2 (Option.none : Option Jvm.ClassFile.FieldType)) := own_at 5 rfl
theorem w6 : own_W (.methodLink "com/example/vaxwire/vaxwire/registry/KeyIndex" 1 ⟨"java/lang/Object", "<init>", "()V"⟩) := own_at 6 rfl
theorem w7 : own_W (.instanceMethod ⟨"java/lang/Object", "<init>", "()V"⟩) := own_at 7 rfl
theorem w8 : own_W (.code ⟨"java/lang/Object", "<init>", "()V"⟩ object_method_1_code 1 (Option.none : Option Jvm.ClassFile.FieldType)) := own_at 8 rfl
theorem w9 : own_W (.classLink "com/example/vaxwire/vaxwire/registry/KeyIndex" 9 "com/example/vaxwire/vaxwire/registry/KeyIndex$Table") := own_at 9 rfl
theorem w10 : own_W (.arrayOver (.object "com/example/vaxwire/vaxwire/registry/KeyIndex$Table")) := own_at 10 rfl
theorem w11 : own_W (.fieldLink "com/example/vaxwire/vaxwire/registry/KeyIndex" 11 "com/example/vaxwire/vaxwire/registry/KeyIndex" "tables" "[Lcom/example/vaxwire/vaxwire/registry/KeyIndex$Table;") := own_at 11 rfl
theorem w12 : own_W (.laysFinal "com/example/vaxwire/vaxwire/registry/KeyIndex" "com/example/vaxwire/vaxwire/registry/KeyIndex" "tables" "[Lcom/example/vaxwire/vaxwire/registry/KeyIndex$Table;") := own_at 12 rfl
theorem w13 : own_W (.instantiable "com/example/vaxwire/vaxwire/registry/KeyIndex$Table" 8) := own_at 13 rfl
theorem w14 : own_W (.initialized "com/example/vaxwire/vaxwire/registry/KeyIndex$Table") := own_at 14 rfl
theorem w15 : own_W (.methodRef "com/example/vaxwire/vaxwire/registry/KeyIndex" 15 ⟨"com/example/vaxwire/vaxwire/registry/KeyIndex$Table", "<init>", "()V"⟩) := own_at 15 rfl
theorem w16 : own_W (.instanceMethod ⟨"com/example/vaxwire/vaxwire/registry/KeyIndex$Table", "<init>", "()V"⟩) := own_at 16 rfl
theorem w17 : own_W (.code ⟨"com/example/vaxwire/vaxwire/registry/KeyIndex$Table", "<init>", "()V"⟩ prog_102_method_1_code 1 (Option.none : Option Jvm.ClassFile.FieldType)) := own_at 17 rfl
theorem w18 : own_W (.methodLink "com/example/vaxwire/vaxwire/registry/KeyIndex$Table" 1 ⟨"java/lang/Object", "<init>", "()V"⟩) := own_at 18 rfl
theorem w19 : own_W (.arrayClass .long) := own_at 19 rfl
theorem w20 : own_W (.fieldLink "com/example/vaxwire/vaxwire/registry/KeyIndex$Table" 7 "com/example/vaxwire/vaxwire/registry/KeyIndex$Table" "keys" "[J") := own_at 20 rfl
theorem w21 : own_W (.lays "com/example/vaxwire/vaxwire/registry/KeyIndex$Table" "com/example/vaxwire/vaxwire/registry/KeyIndex$Table" "keys" "[J") := own_at 21 rfl
theorem w22 : own_W (.arrayClass .int) := own_at 22 rfl
theorem w23 : own_W (.fieldLink "com/example/vaxwire/vaxwire/registry/KeyIndex$Table" 13 "com/example/vaxwire/vaxwire/registry/KeyIndex$Table" "places" "[I") := own_at 23 rfl
theorem w24 : own_W (.lays "com/example/vaxwire/vaxwire/registry/KeyIndex$Table" "com/example/vaxwire/vaxwire/registry/KeyIndex$Table" "places" "[I") := own_at 24 rfl
theorem w25 : own_W (.classLink "com/example/vaxwire/vaxwire/registry/KeyIndex$Table" 17 "[I") := own_at 25 rfl
theorem w26 : own_W (.arrayOver (.array .int)) := own_at 26 rfl
theorem w27 : own_W (.fieldLink "com/example/vaxwire/vaxwire/registry/KeyIndex$Table" 18 "com/example/vaxwire/vaxwire/registry/KeyIndex$Table" "lists" "[[I") := own_at 27 rfl
theorem w28 : own_W (.lays "com/example/vaxwire/vaxwire/registry/KeyIndex$Table" "com/example/vaxwire/vaxwire/registry/KeyIndex$Table" "lists" "[[I") := own_at 28 rfl
theorem w29 : own_W (.fieldLink "com/example/vaxwire/vaxwire/registry/KeyIndex$Table" 22 "com/example/vaxwire/vaxwire/registry/KeyIndex$Table" "listSizes" "[I") := own_at 29 rfl
theorem w30 : own_W (.lays "com/example/vaxwire/vaxwire/registry/KeyIndex$Table" "com/example/vaxwire/vaxwire/registry/KeyIndex$Table" "listSizes" "[I") := own_at 30 rfl
theorem w31 : own_W (.fieldLink "com/example/vaxwire/vaxwire/registry/KeyIndex$Table" 25 "com/example/vaxwire/vaxwire/registry/KeyIndex$Table" "freeLists" "[I") := own_at 31 rfl
theorem w32 : own_W (.lays "com/example/vaxwire/vaxwire/registry/KeyIndex$Table" "com/example/vaxwire/vaxwire/registry/KeyIndex$Table" "freeLists" "[I") := own_at 32 rfl
theorem w34 : own_W (.methodLink "com/example/vaxwire/vaxwire/registry/KeyIndexKeysPinLaw" 10 ⟨"com/example/vaxwire/vaxwire/registry/KeyIndex", "keys", "()J"⟩) := own_at 34 rfl
theorem w35 : own_W (.declares ⟨"com/example/vaxwire/vaxwire/registry/KeyIndex", "keys", "()J"⟩) := own_at 35 rfl
theorem w36 : own_W (.instanceMethod ⟨"com/example/vaxwire/vaxwire/registry/KeyIndex", "keys", "()J"⟩) := own_at 36 rfl
theorem w37 : own_W (.selects "com/example/vaxwire/vaxwire/registry/KeyIndex" ⟨"com/example/vaxwire/vaxwire/registry/KeyIndex", "keys", "()J"⟩ ⟨"com/example/vaxwire/vaxwire/registry/KeyIndex", "keys", "()J"⟩) := own_at 37 rfl
theorem w38 : own_W (.code ⟨"com/example/vaxwire/vaxwire/registry/KeyIndex", "keys", "()J"⟩ prog_100_method_6_code 7 (Option.some .long)) := own_at 38 rfl
theorem w39 : own_W (.fieldRef "com/example/vaxwire/vaxwire/registry/KeyIndex" 35 "com/example/vaxwire/vaxwire/registry/KeyIndex$Table" "used" "I") := own_at 39 rfl
theorem w40 : own_W (.lays "com/example/vaxwire/vaxwire/registry/KeyIndex$Table" "com/example/vaxwire/vaxwire/registry/KeyIndex$Table" "used" "I") := own_at 40 rfl
theorem w41 : own_W (.methodLink "com/example/vaxwire/vaxwire/registry/KeyIndexKeysPinLaw" 14 ⟨"com/example/vaxwire/vaxwire/registry/KeyIndex", "add", "(JI)V"⟩) := own_at 41 rfl
theorem w42 : own_W (.declares ⟨"com/example/vaxwire/vaxwire/registry/KeyIndex", "add", "(JI)V"⟩) := own_at 42 rfl
theorem w43 : own_W (.instanceMethod ⟨"com/example/vaxwire/vaxwire/registry/KeyIndex", "add", "(JI)V"⟩) := own_at 43 rfl
theorem w44 : own_W (.selects "com/example/vaxwire/vaxwire/registry/KeyIndex" ⟨"com/example/vaxwire/vaxwire/registry/KeyIndex", "add", "(JI)V"⟩ ⟨"com/example/vaxwire/vaxwire/registry/KeyIndex", "add", "(JI)V"⟩) := own_at 44 rfl
theorem w45 : own_W (.code ⟨"com/example/vaxwire/vaxwire/registry/KeyIndex", "add", "(JI)V"⟩ prog_100_method_2_code 4 (Option.none : Option Jvm.ClassFile.FieldType)) := own_at 45 rfl
theorem w46 : own_W (.methodLink "com/example/vaxwire/vaxwire/registry/KeyIndex" 16 ⟨"com/example/vaxwire/vaxwire/registry/KeyIndex", "table", "(J)Lcom/example/vaxwire/vaxwire/registry/KeyIndex$Table;"⟩) := own_at 46 rfl
theorem w47 : own_W (.instanceMethod ⟨"com/example/vaxwire/vaxwire/registry/KeyIndex", "table", "(J)Lcom/example/vaxwire/vaxwire/registry/KeyIndex$Table;"⟩) := own_at 47 rfl
theorem w48 : own_W (.privateMethod ⟨"com/example/vaxwire/vaxwire/registry/KeyIndex", "table", "(J)Lcom/example/vaxwire/vaxwire/registry/KeyIndex$Table;"⟩) := own_at 48 rfl
theorem w49 : own_W (.code ⟨"com/example/vaxwire/vaxwire/registry/KeyIndex", "table", "(J)Lcom/example/vaxwire/vaxwire/registry/KeyIndex$Table;"⟩ prog_100_method_8_code 3 (Option.some (.object "com/example/vaxwire/vaxwire/registry/KeyIndex$Table"))) := own_at 49 rfl
theorem w50 : own_W (.methodLink "com/example/vaxwire/vaxwire/registry/KeyIndex" 20 ⟨"com/example/vaxwire/vaxwire/registry/KeyIndex$Table", "add", "(JI)V"⟩) := own_at 50 rfl
theorem w51 : own_W (.declares ⟨"com/example/vaxwire/vaxwire/registry/KeyIndex$Table", "add", "(JI)V"⟩) := own_at 51 rfl
theorem w52 : own_W (.instanceMethod ⟨"com/example/vaxwire/vaxwire/registry/KeyIndex$Table", "add", "(JI)V"⟩) := own_at 52 rfl
theorem w53 : own_W (.selects "com/example/vaxwire/vaxwire/registry/KeyIndex$Table" ⟨"com/example/vaxwire/vaxwire/registry/KeyIndex$Table", "add", "(JI)V"⟩ ⟨"com/example/vaxwire/vaxwire/registry/KeyIndex$Table", "add", "(JI)V"⟩) := own_at 53 rfl
theorem w54 : own_W (.code ⟨"com/example/vaxwire/vaxwire/registry/KeyIndex$Table", "add", "(JI)V"⟩ prog_102_method_2_code 6 (Option.none : Option Jvm.ClassFile.FieldType)) := own_at 54 rfl
theorem w55 : own_W (.methodLink "com/example/vaxwire/vaxwire/registry/KeyIndex$Table" 28 ⟨"com/example/vaxwire/vaxwire/registry/KeyIndex$Table", "find", "(J)I"⟩) := own_at 55 rfl
theorem w56 : own_W (.instanceMethod ⟨"com/example/vaxwire/vaxwire/registry/KeyIndex$Table", "find", "(J)I"⟩) := own_at 56 rfl
theorem w57 : own_W (.privateMethod ⟨"com/example/vaxwire/vaxwire/registry/KeyIndex$Table", "find", "(J)I"⟩) := own_at 57 rfl
theorem w58 : own_W (.code ⟨"com/example/vaxwire/vaxwire/registry/KeyIndex$Table", "find", "(J)I"⟩ prog_102_method_6_code 5 (Option.some .int)) := own_at 58 rfl
theorem w59 : own_W (.fieldLink "com/example/vaxwire/vaxwire/registry/KeyIndex$Table" 32 "com/example/vaxwire/vaxwire/registry/KeyIndex$Table" "used" "I") := own_at 59 rfl
theorem w60 : own_W (.methodLink "com/example/vaxwire/vaxwire/registry/KeyIndex$Table" 39 ⟨"java/lang/Math", "min", "(II)I"⟩) := own_at 60 rfl
theorem w61 : own_W (.static ⟨"java/lang/Math", "min", "(II)I"⟩) := own_at 61 rfl
theorem w62 : own_W (.initialized "java/lang/Math") := own_at 62 rfl
theorem w63 : own_W (.code ⟨"java/lang/Math", "min", "(II)I"⟩ jdk_29_method_69_code 2 (Option.some .int)) := own_at 63 rfl
theorem w64 : own_W (.methodLink "com/example/vaxwire/vaxwire/registry/KeyIndex$Table" 45 ⟨"java/lang/Math", "max", "(II)I"⟩) := own_at 64 rfl
theorem w65 : own_W (.static ⟨"java/lang/Math", "max", "(II)I"⟩) := own_at 65 rfl
theorem w66 : own_W (.code ⟨"java/lang/Math", "max", "(II)I"⟩ jdk_29_method_65_code 2 (Option.some .int)) := own_at 66 rfl
theorem w67 : own_W (.methodLink "com/example/vaxwire/vaxwire/registry/KeyIndex$Table" 48 ⟨"com/example/vaxwire/vaxwire/registry/KeyIndex$Table", "newList", "(II)I"⟩) := own_at 67 rfl
theorem w68 : own_W (.instanceMethod ⟨"com/example/vaxwire/vaxwire/registry/KeyIndex$Table", "newList", "(II)I"⟩) := own_at 68 rfl
theorem w69 : own_W (.privateMethod ⟨"com/example/vaxwire/vaxwire/registry/KeyIndex$Table", "newList", "(II)I"⟩) := own_at 69 rfl
theorem w70 : own_W (.code ⟨"com/example/vaxwire/vaxwire/registry/KeyIndex$Table", "newList", "(II)I"⟩ prog_102_method_11_code 4 (Option.some .int)) := own_at 70 rfl
theorem w71 : own_W (.fieldLink "com/example/vaxwire/vaxwire/registry/KeyIndex$Table" 71 "com/example/vaxwire/vaxwire/registry/KeyIndex$Table" "freeCount" "I") := own_at 71 rfl
theorem w72 : own_W (.lays "com/example/vaxwire/vaxwire/registry/KeyIndex$Table" "com/example/vaxwire/vaxwire/registry/KeyIndex$Table" "freeCount" "I") := own_at 72 rfl
theorem w73 : own_W (.fieldLink "com/example/vaxwire/vaxwire/registry/KeyIndex$Table" 115 "com/example/vaxwire/vaxwire/registry/KeyIndex$Table" "listCount" "I") := own_at 73 rfl
theorem w74 : own_W (.lays "com/example/vaxwire/vaxwire/registry/KeyIndex$Table" "com/example/vaxwire/vaxwire/registry/KeyIndex$Table" "listCount" "I") := own_at 74 rfl
theorem w76 : own_W (.methodLink "com/example/vaxwire/vaxwire/registry/KeyIndex$Table" 51 ⟨"com/example/vaxwire/vaxwire/registry/KeyIndex$Table", "addToList", "(II)V"⟩) := own_at 76 rfl
theorem w77 : own_W (.instanceMethod ⟨"com/example/vaxwire/vaxwire/registry/KeyIndex$Table", "addToList", "(II)V"⟩) := own_at 77 rfl
theorem w78 : own_W (.privateMethod ⟨"com/example/vaxwire/vaxwire/registry/KeyIndex$Table", "addToList", "(II)V"⟩) := own_at 78 rfl
theorem w79 : own_W (.code ⟨"com/example/vaxwire/vaxwire/registry/KeyIndex$Table", "addToList", "(II)V"⟩ prog_102_method_12_code 6 (Option.none : Option Jvm.ClassFile.FieldType)) := own_at 79 rfl
theorem w80 : own_W (.methodLink "com/example/vaxwire/vaxwire/registry/KeyIndex$Table" 59 ⟨"java/util/Arrays", "binarySearch", "([IIII)I"⟩) := own_at 80 rfl
theorem w81 : own_W (.static ⟨"java/util/Arrays", "binarySearch", "([IIII)I"⟩) := own_at 81 rfl
theorem w82 : own_W (.initialized "java/util/Arrays") := own_at 82 rfl
theorem w83 : own_W (.code ⟨"java/util/Arrays", "binarySearch", "([IIII)I"⟩ jdk_65_method_58_code 4 (Option.some .int)) := own_at 83 rfl
theorem w84 : own_W (.methodLink "java/util/Arrays" 13 ⟨"java/util/Arrays", "rangeCheck", "(III)V"⟩) := own_at 84 rfl
theorem w85 : own_W (.static ⟨"java/util/Arrays", "rangeCheck", "(III)V"⟩) := own_at 85 rfl
theorem w86 : own_W (.code ⟨"java/util/Arrays", "rangeCheck", "(III)V"⟩ jdk_65_method_30_code 3 (Option.none : Option Jvm.ClassFile.FieldType)) := own_at 86 rfl
theorem w87 : own_W (.methodLink "java/util/Arrays" 209 ⟨"java/util/Arrays", "binarySearch0", "([IIII)I"⟩) := own_at 87 rfl
theorem w88 : own_W (.static ⟨"java/util/Arrays", "binarySearch0", "([IIII)I"⟩) := own_at 88 rfl
theorem w89 : own_W (.code ⟨"java/util/Arrays", "binarySearch0", "([IIII)I"⟩ jdk_65_method_59_code 8 (Option.some .int)) := own_at 89 rfl
theorem w90 : own_W (.constantLong "com/example/vaxwire/vaxwire/registry/KeyIndexKeysPinLaw" 18 (2 : Int64)) := own_at 90 rfl
theorem w91 : own_W (.methodLink "com/example/vaxwire/vaxwire/registry/KeyIndexKeysPinLaw" 20 ⟨"com/example/vaxwire/vaxwire/registry/KeyIndex", "remove", "(JI)V"⟩) := own_at 91 rfl
theorem w92 : own_W (.declares ⟨"com/example/vaxwire/vaxwire/registry/KeyIndex", "remove", "(JI)V"⟩) := own_at 92 rfl
theorem w93 : own_W (.instanceMethod ⟨"com/example/vaxwire/vaxwire/registry/KeyIndex", "remove", "(JI)V"⟩) := own_at 93 rfl
theorem w94 : own_W (.selects "com/example/vaxwire/vaxwire/registry/KeyIndex" ⟨"com/example/vaxwire/vaxwire/registry/KeyIndex", "remove", "(JI)V"⟩ ⟨"com/example/vaxwire/vaxwire/registry/KeyIndex", "remove", "(JI)V"⟩) := own_at 94 rfl
theorem w95 : own_W (.code ⟨"com/example/vaxwire/vaxwire/registry/KeyIndex", "remove", "(JI)V"⟩ prog_100_method_3_code 4 (Option.none : Option Jvm.ClassFile.FieldType)) := own_at 95 rfl
theorem w96 : own_W (.methodLink "com/example/vaxwire/vaxwire/registry/KeyIndex" 24 ⟨"com/example/vaxwire/vaxwire/registry/KeyIndex$Table", "remove", "(JI)V"⟩) := own_at 96 rfl
theorem w97 : own_W (.declares ⟨"com/example/vaxwire/vaxwire/registry/KeyIndex$Table", "remove", "(JI)V"⟩) := own_at 97 rfl
theorem w98 : own_W (.instanceMethod ⟨"com/example/vaxwire/vaxwire/registry/KeyIndex$Table", "remove", "(JI)V"⟩) := own_at 98 rfl
theorem w99 : own_W (.selects "com/example/vaxwire/vaxwire/registry/KeyIndex$Table" ⟨"com/example/vaxwire/vaxwire/registry/KeyIndex$Table", "remove", "(JI)V"⟩ ⟨"com/example/vaxwire/vaxwire/registry/KeyIndex$Table", "remove", "(JI)V"⟩) := own_at 99 rfl
theorem w100 : own_W (.code ⟨"com/example/vaxwire/vaxwire/registry/KeyIndex$Table", "remove", "(JI)V"⟩ prog_102_method_3_code 9 (Option.none : Option Jvm.ClassFile.FieldType)) := own_at 100 rfl
theorem w101 : own_W (.methodLink "com/example/vaxwire/vaxwire/registry/KeyIndex$Table" 65 ⟨"java/lang/System", "arraycopy", "(Ljava/lang/Object;ILjava/lang/Object;II)V"⟩) := own_at 101 rfl
theorem w102 : own_W (.static ⟨"java/lang/System", "arraycopy", "(Ljava/lang/Object;ILjava/lang/Object;II)V"⟩) := own_at 102 rfl
theorem w103 : own_W (.initialized "java/lang/System") := own_at 103 rfl
theorem w104 : own_W (.native ⟨"java/lang/System", "arraycopy", "(Ljava/lang/Object;ILjava/lang/Object;II)V"⟩) := own_at 104 rfl
theorem w105 : own_W (.methodLink "com/example/vaxwire/vaxwire/registry/KeyIndex$Table" 74 ⟨"com/example/vaxwire/vaxwire/registry/KeyIndex$Table", "pushed", "([III)[I"⟩) := own_at 105 rfl
theorem w106 : own_W (.static ⟨"com/example/vaxwire/vaxwire/registry/KeyIndex$Table", "pushed", "([III)[I"⟩) := own_at 106 rfl
theorem w107 : own_W (.code ⟨"com/example/vaxwire/vaxwire/registry/KeyIndex$Table", "pushed", "([III)[I"⟩ prog_102_method_13_code 4 (Option.some (.array .int))) := own_at 107 rfl
theorem w108 : own_W (.methodLink "com/example/vaxwire/vaxwire/registry/KeyIndex$Table" 55 ⟨"com/example/vaxwire/vaxwire/registry/KeyIndex$Table", "empty", "(I)V"⟩) := own_at 108 rfl
theorem w109 : own_W (.instanceMethod ⟨"com/example/vaxwire/vaxwire/registry/KeyIndex$Table", "empty", "(I)V"⟩) := own_at 109 rfl
theorem w110 : own_W (.privateMethod ⟨"com/example/vaxwire/vaxwire/registry/KeyIndex$Table", "empty", "(I)V"⟩) := own_at 110 rfl
theorem w111 : own_W (.code ⟨"com/example/vaxwire/vaxwire/registry/KeyIndex$Table", "empty", "(I)V"⟩ prog_102_method_7_code 7 (Option.none : Option Jvm.ClassFile.FieldType)) := own_at 111 rfl
def own_K (b : ByteArray) (L : List (Nat × Instr × Nat)) : Prop := ∀ x ∈ L, decode b x.1 = .ok x.2
def own_nth : List (Nat × Instr × Nat) → Nat → Option (Nat × Instr × Nat)
  | [], _ => none
  | x :: _, 0 => some x
  | _ :: L, i + 1 => own_nth L i
def own_De (b : ByteArray) : Option (Nat × Instr × Nat) → Prop
  | none => True
  | some x => decode b x.1 = .ok x.2
theorem own_nth_all {b : ByteArray} : ∀ {L : List (Nat × Instr × Nat)}, own_K b L → ∀ i, own_De b (own_nth L i)
  | [], _, _ => trivial
  | x :: _, K, 0 => K x (List.mem_cons_self ..)
  | _ :: _, K, i + 1 => own_nth_all (fun x hx => K x (List.mem_cons_of_mem _ hx)) i
theorem own_d {b b' : ByteArray} {L : List (Nat × Instr × Nat)} (q : b' = b) (K : own_K b L) (i : Nat) : own_De b' (own_nth L i) := by subst q; exact own_nth_all K i
def tD1 : List (Nat × Instr × Nat) := [(0, .aload_n 0, 1), (1, .invokespecial 1, 3), (4, .aload_n 0, 1), (5, .bipush 64, 2), (7, .anewarray 9, 3), (10, .putfield 11, 3), (13, .iconst 0, 1), (14, .istore_n 1, 1), (15, .iload_n 1, 1), (16, .aload_n 0, 1), (17, .getfield 11, 3), (20, .arraylength, 1), (21, .if_icmp .ge 22, 3), (24, .aload_n 0, 1), (25, .getfield 11, 3), (28, .iload_n 1, 1), (29, .new 9, 3), (32, .dup, 1), (33, .invokespecial 15, 3), (36, .aastore, 1), (37, .iinc 1 1, 3), (40, .goto (-25), 3), (43, .return_, 1)]
theorem kD1 : own_K prog_100_method_1_code tD1 := by unfold own_K; decide +kernel
def tD3 : List (Nat × Instr × Nat) := [(0, .aload_n 0, 1), (1, .invokespecial 1, 3), (4, .aload_n 0, 1), (5, .bipush 16, 2), (7, .newarray .long, 2), (9, .putfield 7, 3), (12, .aload_n 0, 1), (13, .bipush 16, 2), (15, .newarray .int, 2), (17, .putfield 13, 3), (20, .aload_n 0, 1), (21, .iconst 4, 1), (22, .anewarray 17, 3), (25, .putfield 18, 3), (28, .aload_n 0, 1), (29, .iconst 4, 1), (30, .newarray .int, 2), (32, .putfield 22, 3), (35, .aload_n 0, 1), (36, .iconst 4, 1), (37, .newarray .int, 2), (39, .putfield 25, 3), (42, .return_, 1)]
theorem kD3 : own_K prog_102_method_1_code tD3 := by unfold own_K; decide +kernel
def tD4 : List (Nat × Instr × Nat) := [(0, .lconst 0, 1), (1, .lstore_n 1, 1), (2, .aload_n 0, 1), (3, .getfield 11, 3), (6, .astore_n 3, 1), (7, .aload_n 3, 1), (8, .arraylength, 1), (9, .istore 4, 2), (11, .iconst 0, 1), (12, .istore 5, 2), (14, .iload 5, 2), (16, .iload 4, 2), (18, .if_icmp .ge 24, 3), (21, .aload_n 3, 1), (22, .iload 5, 2), (24, .aaload, 1), (25, .astore 6, 2), (27, .lload_n 1, 1), (28, .aload 6, 2), (30, .getfield 35, 3), (33, .i2l, 1), (34, .ladd, 1), (35, .lstore_n 1, 1), (36, .iinc 5 1, 3), (39, .goto (-25), 3), (42, .lload_n 1, 1), (43, .lreturn, 1)]
theorem kD4 : own_K prog_100_method_6_code tD4 := by unfold own_K; decide +kernel
def tD5 : List (Nat × Instr × Nat) := [(0, .aload_n 0, 1), (1, .lload_n 1, 1), (2, .invokevirtual 16, 3), (5, .lload_n 1, 1), (6, .iload_n 3, 1), (7, .invokevirtual 20, 3), (10, .return_, 1)]
theorem kD5 : own_K prog_100_method_2_code tD5 := by unfold own_K; decide +kernel
def tD6 : List (Nat × Instr × Nat) := [(0, .aload_n 0, 1), (1, .getfield 11, 3), (4, .lload_n 1, 1), (5, .bipush 58, 2), (7, .lushr, 1), (8, .l2i, 1), (9, .aaload, 1), (10, .areturn, 1)]
theorem kD6 : own_K prog_100_method_8_code tD6 := by unfold own_K; decide +kernel
def tD7 : List (Nat × Instr × Nat) := [(0, .aload_n 0, 1), (1, .lload_n 1, 1), (2, .invokevirtual 28, 3), (5, .istore 4, 2), (7, .iload 4, 2), (9, .ifCond .ge 68, 3), (12, .iconst 4, 1), (13, .aload_n 0, 1), (14, .getfield 32, 3), (17, .iconst 1, 1), (18, .iadd, 1), (19, .imul, 1), (20, .iconst 3, 1), (21, .aload_n 0, 1), (22, .getfield 7, 3), (25, .arraylength, 1), (26, .imul, 1), (27, .if_icmp .le 14, 3), (41, .iload 4, 2), (43, .ineg, 1), (44, .iconst 1, 1), (45, .isub, 1), (46, .istore 4, 2), (48, .aload_n 0, 1), (49, .getfield 7, 3), (52, .iload 4, 2), (54, .lload_n 1, 1), (55, .lastore, 1), (56, .aload_n 0, 1), (57, .getfield 13, 3), (60, .iload 4, 2), (62, .iload_n 3, 1), (63, .iastore, 1), (64, .aload_n 0, 1), (65, .dup, 1), (66, .getfield 32, 3), (69, .iconst 1, 1), (70, .iadd, 1), (71, .putfield 32, 3), (74, .goto 72, 3), (77, .aload_n 0, 1), (78, .getfield 13, 3), (81, .iload 4, 2), (83, .iaload, 1), (84, .ifCond .le 47, 3), (87, .aload_n 0, 1), (88, .getfield 13, 3), (91, .iload 4, 2), (93, .iaload, 1), (94, .istore 5, 2), (96, .iload 5, 2), (98, .iload_n 3, 1), (99, .if_icmp .eq 29, 3), (102, .aload_n 0, 1), (103, .getfield 13, 3), (106, .iload 4, 2), (108, .aload_n 0, 1), (109, .iload 5, 2), (111, .iload_n 3, 1), (112, .invokestatic 39, 3), (115, .iload 5, 2), (117, .iload_n 3, 1), (118, .invokestatic 45, 3), (121, .invokevirtual 48, 3), (124, .ineg, 1), (125, .iconst 1, 1), (126, .isub, 1), (127, .iastore, 1), (128, .goto 18, 3), (131, .aload_n 0, 1), (132, .aload_n 0, 1), (133, .getfield 13, 3), (136, .iload 4, 2), (138, .iaload, 1), (139, .ineg, 1), (140, .iconst 1, 1), (141, .isub, 1), (142, .iload_n 3, 1), (143, .invokevirtual 51, 3), (146, .return_, 1)]
theorem kD7 : own_K prog_102_method_2_code tD7 := by unfold own_K; decide +kernel
def tD8 : List (Nat × Instr × Nat) := [(0, .aload_n 0, 1), (1, .getfield 7, 3), (4, .arraylength, 1), (5, .iconst 1, 1), (6, .isub, 1), (7, .istore_n 3, 1), (8, .lload_n 1, 1), (9, .l2i, 1), (10, .iload_n 3, 1), (11, .iand, 1), (12, .istore 4, 2), (14, .aload_n 0, 1), (15, .getfield 13, 3), (18, .iload 4, 2), (20, .iaload, 1), (21, .ifCond .ne 9, 3), (24, .iload 4, 2), (26, .ineg, 1), (27, .iconst 1, 1), (28, .isub, 1), (29, .ireturn, 1), (30, .aload_n 0, 1), (31, .getfield 7, 3), (34, .iload 4, 2), (36, .laload, 1), (37, .lload_n 1, 1), (38, .lcmp, 1), (39, .ifCond .ne 6, 3), (42, .iload 4, 2), (44, .ireturn, 1), (45, .iload 4, 2), (47, .iconst 1, 1), (48, .iadd, 1), (49, .iload_n 3, 1), (50, .iand, 1), (51, .istore 4, 2), (53, .goto (-39), 3)]
theorem kD8 : own_K prog_102_method_6_code tD8 := by unfold own_K; decide +kernel
def tD9 : List (Nat × Instr × Nat) := [(0, .iload_n 0, 1), (1, .iload_n 1, 1), (2, .if_icmp .gt 7, 3), (5, .iload_n 0, 1), (6, .goto 4, 3), (9, .iload_n 1, 1), (10, .ireturn, 1)]
theorem kD9 : own_K jdk_29_method_69_code tD9 := by unfold own_K; decide +kernel
def tD10 : List (Nat × Instr × Nat) := [(0, .iload_n 0, 1), (1, .iload_n 1, 1), (2, .if_icmp .lt 7, 3), (5, .iload_n 0, 1), (6, .goto 4, 3), (9, .iload_n 1, 1), (10, .ireturn, 1)]
theorem kD10 : own_K jdk_29_method_65_code tD10 := by unfold own_K; decide +kernel
def tD11 : List (Nat × Instr × Nat) := [(0, .aload_n 0, 1), (1, .getfield 71, 3), (4, .ifCond .le 23, 3), (27, .aload_n 0, 1), (28, .dup, 1), (29, .getfield 115, 3), (32, .dup_x1, 1), (33, .iconst 1, 1), (34, .iadd, 1), (35, .putfield 115, 3), (38, .istore_n 3, 1), (39, .iload_n 3, 1), (40, .aload_n 0, 1), (41, .getfield 18, 3), (44, .arraylength, 1), (45, .if_icmp .ne 34, 3), (79, .aload_n 0, 1), (80, .getfield 18, 3), (83, .iload_n 3, 1), (84, .iconst 4, 1), (85, .newarray .int, 2), (87, .dup, 1), (88, .iconst 0, 1), (89, .iload_n 1, 1), (90, .iastore, 1), (91, .dup, 1), (92, .iconst 1, 1), (93, .iload_n 2, 1), (94, .iastore, 1), (95, .dup, 1), (96, .iconst 2, 1), (97, .iconst 0, 1), (98, .iastore, 1), (99, .dup, 1), (100, .iconst 3, 1), (101, .iconst 0, 1), (102, .iastore, 1), (103, .aastore, 1), (104, .aload_n 0, 1), (105, .getfield 22, 3), (108, .iload_n 3, 1), (109, .iconst 2, 1), (110, .iastore, 1), (111, .iload_n 3, 1), (112, .ireturn, 1)]
theorem kD11 : own_K prog_102_method_11_code tD11 := by unfold own_K; decide +kernel
def tD12 : List (Nat × Instr × Nat) := [(0, .aload_n 0, 1), (1, .getfield 18, 3), (4, .iload_n 1, 1), (5, .aaload, 1), (6, .astore_n 3, 1), (7, .aload_n 0, 1), (8, .getfield 22, 3), (11, .iload_n 1, 1), (12, .iaload, 1), (13, .istore 4, 2), (15, .iload 4, 2), (17, .istore 5, 2), (19, .aload_n 3, 1), (20, .iload 4, 2), (22, .iconst 1, 1), (23, .isub, 1), (24, .iaload, 1), (25, .iload_n 2, 1), (26, .if_icmp .le 29, 3), (29, .aload_n 3, 1), (30, .iconst 0, 1), (31, .iload 4, 2), (33, .iload_n 2, 1), (34, .invokestatic 59, 3), (37, .istore 5, 2), (39, .iload 5, 2), (41, .ifCond .lt 4, 3), (44, .return_, 1), (45, .iload 5, 2), (47, .ineg, 1), (48, .iconst 1, 1), (49, .isub, 1), (50, .istore 5, 2), (52, .goto 14, 3), (55, .aload_n 3, 1), (56, .iload 4, 2), (58, .iconst 1, 1), (59, .isub, 1), (60, .iaload, 1), (61, .iload_n 2, 1), (62, .if_icmp .ne 4, 3), (65, .return_, 1), (66, .iload 4, 2), (68, .aload_n 3, 1), (69, .arraylength, 1), (70, .if_icmp .ne 22, 3), (92, .aload_n 3, 1), (93, .iload 5, 2), (95, .aload_n 3, 1), (96, .iload 5, 2), (98, .iconst 1, 1), (99, .iadd, 1), (100, .iload 4, 2), (102, .iload 5, 2), (104, .isub, 1), (105, .invokestatic 65, 3), (108, .aload_n 3, 1), (109, .iload 5, 2), (111, .iload_n 2, 1), (112, .iastore, 1), (113, .aload_n 0, 1), (114, .getfield 22, 3), (117, .iload_n 1, 1), (118, .iload 4, 2), (120, .iconst 1, 1), (121, .iadd, 1), (122, .iastore, 1), (123, .return_, 1)]
theorem kD12 : own_K prog_102_method_12_code tD12 := by unfold own_K; decide +kernel
def tD13 : List (Nat × Instr × Nat) := [(0, .aload_n 0, 1), (1, .arraylength, 1), (2, .iload_n 1, 1), (3, .iload_n 2, 1), (4, .invokestatic 13, 3), (7, .aload_n 0, 1), (8, .iload_n 1, 1), (9, .iload_n 2, 1), (10, .iload_n 3, 1), (11, .invokestatic 209, 3), (14, .ireturn, 1)]
theorem kD13 : own_K jdk_65_method_58_code tD13 := by unfold own_K; decide +kernel
def tD14 : List (Nat × Instr × Nat) := [(0, .iload_n 1, 1), (1, .iload_n 2, 1), (2, .if_icmp .le 44, 3), (46, .iload_n 1, 1), (47, .ifCond .ge 12, 3), (59, .iload_n 2, 1), (60, .iload_n 0, 1), (61, .if_icmp .le 12, 3), (73, .return_, 1)]
theorem kD14 : own_K jdk_65_method_30_code tD14 := by unfold own_K; decide +kernel
def tD15 : List (Nat × Instr × Nat) := [(0, .iload_n 1, 1), (1, .istore 4, 2), (3, .iload_n 2, 1), (4, .iconst 1, 1), (5, .isub, 1), (6, .istore 5, 2), (8, .iload 4, 2), (10, .iload 5, 2), (12, .if_icmp .gt 54, 3), (15, .iload 4, 2), (17, .iload 5, 2), (19, .iadd, 1), (20, .iconst 1, 1), (21, .iushr, 1), (22, .istore 6, 2), (24, .aload_n 0, 1), (25, .iload 6, 2), (27, .iaload, 1), (28, .istore 7, 2), (30, .iload 7, 2), (32, .iload_n 3, 1), (33, .if_icmp .ge 12, 3), (36, .iload 6, 2), (38, .iconst 1, 1), (39, .iadd, 1), (40, .istore 4, 2), (42, .goto 21, 3), (45, .iload 7, 2), (47, .iload_n 3, 1), (48, .if_icmp .le 12, 3), (51, .iload 6, 2), (53, .iconst 1, 1), (54, .isub, 1), (55, .istore 5, 2), (57, .goto 6, 3), (60, .iload 6, 2), (62, .ireturn, 1), (63, .goto (-55), 3), (66, .iload 4, 2), (68, .iconst 1, 1), (69, .iadd, 1), (70, .ineg, 1), (71, .ireturn, 1)]
theorem kD15 : own_K jdk_65_method_59_code tD15 := by unfold own_K; decide +kernel
def tD16 : List (Nat × Instr × Nat) := [(0, .aload_n 0, 1), (1, .lload_n 1, 1), (2, .invokevirtual 16, 3), (5, .lload_n 1, 1), (6, .iload_n 3, 1), (7, .invokevirtual 24, 3), (10, .return_, 1)]
theorem kD16 : own_K prog_100_method_3_code tD16 := by unfold own_K; decide +kernel
def tD17 : List (Nat × Instr × Nat) := [(0, .aload_n 0, 1), (1, .lload_n 1, 1), (2, .invokevirtual 28, 3), (5, .istore 4, 2), (7, .iload 4, 2), (9, .ifCond .ge 4, 3), (13, .aload_n 0, 1), (14, .getfield 13, 3), (17, .iload 4, 2), (19, .iaload, 1), (20, .ifCond .le 21, 3), (23, .aload_n 0, 1), (24, .getfield 13, 3), (27, .iload 4, 2), (29, .iaload, 1), (30, .iload_n 3, 1), (31, .if_icmp .ne 9, 3), (34, .aload_n 0, 1), (35, .iload 4, 2), (37, .invokevirtual 55, 3), (40, .return_, 1), (41, .aload_n 0, 1), (42, .getfield 13, 3), (45, .iload 4, 2), (47, .iaload, 1), (48, .ineg, 1), (49, .iconst 1, 1), (50, .isub, 1), (51, .istore 5, 2), (53, .aload_n 0, 1), (54, .getfield 18, 3), (57, .iload 5, 2), (59, .aaload, 1), (60, .astore 6, 2), (62, .aload_n 0, 1), (63, .getfield 22, 3), (66, .iload 5, 2), (68, .iaload, 1), (69, .istore 7, 2), (71, .aload 6, 2), (73, .iconst 0, 1), (74, .iload 7, 2), (76, .iload_n 3, 1), (77, .invokestatic 59, 3), (80, .istore 8, 2), (82, .iload 8, 2), (84, .ifCond .ge 4, 3), (87, .return_, 1), (88, .aload 6, 2), (90, .iload 8, 2), (92, .iconst 1, 1), (93, .iadd, 1), (94, .aload 6, 2), (96, .iload 8, 2), (98, .iload 7, 2), (100, .iload 8, 2), (102, .isub, 1), (103, .iconst 1, 1), (104, .isub, 1), (105, .invokestatic 65, 3), (108, .aload_n 0, 1), (109, .getfield 22, 3), (112, .iload 5, 2), (114, .iinc 7 (-1), 3), (117, .iload 7, 2), (119, .iastore, 1), (120, .iload 7, 2), (122, .iconst 1, 1), (123, .if_icmp .ne 46, 3), (126, .aload_n 0, 1), (127, .getfield 13, 3), (130, .iload 4, 2), (132, .aload 6, 2), (134, .iconst 0, 1), (135, .iaload, 1), (136, .iastore, 1), (137, .aload_n 0, 1), (138, .getfield 18, 3), (141, .iload 5, 2), (143, .aconst_null, 1), (144, .aastore, 1), (145, .aload_n 0, 1), (146, .aload_n 0, 1), (147, .getfield 25, 3), (150, .aload_n 0, 1), (151, .dup, 1), (152, .getfield 71, 3), (155, .dup_x1, 1), (156, .iconst 1, 1), (157, .iadd, 1), (158, .putfield 71, 3), (161, .iload 5, 2), (163, .invokestatic 74, 3), (166, .putfield 25, 3), (169, .return_, 1)]
theorem kD17 : own_K prog_102_method_3_code tD17 := by unfold own_K; decide +kernel
def tD18 : List (Nat × Instr × Nat) := [(0, .iload_n 1, 1), (1, .aload_n 0, 1), (2, .arraylength, 1), (3, .if_icmp .ne 13, 3), (16, .aload_n 0, 1), (17, .astore_n 3, 1), (18, .aload_n 3, 1), (19, .iload_n 1, 1), (20, .iload_n 2, 1), (21, .iastore, 1), (22, .aload_n 3, 1), (23, .areturn, 1)]
theorem kD18 : own_K prog_102_method_13_code tD18 := by unfold own_K; decide +kernel
def tD19 : List (Nat × Instr × Nat) := [(0, .aload_n 0, 1), (1, .getfield 7, 3), (4, .arraylength, 1), (5, .iconst 1, 1), (6, .isub, 1), (7, .istore_n 2, 1), (8, .iload_n 1, 1), (9, .istore_n 3, 1), (10, .iload_n 3, 1), (11, .iconst 1, 1), (12, .iadd, 1), (13, .iload_n 2, 1), (14, .iand, 1), (15, .istore 4, 2), (17, .aload_n 0, 1), (18, .getfield 13, 3), (21, .iload 4, 2), (23, .iaload, 1), (24, .ifCond .eq 107, 3), (27, .aload_n 0, 1), (28, .getfield 7, 3), (31, .iload 4, 2), (33, .laload, 1), (34, .l2i, 1), (35, .iload_n 2, 1), (36, .iand, 1), (37, .istore 5, 2), (39, .iload_n 3, 1), (40, .iload 4, 2), (42, .if_icmp .gt 24, 3), (45, .iload_n 3, 1), (46, .iload 5, 2), (48, .if_icmp .ge 14, 3), (51, .iload 5, 2), (53, .iload 4, 2), (55, .if_icmp .gt 7, 3), (58, .iconst 1, 1), (59, .goto 25, 3), (62, .iconst 0, 1), (63, .goto 21, 3), (66, .iload_n 3, 1), (67, .iload 5, 2), (69, .if_icmp .lt 10, 3), (72, .iload 5, 2), (74, .iload 4, 2), (76, .if_icmp .gt 7, 3), (79, .iconst 1, 1), (80, .goto 4, 3), (83, .iconst 0, 1), (84, .istore 6, 2), (86, .iload 6, 2), (88, .ifCond .ne 32, 3), (91, .aload_n 0, 1), (92, .getfield 7, 3), (95, .iload_n 3, 1), (96, .aload_n 0, 1), (97, .getfield 7, 3), (100, .iload 4, 2), (102, .laload, 1), (103, .lastore, 1), (104, .aload_n 0, 1), (105, .getfield 13, 3), (108, .iload_n 3, 1), (109, .aload_n 0, 1), (110, .getfield 13, 3), (113, .iload 4, 2), (115, .iaload, 1), (116, .iastore, 1), (117, .iload 4, 2), (119, .istore_n 3, 1), (120, .iload 4, 2), (122, .iconst 1, 1), (123, .iadd, 1), (124, .iload_n 2, 1), (125, .iand, 1), (126, .istore 4, 2), (128, .goto (-111), 3), (131, .aload_n 0, 1), (132, .getfield 13, 3), (135, .iload_n 3, 1), (136, .iconst 0, 1), (137, .iastore, 1), (138, .aload_n 0, 1), (139, .dup, 1), (140, .getfield 32, 3), (143, .iconst 1, 1), (144, .isub, 1), (145, .putfield 32, 3), (148, .return_, 1)]
theorem kD19 : own_K prog_102_method_7_code tD19 := by unfold own_K; decide +kernel
theorem pn_0 : plainName "com/example/vaxwire/vaxwire/registry/KeyIndex$Table" = true := by first | (simp [plainName, overriddenIn]; done) | decide +kernel
def Q_own_fi1 (Z : State) (ta ka pa : Addr) (qk qp : ClassId) (kl : List Int64) (pl : List Int32) (ky : Int64) (tt : Nat) (h0 : Heap) (n0 : Nat) (v : Option Value) (h : Heap) (L : List Loc) : Prop := v = some (.int (Int32.ofNat (own_q ky tt))) ∧ Fr n0 L ∧ h = h0
set_option maxRecDepth 65536 in
set_option maxHeartbeats 40000000 in
theorem own_fi1 (l : Launch) (Z : State) (a0 : Array Value) (hw : own_HW a0 Z) (ws : List Jvm.Cond) (ta ka pa : Addr) (qk qp : ClassId) (kl : List Int64) (pl : List Int32) (ky : Int64) (tt : Nat) (h0 : Heap) (n0 : Nat) (Z0 : n0 ≤ h0.size) (E_ta : own_Et Z h0 ta) (F_keys_ta : own_Fk Z h0 ta (.ref ka)) (F_places_ta : own_Fp Z h0 ta (.ref pa)) (V_ka : Arv Z h0 ka qk .long (16 : Int32) (kl.map Value.long) (.long (0 : Int64))) (V_pa : Arv Z h0 pa qp .int (16 : Int32) (pl.map Value.int) (.int (0 : Int32))) (hkl : kl.length = 16) (hpl : pl.length = 16) (hpt : own_pth kl pl ky tt) (hq : ¬ pl.getD (own_q ky tt) 0 = 0 ∧ kl.getD (own_q ky tt) 0 = ky) :
    own_Met l Z ⟨"com/example/vaxwire/vaxwire/registry/KeyIndex$Table", "find", "(J)I"⟩ prog_102_method_6_code 5 (some .int) ws ⟨0, 0, 0, 0⟩ #[(.ref ta), (.long ky)] h0 (Q_own_fi1 Z ta ka pa qk qp kl pl ky tt h0 n0) := by
  refine own_bodyN (g0 := fun m => mkF m 0 #[sR ta, sJ ky, .second, .unset, .unset] []) (plainFor_of_name pn_0) (fun _ => rfl) ?_
  intro p e s m below meth c s₁ hx hby hml hrt hlk hown hnm hZ e0 X0
  have D := own_d hby kD8
  have ty_ta_ka : ta ≠ ka := (Exa.neArv E_ta V_ka (w13 hw))
  have ty_ta_pa : ta ≠ pa := (Exa.neArv E_ta V_pa (w13 hw))
  have ty_ka_pa : ka ≠ pa := (own_arr_ne V_ka V_pa (by decide))
  refine own_step (g' := (mkF m 1 #[sR ta, sJ ky, .second, .unset, .unset] [(.ref ta)])) (fun _ q => XS.aloadN X0.here hx rfl (D 0) rfl rfl q) ?_
  refine own_gF X0 hx hZ hown (w20 hw) e0 F_keys_ta rfl rfl (D 1) fun T1 X1 e1 => ?_
  refine own_step (g' := (mkF m 12 #[sR ta, sJ ky, .second, sI 15, .unset] [(.int ((ky.toInt32) &&& (15 : Int32)))])) (fun _ q => own_len X1 hx hZ e1 V_ka (g := (mkF m 4 #[sR ta, sJ ky, .second, .unset, .unset] [(.ref ka)])) rfl rfl (D 2) _ (XS.iconst X1.here hx rfl (D 3) (XS.isub X1.here hx rfl (D 4) rfl (XS.istoreN X1.here hx rfl (D 5) rfl (l' := #[sR ta, sJ ky, .second, sI 15, .unset]) rfl (XT.lloadN X1.here hx rfl (D 6) rfl (XT.l2i X1.here hx rfl (D 7) rfl (XS.iloadN X1.here hx rfl (D 8) rfl (XS.iand X1.here hx rfl (D 9) rfl q)))))))) ?_
  rw [show ((ky.toInt32) &&& (15 : Int32)) = (Int32.ofNat (own_q ky 0)) from (own_q0 ky)]
  refine own_step (g' := (mkF m 14 #[sR ta, sJ ky, .second, sI 15, sI (Int32.ofNat (own_q ky 0))] [])) (fun _ q => XS.istore X1.here hx rfl (D 10) rfl (l' := #[sR ta, sJ ky, .second, sI 15, sI (Int32.ofNat (own_q ky 0))]) rfl q) ?_
  have lp_fl : ∀ (k_fl : Nat) (i : Nat) (T_fl : State) (h_fl : Heap) (L_fl : List Loc) (X_fl : Stand p l e (⟨0, 0, 0, 0⟩ : Room) s m #[(.ref ta), (.long ky)] below meth c T_fl L_fl 0 0) (e_fl : T_fl.heap = h_fl) (N_fl : Fr n0 L_fl) (KL_fl : Keep h0 h_fl [])  (hqh : h_fl = h0) (hi : i ≤ tt) (hk_fl : tt - i = k_fl), own_Fin p e below (own_G s (Q_own_fi1 Z ta ka pa qk qp kl pl ky tt h0 n0) (⟨0, 0, 0, 0⟩ : Room).cells (⟨0, 0, 0, 0⟩ : Room).slots) T_fl (mkF m 14 #[sR ta, sJ ky, .second, sI 15, sI (Int32.ofNat (own_q ky i))] []) := by
    intro k_fl
    induction k_fl using Nat.strongRecOn with | _ k_fl ih_fl => ?_
    intro i T_fl h_fl L_fl X_fl e_fl N_fl KL_fl  hqh hi hk_fl
    subst hk_fl
    rcases Nat.lt_or_eq_of_le hi with hin | hit
    · refine own_step (g' := (mkF m 15 #[sR ta, sJ ky, .second, sI 15, sI (Int32.ofNat (own_q ky i))] [(.ref ta)])) (fun _ q => XS.aloadN X_fl.here hx rfl (D 11) rfl rfl q) ?_
      have c2 := (F_places_ta.keep KL_fl nin0)
      refine own_gF X_fl hx hZ hown (w23 hw) e_fl c2 rfl rfl (D 12) fun T3 X3 e3 => ?_
      refine own_step (g' := (mkF m 20 #[sR ta, sJ ky, .second, sI 15, sI (Int32.ofNat (own_q ky i))] [(.int (Int32.ofNat (own_q ky i))), (.ref pa)])) (fun _ q => XS.iload X3.here hx rfl (D 13) rfl q) ?_
      have c4 := (V_pa.keep KL_fl nin0)
      refine own_step (g' := (mkF m 21 #[sR ta, sJ ky, .second, sI 15, sI (Int32.ofNat (own_q ky i))] [(.int (pl.getD (own_q ky i) 0))])) (fun _ q => own_ldI X3 hx hZ e3 c4 (j := (Int32.ofNat (own_q ky i))) (own_qin (own_qlt ky i)) (v := (.int (pl.getD (own_q ky i) 0))) (by rw [own_nat (by have := (own_qlt ky i); omega)]; exact own_mapD (by rw [hpl]; exact (own_qlt ky i))) (g := (mkF m 20 #[sR ta, sJ ky, .second, sI 15, sI (Int32.ofNat (own_q ky i))] [(.int (Int32.ofNat (own_q ky i))), (.ref pa)])) rfl rfl (D 14) _ q) ?_
      have hc5 : ¬ ((pl.getD (own_q ky i) 0) = 0) := (hpt i hin).1
      refine own_step (g' := (mkF m 31 #[sR ta, sJ ky, .second, sI 15, sI (Int32.ofNat (own_q ky i))] [(.ref ta)])) (fun _ q => XS.ifYes X3.here hx rfl (pc0 := 21) (pc' := 30) rfl (D 15) rfl (XT.i0_ne_t hc5) (by decide) (by decide) (XS.aloadN X3.here hx rfl (D 21) rfl rfl q)) ?_
      have c6 := (F_keys_ta.keep KL_fl nin0)
      refine own_gF X3 hx hZ hown (w20 hw) e3 c6 rfl rfl (D 22) fun T7 X7 e7 => ?_
      refine own_step (g' := (mkF m 36 #[sR ta, sJ ky, .second, sI 15, sI (Int32.ofNat (own_q ky i))] [(.int (Int32.ofNat (own_q ky i))), (.ref ka)])) (fun _ q => XS.iload X7.here hx rfl (D 23) rfl q) ?_
      have c8 := (V_ka.keep KL_fl nin0)
      refine own_step (g' := (mkF m 39 #[sR ta, sJ ky, .second, sI 15, sI (Int32.ofNat (own_q ky i))] [(.int (XT.cmpL (kl.getD (own_q ky i) 0) ky))])) (fun _ q => own_ldJ X7 hx hZ e7 c8 (j := (Int32.ofNat (own_q ky i))) (own_qin (own_qlt ky i)) (v := (.long (kl.getD (own_q ky i) 0))) (by rw [own_nat (by have := (own_qlt ky i); omega)]; exact own_mapL (by rw [hkl]; exact (own_qlt ky i))) (g := (mkF m 36 #[sR ta, sJ ky, .second, sI 15, sI (Int32.ofNat (own_q ky i))] [(.int (Int32.ofNat (own_q ky i))), (.ref ka)])) rfl rfl (D 24) _ (XT.lloadN X7.here hx rfl (D 25) rfl (XT.lcmp X7.here hx rfl (D 26) rfl q))) ?_
      have hc9 : ¬ ((kl.getD (own_q ky i) 0) = ky) := (hpt i hin).2
      refine own_step (g' := (mkF m 51 #[sR ta, sJ ky, .second, sI 15, sI (Int32.ofNat (own_q ky i))] [(.int (((Int32.ofNat (own_q ky i)) + (1 : Int32)) &&& (15 : Int32)))])) (fun _ q => XS.ifYes X7.here hx rfl (pc0 := 39) (pc' := 45) rfl (D 27) rfl (XT.ll_ne_t hc9) (by decide) (by decide) (XS.iload X7.here hx rfl (D 30) rfl (XS.iconst X7.here hx rfl (D 31) (XS.iadd X7.here hx rfl (D 32) rfl (XS.iloadN X7.here hx rfl (D 33) rfl (XS.iand X7.here hx rfl (D 34) rfl q)))))) ?_
      rw [show (((Int32.ofNat (own_q ky i)) + (1 : Int32)) &&& (15 : Int32)) = (Int32.ofNat (own_q ky (i + 1))) from (own_qn ky i)]
      refine own_step (g' := (mkF m 14 #[sR ta, sJ ky, .second, sI 15, sI (Int32.ofNat (own_q ky (i + 1)))] [])) (fun _ q => XS.istore X7.here hx rfl (D 35) rfl (l' := #[sR ta, sJ ky, .second, sI 15, sI (Int32.ofNat (own_q ky (i + 1)))]) rfl (XS.goto X7.here hx rfl (pc0 := 53) (pc' := 14) rfl (D 36) (by decide) (by decide) q)) ?_
      exact ih_fl _ (by omega) (i + 1) T7 h_fl _ X7 e7 N_fl KL_fl  (hqh) (by omega) rfl
    · refine own_step (g' := (mkF m 15 #[sR ta, sJ ky, .second, sI 15, sI (Int32.ofNat (own_q ky i))] [(.ref ta)])) (fun _ q => XS.aloadN X_fl.here hx rfl (D 11) rfl rfl q) ?_
      have c10 := (F_places_ta.keep KL_fl nin0)
      refine own_gF X_fl hx hZ hown (w23 hw) e_fl c10 rfl rfl (D 12) fun T11 X11 e11 => ?_
      refine own_step (g' := (mkF m 20 #[sR ta, sJ ky, .second, sI 15, sI (Int32.ofNat (own_q ky i))] [(.int (Int32.ofNat (own_q ky i))), (.ref pa)])) (fun _ q => XS.iload X11.here hx rfl (D 13) rfl q) ?_
      have c12 := (V_pa.keep KL_fl nin0)
      refine own_step (g' := (mkF m 21 #[sR ta, sJ ky, .second, sI 15, sI (Int32.ofNat (own_q ky i))] [(.int (pl.getD (own_q ky i) 0))])) (fun _ q => own_ldI X11 hx hZ e11 c12 (j := (Int32.ofNat (own_q ky i))) (own_qin (own_qlt ky i)) (v := (.int (pl.getD (own_q ky i) 0))) (by rw [own_nat (by have := (own_qlt ky i); omega)]; exact own_mapD (by rw [hpl]; exact (own_qlt ky i))) (g := (mkF m 20 #[sR ta, sJ ky, .second, sI 15, sI (Int32.ofNat (own_q ky i))] [(.int (Int32.ofNat (own_q ky i))), (.ref pa)])) rfl rfl (D 14) _ q) ?_
      have hc13 : ¬ ((pl.getD (own_q ky i) 0) = 0) := (by rw [hit]; exact hq.1)
      refine own_step (g' := (mkF m 31 #[sR ta, sJ ky, .second, sI 15, sI (Int32.ofNat (own_q ky i))] [(.ref ta)])) (fun _ q => XS.ifYes X11.here hx rfl (pc0 := 21) (pc' := 30) rfl (D 15) rfl (XT.i0_ne_t hc13) (by decide) (by decide) (XS.aloadN X11.here hx rfl (D 21) rfl rfl q)) ?_
      have c14 := (F_keys_ta.keep KL_fl nin0)
      refine own_gF X11 hx hZ hown (w20 hw) e11 c14 rfl rfl (D 22) fun T15 X15 e15 => ?_
      refine own_step (g' := (mkF m 36 #[sR ta, sJ ky, .second, sI 15, sI (Int32.ofNat (own_q ky i))] [(.int (Int32.ofNat (own_q ky i))), (.ref ka)])) (fun _ q => XS.iload X15.here hx rfl (D 23) rfl q) ?_
      have c16 := (V_ka.keep KL_fl nin0)
      refine own_step (g' := (mkF m 39 #[sR ta, sJ ky, .second, sI 15, sI (Int32.ofNat (own_q ky i))] [(.int (XT.cmpL (kl.getD (own_q ky i) 0) ky))])) (fun _ q => own_ldJ X15 hx hZ e15 c16 (j := (Int32.ofNat (own_q ky i))) (own_qin (own_qlt ky i)) (v := (.long (kl.getD (own_q ky i) 0))) (by rw [own_nat (by have := (own_qlt ky i); omega)]; exact own_mapL (by rw [hkl]; exact (own_qlt ky i))) (g := (mkF m 36 #[sR ta, sJ ky, .second, sI 15, sI (Int32.ofNat (own_q ky i))] [(.int (Int32.ofNat (own_q ky i))), (.ref ka)])) rfl rfl (D 24) _ (XT.lloadN X15.here hx rfl (D 25) rfl (XT.lcmp X15.here hx rfl (D 26) rfl q))) ?_
      have hc17 : ((kl.getD (own_q ky i) 0) = ky) := (by rw [hit]; exact hq.2)
      refine own_step (g' := (mkF m 44 #[sR ta, sJ ky, .second, sI 15, sI (Int32.ofNat (own_q ky i))] [(.int (Int32.ofNat (own_q ky i)))])) (fun _ q => XS.ifNo X15.here hx rfl (D 27) rfl (XT.ll_ne_f hc17) (XS.iload X15.here hx rfl (D 28) rfl q)) ?_
      exact own_retI X15 hx hrt (D 29) hlk ⟨(by rw [hit]), N_fl, (e15.trans hqh)⟩ (by decide) (by decide)
  exact lp_fl _ (0) T1 h0 _ X1 e1 (Fr.nil n0) (Keep.refl h0 [])  (rfl) (Nat.zero_le _) rfl
def Q_own_fi0 (Z : State) (ta ka pa : Addr) (qk qp : ClassId) (kl : List Int64) (pl : List Int32) (ky : Int64) (tt : Nat) (h0 : Heap) (n0 : Nat) (v : Option Value) (h : Heap) (L : List Loc) : Prop := v = some (.int ((-(Int32.ofNat (own_q ky tt))) - (1 : Int32))) ∧ Fr n0 L ∧ h = h0
set_option maxRecDepth 65536 in
set_option maxHeartbeats 40000000 in
theorem own_fi0 (l : Launch) (Z : State) (a0 : Array Value) (hw : own_HW a0 Z) (ws : List Jvm.Cond) (ta ka pa : Addr) (qk qp : ClassId) (kl : List Int64) (pl : List Int32) (ky : Int64) (tt : Nat) (h0 : Heap) (n0 : Nat) (Z0 : n0 ≤ h0.size) (E_ta : own_Et Z h0 ta) (F_keys_ta : own_Fk Z h0 ta (.ref ka)) (F_places_ta : own_Fp Z h0 ta (.ref pa)) (V_ka : Arv Z h0 ka qk .long (16 : Int32) (kl.map Value.long) (.long (0 : Int64))) (V_pa : Arv Z h0 pa qp .int (16 : Int32) (pl.map Value.int) (.int (0 : Int32))) (hkl : kl.length = 16) (hpl : pl.length = 16) (hpt : own_pth kl pl ky tt) (hq : pl.getD (own_q ky tt) 0 = 0) :
    own_Met l Z ⟨"com/example/vaxwire/vaxwire/registry/KeyIndex$Table", "find", "(J)I"⟩ prog_102_method_6_code 5 (some .int) ws ⟨0, 0, 0, 0⟩ #[(.ref ta), (.long ky)] h0 (Q_own_fi0 Z ta ka pa qk qp kl pl ky tt h0 n0) := by
  refine own_bodyN (g0 := fun m => mkF m 0 #[sR ta, sJ ky, .second, .unset, .unset] []) (plainFor_of_name pn_0) (fun _ => rfl) ?_
  intro p e s m below meth c s₁ hx hby hml hrt hlk hown hnm hZ e0 X0
  have D := own_d hby kD8
  have ty_ta_ka : ta ≠ ka := (Exa.neArv E_ta V_ka (w13 hw))
  have ty_ta_pa : ta ≠ pa := (Exa.neArv E_ta V_pa (w13 hw))
  have ty_ka_pa : ka ≠ pa := (own_arr_ne V_ka V_pa (by decide))
  refine own_step (g' := (mkF m 1 #[sR ta, sJ ky, .second, .unset, .unset] [(.ref ta)])) (fun _ q => XS.aloadN X0.here hx rfl (D 0) rfl rfl q) ?_
  refine own_gF X0 hx hZ hown (w20 hw) e0 F_keys_ta rfl rfl (D 1) fun T18 X18 e18 => ?_
  refine own_step (g' := (mkF m 12 #[sR ta, sJ ky, .second, sI 15, .unset] [(.int ((ky.toInt32) &&& (15 : Int32)))])) (fun _ q => own_len X18 hx hZ e18 V_ka (g := (mkF m 4 #[sR ta, sJ ky, .second, .unset, .unset] [(.ref ka)])) rfl rfl (D 2) _ (XS.iconst X18.here hx rfl (D 3) (XS.isub X18.here hx rfl (D 4) rfl (XS.istoreN X18.here hx rfl (D 5) rfl (l' := #[sR ta, sJ ky, .second, sI 15, .unset]) rfl (XT.lloadN X18.here hx rfl (D 6) rfl (XT.l2i X18.here hx rfl (D 7) rfl (XS.iloadN X18.here hx rfl (D 8) rfl (XS.iand X18.here hx rfl (D 9) rfl q)))))))) ?_
  rw [show ((ky.toInt32) &&& (15 : Int32)) = (Int32.ofNat (own_q ky 0)) from (own_q0 ky)]
  refine own_step (g' := (mkF m 14 #[sR ta, sJ ky, .second, sI 15, sI (Int32.ofNat (own_q ky 0))] [])) (fun _ q => XS.istore X18.here hx rfl (D 10) rfl (l' := #[sR ta, sJ ky, .second, sI 15, sI (Int32.ofNat (own_q ky 0))]) rfl q) ?_
  have lp_fl : ∀ (k_fl : Nat) (i : Nat) (T_fl : State) (h_fl : Heap) (L_fl : List Loc) (X_fl : Stand p l e (⟨0, 0, 0, 0⟩ : Room) s m #[(.ref ta), (.long ky)] below meth c T_fl L_fl 0 0) (e_fl : T_fl.heap = h_fl) (N_fl : Fr n0 L_fl) (KL_fl : Keep h0 h_fl [])  (hqh : h_fl = h0) (hi : i ≤ tt) (hk_fl : tt - i = k_fl), own_Fin p e below (own_G s (Q_own_fi0 Z ta ka pa qk qp kl pl ky tt h0 n0) (⟨0, 0, 0, 0⟩ : Room).cells (⟨0, 0, 0, 0⟩ : Room).slots) T_fl (mkF m 14 #[sR ta, sJ ky, .second, sI 15, sI (Int32.ofNat (own_q ky i))] []) := by
    intro k_fl
    induction k_fl using Nat.strongRecOn with | _ k_fl ih_fl => ?_
    intro i T_fl h_fl L_fl X_fl e_fl N_fl KL_fl  hqh hi hk_fl
    subst hk_fl
    rcases Nat.lt_or_eq_of_le hi with hin | hit
    · refine own_step (g' := (mkF m 15 #[sR ta, sJ ky, .second, sI 15, sI (Int32.ofNat (own_q ky i))] [(.ref ta)])) (fun _ q => XS.aloadN X_fl.here hx rfl (D 11) rfl rfl q) ?_
      have c19 := (F_places_ta.keep KL_fl nin0)
      refine own_gF X_fl hx hZ hown (w23 hw) e_fl c19 rfl rfl (D 12) fun T20 X20 e20 => ?_
      refine own_step (g' := (mkF m 20 #[sR ta, sJ ky, .second, sI 15, sI (Int32.ofNat (own_q ky i))] [(.int (Int32.ofNat (own_q ky i))), (.ref pa)])) (fun _ q => XS.iload X20.here hx rfl (D 13) rfl q) ?_
      have c21 := (V_pa.keep KL_fl nin0)
      refine own_step (g' := (mkF m 21 #[sR ta, sJ ky, .second, sI 15, sI (Int32.ofNat (own_q ky i))] [(.int (pl.getD (own_q ky i) 0))])) (fun _ q => own_ldI X20 hx hZ e20 c21 (j := (Int32.ofNat (own_q ky i))) (own_qin (own_qlt ky i)) (v := (.int (pl.getD (own_q ky i) 0))) (by rw [own_nat (by have := (own_qlt ky i); omega)]; exact own_mapD (by rw [hpl]; exact (own_qlt ky i))) (g := (mkF m 20 #[sR ta, sJ ky, .second, sI 15, sI (Int32.ofNat (own_q ky i))] [(.int (Int32.ofNat (own_q ky i))), (.ref pa)])) rfl rfl (D 14) _ q) ?_
      have hc22 : ¬ ((pl.getD (own_q ky i) 0) = 0) := (hpt i hin).1
      refine own_step (g' := (mkF m 31 #[sR ta, sJ ky, .second, sI 15, sI (Int32.ofNat (own_q ky i))] [(.ref ta)])) (fun _ q => XS.ifYes X20.here hx rfl (pc0 := 21) (pc' := 30) rfl (D 15) rfl (XT.i0_ne_t hc22) (by decide) (by decide) (XS.aloadN X20.here hx rfl (D 21) rfl rfl q)) ?_
      have c23 := (F_keys_ta.keep KL_fl nin0)
      refine own_gF X20 hx hZ hown (w20 hw) e20 c23 rfl rfl (D 22) fun T24 X24 e24 => ?_
      refine own_step (g' := (mkF m 36 #[sR ta, sJ ky, .second, sI 15, sI (Int32.ofNat (own_q ky i))] [(.int (Int32.ofNat (own_q ky i))), (.ref ka)])) (fun _ q => XS.iload X24.here hx rfl (D 23) rfl q) ?_
      have c25 := (V_ka.keep KL_fl nin0)
      refine own_step (g' := (mkF m 39 #[sR ta, sJ ky, .second, sI 15, sI (Int32.ofNat (own_q ky i))] [(.int (XT.cmpL (kl.getD (own_q ky i) 0) ky))])) (fun _ q => own_ldJ X24 hx hZ e24 c25 (j := (Int32.ofNat (own_q ky i))) (own_qin (own_qlt ky i)) (v := (.long (kl.getD (own_q ky i) 0))) (by rw [own_nat (by have := (own_qlt ky i); omega)]; exact own_mapL (by rw [hkl]; exact (own_qlt ky i))) (g := (mkF m 36 #[sR ta, sJ ky, .second, sI 15, sI (Int32.ofNat (own_q ky i))] [(.int (Int32.ofNat (own_q ky i))), (.ref ka)])) rfl rfl (D 24) _ (XT.lloadN X24.here hx rfl (D 25) rfl (XT.lcmp X24.here hx rfl (D 26) rfl q))) ?_
      have hc26 : ¬ ((kl.getD (own_q ky i) 0) = ky) := (hpt i hin).2
      refine own_step (g' := (mkF m 51 #[sR ta, sJ ky, .second, sI 15, sI (Int32.ofNat (own_q ky i))] [(.int (((Int32.ofNat (own_q ky i)) + (1 : Int32)) &&& (15 : Int32)))])) (fun _ q => XS.ifYes X24.here hx rfl (pc0 := 39) (pc' := 45) rfl (D 27) rfl (XT.ll_ne_t hc26) (by decide) (by decide) (XS.iload X24.here hx rfl (D 30) rfl (XS.iconst X24.here hx rfl (D 31) (XS.iadd X24.here hx rfl (D 32) rfl (XS.iloadN X24.here hx rfl (D 33) rfl (XS.iand X24.here hx rfl (D 34) rfl q)))))) ?_
      rw [show (((Int32.ofNat (own_q ky i)) + (1 : Int32)) &&& (15 : Int32)) = (Int32.ofNat (own_q ky (i + 1))) from (own_qn ky i)]
      refine own_step (g' := (mkF m 14 #[sR ta, sJ ky, .second, sI 15, sI (Int32.ofNat (own_q ky (i + 1)))] [])) (fun _ q => XS.istore X24.here hx rfl (D 35) rfl (l' := #[sR ta, sJ ky, .second, sI 15, sI (Int32.ofNat (own_q ky (i + 1)))]) rfl (XS.goto X24.here hx rfl (pc0 := 53) (pc' := 14) rfl (D 36) (by decide) (by decide) q)) ?_
      exact ih_fl _ (by omega) (i + 1) T24 h_fl _ X24 e24 N_fl KL_fl  (hqh) (by omega) rfl
    · refine own_step (g' := (mkF m 15 #[sR ta, sJ ky, .second, sI 15, sI (Int32.ofNat (own_q ky i))] [(.ref ta)])) (fun _ q => XS.aloadN X_fl.here hx rfl (D 11) rfl rfl q) ?_
      have c27 := (F_places_ta.keep KL_fl nin0)
      refine own_gF X_fl hx hZ hown (w23 hw) e_fl c27 rfl rfl (D 12) fun T28 X28 e28 => ?_
      refine own_step (g' := (mkF m 20 #[sR ta, sJ ky, .second, sI 15, sI (Int32.ofNat (own_q ky i))] [(.int (Int32.ofNat (own_q ky i))), (.ref pa)])) (fun _ q => XS.iload X28.here hx rfl (D 13) rfl q) ?_
      have c29 := (V_pa.keep KL_fl nin0)
      refine own_step (g' := (mkF m 21 #[sR ta, sJ ky, .second, sI 15, sI (Int32.ofNat (own_q ky i))] [(.int (pl.getD (own_q ky i) 0))])) (fun _ q => own_ldI X28 hx hZ e28 c29 (j := (Int32.ofNat (own_q ky i))) (own_qin (own_qlt ky i)) (v := (.int (pl.getD (own_q ky i) 0))) (by rw [own_nat (by have := (own_qlt ky i); omega)]; exact own_mapD (by rw [hpl]; exact (own_qlt ky i))) (g := (mkF m 20 #[sR ta, sJ ky, .second, sI 15, sI (Int32.ofNat (own_q ky i))] [(.int (Int32.ofNat (own_q ky i))), (.ref pa)])) rfl rfl (D 14) _ q) ?_
      have hc30 : ((pl.getD (own_q ky i) 0) = 0) := (by rw [hit]; exact hq)
      refine own_step (g' := (mkF m 29 #[sR ta, sJ ky, .second, sI 15, sI (Int32.ofNat (own_q ky i))] [(.int ((-(Int32.ofNat (own_q ky i))) - (1 : Int32)))])) (fun _ q => XS.ifNo X28.here hx rfl (D 15) rfl (XT.i0_ne_f hc30) (XS.iload X28.here hx rfl (D 16) rfl (XS.ineg X28.here hx rfl (D 17) rfl (XS.iconst X28.here hx rfl (D 18) (XS.isub X28.here hx rfl (D 19) rfl q))))) ?_
      exact own_retI X28 hx hrt (D 20) hlk ⟨(by rw [hit]), N_fl, (e28.trans hqh)⟩ (by decide) (by decide)
  exact lp_fl _ (0) T18 h0 _ X18 e18 (Fr.nil n0) (Keep.refl h0 [])  (rfl) (Nat.zero_le _) rfl
theorem pd_0 : parseMethodDescriptor "(J)I" = some ⟨[.long], some .int⟩ := by decide +kernel
def Q_own_ad0 (Z : State) (ta ka pa la sa fa : Addr) (qk qp : ClassId) (kl : List Int64) (pl : List Int32) (u : Nat) (lc : Int32) (ky : Int64) (jd : Int32) (tt : Nat) (h0 : Heap) (n0 : Nat) (v : Option Value) (h : Heap) (L : List Loc) : Prop := v = none ∧ Fr n0 L ∧ Keep h0 h [ta, ka, pa] ∧ own_Et Z h ta ∧ own_Fk Z h ta (.ref ka) ∧ own_Fp Z h ta (.ref pa) ∧ own_Fu Z h ta (.int (Int32.ofNat (u + 1))) ∧ own_Fl Z h ta (.ref la) ∧ own_Fs Z h ta (.ref sa) ∧ own_Ff Z h ta (.ref fa) ∧ own_Fc Z h ta (.int (0 : Int32)) ∧ own_Fn Z h ta (.int lc) ∧ Arv Z h ka qk .long (16 : Int32) ((kl.set (own_q ky tt) ky).map Value.long) (.long (0 : Int64)) ∧ Arv Z h pa qp .int (16 : Int32) ((pl.set (own_q ky tt) jd).map Value.int) (.int (0 : Int32))
set_option maxRecDepth 65536 in
set_option maxHeartbeats 40000000 in
theorem own_ad0 (l : Launch) (Z : State) (a0 : Array Value) (hw : own_HW a0 Z) (ws : List Jvm.Cond) (ta ka pa la sa fa : Addr) (qk qp : ClassId) (kl : List Int64) (pl : List Int32) (u : Nat) (lc : Int32) (ky : Int64) (jd : Int32) (tt : Nat) (h0 : Heap) (n0 : Nat) (Z0 : n0 ≤ h0.size) (E_ta : own_Et Z h0 ta) (F_keys_ta : own_Fk Z h0 ta (.ref ka)) (F_places_ta : own_Fp Z h0 ta (.ref pa)) (F_used_ta : own_Fu Z h0 ta (.int (Int32.ofNat u))) (F_lists_ta : own_Fl Z h0 ta (.ref la)) (F_listSizes_ta : own_Fs Z h0 ta (.ref sa)) (F_freeLists_ta : own_Ff Z h0 ta (.ref fa)) (F_freeCount_ta : own_Fc Z h0 ta (.int (0 : Int32))) (F_listCount_ta : own_Fn Z h0 ta (.int lc)) (V_ka : Arv Z h0 ka qk .long (16 : Int32) (kl.map Value.long) (.long (0 : Int64))) (V_pa : Arv Z h0 pa qp .int (16 : Int32) (pl.map Value.int) (.int (0 : Int32))) (ge_ta : n0 ≤ ta) (ge_ka : n0 ≤ ka) (ge_pa : n0 ≤ pa) (hkl : kl.length = 16) (hpl : pl.length = 16) (hpt : own_pth kl pl ky tt) (hq : pl.getD (own_q ky tt) 0 = 0) (hu : u ≤ 2) :
    own_Met l Z ⟨"com/example/vaxwire/vaxwire/registry/KeyIndex$Table", "add", "(JI)V"⟩ prog_102_method_2_code 6 none ws ⟨1, 0, 0, 16⟩ #[(.ref ta), (.long ky), (.int jd)] h0 (Q_own_ad0 Z ta ka pa la sa fa qk qp kl pl u lc ky jd tt h0 n0) := by
  refine own_bodyN (g0 := fun m => mkF m 0 #[sR ta, sJ ky, .second, sI jd, .unset, .unset] []) (plainFor_of_name pn_0) (fun _ => rfl) ?_
  intro p e s m below meth c s₁ hx hby hml hrt hlk hown hnm hZ e0 X0
  have D := own_d hby kD7
  have ty_ta_ka : ta ≠ ka := (Exa.neArv E_ta V_ka (w13 hw))
  have ty_ta_pa : ta ≠ pa := (Exa.neArv E_ta V_pa (w13 hw))
  have ty_ka_pa : ka ≠ pa := (own_arr_ne V_ka V_pa (by decide))
  refine own_step (g' := (mkF m 2 #[sR ta, sJ ky, .second, sI jd, .unset, .unset] [(.long ky), (.ref ta)])) (fun _ q => XS.aloadN X0.here hx rfl (D 0) rfl rfl (XT.lloadN X0.here hx rfl (D 1) rfl q)) ?_
  refine own_callQ X0 hx hZ hown (w55 hw) (w56 hw) (w13 hw) (w57 hw) (w58 hw) (by decide) (own_bO (W := 0) (own_fi0 l Z a0 hw [] ta ka pa qk qp kl pl ky tt h0 n0 Z0 E_ta F_keys_ta F_places_ta V_ka V_pa hkl hpl hpt hq) hZ (w58 hw) (w14 hw) rfl rfl) e0 E_ta  (by decide) (by decide) (argsL := [(.long ky)]) (rest := []) rfl hml.symm (lenOf pd_0 rfl) rfl rfl (own_w0 rfl rfl) (D 2) ?_
  rintro _ T31 L31 X31 ⟨rfl, N31q, e31⟩
  have N32 := Fr.app (Fr.nil n0) N31q
  refine own_step (g' := (mkF m 9 #[sR ta, sJ ky, .second, sI jd, sI ((-(Int32.ofNat (own_q ky tt))) - (1 : Int32)), .unset] [(.int ((-(Int32.ofNat (own_q ky tt))) - (1 : Int32)))])) (fun _ q => XS.istore X31.here hx rfl (D 3) rfl (l' := #[sR ta, sJ ky, .second, sI jd, sI ((-(Int32.ofNat (own_q ky tt))) - (1 : Int32)), .unset]) rfl (XS.iload X31.here hx rfl (D 4) rfl q)) ?_
  have hc33 : (((-(Int32.ofNat (own_q ky tt))) - (1 : Int32)) < 0) := (own_ng (own_qlt ky tt))
  refine own_step (g' := (mkF m 14 #[sR ta, sJ ky, .second, sI jd, sI ((-(Int32.ofNat (own_q ky tt))) - (1 : Int32)), .unset] [(.ref ta), (.int 4)])) (fun _ q => XS.ifNo X31.here hx rfl (D 5) rfl (XT.i0_ge_f hc33) (XS.iconst X31.here hx rfl (D 6) (XS.aloadN X31.here hx rfl (D 7) rfl rfl q))) ?_
  refine own_gF X31 hx hZ hown (w59 hw) e31 F_used_ta rfl rfl (D 8) fun T34 X34 e34 => ?_
  refine own_step (g' := (mkF m 22 #[sR ta, sJ ky, .second, sI jd, sI ((-(Int32.ofNat (own_q ky tt))) - (1 : Int32)), .unset] [(.ref ta), (.int 3), (.int ((4 : Int32) * ((Int32.ofNat u) + (1 : Int32))))])) (fun _ q => XS.iconst X34.here hx rfl (D 9) (XS.iadd X34.here hx rfl (D 10) rfl (XS.imul X34.here hx rfl (D 11) rfl (XS.iconst X34.here hx rfl (D 12) (XS.aloadN X34.here hx rfl (D 13) rfl rfl q))))) ?_
  refine own_gF X34 hx hZ hown (w20 hw) e34 F_keys_ta rfl rfl (D 14) fun T35 X35 e35 => ?_
  refine own_step (g' := (mkF m 27 #[sR ta, sJ ky, .second, sI jd, sI ((-(Int32.ofNat (own_q ky tt))) - (1 : Int32)), .unset] [(.int 48), (.int ((4 : Int32) * ((Int32.ofNat u) + (1 : Int32))))])) (fun _ q => own_len X35 hx hZ e35 V_ka (g := (mkF m 25 #[sR ta, sJ ky, .second, sI jd, sI ((-(Int32.ofNat (own_q ky tt))) - (1 : Int32)), .unset] [(.ref ka), (.int 3), (.int ((4 : Int32) * ((Int32.ofNat u) + (1 : Int32))))])) rfl rfl (D 15) _ (XS.imul X35.here hx rfl (D 16) rfl q)) ?_
  have hc36 : ¬ ((48 : Int32) < ((4 : Int32) * ((Int32.ofNat u) + (1 : Int32)))) := (own_u48 hu)
  refine own_step (g' := (mkF m 46 #[sR ta, sJ ky, .second, sI jd, sI ((-(Int32.ofNat (own_q ky tt))) - (1 : Int32)), .unset] [(.int ((-((-(Int32.ofNat (own_q ky tt))) - (1 : Int32))) - (1 : Int32)))])) (fun _ q => XS.icmpYes X35.here hx rfl (pc0 := 27) (pc' := 41) rfl (D 17) rfl (XT.ii_le_t hc36) (by decide) (by decide) (XS.iload X35.here hx rfl (D 18) rfl (XS.ineg X35.here hx rfl (D 19) rfl (XS.iconst X35.here hx rfl (D 20) (XS.isub X35.here hx rfl (D 21) rfl q))))) ?_
  rw [show ((-((-(Int32.ofNat (own_q ky tt))) - (1 : Int32))) - (1 : Int32)) = (Int32.ofNat (own_q ky tt)) from (own_nn (own_qlt ky tt))]
  refine own_step (g' := (mkF m 49 #[sR ta, sJ ky, .second, sI jd, sI (Int32.ofNat (own_q ky tt)), .unset] [(.ref ta)])) (fun _ q => XS.istore X35.here hx rfl (D 22) rfl (l' := #[sR ta, sJ ky, .second, sI jd, sI (Int32.ofNat (own_q ky tt)), .unset]) rfl (XS.aloadN X35.here hx rfl (D 23) rfl rfl q)) ?_
  refine own_gF X35 hx hZ hown (w20 hw) e35 F_keys_ta rfl rfl (D 24) fun T37 X37 e37 => ?_
  refine own_step (g' := (mkF m 55 #[sR ta, sJ ky, .second, sI jd, sI (Int32.ofNat (own_q ky tt)), .unset] [(.long ky), (.int (Int32.ofNat (own_q ky tt))), (.ref ka)])) (fun _ q => XS.iload X37.here hx rfl (D 25) rfl (XT.lloadN X37.here hx rfl (D 26) rfl q)) ?_
  obtain ⟨T38, h38, X38, e38, W38, V38, st38⟩ := own_stJ X37 hx hZ e37 V_ka (j := (Int32.ofNat (own_q ky tt))) (own_qin (own_qlt ky tt)) (i := (own_q ky tt)) (own_nat (by have := (own_qlt ky tt); omega)) (by rw [List.length_map, hkl]; exact (own_qlt ky tt)) (g := (mkF m 55 #[sR ta, sJ ky, .second, sI jd, sI (Int32.ofNat (own_q ky tt)), .unset] [(.long ky), (.int (Int32.ofNat (own_q ky tt))), (.ref ka)])) rfl rfl (D 27)
  have N39 := Fr.snoc X38 N32 ge_ka
  refine own_step (T' := T38) (g' := (mkF m 56 #[sR ta, sJ ky, .second, sI jd, sI (Int32.ofNat (own_q ky tt)), .unset] [])) st38 ?_
  have qV40 : (((kl.map Value.long).set (own_q ky tt) (.long ky)) : List Value) = ((kl.set (own_q ky tt) ky).map Value.long) := (by rw [List.map_set])
  have V40 : Arv Z h38 ka qk .long (16 : Int32) ((kl.set (own_q ky tt) ky).map Value.long) (.long (0 : Int64)) := own_fixv qV40 V38
  refine own_step (g' := (mkF m 57 #[sR ta, sJ ky, .second, sI jd, sI (Int32.ofNat (own_q ky tt)), .unset] [(.ref ta)])) (fun _ q => XS.aloadN X38.here hx rfl (D 28) rfl rfl q) ?_
  have c41 := (F_places_ta.other W38 (Or.inl ty_ta_ka))
  refine own_gF X38 hx hZ hown (w23 hw) e38 c41 rfl rfl (D 29) fun T42 X42 e42 => ?_
  refine own_step (g' := (mkF m 63 #[sR ta, sJ ky, .second, sI jd, sI (Int32.ofNat (own_q ky tt)), .unset] [(.int jd), (.int (Int32.ofNat (own_q ky tt))), (.ref pa)])) (fun _ q => XS.iload X42.here hx rfl (D 30) rfl (XS.iloadN X42.here hx rfl (D 31) rfl q)) ?_
  have c43 := (V_pa.other W38 (Ne.symm ty_ka_pa))
  obtain ⟨T44, h44, X44, e44, W44, V44, st44⟩ := own_stI X42 hx hZ e42 c43 (j := (Int32.ofNat (own_q ky tt))) (own_qin (own_qlt ky tt)) (i := (own_q ky tt)) (own_nat (by have := (own_qlt ky tt); omega)) (by rw [List.length_map, hpl]; exact (own_qlt ky tt)) (g := (mkF m 63 #[sR ta, sJ ky, .second, sI jd, sI (Int32.ofNat (own_q ky tt)), .unset] [(.int jd), (.int (Int32.ofNat (own_q ky tt))), (.ref pa)])) rfl rfl (D 32)
  have N45 := Fr.snoc X44 N39 ge_pa
  refine own_step (T' := T44) (g' := (mkF m 64 #[sR ta, sJ ky, .second, sI jd, sI (Int32.ofNat (own_q ky tt)), .unset] [])) st44 ?_
  have qV46 : (((pl.map Value.int).set (own_q ky tt) (.int jd)) : List Value) = ((pl.set (own_q ky tt) jd).map Value.int) := (by rw [List.map_set])
  have V46 : Arv Z h44 pa qp .int (16 : Int32) ((pl.set (own_q ky tt) jd).map Value.int) (.int (0 : Int32)) := own_fixv qV46 V44
  refine own_step (g' := (mkF m 66 #[sR ta, sJ ky, .second, sI jd, sI (Int32.ofNat (own_q ky tt)), .unset] [(.ref ta), (.ref ta)])) (fun _ q => XS.aloadN X44.here hx rfl (D 33) rfl rfl (XS.dup X44.here hx rfl (D 34) rfl rfl q)) ?_
  have c47 := ((F_used_ta.other W38 (Or.inl ty_ta_ka)).other W44 (Or.inl ty_ta_pa))
  refine own_gF X44 hx hZ hown (w59 hw) e44 c47 rfl rfl (D 35) fun T48 X48 e48 => ?_
  refine own_step (g' := (mkF m 71 #[sR ta, sJ ky, .second, sI jd, sI (Int32.ofNat (own_q ky tt)), .unset] [(.int ((Int32.ofNat u) + (1 : Int32))), (.ref ta)])) (fun _ q => XS.iconst X48.here hx rfl (D 36) (XS.iadd X48.here hx rfl (D 37) rfl q)) ?_
  rw [show ((Int32.ofNat u) + (1 : Int32)) = (Int32.ofNat (u + 1)) from (own_inc _)]
  have c49 := ((E_ta.wr W38).wr W44)
  refine own_pF X48 hx hZ hown (w59 hw) e48 c47 c49 (Or.inl (w40 hw)) (w13 hw) (ty := .int) (by decide) rfl rfl rfl rfl (D 38) fun T50 h50 X50 e50 W50 F51 => ?_
  have N52 := Fr.snoc X50 N45 ge_ta
  refine own_step (g' := (mkF m 146 #[sR ta, sJ ky, .second, sI jd, sI (Int32.ofNat (own_q ky tt)), .unset] [])) (fun _ q => XS.goto X50.here hx rfl (pc0 := 74) (pc' := 146) rfl (D 39) (by decide) (by decide) q) ?_
  have c53 := ((((Keep.refl h0 [ta, ka, pa]).wr W38 (Or.inl (List.mem_of_getElem? (i := 1) rfl))).wr W44 (Or.inl (List.mem_of_getElem? (i := 2) rfl))).wr W50 (Or.inl (List.mem_of_getElem? (i := 0) rfl)))
  have c54 := (c49.wr W50)
  have c55 := (((F_keys_ta.other W38 (Or.inl ty_ta_ka)).other W44 (Or.inl ty_ta_pa)).other W50 (Or.inr (RoadKit.slot_ne (t := (.array .long)) (t' := .int) (Or.inl (w21 hw)) (Or.inl (w40 hw)) (by decide) (by decide) (by decide))))
  have c56 := ((c41.other W44 (Or.inl ty_ta_pa)).other W50 (Or.inr (RoadKit.slot_ne (t := (.array .int)) (t' := .int) (Or.inl (w24 hw)) (Or.inl (w40 hw)) (by decide) (by decide) (by decide))))
  have c57 := (((F_lists_ta.other W38 (Or.inl ty_ta_ka)).other W44 (Or.inl ty_ta_pa)).other W50 (Or.inr (RoadKit.slot_ne (t := (.array (.array .int))) (t' := .int) (Or.inl (w28 hw)) (Or.inl (w40 hw)) (by decide) (by decide) (by decide))))
  have c58 := (((F_listSizes_ta.other W38 (Or.inl ty_ta_ka)).other W44 (Or.inl ty_ta_pa)).other W50 (Or.inr (RoadKit.slot_ne (t := (.array .int)) (t' := .int) (Or.inl (w30 hw)) (Or.inl (w40 hw)) (by decide) (by decide) (by decide))))
  have c59 := (((F_freeLists_ta.other W38 (Or.inl ty_ta_ka)).other W44 (Or.inl ty_ta_pa)).other W50 (Or.inr (RoadKit.slot_ne (t := (.array .int)) (t' := .int) (Or.inl (w32 hw)) (Or.inl (w40 hw)) (by decide) (by decide) (by decide))))
  have c60 := (((F_freeCount_ta.other W38 (Or.inl ty_ta_ka)).other W44 (Or.inl ty_ta_pa)).other W50 (Or.inr (RoadKit.slot_ne (t := .int) (t' := .int) (Or.inl (w72 hw)) (Or.inl (w40 hw)) (by decide) (by decide) (by decide))))
  have c61 := (((F_listCount_ta.other W38 (Or.inl ty_ta_ka)).other W44 (Or.inl ty_ta_pa)).other W50 (Or.inr (RoadKit.slot_ne (t := .int) (t' := .int) (Or.inl (w74 hw)) (Or.inl (w40 hw)) (by decide) (by decide) (by decide))))
  have c62 := ((V40.other W44 ty_ka_pa).other W50 (Ne.symm ty_ta_ka))
  have c63 := (V46.other W50 (Ne.symm ty_ta_pa))
  exact own_retV X50 hx hrt (D 79) hlk (by rw [e50]; exact ⟨rfl, N52, c53, c54, c55, c56, F51, c57, c58, c59, c60, c61, c62, c63⟩) (by decide) (by decide)
def Q_own_ad1 (Z : State) (ta ka pa : Addr) (qk qp : ClassId) (kl : List Int64) (pl : List Int32) (ky : Int64) (tt : Nat) (jd : Int32) (h0 : Heap) (n0 : Nat) (v : Option Value) (h : Heap) (L : List Loc) : Prop := v = none ∧ Fr n0 L ∧ h = h0
set_option maxRecDepth 65536 in
set_option maxHeartbeats 40000000 in
theorem own_ad1 (l : Launch) (Z : State) (a0 : Array Value) (hw : own_HW a0 Z) (ws : List Jvm.Cond) (ta ka pa : Addr) (qk qp : ClassId) (kl : List Int64) (pl : List Int32) (ky : Int64) (tt : Nat) (jd : Int32) (h0 : Heap) (n0 : Nat) (Z0 : n0 ≤ h0.size) (E_ta : own_Et Z h0 ta) (F_keys_ta : own_Fk Z h0 ta (.ref ka)) (F_places_ta : own_Fp Z h0 ta (.ref pa)) (V_ka : Arv Z h0 ka qk .long (16 : Int32) (kl.map Value.long) (.long (0 : Int64))) (V_pa : Arv Z h0 pa qp .int (16 : Int32) (pl.map Value.int) (.int (0 : Int32))) (hkl : kl.length = 16) (hpl : pl.length = 16) (hpt : own_pth kl pl ky tt) (hq : ¬ (pl.getD (own_q ky tt) 0) = 0 ∧ kl.getD (own_q ky tt) 0 = ky) (hpos : 0 < (pl.getD (own_q ky tt) 0)) (heq : (pl.getD (own_q ky tt) 0) = jd) :
    own_Met l Z ⟨"com/example/vaxwire/vaxwire/registry/KeyIndex$Table", "add", "(JI)V"⟩ prog_102_method_2_code 6 none ws ⟨1, 0, 0, 16⟩ #[(.ref ta), (.long ky), (.int jd)] h0 (Q_own_ad1 Z ta ka pa qk qp kl pl ky tt jd h0 n0) := by
  refine own_bodyN (g0 := fun m => mkF m 0 #[sR ta, sJ ky, .second, sI jd, .unset, .unset] []) (plainFor_of_name pn_0) (fun _ => rfl) ?_
  intro p e s m below meth c s₁ hx hby hml hrt hlk hown hnm hZ e0 X0
  have D := own_d hby kD7
  have ty_ta_ka : ta ≠ ka := (Exa.neArv E_ta V_ka (w13 hw))
  have ty_ta_pa : ta ≠ pa := (Exa.neArv E_ta V_pa (w13 hw))
  have ty_ka_pa : ka ≠ pa := (own_arr_ne V_ka V_pa (by decide))
  refine own_step (g' := (mkF m 2 #[sR ta, sJ ky, .second, sI jd, .unset, .unset] [(.long ky), (.ref ta)])) (fun _ q => XS.aloadN X0.here hx rfl (D 0) rfl rfl (XT.lloadN X0.here hx rfl (D 1) rfl q)) ?_
  refine own_callQ X0 hx hZ hown (w55 hw) (w56 hw) (w13 hw) (w57 hw) (w58 hw) (by decide) (own_bO (W := 0) (own_fi1 l Z a0 hw [] ta ka pa qk qp kl pl ky tt h0 n0 Z0 E_ta F_keys_ta F_places_ta V_ka V_pa hkl hpl hpt hq) hZ (w58 hw) (w14 hw) rfl rfl) e0 E_ta  (by decide) (by decide) (argsL := [(.long ky)]) (rest := []) rfl hml.symm (lenOf pd_0 rfl) rfl rfl (own_w0 rfl rfl) (D 2) ?_
  rintro _ T64 L64 X64 ⟨rfl, N64q, e64⟩
  have N65 := Fr.app (Fr.nil n0) N64q
  refine own_step (g' := (mkF m 9 #[sR ta, sJ ky, .second, sI jd, sI (Int32.ofNat (own_q ky tt)), .unset] [(.int (Int32.ofNat (own_q ky tt)))])) (fun _ q => XS.istore X64.here hx rfl (D 3) rfl (l' := #[sR ta, sJ ky, .second, sI jd, sI (Int32.ofNat (own_q ky tt)), .unset]) rfl (XS.iload X64.here hx rfl (D 4) rfl q)) ?_
  have hc66 : ¬ ((Int32.ofNat (own_q ky tt)) < 0) := (own_qin (own_qlt ky tt)).1
  refine own_step (g' := (mkF m 78 #[sR ta, sJ ky, .second, sI jd, sI (Int32.ofNat (own_q ky tt)), .unset] [(.ref ta)])) (fun _ q => XS.ifYes X64.here hx rfl (pc0 := 9) (pc' := 77) rfl (D 5) rfl (XT.i0_ge_t hc66) (by decide) (by decide) (XS.aloadN X64.here hx rfl (D 40) rfl rfl q)) ?_
  refine own_gF X64 hx hZ hown (w23 hw) e64 F_places_ta rfl rfl (D 41) fun T67 X67 e67 => ?_
  refine own_step (g' := (mkF m 84 #[sR ta, sJ ky, .second, sI jd, sI (Int32.ofNat (own_q ky tt)), .unset] [(.int (pl.getD (own_q ky tt) 0))])) (fun _ q => XS.iload X67.here hx rfl (D 42) rfl (own_ldI X67 hx hZ e67 V_pa (j := (Int32.ofNat (own_q ky tt))) (own_qin (own_qlt ky tt)) (v := (.int (pl.getD (own_q ky tt) 0))) (by rw [own_nat (by have := (own_qlt ky tt); omega)]; exact own_mapD (by rw [hpl]; exact (own_qlt ky tt))) (g := (mkF m 83 #[sR ta, sJ ky, .second, sI jd, sI (Int32.ofNat (own_q ky tt)), .unset] [(.int (Int32.ofNat (own_q ky tt))), (.ref pa)])) rfl rfl (D 43) _ q)) ?_
  have hc68 : (0 < (pl.getD (own_q ky tt) 0)) := hpos
  refine own_step (g' := (mkF m 88 #[sR ta, sJ ky, .second, sI jd, sI (Int32.ofNat (own_q ky tt)), .unset] [(.ref ta)])) (fun _ q => XS.ifNo X67.here hx rfl (D 44) rfl (XT.i0_le_f hc68) (XS.aloadN X67.here hx rfl (D 45) rfl rfl q)) ?_
  refine own_gF X67 hx hZ hown (w23 hw) e67 F_places_ta rfl rfl (D 46) fun T69 X69 e69 => ?_
  refine own_step (g' := (mkF m 99 #[sR ta, sJ ky, .second, sI jd, sI (Int32.ofNat (own_q ky tt)), sI (pl.getD (own_q ky tt) 0)] [(.int jd), (.int (pl.getD (own_q ky tt) 0))])) (fun _ q => XS.iload X69.here hx rfl (D 47) rfl (own_ldI X69 hx hZ e69 V_pa (j := (Int32.ofNat (own_q ky tt))) (own_qin (own_qlt ky tt)) (v := (.int (pl.getD (own_q ky tt) 0))) (by rw [own_nat (by have := (own_qlt ky tt); omega)]; exact own_mapD (by rw [hpl]; exact (own_qlt ky tt))) (g := (mkF m 93 #[sR ta, sJ ky, .second, sI jd, sI (Int32.ofNat (own_q ky tt)), .unset] [(.int (Int32.ofNat (own_q ky tt))), (.ref pa)])) rfl rfl (D 48) _ (XS.istore X69.here hx rfl (D 49) rfl (l' := #[sR ta, sJ ky, .second, sI jd, sI (Int32.ofNat (own_q ky tt)), sI (pl.getD (own_q ky tt) 0)]) rfl (XS.iload X69.here hx rfl (D 50) rfl (XS.iloadN X69.here hx rfl (D 51) rfl q))))) ?_
  have hc70 : ((pl.getD (own_q ky tt) 0) = jd) := heq
  refine own_step (g' := (mkF m 146 #[sR ta, sJ ky, .second, sI jd, sI (Int32.ofNat (own_q ky tt)), sI (pl.getD (own_q ky tt) 0)] [])) (fun _ q => XS.icmpYes X69.here hx rfl (pc0 := 99) (pc' := 128) rfl (D 52) rfl (XT.ii_eq_t hc70) (by decide) (by decide) (XS.goto X69.here hx rfl (pc0 := 128) (pc' := 146) rfl (D 68) (by decide) (by decide) q)) ?_
  exact own_retV X69 hx hrt (D 79) hlk ⟨rfl, N65, e69⟩ (by decide) (by decide)
def Q_own_min (Z : State) (jx jy : Int32) (h0 : Heap) (n0 : Nat) (v : Option Value) (h : Heap) (L : List Loc) : Prop := ∃ (r : Int32), v = some (.int r) ∧ Fr n0 L ∧ h = h0
set_option maxRecDepth 65536 in
set_option maxHeartbeats 40000000 in
theorem own_min (l : Launch) (Z : State) (a0 : Array Value) (hw : own_HW a0 Z) (ws : List Jvm.Cond) (jx jy : Int32) (h0 : Heap) (n0 : Nat) (Z0 : n0 ≤ h0.size)  :
    own_Met l Z ⟨"java/lang/Math", "min", "(II)I"⟩ jdk_29_method_69_code 2 (some .int) ws ⟨0, 0, 0, 0⟩ #[(.int jx), (.int jy)] h0 (Q_own_min Z jx jy h0 n0) := by
  refine own_bodyN (g0 := fun m => mkF m 0 #[sI jx, sI jy] []) (Jvm.Free.JP.mathPlain rfl (by decide +kernel)) (fun _ => rfl) ?_
  intro p e s m below meth c s₁ hx hby hml hrt hlk hown hnm hZ e0 X0
  have D := own_d hby kD9
  refine own_step (g' := (mkF m 2 #[sI jx, sI jy] [(.int jy), (.int jx)])) (fun _ q => XS.iloadN X0.here hx rfl (D 0) rfl (XS.iloadN X0.here hx rfl (D 1) rfl q)) ?_
  by_cases hc71 : jy < jx
  · refine own_step (g' := (mkF m 10 #[sI jx, sI jy] [(.int jy)])) (fun _ q => XS.icmpYes X0.here hx rfl (pc0 := 2) (pc' := 9) rfl (D 2) rfl (XT.ii_gt_t hc71) (by decide) (by decide) (XS.iloadN X0.here hx rfl (D 5) rfl q)) ?_
    exact own_retI X0 hx hrt (D 6) hlk ⟨jy, rfl, (Fr.nil n0), e0⟩ (by decide) (by decide)
  · refine own_step (g' := (mkF m 10 #[sI jx, sI jy] [(.int jx)])) (fun _ q => XS.icmpNo X0.here hx rfl (D 2) rfl (XT.ii_gt_f hc71) (XS.iloadN X0.here hx rfl (D 3) rfl (XS.goto X0.here hx rfl (pc0 := 6) (pc' := 10) rfl (D 4) (by decide) (by decide) q))) ?_
    exact own_retI X0 hx hrt (D 6) hlk ⟨jx, rfl, (Fr.nil n0), e0⟩ (by decide) (by decide)
def Q_own_max (Z : State) (jx jy : Int32) (h0 : Heap) (n0 : Nat) (v : Option Value) (h : Heap) (L : List Loc) : Prop := ∃ (r : Int32), v = some (.int r) ∧ Fr n0 L ∧ h = h0
set_option maxRecDepth 65536 in
set_option maxHeartbeats 40000000 in
theorem own_max (l : Launch) (Z : State) (a0 : Array Value) (hw : own_HW a0 Z) (ws : List Jvm.Cond) (jx jy : Int32) (h0 : Heap) (n0 : Nat) (Z0 : n0 ≤ h0.size)  :
    own_Met l Z ⟨"java/lang/Math", "max", "(II)I"⟩ jdk_29_method_65_code 2 (some .int) ws ⟨0, 0, 0, 0⟩ #[(.int jx), (.int jy)] h0 (Q_own_max Z jx jy h0 n0) := by
  refine own_bodyN (g0 := fun m => mkF m 0 #[sI jx, sI jy] []) (Jvm.Free.JP.mathPlain rfl (by decide +kernel)) (fun _ => rfl) ?_
  intro p e s m below meth c s₁ hx hby hml hrt hlk hown hnm hZ e0 X0
  have D := own_d hby kD10
  refine own_step (g' := (mkF m 2 #[sI jx, sI jy] [(.int jy), (.int jx)])) (fun _ q => XS.iloadN X0.here hx rfl (D 0) rfl (XS.iloadN X0.here hx rfl (D 1) rfl q)) ?_
  by_cases hc72 : jx < jy
  · refine own_step (g' := (mkF m 10 #[sI jx, sI jy] [(.int jy)])) (fun _ q => XS.icmpYes X0.here hx rfl (pc0 := 2) (pc' := 9) rfl (D 2) rfl (XT.ii_lt_t hc72) (by decide) (by decide) (XS.iloadN X0.here hx rfl (D 5) rfl q)) ?_
    exact own_retI X0 hx hrt (D 6) hlk ⟨jy, rfl, (Fr.nil n0), e0⟩ (by decide) (by decide)
  · refine own_step (g' := (mkF m 10 #[sI jx, sI jy] [(.int jx)])) (fun _ q => XS.icmpNo X0.here hx rfl (D 2) rfl (XT.ii_lt_f hc72) (XS.iloadN X0.here hx rfl (D 3) rfl (XS.goto X0.here hx rfl (pc0 := 6) (pc' := 10) rfl (D 4) (by decide) (by decide) q))) ?_
    exact own_retI X0 hx hrt (D 6) hlk ⟨jx, rfl, (Fr.nil n0), e0⟩ (by decide) (by decide)
def Q_own_nl (Z : State) (ta ka pa la sa fa : Addr) (ql qs : ClassId) (u : Nat) (lo hi : Int32) (h0 : Heap) (n0 : Nat) (v : Option Value) (h : Heap) (L : List Loc) : Prop := ∃ (li : Addr), ∃ (qi : ClassId), v = some (.int (0 : Int32)) ∧ Fr n0 L ∧ Keep h0 h [ta, la, sa] ∧ h0.size ≤ li ∧ own_Et Z h ta ∧ own_Fk Z h ta (.ref ka) ∧ own_Fp Z h ta (.ref pa) ∧ own_Fu Z h ta (.int (Int32.ofNat u)) ∧ own_Fl Z h ta (.ref la) ∧ own_Fs Z h ta (.ref sa) ∧ own_Ff Z h ta (.ref fa) ∧ own_Fc Z h ta (.int (0 : Int32)) ∧ own_Fn Z h ta (.int (1 : Int32)) ∧ Arv Z h la ql (.array .int) (4 : Int32) [(.ref li), .null, .null, .null] .null ∧ Arv Z h sa qs .int (4 : Int32) [(.int (2 : Int32)), (.int (0 : Int32)), (.int (0 : Int32)), (.int (0 : Int32))] (.int (0 : Int32)) ∧ Arv Z h li qi .int (4 : Int32) [(.int lo), (.int hi), (.int (0 : Int32)), (.int (0 : Int32))] (.int (0 : Int32))
set_option maxRecDepth 65536 in
set_option maxHeartbeats 40000000 in
theorem own_nl (l : Launch) (Z : State) (a0 : Array Value) (hw : own_HW a0 Z) (ws : List Jvm.Cond) (ta ka pa la sa fa : Addr) (ql qs : ClassId) (u : Nat) (lo hi : Int32) (h0 : Heap) (n0 : Nat) (Z0 : n0 ≤ h0.size) (E_ta : own_Et Z h0 ta) (F_keys_ta : own_Fk Z h0 ta (.ref ka)) (F_places_ta : own_Fp Z h0 ta (.ref pa)) (F_used_ta : own_Fu Z h0 ta (.int (Int32.ofNat u))) (F_lists_ta : own_Fl Z h0 ta (.ref la)) (F_listSizes_ta : own_Fs Z h0 ta (.ref sa)) (F_freeLists_ta : own_Ff Z h0 ta (.ref fa)) (F_freeCount_ta : own_Fc Z h0 ta (.int (0 : Int32))) (F_listCount_ta : own_Fn Z h0 ta (.int (0 : Int32))) (V_la : Arv Z h0 la ql (.array .int) (4 : Int32) [.null, .null, .null, .null] .null) (V_sa : Arv Z h0 sa qs .int (4 : Int32) [(.int (0 : Int32)), (.int (0 : Int32)), (.int (0 : Int32)), (.int (0 : Int32))] (.int (0 : Int32))) (hov : OvrA Z ql .int "[I") (ge_ta : n0 ≤ ta) (ge_la : n0 ≤ la) (ge_sa : n0 ≤ sa) :
    own_Met l Z ⟨"com/example/vaxwire/vaxwire/registry/KeyIndex$Table", "newList", "(II)I"⟩ prog_102_method_11_code 4 (some .int) ws ⟨0, 1, 4, 0⟩ #[(.ref ta), (.int lo), (.int hi)] h0 (Q_own_nl Z ta ka pa la sa fa ql qs u lo hi h0 n0) := by
  refine own_bodyN (g0 := fun m => mkF m 0 #[sR ta, sI lo, sI hi, .unset] []) (plainFor_of_name pn_0) (fun _ => rfl) ?_
  intro p e s m below meth c s₁ hx hby hml hrt hlk hown hnm hZ e0 X0
  have D := own_d hby kD11
  have ty_ta_la : ta ≠ la := (Exa.neArv E_ta V_la (w13 hw))
  have ty_ta_sa : ta ≠ sa := (Exa.neArv E_ta V_sa (w13 hw))
  have ty_la_sa : la ≠ sa := (own_arr_ne V_la V_sa (by decide))
  refine own_step (g' := (mkF m 1 #[sR ta, sI lo, sI hi, .unset] [(.ref ta)])) (fun _ q => XS.aloadN X0.here hx rfl (D 0) rfl rfl q) ?_
  refine own_gF X0 hx hZ hown (w71 hw) e0 F_freeCount_ta rfl rfl (D 1) fun T73 X73 e73 => ?_
  refine own_step (g' := (mkF m 29 #[sR ta, sI lo, sI hi, .unset] [(.ref ta), (.ref ta)])) (fun _ q => XS.ifYes X73.here hx rfl (pc0 := 4) (pc' := 27) rfl (D 2) rfl (by decide) (by decide) (by decide) (XS.aloadN X73.here hx rfl (D 3) rfl rfl (XS.dup X73.here hx rfl (D 4) rfl rfl q))) ?_
  refine own_gF X73 hx hZ hown (w73 hw) e73 F_listCount_ta rfl rfl (D 5) fun T74 X74 e74 => ?_
  refine own_step (g' := (mkF m 35 #[sR ta, sI lo, sI hi, .unset] [(.int 1), (.ref ta), (.int 0)])) (fun _ q => XT.dupX1 X74.here hx rfl (D 6) rfl rfl rfl (XS.iconst X74.here hx rfl (D 7) (XS.iadd X74.here hx rfl (D 8) rfl q))) ?_
  refine own_pF X74 hx hZ hown (w73 hw) e74 F_listCount_ta E_ta (Or.inl (w74 hw)) (w13 hw) (ty := .int) (by decide) rfl rfl rfl rfl (D 9) fun T75 h75 X75 e75 W75 F76 => ?_
  have N77 := Fr.snoc X75 (Fr.nil n0) ge_ta
  refine own_step (g' := (mkF m 41 #[sR ta, sI lo, sI hi, sI 0] [(.ref ta), (.int 0)])) (fun _ q => XS.istoreN X75.here hx rfl (D 10) rfl (l' := #[sR ta, sI lo, sI hi, sI 0]) rfl (XS.iloadN X75.here hx rfl (D 11) rfl (XS.aloadN X75.here hx rfl (D 12) rfl rfl q))) ?_
  have c78 := (F_lists_ta.other W75 (Or.inr (RoadKit.slot_ne (t := (.array (.array .int))) (t' := .int) (Or.inl (w28 hw)) (Or.inl (w74 hw)) (by decide) (by decide) (by decide))))
  refine own_gF X75 hx hZ hown (w27 hw) e75 c78 rfl rfl (D 13) fun T79 X79 e79 => ?_
  have c80 := (V_la.other W75 (Ne.symm ty_ta_la))
  refine own_step (g' := (mkF m 80 #[sR ta, sI lo, sI hi, sI 0] [(.ref ta)])) (fun _ q => own_len X79 hx hZ e79 c80 (g := (mkF m 44 #[sR ta, sI lo, sI hi, sI 0] [(.ref la), (.int 0)])) rfl rfl (D 14) _ (XS.icmpYes X79.here hx rfl (pc0 := 45) (pc' := 79) rfl (D 15) rfl (by decide) (by decide) (by decide) (XS.aloadN X79.here hx rfl (D 16) rfl rfl q))) ?_
  refine own_gF X79 hx hZ hown (w27 hw) e79 c78 rfl rfl (D 17) fun T81 X81 e81 => ?_
  refine own_step (g' := (mkF m 85 #[sR ta, sI lo, sI hi, sI 0] [(.int 4), (.int 0), (.ref la)])) (fun _ q => XS.iloadN X81.here hx rfl (D 18) rfl (XS.iconst X81.here hx rfl (D 19) q)) ?_
  obtain ⟨T82, h82, k82, X82, e82, E82, A82, ex82, st82⟩ := newPE X81 hx hZ (aty := .int) (w22 hw) e81 (g := (mkF m 85 #[sR ta, sI lo, sI hi, sI 0] [(.int 4), (.int 0), (.ref la)])) rfl (D 20) rfl (by decide) (cap := 4) (by decide) (by first | decide | omega) (by decide) (by decide) (ad := "[I") (by decide)
  obtain ⟨b82, g82⟩ : ∃ z, z = h75.size := ⟨_, rfl⟩
  rw [← g82] at A82 ex82 st82
  have c83 := (Nat.le_trans Z0 (Keep.of_wr W75).1)
  have n0_84 : n0 ≤ b82 := Nat.le_trans c83 (Nat.le_of_eq g82.symm)
  have c85 := ((Keep.refl h0 [ta, la, sa]).wr W75 (Or.inl (List.mem_of_getElem? (i := 0) rfl)))
  have sz0_86 := Nat.le_trans c85.1 (Nat.le_of_eq g82.symm)
  have c87 := (own_lt E_ta.lt (Keep.of_wr W75).1)
  have ne88 : ta ≠ b82 := own_ne c87 (Nat.le_of_eq g82.symm)
  have c89 := (own_lt V_la.lt (Keep.of_wr W75).1)
  have ne90 : la ≠ b82 := own_ne c89 (Nat.le_of_eq g82.symm)
  have c91 := (own_lt V_sa.lt (Keep.of_wr W75).1)
  have ne92 : sa ≠ b82 := own_ne c91 (Nat.le_of_eq g82.symm)
  have V82 : Arv Z h82 b82 k82 .int (4 : Int32) [(.int (0 : Int32)), (.int (0 : Int32)), (.int (0 : Int32)), (.int (0 : Int32))] (.int (0 : Int32)) := (Arv.new A82 (by decide)).pad (pad_rep [] (.int (0 : Int32)) 4)
  have ltb82 := V82.lt
  refine own_step (T' := T82) (g' := (mkF m 87 #[sR ta, sI lo, sI hi, sI 0] [(.ref b82), (.int 0), (.ref la)])) st82 ?_
  refine own_step (g' := (mkF m 90 #[sR ta, sI lo, sI hi, sI 0] [(.int lo), (.int 0), (.ref b82), (.ref b82), (.int 0), (.ref la)])) (fun _ q => XS.dup X82.here hx rfl (D 21) rfl rfl (XS.iconst X82.here hx rfl (D 22) (XS.iloadN X82.here hx rfl (D 23) rfl q))) ?_
  obtain ⟨T93, h93, X93, e93, W93, V93, st93⟩ := own_stI X82 hx hZ e82 V82 (j := (0 : Int32)) ⟨by decide, by decide⟩ (i := 0) rfl (Nat.le_of_ble_eq_true rfl) (g := (mkF m 90 #[sR ta, sI lo, sI hi, sI 0] [(.int lo), (.int 0), (.ref b82), (.ref b82), (.int 0), (.ref la)])) rfl rfl (D 24)
  replace V93 : Arv Z h93 b82 k82 .int (4 : Int32) [(.int lo), (.int (0 : Int32)), (.int (0 : Int32)), (.int (0 : Int32))] (.int (0 : Int32)) := V93
  have N94 := Fr.snoc X93 N77 n0_84
  refine own_step (T' := T93) (g' := (mkF m 91 #[sR ta, sI lo, sI hi, sI 0] [(.ref b82), (.int 0), (.ref la)])) st93 ?_
  refine own_step (g' := (mkF m 94 #[sR ta, sI lo, sI hi, sI 0] [(.int hi), (.int 1), (.ref b82), (.ref b82), (.int 0), (.ref la)])) (fun _ q => XS.dup X93.here hx rfl (D 25) rfl rfl (XS.iconst X93.here hx rfl (D 26) (XS.iloadN X93.here hx rfl (D 27) rfl q))) ?_
  obtain ⟨T95, h95, X95, e95, W95, V95, st95⟩ := own_stI X93 hx hZ e93 V93 (j := (1 : Int32)) ⟨by decide, by decide⟩ (i := 1) rfl (Nat.le_of_ble_eq_true rfl) (g := (mkF m 94 #[sR ta, sI lo, sI hi, sI 0] [(.int hi), (.int 1), (.ref b82), (.ref b82), (.int 0), (.ref la)])) rfl rfl (D 28)
  replace V95 : Arv Z h95 b82 k82 .int (4 : Int32) [(.int lo), (.int hi), (.int (0 : Int32)), (.int (0 : Int32))] (.int (0 : Int32)) := V95
  have N96 := Fr.snoc X95 N94 n0_84
  refine own_step (T' := T95) (g' := (mkF m 95 #[sR ta, sI lo, sI hi, sI 0] [(.ref b82), (.int 0), (.ref la)])) st95 ?_
  refine own_step (g' := (mkF m 98 #[sR ta, sI lo, sI hi, sI 0] [(.int 0), (.int 2), (.ref b82), (.ref b82), (.int 0), (.ref la)])) (fun _ q => XS.dup X95.here hx rfl (D 29) rfl rfl (XS.iconst X95.here hx rfl (D 30) (XS.iconst X95.here hx rfl (D 31) q))) ?_
  obtain ⟨T97, h97, X97, e97, W97, V97, st97⟩ := own_stI X95 hx hZ e95 V95 (j := (2 : Int32)) ⟨by decide, by decide⟩ (i := 2) rfl (Nat.le_of_ble_eq_true rfl) (g := (mkF m 98 #[sR ta, sI lo, sI hi, sI 0] [(.int 0), (.int 2), (.ref b82), (.ref b82), (.int 0), (.ref la)])) rfl rfl (D 32)
  replace V97 : Arv Z h97 b82 k82 .int (4 : Int32) [(.int lo), (.int hi), (.int (0 : Int32)), (.int (0 : Int32))] (.int (0 : Int32)) := V97
  have N98 := Fr.snoc X97 N96 n0_84
  refine own_step (T' := T97) (g' := (mkF m 99 #[sR ta, sI lo, sI hi, sI 0] [(.ref b82), (.int 0), (.ref la)])) st97 ?_
  refine own_step (g' := (mkF m 102 #[sR ta, sI lo, sI hi, sI 0] [(.int 0), (.int 3), (.ref b82), (.ref b82), (.int 0), (.ref la)])) (fun _ q => XS.dup X97.here hx rfl (D 33) rfl rfl (XS.iconst X97.here hx rfl (D 34) (XS.iconst X97.here hx rfl (D 35) q))) ?_
  obtain ⟨T99, h99, X99, e99, W99, V99, st99⟩ := own_stI X97 hx hZ e97 V97 (j := (3 : Int32)) ⟨by decide, by decide⟩ (i := 3) rfl (Nat.le_of_ble_eq_true rfl) (g := (mkF m 102 #[sR ta, sI lo, sI hi, sI 0] [(.int 0), (.int 3), (.ref b82), (.ref b82), (.int 0), (.ref la)])) rfl rfl (D 36)
  replace V99 : Arv Z h99 b82 k82 .int (4 : Int32) [(.int lo), (.int hi), (.int (0 : Int32)), (.int (0 : Int32))] (.int (0 : Int32)) := V99
  have N100 := Fr.snoc X99 N98 n0_84
  refine own_step (T' := T99) (g' := (mkF m 103 #[sR ta, sI lo, sI hi, sI 0] [(.ref b82), (.int 0), (.ref la)])) st99 ?_
  have c101 := (((((c80.ext E82).other W93 ne90).other W95 ne90).other W97 ne90).other W99 ne90)
  have c103 := ((((ex82.wr W93).wr W95).wr W97).wr W99)
  obtain ⟨T102, h102, X102, e102, W102, V102, st102⟩ := own_stR X99 hx hZ e99 c101 rfl rfl (fun _ A q => Sto.ofVA A q hov (Ins.self c103)) (j := (0 : Int32)) ⟨by decide, by decide⟩ (i := 0) rfl (Nat.le_of_ble_eq_true rfl) (g := (mkF m 103 #[sR ta, sI lo, sI hi, sI 0] [(.ref b82), (.int 0), (.ref la)])) rfl rfl (D 37)
  replace V102 : Arv Z h102 la ql (.array .int) (4 : Int32) [(.ref b82), .null, .null, .null] .null := V102
  have N104 := Fr.snoc X102 N100 ge_la
  refine own_step (T' := T102) (g' := (mkF m 104 #[sR ta, sI lo, sI hi, sI 0] [])) st102 ?_
  refine own_step (g' := (mkF m 105 #[sR ta, sI lo, sI hi, sI 0] [(.ref ta)])) (fun _ q => XS.aloadN X102.here hx rfl (D 38) rfl rfl q) ?_
  have c105 := (((((((F_listSizes_ta.other W75 (Or.inr (RoadKit.slot_ne (t := (.array .int)) (t' := .int) (Or.inl (w30 hw)) (Or.inl (w74 hw)) (by decide) (by decide) (by decide)))).ext E82).other W93 (Or.inl ne88)).other W95 (Or.inl ne88)).other W97 (Or.inl ne88)).other W99 (Or.inl ne88)).other W102 (Or.inl ty_ta_la))
  refine own_gF X102 hx hZ hown (w29 hw) e102 c105 rfl rfl (D 39) fun T106 X106 e106 => ?_
  refine own_step (g' := (mkF m 110 #[sR ta, sI lo, sI hi, sI 0] [(.int 2), (.int 0), (.ref sa)])) (fun _ q => XS.iloadN X106.here hx rfl (D 40) rfl (XS.iconst X106.here hx rfl (D 41) q)) ?_
  have c107 := (((((((V_sa.other W75 (Ne.symm ty_ta_sa)).ext E82).other W93 ne92).other W95 ne92).other W97 ne92).other W99 ne92).other W102 (Ne.symm ty_la_sa))
  obtain ⟨T108, h108, X108, e108, W108, V108, st108⟩ := own_stI X106 hx hZ e106 c107 (j := (0 : Int32)) ⟨by decide, by decide⟩ (i := 0) rfl (Nat.le_of_ble_eq_true rfl) (g := (mkF m 110 #[sR ta, sI lo, sI hi, sI 0] [(.int 2), (.int 0), (.ref sa)])) rfl rfl (D 42)
  replace V108 : Arv Z h108 sa qs .int (4 : Int32) [(.int (2 : Int32)), (.int (0 : Int32)), (.int (0 : Int32)), (.int (0 : Int32))] (.int (0 : Int32)) := V108
  have N109 := Fr.snoc X108 N104 ge_sa
  refine own_step (T' := T108) (g' := (mkF m 111 #[sR ta, sI lo, sI hi, sI 0] [])) st108 ?_
  refine own_step (g' := (mkF m 112 #[sR ta, sI lo, sI hi, sI 0] [(.int 0)])) (fun _ q => XS.iloadN X108.here hx rfl (D 43) rfl q) ?_
  have c110 := (((((((c85.ext E82).wr W93 (Or.inr sz0_86)).wr W95 (Or.inr sz0_86)).wr W97 (Or.inr sz0_86)).wr W99 (Or.inr sz0_86)).wr W102 (Or.inl (List.mem_of_getElem? (i := 1) rfl))).wr W108 (Or.inl (List.mem_of_getElem? (i := 2) rfl)))
  have c111 := ((((((((E_ta.wr W75).ext E82).wr W93).wr W95).wr W97).wr W99).wr W102).wr W108)
  have c112 := ((((((((F_keys_ta.other W75 (Or.inr (RoadKit.slot_ne (t := (.array .long)) (t' := .int) (Or.inl (w21 hw)) (Or.inl (w74 hw)) (by decide) (by decide) (by decide)))).ext E82).other W93 (Or.inl ne88)).other W95 (Or.inl ne88)).other W97 (Or.inl ne88)).other W99 (Or.inl ne88)).other W102 (Or.inl ty_ta_la)).other W108 (Or.inl ty_ta_sa))
  have c113 := ((((((((F_places_ta.other W75 (Or.inr (RoadKit.slot_ne (t := (.array .int)) (t' := .int) (Or.inl (w24 hw)) (Or.inl (w74 hw)) (by decide) (by decide) (by decide)))).ext E82).other W93 (Or.inl ne88)).other W95 (Or.inl ne88)).other W97 (Or.inl ne88)).other W99 (Or.inl ne88)).other W102 (Or.inl ty_ta_la)).other W108 (Or.inl ty_ta_sa))
  have c114 := ((((((((F_used_ta.other W75 (Or.inr (RoadKit.slot_ne (t := .int) (t' := .int) (Or.inl (w40 hw)) (Or.inl (w74 hw)) (by decide) (by decide) (by decide)))).ext E82).other W93 (Or.inl ne88)).other W95 (Or.inl ne88)).other W97 (Or.inl ne88)).other W99 (Or.inl ne88)).other W102 (Or.inl ty_ta_la)).other W108 (Or.inl ty_ta_sa))
  have c115 := (((((((c78.ext E82).other W93 (Or.inl ne88)).other W95 (Or.inl ne88)).other W97 (Or.inl ne88)).other W99 (Or.inl ne88)).other W102 (Or.inl ty_ta_la)).other W108 (Or.inl ty_ta_sa))
  have c116 := (c105.other W108 (Or.inl ty_ta_sa))
  have c117 := ((((((((F_freeLists_ta.other W75 (Or.inr (RoadKit.slot_ne (t := (.array .int)) (t' := .int) (Or.inl (w32 hw)) (Or.inl (w74 hw)) (by decide) (by decide) (by decide)))).ext E82).other W93 (Or.inl ne88)).other W95 (Or.inl ne88)).other W97 (Or.inl ne88)).other W99 (Or.inl ne88)).other W102 (Or.inl ty_ta_la)).other W108 (Or.inl ty_ta_sa))
  have c118 := ((((((((F_freeCount_ta.other W75 (Or.inr (RoadKit.slot_ne (t := .int) (t' := .int) (Or.inl (w72 hw)) (Or.inl (w74 hw)) (by decide) (by decide) (by decide)))).ext E82).other W93 (Or.inl ne88)).other W95 (Or.inl ne88)).other W97 (Or.inl ne88)).other W99 (Or.inl ne88)).other W102 (Or.inl ty_ta_la)).other W108 (Or.inl ty_ta_sa))
  have c119 := (((((((F76.ext E82).other W93 (Or.inl ne88)).other W95 (Or.inl ne88)).other W97 (Or.inl ne88)).other W99 (Or.inl ne88)).other W102 (Or.inl ty_ta_la)).other W108 (Or.inl ty_ta_sa))
  have c120 := (V102.other W108 ty_la_sa)
  have c121 := ((V99.other W102 (Ne.symm ne90)).other W108 (Ne.symm ne92))
  exact own_retI X108 hx hrt (D 44) hlk (by rw [e108]; exact ⟨b82, k82, rfl, N109, c110, sz0_86, c111, c112, c113, c114, c115, c116, c117, c118, c119, c120, V108, c121⟩) (by decide) (by decide)
theorem pd_1 : parseMethodDescriptor "(II)I" = some ⟨[.int, .int], some .int⟩ := by decide +kernel
def Q_own_ad2 (Z : State) (ta ka pa la sa fa : Addr) (qk qp ql qs : ClassId) (kl : List Int64) (pl : List Int32) (u : Nat) (ky : Int64) (jd : Int32) (tt : Nat) (h0 : Heap) (n0 : Nat) (v : Option Value) (h : Heap) (L : List Loc) : Prop := ∃ (li : Addr), ∃ (qi : ClassId), ∃ (y0 : Int32), ∃ (y1 : Int32), v = none ∧ Fr n0 L ∧ Keep h0 h [ta, pa, la, sa] ∧ h0.size ≤ li ∧ own_Et Z h ta ∧ own_Fk Z h ta (.ref ka) ∧ own_Fp Z h ta (.ref pa) ∧ own_Fu Z h ta (.int (Int32.ofNat u)) ∧ own_Fl Z h ta (.ref la) ∧ own_Fs Z h ta (.ref sa) ∧ own_Ff Z h ta (.ref fa) ∧ own_Fc Z h ta (.int (0 : Int32)) ∧ own_Fn Z h ta (.int (1 : Int32)) ∧ Arv Z h pa qp .int (16 : Int32) ((pl.set (own_q ky tt) (-1 : Int32)).map Value.int) (.int (0 : Int32)) ∧ Arv Z h la ql (.array .int) (4 : Int32) [(.ref li), .null, .null, .null] .null ∧ Arv Z h sa qs .int (4 : Int32) [(.int (2 : Int32)), (.int (0 : Int32)), (.int (0 : Int32)), (.int (0 : Int32))] (.int (0 : Int32)) ∧ Arv Z h li qi .int (4 : Int32) [(.int y0), (.int y1), (.int (0 : Int32)), (.int (0 : Int32))] (.int (0 : Int32))
set_option maxRecDepth 65536 in
set_option maxHeartbeats 40000000 in
theorem own_ad2 (l : Launch) (Z : State) (a0 : Array Value) (hw : own_HW a0 Z) (ws : List Jvm.Cond) (ta ka pa la sa fa : Addr) (qk qp ql qs : ClassId) (kl : List Int64) (pl : List Int32) (u : Nat) (ky : Int64) (jd : Int32) (tt : Nat) (h0 : Heap) (n0 : Nat) (Z0 : n0 ≤ h0.size) (E_ta : own_Et Z h0 ta) (F_keys_ta : own_Fk Z h0 ta (.ref ka)) (F_places_ta : own_Fp Z h0 ta (.ref pa)) (F_used_ta : own_Fu Z h0 ta (.int (Int32.ofNat u))) (F_lists_ta : own_Fl Z h0 ta (.ref la)) (F_listSizes_ta : own_Fs Z h0 ta (.ref sa)) (F_freeLists_ta : own_Ff Z h0 ta (.ref fa)) (F_freeCount_ta : own_Fc Z h0 ta (.int (0 : Int32))) (F_listCount_ta : own_Fn Z h0 ta (.int (0 : Int32))) (V_ka : Arv Z h0 ka qk .long (16 : Int32) (kl.map Value.long) (.long (0 : Int64))) (V_pa : Arv Z h0 pa qp .int (16 : Int32) (pl.map Value.int) (.int (0 : Int32))) (V_la : Arv Z h0 la ql (.array .int) (4 : Int32) [.null, .null, .null, .null] .null) (V_sa : Arv Z h0 sa qs .int (4 : Int32) [(.int (0 : Int32)), (.int (0 : Int32)), (.int (0 : Int32)), (.int (0 : Int32))] (.int (0 : Int32))) (hov : OvrA Z ql .int "[I") (ge_ta : n0 ≤ ta) (ge_pa : n0 ≤ pa) (ge_la : n0 ≤ la) (ge_sa : n0 ≤ sa) (ne_pa_sa : ¬ pa = sa) (hkl : kl.length = 16) (hpl : pl.length = 16) (hpt : own_pth kl pl ky tt) (hq : ¬ (pl.getD (own_q ky tt) 0) = 0 ∧ kl.getD (own_q ky tt) 0 = ky) (hpos : 0 < (pl.getD (own_q ky tt) 0)) (hne : ¬ (pl.getD (own_q ky tt) 0) = jd) :
    own_Met l Z ⟨"com/example/vaxwire/vaxwire/registry/KeyIndex$Table", "add", "(JI)V"⟩ prog_102_method_2_code 6 none ws ⟨1, 1, 4, 17⟩ #[(.ref ta), (.long ky), (.int jd)] h0 (Q_own_ad2 Z ta ka pa la sa fa qk qp ql qs kl pl u ky jd tt h0 n0) := by
  refine own_bodyN (g0 := fun m => mkF m 0 #[sR ta, sJ ky, .second, sI jd, .unset, .unset] []) (plainFor_of_name pn_0) (fun _ => rfl) ?_
  intro p e s m below meth c s₁ hx hby hml hrt hlk hown hnm hZ e0 X0
  have D := own_d hby kD7
  have ty_ta_ka : ta ≠ ka := (Exa.neArv E_ta V_ka (w13 hw))
  have ty_ta_pa : ta ≠ pa := (Exa.neArv E_ta V_pa (w13 hw))
  have ty_ta_la : ta ≠ la := (Exa.neArv E_ta V_la (w13 hw))
  have ty_ta_sa : ta ≠ sa := (Exa.neArv E_ta V_sa (w13 hw))
  have ty_ka_pa : ka ≠ pa := (own_arr_ne V_ka V_pa (by decide))
  have ty_ka_la : ka ≠ la := (own_arr_ne V_ka V_la (by decide))
  have ty_ka_sa : ka ≠ sa := (own_arr_ne V_ka V_sa (by decide))
  have ty_pa_la : pa ≠ la := (own_arr_ne V_pa V_la (by decide))
  have ty_la_sa : la ≠ sa := (own_arr_ne V_la V_sa (by decide))
  refine own_step (g' := (mkF m 2 #[sR ta, sJ ky, .second, sI jd, .unset, .unset] [(.long ky), (.ref ta)])) (fun _ q => XS.aloadN X0.here hx rfl (D 0) rfl rfl (XT.lloadN X0.here hx rfl (D 1) rfl q)) ?_
  refine own_callQ X0 hx hZ hown (w55 hw) (w56 hw) (w13 hw) (w57 hw) (w58 hw) (by decide) (own_bO (W := 0) (own_fi1 l Z a0 hw [] ta ka pa qk qp kl pl ky tt h0 n0 Z0 E_ta F_keys_ta F_places_ta V_ka V_pa hkl hpl hpt hq) hZ (w58 hw) (w14 hw) rfl rfl) e0 E_ta  (by decide) (by decide) (argsL := [(.long ky)]) (rest := []) rfl hml.symm (lenOf pd_0 rfl) rfl rfl (own_w0 rfl rfl) (D 2) ?_
  rintro _ T122 L122 X122 ⟨rfl, N122q, e122⟩
  have N123 := Fr.app (Fr.nil n0) N122q
  refine own_step (g' := (mkF m 9 #[sR ta, sJ ky, .second, sI jd, sI (Int32.ofNat (own_q ky tt)), .unset] [(.int (Int32.ofNat (own_q ky tt)))])) (fun _ q => XS.istore X122.here hx rfl (D 3) rfl (l' := #[sR ta, sJ ky, .second, sI jd, sI (Int32.ofNat (own_q ky tt)), .unset]) rfl (XS.iload X122.here hx rfl (D 4) rfl q)) ?_
  have hc124 : ¬ ((Int32.ofNat (own_q ky tt)) < 0) := (own_qin (own_qlt ky tt)).1
  refine own_step (g' := (mkF m 78 #[sR ta, sJ ky, .second, sI jd, sI (Int32.ofNat (own_q ky tt)), .unset] [(.ref ta)])) (fun _ q => XS.ifYes X122.here hx rfl (pc0 := 9) (pc' := 77) rfl (D 5) rfl (XT.i0_ge_t hc124) (by decide) (by decide) (XS.aloadN X122.here hx rfl (D 40) rfl rfl q)) ?_
  refine own_gF X122 hx hZ hown (w23 hw) e122 F_places_ta rfl rfl (D 41) fun T125 X125 e125 => ?_
  refine own_step (g' := (mkF m 84 #[sR ta, sJ ky, .second, sI jd, sI (Int32.ofNat (own_q ky tt)), .unset] [(.int (pl.getD (own_q ky tt) 0))])) (fun _ q => XS.iload X125.here hx rfl (D 42) rfl (own_ldI X125 hx hZ e125 V_pa (j := (Int32.ofNat (own_q ky tt))) (own_qin (own_qlt ky tt)) (v := (.int (pl.getD (own_q ky tt) 0))) (by rw [own_nat (by have := (own_qlt ky tt); omega)]; exact own_mapD (by rw [hpl]; exact (own_qlt ky tt))) (g := (mkF m 83 #[sR ta, sJ ky, .second, sI jd, sI (Int32.ofNat (own_q ky tt)), .unset] [(.int (Int32.ofNat (own_q ky tt))), (.ref pa)])) rfl rfl (D 43) _ q)) ?_
  have hc126 : (0 < (pl.getD (own_q ky tt) 0)) := hpos
  refine own_step (g' := (mkF m 88 #[sR ta, sJ ky, .second, sI jd, sI (Int32.ofNat (own_q ky tt)), .unset] [(.ref ta)])) (fun _ q => XS.ifNo X125.here hx rfl (D 44) rfl (XT.i0_le_f hc126) (XS.aloadN X125.here hx rfl (D 45) rfl rfl q)) ?_
  refine own_gF X125 hx hZ hown (w23 hw) e125 F_places_ta rfl rfl (D 46) fun T127 X127 e127 => ?_
  refine own_step (g' := (mkF m 99 #[sR ta, sJ ky, .second, sI jd, sI (Int32.ofNat (own_q ky tt)), sI (pl.getD (own_q ky tt) 0)] [(.int jd), (.int (pl.getD (own_q ky tt) 0))])) (fun _ q => XS.iload X127.here hx rfl (D 47) rfl (own_ldI X127 hx hZ e127 V_pa (j := (Int32.ofNat (own_q ky tt))) (own_qin (own_qlt ky tt)) (v := (.int (pl.getD (own_q ky tt) 0))) (by rw [own_nat (by have := (own_qlt ky tt); omega)]; exact own_mapD (by rw [hpl]; exact (own_qlt ky tt))) (g := (mkF m 93 #[sR ta, sJ ky, .second, sI jd, sI (Int32.ofNat (own_q ky tt)), .unset] [(.int (Int32.ofNat (own_q ky tt))), (.ref pa)])) rfl rfl (D 48) _ (XS.istore X127.here hx rfl (D 49) rfl (l' := #[sR ta, sJ ky, .second, sI jd, sI (Int32.ofNat (own_q ky tt)), sI (pl.getD (own_q ky tt) 0)]) rfl (XS.iload X127.here hx rfl (D 50) rfl (XS.iloadN X127.here hx rfl (D 51) rfl q))))) ?_
  have hc128 : ¬ ((pl.getD (own_q ky tt) 0) = jd) := hne
  refine own_step (g' := (mkF m 103 #[sR ta, sJ ky, .second, sI jd, sI (Int32.ofNat (own_q ky tt)), sI (pl.getD (own_q ky tt) 0)] [(.ref ta)])) (fun _ q => XS.icmpNo X127.here hx rfl (D 52) rfl (XT.ii_eq_f hc128) (XS.aloadN X127.here hx rfl (D 53) rfl rfl q)) ?_
  refine own_gF X127 hx hZ hown (w23 hw) e127 F_places_ta rfl rfl (D 54) fun T129 X129 e129 => ?_
  refine own_step (g' := (mkF m 112 #[sR ta, sJ ky, .second, sI jd, sI (Int32.ofNat (own_q ky tt)), sI (pl.getD (own_q ky tt) 0)] [(.int jd), (.int (pl.getD (own_q ky tt) 0)), (.ref ta), (.int (Int32.ofNat (own_q ky tt))), (.ref pa)])) (fun _ q => XS.iload X129.here hx rfl (D 55) rfl (XS.aloadN X129.here hx rfl (D 56) rfl rfl (XS.iload X129.here hx rfl (D 57) rfl (XS.iloadN X129.here hx rfl (D 58) rfl q)))) ?_
  refine own_callS X129 hx hZ hown (w60 hw) (w61 hw) (w62 hw) (w63 hw) (by decide) (own_bO (W := 3) (own_min l Z a0 hw [] (pl.getD (own_q ky tt) 0) jd h0 n0 Z0 ) hZ (w63 hw) (w62 hw) rfl rfl) e129  (by decide) (by decide) (argsL := [(.int (pl.getD (own_q ky tt) 0)), (.int jd)]) (rest := [(.ref ta), (.int (Int32.ofNat (own_q ky tt))), (.ref pa)]) rfl hml.symm (lenOf pd_1 rfl) rfl rfl (own_w0 rfl rfl) (D 59) ?_
  rintro _ T130 L130 X130 ⟨r130, rfl, N130q, e130⟩
  have N131 := Fr.app N123 N130q
  refine own_step (g' := (mkF m 118 #[sR ta, sJ ky, .second, sI jd, sI (Int32.ofNat (own_q ky tt)), sI (pl.getD (own_q ky tt) 0)] [(.int jd), (.int (pl.getD (own_q ky tt) 0)), (.int r130), (.ref ta), (.int (Int32.ofNat (own_q ky tt))), (.ref pa)])) (fun _ q => XS.iload X130.here hx rfl (D 60) rfl (XS.iloadN X130.here hx rfl (D 61) rfl q)) ?_
  refine own_callS X130 hx hZ hown (w64 hw) (w65 hw) (w62 hw) (w66 hw) (by decide) (own_bO (W := 4) (own_max l Z a0 hw [] (pl.getD (own_q ky tt) 0) jd h0 n0 Z0 ) hZ (w66 hw) (w62 hw) rfl rfl) e130  (by decide) (by decide) (argsL := [(.int (pl.getD (own_q ky tt) 0)), (.int jd)]) (rest := [(.int r130), (.ref ta), (.int (Int32.ofNat (own_q ky tt))), (.ref pa)]) rfl hml.symm (lenOf pd_1 rfl) rfl rfl (own_w0 rfl rfl) (D 62) ?_
  rintro _ T132 L132 X132 ⟨r132, rfl, N132q, e132⟩
  have N133 := Fr.app N131 N132q
  refine own_callQ X132 hx hZ hown (w67 hw) (w68 hw) (w13 hw) (w69 hw) (w70 hw) (by decide) (own_bO (W := 2) (own_nl l Z a0 hw [] ta ka pa la sa fa ql qs u r130 r132 h0 n0 Z0 E_ta F_keys_ta F_places_ta F_used_ta F_lists_ta F_listSizes_ta F_freeLists_ta F_freeCount_ta F_listCount_ta V_la V_sa hov ge_ta ge_la ge_sa) hZ (w70 hw) (w14 hw) rfl rfl) e132 E_ta  (by decide) (by decide) (argsL := [(.int r130), (.int r132)]) (rest := [(.int (Int32.ofNat (own_q ky tt))), (.ref pa)]) rfl hml.symm (lenOf pd_1 rfl) rfl rfl (own_w0 rfl rfl) (D 63) ?_
  rintro _ T134 L134 X134 ⟨li134, qi134, rfl, N134q, K134, f0_134, f1_134, f2_134, f3_134, f4_134, f5_134, f6_134, f7_134, f8_134, f9_134, f10_134, f11_134, f12_134⟩
  have n0_135 : n0 ≤ li134 := Nat.le_trans Z0 f0_134
  have sz0_136 := Nat.le_trans (Keep.refl h0 [ta, pa, la, sa]).1 f0_134
  have ne137 : ta ≠ li134 := own_ne E_ta.lt f0_134
  have ne138 : ka ≠ li134 := own_ne V_ka.lt f0_134
  have ne139 : pa ≠ li134 := own_ne V_pa.lt f0_134
  have ne140 : la ≠ li134 := own_ne V_la.lt f0_134
  have ne141 : sa ≠ li134 := own_ne V_sa.lt f0_134
  have lt142 := f12_134.lt
  have N143 := Fr.app N133 N134q
  refine own_step (g' := (mkF m 127 #[sR ta, sJ ky, .second, sI jd, sI (Int32.ofNat (own_q ky tt)), sI (pl.getD (own_q ky tt) 0)] [(.int (-1)), (.int (Int32.ofNat (own_q ky tt))), (.ref pa)])) (fun _ q => XS.ineg X134.here hx rfl (D 64) rfl (XS.iconst X134.here hx rfl (D 65) (XS.isub X134.here hx rfl (D 66) rfl q))) ?_
  have c144 := (V_pa.keep K134 (ninS (Ne.symm ty_ta_pa) (ninS ty_pa_la (ninS ne_pa_sa nin0))))
  obtain ⟨T145, h145, X145, e145, W145, V145, st145⟩ := own_stI X134 hx hZ rfl c144 (j := (Int32.ofNat (own_q ky tt))) (own_qin (own_qlt ky tt)) (i := (own_q ky tt)) (own_nat (by have := (own_qlt ky tt); omega)) (by rw [List.length_map, hpl]; exact (own_qlt ky tt)) (g := (mkF m 127 #[sR ta, sJ ky, .second, sI jd, sI (Int32.ofNat (own_q ky tt)), sI (pl.getD (own_q ky tt) 0)] [(.int (-1)), (.int (Int32.ofNat (own_q ky tt))), (.ref pa)])) rfl rfl (D 67)
  have N146 := Fr.snoc X145 N143 ge_pa
  refine own_step (T' := T145) (g' := (mkF m 128 #[sR ta, sJ ky, .second, sI jd, sI (Int32.ofNat (own_q ky tt)), sI (pl.getD (own_q ky tt) 0)] [])) st145 ?_
  have qV147 : (((pl.map Value.int).set (own_q ky tt) (.int (-1 : Int32))) : List Value) = ((pl.set (own_q ky tt) (-1 : Int32)).map Value.int) := (by rw [List.map_set])
  have V147 : Arv Z h145 pa qp .int (16 : Int32) ((pl.set (own_q ky tt) (-1 : Int32)).map Value.int) (.int (0 : Int32)) := own_fixv qV147 V145
  refine own_step (g' := (mkF m 146 #[sR ta, sJ ky, .second, sI jd, sI (Int32.ofNat (own_q ky tt)), sI (pl.getD (own_q ky tt) 0)] [])) (fun _ q => XS.goto X145.here hx rfl (pc0 := 128) (pc' := 146) rfl (D 68) (by decide) (by decide) q) ?_
  have c148 := (((Keep.refl h0 [ta, pa, la, sa]).trans K134 (allS (Or.inl (List.mem_of_getElem? (i := 0) rfl)) (allS (Or.inl (List.mem_of_getElem? (i := 2) rfl)) (allS (Or.inl (List.mem_of_getElem? (i := 3) rfl)) all0)))).wr W145 (Or.inl (List.mem_of_getElem? (i := 1) rfl)))
  have c149 := (f1_134.wr W145)
  have c150 := (f2_134.other W145 (Or.inl ty_ta_pa))
  have c151 := (f3_134.other W145 (Or.inl ty_ta_pa))
  have c152 := (f4_134.other W145 (Or.inl ty_ta_pa))
  have c153 := (f5_134.other W145 (Or.inl ty_ta_pa))
  have c154 := (f6_134.other W145 (Or.inl ty_ta_pa))
  have c155 := (f7_134.other W145 (Or.inl ty_ta_pa))
  have c156 := (f8_134.other W145 (Or.inl ty_ta_pa))
  have c157 := (f9_134.other W145 (Or.inl ty_ta_pa))
  have c158 := (f10_134.other W145 (Ne.symm ty_pa_la))
  have c159 := (f11_134.other W145 (Ne.symm ne_pa_sa))
  have c160 := (f12_134.other W145 (Ne.symm ne139))
  exact own_retV X145 hx hrt (D 79) hlk (by rw [e145]; exact ⟨li134, qi134, r130, r132, rfl, N146, c148, sz0_136, c149, c150, c151, c152, c153, c154, c155, c156, c157, V147, c158, c159, c160⟩) (by decide) (by decide)
theorem pn_1 : plainName "java/util/Arrays" = true := by first | (simp [plainName, overriddenIn]; done) | decide +kernel
def Q_own_rc2 (Z : State)  (h0 : Heap) (n0 : Nat) (v : Option Value) (h : Heap) (L : List Loc) : Prop := v = none ∧ Fr n0 L ∧ h = h0
set_option maxRecDepth 65536 in
set_option maxHeartbeats 40000000 in
theorem own_rc2 (l : Launch) (Z : State) (a0 : Array Value) (hw : own_HW a0 Z) (ws : List Jvm.Cond)  (h0 : Heap) (n0 : Nat) (Z0 : n0 ≤ h0.size)  :
    own_Met l Z ⟨"java/util/Arrays", "rangeCheck", "(III)V"⟩ jdk_65_method_30_code 3 none ws ⟨0, 0, 0, 0⟩ #[(.int (4 : Int32)), (.int (0 : Int32)), (.int (2 : Int32))] h0 (Q_own_rc2 Z  h0 n0) := by
  refine own_bodyN (g0 := fun m => mkF m 0 #[sI 4, sI 0, sI 2] []) (plainFor_of_name pn_1) (fun _ => rfl) ?_
  intro p e s m below meth c s₁ hx hby hml hrt hlk hown hnm hZ e0 X0
  have D := own_d hby kD14
  refine own_step (g' := (mkF m 73 #[sI 4, sI 0, sI 2] [])) (fun _ q => XS.iloadN X0.here hx rfl (D 0) rfl (XS.iloadN X0.here hx rfl (D 1) rfl (XS.icmpYes X0.here hx rfl (pc0 := 2) (pc' := 46) rfl (D 2) rfl (by decide) (by decide) (by decide) (XS.iloadN X0.here hx rfl (D 3) rfl (XS.ifYes X0.here hx rfl (pc0 := 47) (pc' := 59) rfl (D 4) rfl (by decide) (by decide) (by decide) (XS.iloadN X0.here hx rfl (D 5) rfl (XS.iloadN X0.here hx rfl (D 6) rfl (XS.icmpYes X0.here hx rfl (pc0 := 61) (pc' := 73) rfl (D 7) rfl (by decide) (by decide) (by decide) q)))))))) ?_
  exact own_retV X0 hx hrt (D 8) hlk ⟨rfl, (Fr.nil n0), e0⟩ (by decide) (by decide)
def Q_own_bz2 (Z : State) (li : Addr) (qi : ClassId) (y0 y1 y2 y3 jd : Int32) (h0 : Heap) (n0 : Nat) (v : Option Value) (h : Heap) (L : List Loc) : Prop := ∃ (r : Int32), v = some (.int r) ∧ Fr n0 L ∧ h = h0 ∧ (r = (0 : Int32) ∨ r = (1 : Int32) ∨ r = (-1 : Int32) ∨ r = (-2 : Int32) ∨ r = (-3 : Int32))
set_option maxRecDepth 65536 in
set_option maxHeartbeats 40000000 in
theorem own_bz2 (l : Launch) (Z : State) (a0 : Array Value) (hw : own_HW a0 Z) (ws : List Jvm.Cond) (li : Addr) (qi : ClassId) (y0 y1 y2 y3 jd : Int32) (h0 : Heap) (n0 : Nat) (Z0 : n0 ≤ h0.size) (V_li : Arv Z h0 li qi .int (4 : Int32) [(.int y0), (.int y1), (.int y2), (.int y3)] (.int (0 : Int32))) :
    own_Met l Z ⟨"java/util/Arrays", "binarySearch0", "([IIII)I"⟩ jdk_65_method_59_code 8 (some .int) ws ⟨0, 0, 0, 0⟩ #[(.ref li), (.int (0 : Int32)), (.int (2 : Int32)), (.int jd)] h0 (Q_own_bz2 Z li qi y0 y1 y2 y3 jd h0 n0) := by
  refine own_bodyN (g0 := fun m => mkF m 0 #[sR li, sI 0, sI 2, sI jd, .unset, .unset, .unset, .unset] []) (plainFor_of_name pn_1) (fun _ => rfl) ?_
  intro p e s m below meth c s₁ hx hby hml hrt hlk hown hnm hZ e0 X0
  have D := own_d hby kD15
  refine own_step (g' := (mkF m 17 #[sR li, sI 0, sI 2, sI jd, sI 0, sI 1, .unset, .unset] [(.int 0)])) (fun _ q => XS.iloadN X0.here hx rfl (D 0) rfl (XS.istore X0.here hx rfl (D 1) rfl (l' := #[sR li, sI 0, sI 2, sI jd, sI 0, .unset, .unset, .unset]) rfl (XS.iloadN X0.here hx rfl (D 2) rfl (XS.iconst X0.here hx rfl (D 3) (XS.isub X0.here hx rfl (D 4) rfl (XS.istore X0.here hx rfl (D 5) rfl (l' := #[sR li, sI 0, sI 2, sI jd, sI 0, sI 1, .unset, .unset]) rfl (XS.iload X0.here hx rfl (D 6) rfl (XS.iload X0.here hx rfl (D 7) rfl (XS.icmpNo X0.here hx rfl (D 8) rfl (by decide) (XS.iload X0.here hx rfl (D 9) rfl q)))))))))) ?_
  refine own_step (g' := (mkF m 32 #[sR li, sI 0, sI 2, sI jd, sI 0, sI 1, sI 0, sI y0] [(.int y0)])) (fun _ q => XS.iload X0.here hx rfl (D 10) rfl (XS.iadd X0.here hx rfl (D 11) rfl (XS.iconst X0.here hx rfl (D 12) (XT.iushr X0.here hx rfl (D 13) rfl (XS.istore X0.here hx rfl (D 14) rfl (l' := #[sR li, sI 0, sI 2, sI jd, sI 0, sI 1, sI 0, .unset]) rfl (XS.aloadN X0.here hx rfl (D 15) rfl rfl (XS.iload X0.here hx rfl (D 16) rfl (own_ldI X0 hx hZ e0 V_li (j := (0 : Int32)) ⟨by decide, by decide⟩ (v := (.int y0)) rfl (g := (mkF m 27 #[sR li, sI 0, sI 2, sI jd, sI 0, sI 1, sI 0, .unset] [(.int 0), (.ref li)])) rfl rfl (D 17) _ (XS.istore X0.here hx rfl (D 18) rfl (l' := #[sR li, sI 0, sI 2, sI jd, sI 0, sI 1, sI 0, sI y0]) rfl (XS.iload X0.here hx rfl (D 19) rfl q)))))))))) ?_
  refine own_step (g' := (mkF m 33 #[sR li, sI 0, sI 2, sI jd, sI 0, sI 1, sI 0, sI y0] [(.int jd), (.int y0)])) (fun _ q => XS.iloadN X0.here hx rfl (D 20) rfl q) ?_
  by_cases hc161 : y0 < jd
  · refine own_step (g' := (mkF m 15 #[sR li, sI 0, sI 2, sI jd, sI 1, sI 1, sI 0, sI y0] [])) (fun _ q => XS.icmpNo X0.here hx rfl (D 21) rfl (XT.ii_ge_f hc161) (XS.iload X0.here hx rfl (D 22) rfl (XS.iconst X0.here hx rfl (D 23) (XS.iadd X0.here hx rfl (D 24) rfl (XS.istore X0.here hx rfl (D 25) rfl (l' := #[sR li, sI 0, sI 2, sI jd, sI 1, sI 1, sI 0, sI y0]) rfl (XS.goto X0.here hx rfl (pc0 := 42) (pc' := 63) rfl (D 26) (by decide) (by decide) (XS.goto X0.here hx rfl (pc0 := 63) (pc' := 8) rfl (D 37) (by decide) (by decide) (XS.iload X0.here hx rfl (D 6) rfl (XS.iload X0.here hx rfl (D 7) rfl (XS.icmpNo X0.here hx rfl (D 8) rfl (by decide) q)))))))))) ?_
    refine own_step (g' := (mkF m 30 #[sR li, sI 0, sI 2, sI jd, sI 1, sI 1, sI 1, sI y1] [])) (fun _ q => XS.iload X0.here hx rfl (D 9) rfl (XS.iload X0.here hx rfl (D 10) rfl (XS.iadd X0.here hx rfl (D 11) rfl (XS.iconst X0.here hx rfl (D 12) (XT.iushr X0.here hx rfl (D 13) rfl (XS.istore X0.here hx rfl (D 14) rfl (l' := #[sR li, sI 0, sI 2, sI jd, sI 1, sI 1, sI 1, sI y0]) rfl (XS.aloadN X0.here hx rfl (D 15) rfl rfl (XS.iload X0.here hx rfl (D 16) rfl (own_ldI X0 hx hZ e0 V_li (j := (1 : Int32)) ⟨by decide, by decide⟩ (v := (.int y1)) rfl (g := (mkF m 27 #[sR li, sI 0, sI 2, sI jd, sI 1, sI 1, sI 1, sI y0] [(.int 1), (.ref li)])) rfl rfl (D 17) _ (XS.istore X0.here hx rfl (D 18) rfl (l' := #[sR li, sI 0, sI 2, sI jd, sI 1, sI 1, sI 1, sI y1]) rfl q)))))))))) ?_
    refine own_step (g' := (mkF m 33 #[sR li, sI 0, sI 2, sI jd, sI 1, sI 1, sI 1, sI y1] [(.int jd), (.int y1)])) (fun _ q => XS.iload X0.here hx rfl (D 19) rfl (XS.iloadN X0.here hx rfl (D 20) rfl q)) ?_
    by_cases hc162 : y1 < jd
    · refine own_step (g' := (mkF m 66 #[sR li, sI 0, sI 2, sI jd, sI 2, sI 1, sI 1, sI y1] [])) (fun _ q => XS.icmpNo X0.here hx rfl (D 21) rfl (XT.ii_ge_f hc162) (XS.iload X0.here hx rfl (D 22) rfl (XS.iconst X0.here hx rfl (D 23) (XS.iadd X0.here hx rfl (D 24) rfl (XS.istore X0.here hx rfl (D 25) rfl (l' := #[sR li, sI 0, sI 2, sI jd, sI 2, sI 1, sI 1, sI y1]) rfl (XS.goto X0.here hx rfl (pc0 := 42) (pc' := 63) rfl (D 26) (by decide) (by decide) (XS.goto X0.here hx rfl (pc0 := 63) (pc' := 8) rfl (D 37) (by decide) (by decide) (XS.iload X0.here hx rfl (D 6) rfl (XS.iload X0.here hx rfl (D 7) rfl (XS.icmpYes X0.here hx rfl (pc0 := 12) (pc' := 66) rfl (D 8) rfl (by decide) (by decide) (by decide) q)))))))))) ?_
      refine own_step (g' := (mkF m 71 #[sR li, sI 0, sI 2, sI jd, sI 2, sI 1, sI 1, sI y1] [(.int (-3))])) (fun _ q => XS.iload X0.here hx rfl (D 38) rfl (XS.iconst X0.here hx rfl (D 39) (XS.iadd X0.here hx rfl (D 40) rfl (XS.ineg X0.here hx rfl (D 41) rfl q)))) ?_
      exact own_retI X0 hx hrt (D 42) hlk ⟨(-3 : Int32), rfl, (Fr.nil n0), e0, (Or.inr (Or.inr (Or.inr (Or.inr (rfl)))))⟩ (by decide) (by decide)
    · refine own_step (g' := (mkF m 48 #[sR li, sI 0, sI 2, sI jd, sI 1, sI 1, sI 1, sI y1] [(.int jd), (.int y1)])) (fun _ q => XS.icmpYes X0.here hx rfl (pc0 := 33) (pc' := 45) rfl (D 21) rfl (XT.ii_ge_t hc162) (by decide) (by decide) (XS.iload X0.here hx rfl (D 27) rfl (XS.iloadN X0.here hx rfl (D 28) rfl q))) ?_
      by_cases hc163 : jd < y1
      · refine own_step (g' := (mkF m 66 #[sR li, sI 0, sI 2, sI jd, sI 1, sI 0, sI 1, sI y1] [])) (fun _ q => XS.icmpNo X0.here hx rfl (D 29) rfl (XT.ii_le_f hc163) (XS.iload X0.here hx rfl (D 30) rfl (XS.iconst X0.here hx rfl (D 31) (XS.isub X0.here hx rfl (D 32) rfl (XS.istore X0.here hx rfl (D 33) rfl (l' := #[sR li, sI 0, sI 2, sI jd, sI 1, sI 0, sI 1, sI y1]) rfl (XS.goto X0.here hx rfl (pc0 := 57) (pc' := 63) rfl (D 34) (by decide) (by decide) (XS.goto X0.here hx rfl (pc0 := 63) (pc' := 8) rfl (D 37) (by decide) (by decide) (XS.iload X0.here hx rfl (D 6) rfl (XS.iload X0.here hx rfl (D 7) rfl (XS.icmpYes X0.here hx rfl (pc0 := 12) (pc' := 66) rfl (D 8) rfl (by decide) (by decide) (by decide) q)))))))))) ?_
        refine own_step (g' := (mkF m 71 #[sR li, sI 0, sI 2, sI jd, sI 1, sI 0, sI 1, sI y1] [(.int (-2))])) (fun _ q => XS.iload X0.here hx rfl (D 38) rfl (XS.iconst X0.here hx rfl (D 39) (XS.iadd X0.here hx rfl (D 40) rfl (XS.ineg X0.here hx rfl (D 41) rfl q)))) ?_
        exact own_retI X0 hx hrt (D 42) hlk ⟨(-2 : Int32), rfl, (Fr.nil n0), e0, (Or.inr (Or.inr (Or.inr (Or.inl rfl))))⟩ (by decide) (by decide)
      · refine own_step (g' := (mkF m 62 #[sR li, sI 0, sI 2, sI jd, sI 1, sI 1, sI 1, sI y1] [(.int 1)])) (fun _ q => XS.icmpYes X0.here hx rfl (pc0 := 48) (pc' := 60) rfl (D 29) rfl (XT.ii_le_t hc163) (by decide) (by decide) (XS.iload X0.here hx rfl (D 35) rfl q)) ?_
        exact own_retI X0 hx hrt (D 36) hlk ⟨(1 : Int32), rfl, (Fr.nil n0), e0, (Or.inr (Or.inl rfl))⟩ (by decide) (by decide)
  · refine own_step (g' := (mkF m 48 #[sR li, sI 0, sI 2, sI jd, sI 0, sI 1, sI 0, sI y0] [(.int jd), (.int y0)])) (fun _ q => XS.icmpYes X0.here hx rfl (pc0 := 33) (pc' := 45) rfl (D 21) rfl (XT.ii_ge_t hc161) (by decide) (by decide) (XS.iload X0.here hx rfl (D 27) rfl (XS.iloadN X0.here hx rfl (D 28) rfl q))) ?_
    by_cases hc164 : jd < y0
    · refine own_step (g' := (mkF m 66 #[sR li, sI 0, sI 2, sI jd, sI 0, sI (-1), sI 0, sI y0] [])) (fun _ q => XS.icmpNo X0.here hx rfl (D 29) rfl (XT.ii_le_f hc164) (XS.iload X0.here hx rfl (D 30) rfl (XS.iconst X0.here hx rfl (D 31) (XS.isub X0.here hx rfl (D 32) rfl (XS.istore X0.here hx rfl (D 33) rfl (l' := #[sR li, sI 0, sI 2, sI jd, sI 0, sI (-1), sI 0, sI y0]) rfl (XS.goto X0.here hx rfl (pc0 := 57) (pc' := 63) rfl (D 34) (by decide) (by decide) (XS.goto X0.here hx rfl (pc0 := 63) (pc' := 8) rfl (D 37) (by decide) (by decide) (XS.iload X0.here hx rfl (D 6) rfl (XS.iload X0.here hx rfl (D 7) rfl (XS.icmpYes X0.here hx rfl (pc0 := 12) (pc' := 66) rfl (D 8) rfl (by decide) (by decide) (by decide) q)))))))))) ?_
      refine own_step (g' := (mkF m 71 #[sR li, sI 0, sI 2, sI jd, sI 0, sI (-1), sI 0, sI y0] [(.int (-1))])) (fun _ q => XS.iload X0.here hx rfl (D 38) rfl (XS.iconst X0.here hx rfl (D 39) (XS.iadd X0.here hx rfl (D 40) rfl (XS.ineg X0.here hx rfl (D 41) rfl q)))) ?_
      exact own_retI X0 hx hrt (D 42) hlk ⟨(-1 : Int32), rfl, (Fr.nil n0), e0, (Or.inr (Or.inr (Or.inl rfl)))⟩ (by decide) (by decide)
    · refine own_step (g' := (mkF m 62 #[sR li, sI 0, sI 2, sI jd, sI 0, sI 1, sI 0, sI y0] [(.int 0)])) (fun _ q => XS.icmpYes X0.here hx rfl (pc0 := 48) (pc' := 60) rfl (D 29) rfl (XT.ii_le_t hc164) (by decide) (by decide) (XS.iload X0.here hx rfl (D 35) rfl q)) ?_
      exact own_retI X0 hx hrt (D 36) hlk ⟨(0 : Int32), rfl, (Fr.nil n0), e0, (Or.inl rfl)⟩ (by decide) (by decide)
theorem pd_2 : parseMethodDescriptor "(III)V" = some ⟨[.int, .int, .int], none⟩ := by decide +kernel
theorem pd_3 : parseMethodDescriptor "([IIII)I" = some ⟨[(.array .int), .int, .int, .int], some .int⟩ := by decide +kernel
def Q_own_bs2 (Z : State) (li : Addr) (qi : ClassId) (y0 y1 y2 y3 jd : Int32) (h0 : Heap) (n0 : Nat) (v : Option Value) (h : Heap) (L : List Loc) : Prop := ∃ (r : Int32), v = some (.int r) ∧ Fr n0 L ∧ h = h0 ∧ (r = (0 : Int32) ∨ r = (1 : Int32) ∨ r = (-1 : Int32) ∨ r = (-2 : Int32) ∨ r = (-3 : Int32))
set_option maxRecDepth 65536 in
set_option maxHeartbeats 40000000 in
theorem own_bs2 (l : Launch) (Z : State) (a0 : Array Value) (hw : own_HW a0 Z) (ws : List Jvm.Cond) (li : Addr) (qi : ClassId) (y0 y1 y2 y3 jd : Int32) (h0 : Heap) (n0 : Nat) (Z0 : n0 ≤ h0.size) (V_li : Arv Z h0 li qi .int (4 : Int32) [(.int y0), (.int y1), (.int y2), (.int y3)] (.int (0 : Int32))) :
    own_Met l Z ⟨"java/util/Arrays", "binarySearch", "([IIII)I"⟩ jdk_65_method_58_code 4 (some .int) ws ⟨1, 0, 0, 19⟩ #[(.ref li), (.int (0 : Int32)), (.int (2 : Int32)), (.int jd)] h0 (Q_own_bs2 Z li qi y0 y1 y2 y3 jd h0 n0) := by
  refine own_bodyN (g0 := fun m => mkF m 0 #[sR li, sI 0, sI 2, sI jd] []) (plainFor_of_name pn_1) (fun _ => rfl) ?_
  intro p e s m below meth c s₁ hx hby hml hrt hlk hown hnm hZ e0 X0
  have D := own_d hby kD13
  refine own_step (g' := (mkF m 4 #[sR li, sI 0, sI 2, sI jd] [(.int 2), (.int 0), (.int 4)])) (fun _ q => XS.aloadN X0.here hx rfl (D 0) rfl rfl (own_len X0 hx hZ e0 V_li (g := (mkF m 1 #[sR li, sI 0, sI 2, sI jd] [(.ref li)])) rfl rfl (D 1) _ (XS.iloadN X0.here hx rfl (D 2) rfl (XS.iloadN X0.here hx rfl (D 3) rfl q)))) ?_
  refine own_callS X0 hx hZ hown (w84 hw) (w85 hw) (w82 hw) (w86 hw) (by decide) (own_bO (W := 0) (own_rc2 l Z a0 hw []  h0 n0 Z0 ) hZ (w86 hw) (w82 hw) rfl rfl) e0  (by decide) (by decide) (argsL := [(.int (4 : Int32)), (.int (0 : Int32)), (.int (2 : Int32))]) (rest := []) rfl hml.symm (lenOf pd_2 rfl) rfl rfl (own_w0 rfl rfl) (D 4) ?_
  rintro _ T165 L165 X165 ⟨rfl, N165q, e165⟩
  have N166 := Fr.app (Fr.nil n0) N165q
  refine own_step (g' := (mkF m 11 #[sR li, sI 0, sI 2, sI jd] [(.int jd), (.int 2), (.int 0), (.ref li)])) (fun _ q => XS.aloadN X165.here hx rfl (D 5) rfl rfl (XS.iloadN X165.here hx rfl (D 6) rfl (XS.iloadN X165.here hx rfl (D 7) rfl (XS.iloadN X165.here hx rfl (D 8) rfl q)))) ?_
  refine own_callS X165 hx hZ hown (w87 hw) (w88 hw) (w82 hw) (w89 hw) (by decide) (own_bO (W := 0) (own_bz2 l Z a0 hw [] li qi y0 y1 y2 y3 jd h0 n0 Z0 V_li) hZ (w89 hw) (w82 hw) rfl rfl) e165  (by decide) (by decide) (argsL := [(.ref li), (.int (0 : Int32)), (.int (2 : Int32)), (.int jd)]) (rest := []) rfl hml.symm (lenOf pd_3 rfl) rfl rfl (own_w0 rfl rfl) (D 9) ?_
  rintro _ T167 L167 X167 ⟨r167, rfl, N167q, e167, p0_167⟩
  have N168 := Fr.app N166 N167q
  exact own_retI X167 hx hrt (D 10) hlk ⟨r167, rfl, N168, e167, p0_167⟩ (by decide) (by decide)
def Q_own_rc3 (Z : State)  (h0 : Heap) (n0 : Nat) (v : Option Value) (h : Heap) (L : List Loc) : Prop := v = none ∧ Fr n0 L ∧ h = h0
set_option maxRecDepth 65536 in
set_option maxHeartbeats 40000000 in
theorem own_rc3 (l : Launch) (Z : State) (a0 : Array Value) (hw : own_HW a0 Z) (ws : List Jvm.Cond)  (h0 : Heap) (n0 : Nat) (Z0 : n0 ≤ h0.size)  :
    own_Met l Z ⟨"java/util/Arrays", "rangeCheck", "(III)V"⟩ jdk_65_method_30_code 3 none ws ⟨0, 0, 0, 0⟩ #[(.int (4 : Int32)), (.int (0 : Int32)), (.int (3 : Int32))] h0 (Q_own_rc3 Z  h0 n0) := by
  refine own_bodyN (g0 := fun m => mkF m 0 #[sI 4, sI 0, sI 3] []) (plainFor_of_name pn_1) (fun _ => rfl) ?_
  intro p e s m below meth c s₁ hx hby hml hrt hlk hown hnm hZ e0 X0
  have D := own_d hby kD14
  refine own_step (g' := (mkF m 73 #[sI 4, sI 0, sI 3] [])) (fun _ q => XS.iloadN X0.here hx rfl (D 0) rfl (XS.iloadN X0.here hx rfl (D 1) rfl (XS.icmpYes X0.here hx rfl (pc0 := 2) (pc' := 46) rfl (D 2) rfl (by decide) (by decide) (by decide) (XS.iloadN X0.here hx rfl (D 3) rfl (XS.ifYes X0.here hx rfl (pc0 := 47) (pc' := 59) rfl (D 4) rfl (by decide) (by decide) (by decide) (XS.iloadN X0.here hx rfl (D 5) rfl (XS.iloadN X0.here hx rfl (D 6) rfl (XS.icmpYes X0.here hx rfl (pc0 := 61) (pc' := 73) rfl (D 7) rfl (by decide) (by decide) (by decide) q)))))))) ?_
  exact own_retV X0 hx hrt (D 8) hlk ⟨rfl, (Fr.nil n0), e0⟩ (by decide) (by decide)
def Q_own_bz3 (Z : State) (li : Addr) (qi : ClassId) (y0 y1 y2 y3 jd : Int32) (h0 : Heap) (n0 : Nat) (v : Option Value) (h : Heap) (L : List Loc) : Prop := ∃ (r : Int32), v = some (.int r) ∧ Fr n0 L ∧ h = h0 ∧ (r = (0 : Int32) ∨ r = (1 : Int32) ∨ r = (2 : Int32) ∨ r = (-1 : Int32) ∨ r = (-2 : Int32) ∨ r = (-3 : Int32) ∨ r = (-4 : Int32))
set_option maxRecDepth 65536 in
set_option maxHeartbeats 40000000 in
theorem own_bz3 (l : Launch) (Z : State) (a0 : Array Value) (hw : own_HW a0 Z) (ws : List Jvm.Cond) (li : Addr) (qi : ClassId) (y0 y1 y2 y3 jd : Int32) (h0 : Heap) (n0 : Nat) (Z0 : n0 ≤ h0.size) (V_li : Arv Z h0 li qi .int (4 : Int32) [(.int y0), (.int y1), (.int y2), (.int y3)] (.int (0 : Int32))) :
    own_Met l Z ⟨"java/util/Arrays", "binarySearch0", "([IIII)I"⟩ jdk_65_method_59_code 8 (some .int) ws ⟨0, 0, 0, 0⟩ #[(.ref li), (.int (0 : Int32)), (.int (3 : Int32)), (.int jd)] h0 (Q_own_bz3 Z li qi y0 y1 y2 y3 jd h0 n0) := by
  refine own_bodyN (g0 := fun m => mkF m 0 #[sR li, sI 0, sI 3, sI jd, .unset, .unset, .unset, .unset] []) (plainFor_of_name pn_1) (fun _ => rfl) ?_
  intro p e s m below meth c s₁ hx hby hml hrt hlk hown hnm hZ e0 X0
  have D := own_d hby kD15
  refine own_step (g' := (mkF m 17 #[sR li, sI 0, sI 3, sI jd, sI 0, sI 2, .unset, .unset] [(.int 0)])) (fun _ q => XS.iloadN X0.here hx rfl (D 0) rfl (XS.istore X0.here hx rfl (D 1) rfl (l' := #[sR li, sI 0, sI 3, sI jd, sI 0, .unset, .unset, .unset]) rfl (XS.iloadN X0.here hx rfl (D 2) rfl (XS.iconst X0.here hx rfl (D 3) (XS.isub X0.here hx rfl (D 4) rfl (XS.istore X0.here hx rfl (D 5) rfl (l' := #[sR li, sI 0, sI 3, sI jd, sI 0, sI 2, .unset, .unset]) rfl (XS.iload X0.here hx rfl (D 6) rfl (XS.iload X0.here hx rfl (D 7) rfl (XS.icmpNo X0.here hx rfl (D 8) rfl (by decide) (XS.iload X0.here hx rfl (D 9) rfl q)))))))))) ?_
  refine own_step (g' := (mkF m 32 #[sR li, sI 0, sI 3, sI jd, sI 0, sI 2, sI 1, sI y1] [(.int y1)])) (fun _ q => XS.iload X0.here hx rfl (D 10) rfl (XS.iadd X0.here hx rfl (D 11) rfl (XS.iconst X0.here hx rfl (D 12) (XT.iushr X0.here hx rfl (D 13) rfl (XS.istore X0.here hx rfl (D 14) rfl (l' := #[sR li, sI 0, sI 3, sI jd, sI 0, sI 2, sI 1, .unset]) rfl (XS.aloadN X0.here hx rfl (D 15) rfl rfl (XS.iload X0.here hx rfl (D 16) rfl (own_ldI X0 hx hZ e0 V_li (j := (1 : Int32)) ⟨by decide, by decide⟩ (v := (.int y1)) rfl (g := (mkF m 27 #[sR li, sI 0, sI 3, sI jd, sI 0, sI 2, sI 1, .unset] [(.int 1), (.ref li)])) rfl rfl (D 17) _ (XS.istore X0.here hx rfl (D 18) rfl (l' := #[sR li, sI 0, sI 3, sI jd, sI 0, sI 2, sI 1, sI y1]) rfl (XS.iload X0.here hx rfl (D 19) rfl q)))))))))) ?_
  refine own_step (g' := (mkF m 33 #[sR li, sI 0, sI 3, sI jd, sI 0, sI 2, sI 1, sI y1] [(.int jd), (.int y1)])) (fun _ q => XS.iloadN X0.here hx rfl (D 20) rfl q) ?_
  by_cases hc169 : y1 < jd
  · refine own_step (g' := (mkF m 15 #[sR li, sI 0, sI 3, sI jd, sI 2, sI 2, sI 1, sI y1] [])) (fun _ q => XS.icmpNo X0.here hx rfl (D 21) rfl (XT.ii_ge_f hc169) (XS.iload X0.here hx rfl (D 22) rfl (XS.iconst X0.here hx rfl (D 23) (XS.iadd X0.here hx rfl (D 24) rfl (XS.istore X0.here hx rfl (D 25) rfl (l' := #[sR li, sI 0, sI 3, sI jd, sI 2, sI 2, sI 1, sI y1]) rfl (XS.goto X0.here hx rfl (pc0 := 42) (pc' := 63) rfl (D 26) (by decide) (by decide) (XS.goto X0.here hx rfl (pc0 := 63) (pc' := 8) rfl (D 37) (by decide) (by decide) (XS.iload X0.here hx rfl (D 6) rfl (XS.iload X0.here hx rfl (D 7) rfl (XS.icmpNo X0.here hx rfl (D 8) rfl (by decide) q)))))))))) ?_
    refine own_step (g' := (mkF m 30 #[sR li, sI 0, sI 3, sI jd, sI 2, sI 2, sI 2, sI y2] [])) (fun _ q => XS.iload X0.here hx rfl (D 9) rfl (XS.iload X0.here hx rfl (D 10) rfl (XS.iadd X0.here hx rfl (D 11) rfl (XS.iconst X0.here hx rfl (D 12) (XT.iushr X0.here hx rfl (D 13) rfl (XS.istore X0.here hx rfl (D 14) rfl (l' := #[sR li, sI 0, sI 3, sI jd, sI 2, sI 2, sI 2, sI y1]) rfl (XS.aloadN X0.here hx rfl (D 15) rfl rfl (XS.iload X0.here hx rfl (D 16) rfl (own_ldI X0 hx hZ e0 V_li (j := (2 : Int32)) ⟨by decide, by decide⟩ (v := (.int y2)) rfl (g := (mkF m 27 #[sR li, sI 0, sI 3, sI jd, sI 2, sI 2, sI 2, sI y1] [(.int 2), (.ref li)])) rfl rfl (D 17) _ (XS.istore X0.here hx rfl (D 18) rfl (l' := #[sR li, sI 0, sI 3, sI jd, sI 2, sI 2, sI 2, sI y2]) rfl q)))))))))) ?_
    refine own_step (g' := (mkF m 33 #[sR li, sI 0, sI 3, sI jd, sI 2, sI 2, sI 2, sI y2] [(.int jd), (.int y2)])) (fun _ q => XS.iload X0.here hx rfl (D 19) rfl (XS.iloadN X0.here hx rfl (D 20) rfl q)) ?_
    by_cases hc170 : y2 < jd
    · refine own_step (g' := (mkF m 66 #[sR li, sI 0, sI 3, sI jd, sI 3, sI 2, sI 2, sI y2] [])) (fun _ q => XS.icmpNo X0.here hx rfl (D 21) rfl (XT.ii_ge_f hc170) (XS.iload X0.here hx rfl (D 22) rfl (XS.iconst X0.here hx rfl (D 23) (XS.iadd X0.here hx rfl (D 24) rfl (XS.istore X0.here hx rfl (D 25) rfl (l' := #[sR li, sI 0, sI 3, sI jd, sI 3, sI 2, sI 2, sI y2]) rfl (XS.goto X0.here hx rfl (pc0 := 42) (pc' := 63) rfl (D 26) (by decide) (by decide) (XS.goto X0.here hx rfl (pc0 := 63) (pc' := 8) rfl (D 37) (by decide) (by decide) (XS.iload X0.here hx rfl (D 6) rfl (XS.iload X0.here hx rfl (D 7) rfl (XS.icmpYes X0.here hx rfl (pc0 := 12) (pc' := 66) rfl (D 8) rfl (by decide) (by decide) (by decide) q)))))))))) ?_
      refine own_step (g' := (mkF m 71 #[sR li, sI 0, sI 3, sI jd, sI 3, sI 2, sI 2, sI y2] [(.int (-4))])) (fun _ q => XS.iload X0.here hx rfl (D 38) rfl (XS.iconst X0.here hx rfl (D 39) (XS.iadd X0.here hx rfl (D 40) rfl (XS.ineg X0.here hx rfl (D 41) rfl q)))) ?_
      exact own_retI X0 hx hrt (D 42) hlk ⟨(-4 : Int32), rfl, (Fr.nil n0), e0, (Or.inr (Or.inr (Or.inr (Or.inr (Or.inr (Or.inr (rfl)))))))⟩ (by decide) (by decide)
    · refine own_step (g' := (mkF m 48 #[sR li, sI 0, sI 3, sI jd, sI 2, sI 2, sI 2, sI y2] [(.int jd), (.int y2)])) (fun _ q => XS.icmpYes X0.here hx rfl (pc0 := 33) (pc' := 45) rfl (D 21) rfl (XT.ii_ge_t hc170) (by decide) (by decide) (XS.iload X0.here hx rfl (D 27) rfl (XS.iloadN X0.here hx rfl (D 28) rfl q))) ?_
      by_cases hc171 : jd < y2
      · refine own_step (g' := (mkF m 66 #[sR li, sI 0, sI 3, sI jd, sI 2, sI 1, sI 2, sI y2] [])) (fun _ q => XS.icmpNo X0.here hx rfl (D 29) rfl (XT.ii_le_f hc171) (XS.iload X0.here hx rfl (D 30) rfl (XS.iconst X0.here hx rfl (D 31) (XS.isub X0.here hx rfl (D 32) rfl (XS.istore X0.here hx rfl (D 33) rfl (l' := #[sR li, sI 0, sI 3, sI jd, sI 2, sI 1, sI 2, sI y2]) rfl (XS.goto X0.here hx rfl (pc0 := 57) (pc' := 63) rfl (D 34) (by decide) (by decide) (XS.goto X0.here hx rfl (pc0 := 63) (pc' := 8) rfl (D 37) (by decide) (by decide) (XS.iload X0.here hx rfl (D 6) rfl (XS.iload X0.here hx rfl (D 7) rfl (XS.icmpYes X0.here hx rfl (pc0 := 12) (pc' := 66) rfl (D 8) rfl (by decide) (by decide) (by decide) q)))))))))) ?_
        refine own_step (g' := (mkF m 71 #[sR li, sI 0, sI 3, sI jd, sI 2, sI 1, sI 2, sI y2] [(.int (-3))])) (fun _ q => XS.iload X0.here hx rfl (D 38) rfl (XS.iconst X0.here hx rfl (D 39) (XS.iadd X0.here hx rfl (D 40) rfl (XS.ineg X0.here hx rfl (D 41) rfl q)))) ?_
        exact own_retI X0 hx hrt (D 42) hlk ⟨(-3 : Int32), rfl, (Fr.nil n0), e0, (Or.inr (Or.inr (Or.inr (Or.inr (Or.inr (Or.inl rfl))))))⟩ (by decide) (by decide)
      · refine own_step (g' := (mkF m 62 #[sR li, sI 0, sI 3, sI jd, sI 2, sI 2, sI 2, sI y2] [(.int 2)])) (fun _ q => XS.icmpYes X0.here hx rfl (pc0 := 48) (pc' := 60) rfl (D 29) rfl (XT.ii_le_t hc171) (by decide) (by decide) (XS.iload X0.here hx rfl (D 35) rfl q)) ?_
        exact own_retI X0 hx hrt (D 36) hlk ⟨(2 : Int32), rfl, (Fr.nil n0), e0, (Or.inr (Or.inr (Or.inl rfl)))⟩ (by decide) (by decide)
  · refine own_step (g' := (mkF m 48 #[sR li, sI 0, sI 3, sI jd, sI 0, sI 2, sI 1, sI y1] [(.int jd), (.int y1)])) (fun _ q => XS.icmpYes X0.here hx rfl (pc0 := 33) (pc' := 45) rfl (D 21) rfl (XT.ii_ge_t hc169) (by decide) (by decide) (XS.iload X0.here hx rfl (D 27) rfl (XS.iloadN X0.here hx rfl (D 28) rfl q))) ?_
    by_cases hc172 : jd < y1
    · refine own_step (g' := (mkF m 15 #[sR li, sI 0, sI 3, sI jd, sI 0, sI 0, sI 1, sI y1] [])) (fun _ q => XS.icmpNo X0.here hx rfl (D 29) rfl (XT.ii_le_f hc172) (XS.iload X0.here hx rfl (D 30) rfl (XS.iconst X0.here hx rfl (D 31) (XS.isub X0.here hx rfl (D 32) rfl (XS.istore X0.here hx rfl (D 33) rfl (l' := #[sR li, sI 0, sI 3, sI jd, sI 0, sI 0, sI 1, sI y1]) rfl (XS.goto X0.here hx rfl (pc0 := 57) (pc' := 63) rfl (D 34) (by decide) (by decide) (XS.goto X0.here hx rfl (pc0 := 63) (pc' := 8) rfl (D 37) (by decide) (by decide) (XS.iload X0.here hx rfl (D 6) rfl (XS.iload X0.here hx rfl (D 7) rfl (XS.icmpNo X0.here hx rfl (D 8) rfl (by decide) q)))))))))) ?_
      refine own_step (g' := (mkF m 30 #[sR li, sI 0, sI 3, sI jd, sI 0, sI 0, sI 0, sI y0] [])) (fun _ q => XS.iload X0.here hx rfl (D 9) rfl (XS.iload X0.here hx rfl (D 10) rfl (XS.iadd X0.here hx rfl (D 11) rfl (XS.iconst X0.here hx rfl (D 12) (XT.iushr X0.here hx rfl (D 13) rfl (XS.istore X0.here hx rfl (D 14) rfl (l' := #[sR li, sI 0, sI 3, sI jd, sI 0, sI 0, sI 0, sI y1]) rfl (XS.aloadN X0.here hx rfl (D 15) rfl rfl (XS.iload X0.here hx rfl (D 16) rfl (own_ldI X0 hx hZ e0 V_li (j := (0 : Int32)) ⟨by decide, by decide⟩ (v := (.int y0)) rfl (g := (mkF m 27 #[sR li, sI 0, sI 3, sI jd, sI 0, sI 0, sI 0, sI y1] [(.int 0), (.ref li)])) rfl rfl (D 17) _ (XS.istore X0.here hx rfl (D 18) rfl (l' := #[sR li, sI 0, sI 3, sI jd, sI 0, sI 0, sI 0, sI y0]) rfl q)))))))))) ?_
      refine own_step (g' := (mkF m 33 #[sR li, sI 0, sI 3, sI jd, sI 0, sI 0, sI 0, sI y0] [(.int jd), (.int y0)])) (fun _ q => XS.iload X0.here hx rfl (D 19) rfl (XS.iloadN X0.here hx rfl (D 20) rfl q)) ?_
      by_cases hc173 : y0 < jd
      · refine own_step (g' := (mkF m 66 #[sR li, sI 0, sI 3, sI jd, sI 1, sI 0, sI 0, sI y0] [])) (fun _ q => XS.icmpNo X0.here hx rfl (D 21) rfl (XT.ii_ge_f hc173) (XS.iload X0.here hx rfl (D 22) rfl (XS.iconst X0.here hx rfl (D 23) (XS.iadd X0.here hx rfl (D 24) rfl (XS.istore X0.here hx rfl (D 25) rfl (l' := #[sR li, sI 0, sI 3, sI jd, sI 1, sI 0, sI 0, sI y0]) rfl (XS.goto X0.here hx rfl (pc0 := 42) (pc' := 63) rfl (D 26) (by decide) (by decide) (XS.goto X0.here hx rfl (pc0 := 63) (pc' := 8) rfl (D 37) (by decide) (by decide) (XS.iload X0.here hx rfl (D 6) rfl (XS.iload X0.here hx rfl (D 7) rfl (XS.icmpYes X0.here hx rfl (pc0 := 12) (pc' := 66) rfl (D 8) rfl (by decide) (by decide) (by decide) q)))))))))) ?_
        refine own_step (g' := (mkF m 71 #[sR li, sI 0, sI 3, sI jd, sI 1, sI 0, sI 0, sI y0] [(.int (-2))])) (fun _ q => XS.iload X0.here hx rfl (D 38) rfl (XS.iconst X0.here hx rfl (D 39) (XS.iadd X0.here hx rfl (D 40) rfl (XS.ineg X0.here hx rfl (D 41) rfl q)))) ?_
        exact own_retI X0 hx hrt (D 42) hlk ⟨(-2 : Int32), rfl, (Fr.nil n0), e0, (Or.inr (Or.inr (Or.inr (Or.inr (Or.inl rfl)))))⟩ (by decide) (by decide)
      · refine own_step (g' := (mkF m 48 #[sR li, sI 0, sI 3, sI jd, sI 0, sI 0, sI 0, sI y0] [(.int jd), (.int y0)])) (fun _ q => XS.icmpYes X0.here hx rfl (pc0 := 33) (pc' := 45) rfl (D 21) rfl (XT.ii_ge_t hc173) (by decide) (by decide) (XS.iload X0.here hx rfl (D 27) rfl (XS.iloadN X0.here hx rfl (D 28) rfl q))) ?_
        by_cases hc174 : jd < y0
        · refine own_step (g' := (mkF m 66 #[sR li, sI 0, sI 3, sI jd, sI 0, sI (-1), sI 0, sI y0] [])) (fun _ q => XS.icmpNo X0.here hx rfl (D 29) rfl (XT.ii_le_f hc174) (XS.iload X0.here hx rfl (D 30) rfl (XS.iconst X0.here hx rfl (D 31) (XS.isub X0.here hx rfl (D 32) rfl (XS.istore X0.here hx rfl (D 33) rfl (l' := #[sR li, sI 0, sI 3, sI jd, sI 0, sI (-1), sI 0, sI y0]) rfl (XS.goto X0.here hx rfl (pc0 := 57) (pc' := 63) rfl (D 34) (by decide) (by decide) (XS.goto X0.here hx rfl (pc0 := 63) (pc' := 8) rfl (D 37) (by decide) (by decide) (XS.iload X0.here hx rfl (D 6) rfl (XS.iload X0.here hx rfl (D 7) rfl (XS.icmpYes X0.here hx rfl (pc0 := 12) (pc' := 66) rfl (D 8) rfl (by decide) (by decide) (by decide) q)))))))))) ?_
          refine own_step (g' := (mkF m 71 #[sR li, sI 0, sI 3, sI jd, sI 0, sI (-1), sI 0, sI y0] [(.int (-1))])) (fun _ q => XS.iload X0.here hx rfl (D 38) rfl (XS.iconst X0.here hx rfl (D 39) (XS.iadd X0.here hx rfl (D 40) rfl (XS.ineg X0.here hx rfl (D 41) rfl q)))) ?_
          exact own_retI X0 hx hrt (D 42) hlk ⟨(-1 : Int32), rfl, (Fr.nil n0), e0, (Or.inr (Or.inr (Or.inr (Or.inl rfl))))⟩ (by decide) (by decide)
        · refine own_step (g' := (mkF m 62 #[sR li, sI 0, sI 3, sI jd, sI 0, sI 0, sI 0, sI y0] [(.int 0)])) (fun _ q => XS.icmpYes X0.here hx rfl (pc0 := 48) (pc' := 60) rfl (D 29) rfl (XT.ii_le_t hc174) (by decide) (by decide) (XS.iload X0.here hx rfl (D 35) rfl q)) ?_
          exact own_retI X0 hx hrt (D 36) hlk ⟨(0 : Int32), rfl, (Fr.nil n0), e0, (Or.inl rfl)⟩ (by decide) (by decide)
    · refine own_step (g' := (mkF m 62 #[sR li, sI 0, sI 3, sI jd, sI 0, sI 2, sI 1, sI y1] [(.int 1)])) (fun _ q => XS.icmpYes X0.here hx rfl (pc0 := 48) (pc' := 60) rfl (D 29) rfl (XT.ii_le_t hc172) (by decide) (by decide) (XS.iload X0.here hx rfl (D 35) rfl q)) ?_
      exact own_retI X0 hx hrt (D 36) hlk ⟨(1 : Int32), rfl, (Fr.nil n0), e0, (Or.inr (Or.inl rfl))⟩ (by decide) (by decide)
def Q_own_bs3 (Z : State) (li : Addr) (qi : ClassId) (y0 y1 y2 y3 jd : Int32) (h0 : Heap) (n0 : Nat) (v : Option Value) (h : Heap) (L : List Loc) : Prop := ∃ (r : Int32), v = some (.int r) ∧ Fr n0 L ∧ h = h0 ∧ (r = (0 : Int32) ∨ r = (1 : Int32) ∨ r = (2 : Int32) ∨ r = (-1 : Int32) ∨ r = (-2 : Int32) ∨ r = (-3 : Int32) ∨ r = (-4 : Int32))
set_option maxRecDepth 65536 in
set_option maxHeartbeats 40000000 in
theorem own_bs3 (l : Launch) (Z : State) (a0 : Array Value) (hw : own_HW a0 Z) (ws : List Jvm.Cond) (li : Addr) (qi : ClassId) (y0 y1 y2 y3 jd : Int32) (h0 : Heap) (n0 : Nat) (Z0 : n0 ≤ h0.size) (V_li : Arv Z h0 li qi .int (4 : Int32) [(.int y0), (.int y1), (.int y2), (.int y3)] (.int (0 : Int32))) :
    own_Met l Z ⟨"java/util/Arrays", "binarySearch", "([IIII)I"⟩ jdk_65_method_58_code 4 (some .int) ws ⟨1, 0, 0, 19⟩ #[(.ref li), (.int (0 : Int32)), (.int (3 : Int32)), (.int jd)] h0 (Q_own_bs3 Z li qi y0 y1 y2 y3 jd h0 n0) := by
  refine own_bodyN (g0 := fun m => mkF m 0 #[sR li, sI 0, sI 3, sI jd] []) (plainFor_of_name pn_1) (fun _ => rfl) ?_
  intro p e s m below meth c s₁ hx hby hml hrt hlk hown hnm hZ e0 X0
  have D := own_d hby kD13
  refine own_step (g' := (mkF m 4 #[sR li, sI 0, sI 3, sI jd] [(.int 3), (.int 0), (.int 4)])) (fun _ q => XS.aloadN X0.here hx rfl (D 0) rfl rfl (own_len X0 hx hZ e0 V_li (g := (mkF m 1 #[sR li, sI 0, sI 3, sI jd] [(.ref li)])) rfl rfl (D 1) _ (XS.iloadN X0.here hx rfl (D 2) rfl (XS.iloadN X0.here hx rfl (D 3) rfl q)))) ?_
  refine own_callS X0 hx hZ hown (w84 hw) (w85 hw) (w82 hw) (w86 hw) (by decide) (own_bO (W := 0) (own_rc3 l Z a0 hw []  h0 n0 Z0 ) hZ (w86 hw) (w82 hw) rfl rfl) e0  (by decide) (by decide) (argsL := [(.int (4 : Int32)), (.int (0 : Int32)), (.int (3 : Int32))]) (rest := []) rfl hml.symm (lenOf pd_2 rfl) rfl rfl (own_w0 rfl rfl) (D 4) ?_
  rintro _ T175 L175 X175 ⟨rfl, N175q, e175⟩
  have N176 := Fr.app (Fr.nil n0) N175q
  refine own_step (g' := (mkF m 11 #[sR li, sI 0, sI 3, sI jd] [(.int jd), (.int 3), (.int 0), (.ref li)])) (fun _ q => XS.aloadN X175.here hx rfl (D 5) rfl rfl (XS.iloadN X175.here hx rfl (D 6) rfl (XS.iloadN X175.here hx rfl (D 7) rfl (XS.iloadN X175.here hx rfl (D 8) rfl q)))) ?_
  refine own_callS X175 hx hZ hown (w87 hw) (w88 hw) (w82 hw) (w89 hw) (by decide) (own_bO (W := 0) (own_bz3 l Z a0 hw [] li qi y0 y1 y2 y3 jd h0 n0 Z0 V_li) hZ (w89 hw) (w82 hw) rfl rfl) e175  (by decide) (by decide) (argsL := [(.ref li), (.int (0 : Int32)), (.int (3 : Int32)), (.int jd)]) (rest := []) rfl hml.symm (lenOf pd_3 rfl) rfl rfl (own_w0 rfl rfl) (D 9) ?_
  rintro _ T177 L177 X177 ⟨r177, rfl, N177q, e177, p0_177⟩
  have N178 := Fr.app N176 N177q
  exact own_retI X177 hx hrt (D 10) hlk ⟨r177, rfl, N178, e177, p0_177⟩ (by decide) (by decide)
def Q_own_al (Z : State) (ta la sa : Addr) (ql qs : ClassId) (li : Addr) (qi : ClassId) (y0 y1 y2 y3 jd : Int32) (h0 : Heap) (n0 : Nat) (v : Option Value) (h : Heap) (L : List Loc) : Prop := ∃ (sz : Int32), ∃ (d0 : Int32), ∃ (d1 : Int32), ∃ (d2 : Int32), ∃ (d3 : Int32), v = none ∧ Fr n0 L ∧ Keep h0 h [sa, li] ∧ Arv Z h sa qs .int (4 : Int32) [(.int sz), (.int (0 : Int32)), (.int (0 : Int32)), (.int (0 : Int32))] (.int (0 : Int32)) ∧ Arv Z h li qi .int (4 : Int32) [(.int d0), (.int d1), (.int d2), (.int d3)] (.int (0 : Int32)) ∧ (sz = (2 : Int32) ∨ sz = (3 : Int32))
set_option maxRecDepth 65536 in
set_option maxHeartbeats 40000000 in
theorem own_al (l : Launch) (Z : State) (a0 : Array Value) (hw : own_HW a0 Z) (ws : List Jvm.Cond) (ta la sa : Addr) (ql qs : ClassId) (li : Addr) (qi : ClassId) (y0 y1 y2 y3 jd : Int32) (h0 : Heap) (n0 : Nat) (Z0 : n0 ≤ h0.size) (E_ta : own_Et Z h0 ta) (F_lists_ta : own_Fl Z h0 ta (.ref la)) (F_listSizes_ta : own_Fs Z h0 ta (.ref sa)) (V_la : Arv Z h0 la ql (.array .int) (4 : Int32) [(.ref li), .null, .null, .null] .null) (V_sa : Arv Z h0 sa qs .int (4 : Int32) [(.int (2 : Int32)), (.int (0 : Int32)), (.int (0 : Int32)), (.int (0 : Int32))] (.int (0 : Int32))) (V_li : Arv Z h0 li qi .int (4 : Int32) [(.int y0), (.int y1), (.int y2), (.int y3)] (.int (0 : Int32))) (ge_sa : n0 ≤ sa) (ge_li : n0 ≤ li) (ne_sa_li : ¬ sa = li) :
    own_Met l Z ⟨"com/example/vaxwire/vaxwire/registry/KeyIndex$Table", "addToList", "(II)V"⟩ prog_102_method_12_code 6 none ws ⟨2, 0, 0, 34⟩ #[(.ref ta), (.int (0 : Int32)), (.int jd)] h0 (Q_own_al Z ta la sa ql qs li qi y0 y1 y2 y3 jd h0 n0) := by
  refine own_bodyN (g0 := fun m => mkF m 0 #[sR ta, sI 0, sI jd, .unset, .unset, .unset] []) (plainFor_of_name pn_0) (fun _ => rfl) ?_
  intro p e s m below meth c s₁ hx hby hml hrt hlk hown hnm hZ e0 X0
  have D := own_d hby kD12
  have ty_ta_la : ta ≠ la := (Exa.neArv E_ta V_la (w13 hw))
  have ty_ta_sa : ta ≠ sa := (Exa.neArv E_ta V_sa (w13 hw))
  have ty_ta_li : ta ≠ li := (Exa.neArv E_ta V_li (w13 hw))
  have ty_la_sa : la ≠ sa := (own_arr_ne V_la V_sa (by decide))
  have ty_la_li : la ≠ li := (own_arr_ne V_la V_li (by decide))
  refine own_step (g' := (mkF m 1 #[sR ta, sI 0, sI jd, .unset, .unset, .unset] [(.ref ta)])) (fun _ q => XS.aloadN X0.here hx rfl (D 0) rfl rfl q) ?_
  refine own_gF X0 hx hZ hown (w27 hw) e0 F_lists_ta rfl rfl (D 1) fun T179 X179 e179 => ?_
  refine own_step (g' := (mkF m 8 #[sR ta, sI 0, sI jd, sR li, .unset, .unset] [(.ref ta)])) (fun _ q => XS.iloadN X179.here hx rfl (D 2) rfl (own_ldA X179 hx hZ e179 V_la rfl (j := (0 : Int32)) ⟨by decide, by decide⟩ (v := (.ref li)) rfl (g := (mkF m 5 #[sR ta, sI 0, sI jd, .unset, .unset, .unset] [(.int 0), (.ref la)])) rfl rfl (D 3) _ (XS.astoreN X179.here hx rfl (D 4) rfl rfl (l' := #[sR ta, sI 0, sI jd, sR li, .unset, .unset]) rfl (XS.aloadN X179.here hx rfl (D 5) rfl rfl q)))) ?_
  refine own_gF X179 hx hZ hown (w29 hw) e179 F_listSizes_ta rfl rfl (D 6) fun T180 X180 e180 => ?_
  refine own_step (g' := (mkF m 25 #[sR ta, sI 0, sI jd, sR li, sI 2, sI 2] [(.int y1)])) (fun _ q => XS.iloadN X180.here hx rfl (D 7) rfl (own_ldI X180 hx hZ e180 V_sa (j := (0 : Int32)) ⟨by decide, by decide⟩ (v := (.int (2 : Int32))) rfl (g := (mkF m 12 #[sR ta, sI 0, sI jd, sR li, .unset, .unset] [(.int 0), (.ref sa)])) rfl rfl (D 8) _ (XS.istore X180.here hx rfl (D 9) rfl (l' := #[sR ta, sI 0, sI jd, sR li, sI 2, .unset]) rfl (XS.iload X180.here hx rfl (D 10) rfl (XS.istore X180.here hx rfl (D 11) rfl (l' := #[sR ta, sI 0, sI jd, sR li, sI 2, sI 2]) rfl (XS.aloadN X180.here hx rfl (D 12) rfl rfl (XS.iload X180.here hx rfl (D 13) rfl (XS.iconst X180.here hx rfl (D 14) (XS.isub X180.here hx rfl (D 15) rfl (own_ldI X180 hx hZ e180 V_li (j := (1 : Int32)) ⟨by decide, by decide⟩ (v := (.int y1)) rfl (g := (mkF m 24 #[sR ta, sI 0, sI jd, sR li, sI 2, sI 2] [(.int 1), (.ref li)])) rfl rfl (D 16) _ q)))))))))) ?_
  refine own_step (g' := (mkF m 26 #[sR ta, sI 0, sI jd, sR li, sI 2, sI 2] [(.int jd), (.int y1)])) (fun _ q => XS.iloadN X180.here hx rfl (D 17) rfl q) ?_
  by_cases hc181 : jd < y1
  · refine own_step (g' := (mkF m 34 #[sR ta, sI 0, sI jd, sR li, sI 2, sI 2] [(.int jd), (.int 2), (.int 0), (.ref li)])) (fun _ q => XS.icmpNo X180.here hx rfl (D 18) rfl (XT.ii_le_f hc181) (XS.aloadN X180.here hx rfl (D 19) rfl rfl (XS.iconst X180.here hx rfl (D 20) (XS.iload X180.here hx rfl (D 21) rfl (XS.iloadN X180.here hx rfl (D 22) rfl q))))) ?_
    refine own_callS X180 hx hZ hown (w80 hw) (w81 hw) (w82 hw) (w83 hw) (by decide) (own_bO (W := 0) (own_bs2 l Z a0 hw [] li qi y0 y1 y2 y3 jd h0 n0 Z0 V_li) hZ (w83 hw) (w82 hw) rfl rfl) e180  (by decide) (by decide) (argsL := [(.ref li), (.int (0 : Int32)), (.int (2 : Int32)), (.int jd)]) (rest := []) rfl hml.symm (lenOf pd_3 rfl) rfl rfl (own_w0 rfl rfl) (D 23) ?_
    rintro _ T182 L182 X182 ⟨r182, rfl, N182q, e182, p0_182⟩
    have N183 := Fr.app (Fr.nil n0) N182q
    rcases p0_182 with hr | hr | hr | hr | hr
    · rw [show r182 = (0 : Int32) from hr]
      refine own_step (g' := (mkF m 44 #[sR ta, sI 0, sI jd, sR li, sI 2, sI 0] [])) (fun _ q => XS.istore X182.here hx rfl (D 24) rfl (l' := #[sR ta, sI 0, sI jd, sR li, sI 2, sI 0]) rfl (XS.iload X182.here hx rfl (D 25) rfl (XS.ifNo X182.here hx rfl (D 26) rfl (by decide) q))) ?_
      exact own_retV X182 hx hrt (D 27) hlk (by rw [e182]; exact ⟨(2 : Int32), y0, y1, y2, y3, rfl, N183, (Keep.refl h0 [sa, li]), V_sa, V_li, (Or.inl rfl)⟩) (by decide) (by decide)
    · rw [show r182 = (1 : Int32) from hr]
      refine own_step (g' := (mkF m 44 #[sR ta, sI 0, sI jd, sR li, sI 2, sI 1] [])) (fun _ q => XS.istore X182.here hx rfl (D 24) rfl (l' := #[sR ta, sI 0, sI jd, sR li, sI 2, sI 1]) rfl (XS.iload X182.here hx rfl (D 25) rfl (XS.ifNo X182.here hx rfl (D 26) rfl (by decide) q))) ?_
      exact own_retV X182 hx hrt (D 27) hlk (by rw [e182]; exact ⟨(2 : Int32), y0, y1, y2, y3, rfl, N183, (Keep.refl h0 [sa, li]), V_sa, V_li, (Or.inl rfl)⟩) (by decide) (by decide)
    · rw [show r182 = (-1 : Int32) from hr]
      refine own_step (g' := (mkF m 68 #[sR ta, sI 0, sI jd, sR li, sI 2, sI 0] [(.int 2)])) (fun _ q => XS.istore X182.here hx rfl (D 24) rfl (l' := #[sR ta, sI 0, sI jd, sR li, sI 2, sI (-1)]) rfl (XS.iload X182.here hx rfl (D 25) rfl (XS.ifYes X182.here hx rfl (pc0 := 41) (pc' := 45) rfl (D 26) rfl (by decide) (by decide) (by decide) (XS.iload X182.here hx rfl (D 28) rfl (XS.ineg X182.here hx rfl (D 29) rfl (XS.iconst X182.here hx rfl (D 30) (XS.isub X182.here hx rfl (D 31) rfl (XS.istore X182.here hx rfl (D 32) rfl (l' := #[sR ta, sI 0, sI jd, sR li, sI 2, sI 0]) rfl (XS.goto X182.here hx rfl (pc0 := 52) (pc' := 66) rfl (D 33) (by decide) (by decide) (XS.iload X182.here hx rfl (D 42) rfl q)))))))))) ?_
      refine own_step (g' := (mkF m 102 #[sR ta, sI 0, sI jd, sR li, sI 2, sI 0] [(.int 2), (.int 1), (.ref li), (.int 0), (.ref li)])) (fun _ q => XS.aloadN X182.here hx rfl (D 43) rfl rfl (own_len X182 hx hZ e182 V_li (g := (mkF m 69 #[sR ta, sI 0, sI jd, sR li, sI 2, sI 0] [(.ref li), (.int 2)])) rfl rfl (D 44) _ (XS.icmpYes X182.here hx rfl (pc0 := 70) (pc' := 92) rfl (D 45) rfl (by decide) (by decide) (by decide) (XS.aloadN X182.here hx rfl (D 46) rfl rfl (XS.iload X182.here hx rfl (D 47) rfl (XS.aloadN X182.here hx rfl (D 48) rfl rfl (XS.iload X182.here hx rfl (D 49) rfl (XS.iconst X182.here hx rfl (D 50) (XS.iadd X182.here hx rfl (D 51) rfl (XS.iload X182.here hx rfl (D 52) rfl q)))))))))) ?_
      refine own_step (g' := (mkF m 105 #[sR ta, sI 0, sI jd, sR li, sI 2, sI 0] [(.int 2), (.int 1), (.ref li), (.int 0), (.ref li)])) (fun _ q => XS.iload X182.here hx rfl (D 53) rfl (XS.isub X182.here hx rfl (D 54) rfl q)) ?_
      obtain ⟨T184, h184, L184, X184, e184, N184, K184, A184, st184⟩ := cpA X182 hx hZ hown (w101 hw) (w104 hw) (w102 hw) (w103 hw) e182 V_li V_li (us := [(.int y0), (.int y1)]) (Or.inl ⟨rfl, rfl⟩) (by decide) (by decide) (by decide) (by decide) (by decide) rfl (Nat.le_of_ble_eq_true rfl) N183 ge_li (g := (mkF m 105 #[sR ta, sI 0, sI jd, sR li, sI 2, sI 0] [(.int 2), (.int 1), (.ref li), (.int 0), (.ref li)])) rfl (by rw [hml]; rfl) (rest := []) rfl (D 55) (Nat.le_of_ble_eq_true rfl) (W := 0) (by show 2 * 0 + _ ≤ _; exact Nat.le_of_eq rfl) (by rw [own_nfw]; exact Nat.le_of_ble_eq_true rfl)
      have qV185 : (([(.int y0), (.int y1), (.int y2), (.int y3)].take (1 : Int32).toNatClampNeg ++ [(.int y0), (.int y1)] ++ [(.int y0), (.int y1), (.int y2), (.int y3)].drop ((1 : Int32).toNatClampNeg + (2 : Int32).toNatClampNeg)) : List Value) = [(.int y0), (.int y0), (.int y1), (.int y3)] := rfl
      have V185 : Arv Z h184 li qi .int (4 : Int32) [(.int y0), (.int y0), (.int y1), (.int y3)] (.int (0 : Int32)) := own_fixv qV185 A184
      refine own_step (T' := T184) (g' := (mkF m 108 #[sR ta, sI 0, sI jd, sR li, sI 2, sI 0] [])) st184 ?_
      refine own_step (g' := (mkF m 112 #[sR ta, sI 0, sI jd, sR li, sI 2, sI 0] [(.int jd), (.int 0), (.ref li)])) (fun _ q => XS.aloadN X184.here hx rfl (D 56) rfl rfl (XS.iload X184.here hx rfl (D 57) rfl (XS.iloadN X184.here hx rfl (D 58) rfl q))) ?_
      obtain ⟨T186, h186, X186, e186, W186, V186, st186⟩ := own_stI X184 hx hZ e184 V185 (j := (0 : Int32)) ⟨by decide, by decide⟩ (i := 0) rfl (Nat.le_of_ble_eq_true rfl) (g := (mkF m 112 #[sR ta, sI 0, sI jd, sR li, sI 2, sI 0] [(.int jd), (.int 0), (.ref li)])) rfl rfl (D 59)
      replace V186 : Arv Z h186 li qi .int (4 : Int32) [(.int jd), (.int y0), (.int y1), (.int y3)] (.int (0 : Int32)) := V186
      have N187 := Fr.snoc X186 N184 ge_li
      refine own_step (T' := T186) (g' := (mkF m 113 #[sR ta, sI 0, sI jd, sR li, sI 2, sI 0] [])) st186 ?_
      refine own_step (g' := (mkF m 114 #[sR ta, sI 0, sI jd, sR li, sI 2, sI 0] [(.ref ta)])) (fun _ q => XS.aloadN X186.here hx rfl (D 60) rfl rfl q) ?_
      have c188 := ((F_listSizes_ta.keep K184 (ninS ty_ta_li nin0)).other W186 (Or.inl ty_ta_li))
      refine own_gF X186 hx hZ hown (w29 hw) e186 c188 rfl rfl (D 61) fun T189 X189 e189 => ?_
      refine own_step (g' := (mkF m 122 #[sR ta, sI 0, sI jd, sR li, sI 2, sI 0] [(.int 3), (.int 0), (.ref sa)])) (fun _ q => XS.iloadN X189.here hx rfl (D 62) rfl (XS.iload X189.here hx rfl (D 63) rfl (XS.iconst X189.here hx rfl (D 64) (XS.iadd X189.here hx rfl (D 65) rfl q)))) ?_
      have c190 := ((V_sa.keep K184 (ninS ne_sa_li nin0)).other W186 ne_sa_li)
      obtain ⟨T191, h191, X191, e191, W191, V191, st191⟩ := own_stI X189 hx hZ e189 c190 (j := (0 : Int32)) ⟨by decide, by decide⟩ (i := 0) rfl (Nat.le_of_ble_eq_true rfl) (g := (mkF m 122 #[sR ta, sI 0, sI jd, sR li, sI 2, sI 0] [(.int 3), (.int 0), (.ref sa)])) rfl rfl (D 66)
      replace V191 : Arv Z h191 sa qs .int (4 : Int32) [(.int (3 : Int32)), (.int (0 : Int32)), (.int (0 : Int32)), (.int (0 : Int32))] (.int (0 : Int32)) := V191
      have N192 := Fr.snoc X191 N187 ge_sa
      refine own_step (T' := T191) (g' := (mkF m 123 #[sR ta, sI 0, sI jd, sR li, sI 2, sI 0] [])) st191 ?_
      have c193 := ((((Keep.refl h0 [sa, li]).trans K184 (allS (Or.inl (List.mem_of_getElem? (i := 1) rfl)) all0)).wr W186 (Or.inl (List.mem_of_getElem? (i := 1) rfl))).wr W191 (Or.inl (List.mem_of_getElem? (i := 0) rfl)))
      have c194 := (V186.other W191 (Ne.symm ne_sa_li))
      exact own_retV X191 hx hrt (D 67) hlk (by rw [e191]; exact ⟨(3 : Int32), jd, y0, y1, y3, rfl, N192, c193, V191, c194, (Or.inr rfl)⟩) (by decide) (by decide)
    · rw [show r182 = (-2 : Int32) from hr]
      refine own_step (g' := (mkF m 68 #[sR ta, sI 0, sI jd, sR li, sI 2, sI 1] [(.int 2)])) (fun _ q => XS.istore X182.here hx rfl (D 24) rfl (l' := #[sR ta, sI 0, sI jd, sR li, sI 2, sI (-2)]) rfl (XS.iload X182.here hx rfl (D 25) rfl (XS.ifYes X182.here hx rfl (pc0 := 41) (pc' := 45) rfl (D 26) rfl (by decide) (by decide) (by decide) (XS.iload X182.here hx rfl (D 28) rfl (XS.ineg X182.here hx rfl (D 29) rfl (XS.iconst X182.here hx rfl (D 30) (XS.isub X182.here hx rfl (D 31) rfl (XS.istore X182.here hx rfl (D 32) rfl (l' := #[sR ta, sI 0, sI jd, sR li, sI 2, sI 1]) rfl (XS.goto X182.here hx rfl (pc0 := 52) (pc' := 66) rfl (D 33) (by decide) (by decide) (XS.iload X182.here hx rfl (D 42) rfl q)))))))))) ?_
      refine own_step (g' := (mkF m 102 #[sR ta, sI 0, sI jd, sR li, sI 2, sI 1] [(.int 2), (.int 2), (.ref li), (.int 1), (.ref li)])) (fun _ q => XS.aloadN X182.here hx rfl (D 43) rfl rfl (own_len X182 hx hZ e182 V_li (g := (mkF m 69 #[sR ta, sI 0, sI jd, sR li, sI 2, sI 1] [(.ref li), (.int 2)])) rfl rfl (D 44) _ (XS.icmpYes X182.here hx rfl (pc0 := 70) (pc' := 92) rfl (D 45) rfl (by decide) (by decide) (by decide) (XS.aloadN X182.here hx rfl (D 46) rfl rfl (XS.iload X182.here hx rfl (D 47) rfl (XS.aloadN X182.here hx rfl (D 48) rfl rfl (XS.iload X182.here hx rfl (D 49) rfl (XS.iconst X182.here hx rfl (D 50) (XS.iadd X182.here hx rfl (D 51) rfl (XS.iload X182.here hx rfl (D 52) rfl q)))))))))) ?_
      refine own_step (g' := (mkF m 105 #[sR ta, sI 0, sI jd, sR li, sI 2, sI 1] [(.int 1), (.int 2), (.ref li), (.int 1), (.ref li)])) (fun _ q => XS.iload X182.here hx rfl (D 53) rfl (XS.isub X182.here hx rfl (D 54) rfl q)) ?_
      obtain ⟨T195, h195, L195, X195, e195, N195, K195, A195, st195⟩ := cpA X182 hx hZ hown (w101 hw) (w104 hw) (w102 hw) (w103 hw) e182 V_li V_li (us := [(.int y1)]) (Or.inl ⟨rfl, rfl⟩) (by decide) (by decide) (by decide) (by decide) (by decide) rfl (Nat.le_of_ble_eq_true rfl) N183 ge_li (g := (mkF m 105 #[sR ta, sI 0, sI jd, sR li, sI 2, sI 1] [(.int 1), (.int 2), (.ref li), (.int 1), (.ref li)])) rfl (by rw [hml]; rfl) (rest := []) rfl (D 55) (Nat.le_of_ble_eq_true rfl) (W := 0) (by show 2 * 0 + _ ≤ _; exact Nat.le_of_eq rfl) (by rw [own_nfw]; exact Nat.le_of_ble_eq_true rfl)
      have qV196 : (([(.int y0), (.int y1), (.int y2), (.int y3)].take (2 : Int32).toNatClampNeg ++ [(.int y1)] ++ [(.int y0), (.int y1), (.int y2), (.int y3)].drop ((2 : Int32).toNatClampNeg + (1 : Int32).toNatClampNeg)) : List Value) = [(.int y0), (.int y1), (.int y1), (.int y3)] := rfl
      have V196 : Arv Z h195 li qi .int (4 : Int32) [(.int y0), (.int y1), (.int y1), (.int y3)] (.int (0 : Int32)) := own_fixv qV196 A195
      refine own_step (T' := T195) (g' := (mkF m 108 #[sR ta, sI 0, sI jd, sR li, sI 2, sI 1] [])) st195 ?_
      refine own_step (g' := (mkF m 112 #[sR ta, sI 0, sI jd, sR li, sI 2, sI 1] [(.int jd), (.int 1), (.ref li)])) (fun _ q => XS.aloadN X195.here hx rfl (D 56) rfl rfl (XS.iload X195.here hx rfl (D 57) rfl (XS.iloadN X195.here hx rfl (D 58) rfl q))) ?_
      obtain ⟨T197, h197, X197, e197, W197, V197, st197⟩ := own_stI X195 hx hZ e195 V196 (j := (1 : Int32)) ⟨by decide, by decide⟩ (i := 1) rfl (Nat.le_of_ble_eq_true rfl) (g := (mkF m 112 #[sR ta, sI 0, sI jd, sR li, sI 2, sI 1] [(.int jd), (.int 1), (.ref li)])) rfl rfl (D 59)
      replace V197 : Arv Z h197 li qi .int (4 : Int32) [(.int y0), (.int jd), (.int y1), (.int y3)] (.int (0 : Int32)) := V197
      have N198 := Fr.snoc X197 N195 ge_li
      refine own_step (T' := T197) (g' := (mkF m 113 #[sR ta, sI 0, sI jd, sR li, sI 2, sI 1] [])) st197 ?_
      refine own_step (g' := (mkF m 114 #[sR ta, sI 0, sI jd, sR li, sI 2, sI 1] [(.ref ta)])) (fun _ q => XS.aloadN X197.here hx rfl (D 60) rfl rfl q) ?_
      have c199 := ((F_listSizes_ta.keep K195 (ninS ty_ta_li nin0)).other W197 (Or.inl ty_ta_li))
      refine own_gF X197 hx hZ hown (w29 hw) e197 c199 rfl rfl (D 61) fun T200 X200 e200 => ?_
      refine own_step (g' := (mkF m 122 #[sR ta, sI 0, sI jd, sR li, sI 2, sI 1] [(.int 3), (.int 0), (.ref sa)])) (fun _ q => XS.iloadN X200.here hx rfl (D 62) rfl (XS.iload X200.here hx rfl (D 63) rfl (XS.iconst X200.here hx rfl (D 64) (XS.iadd X200.here hx rfl (D 65) rfl q)))) ?_
      have c201 := ((V_sa.keep K195 (ninS ne_sa_li nin0)).other W197 ne_sa_li)
      obtain ⟨T202, h202, X202, e202, W202, V202, st202⟩ := own_stI X200 hx hZ e200 c201 (j := (0 : Int32)) ⟨by decide, by decide⟩ (i := 0) rfl (Nat.le_of_ble_eq_true rfl) (g := (mkF m 122 #[sR ta, sI 0, sI jd, sR li, sI 2, sI 1] [(.int 3), (.int 0), (.ref sa)])) rfl rfl (D 66)
      replace V202 : Arv Z h202 sa qs .int (4 : Int32) [(.int (3 : Int32)), (.int (0 : Int32)), (.int (0 : Int32)), (.int (0 : Int32))] (.int (0 : Int32)) := V202
      have N203 := Fr.snoc X202 N198 ge_sa
      refine own_step (T' := T202) (g' := (mkF m 123 #[sR ta, sI 0, sI jd, sR li, sI 2, sI 1] [])) st202 ?_
      have c204 := ((((Keep.refl h0 [sa, li]).trans K195 (allS (Or.inl (List.mem_of_getElem? (i := 1) rfl)) all0)).wr W197 (Or.inl (List.mem_of_getElem? (i := 1) rfl))).wr W202 (Or.inl (List.mem_of_getElem? (i := 0) rfl)))
      have c205 := (V197.other W202 (Ne.symm ne_sa_li))
      exact own_retV X202 hx hrt (D 67) hlk (by rw [e202]; exact ⟨(3 : Int32), y0, jd, y1, y3, rfl, N203, c204, V202, c205, (Or.inr rfl)⟩) (by decide) (by decide)
    · rw [show r182 = (-3 : Int32) from hr]
      refine own_step (g' := (mkF m 68 #[sR ta, sI 0, sI jd, sR li, sI 2, sI 2] [(.int 2)])) (fun _ q => XS.istore X182.here hx rfl (D 24) rfl (l' := #[sR ta, sI 0, sI jd, sR li, sI 2, sI (-3)]) rfl (XS.iload X182.here hx rfl (D 25) rfl (XS.ifYes X182.here hx rfl (pc0 := 41) (pc' := 45) rfl (D 26) rfl (by decide) (by decide) (by decide) (XS.iload X182.here hx rfl (D 28) rfl (XS.ineg X182.here hx rfl (D 29) rfl (XS.iconst X182.here hx rfl (D 30) (XS.isub X182.here hx rfl (D 31) rfl (XS.istore X182.here hx rfl (D 32) rfl (l' := #[sR ta, sI 0, sI jd, sR li, sI 2, sI 2]) rfl (XS.goto X182.here hx rfl (pc0 := 52) (pc' := 66) rfl (D 33) (by decide) (by decide) (XS.iload X182.here hx rfl (D 42) rfl q)))))))))) ?_
      refine own_step (g' := (mkF m 102 #[sR ta, sI 0, sI jd, sR li, sI 2, sI 2] [(.int 2), (.int 3), (.ref li), (.int 2), (.ref li)])) (fun _ q => XS.aloadN X182.here hx rfl (D 43) rfl rfl (own_len X182 hx hZ e182 V_li (g := (mkF m 69 #[sR ta, sI 0, sI jd, sR li, sI 2, sI 2] [(.ref li), (.int 2)])) rfl rfl (D 44) _ (XS.icmpYes X182.here hx rfl (pc0 := 70) (pc' := 92) rfl (D 45) rfl (by decide) (by decide) (by decide) (XS.aloadN X182.here hx rfl (D 46) rfl rfl (XS.iload X182.here hx rfl (D 47) rfl (XS.aloadN X182.here hx rfl (D 48) rfl rfl (XS.iload X182.here hx rfl (D 49) rfl (XS.iconst X182.here hx rfl (D 50) (XS.iadd X182.here hx rfl (D 51) rfl (XS.iload X182.here hx rfl (D 52) rfl q)))))))))) ?_
      refine own_step (g' := (mkF m 105 #[sR ta, sI 0, sI jd, sR li, sI 2, sI 2] [(.int 0), (.int 3), (.ref li), (.int 2), (.ref li)])) (fun _ q => XS.iload X182.here hx rfl (D 53) rfl (XS.isub X182.here hx rfl (D 54) rfl q)) ?_
      obtain ⟨T206, h206, L206, X206, e206, N206, K206, A206, st206⟩ := cpA X182 hx hZ hown (w101 hw) (w104 hw) (w102 hw) (w103 hw) e182 V_li V_li (us := ([] : List Value)) (Or.inl ⟨rfl, rfl⟩) (by decide) (by decide) (by decide) (by decide) (by decide) rfl (Nat.le_of_ble_eq_true rfl) N183 ge_li (g := (mkF m 105 #[sR ta, sI 0, sI jd, sR li, sI 2, sI 2] [(.int 0), (.int 3), (.ref li), (.int 2), (.ref li)])) rfl (by rw [hml]; rfl) (rest := []) rfl (D 55) (Nat.le_of_ble_eq_true rfl) (W := 0) (by show 2 * 0 + _ ≤ _; exact Nat.le_of_eq rfl) (by rw [own_nfw]; exact Nat.le_of_ble_eq_true rfl)
      have qV207 : (([(.int y0), (.int y1), (.int y2), (.int y3)].take (3 : Int32).toNatClampNeg ++ ([] : List Value) ++ [(.int y0), (.int y1), (.int y2), (.int y3)].drop ((3 : Int32).toNatClampNeg + (0 : Int32).toNatClampNeg)) : List Value) = [(.int y0), (.int y1), (.int y2), (.int y3)] := rfl
      have V207 : Arv Z h206 li qi .int (4 : Int32) [(.int y0), (.int y1), (.int y2), (.int y3)] (.int (0 : Int32)) := own_fixv qV207 A206
      refine own_step (T' := T206) (g' := (mkF m 108 #[sR ta, sI 0, sI jd, sR li, sI 2, sI 2] [])) st206 ?_
      refine own_step (g' := (mkF m 112 #[sR ta, sI 0, sI jd, sR li, sI 2, sI 2] [(.int jd), (.int 2), (.ref li)])) (fun _ q => XS.aloadN X206.here hx rfl (D 56) rfl rfl (XS.iload X206.here hx rfl (D 57) rfl (XS.iloadN X206.here hx rfl (D 58) rfl q))) ?_
      obtain ⟨T208, h208, X208, e208, W208, V208, st208⟩ := own_stI X206 hx hZ e206 V207 (j := (2 : Int32)) ⟨by decide, by decide⟩ (i := 2) rfl (Nat.le_of_ble_eq_true rfl) (g := (mkF m 112 #[sR ta, sI 0, sI jd, sR li, sI 2, sI 2] [(.int jd), (.int 2), (.ref li)])) rfl rfl (D 59)
      replace V208 : Arv Z h208 li qi .int (4 : Int32) [(.int y0), (.int y1), (.int jd), (.int y3)] (.int (0 : Int32)) := V208
      have N209 := Fr.snoc X208 N206 ge_li
      refine own_step (T' := T208) (g' := (mkF m 113 #[sR ta, sI 0, sI jd, sR li, sI 2, sI 2] [])) st208 ?_
      refine own_step (g' := (mkF m 114 #[sR ta, sI 0, sI jd, sR li, sI 2, sI 2] [(.ref ta)])) (fun _ q => XS.aloadN X208.here hx rfl (D 60) rfl rfl q) ?_
      have c210 := ((F_listSizes_ta.keep K206 (ninS ty_ta_li nin0)).other W208 (Or.inl ty_ta_li))
      refine own_gF X208 hx hZ hown (w29 hw) e208 c210 rfl rfl (D 61) fun T211 X211 e211 => ?_
      refine own_step (g' := (mkF m 122 #[sR ta, sI 0, sI jd, sR li, sI 2, sI 2] [(.int 3), (.int 0), (.ref sa)])) (fun _ q => XS.iloadN X211.here hx rfl (D 62) rfl (XS.iload X211.here hx rfl (D 63) rfl (XS.iconst X211.here hx rfl (D 64) (XS.iadd X211.here hx rfl (D 65) rfl q)))) ?_
      have c212 := ((V_sa.keep K206 (ninS ne_sa_li nin0)).other W208 ne_sa_li)
      obtain ⟨T213, h213, X213, e213, W213, V213, st213⟩ := own_stI X211 hx hZ e211 c212 (j := (0 : Int32)) ⟨by decide, by decide⟩ (i := 0) rfl (Nat.le_of_ble_eq_true rfl) (g := (mkF m 122 #[sR ta, sI 0, sI jd, sR li, sI 2, sI 2] [(.int 3), (.int 0), (.ref sa)])) rfl rfl (D 66)
      replace V213 : Arv Z h213 sa qs .int (4 : Int32) [(.int (3 : Int32)), (.int (0 : Int32)), (.int (0 : Int32)), (.int (0 : Int32))] (.int (0 : Int32)) := V213
      have N214 := Fr.snoc X213 N209 ge_sa
      refine own_step (T' := T213) (g' := (mkF m 123 #[sR ta, sI 0, sI jd, sR li, sI 2, sI 2] [])) st213 ?_
      have c215 := ((((Keep.refl h0 [sa, li]).trans K206 (allS (Or.inl (List.mem_of_getElem? (i := 1) rfl)) all0)).wr W208 (Or.inl (List.mem_of_getElem? (i := 1) rfl))).wr W213 (Or.inl (List.mem_of_getElem? (i := 0) rfl)))
      have c216 := (V208.other W213 (Ne.symm ne_sa_li))
      exact own_retV X213 hx hrt (D 67) hlk (by rw [e213]; exact ⟨(3 : Int32), y0, y1, jd, y3, rfl, N214, c215, V213, c216, (Or.inr rfl)⟩) (by decide) (by decide)
  · refine own_step (g' := (mkF m 62 #[sR ta, sI 0, sI jd, sR li, sI 2, sI 2] [(.int jd), (.int y1)])) (fun _ q => XS.icmpYes X180.here hx rfl (pc0 := 26) (pc' := 55) rfl (D 18) rfl (XT.ii_le_t hc181) (by decide) (by decide) (XS.aloadN X180.here hx rfl (D 34) rfl rfl (XS.iload X180.here hx rfl (D 35) rfl (XS.iconst X180.here hx rfl (D 36) (XS.isub X180.here hx rfl (D 37) rfl (own_ldI X180 hx hZ e180 V_li (j := (1 : Int32)) ⟨by decide, by decide⟩ (v := (.int y1)) rfl (g := (mkF m 60 #[sR ta, sI 0, sI jd, sR li, sI 2, sI 2] [(.int 1), (.ref li)])) rfl rfl (D 38) _ (XS.iloadN X180.here hx rfl (D 39) rfl q))))))) ?_
    by_cases hc217 : y1 = jd
    · refine own_step (g' := (mkF m 65 #[sR ta, sI 0, sI jd, sR li, sI 2, sI 2] [])) (fun _ q => XS.icmpNo X180.here hx rfl (D 40) rfl (XT.ii_ne_f hc217) q) ?_
      exact own_retV X180 hx hrt (D 41) hlk (by rw [e180]; exact ⟨(2 : Int32), y0, y1, y2, y3, rfl, (Fr.nil n0), (Keep.refl h0 [sa, li]), V_sa, V_li, (Or.inl rfl)⟩) (by decide) (by decide)
    · refine own_step (g' := (mkF m 99 #[sR ta, sI 0, sI jd, sR li, sI 2, sI 2] [(.int 1), (.int 2), (.ref li), (.int 2), (.ref li)])) (fun _ q => XS.icmpYes X180.here hx rfl (pc0 := 62) (pc' := 66) rfl (D 40) rfl (XT.ii_ne_t hc217) (by decide) (by decide) (XS.iload X180.here hx rfl (D 42) rfl (XS.aloadN X180.here hx rfl (D 43) rfl rfl (own_len X180 hx hZ e180 V_li (g := (mkF m 69 #[sR ta, sI 0, sI jd, sR li, sI 2, sI 2] [(.ref li), (.int 2)])) rfl rfl (D 44) _ (XS.icmpYes X180.here hx rfl (pc0 := 70) (pc' := 92) rfl (D 45) rfl (by decide) (by decide) (by decide) (XS.aloadN X180.here hx rfl (D 46) rfl rfl (XS.iload X180.here hx rfl (D 47) rfl (XS.aloadN X180.here hx rfl (D 48) rfl rfl (XS.iload X180.here hx rfl (D 49) rfl (XS.iconst X180.here hx rfl (D 50) q)))))))))) ?_
      refine own_step (g' := (mkF m 105 #[sR ta, sI 0, sI jd, sR li, sI 2, sI 2] [(.int 0), (.int 3), (.ref li), (.int 2), (.ref li)])) (fun _ q => XS.iadd X180.here hx rfl (D 51) rfl (XS.iload X180.here hx rfl (D 52) rfl (XS.iload X180.here hx rfl (D 53) rfl (XS.isub X180.here hx rfl (D 54) rfl q)))) ?_
      obtain ⟨T218, h218, L218, X218, e218, N218, K218, A218, st218⟩ := cpA X180 hx hZ hown (w101 hw) (w104 hw) (w102 hw) (w103 hw) e180 V_li V_li (us := ([] : List Value)) (Or.inl ⟨rfl, rfl⟩) (by decide) (by decide) (by decide) (by decide) (by decide) rfl (Nat.le_of_ble_eq_true rfl) (Fr.nil n0) ge_li (g := (mkF m 105 #[sR ta, sI 0, sI jd, sR li, sI 2, sI 2] [(.int 0), (.int 3), (.ref li), (.int 2), (.ref li)])) rfl (by rw [hml]; rfl) (rest := []) rfl (D 55) (Nat.le_of_ble_eq_true rfl) (W := 0) (by show 2 * 0 + _ ≤ _; exact Nat.le_of_eq rfl) (by rw [own_nfw]; exact Nat.le_of_ble_eq_true rfl)
      have qV219 : (([(.int y0), (.int y1), (.int y2), (.int y3)].take (3 : Int32).toNatClampNeg ++ ([] : List Value) ++ [(.int y0), (.int y1), (.int y2), (.int y3)].drop ((3 : Int32).toNatClampNeg + (0 : Int32).toNatClampNeg)) : List Value) = [(.int y0), (.int y1), (.int y2), (.int y3)] := rfl
      have V219 : Arv Z h218 li qi .int (4 : Int32) [(.int y0), (.int y1), (.int y2), (.int y3)] (.int (0 : Int32)) := own_fixv qV219 A218
      refine own_step (T' := T218) (g' := (mkF m 108 #[sR ta, sI 0, sI jd, sR li, sI 2, sI 2] [])) st218 ?_
      refine own_step (g' := (mkF m 112 #[sR ta, sI 0, sI jd, sR li, sI 2, sI 2] [(.int jd), (.int 2), (.ref li)])) (fun _ q => XS.aloadN X218.here hx rfl (D 56) rfl rfl (XS.iload X218.here hx rfl (D 57) rfl (XS.iloadN X218.here hx rfl (D 58) rfl q))) ?_
      obtain ⟨T220, h220, X220, e220, W220, V220, st220⟩ := own_stI X218 hx hZ e218 V219 (j := (2 : Int32)) ⟨by decide, by decide⟩ (i := 2) rfl (Nat.le_of_ble_eq_true rfl) (g := (mkF m 112 #[sR ta, sI 0, sI jd, sR li, sI 2, sI 2] [(.int jd), (.int 2), (.ref li)])) rfl rfl (D 59)
      replace V220 : Arv Z h220 li qi .int (4 : Int32) [(.int y0), (.int y1), (.int jd), (.int y3)] (.int (0 : Int32)) := V220
      have N221 := Fr.snoc X220 N218 ge_li
      refine own_step (T' := T220) (g' := (mkF m 113 #[sR ta, sI 0, sI jd, sR li, sI 2, sI 2] [])) st220 ?_
      refine own_step (g' := (mkF m 114 #[sR ta, sI 0, sI jd, sR li, sI 2, sI 2] [(.ref ta)])) (fun _ q => XS.aloadN X220.here hx rfl (D 60) rfl rfl q) ?_
      have c222 := ((F_listSizes_ta.keep K218 (ninS ty_ta_li nin0)).other W220 (Or.inl ty_ta_li))
      refine own_gF X220 hx hZ hown (w29 hw) e220 c222 rfl rfl (D 61) fun T223 X223 e223 => ?_
      refine own_step (g' := (mkF m 122 #[sR ta, sI 0, sI jd, sR li, sI 2, sI 2] [(.int 3), (.int 0), (.ref sa)])) (fun _ q => XS.iloadN X223.here hx rfl (D 62) rfl (XS.iload X223.here hx rfl (D 63) rfl (XS.iconst X223.here hx rfl (D 64) (XS.iadd X223.here hx rfl (D 65) rfl q)))) ?_
      have c224 := ((V_sa.keep K218 (ninS ne_sa_li nin0)).other W220 ne_sa_li)
      obtain ⟨T225, h225, X225, e225, W225, V225, st225⟩ := own_stI X223 hx hZ e223 c224 (j := (0 : Int32)) ⟨by decide, by decide⟩ (i := 0) rfl (Nat.le_of_ble_eq_true rfl) (g := (mkF m 122 #[sR ta, sI 0, sI jd, sR li, sI 2, sI 2] [(.int 3), (.int 0), (.ref sa)])) rfl rfl (D 66)
      replace V225 : Arv Z h225 sa qs .int (4 : Int32) [(.int (3 : Int32)), (.int (0 : Int32)), (.int (0 : Int32)), (.int (0 : Int32))] (.int (0 : Int32)) := V225
      have N226 := Fr.snoc X225 N221 ge_sa
      refine own_step (T' := T225) (g' := (mkF m 123 #[sR ta, sI 0, sI jd, sR li, sI 2, sI 2] [])) st225 ?_
      have c227 := ((((Keep.refl h0 [sa, li]).trans K218 (allS (Or.inl (List.mem_of_getElem? (i := 1) rfl)) all0)).wr W220 (Or.inl (List.mem_of_getElem? (i := 1) rfl))).wr W225 (Or.inl (List.mem_of_getElem? (i := 0) rfl)))
      have c228 := (V220.other W225 (Ne.symm ne_sa_li))
      exact own_retV X225 hx hrt (D 67) hlk (by rw [e225]; exact ⟨(3 : Int32), y0, y1, jd, y3, rfl, N226, c227, V225, c228, (Or.inr rfl)⟩) (by decide) (by decide)
theorem pd_4 : parseMethodDescriptor "(II)V" = some ⟨[.int, .int], none⟩ := by decide +kernel
def Q_own_ad3 (Z : State) (ta ka pa la sa fa : Addr) (qk qp ql qs : ClassId) (kl : List Int64) (pl : List Int32) (u : Nat) (li : Addr) (qi : ClassId) (y0 y1 y2 y3 : Int32) (ky : Int64) (jd : Int32) (tt : Nat) (h0 : Heap) (n0 : Nat) (v : Option Value) (h : Heap) (L : List Loc) : Prop := ∃ (sz : Int32), ∃ (d0 : Int32), ∃ (d1 : Int32), ∃ (d2 : Int32), ∃ (d3 : Int32), v = none ∧ Fr n0 L ∧ Keep h0 h [sa, li] ∧ Arv Z h sa qs .int (4 : Int32) [(.int sz), (.int (0 : Int32)), (.int (0 : Int32)), (.int (0 : Int32))] (.int (0 : Int32)) ∧ Arv Z h li qi .int (4 : Int32) [(.int d0), (.int d1), (.int d2), (.int d3)] (.int (0 : Int32)) ∧ (sz = (2 : Int32) ∨ sz = (3 : Int32))
set_option maxRecDepth 65536 in
set_option maxHeartbeats 40000000 in
theorem own_ad3 (l : Launch) (Z : State) (a0 : Array Value) (hw : own_HW a0 Z) (ws : List Jvm.Cond) (ta ka pa la sa fa : Addr) (qk qp ql qs : ClassId) (kl : List Int64) (pl : List Int32) (u : Nat) (li : Addr) (qi : ClassId) (y0 y1 y2 y3 : Int32) (ky : Int64) (jd : Int32) (tt : Nat) (h0 : Heap) (n0 : Nat) (Z0 : n0 ≤ h0.size) (E_ta : own_Et Z h0 ta) (F_keys_ta : own_Fk Z h0 ta (.ref ka)) (F_places_ta : own_Fp Z h0 ta (.ref pa)) (F_used_ta : own_Fu Z h0 ta (.int (Int32.ofNat u))) (F_lists_ta : own_Fl Z h0 ta (.ref la)) (F_listSizes_ta : own_Fs Z h0 ta (.ref sa)) (F_freeLists_ta : own_Ff Z h0 ta (.ref fa)) (F_freeCount_ta : own_Fc Z h0 ta (.int (0 : Int32))) (F_listCount_ta : own_Fn Z h0 ta (.int (1 : Int32))) (V_ka : Arv Z h0 ka qk .long (16 : Int32) (kl.map Value.long) (.long (0 : Int64))) (V_pa : Arv Z h0 pa qp .int (16 : Int32) (pl.map Value.int) (.int (0 : Int32))) (V_la : Arv Z h0 la ql (.array .int) (4 : Int32) [(.ref li), .null, .null, .null] .null) (V_sa : Arv Z h0 sa qs .int (4 : Int32) [(.int (2 : Int32)), (.int (0 : Int32)), (.int (0 : Int32)), (.int (0 : Int32))] (.int (0 : Int32))) (V_li : Arv Z h0 li qi .int (4 : Int32) [(.int y0), (.int y1), (.int y2), (.int y3)] (.int (0 : Int32))) (ge_sa : n0 ≤ sa) (ge_li : n0 ≤ li) (ne_sa_li : ¬ sa = li) (hkl : kl.length = 16) (hpl : pl.length = 16) (hpt : own_pth kl pl ky tt) (hq : ¬ (pl.getD (own_q ky tt) 0) = 0 ∧ kl.getD (own_q ky tt) 0 = ky) (hm1 : (pl.getD (own_q ky tt) 0) = (-1 : Int32)) :
    own_Met l Z ⟨"com/example/vaxwire/vaxwire/registry/KeyIndex$Table", "add", "(JI)V"⟩ prog_102_method_2_code 6 none ws ⟨3, 0, 0, 51⟩ #[(.ref ta), (.long ky), (.int jd)] h0 (Q_own_ad3 Z ta ka pa la sa fa qk qp ql qs kl pl u li qi y0 y1 y2 y3 ky jd tt h0 n0) := by
  refine own_bodyN (g0 := fun m => mkF m 0 #[sR ta, sJ ky, .second, sI jd, .unset, .unset] []) (plainFor_of_name pn_0) (fun _ => rfl) ?_
  intro p e s m below meth c s₁ hx hby hml hrt hlk hown hnm hZ e0 X0
  have D := own_d hby kD7
  have ty_ta_ka : ta ≠ ka := (Exa.neArv E_ta V_ka (w13 hw))
  have ty_ta_pa : ta ≠ pa := (Exa.neArv E_ta V_pa (w13 hw))
  have ty_ta_la : ta ≠ la := (Exa.neArv E_ta V_la (w13 hw))
  have ty_ta_sa : ta ≠ sa := (Exa.neArv E_ta V_sa (w13 hw))
  have ty_ta_li : ta ≠ li := (Exa.neArv E_ta V_li (w13 hw))
  have ty_ka_pa : ka ≠ pa := (own_arr_ne V_ka V_pa (by decide))
  have ty_ka_la : ka ≠ la := (own_arr_ne V_ka V_la (by decide))
  have ty_ka_sa : ka ≠ sa := (own_arr_ne V_ka V_sa (by decide))
  have ty_ka_li : ka ≠ li := (own_arr_ne V_ka V_li (by decide))
  have ty_pa_la : pa ≠ la := (own_arr_ne V_pa V_la (by decide))
  have ty_la_sa : la ≠ sa := (own_arr_ne V_la V_sa (by decide))
  have ty_la_li : la ≠ li := (own_arr_ne V_la V_li (by decide))
  refine own_step (g' := (mkF m 2 #[sR ta, sJ ky, .second, sI jd, .unset, .unset] [(.long ky), (.ref ta)])) (fun _ q => XS.aloadN X0.here hx rfl (D 0) rfl rfl (XT.lloadN X0.here hx rfl (D 1) rfl q)) ?_
  refine own_callQ X0 hx hZ hown (w55 hw) (w56 hw) (w13 hw) (w57 hw) (w58 hw) (by decide) (own_bO (W := 0) (own_fi1 l Z a0 hw [] ta ka pa qk qp kl pl ky tt h0 n0 Z0 E_ta F_keys_ta F_places_ta V_ka V_pa hkl hpl hpt hq) hZ (w58 hw) (w14 hw) rfl rfl) e0 E_ta  (by decide) (by decide) (argsL := [(.long ky)]) (rest := []) rfl hml.symm (lenOf pd_0 rfl) rfl rfl (own_w0 rfl rfl) (D 2) ?_
  rintro _ T229 L229 X229 ⟨rfl, N229q, e229⟩
  have N230 := Fr.app (Fr.nil n0) N229q
  refine own_step (g' := (mkF m 9 #[sR ta, sJ ky, .second, sI jd, sI (Int32.ofNat (own_q ky tt)), .unset] [(.int (Int32.ofNat (own_q ky tt)))])) (fun _ q => XS.istore X229.here hx rfl (D 3) rfl (l' := #[sR ta, sJ ky, .second, sI jd, sI (Int32.ofNat (own_q ky tt)), .unset]) rfl (XS.iload X229.here hx rfl (D 4) rfl q)) ?_
  have hc231 : ¬ ((Int32.ofNat (own_q ky tt)) < 0) := (own_qin (own_qlt ky tt)).1
  refine own_step (g' := (mkF m 78 #[sR ta, sJ ky, .second, sI jd, sI (Int32.ofNat (own_q ky tt)), .unset] [(.ref ta)])) (fun _ q => XS.ifYes X229.here hx rfl (pc0 := 9) (pc' := 77) rfl (D 5) rfl (XT.i0_ge_t hc231) (by decide) (by decide) (XS.aloadN X229.here hx rfl (D 40) rfl rfl q)) ?_
  refine own_gF X229 hx hZ hown (w23 hw) e229 F_places_ta rfl rfl (D 41) fun T232 X232 e232 => ?_
  refine own_step (g' := (mkF m 84 #[sR ta, sJ ky, .second, sI jd, sI (Int32.ofNat (own_q ky tt)), .unset] [(.int (pl.getD (own_q ky tt) 0))])) (fun _ q => XS.iload X232.here hx rfl (D 42) rfl (own_ldI X232 hx hZ e232 V_pa (j := (Int32.ofNat (own_q ky tt))) (own_qin (own_qlt ky tt)) (v := (.int (pl.getD (own_q ky tt) 0))) (by rw [own_nat (by have := (own_qlt ky tt); omega)]; exact own_mapD (by rw [hpl]; exact (own_qlt ky tt))) (g := (mkF m 83 #[sR ta, sJ ky, .second, sI jd, sI (Int32.ofNat (own_q ky tt)), .unset] [(.int (Int32.ofNat (own_q ky tt))), (.ref pa)])) rfl rfl (D 43) _ q)) ?_
  have hc233 : ¬ (0 < (pl.getD (own_q ky tt) 0)) := (by rw [hm1]; decide)
  refine own_step (g' := (mkF m 133 #[sR ta, sJ ky, .second, sI jd, sI (Int32.ofNat (own_q ky tt)), .unset] [(.ref ta), (.ref ta)])) (fun _ q => XS.ifYes X232.here hx rfl (pc0 := 84) (pc' := 131) rfl (D 44) rfl (XT.i0_le_t hc233) (by decide) (by decide) (XS.aloadN X232.here hx rfl (D 69) rfl rfl (XS.aloadN X232.here hx rfl (D 70) rfl rfl q))) ?_
  refine own_gF X232 hx hZ hown (w23 hw) e232 F_places_ta rfl rfl (D 71) fun T234 X234 e234 => ?_
  refine own_step (g' := (mkF m 139 #[sR ta, sJ ky, .second, sI jd, sI (Int32.ofNat (own_q ky tt)), .unset] [(.int (pl.getD (own_q ky tt) 0)), (.ref ta)])) (fun _ q => XS.iload X234.here hx rfl (D 72) rfl (own_ldI X234 hx hZ e234 V_pa (j := (Int32.ofNat (own_q ky tt))) (own_qin (own_qlt ky tt)) (v := (.int (pl.getD (own_q ky tt) 0))) (by rw [own_nat (by have := (own_qlt ky tt); omega)]; exact own_mapD (by rw [hpl]; exact (own_qlt ky tt))) (g := (mkF m 138 #[sR ta, sJ ky, .second, sI jd, sI (Int32.ofNat (own_q ky tt)), .unset] [(.int (Int32.ofNat (own_q ky tt))), (.ref pa), (.ref ta)])) rfl rfl (D 73) _ q)) ?_
  rw [show (pl.getD (own_q ky tt) 0) = (-1 : Int32) from hm1]
  refine own_step (g' := (mkF m 143 #[sR ta, sJ ky, .second, sI jd, sI (Int32.ofNat (own_q ky tt)), .unset] [(.int jd), (.int 0), (.ref ta)])) (fun _ q => XS.ineg X234.here hx rfl (D 74) rfl (XS.iconst X234.here hx rfl (D 75) (XS.isub X234.here hx rfl (D 76) rfl (XS.iloadN X234.here hx rfl (D 77) rfl q)))) ?_
  refine own_callQ X234 hx hZ hown (w76 hw) (w77 hw) (w13 hw) (w78 hw) (w79 hw) (by decide) (own_bO (W := 0) (own_al l Z a0 hw [] ta la sa ql qs li qi y0 y1 y2 y3 jd h0 n0 Z0 E_ta F_lists_ta F_listSizes_ta V_la V_sa V_li ge_sa ge_li ne_sa_li) hZ (w79 hw) (w14 hw) rfl rfl) e234 E_ta  (by decide) (by decide) (argsL := [(.int (0 : Int32)), (.int jd)]) (rest := []) rfl hml.symm (lenOf pd_4 rfl) rfl rfl (own_w0 rfl rfl) (D 78) ?_
  rintro _ T235 L235 X235 ⟨sz235, d0235, d1235, d2235, d3235, rfl, N235q, K235, f0_235, f1_235, p0_235⟩
  have N236 := Fr.app N230 N235q
  have c237 := ((Keep.refl h0 [sa, li]).trans K235 (allS (Or.inl (List.mem_of_getElem? (i := 0) rfl)) (allS (Or.inl (List.mem_of_getElem? (i := 1) rfl)) all0)))
  exact own_retV X235 hx hrt (D 79) hlk ⟨sz235, d0235, d1235, d2235, d3235, rfl, N236, c237, f0_235, f1_235, p0_235⟩ (by decide) (by decide)
def Q_own_emp (Z : State) (ta ka pa la sa fa : Addr) (qk qp : ClassId) (kl : List Int64) (pl : List Int32) (u : Nat) (lc : Int32) (qn te : Nat) (h0 : Heap) (n0 : Nat) (v : Option Value) (h : Heap) (L : List Loc) : Prop := ∃ (k3 : List Int64), ∃ (p3 : List Int32), v = none ∧ Fr n0 L ∧ Keep h0 h [ta, ka, pa] ∧ own_Et Z h ta ∧ own_Fk Z h ta (.ref ka) ∧ own_Fp Z h ta (.ref pa) ∧ own_Fu Z h ta (.int ((Int32.ofNat u) - (1 : Int32))) ∧ own_Fl Z h ta (.ref la) ∧ own_Fs Z h ta (.ref sa) ∧ own_Ff Z h ta (.ref fa) ∧ own_Fc Z h ta (.int (0 : Int32)) ∧ own_Fn Z h ta (.int lc) ∧ Arv Z h ka qk .long (16 : Int32) (k3.map Value.long) (.long (0 : Int64)) ∧ Arv Z h pa qp .int (16 : Int32) (p3.map Value.int) (.int (0 : Int32))
set_option maxRecDepth 65536 in
set_option maxHeartbeats 40000000 in
theorem own_emp (l : Launch) (Z : State) (a0 : Array Value) (hw : own_HW a0 Z) (ws : List Jvm.Cond) (ta ka pa la sa fa : Addr) (qk qp : ClassId) (kl : List Int64) (pl : List Int32) (u : Nat) (lc : Int32) (qn te : Nat) (h0 : Heap) (n0 : Nat) (Z0 : n0 ≤ h0.size) (E_ta : own_Et Z h0 ta) (F_keys_ta : own_Fk Z h0 ta (.ref ka)) (F_places_ta : own_Fp Z h0 ta (.ref pa)) (F_used_ta : own_Fu Z h0 ta (.int (Int32.ofNat u))) (F_lists_ta : own_Fl Z h0 ta (.ref la)) (F_listSizes_ta : own_Fs Z h0 ta (.ref sa)) (F_freeLists_ta : own_Ff Z h0 ta (.ref fa)) (F_freeCount_ta : own_Fc Z h0 ta (.int (0 : Int32))) (F_listCount_ta : own_Fn Z h0 ta (.int lc)) (V_ka : Arv Z h0 ka qk .long (16 : Int32) (kl.map Value.long) (.long (0 : Int64))) (V_pa : Arv Z h0 pa qp .int (16 : Int32) (pl.map Value.int) (.int (0 : Int32))) (ge_ta : n0 ≤ ta) (ge_ka : n0 ≤ ka) (ge_pa : n0 ≤ pa) (hkl : kl.length = 16) (hpl : pl.length = 16) (hqn : qn < 16) (hte : te < 15) (hne : ∀ i, i < te → ¬ pl.getD ((qn + 1 + i) % 16) 0 = 0) (hem : pl.getD ((qn + 1 + te) % 16) 0 = 0) :
    own_Met l Z ⟨"com/example/vaxwire/vaxwire/registry/KeyIndex$Table", "empty", "(I)V"⟩ prog_102_method_7_code 7 none ws ⟨0, 0, 0, 0⟩ #[(.ref ta), (.int (Int32.ofNat qn))] h0 (Q_own_emp Z ta ka pa la sa fa qk qp kl pl u lc qn te h0 n0) := by
  refine own_bodyN (g0 := fun m => mkF m 0 #[sR ta, sI (Int32.ofNat qn), .unset, .unset, .unset, .unset, .unset] []) (plainFor_of_name pn_0) (fun _ => rfl) ?_
  intro p e s m below meth c s₁ hx hby hml hrt hlk hown hnm hZ e0 X0
  have D := own_d hby kD19
  have ty_ta_ka : ta ≠ ka := (Exa.neArv E_ta V_ka (w13 hw))
  have ty_ta_pa : ta ≠ pa := (Exa.neArv E_ta V_pa (w13 hw))
  have ty_ka_pa : ka ≠ pa := (own_arr_ne V_ka V_pa (by decide))
  refine own_step (g' := (mkF m 1 #[sR ta, sI (Int32.ofNat qn), .unset, .unset, .unset, .unset, .unset] [(.ref ta)])) (fun _ q => XS.aloadN X0.here hx rfl (D 0) rfl rfl q) ?_
  refine own_gF X0 hx hZ hown (w20 hw) e0 F_keys_ta rfl rfl (D 1) fun T238 X238 e238 => ?_
  refine own_step (g' := (mkF m 14 #[sR ta, sI (Int32.ofNat qn), sI 15, sI (Int32.ofNat qn), .unset, .unset, .unset] [(.int 15), (.int ((Int32.ofNat qn) + (1 : Int32)))])) (fun _ q => own_len X238 hx hZ e238 V_ka (g := (mkF m 4 #[sR ta, sI (Int32.ofNat qn), .unset, .unset, .unset, .unset, .unset] [(.ref ka)])) rfl rfl (D 2) _ (XS.iconst X238.here hx rfl (D 3) (XS.isub X238.here hx rfl (D 4) rfl (XS.istoreN X238.here hx rfl (D 5) rfl (l' := #[sR ta, sI (Int32.ofNat qn), sI 15, .unset, .unset, .unset, .unset]) rfl (XS.iloadN X238.here hx rfl (D 6) rfl (XS.istoreN X238.here hx rfl (D 7) rfl (l' := #[sR ta, sI (Int32.ofNat qn), sI 15, sI (Int32.ofNat qn), .unset, .unset, .unset]) rfl (XS.iloadN X238.here hx rfl (D 8) rfl (XS.iconst X238.here hx rfl (D 9) (XS.iadd X238.here hx rfl (D 10) rfl (XS.iloadN X238.here hx rfl (D 11) rfl q)))))))))) ?_
  refine own_step (g' := (mkF m 15 #[sR ta, sI (Int32.ofNat qn), sI 15, sI (Int32.ofNat qn), .unset, .unset, .unset] [(.int (((Int32.ofNat qn) + (1 : Int32)) &&& (15 : Int32)))])) (fun _ q => XS.iand X238.here hx rfl (D 12) rfl q) ?_
  rw [show (((Int32.ofNat qn) + (1 : Int32)) &&& (15 : Int32)) = (Int32.ofNat ((qn + 1 + 0) % 16)) from (own_nx0 hqn)]
  refine own_step (g' := (mkF m 17 #[sR ta, sI (Int32.ofNat qn), sI 15, sI (Int32.ofNat qn), sI (Int32.ofNat ((qn + 1 + 0) % 16)), .unset, .unset] [])) (fun _ q => XS.istore X238.here hx rfl (D 13) rfl (l' := #[sR ta, sI (Int32.ofNat qn), sI 15, sI (Int32.ofNat qn), sI (Int32.ofNat ((qn + 1 + 0) % 16)), .unset, .unset]) rfl q) ?_
  have lp_el : ∀ (k_el : Nat) (i : Nat) (fr : Nat) (k2 : List Int64) (p2 : List Int32) (s5 : Slot) (s6 : Slot) (T_el : State) (h_el : Heap) (L_el : List Loc) (X_el : Stand p l e (⟨0, 0, 0, 0⟩ : Room) s m #[(.ref ta), (.int (Int32.ofNat qn))] below meth c T_el L_el 0 0) (e_el : T_el.heap = h_el) (N_el : Fr n0 L_el) (KL_el : Keep h0 h_el [ka, pa]) (g0_el : Arv Z h_el ka qk .long (16 : Int32) (k2.map Value.long) (.long (0 : Int64))) (g1_el : Arv Z h_el pa qp .int (16 : Int32) (p2.map Value.int) (.int (0 : Int32))) (hi : i ≤ te) (hk2 : k2.length = 16) (hp2 : p2.length = 16) (hfr : fr < 16 ∧ ∃ fs, fs ≤ i ∧ fr = (qn + fs) % 16) (hah : ∀ j, i ≤ j → j ≤ te → p2.getD ((qn + 1 + j) % 16) 0 = pl.getD ((qn + 1 + j) % 16) 0) (hs5 : s5 = .unset ∨ ∃ w, s5 = .val w ∧ w.category = 1) (hs6 : s6 = .unset ∨ ∃ w, s6 = .val w ∧ w.category = 1) (hk_el : te - i = k_el), own_Fin p e below (own_G s (Q_own_emp Z ta ka pa la sa fa qk qp kl pl u lc qn te h0 n0) (⟨0, 0, 0, 0⟩ : Room).cells (⟨0, 0, 0, 0⟩ : Room).slots) T_el (mkF m 17 #[sR ta, sI (Int32.ofNat qn), sI 15, sI (Int32.ofNat fr), sI (Int32.ofNat ((qn + 1 + i) % 16)), s5, s6] []) := by
    intro k_el
    induction k_el using Nat.strongRecOn with | _ k_el ih_el => ?_
    intro i fr k2 p2 s5 s6 T_el h_el L_el X_el e_el N_el KL_el g0_el g1_el hi hk2 hp2 hfr hah hs5 hs6 hk_el
    subst hk_el
    rcases Nat.lt_or_eq_of_le hi with hin | hit
    · refine own_step (g' := (mkF m 18 #[sR ta, sI (Int32.ofNat qn), sI 15, sI (Int32.ofNat fr), sI (Int32.ofNat ((qn + 1 + i) % 16)), s5, s6] [(.ref ta)])) (fun _ q => XS.aloadN X_el.here hx rfl (D 14) rfl rfl q) ?_
      have c239 := (F_places_ta.keep KL_el (ninS ty_ta_ka (ninS ty_ta_pa nin0)))
      refine own_gF X_el hx hZ hown (w23 hw) e_el c239 rfl rfl (D 15) fun T240 X240 e240 => ?_
      refine own_step (g' := (mkF m 24 #[sR ta, sI (Int32.ofNat qn), sI 15, sI (Int32.ofNat fr), sI (Int32.ofNat ((qn + 1 + i) % 16)), s5, s6] [(.int (p2.getD ((qn + 1 + i) % 16) 0))])) (fun _ q => XS.iload X240.here hx rfl (D 16) rfl (own_ldI X240 hx hZ e240 g1_el (j := (Int32.ofNat ((qn + 1 + i) % 16))) (own_qin (Nat.mod_lt (qn + 1 + i) (by decide : 0 < 16))) (v := (.int (p2.getD ((qn + 1 + i) % 16) 0))) (by rw [own_nat (by have := (Nat.mod_lt (qn + 1 + i) (by decide : 0 < 16)); omega)]; exact own_mapD (by rw [hp2]; exact (Nat.mod_lt (qn + 1 + i) (by decide : 0 < 16)))) (g := (mkF m 23 #[sR ta, sI (Int32.ofNat qn), sI 15, sI (Int32.ofNat fr), sI (Int32.ofNat ((qn + 1 + i) % 16)), s5, s6] [(.int (Int32.ofNat ((qn + 1 + i) % 16))), (.ref pa)])) rfl rfl (D 17) _ q)) ?_
      have hc241 : ¬ ((p2.getD ((qn + 1 + i) % 16) 0) = 0) := (by rw [hah i (Nat.le_refl _) hi]; exact hne i hin)
      refine own_step (g' := (mkF m 28 #[sR ta, sI (Int32.ofNat qn), sI 15, sI (Int32.ofNat fr), sI (Int32.ofNat ((qn + 1 + i) % 16)), s5, s6] [(.ref ta)])) (fun _ q => XS.ifNo X240.here hx rfl (D 18) rfl (XT.i0_eq_f hc241) (XS.aloadN X240.here hx rfl (D 19) rfl rfl q)) ?_
      have c242 := (F_keys_ta.keep KL_el (ninS ty_ta_ka (ninS ty_ta_pa nin0)))
      refine own_gF X240 hx hZ hown (w20 hw) e240 c242 rfl rfl (D 20) fun T243 X243 e243 => ?_
      refine own_step (g' := (mkF m 39 #[sR ta, sI (Int32.ofNat qn), sI 15, sI (Int32.ofNat fr), sI (Int32.ofNat ((qn + 1 + i) % 16)), sI (((k2.getD ((qn + 1 + i) % 16) 0).toInt32) &&& (15 : Int32)), s6] [])) (fun _ q => XS.iload X243.here hx rfl (D 21) rfl (own_ldJ X243 hx hZ e243 g0_el (j := (Int32.ofNat ((qn + 1 + i) % 16))) (own_qin (Nat.mod_lt (qn + 1 + i) (by decide : 0 < 16))) (v := (.long (k2.getD ((qn + 1 + i) % 16) 0))) (by rw [own_nat (by have := (Nat.mod_lt (qn + 1 + i) (by decide : 0 < 16)); omega)]; exact own_mapL (by rw [hk2]; exact (Nat.mod_lt (qn + 1 + i) (by decide : 0 < 16)))) (g := (mkF m 33 #[sR ta, sI (Int32.ofNat qn), sI 15, sI (Int32.ofNat fr), sI (Int32.ofNat ((qn + 1 + i) % 16)), s5, s6] [(.int (Int32.ofNat ((qn + 1 + i) % 16))), (.ref ka)])) rfl rfl (D 22) _ (XT.l2i X243.here hx rfl (D 23) rfl (XS.iloadN X243.here hx rfl (D 24) rfl (XS.iand X243.here hx rfl (D 25) rfl (XS.istoreS X243.here hx rfl (D 26) rfl rfl hs5 q)))))) ?_
      have lp_e84 : ∀ (bw : Int32) (T_e84 : State) (h_e84 : Heap) (L_e84 : List Loc) (X_e84 : Stand p l e (⟨0, 0, 0, 0⟩ : Room) s m #[(.ref ta), (.int (Int32.ofNat qn))] below meth c T_e84 L_e84 0 0) (e_e84 : T_e84.heap = h_e84) (N_e84 : Fr n0 L_e84) (KL_e84 : Keep h_el h_e84 [])  , own_Fin p e below (own_G s (Q_own_emp Z ta ka pa la sa fa qk qp kl pl u lc qn te h0 n0) (⟨0, 0, 0, 0⟩ : Room).cells (⟨0, 0, 0, 0⟩ : Room).slots) T_e84 (mkF m 84 #[sR ta, sI (Int32.ofNat qn), sI 15, sI (Int32.ofNat fr), sI (Int32.ofNat ((qn + 1 + i) % 16)), sI (((k2.getD ((qn + 1 + i) % 16) 0).toInt32) &&& (15 : Int32)), s6] [(.int bw)]) := by
        intro bw T_e84 h_e84 L_e84 X_e84 e_e84 N_e84 KL_e84  
        refine own_step (g' := (mkF m 88 #[sR ta, sI (Int32.ofNat qn), sI 15, sI (Int32.ofNat fr), sI (Int32.ofNat ((qn + 1 + i) % 16)), sI (((k2.getD ((qn + 1 + i) % 16) 0).toInt32) &&& (15 : Int32)), sI bw] [(.int bw)])) (fun _ q => XS.istoreS X_e84.here hx rfl (D 49) rfl rfl hs6 (XS.iload X_e84.here hx rfl (D 50) rfl q)) ?_
        by_cases hc244 : bw = 0
        · refine own_step (g' := (mkF m 92 #[sR ta, sI (Int32.ofNat qn), sI 15, sI (Int32.ofNat fr), sI (Int32.ofNat ((qn + 1 + i) % 16)), sI (((k2.getD ((qn + 1 + i) % 16) 0).toInt32) &&& (15 : Int32)), sI bw] [(.ref ta)])) (fun _ q => XS.ifNo X_e84.here hx rfl (D 51) rfl (XT.i0_ne_f hc244) (XS.aloadN X_e84.here hx rfl (D 52) rfl rfl q)) ?_
          have c245 := (c242.keep KL_e84 nin0)
          refine own_gF X_e84 hx hZ hown (w20 hw) e_e84 c245 rfl rfl (D 53) fun T246 X246 e246 => ?_
          refine own_step (g' := (mkF m 97 #[sR ta, sI (Int32.ofNat qn), sI 15, sI (Int32.ofNat fr), sI (Int32.ofNat ((qn + 1 + i) % 16)), sI (((k2.getD ((qn + 1 + i) % 16) 0).toInt32) &&& (15 : Int32)), sI bw] [(.ref ta), (.int (Int32.ofNat fr)), (.ref ka)])) (fun _ q => XS.iloadN X246.here hx rfl (D 54) rfl (XS.aloadN X246.here hx rfl (D 55) rfl rfl q)) ?_
          refine own_gF X246 hx hZ hown (w20 hw) e246 c245 rfl rfl (D 56) fun T247 X247 e247 => ?_
          refine own_step (g' := (mkF m 102 #[sR ta, sI (Int32.ofNat qn), sI 15, sI (Int32.ofNat fr), sI (Int32.ofNat ((qn + 1 + i) % 16)), sI (((k2.getD ((qn + 1 + i) % 16) 0).toInt32) &&& (15 : Int32)), sI bw] [(.int (Int32.ofNat ((qn + 1 + i) % 16))), (.ref ka), (.int (Int32.ofNat fr)), (.ref ka)])) (fun _ q => XS.iload X247.here hx rfl (D 57) rfl q) ?_
          have c248 := (g0_el.keep KL_e84 nin0)
          refine own_step (g' := (mkF m 103 #[sR ta, sI (Int32.ofNat qn), sI 15, sI (Int32.ofNat fr), sI (Int32.ofNat ((qn + 1 + i) % 16)), sI (((k2.getD ((qn + 1 + i) % 16) 0).toInt32) &&& (15 : Int32)), sI bw] [(.long (k2.getD ((qn + 1 + i) % 16) 0)), (.int (Int32.ofNat fr)), (.ref ka)])) (fun _ q => own_ldJ X247 hx hZ e247 c248 (j := (Int32.ofNat ((qn + 1 + i) % 16))) (own_qin (Nat.mod_lt (qn + 1 + i) (by decide : 0 < 16))) (v := (.long (k2.getD ((qn + 1 + i) % 16) 0))) (by rw [own_nat (by have := (Nat.mod_lt (qn + 1 + i) (by decide : 0 < 16)); omega)]; exact own_mapL (by rw [hk2]; exact (Nat.mod_lt (qn + 1 + i) (by decide : 0 < 16)))) (g := (mkF m 102 #[sR ta, sI (Int32.ofNat qn), sI 15, sI (Int32.ofNat fr), sI (Int32.ofNat ((qn + 1 + i) % 16)), sI (((k2.getD ((qn + 1 + i) % 16) 0).toInt32) &&& (15 : Int32)), sI bw] [(.int (Int32.ofNat ((qn + 1 + i) % 16))), (.ref ka), (.int (Int32.ofNat fr)), (.ref ka)])) rfl rfl (D 58) _ q) ?_
          obtain ⟨T249, h249, X249, e249, W249, V249, st249⟩ := own_stJ X247 hx hZ e247 c248 (j := (Int32.ofNat fr)) (own_qin hfr.1) (i := fr) (own_nat (by have := hfr.1; omega)) (by rw [List.length_map, hk2]; exact hfr.1) (g := (mkF m 103 #[sR ta, sI (Int32.ofNat qn), sI 15, sI (Int32.ofNat fr), sI (Int32.ofNat ((qn + 1 + i) % 16)), sI (((k2.getD ((qn + 1 + i) % 16) 0).toInt32) &&& (15 : Int32)), sI bw] [(.long (k2.getD ((qn + 1 + i) % 16) 0)), (.int (Int32.ofNat fr)), (.ref ka)])) rfl rfl (D 59)
          have N250 := Fr.snoc X249 N_e84 ge_ka
          refine own_step (T' := T249) (g' := (mkF m 104 #[sR ta, sI (Int32.ofNat qn), sI 15, sI (Int32.ofNat fr), sI (Int32.ofNat ((qn + 1 + i) % 16)), sI (((k2.getD ((qn + 1 + i) % 16) 0).toInt32) &&& (15 : Int32)), sI bw] [])) st249 ?_
          have qV251 : (((k2.map Value.long).set fr (.long (k2.getD ((qn + 1 + i) % 16) 0))) : List Value) = ((k2.set fr (k2.getD ((qn + 1 + i) % 16) 0)).map Value.long) := (by rw [List.map_set])
          have V251 : Arv Z h249 ka qk .long (16 : Int32) ((k2.set fr (k2.getD ((qn + 1 + i) % 16) 0)).map Value.long) (.long (0 : Int64)) := own_fixv qV251 V249
          refine own_step (g' := (mkF m 105 #[sR ta, sI (Int32.ofNat qn), sI 15, sI (Int32.ofNat fr), sI (Int32.ofNat ((qn + 1 + i) % 16)), sI (((k2.getD ((qn + 1 + i) % 16) 0).toInt32) &&& (15 : Int32)), sI bw] [(.ref ta)])) (fun _ q => XS.aloadN X249.here hx rfl (D 60) rfl rfl q) ?_
          have c252 := ((c239.keep KL_e84 nin0).other W249 (Or.inl ty_ta_ka))
          refine own_gF X249 hx hZ hown (w23 hw) e249 c252 rfl rfl (D 61) fun T253 X253 e253 => ?_
          refine own_step (g' := (mkF m 110 #[sR ta, sI (Int32.ofNat qn), sI 15, sI (Int32.ofNat fr), sI (Int32.ofNat ((qn + 1 + i) % 16)), sI (((k2.getD ((qn + 1 + i) % 16) 0).toInt32) &&& (15 : Int32)), sI bw] [(.ref ta), (.int (Int32.ofNat fr)), (.ref pa)])) (fun _ q => XS.iloadN X253.here hx rfl (D 62) rfl (XS.aloadN X253.here hx rfl (D 63) rfl rfl q)) ?_
          refine own_gF X253 hx hZ hown (w23 hw) e253 c252 rfl rfl (D 64) fun T254 X254 e254 => ?_
          refine own_step (g' := (mkF m 115 #[sR ta, sI (Int32.ofNat qn), sI 15, sI (Int32.ofNat fr), sI (Int32.ofNat ((qn + 1 + i) % 16)), sI (((k2.getD ((qn + 1 + i) % 16) 0).toInt32) &&& (15 : Int32)), sI bw] [(.int (Int32.ofNat ((qn + 1 + i) % 16))), (.ref pa), (.int (Int32.ofNat fr)), (.ref pa)])) (fun _ q => XS.iload X254.here hx rfl (D 65) rfl q) ?_
          have c255 := ((g1_el.keep KL_e84 nin0).other W249 (Ne.symm ty_ka_pa))
          refine own_step (g' := (mkF m 116 #[sR ta, sI (Int32.ofNat qn), sI 15, sI (Int32.ofNat fr), sI (Int32.ofNat ((qn + 1 + i) % 16)), sI (((k2.getD ((qn + 1 + i) % 16) 0).toInt32) &&& (15 : Int32)), sI bw] [(.int (p2.getD ((qn + 1 + i) % 16) 0)), (.int (Int32.ofNat fr)), (.ref pa)])) (fun _ q => own_ldI X254 hx hZ e254 c255 (j := (Int32.ofNat ((qn + 1 + i) % 16))) (own_qin (Nat.mod_lt (qn + 1 + i) (by decide : 0 < 16))) (v := (.int (p2.getD ((qn + 1 + i) % 16) 0))) (by rw [own_nat (by have := (Nat.mod_lt (qn + 1 + i) (by decide : 0 < 16)); omega)]; exact own_mapD (by rw [hp2]; exact (Nat.mod_lt (qn + 1 + i) (by decide : 0 < 16)))) (g := (mkF m 115 #[sR ta, sI (Int32.ofNat qn), sI 15, sI (Int32.ofNat fr), sI (Int32.ofNat ((qn + 1 + i) % 16)), sI (((k2.getD ((qn + 1 + i) % 16) 0).toInt32) &&& (15 : Int32)), sI bw] [(.int (Int32.ofNat ((qn + 1 + i) % 16))), (.ref pa), (.int (Int32.ofNat fr)), (.ref pa)])) rfl rfl (D 66) _ q) ?_
          obtain ⟨T256, h256, X256, e256, W256, V256, st256⟩ := own_stI X254 hx hZ e254 c255 (j := (Int32.ofNat fr)) (own_qin hfr.1) (i := fr) (own_nat (by have := hfr.1; omega)) (by rw [List.length_map, hp2]; exact hfr.1) (g := (mkF m 116 #[sR ta, sI (Int32.ofNat qn), sI 15, sI (Int32.ofNat fr), sI (Int32.ofNat ((qn + 1 + i) % 16)), sI (((k2.getD ((qn + 1 + i) % 16) 0).toInt32) &&& (15 : Int32)), sI bw] [(.int (p2.getD ((qn + 1 + i) % 16) 0)), (.int (Int32.ofNat fr)), (.ref pa)])) rfl rfl (D 67)
          have N257 := Fr.snoc X256 N250 ge_pa
          refine own_step (T' := T256) (g' := (mkF m 117 #[sR ta, sI (Int32.ofNat qn), sI 15, sI (Int32.ofNat fr), sI (Int32.ofNat ((qn + 1 + i) % 16)), sI (((k2.getD ((qn + 1 + i) % 16) 0).toInt32) &&& (15 : Int32)), sI bw] [])) st256 ?_
          have qV258 : (((p2.map Value.int).set fr (.int (p2.getD ((qn + 1 + i) % 16) 0))) : List Value) = ((p2.set fr (p2.getD ((qn + 1 + i) % 16) 0)).map Value.int) := (by rw [List.map_set])
          have V258 : Arv Z h256 pa qp .int (16 : Int32) ((p2.set fr (p2.getD ((qn + 1 + i) % 16) 0)).map Value.int) (.int (0 : Int32)) := own_fixv qV258 V256
          refine own_step (g' := (mkF m 126 #[sR ta, sI (Int32.ofNat qn), sI 15, sI (Int32.ofNat ((qn + 1 + i) % 16)), sI (Int32.ofNat ((qn + 1 + i) % 16)), sI (((k2.getD ((qn + 1 + i) % 16) 0).toInt32) &&& (15 : Int32)), sI bw] [(.int (((Int32.ofNat ((qn + 1 + i) % 16)) + (1 : Int32)) &&& (15 : Int32)))])) (fun _ q => XS.iload X256.here hx rfl (D 68) rfl (XS.istoreN X256.here hx rfl (D 69) rfl (l' := #[sR ta, sI (Int32.ofNat qn), sI 15, sI (Int32.ofNat ((qn + 1 + i) % 16)), sI (Int32.ofNat ((qn + 1 + i) % 16)), sI (((k2.getD ((qn + 1 + i) % 16) 0).toInt32) &&& (15 : Int32)), sI bw]) rfl (XS.iload X256.here hx rfl (D 70) rfl (XS.iconst X256.here hx rfl (D 71) (XS.iadd X256.here hx rfl (D 72) rfl (XS.iloadN X256.here hx rfl (D 73) rfl (XS.iand X256.here hx rfl (D 74) rfl q))))))) ?_
          rw [show (((Int32.ofNat ((qn + 1 + i) % 16)) + (1 : Int32)) &&& (15 : Int32)) = (Int32.ofNat ((qn + 1 + (i + 1)) % 16)) from (own_nx1 qn i)]
          refine own_step (g' := (mkF m 17 #[sR ta, sI (Int32.ofNat qn), sI 15, sI (Int32.ofNat ((qn + 1 + i) % 16)), sI (Int32.ofNat ((qn + 1 + (i + 1)) % 16)), sI (((k2.getD ((qn + 1 + i) % 16) 0).toInt32) &&& (15 : Int32)), sI bw] [])) (fun _ q => XS.istore X256.here hx rfl (D 75) rfl (l' := #[sR ta, sI (Int32.ofNat qn), sI 15, sI (Int32.ofNat ((qn + 1 + i) % 16)), sI (Int32.ofNat ((qn + 1 + (i + 1)) % 16)), sI (((k2.getD ((qn + 1 + i) % 16) 0).toInt32) &&& (15 : Int32)), sI bw]) rfl (XS.goto X256.here hx rfl (pc0 := 128) (pc' := 17) rfl (D 76) (by decide) (by decide) q)) ?_
          have c259 := (V251.other W256 ty_ka_pa)
          have c260 := (((KL_el.trans KL_e84 all0).wr W249 (Or.inl (List.mem_of_getElem? (i := 0) rfl))).wr W256 (Or.inl (List.mem_of_getElem? (i := 1) rfl)))
          exact ih_el _ (by omega) (i + 1) (((qn + 1 + i) % 16)) (k2.set fr (k2.getD ((qn + 1 + i) % 16) 0)) (p2.set fr (p2.getD ((qn + 1 + i) % 16) 0)) (.val (.int (((k2.getD ((qn + 1 + i) % 16) 0).toInt32) &&& (15 : Int32)))) (.val (.int bw)) T256 h256 _ X256 e256 N257 c260 c259 V258 (by omega) (by rw [List.length_set]; exact hk2) (by rw [List.length_set]; exact hp2) (⟨(Nat.mod_lt (qn + 1 + i) (by decide : 0 < 16)), i + 1, Nat.le_refl _, by rw [Nat.add_assoc, Nat.add_comm 1 i]⟩) (fun j h1 h2 => own_ah hp2 hte hfr hah j (by omega) h2) (Or.inr ⟨_, rfl, rfl⟩) (Or.inr ⟨_, rfl, rfl⟩) rfl
        · refine own_step (g' := (mkF m 126 #[sR ta, sI (Int32.ofNat qn), sI 15, sI (Int32.ofNat fr), sI (Int32.ofNat ((qn + 1 + i) % 16)), sI (((k2.getD ((qn + 1 + i) % 16) 0).toInt32) &&& (15 : Int32)), sI bw] [(.int (((Int32.ofNat ((qn + 1 + i) % 16)) + (1 : Int32)) &&& (15 : Int32)))])) (fun _ q => XS.ifYes X_e84.here hx rfl (pc0 := 88) (pc' := 120) rfl (D 51) rfl (XT.i0_ne_t hc244) (by decide) (by decide) (XS.iload X_e84.here hx rfl (D 70) rfl (XS.iconst X_e84.here hx rfl (D 71) (XS.iadd X_e84.here hx rfl (D 72) rfl (XS.iloadN X_e84.here hx rfl (D 73) rfl (XS.iand X_e84.here hx rfl (D 74) rfl q)))))) ?_
          rw [show (((Int32.ofNat ((qn + 1 + i) % 16)) + (1 : Int32)) &&& (15 : Int32)) = (Int32.ofNat ((qn + 1 + (i + 1)) % 16)) from (own_nx1 qn i)]
          refine own_step (g' := (mkF m 17 #[sR ta, sI (Int32.ofNat qn), sI 15, sI (Int32.ofNat fr), sI (Int32.ofNat ((qn + 1 + (i + 1)) % 16)), sI (((k2.getD ((qn + 1 + i) % 16) 0).toInt32) &&& (15 : Int32)), sI bw] [])) (fun _ q => XS.istore X_e84.here hx rfl (D 75) rfl (l' := #[sR ta, sI (Int32.ofNat qn), sI 15, sI (Int32.ofNat fr), sI (Int32.ofNat ((qn + 1 + (i + 1)) % 16)), sI (((k2.getD ((qn + 1 + i) % 16) 0).toInt32) &&& (15 : Int32)), sI bw]) rfl (XS.goto X_e84.here hx rfl (pc0 := 128) (pc' := 17) rfl (D 76) (by decide) (by decide) q)) ?_
          have c261 := (g0_el.keep KL_e84 nin0)
          have c262 := (g1_el.keep KL_e84 nin0)
          have c263 := (KL_el.trans KL_e84 all0)
          exact ih_el _ (by omega) (i + 1) (fr) (k2) (p2) (.val (.int (((k2.getD ((qn + 1 + i) % 16) 0).toInt32) &&& (15 : Int32)))) (.val (.int bw)) T_e84 h_e84 _ X_e84 e_e84 N_e84 c263 c261 c262 (by omega) (hk2) (hp2) (⟨hfr.1, hfr.2.imp fun _ q => ⟨by omega, q.2⟩⟩) (fun j h1 h2 => hah j (by omega) h2) (Or.inr ⟨_, rfl, rfl⟩) (Or.inr ⟨_, rfl, rfl⟩) rfl
      refine own_step (g' := (mkF m 42 #[sR ta, sI (Int32.ofNat qn), sI 15, sI (Int32.ofNat fr), sI (Int32.ofNat ((qn + 1 + i) % 16)), sI (((k2.getD ((qn + 1 + i) % 16) 0).toInt32) &&& (15 : Int32)), s6] [(.int (Int32.ofNat ((qn + 1 + i) % 16))), (.int (Int32.ofNat fr))])) (fun _ q => XS.iloadN X243.here hx rfl (D 27) rfl (XS.iload X243.here hx rfl (D 28) rfl q)) ?_
      by_cases hc264 : (Int32.ofNat ((qn + 1 + i) % 16)) < (Int32.ofNat fr)
      · refine own_step (g' := (mkF m 69 #[sR ta, sI (Int32.ofNat qn), sI 15, sI (Int32.ofNat fr), sI (Int32.ofNat ((qn + 1 + i) % 16)), sI (((k2.getD ((qn + 1 + i) % 16) 0).toInt32) &&& (15 : Int32)), s6] [(.int (((k2.getD ((qn + 1 + i) % 16) 0).toInt32) &&& (15 : Int32))), (.int (Int32.ofNat fr))])) (fun _ q => XS.icmpYes X243.here hx rfl (pc0 := 42) (pc' := 66) rfl (D 29) rfl (XT.ii_gt_t hc264) (by decide) (by decide) (XS.iloadN X243.here hx rfl (D 40) rfl (XS.iload X243.here hx rfl (D 41) rfl q))) ?_
        by_cases hc265 : (Int32.ofNat fr) < (((k2.getD ((qn + 1 + i) % 16) 0).toInt32) &&& (15 : Int32))
        · refine own_step (g' := (mkF m 84 #[sR ta, sI (Int32.ofNat qn), sI 15, sI (Int32.ofNat fr), sI (Int32.ofNat ((qn + 1 + i) % 16)), sI (((k2.getD ((qn + 1 + i) % 16) 0).toInt32) &&& (15 : Int32)), s6] [(.int 1)])) (fun _ q => XS.icmpYes X243.here hx rfl (pc0 := 69) (pc' := 79) rfl (D 42) rfl (XT.ii_lt_t hc265) (by decide) (by decide) (XS.iconst X243.here hx rfl (D 46) (XS.goto X243.here hx rfl (pc0 := 80) (pc' := 84) rfl (D 47) (by decide) (by decide) q))) ?_
          exact lp_e84 ((1 : Int32)) T243 h_el _ X243 e243 N_el (Keep.refl h_el [])  
        · refine own_step (g' := (mkF m 76 #[sR ta, sI (Int32.ofNat qn), sI 15, sI (Int32.ofNat fr), sI (Int32.ofNat ((qn + 1 + i) % 16)), sI (((k2.getD ((qn + 1 + i) % 16) 0).toInt32) &&& (15 : Int32)), s6] [(.int (Int32.ofNat ((qn + 1 + i) % 16))), (.int (((k2.getD ((qn + 1 + i) % 16) 0).toInt32) &&& (15 : Int32)))])) (fun _ q => XS.icmpNo X243.here hx rfl (D 42) rfl (XT.ii_lt_f hc265) (XS.iload X243.here hx rfl (D 43) rfl (XS.iload X243.here hx rfl (D 44) rfl q))) ?_
          by_cases hc266 : (Int32.ofNat ((qn + 1 + i) % 16)) < (((k2.getD ((qn + 1 + i) % 16) 0).toInt32) &&& (15 : Int32))
          · refine own_step (g' := (mkF m 84 #[sR ta, sI (Int32.ofNat qn), sI 15, sI (Int32.ofNat fr), sI (Int32.ofNat ((qn + 1 + i) % 16)), sI (((k2.getD ((qn + 1 + i) % 16) 0).toInt32) &&& (15 : Int32)), s6] [(.int 0)])) (fun _ q => XS.icmpYes X243.here hx rfl (pc0 := 76) (pc' := 83) rfl (D 45) rfl (XT.ii_gt_t hc266) (by decide) (by decide) (XS.iconst X243.here hx rfl (D 48) q)) ?_
            exact lp_e84 ((0 : Int32)) T243 h_el _ X243 e243 N_el (Keep.refl h_el [])  
          · refine own_step (g' := (mkF m 84 #[sR ta, sI (Int32.ofNat qn), sI 15, sI (Int32.ofNat fr), sI (Int32.ofNat ((qn + 1 + i) % 16)), sI (((k2.getD ((qn + 1 + i) % 16) 0).toInt32) &&& (15 : Int32)), s6] [(.int 1)])) (fun _ q => XS.icmpNo X243.here hx rfl (D 45) rfl (XT.ii_gt_f hc266) (XS.iconst X243.here hx rfl (D 46) (XS.goto X243.here hx rfl (pc0 := 80) (pc' := 84) rfl (D 47) (by decide) (by decide) q))) ?_
            exact lp_e84 ((1 : Int32)) T243 h_el _ X243 e243 N_el (Keep.refl h_el [])  
      · refine own_step (g' := (mkF m 48 #[sR ta, sI (Int32.ofNat qn), sI 15, sI (Int32.ofNat fr), sI (Int32.ofNat ((qn + 1 + i) % 16)), sI (((k2.getD ((qn + 1 + i) % 16) 0).toInt32) &&& (15 : Int32)), s6] [(.int (((k2.getD ((qn + 1 + i) % 16) 0).toInt32) &&& (15 : Int32))), (.int (Int32.ofNat fr))])) (fun _ q => XS.icmpNo X243.here hx rfl (D 29) rfl (XT.ii_gt_f hc264) (XS.iloadN X243.here hx rfl (D 30) rfl (XS.iload X243.here hx rfl (D 31) rfl q))) ?_
        by_cases hc267 : (Int32.ofNat fr) < (((k2.getD ((qn + 1 + i) % 16) 0).toInt32) &&& (15 : Int32))
        · refine own_step (g' := (mkF m 55 #[sR ta, sI (Int32.ofNat qn), sI 15, sI (Int32.ofNat fr), sI (Int32.ofNat ((qn + 1 + i) % 16)), sI (((k2.getD ((qn + 1 + i) % 16) 0).toInt32) &&& (15 : Int32)), s6] [(.int (Int32.ofNat ((qn + 1 + i) % 16))), (.int (((k2.getD ((qn + 1 + i) % 16) 0).toInt32) &&& (15 : Int32)))])) (fun _ q => XS.icmpNo X243.here hx rfl (D 32) rfl (XT.ii_ge_f hc267) (XS.iload X243.here hx rfl (D 33) rfl (XS.iload X243.here hx rfl (D 34) rfl q))) ?_
          by_cases hc268 : (Int32.ofNat ((qn + 1 + i) % 16)) < (((k2.getD ((qn + 1 + i) % 16) 0).toInt32) &&& (15 : Int32))
          · refine own_step (g' := (mkF m 84 #[sR ta, sI (Int32.ofNat qn), sI 15, sI (Int32.ofNat fr), sI (Int32.ofNat ((qn + 1 + i) % 16)), sI (((k2.getD ((qn + 1 + i) % 16) 0).toInt32) &&& (15 : Int32)), s6] [(.int 0)])) (fun _ q => XS.icmpYes X243.here hx rfl (pc0 := 55) (pc' := 62) rfl (D 35) rfl (XT.ii_gt_t hc268) (by decide) (by decide) (XS.iconst X243.here hx rfl (D 38) (XS.goto X243.here hx rfl (pc0 := 63) (pc' := 84) rfl (D 39) (by decide) (by decide) q))) ?_
            exact lp_e84 ((0 : Int32)) T243 h_el _ X243 e243 N_el (Keep.refl h_el [])  
          · refine own_step (g' := (mkF m 84 #[sR ta, sI (Int32.ofNat qn), sI 15, sI (Int32.ofNat fr), sI (Int32.ofNat ((qn + 1 + i) % 16)), sI (((k2.getD ((qn + 1 + i) % 16) 0).toInt32) &&& (15 : Int32)), s6] [(.int 1)])) (fun _ q => XS.icmpNo X243.here hx rfl (D 35) rfl (XT.ii_gt_f hc268) (XS.iconst X243.here hx rfl (D 36) (XS.goto X243.here hx rfl (pc0 := 59) (pc' := 84) rfl (D 37) (by decide) (by decide) q))) ?_
            exact lp_e84 ((1 : Int32)) T243 h_el _ X243 e243 N_el (Keep.refl h_el [])  
        · refine own_step (g' := (mkF m 84 #[sR ta, sI (Int32.ofNat qn), sI 15, sI (Int32.ofNat fr), sI (Int32.ofNat ((qn + 1 + i) % 16)), sI (((k2.getD ((qn + 1 + i) % 16) 0).toInt32) &&& (15 : Int32)), s6] [(.int 0)])) (fun _ q => XS.icmpYes X243.here hx rfl (pc0 := 48) (pc' := 62) rfl (D 32) rfl (XT.ii_ge_t hc267) (by decide) (by decide) (XS.iconst X243.here hx rfl (D 38) (XS.goto X243.here hx rfl (pc0 := 63) (pc' := 84) rfl (D 39) (by decide) (by decide) q))) ?_
          exact lp_e84 ((0 : Int32)) T243 h_el _ X243 e243 N_el (Keep.refl h_el [])  
    · refine own_step (g' := (mkF m 18 #[sR ta, sI (Int32.ofNat qn), sI 15, sI (Int32.ofNat fr), sI (Int32.ofNat ((qn + 1 + i) % 16)), s5, s6] [(.ref ta)])) (fun _ q => XS.aloadN X_el.here hx rfl (D 14) rfl rfl q) ?_
      have c269 := (F_places_ta.keep KL_el (ninS ty_ta_ka (ninS ty_ta_pa nin0)))
      refine own_gF X_el hx hZ hown (w23 hw) e_el c269 rfl rfl (D 15) fun T270 X270 e270 => ?_
      refine own_step (g' := (mkF m 24 #[sR ta, sI (Int32.ofNat qn), sI 15, sI (Int32.ofNat fr), sI (Int32.ofNat ((qn + 1 + i) % 16)), s5, s6] [(.int (p2.getD ((qn + 1 + i) % 16) 0))])) (fun _ q => XS.iload X270.here hx rfl (D 16) rfl (own_ldI X270 hx hZ e270 g1_el (j := (Int32.ofNat ((qn + 1 + i) % 16))) (own_qin (Nat.mod_lt (qn + 1 + i) (by decide : 0 < 16))) (v := (.int (p2.getD ((qn + 1 + i) % 16) 0))) (by rw [own_nat (by have := (Nat.mod_lt (qn + 1 + i) (by decide : 0 < 16)); omega)]; exact own_mapD (by rw [hp2]; exact (Nat.mod_lt (qn + 1 + i) (by decide : 0 < 16)))) (g := (mkF m 23 #[sR ta, sI (Int32.ofNat qn), sI 15, sI (Int32.ofNat fr), sI (Int32.ofNat ((qn + 1 + i) % 16)), s5, s6] [(.int (Int32.ofNat ((qn + 1 + i) % 16))), (.ref pa)])) rfl rfl (D 17) _ q)) ?_
      have hc271 : ((p2.getD ((qn + 1 + i) % 16) 0) = 0) := (by rw [hah i (Nat.le_refl _) hi, hit]; exact hem)
      refine own_step (g' := (mkF m 132 #[sR ta, sI (Int32.ofNat qn), sI 15, sI (Int32.ofNat fr), sI (Int32.ofNat ((qn + 1 + i) % 16)), s5, s6] [(.ref ta)])) (fun _ q => XS.ifYes X270.here hx rfl (pc0 := 24) (pc' := 131) rfl (D 18) rfl (XT.i0_eq_t hc271) (by decide) (by decide) (XS.aloadN X270.here hx rfl (D 77) rfl rfl q)) ?_
      refine own_gF X270 hx hZ hown (w23 hw) e270 c269 rfl rfl (D 78) fun T272 X272 e272 => ?_
      refine own_step (g' := (mkF m 137 #[sR ta, sI (Int32.ofNat qn), sI 15, sI (Int32.ofNat fr), sI (Int32.ofNat ((qn + 1 + i) % 16)), s5, s6] [(.int 0), (.int (Int32.ofNat fr)), (.ref pa)])) (fun _ q => XS.iloadN X272.here hx rfl (D 79) rfl (XS.iconst X272.here hx rfl (D 80) q)) ?_
      obtain ⟨T273, h273, X273, e273, W273, V273, st273⟩ := own_stI X272 hx hZ e272 g1_el (j := (Int32.ofNat fr)) (own_qin hfr.1) (i := fr) (own_nat (by have := hfr.1; omega)) (by rw [List.length_map, hp2]; exact hfr.1) (g := (mkF m 137 #[sR ta, sI (Int32.ofNat qn), sI 15, sI (Int32.ofNat fr), sI (Int32.ofNat ((qn + 1 + i) % 16)), s5, s6] [(.int 0), (.int (Int32.ofNat fr)), (.ref pa)])) rfl rfl (D 81)
      have N274 := Fr.snoc X273 N_el ge_pa
      refine own_step (T' := T273) (g' := (mkF m 138 #[sR ta, sI (Int32.ofNat qn), sI 15, sI (Int32.ofNat fr), sI (Int32.ofNat ((qn + 1 + i) % 16)), s5, s6] [])) st273 ?_
      refine own_step (g' := (mkF m 140 #[sR ta, sI (Int32.ofNat qn), sI 15, sI (Int32.ofNat fr), sI (Int32.ofNat ((qn + 1 + i) % 16)), s5, s6] [(.ref ta), (.ref ta)])) (fun _ q => XS.aloadN X273.here hx rfl (D 82) rfl rfl (XS.dup X273.here hx rfl (D 83) rfl rfl q)) ?_
      have c275 := ((F_used_ta.keep KL_el (ninS ty_ta_ka (ninS ty_ta_pa nin0))).other W273 (Or.inl ty_ta_pa))
      refine own_gF X273 hx hZ hown (w59 hw) e273 c275 rfl rfl (D 84) fun T276 X276 e276 => ?_
      refine own_step (g' := (mkF m 145 #[sR ta, sI (Int32.ofNat qn), sI 15, sI (Int32.ofNat fr), sI (Int32.ofNat ((qn + 1 + i) % 16)), s5, s6] [(.int ((Int32.ofNat u) - (1 : Int32))), (.ref ta)])) (fun _ q => XS.iconst X276.here hx rfl (D 85) (XS.isub X276.here hx rfl (D 86) rfl q)) ?_
      have c277 := ((E_ta.keep KL_el).wr W273)
      refine own_pF X276 hx hZ hown (w59 hw) e276 c275 c277 (Or.inl (w40 hw)) (w13 hw) (ty := .int) (by decide) rfl rfl rfl rfl (D 87) fun T278 h278 X278 e278 W278 F279 => ?_
      have N280 := Fr.snoc X278 N274 ge_ta
      have c281 := (V273.other W278 (Ne.symm ty_ta_pa))
      have qV282 : (((p2.map Value.int).set fr (.int (0 : Int32))) : List Value) = ((p2.set fr (0 : Int32)).map Value.int) := (by rw [List.map_set])
      have V282 : Arv Z h278 pa qp .int (16 : Int32) ((p2.set fr (0 : Int32)).map Value.int) (.int (0 : Int32)) := own_fixv qV282 c281
      have c283 := ((((Keep.refl h0 [ta, ka, pa]).trans KL_el (allS (Or.inl (List.mem_of_getElem? (i := 1) rfl)) (allS (Or.inl (List.mem_of_getElem? (i := 2) rfl)) all0))).wr W273 (Or.inl (List.mem_of_getElem? (i := 2) rfl))).wr W278 (Or.inl (List.mem_of_getElem? (i := 0) rfl)))
      have c284 := (c277.wr W278)
      have c285 := (((F_keys_ta.keep KL_el (ninS ty_ta_ka (ninS ty_ta_pa nin0))).other W273 (Or.inl ty_ta_pa)).other W278 (Or.inr (RoadKit.slot_ne (t := (.array .long)) (t' := .int) (Or.inl (w21 hw)) (Or.inl (w40 hw)) (by decide) (by decide) (by decide))))
      have c286 := ((c269.other W273 (Or.inl ty_ta_pa)).other W278 (Or.inr (RoadKit.slot_ne (t := (.array .int)) (t' := .int) (Or.inl (w24 hw)) (Or.inl (w40 hw)) (by decide) (by decide) (by decide))))
      have c287 := (((F_lists_ta.keep KL_el (ninS ty_ta_ka (ninS ty_ta_pa nin0))).other W273 (Or.inl ty_ta_pa)).other W278 (Or.inr (RoadKit.slot_ne (t := (.array (.array .int))) (t' := .int) (Or.inl (w28 hw)) (Or.inl (w40 hw)) (by decide) (by decide) (by decide))))
      have c288 := (((F_listSizes_ta.keep KL_el (ninS ty_ta_ka (ninS ty_ta_pa nin0))).other W273 (Or.inl ty_ta_pa)).other W278 (Or.inr (RoadKit.slot_ne (t := (.array .int)) (t' := .int) (Or.inl (w30 hw)) (Or.inl (w40 hw)) (by decide) (by decide) (by decide))))
      have c289 := (((F_freeLists_ta.keep KL_el (ninS ty_ta_ka (ninS ty_ta_pa nin0))).other W273 (Or.inl ty_ta_pa)).other W278 (Or.inr (RoadKit.slot_ne (t := (.array .int)) (t' := .int) (Or.inl (w32 hw)) (Or.inl (w40 hw)) (by decide) (by decide) (by decide))))
      have c290 := (((F_freeCount_ta.keep KL_el (ninS ty_ta_ka (ninS ty_ta_pa nin0))).other W273 (Or.inl ty_ta_pa)).other W278 (Or.inr (RoadKit.slot_ne (t := .int) (t' := .int) (Or.inl (w72 hw)) (Or.inl (w40 hw)) (by decide) (by decide) (by decide))))
      have c291 := (((F_listCount_ta.keep KL_el (ninS ty_ta_ka (ninS ty_ta_pa nin0))).other W273 (Or.inl ty_ta_pa)).other W278 (Or.inr (RoadKit.slot_ne (t := .int) (t' := .int) (Or.inl (w74 hw)) (Or.inl (w40 hw)) (by decide) (by decide) (by decide))))
      have c292 := ((g0_el.other W273 ty_ka_pa).other W278 (Ne.symm ty_ta_ka))
      exact own_retV X278 hx hrt (D 88) hlk (by rw [e278]; exact ⟨k2, p2.set fr (0 : Int32), rfl, N280, c283, c284, c285, c286, F279, c287, c288, c289, c290, c291, c292, V282⟩) (by decide) (by decide)
  exact lp_el _ (0) (qn) (kl) (pl) (.unset) (.unset) T238 h0 _ X238 e238 (Fr.nil n0) (Keep.refl h0 [ka, pa]) V_ka V_pa (Nat.zero_le _) (hkl) (hpl) (⟨hqn, 0, Nat.le_refl _, by rw [Nat.add_zero, Nat.mod_eq_of_lt hqn]⟩) (fun _ _ _ => rfl) (Or.inl rfl) (Or.inl rfl) rfl
theorem pd_5 : parseMethodDescriptor "(I)V" = some ⟨[.int], none⟩ := by decide +kernel
def Q_own_re1 (Z : State) (ta ka pa la sa fa : Addr) (qk qp : ClassId) (kl : List Int64) (pl : List Int32) (u : Nat) (lc : Int32) (ky : Int64) (jd : Int32) (tt te : Nat) (h0 : Heap) (n0 : Nat) (v : Option Value) (h : Heap) (L : List Loc) : Prop := v = none ∧ Fr n0 L ∧ Keep h0 h [ta, ka, pa] ∧ own_Et Z h ta ∧ own_Fu Z h ta (.int ((Int32.ofNat u) - (1 : Int32)))
set_option maxRecDepth 65536 in
set_option maxHeartbeats 40000000 in
theorem own_re1 (l : Launch) (Z : State) (a0 : Array Value) (hw : own_HW a0 Z) (ws : List Jvm.Cond) (ta ka pa la sa fa : Addr) (qk qp : ClassId) (kl : List Int64) (pl : List Int32) (u : Nat) (lc : Int32) (ky : Int64) (jd : Int32) (tt te : Nat) (h0 : Heap) (n0 : Nat) (Z0 : n0 ≤ h0.size) (E_ta : own_Et Z h0 ta) (F_keys_ta : own_Fk Z h0 ta (.ref ka)) (F_places_ta : own_Fp Z h0 ta (.ref pa)) (F_used_ta : own_Fu Z h0 ta (.int (Int32.ofNat u))) (F_lists_ta : own_Fl Z h0 ta (.ref la)) (F_listSizes_ta : own_Fs Z h0 ta (.ref sa)) (F_freeLists_ta : own_Ff Z h0 ta (.ref fa)) (F_freeCount_ta : own_Fc Z h0 ta (.int (0 : Int32))) (F_listCount_ta : own_Fn Z h0 ta (.int lc)) (V_ka : Arv Z h0 ka qk .long (16 : Int32) (kl.map Value.long) (.long (0 : Int64))) (V_pa : Arv Z h0 pa qp .int (16 : Int32) (pl.map Value.int) (.int (0 : Int32))) (ge_ta : n0 ≤ ta) (ge_ka : n0 ≤ ka) (ge_pa : n0 ≤ pa) (hkl : kl.length = 16) (hpl : pl.length = 16) (hpt : own_pth kl pl ky tt) (hq : ¬ (pl.getD (own_q ky tt) 0) = 0 ∧ kl.getD (own_q ky tt) 0 = ky) (hpos : 0 < (pl.getD (own_q ky tt) 0)) (heq : (pl.getD (own_q ky tt) 0) = jd) (hte : te < 15) (hne : ∀ i, i < te → ¬ pl.getD (((own_q ky tt) + 1 + i) % 16) 0 = 0) (hem : pl.getD (((own_q ky tt) + 1 + te) % 16) 0 = 0) :
    own_Met l Z ⟨"com/example/vaxwire/vaxwire/registry/KeyIndex$Table", "remove", "(JI)V"⟩ prog_102_method_3_code 9 none ws ⟨1, 0, 0, 18⟩ #[(.ref ta), (.long ky), (.int jd)] h0 (Q_own_re1 Z ta ka pa la sa fa qk qp kl pl u lc ky jd tt te h0 n0) := by
  refine own_bodyN (g0 := fun m => mkF m 0 #[sR ta, sJ ky, .second, sI jd, .unset, .unset, .unset, .unset, .unset] []) (plainFor_of_name pn_0) (fun _ => rfl) ?_
  intro p e s m below meth c s₁ hx hby hml hrt hlk hown hnm hZ e0 X0
  have D := own_d hby kD17
  have ty_ta_ka : ta ≠ ka := (Exa.neArv E_ta V_ka (w13 hw))
  have ty_ta_pa : ta ≠ pa := (Exa.neArv E_ta V_pa (w13 hw))
  have ty_ka_pa : ka ≠ pa := (own_arr_ne V_ka V_pa (by decide))
  refine own_step (g' := (mkF m 2 #[sR ta, sJ ky, .second, sI jd, .unset, .unset, .unset, .unset, .unset] [(.long ky), (.ref ta)])) (fun _ q => XS.aloadN X0.here hx rfl (D 0) rfl rfl (XT.lloadN X0.here hx rfl (D 1) rfl q)) ?_
  refine own_callQ X0 hx hZ hown (w55 hw) (w56 hw) (w13 hw) (w57 hw) (w58 hw) (by decide) (own_bO (W := 0) (own_fi1 l Z a0 hw [] ta ka pa qk qp kl pl ky tt h0 n0 Z0 E_ta F_keys_ta F_places_ta V_ka V_pa hkl hpl hpt hq) hZ (w58 hw) (w14 hw) rfl rfl) e0 E_ta  (by decide) (by decide) (argsL := [(.long ky)]) (rest := []) rfl hml.symm (lenOf pd_0 rfl) rfl rfl (own_w0 rfl rfl) (D 2) ?_
  rintro _ T293 L293 X293 ⟨rfl, N293q, e293⟩
  have N294 := Fr.app (Fr.nil n0) N293q
  refine own_step (g' := (mkF m 9 #[sR ta, sJ ky, .second, sI jd, sI (Int32.ofNat (own_q ky tt)), .unset, .unset, .unset, .unset] [(.int (Int32.ofNat (own_q ky tt)))])) (fun _ q => XS.istore X293.here hx rfl (D 3) rfl (l' := #[sR ta, sJ ky, .second, sI jd, sI (Int32.ofNat (own_q ky tt)), .unset, .unset, .unset, .unset]) rfl (XS.iload X293.here hx rfl (D 4) rfl q)) ?_
  have hc295 : ¬ ((Int32.ofNat (own_q ky tt)) < 0) := (own_qin (own_qlt ky tt)).1
  refine own_step (g' := (mkF m 14 #[sR ta, sJ ky, .second, sI jd, sI (Int32.ofNat (own_q ky tt)), .unset, .unset, .unset, .unset] [(.ref ta)])) (fun _ q => XS.ifYes X293.here hx rfl (pc0 := 9) (pc' := 13) rfl (D 5) rfl (XT.i0_ge_t hc295) (by decide) (by decide) (XS.aloadN X293.here hx rfl (D 6) rfl rfl q)) ?_
  refine own_gF X293 hx hZ hown (w23 hw) e293 F_places_ta rfl rfl (D 7) fun T296 X296 e296 => ?_
  refine own_step (g' := (mkF m 20 #[sR ta, sJ ky, .second, sI jd, sI (Int32.ofNat (own_q ky tt)), .unset, .unset, .unset, .unset] [(.int (pl.getD (own_q ky tt) 0))])) (fun _ q => XS.iload X296.here hx rfl (D 8) rfl (own_ldI X296 hx hZ e296 V_pa (j := (Int32.ofNat (own_q ky tt))) (own_qin (own_qlt ky tt)) (v := (.int (pl.getD (own_q ky tt) 0))) (by rw [own_nat (by have := (own_qlt ky tt); omega)]; exact own_mapD (by rw [hpl]; exact (own_qlt ky tt))) (g := (mkF m 19 #[sR ta, sJ ky, .second, sI jd, sI (Int32.ofNat (own_q ky tt)), .unset, .unset, .unset, .unset] [(.int (Int32.ofNat (own_q ky tt))), (.ref pa)])) rfl rfl (D 9) _ q)) ?_
  have hc297 : (0 < (pl.getD (own_q ky tt) 0)) := hpos
  refine own_step (g' := (mkF m 24 #[sR ta, sJ ky, .second, sI jd, sI (Int32.ofNat (own_q ky tt)), .unset, .unset, .unset, .unset] [(.ref ta)])) (fun _ q => XS.ifNo X296.here hx rfl (D 10) rfl (XT.i0_le_f hc297) (XS.aloadN X296.here hx rfl (D 11) rfl rfl q)) ?_
  refine own_gF X296 hx hZ hown (w23 hw) e296 F_places_ta rfl rfl (D 12) fun T298 X298 e298 => ?_
  refine own_step (g' := (mkF m 31 #[sR ta, sJ ky, .second, sI jd, sI (Int32.ofNat (own_q ky tt)), .unset, .unset, .unset, .unset] [(.int jd), (.int (pl.getD (own_q ky tt) 0))])) (fun _ q => XS.iload X298.here hx rfl (D 13) rfl (own_ldI X298 hx hZ e298 V_pa (j := (Int32.ofNat (own_q ky tt))) (own_qin (own_qlt ky tt)) (v := (.int (pl.getD (own_q ky tt) 0))) (by rw [own_nat (by have := (own_qlt ky tt); omega)]; exact own_mapD (by rw [hpl]; exact (own_qlt ky tt))) (g := (mkF m 29 #[sR ta, sJ ky, .second, sI jd, sI (Int32.ofNat (own_q ky tt)), .unset, .unset, .unset, .unset] [(.int (Int32.ofNat (own_q ky tt))), (.ref pa)])) rfl rfl (D 14) _ (XS.iloadN X298.here hx rfl (D 15) rfl q))) ?_
  have hc299 : ((pl.getD (own_q ky tt) 0) = jd) := heq
  refine own_step (g' := (mkF m 37 #[sR ta, sJ ky, .second, sI jd, sI (Int32.ofNat (own_q ky tt)), .unset, .unset, .unset, .unset] [(.int (Int32.ofNat (own_q ky tt))), (.ref ta)])) (fun _ q => XS.icmpNo X298.here hx rfl (D 16) rfl (XT.ii_ne_f hc299) (XS.aloadN X298.here hx rfl (D 17) rfl rfl (XS.iload X298.here hx rfl (D 18) rfl q))) ?_
  refine own_callQ X298 hx hZ hown (w108 hw) (w109 hw) (w13 hw) (w110 hw) (w111 hw) (by decide) (own_bO (W := 0) (own_emp l Z a0 hw [] ta ka pa la sa fa qk qp kl pl u lc (own_q ky tt) te h0 n0 Z0 E_ta F_keys_ta F_places_ta F_used_ta F_lists_ta F_listSizes_ta F_freeLists_ta F_freeCount_ta F_listCount_ta V_ka V_pa ge_ta ge_ka ge_pa hkl hpl ((own_qlt ky tt) : (own_q ky tt) < 16) hte hne hem) hZ (w111 hw) (w14 hw) rfl rfl) e298 E_ta  (by decide) (by decide) (argsL := [(.int (Int32.ofNat (own_q ky tt)))]) (rest := []) rfl hml.symm (lenOf pd_5 rfl) rfl rfl (own_w0 rfl rfl) (D 19) ?_
  rintro _ T300 L300 X300 ⟨k3300, p3300, rfl, N300q, K300, f0_300, f1_300, f2_300, f3_300, f4_300, f5_300, f6_300, f7_300, f8_300, f9_300, f10_300⟩
  have N301 := Fr.app N294 N300q
  have c302 := ((Keep.refl h0 [ta, ka, pa]).trans K300 (allS (Or.inl (List.mem_of_getElem? (i := 0) rfl)) (allS (Or.inl (List.mem_of_getElem? (i := 1) rfl)) (allS (Or.inl (List.mem_of_getElem? (i := 2) rfl)) all0))))
  exact own_retV X300 hx hrt (D 20) hlk ⟨rfl, N301, c302, f0_300, f3_300⟩ (by decide) (by decide)
def Q_own_re2 (Z : State) (ta ka pa : Addr) (qk qp : ClassId) (kl : List Int64) (pl : List Int32) (ky : Int64) (tt : Nat) (jd : Int32) (h0 : Heap) (n0 : Nat) (v : Option Value) (h : Heap) (L : List Loc) : Prop := v = none ∧ Fr n0 L ∧ h = h0
set_option maxRecDepth 65536 in
set_option maxHeartbeats 40000000 in
theorem own_re2 (l : Launch) (Z : State) (a0 : Array Value) (hw : own_HW a0 Z) (ws : List Jvm.Cond) (ta ka pa : Addr) (qk qp : ClassId) (kl : List Int64) (pl : List Int32) (ky : Int64) (tt : Nat) (jd : Int32) (h0 : Heap) (n0 : Nat) (Z0 : n0 ≤ h0.size) (E_ta : own_Et Z h0 ta) (F_keys_ta : own_Fk Z h0 ta (.ref ka)) (F_places_ta : own_Fp Z h0 ta (.ref pa)) (V_ka : Arv Z h0 ka qk .long (16 : Int32) (kl.map Value.long) (.long (0 : Int64))) (V_pa : Arv Z h0 pa qp .int (16 : Int32) (pl.map Value.int) (.int (0 : Int32))) (hkl : kl.length = 16) (hpl : pl.length = 16) (hpt : own_pth kl pl ky tt) (hq : ¬ (pl.getD (own_q ky tt) 0) = 0 ∧ kl.getD (own_q ky tt) 0 = ky) (hpos : 0 < (pl.getD (own_q ky tt) 0)) (hne : ¬ (pl.getD (own_q ky tt) 0) = jd) :
    own_Met l Z ⟨"com/example/vaxwire/vaxwire/registry/KeyIndex$Table", "remove", "(JI)V"⟩ prog_102_method_3_code 9 none ws ⟨1, 0, 0, 16⟩ #[(.ref ta), (.long ky), (.int jd)] h0 (Q_own_re2 Z ta ka pa qk qp kl pl ky tt jd h0 n0) := by
  refine own_bodyN (g0 := fun m => mkF m 0 #[sR ta, sJ ky, .second, sI jd, .unset, .unset, .unset, .unset, .unset] []) (plainFor_of_name pn_0) (fun _ => rfl) ?_
  intro p e s m below meth c s₁ hx hby hml hrt hlk hown hnm hZ e0 X0
  have D := own_d hby kD17
  have ty_ta_ka : ta ≠ ka := (Exa.neArv E_ta V_ka (w13 hw))
  have ty_ta_pa : ta ≠ pa := (Exa.neArv E_ta V_pa (w13 hw))
  have ty_ka_pa : ka ≠ pa := (own_arr_ne V_ka V_pa (by decide))
  refine own_step (g' := (mkF m 2 #[sR ta, sJ ky, .second, sI jd, .unset, .unset, .unset, .unset, .unset] [(.long ky), (.ref ta)])) (fun _ q => XS.aloadN X0.here hx rfl (D 0) rfl rfl (XT.lloadN X0.here hx rfl (D 1) rfl q)) ?_
  refine own_callQ X0 hx hZ hown (w55 hw) (w56 hw) (w13 hw) (w57 hw) (w58 hw) (by decide) (own_bO (W := 0) (own_fi1 l Z a0 hw [] ta ka pa qk qp kl pl ky tt h0 n0 Z0 E_ta F_keys_ta F_places_ta V_ka V_pa hkl hpl hpt hq) hZ (w58 hw) (w14 hw) rfl rfl) e0 E_ta  (by decide) (by decide) (argsL := [(.long ky)]) (rest := []) rfl hml.symm (lenOf pd_0 rfl) rfl rfl (own_w0 rfl rfl) (D 2) ?_
  rintro _ T303 L303 X303 ⟨rfl, N303q, e303⟩
  have N304 := Fr.app (Fr.nil n0) N303q
  refine own_step (g' := (mkF m 9 #[sR ta, sJ ky, .second, sI jd, sI (Int32.ofNat (own_q ky tt)), .unset, .unset, .unset, .unset] [(.int (Int32.ofNat (own_q ky tt)))])) (fun _ q => XS.istore X303.here hx rfl (D 3) rfl (l' := #[sR ta, sJ ky, .second, sI jd, sI (Int32.ofNat (own_q ky tt)), .unset, .unset, .unset, .unset]) rfl (XS.iload X303.here hx rfl (D 4) rfl q)) ?_
  have hc305 : ¬ ((Int32.ofNat (own_q ky tt)) < 0) := (own_qin (own_qlt ky tt)).1
  refine own_step (g' := (mkF m 14 #[sR ta, sJ ky, .second, sI jd, sI (Int32.ofNat (own_q ky tt)), .unset, .unset, .unset, .unset] [(.ref ta)])) (fun _ q => XS.ifYes X303.here hx rfl (pc0 := 9) (pc' := 13) rfl (D 5) rfl (XT.i0_ge_t hc305) (by decide) (by decide) (XS.aloadN X303.here hx rfl (D 6) rfl rfl q)) ?_
  refine own_gF X303 hx hZ hown (w23 hw) e303 F_places_ta rfl rfl (D 7) fun T306 X306 e306 => ?_
  refine own_step (g' := (mkF m 20 #[sR ta, sJ ky, .second, sI jd, sI (Int32.ofNat (own_q ky tt)), .unset, .unset, .unset, .unset] [(.int (pl.getD (own_q ky tt) 0))])) (fun _ q => XS.iload X306.here hx rfl (D 8) rfl (own_ldI X306 hx hZ e306 V_pa (j := (Int32.ofNat (own_q ky tt))) (own_qin (own_qlt ky tt)) (v := (.int (pl.getD (own_q ky tt) 0))) (by rw [own_nat (by have := (own_qlt ky tt); omega)]; exact own_mapD (by rw [hpl]; exact (own_qlt ky tt))) (g := (mkF m 19 #[sR ta, sJ ky, .second, sI jd, sI (Int32.ofNat (own_q ky tt)), .unset, .unset, .unset, .unset] [(.int (Int32.ofNat (own_q ky tt))), (.ref pa)])) rfl rfl (D 9) _ q)) ?_
  have hc307 : (0 < (pl.getD (own_q ky tt) 0)) := hpos
  refine own_step (g' := (mkF m 24 #[sR ta, sJ ky, .second, sI jd, sI (Int32.ofNat (own_q ky tt)), .unset, .unset, .unset, .unset] [(.ref ta)])) (fun _ q => XS.ifNo X306.here hx rfl (D 10) rfl (XT.i0_le_f hc307) (XS.aloadN X306.here hx rfl (D 11) rfl rfl q)) ?_
  refine own_gF X306 hx hZ hown (w23 hw) e306 F_places_ta rfl rfl (D 12) fun T308 X308 e308 => ?_
  refine own_step (g' := (mkF m 31 #[sR ta, sJ ky, .second, sI jd, sI (Int32.ofNat (own_q ky tt)), .unset, .unset, .unset, .unset] [(.int jd), (.int (pl.getD (own_q ky tt) 0))])) (fun _ q => XS.iload X308.here hx rfl (D 13) rfl (own_ldI X308 hx hZ e308 V_pa (j := (Int32.ofNat (own_q ky tt))) (own_qin (own_qlt ky tt)) (v := (.int (pl.getD (own_q ky tt) 0))) (by rw [own_nat (by have := (own_qlt ky tt); omega)]; exact own_mapD (by rw [hpl]; exact (own_qlt ky tt))) (g := (mkF m 29 #[sR ta, sJ ky, .second, sI jd, sI (Int32.ofNat (own_q ky tt)), .unset, .unset, .unset, .unset] [(.int (Int32.ofNat (own_q ky tt))), (.ref pa)])) rfl rfl (D 14) _ (XS.iloadN X308.here hx rfl (D 15) rfl q))) ?_
  have hc309 : ¬ ((pl.getD (own_q ky tt) 0) = jd) := hne
  refine own_step (g' := (mkF m 40 #[sR ta, sJ ky, .second, sI jd, sI (Int32.ofNat (own_q ky tt)), .unset, .unset, .unset, .unset] [])) (fun _ q => XS.icmpYes X308.here hx rfl (pc0 := 31) (pc' := 40) rfl (D 16) rfl (XT.ii_ne_t hc309) (by decide) (by decide) q) ?_
  exact own_retV X308 hx hrt (D 20) hlk ⟨rfl, N304, e308⟩ (by decide) (by decide)
def Q_own_pus (Z : State) (fa : Addr) (qf : ClassId) (h0 : Heap) (n0 : Nat) (v : Option Value) (h : Heap) (L : List Loc) : Prop := v = some (.ref fa) ∧ Fr n0 L ∧ Keep h0 h [fa] ∧ Arv Z h fa qf .int (4 : Int32) [(.int (0 : Int32)), (.int (0 : Int32)), (.int (0 : Int32)), (.int (0 : Int32))] (.int (0 : Int32))
set_option maxRecDepth 65536 in
set_option maxHeartbeats 40000000 in
theorem own_pus (l : Launch) (Z : State) (a0 : Array Value) (hw : own_HW a0 Z) (ws : List Jvm.Cond) (fa : Addr) (qf : ClassId) (h0 : Heap) (n0 : Nat) (Z0 : n0 ≤ h0.size) (V_fa : Arv Z h0 fa qf .int (4 : Int32) [(.int (0 : Int32)), (.int (0 : Int32)), (.int (0 : Int32)), (.int (0 : Int32))] (.int (0 : Int32))) (ge_fa : n0 ≤ fa) :
    own_Met l Z ⟨"com/example/vaxwire/vaxwire/registry/KeyIndex$Table", "pushed", "([III)[I"⟩ prog_102_method_13_code 4 (some (.array .int)) ws ⟨0, 0, 0, 0⟩ #[(.ref fa), (.int (0 : Int32)), (.int (0 : Int32))] h0 (Q_own_pus Z fa qf h0 n0) := by
  refine own_bodyN (g0 := fun m => mkF m 0 #[sR fa, sI 0, sI 0, .unset] []) (plainFor_of_name pn_0) (fun _ => rfl) ?_
  intro p e s m below meth c s₁ hx hby hml hrt hlk hown hnm hZ e0 X0
  have D := own_d hby kD18
  refine own_step (g' := (mkF m 21 #[sR fa, sI 0, sI 0, sR fa] [(.int 0), (.int 0), (.ref fa)])) (fun _ q => XS.iloadN X0.here hx rfl (D 0) rfl (XS.aloadN X0.here hx rfl (D 1) rfl rfl (own_len X0 hx hZ e0 V_fa (g := (mkF m 2 #[sR fa, sI 0, sI 0, .unset] [(.ref fa), (.int 0)])) rfl rfl (D 2) _ (XS.icmpYes X0.here hx rfl (pc0 := 3) (pc' := 16) rfl (D 3) rfl (by decide) (by decide) (by decide) (XS.aloadN X0.here hx rfl (D 4) rfl rfl (XS.astoreN X0.here hx rfl (D 5) rfl rfl (l' := #[sR fa, sI 0, sI 0, sR fa]) rfl (XS.aloadN X0.here hx rfl (D 6) rfl rfl (XS.iloadN X0.here hx rfl (D 7) rfl (XS.iloadN X0.here hx rfl (D 8) rfl q))))))))) ?_
  obtain ⟨T310, h310, X310, e310, W310, V310, st310⟩ := own_stI X0 hx hZ e0 V_fa (j := (0 : Int32)) ⟨by decide, by decide⟩ (i := 0) rfl (Nat.le_of_ble_eq_true rfl) (g := (mkF m 21 #[sR fa, sI 0, sI 0, sR fa] [(.int 0), (.int 0), (.ref fa)])) rfl rfl (D 9)
  replace V310 : Arv Z h310 fa qf .int (4 : Int32) [(.int (0 : Int32)), (.int (0 : Int32)), (.int (0 : Int32)), (.int (0 : Int32))] (.int (0 : Int32)) := V310
  have N311 := Fr.snoc X310 (Fr.nil n0) ge_fa
  refine own_step (T' := T310) (g' := (mkF m 22 #[sR fa, sI 0, sI 0, sR fa] [])) st310 ?_
  refine own_step (g' := (mkF m 23 #[sR fa, sI 0, sI 0, sR fa] [(.ref fa)])) (fun _ q => XS.aloadN X310.here hx rfl (D 10) rfl rfl q) ?_
  have c312 := ((Keep.refl h0 [fa]).wr W310 (Or.inl (List.mem_of_getElem? (i := 0) rfl)))
  exact own_retA X310 hx hrt rfl rfl (D 11) hlk (by rw [e310]; exact ⟨rfl, N311, c312, V310⟩) (by decide) (by decide)
theorem pd_6 : parseMethodDescriptor "([III)[I" = some ⟨[(.array .int), .int, .int], some (.array .int)⟩ := by decide +kernel
def Q_own_rl2 (Z : State) (ta ka pa la sa fa : Addr) (qk qp ql qs qf : ClassId) (kl : List Int64) (pl : List Int32) (u : Nat) (li : Addr) (qi : ClassId) (y0 y1 y2 y3 : Int32) (ky : Int64) (jd : Int32) (tt : Nat) (h0 : Heap) (n0 : Nat) (v : Option Value) (h : Heap) (L : List Loc) : Prop := v = none ∧ Fr n0 L ∧ Keep h0 h [ta, pa, la, sa, fa, li] ∧ own_Et Z h ta ∧ own_Fu Z h ta (.int (Int32.ofNat u))
set_option maxRecDepth 65536 in
set_option maxHeartbeats 40000000 in
theorem own_rl2 (l : Launch) (Z : State) (a0 : Array Value) (hw : own_HW a0 Z) (ws : List Jvm.Cond) (ta ka pa la sa fa : Addr) (qk qp ql qs qf : ClassId) (kl : List Int64) (pl : List Int32) (u : Nat) (li : Addr) (qi : ClassId) (y0 y1 y2 y3 : Int32) (ky : Int64) (jd : Int32) (tt : Nat) (h0 : Heap) (n0 : Nat) (Z0 : n0 ≤ h0.size) (E_ta : own_Et Z h0 ta) (F_keys_ta : own_Fk Z h0 ta (.ref ka)) (F_places_ta : own_Fp Z h0 ta (.ref pa)) (F_used_ta : own_Fu Z h0 ta (.int (Int32.ofNat u))) (F_lists_ta : own_Fl Z h0 ta (.ref la)) (F_listSizes_ta : own_Fs Z h0 ta (.ref sa)) (F_freeLists_ta : own_Ff Z h0 ta (.ref fa)) (F_freeCount_ta : own_Fc Z h0 ta (.int (0 : Int32))) (F_listCount_ta : own_Fn Z h0 ta (.int (1 : Int32))) (V_ka : Arv Z h0 ka qk .long (16 : Int32) (kl.map Value.long) (.long (0 : Int64))) (V_pa : Arv Z h0 pa qp .int (16 : Int32) (pl.map Value.int) (.int (0 : Int32))) (V_la : Arv Z h0 la ql (.array .int) (4 : Int32) [(.ref li), .null, .null, .null] .null) (V_sa : Arv Z h0 sa qs .int (4 : Int32) [(.int (2 : Int32)), (.int (0 : Int32)), (.int (0 : Int32)), (.int (0 : Int32))] (.int (0 : Int32))) (V_fa : Arv Z h0 fa qf .int (4 : Int32) [(.int (0 : Int32)), (.int (0 : Int32)), (.int (0 : Int32)), (.int (0 : Int32))] (.int (0 : Int32))) (V_li : Arv Z h0 li qi .int (4 : Int32) [(.int y0), (.int y1), (.int y2), (.int y3)] (.int (0 : Int32))) (ge_ta : n0 ≤ ta) (ge_pa : n0 ≤ pa) (ge_la : n0 ≤ la) (ge_sa : n0 ≤ sa) (ge_fa : n0 ≤ fa) (ge_li : n0 ≤ li) (ne_pa_sa : ¬ pa = sa) (ne_pa_fa : ¬ pa = fa) (ne_sa_fa : ¬ sa = fa) (ne_pa_li : ¬ pa = li) (ne_sa_li : ¬ sa = li) (ne_fa_li : ¬ fa = li) (hkl : kl.length = 16) (hpl : pl.length = 16) (hpt : own_pth kl pl ky tt) (hq : ¬ (pl.getD (own_q ky tt) 0) = 0 ∧ kl.getD (own_q ky tt) 0 = ky) (hm1 : (pl.getD (own_q ky tt) 0) = (-1 : Int32)) :
    own_Met l Z ⟨"com/example/vaxwire/vaxwire/registry/KeyIndex$Table", "remove", "(JI)V"⟩ prog_102_method_3_code 9 none ws ⟨2, 0, 0, 34⟩ #[(.ref ta), (.long ky), (.int jd)] h0 (Q_own_rl2 Z ta ka pa la sa fa qk qp ql qs qf kl pl u li qi y0 y1 y2 y3 ky jd tt h0 n0) := by
  refine own_bodyN (g0 := fun m => mkF m 0 #[sR ta, sJ ky, .second, sI jd, .unset, .unset, .unset, .unset, .unset] []) (plainFor_of_name pn_0) (fun _ => rfl) ?_
  intro p e s m below meth c s₁ hx hby hml hrt hlk hown hnm hZ e0 X0
  have D := own_d hby kD17
  have ty_ta_ka : ta ≠ ka := (Exa.neArv E_ta V_ka (w13 hw))
  have ty_ta_pa : ta ≠ pa := (Exa.neArv E_ta V_pa (w13 hw))
  have ty_ta_la : ta ≠ la := (Exa.neArv E_ta V_la (w13 hw))
  have ty_ta_sa : ta ≠ sa := (Exa.neArv E_ta V_sa (w13 hw))
  have ty_ta_fa : ta ≠ fa := (Exa.neArv E_ta V_fa (w13 hw))
  have ty_ta_li : ta ≠ li := (Exa.neArv E_ta V_li (w13 hw))
  have ty_ka_pa : ka ≠ pa := (own_arr_ne V_ka V_pa (by decide))
  have ty_ka_la : ka ≠ la := (own_arr_ne V_ka V_la (by decide))
  have ty_ka_sa : ka ≠ sa := (own_arr_ne V_ka V_sa (by decide))
  have ty_ka_fa : ka ≠ fa := (own_arr_ne V_ka V_fa (by decide))
  have ty_ka_li : ka ≠ li := (own_arr_ne V_ka V_li (by decide))
  have ty_pa_la : pa ≠ la := (own_arr_ne V_pa V_la (by decide))
  have ty_la_sa : la ≠ sa := (own_arr_ne V_la V_sa (by decide))
  have ty_la_fa : la ≠ fa := (own_arr_ne V_la V_fa (by decide))
  have ty_la_li : la ≠ li := (own_arr_ne V_la V_li (by decide))
  refine own_step (g' := (mkF m 2 #[sR ta, sJ ky, .second, sI jd, .unset, .unset, .unset, .unset, .unset] [(.long ky), (.ref ta)])) (fun _ q => XS.aloadN X0.here hx rfl (D 0) rfl rfl (XT.lloadN X0.here hx rfl (D 1) rfl q)) ?_
  refine own_callQ X0 hx hZ hown (w55 hw) (w56 hw) (w13 hw) (w57 hw) (w58 hw) (by decide) (own_bO (W := 0) (own_fi1 l Z a0 hw [] ta ka pa qk qp kl pl ky tt h0 n0 Z0 E_ta F_keys_ta F_places_ta V_ka V_pa hkl hpl hpt hq) hZ (w58 hw) (w14 hw) rfl rfl) e0 E_ta  (by decide) (by decide) (argsL := [(.long ky)]) (rest := []) rfl hml.symm (lenOf pd_0 rfl) rfl rfl (own_w0 rfl rfl) (D 2) ?_
  rintro _ T313 L313 X313 ⟨rfl, N313q, e313⟩
  have N314 := Fr.app (Fr.nil n0) N313q
  refine own_step (g' := (mkF m 9 #[sR ta, sJ ky, .second, sI jd, sI (Int32.ofNat (own_q ky tt)), .unset, .unset, .unset, .unset] [(.int (Int32.ofNat (own_q ky tt)))])) (fun _ q => XS.istore X313.here hx rfl (D 3) rfl (l' := #[sR ta, sJ ky, .second, sI jd, sI (Int32.ofNat (own_q ky tt)), .unset, .unset, .unset, .unset]) rfl (XS.iload X313.here hx rfl (D 4) rfl q)) ?_
  have hc315 : ¬ ((Int32.ofNat (own_q ky tt)) < 0) := (own_qin (own_qlt ky tt)).1
  refine own_step (g' := (mkF m 14 #[sR ta, sJ ky, .second, sI jd, sI (Int32.ofNat (own_q ky tt)), .unset, .unset, .unset, .unset] [(.ref ta)])) (fun _ q => XS.ifYes X313.here hx rfl (pc0 := 9) (pc' := 13) rfl (D 5) rfl (XT.i0_ge_t hc315) (by decide) (by decide) (XS.aloadN X313.here hx rfl (D 6) rfl rfl q)) ?_
  refine own_gF X313 hx hZ hown (w23 hw) e313 F_places_ta rfl rfl (D 7) fun T316 X316 e316 => ?_
  refine own_step (g' := (mkF m 20 #[sR ta, sJ ky, .second, sI jd, sI (Int32.ofNat (own_q ky tt)), .unset, .unset, .unset, .unset] [(.int (pl.getD (own_q ky tt) 0))])) (fun _ q => XS.iload X316.here hx rfl (D 8) rfl (own_ldI X316 hx hZ e316 V_pa (j := (Int32.ofNat (own_q ky tt))) (own_qin (own_qlt ky tt)) (v := (.int (pl.getD (own_q ky tt) 0))) (by rw [own_nat (by have := (own_qlt ky tt); omega)]; exact own_mapD (by rw [hpl]; exact (own_qlt ky tt))) (g := (mkF m 19 #[sR ta, sJ ky, .second, sI jd, sI (Int32.ofNat (own_q ky tt)), .unset, .unset, .unset, .unset] [(.int (Int32.ofNat (own_q ky tt))), (.ref pa)])) rfl rfl (D 9) _ q)) ?_
  have hc317 : ¬ (0 < (pl.getD (own_q ky tt) 0)) := (by rw [hm1]; decide)
  refine own_step (g' := (mkF m 42 #[sR ta, sJ ky, .second, sI jd, sI (Int32.ofNat (own_q ky tt)), .unset, .unset, .unset, .unset] [(.ref ta)])) (fun _ q => XS.ifYes X316.here hx rfl (pc0 := 20) (pc' := 41) rfl (D 10) rfl (XT.i0_le_t hc317) (by decide) (by decide) (XS.aloadN X316.here hx rfl (D 21) rfl rfl q)) ?_
  refine own_gF X316 hx hZ hown (w23 hw) e316 F_places_ta rfl rfl (D 22) fun T318 X318 e318 => ?_
  refine own_step (g' := (mkF m 48 #[sR ta, sJ ky, .second, sI jd, sI (Int32.ofNat (own_q ky tt)), .unset, .unset, .unset, .unset] [(.int (pl.getD (own_q ky tt) 0))])) (fun _ q => XS.iload X318.here hx rfl (D 23) rfl (own_ldI X318 hx hZ e318 V_pa (j := (Int32.ofNat (own_q ky tt))) (own_qin (own_qlt ky tt)) (v := (.int (pl.getD (own_q ky tt) 0))) (by rw [own_nat (by have := (own_qlt ky tt); omega)]; exact own_mapD (by rw [hpl]; exact (own_qlt ky tt))) (g := (mkF m 47 #[sR ta, sJ ky, .second, sI jd, sI (Int32.ofNat (own_q ky tt)), .unset, .unset, .unset, .unset] [(.int (Int32.ofNat (own_q ky tt))), (.ref pa)])) rfl rfl (D 24) _ q)) ?_
  rw [show (pl.getD (own_q ky tt) 0) = (-1 : Int32) from hm1]
  refine own_step (g' := (mkF m 54 #[sR ta, sJ ky, .second, sI jd, sI (Int32.ofNat (own_q ky tt)), sI 0, .unset, .unset, .unset] [(.ref ta)])) (fun _ q => XS.ineg X318.here hx rfl (D 25) rfl (XS.iconst X318.here hx rfl (D 26) (XS.isub X318.here hx rfl (D 27) rfl (XS.istore X318.here hx rfl (D 28) rfl (l' := #[sR ta, sJ ky, .second, sI jd, sI (Int32.ofNat (own_q ky tt)), sI 0, .unset, .unset, .unset]) rfl (XS.aloadN X318.here hx rfl (D 29) rfl rfl q))))) ?_
  refine own_gF X318 hx hZ hown (w27 hw) e318 F_lists_ta rfl rfl (D 30) fun T319 X319 e319 => ?_
  refine own_step (g' := (mkF m 63 #[sR ta, sJ ky, .second, sI jd, sI (Int32.ofNat (own_q ky tt)), sI 0, sR li, .unset, .unset] [(.ref ta)])) (fun _ q => XS.iload X319.here hx rfl (D 31) rfl (own_ldA X319 hx hZ e319 V_la rfl (j := (0 : Int32)) ⟨by decide, by decide⟩ (v := (.ref li)) rfl (g := (mkF m 59 #[sR ta, sJ ky, .second, sI jd, sI (Int32.ofNat (own_q ky tt)), sI 0, .unset, .unset, .unset] [(.int 0), (.ref la)])) rfl rfl (D 32) _ (XS.astore X319.here hx rfl (D 33) rfl rfl (l' := #[sR ta, sJ ky, .second, sI jd, sI (Int32.ofNat (own_q ky tt)), sI 0, sR li, .unset, .unset]) rfl (XS.aloadN X319.here hx rfl (D 34) rfl rfl q)))) ?_
  refine own_gF X319 hx hZ hown (w29 hw) e319 F_listSizes_ta rfl rfl (D 35) fun T320 X320 e320 => ?_
  refine own_step (g' := (mkF m 77 #[sR ta, sJ ky, .second, sI jd, sI (Int32.ofNat (own_q ky tt)), sI 0, sR li, sI 2, .unset] [(.int jd), (.int 2), (.int 0), (.ref li)])) (fun _ q => XS.iload X320.here hx rfl (D 36) rfl (own_ldI X320 hx hZ e320 V_sa (j := (0 : Int32)) ⟨by decide, by decide⟩ (v := (.int (2 : Int32))) rfl (g := (mkF m 68 #[sR ta, sJ ky, .second, sI jd, sI (Int32.ofNat (own_q ky tt)), sI 0, sR li, .unset, .unset] [(.int 0), (.ref sa)])) rfl rfl (D 37) _ (XS.istore X320.here hx rfl (D 38) rfl (l' := #[sR ta, sJ ky, .second, sI jd, sI (Int32.ofNat (own_q ky tt)), sI 0, sR li, sI 2, .unset]) rfl (XS.aload X320.here hx rfl (D 39) rfl rfl (XS.iconst X320.here hx rfl (D 40) (XS.iload X320.here hx rfl (D 41) rfl (XS.iloadN X320.here hx rfl (D 42) rfl q))))))) ?_
  refine own_callS X320 hx hZ hown (w80 hw) (w81 hw) (w82 hw) (w83 hw) (by decide) (own_bO (W := 0) (own_bs2 l Z a0 hw [] li qi y0 y1 y2 y3 jd h0 n0 Z0 V_li) hZ (w83 hw) (w82 hw) rfl rfl) e320  (by decide) (by decide) (argsL := [(.ref li), (.int (0 : Int32)), (.int (2 : Int32)), (.int jd)]) (rest := []) rfl hml.symm (lenOf pd_3 rfl) rfl rfl (own_w0 rfl rfl) (D 43) ?_
  rintro _ T321 L321 X321 ⟨r321, rfl, N321q, e321, p0_321⟩
  have N322 := Fr.app N314 N321q
  rcases p0_321 with hr | hr | hr | hr | hr
  · rw [show r321 = (0 : Int32) from hr]
    refine own_step (g' := (mkF m 100 #[sR ta, sJ ky, .second, sI jd, sI (Int32.ofNat (own_q ky tt)), sI 0, sR li, sI 2, sI 0] [(.int 2), (.int 0), (.ref li), (.int 1), (.ref li)])) (fun _ q => XS.istore X321.here hx rfl (D 44) rfl (l' := #[sR ta, sJ ky, .second, sI jd, sI (Int32.ofNat (own_q ky tt)), sI 0, sR li, sI 2, sI 0]) rfl (XS.iload X321.here hx rfl (D 45) rfl (XS.ifYes X321.here hx rfl (pc0 := 84) (pc' := 88) rfl (D 46) rfl (by decide) (by decide) (by decide) (XS.aload X321.here hx rfl (D 48) rfl rfl (XS.iload X321.here hx rfl (D 49) rfl (XS.iconst X321.here hx rfl (D 50) (XS.iadd X321.here hx rfl (D 51) rfl (XS.aload X321.here hx rfl (D 52) rfl rfl (XS.iload X321.here hx rfl (D 53) rfl (XS.iload X321.here hx rfl (D 54) rfl q)))))))))) ?_
    refine own_step (g' := (mkF m 105 #[sR ta, sJ ky, .second, sI jd, sI (Int32.ofNat (own_q ky tt)), sI 0, sR li, sI 2, sI 0] [(.int 1), (.int 0), (.ref li), (.int 1), (.ref li)])) (fun _ q => XS.iload X321.here hx rfl (D 55) rfl (XS.isub X321.here hx rfl (D 56) rfl (XS.iconst X321.here hx rfl (D 57) (XS.isub X321.here hx rfl (D 58) rfl q)))) ?_
    obtain ⟨T323, h323, L323, X323, e323, N323, K323, A323, st323⟩ := cpA X321 hx hZ hown (w101 hw) (w104 hw) (w102 hw) (w103 hw) e321 V_li V_li (us := [(.int y1)]) (Or.inl ⟨rfl, rfl⟩) (by decide) (by decide) (by decide) (by decide) (by decide) rfl (Nat.le_of_ble_eq_true rfl) N322 ge_li (g := (mkF m 105 #[sR ta, sJ ky, .second, sI jd, sI (Int32.ofNat (own_q ky tt)), sI 0, sR li, sI 2, sI 0] [(.int 1), (.int 0), (.ref li), (.int 1), (.ref li)])) rfl (by rw [hml]; rfl) (rest := []) rfl (D 59) (Nat.le_of_ble_eq_true rfl) (W := 0) (by show 2 * 0 + _ ≤ _; exact Nat.le_of_eq rfl) (by rw [own_nfw]; exact Nat.le_of_ble_eq_true rfl)
    have qV324 : (([(.int y0), (.int y1), (.int y2), (.int y3)].take (0 : Int32).toNatClampNeg ++ [(.int y1)] ++ [(.int y0), (.int y1), (.int y2), (.int y3)].drop ((0 : Int32).toNatClampNeg + (1 : Int32).toNatClampNeg)) : List Value) = [(.int y1), (.int y1), (.int y2), (.int y3)] := rfl
    have V324 : Arv Z h323 li qi .int (4 : Int32) [(.int y1), (.int y1), (.int y2), (.int y3)] (.int (0 : Int32)) := own_fixv qV324 A323
    refine own_step (T' := T323) (g' := (mkF m 108 #[sR ta, sJ ky, .second, sI jd, sI (Int32.ofNat (own_q ky tt)), sI 0, sR li, sI 2, sI 0] [])) st323 ?_
    refine own_step (g' := (mkF m 109 #[sR ta, sJ ky, .second, sI jd, sI (Int32.ofNat (own_q ky tt)), sI 0, sR li, sI 2, sI 0] [(.ref ta)])) (fun _ q => XS.aloadN X323.here hx rfl (D 60) rfl rfl q) ?_
    have c325 := (F_listSizes_ta.keep K323 (ninS ty_ta_li nin0))
    refine own_gF X323 hx hZ hown (w29 hw) e323 c325 rfl rfl (D 61) fun T326 X326 e326 => ?_
    refine own_step (g' := (mkF m 119 #[sR ta, sJ ky, .second, sI jd, sI (Int32.ofNat (own_q ky tt)), sI 0, sR li, sI 1, sI 0] [(.int 1), (.int 0), (.ref sa)])) (fun _ q => XS.iload X326.here hx rfl (D 62) rfl (XS.iinc X326.here hx rfl (D 63) rfl (l' := #[sR ta, sJ ky, .second, sI jd, sI (Int32.ofNat (own_q ky tt)), sI 0, sR li, sI 1, sI 0]) rfl (XS.iload X326.here hx rfl (D 64) rfl q))) ?_
    have c327 := (V_sa.keep K323 (ninS ne_sa_li nin0))
    obtain ⟨T328, h328, X328, e328, W328, V328, st328⟩ := own_stI X326 hx hZ e326 c327 (j := (0 : Int32)) ⟨by decide, by decide⟩ (i := 0) rfl (Nat.le_of_ble_eq_true rfl) (g := (mkF m 119 #[sR ta, sJ ky, .second, sI jd, sI (Int32.ofNat (own_q ky tt)), sI 0, sR li, sI 1, sI 0] [(.int 1), (.int 0), (.ref sa)])) rfl rfl (D 65)
    replace V328 : Arv Z h328 sa qs .int (4 : Int32) [(.int (1 : Int32)), (.int (0 : Int32)), (.int (0 : Int32)), (.int (0 : Int32))] (.int (0 : Int32)) := V328
    have N329 := Fr.snoc X328 N323 ge_sa
    refine own_step (T' := T328) (g' := (mkF m 120 #[sR ta, sJ ky, .second, sI jd, sI (Int32.ofNat (own_q ky tt)), sI 0, sR li, sI 1, sI 0] [])) st328 ?_
    refine own_step (g' := (mkF m 127 #[sR ta, sJ ky, .second, sI jd, sI (Int32.ofNat (own_q ky tt)), sI 0, sR li, sI 1, sI 0] [(.ref ta)])) (fun _ q => XS.iload X328.here hx rfl (D 66) rfl (XS.iconst X328.here hx rfl (D 67) (XS.icmpNo X328.here hx rfl (D 68) rfl (by decide) (XS.aloadN X328.here hx rfl (D 69) rfl rfl q)))) ?_
    have c330 := ((F_places_ta.keep K323 (ninS ty_ta_li nin0)).other W328 (Or.inl ty_ta_sa))
    refine own_gF X328 hx hZ hown (w23 hw) e328 c330 rfl rfl (D 70) fun T331 X331 e331 => ?_
    refine own_step (g' := (mkF m 135 #[sR ta, sJ ky, .second, sI jd, sI (Int32.ofNat (own_q ky tt)), sI 0, sR li, sI 1, sI 0] [(.int 0), (.ref li), (.int (Int32.ofNat (own_q ky tt))), (.ref pa)])) (fun _ q => XS.iload X331.here hx rfl (D 71) rfl (XS.aload X331.here hx rfl (D 72) rfl rfl (XS.iconst X331.here hx rfl (D 73) q))) ?_
    have c332 := (V324.other W328 (Ne.symm ne_sa_li))
    refine own_step (g' := (mkF m 136 #[sR ta, sJ ky, .second, sI jd, sI (Int32.ofNat (own_q ky tt)), sI 0, sR li, sI 1, sI 0] [(.int y1), (.int (Int32.ofNat (own_q ky tt))), (.ref pa)])) (fun _ q => own_ldI X331 hx hZ e331 c332 (j := (0 : Int32)) ⟨by decide, by decide⟩ (v := (.int y1)) rfl (g := (mkF m 135 #[sR ta, sJ ky, .second, sI jd, sI (Int32.ofNat (own_q ky tt)), sI 0, sR li, sI 1, sI 0] [(.int 0), (.ref li), (.int (Int32.ofNat (own_q ky tt))), (.ref pa)])) rfl rfl (D 74) _ q) ?_
    have c333 := ((V_pa.keep K323 (ninS ne_pa_li nin0)).other W328 ne_pa_sa)
    obtain ⟨T334, h334, X334, e334, W334, V334, st334⟩ := own_stI X331 hx hZ e331 c333 (j := (Int32.ofNat (own_q ky tt))) (own_qin (own_qlt ky tt)) (i := (own_q ky tt)) (own_nat (by have := (own_qlt ky tt); omega)) (by rw [List.length_map, hpl]; exact (own_qlt ky tt)) (g := (mkF m 136 #[sR ta, sJ ky, .second, sI jd, sI (Int32.ofNat (own_q ky tt)), sI 0, sR li, sI 1, sI 0] [(.int y1), (.int (Int32.ofNat (own_q ky tt))), (.ref pa)])) rfl rfl (D 75)
    have N335 := Fr.snoc X334 N329 ge_pa
    refine own_step (T' := T334) (g' := (mkF m 137 #[sR ta, sJ ky, .second, sI jd, sI (Int32.ofNat (own_q ky tt)), sI 0, sR li, sI 1, sI 0] [])) st334 ?_
    refine own_step (g' := (mkF m 138 #[sR ta, sJ ky, .second, sI jd, sI (Int32.ofNat (own_q ky tt)), sI 0, sR li, sI 1, sI 0] [(.ref ta)])) (fun _ q => XS.aloadN X334.here hx rfl (D 76) rfl rfl q) ?_
    have c336 := (((F_lists_ta.keep K323 (ninS ty_ta_li nin0)).other W328 (Or.inl ty_ta_sa)).other W334 (Or.inl ty_ta_pa))
    refine own_gF X334 hx hZ hown (w27 hw) e334 c336 rfl rfl (D 77) fun T337 X337 e337 => ?_
    refine own_step (g' := (mkF m 144 #[sR ta, sJ ky, .second, sI jd, sI (Int32.ofNat (own_q ky tt)), sI 0, sR li, sI 1, sI 0] [.null, (.int 0), (.ref la)])) (fun _ q => XS.iload X337.here hx rfl (D 78) rfl (XS.aconstNull X337.here hx rfl (D 79) q)) ?_
    have c338 := (((V_la.keep K323 (ninS ty_la_li nin0)).other W328 ty_la_sa).other W334 (Ne.symm ty_pa_la))
    obtain ⟨T339, h339, X339, e339, W339, V339, st339⟩ := own_stR X337 hx hZ e337 c338 rfl rfl (fun _ _ _ => Or.inl rfl) (j := (0 : Int32)) ⟨by decide, by decide⟩ (i := 0) rfl (Nat.le_of_ble_eq_true rfl) (g := (mkF m 144 #[sR ta, sJ ky, .second, sI jd, sI (Int32.ofNat (own_q ky tt)), sI 0, sR li, sI 1, sI 0] [.null, (.int 0), (.ref la)])) rfl rfl (D 80)
    replace V339 : Arv Z h339 la ql (.array .int) (4 : Int32) [.null, .null, .null, .null] .null := V339
    have N340 := Fr.snoc X339 N335 ge_la
    refine own_step (T' := T339) (g' := (mkF m 145 #[sR ta, sJ ky, .second, sI jd, sI (Int32.ofNat (own_q ky tt)), sI 0, sR li, sI 1, sI 0] [])) st339 ?_
    refine own_step (g' := (mkF m 147 #[sR ta, sJ ky, .second, sI jd, sI (Int32.ofNat (own_q ky tt)), sI 0, sR li, sI 1, sI 0] [(.ref ta), (.ref ta)])) (fun _ q => XS.aloadN X339.here hx rfl (D 81) rfl rfl (XS.aloadN X339.here hx rfl (D 82) rfl rfl q)) ?_
    have c341 := ((((F_freeLists_ta.keep K323 (ninS ty_ta_li nin0)).other W328 (Or.inl ty_ta_sa)).other W334 (Or.inl ty_ta_pa)).other W339 (Or.inl ty_ta_la))
    refine own_gF X339 hx hZ hown (w31 hw) e339 c341 rfl rfl (D 83) fun T342 X342 e342 => ?_
    refine own_step (g' := (mkF m 152 #[sR ta, sJ ky, .second, sI jd, sI (Int32.ofNat (own_q ky tt)), sI 0, sR li, sI 1, sI 0] [(.ref ta), (.ref ta), (.ref fa), (.ref ta)])) (fun _ q => XS.aloadN X342.here hx rfl (D 84) rfl rfl (XS.dup X342.here hx rfl (D 85) rfl rfl q)) ?_
    have c343 := ((((F_freeCount_ta.keep K323 (ninS ty_ta_li nin0)).other W328 (Or.inl ty_ta_sa)).other W334 (Or.inl ty_ta_pa)).other W339 (Or.inl ty_ta_la))
    refine own_gF X342 hx hZ hown (w71 hw) e342 c343 rfl rfl (D 86) fun T344 X344 e344 => ?_
    refine own_step (g' := (mkF m 158 #[sR ta, sJ ky, .second, sI jd, sI (Int32.ofNat (own_q ky tt)), sI 0, sR li, sI 1, sI 0] [(.int 1), (.ref ta), (.int 0), (.ref fa), (.ref ta)])) (fun _ q => XT.dupX1 X344.here hx rfl (D 87) rfl rfl rfl (XS.iconst X344.here hx rfl (D 88) (XS.iadd X344.here hx rfl (D 89) rfl q))) ?_
    have c345 := ((((E_ta.keep K323).wr W328).wr W334).wr W339)
    refine own_pF X344 hx hZ hown (w71 hw) e344 c343 c345 (Or.inl (w72 hw)) (w13 hw) (ty := .int) (by decide) rfl rfl rfl rfl (D 90) fun T346 h346 X346 e346 W346 F347 => ?_
    have N348 := Fr.snoc X346 N340 ge_ta
    refine own_step (g' := (mkF m 163 #[sR ta, sJ ky, .second, sI jd, sI (Int32.ofNat (own_q ky tt)), sI 0, sR li, sI 1, sI 0] [(.int 0), (.int 0), (.ref fa), (.ref ta)])) (fun _ q => XS.iload X346.here hx rfl (D 91) rfl q) ?_
    have c349 := (((((V_fa.keep K323 (ninS ne_fa_li nin0)).other W328 (Ne.symm ne_sa_fa)).other W334 (Ne.symm ne_pa_fa)).other W339 (Ne.symm ty_la_fa)).other W346 (Ne.symm ty_ta_fa))
    have c350 := (Nat.le_trans (Nat.le_trans (Nat.le_trans (Nat.le_trans (Nat.le_trans Z0 K323.1) (Keep.of_wr W328).1) (Keep.of_wr W334).1) (Keep.of_wr W339).1) (Keep.of_wr W346).1)
    refine own_callS X346 hx hZ hown (w105 hw) (w106 hw) (w14 hw) (w107 hw) (by decide) (own_bO (W := 1) (own_pus l Z a0 hw [] fa qf h346 n0 c350 c349 ge_fa) hZ (w107 hw) (w14 hw) rfl rfl) e346  (by decide) (by decide) (argsL := [(.ref fa), (.int (0 : Int32)), (.int (0 : Int32))]) (rest := [(.ref ta)]) rfl hml.symm (lenOf pd_6 rfl) rfl rfl (own_w0 rfl rfl) (D 92) ?_
    rintro _ T351 L351 X351 ⟨rfl, N351q, K351, f0_351⟩
    have N352 := Fr.app N348 N351q
    have c353 := ((c345.wr W346).keep K351)
    have c354 := ((c341.other W346 (Or.inr (RoadKit.slot_ne (t := (.array .int)) (t' := .int) (Or.inl (w32 hw)) (Or.inl (w72 hw)) (by decide) (by decide) (by decide)))).keep K351 (ninS ty_ta_fa nin0))
    refine own_pF X351 hx hZ hown (w31 hw) rfl c354 c353 (Or.inl (w32 hw)) (w13 hw) (ty := (.array .int)) (by decide) rfl rfl rfl rfl (D 93) fun T355 h355 X355 e355 W355 F356 => ?_
    have N357 := Fr.snoc X355 N352 ge_ta
    have c358 := ((((((((Keep.refl h0 [ta, pa, la, sa, fa, li]).trans K323 (allS (Or.inl (List.mem_of_getElem? (i := 5) rfl)) all0)).wr W328 (Or.inl (List.mem_of_getElem? (i := 3) rfl))).wr W334 (Or.inl (List.mem_of_getElem? (i := 1) rfl))).wr W339 (Or.inl (List.mem_of_getElem? (i := 2) rfl))).wr W346 (Or.inl (List.mem_of_getElem? (i := 0) rfl))).trans K351 (allS (Or.inl (List.mem_of_getElem? (i := 4) rfl)) all0)).wr W355 (Or.inl (List.mem_of_getElem? (i := 0) rfl)))
    have c359 := (c353.wr W355)
    have c360 := (((((((F_used_ta.keep K323 (ninS ty_ta_li nin0)).other W328 (Or.inl ty_ta_sa)).other W334 (Or.inl ty_ta_pa)).other W339 (Or.inl ty_ta_la)).other W346 (Or.inr (RoadKit.slot_ne (t := .int) (t' := .int) (Or.inl (w40 hw)) (Or.inl (w72 hw)) (by decide) (by decide) (by decide)))).keep K351 (ninS ty_ta_fa nin0)).other W355 (Or.inr (RoadKit.slot_ne (t := .int) (t' := (.array .int)) (Or.inl (w40 hw)) (Or.inl (w32 hw)) (by decide) (by decide) (by decide))))
    exact own_retV X355 hx hrt (D 94) hlk (by rw [e355]; exact ⟨rfl, N357, c358, c359, c360⟩) (by decide) (by decide)
  · rw [show r321 = (1 : Int32) from hr]
    refine own_step (g' := (mkF m 100 #[sR ta, sJ ky, .second, sI jd, sI (Int32.ofNat (own_q ky tt)), sI 0, sR li, sI 2, sI 1] [(.int 2), (.int 1), (.ref li), (.int 2), (.ref li)])) (fun _ q => XS.istore X321.here hx rfl (D 44) rfl (l' := #[sR ta, sJ ky, .second, sI jd, sI (Int32.ofNat (own_q ky tt)), sI 0, sR li, sI 2, sI 1]) rfl (XS.iload X321.here hx rfl (D 45) rfl (XS.ifYes X321.here hx rfl (pc0 := 84) (pc' := 88) rfl (D 46) rfl (by decide) (by decide) (by decide) (XS.aload X321.here hx rfl (D 48) rfl rfl (XS.iload X321.here hx rfl (D 49) rfl (XS.iconst X321.here hx rfl (D 50) (XS.iadd X321.here hx rfl (D 51) rfl (XS.aload X321.here hx rfl (D 52) rfl rfl (XS.iload X321.here hx rfl (D 53) rfl (XS.iload X321.here hx rfl (D 54) rfl q)))))))))) ?_
    refine own_step (g' := (mkF m 105 #[sR ta, sJ ky, .second, sI jd, sI (Int32.ofNat (own_q ky tt)), sI 0, sR li, sI 2, sI 1] [(.int 0), (.int 1), (.ref li), (.int 2), (.ref li)])) (fun _ q => XS.iload X321.here hx rfl (D 55) rfl (XS.isub X321.here hx rfl (D 56) rfl (XS.iconst X321.here hx rfl (D 57) (XS.isub X321.here hx rfl (D 58) rfl q)))) ?_
    obtain ⟨T361, h361, L361, X361, e361, N361, K361, A361, st361⟩ := cpA X321 hx hZ hown (w101 hw) (w104 hw) (w102 hw) (w103 hw) e321 V_li V_li (us := ([] : List Value)) (Or.inl ⟨rfl, rfl⟩) (by decide) (by decide) (by decide) (by decide) (by decide) rfl (Nat.le_of_ble_eq_true rfl) N322 ge_li (g := (mkF m 105 #[sR ta, sJ ky, .second, sI jd, sI (Int32.ofNat (own_q ky tt)), sI 0, sR li, sI 2, sI 1] [(.int 0), (.int 1), (.ref li), (.int 2), (.ref li)])) rfl (by rw [hml]; rfl) (rest := []) rfl (D 59) (Nat.le_of_ble_eq_true rfl) (W := 0) (by show 2 * 0 + _ ≤ _; exact Nat.le_of_eq rfl) (by rw [own_nfw]; exact Nat.le_of_ble_eq_true rfl)
    have qV362 : (([(.int y0), (.int y1), (.int y2), (.int y3)].take (1 : Int32).toNatClampNeg ++ ([] : List Value) ++ [(.int y0), (.int y1), (.int y2), (.int y3)].drop ((1 : Int32).toNatClampNeg + (0 : Int32).toNatClampNeg)) : List Value) = [(.int y0), (.int y1), (.int y2), (.int y3)] := rfl
    have V362 : Arv Z h361 li qi .int (4 : Int32) [(.int y0), (.int y1), (.int y2), (.int y3)] (.int (0 : Int32)) := own_fixv qV362 A361
    refine own_step (T' := T361) (g' := (mkF m 108 #[sR ta, sJ ky, .second, sI jd, sI (Int32.ofNat (own_q ky tt)), sI 0, sR li, sI 2, sI 1] [])) st361 ?_
    refine own_step (g' := (mkF m 109 #[sR ta, sJ ky, .second, sI jd, sI (Int32.ofNat (own_q ky tt)), sI 0, sR li, sI 2, sI 1] [(.ref ta)])) (fun _ q => XS.aloadN X361.here hx rfl (D 60) rfl rfl q) ?_
    have c363 := (F_listSizes_ta.keep K361 (ninS ty_ta_li nin0))
    refine own_gF X361 hx hZ hown (w29 hw) e361 c363 rfl rfl (D 61) fun T364 X364 e364 => ?_
    refine own_step (g' := (mkF m 119 #[sR ta, sJ ky, .second, sI jd, sI (Int32.ofNat (own_q ky tt)), sI 0, sR li, sI 1, sI 1] [(.int 1), (.int 0), (.ref sa)])) (fun _ q => XS.iload X364.here hx rfl (D 62) rfl (XS.iinc X364.here hx rfl (D 63) rfl (l' := #[sR ta, sJ ky, .second, sI jd, sI (Int32.ofNat (own_q ky tt)), sI 0, sR li, sI 1, sI 1]) rfl (XS.iload X364.here hx rfl (D 64) rfl q))) ?_
    have c365 := (V_sa.keep K361 (ninS ne_sa_li nin0))
    obtain ⟨T366, h366, X366, e366, W366, V366, st366⟩ := own_stI X364 hx hZ e364 c365 (j := (0 : Int32)) ⟨by decide, by decide⟩ (i := 0) rfl (Nat.le_of_ble_eq_true rfl) (g := (mkF m 119 #[sR ta, sJ ky, .second, sI jd, sI (Int32.ofNat (own_q ky tt)), sI 0, sR li, sI 1, sI 1] [(.int 1), (.int 0), (.ref sa)])) rfl rfl (D 65)
    replace V366 : Arv Z h366 sa qs .int (4 : Int32) [(.int (1 : Int32)), (.int (0 : Int32)), (.int (0 : Int32)), (.int (0 : Int32))] (.int (0 : Int32)) := V366
    have N367 := Fr.snoc X366 N361 ge_sa
    refine own_step (T' := T366) (g' := (mkF m 120 #[sR ta, sJ ky, .second, sI jd, sI (Int32.ofNat (own_q ky tt)), sI 0, sR li, sI 1, sI 1] [])) st366 ?_
    refine own_step (g' := (mkF m 127 #[sR ta, sJ ky, .second, sI jd, sI (Int32.ofNat (own_q ky tt)), sI 0, sR li, sI 1, sI 1] [(.ref ta)])) (fun _ q => XS.iload X366.here hx rfl (D 66) rfl (XS.iconst X366.here hx rfl (D 67) (XS.icmpNo X366.here hx rfl (D 68) rfl (by decide) (XS.aloadN X366.here hx rfl (D 69) rfl rfl q)))) ?_
    have c368 := ((F_places_ta.keep K361 (ninS ty_ta_li nin0)).other W366 (Or.inl ty_ta_sa))
    refine own_gF X366 hx hZ hown (w23 hw) e366 c368 rfl rfl (D 70) fun T369 X369 e369 => ?_
    refine own_step (g' := (mkF m 135 #[sR ta, sJ ky, .second, sI jd, sI (Int32.ofNat (own_q ky tt)), sI 0, sR li, sI 1, sI 1] [(.int 0), (.ref li), (.int (Int32.ofNat (own_q ky tt))), (.ref pa)])) (fun _ q => XS.iload X369.here hx rfl (D 71) rfl (XS.aload X369.here hx rfl (D 72) rfl rfl (XS.iconst X369.here hx rfl (D 73) q))) ?_
    have c370 := (V362.other W366 (Ne.symm ne_sa_li))
    refine own_step (g' := (mkF m 136 #[sR ta, sJ ky, .second, sI jd, sI (Int32.ofNat (own_q ky tt)), sI 0, sR li, sI 1, sI 1] [(.int y0), (.int (Int32.ofNat (own_q ky tt))), (.ref pa)])) (fun _ q => own_ldI X369 hx hZ e369 c370 (j := (0 : Int32)) ⟨by decide, by decide⟩ (v := (.int y0)) rfl (g := (mkF m 135 #[sR ta, sJ ky, .second, sI jd, sI (Int32.ofNat (own_q ky tt)), sI 0, sR li, sI 1, sI 1] [(.int 0), (.ref li), (.int (Int32.ofNat (own_q ky tt))), (.ref pa)])) rfl rfl (D 74) _ q) ?_
    have c371 := ((V_pa.keep K361 (ninS ne_pa_li nin0)).other W366 ne_pa_sa)
    obtain ⟨T372, h372, X372, e372, W372, V372, st372⟩ := own_stI X369 hx hZ e369 c371 (j := (Int32.ofNat (own_q ky tt))) (own_qin (own_qlt ky tt)) (i := (own_q ky tt)) (own_nat (by have := (own_qlt ky tt); omega)) (by rw [List.length_map, hpl]; exact (own_qlt ky tt)) (g := (mkF m 136 #[sR ta, sJ ky, .second, sI jd, sI (Int32.ofNat (own_q ky tt)), sI 0, sR li, sI 1, sI 1] [(.int y0), (.int (Int32.ofNat (own_q ky tt))), (.ref pa)])) rfl rfl (D 75)
    have N373 := Fr.snoc X372 N367 ge_pa
    refine own_step (T' := T372) (g' := (mkF m 137 #[sR ta, sJ ky, .second, sI jd, sI (Int32.ofNat (own_q ky tt)), sI 0, sR li, sI 1, sI 1] [])) st372 ?_
    refine own_step (g' := (mkF m 138 #[sR ta, sJ ky, .second, sI jd, sI (Int32.ofNat (own_q ky tt)), sI 0, sR li, sI 1, sI 1] [(.ref ta)])) (fun _ q => XS.aloadN X372.here hx rfl (D 76) rfl rfl q) ?_
    have c374 := (((F_lists_ta.keep K361 (ninS ty_ta_li nin0)).other W366 (Or.inl ty_ta_sa)).other W372 (Or.inl ty_ta_pa))
    refine own_gF X372 hx hZ hown (w27 hw) e372 c374 rfl rfl (D 77) fun T375 X375 e375 => ?_
    refine own_step (g' := (mkF m 144 #[sR ta, sJ ky, .second, sI jd, sI (Int32.ofNat (own_q ky tt)), sI 0, sR li, sI 1, sI 1] [.null, (.int 0), (.ref la)])) (fun _ q => XS.iload X375.here hx rfl (D 78) rfl (XS.aconstNull X375.here hx rfl (D 79) q)) ?_
    have c376 := (((V_la.keep K361 (ninS ty_la_li nin0)).other W366 ty_la_sa).other W372 (Ne.symm ty_pa_la))
    obtain ⟨T377, h377, X377, e377, W377, V377, st377⟩ := own_stR X375 hx hZ e375 c376 rfl rfl (fun _ _ _ => Or.inl rfl) (j := (0 : Int32)) ⟨by decide, by decide⟩ (i := 0) rfl (Nat.le_of_ble_eq_true rfl) (g := (mkF m 144 #[sR ta, sJ ky, .second, sI jd, sI (Int32.ofNat (own_q ky tt)), sI 0, sR li, sI 1, sI 1] [.null, (.int 0), (.ref la)])) rfl rfl (D 80)
    replace V377 : Arv Z h377 la ql (.array .int) (4 : Int32) [.null, .null, .null, .null] .null := V377
    have N378 := Fr.snoc X377 N373 ge_la
    refine own_step (T' := T377) (g' := (mkF m 145 #[sR ta, sJ ky, .second, sI jd, sI (Int32.ofNat (own_q ky tt)), sI 0, sR li, sI 1, sI 1] [])) st377 ?_
    refine own_step (g' := (mkF m 147 #[sR ta, sJ ky, .second, sI jd, sI (Int32.ofNat (own_q ky tt)), sI 0, sR li, sI 1, sI 1] [(.ref ta), (.ref ta)])) (fun _ q => XS.aloadN X377.here hx rfl (D 81) rfl rfl (XS.aloadN X377.here hx rfl (D 82) rfl rfl q)) ?_
    have c379 := ((((F_freeLists_ta.keep K361 (ninS ty_ta_li nin0)).other W366 (Or.inl ty_ta_sa)).other W372 (Or.inl ty_ta_pa)).other W377 (Or.inl ty_ta_la))
    refine own_gF X377 hx hZ hown (w31 hw) e377 c379 rfl rfl (D 83) fun T380 X380 e380 => ?_
    refine own_step (g' := (mkF m 152 #[sR ta, sJ ky, .second, sI jd, sI (Int32.ofNat (own_q ky tt)), sI 0, sR li, sI 1, sI 1] [(.ref ta), (.ref ta), (.ref fa), (.ref ta)])) (fun _ q => XS.aloadN X380.here hx rfl (D 84) rfl rfl (XS.dup X380.here hx rfl (D 85) rfl rfl q)) ?_
    have c381 := ((((F_freeCount_ta.keep K361 (ninS ty_ta_li nin0)).other W366 (Or.inl ty_ta_sa)).other W372 (Or.inl ty_ta_pa)).other W377 (Or.inl ty_ta_la))
    refine own_gF X380 hx hZ hown (w71 hw) e380 c381 rfl rfl (D 86) fun T382 X382 e382 => ?_
    refine own_step (g' := (mkF m 158 #[sR ta, sJ ky, .second, sI jd, sI (Int32.ofNat (own_q ky tt)), sI 0, sR li, sI 1, sI 1] [(.int 1), (.ref ta), (.int 0), (.ref fa), (.ref ta)])) (fun _ q => XT.dupX1 X382.here hx rfl (D 87) rfl rfl rfl (XS.iconst X382.here hx rfl (D 88) (XS.iadd X382.here hx rfl (D 89) rfl q))) ?_
    have c383 := ((((E_ta.keep K361).wr W366).wr W372).wr W377)
    refine own_pF X382 hx hZ hown (w71 hw) e382 c381 c383 (Or.inl (w72 hw)) (w13 hw) (ty := .int) (by decide) rfl rfl rfl rfl (D 90) fun T384 h384 X384 e384 W384 F385 => ?_
    have N386 := Fr.snoc X384 N378 ge_ta
    refine own_step (g' := (mkF m 163 #[sR ta, sJ ky, .second, sI jd, sI (Int32.ofNat (own_q ky tt)), sI 0, sR li, sI 1, sI 1] [(.int 0), (.int 0), (.ref fa), (.ref ta)])) (fun _ q => XS.iload X384.here hx rfl (D 91) rfl q) ?_
    have c387 := (((((V_fa.keep K361 (ninS ne_fa_li nin0)).other W366 (Ne.symm ne_sa_fa)).other W372 (Ne.symm ne_pa_fa)).other W377 (Ne.symm ty_la_fa)).other W384 (Ne.symm ty_ta_fa))
    have c388 := (Nat.le_trans (Nat.le_trans (Nat.le_trans (Nat.le_trans (Nat.le_trans Z0 K361.1) (Keep.of_wr W366).1) (Keep.of_wr W372).1) (Keep.of_wr W377).1) (Keep.of_wr W384).1)
    refine own_callS X384 hx hZ hown (w105 hw) (w106 hw) (w14 hw) (w107 hw) (by decide) (own_bO (W := 1) (own_pus l Z a0 hw [] fa qf h384 n0 c388 c387 ge_fa) hZ (w107 hw) (w14 hw) rfl rfl) e384  (by decide) (by decide) (argsL := [(.ref fa), (.int (0 : Int32)), (.int (0 : Int32))]) (rest := [(.ref ta)]) rfl hml.symm (lenOf pd_6 rfl) rfl rfl (own_w0 rfl rfl) (D 92) ?_
    rintro _ T389 L389 X389 ⟨rfl, N389q, K389, f0_389⟩
    have N390 := Fr.app N386 N389q
    have c391 := ((c383.wr W384).keep K389)
    have c392 := ((c379.other W384 (Or.inr (RoadKit.slot_ne (t := (.array .int)) (t' := .int) (Or.inl (w32 hw)) (Or.inl (w72 hw)) (by decide) (by decide) (by decide)))).keep K389 (ninS ty_ta_fa nin0))
    refine own_pF X389 hx hZ hown (w31 hw) rfl c392 c391 (Or.inl (w32 hw)) (w13 hw) (ty := (.array .int)) (by decide) rfl rfl rfl rfl (D 93) fun T393 h393 X393 e393 W393 F394 => ?_
    have N395 := Fr.snoc X393 N390 ge_ta
    have c396 := ((((((((Keep.refl h0 [ta, pa, la, sa, fa, li]).trans K361 (allS (Or.inl (List.mem_of_getElem? (i := 5) rfl)) all0)).wr W366 (Or.inl (List.mem_of_getElem? (i := 3) rfl))).wr W372 (Or.inl (List.mem_of_getElem? (i := 1) rfl))).wr W377 (Or.inl (List.mem_of_getElem? (i := 2) rfl))).wr W384 (Or.inl (List.mem_of_getElem? (i := 0) rfl))).trans K389 (allS (Or.inl (List.mem_of_getElem? (i := 4) rfl)) all0)).wr W393 (Or.inl (List.mem_of_getElem? (i := 0) rfl)))
    have c397 := (c391.wr W393)
    have c398 := (((((((F_used_ta.keep K361 (ninS ty_ta_li nin0)).other W366 (Or.inl ty_ta_sa)).other W372 (Or.inl ty_ta_pa)).other W377 (Or.inl ty_ta_la)).other W384 (Or.inr (RoadKit.slot_ne (t := .int) (t' := .int) (Or.inl (w40 hw)) (Or.inl (w72 hw)) (by decide) (by decide) (by decide)))).keep K389 (ninS ty_ta_fa nin0)).other W393 (Or.inr (RoadKit.slot_ne (t := .int) (t' := (.array .int)) (Or.inl (w40 hw)) (Or.inl (w32 hw)) (by decide) (by decide) (by decide))))
    exact own_retV X393 hx hrt (D 94) hlk (by rw [e393]; exact ⟨rfl, N395, c396, c397, c398⟩) (by decide) (by decide)
  · rw [show r321 = (-1 : Int32) from hr]
    refine own_step (g' := (mkF m 87 #[sR ta, sJ ky, .second, sI jd, sI (Int32.ofNat (own_q ky tt)), sI 0, sR li, sI 2, sI (-1)] [])) (fun _ q => XS.istore X321.here hx rfl (D 44) rfl (l' := #[sR ta, sJ ky, .second, sI jd, sI (Int32.ofNat (own_q ky tt)), sI 0, sR li, sI 2, sI (-1)]) rfl (XS.iload X321.here hx rfl (D 45) rfl (XS.ifNo X321.here hx rfl (D 46) rfl (by decide) q))) ?_
    exact own_retV X321 hx hrt (D 47) hlk (by rw [e321]; exact ⟨rfl, N322, (Keep.refl h0 [ta, pa, la, sa, fa, li]), E_ta, F_used_ta⟩) (by decide) (by decide)
  · rw [show r321 = (-2 : Int32) from hr]
    refine own_step (g' := (mkF m 87 #[sR ta, sJ ky, .second, sI jd, sI (Int32.ofNat (own_q ky tt)), sI 0, sR li, sI 2, sI (-2)] [])) (fun _ q => XS.istore X321.here hx rfl (D 44) rfl (l' := #[sR ta, sJ ky, .second, sI jd, sI (Int32.ofNat (own_q ky tt)), sI 0, sR li, sI 2, sI (-2)]) rfl (XS.iload X321.here hx rfl (D 45) rfl (XS.ifNo X321.here hx rfl (D 46) rfl (by decide) q))) ?_
    exact own_retV X321 hx hrt (D 47) hlk (by rw [e321]; exact ⟨rfl, N322, (Keep.refl h0 [ta, pa, la, sa, fa, li]), E_ta, F_used_ta⟩) (by decide) (by decide)
  · rw [show r321 = (-3 : Int32) from hr]
    refine own_step (g' := (mkF m 87 #[sR ta, sJ ky, .second, sI jd, sI (Int32.ofNat (own_q ky tt)), sI 0, sR li, sI 2, sI (-3)] [])) (fun _ q => XS.istore X321.here hx rfl (D 44) rfl (l' := #[sR ta, sJ ky, .second, sI jd, sI (Int32.ofNat (own_q ky tt)), sI 0, sR li, sI 2, sI (-3)]) rfl (XS.iload X321.here hx rfl (D 45) rfl (XS.ifNo X321.here hx rfl (D 46) rfl (by decide) q))) ?_
    exact own_retV X321 hx hrt (D 47) hlk (by rw [e321]; exact ⟨rfl, N322, (Keep.refl h0 [ta, pa, la, sa, fa, li]), E_ta, F_used_ta⟩) (by decide) (by decide)
def Q_own_rl3 (Z : State) (ta ka pa la sa fa : Addr) (qk qp ql qs qf : ClassId) (kl : List Int64) (pl : List Int32) (u : Nat) (li : Addr) (qi : ClassId) (y0 y1 y2 y3 : Int32) (ky : Int64) (jd : Int32) (tt : Nat) (h0 : Heap) (n0 : Nat) (v : Option Value) (h : Heap) (L : List Loc) : Prop := v = none ∧ Fr n0 L ∧ Keep h0 h [ta, pa, la, sa, fa, li] ∧ own_Et Z h ta ∧ own_Fu Z h ta (.int (Int32.ofNat u))
set_option maxRecDepth 65536 in
set_option maxHeartbeats 40000000 in
theorem own_rl3 (l : Launch) (Z : State) (a0 : Array Value) (hw : own_HW a0 Z) (ws : List Jvm.Cond) (ta ka pa la sa fa : Addr) (qk qp ql qs qf : ClassId) (kl : List Int64) (pl : List Int32) (u : Nat) (li : Addr) (qi : ClassId) (y0 y1 y2 y3 : Int32) (ky : Int64) (jd : Int32) (tt : Nat) (h0 : Heap) (n0 : Nat) (Z0 : n0 ≤ h0.size) (E_ta : own_Et Z h0 ta) (F_keys_ta : own_Fk Z h0 ta (.ref ka)) (F_places_ta : own_Fp Z h0 ta (.ref pa)) (F_used_ta : own_Fu Z h0 ta (.int (Int32.ofNat u))) (F_lists_ta : own_Fl Z h0 ta (.ref la)) (F_listSizes_ta : own_Fs Z h0 ta (.ref sa)) (F_freeLists_ta : own_Ff Z h0 ta (.ref fa)) (F_freeCount_ta : own_Fc Z h0 ta (.int (0 : Int32))) (F_listCount_ta : own_Fn Z h0 ta (.int (1 : Int32))) (V_ka : Arv Z h0 ka qk .long (16 : Int32) (kl.map Value.long) (.long (0 : Int64))) (V_pa : Arv Z h0 pa qp .int (16 : Int32) (pl.map Value.int) (.int (0 : Int32))) (V_la : Arv Z h0 la ql (.array .int) (4 : Int32) [(.ref li), .null, .null, .null] .null) (V_sa : Arv Z h0 sa qs .int (4 : Int32) [(.int (3 : Int32)), (.int (0 : Int32)), (.int (0 : Int32)), (.int (0 : Int32))] (.int (0 : Int32))) (V_fa : Arv Z h0 fa qf .int (4 : Int32) [(.int (0 : Int32)), (.int (0 : Int32)), (.int (0 : Int32)), (.int (0 : Int32))] (.int (0 : Int32))) (V_li : Arv Z h0 li qi .int (4 : Int32) [(.int y0), (.int y1), (.int y2), (.int y3)] (.int (0 : Int32))) (ge_ta : n0 ≤ ta) (ge_pa : n0 ≤ pa) (ge_la : n0 ≤ la) (ge_sa : n0 ≤ sa) (ge_fa : n0 ≤ fa) (ge_li : n0 ≤ li) (ne_pa_sa : ¬ pa = sa) (ne_pa_fa : ¬ pa = fa) (ne_sa_fa : ¬ sa = fa) (ne_pa_li : ¬ pa = li) (ne_sa_li : ¬ sa = li) (ne_fa_li : ¬ fa = li) (hkl : kl.length = 16) (hpl : pl.length = 16) (hpt : own_pth kl pl ky tt) (hq : ¬ (pl.getD (own_q ky tt) 0) = 0 ∧ kl.getD (own_q ky tt) 0 = ky) (hm1 : (pl.getD (own_q ky tt) 0) = (-1 : Int32)) :
    own_Met l Z ⟨"com/example/vaxwire/vaxwire/registry/KeyIndex$Table", "remove", "(JI)V"⟩ prog_102_method_3_code 9 none ws ⟨2, 0, 0, 34⟩ #[(.ref ta), (.long ky), (.int jd)] h0 (Q_own_rl3 Z ta ka pa la sa fa qk qp ql qs qf kl pl u li qi y0 y1 y2 y3 ky jd tt h0 n0) := by
  refine own_bodyN (g0 := fun m => mkF m 0 #[sR ta, sJ ky, .second, sI jd, .unset, .unset, .unset, .unset, .unset] []) (plainFor_of_name pn_0) (fun _ => rfl) ?_
  intro p e s m below meth c s₁ hx hby hml hrt hlk hown hnm hZ e0 X0
  have D := own_d hby kD17
  have ty_ta_ka : ta ≠ ka := (Exa.neArv E_ta V_ka (w13 hw))
  have ty_ta_pa : ta ≠ pa := (Exa.neArv E_ta V_pa (w13 hw))
  have ty_ta_la : ta ≠ la := (Exa.neArv E_ta V_la (w13 hw))
  have ty_ta_sa : ta ≠ sa := (Exa.neArv E_ta V_sa (w13 hw))
  have ty_ta_fa : ta ≠ fa := (Exa.neArv E_ta V_fa (w13 hw))
  have ty_ta_li : ta ≠ li := (Exa.neArv E_ta V_li (w13 hw))
  have ty_ka_pa : ka ≠ pa := (own_arr_ne V_ka V_pa (by decide))
  have ty_ka_la : ka ≠ la := (own_arr_ne V_ka V_la (by decide))
  have ty_ka_sa : ka ≠ sa := (own_arr_ne V_ka V_sa (by decide))
  have ty_ka_fa : ka ≠ fa := (own_arr_ne V_ka V_fa (by decide))
  have ty_ka_li : ka ≠ li := (own_arr_ne V_ka V_li (by decide))
  have ty_pa_la : pa ≠ la := (own_arr_ne V_pa V_la (by decide))
  have ty_la_sa : la ≠ sa := (own_arr_ne V_la V_sa (by decide))
  have ty_la_fa : la ≠ fa := (own_arr_ne V_la V_fa (by decide))
  have ty_la_li : la ≠ li := (own_arr_ne V_la V_li (by decide))
  refine own_step (g' := (mkF m 2 #[sR ta, sJ ky, .second, sI jd, .unset, .unset, .unset, .unset, .unset] [(.long ky), (.ref ta)])) (fun _ q => XS.aloadN X0.here hx rfl (D 0) rfl rfl (XT.lloadN X0.here hx rfl (D 1) rfl q)) ?_
  refine own_callQ X0 hx hZ hown (w55 hw) (w56 hw) (w13 hw) (w57 hw) (w58 hw) (by decide) (own_bO (W := 0) (own_fi1 l Z a0 hw [] ta ka pa qk qp kl pl ky tt h0 n0 Z0 E_ta F_keys_ta F_places_ta V_ka V_pa hkl hpl hpt hq) hZ (w58 hw) (w14 hw) rfl rfl) e0 E_ta  (by decide) (by decide) (argsL := [(.long ky)]) (rest := []) rfl hml.symm (lenOf pd_0 rfl) rfl rfl (own_w0 rfl rfl) (D 2) ?_
  rintro _ T399 L399 X399 ⟨rfl, N399q, e399⟩
  have N400 := Fr.app (Fr.nil n0) N399q
  refine own_step (g' := (mkF m 9 #[sR ta, sJ ky, .second, sI jd, sI (Int32.ofNat (own_q ky tt)), .unset, .unset, .unset, .unset] [(.int (Int32.ofNat (own_q ky tt)))])) (fun _ q => XS.istore X399.here hx rfl (D 3) rfl (l' := #[sR ta, sJ ky, .second, sI jd, sI (Int32.ofNat (own_q ky tt)), .unset, .unset, .unset, .unset]) rfl (XS.iload X399.here hx rfl (D 4) rfl q)) ?_
  have hc401 : ¬ ((Int32.ofNat (own_q ky tt)) < 0) := (own_qin (own_qlt ky tt)).1
  refine own_step (g' := (mkF m 14 #[sR ta, sJ ky, .second, sI jd, sI (Int32.ofNat (own_q ky tt)), .unset, .unset, .unset, .unset] [(.ref ta)])) (fun _ q => XS.ifYes X399.here hx rfl (pc0 := 9) (pc' := 13) rfl (D 5) rfl (XT.i0_ge_t hc401) (by decide) (by decide) (XS.aloadN X399.here hx rfl (D 6) rfl rfl q)) ?_
  refine own_gF X399 hx hZ hown (w23 hw) e399 F_places_ta rfl rfl (D 7) fun T402 X402 e402 => ?_
  refine own_step (g' := (mkF m 20 #[sR ta, sJ ky, .second, sI jd, sI (Int32.ofNat (own_q ky tt)), .unset, .unset, .unset, .unset] [(.int (pl.getD (own_q ky tt) 0))])) (fun _ q => XS.iload X402.here hx rfl (D 8) rfl (own_ldI X402 hx hZ e402 V_pa (j := (Int32.ofNat (own_q ky tt))) (own_qin (own_qlt ky tt)) (v := (.int (pl.getD (own_q ky tt) 0))) (by rw [own_nat (by have := (own_qlt ky tt); omega)]; exact own_mapD (by rw [hpl]; exact (own_qlt ky tt))) (g := (mkF m 19 #[sR ta, sJ ky, .second, sI jd, sI (Int32.ofNat (own_q ky tt)), .unset, .unset, .unset, .unset] [(.int (Int32.ofNat (own_q ky tt))), (.ref pa)])) rfl rfl (D 9) _ q)) ?_
  have hc403 : ¬ (0 < (pl.getD (own_q ky tt) 0)) := (by rw [hm1]; decide)
  refine own_step (g' := (mkF m 42 #[sR ta, sJ ky, .second, sI jd, sI (Int32.ofNat (own_q ky tt)), .unset, .unset, .unset, .unset] [(.ref ta)])) (fun _ q => XS.ifYes X402.here hx rfl (pc0 := 20) (pc' := 41) rfl (D 10) rfl (XT.i0_le_t hc403) (by decide) (by decide) (XS.aloadN X402.here hx rfl (D 21) rfl rfl q)) ?_
  refine own_gF X402 hx hZ hown (w23 hw) e402 F_places_ta rfl rfl (D 22) fun T404 X404 e404 => ?_
  refine own_step (g' := (mkF m 48 #[sR ta, sJ ky, .second, sI jd, sI (Int32.ofNat (own_q ky tt)), .unset, .unset, .unset, .unset] [(.int (pl.getD (own_q ky tt) 0))])) (fun _ q => XS.iload X404.here hx rfl (D 23) rfl (own_ldI X404 hx hZ e404 V_pa (j := (Int32.ofNat (own_q ky tt))) (own_qin (own_qlt ky tt)) (v := (.int (pl.getD (own_q ky tt) 0))) (by rw [own_nat (by have := (own_qlt ky tt); omega)]; exact own_mapD (by rw [hpl]; exact (own_qlt ky tt))) (g := (mkF m 47 #[sR ta, sJ ky, .second, sI jd, sI (Int32.ofNat (own_q ky tt)), .unset, .unset, .unset, .unset] [(.int (Int32.ofNat (own_q ky tt))), (.ref pa)])) rfl rfl (D 24) _ q)) ?_
  rw [show (pl.getD (own_q ky tt) 0) = (-1 : Int32) from hm1]
  refine own_step (g' := (mkF m 54 #[sR ta, sJ ky, .second, sI jd, sI (Int32.ofNat (own_q ky tt)), sI 0, .unset, .unset, .unset] [(.ref ta)])) (fun _ q => XS.ineg X404.here hx rfl (D 25) rfl (XS.iconst X404.here hx rfl (D 26) (XS.isub X404.here hx rfl (D 27) rfl (XS.istore X404.here hx rfl (D 28) rfl (l' := #[sR ta, sJ ky, .second, sI jd, sI (Int32.ofNat (own_q ky tt)), sI 0, .unset, .unset, .unset]) rfl (XS.aloadN X404.here hx rfl (D 29) rfl rfl q))))) ?_
  refine own_gF X404 hx hZ hown (w27 hw) e404 F_lists_ta rfl rfl (D 30) fun T405 X405 e405 => ?_
  refine own_step (g' := (mkF m 63 #[sR ta, sJ ky, .second, sI jd, sI (Int32.ofNat (own_q ky tt)), sI 0, sR li, .unset, .unset] [(.ref ta)])) (fun _ q => XS.iload X405.here hx rfl (D 31) rfl (own_ldA X405 hx hZ e405 V_la rfl (j := (0 : Int32)) ⟨by decide, by decide⟩ (v := (.ref li)) rfl (g := (mkF m 59 #[sR ta, sJ ky, .second, sI jd, sI (Int32.ofNat (own_q ky tt)), sI 0, .unset, .unset, .unset] [(.int 0), (.ref la)])) rfl rfl (D 32) _ (XS.astore X405.here hx rfl (D 33) rfl rfl (l' := #[sR ta, sJ ky, .second, sI jd, sI (Int32.ofNat (own_q ky tt)), sI 0, sR li, .unset, .unset]) rfl (XS.aloadN X405.here hx rfl (D 34) rfl rfl q)))) ?_
  refine own_gF X405 hx hZ hown (w29 hw) e405 F_listSizes_ta rfl rfl (D 35) fun T406 X406 e406 => ?_
  refine own_step (g' := (mkF m 77 #[sR ta, sJ ky, .second, sI jd, sI (Int32.ofNat (own_q ky tt)), sI 0, sR li, sI 3, .unset] [(.int jd), (.int 3), (.int 0), (.ref li)])) (fun _ q => XS.iload X406.here hx rfl (D 36) rfl (own_ldI X406 hx hZ e406 V_sa (j := (0 : Int32)) ⟨by decide, by decide⟩ (v := (.int (3 : Int32))) rfl (g := (mkF m 68 #[sR ta, sJ ky, .second, sI jd, sI (Int32.ofNat (own_q ky tt)), sI 0, sR li, .unset, .unset] [(.int 0), (.ref sa)])) rfl rfl (D 37) _ (XS.istore X406.here hx rfl (D 38) rfl (l' := #[sR ta, sJ ky, .second, sI jd, sI (Int32.ofNat (own_q ky tt)), sI 0, sR li, sI 3, .unset]) rfl (XS.aload X406.here hx rfl (D 39) rfl rfl (XS.iconst X406.here hx rfl (D 40) (XS.iload X406.here hx rfl (D 41) rfl (XS.iloadN X406.here hx rfl (D 42) rfl q))))))) ?_
  refine own_callS X406 hx hZ hown (w80 hw) (w81 hw) (w82 hw) (w83 hw) (by decide) (own_bO (W := 0) (own_bs3 l Z a0 hw [] li qi y0 y1 y2 y3 jd h0 n0 Z0 V_li) hZ (w83 hw) (w82 hw) rfl rfl) e406  (by decide) (by decide) (argsL := [(.ref li), (.int (0 : Int32)), (.int (3 : Int32)), (.int jd)]) (rest := []) rfl hml.symm (lenOf pd_3 rfl) rfl rfl (own_w0 rfl rfl) (D 43) ?_
  rintro _ T407 L407 X407 ⟨r407, rfl, N407q, e407, p0_407⟩
  have N408 := Fr.app N400 N407q
  rcases p0_407 with hr | hr | hr | hr | hr | hr | hr
  · rw [show r407 = (0 : Int32) from hr]
    refine own_step (g' := (mkF m 100 #[sR ta, sJ ky, .second, sI jd, sI (Int32.ofNat (own_q ky tt)), sI 0, sR li, sI 3, sI 0] [(.int 3), (.int 0), (.ref li), (.int 1), (.ref li)])) (fun _ q => XS.istore X407.here hx rfl (D 44) rfl (l' := #[sR ta, sJ ky, .second, sI jd, sI (Int32.ofNat (own_q ky tt)), sI 0, sR li, sI 3, sI 0]) rfl (XS.iload X407.here hx rfl (D 45) rfl (XS.ifYes X407.here hx rfl (pc0 := 84) (pc' := 88) rfl (D 46) rfl (by decide) (by decide) (by decide) (XS.aload X407.here hx rfl (D 48) rfl rfl (XS.iload X407.here hx rfl (D 49) rfl (XS.iconst X407.here hx rfl (D 50) (XS.iadd X407.here hx rfl (D 51) rfl (XS.aload X407.here hx rfl (D 52) rfl rfl (XS.iload X407.here hx rfl (D 53) rfl (XS.iload X407.here hx rfl (D 54) rfl q)))))))))) ?_
    refine own_step (g' := (mkF m 105 #[sR ta, sJ ky, .second, sI jd, sI (Int32.ofNat (own_q ky tt)), sI 0, sR li, sI 3, sI 0] [(.int 2), (.int 0), (.ref li), (.int 1), (.ref li)])) (fun _ q => XS.iload X407.here hx rfl (D 55) rfl (XS.isub X407.here hx rfl (D 56) rfl (XS.iconst X407.here hx rfl (D 57) (XS.isub X407.here hx rfl (D 58) rfl q)))) ?_
    obtain ⟨T409, h409, L409, X409, e409, N409, K409, A409, st409⟩ := cpA X407 hx hZ hown (w101 hw) (w104 hw) (w102 hw) (w103 hw) e407 V_li V_li (us := [(.int y1), (.int y2)]) (Or.inl ⟨rfl, rfl⟩) (by decide) (by decide) (by decide) (by decide) (by decide) rfl (Nat.le_of_ble_eq_true rfl) N408 ge_li (g := (mkF m 105 #[sR ta, sJ ky, .second, sI jd, sI (Int32.ofNat (own_q ky tt)), sI 0, sR li, sI 3, sI 0] [(.int 2), (.int 0), (.ref li), (.int 1), (.ref li)])) rfl (by rw [hml]; rfl) (rest := []) rfl (D 59) (Nat.le_of_ble_eq_true rfl) (W := 0) (by show 2 * 0 + _ ≤ _; exact Nat.le_of_eq rfl) (by rw [own_nfw]; exact Nat.le_of_ble_eq_true rfl)
    have qV410 : (([(.int y0), (.int y1), (.int y2), (.int y3)].take (0 : Int32).toNatClampNeg ++ [(.int y1), (.int y2)] ++ [(.int y0), (.int y1), (.int y2), (.int y3)].drop ((0 : Int32).toNatClampNeg + (2 : Int32).toNatClampNeg)) : List Value) = [(.int y1), (.int y2), (.int y2), (.int y3)] := rfl
    have V410 : Arv Z h409 li qi .int (4 : Int32) [(.int y1), (.int y2), (.int y2), (.int y3)] (.int (0 : Int32)) := own_fixv qV410 A409
    refine own_step (T' := T409) (g' := (mkF m 108 #[sR ta, sJ ky, .second, sI jd, sI (Int32.ofNat (own_q ky tt)), sI 0, sR li, sI 3, sI 0] [])) st409 ?_
    refine own_step (g' := (mkF m 109 #[sR ta, sJ ky, .second, sI jd, sI (Int32.ofNat (own_q ky tt)), sI 0, sR li, sI 3, sI 0] [(.ref ta)])) (fun _ q => XS.aloadN X409.here hx rfl (D 60) rfl rfl q) ?_
    have c411 := (F_listSizes_ta.keep K409 (ninS ty_ta_li nin0))
    refine own_gF X409 hx hZ hown (w29 hw) e409 c411 rfl rfl (D 61) fun T412 X412 e412 => ?_
    refine own_step (g' := (mkF m 119 #[sR ta, sJ ky, .second, sI jd, sI (Int32.ofNat (own_q ky tt)), sI 0, sR li, sI 2, sI 0] [(.int 2), (.int 0), (.ref sa)])) (fun _ q => XS.iload X412.here hx rfl (D 62) rfl (XS.iinc X412.here hx rfl (D 63) rfl (l' := #[sR ta, sJ ky, .second, sI jd, sI (Int32.ofNat (own_q ky tt)), sI 0, sR li, sI 2, sI 0]) rfl (XS.iload X412.here hx rfl (D 64) rfl q))) ?_
    have c413 := (V_sa.keep K409 (ninS ne_sa_li nin0))
    obtain ⟨T414, h414, X414, e414, W414, V414, st414⟩ := own_stI X412 hx hZ e412 c413 (j := (0 : Int32)) ⟨by decide, by decide⟩ (i := 0) rfl (Nat.le_of_ble_eq_true rfl) (g := (mkF m 119 #[sR ta, sJ ky, .second, sI jd, sI (Int32.ofNat (own_q ky tt)), sI 0, sR li, sI 2, sI 0] [(.int 2), (.int 0), (.ref sa)])) rfl rfl (D 65)
    replace V414 : Arv Z h414 sa qs .int (4 : Int32) [(.int (2 : Int32)), (.int (0 : Int32)), (.int (0 : Int32)), (.int (0 : Int32))] (.int (0 : Int32)) := V414
    have N415 := Fr.snoc X414 N409 ge_sa
    refine own_step (T' := T414) (g' := (mkF m 120 #[sR ta, sJ ky, .second, sI jd, sI (Int32.ofNat (own_q ky tt)), sI 0, sR li, sI 2, sI 0] [])) st414 ?_
    refine own_step (g' := (mkF m 169 #[sR ta, sJ ky, .second, sI jd, sI (Int32.ofNat (own_q ky tt)), sI 0, sR li, sI 2, sI 0] [])) (fun _ q => XS.iload X414.here hx rfl (D 66) rfl (XS.iconst X414.here hx rfl (D 67) (XS.icmpYes X414.here hx rfl (pc0 := 123) (pc' := 169) rfl (D 68) rfl (by decide) (by decide) (by decide) q))) ?_
    have c416 := (((Keep.refl h0 [ta, pa, la, sa, fa, li]).trans K409 (allS (Or.inl (List.mem_of_getElem? (i := 5) rfl)) all0)).wr W414 (Or.inl (List.mem_of_getElem? (i := 3) rfl)))
    have c417 := ((E_ta.keep K409).wr W414)
    have c418 := ((F_used_ta.keep K409 (ninS ty_ta_li nin0)).other W414 (Or.inl ty_ta_sa))
    exact own_retV X414 hx hrt (D 94) hlk (by rw [e414]; exact ⟨rfl, N415, c416, c417, c418⟩) (by decide) (by decide)
  · rw [show r407 = (1 : Int32) from hr]
    refine own_step (g' := (mkF m 100 #[sR ta, sJ ky, .second, sI jd, sI (Int32.ofNat (own_q ky tt)), sI 0, sR li, sI 3, sI 1] [(.int 3), (.int 1), (.ref li), (.int 2), (.ref li)])) (fun _ q => XS.istore X407.here hx rfl (D 44) rfl (l' := #[sR ta, sJ ky, .second, sI jd, sI (Int32.ofNat (own_q ky tt)), sI 0, sR li, sI 3, sI 1]) rfl (XS.iload X407.here hx rfl (D 45) rfl (XS.ifYes X407.here hx rfl (pc0 := 84) (pc' := 88) rfl (D 46) rfl (by decide) (by decide) (by decide) (XS.aload X407.here hx rfl (D 48) rfl rfl (XS.iload X407.here hx rfl (D 49) rfl (XS.iconst X407.here hx rfl (D 50) (XS.iadd X407.here hx rfl (D 51) rfl (XS.aload X407.here hx rfl (D 52) rfl rfl (XS.iload X407.here hx rfl (D 53) rfl (XS.iload X407.here hx rfl (D 54) rfl q)))))))))) ?_
    refine own_step (g' := (mkF m 105 #[sR ta, sJ ky, .second, sI jd, sI (Int32.ofNat (own_q ky tt)), sI 0, sR li, sI 3, sI 1] [(.int 1), (.int 1), (.ref li), (.int 2), (.ref li)])) (fun _ q => XS.iload X407.here hx rfl (D 55) rfl (XS.isub X407.here hx rfl (D 56) rfl (XS.iconst X407.here hx rfl (D 57) (XS.isub X407.here hx rfl (D 58) rfl q)))) ?_
    obtain ⟨T419, h419, L419, X419, e419, N419, K419, A419, st419⟩ := cpA X407 hx hZ hown (w101 hw) (w104 hw) (w102 hw) (w103 hw) e407 V_li V_li (us := [(.int y2)]) (Or.inl ⟨rfl, rfl⟩) (by decide) (by decide) (by decide) (by decide) (by decide) rfl (Nat.le_of_ble_eq_true rfl) N408 ge_li (g := (mkF m 105 #[sR ta, sJ ky, .second, sI jd, sI (Int32.ofNat (own_q ky tt)), sI 0, sR li, sI 3, sI 1] [(.int 1), (.int 1), (.ref li), (.int 2), (.ref li)])) rfl (by rw [hml]; rfl) (rest := []) rfl (D 59) (Nat.le_of_ble_eq_true rfl) (W := 0) (by show 2 * 0 + _ ≤ _; exact Nat.le_of_eq rfl) (by rw [own_nfw]; exact Nat.le_of_ble_eq_true rfl)
    have qV420 : (([(.int y0), (.int y1), (.int y2), (.int y3)].take (1 : Int32).toNatClampNeg ++ [(.int y2)] ++ [(.int y0), (.int y1), (.int y2), (.int y3)].drop ((1 : Int32).toNatClampNeg + (1 : Int32).toNatClampNeg)) : List Value) = [(.int y0), (.int y2), (.int y2), (.int y3)] := rfl
    have V420 : Arv Z h419 li qi .int (4 : Int32) [(.int y0), (.int y2), (.int y2), (.int y3)] (.int (0 : Int32)) := own_fixv qV420 A419
    refine own_step (T' := T419) (g' := (mkF m 108 #[sR ta, sJ ky, .second, sI jd, sI (Int32.ofNat (own_q ky tt)), sI 0, sR li, sI 3, sI 1] [])) st419 ?_
    refine own_step (g' := (mkF m 109 #[sR ta, sJ ky, .second, sI jd, sI (Int32.ofNat (own_q ky tt)), sI 0, sR li, sI 3, sI 1] [(.ref ta)])) (fun _ q => XS.aloadN X419.here hx rfl (D 60) rfl rfl q) ?_
    have c421 := (F_listSizes_ta.keep K419 (ninS ty_ta_li nin0))
    refine own_gF X419 hx hZ hown (w29 hw) e419 c421 rfl rfl (D 61) fun T422 X422 e422 => ?_
    refine own_step (g' := (mkF m 119 #[sR ta, sJ ky, .second, sI jd, sI (Int32.ofNat (own_q ky tt)), sI 0, sR li, sI 2, sI 1] [(.int 2), (.int 0), (.ref sa)])) (fun _ q => XS.iload X422.here hx rfl (D 62) rfl (XS.iinc X422.here hx rfl (D 63) rfl (l' := #[sR ta, sJ ky, .second, sI jd, sI (Int32.ofNat (own_q ky tt)), sI 0, sR li, sI 2, sI 1]) rfl (XS.iload X422.here hx rfl (D 64) rfl q))) ?_
    have c423 := (V_sa.keep K419 (ninS ne_sa_li nin0))
    obtain ⟨T424, h424, X424, e424, W424, V424, st424⟩ := own_stI X422 hx hZ e422 c423 (j := (0 : Int32)) ⟨by decide, by decide⟩ (i := 0) rfl (Nat.le_of_ble_eq_true rfl) (g := (mkF m 119 #[sR ta, sJ ky, .second, sI jd, sI (Int32.ofNat (own_q ky tt)), sI 0, sR li, sI 2, sI 1] [(.int 2), (.int 0), (.ref sa)])) rfl rfl (D 65)
    replace V424 : Arv Z h424 sa qs .int (4 : Int32) [(.int (2 : Int32)), (.int (0 : Int32)), (.int (0 : Int32)), (.int (0 : Int32))] (.int (0 : Int32)) := V424
    have N425 := Fr.snoc X424 N419 ge_sa
    refine own_step (T' := T424) (g' := (mkF m 120 #[sR ta, sJ ky, .second, sI jd, sI (Int32.ofNat (own_q ky tt)), sI 0, sR li, sI 2, sI 1] [])) st424 ?_
    refine own_step (g' := (mkF m 169 #[sR ta, sJ ky, .second, sI jd, sI (Int32.ofNat (own_q ky tt)), sI 0, sR li, sI 2, sI 1] [])) (fun _ q => XS.iload X424.here hx rfl (D 66) rfl (XS.iconst X424.here hx rfl (D 67) (XS.icmpYes X424.here hx rfl (pc0 := 123) (pc' := 169) rfl (D 68) rfl (by decide) (by decide) (by decide) q))) ?_
    have c426 := (((Keep.refl h0 [ta, pa, la, sa, fa, li]).trans K419 (allS (Or.inl (List.mem_of_getElem? (i := 5) rfl)) all0)).wr W424 (Or.inl (List.mem_of_getElem? (i := 3) rfl)))
    have c427 := ((E_ta.keep K419).wr W424)
    have c428 := ((F_used_ta.keep K419 (ninS ty_ta_li nin0)).other W424 (Or.inl ty_ta_sa))
    exact own_retV X424 hx hrt (D 94) hlk (by rw [e424]; exact ⟨rfl, N425, c426, c427, c428⟩) (by decide) (by decide)
  · rw [show r407 = (2 : Int32) from hr]
    refine own_step (g' := (mkF m 100 #[sR ta, sJ ky, .second, sI jd, sI (Int32.ofNat (own_q ky tt)), sI 0, sR li, sI 3, sI 2] [(.int 3), (.int 2), (.ref li), (.int 3), (.ref li)])) (fun _ q => XS.istore X407.here hx rfl (D 44) rfl (l' := #[sR ta, sJ ky, .second, sI jd, sI (Int32.ofNat (own_q ky tt)), sI 0, sR li, sI 3, sI 2]) rfl (XS.iload X407.here hx rfl (D 45) rfl (XS.ifYes X407.here hx rfl (pc0 := 84) (pc' := 88) rfl (D 46) rfl (by decide) (by decide) (by decide) (XS.aload X407.here hx rfl (D 48) rfl rfl (XS.iload X407.here hx rfl (D 49) rfl (XS.iconst X407.here hx rfl (D 50) (XS.iadd X407.here hx rfl (D 51) rfl (XS.aload X407.here hx rfl (D 52) rfl rfl (XS.iload X407.here hx rfl (D 53) rfl (XS.iload X407.here hx rfl (D 54) rfl q)))))))))) ?_
    refine own_step (g' := (mkF m 105 #[sR ta, sJ ky, .second, sI jd, sI (Int32.ofNat (own_q ky tt)), sI 0, sR li, sI 3, sI 2] [(.int 0), (.int 2), (.ref li), (.int 3), (.ref li)])) (fun _ q => XS.iload X407.here hx rfl (D 55) rfl (XS.isub X407.here hx rfl (D 56) rfl (XS.iconst X407.here hx rfl (D 57) (XS.isub X407.here hx rfl (D 58) rfl q)))) ?_
    obtain ⟨T429, h429, L429, X429, e429, N429, K429, A429, st429⟩ := cpA X407 hx hZ hown (w101 hw) (w104 hw) (w102 hw) (w103 hw) e407 V_li V_li (us := ([] : List Value)) (Or.inl ⟨rfl, rfl⟩) (by decide) (by decide) (by decide) (by decide) (by decide) rfl (Nat.le_of_ble_eq_true rfl) N408 ge_li (g := (mkF m 105 #[sR ta, sJ ky, .second, sI jd, sI (Int32.ofNat (own_q ky tt)), sI 0, sR li, sI 3, sI 2] [(.int 0), (.int 2), (.ref li), (.int 3), (.ref li)])) rfl (by rw [hml]; rfl) (rest := []) rfl (D 59) (Nat.le_of_ble_eq_true rfl) (W := 0) (by show 2 * 0 + _ ≤ _; exact Nat.le_of_eq rfl) (by rw [own_nfw]; exact Nat.le_of_ble_eq_true rfl)
    have qV430 : (([(.int y0), (.int y1), (.int y2), (.int y3)].take (2 : Int32).toNatClampNeg ++ ([] : List Value) ++ [(.int y0), (.int y1), (.int y2), (.int y3)].drop ((2 : Int32).toNatClampNeg + (0 : Int32).toNatClampNeg)) : List Value) = [(.int y0), (.int y1), (.int y2), (.int y3)] := rfl
    have V430 : Arv Z h429 li qi .int (4 : Int32) [(.int y0), (.int y1), (.int y2), (.int y3)] (.int (0 : Int32)) := own_fixv qV430 A429
    refine own_step (T' := T429) (g' := (mkF m 108 #[sR ta, sJ ky, .second, sI jd, sI (Int32.ofNat (own_q ky tt)), sI 0, sR li, sI 3, sI 2] [])) st429 ?_
    refine own_step (g' := (mkF m 109 #[sR ta, sJ ky, .second, sI jd, sI (Int32.ofNat (own_q ky tt)), sI 0, sR li, sI 3, sI 2] [(.ref ta)])) (fun _ q => XS.aloadN X429.here hx rfl (D 60) rfl rfl q) ?_
    have c431 := (F_listSizes_ta.keep K429 (ninS ty_ta_li nin0))
    refine own_gF X429 hx hZ hown (w29 hw) e429 c431 rfl rfl (D 61) fun T432 X432 e432 => ?_
    refine own_step (g' := (mkF m 119 #[sR ta, sJ ky, .second, sI jd, sI (Int32.ofNat (own_q ky tt)), sI 0, sR li, sI 2, sI 2] [(.int 2), (.int 0), (.ref sa)])) (fun _ q => XS.iload X432.here hx rfl (D 62) rfl (XS.iinc X432.here hx rfl (D 63) rfl (l' := #[sR ta, sJ ky, .second, sI jd, sI (Int32.ofNat (own_q ky tt)), sI 0, sR li, sI 2, sI 2]) rfl (XS.iload X432.here hx rfl (D 64) rfl q))) ?_
    have c433 := (V_sa.keep K429 (ninS ne_sa_li nin0))
    obtain ⟨T434, h434, X434, e434, W434, V434, st434⟩ := own_stI X432 hx hZ e432 c433 (j := (0 : Int32)) ⟨by decide, by decide⟩ (i := 0) rfl (Nat.le_of_ble_eq_true rfl) (g := (mkF m 119 #[sR ta, sJ ky, .second, sI jd, sI (Int32.ofNat (own_q ky tt)), sI 0, sR li, sI 2, sI 2] [(.int 2), (.int 0), (.ref sa)])) rfl rfl (D 65)
    replace V434 : Arv Z h434 sa qs .int (4 : Int32) [(.int (2 : Int32)), (.int (0 : Int32)), (.int (0 : Int32)), (.int (0 : Int32))] (.int (0 : Int32)) := V434
    have N435 := Fr.snoc X434 N429 ge_sa
    refine own_step (T' := T434) (g' := (mkF m 120 #[sR ta, sJ ky, .second, sI jd, sI (Int32.ofNat (own_q ky tt)), sI 0, sR li, sI 2, sI 2] [])) st434 ?_
    refine own_step (g' := (mkF m 169 #[sR ta, sJ ky, .second, sI jd, sI (Int32.ofNat (own_q ky tt)), sI 0, sR li, sI 2, sI 2] [])) (fun _ q => XS.iload X434.here hx rfl (D 66) rfl (XS.iconst X434.here hx rfl (D 67) (XS.icmpYes X434.here hx rfl (pc0 := 123) (pc' := 169) rfl (D 68) rfl (by decide) (by decide) (by decide) q))) ?_
    have c436 := (((Keep.refl h0 [ta, pa, la, sa, fa, li]).trans K429 (allS (Or.inl (List.mem_of_getElem? (i := 5) rfl)) all0)).wr W434 (Or.inl (List.mem_of_getElem? (i := 3) rfl)))
    have c437 := ((E_ta.keep K429).wr W434)
    have c438 := ((F_used_ta.keep K429 (ninS ty_ta_li nin0)).other W434 (Or.inl ty_ta_sa))
    exact own_retV X434 hx hrt (D 94) hlk (by rw [e434]; exact ⟨rfl, N435, c436, c437, c438⟩) (by decide) (by decide)
  · rw [show r407 = (-1 : Int32) from hr]
    refine own_step (g' := (mkF m 87 #[sR ta, sJ ky, .second, sI jd, sI (Int32.ofNat (own_q ky tt)), sI 0, sR li, sI 3, sI (-1)] [])) (fun _ q => XS.istore X407.here hx rfl (D 44) rfl (l' := #[sR ta, sJ ky, .second, sI jd, sI (Int32.ofNat (own_q ky tt)), sI 0, sR li, sI 3, sI (-1)]) rfl (XS.iload X407.here hx rfl (D 45) rfl (XS.ifNo X407.here hx rfl (D 46) rfl (by decide) q))) ?_
    exact own_retV X407 hx hrt (D 47) hlk (by rw [e407]; exact ⟨rfl, N408, (Keep.refl h0 [ta, pa, la, sa, fa, li]), E_ta, F_used_ta⟩) (by decide) (by decide)
  · rw [show r407 = (-2 : Int32) from hr]
    refine own_step (g' := (mkF m 87 #[sR ta, sJ ky, .second, sI jd, sI (Int32.ofNat (own_q ky tt)), sI 0, sR li, sI 3, sI (-2)] [])) (fun _ q => XS.istore X407.here hx rfl (D 44) rfl (l' := #[sR ta, sJ ky, .second, sI jd, sI (Int32.ofNat (own_q ky tt)), sI 0, sR li, sI 3, sI (-2)]) rfl (XS.iload X407.here hx rfl (D 45) rfl (XS.ifNo X407.here hx rfl (D 46) rfl (by decide) q))) ?_
    exact own_retV X407 hx hrt (D 47) hlk (by rw [e407]; exact ⟨rfl, N408, (Keep.refl h0 [ta, pa, la, sa, fa, li]), E_ta, F_used_ta⟩) (by decide) (by decide)
  · rw [show r407 = (-3 : Int32) from hr]
    refine own_step (g' := (mkF m 87 #[sR ta, sJ ky, .second, sI jd, sI (Int32.ofNat (own_q ky tt)), sI 0, sR li, sI 3, sI (-3)] [])) (fun _ q => XS.istore X407.here hx rfl (D 44) rfl (l' := #[sR ta, sJ ky, .second, sI jd, sI (Int32.ofNat (own_q ky tt)), sI 0, sR li, sI 3, sI (-3)]) rfl (XS.iload X407.here hx rfl (D 45) rfl (XS.ifNo X407.here hx rfl (D 46) rfl (by decide) q))) ?_
    exact own_retV X407 hx hrt (D 47) hlk (by rw [e407]; exact ⟨rfl, N408, (Keep.refl h0 [ta, pa, la, sa, fa, li]), E_ta, F_used_ta⟩) (by decide) (by decide)
  · rw [show r407 = (-4 : Int32) from hr]
    refine own_step (g' := (mkF m 87 #[sR ta, sJ ky, .second, sI jd, sI (Int32.ofNat (own_q ky tt)), sI 0, sR li, sI 3, sI (-4)] [])) (fun _ q => XS.istore X407.here hx rfl (D 44) rfl (l' := #[sR ta, sJ ky, .second, sI jd, sI (Int32.ofNat (own_q ky tt)), sI 0, sR li, sI 3, sI (-4)]) rfl (XS.iload X407.here hx rfl (D 45) rfl (XS.ifNo X407.here hx rfl (D 46) rfl (by decide) q))) ?_
    exact own_retV X407 hx hrt (D 47) hlk (by rw [e407]; exact ⟨rfl, N408, (Keep.refl h0 [ta, pa, la, sa, fa, li]), E_ta, F_used_ta⟩) (by decide) (by decide)
def Q_own_ti (Z : State) (ta : Addr) (h0 : Heap) (n0 : Nat) (v : Option Value) (h : Heap) (L : List Loc) : Prop := ∃ (ka : Addr), ∃ (pa : Addr), ∃ (la : Addr), ∃ (sa : Addr), ∃ (fa : Addr), ∃ (qk : ClassId), ∃ (qp : ClassId), ∃ (ql : ClassId), ∃ (qs : ClassId), ∃ (qf : ClassId), v = none ∧ Fr n0 L ∧ Keep h0 h [ta] ∧ h0.size ≤ ka ∧ h0.size ≤ pa ∧ h0.size ≤ la ∧ h0.size ≤ sa ∧ h0.size ≤ fa ∧ own_Et Z h ta ∧ own_Fk Z h ta (.ref ka) ∧ own_Fp Z h ta (.ref pa) ∧ own_Fu Z h ta (.int (0 : Int32)) ∧ own_Fl Z h ta (.ref la) ∧ own_Fs Z h ta (.ref sa) ∧ own_Ff Z h ta (.ref fa) ∧ own_Fc Z h ta (.int (0 : Int32)) ∧ own_Fn Z h ta (.int (0 : Int32)) ∧ Arv Z h ka qk .long (16 : Int32) ((List.replicate 16 (0 : Int64)).map Value.long) (.long (0 : Int64)) ∧ Arv Z h pa qp .int (16 : Int32) ((List.replicate 16 (0 : Int32)).map Value.int) (.int (0 : Int32)) ∧ Arv Z h la ql (.array .int) (4 : Int32) [.null, .null, .null, .null] .null ∧ Arv Z h sa qs .int (4 : Int32) [(.int (0 : Int32)), (.int (0 : Int32)), (.int (0 : Int32)), (.int (0 : Int32))] (.int (0 : Int32)) ∧ Arv Z h fa qf .int (4 : Int32) [(.int (0 : Int32)), (.int (0 : Int32)), (.int (0 : Int32)), (.int (0 : Int32))] (.int (0 : Int32)) ∧ ¬ pa = sa ∧ ¬ pa = fa ∧ ¬ sa = fa ∧ OvrA Z ql .int "[I"
set_option maxRecDepth 65536 in
set_option maxHeartbeats 40000000 in
theorem own_ti (l : Launch) (Z : State) (a0 : Array Value) (hw : own_HW a0 Z) (ws : List Jvm.Cond) (ta : Addr) (h0 : Heap) (n0 : Nat) (Z0 : n0 ≤ h0.size) (E_ta : own_Et Z h0 ta) (F_keys_ta : own_Fk Z h0 ta .null) (F_places_ta : own_Fp Z h0 ta .null) (F_used_ta : own_Fu Z h0 ta (.int (0 : Int32))) (F_lists_ta : own_Fl Z h0 ta .null) (F_listSizes_ta : own_Fs Z h0 ta .null) (F_freeLists_ta : own_Ff Z h0 ta .null) (F_freeCount_ta : own_Fc Z h0 ta (.int (0 : Int32))) (F_listCount_ta : own_Fn Z h0 ta (.int (0 : Int32))) (ge_ta : n0 ≤ ta) :
    own_Met l Z ⟨"com/example/vaxwire/vaxwire/registry/KeyIndex$Table", "<init>", "()V"⟩ prog_102_method_1_code 1 none ws ⟨1, 5, 44, 12⟩ #[(.ref ta)] h0 (Q_own_ti Z ta h0 n0) := by
  refine own_bodyN (g0 := fun m => mkF m 0 #[sR ta] []) (plainFor_of_name pn_0) (fun _ => rfl) ?_
  intro p e s m below meth c s₁ hx hby hml hrt hlk hown hnm hZ e0 X0
  have D := own_d hby kD3
  refine own_step (g' := (mkF m 1 #[sR ta] [(.ref ta)])) (fun _ q => XS.aloadN X0.here hx rfl (D 0) rfl rfl q) ?_
  obtain ⟨T439, X439, e439, st439⟩ := initO X0 hx hZ hown (w18 hw) (w7 hw) (w8 hw) e0 (g := (mkF m 1 #[sR ta] [(.ref ta)])) rfl (by rw [hml]; rfl) rfl (D 1) (Nat.le_of_ble_eq_true rfl) (W := 0) (by show 2 * 0 + _ ≤ _; exact Nat.le_of_eq rfl) (Nat.le_of_ble_eq_true rfl)
  refine own_step (T' := T439) (g' := (mkF m 4 #[sR ta] [])) st439 ?_
  refine own_step (g' := (mkF m 7 #[sR ta] [(.int 16), (.ref ta)])) (fun _ q => XS.aloadN X439.here hx rfl (D 2) rfl rfl (XS.bipush X439.here hx rfl (D 3) q)) ?_
  obtain ⟨T440, h440, k440, X440, e440, E440, A440, st440⟩ := newP X439 hx hZ (aty := .long) (w19 hw) e439 (g := (mkF m 7 #[sR ta] [(.int 16), (.ref ta)])) rfl (D 4) rfl (by decide) (cap := 16) (by decide) (by first | decide | omega) (by decide) (by decide)
  obtain ⟨b440, g440⟩ : ∃ z, z = h0.size := ⟨_, rfl⟩
  rw [← g440] at A440 st440
  have n0_441 : n0 ≤ b440 := Nat.le_trans Z0 (Nat.le_of_eq g440.symm)
  have sz0_442 := Nat.le_trans (Keep.refl h0 [ta]).1 (Nat.le_of_eq g440.symm)
  have ne443 : ta ≠ b440 := own_ne E_ta.lt (Nat.le_of_eq g440.symm)
  have V440 : Arv Z h440 b440 k440 .long (16 : Int32) [(.long (0 : Int64)), (.long (0 : Int64)), (.long (0 : Int64)), (.long (0 : Int64)), (.long (0 : Int64)), (.long (0 : Int64)), (.long (0 : Int64)), (.long (0 : Int64)), (.long (0 : Int64)), (.long (0 : Int64)), (.long (0 : Int64)), (.long (0 : Int64)), (.long (0 : Int64)), (.long (0 : Int64)), (.long (0 : Int64)), (.long (0 : Int64))] (.long (0 : Int64)) := (Arv.new A440 (by decide)).pad (pad_rep [] (.long (0 : Int64)) 16)
  have ltb440 := V440.lt
  refine own_step (T' := T440) (g' := (mkF m 9 #[sR ta] [(.ref b440), (.ref ta)])) st440 ?_
  have c444 := (E_ta.ext E440)
  have c445 := (F_keys_ta.ext E440)
  refine own_pF X440 hx hZ hown (w20 hw) e440 c445 c444 (Or.inl (w21 hw)) (w13 hw) (ty := (.array .long)) (by decide) rfl rfl rfl rfl (D 5) fun T446 h446 X446 e446 W446 F447 => ?_
  have N448 := Fr.snoc X446 (Fr.nil n0) ge_ta
  refine own_step (g' := (mkF m 15 #[sR ta] [(.int 16), (.ref ta)])) (fun _ q => XS.aloadN X446.here hx rfl (D 6) rfl rfl (XS.bipush X446.here hx rfl (D 7) q)) ?_
  obtain ⟨T449, h449, k449, X449, e449, E449, A449, st449⟩ := newP X446 hx hZ (aty := .int) (w22 hw) e446 (g := (mkF m 15 #[sR ta] [(.int 16), (.ref ta)])) rfl (D 8) rfl (by decide) (cap := 16) (by decide) (by first | decide | omega) (by decide) (by decide)
  obtain ⟨b449, g449⟩ : ∃ z, z = h446.size := ⟨_, rfl⟩
  rw [← g449] at A449 st449
  have c450 := (Nat.le_trans (Nat.le_trans Z0 E440.1) (Keep.of_wr W446).1)
  have n0_451 : n0 ≤ b449 := Nat.le_trans c450 (Nat.le_of_eq g449.symm)
  have c452 := (((Keep.refl h0 [ta]).ext E440).wr W446 (Or.inl (List.mem_of_getElem? (i := 0) rfl)))
  have sz0_453 := Nat.le_trans c452.1 (Nat.le_of_eq g449.symm)
  have c454 := (own_lt (own_lt E_ta.lt E440.1) (Keep.of_wr W446).1)
  have ne455 : ta ≠ b449 := own_ne c454 (Nat.le_of_eq g449.symm)
  have c456 := (own_lt ltb440 (Keep.of_wr W446).1)
  have ne457 : b440 ≠ b449 := own_ne c456 (Nat.le_of_eq g449.symm)
  have V449 : Arv Z h449 b449 k449 .int (16 : Int32) [(.int (0 : Int32)), (.int (0 : Int32)), (.int (0 : Int32)), (.int (0 : Int32)), (.int (0 : Int32)), (.int (0 : Int32)), (.int (0 : Int32)), (.int (0 : Int32)), (.int (0 : Int32)), (.int (0 : Int32)), (.int (0 : Int32)), (.int (0 : Int32)), (.int (0 : Int32)), (.int (0 : Int32)), (.int (0 : Int32)), (.int (0 : Int32))] (.int (0 : Int32)) := (Arv.new A449 (by decide)).pad (pad_rep [] (.int (0 : Int32)) 16)
  have ltb449 := V449.lt
  refine own_step (T' := T449) (g' := (mkF m 17 #[sR ta] [(.ref b449), (.ref ta)])) st449 ?_
  have c458 := ((c444.wr W446).ext E449)
  have c459 := (((F_places_ta.ext E440).other W446 (Or.inr (RoadKit.slot_ne (t := (.array .int)) (t' := (.array .long)) (Or.inl (w24 hw)) (Or.inl (w21 hw)) (by decide) (by decide) (by decide)))).ext E449)
  refine own_pF X449 hx hZ hown (w23 hw) e449 c459 c458 (Or.inl (w24 hw)) (w13 hw) (ty := (.array .int)) (by decide) rfl rfl rfl rfl (D 9) fun T460 h460 X460 e460 W460 F461 => ?_
  have N462 := Fr.snoc X460 N448 ge_ta
  refine own_step (g' := (mkF m 22 #[sR ta] [(.int 4), (.ref ta)])) (fun _ q => XS.aloadN X460.here hx rfl (D 10) rfl rfl (XS.iconst X460.here hx rfl (D 11) q)) ?_
  obtain ⟨T463, h463, k463, X463, e463, E463, A463, -, O463, st463⟩ := newRA X460 hx hZ hown (ty := .int) (C := "[I") (by decide) (w25 hw) (w26 hw) e460 (g := (mkF m 22 #[sR ta] [(.int 4), (.ref ta)])) rfl (D 12) rfl (by decide) (cap := 4) (by decide) (by first | decide | omega) (by decide) (by decide) (ad := "[[I") rfl
  obtain ⟨b463, g463⟩ : ∃ z, z = h460.size := ⟨_, rfl⟩
  rw [← g463] at A463 st463
  have c464 := (Nat.le_trans (Nat.le_trans c450 E449.1) (Keep.of_wr W460).1)
  have n0_465 : n0 ≤ b463 := Nat.le_trans c464 (Nat.le_of_eq g463.symm)
  have c466 := ((c452.ext E449).wr W460 (Or.inl (List.mem_of_getElem? (i := 0) rfl)))
  have sz0_467 := Nat.le_trans c466.1 (Nat.le_of_eq g463.symm)
  have c468 := (own_lt (own_lt c454 E449.1) (Keep.of_wr W460).1)
  have ne469 : ta ≠ b463 := own_ne c468 (Nat.le_of_eq g463.symm)
  have c470 := (own_lt (own_lt c456 E449.1) (Keep.of_wr W460).1)
  have ne471 : b440 ≠ b463 := own_ne c470 (Nat.le_of_eq g463.symm)
  have c472 := (own_lt ltb449 (Keep.of_wr W460).1)
  have ne473 : b449 ≠ b463 := own_ne c472 (Nat.le_of_eq g463.symm)
  have V463 : Arv Z h463 b463 k463 (.array .int) (4 : Int32) [.null, .null, .null, .null] .null := (Arv.new A463 (by decide)).pad (pad_rep [] .null 4)
  have ltb463 := V463.lt
  refine own_step (T' := T463) (g' := (mkF m 25 #[sR ta] [(.ref b463), (.ref ta)])) st463 ?_
  have c474 := ((c458.wr W460).ext E463)
  have c475 := (((((F_lists_ta.ext E440).other W446 (Or.inr (RoadKit.slot_ne (t := (.array (.array .int))) (t' := (.array .long)) (Or.inl (w28 hw)) (Or.inl (w21 hw)) (by decide) (by decide) (by decide)))).ext E449).other W460 (Or.inr (RoadKit.slot_ne (t := (.array (.array .int))) (t' := (.array .int)) (Or.inl (w28 hw)) (Or.inl (w24 hw)) (by decide) (by decide) (by decide)))).ext E463)
  refine own_pF X463 hx hZ hown (w27 hw) e463 c475 c474 (Or.inl (w28 hw)) (w13 hw) (ty := (.array (.array .int))) (by decide) rfl rfl rfl rfl (D 13) fun T476 h476 X476 e476 W476 F477 => ?_
  have N478 := Fr.snoc X476 N462 ge_ta
  refine own_step (g' := (mkF m 30 #[sR ta] [(.int 4), (.ref ta)])) (fun _ q => XS.aloadN X476.here hx rfl (D 14) rfl rfl (XS.iconst X476.here hx rfl (D 15) q)) ?_
  obtain ⟨T479, h479, k479, X479, e479, E479, A479, st479⟩ := newP X476 hx hZ (aty := .int) (w22 hw) e476 (g := (mkF m 30 #[sR ta] [(.int 4), (.ref ta)])) rfl (D 16) rfl (by decide) (cap := 4) (by decide) (by first | decide | omega) (by decide) (by decide)
  obtain ⟨b479, g479⟩ : ∃ z, z = h476.size := ⟨_, rfl⟩
  rw [← g479] at A479 st479
  have c480 := (Nat.le_trans (Nat.le_trans c464 E463.1) (Keep.of_wr W476).1)
  have n0_481 : n0 ≤ b479 := Nat.le_trans c480 (Nat.le_of_eq g479.symm)
  have c482 := ((c466.ext E463).wr W476 (Or.inl (List.mem_of_getElem? (i := 0) rfl)))
  have sz0_483 := Nat.le_trans c482.1 (Nat.le_of_eq g479.symm)
  have c484 := (own_lt (own_lt c468 E463.1) (Keep.of_wr W476).1)
  have ne485 : ta ≠ b479 := own_ne c484 (Nat.le_of_eq g479.symm)
  have c486 := (own_lt (own_lt c470 E463.1) (Keep.of_wr W476).1)
  have ne487 : b440 ≠ b479 := own_ne c486 (Nat.le_of_eq g479.symm)
  have c488 := (own_lt (own_lt c472 E463.1) (Keep.of_wr W476).1)
  have ne489 : b449 ≠ b479 := own_ne c488 (Nat.le_of_eq g479.symm)
  have c490 := (own_lt ltb463 (Keep.of_wr W476).1)
  have ne491 : b463 ≠ b479 := own_ne c490 (Nat.le_of_eq g479.symm)
  have V479 : Arv Z h479 b479 k479 .int (4 : Int32) [(.int (0 : Int32)), (.int (0 : Int32)), (.int (0 : Int32)), (.int (0 : Int32))] (.int (0 : Int32)) := (Arv.new A479 (by decide)).pad (pad_rep [] (.int (0 : Int32)) 4)
  have ltb479 := V479.lt
  refine own_step (T' := T479) (g' := (mkF m 32 #[sR ta] [(.ref b479), (.ref ta)])) st479 ?_
  have c492 := ((c474.wr W476).ext E479)
  have c493 := (((((((F_listSizes_ta.ext E440).other W446 (Or.inr (RoadKit.slot_ne (t := (.array .int)) (t' := (.array .long)) (Or.inl (w30 hw)) (Or.inl (w21 hw)) (by decide) (by decide) (by decide)))).ext E449).other W460 (Or.inr (RoadKit.slot_ne (t := (.array .int)) (t' := (.array .int)) (Or.inl (w30 hw)) (Or.inl (w24 hw)) (by decide) (by decide) (by decide)))).ext E463).other W476 (Or.inr (RoadKit.slot_ne (t := (.array .int)) (t' := (.array (.array .int))) (Or.inl (w30 hw)) (Or.inl (w28 hw)) (by decide) (by decide) (by decide)))).ext E479)
  refine own_pF X479 hx hZ hown (w29 hw) e479 c493 c492 (Or.inl (w30 hw)) (w13 hw) (ty := (.array .int)) (by decide) rfl rfl rfl rfl (D 17) fun T494 h494 X494 e494 W494 F495 => ?_
  have N496 := Fr.snoc X494 N478 ge_ta
  refine own_step (g' := (mkF m 37 #[sR ta] [(.int 4), (.ref ta)])) (fun _ q => XS.aloadN X494.here hx rfl (D 18) rfl rfl (XS.iconst X494.here hx rfl (D 19) q)) ?_
  obtain ⟨T497, h497, k497, X497, e497, E497, A497, st497⟩ := newP X494 hx hZ (aty := .int) (w22 hw) e494 (g := (mkF m 37 #[sR ta] [(.int 4), (.ref ta)])) rfl (D 20) rfl (by decide) (cap := 4) (by decide) (by first | decide | omega) (by decide) (by decide)
  obtain ⟨b497, g497⟩ : ∃ z, z = h494.size := ⟨_, rfl⟩
  rw [← g497] at A497 st497
  have c498 := (Nat.le_trans (Nat.le_trans c480 E479.1) (Keep.of_wr W494).1)
  have n0_499 : n0 ≤ b497 := Nat.le_trans c498 (Nat.le_of_eq g497.symm)
  have c500 := ((c482.ext E479).wr W494 (Or.inl (List.mem_of_getElem? (i := 0) rfl)))
  have sz0_501 := Nat.le_trans c500.1 (Nat.le_of_eq g497.symm)
  have c502 := (own_lt (own_lt c484 E479.1) (Keep.of_wr W494).1)
  have ne503 : ta ≠ b497 := own_ne c502 (Nat.le_of_eq g497.symm)
  have c504 := (own_lt (own_lt c486 E479.1) (Keep.of_wr W494).1)
  have ne505 : b440 ≠ b497 := own_ne c504 (Nat.le_of_eq g497.symm)
  have c506 := (own_lt (own_lt c488 E479.1) (Keep.of_wr W494).1)
  have ne507 : b449 ≠ b497 := own_ne c506 (Nat.le_of_eq g497.symm)
  have c508 := (own_lt (own_lt c490 E479.1) (Keep.of_wr W494).1)
  have ne509 : b463 ≠ b497 := own_ne c508 (Nat.le_of_eq g497.symm)
  have c510 := (own_lt ltb479 (Keep.of_wr W494).1)
  have ne511 : b479 ≠ b497 := own_ne c510 (Nat.le_of_eq g497.symm)
  have V497 : Arv Z h497 b497 k497 .int (4 : Int32) [(.int (0 : Int32)), (.int (0 : Int32)), (.int (0 : Int32)), (.int (0 : Int32))] (.int (0 : Int32)) := (Arv.new A497 (by decide)).pad (pad_rep [] (.int (0 : Int32)) 4)
  have ltb497 := V497.lt
  refine own_step (T' := T497) (g' := (mkF m 39 #[sR ta] [(.ref b497), (.ref ta)])) st497 ?_
  have c512 := ((c492.wr W494).ext E497)
  have c513 := (((((((((F_freeLists_ta.ext E440).other W446 (Or.inr (RoadKit.slot_ne (t := (.array .int)) (t' := (.array .long)) (Or.inl (w32 hw)) (Or.inl (w21 hw)) (by decide) (by decide) (by decide)))).ext E449).other W460 (Or.inr (RoadKit.slot_ne (t := (.array .int)) (t' := (.array .int)) (Or.inl (w32 hw)) (Or.inl (w24 hw)) (by decide) (by decide) (by decide)))).ext E463).other W476 (Or.inr (RoadKit.slot_ne (t := (.array .int)) (t' := (.array (.array .int))) (Or.inl (w32 hw)) (Or.inl (w28 hw)) (by decide) (by decide) (by decide)))).ext E479).other W494 (Or.inr (RoadKit.slot_ne (t := (.array .int)) (t' := (.array .int)) (Or.inl (w32 hw)) (Or.inl (w30 hw)) (by decide) (by decide) (by decide)))).ext E497)
  refine own_pF X497 hx hZ hown (w31 hw) e497 c513 c512 (Or.inl (w32 hw)) (w13 hw) (ty := (.array .int)) (by decide) rfl rfl rfl rfl (D 21) fun T514 h514 X514 e514 W514 F515 => ?_
  have N516 := Fr.snoc X514 N496 ge_ta
  have c517 := ((c500.ext E497).wr W514 (Or.inl (List.mem_of_getElem? (i := 0) rfl)))
  have c518 := (c512.wr W514)
  have c519 := ((((((((F447.ext E449).other W460 (Or.inr (RoadKit.slot_ne (t := (.array .long)) (t' := (.array .int)) (Or.inl (w21 hw)) (Or.inl (w24 hw)) (by decide) (by decide) (by decide)))).ext E463).other W476 (Or.inr (RoadKit.slot_ne (t := (.array .long)) (t' := (.array (.array .int))) (Or.inl (w21 hw)) (Or.inl (w28 hw)) (by decide) (by decide) (by decide)))).ext E479).other W494 (Or.inr (RoadKit.slot_ne (t := (.array .long)) (t' := (.array .int)) (Or.inl (w21 hw)) (Or.inl (w30 hw)) (by decide) (by decide) (by decide)))).ext E497).other W514 (Or.inr (RoadKit.slot_ne (t := (.array .long)) (t' := (.array .int)) (Or.inl (w21 hw)) (Or.inl (w32 hw)) (by decide) (by decide) (by decide))))
  have c520 := ((((((F461.ext E463).other W476 (Or.inr (RoadKit.slot_ne (t := (.array .int)) (t' := (.array (.array .int))) (Or.inl (w24 hw)) (Or.inl (w28 hw)) (by decide) (by decide) (by decide)))).ext E479).other W494 (Or.inr (RoadKit.slot_ne (t := (.array .int)) (t' := (.array .int)) (Or.inl (w24 hw)) (Or.inl (w30 hw)) (by decide) (by decide) (by decide)))).ext E497).other W514 (Or.inr (RoadKit.slot_ne (t := (.array .int)) (t' := (.array .int)) (Or.inl (w24 hw)) (Or.inl (w32 hw)) (by decide) (by decide) (by decide))))
  have c521 := ((((((((((F_used_ta.ext E440).other W446 (Or.inr (RoadKit.slot_ne (t := .int) (t' := (.array .long)) (Or.inl (w40 hw)) (Or.inl (w21 hw)) (by decide) (by decide) (by decide)))).ext E449).other W460 (Or.inr (RoadKit.slot_ne (t := .int) (t' := (.array .int)) (Or.inl (w40 hw)) (Or.inl (w24 hw)) (by decide) (by decide) (by decide)))).ext E463).other W476 (Or.inr (RoadKit.slot_ne (t := .int) (t' := (.array (.array .int))) (Or.inl (w40 hw)) (Or.inl (w28 hw)) (by decide) (by decide) (by decide)))).ext E479).other W494 (Or.inr (RoadKit.slot_ne (t := .int) (t' := (.array .int)) (Or.inl (w40 hw)) (Or.inl (w30 hw)) (by decide) (by decide) (by decide)))).ext E497).other W514 (Or.inr (RoadKit.slot_ne (t := .int) (t' := (.array .int)) (Or.inl (w40 hw)) (Or.inl (w32 hw)) (by decide) (by decide) (by decide))))
  have c522 := ((((F477.ext E479).other W494 (Or.inr (RoadKit.slot_ne (t := (.array (.array .int))) (t' := (.array .int)) (Or.inl (w28 hw)) (Or.inl (w30 hw)) (by decide) (by decide) (by decide)))).ext E497).other W514 (Or.inr (RoadKit.slot_ne (t := (.array (.array .int))) (t' := (.array .int)) (Or.inl (w28 hw)) (Or.inl (w32 hw)) (by decide) (by decide) (by decide))))
  have c523 := ((F495.ext E497).other W514 (Or.inr (RoadKit.slot_ne (t := (.array .int)) (t' := (.array .int)) (Or.inl (w30 hw)) (Or.inl (w32 hw)) (by decide) (by decide) (by decide))))
  have c524 := ((((((((((F_freeCount_ta.ext E440).other W446 (Or.inr (RoadKit.slot_ne (t := .int) (t' := (.array .long)) (Or.inl (w72 hw)) (Or.inl (w21 hw)) (by decide) (by decide) (by decide)))).ext E449).other W460 (Or.inr (RoadKit.slot_ne (t := .int) (t' := (.array .int)) (Or.inl (w72 hw)) (Or.inl (w24 hw)) (by decide) (by decide) (by decide)))).ext E463).other W476 (Or.inr (RoadKit.slot_ne (t := .int) (t' := (.array (.array .int))) (Or.inl (w72 hw)) (Or.inl (w28 hw)) (by decide) (by decide) (by decide)))).ext E479).other W494 (Or.inr (RoadKit.slot_ne (t := .int) (t' := (.array .int)) (Or.inl (w72 hw)) (Or.inl (w30 hw)) (by decide) (by decide) (by decide)))).ext E497).other W514 (Or.inr (RoadKit.slot_ne (t := .int) (t' := (.array .int)) (Or.inl (w72 hw)) (Or.inl (w32 hw)) (by decide) (by decide) (by decide))))
  have c525 := ((((((((((F_listCount_ta.ext E440).other W446 (Or.inr (RoadKit.slot_ne (t := .int) (t' := (.array .long)) (Or.inl (w74 hw)) (Or.inl (w21 hw)) (by decide) (by decide) (by decide)))).ext E449).other W460 (Or.inr (RoadKit.slot_ne (t := .int) (t' := (.array .int)) (Or.inl (w74 hw)) (Or.inl (w24 hw)) (by decide) (by decide) (by decide)))).ext E463).other W476 (Or.inr (RoadKit.slot_ne (t := .int) (t' := (.array (.array .int))) (Or.inl (w74 hw)) (Or.inl (w28 hw)) (by decide) (by decide) (by decide)))).ext E479).other W494 (Or.inr (RoadKit.slot_ne (t := .int) (t' := (.array .int)) (Or.inl (w74 hw)) (Or.inl (w30 hw)) (by decide) (by decide) (by decide)))).ext E497).other W514 (Or.inr (RoadKit.slot_ne (t := .int) (t' := (.array .int)) (Or.inl (w74 hw)) (Or.inl (w32 hw)) (by decide) (by decide) (by decide))))
  have c526 := (((((((((V440.other W446 (Ne.symm ne443)).ext E449).other W460 (Ne.symm ne443)).ext E463).other W476 (Ne.symm ne443)).ext E479).other W494 (Ne.symm ne443)).ext E497).other W514 (Ne.symm ne443))
  have c527 := (((((((V449.other W460 (Ne.symm ne455)).ext E463).other W476 (Ne.symm ne455)).ext E479).other W494 (Ne.symm ne455)).ext E497).other W514 (Ne.symm ne455))
  have c528 := (((((V463.other W476 (Ne.symm ne469)).ext E479).other W494 (Ne.symm ne469)).ext E497).other W514 (Ne.symm ne469))
  have c529 := (((V479.other W494 (Ne.symm ne485)).ext E497).other W514 (Ne.symm ne485))
  have c530 := (V497.other W514 (Ne.symm ne503))
  exact own_retV X514 hx hrt (D 22) hlk (by rw [e514]; exact ⟨b440, b449, b463, b479, b497, k440, k449, k463, k479, k497, rfl, N516, c517, sz0_442, sz0_453, sz0_467, sz0_483, sz0_501, c518, c519, c520, c521, c522, c523, F515, c524, c525, c526, c527, c528, c529, c530, ne489, ne507, ne511, O463⟩) (by decide) (by decide)
theorem pn_2 : plainName "com/example/vaxwire/vaxwire/registry/KeyIndex" = true := by first | (simp [plainName, overriddenIn]; done) | decide +kernel
def Q_own_tab (Z : State) (ki tA : Addr) (qT : ClassId) (fT : Nat → Addr) (ky : Int64) (h0 : Heap) (n0 : Nat) (v : Option Value) (h : Heap) (L : List Loc) : Prop := v = some (.ref (fT (own_j ky))) ∧ Fr n0 L ∧ h = h0
set_option maxRecDepth 65536 in
set_option maxHeartbeats 40000000 in
theorem own_tab (l : Launch) (Z : State) (a0 : Array Value) (hw : own_HW a0 Z) (ws : List Jvm.Cond) (ki tA : Addr) (qT : ClassId) (fT : Nat → Addr) (ky : Int64) (h0 : Heap) (n0 : Nat) (Z0 : n0 ≤ h0.size) (E_ki : own_Ek Z h0 ki) (F_tables_ki : own_Ft Z h0 ki (.ref tA)) (V_tA : Arv Z h0 tA qT (.object "com/example/vaxwire/vaxwire/registry/KeyIndex$Table") (64 : Int32) (own_tl fT 64) .null) :
    own_Met l Z ⟨"com/example/vaxwire/vaxwire/registry/KeyIndex", "table", "(J)Lcom/example/vaxwire/vaxwire/registry/KeyIndex$Table;"⟩ prog_100_method_8_code 3 (some (.object "com/example/vaxwire/vaxwire/registry/KeyIndex$Table")) ws ⟨0, 0, 0, 0⟩ #[(.ref ki), (.long ky)] h0 (Q_own_tab Z ki tA qT fT ky h0 n0) := by
  refine own_bodyN (g0 := fun m => mkF m 0 #[sR ki, sJ ky, .second] []) (plainFor_of_name pn_2) (fun _ => rfl) ?_
  intro p e s m below meth c s₁ hx hby hml hrt hlk hown hnm hZ e0 X0
  have D := own_d hby kD6
  have ty_ki_tA : ki ≠ tA := (Exa.neArv E_ki V_tA (w1 hw))
  refine own_step (g' := (mkF m 1 #[sR ki, sJ ky, .second] [(.ref ki)])) (fun _ q => XS.aloadN X0.here hx rfl (D 0) rfl rfl q) ?_
  refine own_gF X0 hx hZ hown (w11 hw) e0 F_tables_ki rfl rfl (D 1) fun T531 X531 e531 => ?_
  refine own_step (g' := (mkF m 10 #[sR ki, sJ ky, .second] [(.ref (fT (own_j ky)))])) (fun _ q => XT.lloadN X531.here hx rfl (D 2) rfl (XS.bipush X531.here hx rfl (D 3) (XT.lushr X531.here hx rfl (D 4) rfl (XT.l2i X531.here hx rfl (D 5) rfl (own_ldA X531 hx hZ e531 V_tA rfl (j := ((XT.ushrL ky (58 : Int32)).toInt32)) (own_j64 ky) (v := (.ref (fT (own_j ky)))) (own_tlD (own_jlt ky) (own_jlt ky)) (g := (mkF m 9 #[sR ki, sJ ky, .second] [(.int ((XT.ushrL ky (58 : Int32)).toInt32)), (.ref tA)])) rfl rfl (D 6) _ q))))) ?_
  exact own_retA X531 hx hrt rfl rfl (D 7) hlk ⟨rfl, (Fr.nil n0), e531⟩ (by decide) (by decide)
def Q_own_keys (Z : State) (ki : Addr) (uF : Nat → Nat) (h0 : Heap) (n0 : Nat) (v : Option Value) (h : Heap) (L : List Loc) : Prop := v = some (.long (own_sj uF 64)) ∧ Fr n0 L ∧ h = h0
set_option maxRecDepth 65536 in
set_option maxHeartbeats 40000000 in
theorem own_keys (l : Launch) (Z : State) (a0 : Array Value) (hw : own_HW a0 Z) (ws : List Jvm.Cond) (ki : Addr) (uF : Nat → Nat) (h0 : Heap) (n0 : Nat) (Z0 : n0 ≤ h0.size) (x_HK : own_HK Z h0 ki uF) :
    own_Met l Z ⟨"com/example/vaxwire/vaxwire/registry/KeyIndex", "keys", "()J"⟩ prog_100_method_6_code 7 (some .long) ws ⟨0, 0, 0, 0⟩ #[(.ref ki)] h0 (Q_own_keys Z ki uF h0 n0) := by
  refine own_bodyN (g0 := fun m => mkF m 0 #[sR ki, .unset, .unset, .unset, .unset, .unset, .unset] []) (plainFor_of_name pn_2) (fun _ => rfl) ?_
  intro p e s m below meth c s₁ hx hby hml hrt hlk hown hnm hZ e0 X0
  have D := own_d hby kD4
  obtain ⟨tA, qT, fT, hE, hF, hV, hU⟩ := x_HK
  refine own_step (g' := (mkF m 3 #[sR ki, sJ 0, .second, .unset, .unset, .unset, .unset] [(.ref ki)])) (fun _ q => XT.lconst X0.here hx rfl (D 0) (XT.lstoreN X0.here hx rfl (D 1) rfl (l' := #[sR ki, sJ 0, .second, .unset, .unset, .unset, .unset]) rfl (XS.aloadN X0.here hx rfl (D 2) rfl rfl q))) ?_
  refine own_gF X0 hx hZ hown (w11 hw) e0 hF rfl rfl (D 3) fun T532 X532 e532 => ?_
  refine own_step (g' := (mkF m 14 #[sR ki, sJ 0, .second, sR tA, sI 64, sI 0, .unset] [])) (fun _ q => XS.astoreN X532.here hx rfl (D 4) rfl rfl (l' := #[sR ki, sJ 0, .second, sR tA, .unset, .unset, .unset]) rfl (XS.aloadN X532.here hx rfl (D 5) rfl rfl (own_len X532 hx hZ e532 hV (g := (mkF m 8 #[sR ki, sJ 0, .second, sR tA, .unset, .unset, .unset] [(.ref tA)])) rfl rfl (D 6) _ (XS.istore X532.here hx rfl (D 7) rfl (l' := #[sR ki, sJ 0, .second, sR tA, sI 64, .unset, .unset]) rfl (XS.iconst X532.here hx rfl (D 8) (XS.istore X532.here hx rfl (D 9) rfl (l' := #[sR ki, sJ 0, .second, sR tA, sI 64, sI 0, .unset]) rfl q)))))) ?_
  have lp_ks : ∀ (k_ks : Nat) (i : Nat) (s6 : Slot) (T_ks : State) (h_ks : Heap) (L_ks : List Loc) (X_ks : Stand p l e (⟨0, 0, 0, 0⟩ : Room) s m #[(.ref ki)] below meth c T_ks L_ks 0 0) (e_ks : T_ks.heap = h_ks) (N_ks : Fr n0 L_ks) (KL_ks : Keep h0 h_ks [])  (hqh : h_ks = h0) (hi : i ≤ 64) (hs6 : s6 = .unset ∨ ∃ w, s6 = .val w ∧ w.category = 1) (hk_ks : 64 - i = k_ks), own_Fin p e below (own_G s (Q_own_keys Z ki uF h0 n0) (⟨0, 0, 0, 0⟩ : Room).cells (⟨0, 0, 0, 0⟩ : Room).slots) T_ks (mkF m 14 #[sR ki, sJ (own_sj uF i), .second, sR tA, sI 64, sI (Int32.ofNat i), s6] []) := by
    intro k_ks
    induction k_ks using Nat.strongRecOn with | _ k_ks ih_ks => ?_
    intro i s6 T_ks h_ks L_ks X_ks e_ks N_ks KL_ks  hqh hi hs6 hk_ks
    subst hk_ks
    rcases Nat.lt_or_eq_of_le hi with hin | hit
    · refine own_step (g' := (mkF m 18 #[sR ki, sJ (own_sj uF i), .second, sR tA, sI 64, sI (Int32.ofNat i), s6] [(.int 64), (.int (Int32.ofNat i))])) (fun _ q => XS.iload X_ks.here hx rfl (D 10) rfl (XS.iload X_ks.here hx rfl (D 11) rfl q)) ?_
      have hc533 : ((Int32.ofNat i) < (64 : Int32)) := (own_in64 hin).2
      refine own_step (g' := (mkF m 24 #[sR ki, sJ (own_sj uF i), .second, sR tA, sI 64, sI (Int32.ofNat i), s6] [(.int (Int32.ofNat i)), (.ref tA)])) (fun _ q => XS.icmpNo X_ks.here hx rfl (D 12) rfl (XT.ii_ge_f hc533) (XS.aloadN X_ks.here hx rfl (D 13) rfl rfl (XS.iload X_ks.here hx rfl (D 14) rfl q))) ?_
      have c534 := (hV.keep KL_ks nin0)
      refine own_step (g' := (mkF m 27 #[sR ki, sJ (own_sj uF i), .second, sR tA, sI 64, sI (Int32.ofNat i), sR (fT i)] [])) (fun _ q => own_ldA X_ks hx hZ e_ks c534 rfl (j := (Int32.ofNat i)) (own_in64 hin) (v := (.ref (fT i))) (by rw [own_nat (by omega)]; exact own_tlD hin hin) (g := (mkF m 24 #[sR ki, sJ (own_sj uF i), .second, sR tA, sI 64, sI (Int32.ofNat i), s6] [(.int (Int32.ofNat i)), (.ref tA)])) rfl rfl (D 15) _ (XS.astoreS X_ks.here hx rfl (D 16) rfl rfl rfl rfl hs6 q)) ?_
      have c535 := (own_HU.keep hU KL_ks)
      obtain ⟨Euu536, Fuu536⟩ := c535 i hin
      refine own_step (g' := (mkF m 30 #[sR ki, sJ (own_sj uF i), .second, sR tA, sI 64, sI (Int32.ofNat i), sR (fT i)] [(.ref (fT i)), (.long (own_sj uF i))])) (fun _ q => XT.lloadN X_ks.here hx rfl (D 17) rfl (XS.aload X_ks.here hx rfl (D 18) rfl rfl q)) ?_
      refine own_getR X_ks hx hZ hown (w39 hw) e_ks Fuu536 rfl rfl (D 19) ?_
      refine own_step (g' := (mkF m 35 #[sR ki, sJ (own_sj uF i), .second, sR tA, sI 64, sI (Int32.ofNat i), sR (fT i)] [(.long ((own_sj uF i) + ((Int32.ofNat (uF i)).toInt64)))])) (fun _ q => XT.i2l X_ks.here hx rfl (D 20) rfl (XT.ladd X_ks.here hx rfl (D 21) rfl q)) ?_
      rw [show ((own_sj uF i) + ((Int32.ofNat (uF i)).toInt64)) = (own_sj uF (i + 1)) from rfl]
      refine own_step (g' := (mkF m 39 #[sR ki, sJ (own_sj uF (i + 1)), .second, sR tA, sI 64, sI ((Int32.ofNat i) + (1 : Int32)), sR (fT i)] [])) (fun _ q => XT.lstoreN X_ks.here hx rfl (D 22) rfl (l' := #[sR ki, sJ (own_sj uF (i + 1)), .second, sR tA, sI 64, sI (Int32.ofNat i), sR (fT i)]) rfl (XS.iinc X_ks.here hx rfl (D 23) rfl (l' := #[sR ki, sJ (own_sj uF (i + 1)), .second, sR tA, sI 64, sI ((Int32.ofNat i) + (1 : Int32)), sR (fT i)]) rfl q)) ?_
      rw [show ((Int32.ofNat i) + (1 : Int32)) = (Int32.ofNat (i + 1)) from (own_inc _)]
      refine own_step (g' := (mkF m 14 #[sR ki, sJ (own_sj uF (i + 1)), .second, sR tA, sI 64, sI (Int32.ofNat (i + 1)), sR (fT i)] [])) (fun _ q => XS.goto X_ks.here hx rfl (pc0 := 39) (pc' := 14) rfl (D 24) (by decide) (by decide) q) ?_
      exact ih_ks _ (by omega) (i + 1) (.val (.ref (fT i))) T_ks h_ks _ X_ks e_ks N_ks KL_ks  (hqh) (by omega) (Or.inr ⟨_, rfl, rfl⟩) rfl
    · refine own_step (g' := (mkF m 18 #[sR ki, sJ (own_sj uF i), .second, sR tA, sI 64, sI (Int32.ofNat i), s6] [(.int 64), (.int (Int32.ofNat i))])) (fun _ q => XS.iload X_ks.here hx rfl (D 10) rfl (XS.iload X_ks.here hx rfl (D 11) rfl q)) ?_
      have hc537 : ¬ ((Int32.ofNat i) < (64 : Int32)) := (by rw [hit]; decide)
      refine own_step (g' := (mkF m 43 #[sR ki, sJ (own_sj uF i), .second, sR tA, sI 64, sI (Int32.ofNat i), s6] [(.long (own_sj uF i))])) (fun _ q => XS.icmpYes X_ks.here hx rfl (pc0 := 18) (pc' := 42) rfl (D 12) rfl (XT.ii_ge_t hc537) (by decide) (by decide) (XT.lloadN X_ks.here hx rfl (D 25) rfl q)) ?_
      exact own_retL X_ks hx hrt (D 26) hlk ⟨(by rw [hit]), N_ks, (e_ks.trans hqh)⟩ (by decide) (by decide)
  exact lp_ks _ (0) (.unset) T532 h0 _ X532 e532 (Fr.nil n0) (Keep.refl h0 [])  (rfl) (Nat.zero_le _) (Or.inl rfl) rfl
theorem pd_7 : parseMethodDescriptor "()V" = some ⟨[], none⟩ := by decide +kernel
def Q_own_ki (Z : State) (ki : Addr) (h0 : Heap) (n0 : Nat) (v : Option Value) (h : Heap) (L : List Loc) : Prop := v = none ∧ Fr n0 L ∧ h0.size ≤ h.size ∧ own_Ek Z h ki ∧ own_H Z h n0 ki (fun _ => List.replicate 16 0) (fun _ => List.replicate 16 0) (fun _ => 0) 64 0
set_option maxRecDepth 65536 in
set_option maxHeartbeats 40000000 in
theorem own_ki (l : Launch) (Z : State) (a0 : Array Value) (hw : own_HW a0 Z) (ws : List Jvm.Cond) (ki : Addr) (h0 : Heap) (n0 : Nat) (Z0 : n0 ≤ h0.size) (E_ki : own_Ek Z h0 ki) (F_tables_ki : own_Ft Z h0 ki .null) (ge_ki : n0 ≤ ki) :
    own_Met l Z ⟨"com/example/vaxwire/vaxwire/registry/KeyIndex", "<init>", "()V"⟩ prog_100_method_1_code 2 none ws ⟨2, 385, 3392, 27⟩ #[(.ref ki)] h0 (Q_own_ki Z ki h0 n0) := by
  refine own_bodyN (g0 := fun m => mkF m 0 #[sR ki, .unset] []) (plainFor_of_name pn_2) (fun _ => rfl) ?_
  intro p e s m below meth c s₁ hx hby hml hrt hlk hown hnm hZ e0 X0
  have D := own_d hby kD1
  refine own_step (g' := (mkF m 1 #[sR ki, .unset] [(.ref ki)])) (fun _ q => XS.aloadN X0.here hx rfl (D 0) rfl rfl q) ?_
  obtain ⟨T538, X538, e538, st538⟩ := initO X0 hx hZ hown (w6 hw) (w7 hw) (w8 hw) e0 (g := (mkF m 1 #[sR ki, .unset] [(.ref ki)])) rfl (by rw [hml]; rfl) rfl (D 1) (Nat.le_of_ble_eq_true rfl) (W := 0) (by show 2 * 0 + _ ≤ _; exact Nat.le_of_eq rfl) (Nat.le_of_ble_eq_true rfl)
  refine own_step (T' := T538) (g' := (mkF m 4 #[sR ki, .unset] [])) st538 ?_
  refine own_step (g' := (mkF m 7 #[sR ki, .unset] [(.int 64), (.ref ki)])) (fun _ q => XS.aloadN X538.here hx rfl (D 2) rfl rfl (XS.bipush X538.here hx rfl (D 3) q)) ?_
  obtain ⟨T539, h539, k539, X539, e539, E539, A539, O539, st539⟩ := newR X538 hx hZ hown (w9 hw) (w10 hw) e538 (g := (mkF m 7 #[sR ki, .unset] [(.int 64), (.ref ki)])) rfl (D 4) rfl (by decide) (cap := 64) (by decide) (by first | decide | omega) (by decide) (by decide)
  obtain ⟨b539, g539⟩ : ∃ z, z = h0.size := ⟨_, rfl⟩
  rw [← g539] at A539 st539
  have n0_540 : n0 ≤ b539 := Nat.le_trans Z0 (Nat.le_of_eq g539.symm)
  have ne541 : ki ≠ b539 := own_ne E_ki.lt (Nat.le_of_eq g539.symm)
  have V539 : Arv Z h539 b539 k539 (.object "com/example/vaxwire/vaxwire/registry/KeyIndex$Table") (64 : Int32) [.null, .null, .null, .null, .null, .null, .null, .null, .null, .null, .null, .null, .null, .null, .null, .null, .null, .null, .null, .null, .null, .null, .null, .null, .null, .null, .null, .null, .null, .null, .null, .null, .null, .null, .null, .null, .null, .null, .null, .null, .null, .null, .null, .null, .null, .null, .null, .null, .null, .null, .null, .null, .null, .null, .null, .null, .null, .null, .null, .null, .null, .null, .null, .null] .null := (Arv.new A539 (by decide)).pad (pad_rep [] .null 64)
  have ltb539 := V539.lt
  refine own_step (T' := T539) (g' := (mkF m 10 #[sR ki, .unset] [(.ref b539), (.ref ki)])) st539 ?_
  have c542 := (E_ki.ext E539)
  have c543 := (F_tables_ki.ext E539)
  refine own_pF X539 hx hZ hown (w11 hw) e539 c543 c542 (Or.inr ⟨(w12 hw), rfl, hnm⟩) (w1 hw) (ty := (.array (.object "com/example/vaxwire/vaxwire/registry/KeyIndex$Table"))) (by decide) rfl rfl rfl rfl (D 5) fun T544 h544 X544 e544 W544 F545 => ?_
  have N546 := Fr.snoc X544 (Fr.nil n0) ge_ki
  have c547 := (V539.other W544 (Ne.symm ne541))
  have qV548 : ([.null, .null, .null, .null, .null, .null, .null, .null, .null, .null, .null, .null, .null, .null, .null, .null, .null, .null, .null, .null, .null, .null, .null, .null, .null, .null, .null, .null, .null, .null, .null, .null, .null, .null, .null, .null, .null, .null, .null, .null, .null, .null, .null, .null, .null, .null, .null, .null, .null, .null, .null, .null, .null, .null, .null, .null, .null, .null, .null, .null, .null, .null, .null, .null] : List Value) = (own_tl (fun _ => 0) 0) := (own_tl0 (fun _ => 0))
  have V548 : Arv Z h544 b539 k539 (.object "com/example/vaxwire/vaxwire/registry/KeyIndex$Table") (64 : Int32) (own_tl (fun _ => 0) 0) .null := own_fixv qV548 c547
  refine own_step (g' := (mkF m 15 #[sR ki, sI 0] [])) (fun _ q => XS.iconst X544.here hx rfl (D 6) (XS.istoreN X544.here hx rfl (D 7) rfl (l' := #[sR ki, sI 0]) rfl q)) ?_
  have c549 := (own_lt ltb539 (Keep.of_wr W544).1)
  have c550 := (own_lt (own_lt E_ki.lt E539.1) (Keep.of_wr W544).1)
  have lp_kl : ∀ (k_kl : Nat) (i : Nat) (fT : Nat → Addr) (fK : Nat → Addr) (fP : Nat → Addr) (fL : Nat → Addr) (fS : Nat → Addr) (fF : Nat → Addr) (cK : Nat → ClassId) (cP : Nat → ClassId) (cL : Nat → ClassId) (cS : Nat → ClassId) (cF : Nat → ClassId) (lo : Nat → Nat) (T_kl : State) (h_kl : Heap) (L_kl : List Loc) (X_kl : Stand p l e (⟨2, 385, 3392, 27⟩ : Room) s m #[(.ref ki)] below meth c T_kl L_kl (1 + 6 * i) (64 + 52 * i)) (e_kl : T_kl.heap = h_kl) (N_kl : Fr n0 L_kl) (KL_kl : Keep h544 h_kl [b539]) (g0_kl : Arv Z h_kl b539 k539 (.object "com/example/vaxwire/vaxwire/registry/KeyIndex$Table") (64 : Int32) (own_tl fT i) .null) (hi : i ≤ 64) (hT : own_HT Z h_kl n0 fT fK fP fL fS fF cK cP cL cS cF (fun _ => List.replicate 16 0) (fun _ => List.replicate 16 0) (fun _ => 0) (fun _ => own_N4) (fun _ => 0) (fun _ => own_I4 0) lo i) (hlo : lo 0 > b539) (hlki : lo 0 > ki) (hk_kl : 64 - i = k_kl), own_Fin p e below (own_G s (Q_own_ki Z ki h0 n0) (⟨2, 385, 3392, 27⟩ : Room).cells (⟨2, 385, 3392, 27⟩ : Room).slots) T_kl (mkF m 15 #[sR ki, sI (Int32.ofNat i)] []) := by
    intro k_kl
    induction k_kl using Nat.strongRecOn with | _ k_kl ih_kl => ?_
    intro i fT fK fP fL fS fF cK cP cL cS cF lo T_kl h_kl L_kl X_kl e_kl N_kl KL_kl g0_kl hi hT hlo hlki hk_kl
    subst hk_kl
    rcases Nat.lt_or_eq_of_le hi with hin | hit
    · refine own_step (g' := (mkF m 17 #[sR ki, sI (Int32.ofNat i)] [(.ref ki), (.int (Int32.ofNat i))])) (fun _ q => XS.iloadN X_kl.here hx rfl (D 8) rfl (XS.aloadN X_kl.here hx rfl (D 9) rfl rfl q)) ?_
      have c551 := (F545.keep KL_kl (ninS ne541 nin0))
      refine own_gF X_kl hx hZ hown (w11 hw) e_kl c551 rfl rfl (D 10) fun T552 X552 e552 => ?_
      refine own_step (g' := (mkF m 21 #[sR ki, sI (Int32.ofNat i)] [(.int 64), (.int (Int32.ofNat i))])) (fun _ q => own_len X552 hx hZ e552 g0_kl (g := (mkF m 20 #[sR ki, sI (Int32.ofNat i)] [(.ref b539), (.int (Int32.ofNat i))])) rfl rfl (D 11) _ q) ?_
      have hc553 : ((Int32.ofNat i) < (64 : Int32)) := (own_in64 hin).2
      refine own_step (g' := (mkF m 25 #[sR ki, sI (Int32.ofNat i)] [(.ref ki)])) (fun _ q => XS.icmpNo X552.here hx rfl (D 12) rfl (XT.ii_ge_f hc553) (XS.aloadN X552.here hx rfl (D 13) rfl rfl q)) ?_
      refine own_gF X552 hx hZ hown (w11 hw) e552 c551 rfl rfl (D 14) fun T554 X554 e554 => ?_
      refine own_step (g' := (mkF m 29 #[sR ki, sI (Int32.ofNat i)] [(.int (Int32.ofNat i)), (.ref b539)])) (fun _ q => XS.iloadN X554.here hx rfl (D 15) rfl q) ?_
      obtain ⟨T555, h555, X555, e555, E555, A555, D555, -, st555⟩ := newO X554 hx hZ hown (w9 hw) (w13 hw) (w14 hw) e554 (g := (mkF m 29 #[sR ki, sI (Int32.ofNat i)] [(.int (Int32.ofNat i)), (.ref b539)])) rfl (D 16) (by first | decide | (dsimp only; omega)) (by first | decide | (dsimp only; omega))
      obtain ⟨b555, g555⟩ : ∃ z, z = h_kl.size := ⟨_, rfl⟩
      rw [← g555] at A555 D555 st555
      have c556 := (Nat.le_trans (Nat.le_trans (Nat.le_trans Z0 E539.1) (Keep.of_wr W544).1) KL_kl.1)
      have n0_557 : n0 ≤ b555 := Nat.le_trans c556 (Nat.le_of_eq g555.symm)
      have sz0_558 := Nat.le_trans KL_kl.1 (Nat.le_of_eq g555.symm)
      have sz0_559 := Nat.le_trans (Keep.refl h_kl [b539]).1 (Nat.le_of_eq g555.symm)
      have c560 := (own_lt (own_lt (own_lt E_ki.lt E539.1) (Keep.of_wr W544).1) KL_kl.1)
      have ne561 : ki ≠ b555 := own_ne c560 (Nat.le_of_eq g555.symm)
      have c562 := (own_lt (own_lt ltb539 (Keep.of_wr W544).1) KL_kl.1)
      have ne563 : b539 ≠ b555 := own_ne c562 (Nat.le_of_eq g555.symm)
      have ltb555 := A555.lt
      have F564 : own_Fk Z h555 b555 .null := D555 (Or.inl (w21 hw)) (ty := (.array .long)) (by decide)
      have F565 : own_Fp Z h555 b555 .null := D555 (Or.inl (w24 hw)) (ty := (.array .int)) (by decide)
      have F566 : own_Fl Z h555 b555 .null := D555 (Or.inl (w28 hw)) (ty := (.array (.array .int))) (by decide)
      have F567 : own_Fs Z h555 b555 .null := D555 (Or.inl (w30 hw)) (ty := (.array .int)) (by decide)
      have F568 : own_Ff Z h555 b555 .null := D555 (Or.inl (w32 hw)) (ty := (.array .int)) (by decide)
      have F569 : own_Fu Z h555 b555 (.int (0 : Int32)) := D555 (Or.inl (w40 hw)) (ty := .int) (by decide)
      have F570 : own_Fc Z h555 b555 (.int (0 : Int32)) := D555 (Or.inl (w72 hw)) (ty := .int) (by decide)
      have F571 : own_Fn Z h555 b555 (.int (0 : Int32)) := D555 (Or.inl (w74 hw)) (ty := .int) (by decide)
      refine own_step (T' := T555) (g' := (mkF m 32 #[sR ki, sI (Int32.ofNat i)] [(.ref b555), (.int (Int32.ofNat i)), (.ref b539)])) st555 ?_
      refine own_step (g' := (mkF m 33 #[sR ki, sI (Int32.ofNat i)] [(.ref b555), (.ref b555), (.int (Int32.ofNat i)), (.ref b539)])) (fun _ q => XS.dup X555.here hx rfl (D 17) rfl rfl q) ?_
      have c572 := (Nat.le_trans c556 E555.1)
      refine own_callCR X555 hx hZ hown rfl (w15 hw) (w16 hw) (w17 hw) (by decide) (own_bO (W := 3) (own_ti l Z a0 hw [] b555 h555 n0 c572 A555 F564 F565 F569 F566 F567 F568 F570 F571 n0_557) hZ (w17 hw) (w14 hw) rfl rfl) e555  (by first | decide | (dsimp only; omega)) (by first | decide | (dsimp only; omega)) (argsL := []) (rest := [(.ref b555), (.int (Int32.ofNat i)), (.ref b539)]) rfl hml.symm (lenOf pd_7 rfl) rfl rfl (own_w0 rfl rfl) (D 18) ?_
      rintro _ T573 L573 X573 ⟨ka573, pa573, la573, sa573, fa573, qk573, qp573, ql573, qs573, qf573, rfl, N573q, K573, f0_573, f1_573, f2_573, f3_573, f4_573, f5_573, f6_573, f7_573, f8_573, f9_573, f10_573, f11_573, f12_573, f13_573, f14_573, f15_573, f16_573, f17_573, f18_573, f19_573, f20_573, f21_573, p0_573⟩
      have n0_574 : n0 ≤ ka573 := Nat.le_trans c572 f0_573
      have c575 := (KL_kl.ext E555)
      have sz0_576 := Nat.le_trans c575.1 f0_573
      have c577 := ((Keep.refl h_kl [b539]).ext E555)
      have sz0_578 := Nat.le_trans c577.1 f0_573
      have c579 := (own_lt c560 E555.1)
      have ne580 : ki ≠ ka573 := own_ne c579 f0_573
      have c581 := (own_lt c562 E555.1)
      have ne582 : b539 ≠ ka573 := own_ne c581 f0_573
      have ne583 : b555 ≠ ka573 := own_ne ltb555 f0_573
      have n0_584 : n0 ≤ pa573 := Nat.le_trans c572 f1_573
      have sz0_585 := Nat.le_trans c575.1 f1_573
      have sz0_586 := Nat.le_trans c577.1 f1_573
      have ne587 : ki ≠ pa573 := own_ne c579 f1_573
      have ne588 : b539 ≠ pa573 := own_ne c581 f1_573
      have ne589 : b555 ≠ pa573 := own_ne ltb555 f1_573
      have n0_590 : n0 ≤ la573 := Nat.le_trans c572 f2_573
      have sz0_591 := Nat.le_trans c575.1 f2_573
      have sz0_592 := Nat.le_trans c577.1 f2_573
      have ne593 : ki ≠ la573 := own_ne c579 f2_573
      have ne594 : b539 ≠ la573 := own_ne c581 f2_573
      have ne595 : b555 ≠ la573 := own_ne ltb555 f2_573
      have n0_596 : n0 ≤ sa573 := Nat.le_trans c572 f3_573
      have sz0_597 := Nat.le_trans c575.1 f3_573
      have sz0_598 := Nat.le_trans c577.1 f3_573
      have ne599 : ki ≠ sa573 := own_ne c579 f3_573
      have ne600 : b539 ≠ sa573 := own_ne c581 f3_573
      have ne601 : b555 ≠ sa573 := own_ne ltb555 f3_573
      have n0_602 : n0 ≤ fa573 := Nat.le_trans c572 f4_573
      have sz0_603 := Nat.le_trans c575.1 f4_573
      have sz0_604 := Nat.le_trans c577.1 f4_573
      have ne605 : ki ≠ fa573 := own_ne c579 f4_573
      have ne606 : b539 ≠ fa573 := own_ne c581 f4_573
      have ne607 : b555 ≠ fa573 := own_ne ltb555 f4_573
      have lt608 := f14_573.lt
      have lt609 := f15_573.lt
      have lt610 := f16_573.lt
      have lt611 := f17_573.lt
      have lt612 := f18_573.lt
      have N613 := Fr.app N_kl N573q
      have c614 := ((g0_kl.ext E555).keep K573 (ninS ne563 nin0))
      obtain ⟨T615, h615, X615, e615, W615, V615, st615⟩ := own_stR X573 hx hZ rfl c614 rfl rfl (fun _ A q => Sto.ofV A q O539 (Ins.self f5_573)) (j := (Int32.ofNat i)) (own_in64 hin) (i := i) (own_nat (by omega)) (by rw [own_tl_len]; exact hin) (g := (mkF m 36 #[sR ki, sI (Int32.ofNat i)] [(.ref b555), (.int (Int32.ofNat i)), (.ref b539)])) rfl rfl (D 19)
      have N616 := Fr.snoc X615 N613 n0_540
      refine own_step (T' := T615) (g' := (mkF m 37 #[sR ki, sI (Int32.ofNat i)] [])) st615 ?_
      have qV617 : (((own_tl fT i).set i (.ref b555)) : List Value) = (own_tl (own_upd fT i b555) (i + 1)) := (own_tl_set hin)
      have V617 : Arv Z h615 b539 k539 (.object "com/example/vaxwire/vaxwire/registry/KeyIndex$Table") (64 : Int32) (own_tl (own_upd fT i b555) (i + 1)) .null := own_fixv qV617 V615
      refine own_step (g' := (mkF m 40 #[sR ki, sI ((Int32.ofNat i) + (1 : Int32))] [])) (fun _ q => XS.iinc X615.here hx rfl (D 20) rfl (l' := #[sR ki, sI ((Int32.ofNat i) + (1 : Int32))]) rfl q) ?_
      rw [show ((Int32.ofNat i) + (1 : Int32)) = (Int32.ofNat (i + 1)) from (own_inc _)]
      refine own_step (g' := (mkF m 15 #[sR ki, sI (Int32.ofNat (i + 1))] [])) (fun _ q => XS.goto X615.here hx rfl (pc0 := 40) (pc' := 15) rfl (D 21) (by decide) (by decide) q) ?_
      have c619 := (f5_573.wr W615)
      have c620 := (f6_573.other W615 (Or.inl (Ne.symm ne563)))
      have c621 := (f7_573.other W615 (Or.inl (Ne.symm ne563)))
      have c622 := (f8_573.other W615 (Or.inl (Ne.symm ne563)))
      have c623 := (f9_573.other W615 (Or.inl (Ne.symm ne563)))
      have c624 := (f10_573.other W615 (Or.inl (Ne.symm ne563)))
      have c625 := (f11_573.other W615 (Or.inl (Ne.symm ne563)))
      have c626 := (f12_573.other W615 (Or.inl (Ne.symm ne563)))
      have c627 := (f13_573.other W615 (Or.inl (Ne.symm ne563)))
      have c628 := (f14_573.other W615 (Ne.symm ne582))
      have c629 := (f15_573.other W615 (Ne.symm ne588))
      have c630 := (f16_573.other W615 (Ne.symm ne594))
      have c631 := (f17_573.other W615 (Ne.symm ne600))
      have c632 := (f18_573.other W615 (Ne.symm ne606))
      have T0x618 : own_T0 Z h615 n0 b555 ka573 pa573 la573 sa573 fa573 qk573 qp573 ql573 qs573 qf573 (List.replicate 16 0) (List.replicate 16 0) 0 own_N4 0 (own_I4 0) := ⟨c619, c620, c621, c622, c623, c624, c625, c626, c627, c628, c629, c630, c631, c632, p0_573, ⟨n0_557, n0_574, n0_584, n0_590, n0_596, n0_602⟩, f19_573, f20_573, f21_573⟩
      have c633 := ((c577.trans K573 (allS (Or.inr sz0_559) all0)).wr W615 (Or.inl (List.mem_of_getElem? (i := 0) rfl)))
      have HTx618 := own_HT.keep hT c633 (fun w q => Or.inl (by rw [List.mem_singleton.mp q]; exact hlo))
      have c634 := (own_lt (own_lt ltb555 K573.1) (Keep.of_wr W615).1)
      have c635 := (own_lt lt608 (Keep.of_wr W615).1)
      have c636 := (own_lt lt609 (Keep.of_wr W615).1)
      have c637 := (own_lt lt610 (Keep.of_wr W615).1)
      have c638 := (own_lt lt611 (Keep.of_wr W615).1)
      have c639 := (own_lt lt612 (Keep.of_wr W615).1)
      have Bx618 : own_B6 (lo i) h615.size b555 ka573 pa573 la573 sa573 fa573 := ⟨⟨Nat.le_trans hT.2.2.2 sz0_559, c634⟩, ⟨Nat.le_trans hT.2.2.2 sz0_578, c635⟩, ⟨Nat.le_trans hT.2.2.2 sz0_586, c636⟩, ⟨Nat.le_trans hT.2.2.2 sz0_592, c637⟩, ⟨Nat.le_trans hT.2.2.2 sz0_598, c638⟩, ⟨Nat.le_trans hT.2.2.2 sz0_604, c639⟩⟩
      have c640 := ((c575.trans K573 (allS (Or.inr sz0_558) all0)).wr W615 (Or.inl (List.mem_of_getElem? (i := 0) rfl)))
      exact ih_kl _ (by omega) (i + 1) (own_upd fT i b555) (own_upd fK i ka573) (own_upd fP i pa573) (own_upd fL i la573) (own_upd fS i sa573) (own_upd fF i fa573) (own_upd cK i qk573) (own_upd cP i qp573) (own_upd cL i ql573) (own_upd cS i qs573) (own_upd cF i qf573) (own_upd lo (i + 1) h615.size) T615 h615 _ (own_cs X615 (by first | omega | (dsimp only; omega)) (by first | omega | (dsimp only; omega))) e615 N616 c640 V617 (by omega) (own_HT.push HTx618 T0x618 Bx618) (by rw [own_upd_ne _ _ (by omega)]; exact hlo) (by rw [own_upd_ne _ _ (by omega)]; exact hlki) rfl
    · refine own_step (g' := (mkF m 17 #[sR ki, sI (Int32.ofNat i)] [(.ref ki), (.int (Int32.ofNat i))])) (fun _ q => XS.iloadN X_kl.here hx rfl (D 8) rfl (XS.aloadN X_kl.here hx rfl (D 9) rfl rfl q)) ?_
      have c641 := (F545.keep KL_kl (ninS ne541 nin0))
      refine own_gF X_kl hx hZ hown (w11 hw) e_kl c641 rfl rfl (D 10) fun T642 X642 e642 => ?_
      refine own_step (g' := (mkF m 21 #[sR ki, sI (Int32.ofNat i)] [(.int 64), (.int (Int32.ofNat i))])) (fun _ q => own_len X642 hx hZ e642 g0_kl (g := (mkF m 20 #[sR ki, sI (Int32.ofNat i)] [(.ref b539), (.int (Int32.ofNat i))])) rfl rfl (D 11) _ q) ?_
      have hc643 : ¬ ((Int32.ofNat i) < (64 : Int32)) := (by rw [hit]; decide)
      refine own_step (g' := (mkF m 43 #[sR ki, sI (Int32.ofNat i)] [])) (fun _ q => XS.icmpYes X642.here hx rfl (pc0 := 21) (pc' := 43) rfl (D 12) rfl (XT.ii_ge_t hc643) (by decide) (by decide) q) ?_
      have c644 := (Nat.le_trans (Nat.le_trans (Nat.le_trans (Nat.le_refl _) E539.1) (Keep.of_wr W544).1) KL_kl.1)
      have c645 := ((c542.wr W544).keep KL_kl)
      subst hit
      exact own_retV X642 hx hrt (D 22) hlk (by rw [e642]; exact ⟨rfl, N_kl, c644, c645, ⟨b539, k539, fT, fK, fP, fL, fS, fF, cK, cP, cL, cS, cF, lo, 0, k539, 0, 0, 0, 0, c645, c641, g0_kl, hlki, hlo, own_HT.congr hT (fun j hj => (own_lv64 hj 0 0).1) (fun j hj => (own_lv64 hj 0 0).2.1) (fun j hj => (own_lv64 hj 0 0).2.2), fun q => absurd q (by decide)⟩⟩) (by first | decide | (dsimp only; omega)) (by first | decide | (dsimp only; omega))
  exact lp_kl _ (0) (fun _ => 0) (fun _ => 0) (fun _ => 0) (fun _ => 0) (fun _ => 0) (fun _ => 0) (fun _ => k539) (fun _ => k539) (fun _ => k539) (fun _ => k539) (fun _ => k539) (fun _ => h544.size) T544 h544 _ (own_cs X544 (by first | omega | (dsimp only; omega)) (by first | omega | (dsimp only; omega))) e544 N546 (Keep.refl h544 [b539]) V548 (Nat.zero_le _) (⟨fun _ q => absurd q (Nat.not_lt_zero _), fun _ q => absurd q (Nat.not_lt_zero _), fun _ q => absurd q (Nat.not_lt_zero _), Nat.le_refl _⟩) (c549) (c550) rfl
theorem pd_8 : parseMethodDescriptor "(J)Lcom/example/vaxwire/vaxwire/registry/KeyIndex$Table;" = some ⟨[.long], some (.object "com/example/vaxwire/vaxwire/registry/KeyIndex$Table")⟩ := by decide +kernel
theorem pd_9 : parseMethodDescriptor "(JI)V" = some ⟨[.long, .int], none⟩ := by decide +kernel
def Q_own_ka (Z : State) (ki : Addr) (kF : Nat → List Int64) (pF : Nat → List Int32) (uF : Nat → Nat) (gj : Nat) (sz : Int32) (M : Int64 → Int32) (cJ : Int64) (nn : Nat) (ky : Int64) (jd : Int32) (h0 : Heap) (n0 : Nat) (v : Option Value) (h : Heap) (L : List Loc) : Prop := ∃ (kF2 : Nat → List Int64), ∃ (pF2 : Nat → List Int32), ∃ (uF2 : Nat → Nat), ∃ (sz2 : Int32), v = none ∧ Fr n0 L ∧ h0.size ≤ h.size ∧ own_Ek Z h ki ∧ own_H Z h n0 ki kF2 pF2 uF2 (own_g M gj ky jd) sz2 ∧ own_inv kF2 pF2 uF2 (own_m M ky jd) (own_c M cJ ky) (nn + 1) ∧ ((0 < M ky ∧ ¬ M ky = jd) → sz2 = 2)
set_option maxRecDepth 65536 in
set_option maxHeartbeats 40000000 in
theorem own_ka (l : Launch) (Z : State) (a0 : Array Value) (hw : own_HW a0 Z) (ws : List Jvm.Cond) (ki : Addr) (kF : Nat → List Int64) (pF : Nat → List Int32) (uF : Nat → Nat) (gj : Nat) (sz : Int32) (M : Int64 → Int32) (cJ : Int64) (nn : Nat) (ky : Int64) (jd : Int32) (h0 : Heap) (n0 : Nat) (Z0 : n0 ≤ h0.size) (x_H : own_H Z h0 n0 ki kF pF uF gj sz) (hinv : own_inv kF pF uF M cJ nn) (hnn : nn ≤ 2) (hjd : 0 < jd) (hsgn : M ky = 0 ∨ 0 < M ky ∨ M ky = -1) (hc2 : 0 < M ky → ¬ M ky = jd → gj = 64) (hc3 : M ky = -1 → gj = own_j ky ∧ sz = 2) :
    own_Met l Z ⟨"com/example/vaxwire/vaxwire/registry/KeyIndex", "add", "(JI)V"⟩ prog_100_method_2_code 4 none ws ⟨4, 1, 4, 68⟩ #[(.ref ki), (.long ky), (.int jd)] h0 (Q_own_ka Z ki kF pF uF gj sz M cJ nn ky jd h0 n0) := by
  refine own_bodyN (g0 := fun m => mkF m 0 #[sR ki, sJ ky, .second, sI jd] []) (plainFor_of_name pn_2) (fun _ => rfl) ?_
  intro p e s m below meth c s₁ hx hby hml hrt hlk hown hnm hZ e0 X0
  have D := own_d hby kD5
  have hH := x_H
  obtain ⟨tA, qT, fT, fK, fP, fL, fS, fF, cK, cP, cL, cS, cF, lo, li, qi, y0, y1, y2, y3, hE, hF, hV, hlki, hlo, hT, hL⟩ := x_H
  have hj := own_jlt ky
  obtain ⟨hkl, hpl, -, hun, -⟩ := hinv.1 (own_j ky) hj
  obtain ⟨tt, htt, hpt, hcs⟩ := own_fex hinv (by omega) ky hj
  have hB := hT.2.1 (own_j ky) hj
  have hl64 := own_lo hT.2.2.1 64 ((own_j ky) + 1) (by omega) (by omega)
  obtain ⟨t1, t2, t3, t4, t5, t6, t7, t8, t9, v1, v2, v3, v4, v5, ov, ⟨g1, g2, g3, g4, g5, g6⟩, n1, n2, n3⟩ := hT.1 (own_j ky) hj
  have ty646 : ki ≠ tA := (Exa.neArv hE hV (w1 hw))
  have ty647 : ki ≠ (fT (own_j ky)) := (Exa.ne hE t1 (by decide))
  have ty648 : ki ≠ (fK (own_j ky)) := (Exa.neArv hE v1 (w1 hw))
  have ty649 : ki ≠ (fP (own_j ky)) := (Exa.neArv hE v2 (w1 hw))
  have ty650 : ki ≠ (fL (own_j ky)) := (Exa.neArv hE v3 (w1 hw))
  have ty651 : ki ≠ (fS (own_j ky)) := (Exa.neArv hE v4 (w1 hw))
  have ty652 : ki ≠ (fF (own_j ky)) := (Exa.neArv hE v5 (w1 hw))
  have ty653 : tA ≠ (fT (own_j ky)) := (Ne.symm (Exa.neArv t1 hV (w13 hw)))
  have ty654 : tA ≠ (fK (own_j ky)) := (own_arr_ne hV v1 (by decide))
  have ty655 : tA ≠ (fP (own_j ky)) := (own_arr_ne hV v2 (by decide))
  have ty656 : tA ≠ (fL (own_j ky)) := (own_arr_ne hV v3 (by decide))
  have ty657 : tA ≠ (fS (own_j ky)) := (own_arr_ne hV v4 (by decide))
  have ty658 : tA ≠ (fF (own_j ky)) := (own_arr_ne hV v5 (by decide))
  have ty659 : (fT (own_j ky)) ≠ (fK (own_j ky)) := (Exa.neArv t1 v1 (w13 hw))
  have ty660 : (fT (own_j ky)) ≠ (fP (own_j ky)) := (Exa.neArv t1 v2 (w13 hw))
  have ty661 : (fT (own_j ky)) ≠ (fL (own_j ky)) := (Exa.neArv t1 v3 (w13 hw))
  have ty662 : (fT (own_j ky)) ≠ (fS (own_j ky)) := (Exa.neArv t1 v4 (w13 hw))
  have ty663 : (fT (own_j ky)) ≠ (fF (own_j ky)) := (Exa.neArv t1 v5 (w13 hw))
  have ty664 : (fK (own_j ky)) ≠ (fP (own_j ky)) := (own_arr_ne v1 v2 (by decide))
  have ty665 : (fK (own_j ky)) ≠ (fL (own_j ky)) := (own_arr_ne v1 v3 (by decide))
  have ty666 : (fK (own_j ky)) ≠ (fS (own_j ky)) := (own_arr_ne v1 v4 (by decide))
  have ty667 : (fK (own_j ky)) ≠ (fF (own_j ky)) := (own_arr_ne v1 v5 (by decide))
  have ty668 : (fP (own_j ky)) ≠ (fL (own_j ky)) := (own_arr_ne v2 v3 (by decide))
  have ty669 : (fL (own_j ky)) ≠ (fS (own_j ky)) := (own_arr_ne v3 v4 (by decide))
  have ty670 : (fL (own_j ky)) ≠ (fF (own_j ky)) := (own_arr_ne v3 v5 (by decide))
  refine own_step (g' := (mkF m 2 #[sR ki, sJ ky, .second, sI jd] [(.long ky), (.ref ki)])) (fun _ q => XS.aloadN X0.here hx rfl (D 0) rfl rfl (XT.lloadN X0.here hx rfl (D 1) rfl q)) ?_
  refine own_callQ X0 hx hZ hown (w46 hw) (w47 hw) (w1 hw) (w48 hw) (w49 hw) (by decide) (own_bO (W := 0) (own_tab l Z a0 hw [] ki tA qT fT ky h0 n0 Z0 hE hF hV) hZ (w49 hw) (w2 hw) rfl rfl) e0 hE  (by decide) (by decide) (argsL := [(.long ky)]) (rest := []) rfl hml.symm (lenOf pd_8 rfl) rfl rfl (own_w0 rfl rfl) (D 2) ?_
  rintro _ T671 L671 X671 ⟨rfl, N671q, e671⟩
  have N672 := Fr.app (Fr.nil n0) N671q
  refine own_step (g' := (mkF m 7 #[sR ki, sJ ky, .second, sI jd] [(.int jd), (.long ky), (.ref (fT (own_j ky)))])) (fun _ q => XT.lloadN X671.here hx rfl (D 3) rfl (XS.iloadN X671.here hx rfl (D 4) rfl q)) ?_
  rcases own_4 (jd := jd) hcs hsgn with ⟨hM, hq⟩ | ⟨hpos, hq, hpM, heq⟩ | ⟨hpos, hq, hpM, hne⟩ | ⟨hm, hq, hpM⟩
  · refine own_callV X671 hx hZ hown (w50 hw) (w51 hw) (notFace_of_selects (args := #[]) (mvT hZ (w53 hw))) (w53 hw) (w52 hw) (by decide) (own_bO (W := 0) (own_ad0 l Z a0 hw [] (fT (own_j ky)) (fK (own_j ky)) (fP (own_j ky)) (fL (own_j ky)) (fS (own_j ky)) (fF (own_j ky)) (cK (own_j ky)) (cP (own_j ky)) (kF (own_j ky)) (pF (own_j ky)) (uF (own_j ky)) (own_lc gj (own_j ky)) ky jd tt h0 n0 Z0 t1 t2 t3 t4 t5 t6 t7 t8 t9 v1 v2 g1 g2 g3 hkl hpl hpt hq (by omega : (uF (own_j ky)) ≤ 2)) hZ (w54 hw) (w14 hw) rfl rfl) e671 t1  (by decide) (by decide) (argsL := [(.long ky), (.int jd)]) (rest := []) rfl hml.symm (lenOf pd_9 rfl) rfl rfl (own_w0 rfl rfl) (D 5) ?_
    rintro _ T673 L673 X673 ⟨rfl, N673q, K673, f0_673, f1_673, f2_673, f3_673, f4_673, f5_673, f6_673, f7_673, f8_673, f9_673, f10_673⟩
    have N674 := Fr.app N672 N673q
    have c676 := (v3.keep K673 (ninS (Ne.symm ty661) (ninS (Ne.symm ty665) (ninS (Ne.symm ty668) nin0))))
    have c677 := (v4.keep K673 (ninS (Ne.symm ty662) (ninS (Ne.symm ty666) (ninS (Ne.symm n1) nin0))))
    have c678 := (v5.keep K673 (ninS (Ne.symm ty663) (ninS (Ne.symm ty667) (ninS (Ne.symm n2) nin0))))
    have Nt675 : own_T0 Z T673.heap n0 (fT (own_j ky)) (fK (own_j ky)) (fP (own_j ky)) (fL (own_j ky)) (fS (own_j ky)) (fF (own_j ky)) (cK (own_j ky)) (cP (own_j ky)) (cL (own_j ky)) (cS (own_j ky)) (cF (own_j ky)) ((kF (own_j ky)).set (own_q ky tt) ky) ((pF (own_j ky)).set (own_q ky tt) jd) (uF (own_j ky) + 1) (own_lv gj li (own_j ky)) (own_lc gj (own_j ky)) (own_sv gj sz (own_j ky)) := ⟨f0_673, f1_673, f2_673, f3_673, f4_673, f5_673, f6_673, f7_673, f8_673, f9_673, f10_673, c676, c677, c678, ov, ⟨g1, g2, g3, g4, g5, g6⟩, n1, n2, n3⟩
    have Rt675 := own_H.put hE hF hV hlki hlo hT K673 hj (allS (Or.inl hB.1) (allS (Or.inl hB.2.1) (allS (Or.inl hB.2.2.1) all0))) Nt675 (fun _ _ _ => ⟨rfl, rfl, rfl⟩) (fun q => by obtain ⟨b1, b2, b3, b4⟩ := hL q; exact ⟨b1, b2, b3.keep K673 (own_out (P := fun w => lo ((own_j ky) + 1) > w) (allS hB.1.2 (allS hB.2.1.2 (allS hB.2.2.1.2 all0))) (by omega)), b4⟩)
    have c679 := (Nat.le_trans (Nat.le_refl _) K673.1)
    have c680 := (hE.keep K673)
    exact own_retV X673 hx hrt (D 6) hlk ⟨(own_upd kF (own_j ky) ((kF (own_j ky)).set (own_q ky tt) ky)), (own_upd pF (own_j ky) ((pF (own_j ky)).set (own_q ky tt) jd)), (own_upd uF (own_j ky) (uF (own_j ky) + 1)), sz, rfl, N674, c679, c680, (by unfold own_g; rw [if_neg (fun q => own_pos0 q.1 hM)]; exact Rt675), (by unfold own_m own_c; rw [if_pos hM, if_pos hM]; exact own_inv0 hinv hnn hj htt hpt hq hM (own_pos0 hjd)), (fun q => absurd hM (own_pos0 q.1))⟩ (by decide) (by decide)
  · refine own_callV X671 hx hZ hown (w50 hw) (w51 hw) (notFace_of_selects (args := #[]) (mvT hZ (w53 hw))) (w53 hw) (w52 hw) (by decide) (own_bO (W := 0) (own_ad1 l Z a0 hw [] (fT (own_j ky)) (fK (own_j ky)) (fP (own_j ky)) (cK (own_j ky)) (cP (own_j ky)) (kF (own_j ky)) (pF (own_j ky)) ky tt jd h0 n0 Z0 t1 t2 t3 v1 v2 hkl hpl hpt hq (by rw [hpM]; exact hpos : 0 < ((pF (own_j ky)).getD (own_q ky tt) 0)) (by rw [hpM]; exact heq : ((pF (own_j ky)).getD (own_q ky tt) 0) = jd)) hZ (w54 hw) (w14 hw) rfl rfl) e671 t1  (by decide) (by decide) (argsL := [(.long ky), (.int jd)]) (rest := []) rfl hml.symm (lenOf pd_9 rfl) rfl rfl (own_w0 rfl rfl) (D 5) ?_
    rintro _ T681 L681 X681 ⟨rfl, N681q, e681⟩
    have N682 := Fr.app N672 N681q
    exact own_retV X681 hx hrt (D 6) hlk (by rw [e681]; exact ⟨kF, pF, uF, sz, rfl, N682, (Nat.le_refl _), hE, (by unfold own_g; rw [if_neg (fun q => q.2 heq)]; exact hH), (by unfold own_m own_c; rw [if_neg (own_pos0 hpos), if_neg (own_pos0 hpos), if_pos heq]; exact own_inv2 hinv (own_um_id heq)), (fun q => absurd heq q.2)⟩) (by decide) (by decide)
  · have hg64 := hc2 hpos hne
    have qF683 : ((.int (own_lc gj (own_j ky))) : Value) = (.int (0 : Int32)) := (by rw [hg64, ← (own_lv64 hj li sz).2.1])
    have F683 : Fld Z h0 (fT (own_j ky)) "com/example/vaxwire/vaxwire/registry/KeyIndex$Table" "listCount" "I" (.int (0 : Int32)) := own_fixf qF683 t9
    have qV684 : ((own_lv gj li (own_j ky)) : List Value) = [.null, .null, .null, .null] := (by rw [hg64, ← (own_lv64 hj li sz).1])
    have V684 : Arv Z h0 (fL (own_j ky)) (cL (own_j ky)) (.array .int) (4 : Int32) [.null, .null, .null, .null] .null := own_fixv qV684 v3
    have qV685 : ((own_sv gj sz (own_j ky)) : List Value) = [(.int (0 : Int32)), (.int (0 : Int32)), (.int (0 : Int32)), (.int (0 : Int32))] := (by rw [hg64, ← (own_lv64 hj li sz).2.2])
    have V685 : Arv Z h0 (fS (own_j ky)) (cS (own_j ky)) .int (4 : Int32) [(.int (0 : Int32)), (.int (0 : Int32)), (.int (0 : Int32)), (.int (0 : Int32))] (.int (0 : Int32)) := own_fixv qV685 v4
    refine own_callV X671 hx hZ hown (w50 hw) (w51 hw) (notFace_of_selects (args := #[]) (mvT hZ (w53 hw))) (w53 hw) (w52 hw) (by decide) (own_bO (W := 0) (own_ad2 l Z a0 hw [] (fT (own_j ky)) (fK (own_j ky)) (fP (own_j ky)) (fL (own_j ky)) (fS (own_j ky)) (fF (own_j ky)) (cK (own_j ky)) (cP (own_j ky)) (cL (own_j ky)) (cS (own_j ky)) (kF (own_j ky)) (pF (own_j ky)) (uF (own_j ky)) ky jd tt h0 n0 Z0 t1 t2 t3 t4 t5 t6 t7 t8 F683 v1 v2 V684 V685 (ov : OvrA Z (cL (own_j ky)) .int "[I") g1 g3 g4 g5 n1 hkl hpl hpt hq (by rw [hpM]; exact hpos : 0 < ((pF (own_j ky)).getD (own_q ky tt) 0)) (by rw [hpM]; exact hne : ¬ ((pF (own_j ky)).getD (own_q ky tt) 0) = jd)) hZ (w54 hw) (w14 hw) rfl rfl) e671 t1  (by decide) (by decide) (argsL := [(.long ky), (.int jd)]) (rest := []) rfl hml.symm (lenOf pd_9 rfl) rfl rfl (own_w0 rfl rfl) (D 5) ?_
    rintro _ T686 L686 X686 ⟨li686, qi686, y0686, y1686, rfl, N686q, K686, f0_686, f1_686, f2_686, f3_686, f4_686, f5_686, f6_686, f7_686, f8_686, f9_686, f10_686, f11_686, f12_686, f13_686⟩
    have n0_687 : n0 ≤ li686 := Nat.le_trans Z0 f0_686
    have ne688 : ki ≠ li686 := own_ne hE.lt f0_686
    have ne689 : tA ≠ li686 := own_ne hV.lt f0_686
    have ne690 : (fT (own_j ky)) ≠ li686 := own_ne t1.lt f0_686
    have ne691 : (fK (own_j ky)) ≠ li686 := own_ne v1.lt f0_686
    have ne692 : (fP (own_j ky)) ≠ li686 := own_ne v2.lt f0_686
    have ne693 : (fL (own_j ky)) ≠ li686 := own_ne v3.lt f0_686
    have ne694 : (fS (own_j ky)) ≠ li686 := own_ne v4.lt f0_686
    have ne695 : (fF (own_j ky)) ≠ li686 := own_ne v5.lt f0_686
    have lt696 := f13_686.lt
    have N697 := Fr.app N672 N686q
    have c699 := (v1.keep K686 (ninS (Ne.symm ty659) (ninS ty664 (ninS ty665 (ninS ty666 nin0)))))
    have c700 := (v5.keep K686 (ninS (Ne.symm ty663) (ninS (Ne.symm n2) (ninS (Ne.symm ty670) (ninS (Ne.symm n3) nin0)))))
    have Nt698 : own_T0 Z T686.heap n0 (fT (own_j ky)) (fK (own_j ky)) (fP (own_j ky)) (fL (own_j ky)) (fS (own_j ky)) (fF (own_j ky)) (cK (own_j ky)) (cP (own_j ky)) (cL (own_j ky)) (cS (own_j ky)) (cF (own_j ky)) (kF (own_j ky)) ((pF (own_j ky)).set (own_q ky tt) (-1 : Int32)) (uF (own_j ky)) (own_lv (own_j ky) li686 (own_j ky)) (own_lc (own_j ky) (own_j ky)) (own_sv (own_j ky) 2 (own_j ky)) := by rw [own_lvE, own_lcE, own_svE]; exact ⟨f1_686, f2_686, f3_686, f4_686, f5_686, f6_686, f7_686, f8_686, f9_686, c699, f10_686, f11_686, f12_686, c700, ov, ⟨g1, g2, g3, g4, g5, g6⟩, n1, n2, n3⟩
    have Rt698 := own_H.put hE hF hV hlki hlo hT K686 hj (allS (Or.inl hB.1) (allS (Or.inl hB.2.2.1) (allS (Or.inl hB.2.2.2.1) (allS (Or.inl hB.2.2.2.2.1) all0)))) Nt698 (fun j hj' e => by rw [hg64]; obtain ⟨a1, a2, a3⟩ := own_lvN (by omega : ¬ j = 64) li sz; obtain ⟨b1, b2, b3⟩ := own_lvN e li686 2; exact ⟨a1.trans b1.symm, a2.trans b2.symm, a3.trans b3.symm⟩) (fun _ => ⟨Nat.le_trans hT.2.2.2 f0_686, n0_687, f13_686, Or.inl rfl⟩)
    rw [own_upd_id, own_upd_id] at Rt698
    have c701 := (Nat.le_trans (Nat.le_refl _) K686.1)
    have c702 := (hE.keep K686)
    exact own_retV X686 hx hrt (D 6) hlk ⟨kF, (own_upd pF (own_j ky) ((pF (own_j ky)).set (own_q ky tt) (-1 : Int32))), uF, 2, rfl, N697, c701, c702, (by unfold own_g; rw [if_pos ⟨hpos, hne⟩]; exact Rt698), (by unfold own_m own_c; rw [if_neg (own_pos0 hpos), if_neg (own_pos0 hpos), if_neg hne]; exact own_inv1 hinv hj hq.1 hq.2 (by decide) hpt htt), (fun _ => rfl)⟩ (by decide) (by decide)
  · obtain ⟨hg, hsz⟩ := hc3 hm
    have qF703 : ((.int (own_lc gj (own_j ky))) : Value) = (.int (1 : Int32)) := (by rw [hg, own_lcE])
    have F703 : Fld Z h0 (fT (own_j ky)) "com/example/vaxwire/vaxwire/registry/KeyIndex$Table" "listCount" "I" (.int (1 : Int32)) := own_fixf qF703 t9
    have qV704 : ((own_lv gj li (own_j ky)) : List Value) = [(.ref li), .null, .null, .null] := (by rw [hg, own_lvE])
    have V704 : Arv Z h0 (fL (own_j ky)) (cL (own_j ky)) (.array .int) (4 : Int32) [(.ref li), .null, .null, .null] .null := own_fixv qV704 v3
    have qV705 : ((own_sv gj sz (own_j ky)) : List Value) = [(.int (2 : Int32)), (.int (0 : Int32)), (.int (0 : Int32)), (.int (0 : Int32))] := (by rw [hg, own_svE, hsz])
    have V705 : Arv Z h0 (fS (own_j ky)) (cS (own_j ky)) .int (4 : Int32) [(.int (2 : Int32)), (.int (0 : Int32)), (.int (0 : Int32)), (.int (0 : Int32))] (.int (0 : Int32)) := own_fixv qV705 v4
    obtain ⟨hli, hgl, vli, -⟩ := hL (by rw [hg]; exact hj)
    have ty706 : ki ≠ li := (Exa.neArv hE vli (w1 hw))
    have ty707 : tA ≠ li := (own_arr_ne hV vli (by decide))
    have ty708 : (fT (own_j ky)) ≠ li := (Exa.neArv t1 vli (w13 hw))
    have ty709 : (fK (own_j ky)) ≠ li := (own_arr_ne v1 vli (by decide))
    have ty710 : (fL (own_j ky)) ≠ li := (own_arr_ne V704 vli (by decide))
    have nl711 : ¬ (fP (own_j ky)) = li := fun q => by have := hB.2.2.1; rw [q] at this; omega
    have nl712 : ¬ (fS (own_j ky)) = li := fun q => by have := hB.2.2.2.2.1; rw [q] at this; omega
    have nl713 : ¬ (fF (own_j ky)) = li := fun q => by have := hB.2.2.2.2.2; rw [q] at this; omega
    refine own_callV X671 hx hZ hown (w50 hw) (w51 hw) (notFace_of_selects (args := #[]) (mvT hZ (w53 hw))) (w53 hw) (w52 hw) (by decide) (own_bO (W := 0) (own_ad3 l Z a0 hw [] (fT (own_j ky)) (fK (own_j ky)) (fP (own_j ky)) (fL (own_j ky)) (fS (own_j ky)) (fF (own_j ky)) (cK (own_j ky)) (cP (own_j ky)) (cL (own_j ky)) (cS (own_j ky)) (kF (own_j ky)) (pF (own_j ky)) (uF (own_j ky)) li qi y0 y1 y2 y3 ky jd tt h0 n0 Z0 t1 t2 t3 t4 t5 t6 t7 t8 F703 v1 v2 V704 V705 vli g5 hgl nl712 hkl hpl hpt hq (by rw [hpM]; exact hm : ((pF (own_j ky)).getD (own_q ky tt) 0) = (-1 : Int32))) hZ (w54 hw) (w14 hw) rfl rfl) e671 t1  (by decide) (by decide) (argsL := [(.long ky), (.int jd)]) (rest := []) rfl hml.symm (lenOf pd_9 rfl) rfl rfl (own_w0 rfl rfl) (D 5) ?_
    rintro _ T714 L714 X714 ⟨sz714, d0714, d1714, d2714, d3714, rfl, N714q, K714, f0_714, f1_714, p0_714⟩
    have N715 := Fr.app N672 N714q
    have c717 := (t1.keep K714)
    have c718 := (t2.keep K714 (ninS ty662 (ninS ty708 nin0)))
    have c719 := (t3.keep K714 (ninS ty662 (ninS ty708 nin0)))
    have c720 := (t4.keep K714 (ninS ty662 (ninS ty708 nin0)))
    have c721 := (t5.keep K714 (ninS ty662 (ninS ty708 nin0)))
    have c722 := (t6.keep K714 (ninS ty662 (ninS ty708 nin0)))
    have c723 := (t7.keep K714 (ninS ty662 (ninS ty708 nin0)))
    have c724 := (t8.keep K714 (ninS ty662 (ninS ty708 nin0)))
    have c725 := (F703.keep K714 (ninS ty662 (ninS ty708 nin0)))
    have c726 := (v1.keep K714 (ninS ty666 (ninS ty709 nin0)))
    have c727 := (v2.keep K714 (ninS n1 (ninS nl711 nin0)))
    have c728 := (V704.keep K714 (ninS ty669 (ninS ty710 nin0)))
    have c729 := (v5.keep K714 (ninS (Ne.symm n3) (ninS nl713 nin0)))
    have Nt716 : own_T0 Z T714.heap n0 (fT (own_j ky)) (fK (own_j ky)) (fP (own_j ky)) (fL (own_j ky)) (fS (own_j ky)) (fF (own_j ky)) (cK (own_j ky)) (cP (own_j ky)) (cL (own_j ky)) (cS (own_j ky)) (cF (own_j ky)) (kF (own_j ky)) (pF (own_j ky)) (uF (own_j ky)) (own_lv gj li (own_j ky)) (own_lc gj (own_j ky)) (own_sv gj sz714 (own_j ky)) := by rw [hg, own_lvE, own_lcE, own_svE]; exact ⟨c717, c718, c719, c720, c721, c722, c723, c724, c725, c726, c727, c728, f0_714, c729, ov, ⟨g1, g2, g3, g4, g5, g6⟩, n1, n2, n3⟩
    have Rt716 := own_H.put hE hF hV hlki hlo hT K714 hj (allS (Or.inl hB.2.2.2.2.1) (allS (Or.inr hli) all0)) Nt716 (fun j hj' e => by rw [hg]; obtain ⟨a1, a2, a3⟩ := own_lvN e li sz; obtain ⟨b1, b2, b3⟩ := own_lvN e li sz714; exact ⟨a1.trans b1.symm, a2.trans b2.symm, a3.trans b3.symm⟩) (fun _ => ⟨hli, hgl, f1_714, p0_714⟩)
    rw [own_upd_id, own_upd_id, own_upd_id] at Rt716
    have c730 := (Nat.le_trans (Nat.le_refl _) K714.1)
    have c731 := (hE.keep K714)
    exact own_retV X714 hx hrt (D 6) hlk ⟨kF, pF, uF, sz714, rfl, N715, c730, c731, (by unfold own_g; rw [if_neg (fun q => own_posm q.1 hm)]; exact Rt716), (by unfold own_m own_c; have h0_ : ¬ M ky = 0 := (by rw [hm]; decide); have h1_ : ¬ M ky = jd := (fun q => own_posm hjd (q.symm.trans hm)); rw [if_neg h0_, if_neg h0_, if_neg h1_]; exact own_inv2 hinv (own_um_id hm)), (fun q => absurd hm (own_posm q.1))⟩ (by decide) (by decide)
def Q_own_kr (Z : State) (ki : Addr) (kF : Nat → List Int64) (pF : Nat → List Int32) (uF : Nat → Nat) (gj : Nat) (sz : Int32) (M : Int64 → Int32) (cJ : Int64) (nn : Nat) (ky : Int64) (jd : Int32) (h0 : Heap) (n0 : Nat) (v : Option Value) (h : Heap) (L : List Loc) : Prop := ∃ (uF2 : Nat → Nat), v = none ∧ Fr n0 L ∧ h0.size ≤ h.size ∧ own_Ek Z h ki ∧ own_HK Z h ki uF2 ∧ own_sj uF2 64 = own_rc M cJ ky jd
set_option maxRecDepth 65536 in
set_option maxHeartbeats 40000000 in
theorem own_kr (l : Launch) (Z : State) (a0 : Array Value) (hw : own_HW a0 Z) (ws : List Jvm.Cond) (ki : Addr) (kF : Nat → List Int64) (pF : Nat → List Int32) (uF : Nat → Nat) (gj : Nat) (sz : Int32) (M : Int64 → Int32) (cJ : Int64) (nn : Nat) (ky : Int64) (jd : Int32) (h0 : Heap) (n0 : Nat) (Z0 : n0 ≤ h0.size) (x_H : own_H Z h0 n0 ki kF pF uF gj sz) (hinv : own_inv kF pF uF M cJ nn) (hnn : nn ≤ 3) (hjd : 0 < jd) (hsgn : 0 < M ky ∨ M ky = -1) (hc3 : M ky = -1 → gj = own_j ky) :
    own_Met l Z ⟨"com/example/vaxwire/vaxwire/registry/KeyIndex", "remove", "(JI)V"⟩ prog_100_method_3_code 4 none ws ⟨3, 0, 0, 54⟩ #[(.ref ki), (.long ky), (.int jd)] h0 (Q_own_kr Z ki kF pF uF gj sz M cJ nn ky jd h0 n0) := by
  refine own_bodyN (g0 := fun m => mkF m 0 #[sR ki, sJ ky, .second, sI jd] []) (plainFor_of_name pn_2) (fun _ => rfl) ?_
  intro p e s m below meth c s₁ hx hby hml hrt hlk hown hnm hZ e0 X0
  have D := own_d hby kD16
  have hH := x_H
  obtain ⟨tA, qT, fT, fK, fP, fL, fS, fF, cK, cP, cL, cS, cF, lo, li, qi, y0, y1, y2, y3, hE, hF, hV, hlki, hlo, hT, hL⟩ := x_H
  have hj := own_jlt ky
  obtain ⟨hkl, hpl, -, hun, -⟩ := hinv.1 (own_j ky) hj
  obtain ⟨tt, htt, hpt, hcs⟩ := own_fex hinv (by omega) ky hj
  have hB := hT.2.1 (own_j ky) hj
  have hl64 := own_lo hT.2.2.1 64 ((own_j ky) + 1) (by omega) (by omega)
  obtain ⟨t1, t2, t3, t4, t5, t6, t7, t8, t9, v1, v2, v3, v4, v5, ov, ⟨g1, g2, g3, g4, g5, g6⟩, n1, n2, n3⟩ := hT.1 (own_j ky) hj
  have ty732 : ki ≠ tA := (Exa.neArv hE hV (w1 hw))
  have ty733 : ki ≠ (fT (own_j ky)) := (Exa.ne hE t1 (by decide))
  have ty734 : ki ≠ (fK (own_j ky)) := (Exa.neArv hE v1 (w1 hw))
  have ty735 : ki ≠ (fP (own_j ky)) := (Exa.neArv hE v2 (w1 hw))
  have ty736 : ki ≠ (fL (own_j ky)) := (Exa.neArv hE v3 (w1 hw))
  have ty737 : ki ≠ (fS (own_j ky)) := (Exa.neArv hE v4 (w1 hw))
  have ty738 : ki ≠ (fF (own_j ky)) := (Exa.neArv hE v5 (w1 hw))
  have ty739 : tA ≠ (fT (own_j ky)) := (Ne.symm (Exa.neArv t1 hV (w13 hw)))
  have ty740 : tA ≠ (fK (own_j ky)) := (own_arr_ne hV v1 (by decide))
  have ty741 : tA ≠ (fP (own_j ky)) := (own_arr_ne hV v2 (by decide))
  have ty742 : tA ≠ (fL (own_j ky)) := (own_arr_ne hV v3 (by decide))
  have ty743 : tA ≠ (fS (own_j ky)) := (own_arr_ne hV v4 (by decide))
  have ty744 : tA ≠ (fF (own_j ky)) := (own_arr_ne hV v5 (by decide))
  have ty745 : (fT (own_j ky)) ≠ (fK (own_j ky)) := (Exa.neArv t1 v1 (w13 hw))
  have ty746 : (fT (own_j ky)) ≠ (fP (own_j ky)) := (Exa.neArv t1 v2 (w13 hw))
  have ty747 : (fT (own_j ky)) ≠ (fL (own_j ky)) := (Exa.neArv t1 v3 (w13 hw))
  have ty748 : (fT (own_j ky)) ≠ (fS (own_j ky)) := (Exa.neArv t1 v4 (w13 hw))
  have ty749 : (fT (own_j ky)) ≠ (fF (own_j ky)) := (Exa.neArv t1 v5 (w13 hw))
  have ty750 : (fK (own_j ky)) ≠ (fP (own_j ky)) := (own_arr_ne v1 v2 (by decide))
  have ty751 : (fK (own_j ky)) ≠ (fL (own_j ky)) := (own_arr_ne v1 v3 (by decide))
  have ty752 : (fK (own_j ky)) ≠ (fS (own_j ky)) := (own_arr_ne v1 v4 (by decide))
  have ty753 : (fK (own_j ky)) ≠ (fF (own_j ky)) := (own_arr_ne v1 v5 (by decide))
  have ty754 : (fP (own_j ky)) ≠ (fL (own_j ky)) := (own_arr_ne v2 v3 (by decide))
  have ty755 : (fL (own_j ky)) ≠ (fS (own_j ky)) := (own_arr_ne v3 v4 (by decide))
  have ty756 : (fL (own_j ky)) ≠ (fF (own_j ky)) := (own_arr_ne v3 v5 (by decide))
  refine own_step (g' := (mkF m 2 #[sR ki, sJ ky, .second, sI jd] [(.long ky), (.ref ki)])) (fun _ q => XS.aloadN X0.here hx rfl (D 0) rfl rfl (XT.lloadN X0.here hx rfl (D 1) rfl q)) ?_
  refine own_callQ X0 hx hZ hown (w46 hw) (w47 hw) (w1 hw) (w48 hw) (w49 hw) (by decide) (own_bO (W := 0) (own_tab l Z a0 hw [] ki tA qT fT ky h0 n0 Z0 hE hF hV) hZ (w49 hw) (w2 hw) rfl rfl) e0 hE  (by decide) (by decide) (argsL := [(.long ky)]) (rest := []) rfl hml.symm (lenOf pd_8 rfl) rfl rfl (own_w0 rfl rfl) (D 2) ?_
  rintro _ T757 L757 X757 ⟨rfl, N757q, e757⟩
  have N758 := Fr.app (Fr.nil n0) N757q
  refine own_step (g' := (mkF m 7 #[sR ki, sJ ky, .second, sI jd] [(.int jd), (.long ky), (.ref (fT (own_j ky)))])) (fun _ q => XT.lloadN X757.here hx rfl (D 3) rfl (XS.iloadN X757.here hx rfl (D 4) rfl q)) ?_
  have hsg2 := hc3
  rcases own_5 (jd := jd) hcs hsgn hc3 (fun q => (hL q).2.2.2) hj with ⟨hpos, hq, hpM, heq⟩ | ⟨hpos, hq, hpM, hnj⟩ | ⟨hm, hq, hpM, hg, hsz⟩ | ⟨hm, hq, hpM, hg, hsz⟩
  · obtain ⟨hu1, te, hte, hne, hem⟩ := own_eex hinv hnn hj (own_qlt ky tt) hq.1
    refine own_callV X757 hx hZ hown (w96 hw) (w97 hw) (notFace_of_selects (args := #[]) (mvT hZ (w99 hw))) (w99 hw) (w98 hw) (by decide) (own_bO (W := 0) (own_re1 l Z a0 hw [] (fT (own_j ky)) (fK (own_j ky)) (fP (own_j ky)) (fL (own_j ky)) (fS (own_j ky)) (fF (own_j ky)) (cK (own_j ky)) (cP (own_j ky)) (kF (own_j ky)) (pF (own_j ky)) (uF (own_j ky)) (own_lc gj (own_j ky)) ky jd tt te h0 n0 Z0 t1 t2 t3 t4 t5 t6 t7 t8 t9 v1 v2 g1 g2 g3 hkl hpl hpt hq (by rw [hpM]; exact hpos : 0 < ((pF (own_j ky)).getD (own_q ky tt) 0)) (by rw [hpM]; exact heq : ((pF (own_j ky)).getD (own_q ky tt) 0) = jd) hte (hne : ∀ i, i < te → ¬ (pF (own_j ky)).getD (((own_q ky tt) + 1 + i) % 16) 0 = 0) hem) hZ (w100 hw) (w14 hw) rfl rfl) e757 t1  (by decide) (by decide) (argsL := [(.long ky), (.int jd)]) (rest := []) rfl hml.symm (lenOf pd_9 rfl) rfl rfl (own_w0 rfl rfl) (D 5) ?_
    rintro _ T759 L759 X759 ⟨rfl, N759q, K759, f0_759, f1_759⟩
    have N760 := Fr.app N758 N759q
    have qF762 : ((.int ((Int32.ofNat (uF (own_j ky))) - (1 : Int32))) : Value) = (.int (Int32.ofNat (uF (own_j ky) - 1))) := (by rw [(own_usub hu1 (by omega)).1])
    have F762 : Fld Z T759.heap (fT (own_j ky)) "com/example/vaxwire/vaxwire/registry/KeyIndex$Table" "used" "I" (.int (Int32.ofNat (uF (own_j ky) - 1))) := own_fixf qF762 f1_759
    have Rt761 := own_HK_put hE hF hV hlki hlo hT K759 hj (allS (Or.inl hB.1) (allS (Or.inl hB.2.1) (allS (Or.inl hB.2.2.1) all0))) f0_759 F762
    have c763 := (Nat.le_trans (Nat.le_refl _) K759.1)
    have c764 := (hE.keep K759)
    exact own_retV X759 hx hrt (D 6) hlk ⟨(own_upd uF (own_j ky) (uF (own_j ky) - 1)), rfl, N760, c763, c764, Rt761, (by unfold own_rc; rw [if_pos heq, own_sj_up (own_usub hu1 (by omega)).2 64 hj, hinv.2.2.2, Int64.sub_eq_add_neg])⟩ (by decide) (by decide)
  · refine own_callV X757 hx hZ hown (w96 hw) (w97 hw) (notFace_of_selects (args := #[]) (mvT hZ (w99 hw))) (w99 hw) (w98 hw) (by decide) (own_bO (W := 0) (own_re2 l Z a0 hw [] (fT (own_j ky)) (fK (own_j ky)) (fP (own_j ky)) (cK (own_j ky)) (cP (own_j ky)) (kF (own_j ky)) (pF (own_j ky)) ky tt jd h0 n0 Z0 t1 t2 t3 v1 v2 hkl hpl hpt hq (by rw [hpM]; exact hpos : 0 < ((pF (own_j ky)).getD (own_q ky tt) 0)) (by rw [hpM]; exact hnj : ¬ ((pF (own_j ky)).getD (own_q ky tt) 0) = jd)) hZ (w100 hw) (w14 hw) rfl rfl) e757 t1  (by decide) (by decide) (argsL := [(.long ky), (.int jd)]) (rest := []) rfl hml.symm (lenOf pd_9 rfl) rfl rfl (own_w0 rfl rfl) (D 5) ?_
    rintro _ T765 L765 X765 ⟨rfl, N765q, e765⟩
    have N766 := Fr.app N758 N765q
    exact own_retV X765 hx hrt (D 6) hlk (by rw [e765]; exact ⟨uF, rfl, N766, (Nat.le_refl _), hE, hH.HK, (by unfold own_rc; rw [if_neg hnj]; exact hinv.2.2.2)⟩) (by decide) (by decide)
  · have qF767 : ((.int (own_lc gj (own_j ky))) : Value) = (.int (1 : Int32)) := (by rw [hg, own_lcE])
    have F767 : Fld Z h0 (fT (own_j ky)) "com/example/vaxwire/vaxwire/registry/KeyIndex$Table" "listCount" "I" (.int (1 : Int32)) := own_fixf qF767 t9
    have qV768 : ((own_lv gj li (own_j ky)) : List Value) = [(.ref li), .null, .null, .null] := (by rw [hg, own_lvE])
    have V768 : Arv Z h0 (fL (own_j ky)) (cL (own_j ky)) (.array .int) (4 : Int32) [(.ref li), .null, .null, .null] .null := own_fixv qV768 v3
    have qV769 : ((own_sv gj sz (own_j ky)) : List Value) = [(.int (2 : Int32)), (.int (0 : Int32)), (.int (0 : Int32)), (.int (0 : Int32))] := (by rw [hg, own_svE, hsz])
    have V769 : Arv Z h0 (fS (own_j ky)) (cS (own_j ky)) .int (4 : Int32) [(.int (2 : Int32)), (.int (0 : Int32)), (.int (0 : Int32)), (.int (0 : Int32))] (.int (0 : Int32)) := own_fixv qV769 v4
    obtain ⟨hli, hgl, vli, -⟩ := hL (by rw [hg]; exact hj)
    have ty770 : ki ≠ li := (Exa.neArv hE vli (w1 hw))
    have ty771 : tA ≠ li := (own_arr_ne hV vli (by decide))
    have ty772 : (fT (own_j ky)) ≠ li := (Exa.neArv t1 vli (w13 hw))
    have ty773 : (fK (own_j ky)) ≠ li := (own_arr_ne v1 vli (by decide))
    have ty774 : (fL (own_j ky)) ≠ li := (own_arr_ne V768 vli (by decide))
    have nl775 : ¬ (fP (own_j ky)) = li := fun q => by have := hB.2.2.1; rw [q] at this; omega
    have nl776 : ¬ (fS (own_j ky)) = li := fun q => by have := hB.2.2.2.2.1; rw [q] at this; omega
    have nl777 : ¬ (fF (own_j ky)) = li := fun q => by have := hB.2.2.2.2.2; rw [q] at this; omega
    refine own_callV X757 hx hZ hown (w96 hw) (w97 hw) (notFace_of_selects (args := #[]) (mvT hZ (w99 hw))) (w99 hw) (w98 hw) (by decide) (own_bO (W := 0) (own_rl2 l Z a0 hw [] (fT (own_j ky)) (fK (own_j ky)) (fP (own_j ky)) (fL (own_j ky)) (fS (own_j ky)) (fF (own_j ky)) (cK (own_j ky)) (cP (own_j ky)) (cL (own_j ky)) (cS (own_j ky)) (cF (own_j ky)) (kF (own_j ky)) (pF (own_j ky)) (uF (own_j ky)) li qi y0 y1 y2 y3 ky jd tt h0 n0 Z0 t1 t2 t3 t4 t5 t6 t7 t8 F767 v1 v2 V768 V769 v5 vli g1 g3 g4 g5 g6 hgl n1 n2 n3 nl775 nl776 nl777 hkl hpl hpt hq (by rw [hpM]; exact hm : ((pF (own_j ky)).getD (own_q ky tt) 0) = (-1 : Int32))) hZ (w100 hw) (w14 hw) rfl rfl) e757 t1  (by decide) (by decide) (argsL := [(.long ky), (.int jd)]) (rest := []) rfl hml.symm (lenOf pd_9 rfl) rfl rfl (own_w0 rfl rfl) (D 5) ?_
    rintro _ T778 L778 X778 ⟨rfl, N778q, K778, f0_778, f1_778⟩
    have N779 := Fr.app N758 N778q
    have Rt780 := own_HK_put hE hF hV hlki hlo hT K778 hj (allS (Or.inl hB.1) (allS (Or.inl hB.2.2.1) (allS (Or.inl hB.2.2.2.1) (allS (Or.inl hB.2.2.2.2.1) (allS (Or.inl hB.2.2.2.2.2) (allS (Or.inr hli) all0)))))) f0_778 f1_778
    rw [own_upd_id] at Rt780
    have c781 := (Nat.le_trans (Nat.le_refl _) K778.1)
    have c782 := (hE.keep K778)
    exact own_retV X778 hx hrt (D 6) hlk ⟨uF, rfl, N779, c781, c782, Rt780, (by unfold own_rc; have h1_ : ¬ M ky = jd := (fun q => own_posm hjd (q.symm.trans hm)); rw [if_neg h1_]; exact hinv.2.2.2)⟩ (by decide) (by decide)
  · have qF783 : ((.int (own_lc gj (own_j ky))) : Value) = (.int (1 : Int32)) := (by rw [hg, own_lcE])
    have F783 : Fld Z h0 (fT (own_j ky)) "com/example/vaxwire/vaxwire/registry/KeyIndex$Table" "listCount" "I" (.int (1 : Int32)) := own_fixf qF783 t9
    have qV784 : ((own_lv gj li (own_j ky)) : List Value) = [(.ref li), .null, .null, .null] := (by rw [hg, own_lvE])
    have V784 : Arv Z h0 (fL (own_j ky)) (cL (own_j ky)) (.array .int) (4 : Int32) [(.ref li), .null, .null, .null] .null := own_fixv qV784 v3
    have qV785 : ((own_sv gj sz (own_j ky)) : List Value) = [(.int (3 : Int32)), (.int (0 : Int32)), (.int (0 : Int32)), (.int (0 : Int32))] := (by rw [hg, own_svE, hsz])
    have V785 : Arv Z h0 (fS (own_j ky)) (cS (own_j ky)) .int (4 : Int32) [(.int (3 : Int32)), (.int (0 : Int32)), (.int (0 : Int32)), (.int (0 : Int32))] (.int (0 : Int32)) := own_fixv qV785 v4
    obtain ⟨hli, hgl, vli, -⟩ := hL (by rw [hg]; exact hj)
    have ty786 : ki ≠ li := (Exa.neArv hE vli (w1 hw))
    have ty787 : tA ≠ li := (own_arr_ne hV vli (by decide))
    have ty788 : (fT (own_j ky)) ≠ li := (Exa.neArv t1 vli (w13 hw))
    have ty789 : (fK (own_j ky)) ≠ li := (own_arr_ne v1 vli (by decide))
    have ty790 : (fL (own_j ky)) ≠ li := (own_arr_ne V784 vli (by decide))
    have nl791 : ¬ (fP (own_j ky)) = li := fun q => by have := hB.2.2.1; rw [q] at this; omega
    have nl792 : ¬ (fS (own_j ky)) = li := fun q => by have := hB.2.2.2.2.1; rw [q] at this; omega
    have nl793 : ¬ (fF (own_j ky)) = li := fun q => by have := hB.2.2.2.2.2; rw [q] at this; omega
    refine own_callV X757 hx hZ hown (w96 hw) (w97 hw) (notFace_of_selects (args := #[]) (mvT hZ (w99 hw))) (w99 hw) (w98 hw) (by decide) (own_bO (W := 0) (own_rl3 l Z a0 hw [] (fT (own_j ky)) (fK (own_j ky)) (fP (own_j ky)) (fL (own_j ky)) (fS (own_j ky)) (fF (own_j ky)) (cK (own_j ky)) (cP (own_j ky)) (cL (own_j ky)) (cS (own_j ky)) (cF (own_j ky)) (kF (own_j ky)) (pF (own_j ky)) (uF (own_j ky)) li qi y0 y1 y2 y3 ky jd tt h0 n0 Z0 t1 t2 t3 t4 t5 t6 t7 t8 F783 v1 v2 V784 V785 v5 vli g1 g3 g4 g5 g6 hgl n1 n2 n3 nl791 nl792 nl793 hkl hpl hpt hq (by rw [hpM]; exact hm : ((pF (own_j ky)).getD (own_q ky tt) 0) = (-1 : Int32))) hZ (w100 hw) (w14 hw) rfl rfl) e757 t1  (by decide) (by decide) (argsL := [(.long ky), (.int jd)]) (rest := []) rfl hml.symm (lenOf pd_9 rfl) rfl rfl (own_w0 rfl rfl) (D 5) ?_
    rintro _ T794 L794 X794 ⟨rfl, N794q, K794, f0_794, f1_794⟩
    have N795 := Fr.app N758 N794q
    have Rt796 := own_HK_put hE hF hV hlki hlo hT K794 hj (allS (Or.inl hB.1) (allS (Or.inl hB.2.2.1) (allS (Or.inl hB.2.2.2.1) (allS (Or.inl hB.2.2.2.2.1) (allS (Or.inl hB.2.2.2.2.2) (allS (Or.inr hli) all0)))))) f0_794 f1_794
    rw [own_upd_id] at Rt796
    have c797 := (Nat.le_trans (Nat.le_refl _) K794.1)
    have c798 := (hE.keep K794)
    exact own_retV X794 hx hrt (D 6) hlk ⟨uF, rfl, N795, c797, c798, Rt796, (by unfold own_rc; have h1_ : ¬ M ky = jd := (fun q => own_posm hjd (q.symm.trans hm)); rw [if_neg h1_]; exact hinv.2.2.2)⟩ (by decide) (by decide)
theorem pn_3 : plainName "com/example/vaxwire/vaxwire/registry/KeyIndexKeysPinLaw" = true := by first | (simp [plainName, overriddenIn]; done) | decide +kernel
theorem pd_10 : parseMethodDescriptor "()J" = some ⟨[], some .long⟩ := by decide +kernel
def Q_own_law (Z : State) (xa xb xc : Int64) (di dp : Int32) (h0 : Heap) (n0 : Nat) (v : Option Value) (h : Heap) (L : List Loc) : Prop := v = some (.int (1 : Int32)) ∧ Fr n0 L ∧ h0.size ≤ h.size
set_option maxRecDepth 65536 in
set_option maxHeartbeats 40000000 in
theorem own_law (l : Launch) (Z : State) (a0 : Array Value) (hw : own_HW a0 Z) (ws : List Jvm.Cond) (xa xb xc : Int64) (di dp : Int32) (h0 : Heap) (n0 : Nat) (Z0 : n0 ≤ h0.size)  :
    MetFree l x (head1 (Jvm.Cond.code x code maxLocals ret :: ws) room_1) (fun ag U => ag = #[(.long xa), (.long xb), (.long xc), (.int di), (.int dp)] ∧ Z.Warmed39 U.vm ∧ U.heap = h0) (fun _ _ _ _ _ => True) (fun _ U o U' => ∃ v L, o = .returned v ∧ Q_own_law Z xa xb xc di dp h0 n0 v U'.heap L ∧ FrameEnd U o U' L room_1.cells room_1.slots) := by
  refine own_body (plainFor_of_name pn_3) ?_
  intro p e s m below meth c s₁ Bd hml hZ e0
  have hrt := Bd.returns
  have D : ∀ {pc : Nat} {y : Except DecodeError (Instr × Nat)}, decode code pc = y → decode c.code pc = y := fun q => hb Bd.bytes q
  have hx := Bd.exec
  have hby := Bd.bytes
  have hlk : meth.locks = false := BodyLoose.notSynchronized Bd
  have hown : s.vm.findClass "com/example/vaxwire/vaxwire/registry/KeyIndexKeysPinLaw" = some m.cls := findClass_of_methodNamed Bd.named
  have hnm := (name_of_methodNamed Bd.named Bd.method).1
  have X0 : Stand p l e room_1 s m #[(.long xa), (.long xb), (.long xc), (.int di), (.int dp)] below meth c s₁ [] 0 0 := Stand.of_body Bd
  have N0 := Fr.nil n0
  refine own_cast (g' := (mkF m 0 #[sJ xa, .second, sJ xb, .second, sJ xc, .second, sI di, sI dp, .unset, .unset, .unset, .unset, .unset, .unset, .unset, .unset, .unset, .unset, .unset, .unset, .unset, .unset, .unset, .unset, .unset] [])) (by first | (simp [entryFrame, mkF, argsToLocals, own_cat_int, own_cat_long, own_cat_ref, own_cat_null, maxLocals]; done) | rfl) ?_
  have lp_j12 : ∀ (k2 : Int64) (T_j12 : State) (h_j12 : Heap) (L_j12 : List Loc) (X_j12 : Stand p l e room_1 s m #[(.long xa), (.long xb), (.long xc), (.int di), (.int dp)] below meth c T_j12 L_j12 0 0) (e_j12 : T_j12.heap = h_j12) (N_j12 : Fr n0 L_j12) (KL_j12 : Keep h0 h_j12 [])  , own_Fin p e below (own_G s (Q_own_law Z xa xb xc di dp h0 n0) room_1.cells room_1.slots) T_j12 (mkF m 12 #[sJ xa, .second, sJ xb, .second, sJ xc, .second, sI di, sI dp, .unset, .unset, .unset, .unset, .unset, .unset, .unset, .unset, .unset, .unset, .unset, .unset, .unset, .unset, .unset, .unset, .unset] [(.long k2)]) := by
    intro k2 T_j12 h_j12 L_j12 X_j12 e_j12 N_j12 KL_j12  
    refine own_step (g' := (mkF m 22 #[sJ xa, .second, sJ xb, .second, sJ xc, .second, sI di, sI dp, sJ k2, .second, sI ((XT.ushr dp (1 : Int32)) &&& (3 : Int32)), .unset, .unset, .unset, .unset, .unset, .unset, .unset, .unset, .unset, .unset, .unset, .unset, .unset, .unset] [])) (fun _ q => XT.lstore X_j12.here hx rfl (D at_12) rfl (l' := #[sJ xa, .second, sJ xb, .second, sJ xc, .second, sI di, sI dp, sJ k2, .second, .unset, .unset, .unset, .unset, .unset, .unset, .unset, .unset, .unset, .unset, .unset, .unset, .unset, .unset, .unset]) rfl (XS.iload X_j12.here hx rfl (D at_14) rfl (XS.iconst X_j12.here hx rfl (D at_16) (XT.iushr X_j12.here hx rfl (D at_17) rfl (XS.iconst X_j12.here hx rfl (D at_18) (XS.iand X_j12.here hx rfl (D at_19) rfl (XS.istore X_j12.here hx rfl (D at_20) rfl (l' := #[sJ xa, .second, sJ xb, .second, sJ xc, .second, sI di, sI dp, sJ k2, .second, sI ((XT.ushr dp (1 : Int32)) &&& (3 : Int32)), .unset, .unset, .unset, .unset, .unset, .unset, .unset, .unset, .unset, .unset, .unset, .unset, .unset, .unset]) rfl q))))))) ?_
    have lp_j45 : ∀ (k3 : Int64) (T_j45 : State) (h_j45 : Heap) (L_j45 : List Loc) (X_j45 : Stand p l e room_1 s m #[(.long xa), (.long xb), (.long xc), (.int di), (.int dp)] below meth c T_j45 L_j45 0 0) (e_j45 : T_j45.heap = h_j45) (N_j45 : Fr n0 L_j45) (KL_j45 : Keep h_j12 h_j45 [])  , own_Fin p e below (own_G s (Q_own_law Z xa xb xc di dp h0 n0) room_1.cells room_1.slots) T_j45 (mkF m 45 #[sJ xa, .second, sJ xb, .second, sJ xc, .second, sI di, sI dp, sJ k2, .second, sI ((XT.ushr dp (1 : Int32)) &&& (3 : Int32)), .unset, .unset, .unset, .unset, .unset, .unset, .unset, .unset, .unset, .unset, .unset, .unset, .unset, .unset] [(.long k3)]) := by
      intro k3 T_j45 h_j45 L_j45 X_j45 e_j45 N_j45 KL_j45  
      refine own_step (g' := (mkF m 59 #[sJ xa, .second, sJ xb, .second, sJ xc, .second, sI di, sI dp, sJ k2, .second, sI ((XT.ushr dp (1 : Int32)) &&& (3 : Int32)), sJ k3, .second, sI ((di &&& (3 : Int32)) + (1 : Int32)), .unset, .unset, .unset, .unset, .unset, .unset, .unset, .unset, .unset, .unset, .unset] [(.int (XT.ushr di (2 : Int32)))])) (fun _ q => XT.lstore X_j45.here hx rfl (D at_45) rfl (l' := #[sJ xa, .second, sJ xb, .second, sJ xc, .second, sI di, sI dp, sJ k2, .second, sI ((XT.ushr dp (1 : Int32)) &&& (3 : Int32)), sJ k3, .second, .unset, .unset, .unset, .unset, .unset, .unset, .unset, .unset, .unset, .unset, .unset, .unset]) rfl (XS.iload X_j45.here hx rfl (D at_47) rfl (XS.iconst X_j45.here hx rfl (D at_49) (XS.iand X_j45.here hx rfl (D at_50) rfl (XS.iconst X_j45.here hx rfl (D at_51) (XS.iadd X_j45.here hx rfl (D at_52) rfl (XS.istore X_j45.here hx rfl (D at_53) rfl (l' := #[sJ xa, .second, sJ xb, .second, sJ xc, .second, sI di, sI dp, sJ k2, .second, sI ((XT.ushr dp (1 : Int32)) &&& (3 : Int32)), sJ k3, .second, sI ((di &&& (3 : Int32)) + (1 : Int32)), .unset, .unset, .unset, .unset, .unset, .unset, .unset, .unset, .unset, .unset, .unset]) rfl (XS.iload X_j45.here hx rfl (D at_55) rfl (XS.iconst X_j45.here hx rfl (D at_57) (XT.iushr X_j45.here hx rfl (D at_58) rfl q)))))))))) ?_
      refine own_step (g' := (mkF m 71 #[sJ xa, .second, sJ xb, .second, sJ xc, .second, sI di, sI dp, sJ k2, .second, sI ((XT.ushr dp (1 : Int32)) &&& (3 : Int32)), sJ k3, .second, sI ((di &&& (3 : Int32)) + (1 : Int32)), sI (((XT.ushr di (2 : Int32)) &&& (3 : Int32)) + (1 : Int32)), .unset, .unset, .unset, .unset, .unset, .unset, .unset, .unset, .unset, .unset] [(.int ((XT.ushr di (4 : Int32)) &&& (3 : Int32)))])) (fun _ q => XS.iconst X_j45.here hx rfl (D at_59) (XS.iand X_j45.here hx rfl (D at_60) rfl (XS.iconst X_j45.here hx rfl (D at_61) (XS.iadd X_j45.here hx rfl (D at_62) rfl (XS.istore X_j45.here hx rfl (D at_63) rfl (l' := #[sJ xa, .second, sJ xb, .second, sJ xc, .second, sI di, sI dp, sJ k2, .second, sI ((XT.ushr dp (1 : Int32)) &&& (3 : Int32)), sJ k3, .second, sI ((di &&& (3 : Int32)) + (1 : Int32)), sI (((XT.ushr di (2 : Int32)) &&& (3 : Int32)) + (1 : Int32)), .unset, .unset, .unset, .unset, .unset, .unset, .unset, .unset, .unset, .unset]) rfl (XS.iload X_j45.here hx rfl (D at_65) rfl (XS.iconst X_j45.here hx rfl (D at_67) (XT.iushr X_j45.here hx rfl (D at_68) rfl (XS.iconst X_j45.here hx rfl (D at_69) (XS.iand X_j45.here hx rfl (D at_70) rfl q)))))))))) ?_
      refine own_step (g' := (mkF m 84 #[sJ xa, .second, sJ xb, .second, sJ xc, .second, sI di, sI dp, sJ k2, .second, sI ((XT.ushr dp (1 : Int32)) &&& (3 : Int32)), sJ k3, .second, sI ((di &&& (3 : Int32)) + (1 : Int32)), sI (((XT.ushr di (2 : Int32)) &&& (3 : Int32)) + (1 : Int32)), sI (((XT.ushr di (4 : Int32)) &&& (3 : Int32)) + (1 : Int32)), .unset, .unset, .unset, .unset, .unset, .unset, .unset, .unset, .unset] [(.int (((XT.ushr di (6 : Int32)) &&& (3 : Int32)) + (1 : Int32)))])) (fun _ q => XS.iconst X_j45.here hx rfl (D at_71) (XS.iadd X_j45.here hx rfl (D at_72) rfl (XS.istore X_j45.here hx rfl (D at_73) rfl (l' := #[sJ xa, .second, sJ xb, .second, sJ xc, .second, sI di, sI dp, sJ k2, .second, sI ((XT.ushr dp (1 : Int32)) &&& (3 : Int32)), sJ k3, .second, sI ((di &&& (3 : Int32)) + (1 : Int32)), sI (((XT.ushr di (2 : Int32)) &&& (3 : Int32)) + (1 : Int32)), sI (((XT.ushr di (4 : Int32)) &&& (3 : Int32)) + (1 : Int32)), .unset, .unset, .unset, .unset, .unset, .unset, .unset, .unset, .unset]) rfl (XS.iload X_j45.here hx rfl (D at_75) rfl (XS.bipush X_j45.here hx rfl (D at_77) (XT.iushr X_j45.here hx rfl (D at_79) rfl (XS.iconst X_j45.here hx rfl (D at_80) (XS.iand X_j45.here hx rfl (D at_81) rfl (XS.iconst X_j45.here hx rfl (D at_82) (XS.iadd X_j45.here hx rfl (D at_83) rfl q)))))))))) ?_
      refine own_step (g' := (mkF m 86 #[sJ xa, .second, sJ xb, .second, sJ xc, .second, sI di, sI dp, sJ k2, .second, sI ((XT.ushr dp (1 : Int32)) &&& (3 : Int32)), sJ k3, .second, sI ((di &&& (3 : Int32)) + (1 : Int32)), sI (((XT.ushr di (2 : Int32)) &&& (3 : Int32)) + (1 : Int32)), sI (((XT.ushr di (4 : Int32)) &&& (3 : Int32)) + (1 : Int32)), sI (((XT.ushr di (6 : Int32)) &&& (3 : Int32)) + (1 : Int32)), .unset, .unset, .unset, .unset, .unset, .unset, .unset, .unset] [])) (fun _ q => XS.istore X_j45.here hx rfl (D at_84) rfl (l' := #[sJ xa, .second, sJ xb, .second, sJ xc, .second, sI di, sI dp, sJ k2, .second, sI ((XT.ushr dp (1 : Int32)) &&& (3 : Int32)), sJ k3, .second, sI ((di &&& (3 : Int32)) + (1 : Int32)), sI (((XT.ushr di (2 : Int32)) &&& (3 : Int32)) + (1 : Int32)), sI (((XT.ushr di (4 : Int32)) &&& (3 : Int32)) + (1 : Int32)), sI (((XT.ushr di (6 : Int32)) &&& (3 : Int32)) + (1 : Int32)), .unset, .unset, .unset, .unset, .unset, .unset, .unset, .unset]) rfl q) ?_
      have lp_j100 : ∀ (dr : Int32) (T_j100 : State) (h_j100 : Heap) (L_j100 : List Loc) (X_j100 : Stand p l e room_1 s m #[(.long xa), (.long xb), (.long xc), (.int di), (.int dp)] below meth c T_j100 L_j100 0 0) (e_j100 : T_j100.heap = h_j100) (N_j100 : Fr n0 L_j100) (KL_j100 : Keep h_j45 h_j100 [])  , own_Fin p e below (own_G s (Q_own_law Z xa xb xc di dp h0 n0) room_1.cells room_1.slots) T_j100 (mkF m 100 #[sJ xa, .second, sJ xb, .second, sJ xc, .second, sI di, sI dp, sJ k2, .second, sI ((XT.ushr dp (1 : Int32)) &&& (3 : Int32)), sJ k3, .second, sI ((di &&& (3 : Int32)) + (1 : Int32)), sI (((XT.ushr di (2 : Int32)) &&& (3 : Int32)) + (1 : Int32)), sI (((XT.ushr di (4 : Int32)) &&& (3 : Int32)) + (1 : Int32)), sI (((XT.ushr di (6 : Int32)) &&& (3 : Int32)) + (1 : Int32)), .unset, .unset, .unset, .unset, .unset, .unset, .unset, .unset] [(.int dr)]) := by
        intro dr T_j100 h_j100 L_j100 X_j100 e_j100 N_j100 KL_j100  
        refine own_step (g' := (mkF m 102 #[sJ xa, .second, sJ xb, .second, sJ xc, .second, sI di, sI dp, sJ k2, .second, sI ((XT.ushr dp (1 : Int32)) &&& (3 : Int32)), sJ k3, .second, sI ((di &&& (3 : Int32)) + (1 : Int32)), sI (((XT.ushr di (2 : Int32)) &&& (3 : Int32)) + (1 : Int32)), sI (((XT.ushr di (4 : Int32)) &&& (3 : Int32)) + (1 : Int32)), sI (((XT.ushr di (6 : Int32)) &&& (3 : Int32)) + (1 : Int32)), sI dr, .unset, .unset, .unset, .unset, .unset, .unset, .unset] [])) (fun _ q => XS.istore X_j100.here hx rfl (D at_100) rfl (l' := #[sJ xa, .second, sJ xb, .second, sJ xc, .second, sI di, sI dp, sJ k2, .second, sI ((XT.ushr dp (1 : Int32)) &&& (3 : Int32)), sJ k3, .second, sI ((di &&& (3 : Int32)) + (1 : Int32)), sI (((XT.ushr di (2 : Int32)) &&& (3 : Int32)) + (1 : Int32)), sI (((XT.ushr di (4 : Int32)) &&& (3 : Int32)) + (1 : Int32)), sI (((XT.ushr di (6 : Int32)) &&& (3 : Int32)) + (1 : Int32)), sI dr, .unset, .unset, .unset, .unset, .unset, .unset, .unset]) rfl q) ?_
        obtain ⟨T799, h799, X799, e799, E799, A799, D799, -, st799⟩ := newO X_j100 hx hZ hown (w0 hw) (w1 hw) (w2 hw) e_j100 (g := (mkF m 102 #[sJ xa, .second, sJ xb, .second, sJ xc, .second, sI di, sI dp, sJ k2, .second, sI ((XT.ushr dp (1 : Int32)) &&& (3 : Int32)), sJ k3, .second, sI ((di &&& (3 : Int32)) + (1 : Int32)), sI (((XT.ushr di (2 : Int32)) &&& (3 : Int32)) + (1 : Int32)), sI (((XT.ushr di (4 : Int32)) &&& (3 : Int32)) + (1 : Int32)), sI (((XT.ushr di (6 : Int32)) &&& (3 : Int32)) + (1 : Int32)), sI dr, .unset, .unset, .unset, .unset, .unset, .unset, .unset] [])) rfl (D at_102) (by first | decide | (show _ ≤ (784 : Nat); first | omega | (dsimp only; omega))) (by first | decide | (show _ ≤ (6912 : Nat); first | omega | (dsimp only; omega)))
        obtain ⟨b799, g799⟩ : ∃ z, z = h_j100.size := ⟨_, rfl⟩
        rw [← g799] at A799 D799 st799
        have c800 := (Nat.le_trans (Nat.le_trans (Nat.le_trans Z0 KL_j12.1) KL_j45.1) KL_j100.1)
        have n0_801 : n0 ≤ b799 := Nat.le_trans c800 (Nat.le_of_eq g799.symm)
        have ltb799 := A799.lt
        have F802 : own_Ft Z h799 b799 .null := D799 (Or.inr (w12 hw)) (ty := (.array (.object "com/example/vaxwire/vaxwire/registry/KeyIndex$Table"))) (by decide)
        refine own_step (T' := T799) (g' := (mkF m 105 #[sJ xa, .second, sJ xb, .second, sJ xc, .second, sI di, sI dp, sJ k2, .second, sI ((XT.ushr dp (1 : Int32)) &&& (3 : Int32)), sJ k3, .second, sI ((di &&& (3 : Int32)) + (1 : Int32)), sI (((XT.ushr di (2 : Int32)) &&& (3 : Int32)) + (1 : Int32)), sI (((XT.ushr di (4 : Int32)) &&& (3 : Int32)) + (1 : Int32)), sI (((XT.ushr di (6 : Int32)) &&& (3 : Int32)) + (1 : Int32)), sI dr, .unset, .unset, .unset, .unset, .unset, .unset, .unset] [(.ref b799)])) st799 ?_
        refine own_step (g' := (mkF m 106 #[sJ xa, .second, sJ xb, .second, sJ xc, .second, sI di, sI dp, sJ k2, .second, sI ((XT.ushr dp (1 : Int32)) &&& (3 : Int32)), sJ k3, .second, sI ((di &&& (3 : Int32)) + (1 : Int32)), sI (((XT.ushr di (2 : Int32)) &&& (3 : Int32)) + (1 : Int32)), sI (((XT.ushr di (4 : Int32)) &&& (3 : Int32)) + (1 : Int32)), sI (((XT.ushr di (6 : Int32)) &&& (3 : Int32)) + (1 : Int32)), sI dr, .unset, .unset, .unset, .unset, .unset, .unset, .unset] [(.ref b799), (.ref b799)])) (fun _ q => XS.dup X799.here hx rfl (D at_105) rfl rfl q) ?_
        have c803 := (Nat.le_trans c800 E799.1)
        refine own_callC X799 hx hZ hown rfl (w3 hw) (w4 hw) (w5 hw) (by decide) (own_bO (W := 1) (own_ki l Z a0 hw [] b799 h799 n0 c803 A799 F802 n0_801) hZ (w5 hw) (w2 hw) rfl rfl) e799  (by first | decide | (show _ ≤ (784 : Nat); first | omega | (dsimp only; omega))) (by first | decide | (show _ ≤ (6912 : Nat); first | omega | (dsimp only; omega))) (argsL := []) (rest := [(.ref b799)]) rfl hml.symm (lenOf pd_7 rfl) rfl rfl (own_w0 rfl rfl) (D at_106) ?_
        rintro _ T804 L804 X804 ⟨rfl, N804q, K804, f0_804, f1_804⟩
        have hiv0 := own_inv_init
        have N805 := Fr.app N_j100 N804q
        refine own_step (g' := (mkF m 113 #[sJ xa, .second, sJ xb, .second, sJ xc, .second, sI di, sI dp, sJ k2, .second, sI ((XT.ushr dp (1 : Int32)) &&& (3 : Int32)), sJ k3, .second, sI ((di &&& (3 : Int32)) + (1 : Int32)), sI (((XT.ushr di (2 : Int32)) &&& (3 : Int32)) + (1 : Int32)), sI (((XT.ushr di (4 : Int32)) &&& (3 : Int32)) + (1 : Int32)), sI (((XT.ushr di (6 : Int32)) &&& (3 : Int32)) + (1 : Int32)), sI dr, sR b799, .unset, .unset, .unset, .unset, .unset, .unset] [(.ref b799)])) (fun _ q => XS.astore X804.here hx rfl (D at_109) rfl rfl (l' := #[sJ xa, .second, sJ xb, .second, sJ xc, .second, sI di, sI dp, sJ k2, .second, sI ((XT.ushr dp (1 : Int32)) &&& (3 : Int32)), sJ k3, .second, sI ((di &&& (3 : Int32)) + (1 : Int32)), sI (((XT.ushr di (2 : Int32)) &&& (3 : Int32)) + (1 : Int32)), sI (((XT.ushr di (4 : Int32)) &&& (3 : Int32)) + (1 : Int32)), sI (((XT.ushr di (6 : Int32)) &&& (3 : Int32)) + (1 : Int32)), sI dr, sR b799, .unset, .unset, .unset, .unset, .unset, .unset]) rfl (XS.aload X804.here hx rfl (D at_111) rfl rfl q)) ?_
        have hk806 := own_H.HK f1_804
        have c807 := (Nat.le_trans c803 K804)
        refine own_callV X804 hx hZ hown (w34 hw) (w35 hw) (notFace_of_selects (args := #[]) (mvT hZ (w37 hw))) (w37 hw) (w36 hw) (by decide) (own_bO (W := 0) (own_keys l Z a0 hw [] b799 (fun _ => 0) T804.heap n0 c807 hk806) hZ (w38 hw) (w2 hw) rfl rfl) rfl f0_804  (by first | decide | (show _ ≤ (784 : Nat); first | omega | (dsimp only; omega))) (by first | decide | (show _ ≤ (6912 : Nat); first | omega | (dsimp only; omega))) (argsL := []) (rest := []) rfl hml.symm (lenOf pd_10 rfl) rfl rfl (own_w0 rfl rfl) (D at_113) ?_
        rintro _ T808 L808 X808 ⟨rfl, N808q, e808⟩
        have N809 := Fr.app N805 N808q
        refine own_step (g' := (mkF m 118 #[sJ xa, .second, sJ xb, .second, sJ xc, .second, sI di, sI dp, sJ k2, .second, sI ((XT.ushr dp (1 : Int32)) &&& (3 : Int32)), sJ k3, .second, sI ((di &&& (3 : Int32)) + (1 : Int32)), sI (((XT.ushr di (2 : Int32)) &&& (3 : Int32)) + (1 : Int32)), sI (((XT.ushr di (4 : Int32)) &&& (3 : Int32)) + (1 : Int32)), sI (((XT.ushr di (6 : Int32)) &&& (3 : Int32)) + (1 : Int32)), sI dr, sR b799, .unset, .unset, .unset, .unset, .unset, .unset] [(.int (XT.cmpL (own_sj (fun _ => 0) 64) (0 : Int64)))])) (fun _ q => XT.lconst X808.here hx rfl (D at_116) (XT.lcmp X808.here hx rfl (D at_117) rfl q)) ?_
        have hc810 : ((own_sj (fun _ => 0) 64) = (0 : Int64)) := hiv0.2.2.2
        refine own_step (g' := (mkF m 133 #[sJ xa, .second, sJ xb, .second, sJ xc, .second, sI di, sI dp, sJ k2, .second, sI ((XT.ushr dp (1 : Int32)) &&& (3 : Int32)), sJ k3, .second, sI ((di &&& (3 : Int32)) + (1 : Int32)), sI (((XT.ushr di (2 : Int32)) &&& (3 : Int32)) + (1 : Int32)), sI (((XT.ushr di (4 : Int32)) &&& (3 : Int32)) + (1 : Int32)), sI (((XT.ushr di (6 : Int32)) &&& (3 : Int32)) + (1 : Int32)), sI dr, sR b799, sI 1, .unset, .unset, .unset, .unset, .unset] [(.int ((di &&& (3 : Int32)) + (1 : Int32))), (.long xa), (.ref b799)])) (fun _ q => XS.ifNo X808.here hx rfl (D at_118) rfl (XT.ll_ne_f hc810) (XS.iconst X808.here hx rfl (D at_121) (XS.goto X808.here hx rfl (pc0 := 122) (pc' := 126) rfl (D at_122) (by decide) (by decide) (XS.istore X808.here hx rfl (D at_126) rfl (l' := #[sJ xa, .second, sJ xb, .second, sJ xc, .second, sI di, sI dp, sJ k2, .second, sI ((XT.ushr dp (1 : Int32)) &&& (3 : Int32)), sJ k3, .second, sI ((di &&& (3 : Int32)) + (1 : Int32)), sI (((XT.ushr di (2 : Int32)) &&& (3 : Int32)) + (1 : Int32)), sI (((XT.ushr di (4 : Int32)) &&& (3 : Int32)) + (1 : Int32)), sI (((XT.ushr di (6 : Int32)) &&& (3 : Int32)) + (1 : Int32)), sI dr, sR b799, sI 1, .unset, .unset, .unset, .unset, .unset]) rfl (XS.aload X808.here hx rfl (D at_128) rfl rfl (XT.lloadN X808.here hx rfl (D at_130) rfl (XS.iload X808.here hx rfl (D at_131) rfl q))))))) ?_
        refine own_callV X808 hx hZ hown (w41 hw) (w42 hw) (notFace_of_selects (args := #[]) (mvT hZ (w44 hw))) (w44 hw) (w43 hw) (by decide) (own_bO (W := 0) (own_ka l Z a0 hw [] b799 (fun _ => List.replicate 16 0) (fun _ => List.replicate 16 0) (fun _ => 0) 64 (0 : Int32) own_M0 (0 : Int64) 0 xa ((di &&& (3 : Int32)) + (1 : Int32)) T804.heap n0 c807 f1_804 (hiv0 : own_inv (fun _ => List.replicate 16 0) (fun _ => List.replicate 16 0) (fun _ => 0) own_M0 (0 : Int64) 0) (by omega : 0 ≤ 2) ((own_ip di) : 0 < ((di &&& (3 : Int32)) + (1 : Int32))) (Or.inl rfl : own_M0 xa = 0 ∨ 0 < own_M0 xa ∨ own_M0 xa = -1) (fun q => absurd q Int32.lt_irrefl : 0 < own_M0 xa → ¬ own_M0 xa = ((di &&& (3 : Int32)) + (1 : Int32)) → 64 = 64) (fun q => absurd (show (0 : Int32) = -1 from q) (by decide) : own_M0 xa = -1 → 64 = own_j xa ∧ (0 : Int32) = 2)) hZ (w45 hw) (w2 hw) rfl rfl) e808 f0_804  (by first | decide | (show _ ≤ (784 : Nat); first | omega | (dsimp only; omega))) (by first | decide | (show _ ≤ (6912 : Nat); first | omega | (dsimp only; omega))) (argsL := [(.long xa), (.int ((di &&& (3 : Int32)) + (1 : Int32)))]) (rest := []) rfl hml.symm (lenOf pd_9 rfl) rfl rfl (own_w0 rfl rfl) (D at_133) ?_
        rintro _ T811 L811 X811 ⟨kF2811, pF2811, uF2811, sz2811, rfl, N811q, K811, f0_811, f1_811, p0_811, p1_811⟩
        have N812 := Fr.app N809 N811q
        refine own_step (g' := (mkF m 140 #[sJ xa, .second, sJ xb, .second, sJ xc, .second, sI di, sI dp, sJ k2, .second, sI ((XT.ushr dp (1 : Int32)) &&& (3 : Int32)), sJ k3, .second, sI ((di &&& (3 : Int32)) + (1 : Int32)), sI (((XT.ushr di (2 : Int32)) &&& (3 : Int32)) + (1 : Int32)), sI (((XT.ushr di (4 : Int32)) &&& (3 : Int32)) + (1 : Int32)), sI (((XT.ushr di (6 : Int32)) &&& (3 : Int32)) + (1 : Int32)), sI dr, sR b799, sI 1, .unset, .unset, .unset, .unset, .unset] [(.ref b799), (.int 1)])) (fun _ q => XS.iload X811.here hx rfl (D at_136) rfl (XS.aload X811.here hx rfl (D at_138) rfl rfl q)) ?_
        have hk813 := own_H.HK f1_811
        have c814 := (Nat.le_trans c807 K811)
        refine own_callV X811 hx hZ hown (w34 hw) (w35 hw) (notFace_of_selects (args := #[]) (mvT hZ (w37 hw))) (w37 hw) (w36 hw) (by decide) (own_bO (W := 1) (own_keys l Z a0 hw [] b799 uF2811 T811.heap n0 c814 hk813) hZ (w38 hw) (w2 hw) rfl rfl) rfl f0_811  (by first | decide | (show _ ≤ (784 : Nat); first | omega | (dsimp only; omega))) (by first | decide | (show _ ≤ (6912 : Nat); first | omega | (dsimp only; omega))) (argsL := []) (rest := [(.int (1 : Int32))]) rfl hml.symm (lenOf pd_10 rfl) rfl rfl (own_w0 rfl rfl) (D at_140) ?_
        rintro _ T815 L815 X815 ⟨rfl, N815q, e815⟩
        have N816 := Fr.app N812 N815q
        refine own_step (g' := (mkF m 145 #[sJ xa, .second, sJ xb, .second, sJ xc, .second, sI di, sI dp, sJ k2, .second, sI ((XT.ushr dp (1 : Int32)) &&& (3 : Int32)), sJ k3, .second, sI ((di &&& (3 : Int32)) + (1 : Int32)), sI (((XT.ushr di (2 : Int32)) &&& (3 : Int32)) + (1 : Int32)), sI (((XT.ushr di (4 : Int32)) &&& (3 : Int32)) + (1 : Int32)), sI (((XT.ushr di (6 : Int32)) &&& (3 : Int32)) + (1 : Int32)), sI dr, sR b799, sI 1, .unset, .unset, .unset, .unset, .unset] [(.int (XT.cmpL (own_sj uF2811 64) (1 : Int64))), (.int 1)])) (fun _ q => XT.lconst X815.here hx rfl (D at_143) (XT.lcmp X815.here hx rfl (D at_144) rfl q)) ?_
        have hc817 : ((own_sj uF2811 64) = (1 : Int64)) := (p0_811.2.2.2.trans own_c1)
        refine own_step (g' := (mkF m 162 #[sJ xa, .second, sJ xb, .second, sJ xc, .second, sI di, sI dp, sJ k2, .second, sI ((XT.ushr dp (1 : Int32)) &&& (3 : Int32)), sJ k3, .second, sI ((di &&& (3 : Int32)) + (1 : Int32)), sI (((XT.ushr di (2 : Int32)) &&& (3 : Int32)) + (1 : Int32)), sI (((XT.ushr di (4 : Int32)) &&& (3 : Int32)) + (1 : Int32)), sI (((XT.ushr di (6 : Int32)) &&& (3 : Int32)) + (1 : Int32)), sI dr, sR b799, sI 1, .unset, .unset, .unset, .unset, .unset] [(.int (((XT.ushr di (2 : Int32)) &&& (3 : Int32)) + (1 : Int32))), (.long k2), (.ref b799)])) (fun _ q => XS.ifNo X815.here hx rfl (D at_145) rfl (XT.ll_ne_f hc817) (XS.iconst X815.here hx rfl (D at_148) (XS.goto X815.here hx rfl (pc0 := 149) (pc' := 153) rfl (D at_149) (by decide) (by decide) (XS.iand X815.here hx rfl (D at_153) rfl (XS.istore X815.here hx rfl (D at_154) rfl (l' := #[sJ xa, .second, sJ xb, .second, sJ xc, .second, sI di, sI dp, sJ k2, .second, sI ((XT.ushr dp (1 : Int32)) &&& (3 : Int32)), sJ k3, .second, sI ((di &&& (3 : Int32)) + (1 : Int32)), sI (((XT.ushr di (2 : Int32)) &&& (3 : Int32)) + (1 : Int32)), sI (((XT.ushr di (4 : Int32)) &&& (3 : Int32)) + (1 : Int32)), sI (((XT.ushr di (6 : Int32)) &&& (3 : Int32)) + (1 : Int32)), sI dr, sR b799, sI 1, .unset, .unset, .unset, .unset, .unset]) rfl (XS.aload X815.here hx rfl (D at_156) rfl rfl (XT.lload X815.here hx rfl (D at_158) rfl (XS.iload X815.here hx rfl (D at_160) rfl q)))))))) ?_
        refine own_callV X815 hx hZ hown (w41 hw) (w42 hw) (notFace_of_selects (args := #[]) (mvT hZ (w44 hw))) (w44 hw) (w43 hw) (by decide) (own_bO (W := 0) (own_ka l Z a0 hw [] b799 kF2811 pF2811 uF2811 (own_g own_M0 64 xa ((di &&& (3 : Int32)) + (1 : Int32))) sz2811 (own_m own_M0 xa ((di &&& (3 : Int32)) + (1 : Int32))) (own_c own_M0 (0 : Int64) xa) (0 + 1) k2 (((XT.ushr di (2 : Int32)) &&& (3 : Int32)) + (1 : Int32)) T811.heap n0 c814 f1_811 (p0_811 : own_inv kF2811 pF2811 uF2811 (own_m own_M0 xa ((di &&& (3 : Int32)) + (1 : Int32))) (own_c own_M0 (0 : Int64) xa) (0 + 1)) (by omega : (0 + 1) ≤ 2) ((own_ip (XT.ushr di (2 : Int32))) : 0 < (((XT.ushr di (2 : Int32)) &&& (3 : Int32)) + (1 : Int32))) (own_M1s (own_ip di) : (own_m own_M0 xa ((di &&& (3 : Int32)) + (1 : Int32))) k2 = 0 ∨ 0 < (own_m own_M0 xa ((di &&& (3 : Int32)) + (1 : Int32))) k2 ∨ (own_m own_M0 xa ((di &&& (3 : Int32)) + (1 : Int32))) k2 = -1) (fun _ _ => own_g1 : 0 < (own_m own_M0 xa ((di &&& (3 : Int32)) + (1 : Int32))) k2 → ¬ (own_m own_M0 xa ((di &&& (3 : Int32)) + (1 : Int32))) k2 = (((XT.ushr di (2 : Int32)) &&& (3 : Int32)) + (1 : Int32)) → (own_g own_M0 64 xa ((di &&& (3 : Int32)) + (1 : Int32))) = 64) (fun q => absurd q (own_M1m (own_ip di)) : (own_m own_M0 xa ((di &&& (3 : Int32)) + (1 : Int32))) k2 = -1 → (own_g own_M0 64 xa ((di &&& (3 : Int32)) + (1 : Int32))) = own_j k2 ∧ sz2811 = 2)) hZ (w45 hw) (w2 hw) rfl rfl) e815 f0_811  (by first | decide | (show _ ≤ (784 : Nat); first | omega | (dsimp only; omega))) (by first | decide | (show _ ≤ (6912 : Nat); first | omega | (dsimp only; omega))) (argsL := [(.long k2), (.int (((XT.ushr di (2 : Int32)) &&& (3 : Int32)) + (1 : Int32)))]) (rest := []) rfl hml.symm (lenOf pd_9 rfl) rfl rfl (own_w0 rfl rfl) (D at_162) ?_
        rintro _ T818 L818 X818 ⟨kF2818, pF2818, uF2818, sz2818, rfl, N818q, K818, f0_818, f1_818, p0_818, p1_818⟩
        have N819 := Fr.app N816 N818q
        have lp_j179 : ∀ (af : Int64) (T_j179 : State) (h_j179 : Heap) (L_j179 : List Loc) (X_j179 : Stand p l e room_1 s m #[(.long xa), (.long xb), (.long xc), (.int di), (.int dp)] below meth c T_j179 L_j179 ((((((0 + 1) + 385) + 0) + 1) + 0) + 1) ((((((0 + 1) + 3392) + 0) + 4) + 0) + 4)) (e_j179 : T_j179.heap = h_j179) (N_j179 : Fr n0 L_j179) (KL_j179 : Keep T818.heap h_j179 [])  (haf : af = own_af xa k2), own_Fin p e below (own_G s (Q_own_law Z xa xb xc di dp h0 n0) room_1.cells room_1.slots) T_j179 (mkF m 179 #[sJ xa, .second, sJ xb, .second, sJ xc, .second, sI di, sI dp, sJ k2, .second, sI ((XT.ushr dp (1 : Int32)) &&& (3 : Int32)), sJ k3, .second, sI ((di &&& (3 : Int32)) + (1 : Int32)), sI (((XT.ushr di (2 : Int32)) &&& (3 : Int32)) + (1 : Int32)), sI (((XT.ushr di (4 : Int32)) &&& (3 : Int32)) + (1 : Int32)), sI (((XT.ushr di (6 : Int32)) &&& (3 : Int32)) + (1 : Int32)), sI dr, sR b799, sI 1, .unset, .unset, .unset, .unset, .unset] [(.long af)]) := by
          intro af T_j179 h_j179 L_j179 X_j179 e_j179 N_j179 KL_j179  haf
          refine own_step (g' := (mkF m 185 #[sJ xa, .second, sJ xb, .second, sJ xc, .second, sI di, sI dp, sJ k2, .second, sI ((XT.ushr dp (1 : Int32)) &&& (3 : Int32)), sJ k3, .second, sI ((di &&& (3 : Int32)) + (1 : Int32)), sI (((XT.ushr di (2 : Int32)) &&& (3 : Int32)) + (1 : Int32)), sI (((XT.ushr di (4 : Int32)) &&& (3 : Int32)) + (1 : Int32)), sI (((XT.ushr di (6 : Int32)) &&& (3 : Int32)) + (1 : Int32)), sI dr, sR b799, sI 1, sJ af, .second, .unset, .unset, .unset] [(.ref b799), (.int 1)])) (fun _ q => XT.lstore X_j179.here hx rfl (D at_179) rfl (l' := #[sJ xa, .second, sJ xb, .second, sJ xc, .second, sI di, sI dp, sJ k2, .second, sI ((XT.ushr dp (1 : Int32)) &&& (3 : Int32)), sJ k3, .second, sI ((di &&& (3 : Int32)) + (1 : Int32)), sI (((XT.ushr di (2 : Int32)) &&& (3 : Int32)) + (1 : Int32)), sI (((XT.ushr di (4 : Int32)) &&& (3 : Int32)) + (1 : Int32)), sI (((XT.ushr di (6 : Int32)) &&& (3 : Int32)) + (1 : Int32)), sI dr, sR b799, sI 1, sJ af, .second, .unset, .unset, .unset]) rfl (XS.iload X_j179.here hx rfl (D at_181) rfl (XS.aload X_j179.here hx rfl (D at_183) rfl rfl q))) ?_
          have c820 := (own_H.keep f1_818 KL_j179)
          have hk821 := own_H.HK c820
          have c822 := (Nat.le_trans (Nat.le_trans c814 K818) KL_j179.1)
          have c824 := (f0_818.keep KL_j179)
          refine own_callV X_j179 hx hZ hown (w34 hw) (w35 hw) (notFace_of_selects (args := #[]) (mvT hZ (w37 hw))) (w37 hw) (w36 hw) (by decide) (own_bO (W := 1) (own_keys l Z a0 hw [] b799 uF2818 h_j179 n0 c822 hk821) hZ (w38 hw) (w2 hw) rfl rfl) e_j179 c824  (by first | decide | (show _ ≤ (784 : Nat); first | omega | (dsimp only; omega))) (by first | decide | (show _ ≤ (6912 : Nat); first | omega | (dsimp only; omega))) (argsL := []) (rest := [(.int (1 : Int32))]) rfl hml.symm (lenOf pd_10 rfl) rfl rfl (own_w0 rfl rfl) (D at_185) ?_
          rintro _ T823 L823 X823 ⟨rfl, N823q, e823⟩
          have N825 := Fr.app N_j179 N823q
          refine own_step (g' := (mkF m 191 #[sJ xa, .second, sJ xb, .second, sJ xc, .second, sI di, sI dp, sJ k2, .second, sI ((XT.ushr dp (1 : Int32)) &&& (3 : Int32)), sJ k3, .second, sI ((di &&& (3 : Int32)) + (1 : Int32)), sI (((XT.ushr di (2 : Int32)) &&& (3 : Int32)) + (1 : Int32)), sI (((XT.ushr di (4 : Int32)) &&& (3 : Int32)) + (1 : Int32)), sI (((XT.ushr di (6 : Int32)) &&& (3 : Int32)) + (1 : Int32)), sI dr, sR b799, sI 1, sJ af, .second, .unset, .unset, .unset] [(.int (XT.cmpL (own_sj uF2818 64) af)), (.int 1)])) (fun _ q => XT.lload X823.here hx rfl (D at_188) rfl (XT.lcmp X823.here hx rfl (D at_190) rfl q)) ?_
          have hc826 : ((own_sj uF2818 64) = af) := (p0_818.2.2.2.trans ((own_c2 (own_ip di)).trans haf.symm))
          refine own_step (g' := (mkF m 208 #[sJ xa, .second, sJ xb, .second, sJ xc, .second, sI di, sI dp, sJ k2, .second, sI ((XT.ushr dp (1 : Int32)) &&& (3 : Int32)), sJ k3, .second, sI ((di &&& (3 : Int32)) + (1 : Int32)), sI (((XT.ushr di (2 : Int32)) &&& (3 : Int32)) + (1 : Int32)), sI (((XT.ushr di (4 : Int32)) &&& (3 : Int32)) + (1 : Int32)), sI (((XT.ushr di (6 : Int32)) &&& (3 : Int32)) + (1 : Int32)), sI dr, sR b799, sI 1, sJ af, .second, .unset, .unset, .unset] [(.int (((XT.ushr di (4 : Int32)) &&& (3 : Int32)) + (1 : Int32))), (.long k3), (.ref b799)])) (fun _ q => XS.ifNo X823.here hx rfl (D at_191) rfl (XT.ll_ne_f hc826) (XS.iconst X823.here hx rfl (D at_194) (XS.goto X823.here hx rfl (pc0 := 195) (pc' := 199) rfl (D at_195) (by decide) (by decide) (XS.iand X823.here hx rfl (D at_199) rfl (XS.istore X823.here hx rfl (D at_200) rfl (l' := #[sJ xa, .second, sJ xb, .second, sJ xc, .second, sI di, sI dp, sJ k2, .second, sI ((XT.ushr dp (1 : Int32)) &&& (3 : Int32)), sJ k3, .second, sI ((di &&& (3 : Int32)) + (1 : Int32)), sI (((XT.ushr di (2 : Int32)) &&& (3 : Int32)) + (1 : Int32)), sI (((XT.ushr di (4 : Int32)) &&& (3 : Int32)) + (1 : Int32)), sI (((XT.ushr di (6 : Int32)) &&& (3 : Int32)) + (1 : Int32)), sI dr, sR b799, sI 1, sJ af, .second, .unset, .unset, .unset]) rfl (XS.aload X823.here hx rfl (D at_202) rfl rfl (XT.lload X823.here hx rfl (D at_204) rfl (XS.iload X823.here hx rfl (D at_206) rfl q)))))))) ?_
          refine own_callV X823 hx hZ hown (w41 hw) (w42 hw) (notFace_of_selects (args := #[]) (mvT hZ (w44 hw))) (w44 hw) (w43 hw) (by decide) (own_bO (W := 0) (own_ka l Z a0 hw [] b799 kF2818 pF2818 uF2818 (own_g (own_m own_M0 xa ((di &&& (3 : Int32)) + (1 : Int32))) (own_g own_M0 64 xa ((di &&& (3 : Int32)) + (1 : Int32))) k2 (((XT.ushr di (2 : Int32)) &&& (3 : Int32)) + (1 : Int32))) sz2818 (own_m (own_m own_M0 xa ((di &&& (3 : Int32)) + (1 : Int32))) k2 (((XT.ushr di (2 : Int32)) &&& (3 : Int32)) + (1 : Int32))) (own_c (own_m own_M0 xa ((di &&& (3 : Int32)) + (1 : Int32))) (own_c own_M0 (0 : Int64) xa) k2) ((0 + 1) + 1) k3 (((XT.ushr di (4 : Int32)) &&& (3 : Int32)) + (1 : Int32)) h_j179 n0 c822 c820 (p0_818 : own_inv kF2818 pF2818 uF2818 (own_m (own_m own_M0 xa ((di &&& (3 : Int32)) + (1 : Int32))) k2 (((XT.ushr di (2 : Int32)) &&& (3 : Int32)) + (1 : Int32))) (own_c (own_m own_M0 xa ((di &&& (3 : Int32)) + (1 : Int32))) (own_c own_M0 (0 : Int64) xa) k2) ((0 + 1) + 1)) (by omega : ((0 + 1) + 1) ≤ 2) ((own_ip (XT.ushr di (4 : Int32))) : 0 < (((XT.ushr di (4 : Int32)) &&& (3 : Int32)) + (1 : Int32))) (own_M2s (own_ip di) (own_ip (XT.ushr di (2 : Int32))) : (own_m (own_m own_M0 xa ((di &&& (3 : Int32)) + (1 : Int32))) k2 (((XT.ushr di (2 : Int32)) &&& (3 : Int32)) + (1 : Int32))) k3 = 0 ∨ 0 < (own_m (own_m own_M0 xa ((di &&& (3 : Int32)) + (1 : Int32))) k2 (((XT.ushr di (2 : Int32)) &&& (3 : Int32)) + (1 : Int32))) k3 ∨ (own_m (own_m own_M0 xa ((di &&& (3 : Int32)) + (1 : Int32))) k2 (((XT.ushr di (2 : Int32)) &&& (3 : Int32)) + (1 : Int32))) k3 = -1) (fun q _ => own_h2 (own_ip di) q : 0 < (own_m (own_m own_M0 xa ((di &&& (3 : Int32)) + (1 : Int32))) k2 (((XT.ushr di (2 : Int32)) &&& (3 : Int32)) + (1 : Int32))) k3 → ¬ (own_m (own_m own_M0 xa ((di &&& (3 : Int32)) + (1 : Int32))) k2 (((XT.ushr di (2 : Int32)) &&& (3 : Int32)) + (1 : Int32))) k3 = (((XT.ushr di (4 : Int32)) &&& (3 : Int32)) + (1 : Int32)) → (own_g (own_m own_M0 xa ((di &&& (3 : Int32)) + (1 : Int32))) (own_g own_M0 64 xa ((di &&& (3 : Int32)) + (1 : Int32))) k2 (((XT.ushr di (2 : Int32)) &&& (3 : Int32)) + (1 : Int32))) = 64) (fun q => by obtain ⟨e3, e2, ne⟩ := own_h3 (own_ip di) (own_ip (XT.ushr di (2 : Int32))) q; subst e2; subst e3; exact ⟨own_G2y (own_ip di) ne, p1_818 ⟨by rw [own_M1]; exact (own_ip di), by rw [own_M1]; exact ne⟩⟩ : (own_m (own_m own_M0 xa ((di &&& (3 : Int32)) + (1 : Int32))) k2 (((XT.ushr di (2 : Int32)) &&& (3 : Int32)) + (1 : Int32))) k3 = -1 → (own_g (own_m own_M0 xa ((di &&& (3 : Int32)) + (1 : Int32))) (own_g own_M0 64 xa ((di &&& (3 : Int32)) + (1 : Int32))) k2 (((XT.ushr di (2 : Int32)) &&& (3 : Int32)) + (1 : Int32))) = own_j k3 ∧ sz2818 = 2)) hZ (w45 hw) (w2 hw) rfl rfl) e823 c824  (by first | decide | (show _ ≤ (784 : Nat); first | omega | (dsimp only; omega))) (by first | decide | (show _ ≤ (6912 : Nat); first | omega | (dsimp only; omega))) (argsL := [(.long k3), (.int (((XT.ushr di (4 : Int32)) &&& (3 : Int32)) + (1 : Int32)))]) (rest := []) rfl hml.symm (lenOf pd_9 rfl) rfl rfl (own_w0 rfl rfl) (D at_208) ?_
          rintro _ T827 L827 X827 ⟨kF2827, pF2827, uF2827, sz2827, rfl, N827q, K827, f0_827, f1_827, p0_827, p1_827⟩
          have N828 := Fr.app N825 N827q
          have lp_j233 : ∀ (d3 : Int64) (T_j233 : State) (h_j233 : Heap) (L_j233 : List Loc) (X_j233 : Stand p l e room_1 s m #[(.long xa), (.long xb), (.long xc), (.int di), (.int dp)] below meth c T_j233 L_j233 ((((((((0 + 1) + 385) + 0) + 1) + 0) + 1) + 0) + 1) ((((((((0 + 1) + 3392) + 0) + 4) + 0) + 4) + 0) + 4)) (e_j233 : T_j233.heap = h_j233) (N_j233 : Fr n0 L_j233) (KL_j233 : Keep T827.heap h_j233 [])  (hd3 : d3 = own_d3 xa k2 k3), own_Fin p e below (own_G s (Q_own_law Z xa xb xc di dp h0 n0) room_1.cells room_1.slots) T_j233 (mkF m 233 #[sJ xa, .second, sJ xb, .second, sJ xc, .second, sI di, sI dp, sJ k2, .second, sI ((XT.ushr dp (1 : Int32)) &&& (3 : Int32)), sJ k3, .second, sI ((di &&& (3 : Int32)) + (1 : Int32)), sI (((XT.ushr di (2 : Int32)) &&& (3 : Int32)) + (1 : Int32)), sI (((XT.ushr di (4 : Int32)) &&& (3 : Int32)) + (1 : Int32)), sI (((XT.ushr di (6 : Int32)) &&& (3 : Int32)) + (1 : Int32)), sI dr, sR b799, sI 1, sJ af, .second, .unset, .unset, .unset] [(.long d3), (.long af)]) := by
            intro d3 T_j233 h_j233 L_j233 X_j233 e_j233 N_j233 KL_j233  hd3
            refine own_step (g' := (mkF m 240 #[sJ xa, .second, sJ xb, .second, sJ xc, .second, sI di, sI dp, sJ k2, .second, sI ((XT.ushr dp (1 : Int32)) &&& (3 : Int32)), sJ k3, .second, sI ((di &&& (3 : Int32)) + (1 : Int32)), sI (((XT.ushr di (2 : Int32)) &&& (3 : Int32)) + (1 : Int32)), sI (((XT.ushr di (4 : Int32)) &&& (3 : Int32)) + (1 : Int32)), sI (((XT.ushr di (6 : Int32)) &&& (3 : Int32)) + (1 : Int32)), sI dr, sR b799, sI 1, sJ af, .second, sJ (af + d3), .second, .unset] [(.ref b799), (.int 1)])) (fun _ q => XT.ladd X_j233.here hx rfl (D at_233) rfl (XT.lstore X_j233.here hx rfl (D at_234) rfl (l' := #[sJ xa, .second, sJ xb, .second, sJ xc, .second, sI di, sI dp, sJ k2, .second, sI ((XT.ushr dp (1 : Int32)) &&& (3 : Int32)), sJ k3, .second, sI ((di &&& (3 : Int32)) + (1 : Int32)), sI (((XT.ushr di (2 : Int32)) &&& (3 : Int32)) + (1 : Int32)), sI (((XT.ushr di (4 : Int32)) &&& (3 : Int32)) + (1 : Int32)), sI (((XT.ushr di (6 : Int32)) &&& (3 : Int32)) + (1 : Int32)), sI dr, sR b799, sI 1, sJ af, .second, sJ (af + d3), .second, .unset]) rfl (XS.iload X_j233.here hx rfl (D at_236) rfl (XS.aload X_j233.here hx rfl (D at_238) rfl rfl q)))) ?_
            have c829 := (own_H.keep f1_827 KL_j233)
            have hk830 := own_H.HK c829
            have c831 := (Nat.le_trans (Nat.le_trans c822 K827) KL_j233.1)
            have c833 := (f0_827.keep KL_j233)
            refine own_callV X_j233 hx hZ hown (w34 hw) (w35 hw) (notFace_of_selects (args := #[]) (mvT hZ (w37 hw))) (w37 hw) (w36 hw) (by decide) (own_bO (W := 1) (own_keys l Z a0 hw [] b799 uF2827 h_j233 n0 c831 hk830) hZ (w38 hw) (w2 hw) rfl rfl) e_j233 c833  (by first | decide | (show _ ≤ (784 : Nat); first | omega | (dsimp only; omega))) (by first | decide | (show _ ≤ (6912 : Nat); first | omega | (dsimp only; omega))) (argsL := []) (rest := [(.int (1 : Int32))]) rfl hml.symm (lenOf pd_10 rfl) rfl rfl (own_w0 rfl rfl) (D at_240) ?_
            rintro _ T832 L832 X832 ⟨rfl, N832q, e832⟩
            have N834 := Fr.app N_j233 N832q
            refine own_step (g' := (mkF m 246 #[sJ xa, .second, sJ xb, .second, sJ xc, .second, sI di, sI dp, sJ k2, .second, sI ((XT.ushr dp (1 : Int32)) &&& (3 : Int32)), sJ k3, .second, sI ((di &&& (3 : Int32)) + (1 : Int32)), sI (((XT.ushr di (2 : Int32)) &&& (3 : Int32)) + (1 : Int32)), sI (((XT.ushr di (4 : Int32)) &&& (3 : Int32)) + (1 : Int32)), sI (((XT.ushr di (6 : Int32)) &&& (3 : Int32)) + (1 : Int32)), sI dr, sR b799, sI 1, sJ af, .second, sJ (af + d3), .second, .unset] [(.int (XT.cmpL (own_sj uF2827 64) (af + d3))), (.int 1)])) (fun _ q => XT.lload X832.here hx rfl (D at_243) rfl (XT.lcmp X832.here hx rfl (D at_245) rfl q)) ?_
            have hc835 : ((own_sj uF2827 64) = (af + d3)) := (p0_827.2.2.2.trans ((own_c3 (own_ip di) (own_ip (XT.ushr di (2 : Int32)))).trans (by rw [haf, hd3])))
            refine own_step (g' := (mkF m 259 #[sJ xa, .second, sJ xb, .second, sJ xc, .second, sI di, sI dp, sJ k2, .second, sI ((XT.ushr dp (1 : Int32)) &&& (3 : Int32)), sJ k3, .second, sI ((di &&& (3 : Int32)) + (1 : Int32)), sI (((XT.ushr di (2 : Int32)) &&& (3 : Int32)) + (1 : Int32)), sI (((XT.ushr di (4 : Int32)) &&& (3 : Int32)) + (1 : Int32)), sI (((XT.ushr di (6 : Int32)) &&& (3 : Int32)) + (1 : Int32)), sI dr, sR b799, sI 1, sJ af, .second, sJ (af + d3), .second, .unset] [(.int dr)])) (fun _ q => XS.ifNo X832.here hx rfl (D at_246) rfl (XT.ll_ne_f hc835) (XS.iconst X832.here hx rfl (D at_249) (XS.goto X832.here hx rfl (pc0 := 250) (pc' := 254) rfl (D at_250) (by decide) (by decide) (XS.iand X832.here hx rfl (D at_254) rfl (XS.istore X832.here hx rfl (D at_255) rfl (l' := #[sJ xa, .second, sJ xb, .second, sJ xc, .second, sI di, sI dp, sJ k2, .second, sI ((XT.ushr dp (1 : Int32)) &&& (3 : Int32)), sJ k3, .second, sI ((di &&& (3 : Int32)) + (1 : Int32)), sI (((XT.ushr di (2 : Int32)) &&& (3 : Int32)) + (1 : Int32)), sI (((XT.ushr di (4 : Int32)) &&& (3 : Int32)) + (1 : Int32)), sI (((XT.ushr di (6 : Int32)) &&& (3 : Int32)) + (1 : Int32)), sI dr, sR b799, sI 1, sJ af, .second, sJ (af + d3), .second, .unset]) rfl (XS.iload X832.here hx rfl (D at_257) rfl q)))))) ?_
            by_cases hc836 : dr = 0
            · refine own_step (g' := (mkF m 347 #[sJ xa, .second, sJ xb, .second, sJ xc, .second, sI di, sI dp, sJ k2, .second, sI ((XT.ushr dp (1 : Int32)) &&& (3 : Int32)), sJ k3, .second, sI ((di &&& (3 : Int32)) + (1 : Int32)), sI (((XT.ushr di (2 : Int32)) &&& (3 : Int32)) + (1 : Int32)), sI (((XT.ushr di (4 : Int32)) &&& (3 : Int32)) + (1 : Int32)), sI (((XT.ushr di (6 : Int32)) &&& (3 : Int32)) + (1 : Int32)), sI dr, sR b799, sI 1, sJ af, .second, sJ (af + d3), .second, .unset] [(.int 1)])) (fun _ q => XS.ifYes X832.here hx rfl (pc0 := 259) (pc' := 345) rfl (D at_259) rfl (XT.i0_eq_t hc836) (by decide) (by decide) (XS.iload X832.here hx rfl (D at_345) rfl q)) ?_
              have c837 := (Nat.le_trans (Nat.le_trans (Nat.le_trans (Nat.le_trans (Nat.le_trans (Nat.le_trans (Nat.le_trans (Nat.le_trans (Nat.le_trans (Nat.le_trans (Nat.le_refl _) KL_j12.1) KL_j45.1) KL_j100.1) E799.1) K804) K811) K818) KL_j179.1) K827) KL_j233.1)
              exact own_retN X832 hx hrt (by simp) (D at_347) hlk (by rw [e832]; exact ⟨rfl, N834, c837⟩) (by first | decide | (show _ ≤ (784 : Nat); first | omega | (dsimp only; omega))) (by first | decide | (show _ ≤ (6912 : Nat); first | omega | (dsimp only; omega)))
            · refine own_step (g' := (mkF m 267 #[sJ xa, .second, sJ xb, .second, sJ xc, .second, sI di, sI dp, sJ k2, .second, sI ((XT.ushr dp (1 : Int32)) &&& (3 : Int32)), sJ k3, .second, sI ((di &&& (3 : Int32)) + (1 : Int32)), sI (((XT.ushr di (2 : Int32)) &&& (3 : Int32)) + (1 : Int32)), sI (((XT.ushr di (4 : Int32)) &&& (3 : Int32)) + (1 : Int32)), sI (((XT.ushr di (6 : Int32)) &&& (3 : Int32)) + (1 : Int32)), sI dr, sR b799, sI 1, sJ af, .second, sJ (af + d3), .second, .unset] [(.int (((XT.ushr di (6 : Int32)) &&& (3 : Int32)) + (1 : Int32))), (.long xa), (.ref b799)])) (fun _ q => XS.ifNo X832.here hx rfl (D at_259) rfl (XT.i0_eq_f hc836) (XS.aload X832.here hx rfl (D at_262) rfl rfl (XT.lloadN X832.here hx rfl (D at_264) rfl (XS.iload X832.here hx rfl (D at_265) rfl q)))) ?_
              refine own_callV X832 hx hZ hown (w91 hw) (w92 hw) (notFace_of_selects (args := #[]) (mvT hZ (w94 hw))) (w94 hw) (w93 hw) (by decide) (own_bO (W := 0) (own_kr l Z a0 hw [] b799 kF2827 pF2827 uF2827 (own_g (own_m (own_m own_M0 xa ((di &&& (3 : Int32)) + (1 : Int32))) k2 (((XT.ushr di (2 : Int32)) &&& (3 : Int32)) + (1 : Int32))) (own_g (own_m own_M0 xa ((di &&& (3 : Int32)) + (1 : Int32))) (own_g own_M0 64 xa ((di &&& (3 : Int32)) + (1 : Int32))) k2 (((XT.ushr di (2 : Int32)) &&& (3 : Int32)) + (1 : Int32))) k3 (((XT.ushr di (4 : Int32)) &&& (3 : Int32)) + (1 : Int32))) sz2827 (own_m (own_m (own_m own_M0 xa ((di &&& (3 : Int32)) + (1 : Int32))) k2 (((XT.ushr di (2 : Int32)) &&& (3 : Int32)) + (1 : Int32))) k3 (((XT.ushr di (4 : Int32)) &&& (3 : Int32)) + (1 : Int32))) (own_c (own_m (own_m own_M0 xa ((di &&& (3 : Int32)) + (1 : Int32))) k2 (((XT.ushr di (2 : Int32)) &&& (3 : Int32)) + (1 : Int32))) (own_c (own_m own_M0 xa ((di &&& (3 : Int32)) + (1 : Int32))) (own_c own_M0 (0 : Int64) xa) k2) k3) (((0 + 1) + 1) + 1) xa (((XT.ushr di (6 : Int32)) &&& (3 : Int32)) + (1 : Int32)) h_j233 n0 c831 c829 (p0_827 : own_inv kF2827 pF2827 uF2827 (own_m (own_m (own_m own_M0 xa ((di &&& (3 : Int32)) + (1 : Int32))) k2 (((XT.ushr di (2 : Int32)) &&& (3 : Int32)) + (1 : Int32))) k3 (((XT.ushr di (4 : Int32)) &&& (3 : Int32)) + (1 : Int32))) (own_c (own_m (own_m own_M0 xa ((di &&& (3 : Int32)) + (1 : Int32))) k2 (((XT.ushr di (2 : Int32)) &&& (3 : Int32)) + (1 : Int32))) (own_c (own_m own_M0 xa ((di &&& (3 : Int32)) + (1 : Int32))) (own_c own_M0 (0 : Int64) xa) k2) k3) (((0 + 1) + 1) + 1)) (by omega : (((0 + 1) + 1) + 1) ≤ 3) ((own_ip (XT.ushr di (6 : Int32))) : 0 < (((XT.ushr di (6 : Int32)) &&& (3 : Int32)) + (1 : Int32))) (own_M3s (own_ip di) (own_ip (XT.ushr di (2 : Int32))) (own_ip (XT.ushr di (4 : Int32))) : 0 < (own_m (own_m (own_m own_M0 xa ((di &&& (3 : Int32)) + (1 : Int32))) k2 (((XT.ushr di (2 : Int32)) &&& (3 : Int32)) + (1 : Int32))) k3 (((XT.ushr di (4 : Int32)) &&& (3 : Int32)) + (1 : Int32))) xa ∨ (own_m (own_m (own_m own_M0 xa ((di &&& (3 : Int32)) + (1 : Int32))) k2 (((XT.ushr di (2 : Int32)) &&& (3 : Int32)) + (1 : Int32))) k3 (((XT.ushr di (4 : Int32)) &&& (3 : Int32)) + (1 : Int32))) xa = -1) (own_M3g (own_ip di) (own_ip (XT.ushr di (2 : Int32))) (own_ip (XT.ushr di (4 : Int32))) : (own_m (own_m (own_m own_M0 xa ((di &&& (3 : Int32)) + (1 : Int32))) k2 (((XT.ushr di (2 : Int32)) &&& (3 : Int32)) + (1 : Int32))) k3 (((XT.ushr di (4 : Int32)) &&& (3 : Int32)) + (1 : Int32))) xa = -1 → (own_g (own_m (own_m own_M0 xa ((di &&& (3 : Int32)) + (1 : Int32))) k2 (((XT.ushr di (2 : Int32)) &&& (3 : Int32)) + (1 : Int32))) (own_g (own_m own_M0 xa ((di &&& (3 : Int32)) + (1 : Int32))) (own_g own_M0 64 xa ((di &&& (3 : Int32)) + (1 : Int32))) k2 (((XT.ushr di (2 : Int32)) &&& (3 : Int32)) + (1 : Int32))) k3 (((XT.ushr di (4 : Int32)) &&& (3 : Int32)) + (1 : Int32))) = own_j xa)) hZ (w95 hw) (w2 hw) rfl rfl) e832 c833  (by first | decide | (show _ ≤ (784 : Nat); first | omega | (dsimp only; omega))) (by first | decide | (show _ ≤ (6912 : Nat); first | omega | (dsimp only; omega))) (argsL := [(.long xa), (.int (((XT.ushr di (6 : Int32)) &&& (3 : Int32)) + (1 : Int32)))]) (rest := []) rfl hml.symm (lenOf pd_9 rfl) rfl rfl (own_w0 rfl rfl) (D at_267) ?_
              rintro _ T838 L838 X838 ⟨uF2838, rfl, N838q, K838, f0_838, f1_838, p0_838⟩
              have N839 := Fr.app N834 N838q
              have lp_j310 : ∀ (gn : Int32) (T_j310 : State) (h_j310 : Heap) (L_j310 : List Loc) (X_j310 : Stand p l e room_1 s m #[(.long xa), (.long xb), (.long xc), (.int di), (.int dp)] below meth c T_j310 L_j310 ((((((((((0 + 1) + 385) + 0) + 1) + 0) + 1) + 0) + 1) + 0) + 0) ((((((((((0 + 1) + 3392) + 0) + 4) + 0) + 4) + 0) + 4) + 0) + 0)) (e_j310 : T_j310.heap = h_j310) (N_j310 : Fr n0 L_j310) (KL_j310 : Keep T838.heap h_j310 [])  (hgn : (gn = 1 ∧ own_go xa k2 k3 ((di &&& (3 : Int32)) + (1 : Int32)) (((XT.ushr di (2 : Int32)) &&& (3 : Int32)) + (1 : Int32)) (((XT.ushr di (4 : Int32)) &&& (3 : Int32)) + (1 : Int32)) (((XT.ushr di (6 : Int32)) &&& (3 : Int32)) + (1 : Int32))) ∨ (gn = 0 ∧ ¬ own_go xa k2 k3 ((di &&& (3 : Int32)) + (1 : Int32)) (((XT.ushr di (2 : Int32)) &&& (3 : Int32)) + (1 : Int32)) (((XT.ushr di (4 : Int32)) &&& (3 : Int32)) + (1 : Int32)) (((XT.ushr di (6 : Int32)) &&& (3 : Int32)) + (1 : Int32)))), own_Fin p e below (own_G s (Q_own_law Z xa xb xc di dp h0 n0) room_1.cells room_1.slots) T_j310 (mkF m 310 #[sJ xa, .second, sJ xb, .second, sJ xc, .second, sI di, sI dp, sJ k2, .second, sI ((XT.ushr dp (1 : Int32)) &&& (3 : Int32)), sJ k3, .second, sI ((di &&& (3 : Int32)) + (1 : Int32)), sI (((XT.ushr di (2 : Int32)) &&& (3 : Int32)) + (1 : Int32)), sI (((XT.ushr di (4 : Int32)) &&& (3 : Int32)) + (1 : Int32)), sI (((XT.ushr di (6 : Int32)) &&& (3 : Int32)) + (1 : Int32)), sI dr, sR b799, sI 1, sJ af, .second, sJ (af + d3), .second, .unset] [(.int gn)]) := by
                intro gn T_j310 h_j310 L_j310 X_j310 e_j310 N_j310 KL_j310  hgn
                refine own_step (g' := (mkF m 316 #[sJ xa, .second, sJ xb, .second, sJ xc, .second, sI di, sI dp, sJ k2, .second, sI ((XT.ushr dp (1 : Int32)) &&& (3 : Int32)), sJ k3, .second, sI ((di &&& (3 : Int32)) + (1 : Int32)), sI (((XT.ushr di (2 : Int32)) &&& (3 : Int32)) + (1 : Int32)), sI (((XT.ushr di (4 : Int32)) &&& (3 : Int32)) + (1 : Int32)), sI (((XT.ushr di (6 : Int32)) &&& (3 : Int32)) + (1 : Int32)), sI dr, sR b799, sI 1, sJ af, .second, sJ (af + d3), .second, sI gn] [(.ref b799), (.int 1)])) (fun _ q => XS.istore X_j310.here hx rfl (D at_310) rfl (l' := #[sJ xa, .second, sJ xb, .second, sJ xc, .second, sI di, sI dp, sJ k2, .second, sI ((XT.ushr dp (1 : Int32)) &&& (3 : Int32)), sJ k3, .second, sI ((di &&& (3 : Int32)) + (1 : Int32)), sI (((XT.ushr di (2 : Int32)) &&& (3 : Int32)) + (1 : Int32)), sI (((XT.ushr di (4 : Int32)) &&& (3 : Int32)) + (1 : Int32)), sI (((XT.ushr di (6 : Int32)) &&& (3 : Int32)) + (1 : Int32)), sI dr, sR b799, sI 1, sJ af, .second, sJ (af + d3), .second, sI gn]) rfl (XS.iload X_j310.here hx rfl (D at_312) rfl (XS.aload X_j310.here hx rfl (D at_314) rfl rfl q))) ?_
                have c840 := (own_HK.keep f1_838 KL_j310)
                have c841 := (Nat.le_trans (Nat.le_trans c831 K838) KL_j310.1)
                have c843 := (f0_838.keep KL_j310)
                refine own_callV X_j310 hx hZ hown (w34 hw) (w35 hw) (notFace_of_selects (args := #[]) (mvT hZ (w37 hw))) (w37 hw) (w36 hw) (by decide) (own_bO (W := 1) (own_keys l Z a0 hw [] b799 uF2838 h_j310 n0 c841 c840) hZ (w38 hw) (w2 hw) rfl rfl) e_j310 c843  (by first | decide | (show _ ≤ (784 : Nat); first | omega | (dsimp only; omega))) (by first | decide | (show _ ≤ (6912 : Nat); first | omega | (dsimp only; omega))) (argsL := []) (rest := [(.int (1 : Int32))]) rfl hml.symm (lenOf pd_10 rfl) rfl rfl (own_w0 rfl rfl) (D at_316) ?_
                rintro _ T842 L842 X842 ⟨rfl, N842q, e842⟩
                have N844 := Fr.app N_j310 N842q
                refine own_step (g' := (mkF m 321 #[sJ xa, .second, sJ xb, .second, sJ xc, .second, sI di, sI dp, sJ k2, .second, sI ((XT.ushr dp (1 : Int32)) &&& (3 : Int32)), sJ k3, .second, sI ((di &&& (3 : Int32)) + (1 : Int32)), sI (((XT.ushr di (2 : Int32)) &&& (3 : Int32)) + (1 : Int32)), sI (((XT.ushr di (4 : Int32)) &&& (3 : Int32)) + (1 : Int32)), sI (((XT.ushr di (6 : Int32)) &&& (3 : Int32)) + (1 : Int32)), sI dr, sR b799, sI 1, sJ af, .second, sJ (af + d3), .second, sI gn] [(.int gn), (.long (own_sj uF2838 64)), (.int 1)])) (fun _ q => XS.iload X842.here hx rfl (D at_319) rfl q) ?_
                by_cases hc845 : gn = 0
                · refine own_step (g' := (mkF m 334 #[sJ xa, .second, sJ xb, .second, sJ xc, .second, sI di, sI dp, sJ k2, .second, sI ((XT.ushr dp (1 : Int32)) &&& (3 : Int32)), sJ k3, .second, sI ((di &&& (3 : Int32)) + (1 : Int32)), sI (((XT.ushr di (2 : Int32)) &&& (3 : Int32)) + (1 : Int32)), sI (((XT.ushr di (4 : Int32)) &&& (3 : Int32)) + (1 : Int32)), sI (((XT.ushr di (6 : Int32)) &&& (3 : Int32)) + (1 : Int32)), sI dr, sR b799, sI 1, sJ af, .second, sJ (af + d3), .second, sI gn] [(.int (XT.cmpL (own_sj uF2838 64) (af + d3))), (.int 1)])) (fun _ q => XS.ifYes X842.here hx rfl (pc0 := 321) (pc' := 331) rfl (D at_321) rfl (XT.i0_eq_t hc845) (by decide) (by decide) (XT.lload X842.here hx rfl (D at_331) rfl (XT.lcmp X842.here hx rfl (D at_333) rfl q))) ?_
                  have hc846 : ((own_sj uF2838 64) = (af + d3)) := (by rw [p0_838]; unfold own_rc; rw [if_neg (fun q => (hgn.elim (fun w => absurd (w.1.symm.trans hc845) (by decide)) (fun w => w.2)) ((own_goI (own_ip di) (own_ip (XT.ushr di (2 : Int32))) (own_ip (XT.ushr di (6 : Int32)))).mp q)), haf, hd3]; exact (own_c3 (own_ip di) (own_ip (XT.ushr di (2 : Int32)))))
                  refine own_step (g' := (mkF m 347 #[sJ xa, .second, sJ xb, .second, sJ xc, .second, sI di, sI dp, sJ k2, .second, sI ((XT.ushr dp (1 : Int32)) &&& (3 : Int32)), sJ k3, .second, sI ((di &&& (3 : Int32)) + (1 : Int32)), sI (((XT.ushr di (2 : Int32)) &&& (3 : Int32)) + (1 : Int32)), sI (((XT.ushr di (4 : Int32)) &&& (3 : Int32)) + (1 : Int32)), sI (((XT.ushr di (6 : Int32)) &&& (3 : Int32)) + (1 : Int32)), sI dr, sR b799, sI 1, sJ af, .second, sJ (af + d3), .second, sI gn] [(.int 1)])) (fun _ q => XS.ifNo X842.here hx rfl (D at_334) rfl (XT.ll_ne_f hc846) (XS.iconst X842.here hx rfl (D at_337) (XS.goto X842.here hx rfl (pc0 := 338) (pc' := 342) rfl (D at_338) (by decide) (by decide) (XS.iand X842.here hx rfl (D at_342) rfl (XS.istore X842.here hx rfl (D at_343) rfl (l' := #[sJ xa, .second, sJ xb, .second, sJ xc, .second, sI di, sI dp, sJ k2, .second, sI ((XT.ushr dp (1 : Int32)) &&& (3 : Int32)), sJ k3, .second, sI ((di &&& (3 : Int32)) + (1 : Int32)), sI (((XT.ushr di (2 : Int32)) &&& (3 : Int32)) + (1 : Int32)), sI (((XT.ushr di (4 : Int32)) &&& (3 : Int32)) + (1 : Int32)), sI (((XT.ushr di (6 : Int32)) &&& (3 : Int32)) + (1 : Int32)), sI dr, sR b799, sI 1, sJ af, .second, sJ (af + d3), .second, sI gn]) rfl (XS.iload X842.here hx rfl (D at_345) rfl q)))))) ?_
                  have c847 := (Nat.le_trans (Nat.le_trans (Nat.le_trans (Nat.le_trans (Nat.le_trans (Nat.le_trans (Nat.le_trans (Nat.le_trans (Nat.le_trans (Nat.le_trans (Nat.le_trans (Nat.le_trans (Nat.le_refl _) KL_j12.1) KL_j45.1) KL_j100.1) E799.1) K804) K811) K818) KL_j179.1) K827) KL_j233.1) K838) KL_j310.1)
                  exact own_retN X842 hx hrt (by simp) (D at_347) hlk (by rw [e842]; exact ⟨rfl, N844, c847⟩) (by first | decide | (show _ ≤ (784 : Nat); first | omega | (dsimp only; omega))) (by first | decide | (show _ ≤ (6912 : Nat); first | omega | (dsimp only; omega)))
                · refine own_step (g' := (mkF m 334 #[sJ xa, .second, sJ xb, .second, sJ xc, .second, sI di, sI dp, sJ k2, .second, sI ((XT.ushr dp (1 : Int32)) &&& (3 : Int32)), sJ k3, .second, sI ((di &&& (3 : Int32)) + (1 : Int32)), sI (((XT.ushr di (2 : Int32)) &&& (3 : Int32)) + (1 : Int32)), sI (((XT.ushr di (4 : Int32)) &&& (3 : Int32)) + (1 : Int32)), sI (((XT.ushr di (6 : Int32)) &&& (3 : Int32)) + (1 : Int32)), sI dr, sR b799, sI 1, sJ af, .second, sJ (af + d3), .second, sI gn] [(.int (XT.cmpL (own_sj uF2838 64) ((af + d3) - (1 : Int64)))), (.int 1)])) (fun _ q => XS.ifNo X842.here hx rfl (D at_321) rfl (XT.i0_eq_f hc845) (XT.lload X842.here hx rfl (D at_324) rfl (XT.lconst X842.here hx rfl (D at_326) (XT.lsub X842.here hx rfl (D at_327) rfl (XS.goto X842.here hx rfl (pc0 := 328) (pc' := 333) rfl (D at_328) (by decide) (by decide) (XT.lcmp X842.here hx rfl (D at_333) rfl q)))))) ?_
                  have hc848 : ((own_sj uF2838 64) = ((af + d3) - (1 : Int64))) := (by rw [p0_838]; unfold own_rc; rw [if_pos ((own_goI (own_ip di) (own_ip (XT.ushr di (2 : Int32))) (own_ip (XT.ushr di (6 : Int32)))).mpr (hgn.elim (fun w => w.2) (fun w => absurd w.1 hc845))), haf, hd3, ← (own_c3 (own_ip di) (own_ip (XT.ushr di (2 : Int32))))])
                  refine own_step (g' := (mkF m 347 #[sJ xa, .second, sJ xb, .second, sJ xc, .second, sI di, sI dp, sJ k2, .second, sI ((XT.ushr dp (1 : Int32)) &&& (3 : Int32)), sJ k3, .second, sI ((di &&& (3 : Int32)) + (1 : Int32)), sI (((XT.ushr di (2 : Int32)) &&& (3 : Int32)) + (1 : Int32)), sI (((XT.ushr di (4 : Int32)) &&& (3 : Int32)) + (1 : Int32)), sI (((XT.ushr di (6 : Int32)) &&& (3 : Int32)) + (1 : Int32)), sI dr, sR b799, sI 1, sJ af, .second, sJ (af + d3), .second, sI gn] [(.int 1)])) (fun _ q => XS.ifNo X842.here hx rfl (D at_334) rfl (XT.ll_ne_f hc848) (XS.iconst X842.here hx rfl (D at_337) (XS.goto X842.here hx rfl (pc0 := 338) (pc' := 342) rfl (D at_338) (by decide) (by decide) (XS.iand X842.here hx rfl (D at_342) rfl (XS.istore X842.here hx rfl (D at_343) rfl (l' := #[sJ xa, .second, sJ xb, .second, sJ xc, .second, sI di, sI dp, sJ k2, .second, sI ((XT.ushr dp (1 : Int32)) &&& (3 : Int32)), sJ k3, .second, sI ((di &&& (3 : Int32)) + (1 : Int32)), sI (((XT.ushr di (2 : Int32)) &&& (3 : Int32)) + (1 : Int32)), sI (((XT.ushr di (4 : Int32)) &&& (3 : Int32)) + (1 : Int32)), sI (((XT.ushr di (6 : Int32)) &&& (3 : Int32)) + (1 : Int32)), sI dr, sR b799, sI 1, sJ af, .second, sJ (af + d3), .second, sI gn]) rfl (XS.iload X842.here hx rfl (D at_345) rfl q)))))) ?_
                  have c849 := (Nat.le_trans (Nat.le_trans (Nat.le_trans (Nat.le_trans (Nat.le_trans (Nat.le_trans (Nat.le_trans (Nat.le_trans (Nat.le_trans (Nat.le_trans (Nat.le_trans (Nat.le_trans (Nat.le_refl _) KL_j12.1) KL_j45.1) KL_j100.1) E799.1) K804) K811) K818) KL_j179.1) K827) KL_j233.1) K838) KL_j310.1)
                  exact own_retN X842 hx hrt (by simp) (D at_347) hlk (by rw [e842]; exact ⟨rfl, N844, c849⟩) (by first | decide | (show _ ≤ (784 : Nat); first | omega | (dsimp only; omega))) (by first | decide | (show _ ≤ (6912 : Nat); first | omega | (dsimp only; omega)))
              refine own_step (g' := (mkF m 274 #[sJ xa, .second, sJ xb, .second, sJ xc, .second, sI di, sI dp, sJ k2, .second, sI ((XT.ushr dp (1 : Int32)) &&& (3 : Int32)), sJ k3, .second, sI ((di &&& (3 : Int32)) + (1 : Int32)), sI (((XT.ushr di (2 : Int32)) &&& (3 : Int32)) + (1 : Int32)), sI (((XT.ushr di (4 : Int32)) &&& (3 : Int32)) + (1 : Int32)), sI (((XT.ushr di (6 : Int32)) &&& (3 : Int32)) + (1 : Int32)), sI dr, sR b799, sI 1, sJ af, .second, sJ (af + d3), .second, .unset] [(.int (((XT.ushr di (6 : Int32)) &&& (3 : Int32)) + (1 : Int32))), (.int ((di &&& (3 : Int32)) + (1 : Int32)))])) (fun _ q => XS.iload X838.here hx rfl (D at_270) rfl (XS.iload X838.here hx rfl (D at_272) rfl q)) ?_
              by_cases hc850 : ((di &&& (3 : Int32)) + (1 : Int32)) = (((XT.ushr di (6 : Int32)) &&& (3 : Int32)) + (1 : Int32))
              · refine own_step (g' := (mkF m 281 #[sJ xa, .second, sJ xb, .second, sJ xc, .second, sI di, sI dp, sJ k2, .second, sI ((XT.ushr dp (1 : Int32)) &&& (3 : Int32)), sJ k3, .second, sI ((di &&& (3 : Int32)) + (1 : Int32)), sI (((XT.ushr di (2 : Int32)) &&& (3 : Int32)) + (1 : Int32)), sI (((XT.ushr di (4 : Int32)) &&& (3 : Int32)) + (1 : Int32)), sI (((XT.ushr di (6 : Int32)) &&& (3 : Int32)) + (1 : Int32)), sI dr, sR b799, sI 1, sJ af, .second, sJ (af + d3), .second, .unset] [(.int (XT.cmpL k2 xa))])) (fun _ q => XS.icmpNo X838.here hx rfl (D at_274) rfl (XT.ii_ne_f hc850) (XT.lload X838.here hx rfl (D at_277) rfl (XT.lloadN X838.here hx rfl (D at_279) rfl (XT.lcmp X838.here hx rfl (D at_280) rfl q)))) ?_
                by_cases hc851 : k2 = xa
                · refine own_step (g' := (mkF m 288 #[sJ xa, .second, sJ xb, .second, sJ xc, .second, sI di, sI dp, sJ k2, .second, sI ((XT.ushr dp (1 : Int32)) &&& (3 : Int32)), sJ k3, .second, sI ((di &&& (3 : Int32)) + (1 : Int32)), sI (((XT.ushr di (2 : Int32)) &&& (3 : Int32)) + (1 : Int32)), sI (((XT.ushr di (4 : Int32)) &&& (3 : Int32)) + (1 : Int32)), sI (((XT.ushr di (6 : Int32)) &&& (3 : Int32)) + (1 : Int32)), sI dr, sR b799, sI 1, sJ af, .second, sJ (af + d3), .second, .unset] [(.int (((XT.ushr di (6 : Int32)) &&& (3 : Int32)) + (1 : Int32))), (.int (((XT.ushr di (2 : Int32)) &&& (3 : Int32)) + (1 : Int32)))])) (fun _ q => XS.ifNo X838.here hx rfl (D at_281) rfl (XT.ll_ne_f hc851) (XS.iload X838.here hx rfl (D at_284) rfl (XS.iload X838.here hx rfl (D at_286) rfl q))) ?_
                  by_cases hc852 : (((XT.ushr di (2 : Int32)) &&& (3 : Int32)) + (1 : Int32)) = (((XT.ushr di (6 : Int32)) &&& (3 : Int32)) + (1 : Int32))
                  · refine own_step (g' := (mkF m 295 #[sJ xa, .second, sJ xb, .second, sJ xc, .second, sI di, sI dp, sJ k2, .second, sI ((XT.ushr dp (1 : Int32)) &&& (3 : Int32)), sJ k3, .second, sI ((di &&& (3 : Int32)) + (1 : Int32)), sI (((XT.ushr di (2 : Int32)) &&& (3 : Int32)) + (1 : Int32)), sI (((XT.ushr di (4 : Int32)) &&& (3 : Int32)) + (1 : Int32)), sI (((XT.ushr di (6 : Int32)) &&& (3 : Int32)) + (1 : Int32)), sI dr, sR b799, sI 1, sJ af, .second, sJ (af + d3), .second, .unset] [(.int (XT.cmpL k3 xa))])) (fun _ q => XS.icmpNo X838.here hx rfl (D at_288) rfl (XT.ii_ne_f hc852) (XT.lload X838.here hx rfl (D at_291) rfl (XT.lloadN X838.here hx rfl (D at_293) rfl (XT.lcmp X838.here hx rfl (D at_294) rfl q)))) ?_
                    by_cases hc853 : k3 = xa
                    · refine own_step (g' := (mkF m 302 #[sJ xa, .second, sJ xb, .second, sJ xc, .second, sI di, sI dp, sJ k2, .second, sI ((XT.ushr dp (1 : Int32)) &&& (3 : Int32)), sJ k3, .second, sI ((di &&& (3 : Int32)) + (1 : Int32)), sI (((XT.ushr di (2 : Int32)) &&& (3 : Int32)) + (1 : Int32)), sI (((XT.ushr di (4 : Int32)) &&& (3 : Int32)) + (1 : Int32)), sI (((XT.ushr di (6 : Int32)) &&& (3 : Int32)) + (1 : Int32)), sI dr, sR b799, sI 1, sJ af, .second, sJ (af + d3), .second, .unset] [(.int (((XT.ushr di (6 : Int32)) &&& (3 : Int32)) + (1 : Int32))), (.int (((XT.ushr di (4 : Int32)) &&& (3 : Int32)) + (1 : Int32)))])) (fun _ q => XS.ifNo X838.here hx rfl (D at_295) rfl (XT.ll_ne_f hc853) (XS.iload X838.here hx rfl (D at_298) rfl (XS.iload X838.here hx rfl (D at_300) rfl q))) ?_
                      by_cases hc854 : (((XT.ushr di (4 : Int32)) &&& (3 : Int32)) + (1 : Int32)) = (((XT.ushr di (6 : Int32)) &&& (3 : Int32)) + (1 : Int32))
                      · refine own_step (g' := (mkF m 310 #[sJ xa, .second, sJ xb, .second, sJ xc, .second, sI di, sI dp, sJ k2, .second, sI ((XT.ushr dp (1 : Int32)) &&& (3 : Int32)), sJ k3, .second, sI ((di &&& (3 : Int32)) + (1 : Int32)), sI (((XT.ushr di (2 : Int32)) &&& (3 : Int32)) + (1 : Int32)), sI (((XT.ushr di (4 : Int32)) &&& (3 : Int32)) + (1 : Int32)), sI (((XT.ushr di (6 : Int32)) &&& (3 : Int32)) + (1 : Int32)), sI dr, sR b799, sI 1, sJ af, .second, sJ (af + d3), .second, .unset] [(.int 1)])) (fun _ q => XS.icmpNo X838.here hx rfl (D at_302) rfl (XT.ii_ne_f hc854) (XS.iconst X838.here hx rfl (D at_305) (XS.goto X838.here hx rfl (pc0 := 306) (pc' := 310) rfl (D at_306) (by decide) (by decide) q))) ?_
                        exact lp_j310 ((1 : Int32)) T838 T838.heap _ X838 rfl N839 (Keep.refl T838.heap [])  (Or.inl ⟨rfl, hc850, fun _ => hc852, fun _ => hc854⟩)
                      · refine own_step (g' := (mkF m 310 #[sJ xa, .second, sJ xb, .second, sJ xc, .second, sI di, sI dp, sJ k2, .second, sI ((XT.ushr dp (1 : Int32)) &&& (3 : Int32)), sJ k3, .second, sI ((di &&& (3 : Int32)) + (1 : Int32)), sI (((XT.ushr di (2 : Int32)) &&& (3 : Int32)) + (1 : Int32)), sI (((XT.ushr di (4 : Int32)) &&& (3 : Int32)) + (1 : Int32)), sI (((XT.ushr di (6 : Int32)) &&& (3 : Int32)) + (1 : Int32)), sI dr, sR b799, sI 1, sJ af, .second, sJ (af + d3), .second, .unset] [(.int 0)])) (fun _ q => XS.icmpYes X838.here hx rfl (pc0 := 302) (pc' := 309) rfl (D at_302) rfl (XT.ii_ne_t hc854) (by decide) (by decide) (XS.iconst X838.here hx rfl (D at_309) q)) ?_
                        exact lp_j310 ((0 : Int32)) T838 T838.heap _ X838 rfl N839 (Keep.refl T838.heap [])  (Or.inr ⟨rfl, fun q => hc854 (q.2.2 hc853)⟩)
                    · refine own_step (g' := (mkF m 310 #[sJ xa, .second, sJ xb, .second, sJ xc, .second, sI di, sI dp, sJ k2, .second, sI ((XT.ushr dp (1 : Int32)) &&& (3 : Int32)), sJ k3, .second, sI ((di &&& (3 : Int32)) + (1 : Int32)), sI (((XT.ushr di (2 : Int32)) &&& (3 : Int32)) + (1 : Int32)), sI (((XT.ushr di (4 : Int32)) &&& (3 : Int32)) + (1 : Int32)), sI (((XT.ushr di (6 : Int32)) &&& (3 : Int32)) + (1 : Int32)), sI dr, sR b799, sI 1, sJ af, .second, sJ (af + d3), .second, .unset] [(.int 1)])) (fun _ q => XS.ifYes X838.here hx rfl (pc0 := 295) (pc' := 305) rfl (D at_295) rfl (XT.ll_ne_t hc853) (by decide) (by decide) (XS.iconst X838.here hx rfl (D at_305) (XS.goto X838.here hx rfl (pc0 := 306) (pc' := 310) rfl (D at_306) (by decide) (by decide) q))) ?_
                      exact lp_j310 ((1 : Int32)) T838 T838.heap _ X838 rfl N839 (Keep.refl T838.heap [])  (Or.inl ⟨rfl, hc850, fun _ => hc852, fun q => absurd q hc853⟩)
                  · refine own_step (g' := (mkF m 310 #[sJ xa, .second, sJ xb, .second, sJ xc, .second, sI di, sI dp, sJ k2, .second, sI ((XT.ushr dp (1 : Int32)) &&& (3 : Int32)), sJ k3, .second, sI ((di &&& (3 : Int32)) + (1 : Int32)), sI (((XT.ushr di (2 : Int32)) &&& (3 : Int32)) + (1 : Int32)), sI (((XT.ushr di (4 : Int32)) &&& (3 : Int32)) + (1 : Int32)), sI (((XT.ushr di (6 : Int32)) &&& (3 : Int32)) + (1 : Int32)), sI dr, sR b799, sI 1, sJ af, .second, sJ (af + d3), .second, .unset] [(.int 0)])) (fun _ q => XS.icmpYes X838.here hx rfl (pc0 := 288) (pc' := 309) rfl (D at_288) rfl (XT.ii_ne_t hc852) (by decide) (by decide) (XS.iconst X838.here hx rfl (D at_309) q)) ?_
                    exact lp_j310 ((0 : Int32)) T838 T838.heap _ X838 rfl N839 (Keep.refl T838.heap [])  (Or.inr ⟨rfl, fun q => hc852 (q.2.1 hc851)⟩)
                · refine own_step (g' := (mkF m 295 #[sJ xa, .second, sJ xb, .second, sJ xc, .second, sI di, sI dp, sJ k2, .second, sI ((XT.ushr dp (1 : Int32)) &&& (3 : Int32)), sJ k3, .second, sI ((di &&& (3 : Int32)) + (1 : Int32)), sI (((XT.ushr di (2 : Int32)) &&& (3 : Int32)) + (1 : Int32)), sI (((XT.ushr di (4 : Int32)) &&& (3 : Int32)) + (1 : Int32)), sI (((XT.ushr di (6 : Int32)) &&& (3 : Int32)) + (1 : Int32)), sI dr, sR b799, sI 1, sJ af, .second, sJ (af + d3), .second, .unset] [(.int (XT.cmpL k3 xa))])) (fun _ q => XS.ifYes X838.here hx rfl (pc0 := 281) (pc' := 291) rfl (D at_281) rfl (XT.ll_ne_t hc851) (by decide) (by decide) (XT.lload X838.here hx rfl (D at_291) rfl (XT.lloadN X838.here hx rfl (D at_293) rfl (XT.lcmp X838.here hx rfl (D at_294) rfl q)))) ?_
                  by_cases hc855 : k3 = xa
                  · refine own_step (g' := (mkF m 302 #[sJ xa, .second, sJ xb, .second, sJ xc, .second, sI di, sI dp, sJ k2, .second, sI ((XT.ushr dp (1 : Int32)) &&& (3 : Int32)), sJ k3, .second, sI ((di &&& (3 : Int32)) + (1 : Int32)), sI (((XT.ushr di (2 : Int32)) &&& (3 : Int32)) + (1 : Int32)), sI (((XT.ushr di (4 : Int32)) &&& (3 : Int32)) + (1 : Int32)), sI (((XT.ushr di (6 : Int32)) &&& (3 : Int32)) + (1 : Int32)), sI dr, sR b799, sI 1, sJ af, .second, sJ (af + d3), .second, .unset] [(.int (((XT.ushr di (6 : Int32)) &&& (3 : Int32)) + (1 : Int32))), (.int (((XT.ushr di (4 : Int32)) &&& (3 : Int32)) + (1 : Int32)))])) (fun _ q => XS.ifNo X838.here hx rfl (D at_295) rfl (XT.ll_ne_f hc855) (XS.iload X838.here hx rfl (D at_298) rfl (XS.iload X838.here hx rfl (D at_300) rfl q))) ?_
                    by_cases hc856 : (((XT.ushr di (4 : Int32)) &&& (3 : Int32)) + (1 : Int32)) = (((XT.ushr di (6 : Int32)) &&& (3 : Int32)) + (1 : Int32))
                    · refine own_step (g' := (mkF m 310 #[sJ xa, .second, sJ xb, .second, sJ xc, .second, sI di, sI dp, sJ k2, .second, sI ((XT.ushr dp (1 : Int32)) &&& (3 : Int32)), sJ k3, .second, sI ((di &&& (3 : Int32)) + (1 : Int32)), sI (((XT.ushr di (2 : Int32)) &&& (3 : Int32)) + (1 : Int32)), sI (((XT.ushr di (4 : Int32)) &&& (3 : Int32)) + (1 : Int32)), sI (((XT.ushr di (6 : Int32)) &&& (3 : Int32)) + (1 : Int32)), sI dr, sR b799, sI 1, sJ af, .second, sJ (af + d3), .second, .unset] [(.int 1)])) (fun _ q => XS.icmpNo X838.here hx rfl (D at_302) rfl (XT.ii_ne_f hc856) (XS.iconst X838.here hx rfl (D at_305) (XS.goto X838.here hx rfl (pc0 := 306) (pc' := 310) rfl (D at_306) (by decide) (by decide) q))) ?_
                      exact lp_j310 ((1 : Int32)) T838 T838.heap _ X838 rfl N839 (Keep.refl T838.heap [])  (Or.inl ⟨rfl, hc850, fun q => absurd q hc851, fun _ => hc856⟩)
                    · refine own_step (g' := (mkF m 310 #[sJ xa, .second, sJ xb, .second, sJ xc, .second, sI di, sI dp, sJ k2, .second, sI ((XT.ushr dp (1 : Int32)) &&& (3 : Int32)), sJ k3, .second, sI ((di &&& (3 : Int32)) + (1 : Int32)), sI (((XT.ushr di (2 : Int32)) &&& (3 : Int32)) + (1 : Int32)), sI (((XT.ushr di (4 : Int32)) &&& (3 : Int32)) + (1 : Int32)), sI (((XT.ushr di (6 : Int32)) &&& (3 : Int32)) + (1 : Int32)), sI dr, sR b799, sI 1, sJ af, .second, sJ (af + d3), .second, .unset] [(.int 0)])) (fun _ q => XS.icmpYes X838.here hx rfl (pc0 := 302) (pc' := 309) rfl (D at_302) rfl (XT.ii_ne_t hc856) (by decide) (by decide) (XS.iconst X838.here hx rfl (D at_309) q)) ?_
                      exact lp_j310 ((0 : Int32)) T838 T838.heap _ X838 rfl N839 (Keep.refl T838.heap [])  (Or.inr ⟨rfl, fun q => hc856 (q.2.2 hc855)⟩)
                  · refine own_step (g' := (mkF m 310 #[sJ xa, .second, sJ xb, .second, sJ xc, .second, sI di, sI dp, sJ k2, .second, sI ((XT.ushr dp (1 : Int32)) &&& (3 : Int32)), sJ k3, .second, sI ((di &&& (3 : Int32)) + (1 : Int32)), sI (((XT.ushr di (2 : Int32)) &&& (3 : Int32)) + (1 : Int32)), sI (((XT.ushr di (4 : Int32)) &&& (3 : Int32)) + (1 : Int32)), sI (((XT.ushr di (6 : Int32)) &&& (3 : Int32)) + (1 : Int32)), sI dr, sR b799, sI 1, sJ af, .second, sJ (af + d3), .second, .unset] [(.int 1)])) (fun _ q => XS.ifYes X838.here hx rfl (pc0 := 295) (pc' := 305) rfl (D at_295) rfl (XT.ll_ne_t hc855) (by decide) (by decide) (XS.iconst X838.here hx rfl (D at_305) (XS.goto X838.here hx rfl (pc0 := 306) (pc' := 310) rfl (D at_306) (by decide) (by decide) q))) ?_
                    exact lp_j310 ((1 : Int32)) T838 T838.heap _ X838 rfl N839 (Keep.refl T838.heap [])  (Or.inl ⟨rfl, hc850, fun q => absurd q hc851, fun q => absurd q hc855⟩)
              · refine own_step (g' := (mkF m 310 #[sJ xa, .second, sJ xb, .second, sJ xc, .second, sI di, sI dp, sJ k2, .second, sI ((XT.ushr dp (1 : Int32)) &&& (3 : Int32)), sJ k3, .second, sI ((di &&& (3 : Int32)) + (1 : Int32)), sI (((XT.ushr di (2 : Int32)) &&& (3 : Int32)) + (1 : Int32)), sI (((XT.ushr di (4 : Int32)) &&& (3 : Int32)) + (1 : Int32)), sI (((XT.ushr di (6 : Int32)) &&& (3 : Int32)) + (1 : Int32)), sI dr, sR b799, sI 1, sJ af, .second, sJ (af + d3), .second, .unset] [(.int 0)])) (fun _ q => XS.icmpYes X838.here hx rfl (pc0 := 274) (pc' := 309) rfl (D at_274) rfl (XT.ii_ne_t hc850) (by decide) (by decide) (XS.iconst X838.here hx rfl (D at_309) q)) ?_
                exact lp_j310 ((0 : Int32)) T838 T838.heap _ X838 rfl N839 (Keep.refl T838.heap [])  (Or.inr ⟨rfl, fun q => hc850 q.1⟩)
          refine own_step (g' := (mkF m 217 #[sJ xa, .second, sJ xb, .second, sJ xc, .second, sI di, sI dp, sJ k2, .second, sI ((XT.ushr dp (1 : Int32)) &&& (3 : Int32)), sJ k3, .second, sI ((di &&& (3 : Int32)) + (1 : Int32)), sI (((XT.ushr di (2 : Int32)) &&& (3 : Int32)) + (1 : Int32)), sI (((XT.ushr di (4 : Int32)) &&& (3 : Int32)) + (1 : Int32)), sI (((XT.ushr di (6 : Int32)) &&& (3 : Int32)) + (1 : Int32)), sI dr, sR b799, sI 1, sJ af, .second, .unset, .unset, .unset] [(.int (XT.cmpL k3 xa)), (.long af)])) (fun _ q => XT.lload X827.here hx rfl (D at_211) rfl (XT.lload X827.here hx rfl (D at_213) rfl (XT.lloadN X827.here hx rfl (D at_215) rfl (XT.lcmp X827.here hx rfl (D at_216) rfl q)))) ?_
          by_cases hc857 : k3 = xa
          · refine own_step (g' := (mkF m 233 #[sJ xa, .second, sJ xb, .second, sJ xc, .second, sI di, sI dp, sJ k2, .second, sI ((XT.ushr dp (1 : Int32)) &&& (3 : Int32)), sJ k3, .second, sI ((di &&& (3 : Int32)) + (1 : Int32)), sI (((XT.ushr di (2 : Int32)) &&& (3 : Int32)) + (1 : Int32)), sI (((XT.ushr di (4 : Int32)) &&& (3 : Int32)) + (1 : Int32)), sI (((XT.ushr di (6 : Int32)) &&& (3 : Int32)) + (1 : Int32)), sI dr, sR b799, sI 1, sJ af, .second, .unset, .unset, .unset] [(.long 0), (.long af)])) (fun _ q => XS.ifYes X827.here hx rfl (pc0 := 217) (pc' := 232) rfl (D at_217) rfl (XT.ll_eq_t hc857) (by decide) (by decide) (XT.lconst X827.here hx rfl (D at_232) q)) ?_
            exact lp_j233 ((0 : Int64)) T827 T827.heap _ X827 rfl N828 (Keep.refl T827.heap [])  ((if_pos (Or.inl hc857)).symm)
          · refine own_step (g' := (mkF m 225 #[sJ xa, .second, sJ xb, .second, sJ xc, .second, sI di, sI dp, sJ k2, .second, sI ((XT.ushr dp (1 : Int32)) &&& (3 : Int32)), sJ k3, .second, sI ((di &&& (3 : Int32)) + (1 : Int32)), sI (((XT.ushr di (2 : Int32)) &&& (3 : Int32)) + (1 : Int32)), sI (((XT.ushr di (4 : Int32)) &&& (3 : Int32)) + (1 : Int32)), sI (((XT.ushr di (6 : Int32)) &&& (3 : Int32)) + (1 : Int32)), sI dr, sR b799, sI 1, sJ af, .second, .unset, .unset, .unset] [(.int (XT.cmpL k3 k2)), (.long af)])) (fun _ q => XS.ifNo X827.here hx rfl (D at_217) rfl (XT.ll_eq_f hc857) (XT.lload X827.here hx rfl (D at_220) rfl (XT.lload X827.here hx rfl (D at_222) rfl (XT.lcmp X827.here hx rfl (D at_224) rfl q)))) ?_
            by_cases hc858 : k3 = k2
            · refine own_step (g' := (mkF m 233 #[sJ xa, .second, sJ xb, .second, sJ xc, .second, sI di, sI dp, sJ k2, .second, sI ((XT.ushr dp (1 : Int32)) &&& (3 : Int32)), sJ k3, .second, sI ((di &&& (3 : Int32)) + (1 : Int32)), sI (((XT.ushr di (2 : Int32)) &&& (3 : Int32)) + (1 : Int32)), sI (((XT.ushr di (4 : Int32)) &&& (3 : Int32)) + (1 : Int32)), sI (((XT.ushr di (6 : Int32)) &&& (3 : Int32)) + (1 : Int32)), sI dr, sR b799, sI 1, sJ af, .second, .unset, .unset, .unset] [(.long 0), (.long af)])) (fun _ q => XS.ifYes X827.here hx rfl (pc0 := 225) (pc' := 232) rfl (D at_225) rfl (XT.ll_eq_t hc858) (by decide) (by decide) (XT.lconst X827.here hx rfl (D at_232) q)) ?_
              exact lp_j233 ((0 : Int64)) T827 T827.heap _ X827 rfl N828 (Keep.refl T827.heap [])  ((if_pos (Or.inr hc858)).symm)
            · refine own_step (g' := (mkF m 233 #[sJ xa, .second, sJ xb, .second, sJ xc, .second, sI di, sI dp, sJ k2, .second, sI ((XT.ushr dp (1 : Int32)) &&& (3 : Int32)), sJ k3, .second, sI ((di &&& (3 : Int32)) + (1 : Int32)), sI (((XT.ushr di (2 : Int32)) &&& (3 : Int32)) + (1 : Int32)), sI (((XT.ushr di (4 : Int32)) &&& (3 : Int32)) + (1 : Int32)), sI (((XT.ushr di (6 : Int32)) &&& (3 : Int32)) + (1 : Int32)), sI dr, sR b799, sI 1, sJ af, .second, .unset, .unset, .unset] [(.long 1), (.long af)])) (fun _ q => XS.ifNo X827.here hx rfl (D at_225) rfl (XT.ll_eq_f hc858) (XT.lconst X827.here hx rfl (D at_228) (XS.goto X827.here hx rfl (pc0 := 229) (pc' := 233) rfl (D at_229) (by decide) (by decide) q))) ?_
              exact lp_j233 ((1 : Int64)) T827 T827.heap _ X827 rfl N828 (Keep.refl T827.heap [])  ((if_neg (fun q => q.elim hc857 hc858)).symm)
        refine own_step (g' := (mkF m 169 #[sJ xa, .second, sJ xb, .second, sJ xc, .second, sI di, sI dp, sJ k2, .second, sI ((XT.ushr dp (1 : Int32)) &&& (3 : Int32)), sJ k3, .second, sI ((di &&& (3 : Int32)) + (1 : Int32)), sI (((XT.ushr di (2 : Int32)) &&& (3 : Int32)) + (1 : Int32)), sI (((XT.ushr di (4 : Int32)) &&& (3 : Int32)) + (1 : Int32)), sI (((XT.ushr di (6 : Int32)) &&& (3 : Int32)) + (1 : Int32)), sI dr, sR b799, sI 1, .unset, .unset, .unset, .unset, .unset] [(.int (XT.cmpL k2 xa))])) (fun _ q => XT.lload X818.here hx rfl (D at_165) rfl (XT.lloadN X818.here hx rfl (D at_167) rfl (XT.lcmp X818.here hx rfl (D at_168) rfl q))) ?_
        by_cases hc859 : k2 = xa
        · refine own_step (g' := (mkF m 179 #[sJ xa, .second, sJ xb, .second, sJ xc, .second, sI di, sI dp, sJ k2, .second, sI ((XT.ushr dp (1 : Int32)) &&& (3 : Int32)), sJ k3, .second, sI ((di &&& (3 : Int32)) + (1 : Int32)), sI (((XT.ushr di (2 : Int32)) &&& (3 : Int32)) + (1 : Int32)), sI (((XT.ushr di (4 : Int32)) &&& (3 : Int32)) + (1 : Int32)), sI (((XT.ushr di (6 : Int32)) &&& (3 : Int32)) + (1 : Int32)), sI dr, sR b799, sI 1, .unset, .unset, .unset, .unset, .unset] [(.long 1)])) (fun _ q => XS.ifYes X818.here hx rfl (pc0 := 169) (pc' := 178) rfl (D at_169) rfl (XT.ll_eq_t hc859) (by decide) (by decide) (XT.lconst X818.here hx rfl (D at_178) q)) ?_
          exact lp_j179 ((1 : Int64)) T818 T818.heap _ X818 rfl N819 (Keep.refl T818.heap [])  ((if_pos hc859).symm)
        · refine own_step (g' := (mkF m 179 #[sJ xa, .second, sJ xb, .second, sJ xc, .second, sI di, sI dp, sJ k2, .second, sI ((XT.ushr dp (1 : Int32)) &&& (3 : Int32)), sJ k3, .second, sI ((di &&& (3 : Int32)) + (1 : Int32)), sI (((XT.ushr di (2 : Int32)) &&& (3 : Int32)) + (1 : Int32)), sI (((XT.ushr di (4 : Int32)) &&& (3 : Int32)) + (1 : Int32)), sI (((XT.ushr di (6 : Int32)) &&& (3 : Int32)) + (1 : Int32)), sI dr, sR b799, sI 1, .unset, .unset, .unset, .unset, .unset] [(.long 2)])) (fun _ q => XS.ifNo X818.here hx rfl (D at_169) rfl (XT.ll_eq_f hc859) (X818.ldc2Long hx hown (mvT hZ (w90 hw)) (g := (mkF m 172 #[sJ xa, .second, sJ xb, .second, sJ xc, .second, sI di, sI dp, sJ k2, .second, sI ((XT.ushr dp (1 : Int32)) &&& (3 : Int32)), sJ k3, .second, sI ((di &&& (3 : Int32)) + (1 : Int32)), sI (((XT.ushr di (2 : Int32)) &&& (3 : Int32)) + (1 : Int32)), sI (((XT.ushr di (4 : Int32)) &&& (3 : Int32)) + (1 : Int32)), sI (((XT.ushr di (6 : Int32)) &&& (3 : Int32)) + (1 : Int32)), sI dr, sR b799, sI 1, .unset, .unset, .unset, .unset, .unset] [])) rfl (D at_172) _ (XS.goto X818.here hx rfl (pc0 := 175) (pc' := 179) rfl (D at_175) (by decide) (by decide) q))) ?_
          exact lp_j179 ((2 : Int64)) T818 T818.heap _ X818 rfl N819 (Keep.refl T818.heap [])  ((if_neg hc859).symm)
      refine own_step (g' := (mkF m 92 #[sJ xa, .second, sJ xb, .second, sJ xc, .second, sI di, sI dp, sJ k2, .second, sI ((XT.ushr dp (1 : Int32)) &&& (3 : Int32)), sJ k3, .second, sI ((di &&& (3 : Int32)) + (1 : Int32)), sI (((XT.ushr di (2 : Int32)) &&& (3 : Int32)) + (1 : Int32)), sI (((XT.ushr di (4 : Int32)) &&& (3 : Int32)) + (1 : Int32)), sI (((XT.ushr di (6 : Int32)) &&& (3 : Int32)) + (1 : Int32)), .unset, .unset, .unset, .unset, .unset, .unset, .unset, .unset] [(.int ((XT.ushr dp (3 : Int32)) &&& (1 : Int32)))])) (fun _ q => XS.iload X_j45.here hx rfl (D at_86) rfl (XS.iconst X_j45.here hx rfl (D at_88) (XT.iushr X_j45.here hx rfl (D at_89) rfl (XS.iconst X_j45.here hx rfl (D at_90) (XS.iand X_j45.here hx rfl (D at_91) rfl q))))) ?_
      by_cases hc860 : ((XT.ushr dp (3 : Int32)) &&& (1 : Int32)) = 0
      · refine own_step (g' := (mkF m 100 #[sJ xa, .second, sJ xb, .second, sJ xc, .second, sI di, sI dp, sJ k2, .second, sI ((XT.ushr dp (1 : Int32)) &&& (3 : Int32)), sJ k3, .second, sI ((di &&& (3 : Int32)) + (1 : Int32)), sI (((XT.ushr di (2 : Int32)) &&& (3 : Int32)) + (1 : Int32)), sI (((XT.ushr di (4 : Int32)) &&& (3 : Int32)) + (1 : Int32)), sI (((XT.ushr di (6 : Int32)) &&& (3 : Int32)) + (1 : Int32)), .unset, .unset, .unset, .unset, .unset, .unset, .unset, .unset] [(.int 0)])) (fun _ q => XS.ifYes X_j45.here hx rfl (pc0 := 92) (pc' := 99) rfl (D at_92) rfl (XT.i0_eq_t hc860) (by decide) (by decide) (XS.iconst X_j45.here hx rfl (D at_99) q)) ?_
        exact lp_j100 ((0 : Int32)) T_j45 h_j45 _ X_j45 e_j45 N_j45 (Keep.refl h_j45 [])  
      · refine own_step (g' := (mkF m 100 #[sJ xa, .second, sJ xb, .second, sJ xc, .second, sI di, sI dp, sJ k2, .second, sI ((XT.ushr dp (1 : Int32)) &&& (3 : Int32)), sJ k3, .second, sI ((di &&& (3 : Int32)) + (1 : Int32)), sI (((XT.ushr di (2 : Int32)) &&& (3 : Int32)) + (1 : Int32)), sI (((XT.ushr di (4 : Int32)) &&& (3 : Int32)) + (1 : Int32)), sI (((XT.ushr di (6 : Int32)) &&& (3 : Int32)) + (1 : Int32)), .unset, .unset, .unset, .unset, .unset, .unset, .unset, .unset] [(.int 1)])) (fun _ q => XS.ifNo X_j45.here hx rfl (D at_92) rfl (XT.i0_eq_f hc860) (XS.iconst X_j45.here hx rfl (D at_95) (XS.goto X_j45.here hx rfl (pc0 := 96) (pc' := 100) rfl (D at_96) (by decide) (by decide) q))) ?_
        exact lp_j100 ((1 : Int32)) T_j45 h_j45 _ X_j45 e_j45 N_j45 (Keep.refl h_j45 [])  
    refine own_step (g' := (mkF m 25 #[sJ xa, .second, sJ xb, .second, sJ xc, .second, sI di, sI dp, sJ k2, .second, sI ((XT.ushr dp (1 : Int32)) &&& (3 : Int32)), .unset, .unset, .unset, .unset, .unset, .unset, .unset, .unset, .unset, .unset, .unset, .unset, .unset, .unset] [(.int 1), (.int ((XT.ushr dp (1 : Int32)) &&& (3 : Int32)))])) (fun _ q => XS.iload X_j12.here hx rfl (D at_22) rfl (XS.iconst X_j12.here hx rfl (D at_24) q)) ?_
    by_cases hc861 : ((XT.ushr dp (1 : Int32)) &&& (3 : Int32)) = (1 : Int32)
    · refine own_step (g' := (mkF m 45 #[sJ xa, .second, sJ xb, .second, sJ xc, .second, sI di, sI dp, sJ k2, .second, sI ((XT.ushr dp (1 : Int32)) &&& (3 : Int32)), .unset, .unset, .unset, .unset, .unset, .unset, .unset, .unset, .unset, .unset, .unset, .unset, .unset, .unset] [(.long xa)])) (fun _ q => XS.icmpNo X_j12.here hx rfl (D at_25) rfl (XT.ii_ne_f hc861) (XT.lloadN X_j12.here hx rfl (D at_28) rfl (XS.goto X_j12.here hx rfl (pc0 := 29) (pc' := 45) rfl (D at_29) (by decide) (by decide) q))) ?_
      exact lp_j45 (xa) T_j12 h_j12 _ X_j12 e_j12 N_j12 (Keep.refl h_j12 [])  
    · refine own_step (g' := (mkF m 35 #[sJ xa, .second, sJ xb, .second, sJ xc, .second, sI di, sI dp, sJ k2, .second, sI ((XT.ushr dp (1 : Int32)) &&& (3 : Int32)), .unset, .unset, .unset, .unset, .unset, .unset, .unset, .unset, .unset, .unset, .unset, .unset, .unset, .unset] [(.int 2), (.int ((XT.ushr dp (1 : Int32)) &&& (3 : Int32)))])) (fun _ q => XS.icmpYes X_j12.here hx rfl (pc0 := 25) (pc' := 32) rfl (D at_25) rfl (XT.ii_ne_t hc861) (by decide) (by decide) (XS.iload X_j12.here hx rfl (D at_32) rfl (XS.iconst X_j12.here hx rfl (D at_34) q))) ?_
      by_cases hc862 : ((XT.ushr dp (1 : Int32)) &&& (3 : Int32)) = (2 : Int32)
      · refine own_step (g' := (mkF m 45 #[sJ xa, .second, sJ xb, .second, sJ xc, .second, sI di, sI dp, sJ k2, .second, sI ((XT.ushr dp (1 : Int32)) &&& (3 : Int32)), .unset, .unset, .unset, .unset, .unset, .unset, .unset, .unset, .unset, .unset, .unset, .unset, .unset, .unset] [(.long k2)])) (fun _ q => XS.icmpNo X_j12.here hx rfl (D at_35) rfl (XT.ii_ne_f hc862) (XT.lload X_j12.here hx rfl (D at_38) rfl (XS.goto X_j12.here hx rfl (pc0 := 40) (pc' := 45) rfl (D at_40) (by decide) (by decide) q))) ?_
        exact lp_j45 (k2) T_j12 h_j12 _ X_j12 e_j12 N_j12 (Keep.refl h_j12 [])  
      · refine own_step (g' := (mkF m 45 #[sJ xa, .second, sJ xb, .second, sJ xc, .second, sI di, sI dp, sJ k2, .second, sI ((XT.ushr dp (1 : Int32)) &&& (3 : Int32)), .unset, .unset, .unset, .unset, .unset, .unset, .unset, .unset, .unset, .unset, .unset, .unset, .unset, .unset] [(.long xc)])) (fun _ q => XS.icmpYes X_j12.here hx rfl (pc0 := 35) (pc' := 43) rfl (D at_35) rfl (XT.ii_ne_t hc862) (by decide) (by decide) (XT.lload X_j12.here hx rfl (D at_43) rfl q)) ?_
        exact lp_j45 (xc) T_j12 h_j12 _ X_j12 e_j12 N_j12 (Keep.refl h_j12 [])  
  refine own_step (g' := (mkF m 4 #[sJ xa, .second, sJ xb, .second, sJ xc, .second, sI di, sI dp, .unset, .unset, .unset, .unset, .unset, .unset, .unset, .unset, .unset, .unset, .unset, .unset, .unset, .unset, .unset, .unset, .unset] [(.int (dp &&& (1 : Int32)))])) (fun _ q => XS.iload X0.here hx rfl (D at_0) rfl (XS.iconst X0.here hx rfl (D at_2) (XS.iand X0.here hx rfl (D at_3) rfl q))) ?_
  by_cases hc863 : (dp &&& (1 : Int32)) = 0
  · refine own_step (g' := (mkF m 12 #[sJ xa, .second, sJ xb, .second, sJ xc, .second, sI di, sI dp, .unset, .unset, .unset, .unset, .unset, .unset, .unset, .unset, .unset, .unset, .unset, .unset, .unset, .unset, .unset, .unset, .unset] [(.long xb)])) (fun _ q => XS.ifYes X0.here hx rfl (pc0 := 4) (pc' := 11) rfl (D at_4) rfl (XT.i0_eq_t hc863) (by decide) (by decide) (XT.lloadN X0.here hx rfl (D at_11) rfl q)) ?_
    exact lp_j12 (xb) s₁ h0 _ X0 e0 N0 (Keep.refl h0 [])  
  · refine own_step (g' := (mkF m 12 #[sJ xa, .second, sJ xb, .second, sJ xc, .second, sI di, sI dp, .unset, .unset, .unset, .unset, .unset, .unset, .unset, .unset, .unset, .unset, .unset, .unset, .unset, .unset, .unset, .unset, .unset] [(.long xa)])) (fun _ q => XS.ifNo X0.here hx rfl (D at_4) rfl (XT.i0_eq_f hc863) (XT.lloadN X0.here hx rfl (D at_7) rfl (XS.goto X0.here hx rfl (pc0 := 8) (pc' := 12) rfl (D at_8) (by decide) (by decide) q))) ?_
    exact lp_j12 (xa) s₁ h0 _ X0 e0 N0 (Keep.refl h0 [])  
set_option maxRecDepth 65536 in
set_option maxHeartbeats 40000000 in
theorem comes_1 {Post : Tables → Env → Array Value → State → Outcome → State → Prop} (hpost : ∀ tb e args s v u, (limb_1_1.after args s (.returned v) u = true ∧ limb_1_2.after args s (.returned v) u = true ∧ True) → FrameEnd s (.returned v) u (Jvm.fieldLocs frame_1_writes args s ++ Jvm.arrayLocs frame_1_arrays args s ++ Jvm.staticLocs frame_1_statics s) 784 6912 → Post tb e args s (.returned v) u) :
    ArmFor flags0 classFile x code maxLocals ret World_1 tables_1 room_1 Calls_1 rest_1 Pre_1 Post := by
  intro l hfl _ _ p e ha hc hk s m args below hf hA hF happ hP
  obtain ⟨hcalls, hrest, hpre⟩ := hP
  obtain ⟨-, -, -, hnamed, -, -, -, hat⟩ := (Spec.applies_iff hf).mp happ
  obtain ⟨hg, hn⟩ := and_e (Cond.before_iff.mp (show (Jvm.Cond.and given_1 narrow_1).before args s = true from hpre))
  obtain ⟨hcnt, r0⟩ := and_e hg
  obtain ⟨q0, r1⟩ := and_e r0
  obtain ⟨q1, r2⟩ := and_e r1
  obtain ⟨q2, r3⟩ := and_e r2
  obtain ⟨q3, r4⟩ := and_e r3
  have q4 := r4
  obtain ⟨u0, u1, u2, u3, u4, rfl⟩ : ∃ u0 u1 u2 u3 u4 : Value, args = #[u0, u1, u2, u3, u4] := by
    have hs : args.size = 5 := by simpa [Cond.value, given_1] using hcnt
    obtain ⟨L⟩ := args
    match L, hs with
    | [u0, u1, u2, u3, u4], _ => exact ⟨u0, u1, u2, u3, u4, rfl⟩
  have hw := fun d (hd : d ∈ tables_1) => atoms_spec (ws := Jvm.Cond.code x code maxLocals ret :: tables_1) hat d (List.mem_cons_of_mem _ hd)
  obtain ⟨i0, ei0⟩ := isL_v q0
  obtain rfl : u0 = (.long i0) := Option.some.inj ei0
  obtain ⟨i1, ei1⟩ := isL_v q1
  obtain rfl : u1 = (.long i1) := Option.some.inj ei1
  obtain ⟨i2, ei2⟩ := isL_v q2
  obtain rfl : u2 = (.long i2) := Option.some.inj ei2
  obtain ⟨i3, ei3⟩ := is_v q3
  obtain rfl : u3 = (.int i3) := Option.some.inj ei3
  obtain ⟨i4, ei4⟩ := is_v q4
  obtain rfl : u4 = (.int i4) := Option.some.inj ei4
  obtain ⟨n, o, h1, h2, h3, _, L, rfl, ⟨rfl, N, -⟩, hq⟩ := own_law l s _ hw tables_1 i0 i1 i2 i3 i4 s.heap s.heap.size (Nat.le_refl _) p e ha hc hk s m _ below hf ((Spec.applies_iff_loose hf).mp happ).1 ⟨rfl, State.Warmed39.refl s, rfl⟩ trivial
  refine ⟨n, _, h1, h2, h3, hpost _ _ _ _ _ _ ⟨Cond.after_iff.mpr rfl, Cond.after_iff.mpr (eq_i res_at (Term.int_eval (1)) rfl), trivial⟩ ⟨hq.1, hq.2.1, (hq.2.2.sift fun y hy => Or.inr (N y hy)).mono (by decide) (by decide)⟩⟩
theorem main_1_1 : Claimed_1_1 := comes_1 fun _ _ _ _ _ _ h hF => ⟨h.1, hF⟩
theorem main_1_2 : Claimed_1_2 := comes_1 fun _ _ _ _ _ _ h hF => ⟨h.2.1, hF⟩
end Jvm.Pilot.@@N@@
namespace Jvm.Pilot.@@N@@
open Jvm Jvm.ClassFile Sem Op Lib Jvm.Free Jvm.Stand Jvm.Pilot.@@N@@.Jvm.D
/-! MADE BY PROGRAM (witnessworld.py) out of the Statement's table words and the real class files: 16 classes; the members and pool entries that the words name. The judged class is class 1, her method 1. -/
namespace start1
open Jvm.ClassFile
def u (s : String) : CpInfo := .utf8 (stringToUtf16 s)
/-- a pool by its gaps: so many unusable entries, then the entry; so many at the end -/
def gap : Nat → List CpInfo → List CpInfo
  | 0, r => r
  | n + 1, r => .unusable :: gap n r
def poolList (es : List (Nat × CpInfo)) (last : Nat) : List CpInfo := es.foldr (fun e r => gap e.1 (e.2 :: r)) (gap last [])
def pool (es : List (Nat × CpInfo)) (last : Nat) : Array CpInfo := ⟨poolList es last⟩
def fileOf (pool : Array CpInfo) (this : Nat) (attrs : Array Attribute := #[]) (ms : Array MethodInfo := #[]) (fl : Nat := 33) (sup : Nat := 0) (ifs : Array Nat := #[]) (fds : Array FieldInfo := #[]) : ClassFile where
  minorVersion := 0
  majorVersion := 65
  constantPool := pool
  accessFlags := fl
  thisClass := this
  superClass := sup
  interfaces := ifs
  fields := fds
  methods := ms
  attributes := attrs
def plain (name : String) (sup : Option ClassId) : Class where
  name := name
  kind := .ordinary
  loader := none
  accessFlags := 33
  super := sup
  interfaces := #[]
  cf := none
  fields := #[]
  methods := #[]
  instanceTypes := #[]
  staticTypes := #[]
  resolved := #[]
  callSites := []
  init := .initialized
  statics := none
  mirror := none

def pool0 : Array CpInfo := pool [(5, u "<init>"), (0, u "()V"), (1, .class_ 10), (1, u "java/lang/Object")] 113

def k0c0 : Code := { maxStack := 0, maxLocals := 1, code := object_method_1_code, exceptionTable := #[], attributes := #[] }
def k0m0 : Method := { name := "<init>", desc := "()V", sig := { parameters := [], returnType := none }, accessFlags := 1, code := some k0c0 }
/-- java/lang/Object -/
def k0 : Class := { plain "java/lang/Object" none with
  accessFlags := 33
  interfaces := #[]
  cf := some (fileOf pool0 8 #[] #[{ accessFlags := 1, nameIndex := 5, descriptorIndex := 6, attributes := #[] }] 33 0 #[] #[])
  fields := #[]
  methods := #[k0m0]
  instanceTypes := #[]
  staticTypes := #[]
  resolved := Array.replicate 124 none
  statics := none }

def pool1 : Array CpInfo := pool [(2, .class_ 4), (0, .nameAndType 5 6), (0, u "java/lang/Object"), (0, u "<init>"), (0, u "()V"), (0, .class_ 8), (0, u "com/example/vaxwire/vaxwire/registry/KeyIndex"), (0, .methodref 7 3), (0, .methodref 7 11), (0, .nameAndType 12 13), (0, u "keys"), (0, u "()J"), (0, .methodref 7 15), (0, .nameAndType 16 17), (0, u "add"), (0, u "(JI)V"), (0, .long 2), (1, .methodref 7 21), (0, .nameAndType 22 17), (0, u "remove"), (0, .class_ 24), (0, u "com/example/vaxwire/vaxwire/registry/KeyIndexKeysPinLaw"), (2, u "law"), (0, u "(JJJII)Z")] 3

def k1m0 : Method := { name := "<init>", desc := "()V", sig := { parameters := [], returnType := none }, accessFlags := 1, code := none }
def k1c1 : Code := { maxStack := 7, maxLocals := 25, code := code, exceptionTable := #[], attributes := #[] }
def k1m1 : Method := { name := "law", desc := "(JJJII)Z", sig := { parameters := [.long, .long, .long, .int, .int], returnType := some .boolean }, accessFlags := 9, code := some k1c1 }
/-- com/example/vaxwire/vaxwire/registry/KeyIndexKeysPinLaw -/
def k1 : Class := { plain "com/example/vaxwire/vaxwire/registry/KeyIndexKeysPinLaw" (some 0) with
  accessFlags := 49
  interfaces := #[]
  cf := some (fileOf pool1 23 #[] #[{ accessFlags := 1, nameIndex := 5, descriptorIndex := 6, attributes := #[] }, { accessFlags := 9, nameIndex := 27, descriptorIndex := 28, attributes := #[] }] 49 2 #[] #[])
  fields := #[]
  methods := #[k1m0, k1m1]
  instanceTypes := #[]
  staticTypes := #[]
  resolved := Array.replicate 32 none
  statics := none }

def pool2 : Array CpInfo := pool [(1, .methodref 2 3), (0, .class_ 4), (0, .nameAndType 5 6), (0, u "java/lang/Object"), (0, u "<init>"), (0, u "()V"), (0, .class_ 8), (0, u "com/example/vaxwire/vaxwire/registry/KeyIndex"), (0, .class_ 10), (0, u "com/example/vaxwire/vaxwire/registry/KeyIndex$Table"), (0, .fieldref 7 12), (0, .nameAndType 13 14), (0, u "tables"), (0, u "[Lcom/example/vaxwire/vaxwire/registry/KeyIndex$Table;"), (0, .methodref 9 3), (0, .methodref 7 17), (0, .nameAndType 18 19), (0, u "table"), (0, u "(J)Lcom/example/vaxwire/vaxwire/registry/KeyIndex$Table;"), (0, .methodref 9 21), (0, .nameAndType 22 23), (0, u "add"), (0, u "(JI)V"), (0, .methodref 9 25), (0, .nameAndType 26 23), (0, u "remove"), (8, .fieldref 9 36), (0, .nameAndType 37 38), (0, u "used"), (0, u "I"), (6, u "TABLE_BITS"), (8, u "keys"), (0, u "()J"), (6, .class_ 63), (0, u "com/example/vaxwire/vaxwire/registry/KeyIndex$KeyVisitor")] 3

def k2c0 : Code := { maxStack := 4, maxLocals := 2, code := prog_100_method_1_code, exceptionTable := #[], attributes := #[] }
def k2m0 : Method := { name := "<init>", desc := "()V", sig := { parameters := [], returnType := none }, accessFlags := 0, code := some k2c0 }
def k2c1 : Code := { maxStack := 4, maxLocals := 4, code := prog_100_method_2_code, exceptionTable := #[], attributes := #[] }
def k2m1 : Method := { name := "add", desc := "(JI)V", sig := { parameters := [.long, .int], returnType := none }, accessFlags := 0, code := some k2c1 }
def k2c2 : Code := { maxStack := 4, maxLocals := 4, code := prog_100_method_3_code, exceptionTable := #[], attributes := #[] }
def k2m2 : Method := { name := "remove", desc := "(JI)V", sig := { parameters := [.long, .int], returnType := none }, accessFlags := 0, code := some k2c2 }
def k2c3 : Code := { maxStack := 4, maxLocals := 7, code := prog_100_method_6_code, exceptionTable := #[], attributes := #[] }
def k2m3 : Method := { name := "keys", desc := "()J", sig := { parameters := [], returnType := some .long }, accessFlags := 0, code := some k2c3 }
def k2c4 : Code := { maxStack := 4, maxLocals := 3, code := prog_100_method_8_code, exceptionTable := #[], attributes := #[] }
def k2m4 : Method := { name := "table", desc := "(J)Lcom/example/vaxwire/vaxwire/registry/KeyIndex$Table;", sig := { parameters := [.long], returnType := some (.object "com/example/vaxwire/vaxwire/registry/KeyIndex$Table") }, accessFlags := 2, code := some k2c4 }
/-- com/example/vaxwire/vaxwire/registry/KeyIndex -/
def k2 : Class := { plain "com/example/vaxwire/vaxwire/registry/KeyIndex" (some 0) with
  accessFlags := 48
  interfaces := #[]
  cf := some (fileOf pool2 7 #[.nestMembers #[9, 62]] #[{ accessFlags := 0, nameIndex := 5, descriptorIndex := 6, attributes := #[] }, { accessFlags := 0, nameIndex := 22, descriptorIndex := 23, attributes := #[] }, { accessFlags := 0, nameIndex := 26, descriptorIndex := 23, attributes := #[] }, { accessFlags := 0, nameIndex := 54, descriptorIndex := 55, attributes := #[] }, { accessFlags := 2, nameIndex := 18, descriptorIndex := 19, attributes := #[] }] 48 2 #[] #[{ accessFlags := 26, nameIndex := 45, descriptorIndex := 38, attributes := #[] }, { accessFlags := 18, nameIndex := 13, descriptorIndex := 14, attributes := #[] }])
  fields := #[{ name := "TABLE_BITS", type := .int, accessFlags := 26, slot := 0, constantValue := 0 }, { name := "tables", type := (.array (.object "com/example/vaxwire/vaxwire/registry/KeyIndex$Table")), accessFlags := 18, slot := 0, constantValue := 0 }]
  methods := #[k2m0, k2m1, k2m2, k2m3, k2m4]
  instanceTypes := #[(.array (.object "com/example/vaxwire/vaxwire/registry/KeyIndex$Table"))]
  staticTypes := #[.int]
  resolved := (List.replicate 9 none ++ [some (Jvm.Resolved.cls 3)] ++ List.replicate 5 none ++ [some (Jvm.Resolved.method ⟨3, 0⟩)] ++ List.replicate 19 none ++ [some (Jvm.Resolved.field 3 3)] ++ List.replicate 31 none).toArray
  statics := none }

def pool3 : Array CpInfo := pool [(1, .methodref 2 3), (0, .class_ 4), (0, .nameAndType 5 6), (0, u "java/lang/Object"), (0, u "<init>"), (0, u "()V"), (0, .fieldref 8 9), (0, .class_ 10), (0, .nameAndType 11 12), (0, u "com/example/vaxwire/vaxwire/registry/KeyIndex$Table"), (0, u "keys"), (0, u "[J"), (0, .fieldref 8 14), (0, .nameAndType 15 16), (0, u "places"), (0, u "[I"), (0, .class_ 16), (0, .fieldref 8 19), (0, .nameAndType 20 21), (0, u "lists"), (0, u "[[I"), (0, .fieldref 8 23), (0, .nameAndType 24 16), (0, u "listSizes"), (0, .fieldref 8 26), (0, .nameAndType 27 16), (0, u "freeLists"), (0, .methodref 8 29), (0, .nameAndType 30 31), (0, u "find"), (0, u "(J)I"), (0, .fieldref 8 33), (0, .nameAndType 34 35), (0, u "used"), (0, u "I"), (3, .methodref 40 41), (0, .class_ 42), (0, .nameAndType 43 44), (0, u "java/lang/Math"), (0, u "min"), (0, u "(II)I"), (0, .methodref 40 46), (0, .nameAndType 47 44), (0, u "max"), (0, .methodref 8 49), (0, .nameAndType 50 44), (0, u "newList"), (0, .methodref 8 52), (0, .nameAndType 53 54), (0, u "addToList"), (0, u "(II)V"), (0, .methodref 8 56), (0, .nameAndType 57 58), (0, u "empty"), (0, u "(I)V"), (0, .methodref 60 61), (0, .class_ 62), (0, .nameAndType 63 64), (0, u "java/util/Arrays"), (0, u "binarySearch"), (0, u "([IIII)I"), (0, .methodref 66 67), (0, .class_ 68), (0, .nameAndType 69 70), (0, u "java/lang/System"), (0, u "arraycopy"), (0, u "(Ljava/lang/Object;ILjava/lang/Object;II)V"), (0, .fieldref 8 72), (0, .nameAndType 73 35), (0, u "freeCount"), (0, .methodref 8 75), (0, .nameAndType 76 77), (0, u "pushed"), (0, u "([III)[I"), (21, u "add"), (15, .fieldref 8 116), (0, .nameAndType 117 35), (0, u "listCount"), (8, u "EMPTY"), (4, u "(JI)V"), (1, u "remove"), (15, .class_ 150), (0, u "com/example/vaxwire/vaxwire/registry/KeyIndex")] 3

def k3c0 : Code := { maxStack := 2, maxLocals := 1, code := prog_102_method_1_code, exceptionTable := #[], attributes := #[] }
def k3m0 : Method := { name := "<init>", desc := "()V", sig := { parameters := [], returnType := none }, accessFlags := 2, code := some k3c0 }
def k3c1 : Code := { maxStack := 6, maxLocals := 6, code := prog_102_method_2_code, exceptionTable := #[], attributes := #[] }
def k3m1 : Method := { name := "add", desc := "(JI)V", sig := { parameters := [.long, .int], returnType := none }, accessFlags := 0, code := some k3c1 }
def k3c2 : Code := { maxStack := 6, maxLocals := 9, code := prog_102_method_3_code, exceptionTable := #[], attributes := #[] }
def k3m2 : Method := { name := "remove", desc := "(JI)V", sig := { parameters := [.long, .int], returnType := none }, accessFlags := 0, code := some k3c2 }
def k3c3 : Code := { maxStack := 4, maxLocals := 5, code := prog_102_method_6_code, exceptionTable := #[], attributes := #[] }
def k3m3 : Method := { name := "find", desc := "(J)I", sig := { parameters := [.long], returnType := some .int }, accessFlags := 2, code := some k3c3 }
def k3c4 : Code := { maxStack := 4, maxLocals := 7, code := prog_102_method_7_code, exceptionTable := #[], attributes := #[] }
def k3m4 : Method := { name := "empty", desc := "(I)V", sig := { parameters := [.int], returnType := none }, accessFlags := 2, code := some k3c4 }
def k3c5 : Code := { maxStack := 6, maxLocals := 4, code := prog_102_method_11_code, exceptionTable := #[], attributes := #[] }
def k3m5 : Method := { name := "newList", desc := "(II)I", sig := { parameters := [.int, .int], returnType := some .int }, accessFlags := 2, code := some k3c5 }
def k3c6 : Code := { maxStack := 6, maxLocals := 6, code := prog_102_method_12_code, exceptionTable := #[], attributes := #[] }
def k3m6 : Method := { name := "addToList", desc := "(II)V", sig := { parameters := [.int, .int], returnType := none }, accessFlags := 2, code := some k3c6 }
def k3c7 : Code := { maxStack := 3, maxLocals := 4, code := prog_102_method_13_code, exceptionTable := #[], attributes := #[] }
def k3m7 : Method := { name := "pushed", desc := "([III)[I", sig := { parameters := [(.array .int), .int, .int], returnType := some (.array .int) }, accessFlags := 10, code := some k3c7 }
/-- com/example/vaxwire/vaxwire/registry/KeyIndex$Table -/
def k3 : Class := { plain "com/example/vaxwire/vaxwire/registry/KeyIndex$Table" (some 0) with
  accessFlags := 48
  interfaces := #[]
  cf := some (fileOf pool3 8 #[.nestHost 149] #[{ accessFlags := 2, nameIndex := 5, descriptorIndex := 6, attributes := #[] }, { accessFlags := 0, nameIndex := 99, descriptorIndex := 131, attributes := #[] }, { accessFlags := 0, nameIndex := 133, descriptorIndex := 131, attributes := #[] }, { accessFlags := 2, nameIndex := 30, descriptorIndex := 31, attributes := #[] }, { accessFlags := 2, nameIndex := 57, descriptorIndex := 58, attributes := #[] }, { accessFlags := 2, nameIndex := 50, descriptorIndex := 44, attributes := #[] }, { accessFlags := 2, nameIndex := 53, descriptorIndex := 54, attributes := #[] }, { accessFlags := 10, nameIndex := 76, descriptorIndex := 77, attributes := #[] }] 48 2 #[] #[{ accessFlags := 26, nameIndex := 126, descriptorIndex := 35, attributes := #[] }, { accessFlags := 2, nameIndex := 11, descriptorIndex := 12, attributes := #[] }, { accessFlags := 2, nameIndex := 15, descriptorIndex := 16, attributes := #[] }, { accessFlags := 2, nameIndex := 34, descriptorIndex := 35, attributes := #[] }, { accessFlags := 2, nameIndex := 20, descriptorIndex := 21, attributes := #[] }, { accessFlags := 2, nameIndex := 24, descriptorIndex := 16, attributes := #[] }, { accessFlags := 2, nameIndex := 27, descriptorIndex := 16, attributes := #[] }, { accessFlags := 2, nameIndex := 73, descriptorIndex := 35, attributes := #[] }, { accessFlags := 2, nameIndex := 117, descriptorIndex := 35, attributes := #[] }])
  fields := #[{ name := "EMPTY", type := .int, accessFlags := 26, slot := 0, constantValue := 0 }, { name := "keys", type := (.array .long), accessFlags := 2, slot := 0, constantValue := 0 }, { name := "places", type := (.array .int), accessFlags := 2, slot := 1, constantValue := 0 }, { name := "used", type := .int, accessFlags := 2, slot := 2, constantValue := 0 }, { name := "lists", type := (.array (.array .int)), accessFlags := 2, slot := 3, constantValue := 0 }, { name := "listSizes", type := (.array .int), accessFlags := 2, slot := 4, constantValue := 0 }, { name := "freeLists", type := (.array .int), accessFlags := 2, slot := 5, constantValue := 0 }, { name := "freeCount", type := .int, accessFlags := 2, slot := 6, constantValue := 0 }, { name := "listCount", type := .int, accessFlags := 2, slot := 7, constantValue := 0 }]
  methods := #[k3m0, k3m1, k3m2, k3m3, k3m4, k3m5, k3m6, k3m7]
  instanceTypes := #[(.array .long), (.array .int), .int, (.array (.array .int)), (.array .int), (.array .int), .int, .int]
  staticTypes := #[.int]
  resolved := Array.replicate 154 none
  statics := none }

def pool4 : Array CpInfo := pool [(1, .class_ 2), (0, u "java/lang/Math"), (1, .class_ 6), (1, u "java/lang/Object"), (0, u "<init>"), (0, u "()V"), (89, .class_ 100), (1, u "java/lang/Math$RandomNumberGeneratorHolder"), (71, u "negativeZeroFloatBits"), (0, u "J"), (2, u "negativeZeroDoubleBits"), (21, u "max"), (2, u "min"), (43, u "$assertionsDisabled"), (0, u "Z"), (88, u "(II)I"), (2, u "twoToTheDoubleScaleDown"), (0, u "D"), (4, u "twoToTheDoubleScaleUp"), (9, u "E"), (3, u "PI"), (2, u "TAU"), (2, u "DEGREES_TO_RADIANS"), (0, u "RADIANS_TO_DEGREES")] 94

def k4m0 : Method := { name := "<init>", desc := "()V", sig := { parameters := [], returnType := none }, accessFlags := 2, code := none }
def k4c1 : Code := { maxStack := 2, maxLocals := 2, code := jdk_29_method_65_code, exceptionTable := #[], attributes := #[] }
def k4m1 : Method := { name := "max", desc := "(II)I", sig := { parameters := [.int, .int], returnType := some .int }, accessFlags := 9, code := some k4c1 }
def k4c2 : Code := { maxStack := 2, maxLocals := 2, code := jdk_29_method_69_code, exceptionTable := #[], attributes := #[] }
def k4m2 : Method := { name := "min", desc := "(II)I", sig := { parameters := [.int, .int], returnType := some .int }, accessFlags := 9, code := some k4c2 }
/-- java/lang/Math -/
def k4 : Class := { plain "java/lang/Math" (some 0) with
  accessFlags := 49
  interfaces := #[]
  cf := some (fileOf pool4 1 #[.nestMembers #[98]] #[{ accessFlags := 2, nameIndex := 7, descriptorIndex := 8, attributes := #[] }, { accessFlags := 9, nameIndex := 198, descriptorIndex := 335, attributes := #[] }, { accessFlags := 9, nameIndex := 201, descriptorIndex := 335, attributes := #[] }] 49 4 #[] #[{ accessFlags := 25, nameIndex := 354, descriptorIndex := 339, attributes := #[] }, { accessFlags := 25, nameIndex := 358, descriptorIndex := 339, attributes := #[] }, { accessFlags := 25, nameIndex := 361, descriptorIndex := 339, attributes := #[] }, { accessFlags := 26, nameIndex := 364, descriptorIndex := 339, attributes := #[] }, { accessFlags := 26, nameIndex := 365, descriptorIndex := 339, attributes := #[] }, { accessFlags := 26, nameIndex := 172, descriptorIndex := 173, attributes := #[] }, { accessFlags := 26, nameIndex := 176, descriptorIndex := 173, attributes := #[] }, { accessFlags := 8, nameIndex := 344, descriptorIndex := 339, attributes := #[] }, { accessFlags := 8, nameIndex := 338, descriptorIndex := 339, attributes := #[] }, { accessFlags := 4120, nameIndex := 245, descriptorIndex := 246, attributes := #[] }])
  fields := #[{ name := "E", type := .double, accessFlags := 25, slot := 0, constantValue := 0 }, { name := "PI", type := .double, accessFlags := 25, slot := 1, constantValue := 0 }, { name := "TAU", type := .double, accessFlags := 25, slot := 2, constantValue := 0 }, { name := "DEGREES_TO_RADIANS", type := .double, accessFlags := 26, slot := 3, constantValue := 0 }, { name := "RADIANS_TO_DEGREES", type := .double, accessFlags := 26, slot := 4, constantValue := 0 }, { name := "negativeZeroFloatBits", type := .long, accessFlags := 26, slot := 5, constantValue := 0 }, { name := "negativeZeroDoubleBits", type := .long, accessFlags := 26, slot := 6, constantValue := 0 }, { name := "twoToTheDoubleScaleUp", type := .double, accessFlags := 8, slot := 7, constantValue := 0 }, { name := "twoToTheDoubleScaleDown", type := .double, accessFlags := 8, slot := 8, constantValue := 0 }, { name := "$assertionsDisabled", type := .boolean, accessFlags := 4120, slot := 9, constantValue := 0 }]
  methods := #[k4m0, k4m1, k4m2]
  instanceTypes := #[]
  staticTypes := #[.double, .double, .double, .double, .double, .long, .long, .double, .double, .boolean]
  resolved := Array.replicate 460 none
  statics := none }

def pool5 : Array CpInfo := pool [(2, .class_ 4), (1, u "java/lang/Object"), (0, u "<init>"), (0, u "()V"), (6, .methodref 14 15), (0, .class_ 16), (0, .nameAndType 17 18), (0, u "java/util/Arrays"), (0, u "rangeCheck"), (0, u "(III)V"), (55, .class_ 76), (1, u "java/util/Arrays$NaturalOrder"), (36, .class_ 115), (1, u "java/util/Arrays$LegacyMergeSort"), (1, u "Z"), (89, u "binarySearch0"), (1, .methodref 14 210), (0, .nameAndType 207 211), (0, u "([IIII)I"), (163, .class_ 376), (0, u "java/util/Arrays$ArrayList"), (68, u "$assertionsDisabled"), (269, u "MIN_ARRAY_SORT_GRAN"), (0, u "I"), (2, u "INSERTIONSORT_THRESHOLD"), (74, u "binarySearch"), (180, .class_ 976), (0, u "java/util/Arrays$ArrayItr")] 52

def k5m0 : Method := { name := "<init>", desc := "()V", sig := { parameters := [], returnType := none }, accessFlags := 2, code := none }
def k5c1 : Code := { maxStack := 4, maxLocals := 3, code := jdk_65_method_30_code, exceptionTable := #[], attributes := #[] }
def k5m1 : Method := { name := "rangeCheck", desc := "(III)V", sig := { parameters := [.int, .int, .int], returnType := none }, accessFlags := 8, code := some k5c1 }
def k5c2 : Code := { maxStack := 4, maxLocals := 4, code := jdk_65_method_58_code, exceptionTable := #[], attributes := #[] }
def k5m2 : Method := { name := "binarySearch", desc := "([IIII)I", sig := { parameters := [(.array .int), .int, .int, .int], returnType := some .int }, accessFlags := 9, code := some k5c2 }
def k5c3 : Code := { maxStack := 2, maxLocals := 8, code := jdk_65_method_59_code, exceptionTable := #[], attributes := #[] }
def k5m3 : Method := { name := "binarySearch0", desc := "([IIII)I", sig := { parameters := [(.array .int), .int, .int, .int], returnType := some .int }, accessFlags := 10, code := some k5c3 }
/-- java/util/Arrays -/
def k5 : Class := { plain "java/util/Arrays" (some 0) with
  accessFlags := 49
  interfaces := #[]
  cf := some (fileOf pool5 14 #[.nestMembers #[975, 375, 113, 74]] #[{ accessFlags := 2, nameIndex := 5, descriptorIndex := 6, attributes := #[] }, { accessFlags := 8, nameIndex := 17, descriptorIndex := 18, attributes := #[] }, { accessFlags := 9, nameIndex := 794, descriptorIndex := 211, attributes := #[] }, { accessFlags := 10, nameIndex := 207, descriptorIndex := 211, attributes := #[] }] 49 2 #[] #[{ accessFlags := 26, nameIndex := 715, descriptorIndex := 716, attributes := #[] }, { accessFlags := 26, nameIndex := 719, descriptorIndex := 716, attributes := #[] }, { accessFlags := 4120, nameIndex := 445, descriptorIndex := 117, attributes := #[] }])
  fields := #[{ name := "MIN_ARRAY_SORT_GRAN", type := .int, accessFlags := 26, slot := 0, constantValue := 0 }, { name := "INSERTIONSORT_THRESHOLD", type := .int, accessFlags := 26, slot := 1, constantValue := 0 }, { name := "$assertionsDisabled", type := .boolean, accessFlags := 4120, slot := 2, constantValue := 0 }]
  methods := #[k5m0, k5m1, k5m2, k5m3]
  instanceTypes := #[]
  staticTypes := #[.int, .int, .boolean]
  resolved := Array.replicate 1029 none
  statics := none }

def pool6 : Array CpInfo := pool [(2, .class_ 4), (1, u "java/lang/Object"), (0, u "<init>"), (0, u "()V"), (1, .class_ 10), (1, u "java/lang/System"), (0, u "allowSecurityManager"), (0, u "I"), (16, u "cons"), (0, u "Ljava/io/Console;"), (77, .class_ 110), (1, u "java/lang/System$CallersHolder"), (43, u "initialErrStream"), (0, u "Ljava/io/PrintStream;"), (19, u "security"), (0, u "Ljava/lang/SecurityManager;"), (31, .class_ 209), (0, u "java/lang/System$1"), (7, u "props"), (0, u "Ljava/util/Properties;"), (2, u "lineSeparator"), (0, u "Ljava/lang/String;"), (96, .class_ 321), (1, u "java/lang/System$LoggerFinder"), (5, .class_ 328), (0, u "java/lang/System$Logger"), (67, u "err"), (2, u "out"), (91, u "notSupportedJnuEncoding"), (15, u "in"), (17, u "initialIn"), (0, u "Ljava/io/InputStream;"), (35, u "bootLayer"), (0, u "Ljava/lang/ModuleLayer;"), (99, .class_ 664), (0, u "java/lang/System$2"), (9, u "NEVER"), (2, u "MAYBE"), (49, u "arraycopy"), (0, u "(Ljava/lang/Object;ILjava/lang/Object;II)V"), (72, .class_ 802), (0, u "java/lang/System$Logger$Level")] 31

def k6m0 : Method := { name := "<init>", desc := "()V", sig := { parameters := [], returnType := none }, accessFlags := 2, code := none }
def k6m1 : Method := { name := "arraycopy", desc := "(Ljava/lang/Object;ILjava/lang/Object;II)V", sig := { parameters := [(.object "java/lang/Object"), .int, (.object "java/lang/Object"), .int, .int], returnType := none }, accessFlags := 265, code := none }
/-- java/lang/System -/
def k6 : Class := { plain "java/lang/System" (some 0) with
  accessFlags := 49
  interfaces := #[]
  cf := some (fileOf pool6 8 #[.nestMembers #[319, 327, 801, 108, 663, 208]] #[{ accessFlags := 2, nameIndex := 5, descriptorIndex := 6, attributes := #[] }, { accessFlags := 265, nameIndex := 727, descriptorIndex := 728, attributes := #[] }] 49 2 #[] #[{ accessFlags := 25, nameIndex := 507, descriptorIndex := 526, attributes := #[] }, { accessFlags := 25, nameIndex := 399, descriptorIndex := 155, attributes := #[] }, { accessFlags := 25, nameIndex := 396, descriptorIndex := 155, attributes := #[] }, { accessFlags := 10, nameIndex := 525, descriptorIndex := 526, attributes := #[] }, { accessFlags := 26, nameIndex := 674, descriptorIndex := 12, attributes := #[] }, { accessFlags := 26, nameIndex := 677, descriptorIndex := 12, attributes := #[] }, { accessFlags := 10, nameIndex := 11, descriptorIndex := 12, attributes := #[] }, { accessFlags := 74, nameIndex := 175, descriptorIndex := 176, attributes := #[] }, { accessFlags := 10, nameIndex := 491, descriptorIndex := 222, attributes := #[] }, { accessFlags := 74, nameIndex := 29, descriptorIndex := 30, attributes := #[] }, { accessFlags := 74, nameIndex := 154, descriptorIndex := 155, attributes := #[] }, { accessFlags := 10, nameIndex := 217, descriptorIndex := 218, attributes := #[] }, { accessFlags := 10, nameIndex := 221, descriptorIndex := 222, attributes := #[] }, { accessFlags := 8, nameIndex := 562, descriptorIndex := 563, attributes := #[] }])
  fields := #[{ name := "in", type := (.object "java/io/InputStream"), accessFlags := 25, slot := 0, constantValue := 0 }, { name := "out", type := (.object "java/io/PrintStream"), accessFlags := 25, slot := 1, constantValue := 0 }, { name := "err", type := (.object "java/io/PrintStream"), accessFlags := 25, slot := 2, constantValue := 0 }, { name := "initialIn", type := (.object "java/io/InputStream"), accessFlags := 10, slot := 3, constantValue := 0 }, { name := "NEVER", type := .int, accessFlags := 26, slot := 4, constantValue := 0 }, { name := "MAYBE", type := .int, accessFlags := 26, slot := 5, constantValue := 0 }, { name := "allowSecurityManager", type := .int, accessFlags := 10, slot := 6, constantValue := 0 }, { name := "security", type := (.object "java/lang/SecurityManager"), accessFlags := 74, slot := 7, constantValue := 0 }, { name := "notSupportedJnuEncoding", type := (.object "java/lang/String"), accessFlags := 10, slot := 8, constantValue := 0 }, { name := "cons", type := (.object "java/io/Console"), accessFlags := 74, slot := 9, constantValue := 0 }, { name := "initialErrStream", type := (.object "java/io/PrintStream"), accessFlags := 74, slot := 10, constantValue := 0 }, { name := "props", type := (.object "java/util/Properties"), accessFlags := 10, slot := 11, constantValue := 0 }, { name := "lineSeparator", type := (.object "java/lang/String"), accessFlags := 10, slot := 12, constantValue := 0 }, { name := "bootLayer", type := (.object "java/lang/ModuleLayer"), accessFlags := 8, slot := 13, constantValue := 0 }]
  methods := #[k6m0, k6m1]
  instanceTypes := #[]
  staticTypes := #[(.object "java/io/InputStream"), (.object "java/io/PrintStream"), (.object "java/io/PrintStream"), (.object "java/io/InputStream"), .int, .int, .int, (.object "java/lang/SecurityManager"), (.object "java/lang/String"), (.object "java/io/Console"), (.object "java/io/PrintStream"), (.object "java/util/Properties"), (.object "java/lang/String"), (.object "java/lang/ModuleLayer")]
  resolved := Array.replicate 834 none
  statics := none }

def pool7 : Array CpInfo := pool [(1, u "java/lang/Cloneable"), (0, .class_ 1), (0, u "java/lang/Object"), (0, .class_ 3)] 3

/-- java/lang/Cloneable -/
def k7 : Class := { plain "java/lang/Cloneable" (some 0) with
  accessFlags := 1537
  interfaces := #[]
  cf := some (fileOf pool7 2 #[] #[] 1537 4 #[] #[])
  fields := #[]
  methods := #[]
  instanceTypes := #[]
  staticTypes := #[]
  resolved := Array.replicate 8 none
  statics := none }

def pool8 : Array CpInfo := pool [(1, u "java/io/Serializable"), (0, .class_ 1), (0, u "java/lang/Object"), (0, .class_ 3)] 3

/-- java/io/Serializable -/
def k8 : Class := { plain "java/io/Serializable" (some 0) with
  accessFlags := 1537
  interfaces := #[]
  cf := some (fileOf pool8 2 #[] #[] 1537 4 #[] #[])
  fields := #[]
  methods := #[]
  instanceTypes := #[]
  staticTypes := #[]
  resolved := Array.replicate 8 none
  statics := none }

/-- the primitive byte -/
def k9 : Class := { plain "byte" none with kind := .primitive 'B', accessFlags := 0x411 }
/-- [B -/
def k10 : Class := { plain "[B" (some 0) with kind := .array 9 .byte, interfaces := #[7, 8], accessFlags := 1041 }

/-- the primitive int -/
def k11 : Class := { plain "int" none with kind := .primitive 'I', accessFlags := 0x411 }
/-- [I -/
def k12 : Class := { plain "[I" (some 0) with kind := .array 11 .int, interfaces := #[7, 8], accessFlags := 1041 }

/-- the primitive long -/
def k13 : Class := { plain "long" none with kind := .primitive 'J', accessFlags := 0x411 }
/-- [J -/
def k14 : Class := { plain "[J" (some 0) with kind := .array 13 .long, interfaces := #[7, 8], accessFlags := 1041 }

/-- [Lcom/example/vaxwire/vaxwire/registry/KeyIndex$Table; -/
def k15 : Class := { plain "[Lcom/example/vaxwire/vaxwire/registry/KeyIndex$Table;" (some 0) with kind := .array 3 (.object "com/example/vaxwire/vaxwire/registry/KeyIndex$Table"), interfaces := #[7, 8], accessFlags := 1041 }

def k16 : Class := { plain "[[I" (some 0) with kind := .array 12 (.array .int), interfaces := #[7, 8], accessFlags := 1041 }
def heap : Heap := #[]
def classes : Array Class := #[k0, k1, k2, k3, k4, k5, k6, k7, k8, k9, k10, k11, k12, k13, k14, k15, k16]
def interned : List (Array UInt16 × Addr) := []
def slotsUsed : Nat := 0
def theMethod : MethodId := ⟨1, 1⟩
def args0 : Array Value := #[.long 1, .long 2, .long 3, .int 27, .int 8]
def aboutOver (below : List Frame) : State where
  vm := { classes := classes, interned := interned.toArray }
  heap := heap
  slotsUsed := slotsUsed
  threads := #[{ frames := .invoking theMethod args0 :: below }]
def below0 : List Frame := [.native { method := ⟨0, 0⟩, args := #[] }]
def about1 : State := aboutOver below0
def p0 : Program := .bare "" "" ""
def e0 : Env := launch0.env 0 0 0
theorem w_frames : about1.frames = Frame.invoking theMethod args0 :: below0 := rfl
set_option maxRecDepth 65536 in
theorem w_args : argsFit about1.vm theMethod args0 = true := by decide +kernel
set_option maxRecDepth 65536 in
theorem w_heap : heapFits about1 = true := by decide +kernel
set_option maxRecDepth 65536 in
theorem w_runnable : about1.curStatus? = some .runnable := by decide +kernel
set_option maxRecDepth 65536 in
theorem w_alone : about1.alone = true := by decide +kernel
set_option maxRecDepth 65536 in
theorem w_named : about1.methodNamed? x = some theMethod := by decide +kernel
set_option maxRecDepth 65536 in
theorem w_hears : about1.hears theMethod below0 = true := by decide +kernel
set_option maxRecDepth 65536 in
theorem w_ripe : about1.ripe theMethod args0 below0 = true := by decide +kernel
theorem w_running : about1.status = .running := rfl
set_option maxRecDepth 65536 in
theorem w_room : about1.hasRoom e0.platform room_1 = true :=
  launch0.hasRoom_least _ room_1 (by decide +kernel) (by decide +kernel) (by decide +kernel) (by decide +kernel) (by decide +kernel) (by decide +kernel)
theorem allAtoms_all (ts : List Jvm.Cond) (a : Array Jvm.Value) (st : Jvm.State) : (allAtoms ts).before a st = ts.all (fun c => c.before a st) := by
  induction ts with
  | nil => rfl
  | cons c t ih =>
    show (Jvm.Cond.and c (allAtoms t)).before a st = _
    rw [Jvm.Cond.before_and, ih, List.all_cons]
def words1 : List Jvm.Cond := Jvm.Cond.code x code maxLocals ret :: tables_1
/-- a 'code' word, met by the world's own term for the bytes: nothing is compared byte by byte -/
theorem code_word {y : MethodName} {bytes : ByteArray} {mx : Nat} {rt : Option FieldType} {a : Array Value} {s : State} {m : MethodId} {meth : Method} {c : Code} (h1 : s.methodNamed? y = some m) (h2 : s.vm.method? m = some meth) (h3 : meth.code = some c) (h4 : c.code = bytes)
    (h5 : (c.maxLocals == mx && c.exceptionTable.isEmpty && decide (c.maxStack ≤ mostOperands) && decide (meth.sig.returnType = rt) && !meth.locks && decide (parseMethodDescriptor y.desc = some meth.sig)) = true) : (Jvm.Cond.code y bytes mx rt).before a s = true := by
  simp only [Bool.and_eq_true, beq_iff_eq, Bool.not_eq_true', decide_eq_true_eq] at h5
  obtain ⟨⟨⟨⟨⟨g1, g2⟩, g3⟩, g4⟩, g5⟩, g6⟩ := h5
  simp [Cond.before, Cond.holds, Cond.value, h1, h2, h3, h4, g1, g2, g3, g4, g5, g6]
def isCode : Jvm.Cond → Bool
  | .code _ _ _ _ => true
  | _ => false
theorem all_split {L : List Jvm.Cond} {P : Jvm.Cond → Bool} (h1 : L.all (fun c => isCode c || P c) = true) (h2 : ∀ c ∈ L.filter isCode, P c = true) : L.all P = true := by
  refine List.all_eq_true.mpr fun c hc => ?_
  have h := List.all_eq_true.mp h1 c hc
  rcases Bool.eq_false_or_eq_true (isCode c) with hi | hi
  · exact h2 c (List.mem_filter.mpr ⟨hc, hi⟩)
  · simpa [hi] using h
set_option maxRecDepth 65536 in
theorem w_c0 : (Jvm.Cond.code x code maxLocals ret).before args0 about1 = true := code_word (m := ⟨1, 1⟩) (meth := k1m1) (c := k1c1) (by decide +kernel) rfl rfl rfl (by decide +kernel)
set_option maxRecDepth 65536 in
theorem w_c1 : (Jvm.Cond.code ({ cls := "com/example/vaxwire/vaxwire/registry/KeyIndex", name := "<init>", desc := "()V" } : Jvm.MethodName) prog_100_method_1_code (2 : Nat) (Option.none : Option Jvm.ClassFile.FieldType)).before args0 about1 = true := code_word (m := ⟨2, 0⟩) (meth := k2m0) (c := k2c0) (by decide +kernel) rfl rfl rfl (by decide +kernel)
set_option maxRecDepth 65536 in
theorem w_c2 : (Jvm.Cond.code ({ cls := "java/lang/Object", name := "<init>", desc := "()V" } : Jvm.MethodName) object_method_1_code (1 : Nat) (Option.none : Option Jvm.ClassFile.FieldType)).before args0 about1 = true := code_word (m := ⟨0, 0⟩) (meth := k0m0) (c := k0c0) (by decide +kernel) rfl rfl rfl (by decide +kernel)
set_option maxRecDepth 65536 in
theorem w_c3 : (Jvm.Cond.code ({ cls := "com/example/vaxwire/vaxwire/registry/KeyIndex$Table", name := "<init>", desc := "()V" } : Jvm.MethodName) prog_102_method_1_code (1 : Nat) (Option.none : Option Jvm.ClassFile.FieldType)).before args0 about1 = true := code_word (m := ⟨3, 0⟩) (meth := k3m0) (c := k3c0) (by decide +kernel) rfl rfl rfl (by decide +kernel)
set_option maxRecDepth 65536 in
theorem w_c4 : (Jvm.Cond.code ({ cls := "com/example/vaxwire/vaxwire/registry/KeyIndex", name := "keys", desc := "()J" } : Jvm.MethodName) prog_100_method_6_code (7 : Nat) (Option.some Jvm.ClassFile.FieldType.long)).before args0 about1 = true := code_word (m := ⟨2, 3⟩) (meth := k2m3) (c := k2c3) (by decide +kernel) rfl rfl rfl (by decide +kernel)
set_option maxRecDepth 65536 in
theorem w_c5 : (Jvm.Cond.code ({ cls := "com/example/vaxwire/vaxwire/registry/KeyIndex", name := "add", desc := "(JI)V" } : Jvm.MethodName) prog_100_method_2_code (4 : Nat) (Option.none : Option Jvm.ClassFile.FieldType)).before args0 about1 = true := code_word (m := ⟨2, 1⟩) (meth := k2m1) (c := k2c1) (by decide +kernel) rfl rfl rfl (by decide +kernel)
set_option maxRecDepth 65536 in
theorem w_c6 : (Jvm.Cond.code ({ cls := "com/example/vaxwire/vaxwire/registry/KeyIndex", name := "table", desc := "(J)Lcom/example/vaxwire/vaxwire/registry/KeyIndex$Table;" } : Jvm.MethodName) prog_100_method_8_code (3 : Nat) (Option.some (Jvm.ClassFile.FieldType.object "com/example/vaxwire/vaxwire/registry/KeyIndex$Table"))).before args0 about1 = true := code_word (m := ⟨2, 4⟩) (meth := k2m4) (c := k2c4) (by decide +kernel) rfl rfl rfl (by decide +kernel)
set_option maxRecDepth 65536 in
theorem w_c7 : (Jvm.Cond.code ({ cls := "com/example/vaxwire/vaxwire/registry/KeyIndex$Table", name := "add", desc := "(JI)V" } : Jvm.MethodName) prog_102_method_2_code (6 : Nat) (Option.none : Option Jvm.ClassFile.FieldType)).before args0 about1 = true := code_word (m := ⟨3, 1⟩) (meth := k3m1) (c := k3c1) (by decide +kernel) rfl rfl rfl (by decide +kernel)
set_option maxRecDepth 65536 in
theorem w_c8 : (Jvm.Cond.code ({ cls := "com/example/vaxwire/vaxwire/registry/KeyIndex$Table", name := "find", desc := "(J)I" } : Jvm.MethodName) prog_102_method_6_code (5 : Nat) (Option.some Jvm.ClassFile.FieldType.int)).before args0 about1 = true := code_word (m := ⟨3, 3⟩) (meth := k3m3) (c := k3c3) (by decide +kernel) rfl rfl rfl (by decide +kernel)
set_option maxRecDepth 65536 in
theorem w_c9 : (Jvm.Cond.code ({ cls := "java/lang/Math", name := "min", desc := "(II)I" } : Jvm.MethodName) jdk_29_method_69_code (2 : Nat) (Option.some Jvm.ClassFile.FieldType.int)).before args0 about1 = true := code_word (m := ⟨4, 2⟩) (meth := k4m2) (c := k4c2) (by decide +kernel) rfl rfl rfl (by decide +kernel)
set_option maxRecDepth 65536 in
theorem w_c10 : (Jvm.Cond.code ({ cls := "java/lang/Math", name := "max", desc := "(II)I" } : Jvm.MethodName) jdk_29_method_65_code (2 : Nat) (Option.some Jvm.ClassFile.FieldType.int)).before args0 about1 = true := code_word (m := ⟨4, 1⟩) (meth := k4m1) (c := k4c1) (by decide +kernel) rfl rfl rfl (by decide +kernel)
set_option maxRecDepth 65536 in
theorem w_c11 : (Jvm.Cond.code ({ cls := "com/example/vaxwire/vaxwire/registry/KeyIndex$Table", name := "newList", desc := "(II)I" } : Jvm.MethodName) prog_102_method_11_code (4 : Nat) (Option.some Jvm.ClassFile.FieldType.int)).before args0 about1 = true := code_word (m := ⟨3, 5⟩) (meth := k3m5) (c := k3c5) (by decide +kernel) rfl rfl rfl (by decide +kernel)
set_option maxRecDepth 65536 in
theorem w_c12 : (Jvm.Cond.code ({ cls := "com/example/vaxwire/vaxwire/registry/KeyIndex$Table", name := "addToList", desc := "(II)V" } : Jvm.MethodName) prog_102_method_12_code (6 : Nat) (Option.none : Option Jvm.ClassFile.FieldType)).before args0 about1 = true := code_word (m := ⟨3, 6⟩) (meth := k3m6) (c := k3c6) (by decide +kernel) rfl rfl rfl (by decide +kernel)
set_option maxRecDepth 65536 in
theorem w_c13 : (Jvm.Cond.code ({ cls := "java/util/Arrays", name := "binarySearch", desc := "([IIII)I" } : Jvm.MethodName) jdk_65_method_58_code (4 : Nat) (Option.some Jvm.ClassFile.FieldType.int)).before args0 about1 = true := code_word (m := ⟨5, 2⟩) (meth := k5m2) (c := k5c2) (by decide +kernel) rfl rfl rfl (by decide +kernel)
set_option maxRecDepth 65536 in
theorem w_c14 : (Jvm.Cond.code ({ cls := "java/util/Arrays", name := "rangeCheck", desc := "(III)V" } : Jvm.MethodName) jdk_65_method_30_code (3 : Nat) (Option.none : Option Jvm.ClassFile.FieldType)).before args0 about1 = true := code_word (m := ⟨5, 1⟩) (meth := k5m1) (c := k5c1) (by decide +kernel) rfl rfl rfl (by decide +kernel)
set_option maxRecDepth 65536 in
theorem w_c15 : (Jvm.Cond.code ({ cls := "java/util/Arrays", name := "binarySearch0", desc := "([IIII)I" } : Jvm.MethodName) jdk_65_method_59_code (8 : Nat) (Option.some Jvm.ClassFile.FieldType.int)).before args0 about1 = true := code_word (m := ⟨5, 3⟩) (meth := k5m3) (c := k5c3) (by decide +kernel) rfl rfl rfl (by decide +kernel)
set_option maxRecDepth 65536 in
theorem w_c16 : (Jvm.Cond.code ({ cls := "com/example/vaxwire/vaxwire/registry/KeyIndex", name := "remove", desc := "(JI)V" } : Jvm.MethodName) prog_100_method_3_code (4 : Nat) (Option.none : Option Jvm.ClassFile.FieldType)).before args0 about1 = true := code_word (m := ⟨2, 2⟩) (meth := k2m2) (c := k2c2) (by decide +kernel) rfl rfl rfl (by decide +kernel)
set_option maxRecDepth 65536 in
theorem w_c17 : (Jvm.Cond.code ({ cls := "com/example/vaxwire/vaxwire/registry/KeyIndex$Table", name := "remove", desc := "(JI)V" } : Jvm.MethodName) prog_102_method_3_code (9 : Nat) (Option.none : Option Jvm.ClassFile.FieldType)).before args0 about1 = true := code_word (m := ⟨3, 2⟩) (meth := k3m2) (c := k3c2) (by decide +kernel) rfl rfl rfl (by decide +kernel)
set_option maxRecDepth 65536 in
theorem w_c18 : (Jvm.Cond.code ({ cls := "com/example/vaxwire/vaxwire/registry/KeyIndex$Table", name := "pushed", desc := "([III)[I" } : Jvm.MethodName) prog_102_method_13_code (4 : Nat) (Option.some (Jvm.ClassFile.FieldType.array Jvm.ClassFile.FieldType.int))).before args0 about1 = true := code_word (m := ⟨3, 7⟩) (meth := k3m7) (c := k3c7) (by decide +kernel) rfl rfl rfl (by decide +kernel)
set_option maxRecDepth 65536 in
theorem w_c19 : (Jvm.Cond.code ({ cls := "com/example/vaxwire/vaxwire/registry/KeyIndex$Table", name := "empty", desc := "(I)V" } : Jvm.MethodName) prog_102_method_7_code (7 : Nat) (Option.none : Option Jvm.ClassFile.FieldType)).before args0 about1 = true := code_word (m := ⟨3, 4⟩) (meth := k3m4) (c := k3c4) (by decide +kernel) rfl rfl rfl (by decide +kernel)
def codes1 : List Jvm.Cond := [Jvm.Cond.code x code maxLocals ret, Jvm.Cond.code ({ cls := "com/example/vaxwire/vaxwire/registry/KeyIndex", name := "<init>", desc := "()V" } : Jvm.MethodName) prog_100_method_1_code (2 : Nat) (Option.none : Option Jvm.ClassFile.FieldType), Jvm.Cond.code ({ cls := "java/lang/Object", name := "<init>", desc := "()V" } : Jvm.MethodName) object_method_1_code (1 : Nat) (Option.none : Option Jvm.ClassFile.FieldType), Jvm.Cond.code ({ cls := "com/example/vaxwire/vaxwire/registry/KeyIndex$Table", name := "<init>", desc := "()V" } : Jvm.MethodName) prog_102_method_1_code (1 : Nat) (Option.none : Option Jvm.ClassFile.FieldType), Jvm.Cond.code ({ cls := "com/example/vaxwire/vaxwire/registry/KeyIndex", name := "keys", desc := "()J" } : Jvm.MethodName) prog_100_method_6_code (7 : Nat) (Option.some Jvm.ClassFile.FieldType.long), Jvm.Cond.code ({ cls := "com/example/vaxwire/vaxwire/registry/KeyIndex", name := "add", desc := "(JI)V" } : Jvm.MethodName) prog_100_method_2_code (4 : Nat) (Option.none : Option Jvm.ClassFile.FieldType), Jvm.Cond.code ({ cls := "com/example/vaxwire/vaxwire/registry/KeyIndex", name := "table", desc := "(J)Lcom/example/vaxwire/vaxwire/registry/KeyIndex$Table;" } : Jvm.MethodName) prog_100_method_8_code (3 : Nat) (Option.some (Jvm.ClassFile.FieldType.object "com/example/vaxwire/vaxwire/registry/KeyIndex$Table")), Jvm.Cond.code ({ cls := "com/example/vaxwire/vaxwire/registry/KeyIndex$Table", name := "add", desc := "(JI)V" } : Jvm.MethodName) prog_102_method_2_code (6 : Nat) (Option.none : Option Jvm.ClassFile.FieldType), Jvm.Cond.code ({ cls := "com/example/vaxwire/vaxwire/registry/KeyIndex$Table", name := "find", desc := "(J)I" } : Jvm.MethodName) prog_102_method_6_code (5 : Nat) (Option.some Jvm.ClassFile.FieldType.int), Jvm.Cond.code ({ cls := "java/lang/Math", name := "min", desc := "(II)I" } : Jvm.MethodName) jdk_29_method_69_code (2 : Nat) (Option.some Jvm.ClassFile.FieldType.int), Jvm.Cond.code ({ cls := "java/lang/Math", name := "max", desc := "(II)I" } : Jvm.MethodName) jdk_29_method_65_code (2 : Nat) (Option.some Jvm.ClassFile.FieldType.int), Jvm.Cond.code ({ cls := "com/example/vaxwire/vaxwire/registry/KeyIndex$Table", name := "newList", desc := "(II)I" } : Jvm.MethodName) prog_102_method_11_code (4 : Nat) (Option.some Jvm.ClassFile.FieldType.int), Jvm.Cond.code ({ cls := "com/example/vaxwire/vaxwire/registry/KeyIndex$Table", name := "addToList", desc := "(II)V" } : Jvm.MethodName) prog_102_method_12_code (6 : Nat) (Option.none : Option Jvm.ClassFile.FieldType), Jvm.Cond.code ({ cls := "java/util/Arrays", name := "binarySearch", desc := "([IIII)I" } : Jvm.MethodName) jdk_65_method_58_code (4 : Nat) (Option.some Jvm.ClassFile.FieldType.int), Jvm.Cond.code ({ cls := "java/util/Arrays", name := "rangeCheck", desc := "(III)V" } : Jvm.MethodName) jdk_65_method_30_code (3 : Nat) (Option.none : Option Jvm.ClassFile.FieldType), Jvm.Cond.code ({ cls := "java/util/Arrays", name := "binarySearch0", desc := "([IIII)I" } : Jvm.MethodName) jdk_65_method_59_code (8 : Nat) (Option.some Jvm.ClassFile.FieldType.int), Jvm.Cond.code ({ cls := "com/example/vaxwire/vaxwire/registry/KeyIndex", name := "remove", desc := "(JI)V" } : Jvm.MethodName) prog_100_method_3_code (4 : Nat) (Option.none : Option Jvm.ClassFile.FieldType), Jvm.Cond.code ({ cls := "com/example/vaxwire/vaxwire/registry/KeyIndex$Table", name := "remove", desc := "(JI)V" } : Jvm.MethodName) prog_102_method_3_code (9 : Nat) (Option.none : Option Jvm.ClassFile.FieldType), Jvm.Cond.code ({ cls := "com/example/vaxwire/vaxwire/registry/KeyIndex$Table", name := "pushed", desc := "([III)[I" } : Jvm.MethodName) prog_102_method_13_code (4 : Nat) (Option.some (Jvm.ClassFile.FieldType.array Jvm.ClassFile.FieldType.int)), Jvm.Cond.code ({ cls := "com/example/vaxwire/vaxwire/registry/KeyIndex$Table", name := "empty", desc := "(I)V" } : Jvm.MethodName) prog_102_method_7_code (7 : Nat) (Option.none : Option Jvm.ClassFile.FieldType)]
set_option maxRecDepth 65536 in
theorem codes_eq : words1.filter isCode = codes1 := rfl
theorem w_codes : ∀ c ∈ words1.filter isCode, c.before args0 about1 = true := by
  rw [codes_eq]
  intro c hc
  simp only [codes1, List.mem_cons, List.not_mem_nil, or_false] at hc
  rcases hc with rfl | rfl | rfl | rfl | rfl | rfl | rfl | rfl | rfl | rfl | rfl | rfl | rfl | rfl | rfl | rfl | rfl | rfl | rfl | rfl
  · exact w_c0
  · exact w_c1
  · exact w_c2
  · exact w_c3
  · exact w_c4
  · exact w_c5
  · exact w_c6
  · exact w_c7
  · exact w_c8
  · exact w_c9
  · exact w_c10
  · exact w_c11
  · exact w_c12
  · exact w_c13
  · exact w_c14
  · exact w_c15
  · exact w_c16
  · exact w_c17
  · exact w_c18
  · exact w_c19
set_option maxRecDepth 65536 in
theorem w_t1 : (words1.take 24).all (fun c => isCode c || c.before args0 about1) = true := by decide +kernel
set_option maxRecDepth 65536 in
theorem w_t2 : ((words1.drop 24).take 24).all (fun c => isCode c || c.before args0 about1) = true := by decide +kernel
set_option maxRecDepth 65536 in
theorem w_t3 : (((words1.drop 24).drop 24).take 24).all (fun c => isCode c || c.before args0 about1) = true := by decide +kernel
set_option maxRecDepth 65536 in
theorem w_t4 : ((((words1.drop 24).drop 24).drop 24).take 24).all (fun c => isCode c || c.before args0 about1) = true := by decide +kernel
set_option maxRecDepth 65536 in
theorem w_t5 : ((((words1.drop 24).drop 24).drop 24).drop 24).all (fun c => isCode c || c.before args0 about1) = true := by decide +kernel
theorem w_tables : (allAtoms (Jvm.Cond.code x code maxLocals ret :: tables_1)).before args0 about1 = true := by
  rw [allAtoms_all]
  show words1.all (fun c => c.before args0 about1) = true
  refine all_split ?_ w_codes
  rw [← List.take_append_drop 24 words1, List.all_append, w_t1, ← List.take_append_drop 24 (words1.drop 24), List.all_append, w_t2, ← List.take_append_drop 24 ((words1.drop 24).drop 24), List.all_append, w_t3, ← List.take_append_drop 24 (((words1.drop 24).drop 24).drop 24), List.all_append, w_t4, w_t5]
  rfl
set_option maxRecDepth 65536 in
theorem w_case : (Jvm.Cond.and given_1 narrow_1).before args0 about1 = true := by decide +kernel
theorem w_applies : (headSpec (Jvm.Cond.code x code maxLocals ret :: tables_1) room_1).applies x e0.platform about1 = true :=
  (Spec.applies_iff w_frames).mpr ⟨w_running, w_runnable, w_alone, w_named, w_hears, w_ripe, w_room, w_tables⟩
theorem atStart : AtStart classFile x code maxLocals ret World_1 tables_1 room_1 Calls_1 rest_1 Pre_1 launch0 p0 e0 about1 theMethod args0 below0 :=
  ⟨lists_1, trivial, launch0.admits_env _ _ _, launch0.least_env, fairChoices_fair.cas, fairChoices_fair.clock, w_frames, w_args, w_heap, w_applies, trivial, trivial, w_case⟩
end start1
theorem witness_1 : WitnessClaimed_1 := ⟨start1.p0, start1.e0, start1.about1, start1.theMethod, start1.args0, start1.below0, start1.atStart⟩
end Jvm.Pilot.@@N@@
