import JvmDerived
import JvmDerived.Pilot.@@N@@Statement
import JvmDerived.Pilot.@@N@@Code
set_option linter.unusedVariables false
set_option linter.unusedSimpArgs false

namespace Jvm.Pilot.@@N@@
open Jvm Jvm.ClassFile Sem Op Lib Jvm.Free Jvm.Stand Jvm.LawKit Jvm.RoadKit Bundle Jvm.Pilot.@@N@@.Jvm.D

section OwnKit
variable {p : Program} {l : Launch} {e : Env} {R : Room} {s : State} {m : MethodId} {args : Array Value} {below : List Frame} {meth : Method} {c : Code} {T : State} {locs : List Loc} {cells slots : Nat} {h : Heap} {Q : Option Value → Heap → List Loc → Prop} {C S : Nat}
/-- from the state t the run comes to its end, and what it leaves answers Q -/
def own_Gl (p : Program) (e : Env) (below : List Frame) (s : State) (Q : Option Value → Heap → List Loc → Prop) (C S : Nat) (t : State) : Prop :=
  ∃ s₂ o, Steps p.tables e below t s₂ ∧ s₂.status = .running ∧ Ended s₂ below o ∧ ∃ v L, o = .returned v ∧ Q v s₂.heap L ∧ FrameEnd s o s₂ L C S
theorem own_st {t t' : State} (k : ∀ target, Steps p.tables e below t' target → Steps p.tables e below t target) (d : own_Gl p e below s Q C S t') : own_Gl p e below s Q C S t := by
  obtain ⟨s₂, o, h1, h2⟩ := d
  exact ⟨s₂, o, k _ h1, h2⟩
theorem own_tr {t t' : State} (k : Steps p.tables e below t t') (d : own_Gl p e below s Q C S t') : own_Gl p e below s Q C S t := own_st (fun _ h => k.trans h) d
theorem own_cast {g g' : JFrame} (q : g = g') (d : own_Gl p e below s Q C S (T.setTop g')) : own_Gl p e below s Q C S (T.setTop g) := q ▸ d
theorem own_ret (X : Stand p l e R s m args below meth c T locs cells slots) (hlk : meth.locks = false) {v : Option Value} {t : State} (hv : meth.sig.returnType = none → v = none) (eT : T.heap = h) (hq : Q v h locs) (hc : cells ≤ C) (hs : slots ≤ S)
    (k : ∀ fs, (∀ (f : JFrame) (acts : List Action), f.method = m → f.locked = none → f.entered = [] → (doReturn e (T.setTop f) acts v).1 = T.setFrames fs) → Steps p.tables e below t (T.setFrames fs)) : own_Gl p e below s Q C S t := by
  obtain ⟨fs, hr, hrun, hended, hW, hsame⟩ := X.leave hv hlk
  exact ⟨_, _, k fs hr, hrun, hended, v, locs, rfl, by show Q v T.heap locs; rw [eT]; exact hq, ⟨_, rfl⟩, hW, hsame.mono hc hs⟩
theorem own_retI (X : Stand p l e R s m args below meth c T locs cells slots) (hx : p.tables.exec = Jvm.exec) (hlk : meth.locks = false) {pc : Nat} {Ls : Array Slot} {z : Int32} {rest : List Value} (hret : meth.sig.returnType = some .int) (hd : decode c.code pc = .ok (.ireturn, 1)) (eT : T.heap = h) (hq : Q (some (.int z)) h locs) (hc : cells ≤ C) (hs : slots ≤ S) :
    own_Gl p e below s Q C S (T.setTop (mkF m pc Ls (.int z :: rest))) :=
  own_ret X hlk (fun q => by rw [hret] at q; cases q) eT hq hc hs (fun _ hr => retOut X hx hret rfl (Or.inl ⟨rfl, Or.inl rfl, _, rfl⟩) hd hr)
theorem own_retN (X : Stand p l e R s m args below meth c T locs cells slots) (hx : p.tables.exec = Jvm.exec) (hlk : meth.locks = false) {pc : Nat} {Ls : Array Slot} {z : Int32} {t : FieldType} {rest : List Value} (hret : meth.sig.returnType = some t) (ht : t = .boolean ∨ t = .byte ∨ t = .char ∨ t = .short) (hd : decode c.code pc = .ok (.ireturn, 1)) (eT : T.heap = h) (hq : Q (some (.int (nar t z))) h locs) (hc : cells ≤ C) (hs : slots ≤ S) :
    own_Gl p e below s Q C S (T.setTop (mkF m pc Ls (.int z :: rest))) :=
  own_ret X hlk (fun q => by rw [hret] at q; cases q) eT hq hc hs (fun _ hr => retN X hx hret ht hd hr)
theorem own_retJ (X : Stand p l e R s m args below meth c T locs cells slots) (hx : p.tables.exec = Jvm.exec) (hlk : meth.locks = false) {pc : Nat} {Ls : Array Slot} {z : Int64} {rest : List Value} (hret : meth.sig.returnType = some .long) (hd : decode c.code pc = .ok (.lreturn, 1)) (eT : T.heap = h) (hq : Q (some (.long z)) h locs) (hc : cells ≤ C) (hs : slots ≤ S) :
    own_Gl p e below s Q C S (T.setTop (mkF m pc Ls (.long z :: rest))) :=
  own_ret X hlk (fun q => by rw [hret] at q; cases q) eT hq hc hs (fun _ hr => retOut X hx hret rfl (Or.inr (Or.inl ⟨rfl, rfl, _, rfl⟩)) hd hr)
theorem own_retA (X : Stand p l e R s m args below meth c T locs cells slots) (hx : p.tables.exec = Jvm.exec) (hlk : meth.locks = false) {pc : Nat} {Ls : Array Slot} {w : Value} {t : FieldType} {rest : List Value} (hret : meth.sig.returnType = some t) (ht : t.isReference = true) (hw : w.isRef = true) (hn : narrow t w = w) (hd : decode c.code pc = .ok (.areturn, 1)) (eT : T.heap = h) (hq : Q (some w) h locs) (hc : cells ≤ C) (hs : slots ≤ S) :
    own_Gl p e below s Q C S (T.setTop (mkF m pc Ls (w :: rest))) :=
  own_ret X hlk (fun q => by rw [hret] at q; cases q) eT hq hc hs (fun _ hr => retOut X hx hret hn (Or.inr (Or.inr (Or.inr (Or.inr ⟨rfl, ht, hw⟩)))) hd hr)
theorem own_retV (X : Stand p l e R s m args below meth c T locs cells slots) (hx : p.tables.exec = Jvm.exec) (hlk : meth.locks = false) {pc : Nat} {Ls : Array Slot} (hret : meth.sig.returnType = none) (hd : decode c.code pc = .ok (.return_, 1)) (eT : T.heap = h) (hq : Q none h locs) (hc : cells ≤ C) (hs : slots ≤ S) :
    own_Gl p e below s Q C S (T.setTop (mkF m pc Ls [])) :=
  own_ret X hlk (fun _ => rfl) eT hq hc hs (fun _ hr => X.returnOut hx hret hd hr)
end OwnKit

set_option maxRecDepth 65536
set_option maxHeartbeats 40000000
abbrev oT (a0 : Array Value) (Z : State) : Prop := ∀ d ∈ tables_1, d.before a0 Z = true
theorem oW {Z : State} {a0 : Array Value} (hw : oT a0 Z) (i : Nat) {d : Jvm.Cond} (h : tables_1[i]? = some d) : d.before a0 Z = true := hw _ (List.mem_of_getElem? h)
abbrev oMet (l : Launch) (y : MethodName) (bytes : ByteArray) (maxL : Nat) (ret : Option FieldType) (ws : List Jvm.Cond) (rm : Room) (A : Array Value) (Z : State) (h0 : Heap) (Q : Option Value → Heap → List Loc → Prop) : Prop :=
  MetFree l y (head1 (Jvm.Cond.code y bytes maxL ret :: ws) rm) (fun xa xU => xa = A ∧ Z.Warmed39 xU.vm ∧ xU.heap = h0) (fun _ _ _ _ _ => True) (fun _ xU xo xV => ∃ v L, xo = .returned v ∧ Q v xV.heap L ∧ FrameEnd xU xo xV L rm.cells rm.slots)
theorem oB {l : Launch} {y : MethodName} {bytes : ByteArray} {maxL : Nat} {ret : Option FieldType} {ws : List Jvm.Cond} {rm : Room} {A : Array Value} {Z : State} {h0 : Heap} {Q : Option Value → Heap → List Loc → Prop} {f : MethodId → JFrame} (n0 : Nat) (own : String) (ho : y.cls = own) (hp : plainFor y = true) (ef : ∀ m, entryFrame m A maxL = f m)
    (k : ∀ (p : Program) (e : Env) (s : State) (m : MethodId) (below : List Frame) (meth : Method) (c : Code) (s₁ : State), Z.Warmed39 s.vm → p.tables.exec = Jvm.exec → c.code = bytes → meth.locks = false → meth.sig.returnType = ret → c.maxLocals = maxL → s.vm.findClass own = some m.cls → meth.name = y.name → Stand p l e rm s m A below meth c s₁ [] 0 0 → s₁.heap = h0 → Fr n0 [] → own_Gl p e below s Q rm.cells rm.slots (s₁.setTop (f m))) : oMet l y bytes maxL ret ws rm A Z h0 Q := by
  refine MetFree.of_bodySF hp hisR ?_
  intro p e s m args below meth c s₁ Bd hml hP hK
  obtain ⟨rfl, hZ, hh⟩ := hP
  have d := k p e s m below meth c s₁ hZ Bd.exec Bd.bytes Bd.notSynchronized Bd.returns hml (ho ▸ findClass_of_methodNamed Bd.named) (name_of_methodNamed Bd.named Bd.method).1 (Stand.of_body Bd) (by rw [← hh, Bd.state]; rfl) (Fr.nil _)
  rw [← ef] at d
  exact d
abbrev oM0 : MethodName := ⟨"com/example/brolga/brolga/xml/XmlCharactersIsWhiteSpacePinLaw", "draw", "(I)C"⟩
abbrev oM1 : MethodName := ⟨"com/example/brolga/brolga/xml/XmlCharactersIsWhiteSpacePinLaw", "ws", "(C)Z"⟩
abbrev oM2 : MethodName := ⟨"com/example/brolga/brolga/xml/XmlCharacters", "isWhiteSpace", "(C)Z"⟩
abbrev oM3 : MethodName := ⟨"java/lang/String", "coder", "()B"⟩
abbrev oM4 : MethodName := ⟨"java/lang/String", "isLatin1", "()Z"⟩
abbrev oM5 : MethodName := ⟨"java/lang/String", "length", "()I"⟩
abbrev oM6 : MethodName := ⟨"jdk/internal/util/Preconditions", "checkIndex", "(IILjava/util/function/BiFunction;)I"⟩
abbrev oM7 : MethodName := ⟨"java/lang/String", "checkIndex", "(II)V"⟩
abbrev oM8 : MethodName := ⟨"java/lang/StringUTF16", "newBytesLength", "(I)I"⟩
abbrev oM9 : MethodName := ⟨"java/lang/StringUTF16", "newBytesFor", "(I)[B"⟩
abbrev oM10 : MethodName := ⟨"java/lang/StringUTF16", "putChar", "([BII)V"⟩
abbrev oM11 : MethodName := ⟨"java/lang/StringUTF16", "toBytes", "([CII)[B"⟩
abbrev oM12 : MethodName := ⟨"java/lang/StringUTF16", "getChar", "([BI)C"⟩
abbrev oM13 : MethodName := ⟨"java/lang/StringUTF16", "compress", "([CI[BII)I"⟩
abbrev oM14 : MethodName := ⟨"java/lang/StringUTF16", "compress", "([CII)[B"⟩
abbrev oM15 : MethodName := ⟨"java/lang/StringUTF16", "coderFromArrayLen", "([BI)B"⟩
abbrev oM16 : MethodName := ⟨"java/lang/String", "<init>", "([CIILjava/lang/Void;)V"⟩
abbrev oM17 : MethodName := ⟨"java/lang/String", "<init>", "([C)V"⟩
abbrev oM18 : MethodName := ⟨"java/lang/StringUTF16", "length", "([B)I"⟩
abbrev oM19 : MethodName := ⟨"java/lang/StringLatin1", "charAt", "([BI)C"⟩
abbrev oM20 : MethodName := ⟨"java/lang/StringUTF16", "checkIndex", "(I[B)V"⟩
abbrev oM21 : MethodName := ⟨"java/lang/StringUTF16", "charAt", "([BI)C"⟩
abbrev oM22 : MethodName := ⟨"java/lang/String", "charAt", "(I)C"⟩
abbrev oM23 : MethodName := ⟨"com/example/brolga/brolga/xml/XmlCharacters", "isWhiteSpace", "(Ljava/lang/CharSequence;)Z"⟩
abbrev oM24 : MethodName := ⟨"java/lang/CharSequence", "length", "()I"⟩
abbrev oM25 : MethodName := ⟨"java/lang/CharSequence", "charAt", "(I)C"⟩

section OwnWide
variable {p : Program} {l : Launch} {e : Env} {R : Room} {s : State} {m : MethodId} {args : Array Value} {below : List Frame} {meth : Method} {c : Code} {T Z : State} {a0 : Array Value} {locs : List Loc} {cells slots : Nat} {h : Heap} {Q : Option Value → Heap → List Loc → Prop} {C S : Nat}
/-- as own_Gl; the run may have interned -/
def own_GlW (p : Program) (e : Env) (below : List Frame) (s : State) (Q : Option Value → Heap → List Loc → Prop) (C S : Nat) (t : State) : Prop :=
  ∃ s₂ o, Steps p.tables e below t s₂ ∧ s₂.status = .running ∧ Ended s₂ below o ∧ ∃ v L, o = .returned v ∧ Q v s₂.heap L ∧ ReturnedEndW s o s₂ L C S
theorem own_stW {t t' : State} (k : ∀ target, Steps p.tables e below t' target → Steps p.tables e below t target) (d : own_GlW p e below s Q C S t') : own_GlW p e below s Q C S t := by
  obtain ⟨s₂, o, h1, h2⟩ := d
  exact ⟨s₂, o, k _ h1, h2⟩
theorem own_trW {t t' : State} (k : Steps p.tables e below t t') (d : own_GlW p e below s Q C S t') : own_GlW p e below s Q C S t := own_stW (fun _ h => k.trans h) d
theorem own_castW {g g' : JFrame} (q : g = g') (d : own_GlW p e below s Q C S (T.setTop g')) : own_GlW p e below s Q C S (T.setTop g) := q ▸ d
theorem own_retW {vm₁ : Vm} (X : Stand p l e R (s.setVm vm₁) m args below meth c T locs cells slots) {n : Nat} (hS : s.Since vm₁ n) (hk : n ≤ h.size) (hlk : meth.locks = false) {v : Option Value} {t : State} (hv : meth.sig.returnType = none → v = none) (eT : T.heap = h) (hq : Q v h locs) (hc : cells ≤ C) (hs : slots ≤ S)
    (k : ∀ fs, (∀ (f : JFrame) (acts : List Action), f.method = m → f.locked = none → f.entered = [] → (doReturn e (T.setTop f) acts v).1 = T.setFrames fs) → Steps p.tables e below t (T.setFrames fs)) : own_GlW p e below s Q C S t := by
  obtain ⟨fs, hr, hrun, hended, hE⟩ := X.leaveW hS (by rw [eT]; exact hk) hv hlk
  exact ⟨_, _, k fs hr, hrun, hended, v, locs, rfl, by show Q v T.heap locs; rw [eT]; exact hq, hE.1, hE.2.1, hE.2.2.1, hE.2.2.2.mono hc hs⟩
theorem own_retNW {vm₁ : Vm} (X : Stand p l e R (s.setVm vm₁) m args below meth c T locs cells slots) {n : Nat} (hS : s.Since vm₁ n) (hk : n ≤ h.size) (hx : p.tables.exec = Jvm.exec) (hlk : meth.locks = false) {pc : Nat} {Ls : Array Slot} {z : Int32} {t : FieldType} {rest : List Value} (hret : meth.sig.returnType = some t) (ht : t = .boolean ∨ t = .byte ∨ t = .char ∨ t = .short) (hd : decode c.code pc = .ok (.ireturn, 1)) (eT : T.heap = h) (hq : Q (some (.int (nar t z))) h locs) (hc : cells ≤ C) (hs : slots ≤ S) :
    own_GlW p e below s Q C S (T.setTop (mkF m pc Ls (.int z :: rest))) :=
  own_retW X hS hk hlk (fun q => by rw [hret] at q; cases q) eT hq hc hs (fun _ hr => retN X hx hret ht hd hr)
theorem own_retVW {vm₁ : Vm} (X : Stand p l e R (s.setVm vm₁) m args below meth c T locs cells slots) {n : Nat} (hS : s.Since vm₁ n) (hk : n ≤ h.size) (hx : p.tables.exec = Jvm.exec) (hlk : meth.locks = false) {pc : Nat} {Ls : Array Slot} (hret : meth.sig.returnType = none) (hd : decode c.code pc = .ok (.return_, 1)) (eT : T.heap = h) (hq : Q none h locs) (hc : cells ≤ C) (hs : slots ≤ S) :
    own_GlW p e below s Q C S (T.setTop (mkF m pc Ls [])) :=
  own_retW X hS hk hlk (fun _ => rfl) eT hq hc hs (fun _ hr => X.returnOut hx hret hd hr)
/-- a callee that may intern, called where nothing has been interned since the start -/
theorem own_backOfS {y : MethodName} {bytes : ByteArray} {maxL : Nat} {ret : Option FieldType} {rm : Room} {len W : Nat} {as' : Array Value}
    (hM : MetFree l y (head1 [Cond.code y bytes maxL ret] rm) (fun a U => a = as' ∧ (Z.Warmed39 U.vm ∧ U.vm.interned = Z.vm.interned) ∧ U.heap = h) (fun _ _ _ _ _ => True) (fun _ U o U' => ∃ v L, o = .returned v ∧ Q v U'.heap L ∧ ReturnedEndW U o U' L rm.cells rm.slots))
    (hZ : Z.Warmed39 s.vm) (hI : s.vm.interned = Z.vm.interned) (wc : (Cond.code y bytes maxL ret).before a0 Z = true) (wz : (Cond.initialized y.cls).before a0 Z = true) (hf : rm.frames + 1 ≤ R.frames) (hl : W + (maxL + 11) + rm.locals ≤ R.locals) :
    BackS l R p e below s args y len W (fun A a => a = as' ∧ A.U.heap = h ∧ A.cells + rm.cells ≤ R.cells ∧ A.slots + rm.slots ≤ R.slots)
      (fun A _ v B => ∃ L, Q v B.U.heap L ∧ B.locs = A.locs ++ L ∧ B.cells = A.cells + rm.cells ∧ B.slots = A.slots + rm.slots) := by
  refine BackS.of_freeW (bytes := bytes) (maxL := maxL) (ret := ret) (E := fun _ _ o t L k n => (k, n) = (rm.cells, rm.slots) ∧ ∀ v, o = .returned v → Q v t.heap L) hM hf hl ?_ ?_ ?_ ?_ ?_
  · rintro m meth c A a Y ⟨-, -, r1, r2⟩
    have hU : Z.Warmed39 A.U.vm := wtrans hZ Y.warmed
    have q1 : (Cond.code y bytes maxL ret).before a A.U = true := mv hU wc
    refine ⟨?_, q1, mv hU wz, r1, r2⟩
    show (Cond.and (Cond.code y bytes maxL ret) .tt).before a A.U = true
    exact (Cond.before_and _ _).trans (Bool.and_eq_true_iff.mpr ⟨q1, rfl⟩)
  · rintro m meth c A a g mk Y ⟨q1, q2, -⟩
    exact ⟨q1, ⟨wtrans hZ Y.warmed, Y.warmed.interned_eq.trans hI⟩, q2⟩
  · intros
    trivial
  · rintro a U o U' ⟨v, L, rfl, q, r⟩
    exact ⟨L, rm.cells, rm.slots, r, rfl, fun w z => by cases z; exact q⟩
  · rintro m meth c A a g mk v t L k n Y - - - ⟨z, q⟩
    cases z
    exact ⟨L, q v rfl, rfl, rfl, rfl⟩
theorem own_IB (hI : s.vm.interned = Z.vm.interned) : IB Z s.vm [] := ⟨#[], by simp [hI], fun q hq => by simp at hq⟩
end OwnWide

theorem own_wS {Z : State} {a0 : Array Value} (hw : oT a0 Z) : ∀ a ∈ Bundle.stringAtoms, a.before a0 Z = true := by
  intro d hd
  simp only [Bundle.stringAtoms, Bundle.sN, List.mem_cons, List.not_mem_nil, or_false] at hd
  rcases hd with rfl | rfl | rfl | rfl | rfl | rfl | rfl
  · exact (oW hw 7 rfl)
  · exact (oW hw 6 rfl)
  · exact (oW hw 19 rfl)
  · exact (oW hw 20 rfl)
  · exact (oW hw 21 rfl)
  · exact (oW hw 22 rfl)
  · exact (oW hw 23 rfl)

theorem own_nc (v : Int32) (h : ¬ v < (0 : Int32) ∧ ¬ (65535 : Int32) < v) : nar .char v = v := by
  have e0 : (0 : Int32).toInt = 0 := by decide
  have e1 : (65535 : Int32).toInt = 65535 := by decide
  rw [Int32.lt_iff_toInt_lt, Int32.lt_iff_toInt_lt] at h
  have c := c_i2c v
  show v.toUInt32.toUInt16.toUInt32.toInt32 = v
  apply Int32.toInt_inj.mp
  omega
theorem own_nch (x : Int32) : ¬ nar .char x < (0 : Int32) ∧ ¬ (65535 : Int32) < nar .char x := by
  have e0 : (0 : Int32).toInt = 0 := by decide
  have e1 : (65535 : Int32).toInt = 65535 := by decide
  have c := c_i2c x
  show ¬ x.toUInt32.toUInt16.toUInt32.toInt32 < (0 : Int32) ∧ ¬ (65535 : Int32) < x.toUInt32.toUInt16.toUInt32.toInt32
  rw [Int32.lt_iff_toInt_lt, Int32.lt_iff_toInt_lt]
  omega
theorem own_gch (v : Int32) (h0 : ¬ v < (0 : Int32)) (h1 : ¬ (65535 : Int32) < v) :
    (((((nar .byte ((v >>> ((0 : Int32) &&& 31)).toInt8.toInt32)) &&& (255 : Int32)) <<< ((0 : Int32) &&& 31)) ||| (((nar .byte ((v >>> ((8 : Int32) &&& 31)).toInt8.toInt32)) &&& (255 : Int32)) <<< ((8 : Int32) &&& 31))).toUInt32.toUInt16.toUInt32.toInt32) = v := by
  have hb (y : Int32) : nar .byte (y.toInt8.toInt32) = y.toInt8.toInt32 := by simp [nar]
  have e0 : (0 : Int32).toInt = 0 := by decide
  have e1 : (65535 : Int32).toInt = 65535 := by decide
  rw [Int32.lt_iff_toInt_lt] at h0 h1
  rw [hb, hb]
  have s0 := c_ishr v (0 : Int32) 0 (by decide)
  have s8 := c_ishr v (8 : Int32) 8 (by decide)
  have b0 := c_i2b (v >>> ((0 : Int32) &&& 31))
  have b8 := c_i2b (v >>> ((8 : Int32) &&& 31))
  generalize hx : (v >>> ((0 : Int32) &&& 31)).toInt8.toInt32 = x at *
  generalize hy : (v >>> ((8 : Int32) &&& 31)).toInt8.toInt32 = y at *
  have m0 := c_mask x (255 : Int32) 8 (by decide) (by decide)
  have m8 := c_mask y (255 : Int32) 8 (by decide) (by decide)
  have l0 := c_ishl (x &&& (255 : Int32)) (0 : Int32) 0 (by decide)
  have l8 := c_ishl (y &&& (255 : Int32)) (8 : Int32) 8 (by decide)
  have r1 := rng32 ((x &&& (255 : Int32)) <<< ((0 : Int32) &&& 31))
  have r2 := rng32 ((y &&& (255 : Int32)) <<< ((8 : Int32) &&& 31))
  generalize (x &&& (255 : Int32)) <<< ((0 : Int32) &&& 31) = A at *
  generalize (y &&& (255 : Int32)) <<< ((8 : Int32) &&& 31) = B at *
  have o := c_or' A B 8 (by decide) 256 (by decide) (by omega) (by omega) (by omega)
  have r3 := rng32 (A ||| B)
  have c := c_i2c (A ||| B)
  apply Int32.toInt_inj.mp
  omega


theorem own_sta_int {args : Array Value} {s : State} {t : Term} {v : Int32} (h : (Jvm.Cond.eq t (.int v)).before args s = true) : t.eval args s none [] s = some (.int v) := by
  have h' := Cond.before_iff.mp h
  obtain ⟨x, y, e1, e2, k1, k2⟩ := cmp_v (Or.inl h')
  obtain rfl : y = .int v := Option.some.inj (e2.symm.trans (Term.int_eval v))
  obtain ⟨z, rfl⟩ := k2
  have q := gotT (Cond.eq_ints e1 e2) h'
  subst q
  exact e1
theorem own_lch (v : Int32) (h : ¬ v < (0 : Int32) ∧ ¬ (255 : Int32) < v) : nar .char ((((nar .byte (v.toInt8.toInt32)) &&& (255 : Int32)).toUInt32.toUInt16.toUInt32.toInt32)) = v := by
  have hb (y : Int32) : nar .byte (y.toInt8.toInt32) = y.toInt8.toInt32 := by simp [nar]
  have e0 : (0 : Int32).toInt = 0 := by decide
  have e1 : (255 : Int32).toInt = 255 := by decide
  rw [Int32.lt_iff_toInt_lt, Int32.lt_iff_toInt_lt] at h
  rw [hb]
  have b := c_i2b v
  generalize v.toInt8.toInt32 = y at *
  have m := c_mask y (255 : Int32) 8 (by decide) (by decide)
  generalize y &&& (255 : Int32) = A at *
  have c := c_i2c A
  show (A.toUInt32.toUInt16.toUInt32.toInt32).toUInt32.toUInt16.toUInt32.toInt32 = v
  have c2 := c_i2c (A.toUInt32.toUInt16.toUInt32.toInt32)
  apply Int32.toInt_inj.mp
  omega
theorem own_wide {v : Int32} (h : ¬ v < (0 : Int32) ∧ ¬ (255 : Int32) < v) : ¬ v < (0 : Int32) ∧ ¬ (65535 : Int32) < v := by
  have e1 : (255 : Int32).toInt = 255 := by decide
  have e2 : (65535 : Int32).toInt = 65535 := by decide
  refine ⟨h.1, fun q => h.2 ?_⟩
  rw [Int32.lt_iff_toInt_lt] at q ⊢
  omega
theorem own_and3 (i : Int32) : i &&& (3 : Int32) = 0 ∨ i &&& (3 : Int32) = 1 ∨ i &&& (3 : Int32) = 2 ∨ i &&& (3 : Int32) = 3 := by
  have m := c_mask i (3 : Int32) 2 (by decide) (by decide)
  have e0 : (0 : Int32).toInt = 0 := by decide
  have e1 : (1 : Int32).toInt = 1 := by decide
  have e2 : (2 : Int32).toInt = 2 := by decide
  have e3 : (3 : Int32).toInt = 3 := by decide
  simp only [← Int32.toInt_inj]
  omega
theorem own_isref {args : Array Value} {s : State} {t : Term} (h : (Jvm.Cond.isRef t).before args s = true) : ∃ v : Value, t.eval args s none [] s = some v ∧ v.isRef = true := by
  have h' : (Jvm.Cond.isRef t).value args s none s [] = some true := Cond.before_iff.mp h
  cases q : t.eval args s none [] s with
  | none => simp [Cond.value, q] at h'
  | some v => exact ⟨v, rfl, by cases v <;> first | rfl | simp [Cond.value, q] at h'⟩
def own_ws (c : Int32) : Int32 := if c = 32 then 1 else if c = 9 then 1 else if c = 10 then 1 else if c = 13 then 1 else 0

theorem own_d1_0 : decode method_3_code 0 = .ok (.iload_n 0, 1) := by decide +kernel
theorem own_d1_1 : decode method_3_code 1 = .ok (.bipush 16, 2) := by decide +kernel
theorem own_d1_3 : decode method_3_code 3 = .ok (.iushr, 1) := by decide +kernel
theorem own_d1_4 : decode method_3_code 4 = .ok (.iconst 3, 1) := by decide +kernel
theorem own_d1_5 : decode method_3_code 5 = .ok (.iand, 1) := by decide +kernel
theorem own_d1_6 : decode method_3_code 6 = .ok (.ifCond .ne 33, 3) := by decide +kernel
theorem own_d1_9 : decode method_3_code 9 = .ok (.iload_n 0, 1) := by decide +kernel
theorem own_d1_10 : decode method_3_code 10 = .ok (.iconst 3, 1) := by decide +kernel
theorem own_d1_11 : decode method_3_code 11 = .ok (.iand, 1) := by decide +kernel
theorem own_d1_12 : decode method_3_code 12 = .ok (.istore_n 1, 1) := by decide +kernel
theorem own_d1_13 : decode method_3_code 13 = .ok (.iload_n 1, 1) := by decide +kernel
theorem own_d1_14 : decode method_3_code 14 = .ok (.ifCond .ne 6, 3) := by decide +kernel
theorem own_d1_17 : decode method_3_code 17 = .ok (.bipush 32, 2) := by decide +kernel
theorem own_d1_19 : decode method_3_code 19 = .ok (.ireturn, 1) := by decide +kernel
theorem own_d1_20 : decode method_3_code 20 = .ok (.iload_n 1, 1) := by decide +kernel
theorem own_d1_21 : decode method_3_code 21 = .ok (.iconst 1, 1) := by decide +kernel
theorem own_d1_22 : decode method_3_code 22 = .ok (.if_icmp .ne 6, 3) := by decide +kernel
theorem own_d1_25 : decode method_3_code 25 = .ok (.bipush 9, 2) := by decide +kernel
theorem own_d1_27 : decode method_3_code 27 = .ok (.ireturn, 1) := by decide +kernel
theorem own_d1_28 : decode method_3_code 28 = .ok (.iload_n 1, 1) := by decide +kernel
theorem own_d1_29 : decode method_3_code 29 = .ok (.iconst 2, 1) := by decide +kernel
theorem own_d1_30 : decode method_3_code 30 = .ok (.if_icmp .ne 6, 3) := by decide +kernel
theorem own_d1_33 : decode method_3_code 33 = .ok (.bipush 10, 2) := by decide +kernel
theorem own_d1_35 : decode method_3_code 35 = .ok (.ireturn, 1) := by decide +kernel
theorem own_d1_36 : decode method_3_code 36 = .ok (.bipush 13, 2) := by decide +kernel
theorem own_d1_38 : decode method_3_code 38 = .ok (.ireturn, 1) := by decide +kernel
theorem own_d1_39 : decode method_3_code 39 = .ok (.iload_n 0, 1) := by decide +kernel
theorem own_d1_40 : decode method_3_code 40 = .ok (.i2c, 1) := by decide +kernel
theorem own_d1_41 : decode method_3_code 41 = .ok (.ireturn, 1) := by decide +kernel
theorem own_ef_own_draw (m : MethodId) (x0 : Int32) : entryFrame m #[(.int x0)] 2 = mkF m 0 #[.val (.int x0), .unset] [] := by first | (simp [entryFrame, mkF, argsToLocals, Value.category]; done) | rfl
def own_Q_own_draw (Z : State) (u : Int32) (h0 : Heap) (n0 : Nat) (v : Option Value) (h : Heap) (L : List Loc) : Prop := ∃ (cw : Int32), (v = some (.int cw)) ∧ (Fr n0 L) ∧ (h = h0) ∧ (¬ cw < (0 : Int32) ∧ ¬ (65535 : Int32) < cw)
theorem own_pn590389167 : plainName "com/example/brolga/brolga/xml/XmlCharactersIsWhiteSpacePinLaw" = true := by first | (simp [plainName, overriddenIn]; done) | decide +kernel

theorem own_draw (l : Launch) (Z : State) (a0 : Array Value) (hw : oT a0 Z) (ws : List Jvm.Cond) (u : Int32) (h0 : Heap) (n0 : Nat) (Z0 : n0 ≤ h0.size) :
    oMet l oM0 method_3_code 2 (some .char) ws ⟨0, 0, 0, 0⟩ #[(.int u)] Z h0 (own_Q_own_draw Z u h0 n0) := by
  refine oB n0 "com/example/brolga/brolga/xml/XmlCharactersIsWhiteSpacePinLaw" rfl (plainFor_of_name own_pn590389167) (fun m => own_ef_own_draw m u) ?_
  intro p e s m below meth c s₁ hZ hx hby hlk hret hml hown hnm X0 e0 N0
  show own_Gl _ _ _ _ _ _ _ (s₁.setTop (mkF m 0 #[.val (.int u), .unset] []))
  refine own_st (fun _ k => XS.iloadN X0.here hx rfl (hb hby own_d1_0) rfl k) ?_
  refine own_st (fun _ k => XS.bipush X0.here hx rfl (hb hby own_d1_1) k) ?_
  refine own_st (fun _ k => XS.iushr X0.here hx rfl (hb hby own_d1_3) rfl k) ?_
  refine own_st (fun _ k => XS.iconst X0.here hx rfl (hb hby own_d1_4) k) ?_
  show own_Gl _ _ _ _ _ _ _ (s₁.setTop (mkF m 5 #[.val (.int u), .unset] [(.int 3), (.int ((u.toUInt32 >>> ((16 : Int32) &&& 31).toUInt32).toInt32))]))
  refine own_st (fun _ k => XS.iand X0.here hx rfl (hb hby own_d1_5) rfl k) ?_
  by_cases hc6 : (((u.toUInt32 >>> ((16 : Int32) &&& 31).toUInt32).toInt32) &&& (3 : Int32)) = (0 : Int32)
  · refine own_st (fun _ k => XS.ifNo X0.here hx rfl (hb hby own_d1_6) rfl ((if0 _ _).trans (teq hc6).2) k) ?_
    refine own_st (fun _ k => XS.iloadN X0.here hx rfl (hb hby own_d1_9) rfl k) ?_
    refine own_st (fun _ k => XS.iconst X0.here hx rfl (hb hby own_d1_10) k) ?_
    show own_Gl _ _ _ _ _ _ _ (s₁.setTop (mkF m 11 #[.val (.int u), .unset] [(.int 3), (.int u)]))
    refine own_st (fun _ k => XS.iand X0.here hx rfl (hb hby own_d1_11) rfl k) ?_
    refine own_st (fun _ k => XS.istoreN X0.here hx rfl (hb hby own_d1_12) rfl (l' := #[.val (.int u), .val (.int (u &&& (3 : Int32)))]) rfl k) ?_
    refine own_st (fun _ k => XS.iloadN X0.here hx rfl (hb hby own_d1_13) rfl k) ?_
    by_cases hc14 : (u &&& (3 : Int32)) = (0 : Int32)
    · refine own_st (fun _ k => XS.ifNo X0.here hx rfl (hb hby own_d1_14) rfl ((if0 _ _).trans (teq hc14).2) k) ?_
      show own_Gl _ _ _ _ _ _ _ (s₁.setTop (mkF m 17 #[.val (.int u), .val (.int (u &&& (3 : Int32)))] []))
      refine own_st (fun _ k => XS.bipush X0.here hx rfl (hb hby own_d1_17) k) ?_
      show own_Gl _ _ _ _ _ _ _ (s₁.setTop (mkF m 19 #[.val (.int u), .val (.int (u &&& (3 : Int32)))] [(.int 32)]))
      exact own_retN X0 hx hlk (t := .char) hret (by simp) (hb hby own_d1_19) e0 ⟨_, rfl, N0, rfl, own_nch _⟩ (by decide) (by decide)
    · refine own_st (fun _ k => XS.ifYes X0.here hx rfl (pc0 := 14) (pc' := 20) rfl (hb hby own_d1_14) rfl ((if0 _ _).trans (feq hc14).2) (by decide) (by decide) k) ?_
      show own_Gl _ _ _ _ _ _ _ (s₁.setTop (mkF m 20 #[.val (.int u), .val (.int (u &&& (3 : Int32)))] []))
      refine own_st (fun _ k => XS.iloadN X0.here hx rfl (hb hby own_d1_20) rfl k) ?_
      refine own_st (fun _ k => XS.iconst X0.here hx rfl (hb hby own_d1_21) k) ?_
      by_cases hc22 : (u &&& (3 : Int32)) = (1 : Int32)
      · refine own_st (fun _ k => XS.icmpNo X0.here hx rfl (hb hby own_d1_22) rfl (teq hc22).2 k) ?_
        refine own_st (fun _ k => XS.bipush X0.here hx rfl (hb hby own_d1_25) k) ?_
        show own_Gl _ _ _ _ _ _ _ (s₁.setTop (mkF m 27 #[.val (.int u), .val (.int (u &&& (3 : Int32)))] [(.int 9)]))
        exact own_retN X0 hx hlk (t := .char) hret (by simp) (hb hby own_d1_27) e0 ⟨_, rfl, N0, rfl, own_nch _⟩ (by decide) (by decide)
      · refine own_st (fun _ k => XS.icmpYes X0.here hx rfl (pc0 := 22) (pc' := 28) rfl (hb hby own_d1_22) rfl (feq hc22).2 (by decide) (by decide) k) ?_
        refine own_st (fun _ k => XS.iloadN X0.here hx rfl (hb hby own_d1_28) rfl k) ?_
        show own_Gl _ _ _ _ _ _ _ (s₁.setTop (mkF m 29 #[.val (.int u), .val (.int (u &&& (3 : Int32)))] [(.int (u &&& (3 : Int32)))]))
        refine own_st (fun _ k => XS.iconst X0.here hx rfl (hb hby own_d1_29) k) ?_
        by_cases hc30 : (u &&& (3 : Int32)) = (2 : Int32)
        · refine own_st (fun _ k => XS.icmpNo X0.here hx rfl (hb hby own_d1_30) rfl (teq hc30).2 k) ?_
          refine own_st (fun _ k => XS.bipush X0.here hx rfl (hb hby own_d1_33) k) ?_
          show own_Gl _ _ _ _ _ _ _ (s₁.setTop (mkF m 35 #[.val (.int u), .val (.int (u &&& (3 : Int32)))] [(.int 10)]))
          exact own_retN X0 hx hlk (t := .char) hret (by simp) (hb hby own_d1_35) e0 ⟨_, rfl, N0, rfl, own_nch _⟩ (by decide) (by decide)
        · refine own_st (fun _ k => XS.icmpYes X0.here hx rfl (pc0 := 30) (pc' := 36) rfl (hb hby own_d1_30) rfl (feq hc30).2 (by decide) (by decide) k) ?_
          refine own_st (fun _ k => XS.bipush X0.here hx rfl (hb hby own_d1_36) k) ?_
          show own_Gl _ _ _ _ _ _ _ (s₁.setTop (mkF m 38 #[.val (.int u), .val (.int (u &&& (3 : Int32)))] [(.int 13)]))
          exact own_retN X0 hx hlk (t := .char) hret (by simp) (hb hby own_d1_38) e0 ⟨_, rfl, N0, rfl, own_nch _⟩ (by decide) (by decide)
  · refine own_st (fun _ k => XS.ifYes X0.here hx rfl (pc0 := 6) (pc' := 39) rfl (hb hby own_d1_6) rfl ((if0 _ _).trans (feq hc6).2) (by decide) (by decide) k) ?_
    refine own_st (fun _ k => XS.iloadN X0.here hx rfl (hb hby own_d1_39) rfl k) ?_
    refine own_st (fun _ k => XS.i2c X0.here hx rfl (hb hby own_d1_40) rfl k) ?_
    show own_Gl _ _ _ _ _ _ _ (s₁.setTop (mkF m 41 #[.val (.int u), .unset] [(.int (u.toUInt32.toUInt16.toUInt32.toInt32))]))
    exact own_retN X0 hx hlk (t := .char) hret (by simp) (hb hby own_d1_41) e0 ⟨_, rfl, N0, rfl, own_nch _⟩ (by decide) (by decide)
theorem own_d11_0 : decode method_4_code 0 = .ok (.iload_n 0, 1) := by decide +kernel
theorem own_d11_1 : decode method_4_code 1 = .ok (.bipush 32, 2) := by decide +kernel
theorem own_d11_3 : decode method_4_code 3 = .ok (.if_icmp .eq 21, 3) := by decide +kernel
theorem own_d11_24 : decode method_4_code 24 = .ok (.iconst 1, 1) := by decide +kernel
theorem own_d11_25 : decode method_4_code 25 = .ok (.goto 4, 3) := by decide +kernel
theorem own_d11_29 : decode method_4_code 29 = .ok (.ireturn, 1) := by decide +kernel
theorem own_d11_6 : decode method_4_code 6 = .ok (.iload_n 0, 1) := by decide +kernel
theorem own_d11_7 : decode method_4_code 7 = .ok (.bipush 9, 2) := by decide +kernel
theorem own_d11_9 : decode method_4_code 9 = .ok (.if_icmp .eq 15, 3) := by decide +kernel
theorem own_d11_12 : decode method_4_code 12 = .ok (.iload_n 0, 1) := by decide +kernel
theorem own_d11_13 : decode method_4_code 13 = .ok (.bipush 10, 2) := by decide +kernel
theorem own_d11_15 : decode method_4_code 15 = .ok (.if_icmp .eq 9, 3) := by decide +kernel
theorem own_d11_18 : decode method_4_code 18 = .ok (.iload_n 0, 1) := by decide +kernel
theorem own_d11_19 : decode method_4_code 19 = .ok (.bipush 13, 2) := by decide +kernel
theorem own_d11_21 : decode method_4_code 21 = .ok (.if_icmp .ne 7, 3) := by decide +kernel
theorem own_d11_28 : decode method_4_code 28 = .ok (.iconst 0, 1) := by decide +kernel
theorem own_ef_own_w1 (m : MethodId) (x0 : Int32) : entryFrame m #[(.int x0)] 1 = mkF m 0 #[.val (.int x0)] [] := by first | (simp [entryFrame, mkF, argsToLocals, Value.category]; done) | rfl
def own_Q_own_w1 (Z : State) (ch : Int32) (h0 : Heap) (n0 : Nat) (v : Option Value) (h : Heap) (L : List Loc) : Prop := (v = some (.int (own_ws ch))) ∧ (Fr n0 L) ∧ (h = h0)

theorem own_w1 (l : Launch) (Z : State) (a0 : Array Value) (hw : oT a0 Z) (ws : List Jvm.Cond) (ch : Int32) (h0 : Heap) (n0 : Nat) (Z0 : n0 ≤ h0.size) :
    oMet l oM1 method_4_code 1 (some .boolean) ws ⟨0, 0, 0, 0⟩ #[(.int ch)] Z h0 (own_Q_own_w1 Z ch h0 n0) := by
  refine oB n0 "com/example/brolga/brolga/xml/XmlCharactersIsWhiteSpacePinLaw" rfl (plainFor_of_name own_pn590389167) (fun m => own_ef_own_w1 m ch) ?_
  intro p e s m below meth c s₁ hZ hx hby hlk hret hml hown hnm X0 e0 N0
  show own_Gl _ _ _ _ _ _ _ (s₁.setTop (mkF m 0 #[.val (.int ch)] []))
  refine own_st (fun _ k => XS.iloadN X0.here hx rfl (hb hby own_d11_0) rfl k) ?_
  refine own_st (fun _ k => XS.bipush X0.here hx rfl (hb hby own_d11_1) k) ?_
  by_cases hc3 : ch = (32 : Int32)
  · refine own_st (fun _ k => XS.icmpYes X0.here hx rfl (pc0 := 3) (pc' := 24) rfl (hb hby own_d11_3) rfl (teq hc3).1 (by decide) (by decide) k) ?_
    refine own_st (fun _ k => XS.iconst X0.here hx rfl (hb hby own_d11_24) k) ?_
    show own_Gl _ _ _ _ _ _ _ (s₁.setTop (mkF m 25 #[.val (.int ch)] [(.int 1)]))
    refine own_st (fun _ k => XS.goto X0.here hx rfl (pc0 := 25) (pc' := 29) rfl (hb hby own_d11_25) (by decide) (by decide) k) ?_
    show own_Gl _ _ _ _ _ _ _ (s₁.setTop (mkF m 29 #[.val (.int ch)] [(.int 1)]))
    exact own_retN X0 hx hlk (t := .boolean) hret (by simp) (hb hby own_d11_29) e0 ⟨by rw [own_ws, if_pos hc3] <;> rfl, N0, rfl⟩ (by decide) (by decide)
  · refine own_st (fun _ k => XS.icmpNo X0.here hx rfl (hb hby own_d11_3) rfl (feq hc3).1 k) ?_
    refine own_st (fun _ k => XS.iloadN X0.here hx rfl (hb hby own_d11_6) rfl k) ?_
    show own_Gl _ _ _ _ _ _ _ (s₁.setTop (mkF m 7 #[.val (.int ch)] [(.int ch)]))
    refine own_st (fun _ k => XS.bipush X0.here hx rfl (hb hby own_d11_7) k) ?_
    by_cases hc9 : ch = (9 : Int32)
    · refine own_st (fun _ k => XS.icmpYes X0.here hx rfl (pc0 := 9) (pc' := 24) rfl (hb hby own_d11_9) rfl (teq hc9).1 (by decide) (by decide) k) ?_
      refine own_st (fun _ k => XS.iconst X0.here hx rfl (hb hby own_d11_24) k) ?_
      refine own_st (fun _ k => XS.goto X0.here hx rfl (pc0 := 25) (pc' := 29) rfl (hb hby own_d11_25) (by decide) (by decide) k) ?_
      show own_Gl _ _ _ _ _ _ _ (s₁.setTop (mkF m 29 #[.val (.int ch)] [(.int 1)]))
      exact own_retN X0 hx hlk (t := .boolean) hret (by simp) (hb hby own_d11_29) e0 ⟨by rw [own_ws, if_neg hc3, if_pos hc9] <;> rfl, N0, rfl⟩ (by decide) (by decide)
    · refine own_st (fun _ k => XS.icmpNo X0.here hx rfl (hb hby own_d11_9) rfl (feq hc9).1 k) ?_
      refine own_st (fun _ k => XS.iloadN X0.here hx rfl (hb hby own_d11_12) rfl k) ?_
      refine own_st (fun _ k => XS.bipush X0.here hx rfl (hb hby own_d11_13) k) ?_
      show own_Gl _ _ _ _ _ _ _ (s₁.setTop (mkF m 15 #[.val (.int ch)] [(.int 10), (.int ch)]))
      by_cases hc15 : ch = (10 : Int32)
      · refine own_st (fun _ k => XS.icmpYes X0.here hx rfl (pc0 := 15) (pc' := 24) rfl (hb hby own_d11_15) rfl (teq hc15).1 (by decide) (by decide) k) ?_
        refine own_st (fun _ k => XS.iconst X0.here hx rfl (hb hby own_d11_24) k) ?_
        refine own_st (fun _ k => XS.goto X0.here hx rfl (pc0 := 25) (pc' := 29) rfl (hb hby own_d11_25) (by decide) (by decide) k) ?_
        show own_Gl _ _ _ _ _ _ _ (s₁.setTop (mkF m 29 #[.val (.int ch)] [(.int 1)]))
        exact own_retN X0 hx hlk (t := .boolean) hret (by simp) (hb hby own_d11_29) e0 ⟨by rw [own_ws, if_neg hc3, if_neg hc9, if_pos hc15] <;> rfl, N0, rfl⟩ (by decide) (by decide)
      · refine own_st (fun _ k => XS.icmpNo X0.here hx rfl (hb hby own_d11_15) rfl (feq hc15).1 k) ?_
        refine own_st (fun _ k => XS.iloadN X0.here hx rfl (hb hby own_d11_18) rfl k) ?_
        refine own_st (fun _ k => XS.bipush X0.here hx rfl (hb hby own_d11_19) k) ?_
        by_cases hc21 : ch = (13 : Int32)
        · refine own_st (fun _ k => XS.icmpNo X0.here hx rfl (hb hby own_d11_21) rfl (teq hc21).2 k) ?_
          show own_Gl _ _ _ _ _ _ _ (s₁.setTop (mkF m 24 #[.val (.int ch)] []))
          refine own_st (fun _ k => XS.iconst X0.here hx rfl (hb hby own_d11_24) k) ?_
          refine own_st (fun _ k => XS.goto X0.here hx rfl (pc0 := 25) (pc' := 29) rfl (hb hby own_d11_25) (by decide) (by decide) k) ?_
          show own_Gl _ _ _ _ _ _ _ (s₁.setTop (mkF m 29 #[.val (.int ch)] [(.int 1)]))
          exact own_retN X0 hx hlk (t := .boolean) hret (by simp) (hb hby own_d11_29) e0 ⟨by rw [own_ws, if_neg hc3, if_neg hc9, if_neg hc15, if_pos hc21] <;> rfl, N0, rfl⟩ (by decide) (by decide)
        · refine own_st (fun _ k => XS.icmpYes X0.here hx rfl (pc0 := 21) (pc' := 28) rfl (hb hby own_d11_21) rfl (feq hc21).2 (by decide) (by decide) k) ?_
          show own_Gl _ _ _ _ _ _ _ (s₁.setTop (mkF m 28 #[.val (.int ch)] []))
          refine own_st (fun _ k => XS.iconst X0.here hx rfl (hb hby own_d11_28) k) ?_
          show own_Gl _ _ _ _ _ _ _ (s₁.setTop (mkF m 29 #[.val (.int ch)] [(.int 0)]))
          exact own_retN X0 hx hlk (t := .boolean) hret (by simp) (hb hby own_d11_29) e0 ⟨by rw [own_ws, if_neg hc3, if_neg hc9, if_neg hc15, if_neg hc21] <;> rfl, N0, rfl⟩ (by decide) (by decide)
theorem own_d17_0 : decode prog_157_method_4_code 0 = .ok (.iload_n 0, 1) := by decide +kernel
theorem own_d17_1 : decode prog_157_method_4_code 1 = .ok (.bipush 32, 2) := by decide +kernel
theorem own_d17_3 : decode prog_157_method_4_code 3 = .ok (.if_icmp .eq 21, 3) := by decide +kernel
theorem own_d17_24 : decode prog_157_method_4_code 24 = .ok (.iconst 1, 1) := by decide +kernel
theorem own_d17_25 : decode prog_157_method_4_code 25 = .ok (.goto 4, 3) := by decide +kernel
theorem own_d17_29 : decode prog_157_method_4_code 29 = .ok (.ireturn, 1) := by decide +kernel
theorem own_d17_6 : decode prog_157_method_4_code 6 = .ok (.iload_n 0, 1) := by decide +kernel
theorem own_d17_7 : decode prog_157_method_4_code 7 = .ok (.bipush 9, 2) := by decide +kernel
theorem own_d17_9 : decode prog_157_method_4_code 9 = .ok (.if_icmp .eq 15, 3) := by decide +kernel
theorem own_d17_12 : decode prog_157_method_4_code 12 = .ok (.iload_n 0, 1) := by decide +kernel
theorem own_d17_13 : decode prog_157_method_4_code 13 = .ok (.bipush 10, 2) := by decide +kernel
theorem own_d17_15 : decode prog_157_method_4_code 15 = .ok (.if_icmp .eq 9, 3) := by decide +kernel
theorem own_d17_18 : decode prog_157_method_4_code 18 = .ok (.iload_n 0, 1) := by decide +kernel
theorem own_d17_19 : decode prog_157_method_4_code 19 = .ok (.bipush 13, 2) := by decide +kernel
theorem own_d17_21 : decode prog_157_method_4_code 21 = .ok (.if_icmp .ne 7, 3) := by decide +kernel
theorem own_d17_28 : decode prog_157_method_4_code 28 = .ok (.iconst 0, 1) := by decide +kernel
theorem own_ef_own_w2 (m : MethodId) (x0 : Int32) : entryFrame m #[(.int x0)] 1 = mkF m 0 #[.val (.int x0)] [] := by first | (simp [entryFrame, mkF, argsToLocals, Value.category]; done) | rfl
def own_Q_own_w2 (Z : State) (ch : Int32) (h0 : Heap) (n0 : Nat) (v : Option Value) (h : Heap) (L : List Loc) : Prop := (v = some (.int (own_ws ch))) ∧ (Fr n0 L) ∧ (h = h0)
theorem own_pn545058950 : plainName "com/example/brolga/brolga/xml/XmlCharacters" = true := by first | (simp [plainName, overriddenIn]; done) | decide +kernel

theorem own_w2 (l : Launch) (Z : State) (a0 : Array Value) (hw : oT a0 Z) (ws : List Jvm.Cond) (ch : Int32) (h0 : Heap) (n0 : Nat) (Z0 : n0 ≤ h0.size) :
    oMet l oM2 prog_157_method_4_code 1 (some .boolean) ws ⟨0, 0, 0, 0⟩ #[(.int ch)] Z h0 (own_Q_own_w2 Z ch h0 n0) := by
  refine oB n0 "com/example/brolga/brolga/xml/XmlCharacters" rfl (plainFor_of_name own_pn545058950) (fun m => own_ef_own_w2 m ch) ?_
  intro p e s m below meth c s₁ hZ hx hby hlk hret hml hown hnm X0 e0 N0
  show own_Gl _ _ _ _ _ _ _ (s₁.setTop (mkF m 0 #[.val (.int ch)] []))
  refine own_st (fun _ k => XS.iloadN X0.here hx rfl (hb hby own_d17_0) rfl k) ?_
  refine own_st (fun _ k => XS.bipush X0.here hx rfl (hb hby own_d17_1) k) ?_
  by_cases hc3 : ch = (32 : Int32)
  · refine own_st (fun _ k => XS.icmpYes X0.here hx rfl (pc0 := 3) (pc' := 24) rfl (hb hby own_d17_3) rfl (teq hc3).1 (by decide) (by decide) k) ?_
    refine own_st (fun _ k => XS.iconst X0.here hx rfl (hb hby own_d17_24) k) ?_
    show own_Gl _ _ _ _ _ _ _ (s₁.setTop (mkF m 25 #[.val (.int ch)] [(.int 1)]))
    refine own_st (fun _ k => XS.goto X0.here hx rfl (pc0 := 25) (pc' := 29) rfl (hb hby own_d17_25) (by decide) (by decide) k) ?_
    show own_Gl _ _ _ _ _ _ _ (s₁.setTop (mkF m 29 #[.val (.int ch)] [(.int 1)]))
    exact own_retN X0 hx hlk (t := .boolean) hret (by simp) (hb hby own_d17_29) e0 ⟨by rw [own_ws, if_pos hc3] <;> rfl, N0, rfl⟩ (by decide) (by decide)
  · refine own_st (fun _ k => XS.icmpNo X0.here hx rfl (hb hby own_d17_3) rfl (feq hc3).1 k) ?_
    refine own_st (fun _ k => XS.iloadN X0.here hx rfl (hb hby own_d17_6) rfl k) ?_
    show own_Gl _ _ _ _ _ _ _ (s₁.setTop (mkF m 7 #[.val (.int ch)] [(.int ch)]))
    refine own_st (fun _ k => XS.bipush X0.here hx rfl (hb hby own_d17_7) k) ?_
    by_cases hc9 : ch = (9 : Int32)
    · refine own_st (fun _ k => XS.icmpYes X0.here hx rfl (pc0 := 9) (pc' := 24) rfl (hb hby own_d17_9) rfl (teq hc9).1 (by decide) (by decide) k) ?_
      refine own_st (fun _ k => XS.iconst X0.here hx rfl (hb hby own_d17_24) k) ?_
      refine own_st (fun _ k => XS.goto X0.here hx rfl (pc0 := 25) (pc' := 29) rfl (hb hby own_d17_25) (by decide) (by decide) k) ?_
      show own_Gl _ _ _ _ _ _ _ (s₁.setTop (mkF m 29 #[.val (.int ch)] [(.int 1)]))
      exact own_retN X0 hx hlk (t := .boolean) hret (by simp) (hb hby own_d17_29) e0 ⟨by rw [own_ws, if_neg hc3, if_pos hc9] <;> rfl, N0, rfl⟩ (by decide) (by decide)
    · refine own_st (fun _ k => XS.icmpNo X0.here hx rfl (hb hby own_d17_9) rfl (feq hc9).1 k) ?_
      refine own_st (fun _ k => XS.iloadN X0.here hx rfl (hb hby own_d17_12) rfl k) ?_
      refine own_st (fun _ k => XS.bipush X0.here hx rfl (hb hby own_d17_13) k) ?_
      show own_Gl _ _ _ _ _ _ _ (s₁.setTop (mkF m 15 #[.val (.int ch)] [(.int 10), (.int ch)]))
      by_cases hc15 : ch = (10 : Int32)
      · refine own_st (fun _ k => XS.icmpYes X0.here hx rfl (pc0 := 15) (pc' := 24) rfl (hb hby own_d17_15) rfl (teq hc15).1 (by decide) (by decide) k) ?_
        refine own_st (fun _ k => XS.iconst X0.here hx rfl (hb hby own_d17_24) k) ?_
        refine own_st (fun _ k => XS.goto X0.here hx rfl (pc0 := 25) (pc' := 29) rfl (hb hby own_d17_25) (by decide) (by decide) k) ?_
        show own_Gl _ _ _ _ _ _ _ (s₁.setTop (mkF m 29 #[.val (.int ch)] [(.int 1)]))
        exact own_retN X0 hx hlk (t := .boolean) hret (by simp) (hb hby own_d17_29) e0 ⟨by rw [own_ws, if_neg hc3, if_neg hc9, if_pos hc15] <;> rfl, N0, rfl⟩ (by decide) (by decide)
      · refine own_st (fun _ k => XS.icmpNo X0.here hx rfl (hb hby own_d17_15) rfl (feq hc15).1 k) ?_
        refine own_st (fun _ k => XS.iloadN X0.here hx rfl (hb hby own_d17_18) rfl k) ?_
        refine own_st (fun _ k => XS.bipush X0.here hx rfl (hb hby own_d17_19) k) ?_
        by_cases hc21 : ch = (13 : Int32)
        · refine own_st (fun _ k => XS.icmpNo X0.here hx rfl (hb hby own_d17_21) rfl (teq hc21).2 k) ?_
          show own_Gl _ _ _ _ _ _ _ (s₁.setTop (mkF m 24 #[.val (.int ch)] []))
          refine own_st (fun _ k => XS.iconst X0.here hx rfl (hb hby own_d17_24) k) ?_
          refine own_st (fun _ k => XS.goto X0.here hx rfl (pc0 := 25) (pc' := 29) rfl (hb hby own_d17_25) (by decide) (by decide) k) ?_
          show own_Gl _ _ _ _ _ _ _ (s₁.setTop (mkF m 29 #[.val (.int ch)] [(.int 1)]))
          exact own_retN X0 hx hlk (t := .boolean) hret (by simp) (hb hby own_d17_29) e0 ⟨by rw [own_ws, if_neg hc3, if_neg hc9, if_neg hc15, if_pos hc21] <;> rfl, N0, rfl⟩ (by decide) (by decide)
        · refine own_st (fun _ k => XS.icmpYes X0.here hx rfl (pc0 := 21) (pc' := 28) rfl (hb hby own_d17_21) rfl (feq hc21).2 (by decide) (by decide) k) ?_
          show own_Gl _ _ _ _ _ _ _ (s₁.setTop (mkF m 28 #[.val (.int ch)] []))
          refine own_st (fun _ k => XS.iconst X0.here hx rfl (hb hby own_d17_28) k) ?_
          show own_Gl _ _ _ _ _ _ _ (s₁.setTop (mkF m 29 #[.val (.int ch)] [(.int 0)]))
          exact own_retN X0 hx hlk (t := .boolean) hret (by simp) (hb hby own_d17_29) e0 ⟨by rw [own_ws, if_neg hc3, if_neg hc9, if_neg hc15, if_neg hc21] <;> rfl, N0, rfl⟩ (by decide) (by decide)
theorem own_d7_0 : decode jdk_42_method_152_code 0 = .ok (.getstatic 38, 3) := by decide +kernel
theorem own_d7_3 : decode jdk_42_method_152_code 3 = .ok (.ifCond .eq 10, 3) := by decide +kernel
theorem own_d7_6 : decode jdk_42_method_152_code 6 = .ok (.aload_n 0, 1) := by decide +kernel
theorem own_d7_7 : decode jdk_42_method_152_code 7 = .ok (.getfield 15, 3) := by decide +kernel
theorem own_d7_10 : decode jdk_42_method_152_code 10 = .ok (.goto 4, 3) := by decide +kernel
theorem own_d7_14 : decode jdk_42_method_152_code 14 = .ok (.ireturn, 1) := by decide +kernel
theorem own_ef_own_cod0 (m : MethodId) (x0 : Addr) : entryFrame m #[(.ref x0)] 1 = mkF m 0 #[.val (.ref x0)] [] := by first | (simp [entryFrame, mkF, argsToLocals, Value.category]; done) | rfl
def own_Q_own_cod0 (Z : State) (a : Addr) (cs : Int32) (h0 : Heap) (n0 : Nat) (v : Option Value) (h : Heap) (L : List Loc) : Prop := (v = some (.int 0)) ∧ (Fr n0 L) ∧ (h = h0)
theorem own_pn853443214 : plainName "java/lang/String" = true := by first | (simp [plainName, overriddenIn]; done) | decide +kernel

theorem own_cod0 (l : Launch) (Z : State) (a0 : Array Value) (hw : oT a0 Z) (ws : List Jvm.Cond) (a : Addr) (cs : Int32) (h0 : Heap) (n0 : Nat) (Z0 : n0 ≤ h0.size) (F_a_coder : Fld Z h0 a "java/lang/String" "coder" "B" (.int 0)) (Old0 : Old Z n0 h0) (sC : Sta Z Z.heap "java/lang/String" "COMPACT_STRINGS" "Z" (.int cs)) (hcs : ¬ (cs = (0 : Int32))) :
    oMet l oM3 jdk_42_method_152_code 1 (some .byte) ws ⟨0, 0, 0, 0⟩ #[(.ref a)] Z h0 (own_Q_own_cod0 Z a cs h0 n0) := by
  refine oB n0 "java/lang/String" rfl (plainFor_of_name own_pn853443214) (fun m => own_ef_own_cod0 m a) ?_
  intro p e s m below meth c s₁ hZ hx hby hlk hret hml hown hnm X0 e0 N0
  show own_Gl _ _ _ _ _ _ _ (s₁.setTop (mkF m 0 #[.val (.ref a)] []))
  obtain ⟨T1, X1, e1, st1⟩ := getS2 X0 hx hZ hown (host := "") (Or.inl (oW hw 44 rfl)) Via.refl e0 (sC.ext Old0.2) (g := (mkF m 0 #[.val (.ref a)] [])) rfl (hb hby own_d7_0)
  refine own_st st1 ?_
  have hd2 : ¬ (cs = (0 : Int32)) := hcs
  refine own_st (fun _ k => XS.ifNo X1.here hx rfl (hb hby own_d7_3) rfl ((if0 _ _).trans (feq hd2).1) k) ?_
  refine own_st (fun _ k => XS.aloadN X1.here hx rfl (hb hby own_d7_6) rfl rfl k) ?_
  obtain ⟨T3, X3, e3, st3⟩ := getF X1 hx hZ hown (host := "") (Or.inl (oW hw 25 rfl)) Via.refl e1 F_a_coder (g := (mkF m 7 #[.val (.ref a)] [(.ref a)])) rfl rfl (hb hby own_d7_7)
  refine own_st st3 ?_
  show own_Gl _ _ _ _ _ _ _ (T3.setTop (mkF m 10 #[.val (.ref a)] [(.int 0)]))
  refine own_st (fun _ k => XS.goto X3.here hx rfl (pc0 := 10) (pc' := 14) rfl (hb hby own_d7_10) (by decide) (by decide) k) ?_
  show own_Gl _ _ _ _ _ _ _ (T3.setTop (mkF m 14 #[.val (.ref a)] [(.int 0)]))
  exact own_retN X3 hx hlk (t := .byte) hret (by simp) (hb hby own_d7_14) e3 ⟨rfl, N0, rfl⟩ (by decide) (by decide)
theorem own_d13_0 : decode jdk_42_method_154_code 0 = .ok (.getstatic 38, 3) := by decide +kernel
theorem own_d13_3 : decode jdk_42_method_154_code 3 = .ok (.ifCond .eq 14, 3) := by decide +kernel
theorem own_d13_6 : decode jdk_42_method_154_code 6 = .ok (.aload_n 0, 1) := by decide +kernel
theorem own_d13_7 : decode jdk_42_method_154_code 7 = .ok (.getfield 15, 3) := by decide +kernel
theorem own_d13_10 : decode jdk_42_method_154_code 10 = .ok (.ifCond .ne 7, 3) := by decide +kernel
theorem own_d13_13 : decode jdk_42_method_154_code 13 = .ok (.iconst 1, 1) := by decide +kernel
theorem own_d13_14 : decode jdk_42_method_154_code 14 = .ok (.goto 4, 3) := by decide +kernel
theorem own_d13_18 : decode jdk_42_method_154_code 18 = .ok (.ireturn, 1) := by decide +kernel
theorem own_ef_own_lat0 (m : MethodId) (x0 : Addr) : entryFrame m #[(.ref x0)] 1 = mkF m 0 #[.val (.ref x0)] [] := by first | (simp [entryFrame, mkF, argsToLocals, Value.category]; done) | rfl
def own_Q_own_lat0 (Z : State) (a : Addr) (cs : Int32) (h0 : Heap) (n0 : Nat) (v : Option Value) (h : Heap) (L : List Loc) : Prop := (v = some (.int 1)) ∧ (Fr n0 L) ∧ (h = h0)

theorem own_lat0 (l : Launch) (Z : State) (a0 : Array Value) (hw : oT a0 Z) (ws : List Jvm.Cond) (a : Addr) (cs : Int32) (h0 : Heap) (n0 : Nat) (Z0 : n0 ≤ h0.size) (F_a_coder : Fld Z h0 a "java/lang/String" "coder" "B" (.int 0)) (Old0 : Old Z n0 h0) (sC : Sta Z Z.heap "java/lang/String" "COMPACT_STRINGS" "Z" (.int cs)) (hcs : ¬ (cs = (0 : Int32))) :
    oMet l oM4 jdk_42_method_154_code 1 (some .boolean) ws ⟨0, 0, 0, 0⟩ #[(.ref a)] Z h0 (own_Q_own_lat0 Z a cs h0 n0) := by
  refine oB n0 "java/lang/String" rfl (plainFor_of_name own_pn853443214) (fun m => own_ef_own_lat0 m a) ?_
  intro p e s m below meth c s₁ hZ hx hby hlk hret hml hown hnm X0 e0 N0
  show own_Gl _ _ _ _ _ _ _ (s₁.setTop (mkF m 0 #[.val (.ref a)] []))
  obtain ⟨T1, X1, e1, st1⟩ := getS2 X0 hx hZ hown (host := "") (Or.inl (oW hw 44 rfl)) Via.refl e0 (sC.ext Old0.2) (g := (mkF m 0 #[.val (.ref a)] [])) rfl (hb hby own_d13_0)
  refine own_st st1 ?_
  have hd2 : ¬ (cs = (0 : Int32)) := hcs
  refine own_st (fun _ k => XS.ifNo X1.here hx rfl (hb hby own_d13_3) rfl ((if0 _ _).trans (feq hd2).1) k) ?_
  refine own_st (fun _ k => XS.aloadN X1.here hx rfl (hb hby own_d13_6) rfl rfl k) ?_
  obtain ⟨T3, X3, e3, st3⟩ := getF X1 hx hZ hown (host := "") (Or.inl (oW hw 25 rfl)) Via.refl e1 F_a_coder (g := (mkF m 7 #[.val (.ref a)] [(.ref a)])) rfl rfl (hb hby own_d13_7)
  refine own_st st3 ?_
  show own_Gl _ _ _ _ _ _ _ (T3.setTop (mkF m 10 #[.val (.ref a)] [(.int 0)]))
  have hd4 : (0 : Int32) = (0 : Int32) := (by decide)
  refine own_st (fun _ k => XS.ifNo X3.here hx rfl (hb hby own_d13_10) rfl ((if0 _ _).trans (teq hd4).2) k) ?_
  refine own_st (fun _ k => XS.iconst X3.here hx rfl (hb hby own_d13_13) k) ?_
  refine own_st (fun _ k => XS.goto X3.here hx rfl (pc0 := 14) (pc' := 18) rfl (hb hby own_d13_14) (by decide) (by decide) k) ?_
  show own_Gl _ _ _ _ _ _ _ (T3.setTop (mkF m 18 #[.val (.ref a)] [(.int 1)]))
  exact own_retN X3 hx hlk (t := .boolean) hret (by simp) (hb hby own_d13_18) e3 ⟨rfl, N0, rfl⟩ (by decide) (by decide)
theorem own_ef_own_cod1 (m : MethodId) (x0 : Addr) : entryFrame m #[(.ref x0)] 1 = mkF m 0 #[.val (.ref x0)] [] := by first | (simp [entryFrame, mkF, argsToLocals, Value.category]; done) | rfl
def own_Q_own_cod1 (Z : State) (a : Addr) (cs : Int32) (h0 : Heap) (n0 : Nat) (v : Option Value) (h : Heap) (L : List Loc) : Prop := (v = some (.int 1)) ∧ (Fr n0 L) ∧ (h = h0)

theorem own_cod1 (l : Launch) (Z : State) (a0 : Array Value) (hw : oT a0 Z) (ws : List Jvm.Cond) (a : Addr) (cs : Int32) (h0 : Heap) (n0 : Nat) (Z0 : n0 ≤ h0.size) (F_a_coder : Fld Z h0 a "java/lang/String" "coder" "B" (.int 1)) (Old0 : Old Z n0 h0) (sC : Sta Z Z.heap "java/lang/String" "COMPACT_STRINGS" "Z" (.int cs)) (hcs : ¬ (cs = (0 : Int32))) :
    oMet l oM3 jdk_42_method_152_code 1 (some .byte) ws ⟨0, 0, 0, 0⟩ #[(.ref a)] Z h0 (own_Q_own_cod1 Z a cs h0 n0) := by
  refine oB n0 "java/lang/String" rfl (plainFor_of_name own_pn853443214) (fun m => own_ef_own_cod1 m a) ?_
  intro p e s m below meth c s₁ hZ hx hby hlk hret hml hown hnm X0 e0 N0
  show own_Gl _ _ _ _ _ _ _ (s₁.setTop (mkF m 0 #[.val (.ref a)] []))
  obtain ⟨T1, X1, e1, st1⟩ := getS2 X0 hx hZ hown (host := "") (Or.inl (oW hw 44 rfl)) Via.refl e0 (sC.ext Old0.2) (g := (mkF m 0 #[.val (.ref a)] [])) rfl (hb hby own_d7_0)
  refine own_st st1 ?_
  have hd2 : ¬ (cs = (0 : Int32)) := hcs
  refine own_st (fun _ k => XS.ifNo X1.here hx rfl (hb hby own_d7_3) rfl ((if0 _ _).trans (feq hd2).1) k) ?_
  refine own_st (fun _ k => XS.aloadN X1.here hx rfl (hb hby own_d7_6) rfl rfl k) ?_
  obtain ⟨T3, X3, e3, st3⟩ := getF X1 hx hZ hown (host := "") (Or.inl (oW hw 25 rfl)) Via.refl e1 F_a_coder (g := (mkF m 7 #[.val (.ref a)] [(.ref a)])) rfl rfl (hb hby own_d7_7)
  refine own_st st3 ?_
  show own_Gl _ _ _ _ _ _ _ (T3.setTop (mkF m 10 #[.val (.ref a)] [(.int 1)]))
  refine own_st (fun _ k => XS.goto X3.here hx rfl (pc0 := 10) (pc' := 14) rfl (hb hby own_d7_10) (by decide) (by decide) k) ?_
  show own_Gl _ _ _ _ _ _ _ (T3.setTop (mkF m 14 #[.val (.ref a)] [(.int 1)]))
  exact own_retN X3 hx hlk (t := .byte) hret (by simp) (hb hby own_d7_14) e3 ⟨rfl, N0, rfl⟩ (by decide) (by decide)
theorem own_d13_17 : decode jdk_42_method_154_code 17 = .ok (.iconst 0, 1) := by decide +kernel
theorem own_ef_own_lat1 (m : MethodId) (x0 : Addr) : entryFrame m #[(.ref x0)] 1 = mkF m 0 #[.val (.ref x0)] [] := by first | (simp [entryFrame, mkF, argsToLocals, Value.category]; done) | rfl
def own_Q_own_lat1 (Z : State) (a : Addr) (cs : Int32) (h0 : Heap) (n0 : Nat) (v : Option Value) (h : Heap) (L : List Loc) : Prop := (v = some (.int 0)) ∧ (Fr n0 L) ∧ (h = h0)

theorem own_lat1 (l : Launch) (Z : State) (a0 : Array Value) (hw : oT a0 Z) (ws : List Jvm.Cond) (a : Addr) (cs : Int32) (h0 : Heap) (n0 : Nat) (Z0 : n0 ≤ h0.size) (F_a_coder : Fld Z h0 a "java/lang/String" "coder" "B" (.int 1)) (Old0 : Old Z n0 h0) (sC : Sta Z Z.heap "java/lang/String" "COMPACT_STRINGS" "Z" (.int cs)) (hcs : ¬ (cs = (0 : Int32))) :
    oMet l oM4 jdk_42_method_154_code 1 (some .boolean) ws ⟨0, 0, 0, 0⟩ #[(.ref a)] Z h0 (own_Q_own_lat1 Z a cs h0 n0) := by
  refine oB n0 "java/lang/String" rfl (plainFor_of_name own_pn853443214) (fun m => own_ef_own_lat1 m a) ?_
  intro p e s m below meth c s₁ hZ hx hby hlk hret hml hown hnm X0 e0 N0
  show own_Gl _ _ _ _ _ _ _ (s₁.setTop (mkF m 0 #[.val (.ref a)] []))
  obtain ⟨T1, X1, e1, st1⟩ := getS2 X0 hx hZ hown (host := "") (Or.inl (oW hw 44 rfl)) Via.refl e0 (sC.ext Old0.2) (g := (mkF m 0 #[.val (.ref a)] [])) rfl (hb hby own_d13_0)
  refine own_st st1 ?_
  have hd2 : ¬ (cs = (0 : Int32)) := hcs
  refine own_st (fun _ k => XS.ifNo X1.here hx rfl (hb hby own_d13_3) rfl ((if0 _ _).trans (feq hd2).1) k) ?_
  refine own_st (fun _ k => XS.aloadN X1.here hx rfl (hb hby own_d13_6) rfl rfl k) ?_
  obtain ⟨T3, X3, e3, st3⟩ := getF X1 hx hZ hown (host := "") (Or.inl (oW hw 25 rfl)) Via.refl e1 F_a_coder (g := (mkF m 7 #[.val (.ref a)] [(.ref a)])) rfl rfl (hb hby own_d13_7)
  refine own_st st3 ?_
  show own_Gl _ _ _ _ _ _ _ (T3.setTop (mkF m 10 #[.val (.ref a)] [(.int 1)]))
  have hd4 : ¬ ((1 : Int32) = (0 : Int32)) := (by decide)
  refine own_st (fun _ k => XS.ifYes X3.here hx rfl (pc0 := 10) (pc' := 17) rfl (hb hby own_d13_10) rfl ((if0 _ _).trans (feq hd4).2) (by decide) (by decide) k) ?_
  refine own_st (fun _ k => XS.iconst X3.here hx rfl (hb hby own_d13_17) k) ?_
  show own_Gl _ _ _ _ _ _ _ (T3.setTop (mkF m 18 #[.val (.ref a)] [(.int 0)]))
  exact own_retN X3 hx hlk (t := .boolean) hret (by simp) (hb hby own_d13_18) e3 ⟨rfl, N0, rfl⟩ (by decide) (by decide)
theorem own_d6_0 : decode jdk_42_method_54_code 0 = .ok (.aload_n 0, 1) := by decide +kernel
theorem own_d6_1 : decode jdk_42_method_54_code 1 = .ok (.getfield 9, 3) := by decide +kernel
theorem own_d6_4 : decode jdk_42_method_54_code 4 = .ok (.arraylength, 1) := by decide +kernel
theorem own_d6_5 : decode jdk_42_method_54_code 5 = .ok (.aload_n 0, 1) := by decide +kernel
theorem own_d6_6 : decode jdk_42_method_54_code 6 = .ok (.invokevirtual 335, 3) := by decide +kernel
theorem own_pd691877 : parseMethodDescriptor "()B" = some ⟨[], some .byte⟩ := by decide +kernel
theorem own_d6_9 : decode jdk_42_method_54_code 9 = .ok (.ishr, 1) := by decide +kernel
theorem own_d6_10 : decode jdk_42_method_54_code 10 = .ok (.ireturn, 1) := by decide +kernel
theorem own_ef_own_len0_0 (m : MethodId) (x0 : Addr) : entryFrame m #[(.ref x0)] 1 = mkF m 0 #[.val (.ref x0)] [] := by first | (simp [entryFrame, mkF, argsToLocals, Value.category]; done) | rfl
def own_Q_own_len0_0 (Z : State) (a : Addr) (b : Addr) (k : ClassId) (vl : List Value) (cs : Int32) (h0 : Heap) (n0 : Nat) (v : Option Value) (h : Heap) (L : List Loc) : Prop := (v = some (.int 0)) ∧ (Fr n0 L) ∧ (h = h0)

theorem own_len0_0 (l : Launch) (Z : State) (a0 : Array Value) (hw : oT a0 Z) (ws : List Jvm.Cond) (a : Addr) (b : Addr) (k : ClassId) (vl : List Value) (cs : Int32) (h0 : Heap) (n0 : Nat) (Z0 : n0 ≤ h0.size) (E_a : Exa Z h0 a "java/lang/String") (F_a_value : Fld Z h0 a "java/lang/String" "value" "[B" (.ref b)) (F_a_coder : Fld Z h0 a "java/lang/String" "coder" "B" (.int 0)) (V_b : Arv Z h0 b k .byte (0 : Int32) vl (.int 0)) (Old0 : Old Z n0 h0) (sC : Sta Z Z.heap "java/lang/String" "COMPACT_STRINGS" "Z" (.int cs)) (hcs : ¬ (cs = (0 : Int32))) :
    oMet l oM5 jdk_42_method_54_code 1 (some .int) ws ⟨1, 0, 0, 13⟩ #[(.ref a)] Z h0 (own_Q_own_len0_0 Z a b k vl cs h0 n0) := by
  refine oB n0 "java/lang/String" rfl (plainFor_of_name own_pn853443214) (fun m => own_ef_own_len0_0 m a) ?_
  intro p e s m below meth c s₁ hZ hx hby hlk hret hml hown hnm X0 e0 N0
  show own_Gl _ _ _ _ _ _ _ (s₁.setTop (mkF m 0 #[.val (.ref a)] []))
  refine own_st (fun _ k => XS.aloadN X0.here hx rfl (hb hby own_d6_0) rfl rfl k) ?_
  obtain ⟨T1, X1, e1, st1⟩ := getF X0 hx hZ hown (host := "") (Or.inl (oW hw 24 rfl)) Via.refl e0 F_a_value (g := (mkF m 1 #[.val (.ref a)] [(.ref a)])) rfl rfl (hb hby own_d6_1)
  refine own_st st1 ?_
  obtain ⟨cl2, Ar2, qq2, Ss2, Nn2, Hh2, Gg2⟩ := id V_b
  refine own_st (X1.arraylength hx (by rw [e1]; exact Ar2.1) (State.isArrayOf_alike hZ.alike Ar2.2.1) (g := (mkF m 4 #[.val (.ref a)] [(.ref b)])) rfl rfl (hb hby own_d6_4)) ?_
  rw [len_of Ss2 Nn2]
  refine own_st (fun _ k => XS.aloadN X1.here hx rfl (hb hby own_d6_5) rfl rfl k) ?_
  show own_Gl _ _ _ _ _ _ _ (T1.setTop (mkF m 6 #[.val (.ref a)] [(.ref a), (.int 0)]))
  obtain ⟨cq3, kq3, q3a, q3b, q3c⟩ := isOf hZ e1 E_a
  obtain ⟨_, _, ⟨T3, L3, k3, n3⟩, -, X3, ⟨Lc3, hQ3, l3, y3, z3⟩, st3⟩ := X1.virtualBack hx (y := oM3) (z := oM3) hown (mvT hZ (oW hw 39 rfl)) (mvT hZ (oW hw 40 rfl)) (notFace_of_selects (args := #[]) (mvT hZ (oW hw 42 rfl))) (mvT hZ (oW hw 42 rfl)) (mvT hZ (oW hw 41 rfl)) (by decide) (backOf (W := 1) (own_cod0 l Z a0 hw [] a cs h0 n0 Z0 F_a_coder Old0 sC hcs) hZ (oW hw 43 rfl) (oW hw 7 rfl) (by decide) (by decide)) q3a q3c (g := (mkF m 6 #[.val (.ref a)] [(.ref a), (.int 0)])) rfl (by rw [hml]; rfl) (Steps.refl _) (argsL := []) (rest := [(.int 0)]) (lenOf own_pd691877 rfl) rfl (by show 2 * 0 + _ ≤ _; exact Nat.le_of_eq rfl) (hb hby own_d6_6) (fun _ _ => ⟨rfl, e1, (by decide : 0 + 0 ≤ 0), (by decide : 0 + 0 ≤ 0)⟩)
  dsimp only [Pt.U, Pt.locs, Pt.cells, Pt.slots] at X3 l3 y3 z3 st3 hQ3
  subst l3 y3 z3
  obtain ⟨hh3, eh03⟩ : ∃ z, T3.heap = z := ⟨_, rfl⟩
  rw [eh03] at hQ3
  obtain ⟨rfl, Nq3, eh3⟩ := hQ3
  have N3 := Fr.app N0 Nq3
  refine own_tr st3 ?_
  have e3 : T3.heap = h0 := eh03.trans eh3
  refine own_st (fun _ k => XS.ishr X3.here hx rfl (hb hby own_d6_9) rfl k) ?_
  show own_Gl _ _ _ _ _ _ _ (T3.setTop (mkF m 10 #[.val (.ref a)] [(.int ((0 : Int32) >>> ((0 : Int32) &&& 31)))]))
  exact own_retI X3 hx hlk hret (hb hby own_d6_10) e3 ⟨rfl, N3, rfl⟩ (by decide) (by decide)
theorem own_ef_own_len1_0 (m : MethodId) (x0 : Addr) : entryFrame m #[(.ref x0)] 1 = mkF m 0 #[.val (.ref x0)] [] := by first | (simp [entryFrame, mkF, argsToLocals, Value.category]; done) | rfl
def own_Q_own_len1_0 (Z : State) (a : Addr) (b : Addr) (k : ClassId) (vl : List Value) (cs : Int32) (h0 : Heap) (n0 : Nat) (v : Option Value) (h : Heap) (L : List Loc) : Prop := (v = some (.int 1)) ∧ (Fr n0 L) ∧ (h = h0)

theorem own_len1_0 (l : Launch) (Z : State) (a0 : Array Value) (hw : oT a0 Z) (ws : List Jvm.Cond) (a : Addr) (b : Addr) (k : ClassId) (vl : List Value) (cs : Int32) (h0 : Heap) (n0 : Nat) (Z0 : n0 ≤ h0.size) (E_a : Exa Z h0 a "java/lang/String") (F_a_value : Fld Z h0 a "java/lang/String" "value" "[B" (.ref b)) (F_a_coder : Fld Z h0 a "java/lang/String" "coder" "B" (.int 0)) (V_b : Arv Z h0 b k .byte (1 : Int32) vl (.int 0)) (Old0 : Old Z n0 h0) (sC : Sta Z Z.heap "java/lang/String" "COMPACT_STRINGS" "Z" (.int cs)) (hcs : ¬ (cs = (0 : Int32))) :
    oMet l oM5 jdk_42_method_54_code 1 (some .int) ws ⟨1, 0, 0, 13⟩ #[(.ref a)] Z h0 (own_Q_own_len1_0 Z a b k vl cs h0 n0) := by
  refine oB n0 "java/lang/String" rfl (plainFor_of_name own_pn853443214) (fun m => own_ef_own_len1_0 m a) ?_
  intro p e s m below meth c s₁ hZ hx hby hlk hret hml hown hnm X0 e0 N0
  show own_Gl _ _ _ _ _ _ _ (s₁.setTop (mkF m 0 #[.val (.ref a)] []))
  refine own_st (fun _ k => XS.aloadN X0.here hx rfl (hb hby own_d6_0) rfl rfl k) ?_
  obtain ⟨T1, X1, e1, st1⟩ := getF X0 hx hZ hown (host := "") (Or.inl (oW hw 24 rfl)) Via.refl e0 F_a_value (g := (mkF m 1 #[.val (.ref a)] [(.ref a)])) rfl rfl (hb hby own_d6_1)
  refine own_st st1 ?_
  obtain ⟨cl2, Ar2, qq2, Ss2, Nn2, Hh2, Gg2⟩ := id V_b
  refine own_st (X1.arraylength hx (by rw [e1]; exact Ar2.1) (State.isArrayOf_alike hZ.alike Ar2.2.1) (g := (mkF m 4 #[.val (.ref a)] [(.ref b)])) rfl rfl (hb hby own_d6_4)) ?_
  rw [len_of Ss2 Nn2]
  refine own_st (fun _ k => XS.aloadN X1.here hx rfl (hb hby own_d6_5) rfl rfl k) ?_
  show own_Gl _ _ _ _ _ _ _ (T1.setTop (mkF m 6 #[.val (.ref a)] [(.ref a), (.int 1)]))
  obtain ⟨cq3, kq3, q3a, q3b, q3c⟩ := isOf hZ e1 E_a
  obtain ⟨_, _, ⟨T3, L3, k3, n3⟩, -, X3, ⟨Lc3, hQ3, l3, y3, z3⟩, st3⟩ := X1.virtualBack hx (y := oM3) (z := oM3) hown (mvT hZ (oW hw 39 rfl)) (mvT hZ (oW hw 40 rfl)) (notFace_of_selects (args := #[]) (mvT hZ (oW hw 42 rfl))) (mvT hZ (oW hw 42 rfl)) (mvT hZ (oW hw 41 rfl)) (by decide) (backOf (W := 1) (own_cod0 l Z a0 hw [] a cs h0 n0 Z0 F_a_coder Old0 sC hcs) hZ (oW hw 43 rfl) (oW hw 7 rfl) (by decide) (by decide)) q3a q3c (g := (mkF m 6 #[.val (.ref a)] [(.ref a), (.int 1)])) rfl (by rw [hml]; rfl) (Steps.refl _) (argsL := []) (rest := [(.int 1)]) (lenOf own_pd691877 rfl) rfl (by show 2 * 0 + _ ≤ _; exact Nat.le_of_eq rfl) (hb hby own_d6_6) (fun _ _ => ⟨rfl, e1, (by decide : 0 + 0 ≤ 0), (by decide : 0 + 0 ≤ 0)⟩)
  dsimp only [Pt.U, Pt.locs, Pt.cells, Pt.slots] at X3 l3 y3 z3 st3 hQ3
  subst l3 y3 z3
  obtain ⟨hh3, eh03⟩ : ∃ z, T3.heap = z := ⟨_, rfl⟩
  rw [eh03] at hQ3
  obtain ⟨rfl, Nq3, eh3⟩ := hQ3
  have N3 := Fr.app N0 Nq3
  refine own_tr st3 ?_
  have e3 : T3.heap = h0 := eh03.trans eh3
  refine own_st (fun _ k => XS.ishr X3.here hx rfl (hb hby own_d6_9) rfl k) ?_
  show own_Gl _ _ _ _ _ _ _ (T3.setTop (mkF m 10 #[.val (.ref a)] [(.int ((1 : Int32) >>> ((0 : Int32) &&& 31)))]))
  exact own_retI X3 hx hlk hret (hb hby own_d6_10) e3 ⟨rfl, N3, rfl⟩ (by decide) (by decide)
theorem own_ef_own_len1_1 (m : MethodId) (x0 : Addr) : entryFrame m #[(.ref x0)] 1 = mkF m 0 #[.val (.ref x0)] [] := by first | (simp [entryFrame, mkF, argsToLocals, Value.category]; done) | rfl
def own_Q_own_len1_1 (Z : State) (a : Addr) (b : Addr) (k : ClassId) (vl : List Value) (cs : Int32) (h0 : Heap) (n0 : Nat) (v : Option Value) (h : Heap) (L : List Loc) : Prop := (v = some (.int 1)) ∧ (Fr n0 L) ∧ (h = h0)

theorem own_len1_1 (l : Launch) (Z : State) (a0 : Array Value) (hw : oT a0 Z) (ws : List Jvm.Cond) (a : Addr) (b : Addr) (k : ClassId) (vl : List Value) (cs : Int32) (h0 : Heap) (n0 : Nat) (Z0 : n0 ≤ h0.size) (E_a : Exa Z h0 a "java/lang/String") (F_a_value : Fld Z h0 a "java/lang/String" "value" "[B" (.ref b)) (F_a_coder : Fld Z h0 a "java/lang/String" "coder" "B" (.int 1)) (V_b : Arv Z h0 b k .byte (2 : Int32) vl (.int 0)) (Old0 : Old Z n0 h0) (sC : Sta Z Z.heap "java/lang/String" "COMPACT_STRINGS" "Z" (.int cs)) (hcs : ¬ (cs = (0 : Int32))) :
    oMet l oM5 jdk_42_method_54_code 1 (some .int) ws ⟨1, 0, 0, 13⟩ #[(.ref a)] Z h0 (own_Q_own_len1_1 Z a b k vl cs h0 n0) := by
  refine oB n0 "java/lang/String" rfl (plainFor_of_name own_pn853443214) (fun m => own_ef_own_len1_1 m a) ?_
  intro p e s m below meth c s₁ hZ hx hby hlk hret hml hown hnm X0 e0 N0
  show own_Gl _ _ _ _ _ _ _ (s₁.setTop (mkF m 0 #[.val (.ref a)] []))
  refine own_st (fun _ k => XS.aloadN X0.here hx rfl (hb hby own_d6_0) rfl rfl k) ?_
  obtain ⟨T1, X1, e1, st1⟩ := getF X0 hx hZ hown (host := "") (Or.inl (oW hw 24 rfl)) Via.refl e0 F_a_value (g := (mkF m 1 #[.val (.ref a)] [(.ref a)])) rfl rfl (hb hby own_d6_1)
  refine own_st st1 ?_
  obtain ⟨cl2, Ar2, qq2, Ss2, Nn2, Hh2, Gg2⟩ := id V_b
  refine own_st (X1.arraylength hx (by rw [e1]; exact Ar2.1) (State.isArrayOf_alike hZ.alike Ar2.2.1) (g := (mkF m 4 #[.val (.ref a)] [(.ref b)])) rfl rfl (hb hby own_d6_4)) ?_
  rw [len_of Ss2 Nn2]
  refine own_st (fun _ k => XS.aloadN X1.here hx rfl (hb hby own_d6_5) rfl rfl k) ?_
  show own_Gl _ _ _ _ _ _ _ (T1.setTop (mkF m 6 #[.val (.ref a)] [(.ref a), (.int 2)]))
  obtain ⟨cq3, kq3, q3a, q3b, q3c⟩ := isOf hZ e1 E_a
  obtain ⟨_, _, ⟨T3, L3, k3, n3⟩, -, X3, ⟨Lc3, hQ3, l3, y3, z3⟩, st3⟩ := X1.virtualBack hx (y := oM3) (z := oM3) hown (mvT hZ (oW hw 39 rfl)) (mvT hZ (oW hw 40 rfl)) (notFace_of_selects (args := #[]) (mvT hZ (oW hw 42 rfl))) (mvT hZ (oW hw 42 rfl)) (mvT hZ (oW hw 41 rfl)) (by decide) (backOf (W := 1) (own_cod1 l Z a0 hw [] a cs h0 n0 Z0 F_a_coder Old0 sC hcs) hZ (oW hw 43 rfl) (oW hw 7 rfl) (by decide) (by decide)) q3a q3c (g := (mkF m 6 #[.val (.ref a)] [(.ref a), (.int 2)])) rfl (by rw [hml]; rfl) (Steps.refl _) (argsL := []) (rest := [(.int 2)]) (lenOf own_pd691877 rfl) rfl (by show 2 * 0 + _ ≤ _; exact Nat.le_of_eq rfl) (hb hby own_d6_6) (fun _ _ => ⟨rfl, e1, (by decide : 0 + 0 ≤ 0), (by decide : 0 + 0 ≤ 0)⟩)
  dsimp only [Pt.U, Pt.locs, Pt.cells, Pt.slots] at X3 l3 y3 z3 st3 hQ3
  subst l3 y3 z3
  obtain ⟨hh3, eh03⟩ : ∃ z, T3.heap = z := ⟨_, rfl⟩
  rw [eh03] at hQ3
  obtain ⟨rfl, Nq3, eh3⟩ := hQ3
  have N3 := Fr.app N0 Nq3
  refine own_tr st3 ?_
  have e3 : T3.heap = h0 := eh03.trans eh3
  refine own_st (fun _ k => XS.ishr X3.here hx rfl (hb hby own_d6_9) rfl k) ?_
  show own_Gl _ _ _ _ _ _ _ (T3.setTop (mkF m 10 #[.val (.ref a)] [(.int ((2 : Int32) >>> ((1 : Int32) &&& 31)))]))
  exact own_retI X3 hx hlk hret (hb hby own_d6_10) e3 ⟨rfl, N3, rfl⟩ (by decide) (by decide)
theorem own_ef_own_len2_0 (m : MethodId) (x0 : Addr) : entryFrame m #[(.ref x0)] 1 = mkF m 0 #[.val (.ref x0)] [] := by first | (simp [entryFrame, mkF, argsToLocals, Value.category]; done) | rfl
def own_Q_own_len2_0 (Z : State) (a : Addr) (b : Addr) (k : ClassId) (vl : List Value) (cs : Int32) (h0 : Heap) (n0 : Nat) (v : Option Value) (h : Heap) (L : List Loc) : Prop := (v = some (.int 2)) ∧ (Fr n0 L) ∧ (h = h0)

theorem own_len2_0 (l : Launch) (Z : State) (a0 : Array Value) (hw : oT a0 Z) (ws : List Jvm.Cond) (a : Addr) (b : Addr) (k : ClassId) (vl : List Value) (cs : Int32) (h0 : Heap) (n0 : Nat) (Z0 : n0 ≤ h0.size) (E_a : Exa Z h0 a "java/lang/String") (F_a_value : Fld Z h0 a "java/lang/String" "value" "[B" (.ref b)) (F_a_coder : Fld Z h0 a "java/lang/String" "coder" "B" (.int 0)) (V_b : Arv Z h0 b k .byte (2 : Int32) vl (.int 0)) (Old0 : Old Z n0 h0) (sC : Sta Z Z.heap "java/lang/String" "COMPACT_STRINGS" "Z" (.int cs)) (hcs : ¬ (cs = (0 : Int32))) :
    oMet l oM5 jdk_42_method_54_code 1 (some .int) ws ⟨1, 0, 0, 13⟩ #[(.ref a)] Z h0 (own_Q_own_len2_0 Z a b k vl cs h0 n0) := by
  refine oB n0 "java/lang/String" rfl (plainFor_of_name own_pn853443214) (fun m => own_ef_own_len2_0 m a) ?_
  intro p e s m below meth c s₁ hZ hx hby hlk hret hml hown hnm X0 e0 N0
  show own_Gl _ _ _ _ _ _ _ (s₁.setTop (mkF m 0 #[.val (.ref a)] []))
  refine own_st (fun _ k => XS.aloadN X0.here hx rfl (hb hby own_d6_0) rfl rfl k) ?_
  obtain ⟨T1, X1, e1, st1⟩ := getF X0 hx hZ hown (host := "") (Or.inl (oW hw 24 rfl)) Via.refl e0 F_a_value (g := (mkF m 1 #[.val (.ref a)] [(.ref a)])) rfl rfl (hb hby own_d6_1)
  refine own_st st1 ?_
  obtain ⟨cl2, Ar2, qq2, Ss2, Nn2, Hh2, Gg2⟩ := id V_b
  refine own_st (X1.arraylength hx (by rw [e1]; exact Ar2.1) (State.isArrayOf_alike hZ.alike Ar2.2.1) (g := (mkF m 4 #[.val (.ref a)] [(.ref b)])) rfl rfl (hb hby own_d6_4)) ?_
  rw [len_of Ss2 Nn2]
  refine own_st (fun _ k => XS.aloadN X1.here hx rfl (hb hby own_d6_5) rfl rfl k) ?_
  show own_Gl _ _ _ _ _ _ _ (T1.setTop (mkF m 6 #[.val (.ref a)] [(.ref a), (.int 2)]))
  obtain ⟨cq3, kq3, q3a, q3b, q3c⟩ := isOf hZ e1 E_a
  obtain ⟨_, _, ⟨T3, L3, k3, n3⟩, -, X3, ⟨Lc3, hQ3, l3, y3, z3⟩, st3⟩ := X1.virtualBack hx (y := oM3) (z := oM3) hown (mvT hZ (oW hw 39 rfl)) (mvT hZ (oW hw 40 rfl)) (notFace_of_selects (args := #[]) (mvT hZ (oW hw 42 rfl))) (mvT hZ (oW hw 42 rfl)) (mvT hZ (oW hw 41 rfl)) (by decide) (backOf (W := 1) (own_cod0 l Z a0 hw [] a cs h0 n0 Z0 F_a_coder Old0 sC hcs) hZ (oW hw 43 rfl) (oW hw 7 rfl) (by decide) (by decide)) q3a q3c (g := (mkF m 6 #[.val (.ref a)] [(.ref a), (.int 2)])) rfl (by rw [hml]; rfl) (Steps.refl _) (argsL := []) (rest := [(.int 2)]) (lenOf own_pd691877 rfl) rfl (by show 2 * 0 + _ ≤ _; exact Nat.le_of_eq rfl) (hb hby own_d6_6) (fun _ _ => ⟨rfl, e1, (by decide : 0 + 0 ≤ 0), (by decide : 0 + 0 ≤ 0)⟩)
  dsimp only [Pt.U, Pt.locs, Pt.cells, Pt.slots] at X3 l3 y3 z3 st3 hQ3
  subst l3 y3 z3
  obtain ⟨hh3, eh03⟩ : ∃ z, T3.heap = z := ⟨_, rfl⟩
  rw [eh03] at hQ3
  obtain ⟨rfl, Nq3, eh3⟩ := hQ3
  have N3 := Fr.app N0 Nq3
  refine own_tr st3 ?_
  have e3 : T3.heap = h0 := eh03.trans eh3
  refine own_st (fun _ k => XS.ishr X3.here hx rfl (hb hby own_d6_9) rfl k) ?_
  show own_Gl _ _ _ _ _ _ _ (T3.setTop (mkF m 10 #[.val (.ref a)] [(.int ((2 : Int32) >>> ((0 : Int32) &&& 31)))]))
  exact own_retI X3 hx hlk hret (hb hby own_d6_10) e3 ⟨rfl, N3, rfl⟩ (by decide) (by decide)
theorem own_ef_own_len2_1 (m : MethodId) (x0 : Addr) : entryFrame m #[(.ref x0)] 1 = mkF m 0 #[.val (.ref x0)] [] := by first | (simp [entryFrame, mkF, argsToLocals, Value.category]; done) | rfl
def own_Q_own_len2_1 (Z : State) (a : Addr) (b : Addr) (k : ClassId) (vl : List Value) (cs : Int32) (h0 : Heap) (n0 : Nat) (v : Option Value) (h : Heap) (L : List Loc) : Prop := (v = some (.int 2)) ∧ (Fr n0 L) ∧ (h = h0)

theorem own_len2_1 (l : Launch) (Z : State) (a0 : Array Value) (hw : oT a0 Z) (ws : List Jvm.Cond) (a : Addr) (b : Addr) (k : ClassId) (vl : List Value) (cs : Int32) (h0 : Heap) (n0 : Nat) (Z0 : n0 ≤ h0.size) (E_a : Exa Z h0 a "java/lang/String") (F_a_value : Fld Z h0 a "java/lang/String" "value" "[B" (.ref b)) (F_a_coder : Fld Z h0 a "java/lang/String" "coder" "B" (.int 1)) (V_b : Arv Z h0 b k .byte (4 : Int32) vl (.int 0)) (Old0 : Old Z n0 h0) (sC : Sta Z Z.heap "java/lang/String" "COMPACT_STRINGS" "Z" (.int cs)) (hcs : ¬ (cs = (0 : Int32))) :
    oMet l oM5 jdk_42_method_54_code 1 (some .int) ws ⟨1, 0, 0, 13⟩ #[(.ref a)] Z h0 (own_Q_own_len2_1 Z a b k vl cs h0 n0) := by
  refine oB n0 "java/lang/String" rfl (plainFor_of_name own_pn853443214) (fun m => own_ef_own_len2_1 m a) ?_
  intro p e s m below meth c s₁ hZ hx hby hlk hret hml hown hnm X0 e0 N0
  show own_Gl _ _ _ _ _ _ _ (s₁.setTop (mkF m 0 #[.val (.ref a)] []))
  refine own_st (fun _ k => XS.aloadN X0.here hx rfl (hb hby own_d6_0) rfl rfl k) ?_
  obtain ⟨T1, X1, e1, st1⟩ := getF X0 hx hZ hown (host := "") (Or.inl (oW hw 24 rfl)) Via.refl e0 F_a_value (g := (mkF m 1 #[.val (.ref a)] [(.ref a)])) rfl rfl (hb hby own_d6_1)
  refine own_st st1 ?_
  obtain ⟨cl2, Ar2, qq2, Ss2, Nn2, Hh2, Gg2⟩ := id V_b
  refine own_st (X1.arraylength hx (by rw [e1]; exact Ar2.1) (State.isArrayOf_alike hZ.alike Ar2.2.1) (g := (mkF m 4 #[.val (.ref a)] [(.ref b)])) rfl rfl (hb hby own_d6_4)) ?_
  rw [len_of Ss2 Nn2]
  refine own_st (fun _ k => XS.aloadN X1.here hx rfl (hb hby own_d6_5) rfl rfl k) ?_
  show own_Gl _ _ _ _ _ _ _ (T1.setTop (mkF m 6 #[.val (.ref a)] [(.ref a), (.int 4)]))
  obtain ⟨cq3, kq3, q3a, q3b, q3c⟩ := isOf hZ e1 E_a
  obtain ⟨_, _, ⟨T3, L3, k3, n3⟩, -, X3, ⟨Lc3, hQ3, l3, y3, z3⟩, st3⟩ := X1.virtualBack hx (y := oM3) (z := oM3) hown (mvT hZ (oW hw 39 rfl)) (mvT hZ (oW hw 40 rfl)) (notFace_of_selects (args := #[]) (mvT hZ (oW hw 42 rfl))) (mvT hZ (oW hw 42 rfl)) (mvT hZ (oW hw 41 rfl)) (by decide) (backOf (W := 1) (own_cod1 l Z a0 hw [] a cs h0 n0 Z0 F_a_coder Old0 sC hcs) hZ (oW hw 43 rfl) (oW hw 7 rfl) (by decide) (by decide)) q3a q3c (g := (mkF m 6 #[.val (.ref a)] [(.ref a), (.int 4)])) rfl (by rw [hml]; rfl) (Steps.refl _) (argsL := []) (rest := [(.int 4)]) (lenOf own_pd691877 rfl) rfl (by show 2 * 0 + _ ≤ _; exact Nat.le_of_eq rfl) (hb hby own_d6_6) (fun _ _ => ⟨rfl, e1, (by decide : 0 + 0 ≤ 0), (by decide : 0 + 0 ≤ 0)⟩)
  dsimp only [Pt.U, Pt.locs, Pt.cells, Pt.slots] at X3 l3 y3 z3 st3 hQ3
  subst l3 y3 z3
  obtain ⟨hh3, eh03⟩ : ∃ z, T3.heap = z := ⟨_, rfl⟩
  rw [eh03] at hQ3
  obtain ⟨rfl, Nq3, eh3⟩ := hQ3
  have N3 := Fr.app N0 Nq3
  refine own_tr st3 ?_
  have e3 : T3.heap = h0 := eh03.trans eh3
  refine own_st (fun _ k => XS.ishr X3.here hx rfl (hb hby own_d6_9) rfl k) ?_
  show own_Gl _ _ _ _ _ _ _ (T3.setTop (mkF m 10 #[.val (.ref a)] [(.int ((4 : Int32) >>> ((1 : Int32) &&& 31)))]))
  exact own_retI X3 hx hlk hret (hb hby own_d6_10) e3 ⟨rfl, N3, rfl⟩ (by decide) (by decide)
theorem own_ef_own_len3_0 (m : MethodId) (x0 : Addr) : entryFrame m #[(.ref x0)] 1 = mkF m 0 #[.val (.ref x0)] [] := by first | (simp [entryFrame, mkF, argsToLocals, Value.category]; done) | rfl
def own_Q_own_len3_0 (Z : State) (a : Addr) (b : Addr) (k : ClassId) (vl : List Value) (cs : Int32) (h0 : Heap) (n0 : Nat) (v : Option Value) (h : Heap) (L : List Loc) : Prop := (v = some (.int 3)) ∧ (Fr n0 L) ∧ (h = h0)

theorem own_len3_0 (l : Launch) (Z : State) (a0 : Array Value) (hw : oT a0 Z) (ws : List Jvm.Cond) (a : Addr) (b : Addr) (k : ClassId) (vl : List Value) (cs : Int32) (h0 : Heap) (n0 : Nat) (Z0 : n0 ≤ h0.size) (E_a : Exa Z h0 a "java/lang/String") (F_a_value : Fld Z h0 a "java/lang/String" "value" "[B" (.ref b)) (F_a_coder : Fld Z h0 a "java/lang/String" "coder" "B" (.int 0)) (V_b : Arv Z h0 b k .byte (3 : Int32) vl (.int 0)) (Old0 : Old Z n0 h0) (sC : Sta Z Z.heap "java/lang/String" "COMPACT_STRINGS" "Z" (.int cs)) (hcs : ¬ (cs = (0 : Int32))) :
    oMet l oM5 jdk_42_method_54_code 1 (some .int) ws ⟨1, 0, 0, 13⟩ #[(.ref a)] Z h0 (own_Q_own_len3_0 Z a b k vl cs h0 n0) := by
  refine oB n0 "java/lang/String" rfl (plainFor_of_name own_pn853443214) (fun m => own_ef_own_len3_0 m a) ?_
  intro p e s m below meth c s₁ hZ hx hby hlk hret hml hown hnm X0 e0 N0
  show own_Gl _ _ _ _ _ _ _ (s₁.setTop (mkF m 0 #[.val (.ref a)] []))
  refine own_st (fun _ k => XS.aloadN X0.here hx rfl (hb hby own_d6_0) rfl rfl k) ?_
  obtain ⟨T1, X1, e1, st1⟩ := getF X0 hx hZ hown (host := "") (Or.inl (oW hw 24 rfl)) Via.refl e0 F_a_value (g := (mkF m 1 #[.val (.ref a)] [(.ref a)])) rfl rfl (hb hby own_d6_1)
  refine own_st st1 ?_
  obtain ⟨cl2, Ar2, qq2, Ss2, Nn2, Hh2, Gg2⟩ := id V_b
  refine own_st (X1.arraylength hx (by rw [e1]; exact Ar2.1) (State.isArrayOf_alike hZ.alike Ar2.2.1) (g := (mkF m 4 #[.val (.ref a)] [(.ref b)])) rfl rfl (hb hby own_d6_4)) ?_
  rw [len_of Ss2 Nn2]
  refine own_st (fun _ k => XS.aloadN X1.here hx rfl (hb hby own_d6_5) rfl rfl k) ?_
  show own_Gl _ _ _ _ _ _ _ (T1.setTop (mkF m 6 #[.val (.ref a)] [(.ref a), (.int 3)]))
  obtain ⟨cq3, kq3, q3a, q3b, q3c⟩ := isOf hZ e1 E_a
  obtain ⟨_, _, ⟨T3, L3, k3, n3⟩, -, X3, ⟨Lc3, hQ3, l3, y3, z3⟩, st3⟩ := X1.virtualBack hx (y := oM3) (z := oM3) hown (mvT hZ (oW hw 39 rfl)) (mvT hZ (oW hw 40 rfl)) (notFace_of_selects (args := #[]) (mvT hZ (oW hw 42 rfl))) (mvT hZ (oW hw 42 rfl)) (mvT hZ (oW hw 41 rfl)) (by decide) (backOf (W := 1) (own_cod0 l Z a0 hw [] a cs h0 n0 Z0 F_a_coder Old0 sC hcs) hZ (oW hw 43 rfl) (oW hw 7 rfl) (by decide) (by decide)) q3a q3c (g := (mkF m 6 #[.val (.ref a)] [(.ref a), (.int 3)])) rfl (by rw [hml]; rfl) (Steps.refl _) (argsL := []) (rest := [(.int 3)]) (lenOf own_pd691877 rfl) rfl (by show 2 * 0 + _ ≤ _; exact Nat.le_of_eq rfl) (hb hby own_d6_6) (fun _ _ => ⟨rfl, e1, (by decide : 0 + 0 ≤ 0), (by decide : 0 + 0 ≤ 0)⟩)
  dsimp only [Pt.U, Pt.locs, Pt.cells, Pt.slots] at X3 l3 y3 z3 st3 hQ3
  subst l3 y3 z3
  obtain ⟨hh3, eh03⟩ : ∃ z, T3.heap = z := ⟨_, rfl⟩
  rw [eh03] at hQ3
  obtain ⟨rfl, Nq3, eh3⟩ := hQ3
  have N3 := Fr.app N0 Nq3
  refine own_tr st3 ?_
  have e3 : T3.heap = h0 := eh03.trans eh3
  refine own_st (fun _ k => XS.ishr X3.here hx rfl (hb hby own_d6_9) rfl k) ?_
  show own_Gl _ _ _ _ _ _ _ (T3.setTop (mkF m 10 #[.val (.ref a)] [(.int ((3 : Int32) >>> ((0 : Int32) &&& 31)))]))
  exact own_retI X3 hx hlk hret (hb hby own_d6_10) e3 ⟨rfl, N3, rfl⟩ (by decide) (by decide)
theorem own_ef_own_len3_1 (m : MethodId) (x0 : Addr) : entryFrame m #[(.ref x0)] 1 = mkF m 0 #[.val (.ref x0)] [] := by first | (simp [entryFrame, mkF, argsToLocals, Value.category]; done) | rfl
def own_Q_own_len3_1 (Z : State) (a : Addr) (b : Addr) (k : ClassId) (vl : List Value) (cs : Int32) (h0 : Heap) (n0 : Nat) (v : Option Value) (h : Heap) (L : List Loc) : Prop := (v = some (.int 3)) ∧ (Fr n0 L) ∧ (h = h0)

theorem own_len3_1 (l : Launch) (Z : State) (a0 : Array Value) (hw : oT a0 Z) (ws : List Jvm.Cond) (a : Addr) (b : Addr) (k : ClassId) (vl : List Value) (cs : Int32) (h0 : Heap) (n0 : Nat) (Z0 : n0 ≤ h0.size) (E_a : Exa Z h0 a "java/lang/String") (F_a_value : Fld Z h0 a "java/lang/String" "value" "[B" (.ref b)) (F_a_coder : Fld Z h0 a "java/lang/String" "coder" "B" (.int 1)) (V_b : Arv Z h0 b k .byte (6 : Int32) vl (.int 0)) (Old0 : Old Z n0 h0) (sC : Sta Z Z.heap "java/lang/String" "COMPACT_STRINGS" "Z" (.int cs)) (hcs : ¬ (cs = (0 : Int32))) :
    oMet l oM5 jdk_42_method_54_code 1 (some .int) ws ⟨1, 0, 0, 13⟩ #[(.ref a)] Z h0 (own_Q_own_len3_1 Z a b k vl cs h0 n0) := by
  refine oB n0 "java/lang/String" rfl (plainFor_of_name own_pn853443214) (fun m => own_ef_own_len3_1 m a) ?_
  intro p e s m below meth c s₁ hZ hx hby hlk hret hml hown hnm X0 e0 N0
  show own_Gl _ _ _ _ _ _ _ (s₁.setTop (mkF m 0 #[.val (.ref a)] []))
  refine own_st (fun _ k => XS.aloadN X0.here hx rfl (hb hby own_d6_0) rfl rfl k) ?_
  obtain ⟨T1, X1, e1, st1⟩ := getF X0 hx hZ hown (host := "") (Or.inl (oW hw 24 rfl)) Via.refl e0 F_a_value (g := (mkF m 1 #[.val (.ref a)] [(.ref a)])) rfl rfl (hb hby own_d6_1)
  refine own_st st1 ?_
  obtain ⟨cl2, Ar2, qq2, Ss2, Nn2, Hh2, Gg2⟩ := id V_b
  refine own_st (X1.arraylength hx (by rw [e1]; exact Ar2.1) (State.isArrayOf_alike hZ.alike Ar2.2.1) (g := (mkF m 4 #[.val (.ref a)] [(.ref b)])) rfl rfl (hb hby own_d6_4)) ?_
  rw [len_of Ss2 Nn2]
  refine own_st (fun _ k => XS.aloadN X1.here hx rfl (hb hby own_d6_5) rfl rfl k) ?_
  show own_Gl _ _ _ _ _ _ _ (T1.setTop (mkF m 6 #[.val (.ref a)] [(.ref a), (.int 6)]))
  obtain ⟨cq3, kq3, q3a, q3b, q3c⟩ := isOf hZ e1 E_a
  obtain ⟨_, _, ⟨T3, L3, k3, n3⟩, -, X3, ⟨Lc3, hQ3, l3, y3, z3⟩, st3⟩ := X1.virtualBack hx (y := oM3) (z := oM3) hown (mvT hZ (oW hw 39 rfl)) (mvT hZ (oW hw 40 rfl)) (notFace_of_selects (args := #[]) (mvT hZ (oW hw 42 rfl))) (mvT hZ (oW hw 42 rfl)) (mvT hZ (oW hw 41 rfl)) (by decide) (backOf (W := 1) (own_cod1 l Z a0 hw [] a cs h0 n0 Z0 F_a_coder Old0 sC hcs) hZ (oW hw 43 rfl) (oW hw 7 rfl) (by decide) (by decide)) q3a q3c (g := (mkF m 6 #[.val (.ref a)] [(.ref a), (.int 6)])) rfl (by rw [hml]; rfl) (Steps.refl _) (argsL := []) (rest := [(.int 6)]) (lenOf own_pd691877 rfl) rfl (by show 2 * 0 + _ ≤ _; exact Nat.le_of_eq rfl) (hb hby own_d6_6) (fun _ _ => ⟨rfl, e1, (by decide : 0 + 0 ≤ 0), (by decide : 0 + 0 ≤ 0)⟩)
  dsimp only [Pt.U, Pt.locs, Pt.cells, Pt.slots] at X3 l3 y3 z3 st3 hQ3
  subst l3 y3 z3
  obtain ⟨hh3, eh03⟩ : ∃ z, T3.heap = z := ⟨_, rfl⟩
  rw [eh03] at hQ3
  obtain ⟨rfl, Nq3, eh3⟩ := hQ3
  have N3 := Fr.app N0 Nq3
  refine own_tr st3 ?_
  have e3 : T3.heap = h0 := eh03.trans eh3
  refine own_st (fun _ k => XS.ishr X3.here hx rfl (hb hby own_d6_9) rfl k) ?_
  show own_Gl _ _ _ _ _ _ _ (T3.setTop (mkF m 10 #[.val (.ref a)] [(.int ((6 : Int32) >>> ((1 : Int32) &&& 31)))]))
  exact own_retI X3 hx hlk hret (hb hby own_d6_10) e3 ⟨rfl, N3, rfl⟩ (by decide) (by decide)
theorem own_d16_0 : decode jdk_41_method_11_code 0 = .ok (.iload_n 0, 1) := by decide +kernel
theorem own_d16_1 : decode jdk_41_method_11_code 1 = .ok (.ifCond .lt 8, 3) := by decide +kernel
theorem own_d16_4 : decode jdk_41_method_11_code 4 = .ok (.iload_n 0, 1) := by decide +kernel
theorem own_d16_5 : decode jdk_41_method_11_code 5 = .ok (.iload_n 1, 1) := by decide +kernel
theorem own_d16_6 : decode jdk_41_method_11_code 6 = .ok (.if_icmp .lt 10, 3) := by decide +kernel
theorem own_d16_16 : decode jdk_41_method_11_code 16 = .ok (.iload_n 0, 1) := by decide +kernel
theorem own_d16_17 : decode jdk_41_method_11_code 17 = .ok (.ireturn, 1) := by decide +kernel
theorem own_ef_own_pci_null (m : MethodId) (x0 : Int32) (x1 : Int32) : entryFrame m #[(.int x0), (.int x1), .null] 3 = mkF m 0 #[.val (.int x0), .val (.int x1), .val .null] [] := by first | (simp [entryFrame, mkF, argsToLocals, Value.category]; done) | rfl
def own_Q_own_pci_null (Z : State) (ix : Int32) (nx : Int32) (h0 : Heap) (n0 : Nat) (v : Option Value) (h : Heap) (L : List Loc) : Prop := (v = some (.int ix)) ∧ (Fr n0 L) ∧ (h = h0)
theorem own_pn913636737 : plainName "jdk/internal/util/Preconditions" = true := by first | (simp [plainName, overriddenIn]; done) | decide +kernel

theorem own_pci_null (l : Launch) (Z : State) (a0 : Array Value) (hw : oT a0 Z) (ws : List Jvm.Cond) (ix : Int32) (nx : Int32) (h0 : Heap) (n0 : Nat) (Z0 : n0 ≤ h0.size) (hia : ¬ (ix < (0 : Int32))) (hib : ix < nx) :
    oMet l oM6 jdk_41_method_11_code 3 (some .int) ws ⟨0, 0, 0, 0⟩ #[(.int ix), (.int nx), .null] Z h0 (own_Q_own_pci_null Z ix nx h0 n0) := by
  refine oB n0 "jdk/internal/util/Preconditions" rfl (plainFor_of_name own_pn913636737) (fun m => own_ef_own_pci_null m ix nx) ?_
  intro p e s m below meth c s₁ hZ hx hby hlk hret hml hown hnm X0 e0 N0
  show own_Gl _ _ _ _ _ _ _ (s₁.setTop (mkF m 0 #[.val (.int ix), .val (.int nx), .val .null] []))
  refine own_st (fun _ k => XS.iloadN X0.here hx rfl (hb hby own_d16_0) rfl k) ?_
  have hd1 : ¬ (ix < (0 : Int32)) := hia
  refine own_st (fun _ k => XS.ifNo X0.here hx rfl (hb hby own_d16_1) rfl ((if0 _ _).trans (flt hd1).1) k) ?_
  refine own_st (fun _ k => XS.iloadN X0.here hx rfl (hb hby own_d16_4) rfl k) ?_
  refine own_st (fun _ k => XS.iloadN X0.here hx rfl (hb hby own_d16_5) rfl k) ?_
  show own_Gl _ _ _ _ _ _ _ (s₁.setTop (mkF m 6 #[.val (.int ix), .val (.int nx), .val .null] [(.int nx), (.int ix)]))
  have hd2 : ix < nx := hib
  refine own_st (fun _ k => XS.icmpYes X0.here hx rfl (pc0 := 6) (pc' := 16) rfl (hb hby own_d16_6) rfl (tlt hd2).1 (by decide) (by decide) k) ?_
  refine own_st (fun _ k => XS.iloadN X0.here hx rfl (hb hby own_d16_16) rfl k) ?_
  show own_Gl _ _ _ _ _ _ _ (s₁.setTop (mkF m 17 #[.val (.int ix), .val (.int nx), .val .null] [(.int ix)]))
  exact own_retI X0 hx hlk hret (hb hby own_d16_17) e0 ⟨rfl, N0, rfl⟩ (by decide) (by decide)
theorem own_ef_own_pci_ref (m : MethodId) (x0 : Int32) (x1 : Int32) (x2 : Addr) : entryFrame m #[(.int x0), (.int x1), (.ref x2)] 3 = mkF m 0 #[.val (.int x0), .val (.int x1), .val (.ref x2)] [] := by first | (simp [entryFrame, mkF, argsToLocals, Value.category]; done) | rfl
def own_Q_own_pci_ref (Z : State) (ix : Int32) (nx : Int32) (sr : Addr) (h0 : Heap) (n0 : Nat) (v : Option Value) (h : Heap) (L : List Loc) : Prop := (v = some (.int ix)) ∧ (Fr n0 L) ∧ (h = h0)

theorem own_pci_ref (l : Launch) (Z : State) (a0 : Array Value) (hw : oT a0 Z) (ws : List Jvm.Cond) (ix : Int32) (nx : Int32) (sr : Addr) (h0 : Heap) (n0 : Nat) (Z0 : n0 ≤ h0.size) (hia : ¬ (ix < (0 : Int32))) (hib : ix < nx) :
    oMet l oM6 jdk_41_method_11_code 3 (some .int) ws ⟨0, 0, 0, 0⟩ #[(.int ix), (.int nx), (.ref sr)] Z h0 (own_Q_own_pci_ref Z ix nx sr h0 n0) := by
  refine oB n0 "jdk/internal/util/Preconditions" rfl (plainFor_of_name own_pn913636737) (fun m => own_ef_own_pci_ref m ix nx sr) ?_
  intro p e s m below meth c s₁ hZ hx hby hlk hret hml hown hnm X0 e0 N0
  show own_Gl _ _ _ _ _ _ _ (s₁.setTop (mkF m 0 #[.val (.int ix), .val (.int nx), .val (.ref sr)] []))
  refine own_st (fun _ k => XS.iloadN X0.here hx rfl (hb hby own_d16_0) rfl k) ?_
  have hd1 : ¬ (ix < (0 : Int32)) := hia
  refine own_st (fun _ k => XS.ifNo X0.here hx rfl (hb hby own_d16_1) rfl ((if0 _ _).trans (flt hd1).1) k) ?_
  refine own_st (fun _ k => XS.iloadN X0.here hx rfl (hb hby own_d16_4) rfl k) ?_
  refine own_st (fun _ k => XS.iloadN X0.here hx rfl (hb hby own_d16_5) rfl k) ?_
  show own_Gl _ _ _ _ _ _ _ (s₁.setTop (mkF m 6 #[.val (.int ix), .val (.int nx), .val (.ref sr)] [(.int nx), (.int ix)]))
  have hd2 : ix < nx := hib
  refine own_st (fun _ k => XS.icmpYes X0.here hx rfl (pc0 := 6) (pc' := 16) rfl (hb hby own_d16_6) rfl (tlt hd2).1 (by decide) (by decide) k) ?_
  refine own_st (fun _ k => XS.iloadN X0.here hx rfl (hb hby own_d16_16) rfl k) ?_
  show own_Gl _ _ _ _ _ _ _ (s₁.setTop (mkF m 17 #[.val (.int ix), .val (.int nx), .val (.ref sr)] [(.int ix)]))
  exact own_retI X0 hx hlk hret (hb hby own_d16_17) e0 ⟨rfl, N0, rfl⟩ (by decide) (by decide)
theorem own_d15_0 : decode jdk_42_method_155_code 0 = .ok (.iload_n 0, 1) := by decide +kernel
theorem own_d15_1 : decode jdk_42_method_155_code 1 = .ok (.iload_n 1, 1) := by decide +kernel
theorem own_d15_2 : decode jdk_42_method_155_code 2 = .ok (.getstatic 1053, 3) := by decide +kernel
theorem own_d15_5 : decode jdk_42_method_155_code 5 = .ok (.invokestatic 1059, 3) := by decide +kernel
theorem own_pd219207541 : parseMethodDescriptor "(IILjava/util/function/BiFunction;)I" = some ⟨[.int, .int, (.object "java/util/function/BiFunction")], some .int⟩ := by decide +kernel
theorem own_d15_8 : decode jdk_42_method_155_code 8 = .ok (.pop, 1) := by decide +kernel
theorem own_d15_9 : decode jdk_42_method_155_code 9 = .ok (.return_, 1) := by decide +kernel
theorem own_ef_own_sci (m : MethodId) (x0 : Int32) (x1 : Int32) : entryFrame m #[(.int x0), (.int x1)] 2 = mkF m 0 #[.val (.int x0), .val (.int x1)] [] := by first | (simp [entryFrame, mkF, argsToLocals, Value.category]; done) | rfl
def own_Q_own_sci (Z : State) (ix : Int32) (nx : Int32) (sf : Value) (h0 : Heap) (n0 : Nat) (v : Option Value) (h : Heap) (L : List Loc) : Prop := (v = none) ∧ (Fr n0 L) ∧ (h = h0)

theorem own_sci (l : Launch) (Z : State) (a0 : Array Value) (hw : oT a0 Z) (ws : List Jvm.Cond) (ix : Int32) (nx : Int32) (sf : Value) (h0 : Heap) (n0 : Nat) (Z0 : n0 ≤ h0.size) (Old0 : Old Z n0 h0) (sF : Sta Z Z.heap "jdk/internal/util/Preconditions" "SIOOBE_FORMATTER" "Ljava/util/function/BiFunction;" sf) (hsf : sf.isRef = true) (hia : ¬ (ix < (0 : Int32))) (hib : ix < nx) :
    oMet l oM7 jdk_42_method_155_code 2 none ws ⟨1, 0, 0, 14⟩ #[(.int ix), (.int nx)] Z h0 (own_Q_own_sci Z ix nx sf h0 n0) := by
  refine oB n0 "java/lang/String" rfl (plainFor_of_name own_pn853443214) (fun m => own_ef_own_sci m ix nx) ?_
  intro p e s m below meth c s₁ hZ hx hby hlk hret hml hown hnm X0 e0 N0
  show own_Gl _ _ _ _ _ _ _ (s₁.setTop (mkF m 0 #[.val (.int ix), .val (.int nx)] []))
  rcases ref_cases hsf with rfl | ⟨sr, rfl⟩
  · show own_Gl _ _ _ _ _ _ _ (s₁.setTop (mkF m 0 #[.val (.int ix), .val (.int nx)] []))
    refine own_st (fun _ k => XS.iloadN X0.here hx rfl (hb hby own_d15_0) rfl k) ?_
    refine own_st (fun _ k => XS.iloadN X0.here hx rfl (hb hby own_d15_1) rfl k) ?_
    obtain ⟨T1, X1, e1, st1⟩ := getS2 X0 hx hZ hown (host := "") (Or.inl (oW hw 78 rfl)) Via.refl e0 (sF.ext Old0.2) (g := (mkF m 2 #[.val (.int ix), .val (.int nx)] [(.int nx), (.int ix)])) rfl (hb hby own_d15_2)
    refine own_st st1 ?_
    obtain ⟨_, _, ⟨T2, L2, k2, n2⟩, -, X2, ⟨Lc2, hQ2, l2, y2, z2⟩, st2⟩ := Jvm.LawKit.callS X1 hx (y := oM6) hown (mvT hZ (oW hw 80 rfl)) (mvT hZ (oW hw 81 rfl)) (mvT hZ (oW hw 79 rfl)) (mvT hZ (oW hw 82 rfl)) (by decide) (backOf (W := 0) (own_pci_null l Z a0 hw [] ix nx h0 n0 Z0 hia hib) hZ (oW hw 82 rfl) (oW hw 79 rfl) (by decide) (by decide)) (g := (mkF m 5 #[.val (.int ix), .val (.int nx)] [.null, (.int nx), (.int ix)])) rfl (by rw [hml]; rfl) (argsL := [(.int ix), (.int nx), .null]) (rest := []) (lenOf own_pd219207541 rfl) rfl (by show 2 * 0 + _ ≤ _; exact Nat.le_of_eq rfl) (hb hby own_d15_5) (fun _ _ => ⟨rfl, e1, (by decide : 0 + 0 ≤ 0), (by decide : 0 + 0 ≤ 0)⟩)
    dsimp only [Pt.U, Pt.locs, Pt.cells, Pt.slots] at X2 l2 y2 z2 st2 hQ2
    subst l2 y2 z2
    obtain ⟨hh2, eh02⟩ : ∃ z, T2.heap = z := ⟨_, rfl⟩
    rw [eh02] at hQ2
    obtain ⟨rfl, Nq2, eh2⟩ := hQ2
    have N2 := Fr.app N0 Nq2
    refine own_st st2 ?_
    have e2 : T2.heap = h0 := eh02.trans eh2
    show own_Gl _ _ _ _ _ _ _ (T2.setTop (mkF m 8 #[.val (.int ix), .val (.int nx)] [(.int ix)]))
    refine own_st (fun _ k => XS.pop X2.here hx rfl (hb hby own_d15_8) rfl rfl k) ?_
    show own_Gl _ _ _ _ _ _ _ (T2.setTop (mkF m 9 #[.val (.int ix), .val (.int nx)] []))
    exact own_retV X2 hx hlk hret (hb hby own_d15_9) e2 ⟨rfl, N2, rfl⟩ (by decide) (by decide)
  · show own_Gl _ _ _ _ _ _ _ (s₁.setTop (mkF m 0 #[.val (.int ix), .val (.int nx)] []))
    refine own_st (fun _ k => XS.iloadN X0.here hx rfl (hb hby own_d15_0) rfl k) ?_
    refine own_st (fun _ k => XS.iloadN X0.here hx rfl (hb hby own_d15_1) rfl k) ?_
    obtain ⟨T3, X3, e3, st3⟩ := getS2 X0 hx hZ hown (host := "") (Or.inl (oW hw 78 rfl)) Via.refl e0 (sF.ext Old0.2) (g := (mkF m 2 #[.val (.int ix), .val (.int nx)] [(.int nx), (.int ix)])) rfl (hb hby own_d15_2)
    refine own_st st3 ?_
    obtain ⟨_, _, ⟨T4, L4, k4, n4⟩, -, X4, ⟨Lc4, hQ4, l4, y4, z4⟩, st4⟩ := Jvm.LawKit.callS X3 hx (y := oM6) hown (mvT hZ (oW hw 80 rfl)) (mvT hZ (oW hw 81 rfl)) (mvT hZ (oW hw 79 rfl)) (mvT hZ (oW hw 82 rfl)) (by decide) (backOf (W := 0) (own_pci_ref l Z a0 hw [] ix nx sr h0 n0 Z0 hia hib) hZ (oW hw 82 rfl) (oW hw 79 rfl) (by decide) (by decide)) (g := (mkF m 5 #[.val (.int ix), .val (.int nx)] [(.ref sr), (.int nx), (.int ix)])) rfl (by rw [hml]; rfl) (argsL := [(.int ix), (.int nx), (.ref sr)]) (rest := []) (lenOf own_pd219207541 rfl) rfl (by show 2 * 0 + _ ≤ _; exact Nat.le_of_eq rfl) (hb hby own_d15_5) (fun _ _ => ⟨rfl, e3, (by decide : 0 + 0 ≤ 0), (by decide : 0 + 0 ≤ 0)⟩)
    dsimp only [Pt.U, Pt.locs, Pt.cells, Pt.slots] at X4 l4 y4 z4 st4 hQ4
    subst l4 y4 z4
    obtain ⟨hh4, eh04⟩ : ∃ z, T4.heap = z := ⟨_, rfl⟩
    rw [eh04] at hQ4
    obtain ⟨rfl, Nq4, eh4⟩ := hQ4
    have N4 := Fr.app N0 Nq4
    refine own_st st4 ?_
    have e4 : T4.heap = h0 := eh04.trans eh4
    show own_Gl _ _ _ _ _ _ _ (T4.setTop (mkF m 8 #[.val (.int ix), .val (.int nx)] [(.int ix)]))
    refine own_st (fun _ k => XS.pop X4.here hx rfl (hb hby own_d15_8) rfl rfl k) ?_
    show own_Gl _ _ _ _ _ _ _ (T4.setTop (mkF m 9 #[.val (.int ix), .val (.int nx)] []))
    exact own_retV X4 hx hlk hret (hb hby own_d15_9) e4 ⟨rfl, N4, rfl⟩ (by decide) (by decide)
theorem own_d20_0 : decode jdk_52_method_3_code 0 = .ok (.iload_n 0, 1) := by decide +kernel
theorem own_d20_1 : decode jdk_52_method_3_code 1 = .ok (.ifCond .ge 11, 3) := by decide +kernel
theorem own_d20_12 : decode jdk_52_method_3_code 12 = .ok (.iload_n 0, 1) := by decide +kernel
theorem own_d20_13 : decode jdk_52_method_3_code 13 = .ok (.ldc 20, 2) := by decide +kernel
theorem own_d20_15 : decode jdk_52_method_3_code 15 = .ok (.if_icmp .lt 40, 3) := by decide +kernel
theorem own_d20_55 : decode jdk_52_method_3_code 55 = .ok (.iload_n 0, 1) := by decide +kernel
theorem own_d20_56 : decode jdk_52_method_3_code 56 = .ok (.iconst 1, 1) := by decide +kernel
theorem own_d20_57 : decode jdk_52_method_3_code 57 = .ok (.ishl, 1) := by decide +kernel
theorem own_d20_58 : decode jdk_52_method_3_code 58 = .ok (.ireturn, 1) := by decide +kernel
theorem own_ef_own_nbl1 (m : MethodId) (x0 : Int32) : entryFrame m #[(.int x0)] 1 = mkF m 0 #[.val (.int x0)] [] := by first | (simp [entryFrame, mkF, argsToLocals, Value.category]; done) | rfl
def own_Q_own_nbl1 (Z : State)  (h0 : Heap) (n0 : Nat) (v : Option Value) (h : Heap) (L : List Loc) : Prop := (v = some (.int 2)) ∧ (Fr n0 L) ∧ (h = h0)
theorem own_pn730740715 : plainName "java/lang/StringUTF16" = true := by first | (simp [plainName, overriddenIn]; done) | decide +kernel

theorem own_nbl1 (l : Launch) (Z : State) (a0 : Array Value) (hw : oT a0 Z) (ws : List Jvm.Cond)  (h0 : Heap) (n0 : Nat) (Z0 : n0 ≤ h0.size) :
    oMet l oM8 jdk_52_method_3_code 1 (some .int) ws ⟨0, 0, 0, 0⟩ #[(.int 1)] Z h0 (own_Q_own_nbl1 Z  h0 n0) := by
  refine oB n0 "java/lang/StringUTF16" rfl (plainFor_of_name own_pn730740715) (fun m => own_ef_own_nbl1 m (1 : Int32)) ?_
  intro p e s m below meth c s₁ hZ hx hby hlk hret hml hown hnm X0 e0 N0
  show own_Gl _ _ _ _ _ _ _ (s₁.setTop (mkF m 0 #[.val (.int 1)] []))
  refine own_st (fun _ k => XS.iloadN X0.here hx rfl (hb hby own_d20_0) rfl k) ?_
  have hd1 : ¬ ((1 : Int32) < (0 : Int32)) := (by decide)
  refine own_st (fun _ k => XS.ifYes X0.here hx rfl (pc0 := 1) (pc' := 12) rfl (hb hby own_d20_1) rfl ((if0 _ _).trans (flt hd1).2.1) (by decide) (by decide) k) ?_
  refine own_st (fun _ k => XS.iloadN X0.here hx rfl (hb hby own_d20_12) rfl k) ?_
  refine own_st (X0.ldcInt hx hown (mvT hZ (oW hw 95 rfl)) (g := (mkF m 13 #[.val (.int 1)] [(.int 1)])) rfl (hb hby own_d20_13)) ?_
  show own_Gl _ _ _ _ _ _ _ (s₁.setTop (mkF m 15 #[.val (.int 1)] [(.int 1073741823), (.int 1)]))
  have hd2 : (1 : Int32) < (1073741823 : Int32) := (by decide)
  refine own_st (fun _ k => XS.icmpYes X0.here hx rfl (pc0 := 15) (pc' := 55) rfl (hb hby own_d20_15) rfl (tlt hd2).1 (by decide) (by decide) k) ?_
  refine own_st (fun _ k => XS.iloadN X0.here hx rfl (hb hby own_d20_55) rfl k) ?_
  refine own_st (fun _ k => XS.iconst X0.here hx rfl (hb hby own_d20_56) k) ?_
  refine own_st (fun _ k => XS.ishl X0.here hx rfl (hb hby own_d20_57) rfl k) ?_
  show own_Gl _ _ _ _ _ _ _ (s₁.setTop (mkF m 58 #[.val (.int 1)] [(.int ((1 : Int32) <<< ((1 : Int32) &&& 31)))]))
  exact own_retI X0 hx hlk hret (hb hby own_d20_58) e0 ⟨rfl, N0, rfl⟩ (by decide) (by decide)
theorem own_d19_0 : decode jdk_52_method_2_code 0 = .ok (.iload_n 0, 1) := by decide +kernel
theorem own_d19_1 : decode jdk_52_method_2_code 1 = .ok (.invokestatic 11, 3) := by decide +kernel
theorem own_pd91181837 : parseMethodDescriptor "(I)I" = some ⟨[.int], some .int⟩ := by decide +kernel
theorem own_d19_4 : decode jdk_52_method_2_code 4 = .ok (.newarray .byte, 2) := by decide +kernel
theorem own_d19_6 : decode jdk_52_method_2_code 6 = .ok (.areturn, 1) := by decide +kernel
theorem own_ef_own_nbf1 (m : MethodId) (x0 : Int32) : entryFrame m #[(.int x0)] 1 = mkF m 0 #[.val (.int x0)] [] := by first | (simp [entryFrame, mkF, argsToLocals, Value.category]; done) | rfl
def own_Q_own_nbf1 (Z : State)  (h0 : Heap) (n0 : Nat) (v : Option Value) (h : Heap) (L : List Loc) : Prop := ∃ (r : Addr) (kr : ClassId), (v = some (.ref r)) ∧ (Fr n0 L) ∧ (Keep h0 h []) ∧ (n0 ≤ r) ∧ (h0.size ≤ r) ∧ (Arv Z h r kr .byte (2 : Int32) [(.int 0), (.int 0)] (.int 0))

theorem own_nbf1 (l : Launch) (Z : State) (a0 : Array Value) (hw : oT a0 Z) (ws : List Jvm.Cond)  (h0 : Heap) (n0 : Nat) (Z0 : n0 ≤ h0.size) :
    oMet l oM9 jdk_52_method_2_code 1 (some (.array .byte)) ws ⟨1, 1, 2, 12⟩ #[(.int 1)] Z h0 (own_Q_own_nbf1 Z  h0 n0) := by
  refine oB n0 "java/lang/StringUTF16" rfl (plainFor_of_name own_pn730740715) (fun m => own_ef_own_nbf1 m (1 : Int32)) ?_
  intro p e s m below meth c s₁ hZ hx hby hlk hret hml hown hnm X0 e0 N0
  show own_Gl _ _ _ _ _ _ _ (s₁.setTop (mkF m 0 #[.val (.int 1)] []))
  refine own_st (fun _ k => XS.iloadN X0.here hx rfl (hb hby own_d19_0) rfl k) ?_
  obtain ⟨_, _, ⟨T1, L1, k1, n1⟩, -, X1, ⟨Lc1, hQ1, l1, y1, z1⟩, st1⟩ := Jvm.LawKit.callS X0 hx (y := oM8) hown (mvT hZ (oW hw 92 rfl)) (mvT hZ (oW hw 93 rfl)) (mvT hZ (oW hw 47 rfl)) (mvT hZ (oW hw 94 rfl)) (by decide) (backOf (W := 0) (own_nbl1 l Z a0 hw []  h0 n0 Z0 ) hZ (oW hw 94 rfl) (oW hw 47 rfl) (by decide) (by decide)) (g := (mkF m 1 #[.val (.int 1)] [(.int 1)])) rfl (by rw [hml]; rfl) (argsL := [(.int 1)]) (rest := []) (lenOf own_pd91181837 rfl) rfl (by show 2 * 0 + _ ≤ _; exact Nat.le_of_eq rfl) (hb hby own_d19_1) (fun _ _ => ⟨rfl, e0, (by decide : 0 + 0 ≤ 1), (by decide : 0 + 0 ≤ 2)⟩)
  dsimp only [Pt.U, Pt.locs, Pt.cells, Pt.slots] at X1 l1 y1 z1 st1 hQ1
  subst l1 y1 z1
  obtain ⟨hh1, eh01⟩ : ∃ z, T1.heap = z := ⟨_, rfl⟩
  rw [eh01] at hQ1
  obtain ⟨rfl, Nq1, eh1⟩ := hQ1
  have N1 := Fr.app N0 Nq1
  refine own_st st1 ?_
  have e1 : T1.heap = h0 := eh01.trans eh1
  obtain ⟨T2, h2, k2, X2, e2, E2, A2, st2⟩ := newP X1 hx hZ (oW hw 19 rfl) e1 (g := (mkF m 4 #[.val (.int 1)] [(.int 2)])) rfl (hb hby own_d19_4) rfl (by decide) (cap := 2) (by decide) (by decide) (by decide) (by decide)
  obtain ⟨b2, gb2⟩ : ∃ z, z = h0.size := ⟨_, rfl⟩
  rw [← gb2] at A2 st2
  refine own_st st2 ?_
  have Zs3 : n0 ≤ h2.size := Nat.le_trans Z0 E2.1
  have g_b2 : n0 ≤ b2 := Nat.le_trans Z0 (Nat.le_of_eq gb2.symm)
  have gh_b2 : h0.size ≤ b2 := Nat.le_trans (Keep.refl h0 []).1 (Nat.le_of_eq gb2.symm)
  have V_b2 : Arv Z h2 b2 k2 .byte (2 : Int32) [(.int 0), (.int 0)] (.int 0) := (Arv.new A2 (by decide)).pad (pad_rep [] (.int 0) 2)
  show own_Gl _ _ _ _ _ _ _ (T2.setTop (mkF m 6 #[.val (.int 1)] [(.ref b2)]))
  have K5 : Keep h0 h2 [] := ((Keep.refl h0 []).ext E2)
  exact own_retA X2 hx hlk hret rfl rfl rfl (hb hby own_d19_6) e2 ⟨b2, k2, rfl, N1, K5, g_b2, gh_b2, V_b2⟩ (by decide) (by decide)
theorem own_d21_0 : decode jdk_52_method_4_code 0 = .ok (.getstatic 44, 3) := by decide +kernel
theorem own_d21_3 : decode jdk_52_method_4_code 3 = .ok (.ifCond .ne 25, 3) := by decide +kernel
theorem own_d21_28 : decode jdk_52_method_4_code 28 = .ok (.iload_n 1, 1) := by decide +kernel
theorem own_d21_29 : decode jdk_52_method_4_code 29 = .ok (.iconst 1, 1) := by decide +kernel
theorem own_d21_30 : decode jdk_52_method_4_code 30 = .ok (.ishl, 1) := by decide +kernel
theorem own_d21_31 : decode jdk_52_method_4_code 31 = .ok (.istore_n 1, 1) := by decide +kernel
theorem own_d21_32 : decode jdk_52_method_4_code 32 = .ok (.aload_n 0, 1) := by decide +kernel
theorem own_d21_33 : decode jdk_52_method_4_code 33 = .ok (.iload_n 1, 1) := by decide +kernel
theorem own_d21_34 : decode jdk_52_method_4_code 34 = .ok (.iinc 1 1, 3) := by decide +kernel
theorem own_d21_37 : decode jdk_52_method_4_code 37 = .ok (.iload_n 2, 1) := by decide +kernel
theorem own_d21_38 : decode jdk_52_method_4_code 38 = .ok (.getstatic 59, 3) := by decide +kernel
theorem own_d21_41 : decode jdk_52_method_4_code 41 = .ok (.ishr, 1) := by decide +kernel
theorem own_d21_42 : decode jdk_52_method_4_code 42 = .ok (.i2b, 1) := by decide +kernel
theorem own_d21_43 : decode jdk_52_method_4_code 43 = .ok (.bastore, 1) := by decide +kernel
theorem own_d21_44 : decode jdk_52_method_4_code 44 = .ok (.aload_n 0, 1) := by decide +kernel
theorem own_d21_45 : decode jdk_52_method_4_code 45 = .ok (.iload_n 1, 1) := by decide +kernel
theorem own_d21_46 : decode jdk_52_method_4_code 46 = .ok (.iload_n 2, 1) := by decide +kernel
theorem own_d21_47 : decode jdk_52_method_4_code 47 = .ok (.getstatic 63, 3) := by decide +kernel
theorem own_d21_50 : decode jdk_52_method_4_code 50 = .ok (.ishr, 1) := by decide +kernel
theorem own_d21_51 : decode jdk_52_method_4_code 51 = .ok (.i2b, 1) := by decide +kernel
theorem own_d21_52 : decode jdk_52_method_4_code 52 = .ok (.bastore, 1) := by decide +kernel
theorem own_d21_53 : decode jdk_52_method_4_code 53 = .ok (.return_, 1) := by decide +kernel
theorem own_ef_own_put1_0 (m : MethodId) (x0 : Addr) (x1 : Int32) (x2 : Int32) : entryFrame m #[(.ref x0), (.int x1), (.int x2)] 3 = mkF m 0 #[.val (.ref x0), .val (.int x1), .val (.int x2)] [] := by first | (simp [entryFrame, mkF, argsToLocals, Value.category]; done) | rfl
def own_Q_own_put1_0 (Z : State) (a : Addr) (k : ClassId) (pc : Int32) (x0 : Int32) (x1 : Int32) (h0 : Heap) (n0 : Nat) (v : Option Value) (h : Heap) (L : List Loc) : Prop := (v = none) ∧ (Fr n0 L) ∧ (Keep h0 h [a]) ∧ (Arv Z h a k .byte (2 : Int32) [(.int (nar .byte ((pc >>> ((0 : Int32) &&& 31)).toInt8.toInt32))), (.int (nar .byte ((pc >>> ((8 : Int32) &&& 31)).toInt8.toInt32)))] (.int 0))

theorem own_put1_0 (l : Launch) (Z : State) (a0 : Array Value) (hw : oT a0 Z) (ws : List Jvm.Cond) (a : Addr) (k : ClassId) (pc : Int32) (x0 : Int32) (x1 : Int32) (h0 : Heap) (n0 : Nat) (Z0 : n0 ≤ h0.size) (Old0 : Old Z n0 h0) (sA : Sta Z Z.heap "java/lang/StringUTF16" "$assertionsDisabled" "Z" (.int 1)) (sH : Sta Z Z.heap "java/lang/StringUTF16" "HI_BYTE_SHIFT" "I" (.int 0)) (sL : Sta Z Z.heap "java/lang/StringUTF16" "LO_BYTE_SHIFT" "I" (.int 8)) (V_a : Arv Z h0 a k .byte (2 : Int32) [(.int x0), (.int x1)] (.int 0)) (g_a : n0 ≤ a) :
    oMet l oM10 jdk_52_method_4_code 3 none ws ⟨0, 0, 0, 0⟩ #[(.ref a), (.int 0), (.int pc)] Z h0 (own_Q_own_put1_0 Z a k pc x0 x1 h0 n0) := by
  refine oB n0 "java/lang/StringUTF16" rfl (plainFor_of_name own_pn730740715) (fun m => own_ef_own_put1_0 m a (0 : Int32) pc) ?_
  intro p e s m below meth c s₁ hZ hx hby hlk hret hml hown hnm X0 e0 N0
  show own_Gl _ _ _ _ _ _ _ (s₁.setTop (mkF m 0 #[.val (.ref a), .val (.int 0), .val (.int pc)] []))
  obtain ⟨T1, X1, e1, st1⟩ := getS2 X0 hx hZ hown (host := "") (Or.inl (oW hw 99 rfl)) Via.refl e0 (sA.ext Old0.2) (g := (mkF m 0 #[.val (.ref a), .val (.int 0), .val (.int pc)] [])) rfl (hb hby own_d21_0)
  refine own_st st1 ?_
  have hd2 : ¬ ((1 : Int32) = (0 : Int32)) := (by decide)
  refine own_st (fun _ k => XS.ifYes X1.here hx rfl (pc0 := 3) (pc' := 28) rfl (hb hby own_d21_3) rfl ((if0 _ _).trans (feq hd2).2) (by decide) (by decide) k) ?_
  refine own_st (fun _ k => XS.iloadN X1.here hx rfl (hb hby own_d21_28) rfl k) ?_
  refine own_st (fun _ k => XS.iconst X1.here hx rfl (hb hby own_d21_29) k) ?_
  show own_Gl _ _ _ _ _ _ _ (T1.setTop (mkF m 30 #[.val (.ref a), .val (.int 0), .val (.int pc)] [(.int 1), (.int 0)]))
  refine own_st (fun _ k => XS.ishl X1.here hx rfl (hb hby own_d21_30) rfl k) ?_
  refine own_st (fun _ k => XS.istoreN X1.here hx rfl (hb hby own_d21_31) rfl (l' := #[.val (.ref a), .val (.int ((0 : Int32) <<< ((1 : Int32) &&& 31))), .val (.int pc)]) rfl k) ?_
  show own_Gl _ _ _ _ _ _ _ (T1.setTop (mkF m 32 #[.val (.ref a), .val (.int 0), .val (.int pc)] []))
  refine own_st (fun _ k => XS.aloadN X1.here hx rfl (hb hby own_d21_32) rfl rfl k) ?_
  refine own_st (fun _ k => XS.iloadN X1.here hx rfl (hb hby own_d21_33) rfl k) ?_
  refine own_st (fun _ k => XS.iinc X1.here hx rfl (hb hby own_d21_34) rfl (l' := #[.val (.ref a), .val (.int 1), .val (.int pc)]) rfl k) ?_
  refine own_st (fun _ k => XS.iloadN X1.here hx rfl (hb hby own_d21_37) rfl k) ?_
  show own_Gl _ _ _ _ _ _ _ (T1.setTop (mkF m 38 #[.val (.ref a), .val (.int 1), .val (.int pc)] [(.int pc), (.int 0), (.ref a)]))
  obtain ⟨T3, X3, e3, st3⟩ := getS2 X1 hx hZ hown (host := "") (Or.inl (oW hw 100 rfl)) Via.refl e1 (sH.ext Old0.2) (g := (mkF m 38 #[.val (.ref a), .val (.int 1), .val (.int pc)] [(.int pc), (.int 0), (.ref a)])) rfl (hb hby own_d21_38)
  refine own_st st3 ?_
  refine own_st (fun _ k => XS.ishr X3.here hx rfl (hb hby own_d21_41) rfl k) ?_
  refine own_st (fun _ k => XS.i2b X3.here hx rfl (hb hby own_d21_42) rfl k) ?_
  obtain ⟨cl4, Ar4, qq4, Ss4, Nn4, Hh4, Gg4⟩ := id V_a
  have hin4 : ¬ ((0 : Int32) < 0 ∨ cl4.slots.size ≤ ((0 : Int32)).toNatClampNeg) := inb_of Ss4 ⟨by decide, by decide⟩
  obtain ⟨T4, h4, X4, e4, W4, st4⟩ := stB X3 hx hZ e3 Ar4 (j := (0 : Int32)) hin4 (g := (mkF m 43 #[.val (.ref a), .val (.int 1), .val (.int pc)] [(.int ((pc >>> ((0 : Int32) &&& 31)).toInt8.toInt32)), (.int 0), (.ref a)])) rfl rfl (hb hby own_d21_43)
  have N4 := Fr.snoc X4 N0 g_a
  refine own_st st4 ?_
  have Zs5 : n0 ≤ h4.size := Nat.le_trans Z0 (Keep.of_wr W4).1
  have Vw4 : Arv Z h4 a k .byte (2 : Int32) [(.int (nar .byte ((pc >>> ((0 : Int32) &&& 31)).toInt8.toInt32))), (.int x1)] (.int 0) := Arv.set Ar4 qq4 Ss4 Nn4 Hh4 Gg4 (fits_nar_byte _) W4 0 (rfl) (Nat.le_of_ble_eq_true rfl)
  show own_Gl _ _ _ _ _ _ _ (T4.setTop (mkF m 44 #[.val (.ref a), .val (.int 1), .val (.int pc)] []))
  refine own_st (fun _ k => XS.aloadN X4.here hx rfl (hb hby own_d21_44) rfl rfl k) ?_
  refine own_st (fun _ k => XS.iloadN X4.here hx rfl (hb hby own_d21_45) rfl k) ?_
  refine own_st (fun _ k => XS.iloadN X4.here hx rfl (hb hby own_d21_46) rfl k) ?_
  have f7 := (Old0.wr W4 g_a)
  obtain ⟨T6, X6, e6, st6⟩ := getS2 X4 hx hZ hown (host := "") (Or.inl (oW hw 101 rfl)) Via.refl e4 (sL.ext f7.2) (g := (mkF m 47 #[.val (.ref a), .val (.int 1), .val (.int pc)] [(.int pc), (.int 1), (.ref a)])) rfl (hb hby own_d21_47)
  refine own_st st6 ?_
  show own_Gl _ _ _ _ _ _ _ (T6.setTop (mkF m 50 #[.val (.ref a), .val (.int 1), .val (.int pc)] [(.int 8), (.int pc), (.int 1), (.ref a)]))
  refine own_st (fun _ k => XS.ishr X6.here hx rfl (hb hby own_d21_50) rfl k) ?_
  refine own_st (fun _ k => XS.i2b X6.here hx rfl (hb hby own_d21_51) rfl k) ?_
  obtain ⟨cl8, Ar8, qq8, Ss8, Nn8, Hh8, Gg8⟩ := id Vw4
  have hin8 : ¬ ((1 : Int32) < 0 ∨ cl8.slots.size ≤ ((1 : Int32)).toNatClampNeg) := inb_of Ss8 ⟨by decide, by decide⟩
  obtain ⟨T8, h8, X8, e8, W8, st8⟩ := stB X6 hx hZ e6 Ar8 (j := (1 : Int32)) hin8 (g := (mkF m 52 #[.val (.ref a), .val (.int 1), .val (.int pc)] [(.int ((pc >>> ((8 : Int32) &&& 31)).toInt8.toInt32)), (.int 1), (.ref a)])) rfl rfl (hb hby own_d21_52)
  have N8 := Fr.snoc X8 N4 g_a
  refine own_st st8 ?_
  have Zs9 : n0 ≤ h8.size := Nat.le_trans Zs5 (Keep.of_wr W8).1
  have Vw8 : Arv Z h8 a k .byte (2 : Int32) [(.int (nar .byte ((pc >>> ((0 : Int32) &&& 31)).toInt8.toInt32))), (.int (nar .byte ((pc >>> ((8 : Int32) &&& 31)).toInt8.toInt32)))] (.int 0) := Arv.set Ar8 qq8 Ss8 Nn8 Hh8 Gg8 (fits_nar_byte _) W8 1 (rfl) (Nat.le_of_ble_eq_true rfl)
  show own_Gl _ _ _ _ _ _ _ (T8.setTop (mkF m 53 #[.val (.ref a), .val (.int 1), .val (.int pc)] []))
  have K10 : Keep h0 h8 [a] := (((Keep.refl h0 [a]).wr W4 (Or.inl (List.mem_of_getElem? (i := 0) rfl))).wr W8 (Or.inl (List.mem_of_getElem? (i := 0) rfl)))
  exact own_retV X8 hx hlk hret (hb hby own_d21_53) e8 ⟨rfl, N8, K10, Vw8⟩ (by decide) (by decide)
theorem own_d18_0 : decode jdk_52_method_14_code 0 = .ok (.iload_n 2, 1) := by decide +kernel
theorem own_d18_1 : decode jdk_52_method_14_code 1 = .ok (.invokestatic 107, 3) := by decide +kernel
theorem own_pd944823071 : parseMethodDescriptor "(I)[B" = some ⟨[.int], some (.array .byte)⟩ := by decide +kernel
theorem own_d18_4 : decode jdk_52_method_14_code 4 = .ok (.astore_n 3, 1) := by decide +kernel
theorem own_d18_5 : decode jdk_52_method_14_code 5 = .ok (.iconst 0, 1) := by decide +kernel
theorem own_d18_6 : decode jdk_52_method_14_code 6 = .ok (.istore 4, 2) := by decide +kernel
theorem own_d18_8 : decode jdk_52_method_14_code 8 = .ok (.iload 4, 2) := by decide +kernel
theorem own_d18_10 : decode jdk_52_method_14_code 10 = .ok (.iload_n 2, 1) := by decide +kernel
theorem own_d18_11 : decode jdk_52_method_14_code 11 = .ok (.if_icmp .ge 21, 3) := by decide +kernel
theorem own_d18_14 : decode jdk_52_method_14_code 14 = .ok (.aload_n 3, 1) := by decide +kernel
theorem own_d18_15 : decode jdk_52_method_14_code 15 = .ok (.iload 4, 2) := by decide +kernel
theorem own_d18_17 : decode jdk_52_method_14_code 17 = .ok (.aload_n 0, 1) := by decide +kernel
theorem own_d18_18 : decode jdk_52_method_14_code 18 = .ok (.iload_n 1, 1) := by decide +kernel
theorem own_d18_19 : decode jdk_52_method_14_code 19 = .ok (.caload, 1) := by decide +kernel
theorem own_d18_20 : decode jdk_52_method_14_code 20 = .ok (.invokestatic 111, 3) := by decide +kernel
theorem own_pd861693120 : parseMethodDescriptor "([BII)V" = some ⟨[(.array .byte), .int, .int], none⟩ := by decide +kernel
theorem own_d18_23 : decode jdk_52_method_14_code 23 = .ok (.iinc 1 1, 3) := by decide +kernel
theorem own_d18_26 : decode jdk_52_method_14_code 26 = .ok (.iinc 4 1, 3) := by decide +kernel
theorem own_d18_29 : decode jdk_52_method_14_code 29 = .ok (.goto (-21), 3) := by decide +kernel
theorem own_d18_32 : decode jdk_52_method_14_code 32 = .ok (.aload_n 3, 1) := by decide +kernel
theorem own_d18_33 : decode jdk_52_method_14_code 33 = .ok (.areturn, 1) := by decide +kernel
theorem own_ef_own_tb1 (m : MethodId) (x0 : Addr) (x1 : Int32) (x2 : Int32) : entryFrame m #[(.ref x0), (.int x1), (.int x2)] 5 = mkF m 0 #[.val (.ref x0), .val (.int x1), .val (.int x2), .unset, .unset] [] := by first | (simp [entryFrame, mkF, argsToLocals, Value.category]; done) | rfl
def own_Q_own_tb1 (Z : State) (a : Addr) (k : ClassId) (v0 : Int32) (h0 : Heap) (n0 : Nat) (v : Option Value) (h : Heap) (L : List Loc) : Prop := ∃ (r : Addr) (kr : ClassId), (v = some (.ref r)) ∧ (Fr n0 L) ∧ (Keep h0 h []) ∧ (n0 ≤ r) ∧ (h0.size ≤ r) ∧ (Arv Z h r kr .byte (2 : Int32) [(.int (nar .byte ((v0 >>> ((0 : Int32) &&& 31)).toInt8.toInt32))), (.int (nar .byte ((v0 >>> ((8 : Int32) &&& 31)).toInt8.toInt32)))] (.int 0))

theorem own_tb1 (l : Launch) (Z : State) (a0 : Array Value) (hw : oT a0 Z) (ws : List Jvm.Cond) (a : Addr) (k : ClassId) (v0 : Int32) (h0 : Heap) (n0 : Nat) (Z0 : n0 ≤ h0.size) (V_a : Arv Z h0 a k .char (1 : Int32) [(.int v0)] (.int 0)) (Old0 : Old Z n0 h0) (sA : Sta Z Z.heap "java/lang/StringUTF16" "$assertionsDisabled" "Z" (.int 1)) (sH : Sta Z Z.heap "java/lang/StringUTF16" "HI_BYTE_SHIFT" "I" (.int 0)) (sL : Sta Z Z.heap "java/lang/StringUTF16" "LO_BYTE_SHIFT" "I" (.int 8)) :
    oMet l oM11 jdk_52_method_14_code 5 (some (.array .byte)) ws ⟨2, 1, 2, 24⟩ #[(.ref a), (.int 0), (.int 1)] Z h0 (own_Q_own_tb1 Z a k v0 h0 n0) := by
  refine oB n0 "java/lang/StringUTF16" rfl (plainFor_of_name own_pn730740715) (fun m => own_ef_own_tb1 m a (0 : Int32) (1 : Int32)) ?_
  intro p e s m below meth c s₁ hZ hx hby hlk hret hml hown hnm X0 e0 N0
  show own_Gl _ _ _ _ _ _ _ (s₁.setTop (mkF m 0 #[.val (.ref a), .val (.int 0), .val (.int 1), .unset, .unset] []))
  refine own_st (fun _ k => XS.iloadN X0.here hx rfl (hb hby own_d18_0) rfl k) ?_
  obtain ⟨_, _, ⟨T1, L1, k1, n1⟩, -, X1, ⟨Lc1, hQ1, l1, y1, z1⟩, st1⟩ := Jvm.LawKit.callS X0 hx (y := oM9) hown (mvT hZ (oW hw 89 rfl)) (mvT hZ (oW hw 90 rfl)) (mvT hZ (oW hw 47 rfl)) (mvT hZ (oW hw 91 rfl)) (by decide) (backOf (W := 0) (own_nbf1 l Z a0 hw []  h0 n0 Z0 ) hZ (oW hw 91 rfl) (oW hw 47 rfl) (by decide) (by decide)) (g := (mkF m 1 #[.val (.ref a), .val (.int 0), .val (.int 1), .unset, .unset] [(.int 1)])) rfl (by rw [hml]; rfl) (argsL := [(.int 1)]) (rest := []) (lenOf own_pd944823071 rfl) rfl (by show 2 * 0 + _ ≤ _; exact Nat.le_of_eq rfl) (hb hby own_d18_1) (fun _ _ => ⟨rfl, e0, (by decide : 0 + 1 ≤ 1), (by decide : 0 + 2 ≤ 2)⟩)
  dsimp only [Pt.U, Pt.locs, Pt.cells, Pt.slots] at X1 l1 y1 z1 st1 hQ1
  subst l1 y1 z1
  obtain ⟨hh1, eh01⟩ : ∃ z, T1.heap = z := ⟨_, rfl⟩
  rw [eh01] at hQ1
  obtain ⟨r_1, kr_1, rfl, Nq1, Kq1, P1_0, P1_1, P1_2⟩ := hQ1
  have N1 := Fr.app N0 Nq1
  refine own_st st1 ?_
  have Zs2 : n0 ≤ hh1.size := Nat.le_trans Z0 Kq1.1
  have gh_r_1 : h0.size ≤ r_1 := Nat.le_trans (Keep.refl h0 []).1 P1_1
  have ne_a_r_1 : a ≠ r_1 := Nat.ne_of_lt (Nat.lt_of_lt_of_le V_a.lt P1_1)
  refine own_st (fun _ k => XS.astoreN X1.here hx rfl (hb hby own_d18_4) rfl rfl (l' := #[.val (.ref a), .val (.int 0), .val (.int 1), .val (.ref r_1), .unset]) rfl k) ?_
  refine own_st (fun _ k => XS.iconst X1.here hx rfl (hb hby own_d18_5) k) ?_
  show own_Gl _ _ _ _ _ _ _ (T1.setTop (mkF m 6 #[.val (.ref a), .val (.int 0), .val (.int 1), .val (.ref r_1), .unset] [(.int 0)]))
  refine own_st (fun _ k => XS.istore X1.here hx rfl (hb hby own_d18_6) rfl (l' := #[.val (.ref a), .val (.int 0), .val (.int 1), .val (.ref r_1), .val (.int 0)]) rfl k) ?_
  refine own_st (fun _ k => XS.iload X1.here hx rfl (hb hby own_d18_8) rfl k) ?_
  refine own_st (fun _ k => XS.iloadN X1.here hx rfl (hb hby own_d18_10) rfl k) ?_
  have hd3 : (0 : Int32) < (1 : Int32) := (by decide)
  refine own_st (fun _ k => XS.icmpNo X1.here hx rfl (hb hby own_d18_11) rfl (tlt hd3).2.1 k) ?_
  show own_Gl _ _ _ _ _ _ _ (T1.setTop (mkF m 14 #[.val (.ref a), .val (.int 0), .val (.int 1), .val (.ref r_1), .val (.int 0)] []))
  refine own_st (fun _ k => XS.aloadN X1.here hx rfl (hb hby own_d18_14) rfl rfl k) ?_
  refine own_st (fun _ k => XS.iload X1.here hx rfl (hb hby own_d18_15) rfl k) ?_
  refine own_st (fun _ k => XS.aloadN X1.here hx rfl (hb hby own_d18_17) rfl rfl k) ?_
  refine own_st (fun _ k => XS.iloadN X1.here hx rfl (hb hby own_d18_18) rfl k) ?_
  show own_Gl _ _ _ _ _ _ _ (T1.setTop (mkF m 19 #[.val (.ref a), .val (.int 0), .val (.int 1), .val (.ref r_1), .val (.int 0)] [(.int 0), (.ref a), (.int 0), (.ref r_1)]))
  have f4 := (V_a.keep Kq1 nin0)
  obtain ⟨cl5, Ar5, qq5, Ss5, Nn5, Hh5, Gg5⟩ := id f4
  have hin5 : ¬ ((0 : Int32) < 0 ∨ cl5.slots.size ≤ ((0 : Int32)).toNatClampNeg) := inb_of Ss5 ⟨by decide, by decide⟩
  have hat5 : cl5.slots[((0 : Int32)).toNatClampNeg]? = some (.int v0) := Hh5.at hin5 (rfl)
  refine own_st (X1.caload hx (j := (0 : Int32)) (v := (.int v0)) (by rw [eh01]; exact Ar5.1) (State.isArrayOf_alike hZ.alike Ar5.2.1) Ar5.2.2 hin5 hat5 (g := (mkF m 19 #[.val (.ref a), .val (.int 0), .val (.int 1), .val (.ref r_1), .val (.int 0)] [(.int 0), (.ref a), (.int 0), (.ref r_1)])) rfl rfl (hb hby own_d18_19)) ?_
  have f7 := (Old0.keep Kq1 all0)
  obtain ⟨_, _, ⟨T6, L6, k6, n6⟩, -, X6, ⟨Lc6, hQ6, l6, y6, z6⟩, st6⟩ := Jvm.LawKit.callS X1 hx (y := oM10) hown (mvT hZ (oW hw 96 rfl)) (mvT hZ (oW hw 97 rfl)) (mvT hZ (oW hw 47 rfl)) (mvT hZ (oW hw 98 rfl)) (by decide) (backOf (W := 0) (own_put1_0 l Z a0 hw [] r_1 kr_1 v0 (0 : Int32) (0 : Int32) hh1 n0 Zs2 f7 sA sH sL P1_2 P1_0) hZ (oW hw 98 rfl) (oW hw 47 rfl) (by decide) (by decide)) (g := (mkF m 20 #[.val (.ref a), .val (.int 0), .val (.int 1), .val (.ref r_1), .val (.int 0)] [(.int v0), (.int 0), (.ref r_1)])) rfl (by rw [hml]; rfl) (argsL := [(.ref r_1), (.int 0), (.int v0)]) (rest := []) (lenOf own_pd861693120 rfl) rfl (by show 2 * 0 + _ ≤ _; exact Nat.le_of_eq rfl) (hb hby own_d18_20) (fun _ _ => ⟨rfl, eh01, (by decide : 1 + 0 ≤ 1), (by decide : 2 + 0 ≤ 2)⟩)
  dsimp only [Pt.U, Pt.locs, Pt.cells, Pt.slots] at X6 l6 y6 z6 st6 hQ6
  subst l6 y6 z6
  obtain ⟨hh6, eh06⟩ : ∃ z, T6.heap = z := ⟨_, rfl⟩
  rw [eh06] at hQ6
  obtain ⟨rfl, Nq6, Kq6, P6_0⟩ := hQ6
  have N6 := Fr.app N1 Nq6
  refine own_st st6 ?_
  have Zs8 : n0 ≤ hh6.size := Nat.le_trans Zs2 Kq6.1
  refine own_st (fun _ k => XS.iinc X6.here hx rfl (hb hby own_d18_23) rfl (l' := #[.val (.ref a), .val (.int 1), .val (.int 1), .val (.ref r_1), .val (.int 0)]) rfl k) ?_
  refine own_st (fun _ k => XS.iinc X6.here hx rfl (hb hby own_d18_26) rfl (l' := #[.val (.ref a), .val (.int 1), .val (.int 1), .val (.ref r_1), .val (.int 1)]) rfl k) ?_
  show own_Gl _ _ _ _ _ _ _ (T6.setTop (mkF m 29 #[.val (.ref a), .val (.int 1), .val (.int 1), .val (.ref r_1), .val (.int 1)] []))
  refine own_st (fun _ k => XS.goto X6.here hx rfl (pc0 := 29) (pc' := 8) rfl (hb hby own_d18_29) (by decide) (by decide) k) ?_
  refine own_st (fun _ k => XS.iload X6.here hx rfl (hb hby own_d18_8) rfl k) ?_
  refine own_st (fun _ k => XS.iloadN X6.here hx rfl (hb hby own_d18_10) rfl k) ?_
  have hd9 : ¬ ((1 : Int32) < (1 : Int32)) := (by decide)
  refine own_st (fun _ k => XS.icmpYes X6.here hx rfl (pc0 := 11) (pc' := 32) rfl (hb hby own_d18_11) rfl (flt hd9).2.1 (by decide) (by decide) k) ?_
  show own_Gl _ _ _ _ _ _ _ (T6.setTop (mkF m 32 #[.val (.ref a), .val (.int 1), .val (.int 1), .val (.ref r_1), .val (.int 1)] []))
  refine own_st (fun _ k => XS.aloadN X6.here hx rfl (hb hby own_d18_32) rfl rfl k) ?_
  show own_Gl _ _ _ _ _ _ _ (T6.setTop (mkF m 33 #[.val (.ref a), .val (.int 1), .val (.int 1), .val (.ref r_1), .val (.int 1)] [(.ref r_1)]))
  have K10 : Keep h0 hh6 [] := (((Keep.refl h0 []).trans Kq1 all0).trans Kq6 (allS (Or.inr gh_r_1) all0))
  exact own_retA X6 hx hlk hret rfl rfl rfl (hb hby own_d18_33) eh06 ⟨r_1, kr_1, rfl, N6, K10, P1_0, gh_r_1, P6_0⟩ (by decide) (by decide)
theorem own_d22_0 : decode jdk_52_method_5_code 0 = .ok (.getstatic 44, 3) := by decide +kernel
theorem own_d22_3 : decode jdk_52_method_5_code 3 = .ok (.ifCond .ne 25, 3) := by decide +kernel
theorem own_d22_28 : decode jdk_52_method_5_code 28 = .ok (.iload_n 1, 1) := by decide +kernel
theorem own_d22_29 : decode jdk_52_method_5_code 29 = .ok (.iconst 1, 1) := by decide +kernel
theorem own_d22_30 : decode jdk_52_method_5_code 30 = .ok (.ishl, 1) := by decide +kernel
theorem own_d22_31 : decode jdk_52_method_5_code 31 = .ok (.istore_n 1, 1) := by decide +kernel
theorem own_d22_32 : decode jdk_52_method_5_code 32 = .ok (.aload_n 0, 1) := by decide +kernel
theorem own_d22_33 : decode jdk_52_method_5_code 33 = .ok (.iload_n 1, 1) := by decide +kernel
theorem own_d22_34 : decode jdk_52_method_5_code 34 = .ok (.iinc 1 1, 3) := by decide +kernel
theorem own_d22_37 : decode jdk_52_method_5_code 37 = .ok (.baload, 1) := by decide +kernel
theorem own_d22_38 : decode jdk_52_method_5_code 38 = .ok (.sipush 255, 3) := by decide +kernel
theorem own_d22_41 : decode jdk_52_method_5_code 41 = .ok (.iand, 1) := by decide +kernel
theorem own_d22_42 : decode jdk_52_method_5_code 42 = .ok (.getstatic 59, 3) := by decide +kernel
theorem own_d22_45 : decode jdk_52_method_5_code 45 = .ok (.ishl, 1) := by decide +kernel
theorem own_d22_46 : decode jdk_52_method_5_code 46 = .ok (.aload_n 0, 1) := by decide +kernel
theorem own_d22_47 : decode jdk_52_method_5_code 47 = .ok (.iload_n 1, 1) := by decide +kernel
theorem own_d22_48 : decode jdk_52_method_5_code 48 = .ok (.baload, 1) := by decide +kernel
theorem own_d22_49 : decode jdk_52_method_5_code 49 = .ok (.sipush 255, 3) := by decide +kernel
theorem own_d22_52 : decode jdk_52_method_5_code 52 = .ok (.iand, 1) := by decide +kernel
theorem own_d22_53 : decode jdk_52_method_5_code 53 = .ok (.getstatic 63, 3) := by decide +kernel
theorem own_d22_56 : decode jdk_52_method_5_code 56 = .ok (.ishl, 1) := by decide +kernel
theorem own_d22_57 : decode jdk_52_method_5_code 57 = .ok (.ior, 1) := by decide +kernel
theorem own_d22_58 : decode jdk_52_method_5_code 58 = .ok (.i2c, 1) := by decide +kernel
theorem own_d22_59 : decode jdk_52_method_5_code 59 = .ok (.ireturn, 1) := by decide +kernel
theorem own_ef_own_get1_0 (m : MethodId) (x0 : Addr) (x1 : Int32) : entryFrame m #[(.ref x0), (.int x1)] 2 = mkF m 0 #[.val (.ref x0), .val (.int x1)] [] := by first | (simp [entryFrame, mkF, argsToLocals, Value.category]; done) | rfl
def own_Q_own_get1_0 (Z : State) (a : Addr) (k : ClassId) (v0 : Int32) (h0 : Heap) (n0 : Nat) (v : Option Value) (h : Heap) (L : List Loc) : Prop := (v = some (.int v0)) ∧ (Fr n0 L) ∧ (h = h0)

theorem own_get1_0 (l : Launch) (Z : State) (a0 : Array Value) (hw : oT a0 Z) (ws : List Jvm.Cond) (a : Addr) (k : ClassId) (v0 : Int32) (h0 : Heap) (n0 : Nat) (Z0 : n0 ≤ h0.size) (Old0 : Old Z n0 h0) (sA : Sta Z Z.heap "java/lang/StringUTF16" "$assertionsDisabled" "Z" (.int 1)) (sH : Sta Z Z.heap "java/lang/StringUTF16" "HI_BYTE_SHIFT" "I" (.int 0)) (sL : Sta Z Z.heap "java/lang/StringUTF16" "LO_BYTE_SHIFT" "I" (.int 8)) (V_a : Arv Z h0 a k .byte (2 : Int32) [(.int (nar .byte ((v0 >>> ((0 : Int32) &&& 31)).toInt8.toInt32))), (.int (nar .byte ((v0 >>> ((8 : Int32) &&& 31)).toInt8.toInt32)))] (.int 0)) (hr0 : ¬ v0 < (0 : Int32) ∧ ¬ (65535 : Int32) < v0) :
    oMet l oM12 jdk_52_method_5_code 2 (some .char) ws ⟨0, 0, 0, 0⟩ #[(.ref a), (.int 0)] Z h0 (own_Q_own_get1_0 Z a k v0 h0 n0) := by
  refine oB n0 "java/lang/StringUTF16" rfl (plainFor_of_name own_pn730740715) (fun m => own_ef_own_get1_0 m a (0 : Int32)) ?_
  intro p e s m below meth c s₁ hZ hx hby hlk hret hml hown hnm X0 e0 N0
  show own_Gl _ _ _ _ _ _ _ (s₁.setTop (mkF m 0 #[.val (.ref a), .val (.int 0)] []))
  obtain ⟨T1, X1, e1, st1⟩ := getS2 X0 hx hZ hown (host := "") (Or.inl (oW hw 99 rfl)) Via.refl e0 (sA.ext Old0.2) (g := (mkF m 0 #[.val (.ref a), .val (.int 0)] [])) rfl (hb hby own_d22_0)
  refine own_st st1 ?_
  have hd2 : ¬ ((1 : Int32) = (0 : Int32)) := (by decide)
  refine own_st (fun _ k => XS.ifYes X1.here hx rfl (pc0 := 3) (pc' := 28) rfl (hb hby own_d22_3) rfl ((if0 _ _).trans (feq hd2).2) (by decide) (by decide) k) ?_
  refine own_st (fun _ k => XS.iloadN X1.here hx rfl (hb hby own_d22_28) rfl k) ?_
  refine own_st (fun _ k => XS.iconst X1.here hx rfl (hb hby own_d22_29) k) ?_
  show own_Gl _ _ _ _ _ _ _ (T1.setTop (mkF m 30 #[.val (.ref a), .val (.int 0)] [(.int 1), (.int 0)]))
  refine own_st (fun _ k => XS.ishl X1.here hx rfl (hb hby own_d22_30) rfl k) ?_
  refine own_st (fun _ k => XS.istoreN X1.here hx rfl (hb hby own_d22_31) rfl (l' := #[.val (.ref a), .val (.int ((0 : Int32) <<< ((1 : Int32) &&& 31)))]) rfl k) ?_
  show own_Gl _ _ _ _ _ _ _ (T1.setTop (mkF m 32 #[.val (.ref a), .val (.int 0)] []))
  refine own_st (fun _ k => XS.aloadN X1.here hx rfl (hb hby own_d22_32) rfl rfl k) ?_
  refine own_st (fun _ k => XS.iloadN X1.here hx rfl (hb hby own_d22_33) rfl k) ?_
  refine own_st (fun _ k => XS.iinc X1.here hx rfl (hb hby own_d22_34) rfl (l' := #[.val (.ref a), .val (.int 1)]) rfl k) ?_
  obtain ⟨cl3, Ar3, qq3, Ss3, Nn3, Hh3, Gg3⟩ := id V_a
  have hin3 : ¬ ((0 : Int32) < 0 ∨ cl3.slots.size ≤ ((0 : Int32)).toNatClampNeg) := inb_of Ss3 ⟨by decide, by decide⟩
  have hat3 : cl3.slots[((0 : Int32)).toNatClampNeg]? = some (.int (nar .byte ((v0 >>> ((0 : Int32) &&& 31)).toInt8.toInt32))) := Hh3.at hin3 (rfl)
  refine own_st (X1.baloadBytes hx (j := (0 : Int32)) (v := (.int (nar .byte ((v0 >>> ((0 : Int32) &&& 31)).toInt8.toInt32)))) (by rw [e1]; exact Ar3.1) (State.isArrayOf_alike hZ.alike Ar3.2.1) Ar3.2.2 hin3 hat3 (g := (mkF m 37 #[.val (.ref a), .val (.int 1)] [(.int 0), (.ref a)])) rfl rfl (hb hby own_d22_37)) ?_
  show own_Gl _ _ _ _ _ _ _ (T1.setTop (mkF m 38 #[.val (.ref a), .val (.int 1)] [(.int (nar .byte ((v0 >>> ((0 : Int32) &&& 31)).toInt8.toInt32)))]))
  refine own_st (fun _ k => XS.sipush X1.here hx rfl (hb hby own_d22_38) k) ?_
  refine own_st (fun _ k => XS.iand X1.here hx rfl (hb hby own_d22_41) rfl k) ?_
  obtain ⟨T4, X4, e4, st4⟩ := getS2 X1 hx hZ hown (host := "") (Or.inl (oW hw 100 rfl)) Via.refl e1 (sH.ext Old0.2) (g := (mkF m 42 #[.val (.ref a), .val (.int 1)] [(.int ((nar .byte ((v0 >>> ((0 : Int32) &&& 31)).toInt8.toInt32)) &&& (255 : Int32)))])) rfl (hb hby own_d22_42)
  refine own_st st4 ?_
  refine own_st (fun _ k => XS.ishl X4.here hx rfl (hb hby own_d22_45) rfl k) ?_
  show own_Gl _ _ _ _ _ _ _ (T4.setTop (mkF m 46 #[.val (.ref a), .val (.int 1)] [(.int (((nar .byte ((v0 >>> ((0 : Int32) &&& 31)).toInt8.toInt32)) &&& (255 : Int32)) <<< ((0 : Int32) &&& 31)))]))
  refine own_st (fun _ k => XS.aloadN X4.here hx rfl (hb hby own_d22_46) rfl rfl k) ?_
  refine own_st (fun _ k => XS.iloadN X4.here hx rfl (hb hby own_d22_47) rfl k) ?_
  obtain ⟨cl5, Ar5, qq5, Ss5, Nn5, Hh5, Gg5⟩ := id V_a
  have hin5 : ¬ ((1 : Int32) < 0 ∨ cl5.slots.size ≤ ((1 : Int32)).toNatClampNeg) := inb_of Ss5 ⟨by decide, by decide⟩
  have hat5 : cl5.slots[((1 : Int32)).toNatClampNeg]? = some (.int (nar .byte ((v0 >>> ((8 : Int32) &&& 31)).toInt8.toInt32))) := Hh5.at hin5 (rfl)
  refine own_st (X4.baloadBytes hx (j := (1 : Int32)) (v := (.int (nar .byte ((v0 >>> ((8 : Int32) &&& 31)).toInt8.toInt32)))) (by rw [e4]; exact Ar5.1) (State.isArrayOf_alike hZ.alike Ar5.2.1) Ar5.2.2 hin5 hat5 (g := (mkF m 48 #[.val (.ref a), .val (.int 1)] [(.int 1), (.ref a), (.int (((nar .byte ((v0 >>> ((0 : Int32) &&& 31)).toInt8.toInt32)) &&& (255 : Int32)) <<< ((0 : Int32) &&& 31)))])) rfl rfl (hb hby own_d22_48)) ?_
  refine own_st (fun _ k => XS.sipush X4.here hx rfl (hb hby own_d22_49) k) ?_
  show own_Gl _ _ _ _ _ _ _ (T4.setTop (mkF m 52 #[.val (.ref a), .val (.int 1)] [(.int 255), (.int (nar .byte ((v0 >>> ((8 : Int32) &&& 31)).toInt8.toInt32))), (.int (((nar .byte ((v0 >>> ((0 : Int32) &&& 31)).toInt8.toInt32)) &&& (255 : Int32)) <<< ((0 : Int32) &&& 31)))]))
  refine own_st (fun _ k => XS.iand X4.here hx rfl (hb hby own_d22_52) rfl k) ?_
  obtain ⟨T6, X6, e6, st6⟩ := getS2 X4 hx hZ hown (host := "") (Or.inl (oW hw 101 rfl)) Via.refl e4 (sL.ext Old0.2) (g := (mkF m 53 #[.val (.ref a), .val (.int 1)] [(.int ((nar .byte ((v0 >>> ((8 : Int32) &&& 31)).toInt8.toInt32)) &&& (255 : Int32))), (.int (((nar .byte ((v0 >>> ((0 : Int32) &&& 31)).toInt8.toInt32)) &&& (255 : Int32)) <<< ((0 : Int32) &&& 31)))])) rfl (hb hby own_d22_53)
  refine own_st st6 ?_
  refine own_st (fun _ k => XS.ishl X6.here hx rfl (hb hby own_d22_56) rfl k) ?_
  refine own_st (fun _ k => XS.ior X6.here hx rfl (hb hby own_d22_57) rfl k) ?_
  show own_Gl _ _ _ _ _ _ _ (T6.setTop (mkF m 58 #[.val (.ref a), .val (.int 1)] [(.int ((((nar .byte ((v0 >>> ((0 : Int32) &&& 31)).toInt8.toInt32)) &&& (255 : Int32)) <<< ((0 : Int32) &&& 31)) ||| (((nar .byte ((v0 >>> ((8 : Int32) &&& 31)).toInt8.toInt32)) &&& (255 : Int32)) <<< ((8 : Int32) &&& 31))))]))
  refine own_st (fun _ k => XS.i2c X6.here hx rfl (hb hby own_d22_58) rfl k) ?_
  show own_Gl _ _ _ _ _ _ _ (T6.setTop (mkF m 59 #[.val (.ref a), .val (.int 1)] [(.int (((((nar .byte ((v0 >>> ((0 : Int32) &&& 31)).toInt8.toInt32)) &&& (255 : Int32)) <<< ((0 : Int32) &&& 31)) ||| (((nar .byte ((v0 >>> ((8 : Int32) &&& 31)).toInt8.toInt32)) &&& (255 : Int32)) <<< ((8 : Int32) &&& 31))).toUInt32.toUInt16.toUInt32.toInt32))]))
  exact own_retN X6 hx hlk (t := .char) hret (by simp) (hb hby own_d22_59) e6 ⟨by rw [own_gch _ hr0.1 hr0.2, own_nc _ hr0], N0, rfl⟩ (by decide) (by decide)
theorem own_d9_0 : decode jdk_52_method_21_code 0 = .ok (.iconst 0, 1) := by decide +kernel
theorem own_d9_1 : decode jdk_52_method_21_code 1 = .ok (.istore 5, 2) := by decide +kernel
theorem own_d9_3 : decode jdk_52_method_21_code 3 = .ok (.iload 5, 2) := by decide +kernel
theorem own_d9_5 : decode jdk_52_method_21_code 5 = .ok (.iload 4, 2) := by decide +kernel
theorem own_d9_7 : decode jdk_52_method_21_code 7 = .ok (.if_icmp .ge 37, 3) := by decide +kernel
theorem own_d9_10 : decode jdk_52_method_21_code 10 = .ok (.aload_n 0, 1) := by decide +kernel
theorem own_d9_11 : decode jdk_52_method_21_code 11 = .ok (.iload_n 1, 1) := by decide +kernel
theorem own_d9_12 : decode jdk_52_method_21_code 12 = .ok (.caload, 1) := by decide +kernel
theorem own_d9_13 : decode jdk_52_method_21_code 13 = .ok (.istore 6, 2) := by decide +kernel
theorem own_d9_15 : decode jdk_52_method_21_code 15 = .ok (.iload 6, 2) := by decide +kernel
theorem own_d9_17 : decode jdk_52_method_21_code 17 = .ok (.sipush 255, 3) := by decide +kernel
theorem own_d9_20 : decode jdk_52_method_21_code 20 = .ok (.if_icmp .le 6, 3) := by decide +kernel
theorem own_d9_23 : decode jdk_52_method_21_code 23 = .ok (.iload 5, 2) := by decide +kernel
theorem own_d9_25 : decode jdk_52_method_21_code 25 = .ok (.ireturn, 1) := by decide +kernel
theorem own_ef_own_c5_1_0 (m : MethodId) (x0 : Addr) (x1 : Int32) (x2 : Addr) (x3 : Int32) (x4 : Int32) : entryFrame m #[(.ref x0), (.int x1), (.ref x2), (.int x3), (.int x4)] 7 = mkF m 0 #[.val (.ref x0), .val (.int x1), .val (.ref x2), .val (.int x3), .val (.int x4), .unset, .unset] [] := by first | (simp [entryFrame, mkF, argsToLocals, Value.category]; done) | rfl
def own_Q_own_c5_1_0 (Z : State) (a : Addr) (b : Addr) (k : ClassId) (kb : ClassId) (v0 : Int32) (h0 : Heap) (n0 : Nat) (v : Option Value) (h : Heap) (L : List Loc) : Prop := (v = some (.int 0)) ∧ (Fr n0 L) ∧ (Keep h0 h [b]) ∧ (Arv Z h b kb .byte (1 : Int32) [(.int 0)] (.int 0))

theorem own_c5_1_0 (l : Launch) (Z : State) (a0 : Array Value) (hw : oT a0 Z) (ws : List Jvm.Cond) (a : Addr) (b : Addr) (k : ClassId) (kb : ClassId) (v0 : Int32) (h0 : Heap) (n0 : Nat) (Z0 : n0 ≤ h0.size) (V_a : Arv Z h0 a k .char (1 : Int32) [(.int v0)] (.int 0)) (V_b : Arv Z h0 b kb .byte (1 : Int32) [(.int 0)] (.int 0)) (g_b : n0 ≤ b) (ne_a_b : a ≠ b) (hgt : (255 : Int32) < v0) :
    oMet l oM13 jdk_52_method_21_code 7 (some .int) ws ⟨0, 0, 0, 0⟩ #[(.ref a), (.int 0), (.ref b), (.int 0), (.int 1)] Z h0 (own_Q_own_c5_1_0 Z a b k kb v0 h0 n0) := by
  refine oB n0 "java/lang/StringUTF16" rfl (plainFor_of_name own_pn730740715) (fun m => own_ef_own_c5_1_0 m a (0 : Int32) b (0 : Int32) (1 : Int32)) ?_
  intro p e s m below meth c s₁ hZ hx hby hlk hret hml hown hnm X0 e0 N0
  show own_Gl _ _ _ _ _ _ _ (s₁.setTop (mkF m 0 #[.val (.ref a), .val (.int 0), .val (.ref b), .val (.int 0), .val (.int 1), .unset, .unset] []))
  refine own_st (fun _ k => XS.iconst X0.here hx rfl (hb hby own_d9_0) k) ?_
  refine own_st (fun _ k => XS.istore X0.here hx rfl (hb hby own_d9_1) rfl (l' := #[.val (.ref a), .val (.int 0), .val (.ref b), .val (.int 0), .val (.int 1), .val (.int 0), .unset]) rfl k) ?_
  refine own_st (fun _ k => XS.iload X0.here hx rfl (hb hby own_d9_3) rfl k) ?_
  refine own_st (fun _ k => XS.iload X0.here hx rfl (hb hby own_d9_5) rfl k) ?_
  show own_Gl _ _ _ _ _ _ _ (s₁.setTop (mkF m 7 #[.val (.ref a), .val (.int 0), .val (.ref b), .val (.int 0), .val (.int 1), .val (.int 0), .unset] [(.int 1), (.int 0)]))
  have hd1 : (0 : Int32) < (1 : Int32) := (by decide)
  refine own_st (fun _ k => XS.icmpNo X0.here hx rfl (hb hby own_d9_7) rfl (tlt hd1).2.1 k) ?_
  refine own_st (fun _ k => XS.aloadN X0.here hx rfl (hb hby own_d9_10) rfl rfl k) ?_
  refine own_st (fun _ k => XS.iloadN X0.here hx rfl (hb hby own_d9_11) rfl k) ?_
  obtain ⟨cl2, Ar2, qq2, Ss2, Nn2, Hh2, Gg2⟩ := id V_a
  have hin2 : ¬ ((0 : Int32) < 0 ∨ cl2.slots.size ≤ ((0 : Int32)).toNatClampNeg) := inb_of Ss2 ⟨by decide, by decide⟩
  have hat2 : cl2.slots[((0 : Int32)).toNatClampNeg]? = some (.int v0) := Hh2.at hin2 (rfl)
  refine own_st (X0.caload hx (j := (0 : Int32)) (v := (.int v0)) (by rw [e0]; exact Ar2.1) (State.isArrayOf_alike hZ.alike Ar2.2.1) Ar2.2.2 hin2 hat2 (g := (mkF m 12 #[.val (.ref a), .val (.int 0), .val (.ref b), .val (.int 0), .val (.int 1), .val (.int 0), .unset] [(.int 0), (.ref a)])) rfl rfl (hb hby own_d9_12)) ?_
  show own_Gl _ _ _ _ _ _ _ (s₁.setTop (mkF m 13 #[.val (.ref a), .val (.int 0), .val (.ref b), .val (.int 0), .val (.int 1), .val (.int 0), .unset] [(.int v0)]))
  refine own_st (fun _ k => XS.istore X0.here hx rfl (hb hby own_d9_13) rfl (l' := #[.val (.ref a), .val (.int 0), .val (.ref b), .val (.int 0), .val (.int 1), .val (.int 0), .val (.int v0)]) rfl k) ?_
  refine own_st (fun _ k => XS.iload X0.here hx rfl (hb hby own_d9_15) rfl k) ?_
  refine own_st (fun _ k => XS.sipush X0.here hx rfl (hb hby own_d9_17) k) ?_
  have hd3 : (255 : Int32) < v0 := hgt
  refine own_st (fun _ k => XS.icmpNo X0.here hx rfl (hb hby own_d9_20) rfl (tlt hd3).2.2.2 k) ?_
  show own_Gl _ _ _ _ _ _ _ (s₁.setTop (mkF m 23 #[.val (.ref a), .val (.int 0), .val (.ref b), .val (.int 0), .val (.int 1), .val (.int 0), .val (.int v0)] []))
  refine own_st (fun _ k => XS.iload X0.here hx rfl (hb hby own_d9_23) rfl k) ?_
  show own_Gl _ _ _ _ _ _ _ (s₁.setTop (mkF m 25 #[.val (.ref a), .val (.int 0), .val (.ref b), .val (.int 0), .val (.int 1), .val (.int 0), .val (.int v0)] [(.int 0)]))
  exact own_retI X0 hx hlk hret (hb hby own_d9_25) e0 ⟨rfl, N0, (Keep.refl h0 [b]), V_b⟩ (by decide) (by decide)
theorem own_d9_26 : decode jdk_52_method_21_code 26 = .ok (.aload_n 2, 1) := by decide +kernel
theorem own_d9_27 : decode jdk_52_method_21_code 27 = .ok (.iload_n 3, 1) := by decide +kernel
theorem own_d9_28 : decode jdk_52_method_21_code 28 = .ok (.iload 6, 2) := by decide +kernel
theorem own_d9_30 : decode jdk_52_method_21_code 30 = .ok (.i2b, 1) := by decide +kernel
theorem own_d9_31 : decode jdk_52_method_21_code 31 = .ok (.bastore, 1) := by decide +kernel
theorem own_d9_32 : decode jdk_52_method_21_code 32 = .ok (.iinc 1 1, 3) := by decide +kernel
theorem own_d9_35 : decode jdk_52_method_21_code 35 = .ok (.iinc 3 1, 3) := by decide +kernel
theorem own_d9_38 : decode jdk_52_method_21_code 38 = .ok (.iinc 5 1, 3) := by decide +kernel
theorem own_d9_41 : decode jdk_52_method_21_code 41 = .ok (.goto (-38), 3) := by decide +kernel
theorem own_d9_44 : decode jdk_52_method_21_code 44 = .ok (.iload 4, 2) := by decide +kernel
theorem own_d9_46 : decode jdk_52_method_21_code 46 = .ok (.ireturn, 1) := by decide +kernel
theorem own_ef_own_c5_1_1 (m : MethodId) (x0 : Addr) (x1 : Int32) (x2 : Addr) (x3 : Int32) (x4 : Int32) : entryFrame m #[(.ref x0), (.int x1), (.ref x2), (.int x3), (.int x4)] 7 = mkF m 0 #[.val (.ref x0), .val (.int x1), .val (.ref x2), .val (.int x3), .val (.int x4), .unset, .unset] [] := by first | (simp [entryFrame, mkF, argsToLocals, Value.category]; done) | rfl
def own_Q_own_c5_1_1 (Z : State) (a : Addr) (b : Addr) (k : ClassId) (kb : ClassId) (v0 : Int32) (h0 : Heap) (n0 : Nat) (v : Option Value) (h : Heap) (L : List Loc) : Prop := (v = some (.int 1)) ∧ (Fr n0 L) ∧ (Keep h0 h [b]) ∧ (Arv Z h b kb .byte (1 : Int32) [(.int (nar .byte (v0.toInt8.toInt32)))] (.int 0))

theorem own_c5_1_1 (l : Launch) (Z : State) (a0 : Array Value) (hw : oT a0 Z) (ws : List Jvm.Cond) (a : Addr) (b : Addr) (k : ClassId) (kb : ClassId) (v0 : Int32) (h0 : Heap) (n0 : Nat) (Z0 : n0 ≤ h0.size) (V_a : Arv Z h0 a k .char (1 : Int32) [(.int v0)] (.int 0)) (V_b : Arv Z h0 b kb .byte (1 : Int32) [(.int 0)] (.int 0)) (g_b : n0 ≤ b) (ne_a_b : a ≠ b) (hle0 : ¬ ((255 : Int32) < v0)) :
    oMet l oM13 jdk_52_method_21_code 7 (some .int) ws ⟨0, 0, 0, 0⟩ #[(.ref a), (.int 0), (.ref b), (.int 0), (.int 1)] Z h0 (own_Q_own_c5_1_1 Z a b k kb v0 h0 n0) := by
  refine oB n0 "java/lang/StringUTF16" rfl (plainFor_of_name own_pn730740715) (fun m => own_ef_own_c5_1_1 m a (0 : Int32) b (0 : Int32) (1 : Int32)) ?_
  intro p e s m below meth c s₁ hZ hx hby hlk hret hml hown hnm X0 e0 N0
  show own_Gl _ _ _ _ _ _ _ (s₁.setTop (mkF m 0 #[.val (.ref a), .val (.int 0), .val (.ref b), .val (.int 0), .val (.int 1), .unset, .unset] []))
  refine own_st (fun _ k => XS.iconst X0.here hx rfl (hb hby own_d9_0) k) ?_
  refine own_st (fun _ k => XS.istore X0.here hx rfl (hb hby own_d9_1) rfl (l' := #[.val (.ref a), .val (.int 0), .val (.ref b), .val (.int 0), .val (.int 1), .val (.int 0), .unset]) rfl k) ?_
  refine own_st (fun _ k => XS.iload X0.here hx rfl (hb hby own_d9_3) rfl k) ?_
  refine own_st (fun _ k => XS.iload X0.here hx rfl (hb hby own_d9_5) rfl k) ?_
  show own_Gl _ _ _ _ _ _ _ (s₁.setTop (mkF m 7 #[.val (.ref a), .val (.int 0), .val (.ref b), .val (.int 0), .val (.int 1), .val (.int 0), .unset] [(.int 1), (.int 0)]))
  have hd1 : (0 : Int32) < (1 : Int32) := (by decide)
  refine own_st (fun _ k => XS.icmpNo X0.here hx rfl (hb hby own_d9_7) rfl (tlt hd1).2.1 k) ?_
  refine own_st (fun _ k => XS.aloadN X0.here hx rfl (hb hby own_d9_10) rfl rfl k) ?_
  refine own_st (fun _ k => XS.iloadN X0.here hx rfl (hb hby own_d9_11) rfl k) ?_
  obtain ⟨cl2, Ar2, qq2, Ss2, Nn2, Hh2, Gg2⟩ := id V_a
  have hin2 : ¬ ((0 : Int32) < 0 ∨ cl2.slots.size ≤ ((0 : Int32)).toNatClampNeg) := inb_of Ss2 ⟨by decide, by decide⟩
  have hat2 : cl2.slots[((0 : Int32)).toNatClampNeg]? = some (.int v0) := Hh2.at hin2 (rfl)
  refine own_st (X0.caload hx (j := (0 : Int32)) (v := (.int v0)) (by rw [e0]; exact Ar2.1) (State.isArrayOf_alike hZ.alike Ar2.2.1) Ar2.2.2 hin2 hat2 (g := (mkF m 12 #[.val (.ref a), .val (.int 0), .val (.ref b), .val (.int 0), .val (.int 1), .val (.int 0), .unset] [(.int 0), (.ref a)])) rfl rfl (hb hby own_d9_12)) ?_
  show own_Gl _ _ _ _ _ _ _ (s₁.setTop (mkF m 13 #[.val (.ref a), .val (.int 0), .val (.ref b), .val (.int 0), .val (.int 1), .val (.int 0), .unset] [(.int v0)]))
  refine own_st (fun _ k => XS.istore X0.here hx rfl (hb hby own_d9_13) rfl (l' := #[.val (.ref a), .val (.int 0), .val (.ref b), .val (.int 0), .val (.int 1), .val (.int 0), .val (.int v0)]) rfl k) ?_
  refine own_st (fun _ k => XS.iload X0.here hx rfl (hb hby own_d9_15) rfl k) ?_
  refine own_st (fun _ k => XS.sipush X0.here hx rfl (hb hby own_d9_17) k) ?_
  have hd3 : ¬ ((255 : Int32) < v0) := hle0
  refine own_st (fun _ k => XS.icmpYes X0.here hx rfl (pc0 := 20) (pc' := 26) rfl (hb hby own_d9_20) rfl (flt hd3).2.2.2 (by decide) (by decide) k) ?_
  show own_Gl _ _ _ _ _ _ _ (s₁.setTop (mkF m 26 #[.val (.ref a), .val (.int 0), .val (.ref b), .val (.int 0), .val (.int 1), .val (.int 0), .val (.int v0)] []))
  refine own_st (fun _ k => XS.aloadN X0.here hx rfl (hb hby own_d9_26) rfl rfl k) ?_
  refine own_st (fun _ k => XS.iloadN X0.here hx rfl (hb hby own_d9_27) rfl k) ?_
  refine own_st (fun _ k => XS.iload X0.here hx rfl (hb hby own_d9_28) rfl k) ?_
  refine own_st (fun _ k => XS.i2b X0.here hx rfl (hb hby own_d9_30) rfl k) ?_
  show own_Gl _ _ _ _ _ _ _ (s₁.setTop (mkF m 31 #[.val (.ref a), .val (.int 0), .val (.ref b), .val (.int 0), .val (.int 1), .val (.int 0), .val (.int v0)] [(.int (v0.toInt8.toInt32)), (.int 0), (.ref b)]))
  obtain ⟨cl4, Ar4, qq4, Ss4, Nn4, Hh4, Gg4⟩ := id V_b
  have hin4 : ¬ ((0 : Int32) < 0 ∨ cl4.slots.size ≤ ((0 : Int32)).toNatClampNeg) := inb_of Ss4 ⟨by decide, by decide⟩
  obtain ⟨T4, h4, X4, e4, W4, st4⟩ := stB X0 hx hZ e0 Ar4 (j := (0 : Int32)) hin4 (g := (mkF m 31 #[.val (.ref a), .val (.int 0), .val (.ref b), .val (.int 0), .val (.int 1), .val (.int 0), .val (.int v0)] [(.int (v0.toInt8.toInt32)), (.int 0), (.ref b)])) rfl rfl (hb hby own_d9_31)
  have N4 := Fr.snoc X4 N0 g_b
  refine own_st st4 ?_
  have Zs5 : n0 ≤ h4.size := Nat.le_trans Z0 (Keep.of_wr W4).1
  have Vw4 : Arv Z h4 b kb .byte (1 : Int32) [(.int (nar .byte (v0.toInt8.toInt32)))] (.int 0) := Arv.set Ar4 qq4 Ss4 Nn4 Hh4 Gg4 (fits_nar_byte _) W4 0 (rfl) (Nat.le_of_ble_eq_true rfl)
  refine own_st (fun _ k => XS.iinc X4.here hx rfl (hb hby own_d9_32) rfl (l' := #[.val (.ref a), .val (.int 1), .val (.ref b), .val (.int 0), .val (.int 1), .val (.int 0), .val (.int v0)]) rfl k) ?_
  refine own_st (fun _ k => XS.iinc X4.here hx rfl (hb hby own_d9_35) rfl (l' := #[.val (.ref a), .val (.int 1), .val (.ref b), .val (.int 1), .val (.int 1), .val (.int 0), .val (.int v0)]) rfl k) ?_
  refine own_st (fun _ k => XS.iinc X4.here hx rfl (hb hby own_d9_38) rfl (l' := #[.val (.ref a), .val (.int 1), .val (.ref b), .val (.int 1), .val (.int 1), .val (.int 1), .val (.int v0)]) rfl k) ?_
  show own_Gl _ _ _ _ _ _ _ (T4.setTop (mkF m 41 #[.val (.ref a), .val (.int 1), .val (.ref b), .val (.int 1), .val (.int 1), .val (.int 1), .val (.int v0)] []))
  refine own_st (fun _ k => XS.goto X4.here hx rfl (pc0 := 41) (pc' := 3) rfl (hb hby own_d9_41) (by decide) (by decide) k) ?_
  refine own_st (fun _ k => XS.iload X4.here hx rfl (hb hby own_d9_3) rfl k) ?_
  refine own_st (fun _ k => XS.iload X4.here hx rfl (hb hby own_d9_5) rfl k) ?_
  have hd6 : ¬ ((1 : Int32) < (1 : Int32)) := (by decide)
  refine own_st (fun _ k => XS.icmpYes X4.here hx rfl (pc0 := 7) (pc' := 44) rfl (hb hby own_d9_7) rfl (flt hd6).2.1 (by decide) (by decide) k) ?_
  show own_Gl _ _ _ _ _ _ _ (T4.setTop (mkF m 44 #[.val (.ref a), .val (.int 1), .val (.ref b), .val (.int 1), .val (.int 1), .val (.int 1), .val (.int v0)] []))
  refine own_st (fun _ k => XS.iload X4.here hx rfl (hb hby own_d9_44) rfl k) ?_
  show own_Gl _ _ _ _ _ _ _ (T4.setTop (mkF m 46 #[.val (.ref a), .val (.int 1), .val (.ref b), .val (.int 1), .val (.int 1), .val (.int 1), .val (.int v0)] [(.int 1)]))
  have K7 : Keep h0 h4 [b] := ((Keep.refl h0 [b]).wr W4 (Or.inl (List.mem_of_getElem? (i := 0) rfl)))
  exact own_retI X4 hx hlk hret (hb hby own_d9_46) e4 ⟨rfl, N4, K7, Vw4⟩ (by decide) (by decide)
theorem own_d8_0 : decode jdk_52_method_16_code 0 = .ok (.iload_n 2, 1) := by decide +kernel
theorem own_d8_1 : decode jdk_52_method_16_code 1 = .ok (.newarray .byte, 2) := by decide +kernel
theorem own_d8_3 : decode jdk_52_method_16_code 3 = .ok (.astore_n 3, 1) := by decide +kernel
theorem own_d8_4 : decode jdk_52_method_16_code 4 = .ok (.aload_n 0, 1) := by decide +kernel
theorem own_d8_5 : decode jdk_52_method_16_code 5 = .ok (.iload_n 1, 1) := by decide +kernel
theorem own_d8_6 : decode jdk_52_method_16_code 6 = .ok (.aload_n 3, 1) := by decide +kernel
theorem own_d8_7 : decode jdk_52_method_16_code 7 = .ok (.iconst 0, 1) := by decide +kernel
theorem own_d8_8 : decode jdk_52_method_16_code 8 = .ok (.iload_n 2, 1) := by decide +kernel
theorem own_d8_9 : decode jdk_52_method_16_code 9 = .ok (.invokestatic 115, 3) := by decide +kernel
theorem own_pd196289288 : parseMethodDescriptor "([CI[BII)I" = some ⟨[(.array .char), .int, (.array .byte), .int, .int], some .int⟩ := by decide +kernel
theorem own_d8_12 : decode jdk_52_method_16_code 12 = .ok (.istore 4, 2) := by decide +kernel
theorem own_d8_14 : decode jdk_52_method_16_code 14 = .ok (.iload 4, 2) := by decide +kernel
theorem own_d8_16 : decode jdk_52_method_16_code 16 = .ok (.iload_n 2, 1) := by decide +kernel
theorem own_d8_17 : decode jdk_52_method_16_code 17 = .ok (.if_icmp .eq 40, 3) := by decide +kernel
theorem own_d8_57 : decode jdk_52_method_16_code 57 = .ok (.aload_n 3, 1) := by decide +kernel
theorem own_d8_58 : decode jdk_52_method_16_code 58 = .ok (.areturn, 1) := by decide +kernel
theorem own_ef_own_c3_1_l (m : MethodId) (x0 : Addr) (x1 : Int32) (x2 : Int32) : entryFrame m #[(.ref x0), (.int x1), (.int x2)] 6 = mkF m 0 #[.val (.ref x0), .val (.int x1), .val (.int x2), .unset, .unset, .unset] [] := by first | (simp [entryFrame, mkF, argsToLocals, Value.category]; done) | rfl
def own_Q_own_c3_1_l (Z : State) (a : Addr) (k : ClassId) (v0 : Int32) (h0 : Heap) (n0 : Nat) (v : Option Value) (h : Heap) (L : List Loc) : Prop := ∃ (r : Addr) (kr : ClassId), (v = some (.ref r)) ∧ (Fr n0 L) ∧ (Keep h0 h []) ∧ (n0 ≤ r) ∧ (h0.size ≤ r) ∧ (Arv Z h r kr .byte (1 : Int32) [(.int (nar .byte (v0.toInt8.toInt32)))] (.int 0))

theorem own_c3_1_l (l : Launch) (Z : State) (a0 : Array Value) (hw : oT a0 Z) (ws : List Jvm.Cond) (a : Addr) (k : ClassId) (v0 : Int32) (h0 : Heap) (n0 : Nat) (Z0 : n0 ≤ h0.size) (V_a : Arv Z h0 a k .char (1 : Int32) [(.int v0)] (.int 0)) (hle0 : ¬ ((255 : Int32) < v0)) :
    oMet l oM14 jdk_52_method_16_code 6 (some (.array .byte)) ws ⟨1, 1, 1, 18⟩ #[(.ref a), (.int 0), (.int 1)] Z h0 (own_Q_own_c3_1_l Z a k v0 h0 n0) := by
  refine oB n0 "java/lang/StringUTF16" rfl (plainFor_of_name own_pn730740715) (fun m => own_ef_own_c3_1_l m a (0 : Int32) (1 : Int32)) ?_
  intro p e s m below meth c s₁ hZ hx hby hlk hret hml hown hnm X0 e0 N0
  show own_Gl _ _ _ _ _ _ _ (s₁.setTop (mkF m 0 #[.val (.ref a), .val (.int 0), .val (.int 1), .unset, .unset, .unset] []))
  refine own_st (fun _ k => XS.iloadN X0.here hx rfl (hb hby own_d8_0) rfl k) ?_
  obtain ⟨T1, h1, k1, X1, e1, E1, A1, st1⟩ := newP X0 hx hZ (oW hw 19 rfl) e0 (g := (mkF m 1 #[.val (.ref a), .val (.int 0), .val (.int 1), .unset, .unset, .unset] [(.int 1)])) rfl (hb hby own_d8_1) rfl (by decide) (cap := 1) (by decide) (by decide) (by decide) (by decide)
  obtain ⟨b1, gb1⟩ : ∃ z, z = h0.size := ⟨_, rfl⟩
  rw [← gb1] at A1 st1
  refine own_st st1 ?_
  have Zs2 : n0 ≤ h1.size := Nat.le_trans Z0 E1.1
  have g_b1 : n0 ≤ b1 := Nat.le_trans Z0 (Nat.le_of_eq gb1.symm)
  have gh_b1 : h0.size ≤ b1 := Nat.le_trans (Keep.refl h0 []).1 (Nat.le_of_eq gb1.symm)
  have ne_a_b1 : a ≠ b1 := Nat.ne_of_lt (Nat.lt_of_lt_of_le V_a.lt (Nat.le_of_eq gb1.symm))
  have V_b1 : Arv Z h1 b1 k1 .byte (1 : Int32) [(.int 0)] (.int 0) := (Arv.new A1 (by decide)).pad (pad_rep [] (.int 0) 1)
  refine own_st (fun _ k => XS.astoreN X1.here hx rfl (hb hby own_d8_3) rfl rfl (l' := #[.val (.ref a), .val (.int 0), .val (.int 1), .val (.ref b1), .unset, .unset]) rfl k) ?_
  refine own_st (fun _ k => XS.aloadN X1.here hx rfl (hb hby own_d8_4) rfl rfl k) ?_
  show own_Gl _ _ _ _ _ _ _ (T1.setTop (mkF m 5 #[.val (.ref a), .val (.int 0), .val (.int 1), .val (.ref b1), .unset, .unset] [(.ref a)]))
  refine own_st (fun _ k => XS.iloadN X1.here hx rfl (hb hby own_d8_5) rfl k) ?_
  refine own_st (fun _ k => XS.aloadN X1.here hx rfl (hb hby own_d8_6) rfl rfl k) ?_
  refine own_st (fun _ k => XS.iconst X1.here hx rfl (hb hby own_d8_7) k) ?_
  refine own_st (fun _ k => XS.iloadN X1.here hx rfl (hb hby own_d8_8) rfl k) ?_
  show own_Gl _ _ _ _ _ _ _ (T1.setTop (mkF m 9 #[.val (.ref a), .val (.int 0), .val (.int 1), .val (.ref b1), .unset, .unset] [(.int 1), (.int 0), (.ref b1), (.int 0), (.ref a)]))
  have f5 := (V_a.ext E1)
  obtain ⟨_, _, ⟨T4, L4, k4, n4⟩, -, X4, ⟨Lc4, hQ4, l4, y4, z4⟩, st4⟩ := Jvm.LawKit.callS X1 hx (y := oM13) hown (mvT hZ (oW hw 49 rfl)) (mvT hZ (oW hw 50 rfl)) (mvT hZ (oW hw 47 rfl)) (mvT hZ (oW hw 51 rfl)) (by decide) (backOf (W := 0) (own_c5_1_1 l Z a0 hw [] a b1 k k1 v0 h1 n0 Zs2 f5 V_b1 g_b1 ne_a_b1 hle0) hZ (oW hw 51 rfl) (oW hw 47 rfl) (by decide) (by decide)) (g := (mkF m 9 #[.val (.ref a), .val (.int 0), .val (.int 1), .val (.ref b1), .unset, .unset] [(.int 1), (.int 0), (.ref b1), (.int 0), (.ref a)])) rfl (by rw [hml]; rfl) (argsL := [(.ref a), (.int 0), (.ref b1), (.int 0), (.int 1)]) (rest := []) (lenOf own_pd196289288 rfl) rfl (by show 2 * 0 + _ ≤ _; exact Nat.le_of_eq rfl) (hb hby own_d8_9) (fun _ _ => ⟨rfl, e1, (by decide : 1 + 0 ≤ 1), (by decide : 1 + 0 ≤ 1)⟩)
  dsimp only [Pt.U, Pt.locs, Pt.cells, Pt.slots] at X4 l4 y4 z4 st4 hQ4
  subst l4 y4 z4
  obtain ⟨hh4, eh04⟩ : ∃ z, T4.heap = z := ⟨_, rfl⟩
  rw [eh04] at hQ4
  obtain ⟨rfl, Nq4, Kq4, P4_0⟩ := hQ4
  have N4 := Fr.app N0 Nq4
  refine own_st st4 ?_
  have Zs6 : n0 ≤ hh4.size := Nat.le_trans Zs2 Kq4.1
  refine own_st (fun _ k => XS.istore X4.here hx rfl (hb hby own_d8_12) rfl (l' := #[.val (.ref a), .val (.int 0), .val (.int 1), .val (.ref b1), .val (.int 1), .unset]) rfl k) ?_
  refine own_st (fun _ k => XS.iload X4.here hx rfl (hb hby own_d8_14) rfl k) ?_
  refine own_st (fun _ k => XS.iloadN X4.here hx rfl (hb hby own_d8_16) rfl k) ?_
  show own_Gl _ _ _ _ _ _ _ (T4.setTop (mkF m 17 #[.val (.ref a), .val (.int 0), .val (.int 1), .val (.ref b1), .val (.int 1), .unset] [(.int 1), (.int 1)]))
  have hd7 : (1 : Int32) = (1 : Int32) := (by decide)
  refine own_st (fun _ k => XS.icmpYes X4.here hx rfl (pc0 := 17) (pc' := 57) rfl (hb hby own_d8_17) rfl (teq hd7).1 (by decide) (by decide) k) ?_
  refine own_st (fun _ k => XS.aloadN X4.here hx rfl (hb hby own_d8_57) rfl rfl k) ?_
  show own_Gl _ _ _ _ _ _ _ (T4.setTop (mkF m 58 #[.val (.ref a), .val (.int 0), .val (.int 1), .val (.ref b1), .val (.int 1), .unset] [(.ref b1)]))
  have K8 : Keep h0 hh4 [] := (((Keep.refl h0 []).ext E1).trans Kq4 (allS (Or.inr gh_b1) all0))
  exact own_retA X4 hx hlk hret rfl rfl rfl (hb hby own_d8_58) eh04 ⟨b1, k1, rfl, N4, K8, g_b1, gh_b1, P4_0⟩ (by decide) (by decide)
theorem own_d10_0 : decode jdk_52_method_15_code 0 = .ok (.iload_n 1, 1) := by decide +kernel
theorem own_d10_1 : decode jdk_52_method_15_code 1 = .ok (.aload_n 0, 1) := by decide +kernel
theorem own_d10_2 : decode jdk_52_method_15_code 2 = .ok (.arraylength, 1) := by decide +kernel
theorem own_d10_3 : decode jdk_52_method_15_code 3 = .ok (.isub, 1) := by decide +kernel
theorem own_d10_4 : decode jdk_52_method_15_code 4 = .ok (.bipush 31, 2) := by decide +kernel
theorem own_d10_6 : decode jdk_52_method_15_code 6 = .ok (.iushr, 1) := by decide +kernel
theorem own_d10_7 : decode jdk_52_method_15_code 7 = .ok (.i2b, 1) := by decide +kernel
theorem own_d10_8 : decode jdk_52_method_15_code 8 = .ok (.ireturn, 1) := by decide +kernel
theorem own_ef_own_cf_1_l (m : MethodId) (x0 : Addr) (x1 : Int32) : entryFrame m #[(.ref x0), (.int x1)] 2 = mkF m 0 #[.val (.ref x0), .val (.int x1)] [] := by first | (simp [entryFrame, mkF, argsToLocals, Value.category]; done) | rfl
def own_Q_own_cf_1_l (Z : State) (a : Addr) (k : ClassId) (w : List Value) (h0 : Heap) (n0 : Nat) (v : Option Value) (h : Heap) (L : List Loc) : Prop := (v = some (.int 0)) ∧ (Fr n0 L) ∧ (h = h0)

theorem own_cf_1_l (l : Launch) (Z : State) (a0 : Array Value) (hw : oT a0 Z) (ws : List Jvm.Cond) (a : Addr) (k : ClassId) (w : List Value) (h0 : Heap) (n0 : Nat) (Z0 : n0 ≤ h0.size) (V_a : Arv Z h0 a k .byte (1 : Int32) w (.int 0)) :
    oMet l oM15 jdk_52_method_15_code 2 (some .byte) ws ⟨0, 0, 0, 0⟩ #[(.ref a), (.int 1)] Z h0 (own_Q_own_cf_1_l Z a k w h0 n0) := by
  refine oB n0 "java/lang/StringUTF16" rfl (plainFor_of_name own_pn730740715) (fun m => own_ef_own_cf_1_l m a (1 : Int32)) ?_
  intro p e s m below meth c s₁ hZ hx hby hlk hret hml hown hnm X0 e0 N0
  show own_Gl _ _ _ _ _ _ _ (s₁.setTop (mkF m 0 #[.val (.ref a), .val (.int 1)] []))
  refine own_st (fun _ k => XS.iloadN X0.here hx rfl (hb hby own_d10_0) rfl k) ?_
  refine own_st (fun _ k => XS.aloadN X0.here hx rfl (hb hby own_d10_1) rfl rfl k) ?_
  obtain ⟨cl1, Ar1, qq1, Ss1, Nn1, Hh1, Gg1⟩ := id V_a
  refine own_st (X0.arraylength hx (by rw [e0]; exact Ar1.1) (State.isArrayOf_alike hZ.alike Ar1.2.1) (g := (mkF m 2 #[.val (.ref a), .val (.int 1)] [(.ref a), (.int 1)])) rfl rfl (hb hby own_d10_2)) ?_
  rw [len_of Ss1 Nn1]
  refine own_st (fun _ k => XS.isub X0.here hx rfl (hb hby own_d10_3) rfl k) ?_
  show own_Gl _ _ _ _ _ _ _ (s₁.setTop (mkF m 4 #[.val (.ref a), .val (.int 1)] [(.int 0)]))
  refine own_st (fun _ k => XS.bipush X0.here hx rfl (hb hby own_d10_4) k) ?_
  refine own_st (fun _ k => XS.iushr X0.here hx rfl (hb hby own_d10_6) rfl k) ?_
  refine own_st (fun _ k => XS.i2b X0.here hx rfl (hb hby own_d10_7) rfl k) ?_
  show own_Gl _ _ _ _ _ _ _ (s₁.setTop (mkF m 8 #[.val (.ref a), .val (.int 1)] [(.int ((((0 : Int32).toUInt32 >>> ((31 : Int32) &&& 31).toUInt32).toInt32).toInt8.toInt32))]))
  exact own_retN X0 hx hlk (t := .byte) hret (by simp) (hb hby own_d10_8) e0 ⟨rfl, N0, rfl⟩ (by decide) (by decide)
theorem own_d3_0 : decode jdk_42_method_149_code 0 = .ok (.aload_n 0, 1) := by decide +kernel
theorem own_d3_1 : decode jdk_42_method_149_code 1 = .ok (.invokespecial 1, 3) := by decide +kernel
theorem own_d3_4 : decode jdk_42_method_149_code 4 = .ok (.iload_n 3, 1) := by decide +kernel
theorem own_d3_5 : decode jdk_42_method_149_code 5 = .ok (.ifCond .ne 22, 3) := by decide +kernel
theorem own_d3_27 : decode jdk_42_method_149_code 27 = .ok (.getstatic 38, 3) := by decide +kernel
theorem own_d3_30 : decode jdk_42_method_149_code 30 = .ok (.ifCond .eq 28, 3) := by decide +kernel
theorem own_d3_33 : decode jdk_42_method_149_code 33 = .ok (.aload_n 1, 1) := by decide +kernel
theorem own_d3_34 : decode jdk_42_method_149_code 34 = .ok (.iload_n 2, 1) := by decide +kernel
theorem own_d3_35 : decode jdk_42_method_149_code 35 = .ok (.iload_n 3, 1) := by decide +kernel
theorem own_d3_36 : decode jdk_42_method_149_code 36 = .ok (.invokestatic 177, 3) := by decide +kernel
theorem own_pd461289092 : parseMethodDescriptor "([CII)[B" = some ⟨[(.array .char), .int, .int], some (.array .byte)⟩ := by decide +kernel
theorem own_d3_39 : decode jdk_42_method_149_code 39 = .ok (.astore 5, 2) := by decide +kernel
theorem own_d3_41 : decode jdk_42_method_149_code 41 = .ok (.aload_n 0, 1) := by decide +kernel
theorem own_d3_42 : decode jdk_42_method_149_code 42 = .ok (.aload 5, 2) := by decide +kernel
theorem own_d3_44 : decode jdk_42_method_149_code 44 = .ok (.iload_n 3, 1) := by decide +kernel
theorem own_d3_45 : decode jdk_42_method_149_code 45 = .ok (.invokestatic 47, 3) := by decide +kernel
theorem own_pd128711047 : parseMethodDescriptor "([BI)B" = some ⟨[(.array .byte), .int], some .byte⟩ := by decide +kernel
theorem own_d3_48 : decode jdk_42_method_149_code 48 = .ok (.putfield 15, 3) := by decide +kernel
theorem own_d3_51 : decode jdk_42_method_149_code 51 = .ok (.aload_n 0, 1) := by decide +kernel
theorem own_d3_52 : decode jdk_42_method_149_code 52 = .ok (.aload 5, 2) := by decide +kernel
theorem own_d3_54 : decode jdk_42_method_149_code 54 = .ok (.putfield 9, 3) := by decide +kernel
theorem own_d3_57 : decode jdk_42_method_149_code 57 = .ok (.return_, 1) := by decide +kernel
theorem own_ef_own_i4_1_l (m : MethodId) (x0 : Addr) (x1 : Addr) (x2 : Int32) (x3 : Int32) : entryFrame m #[(.ref x0), (.ref x1), (.int x2), (.int x3), .null] 6 = mkF m 0 #[.val (.ref x0), .val (.ref x1), .val (.int x2), .val (.int x3), .val .null, .unset] [] := by first | (simp [entryFrame, mkF, argsToLocals, Value.category]; done) | rfl
def own_Q_own_i4_1_l (Z : State) (a : Addr) (b : Addr) (k : ClassId) (v0 : Int32) (cs : Int32) (h0 : Heap) (n0 : Nat) (v : Option Value) (h : Heap) (L : List Loc) : Prop := ∃ (r : Addr) (kr : ClassId), (v = none) ∧ (Fr n0 L) ∧ (Keep h0 h [a]) ∧ (n0 ≤ r) ∧ (h0.size ≤ r) ∧ (Arv Z h r kr .byte (1 : Int32) [(.int (nar .byte (v0.toInt8.toInt32)))] (.int 0)) ∧ (Fld Z h a "java/lang/String" "value" "[B" (.ref r)) ∧ (Fld Z h a "java/lang/String" "coder" "B" (.int 0))

theorem own_i4_1_l (l : Launch) (Z : State) (a0 : Array Value) (hw : oT a0 Z) (ws : List Jvm.Cond) (a : Addr) (b : Addr) (k : ClassId) (v0 : Int32) (cs : Int32) (h0 : Heap) (n0 : Nat) (Z0 : n0 ≤ h0.size) (E_a : Exa Z h0 a "java/lang/String") (F_a_value : Fld Z h0 a "java/lang/String" "value" "[B" .null) (F_a_coder : Fld Z h0 a "java/lang/String" "coder" "B" (.int 0)) (g_a : n0 ≤ a) (ne_a_b : a ≠ b) (V_b : Arv Z h0 b k .char (1 : Int32) [(.int v0)] (.int 0)) (hle0 : ¬ ((255 : Int32) < v0)) (sC : Sta Z Z.heap "java/lang/String" "COMPACT_STRINGS" "Z" (.int cs)) (hcs : ¬ (cs = (0 : Int32))) (Old0 : Old Z n0 h0) :
    oMet l oM16 jdk_42_method_149_code 6 none ws ⟨2, 1, 1, 35⟩ #[(.ref a), (.ref b), (.int 0), (.int 1), .null] Z h0 (own_Q_own_i4_1_l Z a b k v0 cs h0 n0) := by
  refine oB n0 "java/lang/String" rfl (plainFor_of_name own_pn853443214) (fun m => own_ef_own_i4_1_l m a b (0 : Int32) (1 : Int32)) ?_
  intro p e s m below meth c s₁ hZ hx hby hlk hret hml hown hnm X0 e0 N0
  show own_Gl _ _ _ _ _ _ _ (s₁.setTop (mkF m 0 #[.val (.ref a), .val (.ref b), .val (.int 0), .val (.int 1), .val .null, .unset] []))
  refine own_st (fun _ k => XS.aloadN X0.here hx rfl (hb hby own_d3_0) rfl rfl k) ?_
  obtain ⟨T1, X1, e1, st1⟩ := initO X0 hx hZ hown (oW hw 15 rfl) (oW hw 16 rfl) (oW hw 17 rfl) e0 (g := (mkF m 1 #[.val (.ref a), .val (.ref b), .val (.int 0), .val (.int 1), .val .null, .unset] [(.ref a)])) rfl (by rw [hml]; rfl) rfl (hb hby own_d3_1) (by decide) (W := 0) (by show 2 * 0 + _ ≤ _; exact Nat.le_of_eq rfl) (by decide)
  refine own_st st1 ?_
  refine own_st (fun _ k => XS.iloadN X1.here hx rfl (hb hby own_d3_4) rfl k) ?_
  have hd2 : ¬ ((1 : Int32) = (0 : Int32)) := (by decide)
  refine own_st (fun _ k => XS.ifYes X1.here hx rfl (pc0 := 5) (pc' := 27) rfl (hb hby own_d3_5) rfl ((if0 _ _).trans (feq hd2).2) (by decide) (by decide) k) ?_
  show own_Gl _ _ _ _ _ _ _ (T1.setTop (mkF m 27 #[.val (.ref a), .val (.ref b), .val (.int 0), .val (.int 1), .val .null, .unset] []))
  obtain ⟨T3, X3, e3, st3⟩ := getS2 X1 hx hZ hown (host := "") (Or.inl (oW hw 44 rfl)) Via.refl e1 (sC.ext Old0.2) (g := (mkF m 27 #[.val (.ref a), .val (.ref b), .val (.int 0), .val (.int 1), .val .null, .unset] [])) rfl (hb hby own_d3_27)
  refine own_st st3 ?_
  have hd4 : ¬ (cs = (0 : Int32)) := hcs
  refine own_st (fun _ k => XS.ifNo X3.here hx rfl (hb hby own_d3_30) rfl ((if0 _ _).trans (feq hd4).1) k) ?_
  refine own_st (fun _ k => XS.aloadN X3.here hx rfl (hb hby own_d3_33) rfl rfl k) ?_
  refine own_st (fun _ k => XS.iloadN X3.here hx rfl (hb hby own_d3_34) rfl k) ?_
  show own_Gl _ _ _ _ _ _ _ (T3.setTop (mkF m 35 #[.val (.ref a), .val (.ref b), .val (.int 0), .val (.int 1), .val .null, .unset] [(.int 0), (.ref b)]))
  refine own_st (fun _ k => XS.iloadN X3.here hx rfl (hb hby own_d3_35) rfl k) ?_
  obtain ⟨_, _, ⟨T5, L5, k5, n5⟩, -, X5, ⟨Lc5, hQ5, l5, y5, z5⟩, st5⟩ := Jvm.LawKit.callS X3 hx (y := oM14) hown (mvT hZ (oW hw 45 rfl)) (mvT hZ (oW hw 46 rfl)) (mvT hZ (oW hw 47 rfl)) (mvT hZ (oW hw 48 rfl)) (by decide) (backOf (W := 0) (own_c3_1_l l Z a0 hw [] b k v0 h0 n0 Z0 V_b hle0) hZ (oW hw 48 rfl) (oW hw 47 rfl) (by decide) (by decide)) (g := (mkF m 36 #[.val (.ref a), .val (.ref b), .val (.int 0), .val (.int 1), .val .null, .unset] [(.int 1), (.int 0), (.ref b)])) rfl (by rw [hml]; rfl) (argsL := [(.ref b), (.int 0), (.int 1)]) (rest := []) (lenOf own_pd461289092 rfl) rfl (by show 2 * 0 + _ ≤ _; exact Nat.le_of_eq rfl) (hb hby own_d3_36) (fun _ _ => ⟨rfl, e3, (by decide : 0 + 1 ≤ 1), (by decide : 0 + 1 ≤ 1)⟩)
  dsimp only [Pt.U, Pt.locs, Pt.cells, Pt.slots] at X5 l5 y5 z5 st5 hQ5
  subst l5 y5 z5
  obtain ⟨hh5, eh05⟩ : ∃ z, T5.heap = z := ⟨_, rfl⟩
  rw [eh05] at hQ5
  obtain ⟨r_5, kr_5, rfl, Nq5, Kq5, P5_0, P5_1, P5_2⟩ := hQ5
  have N5 := Fr.app N0 Nq5
  refine own_st st5 ?_
  have Zs6 : n0 ≤ hh5.size := Nat.le_trans Z0 Kq5.1
  have gh_r_5 : h0.size ≤ r_5 := Nat.le_trans (Keep.refl h0 [a]).1 P5_1
  have ne_a_r_5 : a ≠ r_5 := Nat.ne_of_lt (Nat.lt_of_lt_of_le E_a.lt P5_1)
  have ne_b_r_5 : b ≠ r_5 := Nat.ne_of_lt (Nat.lt_of_lt_of_le V_b.lt P5_1)
  refine own_st (fun _ k => XS.astore X5.here hx rfl (hb hby own_d3_39) rfl rfl (l' := #[.val (.ref a), .val (.ref b), .val (.int 0), .val (.int 1), .val .null, .val (.ref r_5)]) rfl k) ?_
  refine own_st (fun _ k => XS.aloadN X5.here hx rfl (hb hby own_d3_41) rfl rfl k) ?_
  show own_Gl _ _ _ _ _ _ _ (T5.setTop (mkF m 42 #[.val (.ref a), .val (.ref b), .val (.int 0), .val (.int 1), .val .null, .val (.ref r_5)] [(.ref a)]))
  refine own_st (fun _ k => XS.aload X5.here hx rfl (hb hby own_d3_42) rfl rfl k) ?_
  refine own_st (fun _ k => XS.iloadN X5.here hx rfl (hb hby own_d3_44) rfl k) ?_
  have f8 := (E_a.keep Kq5)
  have f9 := (V_b.keep Kq5 nin0)
  obtain ⟨_, _, ⟨T7, L7, k7, n7⟩, -, X7, ⟨Lc7, hQ7, l7, y7, z7⟩, st7⟩ := Jvm.LawKit.callS X5 hx (y := oM15) hown (mvT hZ (oW hw 52 rfl)) (mvT hZ (oW hw 53 rfl)) (mvT hZ (oW hw 47 rfl)) (mvT hZ (oW hw 54 rfl)) (by decide) (backOf (W := 1) (own_cf_1_l l Z a0 hw [] r_5 kr_5 [(.int (nar .byte (v0.toInt8.toInt32)))] hh5 n0 Zs6 P5_2) hZ (oW hw 54 rfl) (oW hw 47 rfl) (by decide) (by decide)) (g := (mkF m 45 #[.val (.ref a), .val (.ref b), .val (.int 0), .val (.int 1), .val .null, .val (.ref r_5)] [(.int 1), (.ref r_5), (.ref a)])) rfl (by rw [hml]; rfl) (argsL := [(.ref r_5), (.int 1)]) (rest := [(.ref a)]) (lenOf own_pd128711047 rfl) rfl (by show 2 * 0 + _ ≤ _; exact Nat.le_of_eq rfl) (hb hby own_d3_45) (fun _ _ => ⟨rfl, eh05, (by decide : 1 + 0 ≤ 1), (by decide : 1 + 0 ≤ 1)⟩)
  dsimp only [Pt.U, Pt.locs, Pt.cells, Pt.slots] at X7 l7 y7 z7 st7 hQ7
  subst l7 y7 z7
  obtain ⟨hh7, eh07⟩ : ∃ z, T7.heap = z := ⟨_, rfl⟩
  rw [eh07] at hQ7
  obtain ⟨rfl, Nq7, eh7⟩ := hQ7
  have N7 := Fr.app N5 Nq7
  refine own_st st7 ?_
  have e7 : T7.heap = hh5 := eh07.trans eh7
  have f10 := (F_a_coder.keep Kq5 nin0)
  obtain ⟨T11, h11, X11, e11, W11, st11⟩ := putFN X7 hx hZ hown (oW hw 25 rfl) Via.refl e7 f10 f8 (Or.inr ⟨(oW hw 21 rfl), rfl, hnm⟩) (oW hw 6 rfl) (ty := .byte) (v' := (.int (nar .byte (0 : Int32)))) (by decide) rfl (fits_nar_byte _) (g := (mkF m 48 #[.val (.ref a), .val (.ref b), .val (.int 0), .val (.int 1), .val .null, .val (.ref r_5)] [(.int 0), (.ref a)])) rfl rfl (hb hby own_d3_48)
  have N11 := Fr.snoc X11 N7 g_a
  refine own_st st11 ?_
  have Zs12 : n0 ≤ h11.size := Nat.le_trans Zs6 (Keep.of_wr W11).1
  have Fw11 := f10.same W11
  show own_Gl _ _ _ _ _ _ _ (T11.setTop (mkF m 51 #[.val (.ref a), .val (.ref b), .val (.int 0), .val (.int 1), .val .null, .val (.ref r_5)] []))
  refine own_st (fun _ k => XS.aloadN X11.here hx rfl (hb hby own_d3_51) rfl rfl k) ?_
  refine own_st (fun _ k => XS.aload X11.here hx rfl (hb hby own_d3_52) rfl rfl k) ?_
  have f13 := (f8.wr W11)
  have f14 := ((F_a_value.keep Kq5 nin0).other W11 (Or.inr (slot_ne (Or.inr (oW hw 20 rfl)) (Or.inr (oW hw 21 rfl)) (by decide) (t := (.array .byte)) (t' := .byte) (by decide) (by decide))))
  obtain ⟨T15, h15, X15, e15, W15, st15⟩ := putF X11 hx hZ hown (host := "") (Or.inl (oW hw 24 rfl)) Via.refl e11 f14 f13 (Or.inr ⟨(oW hw 20 rfl), rfl, hnm⟩) (oW hw 6 rfl) (ty := (.array .byte)) (by decide) rfl rfl (g := (mkF m 54 #[.val (.ref a), .val (.ref b), .val (.int 0), .val (.int 1), .val .null, .val (.ref r_5)] [(.ref r_5), (.ref a)])) rfl rfl (hb hby own_d3_54)
  have N15 := Fr.snoc X15 N11 g_a
  refine own_st st15 ?_
  have Zs16 : n0 ≤ h15.size := Nat.le_trans Zs12 (Keep.of_wr W15).1
  have Fw15 := f14.same W15
  show own_Gl _ _ _ _ _ _ _ (T15.setTop (mkF m 57 #[.val (.ref a), .val (.ref b), .val (.int 0), .val (.int 1), .val .null, .val (.ref r_5)] []))
  have f17 := (Fw11.other W15 (Or.inr (slot_ne (Or.inr (oW hw 21 rfl)) (Or.inr (oW hw 20 rfl)) (by decide) (t := .byte) (t' := (.array .byte)) (by decide) (by decide))))
  have K18 : Keep h0 h15 [a] := ((((Keep.refl h0 [a]).trans Kq5 all0).wr W11 (Or.inl (List.mem_of_getElem? (i := 0) rfl))).wr W15 (Or.inl (List.mem_of_getElem? (i := 0) rfl)))
  have f19 := ((P5_2.other W11 (Ne.symm ne_a_r_5)).other W15 (Ne.symm ne_a_r_5))
  exact own_retV X15 hx hlk hret (hb hby own_d3_57) e15 ⟨r_5, kr_5, rfl, N15, K18, P5_0, gh_r_5, f19, Fw15, f17⟩ (by decide) (by decide)
theorem own_d2_0 : decode jdk_42_method_3_code 0 = .ok (.aload_n 0, 1) := by decide +kernel
theorem own_d2_1 : decode jdk_42_method_3_code 1 = .ok (.aload_n 1, 1) := by decide +kernel
theorem own_d2_2 : decode jdk_42_method_3_code 2 = .ok (.iconst 0, 1) := by decide +kernel
theorem own_d2_3 : decode jdk_42_method_3_code 3 = .ok (.aload_n 1, 1) := by decide +kernel
theorem own_d2_4 : decode jdk_42_method_3_code 4 = .ok (.arraylength, 1) := by decide +kernel
theorem own_d2_5 : decode jdk_42_method_3_code 5 = .ok (.aconst_null, 1) := by decide +kernel
theorem own_d2_6 : decode jdk_42_method_3_code 6 = .ok (.invokespecial 27, 3) := by decide +kernel
theorem own_pd888094010 : parseMethodDescriptor "([CIILjava/lang/Void;)V" = some ⟨[(.array .char), .int, .int, (.object "java/lang/Void")], none⟩ := by decide +kernel
theorem own_d2_9 : decode jdk_42_method_3_code 9 = .ok (.return_, 1) := by decide +kernel
theorem own_ef_own_i1_1_l (m : MethodId) (x0 : Addr) (x1 : Addr) : entryFrame m #[(.ref x0), (.ref x1)] 2 = mkF m 0 #[.val (.ref x0), .val (.ref x1)] [] := by first | (simp [entryFrame, mkF, argsToLocals, Value.category]; done) | rfl
def own_Q_own_i1_1_l (Z : State) (a : Addr) (b : Addr) (k : ClassId) (v0 : Int32) (cs : Int32) (h0 : Heap) (n0 : Nat) (v : Option Value) (h : Heap) (L : List Loc) : Prop := ∃ (r : Addr) (kr : ClassId), (v = none) ∧ (Fr n0 L) ∧ (Keep h0 h [a]) ∧ (n0 ≤ r) ∧ (h0.size ≤ r) ∧ (Arv Z h r kr .byte (1 : Int32) [(.int (nar .byte (v0.toInt8.toInt32)))] (.int 0)) ∧ (Fld Z h a "java/lang/String" "value" "[B" (.ref r)) ∧ (Fld Z h a "java/lang/String" "coder" "B" (.int 0))

theorem own_i1_1_l (l : Launch) (Z : State) (a0 : Array Value) (hw : oT a0 Z) (ws : List Jvm.Cond) (a : Addr) (b : Addr) (k : ClassId) (v0 : Int32) (cs : Int32) (h0 : Heap) (n0 : Nat) (Z0 : n0 ≤ h0.size) (E_a : Exa Z h0 a "java/lang/String") (F_a_value : Fld Z h0 a "java/lang/String" "value" "[B" .null) (F_a_coder : Fld Z h0 a "java/lang/String" "coder" "B" (.int 0)) (g_a : n0 ≤ a) (ne_a_b : a ≠ b) (V_b : Arv Z h0 b k .char (1 : Int32) [(.int v0)] (.int 0)) (hle0 : ¬ ((255 : Int32) < v0)) (sC : Sta Z Z.heap "java/lang/String" "COMPACT_STRINGS" "Z" (.int cs)) (hcs : ¬ (cs = (0 : Int32))) (Old0 : Old Z n0 h0) :
    oMet l oM17 jdk_42_method_3_code 2 none ws ⟨3, 1, 1, 52⟩ #[(.ref a), (.ref b)] Z h0 (own_Q_own_i1_1_l Z a b k v0 cs h0 n0) := by
  refine oB n0 "java/lang/String" rfl (plainFor_of_name own_pn853443214) (fun m => own_ef_own_i1_1_l m a b) ?_
  intro p e s m below meth c s₁ hZ hx hby hlk hret hml hown hnm X0 e0 N0
  show own_Gl _ _ _ _ _ _ _ (s₁.setTop (mkF m 0 #[.val (.ref a), .val (.ref b)] []))
  refine own_st (fun _ k => XS.aloadN X0.here hx rfl (hb hby own_d2_0) rfl rfl k) ?_
  refine own_st (fun _ k => XS.aloadN X0.here hx rfl (hb hby own_d2_1) rfl rfl k) ?_
  refine own_st (fun _ k => XS.iconst X0.here hx rfl (hb hby own_d2_2) k) ?_
  refine own_st (fun _ k => XS.aloadN X0.here hx rfl (hb hby own_d2_3) rfl rfl k) ?_
  show own_Gl _ _ _ _ _ _ _ (s₁.setTop (mkF m 4 #[.val (.ref a), .val (.ref b)] [(.ref b), (.int 0), (.ref b), (.ref a)]))
  obtain ⟨cl1, Ar1, qq1, Ss1, Nn1, Hh1, Gg1⟩ := id V_b
  refine own_st (X0.arraylength hx (by rw [e0]; exact Ar1.1) (State.isArrayOf_alike hZ.alike Ar1.2.1) (g := (mkF m 4 #[.val (.ref a), .val (.ref b)] [(.ref b), (.int 0), (.ref b), (.ref a)])) rfl rfl (hb hby own_d2_4)) ?_
  rw [len_of Ss1 Nn1]
  refine own_st (fun _ k => XS.aconstNull X0.here hx rfl (hb hby own_d2_5) k) ?_
  obtain ⟨_, _, ⟨T2, L2, k2, n2⟩, -, X2, ⟨Lc2, hQ2, l2, y2, z2⟩, st2⟩ := X0.specialBack hx (y := oM16) rfl hown (mvT hZ (oW hw 11 rfl)) (mvT hZ (oW hw 12 rfl)) (mvT hZ (oW hw 14 rfl)) (by decide) (backOf (W := 0) (own_i4_1_l l Z a0 hw [] a b k v0 cs h0 n0 Z0 E_a F_a_value F_a_coder g_a ne_a_b V_b hle0 sC hcs Old0) hZ (oW hw 14 rfl) (oW hw 7 rfl) (by decide) (by decide)) (g := (mkF m 6 #[.val (.ref a), .val (.ref b)] [.null, (.int 1), (.int 0), (.ref b), (.ref a)])) rfl (by rw [hml]; rfl) (Steps.refl _) (a := a) (argsL := [(.ref b), (.int 0), (.int 1), .null]) (rest := []) (lenOf own_pd888094010 rfl) rfl (by show 2 * 0 + _ ≤ _; exact Nat.le_of_eq rfl) (hb hby own_d2_6) (fun _ _ => ⟨rfl, e0, (by decide : 0 + 1 ≤ 1), (by decide : 0 + 1 ≤ 1)⟩)
  dsimp only [Pt.U, Pt.locs, Pt.cells, Pt.slots] at X2 l2 y2 z2 st2 hQ2
  subst l2 y2 z2
  obtain ⟨hh2, eh02⟩ : ∃ z, T2.heap = z := ⟨_, rfl⟩
  rw [eh02] at hQ2
  obtain ⟨r_2, kr_2, rfl, Nq2, Kq2, P2_0, P2_1, P2_2, P2_3, P2_4⟩ := hQ2
  have N2 := Fr.app N0 Nq2
  refine own_tr st2 ?_
  have Zs3 : n0 ≤ hh2.size := Nat.le_trans Z0 Kq2.1
  have gh_r_2 : h0.size ≤ r_2 := Nat.le_trans (Keep.refl h0 [a]).1 P2_1
  have ne_a_r_2 : a ≠ r_2 := Nat.ne_of_lt (Nat.lt_of_lt_of_le E_a.lt P2_1)
  have ne_b_r_2 : b ≠ r_2 := Nat.ne_of_lt (Nat.lt_of_lt_of_le V_b.lt P2_1)
  show own_Gl _ _ _ _ _ _ _ (T2.setTop (mkF m 9 #[.val (.ref a), .val (.ref b)] []))
  have K4 : Keep h0 hh2 [a] := ((Keep.refl h0 [a]).trans Kq2 (allS (Or.inl (List.mem_of_getElem? (i := 0) rfl)) all0))
  exact own_retV X2 hx hlk hret (hb hby own_d2_9) eh02 ⟨r_2, kr_2, rfl, N2, K4, P2_0, gh_r_2, P2_2, P2_3, P2_4⟩ (by decide) (by decide)
theorem own_d8_20 : decode jdk_52_method_16_code 20 = .ok (.aload_n 0, 1) := by decide +kernel
theorem own_d8_21 : decode jdk_52_method_16_code 21 = .ok (.iload_n 1, 1) := by decide +kernel
theorem own_d8_22 : decode jdk_52_method_16_code 22 = .ok (.iload_n 2, 1) := by decide +kernel
theorem own_d8_23 : decode jdk_52_method_16_code 23 = .ok (.invokestatic 119, 3) := by decide +kernel
theorem own_d8_26 : decode jdk_52_method_16_code 26 = .ok (.astore 5, 2) := by decide +kernel
theorem own_d8_28 : decode jdk_52_method_16_code 28 = .ok (.aload 5, 2) := by decide +kernel
theorem own_d8_30 : decode jdk_52_method_16_code 30 = .ok (.iload 4, 2) := by decide +kernel
theorem own_d8_32 : decode jdk_52_method_16_code 32 = .ok (.invokestatic 71, 3) := by decide +kernel
theorem own_pd128711048 : parseMethodDescriptor "([BI)C" = some ⟨[(.array .byte), .int], some .char⟩ := by decide +kernel
theorem own_d8_35 : decode jdk_52_method_16_code 35 = .ok (.sipush 255, 3) := by decide +kernel
theorem own_d8_38 : decode jdk_52_method_16_code 38 = .ok (.if_icmp .gt 16, 3) := by decide +kernel
theorem own_d8_54 : decode jdk_52_method_16_code 54 = .ok (.aload 5, 2) := by decide +kernel
theorem own_d8_56 : decode jdk_52_method_16_code 56 = .ok (.areturn, 1) := by decide +kernel
theorem own_ef_own_c3_1_u (m : MethodId) (x0 : Addr) (x1 : Int32) (x2 : Int32) : entryFrame m #[(.ref x0), (.int x1), (.int x2)] 6 = mkF m 0 #[.val (.ref x0), .val (.int x1), .val (.int x2), .unset, .unset, .unset] [] := by first | (simp [entryFrame, mkF, argsToLocals, Value.category]; done) | rfl
def own_Q_own_c3_1_u (Z : State) (a : Addr) (k : ClassId) (v0 : Int32) (h0 : Heap) (n0 : Nat) (v : Option Value) (h : Heap) (L : List Loc) : Prop := ∃ (r : Addr) (kr : ClassId), (v = some (.ref r)) ∧ (Fr n0 L) ∧ (Keep h0 h []) ∧ (n0 ≤ r) ∧ (h0.size ≤ r) ∧ (Arv Z h r kr .byte (2 : Int32) [(.int (nar .byte ((v0 >>> ((0 : Int32) &&& 31)).toInt8.toInt32))), (.int (nar .byte ((v0 >>> ((8 : Int32) &&& 31)).toInt8.toInt32)))] (.int 0))

theorem own_c3_1_u (l : Launch) (Z : State) (a0 : Array Value) (hw : oT a0 Z) (ws : List Jvm.Cond) (a : Addr) (k : ClassId) (v0 : Int32) (h0 : Heap) (n0 : Nat) (Z0 : n0 ≤ h0.size) (V_a : Arv Z h0 a k .char (1 : Int32) [(.int v0)] (.int 0)) (hbig : (255 : Int32) < v0) (Old0 : Old Z n0 h0) (sA : Sta Z Z.heap "java/lang/StringUTF16" "$assertionsDisabled" "Z" (.int 1)) (sH : Sta Z Z.heap "java/lang/StringUTF16" "HI_BYTE_SHIFT" "I" (.int 0)) (sL : Sta Z Z.heap "java/lang/StringUTF16" "LO_BYTE_SHIFT" "I" (.int 8)) (hr0 : ¬ v0 < (0 : Int32) ∧ ¬ (65535 : Int32) < v0) :
    oMet l oM14 jdk_52_method_16_code 6 (some (.array .byte)) ws ⟨3, 2, 3, 40⟩ #[(.ref a), (.int 0), (.int 1)] Z h0 (own_Q_own_c3_1_u Z a k v0 h0 n0) := by
  refine oB n0 "java/lang/StringUTF16" rfl (plainFor_of_name own_pn730740715) (fun m => own_ef_own_c3_1_u m a (0 : Int32) (1 : Int32)) ?_
  intro p e s m below meth c s₁ hZ hx hby hlk hret hml hown hnm X0 e0 N0
  show own_Gl _ _ _ _ _ _ _ (s₁.setTop (mkF m 0 #[.val (.ref a), .val (.int 0), .val (.int 1), .unset, .unset, .unset] []))
  refine own_st (fun _ k => XS.iloadN X0.here hx rfl (hb hby own_d8_0) rfl k) ?_
  obtain ⟨T1, h1, k1, X1, e1, E1, A1, st1⟩ := newP X0 hx hZ (oW hw 19 rfl) e0 (g := (mkF m 1 #[.val (.ref a), .val (.int 0), .val (.int 1), .unset, .unset, .unset] [(.int 1)])) rfl (hb hby own_d8_1) rfl (by decide) (cap := 1) (by decide) (by decide) (by decide) (by decide)
  obtain ⟨b1, gb1⟩ : ∃ z, z = h0.size := ⟨_, rfl⟩
  rw [← gb1] at A1 st1
  refine own_st st1 ?_
  have Zs2 : n0 ≤ h1.size := Nat.le_trans Z0 E1.1
  have g_b1 : n0 ≤ b1 := Nat.le_trans Z0 (Nat.le_of_eq gb1.symm)
  have gh_b1 : h0.size ≤ b1 := Nat.le_trans (Keep.refl h0 []).1 (Nat.le_of_eq gb1.symm)
  have ne_a_b1 : a ≠ b1 := Nat.ne_of_lt (Nat.lt_of_lt_of_le V_a.lt (Nat.le_of_eq gb1.symm))
  have V_b1 : Arv Z h1 b1 k1 .byte (1 : Int32) [(.int 0)] (.int 0) := (Arv.new A1 (by decide)).pad (pad_rep [] (.int 0) 1)
  refine own_st (fun _ k => XS.astoreN X1.here hx rfl (hb hby own_d8_3) rfl rfl (l' := #[.val (.ref a), .val (.int 0), .val (.int 1), .val (.ref b1), .unset, .unset]) rfl k) ?_
  refine own_st (fun _ k => XS.aloadN X1.here hx rfl (hb hby own_d8_4) rfl rfl k) ?_
  show own_Gl _ _ _ _ _ _ _ (T1.setTop (mkF m 5 #[.val (.ref a), .val (.int 0), .val (.int 1), .val (.ref b1), .unset, .unset] [(.ref a)]))
  refine own_st (fun _ k => XS.iloadN X1.here hx rfl (hb hby own_d8_5) rfl k) ?_
  refine own_st (fun _ k => XS.aloadN X1.here hx rfl (hb hby own_d8_6) rfl rfl k) ?_
  refine own_st (fun _ k => XS.iconst X1.here hx rfl (hb hby own_d8_7) k) ?_
  refine own_st (fun _ k => XS.iloadN X1.here hx rfl (hb hby own_d8_8) rfl k) ?_
  show own_Gl _ _ _ _ _ _ _ (T1.setTop (mkF m 9 #[.val (.ref a), .val (.int 0), .val (.int 1), .val (.ref b1), .unset, .unset] [(.int 1), (.int 0), (.ref b1), (.int 0), (.ref a)]))
  have hq0 := hbig
  show own_Gl _ _ _ _ _ _ _ (T1.setTop (mkF m 9 #[.val (.ref a), .val (.int 0), .val (.int 1), .val (.ref b1), .unset, .unset] [(.int 1), (.int 0), (.ref b1), (.int 0), (.ref a)]))
  have f5 := (V_a.ext E1)
  obtain ⟨_, _, ⟨T4, L4, k4, n4⟩, -, X4, ⟨Lc4, hQ4, l4, y4, z4⟩, st4⟩ := Jvm.LawKit.callS X1 hx (y := oM13) hown (mvT hZ (oW hw 49 rfl)) (mvT hZ (oW hw 50 rfl)) (mvT hZ (oW hw 47 rfl)) (mvT hZ (oW hw 51 rfl)) (by decide) (backOf (W := 0) (own_c5_1_0 l Z a0 hw [] a b1 k k1 v0 h1 n0 Zs2 f5 V_b1 g_b1 ne_a_b1 hq0) hZ (oW hw 51 rfl) (oW hw 47 rfl) (by decide) (by decide)) (g := (mkF m 9 #[.val (.ref a), .val (.int 0), .val (.int 1), .val (.ref b1), .unset, .unset] [(.int 1), (.int 0), (.ref b1), (.int 0), (.ref a)])) rfl (by rw [hml]; rfl) (argsL := [(.ref a), (.int 0), (.ref b1), (.int 0), (.int 1)]) (rest := []) (lenOf own_pd196289288 rfl) rfl (by show 2 * 0 + _ ≤ _; exact Nat.le_of_eq rfl) (hb hby own_d8_9) (fun _ _ => ⟨rfl, e1, (by decide : 1 + 0 ≤ 2), (by decide : 1 + 0 ≤ 3)⟩)
  dsimp only [Pt.U, Pt.locs, Pt.cells, Pt.slots] at X4 l4 y4 z4 st4 hQ4
  subst l4 y4 z4
  obtain ⟨hh4, eh04⟩ : ∃ z, T4.heap = z := ⟨_, rfl⟩
  rw [eh04] at hQ4
  obtain ⟨rfl, Nq4, Kq4, P4_0⟩ := hQ4
  have N4 := Fr.app N0 Nq4
  refine own_st st4 ?_
  have Zs6 : n0 ≤ hh4.size := Nat.le_trans Zs2 Kq4.1
  refine own_st (fun _ k => XS.istore X4.here hx rfl (hb hby own_d8_12) rfl (l' := #[.val (.ref a), .val (.int 0), .val (.int 1), .val (.ref b1), .val (.int 0), .unset]) rfl k) ?_
  refine own_st (fun _ k => XS.iload X4.here hx rfl (hb hby own_d8_14) rfl k) ?_
  refine own_st (fun _ k => XS.iloadN X4.here hx rfl (hb hby own_d8_16) rfl k) ?_
  show own_Gl _ _ _ _ _ _ _ (T4.setTop (mkF m 17 #[.val (.ref a), .val (.int 0), .val (.int 1), .val (.ref b1), .val (.int 0), .unset] [(.int 1), (.int 0)]))
  have hd7 : ¬ ((0 : Int32) = (1 : Int32)) := (by decide)
  refine own_st (fun _ k => XS.icmpNo X4.here hx rfl (hb hby own_d8_17) rfl (feq hd7).1 k) ?_
  refine own_st (fun _ k => XS.aloadN X4.here hx rfl (hb hby own_d8_20) rfl rfl k) ?_
  refine own_st (fun _ k => XS.iloadN X4.here hx rfl (hb hby own_d8_21) rfl k) ?_
  refine own_st (fun _ k => XS.iloadN X4.here hx rfl (hb hby own_d8_22) rfl k) ?_
  show own_Gl _ _ _ _ _ _ _ (T4.setTop (mkF m 23 #[.val (.ref a), .val (.int 0), .val (.int 1), .val (.ref b1), .val (.int 0), .unset] [(.int 1), (.int 0), (.ref a)]))
  have f9 := (f5.keep Kq4 (ninS ne_a_b1 nin0))
  have f10 := ((Old0.ext E1).keep Kq4 (allS g_b1 all0))
  obtain ⟨_, _, ⟨T8, L8, k8, n8⟩, -, X8, ⟨Lc8, hQ8, l8, y8, z8⟩, st8⟩ := Jvm.LawKit.callS X4 hx (y := oM11) hown (mvT hZ (oW hw 86 rfl)) (mvT hZ (oW hw 87 rfl)) (mvT hZ (oW hw 47 rfl)) (mvT hZ (oW hw 88 rfl)) (by decide) (backOf (W := 0) (own_tb1 l Z a0 hw [] a k v0 hh4 n0 Zs6 f9 f10 sA sH sL) hZ (oW hw 88 rfl) (oW hw 47 rfl) (by decide) (by decide)) (g := (mkF m 23 #[.val (.ref a), .val (.int 0), .val (.int 1), .val (.ref b1), .val (.int 0), .unset] [(.int 1), (.int 0), (.ref a)])) rfl (by rw [hml]; rfl) (argsL := [(.ref a), (.int 0), (.int 1)]) (rest := []) (lenOf own_pd461289092 rfl) rfl (by show 2 * 0 + _ ≤ _; exact Nat.le_of_eq rfl) (hb hby own_d8_23) (fun _ _ => ⟨rfl, eh04, (by decide : 1 + 1 ≤ 2), (by decide : 1 + 2 ≤ 3)⟩)
  dsimp only [Pt.U, Pt.locs, Pt.cells, Pt.slots] at X8 l8 y8 z8 st8 hQ8
  subst l8 y8 z8
  obtain ⟨hh8, eh08⟩ : ∃ z, T8.heap = z := ⟨_, rfl⟩
  rw [eh08] at hQ8
  obtain ⟨r_8, kr_8, rfl, Nq8, Kq8, P8_0, P8_1, P8_2⟩ := hQ8
  have N8 := Fr.app N4 Nq8
  refine own_st st8 ?_
  have K11 : Keep h0 hh4 [] := (((Keep.refl h0 []).ext E1).trans Kq4 (allS (Or.inr gh_b1) all0))
  have Zs12 : n0 ≤ hh8.size := Nat.le_trans Zs6 Kq8.1
  have gh_r_8 : h0.size ≤ r_8 := Nat.le_trans K11.1 P8_1
  have ne_a_r_8 : a ≠ r_8 := Nat.ne_of_lt (Nat.lt_of_lt_of_le f9.lt P8_1)
  have ne_b1_r_8 : b1 ≠ r_8 := Nat.ne_of_lt (Nat.lt_of_lt_of_le P4_0.lt P8_1)
  refine own_st (fun _ k => XS.astore X8.here hx rfl (hb hby own_d8_26) rfl rfl (l' := #[.val (.ref a), .val (.int 0), .val (.int 1), .val (.ref b1), .val (.int 0), .val (.ref r_8)]) rfl k) ?_
  refine own_st (fun _ k => XS.aload X8.here hx rfl (hb hby own_d8_28) rfl rfl k) ?_
  refine own_st (fun _ k => XS.iload X8.here hx rfl (hb hby own_d8_30) rfl k) ?_
  show own_Gl _ _ _ _ _ _ _ (T8.setTop (mkF m 32 #[.val (.ref a), .val (.int 0), .val (.int 1), .val (.ref b1), .val (.int 0), .val (.ref r_8)] [(.int 0), (.ref r_8)]))
  have f14 := (f10.keep Kq8 all0)
  have f15 := (f9.keep Kq8 nin0)
  have f16 := (P4_0.keep Kq8 nin0)
  obtain ⟨_, _, ⟨T13, L13, k13, n13⟩, -, X13, ⟨Lc13, hQ13, l13, y13, z13⟩, st13⟩ := Jvm.LawKit.callS X8 hx (y := oM12) hown (mvT hZ (oW hw 102 rfl)) (mvT hZ (oW hw 103 rfl)) (mvT hZ (oW hw 47 rfl)) (mvT hZ (oW hw 104 rfl)) (by decide) (backOf (W := 0) (own_get1_0 l Z a0 hw [] r_8 kr_8 v0 hh8 n0 Zs12 f14 sA sH sL P8_2 hr0) hZ (oW hw 104 rfl) (oW hw 47 rfl) (by decide) (by decide)) (g := (mkF m 32 #[.val (.ref a), .val (.int 0), .val (.int 1), .val (.ref b1), .val (.int 0), .val (.ref r_8)] [(.int 0), (.ref r_8)])) rfl (by rw [hml]; rfl) (argsL := [(.ref r_8), (.int 0)]) (rest := []) (lenOf own_pd128711048 rfl) rfl (by show 2 * 0 + _ ≤ _; exact Nat.le_of_eq rfl) (hb hby own_d8_32) (fun _ _ => ⟨rfl, eh08, (by decide : 2 + 0 ≤ 2), (by decide : 3 + 0 ≤ 3)⟩)
  dsimp only [Pt.U, Pt.locs, Pt.cells, Pt.slots] at X13 l13 y13 z13 st13 hQ13
  subst l13 y13 z13
  obtain ⟨hh13, eh013⟩ : ∃ z, T13.heap = z := ⟨_, rfl⟩
  rw [eh013] at hQ13
  obtain ⟨rfl, Nq13, eh13⟩ := hQ13
  have N13 := Fr.app N8 Nq13
  refine own_st st13 ?_
  have e13 : T13.heap = hh8 := eh013.trans eh13
  refine own_st (fun _ k => XS.sipush X13.here hx rfl (hb hby own_d8_35) k) ?_
  have hd17 : (255 : Int32) < v0 := hq0
  refine own_st (fun _ k => XS.icmpYes X13.here hx rfl (pc0 := 38) (pc' := 54) rfl (hb hby own_d8_38) rfl (tlt hd17).2.2.1 (by decide) (by decide) k) ?_
  refine own_st (fun _ k => XS.aload X13.here hx rfl (hb hby own_d8_54) rfl rfl k) ?_
  show own_Gl _ _ _ _ _ _ _ (T13.setTop (mkF m 56 #[.val (.ref a), .val (.int 0), .val (.int 1), .val (.ref b1), .val (.int 0), .val (.ref r_8)] [(.ref r_8)]))
  have K18 : Keep h0 hh8 [] := (K11.trans Kq8 all0)
  exact own_retA X13 hx hlk hret rfl rfl rfl (hb hby own_d8_56) e13 ⟨r_8, kr_8, rfl, N13, K18, P8_0, gh_r_8, P8_2⟩ (by decide) (by decide)
theorem own_ef_own_cf_1_u (m : MethodId) (x0 : Addr) (x1 : Int32) : entryFrame m #[(.ref x0), (.int x1)] 2 = mkF m 0 #[.val (.ref x0), .val (.int x1)] [] := by first | (simp [entryFrame, mkF, argsToLocals, Value.category]; done) | rfl
def own_Q_own_cf_1_u (Z : State) (a : Addr) (k : ClassId) (w : List Value) (h0 : Heap) (n0 : Nat) (v : Option Value) (h : Heap) (L : List Loc) : Prop := (v = some (.int 1)) ∧ (Fr n0 L) ∧ (h = h0)

theorem own_cf_1_u (l : Launch) (Z : State) (a0 : Array Value) (hw : oT a0 Z) (ws : List Jvm.Cond) (a : Addr) (k : ClassId) (w : List Value) (h0 : Heap) (n0 : Nat) (Z0 : n0 ≤ h0.size) (V_a : Arv Z h0 a k .byte (2 : Int32) w (.int 0)) :
    oMet l oM15 jdk_52_method_15_code 2 (some .byte) ws ⟨0, 0, 0, 0⟩ #[(.ref a), (.int 1)] Z h0 (own_Q_own_cf_1_u Z a k w h0 n0) := by
  refine oB n0 "java/lang/StringUTF16" rfl (plainFor_of_name own_pn730740715) (fun m => own_ef_own_cf_1_u m a (1 : Int32)) ?_
  intro p e s m below meth c s₁ hZ hx hby hlk hret hml hown hnm X0 e0 N0
  show own_Gl _ _ _ _ _ _ _ (s₁.setTop (mkF m 0 #[.val (.ref a), .val (.int 1)] []))
  refine own_st (fun _ k => XS.iloadN X0.here hx rfl (hb hby own_d10_0) rfl k) ?_
  refine own_st (fun _ k => XS.aloadN X0.here hx rfl (hb hby own_d10_1) rfl rfl k) ?_
  obtain ⟨cl1, Ar1, qq1, Ss1, Nn1, Hh1, Gg1⟩ := id V_a
  refine own_st (X0.arraylength hx (by rw [e0]; exact Ar1.1) (State.isArrayOf_alike hZ.alike Ar1.2.1) (g := (mkF m 2 #[.val (.ref a), .val (.int 1)] [(.ref a), (.int 1)])) rfl rfl (hb hby own_d10_2)) ?_
  rw [len_of Ss1 Nn1]
  refine own_st (fun _ k => XS.isub X0.here hx rfl (hb hby own_d10_3) rfl k) ?_
  show own_Gl _ _ _ _ _ _ _ (s₁.setTop (mkF m 4 #[.val (.ref a), .val (.int 1)] [(.int (-1))]))
  refine own_st (fun _ k => XS.bipush X0.here hx rfl (hb hby own_d10_4) k) ?_
  refine own_st (fun _ k => XS.iushr X0.here hx rfl (hb hby own_d10_6) rfl k) ?_
  refine own_st (fun _ k => XS.i2b X0.here hx rfl (hb hby own_d10_7) rfl k) ?_
  show own_Gl _ _ _ _ _ _ _ (s₁.setTop (mkF m 8 #[.val (.ref a), .val (.int 1)] [(.int ((((-1 : Int32).toUInt32 >>> ((31 : Int32) &&& 31).toUInt32).toInt32).toInt8.toInt32))]))
  exact own_retN X0 hx hlk (t := .byte) hret (by simp) (hb hby own_d10_8) e0 ⟨rfl, N0, rfl⟩ (by decide) (by decide)
theorem own_ef_own_i4_1_u (m : MethodId) (x0 : Addr) (x1 : Addr) (x2 : Int32) (x3 : Int32) : entryFrame m #[(.ref x0), (.ref x1), (.int x2), (.int x3), .null] 6 = mkF m 0 #[.val (.ref x0), .val (.ref x1), .val (.int x2), .val (.int x3), .val .null, .unset] [] := by first | (simp [entryFrame, mkF, argsToLocals, Value.category]; done) | rfl
def own_Q_own_i4_1_u (Z : State) (a : Addr) (b : Addr) (k : ClassId) (v0 : Int32) (cs : Int32) (h0 : Heap) (n0 : Nat) (v : Option Value) (h : Heap) (L : List Loc) : Prop := ∃ (r : Addr) (kr : ClassId), (v = none) ∧ (Fr n0 L) ∧ (Keep h0 h [a]) ∧ (n0 ≤ r) ∧ (h0.size ≤ r) ∧ (Arv Z h r kr .byte (2 : Int32) [(.int (nar .byte ((v0 >>> ((0 : Int32) &&& 31)).toInt8.toInt32))), (.int (nar .byte ((v0 >>> ((8 : Int32) &&& 31)).toInt8.toInt32)))] (.int 0)) ∧ (Fld Z h a "java/lang/String" "value" "[B" (.ref r)) ∧ (Fld Z h a "java/lang/String" "coder" "B" (.int 1))

theorem own_i4_1_u (l : Launch) (Z : State) (a0 : Array Value) (hw : oT a0 Z) (ws : List Jvm.Cond) (a : Addr) (b : Addr) (k : ClassId) (v0 : Int32) (cs : Int32) (h0 : Heap) (n0 : Nat) (Z0 : n0 ≤ h0.size) (E_a : Exa Z h0 a "java/lang/String") (F_a_value : Fld Z h0 a "java/lang/String" "value" "[B" .null) (F_a_coder : Fld Z h0 a "java/lang/String" "coder" "B" (.int 0)) (g_a : n0 ≤ a) (ne_a_b : a ≠ b) (V_b : Arv Z h0 b k .char (1 : Int32) [(.int v0)] (.int 0)) (hbig : (255 : Int32) < v0) (sC : Sta Z Z.heap "java/lang/String" "COMPACT_STRINGS" "Z" (.int cs)) (hcs : ¬ (cs = (0 : Int32))) (Old0 : Old Z n0 h0) (sA : Sta Z Z.heap "java/lang/StringUTF16" "$assertionsDisabled" "Z" (.int 1)) (sH : Sta Z Z.heap "java/lang/StringUTF16" "HI_BYTE_SHIFT" "I" (.int 0)) (sL : Sta Z Z.heap "java/lang/StringUTF16" "LO_BYTE_SHIFT" "I" (.int 8)) (hr0 : ¬ v0 < (0 : Int32) ∧ ¬ (65535 : Int32) < v0) :
    oMet l oM16 jdk_42_method_149_code 6 none ws ⟨4, 2, 3, 57⟩ #[(.ref a), (.ref b), (.int 0), (.int 1), .null] Z h0 (own_Q_own_i4_1_u Z a b k v0 cs h0 n0) := by
  refine oB n0 "java/lang/String" rfl (plainFor_of_name own_pn853443214) (fun m => own_ef_own_i4_1_u m a b (0 : Int32) (1 : Int32)) ?_
  intro p e s m below meth c s₁ hZ hx hby hlk hret hml hown hnm X0 e0 N0
  show own_Gl _ _ _ _ _ _ _ (s₁.setTop (mkF m 0 #[.val (.ref a), .val (.ref b), .val (.int 0), .val (.int 1), .val .null, .unset] []))
  refine own_st (fun _ k => XS.aloadN X0.here hx rfl (hb hby own_d3_0) rfl rfl k) ?_
  obtain ⟨T1, X1, e1, st1⟩ := initO X0 hx hZ hown (oW hw 15 rfl) (oW hw 16 rfl) (oW hw 17 rfl) e0 (g := (mkF m 1 #[.val (.ref a), .val (.ref b), .val (.int 0), .val (.int 1), .val .null, .unset] [(.ref a)])) rfl (by rw [hml]; rfl) rfl (hb hby own_d3_1) (by decide) (W := 0) (by show 2 * 0 + _ ≤ _; exact Nat.le_of_eq rfl) (by decide)
  refine own_st st1 ?_
  refine own_st (fun _ k => XS.iloadN X1.here hx rfl (hb hby own_d3_4) rfl k) ?_
  have hd2 : ¬ ((1 : Int32) = (0 : Int32)) := (by decide)
  refine own_st (fun _ k => XS.ifYes X1.here hx rfl (pc0 := 5) (pc' := 27) rfl (hb hby own_d3_5) rfl ((if0 _ _).trans (feq hd2).2) (by decide) (by decide) k) ?_
  show own_Gl _ _ _ _ _ _ _ (T1.setTop (mkF m 27 #[.val (.ref a), .val (.ref b), .val (.int 0), .val (.int 1), .val .null, .unset] []))
  obtain ⟨T3, X3, e3, st3⟩ := getS2 X1 hx hZ hown (host := "") (Or.inl (oW hw 44 rfl)) Via.refl e1 (sC.ext Old0.2) (g := (mkF m 27 #[.val (.ref a), .val (.ref b), .val (.int 0), .val (.int 1), .val .null, .unset] [])) rfl (hb hby own_d3_27)
  refine own_st st3 ?_
  have hd4 : ¬ (cs = (0 : Int32)) := hcs
  refine own_st (fun _ k => XS.ifNo X3.here hx rfl (hb hby own_d3_30) rfl ((if0 _ _).trans (feq hd4).1) k) ?_
  refine own_st (fun _ k => XS.aloadN X3.here hx rfl (hb hby own_d3_33) rfl rfl k) ?_
  refine own_st (fun _ k => XS.iloadN X3.here hx rfl (hb hby own_d3_34) rfl k) ?_
  show own_Gl _ _ _ _ _ _ _ (T3.setTop (mkF m 35 #[.val (.ref a), .val (.ref b), .val (.int 0), .val (.int 1), .val .null, .unset] [(.int 0), (.ref b)]))
  refine own_st (fun _ k => XS.iloadN X3.here hx rfl (hb hby own_d3_35) rfl k) ?_
  obtain ⟨_, _, ⟨T5, L5, k5, n5⟩, -, X5, ⟨Lc5, hQ5, l5, y5, z5⟩, st5⟩ := Jvm.LawKit.callS X3 hx (y := oM14) hown (mvT hZ (oW hw 45 rfl)) (mvT hZ (oW hw 46 rfl)) (mvT hZ (oW hw 47 rfl)) (mvT hZ (oW hw 48 rfl)) (by decide) (backOf (W := 0) (own_c3_1_u l Z a0 hw [] b k v0 h0 n0 Z0 V_b hbig Old0 sA sH sL hr0) hZ (oW hw 48 rfl) (oW hw 47 rfl) (by decide) (by decide)) (g := (mkF m 36 #[.val (.ref a), .val (.ref b), .val (.int 0), .val (.int 1), .val .null, .unset] [(.int 1), (.int 0), (.ref b)])) rfl (by rw [hml]; rfl) (argsL := [(.ref b), (.int 0), (.int 1)]) (rest := []) (lenOf own_pd461289092 rfl) rfl (by show 2 * 0 + _ ≤ _; exact Nat.le_of_eq rfl) (hb hby own_d3_36) (fun _ _ => ⟨rfl, e3, (by decide : 0 + 2 ≤ 2), (by decide : 0 + 3 ≤ 3)⟩)
  dsimp only [Pt.U, Pt.locs, Pt.cells, Pt.slots] at X5 l5 y5 z5 st5 hQ5
  subst l5 y5 z5
  obtain ⟨hh5, eh05⟩ : ∃ z, T5.heap = z := ⟨_, rfl⟩
  rw [eh05] at hQ5
  obtain ⟨r_5, kr_5, rfl, Nq5, Kq5, P5_0, P5_1, P5_2⟩ := hQ5
  have N5 := Fr.app N0 Nq5
  refine own_st st5 ?_
  have Zs6 : n0 ≤ hh5.size := Nat.le_trans Z0 Kq5.1
  have gh_r_5 : h0.size ≤ r_5 := Nat.le_trans (Keep.refl h0 [a]).1 P5_1
  have ne_a_r_5 : a ≠ r_5 := Nat.ne_of_lt (Nat.lt_of_lt_of_le E_a.lt P5_1)
  have ne_b_r_5 : b ≠ r_5 := Nat.ne_of_lt (Nat.lt_of_lt_of_le V_b.lt P5_1)
  refine own_st (fun _ k => XS.astore X5.here hx rfl (hb hby own_d3_39) rfl rfl (l' := #[.val (.ref a), .val (.ref b), .val (.int 0), .val (.int 1), .val .null, .val (.ref r_5)]) rfl k) ?_
  refine own_st (fun _ k => XS.aloadN X5.here hx rfl (hb hby own_d3_41) rfl rfl k) ?_
  show own_Gl _ _ _ _ _ _ _ (T5.setTop (mkF m 42 #[.val (.ref a), .val (.ref b), .val (.int 0), .val (.int 1), .val .null, .val (.ref r_5)] [(.ref a)]))
  refine own_st (fun _ k => XS.aload X5.here hx rfl (hb hby own_d3_42) rfl rfl k) ?_
  refine own_st (fun _ k => XS.iloadN X5.here hx rfl (hb hby own_d3_44) rfl k) ?_
  have f8 := (E_a.keep Kq5)
  have f9 := (V_b.keep Kq5 nin0)
  obtain ⟨_, _, ⟨T7, L7, k7, n7⟩, -, X7, ⟨Lc7, hQ7, l7, y7, z7⟩, st7⟩ := Jvm.LawKit.callS X5 hx (y := oM15) hown (mvT hZ (oW hw 52 rfl)) (mvT hZ (oW hw 53 rfl)) (mvT hZ (oW hw 47 rfl)) (mvT hZ (oW hw 54 rfl)) (by decide) (backOf (W := 1) (own_cf_1_u l Z a0 hw [] r_5 kr_5 [(.int (nar .byte ((v0 >>> ((0 : Int32) &&& 31)).toInt8.toInt32))), (.int (nar .byte ((v0 >>> ((8 : Int32) &&& 31)).toInt8.toInt32)))] hh5 n0 Zs6 P5_2) hZ (oW hw 54 rfl) (oW hw 47 rfl) (by decide) (by decide)) (g := (mkF m 45 #[.val (.ref a), .val (.ref b), .val (.int 0), .val (.int 1), .val .null, .val (.ref r_5)] [(.int 1), (.ref r_5), (.ref a)])) rfl (by rw [hml]; rfl) (argsL := [(.ref r_5), (.int 1)]) (rest := [(.ref a)]) (lenOf own_pd128711047 rfl) rfl (by show 2 * 0 + _ ≤ _; exact Nat.le_of_eq rfl) (hb hby own_d3_45) (fun _ _ => ⟨rfl, eh05, (by decide : 2 + 0 ≤ 2), (by decide : 3 + 0 ≤ 3)⟩)
  dsimp only [Pt.U, Pt.locs, Pt.cells, Pt.slots] at X7 l7 y7 z7 st7 hQ7
  subst l7 y7 z7
  obtain ⟨hh7, eh07⟩ : ∃ z, T7.heap = z := ⟨_, rfl⟩
  rw [eh07] at hQ7
  obtain ⟨rfl, Nq7, eh7⟩ := hQ7
  have N7 := Fr.app N5 Nq7
  refine own_st st7 ?_
  have e7 : T7.heap = hh5 := eh07.trans eh7
  have f10 := (F_a_coder.keep Kq5 nin0)
  obtain ⟨T11, h11, X11, e11, W11, st11⟩ := putFN X7 hx hZ hown (oW hw 25 rfl) Via.refl e7 f10 f8 (Or.inr ⟨(oW hw 21 rfl), rfl, hnm⟩) (oW hw 6 rfl) (ty := .byte) (v' := (.int (nar .byte (1 : Int32)))) (by decide) rfl (fits_nar_byte _) (g := (mkF m 48 #[.val (.ref a), .val (.ref b), .val (.int 0), .val (.int 1), .val .null, .val (.ref r_5)] [(.int 1), (.ref a)])) rfl rfl (hb hby own_d3_48)
  have N11 := Fr.snoc X11 N7 g_a
  refine own_st st11 ?_
  have Zs12 : n0 ≤ h11.size := Nat.le_trans Zs6 (Keep.of_wr W11).1
  have Fw11 := f10.same W11
  show own_Gl _ _ _ _ _ _ _ (T11.setTop (mkF m 51 #[.val (.ref a), .val (.ref b), .val (.int 0), .val (.int 1), .val .null, .val (.ref r_5)] []))
  refine own_st (fun _ k => XS.aloadN X11.here hx rfl (hb hby own_d3_51) rfl rfl k) ?_
  refine own_st (fun _ k => XS.aload X11.here hx rfl (hb hby own_d3_52) rfl rfl k) ?_
  have f13 := (f8.wr W11)
  have f14 := ((F_a_value.keep Kq5 nin0).other W11 (Or.inr (slot_ne (Or.inr (oW hw 20 rfl)) (Or.inr (oW hw 21 rfl)) (by decide) (t := (.array .byte)) (t' := .byte) (by decide) (by decide))))
  obtain ⟨T15, h15, X15, e15, W15, st15⟩ := putF X11 hx hZ hown (host := "") (Or.inl (oW hw 24 rfl)) Via.refl e11 f14 f13 (Or.inr ⟨(oW hw 20 rfl), rfl, hnm⟩) (oW hw 6 rfl) (ty := (.array .byte)) (by decide) rfl rfl (g := (mkF m 54 #[.val (.ref a), .val (.ref b), .val (.int 0), .val (.int 1), .val .null, .val (.ref r_5)] [(.ref r_5), (.ref a)])) rfl rfl (hb hby own_d3_54)
  have N15 := Fr.snoc X15 N11 g_a
  refine own_st st15 ?_
  have Zs16 : n0 ≤ h15.size := Nat.le_trans Zs12 (Keep.of_wr W15).1
  have Fw15 := f14.same W15
  show own_Gl _ _ _ _ _ _ _ (T15.setTop (mkF m 57 #[.val (.ref a), .val (.ref b), .val (.int 0), .val (.int 1), .val .null, .val (.ref r_5)] []))
  have f17 := (Fw11.other W15 (Or.inr (slot_ne (Or.inr (oW hw 21 rfl)) (Or.inr (oW hw 20 rfl)) (by decide) (t := .byte) (t' := (.array .byte)) (by decide) (by decide))))
  have K18 : Keep h0 h15 [a] := ((((Keep.refl h0 [a]).trans Kq5 all0).wr W11 (Or.inl (List.mem_of_getElem? (i := 0) rfl))).wr W15 (Or.inl (List.mem_of_getElem? (i := 0) rfl)))
  have f19 := ((P5_2.other W11 (Ne.symm ne_a_r_5)).other W15 (Ne.symm ne_a_r_5))
  exact own_retV X15 hx hlk hret (hb hby own_d3_57) e15 ⟨r_5, kr_5, rfl, N15, K18, P5_0, gh_r_5, f19, Fw15, f17⟩ (by decide) (by decide)
theorem own_ef_own_i1_1_u (m : MethodId) (x0 : Addr) (x1 : Addr) : entryFrame m #[(.ref x0), (.ref x1)] 2 = mkF m 0 #[.val (.ref x0), .val (.ref x1)] [] := by first | (simp [entryFrame, mkF, argsToLocals, Value.category]; done) | rfl
def own_Q_own_i1_1_u (Z : State) (a : Addr) (b : Addr) (k : ClassId) (v0 : Int32) (cs : Int32) (h0 : Heap) (n0 : Nat) (v : Option Value) (h : Heap) (L : List Loc) : Prop := ∃ (r : Addr) (kr : ClassId), (v = none) ∧ (Fr n0 L) ∧ (Keep h0 h [a]) ∧ (n0 ≤ r) ∧ (h0.size ≤ r) ∧ (Arv Z h r kr .byte (2 : Int32) [(.int (nar .byte ((v0 >>> ((0 : Int32) &&& 31)).toInt8.toInt32))), (.int (nar .byte ((v0 >>> ((8 : Int32) &&& 31)).toInt8.toInt32)))] (.int 0)) ∧ (Fld Z h a "java/lang/String" "value" "[B" (.ref r)) ∧ (Fld Z h a "java/lang/String" "coder" "B" (.int 1))

theorem own_i1_1_u (l : Launch) (Z : State) (a0 : Array Value) (hw : oT a0 Z) (ws : List Jvm.Cond) (a : Addr) (b : Addr) (k : ClassId) (v0 : Int32) (cs : Int32) (h0 : Heap) (n0 : Nat) (Z0 : n0 ≤ h0.size) (E_a : Exa Z h0 a "java/lang/String") (F_a_value : Fld Z h0 a "java/lang/String" "value" "[B" .null) (F_a_coder : Fld Z h0 a "java/lang/String" "coder" "B" (.int 0)) (g_a : n0 ≤ a) (ne_a_b : a ≠ b) (V_b : Arv Z h0 b k .char (1 : Int32) [(.int v0)] (.int 0)) (hbig : (255 : Int32) < v0) (sC : Sta Z Z.heap "java/lang/String" "COMPACT_STRINGS" "Z" (.int cs)) (hcs : ¬ (cs = (0 : Int32))) (Old0 : Old Z n0 h0) (sA : Sta Z Z.heap "java/lang/StringUTF16" "$assertionsDisabled" "Z" (.int 1)) (sH : Sta Z Z.heap "java/lang/StringUTF16" "HI_BYTE_SHIFT" "I" (.int 0)) (sL : Sta Z Z.heap "java/lang/StringUTF16" "LO_BYTE_SHIFT" "I" (.int 8)) (hr0 : ¬ v0 < (0 : Int32) ∧ ¬ (65535 : Int32) < v0) :
    oMet l oM17 jdk_42_method_3_code 2 none ws ⟨5, 2, 3, 74⟩ #[(.ref a), (.ref b)] Z h0 (own_Q_own_i1_1_u Z a b k v0 cs h0 n0) := by
  refine oB n0 "java/lang/String" rfl (plainFor_of_name own_pn853443214) (fun m => own_ef_own_i1_1_u m a b) ?_
  intro p e s m below meth c s₁ hZ hx hby hlk hret hml hown hnm X0 e0 N0
  show own_Gl _ _ _ _ _ _ _ (s₁.setTop (mkF m 0 #[.val (.ref a), .val (.ref b)] []))
  refine own_st (fun _ k => XS.aloadN X0.here hx rfl (hb hby own_d2_0) rfl rfl k) ?_
  refine own_st (fun _ k => XS.aloadN X0.here hx rfl (hb hby own_d2_1) rfl rfl k) ?_
  refine own_st (fun _ k => XS.iconst X0.here hx rfl (hb hby own_d2_2) k) ?_
  refine own_st (fun _ k => XS.aloadN X0.here hx rfl (hb hby own_d2_3) rfl rfl k) ?_
  show own_Gl _ _ _ _ _ _ _ (s₁.setTop (mkF m 4 #[.val (.ref a), .val (.ref b)] [(.ref b), (.int 0), (.ref b), (.ref a)]))
  obtain ⟨cl1, Ar1, qq1, Ss1, Nn1, Hh1, Gg1⟩ := id V_b
  refine own_st (X0.arraylength hx (by rw [e0]; exact Ar1.1) (State.isArrayOf_alike hZ.alike Ar1.2.1) (g := (mkF m 4 #[.val (.ref a), .val (.ref b)] [(.ref b), (.int 0), (.ref b), (.ref a)])) rfl rfl (hb hby own_d2_4)) ?_
  rw [len_of Ss1 Nn1]
  refine own_st (fun _ k => XS.aconstNull X0.here hx rfl (hb hby own_d2_5) k) ?_
  obtain ⟨_, _, ⟨T2, L2, k2, n2⟩, -, X2, ⟨Lc2, hQ2, l2, y2, z2⟩, st2⟩ := X0.specialBack hx (y := oM16) rfl hown (mvT hZ (oW hw 11 rfl)) (mvT hZ (oW hw 12 rfl)) (mvT hZ (oW hw 14 rfl)) (by decide) (backOf (W := 0) (own_i4_1_u l Z a0 hw [] a b k v0 cs h0 n0 Z0 E_a F_a_value F_a_coder g_a ne_a_b V_b hbig sC hcs Old0 sA sH sL hr0) hZ (oW hw 14 rfl) (oW hw 7 rfl) (by decide) (by decide)) (g := (mkF m 6 #[.val (.ref a), .val (.ref b)] [.null, (.int 1), (.int 0), (.ref b), (.ref a)])) rfl (by rw [hml]; rfl) (Steps.refl _) (a := a) (argsL := [(.ref b), (.int 0), (.int 1), .null]) (rest := []) (lenOf own_pd888094010 rfl) rfl (by show 2 * 0 + _ ≤ _; exact Nat.le_of_eq rfl) (hb hby own_d2_6) (fun _ _ => ⟨rfl, e0, (by decide : 0 + 2 ≤ 2), (by decide : 0 + 3 ≤ 3)⟩)
  dsimp only [Pt.U, Pt.locs, Pt.cells, Pt.slots] at X2 l2 y2 z2 st2 hQ2
  subst l2 y2 z2
  obtain ⟨hh2, eh02⟩ : ∃ z, T2.heap = z := ⟨_, rfl⟩
  rw [eh02] at hQ2
  obtain ⟨r_2, kr_2, rfl, Nq2, Kq2, P2_0, P2_1, P2_2, P2_3, P2_4⟩ := hQ2
  have N2 := Fr.app N0 Nq2
  refine own_tr st2 ?_
  have Zs3 : n0 ≤ hh2.size := Nat.le_trans Z0 Kq2.1
  have gh_r_2 : h0.size ≤ r_2 := Nat.le_trans (Keep.refl h0 [a]).1 P2_1
  have ne_a_r_2 : a ≠ r_2 := Nat.ne_of_lt (Nat.lt_of_lt_of_le E_a.lt P2_1)
  have ne_b_r_2 : b ≠ r_2 := Nat.ne_of_lt (Nat.lt_of_lt_of_le V_b.lt P2_1)
  show own_Gl _ _ _ _ _ _ _ (T2.setTop (mkF m 9 #[.val (.ref a), .val (.ref b)] []))
  have K4 : Keep h0 hh2 [a] := ((Keep.refl h0 [a]).trans Kq2 (allS (Or.inl (List.mem_of_getElem? (i := 0) rfl)) all0))
  exact own_retV X2 hx hlk hret (hb hby own_d2_9) eh02 ⟨r_2, kr_2, rfl, N2, K4, P2_0, gh_r_2, P2_2, P2_3, P2_4⟩ (by decide) (by decide)
theorem own_d25_0 : decode jdk_52_method_6_code 0 = .ok (.aload_n 0, 1) := by decide +kernel
theorem own_d25_1 : decode jdk_52_method_6_code 1 = .ok (.arraylength, 1) := by decide +kernel
theorem own_d25_2 : decode jdk_52_method_6_code 2 = .ok (.iconst 1, 1) := by decide +kernel
theorem own_d25_3 : decode jdk_52_method_6_code 3 = .ok (.ishr, 1) := by decide +kernel
theorem own_d25_4 : decode jdk_52_method_6_code 4 = .ok (.ireturn, 1) := by decide +kernel
theorem own_ef_own_ulen1 (m : MethodId) (x0 : Addr) : entryFrame m #[(.ref x0)] 1 = mkF m 0 #[.val (.ref x0)] [] := by first | (simp [entryFrame, mkF, argsToLocals, Value.category]; done) | rfl
def own_Q_own_ulen1 (Z : State) (a : Addr) (k : ClassId) (vl : List Value) (h0 : Heap) (n0 : Nat) (v : Option Value) (h : Heap) (L : List Loc) : Prop := (v = some (.int 1)) ∧ (Fr n0 L) ∧ (h = h0)

theorem own_ulen1 (l : Launch) (Z : State) (a0 : Array Value) (hw : oT a0 Z) (ws : List Jvm.Cond) (a : Addr) (k : ClassId) (vl : List Value) (h0 : Heap) (n0 : Nat) (Z0 : n0 ≤ h0.size) (V_a : Arv Z h0 a k .byte (2 : Int32) vl (.int 0)) :
    oMet l oM18 jdk_52_method_6_code 1 (some .int) ws ⟨0, 0, 0, 0⟩ #[(.ref a)] Z h0 (own_Q_own_ulen1 Z a k vl h0 n0) := by
  refine oB n0 "java/lang/StringUTF16" rfl (plainFor_of_name own_pn730740715) (fun m => own_ef_own_ulen1 m a) ?_
  intro p e s m below meth c s₁ hZ hx hby hlk hret hml hown hnm X0 e0 N0
  show own_Gl _ _ _ _ _ _ _ (s₁.setTop (mkF m 0 #[.val (.ref a)] []))
  refine own_st (fun _ k => XS.aloadN X0.here hx rfl (hb hby own_d25_0) rfl rfl k) ?_
  obtain ⟨cl1, Ar1, qq1, Ss1, Nn1, Hh1, Gg1⟩ := id V_a
  refine own_st (X0.arraylength hx (by rw [e0]; exact Ar1.1) (State.isArrayOf_alike hZ.alike Ar1.2.1) (g := (mkF m 1 #[.val (.ref a)] [(.ref a)])) rfl rfl (hb hby own_d25_1)) ?_
  rw [len_of Ss1 Nn1]
  refine own_st (fun _ k => XS.iconst X0.here hx rfl (hb hby own_d25_2) k) ?_
  refine own_st (fun _ k => XS.ishr X0.here hx rfl (hb hby own_d25_3) rfl k) ?_
  show own_Gl _ _ _ _ _ _ _ (s₁.setTop (mkF m 4 #[.val (.ref a)] [(.int ((2 : Int32) >>> ((1 : Int32) &&& 31)))]))
  exact own_retI X0 hx hlk hret (hb hby own_d25_4) e0 ⟨rfl, N0, rfl⟩ (by decide) (by decide)
theorem own_d14_0 : decode jdk_43_method_2_code 0 = .ok (.iload_n 1, 1) := by decide +kernel
theorem own_d14_1 : decode jdk_43_method_2_code 1 = .ok (.aload_n 0, 1) := by decide +kernel
theorem own_d14_2 : decode jdk_43_method_2_code 2 = .ok (.arraylength, 1) := by decide +kernel
theorem own_d14_3 : decode jdk_43_method_2_code 3 = .ok (.invokestatic 9, 3) := by decide +kernel
theorem own_pd945365693 : parseMethodDescriptor "(II)V" = some ⟨[.int, .int], none⟩ := by decide +kernel
theorem own_d14_6 : decode jdk_43_method_2_code 6 = .ok (.aload_n 0, 1) := by decide +kernel
theorem own_d14_7 : decode jdk_43_method_2_code 7 = .ok (.iload_n 1, 1) := by decide +kernel
theorem own_d14_8 : decode jdk_43_method_2_code 8 = .ok (.baload, 1) := by decide +kernel
theorem own_d14_9 : decode jdk_43_method_2_code 9 = .ok (.sipush 255, 3) := by decide +kernel
theorem own_d14_12 : decode jdk_43_method_2_code 12 = .ok (.iand, 1) := by decide +kernel
theorem own_d14_13 : decode jdk_43_method_2_code 13 = .ok (.i2c, 1) := by decide +kernel
theorem own_d14_14 : decode jdk_43_method_2_code 14 = .ok (.ireturn, 1) := by decide +kernel
theorem own_ef_own_l1c1_0 (m : MethodId) (x0 : Addr) (x1 : Int32) : entryFrame m #[(.ref x0), (.int x1)] 2 = mkF m 0 #[.val (.ref x0), .val (.int x1)] [] := by first | (simp [entryFrame, mkF, argsToLocals, Value.category]; done) | rfl
def own_Q_own_l1c1_0 (Z : State) (a : Addr) (k : ClassId) (sf : Value) (v0 : Int32) (h0 : Heap) (n0 : Nat) (v : Option Value) (h : Heap) (L : List Loc) : Prop := (v = some (.int v0)) ∧ (Fr n0 L) ∧ (h = h0)
theorem own_pn340705600 : plainName "java/lang/StringLatin1" = true := by first | (simp [plainName, overriddenIn]; done) | decide +kernel

theorem own_l1c1_0 (l : Launch) (Z : State) (a0 : Array Value) (hw : oT a0 Z) (ws : List Jvm.Cond) (a : Addr) (k : ClassId) (sf : Value) (v0 : Int32) (h0 : Heap) (n0 : Nat) (Z0 : n0 ≤ h0.size) (Old0 : Old Z n0 h0) (sF : Sta Z Z.heap "jdk/internal/util/Preconditions" "SIOOBE_FORMATTER" "Ljava/util/function/BiFunction;" sf) (hsf : sf.isRef = true) (V_a : Arv Z h0 a k .byte (1 : Int32) [(.int (nar .byte (v0.toInt8.toInt32)))] (.int 0)) (hr0 : ¬ v0 < (0 : Int32) ∧ ¬ (255 : Int32) < v0) :
    oMet l oM19 jdk_43_method_2_code 2 (some .char) ws ⟨2, 0, 0, 27⟩ #[(.ref a), (.int 0)] Z h0 (own_Q_own_l1c1_0 Z a k sf v0 h0 n0) := by
  refine oB n0 "java/lang/StringLatin1" rfl (plainFor_of_name own_pn340705600) (fun m => own_ef_own_l1c1_0 m a (0 : Int32)) ?_
  intro p e s m below meth c s₁ hZ hx hby hlk hret hml hown hnm X0 e0 N0
  show own_Gl _ _ _ _ _ _ _ (s₁.setTop (mkF m 0 #[.val (.ref a), .val (.int 0)] []))
  refine own_st (fun _ k => XS.iloadN X0.here hx rfl (hb hby own_d14_0) rfl k) ?_
  refine own_st (fun _ k => XS.aloadN X0.here hx rfl (hb hby own_d14_1) rfl rfl k) ?_
  obtain ⟨cl1, Ar1, qq1, Ss1, Nn1, Hh1, Gg1⟩ := id V_a
  refine own_st (X0.arraylength hx (by rw [e0]; exact Ar1.1) (State.isArrayOf_alike hZ.alike Ar1.2.1) (g := (mkF m 2 #[.val (.ref a), .val (.int 0)] [(.ref a), (.int 0)])) rfl rfl (hb hby own_d14_2)) ?_
  rw [len_of Ss1 Nn1]
  obtain ⟨_, _, ⟨T2, L2, k2, n2⟩, -, X2, ⟨Lc2, hQ2, l2, y2, z2⟩, st2⟩ := Jvm.LawKit.callS X0 hx (y := oM7) hown (mvT hZ (oW hw 75 rfl)) (mvT hZ (oW hw 76 rfl)) (mvT hZ (oW hw 7 rfl)) (mvT hZ (oW hw 77 rfl)) (by decide) (backOf (W := 0) (own_sci l Z a0 hw [] (0 : Int32) (1 : Int32) sf h0 n0 Z0 Old0 sF hsf (by decide) (by decide)) hZ (oW hw 77 rfl) (oW hw 7 rfl) (by decide) (by decide)) (g := (mkF m 3 #[.val (.ref a), .val (.int 0)] [(.int 1), (.int 0)])) rfl (by rw [hml]; rfl) (argsL := [(.int 0), (.int 1)]) (rest := []) (lenOf own_pd945365693 rfl) rfl (by show 2 * 0 + _ ≤ _; exact Nat.le_of_eq rfl) (hb hby own_d14_3) (fun _ _ => ⟨rfl, e0, (by decide : 0 + 0 ≤ 0), (by decide : 0 + 0 ≤ 0)⟩)
  dsimp only [Pt.U, Pt.locs, Pt.cells, Pt.slots] at X2 l2 y2 z2 st2 hQ2
  subst l2 y2 z2
  obtain ⟨hh2, eh02⟩ : ∃ z, T2.heap = z := ⟨_, rfl⟩
  rw [eh02] at hQ2
  obtain ⟨rfl, Nq2, eh2⟩ := hQ2
  have N2 := Fr.app N0 Nq2
  refine own_st st2 ?_
  have e2 : T2.heap = h0 := eh02.trans eh2
  show own_Gl _ _ _ _ _ _ _ (T2.setTop (mkF m 6 #[.val (.ref a), .val (.int 0)] []))
  refine own_st (fun _ k => XS.aloadN X2.here hx rfl (hb hby own_d14_6) rfl rfl k) ?_
  refine own_st (fun _ k => XS.iloadN X2.here hx rfl (hb hby own_d14_7) rfl k) ?_
  obtain ⟨cl3, Ar3, qq3, Ss3, Nn3, Hh3, Gg3⟩ := id V_a
  have hin3 : ¬ ((0 : Int32) < 0 ∨ cl3.slots.size ≤ ((0 : Int32)).toNatClampNeg) := inb_of Ss3 ⟨by decide, by decide⟩
  have hat3 : cl3.slots[((0 : Int32)).toNatClampNeg]? = some (.int (nar .byte (v0.toInt8.toInt32))) := Hh3.at hin3 (rfl)
  refine own_st (X2.baloadBytes hx (j := (0 : Int32)) (v := (.int (nar .byte (v0.toInt8.toInt32)))) (by rw [e2]; exact Ar3.1) (State.isArrayOf_alike hZ.alike Ar3.2.1) Ar3.2.2 hin3 hat3 (g := (mkF m 8 #[.val (.ref a), .val (.int 0)] [(.int 0), (.ref a)])) rfl rfl (hb hby own_d14_8)) ?_
  refine own_st (fun _ k => XS.sipush X2.here hx rfl (hb hby own_d14_9) k) ?_
  show own_Gl _ _ _ _ _ _ _ (T2.setTop (mkF m 12 #[.val (.ref a), .val (.int 0)] [(.int 255), (.int (nar .byte (v0.toInt8.toInt32)))]))
  refine own_st (fun _ k => XS.iand X2.here hx rfl (hb hby own_d14_12) rfl k) ?_
  refine own_st (fun _ k => XS.i2c X2.here hx rfl (hb hby own_d14_13) rfl k) ?_
  show own_Gl _ _ _ _ _ _ _ (T2.setTop (mkF m 14 #[.val (.ref a), .val (.int 0)] [(.int (((nar .byte (v0.toInt8.toInt32)) &&& (255 : Int32)).toUInt32.toUInt16.toUInt32.toInt32))]))
  exact own_retN X2 hx hlk (t := .char) hret (by simp) (hb hby own_d14_14) e2 ⟨by rw [own_lch _ hr0], N2, rfl⟩ (by decide) (by decide)
theorem own_d24_0 : decode jdk_52_method_91_code 0 = .ok (.iload_n 0, 1) := by decide +kernel
theorem own_d24_1 : decode jdk_52_method_91_code 1 = .ok (.aload_n 1, 1) := by decide +kernel
theorem own_d24_2 : decode jdk_52_method_91_code 2 = .ok (.invokestatic 48, 3) := by decide +kernel
theorem own_pd985711191 : parseMethodDescriptor "([B)I" = some ⟨[(.array .byte)], some .int⟩ := by decide +kernel
theorem own_d24_5 : decode jdk_52_method_91_code 5 = .ok (.invokestatic 414, 3) := by decide +kernel
theorem own_d24_8 : decode jdk_52_method_91_code 8 = .ok (.return_, 1) := by decide +kernel
theorem own_ef_own_uci1_0 (m : MethodId) (x0 : Int32) (x1 : Addr) : entryFrame m #[(.int x0), (.ref x1)] 2 = mkF m 0 #[.val (.int x0), .val (.ref x1)] [] := by first | (simp [entryFrame, mkF, argsToLocals, Value.category]; done) | rfl
def own_Q_own_uci1_0 (Z : State) (a : Addr) (k : ClassId) (vl : List Value) (sf : Value) (h0 : Heap) (n0 : Nat) (v : Option Value) (h : Heap) (L : List Loc) : Prop := (v = none) ∧ (Fr n0 L) ∧ (h = h0)

theorem own_uci1_0 (l : Launch) (Z : State) (a0 : Array Value) (hw : oT a0 Z) (ws : List Jvm.Cond) (a : Addr) (k : ClassId) (vl : List Value) (sf : Value) (h0 : Heap) (n0 : Nat) (Z0 : n0 ≤ h0.size) (Old0 : Old Z n0 h0) (sF : Sta Z Z.heap "jdk/internal/util/Preconditions" "SIOOBE_FORMATTER" "Ljava/util/function/BiFunction;" sf) (hsf : sf.isRef = true) (V_a : Arv Z h0 a k .byte (2 : Int32) vl (.int 0)) :
    oMet l oM20 jdk_52_method_91_code 2 none ws ⟨2, 0, 0, 27⟩ #[(.int 0), (.ref a)] Z h0 (own_Q_own_uci1_0 Z a k vl sf h0 n0) := by
  refine oB n0 "java/lang/StringUTF16" rfl (plainFor_of_name own_pn730740715) (fun m => own_ef_own_uci1_0 m (0 : Int32) a) ?_
  intro p e s m below meth c s₁ hZ hx hby hlk hret hml hown hnm X0 e0 N0
  show own_Gl _ _ _ _ _ _ _ (s₁.setTop (mkF m 0 #[.val (.int 0), .val (.ref a)] []))
  refine own_st (fun _ k => XS.iloadN X0.here hx rfl (hb hby own_d24_0) rfl k) ?_
  refine own_st (fun _ k => XS.aloadN X0.here hx rfl (hb hby own_d24_1) rfl rfl k) ?_
  obtain ⟨_, _, ⟨T1, L1, k1, n1⟩, -, X1, ⟨Lc1, hQ1, l1, y1, z1⟩, st1⟩ := Jvm.LawKit.callS X0 hx (y := oM18) hown (mvT hZ (oW hw 111 rfl)) (mvT hZ (oW hw 112 rfl)) (mvT hZ (oW hw 47 rfl)) (mvT hZ (oW hw 113 rfl)) (by decide) (backOf (W := 1) (own_ulen1 l Z a0 hw [] a k vl h0 n0 Z0 V_a) hZ (oW hw 113 rfl) (oW hw 47 rfl) (by decide) (by decide)) (g := (mkF m 2 #[.val (.int 0), .val (.ref a)] [(.ref a), (.int 0)])) rfl (by rw [hml]; rfl) (argsL := [(.ref a)]) (rest := [(.int 0)]) (lenOf own_pd985711191 rfl) rfl (by show 2 * 0 + _ ≤ _; exact Nat.le_of_eq rfl) (hb hby own_d24_2) (fun _ _ => ⟨rfl, e0, (by decide : 0 + 0 ≤ 0), (by decide : 0 + 0 ≤ 0)⟩)
  dsimp only [Pt.U, Pt.locs, Pt.cells, Pt.slots] at X1 l1 y1 z1 st1 hQ1
  subst l1 y1 z1
  obtain ⟨hh1, eh01⟩ : ∃ z, T1.heap = z := ⟨_, rfl⟩
  rw [eh01] at hQ1
  obtain ⟨rfl, Nq1, eh1⟩ := hQ1
  have N1 := Fr.app N0 Nq1
  refine own_st st1 ?_
  have e1 : T1.heap = h0 := eh01.trans eh1
  obtain ⟨_, _, ⟨T2, L2, k2, n2⟩, -, X2, ⟨Lc2, hQ2, l2, y2, z2⟩, st2⟩ := Jvm.LawKit.callS X1 hx (y := oM7) hown (mvT hZ (oW hw 114 rfl)) (mvT hZ (oW hw 76 rfl)) (mvT hZ (oW hw 7 rfl)) (mvT hZ (oW hw 77 rfl)) (by decide) (backOf (W := 0) (own_sci l Z a0 hw [] (0 : Int32) (1 : Int32) sf h0 n0 Z0 Old0 sF hsf (by decide) (by decide)) hZ (oW hw 77 rfl) (oW hw 7 rfl) (by decide) (by decide)) (g := (mkF m 5 #[.val (.int 0), .val (.ref a)] [(.int 1), (.int 0)])) rfl (by rw [hml]; rfl) (argsL := [(.int 0), (.int 1)]) (rest := []) (lenOf own_pd945365693 rfl) rfl (by show 2 * 0 + _ ≤ _; exact Nat.le_of_eq rfl) (hb hby own_d24_5) (fun _ _ => ⟨rfl, e1, (by decide : 0 + 0 ≤ 0), (by decide : 0 + 0 ≤ 0)⟩)
  dsimp only [Pt.U, Pt.locs, Pt.cells, Pt.slots] at X2 l2 y2 z2 st2 hQ2
  subst l2 y2 z2
  obtain ⟨hh2, eh02⟩ : ∃ z, T2.heap = z := ⟨_, rfl⟩
  rw [eh02] at hQ2
  obtain ⟨rfl, Nq2, eh2⟩ := hQ2
  have N2 := Fr.app N1 Nq2
  refine own_st st2 ?_
  have e2 : T2.heap = h0 := eh02.trans eh2
  show own_Gl _ _ _ _ _ _ _ (T2.setTop (mkF m 8 #[.val (.int 0), .val (.ref a)] []))
  exact own_retV X2 hx hlk hret (hb hby own_d24_8) e2 ⟨rfl, N2, rfl⟩ (by decide) (by decide)
theorem own_d23_0 : decode jdk_52_method_83_code 0 = .ok (.iload_n 1, 1) := by decide +kernel
theorem own_d23_1 : decode jdk_52_method_83_code 1 = .ok (.aload_n 0, 1) := by decide +kernel
theorem own_d23_2 : decode jdk_52_method_83_code 2 = .ok (.invokestatic 67, 3) := by decide +kernel
theorem own_pd883794637 : parseMethodDescriptor "(I[B)V" = some ⟨[.int, (.array .byte)], none⟩ := by decide +kernel
theorem own_d23_5 : decode jdk_52_method_83_code 5 = .ok (.aload_n 0, 1) := by decide +kernel
theorem own_d23_6 : decode jdk_52_method_83_code 6 = .ok (.iload_n 1, 1) := by decide +kernel
theorem own_d23_7 : decode jdk_52_method_83_code 7 = .ok (.invokestatic 71, 3) := by decide +kernel
theorem own_d23_10 : decode jdk_52_method_83_code 10 = .ok (.ireturn, 1) := by decide +kernel
theorem own_ef_own_uc1_0 (m : MethodId) (x0 : Addr) (x1 : Int32) : entryFrame m #[(.ref x0), (.int x1)] 2 = mkF m 0 #[.val (.ref x0), .val (.int x1)] [] := by first | (simp [entryFrame, mkF, argsToLocals, Value.category]; done) | rfl
def own_Q_own_uc1_0 (Z : State) (a : Addr) (k : ClassId) (sf : Value) (v0 : Int32) (h0 : Heap) (n0 : Nat) (v : Option Value) (h : Heap) (L : List Loc) : Prop := (v = some (.int v0)) ∧ (Fr n0 L) ∧ (h = h0)

theorem own_uc1_0 (l : Launch) (Z : State) (a0 : Array Value) (hw : oT a0 Z) (ws : List Jvm.Cond) (a : Addr) (k : ClassId) (sf : Value) (v0 : Int32) (h0 : Heap) (n0 : Nat) (Z0 : n0 ≤ h0.size) (Old0 : Old Z n0 h0) (sA : Sta Z Z.heap "java/lang/StringUTF16" "$assertionsDisabled" "Z" (.int 1)) (sH : Sta Z Z.heap "java/lang/StringUTF16" "HI_BYTE_SHIFT" "I" (.int 0)) (sL : Sta Z Z.heap "java/lang/StringUTF16" "LO_BYTE_SHIFT" "I" (.int 8)) (sF : Sta Z Z.heap "jdk/internal/util/Preconditions" "SIOOBE_FORMATTER" "Ljava/util/function/BiFunction;" sf) (hsf : sf.isRef = true) (V_a : Arv Z h0 a k .byte (2 : Int32) [(.int (nar .byte ((v0 >>> ((0 : Int32) &&& 31)).toInt8.toInt32))), (.int (nar .byte ((v0 >>> ((8 : Int32) &&& 31)).toInt8.toInt32)))] (.int 0)) (hr0 : ¬ v0 < (0 : Int32) ∧ ¬ (65535 : Int32) < v0) :
    oMet l oM21 jdk_52_method_83_code 2 (some .char) ws ⟨3, 0, 0, 40⟩ #[(.ref a), (.int 0)] Z h0 (own_Q_own_uc1_0 Z a k sf v0 h0 n0) := by
  refine oB n0 "java/lang/StringUTF16" rfl (plainFor_of_name own_pn730740715) (fun m => own_ef_own_uc1_0 m a (0 : Int32)) ?_
  intro p e s m below meth c s₁ hZ hx hby hlk hret hml hown hnm X0 e0 N0
  show own_Gl _ _ _ _ _ _ _ (s₁.setTop (mkF m 0 #[.val (.ref a), .val (.int 0)] []))
  refine own_st (fun _ k => XS.iloadN X0.here hx rfl (hb hby own_d23_0) rfl k) ?_
  refine own_st (fun _ k => XS.aloadN X0.here hx rfl (hb hby own_d23_1) rfl rfl k) ?_
  obtain ⟨_, _, ⟨T1, L1, k1, n1⟩, -, X1, ⟨Lc1, hQ1, l1, y1, z1⟩, st1⟩ := Jvm.LawKit.callS X0 hx (y := oM20) hown (mvT hZ (oW hw 108 rfl)) (mvT hZ (oW hw 109 rfl)) (mvT hZ (oW hw 47 rfl)) (mvT hZ (oW hw 110 rfl)) (by decide) (backOf (W := 0) (own_uci1_0 l Z a0 hw [] a k [(.int (nar .byte ((v0 >>> ((0 : Int32) &&& 31)).toInt8.toInt32))), (.int (nar .byte ((v0 >>> ((8 : Int32) &&& 31)).toInt8.toInt32)))] sf h0 n0 Z0 Old0 sF hsf V_a) hZ (oW hw 110 rfl) (oW hw 47 rfl) (by decide) (by decide)) (g := (mkF m 2 #[.val (.ref a), .val (.int 0)] [(.ref a), (.int 0)])) rfl (by rw [hml]; rfl) (argsL := [(.int 0), (.ref a)]) (rest := []) (lenOf own_pd883794637 rfl) rfl (by show 2 * 0 + _ ≤ _; exact Nat.le_of_eq rfl) (hb hby own_d23_2) (fun _ _ => ⟨rfl, e0, (by decide : 0 + 0 ≤ 0), (by decide : 0 + 0 ≤ 0)⟩)
  dsimp only [Pt.U, Pt.locs, Pt.cells, Pt.slots] at X1 l1 y1 z1 st1 hQ1
  subst l1 y1 z1
  obtain ⟨hh1, eh01⟩ : ∃ z, T1.heap = z := ⟨_, rfl⟩
  rw [eh01] at hQ1
  obtain ⟨rfl, Nq1, eh1⟩ := hQ1
  have N1 := Fr.app N0 Nq1
  refine own_st st1 ?_
  have e1 : T1.heap = h0 := eh01.trans eh1
  refine own_st (fun _ k => XS.aloadN X1.here hx rfl (hb hby own_d23_5) rfl rfl k) ?_
  show own_Gl _ _ _ _ _ _ _ (T1.setTop (mkF m 6 #[.val (.ref a), .val (.int 0)] [(.ref a)]))
  refine own_st (fun _ k => XS.iloadN X1.here hx rfl (hb hby own_d23_6) rfl k) ?_
  obtain ⟨_, _, ⟨T2, L2, k2, n2⟩, -, X2, ⟨Lc2, hQ2, l2, y2, z2⟩, st2⟩ := Jvm.LawKit.callS X1 hx (y := oM12) hown (mvT hZ (oW hw 102 rfl)) (mvT hZ (oW hw 103 rfl)) (mvT hZ (oW hw 47 rfl)) (mvT hZ (oW hw 104 rfl)) (by decide) (backOf (W := 0) (own_get1_0 l Z a0 hw [] a k v0 h0 n0 Z0 Old0 sA sH sL V_a hr0) hZ (oW hw 104 rfl) (oW hw 47 rfl) (by decide) (by decide)) (g := (mkF m 7 #[.val (.ref a), .val (.int 0)] [(.int 0), (.ref a)])) rfl (by rw [hml]; rfl) (argsL := [(.ref a), (.int 0)]) (rest := []) (lenOf own_pd128711048 rfl) rfl (by show 2 * 0 + _ ≤ _; exact Nat.le_of_eq rfl) (hb hby own_d23_7) (fun _ _ => ⟨rfl, e1, (by decide : 0 + 0 ≤ 0), (by decide : 0 + 0 ≤ 0)⟩)
  dsimp only [Pt.U, Pt.locs, Pt.cells, Pt.slots] at X2 l2 y2 z2 st2 hQ2
  subst l2 y2 z2
  obtain ⟨hh2, eh02⟩ : ∃ z, T2.heap = z := ⟨_, rfl⟩
  rw [eh02] at hQ2
  obtain ⟨rfl, Nq2, eh2⟩ := hQ2
  have N2 := Fr.app N1 Nq2
  refine own_st st2 ?_
  have e2 : T2.heap = h0 := eh02.trans eh2
  show own_Gl _ _ _ _ _ _ _ (T2.setTop (mkF m 10 #[.val (.ref a), .val (.int 0)] [(.int v0)]))
  exact own_retN X2 hx hlk (t := .char) hret (by simp) (hb hby own_d23_10) e2 ⟨by rw [own_nc _ hr0], N2, rfl⟩ (by decide) (by decide)
theorem own_d12_0 : decode jdk_42_method_56_code 0 = .ok (.aload_n 0, 1) := by decide +kernel
theorem own_d12_1 : decode jdk_42_method_56_code 1 = .ok (.invokevirtual 492, 3) := by decide +kernel
theorem own_pd691901 : parseMethodDescriptor "()Z" = some ⟨[], some .boolean⟩ := by decide +kernel
theorem own_d12_4 : decode jdk_42_method_56_code 4 = .ok (.ifCond .eq 12, 3) := by decide +kernel
theorem own_d12_7 : decode jdk_42_method_56_code 7 = .ok (.aload_n 0, 1) := by decide +kernel
theorem own_d12_8 : decode jdk_42_method_56_code 8 = .ok (.getfield 9, 3) := by decide +kernel
theorem own_d12_11 : decode jdk_42_method_56_code 11 = .ok (.iload_n 1, 1) := by decide +kernel
theorem own_d12_12 : decode jdk_42_method_56_code 12 = .ok (.invokestatic 495, 3) := by decide +kernel
theorem own_d12_15 : decode jdk_42_method_56_code 15 = .ok (.ireturn, 1) := by decide +kernel
theorem own_ef_own_ch1_0_0 (m : MethodId) (x0 : Addr) (x1 : Int32) : entryFrame m #[(.ref x0), (.int x1)] 2 = mkF m 0 #[.val (.ref x0), .val (.int x1)] [] := by first | (simp [entryFrame, mkF, argsToLocals, Value.category]; done) | rfl
def own_Q_own_ch1_0_0 (Z : State) (a : Addr) (b : Addr) (k : ClassId) (sf : Value) (cs : Int32) (v0 : Int32) (h0 : Heap) (n0 : Nat) (v : Option Value) (h : Heap) (L : List Loc) : Prop := (v = some (.int v0)) ∧ (Fr n0 L) ∧ (h = h0)

theorem own_ch1_0_0 (l : Launch) (Z : State) (a0 : Array Value) (hw : oT a0 Z) (ws : List Jvm.Cond) (a : Addr) (b : Addr) (k : ClassId) (sf : Value) (cs : Int32) (v0 : Int32) (h0 : Heap) (n0 : Nat) (Z0 : n0 ≤ h0.size) (Old0 : Old Z n0 h0) (sF : Sta Z Z.heap "jdk/internal/util/Preconditions" "SIOOBE_FORMATTER" "Ljava/util/function/BiFunction;" sf) (hsf : sf.isRef = true) (sC : Sta Z Z.heap "java/lang/String" "COMPACT_STRINGS" "Z" (.int cs)) (hcs : ¬ (cs = (0 : Int32))) (E_a : Exa Z h0 a "java/lang/String") (F_a_value : Fld Z h0 a "java/lang/String" "value" "[B" (.ref b)) (F_a_coder : Fld Z h0 a "java/lang/String" "coder" "B" (.int 0)) (V_b : Arv Z h0 b k .byte (1 : Int32) [(.int (nar .byte (v0.toInt8.toInt32)))] (.int 0)) (hr0 : ¬ v0 < (0 : Int32) ∧ ¬ (255 : Int32) < v0) :
    oMet l oM22 jdk_42_method_56_code 2 (some .char) ws ⟨3, 0, 0, 40⟩ #[(.ref a), (.int 0)] Z h0 (own_Q_own_ch1_0_0 Z a b k sf cs v0 h0 n0) := by
  refine oB n0 "java/lang/String" rfl (plainFor_of_name own_pn853443214) (fun m => own_ef_own_ch1_0_0 m a (0 : Int32)) ?_
  intro p e s m below meth c s₁ hZ hx hby hlk hret hml hown hnm X0 e0 N0
  show own_Gl _ _ _ _ _ _ _ (s₁.setTop (mkF m 0 #[.val (.ref a), .val (.int 0)] []))
  refine own_st (fun _ k => XS.aloadN X0.here hx rfl (hb hby own_d12_0) rfl rfl k) ?_
  obtain ⟨cq1, kq1, q1a, q1b, q1c⟩ := isOf hZ e0 E_a
  obtain ⟨_, _, ⟨T1, L1, k1, n1⟩, -, X1, ⟨Lc1, hQ1, l1, y1, z1⟩, st1⟩ := X0.virtualBack hx (y := oM4) (z := oM4) hown (mvT hZ (oW hw 66 rfl)) (mvT hZ (oW hw 67 rfl)) (notFace_of_selects (args := #[]) (mvT hZ (oW hw 69 rfl))) (mvT hZ (oW hw 69 rfl)) (mvT hZ (oW hw 68 rfl)) (by decide) (backOf (W := 0) (own_lat0 l Z a0 hw [] a cs h0 n0 Z0 F_a_coder Old0 sC hcs) hZ (oW hw 70 rfl) (oW hw 7 rfl) (by decide) (by decide)) q1a q1c (g := (mkF m 1 #[.val (.ref a), .val (.int 0)] [(.ref a)])) rfl (by rw [hml]; rfl) (Steps.refl _) (argsL := []) (rest := []) (lenOf own_pd691901 rfl) rfl (by show 2 * 0 + _ ≤ _; exact Nat.le_of_eq rfl) (hb hby own_d12_1) (fun _ _ => ⟨rfl, e0, (by decide : 0 + 0 ≤ 0), (by decide : 0 + 0 ≤ 0)⟩)
  dsimp only [Pt.U, Pt.locs, Pt.cells, Pt.slots] at X1 l1 y1 z1 st1 hQ1
  subst l1 y1 z1
  obtain ⟨hh1, eh01⟩ : ∃ z, T1.heap = z := ⟨_, rfl⟩
  rw [eh01] at hQ1
  obtain ⟨rfl, Nq1, eh1⟩ := hQ1
  have N1 := Fr.app N0 Nq1
  refine own_tr st1 ?_
  have e1 : T1.heap = h0 := eh01.trans eh1
  have hd2 : ¬ ((1 : Int32) = (0 : Int32)) := (by decide)
  refine own_st (fun _ k => XS.ifNo X1.here hx rfl (hb hby own_d12_4) rfl ((if0 _ _).trans (feq hd2).1) k) ?_
  refine own_st (fun _ k => XS.aloadN X1.here hx rfl (hb hby own_d12_7) rfl rfl k) ?_
  show own_Gl _ _ _ _ _ _ _ (T1.setTop (mkF m 8 #[.val (.ref a), .val (.int 0)] [(.ref a)]))
  obtain ⟨T3, X3, e3, st3⟩ := getF X1 hx hZ hown (host := "") (Or.inl (oW hw 24 rfl)) Via.refl e1 F_a_value (g := (mkF m 8 #[.val (.ref a), .val (.int 0)] [(.ref a)])) rfl rfl (hb hby own_d12_8)
  refine own_st st3 ?_
  refine own_st (fun _ k => XS.iloadN X3.here hx rfl (hb hby own_d12_11) rfl k) ?_
  obtain ⟨_, _, ⟨T4, L4, k4, n4⟩, -, X4, ⟨Lc4, hQ4, l4, y4, z4⟩, st4⟩ := Jvm.LawKit.callS X3 hx (y := oM19) hown (mvT hZ (oW hw 71 rfl)) (mvT hZ (oW hw 72 rfl)) (mvT hZ (oW hw 73 rfl)) (mvT hZ (oW hw 74 rfl)) (by decide) (backOf (W := 0) (own_l1c1_0 l Z a0 hw [] b k sf v0 h0 n0 Z0 Old0 sF hsf V_b hr0) hZ (oW hw 74 rfl) (oW hw 73 rfl) (by decide) (by decide)) (g := (mkF m 12 #[.val (.ref a), .val (.int 0)] [(.int 0), (.ref b)])) rfl (by rw [hml]; rfl) (argsL := [(.ref b), (.int 0)]) (rest := []) (lenOf own_pd128711048 rfl) rfl (by show 2 * 0 + _ ≤ _; exact Nat.le_of_eq rfl) (hb hby own_d12_12) (fun _ _ => ⟨rfl, e3, (by decide : 0 + 0 ≤ 0), (by decide : 0 + 0 ≤ 0)⟩)
  dsimp only [Pt.U, Pt.locs, Pt.cells, Pt.slots] at X4 l4 y4 z4 st4 hQ4
  subst l4 y4 z4
  obtain ⟨hh4, eh04⟩ : ∃ z, T4.heap = z := ⟨_, rfl⟩
  rw [eh04] at hQ4
  obtain ⟨rfl, Nq4, eh4⟩ := hQ4
  have N4 := Fr.app N1 Nq4
  refine own_st st4 ?_
  have e4 : T4.heap = h0 := eh04.trans eh4
  show own_Gl _ _ _ _ _ _ _ (T4.setTop (mkF m 15 #[.val (.ref a), .val (.int 0)] [(.int v0)]))
  exact own_retN X4 hx hlk (t := .char) hret (by simp) (hb hby own_d12_15) e4 ⟨by rw [own_nc _ (own_wide hr0)], N4, rfl⟩ (by decide) (by decide)
theorem own_d12_16 : decode jdk_42_method_56_code 16 = .ok (.aload_n 0, 1) := by decide +kernel
theorem own_d12_17 : decode jdk_42_method_56_code 17 = .ok (.getfield 9, 3) := by decide +kernel
theorem own_d12_20 : decode jdk_42_method_56_code 20 = .ok (.iload_n 1, 1) := by decide +kernel
theorem own_d12_21 : decode jdk_42_method_56_code 21 = .ok (.invokestatic 498, 3) := by decide +kernel
theorem own_d12_24 : decode jdk_42_method_56_code 24 = .ok (.ireturn, 1) := by decide +kernel
theorem own_ef_own_ch1_0_1 (m : MethodId) (x0 : Addr) (x1 : Int32) : entryFrame m #[(.ref x0), (.int x1)] 2 = mkF m 0 #[.val (.ref x0), .val (.int x1)] [] := by first | (simp [entryFrame, mkF, argsToLocals, Value.category]; done) | rfl
def own_Q_own_ch1_0_1 (Z : State) (a : Addr) (b : Addr) (k : ClassId) (sf : Value) (cs : Int32) (v0 : Int32) (h0 : Heap) (n0 : Nat) (v : Option Value) (h : Heap) (L : List Loc) : Prop := (v = some (.int v0)) ∧ (Fr n0 L) ∧ (h = h0)

theorem own_ch1_0_1 (l : Launch) (Z : State) (a0 : Array Value) (hw : oT a0 Z) (ws : List Jvm.Cond) (a : Addr) (b : Addr) (k : ClassId) (sf : Value) (cs : Int32) (v0 : Int32) (h0 : Heap) (n0 : Nat) (Z0 : n0 ≤ h0.size) (Old0 : Old Z n0 h0) (sA : Sta Z Z.heap "java/lang/StringUTF16" "$assertionsDisabled" "Z" (.int 1)) (sH : Sta Z Z.heap "java/lang/StringUTF16" "HI_BYTE_SHIFT" "I" (.int 0)) (sL : Sta Z Z.heap "java/lang/StringUTF16" "LO_BYTE_SHIFT" "I" (.int 8)) (sF : Sta Z Z.heap "jdk/internal/util/Preconditions" "SIOOBE_FORMATTER" "Ljava/util/function/BiFunction;" sf) (hsf : sf.isRef = true) (sC : Sta Z Z.heap "java/lang/String" "COMPACT_STRINGS" "Z" (.int cs)) (hcs : ¬ (cs = (0 : Int32))) (E_a : Exa Z h0 a "java/lang/String") (F_a_value : Fld Z h0 a "java/lang/String" "value" "[B" (.ref b)) (F_a_coder : Fld Z h0 a "java/lang/String" "coder" "B" (.int 1)) (V_b : Arv Z h0 b k .byte (2 : Int32) [(.int (nar .byte ((v0 >>> ((0 : Int32) &&& 31)).toInt8.toInt32))), (.int (nar .byte ((v0 >>> ((8 : Int32) &&& 31)).toInt8.toInt32)))] (.int 0)) (hr0 : ¬ v0 < (0 : Int32) ∧ ¬ (65535 : Int32) < v0) :
    oMet l oM22 jdk_42_method_56_code 2 (some .char) ws ⟨4, 0, 0, 53⟩ #[(.ref a), (.int 0)] Z h0 (own_Q_own_ch1_0_1 Z a b k sf cs v0 h0 n0) := by
  refine oB n0 "java/lang/String" rfl (plainFor_of_name own_pn853443214) (fun m => own_ef_own_ch1_0_1 m a (0 : Int32)) ?_
  intro p e s m below meth c s₁ hZ hx hby hlk hret hml hown hnm X0 e0 N0
  show own_Gl _ _ _ _ _ _ _ (s₁.setTop (mkF m 0 #[.val (.ref a), .val (.int 0)] []))
  refine own_st (fun _ k => XS.aloadN X0.here hx rfl (hb hby own_d12_0) rfl rfl k) ?_
  obtain ⟨cq1, kq1, q1a, q1b, q1c⟩ := isOf hZ e0 E_a
  obtain ⟨_, _, ⟨T1, L1, k1, n1⟩, -, X1, ⟨Lc1, hQ1, l1, y1, z1⟩, st1⟩ := X0.virtualBack hx (y := oM4) (z := oM4) hown (mvT hZ (oW hw 66 rfl)) (mvT hZ (oW hw 67 rfl)) (notFace_of_selects (args := #[]) (mvT hZ (oW hw 69 rfl))) (mvT hZ (oW hw 69 rfl)) (mvT hZ (oW hw 68 rfl)) (by decide) (backOf (W := 0) (own_lat1 l Z a0 hw [] a cs h0 n0 Z0 F_a_coder Old0 sC hcs) hZ (oW hw 70 rfl) (oW hw 7 rfl) (by decide) (by decide)) q1a q1c (g := (mkF m 1 #[.val (.ref a), .val (.int 0)] [(.ref a)])) rfl (by rw [hml]; rfl) (Steps.refl _) (argsL := []) (rest := []) (lenOf own_pd691901 rfl) rfl (by show 2 * 0 + _ ≤ _; exact Nat.le_of_eq rfl) (hb hby own_d12_1) (fun _ _ => ⟨rfl, e0, (by decide : 0 + 0 ≤ 0), (by decide : 0 + 0 ≤ 0)⟩)
  dsimp only [Pt.U, Pt.locs, Pt.cells, Pt.slots] at X1 l1 y1 z1 st1 hQ1
  subst l1 y1 z1
  obtain ⟨hh1, eh01⟩ : ∃ z, T1.heap = z := ⟨_, rfl⟩
  rw [eh01] at hQ1
  obtain ⟨rfl, Nq1, eh1⟩ := hQ1
  have N1 := Fr.app N0 Nq1
  refine own_tr st1 ?_
  have e1 : T1.heap = h0 := eh01.trans eh1
  have hd2 : (0 : Int32) = (0 : Int32) := (by decide)
  refine own_st (fun _ k => XS.ifYes X1.here hx rfl (pc0 := 4) (pc' := 16) rfl (hb hby own_d12_4) rfl ((if0 _ _).trans (teq hd2).1) (by decide) (by decide) k) ?_
  refine own_st (fun _ k => XS.aloadN X1.here hx rfl (hb hby own_d12_16) rfl rfl k) ?_
  show own_Gl _ _ _ _ _ _ _ (T1.setTop (mkF m 17 #[.val (.ref a), .val (.int 0)] [(.ref a)]))
  obtain ⟨T3, X3, e3, st3⟩ := getF X1 hx hZ hown (host := "") (Or.inl (oW hw 24 rfl)) Via.refl e1 F_a_value (g := (mkF m 17 #[.val (.ref a), .val (.int 0)] [(.ref a)])) rfl rfl (hb hby own_d12_17)
  refine own_st st3 ?_
  refine own_st (fun _ k => XS.iloadN X3.here hx rfl (hb hby own_d12_20) rfl k) ?_
  obtain ⟨_, _, ⟨T4, L4, k4, n4⟩, -, X4, ⟨Lc4, hQ4, l4, y4, z4⟩, st4⟩ := Jvm.LawKit.callS X3 hx (y := oM21) hown (mvT hZ (oW hw 105 rfl)) (mvT hZ (oW hw 106 rfl)) (mvT hZ (oW hw 47 rfl)) (mvT hZ (oW hw 107 rfl)) (by decide) (backOf (W := 0) (own_uc1_0 l Z a0 hw [] b k sf v0 h0 n0 Z0 Old0 sA sH sL sF hsf V_b hr0) hZ (oW hw 107 rfl) (oW hw 47 rfl) (by decide) (by decide)) (g := (mkF m 21 #[.val (.ref a), .val (.int 0)] [(.int 0), (.ref b)])) rfl (by rw [hml]; rfl) (argsL := [(.ref b), (.int 0)]) (rest := []) (lenOf own_pd128711048 rfl) rfl (by show 2 * 0 + _ ≤ _; exact Nat.le_of_eq rfl) (hb hby own_d12_21) (fun _ _ => ⟨rfl, e3, (by decide : 0 + 0 ≤ 0), (by decide : 0 + 0 ≤ 0)⟩)
  dsimp only [Pt.U, Pt.locs, Pt.cells, Pt.slots] at X4 l4 y4 z4 st4 hQ4
  subst l4 y4 z4
  obtain ⟨hh4, eh04⟩ : ∃ z, T4.heap = z := ⟨_, rfl⟩
  rw [eh04] at hQ4
  obtain ⟨rfl, Nq4, eh4⟩ := hQ4
  have N4 := Fr.app N1 Nq4
  refine own_st st4 ?_
  have e4 : T4.heap = h0 := eh04.trans eh4
  show own_Gl _ _ _ _ _ _ _ (T4.setTop (mkF m 24 #[.val (.ref a), .val (.int 0)] [(.int v0)]))
  exact own_retN X4 hx hlk (t := .char) hret (by simp) (hb hby own_d12_24) e4 ⟨by rw [own_nc _ hr0], N4, rfl⟩ (by decide) (by decide)
theorem own_d5_0 : decode prog_157_method_3_code 0 = .ok (.iconst 0, 1) := by decide +kernel
theorem own_d5_1 : decode prog_157_method_3_code 1 = .ok (.istore_n 1, 1) := by decide +kernel
theorem own_d5_2 : decode prog_157_method_3_code 2 = .ok (.iload_n 1, 1) := by decide +kernel
theorem own_d5_3 : decode prog_157_method_3_code 3 = .ok (.aload_n 0, 1) := by decide +kernel
theorem own_d5_4 : decode prog_157_method_3_code 4 = .ok (.invokeinterface 46 1, 5) := by decide +kernel
theorem own_pd691884 : parseMethodDescriptor "()I" = some ⟨[], some .int⟩ := by decide +kernel
theorem own_d5_9 : decode prog_157_method_3_code 9 = .ok (.if_icmp .ge 24, 3) := by decide +kernel
theorem own_d5_12 : decode prog_157_method_3_code 12 = .ok (.aload_n 0, 1) := by decide +kernel
theorem own_d5_13 : decode prog_157_method_3_code 13 = .ok (.iload_n 1, 1) := by decide +kernel
theorem own_d5_14 : decode prog_157_method_3_code 14 = .ok (.invokeinterface 52 2, 5) := by decide +kernel
theorem own_pd91181831 : parseMethodDescriptor "(I)C" = some ⟨[.int], some .char⟩ := by decide +kernel
theorem own_d5_19 : decode prog_157_method_3_code 19 = .ok (.invokestatic 56, 3) := by decide +kernel
theorem own_pd91078888 : parseMethodDescriptor "(C)Z" = some ⟨[.char], some .boolean⟩ := by decide +kernel
theorem own_d5_22 : decode prog_157_method_3_code 22 = .ok (.ifCond .ne 5, 3) := by decide +kernel
theorem own_d5_25 : decode prog_157_method_3_code 25 = .ok (.iconst 0, 1) := by decide +kernel
theorem own_d5_26 : decode prog_157_method_3_code 26 = .ok (.ireturn, 1) := by decide +kernel
theorem own_d5_27 : decode prog_157_method_3_code 27 = .ok (.iinc 1 1, 3) := by decide +kernel
theorem own_d5_30 : decode prog_157_method_3_code 30 = .ok (.goto (-28), 3) := by decide +kernel
theorem own_d5_33 : decode prog_157_method_3_code 33 = .ok (.iconst 1, 1) := by decide +kernel
theorem own_d5_34 : decode prog_157_method_3_code 34 = .ok (.ireturn, 1) := by decide +kernel
theorem own_ef_own_iws1_0 (m : MethodId) (x0 : Addr) : entryFrame m #[(.ref x0)] 2 = mkF m 0 #[.val (.ref x0), .unset] [] := by first | (simp [entryFrame, mkF, argsToLocals, Value.category]; done) | rfl
def own_Q_own_iws1_0 (Z : State) (a : Addr) (b : Addr) (k : ClassId) (sf : Value) (cs : Int32) (v0 : Int32) (h0 : Heap) (n0 : Nat) (v : Option Value) (h : Heap) (L : List Loc) : Prop := (v = some (.int (if own_ws v0 = (0 : Int32) then (0 : Int32) else (1 : Int32)))) ∧ (Fr n0 L) ∧ (h = h0)

theorem own_iws1_0 (l : Launch) (Z : State) (a0 : Array Value) (hw : oT a0 Z) (ws : List Jvm.Cond) (a : Addr) (b : Addr) (k : ClassId) (sf : Value) (cs : Int32) (v0 : Int32) (h0 : Heap) (n0 : Nat) (Z0 : n0 ≤ h0.size) (Old0 : Old Z n0 h0) (sF : Sta Z Z.heap "jdk/internal/util/Preconditions" "SIOOBE_FORMATTER" "Ljava/util/function/BiFunction;" sf) (hsf : sf.isRef = true) (sC : Sta Z Z.heap "java/lang/String" "COMPACT_STRINGS" "Z" (.int cs)) (hcs : ¬ (cs = (0 : Int32))) (E_a : Exa Z h0 a "java/lang/String") (F_a_value : Fld Z h0 a "java/lang/String" "value" "[B" (.ref b)) (F_a_coder : Fld Z h0 a "java/lang/String" "coder" "B" (.int 0)) (V_b : Arv Z h0 b k .byte (1 : Int32) [(.int (nar .byte (v0.toInt8.toInt32)))] (.int 0)) (hr0 : ¬ v0 < (0 : Int32) ∧ ¬ (255 : Int32) < v0) :
    oMet l oM23 prog_157_method_3_code 2 (some .boolean) ws ⟨4, 0, 0, 53⟩ #[(.ref a)] Z h0 (own_Q_own_iws1_0 Z a b k sf cs v0 h0 n0) := by
  refine oB n0 "com/example/brolga/brolga/xml/XmlCharacters" rfl (plainFor_of_name own_pn545058950) (fun m => own_ef_own_iws1_0 m a) ?_
  intro p e s m below meth c s₁ hZ hx hby hlk hret hml hown hnm X0 e0 N0
  show own_Gl _ _ _ _ _ _ _ (s₁.setTop (mkF m 0 #[.val (.ref a), .unset] []))
  refine own_st (fun _ k => XS.iconst X0.here hx rfl (hb hby own_d5_0) k) ?_
  refine own_st (fun _ k => XS.istoreN X0.here hx rfl (hb hby own_d5_1) rfl (l' := #[.val (.ref a), .val (.int 0)]) rfl k) ?_
  refine own_st (fun _ k => XS.iloadN X0.here hx rfl (hb hby own_d5_2) rfl k) ?_
  refine own_st (fun _ k => XS.aloadN X0.here hx rfl (hb hby own_d5_3) rfl rfl k) ?_
  show own_Gl _ _ _ _ _ _ _ (s₁.setTop (mkF m 4 #[.val (.ref a), .val (.int 0)] [(.ref a), (.int 0)]))
  obtain ⟨cq1, kq1, q1a, q1b, q1c⟩ := isOf hZ e0 E_a
  obtain ⟨_, _, ⟨T1, L1, k1, n1⟩, -, X1, ⟨Lc1, hQ1, l1, y1, z1⟩, st1⟩ := X0.interfaceBack hx (xi := oM24) (y := oM5) hown (mvT hZ (oW hw 30 rfl)) (mvT hZ (oW hw 31 rfl)) (mvT hZ (oW hw 32 rfl)) (mvT hZ (oW hw 33 rfl)) (mvT hZ (oW hw 34 rfl)) (mvT hZ (oW hw 35 rfl)) (mvT hZ (oW hw 36 rfl)) (mvT hZ (oW hw 37 rfl)) (by decide) (backOf (W := 1) (own_len1_0 l Z a0 hw [] a b k [(.int (nar .byte (v0.toInt8.toInt32)))] cs h0 n0 Z0 E_a F_a_value F_a_coder V_b Old0 sC hcs) hZ (oW hw 38 rfl) (oW hw 7 rfl) (by decide) (by decide)) q1a q1b q1c (g := (mkF m 4 #[.val (.ref a), .val (.int 0)] [(.ref a), (.int 0)])) rfl (by rw [hml]; rfl) (Steps.refl _) (argsL := []) (rest := [(.int 0)]) (lenOf own_pd691884 rfl) rfl (by show 2 * 0 + _ ≤ _; exact Nat.le_of_eq rfl) (hb hby own_d5_4) (fun _ _ => ⟨rfl, e0, (by decide : 0 + 0 ≤ 0), (by decide : 0 + 0 ≤ 0)⟩)
  dsimp only [Pt.U, Pt.locs, Pt.cells, Pt.slots] at X1 l1 y1 z1 st1 hQ1
  subst l1 y1 z1
  obtain ⟨hh1, eh01⟩ : ∃ z, T1.heap = z := ⟨_, rfl⟩
  rw [eh01] at hQ1
  obtain ⟨rfl, Nq1, eh1⟩ := hQ1
  have N1 := Fr.app N0 Nq1
  refine own_tr st1 ?_
  have e1 : T1.heap = h0 := eh01.trans eh1
  have hd2 : (0 : Int32) < (1 : Int32) := (by decide)
  refine own_st (fun _ k => XS.icmpNo X1.here hx rfl (hb hby own_d5_9) rfl (tlt hd2).2.1 k) ?_
  refine own_st (fun _ k => XS.aloadN X1.here hx rfl (hb hby own_d5_12) rfl rfl k) ?_
  refine own_st (fun _ k => XS.iloadN X1.here hx rfl (hb hby own_d5_13) rfl k) ?_
  show own_Gl _ _ _ _ _ _ _ (T1.setTop (mkF m 14 #[.val (.ref a), .val (.int 0)] [(.int 0), (.ref a)]))
  obtain ⟨cq3, kq3, q3a, q3b, q3c⟩ := isOf hZ e1 E_a
  obtain ⟨_, _, ⟨T3, L3, k3, n3⟩, -, X3, ⟨Lc3, hQ3, l3, y3, z3⟩, st3⟩ := X1.interfaceBack hx (xi := oM25) (y := oM22) hown (mvT hZ (oW hw 58 rfl)) (mvT hZ (oW hw 59 rfl)) (mvT hZ (oW hw 60 rfl)) (mvT hZ (oW hw 61 rfl)) (mvT hZ (oW hw 62 rfl)) (mvT hZ (oW hw 63 rfl)) (mvT hZ (oW hw 64 rfl)) (mvT hZ (oW hw 37 rfl)) (by decide) (backOf (W := 0) (own_ch1_0_0 l Z a0 hw [] a b k sf cs v0 h0 n0 Z0 Old0 sF hsf sC hcs E_a F_a_value F_a_coder V_b hr0) hZ (oW hw 65 rfl) (oW hw 7 rfl) (by decide) (by decide)) q3a q3b q3c (g := (mkF m 14 #[.val (.ref a), .val (.int 0)] [(.int 0), (.ref a)])) rfl (by rw [hml]; rfl) (Steps.refl _) (argsL := [(.int 0)]) (rest := []) (lenOf own_pd91181831 rfl) rfl (by show 2 * 0 + _ ≤ _; exact Nat.le_of_eq rfl) (hb hby own_d5_14) (fun _ _ => ⟨rfl, e1, (by decide : 0 + 0 ≤ 0), (by decide : 0 + 0 ≤ 0)⟩)
  dsimp only [Pt.U, Pt.locs, Pt.cells, Pt.slots] at X3 l3 y3 z3 st3 hQ3
  subst l3 y3 z3
  obtain ⟨hh3, eh03⟩ : ∃ z, T3.heap = z := ⟨_, rfl⟩
  rw [eh03] at hQ3
  obtain ⟨rfl, Nq3, eh3⟩ := hQ3
  have N3 := Fr.app N1 Nq3
  refine own_tr st3 ?_
  have e3 : T3.heap = h0 := eh03.trans eh3
  obtain ⟨_, _, ⟨T4, L4, k4, n4⟩, -, X4, ⟨Lc4, hQ4, l4, y4, z4⟩, st4⟩ := Jvm.LawKit.callS X3 hx (y := oM2) hown (mvT hZ (oW hw 83 rfl)) (mvT hZ (oW hw 84 rfl)) (mvT hZ (oW hw 28 rfl)) (mvT hZ (oW hw 85 rfl)) (by decide) (backOf (W := 0) (own_w2 l Z a0 hw [] v0 h0 n0 Z0 ) hZ (oW hw 85 rfl) (oW hw 28 rfl) (by decide) (by decide)) (g := (mkF m 19 #[.val (.ref a), .val (.int 0)] [(.int v0)])) rfl (by rw [hml]; rfl) (argsL := [(.int v0)]) (rest := []) (lenOf own_pd91078888 rfl) rfl (by show 2 * 0 + _ ≤ _; exact Nat.le_of_eq rfl) (hb hby own_d5_19) (fun _ _ => ⟨rfl, e3, (by decide : 0 + 0 ≤ 0), (by decide : 0 + 0 ≤ 0)⟩)
  dsimp only [Pt.U, Pt.locs, Pt.cells, Pt.slots] at X4 l4 y4 z4 st4 hQ4
  subst l4 y4 z4
  obtain ⟨hh4, eh04⟩ : ∃ z, T4.heap = z := ⟨_, rfl⟩
  rw [eh04] at hQ4
  obtain ⟨rfl, Nq4, eh4⟩ := hQ4
  have N4 := Fr.app N3 Nq4
  refine own_st st4 ?_
  have e4 : T4.heap = h0 := eh04.trans eh4
  by_cases hc22 : (own_ws v0) = (0 : Int32)
  · refine own_st (fun _ k => XS.ifNo X4.here hx rfl (hb hby own_d5_22) rfl ((if0 _ _).trans (teq hc22).2) k) ?_
    refine own_st (fun _ k => XS.iconst X4.here hx rfl (hb hby own_d5_25) k) ?_
    show own_Gl _ _ _ _ _ _ _ (T4.setTop (mkF m 26 #[.val (.ref a), .val (.int 0)] [(.int 0)]))
    exact own_retN X4 hx hlk (t := .boolean) hret (by simp) (hb hby own_d5_26) e4 ⟨by rw [if_pos hc22] <;> rfl, N4, rfl⟩ (by decide) (by decide)
  · refine own_st (fun _ k => XS.ifYes X4.here hx rfl (pc0 := 22) (pc' := 27) rfl (hb hby own_d5_22) rfl ((if0 _ _).trans (feq hc22).2) (by decide) (by decide) k) ?_
    refine own_st (fun _ k => XS.iinc X4.here hx rfl (hb hby own_d5_27) rfl (l' := #[.val (.ref a), .val (.int 1)]) rfl k) ?_
    show own_Gl _ _ _ _ _ _ _ (T4.setTop (mkF m 30 #[.val (.ref a), .val (.int 1)] []))
    refine own_st (fun _ k => XS.goto X4.here hx rfl (pc0 := 30) (pc' := 2) rfl (hb hby own_d5_30) (by decide) (by decide) k) ?_
    refine own_st (fun _ k => XS.iloadN X4.here hx rfl (hb hby own_d5_2) rfl k) ?_
    refine own_st (fun _ k => XS.aloadN X4.here hx rfl (hb hby own_d5_3) rfl rfl k) ?_
    obtain ⟨cq5, kq5, q5a, q5b, q5c⟩ := isOf hZ e4 E_a
    obtain ⟨_, _, ⟨T5, L5, k5, n5⟩, -, X5, ⟨Lc5, hQ5, l5, y5, z5⟩, st5⟩ := X4.interfaceBack hx (xi := oM24) (y := oM5) hown (mvT hZ (oW hw 30 rfl)) (mvT hZ (oW hw 31 rfl)) (mvT hZ (oW hw 32 rfl)) (mvT hZ (oW hw 33 rfl)) (mvT hZ (oW hw 34 rfl)) (mvT hZ (oW hw 35 rfl)) (mvT hZ (oW hw 36 rfl)) (mvT hZ (oW hw 37 rfl)) (by decide) (backOf (W := 1) (own_len1_0 l Z a0 hw [] a b k [(.int (nar .byte (v0.toInt8.toInt32)))] cs h0 n0 Z0 E_a F_a_value F_a_coder V_b Old0 sC hcs) hZ (oW hw 38 rfl) (oW hw 7 rfl) (by decide) (by decide)) q5a q5b q5c (g := (mkF m 4 #[.val (.ref a), .val (.int 1)] [(.ref a), (.int 1)])) rfl (by rw [hml]; rfl) (Steps.refl _) (argsL := []) (rest := [(.int 1)]) (lenOf own_pd691884 rfl) rfl (by show 2 * 0 + _ ≤ _; exact Nat.le_of_eq rfl) (hb hby own_d5_4) (fun _ _ => ⟨rfl, e4, (by decide : 0 + 0 ≤ 0), (by decide : 0 + 0 ≤ 0)⟩)
    dsimp only [Pt.U, Pt.locs, Pt.cells, Pt.slots] at X5 l5 y5 z5 st5 hQ5
    subst l5 y5 z5
    obtain ⟨hh5, eh05⟩ : ∃ z, T5.heap = z := ⟨_, rfl⟩
    rw [eh05] at hQ5
    obtain ⟨rfl, Nq5, eh5⟩ := hQ5
    have N5 := Fr.app N4 Nq5
    refine own_tr st5 ?_
    have e5 : T5.heap = h0 := eh05.trans eh5
    show own_Gl _ _ _ _ _ _ _ (T5.setTop (mkF m 9 #[.val (.ref a), .val (.int 1)] [(.int 1), (.int 1)]))
    have hd6 : ¬ ((1 : Int32) < (1 : Int32)) := (by decide)
    refine own_st (fun _ k => XS.icmpYes X5.here hx rfl (pc0 := 9) (pc' := 33) rfl (hb hby own_d5_9) rfl (flt hd6).2.1 (by decide) (by decide) k) ?_
    refine own_st (fun _ k => XS.iconst X5.here hx rfl (hb hby own_d5_33) k) ?_
    show own_Gl _ _ _ _ _ _ _ (T5.setTop (mkF m 34 #[.val (.ref a), .val (.int 1)] [(.int 1)]))
    exact own_retN X5 hx hlk (t := .boolean) hret (by simp) (hb hby own_d5_34) e5 ⟨by rw [if_neg hc22] <;> rfl, N5, rfl⟩ (by decide) (by decide)
theorem own_ef_own_iws1_1 (m : MethodId) (x0 : Addr) : entryFrame m #[(.ref x0)] 2 = mkF m 0 #[.val (.ref x0), .unset] [] := by first | (simp [entryFrame, mkF, argsToLocals, Value.category]; done) | rfl
def own_Q_own_iws1_1 (Z : State) (a : Addr) (b : Addr) (k : ClassId) (sf : Value) (cs : Int32) (v0 : Int32) (h0 : Heap) (n0 : Nat) (v : Option Value) (h : Heap) (L : List Loc) : Prop := (v = some (.int (if own_ws v0 = (0 : Int32) then (0 : Int32) else (1 : Int32)))) ∧ (Fr n0 L) ∧ (h = h0)

theorem own_iws1_1 (l : Launch) (Z : State) (a0 : Array Value) (hw : oT a0 Z) (ws : List Jvm.Cond) (a : Addr) (b : Addr) (k : ClassId) (sf : Value) (cs : Int32) (v0 : Int32) (h0 : Heap) (n0 : Nat) (Z0 : n0 ≤ h0.size) (Old0 : Old Z n0 h0) (sA : Sta Z Z.heap "java/lang/StringUTF16" "$assertionsDisabled" "Z" (.int 1)) (sH : Sta Z Z.heap "java/lang/StringUTF16" "HI_BYTE_SHIFT" "I" (.int 0)) (sL : Sta Z Z.heap "java/lang/StringUTF16" "LO_BYTE_SHIFT" "I" (.int 8)) (sF : Sta Z Z.heap "jdk/internal/util/Preconditions" "SIOOBE_FORMATTER" "Ljava/util/function/BiFunction;" sf) (hsf : sf.isRef = true) (sC : Sta Z Z.heap "java/lang/String" "COMPACT_STRINGS" "Z" (.int cs)) (hcs : ¬ (cs = (0 : Int32))) (E_a : Exa Z h0 a "java/lang/String") (F_a_value : Fld Z h0 a "java/lang/String" "value" "[B" (.ref b)) (F_a_coder : Fld Z h0 a "java/lang/String" "coder" "B" (.int 1)) (V_b : Arv Z h0 b k .byte (2 : Int32) [(.int (nar .byte ((v0 >>> ((0 : Int32) &&& 31)).toInt8.toInt32))), (.int (nar .byte ((v0 >>> ((8 : Int32) &&& 31)).toInt8.toInt32)))] (.int 0)) (hr0 : ¬ v0 < (0 : Int32) ∧ ¬ (65535 : Int32) < v0) :
    oMet l oM23 prog_157_method_3_code 2 (some .boolean) ws ⟨5, 0, 0, 66⟩ #[(.ref a)] Z h0 (own_Q_own_iws1_1 Z a b k sf cs v0 h0 n0) := by
  refine oB n0 "com/example/brolga/brolga/xml/XmlCharacters" rfl (plainFor_of_name own_pn545058950) (fun m => own_ef_own_iws1_1 m a) ?_
  intro p e s m below meth c s₁ hZ hx hby hlk hret hml hown hnm X0 e0 N0
  show own_Gl _ _ _ _ _ _ _ (s₁.setTop (mkF m 0 #[.val (.ref a), .unset] []))
  refine own_st (fun _ k => XS.iconst X0.here hx rfl (hb hby own_d5_0) k) ?_
  refine own_st (fun _ k => XS.istoreN X0.here hx rfl (hb hby own_d5_1) rfl (l' := #[.val (.ref a), .val (.int 0)]) rfl k) ?_
  refine own_st (fun _ k => XS.iloadN X0.here hx rfl (hb hby own_d5_2) rfl k) ?_
  refine own_st (fun _ k => XS.aloadN X0.here hx rfl (hb hby own_d5_3) rfl rfl k) ?_
  show own_Gl _ _ _ _ _ _ _ (s₁.setTop (mkF m 4 #[.val (.ref a), .val (.int 0)] [(.ref a), (.int 0)]))
  obtain ⟨cq1, kq1, q1a, q1b, q1c⟩ := isOf hZ e0 E_a
  obtain ⟨_, _, ⟨T1, L1, k1, n1⟩, -, X1, ⟨Lc1, hQ1, l1, y1, z1⟩, st1⟩ := X0.interfaceBack hx (xi := oM24) (y := oM5) hown (mvT hZ (oW hw 30 rfl)) (mvT hZ (oW hw 31 rfl)) (mvT hZ (oW hw 32 rfl)) (mvT hZ (oW hw 33 rfl)) (mvT hZ (oW hw 34 rfl)) (mvT hZ (oW hw 35 rfl)) (mvT hZ (oW hw 36 rfl)) (mvT hZ (oW hw 37 rfl)) (by decide) (backOf (W := 1) (own_len1_1 l Z a0 hw [] a b k [(.int (nar .byte ((v0 >>> ((0 : Int32) &&& 31)).toInt8.toInt32))), (.int (nar .byte ((v0 >>> ((8 : Int32) &&& 31)).toInt8.toInt32)))] cs h0 n0 Z0 E_a F_a_value F_a_coder V_b Old0 sC hcs) hZ (oW hw 38 rfl) (oW hw 7 rfl) (by decide) (by decide)) q1a q1b q1c (g := (mkF m 4 #[.val (.ref a), .val (.int 0)] [(.ref a), (.int 0)])) rfl (by rw [hml]; rfl) (Steps.refl _) (argsL := []) (rest := [(.int 0)]) (lenOf own_pd691884 rfl) rfl (by show 2 * 0 + _ ≤ _; exact Nat.le_of_eq rfl) (hb hby own_d5_4) (fun _ _ => ⟨rfl, e0, (by decide : 0 + 0 ≤ 0), (by decide : 0 + 0 ≤ 0)⟩)
  dsimp only [Pt.U, Pt.locs, Pt.cells, Pt.slots] at X1 l1 y1 z1 st1 hQ1
  subst l1 y1 z1
  obtain ⟨hh1, eh01⟩ : ∃ z, T1.heap = z := ⟨_, rfl⟩
  rw [eh01] at hQ1
  obtain ⟨rfl, Nq1, eh1⟩ := hQ1
  have N1 := Fr.app N0 Nq1
  refine own_tr st1 ?_
  have e1 : T1.heap = h0 := eh01.trans eh1
  have hd2 : (0 : Int32) < (1 : Int32) := (by decide)
  refine own_st (fun _ k => XS.icmpNo X1.here hx rfl (hb hby own_d5_9) rfl (tlt hd2).2.1 k) ?_
  refine own_st (fun _ k => XS.aloadN X1.here hx rfl (hb hby own_d5_12) rfl rfl k) ?_
  refine own_st (fun _ k => XS.iloadN X1.here hx rfl (hb hby own_d5_13) rfl k) ?_
  show own_Gl _ _ _ _ _ _ _ (T1.setTop (mkF m 14 #[.val (.ref a), .val (.int 0)] [(.int 0), (.ref a)]))
  obtain ⟨cq3, kq3, q3a, q3b, q3c⟩ := isOf hZ e1 E_a
  obtain ⟨_, _, ⟨T3, L3, k3, n3⟩, -, X3, ⟨Lc3, hQ3, l3, y3, z3⟩, st3⟩ := X1.interfaceBack hx (xi := oM25) (y := oM22) hown (mvT hZ (oW hw 58 rfl)) (mvT hZ (oW hw 59 rfl)) (mvT hZ (oW hw 60 rfl)) (mvT hZ (oW hw 61 rfl)) (mvT hZ (oW hw 62 rfl)) (mvT hZ (oW hw 63 rfl)) (mvT hZ (oW hw 64 rfl)) (mvT hZ (oW hw 37 rfl)) (by decide) (backOf (W := 0) (own_ch1_0_1 l Z a0 hw [] a b k sf cs v0 h0 n0 Z0 Old0 sA sH sL sF hsf sC hcs E_a F_a_value F_a_coder V_b hr0) hZ (oW hw 65 rfl) (oW hw 7 rfl) (by decide) (by decide)) q3a q3b q3c (g := (mkF m 14 #[.val (.ref a), .val (.int 0)] [(.int 0), (.ref a)])) rfl (by rw [hml]; rfl) (Steps.refl _) (argsL := [(.int 0)]) (rest := []) (lenOf own_pd91181831 rfl) rfl (by show 2 * 0 + _ ≤ _; exact Nat.le_of_eq rfl) (hb hby own_d5_14) (fun _ _ => ⟨rfl, e1, (by decide : 0 + 0 ≤ 0), (by decide : 0 + 0 ≤ 0)⟩)
  dsimp only [Pt.U, Pt.locs, Pt.cells, Pt.slots] at X3 l3 y3 z3 st3 hQ3
  subst l3 y3 z3
  obtain ⟨hh3, eh03⟩ : ∃ z, T3.heap = z := ⟨_, rfl⟩
  rw [eh03] at hQ3
  obtain ⟨rfl, Nq3, eh3⟩ := hQ3
  have N3 := Fr.app N1 Nq3
  refine own_tr st3 ?_
  have e3 : T3.heap = h0 := eh03.trans eh3
  obtain ⟨_, _, ⟨T4, L4, k4, n4⟩, -, X4, ⟨Lc4, hQ4, l4, y4, z4⟩, st4⟩ := Jvm.LawKit.callS X3 hx (y := oM2) hown (mvT hZ (oW hw 83 rfl)) (mvT hZ (oW hw 84 rfl)) (mvT hZ (oW hw 28 rfl)) (mvT hZ (oW hw 85 rfl)) (by decide) (backOf (W := 0) (own_w2 l Z a0 hw [] v0 h0 n0 Z0 ) hZ (oW hw 85 rfl) (oW hw 28 rfl) (by decide) (by decide)) (g := (mkF m 19 #[.val (.ref a), .val (.int 0)] [(.int v0)])) rfl (by rw [hml]; rfl) (argsL := [(.int v0)]) (rest := []) (lenOf own_pd91078888 rfl) rfl (by show 2 * 0 + _ ≤ _; exact Nat.le_of_eq rfl) (hb hby own_d5_19) (fun _ _ => ⟨rfl, e3, (by decide : 0 + 0 ≤ 0), (by decide : 0 + 0 ≤ 0)⟩)
  dsimp only [Pt.U, Pt.locs, Pt.cells, Pt.slots] at X4 l4 y4 z4 st4 hQ4
  subst l4 y4 z4
  obtain ⟨hh4, eh04⟩ : ∃ z, T4.heap = z := ⟨_, rfl⟩
  rw [eh04] at hQ4
  obtain ⟨rfl, Nq4, eh4⟩ := hQ4
  have N4 := Fr.app N3 Nq4
  refine own_st st4 ?_
  have e4 : T4.heap = h0 := eh04.trans eh4
  by_cases hc22 : (own_ws v0) = (0 : Int32)
  · refine own_st (fun _ k => XS.ifNo X4.here hx rfl (hb hby own_d5_22) rfl ((if0 _ _).trans (teq hc22).2) k) ?_
    refine own_st (fun _ k => XS.iconst X4.here hx rfl (hb hby own_d5_25) k) ?_
    show own_Gl _ _ _ _ _ _ _ (T4.setTop (mkF m 26 #[.val (.ref a), .val (.int 0)] [(.int 0)]))
    exact own_retN X4 hx hlk (t := .boolean) hret (by simp) (hb hby own_d5_26) e4 ⟨by rw [if_pos hc22] <;> rfl, N4, rfl⟩ (by decide) (by decide)
  · refine own_st (fun _ k => XS.ifYes X4.here hx rfl (pc0 := 22) (pc' := 27) rfl (hb hby own_d5_22) rfl ((if0 _ _).trans (feq hc22).2) (by decide) (by decide) k) ?_
    refine own_st (fun _ k => XS.iinc X4.here hx rfl (hb hby own_d5_27) rfl (l' := #[.val (.ref a), .val (.int 1)]) rfl k) ?_
    show own_Gl _ _ _ _ _ _ _ (T4.setTop (mkF m 30 #[.val (.ref a), .val (.int 1)] []))
    refine own_st (fun _ k => XS.goto X4.here hx rfl (pc0 := 30) (pc' := 2) rfl (hb hby own_d5_30) (by decide) (by decide) k) ?_
    refine own_st (fun _ k => XS.iloadN X4.here hx rfl (hb hby own_d5_2) rfl k) ?_
    refine own_st (fun _ k => XS.aloadN X4.here hx rfl (hb hby own_d5_3) rfl rfl k) ?_
    obtain ⟨cq5, kq5, q5a, q5b, q5c⟩ := isOf hZ e4 E_a
    obtain ⟨_, _, ⟨T5, L5, k5, n5⟩, -, X5, ⟨Lc5, hQ5, l5, y5, z5⟩, st5⟩ := X4.interfaceBack hx (xi := oM24) (y := oM5) hown (mvT hZ (oW hw 30 rfl)) (mvT hZ (oW hw 31 rfl)) (mvT hZ (oW hw 32 rfl)) (mvT hZ (oW hw 33 rfl)) (mvT hZ (oW hw 34 rfl)) (mvT hZ (oW hw 35 rfl)) (mvT hZ (oW hw 36 rfl)) (mvT hZ (oW hw 37 rfl)) (by decide) (backOf (W := 1) (own_len1_1 l Z a0 hw [] a b k [(.int (nar .byte ((v0 >>> ((0 : Int32) &&& 31)).toInt8.toInt32))), (.int (nar .byte ((v0 >>> ((8 : Int32) &&& 31)).toInt8.toInt32)))] cs h0 n0 Z0 E_a F_a_value F_a_coder V_b Old0 sC hcs) hZ (oW hw 38 rfl) (oW hw 7 rfl) (by decide) (by decide)) q5a q5b q5c (g := (mkF m 4 #[.val (.ref a), .val (.int 1)] [(.ref a), (.int 1)])) rfl (by rw [hml]; rfl) (Steps.refl _) (argsL := []) (rest := [(.int 1)]) (lenOf own_pd691884 rfl) rfl (by show 2 * 0 + _ ≤ _; exact Nat.le_of_eq rfl) (hb hby own_d5_4) (fun _ _ => ⟨rfl, e4, (by decide : 0 + 0 ≤ 0), (by decide : 0 + 0 ≤ 0)⟩)
    dsimp only [Pt.U, Pt.locs, Pt.cells, Pt.slots] at X5 l5 y5 z5 st5 hQ5
    subst l5 y5 z5
    obtain ⟨hh5, eh05⟩ : ∃ z, T5.heap = z := ⟨_, rfl⟩
    rw [eh05] at hQ5
    obtain ⟨rfl, Nq5, eh5⟩ := hQ5
    have N5 := Fr.app N4 Nq5
    refine own_tr st5 ?_
    have e5 : T5.heap = h0 := eh05.trans eh5
    show own_Gl _ _ _ _ _ _ _ (T5.setTop (mkF m 9 #[.val (.ref a), .val (.int 1)] [(.int 1), (.int 1)]))
    have hd6 : ¬ ((1 : Int32) < (1 : Int32)) := (by decide)
    refine own_st (fun _ k => XS.icmpYes X5.here hx rfl (pc0 := 9) (pc' := 33) rfl (hb hby own_d5_9) rfl (flt hd6).2.1 (by decide) (by decide) k) ?_
    refine own_st (fun _ k => XS.iconst X5.here hx rfl (hb hby own_d5_33) k) ?_
    show own_Gl _ _ _ _ _ _ _ (T5.setTop (mkF m 34 #[.val (.ref a), .val (.int 1)] [(.int 1)]))
    exact own_retN X5 hx hlk (t := .boolean) hret (by simp) (hb hby own_d5_34) e5 ⟨by rw [if_neg hc22] <;> rfl, N5, rfl⟩ (by decide) (by decide)
theorem own_ef_own_nbl2 (m : MethodId) (x0 : Int32) : entryFrame m #[(.int x0)] 1 = mkF m 0 #[.val (.int x0)] [] := by first | (simp [entryFrame, mkF, argsToLocals, Value.category]; done) | rfl
def own_Q_own_nbl2 (Z : State)  (h0 : Heap) (n0 : Nat) (v : Option Value) (h : Heap) (L : List Loc) : Prop := (v = some (.int 4)) ∧ (Fr n0 L) ∧ (h = h0)

theorem own_nbl2 (l : Launch) (Z : State) (a0 : Array Value) (hw : oT a0 Z) (ws : List Jvm.Cond)  (h0 : Heap) (n0 : Nat) (Z0 : n0 ≤ h0.size) :
    oMet l oM8 jdk_52_method_3_code 1 (some .int) ws ⟨0, 0, 0, 0⟩ #[(.int 2)] Z h0 (own_Q_own_nbl2 Z  h0 n0) := by
  refine oB n0 "java/lang/StringUTF16" rfl (plainFor_of_name own_pn730740715) (fun m => own_ef_own_nbl2 m (2 : Int32)) ?_
  intro p e s m below meth c s₁ hZ hx hby hlk hret hml hown hnm X0 e0 N0
  show own_Gl _ _ _ _ _ _ _ (s₁.setTop (mkF m 0 #[.val (.int 2)] []))
  refine own_st (fun _ k => XS.iloadN X0.here hx rfl (hb hby own_d20_0) rfl k) ?_
  have hd1 : ¬ ((2 : Int32) < (0 : Int32)) := (by decide)
  refine own_st (fun _ k => XS.ifYes X0.here hx rfl (pc0 := 1) (pc' := 12) rfl (hb hby own_d20_1) rfl ((if0 _ _).trans (flt hd1).2.1) (by decide) (by decide) k) ?_
  refine own_st (fun _ k => XS.iloadN X0.here hx rfl (hb hby own_d20_12) rfl k) ?_
  refine own_st (X0.ldcInt hx hown (mvT hZ (oW hw 95 rfl)) (g := (mkF m 13 #[.val (.int 2)] [(.int 2)])) rfl (hb hby own_d20_13)) ?_
  show own_Gl _ _ _ _ _ _ _ (s₁.setTop (mkF m 15 #[.val (.int 2)] [(.int 1073741823), (.int 2)]))
  have hd2 : (2 : Int32) < (1073741823 : Int32) := (by decide)
  refine own_st (fun _ k => XS.icmpYes X0.here hx rfl (pc0 := 15) (pc' := 55) rfl (hb hby own_d20_15) rfl (tlt hd2).1 (by decide) (by decide) k) ?_
  refine own_st (fun _ k => XS.iloadN X0.here hx rfl (hb hby own_d20_55) rfl k) ?_
  refine own_st (fun _ k => XS.iconst X0.here hx rfl (hb hby own_d20_56) k) ?_
  refine own_st (fun _ k => XS.ishl X0.here hx rfl (hb hby own_d20_57) rfl k) ?_
  show own_Gl _ _ _ _ _ _ _ (s₁.setTop (mkF m 58 #[.val (.int 2)] [(.int ((2 : Int32) <<< ((1 : Int32) &&& 31)))]))
  exact own_retI X0 hx hlk hret (hb hby own_d20_58) e0 ⟨rfl, N0, rfl⟩ (by decide) (by decide)
theorem own_ef_own_nbf2 (m : MethodId) (x0 : Int32) : entryFrame m #[(.int x0)] 1 = mkF m 0 #[.val (.int x0)] [] := by first | (simp [entryFrame, mkF, argsToLocals, Value.category]; done) | rfl
def own_Q_own_nbf2 (Z : State)  (h0 : Heap) (n0 : Nat) (v : Option Value) (h : Heap) (L : List Loc) : Prop := ∃ (r : Addr) (kr : ClassId), (v = some (.ref r)) ∧ (Fr n0 L) ∧ (Keep h0 h []) ∧ (n0 ≤ r) ∧ (h0.size ≤ r) ∧ (Arv Z h r kr .byte (4 : Int32) [(.int 0), (.int 0), (.int 0), (.int 0)] (.int 0))

theorem own_nbf2 (l : Launch) (Z : State) (a0 : Array Value) (hw : oT a0 Z) (ws : List Jvm.Cond)  (h0 : Heap) (n0 : Nat) (Z0 : n0 ≤ h0.size) :
    oMet l oM9 jdk_52_method_2_code 1 (some (.array .byte)) ws ⟨1, 1, 4, 12⟩ #[(.int 2)] Z h0 (own_Q_own_nbf2 Z  h0 n0) := by
  refine oB n0 "java/lang/StringUTF16" rfl (plainFor_of_name own_pn730740715) (fun m => own_ef_own_nbf2 m (2 : Int32)) ?_
  intro p e s m below meth c s₁ hZ hx hby hlk hret hml hown hnm X0 e0 N0
  show own_Gl _ _ _ _ _ _ _ (s₁.setTop (mkF m 0 #[.val (.int 2)] []))
  refine own_st (fun _ k => XS.iloadN X0.here hx rfl (hb hby own_d19_0) rfl k) ?_
  obtain ⟨_, _, ⟨T1, L1, k1, n1⟩, -, X1, ⟨Lc1, hQ1, l1, y1, z1⟩, st1⟩ := Jvm.LawKit.callS X0 hx (y := oM8) hown (mvT hZ (oW hw 92 rfl)) (mvT hZ (oW hw 93 rfl)) (mvT hZ (oW hw 47 rfl)) (mvT hZ (oW hw 94 rfl)) (by decide) (backOf (W := 0) (own_nbl2 l Z a0 hw []  h0 n0 Z0 ) hZ (oW hw 94 rfl) (oW hw 47 rfl) (by decide) (by decide)) (g := (mkF m 1 #[.val (.int 2)] [(.int 2)])) rfl (by rw [hml]; rfl) (argsL := [(.int 2)]) (rest := []) (lenOf own_pd91181837 rfl) rfl (by show 2 * 0 + _ ≤ _; exact Nat.le_of_eq rfl) (hb hby own_d19_1) (fun _ _ => ⟨rfl, e0, (by decide : 0 + 0 ≤ 1), (by decide : 0 + 0 ≤ 4)⟩)
  dsimp only [Pt.U, Pt.locs, Pt.cells, Pt.slots] at X1 l1 y1 z1 st1 hQ1
  subst l1 y1 z1
  obtain ⟨hh1, eh01⟩ : ∃ z, T1.heap = z := ⟨_, rfl⟩
  rw [eh01] at hQ1
  obtain ⟨rfl, Nq1, eh1⟩ := hQ1
  have N1 := Fr.app N0 Nq1
  refine own_st st1 ?_
  have e1 : T1.heap = h0 := eh01.trans eh1
  obtain ⟨T2, h2, k2, X2, e2, E2, A2, st2⟩ := newP X1 hx hZ (oW hw 19 rfl) e1 (g := (mkF m 4 #[.val (.int 2)] [(.int 4)])) rfl (hb hby own_d19_4) rfl (by decide) (cap := 4) (by decide) (by decide) (by decide) (by decide)
  obtain ⟨b2, gb2⟩ : ∃ z, z = h0.size := ⟨_, rfl⟩
  rw [← gb2] at A2 st2
  refine own_st st2 ?_
  have Zs3 : n0 ≤ h2.size := Nat.le_trans Z0 E2.1
  have g_b2 : n0 ≤ b2 := Nat.le_trans Z0 (Nat.le_of_eq gb2.symm)
  have gh_b2 : h0.size ≤ b2 := Nat.le_trans (Keep.refl h0 []).1 (Nat.le_of_eq gb2.symm)
  have V_b2 : Arv Z h2 b2 k2 .byte (4 : Int32) [(.int 0), (.int 0), (.int 0), (.int 0)] (.int 0) := (Arv.new A2 (by decide)).pad (pad_rep [] (.int 0) 4)
  show own_Gl _ _ _ _ _ _ _ (T2.setTop (mkF m 6 #[.val (.int 2)] [(.ref b2)]))
  have K5 : Keep h0 h2 [] := ((Keep.refl h0 []).ext E2)
  exact own_retA X2 hx hlk hret rfl rfl rfl (hb hby own_d19_6) e2 ⟨b2, k2, rfl, N1, K5, g_b2, gh_b2, V_b2⟩ (by decide) (by decide)
theorem own_ef_own_put2_0 (m : MethodId) (x0 : Addr) (x1 : Int32) (x2 : Int32) : entryFrame m #[(.ref x0), (.int x1), (.int x2)] 3 = mkF m 0 #[.val (.ref x0), .val (.int x1), .val (.int x2)] [] := by first | (simp [entryFrame, mkF, argsToLocals, Value.category]; done) | rfl
def own_Q_own_put2_0 (Z : State) (a : Addr) (k : ClassId) (pc : Int32) (x0 : Int32) (x1 : Int32) (x2 : Int32) (x3 : Int32) (h0 : Heap) (n0 : Nat) (v : Option Value) (h : Heap) (L : List Loc) : Prop := (v = none) ∧ (Fr n0 L) ∧ (Keep h0 h [a]) ∧ (Arv Z h a k .byte (4 : Int32) [(.int (nar .byte ((pc >>> ((0 : Int32) &&& 31)).toInt8.toInt32))), (.int (nar .byte ((pc >>> ((8 : Int32) &&& 31)).toInt8.toInt32))), (.int x2), (.int x3)] (.int 0))

theorem own_put2_0 (l : Launch) (Z : State) (a0 : Array Value) (hw : oT a0 Z) (ws : List Jvm.Cond) (a : Addr) (k : ClassId) (pc : Int32) (x0 : Int32) (x1 : Int32) (x2 : Int32) (x3 : Int32) (h0 : Heap) (n0 : Nat) (Z0 : n0 ≤ h0.size) (Old0 : Old Z n0 h0) (sA : Sta Z Z.heap "java/lang/StringUTF16" "$assertionsDisabled" "Z" (.int 1)) (sH : Sta Z Z.heap "java/lang/StringUTF16" "HI_BYTE_SHIFT" "I" (.int 0)) (sL : Sta Z Z.heap "java/lang/StringUTF16" "LO_BYTE_SHIFT" "I" (.int 8)) (V_a : Arv Z h0 a k .byte (4 : Int32) [(.int x0), (.int x1), (.int x2), (.int x3)] (.int 0)) (g_a : n0 ≤ a) :
    oMet l oM10 jdk_52_method_4_code 3 none ws ⟨0, 0, 0, 0⟩ #[(.ref a), (.int 0), (.int pc)] Z h0 (own_Q_own_put2_0 Z a k pc x0 x1 x2 x3 h0 n0) := by
  refine oB n0 "java/lang/StringUTF16" rfl (plainFor_of_name own_pn730740715) (fun m => own_ef_own_put2_0 m a (0 : Int32) pc) ?_
  intro p e s m below meth c s₁ hZ hx hby hlk hret hml hown hnm X0 e0 N0
  show own_Gl _ _ _ _ _ _ _ (s₁.setTop (mkF m 0 #[.val (.ref a), .val (.int 0), .val (.int pc)] []))
  obtain ⟨T1, X1, e1, st1⟩ := getS2 X0 hx hZ hown (host := "") (Or.inl (oW hw 99 rfl)) Via.refl e0 (sA.ext Old0.2) (g := (mkF m 0 #[.val (.ref a), .val (.int 0), .val (.int pc)] [])) rfl (hb hby own_d21_0)
  refine own_st st1 ?_
  have hd2 : ¬ ((1 : Int32) = (0 : Int32)) := (by decide)
  refine own_st (fun _ k => XS.ifYes X1.here hx rfl (pc0 := 3) (pc' := 28) rfl (hb hby own_d21_3) rfl ((if0 _ _).trans (feq hd2).2) (by decide) (by decide) k) ?_
  refine own_st (fun _ k => XS.iloadN X1.here hx rfl (hb hby own_d21_28) rfl k) ?_
  refine own_st (fun _ k => XS.iconst X1.here hx rfl (hb hby own_d21_29) k) ?_
  show own_Gl _ _ _ _ _ _ _ (T1.setTop (mkF m 30 #[.val (.ref a), .val (.int 0), .val (.int pc)] [(.int 1), (.int 0)]))
  refine own_st (fun _ k => XS.ishl X1.here hx rfl (hb hby own_d21_30) rfl k) ?_
  refine own_st (fun _ k => XS.istoreN X1.here hx rfl (hb hby own_d21_31) rfl (l' := #[.val (.ref a), .val (.int ((0 : Int32) <<< ((1 : Int32) &&& 31))), .val (.int pc)]) rfl k) ?_
  show own_Gl _ _ _ _ _ _ _ (T1.setTop (mkF m 32 #[.val (.ref a), .val (.int 0), .val (.int pc)] []))
  refine own_st (fun _ k => XS.aloadN X1.here hx rfl (hb hby own_d21_32) rfl rfl k) ?_
  refine own_st (fun _ k => XS.iloadN X1.here hx rfl (hb hby own_d21_33) rfl k) ?_
  refine own_st (fun _ k => XS.iinc X1.here hx rfl (hb hby own_d21_34) rfl (l' := #[.val (.ref a), .val (.int 1), .val (.int pc)]) rfl k) ?_
  refine own_st (fun _ k => XS.iloadN X1.here hx rfl (hb hby own_d21_37) rfl k) ?_
  show own_Gl _ _ _ _ _ _ _ (T1.setTop (mkF m 38 #[.val (.ref a), .val (.int 1), .val (.int pc)] [(.int pc), (.int 0), (.ref a)]))
  obtain ⟨T3, X3, e3, st3⟩ := getS2 X1 hx hZ hown (host := "") (Or.inl (oW hw 100 rfl)) Via.refl e1 (sH.ext Old0.2) (g := (mkF m 38 #[.val (.ref a), .val (.int 1), .val (.int pc)] [(.int pc), (.int 0), (.ref a)])) rfl (hb hby own_d21_38)
  refine own_st st3 ?_
  refine own_st (fun _ k => XS.ishr X3.here hx rfl (hb hby own_d21_41) rfl k) ?_
  refine own_st (fun _ k => XS.i2b X3.here hx rfl (hb hby own_d21_42) rfl k) ?_
  obtain ⟨cl4, Ar4, qq4, Ss4, Nn4, Hh4, Gg4⟩ := id V_a
  have hin4 : ¬ ((0 : Int32) < 0 ∨ cl4.slots.size ≤ ((0 : Int32)).toNatClampNeg) := inb_of Ss4 ⟨by decide, by decide⟩
  obtain ⟨T4, h4, X4, e4, W4, st4⟩ := stB X3 hx hZ e3 Ar4 (j := (0 : Int32)) hin4 (g := (mkF m 43 #[.val (.ref a), .val (.int 1), .val (.int pc)] [(.int ((pc >>> ((0 : Int32) &&& 31)).toInt8.toInt32)), (.int 0), (.ref a)])) rfl rfl (hb hby own_d21_43)
  have N4 := Fr.snoc X4 N0 g_a
  refine own_st st4 ?_
  have Zs5 : n0 ≤ h4.size := Nat.le_trans Z0 (Keep.of_wr W4).1
  have Vw4 : Arv Z h4 a k .byte (4 : Int32) [(.int (nar .byte ((pc >>> ((0 : Int32) &&& 31)).toInt8.toInt32))), (.int x1), (.int x2), (.int x3)] (.int 0) := Arv.set Ar4 qq4 Ss4 Nn4 Hh4 Gg4 (fits_nar_byte _) W4 0 (rfl) (Nat.le_of_ble_eq_true rfl)
  show own_Gl _ _ _ _ _ _ _ (T4.setTop (mkF m 44 #[.val (.ref a), .val (.int 1), .val (.int pc)] []))
  refine own_st (fun _ k => XS.aloadN X4.here hx rfl (hb hby own_d21_44) rfl rfl k) ?_
  refine own_st (fun _ k => XS.iloadN X4.here hx rfl (hb hby own_d21_45) rfl k) ?_
  refine own_st (fun _ k => XS.iloadN X4.here hx rfl (hb hby own_d21_46) rfl k) ?_
  have f7 := (Old0.wr W4 g_a)
  obtain ⟨T6, X6, e6, st6⟩ := getS2 X4 hx hZ hown (host := "") (Or.inl (oW hw 101 rfl)) Via.refl e4 (sL.ext f7.2) (g := (mkF m 47 #[.val (.ref a), .val (.int 1), .val (.int pc)] [(.int pc), (.int 1), (.ref a)])) rfl (hb hby own_d21_47)
  refine own_st st6 ?_
  show own_Gl _ _ _ _ _ _ _ (T6.setTop (mkF m 50 #[.val (.ref a), .val (.int 1), .val (.int pc)] [(.int 8), (.int pc), (.int 1), (.ref a)]))
  refine own_st (fun _ k => XS.ishr X6.here hx rfl (hb hby own_d21_50) rfl k) ?_
  refine own_st (fun _ k => XS.i2b X6.here hx rfl (hb hby own_d21_51) rfl k) ?_
  obtain ⟨cl8, Ar8, qq8, Ss8, Nn8, Hh8, Gg8⟩ := id Vw4
  have hin8 : ¬ ((1 : Int32) < 0 ∨ cl8.slots.size ≤ ((1 : Int32)).toNatClampNeg) := inb_of Ss8 ⟨by decide, by decide⟩
  obtain ⟨T8, h8, X8, e8, W8, st8⟩ := stB X6 hx hZ e6 Ar8 (j := (1 : Int32)) hin8 (g := (mkF m 52 #[.val (.ref a), .val (.int 1), .val (.int pc)] [(.int ((pc >>> ((8 : Int32) &&& 31)).toInt8.toInt32)), (.int 1), (.ref a)])) rfl rfl (hb hby own_d21_52)
  have N8 := Fr.snoc X8 N4 g_a
  refine own_st st8 ?_
  have Zs9 : n0 ≤ h8.size := Nat.le_trans Zs5 (Keep.of_wr W8).1
  have Vw8 : Arv Z h8 a k .byte (4 : Int32) [(.int (nar .byte ((pc >>> ((0 : Int32) &&& 31)).toInt8.toInt32))), (.int (nar .byte ((pc >>> ((8 : Int32) &&& 31)).toInt8.toInt32))), (.int x2), (.int x3)] (.int 0) := Arv.set Ar8 qq8 Ss8 Nn8 Hh8 Gg8 (fits_nar_byte _) W8 1 (rfl) (Nat.le_of_ble_eq_true rfl)
  show own_Gl _ _ _ _ _ _ _ (T8.setTop (mkF m 53 #[.val (.ref a), .val (.int 1), .val (.int pc)] []))
  have K10 : Keep h0 h8 [a] := (((Keep.refl h0 [a]).wr W4 (Or.inl (List.mem_of_getElem? (i := 0) rfl))).wr W8 (Or.inl (List.mem_of_getElem? (i := 0) rfl)))
  exact own_retV X8 hx hlk hret (hb hby own_d21_53) e8 ⟨rfl, N8, K10, Vw8⟩ (by decide) (by decide)
theorem own_ef_own_put2_1 (m : MethodId) (x0 : Addr) (x1 : Int32) (x2 : Int32) : entryFrame m #[(.ref x0), (.int x1), (.int x2)] 3 = mkF m 0 #[.val (.ref x0), .val (.int x1), .val (.int x2)] [] := by first | (simp [entryFrame, mkF, argsToLocals, Value.category]; done) | rfl
def own_Q_own_put2_1 (Z : State) (a : Addr) (k : ClassId) (pc : Int32) (x0 : Int32) (x1 : Int32) (x2 : Int32) (x3 : Int32) (h0 : Heap) (n0 : Nat) (v : Option Value) (h : Heap) (L : List Loc) : Prop := (v = none) ∧ (Fr n0 L) ∧ (Keep h0 h [a]) ∧ (Arv Z h a k .byte (4 : Int32) [(.int x0), (.int x1), (.int (nar .byte ((pc >>> ((0 : Int32) &&& 31)).toInt8.toInt32))), (.int (nar .byte ((pc >>> ((8 : Int32) &&& 31)).toInt8.toInt32)))] (.int 0))

theorem own_put2_1 (l : Launch) (Z : State) (a0 : Array Value) (hw : oT a0 Z) (ws : List Jvm.Cond) (a : Addr) (k : ClassId) (pc : Int32) (x0 : Int32) (x1 : Int32) (x2 : Int32) (x3 : Int32) (h0 : Heap) (n0 : Nat) (Z0 : n0 ≤ h0.size) (Old0 : Old Z n0 h0) (sA : Sta Z Z.heap "java/lang/StringUTF16" "$assertionsDisabled" "Z" (.int 1)) (sH : Sta Z Z.heap "java/lang/StringUTF16" "HI_BYTE_SHIFT" "I" (.int 0)) (sL : Sta Z Z.heap "java/lang/StringUTF16" "LO_BYTE_SHIFT" "I" (.int 8)) (V_a : Arv Z h0 a k .byte (4 : Int32) [(.int x0), (.int x1), (.int x2), (.int x3)] (.int 0)) (g_a : n0 ≤ a) :
    oMet l oM10 jdk_52_method_4_code 3 none ws ⟨0, 0, 0, 0⟩ #[(.ref a), (.int 1), (.int pc)] Z h0 (own_Q_own_put2_1 Z a k pc x0 x1 x2 x3 h0 n0) := by
  refine oB n0 "java/lang/StringUTF16" rfl (plainFor_of_name own_pn730740715) (fun m => own_ef_own_put2_1 m a (1 : Int32) pc) ?_
  intro p e s m below meth c s₁ hZ hx hby hlk hret hml hown hnm X0 e0 N0
  show own_Gl _ _ _ _ _ _ _ (s₁.setTop (mkF m 0 #[.val (.ref a), .val (.int 1), .val (.int pc)] []))
  obtain ⟨T1, X1, e1, st1⟩ := getS2 X0 hx hZ hown (host := "") (Or.inl (oW hw 99 rfl)) Via.refl e0 (sA.ext Old0.2) (g := (mkF m 0 #[.val (.ref a), .val (.int 1), .val (.int pc)] [])) rfl (hb hby own_d21_0)
  refine own_st st1 ?_
  have hd2 : ¬ ((1 : Int32) = (0 : Int32)) := (by decide)
  refine own_st (fun _ k => XS.ifYes X1.here hx rfl (pc0 := 3) (pc' := 28) rfl (hb hby own_d21_3) rfl ((if0 _ _).trans (feq hd2).2) (by decide) (by decide) k) ?_
  refine own_st (fun _ k => XS.iloadN X1.here hx rfl (hb hby own_d21_28) rfl k) ?_
  refine own_st (fun _ k => XS.iconst X1.here hx rfl (hb hby own_d21_29) k) ?_
  show own_Gl _ _ _ _ _ _ _ (T1.setTop (mkF m 30 #[.val (.ref a), .val (.int 1), .val (.int pc)] [(.int 1), (.int 1)]))
  refine own_st (fun _ k => XS.ishl X1.here hx rfl (hb hby own_d21_30) rfl k) ?_
  refine own_st (fun _ k => XS.istoreN X1.here hx rfl (hb hby own_d21_31) rfl (l' := #[.val (.ref a), .val (.int ((1 : Int32) <<< ((1 : Int32) &&& 31))), .val (.int pc)]) rfl k) ?_
  show own_Gl _ _ _ _ _ _ _ (T1.setTop (mkF m 32 #[.val (.ref a), .val (.int 2), .val (.int pc)] []))
  refine own_st (fun _ k => XS.aloadN X1.here hx rfl (hb hby own_d21_32) rfl rfl k) ?_
  refine own_st (fun _ k => XS.iloadN X1.here hx rfl (hb hby own_d21_33) rfl k) ?_
  refine own_st (fun _ k => XS.iinc X1.here hx rfl (hb hby own_d21_34) rfl (l' := #[.val (.ref a), .val (.int 3), .val (.int pc)]) rfl k) ?_
  refine own_st (fun _ k => XS.iloadN X1.here hx rfl (hb hby own_d21_37) rfl k) ?_
  show own_Gl _ _ _ _ _ _ _ (T1.setTop (mkF m 38 #[.val (.ref a), .val (.int 3), .val (.int pc)] [(.int pc), (.int 2), (.ref a)]))
  obtain ⟨T3, X3, e3, st3⟩ := getS2 X1 hx hZ hown (host := "") (Or.inl (oW hw 100 rfl)) Via.refl e1 (sH.ext Old0.2) (g := (mkF m 38 #[.val (.ref a), .val (.int 3), .val (.int pc)] [(.int pc), (.int 2), (.ref a)])) rfl (hb hby own_d21_38)
  refine own_st st3 ?_
  refine own_st (fun _ k => XS.ishr X3.here hx rfl (hb hby own_d21_41) rfl k) ?_
  refine own_st (fun _ k => XS.i2b X3.here hx rfl (hb hby own_d21_42) rfl k) ?_
  obtain ⟨cl4, Ar4, qq4, Ss4, Nn4, Hh4, Gg4⟩ := id V_a
  have hin4 : ¬ ((2 : Int32) < 0 ∨ cl4.slots.size ≤ ((2 : Int32)).toNatClampNeg) := inb_of Ss4 ⟨by decide, by decide⟩
  obtain ⟨T4, h4, X4, e4, W4, st4⟩ := stB X3 hx hZ e3 Ar4 (j := (2 : Int32)) hin4 (g := (mkF m 43 #[.val (.ref a), .val (.int 3), .val (.int pc)] [(.int ((pc >>> ((0 : Int32) &&& 31)).toInt8.toInt32)), (.int 2), (.ref a)])) rfl rfl (hb hby own_d21_43)
  have N4 := Fr.snoc X4 N0 g_a
  refine own_st st4 ?_
  have Zs5 : n0 ≤ h4.size := Nat.le_trans Z0 (Keep.of_wr W4).1
  have Vw4 : Arv Z h4 a k .byte (4 : Int32) [(.int x0), (.int x1), (.int (nar .byte ((pc >>> ((0 : Int32) &&& 31)).toInt8.toInt32))), (.int x3)] (.int 0) := Arv.set Ar4 qq4 Ss4 Nn4 Hh4 Gg4 (fits_nar_byte _) W4 2 (rfl) (Nat.le_of_ble_eq_true rfl)
  show own_Gl _ _ _ _ _ _ _ (T4.setTop (mkF m 44 #[.val (.ref a), .val (.int 3), .val (.int pc)] []))
  refine own_st (fun _ k => XS.aloadN X4.here hx rfl (hb hby own_d21_44) rfl rfl k) ?_
  refine own_st (fun _ k => XS.iloadN X4.here hx rfl (hb hby own_d21_45) rfl k) ?_
  refine own_st (fun _ k => XS.iloadN X4.here hx rfl (hb hby own_d21_46) rfl k) ?_
  have f7 := (Old0.wr W4 g_a)
  obtain ⟨T6, X6, e6, st6⟩ := getS2 X4 hx hZ hown (host := "") (Or.inl (oW hw 101 rfl)) Via.refl e4 (sL.ext f7.2) (g := (mkF m 47 #[.val (.ref a), .val (.int 3), .val (.int pc)] [(.int pc), (.int 3), (.ref a)])) rfl (hb hby own_d21_47)
  refine own_st st6 ?_
  show own_Gl _ _ _ _ _ _ _ (T6.setTop (mkF m 50 #[.val (.ref a), .val (.int 3), .val (.int pc)] [(.int 8), (.int pc), (.int 3), (.ref a)]))
  refine own_st (fun _ k => XS.ishr X6.here hx rfl (hb hby own_d21_50) rfl k) ?_
  refine own_st (fun _ k => XS.i2b X6.here hx rfl (hb hby own_d21_51) rfl k) ?_
  obtain ⟨cl8, Ar8, qq8, Ss8, Nn8, Hh8, Gg8⟩ := id Vw4
  have hin8 : ¬ ((3 : Int32) < 0 ∨ cl8.slots.size ≤ ((3 : Int32)).toNatClampNeg) := inb_of Ss8 ⟨by decide, by decide⟩
  obtain ⟨T8, h8, X8, e8, W8, st8⟩ := stB X6 hx hZ e6 Ar8 (j := (3 : Int32)) hin8 (g := (mkF m 52 #[.val (.ref a), .val (.int 3), .val (.int pc)] [(.int ((pc >>> ((8 : Int32) &&& 31)).toInt8.toInt32)), (.int 3), (.ref a)])) rfl rfl (hb hby own_d21_52)
  have N8 := Fr.snoc X8 N4 g_a
  refine own_st st8 ?_
  have Zs9 : n0 ≤ h8.size := Nat.le_trans Zs5 (Keep.of_wr W8).1
  have Vw8 : Arv Z h8 a k .byte (4 : Int32) [(.int x0), (.int x1), (.int (nar .byte ((pc >>> ((0 : Int32) &&& 31)).toInt8.toInt32))), (.int (nar .byte ((pc >>> ((8 : Int32) &&& 31)).toInt8.toInt32)))] (.int 0) := Arv.set Ar8 qq8 Ss8 Nn8 Hh8 Gg8 (fits_nar_byte _) W8 3 (rfl) (Nat.le_of_ble_eq_true rfl)
  show own_Gl _ _ _ _ _ _ _ (T8.setTop (mkF m 53 #[.val (.ref a), .val (.int 3), .val (.int pc)] []))
  have K10 : Keep h0 h8 [a] := (((Keep.refl h0 [a]).wr W4 (Or.inl (List.mem_of_getElem? (i := 0) rfl))).wr W8 (Or.inl (List.mem_of_getElem? (i := 0) rfl)))
  exact own_retV X8 hx hlk hret (hb hby own_d21_53) e8 ⟨rfl, N8, K10, Vw8⟩ (by decide) (by decide)
theorem own_ef_own_tb2 (m : MethodId) (x0 : Addr) (x1 : Int32) (x2 : Int32) : entryFrame m #[(.ref x0), (.int x1), (.int x2)] 5 = mkF m 0 #[.val (.ref x0), .val (.int x1), .val (.int x2), .unset, .unset] [] := by first | (simp [entryFrame, mkF, argsToLocals, Value.category]; done) | rfl
def own_Q_own_tb2 (Z : State) (a : Addr) (k : ClassId) (v0 : Int32) (v1 : Int32) (h0 : Heap) (n0 : Nat) (v : Option Value) (h : Heap) (L : List Loc) : Prop := ∃ (r : Addr) (kr : ClassId), (v = some (.ref r)) ∧ (Fr n0 L) ∧ (Keep h0 h []) ∧ (n0 ≤ r) ∧ (h0.size ≤ r) ∧ (Arv Z h r kr .byte (4 : Int32) [(.int (nar .byte ((v0 >>> ((0 : Int32) &&& 31)).toInt8.toInt32))), (.int (nar .byte ((v0 >>> ((8 : Int32) &&& 31)).toInt8.toInt32))), (.int (nar .byte ((v1 >>> ((0 : Int32) &&& 31)).toInt8.toInt32))), (.int (nar .byte ((v1 >>> ((8 : Int32) &&& 31)).toInt8.toInt32)))] (.int 0))

theorem own_tb2 (l : Launch) (Z : State) (a0 : Array Value) (hw : oT a0 Z) (ws : List Jvm.Cond) (a : Addr) (k : ClassId) (v0 : Int32) (v1 : Int32) (h0 : Heap) (n0 : Nat) (Z0 : n0 ≤ h0.size) (V_a : Arv Z h0 a k .char (2 : Int32) [(.int v0), (.int v1)] (.int 0)) (Old0 : Old Z n0 h0) (sA : Sta Z Z.heap "java/lang/StringUTF16" "$assertionsDisabled" "Z" (.int 1)) (sH : Sta Z Z.heap "java/lang/StringUTF16" "HI_BYTE_SHIFT" "I" (.int 0)) (sL : Sta Z Z.heap "java/lang/StringUTF16" "LO_BYTE_SHIFT" "I" (.int 8)) :
    oMet l oM11 jdk_52_method_14_code 5 (some (.array .byte)) ws ⟨2, 1, 4, 24⟩ #[(.ref a), (.int 0), (.int 2)] Z h0 (own_Q_own_tb2 Z a k v0 v1 h0 n0) := by
  refine oB n0 "java/lang/StringUTF16" rfl (plainFor_of_name own_pn730740715) (fun m => own_ef_own_tb2 m a (0 : Int32) (2 : Int32)) ?_
  intro p e s m below meth c s₁ hZ hx hby hlk hret hml hown hnm X0 e0 N0
  show own_Gl _ _ _ _ _ _ _ (s₁.setTop (mkF m 0 #[.val (.ref a), .val (.int 0), .val (.int 2), .unset, .unset] []))
  refine own_st (fun _ k => XS.iloadN X0.here hx rfl (hb hby own_d18_0) rfl k) ?_
  obtain ⟨_, _, ⟨T1, L1, k1, n1⟩, -, X1, ⟨Lc1, hQ1, l1, y1, z1⟩, st1⟩ := Jvm.LawKit.callS X0 hx (y := oM9) hown (mvT hZ (oW hw 89 rfl)) (mvT hZ (oW hw 90 rfl)) (mvT hZ (oW hw 47 rfl)) (mvT hZ (oW hw 91 rfl)) (by decide) (backOf (W := 0) (own_nbf2 l Z a0 hw []  h0 n0 Z0 ) hZ (oW hw 91 rfl) (oW hw 47 rfl) (by decide) (by decide)) (g := (mkF m 1 #[.val (.ref a), .val (.int 0), .val (.int 2), .unset, .unset] [(.int 2)])) rfl (by rw [hml]; rfl) (argsL := [(.int 2)]) (rest := []) (lenOf own_pd944823071 rfl) rfl (by show 2 * 0 + _ ≤ _; exact Nat.le_of_eq rfl) (hb hby own_d18_1) (fun _ _ => ⟨rfl, e0, (by decide : 0 + 1 ≤ 1), (by decide : 0 + 4 ≤ 4)⟩)
  dsimp only [Pt.U, Pt.locs, Pt.cells, Pt.slots] at X1 l1 y1 z1 st1 hQ1
  subst l1 y1 z1
  obtain ⟨hh1, eh01⟩ : ∃ z, T1.heap = z := ⟨_, rfl⟩
  rw [eh01] at hQ1
  obtain ⟨r_1, kr_1, rfl, Nq1, Kq1, P1_0, P1_1, P1_2⟩ := hQ1
  have N1 := Fr.app N0 Nq1
  refine own_st st1 ?_
  have Zs2 : n0 ≤ hh1.size := Nat.le_trans Z0 Kq1.1
  have gh_r_1 : h0.size ≤ r_1 := Nat.le_trans (Keep.refl h0 []).1 P1_1
  have ne_a_r_1 : a ≠ r_1 := Nat.ne_of_lt (Nat.lt_of_lt_of_le V_a.lt P1_1)
  refine own_st (fun _ k => XS.astoreN X1.here hx rfl (hb hby own_d18_4) rfl rfl (l' := #[.val (.ref a), .val (.int 0), .val (.int 2), .val (.ref r_1), .unset]) rfl k) ?_
  refine own_st (fun _ k => XS.iconst X1.here hx rfl (hb hby own_d18_5) k) ?_
  show own_Gl _ _ _ _ _ _ _ (T1.setTop (mkF m 6 #[.val (.ref a), .val (.int 0), .val (.int 2), .val (.ref r_1), .unset] [(.int 0)]))
  refine own_st (fun _ k => XS.istore X1.here hx rfl (hb hby own_d18_6) rfl (l' := #[.val (.ref a), .val (.int 0), .val (.int 2), .val (.ref r_1), .val (.int 0)]) rfl k) ?_
  refine own_st (fun _ k => XS.iload X1.here hx rfl (hb hby own_d18_8) rfl k) ?_
  refine own_st (fun _ k => XS.iloadN X1.here hx rfl (hb hby own_d18_10) rfl k) ?_
  have hd3 : (0 : Int32) < (2 : Int32) := (by decide)
  refine own_st (fun _ k => XS.icmpNo X1.here hx rfl (hb hby own_d18_11) rfl (tlt hd3).2.1 k) ?_
  show own_Gl _ _ _ _ _ _ _ (T1.setTop (mkF m 14 #[.val (.ref a), .val (.int 0), .val (.int 2), .val (.ref r_1), .val (.int 0)] []))
  refine own_st (fun _ k => XS.aloadN X1.here hx rfl (hb hby own_d18_14) rfl rfl k) ?_
  refine own_st (fun _ k => XS.iload X1.here hx rfl (hb hby own_d18_15) rfl k) ?_
  refine own_st (fun _ k => XS.aloadN X1.here hx rfl (hb hby own_d18_17) rfl rfl k) ?_
  refine own_st (fun _ k => XS.iloadN X1.here hx rfl (hb hby own_d18_18) rfl k) ?_
  show own_Gl _ _ _ _ _ _ _ (T1.setTop (mkF m 19 #[.val (.ref a), .val (.int 0), .val (.int 2), .val (.ref r_1), .val (.int 0)] [(.int 0), (.ref a), (.int 0), (.ref r_1)]))
  have f4 := (V_a.keep Kq1 nin0)
  obtain ⟨cl5, Ar5, qq5, Ss5, Nn5, Hh5, Gg5⟩ := id f4
  have hin5 : ¬ ((0 : Int32) < 0 ∨ cl5.slots.size ≤ ((0 : Int32)).toNatClampNeg) := inb_of Ss5 ⟨by decide, by decide⟩
  have hat5 : cl5.slots[((0 : Int32)).toNatClampNeg]? = some (.int v0) := Hh5.at hin5 (rfl)
  refine own_st (X1.caload hx (j := (0 : Int32)) (v := (.int v0)) (by rw [eh01]; exact Ar5.1) (State.isArrayOf_alike hZ.alike Ar5.2.1) Ar5.2.2 hin5 hat5 (g := (mkF m 19 #[.val (.ref a), .val (.int 0), .val (.int 2), .val (.ref r_1), .val (.int 0)] [(.int 0), (.ref a), (.int 0), (.ref r_1)])) rfl rfl (hb hby own_d18_19)) ?_
  have f7 := (Old0.keep Kq1 all0)
  obtain ⟨_, _, ⟨T6, L6, k6, n6⟩, -, X6, ⟨Lc6, hQ6, l6, y6, z6⟩, st6⟩ := Jvm.LawKit.callS X1 hx (y := oM10) hown (mvT hZ (oW hw 96 rfl)) (mvT hZ (oW hw 97 rfl)) (mvT hZ (oW hw 47 rfl)) (mvT hZ (oW hw 98 rfl)) (by decide) (backOf (W := 0) (own_put2_0 l Z a0 hw [] r_1 kr_1 v0 (0 : Int32) (0 : Int32) (0 : Int32) (0 : Int32) hh1 n0 Zs2 f7 sA sH sL P1_2 P1_0) hZ (oW hw 98 rfl) (oW hw 47 rfl) (by decide) (by decide)) (g := (mkF m 20 #[.val (.ref a), .val (.int 0), .val (.int 2), .val (.ref r_1), .val (.int 0)] [(.int v0), (.int 0), (.ref r_1)])) rfl (by rw [hml]; rfl) (argsL := [(.ref r_1), (.int 0), (.int v0)]) (rest := []) (lenOf own_pd861693120 rfl) rfl (by show 2 * 0 + _ ≤ _; exact Nat.le_of_eq rfl) (hb hby own_d18_20) (fun _ _ => ⟨rfl, eh01, (by decide : 1 + 0 ≤ 1), (by decide : 4 + 0 ≤ 4)⟩)
  dsimp only [Pt.U, Pt.locs, Pt.cells, Pt.slots] at X6 l6 y6 z6 st6 hQ6
  subst l6 y6 z6
  obtain ⟨hh6, eh06⟩ : ∃ z, T6.heap = z := ⟨_, rfl⟩
  rw [eh06] at hQ6
  obtain ⟨rfl, Nq6, Kq6, P6_0⟩ := hQ6
  have N6 := Fr.app N1 Nq6
  refine own_st st6 ?_
  have Zs8 : n0 ≤ hh6.size := Nat.le_trans Zs2 Kq6.1
  refine own_st (fun _ k => XS.iinc X6.here hx rfl (hb hby own_d18_23) rfl (l' := #[.val (.ref a), .val (.int 1), .val (.int 2), .val (.ref r_1), .val (.int 0)]) rfl k) ?_
  refine own_st (fun _ k => XS.iinc X6.here hx rfl (hb hby own_d18_26) rfl (l' := #[.val (.ref a), .val (.int 1), .val (.int 2), .val (.ref r_1), .val (.int 1)]) rfl k) ?_
  show own_Gl _ _ _ _ _ _ _ (T6.setTop (mkF m 29 #[.val (.ref a), .val (.int 1), .val (.int 2), .val (.ref r_1), .val (.int 1)] []))
  refine own_st (fun _ k => XS.goto X6.here hx rfl (pc0 := 29) (pc' := 8) rfl (hb hby own_d18_29) (by decide) (by decide) k) ?_
  refine own_st (fun _ k => XS.iload X6.here hx rfl (hb hby own_d18_8) rfl k) ?_
  refine own_st (fun _ k => XS.iloadN X6.here hx rfl (hb hby own_d18_10) rfl k) ?_
  have hd9 : (1 : Int32) < (2 : Int32) := (by decide)
  refine own_st (fun _ k => XS.icmpNo X6.here hx rfl (hb hby own_d18_11) rfl (tlt hd9).2.1 k) ?_
  show own_Gl _ _ _ _ _ _ _ (T6.setTop (mkF m 14 #[.val (.ref a), .val (.int 1), .val (.int 2), .val (.ref r_1), .val (.int 1)] []))
  refine own_st (fun _ k => XS.aloadN X6.here hx rfl (hb hby own_d18_14) rfl rfl k) ?_
  refine own_st (fun _ k => XS.iload X6.here hx rfl (hb hby own_d18_15) rfl k) ?_
  refine own_st (fun _ k => XS.aloadN X6.here hx rfl (hb hby own_d18_17) rfl rfl k) ?_
  refine own_st (fun _ k => XS.iloadN X6.here hx rfl (hb hby own_d18_18) rfl k) ?_
  show own_Gl _ _ _ _ _ _ _ (T6.setTop (mkF m 19 #[.val (.ref a), .val (.int 1), .val (.int 2), .val (.ref r_1), .val (.int 1)] [(.int 1), (.ref a), (.int 1), (.ref r_1)]))
  have f10 := (f4.keep Kq6 (ninS ne_a_r_1 nin0))
  obtain ⟨cl11, Ar11, qq11, Ss11, Nn11, Hh11, Gg11⟩ := id f10
  have hin11 : ¬ ((1 : Int32) < 0 ∨ cl11.slots.size ≤ ((1 : Int32)).toNatClampNeg) := inb_of Ss11 ⟨by decide, by decide⟩
  have hat11 : cl11.slots[((1 : Int32)).toNatClampNeg]? = some (.int v1) := Hh11.at hin11 (rfl)
  refine own_st (X6.caload hx (j := (1 : Int32)) (v := (.int v1)) (by rw [eh06]; exact Ar11.1) (State.isArrayOf_alike hZ.alike Ar11.2.1) Ar11.2.2 hin11 hat11 (g := (mkF m 19 #[.val (.ref a), .val (.int 1), .val (.int 2), .val (.ref r_1), .val (.int 1)] [(.int 1), (.ref a), (.int 1), (.ref r_1)])) rfl rfl (hb hby own_d18_19)) ?_
  have f13 := (f7.keep Kq6 (allS P1_0 all0))
  obtain ⟨_, _, ⟨T12, L12, k12, n12⟩, -, X12, ⟨Lc12, hQ12, l12, y12, z12⟩, st12⟩ := Jvm.LawKit.callS X6 hx (y := oM10) hown (mvT hZ (oW hw 96 rfl)) (mvT hZ (oW hw 97 rfl)) (mvT hZ (oW hw 47 rfl)) (mvT hZ (oW hw 98 rfl)) (by decide) (backOf (W := 0) (own_put2_1 l Z a0 hw [] r_1 kr_1 v1 (nar .byte ((v0 >>> ((0 : Int32) &&& 31)).toInt8.toInt32)) (nar .byte ((v0 >>> ((8 : Int32) &&& 31)).toInt8.toInt32)) (0 : Int32) (0 : Int32) hh6 n0 Zs8 f13 sA sH sL P6_0 P1_0) hZ (oW hw 98 rfl) (oW hw 47 rfl) (by decide) (by decide)) (g := (mkF m 20 #[.val (.ref a), .val (.int 1), .val (.int 2), .val (.ref r_1), .val (.int 1)] [(.int v1), (.int 1), (.ref r_1)])) rfl (by rw [hml]; rfl) (argsL := [(.ref r_1), (.int 1), (.int v1)]) (rest := []) (lenOf own_pd861693120 rfl) rfl (by show 2 * 0 + _ ≤ _; exact Nat.le_of_eq rfl) (hb hby own_d18_20) (fun _ _ => ⟨rfl, eh06, (by decide : 1 + 0 ≤ 1), (by decide : 4 + 0 ≤ 4)⟩)
  dsimp only [Pt.U, Pt.locs, Pt.cells, Pt.slots] at X12 l12 y12 z12 st12 hQ12
  subst l12 y12 z12
  obtain ⟨hh12, eh012⟩ : ∃ z, T12.heap = z := ⟨_, rfl⟩
  rw [eh012] at hQ12
  obtain ⟨rfl, Nq12, Kq12, P12_0⟩ := hQ12
  have N12 := Fr.app N6 Nq12
  refine own_st st12 ?_
  have Zs14 : n0 ≤ hh12.size := Nat.le_trans Zs8 Kq12.1
  refine own_st (fun _ k => XS.iinc X12.here hx rfl (hb hby own_d18_23) rfl (l' := #[.val (.ref a), .val (.int 2), .val (.int 2), .val (.ref r_1), .val (.int 1)]) rfl k) ?_
  refine own_st (fun _ k => XS.iinc X12.here hx rfl (hb hby own_d18_26) rfl (l' := #[.val (.ref a), .val (.int 2), .val (.int 2), .val (.ref r_1), .val (.int 2)]) rfl k) ?_
  show own_Gl _ _ _ _ _ _ _ (T12.setTop (mkF m 29 #[.val (.ref a), .val (.int 2), .val (.int 2), .val (.ref r_1), .val (.int 2)] []))
  refine own_st (fun _ k => XS.goto X12.here hx rfl (pc0 := 29) (pc' := 8) rfl (hb hby own_d18_29) (by decide) (by decide) k) ?_
  refine own_st (fun _ k => XS.iload X12.here hx rfl (hb hby own_d18_8) rfl k) ?_
  refine own_st (fun _ k => XS.iloadN X12.here hx rfl (hb hby own_d18_10) rfl k) ?_
  have hd15 : ¬ ((2 : Int32) < (2 : Int32)) := (by decide)
  refine own_st (fun _ k => XS.icmpYes X12.here hx rfl (pc0 := 11) (pc' := 32) rfl (hb hby own_d18_11) rfl (flt hd15).2.1 (by decide) (by decide) k) ?_
  show own_Gl _ _ _ _ _ _ _ (T12.setTop (mkF m 32 #[.val (.ref a), .val (.int 2), .val (.int 2), .val (.ref r_1), .val (.int 2)] []))
  refine own_st (fun _ k => XS.aloadN X12.here hx rfl (hb hby own_d18_32) rfl rfl k) ?_
  show own_Gl _ _ _ _ _ _ _ (T12.setTop (mkF m 33 #[.val (.ref a), .val (.int 2), .val (.int 2), .val (.ref r_1), .val (.int 2)] [(.ref r_1)]))
  have K16 : Keep h0 hh12 [] := ((((Keep.refl h0 []).trans Kq1 all0).trans Kq6 (allS (Or.inr gh_r_1) all0)).trans Kq12 (allS (Or.inr gh_r_1) all0))
  exact own_retA X12 hx hlk hret rfl rfl rfl (hb hby own_d18_33) eh012 ⟨r_1, kr_1, rfl, N12, K16, P1_0, gh_r_1, P12_0⟩ (by decide) (by decide)
theorem own_ef_own_get2_0 (m : MethodId) (x0 : Addr) (x1 : Int32) : entryFrame m #[(.ref x0), (.int x1)] 2 = mkF m 0 #[.val (.ref x0), .val (.int x1)] [] := by first | (simp [entryFrame, mkF, argsToLocals, Value.category]; done) | rfl
def own_Q_own_get2_0 (Z : State) (a : Addr) (k : ClassId) (v0 : Int32) (v1 : Int32) (h0 : Heap) (n0 : Nat) (v : Option Value) (h : Heap) (L : List Loc) : Prop := (v = some (.int v0)) ∧ (Fr n0 L) ∧ (h = h0)

theorem own_get2_0 (l : Launch) (Z : State) (a0 : Array Value) (hw : oT a0 Z) (ws : List Jvm.Cond) (a : Addr) (k : ClassId) (v0 : Int32) (v1 : Int32) (h0 : Heap) (n0 : Nat) (Z0 : n0 ≤ h0.size) (Old0 : Old Z n0 h0) (sA : Sta Z Z.heap "java/lang/StringUTF16" "$assertionsDisabled" "Z" (.int 1)) (sH : Sta Z Z.heap "java/lang/StringUTF16" "HI_BYTE_SHIFT" "I" (.int 0)) (sL : Sta Z Z.heap "java/lang/StringUTF16" "LO_BYTE_SHIFT" "I" (.int 8)) (V_a : Arv Z h0 a k .byte (4 : Int32) [(.int (nar .byte ((v0 >>> ((0 : Int32) &&& 31)).toInt8.toInt32))), (.int (nar .byte ((v0 >>> ((8 : Int32) &&& 31)).toInt8.toInt32))), (.int (nar .byte ((v1 >>> ((0 : Int32) &&& 31)).toInt8.toInt32))), (.int (nar .byte ((v1 >>> ((8 : Int32) &&& 31)).toInt8.toInt32)))] (.int 0)) (hr0 : ¬ v0 < (0 : Int32) ∧ ¬ (65535 : Int32) < v0) :
    oMet l oM12 jdk_52_method_5_code 2 (some .char) ws ⟨0, 0, 0, 0⟩ #[(.ref a), (.int 0)] Z h0 (own_Q_own_get2_0 Z a k v0 v1 h0 n0) := by
  refine oB n0 "java/lang/StringUTF16" rfl (plainFor_of_name own_pn730740715) (fun m => own_ef_own_get2_0 m a (0 : Int32)) ?_
  intro p e s m below meth c s₁ hZ hx hby hlk hret hml hown hnm X0 e0 N0
  show own_Gl _ _ _ _ _ _ _ (s₁.setTop (mkF m 0 #[.val (.ref a), .val (.int 0)] []))
  obtain ⟨T1, X1, e1, st1⟩ := getS2 X0 hx hZ hown (host := "") (Or.inl (oW hw 99 rfl)) Via.refl e0 (sA.ext Old0.2) (g := (mkF m 0 #[.val (.ref a), .val (.int 0)] [])) rfl (hb hby own_d22_0)
  refine own_st st1 ?_
  have hd2 : ¬ ((1 : Int32) = (0 : Int32)) := (by decide)
  refine own_st (fun _ k => XS.ifYes X1.here hx rfl (pc0 := 3) (pc' := 28) rfl (hb hby own_d22_3) rfl ((if0 _ _).trans (feq hd2).2) (by decide) (by decide) k) ?_
  refine own_st (fun _ k => XS.iloadN X1.here hx rfl (hb hby own_d22_28) rfl k) ?_
  refine own_st (fun _ k => XS.iconst X1.here hx rfl (hb hby own_d22_29) k) ?_
  show own_Gl _ _ _ _ _ _ _ (T1.setTop (mkF m 30 #[.val (.ref a), .val (.int 0)] [(.int 1), (.int 0)]))
  refine own_st (fun _ k => XS.ishl X1.here hx rfl (hb hby own_d22_30) rfl k) ?_
  refine own_st (fun _ k => XS.istoreN X1.here hx rfl (hb hby own_d22_31) rfl (l' := #[.val (.ref a), .val (.int ((0 : Int32) <<< ((1 : Int32) &&& 31)))]) rfl k) ?_
  show own_Gl _ _ _ _ _ _ _ (T1.setTop (mkF m 32 #[.val (.ref a), .val (.int 0)] []))
  refine own_st (fun _ k => XS.aloadN X1.here hx rfl (hb hby own_d22_32) rfl rfl k) ?_
  refine own_st (fun _ k => XS.iloadN X1.here hx rfl (hb hby own_d22_33) rfl k) ?_
  refine own_st (fun _ k => XS.iinc X1.here hx rfl (hb hby own_d22_34) rfl (l' := #[.val (.ref a), .val (.int 1)]) rfl k) ?_
  obtain ⟨cl3, Ar3, qq3, Ss3, Nn3, Hh3, Gg3⟩ := id V_a
  have hin3 : ¬ ((0 : Int32) < 0 ∨ cl3.slots.size ≤ ((0 : Int32)).toNatClampNeg) := inb_of Ss3 ⟨by decide, by decide⟩
  have hat3 : cl3.slots[((0 : Int32)).toNatClampNeg]? = some (.int (nar .byte ((v0 >>> ((0 : Int32) &&& 31)).toInt8.toInt32))) := Hh3.at hin3 (rfl)
  refine own_st (X1.baloadBytes hx (j := (0 : Int32)) (v := (.int (nar .byte ((v0 >>> ((0 : Int32) &&& 31)).toInt8.toInt32)))) (by rw [e1]; exact Ar3.1) (State.isArrayOf_alike hZ.alike Ar3.2.1) Ar3.2.2 hin3 hat3 (g := (mkF m 37 #[.val (.ref a), .val (.int 1)] [(.int 0), (.ref a)])) rfl rfl (hb hby own_d22_37)) ?_
  show own_Gl _ _ _ _ _ _ _ (T1.setTop (mkF m 38 #[.val (.ref a), .val (.int 1)] [(.int (nar .byte ((v0 >>> ((0 : Int32) &&& 31)).toInt8.toInt32)))]))
  refine own_st (fun _ k => XS.sipush X1.here hx rfl (hb hby own_d22_38) k) ?_
  refine own_st (fun _ k => XS.iand X1.here hx rfl (hb hby own_d22_41) rfl k) ?_
  obtain ⟨T4, X4, e4, st4⟩ := getS2 X1 hx hZ hown (host := "") (Or.inl (oW hw 100 rfl)) Via.refl e1 (sH.ext Old0.2) (g := (mkF m 42 #[.val (.ref a), .val (.int 1)] [(.int ((nar .byte ((v0 >>> ((0 : Int32) &&& 31)).toInt8.toInt32)) &&& (255 : Int32)))])) rfl (hb hby own_d22_42)
  refine own_st st4 ?_
  refine own_st (fun _ k => XS.ishl X4.here hx rfl (hb hby own_d22_45) rfl k) ?_
  show own_Gl _ _ _ _ _ _ _ (T4.setTop (mkF m 46 #[.val (.ref a), .val (.int 1)] [(.int (((nar .byte ((v0 >>> ((0 : Int32) &&& 31)).toInt8.toInt32)) &&& (255 : Int32)) <<< ((0 : Int32) &&& 31)))]))
  refine own_st (fun _ k => XS.aloadN X4.here hx rfl (hb hby own_d22_46) rfl rfl k) ?_
  refine own_st (fun _ k => XS.iloadN X4.here hx rfl (hb hby own_d22_47) rfl k) ?_
  obtain ⟨cl5, Ar5, qq5, Ss5, Nn5, Hh5, Gg5⟩ := id V_a
  have hin5 : ¬ ((1 : Int32) < 0 ∨ cl5.slots.size ≤ ((1 : Int32)).toNatClampNeg) := inb_of Ss5 ⟨by decide, by decide⟩
  have hat5 : cl5.slots[((1 : Int32)).toNatClampNeg]? = some (.int (nar .byte ((v0 >>> ((8 : Int32) &&& 31)).toInt8.toInt32))) := Hh5.at hin5 (rfl)
  refine own_st (X4.baloadBytes hx (j := (1 : Int32)) (v := (.int (nar .byte ((v0 >>> ((8 : Int32) &&& 31)).toInt8.toInt32)))) (by rw [e4]; exact Ar5.1) (State.isArrayOf_alike hZ.alike Ar5.2.1) Ar5.2.2 hin5 hat5 (g := (mkF m 48 #[.val (.ref a), .val (.int 1)] [(.int 1), (.ref a), (.int (((nar .byte ((v0 >>> ((0 : Int32) &&& 31)).toInt8.toInt32)) &&& (255 : Int32)) <<< ((0 : Int32) &&& 31)))])) rfl rfl (hb hby own_d22_48)) ?_
  refine own_st (fun _ k => XS.sipush X4.here hx rfl (hb hby own_d22_49) k) ?_
  show own_Gl _ _ _ _ _ _ _ (T4.setTop (mkF m 52 #[.val (.ref a), .val (.int 1)] [(.int 255), (.int (nar .byte ((v0 >>> ((8 : Int32) &&& 31)).toInt8.toInt32))), (.int (((nar .byte ((v0 >>> ((0 : Int32) &&& 31)).toInt8.toInt32)) &&& (255 : Int32)) <<< ((0 : Int32) &&& 31)))]))
  refine own_st (fun _ k => XS.iand X4.here hx rfl (hb hby own_d22_52) rfl k) ?_
  obtain ⟨T6, X6, e6, st6⟩ := getS2 X4 hx hZ hown (host := "") (Or.inl (oW hw 101 rfl)) Via.refl e4 (sL.ext Old0.2) (g := (mkF m 53 #[.val (.ref a), .val (.int 1)] [(.int ((nar .byte ((v0 >>> ((8 : Int32) &&& 31)).toInt8.toInt32)) &&& (255 : Int32))), (.int (((nar .byte ((v0 >>> ((0 : Int32) &&& 31)).toInt8.toInt32)) &&& (255 : Int32)) <<< ((0 : Int32) &&& 31)))])) rfl (hb hby own_d22_53)
  refine own_st st6 ?_
  refine own_st (fun _ k => XS.ishl X6.here hx rfl (hb hby own_d22_56) rfl k) ?_
  refine own_st (fun _ k => XS.ior X6.here hx rfl (hb hby own_d22_57) rfl k) ?_
  show own_Gl _ _ _ _ _ _ _ (T6.setTop (mkF m 58 #[.val (.ref a), .val (.int 1)] [(.int ((((nar .byte ((v0 >>> ((0 : Int32) &&& 31)).toInt8.toInt32)) &&& (255 : Int32)) <<< ((0 : Int32) &&& 31)) ||| (((nar .byte ((v0 >>> ((8 : Int32) &&& 31)).toInt8.toInt32)) &&& (255 : Int32)) <<< ((8 : Int32) &&& 31))))]))
  refine own_st (fun _ k => XS.i2c X6.here hx rfl (hb hby own_d22_58) rfl k) ?_
  show own_Gl _ _ _ _ _ _ _ (T6.setTop (mkF m 59 #[.val (.ref a), .val (.int 1)] [(.int (((((nar .byte ((v0 >>> ((0 : Int32) &&& 31)).toInt8.toInt32)) &&& (255 : Int32)) <<< ((0 : Int32) &&& 31)) ||| (((nar .byte ((v0 >>> ((8 : Int32) &&& 31)).toInt8.toInt32)) &&& (255 : Int32)) <<< ((8 : Int32) &&& 31))).toUInt32.toUInt16.toUInt32.toInt32))]))
  exact own_retN X6 hx hlk (t := .char) hret (by simp) (hb hby own_d22_59) e6 ⟨by rw [own_gch _ hr0.1 hr0.2, own_nc _ hr0], N0, rfl⟩ (by decide) (by decide)
theorem own_ef_own_get2_1 (m : MethodId) (x0 : Addr) (x1 : Int32) : entryFrame m #[(.ref x0), (.int x1)] 2 = mkF m 0 #[.val (.ref x0), .val (.int x1)] [] := by first | (simp [entryFrame, mkF, argsToLocals, Value.category]; done) | rfl
def own_Q_own_get2_1 (Z : State) (a : Addr) (k : ClassId) (v0 : Int32) (v1 : Int32) (h0 : Heap) (n0 : Nat) (v : Option Value) (h : Heap) (L : List Loc) : Prop := (v = some (.int v1)) ∧ (Fr n0 L) ∧ (h = h0)

theorem own_get2_1 (l : Launch) (Z : State) (a0 : Array Value) (hw : oT a0 Z) (ws : List Jvm.Cond) (a : Addr) (k : ClassId) (v0 : Int32) (v1 : Int32) (h0 : Heap) (n0 : Nat) (Z0 : n0 ≤ h0.size) (Old0 : Old Z n0 h0) (sA : Sta Z Z.heap "java/lang/StringUTF16" "$assertionsDisabled" "Z" (.int 1)) (sH : Sta Z Z.heap "java/lang/StringUTF16" "HI_BYTE_SHIFT" "I" (.int 0)) (sL : Sta Z Z.heap "java/lang/StringUTF16" "LO_BYTE_SHIFT" "I" (.int 8)) (V_a : Arv Z h0 a k .byte (4 : Int32) [(.int (nar .byte ((v0 >>> ((0 : Int32) &&& 31)).toInt8.toInt32))), (.int (nar .byte ((v0 >>> ((8 : Int32) &&& 31)).toInt8.toInt32))), (.int (nar .byte ((v1 >>> ((0 : Int32) &&& 31)).toInt8.toInt32))), (.int (nar .byte ((v1 >>> ((8 : Int32) &&& 31)).toInt8.toInt32)))] (.int 0)) (hr1 : ¬ v1 < (0 : Int32) ∧ ¬ (65535 : Int32) < v1) :
    oMet l oM12 jdk_52_method_5_code 2 (some .char) ws ⟨0, 0, 0, 0⟩ #[(.ref a), (.int 1)] Z h0 (own_Q_own_get2_1 Z a k v0 v1 h0 n0) := by
  refine oB n0 "java/lang/StringUTF16" rfl (plainFor_of_name own_pn730740715) (fun m => own_ef_own_get2_1 m a (1 : Int32)) ?_
  intro p e s m below meth c s₁ hZ hx hby hlk hret hml hown hnm X0 e0 N0
  show own_Gl _ _ _ _ _ _ _ (s₁.setTop (mkF m 0 #[.val (.ref a), .val (.int 1)] []))
  obtain ⟨T1, X1, e1, st1⟩ := getS2 X0 hx hZ hown (host := "") (Or.inl (oW hw 99 rfl)) Via.refl e0 (sA.ext Old0.2) (g := (mkF m 0 #[.val (.ref a), .val (.int 1)] [])) rfl (hb hby own_d22_0)
  refine own_st st1 ?_
  have hd2 : ¬ ((1 : Int32) = (0 : Int32)) := (by decide)
  refine own_st (fun _ k => XS.ifYes X1.here hx rfl (pc0 := 3) (pc' := 28) rfl (hb hby own_d22_3) rfl ((if0 _ _).trans (feq hd2).2) (by decide) (by decide) k) ?_
  refine own_st (fun _ k => XS.iloadN X1.here hx rfl (hb hby own_d22_28) rfl k) ?_
  refine own_st (fun _ k => XS.iconst X1.here hx rfl (hb hby own_d22_29) k) ?_
  show own_Gl _ _ _ _ _ _ _ (T1.setTop (mkF m 30 #[.val (.ref a), .val (.int 1)] [(.int 1), (.int 1)]))
  refine own_st (fun _ k => XS.ishl X1.here hx rfl (hb hby own_d22_30) rfl k) ?_
  refine own_st (fun _ k => XS.istoreN X1.here hx rfl (hb hby own_d22_31) rfl (l' := #[.val (.ref a), .val (.int ((1 : Int32) <<< ((1 : Int32) &&& 31)))]) rfl k) ?_
  show own_Gl _ _ _ _ _ _ _ (T1.setTop (mkF m 32 #[.val (.ref a), .val (.int 2)] []))
  refine own_st (fun _ k => XS.aloadN X1.here hx rfl (hb hby own_d22_32) rfl rfl k) ?_
  refine own_st (fun _ k => XS.iloadN X1.here hx rfl (hb hby own_d22_33) rfl k) ?_
  refine own_st (fun _ k => XS.iinc X1.here hx rfl (hb hby own_d22_34) rfl (l' := #[.val (.ref a), .val (.int 3)]) rfl k) ?_
  obtain ⟨cl3, Ar3, qq3, Ss3, Nn3, Hh3, Gg3⟩ := id V_a
  have hin3 : ¬ ((2 : Int32) < 0 ∨ cl3.slots.size ≤ ((2 : Int32)).toNatClampNeg) := inb_of Ss3 ⟨by decide, by decide⟩
  have hat3 : cl3.slots[((2 : Int32)).toNatClampNeg]? = some (.int (nar .byte ((v1 >>> ((0 : Int32) &&& 31)).toInt8.toInt32))) := Hh3.at hin3 (rfl)
  refine own_st (X1.baloadBytes hx (j := (2 : Int32)) (v := (.int (nar .byte ((v1 >>> ((0 : Int32) &&& 31)).toInt8.toInt32)))) (by rw [e1]; exact Ar3.1) (State.isArrayOf_alike hZ.alike Ar3.2.1) Ar3.2.2 hin3 hat3 (g := (mkF m 37 #[.val (.ref a), .val (.int 3)] [(.int 2), (.ref a)])) rfl rfl (hb hby own_d22_37)) ?_
  show own_Gl _ _ _ _ _ _ _ (T1.setTop (mkF m 38 #[.val (.ref a), .val (.int 3)] [(.int (nar .byte ((v1 >>> ((0 : Int32) &&& 31)).toInt8.toInt32)))]))
  refine own_st (fun _ k => XS.sipush X1.here hx rfl (hb hby own_d22_38) k) ?_
  refine own_st (fun _ k => XS.iand X1.here hx rfl (hb hby own_d22_41) rfl k) ?_
  obtain ⟨T4, X4, e4, st4⟩ := getS2 X1 hx hZ hown (host := "") (Or.inl (oW hw 100 rfl)) Via.refl e1 (sH.ext Old0.2) (g := (mkF m 42 #[.val (.ref a), .val (.int 3)] [(.int ((nar .byte ((v1 >>> ((0 : Int32) &&& 31)).toInt8.toInt32)) &&& (255 : Int32)))])) rfl (hb hby own_d22_42)
  refine own_st st4 ?_
  refine own_st (fun _ k => XS.ishl X4.here hx rfl (hb hby own_d22_45) rfl k) ?_
  show own_Gl _ _ _ _ _ _ _ (T4.setTop (mkF m 46 #[.val (.ref a), .val (.int 3)] [(.int (((nar .byte ((v1 >>> ((0 : Int32) &&& 31)).toInt8.toInt32)) &&& (255 : Int32)) <<< ((0 : Int32) &&& 31)))]))
  refine own_st (fun _ k => XS.aloadN X4.here hx rfl (hb hby own_d22_46) rfl rfl k) ?_
  refine own_st (fun _ k => XS.iloadN X4.here hx rfl (hb hby own_d22_47) rfl k) ?_
  obtain ⟨cl5, Ar5, qq5, Ss5, Nn5, Hh5, Gg5⟩ := id V_a
  have hin5 : ¬ ((3 : Int32) < 0 ∨ cl5.slots.size ≤ ((3 : Int32)).toNatClampNeg) := inb_of Ss5 ⟨by decide, by decide⟩
  have hat5 : cl5.slots[((3 : Int32)).toNatClampNeg]? = some (.int (nar .byte ((v1 >>> ((8 : Int32) &&& 31)).toInt8.toInt32))) := Hh5.at hin5 (rfl)
  refine own_st (X4.baloadBytes hx (j := (3 : Int32)) (v := (.int (nar .byte ((v1 >>> ((8 : Int32) &&& 31)).toInt8.toInt32)))) (by rw [e4]; exact Ar5.1) (State.isArrayOf_alike hZ.alike Ar5.2.1) Ar5.2.2 hin5 hat5 (g := (mkF m 48 #[.val (.ref a), .val (.int 3)] [(.int 3), (.ref a), (.int (((nar .byte ((v1 >>> ((0 : Int32) &&& 31)).toInt8.toInt32)) &&& (255 : Int32)) <<< ((0 : Int32) &&& 31)))])) rfl rfl (hb hby own_d22_48)) ?_
  refine own_st (fun _ k => XS.sipush X4.here hx rfl (hb hby own_d22_49) k) ?_
  show own_Gl _ _ _ _ _ _ _ (T4.setTop (mkF m 52 #[.val (.ref a), .val (.int 3)] [(.int 255), (.int (nar .byte ((v1 >>> ((8 : Int32) &&& 31)).toInt8.toInt32))), (.int (((nar .byte ((v1 >>> ((0 : Int32) &&& 31)).toInt8.toInt32)) &&& (255 : Int32)) <<< ((0 : Int32) &&& 31)))]))
  refine own_st (fun _ k => XS.iand X4.here hx rfl (hb hby own_d22_52) rfl k) ?_
  obtain ⟨T6, X6, e6, st6⟩ := getS2 X4 hx hZ hown (host := "") (Or.inl (oW hw 101 rfl)) Via.refl e4 (sL.ext Old0.2) (g := (mkF m 53 #[.val (.ref a), .val (.int 3)] [(.int ((nar .byte ((v1 >>> ((8 : Int32) &&& 31)).toInt8.toInt32)) &&& (255 : Int32))), (.int (((nar .byte ((v1 >>> ((0 : Int32) &&& 31)).toInt8.toInt32)) &&& (255 : Int32)) <<< ((0 : Int32) &&& 31)))])) rfl (hb hby own_d22_53)
  refine own_st st6 ?_
  refine own_st (fun _ k => XS.ishl X6.here hx rfl (hb hby own_d22_56) rfl k) ?_
  refine own_st (fun _ k => XS.ior X6.here hx rfl (hb hby own_d22_57) rfl k) ?_
  show own_Gl _ _ _ _ _ _ _ (T6.setTop (mkF m 58 #[.val (.ref a), .val (.int 3)] [(.int ((((nar .byte ((v1 >>> ((0 : Int32) &&& 31)).toInt8.toInt32)) &&& (255 : Int32)) <<< ((0 : Int32) &&& 31)) ||| (((nar .byte ((v1 >>> ((8 : Int32) &&& 31)).toInt8.toInt32)) &&& (255 : Int32)) <<< ((8 : Int32) &&& 31))))]))
  refine own_st (fun _ k => XS.i2c X6.here hx rfl (hb hby own_d22_58) rfl k) ?_
  show own_Gl _ _ _ _ _ _ _ (T6.setTop (mkF m 59 #[.val (.ref a), .val (.int 3)] [(.int (((((nar .byte ((v1 >>> ((0 : Int32) &&& 31)).toInt8.toInt32)) &&& (255 : Int32)) <<< ((0 : Int32) &&& 31)) ||| (((nar .byte ((v1 >>> ((8 : Int32) &&& 31)).toInt8.toInt32)) &&& (255 : Int32)) <<< ((8 : Int32) &&& 31))).toUInt32.toUInt16.toUInt32.toInt32))]))
  exact own_retN X6 hx hlk (t := .char) hret (by simp) (hb hby own_d22_59) e6 ⟨by rw [own_gch _ hr1.1 hr1.2, own_nc _ hr1], N0, rfl⟩ (by decide) (by decide)
theorem own_ef_own_c5_2_0 (m : MethodId) (x0 : Addr) (x1 : Int32) (x2 : Addr) (x3 : Int32) (x4 : Int32) : entryFrame m #[(.ref x0), (.int x1), (.ref x2), (.int x3), (.int x4)] 7 = mkF m 0 #[.val (.ref x0), .val (.int x1), .val (.ref x2), .val (.int x3), .val (.int x4), .unset, .unset] [] := by first | (simp [entryFrame, mkF, argsToLocals, Value.category]; done) | rfl
def own_Q_own_c5_2_0 (Z : State) (a : Addr) (b : Addr) (k : ClassId) (kb : ClassId) (v0 : Int32) (v1 : Int32) (h0 : Heap) (n0 : Nat) (v : Option Value) (h : Heap) (L : List Loc) : Prop := (v = some (.int 0)) ∧ (Fr n0 L) ∧ (Keep h0 h [b]) ∧ (Arv Z h b kb .byte (2 : Int32) [(.int 0), (.int 0)] (.int 0))

theorem own_c5_2_0 (l : Launch) (Z : State) (a0 : Array Value) (hw : oT a0 Z) (ws : List Jvm.Cond) (a : Addr) (b : Addr) (k : ClassId) (kb : ClassId) (v0 : Int32) (v1 : Int32) (h0 : Heap) (n0 : Nat) (Z0 : n0 ≤ h0.size) (V_a : Arv Z h0 a k .char (2 : Int32) [(.int v0), (.int v1)] (.int 0)) (V_b : Arv Z h0 b kb .byte (2 : Int32) [(.int 0), (.int 0)] (.int 0)) (g_b : n0 ≤ b) (ne_a_b : a ≠ b) (hgt : (255 : Int32) < v0) :
    oMet l oM13 jdk_52_method_21_code 7 (some .int) ws ⟨0, 0, 0, 0⟩ #[(.ref a), (.int 0), (.ref b), (.int 0), (.int 2)] Z h0 (own_Q_own_c5_2_0 Z a b k kb v0 v1 h0 n0) := by
  refine oB n0 "java/lang/StringUTF16" rfl (plainFor_of_name own_pn730740715) (fun m => own_ef_own_c5_2_0 m a (0 : Int32) b (0 : Int32) (2 : Int32)) ?_
  intro p e s m below meth c s₁ hZ hx hby hlk hret hml hown hnm X0 e0 N0
  show own_Gl _ _ _ _ _ _ _ (s₁.setTop (mkF m 0 #[.val (.ref a), .val (.int 0), .val (.ref b), .val (.int 0), .val (.int 2), .unset, .unset] []))
  refine own_st (fun _ k => XS.iconst X0.here hx rfl (hb hby own_d9_0) k) ?_
  refine own_st (fun _ k => XS.istore X0.here hx rfl (hb hby own_d9_1) rfl (l' := #[.val (.ref a), .val (.int 0), .val (.ref b), .val (.int 0), .val (.int 2), .val (.int 0), .unset]) rfl k) ?_
  refine own_st (fun _ k => XS.iload X0.here hx rfl (hb hby own_d9_3) rfl k) ?_
  refine own_st (fun _ k => XS.iload X0.here hx rfl (hb hby own_d9_5) rfl k) ?_
  show own_Gl _ _ _ _ _ _ _ (s₁.setTop (mkF m 7 #[.val (.ref a), .val (.int 0), .val (.ref b), .val (.int 0), .val (.int 2), .val (.int 0), .unset] [(.int 2), (.int 0)]))
  have hd1 : (0 : Int32) < (2 : Int32) := (by decide)
  refine own_st (fun _ k => XS.icmpNo X0.here hx rfl (hb hby own_d9_7) rfl (tlt hd1).2.1 k) ?_
  refine own_st (fun _ k => XS.aloadN X0.here hx rfl (hb hby own_d9_10) rfl rfl k) ?_
  refine own_st (fun _ k => XS.iloadN X0.here hx rfl (hb hby own_d9_11) rfl k) ?_
  obtain ⟨cl2, Ar2, qq2, Ss2, Nn2, Hh2, Gg2⟩ := id V_a
  have hin2 : ¬ ((0 : Int32) < 0 ∨ cl2.slots.size ≤ ((0 : Int32)).toNatClampNeg) := inb_of Ss2 ⟨by decide, by decide⟩
  have hat2 : cl2.slots[((0 : Int32)).toNatClampNeg]? = some (.int v0) := Hh2.at hin2 (rfl)
  refine own_st (X0.caload hx (j := (0 : Int32)) (v := (.int v0)) (by rw [e0]; exact Ar2.1) (State.isArrayOf_alike hZ.alike Ar2.2.1) Ar2.2.2 hin2 hat2 (g := (mkF m 12 #[.val (.ref a), .val (.int 0), .val (.ref b), .val (.int 0), .val (.int 2), .val (.int 0), .unset] [(.int 0), (.ref a)])) rfl rfl (hb hby own_d9_12)) ?_
  show own_Gl _ _ _ _ _ _ _ (s₁.setTop (mkF m 13 #[.val (.ref a), .val (.int 0), .val (.ref b), .val (.int 0), .val (.int 2), .val (.int 0), .unset] [(.int v0)]))
  refine own_st (fun _ k => XS.istore X0.here hx rfl (hb hby own_d9_13) rfl (l' := #[.val (.ref a), .val (.int 0), .val (.ref b), .val (.int 0), .val (.int 2), .val (.int 0), .val (.int v0)]) rfl k) ?_
  refine own_st (fun _ k => XS.iload X0.here hx rfl (hb hby own_d9_15) rfl k) ?_
  refine own_st (fun _ k => XS.sipush X0.here hx rfl (hb hby own_d9_17) k) ?_
  have hd3 : (255 : Int32) < v0 := hgt
  refine own_st (fun _ k => XS.icmpNo X0.here hx rfl (hb hby own_d9_20) rfl (tlt hd3).2.2.2 k) ?_
  show own_Gl _ _ _ _ _ _ _ (s₁.setTop (mkF m 23 #[.val (.ref a), .val (.int 0), .val (.ref b), .val (.int 0), .val (.int 2), .val (.int 0), .val (.int v0)] []))
  refine own_st (fun _ k => XS.iload X0.here hx rfl (hb hby own_d9_23) rfl k) ?_
  show own_Gl _ _ _ _ _ _ _ (s₁.setTop (mkF m 25 #[.val (.ref a), .val (.int 0), .val (.ref b), .val (.int 0), .val (.int 2), .val (.int 0), .val (.int v0)] [(.int 0)]))
  exact own_retI X0 hx hlk hret (hb hby own_d9_25) e0 ⟨rfl, N0, (Keep.refl h0 [b]), V_b⟩ (by decide) (by decide)
theorem own_ef_own_c5_2_1 (m : MethodId) (x0 : Addr) (x1 : Int32) (x2 : Addr) (x3 : Int32) (x4 : Int32) : entryFrame m #[(.ref x0), (.int x1), (.ref x2), (.int x3), (.int x4)] 7 = mkF m 0 #[.val (.ref x0), .val (.int x1), .val (.ref x2), .val (.int x3), .val (.int x4), .unset, .unset] [] := by first | (simp [entryFrame, mkF, argsToLocals, Value.category]; done) | rfl
def own_Q_own_c5_2_1 (Z : State) (a : Addr) (b : Addr) (k : ClassId) (kb : ClassId) (v0 : Int32) (v1 : Int32) (h0 : Heap) (n0 : Nat) (v : Option Value) (h : Heap) (L : List Loc) : Prop := (v = some (.int 1)) ∧ (Fr n0 L) ∧ (Keep h0 h [b]) ∧ (Arv Z h b kb .byte (2 : Int32) [(.int (nar .byte (v0.toInt8.toInt32))), (.int 0)] (.int 0))

theorem own_c5_2_1 (l : Launch) (Z : State) (a0 : Array Value) (hw : oT a0 Z) (ws : List Jvm.Cond) (a : Addr) (b : Addr) (k : ClassId) (kb : ClassId) (v0 : Int32) (v1 : Int32) (h0 : Heap) (n0 : Nat) (Z0 : n0 ≤ h0.size) (V_a : Arv Z h0 a k .char (2 : Int32) [(.int v0), (.int v1)] (.int 0)) (V_b : Arv Z h0 b kb .byte (2 : Int32) [(.int 0), (.int 0)] (.int 0)) (g_b : n0 ≤ b) (ne_a_b : a ≠ b) (hle0 : ¬ ((255 : Int32) < v0)) (hgt : (255 : Int32) < v1) :
    oMet l oM13 jdk_52_method_21_code 7 (some .int) ws ⟨0, 0, 0, 0⟩ #[(.ref a), (.int 0), (.ref b), (.int 0), (.int 2)] Z h0 (own_Q_own_c5_2_1 Z a b k kb v0 v1 h0 n0) := by
  refine oB n0 "java/lang/StringUTF16" rfl (plainFor_of_name own_pn730740715) (fun m => own_ef_own_c5_2_1 m a (0 : Int32) b (0 : Int32) (2 : Int32)) ?_
  intro p e s m below meth c s₁ hZ hx hby hlk hret hml hown hnm X0 e0 N0
  show own_Gl _ _ _ _ _ _ _ (s₁.setTop (mkF m 0 #[.val (.ref a), .val (.int 0), .val (.ref b), .val (.int 0), .val (.int 2), .unset, .unset] []))
  refine own_st (fun _ k => XS.iconst X0.here hx rfl (hb hby own_d9_0) k) ?_
  refine own_st (fun _ k => XS.istore X0.here hx rfl (hb hby own_d9_1) rfl (l' := #[.val (.ref a), .val (.int 0), .val (.ref b), .val (.int 0), .val (.int 2), .val (.int 0), .unset]) rfl k) ?_
  refine own_st (fun _ k => XS.iload X0.here hx rfl (hb hby own_d9_3) rfl k) ?_
  refine own_st (fun _ k => XS.iload X0.here hx rfl (hb hby own_d9_5) rfl k) ?_
  show own_Gl _ _ _ _ _ _ _ (s₁.setTop (mkF m 7 #[.val (.ref a), .val (.int 0), .val (.ref b), .val (.int 0), .val (.int 2), .val (.int 0), .unset] [(.int 2), (.int 0)]))
  have hd1 : (0 : Int32) < (2 : Int32) := (by decide)
  refine own_st (fun _ k => XS.icmpNo X0.here hx rfl (hb hby own_d9_7) rfl (tlt hd1).2.1 k) ?_
  refine own_st (fun _ k => XS.aloadN X0.here hx rfl (hb hby own_d9_10) rfl rfl k) ?_
  refine own_st (fun _ k => XS.iloadN X0.here hx rfl (hb hby own_d9_11) rfl k) ?_
  obtain ⟨cl2, Ar2, qq2, Ss2, Nn2, Hh2, Gg2⟩ := id V_a
  have hin2 : ¬ ((0 : Int32) < 0 ∨ cl2.slots.size ≤ ((0 : Int32)).toNatClampNeg) := inb_of Ss2 ⟨by decide, by decide⟩
  have hat2 : cl2.slots[((0 : Int32)).toNatClampNeg]? = some (.int v0) := Hh2.at hin2 (rfl)
  refine own_st (X0.caload hx (j := (0 : Int32)) (v := (.int v0)) (by rw [e0]; exact Ar2.1) (State.isArrayOf_alike hZ.alike Ar2.2.1) Ar2.2.2 hin2 hat2 (g := (mkF m 12 #[.val (.ref a), .val (.int 0), .val (.ref b), .val (.int 0), .val (.int 2), .val (.int 0), .unset] [(.int 0), (.ref a)])) rfl rfl (hb hby own_d9_12)) ?_
  show own_Gl _ _ _ _ _ _ _ (s₁.setTop (mkF m 13 #[.val (.ref a), .val (.int 0), .val (.ref b), .val (.int 0), .val (.int 2), .val (.int 0), .unset] [(.int v0)]))
  refine own_st (fun _ k => XS.istore X0.here hx rfl (hb hby own_d9_13) rfl (l' := #[.val (.ref a), .val (.int 0), .val (.ref b), .val (.int 0), .val (.int 2), .val (.int 0), .val (.int v0)]) rfl k) ?_
  refine own_st (fun _ k => XS.iload X0.here hx rfl (hb hby own_d9_15) rfl k) ?_
  refine own_st (fun _ k => XS.sipush X0.here hx rfl (hb hby own_d9_17) k) ?_
  have hd3 : ¬ ((255 : Int32) < v0) := hle0
  refine own_st (fun _ k => XS.icmpYes X0.here hx rfl (pc0 := 20) (pc' := 26) rfl (hb hby own_d9_20) rfl (flt hd3).2.2.2 (by decide) (by decide) k) ?_
  show own_Gl _ _ _ _ _ _ _ (s₁.setTop (mkF m 26 #[.val (.ref a), .val (.int 0), .val (.ref b), .val (.int 0), .val (.int 2), .val (.int 0), .val (.int v0)] []))
  refine own_st (fun _ k => XS.aloadN X0.here hx rfl (hb hby own_d9_26) rfl rfl k) ?_
  refine own_st (fun _ k => XS.iloadN X0.here hx rfl (hb hby own_d9_27) rfl k) ?_
  refine own_st (fun _ k => XS.iload X0.here hx rfl (hb hby own_d9_28) rfl k) ?_
  refine own_st (fun _ k => XS.i2b X0.here hx rfl (hb hby own_d9_30) rfl k) ?_
  show own_Gl _ _ _ _ _ _ _ (s₁.setTop (mkF m 31 #[.val (.ref a), .val (.int 0), .val (.ref b), .val (.int 0), .val (.int 2), .val (.int 0), .val (.int v0)] [(.int (v0.toInt8.toInt32)), (.int 0), (.ref b)]))
  obtain ⟨cl4, Ar4, qq4, Ss4, Nn4, Hh4, Gg4⟩ := id V_b
  have hin4 : ¬ ((0 : Int32) < 0 ∨ cl4.slots.size ≤ ((0 : Int32)).toNatClampNeg) := inb_of Ss4 ⟨by decide, by decide⟩
  obtain ⟨T4, h4, X4, e4, W4, st4⟩ := stB X0 hx hZ e0 Ar4 (j := (0 : Int32)) hin4 (g := (mkF m 31 #[.val (.ref a), .val (.int 0), .val (.ref b), .val (.int 0), .val (.int 2), .val (.int 0), .val (.int v0)] [(.int (v0.toInt8.toInt32)), (.int 0), (.ref b)])) rfl rfl (hb hby own_d9_31)
  have N4 := Fr.snoc X4 N0 g_b
  refine own_st st4 ?_
  have Zs5 : n0 ≤ h4.size := Nat.le_trans Z0 (Keep.of_wr W4).1
  have Vw4 : Arv Z h4 b kb .byte (2 : Int32) [(.int (nar .byte (v0.toInt8.toInt32))), (.int 0)] (.int 0) := Arv.set Ar4 qq4 Ss4 Nn4 Hh4 Gg4 (fits_nar_byte _) W4 0 (rfl) (Nat.le_of_ble_eq_true rfl)
  refine own_st (fun _ k => XS.iinc X4.here hx rfl (hb hby own_d9_32) rfl (l' := #[.val (.ref a), .val (.int 1), .val (.ref b), .val (.int 0), .val (.int 2), .val (.int 0), .val (.int v0)]) rfl k) ?_
  refine own_st (fun _ k => XS.iinc X4.here hx rfl (hb hby own_d9_35) rfl (l' := #[.val (.ref a), .val (.int 1), .val (.ref b), .val (.int 1), .val (.int 2), .val (.int 0), .val (.int v0)]) rfl k) ?_
  refine own_st (fun _ k => XS.iinc X4.here hx rfl (hb hby own_d9_38) rfl (l' := #[.val (.ref a), .val (.int 1), .val (.ref b), .val (.int 1), .val (.int 2), .val (.int 1), .val (.int v0)]) rfl k) ?_
  show own_Gl _ _ _ _ _ _ _ (T4.setTop (mkF m 41 #[.val (.ref a), .val (.int 1), .val (.ref b), .val (.int 1), .val (.int 2), .val (.int 1), .val (.int v0)] []))
  refine own_st (fun _ k => XS.goto X4.here hx rfl (pc0 := 41) (pc' := 3) rfl (hb hby own_d9_41) (by decide) (by decide) k) ?_
  refine own_st (fun _ k => XS.iload X4.here hx rfl (hb hby own_d9_3) rfl k) ?_
  refine own_st (fun _ k => XS.iload X4.here hx rfl (hb hby own_d9_5) rfl k) ?_
  have hd6 : (1 : Int32) < (2 : Int32) := (by decide)
  refine own_st (fun _ k => XS.icmpNo X4.here hx rfl (hb hby own_d9_7) rfl (tlt hd6).2.1 k) ?_
  show own_Gl _ _ _ _ _ _ _ (T4.setTop (mkF m 10 #[.val (.ref a), .val (.int 1), .val (.ref b), .val (.int 1), .val (.int 2), .val (.int 1), .val (.int v0)] []))
  refine own_st (fun _ k => XS.aloadN X4.here hx rfl (hb hby own_d9_10) rfl rfl k) ?_
  refine own_st (fun _ k => XS.iloadN X4.here hx rfl (hb hby own_d9_11) rfl k) ?_
  have f7 := (V_a.other W4 ne_a_b)
  obtain ⟨cl8, Ar8, qq8, Ss8, Nn8, Hh8, Gg8⟩ := id f7
  have hin8 : ¬ ((1 : Int32) < 0 ∨ cl8.slots.size ≤ ((1 : Int32)).toNatClampNeg) := inb_of Ss8 ⟨by decide, by decide⟩
  have hat8 : cl8.slots[((1 : Int32)).toNatClampNeg]? = some (.int v1) := Hh8.at hin8 (rfl)
  refine own_st (X4.caload hx (j := (1 : Int32)) (v := (.int v1)) (by rw [e4]; exact Ar8.1) (State.isArrayOf_alike hZ.alike Ar8.2.1) Ar8.2.2 hin8 hat8 (g := (mkF m 12 #[.val (.ref a), .val (.int 1), .val (.ref b), .val (.int 1), .val (.int 2), .val (.int 1), .val (.int v0)] [(.int 1), (.ref a)])) rfl rfl (hb hby own_d9_12)) ?_
  refine own_st (fun _ k => XS.istore X4.here hx rfl (hb hby own_d9_13) rfl (l' := #[.val (.ref a), .val (.int 1), .val (.ref b), .val (.int 1), .val (.int 2), .val (.int 1), .val (.int v1)]) rfl k) ?_
  show own_Gl _ _ _ _ _ _ _ (T4.setTop (mkF m 15 #[.val (.ref a), .val (.int 1), .val (.ref b), .val (.int 1), .val (.int 2), .val (.int 1), .val (.int v1)] []))
  refine own_st (fun _ k => XS.iload X4.here hx rfl (hb hby own_d9_15) rfl k) ?_
  refine own_st (fun _ k => XS.sipush X4.here hx rfl (hb hby own_d9_17) k) ?_
  have hd9 : (255 : Int32) < v1 := hgt
  refine own_st (fun _ k => XS.icmpNo X4.here hx rfl (hb hby own_d9_20) rfl (tlt hd9).2.2.2 k) ?_
  refine own_st (fun _ k => XS.iload X4.here hx rfl (hb hby own_d9_23) rfl k) ?_
  show own_Gl _ _ _ _ _ _ _ (T4.setTop (mkF m 25 #[.val (.ref a), .val (.int 1), .val (.ref b), .val (.int 1), .val (.int 2), .val (.int 1), .val (.int v1)] [(.int 1)]))
  have K10 : Keep h0 h4 [b] := ((Keep.refl h0 [b]).wr W4 (Or.inl (List.mem_of_getElem? (i := 0) rfl)))
  exact own_retI X4 hx hlk hret (hb hby own_d9_25) e4 ⟨rfl, N4, K10, Vw4⟩ (by decide) (by decide)
theorem own_ef_own_c5_2_2 (m : MethodId) (x0 : Addr) (x1 : Int32) (x2 : Addr) (x3 : Int32) (x4 : Int32) : entryFrame m #[(.ref x0), (.int x1), (.ref x2), (.int x3), (.int x4)] 7 = mkF m 0 #[.val (.ref x0), .val (.int x1), .val (.ref x2), .val (.int x3), .val (.int x4), .unset, .unset] [] := by first | (simp [entryFrame, mkF, argsToLocals, Value.category]; done) | rfl
def own_Q_own_c5_2_2 (Z : State) (a : Addr) (b : Addr) (k : ClassId) (kb : ClassId) (v0 : Int32) (v1 : Int32) (h0 : Heap) (n0 : Nat) (v : Option Value) (h : Heap) (L : List Loc) : Prop := (v = some (.int 2)) ∧ (Fr n0 L) ∧ (Keep h0 h [b]) ∧ (Arv Z h b kb .byte (2 : Int32) [(.int (nar .byte (v0.toInt8.toInt32))), (.int (nar .byte (v1.toInt8.toInt32)))] (.int 0))

theorem own_c5_2_2 (l : Launch) (Z : State) (a0 : Array Value) (hw : oT a0 Z) (ws : List Jvm.Cond) (a : Addr) (b : Addr) (k : ClassId) (kb : ClassId) (v0 : Int32) (v1 : Int32) (h0 : Heap) (n0 : Nat) (Z0 : n0 ≤ h0.size) (V_a : Arv Z h0 a k .char (2 : Int32) [(.int v0), (.int v1)] (.int 0)) (V_b : Arv Z h0 b kb .byte (2 : Int32) [(.int 0), (.int 0)] (.int 0)) (g_b : n0 ≤ b) (ne_a_b : a ≠ b) (hle0 : ¬ ((255 : Int32) < v0)) (hle1 : ¬ ((255 : Int32) < v1)) :
    oMet l oM13 jdk_52_method_21_code 7 (some .int) ws ⟨0, 0, 0, 0⟩ #[(.ref a), (.int 0), (.ref b), (.int 0), (.int 2)] Z h0 (own_Q_own_c5_2_2 Z a b k kb v0 v1 h0 n0) := by
  refine oB n0 "java/lang/StringUTF16" rfl (plainFor_of_name own_pn730740715) (fun m => own_ef_own_c5_2_2 m a (0 : Int32) b (0 : Int32) (2 : Int32)) ?_
  intro p e s m below meth c s₁ hZ hx hby hlk hret hml hown hnm X0 e0 N0
  show own_Gl _ _ _ _ _ _ _ (s₁.setTop (mkF m 0 #[.val (.ref a), .val (.int 0), .val (.ref b), .val (.int 0), .val (.int 2), .unset, .unset] []))
  refine own_st (fun _ k => XS.iconst X0.here hx rfl (hb hby own_d9_0) k) ?_
  refine own_st (fun _ k => XS.istore X0.here hx rfl (hb hby own_d9_1) rfl (l' := #[.val (.ref a), .val (.int 0), .val (.ref b), .val (.int 0), .val (.int 2), .val (.int 0), .unset]) rfl k) ?_
  refine own_st (fun _ k => XS.iload X0.here hx rfl (hb hby own_d9_3) rfl k) ?_
  refine own_st (fun _ k => XS.iload X0.here hx rfl (hb hby own_d9_5) rfl k) ?_
  show own_Gl _ _ _ _ _ _ _ (s₁.setTop (mkF m 7 #[.val (.ref a), .val (.int 0), .val (.ref b), .val (.int 0), .val (.int 2), .val (.int 0), .unset] [(.int 2), (.int 0)]))
  have hd1 : (0 : Int32) < (2 : Int32) := (by decide)
  refine own_st (fun _ k => XS.icmpNo X0.here hx rfl (hb hby own_d9_7) rfl (tlt hd1).2.1 k) ?_
  refine own_st (fun _ k => XS.aloadN X0.here hx rfl (hb hby own_d9_10) rfl rfl k) ?_
  refine own_st (fun _ k => XS.iloadN X0.here hx rfl (hb hby own_d9_11) rfl k) ?_
  obtain ⟨cl2, Ar2, qq2, Ss2, Nn2, Hh2, Gg2⟩ := id V_a
  have hin2 : ¬ ((0 : Int32) < 0 ∨ cl2.slots.size ≤ ((0 : Int32)).toNatClampNeg) := inb_of Ss2 ⟨by decide, by decide⟩
  have hat2 : cl2.slots[((0 : Int32)).toNatClampNeg]? = some (.int v0) := Hh2.at hin2 (rfl)
  refine own_st (X0.caload hx (j := (0 : Int32)) (v := (.int v0)) (by rw [e0]; exact Ar2.1) (State.isArrayOf_alike hZ.alike Ar2.2.1) Ar2.2.2 hin2 hat2 (g := (mkF m 12 #[.val (.ref a), .val (.int 0), .val (.ref b), .val (.int 0), .val (.int 2), .val (.int 0), .unset] [(.int 0), (.ref a)])) rfl rfl (hb hby own_d9_12)) ?_
  show own_Gl _ _ _ _ _ _ _ (s₁.setTop (mkF m 13 #[.val (.ref a), .val (.int 0), .val (.ref b), .val (.int 0), .val (.int 2), .val (.int 0), .unset] [(.int v0)]))
  refine own_st (fun _ k => XS.istore X0.here hx rfl (hb hby own_d9_13) rfl (l' := #[.val (.ref a), .val (.int 0), .val (.ref b), .val (.int 0), .val (.int 2), .val (.int 0), .val (.int v0)]) rfl k) ?_
  refine own_st (fun _ k => XS.iload X0.here hx rfl (hb hby own_d9_15) rfl k) ?_
  refine own_st (fun _ k => XS.sipush X0.here hx rfl (hb hby own_d9_17) k) ?_
  have hd3 : ¬ ((255 : Int32) < v0) := hle0
  refine own_st (fun _ k => XS.icmpYes X0.here hx rfl (pc0 := 20) (pc' := 26) rfl (hb hby own_d9_20) rfl (flt hd3).2.2.2 (by decide) (by decide) k) ?_
  show own_Gl _ _ _ _ _ _ _ (s₁.setTop (mkF m 26 #[.val (.ref a), .val (.int 0), .val (.ref b), .val (.int 0), .val (.int 2), .val (.int 0), .val (.int v0)] []))
  refine own_st (fun _ k => XS.aloadN X0.here hx rfl (hb hby own_d9_26) rfl rfl k) ?_
  refine own_st (fun _ k => XS.iloadN X0.here hx rfl (hb hby own_d9_27) rfl k) ?_
  refine own_st (fun _ k => XS.iload X0.here hx rfl (hb hby own_d9_28) rfl k) ?_
  refine own_st (fun _ k => XS.i2b X0.here hx rfl (hb hby own_d9_30) rfl k) ?_
  show own_Gl _ _ _ _ _ _ _ (s₁.setTop (mkF m 31 #[.val (.ref a), .val (.int 0), .val (.ref b), .val (.int 0), .val (.int 2), .val (.int 0), .val (.int v0)] [(.int (v0.toInt8.toInt32)), (.int 0), (.ref b)]))
  obtain ⟨cl4, Ar4, qq4, Ss4, Nn4, Hh4, Gg4⟩ := id V_b
  have hin4 : ¬ ((0 : Int32) < 0 ∨ cl4.slots.size ≤ ((0 : Int32)).toNatClampNeg) := inb_of Ss4 ⟨by decide, by decide⟩
  obtain ⟨T4, h4, X4, e4, W4, st4⟩ := stB X0 hx hZ e0 Ar4 (j := (0 : Int32)) hin4 (g := (mkF m 31 #[.val (.ref a), .val (.int 0), .val (.ref b), .val (.int 0), .val (.int 2), .val (.int 0), .val (.int v0)] [(.int (v0.toInt8.toInt32)), (.int 0), (.ref b)])) rfl rfl (hb hby own_d9_31)
  have N4 := Fr.snoc X4 N0 g_b
  refine own_st st4 ?_
  have Zs5 : n0 ≤ h4.size := Nat.le_trans Z0 (Keep.of_wr W4).1
  have Vw4 : Arv Z h4 b kb .byte (2 : Int32) [(.int (nar .byte (v0.toInt8.toInt32))), (.int 0)] (.int 0) := Arv.set Ar4 qq4 Ss4 Nn4 Hh4 Gg4 (fits_nar_byte _) W4 0 (rfl) (Nat.le_of_ble_eq_true rfl)
  refine own_st (fun _ k => XS.iinc X4.here hx rfl (hb hby own_d9_32) rfl (l' := #[.val (.ref a), .val (.int 1), .val (.ref b), .val (.int 0), .val (.int 2), .val (.int 0), .val (.int v0)]) rfl k) ?_
  refine own_st (fun _ k => XS.iinc X4.here hx rfl (hb hby own_d9_35) rfl (l' := #[.val (.ref a), .val (.int 1), .val (.ref b), .val (.int 1), .val (.int 2), .val (.int 0), .val (.int v0)]) rfl k) ?_
  refine own_st (fun _ k => XS.iinc X4.here hx rfl (hb hby own_d9_38) rfl (l' := #[.val (.ref a), .val (.int 1), .val (.ref b), .val (.int 1), .val (.int 2), .val (.int 1), .val (.int v0)]) rfl k) ?_
  show own_Gl _ _ _ _ _ _ _ (T4.setTop (mkF m 41 #[.val (.ref a), .val (.int 1), .val (.ref b), .val (.int 1), .val (.int 2), .val (.int 1), .val (.int v0)] []))
  refine own_st (fun _ k => XS.goto X4.here hx rfl (pc0 := 41) (pc' := 3) rfl (hb hby own_d9_41) (by decide) (by decide) k) ?_
  refine own_st (fun _ k => XS.iload X4.here hx rfl (hb hby own_d9_3) rfl k) ?_
  refine own_st (fun _ k => XS.iload X4.here hx rfl (hb hby own_d9_5) rfl k) ?_
  have hd6 : (1 : Int32) < (2 : Int32) := (by decide)
  refine own_st (fun _ k => XS.icmpNo X4.here hx rfl (hb hby own_d9_7) rfl (tlt hd6).2.1 k) ?_
  show own_Gl _ _ _ _ _ _ _ (T4.setTop (mkF m 10 #[.val (.ref a), .val (.int 1), .val (.ref b), .val (.int 1), .val (.int 2), .val (.int 1), .val (.int v0)] []))
  refine own_st (fun _ k => XS.aloadN X4.here hx rfl (hb hby own_d9_10) rfl rfl k) ?_
  refine own_st (fun _ k => XS.iloadN X4.here hx rfl (hb hby own_d9_11) rfl k) ?_
  have f7 := (V_a.other W4 ne_a_b)
  obtain ⟨cl8, Ar8, qq8, Ss8, Nn8, Hh8, Gg8⟩ := id f7
  have hin8 : ¬ ((1 : Int32) < 0 ∨ cl8.slots.size ≤ ((1 : Int32)).toNatClampNeg) := inb_of Ss8 ⟨by decide, by decide⟩
  have hat8 : cl8.slots[((1 : Int32)).toNatClampNeg]? = some (.int v1) := Hh8.at hin8 (rfl)
  refine own_st (X4.caload hx (j := (1 : Int32)) (v := (.int v1)) (by rw [e4]; exact Ar8.1) (State.isArrayOf_alike hZ.alike Ar8.2.1) Ar8.2.2 hin8 hat8 (g := (mkF m 12 #[.val (.ref a), .val (.int 1), .val (.ref b), .val (.int 1), .val (.int 2), .val (.int 1), .val (.int v0)] [(.int 1), (.ref a)])) rfl rfl (hb hby own_d9_12)) ?_
  refine own_st (fun _ k => XS.istore X4.here hx rfl (hb hby own_d9_13) rfl (l' := #[.val (.ref a), .val (.int 1), .val (.ref b), .val (.int 1), .val (.int 2), .val (.int 1), .val (.int v1)]) rfl k) ?_
  show own_Gl _ _ _ _ _ _ _ (T4.setTop (mkF m 15 #[.val (.ref a), .val (.int 1), .val (.ref b), .val (.int 1), .val (.int 2), .val (.int 1), .val (.int v1)] []))
  refine own_st (fun _ k => XS.iload X4.here hx rfl (hb hby own_d9_15) rfl k) ?_
  refine own_st (fun _ k => XS.sipush X4.here hx rfl (hb hby own_d9_17) k) ?_
  have hd9 : ¬ ((255 : Int32) < v1) := hle1
  refine own_st (fun _ k => XS.icmpYes X4.here hx rfl (pc0 := 20) (pc' := 26) rfl (hb hby own_d9_20) rfl (flt hd9).2.2.2 (by decide) (by decide) k) ?_
  refine own_st (fun _ k => XS.aloadN X4.here hx rfl (hb hby own_d9_26) rfl rfl k) ?_
  show own_Gl _ _ _ _ _ _ _ (T4.setTop (mkF m 27 #[.val (.ref a), .val (.int 1), .val (.ref b), .val (.int 1), .val (.int 2), .val (.int 1), .val (.int v1)] [(.ref b)]))
  refine own_st (fun _ k => XS.iloadN X4.here hx rfl (hb hby own_d9_27) rfl k) ?_
  refine own_st (fun _ k => XS.iload X4.here hx rfl (hb hby own_d9_28) rfl k) ?_
  refine own_st (fun _ k => XS.i2b X4.here hx rfl (hb hby own_d9_30) rfl k) ?_
  obtain ⟨cl10, Ar10, qq10, Ss10, Nn10, Hh10, Gg10⟩ := id Vw4
  have hin10 : ¬ ((1 : Int32) < 0 ∨ cl10.slots.size ≤ ((1 : Int32)).toNatClampNeg) := inb_of Ss10 ⟨by decide, by decide⟩
  obtain ⟨T10, h10, X10, e10, W10, st10⟩ := stB X4 hx hZ e4 Ar10 (j := (1 : Int32)) hin10 (g := (mkF m 31 #[.val (.ref a), .val (.int 1), .val (.ref b), .val (.int 1), .val (.int 2), .val (.int 1), .val (.int v1)] [(.int (v1.toInt8.toInt32)), (.int 1), (.ref b)])) rfl rfl (hb hby own_d9_31)
  have N10 := Fr.snoc X10 N4 g_b
  refine own_st st10 ?_
  have Zs11 : n0 ≤ h10.size := Nat.le_trans Zs5 (Keep.of_wr W10).1
  have Vw10 : Arv Z h10 b kb .byte (2 : Int32) [(.int (nar .byte (v0.toInt8.toInt32))), (.int (nar .byte (v1.toInt8.toInt32)))] (.int 0) := Arv.set Ar10 qq10 Ss10 Nn10 Hh10 Gg10 (fits_nar_byte _) W10 1 (rfl) (Nat.le_of_ble_eq_true rfl)
  show own_Gl _ _ _ _ _ _ _ (T10.setTop (mkF m 32 #[.val (.ref a), .val (.int 1), .val (.ref b), .val (.int 1), .val (.int 2), .val (.int 1), .val (.int v1)] []))
  refine own_st (fun _ k => XS.iinc X10.here hx rfl (hb hby own_d9_32) rfl (l' := #[.val (.ref a), .val (.int 2), .val (.ref b), .val (.int 1), .val (.int 2), .val (.int 1), .val (.int v1)]) rfl k) ?_
  refine own_st (fun _ k => XS.iinc X10.here hx rfl (hb hby own_d9_35) rfl (l' := #[.val (.ref a), .val (.int 2), .val (.ref b), .val (.int 2), .val (.int 2), .val (.int 1), .val (.int v1)]) rfl k) ?_
  refine own_st (fun _ k => XS.iinc X10.here hx rfl (hb hby own_d9_38) rfl (l' := #[.val (.ref a), .val (.int 2), .val (.ref b), .val (.int 2), .val (.int 2), .val (.int 2), .val (.int v1)]) rfl k) ?_
  refine own_st (fun _ k => XS.goto X10.here hx rfl (pc0 := 41) (pc' := 3) rfl (hb hby own_d9_41) (by decide) (by decide) k) ?_
  show own_Gl _ _ _ _ _ _ _ (T10.setTop (mkF m 3 #[.val (.ref a), .val (.int 2), .val (.ref b), .val (.int 2), .val (.int 2), .val (.int 2), .val (.int v1)] []))
  refine own_st (fun _ k => XS.iload X10.here hx rfl (hb hby own_d9_3) rfl k) ?_
  refine own_st (fun _ k => XS.iload X10.here hx rfl (hb hby own_d9_5) rfl k) ?_
  have hd12 : ¬ ((2 : Int32) < (2 : Int32)) := (by decide)
  refine own_st (fun _ k => XS.icmpYes X10.here hx rfl (pc0 := 7) (pc' := 44) rfl (hb hby own_d9_7) rfl (flt hd12).2.1 (by decide) (by decide) k) ?_
  refine own_st (fun _ k => XS.iload X10.here hx rfl (hb hby own_d9_44) rfl k) ?_
  show own_Gl _ _ _ _ _ _ _ (T10.setTop (mkF m 46 #[.val (.ref a), .val (.int 2), .val (.ref b), .val (.int 2), .val (.int 2), .val (.int 2), .val (.int v1)] [(.int 2)]))
  have K13 : Keep h0 h10 [b] := (((Keep.refl h0 [b]).wr W4 (Or.inl (List.mem_of_getElem? (i := 0) rfl))).wr W10 (Or.inl (List.mem_of_getElem? (i := 0) rfl)))
  exact own_retI X10 hx hlk hret (hb hby own_d9_46) e10 ⟨rfl, N10, K13, Vw10⟩ (by decide) (by decide)
theorem own_ef_own_c3_2_l (m : MethodId) (x0 : Addr) (x1 : Int32) (x2 : Int32) : entryFrame m #[(.ref x0), (.int x1), (.int x2)] 6 = mkF m 0 #[.val (.ref x0), .val (.int x1), .val (.int x2), .unset, .unset, .unset] [] := by first | (simp [entryFrame, mkF, argsToLocals, Value.category]; done) | rfl
def own_Q_own_c3_2_l (Z : State) (a : Addr) (k : ClassId) (v0 : Int32) (v1 : Int32) (h0 : Heap) (n0 : Nat) (v : Option Value) (h : Heap) (L : List Loc) : Prop := ∃ (r : Addr) (kr : ClassId), (v = some (.ref r)) ∧ (Fr n0 L) ∧ (Keep h0 h []) ∧ (n0 ≤ r) ∧ (h0.size ≤ r) ∧ (Arv Z h r kr .byte (2 : Int32) [(.int (nar .byte (v0.toInt8.toInt32))), (.int (nar .byte (v1.toInt8.toInt32)))] (.int 0))

theorem own_c3_2_l (l : Launch) (Z : State) (a0 : Array Value) (hw : oT a0 Z) (ws : List Jvm.Cond) (a : Addr) (k : ClassId) (v0 : Int32) (v1 : Int32) (h0 : Heap) (n0 : Nat) (Z0 : n0 ≤ h0.size) (V_a : Arv Z h0 a k .char (2 : Int32) [(.int v0), (.int v1)] (.int 0)) (hle0 : ¬ ((255 : Int32) < v0)) (hle1 : ¬ ((255 : Int32) < v1)) :
    oMet l oM14 jdk_52_method_16_code 6 (some (.array .byte)) ws ⟨1, 1, 2, 18⟩ #[(.ref a), (.int 0), (.int 2)] Z h0 (own_Q_own_c3_2_l Z a k v0 v1 h0 n0) := by
  refine oB n0 "java/lang/StringUTF16" rfl (plainFor_of_name own_pn730740715) (fun m => own_ef_own_c3_2_l m a (0 : Int32) (2 : Int32)) ?_
  intro p e s m below meth c s₁ hZ hx hby hlk hret hml hown hnm X0 e0 N0
  show own_Gl _ _ _ _ _ _ _ (s₁.setTop (mkF m 0 #[.val (.ref a), .val (.int 0), .val (.int 2), .unset, .unset, .unset] []))
  refine own_st (fun _ k => XS.iloadN X0.here hx rfl (hb hby own_d8_0) rfl k) ?_
  obtain ⟨T1, h1, k1, X1, e1, E1, A1, st1⟩ := newP X0 hx hZ (oW hw 19 rfl) e0 (g := (mkF m 1 #[.val (.ref a), .val (.int 0), .val (.int 2), .unset, .unset, .unset] [(.int 2)])) rfl (hb hby own_d8_1) rfl (by decide) (cap := 2) (by decide) (by decide) (by decide) (by decide)
  obtain ⟨b1, gb1⟩ : ∃ z, z = h0.size := ⟨_, rfl⟩
  rw [← gb1] at A1 st1
  refine own_st st1 ?_
  have Zs2 : n0 ≤ h1.size := Nat.le_trans Z0 E1.1
  have g_b1 : n0 ≤ b1 := Nat.le_trans Z0 (Nat.le_of_eq gb1.symm)
  have gh_b1 : h0.size ≤ b1 := Nat.le_trans (Keep.refl h0 []).1 (Nat.le_of_eq gb1.symm)
  have ne_a_b1 : a ≠ b1 := Nat.ne_of_lt (Nat.lt_of_lt_of_le V_a.lt (Nat.le_of_eq gb1.symm))
  have V_b1 : Arv Z h1 b1 k1 .byte (2 : Int32) [(.int 0), (.int 0)] (.int 0) := (Arv.new A1 (by decide)).pad (pad_rep [] (.int 0) 2)
  refine own_st (fun _ k => XS.astoreN X1.here hx rfl (hb hby own_d8_3) rfl rfl (l' := #[.val (.ref a), .val (.int 0), .val (.int 2), .val (.ref b1), .unset, .unset]) rfl k) ?_
  refine own_st (fun _ k => XS.aloadN X1.here hx rfl (hb hby own_d8_4) rfl rfl k) ?_
  show own_Gl _ _ _ _ _ _ _ (T1.setTop (mkF m 5 #[.val (.ref a), .val (.int 0), .val (.int 2), .val (.ref b1), .unset, .unset] [(.ref a)]))
  refine own_st (fun _ k => XS.iloadN X1.here hx rfl (hb hby own_d8_5) rfl k) ?_
  refine own_st (fun _ k => XS.aloadN X1.here hx rfl (hb hby own_d8_6) rfl rfl k) ?_
  refine own_st (fun _ k => XS.iconst X1.here hx rfl (hb hby own_d8_7) k) ?_
  refine own_st (fun _ k => XS.iloadN X1.here hx rfl (hb hby own_d8_8) rfl k) ?_
  show own_Gl _ _ _ _ _ _ _ (T1.setTop (mkF m 9 #[.val (.ref a), .val (.int 0), .val (.int 2), .val (.ref b1), .unset, .unset] [(.int 2), (.int 0), (.ref b1), (.int 0), (.ref a)]))
  have f5 := (V_a.ext E1)
  obtain ⟨_, _, ⟨T4, L4, k4, n4⟩, -, X4, ⟨Lc4, hQ4, l4, y4, z4⟩, st4⟩ := Jvm.LawKit.callS X1 hx (y := oM13) hown (mvT hZ (oW hw 49 rfl)) (mvT hZ (oW hw 50 rfl)) (mvT hZ (oW hw 47 rfl)) (mvT hZ (oW hw 51 rfl)) (by decide) (backOf (W := 0) (own_c5_2_2 l Z a0 hw [] a b1 k k1 v0 v1 h1 n0 Zs2 f5 V_b1 g_b1 ne_a_b1 hle0 hle1) hZ (oW hw 51 rfl) (oW hw 47 rfl) (by decide) (by decide)) (g := (mkF m 9 #[.val (.ref a), .val (.int 0), .val (.int 2), .val (.ref b1), .unset, .unset] [(.int 2), (.int 0), (.ref b1), (.int 0), (.ref a)])) rfl (by rw [hml]; rfl) (argsL := [(.ref a), (.int 0), (.ref b1), (.int 0), (.int 2)]) (rest := []) (lenOf own_pd196289288 rfl) rfl (by show 2 * 0 + _ ≤ _; exact Nat.le_of_eq rfl) (hb hby own_d8_9) (fun _ _ => ⟨rfl, e1, (by decide : 1 + 0 ≤ 1), (by decide : 2 + 0 ≤ 2)⟩)
  dsimp only [Pt.U, Pt.locs, Pt.cells, Pt.slots] at X4 l4 y4 z4 st4 hQ4
  subst l4 y4 z4
  obtain ⟨hh4, eh04⟩ : ∃ z, T4.heap = z := ⟨_, rfl⟩
  rw [eh04] at hQ4
  obtain ⟨rfl, Nq4, Kq4, P4_0⟩ := hQ4
  have N4 := Fr.app N0 Nq4
  refine own_st st4 ?_
  have Zs6 : n0 ≤ hh4.size := Nat.le_trans Zs2 Kq4.1
  refine own_st (fun _ k => XS.istore X4.here hx rfl (hb hby own_d8_12) rfl (l' := #[.val (.ref a), .val (.int 0), .val (.int 2), .val (.ref b1), .val (.int 2), .unset]) rfl k) ?_
  refine own_st (fun _ k => XS.iload X4.here hx rfl (hb hby own_d8_14) rfl k) ?_
  refine own_st (fun _ k => XS.iloadN X4.here hx rfl (hb hby own_d8_16) rfl k) ?_
  show own_Gl _ _ _ _ _ _ _ (T4.setTop (mkF m 17 #[.val (.ref a), .val (.int 0), .val (.int 2), .val (.ref b1), .val (.int 2), .unset] [(.int 2), (.int 2)]))
  have hd7 : (2 : Int32) = (2 : Int32) := (by decide)
  refine own_st (fun _ k => XS.icmpYes X4.here hx rfl (pc0 := 17) (pc' := 57) rfl (hb hby own_d8_17) rfl (teq hd7).1 (by decide) (by decide) k) ?_
  refine own_st (fun _ k => XS.aloadN X4.here hx rfl (hb hby own_d8_57) rfl rfl k) ?_
  show own_Gl _ _ _ _ _ _ _ (T4.setTop (mkF m 58 #[.val (.ref a), .val (.int 0), .val (.int 2), .val (.ref b1), .val (.int 2), .unset] [(.ref b1)]))
  have K8 : Keep h0 hh4 [] := (((Keep.refl h0 []).ext E1).trans Kq4 (allS (Or.inr gh_b1) all0))
  exact own_retA X4 hx hlk hret rfl rfl rfl (hb hby own_d8_58) eh04 ⟨b1, k1, rfl, N4, K8, g_b1, gh_b1, P4_0⟩ (by decide) (by decide)
theorem own_ef_own_cf_2_l (m : MethodId) (x0 : Addr) (x1 : Int32) : entryFrame m #[(.ref x0), (.int x1)] 2 = mkF m 0 #[.val (.ref x0), .val (.int x1)] [] := by first | (simp [entryFrame, mkF, argsToLocals, Value.category]; done) | rfl
def own_Q_own_cf_2_l (Z : State) (a : Addr) (k : ClassId) (w : List Value) (h0 : Heap) (n0 : Nat) (v : Option Value) (h : Heap) (L : List Loc) : Prop := (v = some (.int 0)) ∧ (Fr n0 L) ∧ (h = h0)

theorem own_cf_2_l (l : Launch) (Z : State) (a0 : Array Value) (hw : oT a0 Z) (ws : List Jvm.Cond) (a : Addr) (k : ClassId) (w : List Value) (h0 : Heap) (n0 : Nat) (Z0 : n0 ≤ h0.size) (V_a : Arv Z h0 a k .byte (2 : Int32) w (.int 0)) :
    oMet l oM15 jdk_52_method_15_code 2 (some .byte) ws ⟨0, 0, 0, 0⟩ #[(.ref a), (.int 2)] Z h0 (own_Q_own_cf_2_l Z a k w h0 n0) := by
  refine oB n0 "java/lang/StringUTF16" rfl (plainFor_of_name own_pn730740715) (fun m => own_ef_own_cf_2_l m a (2 : Int32)) ?_
  intro p e s m below meth c s₁ hZ hx hby hlk hret hml hown hnm X0 e0 N0
  show own_Gl _ _ _ _ _ _ _ (s₁.setTop (mkF m 0 #[.val (.ref a), .val (.int 2)] []))
  refine own_st (fun _ k => XS.iloadN X0.here hx rfl (hb hby own_d10_0) rfl k) ?_
  refine own_st (fun _ k => XS.aloadN X0.here hx rfl (hb hby own_d10_1) rfl rfl k) ?_
  obtain ⟨cl1, Ar1, qq1, Ss1, Nn1, Hh1, Gg1⟩ := id V_a
  refine own_st (X0.arraylength hx (by rw [e0]; exact Ar1.1) (State.isArrayOf_alike hZ.alike Ar1.2.1) (g := (mkF m 2 #[.val (.ref a), .val (.int 2)] [(.ref a), (.int 2)])) rfl rfl (hb hby own_d10_2)) ?_
  rw [len_of Ss1 Nn1]
  refine own_st (fun _ k => XS.isub X0.here hx rfl (hb hby own_d10_3) rfl k) ?_
  show own_Gl _ _ _ _ _ _ _ (s₁.setTop (mkF m 4 #[.val (.ref a), .val (.int 2)] [(.int 0)]))
  refine own_st (fun _ k => XS.bipush X0.here hx rfl (hb hby own_d10_4) k) ?_
  refine own_st (fun _ k => XS.iushr X0.here hx rfl (hb hby own_d10_6) rfl k) ?_
  refine own_st (fun _ k => XS.i2b X0.here hx rfl (hb hby own_d10_7) rfl k) ?_
  show own_Gl _ _ _ _ _ _ _ (s₁.setTop (mkF m 8 #[.val (.ref a), .val (.int 2)] [(.int ((((0 : Int32).toUInt32 >>> ((31 : Int32) &&& 31).toUInt32).toInt32).toInt8.toInt32))]))
  exact own_retN X0 hx hlk (t := .byte) hret (by simp) (hb hby own_d10_8) e0 ⟨rfl, N0, rfl⟩ (by decide) (by decide)
theorem own_ef_own_i4_2_l (m : MethodId) (x0 : Addr) (x1 : Addr) (x2 : Int32) (x3 : Int32) : entryFrame m #[(.ref x0), (.ref x1), (.int x2), (.int x3), .null] 6 = mkF m 0 #[.val (.ref x0), .val (.ref x1), .val (.int x2), .val (.int x3), .val .null, .unset] [] := by first | (simp [entryFrame, mkF, argsToLocals, Value.category]; done) | rfl
def own_Q_own_i4_2_l (Z : State) (a : Addr) (b : Addr) (k : ClassId) (v0 : Int32) (v1 : Int32) (cs : Int32) (h0 : Heap) (n0 : Nat) (v : Option Value) (h : Heap) (L : List Loc) : Prop := ∃ (r : Addr) (kr : ClassId), (v = none) ∧ (Fr n0 L) ∧ (Keep h0 h [a]) ∧ (n0 ≤ r) ∧ (h0.size ≤ r) ∧ (Arv Z h r kr .byte (2 : Int32) [(.int (nar .byte (v0.toInt8.toInt32))), (.int (nar .byte (v1.toInt8.toInt32)))] (.int 0)) ∧ (Fld Z h a "java/lang/String" "value" "[B" (.ref r)) ∧ (Fld Z h a "java/lang/String" "coder" "B" (.int 0))

theorem own_i4_2_l (l : Launch) (Z : State) (a0 : Array Value) (hw : oT a0 Z) (ws : List Jvm.Cond) (a : Addr) (b : Addr) (k : ClassId) (v0 : Int32) (v1 : Int32) (cs : Int32) (h0 : Heap) (n0 : Nat) (Z0 : n0 ≤ h0.size) (E_a : Exa Z h0 a "java/lang/String") (F_a_value : Fld Z h0 a "java/lang/String" "value" "[B" .null) (F_a_coder : Fld Z h0 a "java/lang/String" "coder" "B" (.int 0)) (g_a : n0 ≤ a) (ne_a_b : a ≠ b) (V_b : Arv Z h0 b k .char (2 : Int32) [(.int v0), (.int v1)] (.int 0)) (hle0 : ¬ ((255 : Int32) < v0)) (hle1 : ¬ ((255 : Int32) < v1)) (sC : Sta Z Z.heap "java/lang/String" "COMPACT_STRINGS" "Z" (.int cs)) (hcs : ¬ (cs = (0 : Int32))) (Old0 : Old Z n0 h0) :
    oMet l oM16 jdk_42_method_149_code 6 none ws ⟨2, 1, 2, 35⟩ #[(.ref a), (.ref b), (.int 0), (.int 2), .null] Z h0 (own_Q_own_i4_2_l Z a b k v0 v1 cs h0 n0) := by
  refine oB n0 "java/lang/String" rfl (plainFor_of_name own_pn853443214) (fun m => own_ef_own_i4_2_l m a b (0 : Int32) (2 : Int32)) ?_
  intro p e s m below meth c s₁ hZ hx hby hlk hret hml hown hnm X0 e0 N0
  show own_Gl _ _ _ _ _ _ _ (s₁.setTop (mkF m 0 #[.val (.ref a), .val (.ref b), .val (.int 0), .val (.int 2), .val .null, .unset] []))
  refine own_st (fun _ k => XS.aloadN X0.here hx rfl (hb hby own_d3_0) rfl rfl k) ?_
  obtain ⟨T1, X1, e1, st1⟩ := initO X0 hx hZ hown (oW hw 15 rfl) (oW hw 16 rfl) (oW hw 17 rfl) e0 (g := (mkF m 1 #[.val (.ref a), .val (.ref b), .val (.int 0), .val (.int 2), .val .null, .unset] [(.ref a)])) rfl (by rw [hml]; rfl) rfl (hb hby own_d3_1) (by decide) (W := 0) (by show 2 * 0 + _ ≤ _; exact Nat.le_of_eq rfl) (by decide)
  refine own_st st1 ?_
  refine own_st (fun _ k => XS.iloadN X1.here hx rfl (hb hby own_d3_4) rfl k) ?_
  have hd2 : ¬ ((2 : Int32) = (0 : Int32)) := (by decide)
  refine own_st (fun _ k => XS.ifYes X1.here hx rfl (pc0 := 5) (pc' := 27) rfl (hb hby own_d3_5) rfl ((if0 _ _).trans (feq hd2).2) (by decide) (by decide) k) ?_
  show own_Gl _ _ _ _ _ _ _ (T1.setTop (mkF m 27 #[.val (.ref a), .val (.ref b), .val (.int 0), .val (.int 2), .val .null, .unset] []))
  obtain ⟨T3, X3, e3, st3⟩ := getS2 X1 hx hZ hown (host := "") (Or.inl (oW hw 44 rfl)) Via.refl e1 (sC.ext Old0.2) (g := (mkF m 27 #[.val (.ref a), .val (.ref b), .val (.int 0), .val (.int 2), .val .null, .unset] [])) rfl (hb hby own_d3_27)
  refine own_st st3 ?_
  have hd4 : ¬ (cs = (0 : Int32)) := hcs
  refine own_st (fun _ k => XS.ifNo X3.here hx rfl (hb hby own_d3_30) rfl ((if0 _ _).trans (feq hd4).1) k) ?_
  refine own_st (fun _ k => XS.aloadN X3.here hx rfl (hb hby own_d3_33) rfl rfl k) ?_
  refine own_st (fun _ k => XS.iloadN X3.here hx rfl (hb hby own_d3_34) rfl k) ?_
  show own_Gl _ _ _ _ _ _ _ (T3.setTop (mkF m 35 #[.val (.ref a), .val (.ref b), .val (.int 0), .val (.int 2), .val .null, .unset] [(.int 0), (.ref b)]))
  refine own_st (fun _ k => XS.iloadN X3.here hx rfl (hb hby own_d3_35) rfl k) ?_
  obtain ⟨_, _, ⟨T5, L5, k5, n5⟩, -, X5, ⟨Lc5, hQ5, l5, y5, z5⟩, st5⟩ := Jvm.LawKit.callS X3 hx (y := oM14) hown (mvT hZ (oW hw 45 rfl)) (mvT hZ (oW hw 46 rfl)) (mvT hZ (oW hw 47 rfl)) (mvT hZ (oW hw 48 rfl)) (by decide) (backOf (W := 0) (own_c3_2_l l Z a0 hw [] b k v0 v1 h0 n0 Z0 V_b hle0 hle1) hZ (oW hw 48 rfl) (oW hw 47 rfl) (by decide) (by decide)) (g := (mkF m 36 #[.val (.ref a), .val (.ref b), .val (.int 0), .val (.int 2), .val .null, .unset] [(.int 2), (.int 0), (.ref b)])) rfl (by rw [hml]; rfl) (argsL := [(.ref b), (.int 0), (.int 2)]) (rest := []) (lenOf own_pd461289092 rfl) rfl (by show 2 * 0 + _ ≤ _; exact Nat.le_of_eq rfl) (hb hby own_d3_36) (fun _ _ => ⟨rfl, e3, (by decide : 0 + 1 ≤ 1), (by decide : 0 + 2 ≤ 2)⟩)
  dsimp only [Pt.U, Pt.locs, Pt.cells, Pt.slots] at X5 l5 y5 z5 st5 hQ5
  subst l5 y5 z5
  obtain ⟨hh5, eh05⟩ : ∃ z, T5.heap = z := ⟨_, rfl⟩
  rw [eh05] at hQ5
  obtain ⟨r_5, kr_5, rfl, Nq5, Kq5, P5_0, P5_1, P5_2⟩ := hQ5
  have N5 := Fr.app N0 Nq5
  refine own_st st5 ?_
  have Zs6 : n0 ≤ hh5.size := Nat.le_trans Z0 Kq5.1
  have gh_r_5 : h0.size ≤ r_5 := Nat.le_trans (Keep.refl h0 [a]).1 P5_1
  have ne_a_r_5 : a ≠ r_5 := Nat.ne_of_lt (Nat.lt_of_lt_of_le E_a.lt P5_1)
  have ne_b_r_5 : b ≠ r_5 := Nat.ne_of_lt (Nat.lt_of_lt_of_le V_b.lt P5_1)
  refine own_st (fun _ k => XS.astore X5.here hx rfl (hb hby own_d3_39) rfl rfl (l' := #[.val (.ref a), .val (.ref b), .val (.int 0), .val (.int 2), .val .null, .val (.ref r_5)]) rfl k) ?_
  refine own_st (fun _ k => XS.aloadN X5.here hx rfl (hb hby own_d3_41) rfl rfl k) ?_
  show own_Gl _ _ _ _ _ _ _ (T5.setTop (mkF m 42 #[.val (.ref a), .val (.ref b), .val (.int 0), .val (.int 2), .val .null, .val (.ref r_5)] [(.ref a)]))
  refine own_st (fun _ k => XS.aload X5.here hx rfl (hb hby own_d3_42) rfl rfl k) ?_
  refine own_st (fun _ k => XS.iloadN X5.here hx rfl (hb hby own_d3_44) rfl k) ?_
  have f8 := (E_a.keep Kq5)
  have f9 := (V_b.keep Kq5 nin0)
  obtain ⟨_, _, ⟨T7, L7, k7, n7⟩, -, X7, ⟨Lc7, hQ7, l7, y7, z7⟩, st7⟩ := Jvm.LawKit.callS X5 hx (y := oM15) hown (mvT hZ (oW hw 52 rfl)) (mvT hZ (oW hw 53 rfl)) (mvT hZ (oW hw 47 rfl)) (mvT hZ (oW hw 54 rfl)) (by decide) (backOf (W := 1) (own_cf_2_l l Z a0 hw [] r_5 kr_5 [(.int (nar .byte (v0.toInt8.toInt32))), (.int (nar .byte (v1.toInt8.toInt32)))] hh5 n0 Zs6 P5_2) hZ (oW hw 54 rfl) (oW hw 47 rfl) (by decide) (by decide)) (g := (mkF m 45 #[.val (.ref a), .val (.ref b), .val (.int 0), .val (.int 2), .val .null, .val (.ref r_5)] [(.int 2), (.ref r_5), (.ref a)])) rfl (by rw [hml]; rfl) (argsL := [(.ref r_5), (.int 2)]) (rest := [(.ref a)]) (lenOf own_pd128711047 rfl) rfl (by show 2 * 0 + _ ≤ _; exact Nat.le_of_eq rfl) (hb hby own_d3_45) (fun _ _ => ⟨rfl, eh05, (by decide : 1 + 0 ≤ 1), (by decide : 2 + 0 ≤ 2)⟩)
  dsimp only [Pt.U, Pt.locs, Pt.cells, Pt.slots] at X7 l7 y7 z7 st7 hQ7
  subst l7 y7 z7
  obtain ⟨hh7, eh07⟩ : ∃ z, T7.heap = z := ⟨_, rfl⟩
  rw [eh07] at hQ7
  obtain ⟨rfl, Nq7, eh7⟩ := hQ7
  have N7 := Fr.app N5 Nq7
  refine own_st st7 ?_
  have e7 : T7.heap = hh5 := eh07.trans eh7
  have f10 := (F_a_coder.keep Kq5 nin0)
  obtain ⟨T11, h11, X11, e11, W11, st11⟩ := putFN X7 hx hZ hown (oW hw 25 rfl) Via.refl e7 f10 f8 (Or.inr ⟨(oW hw 21 rfl), rfl, hnm⟩) (oW hw 6 rfl) (ty := .byte) (v' := (.int (nar .byte (0 : Int32)))) (by decide) rfl (fits_nar_byte _) (g := (mkF m 48 #[.val (.ref a), .val (.ref b), .val (.int 0), .val (.int 2), .val .null, .val (.ref r_5)] [(.int 0), (.ref a)])) rfl rfl (hb hby own_d3_48)
  have N11 := Fr.snoc X11 N7 g_a
  refine own_st st11 ?_
  have Zs12 : n0 ≤ h11.size := Nat.le_trans Zs6 (Keep.of_wr W11).1
  have Fw11 := f10.same W11
  show own_Gl _ _ _ _ _ _ _ (T11.setTop (mkF m 51 #[.val (.ref a), .val (.ref b), .val (.int 0), .val (.int 2), .val .null, .val (.ref r_5)] []))
  refine own_st (fun _ k => XS.aloadN X11.here hx rfl (hb hby own_d3_51) rfl rfl k) ?_
  refine own_st (fun _ k => XS.aload X11.here hx rfl (hb hby own_d3_52) rfl rfl k) ?_
  have f13 := (f8.wr W11)
  have f14 := ((F_a_value.keep Kq5 nin0).other W11 (Or.inr (slot_ne (Or.inr (oW hw 20 rfl)) (Or.inr (oW hw 21 rfl)) (by decide) (t := (.array .byte)) (t' := .byte) (by decide) (by decide))))
  obtain ⟨T15, h15, X15, e15, W15, st15⟩ := putF X11 hx hZ hown (host := "") (Or.inl (oW hw 24 rfl)) Via.refl e11 f14 f13 (Or.inr ⟨(oW hw 20 rfl), rfl, hnm⟩) (oW hw 6 rfl) (ty := (.array .byte)) (by decide) rfl rfl (g := (mkF m 54 #[.val (.ref a), .val (.ref b), .val (.int 0), .val (.int 2), .val .null, .val (.ref r_5)] [(.ref r_5), (.ref a)])) rfl rfl (hb hby own_d3_54)
  have N15 := Fr.snoc X15 N11 g_a
  refine own_st st15 ?_
  have Zs16 : n0 ≤ h15.size := Nat.le_trans Zs12 (Keep.of_wr W15).1
  have Fw15 := f14.same W15
  show own_Gl _ _ _ _ _ _ _ (T15.setTop (mkF m 57 #[.val (.ref a), .val (.ref b), .val (.int 0), .val (.int 2), .val .null, .val (.ref r_5)] []))
  have f17 := (Fw11.other W15 (Or.inr (slot_ne (Or.inr (oW hw 21 rfl)) (Or.inr (oW hw 20 rfl)) (by decide) (t := .byte) (t' := (.array .byte)) (by decide) (by decide))))
  have K18 : Keep h0 h15 [a] := ((((Keep.refl h0 [a]).trans Kq5 all0).wr W11 (Or.inl (List.mem_of_getElem? (i := 0) rfl))).wr W15 (Or.inl (List.mem_of_getElem? (i := 0) rfl)))
  have f19 := ((P5_2.other W11 (Ne.symm ne_a_r_5)).other W15 (Ne.symm ne_a_r_5))
  exact own_retV X15 hx hlk hret (hb hby own_d3_57) e15 ⟨r_5, kr_5, rfl, N15, K18, P5_0, gh_r_5, f19, Fw15, f17⟩ (by decide) (by decide)
theorem own_ef_own_i1_2_l (m : MethodId) (x0 : Addr) (x1 : Addr) : entryFrame m #[(.ref x0), (.ref x1)] 2 = mkF m 0 #[.val (.ref x0), .val (.ref x1)] [] := by first | (simp [entryFrame, mkF, argsToLocals, Value.category]; done) | rfl
def own_Q_own_i1_2_l (Z : State) (a : Addr) (b : Addr) (k : ClassId) (v0 : Int32) (v1 : Int32) (cs : Int32) (h0 : Heap) (n0 : Nat) (v : Option Value) (h : Heap) (L : List Loc) : Prop := ∃ (r : Addr) (kr : ClassId), (v = none) ∧ (Fr n0 L) ∧ (Keep h0 h [a]) ∧ (n0 ≤ r) ∧ (h0.size ≤ r) ∧ (Arv Z h r kr .byte (2 : Int32) [(.int (nar .byte (v0.toInt8.toInt32))), (.int (nar .byte (v1.toInt8.toInt32)))] (.int 0)) ∧ (Fld Z h a "java/lang/String" "value" "[B" (.ref r)) ∧ (Fld Z h a "java/lang/String" "coder" "B" (.int 0))

theorem own_i1_2_l (l : Launch) (Z : State) (a0 : Array Value) (hw : oT a0 Z) (ws : List Jvm.Cond) (a : Addr) (b : Addr) (k : ClassId) (v0 : Int32) (v1 : Int32) (cs : Int32) (h0 : Heap) (n0 : Nat) (Z0 : n0 ≤ h0.size) (E_a : Exa Z h0 a "java/lang/String") (F_a_value : Fld Z h0 a "java/lang/String" "value" "[B" .null) (F_a_coder : Fld Z h0 a "java/lang/String" "coder" "B" (.int 0)) (g_a : n0 ≤ a) (ne_a_b : a ≠ b) (V_b : Arv Z h0 b k .char (2 : Int32) [(.int v0), (.int v1)] (.int 0)) (hle0 : ¬ ((255 : Int32) < v0)) (hle1 : ¬ ((255 : Int32) < v1)) (sC : Sta Z Z.heap "java/lang/String" "COMPACT_STRINGS" "Z" (.int cs)) (hcs : ¬ (cs = (0 : Int32))) (Old0 : Old Z n0 h0) :
    oMet l oM17 jdk_42_method_3_code 2 none ws ⟨3, 1, 2, 52⟩ #[(.ref a), (.ref b)] Z h0 (own_Q_own_i1_2_l Z a b k v0 v1 cs h0 n0) := by
  refine oB n0 "java/lang/String" rfl (plainFor_of_name own_pn853443214) (fun m => own_ef_own_i1_2_l m a b) ?_
  intro p e s m below meth c s₁ hZ hx hby hlk hret hml hown hnm X0 e0 N0
  show own_Gl _ _ _ _ _ _ _ (s₁.setTop (mkF m 0 #[.val (.ref a), .val (.ref b)] []))
  refine own_st (fun _ k => XS.aloadN X0.here hx rfl (hb hby own_d2_0) rfl rfl k) ?_
  refine own_st (fun _ k => XS.aloadN X0.here hx rfl (hb hby own_d2_1) rfl rfl k) ?_
  refine own_st (fun _ k => XS.iconst X0.here hx rfl (hb hby own_d2_2) k) ?_
  refine own_st (fun _ k => XS.aloadN X0.here hx rfl (hb hby own_d2_3) rfl rfl k) ?_
  show own_Gl _ _ _ _ _ _ _ (s₁.setTop (mkF m 4 #[.val (.ref a), .val (.ref b)] [(.ref b), (.int 0), (.ref b), (.ref a)]))
  obtain ⟨cl1, Ar1, qq1, Ss1, Nn1, Hh1, Gg1⟩ := id V_b
  refine own_st (X0.arraylength hx (by rw [e0]; exact Ar1.1) (State.isArrayOf_alike hZ.alike Ar1.2.1) (g := (mkF m 4 #[.val (.ref a), .val (.ref b)] [(.ref b), (.int 0), (.ref b), (.ref a)])) rfl rfl (hb hby own_d2_4)) ?_
  rw [len_of Ss1 Nn1]
  refine own_st (fun _ k => XS.aconstNull X0.here hx rfl (hb hby own_d2_5) k) ?_
  obtain ⟨_, _, ⟨T2, L2, k2, n2⟩, -, X2, ⟨Lc2, hQ2, l2, y2, z2⟩, st2⟩ := X0.specialBack hx (y := oM16) rfl hown (mvT hZ (oW hw 11 rfl)) (mvT hZ (oW hw 12 rfl)) (mvT hZ (oW hw 14 rfl)) (by decide) (backOf (W := 0) (own_i4_2_l l Z a0 hw [] a b k v0 v1 cs h0 n0 Z0 E_a F_a_value F_a_coder g_a ne_a_b V_b hle0 hle1 sC hcs Old0) hZ (oW hw 14 rfl) (oW hw 7 rfl) (by decide) (by decide)) (g := (mkF m 6 #[.val (.ref a), .val (.ref b)] [.null, (.int 2), (.int 0), (.ref b), (.ref a)])) rfl (by rw [hml]; rfl) (Steps.refl _) (a := a) (argsL := [(.ref b), (.int 0), (.int 2), .null]) (rest := []) (lenOf own_pd888094010 rfl) rfl (by show 2 * 0 + _ ≤ _; exact Nat.le_of_eq rfl) (hb hby own_d2_6) (fun _ _ => ⟨rfl, e0, (by decide : 0 + 1 ≤ 1), (by decide : 0 + 2 ≤ 2)⟩)
  dsimp only [Pt.U, Pt.locs, Pt.cells, Pt.slots] at X2 l2 y2 z2 st2 hQ2
  subst l2 y2 z2
  obtain ⟨hh2, eh02⟩ : ∃ z, T2.heap = z := ⟨_, rfl⟩
  rw [eh02] at hQ2
  obtain ⟨r_2, kr_2, rfl, Nq2, Kq2, P2_0, P2_1, P2_2, P2_3, P2_4⟩ := hQ2
  have N2 := Fr.app N0 Nq2
  refine own_tr st2 ?_
  have Zs3 : n0 ≤ hh2.size := Nat.le_trans Z0 Kq2.1
  have gh_r_2 : h0.size ≤ r_2 := Nat.le_trans (Keep.refl h0 [a]).1 P2_1
  have ne_a_r_2 : a ≠ r_2 := Nat.ne_of_lt (Nat.lt_of_lt_of_le E_a.lt P2_1)
  have ne_b_r_2 : b ≠ r_2 := Nat.ne_of_lt (Nat.lt_of_lt_of_le V_b.lt P2_1)
  show own_Gl _ _ _ _ _ _ _ (T2.setTop (mkF m 9 #[.val (.ref a), .val (.ref b)] []))
  have K4 : Keep h0 hh2 [a] := ((Keep.refl h0 [a]).trans Kq2 (allS (Or.inl (List.mem_of_getElem? (i := 0) rfl)) all0))
  exact own_retV X2 hx hlk hret (hb hby own_d2_9) eh02 ⟨r_2, kr_2, rfl, N2, K4, P2_0, gh_r_2, P2_2, P2_3, P2_4⟩ (by decide) (by decide)
theorem own_ef_own_c3_2_u (m : MethodId) (x0 : Addr) (x1 : Int32) (x2 : Int32) : entryFrame m #[(.ref x0), (.int x1), (.int x2)] 6 = mkF m 0 #[.val (.ref x0), .val (.int x1), .val (.int x2), .unset, .unset, .unset] [] := by first | (simp [entryFrame, mkF, argsToLocals, Value.category]; done) | rfl
def own_Q_own_c3_2_u (Z : State) (a : Addr) (k : ClassId) (v0 : Int32) (v1 : Int32) (h0 : Heap) (n0 : Nat) (v : Option Value) (h : Heap) (L : List Loc) : Prop := ∃ (r : Addr) (kr : ClassId), (v = some (.ref r)) ∧ (Fr n0 L) ∧ (Keep h0 h []) ∧ (n0 ≤ r) ∧ (h0.size ≤ r) ∧ (Arv Z h r kr .byte (4 : Int32) [(.int (nar .byte ((v0 >>> ((0 : Int32) &&& 31)).toInt8.toInt32))), (.int (nar .byte ((v0 >>> ((8 : Int32) &&& 31)).toInt8.toInt32))), (.int (nar .byte ((v1 >>> ((0 : Int32) &&& 31)).toInt8.toInt32))), (.int (nar .byte ((v1 >>> ((8 : Int32) &&& 31)).toInt8.toInt32)))] (.int 0))

theorem own_c3_2_u (l : Launch) (Z : State) (a0 : Array Value) (hw : oT a0 Z) (ws : List Jvm.Cond) (a : Addr) (k : ClassId) (v0 : Int32) (v1 : Int32) (h0 : Heap) (n0 : Nat) (Z0 : n0 ≤ h0.size) (V_a : Arv Z h0 a k .char (2 : Int32) [(.int v0), (.int v1)] (.int 0)) (hbig : (255 : Int32) < v0 ∨ (255 : Int32) < v1) (Old0 : Old Z n0 h0) (sA : Sta Z Z.heap "java/lang/StringUTF16" "$assertionsDisabled" "Z" (.int 1)) (sH : Sta Z Z.heap "java/lang/StringUTF16" "HI_BYTE_SHIFT" "I" (.int 0)) (sL : Sta Z Z.heap "java/lang/StringUTF16" "LO_BYTE_SHIFT" "I" (.int 8)) (hr0 : ¬ v0 < (0 : Int32) ∧ ¬ (65535 : Int32) < v0) (hr1 : ¬ v1 < (0 : Int32) ∧ ¬ (65535 : Int32) < v1) :
    oMet l oM14 jdk_52_method_16_code 6 (some (.array .byte)) ws ⟨3, 2, 6, 40⟩ #[(.ref a), (.int 0), (.int 2)] Z h0 (own_Q_own_c3_2_u Z a k v0 v1 h0 n0) := by
  refine oB n0 "java/lang/StringUTF16" rfl (plainFor_of_name own_pn730740715) (fun m => own_ef_own_c3_2_u m a (0 : Int32) (2 : Int32)) ?_
  intro p e s m below meth c s₁ hZ hx hby hlk hret hml hown hnm X0 e0 N0
  show own_Gl _ _ _ _ _ _ _ (s₁.setTop (mkF m 0 #[.val (.ref a), .val (.int 0), .val (.int 2), .unset, .unset, .unset] []))
  refine own_st (fun _ k => XS.iloadN X0.here hx rfl (hb hby own_d8_0) rfl k) ?_
  obtain ⟨T1, h1, k1, X1, e1, E1, A1, st1⟩ := newP X0 hx hZ (oW hw 19 rfl) e0 (g := (mkF m 1 #[.val (.ref a), .val (.int 0), .val (.int 2), .unset, .unset, .unset] [(.int 2)])) rfl (hb hby own_d8_1) rfl (by decide) (cap := 2) (by decide) (by decide) (by decide) (by decide)
  obtain ⟨b1, gb1⟩ : ∃ z, z = h0.size := ⟨_, rfl⟩
  rw [← gb1] at A1 st1
  refine own_st st1 ?_
  have Zs2 : n0 ≤ h1.size := Nat.le_trans Z0 E1.1
  have g_b1 : n0 ≤ b1 := Nat.le_trans Z0 (Nat.le_of_eq gb1.symm)
  have gh_b1 : h0.size ≤ b1 := Nat.le_trans (Keep.refl h0 []).1 (Nat.le_of_eq gb1.symm)
  have ne_a_b1 : a ≠ b1 := Nat.ne_of_lt (Nat.lt_of_lt_of_le V_a.lt (Nat.le_of_eq gb1.symm))
  have V_b1 : Arv Z h1 b1 k1 .byte (2 : Int32) [(.int 0), (.int 0)] (.int 0) := (Arv.new A1 (by decide)).pad (pad_rep [] (.int 0) 2)
  refine own_st (fun _ k => XS.astoreN X1.here hx rfl (hb hby own_d8_3) rfl rfl (l' := #[.val (.ref a), .val (.int 0), .val (.int 2), .val (.ref b1), .unset, .unset]) rfl k) ?_
  refine own_st (fun _ k => XS.aloadN X1.here hx rfl (hb hby own_d8_4) rfl rfl k) ?_
  show own_Gl _ _ _ _ _ _ _ (T1.setTop (mkF m 5 #[.val (.ref a), .val (.int 0), .val (.int 2), .val (.ref b1), .unset, .unset] [(.ref a)]))
  refine own_st (fun _ k => XS.iloadN X1.here hx rfl (hb hby own_d8_5) rfl k) ?_
  refine own_st (fun _ k => XS.aloadN X1.here hx rfl (hb hby own_d8_6) rfl rfl k) ?_
  refine own_st (fun _ k => XS.iconst X1.here hx rfl (hb hby own_d8_7) k) ?_
  refine own_st (fun _ k => XS.iloadN X1.here hx rfl (hb hby own_d8_8) rfl k) ?_
  show own_Gl _ _ _ _ _ _ _ (T1.setTop (mkF m 9 #[.val (.ref a), .val (.int 0), .val (.int 2), .val (.ref b1), .unset, .unset] [(.int 2), (.int 0), (.ref b1), (.int 0), (.ref a)]))
  by_cases hq0 : (255 : Int32) < v0
  · show own_Gl _ _ _ _ _ _ _ (T1.setTop (mkF m 9 #[.val (.ref a), .val (.int 0), .val (.int 2), .val (.ref b1), .unset, .unset] [(.int 2), (.int 0), (.ref b1), (.int 0), (.ref a)]))
    have f5 := (V_a.ext E1)
    obtain ⟨_, _, ⟨T4, L4, k4, n4⟩, -, X4, ⟨Lc4, hQ4, l4, y4, z4⟩, st4⟩ := Jvm.LawKit.callS X1 hx (y := oM13) hown (mvT hZ (oW hw 49 rfl)) (mvT hZ (oW hw 50 rfl)) (mvT hZ (oW hw 47 rfl)) (mvT hZ (oW hw 51 rfl)) (by decide) (backOf (W := 0) (own_c5_2_0 l Z a0 hw [] a b1 k k1 v0 v1 h1 n0 Zs2 f5 V_b1 g_b1 ne_a_b1 hq0) hZ (oW hw 51 rfl) (oW hw 47 rfl) (by decide) (by decide)) (g := (mkF m 9 #[.val (.ref a), .val (.int 0), .val (.int 2), .val (.ref b1), .unset, .unset] [(.int 2), (.int 0), (.ref b1), (.int 0), (.ref a)])) rfl (by rw [hml]; rfl) (argsL := [(.ref a), (.int 0), (.ref b1), (.int 0), (.int 2)]) (rest := []) (lenOf own_pd196289288 rfl) rfl (by show 2 * 0 + _ ≤ _; exact Nat.le_of_eq rfl) (hb hby own_d8_9) (fun _ _ => ⟨rfl, e1, (by decide : 1 + 0 ≤ 2), (by decide : 2 + 0 ≤ 6)⟩)
    dsimp only [Pt.U, Pt.locs, Pt.cells, Pt.slots] at X4 l4 y4 z4 st4 hQ4
    subst l4 y4 z4
    obtain ⟨hh4, eh04⟩ : ∃ z, T4.heap = z := ⟨_, rfl⟩
    rw [eh04] at hQ4
    obtain ⟨rfl, Nq4, Kq4, P4_0⟩ := hQ4
    have N4 := Fr.app N0 Nq4
    refine own_st st4 ?_
    have Zs6 : n0 ≤ hh4.size := Nat.le_trans Zs2 Kq4.1
    refine own_st (fun _ k => XS.istore X4.here hx rfl (hb hby own_d8_12) rfl (l' := #[.val (.ref a), .val (.int 0), .val (.int 2), .val (.ref b1), .val (.int 0), .unset]) rfl k) ?_
    refine own_st (fun _ k => XS.iload X4.here hx rfl (hb hby own_d8_14) rfl k) ?_
    refine own_st (fun _ k => XS.iloadN X4.here hx rfl (hb hby own_d8_16) rfl k) ?_
    show own_Gl _ _ _ _ _ _ _ (T4.setTop (mkF m 17 #[.val (.ref a), .val (.int 0), .val (.int 2), .val (.ref b1), .val (.int 0), .unset] [(.int 2), (.int 0)]))
    have hd7 : ¬ ((0 : Int32) = (2 : Int32)) := (by decide)
    refine own_st (fun _ k => XS.icmpNo X4.here hx rfl (hb hby own_d8_17) rfl (feq hd7).1 k) ?_
    refine own_st (fun _ k => XS.aloadN X4.here hx rfl (hb hby own_d8_20) rfl rfl k) ?_
    refine own_st (fun _ k => XS.iloadN X4.here hx rfl (hb hby own_d8_21) rfl k) ?_
    refine own_st (fun _ k => XS.iloadN X4.here hx rfl (hb hby own_d8_22) rfl k) ?_
    show own_Gl _ _ _ _ _ _ _ (T4.setTop (mkF m 23 #[.val (.ref a), .val (.int 0), .val (.int 2), .val (.ref b1), .val (.int 0), .unset] [(.int 2), (.int 0), (.ref a)]))
    have f9 := (f5.keep Kq4 (ninS ne_a_b1 nin0))
    have f10 := ((Old0.ext E1).keep Kq4 (allS g_b1 all0))
    obtain ⟨_, _, ⟨T8, L8, k8, n8⟩, -, X8, ⟨Lc8, hQ8, l8, y8, z8⟩, st8⟩ := Jvm.LawKit.callS X4 hx (y := oM11) hown (mvT hZ (oW hw 86 rfl)) (mvT hZ (oW hw 87 rfl)) (mvT hZ (oW hw 47 rfl)) (mvT hZ (oW hw 88 rfl)) (by decide) (backOf (W := 0) (own_tb2 l Z a0 hw [] a k v0 v1 hh4 n0 Zs6 f9 f10 sA sH sL) hZ (oW hw 88 rfl) (oW hw 47 rfl) (by decide) (by decide)) (g := (mkF m 23 #[.val (.ref a), .val (.int 0), .val (.int 2), .val (.ref b1), .val (.int 0), .unset] [(.int 2), (.int 0), (.ref a)])) rfl (by rw [hml]; rfl) (argsL := [(.ref a), (.int 0), (.int 2)]) (rest := []) (lenOf own_pd461289092 rfl) rfl (by show 2 * 0 + _ ≤ _; exact Nat.le_of_eq rfl) (hb hby own_d8_23) (fun _ _ => ⟨rfl, eh04, (by decide : 1 + 1 ≤ 2), (by decide : 2 + 4 ≤ 6)⟩)
    dsimp only [Pt.U, Pt.locs, Pt.cells, Pt.slots] at X8 l8 y8 z8 st8 hQ8
    subst l8 y8 z8
    obtain ⟨hh8, eh08⟩ : ∃ z, T8.heap = z := ⟨_, rfl⟩
    rw [eh08] at hQ8
    obtain ⟨r_8, kr_8, rfl, Nq8, Kq8, P8_0, P8_1, P8_2⟩ := hQ8
    have N8 := Fr.app N4 Nq8
    refine own_st st8 ?_
    have K11 : Keep h0 hh4 [] := (((Keep.refl h0 []).ext E1).trans Kq4 (allS (Or.inr gh_b1) all0))
    have Zs12 : n0 ≤ hh8.size := Nat.le_trans Zs6 Kq8.1
    have gh_r_8 : h0.size ≤ r_8 := Nat.le_trans K11.1 P8_1
    have ne_a_r_8 : a ≠ r_8 := Nat.ne_of_lt (Nat.lt_of_lt_of_le f9.lt P8_1)
    have ne_b1_r_8 : b1 ≠ r_8 := Nat.ne_of_lt (Nat.lt_of_lt_of_le P4_0.lt P8_1)
    refine own_st (fun _ k => XS.astore X8.here hx rfl (hb hby own_d8_26) rfl rfl (l' := #[.val (.ref a), .val (.int 0), .val (.int 2), .val (.ref b1), .val (.int 0), .val (.ref r_8)]) rfl k) ?_
    refine own_st (fun _ k => XS.aload X8.here hx rfl (hb hby own_d8_28) rfl rfl k) ?_
    refine own_st (fun _ k => XS.iload X8.here hx rfl (hb hby own_d8_30) rfl k) ?_
    show own_Gl _ _ _ _ _ _ _ (T8.setTop (mkF m 32 #[.val (.ref a), .val (.int 0), .val (.int 2), .val (.ref b1), .val (.int 0), .val (.ref r_8)] [(.int 0), (.ref r_8)]))
    have f14 := (f10.keep Kq8 all0)
    have f15 := (f9.keep Kq8 nin0)
    have f16 := (P4_0.keep Kq8 nin0)
    obtain ⟨_, _, ⟨T13, L13, k13, n13⟩, -, X13, ⟨Lc13, hQ13, l13, y13, z13⟩, st13⟩ := Jvm.LawKit.callS X8 hx (y := oM12) hown (mvT hZ (oW hw 102 rfl)) (mvT hZ (oW hw 103 rfl)) (mvT hZ (oW hw 47 rfl)) (mvT hZ (oW hw 104 rfl)) (by decide) (backOf (W := 0) (own_get2_0 l Z a0 hw [] r_8 kr_8 v0 v1 hh8 n0 Zs12 f14 sA sH sL P8_2 hr0) hZ (oW hw 104 rfl) (oW hw 47 rfl) (by decide) (by decide)) (g := (mkF m 32 #[.val (.ref a), .val (.int 0), .val (.int 2), .val (.ref b1), .val (.int 0), .val (.ref r_8)] [(.int 0), (.ref r_8)])) rfl (by rw [hml]; rfl) (argsL := [(.ref r_8), (.int 0)]) (rest := []) (lenOf own_pd128711048 rfl) rfl (by show 2 * 0 + _ ≤ _; exact Nat.le_of_eq rfl) (hb hby own_d8_32) (fun _ _ => ⟨rfl, eh08, (by decide : 2 + 0 ≤ 2), (by decide : 6 + 0 ≤ 6)⟩)
    dsimp only [Pt.U, Pt.locs, Pt.cells, Pt.slots] at X13 l13 y13 z13 st13 hQ13
    subst l13 y13 z13
    obtain ⟨hh13, eh013⟩ : ∃ z, T13.heap = z := ⟨_, rfl⟩
    rw [eh013] at hQ13
    obtain ⟨rfl, Nq13, eh13⟩ := hQ13
    have N13 := Fr.app N8 Nq13
    refine own_st st13 ?_
    have e13 : T13.heap = hh8 := eh013.trans eh13
    refine own_st (fun _ k => XS.sipush X13.here hx rfl (hb hby own_d8_35) k) ?_
    have hd17 : (255 : Int32) < v0 := hq0
    refine own_st (fun _ k => XS.icmpYes X13.here hx rfl (pc0 := 38) (pc' := 54) rfl (hb hby own_d8_38) rfl (tlt hd17).2.2.1 (by decide) (by decide) k) ?_
    refine own_st (fun _ k => XS.aload X13.here hx rfl (hb hby own_d8_54) rfl rfl k) ?_
    show own_Gl _ _ _ _ _ _ _ (T13.setTop (mkF m 56 #[.val (.ref a), .val (.int 0), .val (.int 2), .val (.ref b1), .val (.int 0), .val (.ref r_8)] [(.ref r_8)]))
    have K18 : Keep h0 hh8 [] := (K11.trans Kq8 all0)
    exact own_retA X13 hx hlk hret rfl rfl rfl (hb hby own_d8_56) e13 ⟨r_8, kr_8, rfl, N13, K18, P8_0, gh_r_8, P8_2⟩ (by decide) (by decide)
  · have hq1 := (hbig.resolve_left hq0)
    show own_Gl _ _ _ _ _ _ _ (T1.setTop (mkF m 9 #[.val (.ref a), .val (.int 0), .val (.int 2), .val (.ref b1), .unset, .unset] [(.int 2), (.int 0), (.ref b1), (.int 0), (.ref a)]))
    have f20 := (V_a.ext E1)
    obtain ⟨_, _, ⟨T19, L19, k19, n19⟩, -, X19, ⟨Lc19, hQ19, l19, y19, z19⟩, st19⟩ := Jvm.LawKit.callS X1 hx (y := oM13) hown (mvT hZ (oW hw 49 rfl)) (mvT hZ (oW hw 50 rfl)) (mvT hZ (oW hw 47 rfl)) (mvT hZ (oW hw 51 rfl)) (by decide) (backOf (W := 0) (own_c5_2_1 l Z a0 hw [] a b1 k k1 v0 v1 h1 n0 Zs2 f20 V_b1 g_b1 ne_a_b1 hq0 hq1) hZ (oW hw 51 rfl) (oW hw 47 rfl) (by decide) (by decide)) (g := (mkF m 9 #[.val (.ref a), .val (.int 0), .val (.int 2), .val (.ref b1), .unset, .unset] [(.int 2), (.int 0), (.ref b1), (.int 0), (.ref a)])) rfl (by rw [hml]; rfl) (argsL := [(.ref a), (.int 0), (.ref b1), (.int 0), (.int 2)]) (rest := []) (lenOf own_pd196289288 rfl) rfl (by show 2 * 0 + _ ≤ _; exact Nat.le_of_eq rfl) (hb hby own_d8_9) (fun _ _ => ⟨rfl, e1, (by decide : 1 + 0 ≤ 2), (by decide : 2 + 0 ≤ 6)⟩)
    dsimp only [Pt.U, Pt.locs, Pt.cells, Pt.slots] at X19 l19 y19 z19 st19 hQ19
    subst l19 y19 z19
    obtain ⟨hh19, eh019⟩ : ∃ z, T19.heap = z := ⟨_, rfl⟩
    rw [eh019] at hQ19
    obtain ⟨rfl, Nq19, Kq19, P19_0⟩ := hQ19
    have N19 := Fr.app N0 Nq19
    refine own_st st19 ?_
    have Zs21 : n0 ≤ hh19.size := Nat.le_trans Zs2 Kq19.1
    refine own_st (fun _ k => XS.istore X19.here hx rfl (hb hby own_d8_12) rfl (l' := #[.val (.ref a), .val (.int 0), .val (.int 2), .val (.ref b1), .val (.int 1), .unset]) rfl k) ?_
    refine own_st (fun _ k => XS.iload X19.here hx rfl (hb hby own_d8_14) rfl k) ?_
    refine own_st (fun _ k => XS.iloadN X19.here hx rfl (hb hby own_d8_16) rfl k) ?_
    show own_Gl _ _ _ _ _ _ _ (T19.setTop (mkF m 17 #[.val (.ref a), .val (.int 0), .val (.int 2), .val (.ref b1), .val (.int 1), .unset] [(.int 2), (.int 1)]))
    have hd22 : ¬ ((1 : Int32) = (2 : Int32)) := (by decide)
    refine own_st (fun _ k => XS.icmpNo X19.here hx rfl (hb hby own_d8_17) rfl (feq hd22).1 k) ?_
    refine own_st (fun _ k => XS.aloadN X19.here hx rfl (hb hby own_d8_20) rfl rfl k) ?_
    refine own_st (fun _ k => XS.iloadN X19.here hx rfl (hb hby own_d8_21) rfl k) ?_
    refine own_st (fun _ k => XS.iloadN X19.here hx rfl (hb hby own_d8_22) rfl k) ?_
    show own_Gl _ _ _ _ _ _ _ (T19.setTop (mkF m 23 #[.val (.ref a), .val (.int 0), .val (.int 2), .val (.ref b1), .val (.int 1), .unset] [(.int 2), (.int 0), (.ref a)]))
    have f24 := (f20.keep Kq19 (ninS ne_a_b1 nin0))
    have f25 := ((Old0.ext E1).keep Kq19 (allS g_b1 all0))
    obtain ⟨_, _, ⟨T23, L23, k23, n23⟩, -, X23, ⟨Lc23, hQ23, l23, y23, z23⟩, st23⟩ := Jvm.LawKit.callS X19 hx (y := oM11) hown (mvT hZ (oW hw 86 rfl)) (mvT hZ (oW hw 87 rfl)) (mvT hZ (oW hw 47 rfl)) (mvT hZ (oW hw 88 rfl)) (by decide) (backOf (W := 0) (own_tb2 l Z a0 hw [] a k v0 v1 hh19 n0 Zs21 f24 f25 sA sH sL) hZ (oW hw 88 rfl) (oW hw 47 rfl) (by decide) (by decide)) (g := (mkF m 23 #[.val (.ref a), .val (.int 0), .val (.int 2), .val (.ref b1), .val (.int 1), .unset] [(.int 2), (.int 0), (.ref a)])) rfl (by rw [hml]; rfl) (argsL := [(.ref a), (.int 0), (.int 2)]) (rest := []) (lenOf own_pd461289092 rfl) rfl (by show 2 * 0 + _ ≤ _; exact Nat.le_of_eq rfl) (hb hby own_d8_23) (fun _ _ => ⟨rfl, eh019, (by decide : 1 + 1 ≤ 2), (by decide : 2 + 4 ≤ 6)⟩)
    dsimp only [Pt.U, Pt.locs, Pt.cells, Pt.slots] at X23 l23 y23 z23 st23 hQ23
    subst l23 y23 z23
    obtain ⟨hh23, eh023⟩ : ∃ z, T23.heap = z := ⟨_, rfl⟩
    rw [eh023] at hQ23
    obtain ⟨r_23, kr_23, rfl, Nq23, Kq23, P23_0, P23_1, P23_2⟩ := hQ23
    have N23 := Fr.app N19 Nq23
    refine own_st st23 ?_
    have K26 : Keep h0 hh19 [] := (((Keep.refl h0 []).ext E1).trans Kq19 (allS (Or.inr gh_b1) all0))
    have Zs27 : n0 ≤ hh23.size := Nat.le_trans Zs21 Kq23.1
    have gh_r_23 : h0.size ≤ r_23 := Nat.le_trans K26.1 P23_1
    have ne_a_r_23 : a ≠ r_23 := Nat.ne_of_lt (Nat.lt_of_lt_of_le f24.lt P23_1)
    have ne_b1_r_23 : b1 ≠ r_23 := Nat.ne_of_lt (Nat.lt_of_lt_of_le P19_0.lt P23_1)
    refine own_st (fun _ k => XS.astore X23.here hx rfl (hb hby own_d8_26) rfl rfl (l' := #[.val (.ref a), .val (.int 0), .val (.int 2), .val (.ref b1), .val (.int 1), .val (.ref r_23)]) rfl k) ?_
    refine own_st (fun _ k => XS.aload X23.here hx rfl (hb hby own_d8_28) rfl rfl k) ?_
    refine own_st (fun _ k => XS.iload X23.here hx rfl (hb hby own_d8_30) rfl k) ?_
    show own_Gl _ _ _ _ _ _ _ (T23.setTop (mkF m 32 #[.val (.ref a), .val (.int 0), .val (.int 2), .val (.ref b1), .val (.int 1), .val (.ref r_23)] [(.int 1), (.ref r_23)]))
    have f29 := (f25.keep Kq23 all0)
    have f30 := (f24.keep Kq23 nin0)
    have f31 := (P19_0.keep Kq23 nin0)
    obtain ⟨_, _, ⟨T28, L28, k28, n28⟩, -, X28, ⟨Lc28, hQ28, l28, y28, z28⟩, st28⟩ := Jvm.LawKit.callS X23 hx (y := oM12) hown (mvT hZ (oW hw 102 rfl)) (mvT hZ (oW hw 103 rfl)) (mvT hZ (oW hw 47 rfl)) (mvT hZ (oW hw 104 rfl)) (by decide) (backOf (W := 0) (own_get2_1 l Z a0 hw [] r_23 kr_23 v0 v1 hh23 n0 Zs27 f29 sA sH sL P23_2 hr1) hZ (oW hw 104 rfl) (oW hw 47 rfl) (by decide) (by decide)) (g := (mkF m 32 #[.val (.ref a), .val (.int 0), .val (.int 2), .val (.ref b1), .val (.int 1), .val (.ref r_23)] [(.int 1), (.ref r_23)])) rfl (by rw [hml]; rfl) (argsL := [(.ref r_23), (.int 1)]) (rest := []) (lenOf own_pd128711048 rfl) rfl (by show 2 * 0 + _ ≤ _; exact Nat.le_of_eq rfl) (hb hby own_d8_32) (fun _ _ => ⟨rfl, eh023, (by decide : 2 + 0 ≤ 2), (by decide : 6 + 0 ≤ 6)⟩)
    dsimp only [Pt.U, Pt.locs, Pt.cells, Pt.slots] at X28 l28 y28 z28 st28 hQ28
    subst l28 y28 z28
    obtain ⟨hh28, eh028⟩ : ∃ z, T28.heap = z := ⟨_, rfl⟩
    rw [eh028] at hQ28
    obtain ⟨rfl, Nq28, eh28⟩ := hQ28
    have N28 := Fr.app N23 Nq28
    refine own_st st28 ?_
    have e28 : T28.heap = hh23 := eh028.trans eh28
    refine own_st (fun _ k => XS.sipush X28.here hx rfl (hb hby own_d8_35) k) ?_
    have hd32 : (255 : Int32) < v1 := hq1
    refine own_st (fun _ k => XS.icmpYes X28.here hx rfl (pc0 := 38) (pc' := 54) rfl (hb hby own_d8_38) rfl (tlt hd32).2.2.1 (by decide) (by decide) k) ?_
    refine own_st (fun _ k => XS.aload X28.here hx rfl (hb hby own_d8_54) rfl rfl k) ?_
    show own_Gl _ _ _ _ _ _ _ (T28.setTop (mkF m 56 #[.val (.ref a), .val (.int 0), .val (.int 2), .val (.ref b1), .val (.int 1), .val (.ref r_23)] [(.ref r_23)]))
    have K33 : Keep h0 hh23 [] := (K26.trans Kq23 all0)
    exact own_retA X28 hx hlk hret rfl rfl rfl (hb hby own_d8_56) e28 ⟨r_23, kr_23, rfl, N28, K33, P23_0, gh_r_23, P23_2⟩ (by decide) (by decide)
theorem own_ef_own_cf_2_u (m : MethodId) (x0 : Addr) (x1 : Int32) : entryFrame m #[(.ref x0), (.int x1)] 2 = mkF m 0 #[.val (.ref x0), .val (.int x1)] [] := by first | (simp [entryFrame, mkF, argsToLocals, Value.category]; done) | rfl
def own_Q_own_cf_2_u (Z : State) (a : Addr) (k : ClassId) (w : List Value) (h0 : Heap) (n0 : Nat) (v : Option Value) (h : Heap) (L : List Loc) : Prop := (v = some (.int 1)) ∧ (Fr n0 L) ∧ (h = h0)

theorem own_cf_2_u (l : Launch) (Z : State) (a0 : Array Value) (hw : oT a0 Z) (ws : List Jvm.Cond) (a : Addr) (k : ClassId) (w : List Value) (h0 : Heap) (n0 : Nat) (Z0 : n0 ≤ h0.size) (V_a : Arv Z h0 a k .byte (4 : Int32) w (.int 0)) :
    oMet l oM15 jdk_52_method_15_code 2 (some .byte) ws ⟨0, 0, 0, 0⟩ #[(.ref a), (.int 2)] Z h0 (own_Q_own_cf_2_u Z a k w h0 n0) := by
  refine oB n0 "java/lang/StringUTF16" rfl (plainFor_of_name own_pn730740715) (fun m => own_ef_own_cf_2_u m a (2 : Int32)) ?_
  intro p e s m below meth c s₁ hZ hx hby hlk hret hml hown hnm X0 e0 N0
  show own_Gl _ _ _ _ _ _ _ (s₁.setTop (mkF m 0 #[.val (.ref a), .val (.int 2)] []))
  refine own_st (fun _ k => XS.iloadN X0.here hx rfl (hb hby own_d10_0) rfl k) ?_
  refine own_st (fun _ k => XS.aloadN X0.here hx rfl (hb hby own_d10_1) rfl rfl k) ?_
  obtain ⟨cl1, Ar1, qq1, Ss1, Nn1, Hh1, Gg1⟩ := id V_a
  refine own_st (X0.arraylength hx (by rw [e0]; exact Ar1.1) (State.isArrayOf_alike hZ.alike Ar1.2.1) (g := (mkF m 2 #[.val (.ref a), .val (.int 2)] [(.ref a), (.int 2)])) rfl rfl (hb hby own_d10_2)) ?_
  rw [len_of Ss1 Nn1]
  refine own_st (fun _ k => XS.isub X0.here hx rfl (hb hby own_d10_3) rfl k) ?_
  show own_Gl _ _ _ _ _ _ _ (s₁.setTop (mkF m 4 #[.val (.ref a), .val (.int 2)] [(.int (-2))]))
  refine own_st (fun _ k => XS.bipush X0.here hx rfl (hb hby own_d10_4) k) ?_
  refine own_st (fun _ k => XS.iushr X0.here hx rfl (hb hby own_d10_6) rfl k) ?_
  refine own_st (fun _ k => XS.i2b X0.here hx rfl (hb hby own_d10_7) rfl k) ?_
  show own_Gl _ _ _ _ _ _ _ (s₁.setTop (mkF m 8 #[.val (.ref a), .val (.int 2)] [(.int ((((-2 : Int32).toUInt32 >>> ((31 : Int32) &&& 31).toUInt32).toInt32).toInt8.toInt32))]))
  exact own_retN X0 hx hlk (t := .byte) hret (by simp) (hb hby own_d10_8) e0 ⟨rfl, N0, rfl⟩ (by decide) (by decide)
theorem own_ef_own_i4_2_u (m : MethodId) (x0 : Addr) (x1 : Addr) (x2 : Int32) (x3 : Int32) : entryFrame m #[(.ref x0), (.ref x1), (.int x2), (.int x3), .null] 6 = mkF m 0 #[.val (.ref x0), .val (.ref x1), .val (.int x2), .val (.int x3), .val .null, .unset] [] := by first | (simp [entryFrame, mkF, argsToLocals, Value.category]; done) | rfl
def own_Q_own_i4_2_u (Z : State) (a : Addr) (b : Addr) (k : ClassId) (v0 : Int32) (v1 : Int32) (cs : Int32) (h0 : Heap) (n0 : Nat) (v : Option Value) (h : Heap) (L : List Loc) : Prop := ∃ (r : Addr) (kr : ClassId), (v = none) ∧ (Fr n0 L) ∧ (Keep h0 h [a]) ∧ (n0 ≤ r) ∧ (h0.size ≤ r) ∧ (Arv Z h r kr .byte (4 : Int32) [(.int (nar .byte ((v0 >>> ((0 : Int32) &&& 31)).toInt8.toInt32))), (.int (nar .byte ((v0 >>> ((8 : Int32) &&& 31)).toInt8.toInt32))), (.int (nar .byte ((v1 >>> ((0 : Int32) &&& 31)).toInt8.toInt32))), (.int (nar .byte ((v1 >>> ((8 : Int32) &&& 31)).toInt8.toInt32)))] (.int 0)) ∧ (Fld Z h a "java/lang/String" "value" "[B" (.ref r)) ∧ (Fld Z h a "java/lang/String" "coder" "B" (.int 1))

theorem own_i4_2_u (l : Launch) (Z : State) (a0 : Array Value) (hw : oT a0 Z) (ws : List Jvm.Cond) (a : Addr) (b : Addr) (k : ClassId) (v0 : Int32) (v1 : Int32) (cs : Int32) (h0 : Heap) (n0 : Nat) (Z0 : n0 ≤ h0.size) (E_a : Exa Z h0 a "java/lang/String") (F_a_value : Fld Z h0 a "java/lang/String" "value" "[B" .null) (F_a_coder : Fld Z h0 a "java/lang/String" "coder" "B" (.int 0)) (g_a : n0 ≤ a) (ne_a_b : a ≠ b) (V_b : Arv Z h0 b k .char (2 : Int32) [(.int v0), (.int v1)] (.int 0)) (hbig : (255 : Int32) < v0 ∨ (255 : Int32) < v1) (sC : Sta Z Z.heap "java/lang/String" "COMPACT_STRINGS" "Z" (.int cs)) (hcs : ¬ (cs = (0 : Int32))) (Old0 : Old Z n0 h0) (sA : Sta Z Z.heap "java/lang/StringUTF16" "$assertionsDisabled" "Z" (.int 1)) (sH : Sta Z Z.heap "java/lang/StringUTF16" "HI_BYTE_SHIFT" "I" (.int 0)) (sL : Sta Z Z.heap "java/lang/StringUTF16" "LO_BYTE_SHIFT" "I" (.int 8)) (hr0 : ¬ v0 < (0 : Int32) ∧ ¬ (65535 : Int32) < v0) (hr1 : ¬ v1 < (0 : Int32) ∧ ¬ (65535 : Int32) < v1) :
    oMet l oM16 jdk_42_method_149_code 6 none ws ⟨4, 2, 6, 57⟩ #[(.ref a), (.ref b), (.int 0), (.int 2), .null] Z h0 (own_Q_own_i4_2_u Z a b k v0 v1 cs h0 n0) := by
  refine oB n0 "java/lang/String" rfl (plainFor_of_name own_pn853443214) (fun m => own_ef_own_i4_2_u m a b (0 : Int32) (2 : Int32)) ?_
  intro p e s m below meth c s₁ hZ hx hby hlk hret hml hown hnm X0 e0 N0
  show own_Gl _ _ _ _ _ _ _ (s₁.setTop (mkF m 0 #[.val (.ref a), .val (.ref b), .val (.int 0), .val (.int 2), .val .null, .unset] []))
  refine own_st (fun _ k => XS.aloadN X0.here hx rfl (hb hby own_d3_0) rfl rfl k) ?_
  obtain ⟨T1, X1, e1, st1⟩ := initO X0 hx hZ hown (oW hw 15 rfl) (oW hw 16 rfl) (oW hw 17 rfl) e0 (g := (mkF m 1 #[.val (.ref a), .val (.ref b), .val (.int 0), .val (.int 2), .val .null, .unset] [(.ref a)])) rfl (by rw [hml]; rfl) rfl (hb hby own_d3_1) (by decide) (W := 0) (by show 2 * 0 + _ ≤ _; exact Nat.le_of_eq rfl) (by decide)
  refine own_st st1 ?_
  refine own_st (fun _ k => XS.iloadN X1.here hx rfl (hb hby own_d3_4) rfl k) ?_
  have hd2 : ¬ ((2 : Int32) = (0 : Int32)) := (by decide)
  refine own_st (fun _ k => XS.ifYes X1.here hx rfl (pc0 := 5) (pc' := 27) rfl (hb hby own_d3_5) rfl ((if0 _ _).trans (feq hd2).2) (by decide) (by decide) k) ?_
  show own_Gl _ _ _ _ _ _ _ (T1.setTop (mkF m 27 #[.val (.ref a), .val (.ref b), .val (.int 0), .val (.int 2), .val .null, .unset] []))
  obtain ⟨T3, X3, e3, st3⟩ := getS2 X1 hx hZ hown (host := "") (Or.inl (oW hw 44 rfl)) Via.refl e1 (sC.ext Old0.2) (g := (mkF m 27 #[.val (.ref a), .val (.ref b), .val (.int 0), .val (.int 2), .val .null, .unset] [])) rfl (hb hby own_d3_27)
  refine own_st st3 ?_
  have hd4 : ¬ (cs = (0 : Int32)) := hcs
  refine own_st (fun _ k => XS.ifNo X3.here hx rfl (hb hby own_d3_30) rfl ((if0 _ _).trans (feq hd4).1) k) ?_
  refine own_st (fun _ k => XS.aloadN X3.here hx rfl (hb hby own_d3_33) rfl rfl k) ?_
  refine own_st (fun _ k => XS.iloadN X3.here hx rfl (hb hby own_d3_34) rfl k) ?_
  show own_Gl _ _ _ _ _ _ _ (T3.setTop (mkF m 35 #[.val (.ref a), .val (.ref b), .val (.int 0), .val (.int 2), .val .null, .unset] [(.int 0), (.ref b)]))
  refine own_st (fun _ k => XS.iloadN X3.here hx rfl (hb hby own_d3_35) rfl k) ?_
  obtain ⟨_, _, ⟨T5, L5, k5, n5⟩, -, X5, ⟨Lc5, hQ5, l5, y5, z5⟩, st5⟩ := Jvm.LawKit.callS X3 hx (y := oM14) hown (mvT hZ (oW hw 45 rfl)) (mvT hZ (oW hw 46 rfl)) (mvT hZ (oW hw 47 rfl)) (mvT hZ (oW hw 48 rfl)) (by decide) (backOf (W := 0) (own_c3_2_u l Z a0 hw [] b k v0 v1 h0 n0 Z0 V_b hbig Old0 sA sH sL hr0 hr1) hZ (oW hw 48 rfl) (oW hw 47 rfl) (by decide) (by decide)) (g := (mkF m 36 #[.val (.ref a), .val (.ref b), .val (.int 0), .val (.int 2), .val .null, .unset] [(.int 2), (.int 0), (.ref b)])) rfl (by rw [hml]; rfl) (argsL := [(.ref b), (.int 0), (.int 2)]) (rest := []) (lenOf own_pd461289092 rfl) rfl (by show 2 * 0 + _ ≤ _; exact Nat.le_of_eq rfl) (hb hby own_d3_36) (fun _ _ => ⟨rfl, e3, (by decide : 0 + 2 ≤ 2), (by decide : 0 + 6 ≤ 6)⟩)
  dsimp only [Pt.U, Pt.locs, Pt.cells, Pt.slots] at X5 l5 y5 z5 st5 hQ5
  subst l5 y5 z5
  obtain ⟨hh5, eh05⟩ : ∃ z, T5.heap = z := ⟨_, rfl⟩
  rw [eh05] at hQ5
  obtain ⟨r_5, kr_5, rfl, Nq5, Kq5, P5_0, P5_1, P5_2⟩ := hQ5
  have N5 := Fr.app N0 Nq5
  refine own_st st5 ?_
  have Zs6 : n0 ≤ hh5.size := Nat.le_trans Z0 Kq5.1
  have gh_r_5 : h0.size ≤ r_5 := Nat.le_trans (Keep.refl h0 [a]).1 P5_1
  have ne_a_r_5 : a ≠ r_5 := Nat.ne_of_lt (Nat.lt_of_lt_of_le E_a.lt P5_1)
  have ne_b_r_5 : b ≠ r_5 := Nat.ne_of_lt (Nat.lt_of_lt_of_le V_b.lt P5_1)
  refine own_st (fun _ k => XS.astore X5.here hx rfl (hb hby own_d3_39) rfl rfl (l' := #[.val (.ref a), .val (.ref b), .val (.int 0), .val (.int 2), .val .null, .val (.ref r_5)]) rfl k) ?_
  refine own_st (fun _ k => XS.aloadN X5.here hx rfl (hb hby own_d3_41) rfl rfl k) ?_
  show own_Gl _ _ _ _ _ _ _ (T5.setTop (mkF m 42 #[.val (.ref a), .val (.ref b), .val (.int 0), .val (.int 2), .val .null, .val (.ref r_5)] [(.ref a)]))
  refine own_st (fun _ k => XS.aload X5.here hx rfl (hb hby own_d3_42) rfl rfl k) ?_
  refine own_st (fun _ k => XS.iloadN X5.here hx rfl (hb hby own_d3_44) rfl k) ?_
  have f8 := (E_a.keep Kq5)
  have f9 := (V_b.keep Kq5 nin0)
  obtain ⟨_, _, ⟨T7, L7, k7, n7⟩, -, X7, ⟨Lc7, hQ7, l7, y7, z7⟩, st7⟩ := Jvm.LawKit.callS X5 hx (y := oM15) hown (mvT hZ (oW hw 52 rfl)) (mvT hZ (oW hw 53 rfl)) (mvT hZ (oW hw 47 rfl)) (mvT hZ (oW hw 54 rfl)) (by decide) (backOf (W := 1) (own_cf_2_u l Z a0 hw [] r_5 kr_5 [(.int (nar .byte ((v0 >>> ((0 : Int32) &&& 31)).toInt8.toInt32))), (.int (nar .byte ((v0 >>> ((8 : Int32) &&& 31)).toInt8.toInt32))), (.int (nar .byte ((v1 >>> ((0 : Int32) &&& 31)).toInt8.toInt32))), (.int (nar .byte ((v1 >>> ((8 : Int32) &&& 31)).toInt8.toInt32)))] hh5 n0 Zs6 P5_2) hZ (oW hw 54 rfl) (oW hw 47 rfl) (by decide) (by decide)) (g := (mkF m 45 #[.val (.ref a), .val (.ref b), .val (.int 0), .val (.int 2), .val .null, .val (.ref r_5)] [(.int 2), (.ref r_5), (.ref a)])) rfl (by rw [hml]; rfl) (argsL := [(.ref r_5), (.int 2)]) (rest := [(.ref a)]) (lenOf own_pd128711047 rfl) rfl (by show 2 * 0 + _ ≤ _; exact Nat.le_of_eq rfl) (hb hby own_d3_45) (fun _ _ => ⟨rfl, eh05, (by decide : 2 + 0 ≤ 2), (by decide : 6 + 0 ≤ 6)⟩)
  dsimp only [Pt.U, Pt.locs, Pt.cells, Pt.slots] at X7 l7 y7 z7 st7 hQ7
  subst l7 y7 z7
  obtain ⟨hh7, eh07⟩ : ∃ z, T7.heap = z := ⟨_, rfl⟩
  rw [eh07] at hQ7
  obtain ⟨rfl, Nq7, eh7⟩ := hQ7
  have N7 := Fr.app N5 Nq7
  refine own_st st7 ?_
  have e7 : T7.heap = hh5 := eh07.trans eh7
  have f10 := (F_a_coder.keep Kq5 nin0)
  obtain ⟨T11, h11, X11, e11, W11, st11⟩ := putFN X7 hx hZ hown (oW hw 25 rfl) Via.refl e7 f10 f8 (Or.inr ⟨(oW hw 21 rfl), rfl, hnm⟩) (oW hw 6 rfl) (ty := .byte) (v' := (.int (nar .byte (1 : Int32)))) (by decide) rfl (fits_nar_byte _) (g := (mkF m 48 #[.val (.ref a), .val (.ref b), .val (.int 0), .val (.int 2), .val .null, .val (.ref r_5)] [(.int 1), (.ref a)])) rfl rfl (hb hby own_d3_48)
  have N11 := Fr.snoc X11 N7 g_a
  refine own_st st11 ?_
  have Zs12 : n0 ≤ h11.size := Nat.le_trans Zs6 (Keep.of_wr W11).1
  have Fw11 := f10.same W11
  show own_Gl _ _ _ _ _ _ _ (T11.setTop (mkF m 51 #[.val (.ref a), .val (.ref b), .val (.int 0), .val (.int 2), .val .null, .val (.ref r_5)] []))
  refine own_st (fun _ k => XS.aloadN X11.here hx rfl (hb hby own_d3_51) rfl rfl k) ?_
  refine own_st (fun _ k => XS.aload X11.here hx rfl (hb hby own_d3_52) rfl rfl k) ?_
  have f13 := (f8.wr W11)
  have f14 := ((F_a_value.keep Kq5 nin0).other W11 (Or.inr (slot_ne (Or.inr (oW hw 20 rfl)) (Or.inr (oW hw 21 rfl)) (by decide) (t := (.array .byte)) (t' := .byte) (by decide) (by decide))))
  obtain ⟨T15, h15, X15, e15, W15, st15⟩ := putF X11 hx hZ hown (host := "") (Or.inl (oW hw 24 rfl)) Via.refl e11 f14 f13 (Or.inr ⟨(oW hw 20 rfl), rfl, hnm⟩) (oW hw 6 rfl) (ty := (.array .byte)) (by decide) rfl rfl (g := (mkF m 54 #[.val (.ref a), .val (.ref b), .val (.int 0), .val (.int 2), .val .null, .val (.ref r_5)] [(.ref r_5), (.ref a)])) rfl rfl (hb hby own_d3_54)
  have N15 := Fr.snoc X15 N11 g_a
  refine own_st st15 ?_
  have Zs16 : n0 ≤ h15.size := Nat.le_trans Zs12 (Keep.of_wr W15).1
  have Fw15 := f14.same W15
  show own_Gl _ _ _ _ _ _ _ (T15.setTop (mkF m 57 #[.val (.ref a), .val (.ref b), .val (.int 0), .val (.int 2), .val .null, .val (.ref r_5)] []))
  have f17 := (Fw11.other W15 (Or.inr (slot_ne (Or.inr (oW hw 21 rfl)) (Or.inr (oW hw 20 rfl)) (by decide) (t := .byte) (t' := (.array .byte)) (by decide) (by decide))))
  have K18 : Keep h0 h15 [a] := ((((Keep.refl h0 [a]).trans Kq5 all0).wr W11 (Or.inl (List.mem_of_getElem? (i := 0) rfl))).wr W15 (Or.inl (List.mem_of_getElem? (i := 0) rfl)))
  have f19 := ((P5_2.other W11 (Ne.symm ne_a_r_5)).other W15 (Ne.symm ne_a_r_5))
  exact own_retV X15 hx hlk hret (hb hby own_d3_57) e15 ⟨r_5, kr_5, rfl, N15, K18, P5_0, gh_r_5, f19, Fw15, f17⟩ (by decide) (by decide)
theorem own_ef_own_i1_2_u (m : MethodId) (x0 : Addr) (x1 : Addr) : entryFrame m #[(.ref x0), (.ref x1)] 2 = mkF m 0 #[.val (.ref x0), .val (.ref x1)] [] := by first | (simp [entryFrame, mkF, argsToLocals, Value.category]; done) | rfl
def own_Q_own_i1_2_u (Z : State) (a : Addr) (b : Addr) (k : ClassId) (v0 : Int32) (v1 : Int32) (cs : Int32) (h0 : Heap) (n0 : Nat) (v : Option Value) (h : Heap) (L : List Loc) : Prop := ∃ (r : Addr) (kr : ClassId), (v = none) ∧ (Fr n0 L) ∧ (Keep h0 h [a]) ∧ (n0 ≤ r) ∧ (h0.size ≤ r) ∧ (Arv Z h r kr .byte (4 : Int32) [(.int (nar .byte ((v0 >>> ((0 : Int32) &&& 31)).toInt8.toInt32))), (.int (nar .byte ((v0 >>> ((8 : Int32) &&& 31)).toInt8.toInt32))), (.int (nar .byte ((v1 >>> ((0 : Int32) &&& 31)).toInt8.toInt32))), (.int (nar .byte ((v1 >>> ((8 : Int32) &&& 31)).toInt8.toInt32)))] (.int 0)) ∧ (Fld Z h a "java/lang/String" "value" "[B" (.ref r)) ∧ (Fld Z h a "java/lang/String" "coder" "B" (.int 1))

theorem own_i1_2_u (l : Launch) (Z : State) (a0 : Array Value) (hw : oT a0 Z) (ws : List Jvm.Cond) (a : Addr) (b : Addr) (k : ClassId) (v0 : Int32) (v1 : Int32) (cs : Int32) (h0 : Heap) (n0 : Nat) (Z0 : n0 ≤ h0.size) (E_a : Exa Z h0 a "java/lang/String") (F_a_value : Fld Z h0 a "java/lang/String" "value" "[B" .null) (F_a_coder : Fld Z h0 a "java/lang/String" "coder" "B" (.int 0)) (g_a : n0 ≤ a) (ne_a_b : a ≠ b) (V_b : Arv Z h0 b k .char (2 : Int32) [(.int v0), (.int v1)] (.int 0)) (hbig : (255 : Int32) < v0 ∨ (255 : Int32) < v1) (sC : Sta Z Z.heap "java/lang/String" "COMPACT_STRINGS" "Z" (.int cs)) (hcs : ¬ (cs = (0 : Int32))) (Old0 : Old Z n0 h0) (sA : Sta Z Z.heap "java/lang/StringUTF16" "$assertionsDisabled" "Z" (.int 1)) (sH : Sta Z Z.heap "java/lang/StringUTF16" "HI_BYTE_SHIFT" "I" (.int 0)) (sL : Sta Z Z.heap "java/lang/StringUTF16" "LO_BYTE_SHIFT" "I" (.int 8)) (hr0 : ¬ v0 < (0 : Int32) ∧ ¬ (65535 : Int32) < v0) (hr1 : ¬ v1 < (0 : Int32) ∧ ¬ (65535 : Int32) < v1) :
    oMet l oM17 jdk_42_method_3_code 2 none ws ⟨5, 2, 6, 74⟩ #[(.ref a), (.ref b)] Z h0 (own_Q_own_i1_2_u Z a b k v0 v1 cs h0 n0) := by
  refine oB n0 "java/lang/String" rfl (plainFor_of_name own_pn853443214) (fun m => own_ef_own_i1_2_u m a b) ?_
  intro p e s m below meth c s₁ hZ hx hby hlk hret hml hown hnm X0 e0 N0
  show own_Gl _ _ _ _ _ _ _ (s₁.setTop (mkF m 0 #[.val (.ref a), .val (.ref b)] []))
  refine own_st (fun _ k => XS.aloadN X0.here hx rfl (hb hby own_d2_0) rfl rfl k) ?_
  refine own_st (fun _ k => XS.aloadN X0.here hx rfl (hb hby own_d2_1) rfl rfl k) ?_
  refine own_st (fun _ k => XS.iconst X0.here hx rfl (hb hby own_d2_2) k) ?_
  refine own_st (fun _ k => XS.aloadN X0.here hx rfl (hb hby own_d2_3) rfl rfl k) ?_
  show own_Gl _ _ _ _ _ _ _ (s₁.setTop (mkF m 4 #[.val (.ref a), .val (.ref b)] [(.ref b), (.int 0), (.ref b), (.ref a)]))
  obtain ⟨cl1, Ar1, qq1, Ss1, Nn1, Hh1, Gg1⟩ := id V_b
  refine own_st (X0.arraylength hx (by rw [e0]; exact Ar1.1) (State.isArrayOf_alike hZ.alike Ar1.2.1) (g := (mkF m 4 #[.val (.ref a), .val (.ref b)] [(.ref b), (.int 0), (.ref b), (.ref a)])) rfl rfl (hb hby own_d2_4)) ?_
  rw [len_of Ss1 Nn1]
  refine own_st (fun _ k => XS.aconstNull X0.here hx rfl (hb hby own_d2_5) k) ?_
  obtain ⟨_, _, ⟨T2, L2, k2, n2⟩, -, X2, ⟨Lc2, hQ2, l2, y2, z2⟩, st2⟩ := X0.specialBack hx (y := oM16) rfl hown (mvT hZ (oW hw 11 rfl)) (mvT hZ (oW hw 12 rfl)) (mvT hZ (oW hw 14 rfl)) (by decide) (backOf (W := 0) (own_i4_2_u l Z a0 hw [] a b k v0 v1 cs h0 n0 Z0 E_a F_a_value F_a_coder g_a ne_a_b V_b hbig sC hcs Old0 sA sH sL hr0 hr1) hZ (oW hw 14 rfl) (oW hw 7 rfl) (by decide) (by decide)) (g := (mkF m 6 #[.val (.ref a), .val (.ref b)] [.null, (.int 2), (.int 0), (.ref b), (.ref a)])) rfl (by rw [hml]; rfl) (Steps.refl _) (a := a) (argsL := [(.ref b), (.int 0), (.int 2), .null]) (rest := []) (lenOf own_pd888094010 rfl) rfl (by show 2 * 0 + _ ≤ _; exact Nat.le_of_eq rfl) (hb hby own_d2_6) (fun _ _ => ⟨rfl, e0, (by decide : 0 + 2 ≤ 2), (by decide : 0 + 6 ≤ 6)⟩)
  dsimp only [Pt.U, Pt.locs, Pt.cells, Pt.slots] at X2 l2 y2 z2 st2 hQ2
  subst l2 y2 z2
  obtain ⟨hh2, eh02⟩ : ∃ z, T2.heap = z := ⟨_, rfl⟩
  rw [eh02] at hQ2
  obtain ⟨r_2, kr_2, rfl, Nq2, Kq2, P2_0, P2_1, P2_2, P2_3, P2_4⟩ := hQ2
  have N2 := Fr.app N0 Nq2
  refine own_tr st2 ?_
  have Zs3 : n0 ≤ hh2.size := Nat.le_trans Z0 Kq2.1
  have gh_r_2 : h0.size ≤ r_2 := Nat.le_trans (Keep.refl h0 [a]).1 P2_1
  have ne_a_r_2 : a ≠ r_2 := Nat.ne_of_lt (Nat.lt_of_lt_of_le E_a.lt P2_1)
  have ne_b_r_2 : b ≠ r_2 := Nat.ne_of_lt (Nat.lt_of_lt_of_le V_b.lt P2_1)
  show own_Gl _ _ _ _ _ _ _ (T2.setTop (mkF m 9 #[.val (.ref a), .val (.ref b)] []))
  have K4 : Keep h0 hh2 [a] := ((Keep.refl h0 [a]).trans Kq2 (allS (Or.inl (List.mem_of_getElem? (i := 0) rfl)) all0))
  exact own_retV X2 hx hlk hret (hb hby own_d2_9) eh02 ⟨r_2, kr_2, rfl, N2, K4, P2_0, gh_r_2, P2_2, P2_3, P2_4⟩ (by decide) (by decide)
theorem own_ef_own_ulen2 (m : MethodId) (x0 : Addr) : entryFrame m #[(.ref x0)] 1 = mkF m 0 #[.val (.ref x0)] [] := by first | (simp [entryFrame, mkF, argsToLocals, Value.category]; done) | rfl
def own_Q_own_ulen2 (Z : State) (a : Addr) (k : ClassId) (vl : List Value) (h0 : Heap) (n0 : Nat) (v : Option Value) (h : Heap) (L : List Loc) : Prop := (v = some (.int 2)) ∧ (Fr n0 L) ∧ (h = h0)

theorem own_ulen2 (l : Launch) (Z : State) (a0 : Array Value) (hw : oT a0 Z) (ws : List Jvm.Cond) (a : Addr) (k : ClassId) (vl : List Value) (h0 : Heap) (n0 : Nat) (Z0 : n0 ≤ h0.size) (V_a : Arv Z h0 a k .byte (4 : Int32) vl (.int 0)) :
    oMet l oM18 jdk_52_method_6_code 1 (some .int) ws ⟨0, 0, 0, 0⟩ #[(.ref a)] Z h0 (own_Q_own_ulen2 Z a k vl h0 n0) := by
  refine oB n0 "java/lang/StringUTF16" rfl (plainFor_of_name own_pn730740715) (fun m => own_ef_own_ulen2 m a) ?_
  intro p e s m below meth c s₁ hZ hx hby hlk hret hml hown hnm X0 e0 N0
  show own_Gl _ _ _ _ _ _ _ (s₁.setTop (mkF m 0 #[.val (.ref a)] []))
  refine own_st (fun _ k => XS.aloadN X0.here hx rfl (hb hby own_d25_0) rfl rfl k) ?_
  obtain ⟨cl1, Ar1, qq1, Ss1, Nn1, Hh1, Gg1⟩ := id V_a
  refine own_st (X0.arraylength hx (by rw [e0]; exact Ar1.1) (State.isArrayOf_alike hZ.alike Ar1.2.1) (g := (mkF m 1 #[.val (.ref a)] [(.ref a)])) rfl rfl (hb hby own_d25_1)) ?_
  rw [len_of Ss1 Nn1]
  refine own_st (fun _ k => XS.iconst X0.here hx rfl (hb hby own_d25_2) k) ?_
  refine own_st (fun _ k => XS.ishr X0.here hx rfl (hb hby own_d25_3) rfl k) ?_
  show own_Gl _ _ _ _ _ _ _ (s₁.setTop (mkF m 4 #[.val (.ref a)] [(.int ((4 : Int32) >>> ((1 : Int32) &&& 31)))]))
  exact own_retI X0 hx hlk hret (hb hby own_d25_4) e0 ⟨rfl, N0, rfl⟩ (by decide) (by decide)
theorem own_ef_own_l1c2_0 (m : MethodId) (x0 : Addr) (x1 : Int32) : entryFrame m #[(.ref x0), (.int x1)] 2 = mkF m 0 #[.val (.ref x0), .val (.int x1)] [] := by first | (simp [entryFrame, mkF, argsToLocals, Value.category]; done) | rfl
def own_Q_own_l1c2_0 (Z : State) (a : Addr) (k : ClassId) (sf : Value) (v0 : Int32) (v1 : Int32) (h0 : Heap) (n0 : Nat) (v : Option Value) (h : Heap) (L : List Loc) : Prop := (v = some (.int v0)) ∧ (Fr n0 L) ∧ (h = h0)

theorem own_l1c2_0 (l : Launch) (Z : State) (a0 : Array Value) (hw : oT a0 Z) (ws : List Jvm.Cond) (a : Addr) (k : ClassId) (sf : Value) (v0 : Int32) (v1 : Int32) (h0 : Heap) (n0 : Nat) (Z0 : n0 ≤ h0.size) (Old0 : Old Z n0 h0) (sF : Sta Z Z.heap "jdk/internal/util/Preconditions" "SIOOBE_FORMATTER" "Ljava/util/function/BiFunction;" sf) (hsf : sf.isRef = true) (V_a : Arv Z h0 a k .byte (2 : Int32) [(.int (nar .byte (v0.toInt8.toInt32))), (.int (nar .byte (v1.toInt8.toInt32)))] (.int 0)) (hr0 : ¬ v0 < (0 : Int32) ∧ ¬ (255 : Int32) < v0) :
    oMet l oM19 jdk_43_method_2_code 2 (some .char) ws ⟨2, 0, 0, 27⟩ #[(.ref a), (.int 0)] Z h0 (own_Q_own_l1c2_0 Z a k sf v0 v1 h0 n0) := by
  refine oB n0 "java/lang/StringLatin1" rfl (plainFor_of_name own_pn340705600) (fun m => own_ef_own_l1c2_0 m a (0 : Int32)) ?_
  intro p e s m below meth c s₁ hZ hx hby hlk hret hml hown hnm X0 e0 N0
  show own_Gl _ _ _ _ _ _ _ (s₁.setTop (mkF m 0 #[.val (.ref a), .val (.int 0)] []))
  refine own_st (fun _ k => XS.iloadN X0.here hx rfl (hb hby own_d14_0) rfl k) ?_
  refine own_st (fun _ k => XS.aloadN X0.here hx rfl (hb hby own_d14_1) rfl rfl k) ?_
  obtain ⟨cl1, Ar1, qq1, Ss1, Nn1, Hh1, Gg1⟩ := id V_a
  refine own_st (X0.arraylength hx (by rw [e0]; exact Ar1.1) (State.isArrayOf_alike hZ.alike Ar1.2.1) (g := (mkF m 2 #[.val (.ref a), .val (.int 0)] [(.ref a), (.int 0)])) rfl rfl (hb hby own_d14_2)) ?_
  rw [len_of Ss1 Nn1]
  obtain ⟨_, _, ⟨T2, L2, k2, n2⟩, -, X2, ⟨Lc2, hQ2, l2, y2, z2⟩, st2⟩ := Jvm.LawKit.callS X0 hx (y := oM7) hown (mvT hZ (oW hw 75 rfl)) (mvT hZ (oW hw 76 rfl)) (mvT hZ (oW hw 7 rfl)) (mvT hZ (oW hw 77 rfl)) (by decide) (backOf (W := 0) (own_sci l Z a0 hw [] (0 : Int32) (2 : Int32) sf h0 n0 Z0 Old0 sF hsf (by decide) (by decide)) hZ (oW hw 77 rfl) (oW hw 7 rfl) (by decide) (by decide)) (g := (mkF m 3 #[.val (.ref a), .val (.int 0)] [(.int 2), (.int 0)])) rfl (by rw [hml]; rfl) (argsL := [(.int 0), (.int 2)]) (rest := []) (lenOf own_pd945365693 rfl) rfl (by show 2 * 0 + _ ≤ _; exact Nat.le_of_eq rfl) (hb hby own_d14_3) (fun _ _ => ⟨rfl, e0, (by decide : 0 + 0 ≤ 0), (by decide : 0 + 0 ≤ 0)⟩)
  dsimp only [Pt.U, Pt.locs, Pt.cells, Pt.slots] at X2 l2 y2 z2 st2 hQ2
  subst l2 y2 z2
  obtain ⟨hh2, eh02⟩ : ∃ z, T2.heap = z := ⟨_, rfl⟩
  rw [eh02] at hQ2
  obtain ⟨rfl, Nq2, eh2⟩ := hQ2
  have N2 := Fr.app N0 Nq2
  refine own_st st2 ?_
  have e2 : T2.heap = h0 := eh02.trans eh2
  show own_Gl _ _ _ _ _ _ _ (T2.setTop (mkF m 6 #[.val (.ref a), .val (.int 0)] []))
  refine own_st (fun _ k => XS.aloadN X2.here hx rfl (hb hby own_d14_6) rfl rfl k) ?_
  refine own_st (fun _ k => XS.iloadN X2.here hx rfl (hb hby own_d14_7) rfl k) ?_
  obtain ⟨cl3, Ar3, qq3, Ss3, Nn3, Hh3, Gg3⟩ := id V_a
  have hin3 : ¬ ((0 : Int32) < 0 ∨ cl3.slots.size ≤ ((0 : Int32)).toNatClampNeg) := inb_of Ss3 ⟨by decide, by decide⟩
  have hat3 : cl3.slots[((0 : Int32)).toNatClampNeg]? = some (.int (nar .byte (v0.toInt8.toInt32))) := Hh3.at hin3 (rfl)
  refine own_st (X2.baloadBytes hx (j := (0 : Int32)) (v := (.int (nar .byte (v0.toInt8.toInt32)))) (by rw [e2]; exact Ar3.1) (State.isArrayOf_alike hZ.alike Ar3.2.1) Ar3.2.2 hin3 hat3 (g := (mkF m 8 #[.val (.ref a), .val (.int 0)] [(.int 0), (.ref a)])) rfl rfl (hb hby own_d14_8)) ?_
  refine own_st (fun _ k => XS.sipush X2.here hx rfl (hb hby own_d14_9) k) ?_
  show own_Gl _ _ _ _ _ _ _ (T2.setTop (mkF m 12 #[.val (.ref a), .val (.int 0)] [(.int 255), (.int (nar .byte (v0.toInt8.toInt32)))]))
  refine own_st (fun _ k => XS.iand X2.here hx rfl (hb hby own_d14_12) rfl k) ?_
  refine own_st (fun _ k => XS.i2c X2.here hx rfl (hb hby own_d14_13) rfl k) ?_
  show own_Gl _ _ _ _ _ _ _ (T2.setTop (mkF m 14 #[.val (.ref a), .val (.int 0)] [(.int (((nar .byte (v0.toInt8.toInt32)) &&& (255 : Int32)).toUInt32.toUInt16.toUInt32.toInt32))]))
  exact own_retN X2 hx hlk (t := .char) hret (by simp) (hb hby own_d14_14) e2 ⟨by rw [own_lch _ hr0], N2, rfl⟩ (by decide) (by decide)
theorem own_ef_own_uci2_0 (m : MethodId) (x0 : Int32) (x1 : Addr) : entryFrame m #[(.int x0), (.ref x1)] 2 = mkF m 0 #[.val (.int x0), .val (.ref x1)] [] := by first | (simp [entryFrame, mkF, argsToLocals, Value.category]; done) | rfl
def own_Q_own_uci2_0 (Z : State) (a : Addr) (k : ClassId) (vl : List Value) (sf : Value) (h0 : Heap) (n0 : Nat) (v : Option Value) (h : Heap) (L : List Loc) : Prop := (v = none) ∧ (Fr n0 L) ∧ (h = h0)

theorem own_uci2_0 (l : Launch) (Z : State) (a0 : Array Value) (hw : oT a0 Z) (ws : List Jvm.Cond) (a : Addr) (k : ClassId) (vl : List Value) (sf : Value) (h0 : Heap) (n0 : Nat) (Z0 : n0 ≤ h0.size) (Old0 : Old Z n0 h0) (sF : Sta Z Z.heap "jdk/internal/util/Preconditions" "SIOOBE_FORMATTER" "Ljava/util/function/BiFunction;" sf) (hsf : sf.isRef = true) (V_a : Arv Z h0 a k .byte (4 : Int32) vl (.int 0)) :
    oMet l oM20 jdk_52_method_91_code 2 none ws ⟨2, 0, 0, 27⟩ #[(.int 0), (.ref a)] Z h0 (own_Q_own_uci2_0 Z a k vl sf h0 n0) := by
  refine oB n0 "java/lang/StringUTF16" rfl (plainFor_of_name own_pn730740715) (fun m => own_ef_own_uci2_0 m (0 : Int32) a) ?_
  intro p e s m below meth c s₁ hZ hx hby hlk hret hml hown hnm X0 e0 N0
  show own_Gl _ _ _ _ _ _ _ (s₁.setTop (mkF m 0 #[.val (.int 0), .val (.ref a)] []))
  refine own_st (fun _ k => XS.iloadN X0.here hx rfl (hb hby own_d24_0) rfl k) ?_
  refine own_st (fun _ k => XS.aloadN X0.here hx rfl (hb hby own_d24_1) rfl rfl k) ?_
  obtain ⟨_, _, ⟨T1, L1, k1, n1⟩, -, X1, ⟨Lc1, hQ1, l1, y1, z1⟩, st1⟩ := Jvm.LawKit.callS X0 hx (y := oM18) hown (mvT hZ (oW hw 111 rfl)) (mvT hZ (oW hw 112 rfl)) (mvT hZ (oW hw 47 rfl)) (mvT hZ (oW hw 113 rfl)) (by decide) (backOf (W := 1) (own_ulen2 l Z a0 hw [] a k vl h0 n0 Z0 V_a) hZ (oW hw 113 rfl) (oW hw 47 rfl) (by decide) (by decide)) (g := (mkF m 2 #[.val (.int 0), .val (.ref a)] [(.ref a), (.int 0)])) rfl (by rw [hml]; rfl) (argsL := [(.ref a)]) (rest := [(.int 0)]) (lenOf own_pd985711191 rfl) rfl (by show 2 * 0 + _ ≤ _; exact Nat.le_of_eq rfl) (hb hby own_d24_2) (fun _ _ => ⟨rfl, e0, (by decide : 0 + 0 ≤ 0), (by decide : 0 + 0 ≤ 0)⟩)
  dsimp only [Pt.U, Pt.locs, Pt.cells, Pt.slots] at X1 l1 y1 z1 st1 hQ1
  subst l1 y1 z1
  obtain ⟨hh1, eh01⟩ : ∃ z, T1.heap = z := ⟨_, rfl⟩
  rw [eh01] at hQ1
  obtain ⟨rfl, Nq1, eh1⟩ := hQ1
  have N1 := Fr.app N0 Nq1
  refine own_st st1 ?_
  have e1 : T1.heap = h0 := eh01.trans eh1
  obtain ⟨_, _, ⟨T2, L2, k2, n2⟩, -, X2, ⟨Lc2, hQ2, l2, y2, z2⟩, st2⟩ := Jvm.LawKit.callS X1 hx (y := oM7) hown (mvT hZ (oW hw 114 rfl)) (mvT hZ (oW hw 76 rfl)) (mvT hZ (oW hw 7 rfl)) (mvT hZ (oW hw 77 rfl)) (by decide) (backOf (W := 0) (own_sci l Z a0 hw [] (0 : Int32) (2 : Int32) sf h0 n0 Z0 Old0 sF hsf (by decide) (by decide)) hZ (oW hw 77 rfl) (oW hw 7 rfl) (by decide) (by decide)) (g := (mkF m 5 #[.val (.int 0), .val (.ref a)] [(.int 2), (.int 0)])) rfl (by rw [hml]; rfl) (argsL := [(.int 0), (.int 2)]) (rest := []) (lenOf own_pd945365693 rfl) rfl (by show 2 * 0 + _ ≤ _; exact Nat.le_of_eq rfl) (hb hby own_d24_5) (fun _ _ => ⟨rfl, e1, (by decide : 0 + 0 ≤ 0), (by decide : 0 + 0 ≤ 0)⟩)
  dsimp only [Pt.U, Pt.locs, Pt.cells, Pt.slots] at X2 l2 y2 z2 st2 hQ2
  subst l2 y2 z2
  obtain ⟨hh2, eh02⟩ : ∃ z, T2.heap = z := ⟨_, rfl⟩
  rw [eh02] at hQ2
  obtain ⟨rfl, Nq2, eh2⟩ := hQ2
  have N2 := Fr.app N1 Nq2
  refine own_st st2 ?_
  have e2 : T2.heap = h0 := eh02.trans eh2
  show own_Gl _ _ _ _ _ _ _ (T2.setTop (mkF m 8 #[.val (.int 0), .val (.ref a)] []))
  exact own_retV X2 hx hlk hret (hb hby own_d24_8) e2 ⟨rfl, N2, rfl⟩ (by decide) (by decide)
theorem own_ef_own_uc2_0 (m : MethodId) (x0 : Addr) (x1 : Int32) : entryFrame m #[(.ref x0), (.int x1)] 2 = mkF m 0 #[.val (.ref x0), .val (.int x1)] [] := by first | (simp [entryFrame, mkF, argsToLocals, Value.category]; done) | rfl
def own_Q_own_uc2_0 (Z : State) (a : Addr) (k : ClassId) (sf : Value) (v0 : Int32) (v1 : Int32) (h0 : Heap) (n0 : Nat) (v : Option Value) (h : Heap) (L : List Loc) : Prop := (v = some (.int v0)) ∧ (Fr n0 L) ∧ (h = h0)

theorem own_uc2_0 (l : Launch) (Z : State) (a0 : Array Value) (hw : oT a0 Z) (ws : List Jvm.Cond) (a : Addr) (k : ClassId) (sf : Value) (v0 : Int32) (v1 : Int32) (h0 : Heap) (n0 : Nat) (Z0 : n0 ≤ h0.size) (Old0 : Old Z n0 h0) (sA : Sta Z Z.heap "java/lang/StringUTF16" "$assertionsDisabled" "Z" (.int 1)) (sH : Sta Z Z.heap "java/lang/StringUTF16" "HI_BYTE_SHIFT" "I" (.int 0)) (sL : Sta Z Z.heap "java/lang/StringUTF16" "LO_BYTE_SHIFT" "I" (.int 8)) (sF : Sta Z Z.heap "jdk/internal/util/Preconditions" "SIOOBE_FORMATTER" "Ljava/util/function/BiFunction;" sf) (hsf : sf.isRef = true) (V_a : Arv Z h0 a k .byte (4 : Int32) [(.int (nar .byte ((v0 >>> ((0 : Int32) &&& 31)).toInt8.toInt32))), (.int (nar .byte ((v0 >>> ((8 : Int32) &&& 31)).toInt8.toInt32))), (.int (nar .byte ((v1 >>> ((0 : Int32) &&& 31)).toInt8.toInt32))), (.int (nar .byte ((v1 >>> ((8 : Int32) &&& 31)).toInt8.toInt32)))] (.int 0)) (hr0 : ¬ v0 < (0 : Int32) ∧ ¬ (65535 : Int32) < v0) :
    oMet l oM21 jdk_52_method_83_code 2 (some .char) ws ⟨3, 0, 0, 40⟩ #[(.ref a), (.int 0)] Z h0 (own_Q_own_uc2_0 Z a k sf v0 v1 h0 n0) := by
  refine oB n0 "java/lang/StringUTF16" rfl (plainFor_of_name own_pn730740715) (fun m => own_ef_own_uc2_0 m a (0 : Int32)) ?_
  intro p e s m below meth c s₁ hZ hx hby hlk hret hml hown hnm X0 e0 N0
  show own_Gl _ _ _ _ _ _ _ (s₁.setTop (mkF m 0 #[.val (.ref a), .val (.int 0)] []))
  refine own_st (fun _ k => XS.iloadN X0.here hx rfl (hb hby own_d23_0) rfl k) ?_
  refine own_st (fun _ k => XS.aloadN X0.here hx rfl (hb hby own_d23_1) rfl rfl k) ?_
  obtain ⟨_, _, ⟨T1, L1, k1, n1⟩, -, X1, ⟨Lc1, hQ1, l1, y1, z1⟩, st1⟩ := Jvm.LawKit.callS X0 hx (y := oM20) hown (mvT hZ (oW hw 108 rfl)) (mvT hZ (oW hw 109 rfl)) (mvT hZ (oW hw 47 rfl)) (mvT hZ (oW hw 110 rfl)) (by decide) (backOf (W := 0) (own_uci2_0 l Z a0 hw [] a k [(.int (nar .byte ((v0 >>> ((0 : Int32) &&& 31)).toInt8.toInt32))), (.int (nar .byte ((v0 >>> ((8 : Int32) &&& 31)).toInt8.toInt32))), (.int (nar .byte ((v1 >>> ((0 : Int32) &&& 31)).toInt8.toInt32))), (.int (nar .byte ((v1 >>> ((8 : Int32) &&& 31)).toInt8.toInt32)))] sf h0 n0 Z0 Old0 sF hsf V_a) hZ (oW hw 110 rfl) (oW hw 47 rfl) (by decide) (by decide)) (g := (mkF m 2 #[.val (.ref a), .val (.int 0)] [(.ref a), (.int 0)])) rfl (by rw [hml]; rfl) (argsL := [(.int 0), (.ref a)]) (rest := []) (lenOf own_pd883794637 rfl) rfl (by show 2 * 0 + _ ≤ _; exact Nat.le_of_eq rfl) (hb hby own_d23_2) (fun _ _ => ⟨rfl, e0, (by decide : 0 + 0 ≤ 0), (by decide : 0 + 0 ≤ 0)⟩)
  dsimp only [Pt.U, Pt.locs, Pt.cells, Pt.slots] at X1 l1 y1 z1 st1 hQ1
  subst l1 y1 z1
  obtain ⟨hh1, eh01⟩ : ∃ z, T1.heap = z := ⟨_, rfl⟩
  rw [eh01] at hQ1
  obtain ⟨rfl, Nq1, eh1⟩ := hQ1
  have N1 := Fr.app N0 Nq1
  refine own_st st1 ?_
  have e1 : T1.heap = h0 := eh01.trans eh1
  refine own_st (fun _ k => XS.aloadN X1.here hx rfl (hb hby own_d23_5) rfl rfl k) ?_
  show own_Gl _ _ _ _ _ _ _ (T1.setTop (mkF m 6 #[.val (.ref a), .val (.int 0)] [(.ref a)]))
  refine own_st (fun _ k => XS.iloadN X1.here hx rfl (hb hby own_d23_6) rfl k) ?_
  obtain ⟨_, _, ⟨T2, L2, k2, n2⟩, -, X2, ⟨Lc2, hQ2, l2, y2, z2⟩, st2⟩ := Jvm.LawKit.callS X1 hx (y := oM12) hown (mvT hZ (oW hw 102 rfl)) (mvT hZ (oW hw 103 rfl)) (mvT hZ (oW hw 47 rfl)) (mvT hZ (oW hw 104 rfl)) (by decide) (backOf (W := 0) (own_get2_0 l Z a0 hw [] a k v0 v1 h0 n0 Z0 Old0 sA sH sL V_a hr0) hZ (oW hw 104 rfl) (oW hw 47 rfl) (by decide) (by decide)) (g := (mkF m 7 #[.val (.ref a), .val (.int 0)] [(.int 0), (.ref a)])) rfl (by rw [hml]; rfl) (argsL := [(.ref a), (.int 0)]) (rest := []) (lenOf own_pd128711048 rfl) rfl (by show 2 * 0 + _ ≤ _; exact Nat.le_of_eq rfl) (hb hby own_d23_7) (fun _ _ => ⟨rfl, e1, (by decide : 0 + 0 ≤ 0), (by decide : 0 + 0 ≤ 0)⟩)
  dsimp only [Pt.U, Pt.locs, Pt.cells, Pt.slots] at X2 l2 y2 z2 st2 hQ2
  subst l2 y2 z2
  obtain ⟨hh2, eh02⟩ : ∃ z, T2.heap = z := ⟨_, rfl⟩
  rw [eh02] at hQ2
  obtain ⟨rfl, Nq2, eh2⟩ := hQ2
  have N2 := Fr.app N1 Nq2
  refine own_st st2 ?_
  have e2 : T2.heap = h0 := eh02.trans eh2
  show own_Gl _ _ _ _ _ _ _ (T2.setTop (mkF m 10 #[.val (.ref a), .val (.int 0)] [(.int v0)]))
  exact own_retN X2 hx hlk (t := .char) hret (by simp) (hb hby own_d23_10) e2 ⟨by rw [own_nc _ hr0], N2, rfl⟩ (by decide) (by decide)
theorem own_ef_own_ch2_0_0 (m : MethodId) (x0 : Addr) (x1 : Int32) : entryFrame m #[(.ref x0), (.int x1)] 2 = mkF m 0 #[.val (.ref x0), .val (.int x1)] [] := by first | (simp [entryFrame, mkF, argsToLocals, Value.category]; done) | rfl
def own_Q_own_ch2_0_0 (Z : State) (a : Addr) (b : Addr) (k : ClassId) (sf : Value) (cs : Int32) (v0 : Int32) (v1 : Int32) (h0 : Heap) (n0 : Nat) (v : Option Value) (h : Heap) (L : List Loc) : Prop := (v = some (.int v0)) ∧ (Fr n0 L) ∧ (h = h0)

theorem own_ch2_0_0 (l : Launch) (Z : State) (a0 : Array Value) (hw : oT a0 Z) (ws : List Jvm.Cond) (a : Addr) (b : Addr) (k : ClassId) (sf : Value) (cs : Int32) (v0 : Int32) (v1 : Int32) (h0 : Heap) (n0 : Nat) (Z0 : n0 ≤ h0.size) (Old0 : Old Z n0 h0) (sF : Sta Z Z.heap "jdk/internal/util/Preconditions" "SIOOBE_FORMATTER" "Ljava/util/function/BiFunction;" sf) (hsf : sf.isRef = true) (sC : Sta Z Z.heap "java/lang/String" "COMPACT_STRINGS" "Z" (.int cs)) (hcs : ¬ (cs = (0 : Int32))) (E_a : Exa Z h0 a "java/lang/String") (F_a_value : Fld Z h0 a "java/lang/String" "value" "[B" (.ref b)) (F_a_coder : Fld Z h0 a "java/lang/String" "coder" "B" (.int 0)) (V_b : Arv Z h0 b k .byte (2 : Int32) [(.int (nar .byte (v0.toInt8.toInt32))), (.int (nar .byte (v1.toInt8.toInt32)))] (.int 0)) (hr0 : ¬ v0 < (0 : Int32) ∧ ¬ (255 : Int32) < v0) :
    oMet l oM22 jdk_42_method_56_code 2 (some .char) ws ⟨3, 0, 0, 40⟩ #[(.ref a), (.int 0)] Z h0 (own_Q_own_ch2_0_0 Z a b k sf cs v0 v1 h0 n0) := by
  refine oB n0 "java/lang/String" rfl (plainFor_of_name own_pn853443214) (fun m => own_ef_own_ch2_0_0 m a (0 : Int32)) ?_
  intro p e s m below meth c s₁ hZ hx hby hlk hret hml hown hnm X0 e0 N0
  show own_Gl _ _ _ _ _ _ _ (s₁.setTop (mkF m 0 #[.val (.ref a), .val (.int 0)] []))
  refine own_st (fun _ k => XS.aloadN X0.here hx rfl (hb hby own_d12_0) rfl rfl k) ?_
  obtain ⟨cq1, kq1, q1a, q1b, q1c⟩ := isOf hZ e0 E_a
  obtain ⟨_, _, ⟨T1, L1, k1, n1⟩, -, X1, ⟨Lc1, hQ1, l1, y1, z1⟩, st1⟩ := X0.virtualBack hx (y := oM4) (z := oM4) hown (mvT hZ (oW hw 66 rfl)) (mvT hZ (oW hw 67 rfl)) (notFace_of_selects (args := #[]) (mvT hZ (oW hw 69 rfl))) (mvT hZ (oW hw 69 rfl)) (mvT hZ (oW hw 68 rfl)) (by decide) (backOf (W := 0) (own_lat0 l Z a0 hw [] a cs h0 n0 Z0 F_a_coder Old0 sC hcs) hZ (oW hw 70 rfl) (oW hw 7 rfl) (by decide) (by decide)) q1a q1c (g := (mkF m 1 #[.val (.ref a), .val (.int 0)] [(.ref a)])) rfl (by rw [hml]; rfl) (Steps.refl _) (argsL := []) (rest := []) (lenOf own_pd691901 rfl) rfl (by show 2 * 0 + _ ≤ _; exact Nat.le_of_eq rfl) (hb hby own_d12_1) (fun _ _ => ⟨rfl, e0, (by decide : 0 + 0 ≤ 0), (by decide : 0 + 0 ≤ 0)⟩)
  dsimp only [Pt.U, Pt.locs, Pt.cells, Pt.slots] at X1 l1 y1 z1 st1 hQ1
  subst l1 y1 z1
  obtain ⟨hh1, eh01⟩ : ∃ z, T1.heap = z := ⟨_, rfl⟩
  rw [eh01] at hQ1
  obtain ⟨rfl, Nq1, eh1⟩ := hQ1
  have N1 := Fr.app N0 Nq1
  refine own_tr st1 ?_
  have e1 : T1.heap = h0 := eh01.trans eh1
  have hd2 : ¬ ((1 : Int32) = (0 : Int32)) := (by decide)
  refine own_st (fun _ k => XS.ifNo X1.here hx rfl (hb hby own_d12_4) rfl ((if0 _ _).trans (feq hd2).1) k) ?_
  refine own_st (fun _ k => XS.aloadN X1.here hx rfl (hb hby own_d12_7) rfl rfl k) ?_
  show own_Gl _ _ _ _ _ _ _ (T1.setTop (mkF m 8 #[.val (.ref a), .val (.int 0)] [(.ref a)]))
  obtain ⟨T3, X3, e3, st3⟩ := getF X1 hx hZ hown (host := "") (Or.inl (oW hw 24 rfl)) Via.refl e1 F_a_value (g := (mkF m 8 #[.val (.ref a), .val (.int 0)] [(.ref a)])) rfl rfl (hb hby own_d12_8)
  refine own_st st3 ?_
  refine own_st (fun _ k => XS.iloadN X3.here hx rfl (hb hby own_d12_11) rfl k) ?_
  obtain ⟨_, _, ⟨T4, L4, k4, n4⟩, -, X4, ⟨Lc4, hQ4, l4, y4, z4⟩, st4⟩ := Jvm.LawKit.callS X3 hx (y := oM19) hown (mvT hZ (oW hw 71 rfl)) (mvT hZ (oW hw 72 rfl)) (mvT hZ (oW hw 73 rfl)) (mvT hZ (oW hw 74 rfl)) (by decide) (backOf (W := 0) (own_l1c2_0 l Z a0 hw [] b k sf v0 v1 h0 n0 Z0 Old0 sF hsf V_b hr0) hZ (oW hw 74 rfl) (oW hw 73 rfl) (by decide) (by decide)) (g := (mkF m 12 #[.val (.ref a), .val (.int 0)] [(.int 0), (.ref b)])) rfl (by rw [hml]; rfl) (argsL := [(.ref b), (.int 0)]) (rest := []) (lenOf own_pd128711048 rfl) rfl (by show 2 * 0 + _ ≤ _; exact Nat.le_of_eq rfl) (hb hby own_d12_12) (fun _ _ => ⟨rfl, e3, (by decide : 0 + 0 ≤ 0), (by decide : 0 + 0 ≤ 0)⟩)
  dsimp only [Pt.U, Pt.locs, Pt.cells, Pt.slots] at X4 l4 y4 z4 st4 hQ4
  subst l4 y4 z4
  obtain ⟨hh4, eh04⟩ : ∃ z, T4.heap = z := ⟨_, rfl⟩
  rw [eh04] at hQ4
  obtain ⟨rfl, Nq4, eh4⟩ := hQ4
  have N4 := Fr.app N1 Nq4
  refine own_st st4 ?_
  have e4 : T4.heap = h0 := eh04.trans eh4
  show own_Gl _ _ _ _ _ _ _ (T4.setTop (mkF m 15 #[.val (.ref a), .val (.int 0)] [(.int v0)]))
  exact own_retN X4 hx hlk (t := .char) hret (by simp) (hb hby own_d12_15) e4 ⟨by rw [own_nc _ (own_wide hr0)], N4, rfl⟩ (by decide) (by decide)
theorem own_ef_own_ch2_0_1 (m : MethodId) (x0 : Addr) (x1 : Int32) : entryFrame m #[(.ref x0), (.int x1)] 2 = mkF m 0 #[.val (.ref x0), .val (.int x1)] [] := by first | (simp [entryFrame, mkF, argsToLocals, Value.category]; done) | rfl
def own_Q_own_ch2_0_1 (Z : State) (a : Addr) (b : Addr) (k : ClassId) (sf : Value) (cs : Int32) (v0 : Int32) (v1 : Int32) (h0 : Heap) (n0 : Nat) (v : Option Value) (h : Heap) (L : List Loc) : Prop := (v = some (.int v0)) ∧ (Fr n0 L) ∧ (h = h0)

theorem own_ch2_0_1 (l : Launch) (Z : State) (a0 : Array Value) (hw : oT a0 Z) (ws : List Jvm.Cond) (a : Addr) (b : Addr) (k : ClassId) (sf : Value) (cs : Int32) (v0 : Int32) (v1 : Int32) (h0 : Heap) (n0 : Nat) (Z0 : n0 ≤ h0.size) (Old0 : Old Z n0 h0) (sA : Sta Z Z.heap "java/lang/StringUTF16" "$assertionsDisabled" "Z" (.int 1)) (sH : Sta Z Z.heap "java/lang/StringUTF16" "HI_BYTE_SHIFT" "I" (.int 0)) (sL : Sta Z Z.heap "java/lang/StringUTF16" "LO_BYTE_SHIFT" "I" (.int 8)) (sF : Sta Z Z.heap "jdk/internal/util/Preconditions" "SIOOBE_FORMATTER" "Ljava/util/function/BiFunction;" sf) (hsf : sf.isRef = true) (sC : Sta Z Z.heap "java/lang/String" "COMPACT_STRINGS" "Z" (.int cs)) (hcs : ¬ (cs = (0 : Int32))) (E_a : Exa Z h0 a "java/lang/String") (F_a_value : Fld Z h0 a "java/lang/String" "value" "[B" (.ref b)) (F_a_coder : Fld Z h0 a "java/lang/String" "coder" "B" (.int 1)) (V_b : Arv Z h0 b k .byte (4 : Int32) [(.int (nar .byte ((v0 >>> ((0 : Int32) &&& 31)).toInt8.toInt32))), (.int (nar .byte ((v0 >>> ((8 : Int32) &&& 31)).toInt8.toInt32))), (.int (nar .byte ((v1 >>> ((0 : Int32) &&& 31)).toInt8.toInt32))), (.int (nar .byte ((v1 >>> ((8 : Int32) &&& 31)).toInt8.toInt32)))] (.int 0)) (hr0 : ¬ v0 < (0 : Int32) ∧ ¬ (65535 : Int32) < v0) :
    oMet l oM22 jdk_42_method_56_code 2 (some .char) ws ⟨4, 0, 0, 53⟩ #[(.ref a), (.int 0)] Z h0 (own_Q_own_ch2_0_1 Z a b k sf cs v0 v1 h0 n0) := by
  refine oB n0 "java/lang/String" rfl (plainFor_of_name own_pn853443214) (fun m => own_ef_own_ch2_0_1 m a (0 : Int32)) ?_
  intro p e s m below meth c s₁ hZ hx hby hlk hret hml hown hnm X0 e0 N0
  show own_Gl _ _ _ _ _ _ _ (s₁.setTop (mkF m 0 #[.val (.ref a), .val (.int 0)] []))
  refine own_st (fun _ k => XS.aloadN X0.here hx rfl (hb hby own_d12_0) rfl rfl k) ?_
  obtain ⟨cq1, kq1, q1a, q1b, q1c⟩ := isOf hZ e0 E_a
  obtain ⟨_, _, ⟨T1, L1, k1, n1⟩, -, X1, ⟨Lc1, hQ1, l1, y1, z1⟩, st1⟩ := X0.virtualBack hx (y := oM4) (z := oM4) hown (mvT hZ (oW hw 66 rfl)) (mvT hZ (oW hw 67 rfl)) (notFace_of_selects (args := #[]) (mvT hZ (oW hw 69 rfl))) (mvT hZ (oW hw 69 rfl)) (mvT hZ (oW hw 68 rfl)) (by decide) (backOf (W := 0) (own_lat1 l Z a0 hw [] a cs h0 n0 Z0 F_a_coder Old0 sC hcs) hZ (oW hw 70 rfl) (oW hw 7 rfl) (by decide) (by decide)) q1a q1c (g := (mkF m 1 #[.val (.ref a), .val (.int 0)] [(.ref a)])) rfl (by rw [hml]; rfl) (Steps.refl _) (argsL := []) (rest := []) (lenOf own_pd691901 rfl) rfl (by show 2 * 0 + _ ≤ _; exact Nat.le_of_eq rfl) (hb hby own_d12_1) (fun _ _ => ⟨rfl, e0, (by decide : 0 + 0 ≤ 0), (by decide : 0 + 0 ≤ 0)⟩)
  dsimp only [Pt.U, Pt.locs, Pt.cells, Pt.slots] at X1 l1 y1 z1 st1 hQ1
  subst l1 y1 z1
  obtain ⟨hh1, eh01⟩ : ∃ z, T1.heap = z := ⟨_, rfl⟩
  rw [eh01] at hQ1
  obtain ⟨rfl, Nq1, eh1⟩ := hQ1
  have N1 := Fr.app N0 Nq1
  refine own_tr st1 ?_
  have e1 : T1.heap = h0 := eh01.trans eh1
  have hd2 : (0 : Int32) = (0 : Int32) := (by decide)
  refine own_st (fun _ k => XS.ifYes X1.here hx rfl (pc0 := 4) (pc' := 16) rfl (hb hby own_d12_4) rfl ((if0 _ _).trans (teq hd2).1) (by decide) (by decide) k) ?_
  refine own_st (fun _ k => XS.aloadN X1.here hx rfl (hb hby own_d12_16) rfl rfl k) ?_
  show own_Gl _ _ _ _ _ _ _ (T1.setTop (mkF m 17 #[.val (.ref a), .val (.int 0)] [(.ref a)]))
  obtain ⟨T3, X3, e3, st3⟩ := getF X1 hx hZ hown (host := "") (Or.inl (oW hw 24 rfl)) Via.refl e1 F_a_value (g := (mkF m 17 #[.val (.ref a), .val (.int 0)] [(.ref a)])) rfl rfl (hb hby own_d12_17)
  refine own_st st3 ?_
  refine own_st (fun _ k => XS.iloadN X3.here hx rfl (hb hby own_d12_20) rfl k) ?_
  obtain ⟨_, _, ⟨T4, L4, k4, n4⟩, -, X4, ⟨Lc4, hQ4, l4, y4, z4⟩, st4⟩ := Jvm.LawKit.callS X3 hx (y := oM21) hown (mvT hZ (oW hw 105 rfl)) (mvT hZ (oW hw 106 rfl)) (mvT hZ (oW hw 47 rfl)) (mvT hZ (oW hw 107 rfl)) (by decide) (backOf (W := 0) (own_uc2_0 l Z a0 hw [] b k sf v0 v1 h0 n0 Z0 Old0 sA sH sL sF hsf V_b hr0) hZ (oW hw 107 rfl) (oW hw 47 rfl) (by decide) (by decide)) (g := (mkF m 21 #[.val (.ref a), .val (.int 0)] [(.int 0), (.ref b)])) rfl (by rw [hml]; rfl) (argsL := [(.ref b), (.int 0)]) (rest := []) (lenOf own_pd128711048 rfl) rfl (by show 2 * 0 + _ ≤ _; exact Nat.le_of_eq rfl) (hb hby own_d12_21) (fun _ _ => ⟨rfl, e3, (by decide : 0 + 0 ≤ 0), (by decide : 0 + 0 ≤ 0)⟩)
  dsimp only [Pt.U, Pt.locs, Pt.cells, Pt.slots] at X4 l4 y4 z4 st4 hQ4
  subst l4 y4 z4
  obtain ⟨hh4, eh04⟩ : ∃ z, T4.heap = z := ⟨_, rfl⟩
  rw [eh04] at hQ4
  obtain ⟨rfl, Nq4, eh4⟩ := hQ4
  have N4 := Fr.app N1 Nq4
  refine own_st st4 ?_
  have e4 : T4.heap = h0 := eh04.trans eh4
  show own_Gl _ _ _ _ _ _ _ (T4.setTop (mkF m 24 #[.val (.ref a), .val (.int 0)] [(.int v0)]))
  exact own_retN X4 hx hlk (t := .char) hret (by simp) (hb hby own_d12_24) e4 ⟨by rw [own_nc _ hr0], N4, rfl⟩ (by decide) (by decide)
theorem own_ef_own_l1c2_1 (m : MethodId) (x0 : Addr) (x1 : Int32) : entryFrame m #[(.ref x0), (.int x1)] 2 = mkF m 0 #[.val (.ref x0), .val (.int x1)] [] := by first | (simp [entryFrame, mkF, argsToLocals, Value.category]; done) | rfl
def own_Q_own_l1c2_1 (Z : State) (a : Addr) (k : ClassId) (sf : Value) (v0 : Int32) (v1 : Int32) (h0 : Heap) (n0 : Nat) (v : Option Value) (h : Heap) (L : List Loc) : Prop := (v = some (.int v1)) ∧ (Fr n0 L) ∧ (h = h0)

theorem own_l1c2_1 (l : Launch) (Z : State) (a0 : Array Value) (hw : oT a0 Z) (ws : List Jvm.Cond) (a : Addr) (k : ClassId) (sf : Value) (v0 : Int32) (v1 : Int32) (h0 : Heap) (n0 : Nat) (Z0 : n0 ≤ h0.size) (Old0 : Old Z n0 h0) (sF : Sta Z Z.heap "jdk/internal/util/Preconditions" "SIOOBE_FORMATTER" "Ljava/util/function/BiFunction;" sf) (hsf : sf.isRef = true) (V_a : Arv Z h0 a k .byte (2 : Int32) [(.int (nar .byte (v0.toInt8.toInt32))), (.int (nar .byte (v1.toInt8.toInt32)))] (.int 0)) (hr1 : ¬ v1 < (0 : Int32) ∧ ¬ (255 : Int32) < v1) :
    oMet l oM19 jdk_43_method_2_code 2 (some .char) ws ⟨2, 0, 0, 27⟩ #[(.ref a), (.int 1)] Z h0 (own_Q_own_l1c2_1 Z a k sf v0 v1 h0 n0) := by
  refine oB n0 "java/lang/StringLatin1" rfl (plainFor_of_name own_pn340705600) (fun m => own_ef_own_l1c2_1 m a (1 : Int32)) ?_
  intro p e s m below meth c s₁ hZ hx hby hlk hret hml hown hnm X0 e0 N0
  show own_Gl _ _ _ _ _ _ _ (s₁.setTop (mkF m 0 #[.val (.ref a), .val (.int 1)] []))
  refine own_st (fun _ k => XS.iloadN X0.here hx rfl (hb hby own_d14_0) rfl k) ?_
  refine own_st (fun _ k => XS.aloadN X0.here hx rfl (hb hby own_d14_1) rfl rfl k) ?_
  obtain ⟨cl1, Ar1, qq1, Ss1, Nn1, Hh1, Gg1⟩ := id V_a
  refine own_st (X0.arraylength hx (by rw [e0]; exact Ar1.1) (State.isArrayOf_alike hZ.alike Ar1.2.1) (g := (mkF m 2 #[.val (.ref a), .val (.int 1)] [(.ref a), (.int 1)])) rfl rfl (hb hby own_d14_2)) ?_
  rw [len_of Ss1 Nn1]
  obtain ⟨_, _, ⟨T2, L2, k2, n2⟩, -, X2, ⟨Lc2, hQ2, l2, y2, z2⟩, st2⟩ := Jvm.LawKit.callS X0 hx (y := oM7) hown (mvT hZ (oW hw 75 rfl)) (mvT hZ (oW hw 76 rfl)) (mvT hZ (oW hw 7 rfl)) (mvT hZ (oW hw 77 rfl)) (by decide) (backOf (W := 0) (own_sci l Z a0 hw [] (1 : Int32) (2 : Int32) sf h0 n0 Z0 Old0 sF hsf (by decide) (by decide)) hZ (oW hw 77 rfl) (oW hw 7 rfl) (by decide) (by decide)) (g := (mkF m 3 #[.val (.ref a), .val (.int 1)] [(.int 2), (.int 1)])) rfl (by rw [hml]; rfl) (argsL := [(.int 1), (.int 2)]) (rest := []) (lenOf own_pd945365693 rfl) rfl (by show 2 * 0 + _ ≤ _; exact Nat.le_of_eq rfl) (hb hby own_d14_3) (fun _ _ => ⟨rfl, e0, (by decide : 0 + 0 ≤ 0), (by decide : 0 + 0 ≤ 0)⟩)
  dsimp only [Pt.U, Pt.locs, Pt.cells, Pt.slots] at X2 l2 y2 z2 st2 hQ2
  subst l2 y2 z2
  obtain ⟨hh2, eh02⟩ : ∃ z, T2.heap = z := ⟨_, rfl⟩
  rw [eh02] at hQ2
  obtain ⟨rfl, Nq2, eh2⟩ := hQ2
  have N2 := Fr.app N0 Nq2
  refine own_st st2 ?_
  have e2 : T2.heap = h0 := eh02.trans eh2
  show own_Gl _ _ _ _ _ _ _ (T2.setTop (mkF m 6 #[.val (.ref a), .val (.int 1)] []))
  refine own_st (fun _ k => XS.aloadN X2.here hx rfl (hb hby own_d14_6) rfl rfl k) ?_
  refine own_st (fun _ k => XS.iloadN X2.here hx rfl (hb hby own_d14_7) rfl k) ?_
  obtain ⟨cl3, Ar3, qq3, Ss3, Nn3, Hh3, Gg3⟩ := id V_a
  have hin3 : ¬ ((1 : Int32) < 0 ∨ cl3.slots.size ≤ ((1 : Int32)).toNatClampNeg) := inb_of Ss3 ⟨by decide, by decide⟩
  have hat3 : cl3.slots[((1 : Int32)).toNatClampNeg]? = some (.int (nar .byte (v1.toInt8.toInt32))) := Hh3.at hin3 (rfl)
  refine own_st (X2.baloadBytes hx (j := (1 : Int32)) (v := (.int (nar .byte (v1.toInt8.toInt32)))) (by rw [e2]; exact Ar3.1) (State.isArrayOf_alike hZ.alike Ar3.2.1) Ar3.2.2 hin3 hat3 (g := (mkF m 8 #[.val (.ref a), .val (.int 1)] [(.int 1), (.ref a)])) rfl rfl (hb hby own_d14_8)) ?_
  refine own_st (fun _ k => XS.sipush X2.here hx rfl (hb hby own_d14_9) k) ?_
  show own_Gl _ _ _ _ _ _ _ (T2.setTop (mkF m 12 #[.val (.ref a), .val (.int 1)] [(.int 255), (.int (nar .byte (v1.toInt8.toInt32)))]))
  refine own_st (fun _ k => XS.iand X2.here hx rfl (hb hby own_d14_12) rfl k) ?_
  refine own_st (fun _ k => XS.i2c X2.here hx rfl (hb hby own_d14_13) rfl k) ?_
  show own_Gl _ _ _ _ _ _ _ (T2.setTop (mkF m 14 #[.val (.ref a), .val (.int 1)] [(.int (((nar .byte (v1.toInt8.toInt32)) &&& (255 : Int32)).toUInt32.toUInt16.toUInt32.toInt32))]))
  exact own_retN X2 hx hlk (t := .char) hret (by simp) (hb hby own_d14_14) e2 ⟨by rw [own_lch _ hr1], N2, rfl⟩ (by decide) (by decide)
theorem own_ef_own_uci2_1 (m : MethodId) (x0 : Int32) (x1 : Addr) : entryFrame m #[(.int x0), (.ref x1)] 2 = mkF m 0 #[.val (.int x0), .val (.ref x1)] [] := by first | (simp [entryFrame, mkF, argsToLocals, Value.category]; done) | rfl
def own_Q_own_uci2_1 (Z : State) (a : Addr) (k : ClassId) (vl : List Value) (sf : Value) (h0 : Heap) (n0 : Nat) (v : Option Value) (h : Heap) (L : List Loc) : Prop := (v = none) ∧ (Fr n0 L) ∧ (h = h0)

theorem own_uci2_1 (l : Launch) (Z : State) (a0 : Array Value) (hw : oT a0 Z) (ws : List Jvm.Cond) (a : Addr) (k : ClassId) (vl : List Value) (sf : Value) (h0 : Heap) (n0 : Nat) (Z0 : n0 ≤ h0.size) (Old0 : Old Z n0 h0) (sF : Sta Z Z.heap "jdk/internal/util/Preconditions" "SIOOBE_FORMATTER" "Ljava/util/function/BiFunction;" sf) (hsf : sf.isRef = true) (V_a : Arv Z h0 a k .byte (4 : Int32) vl (.int 0)) :
    oMet l oM20 jdk_52_method_91_code 2 none ws ⟨2, 0, 0, 27⟩ #[(.int 1), (.ref a)] Z h0 (own_Q_own_uci2_1 Z a k vl sf h0 n0) := by
  refine oB n0 "java/lang/StringUTF16" rfl (plainFor_of_name own_pn730740715) (fun m => own_ef_own_uci2_1 m (1 : Int32) a) ?_
  intro p e s m below meth c s₁ hZ hx hby hlk hret hml hown hnm X0 e0 N0
  show own_Gl _ _ _ _ _ _ _ (s₁.setTop (mkF m 0 #[.val (.int 1), .val (.ref a)] []))
  refine own_st (fun _ k => XS.iloadN X0.here hx rfl (hb hby own_d24_0) rfl k) ?_
  refine own_st (fun _ k => XS.aloadN X0.here hx rfl (hb hby own_d24_1) rfl rfl k) ?_
  obtain ⟨_, _, ⟨T1, L1, k1, n1⟩, -, X1, ⟨Lc1, hQ1, l1, y1, z1⟩, st1⟩ := Jvm.LawKit.callS X0 hx (y := oM18) hown (mvT hZ (oW hw 111 rfl)) (mvT hZ (oW hw 112 rfl)) (mvT hZ (oW hw 47 rfl)) (mvT hZ (oW hw 113 rfl)) (by decide) (backOf (W := 1) (own_ulen2 l Z a0 hw [] a k vl h0 n0 Z0 V_a) hZ (oW hw 113 rfl) (oW hw 47 rfl) (by decide) (by decide)) (g := (mkF m 2 #[.val (.int 1), .val (.ref a)] [(.ref a), (.int 1)])) rfl (by rw [hml]; rfl) (argsL := [(.ref a)]) (rest := [(.int 1)]) (lenOf own_pd985711191 rfl) rfl (by show 2 * 0 + _ ≤ _; exact Nat.le_of_eq rfl) (hb hby own_d24_2) (fun _ _ => ⟨rfl, e0, (by decide : 0 + 0 ≤ 0), (by decide : 0 + 0 ≤ 0)⟩)
  dsimp only [Pt.U, Pt.locs, Pt.cells, Pt.slots] at X1 l1 y1 z1 st1 hQ1
  subst l1 y1 z1
  obtain ⟨hh1, eh01⟩ : ∃ z, T1.heap = z := ⟨_, rfl⟩
  rw [eh01] at hQ1
  obtain ⟨rfl, Nq1, eh1⟩ := hQ1
  have N1 := Fr.app N0 Nq1
  refine own_st st1 ?_
  have e1 : T1.heap = h0 := eh01.trans eh1
  obtain ⟨_, _, ⟨T2, L2, k2, n2⟩, -, X2, ⟨Lc2, hQ2, l2, y2, z2⟩, st2⟩ := Jvm.LawKit.callS X1 hx (y := oM7) hown (mvT hZ (oW hw 114 rfl)) (mvT hZ (oW hw 76 rfl)) (mvT hZ (oW hw 7 rfl)) (mvT hZ (oW hw 77 rfl)) (by decide) (backOf (W := 0) (own_sci l Z a0 hw [] (1 : Int32) (2 : Int32) sf h0 n0 Z0 Old0 sF hsf (by decide) (by decide)) hZ (oW hw 77 rfl) (oW hw 7 rfl) (by decide) (by decide)) (g := (mkF m 5 #[.val (.int 1), .val (.ref a)] [(.int 2), (.int 1)])) rfl (by rw [hml]; rfl) (argsL := [(.int 1), (.int 2)]) (rest := []) (lenOf own_pd945365693 rfl) rfl (by show 2 * 0 + _ ≤ _; exact Nat.le_of_eq rfl) (hb hby own_d24_5) (fun _ _ => ⟨rfl, e1, (by decide : 0 + 0 ≤ 0), (by decide : 0 + 0 ≤ 0)⟩)
  dsimp only [Pt.U, Pt.locs, Pt.cells, Pt.slots] at X2 l2 y2 z2 st2 hQ2
  subst l2 y2 z2
  obtain ⟨hh2, eh02⟩ : ∃ z, T2.heap = z := ⟨_, rfl⟩
  rw [eh02] at hQ2
  obtain ⟨rfl, Nq2, eh2⟩ := hQ2
  have N2 := Fr.app N1 Nq2
  refine own_st st2 ?_
  have e2 : T2.heap = h0 := eh02.trans eh2
  show own_Gl _ _ _ _ _ _ _ (T2.setTop (mkF m 8 #[.val (.int 1), .val (.ref a)] []))
  exact own_retV X2 hx hlk hret (hb hby own_d24_8) e2 ⟨rfl, N2, rfl⟩ (by decide) (by decide)
theorem own_ef_own_uc2_1 (m : MethodId) (x0 : Addr) (x1 : Int32) : entryFrame m #[(.ref x0), (.int x1)] 2 = mkF m 0 #[.val (.ref x0), .val (.int x1)] [] := by first | (simp [entryFrame, mkF, argsToLocals, Value.category]; done) | rfl
def own_Q_own_uc2_1 (Z : State) (a : Addr) (k : ClassId) (sf : Value) (v0 : Int32) (v1 : Int32) (h0 : Heap) (n0 : Nat) (v : Option Value) (h : Heap) (L : List Loc) : Prop := (v = some (.int v1)) ∧ (Fr n0 L) ∧ (h = h0)

theorem own_uc2_1 (l : Launch) (Z : State) (a0 : Array Value) (hw : oT a0 Z) (ws : List Jvm.Cond) (a : Addr) (k : ClassId) (sf : Value) (v0 : Int32) (v1 : Int32) (h0 : Heap) (n0 : Nat) (Z0 : n0 ≤ h0.size) (Old0 : Old Z n0 h0) (sA : Sta Z Z.heap "java/lang/StringUTF16" "$assertionsDisabled" "Z" (.int 1)) (sH : Sta Z Z.heap "java/lang/StringUTF16" "HI_BYTE_SHIFT" "I" (.int 0)) (sL : Sta Z Z.heap "java/lang/StringUTF16" "LO_BYTE_SHIFT" "I" (.int 8)) (sF : Sta Z Z.heap "jdk/internal/util/Preconditions" "SIOOBE_FORMATTER" "Ljava/util/function/BiFunction;" sf) (hsf : sf.isRef = true) (V_a : Arv Z h0 a k .byte (4 : Int32) [(.int (nar .byte ((v0 >>> ((0 : Int32) &&& 31)).toInt8.toInt32))), (.int (nar .byte ((v0 >>> ((8 : Int32) &&& 31)).toInt8.toInt32))), (.int (nar .byte ((v1 >>> ((0 : Int32) &&& 31)).toInt8.toInt32))), (.int (nar .byte ((v1 >>> ((8 : Int32) &&& 31)).toInt8.toInt32)))] (.int 0)) (hr1 : ¬ v1 < (0 : Int32) ∧ ¬ (65535 : Int32) < v1) :
    oMet l oM21 jdk_52_method_83_code 2 (some .char) ws ⟨3, 0, 0, 40⟩ #[(.ref a), (.int 1)] Z h0 (own_Q_own_uc2_1 Z a k sf v0 v1 h0 n0) := by
  refine oB n0 "java/lang/StringUTF16" rfl (plainFor_of_name own_pn730740715) (fun m => own_ef_own_uc2_1 m a (1 : Int32)) ?_
  intro p e s m below meth c s₁ hZ hx hby hlk hret hml hown hnm X0 e0 N0
  show own_Gl _ _ _ _ _ _ _ (s₁.setTop (mkF m 0 #[.val (.ref a), .val (.int 1)] []))
  refine own_st (fun _ k => XS.iloadN X0.here hx rfl (hb hby own_d23_0) rfl k) ?_
  refine own_st (fun _ k => XS.aloadN X0.here hx rfl (hb hby own_d23_1) rfl rfl k) ?_
  obtain ⟨_, _, ⟨T1, L1, k1, n1⟩, -, X1, ⟨Lc1, hQ1, l1, y1, z1⟩, st1⟩ := Jvm.LawKit.callS X0 hx (y := oM20) hown (mvT hZ (oW hw 108 rfl)) (mvT hZ (oW hw 109 rfl)) (mvT hZ (oW hw 47 rfl)) (mvT hZ (oW hw 110 rfl)) (by decide) (backOf (W := 0) (own_uci2_1 l Z a0 hw [] a k [(.int (nar .byte ((v0 >>> ((0 : Int32) &&& 31)).toInt8.toInt32))), (.int (nar .byte ((v0 >>> ((8 : Int32) &&& 31)).toInt8.toInt32))), (.int (nar .byte ((v1 >>> ((0 : Int32) &&& 31)).toInt8.toInt32))), (.int (nar .byte ((v1 >>> ((8 : Int32) &&& 31)).toInt8.toInt32)))] sf h0 n0 Z0 Old0 sF hsf V_a) hZ (oW hw 110 rfl) (oW hw 47 rfl) (by decide) (by decide)) (g := (mkF m 2 #[.val (.ref a), .val (.int 1)] [(.ref a), (.int 1)])) rfl (by rw [hml]; rfl) (argsL := [(.int 1), (.ref a)]) (rest := []) (lenOf own_pd883794637 rfl) rfl (by show 2 * 0 + _ ≤ _; exact Nat.le_of_eq rfl) (hb hby own_d23_2) (fun _ _ => ⟨rfl, e0, (by decide : 0 + 0 ≤ 0), (by decide : 0 + 0 ≤ 0)⟩)
  dsimp only [Pt.U, Pt.locs, Pt.cells, Pt.slots] at X1 l1 y1 z1 st1 hQ1
  subst l1 y1 z1
  obtain ⟨hh1, eh01⟩ : ∃ z, T1.heap = z := ⟨_, rfl⟩
  rw [eh01] at hQ1
  obtain ⟨rfl, Nq1, eh1⟩ := hQ1
  have N1 := Fr.app N0 Nq1
  refine own_st st1 ?_
  have e1 : T1.heap = h0 := eh01.trans eh1
  refine own_st (fun _ k => XS.aloadN X1.here hx rfl (hb hby own_d23_5) rfl rfl k) ?_
  show own_Gl _ _ _ _ _ _ _ (T1.setTop (mkF m 6 #[.val (.ref a), .val (.int 1)] [(.ref a)]))
  refine own_st (fun _ k => XS.iloadN X1.here hx rfl (hb hby own_d23_6) rfl k) ?_
  obtain ⟨_, _, ⟨T2, L2, k2, n2⟩, -, X2, ⟨Lc2, hQ2, l2, y2, z2⟩, st2⟩ := Jvm.LawKit.callS X1 hx (y := oM12) hown (mvT hZ (oW hw 102 rfl)) (mvT hZ (oW hw 103 rfl)) (mvT hZ (oW hw 47 rfl)) (mvT hZ (oW hw 104 rfl)) (by decide) (backOf (W := 0) (own_get2_1 l Z a0 hw [] a k v0 v1 h0 n0 Z0 Old0 sA sH sL V_a hr1) hZ (oW hw 104 rfl) (oW hw 47 rfl) (by decide) (by decide)) (g := (mkF m 7 #[.val (.ref a), .val (.int 1)] [(.int 1), (.ref a)])) rfl (by rw [hml]; rfl) (argsL := [(.ref a), (.int 1)]) (rest := []) (lenOf own_pd128711048 rfl) rfl (by show 2 * 0 + _ ≤ _; exact Nat.le_of_eq rfl) (hb hby own_d23_7) (fun _ _ => ⟨rfl, e1, (by decide : 0 + 0 ≤ 0), (by decide : 0 + 0 ≤ 0)⟩)
  dsimp only [Pt.U, Pt.locs, Pt.cells, Pt.slots] at X2 l2 y2 z2 st2 hQ2
  subst l2 y2 z2
  obtain ⟨hh2, eh02⟩ : ∃ z, T2.heap = z := ⟨_, rfl⟩
  rw [eh02] at hQ2
  obtain ⟨rfl, Nq2, eh2⟩ := hQ2
  have N2 := Fr.app N1 Nq2
  refine own_st st2 ?_
  have e2 : T2.heap = h0 := eh02.trans eh2
  show own_Gl _ _ _ _ _ _ _ (T2.setTop (mkF m 10 #[.val (.ref a), .val (.int 1)] [(.int v1)]))
  exact own_retN X2 hx hlk (t := .char) hret (by simp) (hb hby own_d23_10) e2 ⟨by rw [own_nc _ hr1], N2, rfl⟩ (by decide) (by decide)
theorem own_ef_own_ch2_1_0 (m : MethodId) (x0 : Addr) (x1 : Int32) : entryFrame m #[(.ref x0), (.int x1)] 2 = mkF m 0 #[.val (.ref x0), .val (.int x1)] [] := by first | (simp [entryFrame, mkF, argsToLocals, Value.category]; done) | rfl
def own_Q_own_ch2_1_0 (Z : State) (a : Addr) (b : Addr) (k : ClassId) (sf : Value) (cs : Int32) (v0 : Int32) (v1 : Int32) (h0 : Heap) (n0 : Nat) (v : Option Value) (h : Heap) (L : List Loc) : Prop := (v = some (.int v1)) ∧ (Fr n0 L) ∧ (h = h0)

theorem own_ch2_1_0 (l : Launch) (Z : State) (a0 : Array Value) (hw : oT a0 Z) (ws : List Jvm.Cond) (a : Addr) (b : Addr) (k : ClassId) (sf : Value) (cs : Int32) (v0 : Int32) (v1 : Int32) (h0 : Heap) (n0 : Nat) (Z0 : n0 ≤ h0.size) (Old0 : Old Z n0 h0) (sF : Sta Z Z.heap "jdk/internal/util/Preconditions" "SIOOBE_FORMATTER" "Ljava/util/function/BiFunction;" sf) (hsf : sf.isRef = true) (sC : Sta Z Z.heap "java/lang/String" "COMPACT_STRINGS" "Z" (.int cs)) (hcs : ¬ (cs = (0 : Int32))) (E_a : Exa Z h0 a "java/lang/String") (F_a_value : Fld Z h0 a "java/lang/String" "value" "[B" (.ref b)) (F_a_coder : Fld Z h0 a "java/lang/String" "coder" "B" (.int 0)) (V_b : Arv Z h0 b k .byte (2 : Int32) [(.int (nar .byte (v0.toInt8.toInt32))), (.int (nar .byte (v1.toInt8.toInt32)))] (.int 0)) (hr1 : ¬ v1 < (0 : Int32) ∧ ¬ (255 : Int32) < v1) :
    oMet l oM22 jdk_42_method_56_code 2 (some .char) ws ⟨3, 0, 0, 40⟩ #[(.ref a), (.int 1)] Z h0 (own_Q_own_ch2_1_0 Z a b k sf cs v0 v1 h0 n0) := by
  refine oB n0 "java/lang/String" rfl (plainFor_of_name own_pn853443214) (fun m => own_ef_own_ch2_1_0 m a (1 : Int32)) ?_
  intro p e s m below meth c s₁ hZ hx hby hlk hret hml hown hnm X0 e0 N0
  show own_Gl _ _ _ _ _ _ _ (s₁.setTop (mkF m 0 #[.val (.ref a), .val (.int 1)] []))
  refine own_st (fun _ k => XS.aloadN X0.here hx rfl (hb hby own_d12_0) rfl rfl k) ?_
  obtain ⟨cq1, kq1, q1a, q1b, q1c⟩ := isOf hZ e0 E_a
  obtain ⟨_, _, ⟨T1, L1, k1, n1⟩, -, X1, ⟨Lc1, hQ1, l1, y1, z1⟩, st1⟩ := X0.virtualBack hx (y := oM4) (z := oM4) hown (mvT hZ (oW hw 66 rfl)) (mvT hZ (oW hw 67 rfl)) (notFace_of_selects (args := #[]) (mvT hZ (oW hw 69 rfl))) (mvT hZ (oW hw 69 rfl)) (mvT hZ (oW hw 68 rfl)) (by decide) (backOf (W := 0) (own_lat0 l Z a0 hw [] a cs h0 n0 Z0 F_a_coder Old0 sC hcs) hZ (oW hw 70 rfl) (oW hw 7 rfl) (by decide) (by decide)) q1a q1c (g := (mkF m 1 #[.val (.ref a), .val (.int 1)] [(.ref a)])) rfl (by rw [hml]; rfl) (Steps.refl _) (argsL := []) (rest := []) (lenOf own_pd691901 rfl) rfl (by show 2 * 0 + _ ≤ _; exact Nat.le_of_eq rfl) (hb hby own_d12_1) (fun _ _ => ⟨rfl, e0, (by decide : 0 + 0 ≤ 0), (by decide : 0 + 0 ≤ 0)⟩)
  dsimp only [Pt.U, Pt.locs, Pt.cells, Pt.slots] at X1 l1 y1 z1 st1 hQ1
  subst l1 y1 z1
  obtain ⟨hh1, eh01⟩ : ∃ z, T1.heap = z := ⟨_, rfl⟩
  rw [eh01] at hQ1
  obtain ⟨rfl, Nq1, eh1⟩ := hQ1
  have N1 := Fr.app N0 Nq1
  refine own_tr st1 ?_
  have e1 : T1.heap = h0 := eh01.trans eh1
  have hd2 : ¬ ((1 : Int32) = (0 : Int32)) := (by decide)
  refine own_st (fun _ k => XS.ifNo X1.here hx rfl (hb hby own_d12_4) rfl ((if0 _ _).trans (feq hd2).1) k) ?_
  refine own_st (fun _ k => XS.aloadN X1.here hx rfl (hb hby own_d12_7) rfl rfl k) ?_
  show own_Gl _ _ _ _ _ _ _ (T1.setTop (mkF m 8 #[.val (.ref a), .val (.int 1)] [(.ref a)]))
  obtain ⟨T3, X3, e3, st3⟩ := getF X1 hx hZ hown (host := "") (Or.inl (oW hw 24 rfl)) Via.refl e1 F_a_value (g := (mkF m 8 #[.val (.ref a), .val (.int 1)] [(.ref a)])) rfl rfl (hb hby own_d12_8)
  refine own_st st3 ?_
  refine own_st (fun _ k => XS.iloadN X3.here hx rfl (hb hby own_d12_11) rfl k) ?_
  obtain ⟨_, _, ⟨T4, L4, k4, n4⟩, -, X4, ⟨Lc4, hQ4, l4, y4, z4⟩, st4⟩ := Jvm.LawKit.callS X3 hx (y := oM19) hown (mvT hZ (oW hw 71 rfl)) (mvT hZ (oW hw 72 rfl)) (mvT hZ (oW hw 73 rfl)) (mvT hZ (oW hw 74 rfl)) (by decide) (backOf (W := 0) (own_l1c2_1 l Z a0 hw [] b k sf v0 v1 h0 n0 Z0 Old0 sF hsf V_b hr1) hZ (oW hw 74 rfl) (oW hw 73 rfl) (by decide) (by decide)) (g := (mkF m 12 #[.val (.ref a), .val (.int 1)] [(.int 1), (.ref b)])) rfl (by rw [hml]; rfl) (argsL := [(.ref b), (.int 1)]) (rest := []) (lenOf own_pd128711048 rfl) rfl (by show 2 * 0 + _ ≤ _; exact Nat.le_of_eq rfl) (hb hby own_d12_12) (fun _ _ => ⟨rfl, e3, (by decide : 0 + 0 ≤ 0), (by decide : 0 + 0 ≤ 0)⟩)
  dsimp only [Pt.U, Pt.locs, Pt.cells, Pt.slots] at X4 l4 y4 z4 st4 hQ4
  subst l4 y4 z4
  obtain ⟨hh4, eh04⟩ : ∃ z, T4.heap = z := ⟨_, rfl⟩
  rw [eh04] at hQ4
  obtain ⟨rfl, Nq4, eh4⟩ := hQ4
  have N4 := Fr.app N1 Nq4
  refine own_st st4 ?_
  have e4 : T4.heap = h0 := eh04.trans eh4
  show own_Gl _ _ _ _ _ _ _ (T4.setTop (mkF m 15 #[.val (.ref a), .val (.int 1)] [(.int v1)]))
  exact own_retN X4 hx hlk (t := .char) hret (by simp) (hb hby own_d12_15) e4 ⟨by rw [own_nc _ (own_wide hr1)], N4, rfl⟩ (by decide) (by decide)
theorem own_ef_own_ch2_1_1 (m : MethodId) (x0 : Addr) (x1 : Int32) : entryFrame m #[(.ref x0), (.int x1)] 2 = mkF m 0 #[.val (.ref x0), .val (.int x1)] [] := by first | (simp [entryFrame, mkF, argsToLocals, Value.category]; done) | rfl
def own_Q_own_ch2_1_1 (Z : State) (a : Addr) (b : Addr) (k : ClassId) (sf : Value) (cs : Int32) (v0 : Int32) (v1 : Int32) (h0 : Heap) (n0 : Nat) (v : Option Value) (h : Heap) (L : List Loc) : Prop := (v = some (.int v1)) ∧ (Fr n0 L) ∧ (h = h0)

theorem own_ch2_1_1 (l : Launch) (Z : State) (a0 : Array Value) (hw : oT a0 Z) (ws : List Jvm.Cond) (a : Addr) (b : Addr) (k : ClassId) (sf : Value) (cs : Int32) (v0 : Int32) (v1 : Int32) (h0 : Heap) (n0 : Nat) (Z0 : n0 ≤ h0.size) (Old0 : Old Z n0 h0) (sA : Sta Z Z.heap "java/lang/StringUTF16" "$assertionsDisabled" "Z" (.int 1)) (sH : Sta Z Z.heap "java/lang/StringUTF16" "HI_BYTE_SHIFT" "I" (.int 0)) (sL : Sta Z Z.heap "java/lang/StringUTF16" "LO_BYTE_SHIFT" "I" (.int 8)) (sF : Sta Z Z.heap "jdk/internal/util/Preconditions" "SIOOBE_FORMATTER" "Ljava/util/function/BiFunction;" sf) (hsf : sf.isRef = true) (sC : Sta Z Z.heap "java/lang/String" "COMPACT_STRINGS" "Z" (.int cs)) (hcs : ¬ (cs = (0 : Int32))) (E_a : Exa Z h0 a "java/lang/String") (F_a_value : Fld Z h0 a "java/lang/String" "value" "[B" (.ref b)) (F_a_coder : Fld Z h0 a "java/lang/String" "coder" "B" (.int 1)) (V_b : Arv Z h0 b k .byte (4 : Int32) [(.int (nar .byte ((v0 >>> ((0 : Int32) &&& 31)).toInt8.toInt32))), (.int (nar .byte ((v0 >>> ((8 : Int32) &&& 31)).toInt8.toInt32))), (.int (nar .byte ((v1 >>> ((0 : Int32) &&& 31)).toInt8.toInt32))), (.int (nar .byte ((v1 >>> ((8 : Int32) &&& 31)).toInt8.toInt32)))] (.int 0)) (hr1 : ¬ v1 < (0 : Int32) ∧ ¬ (65535 : Int32) < v1) :
    oMet l oM22 jdk_42_method_56_code 2 (some .char) ws ⟨4, 0, 0, 53⟩ #[(.ref a), (.int 1)] Z h0 (own_Q_own_ch2_1_1 Z a b k sf cs v0 v1 h0 n0) := by
  refine oB n0 "java/lang/String" rfl (plainFor_of_name own_pn853443214) (fun m => own_ef_own_ch2_1_1 m a (1 : Int32)) ?_
  intro p e s m below meth c s₁ hZ hx hby hlk hret hml hown hnm X0 e0 N0
  show own_Gl _ _ _ _ _ _ _ (s₁.setTop (mkF m 0 #[.val (.ref a), .val (.int 1)] []))
  refine own_st (fun _ k => XS.aloadN X0.here hx rfl (hb hby own_d12_0) rfl rfl k) ?_
  obtain ⟨cq1, kq1, q1a, q1b, q1c⟩ := isOf hZ e0 E_a
  obtain ⟨_, _, ⟨T1, L1, k1, n1⟩, -, X1, ⟨Lc1, hQ1, l1, y1, z1⟩, st1⟩ := X0.virtualBack hx (y := oM4) (z := oM4) hown (mvT hZ (oW hw 66 rfl)) (mvT hZ (oW hw 67 rfl)) (notFace_of_selects (args := #[]) (mvT hZ (oW hw 69 rfl))) (mvT hZ (oW hw 69 rfl)) (mvT hZ (oW hw 68 rfl)) (by decide) (backOf (W := 0) (own_lat1 l Z a0 hw [] a cs h0 n0 Z0 F_a_coder Old0 sC hcs) hZ (oW hw 70 rfl) (oW hw 7 rfl) (by decide) (by decide)) q1a q1c (g := (mkF m 1 #[.val (.ref a), .val (.int 1)] [(.ref a)])) rfl (by rw [hml]; rfl) (Steps.refl _) (argsL := []) (rest := []) (lenOf own_pd691901 rfl) rfl (by show 2 * 0 + _ ≤ _; exact Nat.le_of_eq rfl) (hb hby own_d12_1) (fun _ _ => ⟨rfl, e0, (by decide : 0 + 0 ≤ 0), (by decide : 0 + 0 ≤ 0)⟩)
  dsimp only [Pt.U, Pt.locs, Pt.cells, Pt.slots] at X1 l1 y1 z1 st1 hQ1
  subst l1 y1 z1
  obtain ⟨hh1, eh01⟩ : ∃ z, T1.heap = z := ⟨_, rfl⟩
  rw [eh01] at hQ1
  obtain ⟨rfl, Nq1, eh1⟩ := hQ1
  have N1 := Fr.app N0 Nq1
  refine own_tr st1 ?_
  have e1 : T1.heap = h0 := eh01.trans eh1
  have hd2 : (0 : Int32) = (0 : Int32) := (by decide)
  refine own_st (fun _ k => XS.ifYes X1.here hx rfl (pc0 := 4) (pc' := 16) rfl (hb hby own_d12_4) rfl ((if0 _ _).trans (teq hd2).1) (by decide) (by decide) k) ?_
  refine own_st (fun _ k => XS.aloadN X1.here hx rfl (hb hby own_d12_16) rfl rfl k) ?_
  show own_Gl _ _ _ _ _ _ _ (T1.setTop (mkF m 17 #[.val (.ref a), .val (.int 1)] [(.ref a)]))
  obtain ⟨T3, X3, e3, st3⟩ := getF X1 hx hZ hown (host := "") (Or.inl (oW hw 24 rfl)) Via.refl e1 F_a_value (g := (mkF m 17 #[.val (.ref a), .val (.int 1)] [(.ref a)])) rfl rfl (hb hby own_d12_17)
  refine own_st st3 ?_
  refine own_st (fun _ k => XS.iloadN X3.here hx rfl (hb hby own_d12_20) rfl k) ?_
  obtain ⟨_, _, ⟨T4, L4, k4, n4⟩, -, X4, ⟨Lc4, hQ4, l4, y4, z4⟩, st4⟩ := Jvm.LawKit.callS X3 hx (y := oM21) hown (mvT hZ (oW hw 105 rfl)) (mvT hZ (oW hw 106 rfl)) (mvT hZ (oW hw 47 rfl)) (mvT hZ (oW hw 107 rfl)) (by decide) (backOf (W := 0) (own_uc2_1 l Z a0 hw [] b k sf v0 v1 h0 n0 Z0 Old0 sA sH sL sF hsf V_b hr1) hZ (oW hw 107 rfl) (oW hw 47 rfl) (by decide) (by decide)) (g := (mkF m 21 #[.val (.ref a), .val (.int 1)] [(.int 1), (.ref b)])) rfl (by rw [hml]; rfl) (argsL := [(.ref b), (.int 1)]) (rest := []) (lenOf own_pd128711048 rfl) rfl (by show 2 * 0 + _ ≤ _; exact Nat.le_of_eq rfl) (hb hby own_d12_21) (fun _ _ => ⟨rfl, e3, (by decide : 0 + 0 ≤ 0), (by decide : 0 + 0 ≤ 0)⟩)
  dsimp only [Pt.U, Pt.locs, Pt.cells, Pt.slots] at X4 l4 y4 z4 st4 hQ4
  subst l4 y4 z4
  obtain ⟨hh4, eh04⟩ : ∃ z, T4.heap = z := ⟨_, rfl⟩
  rw [eh04] at hQ4
  obtain ⟨rfl, Nq4, eh4⟩ := hQ4
  have N4 := Fr.app N1 Nq4
  refine own_st st4 ?_
  have e4 : T4.heap = h0 := eh04.trans eh4
  show own_Gl _ _ _ _ _ _ _ (T4.setTop (mkF m 24 #[.val (.ref a), .val (.int 1)] [(.int v1)]))
  exact own_retN X4 hx hlk (t := .char) hret (by simp) (hb hby own_d12_24) e4 ⟨by rw [own_nc _ hr1], N4, rfl⟩ (by decide) (by decide)
theorem own_ef_own_iws2_0 (m : MethodId) (x0 : Addr) : entryFrame m #[(.ref x0)] 2 = mkF m 0 #[.val (.ref x0), .unset] [] := by first | (simp [entryFrame, mkF, argsToLocals, Value.category]; done) | rfl
def own_Q_own_iws2_0 (Z : State) (a : Addr) (b : Addr) (k : ClassId) (sf : Value) (cs : Int32) (v0 : Int32) (v1 : Int32) (h0 : Heap) (n0 : Nat) (v : Option Value) (h : Heap) (L : List Loc) : Prop := (v = some (.int (if own_ws v0 = (0 : Int32) then (0 : Int32) else (if own_ws v1 = (0 : Int32) then (0 : Int32) else (1 : Int32))))) ∧ (Fr n0 L) ∧ (h = h0)

theorem own_iws2_0 (l : Launch) (Z : State) (a0 : Array Value) (hw : oT a0 Z) (ws : List Jvm.Cond) (a : Addr) (b : Addr) (k : ClassId) (sf : Value) (cs : Int32) (v0 : Int32) (v1 : Int32) (h0 : Heap) (n0 : Nat) (Z0 : n0 ≤ h0.size) (Old0 : Old Z n0 h0) (sF : Sta Z Z.heap "jdk/internal/util/Preconditions" "SIOOBE_FORMATTER" "Ljava/util/function/BiFunction;" sf) (hsf : sf.isRef = true) (sC : Sta Z Z.heap "java/lang/String" "COMPACT_STRINGS" "Z" (.int cs)) (hcs : ¬ (cs = (0 : Int32))) (E_a : Exa Z h0 a "java/lang/String") (F_a_value : Fld Z h0 a "java/lang/String" "value" "[B" (.ref b)) (F_a_coder : Fld Z h0 a "java/lang/String" "coder" "B" (.int 0)) (V_b : Arv Z h0 b k .byte (2 : Int32) [(.int (nar .byte (v0.toInt8.toInt32))), (.int (nar .byte (v1.toInt8.toInt32)))] (.int 0)) (hr0 : ¬ v0 < (0 : Int32) ∧ ¬ (255 : Int32) < v0) (hr1 : ¬ v1 < (0 : Int32) ∧ ¬ (255 : Int32) < v1) :
    oMet l oM23 prog_157_method_3_code 2 (some .boolean) ws ⟨4, 0, 0, 53⟩ #[(.ref a)] Z h0 (own_Q_own_iws2_0 Z a b k sf cs v0 v1 h0 n0) := by
  refine oB n0 "com/example/brolga/brolga/xml/XmlCharacters" rfl (plainFor_of_name own_pn545058950) (fun m => own_ef_own_iws2_0 m a) ?_
  intro p e s m below meth c s₁ hZ hx hby hlk hret hml hown hnm X0 e0 N0
  show own_Gl _ _ _ _ _ _ _ (s₁.setTop (mkF m 0 #[.val (.ref a), .unset] []))
  refine own_st (fun _ k => XS.iconst X0.here hx rfl (hb hby own_d5_0) k) ?_
  refine own_st (fun _ k => XS.istoreN X0.here hx rfl (hb hby own_d5_1) rfl (l' := #[.val (.ref a), .val (.int 0)]) rfl k) ?_
  refine own_st (fun _ k => XS.iloadN X0.here hx rfl (hb hby own_d5_2) rfl k) ?_
  refine own_st (fun _ k => XS.aloadN X0.here hx rfl (hb hby own_d5_3) rfl rfl k) ?_
  show own_Gl _ _ _ _ _ _ _ (s₁.setTop (mkF m 4 #[.val (.ref a), .val (.int 0)] [(.ref a), (.int 0)]))
  obtain ⟨cq1, kq1, q1a, q1b, q1c⟩ := isOf hZ e0 E_a
  obtain ⟨_, _, ⟨T1, L1, k1, n1⟩, -, X1, ⟨Lc1, hQ1, l1, y1, z1⟩, st1⟩ := X0.interfaceBack hx (xi := oM24) (y := oM5) hown (mvT hZ (oW hw 30 rfl)) (mvT hZ (oW hw 31 rfl)) (mvT hZ (oW hw 32 rfl)) (mvT hZ (oW hw 33 rfl)) (mvT hZ (oW hw 34 rfl)) (mvT hZ (oW hw 35 rfl)) (mvT hZ (oW hw 36 rfl)) (mvT hZ (oW hw 37 rfl)) (by decide) (backOf (W := 1) (own_len2_0 l Z a0 hw [] a b k [(.int (nar .byte (v0.toInt8.toInt32))), (.int (nar .byte (v1.toInt8.toInt32)))] cs h0 n0 Z0 E_a F_a_value F_a_coder V_b Old0 sC hcs) hZ (oW hw 38 rfl) (oW hw 7 rfl) (by decide) (by decide)) q1a q1b q1c (g := (mkF m 4 #[.val (.ref a), .val (.int 0)] [(.ref a), (.int 0)])) rfl (by rw [hml]; rfl) (Steps.refl _) (argsL := []) (rest := [(.int 0)]) (lenOf own_pd691884 rfl) rfl (by show 2 * 0 + _ ≤ _; exact Nat.le_of_eq rfl) (hb hby own_d5_4) (fun _ _ => ⟨rfl, e0, (by decide : 0 + 0 ≤ 0), (by decide : 0 + 0 ≤ 0)⟩)
  dsimp only [Pt.U, Pt.locs, Pt.cells, Pt.slots] at X1 l1 y1 z1 st1 hQ1
  subst l1 y1 z1
  obtain ⟨hh1, eh01⟩ : ∃ z, T1.heap = z := ⟨_, rfl⟩
  rw [eh01] at hQ1
  obtain ⟨rfl, Nq1, eh1⟩ := hQ1
  have N1 := Fr.app N0 Nq1
  refine own_tr st1 ?_
  have e1 : T1.heap = h0 := eh01.trans eh1
  have hd2 : (0 : Int32) < (2 : Int32) := (by decide)
  refine own_st (fun _ k => XS.icmpNo X1.here hx rfl (hb hby own_d5_9) rfl (tlt hd2).2.1 k) ?_
  refine own_st (fun _ k => XS.aloadN X1.here hx rfl (hb hby own_d5_12) rfl rfl k) ?_
  refine own_st (fun _ k => XS.iloadN X1.here hx rfl (hb hby own_d5_13) rfl k) ?_
  show own_Gl _ _ _ _ _ _ _ (T1.setTop (mkF m 14 #[.val (.ref a), .val (.int 0)] [(.int 0), (.ref a)]))
  obtain ⟨cq3, kq3, q3a, q3b, q3c⟩ := isOf hZ e1 E_a
  obtain ⟨_, _, ⟨T3, L3, k3, n3⟩, -, X3, ⟨Lc3, hQ3, l3, y3, z3⟩, st3⟩ := X1.interfaceBack hx (xi := oM25) (y := oM22) hown (mvT hZ (oW hw 58 rfl)) (mvT hZ (oW hw 59 rfl)) (mvT hZ (oW hw 60 rfl)) (mvT hZ (oW hw 61 rfl)) (mvT hZ (oW hw 62 rfl)) (mvT hZ (oW hw 63 rfl)) (mvT hZ (oW hw 64 rfl)) (mvT hZ (oW hw 37 rfl)) (by decide) (backOf (W := 0) (own_ch2_0_0 l Z a0 hw [] a b k sf cs v0 v1 h0 n0 Z0 Old0 sF hsf sC hcs E_a F_a_value F_a_coder V_b hr0) hZ (oW hw 65 rfl) (oW hw 7 rfl) (by decide) (by decide)) q3a q3b q3c (g := (mkF m 14 #[.val (.ref a), .val (.int 0)] [(.int 0), (.ref a)])) rfl (by rw [hml]; rfl) (Steps.refl _) (argsL := [(.int 0)]) (rest := []) (lenOf own_pd91181831 rfl) rfl (by show 2 * 0 + _ ≤ _; exact Nat.le_of_eq rfl) (hb hby own_d5_14) (fun _ _ => ⟨rfl, e1, (by decide : 0 + 0 ≤ 0), (by decide : 0 + 0 ≤ 0)⟩)
  dsimp only [Pt.U, Pt.locs, Pt.cells, Pt.slots] at X3 l3 y3 z3 st3 hQ3
  subst l3 y3 z3
  obtain ⟨hh3, eh03⟩ : ∃ z, T3.heap = z := ⟨_, rfl⟩
  rw [eh03] at hQ3
  obtain ⟨rfl, Nq3, eh3⟩ := hQ3
  have N3 := Fr.app N1 Nq3
  refine own_tr st3 ?_
  have e3 : T3.heap = h0 := eh03.trans eh3
  obtain ⟨_, _, ⟨T4, L4, k4, n4⟩, -, X4, ⟨Lc4, hQ4, l4, y4, z4⟩, st4⟩ := Jvm.LawKit.callS X3 hx (y := oM2) hown (mvT hZ (oW hw 83 rfl)) (mvT hZ (oW hw 84 rfl)) (mvT hZ (oW hw 28 rfl)) (mvT hZ (oW hw 85 rfl)) (by decide) (backOf (W := 0) (own_w2 l Z a0 hw [] v0 h0 n0 Z0 ) hZ (oW hw 85 rfl) (oW hw 28 rfl) (by decide) (by decide)) (g := (mkF m 19 #[.val (.ref a), .val (.int 0)] [(.int v0)])) rfl (by rw [hml]; rfl) (argsL := [(.int v0)]) (rest := []) (lenOf own_pd91078888 rfl) rfl (by show 2 * 0 + _ ≤ _; exact Nat.le_of_eq rfl) (hb hby own_d5_19) (fun _ _ => ⟨rfl, e3, (by decide : 0 + 0 ≤ 0), (by decide : 0 + 0 ≤ 0)⟩)
  dsimp only [Pt.U, Pt.locs, Pt.cells, Pt.slots] at X4 l4 y4 z4 st4 hQ4
  subst l4 y4 z4
  obtain ⟨hh4, eh04⟩ : ∃ z, T4.heap = z := ⟨_, rfl⟩
  rw [eh04] at hQ4
  obtain ⟨rfl, Nq4, eh4⟩ := hQ4
  have N4 := Fr.app N3 Nq4
  refine own_st st4 ?_
  have e4 : T4.heap = h0 := eh04.trans eh4
  by_cases hc22 : (own_ws v0) = (0 : Int32)
  · refine own_st (fun _ k => XS.ifNo X4.here hx rfl (hb hby own_d5_22) rfl ((if0 _ _).trans (teq hc22).2) k) ?_
    refine own_st (fun _ k => XS.iconst X4.here hx rfl (hb hby own_d5_25) k) ?_
    show own_Gl _ _ _ _ _ _ _ (T4.setTop (mkF m 26 #[.val (.ref a), .val (.int 0)] [(.int 0)]))
    exact own_retN X4 hx hlk (t := .boolean) hret (by simp) (hb hby own_d5_26) e4 ⟨by rw [if_pos hc22] <;> rfl, N4, rfl⟩ (by decide) (by decide)
  · refine own_st (fun _ k => XS.ifYes X4.here hx rfl (pc0 := 22) (pc' := 27) rfl (hb hby own_d5_22) rfl ((if0 _ _).trans (feq hc22).2) (by decide) (by decide) k) ?_
    refine own_st (fun _ k => XS.iinc X4.here hx rfl (hb hby own_d5_27) rfl (l' := #[.val (.ref a), .val (.int 1)]) rfl k) ?_
    show own_Gl _ _ _ _ _ _ _ (T4.setTop (mkF m 30 #[.val (.ref a), .val (.int 1)] []))
    refine own_st (fun _ k => XS.goto X4.here hx rfl (pc0 := 30) (pc' := 2) rfl (hb hby own_d5_30) (by decide) (by decide) k) ?_
    refine own_st (fun _ k => XS.iloadN X4.here hx rfl (hb hby own_d5_2) rfl k) ?_
    refine own_st (fun _ k => XS.aloadN X4.here hx rfl (hb hby own_d5_3) rfl rfl k) ?_
    obtain ⟨cq5, kq5, q5a, q5b, q5c⟩ := isOf hZ e4 E_a
    obtain ⟨_, _, ⟨T5, L5, k5, n5⟩, -, X5, ⟨Lc5, hQ5, l5, y5, z5⟩, st5⟩ := X4.interfaceBack hx (xi := oM24) (y := oM5) hown (mvT hZ (oW hw 30 rfl)) (mvT hZ (oW hw 31 rfl)) (mvT hZ (oW hw 32 rfl)) (mvT hZ (oW hw 33 rfl)) (mvT hZ (oW hw 34 rfl)) (mvT hZ (oW hw 35 rfl)) (mvT hZ (oW hw 36 rfl)) (mvT hZ (oW hw 37 rfl)) (by decide) (backOf (W := 1) (own_len2_0 l Z a0 hw [] a b k [(.int (nar .byte (v0.toInt8.toInt32))), (.int (nar .byte (v1.toInt8.toInt32)))] cs h0 n0 Z0 E_a F_a_value F_a_coder V_b Old0 sC hcs) hZ (oW hw 38 rfl) (oW hw 7 rfl) (by decide) (by decide)) q5a q5b q5c (g := (mkF m 4 #[.val (.ref a), .val (.int 1)] [(.ref a), (.int 1)])) rfl (by rw [hml]; rfl) (Steps.refl _) (argsL := []) (rest := [(.int 1)]) (lenOf own_pd691884 rfl) rfl (by show 2 * 0 + _ ≤ _; exact Nat.le_of_eq rfl) (hb hby own_d5_4) (fun _ _ => ⟨rfl, e4, (by decide : 0 + 0 ≤ 0), (by decide : 0 + 0 ≤ 0)⟩)
    dsimp only [Pt.U, Pt.locs, Pt.cells, Pt.slots] at X5 l5 y5 z5 st5 hQ5
    subst l5 y5 z5
    obtain ⟨hh5, eh05⟩ : ∃ z, T5.heap = z := ⟨_, rfl⟩
    rw [eh05] at hQ5
    obtain ⟨rfl, Nq5, eh5⟩ := hQ5
    have N5 := Fr.app N4 Nq5
    refine own_tr st5 ?_
    have e5 : T5.heap = h0 := eh05.trans eh5
    show own_Gl _ _ _ _ _ _ _ (T5.setTop (mkF m 9 #[.val (.ref a), .val (.int 1)] [(.int 2), (.int 1)]))
    have hd6 : (1 : Int32) < (2 : Int32) := (by decide)
    refine own_st (fun _ k => XS.icmpNo X5.here hx rfl (hb hby own_d5_9) rfl (tlt hd6).2.1 k) ?_
    refine own_st (fun _ k => XS.aloadN X5.here hx rfl (hb hby own_d5_12) rfl rfl k) ?_
    refine own_st (fun _ k => XS.iloadN X5.here hx rfl (hb hby own_d5_13) rfl k) ?_
    obtain ⟨cq7, kq7, q7a, q7b, q7c⟩ := isOf hZ e5 E_a
    obtain ⟨_, _, ⟨T7, L7, k7, n7⟩, -, X7, ⟨Lc7, hQ7, l7, y7, z7⟩, st7⟩ := X5.interfaceBack hx (xi := oM25) (y := oM22) hown (mvT hZ (oW hw 58 rfl)) (mvT hZ (oW hw 59 rfl)) (mvT hZ (oW hw 60 rfl)) (mvT hZ (oW hw 61 rfl)) (mvT hZ (oW hw 62 rfl)) (mvT hZ (oW hw 63 rfl)) (mvT hZ (oW hw 64 rfl)) (mvT hZ (oW hw 37 rfl)) (by decide) (backOf (W := 0) (own_ch2_1_0 l Z a0 hw [] a b k sf cs v0 v1 h0 n0 Z0 Old0 sF hsf sC hcs E_a F_a_value F_a_coder V_b hr1) hZ (oW hw 65 rfl) (oW hw 7 rfl) (by decide) (by decide)) q7a q7b q7c (g := (mkF m 14 #[.val (.ref a), .val (.int 1)] [(.int 1), (.ref a)])) rfl (by rw [hml]; rfl) (Steps.refl _) (argsL := [(.int 1)]) (rest := []) (lenOf own_pd91181831 rfl) rfl (by show 2 * 0 + _ ≤ _; exact Nat.le_of_eq rfl) (hb hby own_d5_14) (fun _ _ => ⟨rfl, e5, (by decide : 0 + 0 ≤ 0), (by decide : 0 + 0 ≤ 0)⟩)
    dsimp only [Pt.U, Pt.locs, Pt.cells, Pt.slots] at X7 l7 y7 z7 st7 hQ7
    subst l7 y7 z7
    obtain ⟨hh7, eh07⟩ : ∃ z, T7.heap = z := ⟨_, rfl⟩
    rw [eh07] at hQ7
    obtain ⟨rfl, Nq7, eh7⟩ := hQ7
    have N7 := Fr.app N5 Nq7
    refine own_tr st7 ?_
    have e7 : T7.heap = h0 := eh07.trans eh7
    show own_Gl _ _ _ _ _ _ _ (T7.setTop (mkF m 19 #[.val (.ref a), .val (.int 1)] [(.int v1)]))
    obtain ⟨_, _, ⟨T8, L8, k8, n8⟩, -, X8, ⟨Lc8, hQ8, l8, y8, z8⟩, st8⟩ := Jvm.LawKit.callS X7 hx (y := oM2) hown (mvT hZ (oW hw 83 rfl)) (mvT hZ (oW hw 84 rfl)) (mvT hZ (oW hw 28 rfl)) (mvT hZ (oW hw 85 rfl)) (by decide) (backOf (W := 0) (own_w2 l Z a0 hw [] v1 h0 n0 Z0 ) hZ (oW hw 85 rfl) (oW hw 28 rfl) (by decide) (by decide)) (g := (mkF m 19 #[.val (.ref a), .val (.int 1)] [(.int v1)])) rfl (by rw [hml]; rfl) (argsL := [(.int v1)]) (rest := []) (lenOf own_pd91078888 rfl) rfl (by show 2 * 0 + _ ≤ _; exact Nat.le_of_eq rfl) (hb hby own_d5_19) (fun _ _ => ⟨rfl, e7, (by decide : 0 + 0 ≤ 0), (by decide : 0 + 0 ≤ 0)⟩)
    dsimp only [Pt.U, Pt.locs, Pt.cells, Pt.slots] at X8 l8 y8 z8 st8 hQ8
    subst l8 y8 z8
    obtain ⟨hh8, eh08⟩ : ∃ z, T8.heap = z := ⟨_, rfl⟩
    rw [eh08] at hQ8
    obtain ⟨rfl, Nq8, eh8⟩ := hQ8
    have N8 := Fr.app N7 Nq8
    refine own_st st8 ?_
    have e8 : T8.heap = h0 := eh08.trans eh8
    by_cases hc22_9 : (own_ws v1) = (0 : Int32)
    · refine own_st (fun _ k => XS.ifNo X8.here hx rfl (hb hby own_d5_22) rfl ((if0 _ _).trans (teq hc22_9).2) k) ?_
      refine own_st (fun _ k => XS.iconst X8.here hx rfl (hb hby own_d5_25) k) ?_
      show own_Gl _ _ _ _ _ _ _ (T8.setTop (mkF m 26 #[.val (.ref a), .val (.int 1)] [(.int 0)]))
      exact own_retN X8 hx hlk (t := .boolean) hret (by simp) (hb hby own_d5_26) e8 ⟨by rw [if_neg hc22, if_pos hc22_9] <;> rfl, N8, rfl⟩ (by decide) (by decide)
    · refine own_st (fun _ k => XS.ifYes X8.here hx rfl (pc0 := 22) (pc' := 27) rfl (hb hby own_d5_22) rfl ((if0 _ _).trans (feq hc22_9).2) (by decide) (by decide) k) ?_
      refine own_st (fun _ k => XS.iinc X8.here hx rfl (hb hby own_d5_27) rfl (l' := #[.val (.ref a), .val (.int 2)]) rfl k) ?_
      refine own_st (fun _ k => XS.goto X8.here hx rfl (pc0 := 30) (pc' := 2) rfl (hb hby own_d5_30) (by decide) (by decide) k) ?_
      show own_Gl _ _ _ _ _ _ _ (T8.setTop (mkF m 2 #[.val (.ref a), .val (.int 2)] []))
      refine own_st (fun _ k => XS.iloadN X8.here hx rfl (hb hby own_d5_2) rfl k) ?_
      refine own_st (fun _ k => XS.aloadN X8.here hx rfl (hb hby own_d5_3) rfl rfl k) ?_
      obtain ⟨cq10, kq10, q10a, q10b, q10c⟩ := isOf hZ e8 E_a
      obtain ⟨_, _, ⟨T10, L10, k10, n10⟩, -, X10, ⟨Lc10, hQ10, l10, y10, z10⟩, st10⟩ := X8.interfaceBack hx (xi := oM24) (y := oM5) hown (mvT hZ (oW hw 30 rfl)) (mvT hZ (oW hw 31 rfl)) (mvT hZ (oW hw 32 rfl)) (mvT hZ (oW hw 33 rfl)) (mvT hZ (oW hw 34 rfl)) (mvT hZ (oW hw 35 rfl)) (mvT hZ (oW hw 36 rfl)) (mvT hZ (oW hw 37 rfl)) (by decide) (backOf (W := 1) (own_len2_0 l Z a0 hw [] a b k [(.int (nar .byte (v0.toInt8.toInt32))), (.int (nar .byte (v1.toInt8.toInt32)))] cs h0 n0 Z0 E_a F_a_value F_a_coder V_b Old0 sC hcs) hZ (oW hw 38 rfl) (oW hw 7 rfl) (by decide) (by decide)) q10a q10b q10c (g := (mkF m 4 #[.val (.ref a), .val (.int 2)] [(.ref a), (.int 2)])) rfl (by rw [hml]; rfl) (Steps.refl _) (argsL := []) (rest := [(.int 2)]) (lenOf own_pd691884 rfl) rfl (by show 2 * 0 + _ ≤ _; exact Nat.le_of_eq rfl) (hb hby own_d5_4) (fun _ _ => ⟨rfl, e8, (by decide : 0 + 0 ≤ 0), (by decide : 0 + 0 ≤ 0)⟩)
      dsimp only [Pt.U, Pt.locs, Pt.cells, Pt.slots] at X10 l10 y10 z10 st10 hQ10
      subst l10 y10 z10
      obtain ⟨hh10, eh010⟩ : ∃ z, T10.heap = z := ⟨_, rfl⟩
      rw [eh010] at hQ10
      obtain ⟨rfl, Nq10, eh10⟩ := hQ10
      have N10 := Fr.app N8 Nq10
      refine own_tr st10 ?_
      have e10 : T10.heap = h0 := eh010.trans eh10
      have hd11 : ¬ ((2 : Int32) < (2 : Int32)) := (by decide)
      refine own_st (fun _ k => XS.icmpYes X10.here hx rfl (pc0 := 9) (pc' := 33) rfl (hb hby own_d5_9) rfl (flt hd11).2.1 (by decide) (by decide) k) ?_
      show own_Gl _ _ _ _ _ _ _ (T10.setTop (mkF m 33 #[.val (.ref a), .val (.int 2)] []))
      refine own_st (fun _ k => XS.iconst X10.here hx rfl (hb hby own_d5_33) k) ?_
      show own_Gl _ _ _ _ _ _ _ (T10.setTop (mkF m 34 #[.val (.ref a), .val (.int 2)] [(.int 1)]))
      exact own_retN X10 hx hlk (t := .boolean) hret (by simp) (hb hby own_d5_34) e10 ⟨by rw [if_neg hc22, if_neg hc22_9] <;> rfl, N10, rfl⟩ (by decide) (by decide)
theorem own_ef_own_iws2_1 (m : MethodId) (x0 : Addr) : entryFrame m #[(.ref x0)] 2 = mkF m 0 #[.val (.ref x0), .unset] [] := by first | (simp [entryFrame, mkF, argsToLocals, Value.category]; done) | rfl
def own_Q_own_iws2_1 (Z : State) (a : Addr) (b : Addr) (k : ClassId) (sf : Value) (cs : Int32) (v0 : Int32) (v1 : Int32) (h0 : Heap) (n0 : Nat) (v : Option Value) (h : Heap) (L : List Loc) : Prop := (v = some (.int (if own_ws v0 = (0 : Int32) then (0 : Int32) else (if own_ws v1 = (0 : Int32) then (0 : Int32) else (1 : Int32))))) ∧ (Fr n0 L) ∧ (h = h0)

theorem own_iws2_1 (l : Launch) (Z : State) (a0 : Array Value) (hw : oT a0 Z) (ws : List Jvm.Cond) (a : Addr) (b : Addr) (k : ClassId) (sf : Value) (cs : Int32) (v0 : Int32) (v1 : Int32) (h0 : Heap) (n0 : Nat) (Z0 : n0 ≤ h0.size) (Old0 : Old Z n0 h0) (sA : Sta Z Z.heap "java/lang/StringUTF16" "$assertionsDisabled" "Z" (.int 1)) (sH : Sta Z Z.heap "java/lang/StringUTF16" "HI_BYTE_SHIFT" "I" (.int 0)) (sL : Sta Z Z.heap "java/lang/StringUTF16" "LO_BYTE_SHIFT" "I" (.int 8)) (sF : Sta Z Z.heap "jdk/internal/util/Preconditions" "SIOOBE_FORMATTER" "Ljava/util/function/BiFunction;" sf) (hsf : sf.isRef = true) (sC : Sta Z Z.heap "java/lang/String" "COMPACT_STRINGS" "Z" (.int cs)) (hcs : ¬ (cs = (0 : Int32))) (E_a : Exa Z h0 a "java/lang/String") (F_a_value : Fld Z h0 a "java/lang/String" "value" "[B" (.ref b)) (F_a_coder : Fld Z h0 a "java/lang/String" "coder" "B" (.int 1)) (V_b : Arv Z h0 b k .byte (4 : Int32) [(.int (nar .byte ((v0 >>> ((0 : Int32) &&& 31)).toInt8.toInt32))), (.int (nar .byte ((v0 >>> ((8 : Int32) &&& 31)).toInt8.toInt32))), (.int (nar .byte ((v1 >>> ((0 : Int32) &&& 31)).toInt8.toInt32))), (.int (nar .byte ((v1 >>> ((8 : Int32) &&& 31)).toInt8.toInt32)))] (.int 0)) (hr0 : ¬ v0 < (0 : Int32) ∧ ¬ (65535 : Int32) < v0) (hr1 : ¬ v1 < (0 : Int32) ∧ ¬ (65535 : Int32) < v1) :
    oMet l oM23 prog_157_method_3_code 2 (some .boolean) ws ⟨5, 0, 0, 66⟩ #[(.ref a)] Z h0 (own_Q_own_iws2_1 Z a b k sf cs v0 v1 h0 n0) := by
  refine oB n0 "com/example/brolga/brolga/xml/XmlCharacters" rfl (plainFor_of_name own_pn545058950) (fun m => own_ef_own_iws2_1 m a) ?_
  intro p e s m below meth c s₁ hZ hx hby hlk hret hml hown hnm X0 e0 N0
  show own_Gl _ _ _ _ _ _ _ (s₁.setTop (mkF m 0 #[.val (.ref a), .unset] []))
  refine own_st (fun _ k => XS.iconst X0.here hx rfl (hb hby own_d5_0) k) ?_
  refine own_st (fun _ k => XS.istoreN X0.here hx rfl (hb hby own_d5_1) rfl (l' := #[.val (.ref a), .val (.int 0)]) rfl k) ?_
  refine own_st (fun _ k => XS.iloadN X0.here hx rfl (hb hby own_d5_2) rfl k) ?_
  refine own_st (fun _ k => XS.aloadN X0.here hx rfl (hb hby own_d5_3) rfl rfl k) ?_
  show own_Gl _ _ _ _ _ _ _ (s₁.setTop (mkF m 4 #[.val (.ref a), .val (.int 0)] [(.ref a), (.int 0)]))
  obtain ⟨cq1, kq1, q1a, q1b, q1c⟩ := isOf hZ e0 E_a
  obtain ⟨_, _, ⟨T1, L1, k1, n1⟩, -, X1, ⟨Lc1, hQ1, l1, y1, z1⟩, st1⟩ := X0.interfaceBack hx (xi := oM24) (y := oM5) hown (mvT hZ (oW hw 30 rfl)) (mvT hZ (oW hw 31 rfl)) (mvT hZ (oW hw 32 rfl)) (mvT hZ (oW hw 33 rfl)) (mvT hZ (oW hw 34 rfl)) (mvT hZ (oW hw 35 rfl)) (mvT hZ (oW hw 36 rfl)) (mvT hZ (oW hw 37 rfl)) (by decide) (backOf (W := 1) (own_len2_1 l Z a0 hw [] a b k [(.int (nar .byte ((v0 >>> ((0 : Int32) &&& 31)).toInt8.toInt32))), (.int (nar .byte ((v0 >>> ((8 : Int32) &&& 31)).toInt8.toInt32))), (.int (nar .byte ((v1 >>> ((0 : Int32) &&& 31)).toInt8.toInt32))), (.int (nar .byte ((v1 >>> ((8 : Int32) &&& 31)).toInt8.toInt32)))] cs h0 n0 Z0 E_a F_a_value F_a_coder V_b Old0 sC hcs) hZ (oW hw 38 rfl) (oW hw 7 rfl) (by decide) (by decide)) q1a q1b q1c (g := (mkF m 4 #[.val (.ref a), .val (.int 0)] [(.ref a), (.int 0)])) rfl (by rw [hml]; rfl) (Steps.refl _) (argsL := []) (rest := [(.int 0)]) (lenOf own_pd691884 rfl) rfl (by show 2 * 0 + _ ≤ _; exact Nat.le_of_eq rfl) (hb hby own_d5_4) (fun _ _ => ⟨rfl, e0, (by decide : 0 + 0 ≤ 0), (by decide : 0 + 0 ≤ 0)⟩)
  dsimp only [Pt.U, Pt.locs, Pt.cells, Pt.slots] at X1 l1 y1 z1 st1 hQ1
  subst l1 y1 z1
  obtain ⟨hh1, eh01⟩ : ∃ z, T1.heap = z := ⟨_, rfl⟩
  rw [eh01] at hQ1
  obtain ⟨rfl, Nq1, eh1⟩ := hQ1
  have N1 := Fr.app N0 Nq1
  refine own_tr st1 ?_
  have e1 : T1.heap = h0 := eh01.trans eh1
  have hd2 : (0 : Int32) < (2 : Int32) := (by decide)
  refine own_st (fun _ k => XS.icmpNo X1.here hx rfl (hb hby own_d5_9) rfl (tlt hd2).2.1 k) ?_
  refine own_st (fun _ k => XS.aloadN X1.here hx rfl (hb hby own_d5_12) rfl rfl k) ?_
  refine own_st (fun _ k => XS.iloadN X1.here hx rfl (hb hby own_d5_13) rfl k) ?_
  show own_Gl _ _ _ _ _ _ _ (T1.setTop (mkF m 14 #[.val (.ref a), .val (.int 0)] [(.int 0), (.ref a)]))
  obtain ⟨cq3, kq3, q3a, q3b, q3c⟩ := isOf hZ e1 E_a
  obtain ⟨_, _, ⟨T3, L3, k3, n3⟩, -, X3, ⟨Lc3, hQ3, l3, y3, z3⟩, st3⟩ := X1.interfaceBack hx (xi := oM25) (y := oM22) hown (mvT hZ (oW hw 58 rfl)) (mvT hZ (oW hw 59 rfl)) (mvT hZ (oW hw 60 rfl)) (mvT hZ (oW hw 61 rfl)) (mvT hZ (oW hw 62 rfl)) (mvT hZ (oW hw 63 rfl)) (mvT hZ (oW hw 64 rfl)) (mvT hZ (oW hw 37 rfl)) (by decide) (backOf (W := 0) (own_ch2_0_1 l Z a0 hw [] a b k sf cs v0 v1 h0 n0 Z0 Old0 sA sH sL sF hsf sC hcs E_a F_a_value F_a_coder V_b hr0) hZ (oW hw 65 rfl) (oW hw 7 rfl) (by decide) (by decide)) q3a q3b q3c (g := (mkF m 14 #[.val (.ref a), .val (.int 0)] [(.int 0), (.ref a)])) rfl (by rw [hml]; rfl) (Steps.refl _) (argsL := [(.int 0)]) (rest := []) (lenOf own_pd91181831 rfl) rfl (by show 2 * 0 + _ ≤ _; exact Nat.le_of_eq rfl) (hb hby own_d5_14) (fun _ _ => ⟨rfl, e1, (by decide : 0 + 0 ≤ 0), (by decide : 0 + 0 ≤ 0)⟩)
  dsimp only [Pt.U, Pt.locs, Pt.cells, Pt.slots] at X3 l3 y3 z3 st3 hQ3
  subst l3 y3 z3
  obtain ⟨hh3, eh03⟩ : ∃ z, T3.heap = z := ⟨_, rfl⟩
  rw [eh03] at hQ3
  obtain ⟨rfl, Nq3, eh3⟩ := hQ3
  have N3 := Fr.app N1 Nq3
  refine own_tr st3 ?_
  have e3 : T3.heap = h0 := eh03.trans eh3
  obtain ⟨_, _, ⟨T4, L4, k4, n4⟩, -, X4, ⟨Lc4, hQ4, l4, y4, z4⟩, st4⟩ := Jvm.LawKit.callS X3 hx (y := oM2) hown (mvT hZ (oW hw 83 rfl)) (mvT hZ (oW hw 84 rfl)) (mvT hZ (oW hw 28 rfl)) (mvT hZ (oW hw 85 rfl)) (by decide) (backOf (W := 0) (own_w2 l Z a0 hw [] v0 h0 n0 Z0 ) hZ (oW hw 85 rfl) (oW hw 28 rfl) (by decide) (by decide)) (g := (mkF m 19 #[.val (.ref a), .val (.int 0)] [(.int v0)])) rfl (by rw [hml]; rfl) (argsL := [(.int v0)]) (rest := []) (lenOf own_pd91078888 rfl) rfl (by show 2 * 0 + _ ≤ _; exact Nat.le_of_eq rfl) (hb hby own_d5_19) (fun _ _ => ⟨rfl, e3, (by decide : 0 + 0 ≤ 0), (by decide : 0 + 0 ≤ 0)⟩)
  dsimp only [Pt.U, Pt.locs, Pt.cells, Pt.slots] at X4 l4 y4 z4 st4 hQ4
  subst l4 y4 z4
  obtain ⟨hh4, eh04⟩ : ∃ z, T4.heap = z := ⟨_, rfl⟩
  rw [eh04] at hQ4
  obtain ⟨rfl, Nq4, eh4⟩ := hQ4
  have N4 := Fr.app N3 Nq4
  refine own_st st4 ?_
  have e4 : T4.heap = h0 := eh04.trans eh4
  by_cases hc22 : (own_ws v0) = (0 : Int32)
  · refine own_st (fun _ k => XS.ifNo X4.here hx rfl (hb hby own_d5_22) rfl ((if0 _ _).trans (teq hc22).2) k) ?_
    refine own_st (fun _ k => XS.iconst X4.here hx rfl (hb hby own_d5_25) k) ?_
    show own_Gl _ _ _ _ _ _ _ (T4.setTop (mkF m 26 #[.val (.ref a), .val (.int 0)] [(.int 0)]))
    exact own_retN X4 hx hlk (t := .boolean) hret (by simp) (hb hby own_d5_26) e4 ⟨by rw [if_pos hc22] <;> rfl, N4, rfl⟩ (by decide) (by decide)
  · refine own_st (fun _ k => XS.ifYes X4.here hx rfl (pc0 := 22) (pc' := 27) rfl (hb hby own_d5_22) rfl ((if0 _ _).trans (feq hc22).2) (by decide) (by decide) k) ?_
    refine own_st (fun _ k => XS.iinc X4.here hx rfl (hb hby own_d5_27) rfl (l' := #[.val (.ref a), .val (.int 1)]) rfl k) ?_
    show own_Gl _ _ _ _ _ _ _ (T4.setTop (mkF m 30 #[.val (.ref a), .val (.int 1)] []))
    refine own_st (fun _ k => XS.goto X4.here hx rfl (pc0 := 30) (pc' := 2) rfl (hb hby own_d5_30) (by decide) (by decide) k) ?_
    refine own_st (fun _ k => XS.iloadN X4.here hx rfl (hb hby own_d5_2) rfl k) ?_
    refine own_st (fun _ k => XS.aloadN X4.here hx rfl (hb hby own_d5_3) rfl rfl k) ?_
    obtain ⟨cq5, kq5, q5a, q5b, q5c⟩ := isOf hZ e4 E_a
    obtain ⟨_, _, ⟨T5, L5, k5, n5⟩, -, X5, ⟨Lc5, hQ5, l5, y5, z5⟩, st5⟩ := X4.interfaceBack hx (xi := oM24) (y := oM5) hown (mvT hZ (oW hw 30 rfl)) (mvT hZ (oW hw 31 rfl)) (mvT hZ (oW hw 32 rfl)) (mvT hZ (oW hw 33 rfl)) (mvT hZ (oW hw 34 rfl)) (mvT hZ (oW hw 35 rfl)) (mvT hZ (oW hw 36 rfl)) (mvT hZ (oW hw 37 rfl)) (by decide) (backOf (W := 1) (own_len2_1 l Z a0 hw [] a b k [(.int (nar .byte ((v0 >>> ((0 : Int32) &&& 31)).toInt8.toInt32))), (.int (nar .byte ((v0 >>> ((8 : Int32) &&& 31)).toInt8.toInt32))), (.int (nar .byte ((v1 >>> ((0 : Int32) &&& 31)).toInt8.toInt32))), (.int (nar .byte ((v1 >>> ((8 : Int32) &&& 31)).toInt8.toInt32)))] cs h0 n0 Z0 E_a F_a_value F_a_coder V_b Old0 sC hcs) hZ (oW hw 38 rfl) (oW hw 7 rfl) (by decide) (by decide)) q5a q5b q5c (g := (mkF m 4 #[.val (.ref a), .val (.int 1)] [(.ref a), (.int 1)])) rfl (by rw [hml]; rfl) (Steps.refl _) (argsL := []) (rest := [(.int 1)]) (lenOf own_pd691884 rfl) rfl (by show 2 * 0 + _ ≤ _; exact Nat.le_of_eq rfl) (hb hby own_d5_4) (fun _ _ => ⟨rfl, e4, (by decide : 0 + 0 ≤ 0), (by decide : 0 + 0 ≤ 0)⟩)
    dsimp only [Pt.U, Pt.locs, Pt.cells, Pt.slots] at X5 l5 y5 z5 st5 hQ5
    subst l5 y5 z5
    obtain ⟨hh5, eh05⟩ : ∃ z, T5.heap = z := ⟨_, rfl⟩
    rw [eh05] at hQ5
    obtain ⟨rfl, Nq5, eh5⟩ := hQ5
    have N5 := Fr.app N4 Nq5
    refine own_tr st5 ?_
    have e5 : T5.heap = h0 := eh05.trans eh5
    show own_Gl _ _ _ _ _ _ _ (T5.setTop (mkF m 9 #[.val (.ref a), .val (.int 1)] [(.int 2), (.int 1)]))
    have hd6 : (1 : Int32) < (2 : Int32) := (by decide)
    refine own_st (fun _ k => XS.icmpNo X5.here hx rfl (hb hby own_d5_9) rfl (tlt hd6).2.1 k) ?_
    refine own_st (fun _ k => XS.aloadN X5.here hx rfl (hb hby own_d5_12) rfl rfl k) ?_
    refine own_st (fun _ k => XS.iloadN X5.here hx rfl (hb hby own_d5_13) rfl k) ?_
    obtain ⟨cq7, kq7, q7a, q7b, q7c⟩ := isOf hZ e5 E_a
    obtain ⟨_, _, ⟨T7, L7, k7, n7⟩, -, X7, ⟨Lc7, hQ7, l7, y7, z7⟩, st7⟩ := X5.interfaceBack hx (xi := oM25) (y := oM22) hown (mvT hZ (oW hw 58 rfl)) (mvT hZ (oW hw 59 rfl)) (mvT hZ (oW hw 60 rfl)) (mvT hZ (oW hw 61 rfl)) (mvT hZ (oW hw 62 rfl)) (mvT hZ (oW hw 63 rfl)) (mvT hZ (oW hw 64 rfl)) (mvT hZ (oW hw 37 rfl)) (by decide) (backOf (W := 0) (own_ch2_1_1 l Z a0 hw [] a b k sf cs v0 v1 h0 n0 Z0 Old0 sA sH sL sF hsf sC hcs E_a F_a_value F_a_coder V_b hr1) hZ (oW hw 65 rfl) (oW hw 7 rfl) (by decide) (by decide)) q7a q7b q7c (g := (mkF m 14 #[.val (.ref a), .val (.int 1)] [(.int 1), (.ref a)])) rfl (by rw [hml]; rfl) (Steps.refl _) (argsL := [(.int 1)]) (rest := []) (lenOf own_pd91181831 rfl) rfl (by show 2 * 0 + _ ≤ _; exact Nat.le_of_eq rfl) (hb hby own_d5_14) (fun _ _ => ⟨rfl, e5, (by decide : 0 + 0 ≤ 0), (by decide : 0 + 0 ≤ 0)⟩)
    dsimp only [Pt.U, Pt.locs, Pt.cells, Pt.slots] at X7 l7 y7 z7 st7 hQ7
    subst l7 y7 z7
    obtain ⟨hh7, eh07⟩ : ∃ z, T7.heap = z := ⟨_, rfl⟩
    rw [eh07] at hQ7
    obtain ⟨rfl, Nq7, eh7⟩ := hQ7
    have N7 := Fr.app N5 Nq7
    refine own_tr st7 ?_
    have e7 : T7.heap = h0 := eh07.trans eh7
    show own_Gl _ _ _ _ _ _ _ (T7.setTop (mkF m 19 #[.val (.ref a), .val (.int 1)] [(.int v1)]))
    obtain ⟨_, _, ⟨T8, L8, k8, n8⟩, -, X8, ⟨Lc8, hQ8, l8, y8, z8⟩, st8⟩ := Jvm.LawKit.callS X7 hx (y := oM2) hown (mvT hZ (oW hw 83 rfl)) (mvT hZ (oW hw 84 rfl)) (mvT hZ (oW hw 28 rfl)) (mvT hZ (oW hw 85 rfl)) (by decide) (backOf (W := 0) (own_w2 l Z a0 hw [] v1 h0 n0 Z0 ) hZ (oW hw 85 rfl) (oW hw 28 rfl) (by decide) (by decide)) (g := (mkF m 19 #[.val (.ref a), .val (.int 1)] [(.int v1)])) rfl (by rw [hml]; rfl) (argsL := [(.int v1)]) (rest := []) (lenOf own_pd91078888 rfl) rfl (by show 2 * 0 + _ ≤ _; exact Nat.le_of_eq rfl) (hb hby own_d5_19) (fun _ _ => ⟨rfl, e7, (by decide : 0 + 0 ≤ 0), (by decide : 0 + 0 ≤ 0)⟩)
    dsimp only [Pt.U, Pt.locs, Pt.cells, Pt.slots] at X8 l8 y8 z8 st8 hQ8
    subst l8 y8 z8
    obtain ⟨hh8, eh08⟩ : ∃ z, T8.heap = z := ⟨_, rfl⟩
    rw [eh08] at hQ8
    obtain ⟨rfl, Nq8, eh8⟩ := hQ8
    have N8 := Fr.app N7 Nq8
    refine own_st st8 ?_
    have e8 : T8.heap = h0 := eh08.trans eh8
    by_cases hc22_9 : (own_ws v1) = (0 : Int32)
    · refine own_st (fun _ k => XS.ifNo X8.here hx rfl (hb hby own_d5_22) rfl ((if0 _ _).trans (teq hc22_9).2) k) ?_
      refine own_st (fun _ k => XS.iconst X8.here hx rfl (hb hby own_d5_25) k) ?_
      show own_Gl _ _ _ _ _ _ _ (T8.setTop (mkF m 26 #[.val (.ref a), .val (.int 1)] [(.int 0)]))
      exact own_retN X8 hx hlk (t := .boolean) hret (by simp) (hb hby own_d5_26) e8 ⟨by rw [if_neg hc22, if_pos hc22_9] <;> rfl, N8, rfl⟩ (by decide) (by decide)
    · refine own_st (fun _ k => XS.ifYes X8.here hx rfl (pc0 := 22) (pc' := 27) rfl (hb hby own_d5_22) rfl ((if0 _ _).trans (feq hc22_9).2) (by decide) (by decide) k) ?_
      refine own_st (fun _ k => XS.iinc X8.here hx rfl (hb hby own_d5_27) rfl (l' := #[.val (.ref a), .val (.int 2)]) rfl k) ?_
      refine own_st (fun _ k => XS.goto X8.here hx rfl (pc0 := 30) (pc' := 2) rfl (hb hby own_d5_30) (by decide) (by decide) k) ?_
      show own_Gl _ _ _ _ _ _ _ (T8.setTop (mkF m 2 #[.val (.ref a), .val (.int 2)] []))
      refine own_st (fun _ k => XS.iloadN X8.here hx rfl (hb hby own_d5_2) rfl k) ?_
      refine own_st (fun _ k => XS.aloadN X8.here hx rfl (hb hby own_d5_3) rfl rfl k) ?_
      obtain ⟨cq10, kq10, q10a, q10b, q10c⟩ := isOf hZ e8 E_a
      obtain ⟨_, _, ⟨T10, L10, k10, n10⟩, -, X10, ⟨Lc10, hQ10, l10, y10, z10⟩, st10⟩ := X8.interfaceBack hx (xi := oM24) (y := oM5) hown (mvT hZ (oW hw 30 rfl)) (mvT hZ (oW hw 31 rfl)) (mvT hZ (oW hw 32 rfl)) (mvT hZ (oW hw 33 rfl)) (mvT hZ (oW hw 34 rfl)) (mvT hZ (oW hw 35 rfl)) (mvT hZ (oW hw 36 rfl)) (mvT hZ (oW hw 37 rfl)) (by decide) (backOf (W := 1) (own_len2_1 l Z a0 hw [] a b k [(.int (nar .byte ((v0 >>> ((0 : Int32) &&& 31)).toInt8.toInt32))), (.int (nar .byte ((v0 >>> ((8 : Int32) &&& 31)).toInt8.toInt32))), (.int (nar .byte ((v1 >>> ((0 : Int32) &&& 31)).toInt8.toInt32))), (.int (nar .byte ((v1 >>> ((8 : Int32) &&& 31)).toInt8.toInt32)))] cs h0 n0 Z0 E_a F_a_value F_a_coder V_b Old0 sC hcs) hZ (oW hw 38 rfl) (oW hw 7 rfl) (by decide) (by decide)) q10a q10b q10c (g := (mkF m 4 #[.val (.ref a), .val (.int 2)] [(.ref a), (.int 2)])) rfl (by rw [hml]; rfl) (Steps.refl _) (argsL := []) (rest := [(.int 2)]) (lenOf own_pd691884 rfl) rfl (by show 2 * 0 + _ ≤ _; exact Nat.le_of_eq rfl) (hb hby own_d5_4) (fun _ _ => ⟨rfl, e8, (by decide : 0 + 0 ≤ 0), (by decide : 0 + 0 ≤ 0)⟩)
      dsimp only [Pt.U, Pt.locs, Pt.cells, Pt.slots] at X10 l10 y10 z10 st10 hQ10
      subst l10 y10 z10
      obtain ⟨hh10, eh010⟩ : ∃ z, T10.heap = z := ⟨_, rfl⟩
      rw [eh010] at hQ10
      obtain ⟨rfl, Nq10, eh10⟩ := hQ10
      have N10 := Fr.app N8 Nq10
      refine own_tr st10 ?_
      have e10 : T10.heap = h0 := eh010.trans eh10
      have hd11 : ¬ ((2 : Int32) < (2 : Int32)) := (by decide)
      refine own_st (fun _ k => XS.icmpYes X10.here hx rfl (pc0 := 9) (pc' := 33) rfl (hb hby own_d5_9) rfl (flt hd11).2.1 (by decide) (by decide) k) ?_
      show own_Gl _ _ _ _ _ _ _ (T10.setTop (mkF m 33 #[.val (.ref a), .val (.int 2)] []))
      refine own_st (fun _ k => XS.iconst X10.here hx rfl (hb hby own_d5_33) k) ?_
      show own_Gl _ _ _ _ _ _ _ (T10.setTop (mkF m 34 #[.val (.ref a), .val (.int 2)] [(.int 1)]))
      exact own_retN X10 hx hlk (t := .boolean) hret (by simp) (hb hby own_d5_34) e10 ⟨by rw [if_neg hc22, if_neg hc22_9] <;> rfl, N10, rfl⟩ (by decide) (by decide)
theorem own_ef_own_nbl3 (m : MethodId) (x0 : Int32) : entryFrame m #[(.int x0)] 1 = mkF m 0 #[.val (.int x0)] [] := by first | (simp [entryFrame, mkF, argsToLocals, Value.category]; done) | rfl
def own_Q_own_nbl3 (Z : State)  (h0 : Heap) (n0 : Nat) (v : Option Value) (h : Heap) (L : List Loc) : Prop := (v = some (.int 6)) ∧ (Fr n0 L) ∧ (h = h0)

theorem own_nbl3 (l : Launch) (Z : State) (a0 : Array Value) (hw : oT a0 Z) (ws : List Jvm.Cond)  (h0 : Heap) (n0 : Nat) (Z0 : n0 ≤ h0.size) :
    oMet l oM8 jdk_52_method_3_code 1 (some .int) ws ⟨0, 0, 0, 0⟩ #[(.int 3)] Z h0 (own_Q_own_nbl3 Z  h0 n0) := by
  refine oB n0 "java/lang/StringUTF16" rfl (plainFor_of_name own_pn730740715) (fun m => own_ef_own_nbl3 m (3 : Int32)) ?_
  intro p e s m below meth c s₁ hZ hx hby hlk hret hml hown hnm X0 e0 N0
  show own_Gl _ _ _ _ _ _ _ (s₁.setTop (mkF m 0 #[.val (.int 3)] []))
  refine own_st (fun _ k => XS.iloadN X0.here hx rfl (hb hby own_d20_0) rfl k) ?_
  have hd1 : ¬ ((3 : Int32) < (0 : Int32)) := (by decide)
  refine own_st (fun _ k => XS.ifYes X0.here hx rfl (pc0 := 1) (pc' := 12) rfl (hb hby own_d20_1) rfl ((if0 _ _).trans (flt hd1).2.1) (by decide) (by decide) k) ?_
  refine own_st (fun _ k => XS.iloadN X0.here hx rfl (hb hby own_d20_12) rfl k) ?_
  refine own_st (X0.ldcInt hx hown (mvT hZ (oW hw 95 rfl)) (g := (mkF m 13 #[.val (.int 3)] [(.int 3)])) rfl (hb hby own_d20_13)) ?_
  show own_Gl _ _ _ _ _ _ _ (s₁.setTop (mkF m 15 #[.val (.int 3)] [(.int 1073741823), (.int 3)]))
  have hd2 : (3 : Int32) < (1073741823 : Int32) := (by decide)
  refine own_st (fun _ k => XS.icmpYes X0.here hx rfl (pc0 := 15) (pc' := 55) rfl (hb hby own_d20_15) rfl (tlt hd2).1 (by decide) (by decide) k) ?_
  refine own_st (fun _ k => XS.iloadN X0.here hx rfl (hb hby own_d20_55) rfl k) ?_
  refine own_st (fun _ k => XS.iconst X0.here hx rfl (hb hby own_d20_56) k) ?_
  refine own_st (fun _ k => XS.ishl X0.here hx rfl (hb hby own_d20_57) rfl k) ?_
  show own_Gl _ _ _ _ _ _ _ (s₁.setTop (mkF m 58 #[.val (.int 3)] [(.int ((3 : Int32) <<< ((1 : Int32) &&& 31)))]))
  exact own_retI X0 hx hlk hret (hb hby own_d20_58) e0 ⟨rfl, N0, rfl⟩ (by decide) (by decide)
theorem own_ef_own_nbf3 (m : MethodId) (x0 : Int32) : entryFrame m #[(.int x0)] 1 = mkF m 0 #[.val (.int x0)] [] := by first | (simp [entryFrame, mkF, argsToLocals, Value.category]; done) | rfl
def own_Q_own_nbf3 (Z : State)  (h0 : Heap) (n0 : Nat) (v : Option Value) (h : Heap) (L : List Loc) : Prop := ∃ (r : Addr) (kr : ClassId), (v = some (.ref r)) ∧ (Fr n0 L) ∧ (Keep h0 h []) ∧ (n0 ≤ r) ∧ (h0.size ≤ r) ∧ (Arv Z h r kr .byte (6 : Int32) [(.int 0), (.int 0), (.int 0), (.int 0), (.int 0), (.int 0)] (.int 0))

theorem own_nbf3 (l : Launch) (Z : State) (a0 : Array Value) (hw : oT a0 Z) (ws : List Jvm.Cond)  (h0 : Heap) (n0 : Nat) (Z0 : n0 ≤ h0.size) :
    oMet l oM9 jdk_52_method_2_code 1 (some (.array .byte)) ws ⟨1, 1, 6, 12⟩ #[(.int 3)] Z h0 (own_Q_own_nbf3 Z  h0 n0) := by
  refine oB n0 "java/lang/StringUTF16" rfl (plainFor_of_name own_pn730740715) (fun m => own_ef_own_nbf3 m (3 : Int32)) ?_
  intro p e s m below meth c s₁ hZ hx hby hlk hret hml hown hnm X0 e0 N0
  show own_Gl _ _ _ _ _ _ _ (s₁.setTop (mkF m 0 #[.val (.int 3)] []))
  refine own_st (fun _ k => XS.iloadN X0.here hx rfl (hb hby own_d19_0) rfl k) ?_
  obtain ⟨_, _, ⟨T1, L1, k1, n1⟩, -, X1, ⟨Lc1, hQ1, l1, y1, z1⟩, st1⟩ := Jvm.LawKit.callS X0 hx (y := oM8) hown (mvT hZ (oW hw 92 rfl)) (mvT hZ (oW hw 93 rfl)) (mvT hZ (oW hw 47 rfl)) (mvT hZ (oW hw 94 rfl)) (by decide) (backOf (W := 0) (own_nbl3 l Z a0 hw []  h0 n0 Z0 ) hZ (oW hw 94 rfl) (oW hw 47 rfl) (by decide) (by decide)) (g := (mkF m 1 #[.val (.int 3)] [(.int 3)])) rfl (by rw [hml]; rfl) (argsL := [(.int 3)]) (rest := []) (lenOf own_pd91181837 rfl) rfl (by show 2 * 0 + _ ≤ _; exact Nat.le_of_eq rfl) (hb hby own_d19_1) (fun _ _ => ⟨rfl, e0, (by decide : 0 + 0 ≤ 1), (by decide : 0 + 0 ≤ 6)⟩)
  dsimp only [Pt.U, Pt.locs, Pt.cells, Pt.slots] at X1 l1 y1 z1 st1 hQ1
  subst l1 y1 z1
  obtain ⟨hh1, eh01⟩ : ∃ z, T1.heap = z := ⟨_, rfl⟩
  rw [eh01] at hQ1
  obtain ⟨rfl, Nq1, eh1⟩ := hQ1
  have N1 := Fr.app N0 Nq1
  refine own_st st1 ?_
  have e1 : T1.heap = h0 := eh01.trans eh1
  obtain ⟨T2, h2, k2, X2, e2, E2, A2, st2⟩ := newP X1 hx hZ (oW hw 19 rfl) e1 (g := (mkF m 4 #[.val (.int 3)] [(.int 6)])) rfl (hb hby own_d19_4) rfl (by decide) (cap := 6) (by decide) (by decide) (by decide) (by decide)
  obtain ⟨b2, gb2⟩ : ∃ z, z = h0.size := ⟨_, rfl⟩
  rw [← gb2] at A2 st2
  refine own_st st2 ?_
  have Zs3 : n0 ≤ h2.size := Nat.le_trans Z0 E2.1
  have g_b2 : n0 ≤ b2 := Nat.le_trans Z0 (Nat.le_of_eq gb2.symm)
  have gh_b2 : h0.size ≤ b2 := Nat.le_trans (Keep.refl h0 []).1 (Nat.le_of_eq gb2.symm)
  have V_b2 : Arv Z h2 b2 k2 .byte (6 : Int32) [(.int 0), (.int 0), (.int 0), (.int 0), (.int 0), (.int 0)] (.int 0) := (Arv.new A2 (by decide)).pad (pad_rep [] (.int 0) 6)
  show own_Gl _ _ _ _ _ _ _ (T2.setTop (mkF m 6 #[.val (.int 3)] [(.ref b2)]))
  have K5 : Keep h0 h2 [] := ((Keep.refl h0 []).ext E2)
  exact own_retA X2 hx hlk hret rfl rfl rfl (hb hby own_d19_6) e2 ⟨b2, k2, rfl, N1, K5, g_b2, gh_b2, V_b2⟩ (by decide) (by decide)
theorem own_ef_own_put3_0 (m : MethodId) (x0 : Addr) (x1 : Int32) (x2 : Int32) : entryFrame m #[(.ref x0), (.int x1), (.int x2)] 3 = mkF m 0 #[.val (.ref x0), .val (.int x1), .val (.int x2)] [] := by first | (simp [entryFrame, mkF, argsToLocals, Value.category]; done) | rfl
def own_Q_own_put3_0 (Z : State) (a : Addr) (k : ClassId) (pc : Int32) (x0 : Int32) (x1 : Int32) (x2 : Int32) (x3 : Int32) (x4 : Int32) (x5 : Int32) (h0 : Heap) (n0 : Nat) (v : Option Value) (h : Heap) (L : List Loc) : Prop := (v = none) ∧ (Fr n0 L) ∧ (Keep h0 h [a]) ∧ (Arv Z h a k .byte (6 : Int32) [(.int (nar .byte ((pc >>> ((0 : Int32) &&& 31)).toInt8.toInt32))), (.int (nar .byte ((pc >>> ((8 : Int32) &&& 31)).toInt8.toInt32))), (.int x2), (.int x3), (.int x4), (.int x5)] (.int 0))

theorem own_put3_0 (l : Launch) (Z : State) (a0 : Array Value) (hw : oT a0 Z) (ws : List Jvm.Cond) (a : Addr) (k : ClassId) (pc : Int32) (x0 : Int32) (x1 : Int32) (x2 : Int32) (x3 : Int32) (x4 : Int32) (x5 : Int32) (h0 : Heap) (n0 : Nat) (Z0 : n0 ≤ h0.size) (Old0 : Old Z n0 h0) (sA : Sta Z Z.heap "java/lang/StringUTF16" "$assertionsDisabled" "Z" (.int 1)) (sH : Sta Z Z.heap "java/lang/StringUTF16" "HI_BYTE_SHIFT" "I" (.int 0)) (sL : Sta Z Z.heap "java/lang/StringUTF16" "LO_BYTE_SHIFT" "I" (.int 8)) (V_a : Arv Z h0 a k .byte (6 : Int32) [(.int x0), (.int x1), (.int x2), (.int x3), (.int x4), (.int x5)] (.int 0)) (g_a : n0 ≤ a) :
    oMet l oM10 jdk_52_method_4_code 3 none ws ⟨0, 0, 0, 0⟩ #[(.ref a), (.int 0), (.int pc)] Z h0 (own_Q_own_put3_0 Z a k pc x0 x1 x2 x3 x4 x5 h0 n0) := by
  refine oB n0 "java/lang/StringUTF16" rfl (plainFor_of_name own_pn730740715) (fun m => own_ef_own_put3_0 m a (0 : Int32) pc) ?_
  intro p e s m below meth c s₁ hZ hx hby hlk hret hml hown hnm X0 e0 N0
  show own_Gl _ _ _ _ _ _ _ (s₁.setTop (mkF m 0 #[.val (.ref a), .val (.int 0), .val (.int pc)] []))
  obtain ⟨T1, X1, e1, st1⟩ := getS2 X0 hx hZ hown (host := "") (Or.inl (oW hw 99 rfl)) Via.refl e0 (sA.ext Old0.2) (g := (mkF m 0 #[.val (.ref a), .val (.int 0), .val (.int pc)] [])) rfl (hb hby own_d21_0)
  refine own_st st1 ?_
  have hd2 : ¬ ((1 : Int32) = (0 : Int32)) := (by decide)
  refine own_st (fun _ k => XS.ifYes X1.here hx rfl (pc0 := 3) (pc' := 28) rfl (hb hby own_d21_3) rfl ((if0 _ _).trans (feq hd2).2) (by decide) (by decide) k) ?_
  refine own_st (fun _ k => XS.iloadN X1.here hx rfl (hb hby own_d21_28) rfl k) ?_
  refine own_st (fun _ k => XS.iconst X1.here hx rfl (hb hby own_d21_29) k) ?_
  show own_Gl _ _ _ _ _ _ _ (T1.setTop (mkF m 30 #[.val (.ref a), .val (.int 0), .val (.int pc)] [(.int 1), (.int 0)]))
  refine own_st (fun _ k => XS.ishl X1.here hx rfl (hb hby own_d21_30) rfl k) ?_
  refine own_st (fun _ k => XS.istoreN X1.here hx rfl (hb hby own_d21_31) rfl (l' := #[.val (.ref a), .val (.int ((0 : Int32) <<< ((1 : Int32) &&& 31))), .val (.int pc)]) rfl k) ?_
  show own_Gl _ _ _ _ _ _ _ (T1.setTop (mkF m 32 #[.val (.ref a), .val (.int 0), .val (.int pc)] []))
  refine own_st (fun _ k => XS.aloadN X1.here hx rfl (hb hby own_d21_32) rfl rfl k) ?_
  refine own_st (fun _ k => XS.iloadN X1.here hx rfl (hb hby own_d21_33) rfl k) ?_
  refine own_st (fun _ k => XS.iinc X1.here hx rfl (hb hby own_d21_34) rfl (l' := #[.val (.ref a), .val (.int 1), .val (.int pc)]) rfl k) ?_
  refine own_st (fun _ k => XS.iloadN X1.here hx rfl (hb hby own_d21_37) rfl k) ?_
  show own_Gl _ _ _ _ _ _ _ (T1.setTop (mkF m 38 #[.val (.ref a), .val (.int 1), .val (.int pc)] [(.int pc), (.int 0), (.ref a)]))
  obtain ⟨T3, X3, e3, st3⟩ := getS2 X1 hx hZ hown (host := "") (Or.inl (oW hw 100 rfl)) Via.refl e1 (sH.ext Old0.2) (g := (mkF m 38 #[.val (.ref a), .val (.int 1), .val (.int pc)] [(.int pc), (.int 0), (.ref a)])) rfl (hb hby own_d21_38)
  refine own_st st3 ?_
  refine own_st (fun _ k => XS.ishr X3.here hx rfl (hb hby own_d21_41) rfl k) ?_
  refine own_st (fun _ k => XS.i2b X3.here hx rfl (hb hby own_d21_42) rfl k) ?_
  obtain ⟨cl4, Ar4, qq4, Ss4, Nn4, Hh4, Gg4⟩ := id V_a
  have hin4 : ¬ ((0 : Int32) < 0 ∨ cl4.slots.size ≤ ((0 : Int32)).toNatClampNeg) := inb_of Ss4 ⟨by decide, by decide⟩
  obtain ⟨T4, h4, X4, e4, W4, st4⟩ := stB X3 hx hZ e3 Ar4 (j := (0 : Int32)) hin4 (g := (mkF m 43 #[.val (.ref a), .val (.int 1), .val (.int pc)] [(.int ((pc >>> ((0 : Int32) &&& 31)).toInt8.toInt32)), (.int 0), (.ref a)])) rfl rfl (hb hby own_d21_43)
  have N4 := Fr.snoc X4 N0 g_a
  refine own_st st4 ?_
  have Zs5 : n0 ≤ h4.size := Nat.le_trans Z0 (Keep.of_wr W4).1
  have Vw4 : Arv Z h4 a k .byte (6 : Int32) [(.int (nar .byte ((pc >>> ((0 : Int32) &&& 31)).toInt8.toInt32))), (.int x1), (.int x2), (.int x3), (.int x4), (.int x5)] (.int 0) := Arv.set Ar4 qq4 Ss4 Nn4 Hh4 Gg4 (fits_nar_byte _) W4 0 (rfl) (Nat.le_of_ble_eq_true rfl)
  show own_Gl _ _ _ _ _ _ _ (T4.setTop (mkF m 44 #[.val (.ref a), .val (.int 1), .val (.int pc)] []))
  refine own_st (fun _ k => XS.aloadN X4.here hx rfl (hb hby own_d21_44) rfl rfl k) ?_
  refine own_st (fun _ k => XS.iloadN X4.here hx rfl (hb hby own_d21_45) rfl k) ?_
  refine own_st (fun _ k => XS.iloadN X4.here hx rfl (hb hby own_d21_46) rfl k) ?_
  have f7 := (Old0.wr W4 g_a)
  obtain ⟨T6, X6, e6, st6⟩ := getS2 X4 hx hZ hown (host := "") (Or.inl (oW hw 101 rfl)) Via.refl e4 (sL.ext f7.2) (g := (mkF m 47 #[.val (.ref a), .val (.int 1), .val (.int pc)] [(.int pc), (.int 1), (.ref a)])) rfl (hb hby own_d21_47)
  refine own_st st6 ?_
  show own_Gl _ _ _ _ _ _ _ (T6.setTop (mkF m 50 #[.val (.ref a), .val (.int 1), .val (.int pc)] [(.int 8), (.int pc), (.int 1), (.ref a)]))
  refine own_st (fun _ k => XS.ishr X6.here hx rfl (hb hby own_d21_50) rfl k) ?_
  refine own_st (fun _ k => XS.i2b X6.here hx rfl (hb hby own_d21_51) rfl k) ?_
  obtain ⟨cl8, Ar8, qq8, Ss8, Nn8, Hh8, Gg8⟩ := id Vw4
  have hin8 : ¬ ((1 : Int32) < 0 ∨ cl8.slots.size ≤ ((1 : Int32)).toNatClampNeg) := inb_of Ss8 ⟨by decide, by decide⟩
  obtain ⟨T8, h8, X8, e8, W8, st8⟩ := stB X6 hx hZ e6 Ar8 (j := (1 : Int32)) hin8 (g := (mkF m 52 #[.val (.ref a), .val (.int 1), .val (.int pc)] [(.int ((pc >>> ((8 : Int32) &&& 31)).toInt8.toInt32)), (.int 1), (.ref a)])) rfl rfl (hb hby own_d21_52)
  have N8 := Fr.snoc X8 N4 g_a
  refine own_st st8 ?_
  have Zs9 : n0 ≤ h8.size := Nat.le_trans Zs5 (Keep.of_wr W8).1
  have Vw8 : Arv Z h8 a k .byte (6 : Int32) [(.int (nar .byte ((pc >>> ((0 : Int32) &&& 31)).toInt8.toInt32))), (.int (nar .byte ((pc >>> ((8 : Int32) &&& 31)).toInt8.toInt32))), (.int x2), (.int x3), (.int x4), (.int x5)] (.int 0) := Arv.set Ar8 qq8 Ss8 Nn8 Hh8 Gg8 (fits_nar_byte _) W8 1 (rfl) (Nat.le_of_ble_eq_true rfl)
  show own_Gl _ _ _ _ _ _ _ (T8.setTop (mkF m 53 #[.val (.ref a), .val (.int 1), .val (.int pc)] []))
  have K10 : Keep h0 h8 [a] := (((Keep.refl h0 [a]).wr W4 (Or.inl (List.mem_of_getElem? (i := 0) rfl))).wr W8 (Or.inl (List.mem_of_getElem? (i := 0) rfl)))
  exact own_retV X8 hx hlk hret (hb hby own_d21_53) e8 ⟨rfl, N8, K10, Vw8⟩ (by decide) (by decide)
theorem own_ef_own_put3_1 (m : MethodId) (x0 : Addr) (x1 : Int32) (x2 : Int32) : entryFrame m #[(.ref x0), (.int x1), (.int x2)] 3 = mkF m 0 #[.val (.ref x0), .val (.int x1), .val (.int x2)] [] := by first | (simp [entryFrame, mkF, argsToLocals, Value.category]; done) | rfl
def own_Q_own_put3_1 (Z : State) (a : Addr) (k : ClassId) (pc : Int32) (x0 : Int32) (x1 : Int32) (x2 : Int32) (x3 : Int32) (x4 : Int32) (x5 : Int32) (h0 : Heap) (n0 : Nat) (v : Option Value) (h : Heap) (L : List Loc) : Prop := (v = none) ∧ (Fr n0 L) ∧ (Keep h0 h [a]) ∧ (Arv Z h a k .byte (6 : Int32) [(.int x0), (.int x1), (.int (nar .byte ((pc >>> ((0 : Int32) &&& 31)).toInt8.toInt32))), (.int (nar .byte ((pc >>> ((8 : Int32) &&& 31)).toInt8.toInt32))), (.int x4), (.int x5)] (.int 0))

theorem own_put3_1 (l : Launch) (Z : State) (a0 : Array Value) (hw : oT a0 Z) (ws : List Jvm.Cond) (a : Addr) (k : ClassId) (pc : Int32) (x0 : Int32) (x1 : Int32) (x2 : Int32) (x3 : Int32) (x4 : Int32) (x5 : Int32) (h0 : Heap) (n0 : Nat) (Z0 : n0 ≤ h0.size) (Old0 : Old Z n0 h0) (sA : Sta Z Z.heap "java/lang/StringUTF16" "$assertionsDisabled" "Z" (.int 1)) (sH : Sta Z Z.heap "java/lang/StringUTF16" "HI_BYTE_SHIFT" "I" (.int 0)) (sL : Sta Z Z.heap "java/lang/StringUTF16" "LO_BYTE_SHIFT" "I" (.int 8)) (V_a : Arv Z h0 a k .byte (6 : Int32) [(.int x0), (.int x1), (.int x2), (.int x3), (.int x4), (.int x5)] (.int 0)) (g_a : n0 ≤ a) :
    oMet l oM10 jdk_52_method_4_code 3 none ws ⟨0, 0, 0, 0⟩ #[(.ref a), (.int 1), (.int pc)] Z h0 (own_Q_own_put3_1 Z a k pc x0 x1 x2 x3 x4 x5 h0 n0) := by
  refine oB n0 "java/lang/StringUTF16" rfl (plainFor_of_name own_pn730740715) (fun m => own_ef_own_put3_1 m a (1 : Int32) pc) ?_
  intro p e s m below meth c s₁ hZ hx hby hlk hret hml hown hnm X0 e0 N0
  show own_Gl _ _ _ _ _ _ _ (s₁.setTop (mkF m 0 #[.val (.ref a), .val (.int 1), .val (.int pc)] []))
  obtain ⟨T1, X1, e1, st1⟩ := getS2 X0 hx hZ hown (host := "") (Or.inl (oW hw 99 rfl)) Via.refl e0 (sA.ext Old0.2) (g := (mkF m 0 #[.val (.ref a), .val (.int 1), .val (.int pc)] [])) rfl (hb hby own_d21_0)
  refine own_st st1 ?_
  have hd2 : ¬ ((1 : Int32) = (0 : Int32)) := (by decide)
  refine own_st (fun _ k => XS.ifYes X1.here hx rfl (pc0 := 3) (pc' := 28) rfl (hb hby own_d21_3) rfl ((if0 _ _).trans (feq hd2).2) (by decide) (by decide) k) ?_
  refine own_st (fun _ k => XS.iloadN X1.here hx rfl (hb hby own_d21_28) rfl k) ?_
  refine own_st (fun _ k => XS.iconst X1.here hx rfl (hb hby own_d21_29) k) ?_
  show own_Gl _ _ _ _ _ _ _ (T1.setTop (mkF m 30 #[.val (.ref a), .val (.int 1), .val (.int pc)] [(.int 1), (.int 1)]))
  refine own_st (fun _ k => XS.ishl X1.here hx rfl (hb hby own_d21_30) rfl k) ?_
  refine own_st (fun _ k => XS.istoreN X1.here hx rfl (hb hby own_d21_31) rfl (l' := #[.val (.ref a), .val (.int ((1 : Int32) <<< ((1 : Int32) &&& 31))), .val (.int pc)]) rfl k) ?_
  show own_Gl _ _ _ _ _ _ _ (T1.setTop (mkF m 32 #[.val (.ref a), .val (.int 2), .val (.int pc)] []))
  refine own_st (fun _ k => XS.aloadN X1.here hx rfl (hb hby own_d21_32) rfl rfl k) ?_
  refine own_st (fun _ k => XS.iloadN X1.here hx rfl (hb hby own_d21_33) rfl k) ?_
  refine own_st (fun _ k => XS.iinc X1.here hx rfl (hb hby own_d21_34) rfl (l' := #[.val (.ref a), .val (.int 3), .val (.int pc)]) rfl k) ?_
  refine own_st (fun _ k => XS.iloadN X1.here hx rfl (hb hby own_d21_37) rfl k) ?_
  show own_Gl _ _ _ _ _ _ _ (T1.setTop (mkF m 38 #[.val (.ref a), .val (.int 3), .val (.int pc)] [(.int pc), (.int 2), (.ref a)]))
  obtain ⟨T3, X3, e3, st3⟩ := getS2 X1 hx hZ hown (host := "") (Or.inl (oW hw 100 rfl)) Via.refl e1 (sH.ext Old0.2) (g := (mkF m 38 #[.val (.ref a), .val (.int 3), .val (.int pc)] [(.int pc), (.int 2), (.ref a)])) rfl (hb hby own_d21_38)
  refine own_st st3 ?_
  refine own_st (fun _ k => XS.ishr X3.here hx rfl (hb hby own_d21_41) rfl k) ?_
  refine own_st (fun _ k => XS.i2b X3.here hx rfl (hb hby own_d21_42) rfl k) ?_
  obtain ⟨cl4, Ar4, qq4, Ss4, Nn4, Hh4, Gg4⟩ := id V_a
  have hin4 : ¬ ((2 : Int32) < 0 ∨ cl4.slots.size ≤ ((2 : Int32)).toNatClampNeg) := inb_of Ss4 ⟨by decide, by decide⟩
  obtain ⟨T4, h4, X4, e4, W4, st4⟩ := stB X3 hx hZ e3 Ar4 (j := (2 : Int32)) hin4 (g := (mkF m 43 #[.val (.ref a), .val (.int 3), .val (.int pc)] [(.int ((pc >>> ((0 : Int32) &&& 31)).toInt8.toInt32)), (.int 2), (.ref a)])) rfl rfl (hb hby own_d21_43)
  have N4 := Fr.snoc X4 N0 g_a
  refine own_st st4 ?_
  have Zs5 : n0 ≤ h4.size := Nat.le_trans Z0 (Keep.of_wr W4).1
  have Vw4 : Arv Z h4 a k .byte (6 : Int32) [(.int x0), (.int x1), (.int (nar .byte ((pc >>> ((0 : Int32) &&& 31)).toInt8.toInt32))), (.int x3), (.int x4), (.int x5)] (.int 0) := Arv.set Ar4 qq4 Ss4 Nn4 Hh4 Gg4 (fits_nar_byte _) W4 2 (rfl) (Nat.le_of_ble_eq_true rfl)
  show own_Gl _ _ _ _ _ _ _ (T4.setTop (mkF m 44 #[.val (.ref a), .val (.int 3), .val (.int pc)] []))
  refine own_st (fun _ k => XS.aloadN X4.here hx rfl (hb hby own_d21_44) rfl rfl k) ?_
  refine own_st (fun _ k => XS.iloadN X4.here hx rfl (hb hby own_d21_45) rfl k) ?_
  refine own_st (fun _ k => XS.iloadN X4.here hx rfl (hb hby own_d21_46) rfl k) ?_
  have f7 := (Old0.wr W4 g_a)
  obtain ⟨T6, X6, e6, st6⟩ := getS2 X4 hx hZ hown (host := "") (Or.inl (oW hw 101 rfl)) Via.refl e4 (sL.ext f7.2) (g := (mkF m 47 #[.val (.ref a), .val (.int 3), .val (.int pc)] [(.int pc), (.int 3), (.ref a)])) rfl (hb hby own_d21_47)
  refine own_st st6 ?_
  show own_Gl _ _ _ _ _ _ _ (T6.setTop (mkF m 50 #[.val (.ref a), .val (.int 3), .val (.int pc)] [(.int 8), (.int pc), (.int 3), (.ref a)]))
  refine own_st (fun _ k => XS.ishr X6.here hx rfl (hb hby own_d21_50) rfl k) ?_
  refine own_st (fun _ k => XS.i2b X6.here hx rfl (hb hby own_d21_51) rfl k) ?_
  obtain ⟨cl8, Ar8, qq8, Ss8, Nn8, Hh8, Gg8⟩ := id Vw4
  have hin8 : ¬ ((3 : Int32) < 0 ∨ cl8.slots.size ≤ ((3 : Int32)).toNatClampNeg) := inb_of Ss8 ⟨by decide, by decide⟩
  obtain ⟨T8, h8, X8, e8, W8, st8⟩ := stB X6 hx hZ e6 Ar8 (j := (3 : Int32)) hin8 (g := (mkF m 52 #[.val (.ref a), .val (.int 3), .val (.int pc)] [(.int ((pc >>> ((8 : Int32) &&& 31)).toInt8.toInt32)), (.int 3), (.ref a)])) rfl rfl (hb hby own_d21_52)
  have N8 := Fr.snoc X8 N4 g_a
  refine own_st st8 ?_
  have Zs9 : n0 ≤ h8.size := Nat.le_trans Zs5 (Keep.of_wr W8).1
  have Vw8 : Arv Z h8 a k .byte (6 : Int32) [(.int x0), (.int x1), (.int (nar .byte ((pc >>> ((0 : Int32) &&& 31)).toInt8.toInt32))), (.int (nar .byte ((pc >>> ((8 : Int32) &&& 31)).toInt8.toInt32))), (.int x4), (.int x5)] (.int 0) := Arv.set Ar8 qq8 Ss8 Nn8 Hh8 Gg8 (fits_nar_byte _) W8 3 (rfl) (Nat.le_of_ble_eq_true rfl)
  show own_Gl _ _ _ _ _ _ _ (T8.setTop (mkF m 53 #[.val (.ref a), .val (.int 3), .val (.int pc)] []))
  have K10 : Keep h0 h8 [a] := (((Keep.refl h0 [a]).wr W4 (Or.inl (List.mem_of_getElem? (i := 0) rfl))).wr W8 (Or.inl (List.mem_of_getElem? (i := 0) rfl)))
  exact own_retV X8 hx hlk hret (hb hby own_d21_53) e8 ⟨rfl, N8, K10, Vw8⟩ (by decide) (by decide)
theorem own_ef_own_put3_2 (m : MethodId) (x0 : Addr) (x1 : Int32) (x2 : Int32) : entryFrame m #[(.ref x0), (.int x1), (.int x2)] 3 = mkF m 0 #[.val (.ref x0), .val (.int x1), .val (.int x2)] [] := by first | (simp [entryFrame, mkF, argsToLocals, Value.category]; done) | rfl
def own_Q_own_put3_2 (Z : State) (a : Addr) (k : ClassId) (pc : Int32) (x0 : Int32) (x1 : Int32) (x2 : Int32) (x3 : Int32) (x4 : Int32) (x5 : Int32) (h0 : Heap) (n0 : Nat) (v : Option Value) (h : Heap) (L : List Loc) : Prop := (v = none) ∧ (Fr n0 L) ∧ (Keep h0 h [a]) ∧ (Arv Z h a k .byte (6 : Int32) [(.int x0), (.int x1), (.int x2), (.int x3), (.int (nar .byte ((pc >>> ((0 : Int32) &&& 31)).toInt8.toInt32))), (.int (nar .byte ((pc >>> ((8 : Int32) &&& 31)).toInt8.toInt32)))] (.int 0))

theorem own_put3_2 (l : Launch) (Z : State) (a0 : Array Value) (hw : oT a0 Z) (ws : List Jvm.Cond) (a : Addr) (k : ClassId) (pc : Int32) (x0 : Int32) (x1 : Int32) (x2 : Int32) (x3 : Int32) (x4 : Int32) (x5 : Int32) (h0 : Heap) (n0 : Nat) (Z0 : n0 ≤ h0.size) (Old0 : Old Z n0 h0) (sA : Sta Z Z.heap "java/lang/StringUTF16" "$assertionsDisabled" "Z" (.int 1)) (sH : Sta Z Z.heap "java/lang/StringUTF16" "HI_BYTE_SHIFT" "I" (.int 0)) (sL : Sta Z Z.heap "java/lang/StringUTF16" "LO_BYTE_SHIFT" "I" (.int 8)) (V_a : Arv Z h0 a k .byte (6 : Int32) [(.int x0), (.int x1), (.int x2), (.int x3), (.int x4), (.int x5)] (.int 0)) (g_a : n0 ≤ a) :
    oMet l oM10 jdk_52_method_4_code 3 none ws ⟨0, 0, 0, 0⟩ #[(.ref a), (.int 2), (.int pc)] Z h0 (own_Q_own_put3_2 Z a k pc x0 x1 x2 x3 x4 x5 h0 n0) := by
  refine oB n0 "java/lang/StringUTF16" rfl (plainFor_of_name own_pn730740715) (fun m => own_ef_own_put3_2 m a (2 : Int32) pc) ?_
  intro p e s m below meth c s₁ hZ hx hby hlk hret hml hown hnm X0 e0 N0
  show own_Gl _ _ _ _ _ _ _ (s₁.setTop (mkF m 0 #[.val (.ref a), .val (.int 2), .val (.int pc)] []))
  obtain ⟨T1, X1, e1, st1⟩ := getS2 X0 hx hZ hown (host := "") (Or.inl (oW hw 99 rfl)) Via.refl e0 (sA.ext Old0.2) (g := (mkF m 0 #[.val (.ref a), .val (.int 2), .val (.int pc)] [])) rfl (hb hby own_d21_0)
  refine own_st st1 ?_
  have hd2 : ¬ ((1 : Int32) = (0 : Int32)) := (by decide)
  refine own_st (fun _ k => XS.ifYes X1.here hx rfl (pc0 := 3) (pc' := 28) rfl (hb hby own_d21_3) rfl ((if0 _ _).trans (feq hd2).2) (by decide) (by decide) k) ?_
  refine own_st (fun _ k => XS.iloadN X1.here hx rfl (hb hby own_d21_28) rfl k) ?_
  refine own_st (fun _ k => XS.iconst X1.here hx rfl (hb hby own_d21_29) k) ?_
  show own_Gl _ _ _ _ _ _ _ (T1.setTop (mkF m 30 #[.val (.ref a), .val (.int 2), .val (.int pc)] [(.int 1), (.int 2)]))
  refine own_st (fun _ k => XS.ishl X1.here hx rfl (hb hby own_d21_30) rfl k) ?_
  refine own_st (fun _ k => XS.istoreN X1.here hx rfl (hb hby own_d21_31) rfl (l' := #[.val (.ref a), .val (.int ((2 : Int32) <<< ((1 : Int32) &&& 31))), .val (.int pc)]) rfl k) ?_
  show own_Gl _ _ _ _ _ _ _ (T1.setTop (mkF m 32 #[.val (.ref a), .val (.int 4), .val (.int pc)] []))
  refine own_st (fun _ k => XS.aloadN X1.here hx rfl (hb hby own_d21_32) rfl rfl k) ?_
  refine own_st (fun _ k => XS.iloadN X1.here hx rfl (hb hby own_d21_33) rfl k) ?_
  refine own_st (fun _ k => XS.iinc X1.here hx rfl (hb hby own_d21_34) rfl (l' := #[.val (.ref a), .val (.int 5), .val (.int pc)]) rfl k) ?_
  refine own_st (fun _ k => XS.iloadN X1.here hx rfl (hb hby own_d21_37) rfl k) ?_
  show own_Gl _ _ _ _ _ _ _ (T1.setTop (mkF m 38 #[.val (.ref a), .val (.int 5), .val (.int pc)] [(.int pc), (.int 4), (.ref a)]))
  obtain ⟨T3, X3, e3, st3⟩ := getS2 X1 hx hZ hown (host := "") (Or.inl (oW hw 100 rfl)) Via.refl e1 (sH.ext Old0.2) (g := (mkF m 38 #[.val (.ref a), .val (.int 5), .val (.int pc)] [(.int pc), (.int 4), (.ref a)])) rfl (hb hby own_d21_38)
  refine own_st st3 ?_
  refine own_st (fun _ k => XS.ishr X3.here hx rfl (hb hby own_d21_41) rfl k) ?_
  refine own_st (fun _ k => XS.i2b X3.here hx rfl (hb hby own_d21_42) rfl k) ?_
  obtain ⟨cl4, Ar4, qq4, Ss4, Nn4, Hh4, Gg4⟩ := id V_a
  have hin4 : ¬ ((4 : Int32) < 0 ∨ cl4.slots.size ≤ ((4 : Int32)).toNatClampNeg) := inb_of Ss4 ⟨by decide, by decide⟩
  obtain ⟨T4, h4, X4, e4, W4, st4⟩ := stB X3 hx hZ e3 Ar4 (j := (4 : Int32)) hin4 (g := (mkF m 43 #[.val (.ref a), .val (.int 5), .val (.int pc)] [(.int ((pc >>> ((0 : Int32) &&& 31)).toInt8.toInt32)), (.int 4), (.ref a)])) rfl rfl (hb hby own_d21_43)
  have N4 := Fr.snoc X4 N0 g_a
  refine own_st st4 ?_
  have Zs5 : n0 ≤ h4.size := Nat.le_trans Z0 (Keep.of_wr W4).1
  have Vw4 : Arv Z h4 a k .byte (6 : Int32) [(.int x0), (.int x1), (.int x2), (.int x3), (.int (nar .byte ((pc >>> ((0 : Int32) &&& 31)).toInt8.toInt32))), (.int x5)] (.int 0) := Arv.set Ar4 qq4 Ss4 Nn4 Hh4 Gg4 (fits_nar_byte _) W4 4 (rfl) (Nat.le_of_ble_eq_true rfl)
  show own_Gl _ _ _ _ _ _ _ (T4.setTop (mkF m 44 #[.val (.ref a), .val (.int 5), .val (.int pc)] []))
  refine own_st (fun _ k => XS.aloadN X4.here hx rfl (hb hby own_d21_44) rfl rfl k) ?_
  refine own_st (fun _ k => XS.iloadN X4.here hx rfl (hb hby own_d21_45) rfl k) ?_
  refine own_st (fun _ k => XS.iloadN X4.here hx rfl (hb hby own_d21_46) rfl k) ?_
  have f7 := (Old0.wr W4 g_a)
  obtain ⟨T6, X6, e6, st6⟩ := getS2 X4 hx hZ hown (host := "") (Or.inl (oW hw 101 rfl)) Via.refl e4 (sL.ext f7.2) (g := (mkF m 47 #[.val (.ref a), .val (.int 5), .val (.int pc)] [(.int pc), (.int 5), (.ref a)])) rfl (hb hby own_d21_47)
  refine own_st st6 ?_
  show own_Gl _ _ _ _ _ _ _ (T6.setTop (mkF m 50 #[.val (.ref a), .val (.int 5), .val (.int pc)] [(.int 8), (.int pc), (.int 5), (.ref a)]))
  refine own_st (fun _ k => XS.ishr X6.here hx rfl (hb hby own_d21_50) rfl k) ?_
  refine own_st (fun _ k => XS.i2b X6.here hx rfl (hb hby own_d21_51) rfl k) ?_
  obtain ⟨cl8, Ar8, qq8, Ss8, Nn8, Hh8, Gg8⟩ := id Vw4
  have hin8 : ¬ ((5 : Int32) < 0 ∨ cl8.slots.size ≤ ((5 : Int32)).toNatClampNeg) := inb_of Ss8 ⟨by decide, by decide⟩
  obtain ⟨T8, h8, X8, e8, W8, st8⟩ := stB X6 hx hZ e6 Ar8 (j := (5 : Int32)) hin8 (g := (mkF m 52 #[.val (.ref a), .val (.int 5), .val (.int pc)] [(.int ((pc >>> ((8 : Int32) &&& 31)).toInt8.toInt32)), (.int 5), (.ref a)])) rfl rfl (hb hby own_d21_52)
  have N8 := Fr.snoc X8 N4 g_a
  refine own_st st8 ?_
  have Zs9 : n0 ≤ h8.size := Nat.le_trans Zs5 (Keep.of_wr W8).1
  have Vw8 : Arv Z h8 a k .byte (6 : Int32) [(.int x0), (.int x1), (.int x2), (.int x3), (.int (nar .byte ((pc >>> ((0 : Int32) &&& 31)).toInt8.toInt32))), (.int (nar .byte ((pc >>> ((8 : Int32) &&& 31)).toInt8.toInt32)))] (.int 0) := Arv.set Ar8 qq8 Ss8 Nn8 Hh8 Gg8 (fits_nar_byte _) W8 5 (rfl) (Nat.le_of_ble_eq_true rfl)
  show own_Gl _ _ _ _ _ _ _ (T8.setTop (mkF m 53 #[.val (.ref a), .val (.int 5), .val (.int pc)] []))
  have K10 : Keep h0 h8 [a] := (((Keep.refl h0 [a]).wr W4 (Or.inl (List.mem_of_getElem? (i := 0) rfl))).wr W8 (Or.inl (List.mem_of_getElem? (i := 0) rfl)))
  exact own_retV X8 hx hlk hret (hb hby own_d21_53) e8 ⟨rfl, N8, K10, Vw8⟩ (by decide) (by decide)
theorem own_ef_own_tb3 (m : MethodId) (x0 : Addr) (x1 : Int32) (x2 : Int32) : entryFrame m #[(.ref x0), (.int x1), (.int x2)] 5 = mkF m 0 #[.val (.ref x0), .val (.int x1), .val (.int x2), .unset, .unset] [] := by first | (simp [entryFrame, mkF, argsToLocals, Value.category]; done) | rfl
def own_Q_own_tb3 (Z : State) (a : Addr) (k : ClassId) (v0 : Int32) (v1 : Int32) (v2 : Int32) (h0 : Heap) (n0 : Nat) (v : Option Value) (h : Heap) (L : List Loc) : Prop := ∃ (r : Addr) (kr : ClassId), (v = some (.ref r)) ∧ (Fr n0 L) ∧ (Keep h0 h []) ∧ (n0 ≤ r) ∧ (h0.size ≤ r) ∧ (Arv Z h r kr .byte (6 : Int32) [(.int (nar .byte ((v0 >>> ((0 : Int32) &&& 31)).toInt8.toInt32))), (.int (nar .byte ((v0 >>> ((8 : Int32) &&& 31)).toInt8.toInt32))), (.int (nar .byte ((v1 >>> ((0 : Int32) &&& 31)).toInt8.toInt32))), (.int (nar .byte ((v1 >>> ((8 : Int32) &&& 31)).toInt8.toInt32))), (.int (nar .byte ((v2 >>> ((0 : Int32) &&& 31)).toInt8.toInt32))), (.int (nar .byte ((v2 >>> ((8 : Int32) &&& 31)).toInt8.toInt32)))] (.int 0))

theorem own_tb3 (l : Launch) (Z : State) (a0 : Array Value) (hw : oT a0 Z) (ws : List Jvm.Cond) (a : Addr) (k : ClassId) (v0 : Int32) (v1 : Int32) (v2 : Int32) (h0 : Heap) (n0 : Nat) (Z0 : n0 ≤ h0.size) (V_a : Arv Z h0 a k .char (3 : Int32) [(.int v0), (.int v1), (.int v2)] (.int 0)) (Old0 : Old Z n0 h0) (sA : Sta Z Z.heap "java/lang/StringUTF16" "$assertionsDisabled" "Z" (.int 1)) (sH : Sta Z Z.heap "java/lang/StringUTF16" "HI_BYTE_SHIFT" "I" (.int 0)) (sL : Sta Z Z.heap "java/lang/StringUTF16" "LO_BYTE_SHIFT" "I" (.int 8)) :
    oMet l oM11 jdk_52_method_14_code 5 (some (.array .byte)) ws ⟨2, 1, 6, 24⟩ #[(.ref a), (.int 0), (.int 3)] Z h0 (own_Q_own_tb3 Z a k v0 v1 v2 h0 n0) := by
  refine oB n0 "java/lang/StringUTF16" rfl (plainFor_of_name own_pn730740715) (fun m => own_ef_own_tb3 m a (0 : Int32) (3 : Int32)) ?_
  intro p e s m below meth c s₁ hZ hx hby hlk hret hml hown hnm X0 e0 N0
  show own_Gl _ _ _ _ _ _ _ (s₁.setTop (mkF m 0 #[.val (.ref a), .val (.int 0), .val (.int 3), .unset, .unset] []))
  refine own_st (fun _ k => XS.iloadN X0.here hx rfl (hb hby own_d18_0) rfl k) ?_
  obtain ⟨_, _, ⟨T1, L1, k1, n1⟩, -, X1, ⟨Lc1, hQ1, l1, y1, z1⟩, st1⟩ := Jvm.LawKit.callS X0 hx (y := oM9) hown (mvT hZ (oW hw 89 rfl)) (mvT hZ (oW hw 90 rfl)) (mvT hZ (oW hw 47 rfl)) (mvT hZ (oW hw 91 rfl)) (by decide) (backOf (W := 0) (own_nbf3 l Z a0 hw []  h0 n0 Z0 ) hZ (oW hw 91 rfl) (oW hw 47 rfl) (by decide) (by decide)) (g := (mkF m 1 #[.val (.ref a), .val (.int 0), .val (.int 3), .unset, .unset] [(.int 3)])) rfl (by rw [hml]; rfl) (argsL := [(.int 3)]) (rest := []) (lenOf own_pd944823071 rfl) rfl (by show 2 * 0 + _ ≤ _; exact Nat.le_of_eq rfl) (hb hby own_d18_1) (fun _ _ => ⟨rfl, e0, (by decide : 0 + 1 ≤ 1), (by decide : 0 + 6 ≤ 6)⟩)
  dsimp only [Pt.U, Pt.locs, Pt.cells, Pt.slots] at X1 l1 y1 z1 st1 hQ1
  subst l1 y1 z1
  obtain ⟨hh1, eh01⟩ : ∃ z, T1.heap = z := ⟨_, rfl⟩
  rw [eh01] at hQ1
  obtain ⟨r_1, kr_1, rfl, Nq1, Kq1, P1_0, P1_1, P1_2⟩ := hQ1
  have N1 := Fr.app N0 Nq1
  refine own_st st1 ?_
  have Zs2 : n0 ≤ hh1.size := Nat.le_trans Z0 Kq1.1
  have gh_r_1 : h0.size ≤ r_1 := Nat.le_trans (Keep.refl h0 []).1 P1_1
  have ne_a_r_1 : a ≠ r_1 := Nat.ne_of_lt (Nat.lt_of_lt_of_le V_a.lt P1_1)
  refine own_st (fun _ k => XS.astoreN X1.here hx rfl (hb hby own_d18_4) rfl rfl (l' := #[.val (.ref a), .val (.int 0), .val (.int 3), .val (.ref r_1), .unset]) rfl k) ?_
  refine own_st (fun _ k => XS.iconst X1.here hx rfl (hb hby own_d18_5) k) ?_
  show own_Gl _ _ _ _ _ _ _ (T1.setTop (mkF m 6 #[.val (.ref a), .val (.int 0), .val (.int 3), .val (.ref r_1), .unset] [(.int 0)]))
  refine own_st (fun _ k => XS.istore X1.here hx rfl (hb hby own_d18_6) rfl (l' := #[.val (.ref a), .val (.int 0), .val (.int 3), .val (.ref r_1), .val (.int 0)]) rfl k) ?_
  refine own_st (fun _ k => XS.iload X1.here hx rfl (hb hby own_d18_8) rfl k) ?_
  refine own_st (fun _ k => XS.iloadN X1.here hx rfl (hb hby own_d18_10) rfl k) ?_
  have hd3 : (0 : Int32) < (3 : Int32) := (by decide)
  refine own_st (fun _ k => XS.icmpNo X1.here hx rfl (hb hby own_d18_11) rfl (tlt hd3).2.1 k) ?_
  show own_Gl _ _ _ _ _ _ _ (T1.setTop (mkF m 14 #[.val (.ref a), .val (.int 0), .val (.int 3), .val (.ref r_1), .val (.int 0)] []))
  refine own_st (fun _ k => XS.aloadN X1.here hx rfl (hb hby own_d18_14) rfl rfl k) ?_
  refine own_st (fun _ k => XS.iload X1.here hx rfl (hb hby own_d18_15) rfl k) ?_
  refine own_st (fun _ k => XS.aloadN X1.here hx rfl (hb hby own_d18_17) rfl rfl k) ?_
  refine own_st (fun _ k => XS.iloadN X1.here hx rfl (hb hby own_d18_18) rfl k) ?_
  show own_Gl _ _ _ _ _ _ _ (T1.setTop (mkF m 19 #[.val (.ref a), .val (.int 0), .val (.int 3), .val (.ref r_1), .val (.int 0)] [(.int 0), (.ref a), (.int 0), (.ref r_1)]))
  have f4 := (V_a.keep Kq1 nin0)
  obtain ⟨cl5, Ar5, qq5, Ss5, Nn5, Hh5, Gg5⟩ := id f4
  have hin5 : ¬ ((0 : Int32) < 0 ∨ cl5.slots.size ≤ ((0 : Int32)).toNatClampNeg) := inb_of Ss5 ⟨by decide, by decide⟩
  have hat5 : cl5.slots[((0 : Int32)).toNatClampNeg]? = some (.int v0) := Hh5.at hin5 (rfl)
  refine own_st (X1.caload hx (j := (0 : Int32)) (v := (.int v0)) (by rw [eh01]; exact Ar5.1) (State.isArrayOf_alike hZ.alike Ar5.2.1) Ar5.2.2 hin5 hat5 (g := (mkF m 19 #[.val (.ref a), .val (.int 0), .val (.int 3), .val (.ref r_1), .val (.int 0)] [(.int 0), (.ref a), (.int 0), (.ref r_1)])) rfl rfl (hb hby own_d18_19)) ?_
  have f7 := (Old0.keep Kq1 all0)
  obtain ⟨_, _, ⟨T6, L6, k6, n6⟩, -, X6, ⟨Lc6, hQ6, l6, y6, z6⟩, st6⟩ := Jvm.LawKit.callS X1 hx (y := oM10) hown (mvT hZ (oW hw 96 rfl)) (mvT hZ (oW hw 97 rfl)) (mvT hZ (oW hw 47 rfl)) (mvT hZ (oW hw 98 rfl)) (by decide) (backOf (W := 0) (own_put3_0 l Z a0 hw [] r_1 kr_1 v0 (0 : Int32) (0 : Int32) (0 : Int32) (0 : Int32) (0 : Int32) (0 : Int32) hh1 n0 Zs2 f7 sA sH sL P1_2 P1_0) hZ (oW hw 98 rfl) (oW hw 47 rfl) (by decide) (by decide)) (g := (mkF m 20 #[.val (.ref a), .val (.int 0), .val (.int 3), .val (.ref r_1), .val (.int 0)] [(.int v0), (.int 0), (.ref r_1)])) rfl (by rw [hml]; rfl) (argsL := [(.ref r_1), (.int 0), (.int v0)]) (rest := []) (lenOf own_pd861693120 rfl) rfl (by show 2 * 0 + _ ≤ _; exact Nat.le_of_eq rfl) (hb hby own_d18_20) (fun _ _ => ⟨rfl, eh01, (by decide : 1 + 0 ≤ 1), (by decide : 6 + 0 ≤ 6)⟩)
  dsimp only [Pt.U, Pt.locs, Pt.cells, Pt.slots] at X6 l6 y6 z6 st6 hQ6
  subst l6 y6 z6
  obtain ⟨hh6, eh06⟩ : ∃ z, T6.heap = z := ⟨_, rfl⟩
  rw [eh06] at hQ6
  obtain ⟨rfl, Nq6, Kq6, P6_0⟩ := hQ6
  have N6 := Fr.app N1 Nq6
  refine own_st st6 ?_
  have Zs8 : n0 ≤ hh6.size := Nat.le_trans Zs2 Kq6.1
  refine own_st (fun _ k => XS.iinc X6.here hx rfl (hb hby own_d18_23) rfl (l' := #[.val (.ref a), .val (.int 1), .val (.int 3), .val (.ref r_1), .val (.int 0)]) rfl k) ?_
  refine own_st (fun _ k => XS.iinc X6.here hx rfl (hb hby own_d18_26) rfl (l' := #[.val (.ref a), .val (.int 1), .val (.int 3), .val (.ref r_1), .val (.int 1)]) rfl k) ?_
  show own_Gl _ _ _ _ _ _ _ (T6.setTop (mkF m 29 #[.val (.ref a), .val (.int 1), .val (.int 3), .val (.ref r_1), .val (.int 1)] []))
  refine own_st (fun _ k => XS.goto X6.here hx rfl (pc0 := 29) (pc' := 8) rfl (hb hby own_d18_29) (by decide) (by decide) k) ?_
  refine own_st (fun _ k => XS.iload X6.here hx rfl (hb hby own_d18_8) rfl k) ?_
  refine own_st (fun _ k => XS.iloadN X6.here hx rfl (hb hby own_d18_10) rfl k) ?_
  have hd9 : (1 : Int32) < (3 : Int32) := (by decide)
  refine own_st (fun _ k => XS.icmpNo X6.here hx rfl (hb hby own_d18_11) rfl (tlt hd9).2.1 k) ?_
  show own_Gl _ _ _ _ _ _ _ (T6.setTop (mkF m 14 #[.val (.ref a), .val (.int 1), .val (.int 3), .val (.ref r_1), .val (.int 1)] []))
  refine own_st (fun _ k => XS.aloadN X6.here hx rfl (hb hby own_d18_14) rfl rfl k) ?_
  refine own_st (fun _ k => XS.iload X6.here hx rfl (hb hby own_d18_15) rfl k) ?_
  refine own_st (fun _ k => XS.aloadN X6.here hx rfl (hb hby own_d18_17) rfl rfl k) ?_
  refine own_st (fun _ k => XS.iloadN X6.here hx rfl (hb hby own_d18_18) rfl k) ?_
  show own_Gl _ _ _ _ _ _ _ (T6.setTop (mkF m 19 #[.val (.ref a), .val (.int 1), .val (.int 3), .val (.ref r_1), .val (.int 1)] [(.int 1), (.ref a), (.int 1), (.ref r_1)]))
  have f10 := (f4.keep Kq6 (ninS ne_a_r_1 nin0))
  obtain ⟨cl11, Ar11, qq11, Ss11, Nn11, Hh11, Gg11⟩ := id f10
  have hin11 : ¬ ((1 : Int32) < 0 ∨ cl11.slots.size ≤ ((1 : Int32)).toNatClampNeg) := inb_of Ss11 ⟨by decide, by decide⟩
  have hat11 : cl11.slots[((1 : Int32)).toNatClampNeg]? = some (.int v1) := Hh11.at hin11 (rfl)
  refine own_st (X6.caload hx (j := (1 : Int32)) (v := (.int v1)) (by rw [eh06]; exact Ar11.1) (State.isArrayOf_alike hZ.alike Ar11.2.1) Ar11.2.2 hin11 hat11 (g := (mkF m 19 #[.val (.ref a), .val (.int 1), .val (.int 3), .val (.ref r_1), .val (.int 1)] [(.int 1), (.ref a), (.int 1), (.ref r_1)])) rfl rfl (hb hby own_d18_19)) ?_
  have f13 := (f7.keep Kq6 (allS P1_0 all0))
  obtain ⟨_, _, ⟨T12, L12, k12, n12⟩, -, X12, ⟨Lc12, hQ12, l12, y12, z12⟩, st12⟩ := Jvm.LawKit.callS X6 hx (y := oM10) hown (mvT hZ (oW hw 96 rfl)) (mvT hZ (oW hw 97 rfl)) (mvT hZ (oW hw 47 rfl)) (mvT hZ (oW hw 98 rfl)) (by decide) (backOf (W := 0) (own_put3_1 l Z a0 hw [] r_1 kr_1 v1 (nar .byte ((v0 >>> ((0 : Int32) &&& 31)).toInt8.toInt32)) (nar .byte ((v0 >>> ((8 : Int32) &&& 31)).toInt8.toInt32)) (0 : Int32) (0 : Int32) (0 : Int32) (0 : Int32) hh6 n0 Zs8 f13 sA sH sL P6_0 P1_0) hZ (oW hw 98 rfl) (oW hw 47 rfl) (by decide) (by decide)) (g := (mkF m 20 #[.val (.ref a), .val (.int 1), .val (.int 3), .val (.ref r_1), .val (.int 1)] [(.int v1), (.int 1), (.ref r_1)])) rfl (by rw [hml]; rfl) (argsL := [(.ref r_1), (.int 1), (.int v1)]) (rest := []) (lenOf own_pd861693120 rfl) rfl (by show 2 * 0 + _ ≤ _; exact Nat.le_of_eq rfl) (hb hby own_d18_20) (fun _ _ => ⟨rfl, eh06, (by decide : 1 + 0 ≤ 1), (by decide : 6 + 0 ≤ 6)⟩)
  dsimp only [Pt.U, Pt.locs, Pt.cells, Pt.slots] at X12 l12 y12 z12 st12 hQ12
  subst l12 y12 z12
  obtain ⟨hh12, eh012⟩ : ∃ z, T12.heap = z := ⟨_, rfl⟩
  rw [eh012] at hQ12
  obtain ⟨rfl, Nq12, Kq12, P12_0⟩ := hQ12
  have N12 := Fr.app N6 Nq12
  refine own_st st12 ?_
  have Zs14 : n0 ≤ hh12.size := Nat.le_trans Zs8 Kq12.1
  refine own_st (fun _ k => XS.iinc X12.here hx rfl (hb hby own_d18_23) rfl (l' := #[.val (.ref a), .val (.int 2), .val (.int 3), .val (.ref r_1), .val (.int 1)]) rfl k) ?_
  refine own_st (fun _ k => XS.iinc X12.here hx rfl (hb hby own_d18_26) rfl (l' := #[.val (.ref a), .val (.int 2), .val (.int 3), .val (.ref r_1), .val (.int 2)]) rfl k) ?_
  show own_Gl _ _ _ _ _ _ _ (T12.setTop (mkF m 29 #[.val (.ref a), .val (.int 2), .val (.int 3), .val (.ref r_1), .val (.int 2)] []))
  refine own_st (fun _ k => XS.goto X12.here hx rfl (pc0 := 29) (pc' := 8) rfl (hb hby own_d18_29) (by decide) (by decide) k) ?_
  refine own_st (fun _ k => XS.iload X12.here hx rfl (hb hby own_d18_8) rfl k) ?_
  refine own_st (fun _ k => XS.iloadN X12.here hx rfl (hb hby own_d18_10) rfl k) ?_
  have hd15 : (2 : Int32) < (3 : Int32) := (by decide)
  refine own_st (fun _ k => XS.icmpNo X12.here hx rfl (hb hby own_d18_11) rfl (tlt hd15).2.1 k) ?_
  show own_Gl _ _ _ _ _ _ _ (T12.setTop (mkF m 14 #[.val (.ref a), .val (.int 2), .val (.int 3), .val (.ref r_1), .val (.int 2)] []))
  refine own_st (fun _ k => XS.aloadN X12.here hx rfl (hb hby own_d18_14) rfl rfl k) ?_
  refine own_st (fun _ k => XS.iload X12.here hx rfl (hb hby own_d18_15) rfl k) ?_
  refine own_st (fun _ k => XS.aloadN X12.here hx rfl (hb hby own_d18_17) rfl rfl k) ?_
  refine own_st (fun _ k => XS.iloadN X12.here hx rfl (hb hby own_d18_18) rfl k) ?_
  show own_Gl _ _ _ _ _ _ _ (T12.setTop (mkF m 19 #[.val (.ref a), .val (.int 2), .val (.int 3), .val (.ref r_1), .val (.int 2)] [(.int 2), (.ref a), (.int 2), (.ref r_1)]))
  have f16 := (f10.keep Kq12 (ninS ne_a_r_1 nin0))
  obtain ⟨cl17, Ar17, qq17, Ss17, Nn17, Hh17, Gg17⟩ := id f16
  have hin17 : ¬ ((2 : Int32) < 0 ∨ cl17.slots.size ≤ ((2 : Int32)).toNatClampNeg) := inb_of Ss17 ⟨by decide, by decide⟩
  have hat17 : cl17.slots[((2 : Int32)).toNatClampNeg]? = some (.int v2) := Hh17.at hin17 (rfl)
  refine own_st (X12.caload hx (j := (2 : Int32)) (v := (.int v2)) (by rw [eh012]; exact Ar17.1) (State.isArrayOf_alike hZ.alike Ar17.2.1) Ar17.2.2 hin17 hat17 (g := (mkF m 19 #[.val (.ref a), .val (.int 2), .val (.int 3), .val (.ref r_1), .val (.int 2)] [(.int 2), (.ref a), (.int 2), (.ref r_1)])) rfl rfl (hb hby own_d18_19)) ?_
  have f19 := (f13.keep Kq12 (allS P1_0 all0))
  obtain ⟨_, _, ⟨T18, L18, k18, n18⟩, -, X18, ⟨Lc18, hQ18, l18, y18, z18⟩, st18⟩ := Jvm.LawKit.callS X12 hx (y := oM10) hown (mvT hZ (oW hw 96 rfl)) (mvT hZ (oW hw 97 rfl)) (mvT hZ (oW hw 47 rfl)) (mvT hZ (oW hw 98 rfl)) (by decide) (backOf (W := 0) (own_put3_2 l Z a0 hw [] r_1 kr_1 v2 (nar .byte ((v0 >>> ((0 : Int32) &&& 31)).toInt8.toInt32)) (nar .byte ((v0 >>> ((8 : Int32) &&& 31)).toInt8.toInt32)) (nar .byte ((v1 >>> ((0 : Int32) &&& 31)).toInt8.toInt32)) (nar .byte ((v1 >>> ((8 : Int32) &&& 31)).toInt8.toInt32)) (0 : Int32) (0 : Int32) hh12 n0 Zs14 f19 sA sH sL P12_0 P1_0) hZ (oW hw 98 rfl) (oW hw 47 rfl) (by decide) (by decide)) (g := (mkF m 20 #[.val (.ref a), .val (.int 2), .val (.int 3), .val (.ref r_1), .val (.int 2)] [(.int v2), (.int 2), (.ref r_1)])) rfl (by rw [hml]; rfl) (argsL := [(.ref r_1), (.int 2), (.int v2)]) (rest := []) (lenOf own_pd861693120 rfl) rfl (by show 2 * 0 + _ ≤ _; exact Nat.le_of_eq rfl) (hb hby own_d18_20) (fun _ _ => ⟨rfl, eh012, (by decide : 1 + 0 ≤ 1), (by decide : 6 + 0 ≤ 6)⟩)
  dsimp only [Pt.U, Pt.locs, Pt.cells, Pt.slots] at X18 l18 y18 z18 st18 hQ18
  subst l18 y18 z18
  obtain ⟨hh18, eh018⟩ : ∃ z, T18.heap = z := ⟨_, rfl⟩
  rw [eh018] at hQ18
  obtain ⟨rfl, Nq18, Kq18, P18_0⟩ := hQ18
  have N18 := Fr.app N12 Nq18
  refine own_st st18 ?_
  have Zs20 : n0 ≤ hh18.size := Nat.le_trans Zs14 Kq18.1
  refine own_st (fun _ k => XS.iinc X18.here hx rfl (hb hby own_d18_23) rfl (l' := #[.val (.ref a), .val (.int 3), .val (.int 3), .val (.ref r_1), .val (.int 2)]) rfl k) ?_
  refine own_st (fun _ k => XS.iinc X18.here hx rfl (hb hby own_d18_26) rfl (l' := #[.val (.ref a), .val (.int 3), .val (.int 3), .val (.ref r_1), .val (.int 3)]) rfl k) ?_
  show own_Gl _ _ _ _ _ _ _ (T18.setTop (mkF m 29 #[.val (.ref a), .val (.int 3), .val (.int 3), .val (.ref r_1), .val (.int 3)] []))
  refine own_st (fun _ k => XS.goto X18.here hx rfl (pc0 := 29) (pc' := 8) rfl (hb hby own_d18_29) (by decide) (by decide) k) ?_
  refine own_st (fun _ k => XS.iload X18.here hx rfl (hb hby own_d18_8) rfl k) ?_
  refine own_st (fun _ k => XS.iloadN X18.here hx rfl (hb hby own_d18_10) rfl k) ?_
  have hd21 : ¬ ((3 : Int32) < (3 : Int32)) := (by decide)
  refine own_st (fun _ k => XS.icmpYes X18.here hx rfl (pc0 := 11) (pc' := 32) rfl (hb hby own_d18_11) rfl (flt hd21).2.1 (by decide) (by decide) k) ?_
  show own_Gl _ _ _ _ _ _ _ (T18.setTop (mkF m 32 #[.val (.ref a), .val (.int 3), .val (.int 3), .val (.ref r_1), .val (.int 3)] []))
  refine own_st (fun _ k => XS.aloadN X18.here hx rfl (hb hby own_d18_32) rfl rfl k) ?_
  show own_Gl _ _ _ _ _ _ _ (T18.setTop (mkF m 33 #[.val (.ref a), .val (.int 3), .val (.int 3), .val (.ref r_1), .val (.int 3)] [(.ref r_1)]))
  have K22 : Keep h0 hh18 [] := (((((Keep.refl h0 []).trans Kq1 all0).trans Kq6 (allS (Or.inr gh_r_1) all0)).trans Kq12 (allS (Or.inr gh_r_1) all0)).trans Kq18 (allS (Or.inr gh_r_1) all0))
  exact own_retA X18 hx hlk hret rfl rfl rfl (hb hby own_d18_33) eh018 ⟨r_1, kr_1, rfl, N18, K22, P1_0, gh_r_1, P18_0⟩ (by decide) (by decide)
theorem own_ef_own_get3_0 (m : MethodId) (x0 : Addr) (x1 : Int32) : entryFrame m #[(.ref x0), (.int x1)] 2 = mkF m 0 #[.val (.ref x0), .val (.int x1)] [] := by first | (simp [entryFrame, mkF, argsToLocals, Value.category]; done) | rfl
def own_Q_own_get3_0 (Z : State) (a : Addr) (k : ClassId) (v0 : Int32) (v1 : Int32) (v2 : Int32) (h0 : Heap) (n0 : Nat) (v : Option Value) (h : Heap) (L : List Loc) : Prop := (v = some (.int v0)) ∧ (Fr n0 L) ∧ (h = h0)

theorem own_get3_0 (l : Launch) (Z : State) (a0 : Array Value) (hw : oT a0 Z) (ws : List Jvm.Cond) (a : Addr) (k : ClassId) (v0 : Int32) (v1 : Int32) (v2 : Int32) (h0 : Heap) (n0 : Nat) (Z0 : n0 ≤ h0.size) (Old0 : Old Z n0 h0) (sA : Sta Z Z.heap "java/lang/StringUTF16" "$assertionsDisabled" "Z" (.int 1)) (sH : Sta Z Z.heap "java/lang/StringUTF16" "HI_BYTE_SHIFT" "I" (.int 0)) (sL : Sta Z Z.heap "java/lang/StringUTF16" "LO_BYTE_SHIFT" "I" (.int 8)) (V_a : Arv Z h0 a k .byte (6 : Int32) [(.int (nar .byte ((v0 >>> ((0 : Int32) &&& 31)).toInt8.toInt32))), (.int (nar .byte ((v0 >>> ((8 : Int32) &&& 31)).toInt8.toInt32))), (.int (nar .byte ((v1 >>> ((0 : Int32) &&& 31)).toInt8.toInt32))), (.int (nar .byte ((v1 >>> ((8 : Int32) &&& 31)).toInt8.toInt32))), (.int (nar .byte ((v2 >>> ((0 : Int32) &&& 31)).toInt8.toInt32))), (.int (nar .byte ((v2 >>> ((8 : Int32) &&& 31)).toInt8.toInt32)))] (.int 0)) (hr0 : ¬ v0 < (0 : Int32) ∧ ¬ (65535 : Int32) < v0) :
    oMet l oM12 jdk_52_method_5_code 2 (some .char) ws ⟨0, 0, 0, 0⟩ #[(.ref a), (.int 0)] Z h0 (own_Q_own_get3_0 Z a k v0 v1 v2 h0 n0) := by
  refine oB n0 "java/lang/StringUTF16" rfl (plainFor_of_name own_pn730740715) (fun m => own_ef_own_get3_0 m a (0 : Int32)) ?_
  intro p e s m below meth c s₁ hZ hx hby hlk hret hml hown hnm X0 e0 N0
  show own_Gl _ _ _ _ _ _ _ (s₁.setTop (mkF m 0 #[.val (.ref a), .val (.int 0)] []))
  obtain ⟨T1, X1, e1, st1⟩ := getS2 X0 hx hZ hown (host := "") (Or.inl (oW hw 99 rfl)) Via.refl e0 (sA.ext Old0.2) (g := (mkF m 0 #[.val (.ref a), .val (.int 0)] [])) rfl (hb hby own_d22_0)
  refine own_st st1 ?_
  have hd2 : ¬ ((1 : Int32) = (0 : Int32)) := (by decide)
  refine own_st (fun _ k => XS.ifYes X1.here hx rfl (pc0 := 3) (pc' := 28) rfl (hb hby own_d22_3) rfl ((if0 _ _).trans (feq hd2).2) (by decide) (by decide) k) ?_
  refine own_st (fun _ k => XS.iloadN X1.here hx rfl (hb hby own_d22_28) rfl k) ?_
  refine own_st (fun _ k => XS.iconst X1.here hx rfl (hb hby own_d22_29) k) ?_
  show own_Gl _ _ _ _ _ _ _ (T1.setTop (mkF m 30 #[.val (.ref a), .val (.int 0)] [(.int 1), (.int 0)]))
  refine own_st (fun _ k => XS.ishl X1.here hx rfl (hb hby own_d22_30) rfl k) ?_
  refine own_st (fun _ k => XS.istoreN X1.here hx rfl (hb hby own_d22_31) rfl (l' := #[.val (.ref a), .val (.int ((0 : Int32) <<< ((1 : Int32) &&& 31)))]) rfl k) ?_
  show own_Gl _ _ _ _ _ _ _ (T1.setTop (mkF m 32 #[.val (.ref a), .val (.int 0)] []))
  refine own_st (fun _ k => XS.aloadN X1.here hx rfl (hb hby own_d22_32) rfl rfl k) ?_
  refine own_st (fun _ k => XS.iloadN X1.here hx rfl (hb hby own_d22_33) rfl k) ?_
  refine own_st (fun _ k => XS.iinc X1.here hx rfl (hb hby own_d22_34) rfl (l' := #[.val (.ref a), .val (.int 1)]) rfl k) ?_
  obtain ⟨cl3, Ar3, qq3, Ss3, Nn3, Hh3, Gg3⟩ := id V_a
  have hin3 : ¬ ((0 : Int32) < 0 ∨ cl3.slots.size ≤ ((0 : Int32)).toNatClampNeg) := inb_of Ss3 ⟨by decide, by decide⟩
  have hat3 : cl3.slots[((0 : Int32)).toNatClampNeg]? = some (.int (nar .byte ((v0 >>> ((0 : Int32) &&& 31)).toInt8.toInt32))) := Hh3.at hin3 (rfl)
  refine own_st (X1.baloadBytes hx (j := (0 : Int32)) (v := (.int (nar .byte ((v0 >>> ((0 : Int32) &&& 31)).toInt8.toInt32)))) (by rw [e1]; exact Ar3.1) (State.isArrayOf_alike hZ.alike Ar3.2.1) Ar3.2.2 hin3 hat3 (g := (mkF m 37 #[.val (.ref a), .val (.int 1)] [(.int 0), (.ref a)])) rfl rfl (hb hby own_d22_37)) ?_
  show own_Gl _ _ _ _ _ _ _ (T1.setTop (mkF m 38 #[.val (.ref a), .val (.int 1)] [(.int (nar .byte ((v0 >>> ((0 : Int32) &&& 31)).toInt8.toInt32)))]))
  refine own_st (fun _ k => XS.sipush X1.here hx rfl (hb hby own_d22_38) k) ?_
  refine own_st (fun _ k => XS.iand X1.here hx rfl (hb hby own_d22_41) rfl k) ?_
  obtain ⟨T4, X4, e4, st4⟩ := getS2 X1 hx hZ hown (host := "") (Or.inl (oW hw 100 rfl)) Via.refl e1 (sH.ext Old0.2) (g := (mkF m 42 #[.val (.ref a), .val (.int 1)] [(.int ((nar .byte ((v0 >>> ((0 : Int32) &&& 31)).toInt8.toInt32)) &&& (255 : Int32)))])) rfl (hb hby own_d22_42)
  refine own_st st4 ?_
  refine own_st (fun _ k => XS.ishl X4.here hx rfl (hb hby own_d22_45) rfl k) ?_
  show own_Gl _ _ _ _ _ _ _ (T4.setTop (mkF m 46 #[.val (.ref a), .val (.int 1)] [(.int (((nar .byte ((v0 >>> ((0 : Int32) &&& 31)).toInt8.toInt32)) &&& (255 : Int32)) <<< ((0 : Int32) &&& 31)))]))
  refine own_st (fun _ k => XS.aloadN X4.here hx rfl (hb hby own_d22_46) rfl rfl k) ?_
  refine own_st (fun _ k => XS.iloadN X4.here hx rfl (hb hby own_d22_47) rfl k) ?_
  obtain ⟨cl5, Ar5, qq5, Ss5, Nn5, Hh5, Gg5⟩ := id V_a
  have hin5 : ¬ ((1 : Int32) < 0 ∨ cl5.slots.size ≤ ((1 : Int32)).toNatClampNeg) := inb_of Ss5 ⟨by decide, by decide⟩
  have hat5 : cl5.slots[((1 : Int32)).toNatClampNeg]? = some (.int (nar .byte ((v0 >>> ((8 : Int32) &&& 31)).toInt8.toInt32))) := Hh5.at hin5 (rfl)
  refine own_st (X4.baloadBytes hx (j := (1 : Int32)) (v := (.int (nar .byte ((v0 >>> ((8 : Int32) &&& 31)).toInt8.toInt32)))) (by rw [e4]; exact Ar5.1) (State.isArrayOf_alike hZ.alike Ar5.2.1) Ar5.2.2 hin5 hat5 (g := (mkF m 48 #[.val (.ref a), .val (.int 1)] [(.int 1), (.ref a), (.int (((nar .byte ((v0 >>> ((0 : Int32) &&& 31)).toInt8.toInt32)) &&& (255 : Int32)) <<< ((0 : Int32) &&& 31)))])) rfl rfl (hb hby own_d22_48)) ?_
  refine own_st (fun _ k => XS.sipush X4.here hx rfl (hb hby own_d22_49) k) ?_
  show own_Gl _ _ _ _ _ _ _ (T4.setTop (mkF m 52 #[.val (.ref a), .val (.int 1)] [(.int 255), (.int (nar .byte ((v0 >>> ((8 : Int32) &&& 31)).toInt8.toInt32))), (.int (((nar .byte ((v0 >>> ((0 : Int32) &&& 31)).toInt8.toInt32)) &&& (255 : Int32)) <<< ((0 : Int32) &&& 31)))]))
  refine own_st (fun _ k => XS.iand X4.here hx rfl (hb hby own_d22_52) rfl k) ?_
  obtain ⟨T6, X6, e6, st6⟩ := getS2 X4 hx hZ hown (host := "") (Or.inl (oW hw 101 rfl)) Via.refl e4 (sL.ext Old0.2) (g := (mkF m 53 #[.val (.ref a), .val (.int 1)] [(.int ((nar .byte ((v0 >>> ((8 : Int32) &&& 31)).toInt8.toInt32)) &&& (255 : Int32))), (.int (((nar .byte ((v0 >>> ((0 : Int32) &&& 31)).toInt8.toInt32)) &&& (255 : Int32)) <<< ((0 : Int32) &&& 31)))])) rfl (hb hby own_d22_53)
  refine own_st st6 ?_
  refine own_st (fun _ k => XS.ishl X6.here hx rfl (hb hby own_d22_56) rfl k) ?_
  refine own_st (fun _ k => XS.ior X6.here hx rfl (hb hby own_d22_57) rfl k) ?_
  show own_Gl _ _ _ _ _ _ _ (T6.setTop (mkF m 58 #[.val (.ref a), .val (.int 1)] [(.int ((((nar .byte ((v0 >>> ((0 : Int32) &&& 31)).toInt8.toInt32)) &&& (255 : Int32)) <<< ((0 : Int32) &&& 31)) ||| (((nar .byte ((v0 >>> ((8 : Int32) &&& 31)).toInt8.toInt32)) &&& (255 : Int32)) <<< ((8 : Int32) &&& 31))))]))
  refine own_st (fun _ k => XS.i2c X6.here hx rfl (hb hby own_d22_58) rfl k) ?_
  show own_Gl _ _ _ _ _ _ _ (T6.setTop (mkF m 59 #[.val (.ref a), .val (.int 1)] [(.int (((((nar .byte ((v0 >>> ((0 : Int32) &&& 31)).toInt8.toInt32)) &&& (255 : Int32)) <<< ((0 : Int32) &&& 31)) ||| (((nar .byte ((v0 >>> ((8 : Int32) &&& 31)).toInt8.toInt32)) &&& (255 : Int32)) <<< ((8 : Int32) &&& 31))).toUInt32.toUInt16.toUInt32.toInt32))]))
  exact own_retN X6 hx hlk (t := .char) hret (by simp) (hb hby own_d22_59) e6 ⟨by rw [own_gch _ hr0.1 hr0.2, own_nc _ hr0], N0, rfl⟩ (by decide) (by decide)
theorem own_ef_own_get3_1 (m : MethodId) (x0 : Addr) (x1 : Int32) : entryFrame m #[(.ref x0), (.int x1)] 2 = mkF m 0 #[.val (.ref x0), .val (.int x1)] [] := by first | (simp [entryFrame, mkF, argsToLocals, Value.category]; done) | rfl
def own_Q_own_get3_1 (Z : State) (a : Addr) (k : ClassId) (v0 : Int32) (v1 : Int32) (v2 : Int32) (h0 : Heap) (n0 : Nat) (v : Option Value) (h : Heap) (L : List Loc) : Prop := (v = some (.int v1)) ∧ (Fr n0 L) ∧ (h = h0)

theorem own_get3_1 (l : Launch) (Z : State) (a0 : Array Value) (hw : oT a0 Z) (ws : List Jvm.Cond) (a : Addr) (k : ClassId) (v0 : Int32) (v1 : Int32) (v2 : Int32) (h0 : Heap) (n0 : Nat) (Z0 : n0 ≤ h0.size) (Old0 : Old Z n0 h0) (sA : Sta Z Z.heap "java/lang/StringUTF16" "$assertionsDisabled" "Z" (.int 1)) (sH : Sta Z Z.heap "java/lang/StringUTF16" "HI_BYTE_SHIFT" "I" (.int 0)) (sL : Sta Z Z.heap "java/lang/StringUTF16" "LO_BYTE_SHIFT" "I" (.int 8)) (V_a : Arv Z h0 a k .byte (6 : Int32) [(.int (nar .byte ((v0 >>> ((0 : Int32) &&& 31)).toInt8.toInt32))), (.int (nar .byte ((v0 >>> ((8 : Int32) &&& 31)).toInt8.toInt32))), (.int (nar .byte ((v1 >>> ((0 : Int32) &&& 31)).toInt8.toInt32))), (.int (nar .byte ((v1 >>> ((8 : Int32) &&& 31)).toInt8.toInt32))), (.int (nar .byte ((v2 >>> ((0 : Int32) &&& 31)).toInt8.toInt32))), (.int (nar .byte ((v2 >>> ((8 : Int32) &&& 31)).toInt8.toInt32)))] (.int 0)) (hr1 : ¬ v1 < (0 : Int32) ∧ ¬ (65535 : Int32) < v1) :
    oMet l oM12 jdk_52_method_5_code 2 (some .char) ws ⟨0, 0, 0, 0⟩ #[(.ref a), (.int 1)] Z h0 (own_Q_own_get3_1 Z a k v0 v1 v2 h0 n0) := by
  refine oB n0 "java/lang/StringUTF16" rfl (plainFor_of_name own_pn730740715) (fun m => own_ef_own_get3_1 m a (1 : Int32)) ?_
  intro p e s m below meth c s₁ hZ hx hby hlk hret hml hown hnm X0 e0 N0
  show own_Gl _ _ _ _ _ _ _ (s₁.setTop (mkF m 0 #[.val (.ref a), .val (.int 1)] []))
  obtain ⟨T1, X1, e1, st1⟩ := getS2 X0 hx hZ hown (host := "") (Or.inl (oW hw 99 rfl)) Via.refl e0 (sA.ext Old0.2) (g := (mkF m 0 #[.val (.ref a), .val (.int 1)] [])) rfl (hb hby own_d22_0)
  refine own_st st1 ?_
  have hd2 : ¬ ((1 : Int32) = (0 : Int32)) := (by decide)
  refine own_st (fun _ k => XS.ifYes X1.here hx rfl (pc0 := 3) (pc' := 28) rfl (hb hby own_d22_3) rfl ((if0 _ _).trans (feq hd2).2) (by decide) (by decide) k) ?_
  refine own_st (fun _ k => XS.iloadN X1.here hx rfl (hb hby own_d22_28) rfl k) ?_
  refine own_st (fun _ k => XS.iconst X1.here hx rfl (hb hby own_d22_29) k) ?_
  show own_Gl _ _ _ _ _ _ _ (T1.setTop (mkF m 30 #[.val (.ref a), .val (.int 1)] [(.int 1), (.int 1)]))
  refine own_st (fun _ k => XS.ishl X1.here hx rfl (hb hby own_d22_30) rfl k) ?_
  refine own_st (fun _ k => XS.istoreN X1.here hx rfl (hb hby own_d22_31) rfl (l' := #[.val (.ref a), .val (.int ((1 : Int32) <<< ((1 : Int32) &&& 31)))]) rfl k) ?_
  show own_Gl _ _ _ _ _ _ _ (T1.setTop (mkF m 32 #[.val (.ref a), .val (.int 2)] []))
  refine own_st (fun _ k => XS.aloadN X1.here hx rfl (hb hby own_d22_32) rfl rfl k) ?_
  refine own_st (fun _ k => XS.iloadN X1.here hx rfl (hb hby own_d22_33) rfl k) ?_
  refine own_st (fun _ k => XS.iinc X1.here hx rfl (hb hby own_d22_34) rfl (l' := #[.val (.ref a), .val (.int 3)]) rfl k) ?_
  obtain ⟨cl3, Ar3, qq3, Ss3, Nn3, Hh3, Gg3⟩ := id V_a
  have hin3 : ¬ ((2 : Int32) < 0 ∨ cl3.slots.size ≤ ((2 : Int32)).toNatClampNeg) := inb_of Ss3 ⟨by decide, by decide⟩
  have hat3 : cl3.slots[((2 : Int32)).toNatClampNeg]? = some (.int (nar .byte ((v1 >>> ((0 : Int32) &&& 31)).toInt8.toInt32))) := Hh3.at hin3 (rfl)
  refine own_st (X1.baloadBytes hx (j := (2 : Int32)) (v := (.int (nar .byte ((v1 >>> ((0 : Int32) &&& 31)).toInt8.toInt32)))) (by rw [e1]; exact Ar3.1) (State.isArrayOf_alike hZ.alike Ar3.2.1) Ar3.2.2 hin3 hat3 (g := (mkF m 37 #[.val (.ref a), .val (.int 3)] [(.int 2), (.ref a)])) rfl rfl (hb hby own_d22_37)) ?_
  show own_Gl _ _ _ _ _ _ _ (T1.setTop (mkF m 38 #[.val (.ref a), .val (.int 3)] [(.int (nar .byte ((v1 >>> ((0 : Int32) &&& 31)).toInt8.toInt32)))]))
  refine own_st (fun _ k => XS.sipush X1.here hx rfl (hb hby own_d22_38) k) ?_
  refine own_st (fun _ k => XS.iand X1.here hx rfl (hb hby own_d22_41) rfl k) ?_
  obtain ⟨T4, X4, e4, st4⟩ := getS2 X1 hx hZ hown (host := "") (Or.inl (oW hw 100 rfl)) Via.refl e1 (sH.ext Old0.2) (g := (mkF m 42 #[.val (.ref a), .val (.int 3)] [(.int ((nar .byte ((v1 >>> ((0 : Int32) &&& 31)).toInt8.toInt32)) &&& (255 : Int32)))])) rfl (hb hby own_d22_42)
  refine own_st st4 ?_
  refine own_st (fun _ k => XS.ishl X4.here hx rfl (hb hby own_d22_45) rfl k) ?_
  show own_Gl _ _ _ _ _ _ _ (T4.setTop (mkF m 46 #[.val (.ref a), .val (.int 3)] [(.int (((nar .byte ((v1 >>> ((0 : Int32) &&& 31)).toInt8.toInt32)) &&& (255 : Int32)) <<< ((0 : Int32) &&& 31)))]))
  refine own_st (fun _ k => XS.aloadN X4.here hx rfl (hb hby own_d22_46) rfl rfl k) ?_
  refine own_st (fun _ k => XS.iloadN X4.here hx rfl (hb hby own_d22_47) rfl k) ?_
  obtain ⟨cl5, Ar5, qq5, Ss5, Nn5, Hh5, Gg5⟩ := id V_a
  have hin5 : ¬ ((3 : Int32) < 0 ∨ cl5.slots.size ≤ ((3 : Int32)).toNatClampNeg) := inb_of Ss5 ⟨by decide, by decide⟩
  have hat5 : cl5.slots[((3 : Int32)).toNatClampNeg]? = some (.int (nar .byte ((v1 >>> ((8 : Int32) &&& 31)).toInt8.toInt32))) := Hh5.at hin5 (rfl)
  refine own_st (X4.baloadBytes hx (j := (3 : Int32)) (v := (.int (nar .byte ((v1 >>> ((8 : Int32) &&& 31)).toInt8.toInt32)))) (by rw [e4]; exact Ar5.1) (State.isArrayOf_alike hZ.alike Ar5.2.1) Ar5.2.2 hin5 hat5 (g := (mkF m 48 #[.val (.ref a), .val (.int 3)] [(.int 3), (.ref a), (.int (((nar .byte ((v1 >>> ((0 : Int32) &&& 31)).toInt8.toInt32)) &&& (255 : Int32)) <<< ((0 : Int32) &&& 31)))])) rfl rfl (hb hby own_d22_48)) ?_
  refine own_st (fun _ k => XS.sipush X4.here hx rfl (hb hby own_d22_49) k) ?_
  show own_Gl _ _ _ _ _ _ _ (T4.setTop (mkF m 52 #[.val (.ref a), .val (.int 3)] [(.int 255), (.int (nar .byte ((v1 >>> ((8 : Int32) &&& 31)).toInt8.toInt32))), (.int (((nar .byte ((v1 >>> ((0 : Int32) &&& 31)).toInt8.toInt32)) &&& (255 : Int32)) <<< ((0 : Int32) &&& 31)))]))
  refine own_st (fun _ k => XS.iand X4.here hx rfl (hb hby own_d22_52) rfl k) ?_
  obtain ⟨T6, X6, e6, st6⟩ := getS2 X4 hx hZ hown (host := "") (Or.inl (oW hw 101 rfl)) Via.refl e4 (sL.ext Old0.2) (g := (mkF m 53 #[.val (.ref a), .val (.int 3)] [(.int ((nar .byte ((v1 >>> ((8 : Int32) &&& 31)).toInt8.toInt32)) &&& (255 : Int32))), (.int (((nar .byte ((v1 >>> ((0 : Int32) &&& 31)).toInt8.toInt32)) &&& (255 : Int32)) <<< ((0 : Int32) &&& 31)))])) rfl (hb hby own_d22_53)
  refine own_st st6 ?_
  refine own_st (fun _ k => XS.ishl X6.here hx rfl (hb hby own_d22_56) rfl k) ?_
  refine own_st (fun _ k => XS.ior X6.here hx rfl (hb hby own_d22_57) rfl k) ?_
  show own_Gl _ _ _ _ _ _ _ (T6.setTop (mkF m 58 #[.val (.ref a), .val (.int 3)] [(.int ((((nar .byte ((v1 >>> ((0 : Int32) &&& 31)).toInt8.toInt32)) &&& (255 : Int32)) <<< ((0 : Int32) &&& 31)) ||| (((nar .byte ((v1 >>> ((8 : Int32) &&& 31)).toInt8.toInt32)) &&& (255 : Int32)) <<< ((8 : Int32) &&& 31))))]))
  refine own_st (fun _ k => XS.i2c X6.here hx rfl (hb hby own_d22_58) rfl k) ?_
  show own_Gl _ _ _ _ _ _ _ (T6.setTop (mkF m 59 #[.val (.ref a), .val (.int 3)] [(.int (((((nar .byte ((v1 >>> ((0 : Int32) &&& 31)).toInt8.toInt32)) &&& (255 : Int32)) <<< ((0 : Int32) &&& 31)) ||| (((nar .byte ((v1 >>> ((8 : Int32) &&& 31)).toInt8.toInt32)) &&& (255 : Int32)) <<< ((8 : Int32) &&& 31))).toUInt32.toUInt16.toUInt32.toInt32))]))
  exact own_retN X6 hx hlk (t := .char) hret (by simp) (hb hby own_d22_59) e6 ⟨by rw [own_gch _ hr1.1 hr1.2, own_nc _ hr1], N0, rfl⟩ (by decide) (by decide)
theorem own_ef_own_get3_2 (m : MethodId) (x0 : Addr) (x1 : Int32) : entryFrame m #[(.ref x0), (.int x1)] 2 = mkF m 0 #[.val (.ref x0), .val (.int x1)] [] := by first | (simp [entryFrame, mkF, argsToLocals, Value.category]; done) | rfl
def own_Q_own_get3_2 (Z : State) (a : Addr) (k : ClassId) (v0 : Int32) (v1 : Int32) (v2 : Int32) (h0 : Heap) (n0 : Nat) (v : Option Value) (h : Heap) (L : List Loc) : Prop := (v = some (.int v2)) ∧ (Fr n0 L) ∧ (h = h0)

theorem own_get3_2 (l : Launch) (Z : State) (a0 : Array Value) (hw : oT a0 Z) (ws : List Jvm.Cond) (a : Addr) (k : ClassId) (v0 : Int32) (v1 : Int32) (v2 : Int32) (h0 : Heap) (n0 : Nat) (Z0 : n0 ≤ h0.size) (Old0 : Old Z n0 h0) (sA : Sta Z Z.heap "java/lang/StringUTF16" "$assertionsDisabled" "Z" (.int 1)) (sH : Sta Z Z.heap "java/lang/StringUTF16" "HI_BYTE_SHIFT" "I" (.int 0)) (sL : Sta Z Z.heap "java/lang/StringUTF16" "LO_BYTE_SHIFT" "I" (.int 8)) (V_a : Arv Z h0 a k .byte (6 : Int32) [(.int (nar .byte ((v0 >>> ((0 : Int32) &&& 31)).toInt8.toInt32))), (.int (nar .byte ((v0 >>> ((8 : Int32) &&& 31)).toInt8.toInt32))), (.int (nar .byte ((v1 >>> ((0 : Int32) &&& 31)).toInt8.toInt32))), (.int (nar .byte ((v1 >>> ((8 : Int32) &&& 31)).toInt8.toInt32))), (.int (nar .byte ((v2 >>> ((0 : Int32) &&& 31)).toInt8.toInt32))), (.int (nar .byte ((v2 >>> ((8 : Int32) &&& 31)).toInt8.toInt32)))] (.int 0)) (hr2 : ¬ v2 < (0 : Int32) ∧ ¬ (65535 : Int32) < v2) :
    oMet l oM12 jdk_52_method_5_code 2 (some .char) ws ⟨0, 0, 0, 0⟩ #[(.ref a), (.int 2)] Z h0 (own_Q_own_get3_2 Z a k v0 v1 v2 h0 n0) := by
  refine oB n0 "java/lang/StringUTF16" rfl (plainFor_of_name own_pn730740715) (fun m => own_ef_own_get3_2 m a (2 : Int32)) ?_
  intro p e s m below meth c s₁ hZ hx hby hlk hret hml hown hnm X0 e0 N0
  show own_Gl _ _ _ _ _ _ _ (s₁.setTop (mkF m 0 #[.val (.ref a), .val (.int 2)] []))
  obtain ⟨T1, X1, e1, st1⟩ := getS2 X0 hx hZ hown (host := "") (Or.inl (oW hw 99 rfl)) Via.refl e0 (sA.ext Old0.2) (g := (mkF m 0 #[.val (.ref a), .val (.int 2)] [])) rfl (hb hby own_d22_0)
  refine own_st st1 ?_
  have hd2 : ¬ ((1 : Int32) = (0 : Int32)) := (by decide)
  refine own_st (fun _ k => XS.ifYes X1.here hx rfl (pc0 := 3) (pc' := 28) rfl (hb hby own_d22_3) rfl ((if0 _ _).trans (feq hd2).2) (by decide) (by decide) k) ?_
  refine own_st (fun _ k => XS.iloadN X1.here hx rfl (hb hby own_d22_28) rfl k) ?_
  refine own_st (fun _ k => XS.iconst X1.here hx rfl (hb hby own_d22_29) k) ?_
  show own_Gl _ _ _ _ _ _ _ (T1.setTop (mkF m 30 #[.val (.ref a), .val (.int 2)] [(.int 1), (.int 2)]))
  refine own_st (fun _ k => XS.ishl X1.here hx rfl (hb hby own_d22_30) rfl k) ?_
  refine own_st (fun _ k => XS.istoreN X1.here hx rfl (hb hby own_d22_31) rfl (l' := #[.val (.ref a), .val (.int ((2 : Int32) <<< ((1 : Int32) &&& 31)))]) rfl k) ?_
  show own_Gl _ _ _ _ _ _ _ (T1.setTop (mkF m 32 #[.val (.ref a), .val (.int 4)] []))
  refine own_st (fun _ k => XS.aloadN X1.here hx rfl (hb hby own_d22_32) rfl rfl k) ?_
  refine own_st (fun _ k => XS.iloadN X1.here hx rfl (hb hby own_d22_33) rfl k) ?_
  refine own_st (fun _ k => XS.iinc X1.here hx rfl (hb hby own_d22_34) rfl (l' := #[.val (.ref a), .val (.int 5)]) rfl k) ?_
  obtain ⟨cl3, Ar3, qq3, Ss3, Nn3, Hh3, Gg3⟩ := id V_a
  have hin3 : ¬ ((4 : Int32) < 0 ∨ cl3.slots.size ≤ ((4 : Int32)).toNatClampNeg) := inb_of Ss3 ⟨by decide, by decide⟩
  have hat3 : cl3.slots[((4 : Int32)).toNatClampNeg]? = some (.int (nar .byte ((v2 >>> ((0 : Int32) &&& 31)).toInt8.toInt32))) := Hh3.at hin3 (rfl)
  refine own_st (X1.baloadBytes hx (j := (4 : Int32)) (v := (.int (nar .byte ((v2 >>> ((0 : Int32) &&& 31)).toInt8.toInt32)))) (by rw [e1]; exact Ar3.1) (State.isArrayOf_alike hZ.alike Ar3.2.1) Ar3.2.2 hin3 hat3 (g := (mkF m 37 #[.val (.ref a), .val (.int 5)] [(.int 4), (.ref a)])) rfl rfl (hb hby own_d22_37)) ?_
  show own_Gl _ _ _ _ _ _ _ (T1.setTop (mkF m 38 #[.val (.ref a), .val (.int 5)] [(.int (nar .byte ((v2 >>> ((0 : Int32) &&& 31)).toInt8.toInt32)))]))
  refine own_st (fun _ k => XS.sipush X1.here hx rfl (hb hby own_d22_38) k) ?_
  refine own_st (fun _ k => XS.iand X1.here hx rfl (hb hby own_d22_41) rfl k) ?_
  obtain ⟨T4, X4, e4, st4⟩ := getS2 X1 hx hZ hown (host := "") (Or.inl (oW hw 100 rfl)) Via.refl e1 (sH.ext Old0.2) (g := (mkF m 42 #[.val (.ref a), .val (.int 5)] [(.int ((nar .byte ((v2 >>> ((0 : Int32) &&& 31)).toInt8.toInt32)) &&& (255 : Int32)))])) rfl (hb hby own_d22_42)
  refine own_st st4 ?_
  refine own_st (fun _ k => XS.ishl X4.here hx rfl (hb hby own_d22_45) rfl k) ?_
  show own_Gl _ _ _ _ _ _ _ (T4.setTop (mkF m 46 #[.val (.ref a), .val (.int 5)] [(.int (((nar .byte ((v2 >>> ((0 : Int32) &&& 31)).toInt8.toInt32)) &&& (255 : Int32)) <<< ((0 : Int32) &&& 31)))]))
  refine own_st (fun _ k => XS.aloadN X4.here hx rfl (hb hby own_d22_46) rfl rfl k) ?_
  refine own_st (fun _ k => XS.iloadN X4.here hx rfl (hb hby own_d22_47) rfl k) ?_
  obtain ⟨cl5, Ar5, qq5, Ss5, Nn5, Hh5, Gg5⟩ := id V_a
  have hin5 : ¬ ((5 : Int32) < 0 ∨ cl5.slots.size ≤ ((5 : Int32)).toNatClampNeg) := inb_of Ss5 ⟨by decide, by decide⟩
  have hat5 : cl5.slots[((5 : Int32)).toNatClampNeg]? = some (.int (nar .byte ((v2 >>> ((8 : Int32) &&& 31)).toInt8.toInt32))) := Hh5.at hin5 (rfl)
  refine own_st (X4.baloadBytes hx (j := (5 : Int32)) (v := (.int (nar .byte ((v2 >>> ((8 : Int32) &&& 31)).toInt8.toInt32)))) (by rw [e4]; exact Ar5.1) (State.isArrayOf_alike hZ.alike Ar5.2.1) Ar5.2.2 hin5 hat5 (g := (mkF m 48 #[.val (.ref a), .val (.int 5)] [(.int 5), (.ref a), (.int (((nar .byte ((v2 >>> ((0 : Int32) &&& 31)).toInt8.toInt32)) &&& (255 : Int32)) <<< ((0 : Int32) &&& 31)))])) rfl rfl (hb hby own_d22_48)) ?_
  refine own_st (fun _ k => XS.sipush X4.here hx rfl (hb hby own_d22_49) k) ?_
  show own_Gl _ _ _ _ _ _ _ (T4.setTop (mkF m 52 #[.val (.ref a), .val (.int 5)] [(.int 255), (.int (nar .byte ((v2 >>> ((8 : Int32) &&& 31)).toInt8.toInt32))), (.int (((nar .byte ((v2 >>> ((0 : Int32) &&& 31)).toInt8.toInt32)) &&& (255 : Int32)) <<< ((0 : Int32) &&& 31)))]))
  refine own_st (fun _ k => XS.iand X4.here hx rfl (hb hby own_d22_52) rfl k) ?_
  obtain ⟨T6, X6, e6, st6⟩ := getS2 X4 hx hZ hown (host := "") (Or.inl (oW hw 101 rfl)) Via.refl e4 (sL.ext Old0.2) (g := (mkF m 53 #[.val (.ref a), .val (.int 5)] [(.int ((nar .byte ((v2 >>> ((8 : Int32) &&& 31)).toInt8.toInt32)) &&& (255 : Int32))), (.int (((nar .byte ((v2 >>> ((0 : Int32) &&& 31)).toInt8.toInt32)) &&& (255 : Int32)) <<< ((0 : Int32) &&& 31)))])) rfl (hb hby own_d22_53)
  refine own_st st6 ?_
  refine own_st (fun _ k => XS.ishl X6.here hx rfl (hb hby own_d22_56) rfl k) ?_
  refine own_st (fun _ k => XS.ior X6.here hx rfl (hb hby own_d22_57) rfl k) ?_
  show own_Gl _ _ _ _ _ _ _ (T6.setTop (mkF m 58 #[.val (.ref a), .val (.int 5)] [(.int ((((nar .byte ((v2 >>> ((0 : Int32) &&& 31)).toInt8.toInt32)) &&& (255 : Int32)) <<< ((0 : Int32) &&& 31)) ||| (((nar .byte ((v2 >>> ((8 : Int32) &&& 31)).toInt8.toInt32)) &&& (255 : Int32)) <<< ((8 : Int32) &&& 31))))]))
  refine own_st (fun _ k => XS.i2c X6.here hx rfl (hb hby own_d22_58) rfl k) ?_
  show own_Gl _ _ _ _ _ _ _ (T6.setTop (mkF m 59 #[.val (.ref a), .val (.int 5)] [(.int (((((nar .byte ((v2 >>> ((0 : Int32) &&& 31)).toInt8.toInt32)) &&& (255 : Int32)) <<< ((0 : Int32) &&& 31)) ||| (((nar .byte ((v2 >>> ((8 : Int32) &&& 31)).toInt8.toInt32)) &&& (255 : Int32)) <<< ((8 : Int32) &&& 31))).toUInt32.toUInt16.toUInt32.toInt32))]))
  exact own_retN X6 hx hlk (t := .char) hret (by simp) (hb hby own_d22_59) e6 ⟨by rw [own_gch _ hr2.1 hr2.2, own_nc _ hr2], N0, rfl⟩ (by decide) (by decide)
theorem own_ef_own_c5_3_0 (m : MethodId) (x0 : Addr) (x1 : Int32) (x2 : Addr) (x3 : Int32) (x4 : Int32) : entryFrame m #[(.ref x0), (.int x1), (.ref x2), (.int x3), (.int x4)] 7 = mkF m 0 #[.val (.ref x0), .val (.int x1), .val (.ref x2), .val (.int x3), .val (.int x4), .unset, .unset] [] := by first | (simp [entryFrame, mkF, argsToLocals, Value.category]; done) | rfl
def own_Q_own_c5_3_0 (Z : State) (a : Addr) (b : Addr) (k : ClassId) (kb : ClassId) (v0 : Int32) (v1 : Int32) (v2 : Int32) (h0 : Heap) (n0 : Nat) (v : Option Value) (h : Heap) (L : List Loc) : Prop := (v = some (.int 0)) ∧ (Fr n0 L) ∧ (Keep h0 h [b]) ∧ (Arv Z h b kb .byte (3 : Int32) [(.int 0), (.int 0), (.int 0)] (.int 0))

theorem own_c5_3_0 (l : Launch) (Z : State) (a0 : Array Value) (hw : oT a0 Z) (ws : List Jvm.Cond) (a : Addr) (b : Addr) (k : ClassId) (kb : ClassId) (v0 : Int32) (v1 : Int32) (v2 : Int32) (h0 : Heap) (n0 : Nat) (Z0 : n0 ≤ h0.size) (V_a : Arv Z h0 a k .char (3 : Int32) [(.int v0), (.int v1), (.int v2)] (.int 0)) (V_b : Arv Z h0 b kb .byte (3 : Int32) [(.int 0), (.int 0), (.int 0)] (.int 0)) (g_b : n0 ≤ b) (ne_a_b : a ≠ b) (hgt : (255 : Int32) < v0) :
    oMet l oM13 jdk_52_method_21_code 7 (some .int) ws ⟨0, 0, 0, 0⟩ #[(.ref a), (.int 0), (.ref b), (.int 0), (.int 3)] Z h0 (own_Q_own_c5_3_0 Z a b k kb v0 v1 v2 h0 n0) := by
  refine oB n0 "java/lang/StringUTF16" rfl (plainFor_of_name own_pn730740715) (fun m => own_ef_own_c5_3_0 m a (0 : Int32) b (0 : Int32) (3 : Int32)) ?_
  intro p e s m below meth c s₁ hZ hx hby hlk hret hml hown hnm X0 e0 N0
  show own_Gl _ _ _ _ _ _ _ (s₁.setTop (mkF m 0 #[.val (.ref a), .val (.int 0), .val (.ref b), .val (.int 0), .val (.int 3), .unset, .unset] []))
  refine own_st (fun _ k => XS.iconst X0.here hx rfl (hb hby own_d9_0) k) ?_
  refine own_st (fun _ k => XS.istore X0.here hx rfl (hb hby own_d9_1) rfl (l' := #[.val (.ref a), .val (.int 0), .val (.ref b), .val (.int 0), .val (.int 3), .val (.int 0), .unset]) rfl k) ?_
  refine own_st (fun _ k => XS.iload X0.here hx rfl (hb hby own_d9_3) rfl k) ?_
  refine own_st (fun _ k => XS.iload X0.here hx rfl (hb hby own_d9_5) rfl k) ?_
  show own_Gl _ _ _ _ _ _ _ (s₁.setTop (mkF m 7 #[.val (.ref a), .val (.int 0), .val (.ref b), .val (.int 0), .val (.int 3), .val (.int 0), .unset] [(.int 3), (.int 0)]))
  have hd1 : (0 : Int32) < (3 : Int32) := (by decide)
  refine own_st (fun _ k => XS.icmpNo X0.here hx rfl (hb hby own_d9_7) rfl (tlt hd1).2.1 k) ?_
  refine own_st (fun _ k => XS.aloadN X0.here hx rfl (hb hby own_d9_10) rfl rfl k) ?_
  refine own_st (fun _ k => XS.iloadN X0.here hx rfl (hb hby own_d9_11) rfl k) ?_
  obtain ⟨cl2, Ar2, qq2, Ss2, Nn2, Hh2, Gg2⟩ := id V_a
  have hin2 : ¬ ((0 : Int32) < 0 ∨ cl2.slots.size ≤ ((0 : Int32)).toNatClampNeg) := inb_of Ss2 ⟨by decide, by decide⟩
  have hat2 : cl2.slots[((0 : Int32)).toNatClampNeg]? = some (.int v0) := Hh2.at hin2 (rfl)
  refine own_st (X0.caload hx (j := (0 : Int32)) (v := (.int v0)) (by rw [e0]; exact Ar2.1) (State.isArrayOf_alike hZ.alike Ar2.2.1) Ar2.2.2 hin2 hat2 (g := (mkF m 12 #[.val (.ref a), .val (.int 0), .val (.ref b), .val (.int 0), .val (.int 3), .val (.int 0), .unset] [(.int 0), (.ref a)])) rfl rfl (hb hby own_d9_12)) ?_
  show own_Gl _ _ _ _ _ _ _ (s₁.setTop (mkF m 13 #[.val (.ref a), .val (.int 0), .val (.ref b), .val (.int 0), .val (.int 3), .val (.int 0), .unset] [(.int v0)]))
  refine own_st (fun _ k => XS.istore X0.here hx rfl (hb hby own_d9_13) rfl (l' := #[.val (.ref a), .val (.int 0), .val (.ref b), .val (.int 0), .val (.int 3), .val (.int 0), .val (.int v0)]) rfl k) ?_
  refine own_st (fun _ k => XS.iload X0.here hx rfl (hb hby own_d9_15) rfl k) ?_
  refine own_st (fun _ k => XS.sipush X0.here hx rfl (hb hby own_d9_17) k) ?_
  have hd3 : (255 : Int32) < v0 := hgt
  refine own_st (fun _ k => XS.icmpNo X0.here hx rfl (hb hby own_d9_20) rfl (tlt hd3).2.2.2 k) ?_
  show own_Gl _ _ _ _ _ _ _ (s₁.setTop (mkF m 23 #[.val (.ref a), .val (.int 0), .val (.ref b), .val (.int 0), .val (.int 3), .val (.int 0), .val (.int v0)] []))
  refine own_st (fun _ k => XS.iload X0.here hx rfl (hb hby own_d9_23) rfl k) ?_
  show own_Gl _ _ _ _ _ _ _ (s₁.setTop (mkF m 25 #[.val (.ref a), .val (.int 0), .val (.ref b), .val (.int 0), .val (.int 3), .val (.int 0), .val (.int v0)] [(.int 0)]))
  exact own_retI X0 hx hlk hret (hb hby own_d9_25) e0 ⟨rfl, N0, (Keep.refl h0 [b]), V_b⟩ (by decide) (by decide)
theorem own_ef_own_c5_3_1 (m : MethodId) (x0 : Addr) (x1 : Int32) (x2 : Addr) (x3 : Int32) (x4 : Int32) : entryFrame m #[(.ref x0), (.int x1), (.ref x2), (.int x3), (.int x4)] 7 = mkF m 0 #[.val (.ref x0), .val (.int x1), .val (.ref x2), .val (.int x3), .val (.int x4), .unset, .unset] [] := by first | (simp [entryFrame, mkF, argsToLocals, Value.category]; done) | rfl
def own_Q_own_c5_3_1 (Z : State) (a : Addr) (b : Addr) (k : ClassId) (kb : ClassId) (v0 : Int32) (v1 : Int32) (v2 : Int32) (h0 : Heap) (n0 : Nat) (v : Option Value) (h : Heap) (L : List Loc) : Prop := (v = some (.int 1)) ∧ (Fr n0 L) ∧ (Keep h0 h [b]) ∧ (Arv Z h b kb .byte (3 : Int32) [(.int (nar .byte (v0.toInt8.toInt32))), (.int 0), (.int 0)] (.int 0))

theorem own_c5_3_1 (l : Launch) (Z : State) (a0 : Array Value) (hw : oT a0 Z) (ws : List Jvm.Cond) (a : Addr) (b : Addr) (k : ClassId) (kb : ClassId) (v0 : Int32) (v1 : Int32) (v2 : Int32) (h0 : Heap) (n0 : Nat) (Z0 : n0 ≤ h0.size) (V_a : Arv Z h0 a k .char (3 : Int32) [(.int v0), (.int v1), (.int v2)] (.int 0)) (V_b : Arv Z h0 b kb .byte (3 : Int32) [(.int 0), (.int 0), (.int 0)] (.int 0)) (g_b : n0 ≤ b) (ne_a_b : a ≠ b) (hle0 : ¬ ((255 : Int32) < v0)) (hgt : (255 : Int32) < v1) :
    oMet l oM13 jdk_52_method_21_code 7 (some .int) ws ⟨0, 0, 0, 0⟩ #[(.ref a), (.int 0), (.ref b), (.int 0), (.int 3)] Z h0 (own_Q_own_c5_3_1 Z a b k kb v0 v1 v2 h0 n0) := by
  refine oB n0 "java/lang/StringUTF16" rfl (plainFor_of_name own_pn730740715) (fun m => own_ef_own_c5_3_1 m a (0 : Int32) b (0 : Int32) (3 : Int32)) ?_
  intro p e s m below meth c s₁ hZ hx hby hlk hret hml hown hnm X0 e0 N0
  show own_Gl _ _ _ _ _ _ _ (s₁.setTop (mkF m 0 #[.val (.ref a), .val (.int 0), .val (.ref b), .val (.int 0), .val (.int 3), .unset, .unset] []))
  refine own_st (fun _ k => XS.iconst X0.here hx rfl (hb hby own_d9_0) k) ?_
  refine own_st (fun _ k => XS.istore X0.here hx rfl (hb hby own_d9_1) rfl (l' := #[.val (.ref a), .val (.int 0), .val (.ref b), .val (.int 0), .val (.int 3), .val (.int 0), .unset]) rfl k) ?_
  refine own_st (fun _ k => XS.iload X0.here hx rfl (hb hby own_d9_3) rfl k) ?_
  refine own_st (fun _ k => XS.iload X0.here hx rfl (hb hby own_d9_5) rfl k) ?_
  show own_Gl _ _ _ _ _ _ _ (s₁.setTop (mkF m 7 #[.val (.ref a), .val (.int 0), .val (.ref b), .val (.int 0), .val (.int 3), .val (.int 0), .unset] [(.int 3), (.int 0)]))
  have hd1 : (0 : Int32) < (3 : Int32) := (by decide)
  refine own_st (fun _ k => XS.icmpNo X0.here hx rfl (hb hby own_d9_7) rfl (tlt hd1).2.1 k) ?_
  refine own_st (fun _ k => XS.aloadN X0.here hx rfl (hb hby own_d9_10) rfl rfl k) ?_
  refine own_st (fun _ k => XS.iloadN X0.here hx rfl (hb hby own_d9_11) rfl k) ?_
  obtain ⟨cl2, Ar2, qq2, Ss2, Nn2, Hh2, Gg2⟩ := id V_a
  have hin2 : ¬ ((0 : Int32) < 0 ∨ cl2.slots.size ≤ ((0 : Int32)).toNatClampNeg) := inb_of Ss2 ⟨by decide, by decide⟩
  have hat2 : cl2.slots[((0 : Int32)).toNatClampNeg]? = some (.int v0) := Hh2.at hin2 (rfl)
  refine own_st (X0.caload hx (j := (0 : Int32)) (v := (.int v0)) (by rw [e0]; exact Ar2.1) (State.isArrayOf_alike hZ.alike Ar2.2.1) Ar2.2.2 hin2 hat2 (g := (mkF m 12 #[.val (.ref a), .val (.int 0), .val (.ref b), .val (.int 0), .val (.int 3), .val (.int 0), .unset] [(.int 0), (.ref a)])) rfl rfl (hb hby own_d9_12)) ?_
  show own_Gl _ _ _ _ _ _ _ (s₁.setTop (mkF m 13 #[.val (.ref a), .val (.int 0), .val (.ref b), .val (.int 0), .val (.int 3), .val (.int 0), .unset] [(.int v0)]))
  refine own_st (fun _ k => XS.istore X0.here hx rfl (hb hby own_d9_13) rfl (l' := #[.val (.ref a), .val (.int 0), .val (.ref b), .val (.int 0), .val (.int 3), .val (.int 0), .val (.int v0)]) rfl k) ?_
  refine own_st (fun _ k => XS.iload X0.here hx rfl (hb hby own_d9_15) rfl k) ?_
  refine own_st (fun _ k => XS.sipush X0.here hx rfl (hb hby own_d9_17) k) ?_
  have hd3 : ¬ ((255 : Int32) < v0) := hle0
  refine own_st (fun _ k => XS.icmpYes X0.here hx rfl (pc0 := 20) (pc' := 26) rfl (hb hby own_d9_20) rfl (flt hd3).2.2.2 (by decide) (by decide) k) ?_
  show own_Gl _ _ _ _ _ _ _ (s₁.setTop (mkF m 26 #[.val (.ref a), .val (.int 0), .val (.ref b), .val (.int 0), .val (.int 3), .val (.int 0), .val (.int v0)] []))
  refine own_st (fun _ k => XS.aloadN X0.here hx rfl (hb hby own_d9_26) rfl rfl k) ?_
  refine own_st (fun _ k => XS.iloadN X0.here hx rfl (hb hby own_d9_27) rfl k) ?_
  refine own_st (fun _ k => XS.iload X0.here hx rfl (hb hby own_d9_28) rfl k) ?_
  refine own_st (fun _ k => XS.i2b X0.here hx rfl (hb hby own_d9_30) rfl k) ?_
  show own_Gl _ _ _ _ _ _ _ (s₁.setTop (mkF m 31 #[.val (.ref a), .val (.int 0), .val (.ref b), .val (.int 0), .val (.int 3), .val (.int 0), .val (.int v0)] [(.int (v0.toInt8.toInt32)), (.int 0), (.ref b)]))
  obtain ⟨cl4, Ar4, qq4, Ss4, Nn4, Hh4, Gg4⟩ := id V_b
  have hin4 : ¬ ((0 : Int32) < 0 ∨ cl4.slots.size ≤ ((0 : Int32)).toNatClampNeg) := inb_of Ss4 ⟨by decide, by decide⟩
  obtain ⟨T4, h4, X4, e4, W4, st4⟩ := stB X0 hx hZ e0 Ar4 (j := (0 : Int32)) hin4 (g := (mkF m 31 #[.val (.ref a), .val (.int 0), .val (.ref b), .val (.int 0), .val (.int 3), .val (.int 0), .val (.int v0)] [(.int (v0.toInt8.toInt32)), (.int 0), (.ref b)])) rfl rfl (hb hby own_d9_31)
  have N4 := Fr.snoc X4 N0 g_b
  refine own_st st4 ?_
  have Zs5 : n0 ≤ h4.size := Nat.le_trans Z0 (Keep.of_wr W4).1
  have Vw4 : Arv Z h4 b kb .byte (3 : Int32) [(.int (nar .byte (v0.toInt8.toInt32))), (.int 0), (.int 0)] (.int 0) := Arv.set Ar4 qq4 Ss4 Nn4 Hh4 Gg4 (fits_nar_byte _) W4 0 (rfl) (Nat.le_of_ble_eq_true rfl)
  refine own_st (fun _ k => XS.iinc X4.here hx rfl (hb hby own_d9_32) rfl (l' := #[.val (.ref a), .val (.int 1), .val (.ref b), .val (.int 0), .val (.int 3), .val (.int 0), .val (.int v0)]) rfl k) ?_
  refine own_st (fun _ k => XS.iinc X4.here hx rfl (hb hby own_d9_35) rfl (l' := #[.val (.ref a), .val (.int 1), .val (.ref b), .val (.int 1), .val (.int 3), .val (.int 0), .val (.int v0)]) rfl k) ?_
  refine own_st (fun _ k => XS.iinc X4.here hx rfl (hb hby own_d9_38) rfl (l' := #[.val (.ref a), .val (.int 1), .val (.ref b), .val (.int 1), .val (.int 3), .val (.int 1), .val (.int v0)]) rfl k) ?_
  show own_Gl _ _ _ _ _ _ _ (T4.setTop (mkF m 41 #[.val (.ref a), .val (.int 1), .val (.ref b), .val (.int 1), .val (.int 3), .val (.int 1), .val (.int v0)] []))
  refine own_st (fun _ k => XS.goto X4.here hx rfl (pc0 := 41) (pc' := 3) rfl (hb hby own_d9_41) (by decide) (by decide) k) ?_
  refine own_st (fun _ k => XS.iload X4.here hx rfl (hb hby own_d9_3) rfl k) ?_
  refine own_st (fun _ k => XS.iload X4.here hx rfl (hb hby own_d9_5) rfl k) ?_
  have hd6 : (1 : Int32) < (3 : Int32) := (by decide)
  refine own_st (fun _ k => XS.icmpNo X4.here hx rfl (hb hby own_d9_7) rfl (tlt hd6).2.1 k) ?_
  show own_Gl _ _ _ _ _ _ _ (T4.setTop (mkF m 10 #[.val (.ref a), .val (.int 1), .val (.ref b), .val (.int 1), .val (.int 3), .val (.int 1), .val (.int v0)] []))
  refine own_st (fun _ k => XS.aloadN X4.here hx rfl (hb hby own_d9_10) rfl rfl k) ?_
  refine own_st (fun _ k => XS.iloadN X4.here hx rfl (hb hby own_d9_11) rfl k) ?_
  have f7 := (V_a.other W4 ne_a_b)
  obtain ⟨cl8, Ar8, qq8, Ss8, Nn8, Hh8, Gg8⟩ := id f7
  have hin8 : ¬ ((1 : Int32) < 0 ∨ cl8.slots.size ≤ ((1 : Int32)).toNatClampNeg) := inb_of Ss8 ⟨by decide, by decide⟩
  have hat8 : cl8.slots[((1 : Int32)).toNatClampNeg]? = some (.int v1) := Hh8.at hin8 (rfl)
  refine own_st (X4.caload hx (j := (1 : Int32)) (v := (.int v1)) (by rw [e4]; exact Ar8.1) (State.isArrayOf_alike hZ.alike Ar8.2.1) Ar8.2.2 hin8 hat8 (g := (mkF m 12 #[.val (.ref a), .val (.int 1), .val (.ref b), .val (.int 1), .val (.int 3), .val (.int 1), .val (.int v0)] [(.int 1), (.ref a)])) rfl rfl (hb hby own_d9_12)) ?_
  refine own_st (fun _ k => XS.istore X4.here hx rfl (hb hby own_d9_13) rfl (l' := #[.val (.ref a), .val (.int 1), .val (.ref b), .val (.int 1), .val (.int 3), .val (.int 1), .val (.int v1)]) rfl k) ?_
  show own_Gl _ _ _ _ _ _ _ (T4.setTop (mkF m 15 #[.val (.ref a), .val (.int 1), .val (.ref b), .val (.int 1), .val (.int 3), .val (.int 1), .val (.int v1)] []))
  refine own_st (fun _ k => XS.iload X4.here hx rfl (hb hby own_d9_15) rfl k) ?_
  refine own_st (fun _ k => XS.sipush X4.here hx rfl (hb hby own_d9_17) k) ?_
  have hd9 : (255 : Int32) < v1 := hgt
  refine own_st (fun _ k => XS.icmpNo X4.here hx rfl (hb hby own_d9_20) rfl (tlt hd9).2.2.2 k) ?_
  refine own_st (fun _ k => XS.iload X4.here hx rfl (hb hby own_d9_23) rfl k) ?_
  show own_Gl _ _ _ _ _ _ _ (T4.setTop (mkF m 25 #[.val (.ref a), .val (.int 1), .val (.ref b), .val (.int 1), .val (.int 3), .val (.int 1), .val (.int v1)] [(.int 1)]))
  have K10 : Keep h0 h4 [b] := ((Keep.refl h0 [b]).wr W4 (Or.inl (List.mem_of_getElem? (i := 0) rfl)))
  exact own_retI X4 hx hlk hret (hb hby own_d9_25) e4 ⟨rfl, N4, K10, Vw4⟩ (by decide) (by decide)
theorem own_ef_own_c5_3_2 (m : MethodId) (x0 : Addr) (x1 : Int32) (x2 : Addr) (x3 : Int32) (x4 : Int32) : entryFrame m #[(.ref x0), (.int x1), (.ref x2), (.int x3), (.int x4)] 7 = mkF m 0 #[.val (.ref x0), .val (.int x1), .val (.ref x2), .val (.int x3), .val (.int x4), .unset, .unset] [] := by first | (simp [entryFrame, mkF, argsToLocals, Value.category]; done) | rfl
def own_Q_own_c5_3_2 (Z : State) (a : Addr) (b : Addr) (k : ClassId) (kb : ClassId) (v0 : Int32) (v1 : Int32) (v2 : Int32) (h0 : Heap) (n0 : Nat) (v : Option Value) (h : Heap) (L : List Loc) : Prop := (v = some (.int 2)) ∧ (Fr n0 L) ∧ (Keep h0 h [b]) ∧ (Arv Z h b kb .byte (3 : Int32) [(.int (nar .byte (v0.toInt8.toInt32))), (.int (nar .byte (v1.toInt8.toInt32))), (.int 0)] (.int 0))

theorem own_c5_3_2 (l : Launch) (Z : State) (a0 : Array Value) (hw : oT a0 Z) (ws : List Jvm.Cond) (a : Addr) (b : Addr) (k : ClassId) (kb : ClassId) (v0 : Int32) (v1 : Int32) (v2 : Int32) (h0 : Heap) (n0 : Nat) (Z0 : n0 ≤ h0.size) (V_a : Arv Z h0 a k .char (3 : Int32) [(.int v0), (.int v1), (.int v2)] (.int 0)) (V_b : Arv Z h0 b kb .byte (3 : Int32) [(.int 0), (.int 0), (.int 0)] (.int 0)) (g_b : n0 ≤ b) (ne_a_b : a ≠ b) (hle0 : ¬ ((255 : Int32) < v0)) (hle1 : ¬ ((255 : Int32) < v1)) (hgt : (255 : Int32) < v2) :
    oMet l oM13 jdk_52_method_21_code 7 (some .int) ws ⟨0, 0, 0, 0⟩ #[(.ref a), (.int 0), (.ref b), (.int 0), (.int 3)] Z h0 (own_Q_own_c5_3_2 Z a b k kb v0 v1 v2 h0 n0) := by
  refine oB n0 "java/lang/StringUTF16" rfl (plainFor_of_name own_pn730740715) (fun m => own_ef_own_c5_3_2 m a (0 : Int32) b (0 : Int32) (3 : Int32)) ?_
  intro p e s m below meth c s₁ hZ hx hby hlk hret hml hown hnm X0 e0 N0
  show own_Gl _ _ _ _ _ _ _ (s₁.setTop (mkF m 0 #[.val (.ref a), .val (.int 0), .val (.ref b), .val (.int 0), .val (.int 3), .unset, .unset] []))
  refine own_st (fun _ k => XS.iconst X0.here hx rfl (hb hby own_d9_0) k) ?_
  refine own_st (fun _ k => XS.istore X0.here hx rfl (hb hby own_d9_1) rfl (l' := #[.val (.ref a), .val (.int 0), .val (.ref b), .val (.int 0), .val (.int 3), .val (.int 0), .unset]) rfl k) ?_
  refine own_st (fun _ k => XS.iload X0.here hx rfl (hb hby own_d9_3) rfl k) ?_
  refine own_st (fun _ k => XS.iload X0.here hx rfl (hb hby own_d9_5) rfl k) ?_
  show own_Gl _ _ _ _ _ _ _ (s₁.setTop (mkF m 7 #[.val (.ref a), .val (.int 0), .val (.ref b), .val (.int 0), .val (.int 3), .val (.int 0), .unset] [(.int 3), (.int 0)]))
  have hd1 : (0 : Int32) < (3 : Int32) := (by decide)
  refine own_st (fun _ k => XS.icmpNo X0.here hx rfl (hb hby own_d9_7) rfl (tlt hd1).2.1 k) ?_
  refine own_st (fun _ k => XS.aloadN X0.here hx rfl (hb hby own_d9_10) rfl rfl k) ?_
  refine own_st (fun _ k => XS.iloadN X0.here hx rfl (hb hby own_d9_11) rfl k) ?_
  obtain ⟨cl2, Ar2, qq2, Ss2, Nn2, Hh2, Gg2⟩ := id V_a
  have hin2 : ¬ ((0 : Int32) < 0 ∨ cl2.slots.size ≤ ((0 : Int32)).toNatClampNeg) := inb_of Ss2 ⟨by decide, by decide⟩
  have hat2 : cl2.slots[((0 : Int32)).toNatClampNeg]? = some (.int v0) := Hh2.at hin2 (rfl)
  refine own_st (X0.caload hx (j := (0 : Int32)) (v := (.int v0)) (by rw [e0]; exact Ar2.1) (State.isArrayOf_alike hZ.alike Ar2.2.1) Ar2.2.2 hin2 hat2 (g := (mkF m 12 #[.val (.ref a), .val (.int 0), .val (.ref b), .val (.int 0), .val (.int 3), .val (.int 0), .unset] [(.int 0), (.ref a)])) rfl rfl (hb hby own_d9_12)) ?_
  show own_Gl _ _ _ _ _ _ _ (s₁.setTop (mkF m 13 #[.val (.ref a), .val (.int 0), .val (.ref b), .val (.int 0), .val (.int 3), .val (.int 0), .unset] [(.int v0)]))
  refine own_st (fun _ k => XS.istore X0.here hx rfl (hb hby own_d9_13) rfl (l' := #[.val (.ref a), .val (.int 0), .val (.ref b), .val (.int 0), .val (.int 3), .val (.int 0), .val (.int v0)]) rfl k) ?_
  refine own_st (fun _ k => XS.iload X0.here hx rfl (hb hby own_d9_15) rfl k) ?_
  refine own_st (fun _ k => XS.sipush X0.here hx rfl (hb hby own_d9_17) k) ?_
  have hd3 : ¬ ((255 : Int32) < v0) := hle0
  refine own_st (fun _ k => XS.icmpYes X0.here hx rfl (pc0 := 20) (pc' := 26) rfl (hb hby own_d9_20) rfl (flt hd3).2.2.2 (by decide) (by decide) k) ?_
  show own_Gl _ _ _ _ _ _ _ (s₁.setTop (mkF m 26 #[.val (.ref a), .val (.int 0), .val (.ref b), .val (.int 0), .val (.int 3), .val (.int 0), .val (.int v0)] []))
  refine own_st (fun _ k => XS.aloadN X0.here hx rfl (hb hby own_d9_26) rfl rfl k) ?_
  refine own_st (fun _ k => XS.iloadN X0.here hx rfl (hb hby own_d9_27) rfl k) ?_
  refine own_st (fun _ k => XS.iload X0.here hx rfl (hb hby own_d9_28) rfl k) ?_
  refine own_st (fun _ k => XS.i2b X0.here hx rfl (hb hby own_d9_30) rfl k) ?_
  show own_Gl _ _ _ _ _ _ _ (s₁.setTop (mkF m 31 #[.val (.ref a), .val (.int 0), .val (.ref b), .val (.int 0), .val (.int 3), .val (.int 0), .val (.int v0)] [(.int (v0.toInt8.toInt32)), (.int 0), (.ref b)]))
  obtain ⟨cl4, Ar4, qq4, Ss4, Nn4, Hh4, Gg4⟩ := id V_b
  have hin4 : ¬ ((0 : Int32) < 0 ∨ cl4.slots.size ≤ ((0 : Int32)).toNatClampNeg) := inb_of Ss4 ⟨by decide, by decide⟩
  obtain ⟨T4, h4, X4, e4, W4, st4⟩ := stB X0 hx hZ e0 Ar4 (j := (0 : Int32)) hin4 (g := (mkF m 31 #[.val (.ref a), .val (.int 0), .val (.ref b), .val (.int 0), .val (.int 3), .val (.int 0), .val (.int v0)] [(.int (v0.toInt8.toInt32)), (.int 0), (.ref b)])) rfl rfl (hb hby own_d9_31)
  have N4 := Fr.snoc X4 N0 g_b
  refine own_st st4 ?_
  have Zs5 : n0 ≤ h4.size := Nat.le_trans Z0 (Keep.of_wr W4).1
  have Vw4 : Arv Z h4 b kb .byte (3 : Int32) [(.int (nar .byte (v0.toInt8.toInt32))), (.int 0), (.int 0)] (.int 0) := Arv.set Ar4 qq4 Ss4 Nn4 Hh4 Gg4 (fits_nar_byte _) W4 0 (rfl) (Nat.le_of_ble_eq_true rfl)
  refine own_st (fun _ k => XS.iinc X4.here hx rfl (hb hby own_d9_32) rfl (l' := #[.val (.ref a), .val (.int 1), .val (.ref b), .val (.int 0), .val (.int 3), .val (.int 0), .val (.int v0)]) rfl k) ?_
  refine own_st (fun _ k => XS.iinc X4.here hx rfl (hb hby own_d9_35) rfl (l' := #[.val (.ref a), .val (.int 1), .val (.ref b), .val (.int 1), .val (.int 3), .val (.int 0), .val (.int v0)]) rfl k) ?_
  refine own_st (fun _ k => XS.iinc X4.here hx rfl (hb hby own_d9_38) rfl (l' := #[.val (.ref a), .val (.int 1), .val (.ref b), .val (.int 1), .val (.int 3), .val (.int 1), .val (.int v0)]) rfl k) ?_
  show own_Gl _ _ _ _ _ _ _ (T4.setTop (mkF m 41 #[.val (.ref a), .val (.int 1), .val (.ref b), .val (.int 1), .val (.int 3), .val (.int 1), .val (.int v0)] []))
  refine own_st (fun _ k => XS.goto X4.here hx rfl (pc0 := 41) (pc' := 3) rfl (hb hby own_d9_41) (by decide) (by decide) k) ?_
  refine own_st (fun _ k => XS.iload X4.here hx rfl (hb hby own_d9_3) rfl k) ?_
  refine own_st (fun _ k => XS.iload X4.here hx rfl (hb hby own_d9_5) rfl k) ?_
  have hd6 : (1 : Int32) < (3 : Int32) := (by decide)
  refine own_st (fun _ k => XS.icmpNo X4.here hx rfl (hb hby own_d9_7) rfl (tlt hd6).2.1 k) ?_
  show own_Gl _ _ _ _ _ _ _ (T4.setTop (mkF m 10 #[.val (.ref a), .val (.int 1), .val (.ref b), .val (.int 1), .val (.int 3), .val (.int 1), .val (.int v0)] []))
  refine own_st (fun _ k => XS.aloadN X4.here hx rfl (hb hby own_d9_10) rfl rfl k) ?_
  refine own_st (fun _ k => XS.iloadN X4.here hx rfl (hb hby own_d9_11) rfl k) ?_
  have f7 := (V_a.other W4 ne_a_b)
  obtain ⟨cl8, Ar8, qq8, Ss8, Nn8, Hh8, Gg8⟩ := id f7
  have hin8 : ¬ ((1 : Int32) < 0 ∨ cl8.slots.size ≤ ((1 : Int32)).toNatClampNeg) := inb_of Ss8 ⟨by decide, by decide⟩
  have hat8 : cl8.slots[((1 : Int32)).toNatClampNeg]? = some (.int v1) := Hh8.at hin8 (rfl)
  refine own_st (X4.caload hx (j := (1 : Int32)) (v := (.int v1)) (by rw [e4]; exact Ar8.1) (State.isArrayOf_alike hZ.alike Ar8.2.1) Ar8.2.2 hin8 hat8 (g := (mkF m 12 #[.val (.ref a), .val (.int 1), .val (.ref b), .val (.int 1), .val (.int 3), .val (.int 1), .val (.int v0)] [(.int 1), (.ref a)])) rfl rfl (hb hby own_d9_12)) ?_
  refine own_st (fun _ k => XS.istore X4.here hx rfl (hb hby own_d9_13) rfl (l' := #[.val (.ref a), .val (.int 1), .val (.ref b), .val (.int 1), .val (.int 3), .val (.int 1), .val (.int v1)]) rfl k) ?_
  show own_Gl _ _ _ _ _ _ _ (T4.setTop (mkF m 15 #[.val (.ref a), .val (.int 1), .val (.ref b), .val (.int 1), .val (.int 3), .val (.int 1), .val (.int v1)] []))
  refine own_st (fun _ k => XS.iload X4.here hx rfl (hb hby own_d9_15) rfl k) ?_
  refine own_st (fun _ k => XS.sipush X4.here hx rfl (hb hby own_d9_17) k) ?_
  have hd9 : ¬ ((255 : Int32) < v1) := hle1
  refine own_st (fun _ k => XS.icmpYes X4.here hx rfl (pc0 := 20) (pc' := 26) rfl (hb hby own_d9_20) rfl (flt hd9).2.2.2 (by decide) (by decide) k) ?_
  refine own_st (fun _ k => XS.aloadN X4.here hx rfl (hb hby own_d9_26) rfl rfl k) ?_
  show own_Gl _ _ _ _ _ _ _ (T4.setTop (mkF m 27 #[.val (.ref a), .val (.int 1), .val (.ref b), .val (.int 1), .val (.int 3), .val (.int 1), .val (.int v1)] [(.ref b)]))
  refine own_st (fun _ k => XS.iloadN X4.here hx rfl (hb hby own_d9_27) rfl k) ?_
  refine own_st (fun _ k => XS.iload X4.here hx rfl (hb hby own_d9_28) rfl k) ?_
  refine own_st (fun _ k => XS.i2b X4.here hx rfl (hb hby own_d9_30) rfl k) ?_
  obtain ⟨cl10, Ar10, qq10, Ss10, Nn10, Hh10, Gg10⟩ := id Vw4
  have hin10 : ¬ ((1 : Int32) < 0 ∨ cl10.slots.size ≤ ((1 : Int32)).toNatClampNeg) := inb_of Ss10 ⟨by decide, by decide⟩
  obtain ⟨T10, h10, X10, e10, W10, st10⟩ := stB X4 hx hZ e4 Ar10 (j := (1 : Int32)) hin10 (g := (mkF m 31 #[.val (.ref a), .val (.int 1), .val (.ref b), .val (.int 1), .val (.int 3), .val (.int 1), .val (.int v1)] [(.int (v1.toInt8.toInt32)), (.int 1), (.ref b)])) rfl rfl (hb hby own_d9_31)
  have N10 := Fr.snoc X10 N4 g_b
  refine own_st st10 ?_
  have Zs11 : n0 ≤ h10.size := Nat.le_trans Zs5 (Keep.of_wr W10).1
  have Vw10 : Arv Z h10 b kb .byte (3 : Int32) [(.int (nar .byte (v0.toInt8.toInt32))), (.int (nar .byte (v1.toInt8.toInt32))), (.int 0)] (.int 0) := Arv.set Ar10 qq10 Ss10 Nn10 Hh10 Gg10 (fits_nar_byte _) W10 1 (rfl) (Nat.le_of_ble_eq_true rfl)
  show own_Gl _ _ _ _ _ _ _ (T10.setTop (mkF m 32 #[.val (.ref a), .val (.int 1), .val (.ref b), .val (.int 1), .val (.int 3), .val (.int 1), .val (.int v1)] []))
  refine own_st (fun _ k => XS.iinc X10.here hx rfl (hb hby own_d9_32) rfl (l' := #[.val (.ref a), .val (.int 2), .val (.ref b), .val (.int 1), .val (.int 3), .val (.int 1), .val (.int v1)]) rfl k) ?_
  refine own_st (fun _ k => XS.iinc X10.here hx rfl (hb hby own_d9_35) rfl (l' := #[.val (.ref a), .val (.int 2), .val (.ref b), .val (.int 2), .val (.int 3), .val (.int 1), .val (.int v1)]) rfl k) ?_
  refine own_st (fun _ k => XS.iinc X10.here hx rfl (hb hby own_d9_38) rfl (l' := #[.val (.ref a), .val (.int 2), .val (.ref b), .val (.int 2), .val (.int 3), .val (.int 2), .val (.int v1)]) rfl k) ?_
  refine own_st (fun _ k => XS.goto X10.here hx rfl (pc0 := 41) (pc' := 3) rfl (hb hby own_d9_41) (by decide) (by decide) k) ?_
  show own_Gl _ _ _ _ _ _ _ (T10.setTop (mkF m 3 #[.val (.ref a), .val (.int 2), .val (.ref b), .val (.int 2), .val (.int 3), .val (.int 2), .val (.int v1)] []))
  refine own_st (fun _ k => XS.iload X10.here hx rfl (hb hby own_d9_3) rfl k) ?_
  refine own_st (fun _ k => XS.iload X10.here hx rfl (hb hby own_d9_5) rfl k) ?_
  have hd12 : (2 : Int32) < (3 : Int32) := (by decide)
  refine own_st (fun _ k => XS.icmpNo X10.here hx rfl (hb hby own_d9_7) rfl (tlt hd12).2.1 k) ?_
  refine own_st (fun _ k => XS.aloadN X10.here hx rfl (hb hby own_d9_10) rfl rfl k) ?_
  show own_Gl _ _ _ _ _ _ _ (T10.setTop (mkF m 11 #[.val (.ref a), .val (.int 2), .val (.ref b), .val (.int 2), .val (.int 3), .val (.int 2), .val (.int v1)] [(.ref a)]))
  refine own_st (fun _ k => XS.iloadN X10.here hx rfl (hb hby own_d9_11) rfl k) ?_
  have f13 := (f7.other W10 ne_a_b)
  obtain ⟨cl14, Ar14, qq14, Ss14, Nn14, Hh14, Gg14⟩ := id f13
  have hin14 : ¬ ((2 : Int32) < 0 ∨ cl14.slots.size ≤ ((2 : Int32)).toNatClampNeg) := inb_of Ss14 ⟨by decide, by decide⟩
  have hat14 : cl14.slots[((2 : Int32)).toNatClampNeg]? = some (.int v2) := Hh14.at hin14 (rfl)
  refine own_st (X10.caload hx (j := (2 : Int32)) (v := (.int v2)) (by rw [e10]; exact Ar14.1) (State.isArrayOf_alike hZ.alike Ar14.2.1) Ar14.2.2 hin14 hat14 (g := (mkF m 12 #[.val (.ref a), .val (.int 2), .val (.ref b), .val (.int 2), .val (.int 3), .val (.int 2), .val (.int v1)] [(.int 2), (.ref a)])) rfl rfl (hb hby own_d9_12)) ?_
  refine own_st (fun _ k => XS.istore X10.here hx rfl (hb hby own_d9_13) rfl (l' := #[.val (.ref a), .val (.int 2), .val (.ref b), .val (.int 2), .val (.int 3), .val (.int 2), .val (.int v2)]) rfl k) ?_
  refine own_st (fun _ k => XS.iload X10.here hx rfl (hb hby own_d9_15) rfl k) ?_
  show own_Gl _ _ _ _ _ _ _ (T10.setTop (mkF m 17 #[.val (.ref a), .val (.int 2), .val (.ref b), .val (.int 2), .val (.int 3), .val (.int 2), .val (.int v2)] [(.int v2)]))
  refine own_st (fun _ k => XS.sipush X10.here hx rfl (hb hby own_d9_17) k) ?_
  have hd15 : (255 : Int32) < v2 := hgt
  refine own_st (fun _ k => XS.icmpNo X10.here hx rfl (hb hby own_d9_20) rfl (tlt hd15).2.2.2 k) ?_
  refine own_st (fun _ k => XS.iload X10.here hx rfl (hb hby own_d9_23) rfl k) ?_
  show own_Gl _ _ _ _ _ _ _ (T10.setTop (mkF m 25 #[.val (.ref a), .val (.int 2), .val (.ref b), .val (.int 2), .val (.int 3), .val (.int 2), .val (.int v2)] [(.int 2)]))
  have K16 : Keep h0 h10 [b] := (((Keep.refl h0 [b]).wr W4 (Or.inl (List.mem_of_getElem? (i := 0) rfl))).wr W10 (Or.inl (List.mem_of_getElem? (i := 0) rfl)))
  exact own_retI X10 hx hlk hret (hb hby own_d9_25) e10 ⟨rfl, N10, K16, Vw10⟩ (by decide) (by decide)
theorem own_ef_own_c5_3_3 (m : MethodId) (x0 : Addr) (x1 : Int32) (x2 : Addr) (x3 : Int32) (x4 : Int32) : entryFrame m #[(.ref x0), (.int x1), (.ref x2), (.int x3), (.int x4)] 7 = mkF m 0 #[.val (.ref x0), .val (.int x1), .val (.ref x2), .val (.int x3), .val (.int x4), .unset, .unset] [] := by first | (simp [entryFrame, mkF, argsToLocals, Value.category]; done) | rfl
def own_Q_own_c5_3_3 (Z : State) (a : Addr) (b : Addr) (k : ClassId) (kb : ClassId) (v0 : Int32) (v1 : Int32) (v2 : Int32) (h0 : Heap) (n0 : Nat) (v : Option Value) (h : Heap) (L : List Loc) : Prop := (v = some (.int 3)) ∧ (Fr n0 L) ∧ (Keep h0 h [b]) ∧ (Arv Z h b kb .byte (3 : Int32) [(.int (nar .byte (v0.toInt8.toInt32))), (.int (nar .byte (v1.toInt8.toInt32))), (.int (nar .byte (v2.toInt8.toInt32)))] (.int 0))

theorem own_c5_3_3 (l : Launch) (Z : State) (a0 : Array Value) (hw : oT a0 Z) (ws : List Jvm.Cond) (a : Addr) (b : Addr) (k : ClassId) (kb : ClassId) (v0 : Int32) (v1 : Int32) (v2 : Int32) (h0 : Heap) (n0 : Nat) (Z0 : n0 ≤ h0.size) (V_a : Arv Z h0 a k .char (3 : Int32) [(.int v0), (.int v1), (.int v2)] (.int 0)) (V_b : Arv Z h0 b kb .byte (3 : Int32) [(.int 0), (.int 0), (.int 0)] (.int 0)) (g_b : n0 ≤ b) (ne_a_b : a ≠ b) (hle0 : ¬ ((255 : Int32) < v0)) (hle1 : ¬ ((255 : Int32) < v1)) (hle2 : ¬ ((255 : Int32) < v2)) :
    oMet l oM13 jdk_52_method_21_code 7 (some .int) ws ⟨0, 0, 0, 0⟩ #[(.ref a), (.int 0), (.ref b), (.int 0), (.int 3)] Z h0 (own_Q_own_c5_3_3 Z a b k kb v0 v1 v2 h0 n0) := by
  refine oB n0 "java/lang/StringUTF16" rfl (plainFor_of_name own_pn730740715) (fun m => own_ef_own_c5_3_3 m a (0 : Int32) b (0 : Int32) (3 : Int32)) ?_
  intro p e s m below meth c s₁ hZ hx hby hlk hret hml hown hnm X0 e0 N0
  show own_Gl _ _ _ _ _ _ _ (s₁.setTop (mkF m 0 #[.val (.ref a), .val (.int 0), .val (.ref b), .val (.int 0), .val (.int 3), .unset, .unset] []))
  refine own_st (fun _ k => XS.iconst X0.here hx rfl (hb hby own_d9_0) k) ?_
  refine own_st (fun _ k => XS.istore X0.here hx rfl (hb hby own_d9_1) rfl (l' := #[.val (.ref a), .val (.int 0), .val (.ref b), .val (.int 0), .val (.int 3), .val (.int 0), .unset]) rfl k) ?_
  refine own_st (fun _ k => XS.iload X0.here hx rfl (hb hby own_d9_3) rfl k) ?_
  refine own_st (fun _ k => XS.iload X0.here hx rfl (hb hby own_d9_5) rfl k) ?_
  show own_Gl _ _ _ _ _ _ _ (s₁.setTop (mkF m 7 #[.val (.ref a), .val (.int 0), .val (.ref b), .val (.int 0), .val (.int 3), .val (.int 0), .unset] [(.int 3), (.int 0)]))
  have hd1 : (0 : Int32) < (3 : Int32) := (by decide)
  refine own_st (fun _ k => XS.icmpNo X0.here hx rfl (hb hby own_d9_7) rfl (tlt hd1).2.1 k) ?_
  refine own_st (fun _ k => XS.aloadN X0.here hx rfl (hb hby own_d9_10) rfl rfl k) ?_
  refine own_st (fun _ k => XS.iloadN X0.here hx rfl (hb hby own_d9_11) rfl k) ?_
  obtain ⟨cl2, Ar2, qq2, Ss2, Nn2, Hh2, Gg2⟩ := id V_a
  have hin2 : ¬ ((0 : Int32) < 0 ∨ cl2.slots.size ≤ ((0 : Int32)).toNatClampNeg) := inb_of Ss2 ⟨by decide, by decide⟩
  have hat2 : cl2.slots[((0 : Int32)).toNatClampNeg]? = some (.int v0) := Hh2.at hin2 (rfl)
  refine own_st (X0.caload hx (j := (0 : Int32)) (v := (.int v0)) (by rw [e0]; exact Ar2.1) (State.isArrayOf_alike hZ.alike Ar2.2.1) Ar2.2.2 hin2 hat2 (g := (mkF m 12 #[.val (.ref a), .val (.int 0), .val (.ref b), .val (.int 0), .val (.int 3), .val (.int 0), .unset] [(.int 0), (.ref a)])) rfl rfl (hb hby own_d9_12)) ?_
  show own_Gl _ _ _ _ _ _ _ (s₁.setTop (mkF m 13 #[.val (.ref a), .val (.int 0), .val (.ref b), .val (.int 0), .val (.int 3), .val (.int 0), .unset] [(.int v0)]))
  refine own_st (fun _ k => XS.istore X0.here hx rfl (hb hby own_d9_13) rfl (l' := #[.val (.ref a), .val (.int 0), .val (.ref b), .val (.int 0), .val (.int 3), .val (.int 0), .val (.int v0)]) rfl k) ?_
  refine own_st (fun _ k => XS.iload X0.here hx rfl (hb hby own_d9_15) rfl k) ?_
  refine own_st (fun _ k => XS.sipush X0.here hx rfl (hb hby own_d9_17) k) ?_
  have hd3 : ¬ ((255 : Int32) < v0) := hle0
  refine own_st (fun _ k => XS.icmpYes X0.here hx rfl (pc0 := 20) (pc' := 26) rfl (hb hby own_d9_20) rfl (flt hd3).2.2.2 (by decide) (by decide) k) ?_
  show own_Gl _ _ _ _ _ _ _ (s₁.setTop (mkF m 26 #[.val (.ref a), .val (.int 0), .val (.ref b), .val (.int 0), .val (.int 3), .val (.int 0), .val (.int v0)] []))
  refine own_st (fun _ k => XS.aloadN X0.here hx rfl (hb hby own_d9_26) rfl rfl k) ?_
  refine own_st (fun _ k => XS.iloadN X0.here hx rfl (hb hby own_d9_27) rfl k) ?_
  refine own_st (fun _ k => XS.iload X0.here hx rfl (hb hby own_d9_28) rfl k) ?_
  refine own_st (fun _ k => XS.i2b X0.here hx rfl (hb hby own_d9_30) rfl k) ?_
  show own_Gl _ _ _ _ _ _ _ (s₁.setTop (mkF m 31 #[.val (.ref a), .val (.int 0), .val (.ref b), .val (.int 0), .val (.int 3), .val (.int 0), .val (.int v0)] [(.int (v0.toInt8.toInt32)), (.int 0), (.ref b)]))
  obtain ⟨cl4, Ar4, qq4, Ss4, Nn4, Hh4, Gg4⟩ := id V_b
  have hin4 : ¬ ((0 : Int32) < 0 ∨ cl4.slots.size ≤ ((0 : Int32)).toNatClampNeg) := inb_of Ss4 ⟨by decide, by decide⟩
  obtain ⟨T4, h4, X4, e4, W4, st4⟩ := stB X0 hx hZ e0 Ar4 (j := (0 : Int32)) hin4 (g := (mkF m 31 #[.val (.ref a), .val (.int 0), .val (.ref b), .val (.int 0), .val (.int 3), .val (.int 0), .val (.int v0)] [(.int (v0.toInt8.toInt32)), (.int 0), (.ref b)])) rfl rfl (hb hby own_d9_31)
  have N4 := Fr.snoc X4 N0 g_b
  refine own_st st4 ?_
  have Zs5 : n0 ≤ h4.size := Nat.le_trans Z0 (Keep.of_wr W4).1
  have Vw4 : Arv Z h4 b kb .byte (3 : Int32) [(.int (nar .byte (v0.toInt8.toInt32))), (.int 0), (.int 0)] (.int 0) := Arv.set Ar4 qq4 Ss4 Nn4 Hh4 Gg4 (fits_nar_byte _) W4 0 (rfl) (Nat.le_of_ble_eq_true rfl)
  refine own_st (fun _ k => XS.iinc X4.here hx rfl (hb hby own_d9_32) rfl (l' := #[.val (.ref a), .val (.int 1), .val (.ref b), .val (.int 0), .val (.int 3), .val (.int 0), .val (.int v0)]) rfl k) ?_
  refine own_st (fun _ k => XS.iinc X4.here hx rfl (hb hby own_d9_35) rfl (l' := #[.val (.ref a), .val (.int 1), .val (.ref b), .val (.int 1), .val (.int 3), .val (.int 0), .val (.int v0)]) rfl k) ?_
  refine own_st (fun _ k => XS.iinc X4.here hx rfl (hb hby own_d9_38) rfl (l' := #[.val (.ref a), .val (.int 1), .val (.ref b), .val (.int 1), .val (.int 3), .val (.int 1), .val (.int v0)]) rfl k) ?_
  show own_Gl _ _ _ _ _ _ _ (T4.setTop (mkF m 41 #[.val (.ref a), .val (.int 1), .val (.ref b), .val (.int 1), .val (.int 3), .val (.int 1), .val (.int v0)] []))
  refine own_st (fun _ k => XS.goto X4.here hx rfl (pc0 := 41) (pc' := 3) rfl (hb hby own_d9_41) (by decide) (by decide) k) ?_
  refine own_st (fun _ k => XS.iload X4.here hx rfl (hb hby own_d9_3) rfl k) ?_
  refine own_st (fun _ k => XS.iload X4.here hx rfl (hb hby own_d9_5) rfl k) ?_
  have hd6 : (1 : Int32) < (3 : Int32) := (by decide)
  refine own_st (fun _ k => XS.icmpNo X4.here hx rfl (hb hby own_d9_7) rfl (tlt hd6).2.1 k) ?_
  show own_Gl _ _ _ _ _ _ _ (T4.setTop (mkF m 10 #[.val (.ref a), .val (.int 1), .val (.ref b), .val (.int 1), .val (.int 3), .val (.int 1), .val (.int v0)] []))
  refine own_st (fun _ k => XS.aloadN X4.here hx rfl (hb hby own_d9_10) rfl rfl k) ?_
  refine own_st (fun _ k => XS.iloadN X4.here hx rfl (hb hby own_d9_11) rfl k) ?_
  have f7 := (V_a.other W4 ne_a_b)
  obtain ⟨cl8, Ar8, qq8, Ss8, Nn8, Hh8, Gg8⟩ := id f7
  have hin8 : ¬ ((1 : Int32) < 0 ∨ cl8.slots.size ≤ ((1 : Int32)).toNatClampNeg) := inb_of Ss8 ⟨by decide, by decide⟩
  have hat8 : cl8.slots[((1 : Int32)).toNatClampNeg]? = some (.int v1) := Hh8.at hin8 (rfl)
  refine own_st (X4.caload hx (j := (1 : Int32)) (v := (.int v1)) (by rw [e4]; exact Ar8.1) (State.isArrayOf_alike hZ.alike Ar8.2.1) Ar8.2.2 hin8 hat8 (g := (mkF m 12 #[.val (.ref a), .val (.int 1), .val (.ref b), .val (.int 1), .val (.int 3), .val (.int 1), .val (.int v0)] [(.int 1), (.ref a)])) rfl rfl (hb hby own_d9_12)) ?_
  refine own_st (fun _ k => XS.istore X4.here hx rfl (hb hby own_d9_13) rfl (l' := #[.val (.ref a), .val (.int 1), .val (.ref b), .val (.int 1), .val (.int 3), .val (.int 1), .val (.int v1)]) rfl k) ?_
  show own_Gl _ _ _ _ _ _ _ (T4.setTop (mkF m 15 #[.val (.ref a), .val (.int 1), .val (.ref b), .val (.int 1), .val (.int 3), .val (.int 1), .val (.int v1)] []))
  refine own_st (fun _ k => XS.iload X4.here hx rfl (hb hby own_d9_15) rfl k) ?_
  refine own_st (fun _ k => XS.sipush X4.here hx rfl (hb hby own_d9_17) k) ?_
  have hd9 : ¬ ((255 : Int32) < v1) := hle1
  refine own_st (fun _ k => XS.icmpYes X4.here hx rfl (pc0 := 20) (pc' := 26) rfl (hb hby own_d9_20) rfl (flt hd9).2.2.2 (by decide) (by decide) k) ?_
  refine own_st (fun _ k => XS.aloadN X4.here hx rfl (hb hby own_d9_26) rfl rfl k) ?_
  show own_Gl _ _ _ _ _ _ _ (T4.setTop (mkF m 27 #[.val (.ref a), .val (.int 1), .val (.ref b), .val (.int 1), .val (.int 3), .val (.int 1), .val (.int v1)] [(.ref b)]))
  refine own_st (fun _ k => XS.iloadN X4.here hx rfl (hb hby own_d9_27) rfl k) ?_
  refine own_st (fun _ k => XS.iload X4.here hx rfl (hb hby own_d9_28) rfl k) ?_
  refine own_st (fun _ k => XS.i2b X4.here hx rfl (hb hby own_d9_30) rfl k) ?_
  obtain ⟨cl10, Ar10, qq10, Ss10, Nn10, Hh10, Gg10⟩ := id Vw4
  have hin10 : ¬ ((1 : Int32) < 0 ∨ cl10.slots.size ≤ ((1 : Int32)).toNatClampNeg) := inb_of Ss10 ⟨by decide, by decide⟩
  obtain ⟨T10, h10, X10, e10, W10, st10⟩ := stB X4 hx hZ e4 Ar10 (j := (1 : Int32)) hin10 (g := (mkF m 31 #[.val (.ref a), .val (.int 1), .val (.ref b), .val (.int 1), .val (.int 3), .val (.int 1), .val (.int v1)] [(.int (v1.toInt8.toInt32)), (.int 1), (.ref b)])) rfl rfl (hb hby own_d9_31)
  have N10 := Fr.snoc X10 N4 g_b
  refine own_st st10 ?_
  have Zs11 : n0 ≤ h10.size := Nat.le_trans Zs5 (Keep.of_wr W10).1
  have Vw10 : Arv Z h10 b kb .byte (3 : Int32) [(.int (nar .byte (v0.toInt8.toInt32))), (.int (nar .byte (v1.toInt8.toInt32))), (.int 0)] (.int 0) := Arv.set Ar10 qq10 Ss10 Nn10 Hh10 Gg10 (fits_nar_byte _) W10 1 (rfl) (Nat.le_of_ble_eq_true rfl)
  show own_Gl _ _ _ _ _ _ _ (T10.setTop (mkF m 32 #[.val (.ref a), .val (.int 1), .val (.ref b), .val (.int 1), .val (.int 3), .val (.int 1), .val (.int v1)] []))
  refine own_st (fun _ k => XS.iinc X10.here hx rfl (hb hby own_d9_32) rfl (l' := #[.val (.ref a), .val (.int 2), .val (.ref b), .val (.int 1), .val (.int 3), .val (.int 1), .val (.int v1)]) rfl k) ?_
  refine own_st (fun _ k => XS.iinc X10.here hx rfl (hb hby own_d9_35) rfl (l' := #[.val (.ref a), .val (.int 2), .val (.ref b), .val (.int 2), .val (.int 3), .val (.int 1), .val (.int v1)]) rfl k) ?_
  refine own_st (fun _ k => XS.iinc X10.here hx rfl (hb hby own_d9_38) rfl (l' := #[.val (.ref a), .val (.int 2), .val (.ref b), .val (.int 2), .val (.int 3), .val (.int 2), .val (.int v1)]) rfl k) ?_
  refine own_st (fun _ k => XS.goto X10.here hx rfl (pc0 := 41) (pc' := 3) rfl (hb hby own_d9_41) (by decide) (by decide) k) ?_
  show own_Gl _ _ _ _ _ _ _ (T10.setTop (mkF m 3 #[.val (.ref a), .val (.int 2), .val (.ref b), .val (.int 2), .val (.int 3), .val (.int 2), .val (.int v1)] []))
  refine own_st (fun _ k => XS.iload X10.here hx rfl (hb hby own_d9_3) rfl k) ?_
  refine own_st (fun _ k => XS.iload X10.here hx rfl (hb hby own_d9_5) rfl k) ?_
  have hd12 : (2 : Int32) < (3 : Int32) := (by decide)
  refine own_st (fun _ k => XS.icmpNo X10.here hx rfl (hb hby own_d9_7) rfl (tlt hd12).2.1 k) ?_
  refine own_st (fun _ k => XS.aloadN X10.here hx rfl (hb hby own_d9_10) rfl rfl k) ?_
  show own_Gl _ _ _ _ _ _ _ (T10.setTop (mkF m 11 #[.val (.ref a), .val (.int 2), .val (.ref b), .val (.int 2), .val (.int 3), .val (.int 2), .val (.int v1)] [(.ref a)]))
  refine own_st (fun _ k => XS.iloadN X10.here hx rfl (hb hby own_d9_11) rfl k) ?_
  have f13 := (f7.other W10 ne_a_b)
  obtain ⟨cl14, Ar14, qq14, Ss14, Nn14, Hh14, Gg14⟩ := id f13
  have hin14 : ¬ ((2 : Int32) < 0 ∨ cl14.slots.size ≤ ((2 : Int32)).toNatClampNeg) := inb_of Ss14 ⟨by decide, by decide⟩
  have hat14 : cl14.slots[((2 : Int32)).toNatClampNeg]? = some (.int v2) := Hh14.at hin14 (rfl)
  refine own_st (X10.caload hx (j := (2 : Int32)) (v := (.int v2)) (by rw [e10]; exact Ar14.1) (State.isArrayOf_alike hZ.alike Ar14.2.1) Ar14.2.2 hin14 hat14 (g := (mkF m 12 #[.val (.ref a), .val (.int 2), .val (.ref b), .val (.int 2), .val (.int 3), .val (.int 2), .val (.int v1)] [(.int 2), (.ref a)])) rfl rfl (hb hby own_d9_12)) ?_
  refine own_st (fun _ k => XS.istore X10.here hx rfl (hb hby own_d9_13) rfl (l' := #[.val (.ref a), .val (.int 2), .val (.ref b), .val (.int 2), .val (.int 3), .val (.int 2), .val (.int v2)]) rfl k) ?_
  refine own_st (fun _ k => XS.iload X10.here hx rfl (hb hby own_d9_15) rfl k) ?_
  show own_Gl _ _ _ _ _ _ _ (T10.setTop (mkF m 17 #[.val (.ref a), .val (.int 2), .val (.ref b), .val (.int 2), .val (.int 3), .val (.int 2), .val (.int v2)] [(.int v2)]))
  refine own_st (fun _ k => XS.sipush X10.here hx rfl (hb hby own_d9_17) k) ?_
  have hd15 : ¬ ((255 : Int32) < v2) := hle2
  refine own_st (fun _ k => XS.icmpYes X10.here hx rfl (pc0 := 20) (pc' := 26) rfl (hb hby own_d9_20) rfl (flt hd15).2.2.2 (by decide) (by decide) k) ?_
  refine own_st (fun _ k => XS.aloadN X10.here hx rfl (hb hby own_d9_26) rfl rfl k) ?_
  refine own_st (fun _ k => XS.iloadN X10.here hx rfl (hb hby own_d9_27) rfl k) ?_
  show own_Gl _ _ _ _ _ _ _ (T10.setTop (mkF m 28 #[.val (.ref a), .val (.int 2), .val (.ref b), .val (.int 2), .val (.int 3), .val (.int 2), .val (.int v2)] [(.int 2), (.ref b)]))
  refine own_st (fun _ k => XS.iload X10.here hx rfl (hb hby own_d9_28) rfl k) ?_
  refine own_st (fun _ k => XS.i2b X10.here hx rfl (hb hby own_d9_30) rfl k) ?_
  obtain ⟨cl16, Ar16, qq16, Ss16, Nn16, Hh16, Gg16⟩ := id Vw10
  have hin16 : ¬ ((2 : Int32) < 0 ∨ cl16.slots.size ≤ ((2 : Int32)).toNatClampNeg) := inb_of Ss16 ⟨by decide, by decide⟩
  obtain ⟨T16, h16, X16, e16, W16, st16⟩ := stB X10 hx hZ e10 Ar16 (j := (2 : Int32)) hin16 (g := (mkF m 31 #[.val (.ref a), .val (.int 2), .val (.ref b), .val (.int 2), .val (.int 3), .val (.int 2), .val (.int v2)] [(.int (v2.toInt8.toInt32)), (.int 2), (.ref b)])) rfl rfl (hb hby own_d9_31)
  have N16 := Fr.snoc X16 N10 g_b
  refine own_st st16 ?_
  have Zs17 : n0 ≤ h16.size := Nat.le_trans Zs11 (Keep.of_wr W16).1
  have Vw16 : Arv Z h16 b kb .byte (3 : Int32) [(.int (nar .byte (v0.toInt8.toInt32))), (.int (nar .byte (v1.toInt8.toInt32))), (.int (nar .byte (v2.toInt8.toInt32)))] (.int 0) := Arv.set Ar16 qq16 Ss16 Nn16 Hh16 Gg16 (fits_nar_byte _) W16 2 (rfl) (Nat.le_of_ble_eq_true rfl)
  refine own_st (fun _ k => XS.iinc X16.here hx rfl (hb hby own_d9_32) rfl (l' := #[.val (.ref a), .val (.int 3), .val (.ref b), .val (.int 2), .val (.int 3), .val (.int 2), .val (.int v2)]) rfl k) ?_
  show own_Gl _ _ _ _ _ _ _ (T16.setTop (mkF m 35 #[.val (.ref a), .val (.int 3), .val (.ref b), .val (.int 2), .val (.int 3), .val (.int 2), .val (.int v2)] []))
  refine own_st (fun _ k => XS.iinc X16.here hx rfl (hb hby own_d9_35) rfl (l' := #[.val (.ref a), .val (.int 3), .val (.ref b), .val (.int 3), .val (.int 3), .val (.int 2), .val (.int v2)]) rfl k) ?_
  refine own_st (fun _ k => XS.iinc X16.here hx rfl (hb hby own_d9_38) rfl (l' := #[.val (.ref a), .val (.int 3), .val (.ref b), .val (.int 3), .val (.int 3), .val (.int 3), .val (.int v2)]) rfl k) ?_
  refine own_st (fun _ k => XS.goto X16.here hx rfl (pc0 := 41) (pc' := 3) rfl (hb hby own_d9_41) (by decide) (by decide) k) ?_
  refine own_st (fun _ k => XS.iload X16.here hx rfl (hb hby own_d9_3) rfl k) ?_
  show own_Gl _ _ _ _ _ _ _ (T16.setTop (mkF m 5 #[.val (.ref a), .val (.int 3), .val (.ref b), .val (.int 3), .val (.int 3), .val (.int 3), .val (.int v2)] [(.int 3)]))
  refine own_st (fun _ k => XS.iload X16.here hx rfl (hb hby own_d9_5) rfl k) ?_
  have hd18 : ¬ ((3 : Int32) < (3 : Int32)) := (by decide)
  refine own_st (fun _ k => XS.icmpYes X16.here hx rfl (pc0 := 7) (pc' := 44) rfl (hb hby own_d9_7) rfl (flt hd18).2.1 (by decide) (by decide) k) ?_
  refine own_st (fun _ k => XS.iload X16.here hx rfl (hb hby own_d9_44) rfl k) ?_
  show own_Gl _ _ _ _ _ _ _ (T16.setTop (mkF m 46 #[.val (.ref a), .val (.int 3), .val (.ref b), .val (.int 3), .val (.int 3), .val (.int 3), .val (.int v2)] [(.int 3)]))
  have K19 : Keep h0 h16 [b] := ((((Keep.refl h0 [b]).wr W4 (Or.inl (List.mem_of_getElem? (i := 0) rfl))).wr W10 (Or.inl (List.mem_of_getElem? (i := 0) rfl))).wr W16 (Or.inl (List.mem_of_getElem? (i := 0) rfl)))
  exact own_retI X16 hx hlk hret (hb hby own_d9_46) e16 ⟨rfl, N16, K19, Vw16⟩ (by decide) (by decide)
theorem own_ef_own_c3_3_l (m : MethodId) (x0 : Addr) (x1 : Int32) (x2 : Int32) : entryFrame m #[(.ref x0), (.int x1), (.int x2)] 6 = mkF m 0 #[.val (.ref x0), .val (.int x1), .val (.int x2), .unset, .unset, .unset] [] := by first | (simp [entryFrame, mkF, argsToLocals, Value.category]; done) | rfl
def own_Q_own_c3_3_l (Z : State) (a : Addr) (k : ClassId) (v0 : Int32) (v1 : Int32) (v2 : Int32) (h0 : Heap) (n0 : Nat) (v : Option Value) (h : Heap) (L : List Loc) : Prop := ∃ (r : Addr) (kr : ClassId), (v = some (.ref r)) ∧ (Fr n0 L) ∧ (Keep h0 h []) ∧ (n0 ≤ r) ∧ (h0.size ≤ r) ∧ (Arv Z h r kr .byte (3 : Int32) [(.int (nar .byte (v0.toInt8.toInt32))), (.int (nar .byte (v1.toInt8.toInt32))), (.int (nar .byte (v2.toInt8.toInt32)))] (.int 0))

theorem own_c3_3_l (l : Launch) (Z : State) (a0 : Array Value) (hw : oT a0 Z) (ws : List Jvm.Cond) (a : Addr) (k : ClassId) (v0 : Int32) (v1 : Int32) (v2 : Int32) (h0 : Heap) (n0 : Nat) (Z0 : n0 ≤ h0.size) (V_a : Arv Z h0 a k .char (3 : Int32) [(.int v0), (.int v1), (.int v2)] (.int 0)) (hle0 : ¬ ((255 : Int32) < v0)) (hle1 : ¬ ((255 : Int32) < v1)) (hle2 : ¬ ((255 : Int32) < v2)) :
    oMet l oM14 jdk_52_method_16_code 6 (some (.array .byte)) ws ⟨1, 1, 3, 18⟩ #[(.ref a), (.int 0), (.int 3)] Z h0 (own_Q_own_c3_3_l Z a k v0 v1 v2 h0 n0) := by
  refine oB n0 "java/lang/StringUTF16" rfl (plainFor_of_name own_pn730740715) (fun m => own_ef_own_c3_3_l m a (0 : Int32) (3 : Int32)) ?_
  intro p e s m below meth c s₁ hZ hx hby hlk hret hml hown hnm X0 e0 N0
  show own_Gl _ _ _ _ _ _ _ (s₁.setTop (mkF m 0 #[.val (.ref a), .val (.int 0), .val (.int 3), .unset, .unset, .unset] []))
  refine own_st (fun _ k => XS.iloadN X0.here hx rfl (hb hby own_d8_0) rfl k) ?_
  obtain ⟨T1, h1, k1, X1, e1, E1, A1, st1⟩ := newP X0 hx hZ (oW hw 19 rfl) e0 (g := (mkF m 1 #[.val (.ref a), .val (.int 0), .val (.int 3), .unset, .unset, .unset] [(.int 3)])) rfl (hb hby own_d8_1) rfl (by decide) (cap := 3) (by decide) (by decide) (by decide) (by decide)
  obtain ⟨b1, gb1⟩ : ∃ z, z = h0.size := ⟨_, rfl⟩
  rw [← gb1] at A1 st1
  refine own_st st1 ?_
  have Zs2 : n0 ≤ h1.size := Nat.le_trans Z0 E1.1
  have g_b1 : n0 ≤ b1 := Nat.le_trans Z0 (Nat.le_of_eq gb1.symm)
  have gh_b1 : h0.size ≤ b1 := Nat.le_trans (Keep.refl h0 []).1 (Nat.le_of_eq gb1.symm)
  have ne_a_b1 : a ≠ b1 := Nat.ne_of_lt (Nat.lt_of_lt_of_le V_a.lt (Nat.le_of_eq gb1.symm))
  have V_b1 : Arv Z h1 b1 k1 .byte (3 : Int32) [(.int 0), (.int 0), (.int 0)] (.int 0) := (Arv.new A1 (by decide)).pad (pad_rep [] (.int 0) 3)
  refine own_st (fun _ k => XS.astoreN X1.here hx rfl (hb hby own_d8_3) rfl rfl (l' := #[.val (.ref a), .val (.int 0), .val (.int 3), .val (.ref b1), .unset, .unset]) rfl k) ?_
  refine own_st (fun _ k => XS.aloadN X1.here hx rfl (hb hby own_d8_4) rfl rfl k) ?_
  show own_Gl _ _ _ _ _ _ _ (T1.setTop (mkF m 5 #[.val (.ref a), .val (.int 0), .val (.int 3), .val (.ref b1), .unset, .unset] [(.ref a)]))
  refine own_st (fun _ k => XS.iloadN X1.here hx rfl (hb hby own_d8_5) rfl k) ?_
  refine own_st (fun _ k => XS.aloadN X1.here hx rfl (hb hby own_d8_6) rfl rfl k) ?_
  refine own_st (fun _ k => XS.iconst X1.here hx rfl (hb hby own_d8_7) k) ?_
  refine own_st (fun _ k => XS.iloadN X1.here hx rfl (hb hby own_d8_8) rfl k) ?_
  show own_Gl _ _ _ _ _ _ _ (T1.setTop (mkF m 9 #[.val (.ref a), .val (.int 0), .val (.int 3), .val (.ref b1), .unset, .unset] [(.int 3), (.int 0), (.ref b1), (.int 0), (.ref a)]))
  have f5 := (V_a.ext E1)
  obtain ⟨_, _, ⟨T4, L4, k4, n4⟩, -, X4, ⟨Lc4, hQ4, l4, y4, z4⟩, st4⟩ := Jvm.LawKit.callS X1 hx (y := oM13) hown (mvT hZ (oW hw 49 rfl)) (mvT hZ (oW hw 50 rfl)) (mvT hZ (oW hw 47 rfl)) (mvT hZ (oW hw 51 rfl)) (by decide) (backOf (W := 0) (own_c5_3_3 l Z a0 hw [] a b1 k k1 v0 v1 v2 h1 n0 Zs2 f5 V_b1 g_b1 ne_a_b1 hle0 hle1 hle2) hZ (oW hw 51 rfl) (oW hw 47 rfl) (by decide) (by decide)) (g := (mkF m 9 #[.val (.ref a), .val (.int 0), .val (.int 3), .val (.ref b1), .unset, .unset] [(.int 3), (.int 0), (.ref b1), (.int 0), (.ref a)])) rfl (by rw [hml]; rfl) (argsL := [(.ref a), (.int 0), (.ref b1), (.int 0), (.int 3)]) (rest := []) (lenOf own_pd196289288 rfl) rfl (by show 2 * 0 + _ ≤ _; exact Nat.le_of_eq rfl) (hb hby own_d8_9) (fun _ _ => ⟨rfl, e1, (by decide : 1 + 0 ≤ 1), (by decide : 3 + 0 ≤ 3)⟩)
  dsimp only [Pt.U, Pt.locs, Pt.cells, Pt.slots] at X4 l4 y4 z4 st4 hQ4
  subst l4 y4 z4
  obtain ⟨hh4, eh04⟩ : ∃ z, T4.heap = z := ⟨_, rfl⟩
  rw [eh04] at hQ4
  obtain ⟨rfl, Nq4, Kq4, P4_0⟩ := hQ4
  have N4 := Fr.app N0 Nq4
  refine own_st st4 ?_
  have Zs6 : n0 ≤ hh4.size := Nat.le_trans Zs2 Kq4.1
  refine own_st (fun _ k => XS.istore X4.here hx rfl (hb hby own_d8_12) rfl (l' := #[.val (.ref a), .val (.int 0), .val (.int 3), .val (.ref b1), .val (.int 3), .unset]) rfl k) ?_
  refine own_st (fun _ k => XS.iload X4.here hx rfl (hb hby own_d8_14) rfl k) ?_
  refine own_st (fun _ k => XS.iloadN X4.here hx rfl (hb hby own_d8_16) rfl k) ?_
  show own_Gl _ _ _ _ _ _ _ (T4.setTop (mkF m 17 #[.val (.ref a), .val (.int 0), .val (.int 3), .val (.ref b1), .val (.int 3), .unset] [(.int 3), (.int 3)]))
  have hd7 : (3 : Int32) = (3 : Int32) := (by decide)
  refine own_st (fun _ k => XS.icmpYes X4.here hx rfl (pc0 := 17) (pc' := 57) rfl (hb hby own_d8_17) rfl (teq hd7).1 (by decide) (by decide) k) ?_
  refine own_st (fun _ k => XS.aloadN X4.here hx rfl (hb hby own_d8_57) rfl rfl k) ?_
  show own_Gl _ _ _ _ _ _ _ (T4.setTop (mkF m 58 #[.val (.ref a), .val (.int 0), .val (.int 3), .val (.ref b1), .val (.int 3), .unset] [(.ref b1)]))
  have K8 : Keep h0 hh4 [] := (((Keep.refl h0 []).ext E1).trans Kq4 (allS (Or.inr gh_b1) all0))
  exact own_retA X4 hx hlk hret rfl rfl rfl (hb hby own_d8_58) eh04 ⟨b1, k1, rfl, N4, K8, g_b1, gh_b1, P4_0⟩ (by decide) (by decide)
theorem own_ef_own_cf_3_l (m : MethodId) (x0 : Addr) (x1 : Int32) : entryFrame m #[(.ref x0), (.int x1)] 2 = mkF m 0 #[.val (.ref x0), .val (.int x1)] [] := by first | (simp [entryFrame, mkF, argsToLocals, Value.category]; done) | rfl
def own_Q_own_cf_3_l (Z : State) (a : Addr) (k : ClassId) (w : List Value) (h0 : Heap) (n0 : Nat) (v : Option Value) (h : Heap) (L : List Loc) : Prop := (v = some (.int 0)) ∧ (Fr n0 L) ∧ (h = h0)

theorem own_cf_3_l (l : Launch) (Z : State) (a0 : Array Value) (hw : oT a0 Z) (ws : List Jvm.Cond) (a : Addr) (k : ClassId) (w : List Value) (h0 : Heap) (n0 : Nat) (Z0 : n0 ≤ h0.size) (V_a : Arv Z h0 a k .byte (3 : Int32) w (.int 0)) :
    oMet l oM15 jdk_52_method_15_code 2 (some .byte) ws ⟨0, 0, 0, 0⟩ #[(.ref a), (.int 3)] Z h0 (own_Q_own_cf_3_l Z a k w h0 n0) := by
  refine oB n0 "java/lang/StringUTF16" rfl (plainFor_of_name own_pn730740715) (fun m => own_ef_own_cf_3_l m a (3 : Int32)) ?_
  intro p e s m below meth c s₁ hZ hx hby hlk hret hml hown hnm X0 e0 N0
  show own_Gl _ _ _ _ _ _ _ (s₁.setTop (mkF m 0 #[.val (.ref a), .val (.int 3)] []))
  refine own_st (fun _ k => XS.iloadN X0.here hx rfl (hb hby own_d10_0) rfl k) ?_
  refine own_st (fun _ k => XS.aloadN X0.here hx rfl (hb hby own_d10_1) rfl rfl k) ?_
  obtain ⟨cl1, Ar1, qq1, Ss1, Nn1, Hh1, Gg1⟩ := id V_a
  refine own_st (X0.arraylength hx (by rw [e0]; exact Ar1.1) (State.isArrayOf_alike hZ.alike Ar1.2.1) (g := (mkF m 2 #[.val (.ref a), .val (.int 3)] [(.ref a), (.int 3)])) rfl rfl (hb hby own_d10_2)) ?_
  rw [len_of Ss1 Nn1]
  refine own_st (fun _ k => XS.isub X0.here hx rfl (hb hby own_d10_3) rfl k) ?_
  show own_Gl _ _ _ _ _ _ _ (s₁.setTop (mkF m 4 #[.val (.ref a), .val (.int 3)] [(.int 0)]))
  refine own_st (fun _ k => XS.bipush X0.here hx rfl (hb hby own_d10_4) k) ?_
  refine own_st (fun _ k => XS.iushr X0.here hx rfl (hb hby own_d10_6) rfl k) ?_
  refine own_st (fun _ k => XS.i2b X0.here hx rfl (hb hby own_d10_7) rfl k) ?_
  show own_Gl _ _ _ _ _ _ _ (s₁.setTop (mkF m 8 #[.val (.ref a), .val (.int 3)] [(.int ((((0 : Int32).toUInt32 >>> ((31 : Int32) &&& 31).toUInt32).toInt32).toInt8.toInt32))]))
  exact own_retN X0 hx hlk (t := .byte) hret (by simp) (hb hby own_d10_8) e0 ⟨rfl, N0, rfl⟩ (by decide) (by decide)
theorem own_ef_own_i4_3_l (m : MethodId) (x0 : Addr) (x1 : Addr) (x2 : Int32) (x3 : Int32) : entryFrame m #[(.ref x0), (.ref x1), (.int x2), (.int x3), .null] 6 = mkF m 0 #[.val (.ref x0), .val (.ref x1), .val (.int x2), .val (.int x3), .val .null, .unset] [] := by first | (simp [entryFrame, mkF, argsToLocals, Value.category]; done) | rfl
def own_Q_own_i4_3_l (Z : State) (a : Addr) (b : Addr) (k : ClassId) (v0 : Int32) (v1 : Int32) (v2 : Int32) (cs : Int32) (h0 : Heap) (n0 : Nat) (v : Option Value) (h : Heap) (L : List Loc) : Prop := ∃ (r : Addr) (kr : ClassId), (v = none) ∧ (Fr n0 L) ∧ (Keep h0 h [a]) ∧ (n0 ≤ r) ∧ (h0.size ≤ r) ∧ (Arv Z h r kr .byte (3 : Int32) [(.int (nar .byte (v0.toInt8.toInt32))), (.int (nar .byte (v1.toInt8.toInt32))), (.int (nar .byte (v2.toInt8.toInt32)))] (.int 0)) ∧ (Fld Z h a "java/lang/String" "value" "[B" (.ref r)) ∧ (Fld Z h a "java/lang/String" "coder" "B" (.int 0))

theorem own_i4_3_l (l : Launch) (Z : State) (a0 : Array Value) (hw : oT a0 Z) (ws : List Jvm.Cond) (a : Addr) (b : Addr) (k : ClassId) (v0 : Int32) (v1 : Int32) (v2 : Int32) (cs : Int32) (h0 : Heap) (n0 : Nat) (Z0 : n0 ≤ h0.size) (E_a : Exa Z h0 a "java/lang/String") (F_a_value : Fld Z h0 a "java/lang/String" "value" "[B" .null) (F_a_coder : Fld Z h0 a "java/lang/String" "coder" "B" (.int 0)) (g_a : n0 ≤ a) (ne_a_b : a ≠ b) (V_b : Arv Z h0 b k .char (3 : Int32) [(.int v0), (.int v1), (.int v2)] (.int 0)) (hle0 : ¬ ((255 : Int32) < v0)) (hle1 : ¬ ((255 : Int32) < v1)) (hle2 : ¬ ((255 : Int32) < v2)) (sC : Sta Z Z.heap "java/lang/String" "COMPACT_STRINGS" "Z" (.int cs)) (hcs : ¬ (cs = (0 : Int32))) (Old0 : Old Z n0 h0) :
    oMet l oM16 jdk_42_method_149_code 6 none ws ⟨2, 1, 3, 35⟩ #[(.ref a), (.ref b), (.int 0), (.int 3), .null] Z h0 (own_Q_own_i4_3_l Z a b k v0 v1 v2 cs h0 n0) := by
  refine oB n0 "java/lang/String" rfl (plainFor_of_name own_pn853443214) (fun m => own_ef_own_i4_3_l m a b (0 : Int32) (3 : Int32)) ?_
  intro p e s m below meth c s₁ hZ hx hby hlk hret hml hown hnm X0 e0 N0
  show own_Gl _ _ _ _ _ _ _ (s₁.setTop (mkF m 0 #[.val (.ref a), .val (.ref b), .val (.int 0), .val (.int 3), .val .null, .unset] []))
  refine own_st (fun _ k => XS.aloadN X0.here hx rfl (hb hby own_d3_0) rfl rfl k) ?_
  obtain ⟨T1, X1, e1, st1⟩ := initO X0 hx hZ hown (oW hw 15 rfl) (oW hw 16 rfl) (oW hw 17 rfl) e0 (g := (mkF m 1 #[.val (.ref a), .val (.ref b), .val (.int 0), .val (.int 3), .val .null, .unset] [(.ref a)])) rfl (by rw [hml]; rfl) rfl (hb hby own_d3_1) (by decide) (W := 0) (by show 2 * 0 + _ ≤ _; exact Nat.le_of_eq rfl) (by decide)
  refine own_st st1 ?_
  refine own_st (fun _ k => XS.iloadN X1.here hx rfl (hb hby own_d3_4) rfl k) ?_
  have hd2 : ¬ ((3 : Int32) = (0 : Int32)) := (by decide)
  refine own_st (fun _ k => XS.ifYes X1.here hx rfl (pc0 := 5) (pc' := 27) rfl (hb hby own_d3_5) rfl ((if0 _ _).trans (feq hd2).2) (by decide) (by decide) k) ?_
  show own_Gl _ _ _ _ _ _ _ (T1.setTop (mkF m 27 #[.val (.ref a), .val (.ref b), .val (.int 0), .val (.int 3), .val .null, .unset] []))
  obtain ⟨T3, X3, e3, st3⟩ := getS2 X1 hx hZ hown (host := "") (Or.inl (oW hw 44 rfl)) Via.refl e1 (sC.ext Old0.2) (g := (mkF m 27 #[.val (.ref a), .val (.ref b), .val (.int 0), .val (.int 3), .val .null, .unset] [])) rfl (hb hby own_d3_27)
  refine own_st st3 ?_
  have hd4 : ¬ (cs = (0 : Int32)) := hcs
  refine own_st (fun _ k => XS.ifNo X3.here hx rfl (hb hby own_d3_30) rfl ((if0 _ _).trans (feq hd4).1) k) ?_
  refine own_st (fun _ k => XS.aloadN X3.here hx rfl (hb hby own_d3_33) rfl rfl k) ?_
  refine own_st (fun _ k => XS.iloadN X3.here hx rfl (hb hby own_d3_34) rfl k) ?_
  show own_Gl _ _ _ _ _ _ _ (T3.setTop (mkF m 35 #[.val (.ref a), .val (.ref b), .val (.int 0), .val (.int 3), .val .null, .unset] [(.int 0), (.ref b)]))
  refine own_st (fun _ k => XS.iloadN X3.here hx rfl (hb hby own_d3_35) rfl k) ?_
  obtain ⟨_, _, ⟨T5, L5, k5, n5⟩, -, X5, ⟨Lc5, hQ5, l5, y5, z5⟩, st5⟩ := Jvm.LawKit.callS X3 hx (y := oM14) hown (mvT hZ (oW hw 45 rfl)) (mvT hZ (oW hw 46 rfl)) (mvT hZ (oW hw 47 rfl)) (mvT hZ (oW hw 48 rfl)) (by decide) (backOf (W := 0) (own_c3_3_l l Z a0 hw [] b k v0 v1 v2 h0 n0 Z0 V_b hle0 hle1 hle2) hZ (oW hw 48 rfl) (oW hw 47 rfl) (by decide) (by decide)) (g := (mkF m 36 #[.val (.ref a), .val (.ref b), .val (.int 0), .val (.int 3), .val .null, .unset] [(.int 3), (.int 0), (.ref b)])) rfl (by rw [hml]; rfl) (argsL := [(.ref b), (.int 0), (.int 3)]) (rest := []) (lenOf own_pd461289092 rfl) rfl (by show 2 * 0 + _ ≤ _; exact Nat.le_of_eq rfl) (hb hby own_d3_36) (fun _ _ => ⟨rfl, e3, (by decide : 0 + 1 ≤ 1), (by decide : 0 + 3 ≤ 3)⟩)
  dsimp only [Pt.U, Pt.locs, Pt.cells, Pt.slots] at X5 l5 y5 z5 st5 hQ5
  subst l5 y5 z5
  obtain ⟨hh5, eh05⟩ : ∃ z, T5.heap = z := ⟨_, rfl⟩
  rw [eh05] at hQ5
  obtain ⟨r_5, kr_5, rfl, Nq5, Kq5, P5_0, P5_1, P5_2⟩ := hQ5
  have N5 := Fr.app N0 Nq5
  refine own_st st5 ?_
  have Zs6 : n0 ≤ hh5.size := Nat.le_trans Z0 Kq5.1
  have gh_r_5 : h0.size ≤ r_5 := Nat.le_trans (Keep.refl h0 [a]).1 P5_1
  have ne_a_r_5 : a ≠ r_5 := Nat.ne_of_lt (Nat.lt_of_lt_of_le E_a.lt P5_1)
  have ne_b_r_5 : b ≠ r_5 := Nat.ne_of_lt (Nat.lt_of_lt_of_le V_b.lt P5_1)
  refine own_st (fun _ k => XS.astore X5.here hx rfl (hb hby own_d3_39) rfl rfl (l' := #[.val (.ref a), .val (.ref b), .val (.int 0), .val (.int 3), .val .null, .val (.ref r_5)]) rfl k) ?_
  refine own_st (fun _ k => XS.aloadN X5.here hx rfl (hb hby own_d3_41) rfl rfl k) ?_
  show own_Gl _ _ _ _ _ _ _ (T5.setTop (mkF m 42 #[.val (.ref a), .val (.ref b), .val (.int 0), .val (.int 3), .val .null, .val (.ref r_5)] [(.ref a)]))
  refine own_st (fun _ k => XS.aload X5.here hx rfl (hb hby own_d3_42) rfl rfl k) ?_
  refine own_st (fun _ k => XS.iloadN X5.here hx rfl (hb hby own_d3_44) rfl k) ?_
  have f8 := (E_a.keep Kq5)
  have f9 := (V_b.keep Kq5 nin0)
  obtain ⟨_, _, ⟨T7, L7, k7, n7⟩, -, X7, ⟨Lc7, hQ7, l7, y7, z7⟩, st7⟩ := Jvm.LawKit.callS X5 hx (y := oM15) hown (mvT hZ (oW hw 52 rfl)) (mvT hZ (oW hw 53 rfl)) (mvT hZ (oW hw 47 rfl)) (mvT hZ (oW hw 54 rfl)) (by decide) (backOf (W := 1) (own_cf_3_l l Z a0 hw [] r_5 kr_5 [(.int (nar .byte (v0.toInt8.toInt32))), (.int (nar .byte (v1.toInt8.toInt32))), (.int (nar .byte (v2.toInt8.toInt32)))] hh5 n0 Zs6 P5_2) hZ (oW hw 54 rfl) (oW hw 47 rfl) (by decide) (by decide)) (g := (mkF m 45 #[.val (.ref a), .val (.ref b), .val (.int 0), .val (.int 3), .val .null, .val (.ref r_5)] [(.int 3), (.ref r_5), (.ref a)])) rfl (by rw [hml]; rfl) (argsL := [(.ref r_5), (.int 3)]) (rest := [(.ref a)]) (lenOf own_pd128711047 rfl) rfl (by show 2 * 0 + _ ≤ _; exact Nat.le_of_eq rfl) (hb hby own_d3_45) (fun _ _ => ⟨rfl, eh05, (by decide : 1 + 0 ≤ 1), (by decide : 3 + 0 ≤ 3)⟩)
  dsimp only [Pt.U, Pt.locs, Pt.cells, Pt.slots] at X7 l7 y7 z7 st7 hQ7
  subst l7 y7 z7
  obtain ⟨hh7, eh07⟩ : ∃ z, T7.heap = z := ⟨_, rfl⟩
  rw [eh07] at hQ7
  obtain ⟨rfl, Nq7, eh7⟩ := hQ7
  have N7 := Fr.app N5 Nq7
  refine own_st st7 ?_
  have e7 : T7.heap = hh5 := eh07.trans eh7
  have f10 := (F_a_coder.keep Kq5 nin0)
  obtain ⟨T11, h11, X11, e11, W11, st11⟩ := putFN X7 hx hZ hown (oW hw 25 rfl) Via.refl e7 f10 f8 (Or.inr ⟨(oW hw 21 rfl), rfl, hnm⟩) (oW hw 6 rfl) (ty := .byte) (v' := (.int (nar .byte (0 : Int32)))) (by decide) rfl (fits_nar_byte _) (g := (mkF m 48 #[.val (.ref a), .val (.ref b), .val (.int 0), .val (.int 3), .val .null, .val (.ref r_5)] [(.int 0), (.ref a)])) rfl rfl (hb hby own_d3_48)
  have N11 := Fr.snoc X11 N7 g_a
  refine own_st st11 ?_
  have Zs12 : n0 ≤ h11.size := Nat.le_trans Zs6 (Keep.of_wr W11).1
  have Fw11 := f10.same W11
  show own_Gl _ _ _ _ _ _ _ (T11.setTop (mkF m 51 #[.val (.ref a), .val (.ref b), .val (.int 0), .val (.int 3), .val .null, .val (.ref r_5)] []))
  refine own_st (fun _ k => XS.aloadN X11.here hx rfl (hb hby own_d3_51) rfl rfl k) ?_
  refine own_st (fun _ k => XS.aload X11.here hx rfl (hb hby own_d3_52) rfl rfl k) ?_
  have f13 := (f8.wr W11)
  have f14 := ((F_a_value.keep Kq5 nin0).other W11 (Or.inr (slot_ne (Or.inr (oW hw 20 rfl)) (Or.inr (oW hw 21 rfl)) (by decide) (t := (.array .byte)) (t' := .byte) (by decide) (by decide))))
  obtain ⟨T15, h15, X15, e15, W15, st15⟩ := putF X11 hx hZ hown (host := "") (Or.inl (oW hw 24 rfl)) Via.refl e11 f14 f13 (Or.inr ⟨(oW hw 20 rfl), rfl, hnm⟩) (oW hw 6 rfl) (ty := (.array .byte)) (by decide) rfl rfl (g := (mkF m 54 #[.val (.ref a), .val (.ref b), .val (.int 0), .val (.int 3), .val .null, .val (.ref r_5)] [(.ref r_5), (.ref a)])) rfl rfl (hb hby own_d3_54)
  have N15 := Fr.snoc X15 N11 g_a
  refine own_st st15 ?_
  have Zs16 : n0 ≤ h15.size := Nat.le_trans Zs12 (Keep.of_wr W15).1
  have Fw15 := f14.same W15
  show own_Gl _ _ _ _ _ _ _ (T15.setTop (mkF m 57 #[.val (.ref a), .val (.ref b), .val (.int 0), .val (.int 3), .val .null, .val (.ref r_5)] []))
  have f17 := (Fw11.other W15 (Or.inr (slot_ne (Or.inr (oW hw 21 rfl)) (Or.inr (oW hw 20 rfl)) (by decide) (t := .byte) (t' := (.array .byte)) (by decide) (by decide))))
  have K18 : Keep h0 h15 [a] := ((((Keep.refl h0 [a]).trans Kq5 all0).wr W11 (Or.inl (List.mem_of_getElem? (i := 0) rfl))).wr W15 (Or.inl (List.mem_of_getElem? (i := 0) rfl)))
  have f19 := ((P5_2.other W11 (Ne.symm ne_a_r_5)).other W15 (Ne.symm ne_a_r_5))
  exact own_retV X15 hx hlk hret (hb hby own_d3_57) e15 ⟨r_5, kr_5, rfl, N15, K18, P5_0, gh_r_5, f19, Fw15, f17⟩ (by decide) (by decide)
theorem own_ef_own_i1_3_l (m : MethodId) (x0 : Addr) (x1 : Addr) : entryFrame m #[(.ref x0), (.ref x1)] 2 = mkF m 0 #[.val (.ref x0), .val (.ref x1)] [] := by first | (simp [entryFrame, mkF, argsToLocals, Value.category]; done) | rfl
def own_Q_own_i1_3_l (Z : State) (a : Addr) (b : Addr) (k : ClassId) (v0 : Int32) (v1 : Int32) (v2 : Int32) (cs : Int32) (h0 : Heap) (n0 : Nat) (v : Option Value) (h : Heap) (L : List Loc) : Prop := ∃ (r : Addr) (kr : ClassId), (v = none) ∧ (Fr n0 L) ∧ (Keep h0 h [a]) ∧ (n0 ≤ r) ∧ (h0.size ≤ r) ∧ (Arv Z h r kr .byte (3 : Int32) [(.int (nar .byte (v0.toInt8.toInt32))), (.int (nar .byte (v1.toInt8.toInt32))), (.int (nar .byte (v2.toInt8.toInt32)))] (.int 0)) ∧ (Fld Z h a "java/lang/String" "value" "[B" (.ref r)) ∧ (Fld Z h a "java/lang/String" "coder" "B" (.int 0))

theorem own_i1_3_l (l : Launch) (Z : State) (a0 : Array Value) (hw : oT a0 Z) (ws : List Jvm.Cond) (a : Addr) (b : Addr) (k : ClassId) (v0 : Int32) (v1 : Int32) (v2 : Int32) (cs : Int32) (h0 : Heap) (n0 : Nat) (Z0 : n0 ≤ h0.size) (E_a : Exa Z h0 a "java/lang/String") (F_a_value : Fld Z h0 a "java/lang/String" "value" "[B" .null) (F_a_coder : Fld Z h0 a "java/lang/String" "coder" "B" (.int 0)) (g_a : n0 ≤ a) (ne_a_b : a ≠ b) (V_b : Arv Z h0 b k .char (3 : Int32) [(.int v0), (.int v1), (.int v2)] (.int 0)) (hle0 : ¬ ((255 : Int32) < v0)) (hle1 : ¬ ((255 : Int32) < v1)) (hle2 : ¬ ((255 : Int32) < v2)) (sC : Sta Z Z.heap "java/lang/String" "COMPACT_STRINGS" "Z" (.int cs)) (hcs : ¬ (cs = (0 : Int32))) (Old0 : Old Z n0 h0) :
    oMet l oM17 jdk_42_method_3_code 2 none ws ⟨3, 1, 3, 52⟩ #[(.ref a), (.ref b)] Z h0 (own_Q_own_i1_3_l Z a b k v0 v1 v2 cs h0 n0) := by
  refine oB n0 "java/lang/String" rfl (plainFor_of_name own_pn853443214) (fun m => own_ef_own_i1_3_l m a b) ?_
  intro p e s m below meth c s₁ hZ hx hby hlk hret hml hown hnm X0 e0 N0
  show own_Gl _ _ _ _ _ _ _ (s₁.setTop (mkF m 0 #[.val (.ref a), .val (.ref b)] []))
  refine own_st (fun _ k => XS.aloadN X0.here hx rfl (hb hby own_d2_0) rfl rfl k) ?_
  refine own_st (fun _ k => XS.aloadN X0.here hx rfl (hb hby own_d2_1) rfl rfl k) ?_
  refine own_st (fun _ k => XS.iconst X0.here hx rfl (hb hby own_d2_2) k) ?_
  refine own_st (fun _ k => XS.aloadN X0.here hx rfl (hb hby own_d2_3) rfl rfl k) ?_
  show own_Gl _ _ _ _ _ _ _ (s₁.setTop (mkF m 4 #[.val (.ref a), .val (.ref b)] [(.ref b), (.int 0), (.ref b), (.ref a)]))
  obtain ⟨cl1, Ar1, qq1, Ss1, Nn1, Hh1, Gg1⟩ := id V_b
  refine own_st (X0.arraylength hx (by rw [e0]; exact Ar1.1) (State.isArrayOf_alike hZ.alike Ar1.2.1) (g := (mkF m 4 #[.val (.ref a), .val (.ref b)] [(.ref b), (.int 0), (.ref b), (.ref a)])) rfl rfl (hb hby own_d2_4)) ?_
  rw [len_of Ss1 Nn1]
  refine own_st (fun _ k => XS.aconstNull X0.here hx rfl (hb hby own_d2_5) k) ?_
  obtain ⟨_, _, ⟨T2, L2, k2, n2⟩, -, X2, ⟨Lc2, hQ2, l2, y2, z2⟩, st2⟩ := X0.specialBack hx (y := oM16) rfl hown (mvT hZ (oW hw 11 rfl)) (mvT hZ (oW hw 12 rfl)) (mvT hZ (oW hw 14 rfl)) (by decide) (backOf (W := 0) (own_i4_3_l l Z a0 hw [] a b k v0 v1 v2 cs h0 n0 Z0 E_a F_a_value F_a_coder g_a ne_a_b V_b hle0 hle1 hle2 sC hcs Old0) hZ (oW hw 14 rfl) (oW hw 7 rfl) (by decide) (by decide)) (g := (mkF m 6 #[.val (.ref a), .val (.ref b)] [.null, (.int 3), (.int 0), (.ref b), (.ref a)])) rfl (by rw [hml]; rfl) (Steps.refl _) (a := a) (argsL := [(.ref b), (.int 0), (.int 3), .null]) (rest := []) (lenOf own_pd888094010 rfl) rfl (by show 2 * 0 + _ ≤ _; exact Nat.le_of_eq rfl) (hb hby own_d2_6) (fun _ _ => ⟨rfl, e0, (by decide : 0 + 1 ≤ 1), (by decide : 0 + 3 ≤ 3)⟩)
  dsimp only [Pt.U, Pt.locs, Pt.cells, Pt.slots] at X2 l2 y2 z2 st2 hQ2
  subst l2 y2 z2
  obtain ⟨hh2, eh02⟩ : ∃ z, T2.heap = z := ⟨_, rfl⟩
  rw [eh02] at hQ2
  obtain ⟨r_2, kr_2, rfl, Nq2, Kq2, P2_0, P2_1, P2_2, P2_3, P2_4⟩ := hQ2
  have N2 := Fr.app N0 Nq2
  refine own_tr st2 ?_
  have Zs3 : n0 ≤ hh2.size := Nat.le_trans Z0 Kq2.1
  have gh_r_2 : h0.size ≤ r_2 := Nat.le_trans (Keep.refl h0 [a]).1 P2_1
  have ne_a_r_2 : a ≠ r_2 := Nat.ne_of_lt (Nat.lt_of_lt_of_le E_a.lt P2_1)
  have ne_b_r_2 : b ≠ r_2 := Nat.ne_of_lt (Nat.lt_of_lt_of_le V_b.lt P2_1)
  show own_Gl _ _ _ _ _ _ _ (T2.setTop (mkF m 9 #[.val (.ref a), .val (.ref b)] []))
  have K4 : Keep h0 hh2 [a] := ((Keep.refl h0 [a]).trans Kq2 (allS (Or.inl (List.mem_of_getElem? (i := 0) rfl)) all0))
  exact own_retV X2 hx hlk hret (hb hby own_d2_9) eh02 ⟨r_2, kr_2, rfl, N2, K4, P2_0, gh_r_2, P2_2, P2_3, P2_4⟩ (by decide) (by decide)
theorem own_ef_own_c3_3_u (m : MethodId) (x0 : Addr) (x1 : Int32) (x2 : Int32) : entryFrame m #[(.ref x0), (.int x1), (.int x2)] 6 = mkF m 0 #[.val (.ref x0), .val (.int x1), .val (.int x2), .unset, .unset, .unset] [] := by first | (simp [entryFrame, mkF, argsToLocals, Value.category]; done) | rfl
def own_Q_own_c3_3_u (Z : State) (a : Addr) (k : ClassId) (v0 : Int32) (v1 : Int32) (v2 : Int32) (h0 : Heap) (n0 : Nat) (v : Option Value) (h : Heap) (L : List Loc) : Prop := ∃ (r : Addr) (kr : ClassId), (v = some (.ref r)) ∧ (Fr n0 L) ∧ (Keep h0 h []) ∧ (n0 ≤ r) ∧ (h0.size ≤ r) ∧ (Arv Z h r kr .byte (6 : Int32) [(.int (nar .byte ((v0 >>> ((0 : Int32) &&& 31)).toInt8.toInt32))), (.int (nar .byte ((v0 >>> ((8 : Int32) &&& 31)).toInt8.toInt32))), (.int (nar .byte ((v1 >>> ((0 : Int32) &&& 31)).toInt8.toInt32))), (.int (nar .byte ((v1 >>> ((8 : Int32) &&& 31)).toInt8.toInt32))), (.int (nar .byte ((v2 >>> ((0 : Int32) &&& 31)).toInt8.toInt32))), (.int (nar .byte ((v2 >>> ((8 : Int32) &&& 31)).toInt8.toInt32)))] (.int 0))

theorem own_c3_3_u (l : Launch) (Z : State) (a0 : Array Value) (hw : oT a0 Z) (ws : List Jvm.Cond) (a : Addr) (k : ClassId) (v0 : Int32) (v1 : Int32) (v2 : Int32) (h0 : Heap) (n0 : Nat) (Z0 : n0 ≤ h0.size) (V_a : Arv Z h0 a k .char (3 : Int32) [(.int v0), (.int v1), (.int v2)] (.int 0)) (hbig : (255 : Int32) < v0 ∨ (255 : Int32) < v1 ∨ (255 : Int32) < v2) (Old0 : Old Z n0 h0) (sA : Sta Z Z.heap "java/lang/StringUTF16" "$assertionsDisabled" "Z" (.int 1)) (sH : Sta Z Z.heap "java/lang/StringUTF16" "HI_BYTE_SHIFT" "I" (.int 0)) (sL : Sta Z Z.heap "java/lang/StringUTF16" "LO_BYTE_SHIFT" "I" (.int 8)) (hr0 : ¬ v0 < (0 : Int32) ∧ ¬ (65535 : Int32) < v0) (hr1 : ¬ v1 < (0 : Int32) ∧ ¬ (65535 : Int32) < v1) (hr2 : ¬ v2 < (0 : Int32) ∧ ¬ (65535 : Int32) < v2) :
    oMet l oM14 jdk_52_method_16_code 6 (some (.array .byte)) ws ⟨3, 2, 9, 40⟩ #[(.ref a), (.int 0), (.int 3)] Z h0 (own_Q_own_c3_3_u Z a k v0 v1 v2 h0 n0) := by
  refine oB n0 "java/lang/StringUTF16" rfl (plainFor_of_name own_pn730740715) (fun m => own_ef_own_c3_3_u m a (0 : Int32) (3 : Int32)) ?_
  intro p e s m below meth c s₁ hZ hx hby hlk hret hml hown hnm X0 e0 N0
  show own_Gl _ _ _ _ _ _ _ (s₁.setTop (mkF m 0 #[.val (.ref a), .val (.int 0), .val (.int 3), .unset, .unset, .unset] []))
  refine own_st (fun _ k => XS.iloadN X0.here hx rfl (hb hby own_d8_0) rfl k) ?_
  obtain ⟨T1, h1, k1, X1, e1, E1, A1, st1⟩ := newP X0 hx hZ (oW hw 19 rfl) e0 (g := (mkF m 1 #[.val (.ref a), .val (.int 0), .val (.int 3), .unset, .unset, .unset] [(.int 3)])) rfl (hb hby own_d8_1) rfl (by decide) (cap := 3) (by decide) (by decide) (by decide) (by decide)
  obtain ⟨b1, gb1⟩ : ∃ z, z = h0.size := ⟨_, rfl⟩
  rw [← gb1] at A1 st1
  refine own_st st1 ?_
  have Zs2 : n0 ≤ h1.size := Nat.le_trans Z0 E1.1
  have g_b1 : n0 ≤ b1 := Nat.le_trans Z0 (Nat.le_of_eq gb1.symm)
  have gh_b1 : h0.size ≤ b1 := Nat.le_trans (Keep.refl h0 []).1 (Nat.le_of_eq gb1.symm)
  have ne_a_b1 : a ≠ b1 := Nat.ne_of_lt (Nat.lt_of_lt_of_le V_a.lt (Nat.le_of_eq gb1.symm))
  have V_b1 : Arv Z h1 b1 k1 .byte (3 : Int32) [(.int 0), (.int 0), (.int 0)] (.int 0) := (Arv.new A1 (by decide)).pad (pad_rep [] (.int 0) 3)
  refine own_st (fun _ k => XS.astoreN X1.here hx rfl (hb hby own_d8_3) rfl rfl (l' := #[.val (.ref a), .val (.int 0), .val (.int 3), .val (.ref b1), .unset, .unset]) rfl k) ?_
  refine own_st (fun _ k => XS.aloadN X1.here hx rfl (hb hby own_d8_4) rfl rfl k) ?_
  show own_Gl _ _ _ _ _ _ _ (T1.setTop (mkF m 5 #[.val (.ref a), .val (.int 0), .val (.int 3), .val (.ref b1), .unset, .unset] [(.ref a)]))
  refine own_st (fun _ k => XS.iloadN X1.here hx rfl (hb hby own_d8_5) rfl k) ?_
  refine own_st (fun _ k => XS.aloadN X1.here hx rfl (hb hby own_d8_6) rfl rfl k) ?_
  refine own_st (fun _ k => XS.iconst X1.here hx rfl (hb hby own_d8_7) k) ?_
  refine own_st (fun _ k => XS.iloadN X1.here hx rfl (hb hby own_d8_8) rfl k) ?_
  show own_Gl _ _ _ _ _ _ _ (T1.setTop (mkF m 9 #[.val (.ref a), .val (.int 0), .val (.int 3), .val (.ref b1), .unset, .unset] [(.int 3), (.int 0), (.ref b1), (.int 0), (.ref a)]))
  by_cases hq0 : (255 : Int32) < v0
  · show own_Gl _ _ _ _ _ _ _ (T1.setTop (mkF m 9 #[.val (.ref a), .val (.int 0), .val (.int 3), .val (.ref b1), .unset, .unset] [(.int 3), (.int 0), (.ref b1), (.int 0), (.ref a)]))
    have f5 := (V_a.ext E1)
    obtain ⟨_, _, ⟨T4, L4, k4, n4⟩, -, X4, ⟨Lc4, hQ4, l4, y4, z4⟩, st4⟩ := Jvm.LawKit.callS X1 hx (y := oM13) hown (mvT hZ (oW hw 49 rfl)) (mvT hZ (oW hw 50 rfl)) (mvT hZ (oW hw 47 rfl)) (mvT hZ (oW hw 51 rfl)) (by decide) (backOf (W := 0) (own_c5_3_0 l Z a0 hw [] a b1 k k1 v0 v1 v2 h1 n0 Zs2 f5 V_b1 g_b1 ne_a_b1 hq0) hZ (oW hw 51 rfl) (oW hw 47 rfl) (by decide) (by decide)) (g := (mkF m 9 #[.val (.ref a), .val (.int 0), .val (.int 3), .val (.ref b1), .unset, .unset] [(.int 3), (.int 0), (.ref b1), (.int 0), (.ref a)])) rfl (by rw [hml]; rfl) (argsL := [(.ref a), (.int 0), (.ref b1), (.int 0), (.int 3)]) (rest := []) (lenOf own_pd196289288 rfl) rfl (by show 2 * 0 + _ ≤ _; exact Nat.le_of_eq rfl) (hb hby own_d8_9) (fun _ _ => ⟨rfl, e1, (by decide : 1 + 0 ≤ 2), (by decide : 3 + 0 ≤ 9)⟩)
    dsimp only [Pt.U, Pt.locs, Pt.cells, Pt.slots] at X4 l4 y4 z4 st4 hQ4
    subst l4 y4 z4
    obtain ⟨hh4, eh04⟩ : ∃ z, T4.heap = z := ⟨_, rfl⟩
    rw [eh04] at hQ4
    obtain ⟨rfl, Nq4, Kq4, P4_0⟩ := hQ4
    have N4 := Fr.app N0 Nq4
    refine own_st st4 ?_
    have Zs6 : n0 ≤ hh4.size := Nat.le_trans Zs2 Kq4.1
    refine own_st (fun _ k => XS.istore X4.here hx rfl (hb hby own_d8_12) rfl (l' := #[.val (.ref a), .val (.int 0), .val (.int 3), .val (.ref b1), .val (.int 0), .unset]) rfl k) ?_
    refine own_st (fun _ k => XS.iload X4.here hx rfl (hb hby own_d8_14) rfl k) ?_
    refine own_st (fun _ k => XS.iloadN X4.here hx rfl (hb hby own_d8_16) rfl k) ?_
    show own_Gl _ _ _ _ _ _ _ (T4.setTop (mkF m 17 #[.val (.ref a), .val (.int 0), .val (.int 3), .val (.ref b1), .val (.int 0), .unset] [(.int 3), (.int 0)]))
    have hd7 : ¬ ((0 : Int32) = (3 : Int32)) := (by decide)
    refine own_st (fun _ k => XS.icmpNo X4.here hx rfl (hb hby own_d8_17) rfl (feq hd7).1 k) ?_
    refine own_st (fun _ k => XS.aloadN X4.here hx rfl (hb hby own_d8_20) rfl rfl k) ?_
    refine own_st (fun _ k => XS.iloadN X4.here hx rfl (hb hby own_d8_21) rfl k) ?_
    refine own_st (fun _ k => XS.iloadN X4.here hx rfl (hb hby own_d8_22) rfl k) ?_
    show own_Gl _ _ _ _ _ _ _ (T4.setTop (mkF m 23 #[.val (.ref a), .val (.int 0), .val (.int 3), .val (.ref b1), .val (.int 0), .unset] [(.int 3), (.int 0), (.ref a)]))
    have f9 := (f5.keep Kq4 (ninS ne_a_b1 nin0))
    have f10 := ((Old0.ext E1).keep Kq4 (allS g_b1 all0))
    obtain ⟨_, _, ⟨T8, L8, k8, n8⟩, -, X8, ⟨Lc8, hQ8, l8, y8, z8⟩, st8⟩ := Jvm.LawKit.callS X4 hx (y := oM11) hown (mvT hZ (oW hw 86 rfl)) (mvT hZ (oW hw 87 rfl)) (mvT hZ (oW hw 47 rfl)) (mvT hZ (oW hw 88 rfl)) (by decide) (backOf (W := 0) (own_tb3 l Z a0 hw [] a k v0 v1 v2 hh4 n0 Zs6 f9 f10 sA sH sL) hZ (oW hw 88 rfl) (oW hw 47 rfl) (by decide) (by decide)) (g := (mkF m 23 #[.val (.ref a), .val (.int 0), .val (.int 3), .val (.ref b1), .val (.int 0), .unset] [(.int 3), (.int 0), (.ref a)])) rfl (by rw [hml]; rfl) (argsL := [(.ref a), (.int 0), (.int 3)]) (rest := []) (lenOf own_pd461289092 rfl) rfl (by show 2 * 0 + _ ≤ _; exact Nat.le_of_eq rfl) (hb hby own_d8_23) (fun _ _ => ⟨rfl, eh04, (by decide : 1 + 1 ≤ 2), (by decide : 3 + 6 ≤ 9)⟩)
    dsimp only [Pt.U, Pt.locs, Pt.cells, Pt.slots] at X8 l8 y8 z8 st8 hQ8
    subst l8 y8 z8
    obtain ⟨hh8, eh08⟩ : ∃ z, T8.heap = z := ⟨_, rfl⟩
    rw [eh08] at hQ8
    obtain ⟨r_8, kr_8, rfl, Nq8, Kq8, P8_0, P8_1, P8_2⟩ := hQ8
    have N8 := Fr.app N4 Nq8
    refine own_st st8 ?_
    have K11 : Keep h0 hh4 [] := (((Keep.refl h0 []).ext E1).trans Kq4 (allS (Or.inr gh_b1) all0))
    have Zs12 : n0 ≤ hh8.size := Nat.le_trans Zs6 Kq8.1
    have gh_r_8 : h0.size ≤ r_8 := Nat.le_trans K11.1 P8_1
    have ne_a_r_8 : a ≠ r_8 := Nat.ne_of_lt (Nat.lt_of_lt_of_le f9.lt P8_1)
    have ne_b1_r_8 : b1 ≠ r_8 := Nat.ne_of_lt (Nat.lt_of_lt_of_le P4_0.lt P8_1)
    refine own_st (fun _ k => XS.astore X8.here hx rfl (hb hby own_d8_26) rfl rfl (l' := #[.val (.ref a), .val (.int 0), .val (.int 3), .val (.ref b1), .val (.int 0), .val (.ref r_8)]) rfl k) ?_
    refine own_st (fun _ k => XS.aload X8.here hx rfl (hb hby own_d8_28) rfl rfl k) ?_
    refine own_st (fun _ k => XS.iload X8.here hx rfl (hb hby own_d8_30) rfl k) ?_
    show own_Gl _ _ _ _ _ _ _ (T8.setTop (mkF m 32 #[.val (.ref a), .val (.int 0), .val (.int 3), .val (.ref b1), .val (.int 0), .val (.ref r_8)] [(.int 0), (.ref r_8)]))
    have f14 := (f10.keep Kq8 all0)
    have f15 := (f9.keep Kq8 nin0)
    have f16 := (P4_0.keep Kq8 nin0)
    obtain ⟨_, _, ⟨T13, L13, k13, n13⟩, -, X13, ⟨Lc13, hQ13, l13, y13, z13⟩, st13⟩ := Jvm.LawKit.callS X8 hx (y := oM12) hown (mvT hZ (oW hw 102 rfl)) (mvT hZ (oW hw 103 rfl)) (mvT hZ (oW hw 47 rfl)) (mvT hZ (oW hw 104 rfl)) (by decide) (backOf (W := 0) (own_get3_0 l Z a0 hw [] r_8 kr_8 v0 v1 v2 hh8 n0 Zs12 f14 sA sH sL P8_2 hr0) hZ (oW hw 104 rfl) (oW hw 47 rfl) (by decide) (by decide)) (g := (mkF m 32 #[.val (.ref a), .val (.int 0), .val (.int 3), .val (.ref b1), .val (.int 0), .val (.ref r_8)] [(.int 0), (.ref r_8)])) rfl (by rw [hml]; rfl) (argsL := [(.ref r_8), (.int 0)]) (rest := []) (lenOf own_pd128711048 rfl) rfl (by show 2 * 0 + _ ≤ _; exact Nat.le_of_eq rfl) (hb hby own_d8_32) (fun _ _ => ⟨rfl, eh08, (by decide : 2 + 0 ≤ 2), (by decide : 9 + 0 ≤ 9)⟩)
    dsimp only [Pt.U, Pt.locs, Pt.cells, Pt.slots] at X13 l13 y13 z13 st13 hQ13
    subst l13 y13 z13
    obtain ⟨hh13, eh013⟩ : ∃ z, T13.heap = z := ⟨_, rfl⟩
    rw [eh013] at hQ13
    obtain ⟨rfl, Nq13, eh13⟩ := hQ13
    have N13 := Fr.app N8 Nq13
    refine own_st st13 ?_
    have e13 : T13.heap = hh8 := eh013.trans eh13
    refine own_st (fun _ k => XS.sipush X13.here hx rfl (hb hby own_d8_35) k) ?_
    have hd17 : (255 : Int32) < v0 := hq0
    refine own_st (fun _ k => XS.icmpYes X13.here hx rfl (pc0 := 38) (pc' := 54) rfl (hb hby own_d8_38) rfl (tlt hd17).2.2.1 (by decide) (by decide) k) ?_
    refine own_st (fun _ k => XS.aload X13.here hx rfl (hb hby own_d8_54) rfl rfl k) ?_
    show own_Gl _ _ _ _ _ _ _ (T13.setTop (mkF m 56 #[.val (.ref a), .val (.int 0), .val (.int 3), .val (.ref b1), .val (.int 0), .val (.ref r_8)] [(.ref r_8)]))
    have K18 : Keep h0 hh8 [] := (K11.trans Kq8 all0)
    exact own_retA X13 hx hlk hret rfl rfl rfl (hb hby own_d8_56) e13 ⟨r_8, kr_8, rfl, N13, K18, P8_0, gh_r_8, P8_2⟩ (by decide) (by decide)
  · by_cases hq1 : (255 : Int32) < v1
    · show own_Gl _ _ _ _ _ _ _ (T1.setTop (mkF m 9 #[.val (.ref a), .val (.int 0), .val (.int 3), .val (.ref b1), .unset, .unset] [(.int 3), (.int 0), (.ref b1), (.int 0), (.ref a)]))
      have f20 := (V_a.ext E1)
      obtain ⟨_, _, ⟨T19, L19, k19, n19⟩, -, X19, ⟨Lc19, hQ19, l19, y19, z19⟩, st19⟩ := Jvm.LawKit.callS X1 hx (y := oM13) hown (mvT hZ (oW hw 49 rfl)) (mvT hZ (oW hw 50 rfl)) (mvT hZ (oW hw 47 rfl)) (mvT hZ (oW hw 51 rfl)) (by decide) (backOf (W := 0) (own_c5_3_1 l Z a0 hw [] a b1 k k1 v0 v1 v2 h1 n0 Zs2 f20 V_b1 g_b1 ne_a_b1 hq0 hq1) hZ (oW hw 51 rfl) (oW hw 47 rfl) (by decide) (by decide)) (g := (mkF m 9 #[.val (.ref a), .val (.int 0), .val (.int 3), .val (.ref b1), .unset, .unset] [(.int 3), (.int 0), (.ref b1), (.int 0), (.ref a)])) rfl (by rw [hml]; rfl) (argsL := [(.ref a), (.int 0), (.ref b1), (.int 0), (.int 3)]) (rest := []) (lenOf own_pd196289288 rfl) rfl (by show 2 * 0 + _ ≤ _; exact Nat.le_of_eq rfl) (hb hby own_d8_9) (fun _ _ => ⟨rfl, e1, (by decide : 1 + 0 ≤ 2), (by decide : 3 + 0 ≤ 9)⟩)
      dsimp only [Pt.U, Pt.locs, Pt.cells, Pt.slots] at X19 l19 y19 z19 st19 hQ19
      subst l19 y19 z19
      obtain ⟨hh19, eh019⟩ : ∃ z, T19.heap = z := ⟨_, rfl⟩
      rw [eh019] at hQ19
      obtain ⟨rfl, Nq19, Kq19, P19_0⟩ := hQ19
      have N19 := Fr.app N0 Nq19
      refine own_st st19 ?_
      have Zs21 : n0 ≤ hh19.size := Nat.le_trans Zs2 Kq19.1
      refine own_st (fun _ k => XS.istore X19.here hx rfl (hb hby own_d8_12) rfl (l' := #[.val (.ref a), .val (.int 0), .val (.int 3), .val (.ref b1), .val (.int 1), .unset]) rfl k) ?_
      refine own_st (fun _ k => XS.iload X19.here hx rfl (hb hby own_d8_14) rfl k) ?_
      refine own_st (fun _ k => XS.iloadN X19.here hx rfl (hb hby own_d8_16) rfl k) ?_
      show own_Gl _ _ _ _ _ _ _ (T19.setTop (mkF m 17 #[.val (.ref a), .val (.int 0), .val (.int 3), .val (.ref b1), .val (.int 1), .unset] [(.int 3), (.int 1)]))
      have hd22 : ¬ ((1 : Int32) = (3 : Int32)) := (by decide)
      refine own_st (fun _ k => XS.icmpNo X19.here hx rfl (hb hby own_d8_17) rfl (feq hd22).1 k) ?_
      refine own_st (fun _ k => XS.aloadN X19.here hx rfl (hb hby own_d8_20) rfl rfl k) ?_
      refine own_st (fun _ k => XS.iloadN X19.here hx rfl (hb hby own_d8_21) rfl k) ?_
      refine own_st (fun _ k => XS.iloadN X19.here hx rfl (hb hby own_d8_22) rfl k) ?_
      show own_Gl _ _ _ _ _ _ _ (T19.setTop (mkF m 23 #[.val (.ref a), .val (.int 0), .val (.int 3), .val (.ref b1), .val (.int 1), .unset] [(.int 3), (.int 0), (.ref a)]))
      have f24 := (f20.keep Kq19 (ninS ne_a_b1 nin0))
      have f25 := ((Old0.ext E1).keep Kq19 (allS g_b1 all0))
      obtain ⟨_, _, ⟨T23, L23, k23, n23⟩, -, X23, ⟨Lc23, hQ23, l23, y23, z23⟩, st23⟩ := Jvm.LawKit.callS X19 hx (y := oM11) hown (mvT hZ (oW hw 86 rfl)) (mvT hZ (oW hw 87 rfl)) (mvT hZ (oW hw 47 rfl)) (mvT hZ (oW hw 88 rfl)) (by decide) (backOf (W := 0) (own_tb3 l Z a0 hw [] a k v0 v1 v2 hh19 n0 Zs21 f24 f25 sA sH sL) hZ (oW hw 88 rfl) (oW hw 47 rfl) (by decide) (by decide)) (g := (mkF m 23 #[.val (.ref a), .val (.int 0), .val (.int 3), .val (.ref b1), .val (.int 1), .unset] [(.int 3), (.int 0), (.ref a)])) rfl (by rw [hml]; rfl) (argsL := [(.ref a), (.int 0), (.int 3)]) (rest := []) (lenOf own_pd461289092 rfl) rfl (by show 2 * 0 + _ ≤ _; exact Nat.le_of_eq rfl) (hb hby own_d8_23) (fun _ _ => ⟨rfl, eh019, (by decide : 1 + 1 ≤ 2), (by decide : 3 + 6 ≤ 9)⟩)
      dsimp only [Pt.U, Pt.locs, Pt.cells, Pt.slots] at X23 l23 y23 z23 st23 hQ23
      subst l23 y23 z23
      obtain ⟨hh23, eh023⟩ : ∃ z, T23.heap = z := ⟨_, rfl⟩
      rw [eh023] at hQ23
      obtain ⟨r_23, kr_23, rfl, Nq23, Kq23, P23_0, P23_1, P23_2⟩ := hQ23
      have N23 := Fr.app N19 Nq23
      refine own_st st23 ?_
      have K26 : Keep h0 hh19 [] := (((Keep.refl h0 []).ext E1).trans Kq19 (allS (Or.inr gh_b1) all0))
      have Zs27 : n0 ≤ hh23.size := Nat.le_trans Zs21 Kq23.1
      have gh_r_23 : h0.size ≤ r_23 := Nat.le_trans K26.1 P23_1
      have ne_a_r_23 : a ≠ r_23 := Nat.ne_of_lt (Nat.lt_of_lt_of_le f24.lt P23_1)
      have ne_b1_r_23 : b1 ≠ r_23 := Nat.ne_of_lt (Nat.lt_of_lt_of_le P19_0.lt P23_1)
      refine own_st (fun _ k => XS.astore X23.here hx rfl (hb hby own_d8_26) rfl rfl (l' := #[.val (.ref a), .val (.int 0), .val (.int 3), .val (.ref b1), .val (.int 1), .val (.ref r_23)]) rfl k) ?_
      refine own_st (fun _ k => XS.aload X23.here hx rfl (hb hby own_d8_28) rfl rfl k) ?_
      refine own_st (fun _ k => XS.iload X23.here hx rfl (hb hby own_d8_30) rfl k) ?_
      show own_Gl _ _ _ _ _ _ _ (T23.setTop (mkF m 32 #[.val (.ref a), .val (.int 0), .val (.int 3), .val (.ref b1), .val (.int 1), .val (.ref r_23)] [(.int 1), (.ref r_23)]))
      have f29 := (f25.keep Kq23 all0)
      have f30 := (f24.keep Kq23 nin0)
      have f31 := (P19_0.keep Kq23 nin0)
      obtain ⟨_, _, ⟨T28, L28, k28, n28⟩, -, X28, ⟨Lc28, hQ28, l28, y28, z28⟩, st28⟩ := Jvm.LawKit.callS X23 hx (y := oM12) hown (mvT hZ (oW hw 102 rfl)) (mvT hZ (oW hw 103 rfl)) (mvT hZ (oW hw 47 rfl)) (mvT hZ (oW hw 104 rfl)) (by decide) (backOf (W := 0) (own_get3_1 l Z a0 hw [] r_23 kr_23 v0 v1 v2 hh23 n0 Zs27 f29 sA sH sL P23_2 hr1) hZ (oW hw 104 rfl) (oW hw 47 rfl) (by decide) (by decide)) (g := (mkF m 32 #[.val (.ref a), .val (.int 0), .val (.int 3), .val (.ref b1), .val (.int 1), .val (.ref r_23)] [(.int 1), (.ref r_23)])) rfl (by rw [hml]; rfl) (argsL := [(.ref r_23), (.int 1)]) (rest := []) (lenOf own_pd128711048 rfl) rfl (by show 2 * 0 + _ ≤ _; exact Nat.le_of_eq rfl) (hb hby own_d8_32) (fun _ _ => ⟨rfl, eh023, (by decide : 2 + 0 ≤ 2), (by decide : 9 + 0 ≤ 9)⟩)
      dsimp only [Pt.U, Pt.locs, Pt.cells, Pt.slots] at X28 l28 y28 z28 st28 hQ28
      subst l28 y28 z28
      obtain ⟨hh28, eh028⟩ : ∃ z, T28.heap = z := ⟨_, rfl⟩
      rw [eh028] at hQ28
      obtain ⟨rfl, Nq28, eh28⟩ := hQ28
      have N28 := Fr.app N23 Nq28
      refine own_st st28 ?_
      have e28 : T28.heap = hh23 := eh028.trans eh28
      refine own_st (fun _ k => XS.sipush X28.here hx rfl (hb hby own_d8_35) k) ?_
      have hd32 : (255 : Int32) < v1 := hq1
      refine own_st (fun _ k => XS.icmpYes X28.here hx rfl (pc0 := 38) (pc' := 54) rfl (hb hby own_d8_38) rfl (tlt hd32).2.2.1 (by decide) (by decide) k) ?_
      refine own_st (fun _ k => XS.aload X28.here hx rfl (hb hby own_d8_54) rfl rfl k) ?_
      show own_Gl _ _ _ _ _ _ _ (T28.setTop (mkF m 56 #[.val (.ref a), .val (.int 0), .val (.int 3), .val (.ref b1), .val (.int 1), .val (.ref r_23)] [(.ref r_23)]))
      have K33 : Keep h0 hh23 [] := (K26.trans Kq23 all0)
      exact own_retA X28 hx hlk hret rfl rfl rfl (hb hby own_d8_56) e28 ⟨r_23, kr_23, rfl, N28, K33, P23_0, gh_r_23, P23_2⟩ (by decide) (by decide)
    · have hq2 := ((hbig.resolve_left hq0).resolve_left hq1)
      show own_Gl _ _ _ _ _ _ _ (T1.setTop (mkF m 9 #[.val (.ref a), .val (.int 0), .val (.int 3), .val (.ref b1), .unset, .unset] [(.int 3), (.int 0), (.ref b1), (.int 0), (.ref a)]))
      have f35 := (V_a.ext E1)
      obtain ⟨_, _, ⟨T34, L34, k34, n34⟩, -, X34, ⟨Lc34, hQ34, l34, y34, z34⟩, st34⟩ := Jvm.LawKit.callS X1 hx (y := oM13) hown (mvT hZ (oW hw 49 rfl)) (mvT hZ (oW hw 50 rfl)) (mvT hZ (oW hw 47 rfl)) (mvT hZ (oW hw 51 rfl)) (by decide) (backOf (W := 0) (own_c5_3_2 l Z a0 hw [] a b1 k k1 v0 v1 v2 h1 n0 Zs2 f35 V_b1 g_b1 ne_a_b1 hq0 hq1 hq2) hZ (oW hw 51 rfl) (oW hw 47 rfl) (by decide) (by decide)) (g := (mkF m 9 #[.val (.ref a), .val (.int 0), .val (.int 3), .val (.ref b1), .unset, .unset] [(.int 3), (.int 0), (.ref b1), (.int 0), (.ref a)])) rfl (by rw [hml]; rfl) (argsL := [(.ref a), (.int 0), (.ref b1), (.int 0), (.int 3)]) (rest := []) (lenOf own_pd196289288 rfl) rfl (by show 2 * 0 + _ ≤ _; exact Nat.le_of_eq rfl) (hb hby own_d8_9) (fun _ _ => ⟨rfl, e1, (by decide : 1 + 0 ≤ 2), (by decide : 3 + 0 ≤ 9)⟩)
      dsimp only [Pt.U, Pt.locs, Pt.cells, Pt.slots] at X34 l34 y34 z34 st34 hQ34
      subst l34 y34 z34
      obtain ⟨hh34, eh034⟩ : ∃ z, T34.heap = z := ⟨_, rfl⟩
      rw [eh034] at hQ34
      obtain ⟨rfl, Nq34, Kq34, P34_0⟩ := hQ34
      have N34 := Fr.app N0 Nq34
      refine own_st st34 ?_
      have Zs36 : n0 ≤ hh34.size := Nat.le_trans Zs2 Kq34.1
      refine own_st (fun _ k => XS.istore X34.here hx rfl (hb hby own_d8_12) rfl (l' := #[.val (.ref a), .val (.int 0), .val (.int 3), .val (.ref b1), .val (.int 2), .unset]) rfl k) ?_
      refine own_st (fun _ k => XS.iload X34.here hx rfl (hb hby own_d8_14) rfl k) ?_
      refine own_st (fun _ k => XS.iloadN X34.here hx rfl (hb hby own_d8_16) rfl k) ?_
      show own_Gl _ _ _ _ _ _ _ (T34.setTop (mkF m 17 #[.val (.ref a), .val (.int 0), .val (.int 3), .val (.ref b1), .val (.int 2), .unset] [(.int 3), (.int 2)]))
      have hd37 : ¬ ((2 : Int32) = (3 : Int32)) := (by decide)
      refine own_st (fun _ k => XS.icmpNo X34.here hx rfl (hb hby own_d8_17) rfl (feq hd37).1 k) ?_
      refine own_st (fun _ k => XS.aloadN X34.here hx rfl (hb hby own_d8_20) rfl rfl k) ?_
      refine own_st (fun _ k => XS.iloadN X34.here hx rfl (hb hby own_d8_21) rfl k) ?_
      refine own_st (fun _ k => XS.iloadN X34.here hx rfl (hb hby own_d8_22) rfl k) ?_
      show own_Gl _ _ _ _ _ _ _ (T34.setTop (mkF m 23 #[.val (.ref a), .val (.int 0), .val (.int 3), .val (.ref b1), .val (.int 2), .unset] [(.int 3), (.int 0), (.ref a)]))
      have f39 := (f35.keep Kq34 (ninS ne_a_b1 nin0))
      have f40 := ((Old0.ext E1).keep Kq34 (allS g_b1 all0))
      obtain ⟨_, _, ⟨T38, L38, k38, n38⟩, -, X38, ⟨Lc38, hQ38, l38, y38, z38⟩, st38⟩ := Jvm.LawKit.callS X34 hx (y := oM11) hown (mvT hZ (oW hw 86 rfl)) (mvT hZ (oW hw 87 rfl)) (mvT hZ (oW hw 47 rfl)) (mvT hZ (oW hw 88 rfl)) (by decide) (backOf (W := 0) (own_tb3 l Z a0 hw [] a k v0 v1 v2 hh34 n0 Zs36 f39 f40 sA sH sL) hZ (oW hw 88 rfl) (oW hw 47 rfl) (by decide) (by decide)) (g := (mkF m 23 #[.val (.ref a), .val (.int 0), .val (.int 3), .val (.ref b1), .val (.int 2), .unset] [(.int 3), (.int 0), (.ref a)])) rfl (by rw [hml]; rfl) (argsL := [(.ref a), (.int 0), (.int 3)]) (rest := []) (lenOf own_pd461289092 rfl) rfl (by show 2 * 0 + _ ≤ _; exact Nat.le_of_eq rfl) (hb hby own_d8_23) (fun _ _ => ⟨rfl, eh034, (by decide : 1 + 1 ≤ 2), (by decide : 3 + 6 ≤ 9)⟩)
      dsimp only [Pt.U, Pt.locs, Pt.cells, Pt.slots] at X38 l38 y38 z38 st38 hQ38
      subst l38 y38 z38
      obtain ⟨hh38, eh038⟩ : ∃ z, T38.heap = z := ⟨_, rfl⟩
      rw [eh038] at hQ38
      obtain ⟨r_38, kr_38, rfl, Nq38, Kq38, P38_0, P38_1, P38_2⟩ := hQ38
      have N38 := Fr.app N34 Nq38
      refine own_st st38 ?_
      have K41 : Keep h0 hh34 [] := (((Keep.refl h0 []).ext E1).trans Kq34 (allS (Or.inr gh_b1) all0))
      have Zs42 : n0 ≤ hh38.size := Nat.le_trans Zs36 Kq38.1
      have gh_r_38 : h0.size ≤ r_38 := Nat.le_trans K41.1 P38_1
      have ne_a_r_38 : a ≠ r_38 := Nat.ne_of_lt (Nat.lt_of_lt_of_le f39.lt P38_1)
      have ne_b1_r_38 : b1 ≠ r_38 := Nat.ne_of_lt (Nat.lt_of_lt_of_le P34_0.lt P38_1)
      refine own_st (fun _ k => XS.astore X38.here hx rfl (hb hby own_d8_26) rfl rfl (l' := #[.val (.ref a), .val (.int 0), .val (.int 3), .val (.ref b1), .val (.int 2), .val (.ref r_38)]) rfl k) ?_
      refine own_st (fun _ k => XS.aload X38.here hx rfl (hb hby own_d8_28) rfl rfl k) ?_
      refine own_st (fun _ k => XS.iload X38.here hx rfl (hb hby own_d8_30) rfl k) ?_
      show own_Gl _ _ _ _ _ _ _ (T38.setTop (mkF m 32 #[.val (.ref a), .val (.int 0), .val (.int 3), .val (.ref b1), .val (.int 2), .val (.ref r_38)] [(.int 2), (.ref r_38)]))
      have f44 := (f40.keep Kq38 all0)
      have f45 := (f39.keep Kq38 nin0)
      have f46 := (P34_0.keep Kq38 nin0)
      obtain ⟨_, _, ⟨T43, L43, k43, n43⟩, -, X43, ⟨Lc43, hQ43, l43, y43, z43⟩, st43⟩ := Jvm.LawKit.callS X38 hx (y := oM12) hown (mvT hZ (oW hw 102 rfl)) (mvT hZ (oW hw 103 rfl)) (mvT hZ (oW hw 47 rfl)) (mvT hZ (oW hw 104 rfl)) (by decide) (backOf (W := 0) (own_get3_2 l Z a0 hw [] r_38 kr_38 v0 v1 v2 hh38 n0 Zs42 f44 sA sH sL P38_2 hr2) hZ (oW hw 104 rfl) (oW hw 47 rfl) (by decide) (by decide)) (g := (mkF m 32 #[.val (.ref a), .val (.int 0), .val (.int 3), .val (.ref b1), .val (.int 2), .val (.ref r_38)] [(.int 2), (.ref r_38)])) rfl (by rw [hml]; rfl) (argsL := [(.ref r_38), (.int 2)]) (rest := []) (lenOf own_pd128711048 rfl) rfl (by show 2 * 0 + _ ≤ _; exact Nat.le_of_eq rfl) (hb hby own_d8_32) (fun _ _ => ⟨rfl, eh038, (by decide : 2 + 0 ≤ 2), (by decide : 9 + 0 ≤ 9)⟩)
      dsimp only [Pt.U, Pt.locs, Pt.cells, Pt.slots] at X43 l43 y43 z43 st43 hQ43
      subst l43 y43 z43
      obtain ⟨hh43, eh043⟩ : ∃ z, T43.heap = z := ⟨_, rfl⟩
      rw [eh043] at hQ43
      obtain ⟨rfl, Nq43, eh43⟩ := hQ43
      have N43 := Fr.app N38 Nq43
      refine own_st st43 ?_
      have e43 : T43.heap = hh38 := eh043.trans eh43
      refine own_st (fun _ k => XS.sipush X43.here hx rfl (hb hby own_d8_35) k) ?_
      have hd47 : (255 : Int32) < v2 := hq2
      refine own_st (fun _ k => XS.icmpYes X43.here hx rfl (pc0 := 38) (pc' := 54) rfl (hb hby own_d8_38) rfl (tlt hd47).2.2.1 (by decide) (by decide) k) ?_
      refine own_st (fun _ k => XS.aload X43.here hx rfl (hb hby own_d8_54) rfl rfl k) ?_
      show own_Gl _ _ _ _ _ _ _ (T43.setTop (mkF m 56 #[.val (.ref a), .val (.int 0), .val (.int 3), .val (.ref b1), .val (.int 2), .val (.ref r_38)] [(.ref r_38)]))
      have K48 : Keep h0 hh38 [] := (K41.trans Kq38 all0)
      exact own_retA X43 hx hlk hret rfl rfl rfl (hb hby own_d8_56) e43 ⟨r_38, kr_38, rfl, N43, K48, P38_0, gh_r_38, P38_2⟩ (by decide) (by decide)
theorem own_ef_own_cf_3_u (m : MethodId) (x0 : Addr) (x1 : Int32) : entryFrame m #[(.ref x0), (.int x1)] 2 = mkF m 0 #[.val (.ref x0), .val (.int x1)] [] := by first | (simp [entryFrame, mkF, argsToLocals, Value.category]; done) | rfl
def own_Q_own_cf_3_u (Z : State) (a : Addr) (k : ClassId) (w : List Value) (h0 : Heap) (n0 : Nat) (v : Option Value) (h : Heap) (L : List Loc) : Prop := (v = some (.int 1)) ∧ (Fr n0 L) ∧ (h = h0)

theorem own_cf_3_u (l : Launch) (Z : State) (a0 : Array Value) (hw : oT a0 Z) (ws : List Jvm.Cond) (a : Addr) (k : ClassId) (w : List Value) (h0 : Heap) (n0 : Nat) (Z0 : n0 ≤ h0.size) (V_a : Arv Z h0 a k .byte (6 : Int32) w (.int 0)) :
    oMet l oM15 jdk_52_method_15_code 2 (some .byte) ws ⟨0, 0, 0, 0⟩ #[(.ref a), (.int 3)] Z h0 (own_Q_own_cf_3_u Z a k w h0 n0) := by
  refine oB n0 "java/lang/StringUTF16" rfl (plainFor_of_name own_pn730740715) (fun m => own_ef_own_cf_3_u m a (3 : Int32)) ?_
  intro p e s m below meth c s₁ hZ hx hby hlk hret hml hown hnm X0 e0 N0
  show own_Gl _ _ _ _ _ _ _ (s₁.setTop (mkF m 0 #[.val (.ref a), .val (.int 3)] []))
  refine own_st (fun _ k => XS.iloadN X0.here hx rfl (hb hby own_d10_0) rfl k) ?_
  refine own_st (fun _ k => XS.aloadN X0.here hx rfl (hb hby own_d10_1) rfl rfl k) ?_
  obtain ⟨cl1, Ar1, qq1, Ss1, Nn1, Hh1, Gg1⟩ := id V_a
  refine own_st (X0.arraylength hx (by rw [e0]; exact Ar1.1) (State.isArrayOf_alike hZ.alike Ar1.2.1) (g := (mkF m 2 #[.val (.ref a), .val (.int 3)] [(.ref a), (.int 3)])) rfl rfl (hb hby own_d10_2)) ?_
  rw [len_of Ss1 Nn1]
  refine own_st (fun _ k => XS.isub X0.here hx rfl (hb hby own_d10_3) rfl k) ?_
  show own_Gl _ _ _ _ _ _ _ (s₁.setTop (mkF m 4 #[.val (.ref a), .val (.int 3)] [(.int (-3))]))
  refine own_st (fun _ k => XS.bipush X0.here hx rfl (hb hby own_d10_4) k) ?_
  refine own_st (fun _ k => XS.iushr X0.here hx rfl (hb hby own_d10_6) rfl k) ?_
  refine own_st (fun _ k => XS.i2b X0.here hx rfl (hb hby own_d10_7) rfl k) ?_
  show own_Gl _ _ _ _ _ _ _ (s₁.setTop (mkF m 8 #[.val (.ref a), .val (.int 3)] [(.int ((((-3 : Int32).toUInt32 >>> ((31 : Int32) &&& 31).toUInt32).toInt32).toInt8.toInt32))]))
  exact own_retN X0 hx hlk (t := .byte) hret (by simp) (hb hby own_d10_8) e0 ⟨rfl, N0, rfl⟩ (by decide) (by decide)
theorem own_ef_own_i4_3_u (m : MethodId) (x0 : Addr) (x1 : Addr) (x2 : Int32) (x3 : Int32) : entryFrame m #[(.ref x0), (.ref x1), (.int x2), (.int x3), .null] 6 = mkF m 0 #[.val (.ref x0), .val (.ref x1), .val (.int x2), .val (.int x3), .val .null, .unset] [] := by first | (simp [entryFrame, mkF, argsToLocals, Value.category]; done) | rfl
def own_Q_own_i4_3_u (Z : State) (a : Addr) (b : Addr) (k : ClassId) (v0 : Int32) (v1 : Int32) (v2 : Int32) (cs : Int32) (h0 : Heap) (n0 : Nat) (v : Option Value) (h : Heap) (L : List Loc) : Prop := ∃ (r : Addr) (kr : ClassId), (v = none) ∧ (Fr n0 L) ∧ (Keep h0 h [a]) ∧ (n0 ≤ r) ∧ (h0.size ≤ r) ∧ (Arv Z h r kr .byte (6 : Int32) [(.int (nar .byte ((v0 >>> ((0 : Int32) &&& 31)).toInt8.toInt32))), (.int (nar .byte ((v0 >>> ((8 : Int32) &&& 31)).toInt8.toInt32))), (.int (nar .byte ((v1 >>> ((0 : Int32) &&& 31)).toInt8.toInt32))), (.int (nar .byte ((v1 >>> ((8 : Int32) &&& 31)).toInt8.toInt32))), (.int (nar .byte ((v2 >>> ((0 : Int32) &&& 31)).toInt8.toInt32))), (.int (nar .byte ((v2 >>> ((8 : Int32) &&& 31)).toInt8.toInt32)))] (.int 0)) ∧ (Fld Z h a "java/lang/String" "value" "[B" (.ref r)) ∧ (Fld Z h a "java/lang/String" "coder" "B" (.int 1))

theorem own_i4_3_u (l : Launch) (Z : State) (a0 : Array Value) (hw : oT a0 Z) (ws : List Jvm.Cond) (a : Addr) (b : Addr) (k : ClassId) (v0 : Int32) (v1 : Int32) (v2 : Int32) (cs : Int32) (h0 : Heap) (n0 : Nat) (Z0 : n0 ≤ h0.size) (E_a : Exa Z h0 a "java/lang/String") (F_a_value : Fld Z h0 a "java/lang/String" "value" "[B" .null) (F_a_coder : Fld Z h0 a "java/lang/String" "coder" "B" (.int 0)) (g_a : n0 ≤ a) (ne_a_b : a ≠ b) (V_b : Arv Z h0 b k .char (3 : Int32) [(.int v0), (.int v1), (.int v2)] (.int 0)) (hbig : (255 : Int32) < v0 ∨ (255 : Int32) < v1 ∨ (255 : Int32) < v2) (sC : Sta Z Z.heap "java/lang/String" "COMPACT_STRINGS" "Z" (.int cs)) (hcs : ¬ (cs = (0 : Int32))) (Old0 : Old Z n0 h0) (sA : Sta Z Z.heap "java/lang/StringUTF16" "$assertionsDisabled" "Z" (.int 1)) (sH : Sta Z Z.heap "java/lang/StringUTF16" "HI_BYTE_SHIFT" "I" (.int 0)) (sL : Sta Z Z.heap "java/lang/StringUTF16" "LO_BYTE_SHIFT" "I" (.int 8)) (hr0 : ¬ v0 < (0 : Int32) ∧ ¬ (65535 : Int32) < v0) (hr1 : ¬ v1 < (0 : Int32) ∧ ¬ (65535 : Int32) < v1) (hr2 : ¬ v2 < (0 : Int32) ∧ ¬ (65535 : Int32) < v2) :
    oMet l oM16 jdk_42_method_149_code 6 none ws ⟨4, 2, 9, 57⟩ #[(.ref a), (.ref b), (.int 0), (.int 3), .null] Z h0 (own_Q_own_i4_3_u Z a b k v0 v1 v2 cs h0 n0) := by
  refine oB n0 "java/lang/String" rfl (plainFor_of_name own_pn853443214) (fun m => own_ef_own_i4_3_u m a b (0 : Int32) (3 : Int32)) ?_
  intro p e s m below meth c s₁ hZ hx hby hlk hret hml hown hnm X0 e0 N0
  show own_Gl _ _ _ _ _ _ _ (s₁.setTop (mkF m 0 #[.val (.ref a), .val (.ref b), .val (.int 0), .val (.int 3), .val .null, .unset] []))
  refine own_st (fun _ k => XS.aloadN X0.here hx rfl (hb hby own_d3_0) rfl rfl k) ?_
  obtain ⟨T1, X1, e1, st1⟩ := initO X0 hx hZ hown (oW hw 15 rfl) (oW hw 16 rfl) (oW hw 17 rfl) e0 (g := (mkF m 1 #[.val (.ref a), .val (.ref b), .val (.int 0), .val (.int 3), .val .null, .unset] [(.ref a)])) rfl (by rw [hml]; rfl) rfl (hb hby own_d3_1) (by decide) (W := 0) (by show 2 * 0 + _ ≤ _; exact Nat.le_of_eq rfl) (by decide)
  refine own_st st1 ?_
  refine own_st (fun _ k => XS.iloadN X1.here hx rfl (hb hby own_d3_4) rfl k) ?_
  have hd2 : ¬ ((3 : Int32) = (0 : Int32)) := (by decide)
  refine own_st (fun _ k => XS.ifYes X1.here hx rfl (pc0 := 5) (pc' := 27) rfl (hb hby own_d3_5) rfl ((if0 _ _).trans (feq hd2).2) (by decide) (by decide) k) ?_
  show own_Gl _ _ _ _ _ _ _ (T1.setTop (mkF m 27 #[.val (.ref a), .val (.ref b), .val (.int 0), .val (.int 3), .val .null, .unset] []))
  obtain ⟨T3, X3, e3, st3⟩ := getS2 X1 hx hZ hown (host := "") (Or.inl (oW hw 44 rfl)) Via.refl e1 (sC.ext Old0.2) (g := (mkF m 27 #[.val (.ref a), .val (.ref b), .val (.int 0), .val (.int 3), .val .null, .unset] [])) rfl (hb hby own_d3_27)
  refine own_st st3 ?_
  have hd4 : ¬ (cs = (0 : Int32)) := hcs
  refine own_st (fun _ k => XS.ifNo X3.here hx rfl (hb hby own_d3_30) rfl ((if0 _ _).trans (feq hd4).1) k) ?_
  refine own_st (fun _ k => XS.aloadN X3.here hx rfl (hb hby own_d3_33) rfl rfl k) ?_
  refine own_st (fun _ k => XS.iloadN X3.here hx rfl (hb hby own_d3_34) rfl k) ?_
  show own_Gl _ _ _ _ _ _ _ (T3.setTop (mkF m 35 #[.val (.ref a), .val (.ref b), .val (.int 0), .val (.int 3), .val .null, .unset] [(.int 0), (.ref b)]))
  refine own_st (fun _ k => XS.iloadN X3.here hx rfl (hb hby own_d3_35) rfl k) ?_
  obtain ⟨_, _, ⟨T5, L5, k5, n5⟩, -, X5, ⟨Lc5, hQ5, l5, y5, z5⟩, st5⟩ := Jvm.LawKit.callS X3 hx (y := oM14) hown (mvT hZ (oW hw 45 rfl)) (mvT hZ (oW hw 46 rfl)) (mvT hZ (oW hw 47 rfl)) (mvT hZ (oW hw 48 rfl)) (by decide) (backOf (W := 0) (own_c3_3_u l Z a0 hw [] b k v0 v1 v2 h0 n0 Z0 V_b hbig Old0 sA sH sL hr0 hr1 hr2) hZ (oW hw 48 rfl) (oW hw 47 rfl) (by decide) (by decide)) (g := (mkF m 36 #[.val (.ref a), .val (.ref b), .val (.int 0), .val (.int 3), .val .null, .unset] [(.int 3), (.int 0), (.ref b)])) rfl (by rw [hml]; rfl) (argsL := [(.ref b), (.int 0), (.int 3)]) (rest := []) (lenOf own_pd461289092 rfl) rfl (by show 2 * 0 + _ ≤ _; exact Nat.le_of_eq rfl) (hb hby own_d3_36) (fun _ _ => ⟨rfl, e3, (by decide : 0 + 2 ≤ 2), (by decide : 0 + 9 ≤ 9)⟩)
  dsimp only [Pt.U, Pt.locs, Pt.cells, Pt.slots] at X5 l5 y5 z5 st5 hQ5
  subst l5 y5 z5
  obtain ⟨hh5, eh05⟩ : ∃ z, T5.heap = z := ⟨_, rfl⟩
  rw [eh05] at hQ5
  obtain ⟨r_5, kr_5, rfl, Nq5, Kq5, P5_0, P5_1, P5_2⟩ := hQ5
  have N5 := Fr.app N0 Nq5
  refine own_st st5 ?_
  have Zs6 : n0 ≤ hh5.size := Nat.le_trans Z0 Kq5.1
  have gh_r_5 : h0.size ≤ r_5 := Nat.le_trans (Keep.refl h0 [a]).1 P5_1
  have ne_a_r_5 : a ≠ r_5 := Nat.ne_of_lt (Nat.lt_of_lt_of_le E_a.lt P5_1)
  have ne_b_r_5 : b ≠ r_5 := Nat.ne_of_lt (Nat.lt_of_lt_of_le V_b.lt P5_1)
  refine own_st (fun _ k => XS.astore X5.here hx rfl (hb hby own_d3_39) rfl rfl (l' := #[.val (.ref a), .val (.ref b), .val (.int 0), .val (.int 3), .val .null, .val (.ref r_5)]) rfl k) ?_
  refine own_st (fun _ k => XS.aloadN X5.here hx rfl (hb hby own_d3_41) rfl rfl k) ?_
  show own_Gl _ _ _ _ _ _ _ (T5.setTop (mkF m 42 #[.val (.ref a), .val (.ref b), .val (.int 0), .val (.int 3), .val .null, .val (.ref r_5)] [(.ref a)]))
  refine own_st (fun _ k => XS.aload X5.here hx rfl (hb hby own_d3_42) rfl rfl k) ?_
  refine own_st (fun _ k => XS.iloadN X5.here hx rfl (hb hby own_d3_44) rfl k) ?_
  have f8 := (E_a.keep Kq5)
  have f9 := (V_b.keep Kq5 nin0)
  obtain ⟨_, _, ⟨T7, L7, k7, n7⟩, -, X7, ⟨Lc7, hQ7, l7, y7, z7⟩, st7⟩ := Jvm.LawKit.callS X5 hx (y := oM15) hown (mvT hZ (oW hw 52 rfl)) (mvT hZ (oW hw 53 rfl)) (mvT hZ (oW hw 47 rfl)) (mvT hZ (oW hw 54 rfl)) (by decide) (backOf (W := 1) (own_cf_3_u l Z a0 hw [] r_5 kr_5 [(.int (nar .byte ((v0 >>> ((0 : Int32) &&& 31)).toInt8.toInt32))), (.int (nar .byte ((v0 >>> ((8 : Int32) &&& 31)).toInt8.toInt32))), (.int (nar .byte ((v1 >>> ((0 : Int32) &&& 31)).toInt8.toInt32))), (.int (nar .byte ((v1 >>> ((8 : Int32) &&& 31)).toInt8.toInt32))), (.int (nar .byte ((v2 >>> ((0 : Int32) &&& 31)).toInt8.toInt32))), (.int (nar .byte ((v2 >>> ((8 : Int32) &&& 31)).toInt8.toInt32)))] hh5 n0 Zs6 P5_2) hZ (oW hw 54 rfl) (oW hw 47 rfl) (by decide) (by decide)) (g := (mkF m 45 #[.val (.ref a), .val (.ref b), .val (.int 0), .val (.int 3), .val .null, .val (.ref r_5)] [(.int 3), (.ref r_5), (.ref a)])) rfl (by rw [hml]; rfl) (argsL := [(.ref r_5), (.int 3)]) (rest := [(.ref a)]) (lenOf own_pd128711047 rfl) rfl (by show 2 * 0 + _ ≤ _; exact Nat.le_of_eq rfl) (hb hby own_d3_45) (fun _ _ => ⟨rfl, eh05, (by decide : 2 + 0 ≤ 2), (by decide : 9 + 0 ≤ 9)⟩)
  dsimp only [Pt.U, Pt.locs, Pt.cells, Pt.slots] at X7 l7 y7 z7 st7 hQ7
  subst l7 y7 z7
  obtain ⟨hh7, eh07⟩ : ∃ z, T7.heap = z := ⟨_, rfl⟩
  rw [eh07] at hQ7
  obtain ⟨rfl, Nq7, eh7⟩ := hQ7
  have N7 := Fr.app N5 Nq7
  refine own_st st7 ?_
  have e7 : T7.heap = hh5 := eh07.trans eh7
  have f10 := (F_a_coder.keep Kq5 nin0)
  obtain ⟨T11, h11, X11, e11, W11, st11⟩ := putFN X7 hx hZ hown (oW hw 25 rfl) Via.refl e7 f10 f8 (Or.inr ⟨(oW hw 21 rfl), rfl, hnm⟩) (oW hw 6 rfl) (ty := .byte) (v' := (.int (nar .byte (1 : Int32)))) (by decide) rfl (fits_nar_byte _) (g := (mkF m 48 #[.val (.ref a), .val (.ref b), .val (.int 0), .val (.int 3), .val .null, .val (.ref r_5)] [(.int 1), (.ref a)])) rfl rfl (hb hby own_d3_48)
  have N11 := Fr.snoc X11 N7 g_a
  refine own_st st11 ?_
  have Zs12 : n0 ≤ h11.size := Nat.le_trans Zs6 (Keep.of_wr W11).1
  have Fw11 := f10.same W11
  show own_Gl _ _ _ _ _ _ _ (T11.setTop (mkF m 51 #[.val (.ref a), .val (.ref b), .val (.int 0), .val (.int 3), .val .null, .val (.ref r_5)] []))
  refine own_st (fun _ k => XS.aloadN X11.here hx rfl (hb hby own_d3_51) rfl rfl k) ?_
  refine own_st (fun _ k => XS.aload X11.here hx rfl (hb hby own_d3_52) rfl rfl k) ?_
  have f13 := (f8.wr W11)
  have f14 := ((F_a_value.keep Kq5 nin0).other W11 (Or.inr (slot_ne (Or.inr (oW hw 20 rfl)) (Or.inr (oW hw 21 rfl)) (by decide) (t := (.array .byte)) (t' := .byte) (by decide) (by decide))))
  obtain ⟨T15, h15, X15, e15, W15, st15⟩ := putF X11 hx hZ hown (host := "") (Or.inl (oW hw 24 rfl)) Via.refl e11 f14 f13 (Or.inr ⟨(oW hw 20 rfl), rfl, hnm⟩) (oW hw 6 rfl) (ty := (.array .byte)) (by decide) rfl rfl (g := (mkF m 54 #[.val (.ref a), .val (.ref b), .val (.int 0), .val (.int 3), .val .null, .val (.ref r_5)] [(.ref r_5), (.ref a)])) rfl rfl (hb hby own_d3_54)
  have N15 := Fr.snoc X15 N11 g_a
  refine own_st st15 ?_
  have Zs16 : n0 ≤ h15.size := Nat.le_trans Zs12 (Keep.of_wr W15).1
  have Fw15 := f14.same W15
  show own_Gl _ _ _ _ _ _ _ (T15.setTop (mkF m 57 #[.val (.ref a), .val (.ref b), .val (.int 0), .val (.int 3), .val .null, .val (.ref r_5)] []))
  have f17 := (Fw11.other W15 (Or.inr (slot_ne (Or.inr (oW hw 21 rfl)) (Or.inr (oW hw 20 rfl)) (by decide) (t := .byte) (t' := (.array .byte)) (by decide) (by decide))))
  have K18 : Keep h0 h15 [a] := ((((Keep.refl h0 [a]).trans Kq5 all0).wr W11 (Or.inl (List.mem_of_getElem? (i := 0) rfl))).wr W15 (Or.inl (List.mem_of_getElem? (i := 0) rfl)))
  have f19 := ((P5_2.other W11 (Ne.symm ne_a_r_5)).other W15 (Ne.symm ne_a_r_5))
  exact own_retV X15 hx hlk hret (hb hby own_d3_57) e15 ⟨r_5, kr_5, rfl, N15, K18, P5_0, gh_r_5, f19, Fw15, f17⟩ (by decide) (by decide)
theorem own_ef_own_i1_3_u (m : MethodId) (x0 : Addr) (x1 : Addr) : entryFrame m #[(.ref x0), (.ref x1)] 2 = mkF m 0 #[.val (.ref x0), .val (.ref x1)] [] := by first | (simp [entryFrame, mkF, argsToLocals, Value.category]; done) | rfl
def own_Q_own_i1_3_u (Z : State) (a : Addr) (b : Addr) (k : ClassId) (v0 : Int32) (v1 : Int32) (v2 : Int32) (cs : Int32) (h0 : Heap) (n0 : Nat) (v : Option Value) (h : Heap) (L : List Loc) : Prop := ∃ (r : Addr) (kr : ClassId), (v = none) ∧ (Fr n0 L) ∧ (Keep h0 h [a]) ∧ (n0 ≤ r) ∧ (h0.size ≤ r) ∧ (Arv Z h r kr .byte (6 : Int32) [(.int (nar .byte ((v0 >>> ((0 : Int32) &&& 31)).toInt8.toInt32))), (.int (nar .byte ((v0 >>> ((8 : Int32) &&& 31)).toInt8.toInt32))), (.int (nar .byte ((v1 >>> ((0 : Int32) &&& 31)).toInt8.toInt32))), (.int (nar .byte ((v1 >>> ((8 : Int32) &&& 31)).toInt8.toInt32))), (.int (nar .byte ((v2 >>> ((0 : Int32) &&& 31)).toInt8.toInt32))), (.int (nar .byte ((v2 >>> ((8 : Int32) &&& 31)).toInt8.toInt32)))] (.int 0)) ∧ (Fld Z h a "java/lang/String" "value" "[B" (.ref r)) ∧ (Fld Z h a "java/lang/String" "coder" "B" (.int 1))

theorem own_i1_3_u (l : Launch) (Z : State) (a0 : Array Value) (hw : oT a0 Z) (ws : List Jvm.Cond) (a : Addr) (b : Addr) (k : ClassId) (v0 : Int32) (v1 : Int32) (v2 : Int32) (cs : Int32) (h0 : Heap) (n0 : Nat) (Z0 : n0 ≤ h0.size) (E_a : Exa Z h0 a "java/lang/String") (F_a_value : Fld Z h0 a "java/lang/String" "value" "[B" .null) (F_a_coder : Fld Z h0 a "java/lang/String" "coder" "B" (.int 0)) (g_a : n0 ≤ a) (ne_a_b : a ≠ b) (V_b : Arv Z h0 b k .char (3 : Int32) [(.int v0), (.int v1), (.int v2)] (.int 0)) (hbig : (255 : Int32) < v0 ∨ (255 : Int32) < v1 ∨ (255 : Int32) < v2) (sC : Sta Z Z.heap "java/lang/String" "COMPACT_STRINGS" "Z" (.int cs)) (hcs : ¬ (cs = (0 : Int32))) (Old0 : Old Z n0 h0) (sA : Sta Z Z.heap "java/lang/StringUTF16" "$assertionsDisabled" "Z" (.int 1)) (sH : Sta Z Z.heap "java/lang/StringUTF16" "HI_BYTE_SHIFT" "I" (.int 0)) (sL : Sta Z Z.heap "java/lang/StringUTF16" "LO_BYTE_SHIFT" "I" (.int 8)) (hr0 : ¬ v0 < (0 : Int32) ∧ ¬ (65535 : Int32) < v0) (hr1 : ¬ v1 < (0 : Int32) ∧ ¬ (65535 : Int32) < v1) (hr2 : ¬ v2 < (0 : Int32) ∧ ¬ (65535 : Int32) < v2) :
    oMet l oM17 jdk_42_method_3_code 2 none ws ⟨5, 2, 9, 74⟩ #[(.ref a), (.ref b)] Z h0 (own_Q_own_i1_3_u Z a b k v0 v1 v2 cs h0 n0) := by
  refine oB n0 "java/lang/String" rfl (plainFor_of_name own_pn853443214) (fun m => own_ef_own_i1_3_u m a b) ?_
  intro p e s m below meth c s₁ hZ hx hby hlk hret hml hown hnm X0 e0 N0
  show own_Gl _ _ _ _ _ _ _ (s₁.setTop (mkF m 0 #[.val (.ref a), .val (.ref b)] []))
  refine own_st (fun _ k => XS.aloadN X0.here hx rfl (hb hby own_d2_0) rfl rfl k) ?_
  refine own_st (fun _ k => XS.aloadN X0.here hx rfl (hb hby own_d2_1) rfl rfl k) ?_
  refine own_st (fun _ k => XS.iconst X0.here hx rfl (hb hby own_d2_2) k) ?_
  refine own_st (fun _ k => XS.aloadN X0.here hx rfl (hb hby own_d2_3) rfl rfl k) ?_
  show own_Gl _ _ _ _ _ _ _ (s₁.setTop (mkF m 4 #[.val (.ref a), .val (.ref b)] [(.ref b), (.int 0), (.ref b), (.ref a)]))
  obtain ⟨cl1, Ar1, qq1, Ss1, Nn1, Hh1, Gg1⟩ := id V_b
  refine own_st (X0.arraylength hx (by rw [e0]; exact Ar1.1) (State.isArrayOf_alike hZ.alike Ar1.2.1) (g := (mkF m 4 #[.val (.ref a), .val (.ref b)] [(.ref b), (.int 0), (.ref b), (.ref a)])) rfl rfl (hb hby own_d2_4)) ?_
  rw [len_of Ss1 Nn1]
  refine own_st (fun _ k => XS.aconstNull X0.here hx rfl (hb hby own_d2_5) k) ?_
  obtain ⟨_, _, ⟨T2, L2, k2, n2⟩, -, X2, ⟨Lc2, hQ2, l2, y2, z2⟩, st2⟩ := X0.specialBack hx (y := oM16) rfl hown (mvT hZ (oW hw 11 rfl)) (mvT hZ (oW hw 12 rfl)) (mvT hZ (oW hw 14 rfl)) (by decide) (backOf (W := 0) (own_i4_3_u l Z a0 hw [] a b k v0 v1 v2 cs h0 n0 Z0 E_a F_a_value F_a_coder g_a ne_a_b V_b hbig sC hcs Old0 sA sH sL hr0 hr1 hr2) hZ (oW hw 14 rfl) (oW hw 7 rfl) (by decide) (by decide)) (g := (mkF m 6 #[.val (.ref a), .val (.ref b)] [.null, (.int 3), (.int 0), (.ref b), (.ref a)])) rfl (by rw [hml]; rfl) (Steps.refl _) (a := a) (argsL := [(.ref b), (.int 0), (.int 3), .null]) (rest := []) (lenOf own_pd888094010 rfl) rfl (by show 2 * 0 + _ ≤ _; exact Nat.le_of_eq rfl) (hb hby own_d2_6) (fun _ _ => ⟨rfl, e0, (by decide : 0 + 2 ≤ 2), (by decide : 0 + 9 ≤ 9)⟩)
  dsimp only [Pt.U, Pt.locs, Pt.cells, Pt.slots] at X2 l2 y2 z2 st2 hQ2
  subst l2 y2 z2
  obtain ⟨hh2, eh02⟩ : ∃ z, T2.heap = z := ⟨_, rfl⟩
  rw [eh02] at hQ2
  obtain ⟨r_2, kr_2, rfl, Nq2, Kq2, P2_0, P2_1, P2_2, P2_3, P2_4⟩ := hQ2
  have N2 := Fr.app N0 Nq2
  refine own_tr st2 ?_
  have Zs3 : n0 ≤ hh2.size := Nat.le_trans Z0 Kq2.1
  have gh_r_2 : h0.size ≤ r_2 := Nat.le_trans (Keep.refl h0 [a]).1 P2_1
  have ne_a_r_2 : a ≠ r_2 := Nat.ne_of_lt (Nat.lt_of_lt_of_le E_a.lt P2_1)
  have ne_b_r_2 : b ≠ r_2 := Nat.ne_of_lt (Nat.lt_of_lt_of_le V_b.lt P2_1)
  show own_Gl _ _ _ _ _ _ _ (T2.setTop (mkF m 9 #[.val (.ref a), .val (.ref b)] []))
  have K4 : Keep h0 hh2 [a] := ((Keep.refl h0 [a]).trans Kq2 (allS (Or.inl (List.mem_of_getElem? (i := 0) rfl)) all0))
  exact own_retV X2 hx hlk hret (hb hby own_d2_9) eh02 ⟨r_2, kr_2, rfl, N2, K4, P2_0, gh_r_2, P2_2, P2_3, P2_4⟩ (by decide) (by decide)
theorem own_ef_own_ulen3 (m : MethodId) (x0 : Addr) : entryFrame m #[(.ref x0)] 1 = mkF m 0 #[.val (.ref x0)] [] := by first | (simp [entryFrame, mkF, argsToLocals, Value.category]; done) | rfl
def own_Q_own_ulen3 (Z : State) (a : Addr) (k : ClassId) (vl : List Value) (h0 : Heap) (n0 : Nat) (v : Option Value) (h : Heap) (L : List Loc) : Prop := (v = some (.int 3)) ∧ (Fr n0 L) ∧ (h = h0)

theorem own_ulen3 (l : Launch) (Z : State) (a0 : Array Value) (hw : oT a0 Z) (ws : List Jvm.Cond) (a : Addr) (k : ClassId) (vl : List Value) (h0 : Heap) (n0 : Nat) (Z0 : n0 ≤ h0.size) (V_a : Arv Z h0 a k .byte (6 : Int32) vl (.int 0)) :
    oMet l oM18 jdk_52_method_6_code 1 (some .int) ws ⟨0, 0, 0, 0⟩ #[(.ref a)] Z h0 (own_Q_own_ulen3 Z a k vl h0 n0) := by
  refine oB n0 "java/lang/StringUTF16" rfl (plainFor_of_name own_pn730740715) (fun m => own_ef_own_ulen3 m a) ?_
  intro p e s m below meth c s₁ hZ hx hby hlk hret hml hown hnm X0 e0 N0
  show own_Gl _ _ _ _ _ _ _ (s₁.setTop (mkF m 0 #[.val (.ref a)] []))
  refine own_st (fun _ k => XS.aloadN X0.here hx rfl (hb hby own_d25_0) rfl rfl k) ?_
  obtain ⟨cl1, Ar1, qq1, Ss1, Nn1, Hh1, Gg1⟩ := id V_a
  refine own_st (X0.arraylength hx (by rw [e0]; exact Ar1.1) (State.isArrayOf_alike hZ.alike Ar1.2.1) (g := (mkF m 1 #[.val (.ref a)] [(.ref a)])) rfl rfl (hb hby own_d25_1)) ?_
  rw [len_of Ss1 Nn1]
  refine own_st (fun _ k => XS.iconst X0.here hx rfl (hb hby own_d25_2) k) ?_
  refine own_st (fun _ k => XS.ishr X0.here hx rfl (hb hby own_d25_3) rfl k) ?_
  show own_Gl _ _ _ _ _ _ _ (s₁.setTop (mkF m 4 #[.val (.ref a)] [(.int ((6 : Int32) >>> ((1 : Int32) &&& 31)))]))
  exact own_retI X0 hx hlk hret (hb hby own_d25_4) e0 ⟨rfl, N0, rfl⟩ (by decide) (by decide)
theorem own_ef_own_l1c3_0 (m : MethodId) (x0 : Addr) (x1 : Int32) : entryFrame m #[(.ref x0), (.int x1)] 2 = mkF m 0 #[.val (.ref x0), .val (.int x1)] [] := by first | (simp [entryFrame, mkF, argsToLocals, Value.category]; done) | rfl
def own_Q_own_l1c3_0 (Z : State) (a : Addr) (k : ClassId) (sf : Value) (v0 : Int32) (v1 : Int32) (v2 : Int32) (h0 : Heap) (n0 : Nat) (v : Option Value) (h : Heap) (L : List Loc) : Prop := (v = some (.int v0)) ∧ (Fr n0 L) ∧ (h = h0)

theorem own_l1c3_0 (l : Launch) (Z : State) (a0 : Array Value) (hw : oT a0 Z) (ws : List Jvm.Cond) (a : Addr) (k : ClassId) (sf : Value) (v0 : Int32) (v1 : Int32) (v2 : Int32) (h0 : Heap) (n0 : Nat) (Z0 : n0 ≤ h0.size) (Old0 : Old Z n0 h0) (sF : Sta Z Z.heap "jdk/internal/util/Preconditions" "SIOOBE_FORMATTER" "Ljava/util/function/BiFunction;" sf) (hsf : sf.isRef = true) (V_a : Arv Z h0 a k .byte (3 : Int32) [(.int (nar .byte (v0.toInt8.toInt32))), (.int (nar .byte (v1.toInt8.toInt32))), (.int (nar .byte (v2.toInt8.toInt32)))] (.int 0)) (hr0 : ¬ v0 < (0 : Int32) ∧ ¬ (255 : Int32) < v0) :
    oMet l oM19 jdk_43_method_2_code 2 (some .char) ws ⟨2, 0, 0, 27⟩ #[(.ref a), (.int 0)] Z h0 (own_Q_own_l1c3_0 Z a k sf v0 v1 v2 h0 n0) := by
  refine oB n0 "java/lang/StringLatin1" rfl (plainFor_of_name own_pn340705600) (fun m => own_ef_own_l1c3_0 m a (0 : Int32)) ?_
  intro p e s m below meth c s₁ hZ hx hby hlk hret hml hown hnm X0 e0 N0
  show own_Gl _ _ _ _ _ _ _ (s₁.setTop (mkF m 0 #[.val (.ref a), .val (.int 0)] []))
  refine own_st (fun _ k => XS.iloadN X0.here hx rfl (hb hby own_d14_0) rfl k) ?_
  refine own_st (fun _ k => XS.aloadN X0.here hx rfl (hb hby own_d14_1) rfl rfl k) ?_
  obtain ⟨cl1, Ar1, qq1, Ss1, Nn1, Hh1, Gg1⟩ := id V_a
  refine own_st (X0.arraylength hx (by rw [e0]; exact Ar1.1) (State.isArrayOf_alike hZ.alike Ar1.2.1) (g := (mkF m 2 #[.val (.ref a), .val (.int 0)] [(.ref a), (.int 0)])) rfl rfl (hb hby own_d14_2)) ?_
  rw [len_of Ss1 Nn1]
  obtain ⟨_, _, ⟨T2, L2, k2, n2⟩, -, X2, ⟨Lc2, hQ2, l2, y2, z2⟩, st2⟩ := Jvm.LawKit.callS X0 hx (y := oM7) hown (mvT hZ (oW hw 75 rfl)) (mvT hZ (oW hw 76 rfl)) (mvT hZ (oW hw 7 rfl)) (mvT hZ (oW hw 77 rfl)) (by decide) (backOf (W := 0) (own_sci l Z a0 hw [] (0 : Int32) (3 : Int32) sf h0 n0 Z0 Old0 sF hsf (by decide) (by decide)) hZ (oW hw 77 rfl) (oW hw 7 rfl) (by decide) (by decide)) (g := (mkF m 3 #[.val (.ref a), .val (.int 0)] [(.int 3), (.int 0)])) rfl (by rw [hml]; rfl) (argsL := [(.int 0), (.int 3)]) (rest := []) (lenOf own_pd945365693 rfl) rfl (by show 2 * 0 + _ ≤ _; exact Nat.le_of_eq rfl) (hb hby own_d14_3) (fun _ _ => ⟨rfl, e0, (by decide : 0 + 0 ≤ 0), (by decide : 0 + 0 ≤ 0)⟩)
  dsimp only [Pt.U, Pt.locs, Pt.cells, Pt.slots] at X2 l2 y2 z2 st2 hQ2
  subst l2 y2 z2
  obtain ⟨hh2, eh02⟩ : ∃ z, T2.heap = z := ⟨_, rfl⟩
  rw [eh02] at hQ2
  obtain ⟨rfl, Nq2, eh2⟩ := hQ2
  have N2 := Fr.app N0 Nq2
  refine own_st st2 ?_
  have e2 : T2.heap = h0 := eh02.trans eh2
  show own_Gl _ _ _ _ _ _ _ (T2.setTop (mkF m 6 #[.val (.ref a), .val (.int 0)] []))
  refine own_st (fun _ k => XS.aloadN X2.here hx rfl (hb hby own_d14_6) rfl rfl k) ?_
  refine own_st (fun _ k => XS.iloadN X2.here hx rfl (hb hby own_d14_7) rfl k) ?_
  obtain ⟨cl3, Ar3, qq3, Ss3, Nn3, Hh3, Gg3⟩ := id V_a
  have hin3 : ¬ ((0 : Int32) < 0 ∨ cl3.slots.size ≤ ((0 : Int32)).toNatClampNeg) := inb_of Ss3 ⟨by decide, by decide⟩
  have hat3 : cl3.slots[((0 : Int32)).toNatClampNeg]? = some (.int (nar .byte (v0.toInt8.toInt32))) := Hh3.at hin3 (rfl)
  refine own_st (X2.baloadBytes hx (j := (0 : Int32)) (v := (.int (nar .byte (v0.toInt8.toInt32)))) (by rw [e2]; exact Ar3.1) (State.isArrayOf_alike hZ.alike Ar3.2.1) Ar3.2.2 hin3 hat3 (g := (mkF m 8 #[.val (.ref a), .val (.int 0)] [(.int 0), (.ref a)])) rfl rfl (hb hby own_d14_8)) ?_
  refine own_st (fun _ k => XS.sipush X2.here hx rfl (hb hby own_d14_9) k) ?_
  show own_Gl _ _ _ _ _ _ _ (T2.setTop (mkF m 12 #[.val (.ref a), .val (.int 0)] [(.int 255), (.int (nar .byte (v0.toInt8.toInt32)))]))
  refine own_st (fun _ k => XS.iand X2.here hx rfl (hb hby own_d14_12) rfl k) ?_
  refine own_st (fun _ k => XS.i2c X2.here hx rfl (hb hby own_d14_13) rfl k) ?_
  show own_Gl _ _ _ _ _ _ _ (T2.setTop (mkF m 14 #[.val (.ref a), .val (.int 0)] [(.int (((nar .byte (v0.toInt8.toInt32)) &&& (255 : Int32)).toUInt32.toUInt16.toUInt32.toInt32))]))
  exact own_retN X2 hx hlk (t := .char) hret (by simp) (hb hby own_d14_14) e2 ⟨by rw [own_lch _ hr0], N2, rfl⟩ (by decide) (by decide)
theorem own_ef_own_uci3_0 (m : MethodId) (x0 : Int32) (x1 : Addr) : entryFrame m #[(.int x0), (.ref x1)] 2 = mkF m 0 #[.val (.int x0), .val (.ref x1)] [] := by first | (simp [entryFrame, mkF, argsToLocals, Value.category]; done) | rfl
def own_Q_own_uci3_0 (Z : State) (a : Addr) (k : ClassId) (vl : List Value) (sf : Value) (h0 : Heap) (n0 : Nat) (v : Option Value) (h : Heap) (L : List Loc) : Prop := (v = none) ∧ (Fr n0 L) ∧ (h = h0)

theorem own_uci3_0 (l : Launch) (Z : State) (a0 : Array Value) (hw : oT a0 Z) (ws : List Jvm.Cond) (a : Addr) (k : ClassId) (vl : List Value) (sf : Value) (h0 : Heap) (n0 : Nat) (Z0 : n0 ≤ h0.size) (Old0 : Old Z n0 h0) (sF : Sta Z Z.heap "jdk/internal/util/Preconditions" "SIOOBE_FORMATTER" "Ljava/util/function/BiFunction;" sf) (hsf : sf.isRef = true) (V_a : Arv Z h0 a k .byte (6 : Int32) vl (.int 0)) :
    oMet l oM20 jdk_52_method_91_code 2 none ws ⟨2, 0, 0, 27⟩ #[(.int 0), (.ref a)] Z h0 (own_Q_own_uci3_0 Z a k vl sf h0 n0) := by
  refine oB n0 "java/lang/StringUTF16" rfl (plainFor_of_name own_pn730740715) (fun m => own_ef_own_uci3_0 m (0 : Int32) a) ?_
  intro p e s m below meth c s₁ hZ hx hby hlk hret hml hown hnm X0 e0 N0
  show own_Gl _ _ _ _ _ _ _ (s₁.setTop (mkF m 0 #[.val (.int 0), .val (.ref a)] []))
  refine own_st (fun _ k => XS.iloadN X0.here hx rfl (hb hby own_d24_0) rfl k) ?_
  refine own_st (fun _ k => XS.aloadN X0.here hx rfl (hb hby own_d24_1) rfl rfl k) ?_
  obtain ⟨_, _, ⟨T1, L1, k1, n1⟩, -, X1, ⟨Lc1, hQ1, l1, y1, z1⟩, st1⟩ := Jvm.LawKit.callS X0 hx (y := oM18) hown (mvT hZ (oW hw 111 rfl)) (mvT hZ (oW hw 112 rfl)) (mvT hZ (oW hw 47 rfl)) (mvT hZ (oW hw 113 rfl)) (by decide) (backOf (W := 1) (own_ulen3 l Z a0 hw [] a k vl h0 n0 Z0 V_a) hZ (oW hw 113 rfl) (oW hw 47 rfl) (by decide) (by decide)) (g := (mkF m 2 #[.val (.int 0), .val (.ref a)] [(.ref a), (.int 0)])) rfl (by rw [hml]; rfl) (argsL := [(.ref a)]) (rest := [(.int 0)]) (lenOf own_pd985711191 rfl) rfl (by show 2 * 0 + _ ≤ _; exact Nat.le_of_eq rfl) (hb hby own_d24_2) (fun _ _ => ⟨rfl, e0, (by decide : 0 + 0 ≤ 0), (by decide : 0 + 0 ≤ 0)⟩)
  dsimp only [Pt.U, Pt.locs, Pt.cells, Pt.slots] at X1 l1 y1 z1 st1 hQ1
  subst l1 y1 z1
  obtain ⟨hh1, eh01⟩ : ∃ z, T1.heap = z := ⟨_, rfl⟩
  rw [eh01] at hQ1
  obtain ⟨rfl, Nq1, eh1⟩ := hQ1
  have N1 := Fr.app N0 Nq1
  refine own_st st1 ?_
  have e1 : T1.heap = h0 := eh01.trans eh1
  obtain ⟨_, _, ⟨T2, L2, k2, n2⟩, -, X2, ⟨Lc2, hQ2, l2, y2, z2⟩, st2⟩ := Jvm.LawKit.callS X1 hx (y := oM7) hown (mvT hZ (oW hw 114 rfl)) (mvT hZ (oW hw 76 rfl)) (mvT hZ (oW hw 7 rfl)) (mvT hZ (oW hw 77 rfl)) (by decide) (backOf (W := 0) (own_sci l Z a0 hw [] (0 : Int32) (3 : Int32) sf h0 n0 Z0 Old0 sF hsf (by decide) (by decide)) hZ (oW hw 77 rfl) (oW hw 7 rfl) (by decide) (by decide)) (g := (mkF m 5 #[.val (.int 0), .val (.ref a)] [(.int 3), (.int 0)])) rfl (by rw [hml]; rfl) (argsL := [(.int 0), (.int 3)]) (rest := []) (lenOf own_pd945365693 rfl) rfl (by show 2 * 0 + _ ≤ _; exact Nat.le_of_eq rfl) (hb hby own_d24_5) (fun _ _ => ⟨rfl, e1, (by decide : 0 + 0 ≤ 0), (by decide : 0 + 0 ≤ 0)⟩)
  dsimp only [Pt.U, Pt.locs, Pt.cells, Pt.slots] at X2 l2 y2 z2 st2 hQ2
  subst l2 y2 z2
  obtain ⟨hh2, eh02⟩ : ∃ z, T2.heap = z := ⟨_, rfl⟩
  rw [eh02] at hQ2
  obtain ⟨rfl, Nq2, eh2⟩ := hQ2
  have N2 := Fr.app N1 Nq2
  refine own_st st2 ?_
  have e2 : T2.heap = h0 := eh02.trans eh2
  show own_Gl _ _ _ _ _ _ _ (T2.setTop (mkF m 8 #[.val (.int 0), .val (.ref a)] []))
  exact own_retV X2 hx hlk hret (hb hby own_d24_8) e2 ⟨rfl, N2, rfl⟩ (by decide) (by decide)
theorem own_ef_own_uc3_0 (m : MethodId) (x0 : Addr) (x1 : Int32) : entryFrame m #[(.ref x0), (.int x1)] 2 = mkF m 0 #[.val (.ref x0), .val (.int x1)] [] := by first | (simp [entryFrame, mkF, argsToLocals, Value.category]; done) | rfl
def own_Q_own_uc3_0 (Z : State) (a : Addr) (k : ClassId) (sf : Value) (v0 : Int32) (v1 : Int32) (v2 : Int32) (h0 : Heap) (n0 : Nat) (v : Option Value) (h : Heap) (L : List Loc) : Prop := (v = some (.int v0)) ∧ (Fr n0 L) ∧ (h = h0)

theorem own_uc3_0 (l : Launch) (Z : State) (a0 : Array Value) (hw : oT a0 Z) (ws : List Jvm.Cond) (a : Addr) (k : ClassId) (sf : Value) (v0 : Int32) (v1 : Int32) (v2 : Int32) (h0 : Heap) (n0 : Nat) (Z0 : n0 ≤ h0.size) (Old0 : Old Z n0 h0) (sA : Sta Z Z.heap "java/lang/StringUTF16" "$assertionsDisabled" "Z" (.int 1)) (sH : Sta Z Z.heap "java/lang/StringUTF16" "HI_BYTE_SHIFT" "I" (.int 0)) (sL : Sta Z Z.heap "java/lang/StringUTF16" "LO_BYTE_SHIFT" "I" (.int 8)) (sF : Sta Z Z.heap "jdk/internal/util/Preconditions" "SIOOBE_FORMATTER" "Ljava/util/function/BiFunction;" sf) (hsf : sf.isRef = true) (V_a : Arv Z h0 a k .byte (6 : Int32) [(.int (nar .byte ((v0 >>> ((0 : Int32) &&& 31)).toInt8.toInt32))), (.int (nar .byte ((v0 >>> ((8 : Int32) &&& 31)).toInt8.toInt32))), (.int (nar .byte ((v1 >>> ((0 : Int32) &&& 31)).toInt8.toInt32))), (.int (nar .byte ((v1 >>> ((8 : Int32) &&& 31)).toInt8.toInt32))), (.int (nar .byte ((v2 >>> ((0 : Int32) &&& 31)).toInt8.toInt32))), (.int (nar .byte ((v2 >>> ((8 : Int32) &&& 31)).toInt8.toInt32)))] (.int 0)) (hr0 : ¬ v0 < (0 : Int32) ∧ ¬ (65535 : Int32) < v0) :
    oMet l oM21 jdk_52_method_83_code 2 (some .char) ws ⟨3, 0, 0, 40⟩ #[(.ref a), (.int 0)] Z h0 (own_Q_own_uc3_0 Z a k sf v0 v1 v2 h0 n0) := by
  refine oB n0 "java/lang/StringUTF16" rfl (plainFor_of_name own_pn730740715) (fun m => own_ef_own_uc3_0 m a (0 : Int32)) ?_
  intro p e s m below meth c s₁ hZ hx hby hlk hret hml hown hnm X0 e0 N0
  show own_Gl _ _ _ _ _ _ _ (s₁.setTop (mkF m 0 #[.val (.ref a), .val (.int 0)] []))
  refine own_st (fun _ k => XS.iloadN X0.here hx rfl (hb hby own_d23_0) rfl k) ?_
  refine own_st (fun _ k => XS.aloadN X0.here hx rfl (hb hby own_d23_1) rfl rfl k) ?_
  obtain ⟨_, _, ⟨T1, L1, k1, n1⟩, -, X1, ⟨Lc1, hQ1, l1, y1, z1⟩, st1⟩ := Jvm.LawKit.callS X0 hx (y := oM20) hown (mvT hZ (oW hw 108 rfl)) (mvT hZ (oW hw 109 rfl)) (mvT hZ (oW hw 47 rfl)) (mvT hZ (oW hw 110 rfl)) (by decide) (backOf (W := 0) (own_uci3_0 l Z a0 hw [] a k [(.int (nar .byte ((v0 >>> ((0 : Int32) &&& 31)).toInt8.toInt32))), (.int (nar .byte ((v0 >>> ((8 : Int32) &&& 31)).toInt8.toInt32))), (.int (nar .byte ((v1 >>> ((0 : Int32) &&& 31)).toInt8.toInt32))), (.int (nar .byte ((v1 >>> ((8 : Int32) &&& 31)).toInt8.toInt32))), (.int (nar .byte ((v2 >>> ((0 : Int32) &&& 31)).toInt8.toInt32))), (.int (nar .byte ((v2 >>> ((8 : Int32) &&& 31)).toInt8.toInt32)))] sf h0 n0 Z0 Old0 sF hsf V_a) hZ (oW hw 110 rfl) (oW hw 47 rfl) (by decide) (by decide)) (g := (mkF m 2 #[.val (.ref a), .val (.int 0)] [(.ref a), (.int 0)])) rfl (by rw [hml]; rfl) (argsL := [(.int 0), (.ref a)]) (rest := []) (lenOf own_pd883794637 rfl) rfl (by show 2 * 0 + _ ≤ _; exact Nat.le_of_eq rfl) (hb hby own_d23_2) (fun _ _ => ⟨rfl, e0, (by decide : 0 + 0 ≤ 0), (by decide : 0 + 0 ≤ 0)⟩)
  dsimp only [Pt.U, Pt.locs, Pt.cells, Pt.slots] at X1 l1 y1 z1 st1 hQ1
  subst l1 y1 z1
  obtain ⟨hh1, eh01⟩ : ∃ z, T1.heap = z := ⟨_, rfl⟩
  rw [eh01] at hQ1
  obtain ⟨rfl, Nq1, eh1⟩ := hQ1
  have N1 := Fr.app N0 Nq1
  refine own_st st1 ?_
  have e1 : T1.heap = h0 := eh01.trans eh1
  refine own_st (fun _ k => XS.aloadN X1.here hx rfl (hb hby own_d23_5) rfl rfl k) ?_
  show own_Gl _ _ _ _ _ _ _ (T1.setTop (mkF m 6 #[.val (.ref a), .val (.int 0)] [(.ref a)]))
  refine own_st (fun _ k => XS.iloadN X1.here hx rfl (hb hby own_d23_6) rfl k) ?_
  obtain ⟨_, _, ⟨T2, L2, k2, n2⟩, -, X2, ⟨Lc2, hQ2, l2, y2, z2⟩, st2⟩ := Jvm.LawKit.callS X1 hx (y := oM12) hown (mvT hZ (oW hw 102 rfl)) (mvT hZ (oW hw 103 rfl)) (mvT hZ (oW hw 47 rfl)) (mvT hZ (oW hw 104 rfl)) (by decide) (backOf (W := 0) (own_get3_0 l Z a0 hw [] a k v0 v1 v2 h0 n0 Z0 Old0 sA sH sL V_a hr0) hZ (oW hw 104 rfl) (oW hw 47 rfl) (by decide) (by decide)) (g := (mkF m 7 #[.val (.ref a), .val (.int 0)] [(.int 0), (.ref a)])) rfl (by rw [hml]; rfl) (argsL := [(.ref a), (.int 0)]) (rest := []) (lenOf own_pd128711048 rfl) rfl (by show 2 * 0 + _ ≤ _; exact Nat.le_of_eq rfl) (hb hby own_d23_7) (fun _ _ => ⟨rfl, e1, (by decide : 0 + 0 ≤ 0), (by decide : 0 + 0 ≤ 0)⟩)
  dsimp only [Pt.U, Pt.locs, Pt.cells, Pt.slots] at X2 l2 y2 z2 st2 hQ2
  subst l2 y2 z2
  obtain ⟨hh2, eh02⟩ : ∃ z, T2.heap = z := ⟨_, rfl⟩
  rw [eh02] at hQ2
  obtain ⟨rfl, Nq2, eh2⟩ := hQ2
  have N2 := Fr.app N1 Nq2
  refine own_st st2 ?_
  have e2 : T2.heap = h0 := eh02.trans eh2
  show own_Gl _ _ _ _ _ _ _ (T2.setTop (mkF m 10 #[.val (.ref a), .val (.int 0)] [(.int v0)]))
  exact own_retN X2 hx hlk (t := .char) hret (by simp) (hb hby own_d23_10) e2 ⟨by rw [own_nc _ hr0], N2, rfl⟩ (by decide) (by decide)
theorem own_ef_own_ch3_0_0 (m : MethodId) (x0 : Addr) (x1 : Int32) : entryFrame m #[(.ref x0), (.int x1)] 2 = mkF m 0 #[.val (.ref x0), .val (.int x1)] [] := by first | (simp [entryFrame, mkF, argsToLocals, Value.category]; done) | rfl
def own_Q_own_ch3_0_0 (Z : State) (a : Addr) (b : Addr) (k : ClassId) (sf : Value) (cs : Int32) (v0 : Int32) (v1 : Int32) (v2 : Int32) (h0 : Heap) (n0 : Nat) (v : Option Value) (h : Heap) (L : List Loc) : Prop := (v = some (.int v0)) ∧ (Fr n0 L) ∧ (h = h0)

theorem own_ch3_0_0 (l : Launch) (Z : State) (a0 : Array Value) (hw : oT a0 Z) (ws : List Jvm.Cond) (a : Addr) (b : Addr) (k : ClassId) (sf : Value) (cs : Int32) (v0 : Int32) (v1 : Int32) (v2 : Int32) (h0 : Heap) (n0 : Nat) (Z0 : n0 ≤ h0.size) (Old0 : Old Z n0 h0) (sF : Sta Z Z.heap "jdk/internal/util/Preconditions" "SIOOBE_FORMATTER" "Ljava/util/function/BiFunction;" sf) (hsf : sf.isRef = true) (sC : Sta Z Z.heap "java/lang/String" "COMPACT_STRINGS" "Z" (.int cs)) (hcs : ¬ (cs = (0 : Int32))) (E_a : Exa Z h0 a "java/lang/String") (F_a_value : Fld Z h0 a "java/lang/String" "value" "[B" (.ref b)) (F_a_coder : Fld Z h0 a "java/lang/String" "coder" "B" (.int 0)) (V_b : Arv Z h0 b k .byte (3 : Int32) [(.int (nar .byte (v0.toInt8.toInt32))), (.int (nar .byte (v1.toInt8.toInt32))), (.int (nar .byte (v2.toInt8.toInt32)))] (.int 0)) (hr0 : ¬ v0 < (0 : Int32) ∧ ¬ (255 : Int32) < v0) :
    oMet l oM22 jdk_42_method_56_code 2 (some .char) ws ⟨3, 0, 0, 40⟩ #[(.ref a), (.int 0)] Z h0 (own_Q_own_ch3_0_0 Z a b k sf cs v0 v1 v2 h0 n0) := by
  refine oB n0 "java/lang/String" rfl (plainFor_of_name own_pn853443214) (fun m => own_ef_own_ch3_0_0 m a (0 : Int32)) ?_
  intro p e s m below meth c s₁ hZ hx hby hlk hret hml hown hnm X0 e0 N0
  show own_Gl _ _ _ _ _ _ _ (s₁.setTop (mkF m 0 #[.val (.ref a), .val (.int 0)] []))
  refine own_st (fun _ k => XS.aloadN X0.here hx rfl (hb hby own_d12_0) rfl rfl k) ?_
  obtain ⟨cq1, kq1, q1a, q1b, q1c⟩ := isOf hZ e0 E_a
  obtain ⟨_, _, ⟨T1, L1, k1, n1⟩, -, X1, ⟨Lc1, hQ1, l1, y1, z1⟩, st1⟩ := X0.virtualBack hx (y := oM4) (z := oM4) hown (mvT hZ (oW hw 66 rfl)) (mvT hZ (oW hw 67 rfl)) (notFace_of_selects (args := #[]) (mvT hZ (oW hw 69 rfl))) (mvT hZ (oW hw 69 rfl)) (mvT hZ (oW hw 68 rfl)) (by decide) (backOf (W := 0) (own_lat0 l Z a0 hw [] a cs h0 n0 Z0 F_a_coder Old0 sC hcs) hZ (oW hw 70 rfl) (oW hw 7 rfl) (by decide) (by decide)) q1a q1c (g := (mkF m 1 #[.val (.ref a), .val (.int 0)] [(.ref a)])) rfl (by rw [hml]; rfl) (Steps.refl _) (argsL := []) (rest := []) (lenOf own_pd691901 rfl) rfl (by show 2 * 0 + _ ≤ _; exact Nat.le_of_eq rfl) (hb hby own_d12_1) (fun _ _ => ⟨rfl, e0, (by decide : 0 + 0 ≤ 0), (by decide : 0 + 0 ≤ 0)⟩)
  dsimp only [Pt.U, Pt.locs, Pt.cells, Pt.slots] at X1 l1 y1 z1 st1 hQ1
  subst l1 y1 z1
  obtain ⟨hh1, eh01⟩ : ∃ z, T1.heap = z := ⟨_, rfl⟩
  rw [eh01] at hQ1
  obtain ⟨rfl, Nq1, eh1⟩ := hQ1
  have N1 := Fr.app N0 Nq1
  refine own_tr st1 ?_
  have e1 : T1.heap = h0 := eh01.trans eh1
  have hd2 : ¬ ((1 : Int32) = (0 : Int32)) := (by decide)
  refine own_st (fun _ k => XS.ifNo X1.here hx rfl (hb hby own_d12_4) rfl ((if0 _ _).trans (feq hd2).1) k) ?_
  refine own_st (fun _ k => XS.aloadN X1.here hx rfl (hb hby own_d12_7) rfl rfl k) ?_
  show own_Gl _ _ _ _ _ _ _ (T1.setTop (mkF m 8 #[.val (.ref a), .val (.int 0)] [(.ref a)]))
  obtain ⟨T3, X3, e3, st3⟩ := getF X1 hx hZ hown (host := "") (Or.inl (oW hw 24 rfl)) Via.refl e1 F_a_value (g := (mkF m 8 #[.val (.ref a), .val (.int 0)] [(.ref a)])) rfl rfl (hb hby own_d12_8)
  refine own_st st3 ?_
  refine own_st (fun _ k => XS.iloadN X3.here hx rfl (hb hby own_d12_11) rfl k) ?_
  obtain ⟨_, _, ⟨T4, L4, k4, n4⟩, -, X4, ⟨Lc4, hQ4, l4, y4, z4⟩, st4⟩ := Jvm.LawKit.callS X3 hx (y := oM19) hown (mvT hZ (oW hw 71 rfl)) (mvT hZ (oW hw 72 rfl)) (mvT hZ (oW hw 73 rfl)) (mvT hZ (oW hw 74 rfl)) (by decide) (backOf (W := 0) (own_l1c3_0 l Z a0 hw [] b k sf v0 v1 v2 h0 n0 Z0 Old0 sF hsf V_b hr0) hZ (oW hw 74 rfl) (oW hw 73 rfl) (by decide) (by decide)) (g := (mkF m 12 #[.val (.ref a), .val (.int 0)] [(.int 0), (.ref b)])) rfl (by rw [hml]; rfl) (argsL := [(.ref b), (.int 0)]) (rest := []) (lenOf own_pd128711048 rfl) rfl (by show 2 * 0 + _ ≤ _; exact Nat.le_of_eq rfl) (hb hby own_d12_12) (fun _ _ => ⟨rfl, e3, (by decide : 0 + 0 ≤ 0), (by decide : 0 + 0 ≤ 0)⟩)
  dsimp only [Pt.U, Pt.locs, Pt.cells, Pt.slots] at X4 l4 y4 z4 st4 hQ4
  subst l4 y4 z4
  obtain ⟨hh4, eh04⟩ : ∃ z, T4.heap = z := ⟨_, rfl⟩
  rw [eh04] at hQ4
  obtain ⟨rfl, Nq4, eh4⟩ := hQ4
  have N4 := Fr.app N1 Nq4
  refine own_st st4 ?_
  have e4 : T4.heap = h0 := eh04.trans eh4
  show own_Gl _ _ _ _ _ _ _ (T4.setTop (mkF m 15 #[.val (.ref a), .val (.int 0)] [(.int v0)]))
  exact own_retN X4 hx hlk (t := .char) hret (by simp) (hb hby own_d12_15) e4 ⟨by rw [own_nc _ (own_wide hr0)], N4, rfl⟩ (by decide) (by decide)
theorem own_ef_own_ch3_0_1 (m : MethodId) (x0 : Addr) (x1 : Int32) : entryFrame m #[(.ref x0), (.int x1)] 2 = mkF m 0 #[.val (.ref x0), .val (.int x1)] [] := by first | (simp [entryFrame, mkF, argsToLocals, Value.category]; done) | rfl
def own_Q_own_ch3_0_1 (Z : State) (a : Addr) (b : Addr) (k : ClassId) (sf : Value) (cs : Int32) (v0 : Int32) (v1 : Int32) (v2 : Int32) (h0 : Heap) (n0 : Nat) (v : Option Value) (h : Heap) (L : List Loc) : Prop := (v = some (.int v0)) ∧ (Fr n0 L) ∧ (h = h0)

theorem own_ch3_0_1 (l : Launch) (Z : State) (a0 : Array Value) (hw : oT a0 Z) (ws : List Jvm.Cond) (a : Addr) (b : Addr) (k : ClassId) (sf : Value) (cs : Int32) (v0 : Int32) (v1 : Int32) (v2 : Int32) (h0 : Heap) (n0 : Nat) (Z0 : n0 ≤ h0.size) (Old0 : Old Z n0 h0) (sA : Sta Z Z.heap "java/lang/StringUTF16" "$assertionsDisabled" "Z" (.int 1)) (sH : Sta Z Z.heap "java/lang/StringUTF16" "HI_BYTE_SHIFT" "I" (.int 0)) (sL : Sta Z Z.heap "java/lang/StringUTF16" "LO_BYTE_SHIFT" "I" (.int 8)) (sF : Sta Z Z.heap "jdk/internal/util/Preconditions" "SIOOBE_FORMATTER" "Ljava/util/function/BiFunction;" sf) (hsf : sf.isRef = true) (sC : Sta Z Z.heap "java/lang/String" "COMPACT_STRINGS" "Z" (.int cs)) (hcs : ¬ (cs = (0 : Int32))) (E_a : Exa Z h0 a "java/lang/String") (F_a_value : Fld Z h0 a "java/lang/String" "value" "[B" (.ref b)) (F_a_coder : Fld Z h0 a "java/lang/String" "coder" "B" (.int 1)) (V_b : Arv Z h0 b k .byte (6 : Int32) [(.int (nar .byte ((v0 >>> ((0 : Int32) &&& 31)).toInt8.toInt32))), (.int (nar .byte ((v0 >>> ((8 : Int32) &&& 31)).toInt8.toInt32))), (.int (nar .byte ((v1 >>> ((0 : Int32) &&& 31)).toInt8.toInt32))), (.int (nar .byte ((v1 >>> ((8 : Int32) &&& 31)).toInt8.toInt32))), (.int (nar .byte ((v2 >>> ((0 : Int32) &&& 31)).toInt8.toInt32))), (.int (nar .byte ((v2 >>> ((8 : Int32) &&& 31)).toInt8.toInt32)))] (.int 0)) (hr0 : ¬ v0 < (0 : Int32) ∧ ¬ (65535 : Int32) < v0) :
    oMet l oM22 jdk_42_method_56_code 2 (some .char) ws ⟨4, 0, 0, 53⟩ #[(.ref a), (.int 0)] Z h0 (own_Q_own_ch3_0_1 Z a b k sf cs v0 v1 v2 h0 n0) := by
  refine oB n0 "java/lang/String" rfl (plainFor_of_name own_pn853443214) (fun m => own_ef_own_ch3_0_1 m a (0 : Int32)) ?_
  intro p e s m below meth c s₁ hZ hx hby hlk hret hml hown hnm X0 e0 N0
  show own_Gl _ _ _ _ _ _ _ (s₁.setTop (mkF m 0 #[.val (.ref a), .val (.int 0)] []))
  refine own_st (fun _ k => XS.aloadN X0.here hx rfl (hb hby own_d12_0) rfl rfl k) ?_
  obtain ⟨cq1, kq1, q1a, q1b, q1c⟩ := isOf hZ e0 E_a
  obtain ⟨_, _, ⟨T1, L1, k1, n1⟩, -, X1, ⟨Lc1, hQ1, l1, y1, z1⟩, st1⟩ := X0.virtualBack hx (y := oM4) (z := oM4) hown (mvT hZ (oW hw 66 rfl)) (mvT hZ (oW hw 67 rfl)) (notFace_of_selects (args := #[]) (mvT hZ (oW hw 69 rfl))) (mvT hZ (oW hw 69 rfl)) (mvT hZ (oW hw 68 rfl)) (by decide) (backOf (W := 0) (own_lat1 l Z a0 hw [] a cs h0 n0 Z0 F_a_coder Old0 sC hcs) hZ (oW hw 70 rfl) (oW hw 7 rfl) (by decide) (by decide)) q1a q1c (g := (mkF m 1 #[.val (.ref a), .val (.int 0)] [(.ref a)])) rfl (by rw [hml]; rfl) (Steps.refl _) (argsL := []) (rest := []) (lenOf own_pd691901 rfl) rfl (by show 2 * 0 + _ ≤ _; exact Nat.le_of_eq rfl) (hb hby own_d12_1) (fun _ _ => ⟨rfl, e0, (by decide : 0 + 0 ≤ 0), (by decide : 0 + 0 ≤ 0)⟩)
  dsimp only [Pt.U, Pt.locs, Pt.cells, Pt.slots] at X1 l1 y1 z1 st1 hQ1
  subst l1 y1 z1
  obtain ⟨hh1, eh01⟩ : ∃ z, T1.heap = z := ⟨_, rfl⟩
  rw [eh01] at hQ1
  obtain ⟨rfl, Nq1, eh1⟩ := hQ1
  have N1 := Fr.app N0 Nq1
  refine own_tr st1 ?_
  have e1 : T1.heap = h0 := eh01.trans eh1
  have hd2 : (0 : Int32) = (0 : Int32) := (by decide)
  refine own_st (fun _ k => XS.ifYes X1.here hx rfl (pc0 := 4) (pc' := 16) rfl (hb hby own_d12_4) rfl ((if0 _ _).trans (teq hd2).1) (by decide) (by decide) k) ?_
  refine own_st (fun _ k => XS.aloadN X1.here hx rfl (hb hby own_d12_16) rfl rfl k) ?_
  show own_Gl _ _ _ _ _ _ _ (T1.setTop (mkF m 17 #[.val (.ref a), .val (.int 0)] [(.ref a)]))
  obtain ⟨T3, X3, e3, st3⟩ := getF X1 hx hZ hown (host := "") (Or.inl (oW hw 24 rfl)) Via.refl e1 F_a_value (g := (mkF m 17 #[.val (.ref a), .val (.int 0)] [(.ref a)])) rfl rfl (hb hby own_d12_17)
  refine own_st st3 ?_
  refine own_st (fun _ k => XS.iloadN X3.here hx rfl (hb hby own_d12_20) rfl k) ?_
  obtain ⟨_, _, ⟨T4, L4, k4, n4⟩, -, X4, ⟨Lc4, hQ4, l4, y4, z4⟩, st4⟩ := Jvm.LawKit.callS X3 hx (y := oM21) hown (mvT hZ (oW hw 105 rfl)) (mvT hZ (oW hw 106 rfl)) (mvT hZ (oW hw 47 rfl)) (mvT hZ (oW hw 107 rfl)) (by decide) (backOf (W := 0) (own_uc3_0 l Z a0 hw [] b k sf v0 v1 v2 h0 n0 Z0 Old0 sA sH sL sF hsf V_b hr0) hZ (oW hw 107 rfl) (oW hw 47 rfl) (by decide) (by decide)) (g := (mkF m 21 #[.val (.ref a), .val (.int 0)] [(.int 0), (.ref b)])) rfl (by rw [hml]; rfl) (argsL := [(.ref b), (.int 0)]) (rest := []) (lenOf own_pd128711048 rfl) rfl (by show 2 * 0 + _ ≤ _; exact Nat.le_of_eq rfl) (hb hby own_d12_21) (fun _ _ => ⟨rfl, e3, (by decide : 0 + 0 ≤ 0), (by decide : 0 + 0 ≤ 0)⟩)
  dsimp only [Pt.U, Pt.locs, Pt.cells, Pt.slots] at X4 l4 y4 z4 st4 hQ4
  subst l4 y4 z4
  obtain ⟨hh4, eh04⟩ : ∃ z, T4.heap = z := ⟨_, rfl⟩
  rw [eh04] at hQ4
  obtain ⟨rfl, Nq4, eh4⟩ := hQ4
  have N4 := Fr.app N1 Nq4
  refine own_st st4 ?_
  have e4 : T4.heap = h0 := eh04.trans eh4
  show own_Gl _ _ _ _ _ _ _ (T4.setTop (mkF m 24 #[.val (.ref a), .val (.int 0)] [(.int v0)]))
  exact own_retN X4 hx hlk (t := .char) hret (by simp) (hb hby own_d12_24) e4 ⟨by rw [own_nc _ hr0], N4, rfl⟩ (by decide) (by decide)
theorem own_ef_own_l1c3_1 (m : MethodId) (x0 : Addr) (x1 : Int32) : entryFrame m #[(.ref x0), (.int x1)] 2 = mkF m 0 #[.val (.ref x0), .val (.int x1)] [] := by first | (simp [entryFrame, mkF, argsToLocals, Value.category]; done) | rfl
def own_Q_own_l1c3_1 (Z : State) (a : Addr) (k : ClassId) (sf : Value) (v0 : Int32) (v1 : Int32) (v2 : Int32) (h0 : Heap) (n0 : Nat) (v : Option Value) (h : Heap) (L : List Loc) : Prop := (v = some (.int v1)) ∧ (Fr n0 L) ∧ (h = h0)

theorem own_l1c3_1 (l : Launch) (Z : State) (a0 : Array Value) (hw : oT a0 Z) (ws : List Jvm.Cond) (a : Addr) (k : ClassId) (sf : Value) (v0 : Int32) (v1 : Int32) (v2 : Int32) (h0 : Heap) (n0 : Nat) (Z0 : n0 ≤ h0.size) (Old0 : Old Z n0 h0) (sF : Sta Z Z.heap "jdk/internal/util/Preconditions" "SIOOBE_FORMATTER" "Ljava/util/function/BiFunction;" sf) (hsf : sf.isRef = true) (V_a : Arv Z h0 a k .byte (3 : Int32) [(.int (nar .byte (v0.toInt8.toInt32))), (.int (nar .byte (v1.toInt8.toInt32))), (.int (nar .byte (v2.toInt8.toInt32)))] (.int 0)) (hr1 : ¬ v1 < (0 : Int32) ∧ ¬ (255 : Int32) < v1) :
    oMet l oM19 jdk_43_method_2_code 2 (some .char) ws ⟨2, 0, 0, 27⟩ #[(.ref a), (.int 1)] Z h0 (own_Q_own_l1c3_1 Z a k sf v0 v1 v2 h0 n0) := by
  refine oB n0 "java/lang/StringLatin1" rfl (plainFor_of_name own_pn340705600) (fun m => own_ef_own_l1c3_1 m a (1 : Int32)) ?_
  intro p e s m below meth c s₁ hZ hx hby hlk hret hml hown hnm X0 e0 N0
  show own_Gl _ _ _ _ _ _ _ (s₁.setTop (mkF m 0 #[.val (.ref a), .val (.int 1)] []))
  refine own_st (fun _ k => XS.iloadN X0.here hx rfl (hb hby own_d14_0) rfl k) ?_
  refine own_st (fun _ k => XS.aloadN X0.here hx rfl (hb hby own_d14_1) rfl rfl k) ?_
  obtain ⟨cl1, Ar1, qq1, Ss1, Nn1, Hh1, Gg1⟩ := id V_a
  refine own_st (X0.arraylength hx (by rw [e0]; exact Ar1.1) (State.isArrayOf_alike hZ.alike Ar1.2.1) (g := (mkF m 2 #[.val (.ref a), .val (.int 1)] [(.ref a), (.int 1)])) rfl rfl (hb hby own_d14_2)) ?_
  rw [len_of Ss1 Nn1]
  obtain ⟨_, _, ⟨T2, L2, k2, n2⟩, -, X2, ⟨Lc2, hQ2, l2, y2, z2⟩, st2⟩ := Jvm.LawKit.callS X0 hx (y := oM7) hown (mvT hZ (oW hw 75 rfl)) (mvT hZ (oW hw 76 rfl)) (mvT hZ (oW hw 7 rfl)) (mvT hZ (oW hw 77 rfl)) (by decide) (backOf (W := 0) (own_sci l Z a0 hw [] (1 : Int32) (3 : Int32) sf h0 n0 Z0 Old0 sF hsf (by decide) (by decide)) hZ (oW hw 77 rfl) (oW hw 7 rfl) (by decide) (by decide)) (g := (mkF m 3 #[.val (.ref a), .val (.int 1)] [(.int 3), (.int 1)])) rfl (by rw [hml]; rfl) (argsL := [(.int 1), (.int 3)]) (rest := []) (lenOf own_pd945365693 rfl) rfl (by show 2 * 0 + _ ≤ _; exact Nat.le_of_eq rfl) (hb hby own_d14_3) (fun _ _ => ⟨rfl, e0, (by decide : 0 + 0 ≤ 0), (by decide : 0 + 0 ≤ 0)⟩)
  dsimp only [Pt.U, Pt.locs, Pt.cells, Pt.slots] at X2 l2 y2 z2 st2 hQ2
  subst l2 y2 z2
  obtain ⟨hh2, eh02⟩ : ∃ z, T2.heap = z := ⟨_, rfl⟩
  rw [eh02] at hQ2
  obtain ⟨rfl, Nq2, eh2⟩ := hQ2
  have N2 := Fr.app N0 Nq2
  refine own_st st2 ?_
  have e2 : T2.heap = h0 := eh02.trans eh2
  show own_Gl _ _ _ _ _ _ _ (T2.setTop (mkF m 6 #[.val (.ref a), .val (.int 1)] []))
  refine own_st (fun _ k => XS.aloadN X2.here hx rfl (hb hby own_d14_6) rfl rfl k) ?_
  refine own_st (fun _ k => XS.iloadN X2.here hx rfl (hb hby own_d14_7) rfl k) ?_
  obtain ⟨cl3, Ar3, qq3, Ss3, Nn3, Hh3, Gg3⟩ := id V_a
  have hin3 : ¬ ((1 : Int32) < 0 ∨ cl3.slots.size ≤ ((1 : Int32)).toNatClampNeg) := inb_of Ss3 ⟨by decide, by decide⟩
  have hat3 : cl3.slots[((1 : Int32)).toNatClampNeg]? = some (.int (nar .byte (v1.toInt8.toInt32))) := Hh3.at hin3 (rfl)
  refine own_st (X2.baloadBytes hx (j := (1 : Int32)) (v := (.int (nar .byte (v1.toInt8.toInt32)))) (by rw [e2]; exact Ar3.1) (State.isArrayOf_alike hZ.alike Ar3.2.1) Ar3.2.2 hin3 hat3 (g := (mkF m 8 #[.val (.ref a), .val (.int 1)] [(.int 1), (.ref a)])) rfl rfl (hb hby own_d14_8)) ?_
  refine own_st (fun _ k => XS.sipush X2.here hx rfl (hb hby own_d14_9) k) ?_
  show own_Gl _ _ _ _ _ _ _ (T2.setTop (mkF m 12 #[.val (.ref a), .val (.int 1)] [(.int 255), (.int (nar .byte (v1.toInt8.toInt32)))]))
  refine own_st (fun _ k => XS.iand X2.here hx rfl (hb hby own_d14_12) rfl k) ?_
  refine own_st (fun _ k => XS.i2c X2.here hx rfl (hb hby own_d14_13) rfl k) ?_
  show own_Gl _ _ _ _ _ _ _ (T2.setTop (mkF m 14 #[.val (.ref a), .val (.int 1)] [(.int (((nar .byte (v1.toInt8.toInt32)) &&& (255 : Int32)).toUInt32.toUInt16.toUInt32.toInt32))]))
  exact own_retN X2 hx hlk (t := .char) hret (by simp) (hb hby own_d14_14) e2 ⟨by rw [own_lch _ hr1], N2, rfl⟩ (by decide) (by decide)
theorem own_ef_own_uci3_1 (m : MethodId) (x0 : Int32) (x1 : Addr) : entryFrame m #[(.int x0), (.ref x1)] 2 = mkF m 0 #[.val (.int x0), .val (.ref x1)] [] := by first | (simp [entryFrame, mkF, argsToLocals, Value.category]; done) | rfl
def own_Q_own_uci3_1 (Z : State) (a : Addr) (k : ClassId) (vl : List Value) (sf : Value) (h0 : Heap) (n0 : Nat) (v : Option Value) (h : Heap) (L : List Loc) : Prop := (v = none) ∧ (Fr n0 L) ∧ (h = h0)

theorem own_uci3_1 (l : Launch) (Z : State) (a0 : Array Value) (hw : oT a0 Z) (ws : List Jvm.Cond) (a : Addr) (k : ClassId) (vl : List Value) (sf : Value) (h0 : Heap) (n0 : Nat) (Z0 : n0 ≤ h0.size) (Old0 : Old Z n0 h0) (sF : Sta Z Z.heap "jdk/internal/util/Preconditions" "SIOOBE_FORMATTER" "Ljava/util/function/BiFunction;" sf) (hsf : sf.isRef = true) (V_a : Arv Z h0 a k .byte (6 : Int32) vl (.int 0)) :
    oMet l oM20 jdk_52_method_91_code 2 none ws ⟨2, 0, 0, 27⟩ #[(.int 1), (.ref a)] Z h0 (own_Q_own_uci3_1 Z a k vl sf h0 n0) := by
  refine oB n0 "java/lang/StringUTF16" rfl (plainFor_of_name own_pn730740715) (fun m => own_ef_own_uci3_1 m (1 : Int32) a) ?_
  intro p e s m below meth c s₁ hZ hx hby hlk hret hml hown hnm X0 e0 N0
  show own_Gl _ _ _ _ _ _ _ (s₁.setTop (mkF m 0 #[.val (.int 1), .val (.ref a)] []))
  refine own_st (fun _ k => XS.iloadN X0.here hx rfl (hb hby own_d24_0) rfl k) ?_
  refine own_st (fun _ k => XS.aloadN X0.here hx rfl (hb hby own_d24_1) rfl rfl k) ?_
  obtain ⟨_, _, ⟨T1, L1, k1, n1⟩, -, X1, ⟨Lc1, hQ1, l1, y1, z1⟩, st1⟩ := Jvm.LawKit.callS X0 hx (y := oM18) hown (mvT hZ (oW hw 111 rfl)) (mvT hZ (oW hw 112 rfl)) (mvT hZ (oW hw 47 rfl)) (mvT hZ (oW hw 113 rfl)) (by decide) (backOf (W := 1) (own_ulen3 l Z a0 hw [] a k vl h0 n0 Z0 V_a) hZ (oW hw 113 rfl) (oW hw 47 rfl) (by decide) (by decide)) (g := (mkF m 2 #[.val (.int 1), .val (.ref a)] [(.ref a), (.int 1)])) rfl (by rw [hml]; rfl) (argsL := [(.ref a)]) (rest := [(.int 1)]) (lenOf own_pd985711191 rfl) rfl (by show 2 * 0 + _ ≤ _; exact Nat.le_of_eq rfl) (hb hby own_d24_2) (fun _ _ => ⟨rfl, e0, (by decide : 0 + 0 ≤ 0), (by decide : 0 + 0 ≤ 0)⟩)
  dsimp only [Pt.U, Pt.locs, Pt.cells, Pt.slots] at X1 l1 y1 z1 st1 hQ1
  subst l1 y1 z1
  obtain ⟨hh1, eh01⟩ : ∃ z, T1.heap = z := ⟨_, rfl⟩
  rw [eh01] at hQ1
  obtain ⟨rfl, Nq1, eh1⟩ := hQ1
  have N1 := Fr.app N0 Nq1
  refine own_st st1 ?_
  have e1 : T1.heap = h0 := eh01.trans eh1
  obtain ⟨_, _, ⟨T2, L2, k2, n2⟩, -, X2, ⟨Lc2, hQ2, l2, y2, z2⟩, st2⟩ := Jvm.LawKit.callS X1 hx (y := oM7) hown (mvT hZ (oW hw 114 rfl)) (mvT hZ (oW hw 76 rfl)) (mvT hZ (oW hw 7 rfl)) (mvT hZ (oW hw 77 rfl)) (by decide) (backOf (W := 0) (own_sci l Z a0 hw [] (1 : Int32) (3 : Int32) sf h0 n0 Z0 Old0 sF hsf (by decide) (by decide)) hZ (oW hw 77 rfl) (oW hw 7 rfl) (by decide) (by decide)) (g := (mkF m 5 #[.val (.int 1), .val (.ref a)] [(.int 3), (.int 1)])) rfl (by rw [hml]; rfl) (argsL := [(.int 1), (.int 3)]) (rest := []) (lenOf own_pd945365693 rfl) rfl (by show 2 * 0 + _ ≤ _; exact Nat.le_of_eq rfl) (hb hby own_d24_5) (fun _ _ => ⟨rfl, e1, (by decide : 0 + 0 ≤ 0), (by decide : 0 + 0 ≤ 0)⟩)
  dsimp only [Pt.U, Pt.locs, Pt.cells, Pt.slots] at X2 l2 y2 z2 st2 hQ2
  subst l2 y2 z2
  obtain ⟨hh2, eh02⟩ : ∃ z, T2.heap = z := ⟨_, rfl⟩
  rw [eh02] at hQ2
  obtain ⟨rfl, Nq2, eh2⟩ := hQ2
  have N2 := Fr.app N1 Nq2
  refine own_st st2 ?_
  have e2 : T2.heap = h0 := eh02.trans eh2
  show own_Gl _ _ _ _ _ _ _ (T2.setTop (mkF m 8 #[.val (.int 1), .val (.ref a)] []))
  exact own_retV X2 hx hlk hret (hb hby own_d24_8) e2 ⟨rfl, N2, rfl⟩ (by decide) (by decide)
theorem own_ef_own_uc3_1 (m : MethodId) (x0 : Addr) (x1 : Int32) : entryFrame m #[(.ref x0), (.int x1)] 2 = mkF m 0 #[.val (.ref x0), .val (.int x1)] [] := by first | (simp [entryFrame, mkF, argsToLocals, Value.category]; done) | rfl
def own_Q_own_uc3_1 (Z : State) (a : Addr) (k : ClassId) (sf : Value) (v0 : Int32) (v1 : Int32) (v2 : Int32) (h0 : Heap) (n0 : Nat) (v : Option Value) (h : Heap) (L : List Loc) : Prop := (v = some (.int v1)) ∧ (Fr n0 L) ∧ (h = h0)

theorem own_uc3_1 (l : Launch) (Z : State) (a0 : Array Value) (hw : oT a0 Z) (ws : List Jvm.Cond) (a : Addr) (k : ClassId) (sf : Value) (v0 : Int32) (v1 : Int32) (v2 : Int32) (h0 : Heap) (n0 : Nat) (Z0 : n0 ≤ h0.size) (Old0 : Old Z n0 h0) (sA : Sta Z Z.heap "java/lang/StringUTF16" "$assertionsDisabled" "Z" (.int 1)) (sH : Sta Z Z.heap "java/lang/StringUTF16" "HI_BYTE_SHIFT" "I" (.int 0)) (sL : Sta Z Z.heap "java/lang/StringUTF16" "LO_BYTE_SHIFT" "I" (.int 8)) (sF : Sta Z Z.heap "jdk/internal/util/Preconditions" "SIOOBE_FORMATTER" "Ljava/util/function/BiFunction;" sf) (hsf : sf.isRef = true) (V_a : Arv Z h0 a k .byte (6 : Int32) [(.int (nar .byte ((v0 >>> ((0 : Int32) &&& 31)).toInt8.toInt32))), (.int (nar .byte ((v0 >>> ((8 : Int32) &&& 31)).toInt8.toInt32))), (.int (nar .byte ((v1 >>> ((0 : Int32) &&& 31)).toInt8.toInt32))), (.int (nar .byte ((v1 >>> ((8 : Int32) &&& 31)).toInt8.toInt32))), (.int (nar .byte ((v2 >>> ((0 : Int32) &&& 31)).toInt8.toInt32))), (.int (nar .byte ((v2 >>> ((8 : Int32) &&& 31)).toInt8.toInt32)))] (.int 0)) (hr1 : ¬ v1 < (0 : Int32) ∧ ¬ (65535 : Int32) < v1) :
    oMet l oM21 jdk_52_method_83_code 2 (some .char) ws ⟨3, 0, 0, 40⟩ #[(.ref a), (.int 1)] Z h0 (own_Q_own_uc3_1 Z a k sf v0 v1 v2 h0 n0) := by
  refine oB n0 "java/lang/StringUTF16" rfl (plainFor_of_name own_pn730740715) (fun m => own_ef_own_uc3_1 m a (1 : Int32)) ?_
  intro p e s m below meth c s₁ hZ hx hby hlk hret hml hown hnm X0 e0 N0
  show own_Gl _ _ _ _ _ _ _ (s₁.setTop (mkF m 0 #[.val (.ref a), .val (.int 1)] []))
  refine own_st (fun _ k => XS.iloadN X0.here hx rfl (hb hby own_d23_0) rfl k) ?_
  refine own_st (fun _ k => XS.aloadN X0.here hx rfl (hb hby own_d23_1) rfl rfl k) ?_
  obtain ⟨_, _, ⟨T1, L1, k1, n1⟩, -, X1, ⟨Lc1, hQ1, l1, y1, z1⟩, st1⟩ := Jvm.LawKit.callS X0 hx (y := oM20) hown (mvT hZ (oW hw 108 rfl)) (mvT hZ (oW hw 109 rfl)) (mvT hZ (oW hw 47 rfl)) (mvT hZ (oW hw 110 rfl)) (by decide) (backOf (W := 0) (own_uci3_1 l Z a0 hw [] a k [(.int (nar .byte ((v0 >>> ((0 : Int32) &&& 31)).toInt8.toInt32))), (.int (nar .byte ((v0 >>> ((8 : Int32) &&& 31)).toInt8.toInt32))), (.int (nar .byte ((v1 >>> ((0 : Int32) &&& 31)).toInt8.toInt32))), (.int (nar .byte ((v1 >>> ((8 : Int32) &&& 31)).toInt8.toInt32))), (.int (nar .byte ((v2 >>> ((0 : Int32) &&& 31)).toInt8.toInt32))), (.int (nar .byte ((v2 >>> ((8 : Int32) &&& 31)).toInt8.toInt32)))] sf h0 n0 Z0 Old0 sF hsf V_a) hZ (oW hw 110 rfl) (oW hw 47 rfl) (by decide) (by decide)) (g := (mkF m 2 #[.val (.ref a), .val (.int 1)] [(.ref a), (.int 1)])) rfl (by rw [hml]; rfl) (argsL := [(.int 1), (.ref a)]) (rest := []) (lenOf own_pd883794637 rfl) rfl (by show 2 * 0 + _ ≤ _; exact Nat.le_of_eq rfl) (hb hby own_d23_2) (fun _ _ => ⟨rfl, e0, (by decide : 0 + 0 ≤ 0), (by decide : 0 + 0 ≤ 0)⟩)
  dsimp only [Pt.U, Pt.locs, Pt.cells, Pt.slots] at X1 l1 y1 z1 st1 hQ1
  subst l1 y1 z1
  obtain ⟨hh1, eh01⟩ : ∃ z, T1.heap = z := ⟨_, rfl⟩
  rw [eh01] at hQ1
  obtain ⟨rfl, Nq1, eh1⟩ := hQ1
  have N1 := Fr.app N0 Nq1
  refine own_st st1 ?_
  have e1 : T1.heap = h0 := eh01.trans eh1
  refine own_st (fun _ k => XS.aloadN X1.here hx rfl (hb hby own_d23_5) rfl rfl k) ?_
  show own_Gl _ _ _ _ _ _ _ (T1.setTop (mkF m 6 #[.val (.ref a), .val (.int 1)] [(.ref a)]))
  refine own_st (fun _ k => XS.iloadN X1.here hx rfl (hb hby own_d23_6) rfl k) ?_
  obtain ⟨_, _, ⟨T2, L2, k2, n2⟩, -, X2, ⟨Lc2, hQ2, l2, y2, z2⟩, st2⟩ := Jvm.LawKit.callS X1 hx (y := oM12) hown (mvT hZ (oW hw 102 rfl)) (mvT hZ (oW hw 103 rfl)) (mvT hZ (oW hw 47 rfl)) (mvT hZ (oW hw 104 rfl)) (by decide) (backOf (W := 0) (own_get3_1 l Z a0 hw [] a k v0 v1 v2 h0 n0 Z0 Old0 sA sH sL V_a hr1) hZ (oW hw 104 rfl) (oW hw 47 rfl) (by decide) (by decide)) (g := (mkF m 7 #[.val (.ref a), .val (.int 1)] [(.int 1), (.ref a)])) rfl (by rw [hml]; rfl) (argsL := [(.ref a), (.int 1)]) (rest := []) (lenOf own_pd128711048 rfl) rfl (by show 2 * 0 + _ ≤ _; exact Nat.le_of_eq rfl) (hb hby own_d23_7) (fun _ _ => ⟨rfl, e1, (by decide : 0 + 0 ≤ 0), (by decide : 0 + 0 ≤ 0)⟩)
  dsimp only [Pt.U, Pt.locs, Pt.cells, Pt.slots] at X2 l2 y2 z2 st2 hQ2
  subst l2 y2 z2
  obtain ⟨hh2, eh02⟩ : ∃ z, T2.heap = z := ⟨_, rfl⟩
  rw [eh02] at hQ2
  obtain ⟨rfl, Nq2, eh2⟩ := hQ2
  have N2 := Fr.app N1 Nq2
  refine own_st st2 ?_
  have e2 : T2.heap = h0 := eh02.trans eh2
  show own_Gl _ _ _ _ _ _ _ (T2.setTop (mkF m 10 #[.val (.ref a), .val (.int 1)] [(.int v1)]))
  exact own_retN X2 hx hlk (t := .char) hret (by simp) (hb hby own_d23_10) e2 ⟨by rw [own_nc _ hr1], N2, rfl⟩ (by decide) (by decide)
theorem own_ef_own_ch3_1_0 (m : MethodId) (x0 : Addr) (x1 : Int32) : entryFrame m #[(.ref x0), (.int x1)] 2 = mkF m 0 #[.val (.ref x0), .val (.int x1)] [] := by first | (simp [entryFrame, mkF, argsToLocals, Value.category]; done) | rfl
def own_Q_own_ch3_1_0 (Z : State) (a : Addr) (b : Addr) (k : ClassId) (sf : Value) (cs : Int32) (v0 : Int32) (v1 : Int32) (v2 : Int32) (h0 : Heap) (n0 : Nat) (v : Option Value) (h : Heap) (L : List Loc) : Prop := (v = some (.int v1)) ∧ (Fr n0 L) ∧ (h = h0)

theorem own_ch3_1_0 (l : Launch) (Z : State) (a0 : Array Value) (hw : oT a0 Z) (ws : List Jvm.Cond) (a : Addr) (b : Addr) (k : ClassId) (sf : Value) (cs : Int32) (v0 : Int32) (v1 : Int32) (v2 : Int32) (h0 : Heap) (n0 : Nat) (Z0 : n0 ≤ h0.size) (Old0 : Old Z n0 h0) (sF : Sta Z Z.heap "jdk/internal/util/Preconditions" "SIOOBE_FORMATTER" "Ljava/util/function/BiFunction;" sf) (hsf : sf.isRef = true) (sC : Sta Z Z.heap "java/lang/String" "COMPACT_STRINGS" "Z" (.int cs)) (hcs : ¬ (cs = (0 : Int32))) (E_a : Exa Z h0 a "java/lang/String") (F_a_value : Fld Z h0 a "java/lang/String" "value" "[B" (.ref b)) (F_a_coder : Fld Z h0 a "java/lang/String" "coder" "B" (.int 0)) (V_b : Arv Z h0 b k .byte (3 : Int32) [(.int (nar .byte (v0.toInt8.toInt32))), (.int (nar .byte (v1.toInt8.toInt32))), (.int (nar .byte (v2.toInt8.toInt32)))] (.int 0)) (hr1 : ¬ v1 < (0 : Int32) ∧ ¬ (255 : Int32) < v1) :
    oMet l oM22 jdk_42_method_56_code 2 (some .char) ws ⟨3, 0, 0, 40⟩ #[(.ref a), (.int 1)] Z h0 (own_Q_own_ch3_1_0 Z a b k sf cs v0 v1 v2 h0 n0) := by
  refine oB n0 "java/lang/String" rfl (plainFor_of_name own_pn853443214) (fun m => own_ef_own_ch3_1_0 m a (1 : Int32)) ?_
  intro p e s m below meth c s₁ hZ hx hby hlk hret hml hown hnm X0 e0 N0
  show own_Gl _ _ _ _ _ _ _ (s₁.setTop (mkF m 0 #[.val (.ref a), .val (.int 1)] []))
  refine own_st (fun _ k => XS.aloadN X0.here hx rfl (hb hby own_d12_0) rfl rfl k) ?_
  obtain ⟨cq1, kq1, q1a, q1b, q1c⟩ := isOf hZ e0 E_a
  obtain ⟨_, _, ⟨T1, L1, k1, n1⟩, -, X1, ⟨Lc1, hQ1, l1, y1, z1⟩, st1⟩ := X0.virtualBack hx (y := oM4) (z := oM4) hown (mvT hZ (oW hw 66 rfl)) (mvT hZ (oW hw 67 rfl)) (notFace_of_selects (args := #[]) (mvT hZ (oW hw 69 rfl))) (mvT hZ (oW hw 69 rfl)) (mvT hZ (oW hw 68 rfl)) (by decide) (backOf (W := 0) (own_lat0 l Z a0 hw [] a cs h0 n0 Z0 F_a_coder Old0 sC hcs) hZ (oW hw 70 rfl) (oW hw 7 rfl) (by decide) (by decide)) q1a q1c (g := (mkF m 1 #[.val (.ref a), .val (.int 1)] [(.ref a)])) rfl (by rw [hml]; rfl) (Steps.refl _) (argsL := []) (rest := []) (lenOf own_pd691901 rfl) rfl (by show 2 * 0 + _ ≤ _; exact Nat.le_of_eq rfl) (hb hby own_d12_1) (fun _ _ => ⟨rfl, e0, (by decide : 0 + 0 ≤ 0), (by decide : 0 + 0 ≤ 0)⟩)
  dsimp only [Pt.U, Pt.locs, Pt.cells, Pt.slots] at X1 l1 y1 z1 st1 hQ1
  subst l1 y1 z1
  obtain ⟨hh1, eh01⟩ : ∃ z, T1.heap = z := ⟨_, rfl⟩
  rw [eh01] at hQ1
  obtain ⟨rfl, Nq1, eh1⟩ := hQ1
  have N1 := Fr.app N0 Nq1
  refine own_tr st1 ?_
  have e1 : T1.heap = h0 := eh01.trans eh1
  have hd2 : ¬ ((1 : Int32) = (0 : Int32)) := (by decide)
  refine own_st (fun _ k => XS.ifNo X1.here hx rfl (hb hby own_d12_4) rfl ((if0 _ _).trans (feq hd2).1) k) ?_
  refine own_st (fun _ k => XS.aloadN X1.here hx rfl (hb hby own_d12_7) rfl rfl k) ?_
  show own_Gl _ _ _ _ _ _ _ (T1.setTop (mkF m 8 #[.val (.ref a), .val (.int 1)] [(.ref a)]))
  obtain ⟨T3, X3, e3, st3⟩ := getF X1 hx hZ hown (host := "") (Or.inl (oW hw 24 rfl)) Via.refl e1 F_a_value (g := (mkF m 8 #[.val (.ref a), .val (.int 1)] [(.ref a)])) rfl rfl (hb hby own_d12_8)
  refine own_st st3 ?_
  refine own_st (fun _ k => XS.iloadN X3.here hx rfl (hb hby own_d12_11) rfl k) ?_
  obtain ⟨_, _, ⟨T4, L4, k4, n4⟩, -, X4, ⟨Lc4, hQ4, l4, y4, z4⟩, st4⟩ := Jvm.LawKit.callS X3 hx (y := oM19) hown (mvT hZ (oW hw 71 rfl)) (mvT hZ (oW hw 72 rfl)) (mvT hZ (oW hw 73 rfl)) (mvT hZ (oW hw 74 rfl)) (by decide) (backOf (W := 0) (own_l1c3_1 l Z a0 hw [] b k sf v0 v1 v2 h0 n0 Z0 Old0 sF hsf V_b hr1) hZ (oW hw 74 rfl) (oW hw 73 rfl) (by decide) (by decide)) (g := (mkF m 12 #[.val (.ref a), .val (.int 1)] [(.int 1), (.ref b)])) rfl (by rw [hml]; rfl) (argsL := [(.ref b), (.int 1)]) (rest := []) (lenOf own_pd128711048 rfl) rfl (by show 2 * 0 + _ ≤ _; exact Nat.le_of_eq rfl) (hb hby own_d12_12) (fun _ _ => ⟨rfl, e3, (by decide : 0 + 0 ≤ 0), (by decide : 0 + 0 ≤ 0)⟩)
  dsimp only [Pt.U, Pt.locs, Pt.cells, Pt.slots] at X4 l4 y4 z4 st4 hQ4
  subst l4 y4 z4
  obtain ⟨hh4, eh04⟩ : ∃ z, T4.heap = z := ⟨_, rfl⟩
  rw [eh04] at hQ4
  obtain ⟨rfl, Nq4, eh4⟩ := hQ4
  have N4 := Fr.app N1 Nq4
  refine own_st st4 ?_
  have e4 : T4.heap = h0 := eh04.trans eh4
  show own_Gl _ _ _ _ _ _ _ (T4.setTop (mkF m 15 #[.val (.ref a), .val (.int 1)] [(.int v1)]))
  exact own_retN X4 hx hlk (t := .char) hret (by simp) (hb hby own_d12_15) e4 ⟨by rw [own_nc _ (own_wide hr1)], N4, rfl⟩ (by decide) (by decide)
theorem own_ef_own_ch3_1_1 (m : MethodId) (x0 : Addr) (x1 : Int32) : entryFrame m #[(.ref x0), (.int x1)] 2 = mkF m 0 #[.val (.ref x0), .val (.int x1)] [] := by first | (simp [entryFrame, mkF, argsToLocals, Value.category]; done) | rfl
def own_Q_own_ch3_1_1 (Z : State) (a : Addr) (b : Addr) (k : ClassId) (sf : Value) (cs : Int32) (v0 : Int32) (v1 : Int32) (v2 : Int32) (h0 : Heap) (n0 : Nat) (v : Option Value) (h : Heap) (L : List Loc) : Prop := (v = some (.int v1)) ∧ (Fr n0 L) ∧ (h = h0)

theorem own_ch3_1_1 (l : Launch) (Z : State) (a0 : Array Value) (hw : oT a0 Z) (ws : List Jvm.Cond) (a : Addr) (b : Addr) (k : ClassId) (sf : Value) (cs : Int32) (v0 : Int32) (v1 : Int32) (v2 : Int32) (h0 : Heap) (n0 : Nat) (Z0 : n0 ≤ h0.size) (Old0 : Old Z n0 h0) (sA : Sta Z Z.heap "java/lang/StringUTF16" "$assertionsDisabled" "Z" (.int 1)) (sH : Sta Z Z.heap "java/lang/StringUTF16" "HI_BYTE_SHIFT" "I" (.int 0)) (sL : Sta Z Z.heap "java/lang/StringUTF16" "LO_BYTE_SHIFT" "I" (.int 8)) (sF : Sta Z Z.heap "jdk/internal/util/Preconditions" "SIOOBE_FORMATTER" "Ljava/util/function/BiFunction;" sf) (hsf : sf.isRef = true) (sC : Sta Z Z.heap "java/lang/String" "COMPACT_STRINGS" "Z" (.int cs)) (hcs : ¬ (cs = (0 : Int32))) (E_a : Exa Z h0 a "java/lang/String") (F_a_value : Fld Z h0 a "java/lang/String" "value" "[B" (.ref b)) (F_a_coder : Fld Z h0 a "java/lang/String" "coder" "B" (.int 1)) (V_b : Arv Z h0 b k .byte (6 : Int32) [(.int (nar .byte ((v0 >>> ((0 : Int32) &&& 31)).toInt8.toInt32))), (.int (nar .byte ((v0 >>> ((8 : Int32) &&& 31)).toInt8.toInt32))), (.int (nar .byte ((v1 >>> ((0 : Int32) &&& 31)).toInt8.toInt32))), (.int (nar .byte ((v1 >>> ((8 : Int32) &&& 31)).toInt8.toInt32))), (.int (nar .byte ((v2 >>> ((0 : Int32) &&& 31)).toInt8.toInt32))), (.int (nar .byte ((v2 >>> ((8 : Int32) &&& 31)).toInt8.toInt32)))] (.int 0)) (hr1 : ¬ v1 < (0 : Int32) ∧ ¬ (65535 : Int32) < v1) :
    oMet l oM22 jdk_42_method_56_code 2 (some .char) ws ⟨4, 0, 0, 53⟩ #[(.ref a), (.int 1)] Z h0 (own_Q_own_ch3_1_1 Z a b k sf cs v0 v1 v2 h0 n0) := by
  refine oB n0 "java/lang/String" rfl (plainFor_of_name own_pn853443214) (fun m => own_ef_own_ch3_1_1 m a (1 : Int32)) ?_
  intro p e s m below meth c s₁ hZ hx hby hlk hret hml hown hnm X0 e0 N0
  show own_Gl _ _ _ _ _ _ _ (s₁.setTop (mkF m 0 #[.val (.ref a), .val (.int 1)] []))
  refine own_st (fun _ k => XS.aloadN X0.here hx rfl (hb hby own_d12_0) rfl rfl k) ?_
  obtain ⟨cq1, kq1, q1a, q1b, q1c⟩ := isOf hZ e0 E_a
  obtain ⟨_, _, ⟨T1, L1, k1, n1⟩, -, X1, ⟨Lc1, hQ1, l1, y1, z1⟩, st1⟩ := X0.virtualBack hx (y := oM4) (z := oM4) hown (mvT hZ (oW hw 66 rfl)) (mvT hZ (oW hw 67 rfl)) (notFace_of_selects (args := #[]) (mvT hZ (oW hw 69 rfl))) (mvT hZ (oW hw 69 rfl)) (mvT hZ (oW hw 68 rfl)) (by decide) (backOf (W := 0) (own_lat1 l Z a0 hw [] a cs h0 n0 Z0 F_a_coder Old0 sC hcs) hZ (oW hw 70 rfl) (oW hw 7 rfl) (by decide) (by decide)) q1a q1c (g := (mkF m 1 #[.val (.ref a), .val (.int 1)] [(.ref a)])) rfl (by rw [hml]; rfl) (Steps.refl _) (argsL := []) (rest := []) (lenOf own_pd691901 rfl) rfl (by show 2 * 0 + _ ≤ _; exact Nat.le_of_eq rfl) (hb hby own_d12_1) (fun _ _ => ⟨rfl, e0, (by decide : 0 + 0 ≤ 0), (by decide : 0 + 0 ≤ 0)⟩)
  dsimp only [Pt.U, Pt.locs, Pt.cells, Pt.slots] at X1 l1 y1 z1 st1 hQ1
  subst l1 y1 z1
  obtain ⟨hh1, eh01⟩ : ∃ z, T1.heap = z := ⟨_, rfl⟩
  rw [eh01] at hQ1
  obtain ⟨rfl, Nq1, eh1⟩ := hQ1
  have N1 := Fr.app N0 Nq1
  refine own_tr st1 ?_
  have e1 : T1.heap = h0 := eh01.trans eh1
  have hd2 : (0 : Int32) = (0 : Int32) := (by decide)
  refine own_st (fun _ k => XS.ifYes X1.here hx rfl (pc0 := 4) (pc' := 16) rfl (hb hby own_d12_4) rfl ((if0 _ _).trans (teq hd2).1) (by decide) (by decide) k) ?_
  refine own_st (fun _ k => XS.aloadN X1.here hx rfl (hb hby own_d12_16) rfl rfl k) ?_
  show own_Gl _ _ _ _ _ _ _ (T1.setTop (mkF m 17 #[.val (.ref a), .val (.int 1)] [(.ref a)]))
  obtain ⟨T3, X3, e3, st3⟩ := getF X1 hx hZ hown (host := "") (Or.inl (oW hw 24 rfl)) Via.refl e1 F_a_value (g := (mkF m 17 #[.val (.ref a), .val (.int 1)] [(.ref a)])) rfl rfl (hb hby own_d12_17)
  refine own_st st3 ?_
  refine own_st (fun _ k => XS.iloadN X3.here hx rfl (hb hby own_d12_20) rfl k) ?_
  obtain ⟨_, _, ⟨T4, L4, k4, n4⟩, -, X4, ⟨Lc4, hQ4, l4, y4, z4⟩, st4⟩ := Jvm.LawKit.callS X3 hx (y := oM21) hown (mvT hZ (oW hw 105 rfl)) (mvT hZ (oW hw 106 rfl)) (mvT hZ (oW hw 47 rfl)) (mvT hZ (oW hw 107 rfl)) (by decide) (backOf (W := 0) (own_uc3_1 l Z a0 hw [] b k sf v0 v1 v2 h0 n0 Z0 Old0 sA sH sL sF hsf V_b hr1) hZ (oW hw 107 rfl) (oW hw 47 rfl) (by decide) (by decide)) (g := (mkF m 21 #[.val (.ref a), .val (.int 1)] [(.int 1), (.ref b)])) rfl (by rw [hml]; rfl) (argsL := [(.ref b), (.int 1)]) (rest := []) (lenOf own_pd128711048 rfl) rfl (by show 2 * 0 + _ ≤ _; exact Nat.le_of_eq rfl) (hb hby own_d12_21) (fun _ _ => ⟨rfl, e3, (by decide : 0 + 0 ≤ 0), (by decide : 0 + 0 ≤ 0)⟩)
  dsimp only [Pt.U, Pt.locs, Pt.cells, Pt.slots] at X4 l4 y4 z4 st4 hQ4
  subst l4 y4 z4
  obtain ⟨hh4, eh04⟩ : ∃ z, T4.heap = z := ⟨_, rfl⟩
  rw [eh04] at hQ4
  obtain ⟨rfl, Nq4, eh4⟩ := hQ4
  have N4 := Fr.app N1 Nq4
  refine own_st st4 ?_
  have e4 : T4.heap = h0 := eh04.trans eh4
  show own_Gl _ _ _ _ _ _ _ (T4.setTop (mkF m 24 #[.val (.ref a), .val (.int 1)] [(.int v1)]))
  exact own_retN X4 hx hlk (t := .char) hret (by simp) (hb hby own_d12_24) e4 ⟨by rw [own_nc _ hr1], N4, rfl⟩ (by decide) (by decide)
theorem own_ef_own_l1c3_2 (m : MethodId) (x0 : Addr) (x1 : Int32) : entryFrame m #[(.ref x0), (.int x1)] 2 = mkF m 0 #[.val (.ref x0), .val (.int x1)] [] := by first | (simp [entryFrame, mkF, argsToLocals, Value.category]; done) | rfl
def own_Q_own_l1c3_2 (Z : State) (a : Addr) (k : ClassId) (sf : Value) (v0 : Int32) (v1 : Int32) (v2 : Int32) (h0 : Heap) (n0 : Nat) (v : Option Value) (h : Heap) (L : List Loc) : Prop := (v = some (.int v2)) ∧ (Fr n0 L) ∧ (h = h0)

theorem own_l1c3_2 (l : Launch) (Z : State) (a0 : Array Value) (hw : oT a0 Z) (ws : List Jvm.Cond) (a : Addr) (k : ClassId) (sf : Value) (v0 : Int32) (v1 : Int32) (v2 : Int32) (h0 : Heap) (n0 : Nat) (Z0 : n0 ≤ h0.size) (Old0 : Old Z n0 h0) (sF : Sta Z Z.heap "jdk/internal/util/Preconditions" "SIOOBE_FORMATTER" "Ljava/util/function/BiFunction;" sf) (hsf : sf.isRef = true) (V_a : Arv Z h0 a k .byte (3 : Int32) [(.int (nar .byte (v0.toInt8.toInt32))), (.int (nar .byte (v1.toInt8.toInt32))), (.int (nar .byte (v2.toInt8.toInt32)))] (.int 0)) (hr2 : ¬ v2 < (0 : Int32) ∧ ¬ (255 : Int32) < v2) :
    oMet l oM19 jdk_43_method_2_code 2 (some .char) ws ⟨2, 0, 0, 27⟩ #[(.ref a), (.int 2)] Z h0 (own_Q_own_l1c3_2 Z a k sf v0 v1 v2 h0 n0) := by
  refine oB n0 "java/lang/StringLatin1" rfl (plainFor_of_name own_pn340705600) (fun m => own_ef_own_l1c3_2 m a (2 : Int32)) ?_
  intro p e s m below meth c s₁ hZ hx hby hlk hret hml hown hnm X0 e0 N0
  show own_Gl _ _ _ _ _ _ _ (s₁.setTop (mkF m 0 #[.val (.ref a), .val (.int 2)] []))
  refine own_st (fun _ k => XS.iloadN X0.here hx rfl (hb hby own_d14_0) rfl k) ?_
  refine own_st (fun _ k => XS.aloadN X0.here hx rfl (hb hby own_d14_1) rfl rfl k) ?_
  obtain ⟨cl1, Ar1, qq1, Ss1, Nn1, Hh1, Gg1⟩ := id V_a
  refine own_st (X0.arraylength hx (by rw [e0]; exact Ar1.1) (State.isArrayOf_alike hZ.alike Ar1.2.1) (g := (mkF m 2 #[.val (.ref a), .val (.int 2)] [(.ref a), (.int 2)])) rfl rfl (hb hby own_d14_2)) ?_
  rw [len_of Ss1 Nn1]
  obtain ⟨_, _, ⟨T2, L2, k2, n2⟩, -, X2, ⟨Lc2, hQ2, l2, y2, z2⟩, st2⟩ := Jvm.LawKit.callS X0 hx (y := oM7) hown (mvT hZ (oW hw 75 rfl)) (mvT hZ (oW hw 76 rfl)) (mvT hZ (oW hw 7 rfl)) (mvT hZ (oW hw 77 rfl)) (by decide) (backOf (W := 0) (own_sci l Z a0 hw [] (2 : Int32) (3 : Int32) sf h0 n0 Z0 Old0 sF hsf (by decide) (by decide)) hZ (oW hw 77 rfl) (oW hw 7 rfl) (by decide) (by decide)) (g := (mkF m 3 #[.val (.ref a), .val (.int 2)] [(.int 3), (.int 2)])) rfl (by rw [hml]; rfl) (argsL := [(.int 2), (.int 3)]) (rest := []) (lenOf own_pd945365693 rfl) rfl (by show 2 * 0 + _ ≤ _; exact Nat.le_of_eq rfl) (hb hby own_d14_3) (fun _ _ => ⟨rfl, e0, (by decide : 0 + 0 ≤ 0), (by decide : 0 + 0 ≤ 0)⟩)
  dsimp only [Pt.U, Pt.locs, Pt.cells, Pt.slots] at X2 l2 y2 z2 st2 hQ2
  subst l2 y2 z2
  obtain ⟨hh2, eh02⟩ : ∃ z, T2.heap = z := ⟨_, rfl⟩
  rw [eh02] at hQ2
  obtain ⟨rfl, Nq2, eh2⟩ := hQ2
  have N2 := Fr.app N0 Nq2
  refine own_st st2 ?_
  have e2 : T2.heap = h0 := eh02.trans eh2
  show own_Gl _ _ _ _ _ _ _ (T2.setTop (mkF m 6 #[.val (.ref a), .val (.int 2)] []))
  refine own_st (fun _ k => XS.aloadN X2.here hx rfl (hb hby own_d14_6) rfl rfl k) ?_
  refine own_st (fun _ k => XS.iloadN X2.here hx rfl (hb hby own_d14_7) rfl k) ?_
  obtain ⟨cl3, Ar3, qq3, Ss3, Nn3, Hh3, Gg3⟩ := id V_a
  have hin3 : ¬ ((2 : Int32) < 0 ∨ cl3.slots.size ≤ ((2 : Int32)).toNatClampNeg) := inb_of Ss3 ⟨by decide, by decide⟩
  have hat3 : cl3.slots[((2 : Int32)).toNatClampNeg]? = some (.int (nar .byte (v2.toInt8.toInt32))) := Hh3.at hin3 (rfl)
  refine own_st (X2.baloadBytes hx (j := (2 : Int32)) (v := (.int (nar .byte (v2.toInt8.toInt32)))) (by rw [e2]; exact Ar3.1) (State.isArrayOf_alike hZ.alike Ar3.2.1) Ar3.2.2 hin3 hat3 (g := (mkF m 8 #[.val (.ref a), .val (.int 2)] [(.int 2), (.ref a)])) rfl rfl (hb hby own_d14_8)) ?_
  refine own_st (fun _ k => XS.sipush X2.here hx rfl (hb hby own_d14_9) k) ?_
  show own_Gl _ _ _ _ _ _ _ (T2.setTop (mkF m 12 #[.val (.ref a), .val (.int 2)] [(.int 255), (.int (nar .byte (v2.toInt8.toInt32)))]))
  refine own_st (fun _ k => XS.iand X2.here hx rfl (hb hby own_d14_12) rfl k) ?_
  refine own_st (fun _ k => XS.i2c X2.here hx rfl (hb hby own_d14_13) rfl k) ?_
  show own_Gl _ _ _ _ _ _ _ (T2.setTop (mkF m 14 #[.val (.ref a), .val (.int 2)] [(.int (((nar .byte (v2.toInt8.toInt32)) &&& (255 : Int32)).toUInt32.toUInt16.toUInt32.toInt32))]))
  exact own_retN X2 hx hlk (t := .char) hret (by simp) (hb hby own_d14_14) e2 ⟨by rw [own_lch _ hr2], N2, rfl⟩ (by decide) (by decide)
theorem own_ef_own_uci3_2 (m : MethodId) (x0 : Int32) (x1 : Addr) : entryFrame m #[(.int x0), (.ref x1)] 2 = mkF m 0 #[.val (.int x0), .val (.ref x1)] [] := by first | (simp [entryFrame, mkF, argsToLocals, Value.category]; done) | rfl
def own_Q_own_uci3_2 (Z : State) (a : Addr) (k : ClassId) (vl : List Value) (sf : Value) (h0 : Heap) (n0 : Nat) (v : Option Value) (h : Heap) (L : List Loc) : Prop := (v = none) ∧ (Fr n0 L) ∧ (h = h0)

theorem own_uci3_2 (l : Launch) (Z : State) (a0 : Array Value) (hw : oT a0 Z) (ws : List Jvm.Cond) (a : Addr) (k : ClassId) (vl : List Value) (sf : Value) (h0 : Heap) (n0 : Nat) (Z0 : n0 ≤ h0.size) (Old0 : Old Z n0 h0) (sF : Sta Z Z.heap "jdk/internal/util/Preconditions" "SIOOBE_FORMATTER" "Ljava/util/function/BiFunction;" sf) (hsf : sf.isRef = true) (V_a : Arv Z h0 a k .byte (6 : Int32) vl (.int 0)) :
    oMet l oM20 jdk_52_method_91_code 2 none ws ⟨2, 0, 0, 27⟩ #[(.int 2), (.ref a)] Z h0 (own_Q_own_uci3_2 Z a k vl sf h0 n0) := by
  refine oB n0 "java/lang/StringUTF16" rfl (plainFor_of_name own_pn730740715) (fun m => own_ef_own_uci3_2 m (2 : Int32) a) ?_
  intro p e s m below meth c s₁ hZ hx hby hlk hret hml hown hnm X0 e0 N0
  show own_Gl _ _ _ _ _ _ _ (s₁.setTop (mkF m 0 #[.val (.int 2), .val (.ref a)] []))
  refine own_st (fun _ k => XS.iloadN X0.here hx rfl (hb hby own_d24_0) rfl k) ?_
  refine own_st (fun _ k => XS.aloadN X0.here hx rfl (hb hby own_d24_1) rfl rfl k) ?_
  obtain ⟨_, _, ⟨T1, L1, k1, n1⟩, -, X1, ⟨Lc1, hQ1, l1, y1, z1⟩, st1⟩ := Jvm.LawKit.callS X0 hx (y := oM18) hown (mvT hZ (oW hw 111 rfl)) (mvT hZ (oW hw 112 rfl)) (mvT hZ (oW hw 47 rfl)) (mvT hZ (oW hw 113 rfl)) (by decide) (backOf (W := 1) (own_ulen3 l Z a0 hw [] a k vl h0 n0 Z0 V_a) hZ (oW hw 113 rfl) (oW hw 47 rfl) (by decide) (by decide)) (g := (mkF m 2 #[.val (.int 2), .val (.ref a)] [(.ref a), (.int 2)])) rfl (by rw [hml]; rfl) (argsL := [(.ref a)]) (rest := [(.int 2)]) (lenOf own_pd985711191 rfl) rfl (by show 2 * 0 + _ ≤ _; exact Nat.le_of_eq rfl) (hb hby own_d24_2) (fun _ _ => ⟨rfl, e0, (by decide : 0 + 0 ≤ 0), (by decide : 0 + 0 ≤ 0)⟩)
  dsimp only [Pt.U, Pt.locs, Pt.cells, Pt.slots] at X1 l1 y1 z1 st1 hQ1
  subst l1 y1 z1
  obtain ⟨hh1, eh01⟩ : ∃ z, T1.heap = z := ⟨_, rfl⟩
  rw [eh01] at hQ1
  obtain ⟨rfl, Nq1, eh1⟩ := hQ1
  have N1 := Fr.app N0 Nq1
  refine own_st st1 ?_
  have e1 : T1.heap = h0 := eh01.trans eh1
  obtain ⟨_, _, ⟨T2, L2, k2, n2⟩, -, X2, ⟨Lc2, hQ2, l2, y2, z2⟩, st2⟩ := Jvm.LawKit.callS X1 hx (y := oM7) hown (mvT hZ (oW hw 114 rfl)) (mvT hZ (oW hw 76 rfl)) (mvT hZ (oW hw 7 rfl)) (mvT hZ (oW hw 77 rfl)) (by decide) (backOf (W := 0) (own_sci l Z a0 hw [] (2 : Int32) (3 : Int32) sf h0 n0 Z0 Old0 sF hsf (by decide) (by decide)) hZ (oW hw 77 rfl) (oW hw 7 rfl) (by decide) (by decide)) (g := (mkF m 5 #[.val (.int 2), .val (.ref a)] [(.int 3), (.int 2)])) rfl (by rw [hml]; rfl) (argsL := [(.int 2), (.int 3)]) (rest := []) (lenOf own_pd945365693 rfl) rfl (by show 2 * 0 + _ ≤ _; exact Nat.le_of_eq rfl) (hb hby own_d24_5) (fun _ _ => ⟨rfl, e1, (by decide : 0 + 0 ≤ 0), (by decide : 0 + 0 ≤ 0)⟩)
  dsimp only [Pt.U, Pt.locs, Pt.cells, Pt.slots] at X2 l2 y2 z2 st2 hQ2
  subst l2 y2 z2
  obtain ⟨hh2, eh02⟩ : ∃ z, T2.heap = z := ⟨_, rfl⟩
  rw [eh02] at hQ2
  obtain ⟨rfl, Nq2, eh2⟩ := hQ2
  have N2 := Fr.app N1 Nq2
  refine own_st st2 ?_
  have e2 : T2.heap = h0 := eh02.trans eh2
  show own_Gl _ _ _ _ _ _ _ (T2.setTop (mkF m 8 #[.val (.int 2), .val (.ref a)] []))
  exact own_retV X2 hx hlk hret (hb hby own_d24_8) e2 ⟨rfl, N2, rfl⟩ (by decide) (by decide)
theorem own_ef_own_uc3_2 (m : MethodId) (x0 : Addr) (x1 : Int32) : entryFrame m #[(.ref x0), (.int x1)] 2 = mkF m 0 #[.val (.ref x0), .val (.int x1)] [] := by first | (simp [entryFrame, mkF, argsToLocals, Value.category]; done) | rfl
def own_Q_own_uc3_2 (Z : State) (a : Addr) (k : ClassId) (sf : Value) (v0 : Int32) (v1 : Int32) (v2 : Int32) (h0 : Heap) (n0 : Nat) (v : Option Value) (h : Heap) (L : List Loc) : Prop := (v = some (.int v2)) ∧ (Fr n0 L) ∧ (h = h0)

theorem own_uc3_2 (l : Launch) (Z : State) (a0 : Array Value) (hw : oT a0 Z) (ws : List Jvm.Cond) (a : Addr) (k : ClassId) (sf : Value) (v0 : Int32) (v1 : Int32) (v2 : Int32) (h0 : Heap) (n0 : Nat) (Z0 : n0 ≤ h0.size) (Old0 : Old Z n0 h0) (sA : Sta Z Z.heap "java/lang/StringUTF16" "$assertionsDisabled" "Z" (.int 1)) (sH : Sta Z Z.heap "java/lang/StringUTF16" "HI_BYTE_SHIFT" "I" (.int 0)) (sL : Sta Z Z.heap "java/lang/StringUTF16" "LO_BYTE_SHIFT" "I" (.int 8)) (sF : Sta Z Z.heap "jdk/internal/util/Preconditions" "SIOOBE_FORMATTER" "Ljava/util/function/BiFunction;" sf) (hsf : sf.isRef = true) (V_a : Arv Z h0 a k .byte (6 : Int32) [(.int (nar .byte ((v0 >>> ((0 : Int32) &&& 31)).toInt8.toInt32))), (.int (nar .byte ((v0 >>> ((8 : Int32) &&& 31)).toInt8.toInt32))), (.int (nar .byte ((v1 >>> ((0 : Int32) &&& 31)).toInt8.toInt32))), (.int (nar .byte ((v1 >>> ((8 : Int32) &&& 31)).toInt8.toInt32))), (.int (nar .byte ((v2 >>> ((0 : Int32) &&& 31)).toInt8.toInt32))), (.int (nar .byte ((v2 >>> ((8 : Int32) &&& 31)).toInt8.toInt32)))] (.int 0)) (hr2 : ¬ v2 < (0 : Int32) ∧ ¬ (65535 : Int32) < v2) :
    oMet l oM21 jdk_52_method_83_code 2 (some .char) ws ⟨3, 0, 0, 40⟩ #[(.ref a), (.int 2)] Z h0 (own_Q_own_uc3_2 Z a k sf v0 v1 v2 h0 n0) := by
  refine oB n0 "java/lang/StringUTF16" rfl (plainFor_of_name own_pn730740715) (fun m => own_ef_own_uc3_2 m a (2 : Int32)) ?_
  intro p e s m below meth c s₁ hZ hx hby hlk hret hml hown hnm X0 e0 N0
  show own_Gl _ _ _ _ _ _ _ (s₁.setTop (mkF m 0 #[.val (.ref a), .val (.int 2)] []))
  refine own_st (fun _ k => XS.iloadN X0.here hx rfl (hb hby own_d23_0) rfl k) ?_
  refine own_st (fun _ k => XS.aloadN X0.here hx rfl (hb hby own_d23_1) rfl rfl k) ?_
  obtain ⟨_, _, ⟨T1, L1, k1, n1⟩, -, X1, ⟨Lc1, hQ1, l1, y1, z1⟩, st1⟩ := Jvm.LawKit.callS X0 hx (y := oM20) hown (mvT hZ (oW hw 108 rfl)) (mvT hZ (oW hw 109 rfl)) (mvT hZ (oW hw 47 rfl)) (mvT hZ (oW hw 110 rfl)) (by decide) (backOf (W := 0) (own_uci3_2 l Z a0 hw [] a k [(.int (nar .byte ((v0 >>> ((0 : Int32) &&& 31)).toInt8.toInt32))), (.int (nar .byte ((v0 >>> ((8 : Int32) &&& 31)).toInt8.toInt32))), (.int (nar .byte ((v1 >>> ((0 : Int32) &&& 31)).toInt8.toInt32))), (.int (nar .byte ((v1 >>> ((8 : Int32) &&& 31)).toInt8.toInt32))), (.int (nar .byte ((v2 >>> ((0 : Int32) &&& 31)).toInt8.toInt32))), (.int (nar .byte ((v2 >>> ((8 : Int32) &&& 31)).toInt8.toInt32)))] sf h0 n0 Z0 Old0 sF hsf V_a) hZ (oW hw 110 rfl) (oW hw 47 rfl) (by decide) (by decide)) (g := (mkF m 2 #[.val (.ref a), .val (.int 2)] [(.ref a), (.int 2)])) rfl (by rw [hml]; rfl) (argsL := [(.int 2), (.ref a)]) (rest := []) (lenOf own_pd883794637 rfl) rfl (by show 2 * 0 + _ ≤ _; exact Nat.le_of_eq rfl) (hb hby own_d23_2) (fun _ _ => ⟨rfl, e0, (by decide : 0 + 0 ≤ 0), (by decide : 0 + 0 ≤ 0)⟩)
  dsimp only [Pt.U, Pt.locs, Pt.cells, Pt.slots] at X1 l1 y1 z1 st1 hQ1
  subst l1 y1 z1
  obtain ⟨hh1, eh01⟩ : ∃ z, T1.heap = z := ⟨_, rfl⟩
  rw [eh01] at hQ1
  obtain ⟨rfl, Nq1, eh1⟩ := hQ1
  have N1 := Fr.app N0 Nq1
  refine own_st st1 ?_
  have e1 : T1.heap = h0 := eh01.trans eh1
  refine own_st (fun _ k => XS.aloadN X1.here hx rfl (hb hby own_d23_5) rfl rfl k) ?_
  show own_Gl _ _ _ _ _ _ _ (T1.setTop (mkF m 6 #[.val (.ref a), .val (.int 2)] [(.ref a)]))
  refine own_st (fun _ k => XS.iloadN X1.here hx rfl (hb hby own_d23_6) rfl k) ?_
  obtain ⟨_, _, ⟨T2, L2, k2, n2⟩, -, X2, ⟨Lc2, hQ2, l2, y2, z2⟩, st2⟩ := Jvm.LawKit.callS X1 hx (y := oM12) hown (mvT hZ (oW hw 102 rfl)) (mvT hZ (oW hw 103 rfl)) (mvT hZ (oW hw 47 rfl)) (mvT hZ (oW hw 104 rfl)) (by decide) (backOf (W := 0) (own_get3_2 l Z a0 hw [] a k v0 v1 v2 h0 n0 Z0 Old0 sA sH sL V_a hr2) hZ (oW hw 104 rfl) (oW hw 47 rfl) (by decide) (by decide)) (g := (mkF m 7 #[.val (.ref a), .val (.int 2)] [(.int 2), (.ref a)])) rfl (by rw [hml]; rfl) (argsL := [(.ref a), (.int 2)]) (rest := []) (lenOf own_pd128711048 rfl) rfl (by show 2 * 0 + _ ≤ _; exact Nat.le_of_eq rfl) (hb hby own_d23_7) (fun _ _ => ⟨rfl, e1, (by decide : 0 + 0 ≤ 0), (by decide : 0 + 0 ≤ 0)⟩)
  dsimp only [Pt.U, Pt.locs, Pt.cells, Pt.slots] at X2 l2 y2 z2 st2 hQ2
  subst l2 y2 z2
  obtain ⟨hh2, eh02⟩ : ∃ z, T2.heap = z := ⟨_, rfl⟩
  rw [eh02] at hQ2
  obtain ⟨rfl, Nq2, eh2⟩ := hQ2
  have N2 := Fr.app N1 Nq2
  refine own_st st2 ?_
  have e2 : T2.heap = h0 := eh02.trans eh2
  show own_Gl _ _ _ _ _ _ _ (T2.setTop (mkF m 10 #[.val (.ref a), .val (.int 2)] [(.int v2)]))
  exact own_retN X2 hx hlk (t := .char) hret (by simp) (hb hby own_d23_10) e2 ⟨by rw [own_nc _ hr2], N2, rfl⟩ (by decide) (by decide)
theorem own_ef_own_ch3_2_0 (m : MethodId) (x0 : Addr) (x1 : Int32) : entryFrame m #[(.ref x0), (.int x1)] 2 = mkF m 0 #[.val (.ref x0), .val (.int x1)] [] := by first | (simp [entryFrame, mkF, argsToLocals, Value.category]; done) | rfl
def own_Q_own_ch3_2_0 (Z : State) (a : Addr) (b : Addr) (k : ClassId) (sf : Value) (cs : Int32) (v0 : Int32) (v1 : Int32) (v2 : Int32) (h0 : Heap) (n0 : Nat) (v : Option Value) (h : Heap) (L : List Loc) : Prop := (v = some (.int v2)) ∧ (Fr n0 L) ∧ (h = h0)

theorem own_ch3_2_0 (l : Launch) (Z : State) (a0 : Array Value) (hw : oT a0 Z) (ws : List Jvm.Cond) (a : Addr) (b : Addr) (k : ClassId) (sf : Value) (cs : Int32) (v0 : Int32) (v1 : Int32) (v2 : Int32) (h0 : Heap) (n0 : Nat) (Z0 : n0 ≤ h0.size) (Old0 : Old Z n0 h0) (sF : Sta Z Z.heap "jdk/internal/util/Preconditions" "SIOOBE_FORMATTER" "Ljava/util/function/BiFunction;" sf) (hsf : sf.isRef = true) (sC : Sta Z Z.heap "java/lang/String" "COMPACT_STRINGS" "Z" (.int cs)) (hcs : ¬ (cs = (0 : Int32))) (E_a : Exa Z h0 a "java/lang/String") (F_a_value : Fld Z h0 a "java/lang/String" "value" "[B" (.ref b)) (F_a_coder : Fld Z h0 a "java/lang/String" "coder" "B" (.int 0)) (V_b : Arv Z h0 b k .byte (3 : Int32) [(.int (nar .byte (v0.toInt8.toInt32))), (.int (nar .byte (v1.toInt8.toInt32))), (.int (nar .byte (v2.toInt8.toInt32)))] (.int 0)) (hr2 : ¬ v2 < (0 : Int32) ∧ ¬ (255 : Int32) < v2) :
    oMet l oM22 jdk_42_method_56_code 2 (some .char) ws ⟨3, 0, 0, 40⟩ #[(.ref a), (.int 2)] Z h0 (own_Q_own_ch3_2_0 Z a b k sf cs v0 v1 v2 h0 n0) := by
  refine oB n0 "java/lang/String" rfl (plainFor_of_name own_pn853443214) (fun m => own_ef_own_ch3_2_0 m a (2 : Int32)) ?_
  intro p e s m below meth c s₁ hZ hx hby hlk hret hml hown hnm X0 e0 N0
  show own_Gl _ _ _ _ _ _ _ (s₁.setTop (mkF m 0 #[.val (.ref a), .val (.int 2)] []))
  refine own_st (fun _ k => XS.aloadN X0.here hx rfl (hb hby own_d12_0) rfl rfl k) ?_
  obtain ⟨cq1, kq1, q1a, q1b, q1c⟩ := isOf hZ e0 E_a
  obtain ⟨_, _, ⟨T1, L1, k1, n1⟩, -, X1, ⟨Lc1, hQ1, l1, y1, z1⟩, st1⟩ := X0.virtualBack hx (y := oM4) (z := oM4) hown (mvT hZ (oW hw 66 rfl)) (mvT hZ (oW hw 67 rfl)) (notFace_of_selects (args := #[]) (mvT hZ (oW hw 69 rfl))) (mvT hZ (oW hw 69 rfl)) (mvT hZ (oW hw 68 rfl)) (by decide) (backOf (W := 0) (own_lat0 l Z a0 hw [] a cs h0 n0 Z0 F_a_coder Old0 sC hcs) hZ (oW hw 70 rfl) (oW hw 7 rfl) (by decide) (by decide)) q1a q1c (g := (mkF m 1 #[.val (.ref a), .val (.int 2)] [(.ref a)])) rfl (by rw [hml]; rfl) (Steps.refl _) (argsL := []) (rest := []) (lenOf own_pd691901 rfl) rfl (by show 2 * 0 + _ ≤ _; exact Nat.le_of_eq rfl) (hb hby own_d12_1) (fun _ _ => ⟨rfl, e0, (by decide : 0 + 0 ≤ 0), (by decide : 0 + 0 ≤ 0)⟩)
  dsimp only [Pt.U, Pt.locs, Pt.cells, Pt.slots] at X1 l1 y1 z1 st1 hQ1
  subst l1 y1 z1
  obtain ⟨hh1, eh01⟩ : ∃ z, T1.heap = z := ⟨_, rfl⟩
  rw [eh01] at hQ1
  obtain ⟨rfl, Nq1, eh1⟩ := hQ1
  have N1 := Fr.app N0 Nq1
  refine own_tr st1 ?_
  have e1 : T1.heap = h0 := eh01.trans eh1
  have hd2 : ¬ ((1 : Int32) = (0 : Int32)) := (by decide)
  refine own_st (fun _ k => XS.ifNo X1.here hx rfl (hb hby own_d12_4) rfl ((if0 _ _).trans (feq hd2).1) k) ?_
  refine own_st (fun _ k => XS.aloadN X1.here hx rfl (hb hby own_d12_7) rfl rfl k) ?_
  show own_Gl _ _ _ _ _ _ _ (T1.setTop (mkF m 8 #[.val (.ref a), .val (.int 2)] [(.ref a)]))
  obtain ⟨T3, X3, e3, st3⟩ := getF X1 hx hZ hown (host := "") (Or.inl (oW hw 24 rfl)) Via.refl e1 F_a_value (g := (mkF m 8 #[.val (.ref a), .val (.int 2)] [(.ref a)])) rfl rfl (hb hby own_d12_8)
  refine own_st st3 ?_
  refine own_st (fun _ k => XS.iloadN X3.here hx rfl (hb hby own_d12_11) rfl k) ?_
  obtain ⟨_, _, ⟨T4, L4, k4, n4⟩, -, X4, ⟨Lc4, hQ4, l4, y4, z4⟩, st4⟩ := Jvm.LawKit.callS X3 hx (y := oM19) hown (mvT hZ (oW hw 71 rfl)) (mvT hZ (oW hw 72 rfl)) (mvT hZ (oW hw 73 rfl)) (mvT hZ (oW hw 74 rfl)) (by decide) (backOf (W := 0) (own_l1c3_2 l Z a0 hw [] b k sf v0 v1 v2 h0 n0 Z0 Old0 sF hsf V_b hr2) hZ (oW hw 74 rfl) (oW hw 73 rfl) (by decide) (by decide)) (g := (mkF m 12 #[.val (.ref a), .val (.int 2)] [(.int 2), (.ref b)])) rfl (by rw [hml]; rfl) (argsL := [(.ref b), (.int 2)]) (rest := []) (lenOf own_pd128711048 rfl) rfl (by show 2 * 0 + _ ≤ _; exact Nat.le_of_eq rfl) (hb hby own_d12_12) (fun _ _ => ⟨rfl, e3, (by decide : 0 + 0 ≤ 0), (by decide : 0 + 0 ≤ 0)⟩)
  dsimp only [Pt.U, Pt.locs, Pt.cells, Pt.slots] at X4 l4 y4 z4 st4 hQ4
  subst l4 y4 z4
  obtain ⟨hh4, eh04⟩ : ∃ z, T4.heap = z := ⟨_, rfl⟩
  rw [eh04] at hQ4
  obtain ⟨rfl, Nq4, eh4⟩ := hQ4
  have N4 := Fr.app N1 Nq4
  refine own_st st4 ?_
  have e4 : T4.heap = h0 := eh04.trans eh4
  show own_Gl _ _ _ _ _ _ _ (T4.setTop (mkF m 15 #[.val (.ref a), .val (.int 2)] [(.int v2)]))
  exact own_retN X4 hx hlk (t := .char) hret (by simp) (hb hby own_d12_15) e4 ⟨by rw [own_nc _ (own_wide hr2)], N4, rfl⟩ (by decide) (by decide)
theorem own_ef_own_ch3_2_1 (m : MethodId) (x0 : Addr) (x1 : Int32) : entryFrame m #[(.ref x0), (.int x1)] 2 = mkF m 0 #[.val (.ref x0), .val (.int x1)] [] := by first | (simp [entryFrame, mkF, argsToLocals, Value.category]; done) | rfl
def own_Q_own_ch3_2_1 (Z : State) (a : Addr) (b : Addr) (k : ClassId) (sf : Value) (cs : Int32) (v0 : Int32) (v1 : Int32) (v2 : Int32) (h0 : Heap) (n0 : Nat) (v : Option Value) (h : Heap) (L : List Loc) : Prop := (v = some (.int v2)) ∧ (Fr n0 L) ∧ (h = h0)

theorem own_ch3_2_1 (l : Launch) (Z : State) (a0 : Array Value) (hw : oT a0 Z) (ws : List Jvm.Cond) (a : Addr) (b : Addr) (k : ClassId) (sf : Value) (cs : Int32) (v0 : Int32) (v1 : Int32) (v2 : Int32) (h0 : Heap) (n0 : Nat) (Z0 : n0 ≤ h0.size) (Old0 : Old Z n0 h0) (sA : Sta Z Z.heap "java/lang/StringUTF16" "$assertionsDisabled" "Z" (.int 1)) (sH : Sta Z Z.heap "java/lang/StringUTF16" "HI_BYTE_SHIFT" "I" (.int 0)) (sL : Sta Z Z.heap "java/lang/StringUTF16" "LO_BYTE_SHIFT" "I" (.int 8)) (sF : Sta Z Z.heap "jdk/internal/util/Preconditions" "SIOOBE_FORMATTER" "Ljava/util/function/BiFunction;" sf) (hsf : sf.isRef = true) (sC : Sta Z Z.heap "java/lang/String" "COMPACT_STRINGS" "Z" (.int cs)) (hcs : ¬ (cs = (0 : Int32))) (E_a : Exa Z h0 a "java/lang/String") (F_a_value : Fld Z h0 a "java/lang/String" "value" "[B" (.ref b)) (F_a_coder : Fld Z h0 a "java/lang/String" "coder" "B" (.int 1)) (V_b : Arv Z h0 b k .byte (6 : Int32) [(.int (nar .byte ((v0 >>> ((0 : Int32) &&& 31)).toInt8.toInt32))), (.int (nar .byte ((v0 >>> ((8 : Int32) &&& 31)).toInt8.toInt32))), (.int (nar .byte ((v1 >>> ((0 : Int32) &&& 31)).toInt8.toInt32))), (.int (nar .byte ((v1 >>> ((8 : Int32) &&& 31)).toInt8.toInt32))), (.int (nar .byte ((v2 >>> ((0 : Int32) &&& 31)).toInt8.toInt32))), (.int (nar .byte ((v2 >>> ((8 : Int32) &&& 31)).toInt8.toInt32)))] (.int 0)) (hr2 : ¬ v2 < (0 : Int32) ∧ ¬ (65535 : Int32) < v2) :
    oMet l oM22 jdk_42_method_56_code 2 (some .char) ws ⟨4, 0, 0, 53⟩ #[(.ref a), (.int 2)] Z h0 (own_Q_own_ch3_2_1 Z a b k sf cs v0 v1 v2 h0 n0) := by
  refine oB n0 "java/lang/String" rfl (plainFor_of_name own_pn853443214) (fun m => own_ef_own_ch3_2_1 m a (2 : Int32)) ?_
  intro p e s m below meth c s₁ hZ hx hby hlk hret hml hown hnm X0 e0 N0
  show own_Gl _ _ _ _ _ _ _ (s₁.setTop (mkF m 0 #[.val (.ref a), .val (.int 2)] []))
  refine own_st (fun _ k => XS.aloadN X0.here hx rfl (hb hby own_d12_0) rfl rfl k) ?_
  obtain ⟨cq1, kq1, q1a, q1b, q1c⟩ := isOf hZ e0 E_a
  obtain ⟨_, _, ⟨T1, L1, k1, n1⟩, -, X1, ⟨Lc1, hQ1, l1, y1, z1⟩, st1⟩ := X0.virtualBack hx (y := oM4) (z := oM4) hown (mvT hZ (oW hw 66 rfl)) (mvT hZ (oW hw 67 rfl)) (notFace_of_selects (args := #[]) (mvT hZ (oW hw 69 rfl))) (mvT hZ (oW hw 69 rfl)) (mvT hZ (oW hw 68 rfl)) (by decide) (backOf (W := 0) (own_lat1 l Z a0 hw [] a cs h0 n0 Z0 F_a_coder Old0 sC hcs) hZ (oW hw 70 rfl) (oW hw 7 rfl) (by decide) (by decide)) q1a q1c (g := (mkF m 1 #[.val (.ref a), .val (.int 2)] [(.ref a)])) rfl (by rw [hml]; rfl) (Steps.refl _) (argsL := []) (rest := []) (lenOf own_pd691901 rfl) rfl (by show 2 * 0 + _ ≤ _; exact Nat.le_of_eq rfl) (hb hby own_d12_1) (fun _ _ => ⟨rfl, e0, (by decide : 0 + 0 ≤ 0), (by decide : 0 + 0 ≤ 0)⟩)
  dsimp only [Pt.U, Pt.locs, Pt.cells, Pt.slots] at X1 l1 y1 z1 st1 hQ1
  subst l1 y1 z1
  obtain ⟨hh1, eh01⟩ : ∃ z, T1.heap = z := ⟨_, rfl⟩
  rw [eh01] at hQ1
  obtain ⟨rfl, Nq1, eh1⟩ := hQ1
  have N1 := Fr.app N0 Nq1
  refine own_tr st1 ?_
  have e1 : T1.heap = h0 := eh01.trans eh1
  have hd2 : (0 : Int32) = (0 : Int32) := (by decide)
  refine own_st (fun _ k => XS.ifYes X1.here hx rfl (pc0 := 4) (pc' := 16) rfl (hb hby own_d12_4) rfl ((if0 _ _).trans (teq hd2).1) (by decide) (by decide) k) ?_
  refine own_st (fun _ k => XS.aloadN X1.here hx rfl (hb hby own_d12_16) rfl rfl k) ?_
  show own_Gl _ _ _ _ _ _ _ (T1.setTop (mkF m 17 #[.val (.ref a), .val (.int 2)] [(.ref a)]))
  obtain ⟨T3, X3, e3, st3⟩ := getF X1 hx hZ hown (host := "") (Or.inl (oW hw 24 rfl)) Via.refl e1 F_a_value (g := (mkF m 17 #[.val (.ref a), .val (.int 2)] [(.ref a)])) rfl rfl (hb hby own_d12_17)
  refine own_st st3 ?_
  refine own_st (fun _ k => XS.iloadN X3.here hx rfl (hb hby own_d12_20) rfl k) ?_
  obtain ⟨_, _, ⟨T4, L4, k4, n4⟩, -, X4, ⟨Lc4, hQ4, l4, y4, z4⟩, st4⟩ := Jvm.LawKit.callS X3 hx (y := oM21) hown (mvT hZ (oW hw 105 rfl)) (mvT hZ (oW hw 106 rfl)) (mvT hZ (oW hw 47 rfl)) (mvT hZ (oW hw 107 rfl)) (by decide) (backOf (W := 0) (own_uc3_2 l Z a0 hw [] b k sf v0 v1 v2 h0 n0 Z0 Old0 sA sH sL sF hsf V_b hr2) hZ (oW hw 107 rfl) (oW hw 47 rfl) (by decide) (by decide)) (g := (mkF m 21 #[.val (.ref a), .val (.int 2)] [(.int 2), (.ref b)])) rfl (by rw [hml]; rfl) (argsL := [(.ref b), (.int 2)]) (rest := []) (lenOf own_pd128711048 rfl) rfl (by show 2 * 0 + _ ≤ _; exact Nat.le_of_eq rfl) (hb hby own_d12_21) (fun _ _ => ⟨rfl, e3, (by decide : 0 + 0 ≤ 0), (by decide : 0 + 0 ≤ 0)⟩)
  dsimp only [Pt.U, Pt.locs, Pt.cells, Pt.slots] at X4 l4 y4 z4 st4 hQ4
  subst l4 y4 z4
  obtain ⟨hh4, eh04⟩ : ∃ z, T4.heap = z := ⟨_, rfl⟩
  rw [eh04] at hQ4
  obtain ⟨rfl, Nq4, eh4⟩ := hQ4
  have N4 := Fr.app N1 Nq4
  refine own_st st4 ?_
  have e4 : T4.heap = h0 := eh04.trans eh4
  show own_Gl _ _ _ _ _ _ _ (T4.setTop (mkF m 24 #[.val (.ref a), .val (.int 2)] [(.int v2)]))
  exact own_retN X4 hx hlk (t := .char) hret (by simp) (hb hby own_d12_24) e4 ⟨by rw [own_nc _ hr2], N4, rfl⟩ (by decide) (by decide)
theorem own_ef_own_iws3_0 (m : MethodId) (x0 : Addr) : entryFrame m #[(.ref x0)] 2 = mkF m 0 #[.val (.ref x0), .unset] [] := by first | (simp [entryFrame, mkF, argsToLocals, Value.category]; done) | rfl
def own_Q_own_iws3_0 (Z : State) (a : Addr) (b : Addr) (k : ClassId) (sf : Value) (cs : Int32) (v0 : Int32) (v1 : Int32) (v2 : Int32) (h0 : Heap) (n0 : Nat) (v : Option Value) (h : Heap) (L : List Loc) : Prop := (v = some (.int (if own_ws v0 = (0 : Int32) then (0 : Int32) else (if own_ws v1 = (0 : Int32) then (0 : Int32) else (if own_ws v2 = (0 : Int32) then (0 : Int32) else (1 : Int32)))))) ∧ (Fr n0 L) ∧ (h = h0)

theorem own_iws3_0 (l : Launch) (Z : State) (a0 : Array Value) (hw : oT a0 Z) (ws : List Jvm.Cond) (a : Addr) (b : Addr) (k : ClassId) (sf : Value) (cs : Int32) (v0 : Int32) (v1 : Int32) (v2 : Int32) (h0 : Heap) (n0 : Nat) (Z0 : n0 ≤ h0.size) (Old0 : Old Z n0 h0) (sF : Sta Z Z.heap "jdk/internal/util/Preconditions" "SIOOBE_FORMATTER" "Ljava/util/function/BiFunction;" sf) (hsf : sf.isRef = true) (sC : Sta Z Z.heap "java/lang/String" "COMPACT_STRINGS" "Z" (.int cs)) (hcs : ¬ (cs = (0 : Int32))) (E_a : Exa Z h0 a "java/lang/String") (F_a_value : Fld Z h0 a "java/lang/String" "value" "[B" (.ref b)) (F_a_coder : Fld Z h0 a "java/lang/String" "coder" "B" (.int 0)) (V_b : Arv Z h0 b k .byte (3 : Int32) [(.int (nar .byte (v0.toInt8.toInt32))), (.int (nar .byte (v1.toInt8.toInt32))), (.int (nar .byte (v2.toInt8.toInt32)))] (.int 0)) (hr0 : ¬ v0 < (0 : Int32) ∧ ¬ (255 : Int32) < v0) (hr1 : ¬ v1 < (0 : Int32) ∧ ¬ (255 : Int32) < v1) (hr2 : ¬ v2 < (0 : Int32) ∧ ¬ (255 : Int32) < v2) :
    oMet l oM23 prog_157_method_3_code 2 (some .boolean) ws ⟨4, 0, 0, 53⟩ #[(.ref a)] Z h0 (own_Q_own_iws3_0 Z a b k sf cs v0 v1 v2 h0 n0) := by
  refine oB n0 "com/example/brolga/brolga/xml/XmlCharacters" rfl (plainFor_of_name own_pn545058950) (fun m => own_ef_own_iws3_0 m a) ?_
  intro p e s m below meth c s₁ hZ hx hby hlk hret hml hown hnm X0 e0 N0
  show own_Gl _ _ _ _ _ _ _ (s₁.setTop (mkF m 0 #[.val (.ref a), .unset] []))
  refine own_st (fun _ k => XS.iconst X0.here hx rfl (hb hby own_d5_0) k) ?_
  refine own_st (fun _ k => XS.istoreN X0.here hx rfl (hb hby own_d5_1) rfl (l' := #[.val (.ref a), .val (.int 0)]) rfl k) ?_
  refine own_st (fun _ k => XS.iloadN X0.here hx rfl (hb hby own_d5_2) rfl k) ?_
  refine own_st (fun _ k => XS.aloadN X0.here hx rfl (hb hby own_d5_3) rfl rfl k) ?_
  show own_Gl _ _ _ _ _ _ _ (s₁.setTop (mkF m 4 #[.val (.ref a), .val (.int 0)] [(.ref a), (.int 0)]))
  obtain ⟨cq1, kq1, q1a, q1b, q1c⟩ := isOf hZ e0 E_a
  obtain ⟨_, _, ⟨T1, L1, k1, n1⟩, -, X1, ⟨Lc1, hQ1, l1, y1, z1⟩, st1⟩ := X0.interfaceBack hx (xi := oM24) (y := oM5) hown (mvT hZ (oW hw 30 rfl)) (mvT hZ (oW hw 31 rfl)) (mvT hZ (oW hw 32 rfl)) (mvT hZ (oW hw 33 rfl)) (mvT hZ (oW hw 34 rfl)) (mvT hZ (oW hw 35 rfl)) (mvT hZ (oW hw 36 rfl)) (mvT hZ (oW hw 37 rfl)) (by decide) (backOf (W := 1) (own_len3_0 l Z a0 hw [] a b k [(.int (nar .byte (v0.toInt8.toInt32))), (.int (nar .byte (v1.toInt8.toInt32))), (.int (nar .byte (v2.toInt8.toInt32)))] cs h0 n0 Z0 E_a F_a_value F_a_coder V_b Old0 sC hcs) hZ (oW hw 38 rfl) (oW hw 7 rfl) (by decide) (by decide)) q1a q1b q1c (g := (mkF m 4 #[.val (.ref a), .val (.int 0)] [(.ref a), (.int 0)])) rfl (by rw [hml]; rfl) (Steps.refl _) (argsL := []) (rest := [(.int 0)]) (lenOf own_pd691884 rfl) rfl (by show 2 * 0 + _ ≤ _; exact Nat.le_of_eq rfl) (hb hby own_d5_4) (fun _ _ => ⟨rfl, e0, (by decide : 0 + 0 ≤ 0), (by decide : 0 + 0 ≤ 0)⟩)
  dsimp only [Pt.U, Pt.locs, Pt.cells, Pt.slots] at X1 l1 y1 z1 st1 hQ1
  subst l1 y1 z1
  obtain ⟨hh1, eh01⟩ : ∃ z, T1.heap = z := ⟨_, rfl⟩
  rw [eh01] at hQ1
  obtain ⟨rfl, Nq1, eh1⟩ := hQ1
  have N1 := Fr.app N0 Nq1
  refine own_tr st1 ?_
  have e1 : T1.heap = h0 := eh01.trans eh1
  have hd2 : (0 : Int32) < (3 : Int32) := (by decide)
  refine own_st (fun _ k => XS.icmpNo X1.here hx rfl (hb hby own_d5_9) rfl (tlt hd2).2.1 k) ?_
  refine own_st (fun _ k => XS.aloadN X1.here hx rfl (hb hby own_d5_12) rfl rfl k) ?_
  refine own_st (fun _ k => XS.iloadN X1.here hx rfl (hb hby own_d5_13) rfl k) ?_
  show own_Gl _ _ _ _ _ _ _ (T1.setTop (mkF m 14 #[.val (.ref a), .val (.int 0)] [(.int 0), (.ref a)]))
  obtain ⟨cq3, kq3, q3a, q3b, q3c⟩ := isOf hZ e1 E_a
  obtain ⟨_, _, ⟨T3, L3, k3, n3⟩, -, X3, ⟨Lc3, hQ3, l3, y3, z3⟩, st3⟩ := X1.interfaceBack hx (xi := oM25) (y := oM22) hown (mvT hZ (oW hw 58 rfl)) (mvT hZ (oW hw 59 rfl)) (mvT hZ (oW hw 60 rfl)) (mvT hZ (oW hw 61 rfl)) (mvT hZ (oW hw 62 rfl)) (mvT hZ (oW hw 63 rfl)) (mvT hZ (oW hw 64 rfl)) (mvT hZ (oW hw 37 rfl)) (by decide) (backOf (W := 0) (own_ch3_0_0 l Z a0 hw [] a b k sf cs v0 v1 v2 h0 n0 Z0 Old0 sF hsf sC hcs E_a F_a_value F_a_coder V_b hr0) hZ (oW hw 65 rfl) (oW hw 7 rfl) (by decide) (by decide)) q3a q3b q3c (g := (mkF m 14 #[.val (.ref a), .val (.int 0)] [(.int 0), (.ref a)])) rfl (by rw [hml]; rfl) (Steps.refl _) (argsL := [(.int 0)]) (rest := []) (lenOf own_pd91181831 rfl) rfl (by show 2 * 0 + _ ≤ _; exact Nat.le_of_eq rfl) (hb hby own_d5_14) (fun _ _ => ⟨rfl, e1, (by decide : 0 + 0 ≤ 0), (by decide : 0 + 0 ≤ 0)⟩)
  dsimp only [Pt.U, Pt.locs, Pt.cells, Pt.slots] at X3 l3 y3 z3 st3 hQ3
  subst l3 y3 z3
  obtain ⟨hh3, eh03⟩ : ∃ z, T3.heap = z := ⟨_, rfl⟩
  rw [eh03] at hQ3
  obtain ⟨rfl, Nq3, eh3⟩ := hQ3
  have N3 := Fr.app N1 Nq3
  refine own_tr st3 ?_
  have e3 : T3.heap = h0 := eh03.trans eh3
  obtain ⟨_, _, ⟨T4, L4, k4, n4⟩, -, X4, ⟨Lc4, hQ4, l4, y4, z4⟩, st4⟩ := Jvm.LawKit.callS X3 hx (y := oM2) hown (mvT hZ (oW hw 83 rfl)) (mvT hZ (oW hw 84 rfl)) (mvT hZ (oW hw 28 rfl)) (mvT hZ (oW hw 85 rfl)) (by decide) (backOf (W := 0) (own_w2 l Z a0 hw [] v0 h0 n0 Z0 ) hZ (oW hw 85 rfl) (oW hw 28 rfl) (by decide) (by decide)) (g := (mkF m 19 #[.val (.ref a), .val (.int 0)] [(.int v0)])) rfl (by rw [hml]; rfl) (argsL := [(.int v0)]) (rest := []) (lenOf own_pd91078888 rfl) rfl (by show 2 * 0 + _ ≤ _; exact Nat.le_of_eq rfl) (hb hby own_d5_19) (fun _ _ => ⟨rfl, e3, (by decide : 0 + 0 ≤ 0), (by decide : 0 + 0 ≤ 0)⟩)
  dsimp only [Pt.U, Pt.locs, Pt.cells, Pt.slots] at X4 l4 y4 z4 st4 hQ4
  subst l4 y4 z4
  obtain ⟨hh4, eh04⟩ : ∃ z, T4.heap = z := ⟨_, rfl⟩
  rw [eh04] at hQ4
  obtain ⟨rfl, Nq4, eh4⟩ := hQ4
  have N4 := Fr.app N3 Nq4
  refine own_st st4 ?_
  have e4 : T4.heap = h0 := eh04.trans eh4
  by_cases hc22 : (own_ws v0) = (0 : Int32)
  · refine own_st (fun _ k => XS.ifNo X4.here hx rfl (hb hby own_d5_22) rfl ((if0 _ _).trans (teq hc22).2) k) ?_
    refine own_st (fun _ k => XS.iconst X4.here hx rfl (hb hby own_d5_25) k) ?_
    show own_Gl _ _ _ _ _ _ _ (T4.setTop (mkF m 26 #[.val (.ref a), .val (.int 0)] [(.int 0)]))
    exact own_retN X4 hx hlk (t := .boolean) hret (by simp) (hb hby own_d5_26) e4 ⟨by rw [if_pos hc22] <;> rfl, N4, rfl⟩ (by decide) (by decide)
  · refine own_st (fun _ k => XS.ifYes X4.here hx rfl (pc0 := 22) (pc' := 27) rfl (hb hby own_d5_22) rfl ((if0 _ _).trans (feq hc22).2) (by decide) (by decide) k) ?_
    refine own_st (fun _ k => XS.iinc X4.here hx rfl (hb hby own_d5_27) rfl (l' := #[.val (.ref a), .val (.int 1)]) rfl k) ?_
    show own_Gl _ _ _ _ _ _ _ (T4.setTop (mkF m 30 #[.val (.ref a), .val (.int 1)] []))
    refine own_st (fun _ k => XS.goto X4.here hx rfl (pc0 := 30) (pc' := 2) rfl (hb hby own_d5_30) (by decide) (by decide) k) ?_
    refine own_st (fun _ k => XS.iloadN X4.here hx rfl (hb hby own_d5_2) rfl k) ?_
    refine own_st (fun _ k => XS.aloadN X4.here hx rfl (hb hby own_d5_3) rfl rfl k) ?_
    obtain ⟨cq5, kq5, q5a, q5b, q5c⟩ := isOf hZ e4 E_a
    obtain ⟨_, _, ⟨T5, L5, k5, n5⟩, -, X5, ⟨Lc5, hQ5, l5, y5, z5⟩, st5⟩ := X4.interfaceBack hx (xi := oM24) (y := oM5) hown (mvT hZ (oW hw 30 rfl)) (mvT hZ (oW hw 31 rfl)) (mvT hZ (oW hw 32 rfl)) (mvT hZ (oW hw 33 rfl)) (mvT hZ (oW hw 34 rfl)) (mvT hZ (oW hw 35 rfl)) (mvT hZ (oW hw 36 rfl)) (mvT hZ (oW hw 37 rfl)) (by decide) (backOf (W := 1) (own_len3_0 l Z a0 hw [] a b k [(.int (nar .byte (v0.toInt8.toInt32))), (.int (nar .byte (v1.toInt8.toInt32))), (.int (nar .byte (v2.toInt8.toInt32)))] cs h0 n0 Z0 E_a F_a_value F_a_coder V_b Old0 sC hcs) hZ (oW hw 38 rfl) (oW hw 7 rfl) (by decide) (by decide)) q5a q5b q5c (g := (mkF m 4 #[.val (.ref a), .val (.int 1)] [(.ref a), (.int 1)])) rfl (by rw [hml]; rfl) (Steps.refl _) (argsL := []) (rest := [(.int 1)]) (lenOf own_pd691884 rfl) rfl (by show 2 * 0 + _ ≤ _; exact Nat.le_of_eq rfl) (hb hby own_d5_4) (fun _ _ => ⟨rfl, e4, (by decide : 0 + 0 ≤ 0), (by decide : 0 + 0 ≤ 0)⟩)
    dsimp only [Pt.U, Pt.locs, Pt.cells, Pt.slots] at X5 l5 y5 z5 st5 hQ5
    subst l5 y5 z5
    obtain ⟨hh5, eh05⟩ : ∃ z, T5.heap = z := ⟨_, rfl⟩
    rw [eh05] at hQ5
    obtain ⟨rfl, Nq5, eh5⟩ := hQ5
    have N5 := Fr.app N4 Nq5
    refine own_tr st5 ?_
    have e5 : T5.heap = h0 := eh05.trans eh5
    show own_Gl _ _ _ _ _ _ _ (T5.setTop (mkF m 9 #[.val (.ref a), .val (.int 1)] [(.int 3), (.int 1)]))
    have hd6 : (1 : Int32) < (3 : Int32) := (by decide)
    refine own_st (fun _ k => XS.icmpNo X5.here hx rfl (hb hby own_d5_9) rfl (tlt hd6).2.1 k) ?_
    refine own_st (fun _ k => XS.aloadN X5.here hx rfl (hb hby own_d5_12) rfl rfl k) ?_
    refine own_st (fun _ k => XS.iloadN X5.here hx rfl (hb hby own_d5_13) rfl k) ?_
    obtain ⟨cq7, kq7, q7a, q7b, q7c⟩ := isOf hZ e5 E_a
    obtain ⟨_, _, ⟨T7, L7, k7, n7⟩, -, X7, ⟨Lc7, hQ7, l7, y7, z7⟩, st7⟩ := X5.interfaceBack hx (xi := oM25) (y := oM22) hown (mvT hZ (oW hw 58 rfl)) (mvT hZ (oW hw 59 rfl)) (mvT hZ (oW hw 60 rfl)) (mvT hZ (oW hw 61 rfl)) (mvT hZ (oW hw 62 rfl)) (mvT hZ (oW hw 63 rfl)) (mvT hZ (oW hw 64 rfl)) (mvT hZ (oW hw 37 rfl)) (by decide) (backOf (W := 0) (own_ch3_1_0 l Z a0 hw [] a b k sf cs v0 v1 v2 h0 n0 Z0 Old0 sF hsf sC hcs E_a F_a_value F_a_coder V_b hr1) hZ (oW hw 65 rfl) (oW hw 7 rfl) (by decide) (by decide)) q7a q7b q7c (g := (mkF m 14 #[.val (.ref a), .val (.int 1)] [(.int 1), (.ref a)])) rfl (by rw [hml]; rfl) (Steps.refl _) (argsL := [(.int 1)]) (rest := []) (lenOf own_pd91181831 rfl) rfl (by show 2 * 0 + _ ≤ _; exact Nat.le_of_eq rfl) (hb hby own_d5_14) (fun _ _ => ⟨rfl, e5, (by decide : 0 + 0 ≤ 0), (by decide : 0 + 0 ≤ 0)⟩)
    dsimp only [Pt.U, Pt.locs, Pt.cells, Pt.slots] at X7 l7 y7 z7 st7 hQ7
    subst l7 y7 z7
    obtain ⟨hh7, eh07⟩ : ∃ z, T7.heap = z := ⟨_, rfl⟩
    rw [eh07] at hQ7
    obtain ⟨rfl, Nq7, eh7⟩ := hQ7
    have N7 := Fr.app N5 Nq7
    refine own_tr st7 ?_
    have e7 : T7.heap = h0 := eh07.trans eh7
    show own_Gl _ _ _ _ _ _ _ (T7.setTop (mkF m 19 #[.val (.ref a), .val (.int 1)] [(.int v1)]))
    obtain ⟨_, _, ⟨T8, L8, k8, n8⟩, -, X8, ⟨Lc8, hQ8, l8, y8, z8⟩, st8⟩ := Jvm.LawKit.callS X7 hx (y := oM2) hown (mvT hZ (oW hw 83 rfl)) (mvT hZ (oW hw 84 rfl)) (mvT hZ (oW hw 28 rfl)) (mvT hZ (oW hw 85 rfl)) (by decide) (backOf (W := 0) (own_w2 l Z a0 hw [] v1 h0 n0 Z0 ) hZ (oW hw 85 rfl) (oW hw 28 rfl) (by decide) (by decide)) (g := (mkF m 19 #[.val (.ref a), .val (.int 1)] [(.int v1)])) rfl (by rw [hml]; rfl) (argsL := [(.int v1)]) (rest := []) (lenOf own_pd91078888 rfl) rfl (by show 2 * 0 + _ ≤ _; exact Nat.le_of_eq rfl) (hb hby own_d5_19) (fun _ _ => ⟨rfl, e7, (by decide : 0 + 0 ≤ 0), (by decide : 0 + 0 ≤ 0)⟩)
    dsimp only [Pt.U, Pt.locs, Pt.cells, Pt.slots] at X8 l8 y8 z8 st8 hQ8
    subst l8 y8 z8
    obtain ⟨hh8, eh08⟩ : ∃ z, T8.heap = z := ⟨_, rfl⟩
    rw [eh08] at hQ8
    obtain ⟨rfl, Nq8, eh8⟩ := hQ8
    have N8 := Fr.app N7 Nq8
    refine own_st st8 ?_
    have e8 : T8.heap = h0 := eh08.trans eh8
    by_cases hc22_9 : (own_ws v1) = (0 : Int32)
    · refine own_st (fun _ k => XS.ifNo X8.here hx rfl (hb hby own_d5_22) rfl ((if0 _ _).trans (teq hc22_9).2) k) ?_
      refine own_st (fun _ k => XS.iconst X8.here hx rfl (hb hby own_d5_25) k) ?_
      show own_Gl _ _ _ _ _ _ _ (T8.setTop (mkF m 26 #[.val (.ref a), .val (.int 1)] [(.int 0)]))
      exact own_retN X8 hx hlk (t := .boolean) hret (by simp) (hb hby own_d5_26) e8 ⟨by rw [if_neg hc22, if_pos hc22_9] <;> rfl, N8, rfl⟩ (by decide) (by decide)
    · refine own_st (fun _ k => XS.ifYes X8.here hx rfl (pc0 := 22) (pc' := 27) rfl (hb hby own_d5_22) rfl ((if0 _ _).trans (feq hc22_9).2) (by decide) (by decide) k) ?_
      refine own_st (fun _ k => XS.iinc X8.here hx rfl (hb hby own_d5_27) rfl (l' := #[.val (.ref a), .val (.int 2)]) rfl k) ?_
      refine own_st (fun _ k => XS.goto X8.here hx rfl (pc0 := 30) (pc' := 2) rfl (hb hby own_d5_30) (by decide) (by decide) k) ?_
      show own_Gl _ _ _ _ _ _ _ (T8.setTop (mkF m 2 #[.val (.ref a), .val (.int 2)] []))
      refine own_st (fun _ k => XS.iloadN X8.here hx rfl (hb hby own_d5_2) rfl k) ?_
      refine own_st (fun _ k => XS.aloadN X8.here hx rfl (hb hby own_d5_3) rfl rfl k) ?_
      obtain ⟨cq10, kq10, q10a, q10b, q10c⟩ := isOf hZ e8 E_a
      obtain ⟨_, _, ⟨T10, L10, k10, n10⟩, -, X10, ⟨Lc10, hQ10, l10, y10, z10⟩, st10⟩ := X8.interfaceBack hx (xi := oM24) (y := oM5) hown (mvT hZ (oW hw 30 rfl)) (mvT hZ (oW hw 31 rfl)) (mvT hZ (oW hw 32 rfl)) (mvT hZ (oW hw 33 rfl)) (mvT hZ (oW hw 34 rfl)) (mvT hZ (oW hw 35 rfl)) (mvT hZ (oW hw 36 rfl)) (mvT hZ (oW hw 37 rfl)) (by decide) (backOf (W := 1) (own_len3_0 l Z a0 hw [] a b k [(.int (nar .byte (v0.toInt8.toInt32))), (.int (nar .byte (v1.toInt8.toInt32))), (.int (nar .byte (v2.toInt8.toInt32)))] cs h0 n0 Z0 E_a F_a_value F_a_coder V_b Old0 sC hcs) hZ (oW hw 38 rfl) (oW hw 7 rfl) (by decide) (by decide)) q10a q10b q10c (g := (mkF m 4 #[.val (.ref a), .val (.int 2)] [(.ref a), (.int 2)])) rfl (by rw [hml]; rfl) (Steps.refl _) (argsL := []) (rest := [(.int 2)]) (lenOf own_pd691884 rfl) rfl (by show 2 * 0 + _ ≤ _; exact Nat.le_of_eq rfl) (hb hby own_d5_4) (fun _ _ => ⟨rfl, e8, (by decide : 0 + 0 ≤ 0), (by decide : 0 + 0 ≤ 0)⟩)
      dsimp only [Pt.U, Pt.locs, Pt.cells, Pt.slots] at X10 l10 y10 z10 st10 hQ10
      subst l10 y10 z10
      obtain ⟨hh10, eh010⟩ : ∃ z, T10.heap = z := ⟨_, rfl⟩
      rw [eh010] at hQ10
      obtain ⟨rfl, Nq10, eh10⟩ := hQ10
      have N10 := Fr.app N8 Nq10
      refine own_tr st10 ?_
      have e10 : T10.heap = h0 := eh010.trans eh10
      have hd11 : (2 : Int32) < (3 : Int32) := (by decide)
      refine own_st (fun _ k => XS.icmpNo X10.here hx rfl (hb hby own_d5_9) rfl (tlt hd11).2.1 k) ?_
      show own_Gl _ _ _ _ _ _ _ (T10.setTop (mkF m 12 #[.val (.ref a), .val (.int 2)] []))
      refine own_st (fun _ k => XS.aloadN X10.here hx rfl (hb hby own_d5_12) rfl rfl k) ?_
      refine own_st (fun _ k => XS.iloadN X10.here hx rfl (hb hby own_d5_13) rfl k) ?_
      obtain ⟨cq12, kq12, q12a, q12b, q12c⟩ := isOf hZ e10 E_a
      obtain ⟨_, _, ⟨T12, L12, k12, n12⟩, -, X12, ⟨Lc12, hQ12, l12, y12, z12⟩, st12⟩ := X10.interfaceBack hx (xi := oM25) (y := oM22) hown (mvT hZ (oW hw 58 rfl)) (mvT hZ (oW hw 59 rfl)) (mvT hZ (oW hw 60 rfl)) (mvT hZ (oW hw 61 rfl)) (mvT hZ (oW hw 62 rfl)) (mvT hZ (oW hw 63 rfl)) (mvT hZ (oW hw 64 rfl)) (mvT hZ (oW hw 37 rfl)) (by decide) (backOf (W := 0) (own_ch3_2_0 l Z a0 hw [] a b k sf cs v0 v1 v2 h0 n0 Z0 Old0 sF hsf sC hcs E_a F_a_value F_a_coder V_b hr2) hZ (oW hw 65 rfl) (oW hw 7 rfl) (by decide) (by decide)) q12a q12b q12c (g := (mkF m 14 #[.val (.ref a), .val (.int 2)] [(.int 2), (.ref a)])) rfl (by rw [hml]; rfl) (Steps.refl _) (argsL := [(.int 2)]) (rest := []) (lenOf own_pd91181831 rfl) rfl (by show 2 * 0 + _ ≤ _; exact Nat.le_of_eq rfl) (hb hby own_d5_14) (fun _ _ => ⟨rfl, e10, (by decide : 0 + 0 ≤ 0), (by decide : 0 + 0 ≤ 0)⟩)
      dsimp only [Pt.U, Pt.locs, Pt.cells, Pt.slots] at X12 l12 y12 z12 st12 hQ12
      subst l12 y12 z12
      obtain ⟨hh12, eh012⟩ : ∃ z, T12.heap = z := ⟨_, rfl⟩
      rw [eh012] at hQ12
      obtain ⟨rfl, Nq12, eh12⟩ := hQ12
      have N12 := Fr.app N10 Nq12
      refine own_tr st12 ?_
      have e12 : T12.heap = h0 := eh012.trans eh12
      obtain ⟨_, _, ⟨T13, L13, k13, n13⟩, -, X13, ⟨Lc13, hQ13, l13, y13, z13⟩, st13⟩ := Jvm.LawKit.callS X12 hx (y := oM2) hown (mvT hZ (oW hw 83 rfl)) (mvT hZ (oW hw 84 rfl)) (mvT hZ (oW hw 28 rfl)) (mvT hZ (oW hw 85 rfl)) (by decide) (backOf (W := 0) (own_w2 l Z a0 hw [] v2 h0 n0 Z0 ) hZ (oW hw 85 rfl) (oW hw 28 rfl) (by decide) (by decide)) (g := (mkF m 19 #[.val (.ref a), .val (.int 2)] [(.int v2)])) rfl (by rw [hml]; rfl) (argsL := [(.int v2)]) (rest := []) (lenOf own_pd91078888 rfl) rfl (by show 2 * 0 + _ ≤ _; exact Nat.le_of_eq rfl) (hb hby own_d5_19) (fun _ _ => ⟨rfl, e12, (by decide : 0 + 0 ≤ 0), (by decide : 0 + 0 ≤ 0)⟩)
      dsimp only [Pt.U, Pt.locs, Pt.cells, Pt.slots] at X13 l13 y13 z13 st13 hQ13
      subst l13 y13 z13
      obtain ⟨hh13, eh013⟩ : ∃ z, T13.heap = z := ⟨_, rfl⟩
      rw [eh013] at hQ13
      obtain ⟨rfl, Nq13, eh13⟩ := hQ13
      have N13 := Fr.app N12 Nq13
      refine own_st st13 ?_
      have e13 : T13.heap = h0 := eh013.trans eh13
      show own_Gl _ _ _ _ _ _ _ (T13.setTop (mkF m 22 #[.val (.ref a), .val (.int 2)] [(.int (own_ws v2))]))
      by_cases hc22_14 : (own_ws v2) = (0 : Int32)
      · refine own_st (fun _ k => XS.ifNo X13.here hx rfl (hb hby own_d5_22) rfl ((if0 _ _).trans (teq hc22_14).2) k) ?_
        refine own_st (fun _ k => XS.iconst X13.here hx rfl (hb hby own_d5_25) k) ?_
        show own_Gl _ _ _ _ _ _ _ (T13.setTop (mkF m 26 #[.val (.ref a), .val (.int 2)] [(.int 0)]))
        exact own_retN X13 hx hlk (t := .boolean) hret (by simp) (hb hby own_d5_26) e13 ⟨by rw [if_neg hc22, if_neg hc22_9, if_pos hc22_14] <;> rfl, N13, rfl⟩ (by decide) (by decide)
      · refine own_st (fun _ k => XS.ifYes X13.here hx rfl (pc0 := 22) (pc' := 27) rfl (hb hby own_d5_22) rfl ((if0 _ _).trans (feq hc22_14).2) (by decide) (by decide) k) ?_
        refine own_st (fun _ k => XS.iinc X13.here hx rfl (hb hby own_d5_27) rfl (l' := #[.val (.ref a), .val (.int 3)]) rfl k) ?_
        refine own_st (fun _ k => XS.goto X13.here hx rfl (pc0 := 30) (pc' := 2) rfl (hb hby own_d5_30) (by decide) (by decide) k) ?_
        refine own_st (fun _ k => XS.iloadN X13.here hx rfl (hb hby own_d5_2) rfl k) ?_
        show own_Gl _ _ _ _ _ _ _ (T13.setTop (mkF m 3 #[.val (.ref a), .val (.int 3)] [(.int 3)]))
        refine own_st (fun _ k => XS.aloadN X13.here hx rfl (hb hby own_d5_3) rfl rfl k) ?_
        obtain ⟨cq15, kq15, q15a, q15b, q15c⟩ := isOf hZ e13 E_a
        obtain ⟨_, _, ⟨T15, L15, k15, n15⟩, -, X15, ⟨Lc15, hQ15, l15, y15, z15⟩, st15⟩ := X13.interfaceBack hx (xi := oM24) (y := oM5) hown (mvT hZ (oW hw 30 rfl)) (mvT hZ (oW hw 31 rfl)) (mvT hZ (oW hw 32 rfl)) (mvT hZ (oW hw 33 rfl)) (mvT hZ (oW hw 34 rfl)) (mvT hZ (oW hw 35 rfl)) (mvT hZ (oW hw 36 rfl)) (mvT hZ (oW hw 37 rfl)) (by decide) (backOf (W := 1) (own_len3_0 l Z a0 hw [] a b k [(.int (nar .byte (v0.toInt8.toInt32))), (.int (nar .byte (v1.toInt8.toInt32))), (.int (nar .byte (v2.toInt8.toInt32)))] cs h0 n0 Z0 E_a F_a_value F_a_coder V_b Old0 sC hcs) hZ (oW hw 38 rfl) (oW hw 7 rfl) (by decide) (by decide)) q15a q15b q15c (g := (mkF m 4 #[.val (.ref a), .val (.int 3)] [(.ref a), (.int 3)])) rfl (by rw [hml]; rfl) (Steps.refl _) (argsL := []) (rest := [(.int 3)]) (lenOf own_pd691884 rfl) rfl (by show 2 * 0 + _ ≤ _; exact Nat.le_of_eq rfl) (hb hby own_d5_4) (fun _ _ => ⟨rfl, e13, (by decide : 0 + 0 ≤ 0), (by decide : 0 + 0 ≤ 0)⟩)
        dsimp only [Pt.U, Pt.locs, Pt.cells, Pt.slots] at X15 l15 y15 z15 st15 hQ15
        subst l15 y15 z15
        obtain ⟨hh15, eh015⟩ : ∃ z, T15.heap = z := ⟨_, rfl⟩
        rw [eh015] at hQ15
        obtain ⟨rfl, Nq15, eh15⟩ := hQ15
        have N15 := Fr.app N13 Nq15
        refine own_tr st15 ?_
        have e15 : T15.heap = h0 := eh015.trans eh15
        have hd16 : ¬ ((3 : Int32) < (3 : Int32)) := (by decide)
        refine own_st (fun _ k => XS.icmpYes X15.here hx rfl (pc0 := 9) (pc' := 33) rfl (hb hby own_d5_9) rfl (flt hd16).2.1 (by decide) (by decide) k) ?_
        refine own_st (fun _ k => XS.iconst X15.here hx rfl (hb hby own_d5_33) k) ?_
        show own_Gl _ _ _ _ _ _ _ (T15.setTop (mkF m 34 #[.val (.ref a), .val (.int 3)] [(.int 1)]))
        exact own_retN X15 hx hlk (t := .boolean) hret (by simp) (hb hby own_d5_34) e15 ⟨by rw [if_neg hc22, if_neg hc22_9, if_neg hc22_14] <;> rfl, N15, rfl⟩ (by decide) (by decide)
theorem own_ef_own_iws3_1 (m : MethodId) (x0 : Addr) : entryFrame m #[(.ref x0)] 2 = mkF m 0 #[.val (.ref x0), .unset] [] := by first | (simp [entryFrame, mkF, argsToLocals, Value.category]; done) | rfl
def own_Q_own_iws3_1 (Z : State) (a : Addr) (b : Addr) (k : ClassId) (sf : Value) (cs : Int32) (v0 : Int32) (v1 : Int32) (v2 : Int32) (h0 : Heap) (n0 : Nat) (v : Option Value) (h : Heap) (L : List Loc) : Prop := (v = some (.int (if own_ws v0 = (0 : Int32) then (0 : Int32) else (if own_ws v1 = (0 : Int32) then (0 : Int32) else (if own_ws v2 = (0 : Int32) then (0 : Int32) else (1 : Int32)))))) ∧ (Fr n0 L) ∧ (h = h0)

theorem own_iws3_1 (l : Launch) (Z : State) (a0 : Array Value) (hw : oT a0 Z) (ws : List Jvm.Cond) (a : Addr) (b : Addr) (k : ClassId) (sf : Value) (cs : Int32) (v0 : Int32) (v1 : Int32) (v2 : Int32) (h0 : Heap) (n0 : Nat) (Z0 : n0 ≤ h0.size) (Old0 : Old Z n0 h0) (sA : Sta Z Z.heap "java/lang/StringUTF16" "$assertionsDisabled" "Z" (.int 1)) (sH : Sta Z Z.heap "java/lang/StringUTF16" "HI_BYTE_SHIFT" "I" (.int 0)) (sL : Sta Z Z.heap "java/lang/StringUTF16" "LO_BYTE_SHIFT" "I" (.int 8)) (sF : Sta Z Z.heap "jdk/internal/util/Preconditions" "SIOOBE_FORMATTER" "Ljava/util/function/BiFunction;" sf) (hsf : sf.isRef = true) (sC : Sta Z Z.heap "java/lang/String" "COMPACT_STRINGS" "Z" (.int cs)) (hcs : ¬ (cs = (0 : Int32))) (E_a : Exa Z h0 a "java/lang/String") (F_a_value : Fld Z h0 a "java/lang/String" "value" "[B" (.ref b)) (F_a_coder : Fld Z h0 a "java/lang/String" "coder" "B" (.int 1)) (V_b : Arv Z h0 b k .byte (6 : Int32) [(.int (nar .byte ((v0 >>> ((0 : Int32) &&& 31)).toInt8.toInt32))), (.int (nar .byte ((v0 >>> ((8 : Int32) &&& 31)).toInt8.toInt32))), (.int (nar .byte ((v1 >>> ((0 : Int32) &&& 31)).toInt8.toInt32))), (.int (nar .byte ((v1 >>> ((8 : Int32) &&& 31)).toInt8.toInt32))), (.int (nar .byte ((v2 >>> ((0 : Int32) &&& 31)).toInt8.toInt32))), (.int (nar .byte ((v2 >>> ((8 : Int32) &&& 31)).toInt8.toInt32)))] (.int 0)) (hr0 : ¬ v0 < (0 : Int32) ∧ ¬ (65535 : Int32) < v0) (hr1 : ¬ v1 < (0 : Int32) ∧ ¬ (65535 : Int32) < v1) (hr2 : ¬ v2 < (0 : Int32) ∧ ¬ (65535 : Int32) < v2) :
    oMet l oM23 prog_157_method_3_code 2 (some .boolean) ws ⟨5, 0, 0, 66⟩ #[(.ref a)] Z h0 (own_Q_own_iws3_1 Z a b k sf cs v0 v1 v2 h0 n0) := by
  refine oB n0 "com/example/brolga/brolga/xml/XmlCharacters" rfl (plainFor_of_name own_pn545058950) (fun m => own_ef_own_iws3_1 m a) ?_
  intro p e s m below meth c s₁ hZ hx hby hlk hret hml hown hnm X0 e0 N0
  show own_Gl _ _ _ _ _ _ _ (s₁.setTop (mkF m 0 #[.val (.ref a), .unset] []))
  refine own_st (fun _ k => XS.iconst X0.here hx rfl (hb hby own_d5_0) k) ?_
  refine own_st (fun _ k => XS.istoreN X0.here hx rfl (hb hby own_d5_1) rfl (l' := #[.val (.ref a), .val (.int 0)]) rfl k) ?_
  refine own_st (fun _ k => XS.iloadN X0.here hx rfl (hb hby own_d5_2) rfl k) ?_
  refine own_st (fun _ k => XS.aloadN X0.here hx rfl (hb hby own_d5_3) rfl rfl k) ?_
  show own_Gl _ _ _ _ _ _ _ (s₁.setTop (mkF m 4 #[.val (.ref a), .val (.int 0)] [(.ref a), (.int 0)]))
  obtain ⟨cq1, kq1, q1a, q1b, q1c⟩ := isOf hZ e0 E_a
  obtain ⟨_, _, ⟨T1, L1, k1, n1⟩, -, X1, ⟨Lc1, hQ1, l1, y1, z1⟩, st1⟩ := X0.interfaceBack hx (xi := oM24) (y := oM5) hown (mvT hZ (oW hw 30 rfl)) (mvT hZ (oW hw 31 rfl)) (mvT hZ (oW hw 32 rfl)) (mvT hZ (oW hw 33 rfl)) (mvT hZ (oW hw 34 rfl)) (mvT hZ (oW hw 35 rfl)) (mvT hZ (oW hw 36 rfl)) (mvT hZ (oW hw 37 rfl)) (by decide) (backOf (W := 1) (own_len3_1 l Z a0 hw [] a b k [(.int (nar .byte ((v0 >>> ((0 : Int32) &&& 31)).toInt8.toInt32))), (.int (nar .byte ((v0 >>> ((8 : Int32) &&& 31)).toInt8.toInt32))), (.int (nar .byte ((v1 >>> ((0 : Int32) &&& 31)).toInt8.toInt32))), (.int (nar .byte ((v1 >>> ((8 : Int32) &&& 31)).toInt8.toInt32))), (.int (nar .byte ((v2 >>> ((0 : Int32) &&& 31)).toInt8.toInt32))), (.int (nar .byte ((v2 >>> ((8 : Int32) &&& 31)).toInt8.toInt32)))] cs h0 n0 Z0 E_a F_a_value F_a_coder V_b Old0 sC hcs) hZ (oW hw 38 rfl) (oW hw 7 rfl) (by decide) (by decide)) q1a q1b q1c (g := (mkF m 4 #[.val (.ref a), .val (.int 0)] [(.ref a), (.int 0)])) rfl (by rw [hml]; rfl) (Steps.refl _) (argsL := []) (rest := [(.int 0)]) (lenOf own_pd691884 rfl) rfl (by show 2 * 0 + _ ≤ _; exact Nat.le_of_eq rfl) (hb hby own_d5_4) (fun _ _ => ⟨rfl, e0, (by decide : 0 + 0 ≤ 0), (by decide : 0 + 0 ≤ 0)⟩)
  dsimp only [Pt.U, Pt.locs, Pt.cells, Pt.slots] at X1 l1 y1 z1 st1 hQ1
  subst l1 y1 z1
  obtain ⟨hh1, eh01⟩ : ∃ z, T1.heap = z := ⟨_, rfl⟩
  rw [eh01] at hQ1
  obtain ⟨rfl, Nq1, eh1⟩ := hQ1
  have N1 := Fr.app N0 Nq1
  refine own_tr st1 ?_
  have e1 : T1.heap = h0 := eh01.trans eh1
  have hd2 : (0 : Int32) < (3 : Int32) := (by decide)
  refine own_st (fun _ k => XS.icmpNo X1.here hx rfl (hb hby own_d5_9) rfl (tlt hd2).2.1 k) ?_
  refine own_st (fun _ k => XS.aloadN X1.here hx rfl (hb hby own_d5_12) rfl rfl k) ?_
  refine own_st (fun _ k => XS.iloadN X1.here hx rfl (hb hby own_d5_13) rfl k) ?_
  show own_Gl _ _ _ _ _ _ _ (T1.setTop (mkF m 14 #[.val (.ref a), .val (.int 0)] [(.int 0), (.ref a)]))
  obtain ⟨cq3, kq3, q3a, q3b, q3c⟩ := isOf hZ e1 E_a
  obtain ⟨_, _, ⟨T3, L3, k3, n3⟩, -, X3, ⟨Lc3, hQ3, l3, y3, z3⟩, st3⟩ := X1.interfaceBack hx (xi := oM25) (y := oM22) hown (mvT hZ (oW hw 58 rfl)) (mvT hZ (oW hw 59 rfl)) (mvT hZ (oW hw 60 rfl)) (mvT hZ (oW hw 61 rfl)) (mvT hZ (oW hw 62 rfl)) (mvT hZ (oW hw 63 rfl)) (mvT hZ (oW hw 64 rfl)) (mvT hZ (oW hw 37 rfl)) (by decide) (backOf (W := 0) (own_ch3_0_1 l Z a0 hw [] a b k sf cs v0 v1 v2 h0 n0 Z0 Old0 sA sH sL sF hsf sC hcs E_a F_a_value F_a_coder V_b hr0) hZ (oW hw 65 rfl) (oW hw 7 rfl) (by decide) (by decide)) q3a q3b q3c (g := (mkF m 14 #[.val (.ref a), .val (.int 0)] [(.int 0), (.ref a)])) rfl (by rw [hml]; rfl) (Steps.refl _) (argsL := [(.int 0)]) (rest := []) (lenOf own_pd91181831 rfl) rfl (by show 2 * 0 + _ ≤ _; exact Nat.le_of_eq rfl) (hb hby own_d5_14) (fun _ _ => ⟨rfl, e1, (by decide : 0 + 0 ≤ 0), (by decide : 0 + 0 ≤ 0)⟩)
  dsimp only [Pt.U, Pt.locs, Pt.cells, Pt.slots] at X3 l3 y3 z3 st3 hQ3
  subst l3 y3 z3
  obtain ⟨hh3, eh03⟩ : ∃ z, T3.heap = z := ⟨_, rfl⟩
  rw [eh03] at hQ3
  obtain ⟨rfl, Nq3, eh3⟩ := hQ3
  have N3 := Fr.app N1 Nq3
  refine own_tr st3 ?_
  have e3 : T3.heap = h0 := eh03.trans eh3
  obtain ⟨_, _, ⟨T4, L4, k4, n4⟩, -, X4, ⟨Lc4, hQ4, l4, y4, z4⟩, st4⟩ := Jvm.LawKit.callS X3 hx (y := oM2) hown (mvT hZ (oW hw 83 rfl)) (mvT hZ (oW hw 84 rfl)) (mvT hZ (oW hw 28 rfl)) (mvT hZ (oW hw 85 rfl)) (by decide) (backOf (W := 0) (own_w2 l Z a0 hw [] v0 h0 n0 Z0 ) hZ (oW hw 85 rfl) (oW hw 28 rfl) (by decide) (by decide)) (g := (mkF m 19 #[.val (.ref a), .val (.int 0)] [(.int v0)])) rfl (by rw [hml]; rfl) (argsL := [(.int v0)]) (rest := []) (lenOf own_pd91078888 rfl) rfl (by show 2 * 0 + _ ≤ _; exact Nat.le_of_eq rfl) (hb hby own_d5_19) (fun _ _ => ⟨rfl, e3, (by decide : 0 + 0 ≤ 0), (by decide : 0 + 0 ≤ 0)⟩)
  dsimp only [Pt.U, Pt.locs, Pt.cells, Pt.slots] at X4 l4 y4 z4 st4 hQ4
  subst l4 y4 z4
  obtain ⟨hh4, eh04⟩ : ∃ z, T4.heap = z := ⟨_, rfl⟩
  rw [eh04] at hQ4
  obtain ⟨rfl, Nq4, eh4⟩ := hQ4
  have N4 := Fr.app N3 Nq4
  refine own_st st4 ?_
  have e4 : T4.heap = h0 := eh04.trans eh4
  by_cases hc22 : (own_ws v0) = (0 : Int32)
  · refine own_st (fun _ k => XS.ifNo X4.here hx rfl (hb hby own_d5_22) rfl ((if0 _ _).trans (teq hc22).2) k) ?_
    refine own_st (fun _ k => XS.iconst X4.here hx rfl (hb hby own_d5_25) k) ?_
    show own_Gl _ _ _ _ _ _ _ (T4.setTop (mkF m 26 #[.val (.ref a), .val (.int 0)] [(.int 0)]))
    exact own_retN X4 hx hlk (t := .boolean) hret (by simp) (hb hby own_d5_26) e4 ⟨by rw [if_pos hc22] <;> rfl, N4, rfl⟩ (by decide) (by decide)
  · refine own_st (fun _ k => XS.ifYes X4.here hx rfl (pc0 := 22) (pc' := 27) rfl (hb hby own_d5_22) rfl ((if0 _ _).trans (feq hc22).2) (by decide) (by decide) k) ?_
    refine own_st (fun _ k => XS.iinc X4.here hx rfl (hb hby own_d5_27) rfl (l' := #[.val (.ref a), .val (.int 1)]) rfl k) ?_
    show own_Gl _ _ _ _ _ _ _ (T4.setTop (mkF m 30 #[.val (.ref a), .val (.int 1)] []))
    refine own_st (fun _ k => XS.goto X4.here hx rfl (pc0 := 30) (pc' := 2) rfl (hb hby own_d5_30) (by decide) (by decide) k) ?_
    refine own_st (fun _ k => XS.iloadN X4.here hx rfl (hb hby own_d5_2) rfl k) ?_
    refine own_st (fun _ k => XS.aloadN X4.here hx rfl (hb hby own_d5_3) rfl rfl k) ?_
    obtain ⟨cq5, kq5, q5a, q5b, q5c⟩ := isOf hZ e4 E_a
    obtain ⟨_, _, ⟨T5, L5, k5, n5⟩, -, X5, ⟨Lc5, hQ5, l5, y5, z5⟩, st5⟩ := X4.interfaceBack hx (xi := oM24) (y := oM5) hown (mvT hZ (oW hw 30 rfl)) (mvT hZ (oW hw 31 rfl)) (mvT hZ (oW hw 32 rfl)) (mvT hZ (oW hw 33 rfl)) (mvT hZ (oW hw 34 rfl)) (mvT hZ (oW hw 35 rfl)) (mvT hZ (oW hw 36 rfl)) (mvT hZ (oW hw 37 rfl)) (by decide) (backOf (W := 1) (own_len3_1 l Z a0 hw [] a b k [(.int (nar .byte ((v0 >>> ((0 : Int32) &&& 31)).toInt8.toInt32))), (.int (nar .byte ((v0 >>> ((8 : Int32) &&& 31)).toInt8.toInt32))), (.int (nar .byte ((v1 >>> ((0 : Int32) &&& 31)).toInt8.toInt32))), (.int (nar .byte ((v1 >>> ((8 : Int32) &&& 31)).toInt8.toInt32))), (.int (nar .byte ((v2 >>> ((0 : Int32) &&& 31)).toInt8.toInt32))), (.int (nar .byte ((v2 >>> ((8 : Int32) &&& 31)).toInt8.toInt32)))] cs h0 n0 Z0 E_a F_a_value F_a_coder V_b Old0 sC hcs) hZ (oW hw 38 rfl) (oW hw 7 rfl) (by decide) (by decide)) q5a q5b q5c (g := (mkF m 4 #[.val (.ref a), .val (.int 1)] [(.ref a), (.int 1)])) rfl (by rw [hml]; rfl) (Steps.refl _) (argsL := []) (rest := [(.int 1)]) (lenOf own_pd691884 rfl) rfl (by show 2 * 0 + _ ≤ _; exact Nat.le_of_eq rfl) (hb hby own_d5_4) (fun _ _ => ⟨rfl, e4, (by decide : 0 + 0 ≤ 0), (by decide : 0 + 0 ≤ 0)⟩)
    dsimp only [Pt.U, Pt.locs, Pt.cells, Pt.slots] at X5 l5 y5 z5 st5 hQ5
    subst l5 y5 z5
    obtain ⟨hh5, eh05⟩ : ∃ z, T5.heap = z := ⟨_, rfl⟩
    rw [eh05] at hQ5
    obtain ⟨rfl, Nq5, eh5⟩ := hQ5
    have N5 := Fr.app N4 Nq5
    refine own_tr st5 ?_
    have e5 : T5.heap = h0 := eh05.trans eh5
    show own_Gl _ _ _ _ _ _ _ (T5.setTop (mkF m 9 #[.val (.ref a), .val (.int 1)] [(.int 3), (.int 1)]))
    have hd6 : (1 : Int32) < (3 : Int32) := (by decide)
    refine own_st (fun _ k => XS.icmpNo X5.here hx rfl (hb hby own_d5_9) rfl (tlt hd6).2.1 k) ?_
    refine own_st (fun _ k => XS.aloadN X5.here hx rfl (hb hby own_d5_12) rfl rfl k) ?_
    refine own_st (fun _ k => XS.iloadN X5.here hx rfl (hb hby own_d5_13) rfl k) ?_
    obtain ⟨cq7, kq7, q7a, q7b, q7c⟩ := isOf hZ e5 E_a
    obtain ⟨_, _, ⟨T7, L7, k7, n7⟩, -, X7, ⟨Lc7, hQ7, l7, y7, z7⟩, st7⟩ := X5.interfaceBack hx (xi := oM25) (y := oM22) hown (mvT hZ (oW hw 58 rfl)) (mvT hZ (oW hw 59 rfl)) (mvT hZ (oW hw 60 rfl)) (mvT hZ (oW hw 61 rfl)) (mvT hZ (oW hw 62 rfl)) (mvT hZ (oW hw 63 rfl)) (mvT hZ (oW hw 64 rfl)) (mvT hZ (oW hw 37 rfl)) (by decide) (backOf (W := 0) (own_ch3_1_1 l Z a0 hw [] a b k sf cs v0 v1 v2 h0 n0 Z0 Old0 sA sH sL sF hsf sC hcs E_a F_a_value F_a_coder V_b hr1) hZ (oW hw 65 rfl) (oW hw 7 rfl) (by decide) (by decide)) q7a q7b q7c (g := (mkF m 14 #[.val (.ref a), .val (.int 1)] [(.int 1), (.ref a)])) rfl (by rw [hml]; rfl) (Steps.refl _) (argsL := [(.int 1)]) (rest := []) (lenOf own_pd91181831 rfl) rfl (by show 2 * 0 + _ ≤ _; exact Nat.le_of_eq rfl) (hb hby own_d5_14) (fun _ _ => ⟨rfl, e5, (by decide : 0 + 0 ≤ 0), (by decide : 0 + 0 ≤ 0)⟩)
    dsimp only [Pt.U, Pt.locs, Pt.cells, Pt.slots] at X7 l7 y7 z7 st7 hQ7
    subst l7 y7 z7
    obtain ⟨hh7, eh07⟩ : ∃ z, T7.heap = z := ⟨_, rfl⟩
    rw [eh07] at hQ7
    obtain ⟨rfl, Nq7, eh7⟩ := hQ7
    have N7 := Fr.app N5 Nq7
    refine own_tr st7 ?_
    have e7 : T7.heap = h0 := eh07.trans eh7
    show own_Gl _ _ _ _ _ _ _ (T7.setTop (mkF m 19 #[.val (.ref a), .val (.int 1)] [(.int v1)]))
    obtain ⟨_, _, ⟨T8, L8, k8, n8⟩, -, X8, ⟨Lc8, hQ8, l8, y8, z8⟩, st8⟩ := Jvm.LawKit.callS X7 hx (y := oM2) hown (mvT hZ (oW hw 83 rfl)) (mvT hZ (oW hw 84 rfl)) (mvT hZ (oW hw 28 rfl)) (mvT hZ (oW hw 85 rfl)) (by decide) (backOf (W := 0) (own_w2 l Z a0 hw [] v1 h0 n0 Z0 ) hZ (oW hw 85 rfl) (oW hw 28 rfl) (by decide) (by decide)) (g := (mkF m 19 #[.val (.ref a), .val (.int 1)] [(.int v1)])) rfl (by rw [hml]; rfl) (argsL := [(.int v1)]) (rest := []) (lenOf own_pd91078888 rfl) rfl (by show 2 * 0 + _ ≤ _; exact Nat.le_of_eq rfl) (hb hby own_d5_19) (fun _ _ => ⟨rfl, e7, (by decide : 0 + 0 ≤ 0), (by decide : 0 + 0 ≤ 0)⟩)
    dsimp only [Pt.U, Pt.locs, Pt.cells, Pt.slots] at X8 l8 y8 z8 st8 hQ8
    subst l8 y8 z8
    obtain ⟨hh8, eh08⟩ : ∃ z, T8.heap = z := ⟨_, rfl⟩
    rw [eh08] at hQ8
    obtain ⟨rfl, Nq8, eh8⟩ := hQ8
    have N8 := Fr.app N7 Nq8
    refine own_st st8 ?_
    have e8 : T8.heap = h0 := eh08.trans eh8
    by_cases hc22_9 : (own_ws v1) = (0 : Int32)
    · refine own_st (fun _ k => XS.ifNo X8.here hx rfl (hb hby own_d5_22) rfl ((if0 _ _).trans (teq hc22_9).2) k) ?_
      refine own_st (fun _ k => XS.iconst X8.here hx rfl (hb hby own_d5_25) k) ?_
      show own_Gl _ _ _ _ _ _ _ (T8.setTop (mkF m 26 #[.val (.ref a), .val (.int 1)] [(.int 0)]))
      exact own_retN X8 hx hlk (t := .boolean) hret (by simp) (hb hby own_d5_26) e8 ⟨by rw [if_neg hc22, if_pos hc22_9] <;> rfl, N8, rfl⟩ (by decide) (by decide)
    · refine own_st (fun _ k => XS.ifYes X8.here hx rfl (pc0 := 22) (pc' := 27) rfl (hb hby own_d5_22) rfl ((if0 _ _).trans (feq hc22_9).2) (by decide) (by decide) k) ?_
      refine own_st (fun _ k => XS.iinc X8.here hx rfl (hb hby own_d5_27) rfl (l' := #[.val (.ref a), .val (.int 2)]) rfl k) ?_
      refine own_st (fun _ k => XS.goto X8.here hx rfl (pc0 := 30) (pc' := 2) rfl (hb hby own_d5_30) (by decide) (by decide) k) ?_
      show own_Gl _ _ _ _ _ _ _ (T8.setTop (mkF m 2 #[.val (.ref a), .val (.int 2)] []))
      refine own_st (fun _ k => XS.iloadN X8.here hx rfl (hb hby own_d5_2) rfl k) ?_
      refine own_st (fun _ k => XS.aloadN X8.here hx rfl (hb hby own_d5_3) rfl rfl k) ?_
      obtain ⟨cq10, kq10, q10a, q10b, q10c⟩ := isOf hZ e8 E_a
      obtain ⟨_, _, ⟨T10, L10, k10, n10⟩, -, X10, ⟨Lc10, hQ10, l10, y10, z10⟩, st10⟩ := X8.interfaceBack hx (xi := oM24) (y := oM5) hown (mvT hZ (oW hw 30 rfl)) (mvT hZ (oW hw 31 rfl)) (mvT hZ (oW hw 32 rfl)) (mvT hZ (oW hw 33 rfl)) (mvT hZ (oW hw 34 rfl)) (mvT hZ (oW hw 35 rfl)) (mvT hZ (oW hw 36 rfl)) (mvT hZ (oW hw 37 rfl)) (by decide) (backOf (W := 1) (own_len3_1 l Z a0 hw [] a b k [(.int (nar .byte ((v0 >>> ((0 : Int32) &&& 31)).toInt8.toInt32))), (.int (nar .byte ((v0 >>> ((8 : Int32) &&& 31)).toInt8.toInt32))), (.int (nar .byte ((v1 >>> ((0 : Int32) &&& 31)).toInt8.toInt32))), (.int (nar .byte ((v1 >>> ((8 : Int32) &&& 31)).toInt8.toInt32))), (.int (nar .byte ((v2 >>> ((0 : Int32) &&& 31)).toInt8.toInt32))), (.int (nar .byte ((v2 >>> ((8 : Int32) &&& 31)).toInt8.toInt32)))] cs h0 n0 Z0 E_a F_a_value F_a_coder V_b Old0 sC hcs) hZ (oW hw 38 rfl) (oW hw 7 rfl) (by decide) (by decide)) q10a q10b q10c (g := (mkF m 4 #[.val (.ref a), .val (.int 2)] [(.ref a), (.int 2)])) rfl (by rw [hml]; rfl) (Steps.refl _) (argsL := []) (rest := [(.int 2)]) (lenOf own_pd691884 rfl) rfl (by show 2 * 0 + _ ≤ _; exact Nat.le_of_eq rfl) (hb hby own_d5_4) (fun _ _ => ⟨rfl, e8, (by decide : 0 + 0 ≤ 0), (by decide : 0 + 0 ≤ 0)⟩)
      dsimp only [Pt.U, Pt.locs, Pt.cells, Pt.slots] at X10 l10 y10 z10 st10 hQ10
      subst l10 y10 z10
      obtain ⟨hh10, eh010⟩ : ∃ z, T10.heap = z := ⟨_, rfl⟩
      rw [eh010] at hQ10
      obtain ⟨rfl, Nq10, eh10⟩ := hQ10
      have N10 := Fr.app N8 Nq10
      refine own_tr st10 ?_
      have e10 : T10.heap = h0 := eh010.trans eh10
      have hd11 : (2 : Int32) < (3 : Int32) := (by decide)
      refine own_st (fun _ k => XS.icmpNo X10.here hx rfl (hb hby own_d5_9) rfl (tlt hd11).2.1 k) ?_
      show own_Gl _ _ _ _ _ _ _ (T10.setTop (mkF m 12 #[.val (.ref a), .val (.int 2)] []))
      refine own_st (fun _ k => XS.aloadN X10.here hx rfl (hb hby own_d5_12) rfl rfl k) ?_
      refine own_st (fun _ k => XS.iloadN X10.here hx rfl (hb hby own_d5_13) rfl k) ?_
      obtain ⟨cq12, kq12, q12a, q12b, q12c⟩ := isOf hZ e10 E_a
      obtain ⟨_, _, ⟨T12, L12, k12, n12⟩, -, X12, ⟨Lc12, hQ12, l12, y12, z12⟩, st12⟩ := X10.interfaceBack hx (xi := oM25) (y := oM22) hown (mvT hZ (oW hw 58 rfl)) (mvT hZ (oW hw 59 rfl)) (mvT hZ (oW hw 60 rfl)) (mvT hZ (oW hw 61 rfl)) (mvT hZ (oW hw 62 rfl)) (mvT hZ (oW hw 63 rfl)) (mvT hZ (oW hw 64 rfl)) (mvT hZ (oW hw 37 rfl)) (by decide) (backOf (W := 0) (own_ch3_2_1 l Z a0 hw [] a b k sf cs v0 v1 v2 h0 n0 Z0 Old0 sA sH sL sF hsf sC hcs E_a F_a_value F_a_coder V_b hr2) hZ (oW hw 65 rfl) (oW hw 7 rfl) (by decide) (by decide)) q12a q12b q12c (g := (mkF m 14 #[.val (.ref a), .val (.int 2)] [(.int 2), (.ref a)])) rfl (by rw [hml]; rfl) (Steps.refl _) (argsL := [(.int 2)]) (rest := []) (lenOf own_pd91181831 rfl) rfl (by show 2 * 0 + _ ≤ _; exact Nat.le_of_eq rfl) (hb hby own_d5_14) (fun _ _ => ⟨rfl, e10, (by decide : 0 + 0 ≤ 0), (by decide : 0 + 0 ≤ 0)⟩)
      dsimp only [Pt.U, Pt.locs, Pt.cells, Pt.slots] at X12 l12 y12 z12 st12 hQ12
      subst l12 y12 z12
      obtain ⟨hh12, eh012⟩ : ∃ z, T12.heap = z := ⟨_, rfl⟩
      rw [eh012] at hQ12
      obtain ⟨rfl, Nq12, eh12⟩ := hQ12
      have N12 := Fr.app N10 Nq12
      refine own_tr st12 ?_
      have e12 : T12.heap = h0 := eh012.trans eh12
      obtain ⟨_, _, ⟨T13, L13, k13, n13⟩, -, X13, ⟨Lc13, hQ13, l13, y13, z13⟩, st13⟩ := Jvm.LawKit.callS X12 hx (y := oM2) hown (mvT hZ (oW hw 83 rfl)) (mvT hZ (oW hw 84 rfl)) (mvT hZ (oW hw 28 rfl)) (mvT hZ (oW hw 85 rfl)) (by decide) (backOf (W := 0) (own_w2 l Z a0 hw [] v2 h0 n0 Z0 ) hZ (oW hw 85 rfl) (oW hw 28 rfl) (by decide) (by decide)) (g := (mkF m 19 #[.val (.ref a), .val (.int 2)] [(.int v2)])) rfl (by rw [hml]; rfl) (argsL := [(.int v2)]) (rest := []) (lenOf own_pd91078888 rfl) rfl (by show 2 * 0 + _ ≤ _; exact Nat.le_of_eq rfl) (hb hby own_d5_19) (fun _ _ => ⟨rfl, e12, (by decide : 0 + 0 ≤ 0), (by decide : 0 + 0 ≤ 0)⟩)
      dsimp only [Pt.U, Pt.locs, Pt.cells, Pt.slots] at X13 l13 y13 z13 st13 hQ13
      subst l13 y13 z13
      obtain ⟨hh13, eh013⟩ : ∃ z, T13.heap = z := ⟨_, rfl⟩
      rw [eh013] at hQ13
      obtain ⟨rfl, Nq13, eh13⟩ := hQ13
      have N13 := Fr.app N12 Nq13
      refine own_st st13 ?_
      have e13 : T13.heap = h0 := eh013.trans eh13
      show own_Gl _ _ _ _ _ _ _ (T13.setTop (mkF m 22 #[.val (.ref a), .val (.int 2)] [(.int (own_ws v2))]))
      by_cases hc22_14 : (own_ws v2) = (0 : Int32)
      · refine own_st (fun _ k => XS.ifNo X13.here hx rfl (hb hby own_d5_22) rfl ((if0 _ _).trans (teq hc22_14).2) k) ?_
        refine own_st (fun _ k => XS.iconst X13.here hx rfl (hb hby own_d5_25) k) ?_
        show own_Gl _ _ _ _ _ _ _ (T13.setTop (mkF m 26 #[.val (.ref a), .val (.int 2)] [(.int 0)]))
        exact own_retN X13 hx hlk (t := .boolean) hret (by simp) (hb hby own_d5_26) e13 ⟨by rw [if_neg hc22, if_neg hc22_9, if_pos hc22_14] <;> rfl, N13, rfl⟩ (by decide) (by decide)
      · refine own_st (fun _ k => XS.ifYes X13.here hx rfl (pc0 := 22) (pc' := 27) rfl (hb hby own_d5_22) rfl ((if0 _ _).trans (feq hc22_14).2) (by decide) (by decide) k) ?_
        refine own_st (fun _ k => XS.iinc X13.here hx rfl (hb hby own_d5_27) rfl (l' := #[.val (.ref a), .val (.int 3)]) rfl k) ?_
        refine own_st (fun _ k => XS.goto X13.here hx rfl (pc0 := 30) (pc' := 2) rfl (hb hby own_d5_30) (by decide) (by decide) k) ?_
        refine own_st (fun _ k => XS.iloadN X13.here hx rfl (hb hby own_d5_2) rfl k) ?_
        show own_Gl _ _ _ _ _ _ _ (T13.setTop (mkF m 3 #[.val (.ref a), .val (.int 3)] [(.int 3)]))
        refine own_st (fun _ k => XS.aloadN X13.here hx rfl (hb hby own_d5_3) rfl rfl k) ?_
        obtain ⟨cq15, kq15, q15a, q15b, q15c⟩ := isOf hZ e13 E_a
        obtain ⟨_, _, ⟨T15, L15, k15, n15⟩, -, X15, ⟨Lc15, hQ15, l15, y15, z15⟩, st15⟩ := X13.interfaceBack hx (xi := oM24) (y := oM5) hown (mvT hZ (oW hw 30 rfl)) (mvT hZ (oW hw 31 rfl)) (mvT hZ (oW hw 32 rfl)) (mvT hZ (oW hw 33 rfl)) (mvT hZ (oW hw 34 rfl)) (mvT hZ (oW hw 35 rfl)) (mvT hZ (oW hw 36 rfl)) (mvT hZ (oW hw 37 rfl)) (by decide) (backOf (W := 1) (own_len3_1 l Z a0 hw [] a b k [(.int (nar .byte ((v0 >>> ((0 : Int32) &&& 31)).toInt8.toInt32))), (.int (nar .byte ((v0 >>> ((8 : Int32) &&& 31)).toInt8.toInt32))), (.int (nar .byte ((v1 >>> ((0 : Int32) &&& 31)).toInt8.toInt32))), (.int (nar .byte ((v1 >>> ((8 : Int32) &&& 31)).toInt8.toInt32))), (.int (nar .byte ((v2 >>> ((0 : Int32) &&& 31)).toInt8.toInt32))), (.int (nar .byte ((v2 >>> ((8 : Int32) &&& 31)).toInt8.toInt32)))] cs h0 n0 Z0 E_a F_a_value F_a_coder V_b Old0 sC hcs) hZ (oW hw 38 rfl) (oW hw 7 rfl) (by decide) (by decide)) q15a q15b q15c (g := (mkF m 4 #[.val (.ref a), .val (.int 3)] [(.ref a), (.int 3)])) rfl (by rw [hml]; rfl) (Steps.refl _) (argsL := []) (rest := [(.int 3)]) (lenOf own_pd691884 rfl) rfl (by show 2 * 0 + _ ≤ _; exact Nat.le_of_eq rfl) (hb hby own_d5_4) (fun _ _ => ⟨rfl, e13, (by decide : 0 + 0 ≤ 0), (by decide : 0 + 0 ≤ 0)⟩)
        dsimp only [Pt.U, Pt.locs, Pt.cells, Pt.slots] at X15 l15 y15 z15 st15 hQ15
        subst l15 y15 z15
        obtain ⟨hh15, eh015⟩ : ∃ z, T15.heap = z := ⟨_, rfl⟩
        rw [eh015] at hQ15
        obtain ⟨rfl, Nq15, eh15⟩ := hQ15
        have N15 := Fr.app N13 Nq15
        refine own_tr st15 ?_
        have e15 : T15.heap = h0 := eh015.trans eh15
        have hd16 : ¬ ((3 : Int32) < (3 : Int32)) := (by decide)
        refine own_st (fun _ k => XS.icmpYes X15.here hx rfl (pc0 := 9) (pc' := 33) rfl (hb hby own_d5_9) rfl (flt hd16).2.1 (by decide) (by decide) k) ?_
        refine own_st (fun _ k => XS.iconst X15.here hx rfl (hb hby own_d5_33) k) ?_
        show own_Gl _ _ _ _ _ _ _ (T15.setTop (mkF m 34 #[.val (.ref a), .val (.int 3)] [(.int 1)]))
        exact own_retN X15 hx hlk (t := .boolean) hret (by simp) (hb hby own_d5_34) e15 ⟨by rw [if_neg hc22, if_neg hc22_9, if_neg hc22_14] <;> rfl, N15, rfl⟩ (by decide) (by decide)
theorem own_ef_own_iws0 (m : MethodId) (x0 : Addr) : entryFrame m #[(.ref x0)] 2 = mkF m 0 #[.val (.ref x0), .unset] [] := by first | (simp [entryFrame, mkF, argsToLocals, Value.category]; done) | rfl
def own_Q_own_iws0 (Z : State) (a : Addr) (b : Addr) (k : ClassId) (cs : Int32) (h0 : Heap) (n0 : Nat) (v : Option Value) (h : Heap) (L : List Loc) : Prop := (v = some (.int 1)) ∧ (Fr n0 L) ∧ (h = h0)

theorem own_iws0 (l : Launch) (Z : State) (a0 : Array Value) (hw : oT a0 Z) (ws : List Jvm.Cond) (a : Addr) (b : Addr) (k : ClassId) (cs : Int32) (h0 : Heap) (n0 : Nat) (Z0 : n0 ≤ h0.size) (Old0 : Old Z n0 h0) (sC : Sta Z Z.heap "java/lang/String" "COMPACT_STRINGS" "Z" (.int cs)) (hcs : ¬ (cs = (0 : Int32))) (E_a : Exa Z h0 a "java/lang/String") (F_a_value : Fld Z h0 a "java/lang/String" "value" "[B" (.ref b)) (F_a_coder : Fld Z h0 a "java/lang/String" "coder" "B" (.int 0)) (V_b : Arv Z h0 b k .byte (0 : Int32) [] (.int 0)) :
    oMet l oM23 prog_157_method_3_code 2 (some .boolean) ws ⟨2, 0, 0, 26⟩ #[(.ref a)] Z h0 (own_Q_own_iws0 Z a b k cs h0 n0) := by
  refine oB n0 "com/example/brolga/brolga/xml/XmlCharacters" rfl (plainFor_of_name own_pn545058950) (fun m => own_ef_own_iws0 m a) ?_
  intro p e s m below meth c s₁ hZ hx hby hlk hret hml hown hnm X0 e0 N0
  show own_Gl _ _ _ _ _ _ _ (s₁.setTop (mkF m 0 #[.val (.ref a), .unset] []))
  refine own_st (fun _ k => XS.iconst X0.here hx rfl (hb hby own_d5_0) k) ?_
  refine own_st (fun _ k => XS.istoreN X0.here hx rfl (hb hby own_d5_1) rfl (l' := #[.val (.ref a), .val (.int 0)]) rfl k) ?_
  refine own_st (fun _ k => XS.iloadN X0.here hx rfl (hb hby own_d5_2) rfl k) ?_
  refine own_st (fun _ k => XS.aloadN X0.here hx rfl (hb hby own_d5_3) rfl rfl k) ?_
  show own_Gl _ _ _ _ _ _ _ (s₁.setTop (mkF m 4 #[.val (.ref a), .val (.int 0)] [(.ref a), (.int 0)]))
  obtain ⟨cq1, kq1, q1a, q1b, q1c⟩ := isOf hZ e0 E_a
  obtain ⟨_, _, ⟨T1, L1, k1, n1⟩, -, X1, ⟨Lc1, hQ1, l1, y1, z1⟩, st1⟩ := X0.interfaceBack hx (xi := oM24) (y := oM5) hown (mvT hZ (oW hw 30 rfl)) (mvT hZ (oW hw 31 rfl)) (mvT hZ (oW hw 32 rfl)) (mvT hZ (oW hw 33 rfl)) (mvT hZ (oW hw 34 rfl)) (mvT hZ (oW hw 35 rfl)) (mvT hZ (oW hw 36 rfl)) (mvT hZ (oW hw 37 rfl)) (by decide) (backOf (W := 1) (own_len0_0 l Z a0 hw [] a b k [] cs h0 n0 Z0 E_a F_a_value F_a_coder V_b Old0 sC hcs) hZ (oW hw 38 rfl) (oW hw 7 rfl) (by decide) (by decide)) q1a q1b q1c (g := (mkF m 4 #[.val (.ref a), .val (.int 0)] [(.ref a), (.int 0)])) rfl (by rw [hml]; rfl) (Steps.refl _) (argsL := []) (rest := [(.int 0)]) (lenOf own_pd691884 rfl) rfl (by show 2 * 0 + _ ≤ _; exact Nat.le_of_eq rfl) (hb hby own_d5_4) (fun _ _ => ⟨rfl, e0, (by decide : 0 + 0 ≤ 0), (by decide : 0 + 0 ≤ 0)⟩)
  dsimp only [Pt.U, Pt.locs, Pt.cells, Pt.slots] at X1 l1 y1 z1 st1 hQ1
  subst l1 y1 z1
  obtain ⟨hh1, eh01⟩ : ∃ z, T1.heap = z := ⟨_, rfl⟩
  rw [eh01] at hQ1
  obtain ⟨rfl, Nq1, eh1⟩ := hQ1
  have N1 := Fr.app N0 Nq1
  refine own_tr st1 ?_
  have e1 : T1.heap = h0 := eh01.trans eh1
  have hd2 : ¬ ((0 : Int32) < (0 : Int32)) := (by decide)
  refine own_st (fun _ k => XS.icmpYes X1.here hx rfl (pc0 := 9) (pc' := 33) rfl (hb hby own_d5_9) rfl (flt hd2).2.1 (by decide) (by decide) k) ?_
  refine own_st (fun _ k => XS.iconst X1.here hx rfl (hb hby own_d5_33) k) ?_
  show own_Gl _ _ _ _ _ _ _ (T1.setTop (mkF m 34 #[.val (.ref a), .val (.int 0)] [(.int 1)]))
  exact own_retN X1 hx hlk (t := .boolean) hret (by simp) (hb hby own_d5_34) e1 ⟨rfl, N1, rfl⟩ (by decide) (by decide)
theorem own_d3_8 : decode jdk_42_method_149_code 8 = .ok (.aload_n 0, 1) := by decide +kernel
theorem own_d3_9 : decode jdk_42_method_149_code 9 = .ok (.ldc 7, 2) := by decide +kernel
theorem own_d3_11 : decode jdk_42_method_149_code 11 = .ok (.getfield 9, 3) := by decide +kernel
theorem own_d3_14 : decode jdk_42_method_149_code 14 = .ok (.putfield 9, 3) := by decide +kernel
theorem own_d3_17 : decode jdk_42_method_149_code 17 = .ok (.aload_n 0, 1) := by decide +kernel
theorem own_d3_18 : decode jdk_42_method_149_code 18 = .ok (.ldc 7, 2) := by decide +kernel
theorem own_d3_20 : decode jdk_42_method_149_code 20 = .ok (.getfield 15, 3) := by decide +kernel
theorem own_d3_23 : decode jdk_42_method_149_code 23 = .ok (.putfield 15, 3) := by decide +kernel
theorem own_d3_26 : decode jdk_42_method_149_code 26 = .ok (.return_, 1) := by decide +kernel
theorem own_ef_own_i4_0 (m : MethodId) (x0 : Addr) (x1 : Addr) (x2 : Int32) (x3 : Int32) : entryFrame m #[(.ref x0), (.ref x1), (.int x2), (.int x3), .null] 6 = mkF m 0 #[.val (.ref x0), .val (.ref x1), .val (.int x2), .val (.int x3), .val .null, .unset] [] := by first | (simp [entryFrame, mkF, argsToLocals, Value.category]; done) | rfl
def own_Q_own_i4_0 (Z : State) (a : Addr) (b : Addr) (h0 : Heap) (n0 : Nat) (v : Option Value) (h : Heap) (L : List Loc) : Prop := ∃ (r : Addr) (kr : ClassId), (v = none) ∧ (Fr n0 L) ∧ (Keep h0 h [a]) ∧ (Arv Z h r kr .byte (0 : Int32) [] (.int 0)) ∧ (Fld Z h a "java/lang/String" "value" "[B" (.ref r)) ∧ (Fld Z h a "java/lang/String" "coder" "B" (.int 0))

theorem own_i4_0 (l : Launch) (Z : State) (a0 : Array Value) (hw : oT a0 Z) (ws : List Jvm.Cond) (a : Addr) (b : Addr) (h0 : Heap) (n0 : Nat) (Z0 : n0 ≤ h0.size) (E_a : Exa Z h0 a "java/lang/String") (F_a_value : Fld Z h0 a "java/lang/String" "value" "[B" .null) (F_a_coder : Fld Z h0 a "java/lang/String" "coder" "B" (.int 0)) (g_a : n0 ≤ a) (Old0 : Old Z n0 h0) (hch : Jvm.Lit.constHeld Z "java/lang/String" 7) (hcw : Jvm.Lit.compactW.before a0 Z = true) :
    MetFree l oM16 (head1 (Jvm.Cond.code oM16 jdk_42_method_149_code 6 none :: ws) ⟨1, 2, 4, 12⟩) (fun xa xU => xa = #[(.ref a), (.ref b), (.int 0), (.int 0), .null] ∧ (Z.Warmed39 xU.vm ∧ xU.vm.interned = Z.vm.interned) ∧ xU.heap = h0) (fun _ _ _ _ _ => True) (fun _ xU xo xV => ∃ v L, xo = .returned v ∧ own_Q_own_i4_0 Z a b h0 n0 v xV.heap L ∧ ReturnedEndW xU xo xV L 2 4) := by
  refine MetFree.of_bodySF (plainFor_of_name own_pn853443214) hisR ?_
  intro p e s m args below meth c s₁ Bd hml0 hP hK
  obtain ⟨rfl, ⟨hZ, hI⟩, hh⟩ := hP
  have hx := Bd.exec
  have hby := Bd.bytes
  have hlk := Bd.notSynchronized
  have hret := Bd.returns
  have hml : c.maxLocals = 6 := hml0
  have hown : s.vm.findClass "java/lang/String" = some m.cls := findClass_of_methodNamed Bd.named
  have hnm := (name_of_methodNamed Bd.named Bd.method).1
  have X0 : Stand p l e ⟨1, 2, 4, 12⟩ s m #[(.ref a), (.ref b), (.int 0), (.int 0), .null] below meth c s₁ [] 0 0 := Stand.of_body Bd
  have e0 : s₁.heap = h0 := by rw [← hh, Bd.state]; rfl
  have N0 := Fr.nil n0
  show own_GlW p e below s (own_Q_own_i4_0 Z a b h0 n0) 2 4 _
  refine own_castW (own_ef_own_i4_0 m a b (0 : Int32) (0 : Int32)) ?_
  show own_GlW _ _ _ _ _ _ _ (s₁.setTop (mkF m 0 #[.val (.ref a), .val (.ref b), .val (.int 0), .val (.int 0), .val .null, .unset] []))
  refine own_stW (fun _ k => XS.aloadN X0.here hx rfl (hb hby own_d3_0) rfl rfl k) ?_
  obtain ⟨T1, X1, e1, st1⟩ := initO X0 hx hZ hown (oW hw 15 rfl) (oW hw 16 rfl) (oW hw 17 rfl) e0 (g := (mkF m 1 #[.val (.ref a), .val (.ref b), .val (.int 0), .val (.int 0), .val .null, .unset] [(.ref a)])) rfl (by rw [hml]; rfl) rfl (hb hby own_d3_1) (by decide) (W := 0) (by show 2 * 0 + _ ≤ _; exact Nat.le_of_eq rfl) (by decide)
  refine own_stW st1 ?_
  refine own_stW (fun _ k => XS.iloadN X1.here hx rfl (hb hby own_d3_4) rfl k) ?_
  have hd2 : (0 : Int32) = (0 : Int32) := (by decide)
  refine own_stW (fun _ k => XS.ifNo X1.here hx rfl (hb hby own_d3_5) rfl ((if0 _ _).trans (teq hd2).2) k) ?_
  show own_GlW _ _ _ _ _ _ _ (T1.setTop (mkF m 8 #[.val (.ref a), .val (.ref b), .val (.int 0), .val (.int 0), .val .null, .unset] []))
  refine own_stW (fun _ k => XS.aloadN X1.here hx rfl (hb hby own_d3_8) rfl rfl k) ?_
  obtain ⟨a9, T9, h9, k9, b9, kk9, X9, e9, E9, hS9, hk9, hZ9, hown9, A9, FC9, FV9, AV9, -, -, -, Lt9, st9⟩ := ldcSVL (s := s) (vm0 := s.vm) (Ts := []) (text := "") X1 hx hZ hown (oW hw 18 rfl) (own_wS hw) e1 ((State.WarmedH.refl s).since 0) (Nat.zero_le _) (Fr.nil _) (fun b cl q => by rw [hh]; exact Old0.2.2 b cl q) (own_IB hI) (by simp) hch hcw (vs := []) (z := (0 : Int32)) ⟨by simp, by simp⟩ (by decide) (by decide) (g := (mkF m 9 #[.val (.ref a), .val (.ref b), .val (.int 0), .val (.int 0), .val .null, .unset] [(.ref a)])) rfl (hb hby own_d3_9) (n := 0) (by simp) (by decide) (by decide) (by decide)
  refine own_stW st9 ?_
  have Zs4 : n0 ≤ h9.size := Nat.le_trans Z0 E9.1
  have hZ := hZ9
  have hown := hown9
  have hS := hS9
  have hk := hk9
  have f5 := (F_a_value.ext E9)
  have ne9 : a9 ≠ a := Fld.ne FV9 f5 (by simp)
  have f6 := (E_a.ext E9)
  have nb9 : a ≠ b9 := Exa.neArv f6 AV9 (oW hw 6 rfl)
  obtain ⟨T7, X7, e7, st7⟩ := getF X9 hx hZ hown (host := "") (Or.inl (oW hw 24 rfl)) Via.refl e9 FV9 (g := (mkF m 11 #[.val (.ref a), .val (.ref b), .val (.int 0), .val (.int 0), .val .null, .unset] [(.ref a9), (.ref a)])) rfl rfl (hb hby own_d3_11)
  refine own_stW st7 ?_
  obtain ⟨T8, h8, X8, e8, W8, st8⟩ := putF X7 hx hZ hown (host := "") (Or.inl (oW hw 24 rfl)) Via.refl e7 f5 f6 (Or.inr ⟨(oW hw 20 rfl), rfl, hnm⟩) (oW hw 6 rfl) (ty := (.array .byte)) (by decide) rfl rfl (g := (mkF m 14 #[.val (.ref a), .val (.ref b), .val (.int 0), .val (.int 0), .val .null, .unset] [(.ref b9), (.ref a)])) rfl rfl (hb hby own_d3_14)
  have N8 := Fr.snoc X8 N0 g_a
  refine own_stW st8 ?_
  have Zs9 : n0 ≤ h8.size := Nat.le_trans Zs4 (Keep.of_wr W8).1
  have hk : _ ≤ h8.size := Nat.le_trans hk (Keep.of_wr W8).1
  have Fw8 := f5.same W8
  show own_GlW _ _ _ _ _ _ _ (T8.setTop (mkF m 17 #[.val (.ref a), .val (.ref b), .val (.int 0), .val (.int 0), .val .null, .unset] []))
  refine own_stW (fun _ k => XS.aloadN X8.here hx rfl (hb hby own_d3_17) rfl rfl k) ?_
  refine own_stW (ldcAgain (s := s) (vm0 := T9.vm) (text := "") X8 hx hZ hown (oW hw 18 rfl) Lt9 (g := (mkF m 18 #[.val (.ref a), .val (.ref b), .val (.int 0), .val (.int 0), .val .null, .unset] [(.ref a)])) rfl (hb hby own_d3_18)) ?_
  have f10 := (FC9.other W8 (Or.inl ne9))
  obtain ⟨T11, X11, e11, st11⟩ := getF X8 hx hZ hown (host := "") (Or.inl (oW hw 25 rfl)) Via.refl e8 f10 (g := (mkF m 20 #[.val (.ref a), .val (.ref b), .val (.int 0), .val (.int 0), .val .null, .unset] [(.ref a9), (.ref a)])) rfl rfl (hb hby own_d3_20)
  refine own_stW st11 ?_
  have f12 := (f6.wr W8)
  have f13 := ((F_a_coder.ext E9).other W8 (Or.inr (slot_ne (Or.inr (oW hw 21 rfl)) (Or.inr (oW hw 20 rfl)) (by decide) (t := .byte) (t' := (.array .byte)) (by decide) (by decide))))
  obtain ⟨T14, h14, X14, e14, W14, st14⟩ := putFN X11 hx hZ hown (oW hw 25 rfl) Via.refl e11 f13 f12 (Or.inr ⟨(oW hw 21 rfl), rfl, hnm⟩) (oW hw 6 rfl) (ty := .byte) (v' := (.int (nar .byte (0 : Int32)))) (by decide) rfl (fits_nar_byte _) (g := (mkF m 23 #[.val (.ref a), .val (.ref b), .val (.int 0), .val (.int 0), .val .null, .unset] [(.int 0), (.ref a)])) rfl rfl (hb hby own_d3_23)
  have N14 := Fr.snoc X14 N8 g_a
  refine own_stW st14 ?_
  have Zs15 : n0 ≤ h14.size := Nat.le_trans Zs9 (Keep.of_wr W14).1
  have hk : _ ≤ h14.size := Nat.le_trans hk (Keep.of_wr W14).1
  have Fw14 := f13.same W14
  show own_GlW _ _ _ _ _ _ _ (T14.setTop (mkF m 26 #[.val (.ref a), .val (.ref b), .val (.int 0), .val (.int 0), .val .null, .unset] []))
  have K16 : Keep h0 h14 [a] := ((((Keep.refl h0 [a]).ext E9).wr W8 (Or.inl (List.mem_of_getElem? (i := 0) rfl))).wr W14 (Or.inl (List.mem_of_getElem? (i := 0) rfl)))
  have f17 := ((AV9.other W8 (Ne.symm nb9)).other W14 (Ne.symm nb9))
  have f18 := (Fw8.other W14 (Or.inr (slot_ne (Or.inr (oW hw 20 rfl)) (Or.inr (oW hw 21 rfl)) (by decide) (t := (.array .byte)) (t' := .byte) (by decide) (by decide))))
  exact own_retVW X14 hS hk hx hlk hret (hb hby own_d3_26) e14 ⟨b9, kk9, rfl, N14, K16, f17, f18, Fw14⟩ (by decide) (by decide)
theorem own_ef_own_i1_0 (m : MethodId) (x0 : Addr) (x1 : Addr) : entryFrame m #[(.ref x0), (.ref x1)] 2 = mkF m 0 #[.val (.ref x0), .val (.ref x1)] [] := by first | (simp [entryFrame, mkF, argsToLocals, Value.category]; done) | rfl
def own_Q_own_i1_0 (Z : State) (a : Addr) (b : Addr) (k : ClassId) (h0 : Heap) (n0 : Nat) (v : Option Value) (h : Heap) (L : List Loc) : Prop := ∃ (r : Addr) (kr : ClassId), (v = none) ∧ (Fr n0 L) ∧ (Keep h0 h [a]) ∧ (Arv Z h r kr .byte (0 : Int32) [] (.int 0)) ∧ (Fld Z h a "java/lang/String" "value" "[B" (.ref r)) ∧ (Fld Z h a "java/lang/String" "coder" "B" (.int 0))

theorem own_i1_0 (l : Launch) (Z : State) (a0 : Array Value) (hw : oT a0 Z) (ws : List Jvm.Cond) (a : Addr) (b : Addr) (k : ClassId) (h0 : Heap) (n0 : Nat) (Z0 : n0 ≤ h0.size) (E_a : Exa Z h0 a "java/lang/String") (F_a_value : Fld Z h0 a "java/lang/String" "value" "[B" .null) (F_a_coder : Fld Z h0 a "java/lang/String" "coder" "B" (.int 0)) (g_a : n0 ≤ a) (Old0 : Old Z n0 h0) (hch : Jvm.Lit.constHeld Z "java/lang/String" 7) (hcw : Jvm.Lit.compactW.before a0 Z = true) (V_b : Arv Z h0 b k .char (0 : Int32) [] (.int 0)) :
    MetFree l oM17 (head1 (Jvm.Cond.code oM17 jdk_42_method_3_code 2 none :: ws) ⟨2, 2, 4, 29⟩) (fun xa xU => xa = #[(.ref a), (.ref b)] ∧ (Z.Warmed39 xU.vm ∧ xU.vm.interned = Z.vm.interned) ∧ xU.heap = h0) (fun _ _ _ _ _ => True) (fun _ xU xo xV => ∃ v L, xo = .returned v ∧ own_Q_own_i1_0 Z a b k h0 n0 v xV.heap L ∧ ReturnedEndW xU xo xV L 2 4) := by
  refine MetFree.of_bodySF (plainFor_of_name own_pn853443214) hisR ?_
  intro p e s m args below meth c s₁ Bd hml0 hP hK
  obtain ⟨rfl, ⟨hZ, hI⟩, hh⟩ := hP
  have hx := Bd.exec
  have hby := Bd.bytes
  have hlk := Bd.notSynchronized
  have hret := Bd.returns
  have hml : c.maxLocals = 2 := hml0
  have hown : s.vm.findClass "java/lang/String" = some m.cls := findClass_of_methodNamed Bd.named
  have hnm := (name_of_methodNamed Bd.named Bd.method).1
  have X0 : Stand p l e ⟨2, 2, 4, 29⟩ s m #[(.ref a), (.ref b)] below meth c s₁ [] 0 0 := Stand.of_body Bd
  have e0 : s₁.heap = h0 := by rw [← hh, Bd.state]; rfl
  have N0 := Fr.nil n0
  show own_GlW p e below s (own_Q_own_i1_0 Z a b k h0 n0) 2 4 _
  refine own_castW (own_ef_own_i1_0 m a b) ?_
  show own_GlW _ _ _ _ _ _ _ (s₁.setTop (mkF m 0 #[.val (.ref a), .val (.ref b)] []))
  refine own_stW (fun _ k => XS.aloadN X0.here hx rfl (hb hby own_d2_0) rfl rfl k) ?_
  refine own_stW (fun _ k => XS.aloadN X0.here hx rfl (hb hby own_d2_1) rfl rfl k) ?_
  refine own_stW (fun _ k => XS.iconst X0.here hx rfl (hb hby own_d2_2) k) ?_
  refine own_stW (fun _ k => XS.aloadN X0.here hx rfl (hb hby own_d2_3) rfl rfl k) ?_
  show own_GlW _ _ _ _ _ _ _ (s₁.setTop (mkF m 4 #[.val (.ref a), .val (.ref b)] [(.ref b), (.int 0), (.ref b), (.ref a)]))
  obtain ⟨cl1, Ar1, qq1, Ss1, Nn1, Hh1, Gg1⟩ := id V_b
  refine own_stW (X0.arraylength hx (by rw [e0]; exact Ar1.1) (State.isArrayOf_alike hZ.alike Ar1.2.1) (g := (mkF m 4 #[.val (.ref a), .val (.ref b)] [(.ref b), (.int 0), (.ref b), (.ref a)])) rfl rfl (hb hby own_d2_4)) ?_
  rw [len_of Ss1 Nn1]
  refine own_stW (fun _ k => XS.aconstNull X0.here hx rfl (hb hby own_d2_5) k) ?_
  obtain ⟨_, _, ⟨T2, L2, k2, n2⟩, -, X2, hS, -, ⟨Lc2, hQ2, l2, y2, z2⟩, st2⟩ := X0.specialBackS hx (y := oM16) rfl hown (mvT hZ (oW hw 11 rfl)) (mvT hZ (oW hw 12 rfl)) (mvT hZ (oW hw 14 rfl)) (by decide) (own_backOfS (W := 0) (own_i4_0 l Z a0 hw [] a b h0 n0 Z0 E_a F_a_value F_a_coder g_a Old0 hch hcw) hZ hI (oW hw 14 rfl) (oW hw 7 rfl) (by decide) (by decide)) (g := (mkF m 6 #[.val (.ref a), .val (.ref b)] [.null, (.int 0), (.int 0), (.ref b), (.ref a)])) rfl (by rw [hml]; rfl) (Steps.refl _) (a := a) (argsL := [(.ref b), (.int 0), (.int 0), .null]) (rest := []) (lenOf own_pd888094010 rfl) rfl (by show 2 * 0 + _ ≤ _; exact Nat.le_of_eq rfl) (hb hby own_d2_6) (fun _ _ => ⟨rfl, e0, (by decide : 0 + 2 ≤ 2), (by decide : 0 + 4 ≤ 4)⟩)
  dsimp only [Pt.U, Pt.locs, Pt.cells, Pt.slots] at X2 l2 y2 z2 st2 hQ2 hS
  subst l2 y2 z2
  have hZ : Z.Warmed39 (s.setVm T2.vm).vm := State.Warmed39.trans hZ hS.1
  have hown : (s.setVm T2.vm).vm.findClass "java/lang/String" = some m.cls := by rw [show (s.setVm T2.vm).vm = T2.vm from rfl, hS.1.alike.findClass]; exact hown
  obtain ⟨hh2, eh02⟩ : ∃ z, T2.heap = z := ⟨_, rfl⟩
  rw [eh02] at hQ2
  obtain ⟨r_2, kr_2, rfl, Nq2, Kq2, P2_0, P2_1, P2_2⟩ := hQ2
  have N2 := Fr.app N0 Nq2
  refine own_trW st2 ?_
  have Zs3 : n0 ≤ hh2.size := Nat.le_trans Z0 Kq2.1
  have hk : T2.heap.size ≤ hh2.size := Nat.le_of_eq (congrArg Array.size eh02)
  show own_GlW _ _ _ _ _ _ _ (T2.setTop (mkF m 9 #[.val (.ref a), .val (.ref b)] []))
  have K4 : Keep h0 hh2 [a] := ((Keep.refl h0 [a]).trans Kq2 (allS (Or.inl (List.mem_of_getElem? (i := 0) rfl)) all0))
  exact own_retVW X2 hS hk hx hlk hret (hb hby own_d2_9) eh02 ⟨r_2, kr_2, rfl, N2, K4, P2_0, P2_1, P2_2⟩ (by decide) (by decide)
theorem own_pd985728365 : parseMethodDescriptor "([C)V" = some ⟨[(.array .char)], none⟩ := by decide +kernel
theorem own_pd695904231 : parseMethodDescriptor "(Ljava/lang/CharSequence;)Z" = some ⟨[(.object "java/lang/CharSequence")], some .boolean⟩ := by decide +kernel
theorem own_ef_own_law1 (m : MethodId) (x0 : Int32) (x1 : Int32) (x2 : Int32) (x3 : Int32) : entryFrame m #[(.int x0), (.int x1), (.int x2), (.int x3)] maxLocals = mkF m 0 #[.val (.int x0), .val (.int x1), .val (.int x2), .val (.int x3), .unset, .unset, .unset, .unset, .unset, .unset, .unset] [] := by first | (simp [entryFrame, mkF, argsToLocals, Value.category, maxLocals]; done) | rfl
def own_Q_own_law1 (Z : State) (ln : Int32) (p0 : Int32) (p1 : Int32) (p2 : Int32) (cs : Int32) (sf : Value) (h0 : Heap) (n0 : Nat) (v : Option Value) (h : Heap) (L : List Loc) : Prop := v = some (.int 1) ∧ Fr n0 L

theorem own_law1 (l : Launch) (Z : State) (a0 : Array Value) (hw : oT a0 Z) (ws : List Jvm.Cond) (ln : Int32) (p0 : Int32) (p1 : Int32) (p2 : Int32) (cs : Int32) (sf : Value) (h0 : Heap) (n0 : Nat) (Z0 : n0 ≤ h0.size) (Old0 : Old Z n0 h0) (sC : Sta Z Z.heap "java/lang/String" "COMPACT_STRINGS" "Z" (.int cs)) (sA : Sta Z Z.heap "java/lang/StringUTF16" "$assertionsDisabled" "Z" (.int 1)) (sH : Sta Z Z.heap "java/lang/StringUTF16" "HI_BYTE_SHIFT" "I" (.int 0)) (sL : Sta Z Z.heap "java/lang/StringUTF16" "LO_BYTE_SHIFT" "I" (.int 8)) (sF : Sta Z Z.heap "jdk/internal/util/Preconditions" "SIOOBE_FORMATTER" "Ljava/util/function/BiFunction;" sf) (hcs : ¬ (cs = (0 : Int32))) (hsf : sf.isRef = true) (hE : ln &&& (3 : Int32) = (1 : Int32)) :
    MetFree l x (head1 (Jvm.Cond.code x code maxLocals ret :: ws) room_1) (fun xa xU => xa = #[(.int ln), (.int p0), (.int p1), (.int p2)] ∧ Z.Warmed39 xU.vm ∧ xU.heap = h0) (fun _ _ _ _ _ => True) (fun _ xU xo xV => ∃ v L, xo = .returned v ∧ own_Q_own_law1 Z ln p0 p1 p2 cs sf h0 n0 v xV.heap L ∧ FrameEnd xU xo xV L room_1.cells room_1.slots) := by
  refine MetFree.of_bodySF (plainFor_of_name own_pn590389167) hisR ?_
  intro p e s m args below meth c s₁ Bd hml0 hP hK
  obtain ⟨rfl, hZ, hh⟩ := hP
  have hx := Bd.exec
  have hby := Bd.bytes
  have hlk := Bd.notSynchronized
  have hret := Bd.returns
  have hml : c.maxLocals = 11 := hml0
  have hown : s.vm.findClass "com/example/brolga/brolga/xml/XmlCharactersIsWhiteSpacePinLaw" = some m.cls := findClass_of_methodNamed Bd.named
  have hnm := (name_of_methodNamed Bd.named Bd.method).1
  have X0 : Stand p l e room_1 s m #[(.int ln), (.int p0), (.int p1), (.int p2)] below meth c s₁ [] 0 0 := Stand.of_body Bd
  have e0 : s₁.heap = h0 := by rw [← hh, Bd.state]; rfl
  have N0 := Fr.nil n0
  show own_Gl p e below s (own_Q_own_law1 Z ln p0 p1 p2 cs sf h0 n0) room_1.cells room_1.slots _
  refine own_cast (own_ef_own_law1 m ln p0 p1 p2) ?_
  show own_Gl _ _ _ _ _ _ _ (s₁.setTop (mkF m 0 #[.val (.int ln), .val (.int p0), .val (.int p1), .val (.int p2), .unset, .unset, .unset, .unset, .unset, .unset, .unset] []))
  refine own_st (fun _ k => XS.iloadN X0.here hx rfl (hb hby at_0) rfl k) ?_
  refine own_st (fun _ k => XS.iconst X0.here hx rfl (hb hby at_1) k) ?_
  refine own_st (fun _ k => XS.iand X0.here hx rfl (hb hby at_2) rfl k) ?_
  show own_Gl _ _ _ _ _ _ _ (s₁.setTop (mkF m 3 #[.val (.int ln), .val (.int p0), .val (.int p1), .val (.int p2), .unset, .unset, .unset, .unset, .unset, .unset, .unset] [(.int (ln &&& (3 : Int32)))]))
  rw [hE]
  show own_Gl _ _ _ _ _ _ _ (s₁.setTop (mkF m 3 #[.val (.int ln), .val (.int p0), .val (.int p1), .val (.int p2), .unset, .unset, .unset, .unset, .unset, .unset, .unset] [(.int 1)]))
  refine own_st (fun _ k => XS.istore X0.here hx rfl (hb hby at_3) rfl (l' := #[.val (.int ln), .val (.int p0), .val (.int p1), .val (.int p2), .val (.int 1), .unset, .unset, .unset, .unset, .unset, .unset]) rfl k) ?_
  refine own_st (fun _ k => XS.iloadN X0.here hx rfl (hb hby at_5) rfl k) ?_
  obtain ⟨_, _, ⟨T1, L1, k1, n1⟩, -, X1, ⟨Lc1, hQ1, l1, y1, z1⟩, st1⟩ := Jvm.LawKit.callS X0 hx (y := oM0) hown (mvT hZ (oW hw 0 rfl)) (mvT hZ (oW hw 1 rfl)) (mvT hZ (oW hw 2 rfl)) (mvT hZ (oW hw 3 rfl)) (by decide) (backOf (W := 0) (own_draw l Z a0 hw [] p0 h0 n0 Z0 ) hZ (oW hw 3 rfl) (oW hw 2 rfl) (by decide) (by decide)) (g := (mkF m 6 #[.val (.int ln), .val (.int p0), .val (.int p1), .val (.int p2), .val (.int 1), .unset, .unset, .unset, .unset, .unset, .unset] [(.int p0)])) rfl (by rw [hml]; rfl) (argsL := [(.int p0)]) (rest := []) (lenOf own_pd91181831 rfl) rfl (by show 2 * 0 + _ ≤ _; exact Nat.le_of_eq rfl) (hb hby at_6) (fun _ _ => ⟨rfl, e0, (by decide : 0 + 0 ≤ room_1.cells), (by decide : 0 + 0 ≤ room_1.slots)⟩)
  dsimp only [Pt.U, Pt.locs, Pt.cells, Pt.slots] at X1 l1 y1 z1 st1 hQ1
  subst l1 y1 z1
  obtain ⟨hh1, eh01⟩ : ∃ z, T1.heap = z := ⟨_, rfl⟩
  rw [eh01] at hQ1
  obtain ⟨cw_1, rfl, Nq1, eh1, P1_0⟩ := hQ1
  have N1 := Fr.app N0 Nq1
  refine own_st st1 ?_
  have e1 : T1.heap = h0 := eh01.trans eh1
  refine own_st (fun _ k => XS.istore X1.here hx rfl (hb hby at_9) rfl (l' := #[.val (.int ln), .val (.int p0), .val (.int p1), .val (.int p2), .val (.int 1), .val (.int cw_1), .unset, .unset, .unset, .unset, .unset]) rfl k) ?_
  show own_Gl _ _ _ _ _ _ _ (T1.setTop (mkF m 11 #[.val (.int ln), .val (.int p0), .val (.int p1), .val (.int p2), .val (.int 1), .val (.int cw_1), .unset, .unset, .unset, .unset, .unset] []))
  refine own_st (fun _ k => XS.iloadN X1.here hx rfl (hb hby at_11) rfl k) ?_
  obtain ⟨_, _, ⟨T2, L2, k2, n2⟩, -, X2, ⟨Lc2, hQ2, l2, y2, z2⟩, st2⟩ := Jvm.LawKit.callS X1 hx (y := oM0) hown (mvT hZ (oW hw 0 rfl)) (mvT hZ (oW hw 1 rfl)) (mvT hZ (oW hw 2 rfl)) (mvT hZ (oW hw 3 rfl)) (by decide) (backOf (W := 0) (own_draw l Z a0 hw [] p1 h0 n0 Z0 ) hZ (oW hw 3 rfl) (oW hw 2 rfl) (by decide) (by decide)) (g := (mkF m 12 #[.val (.int ln), .val (.int p0), .val (.int p1), .val (.int p2), .val (.int 1), .val (.int cw_1), .unset, .unset, .unset, .unset, .unset] [(.int p1)])) rfl (by rw [hml]; rfl) (argsL := [(.int p1)]) (rest := []) (lenOf own_pd91181831 rfl) rfl (by show 2 * 0 + _ ≤ _; exact Nat.le_of_eq rfl) (hb hby at_12) (fun _ _ => ⟨rfl, e1, (by decide : 0 + 0 ≤ room_1.cells), (by decide : 0 + 0 ≤ room_1.slots)⟩)
  dsimp only [Pt.U, Pt.locs, Pt.cells, Pt.slots] at X2 l2 y2 z2 st2 hQ2
  subst l2 y2 z2
  obtain ⟨hh2, eh02⟩ : ∃ z, T2.heap = z := ⟨_, rfl⟩
  rw [eh02] at hQ2
  obtain ⟨cw_2, rfl, Nq2, eh2, P2_0⟩ := hQ2
  have N2 := Fr.app N1 Nq2
  refine own_st st2 ?_
  have e2 : T2.heap = h0 := eh02.trans eh2
  refine own_st (fun _ k => XS.istore X2.here hx rfl (hb hby at_15) rfl (l' := #[.val (.int ln), .val (.int p0), .val (.int p1), .val (.int p2), .val (.int 1), .val (.int cw_1), .val (.int cw_2), .unset, .unset, .unset, .unset]) rfl k) ?_
  refine own_st (fun _ k => XS.iloadN X2.here hx rfl (hb hby at_17) rfl k) ?_
  show own_Gl _ _ _ _ _ _ _ (T2.setTop (mkF m 18 #[.val (.int ln), .val (.int p0), .val (.int p1), .val (.int p2), .val (.int 1), .val (.int cw_1), .val (.int cw_2), .unset, .unset, .unset, .unset] [(.int p2)]))
  obtain ⟨_, _, ⟨T3, L3, k3, n3⟩, -, X3, ⟨Lc3, hQ3, l3, y3, z3⟩, st3⟩ := Jvm.LawKit.callS X2 hx (y := oM0) hown (mvT hZ (oW hw 0 rfl)) (mvT hZ (oW hw 1 rfl)) (mvT hZ (oW hw 2 rfl)) (mvT hZ (oW hw 3 rfl)) (by decide) (backOf (W := 0) (own_draw l Z a0 hw [] p2 h0 n0 Z0 ) hZ (oW hw 3 rfl) (oW hw 2 rfl) (by decide) (by decide)) (g := (mkF m 18 #[.val (.int ln), .val (.int p0), .val (.int p1), .val (.int p2), .val (.int 1), .val (.int cw_1), .val (.int cw_2), .unset, .unset, .unset, .unset] [(.int p2)])) rfl (by rw [hml]; rfl) (argsL := [(.int p2)]) (rest := []) (lenOf own_pd91181831 rfl) rfl (by show 2 * 0 + _ ≤ _; exact Nat.le_of_eq rfl) (hb hby at_18) (fun _ _ => ⟨rfl, e2, (by decide : 0 + 0 ≤ room_1.cells), (by decide : 0 + 0 ≤ room_1.slots)⟩)
  dsimp only [Pt.U, Pt.locs, Pt.cells, Pt.slots] at X3 l3 y3 z3 st3 hQ3
  subst l3 y3 z3
  obtain ⟨hh3, eh03⟩ : ∃ z, T3.heap = z := ⟨_, rfl⟩
  rw [eh03] at hQ3
  obtain ⟨cw_3, rfl, Nq3, eh3, P3_0⟩ := hQ3
  have N3 := Fr.app N2 Nq3
  refine own_st st3 ?_
  have e3 : T3.heap = h0 := eh03.trans eh3
  refine own_st (fun _ k => XS.istore X3.here hx rfl (hb hby at_21) rfl (l' := #[.val (.int ln), .val (.int p0), .val (.int p1), .val (.int p2), .val (.int 1), .val (.int cw_1), .val (.int cw_2), .val (.int cw_3), .unset, .unset, .unset]) rfl k) ?_
  refine own_st (fun _ k => XS.iload X3.here hx rfl (hb hby at_23) rfl k) ?_
  obtain ⟨T4, h4, k4, X4, e4, E4, A4, st4⟩ := newP X3 hx hZ (oW hw 4 rfl) e3 (g := (mkF m 25 #[.val (.int ln), .val (.int p0), .val (.int p1), .val (.int p2), .val (.int 1), .val (.int cw_1), .val (.int cw_2), .val (.int cw_3), .unset, .unset, .unset] [(.int 1)])) rfl (hb hby at_25) rfl (by decide) (cap := 1) (by decide) (by decide) (by decide) (by decide)
  obtain ⟨b4, gb4⟩ : ∃ z, z = h0.size := ⟨_, rfl⟩
  rw [← gb4] at A4 st4
  refine own_st st4 ?_
  have Zs5 : n0 ≤ h4.size := Nat.le_trans Z0 E4.1
  have g_b4 : n0 ≤ b4 := Nat.le_trans Z0 (Nat.le_of_eq gb4.symm)
  have gh_b4 : h0.size ≤ b4 := Nat.le_trans (Keep.refl h0 []).1 (Nat.le_of_eq gb4.symm)
  have V_b4 : Arv Z h4 b4 k4 .char (1 : Int32) [(.int 0)] (.int 0) := (Arv.new A4 (by decide)).pad (pad_rep [] (.int 0) 1)
  show own_Gl _ _ _ _ _ _ _ (T4.setTop (mkF m 27 #[.val (.int ln), .val (.int p0), .val (.int p1), .val (.int p2), .val (.int 1), .val (.int cw_1), .val (.int cw_2), .val (.int cw_3), .unset, .unset, .unset] [(.ref b4)]))
  refine own_st (fun _ k => XS.astore X4.here hx rfl (hb hby at_27) rfl rfl (l' := #[.val (.int ln), .val (.int p0), .val (.int p1), .val (.int p2), .val (.int 1), .val (.int cw_1), .val (.int cw_2), .val (.int cw_3), .val (.ref b4), .unset, .unset]) rfl k) ?_
  refine own_st (fun _ k => XS.iload X4.here hx rfl (hb hby at_29) rfl k) ?_
  have hd7 : (0 : Int32) < (1 : Int32) := (by decide)
  refine own_st (fun _ k => XS.ifNo X4.here hx rfl (hb hby at_31) rfl ((if0 _ _).trans (tlt hd7).2.2.2) k) ?_
  refine own_st (fun _ k => XS.aload X4.here hx rfl (hb hby at_34) rfl rfl k) ?_
  show own_Gl _ _ _ _ _ _ _ (T4.setTop (mkF m 36 #[.val (.int ln), .val (.int p0), .val (.int p1), .val (.int p2), .val (.int 1), .val (.int cw_1), .val (.int cw_2), .val (.int cw_3), .val (.ref b4), .unset, .unset] [(.ref b4)]))
  refine own_st (fun _ k => XS.iconst X4.here hx rfl (hb hby at_36) k) ?_
  refine own_st (fun _ k => XS.iload X4.here hx rfl (hb hby at_37) rfl k) ?_
  obtain ⟨cl8, Ar8, qq8, Ss8, Nn8, Hh8, Gg8⟩ := id V_b4
  have hin8 : ¬ ((0 : Int32) < 0 ∨ cl8.slots.size ≤ ((0 : Int32)).toNatClampNeg) := inb_of Ss8 ⟨by decide, by decide⟩
  obtain ⟨T8, h8, X8, e8, W8, st8⟩ := stC X4 hx hZ e4 Ar8 (j := (0 : Int32)) hin8 (g := (mkF m 39 #[.val (.int ln), .val (.int p0), .val (.int p1), .val (.int p2), .val (.int 1), .val (.int cw_1), .val (.int cw_2), .val (.int cw_3), .val (.ref b4), .unset, .unset] [(.int cw_1), (.int 0), (.ref b4)])) rfl rfl (hb hby at_39)
  have N8 := Fr.snoc X8 N3 g_b4
  refine own_st st8 ?_
  have Zs9 : n0 ≤ h8.size := Nat.le_trans Zs5 (Keep.of_wr W8).1
  have Vw8 : Arv Z h8 b4 k4 .char (1 : Int32) [(.int (nar .char cw_1))] (.int 0) := Arv.set Ar8 qq8 Ss8 Nn8 Hh8 Gg8 (fits_nar_char _) W8 0 (rfl) (Nat.le_of_ble_eq_true rfl)
  rw [own_nc _ P1_0] at Vw8
  refine own_st (fun _ k => XS.iload X8.here hx rfl (hb hby at_40) rfl k) ?_
  show own_Gl _ _ _ _ _ _ _ (T8.setTop (mkF m 42 #[.val (.int ln), .val (.int p0), .val (.int p1), .val (.int p2), .val (.int 1), .val (.int cw_1), .val (.int cw_2), .val (.int cw_3), .val (.ref b4), .unset, .unset] [(.int 1)]))
  refine own_st (fun _ k => XS.iconst X8.here hx rfl (hb hby at_42) k) ?_
  have hd10 : ¬ ((1 : Int32) < (1 : Int32)) := (by decide)
  refine own_st (fun _ k => XS.icmpYes X8.here hx rfl (pc0 := 43) (pc' := 52) rfl (hb hby at_43) rfl (flt hd10).2.2.2 (by decide) (by decide) k) ?_
  refine own_st (fun _ k => XS.iload X8.here hx rfl (hb hby at_52) rfl k) ?_
  refine own_st (fun _ k => XS.iconst X8.here hx rfl (hb hby at_54) k) ?_
  show own_Gl _ _ _ _ _ _ _ (T8.setTop (mkF m 55 #[.val (.int ln), .val (.int p0), .val (.int p1), .val (.int p2), .val (.int 1), .val (.int cw_1), .val (.int cw_2), .val (.int cw_3), .val (.ref b4), .unset, .unset] [(.int 2), (.int 1)]))
  have hd11 : ¬ ((2 : Int32) < (1 : Int32)) := (by decide)
  refine own_st (fun _ k => XS.icmpYes X8.here hx rfl (pc0 := 55) (pc' := 64) rfl (hb hby at_55) rfl (flt hd11).2.2.2 (by decide) (by decide) k) ?_
  by_cases hbig : (255 : Int32) < cw_1
  · show own_Gl _ _ _ _ _ _ _ (T8.setTop (mkF m 64 #[.val (.int ln), .val (.int p0), .val (.int p1), .val (.int p2), .val (.int 1), .val (.int cw_1), .val (.int cw_2), .val (.int cw_3), .val (.ref b4), .unset, .unset] []))
    have K12 : Keep h0 h8 [] := (((Keep.refl h0 []).ext E4).wr W8 (Or.inr gh_b4))
    obtain ⟨T13, h13, X13, e13, E13, A13, D13, -, st13⟩ := newO X8 hx hZ hown (oW hw 5 rfl) (oW hw 6 rfl) (oW hw 7 rfl) e8 (g := (mkF m 64 #[.val (.int ln), .val (.int p0), .val (.int p1), .val (.int p2), .val (.int 1), .val (.int cw_1), .val (.int cw_2), .val (.int cw_3), .val (.ref b4), .unset, .unset] [])) rfl (hb hby at_64) (by decide) (by decide)
    obtain ⟨b13, gb13⟩ : ∃ z, z = h8.size := ⟨_, rfl⟩
    rw [← gb13] at A13 D13 st13
    refine own_st st13 ?_
    have Zs14 : n0 ≤ h13.size := Nat.le_trans Zs9 E13.1
    have g_b13 : n0 ≤ b13 := Nat.le_trans Zs9 (Nat.le_of_eq gb13.symm)
    have gh_b13 : h0.size ≤ b13 := Nat.le_trans K12.1 (Nat.le_of_eq gb13.symm)
    have ne_b4_b13 : b4 ≠ b13 := Nat.ne_of_lt (Nat.lt_of_lt_of_le Vw8.lt (Nat.le_of_eq gb13.symm))
    have F_value_b13 : Fld Z h13 b13 "java/lang/String" "value" "[B" .null := D13 (Or.inr (oW hw 20 rfl)) (ty := (.array .byte)) (by decide)
    have F_coder_b13 : Fld Z h13 b13 "java/lang/String" "coder" "B" (.int 0) := D13 (Or.inr (oW hw 21 rfl)) (ty := .byte) (by decide)
    refine own_st (fun _ k => XS.dup X13.here hx rfl (hb hby at_67) rfl rfl k) ?_
    refine own_st (fun _ k => XS.aload X13.here hx rfl (hb hby at_68) rfl rfl k) ?_
    have f17 := (Vw8.ext E13)
    have f18 := (((Old0.ext E4).wr W8 g_b4).ext E13)
    obtain ⟨_, _, ⟨T16, L16, k16, n16⟩, -, X16, ⟨Lc16, hQ16, l16, y16, z16⟩, st16⟩ := X13.specialBack hx (y := oM17) rfl hown (mvT hZ (oW hw 8 rfl)) (mvT hZ (oW hw 9 rfl)) (mvT hZ (oW hw 10 rfl)) (by decide) (backOf (W := 1) (own_i1_1_u l Z a0 hw [] b13 b4 k4 cw_1 cs h13 n0 Zs14 A13 F_value_b13 F_coder_b13 g_b13 (Ne.symm ne_b4_b13) f17 hbig sC hcs f18 sA sH sL P1_0) hZ (oW hw 10 rfl) (oW hw 7 rfl) (by decide) (by decide)) (g := (mkF m 70 #[.val (.int ln), .val (.int p0), .val (.int p1), .val (.int p2), .val (.int 1), .val (.int cw_1), .val (.int cw_2), .val (.int cw_3), .val (.ref b4), .unset, .unset] [(.ref b4), (.ref b13), (.ref b13)])) rfl (by rw [hml]; rfl) (Steps.refl _) (a := b13) (argsL := [(.ref b4)]) (rest := [(.ref b13)]) (lenOf own_pd985728365 rfl) rfl (by show 2 * 0 + _ ≤ _; exact Nat.le_of_eq rfl) (hb hby at_70) (fun _ _ => ⟨rfl, e13, (by decide : 2 + 2 ≤ room_1.cells), (by decide : 5 + 3 ≤ room_1.slots)⟩)
    dsimp only [Pt.U, Pt.locs, Pt.cells, Pt.slots] at X16 l16 y16 z16 st16 hQ16
    subst l16 y16 z16
    obtain ⟨hh16, eh016⟩ : ∃ z, T16.heap = z := ⟨_, rfl⟩
    rw [eh016] at hQ16
    obtain ⟨r_16, kr_16, rfl, Nq16, Kq16, P16_0, P16_1, P16_2, P16_3, P16_4⟩ := hQ16
    have N16 := Fr.app N8 Nq16
    refine own_tr st16 ?_
    have K19 : Keep h0 h13 [] := (K12.ext E13)
    have Zs20 : n0 ≤ hh16.size := Nat.le_trans Zs14 Kq16.1
    have gh_r_16 : h0.size ≤ r_16 := Nat.le_trans K19.1 P16_1
    have ne_b4_r_16 : b4 ≠ r_16 := Nat.ne_of_lt (Nat.lt_of_lt_of_le f17.lt P16_1)
    have ne_b13_r_16 : b13 ≠ r_16 := Nat.ne_of_lt (Nat.lt_of_lt_of_le A13.lt P16_1)
    show own_Gl _ _ _ _ _ _ _ (T16.setTop (mkF m 73 #[.val (.int ln), .val (.int p0), .val (.int p1), .val (.int p2), .val (.int 1), .val (.int cw_1), .val (.int cw_2), .val (.int cw_3), .val (.ref b4), .unset, .unset] [(.ref b13)]))
    refine own_st (fun _ k => XS.astore X16.here hx rfl (hb hby at_73) rfl rfl (l' := #[.val (.int ln), .val (.int p0), .val (.int p1), .val (.int p2), .val (.int 1), .val (.int cw_1), .val (.int cw_2), .val (.int cw_3), .val (.ref b4), .val (.ref b13), .unset]) rfl k) ?_
    have J124_21 : ∀ (T21 : State) (LL21 : List Loc) (N21 : Fr n0 LL21) (X21 : Stand p l e room_1 s m #[(.int ln), (.int p0), (.int p1), (.int p2)] below meth c T21 LL21 4 8) (e21 : T21.heap = hh16) (ex : Int32) (hex : ex = (if own_ws cw_1 = (0 : Int32) then (0 : Int32) else (1 : Int32))), own_Gl p e below s (own_Q_own_law1 Z ln p0 p1 p2 cs sf h0 n0) room_1.cells room_1.slots (T21.setTop (mkF m 124 #[.val (.int ln), .val (.int p0), .val (.int p1), .val (.int p2), .val (.int 1), .val (.int cw_1), .val (.int cw_2), .val (.int cw_3), .val (.ref b4), .val (.ref b13), .val (.int ex)] [])) := by
      intro T21 LL21 N21 X21 e21 ex hex
      show own_Gl _ _ _ _ _ _ _ (T21.setTop (mkF m 124 #[.val (.int ln), .val (.int p0), .val (.int p1), .val (.int p2), .val (.int 1), .val (.int cw_1), .val (.int cw_2), .val (.int cw_3), .val (.ref b4), .val (.ref b13), .val (.int ex)] []))
      refine own_st (fun _ k => XS.aload X21.here hx rfl (hb hby at_124) rfl rfl k) ?_
      have f23 := (f18.keep Kq16 (allS g_b13 all0))
      have f24 := (A13.keep Kq16)
      have f25 := (f17.keep Kq16 (ninS ne_b4_b13 nin0))
      obtain ⟨_, _, ⟨T22, L22, k22, n22⟩, -, X22, ⟨Lc22, hQ22, l22, y22, z22⟩, st22⟩ := Jvm.LawKit.callS X21 hx (y := oM23) hown (mvT hZ (oW hw 26 rfl)) (mvT hZ (oW hw 27 rfl)) (mvT hZ (oW hw 28 rfl)) (mvT hZ (oW hw 29 rfl)) (by decide) (backOf (W := 0) (own_iws1_1 l Z a0 hw [] b13 r_16 kr_16 sf cs cw_1 hh16 n0 Zs20 f23 sA sH sL sF hsf sC hcs f24 P16_3 P16_4 P16_2 P1_0) hZ (oW hw 29 rfl) (oW hw 28 rfl) (by decide) (by decide)) (g := (mkF m 126 #[.val (.int ln), .val (.int p0), .val (.int p1), .val (.int p2), .val (.int 1), .val (.int cw_1), .val (.int cw_2), .val (.int cw_3), .val (.ref b4), .val (.ref b13), .val (.int ex)] [(.ref b13)])) rfl (by rw [hml]; rfl) (argsL := [(.ref b13)]) (rest := []) (lenOf own_pd695904231 rfl) rfl (by show 2 * 0 + _ ≤ _; exact Nat.le_of_eq rfl) (hb hby at_126) (fun _ _ => ⟨rfl, e21, (by decide : 4 + 0 ≤ room_1.cells), (by decide : 8 + 0 ≤ room_1.slots)⟩)
      dsimp only [Pt.U, Pt.locs, Pt.cells, Pt.slots] at X22 l22 y22 z22 st22 hQ22
      subst l22 y22 z22
      obtain ⟨hh22, eh022⟩ : ∃ z, T22.heap = z := ⟨_, rfl⟩
      rw [eh022] at hQ22
      obtain ⟨rfl, Nq22, eh22⟩ := hQ22
      have N22 := Fr.app N21 Nq22
      refine own_st st22 ?_
      have e22 : T22.heap = hh16 := eh022.trans eh22
      refine own_st (fun _ k => XS.iload X22.here hx rfl (hb hby at_129) rfl k) ?_
      have hd26 : (if own_ws cw_1 = (0 : Int32) then (0 : Int32) else (1 : Int32)) = ex := hex.symm
      refine own_st (fun _ k => XS.icmpNo X22.here hx rfl (hb hby at_131) rfl (teq hd26).2 k) ?_
      show own_Gl _ _ _ _ _ _ _ (T22.setTop (mkF m 134 #[.val (.int ln), .val (.int p0), .val (.int p1), .val (.int p2), .val (.int 1), .val (.int cw_1), .val (.int cw_2), .val (.int cw_3), .val (.ref b4), .val (.ref b13), .val (.int ex)] []))
      refine own_st (fun _ k => XS.iconst X22.here hx rfl (hb hby at_134) k) ?_
      refine own_st (fun _ k => XS.goto X22.here hx rfl (pc0 := 135) (pc' := 139) rfl (hb hby at_135) (by decide) (by decide) k) ?_
      show own_Gl _ _ _ _ _ _ _ (T22.setTop (mkF m 139 #[.val (.int ln), .val (.int p0), .val (.int p1), .val (.int p2), .val (.int 1), .val (.int cw_1), .val (.int cw_2), .val (.int cw_3), .val (.ref b4), .val (.ref b13), .val (.int ex)] [(.int 1)]))
      exact own_retN X22 hx hlk (t := .boolean) hret (by simp) (hb hby at_139) e22 ⟨rfl, N22⟩ (by decide) (by decide)
    refine own_st (fun _ k => XS.iload X16.here hx rfl (hb hby at_75) rfl k) ?_
    refine own_st (fun _ k => XS.iconst X16.here hx rfl (hb hby at_77) k) ?_
    have hd27 : ¬ ((1 : Int32) < (1 : Int32)) := (by decide)
    refine own_st (fun _ k => XS.icmpNo X16.here hx rfl (hb hby at_78) rfl (flt hd27).1 k) ?_
    show own_Gl _ _ _ _ _ _ _ (T16.setTop (mkF m 81 #[.val (.int ln), .val (.int p0), .val (.int p1), .val (.int p2), .val (.int 1), .val (.int cw_1), .val (.int cw_2), .val (.int cw_3), .val (.ref b4), .val (.ref b13), .unset] []))
    refine own_st (fun _ k => XS.iload X16.here hx rfl (hb hby at_81) rfl k) ?_
    have f29 := (f17.keep Kq16 (ninS ne_b4_b13 nin0))
    have f30 := (A13.keep Kq16)
    obtain ⟨_, _, ⟨T28, L28, k28, n28⟩, -, X28, ⟨Lc28, hQ28, l28, y28, z28⟩, st28⟩ := Jvm.LawKit.callS X16 hx (y := oM1) hown (mvT hZ (oW hw 55 rfl)) (mvT hZ (oW hw 56 rfl)) (mvT hZ (oW hw 2 rfl)) (mvT hZ (oW hw 57 rfl)) (by decide) (backOf (W := 0) (own_w1 l Z a0 hw [] cw_1 hh16 n0 Zs20 ) hZ (oW hw 57 rfl) (oW hw 2 rfl) (by decide) (by decide)) (g := (mkF m 83 #[.val (.int ln), .val (.int p0), .val (.int p1), .val (.int p2), .val (.int 1), .val (.int cw_1), .val (.int cw_2), .val (.int cw_3), .val (.ref b4), .val (.ref b13), .unset] [(.int cw_1)])) rfl (by rw [hml]; rfl) (argsL := [(.int cw_1)]) (rest := []) (lenOf own_pd91078888 rfl) rfl (by show 2 * 0 + _ ≤ _; exact Nat.le_of_eq rfl) (hb hby at_83) (fun _ _ => ⟨rfl, eh016, (by decide : 4 + 0 ≤ room_1.cells), (by decide : 8 + 0 ≤ room_1.slots)⟩)
    dsimp only [Pt.U, Pt.locs, Pt.cells, Pt.slots] at X28 l28 y28 z28 st28 hQ28
    subst l28 y28 z28
    obtain ⟨hh28, eh028⟩ : ∃ z, T28.heap = z := ⟨_, rfl⟩
    rw [eh028] at hQ28
    obtain ⟨rfl, Nq28, eh28⟩ := hQ28
    have N28 := Fr.app N16 Nq28
    refine own_st st28 ?_
    have e28 : T28.heap = hh16 := eh028.trans eh28
    by_cases hc86 : (own_ws cw_1) = (0 : Int32)
    · refine own_st (fun _ k => XS.ifYes X28.here hx rfl (pc0 := 86) (pc' := 121) rfl (hb hby at_86) rfl ((if0 _ _).trans (teq hc86).1) (by decide) (by decide) k) ?_
      refine own_st (fun _ k => XS.iconst X28.here hx rfl (hb hby at_121) k) ?_
      show own_Gl _ _ _ _ _ _ _ (T28.setTop (mkF m 122 #[.val (.int ln), .val (.int p0), .val (.int p1), .val (.int p2), .val (.int 1), .val (.int cw_1), .val (.int cw_2), .val (.int cw_3), .val (.ref b4), .val (.ref b13), .unset] [(.int 0)]))
      refine own_st (fun _ k => XS.istore X28.here hx rfl (hb hby at_122) rfl (l' := #[.val (.int ln), .val (.int p0), .val (.int p1), .val (.int p2), .val (.int 1), .val (.int cw_1), .val (.int cw_2), .val (.int cw_3), .val (.ref b4), .val (.ref b13), .val (.int 0)]) rfl k) ?_
      show own_Gl _ _ _ _ _ _ _ (T28.setTop (mkF m 124 #[.val (.int ln), .val (.int p0), .val (.int p1), .val (.int p2), .val (.int 1), .val (.int cw_1), .val (.int cw_2), .val (.int cw_3), .val (.ref b4), .val (.ref b13), .val (.int 0)] []))
      exact J124_21 T28 _ N28 X28 e28 ((0 : Int32)) (by rw [if_pos hc86])
    · refine own_st (fun _ k => XS.ifNo X28.here hx rfl (hb hby at_86) rfl ((if0 _ _).trans (feq hc86).1) k) ?_
      refine own_st (fun _ k => XS.iload X28.here hx rfl (hb hby at_89) rfl k) ?_
      show own_Gl _ _ _ _ _ _ _ (T28.setTop (mkF m 91 #[.val (.int ln), .val (.int p0), .val (.int p1), .val (.int p2), .val (.int 1), .val (.int cw_1), .val (.int cw_2), .val (.int cw_3), .val (.ref b4), .val (.ref b13), .unset] [(.int 1)]))
      refine own_st (fun _ k => XS.iconst X28.here hx rfl (hb hby at_91) k) ?_
      have hd31 : (1 : Int32) < (2 : Int32) := (by decide)
      refine own_st (fun _ k => XS.icmpYes X28.here hx rfl (pc0 := 92) (pc' := 103) rfl (hb hby at_92) rfl (tlt hd31).1 (by decide) (by decide) k) ?_
      refine own_st (fun _ k => XS.iload X28.here hx rfl (hb hby at_103) rfl k) ?_
      refine own_st (fun _ k => XS.iconst X28.here hx rfl (hb hby at_105) k) ?_
      show own_Gl _ _ _ _ _ _ _ (T28.setTop (mkF m 106 #[.val (.int ln), .val (.int p0), .val (.int p1), .val (.int p2), .val (.int 1), .val (.int cw_1), .val (.int cw_2), .val (.int cw_3), .val (.ref b4), .val (.ref b13), .unset] [(.int 3), (.int 1)]))
      have hd32 : (1 : Int32) < (3 : Int32) := (by decide)
      refine own_st (fun _ k => XS.icmpYes X28.here hx rfl (pc0 := 106) (pc' := 117) rfl (hb hby at_106) rfl (tlt hd32).1 (by decide) (by decide) k) ?_
      refine own_st (fun _ k => XS.iconst X28.here hx rfl (hb hby at_117) k) ?_
      refine own_st (fun _ k => XS.goto X28.here hx rfl (pc0 := 118) (pc' := 122) rfl (hb hby at_118) (by decide) (by decide) k) ?_
      refine own_st (fun _ k => XS.istore X28.here hx rfl (hb hby at_122) rfl (l' := #[.val (.int ln), .val (.int p0), .val (.int p1), .val (.int p2), .val (.int 1), .val (.int cw_1), .val (.int cw_2), .val (.int cw_3), .val (.ref b4), .val (.ref b13), .val (.int 1)]) rfl k) ?_
      show own_Gl _ _ _ _ _ _ _ (T28.setTop (mkF m 124 #[.val (.int ln), .val (.int p0), .val (.int p1), .val (.int p2), .val (.int 1), .val (.int cw_1), .val (.int cw_2), .val (.int cw_3), .val (.ref b4), .val (.ref b13), .val (.int 1)] []))
      show own_Gl _ _ _ _ _ _ _ (T28.setTop (mkF m 124 #[.val (.int ln), .val (.int p0), .val (.int p1), .val (.int p2), .val (.int 1), .val (.int cw_1), .val (.int cw_2), .val (.int cw_3), .val (.ref b4), .val (.ref b13), .val (.int 1)] []))
      exact J124_21 T28 _ N28 X28 e28 ((1 : Int32)) (by rw [if_neg hc86])
  · show own_Gl _ _ _ _ _ _ _ (T8.setTop (mkF m 64 #[.val (.int ln), .val (.int p0), .val (.int p1), .val (.int p2), .val (.int 1), .val (.int cw_1), .val (.int cw_2), .val (.int cw_3), .val (.ref b4), .unset, .unset] []))
    have K33 : Keep h0 h8 [] := (((Keep.refl h0 []).ext E4).wr W8 (Or.inr gh_b4))
    obtain ⟨T34, h34, X34, e34, E34, A34, D34, -, st34⟩ := newO X8 hx hZ hown (oW hw 5 rfl) (oW hw 6 rfl) (oW hw 7 rfl) e8 (g := (mkF m 64 #[.val (.int ln), .val (.int p0), .val (.int p1), .val (.int p2), .val (.int 1), .val (.int cw_1), .val (.int cw_2), .val (.int cw_3), .val (.ref b4), .unset, .unset] [])) rfl (hb hby at_64) (by decide) (by decide)
    obtain ⟨b34, gb34⟩ : ∃ z, z = h8.size := ⟨_, rfl⟩
    rw [← gb34] at A34 D34 st34
    refine own_st st34 ?_
    have Zs35 : n0 ≤ h34.size := Nat.le_trans Zs9 E34.1
    have g_b34 : n0 ≤ b34 := Nat.le_trans Zs9 (Nat.le_of_eq gb34.symm)
    have gh_b34 : h0.size ≤ b34 := Nat.le_trans K33.1 (Nat.le_of_eq gb34.symm)
    have ne_b4_b34 : b4 ≠ b34 := Nat.ne_of_lt (Nat.lt_of_lt_of_le Vw8.lt (Nat.le_of_eq gb34.symm))
    have F_value_b34 : Fld Z h34 b34 "java/lang/String" "value" "[B" .null := D34 (Or.inr (oW hw 20 rfl)) (ty := (.array .byte)) (by decide)
    have F_coder_b34 : Fld Z h34 b34 "java/lang/String" "coder" "B" (.int 0) := D34 (Or.inr (oW hw 21 rfl)) (ty := .byte) (by decide)
    refine own_st (fun _ k => XS.dup X34.here hx rfl (hb hby at_67) rfl rfl k) ?_
    refine own_st (fun _ k => XS.aload X34.here hx rfl (hb hby at_68) rfl rfl k) ?_
    have f38 := (Vw8.ext E34)
    have f39 := (((Old0.ext E4).wr W8 g_b4).ext E34)
    obtain ⟨_, _, ⟨T37, L37, k37, n37⟩, -, X37, ⟨Lc37, hQ37, l37, y37, z37⟩, st37⟩ := X34.specialBack hx (y := oM17) rfl hown (mvT hZ (oW hw 8 rfl)) (mvT hZ (oW hw 9 rfl)) (mvT hZ (oW hw 10 rfl)) (by decide) (backOf (W := 1) (own_i1_1_l l Z a0 hw [] b34 b4 k4 cw_1 cs h34 n0 Zs35 A34 F_value_b34 F_coder_b34 g_b34 (Ne.symm ne_b4_b34) f38 hbig sC hcs f39) hZ (oW hw 10 rfl) (oW hw 7 rfl) (by decide) (by decide)) (g := (mkF m 70 #[.val (.int ln), .val (.int p0), .val (.int p1), .val (.int p2), .val (.int 1), .val (.int cw_1), .val (.int cw_2), .val (.int cw_3), .val (.ref b4), .unset, .unset] [(.ref b4), (.ref b34), (.ref b34)])) rfl (by rw [hml]; rfl) (Steps.refl _) (a := b34) (argsL := [(.ref b4)]) (rest := [(.ref b34)]) (lenOf own_pd985728365 rfl) rfl (by show 2 * 0 + _ ≤ _; exact Nat.le_of_eq rfl) (hb hby at_70) (fun _ _ => ⟨rfl, e34, (by decide : 2 + 1 ≤ room_1.cells), (by decide : 5 + 1 ≤ room_1.slots)⟩)
    dsimp only [Pt.U, Pt.locs, Pt.cells, Pt.slots] at X37 l37 y37 z37 st37 hQ37
    subst l37 y37 z37
    obtain ⟨hh37, eh037⟩ : ∃ z, T37.heap = z := ⟨_, rfl⟩
    rw [eh037] at hQ37
    obtain ⟨r_37, kr_37, rfl, Nq37, Kq37, P37_0, P37_1, P37_2, P37_3, P37_4⟩ := hQ37
    have N37 := Fr.app N8 Nq37
    refine own_tr st37 ?_
    have K40 : Keep h0 h34 [] := (K33.ext E34)
    have Zs41 : n0 ≤ hh37.size := Nat.le_trans Zs35 Kq37.1
    have gh_r_37 : h0.size ≤ r_37 := Nat.le_trans K40.1 P37_1
    have ne_b4_r_37 : b4 ≠ r_37 := Nat.ne_of_lt (Nat.lt_of_lt_of_le f38.lt P37_1)
    have ne_b34_r_37 : b34 ≠ r_37 := Nat.ne_of_lt (Nat.lt_of_lt_of_le A34.lt P37_1)
    show own_Gl _ _ _ _ _ _ _ (T37.setTop (mkF m 73 #[.val (.int ln), .val (.int p0), .val (.int p1), .val (.int p2), .val (.int 1), .val (.int cw_1), .val (.int cw_2), .val (.int cw_3), .val (.ref b4), .unset, .unset] [(.ref b34)]))
    refine own_st (fun _ k => XS.astore X37.here hx rfl (hb hby at_73) rfl rfl (l' := #[.val (.int ln), .val (.int p0), .val (.int p1), .val (.int p2), .val (.int 1), .val (.int cw_1), .val (.int cw_2), .val (.int cw_3), .val (.ref b4), .val (.ref b34), .unset]) rfl k) ?_
    have J124_42 : ∀ (T42 : State) (LL42 : List Loc) (N42 : Fr n0 LL42) (X42 : Stand p l e room_1 s m #[(.int ln), (.int p0), (.int p1), (.int p2)] below meth c T42 LL42 3 6) (e42 : T42.heap = hh37) (ex : Int32) (hex : ex = (if own_ws cw_1 = (0 : Int32) then (0 : Int32) else (1 : Int32))), own_Gl p e below s (own_Q_own_law1 Z ln p0 p1 p2 cs sf h0 n0) room_1.cells room_1.slots (T42.setTop (mkF m 124 #[.val (.int ln), .val (.int p0), .val (.int p1), .val (.int p2), .val (.int 1), .val (.int cw_1), .val (.int cw_2), .val (.int cw_3), .val (.ref b4), .val (.ref b34), .val (.int ex)] [])) := by
      intro T42 LL42 N42 X42 e42 ex hex
      show own_Gl _ _ _ _ _ _ _ (T42.setTop (mkF m 124 #[.val (.int ln), .val (.int p0), .val (.int p1), .val (.int p2), .val (.int 1), .val (.int cw_1), .val (.int cw_2), .val (.int cw_3), .val (.ref b4), .val (.ref b34), .val (.int ex)] []))
      refine own_st (fun _ k => XS.aload X42.here hx rfl (hb hby at_124) rfl rfl k) ?_
      have f44 := (f39.keep Kq37 (allS g_b34 all0))
      have f45 := (A34.keep Kq37)
      have f46 := (f38.keep Kq37 (ninS ne_b4_b34 nin0))
      obtain ⟨_, _, ⟨T43, L43, k43, n43⟩, -, X43, ⟨Lc43, hQ43, l43, y43, z43⟩, st43⟩ := Jvm.LawKit.callS X42 hx (y := oM23) hown (mvT hZ (oW hw 26 rfl)) (mvT hZ (oW hw 27 rfl)) (mvT hZ (oW hw 28 rfl)) (mvT hZ (oW hw 29 rfl)) (by decide) (backOf (W := 0) (own_iws1_0 l Z a0 hw [] b34 r_37 kr_37 sf cs cw_1 hh37 n0 Zs41 f44 sF hsf sC hcs f45 P37_3 P37_4 P37_2 ⟨P1_0.1, hbig⟩) hZ (oW hw 29 rfl) (oW hw 28 rfl) (by decide) (by decide)) (g := (mkF m 126 #[.val (.int ln), .val (.int p0), .val (.int p1), .val (.int p2), .val (.int 1), .val (.int cw_1), .val (.int cw_2), .val (.int cw_3), .val (.ref b4), .val (.ref b34), .val (.int ex)] [(.ref b34)])) rfl (by rw [hml]; rfl) (argsL := [(.ref b34)]) (rest := []) (lenOf own_pd695904231 rfl) rfl (by show 2 * 0 + _ ≤ _; exact Nat.le_of_eq rfl) (hb hby at_126) (fun _ _ => ⟨rfl, e42, (by decide : 3 + 0 ≤ room_1.cells), (by decide : 6 + 0 ≤ room_1.slots)⟩)
      dsimp only [Pt.U, Pt.locs, Pt.cells, Pt.slots] at X43 l43 y43 z43 st43 hQ43
      subst l43 y43 z43
      obtain ⟨hh43, eh043⟩ : ∃ z, T43.heap = z := ⟨_, rfl⟩
      rw [eh043] at hQ43
      obtain ⟨rfl, Nq43, eh43⟩ := hQ43
      have N43 := Fr.app N42 Nq43
      refine own_st st43 ?_
      have e43 : T43.heap = hh37 := eh043.trans eh43
      refine own_st (fun _ k => XS.iload X43.here hx rfl (hb hby at_129) rfl k) ?_
      have hd47 : (if own_ws cw_1 = (0 : Int32) then (0 : Int32) else (1 : Int32)) = ex := hex.symm
      refine own_st (fun _ k => XS.icmpNo X43.here hx rfl (hb hby at_131) rfl (teq hd47).2 k) ?_
      show own_Gl _ _ _ _ _ _ _ (T43.setTop (mkF m 134 #[.val (.int ln), .val (.int p0), .val (.int p1), .val (.int p2), .val (.int 1), .val (.int cw_1), .val (.int cw_2), .val (.int cw_3), .val (.ref b4), .val (.ref b34), .val (.int ex)] []))
      refine own_st (fun _ k => XS.iconst X43.here hx rfl (hb hby at_134) k) ?_
      refine own_st (fun _ k => XS.goto X43.here hx rfl (pc0 := 135) (pc' := 139) rfl (hb hby at_135) (by decide) (by decide) k) ?_
      show own_Gl _ _ _ _ _ _ _ (T43.setTop (mkF m 139 #[.val (.int ln), .val (.int p0), .val (.int p1), .val (.int p2), .val (.int 1), .val (.int cw_1), .val (.int cw_2), .val (.int cw_3), .val (.ref b4), .val (.ref b34), .val (.int ex)] [(.int 1)]))
      exact own_retN X43 hx hlk (t := .boolean) hret (by simp) (hb hby at_139) e43 ⟨rfl, N43⟩ (by decide) (by decide)
    refine own_st (fun _ k => XS.iload X37.here hx rfl (hb hby at_75) rfl k) ?_
    refine own_st (fun _ k => XS.iconst X37.here hx rfl (hb hby at_77) k) ?_
    have hd48 : ¬ ((1 : Int32) < (1 : Int32)) := (by decide)
    refine own_st (fun _ k => XS.icmpNo X37.here hx rfl (hb hby at_78) rfl (flt hd48).1 k) ?_
    show own_Gl _ _ _ _ _ _ _ (T37.setTop (mkF m 81 #[.val (.int ln), .val (.int p0), .val (.int p1), .val (.int p2), .val (.int 1), .val (.int cw_1), .val (.int cw_2), .val (.int cw_3), .val (.ref b4), .val (.ref b34), .unset] []))
    refine own_st (fun _ k => XS.iload X37.here hx rfl (hb hby at_81) rfl k) ?_
    have f50 := (f38.keep Kq37 (ninS ne_b4_b34 nin0))
    have f51 := (A34.keep Kq37)
    obtain ⟨_, _, ⟨T49, L49, k49, n49⟩, -, X49, ⟨Lc49, hQ49, l49, y49, z49⟩, st49⟩ := Jvm.LawKit.callS X37 hx (y := oM1) hown (mvT hZ (oW hw 55 rfl)) (mvT hZ (oW hw 56 rfl)) (mvT hZ (oW hw 2 rfl)) (mvT hZ (oW hw 57 rfl)) (by decide) (backOf (W := 0) (own_w1 l Z a0 hw [] cw_1 hh37 n0 Zs41 ) hZ (oW hw 57 rfl) (oW hw 2 rfl) (by decide) (by decide)) (g := (mkF m 83 #[.val (.int ln), .val (.int p0), .val (.int p1), .val (.int p2), .val (.int 1), .val (.int cw_1), .val (.int cw_2), .val (.int cw_3), .val (.ref b4), .val (.ref b34), .unset] [(.int cw_1)])) rfl (by rw [hml]; rfl) (argsL := [(.int cw_1)]) (rest := []) (lenOf own_pd91078888 rfl) rfl (by show 2 * 0 + _ ≤ _; exact Nat.le_of_eq rfl) (hb hby at_83) (fun _ _ => ⟨rfl, eh037, (by decide : 3 + 0 ≤ room_1.cells), (by decide : 6 + 0 ≤ room_1.slots)⟩)
    dsimp only [Pt.U, Pt.locs, Pt.cells, Pt.slots] at X49 l49 y49 z49 st49 hQ49
    subst l49 y49 z49
    obtain ⟨hh49, eh049⟩ : ∃ z, T49.heap = z := ⟨_, rfl⟩
    rw [eh049] at hQ49
    obtain ⟨rfl, Nq49, eh49⟩ := hQ49
    have N49 := Fr.app N37 Nq49
    refine own_st st49 ?_
    have e49 : T49.heap = hh37 := eh049.trans eh49
    by_cases hc86 : (own_ws cw_1) = (0 : Int32)
    · refine own_st (fun _ k => XS.ifYes X49.here hx rfl (pc0 := 86) (pc' := 121) rfl (hb hby at_86) rfl ((if0 _ _).trans (teq hc86).1) (by decide) (by decide) k) ?_
      refine own_st (fun _ k => XS.iconst X49.here hx rfl (hb hby at_121) k) ?_
      show own_Gl _ _ _ _ _ _ _ (T49.setTop (mkF m 122 #[.val (.int ln), .val (.int p0), .val (.int p1), .val (.int p2), .val (.int 1), .val (.int cw_1), .val (.int cw_2), .val (.int cw_3), .val (.ref b4), .val (.ref b34), .unset] [(.int 0)]))
      refine own_st (fun _ k => XS.istore X49.here hx rfl (hb hby at_122) rfl (l' := #[.val (.int ln), .val (.int p0), .val (.int p1), .val (.int p2), .val (.int 1), .val (.int cw_1), .val (.int cw_2), .val (.int cw_3), .val (.ref b4), .val (.ref b34), .val (.int 0)]) rfl k) ?_
      show own_Gl _ _ _ _ _ _ _ (T49.setTop (mkF m 124 #[.val (.int ln), .val (.int p0), .val (.int p1), .val (.int p2), .val (.int 1), .val (.int cw_1), .val (.int cw_2), .val (.int cw_3), .val (.ref b4), .val (.ref b34), .val (.int 0)] []))
      exact J124_42 T49 _ N49 X49 e49 ((0 : Int32)) (by rw [if_pos hc86])
    · refine own_st (fun _ k => XS.ifNo X49.here hx rfl (hb hby at_86) rfl ((if0 _ _).trans (feq hc86).1) k) ?_
      refine own_st (fun _ k => XS.iload X49.here hx rfl (hb hby at_89) rfl k) ?_
      show own_Gl _ _ _ _ _ _ _ (T49.setTop (mkF m 91 #[.val (.int ln), .val (.int p0), .val (.int p1), .val (.int p2), .val (.int 1), .val (.int cw_1), .val (.int cw_2), .val (.int cw_3), .val (.ref b4), .val (.ref b34), .unset] [(.int 1)]))
      refine own_st (fun _ k => XS.iconst X49.here hx rfl (hb hby at_91) k) ?_
      have hd52 : (1 : Int32) < (2 : Int32) := (by decide)
      refine own_st (fun _ k => XS.icmpYes X49.here hx rfl (pc0 := 92) (pc' := 103) rfl (hb hby at_92) rfl (tlt hd52).1 (by decide) (by decide) k) ?_
      refine own_st (fun _ k => XS.iload X49.here hx rfl (hb hby at_103) rfl k) ?_
      refine own_st (fun _ k => XS.iconst X49.here hx rfl (hb hby at_105) k) ?_
      show own_Gl _ _ _ _ _ _ _ (T49.setTop (mkF m 106 #[.val (.int ln), .val (.int p0), .val (.int p1), .val (.int p2), .val (.int 1), .val (.int cw_1), .val (.int cw_2), .val (.int cw_3), .val (.ref b4), .val (.ref b34), .unset] [(.int 3), (.int 1)]))
      have hd53 : (1 : Int32) < (3 : Int32) := (by decide)
      refine own_st (fun _ k => XS.icmpYes X49.here hx rfl (pc0 := 106) (pc' := 117) rfl (hb hby at_106) rfl (tlt hd53).1 (by decide) (by decide) k) ?_
      refine own_st (fun _ k => XS.iconst X49.here hx rfl (hb hby at_117) k) ?_
      refine own_st (fun _ k => XS.goto X49.here hx rfl (pc0 := 118) (pc' := 122) rfl (hb hby at_118) (by decide) (by decide) k) ?_
      refine own_st (fun _ k => XS.istore X49.here hx rfl (hb hby at_122) rfl (l' := #[.val (.int ln), .val (.int p0), .val (.int p1), .val (.int p2), .val (.int 1), .val (.int cw_1), .val (.int cw_2), .val (.int cw_3), .val (.ref b4), .val (.ref b34), .val (.int 1)]) rfl k) ?_
      show own_Gl _ _ _ _ _ _ _ (T49.setTop (mkF m 124 #[.val (.int ln), .val (.int p0), .val (.int p1), .val (.int p2), .val (.int 1), .val (.int cw_1), .val (.int cw_2), .val (.int cw_3), .val (.ref b4), .val (.ref b34), .val (.int 1)] []))
      show own_Gl _ _ _ _ _ _ _ (T49.setTop (mkF m 124 #[.val (.int ln), .val (.int p0), .val (.int p1), .val (.int p2), .val (.int 1), .val (.int cw_1), .val (.int cw_2), .val (.int cw_3), .val (.ref b4), .val (.ref b34), .val (.int 1)] []))
      exact J124_42 T49 _ N49 X49 e49 ((1 : Int32)) (by rw [if_neg hc86])
theorem own_ef_own_law2 (m : MethodId) (x0 : Int32) (x1 : Int32) (x2 : Int32) (x3 : Int32) : entryFrame m #[(.int x0), (.int x1), (.int x2), (.int x3)] maxLocals = mkF m 0 #[.val (.int x0), .val (.int x1), .val (.int x2), .val (.int x3), .unset, .unset, .unset, .unset, .unset, .unset, .unset] [] := by first | (simp [entryFrame, mkF, argsToLocals, Value.category, maxLocals]; done) | rfl
def own_Q_own_law2 (Z : State) (ln : Int32) (p0 : Int32) (p1 : Int32) (p2 : Int32) (cs : Int32) (sf : Value) (h0 : Heap) (n0 : Nat) (v : Option Value) (h : Heap) (L : List Loc) : Prop := v = some (.int 1) ∧ Fr n0 L

theorem own_law2 (l : Launch) (Z : State) (a0 : Array Value) (hw : oT a0 Z) (ws : List Jvm.Cond) (ln : Int32) (p0 : Int32) (p1 : Int32) (p2 : Int32) (cs : Int32) (sf : Value) (h0 : Heap) (n0 : Nat) (Z0 : n0 ≤ h0.size) (Old0 : Old Z n0 h0) (sC : Sta Z Z.heap "java/lang/String" "COMPACT_STRINGS" "Z" (.int cs)) (sA : Sta Z Z.heap "java/lang/StringUTF16" "$assertionsDisabled" "Z" (.int 1)) (sH : Sta Z Z.heap "java/lang/StringUTF16" "HI_BYTE_SHIFT" "I" (.int 0)) (sL : Sta Z Z.heap "java/lang/StringUTF16" "LO_BYTE_SHIFT" "I" (.int 8)) (sF : Sta Z Z.heap "jdk/internal/util/Preconditions" "SIOOBE_FORMATTER" "Ljava/util/function/BiFunction;" sf) (hcs : ¬ (cs = (0 : Int32))) (hsf : sf.isRef = true) (hE : ln &&& (3 : Int32) = (2 : Int32)) :
    MetFree l x (head1 (Jvm.Cond.code x code maxLocals ret :: ws) room_1) (fun xa xU => xa = #[(.int ln), (.int p0), (.int p1), (.int p2)] ∧ Z.Warmed39 xU.vm ∧ xU.heap = h0) (fun _ _ _ _ _ => True) (fun _ xU xo xV => ∃ v L, xo = .returned v ∧ own_Q_own_law2 Z ln p0 p1 p2 cs sf h0 n0 v xV.heap L ∧ FrameEnd xU xo xV L room_1.cells room_1.slots) := by
  refine MetFree.of_bodySF (plainFor_of_name own_pn590389167) hisR ?_
  intro p e s m args below meth c s₁ Bd hml0 hP hK
  obtain ⟨rfl, hZ, hh⟩ := hP
  have hx := Bd.exec
  have hby := Bd.bytes
  have hlk := Bd.notSynchronized
  have hret := Bd.returns
  have hml : c.maxLocals = 11 := hml0
  have hown : s.vm.findClass "com/example/brolga/brolga/xml/XmlCharactersIsWhiteSpacePinLaw" = some m.cls := findClass_of_methodNamed Bd.named
  have hnm := (name_of_methodNamed Bd.named Bd.method).1
  have X0 : Stand p l e room_1 s m #[(.int ln), (.int p0), (.int p1), (.int p2)] below meth c s₁ [] 0 0 := Stand.of_body Bd
  have e0 : s₁.heap = h0 := by rw [← hh, Bd.state]; rfl
  have N0 := Fr.nil n0
  show own_Gl p e below s (own_Q_own_law2 Z ln p0 p1 p2 cs sf h0 n0) room_1.cells room_1.slots _
  refine own_cast (own_ef_own_law2 m ln p0 p1 p2) ?_
  show own_Gl _ _ _ _ _ _ _ (s₁.setTop (mkF m 0 #[.val (.int ln), .val (.int p0), .val (.int p1), .val (.int p2), .unset, .unset, .unset, .unset, .unset, .unset, .unset] []))
  refine own_st (fun _ k => XS.iloadN X0.here hx rfl (hb hby at_0) rfl k) ?_
  refine own_st (fun _ k => XS.iconst X0.here hx rfl (hb hby at_1) k) ?_
  refine own_st (fun _ k => XS.iand X0.here hx rfl (hb hby at_2) rfl k) ?_
  show own_Gl _ _ _ _ _ _ _ (s₁.setTop (mkF m 3 #[.val (.int ln), .val (.int p0), .val (.int p1), .val (.int p2), .unset, .unset, .unset, .unset, .unset, .unset, .unset] [(.int (ln &&& (3 : Int32)))]))
  rw [hE]
  show own_Gl _ _ _ _ _ _ _ (s₁.setTop (mkF m 3 #[.val (.int ln), .val (.int p0), .val (.int p1), .val (.int p2), .unset, .unset, .unset, .unset, .unset, .unset, .unset] [(.int 2)]))
  refine own_st (fun _ k => XS.istore X0.here hx rfl (hb hby at_3) rfl (l' := #[.val (.int ln), .val (.int p0), .val (.int p1), .val (.int p2), .val (.int 2), .unset, .unset, .unset, .unset, .unset, .unset]) rfl k) ?_
  refine own_st (fun _ k => XS.iloadN X0.here hx rfl (hb hby at_5) rfl k) ?_
  obtain ⟨_, _, ⟨T1, L1, k1, n1⟩, -, X1, ⟨Lc1, hQ1, l1, y1, z1⟩, st1⟩ := Jvm.LawKit.callS X0 hx (y := oM0) hown (mvT hZ (oW hw 0 rfl)) (mvT hZ (oW hw 1 rfl)) (mvT hZ (oW hw 2 rfl)) (mvT hZ (oW hw 3 rfl)) (by decide) (backOf (W := 0) (own_draw l Z a0 hw [] p0 h0 n0 Z0 ) hZ (oW hw 3 rfl) (oW hw 2 rfl) (by decide) (by decide)) (g := (mkF m 6 #[.val (.int ln), .val (.int p0), .val (.int p1), .val (.int p2), .val (.int 2), .unset, .unset, .unset, .unset, .unset, .unset] [(.int p0)])) rfl (by rw [hml]; rfl) (argsL := [(.int p0)]) (rest := []) (lenOf own_pd91181831 rfl) rfl (by show 2 * 0 + _ ≤ _; exact Nat.le_of_eq rfl) (hb hby at_6) (fun _ _ => ⟨rfl, e0, (by decide : 0 + 0 ≤ room_1.cells), (by decide : 0 + 0 ≤ room_1.slots)⟩)
  dsimp only [Pt.U, Pt.locs, Pt.cells, Pt.slots] at X1 l1 y1 z1 st1 hQ1
  subst l1 y1 z1
  obtain ⟨hh1, eh01⟩ : ∃ z, T1.heap = z := ⟨_, rfl⟩
  rw [eh01] at hQ1
  obtain ⟨cw_1, rfl, Nq1, eh1, P1_0⟩ := hQ1
  have N1 := Fr.app N0 Nq1
  refine own_st st1 ?_
  have e1 : T1.heap = h0 := eh01.trans eh1
  refine own_st (fun _ k => XS.istore X1.here hx rfl (hb hby at_9) rfl (l' := #[.val (.int ln), .val (.int p0), .val (.int p1), .val (.int p2), .val (.int 2), .val (.int cw_1), .unset, .unset, .unset, .unset, .unset]) rfl k) ?_
  show own_Gl _ _ _ _ _ _ _ (T1.setTop (mkF m 11 #[.val (.int ln), .val (.int p0), .val (.int p1), .val (.int p2), .val (.int 2), .val (.int cw_1), .unset, .unset, .unset, .unset, .unset] []))
  refine own_st (fun _ k => XS.iloadN X1.here hx rfl (hb hby at_11) rfl k) ?_
  obtain ⟨_, _, ⟨T2, L2, k2, n2⟩, -, X2, ⟨Lc2, hQ2, l2, y2, z2⟩, st2⟩ := Jvm.LawKit.callS X1 hx (y := oM0) hown (mvT hZ (oW hw 0 rfl)) (mvT hZ (oW hw 1 rfl)) (mvT hZ (oW hw 2 rfl)) (mvT hZ (oW hw 3 rfl)) (by decide) (backOf (W := 0) (own_draw l Z a0 hw [] p1 h0 n0 Z0 ) hZ (oW hw 3 rfl) (oW hw 2 rfl) (by decide) (by decide)) (g := (mkF m 12 #[.val (.int ln), .val (.int p0), .val (.int p1), .val (.int p2), .val (.int 2), .val (.int cw_1), .unset, .unset, .unset, .unset, .unset] [(.int p1)])) rfl (by rw [hml]; rfl) (argsL := [(.int p1)]) (rest := []) (lenOf own_pd91181831 rfl) rfl (by show 2 * 0 + _ ≤ _; exact Nat.le_of_eq rfl) (hb hby at_12) (fun _ _ => ⟨rfl, e1, (by decide : 0 + 0 ≤ room_1.cells), (by decide : 0 + 0 ≤ room_1.slots)⟩)
  dsimp only [Pt.U, Pt.locs, Pt.cells, Pt.slots] at X2 l2 y2 z2 st2 hQ2
  subst l2 y2 z2
  obtain ⟨hh2, eh02⟩ : ∃ z, T2.heap = z := ⟨_, rfl⟩
  rw [eh02] at hQ2
  obtain ⟨cw_2, rfl, Nq2, eh2, P2_0⟩ := hQ2
  have N2 := Fr.app N1 Nq2
  refine own_st st2 ?_
  have e2 : T2.heap = h0 := eh02.trans eh2
  refine own_st (fun _ k => XS.istore X2.here hx rfl (hb hby at_15) rfl (l' := #[.val (.int ln), .val (.int p0), .val (.int p1), .val (.int p2), .val (.int 2), .val (.int cw_1), .val (.int cw_2), .unset, .unset, .unset, .unset]) rfl k) ?_
  refine own_st (fun _ k => XS.iloadN X2.here hx rfl (hb hby at_17) rfl k) ?_
  show own_Gl _ _ _ _ _ _ _ (T2.setTop (mkF m 18 #[.val (.int ln), .val (.int p0), .val (.int p1), .val (.int p2), .val (.int 2), .val (.int cw_1), .val (.int cw_2), .unset, .unset, .unset, .unset] [(.int p2)]))
  obtain ⟨_, _, ⟨T3, L3, k3, n3⟩, -, X3, ⟨Lc3, hQ3, l3, y3, z3⟩, st3⟩ := Jvm.LawKit.callS X2 hx (y := oM0) hown (mvT hZ (oW hw 0 rfl)) (mvT hZ (oW hw 1 rfl)) (mvT hZ (oW hw 2 rfl)) (mvT hZ (oW hw 3 rfl)) (by decide) (backOf (W := 0) (own_draw l Z a0 hw [] p2 h0 n0 Z0 ) hZ (oW hw 3 rfl) (oW hw 2 rfl) (by decide) (by decide)) (g := (mkF m 18 #[.val (.int ln), .val (.int p0), .val (.int p1), .val (.int p2), .val (.int 2), .val (.int cw_1), .val (.int cw_2), .unset, .unset, .unset, .unset] [(.int p2)])) rfl (by rw [hml]; rfl) (argsL := [(.int p2)]) (rest := []) (lenOf own_pd91181831 rfl) rfl (by show 2 * 0 + _ ≤ _; exact Nat.le_of_eq rfl) (hb hby at_18) (fun _ _ => ⟨rfl, e2, (by decide : 0 + 0 ≤ room_1.cells), (by decide : 0 + 0 ≤ room_1.slots)⟩)
  dsimp only [Pt.U, Pt.locs, Pt.cells, Pt.slots] at X3 l3 y3 z3 st3 hQ3
  subst l3 y3 z3
  obtain ⟨hh3, eh03⟩ : ∃ z, T3.heap = z := ⟨_, rfl⟩
  rw [eh03] at hQ3
  obtain ⟨cw_3, rfl, Nq3, eh3, P3_0⟩ := hQ3
  have N3 := Fr.app N2 Nq3
  refine own_st st3 ?_
  have e3 : T3.heap = h0 := eh03.trans eh3
  refine own_st (fun _ k => XS.istore X3.here hx rfl (hb hby at_21) rfl (l' := #[.val (.int ln), .val (.int p0), .val (.int p1), .val (.int p2), .val (.int 2), .val (.int cw_1), .val (.int cw_2), .val (.int cw_3), .unset, .unset, .unset]) rfl k) ?_
  refine own_st (fun _ k => XS.iload X3.here hx rfl (hb hby at_23) rfl k) ?_
  obtain ⟨T4, h4, k4, X4, e4, E4, A4, st4⟩ := newP X3 hx hZ (oW hw 4 rfl) e3 (g := (mkF m 25 #[.val (.int ln), .val (.int p0), .val (.int p1), .val (.int p2), .val (.int 2), .val (.int cw_1), .val (.int cw_2), .val (.int cw_3), .unset, .unset, .unset] [(.int 2)])) rfl (hb hby at_25) rfl (by decide) (cap := 2) (by decide) (by decide) (by decide) (by decide)
  obtain ⟨b4, gb4⟩ : ∃ z, z = h0.size := ⟨_, rfl⟩
  rw [← gb4] at A4 st4
  refine own_st st4 ?_
  have Zs5 : n0 ≤ h4.size := Nat.le_trans Z0 E4.1
  have g_b4 : n0 ≤ b4 := Nat.le_trans Z0 (Nat.le_of_eq gb4.symm)
  have gh_b4 : h0.size ≤ b4 := Nat.le_trans (Keep.refl h0 []).1 (Nat.le_of_eq gb4.symm)
  have V_b4 : Arv Z h4 b4 k4 .char (2 : Int32) [(.int 0), (.int 0)] (.int 0) := (Arv.new A4 (by decide)).pad (pad_rep [] (.int 0) 2)
  show own_Gl _ _ _ _ _ _ _ (T4.setTop (mkF m 27 #[.val (.int ln), .val (.int p0), .val (.int p1), .val (.int p2), .val (.int 2), .val (.int cw_1), .val (.int cw_2), .val (.int cw_3), .unset, .unset, .unset] [(.ref b4)]))
  refine own_st (fun _ k => XS.astore X4.here hx rfl (hb hby at_27) rfl rfl (l' := #[.val (.int ln), .val (.int p0), .val (.int p1), .val (.int p2), .val (.int 2), .val (.int cw_1), .val (.int cw_2), .val (.int cw_3), .val (.ref b4), .unset, .unset]) rfl k) ?_
  refine own_st (fun _ k => XS.iload X4.here hx rfl (hb hby at_29) rfl k) ?_
  have hd7 : (0 : Int32) < (2 : Int32) := (by decide)
  refine own_st (fun _ k => XS.ifNo X4.here hx rfl (hb hby at_31) rfl ((if0 _ _).trans (tlt hd7).2.2.2) k) ?_
  refine own_st (fun _ k => XS.aload X4.here hx rfl (hb hby at_34) rfl rfl k) ?_
  show own_Gl _ _ _ _ _ _ _ (T4.setTop (mkF m 36 #[.val (.int ln), .val (.int p0), .val (.int p1), .val (.int p2), .val (.int 2), .val (.int cw_1), .val (.int cw_2), .val (.int cw_3), .val (.ref b4), .unset, .unset] [(.ref b4)]))
  refine own_st (fun _ k => XS.iconst X4.here hx rfl (hb hby at_36) k) ?_
  refine own_st (fun _ k => XS.iload X4.here hx rfl (hb hby at_37) rfl k) ?_
  obtain ⟨cl8, Ar8, qq8, Ss8, Nn8, Hh8, Gg8⟩ := id V_b4
  have hin8 : ¬ ((0 : Int32) < 0 ∨ cl8.slots.size ≤ ((0 : Int32)).toNatClampNeg) := inb_of Ss8 ⟨by decide, by decide⟩
  obtain ⟨T8, h8, X8, e8, W8, st8⟩ := stC X4 hx hZ e4 Ar8 (j := (0 : Int32)) hin8 (g := (mkF m 39 #[.val (.int ln), .val (.int p0), .val (.int p1), .val (.int p2), .val (.int 2), .val (.int cw_1), .val (.int cw_2), .val (.int cw_3), .val (.ref b4), .unset, .unset] [(.int cw_1), (.int 0), (.ref b4)])) rfl rfl (hb hby at_39)
  have N8 := Fr.snoc X8 N3 g_b4
  refine own_st st8 ?_
  have Zs9 : n0 ≤ h8.size := Nat.le_trans Zs5 (Keep.of_wr W8).1
  have Vw8 : Arv Z h8 b4 k4 .char (2 : Int32) [(.int (nar .char cw_1)), (.int 0)] (.int 0) := Arv.set Ar8 qq8 Ss8 Nn8 Hh8 Gg8 (fits_nar_char _) W8 0 (rfl) (Nat.le_of_ble_eq_true rfl)
  rw [own_nc _ P1_0] at Vw8
  refine own_st (fun _ k => XS.iload X8.here hx rfl (hb hby at_40) rfl k) ?_
  show own_Gl _ _ _ _ _ _ _ (T8.setTop (mkF m 42 #[.val (.int ln), .val (.int p0), .val (.int p1), .val (.int p2), .val (.int 2), .val (.int cw_1), .val (.int cw_2), .val (.int cw_3), .val (.ref b4), .unset, .unset] [(.int 2)]))
  refine own_st (fun _ k => XS.iconst X8.here hx rfl (hb hby at_42) k) ?_
  have hd10 : (1 : Int32) < (2 : Int32) := (by decide)
  refine own_st (fun _ k => XS.icmpNo X8.here hx rfl (hb hby at_43) rfl (tlt hd10).2.2.2 k) ?_
  refine own_st (fun _ k => XS.aload X8.here hx rfl (hb hby at_46) rfl rfl k) ?_
  refine own_st (fun _ k => XS.iconst X8.here hx rfl (hb hby at_48) k) ?_
  show own_Gl _ _ _ _ _ _ _ (T8.setTop (mkF m 49 #[.val (.int ln), .val (.int p0), .val (.int p1), .val (.int p2), .val (.int 2), .val (.int cw_1), .val (.int cw_2), .val (.int cw_3), .val (.ref b4), .unset, .unset] [(.int 1), (.ref b4)]))
  refine own_st (fun _ k => XS.iload X8.here hx rfl (hb hby at_49) rfl k) ?_
  obtain ⟨cl11, Ar11, qq11, Ss11, Nn11, Hh11, Gg11⟩ := id Vw8
  have hin11 : ¬ ((1 : Int32) < 0 ∨ cl11.slots.size ≤ ((1 : Int32)).toNatClampNeg) := inb_of Ss11 ⟨by decide, by decide⟩
  obtain ⟨T11, h11, X11, e11, W11, st11⟩ := stC X8 hx hZ e8 Ar11 (j := (1 : Int32)) hin11 (g := (mkF m 51 #[.val (.int ln), .val (.int p0), .val (.int p1), .val (.int p2), .val (.int 2), .val (.int cw_1), .val (.int cw_2), .val (.int cw_3), .val (.ref b4), .unset, .unset] [(.int cw_2), (.int 1), (.ref b4)])) rfl rfl (hb hby at_51)
  have N11 := Fr.snoc X11 N8 g_b4
  refine own_st st11 ?_
  have Zs12 : n0 ≤ h11.size := Nat.le_trans Zs9 (Keep.of_wr W11).1
  have Vw11 : Arv Z h11 b4 k4 .char (2 : Int32) [(.int cw_1), (.int (nar .char cw_2))] (.int 0) := Arv.set Ar11 qq11 Ss11 Nn11 Hh11 Gg11 (fits_nar_char _) W11 1 (rfl) (Nat.le_of_ble_eq_true rfl)
  rw [own_nc _ P2_0] at Vw11
  refine own_st (fun _ k => XS.iload X11.here hx rfl (hb hby at_52) rfl k) ?_
  refine own_st (fun _ k => XS.iconst X11.here hx rfl (hb hby at_54) k) ?_
  show own_Gl _ _ _ _ _ _ _ (T11.setTop (mkF m 55 #[.val (.int ln), .val (.int p0), .val (.int p1), .val (.int p2), .val (.int 2), .val (.int cw_1), .val (.int cw_2), .val (.int cw_3), .val (.ref b4), .unset, .unset] [(.int 2), (.int 2)]))
  have hd13 : ¬ ((2 : Int32) < (2 : Int32)) := (by decide)
  refine own_st (fun _ k => XS.icmpYes X11.here hx rfl (pc0 := 55) (pc' := 64) rfl (hb hby at_55) rfl (flt hd13).2.2.2 (by decide) (by decide) k) ?_
  by_cases hbig : (255 : Int32) < cw_1 ∨ (255 : Int32) < cw_2
  · show own_Gl _ _ _ _ _ _ _ (T11.setTop (mkF m 64 #[.val (.int ln), .val (.int p0), .val (.int p1), .val (.int p2), .val (.int 2), .val (.int cw_1), .val (.int cw_2), .val (.int cw_3), .val (.ref b4), .unset, .unset] []))
    have K14 : Keep h0 h11 [] := ((((Keep.refl h0 []).ext E4).wr W8 (Or.inr gh_b4)).wr W11 (Or.inr gh_b4))
    obtain ⟨T15, h15, X15, e15, E15, A15, D15, -, st15⟩ := newO X11 hx hZ hown (oW hw 5 rfl) (oW hw 6 rfl) (oW hw 7 rfl) e11 (g := (mkF m 64 #[.val (.int ln), .val (.int p0), .val (.int p1), .val (.int p2), .val (.int 2), .val (.int cw_1), .val (.int cw_2), .val (.int cw_3), .val (.ref b4), .unset, .unset] [])) rfl (hb hby at_64) (by decide) (by decide)
    obtain ⟨b15, gb15⟩ : ∃ z, z = h11.size := ⟨_, rfl⟩
    rw [← gb15] at A15 D15 st15
    refine own_st st15 ?_
    have Zs16 : n0 ≤ h15.size := Nat.le_trans Zs12 E15.1
    have g_b15 : n0 ≤ b15 := Nat.le_trans Zs12 (Nat.le_of_eq gb15.symm)
    have gh_b15 : h0.size ≤ b15 := Nat.le_trans K14.1 (Nat.le_of_eq gb15.symm)
    have ne_b4_b15 : b4 ≠ b15 := Nat.ne_of_lt (Nat.lt_of_lt_of_le Vw11.lt (Nat.le_of_eq gb15.symm))
    have F_value_b15 : Fld Z h15 b15 "java/lang/String" "value" "[B" .null := D15 (Or.inr (oW hw 20 rfl)) (ty := (.array .byte)) (by decide)
    have F_coder_b15 : Fld Z h15 b15 "java/lang/String" "coder" "B" (.int 0) := D15 (Or.inr (oW hw 21 rfl)) (ty := .byte) (by decide)
    refine own_st (fun _ k => XS.dup X15.here hx rfl (hb hby at_67) rfl rfl k) ?_
    refine own_st (fun _ k => XS.aload X15.here hx rfl (hb hby at_68) rfl rfl k) ?_
    have f19 := (Vw11.ext E15)
    have f20 := ((((Old0.ext E4).wr W8 g_b4).wr W11 g_b4).ext E15)
    obtain ⟨_, _, ⟨T18, L18, k18, n18⟩, -, X18, ⟨Lc18, hQ18, l18, y18, z18⟩, st18⟩ := X15.specialBack hx (y := oM17) rfl hown (mvT hZ (oW hw 8 rfl)) (mvT hZ (oW hw 9 rfl)) (mvT hZ (oW hw 10 rfl)) (by decide) (backOf (W := 1) (own_i1_2_u l Z a0 hw [] b15 b4 k4 cw_1 cw_2 cs h15 n0 Zs16 A15 F_value_b15 F_coder_b15 g_b15 (Ne.symm ne_b4_b15) f19 hbig sC hcs f20 sA sH sL P1_0 P2_0) hZ (oW hw 10 rfl) (oW hw 7 rfl) (by decide) (by decide)) (g := (mkF m 70 #[.val (.int ln), .val (.int p0), .val (.int p1), .val (.int p2), .val (.int 2), .val (.int cw_1), .val (.int cw_2), .val (.int cw_3), .val (.ref b4), .unset, .unset] [(.ref b4), (.ref b15), (.ref b15)])) rfl (by rw [hml]; rfl) (Steps.refl _) (a := b15) (argsL := [(.ref b4)]) (rest := [(.ref b15)]) (lenOf own_pd985728365 rfl) rfl (by show 2 * 0 + _ ≤ _; exact Nat.le_of_eq rfl) (hb hby at_70) (fun _ _ => ⟨rfl, e15, (by decide : 2 + 2 ≤ room_1.cells), (by decide : 6 + 6 ≤ room_1.slots)⟩)
    dsimp only [Pt.U, Pt.locs, Pt.cells, Pt.slots] at X18 l18 y18 z18 st18 hQ18
    subst l18 y18 z18
    obtain ⟨hh18, eh018⟩ : ∃ z, T18.heap = z := ⟨_, rfl⟩
    rw [eh018] at hQ18
    obtain ⟨r_18, kr_18, rfl, Nq18, Kq18, P18_0, P18_1, P18_2, P18_3, P18_4⟩ := hQ18
    have N18 := Fr.app N11 Nq18
    refine own_tr st18 ?_
    have K21 : Keep h0 h15 [] := (K14.ext E15)
    have Zs22 : n0 ≤ hh18.size := Nat.le_trans Zs16 Kq18.1
    have gh_r_18 : h0.size ≤ r_18 := Nat.le_trans K21.1 P18_1
    have ne_b4_r_18 : b4 ≠ r_18 := Nat.ne_of_lt (Nat.lt_of_lt_of_le f19.lt P18_1)
    have ne_b15_r_18 : b15 ≠ r_18 := Nat.ne_of_lt (Nat.lt_of_lt_of_le A15.lt P18_1)
    show own_Gl _ _ _ _ _ _ _ (T18.setTop (mkF m 73 #[.val (.int ln), .val (.int p0), .val (.int p1), .val (.int p2), .val (.int 2), .val (.int cw_1), .val (.int cw_2), .val (.int cw_3), .val (.ref b4), .unset, .unset] [(.ref b15)]))
    refine own_st (fun _ k => XS.astore X18.here hx rfl (hb hby at_73) rfl rfl (l' := #[.val (.int ln), .val (.int p0), .val (.int p1), .val (.int p2), .val (.int 2), .val (.int cw_1), .val (.int cw_2), .val (.int cw_3), .val (.ref b4), .val (.ref b15), .unset]) rfl k) ?_
    have J124_23 : ∀ (T23 : State) (LL23 : List Loc) (N23 : Fr n0 LL23) (X23 : Stand p l e room_1 s m #[(.int ln), (.int p0), (.int p1), (.int p2)] below meth c T23 LL23 4 12) (e23 : T23.heap = hh18) (ex : Int32) (hex : ex = (if own_ws cw_1 = (0 : Int32) then (0 : Int32) else (if own_ws cw_2 = (0 : Int32) then (0 : Int32) else (1 : Int32)))), own_Gl p e below s (own_Q_own_law2 Z ln p0 p1 p2 cs sf h0 n0) room_1.cells room_1.slots (T23.setTop (mkF m 124 #[.val (.int ln), .val (.int p0), .val (.int p1), .val (.int p2), .val (.int 2), .val (.int cw_1), .val (.int cw_2), .val (.int cw_3), .val (.ref b4), .val (.ref b15), .val (.int ex)] [])) := by
      intro T23 LL23 N23 X23 e23 ex hex
      show own_Gl _ _ _ _ _ _ _ (T23.setTop (mkF m 124 #[.val (.int ln), .val (.int p0), .val (.int p1), .val (.int p2), .val (.int 2), .val (.int cw_1), .val (.int cw_2), .val (.int cw_3), .val (.ref b4), .val (.ref b15), .val (.int ex)] []))
      refine own_st (fun _ k => XS.aload X23.here hx rfl (hb hby at_124) rfl rfl k) ?_
      have f25 := (f20.keep Kq18 (allS g_b15 all0))
      have f26 := (A15.keep Kq18)
      have f27 := (f19.keep Kq18 (ninS ne_b4_b15 nin0))
      obtain ⟨_, _, ⟨T24, L24, k24, n24⟩, -, X24, ⟨Lc24, hQ24, l24, y24, z24⟩, st24⟩ := Jvm.LawKit.callS X23 hx (y := oM23) hown (mvT hZ (oW hw 26 rfl)) (mvT hZ (oW hw 27 rfl)) (mvT hZ (oW hw 28 rfl)) (mvT hZ (oW hw 29 rfl)) (by decide) (backOf (W := 0) (own_iws2_1 l Z a0 hw [] b15 r_18 kr_18 sf cs cw_1 cw_2 hh18 n0 Zs22 f25 sA sH sL sF hsf sC hcs f26 P18_3 P18_4 P18_2 P1_0 P2_0) hZ (oW hw 29 rfl) (oW hw 28 rfl) (by decide) (by decide)) (g := (mkF m 126 #[.val (.int ln), .val (.int p0), .val (.int p1), .val (.int p2), .val (.int 2), .val (.int cw_1), .val (.int cw_2), .val (.int cw_3), .val (.ref b4), .val (.ref b15), .val (.int ex)] [(.ref b15)])) rfl (by rw [hml]; rfl) (argsL := [(.ref b15)]) (rest := []) (lenOf own_pd695904231 rfl) rfl (by show 2 * 0 + _ ≤ _; exact Nat.le_of_eq rfl) (hb hby at_126) (fun _ _ => ⟨rfl, e23, (by decide : 4 + 0 ≤ room_1.cells), (by decide : 12 + 0 ≤ room_1.slots)⟩)
      dsimp only [Pt.U, Pt.locs, Pt.cells, Pt.slots] at X24 l24 y24 z24 st24 hQ24
      subst l24 y24 z24
      obtain ⟨hh24, eh024⟩ : ∃ z, T24.heap = z := ⟨_, rfl⟩
      rw [eh024] at hQ24
      obtain ⟨rfl, Nq24, eh24⟩ := hQ24
      have N24 := Fr.app N23 Nq24
      refine own_st st24 ?_
      have e24 : T24.heap = hh18 := eh024.trans eh24
      refine own_st (fun _ k => XS.iload X24.here hx rfl (hb hby at_129) rfl k) ?_
      have hd28 : (if own_ws cw_1 = (0 : Int32) then (0 : Int32) else (if own_ws cw_2 = (0 : Int32) then (0 : Int32) else (1 : Int32))) = ex := hex.symm
      refine own_st (fun _ k => XS.icmpNo X24.here hx rfl (hb hby at_131) rfl (teq hd28).2 k) ?_
      show own_Gl _ _ _ _ _ _ _ (T24.setTop (mkF m 134 #[.val (.int ln), .val (.int p0), .val (.int p1), .val (.int p2), .val (.int 2), .val (.int cw_1), .val (.int cw_2), .val (.int cw_3), .val (.ref b4), .val (.ref b15), .val (.int ex)] []))
      refine own_st (fun _ k => XS.iconst X24.here hx rfl (hb hby at_134) k) ?_
      refine own_st (fun _ k => XS.goto X24.here hx rfl (pc0 := 135) (pc' := 139) rfl (hb hby at_135) (by decide) (by decide) k) ?_
      show own_Gl _ _ _ _ _ _ _ (T24.setTop (mkF m 139 #[.val (.int ln), .val (.int p0), .val (.int p1), .val (.int p2), .val (.int 2), .val (.int cw_1), .val (.int cw_2), .val (.int cw_3), .val (.ref b4), .val (.ref b15), .val (.int ex)] [(.int 1)]))
      exact own_retN X24 hx hlk (t := .boolean) hret (by simp) (hb hby at_139) e24 ⟨rfl, N24⟩ (by decide) (by decide)
    refine own_st (fun _ k => XS.iload X18.here hx rfl (hb hby at_75) rfl k) ?_
    refine own_st (fun _ k => XS.iconst X18.here hx rfl (hb hby at_77) k) ?_
    have hd29 : ¬ ((2 : Int32) < (1 : Int32)) := (by decide)
    refine own_st (fun _ k => XS.icmpNo X18.here hx rfl (hb hby at_78) rfl (flt hd29).1 k) ?_
    show own_Gl _ _ _ _ _ _ _ (T18.setTop (mkF m 81 #[.val (.int ln), .val (.int p0), .val (.int p1), .val (.int p2), .val (.int 2), .val (.int cw_1), .val (.int cw_2), .val (.int cw_3), .val (.ref b4), .val (.ref b15), .unset] []))
    refine own_st (fun _ k => XS.iload X18.here hx rfl (hb hby at_81) rfl k) ?_
    have f31 := (f19.keep Kq18 (ninS ne_b4_b15 nin0))
    have f32 := (A15.keep Kq18)
    obtain ⟨_, _, ⟨T30, L30, k30, n30⟩, -, X30, ⟨Lc30, hQ30, l30, y30, z30⟩, st30⟩ := Jvm.LawKit.callS X18 hx (y := oM1) hown (mvT hZ (oW hw 55 rfl)) (mvT hZ (oW hw 56 rfl)) (mvT hZ (oW hw 2 rfl)) (mvT hZ (oW hw 57 rfl)) (by decide) (backOf (W := 0) (own_w1 l Z a0 hw [] cw_1 hh18 n0 Zs22 ) hZ (oW hw 57 rfl) (oW hw 2 rfl) (by decide) (by decide)) (g := (mkF m 83 #[.val (.int ln), .val (.int p0), .val (.int p1), .val (.int p2), .val (.int 2), .val (.int cw_1), .val (.int cw_2), .val (.int cw_3), .val (.ref b4), .val (.ref b15), .unset] [(.int cw_1)])) rfl (by rw [hml]; rfl) (argsL := [(.int cw_1)]) (rest := []) (lenOf own_pd91078888 rfl) rfl (by show 2 * 0 + _ ≤ _; exact Nat.le_of_eq rfl) (hb hby at_83) (fun _ _ => ⟨rfl, eh018, (by decide : 4 + 0 ≤ room_1.cells), (by decide : 12 + 0 ≤ room_1.slots)⟩)
    dsimp only [Pt.U, Pt.locs, Pt.cells, Pt.slots] at X30 l30 y30 z30 st30 hQ30
    subst l30 y30 z30
    obtain ⟨hh30, eh030⟩ : ∃ z, T30.heap = z := ⟨_, rfl⟩
    rw [eh030] at hQ30
    obtain ⟨rfl, Nq30, eh30⟩ := hQ30
    have N30 := Fr.app N18 Nq30
    refine own_st st30 ?_
    have e30 : T30.heap = hh18 := eh030.trans eh30
    by_cases hc86 : (own_ws cw_1) = (0 : Int32)
    · refine own_st (fun _ k => XS.ifYes X30.here hx rfl (pc0 := 86) (pc' := 121) rfl (hb hby at_86) rfl ((if0 _ _).trans (teq hc86).1) (by decide) (by decide) k) ?_
      refine own_st (fun _ k => XS.iconst X30.here hx rfl (hb hby at_121) k) ?_
      show own_Gl _ _ _ _ _ _ _ (T30.setTop (mkF m 122 #[.val (.int ln), .val (.int p0), .val (.int p1), .val (.int p2), .val (.int 2), .val (.int cw_1), .val (.int cw_2), .val (.int cw_3), .val (.ref b4), .val (.ref b15), .unset] [(.int 0)]))
      refine own_st (fun _ k => XS.istore X30.here hx rfl (hb hby at_122) rfl (l' := #[.val (.int ln), .val (.int p0), .val (.int p1), .val (.int p2), .val (.int 2), .val (.int cw_1), .val (.int cw_2), .val (.int cw_3), .val (.ref b4), .val (.ref b15), .val (.int 0)]) rfl k) ?_
      show own_Gl _ _ _ _ _ _ _ (T30.setTop (mkF m 124 #[.val (.int ln), .val (.int p0), .val (.int p1), .val (.int p2), .val (.int 2), .val (.int cw_1), .val (.int cw_2), .val (.int cw_3), .val (.ref b4), .val (.ref b15), .val (.int 0)] []))
      exact J124_23 T30 _ N30 X30 e30 ((0 : Int32)) (by rw [if_pos hc86])
    · refine own_st (fun _ k => XS.ifNo X30.here hx rfl (hb hby at_86) rfl ((if0 _ _).trans (feq hc86).1) k) ?_
      refine own_st (fun _ k => XS.iload X30.here hx rfl (hb hby at_89) rfl k) ?_
      show own_Gl _ _ _ _ _ _ _ (T30.setTop (mkF m 91 #[.val (.int ln), .val (.int p0), .val (.int p1), .val (.int p2), .val (.int 2), .val (.int cw_1), .val (.int cw_2), .val (.int cw_3), .val (.ref b4), .val (.ref b15), .unset] [(.int 2)]))
      refine own_st (fun _ k => XS.iconst X30.here hx rfl (hb hby at_91) k) ?_
      have hd33 : ¬ ((2 : Int32) < (2 : Int32)) := (by decide)
      refine own_st (fun _ k => XS.icmpNo X30.here hx rfl (hb hby at_92) rfl (flt hd33).1 k) ?_
      refine own_st (fun _ k => XS.iload X30.here hx rfl (hb hby at_95) rfl k) ?_
      obtain ⟨_, _, ⟨T34, L34, k34, n34⟩, -, X34, ⟨Lc34, hQ34, l34, y34, z34⟩, st34⟩ := Jvm.LawKit.callS X30 hx (y := oM1) hown (mvT hZ (oW hw 55 rfl)) (mvT hZ (oW hw 56 rfl)) (mvT hZ (oW hw 2 rfl)) (mvT hZ (oW hw 57 rfl)) (by decide) (backOf (W := 0) (own_w1 l Z a0 hw [] cw_2 hh18 n0 Zs22 ) hZ (oW hw 57 rfl) (oW hw 2 rfl) (by decide) (by decide)) (g := (mkF m 97 #[.val (.int ln), .val (.int p0), .val (.int p1), .val (.int p2), .val (.int 2), .val (.int cw_1), .val (.int cw_2), .val (.int cw_3), .val (.ref b4), .val (.ref b15), .unset] [(.int cw_2)])) rfl (by rw [hml]; rfl) (argsL := [(.int cw_2)]) (rest := []) (lenOf own_pd91078888 rfl) rfl (by show 2 * 0 + _ ≤ _; exact Nat.le_of_eq rfl) (hb hby at_97) (fun _ _ => ⟨rfl, e30, (by decide : 4 + 0 ≤ room_1.cells), (by decide : 12 + 0 ≤ room_1.slots)⟩)
      dsimp only [Pt.U, Pt.locs, Pt.cells, Pt.slots] at X34 l34 y34 z34 st34 hQ34
      subst l34 y34 z34
      obtain ⟨hh34, eh034⟩ : ∃ z, T34.heap = z := ⟨_, rfl⟩
      rw [eh034] at hQ34
      obtain ⟨rfl, Nq34, eh34⟩ := hQ34
      have N34 := Fr.app N30 Nq34
      refine own_st st34 ?_
      have e34 : T34.heap = hh18 := eh034.trans eh34
      show own_Gl _ _ _ _ _ _ _ (T34.setTop (mkF m 100 #[.val (.int ln), .val (.int p0), .val (.int p1), .val (.int p2), .val (.int 2), .val (.int cw_1), .val (.int cw_2), .val (.int cw_3), .val (.ref b4), .val (.ref b15), .unset] [(.int (own_ws cw_2))]))
      by_cases hc100 : (own_ws cw_2) = (0 : Int32)
      · refine own_st (fun _ k => XS.ifYes X34.here hx rfl (pc0 := 100) (pc' := 121) rfl (hb hby at_100) rfl ((if0 _ _).trans (teq hc100).1) (by decide) (by decide) k) ?_
        refine own_st (fun _ k => XS.iconst X34.here hx rfl (hb hby at_121) k) ?_
        refine own_st (fun _ k => XS.istore X34.here hx rfl (hb hby at_122) rfl (l' := #[.val (.int ln), .val (.int p0), .val (.int p1), .val (.int p2), .val (.int 2), .val (.int cw_1), .val (.int cw_2), .val (.int cw_3), .val (.ref b4), .val (.ref b15), .val (.int 0)]) rfl k) ?_
        show own_Gl _ _ _ _ _ _ _ (T34.setTop (mkF m 124 #[.val (.int ln), .val (.int p0), .val (.int p1), .val (.int p2), .val (.int 2), .val (.int cw_1), .val (.int cw_2), .val (.int cw_3), .val (.ref b4), .val (.ref b15), .val (.int 0)] []))
        exact J124_23 T34 _ N34 X34 e34 ((0 : Int32)) (by rw [if_neg hc86, if_pos hc100])
      · refine own_st (fun _ k => XS.ifNo X34.here hx rfl (hb hby at_100) rfl ((if0 _ _).trans (feq hc100).1) k) ?_
        refine own_st (fun _ k => XS.iload X34.here hx rfl (hb hby at_103) rfl k) ?_
        refine own_st (fun _ k => XS.iconst X34.here hx rfl (hb hby at_105) k) ?_
        have hd35 : (2 : Int32) < (3 : Int32) := (by decide)
        refine own_st (fun _ k => XS.icmpYes X34.here hx rfl (pc0 := 106) (pc' := 117) rfl (hb hby at_106) rfl (tlt hd35).1 (by decide) (by decide) k) ?_
        show own_Gl _ _ _ _ _ _ _ (T34.setTop (mkF m 117 #[.val (.int ln), .val (.int p0), .val (.int p1), .val (.int p2), .val (.int 2), .val (.int cw_1), .val (.int cw_2), .val (.int cw_3), .val (.ref b4), .val (.ref b15), .unset] []))
        refine own_st (fun _ k => XS.iconst X34.here hx rfl (hb hby at_117) k) ?_
        refine own_st (fun _ k => XS.goto X34.here hx rfl (pc0 := 118) (pc' := 122) rfl (hb hby at_118) (by decide) (by decide) k) ?_
        refine own_st (fun _ k => XS.istore X34.here hx rfl (hb hby at_122) rfl (l' := #[.val (.int ln), .val (.int p0), .val (.int p1), .val (.int p2), .val (.int 2), .val (.int cw_1), .val (.int cw_2), .val (.int cw_3), .val (.ref b4), .val (.ref b15), .val (.int 1)]) rfl k) ?_
        show own_Gl _ _ _ _ _ _ _ (T34.setTop (mkF m 124 #[.val (.int ln), .val (.int p0), .val (.int p1), .val (.int p2), .val (.int 2), .val (.int cw_1), .val (.int cw_2), .val (.int cw_3), .val (.ref b4), .val (.ref b15), .val (.int 1)] []))
        exact J124_23 T34 _ N34 X34 e34 ((1 : Int32)) (by rw [if_neg hc86, if_neg hc100])
  · show own_Gl _ _ _ _ _ _ _ (T11.setTop (mkF m 64 #[.val (.int ln), .val (.int p0), .val (.int p1), .val (.int p2), .val (.int 2), .val (.int cw_1), .val (.int cw_2), .val (.int cw_3), .val (.ref b4), .unset, .unset] []))
    have K36 : Keep h0 h11 [] := ((((Keep.refl h0 []).ext E4).wr W8 (Or.inr gh_b4)).wr W11 (Or.inr gh_b4))
    obtain ⟨T37, h37, X37, e37, E37, A37, D37, -, st37⟩ := newO X11 hx hZ hown (oW hw 5 rfl) (oW hw 6 rfl) (oW hw 7 rfl) e11 (g := (mkF m 64 #[.val (.int ln), .val (.int p0), .val (.int p1), .val (.int p2), .val (.int 2), .val (.int cw_1), .val (.int cw_2), .val (.int cw_3), .val (.ref b4), .unset, .unset] [])) rfl (hb hby at_64) (by decide) (by decide)
    obtain ⟨b37, gb37⟩ : ∃ z, z = h11.size := ⟨_, rfl⟩
    rw [← gb37] at A37 D37 st37
    refine own_st st37 ?_
    have Zs38 : n0 ≤ h37.size := Nat.le_trans Zs12 E37.1
    have g_b37 : n0 ≤ b37 := Nat.le_trans Zs12 (Nat.le_of_eq gb37.symm)
    have gh_b37 : h0.size ≤ b37 := Nat.le_trans K36.1 (Nat.le_of_eq gb37.symm)
    have ne_b4_b37 : b4 ≠ b37 := Nat.ne_of_lt (Nat.lt_of_lt_of_le Vw11.lt (Nat.le_of_eq gb37.symm))
    have F_value_b37 : Fld Z h37 b37 "java/lang/String" "value" "[B" .null := D37 (Or.inr (oW hw 20 rfl)) (ty := (.array .byte)) (by decide)
    have F_coder_b37 : Fld Z h37 b37 "java/lang/String" "coder" "B" (.int 0) := D37 (Or.inr (oW hw 21 rfl)) (ty := .byte) (by decide)
    refine own_st (fun _ k => XS.dup X37.here hx rfl (hb hby at_67) rfl rfl k) ?_
    refine own_st (fun _ k => XS.aload X37.here hx rfl (hb hby at_68) rfl rfl k) ?_
    have f41 := (Vw11.ext E37)
    have f42 := ((((Old0.ext E4).wr W8 g_b4).wr W11 g_b4).ext E37)
    obtain ⟨_, _, ⟨T40, L40, k40, n40⟩, -, X40, ⟨Lc40, hQ40, l40, y40, z40⟩, st40⟩ := X37.specialBack hx (y := oM17) rfl hown (mvT hZ (oW hw 8 rfl)) (mvT hZ (oW hw 9 rfl)) (mvT hZ (oW hw 10 rfl)) (by decide) (backOf (W := 1) (own_i1_2_l l Z a0 hw [] b37 b4 k4 cw_1 cw_2 cs h37 n0 Zs38 A37 F_value_b37 F_coder_b37 g_b37 (Ne.symm ne_b4_b37) f41 (fun q => hbig (Or.inl q)) (fun q => hbig (Or.inr q)) sC hcs f42) hZ (oW hw 10 rfl) (oW hw 7 rfl) (by decide) (by decide)) (g := (mkF m 70 #[.val (.int ln), .val (.int p0), .val (.int p1), .val (.int p2), .val (.int 2), .val (.int cw_1), .val (.int cw_2), .val (.int cw_3), .val (.ref b4), .unset, .unset] [(.ref b4), (.ref b37), (.ref b37)])) rfl (by rw [hml]; rfl) (Steps.refl _) (a := b37) (argsL := [(.ref b4)]) (rest := [(.ref b37)]) (lenOf own_pd985728365 rfl) rfl (by show 2 * 0 + _ ≤ _; exact Nat.le_of_eq rfl) (hb hby at_70) (fun _ _ => ⟨rfl, e37, (by decide : 2 + 1 ≤ room_1.cells), (by decide : 6 + 2 ≤ room_1.slots)⟩)
    dsimp only [Pt.U, Pt.locs, Pt.cells, Pt.slots] at X40 l40 y40 z40 st40 hQ40
    subst l40 y40 z40
    obtain ⟨hh40, eh040⟩ : ∃ z, T40.heap = z := ⟨_, rfl⟩
    rw [eh040] at hQ40
    obtain ⟨r_40, kr_40, rfl, Nq40, Kq40, P40_0, P40_1, P40_2, P40_3, P40_4⟩ := hQ40
    have N40 := Fr.app N11 Nq40
    refine own_tr st40 ?_
    have K43 : Keep h0 h37 [] := (K36.ext E37)
    have Zs44 : n0 ≤ hh40.size := Nat.le_trans Zs38 Kq40.1
    have gh_r_40 : h0.size ≤ r_40 := Nat.le_trans K43.1 P40_1
    have ne_b4_r_40 : b4 ≠ r_40 := Nat.ne_of_lt (Nat.lt_of_lt_of_le f41.lt P40_1)
    have ne_b37_r_40 : b37 ≠ r_40 := Nat.ne_of_lt (Nat.lt_of_lt_of_le A37.lt P40_1)
    show own_Gl _ _ _ _ _ _ _ (T40.setTop (mkF m 73 #[.val (.int ln), .val (.int p0), .val (.int p1), .val (.int p2), .val (.int 2), .val (.int cw_1), .val (.int cw_2), .val (.int cw_3), .val (.ref b4), .unset, .unset] [(.ref b37)]))
    refine own_st (fun _ k => XS.astore X40.here hx rfl (hb hby at_73) rfl rfl (l' := #[.val (.int ln), .val (.int p0), .val (.int p1), .val (.int p2), .val (.int 2), .val (.int cw_1), .val (.int cw_2), .val (.int cw_3), .val (.ref b4), .val (.ref b37), .unset]) rfl k) ?_
    have J124_45 : ∀ (T45 : State) (LL45 : List Loc) (N45 : Fr n0 LL45) (X45 : Stand p l e room_1 s m #[(.int ln), (.int p0), (.int p1), (.int p2)] below meth c T45 LL45 3 8) (e45 : T45.heap = hh40) (ex : Int32) (hex : ex = (if own_ws cw_1 = (0 : Int32) then (0 : Int32) else (if own_ws cw_2 = (0 : Int32) then (0 : Int32) else (1 : Int32)))), own_Gl p e below s (own_Q_own_law2 Z ln p0 p1 p2 cs sf h0 n0) room_1.cells room_1.slots (T45.setTop (mkF m 124 #[.val (.int ln), .val (.int p0), .val (.int p1), .val (.int p2), .val (.int 2), .val (.int cw_1), .val (.int cw_2), .val (.int cw_3), .val (.ref b4), .val (.ref b37), .val (.int ex)] [])) := by
      intro T45 LL45 N45 X45 e45 ex hex
      show own_Gl _ _ _ _ _ _ _ (T45.setTop (mkF m 124 #[.val (.int ln), .val (.int p0), .val (.int p1), .val (.int p2), .val (.int 2), .val (.int cw_1), .val (.int cw_2), .val (.int cw_3), .val (.ref b4), .val (.ref b37), .val (.int ex)] []))
      refine own_st (fun _ k => XS.aload X45.here hx rfl (hb hby at_124) rfl rfl k) ?_
      have f47 := (f42.keep Kq40 (allS g_b37 all0))
      have f48 := (A37.keep Kq40)
      have f49 := (f41.keep Kq40 (ninS ne_b4_b37 nin0))
      obtain ⟨_, _, ⟨T46, L46, k46, n46⟩, -, X46, ⟨Lc46, hQ46, l46, y46, z46⟩, st46⟩ := Jvm.LawKit.callS X45 hx (y := oM23) hown (mvT hZ (oW hw 26 rfl)) (mvT hZ (oW hw 27 rfl)) (mvT hZ (oW hw 28 rfl)) (mvT hZ (oW hw 29 rfl)) (by decide) (backOf (W := 0) (own_iws2_0 l Z a0 hw [] b37 r_40 kr_40 sf cs cw_1 cw_2 hh40 n0 Zs44 f47 sF hsf sC hcs f48 P40_3 P40_4 P40_2 ⟨P1_0.1, (fun q => hbig (Or.inl q))⟩ ⟨P2_0.1, (fun q => hbig (Or.inr q))⟩) hZ (oW hw 29 rfl) (oW hw 28 rfl) (by decide) (by decide)) (g := (mkF m 126 #[.val (.int ln), .val (.int p0), .val (.int p1), .val (.int p2), .val (.int 2), .val (.int cw_1), .val (.int cw_2), .val (.int cw_3), .val (.ref b4), .val (.ref b37), .val (.int ex)] [(.ref b37)])) rfl (by rw [hml]; rfl) (argsL := [(.ref b37)]) (rest := []) (lenOf own_pd695904231 rfl) rfl (by show 2 * 0 + _ ≤ _; exact Nat.le_of_eq rfl) (hb hby at_126) (fun _ _ => ⟨rfl, e45, (by decide : 3 + 0 ≤ room_1.cells), (by decide : 8 + 0 ≤ room_1.slots)⟩)
      dsimp only [Pt.U, Pt.locs, Pt.cells, Pt.slots] at X46 l46 y46 z46 st46 hQ46
      subst l46 y46 z46
      obtain ⟨hh46, eh046⟩ : ∃ z, T46.heap = z := ⟨_, rfl⟩
      rw [eh046] at hQ46
      obtain ⟨rfl, Nq46, eh46⟩ := hQ46
      have N46 := Fr.app N45 Nq46
      refine own_st st46 ?_
      have e46 : T46.heap = hh40 := eh046.trans eh46
      refine own_st (fun _ k => XS.iload X46.here hx rfl (hb hby at_129) rfl k) ?_
      have hd50 : (if own_ws cw_1 = (0 : Int32) then (0 : Int32) else (if own_ws cw_2 = (0 : Int32) then (0 : Int32) else (1 : Int32))) = ex := hex.symm
      refine own_st (fun _ k => XS.icmpNo X46.here hx rfl (hb hby at_131) rfl (teq hd50).2 k) ?_
      show own_Gl _ _ _ _ _ _ _ (T46.setTop (mkF m 134 #[.val (.int ln), .val (.int p0), .val (.int p1), .val (.int p2), .val (.int 2), .val (.int cw_1), .val (.int cw_2), .val (.int cw_3), .val (.ref b4), .val (.ref b37), .val (.int ex)] []))
      refine own_st (fun _ k => XS.iconst X46.here hx rfl (hb hby at_134) k) ?_
      refine own_st (fun _ k => XS.goto X46.here hx rfl (pc0 := 135) (pc' := 139) rfl (hb hby at_135) (by decide) (by decide) k) ?_
      show own_Gl _ _ _ _ _ _ _ (T46.setTop (mkF m 139 #[.val (.int ln), .val (.int p0), .val (.int p1), .val (.int p2), .val (.int 2), .val (.int cw_1), .val (.int cw_2), .val (.int cw_3), .val (.ref b4), .val (.ref b37), .val (.int ex)] [(.int 1)]))
      exact own_retN X46 hx hlk (t := .boolean) hret (by simp) (hb hby at_139) e46 ⟨rfl, N46⟩ (by decide) (by decide)
    refine own_st (fun _ k => XS.iload X40.here hx rfl (hb hby at_75) rfl k) ?_
    refine own_st (fun _ k => XS.iconst X40.here hx rfl (hb hby at_77) k) ?_
    have hd51 : ¬ ((2 : Int32) < (1 : Int32)) := (by decide)
    refine own_st (fun _ k => XS.icmpNo X40.here hx rfl (hb hby at_78) rfl (flt hd51).1 k) ?_
    show own_Gl _ _ _ _ _ _ _ (T40.setTop (mkF m 81 #[.val (.int ln), .val (.int p0), .val (.int p1), .val (.int p2), .val (.int 2), .val (.int cw_1), .val (.int cw_2), .val (.int cw_3), .val (.ref b4), .val (.ref b37), .unset] []))
    refine own_st (fun _ k => XS.iload X40.here hx rfl (hb hby at_81) rfl k) ?_
    have f53 := (f41.keep Kq40 (ninS ne_b4_b37 nin0))
    have f54 := (A37.keep Kq40)
    obtain ⟨_, _, ⟨T52, L52, k52, n52⟩, -, X52, ⟨Lc52, hQ52, l52, y52, z52⟩, st52⟩ := Jvm.LawKit.callS X40 hx (y := oM1) hown (mvT hZ (oW hw 55 rfl)) (mvT hZ (oW hw 56 rfl)) (mvT hZ (oW hw 2 rfl)) (mvT hZ (oW hw 57 rfl)) (by decide) (backOf (W := 0) (own_w1 l Z a0 hw [] cw_1 hh40 n0 Zs44 ) hZ (oW hw 57 rfl) (oW hw 2 rfl) (by decide) (by decide)) (g := (mkF m 83 #[.val (.int ln), .val (.int p0), .val (.int p1), .val (.int p2), .val (.int 2), .val (.int cw_1), .val (.int cw_2), .val (.int cw_3), .val (.ref b4), .val (.ref b37), .unset] [(.int cw_1)])) rfl (by rw [hml]; rfl) (argsL := [(.int cw_1)]) (rest := []) (lenOf own_pd91078888 rfl) rfl (by show 2 * 0 + _ ≤ _; exact Nat.le_of_eq rfl) (hb hby at_83) (fun _ _ => ⟨rfl, eh040, (by decide : 3 + 0 ≤ room_1.cells), (by decide : 8 + 0 ≤ room_1.slots)⟩)
    dsimp only [Pt.U, Pt.locs, Pt.cells, Pt.slots] at X52 l52 y52 z52 st52 hQ52
    subst l52 y52 z52
    obtain ⟨hh52, eh052⟩ : ∃ z, T52.heap = z := ⟨_, rfl⟩
    rw [eh052] at hQ52
    obtain ⟨rfl, Nq52, eh52⟩ := hQ52
    have N52 := Fr.app N40 Nq52
    refine own_st st52 ?_
    have e52 : T52.heap = hh40 := eh052.trans eh52
    by_cases hc86 : (own_ws cw_1) = (0 : Int32)
    · refine own_st (fun _ k => XS.ifYes X52.here hx rfl (pc0 := 86) (pc' := 121) rfl (hb hby at_86) rfl ((if0 _ _).trans (teq hc86).1) (by decide) (by decide) k) ?_
      refine own_st (fun _ k => XS.iconst X52.here hx rfl (hb hby at_121) k) ?_
      show own_Gl _ _ _ _ _ _ _ (T52.setTop (mkF m 122 #[.val (.int ln), .val (.int p0), .val (.int p1), .val (.int p2), .val (.int 2), .val (.int cw_1), .val (.int cw_2), .val (.int cw_3), .val (.ref b4), .val (.ref b37), .unset] [(.int 0)]))
      refine own_st (fun _ k => XS.istore X52.here hx rfl (hb hby at_122) rfl (l' := #[.val (.int ln), .val (.int p0), .val (.int p1), .val (.int p2), .val (.int 2), .val (.int cw_1), .val (.int cw_2), .val (.int cw_3), .val (.ref b4), .val (.ref b37), .val (.int 0)]) rfl k) ?_
      show own_Gl _ _ _ _ _ _ _ (T52.setTop (mkF m 124 #[.val (.int ln), .val (.int p0), .val (.int p1), .val (.int p2), .val (.int 2), .val (.int cw_1), .val (.int cw_2), .val (.int cw_3), .val (.ref b4), .val (.ref b37), .val (.int 0)] []))
      exact J124_45 T52 _ N52 X52 e52 ((0 : Int32)) (by rw [if_pos hc86])
    · refine own_st (fun _ k => XS.ifNo X52.here hx rfl (hb hby at_86) rfl ((if0 _ _).trans (feq hc86).1) k) ?_
      refine own_st (fun _ k => XS.iload X52.here hx rfl (hb hby at_89) rfl k) ?_
      show own_Gl _ _ _ _ _ _ _ (T52.setTop (mkF m 91 #[.val (.int ln), .val (.int p0), .val (.int p1), .val (.int p2), .val (.int 2), .val (.int cw_1), .val (.int cw_2), .val (.int cw_3), .val (.ref b4), .val (.ref b37), .unset] [(.int 2)]))
      refine own_st (fun _ k => XS.iconst X52.here hx rfl (hb hby at_91) k) ?_
      have hd55 : ¬ ((2 : Int32) < (2 : Int32)) := (by decide)
      refine own_st (fun _ k => XS.icmpNo X52.here hx rfl (hb hby at_92) rfl (flt hd55).1 k) ?_
      refine own_st (fun _ k => XS.iload X52.here hx rfl (hb hby at_95) rfl k) ?_
      obtain ⟨_, _, ⟨T56, L56, k56, n56⟩, -, X56, ⟨Lc56, hQ56, l56, y56, z56⟩, st56⟩ := Jvm.LawKit.callS X52 hx (y := oM1) hown (mvT hZ (oW hw 55 rfl)) (mvT hZ (oW hw 56 rfl)) (mvT hZ (oW hw 2 rfl)) (mvT hZ (oW hw 57 rfl)) (by decide) (backOf (W := 0) (own_w1 l Z a0 hw [] cw_2 hh40 n0 Zs44 ) hZ (oW hw 57 rfl) (oW hw 2 rfl) (by decide) (by decide)) (g := (mkF m 97 #[.val (.int ln), .val (.int p0), .val (.int p1), .val (.int p2), .val (.int 2), .val (.int cw_1), .val (.int cw_2), .val (.int cw_3), .val (.ref b4), .val (.ref b37), .unset] [(.int cw_2)])) rfl (by rw [hml]; rfl) (argsL := [(.int cw_2)]) (rest := []) (lenOf own_pd91078888 rfl) rfl (by show 2 * 0 + _ ≤ _; exact Nat.le_of_eq rfl) (hb hby at_97) (fun _ _ => ⟨rfl, e52, (by decide : 3 + 0 ≤ room_1.cells), (by decide : 8 + 0 ≤ room_1.slots)⟩)
      dsimp only [Pt.U, Pt.locs, Pt.cells, Pt.slots] at X56 l56 y56 z56 st56 hQ56
      subst l56 y56 z56
      obtain ⟨hh56, eh056⟩ : ∃ z, T56.heap = z := ⟨_, rfl⟩
      rw [eh056] at hQ56
      obtain ⟨rfl, Nq56, eh56⟩ := hQ56
      have N56 := Fr.app N52 Nq56
      refine own_st st56 ?_
      have e56 : T56.heap = hh40 := eh056.trans eh56
      show own_Gl _ _ _ _ _ _ _ (T56.setTop (mkF m 100 #[.val (.int ln), .val (.int p0), .val (.int p1), .val (.int p2), .val (.int 2), .val (.int cw_1), .val (.int cw_2), .val (.int cw_3), .val (.ref b4), .val (.ref b37), .unset] [(.int (own_ws cw_2))]))
      by_cases hc100 : (own_ws cw_2) = (0 : Int32)
      · refine own_st (fun _ k => XS.ifYes X56.here hx rfl (pc0 := 100) (pc' := 121) rfl (hb hby at_100) rfl ((if0 _ _).trans (teq hc100).1) (by decide) (by decide) k) ?_
        refine own_st (fun _ k => XS.iconst X56.here hx rfl (hb hby at_121) k) ?_
        refine own_st (fun _ k => XS.istore X56.here hx rfl (hb hby at_122) rfl (l' := #[.val (.int ln), .val (.int p0), .val (.int p1), .val (.int p2), .val (.int 2), .val (.int cw_1), .val (.int cw_2), .val (.int cw_3), .val (.ref b4), .val (.ref b37), .val (.int 0)]) rfl k) ?_
        show own_Gl _ _ _ _ _ _ _ (T56.setTop (mkF m 124 #[.val (.int ln), .val (.int p0), .val (.int p1), .val (.int p2), .val (.int 2), .val (.int cw_1), .val (.int cw_2), .val (.int cw_3), .val (.ref b4), .val (.ref b37), .val (.int 0)] []))
        exact J124_45 T56 _ N56 X56 e56 ((0 : Int32)) (by rw [if_neg hc86, if_pos hc100])
      · refine own_st (fun _ k => XS.ifNo X56.here hx rfl (hb hby at_100) rfl ((if0 _ _).trans (feq hc100).1) k) ?_
        refine own_st (fun _ k => XS.iload X56.here hx rfl (hb hby at_103) rfl k) ?_
        refine own_st (fun _ k => XS.iconst X56.here hx rfl (hb hby at_105) k) ?_
        have hd57 : (2 : Int32) < (3 : Int32) := (by decide)
        refine own_st (fun _ k => XS.icmpYes X56.here hx rfl (pc0 := 106) (pc' := 117) rfl (hb hby at_106) rfl (tlt hd57).1 (by decide) (by decide) k) ?_
        show own_Gl _ _ _ _ _ _ _ (T56.setTop (mkF m 117 #[.val (.int ln), .val (.int p0), .val (.int p1), .val (.int p2), .val (.int 2), .val (.int cw_1), .val (.int cw_2), .val (.int cw_3), .val (.ref b4), .val (.ref b37), .unset] []))
        refine own_st (fun _ k => XS.iconst X56.here hx rfl (hb hby at_117) k) ?_
        refine own_st (fun _ k => XS.goto X56.here hx rfl (pc0 := 118) (pc' := 122) rfl (hb hby at_118) (by decide) (by decide) k) ?_
        refine own_st (fun _ k => XS.istore X56.here hx rfl (hb hby at_122) rfl (l' := #[.val (.int ln), .val (.int p0), .val (.int p1), .val (.int p2), .val (.int 2), .val (.int cw_1), .val (.int cw_2), .val (.int cw_3), .val (.ref b4), .val (.ref b37), .val (.int 1)]) rfl k) ?_
        show own_Gl _ _ _ _ _ _ _ (T56.setTop (mkF m 124 #[.val (.int ln), .val (.int p0), .val (.int p1), .val (.int p2), .val (.int 2), .val (.int cw_1), .val (.int cw_2), .val (.int cw_3), .val (.ref b4), .val (.ref b37), .val (.int 1)] []))
        exact J124_45 T56 _ N56 X56 e56 ((1 : Int32)) (by rw [if_neg hc86, if_neg hc100])
theorem own_ef_own_law3 (m : MethodId) (x0 : Int32) (x1 : Int32) (x2 : Int32) (x3 : Int32) : entryFrame m #[(.int x0), (.int x1), (.int x2), (.int x3)] maxLocals = mkF m 0 #[.val (.int x0), .val (.int x1), .val (.int x2), .val (.int x3), .unset, .unset, .unset, .unset, .unset, .unset, .unset] [] := by first | (simp [entryFrame, mkF, argsToLocals, Value.category, maxLocals]; done) | rfl
def own_Q_own_law3 (Z : State) (ln : Int32) (p0 : Int32) (p1 : Int32) (p2 : Int32) (cs : Int32) (sf : Value) (h0 : Heap) (n0 : Nat) (v : Option Value) (h : Heap) (L : List Loc) : Prop := v = some (.int 1) ∧ Fr n0 L

theorem own_law3 (l : Launch) (Z : State) (a0 : Array Value) (hw : oT a0 Z) (ws : List Jvm.Cond) (ln : Int32) (p0 : Int32) (p1 : Int32) (p2 : Int32) (cs : Int32) (sf : Value) (h0 : Heap) (n0 : Nat) (Z0 : n0 ≤ h0.size) (Old0 : Old Z n0 h0) (sC : Sta Z Z.heap "java/lang/String" "COMPACT_STRINGS" "Z" (.int cs)) (sA : Sta Z Z.heap "java/lang/StringUTF16" "$assertionsDisabled" "Z" (.int 1)) (sH : Sta Z Z.heap "java/lang/StringUTF16" "HI_BYTE_SHIFT" "I" (.int 0)) (sL : Sta Z Z.heap "java/lang/StringUTF16" "LO_BYTE_SHIFT" "I" (.int 8)) (sF : Sta Z Z.heap "jdk/internal/util/Preconditions" "SIOOBE_FORMATTER" "Ljava/util/function/BiFunction;" sf) (hcs : ¬ (cs = (0 : Int32))) (hsf : sf.isRef = true) (hE : ln &&& (3 : Int32) = (3 : Int32)) :
    MetFree l x (head1 (Jvm.Cond.code x code maxLocals ret :: ws) room_1) (fun xa xU => xa = #[(.int ln), (.int p0), (.int p1), (.int p2)] ∧ Z.Warmed39 xU.vm ∧ xU.heap = h0) (fun _ _ _ _ _ => True) (fun _ xU xo xV => ∃ v L, xo = .returned v ∧ own_Q_own_law3 Z ln p0 p1 p2 cs sf h0 n0 v xV.heap L ∧ FrameEnd xU xo xV L room_1.cells room_1.slots) := by
  refine MetFree.of_bodySF (plainFor_of_name own_pn590389167) hisR ?_
  intro p e s m args below meth c s₁ Bd hml0 hP hK
  obtain ⟨rfl, hZ, hh⟩ := hP
  have hx := Bd.exec
  have hby := Bd.bytes
  have hlk := Bd.notSynchronized
  have hret := Bd.returns
  have hml : c.maxLocals = 11 := hml0
  have hown : s.vm.findClass "com/example/brolga/brolga/xml/XmlCharactersIsWhiteSpacePinLaw" = some m.cls := findClass_of_methodNamed Bd.named
  have hnm := (name_of_methodNamed Bd.named Bd.method).1
  have X0 : Stand p l e room_1 s m #[(.int ln), (.int p0), (.int p1), (.int p2)] below meth c s₁ [] 0 0 := Stand.of_body Bd
  have e0 : s₁.heap = h0 := by rw [← hh, Bd.state]; rfl
  have N0 := Fr.nil n0
  show own_Gl p e below s (own_Q_own_law3 Z ln p0 p1 p2 cs sf h0 n0) room_1.cells room_1.slots _
  refine own_cast (own_ef_own_law3 m ln p0 p1 p2) ?_
  show own_Gl _ _ _ _ _ _ _ (s₁.setTop (mkF m 0 #[.val (.int ln), .val (.int p0), .val (.int p1), .val (.int p2), .unset, .unset, .unset, .unset, .unset, .unset, .unset] []))
  refine own_st (fun _ k => XS.iloadN X0.here hx rfl (hb hby at_0) rfl k) ?_
  refine own_st (fun _ k => XS.iconst X0.here hx rfl (hb hby at_1) k) ?_
  refine own_st (fun _ k => XS.iand X0.here hx rfl (hb hby at_2) rfl k) ?_
  show own_Gl _ _ _ _ _ _ _ (s₁.setTop (mkF m 3 #[.val (.int ln), .val (.int p0), .val (.int p1), .val (.int p2), .unset, .unset, .unset, .unset, .unset, .unset, .unset] [(.int (ln &&& (3 : Int32)))]))
  rw [hE]
  show own_Gl _ _ _ _ _ _ _ (s₁.setTop (mkF m 3 #[.val (.int ln), .val (.int p0), .val (.int p1), .val (.int p2), .unset, .unset, .unset, .unset, .unset, .unset, .unset] [(.int 3)]))
  refine own_st (fun _ k => XS.istore X0.here hx rfl (hb hby at_3) rfl (l' := #[.val (.int ln), .val (.int p0), .val (.int p1), .val (.int p2), .val (.int 3), .unset, .unset, .unset, .unset, .unset, .unset]) rfl k) ?_
  refine own_st (fun _ k => XS.iloadN X0.here hx rfl (hb hby at_5) rfl k) ?_
  obtain ⟨_, _, ⟨T1, L1, k1, n1⟩, -, X1, ⟨Lc1, hQ1, l1, y1, z1⟩, st1⟩ := Jvm.LawKit.callS X0 hx (y := oM0) hown (mvT hZ (oW hw 0 rfl)) (mvT hZ (oW hw 1 rfl)) (mvT hZ (oW hw 2 rfl)) (mvT hZ (oW hw 3 rfl)) (by decide) (backOf (W := 0) (own_draw l Z a0 hw [] p0 h0 n0 Z0 ) hZ (oW hw 3 rfl) (oW hw 2 rfl) (by decide) (by decide)) (g := (mkF m 6 #[.val (.int ln), .val (.int p0), .val (.int p1), .val (.int p2), .val (.int 3), .unset, .unset, .unset, .unset, .unset, .unset] [(.int p0)])) rfl (by rw [hml]; rfl) (argsL := [(.int p0)]) (rest := []) (lenOf own_pd91181831 rfl) rfl (by show 2 * 0 + _ ≤ _; exact Nat.le_of_eq rfl) (hb hby at_6) (fun _ _ => ⟨rfl, e0, (by decide : 0 + 0 ≤ room_1.cells), (by decide : 0 + 0 ≤ room_1.slots)⟩)
  dsimp only [Pt.U, Pt.locs, Pt.cells, Pt.slots] at X1 l1 y1 z1 st1 hQ1
  subst l1 y1 z1
  obtain ⟨hh1, eh01⟩ : ∃ z, T1.heap = z := ⟨_, rfl⟩
  rw [eh01] at hQ1
  obtain ⟨cw_1, rfl, Nq1, eh1, P1_0⟩ := hQ1
  have N1 := Fr.app N0 Nq1
  refine own_st st1 ?_
  have e1 : T1.heap = h0 := eh01.trans eh1
  refine own_st (fun _ k => XS.istore X1.here hx rfl (hb hby at_9) rfl (l' := #[.val (.int ln), .val (.int p0), .val (.int p1), .val (.int p2), .val (.int 3), .val (.int cw_1), .unset, .unset, .unset, .unset, .unset]) rfl k) ?_
  show own_Gl _ _ _ _ _ _ _ (T1.setTop (mkF m 11 #[.val (.int ln), .val (.int p0), .val (.int p1), .val (.int p2), .val (.int 3), .val (.int cw_1), .unset, .unset, .unset, .unset, .unset] []))
  refine own_st (fun _ k => XS.iloadN X1.here hx rfl (hb hby at_11) rfl k) ?_
  obtain ⟨_, _, ⟨T2, L2, k2, n2⟩, -, X2, ⟨Lc2, hQ2, l2, y2, z2⟩, st2⟩ := Jvm.LawKit.callS X1 hx (y := oM0) hown (mvT hZ (oW hw 0 rfl)) (mvT hZ (oW hw 1 rfl)) (mvT hZ (oW hw 2 rfl)) (mvT hZ (oW hw 3 rfl)) (by decide) (backOf (W := 0) (own_draw l Z a0 hw [] p1 h0 n0 Z0 ) hZ (oW hw 3 rfl) (oW hw 2 rfl) (by decide) (by decide)) (g := (mkF m 12 #[.val (.int ln), .val (.int p0), .val (.int p1), .val (.int p2), .val (.int 3), .val (.int cw_1), .unset, .unset, .unset, .unset, .unset] [(.int p1)])) rfl (by rw [hml]; rfl) (argsL := [(.int p1)]) (rest := []) (lenOf own_pd91181831 rfl) rfl (by show 2 * 0 + _ ≤ _; exact Nat.le_of_eq rfl) (hb hby at_12) (fun _ _ => ⟨rfl, e1, (by decide : 0 + 0 ≤ room_1.cells), (by decide : 0 + 0 ≤ room_1.slots)⟩)
  dsimp only [Pt.U, Pt.locs, Pt.cells, Pt.slots] at X2 l2 y2 z2 st2 hQ2
  subst l2 y2 z2
  obtain ⟨hh2, eh02⟩ : ∃ z, T2.heap = z := ⟨_, rfl⟩
  rw [eh02] at hQ2
  obtain ⟨cw_2, rfl, Nq2, eh2, P2_0⟩ := hQ2
  have N2 := Fr.app N1 Nq2
  refine own_st st2 ?_
  have e2 : T2.heap = h0 := eh02.trans eh2
  refine own_st (fun _ k => XS.istore X2.here hx rfl (hb hby at_15) rfl (l' := #[.val (.int ln), .val (.int p0), .val (.int p1), .val (.int p2), .val (.int 3), .val (.int cw_1), .val (.int cw_2), .unset, .unset, .unset, .unset]) rfl k) ?_
  refine own_st (fun _ k => XS.iloadN X2.here hx rfl (hb hby at_17) rfl k) ?_
  show own_Gl _ _ _ _ _ _ _ (T2.setTop (mkF m 18 #[.val (.int ln), .val (.int p0), .val (.int p1), .val (.int p2), .val (.int 3), .val (.int cw_1), .val (.int cw_2), .unset, .unset, .unset, .unset] [(.int p2)]))
  obtain ⟨_, _, ⟨T3, L3, k3, n3⟩, -, X3, ⟨Lc3, hQ3, l3, y3, z3⟩, st3⟩ := Jvm.LawKit.callS X2 hx (y := oM0) hown (mvT hZ (oW hw 0 rfl)) (mvT hZ (oW hw 1 rfl)) (mvT hZ (oW hw 2 rfl)) (mvT hZ (oW hw 3 rfl)) (by decide) (backOf (W := 0) (own_draw l Z a0 hw [] p2 h0 n0 Z0 ) hZ (oW hw 3 rfl) (oW hw 2 rfl) (by decide) (by decide)) (g := (mkF m 18 #[.val (.int ln), .val (.int p0), .val (.int p1), .val (.int p2), .val (.int 3), .val (.int cw_1), .val (.int cw_2), .unset, .unset, .unset, .unset] [(.int p2)])) rfl (by rw [hml]; rfl) (argsL := [(.int p2)]) (rest := []) (lenOf own_pd91181831 rfl) rfl (by show 2 * 0 + _ ≤ _; exact Nat.le_of_eq rfl) (hb hby at_18) (fun _ _ => ⟨rfl, e2, (by decide : 0 + 0 ≤ room_1.cells), (by decide : 0 + 0 ≤ room_1.slots)⟩)
  dsimp only [Pt.U, Pt.locs, Pt.cells, Pt.slots] at X3 l3 y3 z3 st3 hQ3
  subst l3 y3 z3
  obtain ⟨hh3, eh03⟩ : ∃ z, T3.heap = z := ⟨_, rfl⟩
  rw [eh03] at hQ3
  obtain ⟨cw_3, rfl, Nq3, eh3, P3_0⟩ := hQ3
  have N3 := Fr.app N2 Nq3
  refine own_st st3 ?_
  have e3 : T3.heap = h0 := eh03.trans eh3
  refine own_st (fun _ k => XS.istore X3.here hx rfl (hb hby at_21) rfl (l' := #[.val (.int ln), .val (.int p0), .val (.int p1), .val (.int p2), .val (.int 3), .val (.int cw_1), .val (.int cw_2), .val (.int cw_3), .unset, .unset, .unset]) rfl k) ?_
  refine own_st (fun _ k => XS.iload X3.here hx rfl (hb hby at_23) rfl k) ?_
  obtain ⟨T4, h4, k4, X4, e4, E4, A4, st4⟩ := newP X3 hx hZ (oW hw 4 rfl) e3 (g := (mkF m 25 #[.val (.int ln), .val (.int p0), .val (.int p1), .val (.int p2), .val (.int 3), .val (.int cw_1), .val (.int cw_2), .val (.int cw_3), .unset, .unset, .unset] [(.int 3)])) rfl (hb hby at_25) rfl (by decide) (cap := 3) (by decide) (by decide) (by decide) (by decide)
  obtain ⟨b4, gb4⟩ : ∃ z, z = h0.size := ⟨_, rfl⟩
  rw [← gb4] at A4 st4
  refine own_st st4 ?_
  have Zs5 : n0 ≤ h4.size := Nat.le_trans Z0 E4.1
  have g_b4 : n0 ≤ b4 := Nat.le_trans Z0 (Nat.le_of_eq gb4.symm)
  have gh_b4 : h0.size ≤ b4 := Nat.le_trans (Keep.refl h0 []).1 (Nat.le_of_eq gb4.symm)
  have V_b4 : Arv Z h4 b4 k4 .char (3 : Int32) [(.int 0), (.int 0), (.int 0)] (.int 0) := (Arv.new A4 (by decide)).pad (pad_rep [] (.int 0) 3)
  show own_Gl _ _ _ _ _ _ _ (T4.setTop (mkF m 27 #[.val (.int ln), .val (.int p0), .val (.int p1), .val (.int p2), .val (.int 3), .val (.int cw_1), .val (.int cw_2), .val (.int cw_3), .unset, .unset, .unset] [(.ref b4)]))
  refine own_st (fun _ k => XS.astore X4.here hx rfl (hb hby at_27) rfl rfl (l' := #[.val (.int ln), .val (.int p0), .val (.int p1), .val (.int p2), .val (.int 3), .val (.int cw_1), .val (.int cw_2), .val (.int cw_3), .val (.ref b4), .unset, .unset]) rfl k) ?_
  refine own_st (fun _ k => XS.iload X4.here hx rfl (hb hby at_29) rfl k) ?_
  have hd7 : (0 : Int32) < (3 : Int32) := (by decide)
  refine own_st (fun _ k => XS.ifNo X4.here hx rfl (hb hby at_31) rfl ((if0 _ _).trans (tlt hd7).2.2.2) k) ?_
  refine own_st (fun _ k => XS.aload X4.here hx rfl (hb hby at_34) rfl rfl k) ?_
  show own_Gl _ _ _ _ _ _ _ (T4.setTop (mkF m 36 #[.val (.int ln), .val (.int p0), .val (.int p1), .val (.int p2), .val (.int 3), .val (.int cw_1), .val (.int cw_2), .val (.int cw_3), .val (.ref b4), .unset, .unset] [(.ref b4)]))
  refine own_st (fun _ k => XS.iconst X4.here hx rfl (hb hby at_36) k) ?_
  refine own_st (fun _ k => XS.iload X4.here hx rfl (hb hby at_37) rfl k) ?_
  obtain ⟨cl8, Ar8, qq8, Ss8, Nn8, Hh8, Gg8⟩ := id V_b4
  have hin8 : ¬ ((0 : Int32) < 0 ∨ cl8.slots.size ≤ ((0 : Int32)).toNatClampNeg) := inb_of Ss8 ⟨by decide, by decide⟩
  obtain ⟨T8, h8, X8, e8, W8, st8⟩ := stC X4 hx hZ e4 Ar8 (j := (0 : Int32)) hin8 (g := (mkF m 39 #[.val (.int ln), .val (.int p0), .val (.int p1), .val (.int p2), .val (.int 3), .val (.int cw_1), .val (.int cw_2), .val (.int cw_3), .val (.ref b4), .unset, .unset] [(.int cw_1), (.int 0), (.ref b4)])) rfl rfl (hb hby at_39)
  have N8 := Fr.snoc X8 N3 g_b4
  refine own_st st8 ?_
  have Zs9 : n0 ≤ h8.size := Nat.le_trans Zs5 (Keep.of_wr W8).1
  have Vw8 : Arv Z h8 b4 k4 .char (3 : Int32) [(.int (nar .char cw_1)), (.int 0), (.int 0)] (.int 0) := Arv.set Ar8 qq8 Ss8 Nn8 Hh8 Gg8 (fits_nar_char _) W8 0 (rfl) (Nat.le_of_ble_eq_true rfl)
  rw [own_nc _ P1_0] at Vw8
  refine own_st (fun _ k => XS.iload X8.here hx rfl (hb hby at_40) rfl k) ?_
  show own_Gl _ _ _ _ _ _ _ (T8.setTop (mkF m 42 #[.val (.int ln), .val (.int p0), .val (.int p1), .val (.int p2), .val (.int 3), .val (.int cw_1), .val (.int cw_2), .val (.int cw_3), .val (.ref b4), .unset, .unset] [(.int 3)]))
  refine own_st (fun _ k => XS.iconst X8.here hx rfl (hb hby at_42) k) ?_
  have hd10 : (1 : Int32) < (3 : Int32) := (by decide)
  refine own_st (fun _ k => XS.icmpNo X8.here hx rfl (hb hby at_43) rfl (tlt hd10).2.2.2 k) ?_
  refine own_st (fun _ k => XS.aload X8.here hx rfl (hb hby at_46) rfl rfl k) ?_
  refine own_st (fun _ k => XS.iconst X8.here hx rfl (hb hby at_48) k) ?_
  show own_Gl _ _ _ _ _ _ _ (T8.setTop (mkF m 49 #[.val (.int ln), .val (.int p0), .val (.int p1), .val (.int p2), .val (.int 3), .val (.int cw_1), .val (.int cw_2), .val (.int cw_3), .val (.ref b4), .unset, .unset] [(.int 1), (.ref b4)]))
  refine own_st (fun _ k => XS.iload X8.here hx rfl (hb hby at_49) rfl k) ?_
  obtain ⟨cl11, Ar11, qq11, Ss11, Nn11, Hh11, Gg11⟩ := id Vw8
  have hin11 : ¬ ((1 : Int32) < 0 ∨ cl11.slots.size ≤ ((1 : Int32)).toNatClampNeg) := inb_of Ss11 ⟨by decide, by decide⟩
  obtain ⟨T11, h11, X11, e11, W11, st11⟩ := stC X8 hx hZ e8 Ar11 (j := (1 : Int32)) hin11 (g := (mkF m 51 #[.val (.int ln), .val (.int p0), .val (.int p1), .val (.int p2), .val (.int 3), .val (.int cw_1), .val (.int cw_2), .val (.int cw_3), .val (.ref b4), .unset, .unset] [(.int cw_2), (.int 1), (.ref b4)])) rfl rfl (hb hby at_51)
  have N11 := Fr.snoc X11 N8 g_b4
  refine own_st st11 ?_
  have Zs12 : n0 ≤ h11.size := Nat.le_trans Zs9 (Keep.of_wr W11).1
  have Vw11 : Arv Z h11 b4 k4 .char (3 : Int32) [(.int cw_1), (.int (nar .char cw_2)), (.int 0)] (.int 0) := Arv.set Ar11 qq11 Ss11 Nn11 Hh11 Gg11 (fits_nar_char _) W11 1 (rfl) (Nat.le_of_ble_eq_true rfl)
  rw [own_nc _ P2_0] at Vw11
  refine own_st (fun _ k => XS.iload X11.here hx rfl (hb hby at_52) rfl k) ?_
  refine own_st (fun _ k => XS.iconst X11.here hx rfl (hb hby at_54) k) ?_
  show own_Gl _ _ _ _ _ _ _ (T11.setTop (mkF m 55 #[.val (.int ln), .val (.int p0), .val (.int p1), .val (.int p2), .val (.int 3), .val (.int cw_1), .val (.int cw_2), .val (.int cw_3), .val (.ref b4), .unset, .unset] [(.int 2), (.int 3)]))
  have hd13 : (2 : Int32) < (3 : Int32) := (by decide)
  refine own_st (fun _ k => XS.icmpNo X11.here hx rfl (hb hby at_55) rfl (tlt hd13).2.2.2 k) ?_
  refine own_st (fun _ k => XS.aload X11.here hx rfl (hb hby at_58) rfl rfl k) ?_
  refine own_st (fun _ k => XS.iconst X11.here hx rfl (hb hby at_60) k) ?_
  refine own_st (fun _ k => XS.iload X11.here hx rfl (hb hby at_61) rfl k) ?_
  show own_Gl _ _ _ _ _ _ _ (T11.setTop (mkF m 63 #[.val (.int ln), .val (.int p0), .val (.int p1), .val (.int p2), .val (.int 3), .val (.int cw_1), .val (.int cw_2), .val (.int cw_3), .val (.ref b4), .unset, .unset] [(.int cw_3), (.int 2), (.ref b4)]))
  obtain ⟨cl14, Ar14, qq14, Ss14, Nn14, Hh14, Gg14⟩ := id Vw11
  have hin14 : ¬ ((2 : Int32) < 0 ∨ cl14.slots.size ≤ ((2 : Int32)).toNatClampNeg) := inb_of Ss14 ⟨by decide, by decide⟩
  obtain ⟨T14, h14, X14, e14, W14, st14⟩ := stC X11 hx hZ e11 Ar14 (j := (2 : Int32)) hin14 (g := (mkF m 63 #[.val (.int ln), .val (.int p0), .val (.int p1), .val (.int p2), .val (.int 3), .val (.int cw_1), .val (.int cw_2), .val (.int cw_3), .val (.ref b4), .unset, .unset] [(.int cw_3), (.int 2), (.ref b4)])) rfl rfl (hb hby at_63)
  have N14 := Fr.snoc X14 N11 g_b4
  refine own_st st14 ?_
  have Zs15 : n0 ≤ h14.size := Nat.le_trans Zs12 (Keep.of_wr W14).1
  have Vw14 : Arv Z h14 b4 k4 .char (3 : Int32) [(.int cw_1), (.int cw_2), (.int (nar .char cw_3))] (.int 0) := Arv.set Ar14 qq14 Ss14 Nn14 Hh14 Gg14 (fits_nar_char _) W14 2 (rfl) (Nat.le_of_ble_eq_true rfl)
  rw [own_nc _ P3_0] at Vw14
  by_cases hbig : (255 : Int32) < cw_1 ∨ (255 : Int32) < cw_2 ∨ (255 : Int32) < cw_3
  · show own_Gl _ _ _ _ _ _ _ (T14.setTop (mkF m 64 #[.val (.int ln), .val (.int p0), .val (.int p1), .val (.int p2), .val (.int 3), .val (.int cw_1), .val (.int cw_2), .val (.int cw_3), .val (.ref b4), .unset, .unset] []))
    have K16 : Keep h0 h14 [] := (((((Keep.refl h0 []).ext E4).wr W8 (Or.inr gh_b4)).wr W11 (Or.inr gh_b4)).wr W14 (Or.inr gh_b4))
    obtain ⟨T17, h17, X17, e17, E17, A17, D17, -, st17⟩ := newO X14 hx hZ hown (oW hw 5 rfl) (oW hw 6 rfl) (oW hw 7 rfl) e14 (g := (mkF m 64 #[.val (.int ln), .val (.int p0), .val (.int p1), .val (.int p2), .val (.int 3), .val (.int cw_1), .val (.int cw_2), .val (.int cw_3), .val (.ref b4), .unset, .unset] [])) rfl (hb hby at_64) (by decide) (by decide)
    obtain ⟨b17, gb17⟩ : ∃ z, z = h14.size := ⟨_, rfl⟩
    rw [← gb17] at A17 D17 st17
    refine own_st st17 ?_
    have Zs18 : n0 ≤ h17.size := Nat.le_trans Zs15 E17.1
    have g_b17 : n0 ≤ b17 := Nat.le_trans Zs15 (Nat.le_of_eq gb17.symm)
    have gh_b17 : h0.size ≤ b17 := Nat.le_trans K16.1 (Nat.le_of_eq gb17.symm)
    have ne_b4_b17 : b4 ≠ b17 := Nat.ne_of_lt (Nat.lt_of_lt_of_le Vw14.lt (Nat.le_of_eq gb17.symm))
    have F_value_b17 : Fld Z h17 b17 "java/lang/String" "value" "[B" .null := D17 (Or.inr (oW hw 20 rfl)) (ty := (.array .byte)) (by decide)
    have F_coder_b17 : Fld Z h17 b17 "java/lang/String" "coder" "B" (.int 0) := D17 (Or.inr (oW hw 21 rfl)) (ty := .byte) (by decide)
    refine own_st (fun _ k => XS.dup X17.here hx rfl (hb hby at_67) rfl rfl k) ?_
    refine own_st (fun _ k => XS.aload X17.here hx rfl (hb hby at_68) rfl rfl k) ?_
    have f21 := (Vw14.ext E17)
    have f22 := (((((Old0.ext E4).wr W8 g_b4).wr W11 g_b4).wr W14 g_b4).ext E17)
    obtain ⟨_, _, ⟨T20, L20, k20, n20⟩, -, X20, ⟨Lc20, hQ20, l20, y20, z20⟩, st20⟩ := X17.specialBack hx (y := oM17) rfl hown (mvT hZ (oW hw 8 rfl)) (mvT hZ (oW hw 9 rfl)) (mvT hZ (oW hw 10 rfl)) (by decide) (backOf (W := 1) (own_i1_3_u l Z a0 hw [] b17 b4 k4 cw_1 cw_2 cw_3 cs h17 n0 Zs18 A17 F_value_b17 F_coder_b17 g_b17 (Ne.symm ne_b4_b17) f21 hbig sC hcs f22 sA sH sL P1_0 P2_0 P3_0) hZ (oW hw 10 rfl) (oW hw 7 rfl) (by decide) (by decide)) (g := (mkF m 70 #[.val (.int ln), .val (.int p0), .val (.int p1), .val (.int p2), .val (.int 3), .val (.int cw_1), .val (.int cw_2), .val (.int cw_3), .val (.ref b4), .unset, .unset] [(.ref b4), (.ref b17), (.ref b17)])) rfl (by rw [hml]; rfl) (Steps.refl _) (a := b17) (argsL := [(.ref b4)]) (rest := [(.ref b17)]) (lenOf own_pd985728365 rfl) rfl (by show 2 * 0 + _ ≤ _; exact Nat.le_of_eq rfl) (hb hby at_70) (fun _ _ => ⟨rfl, e17, (by decide : 2 + 2 ≤ room_1.cells), (by decide : 7 + 9 ≤ room_1.slots)⟩)
    dsimp only [Pt.U, Pt.locs, Pt.cells, Pt.slots] at X20 l20 y20 z20 st20 hQ20
    subst l20 y20 z20
    obtain ⟨hh20, eh020⟩ : ∃ z, T20.heap = z := ⟨_, rfl⟩
    rw [eh020] at hQ20
    obtain ⟨r_20, kr_20, rfl, Nq20, Kq20, P20_0, P20_1, P20_2, P20_3, P20_4⟩ := hQ20
    have N20 := Fr.app N14 Nq20
    refine own_tr st20 ?_
    have K23 : Keep h0 h17 [] := (K16.ext E17)
    have Zs24 : n0 ≤ hh20.size := Nat.le_trans Zs18 Kq20.1
    have gh_r_20 : h0.size ≤ r_20 := Nat.le_trans K23.1 P20_1
    have ne_b4_r_20 : b4 ≠ r_20 := Nat.ne_of_lt (Nat.lt_of_lt_of_le f21.lt P20_1)
    have ne_b17_r_20 : b17 ≠ r_20 := Nat.ne_of_lt (Nat.lt_of_lt_of_le A17.lt P20_1)
    show own_Gl _ _ _ _ _ _ _ (T20.setTop (mkF m 73 #[.val (.int ln), .val (.int p0), .val (.int p1), .val (.int p2), .val (.int 3), .val (.int cw_1), .val (.int cw_2), .val (.int cw_3), .val (.ref b4), .unset, .unset] [(.ref b17)]))
    refine own_st (fun _ k => XS.astore X20.here hx rfl (hb hby at_73) rfl rfl (l' := #[.val (.int ln), .val (.int p0), .val (.int p1), .val (.int p2), .val (.int 3), .val (.int cw_1), .val (.int cw_2), .val (.int cw_3), .val (.ref b4), .val (.ref b17), .unset]) rfl k) ?_
    have J124_25 : ∀ (T25 : State) (LL25 : List Loc) (N25 : Fr n0 LL25) (X25 : Stand p l e room_1 s m #[(.int ln), (.int p0), (.int p1), (.int p2)] below meth c T25 LL25 4 16) (e25 : T25.heap = hh20) (ex : Int32) (hex : ex = (if own_ws cw_1 = (0 : Int32) then (0 : Int32) else (if own_ws cw_2 = (0 : Int32) then (0 : Int32) else (if own_ws cw_3 = (0 : Int32) then (0 : Int32) else (1 : Int32))))), own_Gl p e below s (own_Q_own_law3 Z ln p0 p1 p2 cs sf h0 n0) room_1.cells room_1.slots (T25.setTop (mkF m 124 #[.val (.int ln), .val (.int p0), .val (.int p1), .val (.int p2), .val (.int 3), .val (.int cw_1), .val (.int cw_2), .val (.int cw_3), .val (.ref b4), .val (.ref b17), .val (.int ex)] [])) := by
      intro T25 LL25 N25 X25 e25 ex hex
      show own_Gl _ _ _ _ _ _ _ (T25.setTop (mkF m 124 #[.val (.int ln), .val (.int p0), .val (.int p1), .val (.int p2), .val (.int 3), .val (.int cw_1), .val (.int cw_2), .val (.int cw_3), .val (.ref b4), .val (.ref b17), .val (.int ex)] []))
      refine own_st (fun _ k => XS.aload X25.here hx rfl (hb hby at_124) rfl rfl k) ?_
      have f27 := (f22.keep Kq20 (allS g_b17 all0))
      have f28 := (A17.keep Kq20)
      have f29 := (f21.keep Kq20 (ninS ne_b4_b17 nin0))
      obtain ⟨_, _, ⟨T26, L26, k26, n26⟩, -, X26, ⟨Lc26, hQ26, l26, y26, z26⟩, st26⟩ := Jvm.LawKit.callS X25 hx (y := oM23) hown (mvT hZ (oW hw 26 rfl)) (mvT hZ (oW hw 27 rfl)) (mvT hZ (oW hw 28 rfl)) (mvT hZ (oW hw 29 rfl)) (by decide) (backOf (W := 0) (own_iws3_1 l Z a0 hw [] b17 r_20 kr_20 sf cs cw_1 cw_2 cw_3 hh20 n0 Zs24 f27 sA sH sL sF hsf sC hcs f28 P20_3 P20_4 P20_2 P1_0 P2_0 P3_0) hZ (oW hw 29 rfl) (oW hw 28 rfl) (by decide) (by decide)) (g := (mkF m 126 #[.val (.int ln), .val (.int p0), .val (.int p1), .val (.int p2), .val (.int 3), .val (.int cw_1), .val (.int cw_2), .val (.int cw_3), .val (.ref b4), .val (.ref b17), .val (.int ex)] [(.ref b17)])) rfl (by rw [hml]; rfl) (argsL := [(.ref b17)]) (rest := []) (lenOf own_pd695904231 rfl) rfl (by show 2 * 0 + _ ≤ _; exact Nat.le_of_eq rfl) (hb hby at_126) (fun _ _ => ⟨rfl, e25, (by decide : 4 + 0 ≤ room_1.cells), (by decide : 16 + 0 ≤ room_1.slots)⟩)
      dsimp only [Pt.U, Pt.locs, Pt.cells, Pt.slots] at X26 l26 y26 z26 st26 hQ26
      subst l26 y26 z26
      obtain ⟨hh26, eh026⟩ : ∃ z, T26.heap = z := ⟨_, rfl⟩
      rw [eh026] at hQ26
      obtain ⟨rfl, Nq26, eh26⟩ := hQ26
      have N26 := Fr.app N25 Nq26
      refine own_st st26 ?_
      have e26 : T26.heap = hh20 := eh026.trans eh26
      refine own_st (fun _ k => XS.iload X26.here hx rfl (hb hby at_129) rfl k) ?_
      have hd30 : (if own_ws cw_1 = (0 : Int32) then (0 : Int32) else (if own_ws cw_2 = (0 : Int32) then (0 : Int32) else (if own_ws cw_3 = (0 : Int32) then (0 : Int32) else (1 : Int32)))) = ex := hex.symm
      refine own_st (fun _ k => XS.icmpNo X26.here hx rfl (hb hby at_131) rfl (teq hd30).2 k) ?_
      show own_Gl _ _ _ _ _ _ _ (T26.setTop (mkF m 134 #[.val (.int ln), .val (.int p0), .val (.int p1), .val (.int p2), .val (.int 3), .val (.int cw_1), .val (.int cw_2), .val (.int cw_3), .val (.ref b4), .val (.ref b17), .val (.int ex)] []))
      refine own_st (fun _ k => XS.iconst X26.here hx rfl (hb hby at_134) k) ?_
      refine own_st (fun _ k => XS.goto X26.here hx rfl (pc0 := 135) (pc' := 139) rfl (hb hby at_135) (by decide) (by decide) k) ?_
      show own_Gl _ _ _ _ _ _ _ (T26.setTop (mkF m 139 #[.val (.int ln), .val (.int p0), .val (.int p1), .val (.int p2), .val (.int 3), .val (.int cw_1), .val (.int cw_2), .val (.int cw_3), .val (.ref b4), .val (.ref b17), .val (.int ex)] [(.int 1)]))
      exact own_retN X26 hx hlk (t := .boolean) hret (by simp) (hb hby at_139) e26 ⟨rfl, N26⟩ (by decide) (by decide)
    refine own_st (fun _ k => XS.iload X20.here hx rfl (hb hby at_75) rfl k) ?_
    refine own_st (fun _ k => XS.iconst X20.here hx rfl (hb hby at_77) k) ?_
    have hd31 : ¬ ((3 : Int32) < (1 : Int32)) := (by decide)
    refine own_st (fun _ k => XS.icmpNo X20.here hx rfl (hb hby at_78) rfl (flt hd31).1 k) ?_
    show own_Gl _ _ _ _ _ _ _ (T20.setTop (mkF m 81 #[.val (.int ln), .val (.int p0), .val (.int p1), .val (.int p2), .val (.int 3), .val (.int cw_1), .val (.int cw_2), .val (.int cw_3), .val (.ref b4), .val (.ref b17), .unset] []))
    refine own_st (fun _ k => XS.iload X20.here hx rfl (hb hby at_81) rfl k) ?_
    have f33 := (f21.keep Kq20 (ninS ne_b4_b17 nin0))
    have f34 := (A17.keep Kq20)
    obtain ⟨_, _, ⟨T32, L32, k32, n32⟩, -, X32, ⟨Lc32, hQ32, l32, y32, z32⟩, st32⟩ := Jvm.LawKit.callS X20 hx (y := oM1) hown (mvT hZ (oW hw 55 rfl)) (mvT hZ (oW hw 56 rfl)) (mvT hZ (oW hw 2 rfl)) (mvT hZ (oW hw 57 rfl)) (by decide) (backOf (W := 0) (own_w1 l Z a0 hw [] cw_1 hh20 n0 Zs24 ) hZ (oW hw 57 rfl) (oW hw 2 rfl) (by decide) (by decide)) (g := (mkF m 83 #[.val (.int ln), .val (.int p0), .val (.int p1), .val (.int p2), .val (.int 3), .val (.int cw_1), .val (.int cw_2), .val (.int cw_3), .val (.ref b4), .val (.ref b17), .unset] [(.int cw_1)])) rfl (by rw [hml]; rfl) (argsL := [(.int cw_1)]) (rest := []) (lenOf own_pd91078888 rfl) rfl (by show 2 * 0 + _ ≤ _; exact Nat.le_of_eq rfl) (hb hby at_83) (fun _ _ => ⟨rfl, eh020, (by decide : 4 + 0 ≤ room_1.cells), (by decide : 16 + 0 ≤ room_1.slots)⟩)
    dsimp only [Pt.U, Pt.locs, Pt.cells, Pt.slots] at X32 l32 y32 z32 st32 hQ32
    subst l32 y32 z32
    obtain ⟨hh32, eh032⟩ : ∃ z, T32.heap = z := ⟨_, rfl⟩
    rw [eh032] at hQ32
    obtain ⟨rfl, Nq32, eh32⟩ := hQ32
    have N32 := Fr.app N20 Nq32
    refine own_st st32 ?_
    have e32 : T32.heap = hh20 := eh032.trans eh32
    by_cases hc86 : (own_ws cw_1) = (0 : Int32)
    · refine own_st (fun _ k => XS.ifYes X32.here hx rfl (pc0 := 86) (pc' := 121) rfl (hb hby at_86) rfl ((if0 _ _).trans (teq hc86).1) (by decide) (by decide) k) ?_
      refine own_st (fun _ k => XS.iconst X32.here hx rfl (hb hby at_121) k) ?_
      show own_Gl _ _ _ _ _ _ _ (T32.setTop (mkF m 122 #[.val (.int ln), .val (.int p0), .val (.int p1), .val (.int p2), .val (.int 3), .val (.int cw_1), .val (.int cw_2), .val (.int cw_3), .val (.ref b4), .val (.ref b17), .unset] [(.int 0)]))
      refine own_st (fun _ k => XS.istore X32.here hx rfl (hb hby at_122) rfl (l' := #[.val (.int ln), .val (.int p0), .val (.int p1), .val (.int p2), .val (.int 3), .val (.int cw_1), .val (.int cw_2), .val (.int cw_3), .val (.ref b4), .val (.ref b17), .val (.int 0)]) rfl k) ?_
      show own_Gl _ _ _ _ _ _ _ (T32.setTop (mkF m 124 #[.val (.int ln), .val (.int p0), .val (.int p1), .val (.int p2), .val (.int 3), .val (.int cw_1), .val (.int cw_2), .val (.int cw_3), .val (.ref b4), .val (.ref b17), .val (.int 0)] []))
      exact J124_25 T32 _ N32 X32 e32 ((0 : Int32)) (by rw [if_pos hc86])
    · refine own_st (fun _ k => XS.ifNo X32.here hx rfl (hb hby at_86) rfl ((if0 _ _).trans (feq hc86).1) k) ?_
      refine own_st (fun _ k => XS.iload X32.here hx rfl (hb hby at_89) rfl k) ?_
      show own_Gl _ _ _ _ _ _ _ (T32.setTop (mkF m 91 #[.val (.int ln), .val (.int p0), .val (.int p1), .val (.int p2), .val (.int 3), .val (.int cw_1), .val (.int cw_2), .val (.int cw_3), .val (.ref b4), .val (.ref b17), .unset] [(.int 3)]))
      refine own_st (fun _ k => XS.iconst X32.here hx rfl (hb hby at_91) k) ?_
      have hd35 : ¬ ((3 : Int32) < (2 : Int32)) := (by decide)
      refine own_st (fun _ k => XS.icmpNo X32.here hx rfl (hb hby at_92) rfl (flt hd35).1 k) ?_
      refine own_st (fun _ k => XS.iload X32.here hx rfl (hb hby at_95) rfl k) ?_
      obtain ⟨_, _, ⟨T36, L36, k36, n36⟩, -, X36, ⟨Lc36, hQ36, l36, y36, z36⟩, st36⟩ := Jvm.LawKit.callS X32 hx (y := oM1) hown (mvT hZ (oW hw 55 rfl)) (mvT hZ (oW hw 56 rfl)) (mvT hZ (oW hw 2 rfl)) (mvT hZ (oW hw 57 rfl)) (by decide) (backOf (W := 0) (own_w1 l Z a0 hw [] cw_2 hh20 n0 Zs24 ) hZ (oW hw 57 rfl) (oW hw 2 rfl) (by decide) (by decide)) (g := (mkF m 97 #[.val (.int ln), .val (.int p0), .val (.int p1), .val (.int p2), .val (.int 3), .val (.int cw_1), .val (.int cw_2), .val (.int cw_3), .val (.ref b4), .val (.ref b17), .unset] [(.int cw_2)])) rfl (by rw [hml]; rfl) (argsL := [(.int cw_2)]) (rest := []) (lenOf own_pd91078888 rfl) rfl (by show 2 * 0 + _ ≤ _; exact Nat.le_of_eq rfl) (hb hby at_97) (fun _ _ => ⟨rfl, e32, (by decide : 4 + 0 ≤ room_1.cells), (by decide : 16 + 0 ≤ room_1.slots)⟩)
      dsimp only [Pt.U, Pt.locs, Pt.cells, Pt.slots] at X36 l36 y36 z36 st36 hQ36
      subst l36 y36 z36
      obtain ⟨hh36, eh036⟩ : ∃ z, T36.heap = z := ⟨_, rfl⟩
      rw [eh036] at hQ36
      obtain ⟨rfl, Nq36, eh36⟩ := hQ36
      have N36 := Fr.app N32 Nq36
      refine own_st st36 ?_
      have e36 : T36.heap = hh20 := eh036.trans eh36
      show own_Gl _ _ _ _ _ _ _ (T36.setTop (mkF m 100 #[.val (.int ln), .val (.int p0), .val (.int p1), .val (.int p2), .val (.int 3), .val (.int cw_1), .val (.int cw_2), .val (.int cw_3), .val (.ref b4), .val (.ref b17), .unset] [(.int (own_ws cw_2))]))
      by_cases hc100 : (own_ws cw_2) = (0 : Int32)
      · refine own_st (fun _ k => XS.ifYes X36.here hx rfl (pc0 := 100) (pc' := 121) rfl (hb hby at_100) rfl ((if0 _ _).trans (teq hc100).1) (by decide) (by decide) k) ?_
        refine own_st (fun _ k => XS.iconst X36.here hx rfl (hb hby at_121) k) ?_
        refine own_st (fun _ k => XS.istore X36.here hx rfl (hb hby at_122) rfl (l' := #[.val (.int ln), .val (.int p0), .val (.int p1), .val (.int p2), .val (.int 3), .val (.int cw_1), .val (.int cw_2), .val (.int cw_3), .val (.ref b4), .val (.ref b17), .val (.int 0)]) rfl k) ?_
        show own_Gl _ _ _ _ _ _ _ (T36.setTop (mkF m 124 #[.val (.int ln), .val (.int p0), .val (.int p1), .val (.int p2), .val (.int 3), .val (.int cw_1), .val (.int cw_2), .val (.int cw_3), .val (.ref b4), .val (.ref b17), .val (.int 0)] []))
        exact J124_25 T36 _ N36 X36 e36 ((0 : Int32)) (by rw [if_neg hc86, if_pos hc100])
      · refine own_st (fun _ k => XS.ifNo X36.here hx rfl (hb hby at_100) rfl ((if0 _ _).trans (feq hc100).1) k) ?_
        refine own_st (fun _ k => XS.iload X36.here hx rfl (hb hby at_103) rfl k) ?_
        refine own_st (fun _ k => XS.iconst X36.here hx rfl (hb hby at_105) k) ?_
        have hd37 : ¬ ((3 : Int32) < (3 : Int32)) := (by decide)
        refine own_st (fun _ k => XS.icmpNo X36.here hx rfl (hb hby at_106) rfl (flt hd37).1 k) ?_
        show own_Gl _ _ _ _ _ _ _ (T36.setTop (mkF m 109 #[.val (.int ln), .val (.int p0), .val (.int p1), .val (.int p2), .val (.int 3), .val (.int cw_1), .val (.int cw_2), .val (.int cw_3), .val (.ref b4), .val (.ref b17), .unset] []))
        refine own_st (fun _ k => XS.iload X36.here hx rfl (hb hby at_109) rfl k) ?_
        obtain ⟨_, _, ⟨T38, L38, k38, n38⟩, -, X38, ⟨Lc38, hQ38, l38, y38, z38⟩, st38⟩ := Jvm.LawKit.callS X36 hx (y := oM1) hown (mvT hZ (oW hw 55 rfl)) (mvT hZ (oW hw 56 rfl)) (mvT hZ (oW hw 2 rfl)) (mvT hZ (oW hw 57 rfl)) (by decide) (backOf (W := 0) (own_w1 l Z a0 hw [] cw_3 hh20 n0 Zs24 ) hZ (oW hw 57 rfl) (oW hw 2 rfl) (by decide) (by decide)) (g := (mkF m 111 #[.val (.int ln), .val (.int p0), .val (.int p1), .val (.int p2), .val (.int 3), .val (.int cw_1), .val (.int cw_2), .val (.int cw_3), .val (.ref b4), .val (.ref b17), .unset] [(.int cw_3)])) rfl (by rw [hml]; rfl) (argsL := [(.int cw_3)]) (rest := []) (lenOf own_pd91078888 rfl) rfl (by show 2 * 0 + _ ≤ _; exact Nat.le_of_eq rfl) (hb hby at_111) (fun _ _ => ⟨rfl, e36, (by decide : 4 + 0 ≤ room_1.cells), (by decide : 16 + 0 ≤ room_1.slots)⟩)
        dsimp only [Pt.U, Pt.locs, Pt.cells, Pt.slots] at X38 l38 y38 z38 st38 hQ38
        subst l38 y38 z38
        obtain ⟨hh38, eh038⟩ : ∃ z, T38.heap = z := ⟨_, rfl⟩
        rw [eh038] at hQ38
        obtain ⟨rfl, Nq38, eh38⟩ := hQ38
        have N38 := Fr.app N36 Nq38
        refine own_st st38 ?_
        have e38 : T38.heap = hh20 := eh038.trans eh38
        by_cases hc114 : (own_ws cw_3) = (0 : Int32)
        · refine own_st (fun _ k => XS.ifYes X38.here hx rfl (pc0 := 114) (pc' := 121) rfl (hb hby at_114) rfl ((if0 _ _).trans (teq hc114).1) (by decide) (by decide) k) ?_
          refine own_st (fun _ k => XS.iconst X38.here hx rfl (hb hby at_121) k) ?_
          show own_Gl _ _ _ _ _ _ _ (T38.setTop (mkF m 122 #[.val (.int ln), .val (.int p0), .val (.int p1), .val (.int p2), .val (.int 3), .val (.int cw_1), .val (.int cw_2), .val (.int cw_3), .val (.ref b4), .val (.ref b17), .unset] [(.int 0)]))
          refine own_st (fun _ k => XS.istore X38.here hx rfl (hb hby at_122) rfl (l' := #[.val (.int ln), .val (.int p0), .val (.int p1), .val (.int p2), .val (.int 3), .val (.int cw_1), .val (.int cw_2), .val (.int cw_3), .val (.ref b4), .val (.ref b17), .val (.int 0)]) rfl k) ?_
          show own_Gl _ _ _ _ _ _ _ (T38.setTop (mkF m 124 #[.val (.int ln), .val (.int p0), .val (.int p1), .val (.int p2), .val (.int 3), .val (.int cw_1), .val (.int cw_2), .val (.int cw_3), .val (.ref b4), .val (.ref b17), .val (.int 0)] []))
          exact J124_25 T38 _ N38 X38 e38 ((0 : Int32)) (by rw [if_neg hc86, if_neg hc100, if_pos hc114])
        · refine own_st (fun _ k => XS.ifNo X38.here hx rfl (hb hby at_114) rfl ((if0 _ _).trans (feq hc114).1) k) ?_
          refine own_st (fun _ k => XS.iconst X38.here hx rfl (hb hby at_117) k) ?_
          show own_Gl _ _ _ _ _ _ _ (T38.setTop (mkF m 118 #[.val (.int ln), .val (.int p0), .val (.int p1), .val (.int p2), .val (.int 3), .val (.int cw_1), .val (.int cw_2), .val (.int cw_3), .val (.ref b4), .val (.ref b17), .unset] [(.int 1)]))
          refine own_st (fun _ k => XS.goto X38.here hx rfl (pc0 := 118) (pc' := 122) rfl (hb hby at_118) (by decide) (by decide) k) ?_
          refine own_st (fun _ k => XS.istore X38.here hx rfl (hb hby at_122) rfl (l' := #[.val (.int ln), .val (.int p0), .val (.int p1), .val (.int p2), .val (.int 3), .val (.int cw_1), .val (.int cw_2), .val (.int cw_3), .val (.ref b4), .val (.ref b17), .val (.int 1)]) rfl k) ?_
          show own_Gl _ _ _ _ _ _ _ (T38.setTop (mkF m 124 #[.val (.int ln), .val (.int p0), .val (.int p1), .val (.int p2), .val (.int 3), .val (.int cw_1), .val (.int cw_2), .val (.int cw_3), .val (.ref b4), .val (.ref b17), .val (.int 1)] []))
          exact J124_25 T38 _ N38 X38 e38 ((1 : Int32)) (by rw [if_neg hc86, if_neg hc100, if_neg hc114])
  · show own_Gl _ _ _ _ _ _ _ (T14.setTop (mkF m 64 #[.val (.int ln), .val (.int p0), .val (.int p1), .val (.int p2), .val (.int 3), .val (.int cw_1), .val (.int cw_2), .val (.int cw_3), .val (.ref b4), .unset, .unset] []))
    have K39 : Keep h0 h14 [] := (((((Keep.refl h0 []).ext E4).wr W8 (Or.inr gh_b4)).wr W11 (Or.inr gh_b4)).wr W14 (Or.inr gh_b4))
    obtain ⟨T40, h40, X40, e40, E40, A40, D40, -, st40⟩ := newO X14 hx hZ hown (oW hw 5 rfl) (oW hw 6 rfl) (oW hw 7 rfl) e14 (g := (mkF m 64 #[.val (.int ln), .val (.int p0), .val (.int p1), .val (.int p2), .val (.int 3), .val (.int cw_1), .val (.int cw_2), .val (.int cw_3), .val (.ref b4), .unset, .unset] [])) rfl (hb hby at_64) (by decide) (by decide)
    obtain ⟨b40, gb40⟩ : ∃ z, z = h14.size := ⟨_, rfl⟩
    rw [← gb40] at A40 D40 st40
    refine own_st st40 ?_
    have Zs41 : n0 ≤ h40.size := Nat.le_trans Zs15 E40.1
    have g_b40 : n0 ≤ b40 := Nat.le_trans Zs15 (Nat.le_of_eq gb40.symm)
    have gh_b40 : h0.size ≤ b40 := Nat.le_trans K39.1 (Nat.le_of_eq gb40.symm)
    have ne_b4_b40 : b4 ≠ b40 := Nat.ne_of_lt (Nat.lt_of_lt_of_le Vw14.lt (Nat.le_of_eq gb40.symm))
    have F_value_b40 : Fld Z h40 b40 "java/lang/String" "value" "[B" .null := D40 (Or.inr (oW hw 20 rfl)) (ty := (.array .byte)) (by decide)
    have F_coder_b40 : Fld Z h40 b40 "java/lang/String" "coder" "B" (.int 0) := D40 (Or.inr (oW hw 21 rfl)) (ty := .byte) (by decide)
    refine own_st (fun _ k => XS.dup X40.here hx rfl (hb hby at_67) rfl rfl k) ?_
    refine own_st (fun _ k => XS.aload X40.here hx rfl (hb hby at_68) rfl rfl k) ?_
    have f44 := (Vw14.ext E40)
    have f45 := (((((Old0.ext E4).wr W8 g_b4).wr W11 g_b4).wr W14 g_b4).ext E40)
    obtain ⟨_, _, ⟨T43, L43, k43, n43⟩, -, X43, ⟨Lc43, hQ43, l43, y43, z43⟩, st43⟩ := X40.specialBack hx (y := oM17) rfl hown (mvT hZ (oW hw 8 rfl)) (mvT hZ (oW hw 9 rfl)) (mvT hZ (oW hw 10 rfl)) (by decide) (backOf (W := 1) (own_i1_3_l l Z a0 hw [] b40 b4 k4 cw_1 cw_2 cw_3 cs h40 n0 Zs41 A40 F_value_b40 F_coder_b40 g_b40 (Ne.symm ne_b4_b40) f44 (fun q => hbig (Or.inl q)) (fun q => hbig (Or.inr (Or.inl q))) (fun q => hbig (Or.inr (Or.inr q))) sC hcs f45) hZ (oW hw 10 rfl) (oW hw 7 rfl) (by decide) (by decide)) (g := (mkF m 70 #[.val (.int ln), .val (.int p0), .val (.int p1), .val (.int p2), .val (.int 3), .val (.int cw_1), .val (.int cw_2), .val (.int cw_3), .val (.ref b4), .unset, .unset] [(.ref b4), (.ref b40), (.ref b40)])) rfl (by rw [hml]; rfl) (Steps.refl _) (a := b40) (argsL := [(.ref b4)]) (rest := [(.ref b40)]) (lenOf own_pd985728365 rfl) rfl (by show 2 * 0 + _ ≤ _; exact Nat.le_of_eq rfl) (hb hby at_70) (fun _ _ => ⟨rfl, e40, (by decide : 2 + 1 ≤ room_1.cells), (by decide : 7 + 3 ≤ room_1.slots)⟩)
    dsimp only [Pt.U, Pt.locs, Pt.cells, Pt.slots] at X43 l43 y43 z43 st43 hQ43
    subst l43 y43 z43
    obtain ⟨hh43, eh043⟩ : ∃ z, T43.heap = z := ⟨_, rfl⟩
    rw [eh043] at hQ43
    obtain ⟨r_43, kr_43, rfl, Nq43, Kq43, P43_0, P43_1, P43_2, P43_3, P43_4⟩ := hQ43
    have N43 := Fr.app N14 Nq43
    refine own_tr st43 ?_
    have K46 : Keep h0 h40 [] := (K39.ext E40)
    have Zs47 : n0 ≤ hh43.size := Nat.le_trans Zs41 Kq43.1
    have gh_r_43 : h0.size ≤ r_43 := Nat.le_trans K46.1 P43_1
    have ne_b4_r_43 : b4 ≠ r_43 := Nat.ne_of_lt (Nat.lt_of_lt_of_le f44.lt P43_1)
    have ne_b40_r_43 : b40 ≠ r_43 := Nat.ne_of_lt (Nat.lt_of_lt_of_le A40.lt P43_1)
    show own_Gl _ _ _ _ _ _ _ (T43.setTop (mkF m 73 #[.val (.int ln), .val (.int p0), .val (.int p1), .val (.int p2), .val (.int 3), .val (.int cw_1), .val (.int cw_2), .val (.int cw_3), .val (.ref b4), .unset, .unset] [(.ref b40)]))
    refine own_st (fun _ k => XS.astore X43.here hx rfl (hb hby at_73) rfl rfl (l' := #[.val (.int ln), .val (.int p0), .val (.int p1), .val (.int p2), .val (.int 3), .val (.int cw_1), .val (.int cw_2), .val (.int cw_3), .val (.ref b4), .val (.ref b40), .unset]) rfl k) ?_
    have J124_48 : ∀ (T48 : State) (LL48 : List Loc) (N48 : Fr n0 LL48) (X48 : Stand p l e room_1 s m #[(.int ln), (.int p0), (.int p1), (.int p2)] below meth c T48 LL48 3 10) (e48 : T48.heap = hh43) (ex : Int32) (hex : ex = (if own_ws cw_1 = (0 : Int32) then (0 : Int32) else (if own_ws cw_2 = (0 : Int32) then (0 : Int32) else (if own_ws cw_3 = (0 : Int32) then (0 : Int32) else (1 : Int32))))), own_Gl p e below s (own_Q_own_law3 Z ln p0 p1 p2 cs sf h0 n0) room_1.cells room_1.slots (T48.setTop (mkF m 124 #[.val (.int ln), .val (.int p0), .val (.int p1), .val (.int p2), .val (.int 3), .val (.int cw_1), .val (.int cw_2), .val (.int cw_3), .val (.ref b4), .val (.ref b40), .val (.int ex)] [])) := by
      intro T48 LL48 N48 X48 e48 ex hex
      show own_Gl _ _ _ _ _ _ _ (T48.setTop (mkF m 124 #[.val (.int ln), .val (.int p0), .val (.int p1), .val (.int p2), .val (.int 3), .val (.int cw_1), .val (.int cw_2), .val (.int cw_3), .val (.ref b4), .val (.ref b40), .val (.int ex)] []))
      refine own_st (fun _ k => XS.aload X48.here hx rfl (hb hby at_124) rfl rfl k) ?_
      have f50 := (f45.keep Kq43 (allS g_b40 all0))
      have f51 := (A40.keep Kq43)
      have f52 := (f44.keep Kq43 (ninS ne_b4_b40 nin0))
      obtain ⟨_, _, ⟨T49, L49, k49, n49⟩, -, X49, ⟨Lc49, hQ49, l49, y49, z49⟩, st49⟩ := Jvm.LawKit.callS X48 hx (y := oM23) hown (mvT hZ (oW hw 26 rfl)) (mvT hZ (oW hw 27 rfl)) (mvT hZ (oW hw 28 rfl)) (mvT hZ (oW hw 29 rfl)) (by decide) (backOf (W := 0) (own_iws3_0 l Z a0 hw [] b40 r_43 kr_43 sf cs cw_1 cw_2 cw_3 hh43 n0 Zs47 f50 sF hsf sC hcs f51 P43_3 P43_4 P43_2 ⟨P1_0.1, (fun q => hbig (Or.inl q))⟩ ⟨P2_0.1, (fun q => hbig (Or.inr (Or.inl q)))⟩ ⟨P3_0.1, (fun q => hbig (Or.inr (Or.inr q)))⟩) hZ (oW hw 29 rfl) (oW hw 28 rfl) (by decide) (by decide)) (g := (mkF m 126 #[.val (.int ln), .val (.int p0), .val (.int p1), .val (.int p2), .val (.int 3), .val (.int cw_1), .val (.int cw_2), .val (.int cw_3), .val (.ref b4), .val (.ref b40), .val (.int ex)] [(.ref b40)])) rfl (by rw [hml]; rfl) (argsL := [(.ref b40)]) (rest := []) (lenOf own_pd695904231 rfl) rfl (by show 2 * 0 + _ ≤ _; exact Nat.le_of_eq rfl) (hb hby at_126) (fun _ _ => ⟨rfl, e48, (by decide : 3 + 0 ≤ room_1.cells), (by decide : 10 + 0 ≤ room_1.slots)⟩)
      dsimp only [Pt.U, Pt.locs, Pt.cells, Pt.slots] at X49 l49 y49 z49 st49 hQ49
      subst l49 y49 z49
      obtain ⟨hh49, eh049⟩ : ∃ z, T49.heap = z := ⟨_, rfl⟩
      rw [eh049] at hQ49
      obtain ⟨rfl, Nq49, eh49⟩ := hQ49
      have N49 := Fr.app N48 Nq49
      refine own_st st49 ?_
      have e49 : T49.heap = hh43 := eh049.trans eh49
      refine own_st (fun _ k => XS.iload X49.here hx rfl (hb hby at_129) rfl k) ?_
      have hd53 : (if own_ws cw_1 = (0 : Int32) then (0 : Int32) else (if own_ws cw_2 = (0 : Int32) then (0 : Int32) else (if own_ws cw_3 = (0 : Int32) then (0 : Int32) else (1 : Int32)))) = ex := hex.symm
      refine own_st (fun _ k => XS.icmpNo X49.here hx rfl (hb hby at_131) rfl (teq hd53).2 k) ?_
      show own_Gl _ _ _ _ _ _ _ (T49.setTop (mkF m 134 #[.val (.int ln), .val (.int p0), .val (.int p1), .val (.int p2), .val (.int 3), .val (.int cw_1), .val (.int cw_2), .val (.int cw_3), .val (.ref b4), .val (.ref b40), .val (.int ex)] []))
      refine own_st (fun _ k => XS.iconst X49.here hx rfl (hb hby at_134) k) ?_
      refine own_st (fun _ k => XS.goto X49.here hx rfl (pc0 := 135) (pc' := 139) rfl (hb hby at_135) (by decide) (by decide) k) ?_
      show own_Gl _ _ _ _ _ _ _ (T49.setTop (mkF m 139 #[.val (.int ln), .val (.int p0), .val (.int p1), .val (.int p2), .val (.int 3), .val (.int cw_1), .val (.int cw_2), .val (.int cw_3), .val (.ref b4), .val (.ref b40), .val (.int ex)] [(.int 1)]))
      exact own_retN X49 hx hlk (t := .boolean) hret (by simp) (hb hby at_139) e49 ⟨rfl, N49⟩ (by decide) (by decide)
    refine own_st (fun _ k => XS.iload X43.here hx rfl (hb hby at_75) rfl k) ?_
    refine own_st (fun _ k => XS.iconst X43.here hx rfl (hb hby at_77) k) ?_
    have hd54 : ¬ ((3 : Int32) < (1 : Int32)) := (by decide)
    refine own_st (fun _ k => XS.icmpNo X43.here hx rfl (hb hby at_78) rfl (flt hd54).1 k) ?_
    show own_Gl _ _ _ _ _ _ _ (T43.setTop (mkF m 81 #[.val (.int ln), .val (.int p0), .val (.int p1), .val (.int p2), .val (.int 3), .val (.int cw_1), .val (.int cw_2), .val (.int cw_3), .val (.ref b4), .val (.ref b40), .unset] []))
    refine own_st (fun _ k => XS.iload X43.here hx rfl (hb hby at_81) rfl k) ?_
    have f56 := (f44.keep Kq43 (ninS ne_b4_b40 nin0))
    have f57 := (A40.keep Kq43)
    obtain ⟨_, _, ⟨T55, L55, k55, n55⟩, -, X55, ⟨Lc55, hQ55, l55, y55, z55⟩, st55⟩ := Jvm.LawKit.callS X43 hx (y := oM1) hown (mvT hZ (oW hw 55 rfl)) (mvT hZ (oW hw 56 rfl)) (mvT hZ (oW hw 2 rfl)) (mvT hZ (oW hw 57 rfl)) (by decide) (backOf (W := 0) (own_w1 l Z a0 hw [] cw_1 hh43 n0 Zs47 ) hZ (oW hw 57 rfl) (oW hw 2 rfl) (by decide) (by decide)) (g := (mkF m 83 #[.val (.int ln), .val (.int p0), .val (.int p1), .val (.int p2), .val (.int 3), .val (.int cw_1), .val (.int cw_2), .val (.int cw_3), .val (.ref b4), .val (.ref b40), .unset] [(.int cw_1)])) rfl (by rw [hml]; rfl) (argsL := [(.int cw_1)]) (rest := []) (lenOf own_pd91078888 rfl) rfl (by show 2 * 0 + _ ≤ _; exact Nat.le_of_eq rfl) (hb hby at_83) (fun _ _ => ⟨rfl, eh043, (by decide : 3 + 0 ≤ room_1.cells), (by decide : 10 + 0 ≤ room_1.slots)⟩)
    dsimp only [Pt.U, Pt.locs, Pt.cells, Pt.slots] at X55 l55 y55 z55 st55 hQ55
    subst l55 y55 z55
    obtain ⟨hh55, eh055⟩ : ∃ z, T55.heap = z := ⟨_, rfl⟩
    rw [eh055] at hQ55
    obtain ⟨rfl, Nq55, eh55⟩ := hQ55
    have N55 := Fr.app N43 Nq55
    refine own_st st55 ?_
    have e55 : T55.heap = hh43 := eh055.trans eh55
    by_cases hc86 : (own_ws cw_1) = (0 : Int32)
    · refine own_st (fun _ k => XS.ifYes X55.here hx rfl (pc0 := 86) (pc' := 121) rfl (hb hby at_86) rfl ((if0 _ _).trans (teq hc86).1) (by decide) (by decide) k) ?_
      refine own_st (fun _ k => XS.iconst X55.here hx rfl (hb hby at_121) k) ?_
      show own_Gl _ _ _ _ _ _ _ (T55.setTop (mkF m 122 #[.val (.int ln), .val (.int p0), .val (.int p1), .val (.int p2), .val (.int 3), .val (.int cw_1), .val (.int cw_2), .val (.int cw_3), .val (.ref b4), .val (.ref b40), .unset] [(.int 0)]))
      refine own_st (fun _ k => XS.istore X55.here hx rfl (hb hby at_122) rfl (l' := #[.val (.int ln), .val (.int p0), .val (.int p1), .val (.int p2), .val (.int 3), .val (.int cw_1), .val (.int cw_2), .val (.int cw_3), .val (.ref b4), .val (.ref b40), .val (.int 0)]) rfl k) ?_
      show own_Gl _ _ _ _ _ _ _ (T55.setTop (mkF m 124 #[.val (.int ln), .val (.int p0), .val (.int p1), .val (.int p2), .val (.int 3), .val (.int cw_1), .val (.int cw_2), .val (.int cw_3), .val (.ref b4), .val (.ref b40), .val (.int 0)] []))
      exact J124_48 T55 _ N55 X55 e55 ((0 : Int32)) (by rw [if_pos hc86])
    · refine own_st (fun _ k => XS.ifNo X55.here hx rfl (hb hby at_86) rfl ((if0 _ _).trans (feq hc86).1) k) ?_
      refine own_st (fun _ k => XS.iload X55.here hx rfl (hb hby at_89) rfl k) ?_
      show own_Gl _ _ _ _ _ _ _ (T55.setTop (mkF m 91 #[.val (.int ln), .val (.int p0), .val (.int p1), .val (.int p2), .val (.int 3), .val (.int cw_1), .val (.int cw_2), .val (.int cw_3), .val (.ref b4), .val (.ref b40), .unset] [(.int 3)]))
      refine own_st (fun _ k => XS.iconst X55.here hx rfl (hb hby at_91) k) ?_
      have hd58 : ¬ ((3 : Int32) < (2 : Int32)) := (by decide)
      refine own_st (fun _ k => XS.icmpNo X55.here hx rfl (hb hby at_92) rfl (flt hd58).1 k) ?_
      refine own_st (fun _ k => XS.iload X55.here hx rfl (hb hby at_95) rfl k) ?_
      obtain ⟨_, _, ⟨T59, L59, k59, n59⟩, -, X59, ⟨Lc59, hQ59, l59, y59, z59⟩, st59⟩ := Jvm.LawKit.callS X55 hx (y := oM1) hown (mvT hZ (oW hw 55 rfl)) (mvT hZ (oW hw 56 rfl)) (mvT hZ (oW hw 2 rfl)) (mvT hZ (oW hw 57 rfl)) (by decide) (backOf (W := 0) (own_w1 l Z a0 hw [] cw_2 hh43 n0 Zs47 ) hZ (oW hw 57 rfl) (oW hw 2 rfl) (by decide) (by decide)) (g := (mkF m 97 #[.val (.int ln), .val (.int p0), .val (.int p1), .val (.int p2), .val (.int 3), .val (.int cw_1), .val (.int cw_2), .val (.int cw_3), .val (.ref b4), .val (.ref b40), .unset] [(.int cw_2)])) rfl (by rw [hml]; rfl) (argsL := [(.int cw_2)]) (rest := []) (lenOf own_pd91078888 rfl) rfl (by show 2 * 0 + _ ≤ _; exact Nat.le_of_eq rfl) (hb hby at_97) (fun _ _ => ⟨rfl, e55, (by decide : 3 + 0 ≤ room_1.cells), (by decide : 10 + 0 ≤ room_1.slots)⟩)
      dsimp only [Pt.U, Pt.locs, Pt.cells, Pt.slots] at X59 l59 y59 z59 st59 hQ59
      subst l59 y59 z59
      obtain ⟨hh59, eh059⟩ : ∃ z, T59.heap = z := ⟨_, rfl⟩
      rw [eh059] at hQ59
      obtain ⟨rfl, Nq59, eh59⟩ := hQ59
      have N59 := Fr.app N55 Nq59
      refine own_st st59 ?_
      have e59 : T59.heap = hh43 := eh059.trans eh59
      show own_Gl _ _ _ _ _ _ _ (T59.setTop (mkF m 100 #[.val (.int ln), .val (.int p0), .val (.int p1), .val (.int p2), .val (.int 3), .val (.int cw_1), .val (.int cw_2), .val (.int cw_3), .val (.ref b4), .val (.ref b40), .unset] [(.int (own_ws cw_2))]))
      by_cases hc100 : (own_ws cw_2) = (0 : Int32)
      · refine own_st (fun _ k => XS.ifYes X59.here hx rfl (pc0 := 100) (pc' := 121) rfl (hb hby at_100) rfl ((if0 _ _).trans (teq hc100).1) (by decide) (by decide) k) ?_
        refine own_st (fun _ k => XS.iconst X59.here hx rfl (hb hby at_121) k) ?_
        refine own_st (fun _ k => XS.istore X59.here hx rfl (hb hby at_122) rfl (l' := #[.val (.int ln), .val (.int p0), .val (.int p1), .val (.int p2), .val (.int 3), .val (.int cw_1), .val (.int cw_2), .val (.int cw_3), .val (.ref b4), .val (.ref b40), .val (.int 0)]) rfl k) ?_
        show own_Gl _ _ _ _ _ _ _ (T59.setTop (mkF m 124 #[.val (.int ln), .val (.int p0), .val (.int p1), .val (.int p2), .val (.int 3), .val (.int cw_1), .val (.int cw_2), .val (.int cw_3), .val (.ref b4), .val (.ref b40), .val (.int 0)] []))
        exact J124_48 T59 _ N59 X59 e59 ((0 : Int32)) (by rw [if_neg hc86, if_pos hc100])
      · refine own_st (fun _ k => XS.ifNo X59.here hx rfl (hb hby at_100) rfl ((if0 _ _).trans (feq hc100).1) k) ?_
        refine own_st (fun _ k => XS.iload X59.here hx rfl (hb hby at_103) rfl k) ?_
        refine own_st (fun _ k => XS.iconst X59.here hx rfl (hb hby at_105) k) ?_
        have hd60 : ¬ ((3 : Int32) < (3 : Int32)) := (by decide)
        refine own_st (fun _ k => XS.icmpNo X59.here hx rfl (hb hby at_106) rfl (flt hd60).1 k) ?_
        show own_Gl _ _ _ _ _ _ _ (T59.setTop (mkF m 109 #[.val (.int ln), .val (.int p0), .val (.int p1), .val (.int p2), .val (.int 3), .val (.int cw_1), .val (.int cw_2), .val (.int cw_3), .val (.ref b4), .val (.ref b40), .unset] []))
        refine own_st (fun _ k => XS.iload X59.here hx rfl (hb hby at_109) rfl k) ?_
        obtain ⟨_, _, ⟨T61, L61, k61, n61⟩, -, X61, ⟨Lc61, hQ61, l61, y61, z61⟩, st61⟩ := Jvm.LawKit.callS X59 hx (y := oM1) hown (mvT hZ (oW hw 55 rfl)) (mvT hZ (oW hw 56 rfl)) (mvT hZ (oW hw 2 rfl)) (mvT hZ (oW hw 57 rfl)) (by decide) (backOf (W := 0) (own_w1 l Z a0 hw [] cw_3 hh43 n0 Zs47 ) hZ (oW hw 57 rfl) (oW hw 2 rfl) (by decide) (by decide)) (g := (mkF m 111 #[.val (.int ln), .val (.int p0), .val (.int p1), .val (.int p2), .val (.int 3), .val (.int cw_1), .val (.int cw_2), .val (.int cw_3), .val (.ref b4), .val (.ref b40), .unset] [(.int cw_3)])) rfl (by rw [hml]; rfl) (argsL := [(.int cw_3)]) (rest := []) (lenOf own_pd91078888 rfl) rfl (by show 2 * 0 + _ ≤ _; exact Nat.le_of_eq rfl) (hb hby at_111) (fun _ _ => ⟨rfl, e59, (by decide : 3 + 0 ≤ room_1.cells), (by decide : 10 + 0 ≤ room_1.slots)⟩)
        dsimp only [Pt.U, Pt.locs, Pt.cells, Pt.slots] at X61 l61 y61 z61 st61 hQ61
        subst l61 y61 z61
        obtain ⟨hh61, eh061⟩ : ∃ z, T61.heap = z := ⟨_, rfl⟩
        rw [eh061] at hQ61
        obtain ⟨rfl, Nq61, eh61⟩ := hQ61
        have N61 := Fr.app N59 Nq61
        refine own_st st61 ?_
        have e61 : T61.heap = hh43 := eh061.trans eh61
        by_cases hc114 : (own_ws cw_3) = (0 : Int32)
        · refine own_st (fun _ k => XS.ifYes X61.here hx rfl (pc0 := 114) (pc' := 121) rfl (hb hby at_114) rfl ((if0 _ _).trans (teq hc114).1) (by decide) (by decide) k) ?_
          refine own_st (fun _ k => XS.iconst X61.here hx rfl (hb hby at_121) k) ?_
          show own_Gl _ _ _ _ _ _ _ (T61.setTop (mkF m 122 #[.val (.int ln), .val (.int p0), .val (.int p1), .val (.int p2), .val (.int 3), .val (.int cw_1), .val (.int cw_2), .val (.int cw_3), .val (.ref b4), .val (.ref b40), .unset] [(.int 0)]))
          refine own_st (fun _ k => XS.istore X61.here hx rfl (hb hby at_122) rfl (l' := #[.val (.int ln), .val (.int p0), .val (.int p1), .val (.int p2), .val (.int 3), .val (.int cw_1), .val (.int cw_2), .val (.int cw_3), .val (.ref b4), .val (.ref b40), .val (.int 0)]) rfl k) ?_
          show own_Gl _ _ _ _ _ _ _ (T61.setTop (mkF m 124 #[.val (.int ln), .val (.int p0), .val (.int p1), .val (.int p2), .val (.int 3), .val (.int cw_1), .val (.int cw_2), .val (.int cw_3), .val (.ref b4), .val (.ref b40), .val (.int 0)] []))
          exact J124_48 T61 _ N61 X61 e61 ((0 : Int32)) (by rw [if_neg hc86, if_neg hc100, if_pos hc114])
        · refine own_st (fun _ k => XS.ifNo X61.here hx rfl (hb hby at_114) rfl ((if0 _ _).trans (feq hc114).1) k) ?_
          refine own_st (fun _ k => XS.iconst X61.here hx rfl (hb hby at_117) k) ?_
          show own_Gl _ _ _ _ _ _ _ (T61.setTop (mkF m 118 #[.val (.int ln), .val (.int p0), .val (.int p1), .val (.int p2), .val (.int 3), .val (.int cw_1), .val (.int cw_2), .val (.int cw_3), .val (.ref b4), .val (.ref b40), .unset] [(.int 1)]))
          refine own_st (fun _ k => XS.goto X61.here hx rfl (pc0 := 118) (pc' := 122) rfl (hb hby at_118) (by decide) (by decide) k) ?_
          refine own_st (fun _ k => XS.istore X61.here hx rfl (hb hby at_122) rfl (l' := #[.val (.int ln), .val (.int p0), .val (.int p1), .val (.int p2), .val (.int 3), .val (.int cw_1), .val (.int cw_2), .val (.int cw_3), .val (.ref b4), .val (.ref b40), .val (.int 1)]) rfl k) ?_
          show own_Gl _ _ _ _ _ _ _ (T61.setTop (mkF m 124 #[.val (.int ln), .val (.int p0), .val (.int p1), .val (.int p2), .val (.int 3), .val (.int cw_1), .val (.int cw_2), .val (.int cw_3), .val (.ref b4), .val (.ref b40), .val (.int 1)] []))
          exact J124_48 T61 _ N61 X61 e61 ((1 : Int32)) (by rw [if_neg hc86, if_neg hc100, if_neg hc114])
theorem own_ef_own_law0 (m : MethodId) (x0 : Int32) (x1 : Int32) (x2 : Int32) (x3 : Int32) : entryFrame m #[(.int x0), (.int x1), (.int x2), (.int x3)] maxLocals = mkF m 0 #[.val (.int x0), .val (.int x1), .val (.int x2), .val (.int x3), .unset, .unset, .unset, .unset, .unset, .unset, .unset] [] := by first | (simp [entryFrame, mkF, argsToLocals, Value.category, maxLocals]; done) | rfl
def own_Q_own_law0 (Z : State) (ln : Int32) (p0 : Int32) (p1 : Int32) (p2 : Int32) (cs : Int32) (sf : Value) (h0 : Heap) (n0 : Nat) (v : Option Value) (h : Heap) (L : List Loc) : Prop := v = some (.int 1) ∧ Fr n0 L

theorem own_law0 (l : Launch) (Z : State) (a0 : Array Value) (hw : oT a0 Z) (ws : List Jvm.Cond) (ln : Int32) (p0 : Int32) (p1 : Int32) (p2 : Int32) (cs : Int32) (sf : Value) (h0 : Heap) (n0 : Nat) (Z0 : n0 ≤ h0.size) (Old0 : Old Z n0 h0) (sC : Sta Z Z.heap "java/lang/String" "COMPACT_STRINGS" "Z" (.int cs)) (sA : Sta Z Z.heap "java/lang/StringUTF16" "$assertionsDisabled" "Z" (.int 1)) (sH : Sta Z Z.heap "java/lang/StringUTF16" "HI_BYTE_SHIFT" "I" (.int 0)) (sL : Sta Z Z.heap "java/lang/StringUTF16" "LO_BYTE_SHIFT" "I" (.int 8)) (sF : Sta Z Z.heap "jdk/internal/util/Preconditions" "SIOOBE_FORMATTER" "Ljava/util/function/BiFunction;" sf) (hcs : ¬ (cs = (0 : Int32))) (hch : Jvm.Lit.constHeld Z "java/lang/String" 7) (hcw : Jvm.Lit.compactW.before a0 Z = true) (hE : ln &&& (3 : Int32) = (0 : Int32)) :
    MetFree l x (head1 (Jvm.Cond.code x code maxLocals ret :: ws) room_1) (fun xa xU => xa = #[(.int ln), (.int p0), (.int p1), (.int p2)] ∧ (Z.Warmed39 xU.vm ∧ xU.vm.interned = Z.vm.interned) ∧ xU.heap = h0) (fun _ _ _ _ _ => True) (fun _ xU xo xV => ∃ v L, xo = .returned v ∧ own_Q_own_law0 Z ln p0 p1 p2 cs sf h0 n0 v xV.heap L ∧ ReturnedEndW xU xo xV L room_1.cells room_1.slots) := by
  refine MetFree.of_bodySF (plainFor_of_name own_pn590389167) hisR ?_
  intro p e s m args below meth c s₁ Bd hml0 hP hK
  obtain ⟨rfl, ⟨hZ, hI⟩, hh⟩ := hP
  have hx := Bd.exec
  have hby := Bd.bytes
  have hlk := Bd.notSynchronized
  have hret := Bd.returns
  have hml : c.maxLocals = 11 := hml0
  have hown : s.vm.findClass "com/example/brolga/brolga/xml/XmlCharactersIsWhiteSpacePinLaw" = some m.cls := findClass_of_methodNamed Bd.named
  have hnm := (name_of_methodNamed Bd.named Bd.method).1
  have X0 : Stand p l e room_1 s m #[(.int ln), (.int p0), (.int p1), (.int p2)] below meth c s₁ [] 0 0 := Stand.of_body Bd
  have e0 : s₁.heap = h0 := by rw [← hh, Bd.state]; rfl
  have N0 := Fr.nil n0
  show own_GlW p e below s (own_Q_own_law0 Z ln p0 p1 p2 cs sf h0 n0) room_1.cells room_1.slots _
  refine own_castW (own_ef_own_law0 m ln p0 p1 p2) ?_
  show own_GlW _ _ _ _ _ _ _ (s₁.setTop (mkF m 0 #[.val (.int ln), .val (.int p0), .val (.int p1), .val (.int p2), .unset, .unset, .unset, .unset, .unset, .unset, .unset] []))
  refine own_stW (fun _ k => XS.iloadN X0.here hx rfl (hb hby at_0) rfl k) ?_
  refine own_stW (fun _ k => XS.iconst X0.here hx rfl (hb hby at_1) k) ?_
  refine own_stW (fun _ k => XS.iand X0.here hx rfl (hb hby at_2) rfl k) ?_
  show own_GlW _ _ _ _ _ _ _ (s₁.setTop (mkF m 3 #[.val (.int ln), .val (.int p0), .val (.int p1), .val (.int p2), .unset, .unset, .unset, .unset, .unset, .unset, .unset] [(.int (ln &&& (3 : Int32)))]))
  rw [hE]
  show own_GlW _ _ _ _ _ _ _ (s₁.setTop (mkF m 3 #[.val (.int ln), .val (.int p0), .val (.int p1), .val (.int p2), .unset, .unset, .unset, .unset, .unset, .unset, .unset] [(.int 0)]))
  refine own_stW (fun _ k => XS.istore X0.here hx rfl (hb hby at_3) rfl (l' := #[.val (.int ln), .val (.int p0), .val (.int p1), .val (.int p2), .val (.int 0), .unset, .unset, .unset, .unset, .unset, .unset]) rfl k) ?_
  refine own_stW (fun _ k => XS.iloadN X0.here hx rfl (hb hby at_5) rfl k) ?_
  obtain ⟨_, _, ⟨T1, L1, k1, n1⟩, -, X1, ⟨Lc1, hQ1, l1, y1, z1⟩, st1⟩ := Jvm.LawKit.callS X0 hx (y := oM0) hown (mvT hZ (oW hw 0 rfl)) (mvT hZ (oW hw 1 rfl)) (mvT hZ (oW hw 2 rfl)) (mvT hZ (oW hw 3 rfl)) (by decide) (backOf (W := 0) (own_draw l Z a0 hw [] p0 h0 n0 Z0 ) hZ (oW hw 3 rfl) (oW hw 2 rfl) (by decide) (by decide)) (g := (mkF m 6 #[.val (.int ln), .val (.int p0), .val (.int p1), .val (.int p2), .val (.int 0), .unset, .unset, .unset, .unset, .unset, .unset] [(.int p0)])) rfl (by rw [hml]; rfl) (argsL := [(.int p0)]) (rest := []) (lenOf own_pd91181831 rfl) rfl (by show 2 * 0 + _ ≤ _; exact Nat.le_of_eq rfl) (hb hby at_6) (fun _ _ => ⟨rfl, e0, (by decide : 0 + 0 ≤ room_1.cells), (by decide : 0 + 0 ≤ room_1.slots)⟩)
  dsimp only [Pt.U, Pt.locs, Pt.cells, Pt.slots] at X1 l1 y1 z1 st1 hQ1
  subst l1 y1 z1
  obtain ⟨hh1, eh01⟩ : ∃ z, T1.heap = z := ⟨_, rfl⟩
  rw [eh01] at hQ1
  obtain ⟨cw_1, rfl, Nq1, eh1, P1_0⟩ := hQ1
  have N1 := Fr.app N0 Nq1
  refine own_stW st1 ?_
  have e1 : T1.heap = h0 := eh01.trans eh1
  refine own_stW (fun _ k => XS.istore X1.here hx rfl (hb hby at_9) rfl (l' := #[.val (.int ln), .val (.int p0), .val (.int p1), .val (.int p2), .val (.int 0), .val (.int cw_1), .unset, .unset, .unset, .unset, .unset]) rfl k) ?_
  show own_GlW _ _ _ _ _ _ _ (T1.setTop (mkF m 11 #[.val (.int ln), .val (.int p0), .val (.int p1), .val (.int p2), .val (.int 0), .val (.int cw_1), .unset, .unset, .unset, .unset, .unset] []))
  refine own_stW (fun _ k => XS.iloadN X1.here hx rfl (hb hby at_11) rfl k) ?_
  obtain ⟨_, _, ⟨T2, L2, k2, n2⟩, -, X2, ⟨Lc2, hQ2, l2, y2, z2⟩, st2⟩ := Jvm.LawKit.callS X1 hx (y := oM0) hown (mvT hZ (oW hw 0 rfl)) (mvT hZ (oW hw 1 rfl)) (mvT hZ (oW hw 2 rfl)) (mvT hZ (oW hw 3 rfl)) (by decide) (backOf (W := 0) (own_draw l Z a0 hw [] p1 h0 n0 Z0 ) hZ (oW hw 3 rfl) (oW hw 2 rfl) (by decide) (by decide)) (g := (mkF m 12 #[.val (.int ln), .val (.int p0), .val (.int p1), .val (.int p2), .val (.int 0), .val (.int cw_1), .unset, .unset, .unset, .unset, .unset] [(.int p1)])) rfl (by rw [hml]; rfl) (argsL := [(.int p1)]) (rest := []) (lenOf own_pd91181831 rfl) rfl (by show 2 * 0 + _ ≤ _; exact Nat.le_of_eq rfl) (hb hby at_12) (fun _ _ => ⟨rfl, e1, (by decide : 0 + 0 ≤ room_1.cells), (by decide : 0 + 0 ≤ room_1.slots)⟩)
  dsimp only [Pt.U, Pt.locs, Pt.cells, Pt.slots] at X2 l2 y2 z2 st2 hQ2
  subst l2 y2 z2
  obtain ⟨hh2, eh02⟩ : ∃ z, T2.heap = z := ⟨_, rfl⟩
  rw [eh02] at hQ2
  obtain ⟨cw_2, rfl, Nq2, eh2, P2_0⟩ := hQ2
  have N2 := Fr.app N1 Nq2
  refine own_stW st2 ?_
  have e2 : T2.heap = h0 := eh02.trans eh2
  refine own_stW (fun _ k => XS.istore X2.here hx rfl (hb hby at_15) rfl (l' := #[.val (.int ln), .val (.int p0), .val (.int p1), .val (.int p2), .val (.int 0), .val (.int cw_1), .val (.int cw_2), .unset, .unset, .unset, .unset]) rfl k) ?_
  refine own_stW (fun _ k => XS.iloadN X2.here hx rfl (hb hby at_17) rfl k) ?_
  show own_GlW _ _ _ _ _ _ _ (T2.setTop (mkF m 18 #[.val (.int ln), .val (.int p0), .val (.int p1), .val (.int p2), .val (.int 0), .val (.int cw_1), .val (.int cw_2), .unset, .unset, .unset, .unset] [(.int p2)]))
  obtain ⟨_, _, ⟨T3, L3, k3, n3⟩, -, X3, ⟨Lc3, hQ3, l3, y3, z3⟩, st3⟩ := Jvm.LawKit.callS X2 hx (y := oM0) hown (mvT hZ (oW hw 0 rfl)) (mvT hZ (oW hw 1 rfl)) (mvT hZ (oW hw 2 rfl)) (mvT hZ (oW hw 3 rfl)) (by decide) (backOf (W := 0) (own_draw l Z a0 hw [] p2 h0 n0 Z0 ) hZ (oW hw 3 rfl) (oW hw 2 rfl) (by decide) (by decide)) (g := (mkF m 18 #[.val (.int ln), .val (.int p0), .val (.int p1), .val (.int p2), .val (.int 0), .val (.int cw_1), .val (.int cw_2), .unset, .unset, .unset, .unset] [(.int p2)])) rfl (by rw [hml]; rfl) (argsL := [(.int p2)]) (rest := []) (lenOf own_pd91181831 rfl) rfl (by show 2 * 0 + _ ≤ _; exact Nat.le_of_eq rfl) (hb hby at_18) (fun _ _ => ⟨rfl, e2, (by decide : 0 + 0 ≤ room_1.cells), (by decide : 0 + 0 ≤ room_1.slots)⟩)
  dsimp only [Pt.U, Pt.locs, Pt.cells, Pt.slots] at X3 l3 y3 z3 st3 hQ3
  subst l3 y3 z3
  obtain ⟨hh3, eh03⟩ : ∃ z, T3.heap = z := ⟨_, rfl⟩
  rw [eh03] at hQ3
  obtain ⟨cw_3, rfl, Nq3, eh3, P3_0⟩ := hQ3
  have N3 := Fr.app N2 Nq3
  refine own_stW st3 ?_
  have e3 : T3.heap = h0 := eh03.trans eh3
  refine own_stW (fun _ k => XS.istore X3.here hx rfl (hb hby at_21) rfl (l' := #[.val (.int ln), .val (.int p0), .val (.int p1), .val (.int p2), .val (.int 0), .val (.int cw_1), .val (.int cw_2), .val (.int cw_3), .unset, .unset, .unset]) rfl k) ?_
  refine own_stW (fun _ k => XS.iload X3.here hx rfl (hb hby at_23) rfl k) ?_
  obtain ⟨T4, h4, k4, X4, e4, E4, A4, st4⟩ := newP X3 hx hZ (oW hw 4 rfl) e3 (g := (mkF m 25 #[.val (.int ln), .val (.int p0), .val (.int p1), .val (.int p2), .val (.int 0), .val (.int cw_1), .val (.int cw_2), .val (.int cw_3), .unset, .unset, .unset] [(.int 0)])) rfl (hb hby at_25) rfl (by decide) (cap := 0) (by decide) (by decide) (by decide) (by decide)
  obtain ⟨b4, gb4⟩ : ∃ z, z = h0.size := ⟨_, rfl⟩
  rw [← gb4] at A4 st4
  refine own_stW st4 ?_
  have Zs5 : n0 ≤ h4.size := Nat.le_trans Z0 E4.1
  have g_b4 : n0 ≤ b4 := Nat.le_trans Z0 (Nat.le_of_eq gb4.symm)
  have gh_b4 : h0.size ≤ b4 := Nat.le_trans (Keep.refl h0 []).1 (Nat.le_of_eq gb4.symm)
  have V_b4 : Arv Z h4 b4 k4 .char (0 : Int32) [] (.int 0) := Arv.new A4 (by decide)
  show own_GlW _ _ _ _ _ _ _ (T4.setTop (mkF m 27 #[.val (.int ln), .val (.int p0), .val (.int p1), .val (.int p2), .val (.int 0), .val (.int cw_1), .val (.int cw_2), .val (.int cw_3), .unset, .unset, .unset] [(.ref b4)]))
  refine own_stW (fun _ k => XS.astore X4.here hx rfl (hb hby at_27) rfl rfl (l' := #[.val (.int ln), .val (.int p0), .val (.int p1), .val (.int p2), .val (.int 0), .val (.int cw_1), .val (.int cw_2), .val (.int cw_3), .val (.ref b4), .unset, .unset]) rfl k) ?_
  refine own_stW (fun _ k => XS.iload X4.here hx rfl (hb hby at_29) rfl k) ?_
  have hd7 : ¬ ((0 : Int32) < (0 : Int32)) := (by decide)
  refine own_stW (fun _ k => XS.ifYes X4.here hx rfl (pc0 := 31) (pc' := 40) rfl (hb hby at_31) rfl ((if0 _ _).trans (flt hd7).2.2.2) (by decide) (by decide) k) ?_
  refine own_stW (fun _ k => XS.iload X4.here hx rfl (hb hby at_40) rfl k) ?_
  show own_GlW _ _ _ _ _ _ _ (T4.setTop (mkF m 42 #[.val (.int ln), .val (.int p0), .val (.int p1), .val (.int p2), .val (.int 0), .val (.int cw_1), .val (.int cw_2), .val (.int cw_3), .val (.ref b4), .unset, .unset] [(.int 0)]))
  refine own_stW (fun _ k => XS.iconst X4.here hx rfl (hb hby at_42) k) ?_
  have hd8 : ¬ ((1 : Int32) < (0 : Int32)) := (by decide)
  refine own_stW (fun _ k => XS.icmpYes X4.here hx rfl (pc0 := 43) (pc' := 52) rfl (hb hby at_43) rfl (flt hd8).2.2.2 (by decide) (by decide) k) ?_
  refine own_stW (fun _ k => XS.iload X4.here hx rfl (hb hby at_52) rfl k) ?_
  refine own_stW (fun _ k => XS.iconst X4.here hx rfl (hb hby at_54) k) ?_
  show own_GlW _ _ _ _ _ _ _ (T4.setTop (mkF m 55 #[.val (.int ln), .val (.int p0), .val (.int p1), .val (.int p2), .val (.int 0), .val (.int cw_1), .val (.int cw_2), .val (.int cw_3), .val (.ref b4), .unset, .unset] [(.int 2), (.int 0)]))
  have hd9 : ¬ ((2 : Int32) < (0 : Int32)) := (by decide)
  refine own_stW (fun _ k => XS.icmpYes X4.here hx rfl (pc0 := 55) (pc' := 64) rfl (hb hby at_55) rfl (flt hd9).2.2.2 (by decide) (by decide) k) ?_
  have K10 : Keep h0 h4 [] := ((Keep.refl h0 []).ext E4)
  obtain ⟨T11, h11, X11, e11, E11, A11, D11, -, st11⟩ := newO X4 hx hZ hown (oW hw 5 rfl) (oW hw 6 rfl) (oW hw 7 rfl) e4 (g := (mkF m 64 #[.val (.int ln), .val (.int p0), .val (.int p1), .val (.int p2), .val (.int 0), .val (.int cw_1), .val (.int cw_2), .val (.int cw_3), .val (.ref b4), .unset, .unset] [])) rfl (hb hby at_64) (by decide) (by decide)
  obtain ⟨b11, gb11⟩ : ∃ z, z = h4.size := ⟨_, rfl⟩
  rw [← gb11] at A11 D11 st11
  refine own_stW st11 ?_
  have Zs12 : n0 ≤ h11.size := Nat.le_trans Zs5 E11.1
  have g_b11 : n0 ≤ b11 := Nat.le_trans Zs5 (Nat.le_of_eq gb11.symm)
  have gh_b11 : h0.size ≤ b11 := Nat.le_trans K10.1 (Nat.le_of_eq gb11.symm)
  have ne_b4_b11 : b4 ≠ b11 := Nat.ne_of_lt (Nat.lt_of_lt_of_le V_b4.lt (Nat.le_of_eq gb11.symm))
  have F_value_b11 : Fld Z h11 b11 "java/lang/String" "value" "[B" .null := D11 (Or.inr (oW hw 20 rfl)) (ty := (.array .byte)) (by decide)
  have F_coder_b11 : Fld Z h11 b11 "java/lang/String" "coder" "B" (.int 0) := D11 (Or.inr (oW hw 21 rfl)) (ty := .byte) (by decide)
  refine own_stW (fun _ k => XS.dup X11.here hx rfl (hb hby at_67) rfl rfl k) ?_
  refine own_stW (fun _ k => XS.aload X11.here hx rfl (hb hby at_68) rfl rfl k) ?_
  show own_GlW _ _ _ _ _ _ _ (T11.setTop (mkF m 70 #[.val (.int ln), .val (.int p0), .val (.int p1), .val (.int p2), .val (.int 0), .val (.int cw_1), .val (.int cw_2), .val (.int cw_3), .val (.ref b4), .unset, .unset] [(.ref b4), (.ref b11), (.ref b11)]))
  have f15 := ((Old0.ext E4).ext E11)
  have f16 := (V_b4.ext E11)
  obtain ⟨_, _, ⟨T14, L14, k14, n14⟩, -, X14, hS, -, ⟨Lc14, hQ14, l14, y14, z14⟩, st14⟩ := X11.specialBackS hx (y := oM17) rfl hown (mvT hZ (oW hw 8 rfl)) (mvT hZ (oW hw 9 rfl)) (mvT hZ (oW hw 10 rfl)) (by decide) (own_backOfS (W := 1) (own_i1_0 l Z a0 hw [] b11 b4 k4 h11 n0 Zs12 A11 F_value_b11 F_coder_b11 g_b11 f15 hch hcw f16) hZ hI (oW hw 10 rfl) (oW hw 7 rfl) (by decide) (by decide)) (g := (mkF m 70 #[.val (.int ln), .val (.int p0), .val (.int p1), .val (.int p2), .val (.int 0), .val (.int cw_1), .val (.int cw_2), .val (.int cw_3), .val (.ref b4), .unset, .unset] [(.ref b4), (.ref b11), (.ref b11)])) rfl (by rw [hml]; rfl) (Steps.refl _) (a := b11) (argsL := [(.ref b4)]) (rest := [(.ref b11)]) (lenOf own_pd985728365 rfl) rfl (by show 2 * 0 + _ ≤ _; exact Nat.le_of_eq rfl) (hb hby at_70) (fun _ _ => ⟨rfl, e11, (by decide : 2 + 2 ≤ room_1.cells), (by decide : 4 + 4 ≤ room_1.slots)⟩)
  dsimp only [Pt.U, Pt.locs, Pt.cells, Pt.slots] at X14 l14 y14 z14 st14 hQ14 hS
  subst l14 y14 z14
  have hZ : Z.Warmed39 (s.setVm T14.vm).vm := State.Warmed39.trans hZ hS.1
  have hown : (s.setVm T14.vm).vm.findClass "com/example/brolga/brolga/xml/XmlCharactersIsWhiteSpacePinLaw" = some m.cls := by rw [show (s.setVm T14.vm).vm = T14.vm from rfl, hS.1.alike.findClass]; exact hown
  obtain ⟨hh14, eh014⟩ : ∃ z, T14.heap = z := ⟨_, rfl⟩
  rw [eh014] at hQ14
  obtain ⟨r_14, kr_14, rfl, Nq14, Kq14, P14_0, P14_1, P14_2⟩ := hQ14
  have N14 := Fr.app N3 Nq14
  refine own_trW st14 ?_
  have K17 : Keep h0 h11 [] := (K10.ext E11)
  have Zs18 : n0 ≤ hh14.size := Nat.le_trans Zs12 Kq14.1
  have hk : T14.heap.size ≤ hh14.size := Nat.le_of_eq (congrArg Array.size eh014)
  refine own_stW (fun _ k => XS.astore X14.here hx rfl (hb hby at_73) rfl rfl (l' := #[.val (.int ln), .val (.int p0), .val (.int p1), .val (.int p2), .val (.int 0), .val (.int cw_1), .val (.int cw_2), .val (.int cw_3), .val (.ref b4), .val (.ref b11), .unset]) rfl k) ?_
  refine own_stW (fun _ k => XS.iload X14.here hx rfl (hb hby at_75) rfl k) ?_
  refine own_stW (fun _ k => XS.iconst X14.here hx rfl (hb hby at_77) k) ?_
  show own_GlW _ _ _ _ _ _ _ (T14.setTop (mkF m 78 #[.val (.int ln), .val (.int p0), .val (.int p1), .val (.int p2), .val (.int 0), .val (.int cw_1), .val (.int cw_2), .val (.int cw_3), .val (.ref b4), .val (.ref b11), .unset] [(.int 1), (.int 0)]))
  have hd19 : (0 : Int32) < (1 : Int32) := (by decide)
  refine own_stW (fun _ k => XS.icmpYes X14.here hx rfl (pc0 := 78) (pc' := 89) rfl (hb hby at_78) rfl (tlt hd19).1 (by decide) (by decide) k) ?_
  refine own_stW (fun _ k => XS.iload X14.here hx rfl (hb hby at_89) rfl k) ?_
  refine own_stW (fun _ k => XS.iconst X14.here hx rfl (hb hby at_91) k) ?_
  have hd20 : (0 : Int32) < (2 : Int32) := (by decide)
  refine own_stW (fun _ k => XS.icmpYes X14.here hx rfl (pc0 := 92) (pc' := 103) rfl (hb hby at_92) rfl (tlt hd20).1 (by decide) (by decide) k) ?_
  show own_GlW _ _ _ _ _ _ _ (T14.setTop (mkF m 103 #[.val (.int ln), .val (.int p0), .val (.int p1), .val (.int p2), .val (.int 0), .val (.int cw_1), .val (.int cw_2), .val (.int cw_3), .val (.ref b4), .val (.ref b11), .unset] []))
  refine own_stW (fun _ k => XS.iload X14.here hx rfl (hb hby at_103) rfl k) ?_
  refine own_stW (fun _ k => XS.iconst X14.here hx rfl (hb hby at_105) k) ?_
  have hd21 : (0 : Int32) < (3 : Int32) := (by decide)
  refine own_stW (fun _ k => XS.icmpYes X14.here hx rfl (pc0 := 106) (pc' := 117) rfl (hb hby at_106) rfl (tlt hd21).1 (by decide) (by decide) k) ?_
  refine own_stW (fun _ k => XS.iconst X14.here hx rfl (hb hby at_117) k) ?_
  show own_GlW _ _ _ _ _ _ _ (T14.setTop (mkF m 118 #[.val (.int ln), .val (.int p0), .val (.int p1), .val (.int p2), .val (.int 0), .val (.int cw_1), .val (.int cw_2), .val (.int cw_3), .val (.ref b4), .val (.ref b11), .unset] [(.int 1)]))
  refine own_stW (fun _ k => XS.goto X14.here hx rfl (pc0 := 118) (pc' := 122) rfl (hb hby at_118) (by decide) (by decide) k) ?_
  refine own_stW (fun _ k => XS.istore X14.here hx rfl (hb hby at_122) rfl (l' := #[.val (.int ln), .val (.int p0), .val (.int p1), .val (.int p2), .val (.int 0), .val (.int cw_1), .val (.int cw_2), .val (.int cw_3), .val (.ref b4), .val (.ref b11), .val (.int 1)]) rfl k) ?_
  refine own_stW (fun _ k => XS.aload X14.here hx rfl (hb hby at_124) rfl rfl k) ?_
  have f23 := (f15.keep Kq14 (allS g_b11 all0))
  have f24 := (A11.keep Kq14)
  have f25 := (f16.keep Kq14 (ninS ne_b4_b11 nin0))
  obtain ⟨_, _, ⟨T22, L22, k22, n22⟩, -, X22, ⟨Lc22, hQ22, l22, y22, z22⟩, st22⟩ := Jvm.LawKit.callS X14 hx (y := oM23) hown (mvT hZ (oW hw 26 rfl)) (mvT hZ (oW hw 27 rfl)) (mvT hZ (oW hw 28 rfl)) (mvT hZ (oW hw 29 rfl)) (by decide) (backOf (W := 0) (own_iws0 l Z a0 hw [] b11 r_14 kr_14 cs hh14 n0 Zs18 f23 sC hcs f24 P14_1 P14_2 P14_0) hZ (oW hw 29 rfl) (oW hw 28 rfl) (by decide) (by decide)) (g := (mkF m 126 #[.val (.int ln), .val (.int p0), .val (.int p1), .val (.int p2), .val (.int 0), .val (.int cw_1), .val (.int cw_2), .val (.int cw_3), .val (.ref b4), .val (.ref b11), .val (.int 1)] [(.ref b11)])) rfl (by rw [hml]; rfl) (argsL := [(.ref b11)]) (rest := []) (lenOf own_pd695904231 rfl) rfl (by show 2 * 0 + _ ≤ _; exact Nat.le_of_eq rfl) (hb hby at_126) (fun _ _ => ⟨rfl, eh014, (by decide : 4 + 0 ≤ room_1.cells), (by decide : 8 + 0 ≤ room_1.slots)⟩)
  dsimp only [Pt.U, Pt.locs, Pt.cells, Pt.slots] at X22 l22 y22 z22 st22 hQ22
  subst l22 y22 z22
  obtain ⟨hh22, eh022⟩ : ∃ z, T22.heap = z := ⟨_, rfl⟩
  rw [eh022] at hQ22
  obtain ⟨rfl, Nq22, eh22⟩ := hQ22
  have N22 := Fr.app N14 Nq22
  refine own_stW st22 ?_
  have e22 : T22.heap = hh14 := eh022.trans eh22
  show own_GlW _ _ _ _ _ _ _ (T22.setTop (mkF m 129 #[.val (.int ln), .val (.int p0), .val (.int p1), .val (.int p2), .val (.int 0), .val (.int cw_1), .val (.int cw_2), .val (.int cw_3), .val (.ref b4), .val (.ref b11), .val (.int 1)] [(.int 1)]))
  refine own_stW (fun _ k => XS.iload X22.here hx rfl (hb hby at_129) rfl k) ?_
  have hd26 : (1 : Int32) = (1 : Int32) := (by decide)
  refine own_stW (fun _ k => XS.icmpNo X22.here hx rfl (hb hby at_131) rfl (teq hd26).2 k) ?_
  refine own_stW (fun _ k => XS.iconst X22.here hx rfl (hb hby at_134) k) ?_
  refine own_stW (fun _ k => XS.goto X22.here hx rfl (pc0 := 135) (pc' := 139) rfl (hb hby at_135) (by decide) (by decide) k) ?_
  show own_GlW _ _ _ _ _ _ _ (T22.setTop (mkF m 139 #[.val (.int ln), .val (.int p0), .val (.int p1), .val (.int p2), .val (.int 0), .val (.int cw_1), .val (.int cw_2), .val (.int cw_3), .val (.ref b4), .val (.ref b11), .val (.int 1)] [(.int 1)]))
  exact own_retNW X22 hS hk hx hlk (t := .boolean) hret (by simp) (hb hby at_139) e22 ⟨rfl, N22⟩ (by decide) (by decide)

theorem comes_1 {Post : Tables → Env → Array Value → State → Outcome → State → Prop} (hpost : ∀ tb e args s v u, (limb_1_1.after args s (.returned v) u = true ∧ limb_1_2.after args s (.returned v) u = true ∧ True) → ReturnedEndW s (.returned v) u (Jvm.fieldLocs frame_1_writes args s ++ Jvm.arrayLocs frame_1_arrays args s ++ Jvm.staticLocs frame_1_statics s) 24 1152 → Post tb e args s (.returned v) u) :
    ArmFor flags0 classFile x code maxLocals ret World_1 tables_1 room_1 Calls_1 rest_1 Pre_1 Post := by
  intro l hfl _ _ p e ha hc hk s m args below hf hA hF happ hP
  obtain ⟨hcalls, hrest, hpre⟩ := hP
  obtain ⟨-, -, -, hnamed, -, -, -, hat⟩ := (Spec.applies_iff hf).mp happ
  obtain ⟨hg, hn⟩ := and_e (Cond.before_iff.mp (show (Jvm.Cond.and given_1 narrow_1).before args s = true from hpre))
  obtain ⟨g0, g1⟩ := and_e hg
  obtain ⟨g2, g3⟩ := and_e g1
  obtain ⟨g4, g5⟩ := and_e g3
  obtain ⟨g6, g7⟩ := and_e g5
  obtain ⟨w0, w1, w2, w3, rfl⟩ : ∃ w0 w1 w2 w3 : Value, args = #[w0, w1, w2, w3] := by
    have hs : args.size = 4 := by simpa [Cond.value, given_1] using g0
    obtain ⟨L⟩ := args
    match L, hs with
    | [w0, w1, w2, w3], _ => exact ⟨w0, w1, w2, w3, rfl⟩
  have hw := fun d (hd : d ∈ tables_1) => atoms_spec (ws := Jvm.Cond.code x code maxLocals ret :: tables_1) hat d (List.mem_cons_of_mem _ hd)
  obtain ⟨hsets, hown0⟩ := atoms_of _ (rest_1_c_eq ▸ (show rest_1_c.before _ s = true from hrest))
  obtain ⟨i0, ei0⟩ := is_v g2
  obtain rfl : w0 = (.int i0) := Option.some.inj ei0
  obtain ⟨i1, ei1⟩ := is_v g4
  obtain rfl : w1 = (.int i1) := Option.some.inj ei1
  obtain ⟨i2, ei2⟩ := is_v g6
  obtain rfl : w2 = (.int i2) := Option.some.inj ei2
  obtain ⟨i3, ei3⟩ := is_v g7
  obtain rfl : w3 = (.int i3) := Option.some.inj ei3
  obtain ⟨cs, ev_cs⟩ := is_v (Cond.before_iff.mp (hsets _ (List.mem_of_getElem? (i := 1) rfl)))
  have xs_cs := Sta.start ev_cs (Or.inl (hsets _ (List.mem_of_getElem? (i := 0) rfl)))
  have xcs : ¬ (cs = (0 : Int32)) := gotF (Cond.eq_ints ev_cs (Term.int_eval 0)) (not_v (Cond.before_iff.mp (hsets _ (List.mem_of_getElem? (i := 2) rfl))))
  have xs_ad := Sta.start (own_sta_int (hsets _ (List.mem_of_getElem? (i := 12) rfl))) (Or.inl (hsets _ (List.mem_of_getElem? (i := 11) rfl)))
  have xs_hi := Sta.start (own_sta_int (hsets _ (List.mem_of_getElem? (i := 15) rfl))) (Or.inl (hsets _ (List.mem_of_getElem? (i := 14) rfl)))
  have xs_lo := Sta.start (own_sta_int (hsets _ (List.mem_of_getElem? (i := 18) rfl))) (Or.inl (hsets _ (List.mem_of_getElem? (i := 17) rfl)))
  obtain ⟨sf, ev_sf, xsf⟩ := own_isref (hsets _ (List.mem_of_getElem? (i := 8) rfl))
  have xs_sf := Sta.start ev_sf (Or.inl (hsets _ (List.mem_of_getElem? (i := 7) rfl)))
  have xch : Jvm.Lit.constHeld s "java/lang/String" 7 := hcalls.1 ("java/lang/String", 7) (by simp [consts_1])
  have xcw : Jvm.Lit.compactW.before _ s = true := (hsets _ (List.mem_of_getElem? (i := 2) rfl))
  rcases own_and3 i0 with hE | hE | hE | hE
  · obtain ⟨n, o, h1, h2, h3, _, L, rfl, ⟨rfl, N⟩, hq⟩ := own_law0 l s _ hw tables_1 i0 i1 i2 i3 cs sf s.heap s.heap.size (Nat.le_refl _) (Old.start s) xs_cs xs_ad xs_hi xs_lo xs_sf xcs xch xcw hE p e ha hc hk s m _ below hf ((Spec.applies_iff_loose hf).mp happ).1 ⟨rfl, ⟨State.Warmed39.refl s, rfl⟩, rfl⟩ trivial
    exact ⟨n, _, h1, h2, h3, hpost _ _ _ _ _ _ ⟨Cond.after_iff.mpr rfl, Cond.after_iff.mpr (eq_i res_at (Term.int_eval (1)) rfl), trivial⟩ ⟨hq.1, hq.2.1, hq.2.2.1, (hq.2.2.2.sift fun y hy => Or.inr (N y hy)).mono (by decide) (by decide)⟩⟩
  · obtain ⟨n, o, h1, h2, h3, _, L, rfl, ⟨rfl, N⟩, hq⟩ := own_law1 l s _ hw tables_1 i0 i1 i2 i3 cs sf s.heap s.heap.size (Nat.le_refl _) (Old.start s) xs_cs xs_ad xs_hi xs_lo xs_sf xcs xsf hE p e ha hc hk s m _ below hf ((Spec.applies_iff_loose hf).mp happ).1 ⟨rfl, State.Warmed39.refl s, rfl⟩ trivial
    exact ⟨n, _, h1, h2, h3, hpost _ _ _ _ _ _ ⟨Cond.after_iff.mpr rfl, Cond.after_iff.mpr (eq_i res_at (Term.int_eval (1)) rfl), trivial⟩ (ReturnedEndW.of_narrow hq.1 hq.2.1 ((hq.2.2.sift fun y hy => Or.inr (N y hy)).mono (by decide) (by decide)))⟩
  · obtain ⟨n, o, h1, h2, h3, _, L, rfl, ⟨rfl, N⟩, hq⟩ := own_law2 l s _ hw tables_1 i0 i1 i2 i3 cs sf s.heap s.heap.size (Nat.le_refl _) (Old.start s) xs_cs xs_ad xs_hi xs_lo xs_sf xcs xsf hE p e ha hc hk s m _ below hf ((Spec.applies_iff_loose hf).mp happ).1 ⟨rfl, State.Warmed39.refl s, rfl⟩ trivial
    exact ⟨n, _, h1, h2, h3, hpost _ _ _ _ _ _ ⟨Cond.after_iff.mpr rfl, Cond.after_iff.mpr (eq_i res_at (Term.int_eval (1)) rfl), trivial⟩ (ReturnedEndW.of_narrow hq.1 hq.2.1 ((hq.2.2.sift fun y hy => Or.inr (N y hy)).mono (by decide) (by decide)))⟩
  · obtain ⟨n, o, h1, h2, h3, _, L, rfl, ⟨rfl, N⟩, hq⟩ := own_law3 l s _ hw tables_1 i0 i1 i2 i3 cs sf s.heap s.heap.size (Nat.le_refl _) (Old.start s) xs_cs xs_ad xs_hi xs_lo xs_sf xcs xsf hE p e ha hc hk s m _ below hf ((Spec.applies_iff_loose hf).mp happ).1 ⟨rfl, State.Warmed39.refl s, rfl⟩ trivial
    exact ⟨n, _, h1, h2, h3, hpost _ _ _ _ _ _ ⟨Cond.after_iff.mpr rfl, Cond.after_iff.mpr (eq_i res_at (Term.int_eval (1)) rfl), trivial⟩ (ReturnedEndW.of_narrow hq.1 hq.2.1 ((hq.2.2.sift fun y hy => Or.inr (N y hy)).mono (by decide) (by decide)))⟩
theorem main_1_1 : Claimed_1_1 := comes_1 fun _ _ _ _ _ _ h hF => ⟨h.1, hF⟩
theorem main_1_2 : Claimed_1_2 := comes_1 fun _ _ _ _ _ _ h hF => ⟨h.2.1, hF⟩

end Jvm.Pilot.@@N@@
namespace Jvm.Pilot.@@N@@
open Jvm Jvm.ClassFile Sem Op Lib Jvm.Free Jvm.Stand Jvm.Pilot.@@N@@.Jvm.D
/-! MADE BY PROGRAM (witnessworld.py) out of the Statement's table words and the real class files: 20 classes; the members and pool entries that the words name. The judged class is class 1, her method 1. -/
namespace start1
open Jvm.ClassFile
def u (s : String) : CpInfo := .utf8 (stringToUtf16 s)
/-- a pool by its gaps: so many unusable entries, then the entry; so many at the end -/
def gap : Nat → List CpInfo → List CpInfo
  | 0, r => r
  | n + 1, r => .unusable :: gap n r
def poolList (es : List (Nat × CpInfo)) (last : Nat) : List CpInfo := es.foldr (fun e r => gap e.1 (e.2 :: r)) (gap last [])
def pool (es : List (Nat × CpInfo)) (last : Nat) : Array CpInfo := ⟨poolList es last⟩
def fileOf (pool : Array CpInfo) (this : Nat) (attrs : Array Attribute := #[]) (ms : Array MethodInfo := #[]) (fl : Nat := 33) (sup : Nat := 0) (ifs : Array Nat := #[]) (fds : Array FieldInfo := #[]) : ClassFile where
  minorVersion := 0
  majorVersion := 65
  constantPool := pool
  accessFlags := fl
  thisClass := this
  superClass := sup
  interfaces := ifs
  fields := fds
  methods := ms
  attributes := attrs
def plain (name : String) (sup : Option ClassId) : Class where
  name := name
  kind := .ordinary
  loader := none
  accessFlags := 33
  super := sup
  interfaces := #[]
  cf := none
  fields := #[]
  methods := #[]
  instanceTypes := #[]
  staticTypes := #[]
  resolved := #[]
  callSites := []
  init := .initialized
  statics := none
  mirror := none

def pool0 : Array CpInfo := pool [(5, u "<init>"), (0, u "()V"), (1, .class_ 10), (1, u "java/lang/Object")] 113

def k0c0 : Code := { maxStack := 0, maxLocals := 1, code := object_method_1_code, exceptionTable := #[], attributes := #[] }
def k0m0 : Method := { name := "<init>", desc := "()V", sig := { parameters := [], returnType := none }, accessFlags := 1, code := some k0c0 }
/-- java/lang/Object -/
def k0 : Class := { plain "java/lang/Object" none with
  accessFlags := 33
  interfaces := #[]
  cf := some (fileOf pool0 8 #[] #[{ accessFlags := 1, nameIndex := 5, descriptorIndex := 6, attributes := #[] }] 33 0 #[] #[])
  fields := #[]
  methods := #[k0m0]
  instanceTypes := #[]
  staticTypes := #[]
  resolved := Array.replicate 124 none
  statics := none }

def pool1 : Array CpInfo := pool [(2, .class_ 4), (1, u "java/lang/Object"), (0, u "<init>"), (0, u "()V"), (0, .methodref 8 9), (0, .class_ 10), (0, .nameAndType 11 12), (0, u "com/example/brolga/brolga/xml/XmlCharactersIsWhiteSpacePinLaw"), (0, u "draw"), (0, u "(I)C"), (0, .class_ 14), (0, u "java/lang/String"), (0, .methodref 13 16), (0, .nameAndType 5 17), (0, u "([C)V"), (0, .methodref 8 19), (0, .nameAndType 20 21), (0, u "ws"), (0, u "(C)Z"), (0, .methodref 23 24), (0, .class_ 25), (0, .nameAndType 26 27), (0, u "com/example/brolga/brolga/xml/XmlCharacters"), (0, u "isWhiteSpace"), (0, u "(Ljava/lang/CharSequence;)Z"), (2, u "law"), (0, u "(IIII)Z")] 5

def k1m0 : Method := { name := "<init>", desc := "()V", sig := { parameters := [], returnType := none }, accessFlags := 2, code := none }
def k1c1 : Code := { maxStack := 3, maxLocals := 11, code := code, exceptionTable := #[], attributes := #[] }
def k1m1 : Method := { name := "law", desc := "(IIII)Z", sig := { parameters := [.int, .int, .int, .int], returnType := some .boolean }, accessFlags := 9, code := some k1c1 }
def k1c2 : Code := { maxStack := 2, maxLocals := 2, code := method_3_code, exceptionTable := #[], attributes := #[] }
def k1m2 : Method := { name := "draw", desc := "(I)C", sig := { parameters := [.int], returnType := some .char }, accessFlags := 10, code := some k1c2 }
def k1c3 : Code := { maxStack := 2, maxLocals := 1, code := method_4_code, exceptionTable := #[], attributes := #[] }
def k1m3 : Method := { name := "ws", desc := "(C)Z", sig := { parameters := [.char], returnType := some .boolean }, accessFlags := 10, code := some k1c3 }
/-- com/example/brolga/brolga/xml/XmlCharactersIsWhiteSpacePinLaw -/
def k1 : Class := { plain "com/example/brolga/brolga/xml/XmlCharactersIsWhiteSpacePinLaw" (some 0) with
  accessFlags := 49
  interfaces := #[]
  cf := some (fileOf pool1 8 #[] #[{ accessFlags := 2, nameIndex := 5, descriptorIndex := 6, attributes := #[] }, { accessFlags := 9, nameIndex := 30, descriptorIndex := 31, attributes := #[] }, { accessFlags := 10, nameIndex := 11, descriptorIndex := 12, attributes := #[] }, { accessFlags := 10, nameIndex := 20, descriptorIndex := 21, attributes := #[] }] 49 2 #[] #[])
  fields := #[]
  methods := #[k1m0, k1m1, k1m2, k1m3]
  instanceTypes := #[]
  staticTypes := #[]
  resolved := Array.replicate 37 none
  statics := none }

def pool2 : Array CpInfo := pool [(1, .class_ 2), (0, u "java/io/Serializable"), (0, .class_ 4), (0, u "java/lang/Object")] 2

/-- java/io/Serializable -/
def k2 : Class := { plain "java/io/Serializable" (some 0) with
  accessFlags := 1537
  interfaces := #[]
  cf := some (fileOf pool2 1 #[] #[] 1537 3 #[] #[])
  fields := #[]
  methods := #[]
  instanceTypes := #[]
  staticTypes := #[]
  resolved := Array.replicate 7 none
  statics := none }

def pool3 : Array CpInfo := pool [(1, .class_ 2), (0, u "java/lang/Comparable"), (0, .class_ 4), (0, u "java/lang/Object")] 7

/-- java/lang/Comparable -/
def k3 : Class := { plain "java/lang/Comparable" (some 0) with
  accessFlags := 1537
  interfaces := #[]
  cf := some (fileOf pool3 1 #[] #[] 1537 3 #[] #[])
  fields := #[]
  methods := #[]
  instanceTypes := #[]
  staticTypes := #[]
  resolved := Array.replicate 12 none
  statics := none }

def pool4 : Array CpInfo := pool [(2, .class_ 4), (1, u "java/lang/CharSequence"), (0, u "length"), (0, u "()I"), (38, u "charAt"), (0, u "(I)C"), (0, .class_ 48), (0, u "java/lang/CharSequence$1CodePointIterator"), (10, .class_ 60), (0, u "java/lang/CharSequence$1CharIterator"), (5, .class_ 67), (0, u "java/lang/Object")] 63

def k4m0 : Method := { name := "length", desc := "()I", sig := { parameters := [], returnType := some .int }, accessFlags := 1025, code := none }
def k4m1 : Method := { name := "charAt", desc := "(I)C", sig := { parameters := [.int], returnType := some .char }, accessFlags := 1025, code := none }
/-- java/lang/CharSequence -/
def k4 : Class := { plain "java/lang/CharSequence" (some 0) with
  accessFlags := 1537
  interfaces := #[]
  cf := some (fileOf pool4 2 #[.nestMembers #[47, 59]] #[{ accessFlags := 1025, nameIndex := 5, descriptorIndex := 6, attributes := #[] }, { accessFlags := 1025, nameIndex := 45, descriptorIndex := 46, attributes := #[] }] 1537 66 #[] #[])
  fields := #[]
  methods := #[k4m0, k4m1]
  instanceTypes := #[]
  staticTypes := #[]
  resolved := Array.replicate 131 none
  statics := none }

def pool5 : Array CpInfo := pool [(1, .class_ 2), (0, u "java/lang/constant/Constable"), (0, .class_ 4), (0, u "java/lang/Object")] 6

/-- java/lang/constant/Constable -/
def k5 : Class := { plain "java/lang/constant/Constable" (some 0) with
  accessFlags := 1537
  interfaces := #[]
  cf := some (fileOf pool5 1 #[] #[] 1537 3 #[] #[])
  fields := #[]
  methods := #[]
  instanceTypes := #[]
  staticTypes := #[]
  resolved := Array.replicate 11 none
  statics := none }

def pool6 : Array CpInfo := pool [(1, .class_ 2), (0, u "java/lang/constant/ConstantDesc"), (0, .class_ 4), (0, u "java/lang/Object")] 32

/-- java/lang/constant/ConstantDesc -/
def k6 : Class := { plain "java/lang/constant/ConstantDesc" (some 0) with
  accessFlags := 1537
  interfaces := #[]
  cf := some (fileOf pool6 1 #[] #[] 1537 3 #[] #[])
  fields := #[]
  methods := #[]
  instanceTypes := #[]
  staticTypes := #[]
  resolved := Array.replicate 37 none
  statics := none }

def pool7 : Array CpInfo := pool [(1, .methodref 2 3), (0, .class_ 4), (0, .nameAndType 5 6), (0, u "java/lang/Object"), (0, u "<init>"), (0, u "()V"), (0, .string 8), (0, u ""), (0, .fieldref 10 11), (0, .class_ 12), (0, .nameAndType 13 14), (0, u "java/lang/String"), (0, u "value"), (0, u "[B"), (0, .fieldref 10 16), (0, .nameAndType 17 18), (0, u "coder"), (0, u "B"), (2, u "hash"), (0, u "I"), (2, u "hashIsZero"), (0, u "Z"), (0, .methodref 10 28), (0, .nameAndType 5 29), (0, u "([CIILjava/lang/Void;)V"), (8, .fieldref 10 39), (0, .nameAndType 40 26), (0, u "COMPACT_STRINGS"), (1, .class_ 44), (1, u "java/lang/StringUTF16"), (0, u "compress"), (1, .methodref 42 48), (0, .nameAndType 49 50), (0, u "coderFromArrayLen"), (0, u "([BI)B"), (56, .class_ 109), (1, u "java/lang/StringLatin1"), (32, u "()Z"), (34, .methodref 42 178), (0, .nameAndType 45 179), (0, u "([CII)[B"), (154, u "()I"), (0, .methodref 10 336), (0, .nameAndType 17 337), (0, u "()B"), (25, u "([BI)C"), (27, u "(II)V"), (35, u "(I)C"), (64, .methodref 10 493), (0, .nameAndType 494 142), (0, u "isLatin1"), (0, .methodref 107 496), (0, .nameAndType 497 363), (0, u "charAt"), (0, .methodref 42 496), (2, u "checkIndex"), (5, u "length"), (67, .class_ 576), (0, u "java/lang/CharSequence"), (22, u "CASE_INSENSITIVE_ORDER"), (0, u "Ljava/util/Comparator;"), (409, u "([C)V"), (42, .fieldref 1054 1055), (0, .class_ 1056), (0, .nameAndType 1057 1058), (0, u "jdk/internal/util/Preconditions"), (0, u "SIOOBE_FORMATTER"), (0, u "Ljava/util/function/BiFunction;"), (0, .methodref 1054 1060), (0, .nameAndType 501 1061), (0, u "(IILjava/util/function/BiFunction;)I"), (39, u "serialPersistentFields"), (0, u "[Ljava/io/ObjectStreamField;"), (0, .class_ 1104), (0, u "java/lang/String$CaseInsensitiveComparator"), (1, .class_ 1107), (0, u "java/io/Serializable"), (0, .class_ 1109), (0, u "java/lang/Comparable"), (0, .class_ 1111), (0, u "java/lang/constant/Constable"), (0, .class_ 1113), (0, u "java/lang/constant/ConstantDesc"), (2, u "serialVersionUID"), (0, u "J"), (3, u "REPL"), (0, u "C"), (2, u "LATIN1"), (1, u "UTF16")] 323

def k7m0 : Method := { name := "<init>", desc := "()V", sig := { parameters := [], returnType := none }, accessFlags := 1, code := none }
def k7c1 : Code := { maxStack := 5, maxLocals := 2, code := jdk_42_method_3_code, exceptionTable := #[], attributes := #[] }
def k7m1 : Method := { name := "<init>", desc := "([C)V", sig := { parameters := [(.array .char)], returnType := none }, accessFlags := 1, code := some k7c1 }
def k7c2 : Code := { maxStack := 2, maxLocals := 1, code := jdk_42_method_54_code, exceptionTable := #[], attributes := #[] }
def k7m2 : Method := { name := "length", desc := "()I", sig := { parameters := [], returnType := some .int }, accessFlags := 1, code := some k7c2 }
def k7c3 : Code := { maxStack := 2, maxLocals := 2, code := jdk_42_method_56_code, exceptionTable := #[], attributes := #[] }
def k7m3 : Method := { name := "charAt", desc := "(I)C", sig := { parameters := [.int], returnType := some .char }, accessFlags := 1, code := some k7c3 }
def k7c4 : Code := { maxStack := 4, maxLocals := 6, code := jdk_42_method_149_code, exceptionTable := #[], attributes := #[] }
def k7m4 : Method := { name := "<init>", desc := "([CIILjava/lang/Void;)V", sig := { parameters := [(.array .char), .int, .int, (.object "java/lang/Void")], returnType := none }, accessFlags := 2, code := some k7c4 }
def k7c5 : Code := { maxStack := 1, maxLocals := 1, code := jdk_42_method_152_code, exceptionTable := #[], attributes := #[] }
def k7m5 : Method := { name := "coder", desc := "()B", sig := { parameters := [], returnType := some .byte }, accessFlags := 0, code := some k7c5 }
def k7c6 : Code := { maxStack := 1, maxLocals := 1, code := jdk_42_method_154_code, exceptionTable := #[], attributes := #[] }
def k7m6 : Method := { name := "isLatin1", desc := "()Z", sig := { parameters := [], returnType := some .boolean }, accessFlags := 0, code := some k7c6 }
def k7c7 : Code := { maxStack := 3, maxLocals := 2, code := jdk_42_method_155_code, exceptionTable := #[], attributes := #[] }
def k7m7 : Method := { name := "checkIndex", desc := "(II)V", sig := { parameters := [.int, .int], returnType := none }, accessFlags := 8, code := some k7c7 }
/-- java/lang/String -/
def k7 : Class := { plain "java/lang/String" (some 0) with
  accessFlags := 49
  interfaces := #[2, 3, 4, 5, 6]
  cf := some (fileOf pool7 10 #[.nestMembers #[1103]] #[{ accessFlags := 1, nameIndex := 5, descriptorIndex := 6, attributes := #[] }, { accessFlags := 1, nameIndex := 5, descriptorIndex := 1010, attributes := #[] }, { accessFlags := 1, nameIndex := 507, descriptorIndex := 334, attributes := #[] }, { accessFlags := 1, nameIndex := 497, descriptorIndex := 427, attributes := #[] }, { accessFlags := 2, nameIndex := 5, descriptorIndex := 29, attributes := #[] }, { accessFlags := 0, nameIndex := 17, descriptorIndex := 337, attributes := #[] }, { accessFlags := 0, nameIndex := 494, descriptorIndex := 142, attributes := #[] }, { accessFlags := 8, nameIndex := 501, descriptorIndex := 391, attributes := #[] }] 49 2 #[1106, 1108, 575, 1110, 1112] #[{ accessFlags := 18, nameIndex := 13, descriptorIndex := 14, attributes := #[] }, { accessFlags := 18, nameIndex := 17, descriptorIndex := 18, attributes := #[] }, { accessFlags := 2, nameIndex := 21, descriptorIndex := 22, attributes := #[] }, { accessFlags := 2, nameIndex := 25, descriptorIndex := 26, attributes := #[] }, { accessFlags := 26, nameIndex := 1116, descriptorIndex := 1117, attributes := #[] }, { accessFlags := 24, nameIndex := 40, descriptorIndex := 26, attributes := #[] }, { accessFlags := 26, nameIndex := 1101, descriptorIndex := 1102, attributes := #[] }, { accessFlags := 26, nameIndex := 1121, descriptorIndex := 1122, attributes := #[] }, { accessFlags := 25, nameIndex := 599, descriptorIndex := 600, attributes := #[] }, { accessFlags := 24, nameIndex := 1125, descriptorIndex := 18, attributes := #[] }, { accessFlags := 24, nameIndex := 1127, descriptorIndex := 18, attributes := #[] }])
  fields := #[{ name := "value", type := (.array .byte), accessFlags := 18, slot := 0, constantValue := 0 }, { name := "coder", type := .byte, accessFlags := 18, slot := 1, constantValue := 0 }, { name := "hash", type := .int, accessFlags := 2, slot := 2, constantValue := 0 }, { name := "hashIsZero", type := .boolean, accessFlags := 2, slot := 3, constantValue := 0 }, { name := "serialVersionUID", type := .long, accessFlags := 26, slot := 0, constantValue := 0 }, { name := "COMPACT_STRINGS", type := .boolean, accessFlags := 24, slot := 1, constantValue := 0 }, { name := "serialPersistentFields", type := (.array (.object "java/io/ObjectStreamField")), accessFlags := 26, slot := 2, constantValue := 0 }, { name := "REPL", type := .char, accessFlags := 26, slot := 3, constantValue := 0 }, { name := "CASE_INSENSITIVE_ORDER", type := (.object "java/util/Comparator"), accessFlags := 25, slot := 4, constantValue := 0 }, { name := "LATIN1", type := .byte, accessFlags := 24, slot := 5, constantValue := 0 }, { name := "UTF16", type := .byte, accessFlags := 24, slot := 6, constantValue := 0 }]
  methods := #[k7m0, k7m1, k7m2, k7m3, k7m4, k7m5, k7m6, k7m7]
  instanceTypes := #[(.array .byte), .byte, .int, .boolean]
  staticTypes := #[.long, .boolean, (.array (.object "java/io/ObjectStreamField")), .char, (.object "java/util/Comparator"), .byte, .byte]
  resolved := Array.replicate 1451 none
  statics := some 0 }

def pool8 : Array CpInfo := pool [(2, .class_ 4), (1, u "java/lang/Object"), (0, u "<init>"), (0, u "()V"), (1, .class_ 10), (1, u "com/example/brolga/brolga/xml/XmlCharacters"), (35, .interfaceMethodref 47 48), (0, .class_ 49), (0, .nameAndType 50 51), (0, u "java/lang/CharSequence"), (0, u "length"), (0, u "()I"), (0, .interfaceMethodref 47 53), (0, .nameAndType 54 55), (0, u "charAt"), (0, u "(I)C"), (0, .methodref 8 57), (0, .nameAndType 58 59), (0, u "isWhiteSpace"), (0, u "(C)Z"), (24, .class_ 86), (1, u "com/example/brolga/brolga/xml/XmlCharacters$Names"), (19, u "(Ljava/lang/CharSequence;)Z")] 9

def k8m0 : Method := { name := "<init>", desc := "()V", sig := { parameters := [], returnType := none }, accessFlags := 2, code := none }
def k8c1 : Code := { maxStack := 2, maxLocals := 2, code := prog_157_method_3_code, exceptionTable := #[], attributes := #[] }
def k8m1 : Method := { name := "isWhiteSpace", desc := "(Ljava/lang/CharSequence;)Z", sig := { parameters := [(.object "java/lang/CharSequence")], returnType := some .boolean }, accessFlags := 9, code := some k8c1 }
def k8c2 : Code := { maxStack := 2, maxLocals := 1, code := prog_157_method_4_code, exceptionTable := #[], attributes := #[] }
def k8m2 : Method := { name := "isWhiteSpace", desc := "(C)Z", sig := { parameters := [.char], returnType := some .boolean }, accessFlags := 9, code := some k8c2 }
/-- com/example/brolga/brolga/xml/XmlCharacters -/
def k8 : Class := { plain "com/example/brolga/brolga/xml/XmlCharacters" (some 0) with
  accessFlags := 49
  interfaces := #[]
  cf := some (fileOf pool8 8 #[.nestMembers #[84]] #[{ accessFlags := 2, nameIndex := 5, descriptorIndex := 6, attributes := #[] }, { accessFlags := 9, nameIndex := 58, descriptorIndex := 106, attributes := #[] }, { accessFlags := 9, nameIndex := 58, descriptorIndex := 59, attributes := #[] }] 49 2 #[] #[])
  fields := #[]
  methods := #[k8m0, k8m1, k8m2]
  instanceTypes := #[]
  staticTypes := #[]
  resolved := Array.replicate 116 none
  statics := none }

def pool9 : Array CpInfo := pool [(3, .class_ 4), (0, u "java/lang/String"), (1, .class_ 8), (1, u "java/lang/Object"), (0, u "<init>"), (0, u "()V"), (0, .methodref 12 13), (0, .class_ 14), (0, .nameAndType 15 16), (0, u "java/lang/StringUTF16"), (0, u "newBytesLength"), (0, u "(I)I"), (3, .integer 1073741823), (23, .fieldref 12 45), (0, .nameAndType 46 47), (0, u "$assertionsDisabled"), (0, u "Z"), (0, .methodref 12 49), (0, .nameAndType 50 51), (0, u "length"), (0, u "([B)I"), (7, .fieldref 12 60), (0, .nameAndType 61 62), (0, u "HI_BYTE_SHIFT"), (0, u "I"), (0, .fieldref 12 64), (0, .nameAndType 65 62), (0, u "LO_BYTE_SHIFT"), (1, .methodref 12 68), (0, .nameAndType 69 70), (0, u "checkIndex"), (0, u "(I[B)V"), (0, .methodref 12 72), (0, .nameAndType 73 74), (0, u "getChar"), (0, u "([BI)C"), (32, .methodref 12 108), (0, .nameAndType 109 110), (0, u "newBytesFor"), (0, u "(I)[B"), (0, .methodref 12 112), (0, .nameAndType 113 114), (0, u "putChar"), (0, u "([BII)V"), (0, .methodref 12 116), (0, .nameAndType 117 118), (0, u "compress"), (0, u "([CI[BII)I"), (0, .methodref 12 120), (0, .nameAndType 121 122), (0, u "toBytes"), (0, u "([CII)[B"), (138, u "coderFromArrayLen"), (0, u "([BI)B"), (106, .class_ 371), (1, u "java/lang/StringUTF16$LinesSpliterator"), (20, u "charAt"), (21, .methodref 3 415), (0, .nameAndType 69 416), (0, u "(II)V"), (13, u "MAX_LENGTH"), (196, .class_ 628), (0, u "java/lang/StringUTF16$CodePointsSpliterator"), (0, .class_ 630), (0, u "java/lang/StringUTF16$CharsSpliterator")] 4

def k9m0 : Method := { name := "<init>", desc := "()V", sig := { parameters := [], returnType := none }, accessFlags := 0, code := none }
def k9c1 : Code := { maxStack := 1, maxLocals := 1, code := jdk_52_method_2_code, exceptionTable := #[], attributes := #[] }
def k9m1 : Method := { name := "newBytesFor", desc := "(I)[B", sig := { parameters := [.int], returnType := some (.array .byte) }, accessFlags := 9, code := some k9c1 }
def k9c2 : Code := { maxStack := 4, maxLocals := 1, code := jdk_52_method_3_code, exceptionTable := #[], attributes := #[] }
def k9m2 : Method := { name := "newBytesLength", desc := "(I)I", sig := { parameters := [.int], returnType := some .int }, accessFlags := 9, code := some k9c2 }
def k9c3 : Code := { maxStack := 4, maxLocals := 3, code := jdk_52_method_4_code, exceptionTable := #[], attributes := #[] }
def k9m3 : Method := { name := "putChar", desc := "([BII)V", sig := { parameters := [(.array .byte), .int, .int], returnType := none }, accessFlags := 8, code := some k9c3 }
def k9c4 : Code := { maxStack := 3, maxLocals := 2, code := jdk_52_method_5_code, exceptionTable := #[], attributes := #[] }
def k9m4 : Method := { name := "getChar", desc := "([BI)C", sig := { parameters := [(.array .byte), .int], returnType := some .char }, accessFlags := 8, code := some k9c4 }
def k9c5 : Code := { maxStack := 2, maxLocals := 1, code := jdk_52_method_6_code, exceptionTable := #[], attributes := #[] }
def k9m5 : Method := { name := "length", desc := "([B)I", sig := { parameters := [(.array .byte)], returnType := some .int }, accessFlags := 9, code := some k9c5 }
def k9c6 : Code := { maxStack := 4, maxLocals := 5, code := jdk_52_method_14_code, exceptionTable := #[], attributes := #[] }
def k9m6 : Method := { name := "toBytes", desc := "([CII)[B", sig := { parameters := [(.array .char), .int, .int], returnType := some (.array .byte) }, accessFlags := 9, code := some k9c6 }
def k9c7 : Code := { maxStack := 2, maxLocals := 2, code := jdk_52_method_15_code, exceptionTable := #[], attributes := #[] }
def k9m7 : Method := { name := "coderFromArrayLen", desc := "([BI)B", sig := { parameters := [(.array .byte), .int], returnType := some .byte }, accessFlags := 8, code := some k9c7 }
def k9c8 : Code := { maxStack := 5, maxLocals := 6, code := jdk_52_method_16_code, exceptionTable := #[], attributes := #[] }
def k9m8 : Method := { name := "compress", desc := "([CII)[B", sig := { parameters := [(.array .char), .int, .int], returnType := some (.array .byte) }, accessFlags := 9, code := some k9c8 }
def k9c9 : Code := { maxStack := 3, maxLocals := 7, code := jdk_52_method_21_code, exceptionTable := #[], attributes := #[] }
def k9m9 : Method := { name := "compress", desc := "([CI[BII)I", sig := { parameters := [(.array .char), .int, (.array .byte), .int, .int], returnType := some .int }, accessFlags := 9, code := some k9c9 }
def k9c10 : Code := { maxStack := 2, maxLocals := 2, code := jdk_52_method_83_code, exceptionTable := #[], attributes := #[] }
def k9m10 : Method := { name := "charAt", desc := "([BI)C", sig := { parameters := [(.array .byte), .int], returnType := some .char }, accessFlags := 9, code := some k9c10 }
def k9c11 : Code := { maxStack := 2, maxLocals := 2, code := jdk_52_method_91_code, exceptionTable := #[], attributes := #[] }
def k9m11 : Method := { name := "checkIndex", desc := "(I[B)V", sig := { parameters := [.int, (.array .byte)], returnType := none }, accessFlags := 9, code := some k9c11 }
/-- java/lang/StringUTF16 -/
def k9 : Class := { plain "java/lang/StringUTF16" (some 0) with
  accessFlags := 48
  interfaces := #[]
  cf := some (fileOf pool9 12 #[.nestMembers #[627, 629, 369]] #[{ accessFlags := 0, nameIndex := 9, descriptorIndex := 10, attributes := #[] }, { accessFlags := 9, nameIndex := 109, descriptorIndex := 110, attributes := #[] }, { accessFlags := 9, nameIndex := 15, descriptorIndex := 16, attributes := #[] }, { accessFlags := 8, nameIndex := 113, descriptorIndex := 114, attributes := #[] }, { accessFlags := 8, nameIndex := 73, descriptorIndex := 74, attributes := #[] }, { accessFlags := 9, nameIndex := 50, descriptorIndex := 51, attributes := #[] }, { accessFlags := 9, nameIndex := 121, descriptorIndex := 122, attributes := #[] }, { accessFlags := 8, nameIndex := 261, descriptorIndex := 262, attributes := #[] }, { accessFlags := 9, nameIndex := 117, descriptorIndex := 122, attributes := #[] }, { accessFlags := 9, nameIndex := 117, descriptorIndex := 118, attributes := #[] }, { accessFlags := 9, nameIndex := 392, descriptorIndex := 74, attributes := #[] }, { accessFlags := 9, nameIndex := 69, descriptorIndex := 70, attributes := #[] }] 48 6 #[] #[{ accessFlags := 26, nameIndex := 61, descriptorIndex := 62, attributes := #[] }, { accessFlags := 26, nameIndex := 65, descriptorIndex := 62, attributes := #[] }, { accessFlags := 24, nameIndex := 430, descriptorIndex := 62, attributes := #[] }, { accessFlags := 4120, nameIndex := 46, descriptorIndex := 47, attributes := #[] }])
  fields := #[{ name := "HI_BYTE_SHIFT", type := .int, accessFlags := 26, slot := 0, constantValue := 0 }, { name := "LO_BYTE_SHIFT", type := .int, accessFlags := 26, slot := 1, constantValue := 0 }, { name := "MAX_LENGTH", type := .int, accessFlags := 24, slot := 2, constantValue := 0 }, { name := "$assertionsDisabled", type := .boolean, accessFlags := 4120, slot := 3, constantValue := 0 }]
  methods := #[k9m0, k9m1, k9m2, k9m3, k9m4, k9m5, k9m6, k9m7, k9m8, k9m9, k9m10, k9m11]
  instanceTypes := #[]
  staticTypes := #[.int, .int, .int, .boolean]
  resolved := Array.replicate 635 none
  statics := some 1 }

def pool10 : Array CpInfo := pool [(1, .class_ 2), (0, u "java/lang/String"), (1, .class_ 6), (1, u "java/lang/Object"), (0, u "<init>"), (0, u "()V"), (0, .methodref 1 10), (0, .nameAndType 11 12), (0, u "checkIndex"), (0, u "(II)V"), (1, .class_ 16), (1, u "java/lang/StringLatin1"), (36, u "([BI)C"), (67, u "$assertionsDisabled"), (0, u "Z"), (98, .class_ 223), (1, u "java/lang/StringLatin1$LinesSpliterator"), (28, u "charAt"), (137, .class_ 391), (0, u "java/lang/StringLatin1$CharsSpliterator")] 3

def k10m0 : Method := { name := "<init>", desc := "()V", sig := { parameters := [], returnType := none }, accessFlags := 0, code := none }
def k10c1 : Code := { maxStack := 2, maxLocals := 2, code := jdk_43_method_2_code, exceptionTable := #[], attributes := #[] }
def k10m1 : Method := { name := "charAt", desc := "([BI)C", sig := { parameters := [(.array .byte), .int], returnType := some .char }, accessFlags := 9, code := some k10c1 }
/-- java/lang/StringLatin1 -/
def k10 : Class := { plain "java/lang/StringLatin1" (some 0) with
  accessFlags := 48
  interfaces := #[]
  cf := some (fileOf pool10 14 #[.nestMembers #[390, 221]] #[{ accessFlags := 0, nameIndex := 7, descriptorIndex := 8, attributes := #[] }, { accessFlags := 9, nameIndex := 252, descriptorIndex := 53, attributes := #[] }] 48 4 #[] #[{ accessFlags := 4120, nameIndex := 121, descriptorIndex := 122, attributes := #[] }])
  fields := #[{ name := "$assertionsDisabled", type := .boolean, accessFlags := 4120, slot := 0, constantValue := 0 }]
  methods := #[k10m0, k10m1]
  instanceTypes := #[]
  staticTypes := #[.boolean]
  resolved := Array.replicate 395 none
  statics := none }

def pool11 : Array CpInfo := pool [(2, .class_ 4), (1, u "java/lang/Object"), (0, u "<init>"), (0, u "()V"), (17, .class_ 26), (1, u "jdk/internal/util/Preconditions"), (6, u "checkIndex"), (21, .class_ 56), (0, u "jdk/internal/util/Preconditions$4"), (57, .class_ 115), (0, u "jdk/internal/util/Preconditions$1"), (7, u "SIOOBE_FORMATTER"), (0, u "Ljava/util/function/BiFunction;"), (0, .class_ 126), (0, u "jdk/internal/util/Preconditions$2"), (3, u "AIOOBE_FORMATTER"), (0, .class_ 132), (0, u "jdk/internal/util/Preconditions$3"), (3, u "IOOBE_FORMATTER"), (41, u "(IILjava/util/function/BiFunction;)I")] 15

def k11m0 : Method := { name := "<init>", desc := "()V", sig := { parameters := [], returnType := none }, accessFlags := 1, code := none }
def k11c1 : Code := { maxStack := 3, maxLocals := 3, code := jdk_41_method_11_code, exceptionTable := #[], attributes := #[] }
def k11m1 : Method := { name := "checkIndex", desc := "(IILjava/util/function/BiFunction;)I", sig := { parameters := [.int, .int, (.object "java/util/function/BiFunction")], returnType := some .int }, accessFlags := 9, code := some k11c1 }
/-- jdk/internal/util/Preconditions -/
def k11 : Class := { plain "jdk/internal/util/Preconditions" (some 0) with
  accessFlags := 33
  interfaces := #[]
  cf := some (fileOf pool11 24 #[.nestMembers #[55, 131, 125, 114]] #[{ accessFlags := 1, nameIndex := 5, descriptorIndex := 6, attributes := #[] }, { accessFlags := 9, nameIndex := 33, descriptorIndex := 178, attributes := #[] }] 33 2 #[] #[{ accessFlags := 25, nameIndex := 123, descriptorIndex := 124, attributes := #[] }, { accessFlags := 25, nameIndex := 130, descriptorIndex := 124, attributes := #[] }, { accessFlags := 25, nameIndex := 136, descriptorIndex := 124, attributes := #[] }])
  fields := #[{ name := "SIOOBE_FORMATTER", type := (.object "java/util/function/BiFunction"), accessFlags := 25, slot := 0, constantValue := 0 }, { name := "AIOOBE_FORMATTER", type := (.object "java/util/function/BiFunction"), accessFlags := 25, slot := 1, constantValue := 0 }, { name := "IOOBE_FORMATTER", type := (.object "java/util/function/BiFunction"), accessFlags := 25, slot := 2, constantValue := 0 }]
  methods := #[k11m0, k11m1]
  instanceTypes := #[]
  staticTypes := #[(.object "java/util/function/BiFunction"), (.object "java/util/function/BiFunction"), (.object "java/util/function/BiFunction")]
  resolved := Array.replicate 194 none
  statics := some 2 }

def pool12 : Array CpInfo := pool [(9, u "<init>"), (6, .class_ 18), (1, u "java/lang/Object"), (0, u "()V"), (1, .class_ 23), (1, u "jdk/internal/util/ArraysSupport"), (0, u "LOG2_ARRAY_LONG_INDEX_SCALE"), (0, u "I"), (2, u "U"), (0, u "Ljdk/internal/misc/Unsafe;"), (8, u "BIG_ENDIAN"), (0, u "Z"), (8, u "LOG2_BYTE_BIT_SIZE"), (4, u "LOG2_ARRAY_INT_INDEX_SCALE"), (54, u "JLA"), (0, u "Ljdk/internal/access/JavaLangAccess;"), (11, u "LOG2_ARRAY_BOOLEAN_INDEX_SCALE"), (9, u "LOG2_ARRAY_BYTE_INDEX_SCALE"), (5, u "LOG2_ARRAY_CHAR_INDEX_SCALE"), (5, u "LOG2_ARRAY_SHORT_INDEX_SCALE"), (18, u "LOG2_ARRAY_FLOAT_INDEX_SCALE"), (24, u "LOG2_ARRAY_DOUBLE_INDEX_SCALE"), (89, u "T_BOOLEAN"), (2, u "T_CHAR"), (1, u "T_FLOAT"), (1, u "T_DOUBLE"), (1, u "T_BYTE"), (1, u "T_SHORT"), (1, u "T_INT"), (1, u "T_LONG"), (1, u "SOFT_MAX_ARRAY_LENGTH")] 83

def k12m0 : Method := { name := "<init>", desc := "()V", sig := { parameters := [], returnType := none }, accessFlags := 2, code := none }
/-- jdk/internal/util/ArraysSupport -/
def k12 : Class := { plain "jdk/internal/util/ArraysSupport" (some 0) with
  accessFlags := 33
  interfaces := #[]
  cf := some (fileOf pool12 21 #[] #[{ accessFlags := 2, nameIndex := 9, descriptorIndex := 19, attributes := #[] }] 33 16 #[] #[{ accessFlags := 24, nameIndex := 28, descriptorIndex := 29, attributes := #[] }, { accessFlags := 26, nameIndex := 38, descriptorIndex := 39, attributes := #[] }, { accessFlags := 25, nameIndex := 121, descriptorIndex := 25, attributes := #[] }, { accessFlags := 25, nameIndex := 131, descriptorIndex := 25, attributes := #[] }, { accessFlags := 25, nameIndex := 137, descriptorIndex := 25, attributes := #[] }, { accessFlags := 25, nameIndex := 143, descriptorIndex := 25, attributes := #[] }, { accessFlags := 25, nameIndex := 53, descriptorIndex := 25, attributes := #[] }, { accessFlags := 25, nameIndex := 24, descriptorIndex := 25, attributes := #[] }, { accessFlags := 25, nameIndex := 162, descriptorIndex := 25, attributes := #[] }, { accessFlags := 25, nameIndex := 187, descriptorIndex := 25, attributes := #[] }, { accessFlags := 26, nameIndex := 48, descriptorIndex := 25, attributes := #[] }, { accessFlags := 25, nameIndex := 277, descriptorIndex := 25, attributes := #[] }, { accessFlags := 25, nameIndex := 280, descriptorIndex := 25, attributes := #[] }, { accessFlags := 25, nameIndex := 282, descriptorIndex := 25, attributes := #[] }, { accessFlags := 25, nameIndex := 284, descriptorIndex := 25, attributes := #[] }, { accessFlags := 25, nameIndex := 286, descriptorIndex := 25, attributes := #[] }, { accessFlags := 25, nameIndex := 288, descriptorIndex := 25, attributes := #[] }, { accessFlags := 25, nameIndex := 290, descriptorIndex := 25, attributes := #[] }, { accessFlags := 25, nameIndex := 292, descriptorIndex := 25, attributes := #[] }, { accessFlags := 26, nameIndex := 108, descriptorIndex := 109, attributes := #[] }, { accessFlags := 25, nameIndex := 294, descriptorIndex := 25, attributes := #[] }])
  fields := #[{ name := "U", type := (.object "jdk/internal/misc/Unsafe"), accessFlags := 24, slot := 0, constantValue := 0 }, { name := "BIG_ENDIAN", type := .boolean, accessFlags := 26, slot := 1, constantValue := 0 }, { name := "LOG2_ARRAY_BOOLEAN_INDEX_SCALE", type := .int, accessFlags := 25, slot := 2, constantValue := 0 }, { name := "LOG2_ARRAY_BYTE_INDEX_SCALE", type := .int, accessFlags := 25, slot := 3, constantValue := 0 }, { name := "LOG2_ARRAY_CHAR_INDEX_SCALE", type := .int, accessFlags := 25, slot := 4, constantValue := 0 }, { name := "LOG2_ARRAY_SHORT_INDEX_SCALE", type := .int, accessFlags := 25, slot := 5, constantValue := 0 }, { name := "LOG2_ARRAY_INT_INDEX_SCALE", type := .int, accessFlags := 25, slot := 6, constantValue := 0 }, { name := "LOG2_ARRAY_LONG_INDEX_SCALE", type := .int, accessFlags := 25, slot := 7, constantValue := 0 }, { name := "LOG2_ARRAY_FLOAT_INDEX_SCALE", type := .int, accessFlags := 25, slot := 8, constantValue := 0 }, { name := "LOG2_ARRAY_DOUBLE_INDEX_SCALE", type := .int, accessFlags := 25, slot := 9, constantValue := 0 }, { name := "LOG2_BYTE_BIT_SIZE", type := .int, accessFlags := 26, slot := 10, constantValue := 0 }, { name := "T_BOOLEAN", type := .int, accessFlags := 25, slot := 11, constantValue := 0 }, { name := "T_CHAR", type := .int, accessFlags := 25, slot := 12, constantValue := 0 }, { name := "T_FLOAT", type := .int, accessFlags := 25, slot := 13, constantValue := 0 }, { name := "T_DOUBLE", type := .int, accessFlags := 25, slot := 14, constantValue := 0 }, { name := "T_BYTE", type := .int, accessFlags := 25, slot := 15, constantValue := 0 }, { name := "T_SHORT", type := .int, accessFlags := 25, slot := 16, constantValue := 0 }, { name := "T_INT", type := .int, accessFlags := 25, slot := 17, constantValue := 0 }, { name := "T_LONG", type := .int, accessFlags := 25, slot := 18, constantValue := 0 }, { name := "JLA", type := (.object "jdk/internal/access/JavaLangAccess"), accessFlags := 26, slot := 19, constantValue := 0 }, { name := "SOFT_MAX_ARRAY_LENGTH", type := .int, accessFlags := 25, slot := 20, constantValue := 0 }]
  methods := #[k12m0]
  instanceTypes := #[]
  staticTypes := #[(.object "jdk/internal/misc/Unsafe"), .boolean, .int, .int, .int, .int, .int, .int, .int, .int, .int, .int, .int, .int, .int, .int, .int, .int, .int, (.object "jdk/internal/access/JavaLangAccess"), .int]
  resolved := Array.replicate 378 none
  statics := none }

def pool13 : Array CpInfo := pool [(1, u "java/lang/Cloneable"), (0, .class_ 1), (0, u "java/lang/Object"), (0, .class_ 3)] 3

/-- java/lang/Cloneable -/
def k13 : Class := { plain "java/lang/Cloneable" (some 0) with
  accessFlags := 1537
  interfaces := #[]
  cf := some (fileOf pool13 2 #[] #[] 1537 4 #[] #[])
  fields := #[]
  methods := #[]
  instanceTypes := #[]
  staticTypes := #[]
  resolved := Array.replicate 8 none
  statics := none }

/-- the primitive byte -/
def k14 : Class := { plain "byte" none with kind := .primitive 'B', accessFlags := 0x411 }
/-- [B -/
def k15 : Class := { plain "[B" (some 0) with kind := .array 14 .byte, interfaces := #[13, 2], accessFlags := 1041 }

/-- the primitive char -/
def k16 : Class := { plain "char" none with kind := .primitive 'C', accessFlags := 0x411 }
/-- [C -/
def k17 : Class := { plain "[C" (some 0) with kind := .array 16 .char, interfaces := #[13, 2], accessFlags := 1041 }

/-- the primitive int -/
def k18 : Class := { plain "int" none with kind := .primitive 'I', accessFlags := 0x411 }
/-- [I -/
def k19 : Class := { plain "[I" (some 0) with kind := .array 18 .int, interfaces := #[13, 2], accessFlags := 1041 }

def heap : Heap := #[{ cls := 7, slots := #[.long 0, .int 1, .null, .int 0, .null, .int 0, .int 0], vm := .statics 7 },
  { cls := 9, slots := #[.int 0, .int 8, .int 0, .int 1], vm := .statics 9 },
  { cls := 11, slots := #[.null, .null, .null], vm := .statics 11 }]
def classes : Array Class := #[k0, k1, k2, k3, k4, k5, k6, k7, k8, k9, k10, k11, k12, k13, k14, k15, k16, k17, k18, k19]
def interned : List (Array UInt16 × Addr) := []
def slotsUsed : Nat := 14
def theMethod : MethodId := ⟨1, 1⟩
def args0 : Array Value := #[.int 0, .int 1, .int 2, .int 3]
def aboutOver (below : List Frame) : State where
  vm := { classes := classes, interned := interned.toArray }
  heap := heap
  slotsUsed := slotsUsed
  threads := #[{ frames := .invoking theMethod args0 :: below }]
def below0 : List Frame := [.native { method := ⟨0, 0⟩, args := #[] }]
def about1 : State := aboutOver below0
def p0 : Program := .bare "" "" ""
def e0 : Env := launch0.env 0 0 0
theorem w_frames : about1.frames = Frame.invoking theMethod args0 :: below0 := rfl
set_option maxRecDepth 65536 in
theorem w_args : argsFit about1.vm theMethod args0 = true := by decide +kernel
set_option maxRecDepth 65536 in
theorem w_heap : heapFits about1 = true := by decide +kernel
set_option maxRecDepth 65536 in
theorem w_runnable : about1.curStatus? = some .runnable := by decide +kernel
set_option maxRecDepth 65536 in
theorem w_alone : about1.alone = true := by decide +kernel
set_option maxRecDepth 65536 in
theorem w_named : about1.methodNamed? x = some theMethod := by decide +kernel
set_option maxRecDepth 65536 in
theorem w_hears : about1.hears theMethod below0 = true := by decide +kernel
set_option maxRecDepth 65536 in
theorem w_ripe : about1.ripe theMethod args0 below0 = true := by decide +kernel
theorem w_running : about1.status = .running := rfl
set_option maxRecDepth 65536 in
theorem w_room : about1.hasRoom e0.platform room_1 = true :=
  launch0.hasRoom_least _ room_1 (by decide +kernel) (by decide +kernel) (by decide +kernel) (by decide +kernel) (by decide +kernel) (by decide +kernel)
theorem allAtoms_all (ts : List Jvm.Cond) (a : Array Jvm.Value) (st : Jvm.State) : (allAtoms ts).before a st = ts.all (fun c => c.before a st) := by
  induction ts with
  | nil => rfl
  | cons c t ih =>
    show (Jvm.Cond.and c (allAtoms t)).before a st = _
    rw [Jvm.Cond.before_and, ih, List.all_cons]
def words1 : List Jvm.Cond := Jvm.Cond.code x code maxLocals ret :: tables_1
/-- a 'code' word, met by the world's own term for the bytes: nothing is compared byte by byte -/
theorem code_word {y : MethodName} {bytes : ByteArray} {mx : Nat} {rt : Option FieldType} {a : Array Value} {s : State} {m : MethodId} {meth : Method} {c : Code} (h1 : s.methodNamed? y = some m) (h2 : s.vm.method? m = some meth) (h3 : meth.code = some c) (h4 : c.code = bytes)
    (h5 : (c.maxLocals == mx && c.exceptionTable.isEmpty && decide (c.maxStack ≤ mostOperands) && decide (meth.sig.returnType = rt) && !meth.locks && decide (parseMethodDescriptor y.desc = some meth.sig)) = true) : (Jvm.Cond.code y bytes mx rt).before a s = true := by
  simp only [Bool.and_eq_true, beq_iff_eq, Bool.not_eq_true', decide_eq_true_eq] at h5
  obtain ⟨⟨⟨⟨⟨g1, g2⟩, g3⟩, g4⟩, g5⟩, g6⟩ := h5
  simp [Cond.before, Cond.holds, Cond.value, h1, h2, h3, h4, g1, g2, g3, g4, g5, g6]
def isCode : Jvm.Cond → Bool
  | .code _ _ _ _ => true
  | _ => false
theorem all_split {L : List Jvm.Cond} {P : Jvm.Cond → Bool} (h1 : L.all (fun c => isCode c || P c) = true) (h2 : ∀ c ∈ L.filter isCode, P c = true) : L.all P = true := by
  refine List.all_eq_true.mpr fun c hc => ?_
  have h := List.all_eq_true.mp h1 c hc
  rcases Bool.eq_false_or_eq_true (isCode c) with hi | hi
  · exact h2 c (List.mem_filter.mpr ⟨hc, hi⟩)
  · simpa [hi] using h
set_option maxRecDepth 65536 in
theorem w_c0 : (Jvm.Cond.code x code maxLocals ret).before args0 about1 = true := code_word (m := ⟨1, 1⟩) (meth := k1m1) (c := k1c1) (by decide +kernel) rfl rfl rfl (by decide +kernel)
set_option maxRecDepth 65536 in
theorem w_c1 : (Jvm.Cond.code ({ cls := "com/example/brolga/brolga/xml/XmlCharactersIsWhiteSpacePinLaw", name := "draw", desc := "(I)C" } : Jvm.MethodName) method_3_code (2 : Nat) (Option.some Jvm.ClassFile.FieldType.char)).before args0 about1 = true := code_word (m := ⟨1, 2⟩) (meth := k1m2) (c := k1c2) (by decide +kernel) rfl rfl rfl (by decide +kernel)
set_option maxRecDepth 65536 in
theorem w_c2 : (Jvm.Cond.code ({ cls := "java/lang/String", name := "<init>", desc := "([C)V" } : Jvm.MethodName) jdk_42_method_3_code (2 : Nat) (Option.none : Option Jvm.ClassFile.FieldType)).before args0 about1 = true := code_word (m := ⟨7, 1⟩) (meth := k7m1) (c := k7c1) (by decide +kernel) rfl rfl rfl (by decide +kernel)
set_option maxRecDepth 65536 in
theorem w_c3 : (Jvm.Cond.code ({ cls := "java/lang/String", name := "<init>", desc := "([CIILjava/lang/Void;)V" } : Jvm.MethodName) jdk_42_method_149_code (6 : Nat) (Option.none : Option Jvm.ClassFile.FieldType)).before args0 about1 = true := code_word (m := ⟨7, 4⟩) (meth := k7m4) (c := k7c4) (by decide +kernel) rfl rfl rfl (by decide +kernel)
set_option maxRecDepth 65536 in
theorem w_c4 : (Jvm.Cond.code ({ cls := "java/lang/Object", name := "<init>", desc := "()V" } : Jvm.MethodName) object_method_1_code (1 : Nat) (Option.none : Option Jvm.ClassFile.FieldType)).before args0 about1 = true := code_word (m := ⟨0, 0⟩) (meth := k0m0) (c := k0c0) (by decide +kernel) rfl rfl rfl (by decide +kernel)
set_option maxRecDepth 65536 in
theorem w_c5 : (Jvm.Cond.code ({ cls := "com/example/brolga/brolga/xml/XmlCharacters", name := "isWhiteSpace", desc := "(Ljava/lang/CharSequence;)Z" } : Jvm.MethodName) prog_157_method_3_code (2 : Nat) (Option.some Jvm.ClassFile.FieldType.boolean)).before args0 about1 = true := code_word (m := ⟨8, 1⟩) (meth := k8m1) (c := k8c1) (by decide +kernel) rfl rfl rfl (by decide +kernel)
set_option maxRecDepth 65536 in
theorem w_c6 : (Jvm.Cond.code ({ cls := "java/lang/String", name := "length", desc := "()I" } : Jvm.MethodName) jdk_42_method_54_code (1 : Nat) (Option.some Jvm.ClassFile.FieldType.int)).before args0 about1 = true := code_word (m := ⟨7, 2⟩) (meth := k7m2) (c := k7c2) (by decide +kernel) rfl rfl rfl (by decide +kernel)
set_option maxRecDepth 65536 in
theorem w_c7 : (Jvm.Cond.code ({ cls := "java/lang/String", name := "coder", desc := "()B" } : Jvm.MethodName) jdk_42_method_152_code (1 : Nat) (Option.some Jvm.ClassFile.FieldType.byte)).before args0 about1 = true := code_word (m := ⟨7, 5⟩) (meth := k7m5) (c := k7c5) (by decide +kernel) rfl rfl rfl (by decide +kernel)
set_option maxRecDepth 65536 in
theorem w_c8 : (Jvm.Cond.code ({ cls := "java/lang/StringUTF16", name := "compress", desc := "([CII)[B" } : Jvm.MethodName) jdk_52_method_16_code (6 : Nat) (Option.some (Jvm.ClassFile.FieldType.array Jvm.ClassFile.FieldType.byte))).before args0 about1 = true := code_word (m := ⟨9, 8⟩) (meth := k9m8) (c := k9c8) (by decide +kernel) rfl rfl rfl (by decide +kernel)
set_option maxRecDepth 65536 in
theorem w_c9 : (Jvm.Cond.code ({ cls := "java/lang/StringUTF16", name := "compress", desc := "([CI[BII)I" } : Jvm.MethodName) jdk_52_method_21_code (7 : Nat) (Option.some Jvm.ClassFile.FieldType.int)).before args0 about1 = true := code_word (m := ⟨9, 9⟩) (meth := k9m9) (c := k9c9) (by decide +kernel) rfl rfl rfl (by decide +kernel)
set_option maxRecDepth 65536 in
theorem w_c10 : (Jvm.Cond.code ({ cls := "java/lang/StringUTF16", name := "coderFromArrayLen", desc := "([BI)B" } : Jvm.MethodName) jdk_52_method_15_code (2 : Nat) (Option.some Jvm.ClassFile.FieldType.byte)).before args0 about1 = true := code_word (m := ⟨9, 7⟩) (meth := k9m7) (c := k9c7) (by decide +kernel) rfl rfl rfl (by decide +kernel)
set_option maxRecDepth 65536 in
theorem w_c11 : (Jvm.Cond.code ({ cls := "com/example/brolga/brolga/xml/XmlCharactersIsWhiteSpacePinLaw", name := "ws", desc := "(C)Z" } : Jvm.MethodName) method_4_code (1 : Nat) (Option.some Jvm.ClassFile.FieldType.boolean)).before args0 about1 = true := code_word (m := ⟨1, 3⟩) (meth := k1m3) (c := k1c3) (by decide +kernel) rfl rfl rfl (by decide +kernel)
set_option maxRecDepth 65536 in
theorem w_c12 : (Jvm.Cond.code ({ cls := "java/lang/String", name := "charAt", desc := "(I)C" } : Jvm.MethodName) jdk_42_method_56_code (2 : Nat) (Option.some Jvm.ClassFile.FieldType.char)).before args0 about1 = true := code_word (m := ⟨7, 3⟩) (meth := k7m3) (c := k7c3) (by decide +kernel) rfl rfl rfl (by decide +kernel)
set_option maxRecDepth 65536 in
theorem w_c13 : (Jvm.Cond.code ({ cls := "java/lang/String", name := "isLatin1", desc := "()Z" } : Jvm.MethodName) jdk_42_method_154_code (1 : Nat) (Option.some Jvm.ClassFile.FieldType.boolean)).before args0 about1 = true := code_word (m := ⟨7, 6⟩) (meth := k7m6) (c := k7c6) (by decide +kernel) rfl rfl rfl (by decide +kernel)
set_option maxRecDepth 65536 in
theorem w_c14 : (Jvm.Cond.code ({ cls := "java/lang/StringLatin1", name := "charAt", desc := "([BI)C" } : Jvm.MethodName) jdk_43_method_2_code (2 : Nat) (Option.some Jvm.ClassFile.FieldType.char)).before args0 about1 = true := code_word (m := ⟨10, 1⟩) (meth := k10m1) (c := k10c1) (by decide +kernel) rfl rfl rfl (by decide +kernel)
set_option maxRecDepth 65536 in
theorem w_c15 : (Jvm.Cond.code ({ cls := "java/lang/String", name := "checkIndex", desc := "(II)V" } : Jvm.MethodName) jdk_42_method_155_code (2 : Nat) (Option.none : Option Jvm.ClassFile.FieldType)).before args0 about1 = true := code_word (m := ⟨7, 7⟩) (meth := k7m7) (c := k7c7) (by decide +kernel) rfl rfl rfl (by decide +kernel)
set_option maxRecDepth 65536 in
theorem w_c16 : (Jvm.Cond.code ({ cls := "jdk/internal/util/Preconditions", name := "checkIndex", desc := "(IILjava/util/function/BiFunction;)I" } : Jvm.MethodName) jdk_41_method_11_code (3 : Nat) (Option.some Jvm.ClassFile.FieldType.int)).before args0 about1 = true := code_word (m := ⟨11, 1⟩) (meth := k11m1) (c := k11c1) (by decide +kernel) rfl rfl rfl (by decide +kernel)
set_option maxRecDepth 65536 in
theorem w_c17 : (Jvm.Cond.code ({ cls := "com/example/brolga/brolga/xml/XmlCharacters", name := "isWhiteSpace", desc := "(C)Z" } : Jvm.MethodName) prog_157_method_4_code (1 : Nat) (Option.some Jvm.ClassFile.FieldType.boolean)).before args0 about1 = true := code_word (m := ⟨8, 2⟩) (meth := k8m2) (c := k8c2) (by decide +kernel) rfl rfl rfl (by decide +kernel)
set_option maxRecDepth 65536 in
theorem w_c18 : (Jvm.Cond.code ({ cls := "java/lang/StringUTF16", name := "toBytes", desc := "([CII)[B" } : Jvm.MethodName) jdk_52_method_14_code (5 : Nat) (Option.some (Jvm.ClassFile.FieldType.array Jvm.ClassFile.FieldType.byte))).before args0 about1 = true := code_word (m := ⟨9, 6⟩) (meth := k9m6) (c := k9c6) (by decide +kernel) rfl rfl rfl (by decide +kernel)
set_option maxRecDepth 65536 in
theorem w_c19 : (Jvm.Cond.code ({ cls := "java/lang/StringUTF16", name := "newBytesFor", desc := "(I)[B" } : Jvm.MethodName) jdk_52_method_2_code (1 : Nat) (Option.some (Jvm.ClassFile.FieldType.array Jvm.ClassFile.FieldType.byte))).before args0 about1 = true := code_word (m := ⟨9, 1⟩) (meth := k9m1) (c := k9c1) (by decide +kernel) rfl rfl rfl (by decide +kernel)
set_option maxRecDepth 65536 in
theorem w_c20 : (Jvm.Cond.code ({ cls := "java/lang/StringUTF16", name := "newBytesLength", desc := "(I)I" } : Jvm.MethodName) jdk_52_method_3_code (1 : Nat) (Option.some Jvm.ClassFile.FieldType.int)).before args0 about1 = true := code_word (m := ⟨9, 2⟩) (meth := k9m2) (c := k9c2) (by decide +kernel) rfl rfl rfl (by decide +kernel)
set_option maxRecDepth 65536 in
theorem w_c21 : (Jvm.Cond.code ({ cls := "java/lang/StringUTF16", name := "putChar", desc := "([BII)V" } : Jvm.MethodName) jdk_52_method_4_code (3 : Nat) (Option.none : Option Jvm.ClassFile.FieldType)).before args0 about1 = true := code_word (m := ⟨9, 3⟩) (meth := k9m3) (c := k9c3) (by decide +kernel) rfl rfl rfl (by decide +kernel)
set_option maxRecDepth 65536 in
theorem w_c22 : (Jvm.Cond.code ({ cls := "java/lang/StringUTF16", name := "getChar", desc := "([BI)C" } : Jvm.MethodName) jdk_52_method_5_code (2 : Nat) (Option.some Jvm.ClassFile.FieldType.char)).before args0 about1 = true := code_word (m := ⟨9, 4⟩) (meth := k9m4) (c := k9c4) (by decide +kernel) rfl rfl rfl (by decide +kernel)
set_option maxRecDepth 65536 in
theorem w_c23 : (Jvm.Cond.code ({ cls := "java/lang/StringUTF16", name := "charAt", desc := "([BI)C" } : Jvm.MethodName) jdk_52_method_83_code (2 : Nat) (Option.some Jvm.ClassFile.FieldType.char)).before args0 about1 = true := code_word (m := ⟨9, 10⟩) (meth := k9m10) (c := k9c10) (by decide +kernel) rfl rfl rfl (by decide +kernel)
set_option maxRecDepth 65536 in
theorem w_c24 : (Jvm.Cond.code ({ cls := "java/lang/StringUTF16", name := "checkIndex", desc := "(I[B)V" } : Jvm.MethodName) jdk_52_method_91_code (2 : Nat) (Option.none : Option Jvm.ClassFile.FieldType)).before args0 about1 = true := code_word (m := ⟨9, 11⟩) (meth := k9m11) (c := k9c11) (by decide +kernel) rfl rfl rfl (by decide +kernel)
set_option maxRecDepth 65536 in
theorem w_c25 : (Jvm.Cond.code ({ cls := "java/lang/StringUTF16", name := "length", desc := "([B)I" } : Jvm.MethodName) jdk_52_method_6_code (1 : Nat) (Option.some Jvm.ClassFile.FieldType.int)).before args0 about1 = true := code_word (m := ⟨9, 5⟩) (meth := k9m5) (c := k9c5) (by decide +kernel) rfl rfl rfl (by decide +kernel)
def codes1 : List Jvm.Cond := [Jvm.Cond.code x code maxLocals ret, Jvm.Cond.code ({ cls := "com/example/brolga/brolga/xml/XmlCharactersIsWhiteSpacePinLaw", name := "draw", desc := "(I)C" } : Jvm.MethodName) method_3_code (2 : Nat) (Option.some Jvm.ClassFile.FieldType.char), Jvm.Cond.code ({ cls := "java/lang/String", name := "<init>", desc := "([C)V" } : Jvm.MethodName) jdk_42_method_3_code (2 : Nat) (Option.none : Option Jvm.ClassFile.FieldType), Jvm.Cond.code ({ cls := "java/lang/String", name := "<init>", desc := "([CIILjava/lang/Void;)V" } : Jvm.MethodName) jdk_42_method_149_code (6 : Nat) (Option.none : Option Jvm.ClassFile.FieldType), Jvm.Cond.code ({ cls := "java/lang/Object", name := "<init>", desc := "()V" } : Jvm.MethodName) object_method_1_code (1 : Nat) (Option.none : Option Jvm.ClassFile.FieldType), Jvm.Cond.code ({ cls := "com/example/brolga/brolga/xml/XmlCharacters", name := "isWhiteSpace", desc := "(Ljava/lang/CharSequence;)Z" } : Jvm.MethodName) prog_157_method_3_code (2 : Nat) (Option.some Jvm.ClassFile.FieldType.boolean), Jvm.Cond.code ({ cls := "java/lang/String", name := "length", desc := "()I" } : Jvm.MethodName) jdk_42_method_54_code (1 : Nat) (Option.some Jvm.ClassFile.FieldType.int), Jvm.Cond.code ({ cls := "java/lang/String", name := "coder", desc := "()B" } : Jvm.MethodName) jdk_42_method_152_code (1 : Nat) (Option.some Jvm.ClassFile.FieldType.byte), Jvm.Cond.code ({ cls := "java/lang/StringUTF16", name := "compress", desc := "([CII)[B" } : Jvm.MethodName) jdk_52_method_16_code (6 : Nat) (Option.some (Jvm.ClassFile.FieldType.array Jvm.ClassFile.FieldType.byte)), Jvm.Cond.code ({ cls := "java/lang/StringUTF16", name := "compress", desc := "([CI[BII)I" } : Jvm.MethodName) jdk_52_method_21_code (7 : Nat) (Option.some Jvm.ClassFile.FieldType.int), Jvm.Cond.code ({ cls := "java/lang/StringUTF16", name := "coderFromArrayLen", desc := "([BI)B" } : Jvm.MethodName) jdk_52_method_15_code (2 : Nat) (Option.some Jvm.ClassFile.FieldType.byte), Jvm.Cond.code ({ cls := "com/example/brolga/brolga/xml/XmlCharactersIsWhiteSpacePinLaw", name := "ws", desc := "(C)Z" } : Jvm.MethodName) method_4_code (1 : Nat) (Option.some Jvm.ClassFile.FieldType.boolean), Jvm.Cond.code ({ cls := "java/lang/String", name := "charAt", desc := "(I)C" } : Jvm.MethodName) jdk_42_method_56_code (2 : Nat) (Option.some Jvm.ClassFile.FieldType.char), Jvm.Cond.code ({ cls := "java/lang/String", name := "isLatin1", desc := "()Z" } : Jvm.MethodName) jdk_42_method_154_code (1 : Nat) (Option.some Jvm.ClassFile.FieldType.boolean), Jvm.Cond.code ({ cls := "java/lang/StringLatin1", name := "charAt", desc := "([BI)C" } : Jvm.MethodName) jdk_43_method_2_code (2 : Nat) (Option.some Jvm.ClassFile.FieldType.char), Jvm.Cond.code ({ cls := "java/lang/String", name := "checkIndex", desc := "(II)V" } : Jvm.MethodName) jdk_42_method_155_code (2 : Nat) (Option.none : Option Jvm.ClassFile.FieldType), Jvm.Cond.code ({ cls := "jdk/internal/util/Preconditions", name := "checkIndex", desc := "(IILjava/util/function/BiFunction;)I" } : Jvm.MethodName) jdk_41_method_11_code (3 : Nat) (Option.some Jvm.ClassFile.FieldType.int), Jvm.Cond.code ({ cls := "com/example/brolga/brolga/xml/XmlCharacters", name := "isWhiteSpace", desc := "(C)Z" } : Jvm.MethodName) prog_157_method_4_code (1 : Nat) (Option.some Jvm.ClassFile.FieldType.boolean), Jvm.Cond.code ({ cls := "java/lang/StringUTF16", name := "toBytes", desc := "([CII)[B" } : Jvm.MethodName) jdk_52_method_14_code (5 : Nat) (Option.some (Jvm.ClassFile.FieldType.array Jvm.ClassFile.FieldType.byte)), Jvm.Cond.code ({ cls := "java/lang/StringUTF16", name := "newBytesFor", desc := "(I)[B" } : Jvm.MethodName) jdk_52_method_2_code (1 : Nat) (Option.some (Jvm.ClassFile.FieldType.array Jvm.ClassFile.FieldType.byte)), Jvm.Cond.code ({ cls := "java/lang/StringUTF16", name := "newBytesLength", desc := "(I)I" } : Jvm.MethodName) jdk_52_method_3_code (1 : Nat) (Option.some Jvm.ClassFile.FieldType.int), Jvm.Cond.code ({ cls := "java/lang/StringUTF16", name := "putChar", desc := "([BII)V" } : Jvm.MethodName) jdk_52_method_4_code (3 : Nat) (Option.none : Option Jvm.ClassFile.FieldType), Jvm.Cond.code ({ cls := "java/lang/StringUTF16", name := "getChar", desc := "([BI)C" } : Jvm.MethodName) jdk_52_method_5_code (2 : Nat) (Option.some Jvm.ClassFile.FieldType.char), Jvm.Cond.code ({ cls := "java/lang/StringUTF16", name := "charAt", desc := "([BI)C" } : Jvm.MethodName) jdk_52_method_83_code (2 : Nat) (Option.some Jvm.ClassFile.FieldType.char), Jvm.Cond.code ({ cls := "java/lang/StringUTF16", name := "checkIndex", desc := "(I[B)V" } : Jvm.MethodName) jdk_52_method_91_code (2 : Nat) (Option.none : Option Jvm.ClassFile.FieldType), Jvm.Cond.code ({ cls := "java/lang/StringUTF16", name := "length", desc := "([B)I" } : Jvm.MethodName) jdk_52_method_6_code (1 : Nat) (Option.some Jvm.ClassFile.FieldType.int)]
set_option maxRecDepth 65536 in
theorem codes_eq : words1.filter isCode = codes1 := rfl
theorem w_codes : ∀ c ∈ words1.filter isCode, c.before args0 about1 = true := by
  rw [codes_eq]
  intro c hc
  simp only [codes1, List.mem_cons, List.not_mem_nil, or_false] at hc
  rcases hc with rfl | rfl | rfl | rfl | rfl | rfl | rfl | rfl | rfl | rfl | rfl | rfl | rfl | rfl | rfl | rfl | rfl | rfl | rfl | rfl | rfl | rfl | rfl | rfl | rfl | rfl
  · exact w_c0
  · exact w_c1
  · exact w_c2
  · exact w_c3
  · exact w_c4
  · exact w_c5
  · exact w_c6
  · exact w_c7
  · exact w_c8
  · exact w_c9
  · exact w_c10
  · exact w_c11
  · exact w_c12
  · exact w_c13
  · exact w_c14
  · exact w_c15
  · exact w_c16
  · exact w_c17
  · exact w_c18
  · exact w_c19
  · exact w_c20
  · exact w_c21
  · exact w_c22
  · exact w_c23
  · exact w_c24
  · exact w_c25
set_option maxRecDepth 65536 in
theorem w_t1 : (words1.take 24).all (fun c => isCode c || c.before args0 about1) = true := by decide +kernel
set_option maxRecDepth 65536 in
theorem w_t2 : ((words1.drop 24).take 24).all (fun c => isCode c || c.before args0 about1) = true := by decide +kernel
set_option maxRecDepth 65536 in
theorem w_t3 : (((words1.drop 24).drop 24).take 24).all (fun c => isCode c || c.before args0 about1) = true := by decide +kernel
set_option maxRecDepth 65536 in
theorem w_t4 : ((((words1.drop 24).drop 24).drop 24).take 24).all (fun c => isCode c || c.before args0 about1) = true := by decide +kernel
set_option maxRecDepth 65536 in
theorem w_t5 : ((((words1.drop 24).drop 24).drop 24).drop 24).all (fun c => isCode c || c.before args0 about1) = true := by decide +kernel
theorem w_tables : (allAtoms (Jvm.Cond.code x code maxLocals ret :: tables_1)).before args0 about1 = true := by
  rw [allAtoms_all]
  show words1.all (fun c => c.before args0 about1) = true
  refine all_split ?_ w_codes
  rw [← List.take_append_drop 24 words1, List.all_append, w_t1, ← List.take_append_drop 24 (words1.drop 24), List.all_append, w_t2, ← List.take_append_drop 24 ((words1.drop 24).drop 24), List.all_append, w_t3, ← List.take_append_drop 24 (((words1.drop 24).drop 24).drop 24), List.all_append, w_t4, w_t5]
  rfl
set_option maxRecDepth 65536 in
theorem w_rest : rest_1_c.before args0 about1 = true := by decide +kernel
set_option maxRecDepth 65536 in
theorem w_case : (Jvm.Cond.and given_1 narrow_1).before args0 about1 = true := by decide +kernel
set_option maxRecDepth 65536 in
theorem w_consts : constsHeld consts_1 about1 := Jvm.Lit.constsHeldB_iff.mp (by decide +kernel)
theorem w_applies : (headSpec (Jvm.Cond.code x code maxLocals ret :: tables_1) room_1).applies x e0.platform about1 = true :=
  (Spec.applies_iff w_frames).mpr ⟨w_running, w_runnable, w_alone, w_named, w_hears, w_ripe, w_room, w_tables⟩
theorem atStart : AtStart classFile x code maxLocals ret World_1 tables_1 room_1 Calls_1 rest_1 Pre_1 launch0 p0 e0 about1 theMethod args0 below0 :=
  ⟨lists_1, trivial, launch0.admits_env _ _ _, launch0.least_env, fairChoices_fair.cas, fairChoices_fair.clock, w_frames, w_args, w_heap, w_applies, ⟨w_consts, trivial⟩, w_rest, w_case⟩
end start1
theorem witness_1 : WitnessClaimed_1 := ⟨start1.p0, start1.e0, start1.about1, start1.theMethod, start1.args0, start1.below0, start1.atStart⟩
end Jvm.Pilot.@@N@@
