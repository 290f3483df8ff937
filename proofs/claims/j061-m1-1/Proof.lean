import JvmDerived
import JvmDerived.Pilot.@@N@@Statement
import JvmDerived.Pilot.@@N@@Code
set_option linter.unusedVariables false
set_option linter.unusedSimpArgs false

namespace Jvm.Pilot.@@N@@
open Jvm Jvm.ClassFile Sem Op Lib Jvm.Free Jvm.Stand Jvm.LawKit Jvm.RoadKit Bundle Jvm.Pilot.@@N@@.Jvm.D


section OwnKit
variable {p : Program} {l : Launch} {e : Env} {R : Room} {s : State} {m : MethodId} {args : Array Value} {below : List Frame} {meth : Method} {c : Code} {T : State} {locs : List Loc} {cells slots : Nat} {h : Heap} {Q : Option Value → Heap → List Loc → Prop} {C S : Nat}
/-- from the state t the run comes to its end, and what it leaves answers Q -/
def own_Gl (p : Program) (e : Env) (below : List Frame) (s : State) (Q : Option Value → Heap → List Loc → Prop) (C S : Nat) (t : State) : Prop :=
  ∃ s₂ o, Steps p.tables e below t s₂ ∧ s₂.status = .running ∧ Ended s₂ below o ∧ ∃ v L, o = .returned v ∧ Q v s₂.heap L ∧ FrameEnd s o s₂ L C S
theorem own_st {t t' : State} (k : ∀ target, Steps p.tables e below t' target → Steps p.tables e below t target) (d : own_Gl p e below s Q C S t') : own_Gl p e below s Q C S t := by
  obtain ⟨s₂, o, h1, h2⟩ := d
  exact ⟨s₂, o, k _ h1, h2⟩
theorem own_tr {t t' : State} (k : Steps p.tables e below t t') (d : own_Gl p e below s Q C S t') : own_Gl p e below s Q C S t := own_st (fun _ h => k.trans h) d
theorem own_cast {g g' : JFrame} (q : g = g') (d : own_Gl p e below s Q C S (T.setTop g')) : own_Gl p e below s Q C S (T.setTop g) := q ▸ d
theorem own_ret (X : Stand p l e R s m args below meth c T locs cells slots) (hlk : meth.locks = false) {v : Option Value} {t : State} (hv : meth.sig.returnType = none → v = none) (eT : T.heap = h) (hq : Q v h locs) (hc : cells ≤ C) (hs : slots ≤ S)
    (k : ∀ fs, (∀ (f : JFrame) (acts : List Action), f.method = m → f.locked = none → f.entered = [] → (doReturn e (T.setTop f) acts v).1 = T.setFrames fs) → Steps p.tables e below t (T.setFrames fs)) : own_Gl p e below s Q C S t := by
  obtain ⟨fs, hr, hrun, hended, hW, hsame⟩ := X.leave hv hlk
  exact ⟨_, _, k fs hr, hrun, hended, v, locs, rfl, by show Q v T.heap locs; rw [eT]; exact hq, ⟨_, rfl⟩, hW, hsame.mono hc hs⟩
theorem own_retI (X : Stand p l e R s m args below meth c T locs cells slots) (hx : p.tables.exec = Jvm.exec) (hlk : meth.locks = false) {pc : Nat} {Ls : Array Slot} {z : Int32} {rest : List Value} (hret : meth.sig.returnType = some .int) (hd : decode c.code pc = .ok (.ireturn, 1)) (eT : T.heap = h) (hq : Q (some (.int z)) h locs) (hc : cells ≤ C) (hs : slots ≤ S) :
    own_Gl p e below s Q C S (T.setTop (mkF m pc Ls (.int z :: rest))) :=
  own_ret X hlk (fun q => by rw [hret] at q; cases q) eT hq hc hs (fun _ hr => retOut X hx hret rfl (Or.inl ⟨rfl, Or.inl rfl, _, rfl⟩) hd hr)
theorem own_retN (X : Stand p l e R s m args below meth c T locs cells slots) (hx : p.tables.exec = Jvm.exec) (hlk : meth.locks = false) {pc : Nat} {Ls : Array Slot} {z : Int32} {t : FieldType} {rest : List Value} (hret : meth.sig.returnType = some t) (ht : t = .boolean ∨ t = .byte ∨ t = .char ∨ t = .short) (hd : decode c.code pc = .ok (.ireturn, 1)) (eT : T.heap = h) (hq : Q (some (.int (nar t z))) h locs) (hc : cells ≤ C) (hs : slots ≤ S) :
    own_Gl p e below s Q C S (T.setTop (mkF m pc Ls (.int z :: rest))) :=
  own_ret X hlk (fun q => by rw [hret] at q; cases q) eT hq hc hs (fun _ hr => retN X hx hret ht hd hr)
theorem own_retJ (X : Stand p l e R s m args below meth c T locs cells slots) (hx : p.tables.exec = Jvm.exec) (hlk : meth.locks = false) {pc : Nat} {Ls : Array Slot} {z : Int64} {rest : List Value} (hret : meth.sig.returnType = some .long) (hd : decode c.code pc = .ok (.lreturn, 1)) (eT : T.heap = h) (hq : Q (some (.long z)) h locs) (hc : cells ≤ C) (hs : slots ≤ S) :
    own_Gl p e below s Q C S (T.setTop (mkF m pc Ls (.long z :: rest))) :=
  own_ret X hlk (fun q => by rw [hret] at q; cases q) eT hq hc hs (fun _ hr => retOut X hx hret rfl (Or.inr (Or.inl ⟨rfl, rfl, _, rfl⟩)) hd hr)
theorem own_retA (X : Stand p l e R s m args below meth c T locs cells slots) (hx : p.tables.exec = Jvm.exec) (hlk : meth.locks = false) {pc : Nat} {Ls : Array Slot} {w : Value} {t : FieldType} {rest : List Value} (hret : meth.sig.returnType = some t) (ht : t.isReference = true) (hw : w.isRef = true) (hn : narrow t w = w) (hd : decode c.code pc = .ok (.areturn, 1)) (eT : T.heap = h) (hq : Q (some w) h locs) (hc : cells ≤ C) (hs : slots ≤ S) :
    own_Gl p e below s Q C S (T.setTop (mkF m pc Ls (w :: rest))) :=
  own_ret X hlk (fun q => by rw [hret] at q; cases q) eT hq hc hs (fun _ hr => retOut X hx hret hn (Or.inr (Or.inr (Or.inr (Or.inr ⟨rfl, ht, hw⟩)))) hd hr)
theorem own_retV (X : Stand p l e R s m args below meth c T locs cells slots) (hx : p.tables.exec = Jvm.exec) (hlk : meth.locks = false) {pc : Nat} {Ls : Array Slot} (hret : meth.sig.returnType = none) (hd : decode c.code pc = .ok (.return_, 1)) (eT : T.heap = h) (hq : Q none h locs) (hc : cells ≤ C) (hs : slots ≤ S) :
    own_Gl p e below s Q C S (T.setTop (mkF m pc Ls [])) :=
  own_ret X hlk (fun _ => rfl) eT hq hc hs (fun _ hr => X.returnOut hx hret hd hr)
end OwnKit


theorem own_nc (v : Int32) (h : ¬ v < (0 : Int32) ∧ ¬ (65535 : Int32) < v) : nar .char v = v := by
  have e0 : (0 : Int32).toInt = 0 := by decide
  have e1 : (65535 : Int32).toInt = 65535 := by decide
  rw [Int32.lt_iff_toInt_lt, Int32.lt_iff_toInt_lt] at h
  have c := c_i2c v
  show v.toUInt32.toUInt16.toUInt32.toInt32 = v
  apply Int32.toInt_inj.mp
  omega
theorem own_nch (x : Int32) : ¬ nar .char x < (0 : Int32) ∧ ¬ (65535 : Int32) < nar .char x := by
  have e0 : (0 : Int32).toInt = 0 := by decide
  have e1 : (65535 : Int32).toInt = 65535 := by decide
  have c := c_i2c x
  show ¬ x.toUInt32.toUInt16.toUInt32.toInt32 < (0 : Int32) ∧ ¬ (65535 : Int32) < x.toUInt32.toUInt16.toUInt32.toInt32
  rw [Int32.lt_iff_toInt_lt, Int32.lt_iff_toInt_lt]
  omega
theorem own_gch (v : Int32) (h0 : ¬ v < (0 : Int32)) (h1 : ¬ (65535 : Int32) < v) :
    (((((nar .byte ((v >>> ((0 : Int32) &&& 31)).toInt8.toInt32)) &&& (255 : Int32)) <<< ((0 : Int32) &&& 31)) ||| (((nar .byte ((v >>> ((8 : Int32) &&& 31)).toInt8.toInt32)) &&& (255 : Int32)) <<< ((8 : Int32) &&& 31))).toUInt32.toUInt16.toUInt32.toInt32) = v := by
  have hb (y : Int32) : nar .byte (y.toInt8.toInt32) = y.toInt8.toInt32 := by simp [nar]
  have e0 : (0 : Int32).toInt = 0 := by decide
  have e1 : (65535 : Int32).toInt = 65535 := by decide
  rw [Int32.lt_iff_toInt_lt] at h0 h1
  rw [hb, hb]
  have s0 := c_ishr v (0 : Int32) 0 (by decide)
  have s8 := c_ishr v (8 : Int32) 8 (by decide)
  have b0 := c_i2b (v >>> ((0 : Int32) &&& 31))
  have b8 := c_i2b (v >>> ((8 : Int32) &&& 31))
  generalize hx : (v >>> ((0 : Int32) &&& 31)).toInt8.toInt32 = x at *
  generalize hy : (v >>> ((8 : Int32) &&& 31)).toInt8.toInt32 = y at *
  have m0 := c_mask x (255 : Int32) 8 (by decide) (by decide)
  have m8 := c_mask y (255 : Int32) 8 (by decide) (by decide)
  have l0 := c_ishl (x &&& (255 : Int32)) (0 : Int32) 0 (by decide)
  have l8 := c_ishl (y &&& (255 : Int32)) (8 : Int32) 8 (by decide)
  have r1 := rng32 ((x &&& (255 : Int32)) <<< ((0 : Int32) &&& 31))
  have r2 := rng32 ((y &&& (255 : Int32)) <<< ((8 : Int32) &&& 31))
  generalize (x &&& (255 : Int32)) <<< ((0 : Int32) &&& 31) = A at *
  generalize (y &&& (255 : Int32)) <<< ((8 : Int32) &&& 31) = B at *
  have o := c_or' A B 8 (by decide) 256 (by decide) (by omega) (by omega) (by omega)
  have r3 := rng32 (A ||| B)
  have c := c_i2c (A ||| B)
  apply Int32.toInt_inj.mp
  omega


theorem own_sta_int {args : Array Value} {s : State} {t : Term} {v : Int32} (h : (Jvm.Cond.eq t (.int v)).before args s = true) : t.eval args s none [] s = some (.int v) := by
  have h' := Cond.before_iff.mp h
  obtain ⟨x, y, e1, e2, k1, k2⟩ := cmp_v (Or.inl h')
  obtain rfl : y = .int v := Option.some.inj (e2.symm.trans (Term.int_eval v))
  obtain ⟨z, rfl⟩ := k2
  have q := gotT (Cond.eq_ints e1 e2) h'
  subst q
  exact e1

theorem own_d_jdk_52_method_3_code_0 : decode jdk_52_method_3_code 0 = .ok (.iload_n 0, 1) := by decide +kernel
theorem own_d_jdk_52_method_3_code_1 : decode jdk_52_method_3_code 1 = .ok (.ifCond .ge 11, 3) := by decide +kernel
theorem own_d_jdk_52_method_3_code_12 : decode jdk_52_method_3_code 12 = .ok (.iload_n 0, 1) := by decide +kernel
theorem own_d_jdk_52_method_3_code_13 : decode jdk_52_method_3_code 13 = .ok (.ldc 20, 2) := by decide +kernel
theorem own_d_jdk_52_method_3_code_15 : decode jdk_52_method_3_code 15 = .ok (.if_icmp .lt 40, 3) := by decide +kernel
theorem own_d_jdk_52_method_3_code_55 : decode jdk_52_method_3_code 55 = .ok (.iload_n 0, 1) := by decide +kernel
theorem own_d_jdk_52_method_3_code_56 : decode jdk_52_method_3_code 56 = .ok (.iconst 1, 1) := by decide +kernel
theorem own_d_jdk_52_method_3_code_57 : decode jdk_52_method_3_code 57 = .ok (.ishl, 1) := by decide +kernel
theorem own_d_jdk_52_method_3_code_58 : decode jdk_52_method_3_code 58 = .ok (.ireturn, 1) := by decide +kernel
theorem own_ef_own_nbl2 (m : MethodId) (x0 : Int32) : entryFrame m #[(.int x0)] 1 = mkF m 0 #[.val (.int x0)] [] := by first | (simp [entryFrame, mkF, argsToLocals, Value.category]; done) | rfl
def own_Q_own_nbl2 (Z : State)  (h0 : Heap) (n0 : Nat) (v : Option Value) (h : Heap) (L : List Loc) : Prop := (v = some (.int (4 : Int32))) ∧ (Fr n0 L) ∧ (h = h0)
theorem own_pn730740715 : plainName "java/lang/StringUTF16" = true := by first | (simp [plainName, overriddenIn]; done) | decide +kernel
set_option maxRecDepth 65536 in
set_option maxHeartbeats 40000000 in
theorem own_nbl2 (l : Launch) (Z : State) (a0 : Array Value) (hw : ∀ d ∈ tables_1, d.before a0 Z = true) (ws : List Jvm.Cond)  (h0 : Heap) (n0 : Nat) (Z0 : n0 ≤ h0.size) :
    MetFree l (⟨"java/lang/StringUTF16", "newBytesLength", "(I)I"⟩ : MethodName) (head1 (Jvm.Cond.code (⟨"java/lang/StringUTF16", "newBytesLength", "(I)I"⟩ : MethodName) jdk_52_method_3_code 1 (some .int) :: ws) ({ frames := 0, cells := 0, slots := 0, locals := 0 } : Room)) (fun xa xU => xa = #[(.int (2 : Int32))] ∧ Z.Warmed39 xU.vm ∧ xU.heap = h0) (fun _ _ _ _ _ => True) (fun _ xU xo xV => ∃ v L, xo = .returned v ∧ own_Q_own_nbl2 Z  h0 n0 v xV.heap L ∧ FrameEnd xU xo xV L ({ frames := 0, cells := 0, slots := 0, locals := 0 } : Room).cells ({ frames := 0, cells := 0, slots := 0, locals := 0 } : Room).slots) := by
  refine MetFree.of_bodySF (plainFor_of_name own_pn730740715) hisR ?_
  intro p e s m args below meth c s₁ Bd hml0 hP hK
  obtain ⟨rfl, hZ, hh⟩ := hP
  have hx := Bd.exec
  have hby := Bd.bytes
  have hlk := Bd.notSynchronized
  have hret := Bd.returns
  have hml : c.maxLocals = 1 := hml0
  have hown : s.vm.findClass "java/lang/StringUTF16" = some m.cls := findClass_of_methodNamed Bd.named
  have hnm := (name_of_methodNamed Bd.named Bd.method).1
  have X0 : Stand p l e ({ frames := 0, cells := 0, slots := 0, locals := 0 } : Room) s m #[(.int (2 : Int32))] below meth c s₁ [] 0 0 := Stand.of_body Bd
  have e0 : s₁.heap = h0 := by rw [← hh, Bd.state]; rfl
  have N0 := Fr.nil n0
  show own_Gl p e below s (own_Q_own_nbl2 Z  h0 n0) ({ frames := 0, cells := 0, slots := 0, locals := 0 } : Room).cells ({ frames := 0, cells := 0, slots := 0, locals := 0 } : Room).slots _
  refine own_cast (own_ef_own_nbl2 m (2 : Int32)) ?_
  show own_Gl _ _ _ _ _ _ _ (s₁.setTop (mkF m 0 #[.val (.int (2 : Int32))] []))
  refine own_st (fun _ k => XS.iloadN X0.here hx rfl (hb hby own_d_jdk_52_method_3_code_0) rfl k) ?_
  show own_Gl _ _ _ _ _ _ _ (s₁.setTop (mkF m 1 #[.val (.int (2 : Int32))] [(.int (2 : Int32))]))
  have hd1 : ¬ ((2 : Int32) < (0 : Int32)) := (by decide)
  refine own_st (fun _ k => XS.ifYes X0.here hx rfl (pc0 := 1) (pc' := 12) rfl (hb hby own_d_jdk_52_method_3_code_1) rfl ((if0 _ _).trans (flt hd1).2.1) (by decide) (by decide) k) ?_
  show own_Gl _ _ _ _ _ _ _ (s₁.setTop (mkF m 12 #[.val (.int (2 : Int32))] []))
  refine own_st (fun _ k => XS.iloadN X0.here hx rfl (hb hby own_d_jdk_52_method_3_code_12) rfl k) ?_
  show own_Gl _ _ _ _ _ _ _ (s₁.setTop (mkF m 13 #[.val (.int (2 : Int32))] [(.int (2 : Int32))]))
  refine own_st (X0.ldcInt hx hown (mvT hZ (hw _ (List.mem_of_getElem? (i := 138) rfl))) (g := (mkF m 13 #[.val (.int (2 : Int32))] [(.int (2 : Int32))])) rfl (hb hby own_d_jdk_52_method_3_code_13)) ?_
  show own_Gl _ _ _ _ _ _ _ (s₁.setTop (mkF m 15 #[.val (.int (2 : Int32))] [(.int (1073741823 : Int32)), (.int (2 : Int32))]))
  have hd2 : (2 : Int32) < (1073741823 : Int32) := (by decide)
  refine own_st (fun _ k => XS.icmpYes X0.here hx rfl (pc0 := 15) (pc' := 55) rfl (hb hby own_d_jdk_52_method_3_code_15) rfl (tlt hd2).1 (by decide) (by decide) k) ?_
  show own_Gl _ _ _ _ _ _ _ (s₁.setTop (mkF m 55 #[.val (.int (2 : Int32))] []))
  refine own_st (fun _ k => XS.iloadN X0.here hx rfl (hb hby own_d_jdk_52_method_3_code_55) rfl k) ?_
  show own_Gl _ _ _ _ _ _ _ (s₁.setTop (mkF m 56 #[.val (.int (2 : Int32))] [(.int (2 : Int32))]))
  refine own_st (fun _ k => XS.iconst X0.here hx rfl (hb hby own_d_jdk_52_method_3_code_56) k) ?_
  show own_Gl _ _ _ _ _ _ _ (s₁.setTop (mkF m 57 #[.val (.int (2 : Int32))] [(.int (1 : Int32)), (.int (2 : Int32))]))
  refine own_st (fun _ k => XS.ishl X0.here hx rfl (hb hby own_d_jdk_52_method_3_code_57) rfl k) ?_
  show own_Gl _ _ _ _ _ _ _ (s₁.setTop (mkF m 58 #[.val (.int (2 : Int32))] [(.int ((2 : Int32) <<< ((1 : Int32) &&& 31)))]))
  exact own_retI X0 hx hlk hret (hb hby own_d_jdk_52_method_3_code_58) e0 ⟨rfl, N0, rfl⟩ (by decide) (by decide)
theorem own_d_jdk_52_method_2_code_0 : decode jdk_52_method_2_code 0 = .ok (.iload_n 0, 1) := by decide +kernel
theorem own_d_jdk_52_method_2_code_1 : decode jdk_52_method_2_code 1 = .ok (.invokestatic 11, 3) := by decide +kernel
theorem own_pd91181837 : parseMethodDescriptor "(I)I" = some ⟨[.int], some .int⟩ := by decide +kernel
theorem own_d_jdk_52_method_2_code_4 : decode jdk_52_method_2_code 4 = .ok (.newarray .byte, 2) := by decide +kernel
theorem own_d_jdk_52_method_2_code_6 : decode jdk_52_method_2_code 6 = .ok (.areturn, 1) := by decide +kernel
theorem own_ef_own_nbf2 (m : MethodId) (x0 : Int32) : entryFrame m #[(.int x0)] 1 = mkF m 0 #[.val (.int x0)] [] := by first | (simp [entryFrame, mkF, argsToLocals, Value.category]; done) | rfl
def own_Q_own_nbf2 (Z : State)  (h0 : Heap) (n0 : Nat) (v : Option Value) (h : Heap) (L : List Loc) : Prop := ∃ (r : Addr) (kr : ClassId), (v = some (.ref r)) ∧ (Fr n0 L) ∧ (Keep h0 h []) ∧ (n0 ≤ r) ∧ (h0.size ≤ r) ∧ (Arv Z h r kr .byte (4 : Int32) [(.int (0 : Int32)), (.int (0 : Int32)), (.int (0 : Int32)), (.int (0 : Int32))] (.int (0 : Int32)))
set_option maxRecDepth 65536 in
set_option maxHeartbeats 40000000 in
theorem own_nbf2 (l : Launch) (Z : State) (a0 : Array Value) (hw : ∀ d ∈ tables_1, d.before a0 Z = true) (ws : List Jvm.Cond)  (h0 : Heap) (n0 : Nat) (Z0 : n0 ≤ h0.size) :
    MetFree l (⟨"java/lang/StringUTF16", "newBytesFor", "(I)[B"⟩ : MethodName) (head1 (Jvm.Cond.code (⟨"java/lang/StringUTF16", "newBytesFor", "(I)[B"⟩ : MethodName) jdk_52_method_2_code 1 (some (.array .byte)) :: ws) ({ frames := 1, cells := 1, slots := 4, locals := 12 } : Room)) (fun xa xU => xa = #[(.int (2 : Int32))] ∧ Z.Warmed39 xU.vm ∧ xU.heap = h0) (fun _ _ _ _ _ => True) (fun _ xU xo xV => ∃ v L, xo = .returned v ∧ own_Q_own_nbf2 Z  h0 n0 v xV.heap L ∧ FrameEnd xU xo xV L ({ frames := 1, cells := 1, slots := 4, locals := 12 } : Room).cells ({ frames := 1, cells := 1, slots := 4, locals := 12 } : Room).slots) := by
  refine MetFree.of_bodySF (plainFor_of_name own_pn730740715) hisR ?_
  intro p e s m args below meth c s₁ Bd hml0 hP hK
  obtain ⟨rfl, hZ, hh⟩ := hP
  have hx := Bd.exec
  have hby := Bd.bytes
  have hlk := Bd.notSynchronized
  have hret := Bd.returns
  have hml : c.maxLocals = 1 := hml0
  have hown : s.vm.findClass "java/lang/StringUTF16" = some m.cls := findClass_of_methodNamed Bd.named
  have hnm := (name_of_methodNamed Bd.named Bd.method).1
  have X0 : Stand p l e ({ frames := 1, cells := 1, slots := 4, locals := 12 } : Room) s m #[(.int (2 : Int32))] below meth c s₁ [] 0 0 := Stand.of_body Bd
  have e0 : s₁.heap = h0 := by rw [← hh, Bd.state]; rfl
  have N0 := Fr.nil n0
  show own_Gl p e below s (own_Q_own_nbf2 Z  h0 n0) ({ frames := 1, cells := 1, slots := 4, locals := 12 } : Room).cells ({ frames := 1, cells := 1, slots := 4, locals := 12 } : Room).slots _
  refine own_cast (own_ef_own_nbf2 m (2 : Int32)) ?_
  show own_Gl _ _ _ _ _ _ _ (s₁.setTop (mkF m 0 #[.val (.int (2 : Int32))] []))
  refine own_st (fun _ k => XS.iloadN X0.here hx rfl (hb hby own_d_jdk_52_method_2_code_0) rfl k) ?_
  show own_Gl _ _ _ _ _ _ _ (s₁.setTop (mkF m 1 #[.val (.int (2 : Int32))] [(.int (2 : Int32))]))
  obtain ⟨_, _, ⟨T1, L1, k1, n1⟩, -, X1, ⟨Lc1, hQ1, l1, y1, z1⟩, st1⟩ := Jvm.LawKit.callS X0 hx (y := (⟨"java/lang/StringUTF16", "newBytesLength", "(I)I"⟩ : MethodName)) hown (mvT hZ (hw _ (List.mem_of_getElem? (i := 135) rfl))) (mvT hZ (hw _ (List.mem_of_getElem? (i := 136) rfl))) (mvT hZ (hw _ (List.mem_of_getElem? (i := 18) rfl))) (mvT hZ (hw _ (List.mem_of_getElem? (i := 137) rfl))) (by decide) (backOf (W := 0) (own_nbl2 l Z a0 hw []  h0 n0 Z0 ) hZ (hw _ (List.mem_of_getElem? (i := 137) rfl)) (hw _ (List.mem_of_getElem? (i := 18) rfl)) (by decide) (by decide)) (g := (mkF m 1 #[.val (.int (2 : Int32))] [(.int (2 : Int32))])) rfl (by rw [hml]; rfl) (argsL := [(.int (2 : Int32))]) (rest := []) (lenOf own_pd91181837 rfl) rfl (by show 2 * 0 + _ ≤ _; exact Nat.le_of_eq rfl) (hb hby own_d_jdk_52_method_2_code_1) (fun _ _ => ⟨rfl, e0, (by decide : 0 + 0 ≤ ({ frames := 1, cells := 1, slots := 4, locals := 12 } : Room).cells), (by decide : 0 + 0 ≤ ({ frames := 1, cells := 1, slots := 4, locals := 12 } : Room).slots)⟩)
  dsimp only [Pt.U, Pt.locs, Pt.cells, Pt.slots] at X1 l1 y1 z1 st1 hQ1
  subst l1 y1 z1
  obtain ⟨hh1, eh01⟩ : ∃ z, T1.heap = z := ⟨_, rfl⟩
  rw [eh01] at hQ1
  obtain ⟨rfl, Nq1, eh1⟩ := hQ1
  have N1 := Fr.app N0 Nq1
  refine own_st st1 ?_
  have e1 : T1.heap = h0 := eh01.trans eh1
  show own_Gl _ _ _ _ _ _ _ (T1.setTop (mkF m 4 #[.val (.int (2 : Int32))] [(.int (4 : Int32))]))
  obtain ⟨T2, h2, k2, X2, e2, E2, A2, st2⟩ := newP X1 hx hZ (hw _ (List.mem_of_getElem? (i := 20) rfl)) e1 (g := (mkF m 4 #[.val (.int (2 : Int32))] [(.int (4 : Int32))])) rfl (hb hby own_d_jdk_52_method_2_code_4) rfl (by decide) (cap := 4) (by decide) (by decide) (by decide) (by decide)
  obtain ⟨b2, gb2⟩ : ∃ z, z = h0.size := ⟨_, rfl⟩
  rw [← gb2] at A2 st2
  refine own_st st2 ?_
  have Zs3 : n0 ≤ h2.size := Nat.le_trans Z0 E2.1
  have g_b2 : n0 ≤ b2 := Nat.le_trans Z0 (Nat.le_of_eq gb2.symm)
  have gh_b2 : h0.size ≤ b2 := Nat.le_trans (Keep.refl h0 []).1 (Nat.le_of_eq gb2.symm)
  have V_b2 : Arv Z h2 b2 k2 .byte (4 : Int32) [(.int (0 : Int32)), (.int (0 : Int32)), (.int (0 : Int32)), (.int (0 : Int32))] (.int (0 : Int32)) := (Arv.new A2 (by decide)).pad (pad_rep [] (.int (0 : Int32)) 4)
  show own_Gl _ _ _ _ _ _ _ (T2.setTop (mkF m 6 #[.val (.int (2 : Int32))] [(.ref b2)]))
  have K5 : Keep h0 h2 [] := ((Keep.refl h0 []).ext E2)
  exact own_retA X2 hx hlk hret rfl rfl rfl (hb hby own_d_jdk_52_method_2_code_6) e2 ⟨b2, k2, rfl, N1, K5, g_b2, gh_b2, V_b2⟩ (by decide) (by decide)
theorem own_d_jdk_52_method_4_code_0 : decode jdk_52_method_4_code 0 = .ok (.getstatic 44, 3) := by decide +kernel
theorem own_d_jdk_52_method_4_code_3 : decode jdk_52_method_4_code 3 = .ok (.ifCond .ne 25, 3) := by decide +kernel
theorem own_d_jdk_52_method_4_code_28 : decode jdk_52_method_4_code 28 = .ok (.iload_n 1, 1) := by decide +kernel
theorem own_d_jdk_52_method_4_code_29 : decode jdk_52_method_4_code 29 = .ok (.iconst 1, 1) := by decide +kernel
theorem own_d_jdk_52_method_4_code_30 : decode jdk_52_method_4_code 30 = .ok (.ishl, 1) := by decide +kernel
theorem own_d_jdk_52_method_4_code_31 : decode jdk_52_method_4_code 31 = .ok (.istore_n 1, 1) := by decide +kernel
theorem own_d_jdk_52_method_4_code_32 : decode jdk_52_method_4_code 32 = .ok (.aload_n 0, 1) := by decide +kernel
theorem own_d_jdk_52_method_4_code_33 : decode jdk_52_method_4_code 33 = .ok (.iload_n 1, 1) := by decide +kernel
theorem own_d_jdk_52_method_4_code_34 : decode jdk_52_method_4_code 34 = .ok (.iinc 1 1, 3) := by decide +kernel
theorem own_d_jdk_52_method_4_code_37 : decode jdk_52_method_4_code 37 = .ok (.iload_n 2, 1) := by decide +kernel
theorem own_d_jdk_52_method_4_code_38 : decode jdk_52_method_4_code 38 = .ok (.getstatic 59, 3) := by decide +kernel
theorem own_d_jdk_52_method_4_code_41 : decode jdk_52_method_4_code 41 = .ok (.ishr, 1) := by decide +kernel
theorem own_d_jdk_52_method_4_code_42 : decode jdk_52_method_4_code 42 = .ok (.i2b, 1) := by decide +kernel
theorem own_d_jdk_52_method_4_code_43 : decode jdk_52_method_4_code 43 = .ok (.bastore, 1) := by decide +kernel
theorem own_d_jdk_52_method_4_code_44 : decode jdk_52_method_4_code 44 = .ok (.aload_n 0, 1) := by decide +kernel
theorem own_d_jdk_52_method_4_code_45 : decode jdk_52_method_4_code 45 = .ok (.iload_n 1, 1) := by decide +kernel
theorem own_d_jdk_52_method_4_code_46 : decode jdk_52_method_4_code 46 = .ok (.iload_n 2, 1) := by decide +kernel
theorem own_d_jdk_52_method_4_code_47 : decode jdk_52_method_4_code 47 = .ok (.getstatic 63, 3) := by decide +kernel
theorem own_d_jdk_52_method_4_code_50 : decode jdk_52_method_4_code 50 = .ok (.ishr, 1) := by decide +kernel
theorem own_d_jdk_52_method_4_code_51 : decode jdk_52_method_4_code 51 = .ok (.i2b, 1) := by decide +kernel
theorem own_d_jdk_52_method_4_code_52 : decode jdk_52_method_4_code 52 = .ok (.bastore, 1) := by decide +kernel
theorem own_d_jdk_52_method_4_code_53 : decode jdk_52_method_4_code 53 = .ok (.return_, 1) := by decide +kernel
theorem own_ef_own_put2_0 (m : MethodId) (x0 : Addr) (x1 : Int32) (x2 : Int32) : entryFrame m #[(.ref x0), (.int x1), (.int x2)] 3 = mkF m 0 #[.val (.ref x0), .val (.int x1), .val (.int x2)] [] := by first | (simp [entryFrame, mkF, argsToLocals, Value.category]; done) | rfl
def own_Q_own_put2_0 (Z : State) (a : Addr) (k : ClassId) (pc : Int32) (x0 : Int32) (x1 : Int32) (x2 : Int32) (x3 : Int32) (h0 : Heap) (n0 : Nat) (v : Option Value) (h : Heap) (L : List Loc) : Prop := (v = none) ∧ (Fr n0 L) ∧ (Keep h0 h [a]) ∧ (Arv Z h a k .byte (4 : Int32) [(.int (nar .byte ((pc >>> ((0 : Int32) &&& 31)).toInt8.toInt32))), (.int (nar .byte ((pc >>> ((8 : Int32) &&& 31)).toInt8.toInt32))), (.int x2), (.int x3)] (.int (0 : Int32)))
set_option maxRecDepth 65536 in
set_option maxHeartbeats 40000000 in
theorem own_put2_0 (l : Launch) (Z : State) (a0 : Array Value) (hw : ∀ d ∈ tables_1, d.before a0 Z = true) (ws : List Jvm.Cond) (a : Addr) (k : ClassId) (pc : Int32) (x0 : Int32) (x1 : Int32) (x2 : Int32) (x3 : Int32) (h0 : Heap) (n0 : Nat) (Z0 : n0 ≤ h0.size) (Old0 : Old Z n0 h0) (S__assertionsDisabled : Sta Z Z.heap "java/lang/StringUTF16" "$assertionsDisabled" "Z" (.int (1 : Int32))) (S_HI_BYTE_SHIFT : Sta Z Z.heap "java/lang/StringUTF16" "HI_BYTE_SHIFT" "I" (.int (0 : Int32))) (S_LO_BYTE_SHIFT : Sta Z Z.heap "java/lang/StringUTF16" "LO_BYTE_SHIFT" "I" (.int (8 : Int32))) (V_a : Arv Z h0 a k .byte (4 : Int32) [(.int x0), (.int x1), (.int x2), (.int x3)] (.int (0 : Int32))) (g_a : n0 ≤ a) :
    MetFree l (⟨"java/lang/StringUTF16", "putChar", "([BII)V"⟩ : MethodName) (head1 (Jvm.Cond.code (⟨"java/lang/StringUTF16", "putChar", "([BII)V"⟩ : MethodName) jdk_52_method_4_code 3 none :: ws) ({ frames := 0, cells := 0, slots := 0, locals := 0 } : Room)) (fun xa xU => xa = #[(.ref a), (.int (0 : Int32)), (.int pc)] ∧ Z.Warmed39 xU.vm ∧ xU.heap = h0) (fun _ _ _ _ _ => True) (fun _ xU xo xV => ∃ v L, xo = .returned v ∧ own_Q_own_put2_0 Z a k pc x0 x1 x2 x3 h0 n0 v xV.heap L ∧ FrameEnd xU xo xV L ({ frames := 0, cells := 0, slots := 0, locals := 0 } : Room).cells ({ frames := 0, cells := 0, slots := 0, locals := 0 } : Room).slots) := by
  refine MetFree.of_bodySF (plainFor_of_name own_pn730740715) hisR ?_
  intro p e s m args below meth c s₁ Bd hml0 hP hK
  obtain ⟨rfl, hZ, hh⟩ := hP
  have hx := Bd.exec
  have hby := Bd.bytes
  have hlk := Bd.notSynchronized
  have hret := Bd.returns
  have hml : c.maxLocals = 3 := hml0
  have hown : s.vm.findClass "java/lang/StringUTF16" = some m.cls := findClass_of_methodNamed Bd.named
  have hnm := (name_of_methodNamed Bd.named Bd.method).1
  have X0 : Stand p l e ({ frames := 0, cells := 0, slots := 0, locals := 0 } : Room) s m #[(.ref a), (.int (0 : Int32)), (.int pc)] below meth c s₁ [] 0 0 := Stand.of_body Bd
  have e0 : s₁.heap = h0 := by rw [← hh, Bd.state]; rfl
  have N0 := Fr.nil n0
  show own_Gl p e below s (own_Q_own_put2_0 Z a k pc x0 x1 x2 x3 h0 n0) ({ frames := 0, cells := 0, slots := 0, locals := 0 } : Room).cells ({ frames := 0, cells := 0, slots := 0, locals := 0 } : Room).slots _
  refine own_cast (own_ef_own_put2_0 m a (0 : Int32) pc) ?_
  show own_Gl _ _ _ _ _ _ _ (s₁.setTop (mkF m 0 #[.val (.ref a), .val (.int (0 : Int32)), .val (.int pc)] []))
  obtain ⟨T1, X1, e1, st1⟩ := getS2 X0 hx hZ hown (host := "") (Or.inl (hw _ (List.mem_of_getElem? (i := 142) rfl))) Via.refl e0 (S__assertionsDisabled.ext Old0.2) (g := (mkF m 0 #[.val (.ref a), .val (.int (0 : Int32)), .val (.int pc)] [])) rfl (hb hby own_d_jdk_52_method_4_code_0)
  refine own_st st1 ?_
  show own_Gl _ _ _ _ _ _ _ (T1.setTop (mkF m 3 #[.val (.ref a), .val (.int (0 : Int32)), .val (.int pc)] [(.int (1 : Int32))]))
  have hd2 : ¬ ((1 : Int32) = (0 : Int32)) := (by decide)
  refine own_st (fun _ k => XS.ifYes X1.here hx rfl (pc0 := 3) (pc' := 28) rfl (hb hby own_d_jdk_52_method_4_code_3) rfl ((if0 _ _).trans (feq hd2).2) (by decide) (by decide) k) ?_
  show own_Gl _ _ _ _ _ _ _ (T1.setTop (mkF m 28 #[.val (.ref a), .val (.int (0 : Int32)), .val (.int pc)] []))
  refine own_st (fun _ k => XS.iloadN X1.here hx rfl (hb hby own_d_jdk_52_method_4_code_28) rfl k) ?_
  show own_Gl _ _ _ _ _ _ _ (T1.setTop (mkF m 29 #[.val (.ref a), .val (.int (0 : Int32)), .val (.int pc)] [(.int (0 : Int32))]))
  refine own_st (fun _ k => XS.iconst X1.here hx rfl (hb hby own_d_jdk_52_method_4_code_29) k) ?_
  show own_Gl _ _ _ _ _ _ _ (T1.setTop (mkF m 30 #[.val (.ref a), .val (.int (0 : Int32)), .val (.int pc)] [(.int (1 : Int32)), (.int (0 : Int32))]))
  refine own_st (fun _ k => XS.ishl X1.here hx rfl (hb hby own_d_jdk_52_method_4_code_30) rfl k) ?_
  show own_Gl _ _ _ _ _ _ _ (T1.setTop (mkF m 31 #[.val (.ref a), .val (.int (0 : Int32)), .val (.int pc)] [(.int ((0 : Int32) <<< ((1 : Int32) &&& 31)))]))
  refine own_st (fun _ k => XS.istoreN X1.here hx rfl (hb hby own_d_jdk_52_method_4_code_31) rfl (l' := #[.val (.ref a), .val (.int ((0 : Int32) <<< ((1 : Int32) &&& 31))), .val (.int pc)]) rfl k) ?_
  show own_Gl _ _ _ _ _ _ _ (T1.setTop (mkF m 32 #[.val (.ref a), .val (.int ((0 : Int32) <<< ((1 : Int32) &&& 31))), .val (.int pc)] []))
  show own_Gl _ _ _ _ _ _ _ (T1.setTop (mkF m 32 #[.val (.ref a), .val (.int (0 : Int32)), .val (.int pc)] []))
  refine own_st (fun _ k => XS.aloadN X1.here hx rfl (hb hby own_d_jdk_52_method_4_code_32) rfl rfl k) ?_
  show own_Gl _ _ _ _ _ _ _ (T1.setTop (mkF m 33 #[.val (.ref a), .val (.int (0 : Int32)), .val (.int pc)] [(.ref a)]))
  refine own_st (fun _ k => XS.iloadN X1.here hx rfl (hb hby own_d_jdk_52_method_4_code_33) rfl k) ?_
  show own_Gl _ _ _ _ _ _ _ (T1.setTop (mkF m 34 #[.val (.ref a), .val (.int (0 : Int32)), .val (.int pc)] [(.int (0 : Int32)), (.ref a)]))
  refine own_st (fun _ k => XS.iinc X1.here hx rfl (hb hby own_d_jdk_52_method_4_code_34) rfl (l' := #[.val (.ref a), .val (.int (1 : Int32)), .val (.int pc)]) rfl k) ?_
  show own_Gl _ _ _ _ _ _ _ (T1.setTop (mkF m 37 #[.val (.ref a), .val (.int (1 : Int32)), .val (.int pc)] [(.int (0 : Int32)), (.ref a)]))
  refine own_st (fun _ k => XS.iloadN X1.here hx rfl (hb hby own_d_jdk_52_method_4_code_37) rfl k) ?_
  show own_Gl _ _ _ _ _ _ _ (T1.setTop (mkF m 38 #[.val (.ref a), .val (.int (1 : Int32)), .val (.int pc)] [(.int pc), (.int (0 : Int32)), (.ref a)]))
  obtain ⟨T3, X3, e3, st3⟩ := getS2 X1 hx hZ hown (host := "") (Or.inl (hw _ (List.mem_of_getElem? (i := 143) rfl))) Via.refl e1 (S_HI_BYTE_SHIFT.ext Old0.2) (g := (mkF m 38 #[.val (.ref a), .val (.int (1 : Int32)), .val (.int pc)] [(.int pc), (.int (0 : Int32)), (.ref a)])) rfl (hb hby own_d_jdk_52_method_4_code_38)
  refine own_st st3 ?_
  show own_Gl _ _ _ _ _ _ _ (T3.setTop (mkF m 41 #[.val (.ref a), .val (.int (1 : Int32)), .val (.int pc)] [(.int (0 : Int32)), (.int pc), (.int (0 : Int32)), (.ref a)]))
  refine own_st (fun _ k => XS.ishr X3.here hx rfl (hb hby own_d_jdk_52_method_4_code_41) rfl k) ?_
  show own_Gl _ _ _ _ _ _ _ (T3.setTop (mkF m 42 #[.val (.ref a), .val (.int (1 : Int32)), .val (.int pc)] [(.int (pc >>> ((0 : Int32) &&& 31))), (.int (0 : Int32)), (.ref a)]))
  refine own_st (fun _ k => XS.i2b X3.here hx rfl (hb hby own_d_jdk_52_method_4_code_42) rfl k) ?_
  show own_Gl _ _ _ _ _ _ _ (T3.setTop (mkF m 43 #[.val (.ref a), .val (.int (1 : Int32)), .val (.int pc)] [(.int ((pc >>> ((0 : Int32) &&& 31)).toInt8.toInt32)), (.int (0 : Int32)), (.ref a)]))
  obtain ⟨cl4, Ar4, qq4, Ss4, Nn4, Hh4, Gg4⟩ := id V_a
  have hin4 : ¬ ((0 : Int32) < 0 ∨ cl4.slots.size ≤ ((0 : Int32)).toNatClampNeg) := inb_of Ss4 ⟨by decide, by decide⟩
  obtain ⟨T4, h4, X4, e4, W4, st4⟩ := stB X3 hx hZ e3 Ar4 (j := (0 : Int32)) hin4 (g := (mkF m 43 #[.val (.ref a), .val (.int (1 : Int32)), .val (.int pc)] [(.int ((pc >>> ((0 : Int32) &&& 31)).toInt8.toInt32)), (.int (0 : Int32)), (.ref a)])) rfl rfl (hb hby own_d_jdk_52_method_4_code_43)
  have N4 := Fr.snoc X4 N0 g_a
  refine own_st st4 ?_
  have Zs5 : n0 ≤ h4.size := Nat.le_trans Z0 (Keep.of_wr W4).1
  have Vw4 : Arv Z h4 a k .byte (4 : Int32) [(.int (nar .byte ((pc >>> ((0 : Int32) &&& 31)).toInt8.toInt32))), (.int x1), (.int x2), (.int x3)] (.int (0 : Int32)) := Arv.set Ar4 qq4 Ss4 Nn4 Hh4 Gg4 (fits_nar_byte _) W4 0 (rfl) (Nat.le_of_ble_eq_true rfl)
  show own_Gl _ _ _ _ _ _ _ (T4.setTop (mkF m 44 #[.val (.ref a), .val (.int (1 : Int32)), .val (.int pc)] []))
  refine own_st (fun _ k => XS.aloadN X4.here hx rfl (hb hby own_d_jdk_52_method_4_code_44) rfl rfl k) ?_
  show own_Gl _ _ _ _ _ _ _ (T4.setTop (mkF m 45 #[.val (.ref a), .val (.int (1 : Int32)), .val (.int pc)] [(.ref a)]))
  refine own_st (fun _ k => XS.iloadN X4.here hx rfl (hb hby own_d_jdk_52_method_4_code_45) rfl k) ?_
  show own_Gl _ _ _ _ _ _ _ (T4.setTop (mkF m 46 #[.val (.ref a), .val (.int (1 : Int32)), .val (.int pc)] [(.int (1 : Int32)), (.ref a)]))
  refine own_st (fun _ k => XS.iloadN X4.here hx rfl (hb hby own_d_jdk_52_method_4_code_46) rfl k) ?_
  show own_Gl _ _ _ _ _ _ _ (T4.setTop (mkF m 47 #[.val (.ref a), .val (.int (1 : Int32)), .val (.int pc)] [(.int pc), (.int (1 : Int32)), (.ref a)]))
  have f7 := (Old0.wr W4 g_a)
  obtain ⟨T6, X6, e6, st6⟩ := getS2 X4 hx hZ hown (host := "") (Or.inl (hw _ (List.mem_of_getElem? (i := 144) rfl))) Via.refl e4 (S_LO_BYTE_SHIFT.ext f7.2) (g := (mkF m 47 #[.val (.ref a), .val (.int (1 : Int32)), .val (.int pc)] [(.int pc), (.int (1 : Int32)), (.ref a)])) rfl (hb hby own_d_jdk_52_method_4_code_47)
  refine own_st st6 ?_
  show own_Gl _ _ _ _ _ _ _ (T6.setTop (mkF m 50 #[.val (.ref a), .val (.int (1 : Int32)), .val (.int pc)] [(.int (8 : Int32)), (.int pc), (.int (1 : Int32)), (.ref a)]))
  refine own_st (fun _ k => XS.ishr X6.here hx rfl (hb hby own_d_jdk_52_method_4_code_50) rfl k) ?_
  show own_Gl _ _ _ _ _ _ _ (T6.setTop (mkF m 51 #[.val (.ref a), .val (.int (1 : Int32)), .val (.int pc)] [(.int (pc >>> ((8 : Int32) &&& 31))), (.int (1 : Int32)), (.ref a)]))
  refine own_st (fun _ k => XS.i2b X6.here hx rfl (hb hby own_d_jdk_52_method_4_code_51) rfl k) ?_
  show own_Gl _ _ _ _ _ _ _ (T6.setTop (mkF m 52 #[.val (.ref a), .val (.int (1 : Int32)), .val (.int pc)] [(.int ((pc >>> ((8 : Int32) &&& 31)).toInt8.toInt32)), (.int (1 : Int32)), (.ref a)]))
  obtain ⟨cl8, Ar8, qq8, Ss8, Nn8, Hh8, Gg8⟩ := id Vw4
  have hin8 : ¬ ((1 : Int32) < 0 ∨ cl8.slots.size ≤ ((1 : Int32)).toNatClampNeg) := inb_of Ss8 ⟨by decide, by decide⟩
  obtain ⟨T8, h8, X8, e8, W8, st8⟩ := stB X6 hx hZ e6 Ar8 (j := (1 : Int32)) hin8 (g := (mkF m 52 #[.val (.ref a), .val (.int (1 : Int32)), .val (.int pc)] [(.int ((pc >>> ((8 : Int32) &&& 31)).toInt8.toInt32)), (.int (1 : Int32)), (.ref a)])) rfl rfl (hb hby own_d_jdk_52_method_4_code_52)
  have N8 := Fr.snoc X8 N4 g_a
  refine own_st st8 ?_
  have Zs9 : n0 ≤ h8.size := Nat.le_trans Zs5 (Keep.of_wr W8).1
  have Vw8 : Arv Z h8 a k .byte (4 : Int32) [(.int (nar .byte ((pc >>> ((0 : Int32) &&& 31)).toInt8.toInt32))), (.int (nar .byte ((pc >>> ((8 : Int32) &&& 31)).toInt8.toInt32))), (.int x2), (.int x3)] (.int (0 : Int32)) := Arv.set Ar8 qq8 Ss8 Nn8 Hh8 Gg8 (fits_nar_byte _) W8 1 (rfl) (Nat.le_of_ble_eq_true rfl)
  show own_Gl _ _ _ _ _ _ _ (T8.setTop (mkF m 53 #[.val (.ref a), .val (.int (1 : Int32)), .val (.int pc)] []))
  have K10 : Keep h0 h8 [a] := (((Keep.refl h0 [a]).wr W4 (Or.inl (List.mem_of_getElem? (i := 0) rfl))).wr W8 (Or.inl (List.mem_of_getElem? (i := 0) rfl)))
  exact own_retV X8 hx hlk hret (hb hby own_d_jdk_52_method_4_code_53) e8 ⟨rfl, N8, K10, Vw8⟩ (by decide) (by decide)
theorem own_ef_own_put2_1 (m : MethodId) (x0 : Addr) (x1 : Int32) (x2 : Int32) : entryFrame m #[(.ref x0), (.int x1), (.int x2)] 3 = mkF m 0 #[.val (.ref x0), .val (.int x1), .val (.int x2)] [] := by first | (simp [entryFrame, mkF, argsToLocals, Value.category]; done) | rfl
def own_Q_own_put2_1 (Z : State) (a : Addr) (k : ClassId) (pc : Int32) (x0 : Int32) (x1 : Int32) (x2 : Int32) (x3 : Int32) (h0 : Heap) (n0 : Nat) (v : Option Value) (h : Heap) (L : List Loc) : Prop := (v = none) ∧ (Fr n0 L) ∧ (Keep h0 h [a]) ∧ (Arv Z h a k .byte (4 : Int32) [(.int x0), (.int x1), (.int (nar .byte ((pc >>> ((0 : Int32) &&& 31)).toInt8.toInt32))), (.int (nar .byte ((pc >>> ((8 : Int32) &&& 31)).toInt8.toInt32)))] (.int (0 : Int32)))
set_option maxRecDepth 65536 in
set_option maxHeartbeats 40000000 in
theorem own_put2_1 (l : Launch) (Z : State) (a0 : Array Value) (hw : ∀ d ∈ tables_1, d.before a0 Z = true) (ws : List Jvm.Cond) (a : Addr) (k : ClassId) (pc : Int32) (x0 : Int32) (x1 : Int32) (x2 : Int32) (x3 : Int32) (h0 : Heap) (n0 : Nat) (Z0 : n0 ≤ h0.size) (Old0 : Old Z n0 h0) (S__assertionsDisabled : Sta Z Z.heap "java/lang/StringUTF16" "$assertionsDisabled" "Z" (.int (1 : Int32))) (S_HI_BYTE_SHIFT : Sta Z Z.heap "java/lang/StringUTF16" "HI_BYTE_SHIFT" "I" (.int (0 : Int32))) (S_LO_BYTE_SHIFT : Sta Z Z.heap "java/lang/StringUTF16" "LO_BYTE_SHIFT" "I" (.int (8 : Int32))) (V_a : Arv Z h0 a k .byte (4 : Int32) [(.int x0), (.int x1), (.int x2), (.int x3)] (.int (0 : Int32))) (g_a : n0 ≤ a) :
    MetFree l (⟨"java/lang/StringUTF16", "putChar", "([BII)V"⟩ : MethodName) (head1 (Jvm.Cond.code (⟨"java/lang/StringUTF16", "putChar", "([BII)V"⟩ : MethodName) jdk_52_method_4_code 3 none :: ws) ({ frames := 0, cells := 0, slots := 0, locals := 0 } : Room)) (fun xa xU => xa = #[(.ref a), (.int (1 : Int32)), (.int pc)] ∧ Z.Warmed39 xU.vm ∧ xU.heap = h0) (fun _ _ _ _ _ => True) (fun _ xU xo xV => ∃ v L, xo = .returned v ∧ own_Q_own_put2_1 Z a k pc x0 x1 x2 x3 h0 n0 v xV.heap L ∧ FrameEnd xU xo xV L ({ frames := 0, cells := 0, slots := 0, locals := 0 } : Room).cells ({ frames := 0, cells := 0, slots := 0, locals := 0 } : Room).slots) := by
  refine MetFree.of_bodySF (plainFor_of_name own_pn730740715) hisR ?_
  intro p e s m args below meth c s₁ Bd hml0 hP hK
  obtain ⟨rfl, hZ, hh⟩ := hP
  have hx := Bd.exec
  have hby := Bd.bytes
  have hlk := Bd.notSynchronized
  have hret := Bd.returns
  have hml : c.maxLocals = 3 := hml0
  have hown : s.vm.findClass "java/lang/StringUTF16" = some m.cls := findClass_of_methodNamed Bd.named
  have hnm := (name_of_methodNamed Bd.named Bd.method).1
  have X0 : Stand p l e ({ frames := 0, cells := 0, slots := 0, locals := 0 } : Room) s m #[(.ref a), (.int (1 : Int32)), (.int pc)] below meth c s₁ [] 0 0 := Stand.of_body Bd
  have e0 : s₁.heap = h0 := by rw [← hh, Bd.state]; rfl
  have N0 := Fr.nil n0
  show own_Gl p e below s (own_Q_own_put2_1 Z a k pc x0 x1 x2 x3 h0 n0) ({ frames := 0, cells := 0, slots := 0, locals := 0 } : Room).cells ({ frames := 0, cells := 0, slots := 0, locals := 0 } : Room).slots _
  refine own_cast (own_ef_own_put2_1 m a (1 : Int32) pc) ?_
  show own_Gl _ _ _ _ _ _ _ (s₁.setTop (mkF m 0 #[.val (.ref a), .val (.int (1 : Int32)), .val (.int pc)] []))
  obtain ⟨T1, X1, e1, st1⟩ := getS2 X0 hx hZ hown (host := "") (Or.inl (hw _ (List.mem_of_getElem? (i := 142) rfl))) Via.refl e0 (S__assertionsDisabled.ext Old0.2) (g := (mkF m 0 #[.val (.ref a), .val (.int (1 : Int32)), .val (.int pc)] [])) rfl (hb hby own_d_jdk_52_method_4_code_0)
  refine own_st st1 ?_
  show own_Gl _ _ _ _ _ _ _ (T1.setTop (mkF m 3 #[.val (.ref a), .val (.int (1 : Int32)), .val (.int pc)] [(.int (1 : Int32))]))
  have hd2 : ¬ ((1 : Int32) = (0 : Int32)) := (by decide)
  refine own_st (fun _ k => XS.ifYes X1.here hx rfl (pc0 := 3) (pc' := 28) rfl (hb hby own_d_jdk_52_method_4_code_3) rfl ((if0 _ _).trans (feq hd2).2) (by decide) (by decide) k) ?_
  show own_Gl _ _ _ _ _ _ _ (T1.setTop (mkF m 28 #[.val (.ref a), .val (.int (1 : Int32)), .val (.int pc)] []))
  refine own_st (fun _ k => XS.iloadN X1.here hx rfl (hb hby own_d_jdk_52_method_4_code_28) rfl k) ?_
  show own_Gl _ _ _ _ _ _ _ (T1.setTop (mkF m 29 #[.val (.ref a), .val (.int (1 : Int32)), .val (.int pc)] [(.int (1 : Int32))]))
  refine own_st (fun _ k => XS.iconst X1.here hx rfl (hb hby own_d_jdk_52_method_4_code_29) k) ?_
  show own_Gl _ _ _ _ _ _ _ (T1.setTop (mkF m 30 #[.val (.ref a), .val (.int (1 : Int32)), .val (.int pc)] [(.int (1 : Int32)), (.int (1 : Int32))]))
  refine own_st (fun _ k => XS.ishl X1.here hx rfl (hb hby own_d_jdk_52_method_4_code_30) rfl k) ?_
  show own_Gl _ _ _ _ _ _ _ (T1.setTop (mkF m 31 #[.val (.ref a), .val (.int (1 : Int32)), .val (.int pc)] [(.int ((1 : Int32) <<< ((1 : Int32) &&& 31)))]))
  refine own_st (fun _ k => XS.istoreN X1.here hx rfl (hb hby own_d_jdk_52_method_4_code_31) rfl (l' := #[.val (.ref a), .val (.int ((1 : Int32) <<< ((1 : Int32) &&& 31))), .val (.int pc)]) rfl k) ?_
  show own_Gl _ _ _ _ _ _ _ (T1.setTop (mkF m 32 #[.val (.ref a), .val (.int ((1 : Int32) <<< ((1 : Int32) &&& 31))), .val (.int pc)] []))
  show own_Gl _ _ _ _ _ _ _ (T1.setTop (mkF m 32 #[.val (.ref a), .val (.int (2 : Int32)), .val (.int pc)] []))
  refine own_st (fun _ k => XS.aloadN X1.here hx rfl (hb hby own_d_jdk_52_method_4_code_32) rfl rfl k) ?_
  show own_Gl _ _ _ _ _ _ _ (T1.setTop (mkF m 33 #[.val (.ref a), .val (.int (2 : Int32)), .val (.int pc)] [(.ref a)]))
  refine own_st (fun _ k => XS.iloadN X1.here hx rfl (hb hby own_d_jdk_52_method_4_code_33) rfl k) ?_
  show own_Gl _ _ _ _ _ _ _ (T1.setTop (mkF m 34 #[.val (.ref a), .val (.int (2 : Int32)), .val (.int pc)] [(.int (2 : Int32)), (.ref a)]))
  refine own_st (fun _ k => XS.iinc X1.here hx rfl (hb hby own_d_jdk_52_method_4_code_34) rfl (l' := #[.val (.ref a), .val (.int (3 : Int32)), .val (.int pc)]) rfl k) ?_
  show own_Gl _ _ _ _ _ _ _ (T1.setTop (mkF m 37 #[.val (.ref a), .val (.int (3 : Int32)), .val (.int pc)] [(.int (2 : Int32)), (.ref a)]))
  refine own_st (fun _ k => XS.iloadN X1.here hx rfl (hb hby own_d_jdk_52_method_4_code_37) rfl k) ?_
  show own_Gl _ _ _ _ _ _ _ (T1.setTop (mkF m 38 #[.val (.ref a), .val (.int (3 : Int32)), .val (.int pc)] [(.int pc), (.int (2 : Int32)), (.ref a)]))
  obtain ⟨T3, X3, e3, st3⟩ := getS2 X1 hx hZ hown (host := "") (Or.inl (hw _ (List.mem_of_getElem? (i := 143) rfl))) Via.refl e1 (S_HI_BYTE_SHIFT.ext Old0.2) (g := (mkF m 38 #[.val (.ref a), .val (.int (3 : Int32)), .val (.int pc)] [(.int pc), (.int (2 : Int32)), (.ref a)])) rfl (hb hby own_d_jdk_52_method_4_code_38)
  refine own_st st3 ?_
  show own_Gl _ _ _ _ _ _ _ (T3.setTop (mkF m 41 #[.val (.ref a), .val (.int (3 : Int32)), .val (.int pc)] [(.int (0 : Int32)), (.int pc), (.int (2 : Int32)), (.ref a)]))
  refine own_st (fun _ k => XS.ishr X3.here hx rfl (hb hby own_d_jdk_52_method_4_code_41) rfl k) ?_
  show own_Gl _ _ _ _ _ _ _ (T3.setTop (mkF m 42 #[.val (.ref a), .val (.int (3 : Int32)), .val (.int pc)] [(.int (pc >>> ((0 : Int32) &&& 31))), (.int (2 : Int32)), (.ref a)]))
  refine own_st (fun _ k => XS.i2b X3.here hx rfl (hb hby own_d_jdk_52_method_4_code_42) rfl k) ?_
  show own_Gl _ _ _ _ _ _ _ (T3.setTop (mkF m 43 #[.val (.ref a), .val (.int (3 : Int32)), .val (.int pc)] [(.int ((pc >>> ((0 : Int32) &&& 31)).toInt8.toInt32)), (.int (2 : Int32)), (.ref a)]))
  obtain ⟨cl4, Ar4, qq4, Ss4, Nn4, Hh4, Gg4⟩ := id V_a
  have hin4 : ¬ ((2 : Int32) < 0 ∨ cl4.slots.size ≤ ((2 : Int32)).toNatClampNeg) := inb_of Ss4 ⟨by decide, by decide⟩
  obtain ⟨T4, h4, X4, e4, W4, st4⟩ := stB X3 hx hZ e3 Ar4 (j := (2 : Int32)) hin4 (g := (mkF m 43 #[.val (.ref a), .val (.int (3 : Int32)), .val (.int pc)] [(.int ((pc >>> ((0 : Int32) &&& 31)).toInt8.toInt32)), (.int (2 : Int32)), (.ref a)])) rfl rfl (hb hby own_d_jdk_52_method_4_code_43)
  have N4 := Fr.snoc X4 N0 g_a
  refine own_st st4 ?_
  have Zs5 : n0 ≤ h4.size := Nat.le_trans Z0 (Keep.of_wr W4).1
  have Vw4 : Arv Z h4 a k .byte (4 : Int32) [(.int x0), (.int x1), (.int (nar .byte ((pc >>> ((0 : Int32) &&& 31)).toInt8.toInt32))), (.int x3)] (.int (0 : Int32)) := Arv.set Ar4 qq4 Ss4 Nn4 Hh4 Gg4 (fits_nar_byte _) W4 2 (rfl) (Nat.le_of_ble_eq_true rfl)
  show own_Gl _ _ _ _ _ _ _ (T4.setTop (mkF m 44 #[.val (.ref a), .val (.int (3 : Int32)), .val (.int pc)] []))
  refine own_st (fun _ k => XS.aloadN X4.here hx rfl (hb hby own_d_jdk_52_method_4_code_44) rfl rfl k) ?_
  show own_Gl _ _ _ _ _ _ _ (T4.setTop (mkF m 45 #[.val (.ref a), .val (.int (3 : Int32)), .val (.int pc)] [(.ref a)]))
  refine own_st (fun _ k => XS.iloadN X4.here hx rfl (hb hby own_d_jdk_52_method_4_code_45) rfl k) ?_
  show own_Gl _ _ _ _ _ _ _ (T4.setTop (mkF m 46 #[.val (.ref a), .val (.int (3 : Int32)), .val (.int pc)] [(.int (3 : Int32)), (.ref a)]))
  refine own_st (fun _ k => XS.iloadN X4.here hx rfl (hb hby own_d_jdk_52_method_4_code_46) rfl k) ?_
  show own_Gl _ _ _ _ _ _ _ (T4.setTop (mkF m 47 #[.val (.ref a), .val (.int (3 : Int32)), .val (.int pc)] [(.int pc), (.int (3 : Int32)), (.ref a)]))
  have f7 := (Old0.wr W4 g_a)
  obtain ⟨T6, X6, e6, st6⟩ := getS2 X4 hx hZ hown (host := "") (Or.inl (hw _ (List.mem_of_getElem? (i := 144) rfl))) Via.refl e4 (S_LO_BYTE_SHIFT.ext f7.2) (g := (mkF m 47 #[.val (.ref a), .val (.int (3 : Int32)), .val (.int pc)] [(.int pc), (.int (3 : Int32)), (.ref a)])) rfl (hb hby own_d_jdk_52_method_4_code_47)
  refine own_st st6 ?_
  show own_Gl _ _ _ _ _ _ _ (T6.setTop (mkF m 50 #[.val (.ref a), .val (.int (3 : Int32)), .val (.int pc)] [(.int (8 : Int32)), (.int pc), (.int (3 : Int32)), (.ref a)]))
  refine own_st (fun _ k => XS.ishr X6.here hx rfl (hb hby own_d_jdk_52_method_4_code_50) rfl k) ?_
  show own_Gl _ _ _ _ _ _ _ (T6.setTop (mkF m 51 #[.val (.ref a), .val (.int (3 : Int32)), .val (.int pc)] [(.int (pc >>> ((8 : Int32) &&& 31))), (.int (3 : Int32)), (.ref a)]))
  refine own_st (fun _ k => XS.i2b X6.here hx rfl (hb hby own_d_jdk_52_method_4_code_51) rfl k) ?_
  show own_Gl _ _ _ _ _ _ _ (T6.setTop (mkF m 52 #[.val (.ref a), .val (.int (3 : Int32)), .val (.int pc)] [(.int ((pc >>> ((8 : Int32) &&& 31)).toInt8.toInt32)), (.int (3 : Int32)), (.ref a)]))
  obtain ⟨cl8, Ar8, qq8, Ss8, Nn8, Hh8, Gg8⟩ := id Vw4
  have hin8 : ¬ ((3 : Int32) < 0 ∨ cl8.slots.size ≤ ((3 : Int32)).toNatClampNeg) := inb_of Ss8 ⟨by decide, by decide⟩
  obtain ⟨T8, h8, X8, e8, W8, st8⟩ := stB X6 hx hZ e6 Ar8 (j := (3 : Int32)) hin8 (g := (mkF m 52 #[.val (.ref a), .val (.int (3 : Int32)), .val (.int pc)] [(.int ((pc >>> ((8 : Int32) &&& 31)).toInt8.toInt32)), (.int (3 : Int32)), (.ref a)])) rfl rfl (hb hby own_d_jdk_52_method_4_code_52)
  have N8 := Fr.snoc X8 N4 g_a
  refine own_st st8 ?_
  have Zs9 : n0 ≤ h8.size := Nat.le_trans Zs5 (Keep.of_wr W8).1
  have Vw8 : Arv Z h8 a k .byte (4 : Int32) [(.int x0), (.int x1), (.int (nar .byte ((pc >>> ((0 : Int32) &&& 31)).toInt8.toInt32))), (.int (nar .byte ((pc >>> ((8 : Int32) &&& 31)).toInt8.toInt32)))] (.int (0 : Int32)) := Arv.set Ar8 qq8 Ss8 Nn8 Hh8 Gg8 (fits_nar_byte _) W8 3 (rfl) (Nat.le_of_ble_eq_true rfl)
  show own_Gl _ _ _ _ _ _ _ (T8.setTop (mkF m 53 #[.val (.ref a), .val (.int (3 : Int32)), .val (.int pc)] []))
  have K10 : Keep h0 h8 [a] := (((Keep.refl h0 [a]).wr W4 (Or.inl (List.mem_of_getElem? (i := 0) rfl))).wr W8 (Or.inl (List.mem_of_getElem? (i := 0) rfl)))
  exact own_retV X8 hx hlk hret (hb hby own_d_jdk_52_method_4_code_53) e8 ⟨rfl, N8, K10, Vw8⟩ (by decide) (by decide)
theorem own_d_jdk_52_method_14_code_0 : decode jdk_52_method_14_code 0 = .ok (.iload_n 2, 1) := by decide +kernel
theorem own_d_jdk_52_method_14_code_1 : decode jdk_52_method_14_code 1 = .ok (.invokestatic 107, 3) := by decide +kernel
theorem own_pd944823071 : parseMethodDescriptor "(I)[B" = some ⟨[.int], some (.array .byte)⟩ := by decide +kernel
theorem own_d_jdk_52_method_14_code_4 : decode jdk_52_method_14_code 4 = .ok (.astore_n 3, 1) := by decide +kernel
theorem own_d_jdk_52_method_14_code_5 : decode jdk_52_method_14_code 5 = .ok (.iconst 0, 1) := by decide +kernel
theorem own_d_jdk_52_method_14_code_6 : decode jdk_52_method_14_code 6 = .ok (.istore 4, 2) := by decide +kernel
theorem own_d_jdk_52_method_14_code_8 : decode jdk_52_method_14_code 8 = .ok (.iload 4, 2) := by decide +kernel
theorem own_d_jdk_52_method_14_code_10 : decode jdk_52_method_14_code 10 = .ok (.iload_n 2, 1) := by decide +kernel
theorem own_d_jdk_52_method_14_code_11 : decode jdk_52_method_14_code 11 = .ok (.if_icmp .ge 21, 3) := by decide +kernel
theorem own_d_jdk_52_method_14_code_14 : decode jdk_52_method_14_code 14 = .ok (.aload_n 3, 1) := by decide +kernel
theorem own_d_jdk_52_method_14_code_15 : decode jdk_52_method_14_code 15 = .ok (.iload 4, 2) := by decide +kernel
theorem own_d_jdk_52_method_14_code_17 : decode jdk_52_method_14_code 17 = .ok (.aload_n 0, 1) := by decide +kernel
theorem own_d_jdk_52_method_14_code_18 : decode jdk_52_method_14_code 18 = .ok (.iload_n 1, 1) := by decide +kernel
theorem own_d_jdk_52_method_14_code_19 : decode jdk_52_method_14_code 19 = .ok (.caload, 1) := by decide +kernel
theorem own_d_jdk_52_method_14_code_20 : decode jdk_52_method_14_code 20 = .ok (.invokestatic 111, 3) := by decide +kernel
theorem own_pd861693120 : parseMethodDescriptor "([BII)V" = some ⟨[(.array .byte), .int, .int], none⟩ := by decide +kernel
theorem own_d_jdk_52_method_14_code_23 : decode jdk_52_method_14_code 23 = .ok (.iinc 1 1, 3) := by decide +kernel
theorem own_d_jdk_52_method_14_code_26 : decode jdk_52_method_14_code 26 = .ok (.iinc 4 1, 3) := by decide +kernel
theorem own_d_jdk_52_method_14_code_29 : decode jdk_52_method_14_code 29 = .ok (.goto (-21), 3) := by decide +kernel
theorem own_d_jdk_52_method_14_code_32 : decode jdk_52_method_14_code 32 = .ok (.aload_n 3, 1) := by decide +kernel
theorem own_d_jdk_52_method_14_code_33 : decode jdk_52_method_14_code 33 = .ok (.areturn, 1) := by decide +kernel
theorem own_ef_own_tb2 (m : MethodId) (x0 : Addr) (x1 : Int32) (x2 : Int32) : entryFrame m #[(.ref x0), (.int x1), (.int x2)] 5 = mkF m 0 #[.val (.ref x0), .val (.int x1), .val (.int x2), .unset, .unset] [] := by first | (simp [entryFrame, mkF, argsToLocals, Value.category]; done) | rfl
def own_Q_own_tb2 (Z : State) (a : Addr) (k : ClassId) (v0 : Int32) (v1 : Int32) (h0 : Heap) (n0 : Nat) (v : Option Value) (h : Heap) (L : List Loc) : Prop := ∃ (r : Addr) (kr : ClassId), (v = some (.ref r)) ∧ (Fr n0 L) ∧ (Keep h0 h []) ∧ (n0 ≤ r) ∧ (h0.size ≤ r) ∧ (Arv Z h r kr .byte (4 : Int32) [(.int (nar .byte ((v0 >>> ((0 : Int32) &&& 31)).toInt8.toInt32))), (.int (nar .byte ((v0 >>> ((8 : Int32) &&& 31)).toInt8.toInt32))), (.int (nar .byte ((v1 >>> ((0 : Int32) &&& 31)).toInt8.toInt32))), (.int (nar .byte ((v1 >>> ((8 : Int32) &&& 31)).toInt8.toInt32)))] (.int (0 : Int32)))
set_option maxRecDepth 65536 in
set_option maxHeartbeats 40000000 in
theorem own_tb2 (l : Launch) (Z : State) (a0 : Array Value) (hw : ∀ d ∈ tables_1, d.before a0 Z = true) (ws : List Jvm.Cond) (a : Addr) (k : ClassId) (v0 : Int32) (v1 : Int32) (h0 : Heap) (n0 : Nat) (Z0 : n0 ≤ h0.size) (V_a : Arv Z h0 a k .char (2 : Int32) [(.int v0), (.int v1)] (.int (0 : Int32))) (Old0 : Old Z n0 h0) (S__assertionsDisabled : Sta Z Z.heap "java/lang/StringUTF16" "$assertionsDisabled" "Z" (.int (1 : Int32))) (S_HI_BYTE_SHIFT : Sta Z Z.heap "java/lang/StringUTF16" "HI_BYTE_SHIFT" "I" (.int (0 : Int32))) (S_LO_BYTE_SHIFT : Sta Z Z.heap "java/lang/StringUTF16" "LO_BYTE_SHIFT" "I" (.int (8 : Int32))) :
    MetFree l (⟨"java/lang/StringUTF16", "toBytes", "([CII)[B"⟩ : MethodName) (head1 (Jvm.Cond.code (⟨"java/lang/StringUTF16", "toBytes", "([CII)[B"⟩ : MethodName) jdk_52_method_14_code 5 (some (.array .byte)) :: ws) ({ frames := 2, cells := 1, slots := 4, locals := 24 } : Room)) (fun xa xU => xa = #[(.ref a), (.int (0 : Int32)), (.int (2 : Int32))] ∧ Z.Warmed39 xU.vm ∧ xU.heap = h0) (fun _ _ _ _ _ => True) (fun _ xU xo xV => ∃ v L, xo = .returned v ∧ own_Q_own_tb2 Z a k v0 v1 h0 n0 v xV.heap L ∧ FrameEnd xU xo xV L ({ frames := 2, cells := 1, slots := 4, locals := 24 } : Room).cells ({ frames := 2, cells := 1, slots := 4, locals := 24 } : Room).slots) := by
  refine MetFree.of_bodySF (plainFor_of_name own_pn730740715) hisR ?_
  intro p e s m args below meth c s₁ Bd hml0 hP hK
  obtain ⟨rfl, hZ, hh⟩ := hP
  have hx := Bd.exec
  have hby := Bd.bytes
  have hlk := Bd.notSynchronized
  have hret := Bd.returns
  have hml : c.maxLocals = 5 := hml0
  have hown : s.vm.findClass "java/lang/StringUTF16" = some m.cls := findClass_of_methodNamed Bd.named
  have hnm := (name_of_methodNamed Bd.named Bd.method).1
  have X0 : Stand p l e ({ frames := 2, cells := 1, slots := 4, locals := 24 } : Room) s m #[(.ref a), (.int (0 : Int32)), (.int (2 : Int32))] below meth c s₁ [] 0 0 := Stand.of_body Bd
  have e0 : s₁.heap = h0 := by rw [← hh, Bd.state]; rfl
  have N0 := Fr.nil n0
  show own_Gl p e below s (own_Q_own_tb2 Z a k v0 v1 h0 n0) ({ frames := 2, cells := 1, slots := 4, locals := 24 } : Room).cells ({ frames := 2, cells := 1, slots := 4, locals := 24 } : Room).slots _
  refine own_cast (own_ef_own_tb2 m a (0 : Int32) (2 : Int32)) ?_
  show own_Gl _ _ _ _ _ _ _ (s₁.setTop (mkF m 0 #[.val (.ref a), .val (.int (0 : Int32)), .val (.int (2 : Int32)), .unset, .unset] []))
  refine own_st (fun _ k => XS.iloadN X0.here hx rfl (hb hby own_d_jdk_52_method_14_code_0) rfl k) ?_
  show own_Gl _ _ _ _ _ _ _ (s₁.setTop (mkF m 1 #[.val (.ref a), .val (.int (0 : Int32)), .val (.int (2 : Int32)), .unset, .unset] [(.int (2 : Int32))]))
  obtain ⟨_, _, ⟨T1, L1, k1, n1⟩, -, X1, ⟨Lc1, hQ1, l1, y1, z1⟩, st1⟩ := Jvm.LawKit.callS X0 hx (y := (⟨"java/lang/StringUTF16", "newBytesFor", "(I)[B"⟩ : MethodName)) hown (mvT hZ (hw _ (List.mem_of_getElem? (i := 132) rfl))) (mvT hZ (hw _ (List.mem_of_getElem? (i := 133) rfl))) (mvT hZ (hw _ (List.mem_of_getElem? (i := 18) rfl))) (mvT hZ (hw _ (List.mem_of_getElem? (i := 134) rfl))) (by decide) (backOf (W := 0) (own_nbf2 l Z a0 hw []  h0 n0 Z0 ) hZ (hw _ (List.mem_of_getElem? (i := 134) rfl)) (hw _ (List.mem_of_getElem? (i := 18) rfl)) (by decide) (by decide)) (g := (mkF m 1 #[.val (.ref a), .val (.int (0 : Int32)), .val (.int (2 : Int32)), .unset, .unset] [(.int (2 : Int32))])) rfl (by rw [hml]; rfl) (argsL := [(.int (2 : Int32))]) (rest := []) (lenOf own_pd944823071 rfl) rfl (by show 2 * 0 + _ ≤ _; exact Nat.le_of_eq rfl) (hb hby own_d_jdk_52_method_14_code_1) (fun _ _ => ⟨rfl, e0, (by decide : 0 + 1 ≤ ({ frames := 2, cells := 1, slots := 4, locals := 24 } : Room).cells), (by decide : 0 + 4 ≤ ({ frames := 2, cells := 1, slots := 4, locals := 24 } : Room).slots)⟩)
  dsimp only [Pt.U, Pt.locs, Pt.cells, Pt.slots] at X1 l1 y1 z1 st1 hQ1
  subst l1 y1 z1
  obtain ⟨hh1, eh01⟩ : ∃ z, T1.heap = z := ⟨_, rfl⟩
  rw [eh01] at hQ1
  obtain ⟨r_1, kr_1, rfl, Nq1, Kq1, P1_0, P1_1, P1_2⟩ := hQ1
  have N1 := Fr.app N0 Nq1
  refine own_st st1 ?_
  have Zs2 : n0 ≤ hh1.size := Nat.le_trans Z0 Kq1.1
  have gh_r_1 : h0.size ≤ r_1 := Nat.le_trans (Keep.refl h0 []).1 P1_1
  have ne_a_r_1 : a ≠ r_1 := Nat.ne_of_lt (Nat.lt_of_lt_of_le V_a.lt P1_1)
  show own_Gl _ _ _ _ _ _ _ (T1.setTop (mkF m 4 #[.val (.ref a), .val (.int (0 : Int32)), .val (.int (2 : Int32)), .unset, .unset] [(.ref r_1)]))
  refine own_st (fun _ k => XS.astoreN X1.here hx rfl (hb hby own_d_jdk_52_method_14_code_4) rfl rfl (l' := #[.val (.ref a), .val (.int (0 : Int32)), .val (.int (2 : Int32)), .val (.ref r_1), .unset]) rfl k) ?_
  show own_Gl _ _ _ _ _ _ _ (T1.setTop (mkF m 5 #[.val (.ref a), .val (.int (0 : Int32)), .val (.int (2 : Int32)), .val (.ref r_1), .unset] []))
  refine own_st (fun _ k => XS.iconst X1.here hx rfl (hb hby own_d_jdk_52_method_14_code_5) k) ?_
  show own_Gl _ _ _ _ _ _ _ (T1.setTop (mkF m 6 #[.val (.ref a), .val (.int (0 : Int32)), .val (.int (2 : Int32)), .val (.ref r_1), .unset] [(.int (0 : Int32))]))
  refine own_st (fun _ k => XS.istore X1.here hx rfl (hb hby own_d_jdk_52_method_14_code_6) rfl (l' := #[.val (.ref a), .val (.int (0 : Int32)), .val (.int (2 : Int32)), .val (.ref r_1), .val (.int (0 : Int32))]) rfl k) ?_
  show own_Gl _ _ _ _ _ _ _ (T1.setTop (mkF m 8 #[.val (.ref a), .val (.int (0 : Int32)), .val (.int (2 : Int32)), .val (.ref r_1), .val (.int (0 : Int32))] []))
  refine own_st (fun _ k => XS.iload X1.here hx rfl (hb hby own_d_jdk_52_method_14_code_8) rfl k) ?_
  show own_Gl _ _ _ _ _ _ _ (T1.setTop (mkF m 10 #[.val (.ref a), .val (.int (0 : Int32)), .val (.int (2 : Int32)), .val (.ref r_1), .val (.int (0 : Int32))] [(.int (0 : Int32))]))
  refine own_st (fun _ k => XS.iloadN X1.here hx rfl (hb hby own_d_jdk_52_method_14_code_10) rfl k) ?_
  show own_Gl _ _ _ _ _ _ _ (T1.setTop (mkF m 11 #[.val (.ref a), .val (.int (0 : Int32)), .val (.int (2 : Int32)), .val (.ref r_1), .val (.int (0 : Int32))] [(.int (2 : Int32)), (.int (0 : Int32))]))
  have hd3 : (0 : Int32) < (2 : Int32) := (by decide)
  refine own_st (fun _ k => XS.icmpNo X1.here hx rfl (hb hby own_d_jdk_52_method_14_code_11) rfl (tlt hd3).2.1 k) ?_
  show own_Gl _ _ _ _ _ _ _ (T1.setTop (mkF m 14 #[.val (.ref a), .val (.int (0 : Int32)), .val (.int (2 : Int32)), .val (.ref r_1), .val (.int (0 : Int32))] []))
  refine own_st (fun _ k => XS.aloadN X1.here hx rfl (hb hby own_d_jdk_52_method_14_code_14) rfl rfl k) ?_
  show own_Gl _ _ _ _ _ _ _ (T1.setTop (mkF m 15 #[.val (.ref a), .val (.int (0 : Int32)), .val (.int (2 : Int32)), .val (.ref r_1), .val (.int (0 : Int32))] [(.ref r_1)]))
  refine own_st (fun _ k => XS.iload X1.here hx rfl (hb hby own_d_jdk_52_method_14_code_15) rfl k) ?_
  show own_Gl _ _ _ _ _ _ _ (T1.setTop (mkF m 17 #[.val (.ref a), .val (.int (0 : Int32)), .val (.int (2 : Int32)), .val (.ref r_1), .val (.int (0 : Int32))] [(.int (0 : Int32)), (.ref r_1)]))
  refine own_st (fun _ k => XS.aloadN X1.here hx rfl (hb hby own_d_jdk_52_method_14_code_17) rfl rfl k) ?_
  show own_Gl _ _ _ _ _ _ _ (T1.setTop (mkF m 18 #[.val (.ref a), .val (.int (0 : Int32)), .val (.int (2 : Int32)), .val (.ref r_1), .val (.int (0 : Int32))] [(.ref a), (.int (0 : Int32)), (.ref r_1)]))
  refine own_st (fun _ k => XS.iloadN X1.here hx rfl (hb hby own_d_jdk_52_method_14_code_18) rfl k) ?_
  show own_Gl _ _ _ _ _ _ _ (T1.setTop (mkF m 19 #[.val (.ref a), .val (.int (0 : Int32)), .val (.int (2 : Int32)), .val (.ref r_1), .val (.int (0 : Int32))] [(.int (0 : Int32)), (.ref a), (.int (0 : Int32)), (.ref r_1)]))
  have f4 := (V_a.keep Kq1 nin0)
  obtain ⟨cl5, Ar5, qq5, Ss5, Nn5, Hh5, Gg5⟩ := id f4
  have hin5 : ¬ ((0 : Int32) < 0 ∨ cl5.slots.size ≤ ((0 : Int32)).toNatClampNeg) := inb_of Ss5 ⟨by decide, by decide⟩
  have hat5 : cl5.slots[((0 : Int32)).toNatClampNeg]? = some (.int v0) := Hh5.at hin5 (rfl)
  refine own_st (X1.caload hx (j := (0 : Int32)) (v := (.int v0)) (by rw [eh01]; exact Ar5.1) (State.isArrayOf_alike hZ.alike Ar5.2.1) Ar5.2.2 hin5 hat5 (g := (mkF m 19 #[.val (.ref a), .val (.int (0 : Int32)), .val (.int (2 : Int32)), .val (.ref r_1), .val (.int (0 : Int32))] [(.int (0 : Int32)), (.ref a), (.int (0 : Int32)), (.ref r_1)])) rfl rfl (hb hby own_d_jdk_52_method_14_code_19)) ?_
  show own_Gl _ _ _ _ _ _ _ (T1.setTop (mkF m 20 #[.val (.ref a), .val (.int (0 : Int32)), .val (.int (2 : Int32)), .val (.ref r_1), .val (.int (0 : Int32))] [(.int v0), (.int (0 : Int32)), (.ref r_1)]))
  have f7 := (Old0.keep Kq1 all0)
  obtain ⟨_, _, ⟨T6, L6, k6, n6⟩, -, X6, ⟨Lc6, hQ6, l6, y6, z6⟩, st6⟩ := Jvm.LawKit.callS X1 hx (y := (⟨"java/lang/StringUTF16", "putChar", "([BII)V"⟩ : MethodName)) hown (mvT hZ (hw _ (List.mem_of_getElem? (i := 139) rfl))) (mvT hZ (hw _ (List.mem_of_getElem? (i := 140) rfl))) (mvT hZ (hw _ (List.mem_of_getElem? (i := 18) rfl))) (mvT hZ (hw _ (List.mem_of_getElem? (i := 141) rfl))) (by decide) (backOf (W := 0) (own_put2_0 l Z a0 hw [] r_1 kr_1 v0 (0 : Int32) (0 : Int32) (0 : Int32) (0 : Int32) hh1 n0 Zs2 f7 S__assertionsDisabled S_HI_BYTE_SHIFT S_LO_BYTE_SHIFT P1_2 P1_0) hZ (hw _ (List.mem_of_getElem? (i := 141) rfl)) (hw _ (List.mem_of_getElem? (i := 18) rfl)) (by decide) (by decide)) (g := (mkF m 20 #[.val (.ref a), .val (.int (0 : Int32)), .val (.int (2 : Int32)), .val (.ref r_1), .val (.int (0 : Int32))] [(.int v0), (.int (0 : Int32)), (.ref r_1)])) rfl (by rw [hml]; rfl) (argsL := [(.ref r_1), (.int (0 : Int32)), (.int v0)]) (rest := []) (lenOf own_pd861693120 rfl) rfl (by show 2 * 0 + _ ≤ _; exact Nat.le_of_eq rfl) (hb hby own_d_jdk_52_method_14_code_20) (fun _ _ => ⟨rfl, eh01, (by decide : 1 + 0 ≤ ({ frames := 2, cells := 1, slots := 4, locals := 24 } : Room).cells), (by decide : 4 + 0 ≤ ({ frames := 2, cells := 1, slots := 4, locals := 24 } : Room).slots)⟩)
  dsimp only [Pt.U, Pt.locs, Pt.cells, Pt.slots] at X6 l6 y6 z6 st6 hQ6
  subst l6 y6 z6
  obtain ⟨hh6, eh06⟩ : ∃ z, T6.heap = z := ⟨_, rfl⟩
  rw [eh06] at hQ6
  obtain ⟨rfl, Nq6, Kq6, P6_0⟩ := hQ6
  have N6 := Fr.app N1 Nq6
  refine own_st st6 ?_
  have Zs8 : n0 ≤ hh6.size := Nat.le_trans Zs2 Kq6.1
  show own_Gl _ _ _ _ _ _ _ (T6.setTop (mkF m 23 #[.val (.ref a), .val (.int (0 : Int32)), .val (.int (2 : Int32)), .val (.ref r_1), .val (.int (0 : Int32))] []))
  refine own_st (fun _ k => XS.iinc X6.here hx rfl (hb hby own_d_jdk_52_method_14_code_23) rfl (l' := #[.val (.ref a), .val (.int (1 : Int32)), .val (.int (2 : Int32)), .val (.ref r_1), .val (.int (0 : Int32))]) rfl k) ?_
  show own_Gl _ _ _ _ _ _ _ (T6.setTop (mkF m 26 #[.val (.ref a), .val (.int (1 : Int32)), .val (.int (2 : Int32)), .val (.ref r_1), .val (.int (0 : Int32))] []))
  refine own_st (fun _ k => XS.iinc X6.here hx rfl (hb hby own_d_jdk_52_method_14_code_26) rfl (l' := #[.val (.ref a), .val (.int (1 : Int32)), .val (.int (2 : Int32)), .val (.ref r_1), .val (.int (1 : Int32))]) rfl k) ?_
  show own_Gl _ _ _ _ _ _ _ (T6.setTop (mkF m 29 #[.val (.ref a), .val (.int (1 : Int32)), .val (.int (2 : Int32)), .val (.ref r_1), .val (.int (1 : Int32))] []))
  refine own_st (fun _ k => XS.goto X6.here hx rfl (pc0 := 29) (pc' := 8) rfl (hb hby own_d_jdk_52_method_14_code_29) (by decide) (by decide) k) ?_
  show own_Gl _ _ _ _ _ _ _ (T6.setTop (mkF m 8 #[.val (.ref a), .val (.int (1 : Int32)), .val (.int (2 : Int32)), .val (.ref r_1), .val (.int (1 : Int32))] []))
  refine own_st (fun _ k => XS.iload X6.here hx rfl (hb hby own_d_jdk_52_method_14_code_8) rfl k) ?_
  show own_Gl _ _ _ _ _ _ _ (T6.setTop (mkF m 10 #[.val (.ref a), .val (.int (1 : Int32)), .val (.int (2 : Int32)), .val (.ref r_1), .val (.int (1 : Int32))] [(.int (1 : Int32))]))
  refine own_st (fun _ k => XS.iloadN X6.here hx rfl (hb hby own_d_jdk_52_method_14_code_10) rfl k) ?_
  show own_Gl _ _ _ _ _ _ _ (T6.setTop (mkF m 11 #[.val (.ref a), .val (.int (1 : Int32)), .val (.int (2 : Int32)), .val (.ref r_1), .val (.int (1 : Int32))] [(.int (2 : Int32)), (.int (1 : Int32))]))
  have hd9 : (1 : Int32) < (2 : Int32) := (by decide)
  refine own_st (fun _ k => XS.icmpNo X6.here hx rfl (hb hby own_d_jdk_52_method_14_code_11) rfl (tlt hd9).2.1 k) ?_
  show own_Gl _ _ _ _ _ _ _ (T6.setTop (mkF m 14 #[.val (.ref a), .val (.int (1 : Int32)), .val (.int (2 : Int32)), .val (.ref r_1), .val (.int (1 : Int32))] []))
  refine own_st (fun _ k => XS.aloadN X6.here hx rfl (hb hby own_d_jdk_52_method_14_code_14) rfl rfl k) ?_
  show own_Gl _ _ _ _ _ _ _ (T6.setTop (mkF m 15 #[.val (.ref a), .val (.int (1 : Int32)), .val (.int (2 : Int32)), .val (.ref r_1), .val (.int (1 : Int32))] [(.ref r_1)]))
  refine own_st (fun _ k => XS.iload X6.here hx rfl (hb hby own_d_jdk_52_method_14_code_15) rfl k) ?_
  show own_Gl _ _ _ _ _ _ _ (T6.setTop (mkF m 17 #[.val (.ref a), .val (.int (1 : Int32)), .val (.int (2 : Int32)), .val (.ref r_1), .val (.int (1 : Int32))] [(.int (1 : Int32)), (.ref r_1)]))
  refine own_st (fun _ k => XS.aloadN X6.here hx rfl (hb hby own_d_jdk_52_method_14_code_17) rfl rfl k) ?_
  show own_Gl _ _ _ _ _ _ _ (T6.setTop (mkF m 18 #[.val (.ref a), .val (.int (1 : Int32)), .val (.int (2 : Int32)), .val (.ref r_1), .val (.int (1 : Int32))] [(.ref a), (.int (1 : Int32)), (.ref r_1)]))
  refine own_st (fun _ k => XS.iloadN X6.here hx rfl (hb hby own_d_jdk_52_method_14_code_18) rfl k) ?_
  show own_Gl _ _ _ _ _ _ _ (T6.setTop (mkF m 19 #[.val (.ref a), .val (.int (1 : Int32)), .val (.int (2 : Int32)), .val (.ref r_1), .val (.int (1 : Int32))] [(.int (1 : Int32)), (.ref a), (.int (1 : Int32)), (.ref r_1)]))
  have f10 := (f4.keep Kq6 (ninS ne_a_r_1 nin0))
  obtain ⟨cl11, Ar11, qq11, Ss11, Nn11, Hh11, Gg11⟩ := id f10
  have hin11 : ¬ ((1 : Int32) < 0 ∨ cl11.slots.size ≤ ((1 : Int32)).toNatClampNeg) := inb_of Ss11 ⟨by decide, by decide⟩
  have hat11 : cl11.slots[((1 : Int32)).toNatClampNeg]? = some (.int v1) := Hh11.at hin11 (rfl)
  refine own_st (X6.caload hx (j := (1 : Int32)) (v := (.int v1)) (by rw [eh06]; exact Ar11.1) (State.isArrayOf_alike hZ.alike Ar11.2.1) Ar11.2.2 hin11 hat11 (g := (mkF m 19 #[.val (.ref a), .val (.int (1 : Int32)), .val (.int (2 : Int32)), .val (.ref r_1), .val (.int (1 : Int32))] [(.int (1 : Int32)), (.ref a), (.int (1 : Int32)), (.ref r_1)])) rfl rfl (hb hby own_d_jdk_52_method_14_code_19)) ?_
  show own_Gl _ _ _ _ _ _ _ (T6.setTop (mkF m 20 #[.val (.ref a), .val (.int (1 : Int32)), .val (.int (2 : Int32)), .val (.ref r_1), .val (.int (1 : Int32))] [(.int v1), (.int (1 : Int32)), (.ref r_1)]))
  have f13 := (f7.keep Kq6 (allS P1_0 all0))
  obtain ⟨_, _, ⟨T12, L12, k12, n12⟩, -, X12, ⟨Lc12, hQ12, l12, y12, z12⟩, st12⟩ := Jvm.LawKit.callS X6 hx (y := (⟨"java/lang/StringUTF16", "putChar", "([BII)V"⟩ : MethodName)) hown (mvT hZ (hw _ (List.mem_of_getElem? (i := 139) rfl))) (mvT hZ (hw _ (List.mem_of_getElem? (i := 140) rfl))) (mvT hZ (hw _ (List.mem_of_getElem? (i := 18) rfl))) (mvT hZ (hw _ (List.mem_of_getElem? (i := 141) rfl))) (by decide) (backOf (W := 0) (own_put2_1 l Z a0 hw [] r_1 kr_1 v1 (nar .byte ((v0 >>> ((0 : Int32) &&& 31)).toInt8.toInt32)) (nar .byte ((v0 >>> ((8 : Int32) &&& 31)).toInt8.toInt32)) (0 : Int32) (0 : Int32) hh6 n0 Zs8 f13 S__assertionsDisabled S_HI_BYTE_SHIFT S_LO_BYTE_SHIFT P6_0 P1_0) hZ (hw _ (List.mem_of_getElem? (i := 141) rfl)) (hw _ (List.mem_of_getElem? (i := 18) rfl)) (by decide) (by decide)) (g := (mkF m 20 #[.val (.ref a), .val (.int (1 : Int32)), .val (.int (2 : Int32)), .val (.ref r_1), .val (.int (1 : Int32))] [(.int v1), (.int (1 : Int32)), (.ref r_1)])) rfl (by rw [hml]; rfl) (argsL := [(.ref r_1), (.int (1 : Int32)), (.int v1)]) (rest := []) (lenOf own_pd861693120 rfl) rfl (by show 2 * 0 + _ ≤ _; exact Nat.le_of_eq rfl) (hb hby own_d_jdk_52_method_14_code_20) (fun _ _ => ⟨rfl, eh06, (by decide : 1 + 0 ≤ ({ frames := 2, cells := 1, slots := 4, locals := 24 } : Room).cells), (by decide : 4 + 0 ≤ ({ frames := 2, cells := 1, slots := 4, locals := 24 } : Room).slots)⟩)
  dsimp only [Pt.U, Pt.locs, Pt.cells, Pt.slots] at X12 l12 y12 z12 st12 hQ12
  subst l12 y12 z12
  obtain ⟨hh12, eh012⟩ : ∃ z, T12.heap = z := ⟨_, rfl⟩
  rw [eh012] at hQ12
  obtain ⟨rfl, Nq12, Kq12, P12_0⟩ := hQ12
  have N12 := Fr.app N6 Nq12
  refine own_st st12 ?_
  have Zs14 : n0 ≤ hh12.size := Nat.le_trans Zs8 Kq12.1
  show own_Gl _ _ _ _ _ _ _ (T12.setTop (mkF m 23 #[.val (.ref a), .val (.int (1 : Int32)), .val (.int (2 : Int32)), .val (.ref r_1), .val (.int (1 : Int32))] []))
  refine own_st (fun _ k => XS.iinc X12.here hx rfl (hb hby own_d_jdk_52_method_14_code_23) rfl (l' := #[.val (.ref a), .val (.int (2 : Int32)), .val (.int (2 : Int32)), .val (.ref r_1), .val (.int (1 : Int32))]) rfl k) ?_
  show own_Gl _ _ _ _ _ _ _ (T12.setTop (mkF m 26 #[.val (.ref a), .val (.int (2 : Int32)), .val (.int (2 : Int32)), .val (.ref r_1), .val (.int (1 : Int32))] []))
  refine own_st (fun _ k => XS.iinc X12.here hx rfl (hb hby own_d_jdk_52_method_14_code_26) rfl (l' := #[.val (.ref a), .val (.int (2 : Int32)), .val (.int (2 : Int32)), .val (.ref r_1), .val (.int (2 : Int32))]) rfl k) ?_
  show own_Gl _ _ _ _ _ _ _ (T12.setTop (mkF m 29 #[.val (.ref a), .val (.int (2 : Int32)), .val (.int (2 : Int32)), .val (.ref r_1), .val (.int (2 : Int32))] []))
  refine own_st (fun _ k => XS.goto X12.here hx rfl (pc0 := 29) (pc' := 8) rfl (hb hby own_d_jdk_52_method_14_code_29) (by decide) (by decide) k) ?_
  show own_Gl _ _ _ _ _ _ _ (T12.setTop (mkF m 8 #[.val (.ref a), .val (.int (2 : Int32)), .val (.int (2 : Int32)), .val (.ref r_1), .val (.int (2 : Int32))] []))
  refine own_st (fun _ k => XS.iload X12.here hx rfl (hb hby own_d_jdk_52_method_14_code_8) rfl k) ?_
  show own_Gl _ _ _ _ _ _ _ (T12.setTop (mkF m 10 #[.val (.ref a), .val (.int (2 : Int32)), .val (.int (2 : Int32)), .val (.ref r_1), .val (.int (2 : Int32))] [(.int (2 : Int32))]))
  refine own_st (fun _ k => XS.iloadN X12.here hx rfl (hb hby own_d_jdk_52_method_14_code_10) rfl k) ?_
  show own_Gl _ _ _ _ _ _ _ (T12.setTop (mkF m 11 #[.val (.ref a), .val (.int (2 : Int32)), .val (.int (2 : Int32)), .val (.ref r_1), .val (.int (2 : Int32))] [(.int (2 : Int32)), (.int (2 : Int32))]))
  have hd15 : ¬ ((2 : Int32) < (2 : Int32)) := (by decide)
  refine own_st (fun _ k => XS.icmpYes X12.here hx rfl (pc0 := 11) (pc' := 32) rfl (hb hby own_d_jdk_52_method_14_code_11) rfl (flt hd15).2.1 (by decide) (by decide) k) ?_
  show own_Gl _ _ _ _ _ _ _ (T12.setTop (mkF m 32 #[.val (.ref a), .val (.int (2 : Int32)), .val (.int (2 : Int32)), .val (.ref r_1), .val (.int (2 : Int32))] []))
  refine own_st (fun _ k => XS.aloadN X12.here hx rfl (hb hby own_d_jdk_52_method_14_code_32) rfl rfl k) ?_
  show own_Gl _ _ _ _ _ _ _ (T12.setTop (mkF m 33 #[.val (.ref a), .val (.int (2 : Int32)), .val (.int (2 : Int32)), .val (.ref r_1), .val (.int (2 : Int32))] [(.ref r_1)]))
  have K16 : Keep h0 hh12 [] := ((((Keep.refl h0 []).trans Kq1 all0).trans Kq6 (allS (Or.inr gh_r_1) all0)).trans Kq12 (allS (Or.inr gh_r_1) all0))
  exact own_retA X12 hx hlk hret rfl rfl rfl (hb hby own_d_jdk_52_method_14_code_33) eh012 ⟨r_1, kr_1, rfl, N12, K16, P1_0, gh_r_1, P12_0⟩ (by decide) (by decide)
theorem own_d_jdk_52_method_5_code_0 : decode jdk_52_method_5_code 0 = .ok (.getstatic 44, 3) := by decide +kernel
theorem own_d_jdk_52_method_5_code_3 : decode jdk_52_method_5_code 3 = .ok (.ifCond .ne 25, 3) := by decide +kernel
theorem own_d_jdk_52_method_5_code_28 : decode jdk_52_method_5_code 28 = .ok (.iload_n 1, 1) := by decide +kernel
theorem own_d_jdk_52_method_5_code_29 : decode jdk_52_method_5_code 29 = .ok (.iconst 1, 1) := by decide +kernel
theorem own_d_jdk_52_method_5_code_30 : decode jdk_52_method_5_code 30 = .ok (.ishl, 1) := by decide +kernel
theorem own_d_jdk_52_method_5_code_31 : decode jdk_52_method_5_code 31 = .ok (.istore_n 1, 1) := by decide +kernel
theorem own_d_jdk_52_method_5_code_32 : decode jdk_52_method_5_code 32 = .ok (.aload_n 0, 1) := by decide +kernel
theorem own_d_jdk_52_method_5_code_33 : decode jdk_52_method_5_code 33 = .ok (.iload_n 1, 1) := by decide +kernel
theorem own_d_jdk_52_method_5_code_34 : decode jdk_52_method_5_code 34 = .ok (.iinc 1 1, 3) := by decide +kernel
theorem own_d_jdk_52_method_5_code_37 : decode jdk_52_method_5_code 37 = .ok (.baload, 1) := by decide +kernel
theorem own_d_jdk_52_method_5_code_38 : decode jdk_52_method_5_code 38 = .ok (.sipush 255, 3) := by decide +kernel
theorem own_d_jdk_52_method_5_code_41 : decode jdk_52_method_5_code 41 = .ok (.iand, 1) := by decide +kernel
theorem own_d_jdk_52_method_5_code_42 : decode jdk_52_method_5_code 42 = .ok (.getstatic 59, 3) := by decide +kernel
theorem own_d_jdk_52_method_5_code_45 : decode jdk_52_method_5_code 45 = .ok (.ishl, 1) := by decide +kernel
theorem own_d_jdk_52_method_5_code_46 : decode jdk_52_method_5_code 46 = .ok (.aload_n 0, 1) := by decide +kernel
theorem own_d_jdk_52_method_5_code_47 : decode jdk_52_method_5_code 47 = .ok (.iload_n 1, 1) := by decide +kernel
theorem own_d_jdk_52_method_5_code_48 : decode jdk_52_method_5_code 48 = .ok (.baload, 1) := by decide +kernel
theorem own_d_jdk_52_method_5_code_49 : decode jdk_52_method_5_code 49 = .ok (.sipush 255, 3) := by decide +kernel
theorem own_d_jdk_52_method_5_code_52 : decode jdk_52_method_5_code 52 = .ok (.iand, 1) := by decide +kernel
theorem own_d_jdk_52_method_5_code_53 : decode jdk_52_method_5_code 53 = .ok (.getstatic 63, 3) := by decide +kernel
theorem own_d_jdk_52_method_5_code_56 : decode jdk_52_method_5_code 56 = .ok (.ishl, 1) := by decide +kernel
theorem own_d_jdk_52_method_5_code_57 : decode jdk_52_method_5_code 57 = .ok (.ior, 1) := by decide +kernel
theorem own_d_jdk_52_method_5_code_58 : decode jdk_52_method_5_code 58 = .ok (.i2c, 1) := by decide +kernel
theorem own_d_jdk_52_method_5_code_59 : decode jdk_52_method_5_code 59 = .ok (.ireturn, 1) := by decide +kernel
theorem own_ef_own_get2_0 (m : MethodId) (x0 : Addr) (x1 : Int32) : entryFrame m #[(.ref x0), (.int x1)] 2 = mkF m 0 #[.val (.ref x0), .val (.int x1)] [] := by first | (simp [entryFrame, mkF, argsToLocals, Value.category]; done) | rfl
def own_Q_own_get2_0 (Z : State) (a : Addr) (k : ClassId) (v0 : Int32) (v1 : Int32) (h0 : Heap) (n0 : Nat) (v : Option Value) (h : Heap) (L : List Loc) : Prop := (v = some (.int v0)) ∧ (Fr n0 L) ∧ (h = h0)
set_option maxRecDepth 65536 in
set_option maxHeartbeats 40000000 in
theorem own_get2_0 (l : Launch) (Z : State) (a0 : Array Value) (hw : ∀ d ∈ tables_1, d.before a0 Z = true) (ws : List Jvm.Cond) (a : Addr) (k : ClassId) (v0 : Int32) (v1 : Int32) (h0 : Heap) (n0 : Nat) (Z0 : n0 ≤ h0.size) (Old0 : Old Z n0 h0) (S__assertionsDisabled : Sta Z Z.heap "java/lang/StringUTF16" "$assertionsDisabled" "Z" (.int (1 : Int32))) (S_HI_BYTE_SHIFT : Sta Z Z.heap "java/lang/StringUTF16" "HI_BYTE_SHIFT" "I" (.int (0 : Int32))) (S_LO_BYTE_SHIFT : Sta Z Z.heap "java/lang/StringUTF16" "LO_BYTE_SHIFT" "I" (.int (8 : Int32))) (V_a : Arv Z h0 a k .byte (4 : Int32) [(.int (nar .byte ((v0 >>> ((0 : Int32) &&& 31)).toInt8.toInt32))), (.int (nar .byte ((v0 >>> ((8 : Int32) &&& 31)).toInt8.toInt32))), (.int (nar .byte ((v1 >>> ((0 : Int32) &&& 31)).toInt8.toInt32))), (.int (nar .byte ((v1 >>> ((8 : Int32) &&& 31)).toInt8.toInt32)))] (.int (0 : Int32))) (hr0 : ¬ v0 < (0 : Int32) ∧ ¬ (65535 : Int32) < v0) :
    MetFree l (⟨"java/lang/StringUTF16", "getChar", "([BI)C"⟩ : MethodName) (head1 (Jvm.Cond.code (⟨"java/lang/StringUTF16", "getChar", "([BI)C"⟩ : MethodName) jdk_52_method_5_code 2 (some .char) :: ws) ({ frames := 0, cells := 0, slots := 0, locals := 0 } : Room)) (fun xa xU => xa = #[(.ref a), (.int (0 : Int32))] ∧ Z.Warmed39 xU.vm ∧ xU.heap = h0) (fun _ _ _ _ _ => True) (fun _ xU xo xV => ∃ v L, xo = .returned v ∧ own_Q_own_get2_0 Z a k v0 v1 h0 n0 v xV.heap L ∧ FrameEnd xU xo xV L ({ frames := 0, cells := 0, slots := 0, locals := 0 } : Room).cells ({ frames := 0, cells := 0, slots := 0, locals := 0 } : Room).slots) := by
  refine MetFree.of_bodySF (plainFor_of_name own_pn730740715) hisR ?_
  intro p e s m args below meth c s₁ Bd hml0 hP hK
  obtain ⟨rfl, hZ, hh⟩ := hP
  have hx := Bd.exec
  have hby := Bd.bytes
  have hlk := Bd.notSynchronized
  have hret := Bd.returns
  have hml : c.maxLocals = 2 := hml0
  have hown : s.vm.findClass "java/lang/StringUTF16" = some m.cls := findClass_of_methodNamed Bd.named
  have hnm := (name_of_methodNamed Bd.named Bd.method).1
  have X0 : Stand p l e ({ frames := 0, cells := 0, slots := 0, locals := 0 } : Room) s m #[(.ref a), (.int (0 : Int32))] below meth c s₁ [] 0 0 := Stand.of_body Bd
  have e0 : s₁.heap = h0 := by rw [← hh, Bd.state]; rfl
  have N0 := Fr.nil n0
  show own_Gl p e below s (own_Q_own_get2_0 Z a k v0 v1 h0 n0) ({ frames := 0, cells := 0, slots := 0, locals := 0 } : Room).cells ({ frames := 0, cells := 0, slots := 0, locals := 0 } : Room).slots _
  refine own_cast (own_ef_own_get2_0 m a (0 : Int32)) ?_
  show own_Gl _ _ _ _ _ _ _ (s₁.setTop (mkF m 0 #[.val (.ref a), .val (.int (0 : Int32))] []))
  obtain ⟨T1, X1, e1, st1⟩ := getS2 X0 hx hZ hown (host := "") (Or.inl (hw _ (List.mem_of_getElem? (i := 142) rfl))) Via.refl e0 (S__assertionsDisabled.ext Old0.2) (g := (mkF m 0 #[.val (.ref a), .val (.int (0 : Int32))] [])) rfl (hb hby own_d_jdk_52_method_5_code_0)
  refine own_st st1 ?_
  show own_Gl _ _ _ _ _ _ _ (T1.setTop (mkF m 3 #[.val (.ref a), .val (.int (0 : Int32))] [(.int (1 : Int32))]))
  have hd2 : ¬ ((1 : Int32) = (0 : Int32)) := (by decide)
  refine own_st (fun _ k => XS.ifYes X1.here hx rfl (pc0 := 3) (pc' := 28) rfl (hb hby own_d_jdk_52_method_5_code_3) rfl ((if0 _ _).trans (feq hd2).2) (by decide) (by decide) k) ?_
  show own_Gl _ _ _ _ _ _ _ (T1.setTop (mkF m 28 #[.val (.ref a), .val (.int (0 : Int32))] []))
  refine own_st (fun _ k => XS.iloadN X1.here hx rfl (hb hby own_d_jdk_52_method_5_code_28) rfl k) ?_
  show own_Gl _ _ _ _ _ _ _ (T1.setTop (mkF m 29 #[.val (.ref a), .val (.int (0 : Int32))] [(.int (0 : Int32))]))
  refine own_st (fun _ k => XS.iconst X1.here hx rfl (hb hby own_d_jdk_52_method_5_code_29) k) ?_
  show own_Gl _ _ _ _ _ _ _ (T1.setTop (mkF m 30 #[.val (.ref a), .val (.int (0 : Int32))] [(.int (1 : Int32)), (.int (0 : Int32))]))
  refine own_st (fun _ k => XS.ishl X1.here hx rfl (hb hby own_d_jdk_52_method_5_code_30) rfl k) ?_
  show own_Gl _ _ _ _ _ _ _ (T1.setTop (mkF m 31 #[.val (.ref a), .val (.int (0 : Int32))] [(.int ((0 : Int32) <<< ((1 : Int32) &&& 31)))]))
  refine own_st (fun _ k => XS.istoreN X1.here hx rfl (hb hby own_d_jdk_52_method_5_code_31) rfl (l' := #[.val (.ref a), .val (.int ((0 : Int32) <<< ((1 : Int32) &&& 31)))]) rfl k) ?_
  show own_Gl _ _ _ _ _ _ _ (T1.setTop (mkF m 32 #[.val (.ref a), .val (.int ((0 : Int32) <<< ((1 : Int32) &&& 31)))] []))
  show own_Gl _ _ _ _ _ _ _ (T1.setTop (mkF m 32 #[.val (.ref a), .val (.int (0 : Int32))] []))
  refine own_st (fun _ k => XS.aloadN X1.here hx rfl (hb hby own_d_jdk_52_method_5_code_32) rfl rfl k) ?_
  show own_Gl _ _ _ _ _ _ _ (T1.setTop (mkF m 33 #[.val (.ref a), .val (.int (0 : Int32))] [(.ref a)]))
  refine own_st (fun _ k => XS.iloadN X1.here hx rfl (hb hby own_d_jdk_52_method_5_code_33) rfl k) ?_
  show own_Gl _ _ _ _ _ _ _ (T1.setTop (mkF m 34 #[.val (.ref a), .val (.int (0 : Int32))] [(.int (0 : Int32)), (.ref a)]))
  refine own_st (fun _ k => XS.iinc X1.here hx rfl (hb hby own_d_jdk_52_method_5_code_34) rfl (l' := #[.val (.ref a), .val (.int (1 : Int32))]) rfl k) ?_
  show own_Gl _ _ _ _ _ _ _ (T1.setTop (mkF m 37 #[.val (.ref a), .val (.int (1 : Int32))] [(.int (0 : Int32)), (.ref a)]))
  obtain ⟨cl3, Ar3, qq3, Ss3, Nn3, Hh3, Gg3⟩ := id V_a
  have hin3 : ¬ ((0 : Int32) < 0 ∨ cl3.slots.size ≤ ((0 : Int32)).toNatClampNeg) := inb_of Ss3 ⟨by decide, by decide⟩
  have hat3 : cl3.slots[((0 : Int32)).toNatClampNeg]? = some (.int (nar .byte ((v0 >>> ((0 : Int32) &&& 31)).toInt8.toInt32))) := Hh3.at hin3 (rfl)
  refine own_st (X1.baloadBytes hx (j := (0 : Int32)) (v := (.int (nar .byte ((v0 >>> ((0 : Int32) &&& 31)).toInt8.toInt32)))) (by rw [e1]; exact Ar3.1) (State.isArrayOf_alike hZ.alike Ar3.2.1) Ar3.2.2 hin3 hat3 (g := (mkF m 37 #[.val (.ref a), .val (.int (1 : Int32))] [(.int (0 : Int32)), (.ref a)])) rfl rfl (hb hby own_d_jdk_52_method_5_code_37)) ?_
  show own_Gl _ _ _ _ _ _ _ (T1.setTop (mkF m 38 #[.val (.ref a), .val (.int (1 : Int32))] [(.int (nar .byte ((v0 >>> ((0 : Int32) &&& 31)).toInt8.toInt32)))]))
  refine own_st (fun _ k => XS.sipush X1.here hx rfl (hb hby own_d_jdk_52_method_5_code_38) k) ?_
  show own_Gl _ _ _ _ _ _ _ (T1.setTop (mkF m 41 #[.val (.ref a), .val (.int (1 : Int32))] [(.int (255 : Int32)), (.int (nar .byte ((v0 >>> ((0 : Int32) &&& 31)).toInt8.toInt32)))]))
  refine own_st (fun _ k => XS.iand X1.here hx rfl (hb hby own_d_jdk_52_method_5_code_41) rfl k) ?_
  show own_Gl _ _ _ _ _ _ _ (T1.setTop (mkF m 42 #[.val (.ref a), .val (.int (1 : Int32))] [(.int ((nar .byte ((v0 >>> ((0 : Int32) &&& 31)).toInt8.toInt32)) &&& (255 : Int32)))]))
  obtain ⟨T4, X4, e4, st4⟩ := getS2 X1 hx hZ hown (host := "") (Or.inl (hw _ (List.mem_of_getElem? (i := 143) rfl))) Via.refl e1 (S_HI_BYTE_SHIFT.ext Old0.2) (g := (mkF m 42 #[.val (.ref a), .val (.int (1 : Int32))] [(.int ((nar .byte ((v0 >>> ((0 : Int32) &&& 31)).toInt8.toInt32)) &&& (255 : Int32)))])) rfl (hb hby own_d_jdk_52_method_5_code_42)
  refine own_st st4 ?_
  show own_Gl _ _ _ _ _ _ _ (T4.setTop (mkF m 45 #[.val (.ref a), .val (.int (1 : Int32))] [(.int (0 : Int32)), (.int ((nar .byte ((v0 >>> ((0 : Int32) &&& 31)).toInt8.toInt32)) &&& (255 : Int32)))]))
  refine own_st (fun _ k => XS.ishl X4.here hx rfl (hb hby own_d_jdk_52_method_5_code_45) rfl k) ?_
  show own_Gl _ _ _ _ _ _ _ (T4.setTop (mkF m 46 #[.val (.ref a), .val (.int (1 : Int32))] [(.int (((nar .byte ((v0 >>> ((0 : Int32) &&& 31)).toInt8.toInt32)) &&& (255 : Int32)) <<< ((0 : Int32) &&& 31)))]))
  refine own_st (fun _ k => XS.aloadN X4.here hx rfl (hb hby own_d_jdk_52_method_5_code_46) rfl rfl k) ?_
  show own_Gl _ _ _ _ _ _ _ (T4.setTop (mkF m 47 #[.val (.ref a), .val (.int (1 : Int32))] [(.ref a), (.int (((nar .byte ((v0 >>> ((0 : Int32) &&& 31)).toInt8.toInt32)) &&& (255 : Int32)) <<< ((0 : Int32) &&& 31)))]))
  refine own_st (fun _ k => XS.iloadN X4.here hx rfl (hb hby own_d_jdk_52_method_5_code_47) rfl k) ?_
  show own_Gl _ _ _ _ _ _ _ (T4.setTop (mkF m 48 #[.val (.ref a), .val (.int (1 : Int32))] [(.int (1 : Int32)), (.ref a), (.int (((nar .byte ((v0 >>> ((0 : Int32) &&& 31)).toInt8.toInt32)) &&& (255 : Int32)) <<< ((0 : Int32) &&& 31)))]))
  obtain ⟨cl5, Ar5, qq5, Ss5, Nn5, Hh5, Gg5⟩ := id V_a
  have hin5 : ¬ ((1 : Int32) < 0 ∨ cl5.slots.size ≤ ((1 : Int32)).toNatClampNeg) := inb_of Ss5 ⟨by decide, by decide⟩
  have hat5 : cl5.slots[((1 : Int32)).toNatClampNeg]? = some (.int (nar .byte ((v0 >>> ((8 : Int32) &&& 31)).toInt8.toInt32))) := Hh5.at hin5 (rfl)
  refine own_st (X4.baloadBytes hx (j := (1 : Int32)) (v := (.int (nar .byte ((v0 >>> ((8 : Int32) &&& 31)).toInt8.toInt32)))) (by rw [e4]; exact Ar5.1) (State.isArrayOf_alike hZ.alike Ar5.2.1) Ar5.2.2 hin5 hat5 (g := (mkF m 48 #[.val (.ref a), .val (.int (1 : Int32))] [(.int (1 : Int32)), (.ref a), (.int (((nar .byte ((v0 >>> ((0 : Int32) &&& 31)).toInt8.toInt32)) &&& (255 : Int32)) <<< ((0 : Int32) &&& 31)))])) rfl rfl (hb hby own_d_jdk_52_method_5_code_48)) ?_
  show own_Gl _ _ _ _ _ _ _ (T4.setTop (mkF m 49 #[.val (.ref a), .val (.int (1 : Int32))] [(.int (nar .byte ((v0 >>> ((8 : Int32) &&& 31)).toInt8.toInt32))), (.int (((nar .byte ((v0 >>> ((0 : Int32) &&& 31)).toInt8.toInt32)) &&& (255 : Int32)) <<< ((0 : Int32) &&& 31)))]))
  refine own_st (fun _ k => XS.sipush X4.here hx rfl (hb hby own_d_jdk_52_method_5_code_49) k) ?_
  show own_Gl _ _ _ _ _ _ _ (T4.setTop (mkF m 52 #[.val (.ref a), .val (.int (1 : Int32))] [(.int (255 : Int32)), (.int (nar .byte ((v0 >>> ((8 : Int32) &&& 31)).toInt8.toInt32))), (.int (((nar .byte ((v0 >>> ((0 : Int32) &&& 31)).toInt8.toInt32)) &&& (255 : Int32)) <<< ((0 : Int32) &&& 31)))]))
  refine own_st (fun _ k => XS.iand X4.here hx rfl (hb hby own_d_jdk_52_method_5_code_52) rfl k) ?_
  show own_Gl _ _ _ _ _ _ _ (T4.setTop (mkF m 53 #[.val (.ref a), .val (.int (1 : Int32))] [(.int ((nar .byte ((v0 >>> ((8 : Int32) &&& 31)).toInt8.toInt32)) &&& (255 : Int32))), (.int (((nar .byte ((v0 >>> ((0 : Int32) &&& 31)).toInt8.toInt32)) &&& (255 : Int32)) <<< ((0 : Int32) &&& 31)))]))
  obtain ⟨T6, X6, e6, st6⟩ := getS2 X4 hx hZ hown (host := "") (Or.inl (hw _ (List.mem_of_getElem? (i := 144) rfl))) Via.refl e4 (S_LO_BYTE_SHIFT.ext Old0.2) (g := (mkF m 53 #[.val (.ref a), .val (.int (1 : Int32))] [(.int ((nar .byte ((v0 >>> ((8 : Int32) &&& 31)).toInt8.toInt32)) &&& (255 : Int32))), (.int (((nar .byte ((v0 >>> ((0 : Int32) &&& 31)).toInt8.toInt32)) &&& (255 : Int32)) <<< ((0 : Int32) &&& 31)))])) rfl (hb hby own_d_jdk_52_method_5_code_53)
  refine own_st st6 ?_
  show own_Gl _ _ _ _ _ _ _ (T6.setTop (mkF m 56 #[.val (.ref a), .val (.int (1 : Int32))] [(.int (8 : Int32)), (.int ((nar .byte ((v0 >>> ((8 : Int32) &&& 31)).toInt8.toInt32)) &&& (255 : Int32))), (.int (((nar .byte ((v0 >>> ((0 : Int32) &&& 31)).toInt8.toInt32)) &&& (255 : Int32)) <<< ((0 : Int32) &&& 31)))]))
  refine own_st (fun _ k => XS.ishl X6.here hx rfl (hb hby own_d_jdk_52_method_5_code_56) rfl k) ?_
  show own_Gl _ _ _ _ _ _ _ (T6.setTop (mkF m 57 #[.val (.ref a), .val (.int (1 : Int32))] [(.int (((nar .byte ((v0 >>> ((8 : Int32) &&& 31)).toInt8.toInt32)) &&& (255 : Int32)) <<< ((8 : Int32) &&& 31))), (.int (((nar .byte ((v0 >>> ((0 : Int32) &&& 31)).toInt8.toInt32)) &&& (255 : Int32)) <<< ((0 : Int32) &&& 31)))]))
  refine own_st (fun _ k => XS.ior X6.here hx rfl (hb hby own_d_jdk_52_method_5_code_57) rfl k) ?_
  show own_Gl _ _ _ _ _ _ _ (T6.setTop (mkF m 58 #[.val (.ref a), .val (.int (1 : Int32))] [(.int ((((nar .byte ((v0 >>> ((0 : Int32) &&& 31)).toInt8.toInt32)) &&& (255 : Int32)) <<< ((0 : Int32) &&& 31)) ||| (((nar .byte ((v0 >>> ((8 : Int32) &&& 31)).toInt8.toInt32)) &&& (255 : Int32)) <<< ((8 : Int32) &&& 31))))]))
  refine own_st (fun _ k => XS.i2c X6.here hx rfl (hb hby own_d_jdk_52_method_5_code_58) rfl k) ?_
  show own_Gl _ _ _ _ _ _ _ (T6.setTop (mkF m 59 #[.val (.ref a), .val (.int (1 : Int32))] [(.int (((((nar .byte ((v0 >>> ((0 : Int32) &&& 31)).toInt8.toInt32)) &&& (255 : Int32)) <<< ((0 : Int32) &&& 31)) ||| (((nar .byte ((v0 >>> ((8 : Int32) &&& 31)).toInt8.toInt32)) &&& (255 : Int32)) <<< ((8 : Int32) &&& 31))).toUInt32.toUInt16.toUInt32.toInt32))]))
  exact own_retN X6 hx hlk (t := .char) hret (by simp) (hb hby own_d_jdk_52_method_5_code_59) e6 ⟨by rw [own_gch _ hr0.1 hr0.2, own_nc _ hr0], N0, rfl⟩ (by decide) (by decide)
theorem own_ef_own_get2_1 (m : MethodId) (x0 : Addr) (x1 : Int32) : entryFrame m #[(.ref x0), (.int x1)] 2 = mkF m 0 #[.val (.ref x0), .val (.int x1)] [] := by first | (simp [entryFrame, mkF, argsToLocals, Value.category]; done) | rfl
def own_Q_own_get2_1 (Z : State) (a : Addr) (k : ClassId) (v0 : Int32) (v1 : Int32) (h0 : Heap) (n0 : Nat) (v : Option Value) (h : Heap) (L : List Loc) : Prop := (v = some (.int v1)) ∧ (Fr n0 L) ∧ (h = h0)
set_option maxRecDepth 65536 in
set_option maxHeartbeats 40000000 in
theorem own_get2_1 (l : Launch) (Z : State) (a0 : Array Value) (hw : ∀ d ∈ tables_1, d.before a0 Z = true) (ws : List Jvm.Cond) (a : Addr) (k : ClassId) (v0 : Int32) (v1 : Int32) (h0 : Heap) (n0 : Nat) (Z0 : n0 ≤ h0.size) (Old0 : Old Z n0 h0) (S__assertionsDisabled : Sta Z Z.heap "java/lang/StringUTF16" "$assertionsDisabled" "Z" (.int (1 : Int32))) (S_HI_BYTE_SHIFT : Sta Z Z.heap "java/lang/StringUTF16" "HI_BYTE_SHIFT" "I" (.int (0 : Int32))) (S_LO_BYTE_SHIFT : Sta Z Z.heap "java/lang/StringUTF16" "LO_BYTE_SHIFT" "I" (.int (8 : Int32))) (V_a : Arv Z h0 a k .byte (4 : Int32) [(.int (nar .byte ((v0 >>> ((0 : Int32) &&& 31)).toInt8.toInt32))), (.int (nar .byte ((v0 >>> ((8 : Int32) &&& 31)).toInt8.toInt32))), (.int (nar .byte ((v1 >>> ((0 : Int32) &&& 31)).toInt8.toInt32))), (.int (nar .byte ((v1 >>> ((8 : Int32) &&& 31)).toInt8.toInt32)))] (.int (0 : Int32))) (hr1 : ¬ v1 < (0 : Int32) ∧ ¬ (65535 : Int32) < v1) :
    MetFree l (⟨"java/lang/StringUTF16", "getChar", "([BI)C"⟩ : MethodName) (head1 (Jvm.Cond.code (⟨"java/lang/StringUTF16", "getChar", "([BI)C"⟩ : MethodName) jdk_52_method_5_code 2 (some .char) :: ws) ({ frames := 0, cells := 0, slots := 0, locals := 0 } : Room)) (fun xa xU => xa = #[(.ref a), (.int (1 : Int32))] ∧ Z.Warmed39 xU.vm ∧ xU.heap = h0) (fun _ _ _ _ _ => True) (fun _ xU xo xV => ∃ v L, xo = .returned v ∧ own_Q_own_get2_1 Z a k v0 v1 h0 n0 v xV.heap L ∧ FrameEnd xU xo xV L ({ frames := 0, cells := 0, slots := 0, locals := 0 } : Room).cells ({ frames := 0, cells := 0, slots := 0, locals := 0 } : Room).slots) := by
  refine MetFree.of_bodySF (plainFor_of_name own_pn730740715) hisR ?_
  intro p e s m args below meth c s₁ Bd hml0 hP hK
  obtain ⟨rfl, hZ, hh⟩ := hP
  have hx := Bd.exec
  have hby := Bd.bytes
  have hlk := Bd.notSynchronized
  have hret := Bd.returns
  have hml : c.maxLocals = 2 := hml0
  have hown : s.vm.findClass "java/lang/StringUTF16" = some m.cls := findClass_of_methodNamed Bd.named
  have hnm := (name_of_methodNamed Bd.named Bd.method).1
  have X0 : Stand p l e ({ frames := 0, cells := 0, slots := 0, locals := 0 } : Room) s m #[(.ref a), (.int (1 : Int32))] below meth c s₁ [] 0 0 := Stand.of_body Bd
  have e0 : s₁.heap = h0 := by rw [← hh, Bd.state]; rfl
  have N0 := Fr.nil n0
  show own_Gl p e below s (own_Q_own_get2_1 Z a k v0 v1 h0 n0) ({ frames := 0, cells := 0, slots := 0, locals := 0 } : Room).cells ({ frames := 0, cells := 0, slots := 0, locals := 0 } : Room).slots _
  refine own_cast (own_ef_own_get2_1 m a (1 : Int32)) ?_
  show own_Gl _ _ _ _ _ _ _ (s₁.setTop (mkF m 0 #[.val (.ref a), .val (.int (1 : Int32))] []))
  obtain ⟨T1, X1, e1, st1⟩ := getS2 X0 hx hZ hown (host := "") (Or.inl (hw _ (List.mem_of_getElem? (i := 142) rfl))) Via.refl e0 (S__assertionsDisabled.ext Old0.2) (g := (mkF m 0 #[.val (.ref a), .val (.int (1 : Int32))] [])) rfl (hb hby own_d_jdk_52_method_5_code_0)
  refine own_st st1 ?_
  show own_Gl _ _ _ _ _ _ _ (T1.setTop (mkF m 3 #[.val (.ref a), .val (.int (1 : Int32))] [(.int (1 : Int32))]))
  have hd2 : ¬ ((1 : Int32) = (0 : Int32)) := (by decide)
  refine own_st (fun _ k => XS.ifYes X1.here hx rfl (pc0 := 3) (pc' := 28) rfl (hb hby own_d_jdk_52_method_5_code_3) rfl ((if0 _ _).trans (feq hd2).2) (by decide) (by decide) k) ?_
  show own_Gl _ _ _ _ _ _ _ (T1.setTop (mkF m 28 #[.val (.ref a), .val (.int (1 : Int32))] []))
  refine own_st (fun _ k => XS.iloadN X1.here hx rfl (hb hby own_d_jdk_52_method_5_code_28) rfl k) ?_
  show own_Gl _ _ _ _ _ _ _ (T1.setTop (mkF m 29 #[.val (.ref a), .val (.int (1 : Int32))] [(.int (1 : Int32))]))
  refine own_st (fun _ k => XS.iconst X1.here hx rfl (hb hby own_d_jdk_52_method_5_code_29) k) ?_
  show own_Gl _ _ _ _ _ _ _ (T1.setTop (mkF m 30 #[.val (.ref a), .val (.int (1 : Int32))] [(.int (1 : Int32)), (.int (1 : Int32))]))
  refine own_st (fun _ k => XS.ishl X1.here hx rfl (hb hby own_d_jdk_52_method_5_code_30) rfl k) ?_
  show own_Gl _ _ _ _ _ _ _ (T1.setTop (mkF m 31 #[.val (.ref a), .val (.int (1 : Int32))] [(.int ((1 : Int32) <<< ((1 : Int32) &&& 31)))]))
  refine own_st (fun _ k => XS.istoreN X1.here hx rfl (hb hby own_d_jdk_52_method_5_code_31) rfl (l' := #[.val (.ref a), .val (.int ((1 : Int32) <<< ((1 : Int32) &&& 31)))]) rfl k) ?_
  show own_Gl _ _ _ _ _ _ _ (T1.setTop (mkF m 32 #[.val (.ref a), .val (.int ((1 : Int32) <<< ((1 : Int32) &&& 31)))] []))
  show own_Gl _ _ _ _ _ _ _ (T1.setTop (mkF m 32 #[.val (.ref a), .val (.int (2 : Int32))] []))
  refine own_st (fun _ k => XS.aloadN X1.here hx rfl (hb hby own_d_jdk_52_method_5_code_32) rfl rfl k) ?_
  show own_Gl _ _ _ _ _ _ _ (T1.setTop (mkF m 33 #[.val (.ref a), .val (.int (2 : Int32))] [(.ref a)]))
  refine own_st (fun _ k => XS.iloadN X1.here hx rfl (hb hby own_d_jdk_52_method_5_code_33) rfl k) ?_
  show own_Gl _ _ _ _ _ _ _ (T1.setTop (mkF m 34 #[.val (.ref a), .val (.int (2 : Int32))] [(.int (2 : Int32)), (.ref a)]))
  refine own_st (fun _ k => XS.iinc X1.here hx rfl (hb hby own_d_jdk_52_method_5_code_34) rfl (l' := #[.val (.ref a), .val (.int (3 : Int32))]) rfl k) ?_
  show own_Gl _ _ _ _ _ _ _ (T1.setTop (mkF m 37 #[.val (.ref a), .val (.int (3 : Int32))] [(.int (2 : Int32)), (.ref a)]))
  obtain ⟨cl3, Ar3, qq3, Ss3, Nn3, Hh3, Gg3⟩ := id V_a
  have hin3 : ¬ ((2 : Int32) < 0 ∨ cl3.slots.size ≤ ((2 : Int32)).toNatClampNeg) := inb_of Ss3 ⟨by decide, by decide⟩
  have hat3 : cl3.slots[((2 : Int32)).toNatClampNeg]? = some (.int (nar .byte ((v1 >>> ((0 : Int32) &&& 31)).toInt8.toInt32))) := Hh3.at hin3 (rfl)
  refine own_st (X1.baloadBytes hx (j := (2 : Int32)) (v := (.int (nar .byte ((v1 >>> ((0 : Int32) &&& 31)).toInt8.toInt32)))) (by rw [e1]; exact Ar3.1) (State.isArrayOf_alike hZ.alike Ar3.2.1) Ar3.2.2 hin3 hat3 (g := (mkF m 37 #[.val (.ref a), .val (.int (3 : Int32))] [(.int (2 : Int32)), (.ref a)])) rfl rfl (hb hby own_d_jdk_52_method_5_code_37)) ?_
  show own_Gl _ _ _ _ _ _ _ (T1.setTop (mkF m 38 #[.val (.ref a), .val (.int (3 : Int32))] [(.int (nar .byte ((v1 >>> ((0 : Int32) &&& 31)).toInt8.toInt32)))]))
  refine own_st (fun _ k => XS.sipush X1.here hx rfl (hb hby own_d_jdk_52_method_5_code_38) k) ?_
  show own_Gl _ _ _ _ _ _ _ (T1.setTop (mkF m 41 #[.val (.ref a), .val (.int (3 : Int32))] [(.int (255 : Int32)), (.int (nar .byte ((v1 >>> ((0 : Int32) &&& 31)).toInt8.toInt32)))]))
  refine own_st (fun _ k => XS.iand X1.here hx rfl (hb hby own_d_jdk_52_method_5_code_41) rfl k) ?_
  show own_Gl _ _ _ _ _ _ _ (T1.setTop (mkF m 42 #[.val (.ref a), .val (.int (3 : Int32))] [(.int ((nar .byte ((v1 >>> ((0 : Int32) &&& 31)).toInt8.toInt32)) &&& (255 : Int32)))]))
  obtain ⟨T4, X4, e4, st4⟩ := getS2 X1 hx hZ hown (host := "") (Or.inl (hw _ (List.mem_of_getElem? (i := 143) rfl))) Via.refl e1 (S_HI_BYTE_SHIFT.ext Old0.2) (g := (mkF m 42 #[.val (.ref a), .val (.int (3 : Int32))] [(.int ((nar .byte ((v1 >>> ((0 : Int32) &&& 31)).toInt8.toInt32)) &&& (255 : Int32)))])) rfl (hb hby own_d_jdk_52_method_5_code_42)
  refine own_st st4 ?_
  show own_Gl _ _ _ _ _ _ _ (T4.setTop (mkF m 45 #[.val (.ref a), .val (.int (3 : Int32))] [(.int (0 : Int32)), (.int ((nar .byte ((v1 >>> ((0 : Int32) &&& 31)).toInt8.toInt32)) &&& (255 : Int32)))]))
  refine own_st (fun _ k => XS.ishl X4.here hx rfl (hb hby own_d_jdk_52_method_5_code_45) rfl k) ?_
  show own_Gl _ _ _ _ _ _ _ (T4.setTop (mkF m 46 #[.val (.ref a), .val (.int (3 : Int32))] [(.int (((nar .byte ((v1 >>> ((0 : Int32) &&& 31)).toInt8.toInt32)) &&& (255 : Int32)) <<< ((0 : Int32) &&& 31)))]))
  refine own_st (fun _ k => XS.aloadN X4.here hx rfl (hb hby own_d_jdk_52_method_5_code_46) rfl rfl k) ?_
  show own_Gl _ _ _ _ _ _ _ (T4.setTop (mkF m 47 #[.val (.ref a), .val (.int (3 : Int32))] [(.ref a), (.int (((nar .byte ((v1 >>> ((0 : Int32) &&& 31)).toInt8.toInt32)) &&& (255 : Int32)) <<< ((0 : Int32) &&& 31)))]))
  refine own_st (fun _ k => XS.iloadN X4.here hx rfl (hb hby own_d_jdk_52_method_5_code_47) rfl k) ?_
  show own_Gl _ _ _ _ _ _ _ (T4.setTop (mkF m 48 #[.val (.ref a), .val (.int (3 : Int32))] [(.int (3 : Int32)), (.ref a), (.int (((nar .byte ((v1 >>> ((0 : Int32) &&& 31)).toInt8.toInt32)) &&& (255 : Int32)) <<< ((0 : Int32) &&& 31)))]))
  obtain ⟨cl5, Ar5, qq5, Ss5, Nn5, Hh5, Gg5⟩ := id V_a
  have hin5 : ¬ ((3 : Int32) < 0 ∨ cl5.slots.size ≤ ((3 : Int32)).toNatClampNeg) := inb_of Ss5 ⟨by decide, by decide⟩
  have hat5 : cl5.slots[((3 : Int32)).toNatClampNeg]? = some (.int (nar .byte ((v1 >>> ((8 : Int32) &&& 31)).toInt8.toInt32))) := Hh5.at hin5 (rfl)
  refine own_st (X4.baloadBytes hx (j := (3 : Int32)) (v := (.int (nar .byte ((v1 >>> ((8 : Int32) &&& 31)).toInt8.toInt32)))) (by rw [e4]; exact Ar5.1) (State.isArrayOf_alike hZ.alike Ar5.2.1) Ar5.2.2 hin5 hat5 (g := (mkF m 48 #[.val (.ref a), .val (.int (3 : Int32))] [(.int (3 : Int32)), (.ref a), (.int (((nar .byte ((v1 >>> ((0 : Int32) &&& 31)).toInt8.toInt32)) &&& (255 : Int32)) <<< ((0 : Int32) &&& 31)))])) rfl rfl (hb hby own_d_jdk_52_method_5_code_48)) ?_
  show own_Gl _ _ _ _ _ _ _ (T4.setTop (mkF m 49 #[.val (.ref a), .val (.int (3 : Int32))] [(.int (nar .byte ((v1 >>> ((8 : Int32) &&& 31)).toInt8.toInt32))), (.int (((nar .byte ((v1 >>> ((0 : Int32) &&& 31)).toInt8.toInt32)) &&& (255 : Int32)) <<< ((0 : Int32) &&& 31)))]))
  refine own_st (fun _ k => XS.sipush X4.here hx rfl (hb hby own_d_jdk_52_method_5_code_49) k) ?_
  show own_Gl _ _ _ _ _ _ _ (T4.setTop (mkF m 52 #[.val (.ref a), .val (.int (3 : Int32))] [(.int (255 : Int32)), (.int (nar .byte ((v1 >>> ((8 : Int32) &&& 31)).toInt8.toInt32))), (.int (((nar .byte ((v1 >>> ((0 : Int32) &&& 31)).toInt8.toInt32)) &&& (255 : Int32)) <<< ((0 : Int32) &&& 31)))]))
  refine own_st (fun _ k => XS.iand X4.here hx rfl (hb hby own_d_jdk_52_method_5_code_52) rfl k) ?_
  show own_Gl _ _ _ _ _ _ _ (T4.setTop (mkF m 53 #[.val (.ref a), .val (.int (3 : Int32))] [(.int ((nar .byte ((v1 >>> ((8 : Int32) &&& 31)).toInt8.toInt32)) &&& (255 : Int32))), (.int (((nar .byte ((v1 >>> ((0 : Int32) &&& 31)).toInt8.toInt32)) &&& (255 : Int32)) <<< ((0 : Int32) &&& 31)))]))
  obtain ⟨T6, X6, e6, st6⟩ := getS2 X4 hx hZ hown (host := "") (Or.inl (hw _ (List.mem_of_getElem? (i := 144) rfl))) Via.refl e4 (S_LO_BYTE_SHIFT.ext Old0.2) (g := (mkF m 53 #[.val (.ref a), .val (.int (3 : Int32))] [(.int ((nar .byte ((v1 >>> ((8 : Int32) &&& 31)).toInt8.toInt32)) &&& (255 : Int32))), (.int (((nar .byte ((v1 >>> ((0 : Int32) &&& 31)).toInt8.toInt32)) &&& (255 : Int32)) <<< ((0 : Int32) &&& 31)))])) rfl (hb hby own_d_jdk_52_method_5_code_53)
  refine own_st st6 ?_
  show own_Gl _ _ _ _ _ _ _ (T6.setTop (mkF m 56 #[.val (.ref a), .val (.int (3 : Int32))] [(.int (8 : Int32)), (.int ((nar .byte ((v1 >>> ((8 : Int32) &&& 31)).toInt8.toInt32)) &&& (255 : Int32))), (.int (((nar .byte ((v1 >>> ((0 : Int32) &&& 31)).toInt8.toInt32)) &&& (255 : Int32)) <<< ((0 : Int32) &&& 31)))]))
  refine own_st (fun _ k => XS.ishl X6.here hx rfl (hb hby own_d_jdk_52_method_5_code_56) rfl k) ?_
  show own_Gl _ _ _ _ _ _ _ (T6.setTop (mkF m 57 #[.val (.ref a), .val (.int (3 : Int32))] [(.int (((nar .byte ((v1 >>> ((8 : Int32) &&& 31)).toInt8.toInt32)) &&& (255 : Int32)) <<< ((8 : Int32) &&& 31))), (.int (((nar .byte ((v1 >>> ((0 : Int32) &&& 31)).toInt8.toInt32)) &&& (255 : Int32)) <<< ((0 : Int32) &&& 31)))]))
  refine own_st (fun _ k => XS.ior X6.here hx rfl (hb hby own_d_jdk_52_method_5_code_57) rfl k) ?_
  show own_Gl _ _ _ _ _ _ _ (T6.setTop (mkF m 58 #[.val (.ref a), .val (.int (3 : Int32))] [(.int ((((nar .byte ((v1 >>> ((0 : Int32) &&& 31)).toInt8.toInt32)) &&& (255 : Int32)) <<< ((0 : Int32) &&& 31)) ||| (((nar .byte ((v1 >>> ((8 : Int32) &&& 31)).toInt8.toInt32)) &&& (255 : Int32)) <<< ((8 : Int32) &&& 31))))]))
  refine own_st (fun _ k => XS.i2c X6.here hx rfl (hb hby own_d_jdk_52_method_5_code_58) rfl k) ?_
  show own_Gl _ _ _ _ _ _ _ (T6.setTop (mkF m 59 #[.val (.ref a), .val (.int (3 : Int32))] [(.int (((((nar .byte ((v1 >>> ((0 : Int32) &&& 31)).toInt8.toInt32)) &&& (255 : Int32)) <<< ((0 : Int32) &&& 31)) ||| (((nar .byte ((v1 >>> ((8 : Int32) &&& 31)).toInt8.toInt32)) &&& (255 : Int32)) <<< ((8 : Int32) &&& 31))).toUInt32.toUInt16.toUInt32.toInt32))]))
  exact own_retN X6 hx hlk (t := .char) hret (by simp) (hb hby own_d_jdk_52_method_5_code_59) e6 ⟨by rw [own_gch _ hr1.1 hr1.2, own_nc _ hr1], N0, rfl⟩ (by decide) (by decide)
theorem own_d_jdk_52_method_21_code_0 : decode jdk_52_method_21_code 0 = .ok (.iconst 0, 1) := by decide +kernel
theorem own_d_jdk_52_method_21_code_1 : decode jdk_52_method_21_code 1 = .ok (.istore 5, 2) := by decide +kernel
theorem own_d_jdk_52_method_21_code_3 : decode jdk_52_method_21_code 3 = .ok (.iload 5, 2) := by decide +kernel
theorem own_d_jdk_52_method_21_code_5 : decode jdk_52_method_21_code 5 = .ok (.iload 4, 2) := by decide +kernel
theorem own_d_jdk_52_method_21_code_7 : decode jdk_52_method_21_code 7 = .ok (.if_icmp .ge 37, 3) := by decide +kernel
theorem own_d_jdk_52_method_21_code_10 : decode jdk_52_method_21_code 10 = .ok (.aload_n 0, 1) := by decide +kernel
theorem own_d_jdk_52_method_21_code_11 : decode jdk_52_method_21_code 11 = .ok (.iload_n 1, 1) := by decide +kernel
theorem own_d_jdk_52_method_21_code_12 : decode jdk_52_method_21_code 12 = .ok (.caload, 1) := by decide +kernel
theorem own_d_jdk_52_method_21_code_13 : decode jdk_52_method_21_code 13 = .ok (.istore 6, 2) := by decide +kernel
theorem own_d_jdk_52_method_21_code_15 : decode jdk_52_method_21_code 15 = .ok (.iload 6, 2) := by decide +kernel
theorem own_d_jdk_52_method_21_code_17 : decode jdk_52_method_21_code 17 = .ok (.sipush 255, 3) := by decide +kernel
theorem own_d_jdk_52_method_21_code_20 : decode jdk_52_method_21_code 20 = .ok (.if_icmp .le 6, 3) := by decide +kernel
theorem own_d_jdk_52_method_21_code_23 : decode jdk_52_method_21_code 23 = .ok (.iload 5, 2) := by decide +kernel
theorem own_d_jdk_52_method_21_code_25 : decode jdk_52_method_21_code 25 = .ok (.ireturn, 1) := by decide +kernel
theorem own_ef_own_c5_2_0 (m : MethodId) (x0 : Addr) (x1 : Int32) (x2 : Addr) (x3 : Int32) (x4 : Int32) : entryFrame m #[(.ref x0), (.int x1), (.ref x2), (.int x3), (.int x4)] 7 = mkF m 0 #[.val (.ref x0), .val (.int x1), .val (.ref x2), .val (.int x3), .val (.int x4), .unset, .unset] [] := by first | (simp [entryFrame, mkF, argsToLocals, Value.category]; done) | rfl
def own_Q_own_c5_2_0 (Z : State) (a : Addr) (b : Addr) (k : ClassId) (kb : ClassId) (v0 : Int32) (v1 : Int32) (h0 : Heap) (n0 : Nat) (v : Option Value) (h : Heap) (L : List Loc) : Prop := (v = some (.int (0 : Int32))) ∧ (Fr n0 L) ∧ (Keep h0 h [b]) ∧ (Arv Z h b kb .byte (2 : Int32) [(.int (0 : Int32)), (.int (0 : Int32))] (.int (0 : Int32)))
set_option maxRecDepth 65536 in
set_option maxHeartbeats 40000000 in
theorem own_c5_2_0 (l : Launch) (Z : State) (a0 : Array Value) (hw : ∀ d ∈ tables_1, d.before a0 Z = true) (ws : List Jvm.Cond) (a : Addr) (b : Addr) (k : ClassId) (kb : ClassId) (v0 : Int32) (v1 : Int32) (h0 : Heap) (n0 : Nat) (Z0 : n0 ≤ h0.size) (V_a : Arv Z h0 a k .char (2 : Int32) [(.int v0), (.int v1)] (.int (0 : Int32))) (V_b : Arv Z h0 b kb .byte (2 : Int32) [(.int (0 : Int32)), (.int (0 : Int32))] (.int (0 : Int32))) (g_b : n0 ≤ b) (ne_a_b : a ≠ b) (hgt : (255 : Int32) < v0) :
    MetFree l (⟨"java/lang/StringUTF16", "compress", "([CI[BII)I"⟩ : MethodName) (head1 (Jvm.Cond.code (⟨"java/lang/StringUTF16", "compress", "([CI[BII)I"⟩ : MethodName) jdk_52_method_21_code 7 (some .int) :: ws) ({ frames := 0, cells := 0, slots := 0, locals := 0 } : Room)) (fun xa xU => xa = #[(.ref a), (.int (0 : Int32)), (.ref b), (.int (0 : Int32)), (.int (2 : Int32))] ∧ Z.Warmed39 xU.vm ∧ xU.heap = h0) (fun _ _ _ _ _ => True) (fun _ xU xo xV => ∃ v L, xo = .returned v ∧ own_Q_own_c5_2_0 Z a b k kb v0 v1 h0 n0 v xV.heap L ∧ FrameEnd xU xo xV L ({ frames := 0, cells := 0, slots := 0, locals := 0 } : Room).cells ({ frames := 0, cells := 0, slots := 0, locals := 0 } : Room).slots) := by
  refine MetFree.of_bodySF (plainFor_of_name own_pn730740715) hisR ?_
  intro p e s m args below meth c s₁ Bd hml0 hP hK
  obtain ⟨rfl, hZ, hh⟩ := hP
  have hx := Bd.exec
  have hby := Bd.bytes
  have hlk := Bd.notSynchronized
  have hret := Bd.returns
  have hml : c.maxLocals = 7 := hml0
  have hown : s.vm.findClass "java/lang/StringUTF16" = some m.cls := findClass_of_methodNamed Bd.named
  have hnm := (name_of_methodNamed Bd.named Bd.method).1
  have X0 : Stand p l e ({ frames := 0, cells := 0, slots := 0, locals := 0 } : Room) s m #[(.ref a), (.int (0 : Int32)), (.ref b), (.int (0 : Int32)), (.int (2 : Int32))] below meth c s₁ [] 0 0 := Stand.of_body Bd
  have e0 : s₁.heap = h0 := by rw [← hh, Bd.state]; rfl
  have N0 := Fr.nil n0
  show own_Gl p e below s (own_Q_own_c5_2_0 Z a b k kb v0 v1 h0 n0) ({ frames := 0, cells := 0, slots := 0, locals := 0 } : Room).cells ({ frames := 0, cells := 0, slots := 0, locals := 0 } : Room).slots _
  refine own_cast (own_ef_own_c5_2_0 m a (0 : Int32) b (0 : Int32) (2 : Int32)) ?_
  show own_Gl _ _ _ _ _ _ _ (s₁.setTop (mkF m 0 #[.val (.ref a), .val (.int (0 : Int32)), .val (.ref b), .val (.int (0 : Int32)), .val (.int (2 : Int32)), .unset, .unset] []))
  refine own_st (fun _ k => XS.iconst X0.here hx rfl (hb hby own_d_jdk_52_method_21_code_0) k) ?_
  show own_Gl _ _ _ _ _ _ _ (s₁.setTop (mkF m 1 #[.val (.ref a), .val (.int (0 : Int32)), .val (.ref b), .val (.int (0 : Int32)), .val (.int (2 : Int32)), .unset, .unset] [(.int (0 : Int32))]))
  refine own_st (fun _ k => XS.istore X0.here hx rfl (hb hby own_d_jdk_52_method_21_code_1) rfl (l' := #[.val (.ref a), .val (.int (0 : Int32)), .val (.ref b), .val (.int (0 : Int32)), .val (.int (2 : Int32)), .val (.int (0 : Int32)), .unset]) rfl k) ?_
  show own_Gl _ _ _ _ _ _ _ (s₁.setTop (mkF m 3 #[.val (.ref a), .val (.int (0 : Int32)), .val (.ref b), .val (.int (0 : Int32)), .val (.int (2 : Int32)), .val (.int (0 : Int32)), .unset] []))
  refine own_st (fun _ k => XS.iload X0.here hx rfl (hb hby own_d_jdk_52_method_21_code_3) rfl k) ?_
  show own_Gl _ _ _ _ _ _ _ (s₁.setTop (mkF m 5 #[.val (.ref a), .val (.int (0 : Int32)), .val (.ref b), .val (.int (0 : Int32)), .val (.int (2 : Int32)), .val (.int (0 : Int32)), .unset] [(.int (0 : Int32))]))
  refine own_st (fun _ k => XS.iload X0.here hx rfl (hb hby own_d_jdk_52_method_21_code_5) rfl k) ?_
  show own_Gl _ _ _ _ _ _ _ (s₁.setTop (mkF m 7 #[.val (.ref a), .val (.int (0 : Int32)), .val (.ref b), .val (.int (0 : Int32)), .val (.int (2 : Int32)), .val (.int (0 : Int32)), .unset] [(.int (2 : Int32)), (.int (0 : Int32))]))
  have hd1 : (0 : Int32) < (2 : Int32) := (by decide)
  refine own_st (fun _ k => XS.icmpNo X0.here hx rfl (hb hby own_d_jdk_52_method_21_code_7) rfl (tlt hd1).2.1 k) ?_
  show own_Gl _ _ _ _ _ _ _ (s₁.setTop (mkF m 10 #[.val (.ref a), .val (.int (0 : Int32)), .val (.ref b), .val (.int (0 : Int32)), .val (.int (2 : Int32)), .val (.int (0 : Int32)), .unset] []))
  refine own_st (fun _ k => XS.aloadN X0.here hx rfl (hb hby own_d_jdk_52_method_21_code_10) rfl rfl k) ?_
  show own_Gl _ _ _ _ _ _ _ (s₁.setTop (mkF m 11 #[.val (.ref a), .val (.int (0 : Int32)), .val (.ref b), .val (.int (0 : Int32)), .val (.int (2 : Int32)), .val (.int (0 : Int32)), .unset] [(.ref a)]))
  refine own_st (fun _ k => XS.iloadN X0.here hx rfl (hb hby own_d_jdk_52_method_21_code_11) rfl k) ?_
  show own_Gl _ _ _ _ _ _ _ (s₁.setTop (mkF m 12 #[.val (.ref a), .val (.int (0 : Int32)), .val (.ref b), .val (.int (0 : Int32)), .val (.int (2 : Int32)), .val (.int (0 : Int32)), .unset] [(.int (0 : Int32)), (.ref a)]))
  obtain ⟨cl2, Ar2, qq2, Ss2, Nn2, Hh2, Gg2⟩ := id V_a
  have hin2 : ¬ ((0 : Int32) < 0 ∨ cl2.slots.size ≤ ((0 : Int32)).toNatClampNeg) := inb_of Ss2 ⟨by decide, by decide⟩
  have hat2 : cl2.slots[((0 : Int32)).toNatClampNeg]? = some (.int v0) := Hh2.at hin2 (rfl)
  refine own_st (X0.caload hx (j := (0 : Int32)) (v := (.int v0)) (by rw [e0]; exact Ar2.1) (State.isArrayOf_alike hZ.alike Ar2.2.1) Ar2.2.2 hin2 hat2 (g := (mkF m 12 #[.val (.ref a), .val (.int (0 : Int32)), .val (.ref b), .val (.int (0 : Int32)), .val (.int (2 : Int32)), .val (.int (0 : Int32)), .unset] [(.int (0 : Int32)), (.ref a)])) rfl rfl (hb hby own_d_jdk_52_method_21_code_12)) ?_
  show own_Gl _ _ _ _ _ _ _ (s₁.setTop (mkF m 13 #[.val (.ref a), .val (.int (0 : Int32)), .val (.ref b), .val (.int (0 : Int32)), .val (.int (2 : Int32)), .val (.int (0 : Int32)), .unset] [(.int v0)]))
  refine own_st (fun _ k => XS.istore X0.here hx rfl (hb hby own_d_jdk_52_method_21_code_13) rfl (l' := #[.val (.ref a), .val (.int (0 : Int32)), .val (.ref b), .val (.int (0 : Int32)), .val (.int (2 : Int32)), .val (.int (0 : Int32)), .val (.int v0)]) rfl k) ?_
  show own_Gl _ _ _ _ _ _ _ (s₁.setTop (mkF m 15 #[.val (.ref a), .val (.int (0 : Int32)), .val (.ref b), .val (.int (0 : Int32)), .val (.int (2 : Int32)), .val (.int (0 : Int32)), .val (.int v0)] []))
  refine own_st (fun _ k => XS.iload X0.here hx rfl (hb hby own_d_jdk_52_method_21_code_15) rfl k) ?_
  show own_Gl _ _ _ _ _ _ _ (s₁.setTop (mkF m 17 #[.val (.ref a), .val (.int (0 : Int32)), .val (.ref b), .val (.int (0 : Int32)), .val (.int (2 : Int32)), .val (.int (0 : Int32)), .val (.int v0)] [(.int v0)]))
  refine own_st (fun _ k => XS.sipush X0.here hx rfl (hb hby own_d_jdk_52_method_21_code_17) k) ?_
  show own_Gl _ _ _ _ _ _ _ (s₁.setTop (mkF m 20 #[.val (.ref a), .val (.int (0 : Int32)), .val (.ref b), .val (.int (0 : Int32)), .val (.int (2 : Int32)), .val (.int (0 : Int32)), .val (.int v0)] [(.int (255 : Int32)), (.int v0)]))
  have hd3 : (255 : Int32) < v0 := hgt
  refine own_st (fun _ k => XS.icmpNo X0.here hx rfl (hb hby own_d_jdk_52_method_21_code_20) rfl (tlt hd3).2.2.2 k) ?_
  show own_Gl _ _ _ _ _ _ _ (s₁.setTop (mkF m 23 #[.val (.ref a), .val (.int (0 : Int32)), .val (.ref b), .val (.int (0 : Int32)), .val (.int (2 : Int32)), .val (.int (0 : Int32)), .val (.int v0)] []))
  refine own_st (fun _ k => XS.iload X0.here hx rfl (hb hby own_d_jdk_52_method_21_code_23) rfl k) ?_
  show own_Gl _ _ _ _ _ _ _ (s₁.setTop (mkF m 25 #[.val (.ref a), .val (.int (0 : Int32)), .val (.ref b), .val (.int (0 : Int32)), .val (.int (2 : Int32)), .val (.int (0 : Int32)), .val (.int v0)] [(.int (0 : Int32))]))
  exact own_retI X0 hx hlk hret (hb hby own_d_jdk_52_method_21_code_25) e0 ⟨rfl, N0, (Keep.refl h0 [b]), V_b⟩ (by decide) (by decide)
theorem own_d_jdk_52_method_16_code_0 : decode jdk_52_method_16_code 0 = .ok (.iload_n 2, 1) := by decide +kernel
theorem own_d_jdk_52_method_16_code_1 : decode jdk_52_method_16_code 1 = .ok (.newarray .byte, 2) := by decide +kernel
theorem own_d_jdk_52_method_16_code_3 : decode jdk_52_method_16_code 3 = .ok (.astore_n 3, 1) := by decide +kernel
theorem own_d_jdk_52_method_16_code_4 : decode jdk_52_method_16_code 4 = .ok (.aload_n 0, 1) := by decide +kernel
theorem own_d_jdk_52_method_16_code_5 : decode jdk_52_method_16_code 5 = .ok (.iload_n 1, 1) := by decide +kernel
theorem own_d_jdk_52_method_16_code_6 : decode jdk_52_method_16_code 6 = .ok (.aload_n 3, 1) := by decide +kernel
theorem own_d_jdk_52_method_16_code_7 : decode jdk_52_method_16_code 7 = .ok (.iconst 0, 1) := by decide +kernel
theorem own_d_jdk_52_method_16_code_8 : decode jdk_52_method_16_code 8 = .ok (.iload_n 2, 1) := by decide +kernel
theorem own_d_jdk_52_method_16_code_9 : decode jdk_52_method_16_code 9 = .ok (.invokestatic 115, 3) := by decide +kernel
theorem own_pd196289288 : parseMethodDescriptor "([CI[BII)I" = some ⟨[(.array .char), .int, (.array .byte), .int, .int], some .int⟩ := by decide +kernel
theorem own_d_jdk_52_method_16_code_12 : decode jdk_52_method_16_code 12 = .ok (.istore 4, 2) := by decide +kernel
theorem own_d_jdk_52_method_16_code_14 : decode jdk_52_method_16_code 14 = .ok (.iload 4, 2) := by decide +kernel
theorem own_d_jdk_52_method_16_code_16 : decode jdk_52_method_16_code 16 = .ok (.iload_n 2, 1) := by decide +kernel
theorem own_d_jdk_52_method_16_code_17 : decode jdk_52_method_16_code 17 = .ok (.if_icmp .eq 40, 3) := by decide +kernel
theorem own_d_jdk_52_method_16_code_20 : decode jdk_52_method_16_code 20 = .ok (.aload_n 0, 1) := by decide +kernel
theorem own_d_jdk_52_method_16_code_21 : decode jdk_52_method_16_code 21 = .ok (.iload_n 1, 1) := by decide +kernel
theorem own_d_jdk_52_method_16_code_22 : decode jdk_52_method_16_code 22 = .ok (.iload_n 2, 1) := by decide +kernel
theorem own_d_jdk_52_method_16_code_23 : decode jdk_52_method_16_code 23 = .ok (.invokestatic 119, 3) := by decide +kernel
theorem own_pd461289092 : parseMethodDescriptor "([CII)[B" = some ⟨[(.array .char), .int, .int], some (.array .byte)⟩ := by decide +kernel
theorem own_d_jdk_52_method_16_code_26 : decode jdk_52_method_16_code 26 = .ok (.astore 5, 2) := by decide +kernel
theorem own_d_jdk_52_method_16_code_28 : decode jdk_52_method_16_code 28 = .ok (.aload 5, 2) := by decide +kernel
theorem own_d_jdk_52_method_16_code_30 : decode jdk_52_method_16_code 30 = .ok (.iload 4, 2) := by decide +kernel
theorem own_d_jdk_52_method_16_code_32 : decode jdk_52_method_16_code 32 = .ok (.invokestatic 71, 3) := by decide +kernel
theorem own_pd128711048 : parseMethodDescriptor "([BI)C" = some ⟨[(.array .byte), .int], some .char⟩ := by decide +kernel
theorem own_d_jdk_52_method_16_code_35 : decode jdk_52_method_16_code 35 = .ok (.sipush 255, 3) := by decide +kernel
theorem own_d_jdk_52_method_16_code_38 : decode jdk_52_method_16_code 38 = .ok (.if_icmp .gt 16, 3) := by decide +kernel
theorem own_d_jdk_52_method_16_code_54 : decode jdk_52_method_16_code 54 = .ok (.aload 5, 2) := by decide +kernel
theorem own_d_jdk_52_method_16_code_56 : decode jdk_52_method_16_code 56 = .ok (.areturn, 1) := by decide +kernel
theorem own_ef_own_c3_2_0 (m : MethodId) (x0 : Addr) (x1 : Int32) (x2 : Int32) : entryFrame m #[(.ref x0), (.int x1), (.int x2)] 6 = mkF m 0 #[.val (.ref x0), .val (.int x1), .val (.int x2), .unset, .unset, .unset] [] := by first | (simp [entryFrame, mkF, argsToLocals, Value.category]; done) | rfl
def own_Q_own_c3_2_0 (Z : State) (a : Addr) (k : ClassId) (v0 : Int32) (v1 : Int32) (h0 : Heap) (n0 : Nat) (v : Option Value) (h : Heap) (L : List Loc) : Prop := ∃ (r : Addr) (kr : ClassId), (v = some (.ref r)) ∧ (Fr n0 L) ∧ (Keep h0 h []) ∧ (n0 ≤ r) ∧ (h0.size ≤ r) ∧ (Arv Z h r kr .byte (4 : Int32) [(.int (nar .byte ((v0 >>> ((0 : Int32) &&& 31)).toInt8.toInt32))), (.int (nar .byte ((v0 >>> ((8 : Int32) &&& 31)).toInt8.toInt32))), (.int (nar .byte ((v1 >>> ((0 : Int32) &&& 31)).toInt8.toInt32))), (.int (nar .byte ((v1 >>> ((8 : Int32) &&& 31)).toInt8.toInt32)))] (.int (0 : Int32)))
set_option maxRecDepth 65536 in
set_option maxHeartbeats 40000000 in
theorem own_c3_2_0 (l : Launch) (Z : State) (a0 : Array Value) (hw : ∀ d ∈ tables_1, d.before a0 Z = true) (ws : List Jvm.Cond) (a : Addr) (k : ClassId) (v0 : Int32) (v1 : Int32) (h0 : Heap) (n0 : Nat) (Z0 : n0 ≤ h0.size) (V_a : Arv Z h0 a k .char (2 : Int32) [(.int v0), (.int v1)] (.int (0 : Int32))) (hgt : (255 : Int32) < v0) (Old0 : Old Z n0 h0) (S__assertionsDisabled : Sta Z Z.heap "java/lang/StringUTF16" "$assertionsDisabled" "Z" (.int (1 : Int32))) (S_HI_BYTE_SHIFT : Sta Z Z.heap "java/lang/StringUTF16" "HI_BYTE_SHIFT" "I" (.int (0 : Int32))) (S_LO_BYTE_SHIFT : Sta Z Z.heap "java/lang/StringUTF16" "LO_BYTE_SHIFT" "I" (.int (8 : Int32))) (hr0 : ¬ v0 < (0 : Int32) ∧ ¬ (65535 : Int32) < v0) (hr1 : ¬ v1 < (0 : Int32) ∧ ¬ (65535 : Int32) < v1) :
    MetFree l (⟨"java/lang/StringUTF16", "compress", "([CII)[B"⟩ : MethodName) (head1 (Jvm.Cond.code (⟨"java/lang/StringUTF16", "compress", "([CII)[B"⟩ : MethodName) jdk_52_method_16_code 6 (some (.array .byte)) :: ws) ({ frames := 3, cells := 2, slots := 6, locals := 40 } : Room)) (fun xa xU => xa = #[(.ref a), (.int (0 : Int32)), (.int (2 : Int32))] ∧ Z.Warmed39 xU.vm ∧ xU.heap = h0) (fun _ _ _ _ _ => True) (fun _ xU xo xV => ∃ v L, xo = .returned v ∧ own_Q_own_c3_2_0 Z a k v0 v1 h0 n0 v xV.heap L ∧ FrameEnd xU xo xV L ({ frames := 3, cells := 2, slots := 6, locals := 40 } : Room).cells ({ frames := 3, cells := 2, slots := 6, locals := 40 } : Room).slots) := by
  refine MetFree.of_bodySF (plainFor_of_name own_pn730740715) hisR ?_
  intro p e s m args below meth c s₁ Bd hml0 hP hK
  obtain ⟨rfl, hZ, hh⟩ := hP
  have hx := Bd.exec
  have hby := Bd.bytes
  have hlk := Bd.notSynchronized
  have hret := Bd.returns
  have hml : c.maxLocals = 6 := hml0
  have hown : s.vm.findClass "java/lang/StringUTF16" = some m.cls := findClass_of_methodNamed Bd.named
  have hnm := (name_of_methodNamed Bd.named Bd.method).1
  have X0 : Stand p l e ({ frames := 3, cells := 2, slots := 6, locals := 40 } : Room) s m #[(.ref a), (.int (0 : Int32)), (.int (2 : Int32))] below meth c s₁ [] 0 0 := Stand.of_body Bd
  have e0 : s₁.heap = h0 := by rw [← hh, Bd.state]; rfl
  have N0 := Fr.nil n0
  show own_Gl p e below s (own_Q_own_c3_2_0 Z a k v0 v1 h0 n0) ({ frames := 3, cells := 2, slots := 6, locals := 40 } : Room).cells ({ frames := 3, cells := 2, slots := 6, locals := 40 } : Room).slots _
  refine own_cast (own_ef_own_c3_2_0 m a (0 : Int32) (2 : Int32)) ?_
  show own_Gl _ _ _ _ _ _ _ (s₁.setTop (mkF m 0 #[.val (.ref a), .val (.int (0 : Int32)), .val (.int (2 : Int32)), .unset, .unset, .unset] []))
  refine own_st (fun _ k => XS.iloadN X0.here hx rfl (hb hby own_d_jdk_52_method_16_code_0) rfl k) ?_
  show own_Gl _ _ _ _ _ _ _ (s₁.setTop (mkF m 1 #[.val (.ref a), .val (.int (0 : Int32)), .val (.int (2 : Int32)), .unset, .unset, .unset] [(.int (2 : Int32))]))
  obtain ⟨T1, h1, k1, X1, e1, E1, A1, st1⟩ := newP X0 hx hZ (hw _ (List.mem_of_getElem? (i := 20) rfl)) e0 (g := (mkF m 1 #[.val (.ref a), .val (.int (0 : Int32)), .val (.int (2 : Int32)), .unset, .unset, .unset] [(.int (2 : Int32))])) rfl (hb hby own_d_jdk_52_method_16_code_1) rfl (by decide) (cap := 2) (by decide) (by decide) (by decide) (by decide)
  obtain ⟨b1, gb1⟩ : ∃ z, z = h0.size := ⟨_, rfl⟩
  rw [← gb1] at A1 st1
  refine own_st st1 ?_
  have Zs2 : n0 ≤ h1.size := Nat.le_trans Z0 E1.1
  have g_b1 : n0 ≤ b1 := Nat.le_trans Z0 (Nat.le_of_eq gb1.symm)
  have gh_b1 : h0.size ≤ b1 := Nat.le_trans (Keep.refl h0 []).1 (Nat.le_of_eq gb1.symm)
  have ne_a_b1 : a ≠ b1 := Nat.ne_of_lt (Nat.lt_of_lt_of_le V_a.lt (Nat.le_of_eq gb1.symm))
  have V_b1 : Arv Z h1 b1 k1 .byte (2 : Int32) [(.int (0 : Int32)), (.int (0 : Int32))] (.int (0 : Int32)) := (Arv.new A1 (by decide)).pad (pad_rep [] (.int (0 : Int32)) 2)
  show own_Gl _ _ _ _ _ _ _ (T1.setTop (mkF m 3 #[.val (.ref a), .val (.int (0 : Int32)), .val (.int (2 : Int32)), .unset, .unset, .unset] [(.ref b1)]))
  refine own_st (fun _ k => XS.astoreN X1.here hx rfl (hb hby own_d_jdk_52_method_16_code_3) rfl rfl (l' := #[.val (.ref a), .val (.int (0 : Int32)), .val (.int (2 : Int32)), .val (.ref b1), .unset, .unset]) rfl k) ?_
  show own_Gl _ _ _ _ _ _ _ (T1.setTop (mkF m 4 #[.val (.ref a), .val (.int (0 : Int32)), .val (.int (2 : Int32)), .val (.ref b1), .unset, .unset] []))
  refine own_st (fun _ k => XS.aloadN X1.here hx rfl (hb hby own_d_jdk_52_method_16_code_4) rfl rfl k) ?_
  show own_Gl _ _ _ _ _ _ _ (T1.setTop (mkF m 5 #[.val (.ref a), .val (.int (0 : Int32)), .val (.int (2 : Int32)), .val (.ref b1), .unset, .unset] [(.ref a)]))
  refine own_st (fun _ k => XS.iloadN X1.here hx rfl (hb hby own_d_jdk_52_method_16_code_5) rfl k) ?_
  show own_Gl _ _ _ _ _ _ _ (T1.setTop (mkF m 6 #[.val (.ref a), .val (.int (0 : Int32)), .val (.int (2 : Int32)), .val (.ref b1), .unset, .unset] [(.int (0 : Int32)), (.ref a)]))
  refine own_st (fun _ k => XS.aloadN X1.here hx rfl (hb hby own_d_jdk_52_method_16_code_6) rfl rfl k) ?_
  show own_Gl _ _ _ _ _ _ _ (T1.setTop (mkF m 7 #[.val (.ref a), .val (.int (0 : Int32)), .val (.int (2 : Int32)), .val (.ref b1), .unset, .unset] [(.ref b1), (.int (0 : Int32)), (.ref a)]))
  refine own_st (fun _ k => XS.iconst X1.here hx rfl (hb hby own_d_jdk_52_method_16_code_7) k) ?_
  show own_Gl _ _ _ _ _ _ _ (T1.setTop (mkF m 8 #[.val (.ref a), .val (.int (0 : Int32)), .val (.int (2 : Int32)), .val (.ref b1), .unset, .unset] [(.int (0 : Int32)), (.ref b1), (.int (0 : Int32)), (.ref a)]))
  refine own_st (fun _ k => XS.iloadN X1.here hx rfl (hb hby own_d_jdk_52_method_16_code_8) rfl k) ?_
  show own_Gl _ _ _ _ _ _ _ (T1.setTop (mkF m 9 #[.val (.ref a), .val (.int (0 : Int32)), .val (.int (2 : Int32)), .val (.ref b1), .unset, .unset] [(.int (2 : Int32)), (.int (0 : Int32)), (.ref b1), (.int (0 : Int32)), (.ref a)]))
  have f5 := (V_a.ext E1)
  obtain ⟨_, _, ⟨T4, L4, k4, n4⟩, -, X4, ⟨Lc4, hQ4, l4, y4, z4⟩, st4⟩ := Jvm.LawKit.callS X1 hx (y := (⟨"java/lang/StringUTF16", "compress", "([CI[BII)I"⟩ : MethodName)) hown (mvT hZ (hw _ (List.mem_of_getElem? (i := 21) rfl))) (mvT hZ (hw _ (List.mem_of_getElem? (i := 22) rfl))) (mvT hZ (hw _ (List.mem_of_getElem? (i := 18) rfl))) (mvT hZ (hw _ (List.mem_of_getElem? (i := 23) rfl))) (by decide) (backOf (W := 0) (own_c5_2_0 l Z a0 hw [] a b1 k k1 v0 v1 h1 n0 Zs2 f5 V_b1 g_b1 ne_a_b1 hgt) hZ (hw _ (List.mem_of_getElem? (i := 23) rfl)) (hw _ (List.mem_of_getElem? (i := 18) rfl)) (by decide) (by decide)) (g := (mkF m 9 #[.val (.ref a), .val (.int (0 : Int32)), .val (.int (2 : Int32)), .val (.ref b1), .unset, .unset] [(.int (2 : Int32)), (.int (0 : Int32)), (.ref b1), (.int (0 : Int32)), (.ref a)])) rfl (by rw [hml]; rfl) (argsL := [(.ref a), (.int (0 : Int32)), (.ref b1), (.int (0 : Int32)), (.int (2 : Int32))]) (rest := []) (lenOf own_pd196289288 rfl) rfl (by show 2 * 0 + _ ≤ _; exact Nat.le_of_eq rfl) (hb hby own_d_jdk_52_method_16_code_9) (fun _ _ => ⟨rfl, e1, (by decide : 1 + 0 ≤ ({ frames := 3, cells := 2, slots := 6, locals := 40 } : Room).cells), (by decide : 2 + 0 ≤ ({ frames := 3, cells := 2, slots := 6, locals := 40 } : Room).slots)⟩)
  dsimp only [Pt.U, Pt.locs, Pt.cells, Pt.slots] at X4 l4 y4 z4 st4 hQ4
  subst l4 y4 z4
  obtain ⟨hh4, eh04⟩ : ∃ z, T4.heap = z := ⟨_, rfl⟩
  rw [eh04] at hQ4
  obtain ⟨rfl, Nq4, Kq4, P4_0⟩ := hQ4
  have N4 := Fr.app N0 Nq4
  refine own_st st4 ?_
  have Zs6 : n0 ≤ hh4.size := Nat.le_trans Zs2 Kq4.1
  show own_Gl _ _ _ _ _ _ _ (T4.setTop (mkF m 12 #[.val (.ref a), .val (.int (0 : Int32)), .val (.int (2 : Int32)), .val (.ref b1), .unset, .unset] [(.int (0 : Int32))]))
  refine own_st (fun _ k => XS.istore X4.here hx rfl (hb hby own_d_jdk_52_method_16_code_12) rfl (l' := #[.val (.ref a), .val (.int (0 : Int32)), .val (.int (2 : Int32)), .val (.ref b1), .val (.int (0 : Int32)), .unset]) rfl k) ?_
  show own_Gl _ _ _ _ _ _ _ (T4.setTop (mkF m 14 #[.val (.ref a), .val (.int (0 : Int32)), .val (.int (2 : Int32)), .val (.ref b1), .val (.int (0 : Int32)), .unset] []))
  refine own_st (fun _ k => XS.iload X4.here hx rfl (hb hby own_d_jdk_52_method_16_code_14) rfl k) ?_
  show own_Gl _ _ _ _ _ _ _ (T4.setTop (mkF m 16 #[.val (.ref a), .val (.int (0 : Int32)), .val (.int (2 : Int32)), .val (.ref b1), .val (.int (0 : Int32)), .unset] [(.int (0 : Int32))]))
  refine own_st (fun _ k => XS.iloadN X4.here hx rfl (hb hby own_d_jdk_52_method_16_code_16) rfl k) ?_
  show own_Gl _ _ _ _ _ _ _ (T4.setTop (mkF m 17 #[.val (.ref a), .val (.int (0 : Int32)), .val (.int (2 : Int32)), .val (.ref b1), .val (.int (0 : Int32)), .unset] [(.int (2 : Int32)), (.int (0 : Int32))]))
  have hd7 : ¬ ((0 : Int32) = (2 : Int32)) := (by decide)
  refine own_st (fun _ k => XS.icmpNo X4.here hx rfl (hb hby own_d_jdk_52_method_16_code_17) rfl (feq hd7).1 k) ?_
  show own_Gl _ _ _ _ _ _ _ (T4.setTop (mkF m 20 #[.val (.ref a), .val (.int (0 : Int32)), .val (.int (2 : Int32)), .val (.ref b1), .val (.int (0 : Int32)), .unset] []))
  refine own_st (fun _ k => XS.aloadN X4.here hx rfl (hb hby own_d_jdk_52_method_16_code_20) rfl rfl k) ?_
  show own_Gl _ _ _ _ _ _ _ (T4.setTop (mkF m 21 #[.val (.ref a), .val (.int (0 : Int32)), .val (.int (2 : Int32)), .val (.ref b1), .val (.int (0 : Int32)), .unset] [(.ref a)]))
  refine own_st (fun _ k => XS.iloadN X4.here hx rfl (hb hby own_d_jdk_52_method_16_code_21) rfl k) ?_
  show own_Gl _ _ _ _ _ _ _ (T4.setTop (mkF m 22 #[.val (.ref a), .val (.int (0 : Int32)), .val (.int (2 : Int32)), .val (.ref b1), .val (.int (0 : Int32)), .unset] [(.int (0 : Int32)), (.ref a)]))
  refine own_st (fun _ k => XS.iloadN X4.here hx rfl (hb hby own_d_jdk_52_method_16_code_22) rfl k) ?_
  show own_Gl _ _ _ _ _ _ _ (T4.setTop (mkF m 23 #[.val (.ref a), .val (.int (0 : Int32)), .val (.int (2 : Int32)), .val (.ref b1), .val (.int (0 : Int32)), .unset] [(.int (2 : Int32)), (.int (0 : Int32)), (.ref a)]))
  have f9 := (f5.keep Kq4 (ninS ne_a_b1 nin0))
  have f10 := ((Old0.ext E1).keep Kq4 (allS g_b1 all0))
  obtain ⟨_, _, ⟨T8, L8, k8, n8⟩, -, X8, ⟨Lc8, hQ8, l8, y8, z8⟩, st8⟩ := Jvm.LawKit.callS X4 hx (y := (⟨"java/lang/StringUTF16", "toBytes", "([CII)[B"⟩ : MethodName)) hown (mvT hZ (hw _ (List.mem_of_getElem? (i := 129) rfl))) (mvT hZ (hw _ (List.mem_of_getElem? (i := 130) rfl))) (mvT hZ (hw _ (List.mem_of_getElem? (i := 18) rfl))) (mvT hZ (hw _ (List.mem_of_getElem? (i := 131) rfl))) (by decide) (backOf (W := 0) (own_tb2 l Z a0 hw [] a k v0 v1 hh4 n0 Zs6 f9 f10 S__assertionsDisabled S_HI_BYTE_SHIFT S_LO_BYTE_SHIFT) hZ (hw _ (List.mem_of_getElem? (i := 131) rfl)) (hw _ (List.mem_of_getElem? (i := 18) rfl)) (by decide) (by decide)) (g := (mkF m 23 #[.val (.ref a), .val (.int (0 : Int32)), .val (.int (2 : Int32)), .val (.ref b1), .val (.int (0 : Int32)), .unset] [(.int (2 : Int32)), (.int (0 : Int32)), (.ref a)])) rfl (by rw [hml]; rfl) (argsL := [(.ref a), (.int (0 : Int32)), (.int (2 : Int32))]) (rest := []) (lenOf own_pd461289092 rfl) rfl (by show 2 * 0 + _ ≤ _; exact Nat.le_of_eq rfl) (hb hby own_d_jdk_52_method_16_code_23) (fun _ _ => ⟨rfl, eh04, (by decide : 1 + 1 ≤ ({ frames := 3, cells := 2, slots := 6, locals := 40 } : Room).cells), (by decide : 2 + 4 ≤ ({ frames := 3, cells := 2, slots := 6, locals := 40 } : Room).slots)⟩)
  dsimp only [Pt.U, Pt.locs, Pt.cells, Pt.slots] at X8 l8 y8 z8 st8 hQ8
  subst l8 y8 z8
  obtain ⟨hh8, eh08⟩ : ∃ z, T8.heap = z := ⟨_, rfl⟩
  rw [eh08] at hQ8
  obtain ⟨r_8, kr_8, rfl, Nq8, Kq8, P8_0, P8_1, P8_2⟩ := hQ8
  have N8 := Fr.app N4 Nq8
  refine own_st st8 ?_
  have K11 : Keep h0 hh4 [] := (((Keep.refl h0 []).ext E1).trans Kq4 (allS (Or.inr gh_b1) all0))
  have Zs12 : n0 ≤ hh8.size := Nat.le_trans Zs6 Kq8.1
  have gh_r_8 : h0.size ≤ r_8 := Nat.le_trans K11.1 P8_1
  have ne_a_r_8 : a ≠ r_8 := Nat.ne_of_lt (Nat.lt_of_lt_of_le f9.lt P8_1)
  have ne_b1_r_8 : b1 ≠ r_8 := Nat.ne_of_lt (Nat.lt_of_lt_of_le P4_0.lt P8_1)
  show own_Gl _ _ _ _ _ _ _ (T8.setTop (mkF m 26 #[.val (.ref a), .val (.int (0 : Int32)), .val (.int (2 : Int32)), .val (.ref b1), .val (.int (0 : Int32)), .unset] [(.ref r_8)]))
  refine own_st (fun _ k => XS.astore X8.here hx rfl (hb hby own_d_jdk_52_method_16_code_26) rfl rfl (l' := #[.val (.ref a), .val (.int (0 : Int32)), .val (.int (2 : Int32)), .val (.ref b1), .val (.int (0 : Int32)), .val (.ref r_8)]) rfl k) ?_
  show own_Gl _ _ _ _ _ _ _ (T8.setTop (mkF m 28 #[.val (.ref a), .val (.int (0 : Int32)), .val (.int (2 : Int32)), .val (.ref b1), .val (.int (0 : Int32)), .val (.ref r_8)] []))
  refine own_st (fun _ k => XS.aload X8.here hx rfl (hb hby own_d_jdk_52_method_16_code_28) rfl rfl k) ?_
  show own_Gl _ _ _ _ _ _ _ (T8.setTop (mkF m 30 #[.val (.ref a), .val (.int (0 : Int32)), .val (.int (2 : Int32)), .val (.ref b1), .val (.int (0 : Int32)), .val (.ref r_8)] [(.ref r_8)]))
  refine own_st (fun _ k => XS.iload X8.here hx rfl (hb hby own_d_jdk_52_method_16_code_30) rfl k) ?_
  show own_Gl _ _ _ _ _ _ _ (T8.setTop (mkF m 32 #[.val (.ref a), .val (.int (0 : Int32)), .val (.int (2 : Int32)), .val (.ref b1), .val (.int (0 : Int32)), .val (.ref r_8)] [(.int (0 : Int32)), (.ref r_8)]))
  have f14 := (f10.keep Kq8 all0)
  have f15 := (f9.keep Kq8 nin0)
  have f16 := (P4_0.keep Kq8 nin0)
  obtain ⟨_, _, ⟨T13, L13, k13, n13⟩, -, X13, ⟨Lc13, hQ13, l13, y13, z13⟩, st13⟩ := Jvm.LawKit.callS X8 hx (y := (⟨"java/lang/StringUTF16", "getChar", "([BI)C"⟩ : MethodName)) hown (mvT hZ (hw _ (List.mem_of_getElem? (i := 145) rfl))) (mvT hZ (hw _ (List.mem_of_getElem? (i := 146) rfl))) (mvT hZ (hw _ (List.mem_of_getElem? (i := 18) rfl))) (mvT hZ (hw _ (List.mem_of_getElem? (i := 147) rfl))) (by decide) (backOf (W := 0) (own_get2_0 l Z a0 hw [] r_8 kr_8 v0 v1 hh8 n0 Zs12 f14 S__assertionsDisabled S_HI_BYTE_SHIFT S_LO_BYTE_SHIFT P8_2 hr0) hZ (hw _ (List.mem_of_getElem? (i := 147) rfl)) (hw _ (List.mem_of_getElem? (i := 18) rfl)) (by decide) (by decide)) (g := (mkF m 32 #[.val (.ref a), .val (.int (0 : Int32)), .val (.int (2 : Int32)), .val (.ref b1), .val (.int (0 : Int32)), .val (.ref r_8)] [(.int (0 : Int32)), (.ref r_8)])) rfl (by rw [hml]; rfl) (argsL := [(.ref r_8), (.int (0 : Int32))]) (rest := []) (lenOf own_pd128711048 rfl) rfl (by show 2 * 0 + _ ≤ _; exact Nat.le_of_eq rfl) (hb hby own_d_jdk_52_method_16_code_32) (fun _ _ => ⟨rfl, eh08, (by decide : 2 + 0 ≤ ({ frames := 3, cells := 2, slots := 6, locals := 40 } : Room).cells), (by decide : 6 + 0 ≤ ({ frames := 3, cells := 2, slots := 6, locals := 40 } : Room).slots)⟩)
  dsimp only [Pt.U, Pt.locs, Pt.cells, Pt.slots] at X13 l13 y13 z13 st13 hQ13
  subst l13 y13 z13
  obtain ⟨hh13, eh013⟩ : ∃ z, T13.heap = z := ⟨_, rfl⟩
  rw [eh013] at hQ13
  obtain ⟨rfl, Nq13, eh13⟩ := hQ13
  have N13 := Fr.app N8 Nq13
  refine own_st st13 ?_
  have e13 : T13.heap = hh8 := eh013.trans eh13
  show own_Gl _ _ _ _ _ _ _ (T13.setTop (mkF m 35 #[.val (.ref a), .val (.int (0 : Int32)), .val (.int (2 : Int32)), .val (.ref b1), .val (.int (0 : Int32)), .val (.ref r_8)] [(.int v0)]))
  refine own_st (fun _ k => XS.sipush X13.here hx rfl (hb hby own_d_jdk_52_method_16_code_35) k) ?_
  show own_Gl _ _ _ _ _ _ _ (T13.setTop (mkF m 38 #[.val (.ref a), .val (.int (0 : Int32)), .val (.int (2 : Int32)), .val (.ref b1), .val (.int (0 : Int32)), .val (.ref r_8)] [(.int (255 : Int32)), (.int v0)]))
  have hd17 : (255 : Int32) < v0 := hgt
  refine own_st (fun _ k => XS.icmpYes X13.here hx rfl (pc0 := 38) (pc' := 54) rfl (hb hby own_d_jdk_52_method_16_code_38) rfl (tlt hd17).2.2.1 (by decide) (by decide) k) ?_
  show own_Gl _ _ _ _ _ _ _ (T13.setTop (mkF m 54 #[.val (.ref a), .val (.int (0 : Int32)), .val (.int (2 : Int32)), .val (.ref b1), .val (.int (0 : Int32)), .val (.ref r_8)] []))
  refine own_st (fun _ k => XS.aload X13.here hx rfl (hb hby own_d_jdk_52_method_16_code_54) rfl rfl k) ?_
  show own_Gl _ _ _ _ _ _ _ (T13.setTop (mkF m 56 #[.val (.ref a), .val (.int (0 : Int32)), .val (.int (2 : Int32)), .val (.ref b1), .val (.int (0 : Int32)), .val (.ref r_8)] [(.ref r_8)]))
  have K18 : Keep h0 hh8 [] := (K11.trans Kq8 all0)
  exact own_retA X13 hx hlk hret rfl rfl rfl (hb hby own_d_jdk_52_method_16_code_56) e13 ⟨r_8, kr_8, rfl, N13, K18, P8_0, gh_r_8, P8_2⟩ (by decide) (by decide)
theorem own_d_jdk_52_method_15_code_0 : decode jdk_52_method_15_code 0 = .ok (.iload_n 1, 1) := by decide +kernel
theorem own_d_jdk_52_method_15_code_1 : decode jdk_52_method_15_code 1 = .ok (.aload_n 0, 1) := by decide +kernel
theorem own_d_jdk_52_method_15_code_2 : decode jdk_52_method_15_code 2 = .ok (.arraylength, 1) := by decide +kernel
theorem own_d_jdk_52_method_15_code_3 : decode jdk_52_method_15_code 3 = .ok (.isub, 1) := by decide +kernel
theorem own_d_jdk_52_method_15_code_4 : decode jdk_52_method_15_code 4 = .ok (.bipush 31, 2) := by decide +kernel
theorem own_d_jdk_52_method_15_code_6 : decode jdk_52_method_15_code 6 = .ok (.iushr, 1) := by decide +kernel
theorem own_d_jdk_52_method_15_code_7 : decode jdk_52_method_15_code 7 = .ok (.i2b, 1) := by decide +kernel
theorem own_d_jdk_52_method_15_code_8 : decode jdk_52_method_15_code 8 = .ok (.ireturn, 1) := by decide +kernel
theorem own_ef_own_cf_2_0 (m : MethodId) (x0 : Addr) (x1 : Int32) : entryFrame m #[(.ref x0), (.int x1)] 2 = mkF m 0 #[.val (.ref x0), .val (.int x1)] [] := by first | (simp [entryFrame, mkF, argsToLocals, Value.category]; done) | rfl
def own_Q_own_cf_2_0 (Z : State) (a : Addr) (k : ClassId) (w : List Value) (h0 : Heap) (n0 : Nat) (v : Option Value) (h : Heap) (L : List Loc) : Prop := (v = some (.int (1 : Int32))) ∧ (Fr n0 L) ∧ (h = h0)
set_option maxRecDepth 65536 in
set_option maxHeartbeats 40000000 in
theorem own_cf_2_0 (l : Launch) (Z : State) (a0 : Array Value) (hw : ∀ d ∈ tables_1, d.before a0 Z = true) (ws : List Jvm.Cond) (a : Addr) (k : ClassId) (w : List Value) (h0 : Heap) (n0 : Nat) (Z0 : n0 ≤ h0.size) (V_a : Arv Z h0 a k .byte (4 : Int32) w (.int (0 : Int32))) :
    MetFree l (⟨"java/lang/StringUTF16", "coderFromArrayLen", "([BI)B"⟩ : MethodName) (head1 (Jvm.Cond.code (⟨"java/lang/StringUTF16", "coderFromArrayLen", "([BI)B"⟩ : MethodName) jdk_52_method_15_code 2 (some .byte) :: ws) ({ frames := 0, cells := 0, slots := 0, locals := 0 } : Room)) (fun xa xU => xa = #[(.ref a), (.int (2 : Int32))] ∧ Z.Warmed39 xU.vm ∧ xU.heap = h0) (fun _ _ _ _ _ => True) (fun _ xU xo xV => ∃ v L, xo = .returned v ∧ own_Q_own_cf_2_0 Z a k w h0 n0 v xV.heap L ∧ FrameEnd xU xo xV L ({ frames := 0, cells := 0, slots := 0, locals := 0 } : Room).cells ({ frames := 0, cells := 0, slots := 0, locals := 0 } : Room).slots) := by
  refine MetFree.of_bodySF (plainFor_of_name own_pn730740715) hisR ?_
  intro p e s m args below meth c s₁ Bd hml0 hP hK
  obtain ⟨rfl, hZ, hh⟩ := hP
  have hx := Bd.exec
  have hby := Bd.bytes
  have hlk := Bd.notSynchronized
  have hret := Bd.returns
  have hml : c.maxLocals = 2 := hml0
  have hown : s.vm.findClass "java/lang/StringUTF16" = some m.cls := findClass_of_methodNamed Bd.named
  have hnm := (name_of_methodNamed Bd.named Bd.method).1
  have X0 : Stand p l e ({ frames := 0, cells := 0, slots := 0, locals := 0 } : Room) s m #[(.ref a), (.int (2 : Int32))] below meth c s₁ [] 0 0 := Stand.of_body Bd
  have e0 : s₁.heap = h0 := by rw [← hh, Bd.state]; rfl
  have N0 := Fr.nil n0
  show own_Gl p e below s (own_Q_own_cf_2_0 Z a k w h0 n0) ({ frames := 0, cells := 0, slots := 0, locals := 0 } : Room).cells ({ frames := 0, cells := 0, slots := 0, locals := 0 } : Room).slots _
  refine own_cast (own_ef_own_cf_2_0 m a (2 : Int32)) ?_
  show own_Gl _ _ _ _ _ _ _ (s₁.setTop (mkF m 0 #[.val (.ref a), .val (.int (2 : Int32))] []))
  refine own_st (fun _ k => XS.iloadN X0.here hx rfl (hb hby own_d_jdk_52_method_15_code_0) rfl k) ?_
  show own_Gl _ _ _ _ _ _ _ (s₁.setTop (mkF m 1 #[.val (.ref a), .val (.int (2 : Int32))] [(.int (2 : Int32))]))
  refine own_st (fun _ k => XS.aloadN X0.here hx rfl (hb hby own_d_jdk_52_method_15_code_1) rfl rfl k) ?_
  show own_Gl _ _ _ _ _ _ _ (s₁.setTop (mkF m 2 #[.val (.ref a), .val (.int (2 : Int32))] [(.ref a), (.int (2 : Int32))]))
  obtain ⟨cl1, Ar1, qq1, Ss1, Nn1, Hh1, Gg1⟩ := id V_a
  refine own_st (X0.arraylength hx (by rw [e0]; exact Ar1.1) (State.isArrayOf_alike hZ.alike Ar1.2.1) (g := (mkF m 2 #[.val (.ref a), .val (.int (2 : Int32))] [(.ref a), (.int (2 : Int32))])) rfl rfl (hb hby own_d_jdk_52_method_15_code_2)) ?_
  rw [len_of Ss1 Nn1]
  show own_Gl _ _ _ _ _ _ _ (s₁.setTop (mkF m 3 #[.val (.ref a), .val (.int (2 : Int32))] [(.int (4 : Int32)), (.int (2 : Int32))]))
  refine own_st (fun _ k => XS.isub X0.here hx rfl (hb hby own_d_jdk_52_method_15_code_3) rfl k) ?_
  show own_Gl _ _ _ _ _ _ _ (s₁.setTop (mkF m 4 #[.val (.ref a), .val (.int (2 : Int32))] [(.int (-2 : Int32))]))
  refine own_st (fun _ k => XS.bipush X0.here hx rfl (hb hby own_d_jdk_52_method_15_code_4) k) ?_
  show own_Gl _ _ _ _ _ _ _ (s₁.setTop (mkF m 6 #[.val (.ref a), .val (.int (2 : Int32))] [(.int (31 : Int32)), (.int (-2 : Int32))]))
  refine own_st (fun _ k => XS.iushr X0.here hx rfl (hb hby own_d_jdk_52_method_15_code_6) rfl k) ?_
  show own_Gl _ _ _ _ _ _ _ (s₁.setTop (mkF m 7 #[.val (.ref a), .val (.int (2 : Int32))] [(.int (((-2 : Int32).toUInt32 >>> ((31 : Int32) &&& 31).toUInt32).toInt32))]))
  refine own_st (fun _ k => XS.i2b X0.here hx rfl (hb hby own_d_jdk_52_method_15_code_7) rfl k) ?_
  show own_Gl _ _ _ _ _ _ _ (s₁.setTop (mkF m 8 #[.val (.ref a), .val (.int (2 : Int32))] [(.int ((((-2 : Int32).toUInt32 >>> ((31 : Int32) &&& 31).toUInt32).toInt32).toInt8.toInt32))]))
  exact own_retN X0 hx hlk (t := .byte) hret (by simp) (hb hby own_d_jdk_52_method_15_code_8) e0 ⟨rfl, N0, rfl⟩ (by decide) (by decide)
theorem own_d_jdk_42_method_149_code_0 : decode jdk_42_method_149_code 0 = .ok (.aload_n 0, 1) := by decide +kernel
theorem own_d_jdk_42_method_149_code_1 : decode jdk_42_method_149_code 1 = .ok (.invokespecial 1, 3) := by decide +kernel
theorem own_d_jdk_42_method_149_code_4 : decode jdk_42_method_149_code 4 = .ok (.iload_n 3, 1) := by decide +kernel
theorem own_d_jdk_42_method_149_code_5 : decode jdk_42_method_149_code 5 = .ok (.ifCond .ne 22, 3) := by decide +kernel
theorem own_d_jdk_42_method_149_code_27 : decode jdk_42_method_149_code 27 = .ok (.getstatic 38, 3) := by decide +kernel
theorem own_d_jdk_42_method_149_code_30 : decode jdk_42_method_149_code 30 = .ok (.ifCond .eq 28, 3) := by decide +kernel
theorem own_d_jdk_42_method_149_code_33 : decode jdk_42_method_149_code 33 = .ok (.aload_n 1, 1) := by decide +kernel
theorem own_d_jdk_42_method_149_code_34 : decode jdk_42_method_149_code 34 = .ok (.iload_n 2, 1) := by decide +kernel
theorem own_d_jdk_42_method_149_code_35 : decode jdk_42_method_149_code 35 = .ok (.iload_n 3, 1) := by decide +kernel
theorem own_d_jdk_42_method_149_code_36 : decode jdk_42_method_149_code 36 = .ok (.invokestatic 177, 3) := by decide +kernel
theorem own_d_jdk_42_method_149_code_39 : decode jdk_42_method_149_code 39 = .ok (.astore 5, 2) := by decide +kernel
theorem own_d_jdk_42_method_149_code_41 : decode jdk_42_method_149_code 41 = .ok (.aload_n 0, 1) := by decide +kernel
theorem own_d_jdk_42_method_149_code_42 : decode jdk_42_method_149_code 42 = .ok (.aload 5, 2) := by decide +kernel
theorem own_d_jdk_42_method_149_code_44 : decode jdk_42_method_149_code 44 = .ok (.iload_n 3, 1) := by decide +kernel
theorem own_d_jdk_42_method_149_code_45 : decode jdk_42_method_149_code 45 = .ok (.invokestatic 47, 3) := by decide +kernel
theorem own_pd128711047 : parseMethodDescriptor "([BI)B" = some ⟨[(.array .byte), .int], some .byte⟩ := by decide +kernel
theorem own_d_jdk_42_method_149_code_48 : decode jdk_42_method_149_code 48 = .ok (.putfield 15, 3) := by decide +kernel
theorem own_d_jdk_42_method_149_code_51 : decode jdk_42_method_149_code 51 = .ok (.aload_n 0, 1) := by decide +kernel
theorem own_d_jdk_42_method_149_code_52 : decode jdk_42_method_149_code 52 = .ok (.aload 5, 2) := by decide +kernel
theorem own_d_jdk_42_method_149_code_54 : decode jdk_42_method_149_code 54 = .ok (.putfield 9, 3) := by decide +kernel
theorem own_d_jdk_42_method_149_code_57 : decode jdk_42_method_149_code 57 = .ok (.return_, 1) := by decide +kernel
theorem own_ef_own_i4_2_0 (m : MethodId) (x0 : Addr) (x1 : Addr) (x2 : Int32) (x3 : Int32) : entryFrame m #[(.ref x0), (.ref x1), (.int x2), (.int x3), .null] 6 = mkF m 0 #[.val (.ref x0), .val (.ref x1), .val (.int x2), .val (.int x3), .val .null, .unset] [] := by first | (simp [entryFrame, mkF, argsToLocals, Value.category]; done) | rfl
def own_Q_own_i4_2_0 (Z : State) (a : Addr) (b : Addr) (k : ClassId) (v0 : Int32) (v1 : Int32) (cs : Int32) (h0 : Heap) (n0 : Nat) (v : Option Value) (h : Heap) (L : List Loc) : Prop := ∃ (r : Addr) (kr : ClassId), (v = none) ∧ (Fr n0 L) ∧ (Keep h0 h [a]) ∧ (n0 ≤ r) ∧ (h0.size ≤ r) ∧ (Arv Z h r kr .byte (4 : Int32) [(.int (nar .byte ((v0 >>> ((0 : Int32) &&& 31)).toInt8.toInt32))), (.int (nar .byte ((v0 >>> ((8 : Int32) &&& 31)).toInt8.toInt32))), (.int (nar .byte ((v1 >>> ((0 : Int32) &&& 31)).toInt8.toInt32))), (.int (nar .byte ((v1 >>> ((8 : Int32) &&& 31)).toInt8.toInt32)))] (.int (0 : Int32))) ∧ (Fld Z h a "java/lang/String" "value" "[B" (.ref r)) ∧ (Fld Z h a "java/lang/String" "coder" "B" (.int (1 : Int32)))
theorem own_pn853443214 : plainName "java/lang/String" = true := by first | (simp [plainName, overriddenIn]; done) | decide +kernel
set_option maxRecDepth 65536 in
set_option maxHeartbeats 40000000 in
theorem own_i4_2_0 (l : Launch) (Z : State) (a0 : Array Value) (hw : ∀ d ∈ tables_1, d.before a0 Z = true) (ws : List Jvm.Cond) (a : Addr) (b : Addr) (k : ClassId) (v0 : Int32) (v1 : Int32) (cs : Int32) (h0 : Heap) (n0 : Nat) (Z0 : n0 ≤ h0.size) (E_a : Exa Z h0 a "java/lang/String") (F_a_value : Fld Z h0 a "java/lang/String" "value" "[B" .null) (F_a_coder : Fld Z h0 a "java/lang/String" "coder" "B" (.int (0 : Int32))) (g_a : n0 ≤ a) (ne_a_b : a ≠ b) (V_b : Arv Z h0 b k .char (2 : Int32) [(.int v0), (.int v1)] (.int (0 : Int32))) (hgt : (255 : Int32) < v0) (S_COMPACT_STRINGS : Sta Z Z.heap "java/lang/String" "COMPACT_STRINGS" "Z" (.int cs)) (hcs : ¬ (cs = (0 : Int32))) (Old0 : Old Z n0 h0) (S__assertionsDisabled : Sta Z Z.heap "java/lang/StringUTF16" "$assertionsDisabled" "Z" (.int (1 : Int32))) (S_HI_BYTE_SHIFT : Sta Z Z.heap "java/lang/StringUTF16" "HI_BYTE_SHIFT" "I" (.int (0 : Int32))) (S_LO_BYTE_SHIFT : Sta Z Z.heap "java/lang/StringUTF16" "LO_BYTE_SHIFT" "I" (.int (8 : Int32))) (hr0 : ¬ v0 < (0 : Int32) ∧ ¬ (65535 : Int32) < v0) (hr1 : ¬ v1 < (0 : Int32) ∧ ¬ (65535 : Int32) < v1) :
    MetFree l (⟨"java/lang/String", "<init>", "([CIILjava/lang/Void;)V"⟩ : MethodName) (head1 (Jvm.Cond.code (⟨"java/lang/String", "<init>", "([CIILjava/lang/Void;)V"⟩ : MethodName) jdk_42_method_149_code 6 none :: ws) ({ frames := 4, cells := 2, slots := 6, locals := 57 } : Room)) (fun xa xU => xa = #[(.ref a), (.ref b), (.int (0 : Int32)), (.int (2 : Int32)), .null] ∧ Z.Warmed39 xU.vm ∧ xU.heap = h0) (fun _ _ _ _ _ => True) (fun _ xU xo xV => ∃ v L, xo = .returned v ∧ own_Q_own_i4_2_0 Z a b k v0 v1 cs h0 n0 v xV.heap L ∧ FrameEnd xU xo xV L ({ frames := 4, cells := 2, slots := 6, locals := 57 } : Room).cells ({ frames := 4, cells := 2, slots := 6, locals := 57 } : Room).slots) := by
  refine MetFree.of_bodySF (plainFor_of_name own_pn853443214) hisR ?_
  intro p e s m args below meth c s₁ Bd hml0 hP hK
  obtain ⟨rfl, hZ, hh⟩ := hP
  have hx := Bd.exec
  have hby := Bd.bytes
  have hlk := Bd.notSynchronized
  have hret := Bd.returns
  have hml : c.maxLocals = 6 := hml0
  have hown : s.vm.findClass "java/lang/String" = some m.cls := findClass_of_methodNamed Bd.named
  have hnm := (name_of_methodNamed Bd.named Bd.method).1
  have X0 : Stand p l e ({ frames := 4, cells := 2, slots := 6, locals := 57 } : Room) s m #[(.ref a), (.ref b), (.int (0 : Int32)), (.int (2 : Int32)), .null] below meth c s₁ [] 0 0 := Stand.of_body Bd
  have e0 : s₁.heap = h0 := by rw [← hh, Bd.state]; rfl
  have N0 := Fr.nil n0
  show own_Gl p e below s (own_Q_own_i4_2_0 Z a b k v0 v1 cs h0 n0) ({ frames := 4, cells := 2, slots := 6, locals := 57 } : Room).cells ({ frames := 4, cells := 2, slots := 6, locals := 57 } : Room).slots _
  refine own_cast (own_ef_own_i4_2_0 m a b (0 : Int32) (2 : Int32)) ?_
  show own_Gl _ _ _ _ _ _ _ (s₁.setTop (mkF m 0 #[.val (.ref a), .val (.ref b), .val (.int (0 : Int32)), .val (.int (2 : Int32)), .val .null, .unset] []))
  refine own_st (fun _ k => XS.aloadN X0.here hx rfl (hb hby own_d_jdk_42_method_149_code_0) rfl rfl k) ?_
  show own_Gl _ _ _ _ _ _ _ (s₁.setTop (mkF m 1 #[.val (.ref a), .val (.ref b), .val (.int (0 : Int32)), .val (.int (2 : Int32)), .val .null, .unset] [(.ref a)]))
  obtain ⟨T1, X1, e1, st1⟩ := initO X0 hx hZ hown (hw _ (List.mem_of_getElem? (i := 12) rfl)) (hw _ (List.mem_of_getElem? (i := 13) rfl)) (hw _ (List.mem_of_getElem? (i := 14) rfl)) e0 (g := (mkF m 1 #[.val (.ref a), .val (.ref b), .val (.int (0 : Int32)), .val (.int (2 : Int32)), .val .null, .unset] [(.ref a)])) rfl (by rw [hml]; rfl) rfl (hb hby own_d_jdk_42_method_149_code_1) (by decide) (W := 0) (by show 2 * 0 + _ ≤ _; exact Nat.le_of_eq rfl) (by decide)
  refine own_st st1 ?_
  show own_Gl _ _ _ _ _ _ _ (T1.setTop (mkF m 4 #[.val (.ref a), .val (.ref b), .val (.int (0 : Int32)), .val (.int (2 : Int32)), .val .null, .unset] []))
  refine own_st (fun _ k => XS.iloadN X1.here hx rfl (hb hby own_d_jdk_42_method_149_code_4) rfl k) ?_
  show own_Gl _ _ _ _ _ _ _ (T1.setTop (mkF m 5 #[.val (.ref a), .val (.ref b), .val (.int (0 : Int32)), .val (.int (2 : Int32)), .val .null, .unset] [(.int (2 : Int32))]))
  have hd2 : ¬ ((2 : Int32) = (0 : Int32)) := (by decide)
  refine own_st (fun _ k => XS.ifYes X1.here hx rfl (pc0 := 5) (pc' := 27) rfl (hb hby own_d_jdk_42_method_149_code_5) rfl ((if0 _ _).trans (feq hd2).2) (by decide) (by decide) k) ?_
  show own_Gl _ _ _ _ _ _ _ (T1.setTop (mkF m 27 #[.val (.ref a), .val (.ref b), .val (.int (0 : Int32)), .val (.int (2 : Int32)), .val .null, .unset] []))
  obtain ⟨T3, X3, e3, st3⟩ := getS2 X1 hx hZ hown (host := "") (Or.inl (hw _ (List.mem_of_getElem? (i := 15) rfl))) Via.refl e1 (S_COMPACT_STRINGS.ext Old0.2) (g := (mkF m 27 #[.val (.ref a), .val (.ref b), .val (.int (0 : Int32)), .val (.int (2 : Int32)), .val .null, .unset] [])) rfl (hb hby own_d_jdk_42_method_149_code_27)
  refine own_st st3 ?_
  show own_Gl _ _ _ _ _ _ _ (T3.setTop (mkF m 30 #[.val (.ref a), .val (.ref b), .val (.int (0 : Int32)), .val (.int (2 : Int32)), .val .null, .unset] [(.int cs)]))
  have hd4 : ¬ (cs = (0 : Int32)) := hcs
  refine own_st (fun _ k => XS.ifNo X3.here hx rfl (hb hby own_d_jdk_42_method_149_code_30) rfl ((if0 _ _).trans (feq hd4).1) k) ?_
  show own_Gl _ _ _ _ _ _ _ (T3.setTop (mkF m 33 #[.val (.ref a), .val (.ref b), .val (.int (0 : Int32)), .val (.int (2 : Int32)), .val .null, .unset] []))
  refine own_st (fun _ k => XS.aloadN X3.here hx rfl (hb hby own_d_jdk_42_method_149_code_33) rfl rfl k) ?_
  show own_Gl _ _ _ _ _ _ _ (T3.setTop (mkF m 34 #[.val (.ref a), .val (.ref b), .val (.int (0 : Int32)), .val (.int (2 : Int32)), .val .null, .unset] [(.ref b)]))
  refine own_st (fun _ k => XS.iloadN X3.here hx rfl (hb hby own_d_jdk_42_method_149_code_34) rfl k) ?_
  show own_Gl _ _ _ _ _ _ _ (T3.setTop (mkF m 35 #[.val (.ref a), .val (.ref b), .val (.int (0 : Int32)), .val (.int (2 : Int32)), .val .null, .unset] [(.int (0 : Int32)), (.ref b)]))
  refine own_st (fun _ k => XS.iloadN X3.here hx rfl (hb hby own_d_jdk_42_method_149_code_35) rfl k) ?_
  show own_Gl _ _ _ _ _ _ _ (T3.setTop (mkF m 36 #[.val (.ref a), .val (.ref b), .val (.int (0 : Int32)), .val (.int (2 : Int32)), .val .null, .unset] [(.int (2 : Int32)), (.int (0 : Int32)), (.ref b)]))
  obtain ⟨_, _, ⟨T5, L5, k5, n5⟩, -, X5, ⟨Lc5, hQ5, l5, y5, z5⟩, st5⟩ := Jvm.LawKit.callS X3 hx (y := (⟨"java/lang/StringUTF16", "compress", "([CII)[B"⟩ : MethodName)) hown (mvT hZ (hw _ (List.mem_of_getElem? (i := 16) rfl))) (mvT hZ (hw _ (List.mem_of_getElem? (i := 17) rfl))) (mvT hZ (hw _ (List.mem_of_getElem? (i := 18) rfl))) (mvT hZ (hw _ (List.mem_of_getElem? (i := 19) rfl))) (by decide) (backOf (W := 0) (own_c3_2_0 l Z a0 hw [] b k v0 v1 h0 n0 Z0 V_b hgt Old0 S__assertionsDisabled S_HI_BYTE_SHIFT S_LO_BYTE_SHIFT hr0 hr1) hZ (hw _ (List.mem_of_getElem? (i := 19) rfl)) (hw _ (List.mem_of_getElem? (i := 18) rfl)) (by decide) (by decide)) (g := (mkF m 36 #[.val (.ref a), .val (.ref b), .val (.int (0 : Int32)), .val (.int (2 : Int32)), .val .null, .unset] [(.int (2 : Int32)), (.int (0 : Int32)), (.ref b)])) rfl (by rw [hml]; rfl) (argsL := [(.ref b), (.int (0 : Int32)), (.int (2 : Int32))]) (rest := []) (lenOf own_pd461289092 rfl) rfl (by show 2 * 0 + _ ≤ _; exact Nat.le_of_eq rfl) (hb hby own_d_jdk_42_method_149_code_36) (fun _ _ => ⟨rfl, e3, (by decide : 0 + 2 ≤ ({ frames := 4, cells := 2, slots := 6, locals := 57 } : Room).cells), (by decide : 0 + 6 ≤ ({ frames := 4, cells := 2, slots := 6, locals := 57 } : Room).slots)⟩)
  dsimp only [Pt.U, Pt.locs, Pt.cells, Pt.slots] at X5 l5 y5 z5 st5 hQ5
  subst l5 y5 z5
  obtain ⟨hh5, eh05⟩ : ∃ z, T5.heap = z := ⟨_, rfl⟩
  rw [eh05] at hQ5
  obtain ⟨r_5, kr_5, rfl, Nq5, Kq5, P5_0, P5_1, P5_2⟩ := hQ5
  have N5 := Fr.app N0 Nq5
  refine own_st st5 ?_
  have Zs6 : n0 ≤ hh5.size := Nat.le_trans Z0 Kq5.1
  have gh_r_5 : h0.size ≤ r_5 := Nat.le_trans (Keep.refl h0 [a]).1 P5_1
  have ne_a_r_5 : a ≠ r_5 := Nat.ne_of_lt (Nat.lt_of_lt_of_le E_a.lt P5_1)
  have ne_b_r_5 : b ≠ r_5 := Nat.ne_of_lt (Nat.lt_of_lt_of_le V_b.lt P5_1)
  show own_Gl _ _ _ _ _ _ _ (T5.setTop (mkF m 39 #[.val (.ref a), .val (.ref b), .val (.int (0 : Int32)), .val (.int (2 : Int32)), .val .null, .unset] [(.ref r_5)]))
  refine own_st (fun _ k => XS.astore X5.here hx rfl (hb hby own_d_jdk_42_method_149_code_39) rfl rfl (l' := #[.val (.ref a), .val (.ref b), .val (.int (0 : Int32)), .val (.int (2 : Int32)), .val .null, .val (.ref r_5)]) rfl k) ?_
  show own_Gl _ _ _ _ _ _ _ (T5.setTop (mkF m 41 #[.val (.ref a), .val (.ref b), .val (.int (0 : Int32)), .val (.int (2 : Int32)), .val .null, .val (.ref r_5)] []))
  refine own_st (fun _ k => XS.aloadN X5.here hx rfl (hb hby own_d_jdk_42_method_149_code_41) rfl rfl k) ?_
  show own_Gl _ _ _ _ _ _ _ (T5.setTop (mkF m 42 #[.val (.ref a), .val (.ref b), .val (.int (0 : Int32)), .val (.int (2 : Int32)), .val .null, .val (.ref r_5)] [(.ref a)]))
  refine own_st (fun _ k => XS.aload X5.here hx rfl (hb hby own_d_jdk_42_method_149_code_42) rfl rfl k) ?_
  show own_Gl _ _ _ _ _ _ _ (T5.setTop (mkF m 44 #[.val (.ref a), .val (.ref b), .val (.int (0 : Int32)), .val (.int (2 : Int32)), .val .null, .val (.ref r_5)] [(.ref r_5), (.ref a)]))
  refine own_st (fun _ k => XS.iloadN X5.here hx rfl (hb hby own_d_jdk_42_method_149_code_44) rfl k) ?_
  show own_Gl _ _ _ _ _ _ _ (T5.setTop (mkF m 45 #[.val (.ref a), .val (.ref b), .val (.int (0 : Int32)), .val (.int (2 : Int32)), .val .null, .val (.ref r_5)] [(.int (2 : Int32)), (.ref r_5), (.ref a)]))
  have f8 := (E_a.keep Kq5)
  have f9 := (V_b.keep Kq5 nin0)
  obtain ⟨_, _, ⟨T7, L7, k7, n7⟩, -, X7, ⟨Lc7, hQ7, l7, y7, z7⟩, st7⟩ := Jvm.LawKit.callS X5 hx (y := (⟨"java/lang/StringUTF16", "coderFromArrayLen", "([BI)B"⟩ : MethodName)) hown (mvT hZ (hw _ (List.mem_of_getElem? (i := 24) rfl))) (mvT hZ (hw _ (List.mem_of_getElem? (i := 25) rfl))) (mvT hZ (hw _ (List.mem_of_getElem? (i := 18) rfl))) (mvT hZ (hw _ (List.mem_of_getElem? (i := 26) rfl))) (by decide) (backOf (W := 1) (own_cf_2_0 l Z a0 hw [] r_5 kr_5 [(.int (nar .byte ((v0 >>> ((0 : Int32) &&& 31)).toInt8.toInt32))), (.int (nar .byte ((v0 >>> ((8 : Int32) &&& 31)).toInt8.toInt32))), (.int (nar .byte ((v1 >>> ((0 : Int32) &&& 31)).toInt8.toInt32))), (.int (nar .byte ((v1 >>> ((8 : Int32) &&& 31)).toInt8.toInt32)))] hh5 n0 Zs6 P5_2) hZ (hw _ (List.mem_of_getElem? (i := 26) rfl)) (hw _ (List.mem_of_getElem? (i := 18) rfl)) (by decide) (by decide)) (g := (mkF m 45 #[.val (.ref a), .val (.ref b), .val (.int (0 : Int32)), .val (.int (2 : Int32)), .val .null, .val (.ref r_5)] [(.int (2 : Int32)), (.ref r_5), (.ref a)])) rfl (by rw [hml]; rfl) (argsL := [(.ref r_5), (.int (2 : Int32))]) (rest := [(.ref a)]) (lenOf own_pd128711047 rfl) rfl (by show 2 * 0 + _ ≤ _; exact Nat.le_of_eq rfl) (hb hby own_d_jdk_42_method_149_code_45) (fun _ _ => ⟨rfl, eh05, (by decide : 2 + 0 ≤ ({ frames := 4, cells := 2, slots := 6, locals := 57 } : Room).cells), (by decide : 6 + 0 ≤ ({ frames := 4, cells := 2, slots := 6, locals := 57 } : Room).slots)⟩)
  dsimp only [Pt.U, Pt.locs, Pt.cells, Pt.slots] at X7 l7 y7 z7 st7 hQ7
  subst l7 y7 z7
  obtain ⟨hh7, eh07⟩ : ∃ z, T7.heap = z := ⟨_, rfl⟩
  rw [eh07] at hQ7
  obtain ⟨rfl, Nq7, eh7⟩ := hQ7
  have N7 := Fr.app N5 Nq7
  refine own_st st7 ?_
  have e7 : T7.heap = hh5 := eh07.trans eh7
  show own_Gl _ _ _ _ _ _ _ (T7.setTop (mkF m 48 #[.val (.ref a), .val (.ref b), .val (.int (0 : Int32)), .val (.int (2 : Int32)), .val .null, .val (.ref r_5)] [(.int (1 : Int32)), (.ref a)]))
  have f10 := (F_a_coder.keep Kq5 nin0)
  obtain ⟨T11, h11, X11, e11, W11, st11⟩ := putFN X7 hx hZ hown (hw _ (List.mem_of_getElem? (i := 27) rfl)) Via.refl e7 f10 f8 (Or.inr ⟨(hw _ (List.mem_of_getElem? (i := 28) rfl)), rfl, hnm⟩) (hw _ (List.mem_of_getElem? (i := 3) rfl)) (ty := .byte) (v' := (.int (nar .byte (1 : Int32)))) (by decide) rfl (fits_nar_byte _) (g := (mkF m 48 #[.val (.ref a), .val (.ref b), .val (.int (0 : Int32)), .val (.int (2 : Int32)), .val .null, .val (.ref r_5)] [(.int (1 : Int32)), (.ref a)])) rfl rfl (hb hby own_d_jdk_42_method_149_code_48)
  have N11 := Fr.snoc X11 N7 g_a
  refine own_st st11 ?_
  have Zs12 : n0 ≤ h11.size := Nat.le_trans Zs6 (Keep.of_wr W11).1
  have Fw11 := f10.same W11
  show own_Gl _ _ _ _ _ _ _ (T11.setTop (mkF m 51 #[.val (.ref a), .val (.ref b), .val (.int (0 : Int32)), .val (.int (2 : Int32)), .val .null, .val (.ref r_5)] []))
  refine own_st (fun _ k => XS.aloadN X11.here hx rfl (hb hby own_d_jdk_42_method_149_code_51) rfl rfl k) ?_
  show own_Gl _ _ _ _ _ _ _ (T11.setTop (mkF m 52 #[.val (.ref a), .val (.ref b), .val (.int (0 : Int32)), .val (.int (2 : Int32)), .val .null, .val (.ref r_5)] [(.ref a)]))
  refine own_st (fun _ k => XS.aload X11.here hx rfl (hb hby own_d_jdk_42_method_149_code_52) rfl rfl k) ?_
  show own_Gl _ _ _ _ _ _ _ (T11.setTop (mkF m 54 #[.val (.ref a), .val (.ref b), .val (.int (0 : Int32)), .val (.int (2 : Int32)), .val .null, .val (.ref r_5)] [(.ref r_5), (.ref a)]))
  have f13 := (f8.wr W11)
  have f14 := ((F_a_value.keep Kq5 nin0).other W11 (Or.inr (slot_ne (Or.inr (hw _ (List.mem_of_getElem? (i := 30) rfl))) (Or.inr (hw _ (List.mem_of_getElem? (i := 28) rfl))) (by decide) (t := (.array .byte)) (t' := .byte) (by decide) (by decide))))
  obtain ⟨T15, h15, X15, e15, W15, st15⟩ := putF X11 hx hZ hown (host := "") (Or.inl (hw _ (List.mem_of_getElem? (i := 29) rfl))) Via.refl e11 f14 f13 (Or.inr ⟨(hw _ (List.mem_of_getElem? (i := 30) rfl)), rfl, hnm⟩) (hw _ (List.mem_of_getElem? (i := 3) rfl)) (ty := (.array .byte)) (by decide) rfl rfl (g := (mkF m 54 #[.val (.ref a), .val (.ref b), .val (.int (0 : Int32)), .val (.int (2 : Int32)), .val .null, .val (.ref r_5)] [(.ref r_5), (.ref a)])) rfl rfl (hb hby own_d_jdk_42_method_149_code_54)
  have N15 := Fr.snoc X15 N11 g_a
  refine own_st st15 ?_
  have Zs16 : n0 ≤ h15.size := Nat.le_trans Zs12 (Keep.of_wr W15).1
  have Fw15 := f14.same W15
  show own_Gl _ _ _ _ _ _ _ (T15.setTop (mkF m 57 #[.val (.ref a), .val (.ref b), .val (.int (0 : Int32)), .val (.int (2 : Int32)), .val .null, .val (.ref r_5)] []))
  have f17 := (Fw11.other W15 (Or.inr (slot_ne (Or.inr (hw _ (List.mem_of_getElem? (i := 28) rfl))) (Or.inr (hw _ (List.mem_of_getElem? (i := 30) rfl))) (by decide) (t := .byte) (t' := (.array .byte)) (by decide) (by decide))))
  have K18 : Keep h0 h15 [a] := ((((Keep.refl h0 [a]).trans Kq5 all0).wr W11 (Or.inl (List.mem_of_getElem? (i := 0) rfl))).wr W15 (Or.inl (List.mem_of_getElem? (i := 0) rfl)))
  have f19 := ((P5_2.other W11 (Ne.symm ne_a_r_5)).other W15 (Ne.symm ne_a_r_5))
  exact own_retV X15 hx hlk hret (hb hby own_d_jdk_42_method_149_code_57) e15 ⟨r_5, kr_5, rfl, N15, K18, P5_0, gh_r_5, f19, Fw15, f17⟩ (by decide) (by decide)
theorem own_d_jdk_42_method_3_code_0 : decode jdk_42_method_3_code 0 = .ok (.aload_n 0, 1) := by decide +kernel
theorem own_d_jdk_42_method_3_code_1 : decode jdk_42_method_3_code 1 = .ok (.aload_n 1, 1) := by decide +kernel
theorem own_d_jdk_42_method_3_code_2 : decode jdk_42_method_3_code 2 = .ok (.iconst 0, 1) := by decide +kernel
theorem own_d_jdk_42_method_3_code_3 : decode jdk_42_method_3_code 3 = .ok (.aload_n 1, 1) := by decide +kernel
theorem own_d_jdk_42_method_3_code_4 : decode jdk_42_method_3_code 4 = .ok (.arraylength, 1) := by decide +kernel
theorem own_d_jdk_42_method_3_code_5 : decode jdk_42_method_3_code 5 = .ok (.aconst_null, 1) := by decide +kernel
theorem own_d_jdk_42_method_3_code_6 : decode jdk_42_method_3_code 6 = .ok (.invokespecial 27, 3) := by decide +kernel
theorem own_pd888094010 : parseMethodDescriptor "([CIILjava/lang/Void;)V" = some ⟨[(.array .char), .int, .int, (.object "java/lang/Void")], none⟩ := by decide +kernel
theorem own_d_jdk_42_method_3_code_9 : decode jdk_42_method_3_code 9 = .ok (.return_, 1) := by decide +kernel
theorem own_ef_own_i1_2_0 (m : MethodId) (x0 : Addr) (x1 : Addr) : entryFrame m #[(.ref x0), (.ref x1)] 2 = mkF m 0 #[.val (.ref x0), .val (.ref x1)] [] := by first | (simp [entryFrame, mkF, argsToLocals, Value.category]; done) | rfl
def own_Q_own_i1_2_0 (Z : State) (a : Addr) (b : Addr) (k : ClassId) (v0 : Int32) (v1 : Int32) (cs : Int32) (h0 : Heap) (n0 : Nat) (v : Option Value) (h : Heap) (L : List Loc) : Prop := ∃ (r : Addr) (kr : ClassId), (v = none) ∧ (Fr n0 L) ∧ (Keep h0 h [a]) ∧ (n0 ≤ r) ∧ (h0.size ≤ r) ∧ (Arv Z h r kr .byte (4 : Int32) [(.int (nar .byte ((v0 >>> ((0 : Int32) &&& 31)).toInt8.toInt32))), (.int (nar .byte ((v0 >>> ((8 : Int32) &&& 31)).toInt8.toInt32))), (.int (nar .byte ((v1 >>> ((0 : Int32) &&& 31)).toInt8.toInt32))), (.int (nar .byte ((v1 >>> ((8 : Int32) &&& 31)).toInt8.toInt32)))] (.int (0 : Int32))) ∧ (Fld Z h a "java/lang/String" "value" "[B" (.ref r)) ∧ (Fld Z h a "java/lang/String" "coder" "B" (.int (1 : Int32)))
set_option maxRecDepth 65536 in
set_option maxHeartbeats 40000000 in
theorem own_i1_2_0 (l : Launch) (Z : State) (a0 : Array Value) (hw : ∀ d ∈ tables_1, d.before a0 Z = true) (ws : List Jvm.Cond) (a : Addr) (b : Addr) (k : ClassId) (v0 : Int32) (v1 : Int32) (cs : Int32) (h0 : Heap) (n0 : Nat) (Z0 : n0 ≤ h0.size) (E_a : Exa Z h0 a "java/lang/String") (F_a_value : Fld Z h0 a "java/lang/String" "value" "[B" .null) (F_a_coder : Fld Z h0 a "java/lang/String" "coder" "B" (.int (0 : Int32))) (g_a : n0 ≤ a) (ne_a_b : a ≠ b) (V_b : Arv Z h0 b k .char (2 : Int32) [(.int v0), (.int v1)] (.int (0 : Int32))) (hgt : (255 : Int32) < v0) (S_COMPACT_STRINGS : Sta Z Z.heap "java/lang/String" "COMPACT_STRINGS" "Z" (.int cs)) (hcs : ¬ (cs = (0 : Int32))) (Old0 : Old Z n0 h0) (S__assertionsDisabled : Sta Z Z.heap "java/lang/StringUTF16" "$assertionsDisabled" "Z" (.int (1 : Int32))) (S_HI_BYTE_SHIFT : Sta Z Z.heap "java/lang/StringUTF16" "HI_BYTE_SHIFT" "I" (.int (0 : Int32))) (S_LO_BYTE_SHIFT : Sta Z Z.heap "java/lang/StringUTF16" "LO_BYTE_SHIFT" "I" (.int (8 : Int32))) (hr0 : ¬ v0 < (0 : Int32) ∧ ¬ (65535 : Int32) < v0) (hr1 : ¬ v1 < (0 : Int32) ∧ ¬ (65535 : Int32) < v1) :
    MetFree l (⟨"java/lang/String", "<init>", "([C)V"⟩ : MethodName) (head1 (Jvm.Cond.code (⟨"java/lang/String", "<init>", "([C)V"⟩ : MethodName) jdk_42_method_3_code 2 none :: ws) ({ frames := 5, cells := 2, slots := 6, locals := 74 } : Room)) (fun xa xU => xa = #[(.ref a), (.ref b)] ∧ Z.Warmed39 xU.vm ∧ xU.heap = h0) (fun _ _ _ _ _ => True) (fun _ xU xo xV => ∃ v L, xo = .returned v ∧ own_Q_own_i1_2_0 Z a b k v0 v1 cs h0 n0 v xV.heap L ∧ FrameEnd xU xo xV L ({ frames := 5, cells := 2, slots := 6, locals := 74 } : Room).cells ({ frames := 5, cells := 2, slots := 6, locals := 74 } : Room).slots) := by
  refine MetFree.of_bodySF (plainFor_of_name own_pn853443214) hisR ?_
  intro p e s m args below meth c s₁ Bd hml0 hP hK
  obtain ⟨rfl, hZ, hh⟩ := hP
  have hx := Bd.exec
  have hby := Bd.bytes
  have hlk := Bd.notSynchronized
  have hret := Bd.returns
  have hml : c.maxLocals = 2 := hml0
  have hown : s.vm.findClass "java/lang/String" = some m.cls := findClass_of_methodNamed Bd.named
  have hnm := (name_of_methodNamed Bd.named Bd.method).1
  have X0 : Stand p l e ({ frames := 5, cells := 2, slots := 6, locals := 74 } : Room) s m #[(.ref a), (.ref b)] below meth c s₁ [] 0 0 := Stand.of_body Bd
  have e0 : s₁.heap = h0 := by rw [← hh, Bd.state]; rfl
  have N0 := Fr.nil n0
  show own_Gl p e below s (own_Q_own_i1_2_0 Z a b k v0 v1 cs h0 n0) ({ frames := 5, cells := 2, slots := 6, locals := 74 } : Room).cells ({ frames := 5, cells := 2, slots := 6, locals := 74 } : Room).slots _
  refine own_cast (own_ef_own_i1_2_0 m a b) ?_
  show own_Gl _ _ _ _ _ _ _ (s₁.setTop (mkF m 0 #[.val (.ref a), .val (.ref b)] []))
  refine own_st (fun _ k => XS.aloadN X0.here hx rfl (hb hby own_d_jdk_42_method_3_code_0) rfl rfl k) ?_
  show own_Gl _ _ _ _ _ _ _ (s₁.setTop (mkF m 1 #[.val (.ref a), .val (.ref b)] [(.ref a)]))
  refine own_st (fun _ k => XS.aloadN X0.here hx rfl (hb hby own_d_jdk_42_method_3_code_1) rfl rfl k) ?_
  show own_Gl _ _ _ _ _ _ _ (s₁.setTop (mkF m 2 #[.val (.ref a), .val (.ref b)] [(.ref b), (.ref a)]))
  refine own_st (fun _ k => XS.iconst X0.here hx rfl (hb hby own_d_jdk_42_method_3_code_2) k) ?_
  show own_Gl _ _ _ _ _ _ _ (s₁.setTop (mkF m 3 #[.val (.ref a), .val (.ref b)] [(.int (0 : Int32)), (.ref b), (.ref a)]))
  refine own_st (fun _ k => XS.aloadN X0.here hx rfl (hb hby own_d_jdk_42_method_3_code_3) rfl rfl k) ?_
  show own_Gl _ _ _ _ _ _ _ (s₁.setTop (mkF m 4 #[.val (.ref a), .val (.ref b)] [(.ref b), (.int (0 : Int32)), (.ref b), (.ref a)]))
  obtain ⟨cl1, Ar1, qq1, Ss1, Nn1, Hh1, Gg1⟩ := id V_b
  refine own_st (X0.arraylength hx (by rw [e0]; exact Ar1.1) (State.isArrayOf_alike hZ.alike Ar1.2.1) (g := (mkF m 4 #[.val (.ref a), .val (.ref b)] [(.ref b), (.int (0 : Int32)), (.ref b), (.ref a)])) rfl rfl (hb hby own_d_jdk_42_method_3_code_4)) ?_
  rw [len_of Ss1 Nn1]
  show own_Gl _ _ _ _ _ _ _ (s₁.setTop (mkF m 5 #[.val (.ref a), .val (.ref b)] [(.int (2 : Int32)), (.int (0 : Int32)), (.ref b), (.ref a)]))
  refine own_st (fun _ k => XS.aconstNull X0.here hx rfl (hb hby own_d_jdk_42_method_3_code_5) k) ?_
  show own_Gl _ _ _ _ _ _ _ (s₁.setTop (mkF m 6 #[.val (.ref a), .val (.ref b)] [.null, (.int (2 : Int32)), (.int (0 : Int32)), (.ref b), (.ref a)]))
  obtain ⟨_, _, ⟨T2, L2, k2, n2⟩, -, X2, ⟨Lc2, hQ2, l2, y2, z2⟩, st2⟩ := X0.specialBack hx (y := (⟨"java/lang/String", "<init>", "([CIILjava/lang/Void;)V"⟩ : MethodName)) rfl hown (mvT hZ (hw _ (List.mem_of_getElem? (i := 8) rfl))) (mvT hZ (hw _ (List.mem_of_getElem? (i := 9) rfl))) (mvT hZ (hw _ (List.mem_of_getElem? (i := 11) rfl))) (by decide) (backOf (W := 0) (own_i4_2_0 l Z a0 hw [] a b k v0 v1 cs h0 n0 Z0 E_a F_a_value F_a_coder g_a ne_a_b V_b hgt S_COMPACT_STRINGS hcs Old0 S__assertionsDisabled S_HI_BYTE_SHIFT S_LO_BYTE_SHIFT hr0 hr1) hZ (hw _ (List.mem_of_getElem? (i := 11) rfl)) (hw _ (List.mem_of_getElem? (i := 4) rfl)) (by decide) (by decide)) (g := (mkF m 6 #[.val (.ref a), .val (.ref b)] [.null, (.int (2 : Int32)), (.int (0 : Int32)), (.ref b), (.ref a)])) rfl (by rw [hml]; rfl) (Steps.refl _) (a := a) (argsL := [(.ref b), (.int (0 : Int32)), (.int (2 : Int32)), .null]) (rest := []) (lenOf own_pd888094010 rfl) rfl (by show 2 * 0 + _ ≤ _; exact Nat.le_of_eq rfl) (hb hby own_d_jdk_42_method_3_code_6) (fun _ _ => ⟨rfl, e0, (by decide : 0 + 2 ≤ ({ frames := 5, cells := 2, slots := 6, locals := 74 } : Room).cells), (by decide : 0 + 6 ≤ ({ frames := 5, cells := 2, slots := 6, locals := 74 } : Room).slots)⟩)
  dsimp only [Pt.U, Pt.locs, Pt.cells, Pt.slots] at X2 l2 y2 z2 st2 hQ2
  subst l2 y2 z2
  obtain ⟨hh2, eh02⟩ : ∃ z, T2.heap = z := ⟨_, rfl⟩
  rw [eh02] at hQ2
  obtain ⟨r_2, kr_2, rfl, Nq2, Kq2, P2_0, P2_1, P2_2, P2_3, P2_4⟩ := hQ2
  have N2 := Fr.app N0 Nq2
  refine own_tr st2 ?_
  have Zs3 : n0 ≤ hh2.size := Nat.le_trans Z0 Kq2.1
  have gh_r_2 : h0.size ≤ r_2 := Nat.le_trans (Keep.refl h0 [a]).1 P2_1
  have ne_a_r_2 : a ≠ r_2 := Nat.ne_of_lt (Nat.lt_of_lt_of_le E_a.lt P2_1)
  have ne_b_r_2 : b ≠ r_2 := Nat.ne_of_lt (Nat.lt_of_lt_of_le V_b.lt P2_1)
  show own_Gl _ _ _ _ _ _ _ (T2.setTop (mkF m 9 #[.val (.ref a), .val (.ref b)] []))
  have K4 : Keep h0 hh2 [a] := ((Keep.refl h0 [a]).trans Kq2 (allS (Or.inl (List.mem_of_getElem? (i := 0) rfl)) all0))
  exact own_retV X2 hx hlk hret (hb hby own_d_jdk_42_method_3_code_9) eh02 ⟨r_2, kr_2, rfl, N2, K4, P2_0, gh_r_2, P2_2, P2_3, P2_4⟩ (by decide) (by decide)
theorem own_d_jdk_52_method_21_code_26 : decode jdk_52_method_21_code 26 = .ok (.aload_n 2, 1) := by decide +kernel
theorem own_d_jdk_52_method_21_code_27 : decode jdk_52_method_21_code 27 = .ok (.iload_n 3, 1) := by decide +kernel
theorem own_d_jdk_52_method_21_code_28 : decode jdk_52_method_21_code 28 = .ok (.iload 6, 2) := by decide +kernel
theorem own_d_jdk_52_method_21_code_30 : decode jdk_52_method_21_code 30 = .ok (.i2b, 1) := by decide +kernel
theorem own_d_jdk_52_method_21_code_31 : decode jdk_52_method_21_code 31 = .ok (.bastore, 1) := by decide +kernel
theorem own_d_jdk_52_method_21_code_32 : decode jdk_52_method_21_code 32 = .ok (.iinc 1 1, 3) := by decide +kernel
theorem own_d_jdk_52_method_21_code_35 : decode jdk_52_method_21_code 35 = .ok (.iinc 3 1, 3) := by decide +kernel
theorem own_d_jdk_52_method_21_code_38 : decode jdk_52_method_21_code 38 = .ok (.iinc 5 1, 3) := by decide +kernel
theorem own_d_jdk_52_method_21_code_41 : decode jdk_52_method_21_code 41 = .ok (.goto (-38), 3) := by decide +kernel
theorem own_ef_own_c5_2_1 (m : MethodId) (x0 : Addr) (x1 : Int32) (x2 : Addr) (x3 : Int32) (x4 : Int32) : entryFrame m #[(.ref x0), (.int x1), (.ref x2), (.int x3), (.int x4)] 7 = mkF m 0 #[.val (.ref x0), .val (.int x1), .val (.ref x2), .val (.int x3), .val (.int x4), .unset, .unset] [] := by first | (simp [entryFrame, mkF, argsToLocals, Value.category]; done) | rfl
def own_Q_own_c5_2_1 (Z : State) (a : Addr) (b : Addr) (k : ClassId) (kb : ClassId) (v0 : Int32) (v1 : Int32) (h0 : Heap) (n0 : Nat) (v : Option Value) (h : Heap) (L : List Loc) : Prop := (v = some (.int (1 : Int32))) ∧ (Fr n0 L) ∧ (Keep h0 h [b]) ∧ (Arv Z h b kb .byte (2 : Int32) [(.int (nar .byte (v0.toInt8.toInt32))), (.int (0 : Int32))] (.int (0 : Int32)))
set_option maxRecDepth 65536 in
set_option maxHeartbeats 40000000 in
theorem own_c5_2_1 (l : Launch) (Z : State) (a0 : Array Value) (hw : ∀ d ∈ tables_1, d.before a0 Z = true) (ws : List Jvm.Cond) (a : Addr) (b : Addr) (k : ClassId) (kb : ClassId) (v0 : Int32) (v1 : Int32) (h0 : Heap) (n0 : Nat) (Z0 : n0 ≤ h0.size) (V_a : Arv Z h0 a k .char (2 : Int32) [(.int v0), (.int v1)] (.int (0 : Int32))) (V_b : Arv Z h0 b kb .byte (2 : Int32) [(.int (0 : Int32)), (.int (0 : Int32))] (.int (0 : Int32))) (g_b : n0 ≤ b) (ne_a_b : a ≠ b) (hle0 : ¬ ((255 : Int32) < v0)) (hgt : (255 : Int32) < v1) :
    MetFree l (⟨"java/lang/StringUTF16", "compress", "([CI[BII)I"⟩ : MethodName) (head1 (Jvm.Cond.code (⟨"java/lang/StringUTF16", "compress", "([CI[BII)I"⟩ : MethodName) jdk_52_method_21_code 7 (some .int) :: ws) ({ frames := 0, cells := 0, slots := 0, locals := 0 } : Room)) (fun xa xU => xa = #[(.ref a), (.int (0 : Int32)), (.ref b), (.int (0 : Int32)), (.int (2 : Int32))] ∧ Z.Warmed39 xU.vm ∧ xU.heap = h0) (fun _ _ _ _ _ => True) (fun _ xU xo xV => ∃ v L, xo = .returned v ∧ own_Q_own_c5_2_1 Z a b k kb v0 v1 h0 n0 v xV.heap L ∧ FrameEnd xU xo xV L ({ frames := 0, cells := 0, slots := 0, locals := 0 } : Room).cells ({ frames := 0, cells := 0, slots := 0, locals := 0 } : Room).slots) := by
  refine MetFree.of_bodySF (plainFor_of_name own_pn730740715) hisR ?_
  intro p e s m args below meth c s₁ Bd hml0 hP hK
  obtain ⟨rfl, hZ, hh⟩ := hP
  have hx := Bd.exec
  have hby := Bd.bytes
  have hlk := Bd.notSynchronized
  have hret := Bd.returns
  have hml : c.maxLocals = 7 := hml0
  have hown : s.vm.findClass "java/lang/StringUTF16" = some m.cls := findClass_of_methodNamed Bd.named
  have hnm := (name_of_methodNamed Bd.named Bd.method).1
  have X0 : Stand p l e ({ frames := 0, cells := 0, slots := 0, locals := 0 } : Room) s m #[(.ref a), (.int (0 : Int32)), (.ref b), (.int (0 : Int32)), (.int (2 : Int32))] below meth c s₁ [] 0 0 := Stand.of_body Bd
  have e0 : s₁.heap = h0 := by rw [← hh, Bd.state]; rfl
  have N0 := Fr.nil n0
  show own_Gl p e below s (own_Q_own_c5_2_1 Z a b k kb v0 v1 h0 n0) ({ frames := 0, cells := 0, slots := 0, locals := 0 } : Room).cells ({ frames := 0, cells := 0, slots := 0, locals := 0 } : Room).slots _
  refine own_cast (own_ef_own_c5_2_1 m a (0 : Int32) b (0 : Int32) (2 : Int32)) ?_
  show own_Gl _ _ _ _ _ _ _ (s₁.setTop (mkF m 0 #[.val (.ref a), .val (.int (0 : Int32)), .val (.ref b), .val (.int (0 : Int32)), .val (.int (2 : Int32)), .unset, .unset] []))
  refine own_st (fun _ k => XS.iconst X0.here hx rfl (hb hby own_d_jdk_52_method_21_code_0) k) ?_
  show own_Gl _ _ _ _ _ _ _ (s₁.setTop (mkF m 1 #[.val (.ref a), .val (.int (0 : Int32)), .val (.ref b), .val (.int (0 : Int32)), .val (.int (2 : Int32)), .unset, .unset] [(.int (0 : Int32))]))
  refine own_st (fun _ k => XS.istore X0.here hx rfl (hb hby own_d_jdk_52_method_21_code_1) rfl (l' := #[.val (.ref a), .val (.int (0 : Int32)), .val (.ref b), .val (.int (0 : Int32)), .val (.int (2 : Int32)), .val (.int (0 : Int32)), .unset]) rfl k) ?_
  show own_Gl _ _ _ _ _ _ _ (s₁.setTop (mkF m 3 #[.val (.ref a), .val (.int (0 : Int32)), .val (.ref b), .val (.int (0 : Int32)), .val (.int (2 : Int32)), .val (.int (0 : Int32)), .unset] []))
  refine own_st (fun _ k => XS.iload X0.here hx rfl (hb hby own_d_jdk_52_method_21_code_3) rfl k) ?_
  show own_Gl _ _ _ _ _ _ _ (s₁.setTop (mkF m 5 #[.val (.ref a), .val (.int (0 : Int32)), .val (.ref b), .val (.int (0 : Int32)), .val (.int (2 : Int32)), .val (.int (0 : Int32)), .unset] [(.int (0 : Int32))]))
  refine own_st (fun _ k => XS.iload X0.here hx rfl (hb hby own_d_jdk_52_method_21_code_5) rfl k) ?_
  show own_Gl _ _ _ _ _ _ _ (s₁.setTop (mkF m 7 #[.val (.ref a), .val (.int (0 : Int32)), .val (.ref b), .val (.int (0 : Int32)), .val (.int (2 : Int32)), .val (.int (0 : Int32)), .unset] [(.int (2 : Int32)), (.int (0 : Int32))]))
  have hd1 : (0 : Int32) < (2 : Int32) := (by decide)
  refine own_st (fun _ k => XS.icmpNo X0.here hx rfl (hb hby own_d_jdk_52_method_21_code_7) rfl (tlt hd1).2.1 k) ?_
  show own_Gl _ _ _ _ _ _ _ (s₁.setTop (mkF m 10 #[.val (.ref a), .val (.int (0 : Int32)), .val (.ref b), .val (.int (0 : Int32)), .val (.int (2 : Int32)), .val (.int (0 : Int32)), .unset] []))
  refine own_st (fun _ k => XS.aloadN X0.here hx rfl (hb hby own_d_jdk_52_method_21_code_10) rfl rfl k) ?_
  show own_Gl _ _ _ _ _ _ _ (s₁.setTop (mkF m 11 #[.val (.ref a), .val (.int (0 : Int32)), .val (.ref b), .val (.int (0 : Int32)), .val (.int (2 : Int32)), .val (.int (0 : Int32)), .unset] [(.ref a)]))
  refine own_st (fun _ k => XS.iloadN X0.here hx rfl (hb hby own_d_jdk_52_method_21_code_11) rfl k) ?_
  show own_Gl _ _ _ _ _ _ _ (s₁.setTop (mkF m 12 #[.val (.ref a), .val (.int (0 : Int32)), .val (.ref b), .val (.int (0 : Int32)), .val (.int (2 : Int32)), .val (.int (0 : Int32)), .unset] [(.int (0 : Int32)), (.ref a)]))
  obtain ⟨cl2, Ar2, qq2, Ss2, Nn2, Hh2, Gg2⟩ := id V_a
  have hin2 : ¬ ((0 : Int32) < 0 ∨ cl2.slots.size ≤ ((0 : Int32)).toNatClampNeg) := inb_of Ss2 ⟨by decide, by decide⟩
  have hat2 : cl2.slots[((0 : Int32)).toNatClampNeg]? = some (.int v0) := Hh2.at hin2 (rfl)
  refine own_st (X0.caload hx (j := (0 : Int32)) (v := (.int v0)) (by rw [e0]; exact Ar2.1) (State.isArrayOf_alike hZ.alike Ar2.2.1) Ar2.2.2 hin2 hat2 (g := (mkF m 12 #[.val (.ref a), .val (.int (0 : Int32)), .val (.ref b), .val (.int (0 : Int32)), .val (.int (2 : Int32)), .val (.int (0 : Int32)), .unset] [(.int (0 : Int32)), (.ref a)])) rfl rfl (hb hby own_d_jdk_52_method_21_code_12)) ?_
  show own_Gl _ _ _ _ _ _ _ (s₁.setTop (mkF m 13 #[.val (.ref a), .val (.int (0 : Int32)), .val (.ref b), .val (.int (0 : Int32)), .val (.int (2 : Int32)), .val (.int (0 : Int32)), .unset] [(.int v0)]))
  refine own_st (fun _ k => XS.istore X0.here hx rfl (hb hby own_d_jdk_52_method_21_code_13) rfl (l' := #[.val (.ref a), .val (.int (0 : Int32)), .val (.ref b), .val (.int (0 : Int32)), .val (.int (2 : Int32)), .val (.int (0 : Int32)), .val (.int v0)]) rfl k) ?_
  show own_Gl _ _ _ _ _ _ _ (s₁.setTop (mkF m 15 #[.val (.ref a), .val (.int (0 : Int32)), .val (.ref b), .val (.int (0 : Int32)), .val (.int (2 : Int32)), .val (.int (0 : Int32)), .val (.int v0)] []))
  refine own_st (fun _ k => XS.iload X0.here hx rfl (hb hby own_d_jdk_52_method_21_code_15) rfl k) ?_
  show own_Gl _ _ _ _ _ _ _ (s₁.setTop (mkF m 17 #[.val (.ref a), .val (.int (0 : Int32)), .val (.ref b), .val (.int (0 : Int32)), .val (.int (2 : Int32)), .val (.int (0 : Int32)), .val (.int v0)] [(.int v0)]))
  refine own_st (fun _ k => XS.sipush X0.here hx rfl (hb hby own_d_jdk_52_method_21_code_17) k) ?_
  show own_Gl _ _ _ _ _ _ _ (s₁.setTop (mkF m 20 #[.val (.ref a), .val (.int (0 : Int32)), .val (.ref b), .val (.int (0 : Int32)), .val (.int (2 : Int32)), .val (.int (0 : Int32)), .val (.int v0)] [(.int (255 : Int32)), (.int v0)]))
  have hd3 : ¬ ((255 : Int32) < v0) := hle0
  refine own_st (fun _ k => XS.icmpYes X0.here hx rfl (pc0 := 20) (pc' := 26) rfl (hb hby own_d_jdk_52_method_21_code_20) rfl (flt hd3).2.2.2 (by decide) (by decide) k) ?_
  show own_Gl _ _ _ _ _ _ _ (s₁.setTop (mkF m 26 #[.val (.ref a), .val (.int (0 : Int32)), .val (.ref b), .val (.int (0 : Int32)), .val (.int (2 : Int32)), .val (.int (0 : Int32)), .val (.int v0)] []))
  refine own_st (fun _ k => XS.aloadN X0.here hx rfl (hb hby own_d_jdk_52_method_21_code_26) rfl rfl k) ?_
  show own_Gl _ _ _ _ _ _ _ (s₁.setTop (mkF m 27 #[.val (.ref a), .val (.int (0 : Int32)), .val (.ref b), .val (.int (0 : Int32)), .val (.int (2 : Int32)), .val (.int (0 : Int32)), .val (.int v0)] [(.ref b)]))
  refine own_st (fun _ k => XS.iloadN X0.here hx rfl (hb hby own_d_jdk_52_method_21_code_27) rfl k) ?_
  show own_Gl _ _ _ _ _ _ _ (s₁.setTop (mkF m 28 #[.val (.ref a), .val (.int (0 : Int32)), .val (.ref b), .val (.int (0 : Int32)), .val (.int (2 : Int32)), .val (.int (0 : Int32)), .val (.int v0)] [(.int (0 : Int32)), (.ref b)]))
  refine own_st (fun _ k => XS.iload X0.here hx rfl (hb hby own_d_jdk_52_method_21_code_28) rfl k) ?_
  show own_Gl _ _ _ _ _ _ _ (s₁.setTop (mkF m 30 #[.val (.ref a), .val (.int (0 : Int32)), .val (.ref b), .val (.int (0 : Int32)), .val (.int (2 : Int32)), .val (.int (0 : Int32)), .val (.int v0)] [(.int v0), (.int (0 : Int32)), (.ref b)]))
  refine own_st (fun _ k => XS.i2b X0.here hx rfl (hb hby own_d_jdk_52_method_21_code_30) rfl k) ?_
  show own_Gl _ _ _ _ _ _ _ (s₁.setTop (mkF m 31 #[.val (.ref a), .val (.int (0 : Int32)), .val (.ref b), .val (.int (0 : Int32)), .val (.int (2 : Int32)), .val (.int (0 : Int32)), .val (.int v0)] [(.int (v0.toInt8.toInt32)), (.int (0 : Int32)), (.ref b)]))
  obtain ⟨cl4, Ar4, qq4, Ss4, Nn4, Hh4, Gg4⟩ := id V_b
  have hin4 : ¬ ((0 : Int32) < 0 ∨ cl4.slots.size ≤ ((0 : Int32)).toNatClampNeg) := inb_of Ss4 ⟨by decide, by decide⟩
  obtain ⟨T4, h4, X4, e4, W4, st4⟩ := stB X0 hx hZ e0 Ar4 (j := (0 : Int32)) hin4 (g := (mkF m 31 #[.val (.ref a), .val (.int (0 : Int32)), .val (.ref b), .val (.int (0 : Int32)), .val (.int (2 : Int32)), .val (.int (0 : Int32)), .val (.int v0)] [(.int (v0.toInt8.toInt32)), (.int (0 : Int32)), (.ref b)])) rfl rfl (hb hby own_d_jdk_52_method_21_code_31)
  have N4 := Fr.snoc X4 N0 g_b
  refine own_st st4 ?_
  have Zs5 : n0 ≤ h4.size := Nat.le_trans Z0 (Keep.of_wr W4).1
  have Vw4 : Arv Z h4 b kb .byte (2 : Int32) [(.int (nar .byte (v0.toInt8.toInt32))), (.int (0 : Int32))] (.int (0 : Int32)) := Arv.set Ar4 qq4 Ss4 Nn4 Hh4 Gg4 (fits_nar_byte _) W4 0 (rfl) (Nat.le_of_ble_eq_true rfl)
  show own_Gl _ _ _ _ _ _ _ (T4.setTop (mkF m 32 #[.val (.ref a), .val (.int (0 : Int32)), .val (.ref b), .val (.int (0 : Int32)), .val (.int (2 : Int32)), .val (.int (0 : Int32)), .val (.int v0)] []))
  refine own_st (fun _ k => XS.iinc X4.here hx rfl (hb hby own_d_jdk_52_method_21_code_32) rfl (l' := #[.val (.ref a), .val (.int (1 : Int32)), .val (.ref b), .val (.int (0 : Int32)), .val (.int (2 : Int32)), .val (.int (0 : Int32)), .val (.int v0)]) rfl k) ?_
  show own_Gl _ _ _ _ _ _ _ (T4.setTop (mkF m 35 #[.val (.ref a), .val (.int (1 : Int32)), .val (.ref b), .val (.int (0 : Int32)), .val (.int (2 : Int32)), .val (.int (0 : Int32)), .val (.int v0)] []))
  refine own_st (fun _ k => XS.iinc X4.here hx rfl (hb hby own_d_jdk_52_method_21_code_35) rfl (l' := #[.val (.ref a), .val (.int (1 : Int32)), .val (.ref b), .val (.int (1 : Int32)), .val (.int (2 : Int32)), .val (.int (0 : Int32)), .val (.int v0)]) rfl k) ?_
  show own_Gl _ _ _ _ _ _ _ (T4.setTop (mkF m 38 #[.val (.ref a), .val (.int (1 : Int32)), .val (.ref b), .val (.int (1 : Int32)), .val (.int (2 : Int32)), .val (.int (0 : Int32)), .val (.int v0)] []))
  refine own_st (fun _ k => XS.iinc X4.here hx rfl (hb hby own_d_jdk_52_method_21_code_38) rfl (l' := #[.val (.ref a), .val (.int (1 : Int32)), .val (.ref b), .val (.int (1 : Int32)), .val (.int (2 : Int32)), .val (.int (1 : Int32)), .val (.int v0)]) rfl k) ?_
  show own_Gl _ _ _ _ _ _ _ (T4.setTop (mkF m 41 #[.val (.ref a), .val (.int (1 : Int32)), .val (.ref b), .val (.int (1 : Int32)), .val (.int (2 : Int32)), .val (.int (1 : Int32)), .val (.int v0)] []))
  refine own_st (fun _ k => XS.goto X4.here hx rfl (pc0 := 41) (pc' := 3) rfl (hb hby own_d_jdk_52_method_21_code_41) (by decide) (by decide) k) ?_
  show own_Gl _ _ _ _ _ _ _ (T4.setTop (mkF m 3 #[.val (.ref a), .val (.int (1 : Int32)), .val (.ref b), .val (.int (1 : Int32)), .val (.int (2 : Int32)), .val (.int (1 : Int32)), .val (.int v0)] []))
  refine own_st (fun _ k => XS.iload X4.here hx rfl (hb hby own_d_jdk_52_method_21_code_3) rfl k) ?_
  show own_Gl _ _ _ _ _ _ _ (T4.setTop (mkF m 5 #[.val (.ref a), .val (.int (1 : Int32)), .val (.ref b), .val (.int (1 : Int32)), .val (.int (2 : Int32)), .val (.int (1 : Int32)), .val (.int v0)] [(.int (1 : Int32))]))
  refine own_st (fun _ k => XS.iload X4.here hx rfl (hb hby own_d_jdk_52_method_21_code_5) rfl k) ?_
  show own_Gl _ _ _ _ _ _ _ (T4.setTop (mkF m 7 #[.val (.ref a), .val (.int (1 : Int32)), .val (.ref b), .val (.int (1 : Int32)), .val (.int (2 : Int32)), .val (.int (1 : Int32)), .val (.int v0)] [(.int (2 : Int32)), (.int (1 : Int32))]))
  have hd6 : (1 : Int32) < (2 : Int32) := (by decide)
  refine own_st (fun _ k => XS.icmpNo X4.here hx rfl (hb hby own_d_jdk_52_method_21_code_7) rfl (tlt hd6).2.1 k) ?_
  show own_Gl _ _ _ _ _ _ _ (T4.setTop (mkF m 10 #[.val (.ref a), .val (.int (1 : Int32)), .val (.ref b), .val (.int (1 : Int32)), .val (.int (2 : Int32)), .val (.int (1 : Int32)), .val (.int v0)] []))
  refine own_st (fun _ k => XS.aloadN X4.here hx rfl (hb hby own_d_jdk_52_method_21_code_10) rfl rfl k) ?_
  show own_Gl _ _ _ _ _ _ _ (T4.setTop (mkF m 11 #[.val (.ref a), .val (.int (1 : Int32)), .val (.ref b), .val (.int (1 : Int32)), .val (.int (2 : Int32)), .val (.int (1 : Int32)), .val (.int v0)] [(.ref a)]))
  refine own_st (fun _ k => XS.iloadN X4.here hx rfl (hb hby own_d_jdk_52_method_21_code_11) rfl k) ?_
  show own_Gl _ _ _ _ _ _ _ (T4.setTop (mkF m 12 #[.val (.ref a), .val (.int (1 : Int32)), .val (.ref b), .val (.int (1 : Int32)), .val (.int (2 : Int32)), .val (.int (1 : Int32)), .val (.int v0)] [(.int (1 : Int32)), (.ref a)]))
  have f7 := (V_a.other W4 ne_a_b)
  obtain ⟨cl8, Ar8, qq8, Ss8, Nn8, Hh8, Gg8⟩ := id f7
  have hin8 : ¬ ((1 : Int32) < 0 ∨ cl8.slots.size ≤ ((1 : Int32)).toNatClampNeg) := inb_of Ss8 ⟨by decide, by decide⟩
  have hat8 : cl8.slots[((1 : Int32)).toNatClampNeg]? = some (.int v1) := Hh8.at hin8 (rfl)
  refine own_st (X4.caload hx (j := (1 : Int32)) (v := (.int v1)) (by rw [e4]; exact Ar8.1) (State.isArrayOf_alike hZ.alike Ar8.2.1) Ar8.2.2 hin8 hat8 (g := (mkF m 12 #[.val (.ref a), .val (.int (1 : Int32)), .val (.ref b), .val (.int (1 : Int32)), .val (.int (2 : Int32)), .val (.int (1 : Int32)), .val (.int v0)] [(.int (1 : Int32)), (.ref a)])) rfl rfl (hb hby own_d_jdk_52_method_21_code_12)) ?_
  show own_Gl _ _ _ _ _ _ _ (T4.setTop (mkF m 13 #[.val (.ref a), .val (.int (1 : Int32)), .val (.ref b), .val (.int (1 : Int32)), .val (.int (2 : Int32)), .val (.int (1 : Int32)), .val (.int v0)] [(.int v1)]))
  refine own_st (fun _ k => XS.istore X4.here hx rfl (hb hby own_d_jdk_52_method_21_code_13) rfl (l' := #[.val (.ref a), .val (.int (1 : Int32)), .val (.ref b), .val (.int (1 : Int32)), .val (.int (2 : Int32)), .val (.int (1 : Int32)), .val (.int v1)]) rfl k) ?_
  show own_Gl _ _ _ _ _ _ _ (T4.setTop (mkF m 15 #[.val (.ref a), .val (.int (1 : Int32)), .val (.ref b), .val (.int (1 : Int32)), .val (.int (2 : Int32)), .val (.int (1 : Int32)), .val (.int v1)] []))
  refine own_st (fun _ k => XS.iload X4.here hx rfl (hb hby own_d_jdk_52_method_21_code_15) rfl k) ?_
  show own_Gl _ _ _ _ _ _ _ (T4.setTop (mkF m 17 #[.val (.ref a), .val (.int (1 : Int32)), .val (.ref b), .val (.int (1 : Int32)), .val (.int (2 : Int32)), .val (.int (1 : Int32)), .val (.int v1)] [(.int v1)]))
  refine own_st (fun _ k => XS.sipush X4.here hx rfl (hb hby own_d_jdk_52_method_21_code_17) k) ?_
  show own_Gl _ _ _ _ _ _ _ (T4.setTop (mkF m 20 #[.val (.ref a), .val (.int (1 : Int32)), .val (.ref b), .val (.int (1 : Int32)), .val (.int (2 : Int32)), .val (.int (1 : Int32)), .val (.int v1)] [(.int (255 : Int32)), (.int v1)]))
  have hd9 : (255 : Int32) < v1 := hgt
  refine own_st (fun _ k => XS.icmpNo X4.here hx rfl (hb hby own_d_jdk_52_method_21_code_20) rfl (tlt hd9).2.2.2 k) ?_
  show own_Gl _ _ _ _ _ _ _ (T4.setTop (mkF m 23 #[.val (.ref a), .val (.int (1 : Int32)), .val (.ref b), .val (.int (1 : Int32)), .val (.int (2 : Int32)), .val (.int (1 : Int32)), .val (.int v1)] []))
  refine own_st (fun _ k => XS.iload X4.here hx rfl (hb hby own_d_jdk_52_method_21_code_23) rfl k) ?_
  show own_Gl _ _ _ _ _ _ _ (T4.setTop (mkF m 25 #[.val (.ref a), .val (.int (1 : Int32)), .val (.ref b), .val (.int (1 : Int32)), .val (.int (2 : Int32)), .val (.int (1 : Int32)), .val (.int v1)] [(.int (1 : Int32))]))
  have K10 : Keep h0 h4 [b] := ((Keep.refl h0 [b]).wr W4 (Or.inl (List.mem_of_getElem? (i := 0) rfl)))
  exact own_retI X4 hx hlk hret (hb hby own_d_jdk_52_method_21_code_25) e4 ⟨rfl, N4, K10, Vw4⟩ (by decide) (by decide)
theorem own_ef_own_c3_2_1 (m : MethodId) (x0 : Addr) (x1 : Int32) (x2 : Int32) : entryFrame m #[(.ref x0), (.int x1), (.int x2)] 6 = mkF m 0 #[.val (.ref x0), .val (.int x1), .val (.int x2), .unset, .unset, .unset] [] := by first | (simp [entryFrame, mkF, argsToLocals, Value.category]; done) | rfl
def own_Q_own_c3_2_1 (Z : State) (a : Addr) (k : ClassId) (v0 : Int32) (v1 : Int32) (h0 : Heap) (n0 : Nat) (v : Option Value) (h : Heap) (L : List Loc) : Prop := ∃ (r : Addr) (kr : ClassId), (v = some (.ref r)) ∧ (Fr n0 L) ∧ (Keep h0 h []) ∧ (n0 ≤ r) ∧ (h0.size ≤ r) ∧ (Arv Z h r kr .byte (4 : Int32) [(.int (nar .byte ((v0 >>> ((0 : Int32) &&& 31)).toInt8.toInt32))), (.int (nar .byte ((v0 >>> ((8 : Int32) &&& 31)).toInt8.toInt32))), (.int (nar .byte ((v1 >>> ((0 : Int32) &&& 31)).toInt8.toInt32))), (.int (nar .byte ((v1 >>> ((8 : Int32) &&& 31)).toInt8.toInt32)))] (.int (0 : Int32)))
set_option maxRecDepth 65536 in
set_option maxHeartbeats 40000000 in
theorem own_c3_2_1 (l : Launch) (Z : State) (a0 : Array Value) (hw : ∀ d ∈ tables_1, d.before a0 Z = true) (ws : List Jvm.Cond) (a : Addr) (k : ClassId) (v0 : Int32) (v1 : Int32) (h0 : Heap) (n0 : Nat) (Z0 : n0 ≤ h0.size) (V_a : Arv Z h0 a k .char (2 : Int32) [(.int v0), (.int v1)] (.int (0 : Int32))) (hle0 : ¬ ((255 : Int32) < v0)) (hgt : (255 : Int32) < v1) (Old0 : Old Z n0 h0) (S__assertionsDisabled : Sta Z Z.heap "java/lang/StringUTF16" "$assertionsDisabled" "Z" (.int (1 : Int32))) (S_HI_BYTE_SHIFT : Sta Z Z.heap "java/lang/StringUTF16" "HI_BYTE_SHIFT" "I" (.int (0 : Int32))) (S_LO_BYTE_SHIFT : Sta Z Z.heap "java/lang/StringUTF16" "LO_BYTE_SHIFT" "I" (.int (8 : Int32))) (hr0 : ¬ v0 < (0 : Int32) ∧ ¬ (65535 : Int32) < v0) (hr1 : ¬ v1 < (0 : Int32) ∧ ¬ (65535 : Int32) < v1) :
    MetFree l (⟨"java/lang/StringUTF16", "compress", "([CII)[B"⟩ : MethodName) (head1 (Jvm.Cond.code (⟨"java/lang/StringUTF16", "compress", "([CII)[B"⟩ : MethodName) jdk_52_method_16_code 6 (some (.array .byte)) :: ws) ({ frames := 3, cells := 2, slots := 6, locals := 40 } : Room)) (fun xa xU => xa = #[(.ref a), (.int (0 : Int32)), (.int (2 : Int32))] ∧ Z.Warmed39 xU.vm ∧ xU.heap = h0) (fun _ _ _ _ _ => True) (fun _ xU xo xV => ∃ v L, xo = .returned v ∧ own_Q_own_c3_2_1 Z a k v0 v1 h0 n0 v xV.heap L ∧ FrameEnd xU xo xV L ({ frames := 3, cells := 2, slots := 6, locals := 40 } : Room).cells ({ frames := 3, cells := 2, slots := 6, locals := 40 } : Room).slots) := by
  refine MetFree.of_bodySF (plainFor_of_name own_pn730740715) hisR ?_
  intro p e s m args below meth c s₁ Bd hml0 hP hK
  obtain ⟨rfl, hZ, hh⟩ := hP
  have hx := Bd.exec
  have hby := Bd.bytes
  have hlk := Bd.notSynchronized
  have hret := Bd.returns
  have hml : c.maxLocals = 6 := hml0
  have hown : s.vm.findClass "java/lang/StringUTF16" = some m.cls := findClass_of_methodNamed Bd.named
  have hnm := (name_of_methodNamed Bd.named Bd.method).1
  have X0 : Stand p l e ({ frames := 3, cells := 2, slots := 6, locals := 40 } : Room) s m #[(.ref a), (.int (0 : Int32)), (.int (2 : Int32))] below meth c s₁ [] 0 0 := Stand.of_body Bd
  have e0 : s₁.heap = h0 := by rw [← hh, Bd.state]; rfl
  have N0 := Fr.nil n0
  show own_Gl p e below s (own_Q_own_c3_2_1 Z a k v0 v1 h0 n0) ({ frames := 3, cells := 2, slots := 6, locals := 40 } : Room).cells ({ frames := 3, cells := 2, slots := 6, locals := 40 } : Room).slots _
  refine own_cast (own_ef_own_c3_2_1 m a (0 : Int32) (2 : Int32)) ?_
  show own_Gl _ _ _ _ _ _ _ (s₁.setTop (mkF m 0 #[.val (.ref a), .val (.int (0 : Int32)), .val (.int (2 : Int32)), .unset, .unset, .unset] []))
  refine own_st (fun _ k => XS.iloadN X0.here hx rfl (hb hby own_d_jdk_52_method_16_code_0) rfl k) ?_
  show own_Gl _ _ _ _ _ _ _ (s₁.setTop (mkF m 1 #[.val (.ref a), .val (.int (0 : Int32)), .val (.int (2 : Int32)), .unset, .unset, .unset] [(.int (2 : Int32))]))
  obtain ⟨T1, h1, k1, X1, e1, E1, A1, st1⟩ := newP X0 hx hZ (hw _ (List.mem_of_getElem? (i := 20) rfl)) e0 (g := (mkF m 1 #[.val (.ref a), .val (.int (0 : Int32)), .val (.int (2 : Int32)), .unset, .unset, .unset] [(.int (2 : Int32))])) rfl (hb hby own_d_jdk_52_method_16_code_1) rfl (by decide) (cap := 2) (by decide) (by decide) (by decide) (by decide)
  obtain ⟨b1, gb1⟩ : ∃ z, z = h0.size := ⟨_, rfl⟩
  rw [← gb1] at A1 st1
  refine own_st st1 ?_
  have Zs2 : n0 ≤ h1.size := Nat.le_trans Z0 E1.1
  have g_b1 : n0 ≤ b1 := Nat.le_trans Z0 (Nat.le_of_eq gb1.symm)
  have gh_b1 : h0.size ≤ b1 := Nat.le_trans (Keep.refl h0 []).1 (Nat.le_of_eq gb1.symm)
  have ne_a_b1 : a ≠ b1 := Nat.ne_of_lt (Nat.lt_of_lt_of_le V_a.lt (Nat.le_of_eq gb1.symm))
  have V_b1 : Arv Z h1 b1 k1 .byte (2 : Int32) [(.int (0 : Int32)), (.int (0 : Int32))] (.int (0 : Int32)) := (Arv.new A1 (by decide)).pad (pad_rep [] (.int (0 : Int32)) 2)
  show own_Gl _ _ _ _ _ _ _ (T1.setTop (mkF m 3 #[.val (.ref a), .val (.int (0 : Int32)), .val (.int (2 : Int32)), .unset, .unset, .unset] [(.ref b1)]))
  refine own_st (fun _ k => XS.astoreN X1.here hx rfl (hb hby own_d_jdk_52_method_16_code_3) rfl rfl (l' := #[.val (.ref a), .val (.int (0 : Int32)), .val (.int (2 : Int32)), .val (.ref b1), .unset, .unset]) rfl k) ?_
  show own_Gl _ _ _ _ _ _ _ (T1.setTop (mkF m 4 #[.val (.ref a), .val (.int (0 : Int32)), .val (.int (2 : Int32)), .val (.ref b1), .unset, .unset] []))
  refine own_st (fun _ k => XS.aloadN X1.here hx rfl (hb hby own_d_jdk_52_method_16_code_4) rfl rfl k) ?_
  show own_Gl _ _ _ _ _ _ _ (T1.setTop (mkF m 5 #[.val (.ref a), .val (.int (0 : Int32)), .val (.int (2 : Int32)), .val (.ref b1), .unset, .unset] [(.ref a)]))
  refine own_st (fun _ k => XS.iloadN X1.here hx rfl (hb hby own_d_jdk_52_method_16_code_5) rfl k) ?_
  show own_Gl _ _ _ _ _ _ _ (T1.setTop (mkF m 6 #[.val (.ref a), .val (.int (0 : Int32)), .val (.int (2 : Int32)), .val (.ref b1), .unset, .unset] [(.int (0 : Int32)), (.ref a)]))
  refine own_st (fun _ k => XS.aloadN X1.here hx rfl (hb hby own_d_jdk_52_method_16_code_6) rfl rfl k) ?_
  show own_Gl _ _ _ _ _ _ _ (T1.setTop (mkF m 7 #[.val (.ref a), .val (.int (0 : Int32)), .val (.int (2 : Int32)), .val (.ref b1), .unset, .unset] [(.ref b1), (.int (0 : Int32)), (.ref a)]))
  refine own_st (fun _ k => XS.iconst X1.here hx rfl (hb hby own_d_jdk_52_method_16_code_7) k) ?_
  show own_Gl _ _ _ _ _ _ _ (T1.setTop (mkF m 8 #[.val (.ref a), .val (.int (0 : Int32)), .val (.int (2 : Int32)), .val (.ref b1), .unset, .unset] [(.int (0 : Int32)), (.ref b1), (.int (0 : Int32)), (.ref a)]))
  refine own_st (fun _ k => XS.iloadN X1.here hx rfl (hb hby own_d_jdk_52_method_16_code_8) rfl k) ?_
  show own_Gl _ _ _ _ _ _ _ (T1.setTop (mkF m 9 #[.val (.ref a), .val (.int (0 : Int32)), .val (.int (2 : Int32)), .val (.ref b1), .unset, .unset] [(.int (2 : Int32)), (.int (0 : Int32)), (.ref b1), (.int (0 : Int32)), (.ref a)]))
  have f5 := (V_a.ext E1)
  obtain ⟨_, _, ⟨T4, L4, k4, n4⟩, -, X4, ⟨Lc4, hQ4, l4, y4, z4⟩, st4⟩ := Jvm.LawKit.callS X1 hx (y := (⟨"java/lang/StringUTF16", "compress", "([CI[BII)I"⟩ : MethodName)) hown (mvT hZ (hw _ (List.mem_of_getElem? (i := 21) rfl))) (mvT hZ (hw _ (List.mem_of_getElem? (i := 22) rfl))) (mvT hZ (hw _ (List.mem_of_getElem? (i := 18) rfl))) (mvT hZ (hw _ (List.mem_of_getElem? (i := 23) rfl))) (by decide) (backOf (W := 0) (own_c5_2_1 l Z a0 hw [] a b1 k k1 v0 v1 h1 n0 Zs2 f5 V_b1 g_b1 ne_a_b1 hle0 hgt) hZ (hw _ (List.mem_of_getElem? (i := 23) rfl)) (hw _ (List.mem_of_getElem? (i := 18) rfl)) (by decide) (by decide)) (g := (mkF m 9 #[.val (.ref a), .val (.int (0 : Int32)), .val (.int (2 : Int32)), .val (.ref b1), .unset, .unset] [(.int (2 : Int32)), (.int (0 : Int32)), (.ref b1), (.int (0 : Int32)), (.ref a)])) rfl (by rw [hml]; rfl) (argsL := [(.ref a), (.int (0 : Int32)), (.ref b1), (.int (0 : Int32)), (.int (2 : Int32))]) (rest := []) (lenOf own_pd196289288 rfl) rfl (by show 2 * 0 + _ ≤ _; exact Nat.le_of_eq rfl) (hb hby own_d_jdk_52_method_16_code_9) (fun _ _ => ⟨rfl, e1, (by decide : 1 + 0 ≤ ({ frames := 3, cells := 2, slots := 6, locals := 40 } : Room).cells), (by decide : 2 + 0 ≤ ({ frames := 3, cells := 2, slots := 6, locals := 40 } : Room).slots)⟩)
  dsimp only [Pt.U, Pt.locs, Pt.cells, Pt.slots] at X4 l4 y4 z4 st4 hQ4
  subst l4 y4 z4
  obtain ⟨hh4, eh04⟩ : ∃ z, T4.heap = z := ⟨_, rfl⟩
  rw [eh04] at hQ4
  obtain ⟨rfl, Nq4, Kq4, P4_0⟩ := hQ4
  have N4 := Fr.app N0 Nq4
  refine own_st st4 ?_
  have Zs6 : n0 ≤ hh4.size := Nat.le_trans Zs2 Kq4.1
  show own_Gl _ _ _ _ _ _ _ (T4.setTop (mkF m 12 #[.val (.ref a), .val (.int (0 : Int32)), .val (.int (2 : Int32)), .val (.ref b1), .unset, .unset] [(.int (1 : Int32))]))
  refine own_st (fun _ k => XS.istore X4.here hx rfl (hb hby own_d_jdk_52_method_16_code_12) rfl (l' := #[.val (.ref a), .val (.int (0 : Int32)), .val (.int (2 : Int32)), .val (.ref b1), .val (.int (1 : Int32)), .unset]) rfl k) ?_
  show own_Gl _ _ _ _ _ _ _ (T4.setTop (mkF m 14 #[.val (.ref a), .val (.int (0 : Int32)), .val (.int (2 : Int32)), .val (.ref b1), .val (.int (1 : Int32)), .unset] []))
  refine own_st (fun _ k => XS.iload X4.here hx rfl (hb hby own_d_jdk_52_method_16_code_14) rfl k) ?_
  show own_Gl _ _ _ _ _ _ _ (T4.setTop (mkF m 16 #[.val (.ref a), .val (.int (0 : Int32)), .val (.int (2 : Int32)), .val (.ref b1), .val (.int (1 : Int32)), .unset] [(.int (1 : Int32))]))
  refine own_st (fun _ k => XS.iloadN X4.here hx rfl (hb hby own_d_jdk_52_method_16_code_16) rfl k) ?_
  show own_Gl _ _ _ _ _ _ _ (T4.setTop (mkF m 17 #[.val (.ref a), .val (.int (0 : Int32)), .val (.int (2 : Int32)), .val (.ref b1), .val (.int (1 : Int32)), .unset] [(.int (2 : Int32)), (.int (1 : Int32))]))
  have hd7 : ¬ ((1 : Int32) = (2 : Int32)) := (by decide)
  refine own_st (fun _ k => XS.icmpNo X4.here hx rfl (hb hby own_d_jdk_52_method_16_code_17) rfl (feq hd7).1 k) ?_
  show own_Gl _ _ _ _ _ _ _ (T4.setTop (mkF m 20 #[.val (.ref a), .val (.int (0 : Int32)), .val (.int (2 : Int32)), .val (.ref b1), .val (.int (1 : Int32)), .unset] []))
  refine own_st (fun _ k => XS.aloadN X4.here hx rfl (hb hby own_d_jdk_52_method_16_code_20) rfl rfl k) ?_
  show own_Gl _ _ _ _ _ _ _ (T4.setTop (mkF m 21 #[.val (.ref a), .val (.int (0 : Int32)), .val (.int (2 : Int32)), .val (.ref b1), .val (.int (1 : Int32)), .unset] [(.ref a)]))
  refine own_st (fun _ k => XS.iloadN X4.here hx rfl (hb hby own_d_jdk_52_method_16_code_21) rfl k) ?_
  show own_Gl _ _ _ _ _ _ _ (T4.setTop (mkF m 22 #[.val (.ref a), .val (.int (0 : Int32)), .val (.int (2 : Int32)), .val (.ref b1), .val (.int (1 : Int32)), .unset] [(.int (0 : Int32)), (.ref a)]))
  refine own_st (fun _ k => XS.iloadN X4.here hx rfl (hb hby own_d_jdk_52_method_16_code_22) rfl k) ?_
  show own_Gl _ _ _ _ _ _ _ (T4.setTop (mkF m 23 #[.val (.ref a), .val (.int (0 : Int32)), .val (.int (2 : Int32)), .val (.ref b1), .val (.int (1 : Int32)), .unset] [(.int (2 : Int32)), (.int (0 : Int32)), (.ref a)]))
  have f9 := (f5.keep Kq4 (ninS ne_a_b1 nin0))
  have f10 := ((Old0.ext E1).keep Kq4 (allS g_b1 all0))
  obtain ⟨_, _, ⟨T8, L8, k8, n8⟩, -, X8, ⟨Lc8, hQ8, l8, y8, z8⟩, st8⟩ := Jvm.LawKit.callS X4 hx (y := (⟨"java/lang/StringUTF16", "toBytes", "([CII)[B"⟩ : MethodName)) hown (mvT hZ (hw _ (List.mem_of_getElem? (i := 129) rfl))) (mvT hZ (hw _ (List.mem_of_getElem? (i := 130) rfl))) (mvT hZ (hw _ (List.mem_of_getElem? (i := 18) rfl))) (mvT hZ (hw _ (List.mem_of_getElem? (i := 131) rfl))) (by decide) (backOf (W := 0) (own_tb2 l Z a0 hw [] a k v0 v1 hh4 n0 Zs6 f9 f10 S__assertionsDisabled S_HI_BYTE_SHIFT S_LO_BYTE_SHIFT) hZ (hw _ (List.mem_of_getElem? (i := 131) rfl)) (hw _ (List.mem_of_getElem? (i := 18) rfl)) (by decide) (by decide)) (g := (mkF m 23 #[.val (.ref a), .val (.int (0 : Int32)), .val (.int (2 : Int32)), .val (.ref b1), .val (.int (1 : Int32)), .unset] [(.int (2 : Int32)), (.int (0 : Int32)), (.ref a)])) rfl (by rw [hml]; rfl) (argsL := [(.ref a), (.int (0 : Int32)), (.int (2 : Int32))]) (rest := []) (lenOf own_pd461289092 rfl) rfl (by show 2 * 0 + _ ≤ _; exact Nat.le_of_eq rfl) (hb hby own_d_jdk_52_method_16_code_23) (fun _ _ => ⟨rfl, eh04, (by decide : 1 + 1 ≤ ({ frames := 3, cells := 2, slots := 6, locals := 40 } : Room).cells), (by decide : 2 + 4 ≤ ({ frames := 3, cells := 2, slots := 6, locals := 40 } : Room).slots)⟩)
  dsimp only [Pt.U, Pt.locs, Pt.cells, Pt.slots] at X8 l8 y8 z8 st8 hQ8
  subst l8 y8 z8
  obtain ⟨hh8, eh08⟩ : ∃ z, T8.heap = z := ⟨_, rfl⟩
  rw [eh08] at hQ8
  obtain ⟨r_8, kr_8, rfl, Nq8, Kq8, P8_0, P8_1, P8_2⟩ := hQ8
  have N8 := Fr.app N4 Nq8
  refine own_st st8 ?_
  have K11 : Keep h0 hh4 [] := (((Keep.refl h0 []).ext E1).trans Kq4 (allS (Or.inr gh_b1) all0))
  have Zs12 : n0 ≤ hh8.size := Nat.le_trans Zs6 Kq8.1
  have gh_r_8 : h0.size ≤ r_8 := Nat.le_trans K11.1 P8_1
  have ne_a_r_8 : a ≠ r_8 := Nat.ne_of_lt (Nat.lt_of_lt_of_le f9.lt P8_1)
  have ne_b1_r_8 : b1 ≠ r_8 := Nat.ne_of_lt (Nat.lt_of_lt_of_le P4_0.lt P8_1)
  show own_Gl _ _ _ _ _ _ _ (T8.setTop (mkF m 26 #[.val (.ref a), .val (.int (0 : Int32)), .val (.int (2 : Int32)), .val (.ref b1), .val (.int (1 : Int32)), .unset] [(.ref r_8)]))
  refine own_st (fun _ k => XS.astore X8.here hx rfl (hb hby own_d_jdk_52_method_16_code_26) rfl rfl (l' := #[.val (.ref a), .val (.int (0 : Int32)), .val (.int (2 : Int32)), .val (.ref b1), .val (.int (1 : Int32)), .val (.ref r_8)]) rfl k) ?_
  show own_Gl _ _ _ _ _ _ _ (T8.setTop (mkF m 28 #[.val (.ref a), .val (.int (0 : Int32)), .val (.int (2 : Int32)), .val (.ref b1), .val (.int (1 : Int32)), .val (.ref r_8)] []))
  refine own_st (fun _ k => XS.aload X8.here hx rfl (hb hby own_d_jdk_52_method_16_code_28) rfl rfl k) ?_
  show own_Gl _ _ _ _ _ _ _ (T8.setTop (mkF m 30 #[.val (.ref a), .val (.int (0 : Int32)), .val (.int (2 : Int32)), .val (.ref b1), .val (.int (1 : Int32)), .val (.ref r_8)] [(.ref r_8)]))
  refine own_st (fun _ k => XS.iload X8.here hx rfl (hb hby own_d_jdk_52_method_16_code_30) rfl k) ?_
  show own_Gl _ _ _ _ _ _ _ (T8.setTop (mkF m 32 #[.val (.ref a), .val (.int (0 : Int32)), .val (.int (2 : Int32)), .val (.ref b1), .val (.int (1 : Int32)), .val (.ref r_8)] [(.int (1 : Int32)), (.ref r_8)]))
  have f14 := (f10.keep Kq8 all0)
  have f15 := (f9.keep Kq8 nin0)
  have f16 := (P4_0.keep Kq8 nin0)
  obtain ⟨_, _, ⟨T13, L13, k13, n13⟩, -, X13, ⟨Lc13, hQ13, l13, y13, z13⟩, st13⟩ := Jvm.LawKit.callS X8 hx (y := (⟨"java/lang/StringUTF16", "getChar", "([BI)C"⟩ : MethodName)) hown (mvT hZ (hw _ (List.mem_of_getElem? (i := 145) rfl))) (mvT hZ (hw _ (List.mem_of_getElem? (i := 146) rfl))) (mvT hZ (hw _ (List.mem_of_getElem? (i := 18) rfl))) (mvT hZ (hw _ (List.mem_of_getElem? (i := 147) rfl))) (by decide) (backOf (W := 0) (own_get2_1 l Z a0 hw [] r_8 kr_8 v0 v1 hh8 n0 Zs12 f14 S__assertionsDisabled S_HI_BYTE_SHIFT S_LO_BYTE_SHIFT P8_2 hr1) hZ (hw _ (List.mem_of_getElem? (i := 147) rfl)) (hw _ (List.mem_of_getElem? (i := 18) rfl)) (by decide) (by decide)) (g := (mkF m 32 #[.val (.ref a), .val (.int (0 : Int32)), .val (.int (2 : Int32)), .val (.ref b1), .val (.int (1 : Int32)), .val (.ref r_8)] [(.int (1 : Int32)), (.ref r_8)])) rfl (by rw [hml]; rfl) (argsL := [(.ref r_8), (.int (1 : Int32))]) (rest := []) (lenOf own_pd128711048 rfl) rfl (by show 2 * 0 + _ ≤ _; exact Nat.le_of_eq rfl) (hb hby own_d_jdk_52_method_16_code_32) (fun _ _ => ⟨rfl, eh08, (by decide : 2 + 0 ≤ ({ frames := 3, cells := 2, slots := 6, locals := 40 } : Room).cells), (by decide : 6 + 0 ≤ ({ frames := 3, cells := 2, slots := 6, locals := 40 } : Room).slots)⟩)
  dsimp only [Pt.U, Pt.locs, Pt.cells, Pt.slots] at X13 l13 y13 z13 st13 hQ13
  subst l13 y13 z13
  obtain ⟨hh13, eh013⟩ : ∃ z, T13.heap = z := ⟨_, rfl⟩
  rw [eh013] at hQ13
  obtain ⟨rfl, Nq13, eh13⟩ := hQ13
  have N13 := Fr.app N8 Nq13
  refine own_st st13 ?_
  have e13 : T13.heap = hh8 := eh013.trans eh13
  show own_Gl _ _ _ _ _ _ _ (T13.setTop (mkF m 35 #[.val (.ref a), .val (.int (0 : Int32)), .val (.int (2 : Int32)), .val (.ref b1), .val (.int (1 : Int32)), .val (.ref r_8)] [(.int v1)]))
  refine own_st (fun _ k => XS.sipush X13.here hx rfl (hb hby own_d_jdk_52_method_16_code_35) k) ?_
  show own_Gl _ _ _ _ _ _ _ (T13.setTop (mkF m 38 #[.val (.ref a), .val (.int (0 : Int32)), .val (.int (2 : Int32)), .val (.ref b1), .val (.int (1 : Int32)), .val (.ref r_8)] [(.int (255 : Int32)), (.int v1)]))
  have hd17 : (255 : Int32) < v1 := hgt
  refine own_st (fun _ k => XS.icmpYes X13.here hx rfl (pc0 := 38) (pc' := 54) rfl (hb hby own_d_jdk_52_method_16_code_38) rfl (tlt hd17).2.2.1 (by decide) (by decide) k) ?_
  show own_Gl _ _ _ _ _ _ _ (T13.setTop (mkF m 54 #[.val (.ref a), .val (.int (0 : Int32)), .val (.int (2 : Int32)), .val (.ref b1), .val (.int (1 : Int32)), .val (.ref r_8)] []))
  refine own_st (fun _ k => XS.aload X13.here hx rfl (hb hby own_d_jdk_52_method_16_code_54) rfl rfl k) ?_
  show own_Gl _ _ _ _ _ _ _ (T13.setTop (mkF m 56 #[.val (.ref a), .val (.int (0 : Int32)), .val (.int (2 : Int32)), .val (.ref b1), .val (.int (1 : Int32)), .val (.ref r_8)] [(.ref r_8)]))
  have K18 : Keep h0 hh8 [] := (K11.trans Kq8 all0)
  exact own_retA X13 hx hlk hret rfl rfl rfl (hb hby own_d_jdk_52_method_16_code_56) e13 ⟨r_8, kr_8, rfl, N13, K18, P8_0, gh_r_8, P8_2⟩ (by decide) (by decide)
theorem own_ef_own_cf_2_1 (m : MethodId) (x0 : Addr) (x1 : Int32) : entryFrame m #[(.ref x0), (.int x1)] 2 = mkF m 0 #[.val (.ref x0), .val (.int x1)] [] := by first | (simp [entryFrame, mkF, argsToLocals, Value.category]; done) | rfl
def own_Q_own_cf_2_1 (Z : State) (a : Addr) (k : ClassId) (w : List Value) (h0 : Heap) (n0 : Nat) (v : Option Value) (h : Heap) (L : List Loc) : Prop := (v = some (.int (1 : Int32))) ∧ (Fr n0 L) ∧ (h = h0)
set_option maxRecDepth 65536 in
set_option maxHeartbeats 40000000 in
theorem own_cf_2_1 (l : Launch) (Z : State) (a0 : Array Value) (hw : ∀ d ∈ tables_1, d.before a0 Z = true) (ws : List Jvm.Cond) (a : Addr) (k : ClassId) (w : List Value) (h0 : Heap) (n0 : Nat) (Z0 : n0 ≤ h0.size) (V_a : Arv Z h0 a k .byte (4 : Int32) w (.int (0 : Int32))) :
    MetFree l (⟨"java/lang/StringUTF16", "coderFromArrayLen", "([BI)B"⟩ : MethodName) (head1 (Jvm.Cond.code (⟨"java/lang/StringUTF16", "coderFromArrayLen", "([BI)B"⟩ : MethodName) jdk_52_method_15_code 2 (some .byte) :: ws) ({ frames := 0, cells := 0, slots := 0, locals := 0 } : Room)) (fun xa xU => xa = #[(.ref a), (.int (2 : Int32))] ∧ Z.Warmed39 xU.vm ∧ xU.heap = h0) (fun _ _ _ _ _ => True) (fun _ xU xo xV => ∃ v L, xo = .returned v ∧ own_Q_own_cf_2_1 Z a k w h0 n0 v xV.heap L ∧ FrameEnd xU xo xV L ({ frames := 0, cells := 0, slots := 0, locals := 0 } : Room).cells ({ frames := 0, cells := 0, slots := 0, locals := 0 } : Room).slots) := by
  refine MetFree.of_bodySF (plainFor_of_name own_pn730740715) hisR ?_
  intro p e s m args below meth c s₁ Bd hml0 hP hK
  obtain ⟨rfl, hZ, hh⟩ := hP
  have hx := Bd.exec
  have hby := Bd.bytes
  have hlk := Bd.notSynchronized
  have hret := Bd.returns
  have hml : c.maxLocals = 2 := hml0
  have hown : s.vm.findClass "java/lang/StringUTF16" = some m.cls := findClass_of_methodNamed Bd.named
  have hnm := (name_of_methodNamed Bd.named Bd.method).1
  have X0 : Stand p l e ({ frames := 0, cells := 0, slots := 0, locals := 0 } : Room) s m #[(.ref a), (.int (2 : Int32))] below meth c s₁ [] 0 0 := Stand.of_body Bd
  have e0 : s₁.heap = h0 := by rw [← hh, Bd.state]; rfl
  have N0 := Fr.nil n0
  show own_Gl p e below s (own_Q_own_cf_2_1 Z a k w h0 n0) ({ frames := 0, cells := 0, slots := 0, locals := 0 } : Room).cells ({ frames := 0, cells := 0, slots := 0, locals := 0 } : Room).slots _
  refine own_cast (own_ef_own_cf_2_1 m a (2 : Int32)) ?_
  show own_Gl _ _ _ _ _ _ _ (s₁.setTop (mkF m 0 #[.val (.ref a), .val (.int (2 : Int32))] []))
  refine own_st (fun _ k => XS.iloadN X0.here hx rfl (hb hby own_d_jdk_52_method_15_code_0) rfl k) ?_
  show own_Gl _ _ _ _ _ _ _ (s₁.setTop (mkF m 1 #[.val (.ref a), .val (.int (2 : Int32))] [(.int (2 : Int32))]))
  refine own_st (fun _ k => XS.aloadN X0.here hx rfl (hb hby own_d_jdk_52_method_15_code_1) rfl rfl k) ?_
  show own_Gl _ _ _ _ _ _ _ (s₁.setTop (mkF m 2 #[.val (.ref a), .val (.int (2 : Int32))] [(.ref a), (.int (2 : Int32))]))
  obtain ⟨cl1, Ar1, qq1, Ss1, Nn1, Hh1, Gg1⟩ := id V_a
  refine own_st (X0.arraylength hx (by rw [e0]; exact Ar1.1) (State.isArrayOf_alike hZ.alike Ar1.2.1) (g := (mkF m 2 #[.val (.ref a), .val (.int (2 : Int32))] [(.ref a), (.int (2 : Int32))])) rfl rfl (hb hby own_d_jdk_52_method_15_code_2)) ?_
  rw [len_of Ss1 Nn1]
  show own_Gl _ _ _ _ _ _ _ (s₁.setTop (mkF m 3 #[.val (.ref a), .val (.int (2 : Int32))] [(.int (4 : Int32)), (.int (2 : Int32))]))
  refine own_st (fun _ k => XS.isub X0.here hx rfl (hb hby own_d_jdk_52_method_15_code_3) rfl k) ?_
  show own_Gl _ _ _ _ _ _ _ (s₁.setTop (mkF m 4 #[.val (.ref a), .val (.int (2 : Int32))] [(.int (-2 : Int32))]))
  refine own_st (fun _ k => XS.bipush X0.here hx rfl (hb hby own_d_jdk_52_method_15_code_4) k) ?_
  show own_Gl _ _ _ _ _ _ _ (s₁.setTop (mkF m 6 #[.val (.ref a), .val (.int (2 : Int32))] [(.int (31 : Int32)), (.int (-2 : Int32))]))
  refine own_st (fun _ k => XS.iushr X0.here hx rfl (hb hby own_d_jdk_52_method_15_code_6) rfl k) ?_
  show own_Gl _ _ _ _ _ _ _ (s₁.setTop (mkF m 7 #[.val (.ref a), .val (.int (2 : Int32))] [(.int (((-2 : Int32).toUInt32 >>> ((31 : Int32) &&& 31).toUInt32).toInt32))]))
  refine own_st (fun _ k => XS.i2b X0.here hx rfl (hb hby own_d_jdk_52_method_15_code_7) rfl k) ?_
  show own_Gl _ _ _ _ _ _ _ (s₁.setTop (mkF m 8 #[.val (.ref a), .val (.int (2 : Int32))] [(.int ((((-2 : Int32).toUInt32 >>> ((31 : Int32) &&& 31).toUInt32).toInt32).toInt8.toInt32))]))
  exact own_retN X0 hx hlk (t := .byte) hret (by simp) (hb hby own_d_jdk_52_method_15_code_8) e0 ⟨rfl, N0, rfl⟩ (by decide) (by decide)
theorem own_ef_own_i4_2_1 (m : MethodId) (x0 : Addr) (x1 : Addr) (x2 : Int32) (x3 : Int32) : entryFrame m #[(.ref x0), (.ref x1), (.int x2), (.int x3), .null] 6 = mkF m 0 #[.val (.ref x0), .val (.ref x1), .val (.int x2), .val (.int x3), .val .null, .unset] [] := by first | (simp [entryFrame, mkF, argsToLocals, Value.category]; done) | rfl
def own_Q_own_i4_2_1 (Z : State) (a : Addr) (b : Addr) (k : ClassId) (v0 : Int32) (v1 : Int32) (cs : Int32) (h0 : Heap) (n0 : Nat) (v : Option Value) (h : Heap) (L : List Loc) : Prop := ∃ (r : Addr) (kr : ClassId), (v = none) ∧ (Fr n0 L) ∧ (Keep h0 h [a]) ∧ (n0 ≤ r) ∧ (h0.size ≤ r) ∧ (Arv Z h r kr .byte (4 : Int32) [(.int (nar .byte ((v0 >>> ((0 : Int32) &&& 31)).toInt8.toInt32))), (.int (nar .byte ((v0 >>> ((8 : Int32) &&& 31)).toInt8.toInt32))), (.int (nar .byte ((v1 >>> ((0 : Int32) &&& 31)).toInt8.toInt32))), (.int (nar .byte ((v1 >>> ((8 : Int32) &&& 31)).toInt8.toInt32)))] (.int (0 : Int32))) ∧ (Fld Z h a "java/lang/String" "value" "[B" (.ref r)) ∧ (Fld Z h a "java/lang/String" "coder" "B" (.int (1 : Int32)))
set_option maxRecDepth 65536 in
set_option maxHeartbeats 40000000 in
theorem own_i4_2_1 (l : Launch) (Z : State) (a0 : Array Value) (hw : ∀ d ∈ tables_1, d.before a0 Z = true) (ws : List Jvm.Cond) (a : Addr) (b : Addr) (k : ClassId) (v0 : Int32) (v1 : Int32) (cs : Int32) (h0 : Heap) (n0 : Nat) (Z0 : n0 ≤ h0.size) (E_a : Exa Z h0 a "java/lang/String") (F_a_value : Fld Z h0 a "java/lang/String" "value" "[B" .null) (F_a_coder : Fld Z h0 a "java/lang/String" "coder" "B" (.int (0 : Int32))) (g_a : n0 ≤ a) (ne_a_b : a ≠ b) (V_b : Arv Z h0 b k .char (2 : Int32) [(.int v0), (.int v1)] (.int (0 : Int32))) (hle0 : ¬ ((255 : Int32) < v0)) (hgt : (255 : Int32) < v1) (S_COMPACT_STRINGS : Sta Z Z.heap "java/lang/String" "COMPACT_STRINGS" "Z" (.int cs)) (hcs : ¬ (cs = (0 : Int32))) (Old0 : Old Z n0 h0) (S__assertionsDisabled : Sta Z Z.heap "java/lang/StringUTF16" "$assertionsDisabled" "Z" (.int (1 : Int32))) (S_HI_BYTE_SHIFT : Sta Z Z.heap "java/lang/StringUTF16" "HI_BYTE_SHIFT" "I" (.int (0 : Int32))) (S_LO_BYTE_SHIFT : Sta Z Z.heap "java/lang/StringUTF16" "LO_BYTE_SHIFT" "I" (.int (8 : Int32))) (hr0 : ¬ v0 < (0 : Int32) ∧ ¬ (65535 : Int32) < v0) (hr1 : ¬ v1 < (0 : Int32) ∧ ¬ (65535 : Int32) < v1) :
    MetFree l (⟨"java/lang/String", "<init>", "([CIILjava/lang/Void;)V"⟩ : MethodName) (head1 (Jvm.Cond.code (⟨"java/lang/String", "<init>", "([CIILjava/lang/Void;)V"⟩ : MethodName) jdk_42_method_149_code 6 none :: ws) ({ frames := 4, cells := 2, slots := 6, locals := 57 } : Room)) (fun xa xU => xa = #[(.ref a), (.ref b), (.int (0 : Int32)), (.int (2 : Int32)), .null] ∧ Z.Warmed39 xU.vm ∧ xU.heap = h0) (fun _ _ _ _ _ => True) (fun _ xU xo xV => ∃ v L, xo = .returned v ∧ own_Q_own_i4_2_1 Z a b k v0 v1 cs h0 n0 v xV.heap L ∧ FrameEnd xU xo xV L ({ frames := 4, cells := 2, slots := 6, locals := 57 } : Room).cells ({ frames := 4, cells := 2, slots := 6, locals := 57 } : Room).slots) := by
  refine MetFree.of_bodySF (plainFor_of_name own_pn853443214) hisR ?_
  intro p e s m args below meth c s₁ Bd hml0 hP hK
  obtain ⟨rfl, hZ, hh⟩ := hP
  have hx := Bd.exec
  have hby := Bd.bytes
  have hlk := Bd.notSynchronized
  have hret := Bd.returns
  have hml : c.maxLocals = 6 := hml0
  have hown : s.vm.findClass "java/lang/String" = some m.cls := findClass_of_methodNamed Bd.named
  have hnm := (name_of_methodNamed Bd.named Bd.method).1
  have X0 : Stand p l e ({ frames := 4, cells := 2, slots := 6, locals := 57 } : Room) s m #[(.ref a), (.ref b), (.int (0 : Int32)), (.int (2 : Int32)), .null] below meth c s₁ [] 0 0 := Stand.of_body Bd
  have e0 : s₁.heap = h0 := by rw [← hh, Bd.state]; rfl
  have N0 := Fr.nil n0
  show own_Gl p e below s (own_Q_own_i4_2_1 Z a b k v0 v1 cs h0 n0) ({ frames := 4, cells := 2, slots := 6, locals := 57 } : Room).cells ({ frames := 4, cells := 2, slots := 6, locals := 57 } : Room).slots _
  refine own_cast (own_ef_own_i4_2_1 m a b (0 : Int32) (2 : Int32)) ?_
  show own_Gl _ _ _ _ _ _ _ (s₁.setTop (mkF m 0 #[.val (.ref a), .val (.ref b), .val (.int (0 : Int32)), .val (.int (2 : Int32)), .val .null, .unset] []))
  refine own_st (fun _ k => XS.aloadN X0.here hx rfl (hb hby own_d_jdk_42_method_149_code_0) rfl rfl k) ?_
  show own_Gl _ _ _ _ _ _ _ (s₁.setTop (mkF m 1 #[.val (.ref a), .val (.ref b), .val (.int (0 : Int32)), .val (.int (2 : Int32)), .val .null, .unset] [(.ref a)]))
  obtain ⟨T1, X1, e1, st1⟩ := initO X0 hx hZ hown (hw _ (List.mem_of_getElem? (i := 12) rfl)) (hw _ (List.mem_of_getElem? (i := 13) rfl)) (hw _ (List.mem_of_getElem? (i := 14) rfl)) e0 (g := (mkF m 1 #[.val (.ref a), .val (.ref b), .val (.int (0 : Int32)), .val (.int (2 : Int32)), .val .null, .unset] [(.ref a)])) rfl (by rw [hml]; rfl) rfl (hb hby own_d_jdk_42_method_149_code_1) (by decide) (W := 0) (by show 2 * 0 + _ ≤ _; exact Nat.le_of_eq rfl) (by decide)
  refine own_st st1 ?_
  show own_Gl _ _ _ _ _ _ _ (T1.setTop (mkF m 4 #[.val (.ref a), .val (.ref b), .val (.int (0 : Int32)), .val (.int (2 : Int32)), .val .null, .unset] []))
  refine own_st (fun _ k => XS.iloadN X1.here hx rfl (hb hby own_d_jdk_42_method_149_code_4) rfl k) ?_
  show own_Gl _ _ _ _ _ _ _ (T1.setTop (mkF m 5 #[.val (.ref a), .val (.ref b), .val (.int (0 : Int32)), .val (.int (2 : Int32)), .val .null, .unset] [(.int (2 : Int32))]))
  have hd2 : ¬ ((2 : Int32) = (0 : Int32)) := (by decide)
  refine own_st (fun _ k => XS.ifYes X1.here hx rfl (pc0 := 5) (pc' := 27) rfl (hb hby own_d_jdk_42_method_149_code_5) rfl ((if0 _ _).trans (feq hd2).2) (by decide) (by decide) k) ?_
  show own_Gl _ _ _ _ _ _ _ (T1.setTop (mkF m 27 #[.val (.ref a), .val (.ref b), .val (.int (0 : Int32)), .val (.int (2 : Int32)), .val .null, .unset] []))
  obtain ⟨T3, X3, e3, st3⟩ := getS2 X1 hx hZ hown (host := "") (Or.inl (hw _ (List.mem_of_getElem? (i := 15) rfl))) Via.refl e1 (S_COMPACT_STRINGS.ext Old0.2) (g := (mkF m 27 #[.val (.ref a), .val (.ref b), .val (.int (0 : Int32)), .val (.int (2 : Int32)), .val .null, .unset] [])) rfl (hb hby own_d_jdk_42_method_149_code_27)
  refine own_st st3 ?_
  show own_Gl _ _ _ _ _ _ _ (T3.setTop (mkF m 30 #[.val (.ref a), .val (.ref b), .val (.int (0 : Int32)), .val (.int (2 : Int32)), .val .null, .unset] [(.int cs)]))
  have hd4 : ¬ (cs = (0 : Int32)) := hcs
  refine own_st (fun _ k => XS.ifNo X3.here hx rfl (hb hby own_d_jdk_42_method_149_code_30) rfl ((if0 _ _).trans (feq hd4).1) k) ?_
  show own_Gl _ _ _ _ _ _ _ (T3.setTop (mkF m 33 #[.val (.ref a), .val (.ref b), .val (.int (0 : Int32)), .val (.int (2 : Int32)), .val .null, .unset] []))
  refine own_st (fun _ k => XS.aloadN X3.here hx rfl (hb hby own_d_jdk_42_method_149_code_33) rfl rfl k) ?_
  show own_Gl _ _ _ _ _ _ _ (T3.setTop (mkF m 34 #[.val (.ref a), .val (.ref b), .val (.int (0 : Int32)), .val (.int (2 : Int32)), .val .null, .unset] [(.ref b)]))
  refine own_st (fun _ k => XS.iloadN X3.here hx rfl (hb hby own_d_jdk_42_method_149_code_34) rfl k) ?_
  show own_Gl _ _ _ _ _ _ _ (T3.setTop (mkF m 35 #[.val (.ref a), .val (.ref b), .val (.int (0 : Int32)), .val (.int (2 : Int32)), .val .null, .unset] [(.int (0 : Int32)), (.ref b)]))
  refine own_st (fun _ k => XS.iloadN X3.here hx rfl (hb hby own_d_jdk_42_method_149_code_35) rfl k) ?_
  show own_Gl _ _ _ _ _ _ _ (T3.setTop (mkF m 36 #[.val (.ref a), .val (.ref b), .val (.int (0 : Int32)), .val (.int (2 : Int32)), .val .null, .unset] [(.int (2 : Int32)), (.int (0 : Int32)), (.ref b)]))
  obtain ⟨_, _, ⟨T5, L5, k5, n5⟩, -, X5, ⟨Lc5, hQ5, l5, y5, z5⟩, st5⟩ := Jvm.LawKit.callS X3 hx (y := (⟨"java/lang/StringUTF16", "compress", "([CII)[B"⟩ : MethodName)) hown (mvT hZ (hw _ (List.mem_of_getElem? (i := 16) rfl))) (mvT hZ (hw _ (List.mem_of_getElem? (i := 17) rfl))) (mvT hZ (hw _ (List.mem_of_getElem? (i := 18) rfl))) (mvT hZ (hw _ (List.mem_of_getElem? (i := 19) rfl))) (by decide) (backOf (W := 0) (own_c3_2_1 l Z a0 hw [] b k v0 v1 h0 n0 Z0 V_b hle0 hgt Old0 S__assertionsDisabled S_HI_BYTE_SHIFT S_LO_BYTE_SHIFT hr0 hr1) hZ (hw _ (List.mem_of_getElem? (i := 19) rfl)) (hw _ (List.mem_of_getElem? (i := 18) rfl)) (by decide) (by decide)) (g := (mkF m 36 #[.val (.ref a), .val (.ref b), .val (.int (0 : Int32)), .val (.int (2 : Int32)), .val .null, .unset] [(.int (2 : Int32)), (.int (0 : Int32)), (.ref b)])) rfl (by rw [hml]; rfl) (argsL := [(.ref b), (.int (0 : Int32)), (.int (2 : Int32))]) (rest := []) (lenOf own_pd461289092 rfl) rfl (by show 2 * 0 + _ ≤ _; exact Nat.le_of_eq rfl) (hb hby own_d_jdk_42_method_149_code_36) (fun _ _ => ⟨rfl, e3, (by decide : 0 + 2 ≤ ({ frames := 4, cells := 2, slots := 6, locals := 57 } : Room).cells), (by decide : 0 + 6 ≤ ({ frames := 4, cells := 2, slots := 6, locals := 57 } : Room).slots)⟩)
  dsimp only [Pt.U, Pt.locs, Pt.cells, Pt.slots] at X5 l5 y5 z5 st5 hQ5
  subst l5 y5 z5
  obtain ⟨hh5, eh05⟩ : ∃ z, T5.heap = z := ⟨_, rfl⟩
  rw [eh05] at hQ5
  obtain ⟨r_5, kr_5, rfl, Nq5, Kq5, P5_0, P5_1, P5_2⟩ := hQ5
  have N5 := Fr.app N0 Nq5
  refine own_st st5 ?_
  have Zs6 : n0 ≤ hh5.size := Nat.le_trans Z0 Kq5.1
  have gh_r_5 : h0.size ≤ r_5 := Nat.le_trans (Keep.refl h0 [a]).1 P5_1
  have ne_a_r_5 : a ≠ r_5 := Nat.ne_of_lt (Nat.lt_of_lt_of_le E_a.lt P5_1)
  have ne_b_r_5 : b ≠ r_5 := Nat.ne_of_lt (Nat.lt_of_lt_of_le V_b.lt P5_1)
  show own_Gl _ _ _ _ _ _ _ (T5.setTop (mkF m 39 #[.val (.ref a), .val (.ref b), .val (.int (0 : Int32)), .val (.int (2 : Int32)), .val .null, .unset] [(.ref r_5)]))
  refine own_st (fun _ k => XS.astore X5.here hx rfl (hb hby own_d_jdk_42_method_149_code_39) rfl rfl (l' := #[.val (.ref a), .val (.ref b), .val (.int (0 : Int32)), .val (.int (2 : Int32)), .val .null, .val (.ref r_5)]) rfl k) ?_
  show own_Gl _ _ _ _ _ _ _ (T5.setTop (mkF m 41 #[.val (.ref a), .val (.ref b), .val (.int (0 : Int32)), .val (.int (2 : Int32)), .val .null, .val (.ref r_5)] []))
  refine own_st (fun _ k => XS.aloadN X5.here hx rfl (hb hby own_d_jdk_42_method_149_code_41) rfl rfl k) ?_
  show own_Gl _ _ _ _ _ _ _ (T5.setTop (mkF m 42 #[.val (.ref a), .val (.ref b), .val (.int (0 : Int32)), .val (.int (2 : Int32)), .val .null, .val (.ref r_5)] [(.ref a)]))
  refine own_st (fun _ k => XS.aload X5.here hx rfl (hb hby own_d_jdk_42_method_149_code_42) rfl rfl k) ?_
  show own_Gl _ _ _ _ _ _ _ (T5.setTop (mkF m 44 #[.val (.ref a), .val (.ref b), .val (.int (0 : Int32)), .val (.int (2 : Int32)), .val .null, .val (.ref r_5)] [(.ref r_5), (.ref a)]))
  refine own_st (fun _ k => XS.iloadN X5.here hx rfl (hb hby own_d_jdk_42_method_149_code_44) rfl k) ?_
  show own_Gl _ _ _ _ _ _ _ (T5.setTop (mkF m 45 #[.val (.ref a), .val (.ref b), .val (.int (0 : Int32)), .val (.int (2 : Int32)), .val .null, .val (.ref r_5)] [(.int (2 : Int32)), (.ref r_5), (.ref a)]))
  have f8 := (E_a.keep Kq5)
  have f9 := (V_b.keep Kq5 nin0)
  obtain ⟨_, _, ⟨T7, L7, k7, n7⟩, -, X7, ⟨Lc7, hQ7, l7, y7, z7⟩, st7⟩ := Jvm.LawKit.callS X5 hx (y := (⟨"java/lang/StringUTF16", "coderFromArrayLen", "([BI)B"⟩ : MethodName)) hown (mvT hZ (hw _ (List.mem_of_getElem? (i := 24) rfl))) (mvT hZ (hw _ (List.mem_of_getElem? (i := 25) rfl))) (mvT hZ (hw _ (List.mem_of_getElem? (i := 18) rfl))) (mvT hZ (hw _ (List.mem_of_getElem? (i := 26) rfl))) (by decide) (backOf (W := 1) (own_cf_2_1 l Z a0 hw [] r_5 kr_5 [(.int (nar .byte ((v0 >>> ((0 : Int32) &&& 31)).toInt8.toInt32))), (.int (nar .byte ((v0 >>> ((8 : Int32) &&& 31)).toInt8.toInt32))), (.int (nar .byte ((v1 >>> ((0 : Int32) &&& 31)).toInt8.toInt32))), (.int (nar .byte ((v1 >>> ((8 : Int32) &&& 31)).toInt8.toInt32)))] hh5 n0 Zs6 P5_2) hZ (hw _ (List.mem_of_getElem? (i := 26) rfl)) (hw _ (List.mem_of_getElem? (i := 18) rfl)) (by decide) (by decide)) (g := (mkF m 45 #[.val (.ref a), .val (.ref b), .val (.int (0 : Int32)), .val (.int (2 : Int32)), .val .null, .val (.ref r_5)] [(.int (2 : Int32)), (.ref r_5), (.ref a)])) rfl (by rw [hml]; rfl) (argsL := [(.ref r_5), (.int (2 : Int32))]) (rest := [(.ref a)]) (lenOf own_pd128711047 rfl) rfl (by show 2 * 0 + _ ≤ _; exact Nat.le_of_eq rfl) (hb hby own_d_jdk_42_method_149_code_45) (fun _ _ => ⟨rfl, eh05, (by decide : 2 + 0 ≤ ({ frames := 4, cells := 2, slots := 6, locals := 57 } : Room).cells), (by decide : 6 + 0 ≤ ({ frames := 4, cells := 2, slots := 6, locals := 57 } : Room).slots)⟩)
  dsimp only [Pt.U, Pt.locs, Pt.cells, Pt.slots] at X7 l7 y7 z7 st7 hQ7
  subst l7 y7 z7
  obtain ⟨hh7, eh07⟩ : ∃ z, T7.heap = z := ⟨_, rfl⟩
  rw [eh07] at hQ7
  obtain ⟨rfl, Nq7, eh7⟩ := hQ7
  have N7 := Fr.app N5 Nq7
  refine own_st st7 ?_
  have e7 : T7.heap = hh5 := eh07.trans eh7
  show own_Gl _ _ _ _ _ _ _ (T7.setTop (mkF m 48 #[.val (.ref a), .val (.ref b), .val (.int (0 : Int32)), .val (.int (2 : Int32)), .val .null, .val (.ref r_5)] [(.int (1 : Int32)), (.ref a)]))
  have f10 := (F_a_coder.keep Kq5 nin0)
  obtain ⟨T11, h11, X11, e11, W11, st11⟩ := putFN X7 hx hZ hown (hw _ (List.mem_of_getElem? (i := 27) rfl)) Via.refl e7 f10 f8 (Or.inr ⟨(hw _ (List.mem_of_getElem? (i := 28) rfl)), rfl, hnm⟩) (hw _ (List.mem_of_getElem? (i := 3) rfl)) (ty := .byte) (v' := (.int (nar .byte (1 : Int32)))) (by decide) rfl (fits_nar_byte _) (g := (mkF m 48 #[.val (.ref a), .val (.ref b), .val (.int (0 : Int32)), .val (.int (2 : Int32)), .val .null, .val (.ref r_5)] [(.int (1 : Int32)), (.ref a)])) rfl rfl (hb hby own_d_jdk_42_method_149_code_48)
  have N11 := Fr.snoc X11 N7 g_a
  refine own_st st11 ?_
  have Zs12 : n0 ≤ h11.size := Nat.le_trans Zs6 (Keep.of_wr W11).1
  have Fw11 := f10.same W11
  show own_Gl _ _ _ _ _ _ _ (T11.setTop (mkF m 51 #[.val (.ref a), .val (.ref b), .val (.int (0 : Int32)), .val (.int (2 : Int32)), .val .null, .val (.ref r_5)] []))
  refine own_st (fun _ k => XS.aloadN X11.here hx rfl (hb hby own_d_jdk_42_method_149_code_51) rfl rfl k) ?_
  show own_Gl _ _ _ _ _ _ _ (T11.setTop (mkF m 52 #[.val (.ref a), .val (.ref b), .val (.int (0 : Int32)), .val (.int (2 : Int32)), .val .null, .val (.ref r_5)] [(.ref a)]))
  refine own_st (fun _ k => XS.aload X11.here hx rfl (hb hby own_d_jdk_42_method_149_code_52) rfl rfl k) ?_
  show own_Gl _ _ _ _ _ _ _ (T11.setTop (mkF m 54 #[.val (.ref a), .val (.ref b), .val (.int (0 : Int32)), .val (.int (2 : Int32)), .val .null, .val (.ref r_5)] [(.ref r_5), (.ref a)]))
  have f13 := (f8.wr W11)
  have f14 := ((F_a_value.keep Kq5 nin0).other W11 (Or.inr (slot_ne (Or.inr (hw _ (List.mem_of_getElem? (i := 30) rfl))) (Or.inr (hw _ (List.mem_of_getElem? (i := 28) rfl))) (by decide) (t := (.array .byte)) (t' := .byte) (by decide) (by decide))))
  obtain ⟨T15, h15, X15, e15, W15, st15⟩ := putF X11 hx hZ hown (host := "") (Or.inl (hw _ (List.mem_of_getElem? (i := 29) rfl))) Via.refl e11 f14 f13 (Or.inr ⟨(hw _ (List.mem_of_getElem? (i := 30) rfl)), rfl, hnm⟩) (hw _ (List.mem_of_getElem? (i := 3) rfl)) (ty := (.array .byte)) (by decide) rfl rfl (g := (mkF m 54 #[.val (.ref a), .val (.ref b), .val (.int (0 : Int32)), .val (.int (2 : Int32)), .val .null, .val (.ref r_5)] [(.ref r_5), (.ref a)])) rfl rfl (hb hby own_d_jdk_42_method_149_code_54)
  have N15 := Fr.snoc X15 N11 g_a
  refine own_st st15 ?_
  have Zs16 : n0 ≤ h15.size := Nat.le_trans Zs12 (Keep.of_wr W15).1
  have Fw15 := f14.same W15
  show own_Gl _ _ _ _ _ _ _ (T15.setTop (mkF m 57 #[.val (.ref a), .val (.ref b), .val (.int (0 : Int32)), .val (.int (2 : Int32)), .val .null, .val (.ref r_5)] []))
  have f17 := (Fw11.other W15 (Or.inr (slot_ne (Or.inr (hw _ (List.mem_of_getElem? (i := 28) rfl))) (Or.inr (hw _ (List.mem_of_getElem? (i := 30) rfl))) (by decide) (t := .byte) (t' := (.array .byte)) (by decide) (by decide))))
  have K18 : Keep h0 h15 [a] := ((((Keep.refl h0 [a]).trans Kq5 all0).wr W11 (Or.inl (List.mem_of_getElem? (i := 0) rfl))).wr W15 (Or.inl (List.mem_of_getElem? (i := 0) rfl)))
  have f19 := ((P5_2.other W11 (Ne.symm ne_a_r_5)).other W15 (Ne.symm ne_a_r_5))
  exact own_retV X15 hx hlk hret (hb hby own_d_jdk_42_method_149_code_57) e15 ⟨r_5, kr_5, rfl, N15, K18, P5_0, gh_r_5, f19, Fw15, f17⟩ (by decide) (by decide)
theorem own_ef_own_i1_2_1 (m : MethodId) (x0 : Addr) (x1 : Addr) : entryFrame m #[(.ref x0), (.ref x1)] 2 = mkF m 0 #[.val (.ref x0), .val (.ref x1)] [] := by first | (simp [entryFrame, mkF, argsToLocals, Value.category]; done) | rfl
def own_Q_own_i1_2_1 (Z : State) (a : Addr) (b : Addr) (k : ClassId) (v0 : Int32) (v1 : Int32) (cs : Int32) (h0 : Heap) (n0 : Nat) (v : Option Value) (h : Heap) (L : List Loc) : Prop := ∃ (r : Addr) (kr : ClassId), (v = none) ∧ (Fr n0 L) ∧ (Keep h0 h [a]) ∧ (n0 ≤ r) ∧ (h0.size ≤ r) ∧ (Arv Z h r kr .byte (4 : Int32) [(.int (nar .byte ((v0 >>> ((0 : Int32) &&& 31)).toInt8.toInt32))), (.int (nar .byte ((v0 >>> ((8 : Int32) &&& 31)).toInt8.toInt32))), (.int (nar .byte ((v1 >>> ((0 : Int32) &&& 31)).toInt8.toInt32))), (.int (nar .byte ((v1 >>> ((8 : Int32) &&& 31)).toInt8.toInt32)))] (.int (0 : Int32))) ∧ (Fld Z h a "java/lang/String" "value" "[B" (.ref r)) ∧ (Fld Z h a "java/lang/String" "coder" "B" (.int (1 : Int32)))
set_option maxRecDepth 65536 in
set_option maxHeartbeats 40000000 in
theorem own_i1_2_1 (l : Launch) (Z : State) (a0 : Array Value) (hw : ∀ d ∈ tables_1, d.before a0 Z = true) (ws : List Jvm.Cond) (a : Addr) (b : Addr) (k : ClassId) (v0 : Int32) (v1 : Int32) (cs : Int32) (h0 : Heap) (n0 : Nat) (Z0 : n0 ≤ h0.size) (E_a : Exa Z h0 a "java/lang/String") (F_a_value : Fld Z h0 a "java/lang/String" "value" "[B" .null) (F_a_coder : Fld Z h0 a "java/lang/String" "coder" "B" (.int (0 : Int32))) (g_a : n0 ≤ a) (ne_a_b : a ≠ b) (V_b : Arv Z h0 b k .char (2 : Int32) [(.int v0), (.int v1)] (.int (0 : Int32))) (hle0 : ¬ ((255 : Int32) < v0)) (hgt : (255 : Int32) < v1) (S_COMPACT_STRINGS : Sta Z Z.heap "java/lang/String" "COMPACT_STRINGS" "Z" (.int cs)) (hcs : ¬ (cs = (0 : Int32))) (Old0 : Old Z n0 h0) (S__assertionsDisabled : Sta Z Z.heap "java/lang/StringUTF16" "$assertionsDisabled" "Z" (.int (1 : Int32))) (S_HI_BYTE_SHIFT : Sta Z Z.heap "java/lang/StringUTF16" "HI_BYTE_SHIFT" "I" (.int (0 : Int32))) (S_LO_BYTE_SHIFT : Sta Z Z.heap "java/lang/StringUTF16" "LO_BYTE_SHIFT" "I" (.int (8 : Int32))) (hr0 : ¬ v0 < (0 : Int32) ∧ ¬ (65535 : Int32) < v0) (hr1 : ¬ v1 < (0 : Int32) ∧ ¬ (65535 : Int32) < v1) :
    MetFree l (⟨"java/lang/String", "<init>", "([C)V"⟩ : MethodName) (head1 (Jvm.Cond.code (⟨"java/lang/String", "<init>", "([C)V"⟩ : MethodName) jdk_42_method_3_code 2 none :: ws) ({ frames := 5, cells := 2, slots := 6, locals := 74 } : Room)) (fun xa xU => xa = #[(.ref a), (.ref b)] ∧ Z.Warmed39 xU.vm ∧ xU.heap = h0) (fun _ _ _ _ _ => True) (fun _ xU xo xV => ∃ v L, xo = .returned v ∧ own_Q_own_i1_2_1 Z a b k v0 v1 cs h0 n0 v xV.heap L ∧ FrameEnd xU xo xV L ({ frames := 5, cells := 2, slots := 6, locals := 74 } : Room).cells ({ frames := 5, cells := 2, slots := 6, locals := 74 } : Room).slots) := by
  refine MetFree.of_bodySF (plainFor_of_name own_pn853443214) hisR ?_
  intro p e s m args below meth c s₁ Bd hml0 hP hK
  obtain ⟨rfl, hZ, hh⟩ := hP
  have hx := Bd.exec
  have hby := Bd.bytes
  have hlk := Bd.notSynchronized
  have hret := Bd.returns
  have hml : c.maxLocals = 2 := hml0
  have hown : s.vm.findClass "java/lang/String" = some m.cls := findClass_of_methodNamed Bd.named
  have hnm := (name_of_methodNamed Bd.named Bd.method).1
  have X0 : Stand p l e ({ frames := 5, cells := 2, slots := 6, locals := 74 } : Room) s m #[(.ref a), (.ref b)] below meth c s₁ [] 0 0 := Stand.of_body Bd
  have e0 : s₁.heap = h0 := by rw [← hh, Bd.state]; rfl
  have N0 := Fr.nil n0
  show own_Gl p e below s (own_Q_own_i1_2_1 Z a b k v0 v1 cs h0 n0) ({ frames := 5, cells := 2, slots := 6, locals := 74 } : Room).cells ({ frames := 5, cells := 2, slots := 6, locals := 74 } : Room).slots _
  refine own_cast (own_ef_own_i1_2_1 m a b) ?_
  show own_Gl _ _ _ _ _ _ _ (s₁.setTop (mkF m 0 #[.val (.ref a), .val (.ref b)] []))
  refine own_st (fun _ k => XS.aloadN X0.here hx rfl (hb hby own_d_jdk_42_method_3_code_0) rfl rfl k) ?_
  show own_Gl _ _ _ _ _ _ _ (s₁.setTop (mkF m 1 #[.val (.ref a), .val (.ref b)] [(.ref a)]))
  refine own_st (fun _ k => XS.aloadN X0.here hx rfl (hb hby own_d_jdk_42_method_3_code_1) rfl rfl k) ?_
  show own_Gl _ _ _ _ _ _ _ (s₁.setTop (mkF m 2 #[.val (.ref a), .val (.ref b)] [(.ref b), (.ref a)]))
  refine own_st (fun _ k => XS.iconst X0.here hx rfl (hb hby own_d_jdk_42_method_3_code_2) k) ?_
  show own_Gl _ _ _ _ _ _ _ (s₁.setTop (mkF m 3 #[.val (.ref a), .val (.ref b)] [(.int (0 : Int32)), (.ref b), (.ref a)]))
  refine own_st (fun _ k => XS.aloadN X0.here hx rfl (hb hby own_d_jdk_42_method_3_code_3) rfl rfl k) ?_
  show own_Gl _ _ _ _ _ _ _ (s₁.setTop (mkF m 4 #[.val (.ref a), .val (.ref b)] [(.ref b), (.int (0 : Int32)), (.ref b), (.ref a)]))
  obtain ⟨cl1, Ar1, qq1, Ss1, Nn1, Hh1, Gg1⟩ := id V_b
  refine own_st (X0.arraylength hx (by rw [e0]; exact Ar1.1) (State.isArrayOf_alike hZ.alike Ar1.2.1) (g := (mkF m 4 #[.val (.ref a), .val (.ref b)] [(.ref b), (.int (0 : Int32)), (.ref b), (.ref a)])) rfl rfl (hb hby own_d_jdk_42_method_3_code_4)) ?_
  rw [len_of Ss1 Nn1]
  show own_Gl _ _ _ _ _ _ _ (s₁.setTop (mkF m 5 #[.val (.ref a), .val (.ref b)] [(.int (2 : Int32)), (.int (0 : Int32)), (.ref b), (.ref a)]))
  refine own_st (fun _ k => XS.aconstNull X0.here hx rfl (hb hby own_d_jdk_42_method_3_code_5) k) ?_
  show own_Gl _ _ _ _ _ _ _ (s₁.setTop (mkF m 6 #[.val (.ref a), .val (.ref b)] [.null, (.int (2 : Int32)), (.int (0 : Int32)), (.ref b), (.ref a)]))
  obtain ⟨_, _, ⟨T2, L2, k2, n2⟩, -, X2, ⟨Lc2, hQ2, l2, y2, z2⟩, st2⟩ := X0.specialBack hx (y := (⟨"java/lang/String", "<init>", "([CIILjava/lang/Void;)V"⟩ : MethodName)) rfl hown (mvT hZ (hw _ (List.mem_of_getElem? (i := 8) rfl))) (mvT hZ (hw _ (List.mem_of_getElem? (i := 9) rfl))) (mvT hZ (hw _ (List.mem_of_getElem? (i := 11) rfl))) (by decide) (backOf (W := 0) (own_i4_2_1 l Z a0 hw [] a b k v0 v1 cs h0 n0 Z0 E_a F_a_value F_a_coder g_a ne_a_b V_b hle0 hgt S_COMPACT_STRINGS hcs Old0 S__assertionsDisabled S_HI_BYTE_SHIFT S_LO_BYTE_SHIFT hr0 hr1) hZ (hw _ (List.mem_of_getElem? (i := 11) rfl)) (hw _ (List.mem_of_getElem? (i := 4) rfl)) (by decide) (by decide)) (g := (mkF m 6 #[.val (.ref a), .val (.ref b)] [.null, (.int (2 : Int32)), (.int (0 : Int32)), (.ref b), (.ref a)])) rfl (by rw [hml]; rfl) (Steps.refl _) (a := a) (argsL := [(.ref b), (.int (0 : Int32)), (.int (2 : Int32)), .null]) (rest := []) (lenOf own_pd888094010 rfl) rfl (by show 2 * 0 + _ ≤ _; exact Nat.le_of_eq rfl) (hb hby own_d_jdk_42_method_3_code_6) (fun _ _ => ⟨rfl, e0, (by decide : 0 + 2 ≤ ({ frames := 5, cells := 2, slots := 6, locals := 74 } : Room).cells), (by decide : 0 + 6 ≤ ({ frames := 5, cells := 2, slots := 6, locals := 74 } : Room).slots)⟩)
  dsimp only [Pt.U, Pt.locs, Pt.cells, Pt.slots] at X2 l2 y2 z2 st2 hQ2
  subst l2 y2 z2
  obtain ⟨hh2, eh02⟩ : ∃ z, T2.heap = z := ⟨_, rfl⟩
  rw [eh02] at hQ2
  obtain ⟨r_2, kr_2, rfl, Nq2, Kq2, P2_0, P2_1, P2_2, P2_3, P2_4⟩ := hQ2
  have N2 := Fr.app N0 Nq2
  refine own_tr st2 ?_
  have Zs3 : n0 ≤ hh2.size := Nat.le_trans Z0 Kq2.1
  have gh_r_2 : h0.size ≤ r_2 := Nat.le_trans (Keep.refl h0 [a]).1 P2_1
  have ne_a_r_2 : a ≠ r_2 := Nat.ne_of_lt (Nat.lt_of_lt_of_le E_a.lt P2_1)
  have ne_b_r_2 : b ≠ r_2 := Nat.ne_of_lt (Nat.lt_of_lt_of_le V_b.lt P2_1)
  show own_Gl _ _ _ _ _ _ _ (T2.setTop (mkF m 9 #[.val (.ref a), .val (.ref b)] []))
  have K4 : Keep h0 hh2 [a] := ((Keep.refl h0 [a]).trans Kq2 (allS (Or.inl (List.mem_of_getElem? (i := 0) rfl)) all0))
  exact own_retV X2 hx hlk hret (hb hby own_d_jdk_42_method_3_code_9) eh02 ⟨r_2, kr_2, rfl, N2, K4, P2_0, gh_r_2, P2_2, P2_3, P2_4⟩ (by decide) (by decide)
theorem own_d_jdk_52_method_21_code_44 : decode jdk_52_method_21_code 44 = .ok (.iload 4, 2) := by decide +kernel
theorem own_d_jdk_52_method_21_code_46 : decode jdk_52_method_21_code 46 = .ok (.ireturn, 1) := by decide +kernel
theorem own_ef_own_c5_2_2 (m : MethodId) (x0 : Addr) (x1 : Int32) (x2 : Addr) (x3 : Int32) (x4 : Int32) : entryFrame m #[(.ref x0), (.int x1), (.ref x2), (.int x3), (.int x4)] 7 = mkF m 0 #[.val (.ref x0), .val (.int x1), .val (.ref x2), .val (.int x3), .val (.int x4), .unset, .unset] [] := by first | (simp [entryFrame, mkF, argsToLocals, Value.category]; done) | rfl
def own_Q_own_c5_2_2 (Z : State) (a : Addr) (b : Addr) (k : ClassId) (kb : ClassId) (v0 : Int32) (v1 : Int32) (h0 : Heap) (n0 : Nat) (v : Option Value) (h : Heap) (L : List Loc) : Prop := (v = some (.int (2 : Int32))) ∧ (Fr n0 L) ∧ (Keep h0 h [b]) ∧ (Arv Z h b kb .byte (2 : Int32) [(.int (nar .byte (v0.toInt8.toInt32))), (.int (nar .byte (v1.toInt8.toInt32)))] (.int (0 : Int32)))
set_option maxRecDepth 65536 in
set_option maxHeartbeats 40000000 in
theorem own_c5_2_2 (l : Launch) (Z : State) (a0 : Array Value) (hw : ∀ d ∈ tables_1, d.before a0 Z = true) (ws : List Jvm.Cond) (a : Addr) (b : Addr) (k : ClassId) (kb : ClassId) (v0 : Int32) (v1 : Int32) (h0 : Heap) (n0 : Nat) (Z0 : n0 ≤ h0.size) (V_a : Arv Z h0 a k .char (2 : Int32) [(.int v0), (.int v1)] (.int (0 : Int32))) (V_b : Arv Z h0 b kb .byte (2 : Int32) [(.int (0 : Int32)), (.int (0 : Int32))] (.int (0 : Int32))) (g_b : n0 ≤ b) (ne_a_b : a ≠ b) (hle0 : ¬ ((255 : Int32) < v0)) (hle1 : ¬ ((255 : Int32) < v1)) :
    MetFree l (⟨"java/lang/StringUTF16", "compress", "([CI[BII)I"⟩ : MethodName) (head1 (Jvm.Cond.code (⟨"java/lang/StringUTF16", "compress", "([CI[BII)I"⟩ : MethodName) jdk_52_method_21_code 7 (some .int) :: ws) ({ frames := 0, cells := 0, slots := 0, locals := 0 } : Room)) (fun xa xU => xa = #[(.ref a), (.int (0 : Int32)), (.ref b), (.int (0 : Int32)), (.int (2 : Int32))] ∧ Z.Warmed39 xU.vm ∧ xU.heap = h0) (fun _ _ _ _ _ => True) (fun _ xU xo xV => ∃ v L, xo = .returned v ∧ own_Q_own_c5_2_2 Z a b k kb v0 v1 h0 n0 v xV.heap L ∧ FrameEnd xU xo xV L ({ frames := 0, cells := 0, slots := 0, locals := 0 } : Room).cells ({ frames := 0, cells := 0, slots := 0, locals := 0 } : Room).slots) := by
  refine MetFree.of_bodySF (plainFor_of_name own_pn730740715) hisR ?_
  intro p e s m args below meth c s₁ Bd hml0 hP hK
  obtain ⟨rfl, hZ, hh⟩ := hP
  have hx := Bd.exec
  have hby := Bd.bytes
  have hlk := Bd.notSynchronized
  have hret := Bd.returns
  have hml : c.maxLocals = 7 := hml0
  have hown : s.vm.findClass "java/lang/StringUTF16" = some m.cls := findClass_of_methodNamed Bd.named
  have hnm := (name_of_methodNamed Bd.named Bd.method).1
  have X0 : Stand p l e ({ frames := 0, cells := 0, slots := 0, locals := 0 } : Room) s m #[(.ref a), (.int (0 : Int32)), (.ref b), (.int (0 : Int32)), (.int (2 : Int32))] below meth c s₁ [] 0 0 := Stand.of_body Bd
  have e0 : s₁.heap = h0 := by rw [← hh, Bd.state]; rfl
  have N0 := Fr.nil n0
  show own_Gl p e below s (own_Q_own_c5_2_2 Z a b k kb v0 v1 h0 n0) ({ frames := 0, cells := 0, slots := 0, locals := 0 } : Room).cells ({ frames := 0, cells := 0, slots := 0, locals := 0 } : Room).slots _
  refine own_cast (own_ef_own_c5_2_2 m a (0 : Int32) b (0 : Int32) (2 : Int32)) ?_
  show own_Gl _ _ _ _ _ _ _ (s₁.setTop (mkF m 0 #[.val (.ref a), .val (.int (0 : Int32)), .val (.ref b), .val (.int (0 : Int32)), .val (.int (2 : Int32)), .unset, .unset] []))
  refine own_st (fun _ k => XS.iconst X0.here hx rfl (hb hby own_d_jdk_52_method_21_code_0) k) ?_
  show own_Gl _ _ _ _ _ _ _ (s₁.setTop (mkF m 1 #[.val (.ref a), .val (.int (0 : Int32)), .val (.ref b), .val (.int (0 : Int32)), .val (.int (2 : Int32)), .unset, .unset] [(.int (0 : Int32))]))
  refine own_st (fun _ k => XS.istore X0.here hx rfl (hb hby own_d_jdk_52_method_21_code_1) rfl (l' := #[.val (.ref a), .val (.int (0 : Int32)), .val (.ref b), .val (.int (0 : Int32)), .val (.int (2 : Int32)), .val (.int (0 : Int32)), .unset]) rfl k) ?_
  show own_Gl _ _ _ _ _ _ _ (s₁.setTop (mkF m 3 #[.val (.ref a), .val (.int (0 : Int32)), .val (.ref b), .val (.int (0 : Int32)), .val (.int (2 : Int32)), .val (.int (0 : Int32)), .unset] []))
  refine own_st (fun _ k => XS.iload X0.here hx rfl (hb hby own_d_jdk_52_method_21_code_3) rfl k) ?_
  show own_Gl _ _ _ _ _ _ _ (s₁.setTop (mkF m 5 #[.val (.ref a), .val (.int (0 : Int32)), .val (.ref b), .val (.int (0 : Int32)), .val (.int (2 : Int32)), .val (.int (0 : Int32)), .unset] [(.int (0 : Int32))]))
  refine own_st (fun _ k => XS.iload X0.here hx rfl (hb hby own_d_jdk_52_method_21_code_5) rfl k) ?_
  show own_Gl _ _ _ _ _ _ _ (s₁.setTop (mkF m 7 #[.val (.ref a), .val (.int (0 : Int32)), .val (.ref b), .val (.int (0 : Int32)), .val (.int (2 : Int32)), .val (.int (0 : Int32)), .unset] [(.int (2 : Int32)), (.int (0 : Int32))]))
  have hd1 : (0 : Int32) < (2 : Int32) := (by decide)
  refine own_st (fun _ k => XS.icmpNo X0.here hx rfl (hb hby own_d_jdk_52_method_21_code_7) rfl (tlt hd1).2.1 k) ?_
  show own_Gl _ _ _ _ _ _ _ (s₁.setTop (mkF m 10 #[.val (.ref a), .val (.int (0 : Int32)), .val (.ref b), .val (.int (0 : Int32)), .val (.int (2 : Int32)), .val (.int (0 : Int32)), .unset] []))
  refine own_st (fun _ k => XS.aloadN X0.here hx rfl (hb hby own_d_jdk_52_method_21_code_10) rfl rfl k) ?_
  show own_Gl _ _ _ _ _ _ _ (s₁.setTop (mkF m 11 #[.val (.ref a), .val (.int (0 : Int32)), .val (.ref b), .val (.int (0 : Int32)), .val (.int (2 : Int32)), .val (.int (0 : Int32)), .unset] [(.ref a)]))
  refine own_st (fun _ k => XS.iloadN X0.here hx rfl (hb hby own_d_jdk_52_method_21_code_11) rfl k) ?_
  show own_Gl _ _ _ _ _ _ _ (s₁.setTop (mkF m 12 #[.val (.ref a), .val (.int (0 : Int32)), .val (.ref b), .val (.int (0 : Int32)), .val (.int (2 : Int32)), .val (.int (0 : Int32)), .unset] [(.int (0 : Int32)), (.ref a)]))
  obtain ⟨cl2, Ar2, qq2, Ss2, Nn2, Hh2, Gg2⟩ := id V_a
  have hin2 : ¬ ((0 : Int32) < 0 ∨ cl2.slots.size ≤ ((0 : Int32)).toNatClampNeg) := inb_of Ss2 ⟨by decide, by decide⟩
  have hat2 : cl2.slots[((0 : Int32)).toNatClampNeg]? = some (.int v0) := Hh2.at hin2 (rfl)
  refine own_st (X0.caload hx (j := (0 : Int32)) (v := (.int v0)) (by rw [e0]; exact Ar2.1) (State.isArrayOf_alike hZ.alike Ar2.2.1) Ar2.2.2 hin2 hat2 (g := (mkF m 12 #[.val (.ref a), .val (.int (0 : Int32)), .val (.ref b), .val (.int (0 : Int32)), .val (.int (2 : Int32)), .val (.int (0 : Int32)), .unset] [(.int (0 : Int32)), (.ref a)])) rfl rfl (hb hby own_d_jdk_52_method_21_code_12)) ?_
  show own_Gl _ _ _ _ _ _ _ (s₁.setTop (mkF m 13 #[.val (.ref a), .val (.int (0 : Int32)), .val (.ref b), .val (.int (0 : Int32)), .val (.int (2 : Int32)), .val (.int (0 : Int32)), .unset] [(.int v0)]))
  refine own_st (fun _ k => XS.istore X0.here hx rfl (hb hby own_d_jdk_52_method_21_code_13) rfl (l' := #[.val (.ref a), .val (.int (0 : Int32)), .val (.ref b), .val (.int (0 : Int32)), .val (.int (2 : Int32)), .val (.int (0 : Int32)), .val (.int v0)]) rfl k) ?_
  show own_Gl _ _ _ _ _ _ _ (s₁.setTop (mkF m 15 #[.val (.ref a), .val (.int (0 : Int32)), .val (.ref b), .val (.int (0 : Int32)), .val (.int (2 : Int32)), .val (.int (0 : Int32)), .val (.int v0)] []))
  refine own_st (fun _ k => XS.iload X0.here hx rfl (hb hby own_d_jdk_52_method_21_code_15) rfl k) ?_
  show own_Gl _ _ _ _ _ _ _ (s₁.setTop (mkF m 17 #[.val (.ref a), .val (.int (0 : Int32)), .val (.ref b), .val (.int (0 : Int32)), .val (.int (2 : Int32)), .val (.int (0 : Int32)), .val (.int v0)] [(.int v0)]))
  refine own_st (fun _ k => XS.sipush X0.here hx rfl (hb hby own_d_jdk_52_method_21_code_17) k) ?_
  show own_Gl _ _ _ _ _ _ _ (s₁.setTop (mkF m 20 #[.val (.ref a), .val (.int (0 : Int32)), .val (.ref b), .val (.int (0 : Int32)), .val (.int (2 : Int32)), .val (.int (0 : Int32)), .val (.int v0)] [(.int (255 : Int32)), (.int v0)]))
  have hd3 : ¬ ((255 : Int32) < v0) := hle0
  refine own_st (fun _ k => XS.icmpYes X0.here hx rfl (pc0 := 20) (pc' := 26) rfl (hb hby own_d_jdk_52_method_21_code_20) rfl (flt hd3).2.2.2 (by decide) (by decide) k) ?_
  show own_Gl _ _ _ _ _ _ _ (s₁.setTop (mkF m 26 #[.val (.ref a), .val (.int (0 : Int32)), .val (.ref b), .val (.int (0 : Int32)), .val (.int (2 : Int32)), .val (.int (0 : Int32)), .val (.int v0)] []))
  refine own_st (fun _ k => XS.aloadN X0.here hx rfl (hb hby own_d_jdk_52_method_21_code_26) rfl rfl k) ?_
  show own_Gl _ _ _ _ _ _ _ (s₁.setTop (mkF m 27 #[.val (.ref a), .val (.int (0 : Int32)), .val (.ref b), .val (.int (0 : Int32)), .val (.int (2 : Int32)), .val (.int (0 : Int32)), .val (.int v0)] [(.ref b)]))
  refine own_st (fun _ k => XS.iloadN X0.here hx rfl (hb hby own_d_jdk_52_method_21_code_27) rfl k) ?_
  show own_Gl _ _ _ _ _ _ _ (s₁.setTop (mkF m 28 #[.val (.ref a), .val (.int (0 : Int32)), .val (.ref b), .val (.int (0 : Int32)), .val (.int (2 : Int32)), .val (.int (0 : Int32)), .val (.int v0)] [(.int (0 : Int32)), (.ref b)]))
  refine own_st (fun _ k => XS.iload X0.here hx rfl (hb hby own_d_jdk_52_method_21_code_28) rfl k) ?_
  show own_Gl _ _ _ _ _ _ _ (s₁.setTop (mkF m 30 #[.val (.ref a), .val (.int (0 : Int32)), .val (.ref b), .val (.int (0 : Int32)), .val (.int (2 : Int32)), .val (.int (0 : Int32)), .val (.int v0)] [(.int v0), (.int (0 : Int32)), (.ref b)]))
  refine own_st (fun _ k => XS.i2b X0.here hx rfl (hb hby own_d_jdk_52_method_21_code_30) rfl k) ?_
  show own_Gl _ _ _ _ _ _ _ (s₁.setTop (mkF m 31 #[.val (.ref a), .val (.int (0 : Int32)), .val (.ref b), .val (.int (0 : Int32)), .val (.int (2 : Int32)), .val (.int (0 : Int32)), .val (.int v0)] [(.int (v0.toInt8.toInt32)), (.int (0 : Int32)), (.ref b)]))
  obtain ⟨cl4, Ar4, qq4, Ss4, Nn4, Hh4, Gg4⟩ := id V_b
  have hin4 : ¬ ((0 : Int32) < 0 ∨ cl4.slots.size ≤ ((0 : Int32)).toNatClampNeg) := inb_of Ss4 ⟨by decide, by decide⟩
  obtain ⟨T4, h4, X4, e4, W4, st4⟩ := stB X0 hx hZ e0 Ar4 (j := (0 : Int32)) hin4 (g := (mkF m 31 #[.val (.ref a), .val (.int (0 : Int32)), .val (.ref b), .val (.int (0 : Int32)), .val (.int (2 : Int32)), .val (.int (0 : Int32)), .val (.int v0)] [(.int (v0.toInt8.toInt32)), (.int (0 : Int32)), (.ref b)])) rfl rfl (hb hby own_d_jdk_52_method_21_code_31)
  have N4 := Fr.snoc X4 N0 g_b
  refine own_st st4 ?_
  have Zs5 : n0 ≤ h4.size := Nat.le_trans Z0 (Keep.of_wr W4).1
  have Vw4 : Arv Z h4 b kb .byte (2 : Int32) [(.int (nar .byte (v0.toInt8.toInt32))), (.int (0 : Int32))] (.int (0 : Int32)) := Arv.set Ar4 qq4 Ss4 Nn4 Hh4 Gg4 (fits_nar_byte _) W4 0 (rfl) (Nat.le_of_ble_eq_true rfl)
  show own_Gl _ _ _ _ _ _ _ (T4.setTop (mkF m 32 #[.val (.ref a), .val (.int (0 : Int32)), .val (.ref b), .val (.int (0 : Int32)), .val (.int (2 : Int32)), .val (.int (0 : Int32)), .val (.int v0)] []))
  refine own_st (fun _ k => XS.iinc X4.here hx rfl (hb hby own_d_jdk_52_method_21_code_32) rfl (l' := #[.val (.ref a), .val (.int (1 : Int32)), .val (.ref b), .val (.int (0 : Int32)), .val (.int (2 : Int32)), .val (.int (0 : Int32)), .val (.int v0)]) rfl k) ?_
  show own_Gl _ _ _ _ _ _ _ (T4.setTop (mkF m 35 #[.val (.ref a), .val (.int (1 : Int32)), .val (.ref b), .val (.int (0 : Int32)), .val (.int (2 : Int32)), .val (.int (0 : Int32)), .val (.int v0)] []))
  refine own_st (fun _ k => XS.iinc X4.here hx rfl (hb hby own_d_jdk_52_method_21_code_35) rfl (l' := #[.val (.ref a), .val (.int (1 : Int32)), .val (.ref b), .val (.int (1 : Int32)), .val (.int (2 : Int32)), .val (.int (0 : Int32)), .val (.int v0)]) rfl k) ?_
  show own_Gl _ _ _ _ _ _ _ (T4.setTop (mkF m 38 #[.val (.ref a), .val (.int (1 : Int32)), .val (.ref b), .val (.int (1 : Int32)), .val (.int (2 : Int32)), .val (.int (0 : Int32)), .val (.int v0)] []))
  refine own_st (fun _ k => XS.iinc X4.here hx rfl (hb hby own_d_jdk_52_method_21_code_38) rfl (l' := #[.val (.ref a), .val (.int (1 : Int32)), .val (.ref b), .val (.int (1 : Int32)), .val (.int (2 : Int32)), .val (.int (1 : Int32)), .val (.int v0)]) rfl k) ?_
  show own_Gl _ _ _ _ _ _ _ (T4.setTop (mkF m 41 #[.val (.ref a), .val (.int (1 : Int32)), .val (.ref b), .val (.int (1 : Int32)), .val (.int (2 : Int32)), .val (.int (1 : Int32)), .val (.int v0)] []))
  refine own_st (fun _ k => XS.goto X4.here hx rfl (pc0 := 41) (pc' := 3) rfl (hb hby own_d_jdk_52_method_21_code_41) (by decide) (by decide) k) ?_
  show own_Gl _ _ _ _ _ _ _ (T4.setTop (mkF m 3 #[.val (.ref a), .val (.int (1 : Int32)), .val (.ref b), .val (.int (1 : Int32)), .val (.int (2 : Int32)), .val (.int (1 : Int32)), .val (.int v0)] []))
  refine own_st (fun _ k => XS.iload X4.here hx rfl (hb hby own_d_jdk_52_method_21_code_3) rfl k) ?_
  show own_Gl _ _ _ _ _ _ _ (T4.setTop (mkF m 5 #[.val (.ref a), .val (.int (1 : Int32)), .val (.ref b), .val (.int (1 : Int32)), .val (.int (2 : Int32)), .val (.int (1 : Int32)), .val (.int v0)] [(.int (1 : Int32))]))
  refine own_st (fun _ k => XS.iload X4.here hx rfl (hb hby own_d_jdk_52_method_21_code_5) rfl k) ?_
  show own_Gl _ _ _ _ _ _ _ (T4.setTop (mkF m 7 #[.val (.ref a), .val (.int (1 : Int32)), .val (.ref b), .val (.int (1 : Int32)), .val (.int (2 : Int32)), .val (.int (1 : Int32)), .val (.int v0)] [(.int (2 : Int32)), (.int (1 : Int32))]))
  have hd6 : (1 : Int32) < (2 : Int32) := (by decide)
  refine own_st (fun _ k => XS.icmpNo X4.here hx rfl (hb hby own_d_jdk_52_method_21_code_7) rfl (tlt hd6).2.1 k) ?_
  show own_Gl _ _ _ _ _ _ _ (T4.setTop (mkF m 10 #[.val (.ref a), .val (.int (1 : Int32)), .val (.ref b), .val (.int (1 : Int32)), .val (.int (2 : Int32)), .val (.int (1 : Int32)), .val (.int v0)] []))
  refine own_st (fun _ k => XS.aloadN X4.here hx rfl (hb hby own_d_jdk_52_method_21_code_10) rfl rfl k) ?_
  show own_Gl _ _ _ _ _ _ _ (T4.setTop (mkF m 11 #[.val (.ref a), .val (.int (1 : Int32)), .val (.ref b), .val (.int (1 : Int32)), .val (.int (2 : Int32)), .val (.int (1 : Int32)), .val (.int v0)] [(.ref a)]))
  refine own_st (fun _ k => XS.iloadN X4.here hx rfl (hb hby own_d_jdk_52_method_21_code_11) rfl k) ?_
  show own_Gl _ _ _ _ _ _ _ (T4.setTop (mkF m 12 #[.val (.ref a), .val (.int (1 : Int32)), .val (.ref b), .val (.int (1 : Int32)), .val (.int (2 : Int32)), .val (.int (1 : Int32)), .val (.int v0)] [(.int (1 : Int32)), (.ref a)]))
  have f7 := (V_a.other W4 ne_a_b)
  obtain ⟨cl8, Ar8, qq8, Ss8, Nn8, Hh8, Gg8⟩ := id f7
  have hin8 : ¬ ((1 : Int32) < 0 ∨ cl8.slots.size ≤ ((1 : Int32)).toNatClampNeg) := inb_of Ss8 ⟨by decide, by decide⟩
  have hat8 : cl8.slots[((1 : Int32)).toNatClampNeg]? = some (.int v1) := Hh8.at hin8 (rfl)
  refine own_st (X4.caload hx (j := (1 : Int32)) (v := (.int v1)) (by rw [e4]; exact Ar8.1) (State.isArrayOf_alike hZ.alike Ar8.2.1) Ar8.2.2 hin8 hat8 (g := (mkF m 12 #[.val (.ref a), .val (.int (1 : Int32)), .val (.ref b), .val (.int (1 : Int32)), .val (.int (2 : Int32)), .val (.int (1 : Int32)), .val (.int v0)] [(.int (1 : Int32)), (.ref a)])) rfl rfl (hb hby own_d_jdk_52_method_21_code_12)) ?_
  show own_Gl _ _ _ _ _ _ _ (T4.setTop (mkF m 13 #[.val (.ref a), .val (.int (1 : Int32)), .val (.ref b), .val (.int (1 : Int32)), .val (.int (2 : Int32)), .val (.int (1 : Int32)), .val (.int v0)] [(.int v1)]))
  refine own_st (fun _ k => XS.istore X4.here hx rfl (hb hby own_d_jdk_52_method_21_code_13) rfl (l' := #[.val (.ref a), .val (.int (1 : Int32)), .val (.ref b), .val (.int (1 : Int32)), .val (.int (2 : Int32)), .val (.int (1 : Int32)), .val (.int v1)]) rfl k) ?_
  show own_Gl _ _ _ _ _ _ _ (T4.setTop (mkF m 15 #[.val (.ref a), .val (.int (1 : Int32)), .val (.ref b), .val (.int (1 : Int32)), .val (.int (2 : Int32)), .val (.int (1 : Int32)), .val (.int v1)] []))
  refine own_st (fun _ k => XS.iload X4.here hx rfl (hb hby own_d_jdk_52_method_21_code_15) rfl k) ?_
  show own_Gl _ _ _ _ _ _ _ (T4.setTop (mkF m 17 #[.val (.ref a), .val (.int (1 : Int32)), .val (.ref b), .val (.int (1 : Int32)), .val (.int (2 : Int32)), .val (.int (1 : Int32)), .val (.int v1)] [(.int v1)]))
  refine own_st (fun _ k => XS.sipush X4.here hx rfl (hb hby own_d_jdk_52_method_21_code_17) k) ?_
  show own_Gl _ _ _ _ _ _ _ (T4.setTop (mkF m 20 #[.val (.ref a), .val (.int (1 : Int32)), .val (.ref b), .val (.int (1 : Int32)), .val (.int (2 : Int32)), .val (.int (1 : Int32)), .val (.int v1)] [(.int (255 : Int32)), (.int v1)]))
  have hd9 : ¬ ((255 : Int32) < v1) := hle1
  refine own_st (fun _ k => XS.icmpYes X4.here hx rfl (pc0 := 20) (pc' := 26) rfl (hb hby own_d_jdk_52_method_21_code_20) rfl (flt hd9).2.2.2 (by decide) (by decide) k) ?_
  show own_Gl _ _ _ _ _ _ _ (T4.setTop (mkF m 26 #[.val (.ref a), .val (.int (1 : Int32)), .val (.ref b), .val (.int (1 : Int32)), .val (.int (2 : Int32)), .val (.int (1 : Int32)), .val (.int v1)] []))
  refine own_st (fun _ k => XS.aloadN X4.here hx rfl (hb hby own_d_jdk_52_method_21_code_26) rfl rfl k) ?_
  show own_Gl _ _ _ _ _ _ _ (T4.setTop (mkF m 27 #[.val (.ref a), .val (.int (1 : Int32)), .val (.ref b), .val (.int (1 : Int32)), .val (.int (2 : Int32)), .val (.int (1 : Int32)), .val (.int v1)] [(.ref b)]))
  refine own_st (fun _ k => XS.iloadN X4.here hx rfl (hb hby own_d_jdk_52_method_21_code_27) rfl k) ?_
  show own_Gl _ _ _ _ _ _ _ (T4.setTop (mkF m 28 #[.val (.ref a), .val (.int (1 : Int32)), .val (.ref b), .val (.int (1 : Int32)), .val (.int (2 : Int32)), .val (.int (1 : Int32)), .val (.int v1)] [(.int (1 : Int32)), (.ref b)]))
  refine own_st (fun _ k => XS.iload X4.here hx rfl (hb hby own_d_jdk_52_method_21_code_28) rfl k) ?_
  show own_Gl _ _ _ _ _ _ _ (T4.setTop (mkF m 30 #[.val (.ref a), .val (.int (1 : Int32)), .val (.ref b), .val (.int (1 : Int32)), .val (.int (2 : Int32)), .val (.int (1 : Int32)), .val (.int v1)] [(.int v1), (.int (1 : Int32)), (.ref b)]))
  refine own_st (fun _ k => XS.i2b X4.here hx rfl (hb hby own_d_jdk_52_method_21_code_30) rfl k) ?_
  show own_Gl _ _ _ _ _ _ _ (T4.setTop (mkF m 31 #[.val (.ref a), .val (.int (1 : Int32)), .val (.ref b), .val (.int (1 : Int32)), .val (.int (2 : Int32)), .val (.int (1 : Int32)), .val (.int v1)] [(.int (v1.toInt8.toInt32)), (.int (1 : Int32)), (.ref b)]))
  obtain ⟨cl10, Ar10, qq10, Ss10, Nn10, Hh10, Gg10⟩ := id Vw4
  have hin10 : ¬ ((1 : Int32) < 0 ∨ cl10.slots.size ≤ ((1 : Int32)).toNatClampNeg) := inb_of Ss10 ⟨by decide, by decide⟩
  obtain ⟨T10, h10, X10, e10, W10, st10⟩ := stB X4 hx hZ e4 Ar10 (j := (1 : Int32)) hin10 (g := (mkF m 31 #[.val (.ref a), .val (.int (1 : Int32)), .val (.ref b), .val (.int (1 : Int32)), .val (.int (2 : Int32)), .val (.int (1 : Int32)), .val (.int v1)] [(.int (v1.toInt8.toInt32)), (.int (1 : Int32)), (.ref b)])) rfl rfl (hb hby own_d_jdk_52_method_21_code_31)
  have N10 := Fr.snoc X10 N4 g_b
  refine own_st st10 ?_
  have Zs11 : n0 ≤ h10.size := Nat.le_trans Zs5 (Keep.of_wr W10).1
  have Vw10 : Arv Z h10 b kb .byte (2 : Int32) [(.int (nar .byte (v0.toInt8.toInt32))), (.int (nar .byte (v1.toInt8.toInt32)))] (.int (0 : Int32)) := Arv.set Ar10 qq10 Ss10 Nn10 Hh10 Gg10 (fits_nar_byte _) W10 1 (rfl) (Nat.le_of_ble_eq_true rfl)
  show own_Gl _ _ _ _ _ _ _ (T10.setTop (mkF m 32 #[.val (.ref a), .val (.int (1 : Int32)), .val (.ref b), .val (.int (1 : Int32)), .val (.int (2 : Int32)), .val (.int (1 : Int32)), .val (.int v1)] []))
  refine own_st (fun _ k => XS.iinc X10.here hx rfl (hb hby own_d_jdk_52_method_21_code_32) rfl (l' := #[.val (.ref a), .val (.int (2 : Int32)), .val (.ref b), .val (.int (1 : Int32)), .val (.int (2 : Int32)), .val (.int (1 : Int32)), .val (.int v1)]) rfl k) ?_
  show own_Gl _ _ _ _ _ _ _ (T10.setTop (mkF m 35 #[.val (.ref a), .val (.int (2 : Int32)), .val (.ref b), .val (.int (1 : Int32)), .val (.int (2 : Int32)), .val (.int (1 : Int32)), .val (.int v1)] []))
  refine own_st (fun _ k => XS.iinc X10.here hx rfl (hb hby own_d_jdk_52_method_21_code_35) rfl (l' := #[.val (.ref a), .val (.int (2 : Int32)), .val (.ref b), .val (.int (2 : Int32)), .val (.int (2 : Int32)), .val (.int (1 : Int32)), .val (.int v1)]) rfl k) ?_
  show own_Gl _ _ _ _ _ _ _ (T10.setTop (mkF m 38 #[.val (.ref a), .val (.int (2 : Int32)), .val (.ref b), .val (.int (2 : Int32)), .val (.int (2 : Int32)), .val (.int (1 : Int32)), .val (.int v1)] []))
  refine own_st (fun _ k => XS.iinc X10.here hx rfl (hb hby own_d_jdk_52_method_21_code_38) rfl (l' := #[.val (.ref a), .val (.int (2 : Int32)), .val (.ref b), .val (.int (2 : Int32)), .val (.int (2 : Int32)), .val (.int (2 : Int32)), .val (.int v1)]) rfl k) ?_
  show own_Gl _ _ _ _ _ _ _ (T10.setTop (mkF m 41 #[.val (.ref a), .val (.int (2 : Int32)), .val (.ref b), .val (.int (2 : Int32)), .val (.int (2 : Int32)), .val (.int (2 : Int32)), .val (.int v1)] []))
  refine own_st (fun _ k => XS.goto X10.here hx rfl (pc0 := 41) (pc' := 3) rfl (hb hby own_d_jdk_52_method_21_code_41) (by decide) (by decide) k) ?_
  show own_Gl _ _ _ _ _ _ _ (T10.setTop (mkF m 3 #[.val (.ref a), .val (.int (2 : Int32)), .val (.ref b), .val (.int (2 : Int32)), .val (.int (2 : Int32)), .val (.int (2 : Int32)), .val (.int v1)] []))
  refine own_st (fun _ k => XS.iload X10.here hx rfl (hb hby own_d_jdk_52_method_21_code_3) rfl k) ?_
  show own_Gl _ _ _ _ _ _ _ (T10.setTop (mkF m 5 #[.val (.ref a), .val (.int (2 : Int32)), .val (.ref b), .val (.int (2 : Int32)), .val (.int (2 : Int32)), .val (.int (2 : Int32)), .val (.int v1)] [(.int (2 : Int32))]))
  refine own_st (fun _ k => XS.iload X10.here hx rfl (hb hby own_d_jdk_52_method_21_code_5) rfl k) ?_
  show own_Gl _ _ _ _ _ _ _ (T10.setTop (mkF m 7 #[.val (.ref a), .val (.int (2 : Int32)), .val (.ref b), .val (.int (2 : Int32)), .val (.int (2 : Int32)), .val (.int (2 : Int32)), .val (.int v1)] [(.int (2 : Int32)), (.int (2 : Int32))]))
  have hd12 : ¬ ((2 : Int32) < (2 : Int32)) := (by decide)
  refine own_st (fun _ k => XS.icmpYes X10.here hx rfl (pc0 := 7) (pc' := 44) rfl (hb hby own_d_jdk_52_method_21_code_7) rfl (flt hd12).2.1 (by decide) (by decide) k) ?_
  show own_Gl _ _ _ _ _ _ _ (T10.setTop (mkF m 44 #[.val (.ref a), .val (.int (2 : Int32)), .val (.ref b), .val (.int (2 : Int32)), .val (.int (2 : Int32)), .val (.int (2 : Int32)), .val (.int v1)] []))
  refine own_st (fun _ k => XS.iload X10.here hx rfl (hb hby own_d_jdk_52_method_21_code_44) rfl k) ?_
  show own_Gl _ _ _ _ _ _ _ (T10.setTop (mkF m 46 #[.val (.ref a), .val (.int (2 : Int32)), .val (.ref b), .val (.int (2 : Int32)), .val (.int (2 : Int32)), .val (.int (2 : Int32)), .val (.int v1)] [(.int (2 : Int32))]))
  have K13 : Keep h0 h10 [b] := (((Keep.refl h0 [b]).wr W4 (Or.inl (List.mem_of_getElem? (i := 0) rfl))).wr W10 (Or.inl (List.mem_of_getElem? (i := 0) rfl)))
  exact own_retI X10 hx hlk hret (hb hby own_d_jdk_52_method_21_code_46) e10 ⟨rfl, N10, K13, Vw10⟩ (by decide) (by decide)
theorem own_d_jdk_52_method_16_code_57 : decode jdk_52_method_16_code 57 = .ok (.aload_n 3, 1) := by decide +kernel
theorem own_d_jdk_52_method_16_code_58 : decode jdk_52_method_16_code 58 = .ok (.areturn, 1) := by decide +kernel
theorem own_ef_own_c3_2_2 (m : MethodId) (x0 : Addr) (x1 : Int32) (x2 : Int32) : entryFrame m #[(.ref x0), (.int x1), (.int x2)] 6 = mkF m 0 #[.val (.ref x0), .val (.int x1), .val (.int x2), .unset, .unset, .unset] [] := by first | (simp [entryFrame, mkF, argsToLocals, Value.category]; done) | rfl
def own_Q_own_c3_2_2 (Z : State) (a : Addr) (k : ClassId) (v0 : Int32) (v1 : Int32) (h0 : Heap) (n0 : Nat) (v : Option Value) (h : Heap) (L : List Loc) : Prop := ∃ (r : Addr) (kr : ClassId), (v = some (.ref r)) ∧ (Fr n0 L) ∧ (Keep h0 h []) ∧ (n0 ≤ r) ∧ (h0.size ≤ r) ∧ (Arv Z h r kr .byte (2 : Int32) [(.int (nar .byte (v0.toInt8.toInt32))), (.int (nar .byte (v1.toInt8.toInt32)))] (.int (0 : Int32)))
set_option maxRecDepth 65536 in
set_option maxHeartbeats 40000000 in
theorem own_c3_2_2 (l : Launch) (Z : State) (a0 : Array Value) (hw : ∀ d ∈ tables_1, d.before a0 Z = true) (ws : List Jvm.Cond) (a : Addr) (k : ClassId) (v0 : Int32) (v1 : Int32) (h0 : Heap) (n0 : Nat) (Z0 : n0 ≤ h0.size) (V_a : Arv Z h0 a k .char (2 : Int32) [(.int v0), (.int v1)] (.int (0 : Int32))) (hle0 : ¬ ((255 : Int32) < v0)) (hle1 : ¬ ((255 : Int32) < v1)) :
    MetFree l (⟨"java/lang/StringUTF16", "compress", "([CII)[B"⟩ : MethodName) (head1 (Jvm.Cond.code (⟨"java/lang/StringUTF16", "compress", "([CII)[B"⟩ : MethodName) jdk_52_method_16_code 6 (some (.array .byte)) :: ws) ({ frames := 1, cells := 1, slots := 2, locals := 18 } : Room)) (fun xa xU => xa = #[(.ref a), (.int (0 : Int32)), (.int (2 : Int32))] ∧ Z.Warmed39 xU.vm ∧ xU.heap = h0) (fun _ _ _ _ _ => True) (fun _ xU xo xV => ∃ v L, xo = .returned v ∧ own_Q_own_c3_2_2 Z a k v0 v1 h0 n0 v xV.heap L ∧ FrameEnd xU xo xV L ({ frames := 1, cells := 1, slots := 2, locals := 18 } : Room).cells ({ frames := 1, cells := 1, slots := 2, locals := 18 } : Room).slots) := by
  refine MetFree.of_bodySF (plainFor_of_name own_pn730740715) hisR ?_
  intro p e s m args below meth c s₁ Bd hml0 hP hK
  obtain ⟨rfl, hZ, hh⟩ := hP
  have hx := Bd.exec
  have hby := Bd.bytes
  have hlk := Bd.notSynchronized
  have hret := Bd.returns
  have hml : c.maxLocals = 6 := hml0
  have hown : s.vm.findClass "java/lang/StringUTF16" = some m.cls := findClass_of_methodNamed Bd.named
  have hnm := (name_of_methodNamed Bd.named Bd.method).1
  have X0 : Stand p l e ({ frames := 1, cells := 1, slots := 2, locals := 18 } : Room) s m #[(.ref a), (.int (0 : Int32)), (.int (2 : Int32))] below meth c s₁ [] 0 0 := Stand.of_body Bd
  have e0 : s₁.heap = h0 := by rw [← hh, Bd.state]; rfl
  have N0 := Fr.nil n0
  show own_Gl p e below s (own_Q_own_c3_2_2 Z a k v0 v1 h0 n0) ({ frames := 1, cells := 1, slots := 2, locals := 18 } : Room).cells ({ frames := 1, cells := 1, slots := 2, locals := 18 } : Room).slots _
  refine own_cast (own_ef_own_c3_2_2 m a (0 : Int32) (2 : Int32)) ?_
  show own_Gl _ _ _ _ _ _ _ (s₁.setTop (mkF m 0 #[.val (.ref a), .val (.int (0 : Int32)), .val (.int (2 : Int32)), .unset, .unset, .unset] []))
  refine own_st (fun _ k => XS.iloadN X0.here hx rfl (hb hby own_d_jdk_52_method_16_code_0) rfl k) ?_
  show own_Gl _ _ _ _ _ _ _ (s₁.setTop (mkF m 1 #[.val (.ref a), .val (.int (0 : Int32)), .val (.int (2 : Int32)), .unset, .unset, .unset] [(.int (2 : Int32))]))
  obtain ⟨T1, h1, k1, X1, e1, E1, A1, st1⟩ := newP X0 hx hZ (hw _ (List.mem_of_getElem? (i := 20) rfl)) e0 (g := (mkF m 1 #[.val (.ref a), .val (.int (0 : Int32)), .val (.int (2 : Int32)), .unset, .unset, .unset] [(.int (2 : Int32))])) rfl (hb hby own_d_jdk_52_method_16_code_1) rfl (by decide) (cap := 2) (by decide) (by decide) (by decide) (by decide)
  obtain ⟨b1, gb1⟩ : ∃ z, z = h0.size := ⟨_, rfl⟩
  rw [← gb1] at A1 st1
  refine own_st st1 ?_
  have Zs2 : n0 ≤ h1.size := Nat.le_trans Z0 E1.1
  have g_b1 : n0 ≤ b1 := Nat.le_trans Z0 (Nat.le_of_eq gb1.symm)
  have gh_b1 : h0.size ≤ b1 := Nat.le_trans (Keep.refl h0 []).1 (Nat.le_of_eq gb1.symm)
  have ne_a_b1 : a ≠ b1 := Nat.ne_of_lt (Nat.lt_of_lt_of_le V_a.lt (Nat.le_of_eq gb1.symm))
  have V_b1 : Arv Z h1 b1 k1 .byte (2 : Int32) [(.int (0 : Int32)), (.int (0 : Int32))] (.int (0 : Int32)) := (Arv.new A1 (by decide)).pad (pad_rep [] (.int (0 : Int32)) 2)
  show own_Gl _ _ _ _ _ _ _ (T1.setTop (mkF m 3 #[.val (.ref a), .val (.int (0 : Int32)), .val (.int (2 : Int32)), .unset, .unset, .unset] [(.ref b1)]))
  refine own_st (fun _ k => XS.astoreN X1.here hx rfl (hb hby own_d_jdk_52_method_16_code_3) rfl rfl (l' := #[.val (.ref a), .val (.int (0 : Int32)), .val (.int (2 : Int32)), .val (.ref b1), .unset, .unset]) rfl k) ?_
  show own_Gl _ _ _ _ _ _ _ (T1.setTop (mkF m 4 #[.val (.ref a), .val (.int (0 : Int32)), .val (.int (2 : Int32)), .val (.ref b1), .unset, .unset] []))
  refine own_st (fun _ k => XS.aloadN X1.here hx rfl (hb hby own_d_jdk_52_method_16_code_4) rfl rfl k) ?_
  show own_Gl _ _ _ _ _ _ _ (T1.setTop (mkF m 5 #[.val (.ref a), .val (.int (0 : Int32)), .val (.int (2 : Int32)), .val (.ref b1), .unset, .unset] [(.ref a)]))
  refine own_st (fun _ k => XS.iloadN X1.here hx rfl (hb hby own_d_jdk_52_method_16_code_5) rfl k) ?_
  show own_Gl _ _ _ _ _ _ _ (T1.setTop (mkF m 6 #[.val (.ref a), .val (.int (0 : Int32)), .val (.int (2 : Int32)), .val (.ref b1), .unset, .unset] [(.int (0 : Int32)), (.ref a)]))
  refine own_st (fun _ k => XS.aloadN X1.here hx rfl (hb hby own_d_jdk_52_method_16_code_6) rfl rfl k) ?_
  show own_Gl _ _ _ _ _ _ _ (T1.setTop (mkF m 7 #[.val (.ref a), .val (.int (0 : Int32)), .val (.int (2 : Int32)), .val (.ref b1), .unset, .unset] [(.ref b1), (.int (0 : Int32)), (.ref a)]))
  refine own_st (fun _ k => XS.iconst X1.here hx rfl (hb hby own_d_jdk_52_method_16_code_7) k) ?_
  show own_Gl _ _ _ _ _ _ _ (T1.setTop (mkF m 8 #[.val (.ref a), .val (.int (0 : Int32)), .val (.int (2 : Int32)), .val (.ref b1), .unset, .unset] [(.int (0 : Int32)), (.ref b1), (.int (0 : Int32)), (.ref a)]))
  refine own_st (fun _ k => XS.iloadN X1.here hx rfl (hb hby own_d_jdk_52_method_16_code_8) rfl k) ?_
  show own_Gl _ _ _ _ _ _ _ (T1.setTop (mkF m 9 #[.val (.ref a), .val (.int (0 : Int32)), .val (.int (2 : Int32)), .val (.ref b1), .unset, .unset] [(.int (2 : Int32)), (.int (0 : Int32)), (.ref b1), (.int (0 : Int32)), (.ref a)]))
  have f5 := (V_a.ext E1)
  obtain ⟨_, _, ⟨T4, L4, k4, n4⟩, -, X4, ⟨Lc4, hQ4, l4, y4, z4⟩, st4⟩ := Jvm.LawKit.callS X1 hx (y := (⟨"java/lang/StringUTF16", "compress", "([CI[BII)I"⟩ : MethodName)) hown (mvT hZ (hw _ (List.mem_of_getElem? (i := 21) rfl))) (mvT hZ (hw _ (List.mem_of_getElem? (i := 22) rfl))) (mvT hZ (hw _ (List.mem_of_getElem? (i := 18) rfl))) (mvT hZ (hw _ (List.mem_of_getElem? (i := 23) rfl))) (by decide) (backOf (W := 0) (own_c5_2_2 l Z a0 hw [] a b1 k k1 v0 v1 h1 n0 Zs2 f5 V_b1 g_b1 ne_a_b1 hle0 hle1) hZ (hw _ (List.mem_of_getElem? (i := 23) rfl)) (hw _ (List.mem_of_getElem? (i := 18) rfl)) (by decide) (by decide)) (g := (mkF m 9 #[.val (.ref a), .val (.int (0 : Int32)), .val (.int (2 : Int32)), .val (.ref b1), .unset, .unset] [(.int (2 : Int32)), (.int (0 : Int32)), (.ref b1), (.int (0 : Int32)), (.ref a)])) rfl (by rw [hml]; rfl) (argsL := [(.ref a), (.int (0 : Int32)), (.ref b1), (.int (0 : Int32)), (.int (2 : Int32))]) (rest := []) (lenOf own_pd196289288 rfl) rfl (by show 2 * 0 + _ ≤ _; exact Nat.le_of_eq rfl) (hb hby own_d_jdk_52_method_16_code_9) (fun _ _ => ⟨rfl, e1, (by decide : 1 + 0 ≤ ({ frames := 1, cells := 1, slots := 2, locals := 18 } : Room).cells), (by decide : 2 + 0 ≤ ({ frames := 1, cells := 1, slots := 2, locals := 18 } : Room).slots)⟩)
  dsimp only [Pt.U, Pt.locs, Pt.cells, Pt.slots] at X4 l4 y4 z4 st4 hQ4
  subst l4 y4 z4
  obtain ⟨hh4, eh04⟩ : ∃ z, T4.heap = z := ⟨_, rfl⟩
  rw [eh04] at hQ4
  obtain ⟨rfl, Nq4, Kq4, P4_0⟩ := hQ4
  have N4 := Fr.app N0 Nq4
  refine own_st st4 ?_
  have Zs6 : n0 ≤ hh4.size := Nat.le_trans Zs2 Kq4.1
  show own_Gl _ _ _ _ _ _ _ (T4.setTop (mkF m 12 #[.val (.ref a), .val (.int (0 : Int32)), .val (.int (2 : Int32)), .val (.ref b1), .unset, .unset] [(.int (2 : Int32))]))
  refine own_st (fun _ k => XS.istore X4.here hx rfl (hb hby own_d_jdk_52_method_16_code_12) rfl (l' := #[.val (.ref a), .val (.int (0 : Int32)), .val (.int (2 : Int32)), .val (.ref b1), .val (.int (2 : Int32)), .unset]) rfl k) ?_
  show own_Gl _ _ _ _ _ _ _ (T4.setTop (mkF m 14 #[.val (.ref a), .val (.int (0 : Int32)), .val (.int (2 : Int32)), .val (.ref b1), .val (.int (2 : Int32)), .unset] []))
  refine own_st (fun _ k => XS.iload X4.here hx rfl (hb hby own_d_jdk_52_method_16_code_14) rfl k) ?_
  show own_Gl _ _ _ _ _ _ _ (T4.setTop (mkF m 16 #[.val (.ref a), .val (.int (0 : Int32)), .val (.int (2 : Int32)), .val (.ref b1), .val (.int (2 : Int32)), .unset] [(.int (2 : Int32))]))
  refine own_st (fun _ k => XS.iloadN X4.here hx rfl (hb hby own_d_jdk_52_method_16_code_16) rfl k) ?_
  show own_Gl _ _ _ _ _ _ _ (T4.setTop (mkF m 17 #[.val (.ref a), .val (.int (0 : Int32)), .val (.int (2 : Int32)), .val (.ref b1), .val (.int (2 : Int32)), .unset] [(.int (2 : Int32)), (.int (2 : Int32))]))
  have hd7 : (2 : Int32) = (2 : Int32) := (by decide)
  refine own_st (fun _ k => XS.icmpYes X4.here hx rfl (pc0 := 17) (pc' := 57) rfl (hb hby own_d_jdk_52_method_16_code_17) rfl (teq hd7).1 (by decide) (by decide) k) ?_
  show own_Gl _ _ _ _ _ _ _ (T4.setTop (mkF m 57 #[.val (.ref a), .val (.int (0 : Int32)), .val (.int (2 : Int32)), .val (.ref b1), .val (.int (2 : Int32)), .unset] []))
  refine own_st (fun _ k => XS.aloadN X4.here hx rfl (hb hby own_d_jdk_52_method_16_code_57) rfl rfl k) ?_
  show own_Gl _ _ _ _ _ _ _ (T4.setTop (mkF m 58 #[.val (.ref a), .val (.int (0 : Int32)), .val (.int (2 : Int32)), .val (.ref b1), .val (.int (2 : Int32)), .unset] [(.ref b1)]))
  have K8 : Keep h0 hh4 [] := (((Keep.refl h0 []).ext E1).trans Kq4 (allS (Or.inr gh_b1) all0))
  exact own_retA X4 hx hlk hret rfl rfl rfl (hb hby own_d_jdk_52_method_16_code_58) eh04 ⟨b1, k1, rfl, N4, K8, g_b1, gh_b1, P4_0⟩ (by decide) (by decide)
theorem own_ef_own_cf_2_2 (m : MethodId) (x0 : Addr) (x1 : Int32) : entryFrame m #[(.ref x0), (.int x1)] 2 = mkF m 0 #[.val (.ref x0), .val (.int x1)] [] := by first | (simp [entryFrame, mkF, argsToLocals, Value.category]; done) | rfl
def own_Q_own_cf_2_2 (Z : State) (a : Addr) (k : ClassId) (w : List Value) (h0 : Heap) (n0 : Nat) (v : Option Value) (h : Heap) (L : List Loc) : Prop := (v = some (.int (0 : Int32))) ∧ (Fr n0 L) ∧ (h = h0)
set_option maxRecDepth 65536 in
set_option maxHeartbeats 40000000 in
theorem own_cf_2_2 (l : Launch) (Z : State) (a0 : Array Value) (hw : ∀ d ∈ tables_1, d.before a0 Z = true) (ws : List Jvm.Cond) (a : Addr) (k : ClassId) (w : List Value) (h0 : Heap) (n0 : Nat) (Z0 : n0 ≤ h0.size) (V_a : Arv Z h0 a k .byte (2 : Int32) w (.int (0 : Int32))) :
    MetFree l (⟨"java/lang/StringUTF16", "coderFromArrayLen", "([BI)B"⟩ : MethodName) (head1 (Jvm.Cond.code (⟨"java/lang/StringUTF16", "coderFromArrayLen", "([BI)B"⟩ : MethodName) jdk_52_method_15_code 2 (some .byte) :: ws) ({ frames := 0, cells := 0, slots := 0, locals := 0 } : Room)) (fun xa xU => xa = #[(.ref a), (.int (2 : Int32))] ∧ Z.Warmed39 xU.vm ∧ xU.heap = h0) (fun _ _ _ _ _ => True) (fun _ xU xo xV => ∃ v L, xo = .returned v ∧ own_Q_own_cf_2_2 Z a k w h0 n0 v xV.heap L ∧ FrameEnd xU xo xV L ({ frames := 0, cells := 0, slots := 0, locals := 0 } : Room).cells ({ frames := 0, cells := 0, slots := 0, locals := 0 } : Room).slots) := by
  refine MetFree.of_bodySF (plainFor_of_name own_pn730740715) hisR ?_
  intro p e s m args below meth c s₁ Bd hml0 hP hK
  obtain ⟨rfl, hZ, hh⟩ := hP
  have hx := Bd.exec
  have hby := Bd.bytes
  have hlk := Bd.notSynchronized
  have hret := Bd.returns
  have hml : c.maxLocals = 2 := hml0
  have hown : s.vm.findClass "java/lang/StringUTF16" = some m.cls := findClass_of_methodNamed Bd.named
  have hnm := (name_of_methodNamed Bd.named Bd.method).1
  have X0 : Stand p l e ({ frames := 0, cells := 0, slots := 0, locals := 0 } : Room) s m #[(.ref a), (.int (2 : Int32))] below meth c s₁ [] 0 0 := Stand.of_body Bd
  have e0 : s₁.heap = h0 := by rw [← hh, Bd.state]; rfl
  have N0 := Fr.nil n0
  show own_Gl p e below s (own_Q_own_cf_2_2 Z a k w h0 n0) ({ frames := 0, cells := 0, slots := 0, locals := 0 } : Room).cells ({ frames := 0, cells := 0, slots := 0, locals := 0 } : Room).slots _
  refine own_cast (own_ef_own_cf_2_2 m a (2 : Int32)) ?_
  show own_Gl _ _ _ _ _ _ _ (s₁.setTop (mkF m 0 #[.val (.ref a), .val (.int (2 : Int32))] []))
  refine own_st (fun _ k => XS.iloadN X0.here hx rfl (hb hby own_d_jdk_52_method_15_code_0) rfl k) ?_
  show own_Gl _ _ _ _ _ _ _ (s₁.setTop (mkF m 1 #[.val (.ref a), .val (.int (2 : Int32))] [(.int (2 : Int32))]))
  refine own_st (fun _ k => XS.aloadN X0.here hx rfl (hb hby own_d_jdk_52_method_15_code_1) rfl rfl k) ?_
  show own_Gl _ _ _ _ _ _ _ (s₁.setTop (mkF m 2 #[.val (.ref a), .val (.int (2 : Int32))] [(.ref a), (.int (2 : Int32))]))
  obtain ⟨cl1, Ar1, qq1, Ss1, Nn1, Hh1, Gg1⟩ := id V_a
  refine own_st (X0.arraylength hx (by rw [e0]; exact Ar1.1) (State.isArrayOf_alike hZ.alike Ar1.2.1) (g := (mkF m 2 #[.val (.ref a), .val (.int (2 : Int32))] [(.ref a), (.int (2 : Int32))])) rfl rfl (hb hby own_d_jdk_52_method_15_code_2)) ?_
  rw [len_of Ss1 Nn1]
  show own_Gl _ _ _ _ _ _ _ (s₁.setTop (mkF m 3 #[.val (.ref a), .val (.int (2 : Int32))] [(.int (2 : Int32)), (.int (2 : Int32))]))
  refine own_st (fun _ k => XS.isub X0.here hx rfl (hb hby own_d_jdk_52_method_15_code_3) rfl k) ?_
  show own_Gl _ _ _ _ _ _ _ (s₁.setTop (mkF m 4 #[.val (.ref a), .val (.int (2 : Int32))] [(.int (0 : Int32))]))
  refine own_st (fun _ k => XS.bipush X0.here hx rfl (hb hby own_d_jdk_52_method_15_code_4) k) ?_
  show own_Gl _ _ _ _ _ _ _ (s₁.setTop (mkF m 6 #[.val (.ref a), .val (.int (2 : Int32))] [(.int (31 : Int32)), (.int (0 : Int32))]))
  refine own_st (fun _ k => XS.iushr X0.here hx rfl (hb hby own_d_jdk_52_method_15_code_6) rfl k) ?_
  show own_Gl _ _ _ _ _ _ _ (s₁.setTop (mkF m 7 #[.val (.ref a), .val (.int (2 : Int32))] [(.int (((0 : Int32).toUInt32 >>> ((31 : Int32) &&& 31).toUInt32).toInt32))]))
  refine own_st (fun _ k => XS.i2b X0.here hx rfl (hb hby own_d_jdk_52_method_15_code_7) rfl k) ?_
  show own_Gl _ _ _ _ _ _ _ (s₁.setTop (mkF m 8 #[.val (.ref a), .val (.int (2 : Int32))] [(.int ((((0 : Int32).toUInt32 >>> ((31 : Int32) &&& 31).toUInt32).toInt32).toInt8.toInt32))]))
  exact own_retN X0 hx hlk (t := .byte) hret (by simp) (hb hby own_d_jdk_52_method_15_code_8) e0 ⟨rfl, N0, rfl⟩ (by decide) (by decide)
theorem own_ef_own_i4_2_2 (m : MethodId) (x0 : Addr) (x1 : Addr) (x2 : Int32) (x3 : Int32) : entryFrame m #[(.ref x0), (.ref x1), (.int x2), (.int x3), .null] 6 = mkF m 0 #[.val (.ref x0), .val (.ref x1), .val (.int x2), .val (.int x3), .val .null, .unset] [] := by first | (simp [entryFrame, mkF, argsToLocals, Value.category]; done) | rfl
def own_Q_own_i4_2_2 (Z : State) (a : Addr) (b : Addr) (k : ClassId) (v0 : Int32) (v1 : Int32) (cs : Int32) (h0 : Heap) (n0 : Nat) (v : Option Value) (h : Heap) (L : List Loc) : Prop := ∃ (r : Addr) (kr : ClassId), (v = none) ∧ (Fr n0 L) ∧ (Keep h0 h [a]) ∧ (n0 ≤ r) ∧ (h0.size ≤ r) ∧ (Arv Z h r kr .byte (2 : Int32) [(.int (nar .byte (v0.toInt8.toInt32))), (.int (nar .byte (v1.toInt8.toInt32)))] (.int (0 : Int32))) ∧ (Fld Z h a "java/lang/String" "value" "[B" (.ref r)) ∧ (Fld Z h a "java/lang/String" "coder" "B" (.int (0 : Int32)))
set_option maxRecDepth 65536 in
set_option maxHeartbeats 40000000 in
theorem own_i4_2_2 (l : Launch) (Z : State) (a0 : Array Value) (hw : ∀ d ∈ tables_1, d.before a0 Z = true) (ws : List Jvm.Cond) (a : Addr) (b : Addr) (k : ClassId) (v0 : Int32) (v1 : Int32) (cs : Int32) (h0 : Heap) (n0 : Nat) (Z0 : n0 ≤ h0.size) (E_a : Exa Z h0 a "java/lang/String") (F_a_value : Fld Z h0 a "java/lang/String" "value" "[B" .null) (F_a_coder : Fld Z h0 a "java/lang/String" "coder" "B" (.int (0 : Int32))) (g_a : n0 ≤ a) (ne_a_b : a ≠ b) (V_b : Arv Z h0 b k .char (2 : Int32) [(.int v0), (.int v1)] (.int (0 : Int32))) (hle0 : ¬ ((255 : Int32) < v0)) (hle1 : ¬ ((255 : Int32) < v1)) (S_COMPACT_STRINGS : Sta Z Z.heap "java/lang/String" "COMPACT_STRINGS" "Z" (.int cs)) (hcs : ¬ (cs = (0 : Int32))) (Old0 : Old Z n0 h0) :
    MetFree l (⟨"java/lang/String", "<init>", "([CIILjava/lang/Void;)V"⟩ : MethodName) (head1 (Jvm.Cond.code (⟨"java/lang/String", "<init>", "([CIILjava/lang/Void;)V"⟩ : MethodName) jdk_42_method_149_code 6 none :: ws) ({ frames := 2, cells := 1, slots := 2, locals := 35 } : Room)) (fun xa xU => xa = #[(.ref a), (.ref b), (.int (0 : Int32)), (.int (2 : Int32)), .null] ∧ Z.Warmed39 xU.vm ∧ xU.heap = h0) (fun _ _ _ _ _ => True) (fun _ xU xo xV => ∃ v L, xo = .returned v ∧ own_Q_own_i4_2_2 Z a b k v0 v1 cs h0 n0 v xV.heap L ∧ FrameEnd xU xo xV L ({ frames := 2, cells := 1, slots := 2, locals := 35 } : Room).cells ({ frames := 2, cells := 1, slots := 2, locals := 35 } : Room).slots) := by
  refine MetFree.of_bodySF (plainFor_of_name own_pn853443214) hisR ?_
  intro p e s m args below meth c s₁ Bd hml0 hP hK
  obtain ⟨rfl, hZ, hh⟩ := hP
  have hx := Bd.exec
  have hby := Bd.bytes
  have hlk := Bd.notSynchronized
  have hret := Bd.returns
  have hml : c.maxLocals = 6 := hml0
  have hown : s.vm.findClass "java/lang/String" = some m.cls := findClass_of_methodNamed Bd.named
  have hnm := (name_of_methodNamed Bd.named Bd.method).1
  have X0 : Stand p l e ({ frames := 2, cells := 1, slots := 2, locals := 35 } : Room) s m #[(.ref a), (.ref b), (.int (0 : Int32)), (.int (2 : Int32)), .null] below meth c s₁ [] 0 0 := Stand.of_body Bd
  have e0 : s₁.heap = h0 := by rw [← hh, Bd.state]; rfl
  have N0 := Fr.nil n0
  show own_Gl p e below s (own_Q_own_i4_2_2 Z a b k v0 v1 cs h0 n0) ({ frames := 2, cells := 1, slots := 2, locals := 35 } : Room).cells ({ frames := 2, cells := 1, slots := 2, locals := 35 } : Room).slots _
  refine own_cast (own_ef_own_i4_2_2 m a b (0 : Int32) (2 : Int32)) ?_
  show own_Gl _ _ _ _ _ _ _ (s₁.setTop (mkF m 0 #[.val (.ref a), .val (.ref b), .val (.int (0 : Int32)), .val (.int (2 : Int32)), .val .null, .unset] []))
  refine own_st (fun _ k => XS.aloadN X0.here hx rfl (hb hby own_d_jdk_42_method_149_code_0) rfl rfl k) ?_
  show own_Gl _ _ _ _ _ _ _ (s₁.setTop (mkF m 1 #[.val (.ref a), .val (.ref b), .val (.int (0 : Int32)), .val (.int (2 : Int32)), .val .null, .unset] [(.ref a)]))
  obtain ⟨T1, X1, e1, st1⟩ := initO X0 hx hZ hown (hw _ (List.mem_of_getElem? (i := 12) rfl)) (hw _ (List.mem_of_getElem? (i := 13) rfl)) (hw _ (List.mem_of_getElem? (i := 14) rfl)) e0 (g := (mkF m 1 #[.val (.ref a), .val (.ref b), .val (.int (0 : Int32)), .val (.int (2 : Int32)), .val .null, .unset] [(.ref a)])) rfl (by rw [hml]; rfl) rfl (hb hby own_d_jdk_42_method_149_code_1) (by decide) (W := 0) (by show 2 * 0 + _ ≤ _; exact Nat.le_of_eq rfl) (by decide)
  refine own_st st1 ?_
  show own_Gl _ _ _ _ _ _ _ (T1.setTop (mkF m 4 #[.val (.ref a), .val (.ref b), .val (.int (0 : Int32)), .val (.int (2 : Int32)), .val .null, .unset] []))
  refine own_st (fun _ k => XS.iloadN X1.here hx rfl (hb hby own_d_jdk_42_method_149_code_4) rfl k) ?_
  show own_Gl _ _ _ _ _ _ _ (T1.setTop (mkF m 5 #[.val (.ref a), .val (.ref b), .val (.int (0 : Int32)), .val (.int (2 : Int32)), .val .null, .unset] [(.int (2 : Int32))]))
  have hd2 : ¬ ((2 : Int32) = (0 : Int32)) := (by decide)
  refine own_st (fun _ k => XS.ifYes X1.here hx rfl (pc0 := 5) (pc' := 27) rfl (hb hby own_d_jdk_42_method_149_code_5) rfl ((if0 _ _).trans (feq hd2).2) (by decide) (by decide) k) ?_
  show own_Gl _ _ _ _ _ _ _ (T1.setTop (mkF m 27 #[.val (.ref a), .val (.ref b), .val (.int (0 : Int32)), .val (.int (2 : Int32)), .val .null, .unset] []))
  obtain ⟨T3, X3, e3, st3⟩ := getS2 X1 hx hZ hown (host := "") (Or.inl (hw _ (List.mem_of_getElem? (i := 15) rfl))) Via.refl e1 (S_COMPACT_STRINGS.ext Old0.2) (g := (mkF m 27 #[.val (.ref a), .val (.ref b), .val (.int (0 : Int32)), .val (.int (2 : Int32)), .val .null, .unset] [])) rfl (hb hby own_d_jdk_42_method_149_code_27)
  refine own_st st3 ?_
  show own_Gl _ _ _ _ _ _ _ (T3.setTop (mkF m 30 #[.val (.ref a), .val (.ref b), .val (.int (0 : Int32)), .val (.int (2 : Int32)), .val .null, .unset] [(.int cs)]))
  have hd4 : ¬ (cs = (0 : Int32)) := hcs
  refine own_st (fun _ k => XS.ifNo X3.here hx rfl (hb hby own_d_jdk_42_method_149_code_30) rfl ((if0 _ _).trans (feq hd4).1) k) ?_
  show own_Gl _ _ _ _ _ _ _ (T3.setTop (mkF m 33 #[.val (.ref a), .val (.ref b), .val (.int (0 : Int32)), .val (.int (2 : Int32)), .val .null, .unset] []))
  refine own_st (fun _ k => XS.aloadN X3.here hx rfl (hb hby own_d_jdk_42_method_149_code_33) rfl rfl k) ?_
  show own_Gl _ _ _ _ _ _ _ (T3.setTop (mkF m 34 #[.val (.ref a), .val (.ref b), .val (.int (0 : Int32)), .val (.int (2 : Int32)), .val .null, .unset] [(.ref b)]))
  refine own_st (fun _ k => XS.iloadN X3.here hx rfl (hb hby own_d_jdk_42_method_149_code_34) rfl k) ?_
  show own_Gl _ _ _ _ _ _ _ (T3.setTop (mkF m 35 #[.val (.ref a), .val (.ref b), .val (.int (0 : Int32)), .val (.int (2 : Int32)), .val .null, .unset] [(.int (0 : Int32)), (.ref b)]))
  refine own_st (fun _ k => XS.iloadN X3.here hx rfl (hb hby own_d_jdk_42_method_149_code_35) rfl k) ?_
  show own_Gl _ _ _ _ _ _ _ (T3.setTop (mkF m 36 #[.val (.ref a), .val (.ref b), .val (.int (0 : Int32)), .val (.int (2 : Int32)), .val .null, .unset] [(.int (2 : Int32)), (.int (0 : Int32)), (.ref b)]))
  obtain ⟨_, _, ⟨T5, L5, k5, n5⟩, -, X5, ⟨Lc5, hQ5, l5, y5, z5⟩, st5⟩ := Jvm.LawKit.callS X3 hx (y := (⟨"java/lang/StringUTF16", "compress", "([CII)[B"⟩ : MethodName)) hown (mvT hZ (hw _ (List.mem_of_getElem? (i := 16) rfl))) (mvT hZ (hw _ (List.mem_of_getElem? (i := 17) rfl))) (mvT hZ (hw _ (List.mem_of_getElem? (i := 18) rfl))) (mvT hZ (hw _ (List.mem_of_getElem? (i := 19) rfl))) (by decide) (backOf (W := 0) (own_c3_2_2 l Z a0 hw [] b k v0 v1 h0 n0 Z0 V_b hle0 hle1) hZ (hw _ (List.mem_of_getElem? (i := 19) rfl)) (hw _ (List.mem_of_getElem? (i := 18) rfl)) (by decide) (by decide)) (g := (mkF m 36 #[.val (.ref a), .val (.ref b), .val (.int (0 : Int32)), .val (.int (2 : Int32)), .val .null, .unset] [(.int (2 : Int32)), (.int (0 : Int32)), (.ref b)])) rfl (by rw [hml]; rfl) (argsL := [(.ref b), (.int (0 : Int32)), (.int (2 : Int32))]) (rest := []) (lenOf own_pd461289092 rfl) rfl (by show 2 * 0 + _ ≤ _; exact Nat.le_of_eq rfl) (hb hby own_d_jdk_42_method_149_code_36) (fun _ _ => ⟨rfl, e3, (by decide : 0 + 1 ≤ ({ frames := 2, cells := 1, slots := 2, locals := 35 } : Room).cells), (by decide : 0 + 2 ≤ ({ frames := 2, cells := 1, slots := 2, locals := 35 } : Room).slots)⟩)
  dsimp only [Pt.U, Pt.locs, Pt.cells, Pt.slots] at X5 l5 y5 z5 st5 hQ5
  subst l5 y5 z5
  obtain ⟨hh5, eh05⟩ : ∃ z, T5.heap = z := ⟨_, rfl⟩
  rw [eh05] at hQ5
  obtain ⟨r_5, kr_5, rfl, Nq5, Kq5, P5_0, P5_1, P5_2⟩ := hQ5
  have N5 := Fr.app N0 Nq5
  refine own_st st5 ?_
  have Zs6 : n0 ≤ hh5.size := Nat.le_trans Z0 Kq5.1
  have gh_r_5 : h0.size ≤ r_5 := Nat.le_trans (Keep.refl h0 [a]).1 P5_1
  have ne_a_r_5 : a ≠ r_5 := Nat.ne_of_lt (Nat.lt_of_lt_of_le E_a.lt P5_1)
  have ne_b_r_5 : b ≠ r_5 := Nat.ne_of_lt (Nat.lt_of_lt_of_le V_b.lt P5_1)
  show own_Gl _ _ _ _ _ _ _ (T5.setTop (mkF m 39 #[.val (.ref a), .val (.ref b), .val (.int (0 : Int32)), .val (.int (2 : Int32)), .val .null, .unset] [(.ref r_5)]))
  refine own_st (fun _ k => XS.astore X5.here hx rfl (hb hby own_d_jdk_42_method_149_code_39) rfl rfl (l' := #[.val (.ref a), .val (.ref b), .val (.int (0 : Int32)), .val (.int (2 : Int32)), .val .null, .val (.ref r_5)]) rfl k) ?_
  show own_Gl _ _ _ _ _ _ _ (T5.setTop (mkF m 41 #[.val (.ref a), .val (.ref b), .val (.int (0 : Int32)), .val (.int (2 : Int32)), .val .null, .val (.ref r_5)] []))
  refine own_st (fun _ k => XS.aloadN X5.here hx rfl (hb hby own_d_jdk_42_method_149_code_41) rfl rfl k) ?_
  show own_Gl _ _ _ _ _ _ _ (T5.setTop (mkF m 42 #[.val (.ref a), .val (.ref b), .val (.int (0 : Int32)), .val (.int (2 : Int32)), .val .null, .val (.ref r_5)] [(.ref a)]))
  refine own_st (fun _ k => XS.aload X5.here hx rfl (hb hby own_d_jdk_42_method_149_code_42) rfl rfl k) ?_
  show own_Gl _ _ _ _ _ _ _ (T5.setTop (mkF m 44 #[.val (.ref a), .val (.ref b), .val (.int (0 : Int32)), .val (.int (2 : Int32)), .val .null, .val (.ref r_5)] [(.ref r_5), (.ref a)]))
  refine own_st (fun _ k => XS.iloadN X5.here hx rfl (hb hby own_d_jdk_42_method_149_code_44) rfl k) ?_
  show own_Gl _ _ _ _ _ _ _ (T5.setTop (mkF m 45 #[.val (.ref a), .val (.ref b), .val (.int (0 : Int32)), .val (.int (2 : Int32)), .val .null, .val (.ref r_5)] [(.int (2 : Int32)), (.ref r_5), (.ref a)]))
  have f8 := (E_a.keep Kq5)
  have f9 := (V_b.keep Kq5 nin0)
  obtain ⟨_, _, ⟨T7, L7, k7, n7⟩, -, X7, ⟨Lc7, hQ7, l7, y7, z7⟩, st7⟩ := Jvm.LawKit.callS X5 hx (y := (⟨"java/lang/StringUTF16", "coderFromArrayLen", "([BI)B"⟩ : MethodName)) hown (mvT hZ (hw _ (List.mem_of_getElem? (i := 24) rfl))) (mvT hZ (hw _ (List.mem_of_getElem? (i := 25) rfl))) (mvT hZ (hw _ (List.mem_of_getElem? (i := 18) rfl))) (mvT hZ (hw _ (List.mem_of_getElem? (i := 26) rfl))) (by decide) (backOf (W := 1) (own_cf_2_2 l Z a0 hw [] r_5 kr_5 [(.int (nar .byte (v0.toInt8.toInt32))), (.int (nar .byte (v1.toInt8.toInt32)))] hh5 n0 Zs6 P5_2) hZ (hw _ (List.mem_of_getElem? (i := 26) rfl)) (hw _ (List.mem_of_getElem? (i := 18) rfl)) (by decide) (by decide)) (g := (mkF m 45 #[.val (.ref a), .val (.ref b), .val (.int (0 : Int32)), .val (.int (2 : Int32)), .val .null, .val (.ref r_5)] [(.int (2 : Int32)), (.ref r_5), (.ref a)])) rfl (by rw [hml]; rfl) (argsL := [(.ref r_5), (.int (2 : Int32))]) (rest := [(.ref a)]) (lenOf own_pd128711047 rfl) rfl (by show 2 * 0 + _ ≤ _; exact Nat.le_of_eq rfl) (hb hby own_d_jdk_42_method_149_code_45) (fun _ _ => ⟨rfl, eh05, (by decide : 1 + 0 ≤ ({ frames := 2, cells := 1, slots := 2, locals := 35 } : Room).cells), (by decide : 2 + 0 ≤ ({ frames := 2, cells := 1, slots := 2, locals := 35 } : Room).slots)⟩)
  dsimp only [Pt.U, Pt.locs, Pt.cells, Pt.slots] at X7 l7 y7 z7 st7 hQ7
  subst l7 y7 z7
  obtain ⟨hh7, eh07⟩ : ∃ z, T7.heap = z := ⟨_, rfl⟩
  rw [eh07] at hQ7
  obtain ⟨rfl, Nq7, eh7⟩ := hQ7
  have N7 := Fr.app N5 Nq7
  refine own_st st7 ?_
  have e7 : T7.heap = hh5 := eh07.trans eh7
  show own_Gl _ _ _ _ _ _ _ (T7.setTop (mkF m 48 #[.val (.ref a), .val (.ref b), .val (.int (0 : Int32)), .val (.int (2 : Int32)), .val .null, .val (.ref r_5)] [(.int (0 : Int32)), (.ref a)]))
  have f10 := (F_a_coder.keep Kq5 nin0)
  obtain ⟨T11, h11, X11, e11, W11, st11⟩ := putFN X7 hx hZ hown (hw _ (List.mem_of_getElem? (i := 27) rfl)) Via.refl e7 f10 f8 (Or.inr ⟨(hw _ (List.mem_of_getElem? (i := 28) rfl)), rfl, hnm⟩) (hw _ (List.mem_of_getElem? (i := 3) rfl)) (ty := .byte) (v' := (.int (nar .byte (0 : Int32)))) (by decide) rfl (fits_nar_byte _) (g := (mkF m 48 #[.val (.ref a), .val (.ref b), .val (.int (0 : Int32)), .val (.int (2 : Int32)), .val .null, .val (.ref r_5)] [(.int (0 : Int32)), (.ref a)])) rfl rfl (hb hby own_d_jdk_42_method_149_code_48)
  have N11 := Fr.snoc X11 N7 g_a
  refine own_st st11 ?_
  have Zs12 : n0 ≤ h11.size := Nat.le_trans Zs6 (Keep.of_wr W11).1
  have Fw11 := f10.same W11
  show own_Gl _ _ _ _ _ _ _ (T11.setTop (mkF m 51 #[.val (.ref a), .val (.ref b), .val (.int (0 : Int32)), .val (.int (2 : Int32)), .val .null, .val (.ref r_5)] []))
  refine own_st (fun _ k => XS.aloadN X11.here hx rfl (hb hby own_d_jdk_42_method_149_code_51) rfl rfl k) ?_
  show own_Gl _ _ _ _ _ _ _ (T11.setTop (mkF m 52 #[.val (.ref a), .val (.ref b), .val (.int (0 : Int32)), .val (.int (2 : Int32)), .val .null, .val (.ref r_5)] [(.ref a)]))
  refine own_st (fun _ k => XS.aload X11.here hx rfl (hb hby own_d_jdk_42_method_149_code_52) rfl rfl k) ?_
  show own_Gl _ _ _ _ _ _ _ (T11.setTop (mkF m 54 #[.val (.ref a), .val (.ref b), .val (.int (0 : Int32)), .val (.int (2 : Int32)), .val .null, .val (.ref r_5)] [(.ref r_5), (.ref a)]))
  have f13 := (f8.wr W11)
  have f14 := ((F_a_value.keep Kq5 nin0).other W11 (Or.inr (slot_ne (Or.inr (hw _ (List.mem_of_getElem? (i := 30) rfl))) (Or.inr (hw _ (List.mem_of_getElem? (i := 28) rfl))) (by decide) (t := (.array .byte)) (t' := .byte) (by decide) (by decide))))
  obtain ⟨T15, h15, X15, e15, W15, st15⟩ := putF X11 hx hZ hown (host := "") (Or.inl (hw _ (List.mem_of_getElem? (i := 29) rfl))) Via.refl e11 f14 f13 (Or.inr ⟨(hw _ (List.mem_of_getElem? (i := 30) rfl)), rfl, hnm⟩) (hw _ (List.mem_of_getElem? (i := 3) rfl)) (ty := (.array .byte)) (by decide) rfl rfl (g := (mkF m 54 #[.val (.ref a), .val (.ref b), .val (.int (0 : Int32)), .val (.int (2 : Int32)), .val .null, .val (.ref r_5)] [(.ref r_5), (.ref a)])) rfl rfl (hb hby own_d_jdk_42_method_149_code_54)
  have N15 := Fr.snoc X15 N11 g_a
  refine own_st st15 ?_
  have Zs16 : n0 ≤ h15.size := Nat.le_trans Zs12 (Keep.of_wr W15).1
  have Fw15 := f14.same W15
  show own_Gl _ _ _ _ _ _ _ (T15.setTop (mkF m 57 #[.val (.ref a), .val (.ref b), .val (.int (0 : Int32)), .val (.int (2 : Int32)), .val .null, .val (.ref r_5)] []))
  have f17 := (Fw11.other W15 (Or.inr (slot_ne (Or.inr (hw _ (List.mem_of_getElem? (i := 28) rfl))) (Or.inr (hw _ (List.mem_of_getElem? (i := 30) rfl))) (by decide) (t := .byte) (t' := (.array .byte)) (by decide) (by decide))))
  have K18 : Keep h0 h15 [a] := ((((Keep.refl h0 [a]).trans Kq5 all0).wr W11 (Or.inl (List.mem_of_getElem? (i := 0) rfl))).wr W15 (Or.inl (List.mem_of_getElem? (i := 0) rfl)))
  have f19 := ((P5_2.other W11 (Ne.symm ne_a_r_5)).other W15 (Ne.symm ne_a_r_5))
  exact own_retV X15 hx hlk hret (hb hby own_d_jdk_42_method_149_code_57) e15 ⟨r_5, kr_5, rfl, N15, K18, P5_0, gh_r_5, f19, Fw15, f17⟩ (by decide) (by decide)
theorem own_ef_own_i1_2_2 (m : MethodId) (x0 : Addr) (x1 : Addr) : entryFrame m #[(.ref x0), (.ref x1)] 2 = mkF m 0 #[.val (.ref x0), .val (.ref x1)] [] := by first | (simp [entryFrame, mkF, argsToLocals, Value.category]; done) | rfl
def own_Q_own_i1_2_2 (Z : State) (a : Addr) (b : Addr) (k : ClassId) (v0 : Int32) (v1 : Int32) (cs : Int32) (h0 : Heap) (n0 : Nat) (v : Option Value) (h : Heap) (L : List Loc) : Prop := ∃ (r : Addr) (kr : ClassId), (v = none) ∧ (Fr n0 L) ∧ (Keep h0 h [a]) ∧ (n0 ≤ r) ∧ (h0.size ≤ r) ∧ (Arv Z h r kr .byte (2 : Int32) [(.int (nar .byte (v0.toInt8.toInt32))), (.int (nar .byte (v1.toInt8.toInt32)))] (.int (0 : Int32))) ∧ (Fld Z h a "java/lang/String" "value" "[B" (.ref r)) ∧ (Fld Z h a "java/lang/String" "coder" "B" (.int (0 : Int32)))
set_option maxRecDepth 65536 in
set_option maxHeartbeats 40000000 in
theorem own_i1_2_2 (l : Launch) (Z : State) (a0 : Array Value) (hw : ∀ d ∈ tables_1, d.before a0 Z = true) (ws : List Jvm.Cond) (a : Addr) (b : Addr) (k : ClassId) (v0 : Int32) (v1 : Int32) (cs : Int32) (h0 : Heap) (n0 : Nat) (Z0 : n0 ≤ h0.size) (E_a : Exa Z h0 a "java/lang/String") (F_a_value : Fld Z h0 a "java/lang/String" "value" "[B" .null) (F_a_coder : Fld Z h0 a "java/lang/String" "coder" "B" (.int (0 : Int32))) (g_a : n0 ≤ a) (ne_a_b : a ≠ b) (V_b : Arv Z h0 b k .char (2 : Int32) [(.int v0), (.int v1)] (.int (0 : Int32))) (hle0 : ¬ ((255 : Int32) < v0)) (hle1 : ¬ ((255 : Int32) < v1)) (S_COMPACT_STRINGS : Sta Z Z.heap "java/lang/String" "COMPACT_STRINGS" "Z" (.int cs)) (hcs : ¬ (cs = (0 : Int32))) (Old0 : Old Z n0 h0) :
    MetFree l (⟨"java/lang/String", "<init>", "([C)V"⟩ : MethodName) (head1 (Jvm.Cond.code (⟨"java/lang/String", "<init>", "([C)V"⟩ : MethodName) jdk_42_method_3_code 2 none :: ws) ({ frames := 3, cells := 1, slots := 2, locals := 52 } : Room)) (fun xa xU => xa = #[(.ref a), (.ref b)] ∧ Z.Warmed39 xU.vm ∧ xU.heap = h0) (fun _ _ _ _ _ => True) (fun _ xU xo xV => ∃ v L, xo = .returned v ∧ own_Q_own_i1_2_2 Z a b k v0 v1 cs h0 n0 v xV.heap L ∧ FrameEnd xU xo xV L ({ frames := 3, cells := 1, slots := 2, locals := 52 } : Room).cells ({ frames := 3, cells := 1, slots := 2, locals := 52 } : Room).slots) := by
  refine MetFree.of_bodySF (plainFor_of_name own_pn853443214) hisR ?_
  intro p e s m args below meth c s₁ Bd hml0 hP hK
  obtain ⟨rfl, hZ, hh⟩ := hP
  have hx := Bd.exec
  have hby := Bd.bytes
  have hlk := Bd.notSynchronized
  have hret := Bd.returns
  have hml : c.maxLocals = 2 := hml0
  have hown : s.vm.findClass "java/lang/String" = some m.cls := findClass_of_methodNamed Bd.named
  have hnm := (name_of_methodNamed Bd.named Bd.method).1
  have X0 : Stand p l e ({ frames := 3, cells := 1, slots := 2, locals := 52 } : Room) s m #[(.ref a), (.ref b)] below meth c s₁ [] 0 0 := Stand.of_body Bd
  have e0 : s₁.heap = h0 := by rw [← hh, Bd.state]; rfl
  have N0 := Fr.nil n0
  show own_Gl p e below s (own_Q_own_i1_2_2 Z a b k v0 v1 cs h0 n0) ({ frames := 3, cells := 1, slots := 2, locals := 52 } : Room).cells ({ frames := 3, cells := 1, slots := 2, locals := 52 } : Room).slots _
  refine own_cast (own_ef_own_i1_2_2 m a b) ?_
  show own_Gl _ _ _ _ _ _ _ (s₁.setTop (mkF m 0 #[.val (.ref a), .val (.ref b)] []))
  refine own_st (fun _ k => XS.aloadN X0.here hx rfl (hb hby own_d_jdk_42_method_3_code_0) rfl rfl k) ?_
  show own_Gl _ _ _ _ _ _ _ (s₁.setTop (mkF m 1 #[.val (.ref a), .val (.ref b)] [(.ref a)]))
  refine own_st (fun _ k => XS.aloadN X0.here hx rfl (hb hby own_d_jdk_42_method_3_code_1) rfl rfl k) ?_
  show own_Gl _ _ _ _ _ _ _ (s₁.setTop (mkF m 2 #[.val (.ref a), .val (.ref b)] [(.ref b), (.ref a)]))
  refine own_st (fun _ k => XS.iconst X0.here hx rfl (hb hby own_d_jdk_42_method_3_code_2) k) ?_
  show own_Gl _ _ _ _ _ _ _ (s₁.setTop (mkF m 3 #[.val (.ref a), .val (.ref b)] [(.int (0 : Int32)), (.ref b), (.ref a)]))
  refine own_st (fun _ k => XS.aloadN X0.here hx rfl (hb hby own_d_jdk_42_method_3_code_3) rfl rfl k) ?_
  show own_Gl _ _ _ _ _ _ _ (s₁.setTop (mkF m 4 #[.val (.ref a), .val (.ref b)] [(.ref b), (.int (0 : Int32)), (.ref b), (.ref a)]))
  obtain ⟨cl1, Ar1, qq1, Ss1, Nn1, Hh1, Gg1⟩ := id V_b
  refine own_st (X0.arraylength hx (by rw [e0]; exact Ar1.1) (State.isArrayOf_alike hZ.alike Ar1.2.1) (g := (mkF m 4 #[.val (.ref a), .val (.ref b)] [(.ref b), (.int (0 : Int32)), (.ref b), (.ref a)])) rfl rfl (hb hby own_d_jdk_42_method_3_code_4)) ?_
  rw [len_of Ss1 Nn1]
  show own_Gl _ _ _ _ _ _ _ (s₁.setTop (mkF m 5 #[.val (.ref a), .val (.ref b)] [(.int (2 : Int32)), (.int (0 : Int32)), (.ref b), (.ref a)]))
  refine own_st (fun _ k => XS.aconstNull X0.here hx rfl (hb hby own_d_jdk_42_method_3_code_5) k) ?_
  show own_Gl _ _ _ _ _ _ _ (s₁.setTop (mkF m 6 #[.val (.ref a), .val (.ref b)] [.null, (.int (2 : Int32)), (.int (0 : Int32)), (.ref b), (.ref a)]))
  obtain ⟨_, _, ⟨T2, L2, k2, n2⟩, -, X2, ⟨Lc2, hQ2, l2, y2, z2⟩, st2⟩ := X0.specialBack hx (y := (⟨"java/lang/String", "<init>", "([CIILjava/lang/Void;)V"⟩ : MethodName)) rfl hown (mvT hZ (hw _ (List.mem_of_getElem? (i := 8) rfl))) (mvT hZ (hw _ (List.mem_of_getElem? (i := 9) rfl))) (mvT hZ (hw _ (List.mem_of_getElem? (i := 11) rfl))) (by decide) (backOf (W := 0) (own_i4_2_2 l Z a0 hw [] a b k v0 v1 cs h0 n0 Z0 E_a F_a_value F_a_coder g_a ne_a_b V_b hle0 hle1 S_COMPACT_STRINGS hcs Old0) hZ (hw _ (List.mem_of_getElem? (i := 11) rfl)) (hw _ (List.mem_of_getElem? (i := 4) rfl)) (by decide) (by decide)) (g := (mkF m 6 #[.val (.ref a), .val (.ref b)] [.null, (.int (2 : Int32)), (.int (0 : Int32)), (.ref b), (.ref a)])) rfl (by rw [hml]; rfl) (Steps.refl _) (a := a) (argsL := [(.ref b), (.int (0 : Int32)), (.int (2 : Int32)), .null]) (rest := []) (lenOf own_pd888094010 rfl) rfl (by show 2 * 0 + _ ≤ _; exact Nat.le_of_eq rfl) (hb hby own_d_jdk_42_method_3_code_6) (fun _ _ => ⟨rfl, e0, (by decide : 0 + 1 ≤ ({ frames := 3, cells := 1, slots := 2, locals := 52 } : Room).cells), (by decide : 0 + 2 ≤ ({ frames := 3, cells := 1, slots := 2, locals := 52 } : Room).slots)⟩)
  dsimp only [Pt.U, Pt.locs, Pt.cells, Pt.slots] at X2 l2 y2 z2 st2 hQ2
  subst l2 y2 z2
  obtain ⟨hh2, eh02⟩ : ∃ z, T2.heap = z := ⟨_, rfl⟩
  rw [eh02] at hQ2
  obtain ⟨r_2, kr_2, rfl, Nq2, Kq2, P2_0, P2_1, P2_2, P2_3, P2_4⟩ := hQ2
  have N2 := Fr.app N0 Nq2
  refine own_tr st2 ?_
  have Zs3 : n0 ≤ hh2.size := Nat.le_trans Z0 Kq2.1
  have gh_r_2 : h0.size ≤ r_2 := Nat.le_trans (Keep.refl h0 [a]).1 P2_1
  have ne_a_r_2 : a ≠ r_2 := Nat.ne_of_lt (Nat.lt_of_lt_of_le E_a.lt P2_1)
  have ne_b_r_2 : b ≠ r_2 := Nat.ne_of_lt (Nat.lt_of_lt_of_le V_b.lt P2_1)
  show own_Gl _ _ _ _ _ _ _ (T2.setTop (mkF m 9 #[.val (.ref a), .val (.ref b)] []))
  have K4 : Keep h0 hh2 [a] := ((Keep.refl h0 [a]).trans Kq2 (allS (Or.inl (List.mem_of_getElem? (i := 0) rfl)) all0))
  exact own_retV X2 hx hlk hret (hb hby own_d_jdk_42_method_3_code_9) eh02 ⟨r_2, kr_2, rfl, N2, K4, P2_0, gh_r_2, P2_2, P2_3, P2_4⟩ (by decide) (by decide)
theorem own_d_jdk_30_method_1_code_0 : decode jdk_30_method_1_code 0 = .ok (.aload_n 0, 1) := by decide +kernel
theorem own_d_jdk_30_method_1_code_1 : decode jdk_30_method_1_code 1 = .ok (.invokespecial 1, 3) := by decide +kernel
theorem own_d_jdk_30_method_1_code_4 : decode jdk_30_method_1_code 4 = .ok (.return_, 1) := by decide +kernel
theorem own_ef_own_rec (m : MethodId) (x0 : Addr) : entryFrame m #[(.ref x0)] 1 = mkF m 0 #[.val (.ref x0)] [] := by first | (simp [entryFrame, mkF, argsToLocals, Value.category]; done) | rfl
def own_Q_own_rec (Z : State) (a : Addr) (h0 : Heap) (n0 : Nat) (v : Option Value) (h : Heap) (L : List Loc) : Prop := (v = none) ∧ (Fr n0 L) ∧ (h = h0)
theorem own_pn822836870 : plainName "java/lang/Record" = true := by first | (simp [plainName, overriddenIn]; done) | decide +kernel
set_option maxRecDepth 65536 in
set_option maxHeartbeats 40000000 in
theorem own_rec (l : Launch) (Z : State) (a0 : Array Value) (hw : ∀ d ∈ tables_1, d.before a0 Z = true) (ws : List Jvm.Cond) (a : Addr) (h0 : Heap) (n0 : Nat) (Z0 : n0 ≤ h0.size) :
    MetFree l (⟨"java/lang/Record", "<init>", "()V"⟩ : MethodName) (head1 (Jvm.Cond.code (⟨"java/lang/Record", "<init>", "()V"⟩ : MethodName) jdk_30_method_1_code 1 none :: ws) ({ frames := 1, cells := 0, slots := 0, locals := 12 } : Room)) (fun xa xU => xa = #[(.ref a)] ∧ Z.Warmed39 xU.vm ∧ xU.heap = h0) (fun _ _ _ _ _ => True) (fun _ xU xo xV => ∃ v L, xo = .returned v ∧ own_Q_own_rec Z a h0 n0 v xV.heap L ∧ FrameEnd xU xo xV L ({ frames := 1, cells := 0, slots := 0, locals := 12 } : Room).cells ({ frames := 1, cells := 0, slots := 0, locals := 12 } : Room).slots) := by
  refine MetFree.of_bodySF (plainFor_of_name own_pn822836870) hisR ?_
  intro p e s m args below meth c s₁ Bd hml0 hP hK
  obtain ⟨rfl, hZ, hh⟩ := hP
  have hx := Bd.exec
  have hby := Bd.bytes
  have hlk := Bd.notSynchronized
  have hret := Bd.returns
  have hml : c.maxLocals = 1 := hml0
  have hown : s.vm.findClass "java/lang/Record" = some m.cls := findClass_of_methodNamed Bd.named
  have hnm := (name_of_methodNamed Bd.named Bd.method).1
  have X0 : Stand p l e ({ frames := 1, cells := 0, slots := 0, locals := 12 } : Room) s m #[(.ref a)] below meth c s₁ [] 0 0 := Stand.of_body Bd
  have e0 : s₁.heap = h0 := by rw [← hh, Bd.state]; rfl
  have N0 := Fr.nil n0
  show own_Gl p e below s (own_Q_own_rec Z a h0 n0) ({ frames := 1, cells := 0, slots := 0, locals := 12 } : Room).cells ({ frames := 1, cells := 0, slots := 0, locals := 12 } : Room).slots _
  refine own_cast (own_ef_own_rec m a) ?_
  show own_Gl _ _ _ _ _ _ _ (s₁.setTop (mkF m 0 #[.val (.ref a)] []))
  refine own_st (fun _ k => XS.aloadN X0.here hx rfl (hb hby own_d_jdk_30_method_1_code_0) rfl rfl k) ?_
  show own_Gl _ _ _ _ _ _ _ (s₁.setTop (mkF m 1 #[.val (.ref a)] [(.ref a)]))
  obtain ⟨T1, X1, e1, st1⟩ := initO X0 hx hZ hown (hw _ (List.mem_of_getElem? (i := 42) rfl)) (hw _ (List.mem_of_getElem? (i := 13) rfl)) (hw _ (List.mem_of_getElem? (i := 14) rfl)) e0 (g := (mkF m 1 #[.val (.ref a)] [(.ref a)])) rfl (by rw [hml]; rfl) rfl (hb hby own_d_jdk_30_method_1_code_1) (by decide) (W := 0) (by show 2 * 0 + _ ≤ _; exact Nat.le_of_eq rfl) (by decide)
  refine own_st st1 ?_
  show own_Gl _ _ _ _ _ _ _ (T1.setTop (mkF m 4 #[.val (.ref a)] []))
  exact own_retV X1 hx hlk hret (hb hby own_d_jdk_30_method_1_code_4) e1 ⟨rfl, N0, rfl⟩ (by decide) (by decide)
theorem own_d_jdk_22_method_1_code_0 : decode jdk_22_method_1_code 0 = .ok (.aload_n 0, 1) := by decide +kernel
theorem own_d_jdk_22_method_1_code_1 : decode jdk_22_method_1_code 1 = .ok (.invokespecial 1, 3) := by decide +kernel
theorem own_d_jdk_22_method_1_code_4 : decode jdk_22_method_1_code 4 = .ok (.return_, 1) := by decide +kernel
theorem own_ef_own_ac (m : MethodId) (x0 : Addr) : entryFrame m #[(.ref x0)] 1 = mkF m 0 #[.val (.ref x0)] [] := by first | (simp [entryFrame, mkF, argsToLocals, Value.category]; done) | rfl
def own_Q_own_ac (Z : State) (a : Addr) (h0 : Heap) (n0 : Nat) (v : Option Value) (h : Heap) (L : List Loc) : Prop := (v = none) ∧ (Fr n0 L) ∧ (h = h0)
theorem own_pn347225012 : plainName "java/util/AbstractCollection" = true := by first | (simp [plainName, overriddenIn]; done) | decide +kernel
set_option maxRecDepth 65536 in
set_option maxHeartbeats 40000000 in
theorem own_ac (l : Launch) (Z : State) (a0 : Array Value) (hw : ∀ d ∈ tables_1, d.before a0 Z = true) (ws : List Jvm.Cond) (a : Addr) (h0 : Heap) (n0 : Nat) (Z0 : n0 ≤ h0.size) :
    MetFree l (⟨"java/util/AbstractCollection", "<init>", "()V"⟩ : MethodName) (head1 (Jvm.Cond.code (⟨"java/util/AbstractCollection", "<init>", "()V"⟩ : MethodName) jdk_22_method_1_code 1 none :: ws) ({ frames := 1, cells := 0, slots := 0, locals := 12 } : Room)) (fun xa xU => xa = #[(.ref a)] ∧ Z.Warmed39 xU.vm ∧ xU.heap = h0) (fun _ _ _ _ _ => True) (fun _ xU xo xV => ∃ v L, xo = .returned v ∧ own_Q_own_ac Z a h0 n0 v xV.heap L ∧ FrameEnd xU xo xV L ({ frames := 1, cells := 0, slots := 0, locals := 12 } : Room).cells ({ frames := 1, cells := 0, slots := 0, locals := 12 } : Room).slots) := by
  refine MetFree.of_bodySF (plainFor_of_name own_pn347225012) hisR ?_
  intro p e s m args below meth c s₁ Bd hml0 hP hK
  obtain ⟨rfl, hZ, hh⟩ := hP
  have hx := Bd.exec
  have hby := Bd.bytes
  have hlk := Bd.notSynchronized
  have hret := Bd.returns
  have hml : c.maxLocals = 1 := hml0
  have hown : s.vm.findClass "java/util/AbstractCollection" = some m.cls := findClass_of_methodNamed Bd.named
  have hnm := (name_of_methodNamed Bd.named Bd.method).1
  have X0 : Stand p l e ({ frames := 1, cells := 0, slots := 0, locals := 12 } : Room) s m #[(.ref a)] below meth c s₁ [] 0 0 := Stand.of_body Bd
  have e0 : s₁.heap = h0 := by rw [← hh, Bd.state]; rfl
  have N0 := Fr.nil n0
  show own_Gl p e below s (own_Q_own_ac Z a h0 n0) ({ frames := 1, cells := 0, slots := 0, locals := 12 } : Room).cells ({ frames := 1, cells := 0, slots := 0, locals := 12 } : Room).slots _
  refine own_cast (own_ef_own_ac m a) ?_
  show own_Gl _ _ _ _ _ _ _ (s₁.setTop (mkF m 0 #[.val (.ref a)] []))
  refine own_st (fun _ k => XS.aloadN X0.here hx rfl (hb hby own_d_jdk_22_method_1_code_0) rfl rfl k) ?_
  show own_Gl _ _ _ _ _ _ _ (s₁.setTop (mkF m 1 #[.val (.ref a)] [(.ref a)]))
  obtain ⟨T1, X1, e1, st1⟩ := initO X0 hx hZ hown (hw _ (List.mem_of_getElem? (i := 90) rfl)) (hw _ (List.mem_of_getElem? (i := 13) rfl)) (hw _ (List.mem_of_getElem? (i := 14) rfl)) e0 (g := (mkF m 1 #[.val (.ref a)] [(.ref a)])) rfl (by rw [hml]; rfl) rfl (hb hby own_d_jdk_22_method_1_code_1) (by decide) (W := 0) (by show 2 * 0 + _ ≤ _; exact Nat.le_of_eq rfl) (by decide)
  refine own_st st1 ?_
  show own_Gl _ _ _ _ _ _ _ (T1.setTop (mkF m 4 #[.val (.ref a)] []))
  exact own_retV X1 hx hlk hret (hb hby own_d_jdk_22_method_1_code_4) e1 ⟨rfl, N0, rfl⟩ (by decide) (by decide)
theorem own_d_jdk_47_method_1_code_0 : decode jdk_47_method_1_code 0 = .ok (.aload_n 0, 1) := by decide +kernel
theorem own_d_jdk_47_method_1_code_1 : decode jdk_47_method_1_code 1 = .ok (.invokespecial 1, 3) := by decide +kernel
theorem own_pd691897 : parseMethodDescriptor "()V" = some ⟨[], none⟩ := by decide +kernel
theorem own_d_jdk_47_method_1_code_4 : decode jdk_47_method_1_code 4 = .ok (.return_, 1) := by decide +kernel
theorem own_ef_own_aic (m : MethodId) (x0 : Addr) : entryFrame m #[(.ref x0)] 1 = mkF m 0 #[.val (.ref x0)] [] := by first | (simp [entryFrame, mkF, argsToLocals, Value.category]; done) | rfl
def own_Q_own_aic (Z : State) (a : Addr) (h0 : Heap) (n0 : Nat) (v : Option Value) (h : Heap) (L : List Loc) : Prop := (v = none) ∧ (Fr n0 L) ∧ (h = h0)
theorem own_pn387577042 : plainName "java/util/ImmutableCollections$AbstractImmutableCollection" = true := by first | (simp [plainName, overriddenIn]; done) | decide +kernel
set_option maxRecDepth 65536 in
set_option maxHeartbeats 40000000 in
theorem own_aic (l : Launch) (Z : State) (a0 : Array Value) (hw : ∀ d ∈ tables_1, d.before a0 Z = true) (ws : List Jvm.Cond) (a : Addr) (h0 : Heap) (n0 : Nat) (Z0 : n0 ≤ h0.size) :
    MetFree l (⟨"java/util/ImmutableCollections$AbstractImmutableCollection", "<init>", "()V"⟩ : MethodName) (head1 (Jvm.Cond.code (⟨"java/util/ImmutableCollections$AbstractImmutableCollection", "<init>", "()V"⟩ : MethodName) jdk_47_method_1_code 1 none :: ws) ({ frames := 2, cells := 0, slots := 0, locals := 24 } : Room)) (fun xa xU => xa = #[(.ref a)] ∧ Z.Warmed39 xU.vm ∧ xU.heap = h0) (fun _ _ _ _ _ => True) (fun _ xU xo xV => ∃ v L, xo = .returned v ∧ own_Q_own_aic Z a h0 n0 v xV.heap L ∧ FrameEnd xU xo xV L ({ frames := 2, cells := 0, slots := 0, locals := 24 } : Room).cells ({ frames := 2, cells := 0, slots := 0, locals := 24 } : Room).slots) := by
  refine MetFree.of_bodySF (plainFor_of_name own_pn387577042) hisR ?_
  intro p e s m args below meth c s₁ Bd hml0 hP hK
  obtain ⟨rfl, hZ, hh⟩ := hP
  have hx := Bd.exec
  have hby := Bd.bytes
  have hlk := Bd.notSynchronized
  have hret := Bd.returns
  have hml : c.maxLocals = 1 := hml0
  have hown : s.vm.findClass "java/util/ImmutableCollections$AbstractImmutableCollection" = some m.cls := findClass_of_methodNamed Bd.named
  have hnm := (name_of_methodNamed Bd.named Bd.method).1
  have X0 : Stand p l e ({ frames := 2, cells := 0, slots := 0, locals := 24 } : Room) s m #[(.ref a)] below meth c s₁ [] 0 0 := Stand.of_body Bd
  have e0 : s₁.heap = h0 := by rw [← hh, Bd.state]; rfl
  have N0 := Fr.nil n0
  show own_Gl p e below s (own_Q_own_aic Z a h0 n0) ({ frames := 2, cells := 0, slots := 0, locals := 24 } : Room).cells ({ frames := 2, cells := 0, slots := 0, locals := 24 } : Room).slots _
  refine own_cast (own_ef_own_aic m a) ?_
  show own_Gl _ _ _ _ _ _ _ (s₁.setTop (mkF m 0 #[.val (.ref a)] []))
  refine own_st (fun _ k => XS.aloadN X0.here hx rfl (hb hby own_d_jdk_47_method_1_code_0) rfl rfl k) ?_
  show own_Gl _ _ _ _ _ _ _ (s₁.setTop (mkF m 1 #[.val (.ref a)] [(.ref a)]))
  obtain ⟨_, _, ⟨T1, L1, k1, n1⟩, -, X1, ⟨Lc1, hQ1, l1, y1, z1⟩, st1⟩ := X0.specialBack hx (y := (⟨"java/util/AbstractCollection", "<init>", "()V"⟩ : MethodName)) rfl hown (mvT hZ (hw _ (List.mem_of_getElem? (i := 84) rfl))) (mvT hZ (hw _ (List.mem_of_getElem? (i := 85) rfl))) (mvT hZ (hw _ (List.mem_of_getElem? (i := 89) rfl))) (by decide) (backOf (W := 0) (own_ac l Z a0 hw [] a h0 n0 Z0 ) hZ (hw _ (List.mem_of_getElem? (i := 89) rfl)) (hw _ (List.mem_of_getElem? (i := 88) rfl)) (by decide) (by decide)) (g := (mkF m 1 #[.val (.ref a)] [(.ref a)])) rfl (by rw [hml]; rfl) (Steps.refl _) (a := a) (argsL := []) (rest := []) (lenOf own_pd691897 rfl) rfl (by show 2 * 0 + _ ≤ _; exact Nat.le_of_eq rfl) (hb hby own_d_jdk_47_method_1_code_1) (fun _ _ => ⟨rfl, e0, (by decide : 0 + 0 ≤ ({ frames := 2, cells := 0, slots := 0, locals := 24 } : Room).cells), (by decide : 0 + 0 ≤ ({ frames := 2, cells := 0, slots := 0, locals := 24 } : Room).slots)⟩)
  dsimp only [Pt.U, Pt.locs, Pt.cells, Pt.slots] at X1 l1 y1 z1 st1 hQ1
  subst l1 y1 z1
  obtain ⟨hh1, eh01⟩ : ∃ z, T1.heap = z := ⟨_, rfl⟩
  rw [eh01] at hQ1
  obtain ⟨rfl, Nq1, eh1⟩ := hQ1
  have N1 := Fr.app N0 Nq1
  refine own_tr st1 ?_
  have e1 : T1.heap = h0 := eh01.trans eh1
  show own_Gl _ _ _ _ _ _ _ (T1.setTop (mkF m 4 #[.val (.ref a)] []))
  exact own_retV X1 hx hlk hret (hb hby own_d_jdk_47_method_1_code_4) e1 ⟨rfl, N1, rfl⟩ (by decide) (by decide)
theorem own_d_jdk_46_method_1_code_0 : decode jdk_46_method_1_code 0 = .ok (.aload_n 0, 1) := by decide +kernel
theorem own_d_jdk_46_method_1_code_1 : decode jdk_46_method_1_code 1 = .ok (.invokespecial 1, 3) := by decide +kernel
theorem own_d_jdk_46_method_1_code_4 : decode jdk_46_method_1_code 4 = .ok (.return_, 1) := by decide +kernel
theorem own_ef_own_ail (m : MethodId) (x0 : Addr) : entryFrame m #[(.ref x0)] 1 = mkF m 0 #[.val (.ref x0)] [] := by first | (simp [entryFrame, mkF, argsToLocals, Value.category]; done) | rfl
def own_Q_own_ail (Z : State) (a : Addr) (h0 : Heap) (n0 : Nat) (v : Option Value) (h : Heap) (L : List Loc) : Prop := (v = none) ∧ (Fr n0 L) ∧ (h = h0)
theorem own_pn848747025 : plainName "java/util/ImmutableCollections$AbstractImmutableList" = true := by first | (simp [plainName, overriddenIn]; done) | decide +kernel
set_option maxRecDepth 65536 in
set_option maxHeartbeats 40000000 in
theorem own_ail (l : Launch) (Z : State) (a0 : Array Value) (hw : ∀ d ∈ tables_1, d.before a0 Z = true) (ws : List Jvm.Cond) (a : Addr) (h0 : Heap) (n0 : Nat) (Z0 : n0 ≤ h0.size) :
    MetFree l (⟨"java/util/ImmutableCollections$AbstractImmutableList", "<init>", "()V"⟩ : MethodName) (head1 (Jvm.Cond.code (⟨"java/util/ImmutableCollections$AbstractImmutableList", "<init>", "()V"⟩ : MethodName) jdk_46_method_1_code 1 none :: ws) ({ frames := 3, cells := 0, slots := 0, locals := 36 } : Room)) (fun xa xU => xa = #[(.ref a)] ∧ Z.Warmed39 xU.vm ∧ xU.heap = h0) (fun _ _ _ _ _ => True) (fun _ xU xo xV => ∃ v L, xo = .returned v ∧ own_Q_own_ail Z a h0 n0 v xV.heap L ∧ FrameEnd xU xo xV L ({ frames := 3, cells := 0, slots := 0, locals := 36 } : Room).cells ({ frames := 3, cells := 0, slots := 0, locals := 36 } : Room).slots) := by
  refine MetFree.of_bodySF (plainFor_of_name own_pn848747025) hisR ?_
  intro p e s m args below meth c s₁ Bd hml0 hP hK
  obtain ⟨rfl, hZ, hh⟩ := hP
  have hx := Bd.exec
  have hby := Bd.bytes
  have hlk := Bd.notSynchronized
  have hret := Bd.returns
  have hml : c.maxLocals = 1 := hml0
  have hown : s.vm.findClass "java/util/ImmutableCollections$AbstractImmutableList" = some m.cls := findClass_of_methodNamed Bd.named
  have hnm := (name_of_methodNamed Bd.named Bd.method).1
  have X0 : Stand p l e ({ frames := 3, cells := 0, slots := 0, locals := 36 } : Room) s m #[(.ref a)] below meth c s₁ [] 0 0 := Stand.of_body Bd
  have e0 : s₁.heap = h0 := by rw [← hh, Bd.state]; rfl
  have N0 := Fr.nil n0
  show own_Gl p e below s (own_Q_own_ail Z a h0 n0) ({ frames := 3, cells := 0, slots := 0, locals := 36 } : Room).cells ({ frames := 3, cells := 0, slots := 0, locals := 36 } : Room).slots _
  refine own_cast (own_ef_own_ail m a) ?_
  show own_Gl _ _ _ _ _ _ _ (s₁.setTop (mkF m 0 #[.val (.ref a)] []))
  refine own_st (fun _ k => XS.aloadN X0.here hx rfl (hb hby own_d_jdk_46_method_1_code_0) rfl rfl k) ?_
  show own_Gl _ _ _ _ _ _ _ (s₁.setTop (mkF m 1 #[.val (.ref a)] [(.ref a)]))
  obtain ⟨_, _, ⟨T1, L1, k1, n1⟩, -, X1, ⟨Lc1, hQ1, l1, y1, z1⟩, st1⟩ := X0.specialBack hx (y := (⟨"java/util/ImmutableCollections$AbstractImmutableCollection", "<init>", "()V"⟩ : MethodName)) rfl hown (mvT hZ (hw _ (List.mem_of_getElem? (i := 78) rfl))) (mvT hZ (hw _ (List.mem_of_getElem? (i := 79) rfl))) (mvT hZ (hw _ (List.mem_of_getElem? (i := 83) rfl))) (by decide) (backOf (W := 0) (own_aic l Z a0 hw [] a h0 n0 Z0 ) hZ (hw _ (List.mem_of_getElem? (i := 83) rfl)) (hw _ (List.mem_of_getElem? (i := 82) rfl)) (by decide) (by decide)) (g := (mkF m 1 #[.val (.ref a)] [(.ref a)])) rfl (by rw [hml]; rfl) (Steps.refl _) (a := a) (argsL := []) (rest := []) (lenOf own_pd691897 rfl) rfl (by show 2 * 0 + _ ≤ _; exact Nat.le_of_eq rfl) (hb hby own_d_jdk_46_method_1_code_1) (fun _ _ => ⟨rfl, e0, (by decide : 0 + 0 ≤ ({ frames := 3, cells := 0, slots := 0, locals := 36 } : Room).cells), (by decide : 0 + 0 ≤ ({ frames := 3, cells := 0, slots := 0, locals := 36 } : Room).slots)⟩)
  dsimp only [Pt.U, Pt.locs, Pt.cells, Pt.slots] at X1 l1 y1 z1 st1 hQ1
  subst l1 y1 z1
  obtain ⟨hh1, eh01⟩ : ∃ z, T1.heap = z := ⟨_, rfl⟩
  rw [eh01] at hQ1
  obtain ⟨rfl, Nq1, eh1⟩ := hQ1
  have N1 := Fr.app N0 Nq1
  refine own_tr st1 ?_
  have e1 : T1.heap = h0 := eh01.trans eh1
  show own_Gl _ _ _ _ _ _ _ (T1.setTop (mkF m 4 #[.val (.ref a)] []))
  exact own_retV X1 hx hlk hret (hb hby own_d_jdk_46_method_1_code_4) e1 ⟨rfl, N1, rfl⟩ (by decide) (by decide)
theorem own_d_prog_42_method_1_code_0 : decode prog_42_method_1_code 0 = .ok (.aload_n 0, 1) := by decide +kernel
theorem own_d_prog_42_method_1_code_1 : decode prog_42_method_1_code 1 = .ok (.invokespecial 1, 3) := by decide +kernel
theorem own_d_prog_42_method_1_code_4 : decode prog_42_method_1_code 4 = .ok (.aload_n 0, 1) := by decide +kernel
theorem own_d_prog_42_method_1_code_5 : decode prog_42_method_1_code 5 = .ok (.aload_n 1, 1) := by decide +kernel
theorem own_d_prog_42_method_1_code_6 : decode prog_42_method_1_code 6 = .ok (.putfield 7, 3) := by decide +kernel
theorem own_d_prog_42_method_1_code_9 : decode prog_42_method_1_code 9 = .ok (.return_, 1) := by decide +kernel
theorem own_ef_own_vinit (m : MethodId) (x0 : Addr) (x1 : Addr) : entryFrame m #[(.ref x0), (.ref x1)] 2 = mkF m 0 #[.val (.ref x0), .val (.ref x1)] [] := by first | (simp [entryFrame, mkF, argsToLocals, Value.category]; done) | rfl
def own_Q_own_vinit (Z : State) (a : Addr) (b : Addr) (h0 : Heap) (n0 : Nat) (v : Option Value) (h : Heap) (L : List Loc) : Prop := (v = none) ∧ (Fr n0 L) ∧ (Keep h0 h [a]) ∧ (Fld Z h a "com/example/lehti/lehti/model/Variable" "name" "Ljava/lang/String;" (.ref b))
theorem own_pn482913593 : plainName "com/example/lehti/lehti/model/Variable" = true := by first | (simp [plainName, overriddenIn]; done) | decide +kernel
set_option maxRecDepth 65536 in
set_option maxHeartbeats 40000000 in
theorem own_vinit (l : Launch) (Z : State) (a0 : Array Value) (hw : ∀ d ∈ tables_1, d.before a0 Z = true) (ws : List Jvm.Cond) (a : Addr) (b : Addr) (h0 : Heap) (n0 : Nat) (Z0 : n0 ≤ h0.size) (E_a : Exa Z h0 a "com/example/lehti/lehti/model/Variable") (F_a_name : Fld Z h0 a "com/example/lehti/lehti/model/Variable" "name" "Ljava/lang/String;" .null) (g_a : n0 ≤ a) :
    MetFree l (⟨"com/example/lehti/lehti/model/Variable", "<init>", "(Ljava/lang/String;)V"⟩ : MethodName) (head1 (Jvm.Cond.code (⟨"com/example/lehti/lehti/model/Variable", "<init>", "(Ljava/lang/String;)V"⟩ : MethodName) prog_42_method_1_code 2 none :: ws) ({ frames := 2, cells := 0, slots := 0, locals := 24 } : Room)) (fun xa xU => xa = #[(.ref a), (.ref b)] ∧ Z.Warmed39 xU.vm ∧ xU.heap = h0) (fun _ _ _ _ _ => True) (fun _ xU xo xV => ∃ v L, xo = .returned v ∧ own_Q_own_vinit Z a b h0 n0 v xV.heap L ∧ FrameEnd xU xo xV L ({ frames := 2, cells := 0, slots := 0, locals := 24 } : Room).cells ({ frames := 2, cells := 0, slots := 0, locals := 24 } : Room).slots) := by
  refine MetFree.of_bodySF (plainFor_of_name own_pn482913593) hisR ?_
  intro p e s m args below meth c s₁ Bd hml0 hP hK
  obtain ⟨rfl, hZ, hh⟩ := hP
  have hx := Bd.exec
  have hby := Bd.bytes
  have hlk := Bd.notSynchronized
  have hret := Bd.returns
  have hml : c.maxLocals = 2 := hml0
  have hown : s.vm.findClass "com/example/lehti/lehti/model/Variable" = some m.cls := findClass_of_methodNamed Bd.named
  have hnm := (name_of_methodNamed Bd.named Bd.method).1
  have X0 : Stand p l e ({ frames := 2, cells := 0, slots := 0, locals := 24 } : Room) s m #[(.ref a), (.ref b)] below meth c s₁ [] 0 0 := Stand.of_body Bd
  have e0 : s₁.heap = h0 := by rw [← hh, Bd.state]; rfl
  have N0 := Fr.nil n0
  show own_Gl p e below s (own_Q_own_vinit Z a b h0 n0) ({ frames := 2, cells := 0, slots := 0, locals := 24 } : Room).cells ({ frames := 2, cells := 0, slots := 0, locals := 24 } : Room).slots _
  refine own_cast (own_ef_own_vinit m a b) ?_
  show own_Gl _ _ _ _ _ _ _ (s₁.setTop (mkF m 0 #[.val (.ref a), .val (.ref b)] []))
  refine own_st (fun _ k => XS.aloadN X0.here hx rfl (hb hby own_d_prog_42_method_1_code_0) rfl rfl k) ?_
  show own_Gl _ _ _ _ _ _ _ (s₁.setTop (mkF m 1 #[.val (.ref a), .val (.ref b)] [(.ref a)]))
  obtain ⟨_, _, ⟨T1, L1, k1, n1⟩, -, X1, ⟨Lc1, hQ1, l1, y1, z1⟩, st1⟩ := X0.specialBack hx (y := (⟨"java/lang/Record", "<init>", "()V"⟩ : MethodName)) rfl hown (mvT hZ (hw _ (List.mem_of_getElem? (i := 37) rfl))) (mvT hZ (hw _ (List.mem_of_getElem? (i := 38) rfl))) (mvT hZ (hw _ (List.mem_of_getElem? (i := 41) rfl))) (by decide) (backOf (W := 0) (own_rec l Z a0 hw [] a h0 n0 Z0 ) hZ (hw _ (List.mem_of_getElem? (i := 41) rfl)) (hw _ (List.mem_of_getElem? (i := 40) rfl)) (by decide) (by decide)) (g := (mkF m 1 #[.val (.ref a), .val (.ref b)] [(.ref a)])) rfl (by rw [hml]; rfl) (Steps.refl _) (a := a) (argsL := []) (rest := []) (lenOf own_pd691897 rfl) rfl (by show 2 * 0 + _ ≤ _; exact Nat.le_of_eq rfl) (hb hby own_d_prog_42_method_1_code_1) (fun _ _ => ⟨rfl, e0, (by decide : 0 + 0 ≤ ({ frames := 2, cells := 0, slots := 0, locals := 24 } : Room).cells), (by decide : 0 + 0 ≤ ({ frames := 2, cells := 0, slots := 0, locals := 24 } : Room).slots)⟩)
  dsimp only [Pt.U, Pt.locs, Pt.cells, Pt.slots] at X1 l1 y1 z1 st1 hQ1
  subst l1 y1 z1
  obtain ⟨hh1, eh01⟩ : ∃ z, T1.heap = z := ⟨_, rfl⟩
  rw [eh01] at hQ1
  obtain ⟨rfl, Nq1, eh1⟩ := hQ1
  have N1 := Fr.app N0 Nq1
  refine own_tr st1 ?_
  have e1 : T1.heap = h0 := eh01.trans eh1
  show own_Gl _ _ _ _ _ _ _ (T1.setTop (mkF m 4 #[.val (.ref a), .val (.ref b)] []))
  refine own_st (fun _ k => XS.aloadN X1.here hx rfl (hb hby own_d_prog_42_method_1_code_4) rfl rfl k) ?_
  show own_Gl _ _ _ _ _ _ _ (T1.setTop (mkF m 5 #[.val (.ref a), .val (.ref b)] [(.ref a)]))
  refine own_st (fun _ k => XS.aloadN X1.here hx rfl (hb hby own_d_prog_42_method_1_code_5) rfl rfl k) ?_
  show own_Gl _ _ _ _ _ _ _ (T1.setTop (mkF m 6 #[.val (.ref a), .val (.ref b)] [(.ref b), (.ref a)]))
  obtain ⟨T2, h2, X2, e2, W2, st2⟩ := putF X1 hx hZ hown (host := "") (Or.inl (hw _ (List.mem_of_getElem? (i := 43) rfl))) Via.refl e1 F_a_name E_a (Or.inr ⟨(hw _ (List.mem_of_getElem? (i := 44) rfl)), rfl, hnm⟩) (hw _ (List.mem_of_getElem? (i := 32) rfl)) (ty := (.object "java/lang/String")) (by decide) rfl rfl (g := (mkF m 6 #[.val (.ref a), .val (.ref b)] [(.ref b), (.ref a)])) rfl rfl (hb hby own_d_prog_42_method_1_code_6)
  have N2 := Fr.snoc X2 N1 g_a
  refine own_st st2 ?_
  have Zs3 : n0 ≤ h2.size := Nat.le_trans Z0 (Keep.of_wr W2).1
  have Fw2 := F_a_name.same W2
  show own_Gl _ _ _ _ _ _ _ (T2.setTop (mkF m 9 #[.val (.ref a), .val (.ref b)] []))
  have K4 : Keep h0 h2 [a] := ((Keep.refl h0 [a]).wr W2 (Or.inl (List.mem_of_getElem? (i := 0) rfl)))
  exact own_retV X2 hx hlk hret (hb hby own_d_prog_42_method_1_code_9) e2 ⟨rfl, N2, K4, Fw2⟩ (by decide) (by decide)
theorem own_d_prog_26_method_1_code_0 : decode prog_26_method_1_code 0 = .ok (.aload_n 0, 1) := by decide +kernel
theorem own_d_prog_26_method_1_code_1 : decode prog_26_method_1_code 1 = .ok (.invokespecial 1, 3) := by decide +kernel
theorem own_d_prog_26_method_1_code_4 : decode prog_26_method_1_code 4 = .ok (.aload_n 0, 1) := by decide +kernel
theorem own_d_prog_26_method_1_code_5 : decode prog_26_method_1_code 5 = .ok (.aload_n 1, 1) := by decide +kernel
theorem own_d_prog_26_method_1_code_6 : decode prog_26_method_1_code 6 = .ok (.putfield 7, 3) := by decide +kernel
theorem own_d_prog_26_method_1_code_9 : decode prog_26_method_1_code 9 = .ok (.aload_n 0, 1) := by decide +kernel
theorem own_d_prog_26_method_1_code_10 : decode prog_26_method_1_code 10 = .ok (.aload_n 2, 1) := by decide +kernel
theorem own_d_prog_26_method_1_code_11 : decode prog_26_method_1_code 11 = .ok (.putfield 13, 3) := by decide +kernel
theorem own_d_prog_26_method_1_code_14 : decode prog_26_method_1_code 14 = .ok (.return_, 1) := by decide +kernel
theorem own_ef_own_einit (m : MethodId) (x0 : Addr) (x1 : Addr) (x2 : Addr) : entryFrame m #[(.ref x0), (.ref x1), (.ref x2)] 3 = mkF m 0 #[.val (.ref x0), .val (.ref x1), .val (.ref x2)] [] := by first | (simp [entryFrame, mkF, argsToLocals, Value.category]; done) | rfl
def own_Q_own_einit (Z : State) (a : Addr) (b : Addr) (d : Addr) (h0 : Heap) (n0 : Nat) (v : Option Value) (h : Heap) (L : List Loc) : Prop := (v = none) ∧ (Fr n0 L) ∧ (Keep h0 h [a]) ∧ (Fld Z h a "com/example/lehti/lehti/model/Equality" "left" "Lcom/example/lehti/lehti/model/Variable;" (.ref b)) ∧ (Fld Z h a "com/example/lehti/lehti/model/Equality" "right" "Lcom/example/lehti/lehti/model/Variable;" (.ref d))
theorem own_pn928228083 : plainName "com/example/lehti/lehti/model/Equality" = true := by first | (simp [plainName, overriddenIn]; done) | decide +kernel
set_option maxRecDepth 65536 in
set_option maxHeartbeats 40000000 in
theorem own_einit (l : Launch) (Z : State) (a0 : Array Value) (hw : ∀ d ∈ tables_1, d.before a0 Z = true) (ws : List Jvm.Cond) (a : Addr) (b : Addr) (d : Addr) (h0 : Heap) (n0 : Nat) (Z0 : n0 ≤ h0.size) (E_a : Exa Z h0 a "com/example/lehti/lehti/model/Equality") (F_a_left : Fld Z h0 a "com/example/lehti/lehti/model/Equality" "left" "Lcom/example/lehti/lehti/model/Variable;" .null) (F_a_right : Fld Z h0 a "com/example/lehti/lehti/model/Equality" "right" "Lcom/example/lehti/lehti/model/Variable;" .null) (g_a : n0 ≤ a) :
    MetFree l (⟨"com/example/lehti/lehti/model/Equality", "<init>", "(Lcom/example/lehti/lehti/model/Variable;Lcom/example/lehti/lehti/model/Variable;)V"⟩ : MethodName) (head1 (Jvm.Cond.code (⟨"com/example/lehti/lehti/model/Equality", "<init>", "(Lcom/example/lehti/lehti/model/Variable;Lcom/example/lehti/lehti/model/Variable;)V"⟩ : MethodName) prog_26_method_1_code 3 none :: ws) ({ frames := 2, cells := 0, slots := 0, locals := 24 } : Room)) (fun xa xU => xa = #[(.ref a), (.ref b), (.ref d)] ∧ Z.Warmed39 xU.vm ∧ xU.heap = h0) (fun _ _ _ _ _ => True) (fun _ xU xo xV => ∃ v L, xo = .returned v ∧ own_Q_own_einit Z a b d h0 n0 v xV.heap L ∧ FrameEnd xU xo xV L ({ frames := 2, cells := 0, slots := 0, locals := 24 } : Room).cells ({ frames := 2, cells := 0, slots := 0, locals := 24 } : Room).slots) := by
  refine MetFree.of_bodySF (plainFor_of_name own_pn928228083) hisR ?_
  intro p e s m args below meth c s₁ Bd hml0 hP hK
  obtain ⟨rfl, hZ, hh⟩ := hP
  have hx := Bd.exec
  have hby := Bd.bytes
  have hlk := Bd.notSynchronized
  have hret := Bd.returns
  have hml : c.maxLocals = 3 := hml0
  have hown : s.vm.findClass "com/example/lehti/lehti/model/Equality" = some m.cls := findClass_of_methodNamed Bd.named
  have hnm := (name_of_methodNamed Bd.named Bd.method).1
  have X0 : Stand p l e ({ frames := 2, cells := 0, slots := 0, locals := 24 } : Room) s m #[(.ref a), (.ref b), (.ref d)] below meth c s₁ [] 0 0 := Stand.of_body Bd
  have e0 : s₁.heap = h0 := by rw [← hh, Bd.state]; rfl
  have N0 := Fr.nil n0
  show own_Gl p e below s (own_Q_own_einit Z a b d h0 n0) ({ frames := 2, cells := 0, slots := 0, locals := 24 } : Room).cells ({ frames := 2, cells := 0, slots := 0, locals := 24 } : Room).slots _
  refine own_cast (own_ef_own_einit m a b d) ?_
  show own_Gl _ _ _ _ _ _ _ (s₁.setTop (mkF m 0 #[.val (.ref a), .val (.ref b), .val (.ref d)] []))
  refine own_st (fun _ k => XS.aloadN X0.here hx rfl (hb hby own_d_prog_26_method_1_code_0) rfl rfl k) ?_
  show own_Gl _ _ _ _ _ _ _ (s₁.setTop (mkF m 1 #[.val (.ref a), .val (.ref b), .val (.ref d)] [(.ref a)]))
  obtain ⟨_, _, ⟨T1, L1, k1, n1⟩, -, X1, ⟨Lc1, hQ1, l1, y1, z1⟩, st1⟩ := X0.specialBack hx (y := (⟨"java/lang/Record", "<init>", "()V"⟩ : MethodName)) rfl hown (mvT hZ (hw _ (List.mem_of_getElem? (i := 51) rfl))) (mvT hZ (hw _ (List.mem_of_getElem? (i := 38) rfl))) (mvT hZ (hw _ (List.mem_of_getElem? (i := 41) rfl))) (by decide) (backOf (W := 0) (own_rec l Z a0 hw [] a h0 n0 Z0 ) hZ (hw _ (List.mem_of_getElem? (i := 41) rfl)) (hw _ (List.mem_of_getElem? (i := 40) rfl)) (by decide) (by decide)) (g := (mkF m 1 #[.val (.ref a), .val (.ref b), .val (.ref d)] [(.ref a)])) rfl (by rw [hml]; rfl) (Steps.refl _) (a := a) (argsL := []) (rest := []) (lenOf own_pd691897 rfl) rfl (by show 2 * 0 + _ ≤ _; exact Nat.le_of_eq rfl) (hb hby own_d_prog_26_method_1_code_1) (fun _ _ => ⟨rfl, e0, (by decide : 0 + 0 ≤ ({ frames := 2, cells := 0, slots := 0, locals := 24 } : Room).cells), (by decide : 0 + 0 ≤ ({ frames := 2, cells := 0, slots := 0, locals := 24 } : Room).slots)⟩)
  dsimp only [Pt.U, Pt.locs, Pt.cells, Pt.slots] at X1 l1 y1 z1 st1 hQ1
  subst l1 y1 z1
  obtain ⟨hh1, eh01⟩ : ∃ z, T1.heap = z := ⟨_, rfl⟩
  rw [eh01] at hQ1
  obtain ⟨rfl, Nq1, eh1⟩ := hQ1
  have N1 := Fr.app N0 Nq1
  refine own_tr st1 ?_
  have e1 : T1.heap = h0 := eh01.trans eh1
  show own_Gl _ _ _ _ _ _ _ (T1.setTop (mkF m 4 #[.val (.ref a), .val (.ref b), .val (.ref d)] []))
  refine own_st (fun _ k => XS.aloadN X1.here hx rfl (hb hby own_d_prog_26_method_1_code_4) rfl rfl k) ?_
  show own_Gl _ _ _ _ _ _ _ (T1.setTop (mkF m 5 #[.val (.ref a), .val (.ref b), .val (.ref d)] [(.ref a)]))
  refine own_st (fun _ k => XS.aloadN X1.here hx rfl (hb hby own_d_prog_26_method_1_code_5) rfl rfl k) ?_
  show own_Gl _ _ _ _ _ _ _ (T1.setTop (mkF m 6 #[.val (.ref a), .val (.ref b), .val (.ref d)] [(.ref b), (.ref a)]))
  obtain ⟨T2, h2, X2, e2, W2, st2⟩ := putF X1 hx hZ hown (host := "") (Or.inl (hw _ (List.mem_of_getElem? (i := 52) rfl))) Via.refl e1 F_a_left E_a (Or.inr ⟨(hw _ (List.mem_of_getElem? (i := 53) rfl)), rfl, hnm⟩) (hw _ (List.mem_of_getElem? (i := 46) rfl)) (ty := (.object "com/example/lehti/lehti/model/Variable")) (by decide) rfl rfl (g := (mkF m 6 #[.val (.ref a), .val (.ref b), .val (.ref d)] [(.ref b), (.ref a)])) rfl rfl (hb hby own_d_prog_26_method_1_code_6)
  have N2 := Fr.snoc X2 N1 g_a
  refine own_st st2 ?_
  have Zs3 : n0 ≤ h2.size := Nat.le_trans Z0 (Keep.of_wr W2).1
  have Fw2 := F_a_left.same W2
  show own_Gl _ _ _ _ _ _ _ (T2.setTop (mkF m 9 #[.val (.ref a), .val (.ref b), .val (.ref d)] []))
  refine own_st (fun _ k => XS.aloadN X2.here hx rfl (hb hby own_d_prog_26_method_1_code_9) rfl rfl k) ?_
  show own_Gl _ _ _ _ _ _ _ (T2.setTop (mkF m 10 #[.val (.ref a), .val (.ref b), .val (.ref d)] [(.ref a)]))
  refine own_st (fun _ k => XS.aloadN X2.here hx rfl (hb hby own_d_prog_26_method_1_code_10) rfl rfl k) ?_
  show own_Gl _ _ _ _ _ _ _ (T2.setTop (mkF m 11 #[.val (.ref a), .val (.ref b), .val (.ref d)] [(.ref d), (.ref a)]))
  have f4 := (E_a.wr W2)
  have f5 := (F_a_right.other W2 (Or.inr (slot_ne (Or.inr (hw _ (List.mem_of_getElem? (i := 55) rfl))) (Or.inr (hw _ (List.mem_of_getElem? (i := 53) rfl))) (by decide) (t := (.object "com/example/lehti/lehti/model/Variable")) (t' := (.object "com/example/lehti/lehti/model/Variable")) (by decide) (by decide))))
  obtain ⟨T6, h6, X6, e6, W6, st6⟩ := putF X2 hx hZ hown (host := "") (Or.inl (hw _ (List.mem_of_getElem? (i := 54) rfl))) Via.refl e2 f5 f4 (Or.inr ⟨(hw _ (List.mem_of_getElem? (i := 55) rfl)), rfl, hnm⟩) (hw _ (List.mem_of_getElem? (i := 46) rfl)) (ty := (.object "com/example/lehti/lehti/model/Variable")) (by decide) rfl rfl (g := (mkF m 11 #[.val (.ref a), .val (.ref b), .val (.ref d)] [(.ref d), (.ref a)])) rfl rfl (hb hby own_d_prog_26_method_1_code_11)
  have N6 := Fr.snoc X6 N2 g_a
  refine own_st st6 ?_
  have Zs7 : n0 ≤ h6.size := Nat.le_trans Zs3 (Keep.of_wr W6).1
  have Fw6 := f5.same W6
  show own_Gl _ _ _ _ _ _ _ (T6.setTop (mkF m 14 #[.val (.ref a), .val (.ref b), .val (.ref d)] []))
  have K8 : Keep h0 h6 [a] := (((Keep.refl h0 [a]).wr W2 (Or.inl (List.mem_of_getElem? (i := 0) rfl))).wr W6 (Or.inl (List.mem_of_getElem? (i := 0) rfl)))
  have f9 := (Fw2.other W6 (Or.inr (slot_ne (Or.inr (hw _ (List.mem_of_getElem? (i := 53) rfl))) (Or.inr (hw _ (List.mem_of_getElem? (i := 55) rfl))) (by decide) (t := (.object "com/example/lehti/lehti/model/Variable")) (t' := (.object "com/example/lehti/lehti/model/Variable")) (by decide) (by decide))))
  exact own_retV X6 hx hlk hret (hb hby own_d_prog_26_method_1_code_14) e6 ⟨rfl, N6, K8, f9, Fw6⟩ (by decide) (by decide)
theorem own_d_jdk_31_method_10_code_0 : decode jdk_31_method_10_code 0 = .ok (.aload_n 0, 1) := by decide +kernel
theorem own_d_jdk_31_method_10_code_1 : decode jdk_31_method_10_code 1 = .ok (.ifnonnull 11, 3) := by decide +kernel
theorem own_d_jdk_31_method_10_code_12 : decode jdk_31_method_10_code 12 = .ok (.aload_n 0, 1) := by decide +kernel
theorem own_d_jdk_31_method_10_code_13 : decode jdk_31_method_10_code 13 = .ok (.areturn, 1) := by decide +kernel
theorem own_ef_own_rnn (m : MethodId) (x0 : Addr) : entryFrame m #[(.ref x0)] 1 = mkF m 0 #[.val (.ref x0)] [] := by first | (simp [entryFrame, mkF, argsToLocals, Value.category]; done) | rfl
def own_Q_own_rnn (Z : State) (a : Addr) (h0 : Heap) (n0 : Nat) (v : Option Value) (h : Heap) (L : List Loc) : Prop := (v = some (.ref a)) ∧ (Fr n0 L) ∧ (h = h0)
theorem own_pn398432930 : plainName "java/util/Objects" = true := by first | (simp [plainName, overriddenIn]; done) | decide +kernel
set_option maxRecDepth 65536 in
set_option maxHeartbeats 40000000 in
theorem own_rnn (l : Launch) (Z : State) (a0 : Array Value) (hw : ∀ d ∈ tables_1, d.before a0 Z = true) (ws : List Jvm.Cond) (a : Addr) (h0 : Heap) (n0 : Nat) (Z0 : n0 ≤ h0.size) :
    MetFree l (⟨"java/util/Objects", "requireNonNull", "(Ljava/lang/Object;)Ljava/lang/Object;"⟩ : MethodName) (head1 (Jvm.Cond.code (⟨"java/util/Objects", "requireNonNull", "(Ljava/lang/Object;)Ljava/lang/Object;"⟩ : MethodName) jdk_31_method_10_code 1 (some (.object "java/lang/Object")) :: ws) ({ frames := 0, cells := 0, slots := 0, locals := 0 } : Room)) (fun xa xU => xa = #[(.ref a)] ∧ Z.Warmed39 xU.vm ∧ xU.heap = h0) (fun _ _ _ _ _ => True) (fun _ xU xo xV => ∃ v L, xo = .returned v ∧ own_Q_own_rnn Z a h0 n0 v xV.heap L ∧ FrameEnd xU xo xV L ({ frames := 0, cells := 0, slots := 0, locals := 0 } : Room).cells ({ frames := 0, cells := 0, slots := 0, locals := 0 } : Room).slots) := by
  refine MetFree.of_bodySF (plainFor_of_name own_pn398432930) hisR ?_
  intro p e s m args below meth c s₁ Bd hml0 hP hK
  obtain ⟨rfl, hZ, hh⟩ := hP
  have hx := Bd.exec
  have hby := Bd.bytes
  have hlk := Bd.notSynchronized
  have hret := Bd.returns
  have hml : c.maxLocals = 1 := hml0
  have hown : s.vm.findClass "java/util/Objects" = some m.cls := findClass_of_methodNamed Bd.named
  have hnm := (name_of_methodNamed Bd.named Bd.method).1
  have X0 : Stand p l e ({ frames := 0, cells := 0, slots := 0, locals := 0 } : Room) s m #[(.ref a)] below meth c s₁ [] 0 0 := Stand.of_body Bd
  have e0 : s₁.heap = h0 := by rw [← hh, Bd.state]; rfl
  have N0 := Fr.nil n0
  show own_Gl p e below s (own_Q_own_rnn Z a h0 n0) ({ frames := 0, cells := 0, slots := 0, locals := 0 } : Room).cells ({ frames := 0, cells := 0, slots := 0, locals := 0 } : Room).slots _
  refine own_cast (own_ef_own_rnn m a) ?_
  show own_Gl _ _ _ _ _ _ _ (s₁.setTop (mkF m 0 #[.val (.ref a)] []))
  refine own_st (fun _ k => XS.aloadN X0.here hx rfl (hb hby own_d_jdk_31_method_10_code_0) rfl rfl k) ?_
  show own_Gl _ _ _ _ _ _ _ (s₁.setTop (mkF m 1 #[.val (.ref a)] [(.ref a)]))
  refine own_st (fun _ k => XS.ifnonnullYes X0.here hx rfl (pc0 := 1) (pc' := 12) rfl (hb hby own_d_jdk_31_method_10_code_1) rfl (by decide) (by decide) k) ?_
  show own_Gl _ _ _ _ _ _ _ (s₁.setTop (mkF m 12 #[.val (.ref a)] []))
  refine own_st (fun _ k => XS.aloadN X0.here hx rfl (hb hby own_d_jdk_31_method_10_code_12) rfl rfl k) ?_
  show own_Gl _ _ _ _ _ _ _ (s₁.setTop (mkF m 13 #[.val (.ref a)] [(.ref a)]))
  exact own_retA X0 hx hlk hret rfl rfl rfl (hb hby own_d_jdk_31_method_10_code_13) e0 ⟨rfl, N0, rfl⟩ (by decide) (by decide)
theorem own_d_jdk_44_method_2_code_0 : decode jdk_44_method_2_code 0 = .ok (.aload_n 0, 1) := by decide +kernel
theorem own_d_jdk_44_method_2_code_1 : decode jdk_44_method_2_code 1 = .ok (.invokespecial 1, 3) := by decide +kernel
theorem own_d_jdk_44_method_2_code_4 : decode jdk_44_method_2_code 4 = .ok (.aload_n 0, 1) := by decide +kernel
theorem own_d_jdk_44_method_2_code_5 : decode jdk_44_method_2_code 5 = .ok (.aload_n 1, 1) := by decide +kernel
theorem own_d_jdk_44_method_2_code_6 : decode jdk_44_method_2_code 6 = .ok (.invokestatic 7, 3) := by decide +kernel
theorem own_pd691331412 : parseMethodDescriptor "(Ljava/lang/Object;)Ljava/lang/Object;" = some ⟨[(.object "java/lang/Object")], some (.object "java/lang/Object")⟩ := by decide +kernel
theorem own_d_jdk_44_method_2_code_9 : decode jdk_44_method_2_code 9 = .ok (.putfield 13, 3) := by decide +kernel
theorem own_d_jdk_44_method_2_code_12 : decode jdk_44_method_2_code 12 = .ok (.aload_n 0, 1) := by decide +kernel
theorem own_d_jdk_44_method_2_code_13 : decode jdk_44_method_2_code 13 = .ok (.aload_n 2, 1) := by decide +kernel
theorem own_d_jdk_44_method_2_code_14 : decode jdk_44_method_2_code 14 = .ok (.invokestatic 7, 3) := by decide +kernel
theorem own_d_jdk_44_method_2_code_17 : decode jdk_44_method_2_code 17 = .ok (.putfield 24, 3) := by decide +kernel
theorem own_d_jdk_44_method_2_code_20 : decode jdk_44_method_2_code 20 = .ok (.return_, 1) := by decide +kernel
theorem own_ef_own_linit (m : MethodId) (x0 : Addr) (x1 : Addr) (x2 : Addr) : entryFrame m #[(.ref x0), (.ref x1), (.ref x2)] 3 = mkF m 0 #[.val (.ref x0), .val (.ref x1), .val (.ref x2)] [] := by first | (simp [entryFrame, mkF, argsToLocals, Value.category]; done) | rfl
def own_Q_own_linit (Z : State) (a : Addr) (b : Addr) (d : Addr) (h0 : Heap) (n0 : Nat) (v : Option Value) (h : Heap) (L : List Loc) : Prop := (v = none) ∧ (Fr n0 L) ∧ (Keep h0 h [a]) ∧ (Fld Z h a "java/util/ImmutableCollections$List12" "e0" "Ljava/lang/Object;" (.ref b)) ∧ (Fld Z h a "java/util/ImmutableCollections$List12" "e1" "Ljava/lang/Object;" (.ref d))
theorem own_pn477837105 : plainName "java/util/ImmutableCollections$List12" = true := by first | (simp [plainName, overriddenIn]; done) | decide +kernel
set_option maxRecDepth 65536 in
set_option maxHeartbeats 40000000 in
theorem own_linit (l : Launch) (Z : State) (a0 : Array Value) (hw : ∀ d ∈ tables_1, d.before a0 Z = true) (ws : List Jvm.Cond) (a : Addr) (b : Addr) (d : Addr) (h0 : Heap) (n0 : Nat) (Z0 : n0 ≤ h0.size) (E_a : Exa Z h0 a "java/util/ImmutableCollections$List12") (F_a_e0 : Fld Z h0 a "java/util/ImmutableCollections$List12" "e0" "Ljava/lang/Object;" .null) (F_a_e1 : Fld Z h0 a "java/util/ImmutableCollections$List12" "e1" "Ljava/lang/Object;" .null) (g_a : n0 ≤ a) :
    MetFree l (⟨"java/util/ImmutableCollections$List12", "<init>", "(Ljava/lang/Object;Ljava/lang/Object;)V"⟩ : MethodName) (head1 (Jvm.Cond.code (⟨"java/util/ImmutableCollections$List12", "<init>", "(Ljava/lang/Object;Ljava/lang/Object;)V"⟩ : MethodName) jdk_44_method_2_code 3 none :: ws) ({ frames := 4, cells := 0, slots := 0, locals := 48 } : Room)) (fun xa xU => xa = #[(.ref a), (.ref b), (.ref d)] ∧ Z.Warmed39 xU.vm ∧ xU.heap = h0) (fun _ _ _ _ _ => True) (fun _ xU xo xV => ∃ v L, xo = .returned v ∧ own_Q_own_linit Z a b d h0 n0 v xV.heap L ∧ FrameEnd xU xo xV L ({ frames := 4, cells := 0, slots := 0, locals := 48 } : Room).cells ({ frames := 4, cells := 0, slots := 0, locals := 48 } : Room).slots) := by
  refine MetFree.of_bodySF (plainFor_of_name own_pn477837105) hisR ?_
  intro p e s m args below meth c s₁ Bd hml0 hP hK
  obtain ⟨rfl, hZ, hh⟩ := hP
  have hx := Bd.exec
  have hby := Bd.bytes
  have hlk := Bd.notSynchronized
  have hret := Bd.returns
  have hml : c.maxLocals = 3 := hml0
  have hown : s.vm.findClass "java/util/ImmutableCollections$List12" = some m.cls := findClass_of_methodNamed Bd.named
  have hnm := (name_of_methodNamed Bd.named Bd.method).1
  have X0 : Stand p l e ({ frames := 4, cells := 0, slots := 0, locals := 48 } : Room) s m #[(.ref a), (.ref b), (.ref d)] below meth c s₁ [] 0 0 := Stand.of_body Bd
  have e0 : s₁.heap = h0 := by rw [← hh, Bd.state]; rfl
  have N0 := Fr.nil n0
  show own_Gl p e below s (own_Q_own_linit Z a b d h0 n0) ({ frames := 4, cells := 0, slots := 0, locals := 48 } : Room).cells ({ frames := 4, cells := 0, slots := 0, locals := 48 } : Room).slots _
  refine own_cast (own_ef_own_linit m a b d) ?_
  show own_Gl _ _ _ _ _ _ _ (s₁.setTop (mkF m 0 #[.val (.ref a), .val (.ref b), .val (.ref d)] []))
  refine own_st (fun _ k => XS.aloadN X0.here hx rfl (hb hby own_d_jdk_44_method_2_code_0) rfl rfl k) ?_
  show own_Gl _ _ _ _ _ _ _ (s₁.setTop (mkF m 1 #[.val (.ref a), .val (.ref b), .val (.ref d)] [(.ref a)]))
  obtain ⟨_, _, ⟨T1, L1, k1, n1⟩, -, X1, ⟨Lc1, hQ1, l1, y1, z1⟩, st1⟩ := X0.specialBack hx (y := (⟨"java/util/ImmutableCollections$AbstractImmutableList", "<init>", "()V"⟩ : MethodName)) rfl hown (mvT hZ (hw _ (List.mem_of_getElem? (i := 72) rfl))) (mvT hZ (hw _ (List.mem_of_getElem? (i := 73) rfl))) (mvT hZ (hw _ (List.mem_of_getElem? (i := 77) rfl))) (by decide) (backOf (W := 0) (own_ail l Z a0 hw [] a h0 n0 Z0 ) hZ (hw _ (List.mem_of_getElem? (i := 77) rfl)) (hw _ (List.mem_of_getElem? (i := 76) rfl)) (by decide) (by decide)) (g := (mkF m 1 #[.val (.ref a), .val (.ref b), .val (.ref d)] [(.ref a)])) rfl (by rw [hml]; rfl) (Steps.refl _) (a := a) (argsL := []) (rest := []) (lenOf own_pd691897 rfl) rfl (by show 2 * 0 + _ ≤ _; exact Nat.le_of_eq rfl) (hb hby own_d_jdk_44_method_2_code_1) (fun _ _ => ⟨rfl, e0, (by decide : 0 + 0 ≤ ({ frames := 4, cells := 0, slots := 0, locals := 48 } : Room).cells), (by decide : 0 + 0 ≤ ({ frames := 4, cells := 0, slots := 0, locals := 48 } : Room).slots)⟩)
  dsimp only [Pt.U, Pt.locs, Pt.cells, Pt.slots] at X1 l1 y1 z1 st1 hQ1
  subst l1 y1 z1
  obtain ⟨hh1, eh01⟩ : ∃ z, T1.heap = z := ⟨_, rfl⟩
  rw [eh01] at hQ1
  obtain ⟨rfl, Nq1, eh1⟩ := hQ1
  have N1 := Fr.app N0 Nq1
  refine own_tr st1 ?_
  have e1 : T1.heap = h0 := eh01.trans eh1
  show own_Gl _ _ _ _ _ _ _ (T1.setTop (mkF m 4 #[.val (.ref a), .val (.ref b), .val (.ref d)] []))
  refine own_st (fun _ k => XS.aloadN X1.here hx rfl (hb hby own_d_jdk_44_method_2_code_4) rfl rfl k) ?_
  show own_Gl _ _ _ _ _ _ _ (T1.setTop (mkF m 5 #[.val (.ref a), .val (.ref b), .val (.ref d)] [(.ref a)]))
  refine own_st (fun _ k => XS.aloadN X1.here hx rfl (hb hby own_d_jdk_44_method_2_code_5) rfl rfl k) ?_
  show own_Gl _ _ _ _ _ _ _ (T1.setTop (mkF m 6 #[.val (.ref a), .val (.ref b), .val (.ref d)] [(.ref b), (.ref a)]))
  obtain ⟨_, _, ⟨T2, L2, k2, n2⟩, -, X2, ⟨Lc2, hQ2, l2, y2, z2⟩, st2⟩ := Jvm.LawKit.callS X1 hx (y := (⟨"java/util/Objects", "requireNonNull", "(Ljava/lang/Object;)Ljava/lang/Object;"⟩ : MethodName)) hown (mvT hZ (hw _ (List.mem_of_getElem? (i := 91) rfl))) (mvT hZ (hw _ (List.mem_of_getElem? (i := 92) rfl))) (mvT hZ (hw _ (List.mem_of_getElem? (i := 93) rfl))) (mvT hZ (hw _ (List.mem_of_getElem? (i := 94) rfl))) (by decide) (backOf (W := 1) (own_rnn l Z a0 hw [] b h0 n0 Z0 ) hZ (hw _ (List.mem_of_getElem? (i := 94) rfl)) (hw _ (List.mem_of_getElem? (i := 93) rfl)) (by decide) (by decide)) (g := (mkF m 6 #[.val (.ref a), .val (.ref b), .val (.ref d)] [(.ref b), (.ref a)])) rfl (by rw [hml]; rfl) (argsL := [(.ref b)]) (rest := [(.ref a)]) (lenOf own_pd691331412 rfl) rfl (by show 2 * 0 + _ ≤ _; exact Nat.le_of_eq rfl) (hb hby own_d_jdk_44_method_2_code_6) (fun _ _ => ⟨rfl, e1, (by decide : 0 + 0 ≤ ({ frames := 4, cells := 0, slots := 0, locals := 48 } : Room).cells), (by decide : 0 + 0 ≤ ({ frames := 4, cells := 0, slots := 0, locals := 48 } : Room).slots)⟩)
  dsimp only [Pt.U, Pt.locs, Pt.cells, Pt.slots] at X2 l2 y2 z2 st2 hQ2
  subst l2 y2 z2
  obtain ⟨hh2, eh02⟩ : ∃ z, T2.heap = z := ⟨_, rfl⟩
  rw [eh02] at hQ2
  obtain ⟨rfl, Nq2, eh2⟩ := hQ2
  have N2 := Fr.app N1 Nq2
  refine own_st st2 ?_
  have e2 : T2.heap = h0 := eh02.trans eh2
  show own_Gl _ _ _ _ _ _ _ (T2.setTop (mkF m 9 #[.val (.ref a), .val (.ref b), .val (.ref d)] [(.ref b), (.ref a)]))
  obtain ⟨T3, h3, X3, e3, W3, st3⟩ := putF X2 hx hZ hown (host := "") (Or.inl (hw _ (List.mem_of_getElem? (i := 95) rfl))) Via.refl e2 F_a_e0 E_a (Or.inr ⟨(hw _ (List.mem_of_getElem? (i := 96) rfl)), rfl, hnm⟩) (hw _ (List.mem_of_getElem? (i := 66) rfl)) (ty := (.object "java/lang/Object")) (by decide) rfl rfl (g := (mkF m 9 #[.val (.ref a), .val (.ref b), .val (.ref d)] [(.ref b), (.ref a)])) rfl rfl (hb hby own_d_jdk_44_method_2_code_9)
  have N3 := Fr.snoc X3 N2 g_a
  refine own_st st3 ?_
  have Zs4 : n0 ≤ h3.size := Nat.le_trans Z0 (Keep.of_wr W3).1
  have Fw3 := F_a_e0.same W3
  show own_Gl _ _ _ _ _ _ _ (T3.setTop (mkF m 12 #[.val (.ref a), .val (.ref b), .val (.ref d)] []))
  refine own_st (fun _ k => XS.aloadN X3.here hx rfl (hb hby own_d_jdk_44_method_2_code_12) rfl rfl k) ?_
  show own_Gl _ _ _ _ _ _ _ (T3.setTop (mkF m 13 #[.val (.ref a), .val (.ref b), .val (.ref d)] [(.ref a)]))
  refine own_st (fun _ k => XS.aloadN X3.here hx rfl (hb hby own_d_jdk_44_method_2_code_13) rfl rfl k) ?_
  show own_Gl _ _ _ _ _ _ _ (T3.setTop (mkF m 14 #[.val (.ref a), .val (.ref b), .val (.ref d)] [(.ref d), (.ref a)]))
  have f6 := (E_a.wr W3)
  obtain ⟨_, _, ⟨T5, L5, k5, n5⟩, -, X5, ⟨Lc5, hQ5, l5, y5, z5⟩, st5⟩ := Jvm.LawKit.callS X3 hx (y := (⟨"java/util/Objects", "requireNonNull", "(Ljava/lang/Object;)Ljava/lang/Object;"⟩ : MethodName)) hown (mvT hZ (hw _ (List.mem_of_getElem? (i := 91) rfl))) (mvT hZ (hw _ (List.mem_of_getElem? (i := 92) rfl))) (mvT hZ (hw _ (List.mem_of_getElem? (i := 93) rfl))) (mvT hZ (hw _ (List.mem_of_getElem? (i := 94) rfl))) (by decide) (backOf (W := 1) (own_rnn l Z a0 hw [] d h3 n0 Zs4 ) hZ (hw _ (List.mem_of_getElem? (i := 94) rfl)) (hw _ (List.mem_of_getElem? (i := 93) rfl)) (by decide) (by decide)) (g := (mkF m 14 #[.val (.ref a), .val (.ref b), .val (.ref d)] [(.ref d), (.ref a)])) rfl (by rw [hml]; rfl) (argsL := [(.ref d)]) (rest := [(.ref a)]) (lenOf own_pd691331412 rfl) rfl (by show 2 * 0 + _ ≤ _; exact Nat.le_of_eq rfl) (hb hby own_d_jdk_44_method_2_code_14) (fun _ _ => ⟨rfl, e3, (by decide : 0 + 0 ≤ ({ frames := 4, cells := 0, slots := 0, locals := 48 } : Room).cells), (by decide : 0 + 0 ≤ ({ frames := 4, cells := 0, slots := 0, locals := 48 } : Room).slots)⟩)
  dsimp only [Pt.U, Pt.locs, Pt.cells, Pt.slots] at X5 l5 y5 z5 st5 hQ5
  subst l5 y5 z5
  obtain ⟨hh5, eh05⟩ : ∃ z, T5.heap = z := ⟨_, rfl⟩
  rw [eh05] at hQ5
  obtain ⟨rfl, Nq5, eh5⟩ := hQ5
  have N5 := Fr.app N3 Nq5
  refine own_st st5 ?_
  have e5 : T5.heap = h3 := eh05.trans eh5
  show own_Gl _ _ _ _ _ _ _ (T5.setTop (mkF m 17 #[.val (.ref a), .val (.ref b), .val (.ref d)] [(.ref d), (.ref a)]))
  have f7 := (F_a_e1.other W3 (Or.inr (slot_ne (Or.inr (hw _ (List.mem_of_getElem? (i := 98) rfl))) (Or.inr (hw _ (List.mem_of_getElem? (i := 96) rfl))) (by decide) (t := (.object "java/lang/Object")) (t' := (.object "java/lang/Object")) (by decide) (by decide))))
  obtain ⟨T8, h8, X8, e8, W8, st8⟩ := putF X5 hx hZ hown (host := "") (Or.inl (hw _ (List.mem_of_getElem? (i := 97) rfl))) Via.refl e5 f7 f6 (Or.inr ⟨(hw _ (List.mem_of_getElem? (i := 98) rfl)), rfl, hnm⟩) (hw _ (List.mem_of_getElem? (i := 66) rfl)) (ty := (.object "java/lang/Object")) (by decide) rfl rfl (g := (mkF m 17 #[.val (.ref a), .val (.ref b), .val (.ref d)] [(.ref d), (.ref a)])) rfl rfl (hb hby own_d_jdk_44_method_2_code_17)
  have N8 := Fr.snoc X8 N5 g_a
  refine own_st st8 ?_
  have Zs9 : n0 ≤ h8.size := Nat.le_trans Zs4 (Keep.of_wr W8).1
  have Fw8 := f7.same W8
  show own_Gl _ _ _ _ _ _ _ (T8.setTop (mkF m 20 #[.val (.ref a), .val (.ref b), .val (.ref d)] []))
  have K10 : Keep h0 h8 [a] := (((Keep.refl h0 [a]).wr W3 (Or.inl (List.mem_of_getElem? (i := 0) rfl))).wr W8 (Or.inl (List.mem_of_getElem? (i := 0) rfl)))
  have f11 := (Fw3.other W8 (Or.inr (slot_ne (Or.inr (hw _ (List.mem_of_getElem? (i := 96) rfl))) (Or.inr (hw _ (List.mem_of_getElem? (i := 98) rfl))) (by decide) (t := (.object "java/lang/Object")) (t' := (.object "java/lang/Object")) (by decide) (by decide))))
  exact own_retV X8 hx hlk hret (hb hby own_d_jdk_44_method_2_code_20) e8 ⟨rfl, N8, K10, f11, Fw8⟩ (by decide) (by decide)
theorem own_d_jdk_40_method_38_code_0 : decode jdk_40_method_38_code 0 = .ok (.new 96, 3) := by decide +kernel
theorem own_d_jdk_40_method_38_code_3 : decode jdk_40_method_38_code 3 = .ok (.dup, 1) := by decide +kernel
theorem own_d_jdk_40_method_38_code_4 : decode jdk_40_method_38_code 4 = .ok (.aload_n 0, 1) := by decide +kernel
theorem own_d_jdk_40_method_38_code_5 : decode jdk_40_method_38_code 5 = .ok (.aload_n 1, 1) := by decide +kernel
theorem own_d_jdk_40_method_38_code_6 : decode jdk_40_method_38_code 6 = .ok (.invokespecial 100, 3) := by decide +kernel
theorem own_pd883331224 : parseMethodDescriptor "(Ljava/lang/Object;Ljava/lang/Object;)V" = some ⟨[(.object "java/lang/Object"), (.object "java/lang/Object")], none⟩ := by decide +kernel
theorem own_d_jdk_40_method_38_code_9 : decode jdk_40_method_38_code 9 = .ok (.areturn, 1) := by decide +kernel
theorem own_ef_own_of (m : MethodId) (x0 : Addr) (x1 : Addr) : entryFrame m #[(.ref x0), (.ref x1)] 2 = mkF m 0 #[.val (.ref x0), .val (.ref x1)] [] := by first | (simp [entryFrame, mkF, argsToLocals, Value.category]; done) | rfl
def own_Q_own_of (Z : State) (b : Addr) (d : Addr) (h0 : Heap) (n0 : Nat) (v : Option Value) (h : Heap) (L : List Loc) : Prop := ∃ (r : Addr), (v = some (.ref r)) ∧ (Fr n0 L) ∧ (Keep h0 h []) ∧ (n0 ≤ r) ∧ (h0.size ≤ r) ∧ (Exa Z h r "java/util/ImmutableCollections$List12") ∧ (Fld Z h r "java/util/ImmutableCollections$List12" "e0" "Ljava/lang/Object;" (.ref b)) ∧ (Fld Z h r "java/util/ImmutableCollections$List12" "e1" "Ljava/lang/Object;" (.ref d))
theorem own_pn384211904 : plainName "java/util/List" = true := by first | (simp [plainName, overriddenIn]; done) | decide +kernel
set_option maxRecDepth 65536 in
set_option maxHeartbeats 40000000 in
theorem own_of (l : Launch) (Z : State) (a0 : Array Value) (hw : ∀ d ∈ tables_1, d.before a0 Z = true) (ws : List Jvm.Cond) (b : Addr) (d : Addr) (h0 : Heap) (n0 : Nat) (Z0 : n0 ≤ h0.size) :
    MetFree l (⟨"java/util/List", "of", "(Ljava/lang/Object;Ljava/lang/Object;)Ljava/util/List;"⟩ : MethodName) (head1 (Jvm.Cond.code (⟨"java/util/List", "of", "(Ljava/lang/Object;Ljava/lang/Object;)Ljava/util/List;"⟩ : MethodName) jdk_40_method_38_code 2 (some (.object "java/util/List")) :: ws) ({ frames := 5, cells := 1, slots := 2, locals := 63 } : Room)) (fun xa xU => xa = #[(.ref b), (.ref d)] ∧ Z.Warmed39 xU.vm ∧ xU.heap = h0) (fun _ _ _ _ _ => True) (fun _ xU xo xV => ∃ v L, xo = .returned v ∧ own_Q_own_of Z b d h0 n0 v xV.heap L ∧ FrameEnd xU xo xV L ({ frames := 5, cells := 1, slots := 2, locals := 63 } : Room).cells ({ frames := 5, cells := 1, slots := 2, locals := 63 } : Room).slots) := by
  refine MetFree.of_bodySF (plainFor_of_name own_pn384211904) hisR ?_
  intro p e s m args below meth c s₁ Bd hml0 hP hK
  obtain ⟨rfl, hZ, hh⟩ := hP
  have hx := Bd.exec
  have hby := Bd.bytes
  have hlk := Bd.notSynchronized
  have hret := Bd.returns
  have hml : c.maxLocals = 2 := hml0
  have hown : s.vm.findClass "java/util/List" = some m.cls := findClass_of_methodNamed Bd.named
  have hnm := (name_of_methodNamed Bd.named Bd.method).1
  have X0 : Stand p l e ({ frames := 5, cells := 1, slots := 2, locals := 63 } : Room) s m #[(.ref b), (.ref d)] below meth c s₁ [] 0 0 := Stand.of_body Bd
  have e0 : s₁.heap = h0 := by rw [← hh, Bd.state]; rfl
  have N0 := Fr.nil n0
  show own_Gl p e below s (own_Q_own_of Z b d h0 n0) ({ frames := 5, cells := 1, slots := 2, locals := 63 } : Room).cells ({ frames := 5, cells := 1, slots := 2, locals := 63 } : Room).slots _
  refine own_cast (own_ef_own_of m b d) ?_
  show own_Gl _ _ _ _ _ _ _ (s₁.setTop (mkF m 0 #[.val (.ref b), .val (.ref d)] []))
  obtain ⟨T1, h1, X1, e1, E1, A1, D1, -, st1⟩ := newO X0 hx hZ hown (hw _ (List.mem_of_getElem? (i := 65) rfl)) (hw _ (List.mem_of_getElem? (i := 66) rfl)) (hw _ (List.mem_of_getElem? (i := 67) rfl)) e0 (g := (mkF m 0 #[.val (.ref b), .val (.ref d)] [])) rfl (hb hby own_d_jdk_40_method_38_code_0) (by decide) (by decide)
  obtain ⟨b1, gb1⟩ : ∃ z, z = h0.size := ⟨_, rfl⟩
  rw [← gb1] at A1 D1 st1
  refine own_st st1 ?_
  have Zs2 : n0 ≤ h1.size := Nat.le_trans Z0 E1.1
  have g_b1 : n0 ≤ b1 := Nat.le_trans Z0 (Nat.le_of_eq gb1.symm)
  have gh_b1 : h0.size ≤ b1 := Nat.le_trans (Keep.refl h0 []).1 (Nat.le_of_eq gb1.symm)
  have F_e0_b1 : Fld Z h1 b1 "java/util/ImmutableCollections$List12" "e0" "Ljava/lang/Object;" .null := D1 (Or.inr (hw _ (List.mem_of_getElem? (i := 96) rfl))) (ty := (.object "java/lang/Object")) (by decide)
  have F_e1_b1 : Fld Z h1 b1 "java/util/ImmutableCollections$List12" "e1" "Ljava/lang/Object;" .null := D1 (Or.inr (hw _ (List.mem_of_getElem? (i := 98) rfl))) (ty := (.object "java/lang/Object")) (by decide)
  show own_Gl _ _ _ _ _ _ _ (T1.setTop (mkF m 3 #[.val (.ref b), .val (.ref d)] [(.ref b1)]))
  refine own_st (fun _ k => XS.dup X1.here hx rfl (hb hby own_d_jdk_40_method_38_code_3) rfl rfl k) ?_
  show own_Gl _ _ _ _ _ _ _ (T1.setTop (mkF m 4 #[.val (.ref b), .val (.ref d)] [(.ref b1), (.ref b1)]))
  refine own_st (fun _ k => XS.aloadN X1.here hx rfl (hb hby own_d_jdk_40_method_38_code_4) rfl rfl k) ?_
  show own_Gl _ _ _ _ _ _ _ (T1.setTop (mkF m 5 #[.val (.ref b), .val (.ref d)] [(.ref b), (.ref b1), (.ref b1)]))
  refine own_st (fun _ k => XS.aloadN X1.here hx rfl (hb hby own_d_jdk_40_method_38_code_5) rfl rfl k) ?_
  show own_Gl _ _ _ _ _ _ _ (T1.setTop (mkF m 6 #[.val (.ref b), .val (.ref d)] [(.ref d), (.ref b), (.ref b1), (.ref b1)]))
  obtain ⟨_, _, ⟨T4, L4, k4, n4⟩, -, X4, ⟨Lc4, hQ4, l4, y4, z4⟩, st4⟩ := X1.specialBack hx (y := (⟨"java/util/ImmutableCollections$List12", "<init>", "(Ljava/lang/Object;Ljava/lang/Object;)V"⟩ : MethodName)) rfl hown (mvT hZ (hw _ (List.mem_of_getElem? (i := 68) rfl))) (mvT hZ (hw _ (List.mem_of_getElem? (i := 69) rfl))) (mvT hZ (hw _ (List.mem_of_getElem? (i := 71) rfl))) (by decide) (backOf (W := 1) (own_linit l Z a0 hw [] b1 b d h1 n0 Zs2 A1 F_e0_b1 F_e1_b1 g_b1) hZ (hw _ (List.mem_of_getElem? (i := 71) rfl)) (hw _ (List.mem_of_getElem? (i := 67) rfl)) (by decide) (by decide)) (g := (mkF m 6 #[.val (.ref b), .val (.ref d)] [(.ref d), (.ref b), (.ref b1), (.ref b1)])) rfl (by rw [hml]; rfl) (Steps.refl _) (a := b1) (argsL := [(.ref b), (.ref d)]) (rest := [(.ref b1)]) (lenOf own_pd883331224 rfl) rfl (by show 2 * 0 + _ ≤ _; exact Nat.le_of_eq rfl) (hb hby own_d_jdk_40_method_38_code_6) (fun _ _ => ⟨rfl, e1, (by decide : 1 + 0 ≤ ({ frames := 5, cells := 1, slots := 2, locals := 63 } : Room).cells), (by decide : 2 + 0 ≤ ({ frames := 5, cells := 1, slots := 2, locals := 63 } : Room).slots)⟩)
  dsimp only [Pt.U, Pt.locs, Pt.cells, Pt.slots] at X4 l4 y4 z4 st4 hQ4
  subst l4 y4 z4
  obtain ⟨hh4, eh04⟩ : ∃ z, T4.heap = z := ⟨_, rfl⟩
  rw [eh04] at hQ4
  obtain ⟨rfl, Nq4, Kq4, P4_0, P4_1⟩ := hQ4
  have N4 := Fr.app N0 Nq4
  refine own_tr st4 ?_
  have Zs5 : n0 ≤ hh4.size := Nat.le_trans Zs2 Kq4.1
  show own_Gl _ _ _ _ _ _ _ (T4.setTop (mkF m 9 #[.val (.ref b), .val (.ref d)] [(.ref b1)]))
  have K6 : Keep h0 hh4 [] := (((Keep.refl h0 []).ext E1).trans Kq4 (allS (Or.inr gh_b1) all0))
  have f7 := (A1.keep Kq4)
  exact own_retA X4 hx hlk hret rfl rfl rfl (hb hby own_d_jdk_40_method_38_code_9) eh04 ⟨b1, rfl, N4, K6, g_b1, gh_b1, f7, P4_0, P4_1⟩ (by decide) (by decide)
theorem own_d_prog_26_method_2_code_0 : decode prog_26_method_2_code 0 = .ok (.aload_n 0, 1) := by decide +kernel
theorem own_d_prog_26_method_2_code_1 : decode prog_26_method_2_code 1 = .ok (.getfield 7, 3) := by decide +kernel
theorem own_d_prog_26_method_2_code_4 : decode prog_26_method_2_code 4 = .ok (.aload_n 0, 1) := by decide +kernel
theorem own_d_prog_26_method_2_code_5 : decode prog_26_method_2_code 5 = .ok (.getfield 13, 3) := by decide +kernel
theorem own_d_prog_26_method_2_code_8 : decode prog_26_method_2_code 8 = .ok (.invokestatic 16, 3) := by decide +kernel
theorem own_pd569157861 : parseMethodDescriptor "(Ljava/lang/Object;Ljava/lang/Object;)Ljava/util/List;" = some ⟨[(.object "java/lang/Object"), (.object "java/lang/Object")], some (.object "java/util/List")⟩ := by decide +kernel
theorem own_d_prog_26_method_2_code_11 : decode prog_26_method_2_code 11 = .ok (.areturn, 1) := by decide +kernel
theorem own_ef_own_vars (m : MethodId) (x0 : Addr) : entryFrame m #[(.ref x0)] 1 = mkF m 0 #[.val (.ref x0)] [] := by first | (simp [entryFrame, mkF, argsToLocals, Value.category]; done) | rfl
def own_Q_own_vars (Z : State) (a : Addr) (b : Addr) (d : Addr) (h0 : Heap) (n0 : Nat) (v : Option Value) (h : Heap) (L : List Loc) : Prop := ∃ (r : Addr), (v = some (.ref r)) ∧ (Fr n0 L) ∧ (Keep h0 h []) ∧ (n0 ≤ r) ∧ (h0.size ≤ r) ∧ (Exa Z h r "java/util/ImmutableCollections$List12") ∧ (Fld Z h r "java/util/ImmutableCollections$List12" "e0" "Ljava/lang/Object;" (.ref b)) ∧ (Fld Z h r "java/util/ImmutableCollections$List12" "e1" "Ljava/lang/Object;" (.ref d))
set_option maxRecDepth 65536 in
set_option maxHeartbeats 40000000 in
theorem own_vars (l : Launch) (Z : State) (a0 : Array Value) (hw : ∀ d ∈ tables_1, d.before a0 Z = true) (ws : List Jvm.Cond) (a : Addr) (b : Addr) (d : Addr) (h0 : Heap) (n0 : Nat) (Z0 : n0 ≤ h0.size) (F_a_left : Fld Z h0 a "com/example/lehti/lehti/model/Equality" "left" "Lcom/example/lehti/lehti/model/Variable;" (.ref b)) (F_a_right : Fld Z h0 a "com/example/lehti/lehti/model/Equality" "right" "Lcom/example/lehti/lehti/model/Variable;" (.ref d)) :
    MetFree l (⟨"com/example/lehti/lehti/model/Equality", "variables", "()Ljava/util/List;"⟩ : MethodName) (head1 (Jvm.Cond.code (⟨"com/example/lehti/lehti/model/Equality", "variables", "()Ljava/util/List;"⟩ : MethodName) prog_26_method_2_code 1 (some (.object "java/util/List")) :: ws) ({ frames := 6, cells := 1, slots := 2, locals := 76 } : Room)) (fun xa xU => xa = #[(.ref a)] ∧ Z.Warmed39 xU.vm ∧ xU.heap = h0) (fun _ _ _ _ _ => True) (fun _ xU xo xV => ∃ v L, xo = .returned v ∧ own_Q_own_vars Z a b d h0 n0 v xV.heap L ∧ FrameEnd xU xo xV L ({ frames := 6, cells := 1, slots := 2, locals := 76 } : Room).cells ({ frames := 6, cells := 1, slots := 2, locals := 76 } : Room).slots) := by
  refine MetFree.of_bodySF (plainFor_of_name own_pn928228083) hisR ?_
  intro p e s m args below meth c s₁ Bd hml0 hP hK
  obtain ⟨rfl, hZ, hh⟩ := hP
  have hx := Bd.exec
  have hby := Bd.bytes
  have hlk := Bd.notSynchronized
  have hret := Bd.returns
  have hml : c.maxLocals = 1 := hml0
  have hown : s.vm.findClass "com/example/lehti/lehti/model/Equality" = some m.cls := findClass_of_methodNamed Bd.named
  have hnm := (name_of_methodNamed Bd.named Bd.method).1
  have X0 : Stand p l e ({ frames := 6, cells := 1, slots := 2, locals := 76 } : Room) s m #[(.ref a)] below meth c s₁ [] 0 0 := Stand.of_body Bd
  have e0 : s₁.heap = h0 := by rw [← hh, Bd.state]; rfl
  have N0 := Fr.nil n0
  show own_Gl p e below s (own_Q_own_vars Z a b d h0 n0) ({ frames := 6, cells := 1, slots := 2, locals := 76 } : Room).cells ({ frames := 6, cells := 1, slots := 2, locals := 76 } : Room).slots _
  refine own_cast (own_ef_own_vars m a) ?_
  show own_Gl _ _ _ _ _ _ _ (s₁.setTop (mkF m 0 #[.val (.ref a)] []))
  refine own_st (fun _ k => XS.aloadN X0.here hx rfl (hb hby own_d_prog_26_method_2_code_0) rfl rfl k) ?_
  show own_Gl _ _ _ _ _ _ _ (s₁.setTop (mkF m 1 #[.val (.ref a)] [(.ref a)]))
  obtain ⟨T1, X1, e1, st1⟩ := getF X0 hx hZ hown (host := "") (Or.inl (hw _ (List.mem_of_getElem? (i := 52) rfl))) Via.refl e0 F_a_left (g := (mkF m 1 #[.val (.ref a)] [(.ref a)])) rfl rfl (hb hby own_d_prog_26_method_2_code_1)
  refine own_st st1 ?_
  show own_Gl _ _ _ _ _ _ _ (T1.setTop (mkF m 4 #[.val (.ref a)] [(.ref b)]))
  refine own_st (fun _ k => XS.aloadN X1.here hx rfl (hb hby own_d_prog_26_method_2_code_4) rfl rfl k) ?_
  show own_Gl _ _ _ _ _ _ _ (T1.setTop (mkF m 5 #[.val (.ref a)] [(.ref a), (.ref b)]))
  obtain ⟨T2, X2, e2, st2⟩ := getF X1 hx hZ hown (host := "") (Or.inl (hw _ (List.mem_of_getElem? (i := 54) rfl))) Via.refl e1 F_a_right (g := (mkF m 5 #[.val (.ref a)] [(.ref a), (.ref b)])) rfl rfl (hb hby own_d_prog_26_method_2_code_5)
  refine own_st st2 ?_
  show own_Gl _ _ _ _ _ _ _ (T2.setTop (mkF m 8 #[.val (.ref a)] [(.ref d), (.ref b)]))
  obtain ⟨_, _, ⟨T3, L3, k3, n3⟩, -, X3, ⟨Lc3, hQ3, l3, y3, z3⟩, st3⟩ := Jvm.LawKit.callS X2 hx (y := (⟨"java/util/List", "of", "(Ljava/lang/Object;Ljava/lang/Object;)Ljava/util/List;"⟩ : MethodName)) hown (mvT hZ (hw _ (List.mem_of_getElem? (i := 61) rfl))) (mvT hZ (hw _ (List.mem_of_getElem? (i := 62) rfl))) (mvT hZ (hw _ (List.mem_of_getElem? (i := 63) rfl))) (mvT hZ (hw _ (List.mem_of_getElem? (i := 64) rfl))) (by decide) (backOf (W := 0) (own_of l Z a0 hw [] b d h0 n0 Z0 ) hZ (hw _ (List.mem_of_getElem? (i := 64) rfl)) (hw _ (List.mem_of_getElem? (i := 63) rfl)) (by decide) (by decide)) (g := (mkF m 8 #[.val (.ref a)] [(.ref d), (.ref b)])) rfl (by rw [hml]; rfl) (argsL := [(.ref b), (.ref d)]) (rest := []) (lenOf own_pd569157861 rfl) rfl (by show 2 * 0 + _ ≤ _; exact Nat.le_of_eq rfl) (hb hby own_d_prog_26_method_2_code_8) (fun _ _ => ⟨rfl, e2, (by decide : 0 + 1 ≤ ({ frames := 6, cells := 1, slots := 2, locals := 76 } : Room).cells), (by decide : 0 + 2 ≤ ({ frames := 6, cells := 1, slots := 2, locals := 76 } : Room).slots)⟩)
  dsimp only [Pt.U, Pt.locs, Pt.cells, Pt.slots] at X3 l3 y3 z3 st3 hQ3
  subst l3 y3 z3
  obtain ⟨hh3, eh03⟩ : ∃ z, T3.heap = z := ⟨_, rfl⟩
  rw [eh03] at hQ3
  obtain ⟨r_3, rfl, Nq3, Kq3, P3_0, P3_1, P3_2, P3_3, P3_4⟩ := hQ3
  have N3 := Fr.app N0 Nq3
  refine own_st st3 ?_
  have Zs4 : n0 ≤ hh3.size := Nat.le_trans Z0 Kq3.1
  have gh_r_3 : h0.size ≤ r_3 := Nat.le_trans (Keep.refl h0 []).1 P3_1
  have ne_a_r_3 : a ≠ r_3 := Nat.ne_of_lt (Nat.lt_of_lt_of_le F_a_left.lt P3_1)
  show own_Gl _ _ _ _ _ _ _ (T3.setTop (mkF m 11 #[.val (.ref a)] [(.ref r_3)]))
  have K5 : Keep h0 hh3 [] := ((Keep.refl h0 []).trans Kq3 all0)
  exact own_retA X3 hx hlk hret rfl rfl rfl (hb hby own_d_prog_26_method_2_code_11) eh03 ⟨r_3, rfl, N3, K5, P3_0, gh_r_3, P3_2, P3_3, P3_4⟩ (by decide) (by decide)
theorem own_d_jdk_44_method_3_code_0 : decode jdk_44_method_3_code 0 = .ok (.aload_n 0, 1) := by decide +kernel
theorem own_d_jdk_44_method_3_code_1 : decode jdk_44_method_3_code 1 = .ok (.getfield 24, 3) := by decide +kernel
theorem own_d_jdk_44_method_3_code_4 : decode jdk_44_method_3_code 4 = .ok (.getstatic 19, 3) := by decide +kernel
theorem own_d_jdk_44_method_3_code_7 : decode jdk_44_method_3_code 7 = .ok (.if_acmp .eq 7, 3) := by decide +kernel
theorem own_d_jdk_44_method_3_code_10 : decode jdk_44_method_3_code 10 = .ok (.iconst 2, 1) := by decide +kernel
theorem own_d_jdk_44_method_3_code_11 : decode jdk_44_method_3_code 11 = .ok (.goto 4, 3) := by decide +kernel
theorem own_d_jdk_44_method_3_code_15 : decode jdk_44_method_3_code 15 = .ok (.ireturn, 1) := by decide +kernel
theorem own_ef_own_size (m : MethodId) (x0 : Addr) : entryFrame m #[(.ref x0)] 1 = mkF m 0 #[.val (.ref x0)] [] := by first | (simp [entryFrame, mkF, argsToLocals, Value.category]; done) | rfl
def own_Q_own_size (Z : State) (a : Addr) (d : Addr) (em : Addr) (h0 : Heap) (n0 : Nat) (v : Option Value) (h : Heap) (L : List Loc) : Prop := (v = some (.int (2 : Int32))) ∧ (Fr n0 L) ∧ (h = h0)
set_option maxRecDepth 65536 in
set_option maxHeartbeats 40000000 in
theorem own_size (l : Launch) (Z : State) (a0 : Array Value) (hw : ∀ d ∈ tables_1, d.before a0 Z = true) (ws : List Jvm.Cond) (a : Addr) (d : Addr) (em : Addr) (h0 : Heap) (n0 : Nat) (Z0 : n0 ≤ h0.size) (F_a_e1 : Fld Z h0 a "java/util/ImmutableCollections$List12" "e1" "Ljava/lang/Object;" (.ref d)) (S_EMPTY : Sta Z h0 "java/util/ImmutableCollections" "EMPTY" "Ljava/lang/Object;" (.ref em)) (ne_d_em : d ≠ em) :
    MetFree l (⟨"java/util/ImmutableCollections$List12", "size", "()I"⟩ : MethodName) (head1 (Jvm.Cond.code (⟨"java/util/ImmutableCollections$List12", "size", "()I"⟩ : MethodName) jdk_44_method_3_code 1 (some .int) :: ws) ({ frames := 0, cells := 0, slots := 0, locals := 0 } : Room)) (fun xa xU => xa = #[(.ref a)] ∧ Z.Warmed39 xU.vm ∧ xU.heap = h0) (fun _ _ _ _ _ => True) (fun _ xU xo xV => ∃ v L, xo = .returned v ∧ own_Q_own_size Z a d em h0 n0 v xV.heap L ∧ FrameEnd xU xo xV L ({ frames := 0, cells := 0, slots := 0, locals := 0 } : Room).cells ({ frames := 0, cells := 0, slots := 0, locals := 0 } : Room).slots) := by
  refine MetFree.of_bodySF (plainFor_of_name own_pn477837105) hisR ?_
  intro p e s m args below meth c s₁ Bd hml0 hP hK
  obtain ⟨rfl, hZ, hh⟩ := hP
  have hx := Bd.exec
  have hby := Bd.bytes
  have hlk := Bd.notSynchronized
  have hret := Bd.returns
  have hml : c.maxLocals = 1 := hml0
  have hown : s.vm.findClass "java/util/ImmutableCollections$List12" = some m.cls := findClass_of_methodNamed Bd.named
  have hnm := (name_of_methodNamed Bd.named Bd.method).1
  have X0 : Stand p l e ({ frames := 0, cells := 0, slots := 0, locals := 0 } : Room) s m #[(.ref a)] below meth c s₁ [] 0 0 := Stand.of_body Bd
  have e0 : s₁.heap = h0 := by rw [← hh, Bd.state]; rfl
  have N0 := Fr.nil n0
  show own_Gl p e below s (own_Q_own_size Z a d em h0 n0) ({ frames := 0, cells := 0, slots := 0, locals := 0 } : Room).cells ({ frames := 0, cells := 0, slots := 0, locals := 0 } : Room).slots _
  refine own_cast (own_ef_own_size m a) ?_
  show own_Gl _ _ _ _ _ _ _ (s₁.setTop (mkF m 0 #[.val (.ref a)] []))
  refine own_st (fun _ k => XS.aloadN X0.here hx rfl (hb hby own_d_jdk_44_method_3_code_0) rfl rfl k) ?_
  show own_Gl _ _ _ _ _ _ _ (s₁.setTop (mkF m 1 #[.val (.ref a)] [(.ref a)]))
  obtain ⟨T1, X1, e1, st1⟩ := getF X0 hx hZ hown (host := "") (Or.inl (hw _ (List.mem_of_getElem? (i := 97) rfl))) Via.refl e0 F_a_e1 (g := (mkF m 1 #[.val (.ref a)] [(.ref a)])) rfl rfl (hb hby own_d_jdk_44_method_3_code_1)
  refine own_st st1 ?_
  show own_Gl _ _ _ _ _ _ _ (T1.setTop (mkF m 4 #[.val (.ref a)] [(.ref d)]))
  obtain ⟨T2, X2, e2, st2⟩ := getS2 X1 hx hZ hown (Or.inr (hw _ (List.mem_of_getElem? (i := 108) rfl))) Via.refl e1 S_EMPTY (g := (mkF m 4 #[.val (.ref a)] [(.ref d)])) rfl (hb hby own_d_jdk_44_method_3_code_4)
  refine own_st st2 ?_
  show own_Gl _ _ _ _ _ _ _ (T2.setTop (mkF m 7 #[.val (.ref a)] [(.ref em), (.ref d)]))
  refine own_st (fun _ k => Jvm.RoadKit.acmp (g := (mkF m 7 #[.val (.ref a)] [(.ref em), (.ref d)])) X2 hx rfl rfl rfl (pc0 := 7) (pc' := 10) (same := false) rfl (hb hby own_d_jdk_44_method_3_code_7) rfl (decide_eq_false fun q => ne_d_em (Value.ref.inj q)) (by decide) (by decide) k) ?_
  show own_Gl _ _ _ _ _ _ _ (T2.setTop (mkF m 10 #[.val (.ref a)] []))
  refine own_st (fun _ k => XS.iconst X2.here hx rfl (hb hby own_d_jdk_44_method_3_code_10) k) ?_
  show own_Gl _ _ _ _ _ _ _ (T2.setTop (mkF m 11 #[.val (.ref a)] [(.int (2 : Int32))]))
  refine own_st (fun _ k => XS.goto X2.here hx rfl (pc0 := 11) (pc' := 15) rfl (hb hby own_d_jdk_44_method_3_code_11) (by decide) (by decide) k) ?_
  show own_Gl _ _ _ _ _ _ _ (T2.setTop (mkF m 15 #[.val (.ref a)] [(.int (2 : Int32))]))
  exact own_retI X2 hx hlk hret (hb hby own_d_jdk_44_method_3_code_15) e2 ⟨rfl, N0, rfl⟩ (by decide) (by decide)
theorem own_d_jdk_44_method_5_code_0 : decode jdk_44_method_5_code 0 = .ok (.iload_n 1, 1) := by decide +kernel
theorem own_d_jdk_44_method_5_code_1 : decode jdk_44_method_5_code 1 = .ok (.ifCond .ne 8, 3) := by decide +kernel
theorem own_d_jdk_44_method_5_code_4 : decode jdk_44_method_5_code 4 = .ok (.aload_n 0, 1) := by decide +kernel
theorem own_d_jdk_44_method_5_code_5 : decode jdk_44_method_5_code 5 = .ok (.getfield 13, 3) := by decide +kernel
theorem own_d_jdk_44_method_5_code_8 : decode jdk_44_method_5_code 8 = .ok (.areturn, 1) := by decide +kernel
theorem own_ef_own_get0 (m : MethodId) (x0 : Addr) (x1 : Int32) : entryFrame m #[(.ref x0), (.int x1)] 2 = mkF m 0 #[.val (.ref x0), .val (.int x1)] [] := by first | (simp [entryFrame, mkF, argsToLocals, Value.category]; done) | rfl
def own_Q_own_get0 (Z : State) (a : Addr) (b : Addr) (h0 : Heap) (n0 : Nat) (v : Option Value) (h : Heap) (L : List Loc) : Prop := (v = some (.ref b)) ∧ (Fr n0 L) ∧ (h = h0)
set_option maxRecDepth 65536 in
set_option maxHeartbeats 40000000 in
theorem own_get0 (l : Launch) (Z : State) (a0 : Array Value) (hw : ∀ d ∈ tables_1, d.before a0 Z = true) (ws : List Jvm.Cond) (a : Addr) (b : Addr) (h0 : Heap) (n0 : Nat) (Z0 : n0 ≤ h0.size) (F_a_e0 : Fld Z h0 a "java/util/ImmutableCollections$List12" "e0" "Ljava/lang/Object;" (.ref b)) :
    MetFree l (⟨"java/util/ImmutableCollections$List12", "get", "(I)Ljava/lang/Object;"⟩ : MethodName) (head1 (Jvm.Cond.code (⟨"java/util/ImmutableCollections$List12", "get", "(I)Ljava/lang/Object;"⟩ : MethodName) jdk_44_method_5_code 2 (some (.object "java/lang/Object")) :: ws) ({ frames := 0, cells := 0, slots := 0, locals := 0 } : Room)) (fun xa xU => xa = #[(.ref a), (.int (0 : Int32))] ∧ Z.Warmed39 xU.vm ∧ xU.heap = h0) (fun _ _ _ _ _ => True) (fun _ xU xo xV => ∃ v L, xo = .returned v ∧ own_Q_own_get0 Z a b h0 n0 v xV.heap L ∧ FrameEnd xU xo xV L ({ frames := 0, cells := 0, slots := 0, locals := 0 } : Room).cells ({ frames := 0, cells := 0, slots := 0, locals := 0 } : Room).slots) := by
  refine MetFree.of_bodySF (plainFor_of_name own_pn477837105) hisR ?_
  intro p e s m args below meth c s₁ Bd hml0 hP hK
  obtain ⟨rfl, hZ, hh⟩ := hP
  have hx := Bd.exec
  have hby := Bd.bytes
  have hlk := Bd.notSynchronized
  have hret := Bd.returns
  have hml : c.maxLocals = 2 := hml0
  have hown : s.vm.findClass "java/util/ImmutableCollections$List12" = some m.cls := findClass_of_methodNamed Bd.named
  have hnm := (name_of_methodNamed Bd.named Bd.method).1
  have X0 : Stand p l e ({ frames := 0, cells := 0, slots := 0, locals := 0 } : Room) s m #[(.ref a), (.int (0 : Int32))] below meth c s₁ [] 0 0 := Stand.of_body Bd
  have e0 : s₁.heap = h0 := by rw [← hh, Bd.state]; rfl
  have N0 := Fr.nil n0
  show own_Gl p e below s (own_Q_own_get0 Z a b h0 n0) ({ frames := 0, cells := 0, slots := 0, locals := 0 } : Room).cells ({ frames := 0, cells := 0, slots := 0, locals := 0 } : Room).slots _
  refine own_cast (own_ef_own_get0 m a (0 : Int32)) ?_
  show own_Gl _ _ _ _ _ _ _ (s₁.setTop (mkF m 0 #[.val (.ref a), .val (.int (0 : Int32))] []))
  refine own_st (fun _ k => XS.iloadN X0.here hx rfl (hb hby own_d_jdk_44_method_5_code_0) rfl k) ?_
  show own_Gl _ _ _ _ _ _ _ (s₁.setTop (mkF m 1 #[.val (.ref a), .val (.int (0 : Int32))] [(.int (0 : Int32))]))
  have hd1 : (0 : Int32) = (0 : Int32) := (by decide)
  refine own_st (fun _ k => XS.ifNo X0.here hx rfl (hb hby own_d_jdk_44_method_5_code_1) rfl ((if0 _ _).trans (teq hd1).2) k) ?_
  show own_Gl _ _ _ _ _ _ _ (s₁.setTop (mkF m 4 #[.val (.ref a), .val (.int (0 : Int32))] []))
  refine own_st (fun _ k => XS.aloadN X0.here hx rfl (hb hby own_d_jdk_44_method_5_code_4) rfl rfl k) ?_
  show own_Gl _ _ _ _ _ _ _ (s₁.setTop (mkF m 5 #[.val (.ref a), .val (.int (0 : Int32))] [(.ref a)]))
  obtain ⟨T2, X2, e2, st2⟩ := getF X0 hx hZ hown (host := "") (Or.inl (hw _ (List.mem_of_getElem? (i := 95) rfl))) Via.refl e0 F_a_e0 (g := (mkF m 5 #[.val (.ref a), .val (.int (0 : Int32))] [(.ref a)])) rfl rfl (hb hby own_d_jdk_44_method_5_code_5)
  refine own_st st2 ?_
  show own_Gl _ _ _ _ _ _ _ (T2.setTop (mkF m 8 #[.val (.ref a), .val (.int (0 : Int32))] [(.ref b)]))
  exact own_retA X2 hx hlk hret rfl rfl rfl (hb hby own_d_jdk_44_method_5_code_8) e2 ⟨rfl, N0, rfl⟩ (by decide) (by decide)
theorem own_d_jdk_44_method_5_code_9 : decode jdk_44_method_5_code 9 = .ok (.iload_n 1, 1) := by decide +kernel
theorem own_d_jdk_44_method_5_code_10 : decode jdk_44_method_5_code 10 = .ok (.iconst 1, 1) := by decide +kernel
theorem own_d_jdk_44_method_5_code_11 : decode jdk_44_method_5_code 11 = .ok (.if_icmp .ne 18, 3) := by decide +kernel
theorem own_d_jdk_44_method_5_code_14 : decode jdk_44_method_5_code 14 = .ok (.aload_n 0, 1) := by decide +kernel
theorem own_d_jdk_44_method_5_code_15 : decode jdk_44_method_5_code 15 = .ok (.getfield 24, 3) := by decide +kernel
theorem own_d_jdk_44_method_5_code_18 : decode jdk_44_method_5_code 18 = .ok (.getstatic 19, 3) := by decide +kernel
theorem own_d_jdk_44_method_5_code_21 : decode jdk_44_method_5_code 21 = .ok (.if_acmp .eq 8, 3) := by decide +kernel
theorem own_d_jdk_44_method_5_code_24 : decode jdk_44_method_5_code 24 = .ok (.aload_n 0, 1) := by decide +kernel
theorem own_d_jdk_44_method_5_code_25 : decode jdk_44_method_5_code 25 = .ok (.getfield 24, 3) := by decide +kernel
theorem own_d_jdk_44_method_5_code_28 : decode jdk_44_method_5_code 28 = .ok (.areturn, 1) := by decide +kernel
theorem own_ef_own_get1 (m : MethodId) (x0 : Addr) (x1 : Int32) : entryFrame m #[(.ref x0), (.int x1)] 2 = mkF m 0 #[.val (.ref x0), .val (.int x1)] [] := by first | (simp [entryFrame, mkF, argsToLocals, Value.category]; done) | rfl
def own_Q_own_get1 (Z : State) (a : Addr) (d : Addr) (em : Addr) (h0 : Heap) (n0 : Nat) (v : Option Value) (h : Heap) (L : List Loc) : Prop := (v = some (.ref d)) ∧ (Fr n0 L) ∧ (h = h0)
set_option maxRecDepth 65536 in
set_option maxHeartbeats 40000000 in
theorem own_get1 (l : Launch) (Z : State) (a0 : Array Value) (hw : ∀ d ∈ tables_1, d.before a0 Z = true) (ws : List Jvm.Cond) (a : Addr) (d : Addr) (em : Addr) (h0 : Heap) (n0 : Nat) (Z0 : n0 ≤ h0.size) (F_a_e1 : Fld Z h0 a "java/util/ImmutableCollections$List12" "e1" "Ljava/lang/Object;" (.ref d)) (S_EMPTY : Sta Z h0 "java/util/ImmutableCollections" "EMPTY" "Ljava/lang/Object;" (.ref em)) (ne_d_em : d ≠ em) :
    MetFree l (⟨"java/util/ImmutableCollections$List12", "get", "(I)Ljava/lang/Object;"⟩ : MethodName) (head1 (Jvm.Cond.code (⟨"java/util/ImmutableCollections$List12", "get", "(I)Ljava/lang/Object;"⟩ : MethodName) jdk_44_method_5_code 2 (some (.object "java/lang/Object")) :: ws) ({ frames := 0, cells := 0, slots := 0, locals := 0 } : Room)) (fun xa xU => xa = #[(.ref a), (.int (1 : Int32))] ∧ Z.Warmed39 xU.vm ∧ xU.heap = h0) (fun _ _ _ _ _ => True) (fun _ xU xo xV => ∃ v L, xo = .returned v ∧ own_Q_own_get1 Z a d em h0 n0 v xV.heap L ∧ FrameEnd xU xo xV L ({ frames := 0, cells := 0, slots := 0, locals := 0 } : Room).cells ({ frames := 0, cells := 0, slots := 0, locals := 0 } : Room).slots) := by
  refine MetFree.of_bodySF (plainFor_of_name own_pn477837105) hisR ?_
  intro p e s m args below meth c s₁ Bd hml0 hP hK
  obtain ⟨rfl, hZ, hh⟩ := hP
  have hx := Bd.exec
  have hby := Bd.bytes
  have hlk := Bd.notSynchronized
  have hret := Bd.returns
  have hml : c.maxLocals = 2 := hml0
  have hown : s.vm.findClass "java/util/ImmutableCollections$List12" = some m.cls := findClass_of_methodNamed Bd.named
  have hnm := (name_of_methodNamed Bd.named Bd.method).1
  have X0 : Stand p l e ({ frames := 0, cells := 0, slots := 0, locals := 0 } : Room) s m #[(.ref a), (.int (1 : Int32))] below meth c s₁ [] 0 0 := Stand.of_body Bd
  have e0 : s₁.heap = h0 := by rw [← hh, Bd.state]; rfl
  have N0 := Fr.nil n0
  show own_Gl p e below s (own_Q_own_get1 Z a d em h0 n0) ({ frames := 0, cells := 0, slots := 0, locals := 0 } : Room).cells ({ frames := 0, cells := 0, slots := 0, locals := 0 } : Room).slots _
  refine own_cast (own_ef_own_get1 m a (1 : Int32)) ?_
  show own_Gl _ _ _ _ _ _ _ (s₁.setTop (mkF m 0 #[.val (.ref a), .val (.int (1 : Int32))] []))
  refine own_st (fun _ k => XS.iloadN X0.here hx rfl (hb hby own_d_jdk_44_method_5_code_0) rfl k) ?_
  show own_Gl _ _ _ _ _ _ _ (s₁.setTop (mkF m 1 #[.val (.ref a), .val (.int (1 : Int32))] [(.int (1 : Int32))]))
  have hd1 : ¬ ((1 : Int32) = (0 : Int32)) := (by decide)
  refine own_st (fun _ k => XS.ifYes X0.here hx rfl (pc0 := 1) (pc' := 9) rfl (hb hby own_d_jdk_44_method_5_code_1) rfl ((if0 _ _).trans (feq hd1).2) (by decide) (by decide) k) ?_
  show own_Gl _ _ _ _ _ _ _ (s₁.setTop (mkF m 9 #[.val (.ref a), .val (.int (1 : Int32))] []))
  refine own_st (fun _ k => XS.iloadN X0.here hx rfl (hb hby own_d_jdk_44_method_5_code_9) rfl k) ?_
  show own_Gl _ _ _ _ _ _ _ (s₁.setTop (mkF m 10 #[.val (.ref a), .val (.int (1 : Int32))] [(.int (1 : Int32))]))
  refine own_st (fun _ k => XS.iconst X0.here hx rfl (hb hby own_d_jdk_44_method_5_code_10) k) ?_
  show own_Gl _ _ _ _ _ _ _ (s₁.setTop (mkF m 11 #[.val (.ref a), .val (.int (1 : Int32))] [(.int (1 : Int32)), (.int (1 : Int32))]))
  have hd2 : (1 : Int32) = (1 : Int32) := (by decide)
  refine own_st (fun _ k => XS.icmpNo X0.here hx rfl (hb hby own_d_jdk_44_method_5_code_11) rfl (teq hd2).2 k) ?_
  show own_Gl _ _ _ _ _ _ _ (s₁.setTop (mkF m 14 #[.val (.ref a), .val (.int (1 : Int32))] []))
  refine own_st (fun _ k => XS.aloadN X0.here hx rfl (hb hby own_d_jdk_44_method_5_code_14) rfl rfl k) ?_
  show own_Gl _ _ _ _ _ _ _ (s₁.setTop (mkF m 15 #[.val (.ref a), .val (.int (1 : Int32))] [(.ref a)]))
  obtain ⟨T3, X3, e3, st3⟩ := getF X0 hx hZ hown (host := "") (Or.inl (hw _ (List.mem_of_getElem? (i := 97) rfl))) Via.refl e0 F_a_e1 (g := (mkF m 15 #[.val (.ref a), .val (.int (1 : Int32))] [(.ref a)])) rfl rfl (hb hby own_d_jdk_44_method_5_code_15)
  refine own_st st3 ?_
  show own_Gl _ _ _ _ _ _ _ (T3.setTop (mkF m 18 #[.val (.ref a), .val (.int (1 : Int32))] [(.ref d)]))
  obtain ⟨T4, X4, e4, st4⟩ := getS2 X3 hx hZ hown (Or.inr (hw _ (List.mem_of_getElem? (i := 108) rfl))) Via.refl e3 S_EMPTY (g := (mkF m 18 #[.val (.ref a), .val (.int (1 : Int32))] [(.ref d)])) rfl (hb hby own_d_jdk_44_method_5_code_18)
  refine own_st st4 ?_
  show own_Gl _ _ _ _ _ _ _ (T4.setTop (mkF m 21 #[.val (.ref a), .val (.int (1 : Int32))] [(.ref em), (.ref d)]))
  refine own_st (fun _ k => Jvm.RoadKit.acmp (g := (mkF m 21 #[.val (.ref a), .val (.int (1 : Int32))] [(.ref em), (.ref d)])) X4 hx rfl rfl rfl (pc0 := 21) (pc' := 24) (same := false) rfl (hb hby own_d_jdk_44_method_5_code_21) rfl (decide_eq_false fun q => ne_d_em (Value.ref.inj q)) (by decide) (by decide) k) ?_
  show own_Gl _ _ _ _ _ _ _ (T4.setTop (mkF m 24 #[.val (.ref a), .val (.int (1 : Int32))] []))
  refine own_st (fun _ k => XS.aloadN X4.here hx rfl (hb hby own_d_jdk_44_method_5_code_24) rfl rfl k) ?_
  show own_Gl _ _ _ _ _ _ _ (T4.setTop (mkF m 25 #[.val (.ref a), .val (.int (1 : Int32))] [(.ref a)]))
  obtain ⟨T5, X5, e5, st5⟩ := getF X4 hx hZ hown (host := "") (Or.inl (hw _ (List.mem_of_getElem? (i := 97) rfl))) Via.refl e4 F_a_e1 (g := (mkF m 25 #[.val (.ref a), .val (.int (1 : Int32))] [(.ref a)])) rfl rfl (hb hby own_d_jdk_44_method_5_code_25)
  refine own_st st5 ?_
  show own_Gl _ _ _ _ _ _ _ (T5.setTop (mkF m 28 #[.val (.ref a), .val (.int (1 : Int32))] [(.ref d)]))
  exact own_retA X5 hx hlk hret rfl rfl rfl (hb hby own_d_jdk_44_method_5_code_28) e5 ⟨rfl, N0, rfl⟩ (by decide) (by decide)
theorem own_d_prog_42_method_5_code_0 : decode prog_42_method_5_code 0 = .ok (.aload_n 0, 1) := by decide +kernel
theorem own_d_prog_42_method_5_code_1 : decode prog_42_method_5_code 1 = .ok (.getfield 7, 3) := by decide +kernel
theorem own_d_prog_42_method_5_code_4 : decode prog_42_method_5_code 4 = .ok (.areturn, 1) := by decide +kernel
theorem own_ef_own_name (m : MethodId) (x0 : Addr) : entryFrame m #[(.ref x0)] 1 = mkF m 0 #[.val (.ref x0)] [] := by first | (simp [entryFrame, mkF, argsToLocals, Value.category]; done) | rfl
def own_Q_own_name (Z : State) (a : Addr) (b : Addr) (h0 : Heap) (n0 : Nat) (v : Option Value) (h : Heap) (L : List Loc) : Prop := (v = some (.ref b)) ∧ (Fr n0 L) ∧ (h = h0)
set_option maxRecDepth 65536 in
set_option maxHeartbeats 40000000 in
theorem own_name (l : Launch) (Z : State) (a0 : Array Value) (hw : ∀ d ∈ tables_1, d.before a0 Z = true) (ws : List Jvm.Cond) (a : Addr) (b : Addr) (h0 : Heap) (n0 : Nat) (Z0 : n0 ≤ h0.size) (F_a_name : Fld Z h0 a "com/example/lehti/lehti/model/Variable" "name" "Ljava/lang/String;" (.ref b)) :
    MetFree l (⟨"com/example/lehti/lehti/model/Variable", "name", "()Ljava/lang/String;"⟩ : MethodName) (head1 (Jvm.Cond.code (⟨"com/example/lehti/lehti/model/Variable", "name", "()Ljava/lang/String;"⟩ : MethodName) prog_42_method_5_code 1 (some (.object "java/lang/String")) :: ws) ({ frames := 0, cells := 0, slots := 0, locals := 0 } : Room)) (fun xa xU => xa = #[(.ref a)] ∧ Z.Warmed39 xU.vm ∧ xU.heap = h0) (fun _ _ _ _ _ => True) (fun _ xU xo xV => ∃ v L, xo = .returned v ∧ own_Q_own_name Z a b h0 n0 v xV.heap L ∧ FrameEnd xU xo xV L ({ frames := 0, cells := 0, slots := 0, locals := 0 } : Room).cells ({ frames := 0, cells := 0, slots := 0, locals := 0 } : Room).slots) := by
  refine MetFree.of_bodySF (plainFor_of_name own_pn482913593) hisR ?_
  intro p e s m args below meth c s₁ Bd hml0 hP hK
  obtain ⟨rfl, hZ, hh⟩ := hP
  have hx := Bd.exec
  have hby := Bd.bytes
  have hlk := Bd.notSynchronized
  have hret := Bd.returns
  have hml : c.maxLocals = 1 := hml0
  have hown : s.vm.findClass "com/example/lehti/lehti/model/Variable" = some m.cls := findClass_of_methodNamed Bd.named
  have hnm := (name_of_methodNamed Bd.named Bd.method).1
  have X0 : Stand p l e ({ frames := 0, cells := 0, slots := 0, locals := 0 } : Room) s m #[(.ref a)] below meth c s₁ [] 0 0 := Stand.of_body Bd
  have e0 : s₁.heap = h0 := by rw [← hh, Bd.state]; rfl
  have N0 := Fr.nil n0
  show own_Gl p e below s (own_Q_own_name Z a b h0 n0) ({ frames := 0, cells := 0, slots := 0, locals := 0 } : Room).cells ({ frames := 0, cells := 0, slots := 0, locals := 0 } : Room).slots _
  refine own_cast (own_ef_own_name m a) ?_
  show own_Gl _ _ _ _ _ _ _ (s₁.setTop (mkF m 0 #[.val (.ref a)] []))
  refine own_st (fun _ k => XS.aloadN X0.here hx rfl (hb hby own_d_prog_42_method_5_code_0) rfl rfl k) ?_
  show own_Gl _ _ _ _ _ _ _ (s₁.setTop (mkF m 1 #[.val (.ref a)] [(.ref a)]))
  obtain ⟨T1, X1, e1, st1⟩ := getF X0 hx hZ hown (host := "") (Or.inl (hw _ (List.mem_of_getElem? (i := 43) rfl))) Via.refl e0 F_a_name (g := (mkF m 1 #[.val (.ref a)] [(.ref a)])) rfl rfl (hb hby own_d_prog_42_method_5_code_1)
  refine own_st st1 ?_
  show own_Gl _ _ _ _ _ _ _ (T1.setTop (mkF m 4 #[.val (.ref a)] [(.ref b)]))
  exact own_retA X1 hx hlk hret rfl rfl rfl (hb hby own_d_prog_42_method_5_code_4) e1 ⟨rfl, N0, rfl⟩ (by decide) (by decide)
theorem own_d_jdk_42_method_66_code_0 : decode jdk_42_method_66_code 0 = .ok (.aload_n 0, 1) := by decide +kernel
theorem own_d_jdk_42_method_66_code_1 : decode jdk_42_method_66_code 1 = .ok (.aload_n 1, 1) := by decide +kernel
theorem own_d_jdk_42_method_66_code_2 : decode jdk_42_method_66_code 2 = .ok (.if_acmp .ne 5, 3) := by decide +kernel
theorem own_d_jdk_42_method_66_code_5 : decode jdk_42_method_66_code 5 = .ok (.iconst 1, 1) := by decide +kernel
theorem own_d_jdk_42_method_66_code_6 : decode jdk_42_method_66_code 6 = .ok (.ireturn, 1) := by decide +kernel
theorem own_ef_own_seq (m : MethodId) (x0 : Addr) (x1 : Addr) : entryFrame m #[(.ref x0), (.ref x1)] 3 = mkF m 0 #[.val (.ref x0), .val (.ref x1), .unset] [] := by first | (simp [entryFrame, mkF, argsToLocals, Value.category]; done) | rfl
def own_Q_own_seq (Z : State) (a : Addr) (h0 : Heap) (n0 : Nat) (v : Option Value) (h : Heap) (L : List Loc) : Prop := (v = some (.int (1 : Int32))) ∧ (Fr n0 L) ∧ (h = h0)
set_option maxRecDepth 65536 in
set_option maxHeartbeats 40000000 in
theorem own_seq (l : Launch) (Z : State) (a0 : Array Value) (hw : ∀ d ∈ tables_1, d.before a0 Z = true) (ws : List Jvm.Cond) (a : Addr) (h0 : Heap) (n0 : Nat) (Z0 : n0 ≤ h0.size) :
    MetFree l (⟨"java/lang/String", "equals", "(Ljava/lang/Object;)Z"⟩ : MethodName) (head1 (Jvm.Cond.code (⟨"java/lang/String", "equals", "(Ljava/lang/Object;)Z"⟩ : MethodName) jdk_42_method_66_code 3 (some .boolean) :: ws) ({ frames := 0, cells := 0, slots := 0, locals := 0 } : Room)) (fun xa xU => xa = #[(.ref a), (.ref a)] ∧ Z.Warmed39 xU.vm ∧ xU.heap = h0) (fun _ _ _ _ _ => True) (fun _ xU xo xV => ∃ v L, xo = .returned v ∧ own_Q_own_seq Z a h0 n0 v xV.heap L ∧ FrameEnd xU xo xV L ({ frames := 0, cells := 0, slots := 0, locals := 0 } : Room).cells ({ frames := 0, cells := 0, slots := 0, locals := 0 } : Room).slots) := by
  refine MetFree.of_bodySF (plainFor_of_name own_pn853443214) hisR ?_
  intro p e s m args below meth c s₁ Bd hml0 hP hK
  obtain ⟨rfl, hZ, hh⟩ := hP
  have hx := Bd.exec
  have hby := Bd.bytes
  have hlk := Bd.notSynchronized
  have hret := Bd.returns
  have hml : c.maxLocals = 3 := hml0
  have hown : s.vm.findClass "java/lang/String" = some m.cls := findClass_of_methodNamed Bd.named
  have hnm := (name_of_methodNamed Bd.named Bd.method).1
  have X0 : Stand p l e ({ frames := 0, cells := 0, slots := 0, locals := 0 } : Room) s m #[(.ref a), (.ref a)] below meth c s₁ [] 0 0 := Stand.of_body Bd
  have e0 : s₁.heap = h0 := by rw [← hh, Bd.state]; rfl
  have N0 := Fr.nil n0
  show own_Gl p e below s (own_Q_own_seq Z a h0 n0) ({ frames := 0, cells := 0, slots := 0, locals := 0 } : Room).cells ({ frames := 0, cells := 0, slots := 0, locals := 0 } : Room).slots _
  refine own_cast (own_ef_own_seq m a a) ?_
  show own_Gl _ _ _ _ _ _ _ (s₁.setTop (mkF m 0 #[.val (.ref a), .val (.ref a), .unset] []))
  refine own_st (fun _ k => XS.aloadN X0.here hx rfl (hb hby own_d_jdk_42_method_66_code_0) rfl rfl k) ?_
  show own_Gl _ _ _ _ _ _ _ (s₁.setTop (mkF m 1 #[.val (.ref a), .val (.ref a), .unset] [(.ref a)]))
  refine own_st (fun _ k => XS.aloadN X0.here hx rfl (hb hby own_d_jdk_42_method_66_code_1) rfl rfl k) ?_
  show own_Gl _ _ _ _ _ _ _ (s₁.setTop (mkF m 2 #[.val (.ref a), .val (.ref a), .unset] [(.ref a), (.ref a)]))
  refine own_st (fun _ k => Jvm.RoadKit.acmp (g := (mkF m 2 #[.val (.ref a), .val (.ref a), .unset] [(.ref a), (.ref a)])) X0 hx rfl rfl rfl (pc0 := 2) (pc' := 5) (same := true) rfl (hb hby own_d_jdk_42_method_66_code_2) rfl (decide_eq_true rfl) (by decide) (by decide) k) ?_
  show own_Gl _ _ _ _ _ _ _ (s₁.setTop (mkF m 5 #[.val (.ref a), .val (.ref a), .unset] []))
  refine own_st (fun _ k => XS.iconst X0.here hx rfl (hb hby own_d_jdk_42_method_66_code_5) k) ?_
  show own_Gl _ _ _ _ _ _ _ (s₁.setTop (mkF m 6 #[.val (.ref a), .val (.ref a), .unset] [(.int (1 : Int32))]))
  exact own_retN X0 hx hlk (t := .boolean) hret (by simp) (hb hby own_d_jdk_42_method_66_code_6) e0 ⟨rfl, N0, rfl⟩ (by decide) (by decide)
theorem own_pd866964510 : parseMethodDescriptor "(Ljava/lang/String;)V" = some ⟨[(.object "java/lang/String")], none⟩ := by decide +kernel
theorem own_pd673833213 : parseMethodDescriptor "(Lcom/example/lehti/lehti/model/Variable;Lcom/example/lehti/lehti/model/Variable;)V" = some ⟨[(.object "com/example/lehti/lehti/model/Variable"), (.object "com/example/lehti/lehti/model/Variable")], none⟩ := by decide +kernel
theorem own_pd605148258 : parseMethodDescriptor "()Ljava/util/List;" = some ⟨[], some (.object "java/util/List")⟩ := by decide +kernel
theorem own_pd691884 : parseMethodDescriptor "()I" = some ⟨[], some .int⟩ := by decide +kernel
theorem own_pd516517288 : parseMethodDescriptor "(I)Ljava/lang/Object;" = some ⟨[.int], some (.object "java/lang/Object")⟩ := by decide +kernel
theorem own_pd371150679 : parseMethodDescriptor "()Ljava/lang/String;" = some ⟨[], some (.object "java/lang/String")⟩ := by decide +kernel
theorem own_pd963338152 : parseMethodDescriptor "(Ljava/lang/Object;)Z" = some ⟨[(.object "java/lang/Object")], some .boolean⟩ := by decide +kernel
theorem own_pd985728365 : parseMethodDescriptor "([C)V" = some ⟨[(.array .char)], none⟩ := by decide +kernel
theorem own_ef_own_law (m : MethodId) (x0 : Int32) (x1 : Int32) (x2 : Int32) : entryFrame m #[(.int x0), (.int x1), (.int x2)] maxLocals = mkF m 0 #[.val (.int x0), .val (.int x1), .val (.int x2), .unset, .unset, .unset, .unset, .unset, .unset, .unset, .unset, .unset, .unset] [] := by first | (simp [entryFrame, mkF, argsToLocals, Value.category, maxLocals]; done) | rfl
def own_Q_own_law (Z : State) (p1 : Int32) (p2 : Int32) (p3 : Int32) (cs : Int32) (em : Addr) (h0 : Heap) (n0 : Nat) (v : Option Value) (h : Heap) (L : List Loc) : Prop := v = some (.int 1) ∧ Fr n0 L
theorem own_pn762375295 : plainName "com/example/lehti/lehti/model/EqualityVariablesPinLaw" = true := by first | (simp [plainName, overriddenIn]; done) | decide +kernel
set_option maxRecDepth 65536 in
set_option maxHeartbeats 40000000 in
theorem own_law (l : Launch) (Z : State) (a0 : Array Value) (hw : ∀ d ∈ tables_1, d.before a0 Z = true) (ws : List Jvm.Cond) (p1 : Int32) (p2 : Int32) (p3 : Int32) (cs : Int32) (em : Addr) (h0 : Heap) (n0 : Nat) (Z0 : n0 ≤ h0.size) (Old0 : Old Z n0 h0) (S_COMPACT_STRINGS : Sta Z Z.heap "java/lang/String" "COMPACT_STRINGS" "Z" (.int cs)) (S__assertionsDisabled : Sta Z Z.heap "java/lang/StringUTF16" "$assertionsDisabled" "Z" (.int (1 : Int32))) (S_HI_BYTE_SHIFT : Sta Z Z.heap "java/lang/StringUTF16" "HI_BYTE_SHIFT" "I" (.int (0 : Int32))) (S_LO_BYTE_SHIFT : Sta Z Z.heap "java/lang/StringUTF16" "LO_BYTE_SHIFT" "I" (.int (8 : Int32))) (S_EMPTY : Sta Z Z.heap "java/util/ImmutableCollections" "EMPTY" "Ljava/lang/Object;" (.ref em)) (hcs : ¬ (cs = (0 : Int32))) (hem : em < Z.heap.size) :
    MetFree l x (head1 (Jvm.Cond.code x code maxLocals ret :: ws) room_1) (fun xa xU => xa = #[(.int p1), (.int p2), (.int p3)] ∧ Z.Warmed39 xU.vm ∧ xU.heap = h0) (fun _ _ _ _ _ => True) (fun _ xU xo xV => ∃ v L, xo = .returned v ∧ own_Q_own_law Z p1 p2 p3 cs em h0 n0 v xV.heap L ∧ FrameEnd xU xo xV L room_1.cells room_1.slots) := by
  refine MetFree.of_bodySF (plainFor_of_name own_pn762375295) hisR ?_
  intro p e s m args below meth c s₁ Bd hml0 hP hK
  obtain ⟨rfl, hZ, hh⟩ := hP
  have hx := Bd.exec
  have hby := Bd.bytes
  have hlk := Bd.notSynchronized
  have hret := Bd.returns
  have hml : c.maxLocals = 13 := hml0
  have hown : s.vm.findClass "com/example/lehti/lehti/model/EqualityVariablesPinLaw" = some m.cls := findClass_of_methodNamed Bd.named
  have hnm := (name_of_methodNamed Bd.named Bd.method).1
  have X0 : Stand p l e room_1 s m #[(.int p1), (.int p2), (.int p3)] below meth c s₁ [] 0 0 := Stand.of_body Bd
  have e0 : s₁.heap = h0 := by rw [← hh, Bd.state]; rfl
  have N0 := Fr.nil n0
  show own_Gl p e below s (own_Q_own_law Z p1 p2 p3 cs em h0 n0) room_1.cells room_1.slots _
  refine own_cast (own_ef_own_law m p1 p2 p3) ?_
  show own_Gl _ _ _ _ _ _ _ (s₁.setTop (mkF m 0 #[.val (.int p1), .val (.int p2), .val (.int p3), .unset, .unset, .unset, .unset, .unset, .unset, .unset, .unset, .unset, .unset] []))
  refine own_st (fun _ k => XS.iconst X0.here hx rfl (hb hby at_0) k) ?_
  show own_Gl _ _ _ _ _ _ _ (s₁.setTop (mkF m 1 #[.val (.int p1), .val (.int p2), .val (.int p3), .unset, .unset, .unset, .unset, .unset, .unset, .unset, .unset, .unset, .unset] [(.int (2 : Int32))]))
  obtain ⟨T1, h1, k1, X1, e1, E1, A1, st1⟩ := newP X0 hx hZ (hw _ (List.mem_of_getElem? (i := 0) rfl)) e0 (g := (mkF m 1 #[.val (.int p1), .val (.int p2), .val (.int p3), .unset, .unset, .unset, .unset, .unset, .unset, .unset, .unset, .unset, .unset] [(.int (2 : Int32))])) rfl (hb hby at_1) rfl (by decide) (cap := 2) (by decide) (by decide) (by decide) (by decide)
  obtain ⟨b1, gb1⟩ : ∃ z, z = h0.size := ⟨_, rfl⟩
  rw [← gb1] at A1 st1
  refine own_st st1 ?_
  have Zs2 : n0 ≤ h1.size := Nat.le_trans Z0 E1.1
  have g_b1 : n0 ≤ b1 := Nat.le_trans Z0 (Nat.le_of_eq gb1.symm)
  have gh_b1 : h0.size ≤ b1 := Nat.le_trans (Keep.refl h0 []).1 (Nat.le_of_eq gb1.symm)
  have V_b1 : Arv Z h1 b1 k1 .char (2 : Int32) [(.int (0 : Int32)), (.int (0 : Int32))] (.int (0 : Int32)) := (Arv.new A1 (by decide)).pad (pad_rep [] (.int (0 : Int32)) 2)
  show own_Gl _ _ _ _ _ _ _ (T1.setTop (mkF m 3 #[.val (.int p1), .val (.int p2), .val (.int p3), .unset, .unset, .unset, .unset, .unset, .unset, .unset, .unset, .unset, .unset] [(.ref b1)]))
  refine own_st (fun _ k => XS.dup X1.here hx rfl (hb hby at_3) rfl rfl k) ?_
  show own_Gl _ _ _ _ _ _ _ (T1.setTop (mkF m 4 #[.val (.int p1), .val (.int p2), .val (.int p3), .unset, .unset, .unset, .unset, .unset, .unset, .unset, .unset, .unset, .unset] [(.ref b1), (.ref b1)]))
  refine own_st (fun _ k => XS.iconst X1.here hx rfl (hb hby at_4) k) ?_
  show own_Gl _ _ _ _ _ _ _ (T1.setTop (mkF m 5 #[.val (.int p1), .val (.int p2), .val (.int p3), .unset, .unset, .unset, .unset, .unset, .unset, .unset, .unset, .unset, .unset] [(.int (0 : Int32)), (.ref b1), (.ref b1)]))
  refine own_st (fun _ k => XS.iloadN X1.here hx rfl (hb hby at_5) rfl k) ?_
  show own_Gl _ _ _ _ _ _ _ (T1.setTop (mkF m 6 #[.val (.int p1), .val (.int p2), .val (.int p3), .unset, .unset, .unset, .unset, .unset, .unset, .unset, .unset, .unset, .unset] [(.int p1), (.int (0 : Int32)), (.ref b1), (.ref b1)]))
  refine own_st (X1.ldcInt hx hown (mvT hZ (hw _ (List.mem_of_getElem? (i := 1) rfl))) (g := (mkF m 6 #[.val (.int p1), .val (.int p2), .val (.int p3), .unset, .unset, .unset, .unset, .unset, .unset, .unset, .unset, .unset, .unset] [(.int p1), (.int (0 : Int32)), (.ref b1), (.ref b1)])) rfl (hb hby at_6)) ?_
  show own_Gl _ _ _ _ _ _ _ (T1.setTop (mkF m 8 #[.val (.int p1), .val (.int p2), .val (.int p3), .unset, .unset, .unset, .unset, .unset, .unset, .unset, .unset, .unset, .unset] [(.int (65535 : Int32)), (.int p1), (.int (0 : Int32)), (.ref b1), (.ref b1)]))
  refine own_st (fun _ k => XS.iand X1.here hx rfl (hb hby at_8) rfl k) ?_
  show own_Gl _ _ _ _ _ _ _ (T1.setTop (mkF m 9 #[.val (.int p1), .val (.int p2), .val (.int p3), .unset, .unset, .unset, .unset, .unset, .unset, .unset, .unset, .unset, .unset] [(.int (p1 &&& (65535 : Int32))), (.int (0 : Int32)), (.ref b1), (.ref b1)]))
  refine own_st (fun _ k => XS.i2c X1.here hx rfl (hb hby at_9) rfl k) ?_
  show own_Gl _ _ _ _ _ _ _ (T1.setTop (mkF m 10 #[.val (.int p1), .val (.int p2), .val (.int p3), .unset, .unset, .unset, .unset, .unset, .unset, .unset, .unset, .unset, .unset] [(.int ((p1 &&& (65535 : Int32)).toUInt32.toUInt16.toUInt32.toInt32)), (.int (0 : Int32)), (.ref b1), (.ref b1)]))
  obtain ⟨cl4, Ar4, qq4, Ss4, Nn4, Hh4, Gg4⟩ := id V_b1
  have hin4 : ¬ ((0 : Int32) < 0 ∨ cl4.slots.size ≤ ((0 : Int32)).toNatClampNeg) := inb_of Ss4 ⟨by decide, by decide⟩
  obtain ⟨T4, h4, X4, e4, W4, st4⟩ := stC X1 hx hZ e1 Ar4 (j := (0 : Int32)) hin4 (g := (mkF m 10 #[.val (.int p1), .val (.int p2), .val (.int p3), .unset, .unset, .unset, .unset, .unset, .unset, .unset, .unset, .unset, .unset] [(.int ((p1 &&& (65535 : Int32)).toUInt32.toUInt16.toUInt32.toInt32)), (.int (0 : Int32)), (.ref b1), (.ref b1)])) rfl rfl (hb hby at_10)
  have N4 := Fr.snoc X4 N0 g_b1
  refine own_st st4 ?_
  have Zs5 : n0 ≤ h4.size := Nat.le_trans Zs2 (Keep.of_wr W4).1
  have Vw4 : Arv Z h4 b1 k1 .char (2 : Int32) [(.int (nar .char ((p1 &&& (65535 : Int32)).toUInt32.toUInt16.toUInt32.toInt32))), (.int (0 : Int32))] (.int (0 : Int32)) := Arv.set Ar4 qq4 Ss4 Nn4 Hh4 Gg4 (fits_nar_char _) W4 0 (rfl) (Nat.le_of_ble_eq_true rfl)
  show own_Gl _ _ _ _ _ _ _ (T4.setTop (mkF m 11 #[.val (.int p1), .val (.int p2), .val (.int p3), .unset, .unset, .unset, .unset, .unset, .unset, .unset, .unset, .unset, .unset] [(.ref b1)]))
  refine own_st (fun _ k => XS.dup X4.here hx rfl (hb hby at_11) rfl rfl k) ?_
  show own_Gl _ _ _ _ _ _ _ (T4.setTop (mkF m 12 #[.val (.int p1), .val (.int p2), .val (.int p3), .unset, .unset, .unset, .unset, .unset, .unset, .unset, .unset, .unset, .unset] [(.ref b1), (.ref b1)]))
  refine own_st (fun _ k => XS.iconst X4.here hx rfl (hb hby at_12) k) ?_
  show own_Gl _ _ _ _ _ _ _ (T4.setTop (mkF m 13 #[.val (.int p1), .val (.int p2), .val (.int p3), .unset, .unset, .unset, .unset, .unset, .unset, .unset, .unset, .unset, .unset] [(.int (1 : Int32)), (.ref b1), (.ref b1)]))
  refine own_st (fun _ k => XS.iloadN X4.here hx rfl (hb hby at_13) rfl k) ?_
  show own_Gl _ _ _ _ _ _ _ (T4.setTop (mkF m 14 #[.val (.int p1), .val (.int p2), .val (.int p3), .unset, .unset, .unset, .unset, .unset, .unset, .unset, .unset, .unset, .unset] [(.int p1), (.int (1 : Int32)), (.ref b1), (.ref b1)]))
  refine own_st (fun _ k => XS.bipush X4.here hx rfl (hb hby at_14) k) ?_
  show own_Gl _ _ _ _ _ _ _ (T4.setTop (mkF m 16 #[.val (.int p1), .val (.int p2), .val (.int p3), .unset, .unset, .unset, .unset, .unset, .unset, .unset, .unset, .unset, .unset] [(.int (16 : Int32)), (.int p1), (.int (1 : Int32)), (.ref b1), (.ref b1)]))
  refine own_st (fun _ k => XS.iushr X4.here hx rfl (hb hby at_16) rfl k) ?_
  show own_Gl _ _ _ _ _ _ _ (T4.setTop (mkF m 17 #[.val (.int p1), .val (.int p2), .val (.int p3), .unset, .unset, .unset, .unset, .unset, .unset, .unset, .unset, .unset, .unset] [(.int ((p1.toUInt32 >>> ((16 : Int32) &&& 31).toUInt32).toInt32)), (.int (1 : Int32)), (.ref b1), (.ref b1)]))
  refine own_st (X4.ldcInt hx hown (mvT hZ (hw _ (List.mem_of_getElem? (i := 1) rfl))) (g := (mkF m 17 #[.val (.int p1), .val (.int p2), .val (.int p3), .unset, .unset, .unset, .unset, .unset, .unset, .unset, .unset, .unset, .unset] [(.int ((p1.toUInt32 >>> ((16 : Int32) &&& 31).toUInt32).toInt32)), (.int (1 : Int32)), (.ref b1), (.ref b1)])) rfl (hb hby at_17)) ?_
  show own_Gl _ _ _ _ _ _ _ (T4.setTop (mkF m 19 #[.val (.int p1), .val (.int p2), .val (.int p3), .unset, .unset, .unset, .unset, .unset, .unset, .unset, .unset, .unset, .unset] [(.int (65535 : Int32)), (.int ((p1.toUInt32 >>> ((16 : Int32) &&& 31).toUInt32).toInt32)), (.int (1 : Int32)), (.ref b1), (.ref b1)]))
  refine own_st (fun _ k => XS.iand X4.here hx rfl (hb hby at_19) rfl k) ?_
  show own_Gl _ _ _ _ _ _ _ (T4.setTop (mkF m 20 #[.val (.int p1), .val (.int p2), .val (.int p3), .unset, .unset, .unset, .unset, .unset, .unset, .unset, .unset, .unset, .unset] [(.int (((p1.toUInt32 >>> ((16 : Int32) &&& 31).toUInt32).toInt32) &&& (65535 : Int32))), (.int (1 : Int32)), (.ref b1), (.ref b1)]))
  refine own_st (fun _ k => XS.i2c X4.here hx rfl (hb hby at_20) rfl k) ?_
  show own_Gl _ _ _ _ _ _ _ (T4.setTop (mkF m 21 #[.val (.int p1), .val (.int p2), .val (.int p3), .unset, .unset, .unset, .unset, .unset, .unset, .unset, .unset, .unset, .unset] [(.int ((((p1.toUInt32 >>> ((16 : Int32) &&& 31).toUInt32).toInt32) &&& (65535 : Int32)).toUInt32.toUInt16.toUInt32.toInt32)), (.int (1 : Int32)), (.ref b1), (.ref b1)]))
  obtain ⟨cl6, Ar6, qq6, Ss6, Nn6, Hh6, Gg6⟩ := id Vw4
  have hin6 : ¬ ((1 : Int32) < 0 ∨ cl6.slots.size ≤ ((1 : Int32)).toNatClampNeg) := inb_of Ss6 ⟨by decide, by decide⟩
  obtain ⟨T6, h6, X6, e6, W6, st6⟩ := stC X4 hx hZ e4 Ar6 (j := (1 : Int32)) hin6 (g := (mkF m 21 #[.val (.int p1), .val (.int p2), .val (.int p3), .unset, .unset, .unset, .unset, .unset, .unset, .unset, .unset, .unset, .unset] [(.int ((((p1.toUInt32 >>> ((16 : Int32) &&& 31).toUInt32).toInt32) &&& (65535 : Int32)).toUInt32.toUInt16.toUInt32.toInt32)), (.int (1 : Int32)), (.ref b1), (.ref b1)])) rfl rfl (hb hby at_21)
  have N6 := Fr.snoc X6 N4 g_b1
  refine own_st st6 ?_
  have Zs7 : n0 ≤ h6.size := Nat.le_trans Zs5 (Keep.of_wr W6).1
  have Vw6 : Arv Z h6 b1 k1 .char (2 : Int32) [(.int (nar .char ((p1 &&& (65535 : Int32)).toUInt32.toUInt16.toUInt32.toInt32))), (.int (nar .char ((((p1.toUInt32 >>> ((16 : Int32) &&& 31).toUInt32).toInt32) &&& (65535 : Int32)).toUInt32.toUInt16.toUInt32.toInt32)))] (.int (0 : Int32)) := Arv.set Ar6 qq6 Ss6 Nn6 Hh6 Gg6 (fits_nar_char _) W6 1 (rfl) (Nat.le_of_ble_eq_true rfl)
  show own_Gl _ _ _ _ _ _ _ (T6.setTop (mkF m 22 #[.val (.int p1), .val (.int p2), .val (.int p3), .unset, .unset, .unset, .unset, .unset, .unset, .unset, .unset, .unset, .unset] [(.ref b1)]))
  refine own_st (fun _ k => XS.astoreN X6.here hx rfl (hb hby at_22) rfl rfl (l' := #[.val (.int p1), .val (.int p2), .val (.int p3), .val (.ref b1), .unset, .unset, .unset, .unset, .unset, .unset, .unset, .unset, .unset]) rfl k) ?_
  show own_Gl _ _ _ _ _ _ _ (T6.setTop (mkF m 23 #[.val (.int p1), .val (.int p2), .val (.int p3), .val (.ref b1), .unset, .unset, .unset, .unset, .unset, .unset, .unset, .unset, .unset] []))
  have J73_8 : ∀ (T8 : State) (LL8 : List Loc) (N8 : Fr n0 LL8) (X8 : Stand p l e room_1 s m #[(.int p1), (.int p2), (.int p3)] below meth c T8 LL8 2 4) (h8 : Heap) (e8 : T8.heap = h8) (sb : Addr) (kb : ClassId) (w0 : Int32) (w1 : Int32) (Zs8 : n0 ≤ h8.size) (Kj8 : Keep h0 h8 []) (fj8_0 : Arv Z h8 b1 k1 .char (2 : Int32) [(.int (nar .char ((p1 &&& (65535 : Int32)).toUInt32.toUInt16.toUInt32.toInt32))), (.int (nar .char ((((p1.toUInt32 >>> ((16 : Int32) &&& 31).toUInt32).toInt32) &&& (65535 : Int32)).toUInt32.toUInt16.toUInt32.toInt32)))] (.int (0 : Int32))) (fj8_1 : Arv Z h8 sb kb .char (2 : Int32) [(.int w0), (.int w1)] (.int (0 : Int32))) (fj8_2 : Old Z n0 h8) (hw0 : ¬ w0 < (0 : Int32) ∧ ¬ (65535 : Int32) < w0) (hw1 : ¬ w1 < (0 : Int32) ∧ ¬ (65535 : Int32) < w1), own_Gl p e below s (own_Q_own_law Z p1 p2 p3 cs em h0 n0) room_1.cells room_1.slots (T8.setTop (mkF m 73 #[.val (.int p1), .val (.int p2), .val (.int p3), .val (.ref b1), .val (.ref sb), .unset, .unset, .unset, .unset, .unset, .unset, .unset, .unset] [])) := by
    intro T8 LL8 N8 X8 h8 e8 sb kb w0 w1 Zs8 Kj8 fj8_0 fj8_1 fj8_2 hw0 hw1
    show own_Gl _ _ _ _ _ _ _ (T8.setTop (mkF m 73 #[.val (.int p1), .val (.int p2), .val (.int p3), .val (.ref b1), .val (.ref sb), .unset, .unset, .unset, .unset, .unset, .unset, .unset, .unset] []))
    have J83_9 : ∀ (T9 : State) (LL9 : List Loc) (N9 : Fr n0 LL9) (X9 : Stand p l e room_1 s m #[(.int p1), (.int p2), (.int p3)] below meth c T9 LL9 5 14) (h9 : Heap) (e9 : T9.heap = h9) (s1 : Addr) (Zs9 : n0 ≤ h9.size) (Kj9 : Keep h0 h9 []) (fj9_0 : Exa Z h9 s1 "java/lang/String") (fj9_1 : Arv Z h9 sb kb .char (2 : Int32) [(.int w0), (.int w1)] (.int (0 : Int32))) (fj9_2 : Old Z n0 h9), own_Gl p e below s (own_Q_own_law Z p1 p2 p3 cs em h0 n0) room_1.cells room_1.slots (T9.setTop (mkF m 83 #[.val (.int p1), .val (.int p2), .val (.int p3), .val (.ref b1), .val (.ref sb), .val (.ref s1), .unset, .unset, .unset, .unset, .unset, .unset, .unset] [])) := by
      intro T9 LL9 N9 X9 h9 e9 s1 Zs9 Kj9 fj9_0 fj9_1 fj9_2
      show own_Gl _ _ _ _ _ _ _ (T9.setTop (mkF m 83 #[.val (.int p1), .val (.int p2), .val (.int p3), .val (.ref b1), .val (.ref sb), .val (.ref s1), .unset, .unset, .unset, .unset, .unset, .unset, .unset] []))
      have J94_10 : ∀ (T10 : State) (LL10 : List Loc) (N10 : Fr n0 LL10) (X10 : Stand p l e room_1 s m #[(.int p1), (.int p2), (.int p3)] below meth c T10 LL10 8 24) (h10 : Heap) (e10 : T10.heap = h10) (s2 : Addr) (Zs10 : n0 ≤ h10.size) (Kj10 : Keep h0 h10 []) (fj10_0 : Exa Z h10 s1 "java/lang/String") (fj10_1 : Exa Z h10 s2 "java/lang/String") (fj10_2 : Old Z n0 h10), own_Gl p e below s (own_Q_own_law Z p1 p2 p3 cs em h0 n0) room_1.cells room_1.slots (T10.setTop (mkF m 94 #[.val (.int p1), .val (.int p2), .val (.int p3), .val (.ref b1), .val (.ref sb), .val (.ref s1), .val (.ref s2), .unset, .unset, .unset, .unset, .unset, .unset] [])) := by
        intro T10 LL10 N10 X10 h10 e10 s2 Zs10 Kj10 fj10_0 fj10_1 fj10_2
        show own_Gl _ _ _ _ _ _ _ (T10.setTop (mkF m 94 #[.val (.int p1), .val (.int p2), .val (.int p3), .val (.ref b1), .val (.ref sb), .val (.ref s1), .val (.ref s2), .unset, .unset, .unset, .unset, .unset, .unset] []))
        obtain ⟨T11, h11, X11, e11, E11, A11, D11, -, st11⟩ := newO X10 hx hZ hown (hw _ (List.mem_of_getElem? (i := 31) rfl)) (hw _ (List.mem_of_getElem? (i := 32) rfl)) (hw _ (List.mem_of_getElem? (i := 33) rfl)) e10 (g := (mkF m 94 #[.val (.int p1), .val (.int p2), .val (.int p3), .val (.ref b1), .val (.ref sb), .val (.ref s1), .val (.ref s2), .unset, .unset, .unset, .unset, .unset, .unset] [])) rfl (hb hby at_94) (by decide) (by decide)
        obtain ⟨b11, gb11⟩ : ∃ z, z = h10.size := ⟨_, rfl⟩
        rw [← gb11] at A11 D11 st11
        refine own_st st11 ?_
        have Zs12 : n0 ≤ h11.size := Nat.le_trans Zs10 E11.1
        have g_b11 : n0 ≤ b11 := Nat.le_trans Zs10 (Nat.le_of_eq gb11.symm)
        have gh_b11 : h0.size ≤ b11 := Nat.le_trans Kj10.1 (Nat.le_of_eq gb11.symm)
        have ne_s1_b11 : s1 ≠ b11 := Nat.ne_of_lt (Nat.lt_of_lt_of_le fj10_0.lt (Nat.le_of_eq gb11.symm))
        have ne_s2_b11 : s2 ≠ b11 := Nat.ne_of_lt (Nat.lt_of_lt_of_le fj10_1.lt (Nat.le_of_eq gb11.symm))
        have F_name_b11 : Fld Z h11 b11 "com/example/lehti/lehti/model/Variable" "name" "Ljava/lang/String;" .null := D11 (Or.inr (hw _ (List.mem_of_getElem? (i := 44) rfl))) (ty := (.object "java/lang/String")) (by decide)
        show own_Gl _ _ _ _ _ _ _ (T11.setTop (mkF m 97 #[.val (.int p1), .val (.int p2), .val (.int p3), .val (.ref b1), .val (.ref sb), .val (.ref s1), .val (.ref s2), .unset, .unset, .unset, .unset, .unset, .unset] [(.ref b11)]))
        refine own_st (fun _ k => XS.dup X11.here hx rfl (hb hby at_97) rfl rfl k) ?_
        show own_Gl _ _ _ _ _ _ _ (T11.setTop (mkF m 98 #[.val (.int p1), .val (.int p2), .val (.int p3), .val (.ref b1), .val (.ref sb), .val (.ref s1), .val (.ref s2), .unset, .unset, .unset, .unset, .unset, .unset] [(.ref b11), (.ref b11)]))
        refine own_st (fun _ k => XS.aload X11.here hx rfl (hb hby at_98) rfl rfl k) ?_
        show own_Gl _ _ _ _ _ _ _ (T11.setTop (mkF m 100 #[.val (.int p1), .val (.int p2), .val (.int p3), .val (.ref b1), .val (.ref sb), .val (.ref s1), .val (.ref s2), .unset, .unset, .unset, .unset, .unset, .unset] [(.ref s1), (.ref b11), (.ref b11)]))
        have f15 := (fj10_0.ext E11)
        have f16 := (fj10_1.ext E11)
        obtain ⟨_, _, ⟨T14, L14, k14, n14⟩, -, X14, ⟨Lc14, hQ14, l14, y14, z14⟩, st14⟩ := X11.specialBack hx (y := (⟨"com/example/lehti/lehti/model/Variable", "<init>", "(Ljava/lang/String;)V"⟩ : MethodName)) rfl hown (mvT hZ (hw _ (List.mem_of_getElem? (i := 34) rfl))) (mvT hZ (hw _ (List.mem_of_getElem? (i := 35) rfl))) (mvT hZ (hw _ (List.mem_of_getElem? (i := 36) rfl))) (by decide) (backOf (W := 1) (own_vinit l Z a0 hw [] b11 s1 h11 n0 Zs12 A11 F_name_b11 g_b11) hZ (hw _ (List.mem_of_getElem? (i := 36) rfl)) (hw _ (List.mem_of_getElem? (i := 33) rfl)) (by decide) (by decide)) (g := (mkF m 100 #[.val (.int p1), .val (.int p2), .val (.int p3), .val (.ref b1), .val (.ref sb), .val (.ref s1), .val (.ref s2), .unset, .unset, .unset, .unset, .unset, .unset] [(.ref s1), (.ref b11), (.ref b11)])) rfl (by rw [hml]; rfl) (Steps.refl _) (a := b11) (argsL := [(.ref s1)]) (rest := [(.ref b11)]) (lenOf own_pd866964510 rfl) rfl (by show 2 * 0 + _ ≤ _; exact Nat.le_of_eq rfl) (hb hby at_100) (fun _ _ => ⟨rfl, e11, (by decide : 9 + 0 ≤ room_1.cells), (by decide : 25 + 0 ≤ room_1.slots)⟩)
        dsimp only [Pt.U, Pt.locs, Pt.cells, Pt.slots] at X14 l14 y14 z14 st14 hQ14
        subst l14 y14 z14
        obtain ⟨hh14, eh014⟩ : ∃ z, T14.heap = z := ⟨_, rfl⟩
        rw [eh014] at hQ14
        obtain ⟨rfl, Nq14, Kq14, P14_0⟩ := hQ14
        have N14 := Fr.app N10 Nq14
        refine own_tr st14 ?_
        have Zs17 : n0 ≤ hh14.size := Nat.le_trans Zs12 Kq14.1
        show own_Gl _ _ _ _ _ _ _ (T14.setTop (mkF m 103 #[.val (.int p1), .val (.int p2), .val (.int p3), .val (.ref b1), .val (.ref sb), .val (.ref s1), .val (.ref s2), .unset, .unset, .unset, .unset, .unset, .unset] [(.ref b11)]))
        refine own_st (fun _ k => XS.astore X14.here hx rfl (hb hby at_103) rfl rfl (l' := #[.val (.int p1), .val (.int p2), .val (.int p3), .val (.ref b1), .val (.ref sb), .val (.ref s1), .val (.ref s2), .val (.ref b11), .unset, .unset, .unset, .unset, .unset]) rfl k) ?_
        show own_Gl _ _ _ _ _ _ _ (T14.setTop (mkF m 105 #[.val (.int p1), .val (.int p2), .val (.int p3), .val (.ref b1), .val (.ref sb), .val (.ref s1), .val (.ref s2), .val (.ref b11), .unset, .unset, .unset, .unset, .unset] []))
        have f18 := (f15.keep Kq14)
        have f19 := (f16.keep Kq14)
        have f20 := (A11.keep Kq14)
        have K21 : Keep h0 hh14 [] := ((Kj10.ext E11).trans Kq14 (allS (Or.inr gh_b11) all0))
        obtain ⟨T22, h22, X22, e22, E22, A22, D22, -, st22⟩ := newO X14 hx hZ hown (hw _ (List.mem_of_getElem? (i := 31) rfl)) (hw _ (List.mem_of_getElem? (i := 32) rfl)) (hw _ (List.mem_of_getElem? (i := 33) rfl)) eh014 (g := (mkF m 105 #[.val (.int p1), .val (.int p2), .val (.int p3), .val (.ref b1), .val (.ref sb), .val (.ref s1), .val (.ref s2), .val (.ref b11), .unset, .unset, .unset, .unset, .unset] [])) rfl (hb hby at_105) (by decide) (by decide)
        obtain ⟨b22, gb22⟩ : ∃ z, z = hh14.size := ⟨_, rfl⟩
        rw [← gb22] at A22 D22 st22
        refine own_st st22 ?_
        have Zs23 : n0 ≤ h22.size := Nat.le_trans Zs17 E22.1
        have g_b22 : n0 ≤ b22 := Nat.le_trans Zs17 (Nat.le_of_eq gb22.symm)
        have gh_b22 : h0.size ≤ b22 := Nat.le_trans K21.1 (Nat.le_of_eq gb22.symm)
        have ne_s1_b22 : s1 ≠ b22 := Nat.ne_of_lt (Nat.lt_of_lt_of_le f18.lt (Nat.le_of_eq gb22.symm))
        have ne_s2_b22 : s2 ≠ b22 := Nat.ne_of_lt (Nat.lt_of_lt_of_le f19.lt (Nat.le_of_eq gb22.symm))
        have ne_b11_b22 : b11 ≠ b22 := Nat.ne_of_lt (Nat.lt_of_lt_of_le f20.lt (Nat.le_of_eq gb22.symm))
        have F_name_b22 : Fld Z h22 b22 "com/example/lehti/lehti/model/Variable" "name" "Ljava/lang/String;" .null := D22 (Or.inr (hw _ (List.mem_of_getElem? (i := 44) rfl))) (ty := (.object "java/lang/String")) (by decide)
        show own_Gl _ _ _ _ _ _ _ (T22.setTop (mkF m 108 #[.val (.int p1), .val (.int p2), .val (.int p3), .val (.ref b1), .val (.ref sb), .val (.ref s1), .val (.ref s2), .val (.ref b11), .unset, .unset, .unset, .unset, .unset] [(.ref b22)]))
        refine own_st (fun _ k => XS.dup X22.here hx rfl (hb hby at_108) rfl rfl k) ?_
        show own_Gl _ _ _ _ _ _ _ (T22.setTop (mkF m 109 #[.val (.int p1), .val (.int p2), .val (.int p3), .val (.ref b1), .val (.ref sb), .val (.ref s1), .val (.ref s2), .val (.ref b11), .unset, .unset, .unset, .unset, .unset] [(.ref b22), (.ref b22)]))
        refine own_st (fun _ k => XS.aload X22.here hx rfl (hb hby at_109) rfl rfl k) ?_
        show own_Gl _ _ _ _ _ _ _ (T22.setTop (mkF m 111 #[.val (.int p1), .val (.int p2), .val (.int p3), .val (.ref b1), .val (.ref sb), .val (.ref s1), .val (.ref s2), .val (.ref b11), .unset, .unset, .unset, .unset, .unset] [(.ref s2), (.ref b22), (.ref b22)]))
        have f26 := (f18.ext E22)
        have f27 := (f19.ext E22)
        have f28 := (f20.ext E22)
        obtain ⟨_, _, ⟨T25, L25, k25, n25⟩, -, X25, ⟨Lc25, hQ25, l25, y25, z25⟩, st25⟩ := X22.specialBack hx (y := (⟨"com/example/lehti/lehti/model/Variable", "<init>", "(Ljava/lang/String;)V"⟩ : MethodName)) rfl hown (mvT hZ (hw _ (List.mem_of_getElem? (i := 34) rfl))) (mvT hZ (hw _ (List.mem_of_getElem? (i := 35) rfl))) (mvT hZ (hw _ (List.mem_of_getElem? (i := 36) rfl))) (by decide) (backOf (W := 1) (own_vinit l Z a0 hw [] b22 s2 h22 n0 Zs23 A22 F_name_b22 g_b22) hZ (hw _ (List.mem_of_getElem? (i := 36) rfl)) (hw _ (List.mem_of_getElem? (i := 33) rfl)) (by decide) (by decide)) (g := (mkF m 111 #[.val (.int p1), .val (.int p2), .val (.int p3), .val (.ref b1), .val (.ref sb), .val (.ref s1), .val (.ref s2), .val (.ref b11), .unset, .unset, .unset, .unset, .unset] [(.ref s2), (.ref b22), (.ref b22)])) rfl (by rw [hml]; rfl) (Steps.refl _) (a := b22) (argsL := [(.ref s2)]) (rest := [(.ref b22)]) (lenOf own_pd866964510 rfl) rfl (by show 2 * 0 + _ ≤ _; exact Nat.le_of_eq rfl) (hb hby at_111) (fun _ _ => ⟨rfl, e22, (by decide : 10 + 0 ≤ room_1.cells), (by decide : 26 + 0 ≤ room_1.slots)⟩)
        dsimp only [Pt.U, Pt.locs, Pt.cells, Pt.slots] at X25 l25 y25 z25 st25 hQ25
        subst l25 y25 z25
        obtain ⟨hh25, eh025⟩ : ∃ z, T25.heap = z := ⟨_, rfl⟩
        rw [eh025] at hQ25
        obtain ⟨rfl, Nq25, Kq25, P25_0⟩ := hQ25
        have N25 := Fr.app N14 Nq25
        refine own_tr st25 ?_
        have Zs29 : n0 ≤ hh25.size := Nat.le_trans Zs23 Kq25.1
        show own_Gl _ _ _ _ _ _ _ (T25.setTop (mkF m 114 #[.val (.int p1), .val (.int p2), .val (.int p3), .val (.ref b1), .val (.ref sb), .val (.ref s1), .val (.ref s2), .val (.ref b11), .unset, .unset, .unset, .unset, .unset] [(.ref b22)]))
        refine own_st (fun _ k => XS.astore X25.here hx rfl (hb hby at_114) rfl rfl (l' := #[.val (.int p1), .val (.int p2), .val (.int p3), .val (.ref b1), .val (.ref sb), .val (.ref s1), .val (.ref s2), .val (.ref b11), .val (.ref b22), .unset, .unset, .unset, .unset]) rfl k) ?_
        show own_Gl _ _ _ _ _ _ _ (T25.setTop (mkF m 116 #[.val (.int p1), .val (.int p2), .val (.int p3), .val (.ref b1), .val (.ref sb), .val (.ref s1), .val (.ref s2), .val (.ref b11), .val (.ref b22), .unset, .unset, .unset, .unset] []))
        have f30 := (f26.keep Kq25)
        have f31 := (f27.keep Kq25)
        have f32 := (f28.keep Kq25)
        have f33 := (A22.keep Kq25)
        have K34 : Keep h0 hh25 [] := ((K21.ext E22).trans Kq25 (allS (Or.inr gh_b22) all0))
        obtain ⟨T35, h35, X35, e35, E35, A35, D35, -, st35⟩ := newO X25 hx hZ hown (hw _ (List.mem_of_getElem? (i := 45) rfl)) (hw _ (List.mem_of_getElem? (i := 46) rfl)) (hw _ (List.mem_of_getElem? (i := 47) rfl)) eh025 (g := (mkF m 116 #[.val (.int p1), .val (.int p2), .val (.int p3), .val (.ref b1), .val (.ref sb), .val (.ref s1), .val (.ref s2), .val (.ref b11), .val (.ref b22), .unset, .unset, .unset, .unset] [])) rfl (hb hby at_116) (by decide) (by decide)
        obtain ⟨b35, gb35⟩ : ∃ z, z = hh25.size := ⟨_, rfl⟩
        rw [← gb35] at A35 D35 st35
        refine own_st st35 ?_
        have Zs36 : n0 ≤ h35.size := Nat.le_trans Zs29 E35.1
        have g_b35 : n0 ≤ b35 := Nat.le_trans Zs29 (Nat.le_of_eq gb35.symm)
        have gh_b35 : h0.size ≤ b35 := Nat.le_trans K34.1 (Nat.le_of_eq gb35.symm)
        have ne_s1_b35 : s1 ≠ b35 := Nat.ne_of_lt (Nat.lt_of_lt_of_le f30.lt (Nat.le_of_eq gb35.symm))
        have ne_s2_b35 : s2 ≠ b35 := Nat.ne_of_lt (Nat.lt_of_lt_of_le f31.lt (Nat.le_of_eq gb35.symm))
        have ne_b11_b35 : b11 ≠ b35 := Nat.ne_of_lt (Nat.lt_of_lt_of_le f32.lt (Nat.le_of_eq gb35.symm))
        have ne_b22_b35 : b22 ≠ b35 := Nat.ne_of_lt (Nat.lt_of_lt_of_le f33.lt (Nat.le_of_eq gb35.symm))
        have F_left_b35 : Fld Z h35 b35 "com/example/lehti/lehti/model/Equality" "left" "Lcom/example/lehti/lehti/model/Variable;" .null := D35 (Or.inr (hw _ (List.mem_of_getElem? (i := 53) rfl))) (ty := (.object "com/example/lehti/lehti/model/Variable")) (by decide)
        have F_right_b35 : Fld Z h35 b35 "com/example/lehti/lehti/model/Equality" "right" "Lcom/example/lehti/lehti/model/Variable;" .null := D35 (Or.inr (hw _ (List.mem_of_getElem? (i := 55) rfl))) (ty := (.object "com/example/lehti/lehti/model/Variable")) (by decide)
        show own_Gl _ _ _ _ _ _ _ (T35.setTop (mkF m 119 #[.val (.int p1), .val (.int p2), .val (.int p3), .val (.ref b1), .val (.ref sb), .val (.ref s1), .val (.ref s2), .val (.ref b11), .val (.ref b22), .unset, .unset, .unset, .unset] [(.ref b35)]))
        refine own_st (fun _ k => XS.dup X35.here hx rfl (hb hby at_119) rfl rfl k) ?_
        show own_Gl _ _ _ _ _ _ _ (T35.setTop (mkF m 120 #[.val (.int p1), .val (.int p2), .val (.int p3), .val (.ref b1), .val (.ref sb), .val (.ref s1), .val (.ref s2), .val (.ref b11), .val (.ref b22), .unset, .unset, .unset, .unset] [(.ref b35), (.ref b35)]))
        refine own_st (fun _ k => XS.aload X35.here hx rfl (hb hby at_120) rfl rfl k) ?_
        show own_Gl _ _ _ _ _ _ _ (T35.setTop (mkF m 122 #[.val (.int p1), .val (.int p2), .val (.int p3), .val (.ref b1), .val (.ref sb), .val (.ref s1), .val (.ref s2), .val (.ref b11), .val (.ref b22), .unset, .unset, .unset, .unset] [(.ref b11), (.ref b35), (.ref b35)]))
        refine own_st (fun _ k => XS.aload X35.here hx rfl (hb hby at_122) rfl rfl k) ?_
        show own_Gl _ _ _ _ _ _ _ (T35.setTop (mkF m 124 #[.val (.int p1), .val (.int p2), .val (.int p3), .val (.ref b1), .val (.ref sb), .val (.ref s1), .val (.ref s2), .val (.ref b11), .val (.ref b22), .unset, .unset, .unset, .unset] [(.ref b22), (.ref b11), (.ref b35), (.ref b35)]))
        have f39 := (f30.ext E35)
        have f40 := (f31.ext E35)
        have f41 := (f32.ext E35)
        have f42 := (f33.ext E35)
        obtain ⟨_, _, ⟨T38, L38, k38, n38⟩, -, X38, ⟨Lc38, hQ38, l38, y38, z38⟩, st38⟩ := X35.specialBack hx (y := (⟨"com/example/lehti/lehti/model/Equality", "<init>", "(Lcom/example/lehti/lehti/model/Variable;Lcom/example/lehti/lehti/model/Variable;)V"⟩ : MethodName)) rfl hown (mvT hZ (hw _ (List.mem_of_getElem? (i := 48) rfl))) (mvT hZ (hw _ (List.mem_of_getElem? (i := 49) rfl))) (mvT hZ (hw _ (List.mem_of_getElem? (i := 50) rfl))) (by decide) (backOf (W := 1) (own_einit l Z a0 hw [] b35 b11 b22 h35 n0 Zs36 A35 F_left_b35 F_right_b35 g_b35) hZ (hw _ (List.mem_of_getElem? (i := 50) rfl)) (hw _ (List.mem_of_getElem? (i := 47) rfl)) (by decide) (by decide)) (g := (mkF m 124 #[.val (.int p1), .val (.int p2), .val (.int p3), .val (.ref b1), .val (.ref sb), .val (.ref s1), .val (.ref s2), .val (.ref b11), .val (.ref b22), .unset, .unset, .unset, .unset] [(.ref b22), (.ref b11), (.ref b35), (.ref b35)])) rfl (by rw [hml]; rfl) (Steps.refl _) (a := b35) (argsL := [(.ref b11), (.ref b22)]) (rest := [(.ref b35)]) (lenOf own_pd673833213 rfl) rfl (by show 2 * 0 + _ ≤ _; exact Nat.le_of_eq rfl) (hb hby at_124) (fun _ _ => ⟨rfl, e35, (by decide : 11 + 0 ≤ room_1.cells), (by decide : 28 + 0 ≤ room_1.slots)⟩)
        dsimp only [Pt.U, Pt.locs, Pt.cells, Pt.slots] at X38 l38 y38 z38 st38 hQ38
        subst l38 y38 z38
        obtain ⟨hh38, eh038⟩ : ∃ z, T38.heap = z := ⟨_, rfl⟩
        rw [eh038] at hQ38
        obtain ⟨rfl, Nq38, Kq38, P38_0, P38_1⟩ := hQ38
        have N38 := Fr.app N25 Nq38
        refine own_tr st38 ?_
        have Zs43 : n0 ≤ hh38.size := Nat.le_trans Zs36 Kq38.1
        show own_Gl _ _ _ _ _ _ _ (T38.setTop (mkF m 127 #[.val (.int p1), .val (.int p2), .val (.int p3), .val (.ref b1), .val (.ref sb), .val (.ref s1), .val (.ref s2), .val (.ref b11), .val (.ref b22), .unset, .unset, .unset, .unset] [(.ref b35)]))
        refine own_st (fun _ k => XS.astore X38.here hx rfl (hb hby at_127) rfl rfl (l' := #[.val (.int p1), .val (.int p2), .val (.int p3), .val (.ref b1), .val (.ref sb), .val (.ref s1), .val (.ref s2), .val (.ref b11), .val (.ref b22), .val (.ref b35), .unset, .unset, .unset]) rfl k) ?_
        show own_Gl _ _ _ _ _ _ _ (T38.setTop (mkF m 129 #[.val (.int p1), .val (.int p2), .val (.int p3), .val (.ref b1), .val (.ref sb), .val (.ref s1), .val (.ref s2), .val (.ref b11), .val (.ref b22), .val (.ref b35), .unset, .unset, .unset] []))
        refine own_st (fun _ k => XS.aload X38.here hx rfl (hb hby at_129) rfl rfl k) ?_
        show own_Gl _ _ _ _ _ _ _ (T38.setTop (mkF m 131 #[.val (.int p1), .val (.int p2), .val (.int p3), .val (.ref b1), .val (.ref sb), .val (.ref s1), .val (.ref s2), .val (.ref b11), .val (.ref b22), .val (.ref b35), .unset, .unset, .unset] [(.ref b35)]))
        have f45 := (f39.keep Kq38)
        have f46 := (f40.keep Kq38)
        have f47 := (f41.keep Kq38)
        have f48 := (f42.keep Kq38)
        have f49 := (A35.keep Kq38)
        obtain ⟨cq44, kq44, q44a, q44b, q44c⟩ := isOf hZ eh038 f49
        obtain ⟨_, _, ⟨T44, L44, k44, n44⟩, -, X44, ⟨Lc44, hQ44, l44, y44, z44⟩, st44⟩ := X38.virtualBack hx (y := (⟨"com/example/lehti/lehti/model/Equality", "variables", "()Ljava/util/List;"⟩ : MethodName)) (z := (⟨"com/example/lehti/lehti/model/Equality", "variables", "()Ljava/util/List;"⟩ : MethodName)) hown (mvT hZ (hw _ (List.mem_of_getElem? (i := 56) rfl))) (mvT hZ (hw _ (List.mem_of_getElem? (i := 57) rfl))) (notFace_of_selects (args := #[]) (mvT hZ (hw _ (List.mem_of_getElem? (i := 59) rfl)))) (mvT hZ (hw _ (List.mem_of_getElem? (i := 59) rfl))) (mvT hZ (hw _ (List.mem_of_getElem? (i := 58) rfl))) (by decide) (backOf (W := 0) (own_vars l Z a0 hw [] b35 b11 b22 hh38 n0 Zs43 P38_0 P38_1) hZ (hw _ (List.mem_of_getElem? (i := 60) rfl)) (hw _ (List.mem_of_getElem? (i := 47) rfl)) (by decide) (by decide)) q44a q44c (g := (mkF m 131 #[.val (.int p1), .val (.int p2), .val (.int p3), .val (.ref b1), .val (.ref sb), .val (.ref s1), .val (.ref s2), .val (.ref b11), .val (.ref b22), .val (.ref b35), .unset, .unset, .unset] [(.ref b35)])) rfl (by rw [hml]; rfl) (Steps.refl _) (argsL := []) (rest := []) (lenOf own_pd605148258 rfl) rfl (by show 2 * 0 + _ ≤ _; exact Nat.le_of_eq rfl) (hb hby at_131) (fun _ _ => ⟨rfl, eh038, (by decide : 11 + 1 ≤ room_1.cells), (by decide : 28 + 2 ≤ room_1.slots)⟩)
        dsimp only [Pt.U, Pt.locs, Pt.cells, Pt.slots] at X44 l44 y44 z44 st44 hQ44
        subst l44 y44 z44
        obtain ⟨hh44, eh044⟩ : ∃ z, T44.heap = z := ⟨_, rfl⟩
        rw [eh044] at hQ44
        obtain ⟨r_44, rfl, Nq44, Kq44, P44_0, P44_1, P44_2, P44_3, P44_4⟩ := hQ44
        have N44 := Fr.app N38 Nq44
        refine own_tr st44 ?_
        have K50 : Keep h0 hh38 [] := ((K34.ext E35).trans Kq38 (allS (Or.inr gh_b35) all0))
        have Zs51 : n0 ≤ hh44.size := Nat.le_trans Zs43 Kq44.1
        have gh_r_44 : h0.size ≤ r_44 := Nat.le_trans K50.1 P44_1
        have ne_s1_r_44 : s1 ≠ r_44 := Nat.ne_of_lt (Nat.lt_of_lt_of_le f45.lt P44_1)
        have ne_s2_r_44 : s2 ≠ r_44 := Nat.ne_of_lt (Nat.lt_of_lt_of_le f46.lt P44_1)
        have ne_b11_r_44 : b11 ≠ r_44 := Nat.ne_of_lt (Nat.lt_of_lt_of_le f47.lt P44_1)
        have ne_b22_r_44 : b22 ≠ r_44 := Nat.ne_of_lt (Nat.lt_of_lt_of_le f48.lt P44_1)
        have ne_b35_r_44 : b35 ≠ r_44 := Nat.ne_of_lt (Nat.lt_of_lt_of_le f49.lt P44_1)
        show own_Gl _ _ _ _ _ _ _ (T44.setTop (mkF m 134 #[.val (.int p1), .val (.int p2), .val (.int p3), .val (.ref b1), .val (.ref sb), .val (.ref s1), .val (.ref s2), .val (.ref b11), .val (.ref b22), .val (.ref b35), .unset, .unset, .unset] [(.ref r_44)]))
        refine own_st (fun _ k => XS.astore X44.here hx rfl (hb hby at_134) rfl rfl (l' := #[.val (.int p1), .val (.int p2), .val (.int p3), .val (.ref b1), .val (.ref sb), .val (.ref s1), .val (.ref s2), .val (.ref b11), .val (.ref b22), .val (.ref b35), .val (.ref r_44), .unset, .unset]) rfl k) ?_
        show own_Gl _ _ _ _ _ _ _ (T44.setTop (mkF m 136 #[.val (.int p1), .val (.int p2), .val (.int p3), .val (.ref b1), .val (.ref sb), .val (.ref s1), .val (.ref s2), .val (.ref b11), .val (.ref b22), .val (.ref b35), .val (.ref r_44), .unset, .unset] []))
        refine own_st (fun _ k => XS.aload X44.here hx rfl (hb hby at_136) rfl rfl k) ?_
        show own_Gl _ _ _ _ _ _ _ (T44.setTop (mkF m 138 #[.val (.int p1), .val (.int p2), .val (.int p3), .val (.ref b1), .val (.ref sb), .val (.ref s1), .val (.ref s2), .val (.ref b11), .val (.ref b22), .val (.ref b35), .val (.ref r_44), .unset, .unset] [(.ref r_44)]))
        have f53 := (((((((fj10_2.ext E11).keep Kq14 (allS g_b11 all0)).ext E22).keep Kq25 (allS g_b22 all0)).ext E35).keep Kq38 (allS g_b35 all0)).keep Kq44 all0)
        have f54 := (f45.keep Kq44)
        have f55 := (f46.keep Kq44)
        have f56 := (f47.keep Kq44)
        have f57 := (f48.keep Kq44)
        have f58 := (f49.keep Kq44)
        obtain ⟨cq52, kq52, q52a, q52b, q52c⟩ := isOf hZ eh044 P44_2
        obtain ⟨_, _, ⟨T52, L52, k52, n52⟩, -, X52, ⟨Lc52, hQ52, l52, y52, z52⟩, st52⟩ := X44.interfaceBack hx (xi := (⟨"java/util/List", "size", "()I"⟩ : MethodName)) (y := (⟨"java/util/ImmutableCollections$List12", "size", "()I"⟩ : MethodName)) hown (mvT hZ (hw _ (List.mem_of_getElem? (i := 99) rfl))) (mvT hZ (hw _ (List.mem_of_getElem? (i := 100) rfl))) (mvT hZ (hw _ (List.mem_of_getElem? (i := 101) rfl))) (mvT hZ (hw _ (List.mem_of_getElem? (i := 102) rfl))) (mvT hZ (hw _ (List.mem_of_getElem? (i := 103) rfl))) (mvT hZ (hw _ (List.mem_of_getElem? (i := 104) rfl))) (mvT hZ (hw _ (List.mem_of_getElem? (i := 105) rfl))) (mvT hZ (hw _ (List.mem_of_getElem? (i := 106) rfl))) (by decide) (backOf (W := 0) (own_size l Z a0 hw [] r_44 b22 em hh44 n0 Zs51 P44_4 (S_EMPTY.ext f53.2) (Ne.symm (Old.ne f53 hem g_b22))) hZ (hw _ (List.mem_of_getElem? (i := 107) rfl)) (hw _ (List.mem_of_getElem? (i := 67) rfl)) (by decide) (by decide)) q52a q52b q52c (g := (mkF m 138 #[.val (.int p1), .val (.int p2), .val (.int p3), .val (.ref b1), .val (.ref sb), .val (.ref s1), .val (.ref s2), .val (.ref b11), .val (.ref b22), .val (.ref b35), .val (.ref r_44), .unset, .unset] [(.ref r_44)])) rfl (by rw [hml]; rfl) (Steps.refl _) (argsL := []) (rest := []) (lenOf own_pd691884 rfl) rfl (by show 2 * 0 + _ ≤ _; exact Nat.le_of_eq rfl) (hb hby at_138) (fun _ _ => ⟨rfl, eh044, (by decide : 12 + 0 ≤ room_1.cells), (by decide : 30 + 0 ≤ room_1.slots)⟩)
        dsimp only [Pt.U, Pt.locs, Pt.cells, Pt.slots] at X52 l52 y52 z52 st52 hQ52
        subst l52 y52 z52
        obtain ⟨hh52, eh052⟩ : ∃ z, T52.heap = z := ⟨_, rfl⟩
        rw [eh052] at hQ52
        obtain ⟨rfl, Nq52, eh52⟩ := hQ52
        have N52 := Fr.app N44 Nq52
        refine own_tr st52 ?_
        have e52 : T52.heap = hh44 := eh052.trans eh52
        show own_Gl _ _ _ _ _ _ _ (T52.setTop (mkF m 143 #[.val (.int p1), .val (.int p2), .val (.int p3), .val (.ref b1), .val (.ref sb), .val (.ref s1), .val (.ref s2), .val (.ref b11), .val (.ref b22), .val (.ref b35), .val (.ref r_44), .unset, .unset] [(.int (2 : Int32))]))
        refine own_st (fun _ k => XS.iconst X52.here hx rfl (hb hby at_143) k) ?_
        show own_Gl _ _ _ _ _ _ _ (T52.setTop (mkF m 144 #[.val (.int p1), .val (.int p2), .val (.int p3), .val (.ref b1), .val (.ref sb), .val (.ref s1), .val (.ref s2), .val (.ref b11), .val (.ref b22), .val (.ref b35), .val (.ref r_44), .unset, .unset] [(.int (2 : Int32)), (.int (2 : Int32))]))
        have hd59 : (2 : Int32) = (2 : Int32) := (by decide)
        refine own_st (fun _ k => XS.icmpYes X52.here hx rfl (pc0 := 144) (pc' := 149) rfl (hb hby at_144) rfl (teq hd59).1 (by decide) (by decide) k) ?_
        show own_Gl _ _ _ _ _ _ _ (T52.setTop (mkF m 149 #[.val (.int p1), .val (.int p2), .val (.int p3), .val (.ref b1), .val (.ref sb), .val (.ref s1), .val (.ref s2), .val (.ref b11), .val (.ref b22), .val (.ref b35), .val (.ref r_44), .unset, .unset] []))
        refine own_st (fun _ k => XS.aload X52.here hx rfl (hb hby at_149) rfl rfl k) ?_
        show own_Gl _ _ _ _ _ _ _ (T52.setTop (mkF m 151 #[.val (.int p1), .val (.int p2), .val (.int p3), .val (.ref b1), .val (.ref sb), .val (.ref s1), .val (.ref s2), .val (.ref b11), .val (.ref b22), .val (.ref b35), .val (.ref r_44), .unset, .unset] [(.ref r_44)]))
        refine own_st (fun _ k => XS.iconst X52.here hx rfl (hb hby at_151) k) ?_
        show own_Gl _ _ _ _ _ _ _ (T52.setTop (mkF m 152 #[.val (.int p1), .val (.int p2), .val (.int p3), .val (.ref b1), .val (.ref sb), .val (.ref s1), .val (.ref s2), .val (.ref b11), .val (.ref b22), .val (.ref b35), .val (.ref r_44), .unset, .unset] [(.int (0 : Int32)), (.ref r_44)]))
        obtain ⟨cq60, kq60, q60a, q60b, q60c⟩ := isOf hZ e52 P44_2
        obtain ⟨_, _, ⟨T60, L60, k60, n60⟩, -, X60, ⟨Lc60, hQ60, l60, y60, z60⟩, st60⟩ := X52.interfaceBack hx (xi := (⟨"java/util/List", "get", "(I)Ljava/lang/Object;"⟩ : MethodName)) (y := (⟨"java/util/ImmutableCollections$List12", "get", "(I)Ljava/lang/Object;"⟩ : MethodName)) hown (mvT hZ (hw _ (List.mem_of_getElem? (i := 110) rfl))) (mvT hZ (hw _ (List.mem_of_getElem? (i := 111) rfl))) (mvT hZ (hw _ (List.mem_of_getElem? (i := 112) rfl))) (mvT hZ (hw _ (List.mem_of_getElem? (i := 113) rfl))) (mvT hZ (hw _ (List.mem_of_getElem? (i := 114) rfl))) (mvT hZ (hw _ (List.mem_of_getElem? (i := 115) rfl))) (mvT hZ (hw _ (List.mem_of_getElem? (i := 116) rfl))) (mvT hZ (hw _ (List.mem_of_getElem? (i := 106) rfl))) (by decide) (backOf (W := 0) (own_get0 l Z a0 hw [] r_44 b11 hh44 n0 Zs51 P44_3) hZ (hw _ (List.mem_of_getElem? (i := 117) rfl)) (hw _ (List.mem_of_getElem? (i := 67) rfl)) (by decide) (by decide)) q60a q60b q60c (g := (mkF m 152 #[.val (.int p1), .val (.int p2), .val (.int p3), .val (.ref b1), .val (.ref sb), .val (.ref s1), .val (.ref s2), .val (.ref b11), .val (.ref b22), .val (.ref b35), .val (.ref r_44), .unset, .unset] [(.int (0 : Int32)), (.ref r_44)])) rfl (by rw [hml]; rfl) (Steps.refl _) (argsL := [(.int (0 : Int32))]) (rest := []) (lenOf own_pd516517288 rfl) rfl (by show 2 * 0 + _ ≤ _; exact Nat.le_of_eq rfl) (hb hby at_152) (fun _ _ => ⟨rfl, e52, (by decide : 12 + 0 ≤ room_1.cells), (by decide : 30 + 0 ≤ room_1.slots)⟩)
        dsimp only [Pt.U, Pt.locs, Pt.cells, Pt.slots] at X60 l60 y60 z60 st60 hQ60
        subst l60 y60 z60
        obtain ⟨hh60, eh060⟩ : ∃ z, T60.heap = z := ⟨_, rfl⟩
        rw [eh060] at hQ60
        obtain ⟨rfl, Nq60, eh60⟩ := hQ60
        have N60 := Fr.app N52 Nq60
        refine own_tr st60 ?_
        have e60 : T60.heap = hh44 := eh060.trans eh60
        show own_Gl _ _ _ _ _ _ _ (T60.setTop (mkF m 157 #[.val (.int p1), .val (.int p2), .val (.int p3), .val (.ref b1), .val (.ref sb), .val (.ref s1), .val (.ref s2), .val (.ref b11), .val (.ref b22), .val (.ref b35), .val (.ref r_44), .unset, .unset] [(.ref b11)]))
        obtain ⟨T61, X61, e61, st61⟩ := castY X60 hx hZ hown (hw _ (List.mem_of_getElem? (i := 31) rfl)) e60 (Ins.self f56) (g := (mkF m 157 #[.val (.int p1), .val (.int p2), .val (.int p3), .val (.ref b1), .val (.ref sb), .val (.ref s1), .val (.ref s2), .val (.ref b11), .val (.ref b22), .val (.ref b35), .val (.ref r_44), .unset, .unset] [(.ref b11)])) rfl rfl (hb hby at_157)
        refine own_st st61 ?_
        show own_Gl _ _ _ _ _ _ _ (T61.setTop (mkF m 160 #[.val (.int p1), .val (.int p2), .val (.int p3), .val (.ref b1), .val (.ref sb), .val (.ref s1), .val (.ref s2), .val (.ref b11), .val (.ref b22), .val (.ref b35), .val (.ref r_44), .unset, .unset] [(.ref b11)]))
        refine own_st (fun _ k => XS.astore X61.here hx rfl (hb hby at_160) rfl rfl (l' := #[.val (.int p1), .val (.int p2), .val (.int p3), .val (.ref b1), .val (.ref sb), .val (.ref s1), .val (.ref s2), .val (.ref b11), .val (.ref b22), .val (.ref b35), .val (.ref r_44), .val (.ref b11), .unset]) rfl k) ?_
        show own_Gl _ _ _ _ _ _ _ (T61.setTop (mkF m 162 #[.val (.int p1), .val (.int p2), .val (.int p3), .val (.ref b1), .val (.ref sb), .val (.ref s1), .val (.ref s2), .val (.ref b11), .val (.ref b22), .val (.ref b35), .val (.ref r_44), .val (.ref b11), .unset] []))
        refine own_st (fun _ k => XS.aload X61.here hx rfl (hb hby at_162) rfl rfl k) ?_
        show own_Gl _ _ _ _ _ _ _ (T61.setTop (mkF m 164 #[.val (.int p1), .val (.int p2), .val (.int p3), .val (.ref b1), .val (.ref sb), .val (.ref s1), .val (.ref s2), .val (.ref b11), .val (.ref b22), .val (.ref b35), .val (.ref r_44), .val (.ref b11), .unset] [(.ref r_44)]))
        refine own_st (fun _ k => XS.iconst X61.here hx rfl (hb hby at_164) k) ?_
        show own_Gl _ _ _ _ _ _ _ (T61.setTop (mkF m 165 #[.val (.int p1), .val (.int p2), .val (.int p3), .val (.ref b1), .val (.ref sb), .val (.ref s1), .val (.ref s2), .val (.ref b11), .val (.ref b22), .val (.ref b35), .val (.ref r_44), .val (.ref b11), .unset] [(.int (1 : Int32)), (.ref r_44)]))
        obtain ⟨cq62, kq62, q62a, q62b, q62c⟩ := isOf hZ e61 P44_2
        obtain ⟨_, _, ⟨T62, L62, k62, n62⟩, -, X62, ⟨Lc62, hQ62, l62, y62, z62⟩, st62⟩ := X61.interfaceBack hx (xi := (⟨"java/util/List", "get", "(I)Ljava/lang/Object;"⟩ : MethodName)) (y := (⟨"java/util/ImmutableCollections$List12", "get", "(I)Ljava/lang/Object;"⟩ : MethodName)) hown (mvT hZ (hw _ (List.mem_of_getElem? (i := 110) rfl))) (mvT hZ (hw _ (List.mem_of_getElem? (i := 111) rfl))) (mvT hZ (hw _ (List.mem_of_getElem? (i := 112) rfl))) (mvT hZ (hw _ (List.mem_of_getElem? (i := 113) rfl))) (mvT hZ (hw _ (List.mem_of_getElem? (i := 114) rfl))) (mvT hZ (hw _ (List.mem_of_getElem? (i := 115) rfl))) (mvT hZ (hw _ (List.mem_of_getElem? (i := 116) rfl))) (mvT hZ (hw _ (List.mem_of_getElem? (i := 106) rfl))) (by decide) (backOf (W := 0) (own_get1 l Z a0 hw [] r_44 b22 em hh44 n0 Zs51 P44_4 (S_EMPTY.ext f53.2) (Ne.symm (Old.ne f53 hem g_b22))) hZ (hw _ (List.mem_of_getElem? (i := 117) rfl)) (hw _ (List.mem_of_getElem? (i := 67) rfl)) (by decide) (by decide)) q62a q62b q62c (g := (mkF m 165 #[.val (.int p1), .val (.int p2), .val (.int p3), .val (.ref b1), .val (.ref sb), .val (.ref s1), .val (.ref s2), .val (.ref b11), .val (.ref b22), .val (.ref b35), .val (.ref r_44), .val (.ref b11), .unset] [(.int (1 : Int32)), (.ref r_44)])) rfl (by rw [hml]; rfl) (Steps.refl _) (argsL := [(.int (1 : Int32))]) (rest := []) (lenOf own_pd516517288 rfl) rfl (by show 2 * 0 + _ ≤ _; exact Nat.le_of_eq rfl) (hb hby at_165) (fun _ _ => ⟨rfl, e61, (by decide : 12 + 0 ≤ room_1.cells), (by decide : 30 + 0 ≤ room_1.slots)⟩)
        dsimp only [Pt.U, Pt.locs, Pt.cells, Pt.slots] at X62 l62 y62 z62 st62 hQ62
        subst l62 y62 z62
        obtain ⟨hh62, eh062⟩ : ∃ z, T62.heap = z := ⟨_, rfl⟩
        rw [eh062] at hQ62
        obtain ⟨rfl, Nq62, eh62⟩ := hQ62
        have N62 := Fr.app N60 Nq62
        refine own_tr st62 ?_
        have e62 : T62.heap = hh44 := eh062.trans eh62
        show own_Gl _ _ _ _ _ _ _ (T62.setTop (mkF m 170 #[.val (.int p1), .val (.int p2), .val (.int p3), .val (.ref b1), .val (.ref sb), .val (.ref s1), .val (.ref s2), .val (.ref b11), .val (.ref b22), .val (.ref b35), .val (.ref r_44), .val (.ref b11), .unset] [(.ref b22)]))
        obtain ⟨T63, X63, e63, st63⟩ := castY X62 hx hZ hown (hw _ (List.mem_of_getElem? (i := 31) rfl)) e62 (Ins.self f57) (g := (mkF m 170 #[.val (.int p1), .val (.int p2), .val (.int p3), .val (.ref b1), .val (.ref sb), .val (.ref s1), .val (.ref s2), .val (.ref b11), .val (.ref b22), .val (.ref b35), .val (.ref r_44), .val (.ref b11), .unset] [(.ref b22)])) rfl rfl (hb hby at_170)
        refine own_st st63 ?_
        show own_Gl _ _ _ _ _ _ _ (T63.setTop (mkF m 173 #[.val (.int p1), .val (.int p2), .val (.int p3), .val (.ref b1), .val (.ref sb), .val (.ref s1), .val (.ref s2), .val (.ref b11), .val (.ref b22), .val (.ref b35), .val (.ref r_44), .val (.ref b11), .unset] [(.ref b22)]))
        refine own_st (fun _ k => XS.astore X63.here hx rfl (hb hby at_173) rfl rfl (l' := #[.val (.int p1), .val (.int p2), .val (.int p3), .val (.ref b1), .val (.ref sb), .val (.ref s1), .val (.ref s2), .val (.ref b11), .val (.ref b22), .val (.ref b35), .val (.ref r_44), .val (.ref b11), .val (.ref b22)]) rfl k) ?_
        show own_Gl _ _ _ _ _ _ _ (T63.setTop (mkF m 175 #[.val (.int p1), .val (.int p2), .val (.int p3), .val (.ref b1), .val (.ref sb), .val (.ref s1), .val (.ref s2), .val (.ref b11), .val (.ref b22), .val (.ref b35), .val (.ref r_44), .val (.ref b11), .val (.ref b22)] []))
        refine own_st (fun _ k => XS.aload X63.here hx rfl (hb hby at_175) rfl rfl k) ?_
        show own_Gl _ _ _ _ _ _ _ (T63.setTop (mkF m 177 #[.val (.int p1), .val (.int p2), .val (.int p3), .val (.ref b1), .val (.ref sb), .val (.ref s1), .val (.ref s2), .val (.ref b11), .val (.ref b22), .val (.ref b35), .val (.ref r_44), .val (.ref b11), .val (.ref b22)] [(.ref b11)]))
        have f65 := (((((P14_0.ext E22).keep Kq25 (ninS ne_b11_b22 nin0)).ext E35).keep Kq38 (ninS ne_b11_b35 nin0)).keep Kq44 nin0)
        obtain ⟨cq64, kq64, q64a, q64b, q64c⟩ := isOf hZ e63 f56
        obtain ⟨_, _, ⟨T64, L64, k64, n64⟩, -, X64, ⟨Lc64, hQ64, l64, y64, z64⟩, st64⟩ := X63.virtualBack hx (y := (⟨"com/example/lehti/lehti/model/Variable", "name", "()Ljava/lang/String;"⟩ : MethodName)) (z := (⟨"com/example/lehti/lehti/model/Variable", "name", "()Ljava/lang/String;"⟩ : MethodName)) hown (mvT hZ (hw _ (List.mem_of_getElem? (i := 119) rfl))) (mvT hZ (hw _ (List.mem_of_getElem? (i := 120) rfl))) (notFace_of_selects (args := #[]) (mvT hZ (hw _ (List.mem_of_getElem? (i := 122) rfl)))) (mvT hZ (hw _ (List.mem_of_getElem? (i := 122) rfl))) (mvT hZ (hw _ (List.mem_of_getElem? (i := 121) rfl))) (by decide) (backOf (W := 0) (own_name l Z a0 hw [] b11 s1 hh44 n0 Zs51 f65) hZ (hw _ (List.mem_of_getElem? (i := 123) rfl)) (hw _ (List.mem_of_getElem? (i := 33) rfl)) (by decide) (by decide)) q64a q64c (g := (mkF m 177 #[.val (.int p1), .val (.int p2), .val (.int p3), .val (.ref b1), .val (.ref sb), .val (.ref s1), .val (.ref s2), .val (.ref b11), .val (.ref b22), .val (.ref b35), .val (.ref r_44), .val (.ref b11), .val (.ref b22)] [(.ref b11)])) rfl (by rw [hml]; rfl) (Steps.refl _) (argsL := []) (rest := []) (lenOf own_pd371150679 rfl) rfl (by show 2 * 0 + _ ≤ _; exact Nat.le_of_eq rfl) (hb hby at_177) (fun _ _ => ⟨rfl, e63, (by decide : 12 + 0 ≤ room_1.cells), (by decide : 30 + 0 ≤ room_1.slots)⟩)
        dsimp only [Pt.U, Pt.locs, Pt.cells, Pt.slots] at X64 l64 y64 z64 st64 hQ64
        subst l64 y64 z64
        obtain ⟨hh64, eh064⟩ : ∃ z, T64.heap = z := ⟨_, rfl⟩
        rw [eh064] at hQ64
        obtain ⟨rfl, Nq64, eh64⟩ := hQ64
        have N64 := Fr.app N62 Nq64
        refine own_tr st64 ?_
        have e64 : T64.heap = hh44 := eh064.trans eh64
        show own_Gl _ _ _ _ _ _ _ (T64.setTop (mkF m 180 #[.val (.int p1), .val (.int p2), .val (.int p3), .val (.ref b1), .val (.ref sb), .val (.ref s1), .val (.ref s2), .val (.ref b11), .val (.ref b22), .val (.ref b35), .val (.ref r_44), .val (.ref b11), .val (.ref b22)] [(.ref s1)]))
        refine own_st (fun _ k => XS.aload X64.here hx rfl (hb hby at_180) rfl rfl k) ?_
        show own_Gl _ _ _ _ _ _ _ (T64.setTop (mkF m 182 #[.val (.int p1), .val (.int p2), .val (.int p3), .val (.ref b1), .val (.ref sb), .val (.ref s1), .val (.ref s2), .val (.ref b11), .val (.ref b22), .val (.ref b35), .val (.ref r_44), .val (.ref b11), .val (.ref b22)] [(.ref s1), (.ref s1)]))
        obtain ⟨cq66, kq66, q66a, q66b, q66c⟩ := isOf hZ e64 f54
        obtain ⟨_, _, ⟨T66, L66, k66, n66⟩, -, X66, ⟨Lc66, hQ66, l66, y66, z66⟩, st66⟩ := X64.virtualBack hx (y := (⟨"java/lang/String", "equals", "(Ljava/lang/Object;)Z"⟩ : MethodName)) (z := (⟨"java/lang/String", "equals", "(Ljava/lang/Object;)Z"⟩ : MethodName)) hown (mvT hZ (hw _ (List.mem_of_getElem? (i := 124) rfl))) (mvT hZ (hw _ (List.mem_of_getElem? (i := 125) rfl))) (notFace_of_selects (args := #[]) (mvT hZ (hw _ (List.mem_of_getElem? (i := 127) rfl)))) (mvT hZ (hw _ (List.mem_of_getElem? (i := 127) rfl))) (mvT hZ (hw _ (List.mem_of_getElem? (i := 126) rfl))) (by decide) (backOf (W := 0) (own_seq l Z a0 hw [] s1 hh44 n0 Zs51 ) hZ (hw _ (List.mem_of_getElem? (i := 128) rfl)) (hw _ (List.mem_of_getElem? (i := 4) rfl)) (by decide) (by decide)) q66a q66c (g := (mkF m 182 #[.val (.int p1), .val (.int p2), .val (.int p3), .val (.ref b1), .val (.ref sb), .val (.ref s1), .val (.ref s2), .val (.ref b11), .val (.ref b22), .val (.ref b35), .val (.ref r_44), .val (.ref b11), .val (.ref b22)] [(.ref s1), (.ref s1)])) rfl (by rw [hml]; rfl) (Steps.refl _) (argsL := [(.ref s1)]) (rest := []) (lenOf own_pd963338152 rfl) rfl (by show 2 * 0 + _ ≤ _; exact Nat.le_of_eq rfl) (hb hby at_182) (fun _ _ => ⟨rfl, e64, (by decide : 12 + 0 ≤ room_1.cells), (by decide : 30 + 0 ≤ room_1.slots)⟩)
        dsimp only [Pt.U, Pt.locs, Pt.cells, Pt.slots] at X66 l66 y66 z66 st66 hQ66
        subst l66 y66 z66
        obtain ⟨hh66, eh066⟩ : ∃ z, T66.heap = z := ⟨_, rfl⟩
        rw [eh066] at hQ66
        obtain ⟨rfl, Nq66, eh66⟩ := hQ66
        have N66 := Fr.app N64 Nq66
        refine own_tr st66 ?_
        have e66 : T66.heap = hh44 := eh066.trans eh66
        show own_Gl _ _ _ _ _ _ _ (T66.setTop (mkF m 185 #[.val (.int p1), .val (.int p2), .val (.int p3), .val (.ref b1), .val (.ref sb), .val (.ref s1), .val (.ref s2), .val (.ref b11), .val (.ref b22), .val (.ref b35), .val (.ref r_44), .val (.ref b11), .val (.ref b22)] [(.int (1 : Int32))]))
        have hd67 : ¬ ((1 : Int32) = (0 : Int32)) := (by decide)
        refine own_st (fun _ k => XS.ifNo X66.here hx rfl (hb hby at_185) rfl ((if0 _ _).trans (feq hd67).1) k) ?_
        show own_Gl _ _ _ _ _ _ _ (T66.setTop (mkF m 188 #[.val (.int p1), .val (.int p2), .val (.int p3), .val (.ref b1), .val (.ref sb), .val (.ref s1), .val (.ref s2), .val (.ref b11), .val (.ref b22), .val (.ref b35), .val (.ref r_44), .val (.ref b11), .val (.ref b22)] []))
        refine own_st (fun _ k => XS.aload X66.here hx rfl (hb hby at_188) rfl rfl k) ?_
        show own_Gl _ _ _ _ _ _ _ (T66.setTop (mkF m 190 #[.val (.int p1), .val (.int p2), .val (.int p3), .val (.ref b1), .val (.ref sb), .val (.ref s1), .val (.ref s2), .val (.ref b11), .val (.ref b22), .val (.ref b35), .val (.ref r_44), .val (.ref b11), .val (.ref b22)] [(.ref b22)]))
        have f69 := (((P25_0.ext E35).keep Kq38 (ninS ne_b22_b35 nin0)).keep Kq44 nin0)
        obtain ⟨cq68, kq68, q68a, q68b, q68c⟩ := isOf hZ e66 f57
        obtain ⟨_, _, ⟨T68, L68, k68, n68⟩, -, X68, ⟨Lc68, hQ68, l68, y68, z68⟩, st68⟩ := X66.virtualBack hx (y := (⟨"com/example/lehti/lehti/model/Variable", "name", "()Ljava/lang/String;"⟩ : MethodName)) (z := (⟨"com/example/lehti/lehti/model/Variable", "name", "()Ljava/lang/String;"⟩ : MethodName)) hown (mvT hZ (hw _ (List.mem_of_getElem? (i := 119) rfl))) (mvT hZ (hw _ (List.mem_of_getElem? (i := 120) rfl))) (notFace_of_selects (args := #[]) (mvT hZ (hw _ (List.mem_of_getElem? (i := 122) rfl)))) (mvT hZ (hw _ (List.mem_of_getElem? (i := 122) rfl))) (mvT hZ (hw _ (List.mem_of_getElem? (i := 121) rfl))) (by decide) (backOf (W := 0) (own_name l Z a0 hw [] b22 s2 hh44 n0 Zs51 f69) hZ (hw _ (List.mem_of_getElem? (i := 123) rfl)) (hw _ (List.mem_of_getElem? (i := 33) rfl)) (by decide) (by decide)) q68a q68c (g := (mkF m 190 #[.val (.int p1), .val (.int p2), .val (.int p3), .val (.ref b1), .val (.ref sb), .val (.ref s1), .val (.ref s2), .val (.ref b11), .val (.ref b22), .val (.ref b35), .val (.ref r_44), .val (.ref b11), .val (.ref b22)] [(.ref b22)])) rfl (by rw [hml]; rfl) (Steps.refl _) (argsL := []) (rest := []) (lenOf own_pd371150679 rfl) rfl (by show 2 * 0 + _ ≤ _; exact Nat.le_of_eq rfl) (hb hby at_190) (fun _ _ => ⟨rfl, e66, (by decide : 12 + 0 ≤ room_1.cells), (by decide : 30 + 0 ≤ room_1.slots)⟩)
        dsimp only [Pt.U, Pt.locs, Pt.cells, Pt.slots] at X68 l68 y68 z68 st68 hQ68
        subst l68 y68 z68
        obtain ⟨hh68, eh068⟩ : ∃ z, T68.heap = z := ⟨_, rfl⟩
        rw [eh068] at hQ68
        obtain ⟨rfl, Nq68, eh68⟩ := hQ68
        have N68 := Fr.app N66 Nq68
        refine own_tr st68 ?_
        have e68 : T68.heap = hh44 := eh068.trans eh68
        show own_Gl _ _ _ _ _ _ _ (T68.setTop (mkF m 193 #[.val (.int p1), .val (.int p2), .val (.int p3), .val (.ref b1), .val (.ref sb), .val (.ref s1), .val (.ref s2), .val (.ref b11), .val (.ref b22), .val (.ref b35), .val (.ref r_44), .val (.ref b11), .val (.ref b22)] [(.ref s2)]))
        refine own_st (fun _ k => XS.aload X68.here hx rfl (hb hby at_193) rfl rfl k) ?_
        show own_Gl _ _ _ _ _ _ _ (T68.setTop (mkF m 195 #[.val (.int p1), .val (.int p2), .val (.int p3), .val (.ref b1), .val (.ref sb), .val (.ref s1), .val (.ref s2), .val (.ref b11), .val (.ref b22), .val (.ref b35), .val (.ref r_44), .val (.ref b11), .val (.ref b22)] [(.ref s2), (.ref s2)]))
        obtain ⟨cq70, kq70, q70a, q70b, q70c⟩ := isOf hZ e68 f55
        obtain ⟨_, _, ⟨T70, L70, k70, n70⟩, -, X70, ⟨Lc70, hQ70, l70, y70, z70⟩, st70⟩ := X68.virtualBack hx (y := (⟨"java/lang/String", "equals", "(Ljava/lang/Object;)Z"⟩ : MethodName)) (z := (⟨"java/lang/String", "equals", "(Ljava/lang/Object;)Z"⟩ : MethodName)) hown (mvT hZ (hw _ (List.mem_of_getElem? (i := 124) rfl))) (mvT hZ (hw _ (List.mem_of_getElem? (i := 125) rfl))) (notFace_of_selects (args := #[]) (mvT hZ (hw _ (List.mem_of_getElem? (i := 127) rfl)))) (mvT hZ (hw _ (List.mem_of_getElem? (i := 127) rfl))) (mvT hZ (hw _ (List.mem_of_getElem? (i := 126) rfl))) (by decide) (backOf (W := 0) (own_seq l Z a0 hw [] s2 hh44 n0 Zs51 ) hZ (hw _ (List.mem_of_getElem? (i := 128) rfl)) (hw _ (List.mem_of_getElem? (i := 4) rfl)) (by decide) (by decide)) q70a q70c (g := (mkF m 195 #[.val (.int p1), .val (.int p2), .val (.int p3), .val (.ref b1), .val (.ref sb), .val (.ref s1), .val (.ref s2), .val (.ref b11), .val (.ref b22), .val (.ref b35), .val (.ref r_44), .val (.ref b11), .val (.ref b22)] [(.ref s2), (.ref s2)])) rfl (by rw [hml]; rfl) (Steps.refl _) (argsL := [(.ref s2)]) (rest := []) (lenOf own_pd963338152 rfl) rfl (by show 2 * 0 + _ ≤ _; exact Nat.le_of_eq rfl) (hb hby at_195) (fun _ _ => ⟨rfl, e68, (by decide : 12 + 0 ≤ room_1.cells), (by decide : 30 + 0 ≤ room_1.slots)⟩)
        dsimp only [Pt.U, Pt.locs, Pt.cells, Pt.slots] at X70 l70 y70 z70 st70 hQ70
        subst l70 y70 z70
        obtain ⟨hh70, eh070⟩ : ∃ z, T70.heap = z := ⟨_, rfl⟩
        rw [eh070] at hQ70
        obtain ⟨rfl, Nq70, eh70⟩ := hQ70
        have N70 := Fr.app N68 Nq70
        refine own_tr st70 ?_
        have e70 : T70.heap = hh44 := eh070.trans eh70
        show own_Gl _ _ _ _ _ _ _ (T70.setTop (mkF m 198 #[.val (.int p1), .val (.int p2), .val (.int p3), .val (.ref b1), .val (.ref sb), .val (.ref s1), .val (.ref s2), .val (.ref b11), .val (.ref b22), .val (.ref b35), .val (.ref r_44), .val (.ref b11), .val (.ref b22)] [(.int (1 : Int32))]))
        have hd71 : ¬ ((1 : Int32) = (0 : Int32)) := (by decide)
        refine own_st (fun _ k => XS.ifNo X70.here hx rfl (hb hby at_198) rfl ((if0 _ _).trans (feq hd71).1) k) ?_
        show own_Gl _ _ _ _ _ _ _ (T70.setTop (mkF m 201 #[.val (.int p1), .val (.int p2), .val (.int p3), .val (.ref b1), .val (.ref sb), .val (.ref s1), .val (.ref s2), .val (.ref b11), .val (.ref b22), .val (.ref b35), .val (.ref r_44), .val (.ref b11), .val (.ref b22)] []))
        refine own_st (fun _ k => XS.iconst X70.here hx rfl (hb hby at_201) k) ?_
        show own_Gl _ _ _ _ _ _ _ (T70.setTop (mkF m 202 #[.val (.int p1), .val (.int p2), .val (.int p3), .val (.ref b1), .val (.ref sb), .val (.ref s1), .val (.ref s2), .val (.ref b11), .val (.ref b22), .val (.ref b35), .val (.ref r_44), .val (.ref b11), .val (.ref b22)] [(.int (1 : Int32))]))
        refine own_st (fun _ k => XS.goto X70.here hx rfl (pc0 := 202) (pc' := 206) rfl (hb hby at_202) (by decide) (by decide) k) ?_
        show own_Gl _ _ _ _ _ _ _ (T70.setTop (mkF m 206 #[.val (.int p1), .val (.int p2), .val (.int p3), .val (.ref b1), .val (.ref sb), .val (.ref s1), .val (.ref s2), .val (.ref b11), .val (.ref b22), .val (.ref b35), .val (.ref r_44), .val (.ref b11), .val (.ref b22)] [(.int (1 : Int32))]))
        exact own_retN X70 hx hlk (t := .boolean) hret (by simp) (hb hby at_206) e70 ⟨rfl, N70⟩ (by decide) (by decide)
      by_cases hqa : (255 : Int32) < w0
      · show own_Gl _ _ _ _ _ _ _ (T9.setTop (mkF m 83 #[.val (.int p1), .val (.int p2), .val (.int p3), .val (.ref b1), .val (.ref sb), .val (.ref s1), .unset, .unset, .unset, .unset, .unset, .unset, .unset] []))
        obtain ⟨T72, h72, X72, e72, E72, A72, D72, -, st72⟩ := newO X9 hx hZ hown (hw _ (List.mem_of_getElem? (i := 2) rfl)) (hw _ (List.mem_of_getElem? (i := 3) rfl)) (hw _ (List.mem_of_getElem? (i := 4) rfl)) e9 (g := (mkF m 83 #[.val (.int p1), .val (.int p2), .val (.int p3), .val (.ref b1), .val (.ref sb), .val (.ref s1), .unset, .unset, .unset, .unset, .unset, .unset, .unset] [])) rfl (hb hby at_83) (by decide) (by decide)
        obtain ⟨b72, gb72⟩ : ∃ z, z = h9.size := ⟨_, rfl⟩
        rw [← gb72] at A72 D72 st72
        refine own_st st72 ?_
        have Zs73 : n0 ≤ h72.size := Nat.le_trans Zs9 E72.1
        have g_b72 : n0 ≤ b72 := Nat.le_trans Zs9 (Nat.le_of_eq gb72.symm)
        have gh_b72 : h0.size ≤ b72 := Nat.le_trans Kj9.1 (Nat.le_of_eq gb72.symm)
        have ne_s1_b72 : s1 ≠ b72 := Nat.ne_of_lt (Nat.lt_of_lt_of_le fj9_0.lt (Nat.le_of_eq gb72.symm))
        have ne_sb_b72 : sb ≠ b72 := Nat.ne_of_lt (Nat.lt_of_lt_of_le fj9_1.lt (Nat.le_of_eq gb72.symm))
        have F_coder_b72 : Fld Z h72 b72 "java/lang/String" "coder" "B" (.int (0 : Int32)) := D72 (Or.inr (hw _ (List.mem_of_getElem? (i := 28) rfl))) (ty := .byte) (by decide)
        have F_value_b72 : Fld Z h72 b72 "java/lang/String" "value" "[B" .null := D72 (Or.inr (hw _ (List.mem_of_getElem? (i := 30) rfl))) (ty := (.array .byte)) (by decide)
        show own_Gl _ _ _ _ _ _ _ (T72.setTop (mkF m 86 #[.val (.int p1), .val (.int p2), .val (.int p3), .val (.ref b1), .val (.ref sb), .val (.ref s1), .unset, .unset, .unset, .unset, .unset, .unset, .unset] [(.ref b72)]))
        refine own_st (fun _ k => XS.dup X72.here hx rfl (hb hby at_86) rfl rfl k) ?_
        show own_Gl _ _ _ _ _ _ _ (T72.setTop (mkF m 87 #[.val (.int p1), .val (.int p2), .val (.int p3), .val (.ref b1), .val (.ref sb), .val (.ref s1), .unset, .unset, .unset, .unset, .unset, .unset, .unset] [(.ref b72), (.ref b72)]))
        refine own_st (fun _ k => XS.aload X72.here hx rfl (hb hby at_87) rfl rfl k) ?_
        show own_Gl _ _ _ _ _ _ _ (T72.setTop (mkF m 89 #[.val (.int p1), .val (.int p2), .val (.int p3), .val (.ref b1), .val (.ref sb), .val (.ref s1), .unset, .unset, .unset, .unset, .unset, .unset, .unset] [(.ref sb), (.ref b72), (.ref b72)]))
        have f76 := (fj9_1.ext E72)
        have f77 := (fj9_2.ext E72)
        have f78 := (fj9_0.ext E72)
        obtain ⟨_, _, ⟨T75, L75, k75, n75⟩, -, X75, ⟨Lc75, hQ75, l75, y75, z75⟩, st75⟩ := X72.specialBack hx (y := (⟨"java/lang/String", "<init>", "([C)V"⟩ : MethodName)) rfl hown (mvT hZ (hw _ (List.mem_of_getElem? (i := 5) rfl))) (mvT hZ (hw _ (List.mem_of_getElem? (i := 6) rfl))) (mvT hZ (hw _ (List.mem_of_getElem? (i := 7) rfl))) (by decide) (backOf (W := 1) (own_i1_2_0 l Z a0 hw [] b72 sb kb w0 w1 cs h72 n0 Zs73 A72 F_value_b72 F_coder_b72 g_b72 (Ne.symm ne_sb_b72) f76 hqa S_COMPACT_STRINGS hcs f77 S__assertionsDisabled S_HI_BYTE_SHIFT S_LO_BYTE_SHIFT hw0 hw1) hZ (hw _ (List.mem_of_getElem? (i := 7) rfl)) (hw _ (List.mem_of_getElem? (i := 4) rfl)) (by decide) (by decide)) (g := (mkF m 89 #[.val (.int p1), .val (.int p2), .val (.int p3), .val (.ref b1), .val (.ref sb), .val (.ref s1), .unset, .unset, .unset, .unset, .unset, .unset, .unset] [(.ref sb), (.ref b72), (.ref b72)])) rfl (by rw [hml]; rfl) (Steps.refl _) (a := b72) (argsL := [(.ref sb)]) (rest := [(.ref b72)]) (lenOf own_pd985728365 rfl) rfl (by show 2 * 0 + _ ≤ _; exact Nat.le_of_eq rfl) (hb hby at_89) (fun _ _ => ⟨rfl, e72, (by decide : 6 + 2 ≤ room_1.cells), (by decide : 18 + 6 ≤ room_1.slots)⟩)
        dsimp only [Pt.U, Pt.locs, Pt.cells, Pt.slots] at X75 l75 y75 z75 st75 hQ75
        subst l75 y75 z75
        obtain ⟨hh75, eh075⟩ : ∃ z, T75.heap = z := ⟨_, rfl⟩
        rw [eh075] at hQ75
        obtain ⟨r_75, kr_75, rfl, Nq75, Kq75, P75_0, P75_1, P75_2, P75_3, P75_4⟩ := hQ75
        have N75 := Fr.app N9 Nq75
        refine own_tr st75 ?_
        have K79 : Keep h0 h72 [] := (Kj9.ext E72)
        have Zs80 : n0 ≤ hh75.size := Nat.le_trans Zs73 Kq75.1
        have gh_r_75 : h0.size ≤ r_75 := Nat.le_trans K79.1 P75_1
        have ne_s1_r_75 : s1 ≠ r_75 := Nat.ne_of_lt (Nat.lt_of_lt_of_le f78.lt P75_1)
        have ne_sb_r_75 : sb ≠ r_75 := Nat.ne_of_lt (Nat.lt_of_lt_of_le f76.lt P75_1)
        have ne_b72_r_75 : b72 ≠ r_75 := Nat.ne_of_lt (Nat.lt_of_lt_of_le A72.lt P75_1)
        show own_Gl _ _ _ _ _ _ _ (T75.setTop (mkF m 92 #[.val (.int p1), .val (.int p2), .val (.int p3), .val (.ref b1), .val (.ref sb), .val (.ref s1), .unset, .unset, .unset, .unset, .unset, .unset, .unset] [(.ref b72)]))
        refine own_st (fun _ k => XS.astore X75.here hx rfl (hb hby at_92) rfl rfl (l' := #[.val (.int p1), .val (.int p2), .val (.int p3), .val (.ref b1), .val (.ref sb), .val (.ref s1), .val (.ref b72), .unset, .unset, .unset, .unset, .unset, .unset]) rfl k) ?_
        show own_Gl _ _ _ _ _ _ _ (T75.setTop (mkF m 94 #[.val (.int p1), .val (.int p2), .val (.int p3), .val (.ref b1), .val (.ref sb), .val (.ref s1), .val (.ref b72), .unset, .unset, .unset, .unset, .unset, .unset] []))
        have K81 : Keep h0 hh75 [] := (K79.trans Kq75 (allS (Or.inr gh_b72) all0))
        have f82 := (f78.keep Kq75)
        have f83 := (A72.keep Kq75)
        have f84 := (f77.keep Kq75 (allS g_b72 all0))
        show own_Gl _ _ _ _ _ _ _ (T75.setTop (mkF m 94 #[.val (.int p1), .val (.int p2), .val (.int p3), .val (.ref b1), .val (.ref sb), .val (.ref s1), .val (.ref b72), .unset, .unset, .unset, .unset, .unset, .unset] []))
        exact J94_10 T75 _ N75 X75 _ eh075 (b72) Zs80 K81 f82 f83 f84
      · by_cases hqb : (255 : Int32) < w1
        · show own_Gl _ _ _ _ _ _ _ (T9.setTop (mkF m 83 #[.val (.int p1), .val (.int p2), .val (.int p3), .val (.ref b1), .val (.ref sb), .val (.ref s1), .unset, .unset, .unset, .unset, .unset, .unset, .unset] []))
          obtain ⟨T85, h85, X85, e85, E85, A85, D85, -, st85⟩ := newO X9 hx hZ hown (hw _ (List.mem_of_getElem? (i := 2) rfl)) (hw _ (List.mem_of_getElem? (i := 3) rfl)) (hw _ (List.mem_of_getElem? (i := 4) rfl)) e9 (g := (mkF m 83 #[.val (.int p1), .val (.int p2), .val (.int p3), .val (.ref b1), .val (.ref sb), .val (.ref s1), .unset, .unset, .unset, .unset, .unset, .unset, .unset] [])) rfl (hb hby at_83) (by decide) (by decide)
          obtain ⟨b85, gb85⟩ : ∃ z, z = h9.size := ⟨_, rfl⟩
          rw [← gb85] at A85 D85 st85
          refine own_st st85 ?_
          have Zs86 : n0 ≤ h85.size := Nat.le_trans Zs9 E85.1
          have g_b85 : n0 ≤ b85 := Nat.le_trans Zs9 (Nat.le_of_eq gb85.symm)
          have gh_b85 : h0.size ≤ b85 := Nat.le_trans Kj9.1 (Nat.le_of_eq gb85.symm)
          have ne_s1_b85 : s1 ≠ b85 := Nat.ne_of_lt (Nat.lt_of_lt_of_le fj9_0.lt (Nat.le_of_eq gb85.symm))
          have ne_sb_b85 : sb ≠ b85 := Nat.ne_of_lt (Nat.lt_of_lt_of_le fj9_1.lt (Nat.le_of_eq gb85.symm))
          have F_coder_b85 : Fld Z h85 b85 "java/lang/String" "coder" "B" (.int (0 : Int32)) := D85 (Or.inr (hw _ (List.mem_of_getElem? (i := 28) rfl))) (ty := .byte) (by decide)
          have F_value_b85 : Fld Z h85 b85 "java/lang/String" "value" "[B" .null := D85 (Or.inr (hw _ (List.mem_of_getElem? (i := 30) rfl))) (ty := (.array .byte)) (by decide)
          show own_Gl _ _ _ _ _ _ _ (T85.setTop (mkF m 86 #[.val (.int p1), .val (.int p2), .val (.int p3), .val (.ref b1), .val (.ref sb), .val (.ref s1), .unset, .unset, .unset, .unset, .unset, .unset, .unset] [(.ref b85)]))
          refine own_st (fun _ k => XS.dup X85.here hx rfl (hb hby at_86) rfl rfl k) ?_
          show own_Gl _ _ _ _ _ _ _ (T85.setTop (mkF m 87 #[.val (.int p1), .val (.int p2), .val (.int p3), .val (.ref b1), .val (.ref sb), .val (.ref s1), .unset, .unset, .unset, .unset, .unset, .unset, .unset] [(.ref b85), (.ref b85)]))
          refine own_st (fun _ k => XS.aload X85.here hx rfl (hb hby at_87) rfl rfl k) ?_
          show own_Gl _ _ _ _ _ _ _ (T85.setTop (mkF m 89 #[.val (.int p1), .val (.int p2), .val (.int p3), .val (.ref b1), .val (.ref sb), .val (.ref s1), .unset, .unset, .unset, .unset, .unset, .unset, .unset] [(.ref sb), (.ref b85), (.ref b85)]))
          have f89 := (fj9_1.ext E85)
          have f90 := (fj9_2.ext E85)
          have f91 := (fj9_0.ext E85)
          obtain ⟨_, _, ⟨T88, L88, k88, n88⟩, -, X88, ⟨Lc88, hQ88, l88, y88, z88⟩, st88⟩ := X85.specialBack hx (y := (⟨"java/lang/String", "<init>", "([C)V"⟩ : MethodName)) rfl hown (mvT hZ (hw _ (List.mem_of_getElem? (i := 5) rfl))) (mvT hZ (hw _ (List.mem_of_getElem? (i := 6) rfl))) (mvT hZ (hw _ (List.mem_of_getElem? (i := 7) rfl))) (by decide) (backOf (W := 1) (own_i1_2_1 l Z a0 hw [] b85 sb kb w0 w1 cs h85 n0 Zs86 A85 F_value_b85 F_coder_b85 g_b85 (Ne.symm ne_sb_b85) f89 hqa hqb S_COMPACT_STRINGS hcs f90 S__assertionsDisabled S_HI_BYTE_SHIFT S_LO_BYTE_SHIFT hw0 hw1) hZ (hw _ (List.mem_of_getElem? (i := 7) rfl)) (hw _ (List.mem_of_getElem? (i := 4) rfl)) (by decide) (by decide)) (g := (mkF m 89 #[.val (.int p1), .val (.int p2), .val (.int p3), .val (.ref b1), .val (.ref sb), .val (.ref s1), .unset, .unset, .unset, .unset, .unset, .unset, .unset] [(.ref sb), (.ref b85), (.ref b85)])) rfl (by rw [hml]; rfl) (Steps.refl _) (a := b85) (argsL := [(.ref sb)]) (rest := [(.ref b85)]) (lenOf own_pd985728365 rfl) rfl (by show 2 * 0 + _ ≤ _; exact Nat.le_of_eq rfl) (hb hby at_89) (fun _ _ => ⟨rfl, e85, (by decide : 6 + 2 ≤ room_1.cells), (by decide : 18 + 6 ≤ room_1.slots)⟩)
          dsimp only [Pt.U, Pt.locs, Pt.cells, Pt.slots] at X88 l88 y88 z88 st88 hQ88
          subst l88 y88 z88
          obtain ⟨hh88, eh088⟩ : ∃ z, T88.heap = z := ⟨_, rfl⟩
          rw [eh088] at hQ88
          obtain ⟨r_88, kr_88, rfl, Nq88, Kq88, P88_0, P88_1, P88_2, P88_3, P88_4⟩ := hQ88
          have N88 := Fr.app N9 Nq88
          refine own_tr st88 ?_
          have K92 : Keep h0 h85 [] := (Kj9.ext E85)
          have Zs93 : n0 ≤ hh88.size := Nat.le_trans Zs86 Kq88.1
          have gh_r_88 : h0.size ≤ r_88 := Nat.le_trans K92.1 P88_1
          have ne_s1_r_88 : s1 ≠ r_88 := Nat.ne_of_lt (Nat.lt_of_lt_of_le f91.lt P88_1)
          have ne_sb_r_88 : sb ≠ r_88 := Nat.ne_of_lt (Nat.lt_of_lt_of_le f89.lt P88_1)
          have ne_b85_r_88 : b85 ≠ r_88 := Nat.ne_of_lt (Nat.lt_of_lt_of_le A85.lt P88_1)
          show own_Gl _ _ _ _ _ _ _ (T88.setTop (mkF m 92 #[.val (.int p1), .val (.int p2), .val (.int p3), .val (.ref b1), .val (.ref sb), .val (.ref s1), .unset, .unset, .unset, .unset, .unset, .unset, .unset] [(.ref b85)]))
          refine own_st (fun _ k => XS.astore X88.here hx rfl (hb hby at_92) rfl rfl (l' := #[.val (.int p1), .val (.int p2), .val (.int p3), .val (.ref b1), .val (.ref sb), .val (.ref s1), .val (.ref b85), .unset, .unset, .unset, .unset, .unset, .unset]) rfl k) ?_
          show own_Gl _ _ _ _ _ _ _ (T88.setTop (mkF m 94 #[.val (.int p1), .val (.int p2), .val (.int p3), .val (.ref b1), .val (.ref sb), .val (.ref s1), .val (.ref b85), .unset, .unset, .unset, .unset, .unset, .unset] []))
          have K94 : Keep h0 hh88 [] := (K92.trans Kq88 (allS (Or.inr gh_b85) all0))
          have f95 := (f91.keep Kq88)
          have f96 := (A85.keep Kq88)
          have f97 := (f90.keep Kq88 (allS g_b85 all0))
          show own_Gl _ _ _ _ _ _ _ (T88.setTop (mkF m 94 #[.val (.int p1), .val (.int p2), .val (.int p3), .val (.ref b1), .val (.ref sb), .val (.ref s1), .val (.ref b85), .unset, .unset, .unset, .unset, .unset, .unset] []))
          exact J94_10 T88 _ N88 X88 _ eh088 (b85) Zs93 K94 f95 f96 f97
        · show own_Gl _ _ _ _ _ _ _ (T9.setTop (mkF m 83 #[.val (.int p1), .val (.int p2), .val (.int p3), .val (.ref b1), .val (.ref sb), .val (.ref s1), .unset, .unset, .unset, .unset, .unset, .unset, .unset] []))
          obtain ⟨T98, h98, X98, e98, E98, A98, D98, -, st98⟩ := newO X9 hx hZ hown (hw _ (List.mem_of_getElem? (i := 2) rfl)) (hw _ (List.mem_of_getElem? (i := 3) rfl)) (hw _ (List.mem_of_getElem? (i := 4) rfl)) e9 (g := (mkF m 83 #[.val (.int p1), .val (.int p2), .val (.int p3), .val (.ref b1), .val (.ref sb), .val (.ref s1), .unset, .unset, .unset, .unset, .unset, .unset, .unset] [])) rfl (hb hby at_83) (by decide) (by decide)
          obtain ⟨b98, gb98⟩ : ∃ z, z = h9.size := ⟨_, rfl⟩
          rw [← gb98] at A98 D98 st98
          refine own_st st98 ?_
          have Zs99 : n0 ≤ h98.size := Nat.le_trans Zs9 E98.1
          have g_b98 : n0 ≤ b98 := Nat.le_trans Zs9 (Nat.le_of_eq gb98.symm)
          have gh_b98 : h0.size ≤ b98 := Nat.le_trans Kj9.1 (Nat.le_of_eq gb98.symm)
          have ne_s1_b98 : s1 ≠ b98 := Nat.ne_of_lt (Nat.lt_of_lt_of_le fj9_0.lt (Nat.le_of_eq gb98.symm))
          have ne_sb_b98 : sb ≠ b98 := Nat.ne_of_lt (Nat.lt_of_lt_of_le fj9_1.lt (Nat.le_of_eq gb98.symm))
          have F_coder_b98 : Fld Z h98 b98 "java/lang/String" "coder" "B" (.int (0 : Int32)) := D98 (Or.inr (hw _ (List.mem_of_getElem? (i := 28) rfl))) (ty := .byte) (by decide)
          have F_value_b98 : Fld Z h98 b98 "java/lang/String" "value" "[B" .null := D98 (Or.inr (hw _ (List.mem_of_getElem? (i := 30) rfl))) (ty := (.array .byte)) (by decide)
          show own_Gl _ _ _ _ _ _ _ (T98.setTop (mkF m 86 #[.val (.int p1), .val (.int p2), .val (.int p3), .val (.ref b1), .val (.ref sb), .val (.ref s1), .unset, .unset, .unset, .unset, .unset, .unset, .unset] [(.ref b98)]))
          refine own_st (fun _ k => XS.dup X98.here hx rfl (hb hby at_86) rfl rfl k) ?_
          show own_Gl _ _ _ _ _ _ _ (T98.setTop (mkF m 87 #[.val (.int p1), .val (.int p2), .val (.int p3), .val (.ref b1), .val (.ref sb), .val (.ref s1), .unset, .unset, .unset, .unset, .unset, .unset, .unset] [(.ref b98), (.ref b98)]))
          refine own_st (fun _ k => XS.aload X98.here hx rfl (hb hby at_87) rfl rfl k) ?_
          show own_Gl _ _ _ _ _ _ _ (T98.setTop (mkF m 89 #[.val (.int p1), .val (.int p2), .val (.int p3), .val (.ref b1), .val (.ref sb), .val (.ref s1), .unset, .unset, .unset, .unset, .unset, .unset, .unset] [(.ref sb), (.ref b98), (.ref b98)]))
          have f102 := (fj9_1.ext E98)
          have f103 := (fj9_2.ext E98)
          have f104 := (fj9_0.ext E98)
          obtain ⟨_, _, ⟨T101, L101, k101, n101⟩, -, X101, ⟨Lc101, hQ101, l101, y101, z101⟩, st101⟩ := X98.specialBack hx (y := (⟨"java/lang/String", "<init>", "([C)V"⟩ : MethodName)) rfl hown (mvT hZ (hw _ (List.mem_of_getElem? (i := 5) rfl))) (mvT hZ (hw _ (List.mem_of_getElem? (i := 6) rfl))) (mvT hZ (hw _ (List.mem_of_getElem? (i := 7) rfl))) (by decide) (backOf (W := 1) (own_i1_2_2 l Z a0 hw [] b98 sb kb w0 w1 cs h98 n0 Zs99 A98 F_value_b98 F_coder_b98 g_b98 (Ne.symm ne_sb_b98) f102 hqa hqb S_COMPACT_STRINGS hcs f103) hZ (hw _ (List.mem_of_getElem? (i := 7) rfl)) (hw _ (List.mem_of_getElem? (i := 4) rfl)) (by decide) (by decide)) (g := (mkF m 89 #[.val (.int p1), .val (.int p2), .val (.int p3), .val (.ref b1), .val (.ref sb), .val (.ref s1), .unset, .unset, .unset, .unset, .unset, .unset, .unset] [(.ref sb), (.ref b98), (.ref b98)])) rfl (by rw [hml]; rfl) (Steps.refl _) (a := b98) (argsL := [(.ref sb)]) (rest := [(.ref b98)]) (lenOf own_pd985728365 rfl) rfl (by show 2 * 0 + _ ≤ _; exact Nat.le_of_eq rfl) (hb hby at_89) (fun _ _ => ⟨rfl, e98, (by decide : 6 + 1 ≤ room_1.cells), (by decide : 18 + 2 ≤ room_1.slots)⟩)
          dsimp only [Pt.U, Pt.locs, Pt.cells, Pt.slots] at X101 l101 y101 z101 st101 hQ101
          subst l101 y101 z101
          obtain ⟨hh101, eh0101⟩ : ∃ z, T101.heap = z := ⟨_, rfl⟩
          rw [eh0101] at hQ101
          obtain ⟨r_101, kr_101, rfl, Nq101, Kq101, P101_0, P101_1, P101_2, P101_3, P101_4⟩ := hQ101
          have N101 := Fr.app N9 Nq101
          refine own_tr st101 ?_
          have K105 : Keep h0 h98 [] := (Kj9.ext E98)
          have Zs106 : n0 ≤ hh101.size := Nat.le_trans Zs99 Kq101.1
          have gh_r_101 : h0.size ≤ r_101 := Nat.le_trans K105.1 P101_1
          have ne_s1_r_101 : s1 ≠ r_101 := Nat.ne_of_lt (Nat.lt_of_lt_of_le f104.lt P101_1)
          have ne_sb_r_101 : sb ≠ r_101 := Nat.ne_of_lt (Nat.lt_of_lt_of_le f102.lt P101_1)
          have ne_b98_r_101 : b98 ≠ r_101 := Nat.ne_of_lt (Nat.lt_of_lt_of_le A98.lt P101_1)
          show own_Gl _ _ _ _ _ _ _ (T101.setTop (mkF m 92 #[.val (.int p1), .val (.int p2), .val (.int p3), .val (.ref b1), .val (.ref sb), .val (.ref s1), .unset, .unset, .unset, .unset, .unset, .unset, .unset] [(.ref b98)]))
          refine own_st (fun _ k => XS.astore X101.here hx rfl (hb hby at_92) rfl rfl (l' := #[.val (.int p1), .val (.int p2), .val (.int p3), .val (.ref b1), .val (.ref sb), .val (.ref s1), .val (.ref b98), .unset, .unset, .unset, .unset, .unset, .unset]) rfl k) ?_
          show own_Gl _ _ _ _ _ _ _ (T101.setTop (mkF m 94 #[.val (.int p1), .val (.int p2), .val (.int p3), .val (.ref b1), .val (.ref sb), .val (.ref s1), .val (.ref b98), .unset, .unset, .unset, .unset, .unset, .unset] []))
          have X107 := X101.more (by decide : 7 ≤ 8) (by decide : 20 ≤ 24)
          have K108 : Keep h0 hh101 [] := (K105.trans Kq101 (allS (Or.inr gh_b98) all0))
          have f109 := (f104.keep Kq101)
          have f110 := (A98.keep Kq101)
          have f111 := (f103.keep Kq101 (allS g_b98 all0))
          show own_Gl _ _ _ _ _ _ _ (T101.setTop (mkF m 94 #[.val (.int p1), .val (.int p2), .val (.int p3), .val (.ref b1), .val (.ref sb), .val (.ref s1), .val (.ref b98), .unset, .unset, .unset, .unset, .unset, .unset] []))
          exact J94_10 T101 _ N101 X107 _ eh0101 (b98) Zs106 K108 f109 f110 f111
    by_cases hqa : (255 : Int32) < (nar .char ((p1 &&& (65535 : Int32)).toUInt32.toUInt16.toUInt32.toInt32))
    · show own_Gl _ _ _ _ _ _ _ (T8.setTop (mkF m 73 #[.val (.int p1), .val (.int p2), .val (.int p3), .val (.ref b1), .val (.ref sb), .unset, .unset, .unset, .unset, .unset, .unset, .unset, .unset] []))
      obtain ⟨T112, h112, X112, e112, E112, A112, D112, -, st112⟩ := newO X8 hx hZ hown (hw _ (List.mem_of_getElem? (i := 2) rfl)) (hw _ (List.mem_of_getElem? (i := 3) rfl)) (hw _ (List.mem_of_getElem? (i := 4) rfl)) e8 (g := (mkF m 73 #[.val (.int p1), .val (.int p2), .val (.int p3), .val (.ref b1), .val (.ref sb), .unset, .unset, .unset, .unset, .unset, .unset, .unset, .unset] [])) rfl (hb hby at_73) (by decide) (by decide)
      obtain ⟨b112, gb112⟩ : ∃ z, z = h8.size := ⟨_, rfl⟩
      rw [← gb112] at A112 D112 st112
      refine own_st st112 ?_
      have Zs113 : n0 ≤ h112.size := Nat.le_trans Zs8 E112.1
      have g_b112 : n0 ≤ b112 := Nat.le_trans Zs8 (Nat.le_of_eq gb112.symm)
      have gh_b112 : h0.size ≤ b112 := Nat.le_trans Kj8.1 (Nat.le_of_eq gb112.symm)
      have ne_b1_b112 : b1 ≠ b112 := Nat.ne_of_lt (Nat.lt_of_lt_of_le fj8_0.lt (Nat.le_of_eq gb112.symm))
      have ne_sb_b112 : sb ≠ b112 := Nat.ne_of_lt (Nat.lt_of_lt_of_le fj8_1.lt (Nat.le_of_eq gb112.symm))
      have F_coder_b112 : Fld Z h112 b112 "java/lang/String" "coder" "B" (.int (0 : Int32)) := D112 (Or.inr (hw _ (List.mem_of_getElem? (i := 28) rfl))) (ty := .byte) (by decide)
      have F_value_b112 : Fld Z h112 b112 "java/lang/String" "value" "[B" .null := D112 (Or.inr (hw _ (List.mem_of_getElem? (i := 30) rfl))) (ty := (.array .byte)) (by decide)
      show own_Gl _ _ _ _ _ _ _ (T112.setTop (mkF m 76 #[.val (.int p1), .val (.int p2), .val (.int p3), .val (.ref b1), .val (.ref sb), .unset, .unset, .unset, .unset, .unset, .unset, .unset, .unset] [(.ref b112)]))
      refine own_st (fun _ k => XS.dup X112.here hx rfl (hb hby at_76) rfl rfl k) ?_
      show own_Gl _ _ _ _ _ _ _ (T112.setTop (mkF m 77 #[.val (.int p1), .val (.int p2), .val (.int p3), .val (.ref b1), .val (.ref sb), .unset, .unset, .unset, .unset, .unset, .unset, .unset, .unset] [(.ref b112), (.ref b112)]))
      refine own_st (fun _ k => XS.aloadN X112.here hx rfl (hb hby at_77) rfl rfl k) ?_
      show own_Gl _ _ _ _ _ _ _ (T112.setTop (mkF m 78 #[.val (.int p1), .val (.int p2), .val (.int p3), .val (.ref b1), .val (.ref sb), .unset, .unset, .unset, .unset, .unset, .unset, .unset, .unset] [(.ref b1), (.ref b112), (.ref b112)]))
      have f116 := (fj8_0.ext E112)
      have f117 := (fj8_2.ext E112)
      have f118 := (fj8_1.ext E112)
      obtain ⟨_, _, ⟨T115, L115, k115, n115⟩, -, X115, ⟨Lc115, hQ115, l115, y115, z115⟩, st115⟩ := X112.specialBack hx (y := (⟨"java/lang/String", "<init>", "([C)V"⟩ : MethodName)) rfl hown (mvT hZ (hw _ (List.mem_of_getElem? (i := 5) rfl))) (mvT hZ (hw _ (List.mem_of_getElem? (i := 6) rfl))) (mvT hZ (hw _ (List.mem_of_getElem? (i := 7) rfl))) (by decide) (backOf (W := 1) (own_i1_2_0 l Z a0 hw [] b112 b1 k1 (nar .char ((p1 &&& (65535 : Int32)).toUInt32.toUInt16.toUInt32.toInt32)) (nar .char ((((p1.toUInt32 >>> ((16 : Int32) &&& 31).toUInt32).toInt32) &&& (65535 : Int32)).toUInt32.toUInt16.toUInt32.toInt32)) cs h112 n0 Zs113 A112 F_value_b112 F_coder_b112 g_b112 (Ne.symm ne_b1_b112) f116 hqa S_COMPACT_STRINGS hcs f117 S__assertionsDisabled S_HI_BYTE_SHIFT S_LO_BYTE_SHIFT (own_nch _) (own_nch _)) hZ (hw _ (List.mem_of_getElem? (i := 7) rfl)) (hw _ (List.mem_of_getElem? (i := 4) rfl)) (by decide) (by decide)) (g := (mkF m 78 #[.val (.int p1), .val (.int p2), .val (.int p3), .val (.ref b1), .val (.ref sb), .unset, .unset, .unset, .unset, .unset, .unset, .unset, .unset] [(.ref b1), (.ref b112), (.ref b112)])) rfl (by rw [hml]; rfl) (Steps.refl _) (a := b112) (argsL := [(.ref b1)]) (rest := [(.ref b112)]) (lenOf own_pd985728365 rfl) rfl (by show 2 * 0 + _ ≤ _; exact Nat.le_of_eq rfl) (hb hby at_78) (fun _ _ => ⟨rfl, e112, (by decide : 3 + 2 ≤ room_1.cells), (by decide : 8 + 6 ≤ room_1.slots)⟩)
      dsimp only [Pt.U, Pt.locs, Pt.cells, Pt.slots] at X115 l115 y115 z115 st115 hQ115
      subst l115 y115 z115
      obtain ⟨hh115, eh0115⟩ : ∃ z, T115.heap = z := ⟨_, rfl⟩
      rw [eh0115] at hQ115
      obtain ⟨r_115, kr_115, rfl, Nq115, Kq115, P115_0, P115_1, P115_2, P115_3, P115_4⟩ := hQ115
      have N115 := Fr.app N8 Nq115
      refine own_tr st115 ?_
      have K119 : Keep h0 h112 [] := (Kj8.ext E112)
      have Zs120 : n0 ≤ hh115.size := Nat.le_trans Zs113 Kq115.1
      have gh_r_115 : h0.size ≤ r_115 := Nat.le_trans K119.1 P115_1
      have ne_b1_r_115 : b1 ≠ r_115 := Nat.ne_of_lt (Nat.lt_of_lt_of_le f116.lt P115_1)
      have ne_sb_r_115 : sb ≠ r_115 := Nat.ne_of_lt (Nat.lt_of_lt_of_le f118.lt P115_1)
      have ne_b112_r_115 : b112 ≠ r_115 := Nat.ne_of_lt (Nat.lt_of_lt_of_le A112.lt P115_1)
      show own_Gl _ _ _ _ _ _ _ (T115.setTop (mkF m 81 #[.val (.int p1), .val (.int p2), .val (.int p3), .val (.ref b1), .val (.ref sb), .unset, .unset, .unset, .unset, .unset, .unset, .unset, .unset] [(.ref b112)]))
      refine own_st (fun _ k => XS.astore X115.here hx rfl (hb hby at_81) rfl rfl (l' := #[.val (.int p1), .val (.int p2), .val (.int p3), .val (.ref b1), .val (.ref sb), .val (.ref b112), .unset, .unset, .unset, .unset, .unset, .unset, .unset]) rfl k) ?_
      show own_Gl _ _ _ _ _ _ _ (T115.setTop (mkF m 83 #[.val (.int p1), .val (.int p2), .val (.int p3), .val (.ref b1), .val (.ref sb), .val (.ref b112), .unset, .unset, .unset, .unset, .unset, .unset, .unset] []))
      have K121 : Keep h0 hh115 [] := (K119.trans Kq115 (allS (Or.inr gh_b112) all0))
      have f122 := (A112.keep Kq115)
      have f123 := (f118.keep Kq115 (ninS ne_sb_b112 nin0))
      have f124 := (f117.keep Kq115 (allS g_b112 all0))
      show own_Gl _ _ _ _ _ _ _ (T115.setTop (mkF m 83 #[.val (.int p1), .val (.int p2), .val (.int p3), .val (.ref b1), .val (.ref sb), .val (.ref b112), .unset, .unset, .unset, .unset, .unset, .unset, .unset] []))
      exact J83_9 T115 _ N115 X115 _ eh0115 (b112) Zs120 K121 f122 f123 f124
    · by_cases hqb : (255 : Int32) < (nar .char ((((p1.toUInt32 >>> ((16 : Int32) &&& 31).toUInt32).toInt32) &&& (65535 : Int32)).toUInt32.toUInt16.toUInt32.toInt32))
      · show own_Gl _ _ _ _ _ _ _ (T8.setTop (mkF m 73 #[.val (.int p1), .val (.int p2), .val (.int p3), .val (.ref b1), .val (.ref sb), .unset, .unset, .unset, .unset, .unset, .unset, .unset, .unset] []))
        obtain ⟨T125, h125, X125, e125, E125, A125, D125, -, st125⟩ := newO X8 hx hZ hown (hw _ (List.mem_of_getElem? (i := 2) rfl)) (hw _ (List.mem_of_getElem? (i := 3) rfl)) (hw _ (List.mem_of_getElem? (i := 4) rfl)) e8 (g := (mkF m 73 #[.val (.int p1), .val (.int p2), .val (.int p3), .val (.ref b1), .val (.ref sb), .unset, .unset, .unset, .unset, .unset, .unset, .unset, .unset] [])) rfl (hb hby at_73) (by decide) (by decide)
        obtain ⟨b125, gb125⟩ : ∃ z, z = h8.size := ⟨_, rfl⟩
        rw [← gb125] at A125 D125 st125
        refine own_st st125 ?_
        have Zs126 : n0 ≤ h125.size := Nat.le_trans Zs8 E125.1
        have g_b125 : n0 ≤ b125 := Nat.le_trans Zs8 (Nat.le_of_eq gb125.symm)
        have gh_b125 : h0.size ≤ b125 := Nat.le_trans Kj8.1 (Nat.le_of_eq gb125.symm)
        have ne_b1_b125 : b1 ≠ b125 := Nat.ne_of_lt (Nat.lt_of_lt_of_le fj8_0.lt (Nat.le_of_eq gb125.symm))
        have ne_sb_b125 : sb ≠ b125 := Nat.ne_of_lt (Nat.lt_of_lt_of_le fj8_1.lt (Nat.le_of_eq gb125.symm))
        have F_coder_b125 : Fld Z h125 b125 "java/lang/String" "coder" "B" (.int (0 : Int32)) := D125 (Or.inr (hw _ (List.mem_of_getElem? (i := 28) rfl))) (ty := .byte) (by decide)
        have F_value_b125 : Fld Z h125 b125 "java/lang/String" "value" "[B" .null := D125 (Or.inr (hw _ (List.mem_of_getElem? (i := 30) rfl))) (ty := (.array .byte)) (by decide)
        show own_Gl _ _ _ _ _ _ _ (T125.setTop (mkF m 76 #[.val (.int p1), .val (.int p2), .val (.int p3), .val (.ref b1), .val (.ref sb), .unset, .unset, .unset, .unset, .unset, .unset, .unset, .unset] [(.ref b125)]))
        refine own_st (fun _ k => XS.dup X125.here hx rfl (hb hby at_76) rfl rfl k) ?_
        show own_Gl _ _ _ _ _ _ _ (T125.setTop (mkF m 77 #[.val (.int p1), .val (.int p2), .val (.int p3), .val (.ref b1), .val (.ref sb), .unset, .unset, .unset, .unset, .unset, .unset, .unset, .unset] [(.ref b125), (.ref b125)]))
        refine own_st (fun _ k => XS.aloadN X125.here hx rfl (hb hby at_77) rfl rfl k) ?_
        show own_Gl _ _ _ _ _ _ _ (T125.setTop (mkF m 78 #[.val (.int p1), .val (.int p2), .val (.int p3), .val (.ref b1), .val (.ref sb), .unset, .unset, .unset, .unset, .unset, .unset, .unset, .unset] [(.ref b1), (.ref b125), (.ref b125)]))
        have f129 := (fj8_0.ext E125)
        have f130 := (fj8_2.ext E125)
        have f131 := (fj8_1.ext E125)
        obtain ⟨_, _, ⟨T128, L128, k128, n128⟩, -, X128, ⟨Lc128, hQ128, l128, y128, z128⟩, st128⟩ := X125.specialBack hx (y := (⟨"java/lang/String", "<init>", "([C)V"⟩ : MethodName)) rfl hown (mvT hZ (hw _ (List.mem_of_getElem? (i := 5) rfl))) (mvT hZ (hw _ (List.mem_of_getElem? (i := 6) rfl))) (mvT hZ (hw _ (List.mem_of_getElem? (i := 7) rfl))) (by decide) (backOf (W := 1) (own_i1_2_1 l Z a0 hw [] b125 b1 k1 (nar .char ((p1 &&& (65535 : Int32)).toUInt32.toUInt16.toUInt32.toInt32)) (nar .char ((((p1.toUInt32 >>> ((16 : Int32) &&& 31).toUInt32).toInt32) &&& (65535 : Int32)).toUInt32.toUInt16.toUInt32.toInt32)) cs h125 n0 Zs126 A125 F_value_b125 F_coder_b125 g_b125 (Ne.symm ne_b1_b125) f129 hqa hqb S_COMPACT_STRINGS hcs f130 S__assertionsDisabled S_HI_BYTE_SHIFT S_LO_BYTE_SHIFT (own_nch _) (own_nch _)) hZ (hw _ (List.mem_of_getElem? (i := 7) rfl)) (hw _ (List.mem_of_getElem? (i := 4) rfl)) (by decide) (by decide)) (g := (mkF m 78 #[.val (.int p1), .val (.int p2), .val (.int p3), .val (.ref b1), .val (.ref sb), .unset, .unset, .unset, .unset, .unset, .unset, .unset, .unset] [(.ref b1), (.ref b125), (.ref b125)])) rfl (by rw [hml]; rfl) (Steps.refl _) (a := b125) (argsL := [(.ref b1)]) (rest := [(.ref b125)]) (lenOf own_pd985728365 rfl) rfl (by show 2 * 0 + _ ≤ _; exact Nat.le_of_eq rfl) (hb hby at_78) (fun _ _ => ⟨rfl, e125, (by decide : 3 + 2 ≤ room_1.cells), (by decide : 8 + 6 ≤ room_1.slots)⟩)
        dsimp only [Pt.U, Pt.locs, Pt.cells, Pt.slots] at X128 l128 y128 z128 st128 hQ128
        subst l128 y128 z128
        obtain ⟨hh128, eh0128⟩ : ∃ z, T128.heap = z := ⟨_, rfl⟩
        rw [eh0128] at hQ128
        obtain ⟨r_128, kr_128, rfl, Nq128, Kq128, P128_0, P128_1, P128_2, P128_3, P128_4⟩ := hQ128
        have N128 := Fr.app N8 Nq128
        refine own_tr st128 ?_
        have K132 : Keep h0 h125 [] := (Kj8.ext E125)
        have Zs133 : n0 ≤ hh128.size := Nat.le_trans Zs126 Kq128.1
        have gh_r_128 : h0.size ≤ r_128 := Nat.le_trans K132.1 P128_1
        have ne_b1_r_128 : b1 ≠ r_128 := Nat.ne_of_lt (Nat.lt_of_lt_of_le f129.lt P128_1)
        have ne_sb_r_128 : sb ≠ r_128 := Nat.ne_of_lt (Nat.lt_of_lt_of_le f131.lt P128_1)
        have ne_b125_r_128 : b125 ≠ r_128 := Nat.ne_of_lt (Nat.lt_of_lt_of_le A125.lt P128_1)
        show own_Gl _ _ _ _ _ _ _ (T128.setTop (mkF m 81 #[.val (.int p1), .val (.int p2), .val (.int p3), .val (.ref b1), .val (.ref sb), .unset, .unset, .unset, .unset, .unset, .unset, .unset, .unset] [(.ref b125)]))
        refine own_st (fun _ k => XS.astore X128.here hx rfl (hb hby at_81) rfl rfl (l' := #[.val (.int p1), .val (.int p2), .val (.int p3), .val (.ref b1), .val (.ref sb), .val (.ref b125), .unset, .unset, .unset, .unset, .unset, .unset, .unset]) rfl k) ?_
        show own_Gl _ _ _ _ _ _ _ (T128.setTop (mkF m 83 #[.val (.int p1), .val (.int p2), .val (.int p3), .val (.ref b1), .val (.ref sb), .val (.ref b125), .unset, .unset, .unset, .unset, .unset, .unset, .unset] []))
        have K134 : Keep h0 hh128 [] := (K132.trans Kq128 (allS (Or.inr gh_b125) all0))
        have f135 := (A125.keep Kq128)
        have f136 := (f131.keep Kq128 (ninS ne_sb_b125 nin0))
        have f137 := (f130.keep Kq128 (allS g_b125 all0))
        show own_Gl _ _ _ _ _ _ _ (T128.setTop (mkF m 83 #[.val (.int p1), .val (.int p2), .val (.int p3), .val (.ref b1), .val (.ref sb), .val (.ref b125), .unset, .unset, .unset, .unset, .unset, .unset, .unset] []))
        exact J83_9 T128 _ N128 X128 _ eh0128 (b125) Zs133 K134 f135 f136 f137
      · show own_Gl _ _ _ _ _ _ _ (T8.setTop (mkF m 73 #[.val (.int p1), .val (.int p2), .val (.int p3), .val (.ref b1), .val (.ref sb), .unset, .unset, .unset, .unset, .unset, .unset, .unset, .unset] []))
        obtain ⟨T138, h138, X138, e138, E138, A138, D138, -, st138⟩ := newO X8 hx hZ hown (hw _ (List.mem_of_getElem? (i := 2) rfl)) (hw _ (List.mem_of_getElem? (i := 3) rfl)) (hw _ (List.mem_of_getElem? (i := 4) rfl)) e8 (g := (mkF m 73 #[.val (.int p1), .val (.int p2), .val (.int p3), .val (.ref b1), .val (.ref sb), .unset, .unset, .unset, .unset, .unset, .unset, .unset, .unset] [])) rfl (hb hby at_73) (by decide) (by decide)
        obtain ⟨b138, gb138⟩ : ∃ z, z = h8.size := ⟨_, rfl⟩
        rw [← gb138] at A138 D138 st138
        refine own_st st138 ?_
        have Zs139 : n0 ≤ h138.size := Nat.le_trans Zs8 E138.1
        have g_b138 : n0 ≤ b138 := Nat.le_trans Zs8 (Nat.le_of_eq gb138.symm)
        have gh_b138 : h0.size ≤ b138 := Nat.le_trans Kj8.1 (Nat.le_of_eq gb138.symm)
        have ne_b1_b138 : b1 ≠ b138 := Nat.ne_of_lt (Nat.lt_of_lt_of_le fj8_0.lt (Nat.le_of_eq gb138.symm))
        have ne_sb_b138 : sb ≠ b138 := Nat.ne_of_lt (Nat.lt_of_lt_of_le fj8_1.lt (Nat.le_of_eq gb138.symm))
        have F_coder_b138 : Fld Z h138 b138 "java/lang/String" "coder" "B" (.int (0 : Int32)) := D138 (Or.inr (hw _ (List.mem_of_getElem? (i := 28) rfl))) (ty := .byte) (by decide)
        have F_value_b138 : Fld Z h138 b138 "java/lang/String" "value" "[B" .null := D138 (Or.inr (hw _ (List.mem_of_getElem? (i := 30) rfl))) (ty := (.array .byte)) (by decide)
        show own_Gl _ _ _ _ _ _ _ (T138.setTop (mkF m 76 #[.val (.int p1), .val (.int p2), .val (.int p3), .val (.ref b1), .val (.ref sb), .unset, .unset, .unset, .unset, .unset, .unset, .unset, .unset] [(.ref b138)]))
        refine own_st (fun _ k => XS.dup X138.here hx rfl (hb hby at_76) rfl rfl k) ?_
        show own_Gl _ _ _ _ _ _ _ (T138.setTop (mkF m 77 #[.val (.int p1), .val (.int p2), .val (.int p3), .val (.ref b1), .val (.ref sb), .unset, .unset, .unset, .unset, .unset, .unset, .unset, .unset] [(.ref b138), (.ref b138)]))
        refine own_st (fun _ k => XS.aloadN X138.here hx rfl (hb hby at_77) rfl rfl k) ?_
        show own_Gl _ _ _ _ _ _ _ (T138.setTop (mkF m 78 #[.val (.int p1), .val (.int p2), .val (.int p3), .val (.ref b1), .val (.ref sb), .unset, .unset, .unset, .unset, .unset, .unset, .unset, .unset] [(.ref b1), (.ref b138), (.ref b138)]))
        have f142 := (fj8_0.ext E138)
        have f143 := (fj8_2.ext E138)
        have f144 := (fj8_1.ext E138)
        obtain ⟨_, _, ⟨T141, L141, k141, n141⟩, -, X141, ⟨Lc141, hQ141, l141, y141, z141⟩, st141⟩ := X138.specialBack hx (y := (⟨"java/lang/String", "<init>", "([C)V"⟩ : MethodName)) rfl hown (mvT hZ (hw _ (List.mem_of_getElem? (i := 5) rfl))) (mvT hZ (hw _ (List.mem_of_getElem? (i := 6) rfl))) (mvT hZ (hw _ (List.mem_of_getElem? (i := 7) rfl))) (by decide) (backOf (W := 1) (own_i1_2_2 l Z a0 hw [] b138 b1 k1 (nar .char ((p1 &&& (65535 : Int32)).toUInt32.toUInt16.toUInt32.toInt32)) (nar .char ((((p1.toUInt32 >>> ((16 : Int32) &&& 31).toUInt32).toInt32) &&& (65535 : Int32)).toUInt32.toUInt16.toUInt32.toInt32)) cs h138 n0 Zs139 A138 F_value_b138 F_coder_b138 g_b138 (Ne.symm ne_b1_b138) f142 hqa hqb S_COMPACT_STRINGS hcs f143) hZ (hw _ (List.mem_of_getElem? (i := 7) rfl)) (hw _ (List.mem_of_getElem? (i := 4) rfl)) (by decide) (by decide)) (g := (mkF m 78 #[.val (.int p1), .val (.int p2), .val (.int p3), .val (.ref b1), .val (.ref sb), .unset, .unset, .unset, .unset, .unset, .unset, .unset, .unset] [(.ref b1), (.ref b138), (.ref b138)])) rfl (by rw [hml]; rfl) (Steps.refl _) (a := b138) (argsL := [(.ref b1)]) (rest := [(.ref b138)]) (lenOf own_pd985728365 rfl) rfl (by show 2 * 0 + _ ≤ _; exact Nat.le_of_eq rfl) (hb hby at_78) (fun _ _ => ⟨rfl, e138, (by decide : 3 + 1 ≤ room_1.cells), (by decide : 8 + 2 ≤ room_1.slots)⟩)
        dsimp only [Pt.U, Pt.locs, Pt.cells, Pt.slots] at X141 l141 y141 z141 st141 hQ141
        subst l141 y141 z141
        obtain ⟨hh141, eh0141⟩ : ∃ z, T141.heap = z := ⟨_, rfl⟩
        rw [eh0141] at hQ141
        obtain ⟨r_141, kr_141, rfl, Nq141, Kq141, P141_0, P141_1, P141_2, P141_3, P141_4⟩ := hQ141
        have N141 := Fr.app N8 Nq141
        refine own_tr st141 ?_
        have K145 : Keep h0 h138 [] := (Kj8.ext E138)
        have Zs146 : n0 ≤ hh141.size := Nat.le_trans Zs139 Kq141.1
        have gh_r_141 : h0.size ≤ r_141 := Nat.le_trans K145.1 P141_1
        have ne_b1_r_141 : b1 ≠ r_141 := Nat.ne_of_lt (Nat.lt_of_lt_of_le f142.lt P141_1)
        have ne_sb_r_141 : sb ≠ r_141 := Nat.ne_of_lt (Nat.lt_of_lt_of_le f144.lt P141_1)
        have ne_b138_r_141 : b138 ≠ r_141 := Nat.ne_of_lt (Nat.lt_of_lt_of_le A138.lt P141_1)
        show own_Gl _ _ _ _ _ _ _ (T141.setTop (mkF m 81 #[.val (.int p1), .val (.int p2), .val (.int p3), .val (.ref b1), .val (.ref sb), .unset, .unset, .unset, .unset, .unset, .unset, .unset, .unset] [(.ref b138)]))
        refine own_st (fun _ k => XS.astore X141.here hx rfl (hb hby at_81) rfl rfl (l' := #[.val (.int p1), .val (.int p2), .val (.int p3), .val (.ref b1), .val (.ref sb), .val (.ref b138), .unset, .unset, .unset, .unset, .unset, .unset, .unset]) rfl k) ?_
        show own_Gl _ _ _ _ _ _ _ (T141.setTop (mkF m 83 #[.val (.int p1), .val (.int p2), .val (.int p3), .val (.ref b1), .val (.ref sb), .val (.ref b138), .unset, .unset, .unset, .unset, .unset, .unset, .unset] []))
        have X147 := X141.more (by decide : 4 ≤ 5) (by decide : 10 ≤ 14)
        have K148 : Keep h0 hh141 [] := (K145.trans Kq141 (allS (Or.inr gh_b138) all0))
        have f149 := (A138.keep Kq141)
        have f150 := (f144.keep Kq141 (ninS ne_sb_b138 nin0))
        have f151 := (f143.keep Kq141 (allS g_b138 all0))
        show own_Gl _ _ _ _ _ _ _ (T141.setTop (mkF m 83 #[.val (.int p1), .val (.int p2), .val (.int p3), .val (.ref b1), .val (.ref sb), .val (.ref b138), .unset, .unset, .unset, .unset, .unset, .unset, .unset] []))
        exact J83_9 T141 _ N141 X147 _ eh0141 (b138) Zs146 K148 f149 f150 f151
  refine own_st (fun _ k => XS.iloadN X6.here hx rfl (hb hby at_23) rfl k) ?_
  show own_Gl _ _ _ _ _ _ _ (T6.setTop (mkF m 24 #[.val (.int p1), .val (.int p2), .val (.int p3), .val (.ref b1), .unset, .unset, .unset, .unset, .unset, .unset, .unset, .unset, .unset] [(.int p3)]))
  refine own_st (fun _ k => XS.iconst X6.here hx rfl (hb hby at_24) k) ?_
  show own_Gl _ _ _ _ _ _ _ (T6.setTop (mkF m 25 #[.val (.int p1), .val (.int p2), .val (.int p3), .val (.ref b1), .unset, .unset, .unset, .unset, .unset, .unset, .unset, .unset, .unset] [(.int (1 : Int32)), (.int p3)]))
  refine own_st (fun _ k => XS.iand X6.here hx rfl (hb hby at_25) rfl k) ?_
  show own_Gl _ _ _ _ _ _ _ (T6.setTop (mkF m 26 #[.val (.int p1), .val (.int p2), .val (.int p3), .val (.ref b1), .unset, .unset, .unset, .unset, .unset, .unset, .unset, .unset, .unset] [(.int (p3 &&& (1 : Int32)))]))
  by_cases hc26 : (p3 &&& (1 : Int32)) = (0 : Int32)
  · refine own_st (fun _ k => XS.ifYes X6.here hx rfl (pc0 := 26) (pc' := 49) rfl (hb hby at_26) rfl ((if0 _ _).trans (teq hc26).1) (by decide) (by decide) k) ?_
    show own_Gl _ _ _ _ _ _ _ (T6.setTop (mkF m 49 #[.val (.int p1), .val (.int p2), .val (.int p3), .val (.ref b1), .unset, .unset, .unset, .unset, .unset, .unset, .unset, .unset, .unset] []))
    refine own_st (fun _ k => XS.iconst X6.here hx rfl (hb hby at_49) k) ?_
    show own_Gl _ _ _ _ _ _ _ (T6.setTop (mkF m 50 #[.val (.int p1), .val (.int p2), .val (.int p3), .val (.ref b1), .unset, .unset, .unset, .unset, .unset, .unset, .unset, .unset, .unset] [(.int (2 : Int32))]))
    have K152 : Keep h0 h6 [] := ((((Keep.refl h0 []).ext E1).wr W4 (Or.inr gh_b1)).wr W6 (Or.inr gh_b1))
    obtain ⟨T153, h153, k153, X153, e153, E153, A153, st153⟩ := newP X6 hx hZ (hw _ (List.mem_of_getElem? (i := 0) rfl)) e6 (g := (mkF m 50 #[.val (.int p1), .val (.int p2), .val (.int p3), .val (.ref b1), .unset, .unset, .unset, .unset, .unset, .unset, .unset, .unset, .unset] [(.int (2 : Int32))])) rfl (hb hby at_50) rfl (by decide) (cap := 2) (by decide) (by decide) (by decide) (by decide)
    obtain ⟨b153, gb153⟩ : ∃ z, z = h6.size := ⟨_, rfl⟩
    rw [← gb153] at A153 st153
    refine own_st st153 ?_
    have Zs154 : n0 ≤ h153.size := Nat.le_trans Zs7 E153.1
    have g_b153 : n0 ≤ b153 := Nat.le_trans Zs7 (Nat.le_of_eq gb153.symm)
    have gh_b153 : h0.size ≤ b153 := Nat.le_trans K152.1 (Nat.le_of_eq gb153.symm)
    have ne_b1_b153 : b1 ≠ b153 := Nat.ne_of_lt (Nat.lt_of_lt_of_le Vw6.lt (Nat.le_of_eq gb153.symm))
    have V_b153 : Arv Z h153 b153 k153 .char (2 : Int32) [(.int (0 : Int32)), (.int (0 : Int32))] (.int (0 : Int32)) := (Arv.new A153 (by decide)).pad (pad_rep [] (.int (0 : Int32)) 2)
    show own_Gl _ _ _ _ _ _ _ (T153.setTop (mkF m 52 #[.val (.int p1), .val (.int p2), .val (.int p3), .val (.ref b1), .unset, .unset, .unset, .unset, .unset, .unset, .unset, .unset, .unset] [(.ref b153)]))
    refine own_st (fun _ k => XS.dup X153.here hx rfl (hb hby at_52) rfl rfl k) ?_
    show own_Gl _ _ _ _ _ _ _ (T153.setTop (mkF m 53 #[.val (.int p1), .val (.int p2), .val (.int p3), .val (.ref b1), .unset, .unset, .unset, .unset, .unset, .unset, .unset, .unset, .unset] [(.ref b153), (.ref b153)]))
    refine own_st (fun _ k => XS.iconst X153.here hx rfl (hb hby at_53) k) ?_
    show own_Gl _ _ _ _ _ _ _ (T153.setTop (mkF m 54 #[.val (.int p1), .val (.int p2), .val (.int p3), .val (.ref b1), .unset, .unset, .unset, .unset, .unset, .unset, .unset, .unset, .unset] [(.int (0 : Int32)), (.ref b153), (.ref b153)]))
    refine own_st (fun _ k => XS.iloadN X153.here hx rfl (hb hby at_54) rfl k) ?_
    show own_Gl _ _ _ _ _ _ _ (T153.setTop (mkF m 55 #[.val (.int p1), .val (.int p2), .val (.int p3), .val (.ref b1), .unset, .unset, .unset, .unset, .unset, .unset, .unset, .unset, .unset] [(.int p2), (.int (0 : Int32)), (.ref b153), (.ref b153)]))
    refine own_st (X153.ldcInt hx hown (mvT hZ (hw _ (List.mem_of_getElem? (i := 1) rfl))) (g := (mkF m 55 #[.val (.int p1), .val (.int p2), .val (.int p3), .val (.ref b1), .unset, .unset, .unset, .unset, .unset, .unset, .unset, .unset, .unset] [(.int p2), (.int (0 : Int32)), (.ref b153), (.ref b153)])) rfl (hb hby at_55)) ?_
    show own_Gl _ _ _ _ _ _ _ (T153.setTop (mkF m 57 #[.val (.int p1), .val (.int p2), .val (.int p3), .val (.ref b1), .unset, .unset, .unset, .unset, .unset, .unset, .unset, .unset, .unset] [(.int (65535 : Int32)), (.int p2), (.int (0 : Int32)), (.ref b153), (.ref b153)]))
    refine own_st (fun _ k => XS.iand X153.here hx rfl (hb hby at_57) rfl k) ?_
    show own_Gl _ _ _ _ _ _ _ (T153.setTop (mkF m 58 #[.val (.int p1), .val (.int p2), .val (.int p3), .val (.ref b1), .unset, .unset, .unset, .unset, .unset, .unset, .unset, .unset, .unset] [(.int (p2 &&& (65535 : Int32))), (.int (0 : Int32)), (.ref b153), (.ref b153)]))
    refine own_st (fun _ k => XS.i2c X153.here hx rfl (hb hby at_58) rfl k) ?_
    show own_Gl _ _ _ _ _ _ _ (T153.setTop (mkF m 59 #[.val (.int p1), .val (.int p2), .val (.int p3), .val (.ref b1), .unset, .unset, .unset, .unset, .unset, .unset, .unset, .unset, .unset] [(.int ((p2 &&& (65535 : Int32)).toUInt32.toUInt16.toUInt32.toInt32)), (.int (0 : Int32)), (.ref b153), (.ref b153)]))
    obtain ⟨cl156, Ar156, qq156, Ss156, Nn156, Hh156, Gg156⟩ := id V_b153
    have hin156 : ¬ ((0 : Int32) < 0 ∨ cl156.slots.size ≤ ((0 : Int32)).toNatClampNeg) := inb_of Ss156 ⟨by decide, by decide⟩
    obtain ⟨T156, h156, X156, e156, W156, st156⟩ := stC X153 hx hZ e153 Ar156 (j := (0 : Int32)) hin156 (g := (mkF m 59 #[.val (.int p1), .val (.int p2), .val (.int p3), .val (.ref b1), .unset, .unset, .unset, .unset, .unset, .unset, .unset, .unset, .unset] [(.int ((p2 &&& (65535 : Int32)).toUInt32.toUInt16.toUInt32.toInt32)), (.int (0 : Int32)), (.ref b153), (.ref b153)])) rfl rfl (hb hby at_59)
    have N156 := Fr.snoc X156 N6 g_b153
    refine own_st st156 ?_
    have Zs157 : n0 ≤ h156.size := Nat.le_trans Zs154 (Keep.of_wr W156).1
    have Vw156 : Arv Z h156 b153 k153 .char (2 : Int32) [(.int (nar .char ((p2 &&& (65535 : Int32)).toUInt32.toUInt16.toUInt32.toInt32))), (.int (0 : Int32))] (.int (0 : Int32)) := Arv.set Ar156 qq156 Ss156 Nn156 Hh156 Gg156 (fits_nar_char _) W156 0 (rfl) (Nat.le_of_ble_eq_true rfl)
    show own_Gl _ _ _ _ _ _ _ (T156.setTop (mkF m 60 #[.val (.int p1), .val (.int p2), .val (.int p3), .val (.ref b1), .unset, .unset, .unset, .unset, .unset, .unset, .unset, .unset, .unset] [(.ref b153)]))
    refine own_st (fun _ k => XS.dup X156.here hx rfl (hb hby at_60) rfl rfl k) ?_
    show own_Gl _ _ _ _ _ _ _ (T156.setTop (mkF m 61 #[.val (.int p1), .val (.int p2), .val (.int p3), .val (.ref b1), .unset, .unset, .unset, .unset, .unset, .unset, .unset, .unset, .unset] [(.ref b153), (.ref b153)]))
    refine own_st (fun _ k => XS.iconst X156.here hx rfl (hb hby at_61) k) ?_
    show own_Gl _ _ _ _ _ _ _ (T156.setTop (mkF m 62 #[.val (.int p1), .val (.int p2), .val (.int p3), .val (.ref b1), .unset, .unset, .unset, .unset, .unset, .unset, .unset, .unset, .unset] [(.int (1 : Int32)), (.ref b153), (.ref b153)]))
    refine own_st (fun _ k => XS.iloadN X156.here hx rfl (hb hby at_62) rfl k) ?_
    show own_Gl _ _ _ _ _ _ _ (T156.setTop (mkF m 63 #[.val (.int p1), .val (.int p2), .val (.int p3), .val (.ref b1), .unset, .unset, .unset, .unset, .unset, .unset, .unset, .unset, .unset] [(.int p2), (.int (1 : Int32)), (.ref b153), (.ref b153)]))
    refine own_st (fun _ k => XS.bipush X156.here hx rfl (hb hby at_63) k) ?_
    show own_Gl _ _ _ _ _ _ _ (T156.setTop (mkF m 65 #[.val (.int p1), .val (.int p2), .val (.int p3), .val (.ref b1), .unset, .unset, .unset, .unset, .unset, .unset, .unset, .unset, .unset] [(.int (16 : Int32)), (.int p2), (.int (1 : Int32)), (.ref b153), (.ref b153)]))
    refine own_st (fun _ k => XS.iushr X156.here hx rfl (hb hby at_65) rfl k) ?_
    show own_Gl _ _ _ _ _ _ _ (T156.setTop (mkF m 66 #[.val (.int p1), .val (.int p2), .val (.int p3), .val (.ref b1), .unset, .unset, .unset, .unset, .unset, .unset, .unset, .unset, .unset] [(.int ((p2.toUInt32 >>> ((16 : Int32) &&& 31).toUInt32).toInt32)), (.int (1 : Int32)), (.ref b153), (.ref b153)]))
    refine own_st (X156.ldcInt hx hown (mvT hZ (hw _ (List.mem_of_getElem? (i := 1) rfl))) (g := (mkF m 66 #[.val (.int p1), .val (.int p2), .val (.int p3), .val (.ref b1), .unset, .unset, .unset, .unset, .unset, .unset, .unset, .unset, .unset] [(.int ((p2.toUInt32 >>> ((16 : Int32) &&& 31).toUInt32).toInt32)), (.int (1 : Int32)), (.ref b153), (.ref b153)])) rfl (hb hby at_66)) ?_
    show own_Gl _ _ _ _ _ _ _ (T156.setTop (mkF m 68 #[.val (.int p1), .val (.int p2), .val (.int p3), .val (.ref b1), .unset, .unset, .unset, .unset, .unset, .unset, .unset, .unset, .unset] [(.int (65535 : Int32)), (.int ((p2.toUInt32 >>> ((16 : Int32) &&& 31).toUInt32).toInt32)), (.int (1 : Int32)), (.ref b153), (.ref b153)]))
    refine own_st (fun _ k => XS.iand X156.here hx rfl (hb hby at_68) rfl k) ?_
    show own_Gl _ _ _ _ _ _ _ (T156.setTop (mkF m 69 #[.val (.int p1), .val (.int p2), .val (.int p3), .val (.ref b1), .unset, .unset, .unset, .unset, .unset, .unset, .unset, .unset, .unset] [(.int (((p2.toUInt32 >>> ((16 : Int32) &&& 31).toUInt32).toInt32) &&& (65535 : Int32))), (.int (1 : Int32)), (.ref b153), (.ref b153)]))
    refine own_st (fun _ k => XS.i2c X156.here hx rfl (hb hby at_69) rfl k) ?_
    show own_Gl _ _ _ _ _ _ _ (T156.setTop (mkF m 70 #[.val (.int p1), .val (.int p2), .val (.int p3), .val (.ref b1), .unset, .unset, .unset, .unset, .unset, .unset, .unset, .unset, .unset] [(.int ((((p2.toUInt32 >>> ((16 : Int32) &&& 31).toUInt32).toInt32) &&& (65535 : Int32)).toUInt32.toUInt16.toUInt32.toInt32)), (.int (1 : Int32)), (.ref b153), (.ref b153)]))
    obtain ⟨cl158, Ar158, qq158, Ss158, Nn158, Hh158, Gg158⟩ := id Vw156
    have hin158 : ¬ ((1 : Int32) < 0 ∨ cl158.slots.size ≤ ((1 : Int32)).toNatClampNeg) := inb_of Ss158 ⟨by decide, by decide⟩
    obtain ⟨T158, h158, X158, e158, W158, st158⟩ := stC X156 hx hZ e156 Ar158 (j := (1 : Int32)) hin158 (g := (mkF m 70 #[.val (.int p1), .val (.int p2), .val (.int p3), .val (.ref b1), .unset, .unset, .unset, .unset, .unset, .unset, .unset, .unset, .unset] [(.int ((((p2.toUInt32 >>> ((16 : Int32) &&& 31).toUInt32).toInt32) &&& (65535 : Int32)).toUInt32.toUInt16.toUInt32.toInt32)), (.int (1 : Int32)), (.ref b153), (.ref b153)])) rfl rfl (hb hby at_70)
    have N158 := Fr.snoc X158 N156 g_b153
    refine own_st st158 ?_
    have Zs159 : n0 ≤ h158.size := Nat.le_trans Zs157 (Keep.of_wr W158).1
    have Vw158 : Arv Z h158 b153 k153 .char (2 : Int32) [(.int (nar .char ((p2 &&& (65535 : Int32)).toUInt32.toUInt16.toUInt32.toInt32))), (.int (nar .char ((((p2.toUInt32 >>> ((16 : Int32) &&& 31).toUInt32).toInt32) &&& (65535 : Int32)).toUInt32.toUInt16.toUInt32.toInt32)))] (.int (0 : Int32)) := Arv.set Ar158 qq158 Ss158 Nn158 Hh158 Gg158 (fits_nar_char _) W158 1 (rfl) (Nat.le_of_ble_eq_true rfl)
    show own_Gl _ _ _ _ _ _ _ (T158.setTop (mkF m 71 #[.val (.int p1), .val (.int p2), .val (.int p3), .val (.ref b1), .unset, .unset, .unset, .unset, .unset, .unset, .unset, .unset, .unset] [(.ref b153)]))
    refine own_st (fun _ k => XS.astore X158.here hx rfl (hb hby at_71) rfl rfl (l' := #[.val (.int p1), .val (.int p2), .val (.int p3), .val (.ref b1), .val (.ref b153), .unset, .unset, .unset, .unset, .unset, .unset, .unset, .unset]) rfl k) ?_
    show own_Gl _ _ _ _ _ _ _ (T158.setTop (mkF m 73 #[.val (.int p1), .val (.int p2), .val (.int p3), .val (.ref b1), .val (.ref b153), .unset, .unset, .unset, .unset, .unset, .unset, .unset, .unset] []))
    have K160 : Keep h0 h158 [] := (((K152.ext E153).wr W156 (Or.inr gh_b153)).wr W158 (Or.inr gh_b153))
    have f161 := (((Vw6.ext E153).other W156 ne_b1_b153).other W158 ne_b1_b153)
    have f162 := ((((((Old0.ext E1).wr W4 g_b1).wr W6 g_b1).ext E153).wr W156 g_b153).wr W158 g_b153)
    show own_Gl _ _ _ _ _ _ _ (T158.setTop (mkF m 73 #[.val (.int p1), .val (.int p2), .val (.int p3), .val (.ref b1), .val (.ref b153), .unset, .unset, .unset, .unset, .unset, .unset, .unset, .unset] []))
    exact J73_8 T158 _ N158 X158 _ e158 (b153) (k153) ((nar .char ((p2 &&& (65535 : Int32)).toUInt32.toUInt16.toUInt32.toInt32))) ((nar .char ((((p2.toUInt32 >>> ((16 : Int32) &&& 31).toUInt32).toInt32) &&& (65535 : Int32)).toUInt32.toUInt16.toUInt32.toInt32))) Zs159 K160 f161 Vw158 f162 (own_nch _) (own_nch _)
  · refine own_st (fun _ k => XS.ifNo X6.here hx rfl (hb hby at_26) rfl ((if0 _ _).trans (feq hc26).1) k) ?_
    show own_Gl _ _ _ _ _ _ _ (T6.setTop (mkF m 29 #[.val (.int p1), .val (.int p2), .val (.int p3), .val (.ref b1), .unset, .unset, .unset, .unset, .unset, .unset, .unset, .unset, .unset] []))
    refine own_st (fun _ k => XS.iconst X6.here hx rfl (hb hby at_29) k) ?_
    show own_Gl _ _ _ _ _ _ _ (T6.setTop (mkF m 30 #[.val (.int p1), .val (.int p2), .val (.int p3), .val (.ref b1), .unset, .unset, .unset, .unset, .unset, .unset, .unset, .unset, .unset] [(.int (2 : Int32))]))
    have K163 : Keep h0 h6 [] := ((((Keep.refl h0 []).ext E1).wr W4 (Or.inr gh_b1)).wr W6 (Or.inr gh_b1))
    obtain ⟨T164, h164, k164, X164, e164, E164, A164, st164⟩ := newP X6 hx hZ (hw _ (List.mem_of_getElem? (i := 0) rfl)) e6 (g := (mkF m 30 #[.val (.int p1), .val (.int p2), .val (.int p3), .val (.ref b1), .unset, .unset, .unset, .unset, .unset, .unset, .unset, .unset, .unset] [(.int (2 : Int32))])) rfl (hb hby at_30) rfl (by decide) (cap := 2) (by decide) (by decide) (by decide) (by decide)
    obtain ⟨b164, gb164⟩ : ∃ z, z = h6.size := ⟨_, rfl⟩
    rw [← gb164] at A164 st164
    refine own_st st164 ?_
    have Zs165 : n0 ≤ h164.size := Nat.le_trans Zs7 E164.1
    have g_b164 : n0 ≤ b164 := Nat.le_trans Zs7 (Nat.le_of_eq gb164.symm)
    have gh_b164 : h0.size ≤ b164 := Nat.le_trans K163.1 (Nat.le_of_eq gb164.symm)
    have ne_b1_b164 : b1 ≠ b164 := Nat.ne_of_lt (Nat.lt_of_lt_of_le Vw6.lt (Nat.le_of_eq gb164.symm))
    have V_b164 : Arv Z h164 b164 k164 .char (2 : Int32) [(.int (0 : Int32)), (.int (0 : Int32))] (.int (0 : Int32)) := (Arv.new A164 (by decide)).pad (pad_rep [] (.int (0 : Int32)) 2)
    show own_Gl _ _ _ _ _ _ _ (T164.setTop (mkF m 32 #[.val (.int p1), .val (.int p2), .val (.int p3), .val (.ref b1), .unset, .unset, .unset, .unset, .unset, .unset, .unset, .unset, .unset] [(.ref b164)]))
    refine own_st (fun _ k => XS.dup X164.here hx rfl (hb hby at_32) rfl rfl k) ?_
    show own_Gl _ _ _ _ _ _ _ (T164.setTop (mkF m 33 #[.val (.int p1), .val (.int p2), .val (.int p3), .val (.ref b1), .unset, .unset, .unset, .unset, .unset, .unset, .unset, .unset, .unset] [(.ref b164), (.ref b164)]))
    refine own_st (fun _ k => XS.iconst X164.here hx rfl (hb hby at_33) k) ?_
    show own_Gl _ _ _ _ _ _ _ (T164.setTop (mkF m 34 #[.val (.int p1), .val (.int p2), .val (.int p3), .val (.ref b1), .unset, .unset, .unset, .unset, .unset, .unset, .unset, .unset, .unset] [(.int (0 : Int32)), (.ref b164), (.ref b164)]))
    refine own_st (fun _ k => XS.aloadN X164.here hx rfl (hb hby at_34) rfl rfl k) ?_
    show own_Gl _ _ _ _ _ _ _ (T164.setTop (mkF m 35 #[.val (.int p1), .val (.int p2), .val (.int p3), .val (.ref b1), .unset, .unset, .unset, .unset, .unset, .unset, .unset, .unset, .unset] [(.ref b1), (.int (0 : Int32)), (.ref b164), (.ref b164)]))
    refine own_st (fun _ k => XS.iconst X164.here hx rfl (hb hby at_35) k) ?_
    show own_Gl _ _ _ _ _ _ _ (T164.setTop (mkF m 36 #[.val (.int p1), .val (.int p2), .val (.int p3), .val (.ref b1), .unset, .unset, .unset, .unset, .unset, .unset, .unset, .unset, .unset] [(.int (0 : Int32)), (.ref b1), (.int (0 : Int32)), (.ref b164), (.ref b164)]))
    have f167 := (Vw6.ext E164)
    obtain ⟨cl168, Ar168, qq168, Ss168, Nn168, Hh168, Gg168⟩ := id f167
    have hin168 : ¬ ((0 : Int32) < 0 ∨ cl168.slots.size ≤ ((0 : Int32)).toNatClampNeg) := inb_of Ss168 ⟨by decide, by decide⟩
    have hat168 : cl168.slots[((0 : Int32)).toNatClampNeg]? = some (.int (nar .char ((p1 &&& (65535 : Int32)).toUInt32.toUInt16.toUInt32.toInt32))) := Hh168.at hin168 (rfl)
    refine own_st (X164.caload hx (j := (0 : Int32)) (v := (.int (nar .char ((p1 &&& (65535 : Int32)).toUInt32.toUInt16.toUInt32.toInt32)))) (by rw [e164]; exact Ar168.1) (State.isArrayOf_alike hZ.alike Ar168.2.1) Ar168.2.2 hin168 hat168 (g := (mkF m 36 #[.val (.int p1), .val (.int p2), .val (.int p3), .val (.ref b1), .unset, .unset, .unset, .unset, .unset, .unset, .unset, .unset, .unset] [(.int (0 : Int32)), (.ref b1), (.int (0 : Int32)), (.ref b164), (.ref b164)])) rfl rfl (hb hby at_36)) ?_
    show own_Gl _ _ _ _ _ _ _ (T164.setTop (mkF m 37 #[.val (.int p1), .val (.int p2), .val (.int p3), .val (.ref b1), .unset, .unset, .unset, .unset, .unset, .unset, .unset, .unset, .unset] [(.int (nar .char ((p1 &&& (65535 : Int32)).toUInt32.toUInt16.toUInt32.toInt32))), (.int (0 : Int32)), (.ref b164), (.ref b164)]))
    obtain ⟨cl169, Ar169, qq169, Ss169, Nn169, Hh169, Gg169⟩ := id V_b164
    have hin169 : ¬ ((0 : Int32) < 0 ∨ cl169.slots.size ≤ ((0 : Int32)).toNatClampNeg) := inb_of Ss169 ⟨by decide, by decide⟩
    obtain ⟨T169, h169, X169, e169, W169, st169⟩ := stC X164 hx hZ e164 Ar169 (j := (0 : Int32)) hin169 (g := (mkF m 37 #[.val (.int p1), .val (.int p2), .val (.int p3), .val (.ref b1), .unset, .unset, .unset, .unset, .unset, .unset, .unset, .unset, .unset] [(.int (nar .char ((p1 &&& (65535 : Int32)).toUInt32.toUInt16.toUInt32.toInt32))), (.int (0 : Int32)), (.ref b164), (.ref b164)])) rfl rfl (hb hby at_37)
    have N169 := Fr.snoc X169 N6 g_b164
    refine own_st st169 ?_
    have Zs170 : n0 ≤ h169.size := Nat.le_trans Zs165 (Keep.of_wr W169).1
    have Vw169 : Arv Z h169 b164 k164 .char (2 : Int32) [(.int (nar .char (nar .char ((p1 &&& (65535 : Int32)).toUInt32.toUInt16.toUInt32.toInt32)))), (.int (0 : Int32))] (.int (0 : Int32)) := Arv.set Ar169 qq169 Ss169 Nn169 Hh169 Gg169 (fits_nar_char _) W169 0 (rfl) (Nat.le_of_ble_eq_true rfl)
    show own_Gl _ _ _ _ _ _ _ (T169.setTop (mkF m 38 #[.val (.int p1), .val (.int p2), .val (.int p3), .val (.ref b1), .unset, .unset, .unset, .unset, .unset, .unset, .unset, .unset, .unset] [(.ref b164)]))
    refine own_st (fun _ k => XS.dup X169.here hx rfl (hb hby at_38) rfl rfl k) ?_
    show own_Gl _ _ _ _ _ _ _ (T169.setTop (mkF m 39 #[.val (.int p1), .val (.int p2), .val (.int p3), .val (.ref b1), .unset, .unset, .unset, .unset, .unset, .unset, .unset, .unset, .unset] [(.ref b164), (.ref b164)]))
    refine own_st (fun _ k => XS.iconst X169.here hx rfl (hb hby at_39) k) ?_
    show own_Gl _ _ _ _ _ _ _ (T169.setTop (mkF m 40 #[.val (.int p1), .val (.int p2), .val (.int p3), .val (.ref b1), .unset, .unset, .unset, .unset, .unset, .unset, .unset, .unset, .unset] [(.int (1 : Int32)), (.ref b164), (.ref b164)]))
    refine own_st (fun _ k => XS.aloadN X169.here hx rfl (hb hby at_40) rfl rfl k) ?_
    show own_Gl _ _ _ _ _ _ _ (T169.setTop (mkF m 41 #[.val (.int p1), .val (.int p2), .val (.int p3), .val (.ref b1), .unset, .unset, .unset, .unset, .unset, .unset, .unset, .unset, .unset] [(.ref b1), (.int (1 : Int32)), (.ref b164), (.ref b164)]))
    refine own_st (fun _ k => XS.iconst X169.here hx rfl (hb hby at_41) k) ?_
    show own_Gl _ _ _ _ _ _ _ (T169.setTop (mkF m 42 #[.val (.int p1), .val (.int p2), .val (.int p3), .val (.ref b1), .unset, .unset, .unset, .unset, .unset, .unset, .unset, .unset, .unset] [(.int (1 : Int32)), (.ref b1), (.int (1 : Int32)), (.ref b164), (.ref b164)]))
    have f171 := (f167.other W169 ne_b1_b164)
    obtain ⟨cl172, Ar172, qq172, Ss172, Nn172, Hh172, Gg172⟩ := id f171
    have hin172 : ¬ ((1 : Int32) < 0 ∨ cl172.slots.size ≤ ((1 : Int32)).toNatClampNeg) := inb_of Ss172 ⟨by decide, by decide⟩
    have hat172 : cl172.slots[((1 : Int32)).toNatClampNeg]? = some (.int (nar .char ((((p1.toUInt32 >>> ((16 : Int32) &&& 31).toUInt32).toInt32) &&& (65535 : Int32)).toUInt32.toUInt16.toUInt32.toInt32))) := Hh172.at hin172 (rfl)
    refine own_st (X169.caload hx (j := (1 : Int32)) (v := (.int (nar .char ((((p1.toUInt32 >>> ((16 : Int32) &&& 31).toUInt32).toInt32) &&& (65535 : Int32)).toUInt32.toUInt16.toUInt32.toInt32)))) (by rw [e169]; exact Ar172.1) (State.isArrayOf_alike hZ.alike Ar172.2.1) Ar172.2.2 hin172 hat172 (g := (mkF m 42 #[.val (.int p1), .val (.int p2), .val (.int p3), .val (.ref b1), .unset, .unset, .unset, .unset, .unset, .unset, .unset, .unset, .unset] [(.int (1 : Int32)), (.ref b1), (.int (1 : Int32)), (.ref b164), (.ref b164)])) rfl rfl (hb hby at_42)) ?_
    show own_Gl _ _ _ _ _ _ _ (T169.setTop (mkF m 43 #[.val (.int p1), .val (.int p2), .val (.int p3), .val (.ref b1), .unset, .unset, .unset, .unset, .unset, .unset, .unset, .unset, .unset] [(.int (nar .char ((((p1.toUInt32 >>> ((16 : Int32) &&& 31).toUInt32).toInt32) &&& (65535 : Int32)).toUInt32.toUInt16.toUInt32.toInt32))), (.int (1 : Int32)), (.ref b164), (.ref b164)]))
    obtain ⟨cl173, Ar173, qq173, Ss173, Nn173, Hh173, Gg173⟩ := id Vw169
    have hin173 : ¬ ((1 : Int32) < 0 ∨ cl173.slots.size ≤ ((1 : Int32)).toNatClampNeg) := inb_of Ss173 ⟨by decide, by decide⟩
    obtain ⟨T173, h173, X173, e173, W173, st173⟩ := stC X169 hx hZ e169 Ar173 (j := (1 : Int32)) hin173 (g := (mkF m 43 #[.val (.int p1), .val (.int p2), .val (.int p3), .val (.ref b1), .unset, .unset, .unset, .unset, .unset, .unset, .unset, .unset, .unset] [(.int (nar .char ((((p1.toUInt32 >>> ((16 : Int32) &&& 31).toUInt32).toInt32) &&& (65535 : Int32)).toUInt32.toUInt16.toUInt32.toInt32))), (.int (1 : Int32)), (.ref b164), (.ref b164)])) rfl rfl (hb hby at_43)
    have N173 := Fr.snoc X173 N169 g_b164
    refine own_st st173 ?_
    have Zs174 : n0 ≤ h173.size := Nat.le_trans Zs170 (Keep.of_wr W173).1
    have Vw173 : Arv Z h173 b164 k164 .char (2 : Int32) [(.int (nar .char (nar .char ((p1 &&& (65535 : Int32)).toUInt32.toUInt16.toUInt32.toInt32)))), (.int (nar .char (nar .char ((((p1.toUInt32 >>> ((16 : Int32) &&& 31).toUInt32).toInt32) &&& (65535 : Int32)).toUInt32.toUInt16.toUInt32.toInt32))))] (.int (0 : Int32)) := Arv.set Ar173 qq173 Ss173 Nn173 Hh173 Gg173 (fits_nar_char _) W173 1 (rfl) (Nat.le_of_ble_eq_true rfl)
    show own_Gl _ _ _ _ _ _ _ (T173.setTop (mkF m 44 #[.val (.int p1), .val (.int p2), .val (.int p3), .val (.ref b1), .unset, .unset, .unset, .unset, .unset, .unset, .unset, .unset, .unset] [(.ref b164)]))
    refine own_st (fun _ k => XS.astore X173.here hx rfl (hb hby at_44) rfl rfl (l' := #[.val (.int p1), .val (.int p2), .val (.int p3), .val (.ref b1), .val (.ref b164), .unset, .unset, .unset, .unset, .unset, .unset, .unset, .unset]) rfl k) ?_
    show own_Gl _ _ _ _ _ _ _ (T173.setTop (mkF m 46 #[.val (.int p1), .val (.int p2), .val (.int p3), .val (.ref b1), .val (.ref b164), .unset, .unset, .unset, .unset, .unset, .unset, .unset, .unset] []))
    refine own_st (fun _ k => XS.goto X173.here hx rfl (pc0 := 46) (pc' := 73) rfl (hb hby at_46) (by decide) (by decide) k) ?_
    show own_Gl _ _ _ _ _ _ _ (T173.setTop (mkF m 73 #[.val (.int p1), .val (.int p2), .val (.int p3), .val (.ref b1), .val (.ref b164), .unset, .unset, .unset, .unset, .unset, .unset, .unset, .unset] []))
    have K175 : Keep h0 h173 [] := (((K163.ext E164).wr W169 (Or.inr gh_b164)).wr W173 (Or.inr gh_b164))
    have f176 := (f171.other W173 ne_b1_b164)
    have f177 := ((((((Old0.ext E1).wr W4 g_b1).wr W6 g_b1).ext E164).wr W169 g_b164).wr W173 g_b164)
    show own_Gl _ _ _ _ _ _ _ (T173.setTop (mkF m 73 #[.val (.int p1), .val (.int p2), .val (.int p3), .val (.ref b1), .val (.ref b164), .unset, .unset, .unset, .unset, .unset, .unset, .unset, .unset] []))
    exact J73_8 T173 _ N173 X173 _ e173 (b164) (k164) ((nar .char (nar .char ((p1 &&& (65535 : Int32)).toUInt32.toUInt16.toUInt32.toInt32)))) ((nar .char (nar .char ((((p1.toUInt32 >>> ((16 : Int32) &&& 31).toUInt32).toInt32) &&& (65535 : Int32)).toUInt32.toUInt16.toUInt32.toInt32)))) Zs174 K175 f176 Vw173 f177 (own_nch _) (own_nch _)
set_option maxRecDepth 65536 in
set_option maxHeartbeats 40000000 in
theorem comes_1 {Post : Tables → Env → Array Value → State → Outcome → State → Prop} (hpost : ∀ tb e args s v u, (limb_1_1.after args s (.returned v) u = true ∧ limb_1_2.after args s (.returned v) u = true ∧ True) → FrameEnd s (.returned v) u (Jvm.fieldLocs frame_1_writes args s ++ Jvm.arrayLocs frame_1_arrays args s ++ Jvm.staticLocs frame_1_statics s) 32 128 → Post tb e args s (.returned v) u) :
    ArmFor flags0 classFile x code maxLocals ret World_1 tables_1 room_1 Calls_1 rest_1 Pre_1 Post := by
  intro l hfl _ _ p e ha hc hk s m args below hf hA hF happ hP
  obtain ⟨hcalls, hrest, hpre⟩ := hP
  obtain ⟨-, -, -, hnamed, -, -, -, hat⟩ := (Spec.applies_iff hf).mp happ
  obtain ⟨hg, hn⟩ := and_e (Cond.before_iff.mp (show (Jvm.Cond.and given_1 narrow_1).before args s = true from hpre))
  obtain ⟨gg1, gg2⟩ := and_e hg
  obtain ⟨gg3, gg4⟩ := and_e gg2
  obtain ⟨gg5, gg6⟩ := and_e gg4
  obtain ⟨w0, w1, w2, rfl⟩ : ∃ w0 w1 w2 : Value, args = #[w0, w1, w2] := by
    have hs : args.size = 3 := by simpa [Cond.value, given_1] using gg1
    obtain ⟨L⟩ := args
    match L, hs with
    | [w0, w1, w2], _ => exact ⟨w0, w1, w2, rfl⟩
  have hw := fun d (hd : d ∈ tables_1) => atoms_spec (ws := Jvm.Cond.code x code maxLocals ret :: tables_1) hat d (List.mem_cons_of_mem _ hd)
  have hfit : Fit s := fun {y c} hc i hi => by
    obtain ⟨ha, rfl⟩ := Array.getElem?_eq_some_iff.mp hc
    have q := List.all_eq_true.mp ((Array.all_eq_true_iff_forall_mem.mp hF) _ (Array.getElem_mem ha)) i (List.mem_range.mpr hi)
    simpa [Array.getElem?_eq_getElem hi] using q
  obtain ⟨hsets, hown0⟩ := atoms_of _ (rest_1_c_eq ▸ (show rest_1_c.before _ s = true from hrest))
  have hr0 := Cond.before_iff.mp hown0
  obtain ⟨i0, ei0⟩ := is_v gg3
  obtain rfl : w0 = (.int i0) := Option.some.inj ei0
  obtain ⟨i1, ei1⟩ := is_v gg5
  obtain rfl : w1 = (.int i1) := Option.some.inj ei1
  obtain ⟨i2, ei2⟩ := is_v gg6
  obtain rfl : w2 = (.int i2) := Option.some.inj ei2
  obtain ⟨cs, ev_cs⟩ := is_v (Cond.before_iff.mp (hsets _ (List.mem_of_getElem? (i := 1) rfl)))
  have xs_cs := Sta.start ev_cs (Or.inl (hsets _ (List.mem_of_getElem? (i := 0) rfl)))
  have xcs : ¬ (cs = (0 : Int32)) := gotF (Cond.eq_ints ev_cs (Term.int_eval 0)) (not_v (Cond.before_iff.mp (hsets _ (List.mem_of_getElem? (i := 2) rfl))))
  have xs_ad := Sta.start (own_sta_int (hsets _ (List.mem_of_getElem? (i := 21) rfl))) (Or.inl (hsets _ (List.mem_of_getElem? (i := 20) rfl)))
  have xs_hi := Sta.start (own_sta_int (hsets _ (List.mem_of_getElem? (i := 24) rfl))) (Or.inl (hsets _ (List.mem_of_getElem? (i := 23) rfl)))
  have xs_lo := Sta.start (own_sta_int (hsets _ (List.mem_of_getElem? (i := 27) rfl))) (Or.inl (hsets _ (List.mem_of_getElem? (i := 26) rfl)))
  obtain ⟨em, ev_em⟩ := exa_v (Cond.before_iff.mp (hsets _ (List.mem_of_getElem? (i := 11) rfl)))
  have xem := (Exa.start ev_em (Cond.before_iff.mp (hsets _ (List.mem_of_getElem? (i := 11) rfl)))).lt
  have xs_em := Sta.start ev_em (Or.inl (hsets _ (List.mem_of_getElem? (i := 10) rfl)))
  obtain ⟨n, o, h1, h2, h3, _, L, rfl, ⟨rfl, N⟩, hq⟩ := own_law l s _ hw tables_1 i0 i1 i2 cs em s.heap s.heap.size (Nat.le_refl _) (Old.start s) xs_cs xs_ad xs_hi xs_lo xs_em xcs xem p e ha hc hk s m _ below hf ((Spec.applies_iff_loose hf).mp happ).1 ⟨rfl, State.Warmed39.refl s, rfl⟩ trivial
  refine ⟨n, _, h1, h2, h3, hpost _ _ _ _ _ _ ⟨Cond.after_iff.mpr rfl, Cond.after_iff.mpr (eq_i res_at (Term.int_eval (1)) rfl), trivial⟩ ⟨hq.1, hq.2.1, (hq.2.2.sift fun y hy => Or.inr (N y hy)).mono (by decide) (by decide)⟩⟩
theorem main_1_1 : Claimed_1_1 := comes_1 fun _ _ _ _ _ _ h hF => ⟨h.1, hF⟩
theorem main_1_2 : Claimed_1_2 := comes_1 fun _ _ _ _ _ _ h hF => ⟨h.2.1, hF⟩

end Jvm.Pilot.@@N@@
namespace Jvm.Pilot.@@N@@
open Jvm Jvm.ClassFile Sem Op Lib Jvm.Free Jvm.Stand Jvm.Pilot.@@N@@.Jvm.D
/-! MADE BY PROGRAM (witnessworld.py) out of the Statement's table words and the real class files: 35 classes; the members and pool entries that the words name. The judged class is class 1, her method 1. -/
namespace start1
open Jvm.ClassFile
def u (s : String) : CpInfo := .utf8 (stringToUtf16 s)
/-- a pool by its gaps: so many unusable entries, then the entry; so many at the end -/
def gap : Nat → List CpInfo → List CpInfo
  | 0, r => r
  | n + 1, r => .unusable :: gap n r
def poolList (es : List (Nat × CpInfo)) (last : Nat) : List CpInfo := es.foldr (fun e r => gap e.1 (e.2 :: r)) (gap last [])
def pool (es : List (Nat × CpInfo)) (last : Nat) : Array CpInfo := ⟨poolList es last⟩
def fileOf (pool : Array CpInfo) (this : Nat) (attrs : Array Attribute := #[]) (ms : Array MethodInfo := #[]) (fl : Nat := 33) (sup : Nat := 0) (ifs : Array Nat := #[]) (fds : Array FieldInfo := #[]) : ClassFile where
  minorVersion := 0
  majorVersion := 65
  constantPool := pool
  accessFlags := fl
  thisClass := this
  superClass := sup
  interfaces := ifs
  fields := fds
  methods := ms
  attributes := attrs
def plain (name : String) (sup : Option ClassId) : Class where
  name := name
  kind := .ordinary
  loader := none
  accessFlags := 33
  super := sup
  interfaces := #[]
  cf := none
  fields := #[]
  methods := #[]
  instanceTypes := #[]
  staticTypes := #[]
  resolved := #[]
  callSites := []
  init := .initialized
  statics := none
  mirror := none

def pool0 : Array CpInfo := pool [(5, u "<init>"), (0, u "()V"), (1, .class_ 10), (1, u "java/lang/Object")] 113

def k0c0 : Code := { maxStack := 0, maxLocals := 1, code := object_method_1_code, exceptionTable := #[], attributes := #[] }
def k0m0 : Method := { name := "<init>", desc := "()V", sig := { parameters := [], returnType := none }, accessFlags := 1, code := some k0c0 }
/-- java/lang/Object -/
def k0 : Class := { plain "java/lang/Object" none with
  accessFlags := 33
  interfaces := #[]
  cf := some (fileOf pool0 8 #[] #[{ accessFlags := 1, nameIndex := 5, descriptorIndex := 6, attributes := #[] }] 33 0 #[] #[])
  fields := #[]
  methods := #[k0m0]
  instanceTypes := #[]
  staticTypes := #[]
  resolved := Array.replicate 124 none
  statics := none }

def pool1 : Array CpInfo := pool [(2, .class_ 4), (1, u "java/lang/Object"), (0, u "<init>"), (0, u "()V"), (0, .integer 65535), (0, .class_ 9), (0, u "java/lang/String"), (0, .methodref 8 11), (0, .nameAndType 5 12), (0, u "([C)V"), (0, .class_ 14), (0, u "com/example/lehti/lehti/model/Variable"), (0, .methodref 13 16), (0, .nameAndType 5 17), (0, u "(Ljava/lang/String;)V"), (0, .class_ 19), (0, u "com/example/lehti/lehti/model/Equality"), (0, .methodref 18 21), (0, .nameAndType 5 22), (0, u "(Lcom/example/lehti/lehti/model/Variable;Lcom/example/lehti/lehti/model/Variable;)V"), (0, .methodref 18 24), (0, .nameAndType 25 26), (0, u "variables"), (0, u "()Ljava/util/List;"), (0, .interfaceMethodref 28 29), (0, .class_ 30), (0, .nameAndType 31 32), (0, u "java/util/List"), (0, u "size"), (0, u "()I"), (0, .interfaceMethodref 28 34), (0, .nameAndType 35 36), (0, u "get"), (0, u "(I)Ljava/lang/Object;"), (0, .methodref 13 38), (0, .nameAndType 39 40), (0, u "name"), (0, u "()Ljava/lang/String;"), (0, .methodref 8 42), (0, .nameAndType 43 44), (0, u "equals"), (0, u "(Ljava/lang/Object;)Z"), (0, .class_ 46), (0, u "com/example/lehti/lehti/model/EqualityVariablesPinLaw"), (2, u "law"), (0, u "(III)Z")] 5

def k1m0 : Method := { name := "<init>", desc := "()V", sig := { parameters := [], returnType := none }, accessFlags := 1, code := none }
def k1c1 : Code := { maxStack := 5, maxLocals := 13, code := code, exceptionTable := #[], attributes := #[] }
def k1m1 : Method := { name := "law", desc := "(III)Z", sig := { parameters := [.int, .int, .int], returnType := some .boolean }, accessFlags := 9, code := some k1c1 }
/-- com/example/lehti/lehti/model/EqualityVariablesPinLaw -/
def k1 : Class := { plain "com/example/lehti/lehti/model/EqualityVariablesPinLaw" (some 0) with
  accessFlags := 49
  interfaces := #[]
  cf := some (fileOf pool1 45 #[] #[{ accessFlags := 1, nameIndex := 5, descriptorIndex := 6, attributes := #[] }, { accessFlags := 9, nameIndex := 49, descriptorIndex := 50, attributes := #[] }] 49 2 #[] #[])
  fields := #[]
  methods := #[k1m0, k1m1]
  instanceTypes := #[]
  staticTypes := #[]
  resolved := Array.replicate 56 none
  statics := none }

def pool2 : Array CpInfo := pool [(1, .class_ 2), (0, u "java/io/Serializable"), (0, .class_ 4), (0, u "java/lang/Object")] 2

/-- java/io/Serializable -/
def k2 : Class := { plain "java/io/Serializable" (some 0) with
  accessFlags := 1537
  interfaces := #[]
  cf := some (fileOf pool2 1 #[] #[] 1537 3 #[] #[])
  fields := #[]
  methods := #[]
  instanceTypes := #[]
  staticTypes := #[]
  resolved := Array.replicate 7 none
  statics := none }

def pool3 : Array CpInfo := pool [(1, .class_ 2), (0, u "java/lang/Comparable"), (0, .class_ 4), (0, u "java/lang/Object")] 7

/-- java/lang/Comparable -/
def k3 : Class := { plain "java/lang/Comparable" (some 0) with
  accessFlags := 1537
  interfaces := #[]
  cf := some (fileOf pool3 1 #[] #[] 1537 3 #[] #[])
  fields := #[]
  methods := #[]
  instanceTypes := #[]
  staticTypes := #[]
  resolved := Array.replicate 12 none
  statics := none }

def pool4 : Array CpInfo := pool [(2, .class_ 4), (1, u "java/lang/CharSequence"), (42, .class_ 48), (0, u "java/lang/CharSequence$1CodePointIterator"), (10, .class_ 60), (0, u "java/lang/CharSequence$1CharIterator"), (5, .class_ 67), (0, u "java/lang/Object")] 63

/-- java/lang/CharSequence -/
def k4 : Class := { plain "java/lang/CharSequence" (some 0) with
  accessFlags := 1537
  interfaces := #[]
  cf := some (fileOf pool4 2 #[.nestMembers #[47, 59]] #[] 1537 66 #[] #[])
  fields := #[]
  methods := #[]
  instanceTypes := #[]
  staticTypes := #[]
  resolved := Array.replicate 131 none
  statics := none }

def pool5 : Array CpInfo := pool [(1, .class_ 2), (0, u "java/lang/constant/Constable"), (0, .class_ 4), (0, u "java/lang/Object")] 6

/-- java/lang/constant/Constable -/
def k5 : Class := { plain "java/lang/constant/Constable" (some 0) with
  accessFlags := 1537
  interfaces := #[]
  cf := some (fileOf pool5 1 #[] #[] 1537 3 #[] #[])
  fields := #[]
  methods := #[]
  instanceTypes := #[]
  staticTypes := #[]
  resolved := Array.replicate 11 none
  statics := none }

def pool6 : Array CpInfo := pool [(1, .class_ 2), (0, u "java/lang/constant/ConstantDesc"), (0, .class_ 4), (0, u "java/lang/Object")] 32

/-- java/lang/constant/ConstantDesc -/
def k6 : Class := { plain "java/lang/constant/ConstantDesc" (some 0) with
  accessFlags := 1537
  interfaces := #[]
  cf := some (fileOf pool6 1 #[] #[] 1537 3 #[] #[])
  fields := #[]
  methods := #[]
  instanceTypes := #[]
  staticTypes := #[]
  resolved := Array.replicate 37 none
  statics := none }

def pool7 : Array CpInfo := pool [(1, .methodref 2 3), (0, .class_ 4), (0, .nameAndType 5 6), (0, u "java/lang/Object"), (0, u "<init>"), (0, u "()V"), (2, .fieldref 10 11), (0, .class_ 12), (0, .nameAndType 13 14), (0, u "java/lang/String"), (0, u "value"), (0, u "[B"), (0, .fieldref 10 16), (0, .nameAndType 17 18), (0, u "coder"), (0, u "B"), (2, u "hash"), (0, u "I"), (2, u "hashIsZero"), (0, u "Z"), (0, .methodref 10 28), (0, .nameAndType 5 29), (0, u "([CIILjava/lang/Void;)V"), (8, .fieldref 10 39), (0, .nameAndType 40 26), (0, u "COMPACT_STRINGS"), (1, .class_ 44), (1, u "java/lang/StringUTF16"), (0, u "compress"), (1, .methodref 42 48), (0, .nameAndType 49 50), (0, u "coderFromArrayLen"), (0, u "([BI)B"), (126, .methodref 42 178), (0, .nameAndType 45 179), (0, u "([CII)[B"), (363, u "equals"), (29, u "(Ljava/lang/Object;)Z"), (1, .class_ 576), (0, u "java/lang/CharSequence"), (22, u "CASE_INSENSITIVE_ORDER"), (0, u "Ljava/util/Comparator;"), (409, u "([C)V"), (90, u "serialPersistentFields"), (0, u "[Ljava/io/ObjectStreamField;"), (0, .class_ 1104), (0, u "java/lang/String$CaseInsensitiveComparator"), (1, .class_ 1107), (0, u "java/io/Serializable"), (0, .class_ 1109), (0, u "java/lang/Comparable"), (0, .class_ 1111), (0, u "java/lang/constant/Constable"), (0, .class_ 1113), (0, u "java/lang/constant/ConstantDesc"), (2, u "serialVersionUID"), (0, u "J"), (3, u "REPL"), (0, u "C"), (2, u "LATIN1"), (1, u "UTF16")] 323

def k7m0 : Method := { name := "<init>", desc := "()V", sig := { parameters := [], returnType := none }, accessFlags := 1, code := none }
def k7c1 : Code := { maxStack := 5, maxLocals := 2, code := jdk_42_method_3_code, exceptionTable := #[], attributes := #[] }
def k7m1 : Method := { name := "<init>", desc := "([C)V", sig := { parameters := [(.array .char)], returnType := none }, accessFlags := 1, code := some k7c1 }
def k7c2 : Code := { maxStack := 2, maxLocals := 3, code := jdk_42_method_66_code, exceptionTable := #[], attributes := #[] }
def k7m2 : Method := { name := "equals", desc := "(Ljava/lang/Object;)Z", sig := { parameters := [(.object "java/lang/Object")], returnType := some .boolean }, accessFlags := 1, code := some k7c2 }
def k7c3 : Code := { maxStack := 4, maxLocals := 6, code := jdk_42_method_149_code, exceptionTable := #[], attributes := #[] }
def k7m3 : Method := { name := "<init>", desc := "([CIILjava/lang/Void;)V", sig := { parameters := [(.array .char), .int, .int, (.object "java/lang/Void")], returnType := none }, accessFlags := 2, code := some k7c3 }
/-- java/lang/String -/
def k7 : Class := { plain "java/lang/String" (some 0) with
  accessFlags := 49
  interfaces := #[2, 3, 4, 5, 6]
  cf := some (fileOf pool7 10 #[.nestMembers #[1103]] #[{ accessFlags := 1, nameIndex := 5, descriptorIndex := 6, attributes := #[] }, { accessFlags := 1, nameIndex := 5, descriptorIndex := 1010, attributes := #[] }, { accessFlags := 1, nameIndex := 543, descriptorIndex := 573, attributes := #[] }, { accessFlags := 2, nameIndex := 5, descriptorIndex := 29, attributes := #[] }] 49 2 #[1106, 1108, 575, 1110, 1112] #[{ accessFlags := 18, nameIndex := 13, descriptorIndex := 14, attributes := #[] }, { accessFlags := 18, nameIndex := 17, descriptorIndex := 18, attributes := #[] }, { accessFlags := 2, nameIndex := 21, descriptorIndex := 22, attributes := #[] }, { accessFlags := 2, nameIndex := 25, descriptorIndex := 26, attributes := #[] }, { accessFlags := 26, nameIndex := 1116, descriptorIndex := 1117, attributes := #[] }, { accessFlags := 24, nameIndex := 40, descriptorIndex := 26, attributes := #[] }, { accessFlags := 26, nameIndex := 1101, descriptorIndex := 1102, attributes := #[] }, { accessFlags := 26, nameIndex := 1121, descriptorIndex := 1122, attributes := #[] }, { accessFlags := 25, nameIndex := 599, descriptorIndex := 600, attributes := #[] }, { accessFlags := 24, nameIndex := 1125, descriptorIndex := 18, attributes := #[] }, { accessFlags := 24, nameIndex := 1127, descriptorIndex := 18, attributes := #[] }])
  fields := #[{ name := "value", type := (.array .byte), accessFlags := 18, slot := 0, constantValue := 0 }, { name := "coder", type := .byte, accessFlags := 18, slot := 1, constantValue := 0 }, { name := "hash", type := .int, accessFlags := 2, slot := 2, constantValue := 0 }, { name := "hashIsZero", type := .boolean, accessFlags := 2, slot := 3, constantValue := 0 }, { name := "serialVersionUID", type := .long, accessFlags := 26, slot := 0, constantValue := 0 }, { name := "COMPACT_STRINGS", type := .boolean, accessFlags := 24, slot := 1, constantValue := 0 }, { name := "serialPersistentFields", type := (.array (.object "java/io/ObjectStreamField")), accessFlags := 26, slot := 2, constantValue := 0 }, { name := "REPL", type := .char, accessFlags := 26, slot := 3, constantValue := 0 }, { name := "CASE_INSENSITIVE_ORDER", type := (.object "java/util/Comparator"), accessFlags := 25, slot := 4, constantValue := 0 }, { name := "LATIN1", type := .byte, accessFlags := 24, slot := 5, constantValue := 0 }, { name := "UTF16", type := .byte, accessFlags := 24, slot := 6, constantValue := 0 }]
  methods := #[k7m0, k7m1, k7m2, k7m3]
  instanceTypes := #[(.array .byte), .byte, .int, .boolean]
  staticTypes := #[.long, .boolean, (.array (.object "java/io/ObjectStreamField")), .char, (.object "java/util/Comparator"), .byte, .byte]
  resolved := Array.replicate 1451 none
  statics := some 0 }

def pool8 : Array CpInfo := pool [(6, .class_ 8), (1, u "java/lang/Object"), (0, u "<init>"), (0, u "()V"), (0, .methodref 12 13), (0, .class_ 14), (0, .nameAndType 15 16), (0, u "java/lang/StringUTF16"), (0, u "newBytesLength"), (0, u "(I)I"), (3, .integer 1073741823), (23, .fieldref 12 45), (0, .nameAndType 46 47), (0, u "$assertionsDisabled"), (0, u "Z"), (11, .fieldref 12 60), (0, .nameAndType 61 62), (0, u "HI_BYTE_SHIFT"), (0, u "I"), (0, .fieldref 12 64), (0, .nameAndType 65 62), (0, u "LO_BYTE_SHIFT"), (5, .methodref 12 72), (0, .nameAndType 73 74), (0, u "getChar"), (0, u "([BI)C"), (32, .methodref 12 108), (0, .nameAndType 109 110), (0, u "newBytesFor"), (0, u "(I)[B"), (0, .methodref 12 112), (0, .nameAndType 113 114), (0, u "putChar"), (0, u "([BII)V"), (0, .methodref 12 116), (0, .nameAndType 117 118), (0, u "compress"), (0, u "([CI[BII)I"), (0, .methodref 12 120), (0, .nameAndType 121 122), (0, u "toBytes"), (0, u "([CII)[B"), (138, u "coderFromArrayLen"), (0, u "([BI)B"), (106, .class_ 371), (1, u "java/lang/StringUTF16$LinesSpliterator"), (58, u "MAX_LENGTH"), (196, .class_ 628), (0, u "java/lang/StringUTF16$CodePointsSpliterator"), (0, .class_ 630), (0, u "java/lang/StringUTF16$CharsSpliterator")] 4

def k8m0 : Method := { name := "<init>", desc := "()V", sig := { parameters := [], returnType := none }, accessFlags := 0, code := none }
def k8c1 : Code := { maxStack := 1, maxLocals := 1, code := jdk_52_method_2_code, exceptionTable := #[], attributes := #[] }
def k8m1 : Method := { name := "newBytesFor", desc := "(I)[B", sig := { parameters := [.int], returnType := some (.array .byte) }, accessFlags := 9, code := some k8c1 }
def k8c2 : Code := { maxStack := 4, maxLocals := 1, code := jdk_52_method_3_code, exceptionTable := #[], attributes := #[] }
def k8m2 : Method := { name := "newBytesLength", desc := "(I)I", sig := { parameters := [.int], returnType := some .int }, accessFlags := 9, code := some k8c2 }
def k8c3 : Code := { maxStack := 4, maxLocals := 3, code := jdk_52_method_4_code, exceptionTable := #[], attributes := #[] }
def k8m3 : Method := { name := "putChar", desc := "([BII)V", sig := { parameters := [(.array .byte), .int, .int], returnType := none }, accessFlags := 8, code := some k8c3 }
def k8c4 : Code := { maxStack := 3, maxLocals := 2, code := jdk_52_method_5_code, exceptionTable := #[], attributes := #[] }
def k8m4 : Method := { name := "getChar", desc := "([BI)C", sig := { parameters := [(.array .byte), .int], returnType := some .char }, accessFlags := 8, code := some k8c4 }
def k8c5 : Code := { maxStack := 4, maxLocals := 5, code := jdk_52_method_14_code, exceptionTable := #[], attributes := #[] }
def k8m5 : Method := { name := "toBytes", desc := "([CII)[B", sig := { parameters := [(.array .char), .int, .int], returnType := some (.array .byte) }, accessFlags := 9, code := some k8c5 }
def k8c6 : Code := { maxStack := 2, maxLocals := 2, code := jdk_52_method_15_code, exceptionTable := #[], attributes := #[] }
def k8m6 : Method := { name := "coderFromArrayLen", desc := "([BI)B", sig := { parameters := [(.array .byte), .int], returnType := some .byte }, accessFlags := 8, code := some k8c6 }
def k8c7 : Code := { maxStack := 5, maxLocals := 6, code := jdk_52_method_16_code, exceptionTable := #[], attributes := #[] }
def k8m7 : Method := { name := "compress", desc := "([CII)[B", sig := { parameters := [(.array .char), .int, .int], returnType := some (.array .byte) }, accessFlags := 9, code := some k8c7 }
def k8c8 : Code := { maxStack := 3, maxLocals := 7, code := jdk_52_method_21_code, exceptionTable := #[], attributes := #[] }
def k8m8 : Method := { name := "compress", desc := "([CI[BII)I", sig := { parameters := [(.array .char), .int, (.array .byte), .int, .int], returnType := some .int }, accessFlags := 9, code := some k8c8 }
/-- java/lang/StringUTF16 -/
def k8 : Class := { plain "java/lang/StringUTF16" (some 0) with
  accessFlags := 48
  interfaces := #[]
  cf := some (fileOf pool8 12 #[.nestMembers #[627, 629, 369]] #[{ accessFlags := 0, nameIndex := 9, descriptorIndex := 10, attributes := #[] }, { accessFlags := 9, nameIndex := 109, descriptorIndex := 110, attributes := #[] }, { accessFlags := 9, nameIndex := 15, descriptorIndex := 16, attributes := #[] }, { accessFlags := 8, nameIndex := 113, descriptorIndex := 114, attributes := #[] }, { accessFlags := 8, nameIndex := 73, descriptorIndex := 74, attributes := #[] }, { accessFlags := 9, nameIndex := 121, descriptorIndex := 122, attributes := #[] }, { accessFlags := 8, nameIndex := 261, descriptorIndex := 262, attributes := #[] }, { accessFlags := 9, nameIndex := 117, descriptorIndex := 122, attributes := #[] }, { accessFlags := 9, nameIndex := 117, descriptorIndex := 118, attributes := #[] }] 48 6 #[] #[{ accessFlags := 26, nameIndex := 61, descriptorIndex := 62, attributes := #[] }, { accessFlags := 26, nameIndex := 65, descriptorIndex := 62, attributes := #[] }, { accessFlags := 24, nameIndex := 430, descriptorIndex := 62, attributes := #[] }, { accessFlags := 4120, nameIndex := 46, descriptorIndex := 47, attributes := #[] }])
  fields := #[{ name := "HI_BYTE_SHIFT", type := .int, accessFlags := 26, slot := 0, constantValue := 0 }, { name := "LO_BYTE_SHIFT", type := .int, accessFlags := 26, slot := 1, constantValue := 0 }, { name := "MAX_LENGTH", type := .int, accessFlags := 24, slot := 2, constantValue := 0 }, { name := "$assertionsDisabled", type := .boolean, accessFlags := 4120, slot := 3, constantValue := 0 }]
  methods := #[k8m0, k8m1, k8m2, k8m3, k8m4, k8m5, k8m6, k8m7, k8m8]
  instanceTypes := #[]
  staticTypes := #[.int, .int, .int, .boolean]
  resolved := Array.replicate 635 none
  statics := some 1 }

def pool9 : Array CpInfo := pool [(1, .methodref 2 3), (0, .class_ 4), (0, .nameAndType 5 6), (0, u "java/lang/Object"), (0, u "<init>"), (0, u "()V"), (0, .class_ 8), (0, u "java/lang/Record")] 13

def k9c0 : Code := { maxStack := 1, maxLocals := 1, code := jdk_30_method_1_code, exceptionTable := #[], attributes := #[] }
def k9m0 : Method := { name := "<init>", desc := "()V", sig := { parameters := [], returnType := none }, accessFlags := 4, code := some k9c0 }
/-- java/lang/Record -/
def k9 : Class := { plain "java/lang/Record" (some 0) with
  accessFlags := 1057
  interfaces := #[]
  cf := some (fileOf pool9 7 #[] #[{ accessFlags := 4, nameIndex := 5, descriptorIndex := 6, attributes := #[] }] 1057 2 #[] #[])
  fields := #[]
  methods := #[k9m0]
  instanceTypes := #[]
  staticTypes := #[]
  resolved := Array.replicate 22 none
  statics := none }

def pool10 : Array CpInfo := pool [(1, .methodref 2 3), (0, .class_ 4), (0, .nameAndType 5 6), (0, u "java/lang/Record"), (0, u "<init>"), (0, u "()V"), (0, .fieldref 8 9), (0, .class_ 10), (0, .nameAndType 11 12), (0, u "com/example/lehti/lehti/model/Variable"), (0, u "name"), (0, u "Ljava/lang/String;"), (20, u "(Ljava/lang/String;)V"), (4, u "()Ljava/lang/String;")] 30

def k10c0 : Code := { maxStack := 2, maxLocals := 2, code := prog_42_method_1_code, exceptionTable := #[], attributes := #[] }
def k10m0 : Method := { name := "<init>", desc := "(Ljava/lang/String;)V", sig := { parameters := [(.object "java/lang/String")], returnType := none }, accessFlags := 1, code := some k10c0 }
def k10c1 : Code := { maxStack := 1, maxLocals := 1, code := prog_42_method_5_code, exceptionTable := #[], attributes := #[] }
def k10m1 : Method := { name := "name", desc := "()Ljava/lang/String;", sig := { parameters := [], returnType := some (.object "java/lang/String") }, accessFlags := 1, code := some k10c1 }
/-- com/example/lehti/lehti/model/Variable -/
def k10 : Class := { plain "com/example/lehti/lehti/model/Variable" (some 9) with
  accessFlags := 49
  interfaces := #[]
  cf := some (fileOf pool10 8 #[] #[{ accessFlags := 1, nameIndex := 5, descriptorIndex := 33, attributes := #[] }, { accessFlags := 1, nameIndex := 11, descriptorIndex := 38, attributes := #[] }] 49 2 #[] #[{ accessFlags := 18, nameIndex := 11, descriptorIndex := 12, attributes := #[] }])
  fields := #[{ name := "name", type := (.object "java/lang/String"), accessFlags := 18, slot := 0, constantValue := 0 }]
  methods := #[k10m0, k10m1]
  instanceTypes := #[(.object "java/lang/String")]
  staticTypes := #[]
  resolved := Array.replicate 69 none
  statics := none }

def pool11 : Array CpInfo := pool [(1, .class_ 2), (0, u "com/example/lehti/lehti/model/Condition"), (0, .class_ 4), (0, u "java/lang/Object")] 11

/-- com/example/lehti/lehti/model/Condition -/
def k11 : Class := { plain "com/example/lehti/lehti/model/Condition" (some 0) with
  accessFlags := 1537
  interfaces := #[]
  cf := some (fileOf pool11 1 #[] #[] 1537 3 #[] #[])
  fields := #[]
  methods := #[]
  instanceTypes := #[]
  staticTypes := #[]
  resolved := Array.replicate 16 none
  statics := none }

def pool12 : Array CpInfo := pool [(1, .methodref 2 3), (0, .class_ 4), (0, .nameAndType 5 6), (0, u "java/lang/Record"), (0, u "<init>"), (0, u "()V"), (0, .fieldref 8 9), (0, .class_ 10), (0, .nameAndType 11 12), (0, u "com/example/lehti/lehti/model/Equality"), (0, u "left"), (0, u "Lcom/example/lehti/lehti/model/Variable;"), (0, .fieldref 8 14), (0, .nameAndType 15 12), (0, u "right"), (0, .interfaceMethodref 17 18), (0, .class_ 19), (0, .nameAndType 20 21), (0, u "java/util/List"), (0, u "of"), (0, u "(Ljava/lang/Object;Ljava/lang/Object;)Ljava/util/List;"), (12, .class_ 35), (0, u "com/example/lehti/lehti/model/Condition"), (0, u "(Lcom/example/lehti/lehti/model/Variable;Lcom/example/lehti/lehti/model/Variable;)V"), (3, u "variables"), (0, u "()Ljava/util/List;")] 27

def k12c0 : Code := { maxStack := 2, maxLocals := 3, code := prog_26_method_1_code, exceptionTable := #[], attributes := #[] }
def k12m0 : Method := { name := "<init>", desc := "(Lcom/example/lehti/lehti/model/Variable;Lcom/example/lehti/lehti/model/Variable;)V", sig := { parameters := [(.object "com/example/lehti/lehti/model/Variable"), (.object "com/example/lehti/lehti/model/Variable")], returnType := none }, accessFlags := 1, code := some k12c0 }
def k12c1 : Code := { maxStack := 2, maxLocals := 1, code := prog_26_method_2_code, exceptionTable := #[], attributes := #[] }
def k12m1 : Method := { name := "variables", desc := "()Ljava/util/List;", sig := { parameters := [], returnType := some (.object "java/util/List") }, accessFlags := 1, code := some k12c1 }
/-- com/example/lehti/lehti/model/Equality -/
def k12 : Class := { plain "com/example/lehti/lehti/model/Equality" (some 9) with
  accessFlags := 49
  interfaces := #[11]
  cf := some (fileOf pool12 8 #[] #[{ accessFlags := 1, nameIndex := 5, descriptorIndex := 36, attributes := #[] }, { accessFlags := 1, nameIndex := 40, descriptorIndex := 41, attributes := #[] }] 49 2 #[34] #[{ accessFlags := 18, nameIndex := 11, descriptorIndex := 12, attributes := #[] }, { accessFlags := 18, nameIndex := 15, descriptorIndex := 12, attributes := #[] }])
  fields := #[{ name := "left", type := (.object "com/example/lehti/lehti/model/Variable"), accessFlags := 18, slot := 0, constantValue := 0 }, { name := "right", type := (.object "com/example/lehti/lehti/model/Variable"), accessFlags := 18, slot := 1, constantValue := 0 }]
  methods := #[k12m0, k12m1]
  instanceTypes := #[(.object "com/example/lehti/lehti/model/Variable"), (.object "com/example/lehti/lehti/model/Variable")]
  staticTypes := #[]
  resolved := Array.replicate 69 none
  statics := none }

def pool13 : Array CpInfo := pool [(8, .class_ 10), (1, u "java/lang/Iterable"), (24, .class_ 36), (0, u "java/lang/Object")] 25

/-- java/lang/Iterable -/
def k13 : Class := { plain "java/lang/Iterable" (some 0) with
  accessFlags := 1537
  interfaces := #[]
  cf := some (fileOf pool13 8 #[] #[] 1537 35 #[] #[])
  fields := #[]
  methods := #[]
  instanceTypes := #[]
  staticTypes := #[]
  resolved := Array.replicate 62 none
  statics := none }

def pool14 : Array CpInfo := pool [(10, .class_ 12), (1, u "java/util/Collection"), (47, .class_ 61), (0, u "java/lang/Object"), (0, .class_ 63), (0, u "java/lang/Iterable")] 51

/-- java/util/Collection -/
def k14 : Class := { plain "java/util/Collection" (some 0) with
  accessFlags := 1537
  interfaces := #[13]
  cf := some (fileOf pool14 10 #[] #[] 1537 60 #[62] #[])
  fields := #[]
  methods := #[]
  instanceTypes := #[]
  staticTypes := #[]
  resolved := Array.replicate 115 none
  statics := none }

def pool15 : Array CpInfo := pool [(8, .class_ 10), (1, u "java/util/SequencedCollection"), (15, .class_ 27), (0, u "java/lang/Object"), (0, .class_ 29), (0, u "java/util/Collection")] 27

/-- java/util/SequencedCollection -/
def k15 : Class := { plain "java/util/SequencedCollection" (some 0) with
  accessFlags := 1537
  interfaces := #[14]
  cf := some (fileOf pool15 8 #[] #[] 1537 26 #[28] #[])
  fields := #[]
  methods := #[]
  instanceTypes := #[]
  staticTypes := #[]
  resolved := Array.replicate 57 none
  statics := none }

def pool16 : Array CpInfo := pool [(8, .class_ 10), (1, u "java/util/List"), (37, u "<init>"), (26, u "get"), (0, u "(I)Ljava/lang/Object;"), (2, u "size"), (0, u "()I"), (7, u "of"), (7, .class_ 97), (0, u "java/util/ImmutableCollections$List12"), (2, .methodref 96 101), (0, .nameAndType 48 102), (0, u "(Ljava/lang/Object;Ljava/lang/Object;)V"), (0, .class_ 104), (0, u "java/lang/Object"), (15, .class_ 121), (0, u "java/util/SequencedCollection"), (79, u "(Ljava/lang/Object;Ljava/lang/Object;)Ljava/util/List;")] 49

def k16m0 : Method := { name := "size", desc := "()I", sig := { parameters := [], returnType := some .int }, accessFlags := 1025, code := none }
def k16m1 : Method := { name := "get", desc := "(I)Ljava/lang/Object;", sig := { parameters := [.int], returnType := some (.object "java/lang/Object") }, accessFlags := 1025, code := none }
def k16c2 : Code := { maxStack := 4, maxLocals := 2, code := jdk_40_method_38_code, exceptionTable := #[], attributes := #[] }
def k16m2 : Method := { name := "of", desc := "(Ljava/lang/Object;Ljava/lang/Object;)Ljava/util/List;", sig := { parameters := [(.object "java/lang/Object"), (.object "java/lang/Object")], returnType := some (.object "java/util/List") }, accessFlags := 9, code := some k16c2 }
/-- java/util/List -/
def k16 : Class := { plain "java/util/List" (some 0) with
  accessFlags := 1537
  interfaces := #[15]
  cf := some (fileOf pool16 8 #[] #[{ accessFlags := 1025, nameIndex := 79, descriptorIndex := 80, attributes := #[] }, { accessFlags := 1025, nameIndex := 75, descriptorIndex := 76, attributes := #[] }, { accessFlags := 9, nameIndex := 88, descriptorIndex := 201, attributes := #[] }] 1537 103 #[120] #[])
  fields := #[]
  methods := #[k16m0, k16m1, k16m2]
  instanceTypes := #[]
  staticTypes := #[]
  resolved := Array.replicate 251 none
  statics := none }

def pool17 : Array CpInfo := pool [(1, .methodref 2 3), (0, .class_ 4), (0, .nameAndType 5 6), (0, u "java/lang/Object"), (0, u "<init>"), (0, u "()V"), (1, .class_ 10), (1, u "java/util/AbstractCollection"), (66, .class_ 78), (0, u "java/util/Collection")] 81

def k17c0 : Code := { maxStack := 1, maxLocals := 1, code := jdk_22_method_1_code, exceptionTable := #[], attributes := #[] }
def k17m0 : Method := { name := "<init>", desc := "()V", sig := { parameters := [], returnType := none }, accessFlags := 4, code := some k17c0 }
/-- java/util/AbstractCollection -/
def k17 : Class := { plain "java/util/AbstractCollection" (some 0) with
  accessFlags := 1057
  interfaces := #[14]
  cf := some (fileOf pool17 8 #[] #[{ accessFlags := 4, nameIndex := 5, descriptorIndex := 6, attributes := #[] }] 1057 2 #[77] #[])
  fields := #[]
  methods := #[k17m0]
  instanceTypes := #[]
  staticTypes := #[]
  resolved := Array.replicate 160 none
  statics := none }

def pool18 : Array CpInfo := pool [(1, .methodref 2 3), (0, .class_ 4), (0, .nameAndType 5 6), (0, u "java/util/AbstractCollection"), (0, u "<init>"), (0, u "()V"), (1, .class_ 10), (1, u "java/util/ImmutableCollections"), (2, .class_ 14), (0, u "java/util/ImmutableCollections$AbstractImmutableCollection")] 41

def k18c0 : Code := { maxStack := 1, maxLocals := 1, code := jdk_47_method_1_code, exceptionTable := #[], attributes := #[] }
def k18m0 : Method := { name := "<init>", desc := "()V", sig := { parameters := [], returnType := none }, accessFlags := 0, code := some k18c0 }
/-- java/util/ImmutableCollections$AbstractImmutableCollection -/
def k18 : Class := { plain "java/util/ImmutableCollections$AbstractImmutableCollection" (some 17) with
  accessFlags := 1056
  interfaces := #[]
  cf := some (fileOf pool18 13 #[.nestHost 8] #[{ accessFlags := 0, nameIndex := 5, descriptorIndex := 6, attributes := #[] }] 1056 2 #[] #[])
  fields := #[]
  methods := #[k18m0]
  instanceTypes := #[]
  staticTypes := #[]
  resolved := Array.replicate 56 none
  statics := none }

def pool19 : Array CpInfo := pool [(1, .class_ 2), (0, u "java/util/RandomAccess"), (0, .class_ 4), (0, u "java/lang/Object")] 2

/-- java/util/RandomAccess -/
def k19 : Class := { plain "java/util/RandomAccess" (some 0) with
  accessFlags := 1537
  interfaces := #[]
  cf := some (fileOf pool19 1 #[] #[] 1537 3 #[] #[])
  fields := #[]
  methods := #[]
  instanceTypes := #[]
  staticTypes := #[]
  resolved := Array.replicate 7 none
  statics := none }

def pool20 : Array CpInfo := pool [(1, .methodref 2 3), (0, .class_ 4), (0, .nameAndType 5 6), (0, u "java/util/ImmutableCollections$AbstractImmutableCollection"), (0, u "<init>"), (0, u "()V"), (1, .class_ 10), (1, u "java/util/ImmutableCollections"), (3, .class_ 16), (1, u "java/util/ImmutableCollections$AbstractImmutableList"), (60, .class_ 78), (0, u "java/util/List"), (45, .class_ 125), (0, u "java/util/RandomAccess")] 70

def k20c0 : Code := { maxStack := 1, maxLocals := 1, code := jdk_46_method_1_code, exceptionTable := #[], attributes := #[] }
def k20m0 : Method := { name := "<init>", desc := "()V", sig := { parameters := [], returnType := none }, accessFlags := 0, code := some k20c0 }
/-- java/util/ImmutableCollections$AbstractImmutableList -/
def k20 : Class := { plain "java/util/ImmutableCollections$AbstractImmutableList" (some 18) with
  accessFlags := 1056
  interfaces := #[16, 19]
  cf := some (fileOf pool20 14 #[.nestHost 8] #[{ accessFlags := 0, nameIndex := 5, descriptorIndex := 6, attributes := #[] }] 1056 2 #[77, 124] #[])
  fields := #[]
  methods := #[k20m0]
  instanceTypes := #[]
  staticTypes := #[]
  resolved := Array.replicate 196 none
  statics := none }

def pool21 : Array CpInfo := pool [(1, .methodref 2 3), (0, .class_ 4), (0, .nameAndType 5 6), (0, u "java/util/ImmutableCollections$AbstractImmutableList"), (0, u "<init>"), (0, u "()V"), (0, .methodref 8 9), (0, .class_ 10), (0, .nameAndType 11 12), (0, u "java/util/Objects"), (0, u "requireNonNull"), (0, u "(Ljava/lang/Object;)Ljava/lang/Object;"), (0, .fieldref 14 15), (0, .class_ 16), (0, .nameAndType 17 18), (0, u "java/util/ImmutableCollections$List12"), (0, u "e0"), (0, u "Ljava/lang/Object;"), (0, .fieldref 20 21), (0, .class_ 22), (0, .nameAndType 23 18), (0, u "java/util/ImmutableCollections"), (0, u "EMPTY"), (0, .fieldref 14 25), (0, .nameAndType 26 18), (0, u "e1"), (24, u "size"), (0, u "()I"), (17, .class_ 71), (0, u "java/io/Serializable"), (13, u "(Ljava/lang/Object;Ljava/lang/Object;)V"), (4, u "get"), (0, u "(I)Ljava/lang/Object;")] 33

def k21c0 : Code := { maxStack := 2, maxLocals := 3, code := jdk_44_method_2_code, exceptionTable := #[], attributes := #[] }
def k21m0 : Method := { name := "<init>", desc := "(Ljava/lang/Object;Ljava/lang/Object;)V", sig := { parameters := [(.object "java/lang/Object"), (.object "java/lang/Object")], returnType := none }, accessFlags := 0, code := some k21c0 }
def k21c1 : Code := { maxStack := 2, maxLocals := 1, code := jdk_44_method_3_code, exceptionTable := #[], attributes := #[] }
def k21m1 : Method := { name := "size", desc := "()I", sig := { parameters := [], returnType := some .int }, accessFlags := 1, code := some k21c1 }
def k21c2 : Code := { maxStack := 2, maxLocals := 2, code := jdk_44_method_5_code, exceptionTable := #[], attributes := #[] }
def k21m2 : Method := { name := "get", desc := "(I)Ljava/lang/Object;", sig := { parameters := [.int], returnType := some (.object "java/lang/Object") }, accessFlags := 1, code := some k21c2 }
/-- java/util/ImmutableCollections$List12 -/
def k21 : Class := { plain "java/util/ImmutableCollections$List12" (some 20) with
  accessFlags := 48
  interfaces := #[2]
  cf := some (fileOf pool21 14 #[.nestHost 20] #[{ accessFlags := 0, nameIndex := 5, descriptorIndex := 85, attributes := #[] }, { accessFlags := 1, nameIndex := 51, descriptorIndex := 52, attributes := #[] }, { accessFlags := 1, nameIndex := 90, descriptorIndex := 91, attributes := #[] }] 48 2 #[70] #[{ accessFlags := 18, nameIndex := 17, descriptorIndex := 18, attributes := #[] }, { accessFlags := 18, nameIndex := 26, descriptorIndex := 18, attributes := #[] }])
  fields := #[{ name := "e0", type := (.object "java/lang/Object"), accessFlags := 18, slot := 0, constantValue := 0 }, { name := "e1", type := (.object "java/lang/Object"), accessFlags := 18, slot := 1, constantValue := 0 }]
  methods := #[k21m0, k21m1, k21m2]
  instanceTypes := #[(.object "java/lang/Object"), (.object "java/lang/Object")]
  staticTypes := #[]
  resolved := Array.replicate 125 none
  statics := none }

def pool22 : Array CpInfo := pool [(2, .class_ 4), (1, u "java/lang/Object"), (0, u "<init>"), (0, u "()V"), (35, .class_ 44), (1, u "java/util/Objects"), (0, u "requireNonNull"), (0, u "(Ljava/lang/Object;)Ljava/lang/Object;")] 137

def k22m0 : Method := { name := "<init>", desc := "()V", sig := { parameters := [], returnType := none }, accessFlags := 2, code := none }
def k22c1 : Code := { maxStack := 2, maxLocals := 1, code := jdk_31_method_10_code, exceptionTable := #[], attributes := #[] }
def k22m1 : Method := { name := "requireNonNull", desc := "(Ljava/lang/Object;)Ljava/lang/Object;", sig := { parameters := [(.object "java/lang/Object")], returnType := some (.object "java/lang/Object") }, accessFlags := 9, code := some k22c1 }
/-- java/util/Objects -/
def k22 : Class := { plain "java/util/Objects" (some 0) with
  accessFlags := 49
  interfaces := #[]
  cf := some (fileOf pool22 42 #[] #[{ accessFlags := 2, nameIndex := 5, descriptorIndex := 6, attributes := #[] }, { accessFlags := 9, nameIndex := 45, descriptorIndex := 46, attributes := #[] }] 49 2 #[] #[])
  fields := #[]
  methods := #[k22m0, k22m1]
  instanceTypes := #[]
  staticTypes := #[]
  resolved := Array.replicate 184 none
  statics := none }

def pool23 : Array CpInfo := pool [(2, .class_ 4), (1, u "java/lang/Object"), (0, u "<init>"), (0, u "()V"), (3, .class_ 11), (0, u "java/util/ImmutableCollections$List12"), (0, .class_ 13), (0, u "java/util/ImmutableCollections$ListN"), (3, u "Z"), (29, .class_ 49), (1, u "java/util/ImmutableCollections"), (0, u "$assertionsDisabled"), (5, u "[Ljava/lang/Object;"), (5, u "EMPTY_LIST"), (0, u "Ljava/util/ImmutableCollections$ListN;"), (8, u "EMPTY_LIST_NULLS"), (22, u "SALT32L"), (0, u "J"), (2, u "REVERSE"), (6, u "archivedObjects"), (2, u "EMPTY"), (0, u "Ljava/lang/Object;"), (0, .class_ 112), (0, u "java/util/ImmutableCollections$SetN"), (5, u "EMPTY_SET"), (0, u "Ljava/util/ImmutableCollections$SetN;"), (0, .class_ 121), (0, u "java/util/ImmutableCollections$MapN"), (3, u "EMPTY_MAP"), (0, u "Ljava/util/ImmutableCollections$MapN;"), (4, u "EXPAND_FACTOR"), (0, u "I"), (36, .class_ 170), (0, u "java/util/ImmutableCollections$MapN$MapNIterator"), (0, .class_ 172), (0, u "java/util/ImmutableCollections$MapN$1"), (0, .class_ 174), (0, u "java/util/ImmutableCollections$Map1"), (0, .class_ 176), (0, u "java/util/ImmutableCollections$AbstractImmutableMap"), (0, .class_ 178), (0, u "java/util/ImmutableCollections$SetN$SetNIterator"), (0, .class_ 180), (0, u "java/util/ImmutableCollections$Set12"), (0, .class_ 182), (0, u "java/util/ImmutableCollections$Set12$1"), (0, .class_ 184), (0, u "java/util/ImmutableCollections$AbstractImmutableSet"), (0, .class_ 186), (0, u "java/util/ImmutableCollections$SubList"), (0, .class_ 188), (0, u "java/util/ImmutableCollections$ListItr"), (0, .class_ 190), (0, u "java/util/ImmutableCollections$AbstractImmutableList"), (0, .class_ 192), (0, u "java/util/ImmutableCollections$AbstractImmutableCollection"), (0, .class_ 194), (0, u "java/util/ImmutableCollections$Access"), (0, .class_ 196), (0, u "java/util/ImmutableCollections$Access$1")] 16

def k23m0 : Method := { name := "<init>", desc := "()V", sig := { parameters := [], returnType := none }, accessFlags := 2, code := none }
/-- java/util/ImmutableCollections -/
def k23 : Class := { plain "java/util/ImmutableCollections" (some 0) with
  accessFlags := 32
  interfaces := #[]
  cf := some (fileOf pool23 47 #[.nestMembers #[120, 169, 171, 173, 175, 111, 177, 179, 181, 183, 12, 10, 185, 187, 189, 191, 193, 195]] #[{ accessFlags := 2, nameIndex := 5, descriptorIndex := 6, attributes := #[] }] 32 2 #[] #[{ accessFlags := 26, nameIndex := 95, descriptorIndex := 96, attributes := #[] }, { accessFlags := 26, nameIndex := 99, descriptorIndex := 17, attributes := #[] }, { accessFlags := 10, nameIndex := 106, descriptorIndex := 56, attributes := #[] }, { accessFlags := 26, nameIndex := 109, descriptorIndex := 110, attributes := #[] }, { accessFlags := 24, nameIndex := 62, descriptorIndex := 63, attributes := #[] }, { accessFlags := 24, nameIndex := 72, descriptorIndex := 63, attributes := #[] }, { accessFlags := 24, nameIndex := 118, descriptorIndex := 119, attributes := #[] }, { accessFlags := 24, nameIndex := 125, descriptorIndex := 126, attributes := #[] }, { accessFlags := 24, nameIndex := 131, descriptorIndex := 132, attributes := #[] }, { accessFlags := 4120, nameIndex := 50, descriptorIndex := 17, attributes := #[] }])
  fields := #[{ name := "SALT32L", type := .long, accessFlags := 26, slot := 0, constantValue := 0 }, { name := "REVERSE", type := .boolean, accessFlags := 26, slot := 1, constantValue := 0 }, { name := "archivedObjects", type := (.array (.object "java/lang/Object")), accessFlags := 10, slot := 2, constantValue := 0 }, { name := "EMPTY", type := (.object "java/lang/Object"), accessFlags := 26, slot := 3, constantValue := 0 }, { name := "EMPTY_LIST", type := (.object "java/util/ImmutableCollections$ListN"), accessFlags := 24, slot := 4, constantValue := 0 }, { name := "EMPTY_LIST_NULLS", type := (.object "java/util/ImmutableCollections$ListN"), accessFlags := 24, slot := 5, constantValue := 0 }, { name := "EMPTY_SET", type := (.object "java/util/ImmutableCollections$SetN"), accessFlags := 24, slot := 6, constantValue := 0 }, { name := "EMPTY_MAP", type := (.object "java/util/ImmutableCollections$MapN"), accessFlags := 24, slot := 7, constantValue := 0 }, { name := "EXPAND_FACTOR", type := .int, accessFlags := 24, slot := 8, constantValue := 0 }, { name := "$assertionsDisabled", type := .boolean, accessFlags := 4120, slot := 9, constantValue := 0 }]
  methods := #[k23m0]
  instanceTypes := #[]
  staticTypes := #[.long, .boolean, (.array (.object "java/lang/Object")), (.object "java/lang/Object"), (.object "java/util/ImmutableCollections$ListN"), (.object "java/util/ImmutableCollections$ListN"), (.object "java/util/ImmutableCollections$SetN"), (.object "java/util/ImmutableCollections$MapN"), .int, .boolean]
  resolved := Array.replicate 213 none
  statics := some 2 }

def pool24 : Array CpInfo := pool [(4, .class_ 6), (1, u "java/lang/Object"), (0, u "<init>"), (0, u "()V"), (5, .class_ 16), (1, u "java/lang/StringLatin1"), (104, u "$assertionsDisabled"), (0, u "Z"), (98, .class_ 223), (1, u "java/lang/StringLatin1$LinesSpliterator"), (166, .class_ 391), (0, u "java/lang/StringLatin1$CharsSpliterator")] 3

def k24m0 : Method := { name := "<init>", desc := "()V", sig := { parameters := [], returnType := none }, accessFlags := 0, code := none }
/-- java/lang/StringLatin1 -/
def k24 : Class := { plain "java/lang/StringLatin1" (some 0) with
  accessFlags := 48
  interfaces := #[]
  cf := some (fileOf pool24 14 #[.nestMembers #[390, 221]] #[{ accessFlags := 0, nameIndex := 7, descriptorIndex := 8, attributes := #[] }] 48 4 #[] #[{ accessFlags := 4120, nameIndex := 121, descriptorIndex := 122, attributes := #[] }])
  fields := #[{ name := "$assertionsDisabled", type := .boolean, accessFlags := 4120, slot := 0, constantValue := 0 }]
  methods := #[k24m0]
  instanceTypes := #[]
  staticTypes := #[.boolean]
  resolved := Array.replicate 395 none
  statics := none }

def pool25 : Array CpInfo := pool [(2, .class_ 4), (1, u "java/lang/Object"), (0, u "<init>"), (0, u "()V"), (17, .class_ 26), (1, u "jdk/internal/util/Preconditions"), (28, .class_ 56), (0, u "jdk/internal/util/Preconditions$4"), (57, .class_ 115), (0, u "jdk/internal/util/Preconditions$1"), (7, u "SIOOBE_FORMATTER"), (0, u "Ljava/util/function/BiFunction;"), (0, .class_ 126), (0, u "jdk/internal/util/Preconditions$2"), (3, u "AIOOBE_FORMATTER"), (0, .class_ 132), (0, u "jdk/internal/util/Preconditions$3"), (3, u "IOOBE_FORMATTER")] 57

def k25m0 : Method := { name := "<init>", desc := "()V", sig := { parameters := [], returnType := none }, accessFlags := 1, code := none }
/-- jdk/internal/util/Preconditions -/
def k25 : Class := { plain "jdk/internal/util/Preconditions" (some 0) with
  accessFlags := 33
  interfaces := #[]
  cf := some (fileOf pool25 24 #[.nestMembers #[55, 131, 125, 114]] #[{ accessFlags := 1, nameIndex := 5, descriptorIndex := 6, attributes := #[] }] 33 2 #[] #[{ accessFlags := 25, nameIndex := 123, descriptorIndex := 124, attributes := #[] }, { accessFlags := 25, nameIndex := 130, descriptorIndex := 124, attributes := #[] }, { accessFlags := 25, nameIndex := 136, descriptorIndex := 124, attributes := #[] }])
  fields := #[{ name := "SIOOBE_FORMATTER", type := (.object "java/util/function/BiFunction"), accessFlags := 25, slot := 0, constantValue := 0 }, { name := "AIOOBE_FORMATTER", type := (.object "java/util/function/BiFunction"), accessFlags := 25, slot := 1, constantValue := 0 }, { name := "IOOBE_FORMATTER", type := (.object "java/util/function/BiFunction"), accessFlags := 25, slot := 2, constantValue := 0 }]
  methods := #[k25m0]
  instanceTypes := #[]
  staticTypes := #[(.object "java/util/function/BiFunction"), (.object "java/util/function/BiFunction"), (.object "java/util/function/BiFunction")]
  resolved := Array.replicate 194 none
  statics := some 3 }

def pool26 : Array CpInfo := pool [(9, u "<init>"), (6, .class_ 18), (1, u "java/lang/Object"), (0, u "()V"), (1, .class_ 23), (1, u "jdk/internal/util/ArraysSupport"), (0, u "LOG2_ARRAY_LONG_INDEX_SCALE"), (0, u "I"), (2, u "U"), (0, u "Ljdk/internal/misc/Unsafe;"), (8, u "BIG_ENDIAN"), (0, u "Z"), (8, u "LOG2_BYTE_BIT_SIZE"), (4, u "LOG2_ARRAY_INT_INDEX_SCALE"), (54, u "JLA"), (0, u "Ljdk/internal/access/JavaLangAccess;"), (11, u "LOG2_ARRAY_BOOLEAN_INDEX_SCALE"), (9, u "LOG2_ARRAY_BYTE_INDEX_SCALE"), (5, u "LOG2_ARRAY_CHAR_INDEX_SCALE"), (5, u "LOG2_ARRAY_SHORT_INDEX_SCALE"), (18, u "LOG2_ARRAY_FLOAT_INDEX_SCALE"), (24, u "LOG2_ARRAY_DOUBLE_INDEX_SCALE"), (89, u "T_BOOLEAN"), (2, u "T_CHAR"), (1, u "T_FLOAT"), (1, u "T_DOUBLE"), (1, u "T_BYTE"), (1, u "T_SHORT"), (1, u "T_INT"), (1, u "T_LONG"), (1, u "SOFT_MAX_ARRAY_LENGTH")] 83

def k26m0 : Method := { name := "<init>", desc := "()V", sig := { parameters := [], returnType := none }, accessFlags := 2, code := none }
/-- jdk/internal/util/ArraysSupport -/
def k26 : Class := { plain "jdk/internal/util/ArraysSupport" (some 0) with
  accessFlags := 33
  interfaces := #[]
  cf := some (fileOf pool26 21 #[] #[{ accessFlags := 2, nameIndex := 9, descriptorIndex := 19, attributes := #[] }] 33 16 #[] #[{ accessFlags := 24, nameIndex := 28, descriptorIndex := 29, attributes := #[] }, { accessFlags := 26, nameIndex := 38, descriptorIndex := 39, attributes := #[] }, { accessFlags := 25, nameIndex := 121, descriptorIndex := 25, attributes := #[] }, { accessFlags := 25, nameIndex := 131, descriptorIndex := 25, attributes := #[] }, { accessFlags := 25, nameIndex := 137, descriptorIndex := 25, attributes := #[] }, { accessFlags := 25, nameIndex := 143, descriptorIndex := 25, attributes := #[] }, { accessFlags := 25, nameIndex := 53, descriptorIndex := 25, attributes := #[] }, { accessFlags := 25, nameIndex := 24, descriptorIndex := 25, attributes := #[] }, { accessFlags := 25, nameIndex := 162, descriptorIndex := 25, attributes := #[] }, { accessFlags := 25, nameIndex := 187, descriptorIndex := 25, attributes := #[] }, { accessFlags := 26, nameIndex := 48, descriptorIndex := 25, attributes := #[] }, { accessFlags := 25, nameIndex := 277, descriptorIndex := 25, attributes := #[] }, { accessFlags := 25, nameIndex := 280, descriptorIndex := 25, attributes := #[] }, { accessFlags := 25, nameIndex := 282, descriptorIndex := 25, attributes := #[] }, { accessFlags := 25, nameIndex := 284, descriptorIndex := 25, attributes := #[] }, { accessFlags := 25, nameIndex := 286, descriptorIndex := 25, attributes := #[] }, { accessFlags := 25, nameIndex := 288, descriptorIndex := 25, attributes := #[] }, { accessFlags := 25, nameIndex := 290, descriptorIndex := 25, attributes := #[] }, { accessFlags := 25, nameIndex := 292, descriptorIndex := 25, attributes := #[] }, { accessFlags := 26, nameIndex := 108, descriptorIndex := 109, attributes := #[] }, { accessFlags := 25, nameIndex := 294, descriptorIndex := 25, attributes := #[] }])
  fields := #[{ name := "U", type := (.object "jdk/internal/misc/Unsafe"), accessFlags := 24, slot := 0, constantValue := 0 }, { name := "BIG_ENDIAN", type := .boolean, accessFlags := 26, slot := 1, constantValue := 0 }, { name := "LOG2_ARRAY_BOOLEAN_INDEX_SCALE", type := .int, accessFlags := 25, slot := 2, constantValue := 0 }, { name := "LOG2_ARRAY_BYTE_INDEX_SCALE", type := .int, accessFlags := 25, slot := 3, constantValue := 0 }, { name := "LOG2_ARRAY_CHAR_INDEX_SCALE", type := .int, accessFlags := 25, slot := 4, constantValue := 0 }, { name := "LOG2_ARRAY_SHORT_INDEX_SCALE", type := .int, accessFlags := 25, slot := 5, constantValue := 0 }, { name := "LOG2_ARRAY_INT_INDEX_SCALE", type := .int, accessFlags := 25, slot := 6, constantValue := 0 }, { name := "LOG2_ARRAY_LONG_INDEX_SCALE", type := .int, accessFlags := 25, slot := 7, constantValue := 0 }, { name := "LOG2_ARRAY_FLOAT_INDEX_SCALE", type := .int, accessFlags := 25, slot := 8, constantValue := 0 }, { name := "LOG2_ARRAY_DOUBLE_INDEX_SCALE", type := .int, accessFlags := 25, slot := 9, constantValue := 0 }, { name := "LOG2_BYTE_BIT_SIZE", type := .int, accessFlags := 26, slot := 10, constantValue := 0 }, { name := "T_BOOLEAN", type := .int, accessFlags := 25, slot := 11, constantValue := 0 }, { name := "T_CHAR", type := .int, accessFlags := 25, slot := 12, constantValue := 0 }, { name := "T_FLOAT", type := .int, accessFlags := 25, slot := 13, constantValue := 0 }, { name := "T_DOUBLE", type := .int, accessFlags := 25, slot := 14, constantValue := 0 }, { name := "T_BYTE", type := .int, accessFlags := 25, slot := 15, constantValue := 0 }, { name := "T_SHORT", type := .int, accessFlags := 25, slot := 16, constantValue := 0 }, { name := "T_INT", type := .int, accessFlags := 25, slot := 17, constantValue := 0 }, { name := "T_LONG", type := .int, accessFlags := 25, slot := 18, constantValue := 0 }, { name := "JLA", type := (.object "jdk/internal/access/JavaLangAccess"), accessFlags := 26, slot := 19, constantValue := 0 }, { name := "SOFT_MAX_ARRAY_LENGTH", type := .int, accessFlags := 25, slot := 20, constantValue := 0 }]
  methods := #[k26m0]
  instanceTypes := #[]
  staticTypes := #[(.object "jdk/internal/misc/Unsafe"), .boolean, .int, .int, .int, .int, .int, .int, .int, .int, .int, .int, .int, .int, .int, .int, .int, .int, .int, (.object "jdk/internal/access/JavaLangAccess"), .int]
  resolved := Array.replicate 378 none
  statics := none }

def pool27 : Array CpInfo := pool [(2, .class_ 4), (1, u "java/util/ImmutableCollections$AbstractImmutableList"), (3, .class_ 10), (1, u "java/util/ImmutableCollections$ListN"), (0, u "elements"), (0, u "[Ljava/lang/Object;"), (2, u "allowNulls"), (0, u "Z"), (42, .class_ 60), (0, u "java/io/Serializable"), (53, .class_ 115), (0, u "java/util/ImmutableCollections")] 3

/-- java/util/ImmutableCollections$ListN -/
def k27 : Class := { plain "java/util/ImmutableCollections$ListN" (some 20) with
  accessFlags := 48
  interfaces := #[2]
  cf := some (fileOf pool27 8 #[.nestHost 114] #[] 48 2 #[59] #[{ accessFlags := 18, nameIndex := 11, descriptorIndex := 12, attributes := #[] }, { accessFlags := 18, nameIndex := 15, descriptorIndex := 16, attributes := #[] }])
  fields := #[{ name := "elements", type := (.array (.object "java/lang/Object")), accessFlags := 18, slot := 0, constantValue := 0 }, { name := "allowNulls", type := .boolean, accessFlags := 18, slot := 1, constantValue := 0 }]
  methods := #[]
  instanceTypes := #[(.array (.object "java/lang/Object")), .boolean]
  staticTypes := #[]
  resolved := Array.replicate 119 none
  statics := none }

def pool28 : Array CpInfo := pool [(1, u "java/lang/Cloneable"), (0, .class_ 1), (0, u "java/lang/Object"), (0, .class_ 3)] 3

/-- java/lang/Cloneable -/
def k28 : Class := { plain "java/lang/Cloneable" (some 0) with
  accessFlags := 1537
  interfaces := #[]
  cf := some (fileOf pool28 2 #[] #[] 1537 4 #[] #[])
  fields := #[]
  methods := #[]
  instanceTypes := #[]
  staticTypes := #[]
  resolved := Array.replicate 8 none
  statics := none }

/-- the primitive byte -/
def k29 : Class := { plain "byte" none with kind := .primitive 'B', accessFlags := 0x411 }
/-- [B -/
def k30 : Class := { plain "[B" (some 0) with kind := .array 29 .byte, interfaces := #[28, 2], accessFlags := 1041 }

/-- the primitive char -/
def k31 : Class := { plain "char" none with kind := .primitive 'C', accessFlags := 0x411 }
/-- [C -/
def k32 : Class := { plain "[C" (some 0) with kind := .array 31 .char, interfaces := #[28, 2], accessFlags := 1041 }

/-- the primitive int -/
def k33 : Class := { plain "int" none with kind := .primitive 'I', accessFlags := 0x411 }
/-- [I -/
def k34 : Class := { plain "[I" (some 0) with kind := .array 33 .int, interfaces := #[28, 2], accessFlags := 1041 }

def heap : Heap := #[{ cls := 7, slots := #[.long 0, .int 1, .null, .int 0, .null, .int 0, .int 0], vm := .statics 7 },
  { cls := 8, slots := #[.int 0, .int 8, .int 0, .int 1], vm := .statics 8 },
  { cls := 23, slots := #[.long 0, .int 0, .null, .ref 4, .ref 5, .null, .null, .null, .int 0, .int 1], vm := .statics 23 },
  { cls := 25, slots := #[.null, .null, .null], vm := .statics 25 },
  { cls := 0, slots := #[], vm := .none },
  { cls := 27, slots := #[.null, .int 0], vm := .none }]
def classes : Array Class := #[k0, k1, k2, k3, k4, k5, k6, k7, k8, k9, k10, k11, k12, k13, k14, k15, k16, k17, k18, k19, k20, k21, k22, k23, k24, k25, k26, k27, k28, k29, k30, k31, k32, k33, k34]
def interned : List (Array UInt16 × Addr) := []
def slotsUsed : Nat := 26
def theMethod : MethodId := ⟨1, 1⟩
def args0 : Array Value := #[.int 5, .int 6, .int 7]
def aboutOver (below : List Frame) : State where
  vm := { classes := classes, interned := interned.toArray }
  heap := heap
  slotsUsed := slotsUsed
  threads := #[{ frames := .invoking theMethod args0 :: below }]
def below0 : List Frame := [.native { method := ⟨0, 0⟩, args := #[] }]
def about1 : State := aboutOver below0
def p0 : Program := .bare "" "" ""
def e0 : Env := launch0.env 0 0 0
theorem w_frames : about1.frames = Frame.invoking theMethod args0 :: below0 := rfl
set_option maxRecDepth 65536 in
theorem w_args : argsFit about1.vm theMethod args0 = true := by decide +kernel
set_option maxRecDepth 65536 in
theorem w_heap : heapFits about1 = true := by decide +kernel
set_option maxRecDepth 65536 in
theorem w_runnable : about1.curStatus? = some .runnable := by decide +kernel
set_option maxRecDepth 65536 in
theorem w_alone : about1.alone = true := by decide +kernel
set_option maxRecDepth 65536 in
theorem w_named : about1.methodNamed? x = some theMethod := by decide +kernel
set_option maxRecDepth 65536 in
theorem w_hears : about1.hears theMethod below0 = true := by decide +kernel
set_option maxRecDepth 65536 in
theorem w_ripe : about1.ripe theMethod args0 below0 = true := by decide +kernel
theorem w_running : about1.status = .running := rfl
set_option maxRecDepth 65536 in
theorem w_room : about1.hasRoom e0.platform room_1 = true :=
  launch0.hasRoom_least _ room_1 (by decide +kernel) (by decide +kernel) (by decide +kernel) (by decide +kernel) (by decide +kernel) (by decide +kernel)
theorem allAtoms_all (ts : List Jvm.Cond) (a : Array Jvm.Value) (st : Jvm.State) : (allAtoms ts).before a st = ts.all (fun c => c.before a st) := by
  induction ts with
  | nil => rfl
  | cons c t ih =>
    show (Jvm.Cond.and c (allAtoms t)).before a st = _
    rw [Jvm.Cond.before_and, ih, List.all_cons]
def words1 : List Jvm.Cond := Jvm.Cond.code x code maxLocals ret :: tables_1
/-- a 'code' word, met by the world's own term for the bytes: nothing is compared byte by byte -/
theorem code_word {y : MethodName} {bytes : ByteArray} {mx : Nat} {rt : Option FieldType} {a : Array Value} {s : State} {m : MethodId} {meth : Method} {c : Code} (h1 : s.methodNamed? y = some m) (h2 : s.vm.method? m = some meth) (h3 : meth.code = some c) (h4 : c.code = bytes)
    (h5 : (c.maxLocals == mx && c.exceptionTable.isEmpty && decide (c.maxStack ≤ mostOperands) && decide (meth.sig.returnType = rt) && !meth.locks && decide (parseMethodDescriptor y.desc = some meth.sig)) = true) : (Jvm.Cond.code y bytes mx rt).before a s = true := by
  simp only [Bool.and_eq_true, beq_iff_eq, Bool.not_eq_true', decide_eq_true_eq] at h5
  obtain ⟨⟨⟨⟨⟨g1, g2⟩, g3⟩, g4⟩, g5⟩, g6⟩ := h5
  simp [Cond.before, Cond.holds, Cond.value, h1, h2, h3, h4, g1, g2, g3, g4, g5, g6]
def isCode : Jvm.Cond → Bool
  | .code _ _ _ _ => true
  | _ => false
theorem all_split {L : List Jvm.Cond} {P : Jvm.Cond → Bool} (h1 : L.all (fun c => isCode c || P c) = true) (h2 : ∀ c ∈ L.filter isCode, P c = true) : L.all P = true := by
  refine List.all_eq_true.mpr fun c hc => ?_
  have h := List.all_eq_true.mp h1 c hc
  rcases Bool.eq_false_or_eq_true (isCode c) with hi | hi
  · exact h2 c (List.mem_filter.mpr ⟨hc, hi⟩)
  · simpa [hi] using h
set_option maxRecDepth 65536 in
theorem w_c0 : (Jvm.Cond.code x code maxLocals ret).before args0 about1 = true := code_word (m := ⟨1, 1⟩) (meth := k1m1) (c := k1c1) (by decide +kernel) rfl rfl rfl (by decide +kernel)
set_option maxRecDepth 65536 in
theorem w_c1 : (Jvm.Cond.code ({ cls := "java/lang/String", name := "<init>", desc := "([C)V" } : Jvm.MethodName) jdk_42_method_3_code (2 : Nat) (Option.none : Option Jvm.ClassFile.FieldType)).before args0 about1 = true := code_word (m := ⟨7, 1⟩) (meth := k7m1) (c := k7c1) (by decide +kernel) rfl rfl rfl (by decide +kernel)
set_option maxRecDepth 65536 in
theorem w_c2 : (Jvm.Cond.code ({ cls := "java/lang/String", name := "<init>", desc := "([CIILjava/lang/Void;)V" } : Jvm.MethodName) jdk_42_method_149_code (6 : Nat) (Option.none : Option Jvm.ClassFile.FieldType)).before args0 about1 = true := code_word (m := ⟨7, 3⟩) (meth := k7m3) (c := k7c3) (by decide +kernel) rfl rfl rfl (by decide +kernel)
set_option maxRecDepth 65536 in
theorem w_c3 : (Jvm.Cond.code ({ cls := "java/lang/Object", name := "<init>", desc := "()V" } : Jvm.MethodName) object_method_1_code (1 : Nat) (Option.none : Option Jvm.ClassFile.FieldType)).before args0 about1 = true := code_word (m := ⟨0, 0⟩) (meth := k0m0) (c := k0c0) (by decide +kernel) rfl rfl rfl (by decide +kernel)
set_option maxRecDepth 65536 in
theorem w_c4 : (Jvm.Cond.code ({ cls := "java/lang/StringUTF16", name := "compress", desc := "([CII)[B" } : Jvm.MethodName) jdk_52_method_16_code (6 : Nat) (Option.some (Jvm.ClassFile.FieldType.array Jvm.ClassFile.FieldType.byte))).before args0 about1 = true := code_word (m := ⟨8, 7⟩) (meth := k8m7) (c := k8c7) (by decide +kernel) rfl rfl rfl (by decide +kernel)
set_option maxRecDepth 65536 in
theorem w_c5 : (Jvm.Cond.code ({ cls := "java/lang/StringUTF16", name := "compress", desc := "([CI[BII)I" } : Jvm.MethodName) jdk_52_method_21_code (7 : Nat) (Option.some Jvm.ClassFile.FieldType.int)).before args0 about1 = true := code_word (m := ⟨8, 8⟩) (meth := k8m8) (c := k8c8) (by decide +kernel) rfl rfl rfl (by decide +kernel)
set_option maxRecDepth 65536 in
theorem w_c6 : (Jvm.Cond.code ({ cls := "java/lang/StringUTF16", name := "coderFromArrayLen", desc := "([BI)B" } : Jvm.MethodName) jdk_52_method_15_code (2 : Nat) (Option.some Jvm.ClassFile.FieldType.byte)).before args0 about1 = true := code_word (m := ⟨8, 6⟩) (meth := k8m6) (c := k8c6) (by decide +kernel) rfl rfl rfl (by decide +kernel)
set_option maxRecDepth 65536 in
theorem w_c7 : (Jvm.Cond.code ({ cls := "com/example/lehti/lehti/model/Variable", name := "<init>", desc := "(Ljava/lang/String;)V" } : Jvm.MethodName) prog_42_method_1_code (2 : Nat) (Option.none : Option Jvm.ClassFile.FieldType)).before args0 about1 = true := code_word (m := ⟨10, 0⟩) (meth := k10m0) (c := k10c0) (by decide +kernel) rfl rfl rfl (by decide +kernel)
set_option maxRecDepth 65536 in
theorem w_c8 : (Jvm.Cond.code ({ cls := "java/lang/Record", name := "<init>", desc := "()V" } : Jvm.MethodName) jdk_30_method_1_code (1 : Nat) (Option.none : Option Jvm.ClassFile.FieldType)).before args0 about1 = true := code_word (m := ⟨9, 0⟩) (meth := k9m0) (c := k9c0) (by decide +kernel) rfl rfl rfl (by decide +kernel)
set_option maxRecDepth 65536 in
theorem w_c9 : (Jvm.Cond.code ({ cls := "com/example/lehti/lehti/model/Equality", name := "<init>", desc := "(Lcom/example/lehti/lehti/model/Variable;Lcom/example/lehti/lehti/model/Variable;)V" } : Jvm.MethodName) prog_26_method_1_code (3 : Nat) (Option.none : Option Jvm.ClassFile.FieldType)).before args0 about1 = true := code_word (m := ⟨12, 0⟩) (meth := k12m0) (c := k12c0) (by decide +kernel) rfl rfl rfl (by decide +kernel)
set_option maxRecDepth 65536 in
theorem w_c10 : (Jvm.Cond.code ({ cls := "com/example/lehti/lehti/model/Equality", name := "variables", desc := "()Ljava/util/List;" } : Jvm.MethodName) prog_26_method_2_code (1 : Nat) (Option.some (Jvm.ClassFile.FieldType.object "java/util/List"))).before args0 about1 = true := code_word (m := ⟨12, 1⟩) (meth := k12m1) (c := k12c1) (by decide +kernel) rfl rfl rfl (by decide +kernel)
set_option maxRecDepth 65536 in
theorem w_c11 : (Jvm.Cond.code ({ cls := "java/util/List", name := "of", desc := "(Ljava/lang/Object;Ljava/lang/Object;)Ljava/util/List;" } : Jvm.MethodName) jdk_40_method_38_code (2 : Nat) (Option.some (Jvm.ClassFile.FieldType.object "java/util/List"))).before args0 about1 = true := code_word (m := ⟨16, 2⟩) (meth := k16m2) (c := k16c2) (by decide +kernel) rfl rfl rfl (by decide +kernel)
set_option maxRecDepth 65536 in
theorem w_c12 : (Jvm.Cond.code ({ cls := "java/util/ImmutableCollections$List12", name := "<init>", desc := "(Ljava/lang/Object;Ljava/lang/Object;)V" } : Jvm.MethodName) jdk_44_method_2_code (3 : Nat) (Option.none : Option Jvm.ClassFile.FieldType)).before args0 about1 = true := code_word (m := ⟨21, 0⟩) (meth := k21m0) (c := k21c0) (by decide +kernel) rfl rfl rfl (by decide +kernel)
set_option maxRecDepth 65536 in
theorem w_c13 : (Jvm.Cond.code ({ cls := "java/util/ImmutableCollections$AbstractImmutableList", name := "<init>", desc := "()V" } : Jvm.MethodName) jdk_46_method_1_code (1 : Nat) (Option.none : Option Jvm.ClassFile.FieldType)).before args0 about1 = true := code_word (m := ⟨20, 0⟩) (meth := k20m0) (c := k20c0) (by decide +kernel) rfl rfl rfl (by decide +kernel)
set_option maxRecDepth 65536 in
theorem w_c14 : (Jvm.Cond.code ({ cls := "java/util/ImmutableCollections$AbstractImmutableCollection", name := "<init>", desc := "()V" } : Jvm.MethodName) jdk_47_method_1_code (1 : Nat) (Option.none : Option Jvm.ClassFile.FieldType)).before args0 about1 = true := code_word (m := ⟨18, 0⟩) (meth := k18m0) (c := k18c0) (by decide +kernel) rfl rfl rfl (by decide +kernel)
set_option maxRecDepth 65536 in
theorem w_c15 : (Jvm.Cond.code ({ cls := "java/util/AbstractCollection", name := "<init>", desc := "()V" } : Jvm.MethodName) jdk_22_method_1_code (1 : Nat) (Option.none : Option Jvm.ClassFile.FieldType)).before args0 about1 = true := code_word (m := ⟨17, 0⟩) (meth := k17m0) (c := k17c0) (by decide +kernel) rfl rfl rfl (by decide +kernel)
set_option maxRecDepth 65536 in
theorem w_c16 : (Jvm.Cond.code ({ cls := "java/util/Objects", name := "requireNonNull", desc := "(Ljava/lang/Object;)Ljava/lang/Object;" } : Jvm.MethodName) jdk_31_method_10_code (1 : Nat) (Option.some (Jvm.ClassFile.FieldType.object "java/lang/Object"))).before args0 about1 = true := code_word (m := ⟨22, 1⟩) (meth := k22m1) (c := k22c1) (by decide +kernel) rfl rfl rfl (by decide +kernel)
set_option maxRecDepth 65536 in
theorem w_c17 : (Jvm.Cond.code ({ cls := "java/util/ImmutableCollections$List12", name := "size", desc := "()I" } : Jvm.MethodName) jdk_44_method_3_code (1 : Nat) (Option.some Jvm.ClassFile.FieldType.int)).before args0 about1 = true := code_word (m := ⟨21, 1⟩) (meth := k21m1) (c := k21c1) (by decide +kernel) rfl rfl rfl (by decide +kernel)
set_option maxRecDepth 65536 in
theorem w_c18 : (Jvm.Cond.code ({ cls := "java/util/ImmutableCollections$List12", name := "get", desc := "(I)Ljava/lang/Object;" } : Jvm.MethodName) jdk_44_method_5_code (2 : Nat) (Option.some (Jvm.ClassFile.FieldType.object "java/lang/Object"))).before args0 about1 = true := code_word (m := ⟨21, 2⟩) (meth := k21m2) (c := k21c2) (by decide +kernel) rfl rfl rfl (by decide +kernel)
set_option maxRecDepth 65536 in
theorem w_c19 : (Jvm.Cond.code ({ cls := "com/example/lehti/lehti/model/Variable", name := "name", desc := "()Ljava/lang/String;" } : Jvm.MethodName) prog_42_method_5_code (1 : Nat) (Option.some (Jvm.ClassFile.FieldType.object "java/lang/String"))).before args0 about1 = true := code_word (m := ⟨10, 1⟩) (meth := k10m1) (c := k10c1) (by decide +kernel) rfl rfl rfl (by decide +kernel)
set_option maxRecDepth 65536 in
theorem w_c20 : (Jvm.Cond.code ({ cls := "java/lang/String", name := "equals", desc := "(Ljava/lang/Object;)Z" } : Jvm.MethodName) jdk_42_method_66_code (3 : Nat) (Option.some Jvm.ClassFile.FieldType.boolean)).before args0 about1 = true := code_word (m := ⟨7, 2⟩) (meth := k7m2) (c := k7c2) (by decide +kernel) rfl rfl rfl (by decide +kernel)
set_option maxRecDepth 65536 in
theorem w_c21 : (Jvm.Cond.code ({ cls := "java/lang/StringUTF16", name := "toBytes", desc := "([CII)[B" } : Jvm.MethodName) jdk_52_method_14_code (5 : Nat) (Option.some (Jvm.ClassFile.FieldType.array Jvm.ClassFile.FieldType.byte))).before args0 about1 = true := code_word (m := ⟨8, 5⟩) (meth := k8m5) (c := k8c5) (by decide +kernel) rfl rfl rfl (by decide +kernel)
set_option maxRecDepth 65536 in
theorem w_c22 : (Jvm.Cond.code ({ cls := "java/lang/StringUTF16", name := "newBytesFor", desc := "(I)[B" } : Jvm.MethodName) jdk_52_method_2_code (1 : Nat) (Option.some (Jvm.ClassFile.FieldType.array Jvm.ClassFile.FieldType.byte))).before args0 about1 = true := code_word (m := ⟨8, 1⟩) (meth := k8m1) (c := k8c1) (by decide +kernel) rfl rfl rfl (by decide +kernel)
set_option maxRecDepth 65536 in
theorem w_c23 : (Jvm.Cond.code ({ cls := "java/lang/StringUTF16", name := "newBytesLength", desc := "(I)I" } : Jvm.MethodName) jdk_52_method_3_code (1 : Nat) (Option.some Jvm.ClassFile.FieldType.int)).before args0 about1 = true := code_word (m := ⟨8, 2⟩) (meth := k8m2) (c := k8c2) (by decide +kernel) rfl rfl rfl (by decide +kernel)
set_option maxRecDepth 65536 in
theorem w_c24 : (Jvm.Cond.code ({ cls := "java/lang/StringUTF16", name := "putChar", desc := "([BII)V" } : Jvm.MethodName) jdk_52_method_4_code (3 : Nat) (Option.none : Option Jvm.ClassFile.FieldType)).before args0 about1 = true := code_word (m := ⟨8, 3⟩) (meth := k8m3) (c := k8c3) (by decide +kernel) rfl rfl rfl (by decide +kernel)
set_option maxRecDepth 65536 in
theorem w_c25 : (Jvm.Cond.code ({ cls := "java/lang/StringUTF16", name := "getChar", desc := "([BI)C" } : Jvm.MethodName) jdk_52_method_5_code (2 : Nat) (Option.some Jvm.ClassFile.FieldType.char)).before args0 about1 = true := code_word (m := ⟨8, 4⟩) (meth := k8m4) (c := k8c4) (by decide +kernel) rfl rfl rfl (by decide +kernel)
def codes1 : List Jvm.Cond := [Jvm.Cond.code x code maxLocals ret, Jvm.Cond.code ({ cls := "java/lang/String", name := "<init>", desc := "([C)V" } : Jvm.MethodName) jdk_42_method_3_code (2 : Nat) (Option.none : Option Jvm.ClassFile.FieldType), Jvm.Cond.code ({ cls := "java/lang/String", name := "<init>", desc := "([CIILjava/lang/Void;)V" } : Jvm.MethodName) jdk_42_method_149_code (6 : Nat) (Option.none : Option Jvm.ClassFile.FieldType), Jvm.Cond.code ({ cls := "java/lang/Object", name := "<init>", desc := "()V" } : Jvm.MethodName) object_method_1_code (1 : Nat) (Option.none : Option Jvm.ClassFile.FieldType), Jvm.Cond.code ({ cls := "java/lang/StringUTF16", name := "compress", desc := "([CII)[B" } : Jvm.MethodName) jdk_52_method_16_code (6 : Nat) (Option.some (Jvm.ClassFile.FieldType.array Jvm.ClassFile.FieldType.byte)), Jvm.Cond.code ({ cls := "java/lang/StringUTF16", name := "compress", desc := "([CI[BII)I" } : Jvm.MethodName) jdk_52_method_21_code (7 : Nat) (Option.some Jvm.ClassFile.FieldType.int), Jvm.Cond.code ({ cls := "java/lang/StringUTF16", name := "coderFromArrayLen", desc := "([BI)B" } : Jvm.MethodName) jdk_52_method_15_code (2 : Nat) (Option.some Jvm.ClassFile.FieldType.byte), Jvm.Cond.code ({ cls := "com/example/lehti/lehti/model/Variable", name := "<init>", desc := "(Ljava/lang/String;)V" } : Jvm.MethodName) prog_42_method_1_code (2 : Nat) (Option.none : Option Jvm.ClassFile.FieldType), Jvm.Cond.code ({ cls := "java/lang/Record", name := "<init>", desc := "()V" } : Jvm.MethodName) jdk_30_method_1_code (1 : Nat) (Option.none : Option Jvm.ClassFile.FieldType), Jvm.Cond.code ({ cls := "com/example/lehti/lehti/model/Equality", name := "<init>", desc := "(Lcom/example/lehti/lehti/model/Variable;Lcom/example/lehti/lehti/model/Variable;)V" } : Jvm.MethodName) prog_26_method_1_code (3 : Nat) (Option.none : Option Jvm.ClassFile.FieldType), Jvm.Cond.code ({ cls := "com/example/lehti/lehti/model/Equality", name := "variables", desc := "()Ljava/util/List;" } : Jvm.MethodName) prog_26_method_2_code (1 : Nat) (Option.some (Jvm.ClassFile.FieldType.object "java/util/List")), Jvm.Cond.code ({ cls := "java/util/List", name := "of", desc := "(Ljava/lang/Object;Ljava/lang/Object;)Ljava/util/List;" } : Jvm.MethodName) jdk_40_method_38_code (2 : Nat) (Option.some (Jvm.ClassFile.FieldType.object "java/util/List")), Jvm.Cond.code ({ cls := "java/util/ImmutableCollections$List12", name := "<init>", desc := "(Ljava/lang/Object;Ljava/lang/Object;)V" } : Jvm.MethodName) jdk_44_method_2_code (3 : Nat) (Option.none : Option Jvm.ClassFile.FieldType), Jvm.Cond.code ({ cls := "java/util/ImmutableCollections$AbstractImmutableList", name := "<init>", desc := "()V" } : Jvm.MethodName) jdk_46_method_1_code (1 : Nat) (Option.none : Option Jvm.ClassFile.FieldType), Jvm.Cond.code ({ cls := "java/util/ImmutableCollections$AbstractImmutableCollection", name := "<init>", desc := "()V" } : Jvm.MethodName) jdk_47_method_1_code (1 : Nat) (Option.none : Option Jvm.ClassFile.FieldType), Jvm.Cond.code ({ cls := "java/util/AbstractCollection", name := "<init>", desc := "()V" } : Jvm.MethodName) jdk_22_method_1_code (1 : Nat) (Option.none : Option Jvm.ClassFile.FieldType), Jvm.Cond.code ({ cls := "java/util/Objects", name := "requireNonNull", desc := "(Ljava/lang/Object;)Ljava/lang/Object;" } : Jvm.MethodName) jdk_31_method_10_code (1 : Nat) (Option.some (Jvm.ClassFile.FieldType.object "java/lang/Object")), Jvm.Cond.code ({ cls := "java/util/ImmutableCollections$List12", name := "size", desc := "()I" } : Jvm.MethodName) jdk_44_method_3_code (1 : Nat) (Option.some Jvm.ClassFile.FieldType.int), Jvm.Cond.code ({ cls := "java/util/ImmutableCollections$List12", name := "get", desc := "(I)Ljava/lang/Object;" } : Jvm.MethodName) jdk_44_method_5_code (2 : Nat) (Option.some (Jvm.ClassFile.FieldType.object "java/lang/Object")), Jvm.Cond.code ({ cls := "com/example/lehti/lehti/model/Variable", name := "name", desc := "()Ljava/lang/String;" } : Jvm.MethodName) prog_42_method_5_code (1 : Nat) (Option.some (Jvm.ClassFile.FieldType.object "java/lang/String")), Jvm.Cond.code ({ cls := "java/lang/String", name := "equals", desc := "(Ljava/lang/Object;)Z" } : Jvm.MethodName) jdk_42_method_66_code (3 : Nat) (Option.some Jvm.ClassFile.FieldType.boolean), Jvm.Cond.code ({ cls := "java/lang/StringUTF16", name := "toBytes", desc := "([CII)[B" } : Jvm.MethodName) jdk_52_method_14_code (5 : Nat) (Option.some (Jvm.ClassFile.FieldType.array Jvm.ClassFile.FieldType.byte)), Jvm.Cond.code ({ cls := "java/lang/StringUTF16", name := "newBytesFor", desc := "(I)[B" } : Jvm.MethodName) jdk_52_method_2_code (1 : Nat) (Option.some (Jvm.ClassFile.FieldType.array Jvm.ClassFile.FieldType.byte)), Jvm.Cond.code ({ cls := "java/lang/StringUTF16", name := "newBytesLength", desc := "(I)I" } : Jvm.MethodName) jdk_52_method_3_code (1 : Nat) (Option.some Jvm.ClassFile.FieldType.int), Jvm.Cond.code ({ cls := "java/lang/StringUTF16", name := "putChar", desc := "([BII)V" } : Jvm.MethodName) jdk_52_method_4_code (3 : Nat) (Option.none : Option Jvm.ClassFile.FieldType), Jvm.Cond.code ({ cls := "java/lang/StringUTF16", name := "getChar", desc := "([BI)C" } : Jvm.MethodName) jdk_52_method_5_code (2 : Nat) (Option.some Jvm.ClassFile.FieldType.char)]
set_option maxRecDepth 65536 in
theorem codes_eq : words1.filter isCode = codes1 := rfl
theorem w_codes : ∀ c ∈ words1.filter isCode, c.before args0 about1 = true := by
  rw [codes_eq]
  intro c hc
  simp only [codes1, List.mem_cons, List.not_mem_nil, or_false] at hc
  rcases hc with rfl | rfl | rfl | rfl | rfl | rfl | rfl | rfl | rfl | rfl | rfl | rfl | rfl | rfl | rfl | rfl | rfl | rfl | rfl | rfl | rfl | rfl | rfl | rfl | rfl | rfl
  · exact w_c0
  · exact w_c1
  · exact w_c2
  · exact w_c3
  · exact w_c4
  · exact w_c5
  · exact w_c6
  · exact w_c7
  · exact w_c8
  · exact w_c9
  · exact w_c10
  · exact w_c11
  · exact w_c12
  · exact w_c13
  · exact w_c14
  · exact w_c15
  · exact w_c16
  · exact w_c17
  · exact w_c18
  · exact w_c19
  · exact w_c20
  · exact w_c21
  · exact w_c22
  · exact w_c23
  · exact w_c24
  · exact w_c25
set_option maxRecDepth 65536 in
theorem w_t1 : (words1.take 24).all (fun c => isCode c || c.before args0 about1) = true := by decide +kernel
set_option maxRecDepth 65536 in
theorem w_t2 : ((words1.drop 24).take 24).all (fun c => isCode c || c.before args0 about1) = true := by decide +kernel
set_option maxRecDepth 65536 in
theorem w_t3 : (((words1.drop 24).drop 24).take 24).all (fun c => isCode c || c.before args0 about1) = true := by decide +kernel
set_option maxRecDepth 65536 in
theorem w_t4 : ((((words1.drop 24).drop 24).drop 24).take 24).all (fun c => isCode c || c.before args0 about1) = true := by decide +kernel
set_option maxRecDepth 65536 in
theorem w_t5 : (((((words1.drop 24).drop 24).drop 24).drop 24).take 24).all (fun c => isCode c || c.before args0 about1) = true := by decide +kernel
set_option maxRecDepth 65536 in
theorem w_t6 : ((((((words1.drop 24).drop 24).drop 24).drop 24).drop 24).take 24).all (fun c => isCode c || c.before args0 about1) = true := by decide +kernel
set_option maxRecDepth 65536 in
theorem w_t7 : ((((((words1.drop 24).drop 24).drop 24).drop 24).drop 24).drop 24).all (fun c => isCode c || c.before args0 about1) = true := by decide +kernel
theorem w_tables : (allAtoms (Jvm.Cond.code x code maxLocals ret :: tables_1)).before args0 about1 = true := by
  rw [allAtoms_all]
  show words1.all (fun c => c.before args0 about1) = true
  refine all_split ?_ w_codes
  rw [← List.take_append_drop 24 words1, List.all_append, w_t1, ← List.take_append_drop 24 (words1.drop 24), List.all_append, w_t2, ← List.take_append_drop 24 ((words1.drop 24).drop 24), List.all_append, w_t3, ← List.take_append_drop 24 (((words1.drop 24).drop 24).drop 24), List.all_append, w_t4, ← List.take_append_drop 24 ((((words1.drop 24).drop 24).drop 24).drop 24), List.all_append, w_t5, ← List.take_append_drop 24 (((((words1.drop 24).drop 24).drop 24).drop 24).drop 24), List.all_append, w_t6, w_t7]
  rfl
set_option maxRecDepth 65536 in
theorem w_rest : rest_1_c.before args0 about1 = true := by decide +kernel
set_option maxRecDepth 65536 in
theorem w_case : (Jvm.Cond.and given_1 narrow_1).before args0 about1 = true := by decide +kernel
theorem w_applies : (headSpec (Jvm.Cond.code x code maxLocals ret :: tables_1) room_1).applies x e0.platform about1 = true :=
  (Spec.applies_iff w_frames).mpr ⟨w_running, w_runnable, w_alone, w_named, w_hears, w_ripe, w_room, w_tables⟩
theorem atStart : AtStart classFile x code maxLocals ret World_1 tables_1 room_1 Calls_1 rest_1 Pre_1 launch0 p0 e0 about1 theMethod args0 below0 :=
  ⟨lists_1, trivial, launch0.admits_env _ _ _, launch0.least_env, fairChoices_fair.cas, fairChoices_fair.clock, w_frames, w_args, w_heap, w_applies, trivial, w_rest, w_case⟩
end start1
theorem witness_1 : WitnessClaimed_1 := ⟨start1.p0, start1.e0, start1.about1, start1.theMethod, start1.args0, start1.below0, start1.atStart⟩
end Jvm.Pilot.@@N@@
